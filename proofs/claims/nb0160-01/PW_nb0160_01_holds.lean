import PyProof.Rows.All
import Wide.All
import KE.KIntText
import KE.KCallOwn
import PyProof.StrLawsLast
import PyProof.StrLawsFrom
import PyProof.Rows.StrWeight2
import KE.LcTurns
import PyProof.StationsW
import KE.KUnpack
import PyProof.ListOps
import PyProof.ForAny
import PyProof.Cells
import PyProof.RulesTry
import PyProof.ListNew
import PyProof.ZipIter
import KE.KItemsList
import PyProof.SetNew
import PyProof.SetRoads
import PyProof.IsiH_set
import PyProof.Rows.SetFrom
import PyProof.ExcBaseAll.ValueError
import PyProof.ExcStrCall
import KE.KNest
import PyProof.RulesAs
import PyProof.NsDelKeeps
import PyProof.Rows.CatchOwn
import OpenK.AllK
import PyProof.StrLawsTight
import Open.Boot
import Open.Line
import PySem.Challenge.RW_nb0160_01
set_option Elab.async false
set_option autoImplicit true
set_option linter.all false
set_option maxRecDepth 100000
set_option tactic.hygienic false
set_option bootstrap.genMatcherCode false
set_option genSizeOf false
set_option genInjectivity false
open Array renaming length_toList → aS, getElem?_eq_getElem → bC, getElem?_modify → dB, toList_append → eG, getElem?_eq_none → eK, forIn_toList → fE, getD_eq_getD_getElem? → fG, getElem?_eq_some_iff → fN, ext_getElem? → gB, mk → gR, toList_push → iA, all_toList → iJ, isEmpty → jR
open Bool renaming false_ne_true → bF, and_eq_true → cG, and_eq_true_iff → cO, not_eq_true' → dZ, false_eq_true → eP, or_eq_true_iff → gT, eq_iff_iff → gW, false_and → jF, true_and → jQ, or_true → kJ
open Eq renaming trans → hH
open Int renaming fmod → bG, toNat_natCast → cU, natCast_nonneg → dF, fdiv → dY, eq_ofNat_of_zero_le → hV, not_lt → jZ, ofNat_le → kB
open List renaming mem_singleton → aK, length_map → aM, map_cons → aN, mem_cons → aO, length_append → aV, filter_cons_of_pos → aX, getElem?_eq_getElem → aY, length_cons → bA, filter_cons_of_neg → bD, mem_map → bH, getElem?_eq_some_iff → bL, append_nil → bN, all_eq_true → bQ, map_append → bR, length_filter_le → bS, lookup_cons → bT, nodup_cons → bV, range → bW, map_map → bX, size_toArray → bY, append_assoc → bZ, mem_append → cB, filter_append → cD, mem_filter → cF, length → cJ, take_of_length_le → cK, isEmpty_iff → cM, getD_eq_getElem?_getD → cW, range' → cY, drop_eq_getElem_cons → cZ, mem_append_left → dI, map_nil → dK, getElem?_map → dN, mem_append_right → dU, intercalate → dV, not_mem_nil → dW, count_append → eE, isPrefixOf_iff_prefix → eL, replicate → eO, getElem?_eq_none → eR, forIn_cons → eT, nil_append → eV, length_eq_zero_iff → eZ, contains_iff_mem → fJ, length_range → fP, findIdx?_eq_some_iff_getElem → fX, length_pos_iff → fZ, length_eq_one_iff → gE, forIn_nil → gH, mem_range → gI, drop_left → gJ, findIdx?_eq_none_iff → gV, getElem?_take_of_lt → hK, zip_cons_cons → hO, nodup_append → hW, mem_range'_1 → hX, take_append_drop → iP, getElem?_toArray → iQ, mem_of_getElem? → iR, find?_cons → iU, mem_cons_of_mem → iX, map_congr_left → jA, getElem_of_mem → jD, take_left → jI, mem_filterMap → jK, getElem?_drop → jL, findIdx?_cons → jM, map_singleton → jO, getElem?_set → jT, filter_congr → jV, flatMap_cons → jX, map_inj_left → jY, zipWith → kI
open Nat renaming lt_of_le_of_lt → aA, le_of_lt_succ → aE, le_trans → aG, add_le_add_right → aJ, le_add_right → aP, lt_of_lt_of_le → aT, add_le_add → aU, le_of_lt → aZ, le_refl → bB, add_le_add_left → bI, mul_le_mul_left → bM, le_of_eq → bO, ne_of_lt → bU, add_right_comm → cC, le_of_add_right_le → cL, zero_le → cS, lt_succ_of_le → cV, le_antisymm → dC, le_of_not_lt → dJ, le_of_add_left_le → eS, lt_of_succ_lt_succ → fC, le_of_succ_le → fQ, lt_succ_self → fY, zero_add → gG, min_eq_left → gU, le_add_left → gY, succ_le_succ → iG, le_of_sub_eq_zero → iK, min_le_left → iS, ne_of_gt → iY, add_sub_cancel' → jC, lt_irrefl → jP, lt_trichotomy → jU, lt_succ_of_lt → jW
open Option renaming map_eq_some_iff → aR, none → cR, bind_eq_some_iff → dH, isSome_iff_exists → eU, isNone_iff_eq_none → fW, map → gM, map_some → iV, ite_none_right_eq_some → iZ, bind_some → kH
open Option.some renaming inj → aL
open Prod.mk renaming injEq → jS
open PyProof.Rows renaming subscriptTail → fK, tail_of_ItemOn → jE
open PySem renaming wpAny_bind → aB, wpAny_pure → aF, wpAny → aH, wpAny_holding → aQ, builtinLookup_eq_fast → aW, wpAny_ite_false → bE, typeLookup_type → bJ, isSubtype_type → bK, wpAny_standAt → cA, wpAny_field → cE, wpAny_call_entry → cH, wpAny_callSpecial?_slot → cN, DictEntry → cQ, wpAny_ite_true → cT, typeIs_str → cX, wpAny_Call_Name_kw → dG, wpAny_newObj_type → dM, wpAny_Name → dR, wpAny_mono → dS, codeAny_builtin → dT, Slot → dX, isSubtype → eF, mainGlobals → eH, sizeLine_eq → eJ, entryFor_of_tree → eM, wpAny_isInstance → eN, fromIndex → eQ, wpAny_setEpoch_of → eW, compareOp → eX, mem_of_lookup → eY, wpAny_seqItems → fA, builtinsNs → fB, treeTable → fF, wpAny_updateSeq → fH, plainId_quiet → fM, wpAny_attempt → fO, wpAny_rule → fR, codeAny_call_builtin → fU, signature?_of → gA, wpAny_of_eq → gC, wpAny_nextOf_list_item → gD, storeName → gK, cameBackBy → gN, typeLookup → gO, wpAny_askSetting → gQ, codeAny → gS, wpAny_execs_nil → gX, leftWithCleanup → gZ, slot_listiter_next → hM, wpAny_call → hU, wpAny_pyIter_list → hY, wpAny_assign_Name → iB, keywordEach → iC, Builtin → iE, Comprehension → iF, wpAny_execs_cons → iH, checkBuiltinCall → iI, scanBound → iL, wpAny_storeName_local → iM, cellsFrom → iN, wpAny_nextOf_list_end → iO, callWith_function_kw → iT, assignEach → iW, list_getitem_lookup → jB, wpAny_loadPart → jG, isSubtype_stop → jH, Gives → jJ, Arguments → jN
open PySem.F renaming slot_str_getitem → hG, slot_list_iadd → iD
namespace Mine.Internal
open PySem PyProof.Rows
section
variable{α β γ δ:Type}{P:Prop}
theorem eo{p:α→Prop}(h:∃a,p a)(k:∀a,p a→P):P:=h.elim k
theorem aq{p q:α→Prop}(h:∃a,p a∧q a)(k:∀a,p a→q a→P):P:=h.elim fun a h=>k a h.1 h.2
theorem q9{p q r:α→Prop}(h:∃a,p a∧q a∧r a)(k:∀a,p a→q a→r a→P):P:=h.elim fun a h=>k a h.1 h.2.1 h.2.2
theorem S6{p q r s:α→Prop}(h:∃a,p a∧q a∧r a∧s a)(k:∀a,p a→q a→r a→s a→P):P:=h.elim fun a h=>k a h.1 h.2.1 h.2.2.1 h.2.2.2
theorem kK{p:α→β→Prop}(h:∃a b,p a b)(k:∀a b,p a b→P):P:=h.elim fun a h=>h.elim (k a)
theorem iw{p q:α→β→Prop}(h:∃a b,p a b∧q a b)(k:∀a b,p a b→q a b→P):P:=kK h fun a b h=>k a b h.1 h.2
theorem sz{p q r:α→β→Prop}(h:∃a b,p a b∧q a b∧r a b)(k:∀a b,p a b→q a b→r a b→P):P:=kK h fun a b h=>k a b h.1 h.2.1 h.2.2
theorem Z7{p q r s:α→β→Prop}(h:∃a b,p a b∧q a b∧r a b∧s a b)(k:∀a b,p a b→q a b→r a b→s a b→P):P:=kK h fun a b h=>k a b h.1 h.2.1 h.2.2.1 h.2.2.2
theorem Gj{p:α→β→γ→Prop}(h:∃a b c,p a b c)(k:∀a b c,p a b c→P):P:=kK h fun a b h=>h.elim (k a b)
theorem yk{p q:α→β→γ→Prop}(h:∃a b c,p a b c∧q a b c)(k:∀a b c,p a b c→q a b c→P):P:=Gj h fun a b c h=>k a b c h.1 h.2
theorem Z8{p q r:α→β→γ→Prop}(h:∃a b c,p a b c∧q a b c∧r a b c)(k:∀a b c,p a b c→q a b c→r a b c→P):P:=Gj h fun a b c h=>k a b c h.1 h.2.1 h.2.2
theorem Z9{p q r s:α→β→γ→Prop}(h:∃a b c,p a b c∧q a b c∧r a b c∧s a b c)(k:∀a b c,p a b c→q a b c→r a b c→s a b c→P):P:=Gj h fun a b c h=>k a b c h.1 h.2.1 h.2.2.1 h.2.2.2
theorem Sr{p:α→β→γ→δ→Prop}(h:∃a b c d,p a b c d)(k:∀a b c d,p a b c d→P):P:=Gj h fun a b c h=>h.elim (k a b c)
theorem Za{p q:α→β→γ→δ→Prop}(h:∃a b c d,p a b c d∧q a b c d)(k:∀a b c d,p a b c d→q a b c d→P):P:=Sr h fun a b c d h=>k a b c d h.1 h.2
theorem Zb{p q r:α→β→γ→δ→Prop}(h:∃a b c d,p a b c d∧q a b c d∧r a b c d)(k:∀a b c d,p a b c d→q a b c d→r a b c d→P):P:=Sr h fun a b c d h=>k a b c d h.1 h.2.1 h.2.2
theorem ka(h:p∧q)(k:p→q→P):P:=k h.1 h.2
theorem AP(h:p∧q∧r)(k:p→q→r→P):P:=k h.1 h.2.1 h.2.2
theorem Zc(h:p∧q∧r∧s)(k:p→q→r→s→P):P:=k h.1 h.2.1 h.2.2.1 h.2.2.2
end
theorem vM(h:n-j=k+1):n-(j+1)=k:=congrArg Nat.pred h
theorem C4(h:n-j=k+1):j<n:=Nat.lt_of_sub_pos (h▸Nat.succ_pos k)
theorem Iv(h:n-j=0)(l:j≤n):j=n:=dC l (iK h)
theorem vN{α:Type}{P:Prop}{o:Option α}{a:α}(h:o=none)(h':o=some a):P:=by rw[h] at h';cases h'
set_option genInjectivity true in
set_option genCtorIdx false in
inductive D where
 |none
 |bool (b:Bool)
 |int (i:Int)
 |str (s:List Nat)
 |list (l:List D)
 |tup (l:List D)
 |kh (l:List Nat)
 |inst (fs:List (Str×D))
noncomputable abbrev D.ctorIdx(x:D):Nat:=D.casesOn (motive_1:=fun _=>Nat) x 0 (fun _=>1) (fun _=>2) (fun _=>3) (fun _=>4) (fun _=>5) (fun _=>6) (fun _=>7)
structure FO where
 cls:Value
 dict:Option Addr
 data:Data
 nf:∀vs,data≠.fields vs
noncomputable abbrev Fz:=Addr→Option FO
noncomputable def FO.listOf(vs:Array Value)(n:Nat):FO:=.mk (.type "list") none (.seq vs n) (fun _ h=>Data.noConfusion h)
noncomputable def FO.oo(vs:Array Value)(n:Nat):FO:=.mk (.type "tuple") none (.seq vs n) (fun _ h=>Data.noConfusion h)
noncomputable def FO.vP(es:Array (Int×Value))(n:Nat)(t:SetTable):FO:=.mk (.type "frozenset") none (.set es n t) (fun _ h=>Data.noConfusion h)
noncomputable def FO.yl(EC dA:Addr):FO:=.mk (.ref EC) (some dA) .plain (fun _ h=>Data.noConfusion h)
noncomputable def FO.dictOf(es:Array cQ)(n:Nat):FO:=.mk (.type "dict") none (.dict es n) (fun _ h=>Data.noConfusion h)
noncomputable def vQ(es:Array (Int×Value))(t:SetTable)(l:List Nat):Prop:=
 (∀e∈es.toList,∃c tk,e.2=.str ⟨#[c]⟩ tk)∧(∀c,c∈l↔∃e∈es.toList,∃tk,e.2=.str ⟨#[c]⟩ tk)∧es.size<iL∧t.fits es.size=true
variable(EC:Addr)
mutual
noncomputable def Rep(fz:Fz):D→Value→Prop
 |.none,v=>v=.none
 |.bool b,v=>v=.bool b
 |.int i,v=>∃t,v=.int i t
 |.str s,v=>∃t,v=.str ⟨s.toArray⟩ t
 |.list ds,v=>∃a vs n,v=.ref a∧fz a=some (.listOf vs n)∧a8 fz ds vs.toList
 |.tup ds,v=>∃a vs n,v=.ref a∧fz a=some (.oo vs n)∧a8 fz ds vs.toList
 |.kh l,v=>∃a es n t,v=.ref a∧fz a=some (.vP es n t)∧vQ es t l
 |.inst fs,v=>∃a dA es n,v=.ref a∧fz a=some (.yl EC dA)∧fz dA=some (.dictOf es n)∧gp fz fs es.toList
noncomputable def a8(fz:Fz):List D→List Value→Prop
 |[],vs=>vs=[]
 |d::ds,vs=>∃v r,vs=v::r∧Rep fz d v∧a8 fz ds r
noncomputable def gp(fz:Fz):List (Str×D)→List cQ→Prop
 |[],es=>es=[]
 |(x,d)::fs,es=>∃e r t,es=e::r∧e.key=.str x t∧Rep fz d e.val∧gp fz fs r
end
variable{EC}
noncomputable def Fz.le(f g:Fz):Prop:=∀b o,f b=some o→g b=some o
theorem Fz.le_refl(f:Fz):f.le f:=fun _ _ e=>e
theorem Fz.le_trans{f g k:Fz}(x:f.le g)(y:g.le k):f.le k:=fun b o e=>y b o (x b o e)
mutual
theorem Rep.mono{fz ae:Fz}(h:fz.le ae):∀(d:D) (v:Value),Rep EC fz d v→Rep EC ae d v
 |.none,_,r=>r
 |.bool b,_,r=>r
 |.int i,_,r=>r
 |.str s,_,r=>r
 |.list ds,_,r=>by
  obtain⟨a,vs,n,e,f,g⟩:=r;exact⟨a,vs,n,e,h _ _ f,a8.mono h ds _ g⟩
 |.tup ds,_,r=>by
  obtain⟨a,vs,n,e,f,g⟩:=r;exact⟨a,vs,n,e,h _ _ f,a8.mono h ds _ g⟩
 |.kh l,_,r=>by
  obtain⟨a,es,n,t,e,f,g⟩:=r;exact⟨a,es,n,t,e,h _ _ f,g⟩
 |.inst fs,_,r=>by
  obtain⟨a,dA,es,n,e,f,g,k⟩:=r;exact⟨a,dA,es,n,e,h _ _ f,h _ _ g,gp.mono h fs _ k⟩
theorem a8.mono{fz ae:Fz}(h:fz.le ae):∀(ds:List D) (vs:List Value),a8 EC fz ds vs→a8 EC ae ds vs
 |[],_,r=>r
 |d::ds,_,r=>by
  obtain⟨v,q,e,f,g⟩:=r;exact⟨v,q,e,Rep.mono h d v f,a8.mono h ds q g⟩
theorem gp.mono{fz ae:Fz}(h:fz.le ae):∀(fs:List (Str×D)) (es:List cQ),gp EC fz fs es→gp EC ae fs es
 |[],_,r=>r
 |(x,d)::fs,_,r=>by
  obtain⟨e,q,t,a,b,c,k⟩:=r;exact⟨e,q,t,a,b,Rep.mono h d _ c,gp.mono h fs q k⟩
end
noncomputable def Gk(fz:Fz)(h:Heap):Prop:=∀b f,fz b=some f→∃sl,h.get? b=some ⟨f.cls,f.dict,f.data,sl⟩
noncomputable def Kp(P:Addr)(FR:List Addr)(h h':Heap):Prop:=∀b o,h.get? b=some o→b≠P→∃sl,h'.get? b=some {o with slots:=sl}∧(b∈FR∨sl=o.slots)
theorem Kp.refl(P:Addr)(FR:List Addr)(h:Heap):Kp P FR h h:=fun _ o e _=>⟨o.slots,e,.inr rfl⟩
theorem Kp.trans(x:Kp P FR h₁ jz)(y:Kp P FR jz CL):Kp P FR h₁ CL:=fun b o e hb=>by
 obtain⟨sl,Wt,c⟩:=x b o e hb;obtain⟨pY,Wu,c'⟩:=y b _ Wt hb;refine⟨pY,Wu,?_⟩;rcases c with c|c
 ·exact .inl c
 ·rcases c' with c'|c'
  ·exact .inl c'
  ·exact .inr (c'.trans c)
theorem Kp.of_keeps{h h':Heap}(k:∀b o,h.get? b=some o→h'.get? b=some o):Kp P FR h h':=fun b o e _=>⟨o.slots,k b o e,.inr rfl⟩
theorem Kp.get{h h':Heap}(x:Kp P FR h h')(e:h.get? b=some o)(hb:b≠P)(hf:b∉FR):h'.get? b=some o:=by
 obtain⟨sl,e',c⟩:=x b o e hb;rcases c with c|c
 ·exact absurd c hf
 ·rw[c] at e';exact e'
theorem Kp.some{h h':Heap}(x:Kp P FR h h')(hb:b≠P)(e:h'.get? b=cR):h.get? b=cR:=by
 cases q:h.get? b with
 |none=>rfl
 |some o=>obtain⟨sl,e',_⟩:=x b o q hb;rw[e] at e';cases e'
theorem Kp.fz{P:Addr}{FR:List Addr}{h h':Heap}{fz:Fz}(x:Kp P FR h h')(i:Gk fz h)(hP:fz P=cR):Gk fz h':=fun b f e=>by
 obtain⟨sl,g⟩:=i b f e;obtain⟨pY,e',_⟩:=x b _ g (fun q=>by subst q;rw[hP] at e;cases e);exact⟨pY,e'⟩
theorem a8.length{ds:List D}:∀{vs:List Value},a8 EC fz ds vs→vs.length=ds.length:=by
 induction ds with
 |nil=>exact fun r=>congrArg cJ r
 |cons d ds ih=>
  intro vs r;obtain⟨v,q,rfl,f,g⟩:=r;exact congrArg Nat.succ (ih g)
theorem a8.get:∀{vs:List Value},a8 EC fz ds vs→∀(i:Nat) (d:D),ds[i]?=some d→∃v,vs[i]?=some v∧Rep EC fz d v:=by
 induction ds with
 |nil=>exact fun _ i d h=>nomatch h
 |cons d ds ih=>
  intro vs r i d' h;obtain⟨v,q,rfl,f,g⟩:=r;cases i with
  |zero=>exact aL h▸⟨v,rfl,f⟩
  |succ i=>exact ih g i d' h
theorem a8.append:∀{vs:List Value},a8 EC fz ds vs→a8 EC fz es ws→a8 EC fz (ds++es) (vs++ws):=by
 induction ds with
 |nil=>exact fun r q=>(show _=[] from r)▸q
 |cons d ds ih=>
  intro vs r q;obtain⟨v,u,rfl,f,g⟩:=r;exact⟨v,_,rfl,f,ih g q⟩
theorem a8.reverse{ds:List D}:∀{vs:List Value},a8 EC fz ds vs→a8 EC fz ds.reverse vs.reverse:=by
 induction ds with
 |nil=>exact fun r=>(show _=[] from r)▸rfl
 |cons d ds ih=>
  intro vs r;obtain⟨v,u,rfl,f,g⟩:=r;rw[List.reverse_cons,List.reverse_cons];exact a8.append (ih g) (show a8 EC fz [d] [v] from⟨v,[],rfl,f,rfl⟩)
theorem a8.drop(k:Nat):∀{ds:List D} {vs:List Value},a8 EC fz ds vs→a8 EC fz (ds.drop k) (vs.drop k):=by
 induction k with
 |zero=>exact id
 |succ k ih=>
  intro ds vs r;cases ds with
  |nil=>exact(show _=[] from r)▸rfl
  |cons d ds=>
   obtain⟨v,u,rfl,f,g⟩:=r;exact ih g
theorem a8.take(k:Nat):∀{ds:List D} {vs:List Value},a8 EC fz ds vs→a8 EC fz (ds.take k) (vs.take k):=by
 induction k with
 |zero=>exact fun _=>rfl
 |succ k ih=>
  intro ds vs r;cases ds with
  |nil=>exact(show _=[] from r)▸rfl
  |cons d ds=>
   obtain⟨v,u,rfl,f,g⟩:=r;exact⟨v,_,rfl,f,ih g⟩
mutual
noncomputable def D.toPy:D→Option PyData
 |.none=>some .none
 |.bool b=>some (.bool b)
 |.int i=>some (.int i)
 |.str s=>some (.str ⟨s.toArray⟩)
 |.list l=>(D.nI l).map .list
 |.tup l=>(D.nI l).map .tuple
 |.kh _=>cR
 |.inst _=>cR
noncomputable def D.nI:List D→Option (List PyData)
 |[]=>some []
 |d::r=>(D.toPy d).bind fun a=>(D.nI r).bind fun b=>some (a::b)
end
mutual
theorem dw(i:Gk fz h):∀(d:D) (v:Value) (p:PyData),Rep EC fz d v→d.toPy=some p→∃as,Reads h v p as
 |.none,_,_,r,e=>aL e▸(show _=Value.none from r)▸⟨_,.none⟩
 |.bool b,_,_,r,e=>aL e▸(show _=Value.bool b from r)▸⟨_,.bool b⟩
 |.int b,_,_,r,e=>by obtain⟨t,rfl⟩:=r;exact aL e▸⟨_,.int b t⟩
 |.str b,_,_,r,e=>by obtain⟨t,rfl⟩:=r;exact aL e▸⟨_,.str _ t⟩
 |.list l,_,_,r,e=>by
  obtain⟨a,vs,n,rfl,f,g⟩:=r;obtain⟨xs,e1,rfl⟩:=aR.mp e;obtain⟨sl,k⟩:=i _ _ f;obtain⟨as,q⟩:=lL i l _ xs g e1;exact⟨_,.list k rfl rfl q⟩
 |.tup l,_,_,r,e=>by
  obtain⟨a,vs,n,rfl,f,g⟩:=r;obtain⟨xs,e1,rfl⟩:=aR.mp e;obtain⟨sl,k⟩:=i _ _ f;obtain⟨as,q⟩:=lL i l _ xs g e1;exact⟨_,.tuple k rfl rfl q⟩
 |.kh l,_,_,r,e=>nomatch e
 |.inst l,_,_,r,e=>nomatch e
theorem lL(i:Gk fz h):∀(ds:List D) (vs:List Value) (ps:List PyData),a8 EC fz ds vs→D.nI ds=some ps→∃as,ReadsAll h vs ps as
 |[],_,_,r,e=>aL e▸(show _=[] from r)▸⟨_,.nil⟩
 |d::ds,_,ps,r,e=>by
  obtain⟨v,u,rfl,f,g⟩:=r;obtain⟨a,hd,e⟩:=dH.mp e;obtain⟨b,hs,e⟩:=dH.mp e;obtain⟨as,x⟩:=dw i d v a f hd;obtain⟨bs,y⟩:=lL i ds u b g hs;exact aL e▸⟨_,.cons x y⟩
end
structure Bc where
 B:Heap
 P:Addr
 c₀:Addr
 EC:Addr
 TC:Addr
 mg:Str→Option Value
 mb:Str→Option Value
 line:Int
 col:Int
 inner:Str
 rJ:Fz
 FR:List Addr
structure rK(C:Bc)(h:Heap):Prop where
 tab:∃ps,h.get? C.P=some {cls:=.none,data:=.fields ps}∧
  (ps=#[]∨∃c:Addr,ps=#[rawInt C.line,rawInt C.col,.ref c]∧h.CodeRec (.ref c) C.inner∧C.B.get? c=none)
structure HI(C:Bc)(fz:Fz)(h:Heap):Prop where
 base:∀b o,C.B.get? b=some o→b≠C.P→h.get? b=some o
 fi:Gk fz h
 M8:fz C.P=cR
 place:rK C h
structure Bc.Ok(C:Bc):Prop where
 g:C.B.Ns eH C.mg
 b:C.B.Ns fB C.mb
 lim:C.B.NoLimit
 gP:eH≠C.P
 bP:fB≠C.P
 sP:cStatics≠C.P
 Zd:∃o,C.B.get? C.P=some o
section
variable{C:Bc}{fz:Fz}{h h':Heap}
theorem HI.ns(H:HI C fz h)(n:C.B.Ns a m)(ha:a≠C.P):h.Ns a m:=
 let ⟨o,es,ep,e,r⟩:=n;⟨o,es,ep,H.base _ _ e ha,r⟩
theorem HI.g(H:HI C fz h)(K:C.Ok):h.Ns eH C.mg:=H.ns K.g K.gP
theorem HI.b(H:HI C fz h)(K:C.Ok):h.Ns fB C.mb:=H.ns K.b K.bP
theorem HI.lim(H:HI C fz h)(K:C.Ok):h.NoLimit:=let ⟨mc,n,e⟩:=K.lim;⟨mc,H.ns n K.sP,e⟩
theorem HI.keeps(H:HI C fz h)(k:∀b o,h.get? b=some o→h'.get? b=some o):HI C fz h':=by
 obtain⟨ps,e,r⟩:=H.place.tab;refine⟨fun b o x y=>k _ _ (H.base b o x y),fun b f x=>?_,H.M8,⟨ps,k _ _ e,?_⟩⟩
 ·obtain⟨sl,g⟩:=H.fi b f x
  exact⟨sl,k _ _ g⟩
 ·rcases r with r|⟨c,r1,r2,r3⟩
  ·exact .inl r
  ·exact .inr ⟨c,r1,r2.keeps k,r3⟩
theorem HI.sameBut(H:HI C fz h){o:Obj}(hs:Heap.SameBut a h h')(ha:fz a=cR)(hb:C.B.get? a=cR)(ho:h.get? a=some o)(hn:∀vs,o.data≠.fields vs)(hP:C.P≠a):HI C fz h':=by
 obtain⟨ps,e,r⟩:=H.place.tab;refine⟨fun b o x y=>(hs.2 b (fun q=>by subst q;rw[hb] at x;cases x)).trans (H.base b o x y),fun b f x=>?_,H.M8,⟨ps,(hs.2 _ hP).trans e,?_⟩⟩
 ·obtain⟨sl,g⟩:=H.fi b f x
  exact⟨sl,(hs.2 b (fun q=>by subst q;rw[ha] at x;cases x)).trans g⟩
 ·rcases r with r|⟨c,r1,r2,r3⟩
  ·exact .inl r
  ·refine .inr ⟨c,r1,?_,r3⟩
   obtain⟨c',oc,vs,t,e1,e2,e3,e4⟩:=r2;refine⟨c',oc,vs,t,e1,(hs.2 c' (fun q=>?_)).trans e2,e3,e4⟩;subst q;rw[ho] at e2;cases e2;exact hn _ e3
noncomputable def Fz.put(fz:Fz)(a:Addr)(f:FO):Fz:=fun b=>if b=a then some f else fz b
theorem Fz.dv(fz:Fz)(a:Addr)(f:FO):(fz.put a f) a=some f:=by simp[Fz.put]
theorem Fz.lM(fz:Fz)(f:FO)(h:b≠a):(fz.put a f) b=fz b:=by simp[Fz.put,h]
theorem Fz.i0{fz:Fz}(f:FO)(h:fz a=cR):fz.le (fz.put a f):=fun b o e=>by
 have:b≠a:=fun q=>by subst q;rw[h] at e;cases e
 rw[Fz.lM _ _ this];exact e
theorem HI.put (H:HI C fz h) {f:FO} (e:h.get? a=some ⟨f.cls,f.dict,f.data,sl⟩) (hP:a≠C.P) (_hf:f.cls≠.type "frame"):HI C (fz.put a f) h:=by
 refine⟨H.base,fun b g x=>?_,?_,H.place⟩
 ·by_cases q:b=a
  ·subst q;rw[Fz.dv] at x;cases x;exact⟨sl,e⟩
  ·rw[Fz.lM _ _ q] at x;exact H.fi b g x
 ·rw[Fz.lM _ _ (Ne.symm hP)];exact H.M8
theorem HI.fh(H:HI C fz h)(e:h.get? a=cR):fz a=cR:=by
 cases q:fz a with
 |none=>rfl
 |some f=>obtain⟨sl,g⟩:=H.fi a f q;rw[e] at g;cases g
theorem HI.qa(H:HI C fz h)(e:h.get? a=cR)(hP:a≠C.P):C.B.get? a=cR:=by
 cases q:C.B.get? a with
 |none=>rfl
 |some o=>have:=H.base a o q hP;rw[e] at this;cases this
theorem HI.mq(H:HI C fz h)(e:h.get? a=cR):a≠C.P:=fun q=>by
 obtain⟨ps,g,_⟩:=H.place.tab;subst q;rw[e] at g;cases g
theorem ej(h:Heap):h.get? h.objs.size=cR:=by
 cases q:h.get? h.objs.size with
 |none=>rfl
 |some o=>exact absurd (Heap.lt_size q) (jP _)
end
structure bp(C:Bc)(fz:Fz)(s:Shared)(ae:Fz)(s':Shared):Prop where
 kp:Kp C.P C.FR s.heap s'.heap
 le:fz.le ae
 new:∀b,ae b≠cR→fz b≠cR∨s.heap.get? b=cR
 hi:HI C ae s'.heap
 gens:s'.gens=s.gens
 os:s'.os=s.os
section
variable{C:Bc}{fz ae I6:Fz}{s s' pZ:Shared}
theorem bp.refl(H:HI C fz s.heap):bp C fz s fz s:=⟨.refl _ _ _,Fz.le_refl _,fun _ h=>.inl h,H,rfl,rfl⟩
theorem bp.trans(x:bp C fz s ae s')(y:bp C ae s' I6 pZ):bp C fz s I6 pZ:=by
 refine⟨x.kp.trans y.kp,Fz.le_trans x.le y.le,fun b h=>?_,y.hi,y.gens.trans x.gens,y.os.trans x.os⟩;rcases y.new b h with q|q
 ·exact x.new b q
 ·exact .inr (x.kp.some (fun e=>by
   obtain⟨ps,g,_⟩:=x.hi.place.tab;rw[←e,q] at g;cases g) q)
theorem bp.tok(H:HI C fz s.heap)(t:Nat):bp C fz s fz {s with toks:=t}:=⟨.refl _ _ _,Fz.le_refl _,fun _ h=>.inl h,H,rfl,rfl⟩
theorem bp.keeps(H:HI C fz s.heap){h':Heap}(k:∀b o,s.heap.get? b=some o→h'.get? b=some o):bp C fz s fz {s with heap:=h',toks:=t}:=
 ⟨.of_keeps k,Fz.le_refl _,fun _ h=>.inl h,H.keeps k,rfl,rfl⟩
theorem bp.oq(H:HI C fz s.heap)(o:Obj)(t:Nat):bp C fz s fz {s with heap:=s.heap.push o,toks:=t}:=.keeps H fun _ _ e=>Heap.get?_push_of_some _ e
theorem bp.push (H:HI C fz s.heap) (f:FO) (hf:f.cls≠.type "frame") (hd:(match f.data with|.freed=>false|_=>true)=true) (t:Nat):
 bp C fz s (fz.put s.heap.objs.size f) {s with heap:=s.heap.push {cls:=f.cls,dict:=f.dict,data:=f.data},toks:=t}:=by
 have n:=ej s.heap;have K:∀b o,s.heap.get? b=some o→(s.heap.push {cls:=f.cls,dict:=f.dict,data:=f.data}).get? b=some o:=fun _ _ e=>Heap.get?_push_of_some _ e;refine⟨.of_keeps K,Fz.i0 f (H.fh n),fun b h=>?_,(H.keeps K).put (sl:=#[]) (Heap.get?_push_size _ ?_) (H.mq n) hf,rfl,rfl⟩
 ·by_cases q:b=s.heap.objs.size
  ·subst q;exact .inr n
  ·rw[Fz.lM _ _ q] at h;exact .inl h
 ·obtain⟨c,d,dt⟩:=f
  cases dt<;>first|rfl|simp at hd
end
variable(prog:Program)(w:World)
noncomputable def Gives(C:Bc)(A:Around)(t:Sem Value)(fz:Fz)(s:Shared)(d:D):Prop:=
 ∀(Q:Value→Shared→Prop) (E:Value→Shared→Prop),(∀v s' ae,bp C fz s ae s'→Rep C.EC ae d v→Q v s')→aH (model prog w) A t Q E s
variable{prog w}
section
variable{C:Bc}{A:Around}{fz:Fz}{s:Shared}
theorem Gives.newList{vs:List Value}(H:HI C fz s.heap)(r:a8 C.EC fz ds vs)(gw:vs.length≤sizeLine):Gives prog w C A (newList vs) fz s (.list ds):=fun Q E h=>by
 refine dM (h _ _ _ (bp.push H (.listOf vs.toArray 0) (by simp[FO.listOf]) rfl s.toks) ?_) (by show vs.toArray.size≤sizeLine;rw[bY];exact gw);exact⟨_,vs.toArray,0,rfl,Fz.dv _ _ _,by simpa using a8.mono (Fz.i0 _ (H.fh (ej _))) _ _ r⟩
theorem Gives.newTuple{vs:List Value}(H:HI C fz s.heap)(r:a8 C.EC fz ds vs)(gw:vs.length≤sizeLine):Gives prog w C A (newTuple vs) fz s (.tup ds):=fun Q E h=>by
 refine dM (h _ _ _ (bp.push H (.oo vs.toArray 0) (by simp[FO.oo]) rfl s.toks) ?_) (by show vs.toArray.size≤sizeLine;rw[bY];exact gw);exact⟨_,vs.toArray,0,rfl,Fz.dv _ _ _,by simpa using a8.mono (Fz.i0 _ (H.fh (ej _))) _ _ r⟩
end
end Mine.Internal
namespace Mine.Internal
open PySem PyProof.Rows
variable{prog:Program}{w:World}{C:Bc}{A:Around}{fz:Fz}{s:Shared}
structure u6(n:Nat)(A:Around):Prop where
 depth:A.depth+2*n<800
 units:A.units+20*n<5000
theorem bp.put {fz ae:Fz} {s s':Shared} (G:bp C fz s ae s') {f:FO} (n:s.heap.get? a=none) (e:s'.heap.get? a=some ⟨f.cls,f.dict,f.data,sl⟩) (hz:ae a=none) (hf:f.cls≠.type "frame") (hP:a≠C.P):
 bp C fz s (ae.put a f) s':=by
 refine⟨G.kp,fun b o h=>Fz.i0 f hz b o (G.le b o h),fun b h=>?_,G.hi.put e hP hf,G.gens,G.os⟩
 by_cases q:b=a
 ·subst q;exact .inr n
 ·rw[Fz.lM _ _ q] at h;exact G.new b h
theorem b5(H:HI C fz s.heap)(rule:∀(Q E:Value→Shared→Prop),(∀v tk,Rep C.EC fz d v→Q v {s with toks:=tk})→aH (model prog w) A t Q E s):Gives prog w C A t fz s d:=fun Q E hQ=>
 rule Q E fun v tk r=>hQ v _ fz (bp.tok H tk) r
theorem gy:Rep C.EC fz (.int i) (.int i t):=by exact⟨t,rfl⟩
theorem mW{x:Str}:Rep C.EC fz (.str x.cps.toList) (.str x t):=by exact⟨t,rfl⟩
theorem g7:Rep C.EC fz (.bool b) (.bool b):=rfl
section O9
variable{a b:Int}{t u:Tok}
theorem Gm(H:HI C fz s.heap):Gives prog w C A (binaryOp .Add (.int a t) (.int b u)) fz s (.int (a+b)):=b5 H fun _ _ h=>add_int (h _ _ gy)
theorem Gn(H:HI C fz s.heap)(hb:b≠0):Gives prog w C A (binaryOp .Mod (.int a t) (.int b u)) fz s (.int (bG a b)):=b5 H fun _ _ h=>mod_int' hb (h _ _ gy)
theorem noPylong(a b:Int)(hb:b.natAbs<2^64):Builtin.divisionGoesByPylong a b=false:=by
 unfold Builtin.divisionGoesByPylong;simp only[Bool.and_eq_false_iff,decide_eq_false_iff_not]
 left
 split
 ·exact(by decide)
 ·have h0:b.natAbs≠0:=by
   intro h;apply_assumption;simpa using h
  have:=(Nat.log2_lt h0).mpr hb
  lia
theorem vR(H:HI C fz s.heap)(hb:b≠0)(hs:b.natAbs<2^64):Gives prog w C A (binaryOp .FloorDiv (.int a t) (.int b u)) fz s (.int (dY a b)):=
 b5 H fun _ _ h=>floordiv_int hb (h _ _ gy) (.inl (noPylong a b hs))
theorem Gp(H:HI C fz s.heap)(hm:IntMulOk a b):Gives prog w C A (binaryOp .Mult (.int a t) (.int b u)) fz s (.int (a*b)):=b5 H fun _ _ h=>PyProof.Rows.mul_int (h _ _ gy) hm
theorem Iw(H:HI C fz s.heap):Gives prog w C A (eX .Lt (.int a t) (.int b u)) fz s (.bool (decide (a<b))):=b5 H fun _ _ h=>PyProof.Rows.lt_int (h _ _ g7)
theorem Iy(H:HI C fz s.heap):Gives prog w C A (eX .GtE (.int a t) (.int b u)) fz s (.bool (decide (b≤a))):=b5 H fun _ _ h=>PyProof.Rows.ge_int (h _ _ g7)
end O9
theorem en(H:HI C fz s.heap)(e:fz a=some (.listOf vs n)):s.heap.IsList a vs:=by
 obtain⟨sl,g⟩:=H.fi a _ e;exact⟨_,g,rfl,n,rfl⟩
theorem AQ(H:HI C fz s.heap)(e:fz a=some (.oo vs n)):IsTup s.heap a vs:=by
 obtain⟨sl,g⟩:=H.fi a _ e;exact⟨_,g,rfl,n,rfl⟩
theorem C5{d e:List D}(H:HI C fz s.heap)(rx:Rep C.EC fz (.list d) x)(ry:Rep C.EC fz (.list e) y)(gw:d.length+e.length≤sizeLine):
 Gives prog w C A (binaryOp .Add x y) fz s (.list (d++e)):=fun Q E hQ=>by
 obtain⟨a,vs,n,rfl,f,r⟩:=rx;obtain⟨b,us,k,rfl,g,q⟩:=ry;obtain⟨sl,e1⟩:=H.fi _ _ f;obtain⟨Sf,e2⟩:=H.fi _ _ g;have l1:=r.length;have l2:=q.length;rw[aS] at l1 l2;refine concat_meets ⟨_,e1,rfl⟩ ⟨_,e2,rfl⟩ noFill_list_add seq_list_add PySem.F.slot_list_add PySem.F.entry_list_add (PySem.F.args_list_add_2 _ _) (list_addW a b vs us n k none none sl Sf (by lia)) ⟨e1,e2,?_⟩;refine hQ _ _ _ (bp.push H (.listOf (vs++us) 0) (by simp[FO.listOf]) rfl s.toks) ?_;exact⟨_,vs++us,0,rfl,Fz.dv _ _ _,by rw[eG];exact a8.mono (Fz.i0 _ (H.fh (ej _))) _ _ (a8.append r q)⟩
theorem Vq{d e:D}{p q:PyData}(H:HI C fz s.heap)(rx:Rep C.EC fz d x)(ry:Rep C.EC fz e y)(hp:d.toPy=some p)(hq:e.toPy=some q)(h1:p.canLay0=true)(h2:q.canLay0=true)(hu:A.units+min p.depth q.depth<cLine):
 Gives prog w C A (eX .Eq x y) fz s (.bool (PyData.eqv p q)):=by
 obtain⟨as,r⟩:=dw H.fi d x p rx hp;obtain⟨bs,r'⟩:=dw H.fi e y q ry hq;exact fun Q E h=>SeqAt.compareEq_reads r r' h1 h2 hu (h _ _ _ (bp.refl H) g7)
theorem Vr{d e:D}{p q:PyData}(H:HI C fz s.heap)(rx:Rep C.EC fz d x)(ry:Rep C.EC fz e y)(hp:d.toPy=some p)(hq:e.toPy=some q)(h1:p.canLay0=true)(h2:q.canLay0=true)(hu:A.units+min p.depth q.depth<cLine):
 Gives prog w C A (eX .NotEq x y) fz s (.bool (!PyData.eqv p q)):=by
 obtain⟨as,r⟩:=dw H.fi d x p rx hp;obtain⟨bs,r'⟩:=dw H.fi e y q ry hq;exact fun Q E h=>SeqAt.compareNe_reads r r' h1 h2 hu (h _ _ _ (bp.refl H) g7)
theorem Vs{d:D}{p:PyData}{qs:List PyData}(H:HI C fz s.heap)(rx:Rep C.EC fz d x)(ry:Rep C.EC fz (.list ds) y)(hp:d.toPy=some p)(hq:D.nI ds=some qs)(h1:p.canLay0=true)(h2:PyData.canLayAll0 qs=true)(hu:A.units+1+min (PyData.depthAll qs) p.depth<cLine):
 Gives prog w C A (eX .In x y) fz s (.bool (qs.any fun z=>PyData.eqv z p)):=by
 obtain⟨as,r⟩:=dw H.fi d x p rx hp;obtain⟨bs,r'⟩:=dw H.fi (.list ds) y (.list qs) ry (by simp[D.toPy,hq]);exact fun Q E h=>SeqAt.in_list_reads r' r h2 h1 hu (h _ _ _ (bp.refl H) g7)
theorem M9{d:D}{p:PyData}{qs:List PyData}(H:HI C fz s.heap)(rx:Rep C.EC fz d x)(ry:Rep C.EC fz (.list ds) y)(hp:d.toPy=some p)(hq:D.nI ds=some qs)(h1:p.canLay0=true)(h2:PyData.canLayAll0 qs=true)(hu:A.units+1+min (PyData.depthAll qs) p.depth<cLine):
 Gives prog w C A (eX .NotIn x y) fz s (.bool (!qs.any fun z=>PyData.eqv z p)):=by
 obtain⟨as,r⟩:=dw H.fi d x p rx hp;obtain⟨bs,r'⟩:=dw H.fi (.list ds) y (.list qs) ry (by simp[D.toPy,hq]);exact fun Q E h=>SeqAt.notIn_list_reads r' r h2 h1 hu (h _ _ _ (bp.refl H) g7)
noncomputable def rL:D→Bool
 |.none=>true
 |_=>false
theorem rM(r:Rep C.EC fz d v):(v==.none)=rL d:=by
 cases d
 ·subst r;rfl
 ·subst r;rfl
 ·refine eo r fun t ay=>?_;subst ay;rfl
 ·refine eo r fun t ay=>?_;subst ay;rfl
 ·refine yk r fun _ _ _ xq _=>?_;subst xq;rfl
 ·refine yk r fun _ _ _ xq _=>?_;subst xq;rfl
 ·obtain⟨_,_,_,_,rfl,_⟩:=r;rfl
 ·obtain⟨_,_,_,_,rfl,_⟩:=r;rfl
theorem Gq(H:HI C fz s.heap)(r:Rep C.EC fz d v):Gives prog w C A (eX .Is v .none) fz s (.bool (rL d)):=
 b5 H fun _ _ h=>is_none_gen (by rw[rM r];exact h _ s.toks g7)
theorem ym(H:HI C fz s.heap)(r:Rep C.EC fz d v):Gives prog w C A (eX .IsNot v .none) fz s (.bool (!rL d)):=
 b5 H fun _ _ h=>isnot_none_gen (by rw[rM r];exact h _ s.toks g7)
theorem Gs{x:Str}(H:HI C fz s.heap)(hs:x.length≤sizeLine):Gives prog w C A (call (.builtin "len") [.str x t]) fz s (.int x.cps.toList.length):=
 b5 H fun _ _ h=>PyProof.Rows.len_str (by rw[eJ] at hs;lia) (by
  have:=h _ (s.toks+1+1) (gy (C:=C) (fz:=fz) (i:=x.length) (t:=s.toks+1))
  simpa [Str.length] using this)
theorem C6{ds:List D}(H:HI C fz s.heap)(r:Rep C.EC fz (.list ds) v)(hs:ds.length≤sizeLine):Gives prog w C A (call (.builtin "len") [v]) fz s (.int ds.length):=by
 obtain⟨a,vs,n,rfl,f,q⟩:=r;have l1:=q.length;rw[aS] at l1;exact b5 H fun _ _ h=>PyProof.Rows.len_list (en H f) (by rw[eJ] at hs;lia) (by rw[l1];exact h _ _ gy)
end Mine.Internal
namespace Mine.Internal
open PySem PyProof.Rows
open PySem.Builtin.Str (strSliceIndices)
variable{prog:Program}{w:World}{C:Bc}{A:Around}{fz:Fz}{s:Shared}
noncomputable def cut{α:Type}(a b:Nat)(l:List α):List α:=(l.drop a).take (b-a)
theorem vS{α:Type}(l:List α)(a b:Nat)(hb:b≤l.length):((bW (b-a)).map (fun k=>a+k)).filterMap (fun i=>l[i]?)=cut a b l:=by
 unfold cut
 induction h:b-a generalizing a with
 |zero=>rfl
 |succ n ih=>
  have ha:a<l.length:=aT (C4 h) hb;rw[List.range_succ_eq_map,aN,List.filterMap_cons];simp only[Nat.add_zero,aY ha];rw[bX];rw[show((fun k=>a+k)∘Nat.succ)=fun k=>(a+1)+k from funext fun k=>cC a k 1,ih (a+1) (vM h)];rw[cZ ha,List.take_succ_cons]
theorem ot(a b:Nat):sliceRange (a:Int) (b:Int) 1=(bW (b-a)).map (fun k=>a+k):=by
 show(bW (if(a:Int)<(b:Int) then((b:Int)-a+1-1)/1 else 0).toNat).map _=_;have e:(if(a:Int)<(b:Int) then((b:Int)-a+1-1)/1 else 0).toNat=b-a:=by
  by_cases h:(a:Int)<b
  ·rw[if_pos h,Int.ediv_one,Int.add_sub_cancel];exact Int.toNat_sub b a
  ·rw[if_neg h];exact(Nat.sub_eq_zero_of_le (kB.mp (jZ.mp h))).symm
 rw[e];exact jA fun k _=>by show((a:Int)+1*k).toNat=_;rw[Int.one_mul];rfl
noncomputable def dq(v:Option Int)(dflt n:Nat):Option Nat:=
 match v with
 |none=>some dflt
 |some i=>if 0≤i then some (min i.toNat n) else none
noncomputable def vU(v:Option Int)(dflt:Int)(n:Nat):Int:=
 match v with
 |none=>dflt
 |some i=>max 0 (min (if i<0 then i+(n:Int) else i) (n:Int))
theorem xx{i:Int}{dflt n k:Nat}(h:dq (some i) dflt n=some k):0≤i∧min i.toNat n=k:=
 if h0:0≤i then⟨h0,aL ((if_pos h0).symm.trans h)⟩ else nomatch (if_neg h0).symm.trans h
theorem uu:∀{v:Option Int} {dflt n k:Nat},dq v dflt n=some k→vU v dflt n=(k:Int)
 |none,_,_,_,h=>congrArg Nat.cast (aL h)
 |some i,_,n,_,h=>by
  obtain⟨h0,rfl⟩:=xx h;obtain⟨m,rfl⟩:=hV h0;show max 0 (min (if(m:Int)<0 then m+(n:Int) else m) (n:Int))=((min m n:Nat):Int);rw[if_neg (jZ.mpr h0)];rcases Nat.le_total m n with l|l
  ·rw[Int.min_eq_left (kB.mpr l),gU l];exact Int.max_eq_right h0
  ·rw[Int.min_eq_right (kB.mpr l),Nat.min_eq_right l];exact Int.max_eq_right (dF n)
theorem uv:∀{v:Option Int} {dflt n k:Nat},dq v dflt n=some k→dflt≤n→k≤n
 |none,_,_,_,h,hd=>aL h▸hd
 |some _,_,_,_,h,_=>(xx h).2▸Nat.min_le_right _ _
theorem Iz{lo hi:Option Int}{n a b:Nat}(ha:dq lo 0 n=some a)(hb:dq hi n n=some b):strSliceIndices lo hi 1 n=(bW (b-a)).map (fun k=>a+k):=by
 have e:strSliceIndices lo hi 1 n=sliceRange (vU lo 0 n) (vU hi n n) 1:=by cases lo<;>cases hi<;>rfl
 rw[e,show vU lo 0 n=a from uu ha,uu hb];exact ot a b
theorem AR{lo hi:Option Int}{x:Str}{a b:Nat}(ha:dq lo 0 x.length=some a)(hb:dq hi x.length x.length=some b):(strSliceIndices lo hi 1 x.length).filterMap (x.cps[·]?)=cut a b x.cps.toList:=by
 rw[Iz ha hb,←vS x.cps.toList a b (uv hb (bB _))];exact congrArg (List.filterMap · _) (funext fun i=>(Array.getElem?_toList ..).symm)
theorem AS{lo hi:Option Int}{x:Str}{a b:Nat}(ha:dq lo 0 x.length=some a)(hb:dq hi x.length x.length=some b):(Txt.slice x lo hi).cps.toList=cut a b x.cps.toList:=by
 unfold Txt.slice
 split
 ·rename_i h
  simp only[beq_self_eq_true,jQ,beq_iff_eq] at h;rw[Iz ha hb,aM,fP] at h;have uK:=uv hb (bB _);have CM:=uv ha (cS _);have:a=0∧b=x.length:=by omega
  rw[this.1,this.2];exact(cK (bB _)).symm
 ·exact AR ha hb
theorem yn{lo hi:Option Int}{items:Array Value}{a b:Nat}(ha:dq lo 0 items.size=some a)(hb:dq hi items.size items.size=some b):(slicePick items lo hi none).toList=cut a b items.toList:=by
 have k:sliceBounds lo hi none items.size=(vU lo 0 items.size,vU hi items.size items.size,1):=by cases lo<;>cases hi<;>rfl
 unfold slicePick;rw[k,show vU lo 0 items.size=a from uu ha,uu hb];simp only;rw[ot,←vS items.toList a b (uv hb (bB _))];simp
theorem a8.cut(r:a8 C.EC fz ds vs)(a b:Nat):a8 C.EC fz (cut a b ds) (cut a b vs):=a8.take _ (a8.drop _ r)
theorem AU{value:Expr}{l u:Option Expr}{p:Pos}{x:Str}{t:Tok}{vl vu:Value}{lo hi:Option Int}{a b:Nat}(H:HI C fz s.heap)(pl:IsPart vl lo)(pu:IsPart vu hi)(gw:x.length≤sizeLine)
 (ha:dq lo 0 x.length=some a) (hb:dq hi x.length x.length=some b):
 Gives prog w C A (newFields "slice" [vl,vu,.none]>>=fun i=>fK value (.Slice l u none p) (.str x t) i) fz s (.str (cut a b x.cps.toList)):=fun Q E hQ=>by
 refine aB (dM ?_ (by size_fits));have kk:KeptH fun h=>∀b o,s.heap.get? b=some o→h.get? b=some o:=fun h ob a b o e=>Heap.get?_push_of_some _ (a b o e);have fin:∀h' t' k,(∀b o,s.heap.get? b=some o→h'.get? b=some o)→Q (.str (Txt.slice x lo hi) t') {s with heap:=h',toks:=k}:=fun h' t' k a=>by
  refine hQ _ _ fz (bp.keeps H a) ?_;have:=mW (C:=C) (fz:=fz) (x:=Txt.slice x lo hi) (t:=t')
  rwa [AS ha hb] at this
 have ht:∀r,letTemporaryGo value (.str x t) r=pure ():=fun r=>by cases value<;>rfl
 cases pl<;>cases pu
 ·exact jE (SBH.sliceItem_nn kk (fun _ _ e=>e) fin gw) (by with_unfolding_all rfl) ht
 ·exact jE (SBH.sliceItem_ns kk (fun _ _ e=>e) fin gw) (by with_unfolding_all rfl) ht
 ·exact jE (SBH.sliceItem_sn kk (fun _ _ e=>e) fin gw) (by with_unfolding_all rfl) ht
 ·exact jE (SBH.sliceItem_ss kk (fun _ _ e=>e) fin gw) (by with_unfolding_all rfl) ht
theorem yo{value:Expr}{l u:Option Expr}{p:Pos}{v vl vu:Value}{lo hi:Option Int}{a b:Nat}{ds:List D}(H:HI C fz s.heap)(r:Rep C.EC fz (.list ds) v)(pl:IsPart vl lo)(pu:IsPart vu hi)(gw:ds.length≤sizeLine)
 (ha:dq lo 0 ds.length=some a) (hb:dq hi ds.length ds.length=some b):
 Gives prog w C A (newFields "slice" [vl,vu,.none]>>=fun i=>fK value (.Slice l u none p) v i) fz s (.list (cut a b ds)):=fun Q E hQ=>by
 obtain⟨la,vs,n,rfl,f,q⟩:=r;have l1:=q.length;rw[aS] at l1;have hl:=en H f;refine aB (dM ?_ (by size_fits));have rH:(s.heap.push {cls:=.type "slice",dict:=none,data:=.fields #[vl,vu,.none]}).IsList la vs:=hl.push _;have H1:HI C fz (s.heap.push {cls:=.type "slice",dict:=none,data:=.fields #[vl,vu,.none]}):=H.keeps fun _ _ e=>Heap.get?_push_of_some _ e;refine tail_any (s:={s with heap:=s.heap.push {cls:=.type "slice",dict:=none,data:=.fields #[vl,vu,.none]}}) (T:="list") (ops:=[.ref s.heap.objs.size,.ref la]) rH.typeIs jB
  (wpAny_getItem_list_slice rH (Heap.IsSliceOf.new ..) pl pu .none (by simp) ?_ (by lia)) rfl
 have G1:bp C fz s fz {s with heap:=s.heap.push {cls:=.type "slice",dict:=none,data:=.fields #[vl,vu,.none]}}:=bp.oq H _ s.toks;have G2:=bp.push (C:=C) (s:={s with heap:=s.heap.push {cls:=.type "slice",dict:=none,data:=.fields #[vl,vu,.none]}}) H1 (.listOf (slicePick vs lo hi none) 0) (by simp[FO.listOf]) rfl s.toks;refine hQ _ _ _ (G1.trans G2) ?_;refine⟨_,slicePick vs lo hi none,0,rfl,Fz.dv _ _ _,?_⟩;rw[yn (a:=a) (b:=b) (by rw[l1];exact ha) (by rw[l1];exact hb)];exact a8.mono (Fz.i0 _ (H1.fh (ej _))) _ _ (q.cut a b)
end Mine.Internal
namespace Mine.Internal
open PySem PyProof.Rows
variable{prog:Program}{w:World}{C:Bc}{A:Around}{fz:Fz}{s:Shared}
set_option genCtorIdx false in
inductive X where
 |index
 |value
 |mU (m:List Nat)
noncomputable abbrev X.ctorIdx(x:X):Nat:=X.casesOn (motive:=fun _=>Nat) x 0 1 (fun _=>2)
set_option genInjectivity true in
set_option genCtorIdx false in
inductive R(α:Type) where
 |ok (a:α)
 |exc (x:X)
noncomputable abbrev R.ctorIdx{α:Type}(x:R α):Nat:=R.casesOn (motive:=fun _=>Nat) x (fun _=>0) (fun _=>1)
noncomputable def X.cls(C:Bc):X→Value
 |.index=>.type "IndexError"
 |.value=>.type "ValueError"
 |.mU _=>.ref C.TC
noncomputable def X.vV(h:Heap):X→Value→Prop
 |.mU m,a0=>∃t tk n sl,a0=.ref t∧h.get? t=some ⟨.type "tuple",none,.seq #[.str ⟨m.toArray⟩ tk] n,sl⟩
 |_,_=>True
noncomputable def lV(C:Bc)(h:Heap)(a:Addr):Prop:=∀c ps,h.get? C.P=some {cls:=.none,data:=.fields ps}→ps=#[rawInt C.line,rawInt C.col,.ref c]→c≠a
structure JA(C:Bc)(h₀ h:Heap)(e:Addr)(x:X)(oe:Obj)(vs:Array Value):Prop where
 new:h₀.get? e=none
 nc:lV C h e
 get:h.get? e=some oe
 cls:oe.cls=x.cls C
 data:oe.data=.fields vs
 args:∃a0,vs[0]?=some a0∧x.vV h a0
structure Y3(C:Bc)(h₀ h:Heap)(e T:Addr)(oT:Obj)(ts:Array Value):Prop where
 ne:T≠e
 new:h₀.get? T=none
 nc:lV C h T
 get:h.get? T=some oT
 data:oT.data=.fields ts
noncomputable def Vt(C:Bc)(h₀ h:Heap)(e:Addr)(vs:Array Value):Option Value→Prop
 |none=>vs[1]?=some .none
 |some m=>∃T oT ts,vs[1]?=some (.ref T)∧Y3 C h₀ h e T oT ts∧ts[3]?=some m
noncomputable def Exc(C:Bc)(h₀ h:Heap)(e:Addr)(x:X)(tb:Option Value):Prop:=∃oe vs,JA C h₀ h e x oe vs∧Vt C h₀ h e vs tb
noncomputable def uM(C:Bc)(h₀ h:Heap)(e:Addr)(x:X):Prop:=Exc C h₀ h e x none∨Exc C h₀ h e x (some .none)
variable(prog w) in
noncomputable def cg(C:Bc)(A:Around)(t:Sem Value)(fz:Fz)(s:Shared)(r:R D):Prop:=
 ∀(Q E:Value→Shared→Prop),(∀d,r=.ok d→∀v s' ae,bp C fz s ae s'→Rep C.EC ae d v→Q v s')→
  (∀x,r=.exc x→∀e s' ae,bp C fz s ae s'→uM C s.heap s'.heap e x→E (.ref e) s')→aH (model prog w) A t Q E s
variable(prog w) in
noncomputable def QV(C:Bc)(A:Around)(t:Sem Bool)(fz:Fz)(s:Shared)(b:Bool):Prop:=
 ∀(Q:Bool→Shared→Prop) (E:Value→Shared→Prop),(∀s' ae,bp C fz s ae s'→Q b s')→aH (model prog w) A t Q E s
theorem Gives.R(g:Gives prog w C A t fz s d):cg prog w C A t fz s (.ok d):=fun Q E h _=>g Q E fun v s' ae G r=>h d rfl v s' ae G r
theorem HI.rN{h h':Heap}(H:HI C fz h)(hn:h.get? e=none)(k:∀b o,h.get? b=some o→h'.get? b=some o):lV C h' e:=by
 refine aq H.place.tab fun ps g r=>?_;intro c Vc g' hp q;rw[k _ _ g] at g';have ep:ps=Vc:=by injection g' with g';injection g' with _ _ g' _;injection g'
 rcases r with r|⟨cr,r1,r2,_⟩
 ·rw[←ep,r] at hp;simp at hp
 ·rw[←ep,r1] at hp
  have:cr=c:=by simpa using hp
  obtain⟨c',oc,vs,t,e1,e2,_⟩:=r2;cases e1;rw[this,q,hn] at e2;cases e2
theorem Exc.JB{x:X}(H:HI C fz h)(hx:x.cls C=.type n)(N:Heap.NewExc h h' e n):Exc C h h' e x none:=by
 refine sz N.there fun ob t h1 h2 h3=>?_;refine⟨ob,_,⟨N.new,H.rN N.new N.keeps,h1,h2.trans hx.symm,h3,t,rfl,?_⟩,rfl⟩;cases x with
 |mU m=>simp[X.cls] at hx
 |_=>exact trivial
theorem l8(h:∀l u p,slice≠.Slice l u none p):subscripted slice false o i=operate [o,i] (getItem o i):=by
 cases slice with
 |Slice l u st p=>
  cases st with
  |none=>exact absurd rfl (h l u p)
  |some e=>rfl
 |_=>rfl
noncomputable def isSlice(e:Expr):Bool:=e.ctorIdx==26
theorem nJ(h:isSlice e=false):∀l u p,e≠.Slice l u none p:=by rintro l u p rfl;cases h
theorem AV{k:Int}(AA:isSlice slice=false)(H:HI C fz s.heap)(r:Rep C.EC fz (.list ds) v)(h0:0≤k)(xr:k<2^63)(hd:ds[k.toNat]?=some d):
 Gives prog w C A (fK value slice v (.int k t)) fz s d:=fun Q E hQ=>by
 obtain⟨a,vs,n,rfl,f,q⟩:=r;refine aq (q.get _ d hd) fun y hy ry=>?_;have hl:=en H f;exact tail_any (T:="list") hl.typeIs jB (wpAny_getItem_list hl h0 xr (by simpa using hy) (hQ _ _ _ (bp.refl H) ry)) (l8 (nJ AA))
theorem QW{k:Int}(h0:0≤k):seqIndex? k n=if k.toNat<n then some k.toNat else none:=by
 show(if decide (0≤if k<0 then k+n else k)&&decide ((if k<0 then k+n else k)<(n:Int)) then some (if k<0 then k+(n:Int) else k).toNat else none)=_;rw[if_neg (jZ.mpr h0),decide_eq_true h0,jQ];exact ite_congr (propext (decide_eq_true_iff.trans (Int.toNat_lt h0).symm)) (fun _=>rfl) fun _=>rfl
theorem fits63(h0:0≤k)(h:k<2^63):(decide (k< -(2^63:Int))||decide (k≥2^63))=false:=by
 rw[decide_eq_false (jZ.mpr (Int.le_trans (by decide) h0)),decide_eq_false (Int.not_le.mpr h)];rfl
theorem C7{k:Int}(AA:isSlice slice=false)(H:HI C fz s.heap)(r:Rep C.EC fz (.tup ds) v)(h0:0≤k)(xr:k<2^63)(hd:ds[k.toNat]?=some d):
 Gives prog w C A (fK value slice v (.int k t)) fz s d:=fun Q E hQ=>by
 obtain⟨a,vs,n,rfl,f,q⟩:=r;refine aq (q.get _ d hd) fun y hy ry=>?_;have hl:=AQ H f;have qK:k.toNat<vs.size:=by
  have:=(bL.mp hy).1
  simpa using this
 refine tail_any (T:="tuple") hl.typeIs slot_tuple_getitem.lookup (PyProof.Rows.getItem_tuple hl (Int.le_trans (by decide) h0) xr (j:=k.toNat) ?_ (by simpa using hy) (hQ _ _ _ (bp.refl H) ry)) (l8 (nJ AA));rw[QW h0,if_pos qK]
noncomputable def ni(x:List Nat)(k:Int):R D:=if h:0≤k∧k.toNat<x.length then .ok (.str [x[k.toNat]'h.2]) else .exc .index
theorem C8{x:Str}(AA:isSlice slice=false)(hA:A.handled=none)(H:HI C fz s.heap)(h0:0≤k)(xr:k<2^63):
 cg prog w C A (fK value slice (.str x tx) (.int k t)) fz s (ni x.cps.toList k):=fun Q E hQ hE=>by
 have Vd:=fits63 h0 xr
 by_cases ye:k.toNat<x.length
 ·have Ri:k.toNat<x.cps.toList.length:=by simpa [Str.length] using ye
  have e:ni x.cps.toList k=.ok (.str [x.cps.toList[k.toNat]'Ri]):=by unfold ni;rw[dif_pos ⟨h0,Ri⟩]
  refine tail_any (T:="str") (cX _ _ _) hG.lookup (PyProof.Rows.getItem_str (c:=x.cps.toList[k.toNat]'Ri) Vd ?_ (hQ _ e _ _ _ (bp.tok H _) ?_)) (l8 (nJ AA))
  ·rw[QW h0,if_pos ye]
   simp only[kH];rw[bC (by simpa [Str.length] using ye)];rfl
  ·exact⟨_,rfl⟩
 ·have e:ni x.cps.toList k=.exc .index:=by unfold ni;rw[dif_neg];rintro⟨_,q⟩;exact ye (by simpa [Str.length] using q)
  have U9:seqIndex? k x.length=none:=by
   rw[QW h0,if_neg ye]
  refine tail_any (T:="str") (cX _ _ _) hG.lookup (getItem_meets (cX s x tx) (by decide) hG PySem.F.entry_str_getitem (PySem.F.args_str_getitem_2 _ _) (raises_str_getitem x k tx t Vd (by rw[U9];rfl)) ⟨hA,?_⟩) (l8 (nJ AA));intro h' tk e' N;exact hE _ e e' _ fz (bp.keeps H N.keeps) (.inl (Exc.JB (n:="IndexError") H rfl N))
noncomputable def kM:D→Option Bool
 |.none=>some false
 |.bool b=>some b
 |.int i=>some (i !=0)
 |.str x=>if x.length≤sizeLine then some (!x.isEmpty) else none
 |.list l=>if l.length≤sizeLine then some (!l.isEmpty) else none
 |_=>none
theorem xy{vs:Array Value}{l:List D}(hl:s.heap.IsList a vs)(l1:vs.toList.length=l.length)(h:kM (.list l)=some b)(hQ:∀t,Q b {s with toks:=t}):aH (model prog w) A (truthy (.ref a)) Q E s:=by
 rw[aS] at l1;obtain⟨hs,hb⟩:=iZ.mp (show(if l.length≤sizeLine then some (!l.isEmpty) else none)=some b from h);cases hb;rw[eJ] at hs;refine wpAny_truthy_list hl (by lia) ?_;have e:(!vs.isEmpty)=!l.isEmpty:=by cases l<;>simp[jR,l1]
 rw[e];exact hQ _
theorem vW(H:HI C fz s.heap)(r:Rep C.EC fz d v)(h:kM d=some b):QV prog w C A (truthy v) fz s b:=fun Q E hQ=>by
 have now:=hQ _ _ (bp.refl H);cases d with
 |none=>cases r;cases h;exact aF now
 |bool c=>cases r;cases h;exact wpAny_truthy_bool now
 |int i=>obtain⟨t,rfl⟩:=r;cases h;exact PyProof.Rows.truthy_int now
 |str x=>
  obtain⟨t,rfl⟩:=r;obtain⟨hs,hb⟩:=iZ.mp (show(if x.length≤sizeLine then some (!x.isEmpty) else none)=some b from h);cases hb;rw[eJ] at hs;refine PySem.P.truthy_str (by simp only[Str.length,bY];lia) ?_;have e:(((Str.mk x.toArray).length:Int) !=0)=!x.isEmpty:=by cases x<;>simp[Str.length]<;>lia
  rw[e];exact hQ _ _ (bp.tok H _)
 |list l=>
  obtain⟨a,vs,n,rfl,f,q⟩:=r;exact xy (en H f) q.length h fun t=>hQ _ _ (bp.tok H t)
 |_=>cases h
end Mine.Internal
namespace Mine.Internal
open PySem PyProof.Rows
inductive Ma where|add|mod|fdiv|mul|sub
inductive MR where|eq|ne|lt|ge|tA|xM|isNone|l0
inductive C9 where|index|count|rindex|split|startswith|join|isdisjoint
inductive Fn where|len|str|int
set_option genCtorIdx false in
inductive PE where
 |var (i:Nat)
 |cvar (j:Nat)
 |glob (g:Nat)
 |a7 (d:D)
 |bin (op:Ma) (a b:PE)
 |cmp (op:MR) (a b:PE)
 |band (l:List PE)
 |bor (l:List PE)
 |sa (a:PE)
 |ite (c a b:PE)
 |list (l:List PE)
 |tup (l:List PE)
 |sub (a i:PE)
 |slice (a lo hi:PE)
 |comp (rng:Bool) (j:Nat) (iter:PE) (cond:Option PE) (elt:PE)
 |call (f:Nat) (l:List PE)
 |dz (m:C9) (o:PE) (l:List PE)
 |fn (f:Fn) (a:PE)
 |fmt (rep:Bool) (a:PE)
 |joined (l:List PE)
 |attr (a:PE) (x:Str)
 |entry
 |zip (a b:PE)
 |AW (a b:PE)
 |l9 (a b c:PE)
noncomputable abbrev PE.ctorIdx(x:PE):Nat:=PE.casesOn (motive_1:=fun _=>Nat) x (fun _=>0) (fun _=>1) (fun _=>2) (fun _=>3) (fun _ _ _=>4) (fun _ _ _=>5) (fun _=>6) (fun _=>7) (fun _=>8) (fun _ _ _=>9) (fun _=>10) (fun _=>11) (fun _ _=>12) (fun _ _ _=>13) (fun _ _ _ _ _=>14) (fun _ _=>15) (fun _ _ _=>16) (fun _ _=>17) (fun _ _=>18) (fun _=>19) (fun _ _=>20) 21 (fun _ _=>22) (fun _ _=>23) (fun _ _ _=>24)
set_option genCtorIdx false in
inductive FS where
 |val (d:D)
 |own (ds:List D)
noncomputable abbrev FS.ctorIdx(x:FS):Nat:=FS.casesOn (motive:=fun _=>Nat) x (fun _=>0) (fun _=>1)
set_option genCtorIdx false in
inductive Slot where
 |val (d:D)
 |own (ds:List D)
 |obj (fs:List (Str×FS))
noncomputable abbrev Slot.ctorIdx(x:Slot):Nat:=Slot.casesOn (motive:=fun _=>Nat) x (fun _=>0) (fun _=>1) (fun _=>2)
noncomputable def eu{α:Type}(d:D)(f:Int→Option α):Option α:=D.casesOn (motive_1:=fun _=>Option α) d none (fun _=>none) (f) (fun _=>none) (fun _=>none) (fun _=>none) (fun _=>none) (fun _=>none)
noncomputable def onStr{α:Type}(d:D)(f:List Nat→Option α):Option α:=D.casesOn (motive_1:=fun _=>Option α) d none (fun _=>none) (fun _=>none) (f) (fun _=>none) (fun _=>none) (fun _=>none) (fun _=>none)
noncomputable def kl{α:Type}(d:D)(f:List D→Option α):Option α:=D.casesOn (motive_1:=fun _=>Option α) d none (fun _=>none) (fun _=>none) (fun _=>none) (f) (fun _=>none) (fun _=>none) (fun _=>none)
noncomputable def JC{α:Type}(d:D)(f:List D→Option α):Option α:=D.casesOn (motive_1:=fun _=>Option α) d none (fun _=>none) (fun _=>none) (fun _=>none) (fun _=>none) (f) (fun _=>none) (fun _=>none)
noncomputable def JD{α:Type}(d:D)(f:List Nat→Option α):Option α:=D.casesOn (motive_1:=fun _=>Option α) d none (fun _=>none) (fun _=>none) (fun _=>none) (fun _=>none) (fun _=>none) (f) (fun _=>none)
noncomputable def JE{α:Type}(d:D)(f:List (Str×D)→Option α):Option α:=D.casesOn (motive_1:=fun _=>Option α) d none (fun _=>none) (fun _=>none) (fun _=>none) (fun _=>none) (fun _=>none) (fun _=>none) (f)
noncomputable def Gu{α β:Type}(l:List β)(f:β→Option α):Option α:=match l with
 |[a]=>f a
 |_=>none
noncomputable def Y4{α β:Type}(l:List β)(f:β→β→Option α):Option α:=match l with
 |[a,b]=>f a b
 |_=>none
noncomputable def Y5{α β:Type}(l:List β)(f:β→β→β→Option α):Option α:=match l with
 |[a,b,e]=>f a b e
 |_=>none
noncomputable def vX{α:Type}(d:FS)(f:List D→Option α):Option α:=match d with
 |.own i=>f i
 |_=>none
noncomputable def vY{α:Type}(d:Slot)(f:List D→Option α):Option α:=match d with
 |.own i=>f i
 |_=>none
noncomputable def yA{α:Type}(d:Slot)(f:List (Str×FS)→Option α):Option α:=match d with
 |.obj i=>f i
 |_=>none
section
variable{α β:Type}{d:D}{q:α}
theorem nS{P:Prop}(h:(none:Option α)=some q):P:=nomatch h
theorem kN{f:Int→Option α}(h:eu d f=some q):∃i,d=.int i∧f i=some q:=by
 cases d with
 |int i=>exact⟨i,rfl,h⟩
 |_=>exact nS h
theorem g5{f:List Nat→Option α}(h:onStr d f=some q):∃i,d=.str i∧f i=some q:=by
 cases d with
 |str i=>exact⟨i,rfl,h⟩
 |_=>exact nS h
theorem iy{f:List D→Option α}(h:kl d f=some q):∃i,d=.list i∧f i=some q:=by
 cases d with
 |list i=>exact⟨i,rfl,h⟩
 |_=>exact nS h
theorem Eg{f:List D→Option α}(h:JC d f=some q):∃i,d=.tup i∧f i=some q:=by
 cases d with
 |tup i=>exact⟨i,rfl,h⟩
 |_=>exact nS h
theorem JF{f:List Nat→Option α}(h:JD d f=some q):∃i,d=.kh i∧f i=some q:=by
 cases d with
 |kh i=>exact⟨i,rfl,h⟩
 |_=>exact nS h
theorem JG{f:List (Str×D)→Option α}(h:JE d f=some q):∃i,d=.inst i∧f i=some q:=by
 cases d with
 |inst i=>exact⟨i,rfl,h⟩
 |_=>exact nS h
theorem vZ{l:List β}{f:β→Option α}(h:Gu l f=some q):∃a,l=[a]∧f a=some q:=match l with
 |[a]=>⟨a,rfl,h⟩
 |[]=>nS h
 |_::_::_=>nS h
theorem Ss{l:List β}{f:β→β→Option α}(h:Y4 l f=some q):∃a b,l=[a,b]∧f a b=some q:=match l with
 |[a,b]=>⟨a,b,rfl,h⟩
 |[]=>nS h
 |[_]=>nS h
 |_::_::_::_=>nS h
theorem Su{l:List β}{f:β→β→β→Option α}(h:Y5 l f=some q):∃a b e,l=[a,b,e]∧f a b e=some q:=match l with
 |[a,b,e]=>⟨a,b,e,rfl,h⟩
 |[]=>nS h
 |[_]=>nS h
 |[_,_]=>nS h
 |_::_::_::_::_=>nS h
theorem kQ [Decidable p](h:(if p then x else none)=some q):p∧x=some q:=by
 by_cases hp:p
 ·rw[if_pos hp] at h;exact⟨hp,h⟩
 ·rw[if_neg hp] at h;cases h
theorem fw{o:Option β}(h:o.bind f=some q):∃a,o=some a∧f a=some q:=dH.mp h
end
noncomputable def FS.d:FS→D
 |.val d=>d
 |.own ds=>.list ds
noncomputable def Slot.d:Slot→D
 |.val d=>d
 |.own ds=>.list ds
 |.obj fs=>.inst (fs.map fun x=>(x.1,x.2.d))
structure St where
 ρ:List (Option Slot)
 κ:List (Option D)
noncomputable def St.get(σ:St)(i:Nat):Option Slot:=(σ.ρ[i]?).join
noncomputable def St.put(σ:St)(i:Nat)(x:Slot):St:={σ with ρ:=σ.ρ.set i (some x)}
noncomputable def St.hide(σ:St)(i:Nat):St:={σ with ρ:=σ.ρ.set i none}
noncomputable abbrev Mo(α:Type):=Option (R α×St)
noncomputable def Mo.bind{α β:Type}(m:Mo α)(f:α→St→Mo β):Mo β:=
 match m with
 |none=>none
 |some (.exc x,σ)=>some (.exc x,σ)
 |some (.ok a,σ)=>f a σ
noncomputable def Mo.ok{α:Type}(a:α)(σ:St):Mo α:=some (.ok a,σ)
noncomputable def Mo.of{α:Type}(r:Option (R α))(σ:St):Mo α:=r.map (·,σ)
noncomputable def iu(d:D):Option (R D):=some (.ok d)
noncomputable def Im(a b:D):Option Bool:=a.toPy.bind fun p=>b.toPy.bind fun q=>if p.canLay0=true∧q.canLay0=true∧p.depth≤64 then some (PyData.eqv p q) else none
noncomputable def inD(a:D)(l:List D):Option Bool:=a.toPy.bind fun p=>(D.nI l).bind fun qs=>if p.canLay0=true∧PyData.canLayAll0 qs=true∧p.depth≤64 then some (qs.any fun z=>PyData.eqv z p) else none
noncomputable def JH(x y:D):Option (R D):=match x with
 |.int a=>eu y fun b=>iu (.int (a+b))
 |.str a=>onStr y fun b=>if a.length+b.length≤sizeLine then iu (.str (a++b)) else none
 |.list a=>kl y fun b=>if a.length+b.length≤sizeLine then iu (.list (a++b)) else none
 |.tup a=>JC y fun b=>if a≠[]∧b≠[]∧a.length+b.length≤sizeLine then iu (.tup (a++b)) else none
 |_=>none
noncomputable def rP(op:Ma)(x y:D):Option (R D):=match op with
 |.add=>JH x y
 |.sub=>eu x fun a=>eu y fun b=>iu (.int (a-b))
 |.mod=>eu x fun a=>eu y fun b=>if b≠0 then iu (.int (bG a b)) else none
 |.fdiv=>eu x fun a=>eu y fun b=>if b≠0∧b.natAbs<2^64 then iu (.int (dY a b)) else none
 |.mul=>eu x fun a=>eu y fun b=>if a.natAbs<2^20∧b.natAbs<2^20 then iu (.int (a*b)) else none
noncomputable def memD(no:Bool→Bool)(a b:D):Option (R D):=match b with
 |.list l=>(inD a l).map fun c=>.ok (.bool (no c))
 |.kh l=>onStr a fun x=>Gu x fun c=>iu (.bool (no (l.contains c)))
 |_=>none
noncomputable def yq{α:Type}(d:D)(o:Option α):Option α:=D.casesOn (motive_1:=fun _=>Option α) d (o) (fun _=>none) (fun _=>none) (fun _=>none) (fun _=>none) (fun _=>none) (fun _=>none) (fun _=>none)
theorem JI{α:Type}{d:D}{o:Option α}{q:α}(h:yq d o=some q):d=.none∧o=some q:=by
 cases d with
 |none=>exact⟨rfl,h⟩
 |_=>exact nS h
noncomputable def u7(op:MR)(a b:D):Option (R D):=match op with
 |.eq=>(Im a b).map fun c=>.ok (.bool c)
 |.ne=>(Im a b).map fun c=>.ok (.bool !c)
 |.lt=>eu a fun a=>eu b fun b=>iu (.bool (decide (a<b)))
 |.ge=>eu a fun a=>eu b fun b=>iu (.bool (decide (b≤a)))
 |.tA=>memD (fun c=>c) a b
 |.xM=>memD (fun c=>!c) a b
 |.isNone=>yq b (iu (.bool (rL a)))
 |.l0=>yq b (iu (.bool (!rL a)))
noncomputable def tB(x k:D):Option (R D):=match x with
 |.list l=>eu k fun k=>if k=-1 then l.getLast?.map .ok else if 0≤k∧k<2^63 then(l[k.toNat]?).map .ok else none
 |.tup l=>eu k fun k=>if 0≤k∧k<2^63 then(l[k.toNat]?).map .ok else none
 |.str x=>eu k fun k=>if 0≤k∧k<2^63 then some (ni x k) else none
 |_=>none
noncomputable def JJ:D→Option (Option Int)
 |.none=>some none
 |.int i=>some (some i)
 |_=>none
noncomputable def AX(l h:Option Int)(n:Nat)(f:Nat→Nat→D):Option (R D):=if n≤sizeLine then(dq l 0 n).bind fun i=>(dq h n n).bind fun j=>iu (f i j) else none
noncomputable def km(a lo hi:D):Option (R D):=(JJ lo).bind fun l=>(JJ hi).bind fun h=>match a with
 |.str x=>AX l h x.length fun i j=>.str (cut i j x)
 |.list x=>AX l h x.length fun i j=>.list (cut i j x)
 |_=>none
noncomputable def digits(n:Nat):List Nat:=(toString n).toList.map Char.toNat
noncomputable def kR(x:List Nat):Nat:=x.foldl (fun a c=>10*a+(c-48)) 0
noncomputable def Vu(d:D):Option (R D):=match d with
 |.str x=>if x.length≤sizeLine then iu (.int x.length) else none
 |.list x=>if x.length≤sizeLine then iu (.int x.length) else none
 |_=>none
noncomputable def Mb(f:Fn)(d:D):Option (R D):=match f with
 |.len=>Vu d
 |.str=>eu d fun i=>if 0≤i∧i<10000 then iu (.str (digits i.toNat)) else none
 |.int=>onStr d fun x=>if x=digits (kR x)∧kR x<100000 then iu (.int (kR x)) else none
noncomputable def strsOf:List D→Option (List (List Nat))
 |[]=>some []
 |d::r=>onStr d fun x=>(strsOf r).map (x::·)
noncomputable def S(x:List Nat):Str:=⟨x.toArray⟩
noncomputable def JK(x:List Nat)(l:List D):Option (R D):=match l with
 |[a]=>onStr a fun y=>Gu y fun c=>if x.length≤sizeLine then iu (.int (x.count c)) else none
 |[a,b,e]=>onStr a fun y=>Gu y fun c=>eu b fun z=>eu e fun j=>if z=0∧0≤j∧j.toNat≤x.length∧x.length≤sizeLine then iu (.int ((x.take j.toNat).count c)) else none
 |_=>none
noncomputable def iq(m:C9)(d:D)(l:List D):Option (R D):=match m with
 |.index=>onStr d fun x=>Y4 l fun a b=>onStr a fun y=>Gu y fun c=>eu b fun i=>if 0≤i∧i.toNat≤x.length∧x.length≤sizeLine then some (match (x.drop i.toNat).idxOf? c with
  |some k=>.ok (.int (i+(k:Int)))
  |none=>.exc .value) else none
 |.count=>onStr d fun x=>JK x l
 |.rindex=>onStr d fun x=>Y5 l fun a b e=>onStr a fun y=>Gu y fun c=>eu b fun z=>eu e fun j=>if z=0∧0≤j∧j.toNat≤x.length∧x.length≤sizeLine then((x.take j.toNat).reverse.idxOf? c).bind fun k=>iu (.int (j-1-(k:Int))) else none
 |.split=>onStr d fun x=>Gu l fun a=>onStr a fun y=>if y≠[]∧x.length+2≤sizeLine then iu (.list ((Txt.split (S x) (S y)).map fun z=>.str z.cps.toList)) else none
 |.startswith=>onStr d fun x=>Gu l fun a=>onStr a fun y=>iu (.bool (y.isPrefixOf x))
 |.join=>onStr d fun x=>Gu x fun c=>Gu l fun a=>kl a fun l=>(strsOf l).bind fun ys=>if(ys.map (·.length)).sum+ys.length≤1048576 then iu (.str (dV [c] ys)) else none
 |.isdisjoint=>JD d fun s=>Gu l fun a=>onStr a fun x=>iu (.bool (x.all fun c=>!s.contains c))
noncomputable def AY(x:List Nat):Option (List Nat):=
 if x=[1] then some ((("'\\x01'":String).toList).map Char.toNat)
 else if x=[39] then some ((("\"'\"":String).toList).map Char.toNat)
 else none
noncomputable def mr(rep:Bool):D→Option (R D)
 |.str x=>if rep then(AY x).map fun y=>.ok (.str y) else if x.length≤sizeLine then iu (.str x) else none
 |.int i=>if rep then none else if 0≤i∧i<10000 then iu (.str (digits i.toNat)) else none
 |_=>none
noncomputable def lW(l:List D):Option (R D):=(strsOf l).bind fun ys=>if 2≤ys.length∧(ys.map (·.length)).sum≤sizeLine then iu (.str ys.flatten) else none
noncomputable def rQ(d:D)(x:Str):Option (R D):=JE d fun fs=>(fs.lookup x).map .ok
noncomputable def Gv(x y:D):Option (R D):=kl x fun a=>kl y fun b=>if a.length≤1024∧b.length≤1024 then iu (.list (kI (fun x y=>.tup [x,y]) a b)) else none
noncomputable def yB(x y:D):Option (R D):=kl x fun a=>kl y fun b=>(strsOf a).bind fun xs=>(strsOf b).bind fun ys=>if xs.length≤1024∧ys.length≤1024 then iu (.list ((ys.filter fun y=>xs.contains y).map .str)) else none
structure Gl where
 fn:Nat→Option (List D→Option (R D))
 glob:Nat→Option D
 qQ:D→D→D→Option (List Nat)
noncomputable def qb(n:Int):List D:=(bW n.toNat).map fun(k:Nat)=>.int k
noncomputable def lg(rng:Bool)(d:D):Option (List D):=match rng with
 |false=>kl d fun l=>if l.length≤sizeLine then some l else none
 |true=>eu d fun n=>if 0≤n∧n≤1024 then some (qb n) else none
noncomputable def mX(cond:St→Mo Bool)(elt:St→Mo D)(j:Nat):List D→St→Mo (List D)
 |[],σ=>.ok [] σ
 |d::r,σ=>(cond {σ with κ:=σ.κ.set j (some d)}).bind fun b σ=>
  if b then(elt σ).bind fun x σ=>(mX cond elt j r σ).bind fun xs σ=>.ok (x::xs) σ
  else mX cond elt j r σ
noncomputable def val(e:St→Mo D):(St→Mo D)×(St→Mo Bool):=(e,fun σ=>(e σ).bind fun x σ=>.of ((kM x).map .ok) σ)
noncomputable def peek(i:Nat)(σ:St):Mo Bool:=(σ.get i).bind fun x=>Mo.of ((kM x.d).map .ok) σ
noncomputable def iz(i:Nat)(σ:St):Mo D:=(σ.get i).bind fun x=>Mo.ok x.d (σ.put i (.val x.d))
noncomputable def JL(j:Nat)(σ:St):Mo D:=.of (((σ.κ[j]?).join).map .ok) σ
noncomputable def qc(x:D)(σ:St):Mo Bool:=.of ((kM x).map .ok) σ
noncomputable def lh(G:Gl)(f:Nat)(xs:List D)(σ:St):Mo D:=(G.fn f).bind fun F=>Mo.of (F xs) σ
noncomputable def au{α:Type}:Mo α→Mo α
 |some (.ok a,σ)=>some (.ok a,σ)
 |_=>none
noncomputable def rR:Mo D→Mo D
 |some (.ok (.str y),σ)=>some (.ok (.str y),σ)
 |_=>none
noncomputable def Ot(G:Gl)(f:Fn)(x:D)(σ:St):Mo D:=match f,x with
 |.str,.inst fs=>rR (lh G 0 [.inst fs] σ)
 |f,x=>.of (Mb f x) σ
noncomputable def jt(xs:List D)(σ:St):Mo D:=if xs.length≤sizeLine then .ok (.list xs) σ else none
noncomputable def rS(xs:List D)(σ:St):Mo D:=if xs.length≤sizeLine then .ok (.tup xs) σ else none
noncomputable def QX:D:=.inst [("useragents",.list []),("rulelines",.list []),("delay",.none),("req_rate",.none)]
noncomputable def uN(rng:Bool)(j:Nat)(cond:St→Mo Bool)(elt:St→Mo D)(x:D)(σ:St):Mo D:=(lg rng x).bind fun items=>(au (mX cond elt j items {σ with κ:=eO (j+1) none})).bind fun xs σ'=>.ok (.list xs) {σ' with κ:=[]}
noncomputable abbrev Ev:=(St→Mo D)×(St→Mo Bool)
noncomputable def fe:List Ev→St→Mo (List D)
 |[],σ=>.ok [] σ
 |e::r,σ=>(e.1 σ).bind fun x σ=>(fe r σ).bind fun xs σ=>.ok (x::xs) σ
noncomputable def AZ:List Ev→St→Mo D
 |[],_=>none
 |[e],σ=>e.1 σ
 |e::r,σ=>(e.1 σ).bind fun x σ=>(qc x σ).bind fun c σ=>if c then AZ r σ else .ok x σ
noncomputable def Ou:List Ev→St→Mo D
 |[],_=>none
 |[e],σ=>e.1 σ
 |e::r,σ=>(e.1 σ).bind fun x σ=>(qc x σ).bind fun c σ=>if c then .ok x σ else Ou r σ
noncomputable def A0:List Ev→St→Mo Bool
 |[],σ=>.ok true σ
 |e::r,σ=>(e.2 σ).bind fun c σ=>if c then A0 r σ else .ok false σ
noncomputable def Ov:List Ev→St→Mo Bool
 |[],σ=>.ok false σ
 |e::r,σ=>(e.2 σ).bind fun c σ=>if c then .ok true σ else Ov r σ
mutual
noncomputable def bo(G:Gl):PE→(St→Mo D)×(St→Mo Bool)
 |.var i=>(iz i,peek i)
 |.cvar j=>val (JL j)
 |.glob g=>val fun σ=>.of ((G.glob g).map .ok) σ
 |.a7 d=>val fun σ=>.ok d σ
 |.bin op a b=>val fun σ=>((bo G a).1 σ).bind fun x σ=>((bo G b).1 σ).bind fun y σ=>.of (rP op x y) σ
 |.cmp op a b=>val fun σ=>((bo G a).1 σ).bind fun x σ=>((bo G b).1 σ).bind fun y σ=>.of (u7 op x y) σ
 |.band l=>(AZ (bol G l),A0 (bol G l))
 |.bor l=>(Ou (bol G l),Ov (bol G l))
 |.sa a=>(fun σ=>((bo G a).1 σ).bind fun x σ=>(qc x σ).bind fun c σ=>.ok (.bool !c) σ,fun σ=>((bo G a).2 σ).bind fun c σ=>.ok (!c) σ)
 |.ite c a b=>(fun σ=>((bo G c).2 σ).bind fun x σ=>if x then(bo G a).1 σ else(bo G b).1 σ,fun σ=>((bo G c).2 σ).bind fun x σ=>if x then(bo G a).2 σ else(bo G b).2 σ)
 |.list l=>val fun σ=>(fe (bol G l) σ).bind jt
 |.tup l=>val fun σ=>(fe (bol G l) σ).bind rS
 |.sub a i=>val fun σ=>((bo G a).1 σ).bind fun x σ=>((bo G i).1 σ).bind fun y σ=>.of (tB x y) σ
 |.slice a lo hi=>val fun σ=>((bo G a).1 σ).bind fun x σ=>((bo G lo).1 σ).bind fun l σ=>((bo G hi).1 σ).bind fun h σ=>.of (km x l h) σ
 |.comp rng j iter cond elt=>val fun σ=>((bo G iter).1 σ).bind (uN rng j (Mc G cond) (bo G elt).1)
 |.call f l=>val fun σ=>(fe (bol G l) σ).bind (lh G f)
 |.dz m o l=>val fun σ=>((bo G o).1 σ).bind fun x σ=>(au (fe (bol G l) σ)).bind fun ys σ=>.of (iq m x ys) σ
 |.fn f a=>val fun σ=>((bo G a).1 σ).bind (Ot G f)
 |.fmt rep a=>val fun σ=>((bo G a).1 σ).bind fun x σ=>.of (mr rep x) σ
 |.joined l=>val fun σ=>(au (fe (bol G l) σ)).bind fun xs σ=>.of (lW xs) σ
 |.attr a x=>val fun σ=>((bo G a).1 σ).bind fun d σ=>.of (rQ d x) σ
 |.entry=>val fun σ=>.ok QX σ
 |.zip a b=>val fun σ=>((bo G a).1 σ).bind fun x σ=>((bo G b).1 σ).bind fun y σ=>.of (Gv x y) σ
 |.AW a b=>val fun σ=>((bo G a).1 σ).bind fun x σ=>(au ((bo G b).1 σ)).bind fun y σ=>.of (yB x y) σ
 |.l9 a b c=>val fun σ=>(au ((bo G a).1 σ)).bind fun x σ=>(au ((bo G b).1 σ)).bind fun y σ=>(au ((bo G c).1 σ)).bind fun z σ=>.of ((G.qQ x y z).map fun m=>.ok (.str m)) σ
termination_by structural e=>e
noncomputable def bol(G:Gl):List PE→List ((St→Mo D)×(St→Mo Bool))
 |[]=>[]
 |e::r=>bo G e::bol G r
termination_by structural l=>l
noncomputable def Mc(G:Gl):Option PE→St→Mo Bool
 |none,σ=>.ok true σ
 |some e,σ=>(bo G e).2 σ
termination_by structural l=>l
end
noncomputable abbrev ir(G:Gl)(e:PE)(σ:St):Mo D:=(bo G e).1 σ
noncomputable abbrev qR(G:Gl)(e:PE)(σ:St):Mo Bool:=(bo G e).2 σ
set_option genCtorIdx false in
inductive PS where
 |assign (i:Nat) (e:PE)
 |unpack (is:List Nat) (e:PE)
 |aug (i:Nat) (e:PE)
 |ou (i:Nat) (idx e:PE)
 |append (i:Nat) (e:PE)
 |reverse (i:Nat)
 |ju (i:Nat) (e:PE)
 |setAttr (i:Nat) (x:Str) (e:PE)
 |fj (i:Nat) (x:Str) (e:PE)
 |fm (i:Nat) (x:Str) (e:PE)
 |gz (c:PE) (a b:List PS)
 |kc (rng:Bool) (one:Bool) (is:List Nat) (iter:PE) (body:List PS)
 |tC (c:PE) (body:List PS)
 |ret (e:PE)
 |pass
 |raise (a b c:PE)
 |mu (body hand:List PS)
 |ox (body hand:List PS)
 |sb (body:List PS) (i j:Nat)
 |stuck
noncomputable abbrev PS.ctorIdx(x:PS):Nat:=PS.casesOn (motive_1:=fun _=>Nat) x (fun _ _=>0) (fun _ _=>1) (fun _ _=>2) (fun _ _ _=>3) (fun _ _=>4) (fun _=>5) (fun _ _=>6) (fun _ _ _=>7) (fun _ _ _=>8) (fun _ _ _=>9) (fun _ _ _=>10) (fun _ _ _ _ _=>11) (fun _ _=>12) (fun _=>13) 14 (fun _ _ _=>15) (fun _ _=>16) (fun _ _=>17) (fun _ _ _=>18) 19
set_option genCtorIdx false in
inductive Fl where
 |next
 |ret (d:D)
noncomputable abbrev Fl.ctorIdx(x:Fl):Nat:=Fl.casesOn (motive:=fun _=>Nat) x 0 (fun _=>1)
noncomputable def Eh(d:D):Slot:=D.casesOn (motive_1:=fun _=>Slot) d (.val d) (fun _=>.val d) (fun _=>.val d) (fun _=>.val d) (fun ds=>.own ds) (fun _=>.val d) (fun _=>.val d) (fun _=>.val d)
noncomputable def Md(d:D):Slot:=D.casesOn (motive_1:=fun _=>Slot) d (.val d) (fun _=>.val d) (fun _=>.val d) (fun _=>.val d) (fun _=>.val d) (fun _=>.val d) (fun _=>.val d) (fun _=>.obj [("useragents",.own []),("rulelines",.own []),("delay",.val .none),("req_rate",.val .none)])
noncomputable def lj(e:PE)(d:D):Slot:=PE.casesOn (motive_1:=fun _=>Slot) e (fun _=>.val d) (fun _=>.val d) (fun _=>.val d) (fun _=>.val d) (fun _ _ _=>.val d) (fun _ _ _=>.val d) (fun _=>.val d) (fun _=>.val d) (fun _=>.val d) (fun _ _ _=>.val d) (fun _=>Eh d) (fun _=>.val d) (fun _ _=>.val d) (fun _ _ _=>.val d) (fun _ _ _ _ _=>Eh d) (fun _ _=>.val d) (fun _ _ _=>.val d) (fun _ _=>.val d) (fun _ _=>.val d) (fun _=>.val d) (fun _ _=>.val d) (Md d) (fun _ _=>.val d) (fun _ _=>.val d) (fun _ _ _=>.val d)
noncomputable def putAll:List Nat→List D→St→Option St
 |[],[],σ=>some σ
 |i::is,d::ds,σ=>putAll is ds (σ.put i (.val d))
 |_,_,_=>none
noncomputable def rT(is:List Nat)(d:D)(σ:St):Mo Fl:=match d with
 |.tup ds=>(putAll is ds σ).map fun σ=>(.ok .next,σ)
 |.list ds=>(putAll is ds σ).map fun σ=>(.ok .next,σ)
 |_=>none
noncomputable def bindTo(one:Bool)(is:List Nat)(d:D)(σ:St):Option St:=match one with
 |true=>Gu is fun i=>some (σ.put i (.val d))
 |false=>JC d fun ds=>putAll is ds σ
noncomputable def ji(c:St→Mo Bool)(b:St→Mo Fl):Nat→St→Mo Fl
 |0,_=>none
 |n+1,σ=>(c σ).bind fun x σ=>if x then(b σ).bind fun f σ=>(match f with
  |.next=>ji c b n σ
  |.ret d=>.ok (.ret d) σ) else .ok .next σ
noncomputable def forM(one:Bool)(is:List Nat)(b:St→Mo Fl):List D→St→Mo Fl
 |[],σ=>.ok .next σ
 |d::r,σ=>(bindTo one is d σ).bind fun σ=>(b σ).bind fun f σ=>(match f with
  |.next=>forM one is b r σ
  |.ret d=>.ok (.ret d) σ)
noncomputable def tD(rng one:Bool)(is:List Nat)(b:St→Mo Fl)(x:D)(σ:St):Mo Fl:=(lg rng x).bind fun items=>au (forM one is b items σ)
noncomputable def JM:D→Bool
 |.int _=>true
 |.str _=>true
 |_=>false
noncomputable def A2(i:Nat)(o:Slot)(y:D)(σ:St):Mo Fl:=match o with
 |.own ds=>kl y fun es=>if ds.length+es.length≤sizeLine then Mo.ok .next (σ.put i (.own (ds++es))) else none
 |.val x=>if JM x=true then(Mo.of (JH x y) σ).bind fun z σ=>Mo.ok .next (σ.put i (.val z)) else none
 |_=>none
noncomputable def rU(i:Nat)(o:Slot)(k y:D)(σ:St):Mo Fl:=vY o fun ds=>eu k fun k=>eu y fun y=>if 0≤k∧k<2^63 then(ds[k.toNat]?).bind fun z=>eu z fun x=>Mo.ok .next (σ.put i (.own (ds.set k.toNat (.int (x+y))))) else none
noncomputable def ph(i:Nat)(o:Slot)(y:D)(σ:St):Mo Fl:=vY o fun ds=>if ds.length+1≤sizeLine then Mo.ok .next (σ.put i (.own (ds++[y]))) else none
noncomputable def v5(i:Nat)(σ:St):Mo Fl:=(σ.get i).bind fun o=>vY o fun ds=>if ds.length≤sizeLine then Mo.ok .next (σ.put i (.own ds.reverse)) else none
noncomputable def ko(i:Nat)(o:Slot)(y:D)(σ:St):Mo Fl:=vY o fun ds=>kl y fun es=>(strsOf es).bind fun _=>if ds.length+es.length≤1024 then Mo.ok .next (σ.put i (.own (ds++es))) else none
noncomputable def hidden(i:Nat)(m:Slot→St→Mo Fl)(σ:St):Mo Fl:=(σ.get i).bind fun x=>m x (σ.hide i)
noncomputable def setField:List (Str×FS)→Str→FS→List (Str×FS)
 |[],x,v=>[(x,v)]
 |(y,u)::r,x,v=>if y==x then(y,v)::r else(y,u)::setField r x v
noncomputable def nK(i:Nat)(x:Str)(y:D)(σ:St):Mo Fl:=(σ.get i).bind fun o=>yA o fun fs=>if fs.length<100 then Mo.ok .next (σ.put i (.obj (setField fs x (.val y)))) else none
noncomputable def rV(i:Nat)(x:Str)(o:Slot)(y:D)(σ:St):Mo Fl:=yA o fun fs=>kl y fun es=>(fs.lookup x).bind fun u=>vX u fun ds=>if ds.length+es.length≤sizeLine∧fs.length<100 then Mo.ok .next (σ.put i (.obj (setField fs x (.own (ds++es))))) else none
noncomputable def rW(i:Nat)(x:Str)(o:Slot)(y:D)(σ:St):Mo Fl:=yA o fun fs=>(fs.lookup x).bind fun u=>vX u fun ds=>if ds.length+1≤sizeLine then Mo.ok .next (σ.put i (.obj (setField fs x (.own (ds++[y]))))) else none
noncomputable def tE(m:Mo Fl)(h:X→Option (St→Mo Fl)):Mo Fl:=match m with
 |some (.exc x,σ)=>(h x).bind fun f=>f σ
 |m=>m
mutual
noncomputable def A3(G:Gl)(n:Nat):PS→St→Mo Fl
 |.assign i e,σ=>(ir G e σ).bind fun d σ=>.ok .next (σ.put i (lj e d))
 |.unpack is e,σ=>(ir G e σ).bind (rT is)
 |.aug i e,σ=>hidden i (fun o σ=>(au (ir G e σ)).bind (A2 i o)) σ
 |.ou i k e,σ=>hidden i (fun o σ=>(au (ir G k σ)).bind fun k σ=>(au (ir G e σ)).bind (rU i o k)) σ
 |.append i e,σ=>hidden i (fun o σ=>(au (ir G e σ)).bind (ph i o)) σ
 |.reverse i,σ=>v5 i σ
 |.ju i e,σ=>hidden i (fun o σ=>(au (ir G e σ)).bind (ko i o)) σ
 |.setAttr i x e,σ=>(ir G e σ).bind (nK i x)
 |.fj i x e,σ=>hidden i (fun o σ=>(au (ir G e σ)).bind (rV i x o)) σ
 |.fm i x e,σ=>hidden i (fun o σ=>(au (ir G e σ)).bind (rW i x o)) σ
 |.gz c a b,σ=>(qR G c σ).bind fun x σ=>if x then cx G n a σ else cx G n b σ
 |.kc rng one is iter body,σ=>(ir G iter σ).bind (tD rng one is (cx G n body))
 |.tC c body,σ=>ji (qR G c) (cx G n body) n σ
 |.ret e,σ=>(ir G e σ).bind fun d σ=>.ok (.ret d) σ
 |.pass,σ=>.ok .next σ
 |.raise a b c,σ=>(au (ir G a σ)).bind fun x σ=>(au (ir G b σ)).bind fun y σ=>(au (ir G c σ)).bind fun z σ=>match G.qQ x y z with
  |some m=>some (.exc (.mU m),σ)
  |none=>none
 |.mu body hand,σ=>tE (cx G n body σ) fun x=>match x with
  |.index=>some (cx G n hand)
  |_=>none
 |.ox body hand,σ=>tE (cx G n body σ) fun x=>match x with
  |.value=>some (cx G n hand)
  |_=>none
 |.sb body i j,σ=>tE (cx G n body σ) fun x=>match x with
  |.mU m=>some fun σ=>(iz i (σ.hide j)).bind fun d σ=>.ok (.ret (.tup [d,.str m])) σ
  |_=>none
 |.stuck,_=>none
termination_by structural e=>e
noncomputable def cx(G:Gl)(n:Nat):List PS→St→Mo Fl
 |[],σ=>.ok .next σ
 |p::r,σ=>(A3 G n p σ).bind fun f σ=>match f with
  |.next=>cx G n r σ
  |.ret d=>.ok (.ret d) σ
termination_by structural l=>l
end
noncomputable def ll(G:Gl)(n:Nat)(vars:Nat)(body:List PS)(args:List D):Option (R D):=
 match cx G n body {ρ:=args.map (fun d=>some (.val d))++eO (vars-args.length) none,κ:=[]} with
 |some (.ok .next,_)=>some (.ok .none)
 |some (.ok (.ret d),_)=>some (.ok d)
 |some (.exc x,_)=>some (.exc x)
 |none=>none
end Mine.Internal
namespace Mine.Internal
open PySem
noncomputable def lF:List PS:=[
 .mu [
  .tC (.cmp .tA (.sub (.var 0) (.var 1)) (.var 2)) [
   .aug 1 (.a7 (.int 1))]] [
  .stuck],
 .ret (.var 1)]
noncomputable def lG:List PS:=[
 .ox [
  .assign 5 (.dz .index (.var 0) [(.var 2),(.var 1)])] [
  .stuck],
 .gz (.sa (.dz .isdisjoint (.var 3) [(.slice (.var 0) (.var 1) (.var 5))])) [
  .tC (.cmp .xM (.sub (.var 0) (.var 1)) (.var 3)) [
   .aug 1 (.a7 (.int 1))],
  .raise (.var 0) (.var 1) (.joined [(.a7 (.str [70,111,117,110,100,32,105,110,118,97,108,105,100,32,99,104,97,114,97,99,116,101,114,32])),(.fmt true (.sub (.var 0) (.var 1)))])] [],
 .ret (.var 5)]
noncomputable def j6:List PS:=[
 .mu [
  .assign 2 (.sub (.var 0) (.var 1))] [
  .stuck],
 .gz (.cmp .eq (.var 2) (.a7 (.str [35]))) [
  .ret (.call 2 [(.var 0),(.bin .add (.var 1) (.a7 (.int 1))),(.a7 (.str [10])),(.glob 0),(.a7 (.bool false))])] [],
 .ret (.var 1)]
noncomputable def d4:List PS:=[
 .tC (.a7 (.bool true)) [
  .assign 2 (.var 1),
  .assign 1 (.call 1 [(.var 0),(.var 1),(.glob 2)]),
  .assign 1 (.call 3 [(.var 0),(.var 1)]),
  .gz (.cmp .eq (.var 1) (.var 2)) [
   .ret (.var 1)] []]]
noncomputable def d3:List PS:=[
 .aug 1 (.a7 (.int 1)),
 .assign 2 (.var 1),
 .assign 1 (.call 2 [(.var 0),(.var 1),(.a7 (.str [39])),(.glob 1),(.a7 (.bool true))]),
 .ret (.tup [(.bin .add (.var 1) (.a7 (.int 1))),(.slice (.var 0) (.var 2) (.var 1))])]
noncomputable def bz:List PS:=[
 .gz (.cmp .ge (.var 1) (.fn .len (.var 0))) [
  .ret (.a7 (.str [101,110,100,32,111,102,32,100,111,99,117,109,101,110,116]))] [],
 .assign 2 (.bin .add (.dz .count (.var 0) [(.a7 (.str [10])),(.a7 (.int 0)),(.var 1)]) (.a7 (.int 1))),
 .gz (.cmp .eq (.var 2) (.a7 (.int 1))) [
  .assign 3 (.bin .add (.var 1) (.a7 (.int 1)))] [
  .assign 3 (.bin .sub (.var 1) (.dz .rindex (.var 0) [(.a7 (.str [10])),(.a7 (.int 0)),(.var 1)]))],
 .ret (.joined [(.a7 (.str [108,105,110,101,32])),(.fmt false (.var 2)),(.a7 (.str [44,32,99,111,108,117,109,110,32])),(.fmt false (.var 3))])]
noncomputable def lX:List PS:=[
 .gz (.sa (.attr (.var 0) (Str.ofString "useragents"))) [
  .ret (.a7 (.str []))] [],
 .assign 1 (.list []),
 .kc false true [2] (.attr (.var 0) (Str.ofString "useragents")) [
  .append 1 (.joined [(.a7 (.str [85,115,101,114,45,97,103,101,110,116,58,32])),(.fmt false (.var 2))])],
 .gz (.cmp .l0 (.attr (.var 0) (Str.ofString "delay")) (.a7 .none)) [
  .append 1 (.joined [(.a7 (.str [67,114,97,119,108,45,100,101,108,97,121,58,32])),(.fmt false (.attr (.var 0) (Str.ofString "delay")))])] [],
 .gz (.cmp .l0 (.attr (.var 0) (Str.ofString "req_rate")) (.a7 .none)) [
  .assign 3 (.attr (.var 0) (Str.ofString "req_rate")),
  .append 1 (.joined [(.a7 (.str [82,101,113,117,101,115,116,45,114,97,116,101,58,32])),(.fmt false (.attr (.var 3) (Str.ofString "requests"))),(.a7 (.str [47])),(.fmt false (.attr (.var 3) (Str.ofString "seconds")))])] [],
 .gz (.attr (.var 0) (Str.ofString "rulelines")) [
  .ju 1 (.attr (.var 0) (Str.ofString "rulelines"))] [
  .append 1 (.a7 (.str [65,108,108,111,119,58]))],
 .ret (.dz .join (.a7 (.str [10])) [(.var 1)])]
noncomputable def lx:List PS:=[
 .assign 2 .entry,
 .setAttr 2 (Str.ofString "useragents") (.AW (.attr (.var 1) (Str.ofString "useragents")) (.attr (.var 0) (Str.ofString "useragents"))),
 .setAttr 2 (Str.ofString "rulelines") (.bin .add (.attr (.var 0) (Str.ofString "rulelines")) (.attr (.var 1) (Str.ofString "rulelines"))),
 .setAttr 2 (Str.ofString "delay") (.ite (.cmp .isNone (.attr (.var 1) (Str.ofString "delay")) (.a7 .none)) (.attr (.var 0) (Str.ofString "delay")) (.attr (.var 1) (Str.ofString "delay"))),
 .setAttr 2 (Str.ofString "req_rate") (.ite (.cmp .isNone (.attr (.var 1) (Str.ofString "req_rate")) (.a7 .none)) (.attr (.var 0) (Str.ofString "req_rate")) (.attr (.var 1) (Str.ofString "req_rate"))),
 .ret (.var 2)]
noncomputable def mY:List PS:=[
 .assign 1 (.list [(.a7 (.int 40)),(.a7 (.int 71)),(.a7 (.int 24)),(.a7 (.int 3)),(.a7 (.int 32)),(.a7 (.int 15)),(.a7 (.int 86)),(.a7 (.int 7)),(.a7 (.int 0)),(.a7 (.int 0)),(.a7 (.int 403))]),
 .kc true true [2] (.fn .len (.var 0)) [
  .ou 1 (.bin .mod (.var 2) (.a7 (.int 11))) (.sub (.var 0) (.var 2))],
 .ret (.var 1)]
noncomputable def qd:List PS:=[
 .assign 1 (.list [(.tup [(.a7 (.str [102,105,103])),(.list [(.a7 (.str [102,105,103]))]),(.a7 (.str [])),(.a7 (.int 0))]),(.tup [(.a7 (.str [105,116,39,115])),(.list [(.a7 (.str [105,116]))]),(.a7 (.str [85,110,99,108,111,115,101,100,32,97,114,114,97,121])),(.a7 (.int 3))]),(.tup [(.a7 (.str [97,1,98])),(.list []),(.a7 (.str [70,111,117,110,100,32,105,110,118,97,108,105,100,32,99,104,97,114,97,99,116,101,114,32,39,92,120,48,49,39])),(.a7 (.int 1))])]),
 .aug 1 (.list [(.tup [(.a7 (.str [35,32,49])),(.list [(.a7 (.str [35,32,49]))]),(.a7 (.str [])),(.a7 (.int 0))]),(.tup [(.a7 (.str [97,39,44,32,39,98])),(.list [(.a7 (.str [97])),(.a7 (.str [98]))]),(.a7 (.str [])),(.a7 (.int 0))]),(.tup [(.a7 (.str [97,39,44,32,35,32,98])),(.list [(.a7 (.str [97]))]),(.a7 (.str [])),(.a7 (.int 0))])]),
 .aug 1 (.list [(.tup [(.a7 (.str [97,39,44,91])),(.list [(.a7 (.str [97]))]),(.a7 (.str [73,110,118,97,108,105,100,32,118,97,108,117,101])),(.a7 (.int 3))]),(.tup [(.a7 (.str [])),(.list [(.a7 (.str []))]),(.a7 (.str [])),(.a7 (.int 0))]),(.tup [(.a7 (.str [97,39,44,39])),(.list [(.a7 (.str [97])),(.a7 (.str []))]),(.a7 (.str [])),(.a7 (.int 0))])]),
 .ret (.sub (.var 1) (.bin .mod (.var 0) (.a7 (.int 10))))]
noncomputable def qe:List PS:=[
 .ret (.sub (.list [(.a7 (.str [68,105,115,97,108,108,111,119,58,32,47])),(.a7 (.str [65,108,108,111,119,58,32,47])),(.a7 (.str [83,105,116,101,109,97,112,58,32]))]) (.bin .mod (.bin .fdiv (.var 0) (.a7 (.int 10))) (.a7 (.int 3))))]
noncomputable def gh:List PS:=[
 .ret (.comp false 1 (.var 0) (some (.cmp .lt (.bin .mod (.cvar 1) (.a7 (.int 10))) (.a7 (.int 9)))) (.cvar 1))]
noncomputable def nj:List PS:=[
 .assign 1 .entry,
 .setAttr 1 (Str.ofString "requests") (.bin .mod (.var 0) (.a7 (.int 50))),
 .setAttr 1 (Str.ofString "seconds") (.bin .mod (.bin .fdiv (.var 0) (.a7 (.int 50))) (.a7 (.int 50))),
 .ret (.var 1)]
noncomputable def nk:List PS:=[
 .assign 1 .entry,
 .assign 2 .entry,
 .assign 3 (.comp false 1 (.call 11 [(.slice (.var 0) (.a7 .none) (.a7 (.int 4)))]) none (.sub (.call 9 [(.cvar 1)]) (.a7 (.int 0)))),
 .assign 4 (.comp false 1 (.call 11 [(.slice (.var 0) (.a7 .none) (.a7 (.int 4)))]) (some (.bin .mod (.bin .fdiv (.cvar 1) (.a7 (.int 10))) (.a7 (.int 3)))) (.sub (.call 9 [(.cvar 1)]) (.a7 (.int 0)))),
 .reverse 4,
 .assign 5 (.comp false 1 (.call 11 [(.slice (.var 0) (.a7 (.int 4)) (.a7 (.int 6)))]) none (.bin .add (.call 10 [(.cvar 1)]) (.sub (.call 9 [(.cvar 1)]) (.a7 (.int 0))))),
 .assign 6 (.comp false 1 (.call 11 [(.slice (.var 0) (.a7 (.int 6)) (.a7 (.int 7)))]) none (.bin .add (.call 10 [(.cvar 1)]) (.sub (.call 9 [(.cvar 1)]) (.a7 (.int 0))))),
 .fj 1 (Str.ofString "useragents") (.var 3),
 .fj 2 (Str.ofString "useragents") (.bin .add (.list [(.a7 (.str [122,101,100]))]) (.var 4)),
 .fj 1 (Str.ofString "rulelines") (.var 5),
 .fj 2 (Str.ofString "rulelines") (.var 6),
 .setAttr 1 (Str.ofString "delay") (.ite (.bin .mod (.sub (.var 0) (.a7 (.int 7))) (.a7 (.int 4))) (.bin .mod (.sub (.var 0) (.a7 (.int 7))) (.a7 (.int 50))) (.a7 .none)),
 .setAttr 2 (Str.ofString "delay") (.ite (.bin .mod (.sub (.var 0) (.a7 (.int 8))) (.a7 (.int 4))) (.bin .mod (.sub (.var 0) (.a7 (.int 8))) (.a7 (.int 50))) (.a7 .none)),
 .setAttr 1 (Str.ofString "req_rate") (.ite (.bin .mod (.sub (.var 0) (.a7 (.int 9))) (.a7 (.int 4))) (.call 12 [(.sub (.var 0) (.a7 (.int 9)))]) (.a7 .none)),
 .setAttr 2 (Str.ofString "req_rate") (.ite (.bin .mod (.sub (.var 0) (.a7 (.int 10))) (.a7 (.int 4))) (.call 12 [(.sub (.var 0) (.a7 (.int 10)))]) (.a7 .none)),
 .assign 7 (.call 7 [(.var 1),(.var 2)]),
 .assign 8 (.band [(.cmp .eq (.attr (.var 1) (Str.ofString "useragents")) (.var 3)),(.cmp .eq (.attr (.var 2) (Str.ofString "useragents")) (.bin .add (.list [(.a7 (.str [122,101,100]))]) (.var 4))),(.cmp .eq (.attr (.var 1) (Str.ofString "rulelines")) (.var 5)),(.cmp .eq (.attr (.var 2) (Str.ofString "rulelines")) (.var 6))]),
 .ret (.tup [(.var 7),(.var 8)])]
noncomputable def qf:List PS:=[
 .assign 1 (.call 11 [(.slice (.var 0) (.a7 .none) (.a7 (.int 4)))]),
 .assign 3 (.comp false 1 (.var 1) (some (.bin .mod (.bin .fdiv (.cvar 1) (.a7 (.int 10))) (.a7 (.int 3)))) (.sub (.call 9 [(.cvar 1)]) (.a7 (.int 0)))),
 .assign 4 (.comp false 1 (.var 1) (some (.cmp .tA (.sub (.call 9 [(.cvar 1)]) (.a7 (.int 0))) (.var 3))) (.bin .add (.bin .add (.tup [(.a7 (.str [85,115,101,114,45,97,103,101,110,116,58,32]))]) (.call 9 [(.cvar 1)])) (.tup [(.bin .mod (.bin .fdiv (.cvar 1) (.a7 (.int 30))) (.a7 (.int 3)))]))),
 .gz (.sa (.var 4)) [
  .ret (.list [(.tup [(.a7 (.str [])),(.a7 (.str [])),(.list [(.a7 (.str []))]),(.a7 (.str [])),(.a7 (.int 0)),(.a7 (.int 0))])])] [],
 .assign 5 (.ite (.bin .mod (.sub (.var 0) (.a7 (.int 8))) (.a7 (.int 4))) (.sub (.var 0) (.a7 (.int 8))) (.sub (.var 0) (.a7 (.int 7)))),
 .gz (.bin .mod (.var 5) (.a7 (.int 4))) [
  .assign 6 (.fn .str (.bin .mod (.var 5) (.a7 (.int 50)))),
  .append 4 (.tup [(.a7 (.str [67,114,97,119,108,45,100,101,108,97,121,58,32])),(.var 6),(.list [(.var 6)]),(.a7 (.str [])),(.a7 (.int 0)),(.bin .mod (.bin .fdiv (.var 5) (.a7 (.int 30))) (.a7 (.int 3)))])] [],
 .assign 7 (.ite (.bin .mod (.sub (.var 0) (.a7 (.int 10))) (.a7 (.int 4))) (.sub (.var 0) (.a7 (.int 10))) (.sub (.var 0) (.a7 (.int 9)))),
 .gz (.bin .mod (.var 7) (.a7 (.int 4))) [
  .assign 6 (.bin .add (.bin .add (.fn .str (.bin .mod (.var 7) (.a7 (.int 50)))) (.a7 (.str [47]))) (.fn .str (.bin .mod (.bin .fdiv (.var 7) (.a7 (.int 50))) (.a7 (.int 50))))),
  .append 4 (.tup [(.a7 (.str [82,101,113,117,101,115,116,45,114,97,116,101,58,32])),(.var 6),(.list [(.var 6)]),(.a7 (.str [])),(.a7 (.int 0)),(.bin .mod (.bin .fdiv (.var 7) (.a7 (.int 30))) (.a7 (.int 3)))])] [],
 .assign 8 (.call 11 [(.slice (.var 0) (.a7 (.int 4)) (.a7 (.int 7)))]),
 .gz (.sa (.var 8)) [
  .append 4 (.tup [(.a7 (.str [65,108,108,111,119,58])),(.a7 (.str [])),(.list [(.a7 (.str []))]),(.a7 (.str [])),(.a7 (.int 0)),(.a7 (.int 0))])] [],
 .kc false true [2] (.var 8) [
  .append 4 (.bin .add (.bin .add (.tup [(.call 10 [(.var 2)])]) (.call 9 [(.var 2)])) (.tup [(.bin .mod (.bin .fdiv (.var 2) (.a7 (.int 30))) (.a7 (.int 3)))]))],
 .ret (.var 4)]
noncomputable def mv:List PS:=[
 .assign 1 (.a7 (.str [91,10])),
 .assign 2 (.list []),
 .kc false false [3,4] (.var 0) [
  .gz (.cmp .eq (.var 4) (.a7 (.int 2))) [
   .aug 1 (.a7 (.str [9,35,32,49,10,10]))] [],
  .append 2 (.bin .add (.dz .count (.var 1) [(.a7 (.str [10]))]) (.a7 (.int 1))),
  .aug 1 (.bin .add (.bin .add (.bin .add (.bin .add (.a7 (.str [39])) (.var 3)) (.a7 (.str [39,44]))) (.ite (.cmp .eq (.var 4) (.a7 (.int 1))) (.a7 (.str [32,35,32,105,116,39,115,44,32,91,39])) (.a7 (.str [])))) (.a7 (.str [10])))],
 .ret (.tup [(.bin .add (.var 1) (.a7 (.str [93]))),(.var 2)])]
noncomputable def ly:List PS:=[
 .assign 1 (.list []),
 .sb [
  .assign 2 (.call 4 [(.var 0),(.a7 (.int 1))]),
  .tC (.cmp .ne (.slice (.var 0) (.var 2) (.bin .add (.var 2) (.a7 (.int 1)))) (.a7 (.str [93]))) [
   .gz (.cmp .ne (.slice (.var 0) (.var 2) (.bin .add (.var 2) (.a7 (.int 1)))) (.a7 (.str [39]))) [
    .ret (.tup [(.var 1),(.l9 (.var 0) (.var 2) (.a7 (.str [73,110,118,97,108,105,100,32,118,97,108,117,101])))])] [],
   .unpack [2,3] (.call 5 [(.var 0),(.var 2)]),
   .append 1 (.var 3),
   .assign 2 (.call 4 [(.var 0),(.var 2)]),
   .gz (.cmp .ne (.slice (.var 0) (.var 2) (.bin .add (.var 2) (.a7 (.int 1)))) (.a7 (.str [44]))) [
    .ret (.tup [(.var 1),(.l9 (.var 0) (.var 2) (.a7 (.str [85,110,99,108,111,115,101,100,32,97,114,114,97,121])))])] [],
   .assign 2 (.call 4 [(.var 0),(.bin .add (.var 2) (.a7 (.int 1)))])]] 1 4,
 .ret (.tup [(.var 1),(.a7 (.str []))])]
noncomputable def nq:List PS:=[
 .assign 1 (.list []),
 .assign 2 (.var 0),
 .kc true true [3] (.bin .add (.fn .len (.var 0)) (.a7 (.int 1))) [
  .unpack [4,5] (.call 15 [(.var 2)]),
  .unpack [6,7] (.call 16 [(.var 4)]),
  .append 1 (.tup [(.var 6),(.var 7)]),
  .gz (.cmp .eq (.var 7) (.a7 (.str []))) [
   .ret (.var 1)] [],
  .assign 8 (.dz .split (.var 7) [(.a7 (.str [108,105,110,101,32]))]),
  .assign 9 (.ite (.cmp .eq (.fn .len (.var 8)) (.a7 (.int 2))) (.fn .int (.sub (.dz .split (.sub (.var 8) (.a7 (.int 1))) [(.a7 (.str [44]))]) (.a7 (.int 0)))) (.a7 (.int 0))),
  .assign 2 (.comp true 1 (.fn .len (.var 2)) (some (.cmp .ne (.sub (.var 5) (.cvar 1)) (.var 9))) (.sub (.var 2) (.cvar 1)))],
 .ret (.var 1)]
noncomputable def tF:List PS:=[
 .assign 1 (.list []),
 .assign 2 (.var 0),
 .kc true true [3] (.bin .add (.fn .len (.var 0)) (.a7 (.int 1))) [
  .assign 4 (.list []),
  .assign 5 (.a7 (.str [])),
  .assign 6 (.a7 (.int 1)),
  .assign 7 (.fn .len (.var 2)),
  .kc true true [8] (.fn .len (.var 2)) [
   .unpack [9,10,11,12,13,14] (.sub (.var 2) (.var 8)),
   .gz (.cmp .eq (.var 5) (.a7 (.str []))) [
    .aug 6 (.ite (.cmp .eq (.var 14) (.a7 (.int 2))) (.a7 (.int 3)) (.a7 (.int 1))),
    .aug 4 (.ite (.var 11) (.bin .add (.list [(.bin .add (.var 9) (.sub (.var 11) (.a7 (.int 0))))]) (.slice (.var 11) (.a7 (.int 1)) (.a7 .none))) (.list [])),
    .gz (.var 12) [
     .assign 5 (.bin .add (.bin .add (.bin .add (.bin .add (.bin .add (.var 12) (.a7 (.str [32,40,97,116,32,108,105,110,101,32]))) (.fn .str (.var 6))) (.a7 (.str [44,32,99,111,108,117,109,110,32]))) (.fn .str (.bin .add (.bin .add (.fn .len (.var 9)) (.var 13)) (.a7 (.int 2))))) (.a7 (.str [41]))),
     .assign 7 (.var 8)] []] []],
  .append 1 (.tup [(.var 4),(.var 5)]),
  .gz (.cmp .eq (.var 5) (.a7 (.str []))) [
   .ret (.var 1)] [],
  .assign 2 (.bin .add (.slice (.var 2) (.a7 .none) (.var 7)) (.slice (.var 2) (.bin .add (.var 7) (.a7 (.int 1))) (.a7 .none)))],
 .ret (.var 1)]
noncomputable def nr:List PS:=[
 .assign 1 (.comp false 1 (.var 0) (some (.dz .startswith (.cvar 1) [(.a7 (.str [85,115,101,114,45,97,103,101,110,116,58,32]))])) (.cvar 1)),
 .assign 2 (.comp false 1 (.var 0) (some (.dz .startswith (.cvar 1) [(.a7 (.str [67,114,97,119,108,45,100,101,108,97,121,58,32]))])) (.cvar 1)),
 .assign 3 (.comp false 1 (.var 0) (some (.dz .startswith (.cvar 1) [(.a7 (.str [82,101,113,117,101,115,116,45,114,97,116,101,58,32]))])) (.cvar 1)),
 .assign 4 (.comp false 1 (.var 0) (some (.band [(.cmp .xM (.cvar 1) (.var 1)),(.cmp .xM (.cvar 1) (.var 2)),(.cmp .xM (.cvar 1) (.var 3))])) (.cvar 1)),
 .ret (.tup [(.var 1),(.var 2),(.var 3),(.var 4)])]
noncomputable def qg:List PS:=[
 .unpack [1,2,3,4] (.call 19 [(.var 0)]),
 .assign 5 .entry,
 .kc false true [6] (.var 1) [
  .fm 5 (Str.ofString "useragents") (.slice (.var 6) (.a7 (.int 12)) (.a7 .none))],
 .kc false true [6] (.var 2) [
  .setAttr 5 (Str.ofString "delay") (.fn .int (.slice (.var 6) (.a7 (.int 13)) (.a7 .none)))],
 .kc false true [6] (.var 3) [
  .unpack [7,8] (.dz .split (.slice (.var 6) (.a7 (.int 14)) (.a7 .none)) [(.a7 (.str [47]))]),
  .setAttr 5 (Str.ofString "req_rate") (.call 12 [(.bin .add (.fn .int (.var 7)) (.bin .mul (.a7 (.int 50)) (.fn .int (.var 8))))])],
 .kc false true [6] (.var 4) [
  .fm 5 (Str.ofString "rulelines") (.var 6)],
 .ret (.var 5)]
noncomputable def nu:List PS:=[
 .unpack [1,2,3,4] (.call 19 [(.var 0)]),
 .gz (.sa (.var 1)) [
  .ret (.list [(.a7 (.str []))])] [],
 .ret (.bin .add (.bin .add (.bin .add (.var 1) (.var 2)) (.var 3)) (.ite (.var 4) (.var 4) (.list [(.a7 (.str [65,108,108,111,119,58]))])))]
noncomputable def Gw:List PS:=[
 .assign 1 (.call 8 [(.var 0)]),
 .unpack [2,3] (.call 13 [(.var 1)]),
 .assign 4 (.call 14 [(.var 1)]),
 .assign 5 (.dz .split (.fn .str (.var 2)) [(.a7 (.str [10]))]),
 .gz (.bor [(.sa (.var 3)),(.cmp .ne (.var 5) (.comp false 1 (.var 4) none (.bin .add (.sub (.cvar 1) (.a7 (.int 0))) (.sub (.cvar 1) (.a7 (.int 1))))))]) [
  .ret (.a7 (.bool false))] [],
 .assign 6 (.call 17 [(.zip (.var 5) (.comp false 1 (.var 4) none (.sub (.cvar 1) (.a7 (.int 5)))))]),
 .assign 7 (.call 18 [(.var 4)]),
 .gz (.cmp .ne (.var 6) (.var 7)) [
  .ret (.a7 (.bool false))] [],
 .assign 8 (.sub (.sub (.var 6) (.a7 (.int (-1)))) (.a7 (.int 0))),
 .assign 9 (.dz .split (.fn .str (.call 20 [(.var 8)])) [(.a7 (.str [10]))]),
 .unpack [10,11] (.call 15 [(.comp false 1 (.var 9) none (.tup [(.cvar 1),(.a7 (.int 0))]))]),
 .ret (.band [(.cmp .eq (.var 9) (.call 21 [(.var 8)])),(.cmp .eq (.call 16 [(.var 10)]) (.tup [(.var 9),(.a7 (.str []))]))])]
end Mine.Internal
namespace Mine.Internal
open PySem PyProof.Rows
theorem rK.fr(l:List Addr)(x:rK C h):rK {C with FR:=l} h:=⟨x.tab⟩
theorem HI.fr(l:List Addr)(x:HI C fz h):HI {C with FR:=l} fz h:=⟨x.base,x.fi,x.M8,x.place.fr l⟩
theorem Bc.Ok.fr{C:Bc}(l:List Addr)(x:C.Ok):Bc.Ok {C with FR:=l}:=⟨x.g,x.b,x.lim,x.gP,x.bP,x.sP,x.Zd⟩
structure Ac where
 C:Bc
 A:Around
 env:Env
 outer:List Env
 h₀:Heap
 bk:Fz
 os:OsState
 n:Nat
 snap:Str→Value→Prop
noncomputable abbrev Ac.L(c:Ac):Addr:=c.env.locals
structure Ac.Ok(c:Ac):Prop where
 K:c.C.Ok
 room:u6 c.n c.A
 fr:c.A.frames=some (c.env::c.outer)
 FR:c.C.FR=(c.env::c.outer).filterMap (·.frame)
 kind:c.env.scope.kind=.function
 frame:c.env.frame=some c.env.locals
 glob:c.env.globals=eH
 Gx:c.env.builtins=fB
 pj:(c.env.scope.names.map (·.1)).Nodup
 base:HI c.C c.bk c.h₀
 rJ:c.C.rJ.le c.bk
 u9:c.h₀.get? c.L=none
 Gy:∀x a,(x,a)∈c.env.cells→c.h₀.get? a=none
 nL:∀x,c.env.scope.names.lookup x=some .cell→∃a,c.env.cells.lookup x=some a
 apart:c.env.cells.Pairwise fun x y=>x.2≠y.2
 pk:∀e∈c.outer,e.scope.kind≠.module∧∃L,e.frame=some L∧L≠c.C.P∧c.C.B.get? L=none∧∃o es n,c.h₀.get? L=some o∧o.data=.dict es n
set_option genCtorIdx false in
inductive GF where
 |val (d:D)
 |own (a:Addr) (ds:List D)
noncomputable abbrev GF.ctorIdx(x:GF):Nat:=GF.casesOn (motive:=fun _=>Nat) x (fun _=>0) (fun _ _=>1)
set_option genCtorIdx false in
inductive GS where
 |val (d:D)
 |own (a:Addr) (ds:List D)
 |obj (a dA:Addr) (fs:List (Str×GF))
noncomputable abbrev GS.ctorIdx(x:GS):Nat:=GS.casesOn (motive:=fun _=>Nat) x (fun _=>0) (fun _ _=>1) (fun _ _ _=>2)
noncomputable def GF.erase:GF→FS
 |.val d=>.val d
 |.own _ ds=>.own ds
noncomputable def GF.addrs:GF→List Addr
 |.val _=>[]
 |.own a _=>[a]
noncomputable def GS.erase:GS→Slot
 |.val d=>.val d
 |.own _ ds=>.own ds
 |.obj _ _ fs=>.obj (fs.map fun x=>(x.1,x.2.erase))
noncomputable def GS.addrs:GS→List Addr
 |.val _=>[]
 |.own a _=>[a]
 |.obj a dA fs=>a::dA::fs.flatMap fun x=>x.2.addrs
noncomputable def bw(h:Heap)(a:Addr)(vs:Array Value):Prop:=∃n sl,h.get? a=some ⟨.type "list",none,.seq vs n,sl⟩
noncomputable def oy(EC:Addr)(fz:Fz)(h:Heap):GF→Value→Prop
 |.val d,v=>Rep EC fz d v
 |.own a ds,v=>v=.ref a∧∃vs,bw h a vs∧a8 EC fz ds vs.toList
noncomputable def gj(EC:Addr)(fz:Fz)(h:Heap):List (Str×GF)→List cQ→Prop
 |[],es=>es=[]
 |(x,g)::fs,es=>∃e r t,es=e::r∧e.key=.str x t∧oy EC fz h g e.val∧gj EC fz h fs r
noncomputable def mw(EC:Addr)(fz:Fz)(h:Heap):GS→Value→Prop
 |.val d,v=>Rep EC fz d v
 |.own a ds,v=>v=.ref a∧∃vs,bw h a vs∧a8 EC fz ds vs.toList
 |.obj a dA fs,v=>v=.ref a∧∃sl es n pY,h.get? a=some ⟨.ref EC,some dA,.plain,sl⟩∧h.get? dA=some ⟨.type "dict",none,.dict es n,pY⟩∧gj EC fz h fs es.toList
section
variable{EC:Addr}{fz ae:Fz}{h h':Heap}
theorem oy.keep{g:GF}(x:oy EC fz h g v)(le:fz.le ae)(k:∀a∈g.addrs,∀o,h.get? a=some o→h'.get? a=some o):oy EC ae h' g v:=by
 cases g with
 |val d=>exact Rep.mono le d v x
 |own a ds=>
  obtain⟨e,vs,⟨n,sl,l⟩,r⟩:=x;exact⟨e,vs,⟨n,sl,k a (by simp[GF.addrs]) _ l⟩,a8.mono le _ _ r⟩
theorem gj.keep:∀{fs:List (Str×GF)} {es:List cQ},gj EC fz h fs es→fz.le ae→(∀a∈fs.flatMap (fun x=>x.2.addrs),∀o,h.get? a=some o→h'.get? a=some o)→gj EC ae h' fs es
 |[],_,x,_,_=>x
 |(n,g)::fs,_,x,le,k=>by
  obtain⟨e,r,t,a,b,c,d⟩:=x;exact⟨e,r,t,a,b,c.keep le (fun a ha=>k a (by simp[ha])),d.keep le (fun a ha=>k a (by simp at ha ⊢;exact .inr ha))⟩
theorem mw.keep{g:GS}(x:mw EC fz h g v)(le:fz.le ae)(k:∀a∈g.addrs,∀o,h.get? a=some o→h'.get? a=some o):mw EC ae h' g v:=by
 cases g with
 |val d=>exact Rep.mono le d v x
 |own a ds=>
  obtain⟨e,vs,⟨n,sl,l⟩,r⟩:=x;exact⟨e,vs,⟨n,sl,k a (by simp[GS.addrs]) _ l⟩,a8.mono le _ _ r⟩
 |obj a dA fs=>
  obtain⟨e,sl,es,n,pY,h1,h2,r⟩:=x;exact⟨e,sl,es,n,pY,k a (by simp[GS.addrs]) _ h1,k dA (by simp[GS.addrs]) _ h2,r.keep le fun b hb=>k b (by simp only[GS.addrs,aO];exact .inr (.inr hb))⟩
end
noncomputable def Ei(h:Heap)(a:Addr):Prop:=∃o,h.get? a=some o∧∀vs,o.data≠.fields vs
theorem oy.own{g:GF}(r:oy EC fz h g v):∀a∈g.addrs,Ei h a:=fun a ha=>by
 cases g with
 |val d=>cases ha
 |own b ds=>
  cases aK.mp ha;obtain⟨_,vs,⟨n,sl,l⟩,_⟩:=r;exact⟨_,l,nofun⟩
theorem gj.own:∀{fs:List (Str×GF)} {es:List cQ},gj EC fz h fs es→∀a∈fs.flatMap (fun x=>x.2.addrs),Ei h a
 |[],_,_,a,ha=>nomatch ha
 |(n,g)::fs,_,x,a,ha=>by
  obtain⟨e,q,t,_,_,c1,c2⟩:=x;exact(cB.mp ha).elim (c1.own a) (c2.own a)
theorem mw.own{g:GS}(r:mw EC fz h g v):∀a∈g.addrs,Ei h a:=fun a ha=>by
 cases g with
 |val d=>cases ha
 |own b ds=>exact oy.own (g:=.own b ds) r a ha
 |obj b dA fs=>
  obtain⟨_,sl,es,n,pY,h1,h2,r⟩:=r;rcases aO.mp ha with rfl|ha
  ·exact⟨_,h1,nofun⟩
  ·rcases aO.mp ha with rfl|ha
   ·exact⟨_,h2,nofun⟩
   ·exact r.own a ha
theorem mw.there{h:Heap}{g:GS}(r:mw EC fz h g v)(a:Addr)(ha:a∈g.addrs):∃o,h.get? a=some o:=let ⟨o,e,_⟩:=r.own a ha;⟨o,e⟩
noncomputable def fo(c:Ac)(h:Heap)(x:Str)(v:Value):Prop:=
 (c.env.scope.names.lookup x=some .local∧∃m,h.Ns c.L m∧m x=some v)∨
 (c.env.scope.names.lookup x=some .cell∧∃a,c.env.cells.lookup x=some a∧h.IsCell a (some v))
structure mZ(c:Ac)(fz:Fz)(a:Addr):Prop where
 new:c.h₀.get? a=none
 fz:fz a=none
 L:a≠c.L
 cells:∀x b,(x,b)∈c.env.cells→a≠b
structure jj(c:Ac)(fz:Fz)(s:Shared)(γ:Nat→Option GS):Prop where
 snap:∀y v,c.snap y v→fo c s.heap y v
 kp:Kp c.C.P c.C.FR c.h₀ s.heap
 hi:HI c.C fz s.heap
 le:c.bk.le fz
 new:∀b,fz b≠none→c.bk b≠none∨c.h₀.get? b=none
 gens:s.gens=#[]
 os:s.os=c.os
 ns:∃m,s.heap.Ns c.L m
 cell:∀x a,(x,a)∈c.env.cells→∃v,s.heap.IsCell a v
 AL:fz c.L=none
 A4:∀x a,(x,a)∈c.env.cells→fz a=none
 AM:∀i g,γ i=some g→∃x k,c.env.scope.names[i]?=some (x,k)
 vars:∀i x k g,c.env.scope.names[i]?=some (x,k)→γ i=some g→∃v,fo c s.heap x v∧mw c.C.EC fz s.heap g v
 g9:∀i g,γ i=some g→∀a∈g.addrs,mZ c fz a
 nodup:∀i g,γ i=some g→g.addrs.Nodup
 apart:∀i j g g',i≠j→γ i=some g→γ j=some g'→∀a∈g.addrs,a∉g'.addrs
noncomputable def Er(σ:St)(γ:Nat→Option GS):Prop:=∀i,σ.get i=(γ i).map GS.erase
noncomputable def Inv(c:Ac)(fz:Fz)(s:Shared)(σ:St):Prop:=∃γ,jj c fz s γ∧Er σ γ
theorem Inv.hi{c:Ac}{s:Shared}(I:Inv c fz s σ):HI c.C fz s.heap:=let ⟨_,G,_⟩:=I;G.hi
section
variable{c:Ac}{fz ae:Fz}{s s':Shared}{γ:Nat→Option GS}{σ:St}
theorem Ac.Ok.Vv(O:c.Ok):∃o,c.h₀.get? c.C.P=some o:=by
 refine aq O.base.place.tab fun ps e _=>?_;exact⟨_,e⟩
theorem Ac.Ok.mq(O:c.Ok)(h:c.h₀.get? a=none):a≠c.C.P:=fun e=>by
 obtain⟨o,h'⟩:=O.Vv;rw[←e,h] at h';cases h'
theorem Ac.Ok.qa(O:c.Ok)(h:c.h₀.get? a=none):c.C.B.get? a=none:=by
 cases q:c.C.B.get? a with
 |none=>rfl
 |some o=>have:=O.base.base a o q (O.mq h);rw[h] at this;cases this
theorem yr(O:c.Ok)(h:a∈c.C.FR):a=c.L∨∃o es n,c.h₀.get? a=some o∧o.data=.dict es n:=by
 rw[O.FR] at h;simp only[List.filterMap_cons,O.frame,aO,jK] at h;rcases h with rfl|⟨e,he,q⟩
 ·exact .inl rfl
 ·obtain⟨_,L,e1,e2,_,o,es,n,e3,e4⟩:=O.pk e he
  rw[e1] at q;cases q;exact .inr ⟨o,es,n,e3,e4⟩
theorem mZ.JN(O:c.Ok)(m:mZ c fz a):a∉c.C.FR:=fun h=>by
 rcases yr O h with rfl|⟨o,es,n,e,_⟩
 ·exact m.L rfl
 ·rw[m.new] at e;cases e
theorem Kp.ns{h h':Heap}(k:Kp P FR h h')(n:h.Ns a m)(ha:a≠P):h'.Ns a m:=by
 obtain⟨o,es,ep,e,d,r⟩:=n;refine aq (k a o e ha) fun sl e' _=>?_;exact⟨_,es,ep,e',d,r⟩
theorem Kp.cell{h h':Heap}(k:Kp P FR h h')(n:h.IsCell a v)(ha:a≠P):h'.IsCell a v:=by
 refine aq n fun o e d=>?_;refine aq (k a o e ha) fun sl e' _=>?_;exact⟨_,e',d⟩
theorem fo.kp(k:Kp P FR h h')(n:fo c h x v)(hL:c.L≠P)(hC:∀y a,(y,a)∈c.env.cells→a≠P):fo c h' x v:=by
 rcases n with ⟨e,m,n,r⟩|⟨e,a,n,r⟩
 ·exact .inl ⟨e,m,k.ns n hL,r⟩
 ·exact .inr ⟨e,a,n,k.cell r (hC x a (eY n))⟩
theorem jj.grow(O:c.Ok)(I:jj c fz s γ)(G:bp c.C fz s ae s'):jj c ae s' γ:=by
 have LP:c.L≠c.C.P:=O.mq O.u9;have CP:∀y a,(y,a)∈c.env.cells→a≠c.C.P:=fun y a h=>O.mq (O.Gy y a h);have xt:∀a,fz a=none→(∃o,s.heap.get? a=some o)→ae a=none:=fun a h1 ⟨o,h2⟩=>by
  cases q:ae a with
  |none=>rfl
  |some f=>
   rcases G.new a (by rw[q];simp) with x|x
   ·exact absurd h1 x
   ·rw[h2] at x;cases x
 have Rj:∀i g,γ i=some g→∀a∈g.addrs,∀o,s.heap.get? a=some o→s'.heap.get? a=some o:=fun i g hg a ha o e=>
  G.kp.get e (O.mq (I.g9 i g hg a ha).new) ((I.g9 i g hg a ha).JN O)
 refine⟨fun y v h=>(I.snap y v h).kp G.kp LP CP,I.kp.trans G.kp,G.hi,Fz.le_trans I.le G.le,fun b h=>?_,G.gens.trans I.gens,G.os.trans I.os,?_,fun x a h=>?_,?_,fun x a h=>?_,I.AM,fun i x k g h1 h2=>?_,fun i g hg a ha=>?_,I.nodup,I.apart⟩
 ·rcases G.new b h with q|q
  ·exact I.new b q
  ·exact .inr (I.kp.some (fun e=>by
    refine aq I.hi.place.tab fun ps g _=>?_;rw[←e,q] at g;cases g) q)
 ·refine eo I.ns fun m n=>?_;exact⟨m,G.kp.ns n LP⟩
 ·refine eo (I.cell x a h) fun v n=>?_;exact⟨v,G.kp.cell n (CP x a h)⟩
 ·obtain⟨m,o,es,ep,e,_⟩:=I.ns;exact xt _ I.AL ⟨o,e⟩
 ·refine iw (I.cell x a h) fun v o e _=>?_;exact xt _ (I.A4 x a h) ⟨o,e⟩
 ·refine aq (I.vars i x k g h1 h2) fun v h3 h4=>?_
  exact⟨v,h3.kp G.kp LP CP,h4.keep G.le (Rj i g h2)⟩
 ·have m:=I.g9 i g hg a ha
  refine⟨m.new,?_,m.L,m.cells⟩;refine kK (I.AM i g hg) fun x k hx=>?_;refine aq (I.vars i x k g hx hg) fun v _ r=>?_;exact xt a m.fz (r.there a ha)
end
section
variable{C:Bc}{fz ae:Fz}{h h':Heap}
theorem none_of{l:List Addr}(b:∀b,ae b≠none→fz b≠none∨b∈l){a:Addr}(h1:fz a=none)(h2:a∉l):ae a=none:=by
 cases z:ae a with
 |none=>rfl
 |some o=>exact((b a (by rw[z];exact nofun)).elim (· h1) h2).elim
structure Ca(C:Bc)(fz ae:Fz)(h:Heap)(l:List Addr):Prop where
 le:fz.le ae
 hi:HI C ae h
 new:∀b,ae b≠none→fz b≠none∨b∈l
theorem Ca.refl(H:HI C fz h):Ca C fz fz h l:=⟨Fz.le_refl _,H,fun _=>.inl⟩
theorem Ca.no{l:List Addr}(F:Ca C fz ae h l){a:Addr}(h1:fz a=none)(h2:a∉l):ae a=none:=none_of F.new h1 h2
theorem Ca.add {f:FO} (F:Ca C fz ae h l) (sub:∀b,b∈l→b∈l') (ha:a∈l') (e:h.get? a=some ⟨f.cls,f.dict,f.data,sl⟩) (hP:a≠C.P) (hf:f.cls≠.type "frame") (z:ae a=none):Ca C fz (ae.put a f) h l':=
 ⟨Fz.le_trans F.le (Fz.i0 _ z),F.hi.put e hP hf,fun b x=>by
  by_cases q:b=a
  ·rw[q];exact .inr ha
  ·rw[Fz.lM _ _ q] at x;exact(F.new b x).imp_right (sub b)⟩
theorem Ej(H:HI C fz h):∀{g:GF} {v:Value},oy C.EC fz h g v→(∀a∈g.addrs,fz a=none∧a≠C.P)→∃ae,Ca C fz ae h g.addrs∧Rep C.EC ae g.erase.d v
 |.val d,v,r,_=>⟨fz,.refl H,r⟩
 |.own a ds,v,r,m=>by
  obtain⟨e,vs,⟨n,sl,l⟩,r⟩:=r;obtain⟨m1,m2⟩:=m a (.head _);exact⟨fz.put a (.listOf vs n),(Ca.refl (l:=[]) H).add (fun _=>nofun) (.head _) (sl:=sl) l m2 (by simp[FO.listOf]) m1,a,vs,n,e,Fz.dv _ _ _,a8.mono (Fz.i0 _ m1) _ _ r⟩
theorem A5:∀{fs:List (Str×GF)} {fz:Fz} {es:List cQ},HI C fz h→gj C.EC fz h fs es→(∀a∈fs.flatMap (fun x=>x.2.addrs),fz a=none∧a≠C.P)→(fs.flatMap (fun x=>x.2.addrs)).Nodup→
 ∃ae,Ca C fz ae h (fs.flatMap fun x=>x.2.addrs)∧gp C.EC ae (fs.map fun x=>(x.1,x.2.erase.d)) es
 |[],fz,es,H,r,_,_=>⟨fz,.refl H,r⟩
 |(n,g)::fs,fz,es,H,r,m,nd=>by
  obtain⟨e,q,t,r1,r2,r3,r4⟩:=r;have Yg:=hW.mp nd;refine aq (Ej H r3 (fun a ha=>m a (dI _ ha))) fun f1 F1 R1=>?_;refine aq (A5 F1.hi (r4.keep F1.le fun _ _ _ x=>x) (fun a ha=>let ⟨m1,m2⟩:=m a (dU _ ha);⟨F1.no m1 fun y=>Yg.2.2 a y a ha rfl,m2⟩) Yg.2.1) fun f2 F2 R2=>?_;exact⟨f2,⟨Fz.le_trans F1.le F2.le,F2.hi,fun b x=>(F2.new b x).elim (fun y=>(F1.new b y).imp_right (dI _)) fun y=>.inr (dU _ y)⟩,e,q,t,r1,r2,Rep.mono F2.le _ _ R1,R2⟩
theorem Me{g:GS}(H:HI C fz h)(r:mw C.EC fz h g v)(m:∀a∈g.addrs,fz a=none∧a≠C.P)(nd:g.addrs.Nodup):∃ae,Ca C fz ae h g.addrs∧Rep C.EC ae g.erase.d v:=by
 cases g with
 |val d=>exact⟨fz,.refl H,r⟩
 |own a ds=>exact Ej (g:=.own a ds) H r m
 |obj a dA fs=>
  obtain⟨e,sl,es,n,pY,h1,h2,r⟩:=r;have Wv:=bV.mp nd;have Gb:=bV.mp Wv.2;refine aq (A5 H r (fun b hb=>m b (.tail _ (.tail _ hb))) Gb.2) fun f1 F1 R1=>?_;refine ka (m a (.head _)) fun ma pa=>?_;refine ka (m dA (.tail _ (.head _))) fun md pd=>?_;have na:=F1.no ma fun h=>Wv.1 (.tail _ h);have Ve:dA≠a:=fun q=>Wv.1 (q▸.head _);have n2:(f1.put a (.yl C.EC dA)) dA=none:=(Fz.lM _ _ Ve).trans (F1.no md Gb.1);refine⟨_,(F1.add (l':=a::dA::_) (f:=.yl C.EC dA) (fun b h=>.tail _ (.tail _ h)) (.head _) (sl:=sl) h1 pa (by simp[FO.yl]) na).add (f:=.dictOf es n) (fun b h=>h) (.tail _ (.head _)) (sl:=pY) h2 pd (by simp[FO.dictOf]) n2,?_⟩;simp only[GS.erase,Slot.d,bX];exact⟨a,dA,es,n,e,(Fz.lM _ _ Ve.symm).trans (Fz.dv _ _ _),Fz.dv _ _ _,gp.mono (Fz.le_trans (Fz.i0 _ na) (Fz.i0 _ n2)) _ _ R1⟩
end
noncomputable def upd(γ:Nat→Option GS)(i:Nat)(g:GS):Nat→Option GS:=fun j=>if j=i then some g else γ j
theorem JO(γ:Nat→Option GS)(i:Nat)(g:GS):upd γ i g i=some g:=by simp[upd]
theorem v8(γ:Nat→Option GS)(g:GS)(h:j≠i):upd γ i g j=γ j:=by simp[upd,h]
theorem St.Ek{σ:St}(h:i<σ.ρ.length)(j:Nat):(σ.put i x).get j=if j=i then some x else σ.get j:=by
 delta St.get St.put;dsimp only[jT]
 by_cases q:j=i
 ·subst q;simp[h]
 ·have:¬i=j:=fun e=>q e.symm
  simp[this,q]
theorem St.tG{σ:St}(h:σ.get i=some x):i<σ.ρ.length:=by
 unfold St.get at h;cases q:σ.ρ[i]? with
 |none=>rw[q] at h;cases h
 |some y=>exact(bL.mp q).1
theorem Er.put{σ:St}{g:GS}(e:Er σ γ)(h:i<σ.ρ.length):Er (σ.put i g.erase) (upd γ i g):=fun j=>by
 rw[St.Ek h]
 by_cases q:j=i
 ·subst q;simp[upd]
 ·rw[v8 _ _ q];simp[q,e j]
section
variable{c:Ac}{fz ae:Fz}{s s':Shared}{γ:Nat→Option GS}{σ:St}
theorem d0{i:Nat}{g:GS}{P:Nat→GS→Prop}(h1:P i g)(h2:∀j g',j≠i→γ j=some g'→P j g'):∀j g',upd γ i g j=some g'→P j g':=fun j g' h=>by
 by_cases q:j=i
 ·subst q;rw[JO] at h;cases h;exact h1
 ·rw[v8 _ _ q] at h;exact h2 j g' q h
theorem jj.take(O:c.Ok)(G:jj c fz s γ){i:Nat}{g:GS}{y:Str}{k:NameKind}(hn:c.env.scope.names[i]?=some (y,k))(hg:γ i=some g):
 ∃ae v,fz.le ae∧fo c s.heap y v∧Rep c.C.EC ae g.erase.d v∧jj c ae s (upd γ i (.val g.erase.d))∧∀a,fz a=none→a∉g.addrs→ae a=none:=by
 refine aq (G.vars i y k g hn hg) fun v hv r=>?_;have mi:=G.g9 i g hg;refine aq (Me G.hi r (fun a ha=>⟨(mi a ha).fz,O.mq (mi a ha).new⟩) (G.nodup i g hg)) fun ae F R=>?_;have xt:∀a,fz a=none→a∉g.addrs→ae a=none:=fun a=>F.no;exact⟨ae,v,F.le,hv,R,⟨G.snap,G.kp,F.hi,Fz.le_trans G.le F.le,fun q h=>(F.new q h).elim (G.new q) fun z=>.inr (mi q z).new,G.gens,G.os,G.ns,G.cell,xt _ G.AL fun h=>(mi _ h).L rfl,fun x a h=>xt _ (G.A4 x a h) fun h'=>(mi _ h').cells x a h rfl,
  d0 ⟨y,k,hn⟩ fun j g' _=>G.AM j g',fun j x k g' h1 h2=>d0 (P:=fun j g'=>c.env.scope.names[j]?=some (x,k)→∃v,fo c s.heap x v∧mw c.C.EC ae s.heap g' v) (fun h=>by rw[hn] at h;cases h;exact⟨v,hv,R⟩) (fun j g' _ h h1=>let ⟨v',Ip,r'⟩:=G.vars j x k g' h1 h;⟨v',Ip,r'.keep F.le fun _ _ _ x=>x⟩) j g' h2 h1,
  d0 (fun a ha=>nomatch ha) fun j g' q h a ha=>let m:=G.g9 j g' h a ha;⟨m.new,xt a m.fz (G.apart j i g' g q h hg a ha),m.L,m.cells⟩,d0 .nil fun j g' _=>G.nodup j g',
  fun j j' g1 g2 iv h1 h2=>d0 (g:=.val g.erase.d) (P:=fun j g1=>j≠j'→∀a∈g1.addrs,a∉g2.addrs) (fun _ a ha=>nomatch ha) (fun j g1 _ h1 iv=>d0 (g:=.val g.erase.d) (P:=fun j' g2=>j≠j'→∀a∈g1.addrs,a∉g2.addrs) (fun _ a _ ha=>nomatch ha) (fun j' g2 _ h2 iv=>G.apart j j' g1 g2 iv h1 h2) j' g2 h2 iv) j g1 h1 iv⟩,xt⟩
theorem Inv.grow(O:c.Ok)(I:Inv c fz s σ)(G:bp c.C fz s ae s'):Inv c ae s' σ:=let ⟨γ,g,e⟩:=I;⟨γ,g.grow O G,e⟩
theorem cm{l:List (Str×NameKind)}(nd:(l.map (·.1)).Nodup){i:Nat}{x:Str}{k:NameKind}(h:l[i]?=some (x,k)):l.lookup x=some k:=by
 induction l generalizing i with
 |nil=>simp at h
 |cons y l ih=>
  obtain⟨z,kz⟩:=y;simp only[aN,bV] at nd;cases i with
  |zero=>simp at h;obtain⟨rfl,rfl⟩:=h;simp[List.lookup]
  |succ i=>
   simp at h;have:x∈l.map (·.1):=bH.mpr ⟨_,iR h,rfl⟩;have iv:(x==z)=false:=by
    apply beq_eq_false_iff_ne.mpr
    rintro rfl;exact nd.1 this
   rw[bT,iv];exact ih nd.2 h
theorem nM(O:c.Ok)(hv:fo c s.heap x v)(h:Q v s):aH M A (loadName c.env x) Q E s:=by
 rcases hv with ⟨e,m,n,r⟩|⟨e,a,n,r⟩
 ·exact wpAny_loadName_local O.kind e n r h
 ·exact wpAny_loadName_cell O.kind e n r h
theorem Er.some(e:Er σ γ)(hx:σ.get i=some x):∃g,γ i=some g∧g.erase=x:=aR.mp ((e i).symm.trans hx)
theorem Inv.look(I:Inv c fz s σ)(hn:c.env.scope.names[i]?=some (y,k))(hx:σ.get i=some x):∃v g,fo c s.heap y v∧mw c.C.EC fz s.heap g v∧g.erase=x:=by
 refine aq I fun γ G e=>?_;refine aq (e.some hx) fun g hg ei=>?_;refine aq (G.vars i y k g hn hg) fun v hv r=>?_;exact⟨v,g,hv,r,ei⟩
end
section
variable{c:Ac}{fz ae:Fz}{s s':Shared}{γ:Nat→Option GS}{σ:St}
theorem Kp.sameBut{h₀ h h':Heap}(k:Kp P FR h₀ h)(hs:Heap.SameBut a h h')(ha:h₀.get? a=none):Kp P FR h₀ h':=fun b o e hb=>by
 refine aq (k b o e hb) fun sl e' q=>?_;exact⟨sl,(hs.2 b (fun x=>by subst x;rw[ha] at e;cases e)).trans e',q⟩
theorem lz{h:Heap}(n:h.Ns a m):∃o,h.get? a=some o∧∀vs,o.data≠.fields vs:=by
 obtain⟨o,es,ep,e,d,_⟩:=n;exact⟨o,e,fun vs q=>by rw[d] at q;cases q⟩
theorem tH{l:List (Str×NameKind)}(nd:(l.map (·.1)).Nodup){i j:Nat}{x:Str}{k k':NameKind}(h1:l[i]?=some (x,k))(h2:l[j]?=some (x,k')):i=j:=by
 obtain⟨l1,e1⟩:=bL.mp h1;obtain⟨l2,e2⟩:=bL.mp h2;exact(List.getElem_inj (h₀:=by simpa using l1) (h₁:=by simpa using l2) nd).mp (by simp[e1,e2])
theorem jj.stored(O:c.Ok)(d9:∀y v,¬c.snap y v)(G:jj c fz s γ){b:Addr}{o:Obj}{h':Heap}{tk:Nat}{i:Nat}{x:Str}{k:NameKind}{g:GS}{v:Value}
 (hb:b=c.L∨∃y,(y,b)∈c.env.cells) (ho:s.heap.get? b=some o) (Rk:∀vs,o.data≠.fields vs) (hs:Heap.SameBut b s.heap h')
 (hn:c.env.scope.names[i]?=some (x,k)) (hL:∃m,h'.Ns c.L m) (hC:∀y a,(y,a)∈c.env.cells→∃v,h'.IsCell a v)
 (hv:fo c h' x v) (Rl:∀y u,y≠x→fo c s.heap y u→fo c h' y u)
 (r:mw c.C.EC fz s.heap g v) (m:∀a∈g.addrs,mZ c fz a) (nd:g.addrs.Nodup) (ap:∀j g',j≠i→γ j=some g'→∀a∈g.addrs,a∉g'.addrs):
 jj c fz {s with heap:=h',toks:=tk} (upd γ i g):=by
 have Rm:c.h₀.get? b=none:=hb.elim (fun e=>e▸O.u9) fun⟨y,hy⟩=>O.Gy y b hy;have Ua:fz b=none:=hb.elim (fun e=>e▸G.AL) fun⟨y,hy⟩=>G.A4 y b hy;have neM:∀a,mZ c fz a→a≠b:=fun a ma=>hb.elim (fun e=>e▸ma.L) fun⟨y,hy⟩=>ma.cells y b hy;have keep:∀a,mZ c fz a→∀o,s.heap.get? a=some o→h'.get? a=some o:=fun a ma o e=>(hs.2 a (neM a ma)).trans e;exact⟨fun y v h=>absurd h (d9 y v),G.kp.sameBut hs Rm,G.hi.sameBut hs Ua (O.qa Rm) ho Rk (Ne.symm (O.mq Rm)),G.le,G.new,G.gens,G.os,hL,hC,G.AL,G.A4,d0 ⟨x,k,hn⟩ fun j g' _=>G.AM j g',
  fun j y k' g' h1 h2=>d0 (P:=fun j g'=>c.env.scope.names[j]?=some (y,k')→∃v,fo c h' y v∧mw c.C.EC fz h' g' v) (fun h1=>by
   rw[hn] at h1;cases h1;exact⟨v,hv,r.keep (Fz.le_refl _) fun a ha=>keep a (m a ha)⟩) (fun j g' q h2 h1=>by
   refine aq (G.vars j y k' g' h1 h2) fun u hu ru=>?_;exact⟨u,Rl y u (fun e=>q (tH O.pj h1 (e▸hn))) hu,ru.keep (Fz.le_refl _) fun a ha=>keep a (G.g9 j g' h2 a ha)⟩) j g' h2 h1,
  d0 m fun j g' _=>G.g9 j g',d0 nd fun j g' _=>G.nodup j g',
  fun j j' g1 g2 iv h1 h2=>d0 (g:=g) (P:=fun j g1=>j≠j'→∀a∈g1.addrs,a∉g2.addrs) (fun iv=>(v8 γ g iv.symm▸h2:γ j'=some g2) |>ap j' g2 iv.symm) (fun j g1 q h1 iv=>d0 (g:=g) (P:=fun j' g2=>j≠j'→∀a∈g1.addrs,a∉g2.addrs) (fun _ a ha h=>ap j g1 q h1 a h ha) (fun j' g2 _ h2 iv=>G.apart j j' g1 g2 iv h1 h2) j' g2 h2 iv) j g1 h1 iv⟩
theorem rX{h:Heap}(x:h.IsCell a u)(n:h.Ns b m):a≠b:=fun q=>by
 refine aq x fun oc e1 e2=>?_;obtain⟨o,es,ep,e3,e4,_⟩:=n;rw[q,e3] at e1;cases e1;rw[e4] at e2;cases e2
theorem uw{h:Heap}(n:h.Ns b m)(n':h.Ns b m')(y:Str):m y=m' y:=by
 obtain⟨o1,E7,ep1,a1,a2,_,a3⟩:=n;obtain⟨o2,es2,ep2,b1,b2,_,b3⟩:=n';rw[a1] at b1;cases b1;rw[a2] at b2;cases b2;rw[←a3 y,b3 y]
theorem Cb{h h':Heap}(n:h.Ns b m)(hs:Heap.SameBut a h h')(iv:b≠a):h'.Ns b m:=
 let ⟨o,es,ep,e,r⟩:=n;⟨o,es,ep,(hs.2 b iv).trans e,r⟩
theorem yC(O:c.Ok)(d9:∀y v,¬c.snap y v)(G:jj c fz s γ){g:GS}(hn:c.env.scope.names[i]?=some (x,k))(hk:k=.local∨k=.cell)
 (r:mw c.C.EC fz s.heap g v) (m:∀a∈g.addrs,mZ c fz a) (nd:g.addrs.Nodup) (ap:∀j g',j≠i→γ j=some g'→∀a∈g.addrs,a∉g'.addrs)
 (h:∀s',jj c fz s' (upd γ i g)→Q () s'):aH M A (gK c.env x v) Q E s:=by
 have hl:=cm O.pj hn;refine eo G.ns fun I7 n=>?_;rcases hk with rfl|rfl
 ·refine aq (lz n) fun o ho Rk=>?_
  refine iM hl n (fun h' n' hs=>h _ (G.stored O d9 (.inl rfl) ho Rk hs hn ⟨_,n'⟩ (fun y a hy=>let ⟨u,hc⟩:=G.cell y a hy;⟨u,hc.sameBut hs (rX hc n)⟩) (.inl ⟨hl,_,n',if_pos rfl⟩) (fun y u hy hu=>?_) r m nd ap)) (by rw[O.kind];rfl);rcases hu with ⟨e,m',Iq,r'⟩|⟨e,a,Iq,r'⟩
  ·exact .inl ⟨e,_,n',(if_neg hy).trans ((uw n Iq y).trans r')⟩
  ·exact .inr ⟨e,a,Iq,r'.sameBut hs (rX r' n)⟩
 ·refine eo (O.nL x hl) fun a ha=>?_
  have I8:=eY ha;refine eo (G.cell x a I8) fun u hc=>?_;refine aq (id hc) fun oc e1 e2=>?_;have ne:=(rX hc n).symm;refine wpAny_storeName_cell O.kind hl ha hc (fun h' n' hs=>h _ (G.stored (tk:=s.toks) O d9 (.inr ⟨x,I8⟩) e1 (fun vs q=>by rw[e2] at q;cases q) hs hn ⟨I7,Cb n hs ne⟩ (fun y b hy=>?_) (.inr ⟨hl,a,ha,n'⟩) (fun y u hy hu=>?_) r m nd ap))
  ·by_cases q:b=a
   ·exact⟨_,q▸n'⟩
   ·exact let ⟨u',hu'⟩:=G.cell y b hy;⟨u',hu'.sameBut hs q⟩
  ·rcases hu with ⟨e,m',Iq,r'⟩|⟨e,b,Iq,r'⟩
   ·exact .inl ⟨e,m',Cb Iq hs ne,r'⟩
   ·exact .inr ⟨e,b,Iq,r'.sameBut hs fun q=>hy (name_of_addr O.apart (eY Iq) (q▸I8))⟩
theorem mZ.le(m:mZ c ae a)(le:fz.le ae):mZ c fz a:=by
 refine⟨m.new,?_,m.L,m.cells⟩;cases q:fz a with
 |none=>rfl
 |some o=>
  have:=le a o q;rw[m.fz] at this;cases this
end
structure Cc where
 env:Env
 names:List (Str×NameKind)
noncomputable abbrev Cc.L(cc:Cc):Addr:=cc.env.locals
structure Cc.Ok(c:Ac)(cc:Cc):Prop where
 kind:cc.env.scope.kind=.function
 glob:cc.env.globals=eH
 Gx:cc.env.builtins=fB
 pj:(cc.names.map (·.1)).Nodup
 loc:∀x,cc.names.lookup x=some .local→cc.env.kindOf x=some .local
 gl:∀x,cc.names.lookup x=some .globalImplicit→cc.env.kindOf x=some .globalImplicit
 fr:∀x,cc.names.lookup x=some .free→cc.env.kindOf x=some .cell∧cc.env.cells.lookup x=c.env.cells.lookup x
 new:c.h₀.get? cc.L=none
 LL:cc.L≠c.L
 LC:∀x a,(x,a)∈c.env.cells→cc.L≠a
structure CK(c:Ac)(cc:Cc)(fz:Fz)(s:Shared)(κ:List (Option D))(γ:Nat→Option GS):Prop where
 El:fz cc.L=none
 ns:∃m,s.heap.Ns cc.L m∧∀(j:Nat) (x:Str) (d:D),cc.names[j]?=some (x,NameKind.local)→(κ[j]?).join=some d→∃v,m x=some v∧Rep c.C.EC fz d v
 apart:∀i g,γ i=some g→cc.L∉g.addrs
noncomputable abbrev ee(c:Ac):Option Cc→Env
 |none=>c.env
 |some cc=>cc.env
noncomputable def Y6(c:Ac):Option Cc→Fz→Shared→List (Option D)→(Nat→Option GS)→Prop
 |none,_,_,_,_=>True
 |some cc,fz,s,κ,γ=>CK c cc fz s κ γ
noncomputable def dc(c:Ac):Option Cc→Prop
 |none=>True
 |some cc=>cc.Ok c
noncomputable def bt(c:Ac)(k:Option Cc)(fz:Fz)(s:Shared)(σ:St):Prop:=∃γ,jj c fz s γ∧Er σ γ∧Y6 c k fz s σ.κ γ
theorem bt.inv{c:Ac}{k:Option Cc}{fz:Fz}{s:Shared}{σ:St}(I:bt c k fz s σ):Inv c fz s σ:=let ⟨γ,a,b,_⟩:=I;⟨γ,a,b⟩
theorem bt.of{c:Ac}{fz:Fz}{s:Shared}{σ:St}(I:Inv c fz s σ):bt c none fz s σ:=let ⟨γ,a,b⟩:=I;⟨γ,a,b,trivial⟩
theorem bt.hi{c:Ac}{k:Option Cc}{fz:Fz}{s:Shared}{σ:St}(I:bt c k fz s σ):HI c.C fz s.heap:=I.inv.hi
section
variable{prog:Program}{w:World}{c:Ac}{k:Option Cc}{fz ae:Fz}{s s':Shared}{γ:Nat→Option GS}{σ σ':St}
theorem CK.grow{cc:Cc}{κ:List (Option D)}(O:c.Ok)(KO:cc.Ok c)(x:CK c cc fz s κ γ)(G:bp c.C fz s ae s'):CK c cc ae s' κ γ:=by
 refine aq x.ns fun m n r=>?_;have hP:cc.L≠c.C.P:=O.mq KO.new;refine⟨?_,⟨m,G.kp.ns n hP,fun j y d h1 h2=>?_⟩,x.apart⟩
 ·cases q:ae cc.L with
  |none=>rfl
  |some f=>
   rcases G.new _ (by rw[q];simp) with z|z
   ·exact absurd x.El z
   ·refine yk n fun o es ep e _=>?_;rw[z] at e;cases e
 ·refine aq (r j y d h1 h2) fun v h3 h4=>?_
  exact⟨v,h3,Rep.mono G.le _ _ h4⟩
theorem bt.grow(O:c.Ok)(KO:dc c k)(I:bt c k fz s σ)(G:bp c.C fz s ae s'):bt c k ae s' σ:=by
 refine q9 I fun γ a b x=>?_;refine⟨γ,a.grow O G,b,?_⟩;cases k with
 |none=>trivial
 |some cc=>exact CK.grow O KO x G
theorem bt.take(O:c.Ok)(I:bt c k fz s σ){i:Nat}{x:Slot}{y:Str}{kd:NameKind}(hn:c.env.scope.names[i]?=some (y,kd))(hx:σ.get i=some x):
 ∃ae v,fz.le ae∧fo c s.heap y v∧Rep c.C.EC ae x.d v∧bt c k ae s (σ.put i (.val x.d)):=by
 refine q9 I fun γ G e X=>?_;refine aq (e.some hx) fun g hg bq=>?_;subst bq;obtain⟨ae,v,le,hv,R,G',xt⟩:=G.take O hn hg;refine⟨ae,v,le,hv,R,_,G',e.put (g:=.val g.erase.d) (St.tG hx),?_⟩;cases k with
 |none=>trivial
 |some cc=>exact⟨xt _ X.El (X.apart i g hg),let ⟨m,n,r⟩:=X.ns;⟨m,n,fun j y d h1 h2=>let ⟨v,h3,h4⟩:=r j y d h1 h2;⟨v,h3,Rep.mono le _ _ h4⟩⟩,d0 (fun h=>nomatch h) fun j g' _=>X.apart j g'⟩
theorem JA.old{C:Bc}{h₀ h h':Heap}{e:Addr}{x:X}{o:Obj}{vs:Array Value}(n:h₀.get? e=none)(f:JA C h h' e x o vs):JA C h₀ h' e x o vs:=⟨n,f.nc,f.get,f.cls,f.data,f.args⟩
theorem uM.old{C:Bc}{h₀ h h':Heap}{P:Addr}{FR:List Addr}{e:Addr}{x:X}(kp:Kp P FR h₀ h)(hP:∃o,h.get? P=some o)(f:uM C h h' e x):uM C h₀ h' e x:=
 have old:∀a,h.get? a=none→h₀.get? a=none:=fun a q=>kp.some (fun z=>hP.elim fun o y=>vN (z▸q) y) q
 f.imp (fun⟨oe,vs,a,b⟩=>⟨oe,vs,a.old (old e a.new),b⟩) fun⟨oe,vs,a,T,oT,ts,t1,t2,t3⟩=>⟨oe,vs,a.old (old e a.new),T,oT,ts,t1,⟨t2.ne,old T t2.new,t2.nc,t2.get,t2.data⟩,t3⟩
noncomputable def rY{α:Type}(c:Ac)(k:Option Cc)(fz:Fz)(r:R α)(σ':St)(E:Value→Shared→Prop):Prop:=∀x,r=.exc x→∀ea s' ae,fz.le ae→bt c k ae s' σ'→uM c.C c.h₀ s'.heap ea x→E (.ref ea) s'
theorem rY.le{α:Type}{r:R α}{E:Value→Shared→Prop}(P:rY c k fz r σ' E)(le:fz.le ae):rY c k ae r σ' E:=fun x h ea s' f l=>P x h ea s' f (Fz.le_trans le l)
structure C1{α β:Type}(Rel:Fz→α→β→Prop)(c:Ac)(k:Option Cc)(fz:Fz)(r:R α)(σ':St)(Q:β→Shared→Prop)(E:Value→Shared→Prop):Prop where
 ok:∀d,r=.ok d→∀v s' ae,fz.le ae→bt c k ae s' σ'→Rel ae d v→Q v s'
 exc:rY c k fz r σ' E
section
variable{α β:Type}{Rel:Fz→α→β→Prop}{r:R α}{Q:β→Shared→Prop}{E:Value→Shared→Prop}
theorem C1.le(P:C1 Rel c k fz r σ' Q E)(le:fz.le ae):C1 Rel c k ae r σ' Q E:=⟨fun d h v s' f l=>P.ok d h v s' f (Fz.le_trans le l),P.exc.le le⟩
theorem C1.fin(P:C1 Rel c k fz r σ' Q E){d:α}(h:Mo.ok d σ=some (r,σ')){v:β}(le:fz.le ae)(I:bt c k ae s' σ)(R:Rel ae d v):Q v s':=by
 cases h;exact P.ok d rfl v s' ae le I R
end
theorem C1.A6{α β:Type}{Rel:Fz→α→β→Prop}{d:α}{Q:β→Shared→Prop}{E:Value→Shared→Prop}(h:∀v s' ae,fz.le ae→bt c k ae s' σ'→Rel ae d v→Q v s'):C1 Rel c k fz (.ok d) σ' Q E:=⟨fun d hd=>by cases hd;exact h,fun x hx=>(nomatch hx)⟩
theorem C1.rZ{α β:Type}{Rel:Fz→α→β→Prop}{x:X}{Q:β→Shared→Prop}{E:Value→Shared→Prop}(h:∀ea s' ae,fz.le ae→bt c k ae s' σ'→uM c.C c.h₀ s'.heap ea x→E (.ref ea) s'):C1 Rel c k fz (.exc x) σ' Q E:=⟨fun d hd=>(nomatch hd),fun x hx=>by cases hx;exact h⟩
noncomputable def BR(_:Fz)(a b:Bool):Prop:=b=a
variable(prog w) in
noncomputable def xU{α β:Type}(Rel:Fz→α→β→Prop)(c:Ac)(k:Option Cc)(t:Sem β)(m:St→Mo α):Prop:=∀fz s σ r σ',bt c k fz s σ→m σ=some (r,σ')→∀Q E,C1 Rel c k fz r σ' Q E→aH (model prog w) c.A t Q E s
variable(prog w) in
noncomputable abbrev aj(c:Ac)(k:Option Cc)(e:Expr)(ev:St→Mo D):Prop:=xU prog w (Rep c.C.EC) c k (eval e (ee c k)) ev
variable(prog w) in
noncomputable abbrev gk(c:Ac)(k:Option Cc)(e:Expr)(te:St→Mo Bool):Prop:=xU prog w BR c k (isTrue e (ee c k) (eval e (ee c k))) te
theorem Mo.bind_some{α β:Type}{m:Mo α}{f:α→St→Mo β}{r:R β}(h:m.bind f=some (r,σ')):(∃a ai,m=some (.ok a,ai)∧f a ai=some (r,σ'))∨(∃x,m=some (.exc x,σ')∧r=.exc x):=match m,h with
 |some (.ok a,ai),h=>.inl ⟨a,ai,rfl,h⟩
 |some (.exc x,ai),h=>.inr ⟨x,by cases h;exact⟨rfl,rfl⟩⟩
theorem Mo.ig{α:Type}{m:Option (R α)}{r:R α}(h:Mo.of m σ=some (r,σ')):m=some r∧σ'=σ:=match m,h with
 |some _,h=>by cases h;exact⟨rfl,rfl⟩
theorem A7{α:Type}{m:Mo α}{r:R α}(h:au m=some (r,σ')):∃a,r=.ok a∧m=some (.ok a,σ'):=match m,h with
 |some (.ok a,_),h=>by cases h;exact⟨a,rfl,rfl⟩
theorem bh{α β:Type}{m:Mo α}{f:α→St→Mo β}{r:R β}(h:(au m).bind f=some (r,σ')):∃a ai,m=some (.ok a,ai)∧f a ai=some (r,σ'):=match m,h with
 |some (.ok a,ai),h=>⟨a,ai,rfl,h⟩
section
variable{α β Ww Yh:Type}{Rel:Fz→α→β→Prop}{Ub:Fz→Ww→Yh→Prop}{t:Sem β}{m:St→Mo α}{f:α→St→Mo Ww}{r:R Ww}{Q:β→Shared→Prop}{Q':Yh→Shared→Prop}{E:Value→Shared→Prop}
theorem xU.qS(H:xU prog w Rel c k t m)(I:bt c k fz s σ)(h:(m σ).bind f=some (r,σ'))(hE:rY c k fz r σ' E)
 (go:∀d v ai a9 av,fz.le av→bt c k av a9 ai→Rel av d v→f d ai=some (r,σ')→Q v a9):aH (model prog w) c.A t Q E s:=by
 rcases Mo.bind_some h with ⟨x,ai,h1,h2⟩|⟨x,h1,rfl⟩
 ·exact H fz s σ _ _ I h1 Q E (.A6 fun v a9 av b8 az R=>go _ v ai a9 av b8 az R h2)
 ·exact H fz s σ _ _ I h1 Q E (.rZ (hE _ rfl))
theorem xU.bind(H:xU prog w Rel c k t m)(I:bt c k fz s σ)(h:(m σ).bind f=some (r,σ'))(P:C1 Ub c k fz r σ' Q' E)
 (go:∀d v ai a9 av,fz.le av→bt c k av a9 ai→Rel av d v→f d ai=some (r,σ')→C1 Ub c k av r σ' Q' E→Q v a9):aH (model prog w) c.A t Q E s:=
 H.qS I h P.exc fun d v ai a9 av le az R h2=>go d v ai a9 av le az R h2 (P.le le)
theorem xU.only(H:xU prog w Rel c k t m)(I:bt c k fz s σ)(h:(au (m σ)).bind f=some (r,σ'))
 (go:∀d v ai a9 av,fz.le av→bt c k av a9 ai→Rel av d v→f d ai=some (r,σ')→Q v a9):aH (model prog w) c.A t Q E s:=by
 refine iw (bh h) fun x ai h1 h2=>?_;exact H fz s σ _ _ I h1 Q E (.A6 fun v a9 av b8 az R=>go _ v ai a9 av b8 az R h2)
end
theorem Vw(O:c.Ok)(KO:dc c k){t:Sem Value}{r:R D}(I:bt c k fz s σ)(g:cg prog w c.C c.A t fz s r){Q E:Value→Shared→Prop}(P:C1 (Rep c.C.EC) c k fz r σ Q E):aH (model prog w) c.A t Q E s:=by
 refine aq I.inv fun γ G0 _=>?_;refine g Q E (fun d hd v s' ae G R=>P.ok d hd v s' ae G.le (I.grow O KO G) R) fun x hx ea s' ae G F=>P.exc x hx ea s' ae G.le (I.grow O KO G) (F.old G0.kp ?_);refine aq I.hi.place.tab fun ps e _=>?_;exact⟨_,e⟩
theorem oQ(O:c.Ok)(KO:dc c k){t:Sem Value}{m:Option (R D)}{r:R D}(I:bt c k fz s σ)(h:Mo.of m σ=some (r,σ')){Q E:Value→Shared→Prop}(P:C1 (Rep c.C.EC) c k fz r σ' Q E)(g:m=some r→cg prog w c.C c.A t fz s r):aH (model prog w) c.A t Q E s:=by
 obtain⟨h1,rfl⟩:=Mo.ig h;exact Vw O KO I (g h1) P
theorem tI{l r:Expr}{f:D→D→Option (R D)}{yf Ir:St→Mo D}{whole:Expr}{op:Value→Value→Sem Value}(O:c.Ok)(KO:dc c k)(hl:aj prog w c k l yf)(hr:aj prog w c k r Ir)
 (rule:∀(s:Shared) (Q E:Value→Shared→Prop),aH (model prog w) c.A (eval l (ee c k)) (fun a a9=>aH (model prog w) c.A (eval r (ee c k)) (fun b cw=>aH (model prog w) c.A (op a b) Q E cw) E a9) E s→aH (model prog w) c.A (eval whole (ee c k)) Q E s)
 (prim:∀fz s x y a b q,HI c.C fz s.heap→Rep c.C.EC fz x a→Rep c.C.EC fz y b→f x y=some q→cg prog w c.C c.A (op a b) fz s q):
 aj prog w c k whole (fun σ=>(yf σ).bind fun x σ=>(Ir σ).bind fun y σ=>.of (f x y) σ):=fun fz s σ q σ' I h Q E P=>
 rule s Q E (hl.bind I h P fun _ _ _ _ _ _ az ra h1 fg=>hr.bind az h1 fg fun _ _ _ _ _ le jc rb h2 sd=>oQ O KO jc h2 sd (prim _ _ _ _ _ _ _ jc.hi (Rep.mono le _ _ ra) rb))
theorem tJ{l:Expr}{f:D→Option (R D)}{yf:St→Mo D}{whole:Expr}{op:Value→Sem Value}(O:c.Ok)(KO:dc c k)(hl:aj prog w c k l yf)
 (rule:∀(s:Shared) (Q E:Value→Shared→Prop),aH (model prog w) c.A (eval l (ee c k)) (fun a a9=>aH (model prog w) c.A (op a) Q E a9) E s→aH (model prog w) c.A (eval whole (ee c k)) Q E s)
 (prim:∀fz s x a q,HI c.C fz s.heap→Rep c.C.EC fz x a→f x=some q→cg prog w c.C c.A (op a) fz s q):
 aj prog w c k whole (fun σ=>(yf σ).bind fun x σ=>.of (f x) σ):=fun fz s σ q σ' I h Q E P=>
 rule s Q E (hl.bind I h P fun _ _ _ _ _ _ az ra h1 fg=>oQ O KO az h1 fg (prim _ _ _ _ _ az.hi ra))
theorem yD(O:c.Ok)(KO:dc c k){d:D}{v:Value}{r:R Bool}(I:bt c k fz s σ)(ra:Rep c.C.EC fz d v)(h:Mo.of ((kM d).map .ok) σ=some (r,σ')){Q:Bool→Shared→Prop}{E:Value→Shared→Prop}(P:C1 BR c k fz r σ' Q E):aH (model prog w) c.A (truthy v) Q E s:=by
 refine ka (Mo.ig h) fun h1 ay=>?_;subst ay;refine aq (aR.mp h1) fun b ht bq=>?_;subst bq;exact vW I.hi ra ht _ _ fun s' ae G=>P.ok b rfl b s' ae G.le (I.grow O KO G) rfl
theorem l5{e:Expr}{ev:St→Mo D}(O:c.Ok)(KO:dc c k)(h:aj prog w c k e ev)(plain:∀env whole,isTrue e env whole=(do let v ←whole;standAt e.pos;holding [v] (truthy v))):
 gk prog w c k e (val ev).2:=fun fz s σ q σ' I hv Q E P=>
 isTrue_plain (h.bind I hv P fun _ _ _ _ _ _ az ra h1 fg=>yD O KO az ra h1 fg) (plain _ _)
end
end Mine.Internal
namespace Mine.Internal
open PySem PyProof.Rows
variable{prog:Program}{w:World}{C:Bc}{A:Around}{fz:Fz}{s:Shared}
theorem Gz{d e:List D}(H:HI C fz s.heap)(rx:Rep C.EC fz (.tup d) x)(ry:Rep C.EC fz (.tup e) y)(hd:d≠[])(he:e≠[])(gw:d.length+e.length≤sizeLine):
 Gives prog w C A (binaryOp .Add x y) fz s (.tup (d++e)):=fun Q E hQ=>by
 obtain⟨a,vs,n,rfl,f,r⟩:=rx;obtain⟨b,us,k,rfl,g,q⟩:=ry;obtain⟨sl,e1⟩:=H.fi _ _ f;obtain⟨Sf,e2⟩:=H.fi _ _ g;have l1:=r.length;have l2:=q.length;rw[aS] at l1 l2;have n1:0<d.length:=fZ.mpr hd;have n2:0<e.length:=fZ.mpr he;refine concat_meets ⟨_,e1,rfl⟩ ⟨_,e2,rfl⟩ noFill_tuple_add seq_tuple_add PySem.F.slot_tuple_add PySem.F.entry_tuple_add (PySem.F.args_tuple_add_2 _ _) (tuple_addW2 a b vs us n k none none sl Sf (by simp only[jR,decide_eq_true_eq];lia) (by simp only[jR,decide_eq_true_eq];lia) (by lia)) ⟨e1,e2,?_⟩;refine hQ _ _ _ (bp.push H (.oo (vs++us) 0) (by simp[FO.oo]) rfl s.toks) ?_;exact⟨_,vs++us,0,rfl,Fz.dv _ _ _,by rw[eG];exact a8.mono (Fz.i0 _ (H.fh (ej _))) _ _ (a8.append r q)⟩
theorem d6(r:Rep C.EC fz (.int i) v):∃t,v=.int i t:=r
theorem bu{x:List Nat}(r:Rep C.EC fz (.str x) v):∃t,v=.str ⟨x.toArray⟩ t:=r
theorem xV{a:Int}(h:a.natAbs<2^20):Builtin.Int.intBits a≤64:=by
 unfold Builtin.Int.intBits
 by_cases h0:a.natAbs=0
 ·have:a=0:=by lia
  subst this;decide
 ·have:=(Nat.log2_lt h0).mpr h
  first|(split<;>lia)|lia
noncomputable def Ma.op:Ma→Operator
 |.add=>.Add|.mod=>.Mod|.fdiv=>.FloorDiv|.mul=>.Mult|.sub=>.Sub
theorem qh(h:iu d=some q)(g:Gives prog w C A t fz s d):cg prog w C A t fz s q:=by cases h;exact g.R
theorem pq{x y:D}{a b:Value}{q:R D}{f:Int→Int→Option (R D)}{op:Value→Value→Sem Value}(ra:Rep C.EC fz x a)(rb:Rep C.EC fz y b)(h:(eu x fun i=>eu y (f i))=some q)(g:∀i j t u,f i j=some q→cg prog w C A (op (.int i t) (.int j u)) fz s q):cg prog w C A (op a b) fz s q:=by
 refine aq (kN h) fun i ay h1=>?_;subst ay;refine aq (kN h1) fun j ay h2=>?_;subst ay;refine eo (d6 ra) fun t ay=>?_;subst ay;refine eo (d6 rb) fun u ay=>?_;subst ay;exact g i j t u h2
theorem Cd(H:HI C fz s.heap)(ra:Rep C.EC fz x a)(rb:Rep C.EC fz y b)(h:JH x y=some q):cg prog w C A (binaryOp .Add a b) fz s q:=by
 cases x with
 |int i=>
  refine aq (kN h) fun j ay h1=>?_;subst ay;refine eo (d6 ra) fun t ay=>?_;subst ay;refine eo (d6 rb) fun u ay=>?_;subst ay;exact qh h1 (Gm H)
 |str x=>
  refine aq (g5 h) fun j ay h1=>?_;subst ay;refine eo (bu ra) fun t ay=>?_;subst ay;refine eo (bu rb) fun u ay=>?_;subst ay;refine ka (kQ h1) fun hc h2=>?_;exact qh h2 fun Q E hQ=>PyProof.Rows.add_str (fun t' tk=>hQ _ _ fz (bp.tok H tk) ⟨t',congrArg (Value.str · t') (Str.ext' (by rw[Str.cps_append];simp))⟩) (by simpa [Str.length] using hc)
 |list x=>
  refine aq (iy h) fun j ay h1=>?_;subst ay;refine ka (kQ h1) fun hc h2=>?_;exact qh h2 (C5 H ra rb hc)
 |tup x=>
  refine aq (Eg h) fun j ay h1=>?_;subst ay;refine ka (kQ h1) fun hc h2=>?_;exact qh h2 (Gz H ra rb hc.1 hc.2.1 hc.2.2)
 |_=>exact nS h
theorem Ce{op:Ma}(K:C.Ok)(H:HI C fz s.heap)(ra:Rep C.EC fz x a)(rb:Rep C.EC fz y b)(h:rP op x y=some q):cg prog w C A (binaryOp op.op a b) fz s q:=by
 cases op with
 |add=>exact Cd H ra rb h
 |sub=>exact pq (op:=binaryOp .Sub) ra rb h fun i j t u h=>qh h (b5 H fun _ _ h=>P.sub_int (h _ _ gy))
 |mod=>exact pq (op:=binaryOp .Mod) ra rb h fun i j t u h=>qh (kQ h).2 (Gn H (kQ h).1)
 |fdiv=>exact pq (op:=binaryOp .FloorDiv) ra rb h fun i j t u h=>qh (kQ h).2 (vR H (kQ h).1.1 (kQ h).1.2)
 |mul=>exact pq (op:=binaryOp .Mult) ra rb h fun i j t u h=>qh (kQ h).2 (Gp H (.of_left (xV (kQ h).1.1)))
noncomputable def MR.op:MR→CmpOp
 |.eq=>.Eq|.ne=>.NotEq|.lt=>.Lt|.ge=>.GtE|.tA=>.In|.xM=>.NotIn|.isNone=>.Is|.l0=>.IsNot
theorem Mf{x y:D}(h:Im x y=some b):∃p q,x.toPy=some p∧y.toPy=some q∧p.canLay0=true∧q.canLay0=true∧p.depth≤64∧b=PyData.eqv p q:=by
 unfold Im at h;refine aq (fw h) fun p hp h=>?_;refine aq (fw h) fun q hq h=>?_;refine ka (kQ h) fun hc h=>?_;exact⟨p,q,hp,hq,hc.1,hc.2.1,hc.2.2,(aL h).symm⟩
theorem Mg{x:D}(h:inD x l=some b):∃p qs,x.toPy=some p∧D.nI l=some qs∧p.canLay0=true∧PyData.canLayAll0 qs=true∧p.depth≤64∧b=qs.any fun z=>PyData.eqv z p:=by
 unfold inD at h;refine aq (fw h) fun p hp h=>?_;refine aq (fw h) fun q hq h=>?_;refine ka (kQ h) fun hc h=>?_;exact⟨p,q,hp,hq,hc.1,hc.2.1,hc.2.2,(aL h).symm⟩
end Mine.Internal
namespace Mine.Internal
open PySem PyProof.Rows
section facts
theorem vd:Manifest.owners.lookup (String.ofList ['t','e','s','n','e','z','o','r','f'].reverse)=some Manifest.sig_frozenset:=by kernel_rfl
theorem jk:dX "frozenset" "__contains__" "frozenset.__contains__":=
 .of (owner:="frozenset") (n:="__contains__") (by rw[bJ,aW];kernel_rfl) (by decide +kernel) (by decide +kernel) (by decide +kernel)
  (by first|exact .inl (by decide +kernel)|exact .inr (by decide +kernel)) (by rw[bK];kernel_rfl)
theorem qi(a b:Value):argsOk "frozenset.__contains__" ⟨[a,b],[]⟩:=by
 unfold argsOk;rw[gA (id:="frozenset.__contains__") (n:=['_','_','s','n','i','a','t','n','o','c','_','_']) (o:=['t','e','s','n','e','z','o','r','f']) (by kernel_rfl) vd];kernel_rfl
theorem qL:entryFor table "frozenset.__contains__"=some Builtin.«frozenset.__contains__»:=eM (by kernel_rfl)
theorem lH:dX "frozenset" "isdisjoint" "frozenset.isdisjoint":=
 .of (owner:="frozenset") (n:="isdisjoint") (by rw[bJ,aW];kernel_rfl) (by decide +kernel) (by decide +kernel) (by decide +kernel)
  (by first|exact .inl (by decide +kernel)|exact .inr (by decide +kernel)) (by rw[bK];kernel_rfl)
theorem oz:typeOf (.builtin "frozenset.isdisjoint")=pure (.type "method_descriptor"):=by show builtinType _=_;rw[builtinType_eq_fast];kernel_rfl
theorem pA(a b:Value):argsOk "frozenset.isdisjoint" ⟨[a,b],[]⟩:=by
 unfold argsOk;rw[gA (id:="frozenset.isdisjoint") (n:=['t','n','i','o','j','s','i','d','s','i']) (o:=['t','e','s','n','e','z','o','r','f']) (by kernel_rfl) vd];kernel_rfl
theorem oY:entryFor table "frozenset.isdisjoint"=some Builtin.«frozenset.isdisjoint»:=eM (by kernel_rfl)
theorem i4:entryFor table "frozenset.isdisjoint.loop"=some Builtin.«frozenset.isdisjoint.loop»:=eM (by kernel_rfl)
theorem ub:PlainAttrs "frozenset":=
 ⟨⟨"object.__getattribute__",by rw[bJ,aW];kernel_rfl,by decide +kernel⟩,by rw[bJ,aW];kernel_rfl⟩
end facts
variable{prog:Program}{w:World}{C:Bc}{A:Around}{fz:Fz}{s:Shared}
noncomputable def nv(h:Heap)(a:Addr)(l:List Nat):Prop:=∃es n t sl,h.get? a=some ⟨.type "frozenset",none,.set es n t,sl⟩∧vQ es t l
theorem nv.typeIs(x:nv s.heap a l):s.TypeIs (.ref a) "frozenset":=let ⟨_,_,_,_,e,_⟩:=x;⟨_,e,rfl⟩
theorem pv(H:HI C fz s.heap)(r:Rep C.EC fz (.kh l) v):∃a,v=.ref a∧nv s.heap a l:=by
 obtain⟨a,es,n,t,rfl,f,q⟩:=r;obtain⟨sl,g⟩:=H.fi a _ f;exact⟨a,rfl,es,n,t,sl,g,q⟩
theorem xW{l:List Nat}(F:nv s.heap a l)(h:∀r:Option Nat,r.isSome=l.contains c→Q r s):
 aH (model prog w) A (setFind a (.str ⟨#[c]⟩ tk) hs) Q E s:=by
 obtain⟨es,n,t,sl,ho,Wx,I8,hb,hf⟩:=F;have Rn:es.all (fun e=>e.2.scannable)=true:=by
  rw[Array.all_eq_true'];intro e he;refine kK (Wx e (by simpa using he)) fun c' Sg q=>?_;rw[q];rfl
 have Wy:es.all (fun e=>isExactStrKey e.2)=true:=by
  rw[Array.all_eq_true'];intro e he;refine kK (Wx e (by simpa using he)) fun c' Sg q=>?_;rw[q];rfl
 have Uc:byScan (.str ⟨#[c]⟩ tk) es=true:=by
  unfold byScan;simp only[cG,decide_eq_true_eq];exact⟨⟨rfl,hb⟩,Rn⟩
 unfold setFind setFindIn;refine aB (wpAny_setState_of ho rfl hf ?_);dsimp only;rw[Uc];refine cT rfl ?_;refine aB (fR ?_);refine aB ?_;unfold setScan;dsimp only;refine cT (decide_eq_true Wy) ?_;unfold setScanStrs;cases hr:es.findIdx? (fun e=>e.2.isStr ⟨#[c]⟩) with
 |none=>
  refine aF ?_;refine aF (h none ?_);have hn:¬c∈l:=by
   rw[I8 c]
   rintro⟨e,he,Sg,q⟩
   have:=Array.findIdx?_eq_none_iff.mp hr e (by simpa using he);rw[q] at this;simp[Value.isStr] at this
  simp[hn]
 |some i=>
  obtain⟨hi,hp,_⟩:=Array.findIdx?_eq_some_iff_getElem.mp hr;have Ro:es[i]∈es.toList:=by simp
  refine kK (Wx _ Ro) fun c' Sg q=>?_;have ec:c'=c:=by rw[q] at hp;simpa [Value.isStr] using hp
  subst ec;dsimp only;rw[bC hi];dsimp only;rw[q];refine aB (eW ho rfl hf ?_);refine aB (SeqAt.EqAt.str_str _ _ _ _ prog w _ _ ?_);refine bE (decide_eq_false (by rw[jF];exact bF)) ?_;refine aB (eW ho rfl hf ?_);simp only[bne_self_eq_false,eP,if_false,beq_self_eq_true,if_true];refine aF ?_;refine aF (h (some i) ?_);have:c'∈l:=(I8 c').mpr ⟨_,Ro,Sg,q⟩;simp[this]
theorem m5{l:List Nat}(F:nv s.heap a l)(h:∀t,Q (l.contains c) {s with toks:=t}):
 aH (model prog w) A (setContains a (.str ⟨#[c]⟩ tk)) Q E s:=by
 refine aQ ?_;refine aB ((strKind prog w).pyHash (k:=⟨#[c]⟩) (strKind_is prog w _ _) ?_);refine aB (xW (s:={s with toks:=s.toks+1}) F fun r hr=>?_);refine aF ?_;rw[hr];exact h _
theorem qT{l:List Nat}(F:nv s.heap a l)(h:∀t,Q (l.contains c) {s with toks:=t}):
 aH (model prog w) A (contains (.ref a) (.str ⟨#[c]⟩ tk)) Q E s:=by
 delta contains
 try with_reducible refine aQ ?_
 refine aB (wpAny_specialOf F.typeIs jk.lookup ?_);show aH _ _ (if(some (Value.builtin "frozenset.__contains__")==some Value.none)=true then _ else _) _ E s;refine bE (decide_eq_false (by rw[beq_builtin_none];exact bF)) ?_;refine aB (wpAny_callSpecialUnlessNone?_slot (name:=Str.ofString "__contains__") F.typeIs jk
  (cH jk F.typeIs qL ?_ (qi _ _)))
 delta Builtin.«frozenset.__contains__» Builtin.Frozenset.oneOther;simp only[List.isEmpty_nil,bind_assoc];delta Builtin.Frozenset.addrOf Builtin.Frozenset.withSetAsKey;refine aB (aF ?_)
 try dsimp only
 refine aB (aF ?_)
 try dsimp only
 refine aB (wpAny_tryCatch ?_);refine m5 F fun t=>?_;exact aF ⟨_,rfl,wpAny_truthy_bool (h _)⟩
theorem HA{l:List Nat}(H:HI C fz s.heap)(r:Rep C.EC fz (.kh l) v):Gives prog w C A (eX .In (.str ⟨#[c]⟩ tk) v) fz s (.bool (l.contains c)):=fun Q E hQ=>by
 refine aq (pv H r) fun a ay F=>?_;subst ay;exact aB (qT F fun t=>aF (hQ _ _ _ (bp.tok H t) g7))
theorem yt{l:List Nat}(H:HI C fz s.heap)(r:Rep C.EC fz (.kh l) v):Gives prog w C A (eX .NotIn (.str ⟨#[c]⟩ tk) v) fz s (.bool (!l.contains c)):=fun Q E hQ=>by
 refine aq (pv H r) fun a ay F=>?_;subst ay;exact aB (qT F fun t=>aF (hQ _ _ _ (bp.tok H t) g7))
section
variable{x y:D}{a b:Value}{q:R D}{f:Bool→Bool}{t:Sem Value}
theorem Em{a m n:Nat}(hu:a+100<n)(h:m≤64):a+1+m<n∧a+m<n:=
 have h1:a+1+m<n:=aA (bI h _) (aA (bI (by decide:65≤100) a) hu)
 ⟨h1,aA (aJ (Nat.le_succ a) m) h1⟩
theorem JP(hu:A.units+100<cLine)(h:(Im x y).map (fun c=>R.ok (.bool (f c)))=some q)
 (g:∀p q,x.toPy=some p→y.toPy=some q→p.canLay0=true→q.canLay0=true→A.units+min p.depth q.depth<cLine→Gives prog w C A t fz s (.bool (f (PyData.eqv p q)))):cg prog w C A t fz s q:=by
 refine aq (aR.mp h) fun c hc h1=>?_;obtain⟨p,q,p1,p2,p3,p4,p5,rfl⟩:=Mf hc;exact qh (congrArg some h1) (g p q p1 p2 p3 p4 (Em hu (aG (iS ..) p5)).2)
theorem En(hu:A.units+100<cLine)(ra:Rep C.EC fz x a)(h:memD f x y=some q)
 (g1:∀l p qs,y=.list l→x.toPy=some p→D.nI l=some qs→p.canLay0=true→PyData.canLayAll0 qs=true→A.units+1+min (PyData.depthAll qs) p.depth<cLine→Gives prog w C A t fz s (.bool (f (qs.any fun z=>PyData.eqv z p))))
 (g2:∀l c t',y=.kh l→a=.str ⟨#[c]⟩ t'→Gives prog w C A t fz s (.bool (f (l.contains c)))):cg prog w C A t fz s q:=by
 cases y with
 |list l=>
  refine aq (aR.mp (show(inD x l).map (fun c=>R.ok (.bool (f c)))=some q from h)) fun c hc h1=>?_;obtain⟨p,qs,p1,p2,p3,p4,p5,rfl⟩:=Mg hc;exact qh (congrArg some h1) (g1 l p qs rfl p1 p2 p3 p4 (Em hu (aG (Nat.min_le_right ..) p5)).1)
 |kh l=>
  refine aq (g5 (show onStr x _=some q from h)) fun z ay h1=>?_;subst ay;refine aq (vZ h1) fun c ay h2=>?_;subst ay;refine eo (bu ra) fun t ha=>?_;exact qh h2 (g2 l c t rfl ha)
 |_=>exact nS h
theorem Eo(rb:Rep C.EC fz y b)(h:yq y (iu d)=some q)(g:b=.none→Gives prog w C A t fz s d):cg prog w C A t fz s q:=by
 obtain⟨rfl,h1⟩:=JI h;exact qh h1 (g rb)
end
theorem qj{op:MR}(hu:A.units+100<cLine)(H:HI C fz s.heap)(ra:Rep C.EC fz x a)(rb:Rep C.EC fz y b)(h:u7 op x y=some q):cg prog w C A (eX op.op a b) fz s q:=by
 cases op with
 |eq=>exact JP (f:=fun c=>c) hu h fun p q=>Vq H ra rb
 |ne=>exact JP hu h fun p q=>Vr H ra rb
 |lt=>exact pq (op:=eX .Lt) ra rb h fun i j t u h=>qh h (Iw H)
 |ge=>exact pq (op:=eX .GtE) ra rb h fun i j t u h=>qh h (Iy H)
 |tA=>exact En hu ra h (fun l p qs e=>Vs H ra (e▸rb)) fun l c t e ea=>ea▸HA H (e▸rb)
 |xM=>exact En hu ra h (fun l p qs e=>M9 H ra (e▸rb)) fun l c t e ea=>ea▸yt H (e▸rb)
 |isNone=>exact Eo rb h fun e=>e▸Gq H ra
 |l0=>exact Eo rb h fun e=>e▸ym H ra
end Mine.Internal
namespace Mine.Internal
open PySem PyProof.Rows
variable{prog:Program}{w:World}{c:Ac}{k:Option Cc}{fz ae:Fz}{s s':Shared}{σ σ':St}
theorem pw (O:c.Ok) (hn:c.env.scope.names[i]?=some (x,kd)) (hd:(x==("__debug__":Str))=false):
 aj prog w c none (.Name x pos) (iz i):=fun fz s σ r σ' I h Q E P=>by
 refine aq (fw h) fun y hy h1=>?_;obtain⟨ae,v,le,hv,R,I'⟩:=I.take O hn hy;exact dR (nM O hv (P.fin h1 le I' R)) hd
theorem ve (O:c.Ok) {cc:Cc} (KO:cc.Ok c) (hn:c.env.scope.names[i]?=some (x,.cell)) (hf:cc.names.lookup x=some .free) (hd:(x==("__debug__":Str))=false):
 aj prog w c (some cc) (.Name x pos) (iz i):=fun fz s σ r σ' I h Q E P=>by
 refine aq (fw h) fun y hy h1=>?_;obtain⟨ae,v,le,hv,R,I'⟩:=I.take O hn hy;rcases hv with ⟨e,_⟩|⟨_,a,e,n⟩
 ·rw[cm O.pj hn] at e;cases e
 ·exact dR (wpAny_loadName_cell KO.kind (KO.fr x hf).1 ((KO.fr x hf).2.trans e) n (P.fin h1 le I' R)) hd
theorem Cf {cc:Cc} (KO:cc.Ok c) (hn:cc.names[j]?=some (x,.local)) (hd:(x==("__debug__":Str))=false):
 aj prog w c (some cc) (.Name x pos) (JL j):=fun fz s σ r σ' I h Q E P=>by
 refine ka (Mo.ig h) fun h1 ay=>?_;subst ay;refine aq (aR.mp h1) fun d h2 bq=>?_;subst bq;refine q9 (id I) fun γ G e X=>?_;refine aq X.ns fun m n q=>?_;refine aq (q j x d hn h2) fun v h3 h4=>?_;exact dR (wpAny_loadName_local KO.kind (KO.loc x (cm KO.pj hn)) n h3 (P.ok _ rfl v s fz (Fz.le_refl _) I h4)) hd
noncomputable def globK(c:Ac)(k:Option Cc)(x:Str):Prop:=match k with
 |none=>c.env.scope.names.lookup x=some .globalImplicit
 |some cc=>cc.names.lookup x=some .globalImplicit
theorem vf(O:c.Ok)(KO:dc c k):(ee c k).globals=eH∧(ee c k).builtins=fB:=by
 cases k with
 |none=>exact⟨O.glob,O.Gx⟩
 |some cc=>exact⟨Cc.Ok.glob KO,Cc.Ok.Gx KO⟩
theorem Ep (O:c.Ok) (KO:dc c k) (hx:globK c k x) (h:aH M A (loadGlobal (ee c k) x) Q E s) (hd:(x==("__debug__":Str))=false):
 aH M A (eval (.Name x pos) (ee c k)) Q E s:=by
 cases k with
 |none=>exact Calls.Name_function_global O.kind hx h hd
 |some cc=>exact Calls.Name_function_global (Cc.Ok.kind KO) (Cc.Ok.gl KO x hx) h hd
theorem l6 (O:c.Ok) (KO:dc c k) (H:HI c.C fz s.heap) (hx:globK c k x) (hg:c.C.mg x=some v) (h:Q v s) (hd:(x==("__debug__":Str))=false):
 aH M A (eval (.Name x pos) (ee c k)) Q E s:=Ep O KO hx (Calls.loadGlobal_global ((vf O KO).1▸H.g O.K) hg h) hd
theorem ij (O:c.Ok) (KO:dc c k) (H:HI c.C fz s.heap) (hx:globK c k x) (hg:c.C.mg x=none) (hb:c.C.mb x=some v) (h:Q v s) (hd:(x==("__debug__":Str))=false):
 aH M A (eval (.Name x pos) (ee c k)) Q E s:=Ep O KO hx (Calls.loadGlobal_builtin ((vf O KO).1▸H.g O.K) hg ((vf O KO).2▸H.b O.K) hb h) hd
theorem Cg (O:c.Ok) (KO:dc c k) (hx:globK c k x) (hg:c.C.mg x=some v) (r:Rep c.C.EC c.bk d v) (hd:(x==("__debug__":Str))=false) {o:Option D} (ho:∀e,o=some e→e=d):
 aj prog w c k (.Name x pos) (fun σ=>.of (o.map .ok) σ):=fun fz s σ q σ' I h Q E P=>by
 refine ka (Mo.ig h) fun h1 ay=>?_;subst ay;refine aq (aR.mp h1) fun e h2 bq=>?_;subst bq;refine aq I.inv fun γ G _=>?_;exact l6 O KO I.hi hx hg (P.ok _ rfl v s fz (Fz.le_refl _) I (Rep.mono G.le _ _ (ho e h2▸r))) hd
inductive Ci:Const→D→Prop
 |none:Ci .none .none
 |bool (b:Bool):Ci (.bool b) (.bool b)
 |int (i:Int):Ci (.int i) (.int i)
 |str (x:Str):Ci (.str x) (.str x.cps.toList)
noncomputable def constOk(d:D)(q:Const):Option {u:Unit // Ci q d}:=match q with
 |.none=>match d with
  |.none=>some ⟨(),.none⟩
  |_=>none
 |.bool b=>match d with
  |.bool b'=>if h:b=b' then some ⟨(),h▸.bool b⟩ else none
  |_=>none
 |.int b=>match d with
  |.int b'=>if h:b=b' then some ⟨(),h▸.int b⟩ else none
  |_=>none
 |.str b=>match d with
  |.str b'=>if h:b.cps.toList=b' then some ⟨(),h▸.str b⟩ else none
  |_=>none
 |_=>none
theorem nx(O:c.Ok)(KO:dc c k)(h:Ci q d):aj prog w c k (.Constant q n pos) (fun σ=>.ok d σ):=fun fz s σ r σ' I hv Q E P=>by
 cases h with
 |none=>exact aF (P.fin hv (Fz.le_refl _) I (show Rep _ _ .none _ from rfl))
 |bool b=>exact aF (P.fin hv (Fz.le_refl _) I g7)
 |int i=>exact wpAny_Constant_int (P.fin hv (Fz.le_refl _) (I.grow O KO (bp.tok I.hi _)) gy)
 |str x=>exact Calls.Constant_str (P.fin hv (Fz.le_refl _) (I.grow O KO (bp.tok I.hi _)) mW)
theorem HB(O:c.Ok)(KO:dc c k){op:Ma}(hl:aj prog w c k l yf)(hr:aj prog w c k r Ir):
 aj prog w c k (.BinOp l op.op r pos) (fun σ=>(yf σ).bind fun x σ=>(Ir σ).bind fun y σ=>.of (rP op x y) σ):=
 tI O KO hl hr (fun _ _ _ h=>wpAny_BinOp h) fun fz s x y a b q H ra rb h=>Ce O.K H ra rb h
theorem Ac.Ok.units(O:c.Ok):c.A.units+100<cLine:=by
 have:=O.room.units;unfold cLine;lia
theorem HC(O:c.Ok)(KO:dc c k){op:MR}(hl:aj prog w c k l yf)(hr:aj prog w c k r Ir)(hm:behindInMarks op.op r=false):
 aj prog w c k (.Compare l [op.op] [r] pos) (fun σ=>(yf σ).bind fun x σ=>(Ir σ).bind fun y σ=>.of (u7 op x y) σ):=
 tI O KO hl hr (fun _ _ _ h=>wpAny_Compare1 h hm) fun fz s x y a b q H ra rb h=>qj O.units H ra rb h
theorem Mo.bind_assoc{α β δ:Type}{m:Mo α}{f:α→St→Mo β}{g:β→St→Mo δ}:(m.bind f).bind g=m.bind fun x σ=>(f x σ).bind g:=match m with
 |none=>rfl
 |some (.exc _,_)=>rfl
 |some (.ok _,_)=>rfl
theorem Cj(O:c.Ok)(KO:dc c k){l r:Expr}{op:MR}{pos:Pos}{yf Ir:St→Mo D}(hl:aj prog w c k l yf)(hr:aj prog w c k r Ir)(hm:behindInMarks op.op r=false):
 gk prog w c k (.Compare l [op.op] [r] pos) (val fun σ=>(yf σ).bind fun x σ=>(Ir σ).bind fun y σ=>.of (u7 op x y) σ).2:=fun fz s σ q σ' I hv Q E P=>by
 have h1:=Mo.bind_assoc.symm.trans hv;refine wpAny_isTrue_Compare1 (hl.bind I h1 P fun x va ai a9 av b8 az ra h2 fg=>hr.bind az (Mo.bind_assoc.symm.trans h2) fg fun y vb de cw gi fy jc rb h3 sd=>?_) hm;rcases Mo.bind_some h3 with ⟨z,oW,h5,h6⟩|⟨z,h5,rfl⟩
 ·refine oQ O KO jc h5 (Q:=fun v s=>aH (model prog w) c.A (truthy v) Q E s) (.A6 fun v s' ae le I' R=>?_) (qj O.units jc.hi (Rep.mono fy _ _ ra) rb)
  exact yD O KO I' R h6 (sd.le le)
 ·exact oQ O KO jc h5 (.rZ (sd.exc _ rfl)) (qj O.units jc.hi (Rep.mono fy _ _ ra) rb)
noncomputable def lI{α β:Type}(P:α→β→Prop):List α→List β→Prop
 |[],[]=>True
 |a::as,b::bs=>P a b∧lI P as bs
 |_,_=>False
variable(prog w) in
noncomputable abbrev QY(c:Ac)(k:Option Cc)(e:Expr)(ev:Ev):Prop:=aj prog w c k e ev.1∧gk prog w c k e ev.2
variable(prog w) in
noncomputable abbrev eg(c:Ac)(k:Option Cc):List Expr→List Ev→Prop:=lI (QY prog w c k)
theorem JQ(O:c.Ok)(KO:dc c k){α:Type}{x:D}{va:Value}{f:Bool→St→Mo α}{r:R α}(I:bt c k fz s σ)(ra:Rep c.C.EC fz x va)(h:(qc x σ).bind f=some (r,σ')){Q:Bool→Shared→Prop}{E:Value→Shared→Prop}
 (go:∀b s' ae,fz.le ae→bt c k ae s' σ→f b σ=some (r,σ')→Q b s'):aH (model prog w) c.A (truthy va) Q E s:=by
 rcases Mo.bind_some h with ⟨b,ai,h1,h2⟩|⟨x,h1,_⟩
 ·refine ka (Mo.ig h1) fun h3 ay=>?_;subst ay
  refine aq (aR.mp h3) fun b' ht hb=>?_;cases hb;exact vW I.hi ra ht _ _ fun s' ae G=>go b s' ae G.le (I.grow O KO G) h2
 ·refine ka (Mo.ig h1) fun h3 ay=>?_;subst ay
  refine aq (aR.mp h3) fun b' ht hb=>?_;cases hb
noncomputable def Sv(g4:Bool):List Ev→St→Mo D:=match g4 with
 |true=>AZ
 |false=>Ou
noncomputable def Sw(g4:Bool):List Ev→St→Mo Bool:=match g4 with
 |true=>A0
 |false=>Ov
noncomputable def Sx(g4:Bool):BoolOp:=match g4 with
 |true=>.And
 |false=>.Or
theorem oA(O:c.Ok)(KO:dc c k)(g4:Bool){pos:Pos}:∀(es:List Expr) (evs:List Ev),eg prog w c k es evs→xU prog w (Rep c.C.EC) c k (boolOp pos (Sx g4) (evalEach es (ee c k))) (Sv g4 evs)
 |[],[],_=>fun fz s σ r σ' I h=>by cases g4<;>exact nS h
 |[e],[ev],hs=>fun fz s σ r σ' I h Q E P=>hs.1.1 fz s σ r σ' I (by cases g4<;>exact h) Q E P
 |e::e'::es,ev::Yi::evs,hs=>fun fz s σ r σ' I h Q E P=>by
  have h':(ev.1 σ).bind (fun x σ=>(qc x σ).bind fun b σ=>if b=g4 then Sv g4 (Yi::evs) σ else .ok x σ)=some (r,σ'):=by
   cases g4
   ·exact hH (congrArg _ (funext fun x=>funext fun σ=>congrArg _ (funext fun b=>funext fun σ=>by cases b<;>rfl))) h
   ·exact h
  have ih:=oA O KO g4 (pos:=pos) (e'::es) (Yi::evs) hs.2;refine aB (hs.1.1.bind I h' P fun x va ai a9 av b8 az ra h2 fg=>aB (cA (aB (aQ (JQ O KO az ra h2 fun b cw gi fy jc h3=>?_)))));have fin:b≠g4→Q va cw:=fun q=>by rw[if_neg q] at h3;exact fg.fin h3 fy jc (Rep.mono fy _ _ ra)
  have Rp:b=g4→_:=fun q=>by rw[if_pos q] at h3;exact ih gi cw _ r σ' jc h3 Q E (fg.le fy)
  cases g4<;>cases b<;>first|exact aF (fin nofun)|exact Rp rfl
theorem Cm(O:c.Ok)(KO:dc c k){es:List Expr}{evs:List Ev}{pos:Pos}(hs:eg prog w c k es evs):aj prog w c k (.BoolOp .And es pos) (AZ evs):=fun fz s σ r σ' I h Q E P=>
 oA O KO true es evs hs fz s σ r σ' I h Q E P
theorem HD(O:c.Ok)(KO:dc c k){es:List Expr}{evs:List Ev}{pos:Pos}(hs:eg prog w c k es evs):aj prog w c k (.BoolOp .Or es pos) (Ou evs):=fun fz s σ r σ' I h Q E P=>
 oA O KO false es evs hs fz s σ r σ' I h Q E P
theorem mx(g4:Bool):∀(es:List Expr) (evs:List Ev),eg prog w c k es evs→xU prog w BR c k (allTrue (Sx g4) es (ee c k)) (Sw g4 evs)
 |[],[],_=>fun fz s σ r σ' I h Q E P=>by cases g4<;>exact aF (P.fin h (Fz.le_refl _) I rfl)
 |e::es,ev::evs,hs=>fun fz s σ r σ' I h Q E P=>by
  have h':(ev.2 σ).bind (fun b σ=>if b=g4 then Sw g4 evs σ else .ok b σ)=some (r,σ'):=by
   cases g4<;>exact hH (congrArg _ (funext fun b=>funext fun σ=>by cases b<;>rfl)) h
  have ih:=mx g4 es evs hs.2;refine aB (hs.1.2.bind I h' P fun b v ai a9 av b8 az e h2 fg=>?_);cases (show v=b from e);have fin:b≠g4→Q b a9:=fun q=>by rw[if_neg q] at h2;exact fg.fin h2 (Fz.le_refl _) az rfl
  have Rp:b=g4→_:=fun q=>by rw[if_pos q] at h2;exact ih av a9 _ r σ' az h2 Q E fg
  cases g4<;>cases b<;>first|exact aF (fin nofun)|exact Rp rfl
theorem A8{es:List Expr}{evs:List Ev}{pos:Pos}(hs:eg prog w c k es evs):gk prog w c k (.BoolOp .And es pos) (A0 evs):=fun fz s σ r σ' I h Q E P=>
 mx true es evs hs fz s σ r σ' I h Q E P
theorem Cn{es:List Expr}{evs:List Ev}{pos:Pos}(hs:eg prog w c k es evs):gk prog w c k (.BoolOp .Or es pos) (Ov evs):=fun fz s σ r σ' I h Q E P=>
 mx false es evs hs fz s σ r σ' I h Q E P
theorem Co{e:Expr}{te:St→Mo Bool}{pos:Pos}(h:gk prog w c k e te):gk prog w c k (.UnaryOp .Not e pos) (fun σ=>(te σ).bind fun b σ=>.ok (!b) σ):=fun fz s σ r σ' I hv Q E P=>by
 exact aB (h.bind I hv P fun b v ai a9 av b8 az e h2 fg=>aF (fg.fin h2 (Fz.le_refl _) az (congrArg (!·) e)))
theorem JR{α β:Type}{Rel:Fz→α→β→Prop}{t:Expr}{te:St→Mo Bool}{ea eb:St→Mo α}{ta tb:Sem β}(ht:gk prog w c k t te)(ha:xU prog w Rel c k ta ea)(hb:xU prog w Rel c k tb eb):
 xU prog w Rel c k (do if ←isTrue t (ee c k) (eval t (ee c k)) then ta else tb) (fun σ=>(te σ).bind fun x σ=>if x then ea σ else eb σ):=fun fz s σ r σ' I hv Q E P=>
 aB (ht.bind I hv P fun x v ai a9 av b8 az e h2 fg=>by
  cases (show v=x from e);cases x
  ·exact hb av a9 ai r σ' az h2 Q E fg
  ·exact ha av a9 ai r σ' az h2 Q E fg)
theorem HE{t a b:Expr}{te:St→Mo Bool}{ea eb:St→Mo D}{pos:Pos}(ht:gk prog w c k t te)(ha:aj prog w c k a ea)(hb:aj prog w c k b eb):
 aj prog w c k (.IfExp t a b pos) (fun σ=>(te σ).bind fun x σ=>if x then ea σ else eb σ):=JR ht ha hb
theorem Cp{t a b:Expr}{te ta tb:St→Mo Bool}{pos:Pos}(ht:gk prog w c k t te)(ha:gk prog w c k a ta)(hb:gk prog w c k b tb):
 gk prog w c k (.IfExp t a b pos) (fun σ=>(te σ).bind fun x σ=>if x then ta σ else tb σ):=JR ht ha hb
theorem qk (O:c.Ok) {i:Nat} {x:Str} {kd:NameKind} {pos:Pos} (hn:c.env.scope.names[i]?=some (x,kd)) (hd:(x==("__debug__":Str))=false):
 gk prog w c none (.Name x pos) (peek i):=fun fz s σ r σ' I h Q E P=>by
 refine aq (fw h) fun y hy h0=>?_;refine ka (Mo.ig h0) fun h1 ay=>?_;subst ay;refine aq (aR.mp h1) fun b h2 bq=>?_;subst bq;refine sz (I.inv.look hn hy) fun v g hv R Wz=>?_;subst Wz;refine isTrue_plain (dR (nM O hv ?_) hd) (by rfl);cases g with
 |val d=>exact vW I.hi R h2 _ _ fun s' ae G=>P.ok b rfl b s' ae G.le (I.grow O trivial G) rfl
 |own a ds=>
  obtain⟨rfl,vs,⟨n,sl,l⟩,q⟩:=R;exact xy (vs:=vs) ⟨_,l,rfl,n,rfl⟩ q.length h2 fun t=>P.ok b rfl b _ fz (Fz.le_refl _) (I.grow O trivial (bp.tok I.hi t)) rfl
 |obj a dA fs=>exact nS h2
noncomputable def noStar(e:Expr):Bool:=e.ctorIdx !=22
theorem bf(h:noStar e=true):starEach (e::es) env=(false,eval e env)::starEach es env:=by
 cases e<;>first|rfl|exact absurd h bF
noncomputable def Sy(EC:Addr)(n:Nat)(fz:Fz)(ds:List D)(vs:List Value):Prop:=a8 EC fz ds vs∧vs.length=n
theorem j7:∀(es:List Expr) (evs:List Ev),eg prog w c k es evs→es.all noStar=true→xU prog w (Sy c.C.EC es.length) c k (spliced (backTo pos (starEach es (ee c k)))) (fe evs)
 |[],[],_,_=>fun fz s σ r σ' I h Q E P=>Calls.spliced_nil (P.fin h (Fz.le_refl _) I ⟨rfl,rfl⟩)
 |e::es,ev::evs,hs,hn=>fun fz s σ r σ' I h Q E P=>by
  have hn:=cO.mp hn;rw[bf hn.1];exact Calls.spliced_cons (hs.1.1.bind I h P fun x va ai a9 av b8 az ra h2 fg=>(j7 es evs hs.2 hn.2).bind az h2 fg fun xs vs de cw gi fy jc rs h4 sd=>sd.fin h4 (Fz.le_refl _) jc ⟨⟨va,vs,rfl,Rep.mono fy _ _ ra,rs.1⟩,congrArg (· + 1) rs.2⟩)
theorem JS(O:c.Ok)(KO:dc c k)(I:bt c k fz s σ)(h:Mo.ok d σ=some (r,σ'))(P:C1 (Rep c.C.EC) c k fz r σ' Q E)(g:Gives prog w c.C c.A t fz s d):aH (model prog w) c.A t Q E s:=
 g Q E fun v s' ae G R=>P.fin h G.le (I.grow O KO G) R
theorem HF(O:c.Ok)(KO:dc c k){es:List Expr}(hs:eg prog w c k es evs)(hn:es.all noStar=true):aj prog w c k (.Tuple es n pos) (fun σ=>(fe evs σ).bind rS):=fun fz s σ r σ' I h Q E P=>
 Tuple_ ((j7 es evs hs hn).bind I h P fun xs vs ai a9 av b8 az rs h2 fg=>JS O KO az (kQ h2).2 fg (Gives.newTuple az.hi rs.1 (rs.1.length.symm▸(kQ h2).1)))
theorem Cq(O:c.Ok)(KO:dc c k){es:List Expr}(hs:eg prog w c k es evs)(hn:es.all noStar=true):aj prog w c k (.List es pos) (fun σ=>(fe evs σ).bind jt):=fun fz s σ r σ' I h Q E P=>
 List_ ((j7 es evs hs hn).bind I h P fun xs vs ai a9 av b8 az rs h2 fg=>JS O KO az (kQ h2).2 fg (Gives.newList az.hi rs.1 (rs.1.length.symm▸(kQ h2).1)))
theorem A9{C:Bc}{ds:List D}(AA:isSlice slice=false)(H:HI C fz s.heap)(r:Rep C.EC fz (.list ds) v)(hd:ds.getLast?=some d):
 Gives prog w C A (fK value slice v (.int (-1) t)) fz s d:=fun Q E hQ=>by
 obtain⟨a,vs,n,rfl,f,q⟩:=r;have l1:=q.length;rw[aS] at l1;rw[List.getLast?_eq_getElem?] at hd;have aAV:0<ds.length:=by
  cases ds with
  |nil=>simp at hd
  |cons _ _=>simp
 refine aq (q.get _ d hd) fun y hy ry=>?_;have hl:=en H f;refine tail_any (T:="list") hl.typeIs jB (wpAny_getItem_list_neg hl (by decide) (by lia) (by decide) ?_ (hQ _ _ _ (bp.refl H) ry)) (l8 (nJ AA));rw[show((-1:Int)+(vs.size:Int)).toNat=ds.length-1 by lia]
 simpa using hy
theorem Mh{d:Option D}(h:d.map .ok=some q)(g:∀x,d=some x→Gives prog w C A t fz s x):cg prog w C A t fz s q:=by
 refine aq (aR.mp h) fun x hx bq=>?_;subst bq;exact(g x hx).R
theorem Cr{C:Bc}{A:Around}(hA:A.handled=none)(AA:isSlice slice=false)(H:HI C fz s.heap)(ra:Rep C.EC fz x a)(rb:Rep C.EC fz y b)(h:tB x y=some q):
 cg prog w C A (fK value slice a b) fz s q:=by
 have hI:∀{f:Int→Option (R D)},eu y f=some q→∃i t,f i=some q∧b=.int i t:=fun h=>by
  refine aq (kN h) fun i ay h1=>?_;subst ay;refine eo (d6 rb) fun t e=>?_;exact⟨i,t,h1,e⟩
 cases x with
 |list l=>
  refine iw (hI h) fun i t h1 xq=>?_;subst xq
  by_cases hk:i=-1
  ·rw[if_pos hk] at h1;subst hk
   exact Mh h1 fun x=>A9 AA H ra
  ·rw[if_neg hk] at h1
   exact Mh (kQ h1).2 fun x=>AV AA H ra (kQ h1).1.1 (kQ h1).1.2
 |tup l=>
  refine iw (hI h) fun i t h1 xq=>?_;subst xq;exact Mh (kQ h1).2 fun x=>C7 AA H ra (kQ h1).1.1 (kQ h1).1.2
 |str l=>
  refine iw (hI h) fun i t h1 xq=>?_;subst xq;refine eo (bu ra) fun u ay=>?_;subst ay;exact aL (kQ h1).2▸C8 AA hA H (kQ h1).1.1 (kQ h1).1.2
 |_=>exact nS h
theorem HG(O:c.Ok)(KO:dc c k)(hA:c.A.handled=none)(hv:aj prog w c k v XA)(hi:aj prog w c k i AN)(AA:isSlice i=false):
 aj prog w c k (.Subscript v i pos) (fun σ=>(XA σ).bind fun x σ=>(AN σ).bind fun y σ=>.of (tB x y) σ):=
 tI O KO hv hi (fun _ _ _ h=>Subscript_ h) fun fz s x y a b q H ra rb h=>Cr hA AA H ra rb h
theorem yE{C:Bc}(r:Rep C.EC fz d v)(h:JJ d=some o):IsPart v o:=by
 cases d with
 |none=>cases r;cases h;exact .none
 |int i=>obtain⟨t,rfl⟩:=r;cases h;exact .int _ _
 |_=>exact nS h
theorem vg(x:AX l h n f=some q):n≤sizeLine∧∃i j,dq l 0 n=some i∧dq h n n=some j∧iu (f i j)=some q:=by
 refine ka (kQ x) fun h1 x=>?_;refine aq (fw x) fun i hi x=>?_;refine aq (fw x) fun j hj x=>?_;exact⟨h1,i,j,hi,hj,x⟩
theorem yu{C:Bc}{A:Around}{value:Expr}{l u:Option Expr}{p:Pos}{x dl dh:D}{v vl vh:Value}{q:R D}(H:HI C fz s.heap)(rv:Rep C.EC fz x v)(rl:Rep C.EC fz dl vl)(rh:Rep C.EC fz dh vh)(h:km x dl dh=some q):
 cg prog w C A (newFields "slice" [vl,vh,.none]>>=fun i=>fK value (.Slice l u none p) v i) fz s q:=by
 refine aq (fw h) fun a ha h1=>?_;refine aq (fw h1) fun b hb h2=>?_;have pa:=yE rl ha;have pb:=yE rh hb;cases x with
 |str x=>
  obtain⟨gw,i,j,hi,hj,h3⟩:=vg h2;refine eo (bu rv) fun t ay=>?_;subst ay;exact qh h3 (AU (x:=Str.mk x.toArray) H pa pb (by simpa only[Str.length,bY] using gw) (by simpa only[Str.length,bY] using hi) (by simpa only[Str.length,bY] using hj))
 |list x=>
  obtain⟨gw,i,j,hi,hj,h3⟩:=vg h2;exact qh h3 (yo H rv pa pb gw hi hj)
 |_=>exact nS h2
theorem uc (h:aH M A (newFields "slice" [vl,vu,.none]>>=f) Q E s):
 aH M A (f (.ref s.heap.objs.size)) Q E {s with heap:=s.heap.push {cls:=.type "slice",data:=.fields #[vl,vu,.none]}}:=fun Γ p hΓ=>by
 have q:=h Γ p hΓ;rw[Sem.wp_bind'] at q;unfold newFields newObj at q;exact q
noncomputable def yv(prog:Program)(w:World)(c:Ac)(k:Option Cc)(e:Option Expr)(ev:St→Mo D):Prop:=match e with
 |none=>ev=fun σ=>.ok .none σ
 |some e=>aj prog w c k e ev
theorem yF(h:yv prog w c k e ev):xU prog w (Rep c.C.EC) c k (valueOrNone (evalOpt e (ee c k))) ev:=by
 cases e with
 |none=>exact fun fz s σ r σ' I hv Q E P=>aF (P.fin (by rw[show ev=_ from h] at hv;exact hv) (Fz.le_refl _) I (show Rep _ _ .none _ from rfl))
 |some e=>exact h
theorem Aa(O:c.Ok)(KO:dc c k)(hv:aj prog w c k v XA)(hl:yv prog w c k l yf)(hu:yv prog w c k u evu):
 aj prog w c k (.Subscript v (.Slice l u none p) pos) (fun σ=>(XA σ).bind fun x σ=>(yf σ).bind fun a σ=>(evu σ).bind fun b σ=>.of (km x a b) σ):=fun fz s σ r σ' I h Q E P=>
 Subscript_ (hv.bind I h P fun x va ai a9 av b8 az ra h2 fg=>aB (m:=valueOrNone (evalOpt l (ee c k))) ((yF hl).bind az h2 fg fun y vl de cw gi fy jc rl h4 sd=>aB (aQ ((yF hu).bind jc h4 sd fun z vu oW l4 sf lR xu ru h6 XB=>
  aB (aQ (aF (dM (uc (oQ O KO xu h6 XB (yu xu.hi (Rep.mono (Fz.le_trans fy lR) _ _ ra) (Rep.mono lR _ _ rl) ru))) (by size_fits))))))))
noncomputable def Frs(C:Bc)(h:Heap)(outer:List Env):Prop:=
 ∀e∈outer,e.scope.kind≠.module∧∃L,e.frame=some L∧L≠C.P∧C.B.get? L=none∧∃o es n,h.get? L=some o∧o.data=.dict es n
variable(prog w) in
noncomputable def qU(C:Bc)(a:Addr)(m:Nat)(kn:List Str)(n:Nat)(F:List D→Option (R D)):Prop:=
 ∀(A:Around) (outer:List Env) (fz:Fz) (s:Shared) (vs:List Value) (ds:List D) (r:R D),u6 n A→A.handled=none→A.frames=some outer→C.FR=outer.filterMap (·.frame)→Frs C s.heap outer→
  HI C fz s.heap→C.rJ.le fz→s.gens=#[]→a8 C.EC fz ds vs→F ds=some r→cg prog w C A (call (.ref a) (vs.take m) (kn.zip (vs.drop m))) fz s r
theorem Kp.vi{C:Bc}(kp:Kp C.P FR h h')(f:Frs C h l):Frs C h' l:=fun e he=>by
 obtain⟨a,L,b,d,nb,o,es,n,e1,e2⟩:=f e he;refine aq (kp L o e1 d) fun sl e3 _=>?_;exact⟨a,L,b,d,nb,_,es,n,e3,e2⟩
theorem jj.vi(O:c.Ok)(G:jj c fz s γ):Frs c.C s.heap (c.env::c.outer):=fun e he=>by
 rcases aO.mp he with rfl|he
 ·obtain⟨m,o,es,ep,e1,e2,_⟩:=G.ns
  exact⟨by rw[O.kind];decide,c.L,O.frame,O.mq O.u9,O.qa O.u9,o,es,ep,e1,e2⟩
 ·exact G.kp.vi (C:=c.C) (l:=c.outer) O.pk e he
theorem qV:∀(ks:List Keyword) (evs:List Ev),eg prog w c k (ks.map (·.value)) evs→xU prog w (Sy c.C.EC ks.length) c k (evalAll ((backToKw pos (iC ks (ee c k))).map (·.2))) (fe evs)
 |[],[],_=>fun fz s σ r σ' I h Q E P=>aF (P.fin h (Fz.le_refl _) I ⟨rfl,rfl⟩)
 |⟨a,e,p⟩::ks,ev::evs,hs=>fun fz s σ r σ' I h Q E P=>by
  show aH _ _ (evalAll ((do let v ←eval e (ee c k);standAt pos;pure v)::(backToKw pos (iC ks (ee c k))).map (·.2))) Q E s;unfold evalAll;exact aB (aB (hs.1.1.bind I h P fun x va ai a9 av b8 az ra h2 fg=>aB (cA (aF (aB (aQ ((qV ks evs hs.2).bind az h2 fg fun xs vs de cw gi fy jc rs h4 sd=>aF (sd.fin h4 (Fz.le_refl _) jc ⟨⟨va,vs,rfl,Rep.mono fy _ _ ra,rs.1⟩,congrArg (· + 1) rs.2⟩))))))))
theorem Mo.af{α:Type}{m:Mo α}:(m.bind fun x σ=>.ok x σ)=m:=match m with
 |none=>rfl
 |some (.exc _,_)=>rfl
 |some (.ok _,_)=>rfl
theorem uO:∀(as bs:List Ev) (σ:St),fe (as++bs) σ=(fe as σ).bind fun xs σ=>(fe bs σ).bind fun ys σ=>.ok (xs++ys) σ
 |[],bs,σ=>(Mo.af (m:=fe bs σ)).symm
 |a::as,bs,σ=>by
  show(a.1 σ).bind (fun x σ=>(fe (as++bs) σ).bind fun xs σ=>.ok (x::xs) σ)=((a.1 σ).bind fun x σ=>(fe as σ).bind fun xs σ=>.ok (x::xs) σ).bind _;rw[Mo.bind_assoc];refine congrArg _ (funext fun x=>funext fun σ=>?_);rw[uO as bs σ,Mo.bind_assoc,Mo.bind_assoc];exact congrArg _ (funext fun xs=>funext fun σ=>Mo.bind_assoc)
theorem lI.len{α β:Type}{P:α→β→Prop}:∀{as:List α} {bs:List β},lI P as bs→as.length=bs.length
 |[],[],_=>rfl
 |_::_,_::_,h=>congrArg (· + 1) (lI.len h.2)
theorem JT:∀{ks:List Keyword} {kn:List Str},ks.map (·.arg)=kn.map some→(backToKw pos (iC ks (ee c k))).all (fun x=>x.1.isSome)=true∧((backToKw pos (iC ks (ee c k))).filterMap (·.1))=kn
 |[],[],_=>⟨rfl,rfl⟩
 |[],_::_,h=>by simp at h
 |_::_,[],h=>by simp at h
 |⟨a,e,p⟩::ks,y::kn,hk=>by
  simp only[aN,List.cons.injEq] at hk;obtain⟨rfl,hk⟩:=hk;obtain⟨i1,i2⟩:=JT (pos:=pos) hk;refine⟨?_,?_⟩
  ·exact cO.mpr ⟨rfl,i1⟩
  ·exact congrArg (y::·) i2
noncomputable def Mi(EC:Addr)(n:Nat)(kn:List Str)(fz:Fz)(ds:List D)(a:Args):Prop:=∃vs,a8 EC fz ds vs∧vs.length=n+kn.length∧a=⟨vs.take n,kn.zip (vs.drop n)⟩
theorem kT{es:List Expr}{ks:List Keyword}{kn:List Str}(h1:eg prog w c k es e1)(h2:eg prog w c k (ks.map (·.value)) e2)(hn:es.all noStar=true)(iv:es≠[])(hk:ks.map (·.arg)=kn.map some):
 xU prog w (Mi c.C.EC es.length kn) c k (evalArgs f true (backTo pos (starEach es (ee c k))) (backToKw pos (iC ks (ee c k)))) (fe (e1++e2)):=fun fz s σ r σ' I h Q E P=>by
 have Ud:=JT (c:=c) (k:=k) (pos:=pos) hk;rw[uO] at h;have Rq:∃x l,backTo pos (starEach es (ee c k))=(false,x)::l:=by
  cases es with
  |nil=>exact absurd rfl iv
  |cons e es=>exact⟨_,_,by rw[bf (cO.mp hn).1];rfl⟩
 have go:aH (model prog w) c.A (spliced (backTo pos (starEach es (ee c k)))) (fun vs a9=>aH (model prog w) c.A (evalAll ((backToKw pos (iC ks (ee c k))).map (·.2))) (fun us cw=>Q ⟨vs,kn.zip us⟩ cw) E a9) E s:=by
  refine(j7 es e1 h1 hn).bind I h P fun xs vs ai a9 av b8 az rs q2 fg=>(qV ks e2 h2).bind az q2 fg fun ys us de cw gi fy jc ru h6 sd=>sd.fin h6 (Fz.le_refl _) jc ⟨vs++us,a8.append (a8.mono fy _ _ rs.1) ru.1,?_,?_⟩
  ·rw[aV,rs.2,ru.2,←aM (f:=Keyword.arg),hk,aM]
  ·rw[List.take_left' rs.2,List.drop_left' rs.2]
 refine kK Rq fun x l hx=>?_;rw[hx] at go ⊢;refine aB (dS go (fun vs a9 h₁=>aQ ?_) fun _ _ x=>x);rw[Ud.1];refine aB (dS h₁ (fun us cw jz=>aB (aF (aF ?_))) fun _ _ x=>x);rw[Ud.2];exact jz
theorem u6.le(r:u6 n A)(h:m≤n):u6 m A:=⟨by have:=r.depth;exact aA (bI (bM _ h) _) this,by have:=r.units;lia⟩
theorem Ct(O:c.Ok)(KO:dc c k)(hA:c.A.handled=none){es:List Expr}{ks:List Keyword}{kn:List Str}{o:Obj}
 (hx:globK c k x) (hd:(x==("__debug__":Str))=false) (hg:c.C.mg x=some (.ref a)) (ho:c.C.B.get? a=some o) (hf:o.data=.func fd) (Rr:a≠c.C.P) (spec:qU prog w c.C a es.length kn n F) (hn:n≤c.n)
 (h1:eg prog w c k es e1) (h2:eg prog w c k (ks.map (·.value)) e2) (hs:es.all noStar=true) (iv:es≠[]) (hk:ks.map (·.arg)=kn.map some):
 aj prog w c k (.Call (.Name x p) es ks pos) (fun σ=>(fe (e1++e2) σ).bind fun xs σ=>.of (F xs) σ):=fun fz s σ r σ' I h Q E P=>by
 refine dG (l6 O KO I.hi hx hg ?_ hd);refine iT (o:=o) (fd:=fd) ((kT h1 h2 hs iv hk).bind I h P fun ds as ai a9 av b8 az rs h4 fg=>?_);obtain⟨vs,rs,_,rfl⟩:=rs;refine aq az.inv fun γ G _=>?_;exact⟨⟨az.hi.base a o ho Rr,hf⟩,oQ O KO az h4 fg (spec c.A (c.env::c.outer) av a9 vs ds r (O.room.le hn) hA O.fr O.FR (G.vi O) az.hi (Fz.le_trans O.rJ G.le) G.gens rs)⟩
theorem vj{l:Expr}{f:D→Option (R D)}{yf:St→Mo D}{whole:Expr}{op:Value→Sem Value}(O:c.Ok)(KO:dc c k)(hl:aj prog w c k l yf)
 (rule:∀(fz:Fz) (s:Shared) (σ:St),bt c k fz s σ→∀(Q E:Value→Shared→Prop),aH (model prog w) c.A (eval l (ee c k)) (fun a a9=>aH (model prog w) c.A (op a) Q E a9) E s→aH (model prog w) c.A (eval whole (ee c k)) Q E s)
 (prim:∀fz s σ x a q,bt c k fz s σ→Rep c.C.EC fz x a→f x=some q→cg prog w c.C c.A (op a) fz s q):
 aj prog w c k whole (fun σ=>(yf σ).bind fun x σ=>.of (f x) σ):=fun fz s σ q σ' I h Q E P=>
 rule fz s σ I Q E (hl.bind I h P fun _ _ _ _ _ _ az ra h1 fg=>oQ O KO az h1 fg (prim _ _ _ _ _ _ az ra))
theorem xX (O:c.Ok) (KO:dc c k) {x:Str} {id:String} {e:Expr} {p pos:Pos} (hx:globK c k x) (hg:c.C.mg x=none) (hb:c.C.mb x=some (.builtin id)) (hd:(x==("__debug__":Str))=false) (hn:noStar e=true)
 (fz:Fz) (s:Shared) (σ:St) (I:bt c k fz s σ) (Q E:Value→Shared→Prop) (h:aH (model prog w) c.A (eval e (ee c k)) (fun a a9=>aH (model prog w) c.A (call (.builtin id) [a]) Q E a9) E s):
 aH (model prog w) c.A (eval (.Call (.Name x p) [e] [] pos) (ee c k)) Q E s:=by
 refine dG (ij O KO I.hi hx hg hb ?_ hd);rw[bf hn];exact PySem.callWith_builtin1 h
theorem jl (O:c.Ok) (KO:dc c k) {x:Str} {id:String} {e:Expr} {p pos:Pos} (hx:globK c k x) (hg:c.C.mg x=none) (hb:c.C.mb x=some (.type id)) (hd:(x==("__debug__":Str))=false) (hn:noStar e=true)
 (fz:Fz) (s:Shared) (σ:St) (I:bt c k fz s σ) (Q E:Value→Shared→Prop) (h:aH (model prog w) c.A (eval e (ee c k)) (fun a a9=>aH (model prog w) c.A (call (.type id) [a]) Q E a9) E s):
 aH (model prog w) c.A (eval (.Call (.Name x p) [e] [] pos) (ee c k)) Q E s:=by
 refine dG (ij O KO I.hi hx hg hb ?_ hd);rw[bf hn];exact PySem.callWith_type1 h
theorem log2_small{i:Int}(h0:0≤i)(h:i<10000):i.natAbs.log2<1920:=by
 by_cases z:i.natAbs=0
 ·rw[z];decide
 ·have:i.natAbs<2^14:=by lia
  have:=(Nat.log2_lt z).mpr this;exact aA (aE this) (by decide)
theorem oE{i:Int}(h:0≤i):Str.ofString (toString i)=⟨(digits i.toNat).toArray⟩:=by
 rw[Str.ofString_eq_toList];refine eo (hV h) fun n ay=>?_;subst ay;rfl
noncomputable def Fn.callee:Fn→Value
 |.len=>.builtin "len"
 |.str=>.type "str"
 |.int=>.type "int"
theorem tK{C:Bc}{f:Fn}(H:HI C fz s.heap)(r:Rep C.EC fz d v)(h:Mb f d=some q):
 cg prog w C A (call f.callee [v]) fz s q:=by
 cases f with
 |len=>
  cases d with
  |str x=>
   refine eo r fun t ay=>?_;subst ay;exact qh (kQ h).2 (Gs (x:=⟨x.toArray⟩) H (by simpa [Str.length] using (kQ h).1))
  |list x=>exact qh (kQ h).2 (C6 H r (kQ h).1)
  |_=>exact nS h
 |str=>
  refine aq (kN h) fun i ay h1=>?_;subst ay;refine eo r fun t ay=>?_;subst ay;refine ka (kQ h1) fun hi h2=>?_;exact qh h2 (b5 H fun Q E hh=>P.str_of_int (log2_small hi.1 hi.2) (hh _ _ (by rw[oE hi.1];exact⟨_,rfl⟩)))
 |int=>
  refine aq (g5 h) fun x ay h1=>?_;subst ay;refine eo r fun t ay=>?_;subst ay;refine ka (kQ h1) fun hx h2=>?_;have e:=oE (i:=(kR x:Int)) (dF _);rw[cU,←hx.1] at e;rw[←e];exact qh h2 (b5 H fun Q E hh=>PySem.W.KIN.call_num (dF _) (by lia) (hh _ _ gy))
noncomputable def fieldNames:List Str:=["useragents","rulelines","delay","req_rate","requests","seconds"]
structure CF(C:Bc)(K:W.Frag)(fS fI:Addr):Prop where
 Vx:K.In C.B
 kP:K.lookup C.P=none
 get:∀name,W.plainGet K C.EC name=true
 dict:W.hasDictIn K C.EC=true
 attr:∀x,x∈fieldNames→W.findIn K (.ref C.EC) x=some none
 set:W.findIn K (.ref C.EC) "__setattr__"=some (some (.builtin "object.__setattr__"))
 over:W.plainOver K C.EC=true
 str:W.findIn K (.ref C.EC) "__str__"=some (some (.ref fS))
 strFn:W.isFn K (.ref fS)=true
 makes:W.makesIn K C.EC=true
 init:W.findIn K (.ref C.EC) "__init__"=some (some (.ref fI))
 initFn:W.isFn K (.ref fI)=true
section
variable{C:Bc}{K:W.Frag}{fS fI:Addr}{A:Around}
theorem CF.S7(F:CF C K fS fI)(H:HI C fz h):K.In h:=fun a o e=>H.base a o (F.Vx a o e) fun q=>by rw[q,F.kP] at e;cases e
theorem Ab{fs:List (Str×D)}:∀{es:List cQ},gp C.EC fz fs es→∀{x:Str} {d:D},fs.lookup x=some d→∃e,es.find? (·.key.isStr x)=some e∧Rep C.EC fz d e.val:=by
 induction fs with
 |nil=>intro es r x d h;cases h
 |cons y fs ih=>
  intro es r x d h;obtain⟨e,q,t,rfl,hk,r1,r2⟩:=r
  by_cases xR:x=y.1
  ·have h:((x,y.2)::fs).lookup x=some d:=xR▸h
   rw[bT,beq_self_eq_true] at h;cases h;exact⟨e,by rw[iU,hk,xR,show(Value.str y.1 t).isStr y.1=true from decide_eq_true rfl],r1⟩
  ·have h:((y.1,y.2)::fs).lookup x=some d:=h
   rw[bT,beq_eq_false_iff_ne.mpr xR] at h;refine aq (ih r2 h) fun e' h1 h2=>?_;exact⟨e',by rw[iU,hk,show(Value.str y.1 t).isStr x=false from decide_eq_false (Ne.symm xR)];exact h1,h2⟩
theorem Cu(r:Rep C.EC fz d v):W.handedIn v=true:=by
 cases d with
 |none=>cases r;rfl
 |bool b=>cases r;rfl
 |int i=>refine eo r fun t ay=>?_;subst ay;rfl
 |str i=>refine eo r fun t ay=>?_;subst ay;rfl
 |list l=>refine yk r fun _ _ _ xq _=>?_;subst xq;rfl
 |tup l=>refine yk r fun _ _ _ xq _=>?_;subst xq;rfl
 |kh l=>obtain⟨_,_,_,_,rfl,_⟩:=r;rfl
 |inst l=>obtain⟨_,_,_,_,rfl,_⟩:=r;rfl
theorem Ad(F:CF C K fS fI)(hx:x∈fieldNames)(H:HI C fz s.heap)(r:Rep C.EC fz d v)(h:rQ d x=some q):
 cg prog w C A (getAttr v x true) fz s q:=by
 refine aq (JG h) fun fs ay h1=>?_;subst ay;refine Mh h1 fun d hd=>?_;obtain⟨a,dA,es,n,rfl,f1,f2,r⟩:=r;refine eo (H.fi _ _ f1) fun sl g1=>?_;refine eo (H.fi _ _ f2) fun pY g2=>?_;refine aq (Ab r hd) fun e he hr=>?_;refine b5 H fun Q E hh=>W.get_value (F.S7 H) (od:=some ⟨.type "dict",none,.dict es n,pY⟩) ⟨g1,rfl,rfl,g2⟩ (W.plainGet_of (F.get x)).1 (W.findObj_own F.dict (F.attr x hx) rfl ?_) (Cu hr) (hh _ _ hr);show W.lookIn _ _=_;unfold W.lookIn;simp only[he]
end
theorem Cv{K:W.Frag}{fS fI:Addr}(O:c.Ok)(KO:dc c k)(F:CF c.C K fS fI){y x:Str}(hx:x∈fieldNames){p pos:Pos}{ev:St→Mo D}(h:aj prog w c k (.Name y p) ev):
 aj prog w c k (.Attribute (.Name y p) x pos) (fun σ=>(ev σ).bind fun d σ=>.of (rQ d x) σ):=
 tJ O KO h (fun _ _ _ hh=>Attribute_Name_ hh) fun fz s d v q H r hq=>Ad F hx H r hq
theorem Mj{G:Gl}(h:rR (lh G 0 [.inst fs] σ)=some (r,σ')):∃f y,G.fn 0=some f∧f [.inst fs]=some (.ok (.str y))∧Mo.ok (.str y) σ=some (r,σ'):=by
 obtain⟨y,h1,h2⟩:∃y,lh G 0 [.inst fs] σ=some (.ok (.str y),σ')∧r=.ok (.str y):=by
  revert h;cases lh G 0 [.inst fs] σ with
  |none=>exact nS
  |some p=>
   obtain⟨q,ai⟩:=p;cases q with
   |exc x=>exact nS
   |ok d=>
    cases d with
    |str y=>exact fun h=>by cases h;exact⟨y,rfl,rfl⟩
    |_=>exact nS
 refine aq (fw h1) fun f hf h3=>?_;refine ka (Mo.ig h3) fun h4 ay=>?_;subst ay;exact⟨f,y,hf,h4,h2▸rfl⟩
theorem Mk(h:Ot G .str x σ=q):(∃fs,x=.inst fs∧rR (lh G 0 [.inst fs] σ)=q)∨Mo.of (Mb .str x) σ=q:=by
 cases x with
 |inst fs=>exact .inl ⟨fs,rfl,h⟩
 |_=>exact .inr h
theorem HH{K:W.Frag}{fS fI:Addr}(O:c.Ok)(KO:dc c k)(F:CF c.C K fS fI)(hA:c.A.handled=none){n:Nat}{G:Gl}(spec:∀f,G.fn 0=some f→qU prog w c.C fS 1 [] n f)(hn:n+1≤c.n)
 {e:Expr} {p pos:Pos} {ev:St→Mo D} (hx:globK c k "str") (hg:c.C.mg "str"=none) (hb:c.C.mb "str"=some (.type "str")) (hs:noStar e=true) (h:aj prog w c k e ev):
 aj prog w c k (.Call (.Name "str" p) [e] [] pos) (fun σ=>(ev σ).bind (Ot G .str)):=fun fz s σ r σ' I hv Q E P=>by
 refine jl O KO hx hg hb (by decide +kernel) hs fz s σ I Q E (h.bind I hv P fun x va ai a9 av b8 az ra h2 fg=>?_);rcases Mk h2 with ⟨fs,rfl,h2⟩|h2
 ·clear h
  refine sz (Mj h2) fun f y hf hr h3=>?_;obtain⟨a,dA,es,n',rfl,f1,f2,rf⟩:=id ra;refine eo (az.hi.fi _ _ f1) fun sl g1=>?_;refine eo (az.hi.fi _ _ f2) fun pY g2=>?_;refine aq az.inv fun γ G0 _=>?_;have ru:=O.room.units;have rm:u6 n c.A.in1.in1:=⟨by have:=O.room.depth;show c.A.depth+_<_;lia,by show c.A.units+1+1+_<_;lia⟩;refine W.kso_call (show c.A.units+2<cLine from aA (bI (by decide) _) O.units) (F.S7 az.hi) (od:=some ⟨.type "dict",none,.dict es n',pY⟩) ⟨g1,rfl,rfl,g2⟩ F.str F.strFn (spec f hf c.A.in1.in1 (c.env::c.outer) av a9 [.ref a] [.inst fs] _ rm hA O.fr O.FR (G0.vi O) az.hi (Fz.le_trans O.rJ G0.le) G0.gens ⟨_,_,rfl,ra,rfl⟩ hr _ _ (fun d hd v s' ae Gr R=>?_) nofun);cases hd;refine eo (id R) fun t ay=>?_;subst ay;exact fg.fin h3 Gr.le (az.grow O KO Gr) R
 ·exact oQ O KO az h2 fg (tK (f:=.str) az.hi ra)
theorem JU(hf:f≠.str):Ot G f=fun x σ=>.of (Mb f x) σ:=by
 funext x σ
 cases f with
 |str=>exact absurd rfl hf
 |_=>rfl
theorem HJ (O:c.Ok) (KO:dc c k) (hx:globK c k "len") (hg:c.C.mg "len"=none) (hb:c.C.mb "len"=some (.builtin "len")) (hs:noStar e=true) (h:aj prog w c k e ev):
 aj prog w c k (.Call (.Name "len" p) [e] [] pos) (fun σ=>(ev σ).bind (Ot G .len)):=by
 rw[JU (by intro h;cases h)];exact vj O KO h (xX O KO hx hg hb (by decide +kernel) hs) fun fz s σ x a q I r hq=>tK (f:=.len) I.hi r hq
theorem HK (O:c.Ok) (KO:dc c k) (hx:globK c k "int") (hg:c.C.mg "int"=none) (hb:c.C.mb "int"=some (.type "int")) (hs:noStar e=true) (h:aj prog w c k e ev):
 aj prog w c k (.Call (.Name "int" p) [e] [] pos) (fun σ=>(ev σ).bind (Ot G .int)):=by
 rw[JU (by intro h;cases h)];exact vj O KO h (jl O KO hx hg hb (by decide +kernel) hs) fun fz s σ x a q I r hq=>tK (f:=.int) I.hi r hq
theorem Cw{C:Bc}(H:HI C fz s.heap)(r:Rep C.EC fz d v)(h:mr false d=some q):cg prog w C A (formatField v Str.empty) fz s q:=by
 cases d with
 |int i=>
  obtain⟨t,rfl⟩:=r;refine ka (kQ h) fun hi h2=>?_;exact qh h2 (b5 H fun Q E hh=>wpAny_formatField_int (log2_small hi.1 hi.2) (hh _ _ (by rw[oE hi.1];exact⟨_,rfl⟩)))
 |str x=>
  obtain⟨t,rfl⟩:=r;refine ka (kQ h) fun hi h2=>?_;exact qh h2 (b5 H fun Q E hh=>wpAny_formatField_str (hh _ s.toks mW) (hh _ _ mW) (by simpa [Str.length] using hi))
 |_=>exact nS h
theorem Ml{x y:List Nat}(h:AY x=some y):reprText ⟨x.toArray⟩=⟨y.toArray⟩∧y.length≤sizeLine:=by
 by_cases e:x=[1]
 ·cases e;cases h;exact⟨by decide +kernel,by decide +kernel⟩
 ·have h:=(if_neg e).symm.trans h
  by_cases e:x=[39]
  ·cases e;cases h;exact⟨by decide +kernel,by decide +kernel⟩
  ·exact nomatch (if_neg e).symm.trans h
theorem Cy{C:Bc}(H:HI C fz s.heap)(r:Rep C.EC fz d v)(h:mr true d=some q):cg prog w C A (holding [v] (pyReprObj v)>>=fun v'=>formatField v' Str.empty) fz s q:=by
 cases d with
 |str x=>
  refine eo r fun t ay=>?_;subst ay;refine aq (aR.mp h) fun y hy bq=>?_;subst bq;refine ka (Ml hy) fun k1 k2=>?_;refine Gives.R (b5 H fun Q E hh=>aB (aQ (pyReprObj_str ?_ ?_)))
  ·rw[k1]
   exact wpAny_formatField_str (hh _ _ mW) (hh _ _ mW) (by simpa [Str.length] using k2)
  ·rw[k1];simpa [Str.length] using k2
 |_=>exact nS h
theorem tL(O:c.Ok)(KO:dc c k)(h:aj prog w c k e ev):aj prog w c k (.FormattedValue e (-1) none pos) (fun σ=>(ev σ).bind fun x σ=>.of (mr false x) σ):=
 tJ O KO h (fun _ _ _ hh=>wpAny_FormattedValue_plain hh) fun fz s d v q H r hq=>Cw H r hq
theorem DB(O:c.Ok)(KO:dc c k)(h:aj prog w c k e ev):aj prog w c k (.FormattedValue e 114 none pos) (fun σ=>(ev σ).bind fun x σ=>.of (mr true x) σ):=
 tJ (op:=fun v=>holding [v] (pyReprObj v)>>=fun v'=>formatField v' Str.empty) O KO h (fun s Q E hh=>by
  rw[arm_eval_FormattedValue];exact aB (dS hh (fun v a9 h₁=>aB (cA h₁)) fun _ _ x=>x)) fun fz s d v q H r hq=>Cy H r hq
theorem yw{a b:Str}(h:a.cps=b.cps):a=b:=by cases a;cases b;cases h;rfl
theorem oF:∀{ds:List D} {ys:List (List Nat)},strsOf ds=some ys→ys.length=ds.length
 |[],_,h=>by cases h;rfl
 |d::ds,_,h=>by
  refine aq (g5 h) fun x _ h1=>?_;refine aq (aR.mp h1) fun zs h2 bq=>?_;subst bq;exact congrArg (· + 1) (oF h2)
theorem Mm:a++(⟨([]:List (List Nat)).flatten.toArray⟩:Str)=a:=yw (by rw[Str.cps_append];simp)
theorem JV{x:List Nat}{zs:List (List Nat)}:a++(⟨(x::zs).flatten.toArray⟩:Str)=a++(⟨x.toArray⟩:Str)++(⟨zs.flatten.toArray⟩:Str):=yw (by simp only[Str.cps_append];simp)
theorem Mn{a:Str}{x:List Nat}:(a++(⟨x.toArray⟩:Str)).length=a.length+x.length:=by rw[strLen_append];rfl
variable(prog w) in
noncomputable def SJ(c:Ac)(k:Option Cc)(es:List Expr)(evs:List Ev):Prop:=∀fz s σ ds σ' ys (acc:Str),bt c k fz s σ→fe evs σ=some (.ok ds,σ')→strsOf ds=some ys→acc.length+(ys.map (·.length)).sum≤sizeLine→∀(Q:Str→Shared→Prop) (E:Value→Shared→Prop),
 (∀s' ae,fz.le ae→bt c k ae s' σ'→Q (acc++⟨ys.flatten.toArray⟩) s')→Joins (model prog w) c.A E (evalEach es (ee c k)) acc Q s
theorem HL:SJ prog w c k [] []:=fun fz s σ ds σ' ys acc I h hy hl Q E hQ=>by
 cases h;cases hy;have:=hQ s fz (Fz.le_refl _) I;rw[Mm] at this;exact this
theorem yG{ev:Ev}{evs:List Ev}{xs:List D}{P:Prop}(h:fe (ev::evs) σ=some (.ok xs,σ'))(f:∀x ai ys,ev.1 σ=some (.ok x,ai)→fe evs ai=some (.ok ys,σ')→xs=x::ys→P):P:=by
 rcases Mo.bind_some h with ⟨x,ai,q1,q2⟩|⟨_,_,q2⟩
 ·rcases Mo.bind_some q2 with ⟨y,de,q3,q4⟩|⟨_,_,q4⟩
  ·cases q4;exact f _ _ _ q1 q3 rfl
  ·cases q4
 ·cases q2
theorem DC{es:List Expr}{ev:Ev}{evs:List Ev}(he:aj prog w c k e ev.1)(ih:SJ prog w c k es evs):SJ prog w c k (e::es) (ev::evs):=fun fz s σ ds σ' ys acc I h hy hl Q E hQ=>
 yG h fun x ai xs h1 h3 e=>by
  cases e;refine aq (g5 hy) fun x ay hy1=>?_;subst ay;refine aq (aR.mp hy1) fun zs hz bq=>?_;subst bq;rw[aN,List.sum_cons,←Nat.add_assoc,←Mn] at hl;refine he fz s σ _ _ I h1 _ _ (.A6 fun va a9 av b8 az ra=>?_);refine eo ra fun t ay=>?_;subst ay;exact⟨_,_,rfl,aG (aP _ _) hl,ih av a9 ai xs _ zs _ az h3 hz hl Q E fun s' ae le I'=>by have:=hQ s' ae (Fz.le_trans b8 le) I';rw[JV] at this;exact this⟩
theorem uP:∀(es:List Expr) (evs:List Ev),eg prog w c k es evs→SJ prog w c k es evs
 |[],[],_=>HL
 |_::es,_::evs,hs=>DC hs.1.1 (uP es evs hs.2)
theorem JW{evs:List Ev}:∀{σ σ':St} {xs:List D},fe evs σ=some (.ok xs,σ')→xs.length=evs.length:=by
 induction evs with
 |nil=>intro σ σ' xs h;cases h;rfl
 |cons ev evs ih=>exact fun h=>yG h fun x ai ys _ h3 e=>e▸congrArg (· + 1) (ih h3)
theorem r5(O:c.Ok)(KO:dc c k)(hs:eg prog w c k es evs):aj prog w c k (.JoinedStr es pos) (fun σ=>(au (fe evs σ)).bind fun xs σ=>.of (lW xs) σ):=fun fz s σ r σ' I h Q E P=>by
 refine iw (bh h) fun xs ai h1 h2=>?_;refine ka (Mo.ig h2) fun h3 ay=>?_;subst ay;refine aq (fw h3) fun ys hy h4=>?_;refine ka (kQ h4) fun hlen h5=>?_;have MT:2≤es.length:=hs.len▸JW h1▸oF hy▸hlen.1
 match es,MT with
 |a::b::l,_=>
  refine wpAny_JoinedStr (uP _ evs hs fz s σ xs _ ys Str.empty I h1 hy (by simpa [Str.empty,Str.length] using hlen.2) _ E fun s' ae le I'=>?_);have e:Str.empty++(⟨ys.flatten.toArray⟩:Str)=⟨ys.flatten.toArray⟩:=yw (by rw[Str.cps_append];simp[Str.empty]);rw[e];cases h5;refine⟨?_,P.ok _ rfl _ _ ae le (I'.grow O KO (bp.tok I'.hi _)) ⟨_,rfl⟩⟩;show(ys.flatten.toArray).size≤_;rw[bY,List.length_flatten];exact hlen.2
end Mine.Internal
namespace Mine.Internal
open PySem PyProof.Rows PySem.StrLaws PySem.Builtin.Str
theorem pB{x:List Nat}(hh:hi≤x.length):At ⟨x.toArray⟩ ⟨#[c]⟩ hi i↔i<hi∧x[i]?=some c:=by
 have h:=subAt_one ⟨x.toArray⟩ c i
 constructor
 ·rintro⟨h1,h2⟩
  have Yj:i+1≤hi:=h1;exact⟨Yj,h.mp ⟨aG Yj hh,h2⟩⟩
 ·rintro⟨h1,h2⟩
  exact⟨h1,(h.mpr h2).2⟩
theorem vk{x:List Nat}:(x.idxOf? c=none∧∀i:Nat,x[i]?≠some c)∨∃k:Nat,x.idxOf? c=some k∧x[k]?=some c∧∀i:Nat,i<k→x[i]?≠some c:=by
 unfold List.idxOf?;cases h:x.findIdx? (·==c) with
 |none=>
  refine .inl ⟨rfl,fun i hi=>?_⟩;have:=gV.mp h c (iR hi);simp at this
 |some k=>
  obtain⟨h1,h2,h3⟩:=fX.mp h;refine .inr ⟨k,rfl,?_,fun i hi hc=>?_⟩
  ·rw[aY h1];simpa using h2
  ·have:=h3 i hi
   obtain⟨h4,h5⟩:=bL.mp hc;rw[h5] at this;simp at this
theorem QZ{x:List Nat}{c lo:Nat}(hl:lo≤x.length):
 match (x.drop lo).idxOf? c with
 |none=>occurrences ⟨x.toArray⟩ ⟨#[c]⟩ lo x.length 1=[]
 |some k=>∃r,occurrences ⟨x.toArray⟩ ⟨#[c]⟩ lo x.length 1=(lo+k)::r:=by
 have e:=occ_head_from ⟨x.toArray⟩ ⟨#[c]⟩ lo 1 (bB _);dsimp only[Str.length,bY] at e;rcases vk (x:=x.drop lo) (c:=c) with ⟨h1,h2⟩|⟨k,h1,h2,h3⟩
 ·rw[h1]
  rcases e with ⟨e1,_⟩|⟨i,r,e1,e2,e3,_⟩
  ·exact e1
  ·have:=(pB (bB _)).mp e3
   refine absurd ?_ (h2 (i-lo));rw[jL,show lo+(i-lo)=i by lia];exact this.2
 ·rw[h1]
  rw[jL] at h2;have lk:lo+k<x.length:=(bL.mp h2).1;rcases e with ⟨_,e2⟩|⟨i,r,e1,e2,e3,e4⟩
  ·exact absurd ((pB (bB _)).mpr ⟨lk,h2⟩) (e2 _ (aP _ _))
  ·have a3:=(pB (bB _)).mp e3
   have:i=lo+k:=by
    rcases jU i (lo+k) with q|q|q
    ·refine absurd ?_ (h3 (i-lo) (by lia))
     rw[jL,show lo+(i-lo)=i by lia];exact a3.2
    ·exact q
    ·exact absurd ((pB (bB _)).mpr ⟨lk,h2⟩) (e4 _ (aP _ _) q)
   exact⟨r,by rw[←this];exact e1⟩
theorem Sz{x:List Nat}(hh:hi≤x.length):lastOccurrence ⟨x.toArray⟩ ⟨#[c]⟩ 0 hi=((x.take hi).reverse.idxOf? c).map fun k=>hi-1-k:=by
 rw[last_eq];have key:=last_run ⟨x.toArray⟩ ⟨#[c]⟩ hi (cY 0 (hi+1-0)) [] none (fun _ h=>nomatch h) (fun _ h=>nomatch h) (by simpa using List.pairwise_lt_range' (s:=0) (n:=hi+1-0));have mem:∀i,i<hi→i∈[]++cY 0 (hi+1-0):=fun i h=>by simp[List.mem_range']<;>exact aT h (aP _ _)
 have hlen:(x.take hi).length=hi:=by simp;lia
 have rev:∀i,i<hi→(x.take hi).reverse[i]?=x[hi-1-i]?:=fun i h=>by
  rw[List.getElem?_reverse (by rw[hlen];exact h),hlen,hK (by lia)]
 rcases vk (x:=(x.take hi).reverse) (c:=c) with ⟨h1,h2⟩|⟨k,h1,h2,h3⟩
 ·rw[h1]
  cases hr:(forIn (cY 0 (hi+1-0)) none (lastBody ⟨x.toArray⟩ ⟨#[c]⟩ hi)).run with
  |none=>rfl
  |some a=>
   rw[hr] at key;have a1:=(pB hh).mp key.1;refine absurd ?_ (h2 (hi-1-a));rw[rev _ (by lia),show hi-1-(hi-1-a)=a by lia];exact a1.2
 ·rw[h1]
  have lk:k<hi:=by
   have:=(bL.mp h2).1
   simpa [hlen] using this
  rw[rev k lk] at h2;have ak:At ⟨x.toArray⟩ ⟨#[c]⟩ hi (hi-1-k):=(pB hh).mpr ⟨by lia,h2⟩;cases hr:(forIn (cY 0 (hi+1-0)) none (lastBody ⟨x.toArray⟩ ⟨#[c]⟩ hi)).run with
  |none=>rw[hr] at key;exact absurd ak (key _ (mem _ (by lia)))
  |some a=>
   rw[hr] at key;have a1:=(pB hh).mp key.1;simp only[iV]
   congr 1
   rcases jU a (hi-1-k) with q|q|q
   ·exact absurd ak (key.2 _ (mem _ (by lia)) q)
   ·exact q
   ·refine absurd ?_ (h3 (hi-1-a) (by lia))
    rw[rev _ (by lia),show hi-1-(hi-1-a)=a by lia];exact a1.2
theorem vm(x:List Nat)(c hi limit:Nat):∀(n a:Nat) (st:Array Nat×Nat),st.2≤a→st.1.size+n≤limit→
 (forIn (cY a n) st (occBody ⟨x.toArray⟩ ⟨#[c]⟩ hi limit)).run.fst.size=st.1.size+((cY a n).filter fun i=>decide (i+1≤hi∧subAt ⟨x.toArray⟩ ⟨#[c]⟩ i=true)).length
 |0,a,st,_,_=>rfl
 |n+1,a,st,h1,h2=>by
  rw[List.range'_succ,eT];unfold occBody
  by_cases hc:a+1≤hi∧subAt ⟨x.toArray⟩ ⟨#[c]⟩ a=true
  ·have c1:((st.1.size<limit∧st.2≤a)∧a+(⟨#[c]⟩:Str).length≤hi)∧subAt ⟨x.toArray⟩ ⟨#[c]⟩ a=true:=⟨⟨⟨(aT (cV (aP _ _)) h2),h1⟩,hc.1⟩,hc.2⟩
   rw[if_pos c1,aX (by simpa using hc)];have:=vm x c hi limit n (a+1) (st.1.push a,a+(⟨#[c]⟩:Str).length) (bB _) (by simp;lia);refine this.trans ?_;simp;exact cC _ _ _
  ·have c1:¬(((st.1.size<limit∧st.2≤a)∧a+(⟨#[c]⟩:Str).length≤hi)∧subAt ⟨x.toArray⟩ ⟨#[c]⟩ a=true):=fun h=>hc ⟨h.1.2,h.2⟩
   rw[if_neg c1,bD (by simpa using hc)];exact vm x c hi limit n (a+1) (st.1,st.2) (by show st.2≤_;exact aG h1 (aP _ _)) (by show st.1.size+n≤limit;exact aZ h2)
theorem count_range(c:Nat):∀(l:List Nat) (a:Nat),((cY a l.length).filter fun i=>decide (l[i-a]?=some c)).length=l.count c
 |[],a=>rfl
 |y::l,a=>by
  have e:List.filter (fun i=>decide ((y::l)[i-a]?=some c)) (cY (a+1) l.length)=List.filter (fun i=>decide (l[i-(a+1)]?=some c)) (cY (a+1) l.length):=by
   refine jV fun i hi=>?_;have:=hX.mp hi;rw[show i-a=(i-(a+1))+1 by lia,List.getElem?_cons_succ]
  rw[bA,List.range'_succ,List.count_cons]
  by_cases hy:y=c
  ·subst hy
   rw[aX (by simp),bA,e,count_range];simp
  ·rw[bD (by simpa using hy),e,count_range]
   simp[hy]
theorem JX{x:List Nat}(hh:hi≤x.length):(occurrences ⟨x.toArray⟩ ⟨#[c]⟩ 0 hi (x.length+1)).length=(x.take hi).count c:=by
 rw[occ_eq,aS,vm x c hi (x.length+1) (hi+1-0) 0 (#[],0) (bB _) (by simp;exact hh)];have e:=count_range c (x.take hi) 0;have hlen:(x.take hi).length=hi:=by simp;lia
 rw[hlen] at e;rw[←e];simp only[Nat.sub_zero,Array.size_empty,gG];rw[show cY 0 (hi+1)=cY 0 hi++[hi] by rw[List.range'_concat];simp];rw[cD,aV];have e2:List.filter (fun i=>decide (i+1≤hi∧subAt ⟨x.toArray⟩ ⟨#[c]⟩ i=true)) [hi]=[]:=by simp;lia
 rw[e2,List.length_nil,Nat.add_zero]
 congr 1
 refine jV fun i Oa=>?_;have hm:=hX.mp Oa;have a1:=pB (x:=x) (c:=c) (hi:=hi) (i:=i) hh;have et:(x.take hi)[i]?=x[i]?:=hK (aT hm.2 (bO (jC (cS _))));have:(i+1≤hi∧subAt ⟨x.toArray⟩ ⟨#[c]⟩ i=true)↔(x.take hi)[i]?=some c:=by
  rw[et]
  constructor
  ·intro h;exact(a1.mp h).2
  ·intro h;exact a1.mpr ⟨(aT hm.2 (bO (jC (cS _)))),h⟩
 exact decide_eq_decide.mpr this
theorem Mp{x y:List Nat}:(decide (0+y.length≤x.length)&&subAt ⟨x.toArray⟩ ⟨y.toArray⟩ 0)=y.isPrefixOf x:=by
 have e:subAt ⟨x.toArray⟩ ⟨y.toArray⟩ 0=(x.take y.length==y):=by
  rw[subAt_eq];rfl
 rw[e,gW,eL,List.prefix_iff_eq_take];simp only[gG,cG,decide_eq_true_eq,beq_iff_eq]
 constructor
 ·intro h;exact h.2.symm
 ·intro h
  refine⟨?_,h.symm⟩;have:=congrArg cJ h;simp at this
  lia
end Mine.Internal
namespace Mine.Internal
open PySem PyProof.Rows PySem.Builtin PySem.Builtin.Str
variable{prog:Program}{w:World}{c:Ac}{k:Option Cc}{fz ae:Fz}{s s':Shared}{σ σ':St}
section
variable{C:Bc}{A:Around}
theorem tM(x y:Str)(i:Int)(t u v:Tok)(h:occurrences x y (eQ x.length i) x.length 1=n::r):jJ («str.index» ⟨[.str x t,.str y u,.int i v],[]⟩) (.int n):=by
 show jJ (match occurrences x y (eQ x.length i) (min x.length x.length) 1 with|k::_=>retInt k|[]=>_) _;rw[Nat.min_self,h];exact .of_eq rfl
theorem r6(x y:Str)(i:Int)(t u v:Tok)(h:occurrences x y (eQ x.length i) x.length 1=[]):Meets («str.index» ⟨[.str x t,.str y u,.int i v],[]⟩) (raisesNew "ValueError"):=by
 intro prog w A R s hS;show aH _ _ (match occurrences x y (eQ x.length i) (min x.length x.length) 1 with|i::_=>retInt i|[]=>_) _ _ s;rw[Nat.min_self,h]
 first
  |exact aB (fR (by exact_raiseError plainExc_ValueError hS.1 hS.2))
  |exact aB (fR (aB (by exact_raiseError plainExc_ValueError hS.1 hS.2)))
theorem vn(x y:Str)(i j:Int)(t u v v':Tok):jJ («str.count» ⟨[.str x t,.str y u,.int i v,.int j v'],[]⟩) (.int (occurrences x y (eQ x.length i) (min (eQ x.length j) x.length) (x.length+1)).length):=.of_eq rfl
theorem ud(x y:Str)(i j:Int)(t u v v':Tok)(h:lastOccurrence x y (eQ x.length i) (min (eQ x.length j) x.length)=some n):jJ («str.rindex» ⟨[.str x t,.str y u,.int i v,.int j v'],[]⟩) (.int n):=by
 show jJ (match lastOccurrence x y (eQ x.length i) (min (eQ x.length j) x.length) with|some i=>retInt i|none=>_) _;rw[h];exact .of_eq rfl
theorem gq{len:Nat}{i:Int}(h:0≤i):eQ len i=i.toNat:=by
 unfold eQ;rw[if_neg (by lia)]
 lia
theorem Mq{x:List Nat}{i:Int}(hA:A.handled=none)(H:HI C fz s.heap)(h0:0≤i)(hi:i.toNat≤x.length):
 cg prog w C A (call (.builtin "str.index") [.str ⟨x.toArray⟩ t,.str ⟨#[ch]⟩ u,.int i v]) fz s (match (x.drop i.toNat).idxOf? ch with
  |some k=>.ok (.int (i+(k:Int)))
  |none=>.exc .value):=fun Q E hQ hE=>by
 have key:=QZ (x:=x) (c:=ch) hi;have el:(⟨x.toArray⟩:Str).length=x.length:=rfl;cases hk:(x.drop i.toNat).idxOf? ch with
 |none=>
  rw[hk] at key;rw[hk] at hE;refine call_meets F.slot_str_index (cX _ _ _) F.entry_str_index (F.args_str_index_3 _ _ _) (r6 ⟨x.toArray⟩ ⟨#[ch]⟩ i t u v (by rw[gq h0,el];exact key)) ⟨hA,fun h' tk e N=>?_⟩;exact hE _ rfl e _ fz (bp.keeps H N.keeps) (.inl (Exc.JB (n:="ValueError") H rfl N))
 |some k=>
  rw[hk] at key;rw[hk] at hQ;obtain⟨r,hr⟩:=key;refine call_gives F.slot_str_index (cX _ _ _) F.entry_str_index (F.args_str_index_3 _ _ _) (tM ⟨x.toArray⟩ ⟨#[ch]⟩ i t u v (by rw[gq h0,el];exact hr)) ?_;refine hQ _ rfl _ _ fz (bp.tok H _) ?_;exact⟨_,by congr 1;lia⟩
theorem Mr{x:List Nat}(H:HI C fz s.heap):Mine.Internal.Gives prog w C A (call (.builtin "str.count") [.str ⟨x.toArray⟩ t,.str ⟨#[ch]⟩ u]) fz s (.int (x.count ch)):=
 b5 H fun Q E hh=>SC.count (by
  have e:Txt.count ⟨x.toArray⟩ ⟨#[ch]⟩=(x.count ch:Nat):=by
   unfold Txt.count;have:=JX (x:=x) (c:=ch) (bB _);rw[List.take_length] at this;simp only[Str.length,bY];rw[this]
  rw[e];exact hh _ _ gy)
theorem HM{x:List Nat}{j:Int}(H:HI C fz s.heap)(h0:0≤j)(hj:j.toNat≤x.length):Mine.Internal.Gives prog w C A (call (.builtin "str.count") [.str ⟨x.toArray⟩ t,.str ⟨#[ch]⟩ u,.int 0 v,.int j v']) fz s (.int ((x.take j.toNat).count ch)):=
 b5 H fun Q E hh=>call_gives F.slot_str_count (cX _ _ _) F.entry_str_count (F.args_str_count_4 _ _ _ _) (vn ⟨x.toArray⟩ ⟨#[ch]⟩ 0 j t u v v') (by
  have e:(occurrences ⟨x.toArray⟩ ⟨#[ch]⟩ (eQ (⟨x.toArray⟩:Str).length 0) (min (eQ (⟨x.toArray⟩:Str).length j) (⟨x.toArray⟩:Str).length) ((⟨x.toArray⟩:Str).length+1)).length=(x.take j.toNat).count ch:=by
   rw[gq (Int.le_refl 0),gq h0];simp only[Str.length,bY];rw[gU hj];exact JX hj
  rw[e];exact hh _ _ gy)
theorem DD{x:List Nat}{ch:Nat}{j:Int}{k:Nat}{t u v v':Tok}(H:HI C fz s.heap)(h0:0≤j)(hj:j.toNat≤x.length)(hk:(x.take j.toNat).reverse.idxOf? ch=some k):
 Mine.Internal.Gives prog w C A (call (.builtin "str.rindex") [.str ⟨x.toArray⟩ t,.str ⟨#[ch]⟩ u,.int 0 v,.int j v']) fz s (.int (j-1-(k:Int))):=
 b5 H fun Q E hh=>call_gives F.slot_str_rindex (cX _ _ _) F.entry_str_rindex (F.args_str_rindex_4 _ _ _ _) (ud ⟨x.toArray⟩ ⟨#[ch]⟩ 0 j t u v v' (n:=j.toNat-1-k) (by
  rw[gq (Int.le_refl 0),gq h0];simp only[Str.length,bY];rw[gU hj];rw[show(0:Int).toNat=0 from rfl,Sz hj,hk];rfl)) (by
  have lk:k<j.toNat:=by
   unfold List.idxOf? at hk;obtain⟨h1,_⟩:=fX.mp hk;simp at h1;exact aT h1 (iS _ _)
  refine hh _ _ ?_;exact⟨_,by congr 1;lia⟩)
theorem yx{x y:List Nat}(H:HI C fz s.heap):Mine.Internal.Gives prog w C A (call (.builtin "str.startswith") [.str ⟨x.toArray⟩ t,.str ⟨y.toArray⟩ u]) fz s (.bool (y.isPrefixOf x)):=
 b5 H fun Q E hh=>call_gives F.slot_str_startswith (cX _ _ _) F.entry_str_startswith (F.args_str_startswith_2 _ _) (gives_str_startswith _ _ t u) (by
  have e:=Mp (x:=x) (y:=y);have e':(decide (0+(⟨y.toArray⟩:Str).length≤(⟨x.toArray⟩:Str).length)&&subAt ⟨x.toArray⟩ ⟨y.toArray⟩ 0)=y.isPrefixOf x:=by simpa only[Str.length,bY] using e
  rw[e'];exact hh _ s.toks g7)
theorem uQ:∀(l:List (Str×Tok)),a8 C.EC fz (l.map fun z=>D.str z.1.cps.toList) (strValues l)
 |[]=>rfl
 |z::l=>by
  exact⟨_,_,rfl,mW,uQ l⟩
theorem g_split{x y:List Nat}(H:HI C fz s.heap)(hy:y≠[])(gw:x.length+2≤sizeLine):Mine.Internal.Gives prog w C A (call (.builtin "str.split") [.str ⟨x.toArray⟩ t,.str ⟨y.toArray⟩ u]) fz s (.list ((Txt.split (S x) (S y)).map fun z=>.str z.cps.toList)):=fun Q E hQ=>by
 have hx:(S x).length=x.length:=rfl;have Ru:((S y).length==0)=false:=by
  cases y with
  |nil=>exact absurd rfl hy
  |cons a l=>rfl
 have fin:∀(l:List (Str×Tok)) k,l.map (·.1)=Txt.split (S x) (S y)→Q (.ref s.heap.objs.size) {s with heap:=s.heap.push {cls:=.type "list",data:=.seq (strValues l).toArray},toks:=k}:=fun l k e=>by
  refine hQ _ _ _ (bp.push H (.listOf (strValues l).toArray 0) (by simp[FO.listOf]) rfl k) ?_;rw[←e,bX];exact⟨_,_,0,rfl,Fz.dv _ _ _,uQ l⟩
 have hn:(partsBetween (S x) (occurrences (S x) (S y) 0 (S x).length ((S x).length+1)) (S y).length).length≤sizeLine:=by
  have e1:=StrLaws.occ_length_le (S x) (S y) 0 (S x).length ((S x).length+1);rw[length_partsBetween];exact Nat.succ_le_of_lt (aA e1 gw)
 cases h1:(decide ((S x).length<(S y).length)||decide (Builtin.Str.strKind (S x)<Builtin.Str.strKind (S y)))
 ·cases hf:(occurrences (S x) (S y) 0 (S x).length ((S x).length+1)).isEmpty
  ·refine call_meets F.slot_str_split (cX _ _ _) F.entry_str_split (F.args_str_split_2 _ _) (meets_str_split_sep (S x) (S y) t u h1 Ru hf (cL gw) hn) ?_
   show wants Q E _ {s with toks:=_,heap:=s.heap.push {cls:=.type "list",data:=.seq (strsFrom s.toks (partsBetween (S x) (occurrences (S x) (S y) 0 (S x).length ((S x).length+1)) (S y).length)).toArray}};rw[strsFrom_eq];exact fin (numbered s.toks _) _ ((numbered_texts _ _).trans ((if_neg (ne_true_of_eq_false h1)).trans (if_neg (ne_true_of_eq_false hf))).symm)
  ·exact call_meets F.slot_str_split (cX _ _ _) F.entry_str_split (F.args_str_split_2 _ _) (meets_str_split_not_found (S x) (S y) t u h1 Ru hf) (fin [(S x,t)] s.toks ((if_neg (ne_true_of_eq_false h1)).trans (if_pos hf)).symm)
 ·exact call_meets F.slot_str_split (cX _ _ _) F.entry_str_split (F.args_str_split_2 _ _) (meets_str_split_cannot_occur (S x) (S y) t u h1) (fin [(S x,t)] s.toks (if_pos h1).symm)
theorem vo:∀{ds:List D} {vs:List Value} {ys:List (List Nat)},a8 C.EC fz ds vs→strsOf ds=some ys→StrsAre vs (ys.map S)
 |[],_,_,r,h=>by cases r;cases h;exact .nil
 |d::ds,_,_,r,h=>by
  refine sz r fun v q bq r1 r2=>?_;subst bq;refine aq (g5 h) fun x ay h0=>?_;subst ay;refine aq (aR.mp h0) fun zs h1 bq=>?_;subst bq;refine eo (bu r1) fun t ay=>?_;subst ay;exact .cons _ _ (vo r2 h1)
theorem yy(ch:Nat):∀ys:List (List Nat),Txt.join ⟨#[ch]⟩ (ys.map S)=S (dV [ch] ys):=by
 intro ys;unfold Txt.join;rw[StrLaws.glued_eq_join]
 induction ys with
 |nil=>rfl
 |cons y r ih=>
  cases r with
  |nil=>simp[Str.join,S,dV]
  |cons z r=>
   simp only[aN] at ih ⊢;rw[Str.join,ih]
   ·apply yw
    simp only[Str.cps_append,S,dV];simp[List.intersperse]
   ·intro h;cases h
theorem Q0{ys:List (List Nat)}(H:HI C fz s.heap)(r:Rep C.EC fz (.list ds) v)(hy:strsOf ds=some ys)(hw:(ys.map (·.length)).sum+ys.length≤1048576):
 Mine.Internal.Gives prog w C A (call (.builtin "str.join") [.str ⟨#[ch]⟩ t,v]) fz s (.str (dV [ch] ys)):=by
 obtain⟨a,vs,n,rfl,f,q⟩:=r;refine b5 H fun Q E hh=>join_listW (ys:=ys.map S) (en H f) (vo q hy) (show(1:Nat)≤16 by decide) ?_ fun t' k=>?_
 ·have e1:((ys.map S).map (·.length))=ys.map (·.length):=by
   rw[bX];exact jA fun a _=>rfl
  rw[e1,aM];exact hw
 ·rw[yy]
  refine hh _ _ ?_;exact⟨_,rfl⟩
theorem f9:plainId "frozenset.isdisjoint.loop"=true:=by decide +kernel
theorem xY{R:Result→Shared→Prop}{a I:Addr}{l x:List Nat}{St:Nat→Heap→Prop}(haI:a≠I)(W:Walks prog w A.in1 I [I] [I] x.length (SignAt ⟨x.toArray⟩) St):
 ∀(k i:Nat) (s:Shared),x.length-i=k→i≤x.length→St i s.heap→nv s.heap a l→
 (∀h' tk,(∀b o,b∉[I]→s.heap.get? b=some o→h'.get? b=some o)→R (.ok (.ret (.bool ((x.drop i).all fun c=>!l.contains c)))) {s with heap:=h',toks:=tk})→
 gS (model prog w) A (.builtin "frozenset.isdisjoint.loop" ⟨[.ref a,.ref I],[]⟩) R s:=by
 intro k
 induction k with
 |zero=>
  intro i s hk hi MB hF hR;have ye:i=x.length:=(dC hi (iK hk));subst ye;refine dT i4 ?_;rw[Around.under_plainId f9 _];refine aB (W.done s _ _ MB fun h' tk AB=>?_);refine aF ?_;have:=hR h' tk AB;rw[List.drop_length] at this;exact this
 |succ k ih=>
  intro i s hk hi MB hF hR;have qK:i<x.length:=by lia
  have hd:x.drop i=x[i]::x.drop (i+1):=cZ qK;refine dT i4 ?_;rw[Around.under_plainId f9 _];refine aB (W.item i s _ _ qK MB fun v h' tk hP XC AB=>?_);refine iw hP fun ch u hc xq=>?_;subst xq;have Px:x[i]=ch:=by
   have:x[i]?=some ch:=by simpa using hc
   rw[aY qK] at this;exact aL this
  have Yk:nv h' a l:=by
   obtain⟨es,n,t,sl,e,r⟩:=hF;exact⟨es,n,t,sl,AB a _ (by simpa using haI) e,r⟩
  refine aB (aQ (m5 (s:={s with heap:=h',toks:=tk}) Yk fun t=>?_));cases hb:l.contains ch with
  |false=>
   refine aF ⟨fM f9 _,ih (i+1) _ (by lia) qK XC Yk fun h'' XD XE=>?_⟩;have:=hR h'' XD fun b o Yl e=>XE b o Yl (AB b o Yl e);rw[hd,List.all_cons,Px,hb,Bool.not_false,jQ] at this;exact this
  |true=>
   refine aF ?_;have:=hR h' t AB;rw[hd,List.all_cons,Px,hb,Bool.not_true,jF] at this;exact this
theorem vp{T:String}{name:Str}{id:String}{b:Builtin}{self:Value}{rest:List Value}{Q E:Value→Shared→Prop}(h:dX T name id)(hT:s.TypeIs self T)(hb:entryFor table id=some b)
 (hc:aH (model prog w) A.in1 (b ⟨self::rest,[]⟩) (fun fin s'=>match fin with|.done (.ret v)=>Q v s'|.done _=>False|.again c'=>c'.quiet=true∧gS (model prog w) A c' (fun r s'=>match r with|.ok (.ret v)=>Q v s'|.ok _=>False|.error e=>E e s') s') E s)
 (ha:argsOk id ⟨self::rest,[]⟩):aH (model prog w) A (call (.builtin id) (self::rest)) Q E s:=by
 refine hU (fU h.plain hb (h.check _ _ _ _ _ _ _ _ hT ha (dS hc (fun fin s' h'=>?_) fun _ _ h'=>h')));rcases fin with (f|c')
 ·cases f<;>first|exact h'|exact(h':False).elim
 ·exact h'
theorem DE{l x:List Nat}{t:Tok}(hA:A.handled=none)(H:HI C fz s.heap)(r:Rep C.EC fz (.kh l) v):Mine.Internal.Gives prog w C A (call (.builtin "frozenset.isdisjoint") [v,.str ⟨x.toArray⟩ t]) fz s (.bool (x.all fun c=>!l.contains c)):=fun Q E hQ=>by
 refine aq (pv H r) fun a ay F=>?_;subst ay;refine vp lH F.typeIs oY ?_ (pA _ _);show aH _ _ (do
  let y ←pyIter (.str ⟨x.toArray⟩ t)
  again (.builtin "frozenset.isdisjoint.loop" ⟨[.ref a,y],[]⟩)) _ _ s
 refine aB (wpAny_pyIter_str fun o St W st=>?_);have ha:a≠s.heap.objs.size:=by
  obtain⟨_,_,_,_,e,_⟩:=F;exact bU (Heap.lt_size e)
 have F':nv (s.heap.push o) a l:=by
  obtain⟨es,n,t,sl,e,r⟩:=F;exact⟨es,n,t,sl,Heap.get?_push_of_some _ e,r⟩
 refine aF ⟨fM f9 _,xY (x:=x) ha (by simpa using W A.in1 hA) x.length 0 _ (dC (bB _) (bB _)) (cS _) st F' fun h' tk hk=>?_⟩;have kp:∀b o,s.heap.get? b=some o→h'.get? b=some o:=fun b o' e=>hk b o' (by simpa using bU (Heap.lt_size e)) (Heap.get?_push_of_some _ e);exact hQ _ _ fz (bp.keeps H kp) g7
end
end Mine.Internal
namespace Mine.Internal
open PySem PyProof.Rows
variable{prog:Program}{w:World}{c:Ac}{k:Option Cc}{fz ae:Fz}{s s':Shared}{σ σ':St}
noncomputable def C9.name:C9→Str
 |.index=>"index"
 |.count=>"count"
 |.rindex=>"rindex"
 |.split=>"split"
 |.startswith=>"startswith"
 |.join=>"join"
 |.isdisjoint=>"isdisjoint"
noncomputable def C9.id:C9→String
 |.index=>"str.index"
 |.count=>"str.count"
 |.rindex=>"str.rindex"
 |.split=>"str.split"
 |.startswith=>"str.startswith"
 |.join=>"str.join"
 |.isdisjoint=>"frozenset.isdisjoint"
noncomputable def C9.Es:C9→Bool
 |.index=>true
 |.isdisjoint=>true
 |_=>false
theorem kq{C:Bc}(r:a8 C.EC fz [d] vs):∃v,vs=[v]∧Rep C.EC fz d v:=by
 refine sz r fun v q bq r1 Wz=>?_;subst bq;subst Wz;exact⟨v,rfl,r1⟩
theorem vq{C:Bc}(r:a8 C.EC fz [d,e] vs):∃v u,vs=[v,u]∧Rep C.EC fz d v∧Rep C.EC fz e u:=by
 refine sz r fun v q bq r1 r2=>?_;subst bq;refine aq (kq r2) fun u ay r3=>?_;subst ay;exact⟨v,u,rfl,r1,r3⟩
theorem r7{C:Bc}(r:a8 C.EC fz [d,e,f] vs):∃v u x,vs=[v,u,x]∧Rep C.EC fz d v∧Rep C.EC fz e u∧Rep C.EC fz f x:=by
 refine sz r fun v q bq r1 r2=>?_;subst bq;refine iw (vq r2) fun u x bq r3=>?_;subst bq;exact⟨v,u,x,rfl,r1,r3⟩
noncomputable def JY(C:Bc)(fz:Fz)(m:C9)(v:Value):Prop:=match m with
 |.isdisjoint=>∃l,Rep C.EC fz (.kh l) v
 |_=>∃x t,v=.str x t
section
variable{C:Bc}{A:Around}{q:R D}{x:List Nat}{t0:Tok}{ys:List D}{vs:List Value}
theorem sign_of(r:Rep C.EC fz a v)(h:(onStr a fun y=>Gu y f)=some q):∃c t,v=.str ⟨#[c]⟩ t∧f c=some q:=by
 refine aq (g5 h) fun y ay h1=>?_;subst ay;refine aq (vZ h1) fun c ay h2=>?_;subst ay;refine eo (bu r) fun t e=>?_;exact⟨c,t,e,h2⟩
theorem vr(r:Rep C.EC fz a v)(h:eu a f=some q):∃i t,v=.int i t∧f i=some q:=by
 refine aq (kN h) fun y ay h1=>?_;subst ay;refine eo (d6 r) fun t e=>?_;exact⟨y,t,e,h1⟩
theorem Ms(H:HI C fz s.heap)(rs:a8 C.EC fz ys vs)(h:JK x ys=some q):cg prog w C A (call (.builtin "str.count") (.str ⟨x.toArray⟩ t0::vs)) fz s q:=by
 rcases ys with _|⟨a,_|⟨b,_|⟨e,_|⟨_,_⟩⟩⟩⟩
 ·exact nS h
 ·refine aq (kq rs) fun v1 ay r1=>?_;subst ay
  refine iw (sign_of r1 h) fun c t bq h1=>?_;subst bq;exact qh (kQ h1).2 (Mr H)
 ·exact nS h
 ·obtain⟨v1,v2,v3,rfl,r1,r2,r3⟩:=r7 rs
  refine iw (sign_of r1 h) fun c t bq h1=>?_;subst bq;refine iw (vr r2 h1) fun z t2 bq h2=>?_;subst bq;refine iw (vr r3 h2) fun j t3 bq h3=>?_;subst bq;refine ka (kQ h3) fun hc h4=>?_;cases hc.1;exact qh h4 (HM H hc.2.1 hc.2.2.1)
 ·exact nS h
theorem Mt(hA:A.handled=none)(H:HI C fz s.heap)(rs:a8 C.EC fz ys vs)(h:iq .index (.str x) ys=some q):cg prog w C A (call (.builtin "str.index") (.str ⟨x.toArray⟩ t0::vs)) fz s q:=by
 refine iw (Ss h) fun a b bq h1=>?_;subst bq;refine sz (vq rs) fun v1 v2 bq r1 r2=>?_;subst bq;refine iw (sign_of r1 h1) fun c t bq h2=>?_;subst bq;refine iw (vr r2 h2) fun i t2 bq h3=>?_;subst bq;refine ka (kQ h3) fun hh h4=>?_;exact aL h4▸Mq hA H hh.1 hh.2.1
theorem JZ(H:HI C fz s.heap)(rs:a8 C.EC fz ys vs)(h:iq .rindex (.str x) ys=some q):cg prog w C A (call (.builtin "str.rindex") (.str ⟨x.toArray⟩ t0::vs)) fz s q:=by
 refine yk (Su h) fun a b e xq h1=>?_;subst xq;obtain⟨v1,v2,v3,rfl,r1,r2,r3⟩:=r7 rs;refine iw (sign_of r1 h1) fun c t bq h2=>?_;subst bq;refine iw (vr r2 h2) fun z t2 bq h3=>?_;subst bq;refine iw (vr r3 h3) fun j t3 bq h4=>?_;subst bq;refine ka (kQ h4) fun hc h5=>?_;refine aq (fw h5) fun k hk h6=>?_;cases hc.1;exact qh h6 (DD H hc.2.1 hc.2.2.1 hk)
theorem m_split(H:HI C fz s.heap)(rs:a8 C.EC fz ys vs)(h:iq .split (.str x) ys=some q):cg prog w C A (call (.builtin "str.split") (.str ⟨x.toArray⟩ t0::vs)) fz s q:=by
 refine aq (vZ h) fun a ay h1=>?_;subst ay;refine aq (kq rs) fun v1 ay r1=>?_;subst ay;refine aq (g5 h1) fun y ay h2=>?_;subst ay;refine eo (bu r1) fun t1 ay=>?_;subst ay;refine ka (kQ h2) fun hh h3=>?_;exact qh h3 (g_split H hh.1 hh.2)
theorem m_startswith(H:HI C fz s.heap)(rs:a8 C.EC fz ys vs)(h:iq .startswith (.str x) ys=some q):cg prog w C A (call (.builtin "str.startswith") (.str ⟨x.toArray⟩ t0::vs)) fz s q:=by
 refine aq (vZ h) fun a ay h1=>?_;subst ay;refine aq (kq rs) fun v1 ay r1=>?_;subst ay;refine aq (g5 h1) fun y ay h2=>?_;subst ay;refine eo (bu r1) fun t1 ay=>?_;subst ay;exact qh h2 (yx H)
theorem Q1(H:HI C fz s.heap)(rs:a8 C.EC fz ys vs)(h:iq .join (.str x) ys=some q):cg prog w C A (call (.builtin "str.join") (.str ⟨x.toArray⟩ t0::vs)) fz s q:=by
 refine aq (vZ h) fun c ay h1=>?_;subst ay;refine aq (vZ h1) fun a ay h2=>?_;subst ay;refine aq (kq rs) fun v1 ay r1=>?_;subst ay;refine aq (iy h2) fun y ay h3=>?_;subst ay;refine aq (fw h3) fun l hy h4=>?_;refine ka (kQ h4) fun hh h5=>?_;exact qh h5 (Q0 H r1 hy hh)
theorem DF(hA:A.handled=none)(H:HI C fz s.heap)(rv:Rep C.EC fz (.kh l) v)(rs:a8 C.EC fz ys vs)(h:iq .isdisjoint (.kh l) ys=some q):cg prog w C A (call (.builtin "frozenset.isdisjoint") (v::vs)) fz s q:=by
 refine aq (vZ h) fun a ay h1=>?_;subst ay;refine aq (kq rs) fun v1 ay r1=>?_;subst ay;refine aq (g5 h1) fun y ay h2=>?_;subst ay;refine eo (bu r1) fun t1 ay=>?_;subst ay;exact qh h2 (DE hA H rv)
theorem vt(h:iq m d ys=some q):(m=.isdisjoint∧∃l,d=.kh l)∨(m≠.isdisjoint∧∃x,d=.str x):=by
 cases m with
 |isdisjoint=>exact let ⟨l,e,_⟩:=JF h;.inl ⟨rfl,l,e⟩
 |_=>exact let ⟨l,e,_⟩:=g5 h;.inr ⟨nofun,l,e⟩
theorem Ae{m:C9}(hA:m.Es=true→A.handled=none)(H:HI C fz s.heap)(rv:Rep C.EC fz d v)(rs:a8 C.EC fz ys vs)(h:iq m d ys=some q):
 JY C fz m v∧cg prog w C A (call (.builtin m.id) (v::vs)) fz s q:=by
 rcases vt h with ⟨rfl,l,rfl⟩|⟨hm,x,rfl⟩
 ·exact⟨⟨l,rv⟩,DF (hA rfl) H rv rs h⟩
 ·obtain⟨t,rfl⟩:=bu rv
  cases m with
  |isdisjoint=>exact absurd rfl hm
  |index=>exact⟨⟨_,_,rfl⟩,Mt (hA rfl) H rs h⟩
  |count=>exact⟨⟨_,_,rfl⟩,Ms H rs h⟩
  |rindex=>exact⟨⟨_,_,rfl⟩,JZ H rs h⟩
  |split=>exact⟨⟨_,_,rfl⟩,m_split H rs h⟩
  |startswith=>exact⟨⟨_,_,rfl⟩,m_startswith H rs h⟩
  |join=>exact⟨⟨_,_,rfl⟩,Q1 H rs h⟩
end
noncomputable def isName(e:Expr):Bool:=e.ctorIdx==23
noncomputable def yz(e:Expr):Bool:=Expr.casesOn (motive_1:=fun _=>Bool) e (fun _ _ _=>true) (fun _ _ _=>true) (fun _ _ _ _=>true) (fun _ _ _=>true) (fun _ _ _ _=>true) (fun _ _ _ _=>true) (fun _ _ _=>true) (fun _ _ _=>true) (fun _ _ _ _=>true) (fun _ _ _ _=>true) (fun _ _ _ _ _=>true) (fun _ _ _ _=>true) (fun _ _=>true) (fun _ _=>true) (fun _ _=>true) (fun _ _ _ _=>true) (fun f as _ _=>isName f&&!as.isEmpty) (fun _ _ _ _=>true) (fun _ _=>true) (fun _ _ _=>true) (fun _ _ _=>true) (fun _ _ _=>true) (fun _ _=>true) (fun _ _=>true) (fun _ _=>true) (fun _ _ _=>true) (fun _ _ _ _=>true)
theorem HN(h:isName f=true):attributeBase (.Call f (a::as) ks p) name env whole=whole:=by
 cases f<;>first|rfl|exact absurd h bF
theorem Et(h:yz o=true):attributeBase o name env whole=whole:=by
 cases o with
 |Call f as ks p=>
  have h:=cO.mp h;cases as with
  |nil=>exact absurd h.2 bF
  |cons a as=>exact HN h.1
 |_=>rfl
theorem J0{m:C9}(H:HI C fz s.heap)(h:JY C fz m v)
 (hc:aH (model prog w) A (callWith pos (.builtin m.id) [v] args []) Q E s):MethodOnS prog w A E m.name v pos args Q s:=by
 cases m with
 |isdisjoint=>
  refine eo h fun l r=>?_;refine aq (pv H r) fun a ay F=>?_;subst ay;exact⟨"frozenset",_,ub,lH,oz,F.typeIs,fun b e=>by cases e;obtain⟨_,_,_,_,e,_⟩:=F;exact⟨_,e,rfl⟩,hc⟩
 |index=>refine kK h fun x t bq=>?_;subst bq;exact⟨"str",_,F.plainAttrs_str,F.slot_str_index,F.type_str_index,cX _ _ _,(fun _ e=>nomatch e),hc⟩
 |count=>refine kK h fun x t bq=>?_;subst bq;exact⟨"str",_,F.plainAttrs_str,F.slot_str_count,F.type_str_count,cX _ _ _,(fun _ e=>nomatch e),hc⟩
 |rindex=>refine kK h fun x t bq=>?_;subst bq;exact⟨"str",_,F.plainAttrs_str,F.slot_str_rindex,F.type_str_rindex,cX _ _ _,(fun _ e=>nomatch e),hc⟩
 |split=>refine kK h fun x t bq=>?_;subst bq;exact⟨"str",_,F.plainAttrs_str,F.slot_str_split,F.type_str_split,cX _ _ _,(fun _ e=>nomatch e),hc⟩
 |startswith=>refine kK h fun x t bq=>?_;subst bq;exact⟨"str",_,F.plainAttrs_str,F.slot_str_startswith,F.type_str_startswith,cX _ _ _,(fun _ e=>nomatch e),hc⟩
 |join=>refine kK h fun x t bq=>?_;subst bq;exact⟨"str",_,F.plainAttrs_str,F.slot_str_join,F.type_str_join,cX _ _ _,(fun _ e=>nomatch e),hc⟩
theorem ql:∀{es:List Expr},es.all noStar=true→(backTo pos (starEach es env)).any (·.1)=false∧(backTo pos (starEach es env)).all (fun x=>!x.1)=true
 |[],_=>⟨rfl,rfl⟩
 |[e],h=>by rw[bf (cO.mp h).1];exact⟨rfl,rfl⟩
 |e::e'::es,h=>by
  have h:=cO.mp h;rw[bf h.1];exact ql (pos:=pos) (env:=env) (es:=e'::es) h.2
theorem Q2{C:Bc}(r:Rep C.EC fz d v)(h:iq m d ys=some q):JY C fz m v:=by
 rcases vt h with ⟨rfl,l,rfl⟩|⟨hm,x,rfl⟩
 ·exact⟨l,r⟩
 ·obtain⟨t,rfl⟩:=bu r
  cases m<;>first|exact⟨_,_,rfl⟩|exact absurd rfl hm
theorem DG(O:c.Ok)(KO:dc c k){m:C9}(hA:m.Es=true→c.A.handled=none){apos pos:Pos}{es:List Expr}(ho:aj prog w c k o evo)(hs:eg prog w c k es evs)
 (hn:es.all noStar=true) (iv:es≠[]) (XF:yz o=true) (XG:es.length<20) (sg:(apos.endLine==pos.line)=true):
 aj prog w c k (.Call (.Attribute o m.name apos) es [] pos) (fun σ=>(evo σ).bind fun x σ=>(au (fe evs σ)).bind fun ys σ=>.of (iq m x ys) σ):=fun fz s σ r σ' I h Q E P=>by
 refine wpAny_Call_method_lateS (Et XF) ?_ sg ?_
 ·rw[(ql hn).2]
  show(true&&decide _)=true;rw[jQ];simp;exact aA (aE XG) (by decide)
 refine ho.bind I h P fun x va ai a9 av b8 az ra h2 fg=>?_;obtain⟨ys,de,_,h4⟩:=bh h2;obtain⟨h5,_⟩:=Mo.ig h4;refine J0 az.hi (Q2 ra h5) (Calls.callWith_builtin (ql hn).1 ((kT (ks:=[]) (e2:=[]) (kn:=[]) (f:=.builtin m.id) hs trivial hn iv rfl).only az (by rw[bN];exact h2) fun ds as oW cw gi fy jc rs h6=>?_));obtain⟨vs,rs,hl,rfl⟩:=rs;rw[cK (show vs.length≤es.length from bO hl)];exact oQ O KO jc h6 (fg.le fy) fun h=>(Ae hA jc.hi (Rep.mono fy _ _ ra) rs h).2
end Mine.Internal
namespace Mine.Internal
open PySem PyProof.Rows
variable{prog:Program}{w:World}{c:Ac}{k:Option Cc}{fz ae:Fz}{s s':Shared}{σ σ':St}{γ jg:Nat→Option GS}
noncomputable def only(h:Heap)(p:Addr→Bool):Heap:={h with objs:=h.objs.mapIdx fun i o=>if p i then o else{cls:=.none,data:=.freed}}
theorem get_some{h:Heap}{a:Addr}{o:Obj}(e:h.objs[a]?=some o):h.get? a=if o.isFreed then none else some o:=by
 unfold Heap.get?;rw[e];obtain⟨_,_,d,_⟩:=o;cases d<;>rfl
theorem get_none{h:Heap}{a:Addr}(e:h.objs[a]?=none):h.get? a=none:=by unfold Heap.get?;rw[e]
theorem lJ(h:Heap)(p:Addr→Bool)(a:Addr):(only h p).get? a=if p a then h.get? a else none:=by
 have q:(only h p).objs[a]?=h.objs[a]?.map fun o=>if p a then o else{cls:=.none,data:=.freed}:=Array.getElem?_mapIdx;cases e:h.objs[a]? with
 |none=>rw[e] at q;rw[get_none q,get_none e,ite_self]
 |some o=>
  rw[e] at q;cases hp:p a with
  |false=>rw[hp] at q;exact get_some q
  |true=>rw[hp] at q;exact(get_some q).trans (get_some e).symm
noncomputable def mA(h:Heap)(b:Addr):Bool:=match h.get? b with
 |some ⟨_,_,.fields _,_⟩=>true
 |_=>false
theorem pC{h:Heap}{b:Addr}{o:Obj}{vs:Array Value}(e:h.get? b=some o)(d:o.data=.fields vs):mA h b=true:=by
 unfold mA;rw[e];obtain⟨a1,a2,a3,a4⟩:=o;simp only at d;subst d;rfl
theorem kU{h:Heap}{b:Addr}{o:Obj}(e:h.get? b=some o)(d:∀vs,o.data≠.fields vs):mA h b=false:=by
 unfold mA;rw[e];obtain⟨a1,a2,a3,a4⟩:=o;cases a3<;>first|rfl|exact absurd rfl (d _)
noncomputable def fx(c:Ac)(fz:Fz)(s:Shared)(l:List Addr)(b:Addr):Bool:=(c.h₀.get? b).isSome||l.contains b||(fz b).isSome||mA s.heap b
noncomputable def Ac.re(c:Ac)(fz:Fz)(s:Shared)(l:List Addr):Ac:={c with h₀:=only s.heap (fx c fz s l),bk:=fz}
structure aw(c:Ac)(k:Option Cc)(fz:Fz)(s:Shared)(σ:St)(γ:Nat→Option GS):Prop where
 g:jj c fz s γ
 e:Er σ γ
 k:Y6 c k fz s σ.κ γ
theorem aw.inv(X:aw c k fz s σ γ):bt c k fz s σ:=⟨γ,X.g,X.e,X.k⟩
theorem bt.x(I:bt c k fz s σ):∃γ,aw c k fz s σ γ:=let ⟨γ,a,b,d⟩:=I;⟨γ,a,b,d⟩
theorem aw.grow(O:c.Ok)(KO:dc c k)(X:aw c k fz s σ γ)(G:bp c.C fz s ae s'):aw c k ae s' σ γ:=by
 refine⟨X.g.grow O G,X.e,?_⟩;cases k with
 |none=>trivial
 |some cc=>exact CK.grow O KO X.k G
structure d7(c:Ac)(k:Option Cc)(γ:Nat→Option GS)(b:Addr):Prop where
 L:b≠c.L
 cells:∀x a,(x,a)∈c.env.cells→b≠a
 own:∀i g,γ i=some g→b∉g.addrs
 cc:∀z,k=some z→b≠z.L
 P:b≠c.C.P
 FR:b∉c.C.FR
theorem aw.gb(O:c.Ok)(X:aw c k fz s σ γ){b:Addr}(hb:s.heap.get? b=none):d7 c k γ b:=by
 have hP:b≠c.C.P:=X.g.hi.mq hb;refine⟨?_,fun x a h q=>?_,fun i g hg ha=>?_,fun z hz q=>?_,hP,fun hF=>?_⟩
 ·rintro rfl
  obtain⟨m,o,es,ep,e,_⟩:=X.g.ns;rw[hb] at e;cases e
 ·subst q
  refine iw (X.g.cell x b h) fun v o e _=>?_;rw[hb] at e;cases e
 ·refine kK (X.g.AM i g hg) fun x kd hn=>?_
  refine aq (X.g.vars i x kd g hn hg) fun v _ r=>?_;refine eo (r.there b ha) fun o e=>?_;rw[hb] at e;cases e
 ·subst hz
  obtain⟨m,⟨o,es,ep,e,_⟩,_⟩:=X.k.ns;rw[←q,hb] at e;cases e
 ·rcases yr O hF with rfl|⟨o,es,n,e,_⟩
  ·obtain⟨m,o,es,ep,e,_⟩:=X.g.ns
   rw[hb] at e;cases e
  ·refine aq (X.g.kp b o e hP) fun sl e' _=>?_
   rw[hb] at e';cases e'
theorem ue{EC:Addr}{h:Heap}{g:GS}{v:Value}(r:mw EC fz h g v)(a:Addr)(ha:a∈g.addrs):mA h a=false:=let ⟨o,e,d⟩:=r.own a ha;kU e d
theorem lK{l:List Addr}{b:Addr}(h0:c.h₀.get? b=none)(hl:b∉l)(hz:fz b=none)(hf:mA s.heap b=false):fx c fz s l b=false:=by
 unfold fx;rw[h0,hz,hf];simp[hl]
section re
variable{l:List Addr}
theorem aw.zA(O:c.Ok)(X:aw c k fz s σ γ)(hl:∀b∈l,d7 c k γ b):
 (c.re fz s l).h₀.get? c.L=none∧(∀x a,(x,a)∈c.env.cells→(c.re fz s l).h₀.get? a=none)∧(∀i g,γ i=some g→∀a∈g.addrs,(c.re fz s l).h₀.get? a=none)∧(∀z,k=some z→dc c k→(c.re fz s l).h₀.get? z.L=none):=by
 have key:∀b,fx c fz s l b=false→(c.re fz s l).h₀.get? b=none:=fun b h=>by
  show(only s.heap (fx c fz s l)).get? b=none;rw[lJ,h];rfl
 refine⟨key _ (lK O.u9 (fun h=>(hl _ h).L rfl) X.g.AL ?_),fun x a h=>key _ (lK (O.Gy x a h) (fun h'=>(hl _ h').cells x a h rfl) (X.g.A4 x a h) ?_),fun i g hg a ha=>?_,fun z hz KO=>?_⟩
 ·obtain⟨m,o,es,ep,e,d,_⟩:=X.g.ns
  exact kU e (fun vs q=>by rw[d] at q;cases q)
 ·refine iw (X.g.cell x a h) fun v o e d=>?_
  exact kU e (fun vs q=>by rw[d] at q;cases q)
 ·have m:=X.g.g9 i g hg a ha
  refine kK (X.g.AM i g hg) fun x kd hn=>?_;refine aq (X.g.vars i x kd g hn hg) fun v _ r=>?_;exact key _ (lK m.new (fun h'=>(hl _ h').own i g hg ha) m.fz (ue r a ha))
 ·subst hz
  have MC:z.Ok c:=KO;refine key _ (lK MC.new (fun h'=>(hl _ h').cc z rfl rfl) X.k.El ?_);obtain⟨m,⟨o,es,ep,e,d,_⟩,_⟩:=X.k.ns;exact kU e (fun vs q=>by rw[d] at q;cases q)
theorem jd{b:Addr}(h:fx c fz s l b=true):(c.re fz s l).h₀.get? b=s.heap.get? b:=by
 show(only s.heap (fx c fz s l)).get? b=_;rw[lJ,h];rfl
theorem Mu{b:Addr}{o:Obj}(h:(c.re fz s l).h₀.get? b=some o):s.heap.get? b=some o:=by
 have:(only s.heap (fx c fz s l)).get? b=some o:=h;rw[lJ] at this
 split at this
 ·exact this
 ·cases this
theorem aw.J1(X:aw c k fz s σ γ){b:Addr}(h:(c.re fz s l).h₀.get? b=none):c.h₀.get? b=none:=by
 cases q:c.h₀.get? b with
 |none=>rfl
 |some o=>
  have kb:fx c fz s l b=true:=by unfold fx;rw[q];rfl
  rw[jd kb] at h
  by_cases hP:b=c.C.P
  ·refine aq X.g.hi.place.tab fun ps e _=>?_
   rw[hP,e] at h;cases h
  ·refine aq (X.g.kp b o q hP) fun sl e _=>?_
   rw[e] at h;cases h
theorem aw.Eu(O:c.Ok)(X:aw c k fz s σ γ)(hl:∀b∈l,d7 c k γ b):(c.re fz s l).Ok:=by
 obtain⟨n1,n2,n3,n4⟩:=X.zA O hl;have Gd:∀b o,c.h₀.get? b=some o→fx c fz s l b=true:=fun b o q=>by unfold fx;rw[q];rfl
 refine⟨O.K,O.room,O.fr,O.FR,O.kind,O.frame,O.glob,O.Gx,O.pj,⟨fun b o h1 h2=>?_,fun b f h=>?_,X.g.hi.M8,?_⟩,Fz.le_trans O.rJ X.g.le,n1,n2,O.nL,O.apart,fun e he=>?_⟩
 ·rw[jd (Gd b o (O.base.base b o h1 h2))];exact X.g.hi.base b o h1 h2
 ·have kb:fx c fz s l b=true:=by unfold fx;rw[show fz b=some f from h];simp
  rw[jd kb];exact X.g.hi.fi b f h
 ·refine aq X.g.hi.place.tab fun ps e r=>?_
  refine⟨ps,?_,?_⟩
  ·exact(jd (AE e)).trans e
  ·rcases r with r|⟨cr,r1,r2,r3⟩
   ·exact .inl r
   ·refine .inr ⟨cr,r1,?_,r3⟩
    obtain⟨c',oc,vs,t,e1,e2,e3,e4⟩:=r2;refine⟨c',oc,vs,t,e1,?_,e3,e4⟩;have kb:fx c fz s l c'=true:=by unfold fx;rw[pC e2 e3];simp
    rw[jd kb];exact e2
 ·obtain⟨a1,L,a2,a3,nb,o,es,n,a4,a5⟩:=O.pk e he
  refine aq (X.g.kp L o a4 a3) fun sl e' _=>?_;exact⟨a1,L,a2,a3,nb,{o with slots:=sl},es,n,(jd (Gd L o a4)).trans e',a5⟩
where
 AE {ps:Array Value} (e:s.heap.get? c.C.P=some {cls:=.none,data:=.fields ps}):fx c fz s l c.C.P=true:=by
  unfold fx;rw[pC e rfl];simp
theorem aw.zB(O:c.Ok)(X:aw c k fz s σ γ)(hl:∀b∈l,d7 c k γ b):aw (c.re fz s l) k fz s σ γ:=by
 obtain⟨n1,n2,n3,n4⟩:=X.zA O hl;refine⟨⟨X.g.snap,fun b o e _=>⟨o.slots,Mu e,.inr rfl⟩,X.g.hi,Fz.le_refl _,fun b h=>.inl h,X.g.gens,X.g.os,X.g.ns,X.g.cell,X.g.AL,X.g.A4,X.g.AM,X.g.vars,fun i g hg a ha=>?_,X.g.nodup,X.g.apart⟩,X.e,?_⟩
 ·have m:=X.g.g9 i g hg a ha
  exact⟨n3 i g hg a ha,m.fz,m.L,m.cells⟩
 ·cases k with
  |none=>trivial
  |some cc=>exact⟨X.k.El,X.k.ns,X.k.apart⟩
theorem aw.TA(O:c.Ok)(KO:dc c k)(X:aw c k fz s σ γ)(hl:∀b∈l,d7 c k γ b):dc (c.re fz s l) k:=by
 obtain⟨n1,n2,n3,n4⟩:=X.zA O hl;cases k with
 |none=>trivial
 |some cc=>
  have MC:cc.Ok c:=KO;exact⟨MC.kind,MC.glob,MC.Gx,MC.pj,MC.loc,MC.gl,MC.fr,n4 cc rfl KO,MC.LL,MC.LC⟩
theorem aw.r9(O:c.Ok)(X:aw c k fz s σ γ)(hl:∀b∈l,d7 c k γ b){k':Option Cc}(Y:aw (c.re fz s l) k' ae s' σ' jg):aw c k' ae s' σ' jg:=by
 have Gd:∀b o,c.h₀.get? b=some o→fx c fz s l b=true:=fun b o q=>by unfold fx;rw[q];rfl
 refine⟨⟨Y.g.snap,fun b o e hP=>?_,Y.g.hi,Fz.le_trans X.g.le Y.g.le,fun b h=>?_,Y.g.gens,Y.g.os,Y.g.ns,Y.g.cell,Y.g.AL,Y.g.A4,Y.g.AM,Y.g.vars,fun i g hg a ha=>?_,Y.g.nodup,Y.g.apart⟩,Y.e,?_⟩
 ·refine aq (X.g.kp b o e hP) fun sl e1 q1=>?_
  refine aq (Y.g.kp b _ (by rw[jd (Gd b o e)];exact e1) hP) fun pY e2 q2=>?_;refine⟨pY,e2,?_⟩;rcases q1 with q1|q1
  ·exact .inl q1
  ·rcases q2 with q2|q2
   ·exact .inl q2
   ·exact .inr (q2.trans q1)
 ·rcases Y.g.new b h with h|h
  ·exact X.g.new b h
  ·exact .inr (X.J1 h)
 ·have m:=Y.g.g9 i g hg a ha
  exact⟨X.J1 m.new,m.fz,m.L,m.cells⟩
 ·cases k' with
  |none=>trivial
  |some cc=>exact⟨Y.k.El,Y.k.ns,Y.k.apart⟩
theorem aw.J2(X:aw c k fz s σ γ){k':Option Cc}(Y:aw (c.re fz s l) k' ae s' σ' jg):∀b∈l,∀o,s.heap.get? b=some o→fz b=none→ae b=none:=fun b hb o e hz=>by
 have kb:fx c fz s l b=true:=by unfold fx;simp[hb]
 cases q:ae b with
 |none=>rfl
 |some f=>
  rcases Y.g.new b (by rw[q];simp) with h|h
  ·exact absurd hz h
  ·rw[jd kb,e] at h;cases h
theorem aw.vv(O:c.Ok)(X:aw c k fz s σ γ)(hl:∀b∈l,d7 c k γ b)(Y:aw (c.re fz s l) k ae s' σ' jg):∀b∈l,∀o,s.heap.get? b=some o→s'.heap.get? b=some o∧d7 c k jg b:=fun b hb o e=>by
 have kb:fx c fz s l b=true:=by unfold fx;simp[hb]
 have A:=hl b hb;refine⟨Y.g.kp.get (by rw[jd kb];exact e) A.P A.FR,A.L,A.cells,fun i g hg ha=>?_,A.cc,A.P,A.FR⟩;have:=(Y.g.g9 i g hg b ha).new;rw[jd kb,e] at this;cases this
end re
structure Kept(c:Ac)(k:Option Cc)(fz:Fz)(s:Shared)(l:List Addr)(ae:Fz)(s':Shared)(jg:Nat→Option GS):Prop where
 get:∀b∈l,∀o,s.heap.get? b=some o→s'.heap.get? b=some o
 gb:∀b∈l,d7 c k jg b
 fz:∀b∈l,fz b=none→ae b=none
noncomputable abbrev Ac.at(c:Ac)(h₀:Heap)(bk:Fz):Ac:={c with h₀:=h₀,bk:=bk}
variable(prog w) in
noncomputable def SV(c:Ac)(k:Option Cc)(e:Expr)(ev:St→Mo D):Prop:=∀h₀ bk,(c.at h₀ bk).Ok→dc (c.at h₀ bk) k→aj prog w (c.at h₀ bk) k e ev
variable(prog w) in
noncomputable def ST(c:Ac)(k:Option Cc)(e:Expr)(ev:St→Mo Bool):Prop:=∀h₀ bk,(c.at h₀ bk).Ok→dc (c.at h₀ bk) k→gk prog w (c.at h₀ bk) k e ev
theorem Ew{h₀:Heap}{bk:Fz}:ee (c.at h₀ bk) k=ee c k:=by cases k<;>rfl
theorem xU.keep{α β:Type}{Rel:Fz→α→β→Prop}{t:Sem β}{m:St→Mo α}(O:c.Ok)(KO:dc c k)(hs:∀h₀ bk,(c.at h₀ bk).Ok→dc (c.at h₀ bk) k→xU prog w Rel (c.at h₀ bk) k t m)
 (X:aw c k fz s σ γ) {l:List Addr} (hl:∀b∈l,d7 c k γ b) (ye:∀b∈l,∃o,s.heap.get? b=some o) {d:α} (h:m σ=some (.ok d,σ')) {Q:β→Shared→Prop} {E:Value→Shared→Prop}
 (hQ:∀v s' ae jg,fz.le ae→aw c k ae s' σ' jg→Rel ae d v→Kept c k fz s l ae s' jg→Q v s'):aH (model prog w) c.A t Q E s:=by
 refine hs (c.re fz s l).h₀ (c.re fz s l).bk (X.Eu O hl) (X.TA O KO hl) fz s σ _ _ (X.zB O hl).inv h Q E (.A6 fun v s' ae le I' R=>?_);obtain⟨jg,Y⟩:=I'.x;have kk:=X.vv O hl Y;exact hQ v s' ae jg le (X.r9 O hl Y) R ⟨fun b hb o e=>(kk b hb o e).1,fun b hb=>(ye b hb).elim fun o e=>(kk b hb o e).2,fun b hb hz=>(ye b hb).elim fun o e=>X.J2 Y b hb o e hz⟩
theorem SV.keep{e:Expr}{ev:St→Mo D}(O:c.Ok)(KO:dc c k)(hs:SV prog w c k e ev)(X:aw c k fz s σ γ){l:List Addr}(hl:∀b∈l,d7 c k γ b)(ye:∀b∈l,∃o,s.heap.get? b=some o){d:D}(h:ev σ=some (.ok d,σ')){Q E:Value→Shared→Prop}
 (hQ:∀v s' ae jg,fz.le ae→aw c k ae s' σ' jg→Rep c.C.EC ae d v→Kept c k fz s l ae s' jg→Q v s'):aH (model prog w) c.A (eval e (ee c k)) Q E s:=
 xU.keep O KO (fun h₀ bk O' K'=>Ew (c:=c) (k:=k)▸hs h₀ bk O' K') X hl ye h hQ
theorem ST.keep{e:Expr}{ev:St→Mo Bool}(O:c.Ok)(KO:dc c k)(hs:ST prog w c k e ev)(X:aw c k fz s σ γ){l:List Addr}(hl:∀b∈l,d7 c k γ b)(ye:∀b∈l,∃o,s.heap.get? b=some o){d:Bool}(h:ev σ=some (.ok d,σ')){Q:Bool→Shared→Prop}{E:Value→Shared→Prop}
 (hQ:∀v s' ae jg,fz.le ae→aw c k ae s' σ' jg→BR ae d v→Kept c k fz s l ae s' jg→Q v s'):aH (model prog w) c.A (isTrue e (ee c k) (eval e (ee c k))) Q E s:=
 xU.keep O KO (fun h₀ bk O' K'=>Ew (c:=c) (k:=k)▸hs h₀ bk O' K') X hl ye h hQ
noncomputable def qm(h:Heap)(I:Addr):Prop:=∀o,h.get? I=some o→∀vs,o.data=.fields vs→∀q t,vs[1]?≠some (.str q t)
theorem HI.turn{C:Bc}{h h':Heap}(H:HI C fz h)(Ua:fz I=none)(hB:C.B.get? I=none)(hP:I≠C.P)(hn:qm h I)(hk:∀b o,b≠I→h.get? b=some o→h'.get? b=some o):HI C fz h':=by
 refine aq H.place.tab fun ps e r=>?_;refine⟨fun b o x y=>hk b o (fun q=>by subst q;rw[hB] at x;cases x) (H.base b o x y),fun b f x=>?_,H.M8,⟨ps,hk _ _ (Ne.symm hP) e,?_⟩⟩
 ·refine eo (H.fi b f x) fun sl g=>?_
  exact⟨sl,hk b _ (fun q=>by subst q;rw[Ua] at x;cases x) g⟩
 ·rcases r with r|⟨cr,r1,r2,r3⟩
  ·exact .inl r
  ·refine .inr ⟨cr,r1,?_,r3⟩
   obtain⟨c',oc,vs,t,e1,e2,e3,e4⟩:=r2;exact⟨c',oc,vs,t,e1,hk c' oc (fun q=>by subst q;exact hn oc e2 vs e3 _ _ e4) e2,e3,e4⟩
noncomputable def oG(FR Z:List Addr)(h h':Heap):Prop:=∀b o,h.get? b=some o→b∉Z→∃sl,h'.get? b=some {o with slots:=sl}∧(b∈FR∨sl=o.slots)
theorem oG.get{h h':Heap}(t:oG FR Z h h')(e:h.get? b=some o)(hz:b∉Z)(hf:b∉FR):h'.get? b=some o:=by
 refine aq (t b o e hz) fun sl e' q=>?_;rcases q with q|q
 ·exact absurd q hf
 ·rw[q] at e';exact e'
theorem oG.ns{h h':Heap}(t:oG FR Z h h')(ha:a∉Z)(n:h.Ns a m):h'.Ns a m:=by
 obtain⟨o,es,ep,e,d,r⟩:=n;refine aq (t _ o e ha) fun sl e' _=>?_;exact⟨_,es,ep,e',d,r⟩
theorem oG.cell{h h':Heap}(t:oG FR Z h h')(ha:a∉Z)(n:h.IsCell a v):h'.IsCell a v:=by
 refine aq n fun o e d=>?_;refine aq (t _ o e ha) fun sl e' _=>?_;exact⟨_,e',d⟩
theorem aw.Ex(O:c.Ok)(X:aw c k fz s σ γ)(hA:∀z∈Z,d7 c k γ z)(h0:∀z∈Z,c.h₀.get? z=none)(t:oG c.C.FR Z s.heap h')(H:HI c.C fz h'):
 aw c k fz {s with heap:=h',toks:=tk} σ γ:=by
 have LZ:c.L∉Z:=fun h=>(hA _ h).L rfl;have CZ:∀x a,(x,a)∈c.env.cells→a∉Z:=fun x a h h'=>(hA _ h').cells x a h rfl;have Py:∀y v,fo c s.heap y v→fo c h' y v:=fun y v hv=>by
  rcases hv with ⟨e1,m,n,e2⟩|⟨e1,a,e2,n⟩
  ·exact .inl ⟨e1,m,t.ns LZ n,e2⟩
  ·exact .inr ⟨e1,a,e2,t.cell (CZ y a (eY e2)) n⟩
 refine⟨⟨fun y v h=>Py y v (X.g.snap y v h),fun b o e hP=>?_,H,X.g.le,X.g.new,X.g.gens,X.g.os,X.g.ns.elim fun m n=>⟨m,t.ns LZ n⟩,fun x a h=>(X.g.cell x a h).elim fun v n=>⟨v,t.cell (CZ x a h) n⟩,X.g.AL,X.g.A4,X.g.AM,fun i x kd g h1 h2=>?_,X.g.g9,X.g.nodup,X.g.apart⟩,X.e,?_⟩
 ·refine aq (X.g.kp b o e hP) fun sl e' q=>?_
  refine aq (t b _ e' fun h=>vN (h0 _ h) e) fun pY Pz q'=>?_;exact⟨pY,Pz,q.elim .inl fun q=>q'.imp_right (·.trans q)⟩
 ·refine aq (X.g.vars i x kd g h1 h2) fun v hv r=>?_
  exact⟨v,Py x v hv,r.keep (Fz.le_refl _) fun a ha o e=>t.get e (fun h=>(hA _ h).own i g h2 ha) ((X.g.g9 i g h2 a ha).JN O)⟩
 ·cases k with
  |none=>trivial
  |some cc=>
   refine aq X.k.ns fun m n r=>?_;exact⟨X.k.El,⟨m,t.ns (fun h=>(hA _ h).cc cc rfl rfl) n,r⟩,X.k.apart⟩
theorem aw.turn(O:c.Ok)(X:aw c k fz s σ γ)(A:d7 c k γ I)(Ua:fz I=none)(h0:c.h₀.get? I=none)(hn:qm s.heap I){h':Heap}(hk:∀b o,b≠I→s.heap.get? b=some o→h'.get? b=some o):
 aw c k fz {s with heap:=h',toks:=tk} σ γ:=
 X.Ex O (Z:=[I]) (fun z hz=>aK.mp hz▸A) (fun z hz=>aK.mp hz▸h0) (fun b o e hz=>⟨o.slots,hk b o (fun q=>hz (q▸.head _)) e,.inr rfl⟩) (X.g.hi.turn Ua (O.qa h0) A.P hn hk)
structure i5(prog:Program)(w:World)(A:Around)(EC:Addr)(fz:Fz)(I:Addr)(ds:List D)(St:Nat→Heap→Prop):Prop where
 W:∃fp P,Walks prog w A I fp [I] ds.length P St∧∀i v,P i v→∃d,ds[i]?=some d∧Rep EC fz d v
 tN:∀i h h',St i h→(∀o,h.get? I=some o→h'.get? I=some o)→Gk fz h'→St i h'
 nc:∀i h,St i h→qm h I∧∃o,h.get? I=some o
 cls:∀i h,St i h→∀o,h.get? I=some o→o.cls=.type "list_iterator"∨o.cls=.type "range_iterator"
theorem i5.le{A:Around}{EC I:Addr}{ds:List D}{St:Nat→Heap→Prop}(T:i5 prog w A EC fz I ds St)(le:fz.le ae):i5 prog w A EC ae I ds St:=by
 obtain⟨⟨fp,P,W,hP⟩,a,b,cl⟩:=T;refine⟨⟨fp,P,W,fun i v h=>?_⟩,fun i h h' x y z=>a i h h' x y fun b f e=>z b f (le b f e),b,cl⟩;refine aq (hP i v h) fun d h1 h2=>?_;exact⟨d,h1,Rep.mono le _ _ h2⟩
theorem i5.item{A:Around}{EC I:Addr}{ds:List D}{St:Nat→Heap→Prop}(T:i5 prog w A EC fz I ds St){i:Nat}(st:St i s.heap)(hi:i<ds.length){Q:Option Value→Shared→Prop}{E:Value→Shared→Prop}
 (hQ:∀v h' tk,Rep EC fz ds[i] v→St (i+1) h'→(∀b o,b≠I→s.heap.get? b=some o→h'.get? b=some o)→Q (some v) {s with heap:=h',toks:=tk}):aH (model prog w) A (pyNext (.ref I)) Q E s:=by
 obtain⟨⟨fp,P,W,hP⟩,_⟩:=T;refine W.item i s _ _ hi st fun v h₁ tk₁ hPv si k7=>?_;refine aq (hP i v hPv) fun d hd rv=>?_;rw[aY hi] at hd;exact hQ v h₁ tk₁ (aL hd▸rv) si fun b o hb=>k7 b o fun q=>hb (aK.mp q)
theorem i5.done{A:Around}{EC I:Addr}{ds:List D}{St:Nat→Heap→Prop}(T:i5 prog w A EC fz I ds St){i:Nat}(st:St i s.heap)(hi:¬i<ds.length)(hl:i≤ds.length){Q:Option Value→Shared→Prop}{E:Value→Shared→Prop}
 (hQ:∀h' tk,(∀b o,b≠I→s.heap.get? b=some o→h'.get? b=some o)→Q none {s with heap:=h',toks:=tk}):aH (model prog w) A (pyNext (.ref I)) Q E s:=by
 obtain⟨⟨fp,P,W,hP⟩,_⟩:=T;exact W.done s _ _ (dC hl (dJ hi)▸st) fun h₁ tk₁ k7=>hQ h₁ tk₁ fun b o hb=>k7 b o fun q=>hb (aK.mp q)
theorem HO{A:Around}{C:Bc}(hA:A.handled=none)(H:HI C fz s.heap)(r:Rep C.EC fz (.list ds) v)
 (hQ:∀o St,i5 prog w A C.EC fz s.heap.objs.size ds St→St 0 (s.heap.push o)→o.isFreed=false→Q (.ref s.heap.objs.size) {s with heap:=s.heap.push o}):aH (model prog w) A (pyIter v) Q E s:=by
 obtain⟨a,vs,n,rfl,f,q⟩:=r;have hl:=en H f;have iv:a≠s.heap.objs.size:=by refine aq hl fun o e _=>?_;exact bU (Heap.lt_size e)
 have hlen:vs.size=ds.length:=by have:=q.length;rwa [aS] at this
 refine hY hl (hQ _ (fun i h=>h.IsListIter s.heap.objs.size a i∧h.IsList a vs) ⟨⟨[s.heap.objs.size,a],fun i v=>vs[i]?=some v,hlen▸Walks.list hA _ a iv vs,fun i v h=>?_⟩,fun i h h' st k z=>?_,fun i h st=>?_,fun i h st o e=>?_⟩ ⟨⟨_,Heap.get?_push_size _ rfl,rfl,rfl⟩,?_⟩ rfl)
 ·have hi:i<ds.length:=by rw[←hlen];exact(fN.mp h).1
  refine aq (q.get i ds[i] (aY hi)) fun v' h1 h2=>?_;refine⟨ds[i],aY hi,?_⟩;have:vs.toList[i]?=some v:=by simpa using h
  rw[this] at h1;cases h1;exact h2
 ·refine q9 st.1 fun o e e1 e2=>?_
  refine eo (z a _ f) fun sl g=>?_;exact⟨⟨o,k o e,e1,e2⟩,⟨_,g,rfl,n,rfl⟩⟩
 ·refine q9 st.1 fun o e e1 e2=>?_
  refine⟨fun o' e' vL Pz q t hq=>?_,o,e⟩;rw[e] at e';cases e';rw[e2] at Pz;cases Pz;simp at hq
 ·refine q9 st.1 fun o' e' e1 _=>?_
  rw[e] at e';cases e';exact .inl e1
 ·refine aq hl fun o e r=>?_
  exact⟨o,Heap.get?_push_of_some _ e,r⟩
theorem uR{n:Int}(h:0≤n):Builtin.Range.rangeSize 0 n 1=((n.toNat:Nat):Int):=by
 show(if 0<n then(n-0-1)/1+1 else 0)=_;rw[Int.ediv_one,Int.sub_zero,Int.sub_add_cancel,Int.toNat_of_nonneg h];exact ite_eq_left_iff.mpr fun q=>Int.le_antisymm h (jZ.mp q)
theorem Af(h:0≤n)(h1:n≤1024):Builtin.Range.small 0 n 1=true:=by
 delta Builtin.Range.small Builtin.Range.rangeFitsLong;rw[uR h];simp
 lia
theorem DH{A:Around}{C:Bc}(hA:A.handled=none)(hr:IsRange s.heap r 0 n 1 t u v)(h0:0≤n)(h1:n≤1024)
 (hQ:∀o St,i5 prog w A C.EC fz s.heap.objs.size (qb n) St→St 0 (s.heap.push o)→o.isFreed=false→Q (.ref s.heap.objs.size) {s with heap:=s.heap.push o}):aH (model prog w) A (pyIter (.ref r)) Q E s:=by
 have hlen:(qb n).length=n.toNat:=by simp[qb]
 refine wpAny_pyIter_range hr (Af h0 h1) (hQ _ (fun i h=>IsRangeIter h s.heap.objs.size (0+(i:Nat)*1) (((n.toNat:Nat):Int)-(i:Nat)) 1) ⟨⟨[s.heap.objs.size],fun i v=>i<n.toNat∧∃t,v=.int (0+i*1) t,?_,fun i v h=>?_⟩,fun i h h' st k z=>?_,fun i h st=>?_,fun i h st o e=>?_⟩ ?_ rfl)
 ·rw[hlen];exact(Walks.range hA s.heap.objs.size 0 1 n.toNat).bound
 ·obtain⟨hi,t,rfl⟩:=h
  refine⟨.int i,by simp[qb,hi],?_⟩;exact⟨t,congrArg (Value.int · t) (by rw[Int.mul_one,Int.zero_add])⟩
 ·exact k _ st
 ·refine⟨fun o' e' vL Pz q t hq=>?_,_,st⟩
  have XH:h.get? s.heap.objs.size=some _:=st;rw[XH] at e';cases e';cases Pz;simp[rawInt] at hq
 ·have XH:h.get? s.heap.objs.size=some _:=st
  rw[XH] at e;cases e;exact .inr rfl
 ·show Heap.get? _ _=_
  rw[Heap.get?_push_size _ rfl];rw[uR h0];simp
theorem append_at{vs:Array Value}(hl:bw s.heap l vs)
 (hQ:∀h',bw h' l (vs.push x)→Heap.SameBut l s.heap h'→Q .none {s with heap:=h'}) (gw:vs.size≤sizeLine):aH (model prog w) A (call (.builtin "list.append") [.ref l,x]) Q E s:=by
 refine kK hl fun n sl ho=>?_;refine cH slot_list_append ⟨_,ho,rfl⟩ entry_list_append ?_ (args_list_append _ _);show aH _ _ (updateSeq l (·.push x)>>=fun _=>ret .none) _ _ s;refine aB ?_;have e:Obj.mapSeq (·.push x) ⟨.type "list",none,.seq vs n,sl⟩=⟨.type "list",none,.seq (vs.push x) (n+1),sl⟩:=by simp[Obj.mapSeq]
 refine fH ho rfl (aF ⟨.none,rfl,hQ _ ⟨n+1,sl,?_⟩ (Heap.SameBut.update ..)⟩);rw[Heap.get?_update_self _ ho (by rw[e];rfl),e]
theorem bw.tP(x:bw h l vs):qm h l:=by
 refine kK x fun n sl e=>?_;intro o e' us d;rw[e] at e';cases e';cases d
theorem Ns.tP{h:Heap}(x:h.Ns l m):qm h l:=by
 obtain⟨o,es,ep,e,d,_⟩:=x;intro o' e' us d';rw[e] at e';cases e';rw[d] at d';cases d'
theorem aw.leave(X:aw c (some cc) fz s σ γ):aw c none fz s {σ with κ:=κ} γ:=⟨X.g,X.e,trivial⟩
theorem d7.leave{cc:Cc}{b:Addr}(A:d7 c (some cc) γ b):d7 c none γ b:=⟨A.L,A.cells,A.own,fun z h=>(by cases h),A.P,A.FR⟩
theorem aw.enter(O:c.Ok)(X:aw c none fz s σ γ){cc:Cc}(hC:s.heap.get? cc.L=none){h':Heap}(hm:h'.Ns cc.L m)(hk:∀b o,s.heap.get? b=some o→h'.get? b=some o):
 aw c (some cc) fz {s with heap:=h',toks:=tk} {σ with κ:=eO n none} γ:=by
 have G:bp c.C fz s fz {s with heap:=h',toks:=tk}:=⟨.of_keeps hk,Fz.le_refl _,fun _ h=>.inl h,X.g.hi.keeps hk,rfl,rfl⟩;have A:=X.gb O hC;refine⟨X.g.grow O G,X.e,⟨X.g.hi.fh hC,⟨m,hm,fun j x d h1 h2=>?_⟩,A.own⟩⟩;have:((eO n (none:Option D))[j]?).join=none:=by
  rw[List.getElem?_replicate];split<;>rfl
 rw[this] at h2;cases h2
theorem Vy{l:List (Option D)}(h:((l.set j (some d))[j]?).join=some d'):d=d':=by
 rw[List.getElem?_set_self'] at h;cases e:l[j]? with
 |none=>rw[e] at h;cases h
 |some o=>rw[e] at h;cases h;rfl
theorem Ag(O:c.Ok){cc:Cc}(KO:cc.Ok c)(X:aw c (some cc) fz s σ γ):d7 c none γ cc.L:=⟨KO.LL,fun x a h=>KO.LC x a h,X.k.apart,fun z h=>(nomatch h),O.mq KO.new,fun h=>by
 rcases yr O h with q|⟨o,es,n,e,_⟩
 ·exact KO.LL q
 ·exact vN KO.new e⟩
theorem aw.Q3(O:c.Ok){cc:Cc}(KO:cc.Ok c)(X:aw c (some cc) fz s σ γ)(hj:cc.names[j]?=some (x,.local))(r:Rep c.C.EC fz d v)(hm:s.heap.Ns cc.L m){h':Heap}
 (hm':h'.Ns cc.L (fun y=>if y=x then some v else m y)) (hs:Heap.SameBut cc.L s.heap h'):aw c (some cc) fz {s with heap:=h',toks:=tk} {σ with κ:=σ.κ.set j (some d)} γ:=by
 have A:=Ag O KO X;have Y:=(X.leave (κ:=[])).turn O (h':=h') (tk:=tk) A X.k.El KO.new (Ns.tP hm) fun b o hb e=>(hs.2 b hb).trans e;refine⟨Y.g,X.e,⟨X.k.El,⟨_,hm',fun i y d' h1 h2=>?_⟩,X.k.apart⟩⟩
 by_cases q:i=j
 ·subst q
  cases (aL (hj.symm.trans h1):(x,_)=(y,_));exact⟨v,if_pos rfl,Vy h2▸r⟩
 ·refine aq X.k.ns fun I7 Ob XI=>?_
  refine aq (XI i y d' h1 ((congrArg Option.join (List.getElem?_set_ne (Ne.symm q))).symm.trans h2)) fun u hu ru=>?_;exact⟨u,(if_neg fun e=>q (tH KO.pj h1 (e▸hj))).trans ((uw hm Ob y).trans hu),ru⟩
structure HP(c:Ac)(fz:Fz)(s:Shared)(σ:St)(γ:Nat→Option GS)(D':Addr)(ys:Array Value)(zs:List D):Prop where
 X:aw c none fz s σ γ
 hl:bw s.heap D' ys
 r:a8 c.C.EC fz zs ys.toList
 A:d7 c none γ D'
 z:fz D'=none
 h0:c.h₀.get? D'=none
structure Vz(c:Ac)(av fz:Fz)(s:Shared)(σ:St)(C D':Addr)(xs:List D)(γ:Nat→Option GS)(ys:Array Value)(m:Str→Option Value):Prop where
 own:HP c fz s σ γ D' ys xs
 aC:d7 c none γ C
 zC:fz C=none
 h0:c.h₀.get? C=none
 ns:s.heap.Ns C m
 le:av.le fz
 ne:D'≠C
noncomputable def CompEnd(c:Ac)(av fz:Fz)(s:Shared)(σ:St)(C D':Addr)(xs:List D):Prop:=∃γ ys m,Vz c av fz s σ C D' xs γ ys m
theorem CompEnd.le{bk av:Fz}(h:CompEnd c av fz s σ C D' xs)(le:bk.le av):CompEnd c bk fz s σ C D' xs:=by
 refine Gj h fun γ ys m e=>?_;exact⟨γ,ys,m,e.own,e.aC,e.zC,e.h0,e.ns,Fz.le_trans le e.le,e.ne⟩
structure DI(c:Ac)(cc:Cc)(fz:Fz)(I D':Addr)(lS:Nat→Heap→Prop)(i:Nat)(s':Shared)(ae:Fz)(jg:Nat→Option GS)(CN:St)(xs:List D)(ys:Array Value):Prop where
 le:fz.le ae
 X:aw c (some cc) ae s' CN jg
 st:lS i s'.heap
 aI:d7 c (some cc) jg I
 aD:d7 c (some cc) jg D'
 zI:ae I=none
 zD:ae D'=none
 hl:bw s'.heap D' ys
 hr:a8 c.C.EC ae xs ys.toList
theorem pz{P:Addr→Prop}{a b:Addr}(ha:P a)(hb:P b):∀x∈[a,b],P x:=fun x h=>(aO.mp h).elim (fun e=>e▸ha) fun h=>aK.mp h▸hb
section
variable{cc:Cc}{I D':Addr}{ds:List D}{lS:Nat→Heap→Prop}{i:Nat}{xs:List D}{ys:Array Value}
theorem DI.J3(L:DI c cc fz I D' lS i s ae γ σ xs ys):∀b∈[I,D'],d7 c (some cc) γ b:=pz L.aI L.aD
theorem DI.ins(T:i5 prog w c.A c.C.EC fz I ds lS)(L:DI c cc fz I D' lS i s ae γ σ xs ys):∀b∈[I,D'],∃o,s.heap.get? b=some o:=pz (T.nc i _ L.st).2 (L.hl.elim fun n h=>h.elim fun sl e=>⟨_,e⟩)
theorem DI.kept(T:i5 prog w c.A c.C.EC fz I ds lS)(L:DI c cc fz I D' lS i s ae γ σ xs ys)(le:ae.le gi)(X:aw c (some cc) gi cw de sj)(K:Kept c (some cc) ae s [I,D'] gi cw sj):DI c cc fz I D' lS i cw gi sj de xs ys:=
 have mI:I∈[I,D']:=.head _;have mD:D'∈[I,D']:=.tail _ (.head _)
 ⟨Fz.le_trans L.le le,X,(T.le (Fz.le_trans L.le le)).tN _ _ _ L.st (fun o e=>K.get I mI o e) X.g.hi.fi,K.gb I mI,K.gb D' mD,K.fz I mI L.zI,K.fz D' mD L.zD,L.hl.elim fun n h=>h.elim fun sl e=>⟨n,sl,K.get D' mD _ e⟩,a8.mono le _ _ L.hr⟩
theorem yH(O:c.Ok)(KO:cc.Ok c)(Od:c.h₀.get? D'=none)(M5:I≠D')(T:i5 prog w c.A c.C.EC fz I ds lS){elt:Expr}{ev:St→Mo D}{f:St→Mo (List D)}(Ah:SV prog w c (some cc) elt ev){b:Bool}{rest:List D}{xS:St}(L:DI c cc fz I D' lS i s ae γ σ xs ys)(gw:ys.size≤sizeLine)
 (hb:(if b=true then(ev σ).bind fun x σ=>(f σ).bind fun xs σ=>.ok (x::xs) σ else f σ)=some (.ok rest,xS)) {J:Shared→Prop} {E:Value→Shared→Prop}
 (hJ:∀s ae γ σ Rv E8 xN,DI c cc fz I D' lS i s ae γ σ Rv E8→E8.size≤ys.size+1→f σ=some (.ok xN,xS)→xs++rest=Rv++xN→J s):
 if b=true then aH (model prog w) c.A (eval elt cc.env) (fun x sk=>aH (model prog w) c.A (call (.builtin "list.append") [.ref D',x]) (fun _ oi=>J oi) E sk) E s else J s:=by
 cases b with
 |false=>exact hJ s ae γ σ xs ys rest L (Nat.le_succ _) hb rfl
 |true=>
  rcases Mo.bind_some hb with ⟨y,Ym,h1,h2⟩|⟨_,_,hy⟩
  ·rcases Mo.bind_some h2 with ⟨us,Yn,h3,h4⟩|⟨_,_,hy⟩
   ·cases h4
    refine Ah.keep (k:=some cc) O KO L.X L.J3 (L.ins T) h1 fun Ue sk Ug Uh Ui qP XJ XK=>?_;have uj:=L.kept T Ui qP XK;refine append_at uj.hl (fun XM Uj QA=>?_) gw;have I9:=qP.turn O (h':=XM) (tk:=sk.toks) uj.aD uj.zD Od uj.hl.tP fun b o hb e=>(QA.2 b hb).trans e;refine hJ _ Ug Uh _ (xs++[y]) (ys.push Ue) us ⟨uj.le,I9,(T.le uj.le).tN _ _ _ uj.st (fun o e=>(QA.2 I M5).trans e) I9.g.hi.fi,uj.aI,uj.aD,uj.zI,uj.zD,Uj,?_⟩ (by rw[Array.size_push];exact bB _) h3 (List.append_cons xs y us);rw[iA];exact a8.append uj.hr ⟨Ue,[],rfl,XJ,rfl⟩
   ·cases hy
  ·cases hy
end
noncomputable def Q4(c:Ac)(cc:Cc)(fz:Fz)(I D':Addr)(lS:Nat→Heap→Prop)(cond:St→Mo Bool)(ev:St→Mo D)(j:Nat)(ds:List D)(zs:List D)(xS:St)(n:Nat)(s':Shared):Prop:=
 ∃i ae jg CN xs ys rest,(i≤ds.length∧n=ds.length+1-i∧ys.size≤i)∧DI c cc fz I D' lS i s' ae jg CN xs ys∧mX cond ev j (ds.drop i) CN=some (.ok rest,xS)∧zs=xs++rest
theorem DJ{cond:St→Mo Bool}{ev:St→Mo D}{j:Nat}{ds:List D}{i:Nat}(h:i<ds.length):mX cond ev j (ds.drop i) σ=(cond {σ with κ:=σ.κ.set j (some ds[i])}).bind fun b σ=>
 if b then(ev σ).bind fun x σ=>(mX cond ev j (ds.drop (i+1)) σ).bind fun xs σ=>.ok (x::xs) σ else mX cond ev j (ds.drop (i+1)) σ:=by
 rw[cZ h];rfl
variable(prog w) in
noncomputable def DK(c:Ac)(k:Option Cc)(ifs:List Expr)(cond:St→Mo Bool):Prop:=(ifs=[]∧cond=fun σ=>.ok true σ)∨∃e,ifs=[e]∧ST prog w c k e cond
theorem Q4.go{cc:Cc}{I D':Addr}{lS:Nat→Heap→Prop}{cond:St→Mo Bool}{ev:St→Mo D}{j:Nat}{ds zs:List D}{xS:St}{n:Nat}(h:Q4 c cc fz I D' lS cond ev j ds zs xS n s){G:Prop}
 (go:∀i ae jg CN xs ys rest,n=ds.length+1-i→i≤ds.length→ys.size≤i→DI c cc fz I D' lS i s ae jg CN xs ys→mX cond ev j (ds.drop i) CN=some (.ok rest,xS)→zs=xs++rest→G):G:=by
 obtain⟨i,ae,jg,CN,xs,ys,rest,⟨h1,h2,h3⟩,L,h4,h5⟩:=h;exact go i ae jg CN xs ys rest h2 h1 h3 L h4 h5
section
variable{cc:Cc}{I D':Addr}{ds:List D}{lS:Nat→Heap→Prop}
theorem HQ(O:c.Ok)(KO:cc.Ok c){elt:Expr}{x:Str}{px:Pos}{ifs:List Expr}{j i:Nat}{cond:St→Mo Bool}{ev:St→Mo D}(hj:cc.names[j]?=some (x,.local))(Ah:SV prog w c (some cc) elt ev)(Ai:DK prog w c (some cc) ifs cond)
 (T:i5 prog w c.A c.C.EC fz I ds lS) (M5:I≠D') (Vf:c.h₀.get? I=none) (Od:c.h₀.get? D'=none) {xs:List D} {ys:Array Value} (L:DI c cc fz I D' lS i s ae γ σ xs ys) (gw:ys.size≤sizeLine)
 {d:D} {v:Value} {h₁:Heap} {tk₁:Nat} (rv:Rep c.C.EC ae d v) (si:lS (i+1) h₁) (k7:∀b o,b≠I→s.heap.get? b=some o→h₁.get? b=some o) {f:St→Mo (List D)} {rest:List D} {xS:St}
 (hv:((cond {σ with κ:=σ.κ.set j (some d)}).bind fun b σ=>if b then(ev σ).bind fun x σ=>(f σ).bind fun xs σ=>.ok (x::xs) σ else f σ)=some (.ok rest,xS)) {J:Shared→Prop} {E:Value→Shared→Prop}
 (hJ:∀s ae γ σ Rv E8 xN,DI c cc fz I D' lS (i+1) s ae γ σ Rv E8→E8.size≤ys.size+1→f σ=some (.ok xN,xS)→xs++rest=Rv++xN→J s):
 aH (model prog w) c.A (assign (.Name x px) cc.env v) (fun _ cw=>aH (model prog w) c.A (forIn ifs true fun c r=>if r=true then do let ok ←isTrue c cc.env (eval c cc.env);pure (ForInStep.yield ok) else pure (ForInStep.yield r))
  (fun ok l4=>if ok=true then aH (model prog w) c.A (eval elt cc.env) (fun x sk=>aH (model prog w) c.A (call (.builtin "list.append") [.ref D',x]) (fun _ oi=>J oi) E sk) E l4 else J l4) E cw) E {s with heap:=h₁,toks:=tk₁}:=by
 have di:=L.X.turn O (h':=h₁) (tk:=tk₁) L.aI L.zI Vf (T.nc i _ L.st).1 k7;refine aq di.k.ns fun m₁ n₁ _=>?_;refine iB (iM (KO.loc x (cm KO.pj hj)) n₁ (fun jz E9 kj=>?_) (by rw[KO.kind];rfl));have gx:=di.Q3 O KO (tk:=tk₁+1) hj rv n₁ E9 kj;have Ea:DI c cc fz I D' lS (i+1) _ ae γ _ xs ys:=⟨L.le,gx,(T.le L.le).tN _ _ _ si (fun o e=>(kj.2 I (L.aI.cc cc rfl)).trans e) gx.g.hi.fi,L.aI,L.aD,L.zI,L.zD,L.hl.elim fun n h=>h.elim fun sl e=>⟨n,sl,(kj.2 D' (L.aD.cc cc rfl)).trans (k7 D' _ (Ne.symm M5) e)⟩,L.hr⟩;rcases Ai with ⟨rfl,rfl⟩|⟨e,rfl,hce⟩
 ·exact wpAny_tests_nil (yH (b:=true) O KO Od M5 T Ah Ea gw hv hJ)
 ·refine wpAny_tests_one ?_
  rcases Mo.bind_some hv with ⟨b,oW,h1,h2⟩|⟨y,_,hy⟩
  ·refine hce.keep (k:=some cc) O KO gx Ea.J3 (Ea.ins T) h1 fun v l4 sf Ge lR jq hb XN=>?_
   cases (show v=b from hb);exact yH O KO Od M5 T Ah (Ea.kept T lR jq XN) gw h2 hJ
  ·cases hy
theorem HR(O:c.Ok)(KO:cc.Ok c){elt iter:Expr}{x:Str}{px pos:Pos}{ifs:List Expr}{scope:Scope}{j:Nat}{R:Result→Shared→Prop}
 {cond:St→Mo Bool} {ev:St→Mo D} (hj:cc.names[j]?=some (x,.local)) (Ah:SV prog w c (some cc) elt ev) (Ai:DK prog w c (some cc) ifs cond)
 (T:i5 prog w c.A c.C.EC fz I ds lS) (QB:ds.length≤sizeLine) (M5:I≠D') (Vf:c.h₀.get? I=none) (Od:c.h₀.get? D'=none) (L:DI c cc fz I D' lS 0 s fz γ σ [] #[])
 {zs:List D} {xS:St} (hv:mX cond ev j ds σ=some (.ok zs,xS)) (hR:∀s' ae,CompEnd c fz ae s' {xS with κ:=[]} cc.L D' zs→R (.ok .next) s'):
 gS (model prog w) c.A (.compLoop (.ListComp elt [⟨.Name x px,iter,ifs,0⟩] scope pos) 0 (.ref I) (.ref D') cc.env) R s:=by
 refine codeAny_compLoop_tests (Q4 c cc fz I D' lS cond ev j ds zs xS) (fun n s' hi=>hi.go fun i ae jg CN xs ys rest hn hi gw L' Ip e=>?_) (ds.length+1) ⟨0,fz,γ,σ,[],#[],zs,⟨cS _,rfl,bB _⟩,L,hv,rfl⟩
 by_cases qK:i<ds.length
 ·exact(T.le L'.le).item L'.st qK fun v h₁ tk₁ rv si k7=>HQ O KO hj Ah Ai T M5 Vf Od L' (aG gw (aG (aZ qK) QB)) rv si k7 ((DJ qK).symm.trans Ip)
   fun s ae γ σ Rv E8 xN L nH hf e'=>⟨ds.length+1-(i+1),hn▸Nat.sub_lt_sub_left (jW qK) (fY i),i+1,ae,γ,σ,Rv,E8,xN,⟨qK,rfl,aG nH (iG gw)⟩,L,hf,e.trans e'⟩
 ·refine(T.le L'.le).done L'.st qK hi fun h₁ tk₁ k7=>?_
  have di:=L'.X.turn O (h':=h₁) (tk:=tk₁) L'.aI L'.zI Vf (T.nc _ _ L'.st).1 k7;rw[List.drop_eq_nil_of_le (dJ qK)] at Ip;cases Ip;refine aq di.k.ns fun m₁ n₁ _=>?_;have hl:=L'.hl;refine kK hl fun a b e1=>?_;exact hR _ ae ⟨jg,ys,m₁,⟨di.leave,⟨a,b,k7 D' _ (Ne.symm M5) e1⟩,by rw[e,bN];exact L'.hr,L'.aD.leave,L'.zD,Od⟩,Ag O KO di,di.k.El,KO.new,n₁,L'.le,L'.aD.cc cc rfl⟩
end
noncomputable def Ow(env:Env)(n:Str)(kd:NameKind)(cs:List (Str×Addr)):List (Str×Addr):=bif kd==.free then((env.cells.lookup n).map fun a=>(n,a)::cs).getD cs else cs
theorem zE(h:(kd==.free)=false):Ow env n kd cs=cs:=by
 delta Ow;rw[h];rfl
theorem Aj{env:Env}(h:env.cells.lookup n=some a):Ow env n .free cs=(n,a)::cs:=by
 show Option.getD (gM _ (env.cells.lookup n)) _=_;rw[h];rfl
noncomputable def pD(env:Env):List (Str×NameKind)→List (Str×Addr)→List (Str×Addr)
 |[],cs=>cs
 |y::r,cs=>pD env r (Ow env y.1 y.2 cs)
theorem J4(env:Env):∀(cs:List (Str×Addr)),(∀n,(n,NameKind.free)∈names→∃a,env.cells.lookup n=some a)→
 (forIn names cs fun x r=>(if(x.2==NameKind.free)=true then(do let a ←cellOf env x.1;pure (ForInStep.yield ((x.1,a)::r))) else pure (ForInStep.yield r):Sem _))=pure (pD env names cs):=by
 induction names with
 |nil=>exact fun cs _=>rfl
 |cons y r ih=>
  intro cs h;obtain⟨n,kd⟩:=y;rw[eT];have h':=fun m hm=>h m (.tail _ hm);cases hk:kd==NameKind.free with
  |true=>
   cases eq_of_beq hk;obtain⟨a,ha⟩:=h n (.head _);have:cellOf env n=pure a:=by unfold cellOf;rw[ha]
   rw[if_pos rfl,this];exact(ih _ h').trans (congrArg (fun l=>pure (pD env r l)) (Aj ha).symm)
  |false=>
   rw[if_neg bF];exact(ih _ h').trans (congrArg (fun l=>pure (pD env r l)) (zE hk).symm)
theorem qW{scope:Scope}{env:Env}(h:∀n,(n,NameKind.free)∈scope.names→∃a,env.cells.lookup n=some a):closureFor scope env=pure (pD env scope.names []):=by
 have:=J4 env [] h;exact(congrArg (·>>=fun cs=>pure cs) this).trans rfl
theorem tQ{α:Type}{a:α}{cs:List (Str×α)}(h:x≠n):((n,a)::cs).lookup x=cs.lookup x:=by
 rw[bT,beq_eq_false_iff_ne.mpr h]
theorem tR{α:Type}{a:α}{cs:List (Str×α)}:((x,a)::cs).lookup x=some a:=by
 rw[bT,beq_self_eq_true]
theorem DL{n x:Str}{kd:NameKind}{cs:List (Str×Addr)}(h:x≠n):(Ow env n kd cs).lookup x=cs.lookup x:=by
 cases hk:kd==NameKind.free with
 |false=>rw[zE hk]
 |true=>
  cases eq_of_beq hk;show List.lookup x (Option.getD (gM (fun a=>(n,a)::cs) (env.cells.lookup n)) cs)=_;cases env.cells.lookup n with
  |none=>rfl
  |some a=>exact tQ h
theorem Ak(env:Env){names:List (Str×NameKind)}:∀{cs:List (Str×Addr)},x∉names.map (·.1)→(pD env names cs).lookup x=cs.lookup x:=by
 induction names with
 |nil=>exact fun _=>rfl
 |cons y r ih=>exact fun h=>(ih fun q=>h (.tail _ q)).trans (DL fun q=>h (q▸.head _))
theorem DM(env:Env){x:Str}{names:List (Str×NameKind)}:∀(cs:List (Str×Addr)),(names.map (·.1)).Nodup→(∀n,(n,NameKind.free)∈names→∃a,env.cells.lookup n=some a)→(x,NameKind.free)∈names→(pD env names cs).lookup x=env.cells.lookup x:=by
 induction names with
 |nil=>exact fun _ _ _ h=>nomatch h
 |cons y r ih=>
  intro cs nd ha h;have nd:=bV.mp nd;rcases aO.mp h with e|h
  ·subst e
   obtain⟨a,e⟩:=ha x (.head _);refine(Ak env nd.1).trans ?_;rw[Aj e,tR,e]
  ·exact ih _ nd.2 (fun m hm=>ha m (.tail _ hm)) h
theorem vw{f:Str×NameKind→Str×NameKind}(hf:∀y,(f y).1=y.1){names:List (Str×NameKind)}{x:Str}{kd:NameKind}(h:names.lookup x=some kd):(names.map f).lookup x=some (f (x,kd)).2:=by
 induction names with
 |nil=>cases h
 |cons y r ih=>
  show List.lookup x (((f y).1,(f y).2)::_)=_;rw[hf y]
  by_cases hx:x=y.1
  ·rw[show y::r=(x,y.2)::r by rw[hx],tR] at h
   rw[←hx,tR,←aL h,hx]
  ·rw[tQ hx]
   exact ih ((tQ hx).symm.trans h)
theorem qM{env:Env}{names:List (Str×NameKind)}{x:Str}(h:names.lookup x=some .globalImplicit):
 (names.map fun(n,k)=>if(k==NameKind.free&&env.scope.kind==.function&&env.kindOf n==some .cell) then(n,NameKind.cell) else(n,k)).lookup x=some .globalImplicit:=
 vw (f:=fun(n,k)=>if(k==NameKind.free&&env.scope.kind==.function&&env.kindOf n==some .cell) then(n,NameKind.cell) else(n,k)) (fun y=>by dsimp only;split<;>rfl) h
theorem qN{env:Env}(hk:env.scope.kind=.function){names:List (Str×NameKind)}{x:Str}(h:names.lookup x=some .free)(AF:env.kindOf x=some .cell):
 (names.map fun(n,k)=>if(k==NameKind.free&&env.scope.kind==.function&&env.kindOf n==some .cell) then(n,NameKind.cell) else(n,k)).lookup x=some .cell:=by
 refine(vw (f:=fun(n,k)=>if(k==NameKind.free&&env.scope.kind==.function&&env.kindOf n==some .cell) then(n,NameKind.cell) else(n,k)) (fun y=>by dsimp only;split<;>rfl) h).trans ?_;dsimp only;rw[if_pos (by rw[hk,AF];rfl)]
theorem xZ{l:List (Str×NameKind)}(nd:(l.map (·.1)).Nodup)(h:(x,kd)∈l):l.lookup x=some kd:=by
 obtain⟨i,hi,e⟩:=jD h;exact cm nd (i:=i) (by rw[aY hi,e])
structure rd(env:Env)(scope:Scope):Prop where
 kind:scope.kind=.function
 pj:(scope.names.map (·.1)).Nodup
 DN:∀y∈scope.names,y.2≠.cell
 free:∀n,(n,NameKind.free)∈scope.names→env.scope.names.lookup n=some .cell
noncomputable def HS(c:Ac)(scope:Scope)(C:Addr):Cc:=⟨compEnvC scope (pD c.env scope.names []) C c.env,scope.names⟩
theorem rd.cells(O:c.Ok){scope:Scope}(S:rd c.env scope):∀n,(n,NameKind.free)∈scope.names→∃a,c.env.cells.lookup n=some a:=fun n h=>O.nL n (S.free n h)
theorem Mv(O:c.Ok)(S:rd c.env scope)(h0:c.h₀.get? C=none)(hL:C≠c.L)(hC:∀x a,(x,a)∈c.env.cells→C≠a):(HS c scope C).Ok c where
 kind:=by simp[HS,compEnvC,relabel,S.kind]
 glob:=O.glob
 Gx:=O.Gx
 pj:=S.pj
 loc:=fun x h=>lookup_relabel_local h
 gl:=fun x h=>qM h
 fr:=fun x h=>by
  have hm:(x,NameKind.free)∈scope.names:=eY h;exact⟨qN O.kind h (S.free x hm),DM c.env [] S.pj (S.cells O) hm⟩
 new:=h0
 LL:=hL
 LC:=hC
theorem aw.HT(X:aw c k fz s σ γ)(h:s.heap.get? b=none):c.h₀.get? b=none:=X.g.kp.some (X.g.hi.mq h) h
structure zF(prog:Program)(w:World)(c:Ac)(fz:Fz)(s:Shared)(σ:St)(γ:Nat→Option GS)(I:Addr)(ds:List D)(lS:Nat→Heap→Prop)(i:Nat):Prop where
 X:aw c none fz s σ γ
 T:i5 prog w c.A c.C.EC fz I ds lS
 st:lS i s.heap
 aI:d7 c none γ I
 zI:fz I=none
 h0:c.h₀.get? I=none
 len:ds.length≤sizeLine
variable(prog w) in
noncomputable def rg(c:Ac)(iter:Expr)(rng:Bool)(ev:St→Mo D):Prop:=∀(α:Type) (f:List D→St→Mo α) fz s σ (r:R α) σ',bt c none fz s σ→((ev σ).bind fun x σ=>(lg rng x).bind fun ds=>f ds σ)=some (r,σ')→∀(Q E:Value→Shared→Prop),rY c none fz r σ' E→
 (∀ds ai cw gi sj I lS,fz.le gi→zF prog w c gi cw ai sj I ds lS 0→f ds ai=some (r,σ')→Q (.ref I) cw)→aH (model prog w) c.A (eval iter c.env) (fun xv a9=>aH (model prog w) c.A (pyIter xv) Q E a9) E s
theorem zF.turn(O:c.Ok)(It:zF prog w c fz s σ γ I ds lS i){h':Heap}(st:lS j h')(hk:∀b o,b≠I→s.heap.get? b=some o→h'.get? b=some o):zF prog w c fz {s with heap:=h',toks:=tk} σ γ I ds lS j:=
 ⟨It.X.turn O It.aI It.zI It.h0 (It.T.nc i _ It.st).1 hk,It.T,st,It.aI,It.zI,It.h0,It.len⟩
theorem Al(O:c.Ok)(X:aw c none fz s σ γ){ds:List D}(T:i5 prog w c.A c.C.EC fz s.heap.objs.size ds lS)(st:lS 0 (s.heap.push o))(len:ds.length≤sizeLine):zF prog w c fz {s with heap:=s.heap.push o} σ γ s.heap.objs.size ds lS 0:=
 have hn:=ej s.heap
 ⟨X.grow O trivial (bp.oq X.g.hi o s.toks),T,st,X.gb O hn,X.g.hi.fh hn,X.HT hn,len⟩
theorem zG(O:c.Ok)(hA:c.A.handled=none)(h:aj prog w c none e ev):rg prog w c e false ev:=fun α f fz s σ r σ' I hv Q E hE go=>
 h.qS I hv hE fun x v ai a9 av b8 az xO h2=>by
  refine aq (fw h2) fun ds QB h3=>?_;refine aq (iy QB) fun l ay h4=>?_;subst ay;obtain⟨hl,h5⟩:=kQ h4;cases h5;refine eo az.x fun lU di=>?_;exact HO hA di.g.hi xO fun o lS T st AO=>go ds ai _ av lU _ lS b8 (Al O di T st hl) h3
theorem x4 (O:c.Ok) (hA:c.A.handled=none) (hx:globK c none "range") (hg:c.C.mg "range"=none) (hb:c.C.mb "range"=some (.type "range")) (hs:noStar e=true) (h:aj prog w c none e ev):rg prog w c (.Call (.Name "range" p) [e] [] pos) true ev:=fun α f fz s σ r σ' I hv Q E hE go=>
 jl (k:=none) O trivial hx hg hb (by decide +kernel) hs fz s σ I _ E (h.qS I hv hE fun x v ai a9 av b8 az xO h2=>by
  refine aq (fw h2) fun ds QB h3=>?_;refine aq (kN QB) fun n ay h4=>?_;subst ay;obtain⟨hn,h5⟩:=kQ h4;cases h5;refine eo az.x fun lU di=>?_;refine eo (d6 xO) fun t ay=>?_;subst ay;refine call_range_1 ?_;have gx:=di.grow (k:=none) O trivial (bp.oq di.g.hi {cls:=.type "range",data:=.fields #[.int 0 a9.toks,.int n t,.int 1 (a9.toks+1)]} (a9.toks+1+1));exact DH (C:=c.C) (fz:=av) hA (IsRange.new _ _ _ _ _ _ _) hn.1 hn.2 fun o lS T st AO=>go _ ai _ av lU _ lS b8 (Al O gx T st (by rw[qb,aM,fP,eJ];lia)) h3)
noncomputable def yI(e:Expr):Bool:=e.ctorIdx !=7
theorem uS(h:yI e=true)(x:Value):foldedSetIterable e env x=pure x:=by
 cases e<;>first|rfl|exact absurd h bF
structure tT(prog:Program)(w:World)(c:Ac)(elt iter:Expr)(x:Str)(ifs:List Expr)(scope:Scope)(j:Nat)(rng:Bool)(AN:St→Mo D)(cond:St→Mo Bool)(ev:St→Mo D):Prop where
 S:rd c.env scope
 hj:scope.names[j]?=some (x,.local)
 DO:yI iter=true
 hit:rg prog w c iter rng AN
 Ah:∀C,SV prog w c (some (HS c scope C)) elt ev
 Ai:∀C,DK prog w c (some (HS c scope C)) ifs cond
section
variable{elt iter:Expr}{x:Str}{px pos:Pos}{ifs:List Expr}{scope:Scope}{j:Nat}{rng:Bool}{AN:St→Mo D}{cond:St→Mo Bool}{ev:St→Mo D}
theorem Mw(O:c.Ok)(K:tT prog w c elt iter x ifs scope j rng AN cond ev){I D':Addr}{ds zs:List D}{lS:Nat→Heap→Prop}(It:zF prog w c fz s σ γ I ds lS 0)(M5:I≠D')(aD:d7 c none γ D')(zD:fz D'=none)(Od:c.h₀.get? D'=none)(hl:bw s.heap D' #[])
 {xS:St} (hv:mX cond ev j ds {σ with κ:=eO (j+1) none}=some (.ok zs,xS)) {E:Value→Shared→Prop} {P:Addr→Result→Shared→Prop} (hQ:∀s' ae C,CompEnd c fz ae s' {xS with κ:=[]} C D' zs→P C (.ok .next) s'):
 aH (model prog w) c.A (newFunctionEnv scope c.env.globals (pD c.env scope.names []) [] c.env.qual none .none (some c.env)) (fun Uk sk=>gS (model prog w) c.A (.compStart (.ListComp elt [⟨.Name x px,iter,ifs,0⟩] scope pos) 0 (.ref I) (.ref D') {Uk with scope:=relabel scope c.env}) (P Uk.locals) sk) E s:=by
 have Ul:=ej s.heap;have AC:=It.X.gb O Ul;have oI:=(It.T.nc 0 _ It.st).2;have oD:∃o,s.heap.get? D'=some o:=hl.elim fun n h=>h.elim fun sl e=>⟨_,e⟩;refine wpAny_newFunctionEnv K.S.DN (fun y hy=>nomatch hy) (fun h₁ Rw Rx=>?_) K.S.kind;have keep:∀b o,s.heap.get? b=some o→h₁.get? b=some o:=fun b o e=>Rx.extBut b o (fun q=>vN Ul (q▸e)) (Heap.get?_push_of_some _ e);have ne:∀{b},(∃o,s.heap.get? b=some o)→b≠s.heap.objs.size:=fun⟨o,e⟩ q=>vN Ul (q▸e);have KO:=Mv O K.S (It.X.HT Ul) AC.L AC.cells;have X:=It.X.enter O (cc:=HS c scope s.heap.objs.size) (h':=h₁) (tk:=s.toks+([]:List (Str×Value)).length) (n:=j+1) Ul Rw keep;have st:=It.T.tN _ _ _ It.st (fun o e=>keep _ _ e) X.g.hi.fi;have Yo:∀{b},d7 c none γ b→b≠s.heap.objs.size→d7 c (some (HS c scope s.heap.objs.size)) γ b:=fun A q=>⟨A.L,A.cells,A.own,fun z hz=>by cases hz;exact q,A.P,A.FR⟩;have fin:=HR (px:=px) (pos:=pos) (iter:=iter) (scope:=scope) (R:=P s.heap.objs.size) O KO K.hj (K.Ah _) (K.Ai _) It.T It.len M5 It.h0 Od ⟨Fz.le_refl _,X,st,Yo It.aI (ne oI),Yo aD (ne oD),It.zI,zD,hl.elim fun n h=>h.elim fun sl e=>⟨n,sl,keep _ _ e⟩,rfl⟩ hv fun s' ae=>hQ s' ae _;obtain⟨⟨fp,Pt,W,hP⟩,_⟩:=It.T;exact codeAny_compStart_list fin (W.self 0 _ _ _ st fin)
theorem Am(O:c.Ok){pos':Pos}{use:Option (Value→Sem Unit)}(K:tT prog w c elt iter x ifs scope j rng AN cond ev)
 (I:bt c none fz s σ) {α:Type} {f:D→St→Mo α} {r:R α} (hv:((AN σ).bind (uN rng j cond ev)).bind f=some (r,σ')) {Q E:Value→Shared→Prop} (hE:rY c none fz r σ' E)
 (hQ:∀zs xS s' ae C D',CompEnd c fz ae s' xS C D' zs→f (.list zs) xS=some (r,σ')→compPost (model prog w) c.A E use Q (.ref D') C (.ok .next) s'):
 aH (model prog w) c.A (comprehension (.ListComp elt [⟨.Name x px,iter,ifs,0⟩] scope pos) scope c.env pos' (newList []) false (eval iter c.env) use) Q E s:=by
 refine wpAny_comprehension_free (g:=⟨.Name x px,iter,ifs,0⟩) (gs:=[]) rfl (fun x=>uS K.DO x) (qW (K.S.cells O)) K.S.kind (fun y hy hl=>xZ K.S.pj (hl▸hy)) ?_;refine K.hit _ (fun ds σ=>((au (mX cond ev j ds {σ with κ:=eO (j+1) none})).bind fun xs σ'=>.ok (.list xs) {σ' with κ:=[]}).bind f) fz s σ r σ' I ?_ _ _ hE fun ds ai cw gi sj I lS fy It h2=>?_
 ·rw[←hv,Mo.bind_assoc]
  refine congrArg _ (funext fun x=>funext fun σ=>?_);unfold uN;cases lg rng x<;>rfl
 ·rw[Mo.bind_assoc] at h2
  refine iw (bh h2) fun zs de h3 h4=>?_;refine dM ?_ (cS _);have QC:=ej cw.heap;have G:=bp.oq It.X.g.hi {cls:=.type "list",data:=.seq ([]:List Value).toArray 0} cw.toks;have jq:=It.X.grow (k:=none) O trivial G;have oI:=(It.T.nc 0 _ It.st).2;exact Mw O K ⟨jq,It.T,It.T.tN _ _ _ It.st (fun o e=>Heap.get?_push_of_some _ e) jq.g.hi.fi,It.aI,It.zI,It.h0,It.len⟩ (fun q=>oI.elim fun o e=>vN QC (q▸e)) (It.X.gb O QC) (It.X.g.hi.fh QC) (It.X.HT QC) ⟨0,#[],Heap.get?_push_size _ rfl⟩ h3
   fun s' ae C CE=>hQ zs _ s' ae C _ (CE.le fy) h4
end
theorem aw.put (O:c.Ok) (X:aw c k fz s σ γ) {f:FO} (e:s.heap.get? a=some ⟨f.cls,f.dict,f.data,sl⟩) (A:d7 c k γ a) (hz:fz a=none) (h0:c.h₀.get? a=none) (hf:f.cls≠.type "frame"):
 aw c k (fz.put a f) s σ γ:=by
 have le:=Fz.i0 f hz;have other:∀b,b≠a→fz b=none→(fz.put a f) b=none:=fun b hb h=>by rw[Fz.lM _ _ hb];exact h
 refine⟨⟨X.g.snap,X.g.kp,X.g.hi.put e A.P hf,Fz.le_trans X.g.le le,fun b h=>?_,X.g.gens,X.g.os,X.g.ns,X.g.cell,other _ (Ne.symm A.L) X.g.AL,fun x b h=>other _ (Ne.symm (A.cells x b h)) (X.g.A4 x b h),X.g.AM,fun i x kd g h1 h2=>?_,fun i g hg b hb=>?_,X.g.nodup,X.g.apart⟩,X.e,?_⟩
 ·by_cases q:b=a
  ·subst q;exact .inr h0
  ·rw[Fz.lM _ _ q] at h;exact X.g.new b h
 ·refine aq (X.g.vars i x kd g h1 h2) fun v hv r=>?_
  exact⟨v,hv,r.keep le fun _ _ _ h=>h⟩
 ·have m:=X.g.g9 i g hg b hb
  exact⟨m.new,other _ (fun q=>by subst q;exact A.own i g hg hb) m.fz,m.L,m.cells⟩
 ·cases k with
  |none=>trivial
  |some cc=>
   refine aq X.k.ns fun m n r=>?_;refine⟨other _ (Ne.symm (A.cc cc rfl)) X.k.El,⟨m,n,fun j y d h1 h2=>?_⟩,X.k.apart⟩;refine aq (r j y d h1 h2) fun v h3 h4=>?_;exact⟨v,h3,Rep.mono le _ _ h4⟩
theorem HP.turn(O:c.Ok)(L:HP c fz s σ γ D' ys zs)(aC:d7 c none γ C)(zC:fz C=none)(h0:c.h₀.get? C=none)(nc:qm s.heap C)(ne:D'≠C){h':Heap}(hk:∀b o,b≠C→s.heap.get? b=some o→h'.get? b=some o):HP c fz {s with heap:=h',toks:=tk} σ γ D' ys zs:=
 ⟨L.X.turn O aC zC h0 nc hk,L.hl.elim fun n h=>h.elim fun sl e=>⟨n,sl,hk D' _ ne e⟩,L.r,L.A,L.z,L.h0⟩
variable(prog w) in
noncomputable def mB(c:Ac)(e:Expr)(ev:St→Mo D):Prop:=∀(α:Type) (f:D→St→Mo α) fz s σ (r:R α) σ',bt c none fz s σ→(ev σ).bind f=some (r,σ')→∀(Q E:Value→Shared→Prop),rY c none fz r σ' E→
 (∀zs ai s' ae jg D' ys,fz.le ae→HP c ae s' ai jg D' ys zs→f (.list zs) ai=some (r,σ')→Q (.ref D') s')→aH (model prog w) c.A (eval e c.env) Q E s
theorem mB.v(O:c.Ok)(h:mB prog w c e ev):aj prog w c none e ev:=fun fz s σ r σ' I hv Q E P=>
 h D (fun d σ=>.ok d σ) fz s σ r σ' I (Mo.af.trans hv) Q E P.exc fun zs ai s' ae jg D' ys le L h2=>by
  have hl:=L.hl;refine kK hl fun n sl e=>?_;exact P.fin h2 (Fz.le_trans le (Fz.i0 _ L.z)) (L.X.put O (f:=.listOf ys n) e L.A L.z L.h0 (by simp[FO.listOf])).inv ⟨D',ys,n,rfl,Fz.dv _ _ _,a8.mono (Fz.i0 _ L.z) _ _ L.r⟩
theorem An(O:c.Ok){es:List Expr}(hs:eg prog w c none es evs)(hn:es.all noStar=true):mB prog w c (.List es pos) (fun σ=>(fe evs σ).bind jt):=fun α f fz s σ r σ' I h Q E hE go=>
 List_ ((j7 es evs hs hn).qS I (Mo.bind_assoc.symm.trans h) hE fun xs vs ai a9 av b8 az rs h2=>by
  by_cases gw:xs.length≤sizeLine
  ·unfold jt at h2
   rw[if_pos gw] at h2;refine eo az.x fun lU di=>?_;refine dM ?_ (by show vs.toArray.size≤sizeLine;rw[bY,rs.1.length];exact gw);have hn:=ej a9.heap;exact go xs ai _ av lU _ vs.toArray b8 ⟨di.grow (k:=none) O trivial (bp.oq di.g.hi _ a9.toks),⟨0,#[],Heap.get?_push_size _ rfl⟩,rs.1,di.gb O hn,di.g.hi.fh hn,di.HT hn⟩ h2
  ·unfold jt at h2
   rw[if_neg gw] at h2;exact nS h2)
section
variable{elt iter:Expr}{x:Str}{px pos:Pos}{ifs:List Expr}{scope:Scope}{j:Nat}{rng:Bool}{AN:St→Mo D}{cond:St→Mo Bool}{ev:St→Mo D}
theorem Ao(O:c.Ok)(K:tT prog w c elt iter x ifs scope j rng AN cond ev):mB prog w c (.ListComp elt [⟨.Name x px,iter,ifs,0⟩] scope pos) (fun σ=>(AN σ).bind (uN rng j cond ev)):=fun α f fz s σ r σ' I h Q E hE go=>by
 rw[eval_ListComp];refine Am (use:=none) O K I h hE fun zs xS s' ae C D' CE h2=>?_;refine Gj CE fun jg ys m e=>?_;exact⟨m,e.ns,fun h' nH=>go zs _ _ ae jg D' ys e.le (e.own.turn O (tk:=s'.toks) e.aC e.zC e.h0 (Ns.tP e.ns) e.ne fun b o hb q=>(nH.2 b hb).trans q) h2⟩
theorem DP(O:c.Ok)(K:tT prog w c elt iter x ifs scope j rng AN cond ev):aj prog w c none (.ListComp elt [⟨.Name x px,iter,ifs,0⟩] scope pos) (fun σ=>(AN σ).bind (uN rng j cond ev)):=
 (Ao O K).v O
end
theorem ri(O:c.Ok)(X:aw c k fz s σ γ)(h:a∈c.C.FR):c.C.B.get? a=none∧a≠c.C.P∧∃o es n,s.heap.get? a=some o∧o.data=.dict es n:=by
 rw[O.FR] at h;refine aq (jK.mp h) fun e he q=>?_;obtain⟨_,L,e1,e2,nb,o,es,n,e3,e4⟩:=X.g.vi O e he;rw[e1] at q;cases q;exact⟨nb,e2,o,es,n,e3,e4⟩
theorem TB(O:c.Ok)(X:aw c k fz s σ γ):c.C.P∉c.C.FR:=fun h=>(ri O X h).2.1 rfl
theorem vx(O:c.Ok)(X:aw c k fz s σ γ){o:Obj}(e:s.heap.get? a=some o)(d:o.data=.fields vs):a∉c.C.FR:=fun h=>by
 obtain⟨_,_,o',es,n,e',d'⟩:=ri O X h;rw[e] at e';cases e';rw[d] at d';cases d'
structure Q5(c:Ac)(k:Option Cc)(fz:Fz)(s:Shared)(γ:Nat→Option GS)(z:Addr):Prop where
 A:d7 c k γ z
 zf:fz z=none
 h0:c.h₀.get? z=none
 nc:lV c.C s.heap z
 rc:∃o vs,s.heap.get? z=some o∧o.data=.fields vs
theorem aw.turned(O:c.Ok)(X:aw c k fz s σ γ)(hZ:∀z∈Z,Q5 c k fz s γ z)(t:oG c.C.FR Z s.heap h'):aw c k fz {s with heap:=h',toks:=tk} σ γ:=by
 have h0:=fun z h=>(hZ z h).h0;refine X.Ex O (fun z h=>(hZ z h).A) h0 t ⟨fun b o h1 h2=>t.get (X.g.hi.base b o h1 h2) (fun h=>vN (O.qa (h0 _ h)) h1) fun h=>vN (ri O X h).1 h1,fun b f h=>?_,X.g.hi.M8,?_⟩
 ·refine eo (X.g.hi.fi b f h) fun sl g=>?_
  refine aq (t b _ g fun h'=>vN (hZ _ h').zf h) fun pY g' _=>?_;exact⟨pY,g'⟩
 ·refine aq X.g.hi.place.tab fun ps e r=>?_
  refine⟨ps,t.get e (fun h=>(hZ _ h).A.P rfl) (TB O X),r.imp_right fun r=>?_⟩;obtain⟨cr,r1,⟨c',oc,vs,tt,e1,e2,e3,e4⟩,r3⟩:=r;cases e1;exact⟨cr,r1,⟨cr,oc,vs,tt,rfl,t.get e2 (fun h=>(hZ _ h).nc cr ps e r1 rfl) (vx O X e2 e3),e3,e4⟩,r3⟩
theorem aw.qA(O:c.Ok)(X:aw c k fz s σ γ){o:Obj}(e:s.heap.get? a=some o)(d:o.data=.fields vs)(h0:c.h₀.get? a=none)(nc:lV c.C s.heap a):Q5 c k fz s γ a:=by
 have own:¬Ei s.heap a:=fun⟨o',e',d'⟩=>d' vs (aL (e.symm.trans e')▸d);have dict:∀{m},¬s.heap.Ns a m:=fun⟨o',es,ep,e',d',_⟩=>own ⟨o',e',fun vs q=>nomatch d'.symm.trans q⟩;refine⟨⟨fun q=>X.g.ns.elim fun m n=>dict (q▸n),fun x b h q=>?_,fun i g hg ha=>?_,fun z hz q=>?_,O.mq h0,vx O X e d⟩,?_,h0,nc,o,vs,e,d⟩
 ·refine iw (X.g.cell x b h) fun v o' e' d'=>?_
  exact own ⟨o',q▸e',fun vs q=>nomatch d'.symm.trans q⟩
 ·refine kK (X.g.AM i g hg) fun x kd hn=>?_
  refine aq (X.g.vars i x kd g hn hg) fun v _ r=>?_;exact own (r.own a ha)
 ·subst hz
  refine aq X.k.ns fun m n _=>?_;exact dict (q▸n)
 ·cases q:fz a with
  |none=>rfl
  |some f=>
   refine eo (X.g.hi.fi a f q) fun sl g=>?_;exact absurd ((congrArg Obj.data (aL (e.symm.trans g))).symm.trans d) (f.nf vs)
noncomputable def qn(c:Ac)(h:Heap)(e:Addr)(x:X):Prop:=Exc c.C c.h₀ h e x none∨Exc c.C c.h₀ h e x (some .none)∨Exc c.C c.h₀ h e x (some (rawInt c.L))
theorem uM.toS(f:uM c.C c.h₀ h e x):qn c h e x:=by
 rcases f with f|f
 ·exact .inl f
 ·exact .inr (.inl f)
theorem rj{base h:Heap}:∀{l:List Env},(∀e∈l,e.scope.kind≠.module∧∃L o,e.frame=some L∧base.get? L=none∧h.get? L=some o∧∀vs,o.data≠.fields vs)→h.FunFrames base l
 |[],_=>trivial
 |e::l,f=>⟨(f e (by simp)).1,(f e (by simp)).2,rj fun e' he=>f e' (by simp[he])⟩
noncomputable def j8(c:Ac)(h:Heap)(Z:List Addr):Heap:=only h fun b=>!(c.C.FR.contains b)&&!(Z.contains b)
theorem my{h:Heap}(hf:b∉c.C.FR)(hz:b∉Z):(j8 c h Z).get? b=h.get? b:=by
 unfold j8;rw[lJ];simp[hf,hz]
theorem pE(h:Heap)(Z:List Addr):(j8 c h Z).StaysIn h:=fun b o e=>by
 unfold j8 at e;rw[lJ] at e
 split at e
 ·exact e
 ·cases e
theorem mz(hz:b∈Z):(j8 c h Z).get? b=none:=by
 unfold j8;rw[lJ];simp[hz]
theorem oR(O:c.Ok)(X:aw c k fz s σ γ)(Z:List Addr):s.heap.FunFrames (j8 c s.heap Z) (c.env::c.outer):=rj fun e he=>by
 obtain⟨a,L,b,d,nb,o,es,n,e1,e2⟩:=X.g.vi O e he;refine⟨a,L,o,b,?_,e1,fun vs q=>by rw[e2] at q;cases q⟩;have:L∈c.C.FR:=by rw[O.FR];exact jK.mpr ⟨e,he,b⟩
 unfold j8;rw[lJ];simp[this]
theorem X.vV.keep{h h':Heap}{x:X}(a:x.vV h a0)(k:∀b o,h.get? b=some o→o.data≠.freed→(∀vs,o.data≠.fields vs)→(∀es n,o.data≠.dict es n)→h'.get? b=some o):x.vV h' a0:=by
 cases x with
 |mU m=>
  obtain⟨t,tk,n,sl,e,g⟩:=a;exact⟨t,tk,n,sl,e,k t _ g nofun nofun nofun⟩
 |_=>trivial
theorem yJ(O:c.Ok)(X:aw c k fz s σ γ){x:Mine.Internal.X}{oe:Obj}(he:e∈Z)
 (hZ:∀z∈Z,Q5 c k fz s γ z) (Oe:oe.cls=x.cls c.C) (Um:x.vV s.heap a0)
 (N:Heap.NotedW (j8 c s.heap Z) (c.env::c.outer) e oe.cls a0 fl s.heap h'):
 aw c k fz {s with heap:=h'} σ γ∧Exc c.C c.h₀ h' e x (some fl):=by
 obtain⟨n1,n2,⟨oe',vL,T,oT,ts,t1,⟨t2,t3⟩,t4,t5,t6,t7,t8,t9,t10⟩,n4⟩:=N;have Yp:∀{b},b∈c.C.FR→∃o es n,s.heap.get? b=some o∧o.data=.dict es n:=fun hf=>(ri O X hf).2.2;have tn:oG c.C.FR Z s.heap h':=fun b o hb hz=>by
  by_cases hf:b∈c.C.FR
  ·refine yk (Yp hf) fun o' es n e' d'=>?_
   cases aL (hb.symm.trans e');refine eo (n4 b o hb fun vs q=>nomatch d'.symm.trans q) fun sl g=>?_;exact⟨sl,g,.inl hf⟩
  ·exact⟨o.slots,n1 b o (by rw[my hf hz];exact hb),.inr rfl⟩
 have QD:∀a,(∀cr,(∃o vs,s.heap.get? cr=some o∧o.data=.fields vs)→cr∉Z→cr≠a)→lV c.C h' a:=fun a ha cr ps g hp=>by
  refine aq X.g.hi.place.tab fun Vc e' r=>?_;have ep:Vc=ps:=by
   have g0:=(tn.get e' (fun h=>(hZ _ h).A.P rfl) (TB O X)).symm.trans g
   injection g0 with g0;injection g0 with _ _ g0 _;injection g0
  subst ep;refine ha cr ?_ fun hz=>(hZ _ hz).nc cr Vc e' hp rfl;rcases r with r|⟨cr',r1,⟨c',oc,vs,tt,e1,e2,e3,e4⟩,_⟩
  ·rw[r] at hp;cases congrArg Array.toList hp
  ·rw[r1] at hp
   cases congrArg Array.toList hp;cases e1;exact⟨oc,vs,e2,e3⟩
 have TF:T∉c.C.FR:=fun hf=>by
  refine yk (Yp hf) fun o' es n e' d'=>?_;refine eo (n4 T o' e' fun vs q=>nomatch d'.symm.trans q) fun sl g=>?_;cases aL (t8.symm.trans g);exact nomatch t9.symm.trans d'
 have T0:c.h₀.get? T=none:=by
  by_cases hz:T∈Z
  ·exact(hZ _ hz).h0
  ·rw[my TF hz] at t6
   exact X.HT t6
 refine⟨X.turned O (tk:=s.toks) hZ tn,oe',vL,⟨(hZ e he).h0,QD e (fun cr _ hz q=>hz (q▸he)),t1,t2.trans Oe,t4,a0,t3,Um.keep fun b o hb _ nf nd=>tn.get hb (fun hz=>?_) fun hf=>?_⟩,T,oT,ts,t5,⟨t7,T0,QD T fun cr ⟨o,vs,e',d'⟩ hz q=>?_,t8,t9⟩,t10⟩
 ·refine iw ((hZ b hz).rc) fun o' vs e' d'=>?_
  exact nf vs (aL (hb.symm.trans e')▸d')
 ·refine yk ((ri O X hf).2.2) fun o' es n e' d'=>?_
  exact nd es n (aL (hb.symm.trans e')▸d')
 ·subst q
  rw[my TF hz] at t6;exact vN t6 e'
theorem note{A:Around}(AO:A.frames=some (c.env::c.outer))(O:c.Ok)(X:aw c k fz s σ γ)(F:qn c s.heap e x)
 (h:∀s',aw c k fz s' σ γ→Exc c.C c.h₀ s'.heap e x (some (rawInt c.L))→Q () s'):aH M A (noteFrame (.ref e) c.env) Q E s:=by
 rcases F with ⟨oe,vs,a,e6⟩|⟨oe,vs,a,T,oT,ts,t1,t,t7⟩|F
 ·refine aq a.args fun a0 e4 e5=>?_
  unfold noteFrame;simp only[O.frame];refine aB (cE a.get a.data e6 ?_);refine bE (decide_eq_false (by decide)) ?_;refine wpAny_entryW (L:=c.L) AO (oR O X [e]) O.frame a.get (pE _ _) (mz (.head _)) a.data (fN.mp e6).1 e4 fun h' N=>?_;exact(yJ O X (.head _) (fun z hz=>aK.mp hz▸X.qA O a.get a.data a.new a.nc) a.cls e5 N).elim (h _)
 ·refine aq a.args fun a0 e4 e5=>?_
  refine wpAny_noteFrame_onW (base:=j8 c s.heap [e,T]) (cls:=oe.cls) (a0:=a0) AO (oR O X _) O.frame ⟨oe,vs,T,oT,ts,a.get,⟨rfl,e4⟩,a.data,t1,mz (.tail _ (.head _)),t.ne,t.get,t.data,t7⟩ (pE _ _) (mz (.head _)) fun h' N=>?_;exact(yJ O X (.head _) (pz (X.qA O a.get a.data a.new a.nc) (X.qA O t.get t.data t.new t.nc)) a.cls e5 N).elim (h _)
 ·obtain⟨oe,vs,a,T,oT,ts,t1,t,t7⟩:=id F
  refine aq a.args fun a0 e4 e5=>?_;exact wpAny_noteFrame_againW (base:=c.h₀) (cls:=oe.cls) (a0:=a0) O.frame ⟨oe,vs,T,oT,ts,a.get,⟨rfl,e4⟩,a.data,t1,t.new,t.ne,t.get,t.data,t7⟩ (h s X F)
theorem DQ(O:c.Ok)(X:aw c k fz s σ γ){oe oT XO:Obj}{h':Heap}(a:JA c.C c.h₀ s.heap e x oe vs)(t1:vs[1]?=some (.ref T))(t:Y3 c.C c.h₀ s.heap e T oT ts)
 (other:∀b,b≠T→h'.get? b=s.heap.get? b) (g:h'.get? T=some XO) (d:XO.data=.fields Yq) (t3:Yq[3]?=some m):aw c k fz {s with heap:=h'} σ γ∧Exc c.C c.h₀ h' e x (some m):=by
 have Z:=X.qA O t.get t.data t.new t.nc;have nc:∀b,lV c.C s.heap b→lV c.C h' b:=fun b n cr ps g hp=>n cr ps ((other _ (Ne.symm Z.A.P)).symm.trans g) hp;refine aq a.args fun a0 e4 e5=>?_;exact⟨X.turned O (tk:=s.toks) (Z:=[T]) (fun z hz=>aK.mp hz▸Z) fun b o hb hz=>⟨o.slots,(other b fun q=>hz (q▸.head _)).trans hb,.inr rfl⟩,
  oe,vs,⟨a.new,nc e a.nc,(other e (Ne.symm t.ne)).trans a.get,a.cls,a.data,a0,e4,e5.keep fun b o hb _ nf _=>(other b fun q=>nf ts (aL ((q▸hb).symm.trans t.get)▸t.data)).trans hb⟩,T,XO,Yq,t1,⟨t.ne,t.new,nc T t.nc,g,d⟩,t3⟩
theorem kr(O:c.Ok)(X:aw c k fz s σ γ)(F:Exc c.C c.h₀ s.heap e x (some m))(fr:Option Addr)
 (h:∀s',aw c k fz s' σ γ→Exc c.C c.h₀ s'.heap e x (some (fr.elim .none fun f=>rawInt f))→Q () s'):aH M A (setFlight (.ref e) fr) Q E s:=by
 obtain⟨oe,vs,a,T,oT,ts,t1,t,t7⟩:=F;have Un:3<ts.size:=(fN.mp t7).1;refine aB (cE a.get a.data t1 ?_);refine cT (decide_eq_true (show(Value.ref T !=Value.none)=true from by simp)) ?_;exact wpAny_setField t.get t.data Un ((DQ O X a t1 t (fun b hb=>Heap.get?_update_other _ _ (Ne.symm hb)) (Heap.get?_update_self _ t.get (Obj.isFreed_of_fields (Obj.data_mapFields t.data _))) (Obj.data_mapFields t.data _) (by simp[Un])).elim (h _))
theorem yK(O:c.Ok)(X:aw c k fz s σ γ)(F:Exc c.C c.h₀ s.heap e x (some m))
 (h:∀s',aw c k fz s' σ γ→Exc c.C c.h₀ s'.heap e x (some (rawInt c.L))→E (.ref e) s'):gN M A c.env E (.ref e) s:=by
 obtain⟨oe,vs,a,T,oT,ts,t1,_⟩:=id F;refine aB (cE a.get a.data t1 ?_);refine bE (decide_eq_false (by simp)) ?_;rw[O.frame];exact kr O X F (some c.L) h
theorem jj.forget(G:jj c fz s γ)(h:∀j g,jg j=some g→γ j=some g):jj c fz s jg:=
 ⟨G.snap,G.kp,G.hi,G.le,G.new,G.gens,G.os,G.ns,G.cell,G.AL,G.A4,fun i g hg=>G.AM i g (h i g hg),fun i x kd g h1 h2=>G.vars i x kd g h1 (h i g h2),fun i g hg=>G.g9 i g (h i g hg),fun i g hg=>G.nodup i g (h i g hg),fun i j g g' iv h1 h2=>G.apart i j g g' iv (h i g h1) (h j g' h2)⟩
theorem St.Mx(h:¬i<σ.ρ.length):σ.put i x=σ:=by
 unfold St.put;rw[List.set_eq_of_length_le (dJ h)]
theorem zH{g:GS}(e:Er σ γ)(G:jj c fz s' (upd γ i g)):∃jg,jj c fz s' jg∧Er (σ.put i g.erase) jg∧∀j g',jg j=some g'→(upd γ i g) j=some g':=by
 by_cases h:i<σ.ρ.length
 ·exact⟨_,G,e.put h,fun _ _ h=>h⟩
 ·have hn:γ i=none:=by
   cases q:γ i with
   |none=>rfl
   |some g'=>
    have:=e i;rw[q] at this;exact absurd (St.tG this) h
  have hle:∀j g',γ j=some g'→(upd γ i g) j=some g':=fun j g' hj=>by
   by_cases q:j=i
   ·subst q;rw[hn] at hj;cases hj
   ·rw[v8 _ _ q];exact hj
  exact⟨γ,G.forget hle,by rw[St.Mx h];exact e,hle⟩
noncomputable def isVar(kd:NameKind):Bool:=kd==.local||kd==.cell
theorem Ap(h:isVar kd=true):kd=.local∨kd=.cell:=by
 unfold isVar at h
 simpa using h
theorem vy(O:c.Ok)(d9:∀y v,¬c.snap y v)(X:aw c none fz s σ γ){g:GS}(hn:c.env.scope.names[i]?=some (x,kd))(hk:isVar kd=true)
 (r:mw c.C.EC fz s.heap g v) (m:∀a∈g.addrs,mZ c fz a∧d7 c none γ a) (nd:g.addrs.Nodup) (h:∀s',bt c none fz s' (σ.put i g.erase)→Q () s'):aH M A (gK c.env x v) Q E s:=
 yC O d9 X.g hn (Ap hk) r (fun a ha=>(m a ha).1) nd (fun j g' _ hg a ha=>(m a ha).2.own j g' hg) fun s' I'=>(zH X.e I').elim fun jg P=>h s' ⟨jg,P.1,P.2.1,trivial⟩
theorem rk(O:c.Ok)(d9:∀y v,¬c.snap y v)(I:bt c none fz s σ)(hn:c.env.scope.names[i]?=some (x,kd))(hk:isVar kd=true)
 (r:Rep c.C.EC fz d v) (h:∀s',bt c none fz s' (σ.put i (.val d))→Q () s'):aH M A (gK c.env x v) Q E s:=
 I.x.elim fun γ X=>vy O d9 X hn hk (g:=.val d) r (fun a ha=>nomatch ha) .nil h
theorem Aq(O:c.Ok)(d9:∀y v,¬c.snap y v)(hn:c.env.scope.names[i]?=some (x,kd))(hk:isVar kd=true)
 (L:HP c fz s σ γ D' ys zs) (h:∀s',bt c none fz s' (σ.put i (.own zs))→Q () s'):aH M A (gK c.env x (.ref D')) Q E s:=
 vy O d9 L.X hn hk (g:=.own D' zs) ⟨rfl,ys,L.hl,L.r⟩ (fun a ha=>aK.mp ha▸⟨⟨L.h0,L.z,L.A.L,L.A.cells⟩,L.A⟩) (.cons nofun .nil) h
structure SQ(c:Ac)(fz:Fz)(r:R Fl)(σ':St)(Q:Flow→Shared→Prop)(E:Value→Shared→Prop):Prop where
 next:r=.ok .next→∀s' ae,fz.le ae→bt c none ae s' σ'→Q .next s'
 ret:∀d,r=.ok (.ret d)→∀v s' ae,fz.le ae→bt c none ae s' σ'→Rep c.C.EC ae d v→Q (.ret v) s'
 exc:∀x,r=.exc x→∀ea s' ae,fz.le ae→bt c none ae s' σ'→qn c s'.heap ea x→E (.ref ea) s'
theorem SQ.le(q:SQ c fz r σ' Q E)(le:fz.le ae):SQ c ae r σ' Q E:=
 ⟨fun h s' f l=>q.next h s' f (Fz.le_trans le l),fun d h v s' f l=>q.ret d h v s' f (Fz.le_trans le l),fun x h ea s' f l=>q.exc x h ea s' f (Fz.le_trans le l)⟩
theorem SQ.fin(q:SQ c fz r σ' Q E)(h:Mo.ok .next σ=some (r,σ'))(le:fz.le ae)(I:bt c none ae s' σ):Q .next s':=by
 cases h;exact q.next rfl s' ae le I
theorem SQ.MU(q:SQ c fz r σ' Q E):rY c none fz r σ' E:=fun x h ea s' f l I F=>q.exc x h ea s' f l I F.toS
theorem SQ.vz(h:∀s' ae,fz.le ae→bt c none ae s' σ'→Q .next s'):SQ c fz (.ok .next) σ' Q E:=⟨fun _=>h,fun d hd=>(nomatch hd),fun x hx=>(nomatch hx)⟩
theorem SQ.Ey(h:∀v s' ae,fz.le ae→bt c none ae s' σ'→Rep c.C.EC ae d v→Q (.ret v) s'):SQ c fz (.ok (.ret d)) σ' Q E:=⟨fun hd=>(nomatch hd),fun d hd=>by cases hd;exact h,fun x hx=>(nomatch hx)⟩
theorem SQ.rZ(h:∀ea s' ae,fz.le ae→bt c none ae s' σ'→qn c s'.heap ea x→E (.ref ea) s'):SQ c fz (.exc x) σ' Q E:=⟨fun hd=>(nomatch hd),fun d hd=>(nomatch hd),fun x hx=>by cases hx;exact h⟩
variable(prog w) in
noncomputable def TG(c:Ac)(t:Sem Flow)(ex:St→Mo Fl):Prop:=∀fz s σ r σ',bt c none fz s σ→ex σ=some (r,σ')→∀(Q:Flow→Shared→Prop) (E:Value→Shared→Prop),SQ c fz r σ' Q E→aH (model prog w) c.A t Q E s
variable(prog w) in
noncomputable abbrev du(c:Ac)(st:Stmt)(ex:St→Mo Fl):Prop:=TG prog w c (exec st c.env) ex
variable(prog w) in
noncomputable abbrev i6(c:Ac)(Vg:List Stmt)(ex:St→Mo Fl):Prop:=TG prog w c (execs Vg c.env) ex
theorem Ox:i6 prog w c [] (fun σ=>.ok .next σ):=fun fz s σ r σ' I h Q E q=>gX (q.fin h (Fz.le_refl _) I)
theorem wA{st:Stmt}{Vg:List Stmt}{e1 e2:St→Mo Fl}(h1:du prog w c st e1)(h2:i6 prog w c Vg e2):i6 prog w c (st::Vg) (fun σ=>(e1 σ).bind fun f σ=>match f with
 |.next=>e2 σ
 |.ret d=>.ok (.ret d) σ):=fun fz s σ r σ' I h Q E q=>by
 refine iH ?_;rcases Mo.bind_some h with ⟨f,ai,h3,h4⟩|⟨x,h3,rfl⟩
 ·cases f with
  |next=>exact h1 fz s σ _ _ I h3 _ _ (.vz fun a9 av b8 az=>h2 av a9 ai r σ' az h4 Q E (q.le b8))
  |ret d=>
   cases h4;exact h1 fz s σ _ _ I h3 _ _ (.Ey (q.ret d rfl))
 ·exact h1 fz s σ _ _ I h3 _ _ (.rZ (q.exc _ rfl))
theorem TH(h:aj prog w c none e ev):du prog w c (.Return (some e) pos) (fun σ=>(ev σ).bind fun d σ=>.ok (.ret d) σ):=fun fz s σ r σ' I hv Q E q=>
 wpAny_Return_some (h.qS I hv q.MU fun d v ai a9 av le az xO h2=>by cases h2;exact q.ret d rfl v a9 av le az xO)
theorem WA(ht:gk prog w c none t te)(h1:i6 prog w c b1 e1)(h2:i6 prog w c b2 e2):
 du prog w c (.If t b1 b2 pos) (fun σ=>(te σ).bind fun x σ=>if x then e1 σ else e2 σ):=fun fz s σ r σ' I hv Q E q=>
 wpAny_If (ht.qS I hv q.MU fun x v ai a9 av b8 az e h4=>by
  cases (show v=x from e);cases x
  ·exact h2 av a9 ai r σ' az h4 Q E (q.le b8)
  ·exact h1 av a9 ai r σ' az h4 Q E (q.le b8))
noncomputable def mC(e:Expr):Bool:=e.ctorIdx !=8&&e.ctorIdx !=9&&e.ctorIdx !=10
theorem pF(h:mC e=true):swapsWith e t n env=pure false:=by
 cases e<;>first|rfl|exact absurd h bF
theorem J5(O:c.Ok)(d9:∀y v,¬c.snap y v)(hn:c.env.scope.names[i]?=some (x,kd))(hk:isVar kd=true)(hc:mC e=true)(h:aj prog w c none e ev):
 du prog w c (.Assign [.Name x xp] e pos) (fun σ=>(ev σ).bind fun d σ=>.ok .next (σ.put i (.val d))):=fun fz s σ r σ' I hv Q E q=>
 wpAny_Assign_Name (h.qS I hv q.MU fun d v ai a9 av le az xO h2=>rk O d9 az hn hk xO fun s' I'=>q.fin h2 le I') (pF hc)
theorem rn{e:Expr}{ev:St→Mo D}{i:Nat}{x:Str}{kd:NameKind}{xp pos:Pos}(O:c.Ok)(d9:∀y v,¬c.snap y v)(hn:c.env.scope.names[i]?=some (x,kd))(hk:isVar kd=true)(hs:swapsWith e (some (.Name x xp)) pos.line c.env=pure false)(h:mB prog w c e ev)
 {f:D→Slot} (hf:∀zs,f (.list zs)=.own zs):du prog w c (.Assign [.Name x xp] e pos) (fun σ=>(ev σ).bind fun d σ=>.ok .next (σ.put i (f d))):=fun fz s σ r σ' I hv Q E q=>
 wpAny_Assign_Name (h Fl _ fz s σ r σ' I hv _ _ q.MU fun zs ai a9 av lU D' ys le L h2=>Aq O d9 hn hk L fun s' I'=>q.fin (by rw[hf] at h2;exact h2) le I') hs
theorem x5{elt iter:Expr}{y:Str}{py sq:Pos}{ifs:List Expr}{scope:Scope}{j:Nat}{rng:Bool}{AN:St→Mo D}{cond:St→Mo Bool}{ev:St→Mo D}{i:Nat}{x:Str}{kd:NameKind}{xp pos:Pos}(O:c.Ok)(d9:∀y v,¬c.snap y v)
 (hn:c.env.scope.names[i]?=some (x,kd)) (hk:isVar kd=true) {b:Bool} (hs:swapsWith (.ListComp elt [⟨.Name y py,iter,ifs,0⟩] scope sq) (some (.Name x xp)) pos.line c.env=pure b) (K:tT prog w c elt iter y ifs scope j rng AN cond ev)
 {f:D→Slot} (hf:∀zs,f (.list zs)=.own zs):du prog w c (.Assign [.Name x xp] (.ListComp elt [⟨.Name y py,iter,ifs,0⟩] scope sq) pos) (fun σ=>((AN σ).bind (uN rng j cond ev)).bind fun d σ=>.ok .next (σ.put i (f d))):=by
 cases b with
 |false=>exact rn O d9 hn hk hs (Ao O K) hf
 |true=>
  intro fz s σ r σ' I hv Q E q;rw[exec_Assign_Name_used _ _ _ _ hs];refine aB (cA (aB ?_));refine aB (Am (use:=some (assign (.Name x xp) c.env)) O K I hv q.MU fun zs xS s' ae C D' CE h2=>?_);rw[hf] at h2;refine Gj CE fun jg ys m CE=>?_;have L:=CE.own;have lC:∀b∈[C],d7 c none jg b:=fun b hb=>aK.mp hb▸CE.aC;have Y':=L.X.zB O lC;have XP:(c.re ae s' [C]).h₀.get? D'=none:=by
   show(only s'.heap (fx c ae s' [C])).get? D'=none;rw[lJ,lK L.h0 (fun h=>CE.ne (aK.mp h)) L.z (L.hl.elim fun n h=>h.elim fun sl e=>kU e fun vs q=>nomatch q)];rfl
  refine iB (yC (c:=c.re ae s' [C]) (L.X.Eu O lC) d9 Y'.g hn (Ap hk) (g:=.own D' zs) ⟨rfl,ys,L.hl,L.r⟩ (fun a ha=>aK.mp ha▸⟨XP,L.z,L.A.L,L.A.cells⟩) (.cons nofun .nil) (fun j g' hj hg a ha=>aK.mp ha▸L.A.own j g' hg) fun pZ Ry=>?_);refine q9 (zH Y'.e Ry) fun XQ G'' Pz _=>?_;have Z:aw (c.re ae s' [C]) none ae pZ _ XQ:=⟨G'',Pz,trivial⟩;refine yk CE.ns fun o es ep eC rC=>?_;refine ka (L.X.vv O lC Z C (.head _) o eC) fun k1 k2=>?_;have Yr:pZ.heap.Ns C m:=⟨o,es,ep,k1,rC⟩;exact⟨m,Yr,fun h' nH=>aF (aF (q.fin h2 CE.le ((L.X.r9 O lC Z).turn O (tk:=pZ.toks) k2 (L.X.J2 Z C (.head _) o eC CE.zC) CE.h0 (Ns.tP Yr) fun b o hb e=>(nH.2 b hb).trans e).inv))⟩
end Mine.Internal
namespace Mine.Internal
open PySem PyProof.Rows
variable{prog:Program}{w:World}{A:Around}{E:Value→Shared→Prop}{s:Shared}
theorem HU:∃n',Obj.mapSeq f ⟨.type "list",none,.seq vs n,sl⟩=⟨.type "list",none,.seq (f vs) n',sl⟩:=by
 refine⟨if(f vs).size=vs.size then n else n+1,?_⟩;simp[Obj.mapSeq]
theorem ft{h:Heap}(hl:bw h l vs)(f:Array Value→Array Value):bw (h.update l (Obj.mapSeq f)) l (f vs):=by
 refine kK hl fun n sl e=>?_;refine eo (HU (f:=f) (vs:=vs) (n:=n) (sl:=sl)) fun n' q=>?_;exact⟨n',sl,by rw[Heap.get?_update_self _ e (by rw[q];rfl),q]⟩
theorem DR:isSeqSlot (some (.builtin "list.__iadd__"))=true:=by decide +kernel
theorem Ez {vs us:Array Value} (ha:bw s.heap a vs) (hb:s.heap.get? b=some ⟨.type "list",none,.seq us n,sl⟩) (gw:vs.size+us.size≤sizeLine)
 (hQ:∀h',bw h' a (vs++us)→Heap.SameBut a s.heap h'→Q (.ref a) {s with heap:=h'}):aH (model prog w) A (inplaceOp .Add (.ref a) (.ref b)) Q E s:=by
 have CM:=ha;refine kK CM fun na Ys ea=>?_;have Ta:s.TypeIs (.ref a) "list":=⟨_,ea,rfl⟩;have Tb:s.TypeIs (.ref b) "list":=⟨_,hb,rfl⟩;refine aQ ?_;have hfi:fillsInplaceSlot (.type "list") "add" (Operator.Add==.Add)=pure false:=by
  show(gO (.type "list") (dunderI "add")>>=fun fi=>pure (fi.isSome&&!isSeqSlot fi))=pure false;rw[iD.lookup];rfl
 have hsi:seqSlot? (.type "list") (dunderI "add")=pure (some (.builtin "list.__iadd__")):=PySem.seqSlot_of iD.lookup DR;refine aB (wpAny_typeOf Ta (aB (gC hfi ?_)));refine bE (decide_eq_false bF) ?_;refine aB (wpAny_binaryOp1_none (nm:="add") Ta Tb noFill_list_add ?_);refine aB (gC hsi ?_);refine aB (fR ?_);refine cH iD Ta PySem.F.entry_list_iadd ?_ (PySem.F.args_list_iadd_2 _ _);have Si:(vs++us).size≤sizeLine+1:=by rw[Array.size_append];exact aZ (cV gw)
 have hs1:vs.size≤sizeLine:=(cL gw);have hs0:¬(!vs.isEmpty&&Builtin.List.listTooLong (vs.size+us.size))=true:=by
  simp[Builtin.List.listTooLong];intro _;exact gw
 have fin:∃v,Fin.done (Flow.ret (.ref a))=.done (.ret v)∧Q v {s with heap:=s.heap.update a (Obj.mapSeq fun x=>x++us)}:=⟨_,rfl,hQ _ (ft ha _) (Heap.SameBut.update ..)⟩;obtain⟨hp,g,d,tk,os⟩:=s;have f1:=AutoSeq1.idx_int;have f2:=AutoSeq1.sub_tuple_tuple;have f3:=AutoSeq1.sub_list_list;have f4:=AutoSeq1.sub_tuple_list;have f5:=AutoSeq1.sub_list_tuple
 wp_walk using (fH ea rfl (hz:=hs1) (_hz':=Si)),wpAny_loadPart' ea,wpAny_loadPart' hb
 exact fin
theorem DS{vs:Array Value}(ha:bw s.heap a vs)(gw:vs.size≤sizeLine)(hQ:∀h',bw h' a vs.reverse→Heap.SameBut a s.heap h'→Q .none {s with heap:=h'}):
 aH (model prog w) A (call (.builtin "list.reverse") [.ref a]) Q E s:=by
 have CM:=ha;refine kK CM fun na Ys ea=>?_;refine cH PySem.F.slot_list_reverse ⟨_,ea,rfl⟩ PySem.F.entry_list_reverse ?_ (PySem.F.args_list_reverse_1 _);have Si:vs.reverse.size≤sizeLine+1:=by rw[Array.size_reverse];exact aZ (cV gw)
 have fin:∃v,Fin.done (Flow.ret Value.none)=.done (.ret v)∧Q v {s with heap:=s.heap.update a (Obj.mapSeq fun x=>x.reverse)}:=⟨_,rfl,hQ _ (ft ha _) (Heap.SameBut.update ..)⟩;obtain⟨hp,g,d,tk,os⟩:=s;have f1:=AutoSeq1.idx_int;have f2:=AutoSeq1.sub_tuple_tuple;have f3:=AutoSeq1.sub_list_list;have f4:=AutoSeq1.sub_tuple_list;have f5:=AutoSeq1.sub_list_tuple
 wp_walk using (fH ea rfl (hz:=gw) (_hz':=Si)),wpAny_loadPart' ea
 exact fin
theorem DU{vs:Array Value}{k:Int}(ha:bw s.heap a vs)(h0:0≤k)(xr:k<2^63)(hn:k<vs.size)(hQ:∀h',bw h' a (vs.setIfInBounds k.toNat v)→Heap.SameBut a s.heap h'→Q () {s with heap:=h'}):
 aH (model prog w) A (setItem (.ref a) (.int k t) v) Q E s:=by
 have CM:=ha;refine kK CM fun na Ys ho=>?_;have hl:s.heap.IsList a vs:=⟨_,ho,rfl,na,rfl⟩;unfold setItem
 try with_reducible refine aQ ?_
 first|refine aB (aF ?_)|skip
 refine aB (wpAny_sequenceKey hl.typeIs (by decide) ?_);refine aB (cN (name:=Str.ofString "__setitem__") hl.typeIs slot_list_setitem
  (cH slot_list_setitem hl.typeIs entry_list_setitem ?_ (args_list_setitem _ _ _)))
 show aH _ _ (Builtin.List.listSubscript? (.int k t)>>=_) _ _ s;refine aB (wpAny_listSubscript_int (fitsIndex_of h0 xr) ?_);clear xr;obtain⟨j,rfl⟩:=hV h0;have hj:j<vs.size:=by lia
 have AF:vs[j]?=some vs[j]:=bC hj;refine aB (aB (wpAny_seqItemAt ho rfl (aF ?_)));rw[AF];refine aB (wpAny_setSeqItemAt ho rfl ?_);have Uo:bw (s.heap.update a (Obj.mapSeq (·.setIfInBounds j v))) a (vs.setIfInBounds j v):=ft ha _
 first
  |exact aB (aF (aF ⟨.none,rfl,aF (hQ _ Uo (Heap.SameBut.update ..))⟩))
  |exact aF ⟨.none,rfl,aF (hQ _ Uo (Heap.SameBut.update ..))⟩
end Mine.Internal
namespace Mine.Internal
open PySem PyProof.Rows
variable{prog:Program}{w:World}{c:Ac}{k:Option Cc}{fz ae:Fz}{s s':Shared}{σ σ':St}{γ jg:Nat→Option GS}
noncomputable def wo(γ:Nat→Option GS)(i:Nat):Nat→Option GS:=fun j=>if j=i then none else γ j
theorem kV{i j:Nat}{g:GS}(h:wo γ i j=some g):j≠i∧γ j=some g:=by
 unfold wo at h
 split at h
 ·cases h
 ·exact⟨by assumption,h⟩
theorem St.Ar{i:Nat}(j:Nat):(σ.hide i).get j=if j=i then none else σ.get j:=by
 delta St.get St.hide;simp only[jT]
 by_cases q:j=i
 ·subst q
  simp
  split<;>rfl
 ·have:¬i=j:=fun e=>q e.symm
  simp[this,q]
theorem Er.hide{i:Nat}(e:Er σ γ):Er (σ.hide i) (wo γ i):=fun j=>by
 rw[St.Ar];unfold wo
 by_cases q:j=i
 ·simp[q]
 ·simp[q,e j]
theorem fo.fun{h:Heap}{x:Str}{v v':Value}(a:fo c h x v)(b:fo c h x v'):v=v':=by
 rcases a with ⟨a1,m,n,a6⟩|⟨a1,p,a2,o,a3,a4⟩
 ·rcases b with ⟨b1,m',n',b6⟩|⟨b1,_⟩
  ·exact aL ((a6.symm.trans (uw n n' x)).trans b6)
  ·cases a1.symm.trans b1
 ·rcases b with ⟨b1,_⟩|⟨b1,p',b2,o',b3,b4⟩
  ·cases a1.symm.trans b1
  ·cases aL (a2.symm.trans b2)
   cases aL (a3.symm.trans b3)
   injection a4.symm.trans b4 with e
   exact aL e
structure ke(c:Ac)(fz:Fz)(s:Shared)(γ:Nat→Option GS)(x:Str)(v:Value)(g:GS):Prop where
 var:fo c s.heap x v
 rep:mw c.C.EC fz s.heap g v
 g9:∀a∈g.addrs,mZ c fz a
 gb:∀a∈g.addrs,d7 c none γ a
 nodup:g.addrs.Nodup
theorem aw.hide(O:c.Ok)(X:aw c none fz s σ γ){i:Nat}{o:Slot}{x:Str}{kd:NameKind}(hn:c.env.scope.names[i]?=some (x,kd))(h:σ.get i=some o):∃v g,(γ i=some g∧g.erase=o)∧aw c none fz s (σ.hide i) (wo γ i)∧ke c fz s (wo γ i) x v g:=by
 refine aq (X.e.some h) fun g hg he=>?_;refine aq (X.g.vars i x kd g hn hg) fun v hv r=>?_;refine⟨v,g,⟨hg,he⟩,⟨X.g.forget fun j g' hj=>(kV hj).2,X.e.hide,trivial⟩,hv,r,X.g.g9 i g hg,fun a ha=>?_,X.g.nodup i g hg⟩;have m:=X.g.g9 i g hg a ha;exact⟨m.L,fun y b hb=>m.cells y b hb,fun j g' hj hm=>X.g.apart i j g g' (Ne.symm (kV hj).1) hg (kV hj).2 a ha hm,fun z hz=>(nomatch hz),O.mq m.new,m.JN O⟩
theorem aw.pG(X:aw c none fz s σ γ){i:Nat}{x:Str}{kd:NameKind}{v:Value}{g:GS}(hn:c.env.scope.names[i]?=some (x,kd))(H:ke c fz s γ x v g):bt c none fz s (σ.put i g.erase):=by
 have G:jj c fz s (upd γ i g):=⟨X.g.snap,X.g.kp,X.g.hi,X.g.le,X.g.new,X.g.gens,X.g.os,X.g.ns,X.g.cell,X.g.AL,X.g.A4,d0 ⟨x,kd,hn⟩ fun j g' _=>X.g.AM j g',
  fun j y k' g' h1 h2=>d0 (P:=fun j g'=>c.env.scope.names[j]?=some (y,k')→∃v,fo c s.heap y v∧mw c.C.EC fz s.heap g' v) (fun h1=>by cases (aL (hn.symm.trans h1):(x,kd)=(y,k'));exact⟨v,H.var,H.rep⟩) (fun j g' _ h2 h1=>X.g.vars j y k' g' h1 h2) j g' h2 h1,
  d0 H.g9 fun j g' _=>X.g.g9 j g',d0 H.nodup fun j g' _=>X.g.nodup j g',
  fun j j' g1 g2 iv h1 h2=>d0 (g:=g) (P:=fun j g1=>j≠j'→∀a∈g1.addrs,a∉g2.addrs) (fun iv a ha=>(H.gb a ha).own j' g2 ((v8 γ g iv.symm).symm.trans h2)) (fun j g1 q h1 iv=>d0 (g:=g) (P:=fun j' g2=>j≠j'→∀a∈g1.addrs,a∉g2.addrs) (fun _ a ha h=>(H.gb a h).own j g1 h1 ha) (fun j' g2 _ h2 iv=>X.g.apart j j' g1 g2 iv h1 h2) j' g2 h2 iv) j g1 h1 iv⟩
 refine q9 (zH X.e G) fun jg G' e' _=>?_;exact⟨jg,G',e',trivial⟩
theorem aw.FA(O:c.Ok)(X:aw c none fz s σ γ){x:Str}{v:Value}{g:GS}(H:ke c fz s γ x v g){a:Addr}(ha:a∈g.addrs){h':Heap}{tk:Nat}(hs:Heap.SameBut a s.heap h'):aw c none fz {s with heap:=h',toks:=tk} σ γ∧fo c h' x v:=by
 have A:=H.gb a ha;have nf:=H.rep.own a ha;have nc:qm s.heap a:=fun o e vs d=>by
  refine aq nf fun o' e' d'=>?_;exact absurd (aL (e.symm.trans e')▸d) (d' vs)
 refine⟨X.turn O A (H.g9 a ha).fz (H.g9 a ha).new nc fun b o hb e=>(hs.2 b hb).trans e,?_⟩;rcases H.var with ⟨e1,m,n,e2⟩|⟨e1,b,e2,n⟩
 ·exact .inl ⟨e1,m,Cb n hs (Ne.symm A.L),e2⟩
 ·exact .inr ⟨e1,b,e2,n.sameBut hs (Ne.symm (A.cells x b (eY e2)))⟩
noncomputable abbrev Ac.sn(c:Ac)(h₀:Heap)(bk:Fz)(sn:Str→Value→Prop):Ac:={c with h₀:=h₀,bk:=bk,snap:=sn}
noncomputable def nA(prog:Program)(w:World)(c:Ac)(e:Expr)(ev:St→Mo D):Prop:=∀h₀ bk sn,(c.sn h₀ bk sn).Ok→aj prog w (c.sn h₀ bk sn) none e ev
theorem aw.J6(X:aw c none fz s σ γ){sn:Str→Value→Prop}(h:∀y v,sn y v→fo c s.heap y v):aw {c with snap:=sn} none fz s σ γ:=
 ⟨⟨h,X.g.kp,X.g.hi,X.g.le,X.g.new,X.g.gens,X.g.os,X.g.ns,X.g.cell,X.g.AL,X.g.A4,X.g.AM,X.g.vars,fun i g hg a ha=>let m:=X.g.g9 i g hg a ha;⟨m.new,m.fz,m.L,m.cells⟩,X.g.nodup,X.g.apart⟩,X.e,trivial⟩
theorem nA.held{e:Expr}{ev:St→Mo D}(O:c.Ok)(d9:∀y v,¬c.snap y v)(hs:nA prog w c e ev)
 (X:aw c none fz s σ γ) {x:Str} {v:Value} {g:GS} (H:ke c fz s γ x v g) {d:D} (h:ev σ=some (.ok d,σ')) {Q E:Value→Shared→Prop}
 (hQ:∀u s' ae jg,fz.le ae→aw c none ae s' σ' jg→Rep c.C.EC ae d u→ke c ae s' jg x v g→Q u s'):aH (model prog w) c.A (eval e c.env) Q E s:=by
 let sn:Str→Value→Prop:=fun y u=>y=x∧u=v
 have O1:Ac.Ok {c with snap:=sn}:=⟨O.K,O.room,O.fr,O.FR,O.kind,O.frame,O.glob,O.Gx,O.pj,O.base,O.rJ,O.u9,O.Gy,O.nL,O.apart,O.pk⟩;have l1:∀b∈g.addrs,d7 {c with snap:=sn} none γ b:=fun b hb=>let A:=H.gb b hb;⟨A.L,A.cells,A.own,A.cc,A.P,A.FR⟩;refine SV.keep (c:={c with snap:=sn}) (k:=none) O1 trivial (fun h₀ bk O2 _=>hs h₀ bk sn O2) (X.J6 fun y u ⟨h1,h2⟩=>h1▸h2▸H.var) l1 H.rep.there h fun u s' ae jg le Y r K=>?_;have Z:aw c none ae s' σ' jg:=Y.J6 (c:={c with snap:=sn}) (sn:=c.snap) fun y u h=>absurd h (d9 y u);exact hQ u s' ae jg le Z r ⟨Y.g.snap x v ⟨rfl,rfl⟩,H.rep.keep le fun a ha o e=>K.get a ha o e,fun a ha=>let m:=H.g9 a ha;⟨m.new,K.fz a ha m.fz,m.L,m.cells⟩,fun a ha=>let A:=K.gb a ha;⟨A.L,A.cells,A.own,A.cc,A.P,A.FR⟩,H.nodup⟩
theorem jv(O:c.Ok)(I:bt c none fz s σ){i:Nat}{x:Str}{kd:NameKind}(hn:c.env.scope.names[i]?=some (x,kd)){m:Slot→St→Mo Fl}{r:R Fl}(h:hidden i m σ=some (r,σ')){G:Prop}
 (go:∀γ v g,aw c none fz s (σ.hide i) γ→ke c fz s γ x v g→m g.erase (σ.hide i)=some (r,σ')→G):G:=by
 refine aq (fw h) fun o ho hv=>?_;refine eo I.x fun γ X=>?_;obtain⟨v,g,⟨_,rfl⟩,pg,jr⟩:=X.hide O hn ho;exact go _ v g pg jr hv
structure As(c:Ac)(fz:Fz)(s:Shared)(v:Value)(g:GS)(a:Addr)(ds:List D)(vs:Array Value):Prop where
 g:g=.own a ds
 v:v=.ref a
 l:bw s.heap a vs
 r:a8 c.C.EC fz ds vs.toList
theorem As.size{v:Value}{g:GS}{a:Addr}{ds:List D}{vs:Array Value}(L:As c fz s v g a ds vs):vs.size=ds.length:=by rw[←aS];exact L.r.length
theorem nN{x:Str}{v:Value}{g:GS}{α:Type}{f:List D→Option α}{q:α}(H:ke c fz s γ x v g)(h:vY g.erase f=some q):∃a ds vs,As c fz s v g a ds vs∧f ds=some q:=by
 cases g with
 |own a ds=>
  obtain⟨e,vs,h1,h2⟩:=H.rep;exact⟨a,ds,vs,⟨rfl,e,h1,h2⟩,h⟩
 |_=>exact nS h
theorem qo{x:Str}{a:Addr}{ds:List D}(H:ke c fz s γ x (.ref a) (.own a ds)):∃vs,As c fz s (.ref a) (.own a ds) a ds vs:=by
 obtain⟨e,vs,h1,h2⟩:=H.rep;exact⟨vs,rfl,rfl,h1,h2⟩
theorem qB(O:c.Ok)(X:aw c none fz s σ γ){x:Str}{a:Addr}{ds ds':List D}{vL:Array Value}(H:ke c fz s γ x (.ref a) (.own a ds)){h':Heap}{tk:Nat}(hs:Heap.SameBut a s.heap h')(hl:bw h' a vL)(r:a8 c.C.EC fz ds' vL.toList):
 aw c none fz {s with heap:=h',toks:=tk} σ γ∧ke c fz {s with heap:=h',toks:=tk} γ x (.ref a) (.own a ds'):=
 (X.FA O H (.head _) hs).elim fun Y hv=>⟨Y,hv,⟨rfl,vL,hl,r⟩,fun b hb=>H.g9 b hb,fun b hb=>H.gb b hb,.cons nofun .nil⟩
theorem ik{M:Model}{A:Around}{E:Value→Shared→Prop}{Q:Value→Shared→Prop}(O:c.Ok){x:Str}{v:Value}{g:GS}(H:ke c fz s γ x v g)(h:Q v s):aH M A (loadName c.env x) Q E s:=nM O H.var h
theorem Oy{C:Bc}{A:Around}{x y:D}{a b:Value}{q:R D}(H:HI C fz s.heap)(ra:Rep C.EC fz x a)(rb:Rep C.EC fz y b)(hx:JM x=true)(h:JH x y=some q):cg prog w C A (inplaceOp .Add a b) fz s q:=by
 cases x with
 |int n=>
  refine aq (kN h) fun m ay h1=>?_;subst ay;refine eo (d6 ra) fun t1 ay=>?_;subst ay;refine eo (d6 rb) fun t2 ay=>?_;subst ay;exact qh h1 (b5 H fun Q E hh=>PyProof.Rows.iadd_int (hh _ _ gy))
 |str z=>
  refine aq (g5 h) fun u ay h1=>?_;subst ay;refine eo (bu ra) fun t1 ay=>?_;subst ay;refine eo (bu rb) fun t2 ay=>?_;subst ay;refine ka (kQ h1) fun gw h2=>?_;refine qh h2 (b5 H fun Q E hh=>PyProof.Rows.iadd_str (fun t' tk=>hh _ _ ?_) (by simpa [Str.length] using gw));have:=mW (C:=C) (fz:=fz) (x:=(⟨z.toArray⟩:Str)++⟨u.toArray⟩) (t:=t');rw[Str.cps_append,eG] at this;exact this
 |_=>exact absurd hx bF
theorem My(O:c.Ok)(d9:∀y v,¬c.snap y v){i:Nat}{x:Str}{kd:NameKind}{d:D}{u v:Value}{g:GS}{r:R Fl}(hn:c.env.scope.names[i]?=some (x,kd))(hk:isVar kd=true)(X:aw c none fz s σ γ)(ru:Rep c.C.EC fz d u)(H:ke c fz s γ x v g){Q:Flow→Shared→Prop}{E:Value→Shared→Prop}(q:SQ c fz r σ' Q E)
 (h:(vY g.erase fun ds=>kl d fun es=>if ds.length+es.length≤sizeLine then Mo.ok .next (σ.put i (.own (ds++es))) else none)=some (r,σ')):aH (model prog w) c.A (inplaceOp .Add v u) (fun r l4=>aH (model prog w) c.A (gK c.env x r) (fun _=>Q .next) E l4) E s:=by
 refine yk (nN H h) fun a ds vs L h1=>?_;cases L.g;cases L.v;refine aq (iy h1) fun es ay h2=>?_;subst ay;obtain⟨gw,h3⟩:=kQ h2;obtain⟨b,us,n,rfl,fb,rb⟩:=ru;refine eo (X.g.hi.fi b _ fb) fun slb eb=>?_;have l2:=rb.length;rw[aS] at l2;have hr:a8 c.C.EC fz (ds++es) (vs++us).toList:=by rw[eG];exact a8.append L.r rb
 refine Ez L.l eb (by rw[L.size,l2];exact gw) fun h' rH nH=>?_;refine ka (qB O X H (tk:=s.toks) nH rH hr) fun gx k8=>?_;have m:=k8.g9 a (.head _);exact Aq O d9 hn hk ⟨gx,rH,hr,k8.gb a (.head _),m.fz,m.new⟩ fun s' I'=>q.fin h3 (Fz.le_refl _) I'
theorem J7(O:c.Ok)(d9:∀y v,¬c.snap y v){i:Nat}{x:Str}{kd:NameKind}{y d:D}{u v:Value}{r:R Fl}(hn:c.env.scope.names[i]?=some (x,kd))(hk:isVar kd=true)(I:bt c none fz s σ)(rv:Rep c.C.EC fz y v)(ru:Rep c.C.EC fz d u){Q:Flow→Shared→Prop}{E:Value→Shared→Prop}(q:SQ c fz r σ' Q E)
 (h:(if JM y=true then(Mo.of (JH y d) σ).bind fun z σ=>Mo.ok .next (σ.put i (.val z)) else none)=some (r,σ')):aH (model prog w) c.A (inplaceOp .Add v u) (fun r l4=>aH (model prog w) c.A (gK c.env x r) (fun _=>Q .next) E l4) E s:=by
 obtain⟨hf,h1⟩:=kQ h;rcases Mo.bind_some h1 with ⟨t,de,h3,h4⟩|⟨t,h3,rfl⟩
 ·exact oQ (k:=none) O trivial I h3 (.A6 fun v' s' ae Vh I' r'=>rk O d9 I' hn hk r' fun pZ Ry=>q.fin h4 Vh Ry) (Oy I.hi rv ru hf)
 ·exact oQ (k:=none) O trivial I h3 (.rZ (q.MU _ rfl)) (Oy I.hi rv ru hf)
theorem TJ(O:c.Ok)(d9:∀y v,¬c.snap y v){i:Nat}{x:Str}{kd:NameKind}{xp pos:Pos}{e:Expr}{ev:St→Mo D}(hn:c.env.scope.names[i]?=some (x,kd))(hk:isVar kd=true)(h:nA prog w c e ev):
 du prog w c (.AugAssign (.Name x xp) .Add e pos) (hidden i fun o σ=>(au (ev σ)).bind (A2 i o)):=fun fz s σ r σ' I hv Q E q=>jv O I hn hv fun γ v g pg jr hv=>by
 refine iw (bh hv) fun d ai h1 h2=>?_;refine wpAny_AugAssign_Name (ik O jr (h.held O d9 pg jr h1 fun u a9 av lU b8 di ru uk=>?_));cases g with
 |val y=>exact J7 O d9 hn hk di.inv uk.rep ru (q.le b8) h2
 |own a ds=>exact My O d9 hn hk di ru uk (q.le b8) h2
 |obj a dA fs=>exact nS h2
theorem je(O:c.Ok):interactive c.env=false:=by unfold interactive;rw[O.kind];rfl
theorem qp {A:Around} {E:Value→Shared→Prop} {name:Str} {id:String} {a:Addr} {vs:Array Value} {pos:Pos} {t:Sem Value} {Q:Value→Shared→Prop} (slot:dX "list" name id) (ty:typeOf (.builtin id)=pure (.type "method_descriptor")) (hl:bw s.heap a vs)
 (h:aH (model prog w) A t (fun v a9=>aH (model prog w) A (call (.builtin id) [.ref a,v]) Q E a9) E s):MethodOnS prog w A E name (.ref a) pos [(false,t)] Q s:=by
 refine kK hl fun n sl e=>?_;refine⟨"list",id,PySem.F.plainAttrs_list,slot,ty,⟨_,e,rfl⟩,fun b hb=>by cases hb;exact⟨_,e,rfl⟩,?_⟩;refine Calls.callWith_builtin rfl (evalArgs_kw rfl (Calls.spliced_cons (dS h (fun v a9 h₁=>Calls.spliced_nil (wpAny_evalAll_nil h₁)) fun _ _ x=>x)))
theorem DV {A:Around} {E:Value→Shared→Prop} {name:Str} {id:String} {a:Addr} {vs:Array Value} {pos:Pos} {Q:Value→Shared→Prop} (slot:dX "list" name id) (ty:typeOf (.builtin id)=pure (.type "method_descriptor")) (hl:bw s.heap a vs)
 (h:aH (model prog w) A (call (.builtin id) [.ref a]) Q E s):MethodOnS prog w A E name (.ref a) pos [] Q s:=by
 refine kK hl fun n sl e=>?_;refine⟨"list",id,PySem.F.plainAttrs_list,slot,ty,⟨_,e,rfl⟩,fun b hb=>by cases hb;exact⟨_,e,rfl⟩,?_⟩;exact Calls.callWith_builtin rfl (evalArgs_kw_nil rfl (wpAny_evalAll_nil h))
theorem J8 (O:c.Ok) (d9:∀y v,¬c.snap y v) {xp apos sq pos:Pos} (hn:c.env.scope.names[i]?=some (x,kd)) (hd:(x==("__debug__":Str))=false) (MB:noStar e=true) (sg:(apos.endLine==sq.line)=true) (h:nA prog w c e ev):
 du prog w c (.Expr (.Call (.Attribute (.Name x xp) "append" apos) [e] [] sq) pos) (hidden i fun o σ=>(au (ev σ)).bind (ph i o)):=fun fz s σ r σ' I hv Q E q=>jv O I hn hv fun γ v g pg jr hv=>by
 refine iw (bh hv) fun d ai h1 h2=>?_;refine yk (nN jr h2) fun a ds vs L h3=>?_;obtain⟨gw,h4⟩:=kQ h3;cases L.g;cases L.v;refine wpAny_Expr (Call_method1 rfl (bf MB) sg (dR (ik O jr (qp slot_list_append type_list_append L.l (h.held O d9 pg jr h1 fun u a9 av lU b8 di ru uk=>?_))) hd)) (je O) rfl;refine eo (qo uk) fun CO xw=>?_;refine append_at xw.l (fun h' rH nH=>?_) (by rw[xw.size];exact fQ gw);refine ka (qB O di uk (tk:=a9.toks) nH rH (ds':=ds++[d]) (by rw[iA];exact a8.append xw.r ⟨u,[],rfl,ru,rfl⟩)) fun gx k8=>?_;exact q.fin h4 b8 (gx.pG hn k8)
theorem St.wB:(σ.hide i).put i x=σ.put i x:=congrArg (St.mk · σ.κ) (List.set_set ..)
theorem HV (O:c.Ok) {xp apos sq pos:Pos} (hn:c.env.scope.names[i]?=some (x,kd)) (hd:(x==("__debug__":Str))=false) (sg:(apos.endLine==sq.line)=true):
 du prog w c (.Expr (.Call (.Attribute (.Name x xp) "reverse" apos) [] [] sq) pos) (v5 i):=fun fz s σ r σ' I hv Q E q=>jv O I hn (m:=fun o _=>vY o fun ds=>if ds.length≤sizeLine then Mo.ok .next (σ.put i (.own ds.reverse)) else none) hv fun γ v g pg jr hv=>by
 refine yk (nN jr hv) fun a ds vs L h3=>?_;obtain⟨gw,h4⟩:=kQ h3;cases L.g;cases L.v;refine wpAny_Expr (Call_method0 rfl sg (dR (ik O jr (DV PySem.F.slot_list_reverse PySem.F.type_list_reverse L.l (DS L.l (by rw[L.size];exact gw) fun h' rH nH=>?_))) hd)) (je O) rfl;obtain⟨gx,k8⟩:=qB O pg jr (tk:=s.toks) nH rH (ds':=ds.reverse) (by rw[Array.toList_reverse];exact L.r.reverse);exact q.fin h4 (Fz.le_refl _) (St.wB▸gx.pG hn k8)
noncomputable def yL(c:Ac):List Expr→List Nat→Prop:=lI fun e i=>∃x p kd,e=.Name x p∧c.env.scope.names[i]?=some (x,kd)∧isVar kd=true
theorem nO:∀{es:List Expr} {is:List Nat},yL c es is→(iW es env).findIdx? (·.1)=none∧(iW es env).length=es.length∧(iW es env).map (·.2)=es.map fun e=>assign e env
 |[],[],_=>⟨rfl,rfl,rfl⟩
 |[],_::_,h=>h.elim
 |_::_,[],h=>h.elim
 |e::es,i::is,h=>by
  obtain⟨⟨x,p,kd,rfl,_⟩,h2⟩:=h;refine AP (nO (env:=env) h2) fun a1 a2 a3=>?_;have e1:iW (.Name x p::es) env=(false,assign (.Name x p) env)::iW es env:=rfl;rw[e1];refine⟨?_,by simp[a2],by simp[a3]⟩;rw[jM];simp[a1]
theorem oH(O:c.Ok)(d9:∀y v,¬c.snap y v):∀{es:List Expr} {is:List Nat},yL c es is→∀{ds:List D} {vs:List Value} {s:Shared} {σ σ':St} {Q:Unit→Shared→Prop},bt c none fz s σ→a8 c.C.EC fz ds vs→putAll is ds σ=some σ'→(∀s',bt c none fz s' σ'→Q () s')→
 aH (model prog w) A (assignInOrder (es.map fun e=>assign e c.env) vs) Q E s
 |[],[],_,ds,vs,s,σ,σ',Q,I,r,h,hQ=>by
  cases ds with
  |nil=>cases h;exact aF (hQ s I)
  |cons d ds=>cases h
 |[],_::_,h,_,_,_,_,_,_,_,_,_,_=>h.elim
 |_::_,[],h,_,_,_,_,_,_,_,_,_,_=>h.elim
 |e::es,i::is,hN,ds,vs,s,σ,σ',Q,I,r,h,hQ=>by
  obtain⟨⟨x,p,kd,rfl,hn,hk⟩,h2⟩:=hN;cases ds with
  |nil=>cases h
  |cons d ds=>
   refine sz r fun v us bq r1 r2=>?_;subst bq;refine aB (aQ (iB (rk O d9 I hn hk r1 fun a9 az=>?_)));exact oH O d9 h2 az r2 h hQ
theorem wC:∀{is:List Nat} {ds:List D} {σ σ':St},putAll is ds σ=some σ'→is.length=ds.length
 |[],[],_,_,_=>rfl
 |[],_::_,_,_,h=>by cases h
 |_::_,[],_,_,h=>by cases h
 |i::is,d::ds,_,_,h=>by simp[wC (is:=is) h]
theorem wD{A:Around}(O:c.Ok)(hA:A.handled=none)(d9:∀y v,¬c.snap y v)(hN:yL c es is)(I:bt c none fz s σ)(hd:d=.tup ds∨d=.list ds)(r:Rep c.C.EC fz d v)
 (h:putAll is ds σ=some σ') (hQ:∀s',bt c none fz s' σ'→Q () s'):aH (model prog w) A (assign (.Tuple es n pos) c.env v) Q E s:=by
 refine AP (nO (env:=c.env) hN) fun a1 a2 a3=>?_;have ext:∀h',Heap.ExtBut s.heap.objs.size s.heap h'→bt c none fz {s with heap:=h'} σ:=fun h' he=>
  I.grow O trivial (bp.keeps I.hi fun b o e=>he b o (bU (Heap.lt_size e)) e)
 have len:∀{vs:Array Value},a8 c.C.EC fz ds vs.toList→(iW es c.env).length=vs.size:=fun q=>by
  rw[a2,hN.len,wC h,←q.length,aS]
 rcases hd with rfl|rfl
 ·obtain⟨a,vs,m,rfl,f,q⟩:=r
  exact assign_Tuple_tuple hA (AQ I.hi f) (len q) a1 fun h' he=>a3▸oH O d9 hN (ext h' he) q h hQ
 ·obtain⟨a,vs,m,rfl,f,q⟩:=r
  rw[assign_Tuple];refine aB (cA ?_);unfold unpack;rw[a1,len q,a3];exact aB (aQ (W.kun_itemsOf hA (en I.hi f) fun h' he=>oH O d9 hN (ext h' he) q h hQ))
noncomputable def J9(e:Expr):Bool:=e.ctorIdx !=25
theorem zJ(h:mC e=true):swapsWithSole [t] e n env=pure false:=pF h
theorem DW(h:J9 e=true):swappedStores [.Tuple es n p] e env=pure none:=by
 cases e<;>first|rfl|exact absurd h bF
theorem zK(h:rT is d σ=some (r,σ')):∃ds de,(d=.tup ds∨d=.list ds)∧putAll is ds σ=some de∧Mo.ok .next de=some (r,σ'):=by
 cases d with
 |tup ds=>exact(aR.mp h).elim fun de h=>⟨ds,de,.inl rfl,h.1,congrArg some h.2⟩
 |list ds=>exact(aR.mp h).elim fun de h=>⟨ds,de,.inr rfl,h.1,congrArg some h.2⟩
 |_=>exact nS h
theorem Ja(O:c.Ok)(hA:c.A.handled=none)(d9:∀y v,¬c.snap y v)(hN:yL c es is)(hc:mC e=true)(ht:J9 e=true)(h:aj prog w c none e ev):
 du prog w c (.Assign [.Tuple es n tp] e pos) (fun σ=>(ev σ).bind (rT is)):=fun fz s σ r σ' I hv Q E q=>
 Assign_Tuple (h.qS I hv q.MU fun d v ai a9 av b8 az xO h2=>by
  refine sz (zK h2) fun ds de hd h3 h4=>?_;exact wD O hA d9 hN az hd xO h3 fun s' I'=>q.fin h4 b8 I') (zJ hc) (DW ht)
theorem a8.set:∀{ds:List D} {vs:List Value},a8 EC fz ds vs→∀(i:Nat) {d:D} {v:Value},Rep EC fz d v→a8 EC fz (ds.set i d) (vs.set i v)
 |[],_,r,i,d,v,h=>by cases r;exact rfl
 |d'::ds,_,r,0,d,v,h=>by refine sz r fun u q bq f g=>?_;subst bq;exact⟨v,q,rfl,h,g⟩
 |d'::ds,_,r,i+1,d,v,h=>by refine sz r fun u q bq f g=>?_;subst bq;exact⟨u,_,rfl,f,a8.set g i h⟩
theorem wF{ek:Expr}{a v k:Value}(AA:isSlice ek=false):augStore ek a k v=(do
 holding [v,a,k] (setItem a k v)
 release [v,a,k] []
 pure .next):=by
 cases ek<;>first|rfl|exact absurd AA.symm bF
theorem Jb (O:c.Ok) (d9:∀y v,¬c.snap y v) (hn:c.env.scope.names[i]?=some (x,kd)) (hd:(x==("__debug__":Str))=false) (AA:isSlice ek=false) (hk:nA prog w c ek evk) (h:nA prog w c e ev):
 du prog w c (.AugAssign (.Subscript (.Name x xp) ek aAc) .Add e pos) (hidden i fun o σ=>(au (evk σ)).bind fun kk σ=>(au (ev σ)).bind (rU i o kk)):=fun fz s σ r σ' I hv Q E q=>jv O I hn hv fun γ v g pg jr hv=>by
 refine iw (bh hv) fun dk ai h1 hv=>?_;refine iw (bh hv) fun d de h2 h3=>?_;refine yk (nN jr h3) fun a ds vs L h4=>?_;cases L.g;cases L.v;refine aq (kN h4) fun kk ay h5=>?_;subst ay;refine aq (kN h5) fun y ay h6=>?_;subst ay;obtain⟨Sj,h7⟩:=kQ h6;refine aq (fw h7) fun zd hz h8=>?_;refine aq (kN h8) fun z ay h9=>?_;subst ay;have hkl:=(bL.mp hz).1;have slot:∀{fz s γ},ke c fz s γ x (.ref a) (.own a ds)→∃vs,As c fz s (.ref a) (.own a ds) a ds vs∧kk<vs.size:=fun H=>by
  refine eo (qo H) fun vs L=>?_;exact⟨vs,L,by rw[L.size];exact Int.lt_of_toNat_lt hkl⟩
 rw[arm_exec_AugAssign_3];refine aB (cA (aB (dR (ik O jr (aB (aQ (hk.held O d9 pg jr h1 fun u a9 av lU b8 di ru uk=>?_)))) hd)));refine eo (d6 ru) fun tk ay=>?_;subst ay;refine aq (slot uk) fun CO xw _=>?_;refine aq (xw.r.get _ _ hz) fun aAe Up Uq=>?_;refine eo (d6 Uq) fun tz ay=>?_;subst ay;refine aB (aQ (aB (cA (aB (wpAny_getItem_list (xw.l.elim fun n h=>h.elim fun sl e=>⟨_,e,rfl,n,rfl⟩) Sj.1 Sj.2 (by simpa using Up) (aB (aQ (h.held O d9 di uk h2 fun aAf cw gi sj fy gx Ur k8=>?_))))))));refine eo (d6 Ur) fun ty ay=>?_;subst ay;refine aq (slot k8) fun Yt Ea hlen=>?_;refine aB (cA (wpAny_operateT (PyProof.Rows.iadd_int (aB (cA ?_)))));rw[wF AA];have jq:=gx.grow (k:=none) O trivial (bp.tok gx.g.hi (cw.toks+1));have AG:ke c gi {cw with toks:=cw.toks+1} sj x (.ref a) (.own a ds):=⟨k8.var,k8.rep,k8.g9,k8.gb,k8.nodup⟩;refine aB (aQ (DU (s:={cw with toks:=cw.toks+1}) Ea.l Sj.1 Sj.2 hlen fun h' rH nH=>aB (wpAny_release (aF ?_))));refine ka (qB O jq AG (tk:=cw.toks+1) nH rH (ds':=ds.set kk.toNat (.int (z+y))) (by rw[Array.toList_setIfInBounds];exact a8.set Ea.r _ gy)) fun qP Of=>?_;exact q.fin h9 (Fz.le_trans b8 fy) (qP.pG hn Of)
noncomputable def setG:List (Str×GF)→Str→GF→List (Str×GF)
 |[],x,v=>[(x,v)]
 |(y,u)::r,x,v=>if y==x then(y,v)::r else(y,u)::setG r x v
theorem wG:∀(fs:List (Str×GF)) (x:Str) (g:GF),(setG fs x g).map (fun y=>(y.1,y.2.erase))=setField (fs.map fun y=>(y.1,y.2.erase)) x g.erase
 |[],x,g=>rfl
 |(y,u)::r,x,g=>by
  simp only[setG,aN,setField]
  split
  ·rfl
  ·simp[wG r x g]
theorem ro:∀(fs:List (Str×GF)) (x:Str),(fs.map fun y=>(y.1,y.2.erase)).lookup x=(fs.lookup x).map GF.erase
 |[],x=>rfl
 |(y,u)::r,x=>by
  simp only[aN,bT];cases x==y with
  |true=>rfl
  |false=>exact ro r x
theorem HW:(Value.str y t).isStr x=(y==x):=by
 rfl
section
variable{EC:Addr}{h:Heap}
theorem oJ:∀{fs:List (Str×GF)} {es:List cQ},gj EC fz h fs es→∀{x:Str} {g:GF},fs.lookup x=some g→∃e,es.find? (·.key.isStr x)=some e∧oy EC fz h g e.val
 |[],_,r,x,g,hh=>by cases hh
 |(y,u)::fs,_,r,x,g,hh=>by
  obtain⟨e,q,t,rfl,hk,r1,r2⟩:=r;rw[bT] at hh
  by_cases xR:y=x
  ·subst xR
   rw[beq_self_eq_true] at hh;cases hh;exact⟨e,by rw[iU,hk];simp[Value.isStr],r1⟩
  ·have e1:(x==y)=false:=beq_eq_false_iff_ne.mpr (Ne.symm xR)
   rw[e1] at hh;refine aq (oJ r2 hh) fun e' h1 h2=>?_;refine⟨e',?_,h2⟩;rw[iU,hk];have:(Value.str y t).isStr x=false:=by simp[Value.isStr,xR]
   rw[this];exact h1
theorem nB:∀{fs:List (Str×GF)} {es:List cQ},gj EC fz h fs es→es.any (·.refKey)=false
 |[],_,r=>by subst r;rfl
 |(y,u)::fs,_,r=>by
  obtain⟨e,q,t,rfl,hk,r1,r2⟩:=r;rw[List.any_cons,nB r2];unfold cQ.refKey;rw[hk];rfl
theorem pH:∀{fs:List (Str×GF)} {es:List cQ},gj EC fz h fs es→es.length=fs.length
 |[],_,r=>by subst r;rfl
 |(y,u)::fs,_,r=>by
  obtain⟨e,q,t,rfl,hk,r1,r2⟩:=r;simp[pH r2]
theorem pI(r:oy EC fz h g v):∀{fs:List (Str×GF)} {es:List cQ},gj EC fz h fs es→gj EC fz h (setG fs x g) (W.putL x hsh (.str x t) v es)
 |[],_,q=>by
  subst q;exact⟨_,[],t,rfl,rfl,r,rfl⟩
 |(y,u)::fs,_,q=>by
  obtain⟨e,es,ty,rfl,hk,r1,r2⟩:=q;simp only[setG,W.putL,hk,HW]
  by_cases xR:(y==x)=true
  ·rw[if_pos xR,if_pos xR]
   exact⟨_,es,ty,rfl,rfl,r,r2⟩
  ·rw[if_neg xR,if_neg xR]
   exact⟨e,_,ty,rfl,hk,r1,pI r r2⟩
theorem Au(x:Str)(hsh:Int)(key v:Value):∀es:List cQ,(W.putL x hsh key v es).length≤es.length+1
 |[]=>by simp[W.putL]
 |e::r=>by
  simp only[W.putL]
  split
  ·simp
  ·have:=Au x hsh key v r
   simp;exact this
end
theorem DX(name:Str)(hsh:Int)(key v:Value)(es:Array cQ)(n:Nat)(sl:Array (Option Value)):∃n',Obj.putName name hsh key v ⟨.type "dict",none,.dict es n,sl⟩=⟨.type "dict",none,.dict (W.putL name hsh key v es.toList).toArray n',sl⟩:=by
 have h1:=W.putL_find name hsh key v es.toList;rw[Obj.putName_eq];unfold Obj.putNameByArray;obtain⟨l⟩:=es;simp only[List.findIdx?_toArray] at h1 ⊢;cases h:List.findIdx? (fun x=>x.key.isStr name) l with
 |none=>rw[h] at h1;exact⟨n+1,by rw[←h1];simp⟩
 |some i=>rw[h] at h1;exact⟨n,by rw[←h1];simp⟩
theorem wH{C:Bc}{K:W.Frag}{fS fI:Addr}{A:Around}{E:Value→Shared→Prop}(F:CF C K fS fI)(H:HI C fz s.heap){a dA:Addr}{sl pY:Array (Option Value)}{es:Array cQ}{n:Nat}{x:Str}{v:Value}{Q:Unit→Shared→Prop}
 (h1:s.heap.get? a=some ⟨.ref C.EC,some dA,.plain,sl⟩) (h2:s.heap.get? dA=some ⟨.type "dict",none,.dict es n,pY⟩) (hx:x∈fieldNames) (hr:es.toList.any (·.refKey)=false) (hz:es.size<900)
 (hQ:∀h' tk tx n',Heap.SameBut dA s.heap h'→h'.get? dA=some ⟨.type "dict",none,.dict (W.putL x (PyData.keyHash w.params x) (.str x tx) v es.toList).toArray n',pY⟩→Q () {s with heap:=h',toks:=tk}):aH (model prog w) A (setAttr (.ref a) x v) Q E s:=by
 have X:=F.S7 H;have I:W.InstAt s.heap a ⟨.ref C.EC,some dA,.plain,sl⟩ C.EC (some ⟨.type "dict",none,.dict es n,pY⟩):=⟨h1,rfl,rfl,h2⟩;have ht:W.takerIn K C.EC x=some none:=by unfold W.takerIn;rw[F.attr x hx];rfl
 refine aq (W.any_some F.dict) fun cd hc Og=>?_;refine W.set_plain X I F.set ?_;refine W.osa_open (s:={s with toks:=s.toks+1}) X I F.over ht fun b=>?_;refine eo (DX x (PyData.keyHash w.params x) (.str x (s.toks+1)) v es n pY) fun n' q=>?_;have D':(s.heap.update dA (Obj.putName x (PyData.keyHash w.params x) (.str x (s.toks+1)) v)).get? dA=some ⟨.type "dict",none,.dict (W.putL x (PyData.keyHash w.params x) (.str x (s.toks+1)) v es.toList).toArray n',pY⟩:=by
  rw[Heap.get?_update_self _ h2 (by rw[q];rfl),q]
 refine aB (aF (aB (aB (jG h1 (aB ((W.looks_clsIn X hc) _ _ _ _ (fun _ _ e=>e) ?_))))));rw[Og];refine aF (a:=some dA) (aB (aF (aB ?_)));unfold nsSet;refine aB (aB (gQ (aF (aB (wpAny_mkText (aB (jG h2 ?_)))))));dsimp only;have cc:(!es.any (·.key.isStr x)&&es.any (·.refKey))=false:=by
  rw[←Array.any_toList (p:=fun y:cQ=>y.refKey),hr,Bool.and_false]
 rw[aRefKeyMayBeTheName_at,cc];refine wpAny_updatePart h2 ?_;refine aB (wpAny_lookBehind D' (pastItsLine_dict (by
  rw[bY,eJ];have h5:(W.putL x (PyData.keyHash w.params x) (.str x (s.toks+1)) v es.toList).length≤es.toList.length+1:=Au _ _ _ _ _;have h6:es.toList.length=es.size:=aS;generalize (W.putL x (PyData.keyHash w.params x) (.str x (s.toks+1)) v es.toList).length=N at h5 ⊢
  lia)) ?_)
 exact aF (hQ _ _ _ n' (Heap.SameBut.update ..) D')
theorem pJ{x:Str}{y:D}:∀(fs:List (Str×GF)),((setG fs x (.val y)).flatMap fun z=>z.2.addrs).Sublist (fs.flatMap fun z=>z.2.addrs)
 |[]=>.slnil
 |(n,g)::r=>by
  rw[setG]
  split
  ·exact List.sublist_append_right g.addrs _
  ·exact List.Sublist.append (List.Sublist.refl g.addrs) (pJ r)
theorem mE{x:Str}{b:Addr}{CQ ds:List D}:∀{fs:List (Str×GF)},fs.lookup x=some (.own b CQ)→((setG fs x (.own b ds)).flatMap fun z=>z.2.addrs)=(fs.flatMap fun z=>z.2.addrs)
 |(n,g)::r,h=>by
  rw[bT] at h;rw[setG]
  by_cases hx:n=x
  ·subst hx
   rw[beq_self_eq_true] at h;cases h;rw[if_pos (beq_self_eq_true _)];rfl
  ·rw[beq_eq_false_iff_ne.mpr (Ne.symm hx)] at h
   rw[if_neg (by simpa using hx)];exact congrArg (g.addrs++·) (mE h)
theorem ux{a dA:Addr}{fs:List (Str×GF)}{y:Str}{g:GF}:(GS.obj a dA (setG fs y g)).erase=.obj (setField (fs.map fun y=>(y.1,y.2.erase)) y g.erase):=congrArg Slot.obj (wG fs y g)
theorem pK{x:Str}{v:Value}{g:GS}{α:Type}{f:List (Str×FS)→Option α}{q:α}(H:ke c fz s γ x v g)(h:yA g.erase f=some q):∃a dA fs,g=.obj a dA fs∧v=.ref a∧f (fs.map fun y=>(y.1,y.2.erase))=some q:=by
 cases g with
 |obj a dA fs=>exact⟨a,dA,fs,rfl,H.rep.1,h⟩
 |_=>exact nS h
theorem Aw{K:W.Frag}{fS fI:Addr}(F:CF c.C K fS fI)(O:c.Ok)(X:aw c none fz s σ γ){x y:Str}{a dA:Addr}{fs:List (Str×GF)}(H:ke c fz s γ x (.ref a) (.obj a dA fs))(hy:y∈fieldNames)(hlen:fs.length<100){g:GF}{u:Value}(r:oy c.C.EC fz s.heap g u)
 (Ia:((setG fs y g).flatMap fun z=>z.2.addrs).Sublist (fs.flatMap fun z=>z.2.addrs)) {E:Value→Shared→Prop} {Q:Unit→Shared→Prop}
 (hQ:∀s',aw c none fz s' σ γ→ke c fz s' γ x (.ref a) (.obj a dA (setG fs y g))→Q () s'):aH (model prog w) c.A (setAttr (.ref a) y u) Q E s:=by
 obtain⟨_,sl,es,n,pY,h1,h2,h3⟩:=H.rep;have XR:es.size<900:=by
  have:=pH h3;rw[aS] at this
  lia
 have Gb:=bV.mp H.nodup;have Oh:=bV.mp Gb.2;have Ve:a≠dA:=fun q=>Gb.1 (q▸.head _);refine wH F X.g.hi h1 h2 hy (nB h3) XR fun h' tk tx n' nH Og=>?_;refine ka (X.FA O H (a:=dA) (.tail _ (.head _)) (tk:=tk) nH) fun Y hv=>?_;have sub:∀b,b∈(GS.obj a dA (setG fs y g)).addrs→b∈(GS.obj a dA fs).addrs:=((Ia.cons_cons dA).cons_cons a).subset;exact hQ _ Y ⟨hv,⟨rfl,sl,_,n',pY,(nH.2 a Ve).trans h1,Og,(pI (x:=y) (hsh:=PyData.keyHash w.params y) (t:=tx) r h3).keep (Fz.le_refl _) fun b hb o e=>(nH.2 b fun q=>Oh.1 (q▸Ia.subset hb)).trans e⟩,fun b hb=>H.g9 b (sub b hb),fun b hb=>H.gb b (sub b hb),H.nodup.sublist ((Ia.cons_cons dA).cons_cons a)⟩
theorem tU {K:W.Frag} {fS fI:Addr} (F:CF c.C K fS fI) (O:c.Ok) {i:Nat} {x y:Str} {kd:NameKind} {xp ap pos:Pos} {e:Expr} {ev:St→Mo D} (hn:c.env.scope.names[i]?=some (x,kd)) (hd:(x==("__debug__":Str))=false) (hy:y∈fieldNames) (hc:mC e=true) (h:aj prog w c none e ev):
 du prog w c (.Assign [.Attribute (.Name x xp) y ap] e pos) (fun σ=>(ev σ).bind (nK i y)):=fun fz s σ r σ' I hv Q E q=>
 plainObj_wpAny_Assign_Attribute (h.qS I hv q.MU fun d v ai a9 av b8 az xO h2=>jv O az hn (m:=fun o _=>yA o fun fs=>if fs.length<100 then Mo.ok .next (ai.put i (.obj (setField fs y (.val d)))) else none) h2 fun γ aAg g gx k8 h3=>by
  obtain⟨a,dA,fs,rfl,rfl,h4⟩:=pK k8 h3;obtain⟨hlen,h5⟩:=kQ h4;refine dR (ik O k8 (Aw F O gx k8 hy (by simpa using hlen) (g:=.val d) xO (pJ fs) fun s' jq AG=>?_)) hd;have fin:=jq.pG hn AG;rw[ux,St.wB] at fin;exact q.fin h5 b8 fin) (pF hc)
theorem Ax{K:W.Frag}{fS fI:Addr}(F:CF c.C K fS fI)(X:aw c none fz s σ γ){x y:Str}{a dA:Addr}{fs:List (Str×GF)}(H:ke c fz s γ x (.ref a) (.obj a dA fs))(hy:y∈fieldNames){b:Addr}{ds:List D}(hl:fs.lookup y=some (.own b ds)){E:Value→Shared→Prop}{Q:Value→Shared→Prop}{ex:Bool}
 (hQ:aw c none fz {s with toks:=s.toks+1} σ γ→Q (.ref b) {s with toks:=s.toks+1}) (O:c.Ok):aH (model prog w) c.A (getAttr (.ref a) y ex) Q E s:=by
 obtain⟨_,sl,es,n,pY,h1,h2,h3⟩:=H.rep;refine aq (oJ h3 hl) fun e he hr=>?_;have hv:=hr.1;refine W.get_value (v:=.ref b) (F.S7 X.g.hi) (od:=some ⟨.type "dict",none,.dict es n,pY⟩) ⟨h1,rfl,rfl,h2⟩ (W.plainGet_of (F.get y)).1 (W.findObj_own F.dict (F.attr y hy) rfl ?_) rfl (hQ (X.grow (k:=none) O trivial (bp.tok X.g.hi _)));show W.lookIn _ _=_;delta W.lookIn;simp only[he];rw[hv]
theorem ke.tok{x:Str}{v:Value}{g:GS}{tk:Nat}(H:ke c fz s γ x v g):ke c fz {s with toks:=tk} γ x v g:=⟨H.var,H.rep,H.g9,H.gb,H.nodup⟩
theorem yM{fs:List (Str×GF)}{y:Str}{b:Addr}{ds:List D}(hl:fs.lookup y=some (.own b ds)):b∈fs.flatMap fun z=>z.2.addrs:=by
 induction fs with
 |nil=>cases hl
 |cons p r ih=>
  obtain⟨n,g⟩:=p;rw[bT] at hl;cases hy:y==n with
  |true=>rw[hy] at hl;cases hl;exact dI _ (.head _)
  |false=>rw[hy] at hl;exact dU _ (ih hl)
theorem qq{x y:Str}{a dA:Addr}{fs:List (Str×GF)}(H:ke c fz s γ x (.ref a) (.obj a dA fs)){b:Addr}{ds:List D}(hl:fs.lookup y=some (.own b ds)):∃vs,bw s.heap b vs∧a8 c.C.EC fz ds vs.toList:=by
 obtain⟨_,sl,es,n,pY,h1,h2,h3⟩:=H.rep;refine aq (oJ h3 hl) fun e he hr=>?_;exact hr.2
theorem rq{EC:Addr}{h h':Heap}{y:Str}{b:Addr}{CQ ds:List D}{vs:Array Value}(rH:bw h' b vs)(r:a8 EC fz ds vs.toList)(hk:∀a,a≠b→∀o,h.get? a=some o→h'.get? a=some o):
 ∀{fs:List (Str×GF)} {es:List cQ},fs.lookup y=some (.own b CQ)→(fs.flatMap fun z=>z.2.addrs).Nodup→gj EC fz h fs es→gj EC fz h' (setG fs y (.own b ds)) es
 |[],_,h,_,_=>by cases h
 |(n,g)::fs,_,hl,nd,q=>by
  obtain⟨e,es,t,rfl,AB,r1,r2⟩:=q;rw[bT] at hl;simp only[jX,hW] at nd;obtain⟨Gb,Oh,Yu⟩:=nd;simp only[setG]
  by_cases hx:n=y
  ·subst hx
   rw[beq_self_eq_true] at hl;cases hl;rw[if_pos (by simp)];refine⟨e,es,t,rfl,AB,⟨r1.1,vs,rH,r⟩,r2.keep (Fz.le_refl _) fun a ha o ea=>hk a (fun q=>?_) o ea⟩;subst q;exact absurd rfl (Yu a (by simp[GF.addrs]) a ha)
  ·have e1:(y==n)=false:=beq_eq_false_iff_ne.mpr (Ne.symm hx)
   rw[e1] at hl;rw[if_neg (by simpa using hx)];refine⟨e,es,t,rfl,AB,r1.keep (Fz.le_refl _) fun a ha o ea=>hk a (fun q=>?_) o ea,rq rH r hk hl Oh r2⟩;subst q;exact absurd rfl (Yu a ha a (yM hl))
theorem wI(O:c.Ok)(X:aw c none fz s σ γ){x y:Str}{a dA:Addr}{fs:List (Str×GF)}(H:ke c fz s γ x (.ref a) (.obj a dA fs)){b:Addr}{CQ ds:List D}{vL:Array Value}(hl:fs.lookup y=some (.own b CQ)){h':Heap}{tk:Nat}(hs:Heap.SameBut b s.heap h')(rH:bw h' b vL)(r:a8 c.C.EC fz ds vL.toList):
 aw c none fz {s with heap:=h',toks:=tk} σ γ∧ke c fz {s with heap:=h',toks:=tk} γ x (.ref a) (.obj a dA (setG fs y (.own b ds))):=by
 have hm:=yM hl;have hb:b∈(GS.obj a dA fs).addrs:=.tail _ (.tail _ hm);refine ka (X.FA O H hb (tk:=tk) hs) fun Y hv=>?_;obtain⟨_,sl,es,n,pY,h1,h2,h3⟩:=H.rep;have Gb:=bV.mp H.nodup;have Oh:=bV.mp Gb.2;have keep:∀d,d≠b→∀o,s.heap.get? d=some o→h'.get? d=some o:=fun d hd o e=>(hs.2 d hd).trans e;have ad:(GS.obj a dA (setG fs y (.own b ds))).addrs=(GS.obj a dA fs).addrs:=congrArg (a::dA::·) (mE hl);exact⟨Y,hv,⟨rfl,sl,es,n,pY,keep a (fun q=>Gb.1 (q▸.tail _ hm)) _ h1,keep dA (fun q=>Oh.1 (q▸hm)) _ h2,rq rH r keep hl Oh.2 h3⟩,ad▸H.g9,ad▸H.gb,ad▸H.nodup⟩
theorem wJ{fs:List (Str×GF)}{y:Str}{α:Type}{f:List D→Option α}{q:α}(h:(((fs.map fun z=>(z.1,z.2.erase)).lookup y).bind fun u=>vX u f)=some q):∃b ds,fs.lookup y=some (.own b ds)∧f ds=some q:=by
 rw[ro] at h;refine aq (fw h) fun u h1 h2=>?_;refine aq (aR.mp h1) fun g h3 bq=>?_;subst bq;cases g with
 |val d=>exact nS h2
 |own b ds'=>exact⟨b,ds',h3,h2⟩
theorem HX {K:W.Frag} {fS fI:Addr} (F:CF c.C K fS fI) (O:c.Ok) (d9:∀y v,¬c.snap y v) {i:Nat} {x y:Str} {kd:NameKind} {xp yp apos sq pos:Pos} {e:Expr} {ev:St→Mo D} (hn:c.env.scope.names[i]?=some (x,kd)) (hd:(x==("__debug__":Str))=false) (hy:y∈fieldNames) (MB:noStar e=true) (sg:(apos.endLine==sq.line)=true) (h:nA prog w c e ev):
 du prog w c (.Expr (.Call (.Attribute (.Attribute (.Name x xp) y yp) "append" apos) [e] [] sq) pos) (hidden i fun o σ=>(au (ev σ)).bind (rW i y o)):=fun fz s σ r σ' I hv Q E q=>jv O I hn hv fun γ v g pg jr hv=>by
 refine iw (bh hv) fun d ai h1 h2=>?_;obtain⟨a,dA,fs,rfl,rfl,h3⟩:=pK jr h2;refine iw (wJ h3) fun b ds hb h4=>?_;refine ka (kQ h4) fun gw h5=>?_;refine aq (qq jr hb) fun vs hl hr=>?_;refine wpAny_Expr (Call_method1 rfl (bf MB) sg (Attribute_Name_ (dR (ik O jr (Ax F pg jr hy hb (fun di=>qp slot_list_append type_list_append hl (h.held O d9 di jr.tok h1 fun u a9 av lU b8 gx ru k8=>?_)) O)) hd))) (je O) rfl;refine aq (qq k8 hb) fun CO yg oX=>?_;refine append_at yg (fun h' rH nH=>?_) (by rw[←aS,oX.length];exact fQ gw);refine ka (wI O gx k8 hb (tk:=a9.toks) nH rH (ds:=ds++[d]) (by rw[iA];exact a8.append oX ⟨u,[],rfl,ru,rfl⟩)) fun jq AG=>?_;have fin:=jq.pG hn AG;rw[ux] at fin;exact q.fin h5 b8 fin
theorem uT{y:Str}{g Rz:GF}:∀{fs:List (Str×GF)},fs.lookup y=some Rz→(setG fs y g).lookup y=some g
 |[],h=>by cases h
 |(n',g')::r,h=>by
  simp only[setG]
  by_cases hx:n'=y
  ·subst hx;simp[bT]
  ·rw[if_neg (by simpa using hx),bT,beq_eq_false_iff_ne.mpr (Ne.symm hx)]
   rw[bT,beq_eq_false_iff_ne.mpr (Ne.symm hx)] at h;exact uT h
theorem uU{y:Str}{g Rz:GF}:∀{fs:List (Str×GF)},fs.lookup y=some Rz→(setG fs y g).length=fs.length
 |[],h=>by cases h
 |(n',g')::r,h=>by
  simp only[setG]
  by_cases hx:n'=y
  ·subst hx;simp
  ·rw[if_neg (by simpa using hx)]
   rw[bT,beq_eq_false_iff_ne.mpr (Ne.symm hx)] at h;simp[uU (g:=g) h]
theorem wK{y:Str}{g1 g2:GF}:∀(l:List (Str×GF)),setG (setG l y g1) y g2=setG l y g2
 |[]=>by simp[setG]
 |(n',g')::r=>by
  simp only[setG]
  by_cases hx:(n'==y)=true
  ·rw[if_pos hx,if_pos hx];simp[setG,hx]
  ·rw[if_neg hx,if_neg hx];simp[setG,hx,wK r]
theorem HY {K:W.Frag} {fS fI:Addr} (F:CF c.C K fS fI) (O:c.Ok) (d9:∀y v,¬c.snap y v) {i:Nat} {x y:Str} {kd:NameKind} {xp yp pos:Pos} {e:Expr} {ev:St→Mo D} (hn:c.env.scope.names[i]?=some (x,kd)) (hd:(x==("__debug__":Str))=false) (hy:y∈fieldNames) (h:nA prog w c e ev):
 du prog w c (.AugAssign (.Attribute (.Name x xp) y yp) .Add e pos) (hidden i fun o σ=>(au (ev σ)).bind (rV i y o)):=fun fz s σ r σ' I hv Q E q=>jv O I hn hv fun γ v g pg jr hv=>by
 refine iw (bh hv) fun d ai h1 h2=>?_;obtain⟨a,dA,fs,rfl,rfl,h3⟩:=pK jr h2;refine aq (iy h3) fun us ay h4=>?_;subst ay;refine iw (wJ h4) fun b ds hb h5=>?_;obtain⟨gw,h6⟩:=kQ h5;rw[arm_exec_AugAssign_2];refine aB (cA (aB (dR (ik O jr (aB (aQ (aB (cA (aB (Ax F pg jr hy hb (fun di=>aB (aQ (h.held O d9 di jr.tok h1 fun u a9 av lU b8 gx ru k8=>?_))) O))))))) hd)));refine aq (qq k8 hb) fun CO yg oX=>?_;obtain⟨bb,ws,nn,rfl,fb,rb⟩:=ru;refine eo (gx.g.hi.fi bb _ fb) fun slb eb=>?_;have l1:=oX.length;have l2:=rb.length;rw[aS] at l1 l2;have Yv:a8 c.C.EC av (ds++us) (CO++ws).toList:=by rw[eG];exact a8.append oX rb
 refine aB (cA (wpAny_operateT (Ez yg eb (by rw[l1,l2];exact gw.1) fun h' rH nH=>?_)));refine ka (wI O gx k8 hb (tk:=a9.toks) nH rH (ds:=ds++us) Yv) fun jq AG=>?_;refine aB (cA (aB (aQ (Aw F O jq AG hy (by rw[uU hb];simpa using gw.2) (g:=.own b (ds++us)) ⟨rfl,_,rH,Yv⟩ (by rw[mE (uT hb)];exact List.Sublist.refl _) fun s' qP Of=>?_))));rw[wK] at Of;have fin:=qP.pG hn Of;rw[ux] at fin;exact aB (wpAny_release (aF (q.fin h6 b8 fin)))
theorem DY(O:c.Ok)(I:bt c none fz s σ)(F:qn c s.heap e x)(h:∀s',bt c none fz s' σ→qn c s'.heap e x→E (.ref e) s'):
 notedBy M c.A c.env (fun e s'=>gN M c.A c.env E e s') (.ref e) s:=by
 obtain⟨γ,X⟩:=I.x;refine note O.fr O X F fun a9 di um=>?_;exact yK O di um fun cw gx uo=>h cw gx.inv (.inr (.inr uo))
theorem SQ.Oz(O:c.Ok)(q:SQ c fz r σ' Q E)(hr:r=.exc x)(le:fz.le ae)(I:bt c none ae s' σ')(F:qn c s'.heap ea x):notedBy M c.A c.env (fun e s'=>gN M c.A c.env E e s') (.ref ea) s':=
 DY O I F fun pZ Ry F''=>q.exc x hr ea pZ ae le Ry F''
theorem Mz(O:c.Ok)(ht:gk prog w c none t te)(hb:i6 prog w c body be):du prog w c (.While t body [] pos) (ji te be n):=fun fz s σ r σ' I hv Q E q=>by
 refine wpAny_While (codeAny_whileLoop (fun n s'=>∃ae CN,fz.le ae∧bt c none ae s' CN∧ji te be n CN=some (r,σ')) (fun n a9 hI=>?_) n ⟨fz,σ,Fz.le_refl _,I,hv⟩);refine sz hI fun av ai b8 az h₁=>?_;cases n with
 |zero=>exact nS h₁
 |succ n=>
  have Us:=q.le b8;refine ht.qS az h₁ (fun x hx ea s' ae le I' F=>Us.Oz O hx le I' F.toS) fun b v de cw gi fy jc e h3=>?_;cases (show v=b from e);have SD:=Us.le fy;cases b with
  |false=>exact gX (SD.fin h3 (Fz.le_refl _) jc)
  |true=>
   rcases Mo.bind_some h3 with ⟨f,oW,h4,h5⟩|⟨x,h4,rfl⟩
   ·cases f with
    |next=>exact hb gi cw de _ _ jc h4 _ _ (.vz fun l4 sf lR xu=>⟨n,fY _,sf,oW,Fz.le_trans b8 (Fz.le_trans fy lR),xu,h5⟩)
    |ret d=>
     cases h5;exact hb gi cw de _ _ jc h4 _ _ (.Ey (SD.ret d rfl))
   ·exact hb gi cw de _ _ jc h4 _ _ (.rZ fun ea l4 sf lR xu AH=>SD.Oz O rfl lR xu AH)
noncomputable def rz(c:Ac)(one:Bool)(t:Expr)(is:List Nat):Prop:=match one with
 |true=>∃x p i kd,t=.Name x p∧is=[i]∧c.env.scope.names[i]?=some (x,kd)∧isVar kd=true
 |false=>∃es n p,t=.Tuple es n p∧yL c es is
theorem Jc(T:i5 prog w A EC fz I ds lS)(st:lS i s.heap)(h:Q () s):aH (model prog w) A (letOwnedTupleGo t (.ref I) v) Q E s:=by
 obtain⟨o,e⟩:=(T.nc i _ st).2;have hc:=T.cls i _ st o e;have key:∀a,aH (model prog w) A (do
  let o ←load I
  match o.cls,o.data with
  |.type n,.fields vs=>
   if["enumerate","zip","dict_itemiterator","dict_reverseitemiterator","odict_iterator","itertools.zip_longest","itertools.pairwise"].contains n&&vs[0]?==some (rawInt a) then
    rule "for.unpacks-the-owned-tuple"
    updateField I 0 .none
  |_,_=>pure ()) Q E s:=fun a=>by
  refine aB (wpAny_load e ?_);obtain⟨c1,c2,c3,c4⟩:=o;rcases hc with hc|hc
  all_goals
   simp only at hc;subst hc;cases c3<;>first
    |exact aF h
    |(rename_i vs;have:(["enumerate","zip","dict_itemiterator","dict_reverseitemiterator","odict_iterator","itertools.zip_longest","itertools.pairwise"].contains "list_iterator")=false:=(by decide);have:(["enumerate","zip","dict_itemiterator","dict_reverseitemiterator","odict_iterator","itertools.zip_longest","itertools.pairwise"].contains "range_iterator")=false:=(by decide);simp only[*,jF,eP,if_false];exact aF h)
 cases t<;>first
  |exact aF h
  |(cases v<;>first|exact key _|exact aF h)
theorem Ay(O:c.Ok)(hA:c.A.handled=none)(d9:∀y v,¬c.snap y v)(ht:rz c one t is)(I:bt c none fz s σ)(r:Rep c.C.EC fz d v)(h:bindTo one is d σ=some σ')(hQ:∀s',bt c none fz s' σ'→Q () s'):
 aH (model prog w) c.A (assign t c.env v) Q E s:=by
 cases one with
 |true=>
  obtain⟨x,p,i,kd,rfl,rfl,hn,hk⟩:=ht;cases h;exact iB (rk O d9 I hn hk r hQ)
 |false=>
  refine yk ht fun es n p xq hN=>?_;subst xq;refine aq (Eg h) fun ds ay h1=>?_;subst ay;exact wD O hA d9 hN I (.inl rfl) r h1 hQ
variable(prog w) in
noncomputable def SB(c:Ac)(body:List Stmt)(be:St→Mo Fl):Prop:=∀h₀ bk,(c.at h₀ bk).Ok→i6 prog w (c.at h₀ bk) body be
section
variable{I':Addr}{ds:List D}{lS:Nat→Heap→Prop}{t:Expr}{body:List Stmt}{be:St→Mo Fl}{one:Bool}{is:List Nat}
theorem Jd(O:c.Ok)(hA:c.A.handled=none)(d9:∀y v,¬c.snap y v)(ht:rz c one t is)(hb:SB prog w c body be){i:Nat}(It:zF prog w c fz s σ γ I' ds lS i){d:D}{v:Value}(rv:Rep c.C.EC fz d v){f:Fl}{k:St→Mo Fl}
 (hv:((bindTo one is d σ).bind fun σ=>(be σ).bind fun f σ=>match f with
  |.next=>k σ
  |.ret d=>.ok (.ret d) σ)=some (.ok f,σ')) {F:Flow→Shared→Prop} {E:Value→Shared→Prop}
 (Ut:∀s ae γ σ,fz.le ae→zF prog w c ae s σ γ I' ds lS i→k σ=some (.ok f,σ')→F .next s) (nP:∀d v s ae,f=.ret d→fz.le ae→bt c none ae s σ'→Rep c.C.EC ae d v→F (.ret v) s):
 aH (model prog w) c.A (letOwnedTupleGo t (.ref I') v) (fun _ a9=>aH (model prog w) c.A (assign t c.env v) (fun _ cw=>aH (model prog w) c.A (execs body c.env) F E cw) E a9) E s:=by
 refine aq (fw hv) fun de XS hv=>?_;have lA:∀b∈[I'],d7 c none γ b:=fun b hb=>aK.mp hb▸It.aI;have SE:=It.X.Eu O lA;refine eo ((It.T.nc _ _ It.st).2) fun oI eI=>?_;refine Jc It.T It.st (Ay (c:=c.re fz s [I']) SE hA d9 (by cases one<;>exact ht) (It.X.zB O lA).inv rv XS fun cw jc=>?_);rcases Mo.bind_some hv with ⟨fl,oW,h4,h5⟩|⟨x,h4,hx⟩
 ·cases fl with
  |next=>
   refine hb _ _ SE fz cw de _ _ jc h4 _ _ (.vz fun l4 sf lR xu=>?_);refine eo xu.x fun Ge Eb=>?_;refine ka (It.X.vv O lA Eb I' (.head _) oI eI) fun k1 k2=>?_;have jq:=It.X.r9 O lA Eb;exact Ut l4 sf Ge oW lR ⟨jq,It.T.le lR,(It.T.le lR).tN _ _ _ It.st (fun o e=>aL (eI.symm.trans e)▸k1) jq.g.hi.fi,k2,It.X.J2 Eb I' (.head _) oI eI It.zI,It.h0,It.len⟩ h5
  |ret d=>
   cases h5;refine hb _ _ SE fz cw de _ _ jc h4 _ _ (.Ey fun v l4 sf lR xu XT=>?_);refine eo xu.x fun Ge Eb=>?_;exact nP d v l4 sf rfl lR (It.X.r9 O lA Eb).inv XT
 ·cases hx
end
theorem HZ(DO:yI iter=true)(h:aH (model prog w) A (eval iter env) (fun xv a9=>aH (model prog w) A (pyIter xv) (fun it cw=>aH (model prog w) A (runOwn (.forLoop t it body [] env) env) Q E cw) E a9) E s):aH (model prog w) A (exec (.For t iter body [] pos) env) Q E s:=by
 rw[arm_exec_For];exact aB (cA (aB (dS h (fun xv a9 h₁=>aB (gC (uS DO xv) (aB (cA (aB (aQ h₁)))))) fun _ _ x=>x)))
theorem TK(O:c.Ok)(hA:c.A.handled=none)(d9:∀y v,¬c.snap y v){pos:Pos}{rng one:Bool}{is:List Nat}{AN:St→Mo D}(DO:yI iter=true)(hit:rg prog w c iter rng AN)(ht:rz c one t is)
 (hb:SB prog w c body be):du prog w c (.For t iter body [] pos) (fun σ=>(AN σ).bind (tD rng one is be)):=fun fz s σ r σ' I hv Q E q=>
 HZ DO (hit Fl (fun ds σ=>au (forM one is be ds σ)) fz s σ r σ' I hv _ _ q.MU fun ds ai cw gi sj I' lS fy It h2=>by
  refine aq (A7 h2) fun f ay h3=>?_;subst ay;refine wpAny_runOwn (codeAny_forLoop_any (fun n s'=>∃i ae jg CN,(i≤ds.length∧n=ds.length+1-i∧gi.le ae)∧zF prog w c ae s' CN jg I' ds lS i∧forM one is be (ds.drop i) CN=some (.ok f,σ')) (fun n s' hI=>?_) (ds.length+1) ⟨0,gi,sj,ai,⟨cS _,rfl,Fz.le_refl _⟩,It,h3⟩);obtain⟨i,ae,jg,CN,⟨hi,hn,Vh⟩,MD,Ip⟩:=hI;have q':=q.le (Fz.le_trans fy Vh)
  by_cases qK:i<ds.length
  ·rw[cZ qK] at Ip
   exact MD.T.item MD.st qK fun v h₁ tk₁ rv si k7=>Jd O hA d9 ht hb (MD.turn O si k7) rv Ip
    (fun s I6 γ σ le XU h5=>⟨ds.length+1-(i+1),hn▸Nat.sub_lt_sub_left (jW qK) (fY i),i+1,I6,γ,σ,⟨qK,rfl,Fz.le_trans Vh le⟩,XU,h5⟩)
    fun d v s I6 e le I r=>q'.ret d (congrArg _ e) v s I6 le I r
  ·rw[List.drop_eq_nil_of_le (dJ qK)] at Ip
   cases Ip;exact MD.T.done MD.st qK hi fun h₁ tk₁ k7=>gX (q'.next rfl _ ae (Fz.le_refl _) (MD.X.turn O MD.aI MD.zI MD.h0 (MD.T.nc _ _ MD.st).1 k7).inv))
end Mine.Internal
namespace Mine.Internal
open PySem PyProof.Rows
variable{prog:Program}{w:World}{fz ae:Fz}{s s':Shared}{σ σ':St}{γ jg:Nat→Option GS}
structure oS(fd:FuncData)(body:List Stmt)(pn:List Str)(m:Nat)(kn:List Str):Prop where
 body:fd.body=.stmts body
 bind:∀vs:List Value,vs.length=pn.length→bindArgs fd ⟨vs.take m,kn.zip (vs.drop m)⟩=pure (pn.zip vs)
 Ow:fd.closure=[]
 glob:fd.globals=eH
 Gx:fd.builtins=fB
 kind:fd.scope.kind=.function
 co:fd.scope.isCoroutine=false
 gen:fd.scope.isGenerator=false
 pj:(fd.scope.names.map (·.1)).Nodup
 params:∀(i:Nat) (x:Str),pn[i]?=some x→fd.scope.names[i]?=some (x,.local)
 WB:pn.Nodup
structure m6(C:Bc)(h:Heap)(a:Addr)(fd:FuncData):Prop where
 ob:∃o,h.get? a=some o∧o.data=.func fd
 code:h.CodeRec fd.code fd.qualname
theorem lD:∀(names:List (Str×NameKind)) (n:Nat) (acc:List (Str×Addr)) (x:Str),((x,NameKind.cell)∈names∨∃a,acc.lookup x=some a)→∃a,(iN n names acc).lookup x=some a
 |[],n,acc,x,h=>by
  rcases h with h|h
  ·simp at h
  ·exact h
 |(y,kd)::r,n,acc,x,h=>by
  unfold iN
  by_cases hk:(kd==NameKind.cell)=true
  ·rw[if_pos hk]
   refine lD r _ _ x ?_
   by_cases xR:x=y
   ·subst xR;exact .inr ⟨n,by simp[bT]⟩
   ·rcases h with h|⟨a,h⟩
    ·simp only[aO,jS,xR,false_and,false_or] at h
     exact .inl h
    ·exact .inr ⟨a,by rw[bT,beq_eq_false_iff_ne.mpr xR];exact h⟩
  ·rw[if_neg hk]
   refine lD r _ _ x ?_;rcases h with h|h
   ·simp only[aO,jS] at h
    rcases h with ⟨rfl,rfl⟩|h
    ·exact absurd rfl hk
    ·exact .inl h
   ·exact .inr h
theorem tV{kindOf:Str→Option NameKind}:∀{pn:List Str} {vs:List Value} {m:Str→Option Value},pn.Nodup→(∀x∈pn,kindOf x=some .local)→vs.length=pn.length→(∀x,x∉pn→bindL kindOf (pn.zip vs) m x=m x)∧∀(i:Nat) (x:Str),pn[i]?=some x→bindL kindOf (pn.zip vs) m x=vs[i]?
 |[],vs,m,_,_,_=>⟨fun x _=>rfl,fun i x h=>by simp at h⟩
 |y::pn,[],m,_,_,h=>by simp at h
 |y::pn,v::vs,m,nd,hk,hl=>by
  simp only[bV] at nd;have ih:=tV (kindOf:=kindOf) (pn:=pn) (vs:=vs) (m:=fun z=>if z=y then some v else m z) nd.2 (fun x hx=>hk x (iX _ hx)) (by simpa using hl);have e:bindL kindOf ((y::pn).zip (v::vs)) m=bindL kindOf (pn.zip vs) (fun z=>if z=y then some v else m z):=by
   show bindL kindOf (pn.zip vs) (if kindOf y=some .local then fun z=>if z=y then some v else m z else m)=_;rw[if_pos (hk y (by simp))]
  rw[e];refine⟨fun x hx=>?_,fun i x h=>?_⟩
  ·simp only[aO,not_or] at hx
   rw[ih.1 x hx.2];simp[hx.1]
  ·cases i with
   |zero=>
    simp at h;subst h;rw[ih.1 y nd.1];simp
   |succ i=>simp at h;simpa using ih.2 i x h
noncomputable def l7(ds:List D):Nat→Option GS:=fun i=>(ds[i]?).map .val
noncomputable def H0(vars:Nat)(ds:List D):St:={ρ:=ds.map (fun d=>some (.val d))++eO (vars-ds.length) none,κ:=[]}
theorem Ze(vars:Nat)(ds:List D):Er (H0 vars ds) (l7 ds):=fun i=>by
 delta H0 St.get l7;simp only[List.getElem?_append,aM]
 by_cases h:i<ds.length
 ·rw[if_pos h]
  simp[dN,aY h,GS.erase]
 ·rw[if_neg h]
  rw[eR (l:=ds) (dJ h)];rw[List.getElem?_replicate]
  split<;>rfl
theorem Exc.fr(F:Exc {C with FR:=l} h₀ h e x tb):Exc C h₀ h e x tb:=by
 refine iw F fun oe vs a t=>?_;refine⟨oe,vs,⟨a.new,a.nc,a.get,a.cls.trans (by cases x<;>rfl),a.data,a.args⟩,?_⟩;cases tb with
 |none=>exact t
 |some m=>
  obtain⟨T,oT,ts,t1,t2,t3⟩:=t;exact⟨T,oT,ts,t1,⟨t2.ne,t2.new,t2.nc,t2.get,t2.data⟩,t3⟩
noncomputable def oZ(C:Bc)(A:Around)(outer:List Env)(fz:Fz)(s:Shared)(fd:FuncData)(a:Addr)(n:Nat):Ac:=
 {C:={C with FR:=s.heap.objs.size::C.FR},A:=A.deeper (callEnvC fd s.heap.objs.size a),env:=callEnvC fd s.heap.objs.size a,outer:=outer,h₀:=s.heap,bk:=fz,os:=s.os,n:=n,snap:=fun _ _=>False}
theorem jf:∀(names:List (Str×NameKind)) (n:Nat) (acc:List (Str×Addr)),(names.map (·.1)).Nodup→(acc.map (·.1)).Nodup→(∀x∈acc.map (·.1),x∉names.map (·.1))→((iN n names acc).map (·.1)).Nodup
 |[],n,acc,_,h,_=>h
 |(y,kd)::r,n,acc,nd,h,hd=>by
  simp only[aN,bV] at nd;unfold iN
  split
  ·refine jf r _ _ nd.2 ?_ fun x hx=>?_
   ·simp only[aN,bV]
    exact⟨fun hy=>hd y hy (by simp),h⟩
   ·simp only[aN,aO] at hx
    rcases hx with rfl|hx
    ·exact nd.1
    ·exact fun hr=>hd x hx (by simp only[aN,aO];exact .inr hr)
  ·exact jf r _ _ nd.2 h fun x hx hr=>hd x hx (by simp only[aN,aO];exact .inr hr)
theorem mF:∀{l:List (Str×Addr)},(l.map (·.1)).Nodup→∀{x:Str} {a:Addr},(x,a)∈l→l.lookup x=some a
 |[],_,x,a,h=>by simp at h
 |(y,b)::r,nd,x,a,h=>by
  simp only[aN,bV] at nd;simp only[aO,jS] at h;rcases h with ⟨rfl,rfl⟩|h
  ·simp[bT]
  ·have:x≠y:=fun e=>nd.1 (by rw[←e];exact bH.mpr ⟨(x,a),h,rfl⟩)
   rw[bT,beq_eq_false_iff_ne.mpr this];exact mF nd.2 h
theorem dj{h:Heap}(hb:h.objs.size≤b):h.get? b=none:=by
 cases e:h.get? b with
 |none=>rfl
 |some o=>exact absurd (Heap.lt_size e) (Nat.not_lt.mpr hb)
theorem NA{C:Bc}{A:Around}{outer:List Env}(K:C.Ok)(Df:oS fd body pn m kn)(rm:u6 (n+1) A)(AO:A.frames=some outer)(Ec:C.FR=outer.filterMap (·.frame))(vi:Frs C s.heap outer)(H:HI C fz s.heap)(hB:C.rJ.le fz)
 (hc:∀n' c',(n',c')∈(callEnvC fd s.heap.objs.size a).cells→s.heap.objs.size<c') (hap:(callEnvC fd s.heap.objs.size a).cells.Pairwise fun x y=>x.2≠y.2):(oZ C A outer fz s fd a n).Ok:=by
 refine⟨K.fr _,⟨?_,?_⟩,?_,?_,Df.kind,rfl,Df.glob,Df.Gx,Df.pj,H.fr _,hB,ej _,fun x b h=>dj (aZ (hc x b h)),fun x h=>?_,hap,vi⟩
 ·have:=rm.depth;show A.depth+1+2*n<800;lia
 ·have:=rm.units;show A.units+3+20*n<5000;lia
 ·show A.frames.map _=_;rw[AO];rfl
 ·show s.heap.objs.size::C.FR=_
  rw[Ec];rfl
 ·exact lD _ _ _ x (.inl (eY h))
theorem mG(h:l7 ds i=some g):∃d,ds[i]?=some d∧g=.val d:=(aR.mp h).elim fun d h=>⟨d,h.1,h.2.symm⟩
section
variable{C:Bc}{A:Around}{outer:List Env}{fd:FuncData}{a:Addr}{n:Nat}{body:List Stmt}{pn:List Str}{m:Nat}{kn:List Str}
theorem H2(Df:oS fd body pn m kn)(H:HI C fz s.heap)(hg:s.gens=#[]){vs:List Value}{ds:List D}(rs:a8 C.EC fz ds vs)(hlen:ds.length=pn.length)(vars:Nat){h₁:Heap}{tk₁:Nat}(hk:∀b o,s.heap.get? b=some o→h₁.get? b=some o)
 (ns:h₁.Ns s.heap.objs.size (bindL (callEnvC fd s.heap.objs.size a).kindOf (pn.zip vs) fun _=>none)) (cell:∀x b,(callEnvC fd s.heap.objs.size a).cells.lookup x=some b→∃v,h₁.IsCell b v) (above:∀x b,(x,b)∈(callEnvC fd s.heap.objs.size a).cells→s.heap.objs.size<b):
 aw (oZ C A outer fz s fd a n) none fz {s with heap:=h₁,toks:=tk₁} (H0 vars ds) (l7 ds):=by
 have XW:vs.length=pn.length:=by rw[rs.length,hlen]
 have hp:∀{i d},ds[i]?=some d→∃x,pn[i]?=some x∧fd.scope.names[i]?=some (x,NameKind.local):=fun{i d} h=>by
  have hi:=hlen▸(bL.mp h).1;exact⟨_,aY hi,Df.params i _ (aY hi)⟩
 have hbl:=tV (kindOf:=(callEnvC fd s.heap.objs.size a).kindOf) (pn:=pn) (vs:=vs) (m:=fun _=>none) Df.WB (fun y hy=>by
  obtain⟨i,hi,e⟩:=jD hy;exact cm Df.pj (i:=i) (by rw[←e];exact Df.params i _ (aY hi))) XW
 refine⟨⟨fun _ _ h=>h.elim,.of_keeps hk,(H.fr _).keeps hk,Fz.le_refl _,fun _ h=>.inl h,hg,rfl,⟨_,ns⟩,fun y b h=>cell y b (mF (jf _ _ [] Df.pj .nil (fun x hx=>nomatch hx)) h),H.fh (ej _),fun y b h=>H.fh (dj (aZ (above y b h))),
  fun i g h=>?_,fun i y kd g h1 h2=>?_,fun i g h a' ha=>?_,fun i g h=>?_,fun i j g g' _ h _ a' ha=>?_⟩,Ze vars ds,trivial⟩
 ·refine aq (mG h) fun d h1 _=>?_
  refine aq (hp h1) fun x _ h2=>?_;exact⟨_,_,h2⟩
 ·refine aq (mG h2) fun d h3 bq=>?_;subst bq
  refine aq (hp h3) fun x h4 h5=>?_;cases aL (h5.symm.trans h1);refine aq (rs.get i d h3) fun v hv rv=>?_;exact⟨v,.inl ⟨cm Df.pj h5,_,ns,(hbl.2 i _ h4).trans hv⟩,rv⟩
 ·refine aq (mG h) fun d _ bq=>?_;subst bq;cases ha
 ·refine aq (mG h) fun d _ bq=>?_;subst bq;exact .nil
 ·refine aq (mG h) fun d _ bq=>?_;subst bq;cases ha
theorem qC(hg:s.gens=#[])(I:bt (oZ C A outer fz s fd a n) none ae s' σ'):bp C fz s ae s':=by
 refine eo I.x fun jg Y=>?_;refine⟨fun b o e hP=>?_,Y.g.le,Y.g.new,Y.g.hi.fr C.FR,Y.g.gens.trans hg.symm,Y.g.os⟩;refine aq (Y.g.kp b o e hP) fun sl e' q=>?_;refine⟨sl,e',q.imp_left fun q=>?_⟩;rcases aO.mp q with q|q
 ·exact absurd (Heap.lt_size e) (by rw[q];exact jP _)
 ·exact q
noncomputable def Zf:Flow→Value
 |.ret v=>v
 |_=>.none
theorem wL{vs:List Value}{ds:List D}(K:C.Ok)(Df:oS fd body pn m kn)(DA:m6 C s.heap a fd)
 (rm:u6 (n+1) A) (AO:A.frames=some outer) (Ec:C.FR=outer.filterMap (·.frame)) (vi:Frs C s.heap outer) (H:HI C fz s.heap) (hB:C.rJ.le fz) (hg:s.gens=#[]) (rs:a8 C.EC fz ds vs) (hlen:ds.length=pn.length) (vars:Nat)
 (hb:(oZ C A outer fz s fd a n).Ok→∀a9,aw (oZ C A outer fz s fd a n) none fz a9 (H0 vars ds) (l7 ds)→aH (model prog w) (oZ C A outer fz s fd a n).A (execs body (oZ C A outer fz s fd a n).env) (fun f s'=>Q (Zf f) s') (fun e s'=>aH (model prog w) (oZ C A outer fz s fd a n).A (leaving (oZ C A outer fz s fd a n).env e) (fun _ pZ=>E e pZ) E s') a9):
 aH (model prog w) A (call (.ref a) (vs.take m) (kn.zip (vs.drop m))) Q E s:=by
 refine hU ?_;refine aq DA.ob fun o ho hd=>?_;refine codeAny_call_function (by have:=rm.depth;unfold recursionLimit;exact cV (cL (aG (aZ this) (by decide)))) ho hd Df.co Df.gen Df.body DA.code ?_;rw[Df.bind vs (rs.length.trans hlen),Df.Ow];refine aF (wpAny_newFunctionEnv_cells Df.kind (fun x hx=>.inl ?_) fun env he a9 x=>?_)
 ·refine eo (List.getElem?_of_mem (List.of_mem_zip hx).1) fun i hi=>?_
  exact cm Df.pj (Df.params i _ hi)
 ·subst he
  refine⟨(H.lim K).keeps x.toInCall.keep,codeAny_func ?_⟩;have hk:=x.toInCall.keep;refine kK x.toInCall.same fun h₁ tk₁ bq=>?_;subst bq;exact hb (NA K Df rm AO Ec vi H hB x.above x.apart) _ (H2 (A:=A) (outer:=outer) (n:=n) (tk₁:=tk₁) Df H hg rs hlen vars hk x.toInCall.ns (fun y b h=>⟨_,x.cell y b h⟩) x.above)
theorem Az{vs:List Value}{ds:List D}(K:C.Ok)(Df:oS fd body pn m kn)(DA:m6 C s.heap a fd)
 (rm:u6 (n+1) A) (AO:A.frames=some outer) (Ec:C.FR=outer.filterMap (·.frame)) (vi:Frs C s.heap outer) (H:HI C fz s.heap) (hB:C.rJ.le fz) (hg:s.gens=#[]) (rs:a8 C.EC fz ds vs) (hlen:ds.length=pn.length)
 (hb:(oZ C A outer fz s fd a n).Ok→i6 prog w (oZ C A outer fz s fd a n) body be)
 (hr:(match be (H0 vars ds) with
  |some (.ok .next,_)=>some (.ok .none)
  |some (.ok (.ret d),_)=>some (.ok d)
  |some (.exc x,_)=>some (.exc x)
  |none=>none)=some r):cg prog w C A (call (.ref a) (vs.take m) (kn.zip (vs.drop m))) fz s r:=fun Q E hQ hE=>
 wL K Df DA rm AO Ec vi H hB hg rs hlen vars fun O a9 az=>by
  revert hr;cases Oi:be (H0 vars ds) with
  |none=>exact nS
  |some p=>
   obtain⟨rr,σ'⟩:=p;have go:=hb O fz _ _ rr σ' az.inv Oi;cases rr with
   |ok f=>
    cases f with
    |next=>exact fun hr=>go _ _ (.vz fun s' ae le I'=>hQ _ (aL hr).symm _ s' ae (qC hg I') rfl)
    |ret d=>exact fun hr=>go _ _ (.Ey fun v s' ae le I' rv=>hQ _ (aL hr).symm v s' ae (qC hg I') rv)
   |exc x=>
    refine fun hr=>go _ _ (.rZ fun ea s' ae le I' F=>?_);obtain⟨jg,Y⟩:=I'.x;exact aB (note (c:=oZ C A outer fz s fd a n) O.fr O Y F fun cw XX uo=>kr (c:=oZ C A outer fz s fd a n) O XX uo none fun l4 Eb AH=>hE _ (aL hr).symm ea l4 ae (qC hg Eb.inv) (.inr AH.fr))
end
end Mine.Internal
namespace Mine.Internal
open PySem PyProof.Rows
variable{prog:Program}{w:World}{c:Ac}{k:Option Cc}{fz ae:Fz}{s s':Shared}{σ σ':St}{γ jg:Nat→Option GS}
noncomputable def Ac.hand(c:Ac)(e:Addr):Ac:={c with A:=c.A.mark (some (.ref e))}
theorem Ac.Ok.hand(O:c.Ok)(e:Addr):(c.hand e).Ok:=⟨O.K,⟨O.room.depth,O.room.units⟩,O.fr,O.FR,O.kind,O.frame,O.glob,O.Gx,O.pj,O.base,O.rJ,O.u9,O.Gy,O.nL,O.apart,O.pk⟩
theorem aw.Q6(e:Addr)(X:aw c none fz s σ γ):aw (c.hand e) none fz s σ γ:=
 ⟨⟨X.g.snap,X.g.kp,X.g.hi,X.g.le,X.g.new,X.g.gens,X.g.os,X.g.ns,X.g.cell,X.g.AL,X.g.A4,X.g.AM,X.g.vars,fun i g hg a ha=>let m:=X.g.g9 i g hg a ha;⟨m.new,m.fz,m.L,m.cells⟩,X.g.nodup,X.g.apart⟩,X.e,trivial⟩
theorem aw.wM{e:Addr}(X:aw (c.hand e) none fz s σ γ):aw c none fz s σ γ:=
 ⟨⟨X.g.snap,X.g.kp,X.g.hi,X.g.le,X.g.new,X.g.gens,X.g.os,X.g.ns,X.g.cell,X.g.AL,X.g.A4,X.g.AM,X.g.vars,fun i g hg a ha=>let m:=X.g.g9 i g hg a ha;⟨m.new,m.fz,m.L,m.cells⟩,X.g.nodup,X.g.apart⟩,X.e,trivial⟩
theorem wN:eF (.type "IndexError") (.type "BaseException")=pure true:=by rw[bK];kernel_rfl
theorem wO:eF (.type "ValueError") (.type "BaseException")=pure true:=by rw[bK];kernel_rfl
theorem wQ:eF (.type "IndexError") (.type "IndexError")=pure true:=by rw[bK];kernel_rfl
theorem wR:eF (.type "ValueError") (.type "ValueError")=pure true:=by rw[bK];kernel_rfl
theorem wU:eF (.type ((Manifest.find? "IndexError").elim "type" fun x=>x.metatype)) (.type "tuple")=pure false:=by
 rw[show(Manifest.find? "IndexError").elim "type" (fun x=>x.metatype)="type" by kernel_rfl,bK];kernel_rfl
theorem wV:eF (.type ((Manifest.find? "ValueError").elim "type" fun x=>x.metatype)) (.type "tuple")=pure false:=by
 rw[show(Manifest.find? "ValueError").elim "type" (fun x=>x.metatype)="type" by kernel_rfl,bK];kernel_rfl
theorem bt.wM(I:bt (c.hand e) none fz s σ):bt c none fz s σ:=I.x.elim fun γ X=>X.wM.inv
theorem SQ.hand(O:c.Ok)(q:SQ c fz r σ' Q E):SQ (c.hand e) fz r σ' Q (notedBy (model prog w) (c.A.mark (some (.ref e))) c.env fun x s'=>gN (model prog w) c.A c.env E x s'):=
 ⟨fun hf oi su yh AI=>q.next hf oi su yh AI.wM,fun d hf v oi su yh AI XY=>q.ret d hf v oi su yh AI.wM XY,fun y hy eb oi su yh AI XZ=>by
  obtain⟨Uu,I9⟩:=AI.wM.x;exact note (c:=c) (A:=c.A.mark (some (.ref e))) O.fr O I9 XZ fun aAk X0 X5=>yK O X0 X5 fun SF ME X6=>q.exc y hy eb SF su yh ME.inv (.inr (.inr X6))⟩
theorem yN(h:tE m sel=some (r,σ')):(∃f,m=some (.ok f,σ')∧r=.ok f)∨∃x ai f,m=some (.exc x,ai)∧sel x=some f∧f ai=some (r,σ'):=by
 cases m with
 |none=>exact nS h
 |some p=>
  obtain⟨q,ai⟩:=p;cases q with
  |ok f=>cases h;exact .inl ⟨f,rfl,rfl⟩
  |exc x=>
   refine aq (fw h) fun f hs h1=>?_;exact .inr ⟨x,ai,f,rfl,hs,h1⟩
theorem PA (O:c.Ok) {xT:X} (Oe:xT.cls c.C=.type T) (h1:eF (.type T) (.type "BaseException")=pure true) (h2:eF (.type ((Manifest.find? T).elim "type" fun x=>x.metatype)) (.type "tuple")=pure false) (h3:eF (.type T) (.type T)=pure true)
 (hg:c.C.mg (Str.ofString T)=none) (hbt:c.C.mb (Str.ofString T)=some (.type T)) (hx:globK c none (Str.ofString T)) (Uv:(Str.ofString T==("__debug__":Str))=false)
 (hb:i6 prog w c body be) (hh:∀e,i6 prog w (c.hand e) (AJ::MH) he) (SG:∀x f,sel x=some f→x.cls c.C=.type T∧f=he):
 du prog w c (.Try body [.ExceptHandler (some (.Name (Str.ofString T) tp)) none (AJ::MH) hp] [] [] pos) (fun σ=>tE (be σ) sel):=fun fz s σ r σ' I hv Q E q=>by
 refine wpAny_Try_except ?_;rcases yN hv with ⟨f,Oi,rfl⟩|⟨x,ai,f,Oi,hs,hv⟩
 ·exact hb fz s σ _ _ I Oi _ _ ⟨fun hf a9 av b8 az=>gX (q.next hf a9 av b8 az),q.ret,fun x hx=>(nomatch hx)⟩
 ·refine ka (SG x f hs) fun hc ay=>?_;subst ay
  refine hb fz s σ _ _ I Oi _ _ (.rZ fun ea a9 av b8 az um=>?_);refine eo az.x fun lU di=>?_;refine note O.fr O di um fun cw gx uo=>kr O gx uo none fun l4 jq AH=>wpAny_handleBy_builtin h1 h2 h3 (X:=T) (ij (c:=c) (k:=none) O trivial jq.g.hi hx hg hbt ⟨rfl,?_,?_⟩ Uv)
  ·refine iw AH fun oe vs a _=>?_
   exact⟨oe,a.get,a.cls.trans hc⟩
  ·exact kr O jq AH none fun sk qP Uw=>hh ea av sk ai r σ' (qP.Q6 ea).inv hv _ _ ((q.le b8).hand O)
theorem ia:∀{fs:List (Str×GF)},x∈((setG fs y (.own b ds)).flatMap fun z=>z.2.addrs)→x=b∨x∈(fs.flatMap fun z=>z.2.addrs)
 |[],h=>.inl (aK.mp h)
 |(n,g)::r,h=>by
  rw[setG] at h
  split at h
  ·exact(aO.mp h).imp_right (dU _)
  ·exact(cB.mp h).elim (fun h=>.inr (dI _ h)) fun h=>(ia h).imp_right (dU _)
theorem nQ:∀{fs:List (Str×GF)},(fs.flatMap fun z=>z.2.addrs).Nodup→b∉(fs.flatMap fun z=>z.2.addrs)→((setG fs y (.own b ds)).flatMap fun z=>z.2.addrs).Nodup
 |[],_,_=>.cons nofun .nil
 |(n,g)::r,nd,hb=>by
  have nd:=hW.mp nd;have hr:b∉_:=fun h=>hb (dU _ h);rw[setG]
  split
  ·exact bV.mpr ⟨hr,nd.2.1⟩
  ·exact hW.mpr ⟨nd.1,nQ nd.2.1 hr,fun a ha a' CM=>(ia CM).elim (fun h e=>hb (dI _ ((e.trans h)▸ha))) fun h=>nd.2.2 a ha a' h⟩
noncomputable def pL(i:Nat)(x:Str)(y:D)(σ:St):Mo Fl:=(σ.get i).bind fun o=>yA o fun fs=>kl y fun zs=>if fs.length<100 then Mo.ok .next (σ.put i (.obj (setField fs x (.own zs)))) else none
theorem Je{K:W.Frag}{fS fI:Addr}(F:CF c.C K fS fI)(O:c.Ok){x y:Str}{a dA D':Addr}{fs:List (Str×GF)}{ys:Array Value}{zs:List D}(X:aw c none fz s σ γ)(H:ke c fz s γ x (.ref a) (.obj a dA fs))(hy:y∈fieldNames)(hlen:fs.length<100)
 (hl:bw s.heap D' ys) (r:a8 c.C.EC fz zs ys.toList) (AD:d7 c none γ D') (hz:fz D'=none) (h0:c.h₀.get? D'=none) (nD:D'∉(GS.obj a dA fs).addrs) {E:Value→Shared→Prop} {Q:Unit→Shared→Prop}
 (hQ:∀s',aw c none fz s' σ γ→ke c fz s' γ x (.ref a) (.obj a dA (setG fs y (.own D' zs)))→Q () s'):aH (model prog w) c.A (setAttr (.ref a) y (.ref D')) Q E s:=by
 obtain⟨_,sl,es,n,pY,g1,g2,g3⟩:=H.rep;have XR:es.size<900:=by
  have:=pH g3;rw[aS] at this
  lia
 have Gb:=bV.mp H.nodup;have Oh:=bV.mp Gb.2;have mem:∀{b},b∈(GS.obj a dA (setG fs y (.own D' zs))).addrs→b=D'∨b∈(GS.obj a dA fs).addrs:=fun hb=>(aO.mp hb).elim (fun h=>.inr (h▸.head _)) fun hb=>(aO.mp hb).elim (fun h=>.inr (h▸.tail _ (.head _))) fun hb=>(ia hb).imp_right fun h=>.tail _ (.tail _ h);have out:∀{b},b∈((setG fs y (.own D' zs)).flatMap fun z=>z.2.addrs)→b≠dA:=fun hb q=>(ia hb).elim (fun h=>nD (h▸q▸.tail _ (.head _))) fun h=>Oh.1 (q▸h);refine wH F X.g.hi g1 g2 hy (nB g3) XR fun h' tk tx n' nH Og=>?_;refine ka (X.FA O H (a:=dA) (.tail _ (.head _)) (tk:=tk) nH) fun Y Ip=>?_;refine hQ _ Y ⟨Ip,⟨rfl,sl,_,n',pY,(nH.2 a fun q=>Gb.1 (q▸.head _)).trans g1,Og,(pI (x:=y) (hsh:=PyData.keyHash w.params y) (t:=tx) (g:=.own D' zs) (v:=.ref D') ⟨rfl,ys,hl,r⟩ g3).keep (Fz.le_refl _) fun b hb o e=>(nH.2 b (out hb)).trans e⟩,
  fun b hb=>(mem hb).elim (fun h=>h▸⟨h0,hz,AD.L,AD.cells⟩) (H.g9 b),fun b hb=>(mem hb).elim (fun h=>h▸AD) (H.gb b),bV.mpr ⟨fun h=>?_,bV.mpr ⟨fun h=>out h rfl,nQ Oh.2 fun h=>nD (.tail _ (.tail _ h))⟩⟩⟩
 rcases aO.mp h with h|h
 ·exact Gb.1 (h▸.head _)
 ·exact(ia h).elim (fun h=>nD (h▸.head _)) fun h=>Gb.1 (.tail _ h)
theorem qX {K:W.Frag} {fS fI:Addr} (F:CF c.C K fS fI) (O:c.Ok) {i:Nat} {x y:Str} {kd:NameKind} {xp ap pos:Pos} {e:Expr} {ev:St→Mo D} (hn:c.env.scope.names[i]?=some (x,kd)) (hd:(x==("__debug__":Str))=false) (hy:y∈fieldNames) (hc:mC e=true) (h:mB prog w c e ev):
 du prog w c (.Assign [.Attribute (.Name x xp) y ap] e pos) (fun σ=>(ev σ).bind (pL i y)):=fun fz s σ r σ' I hv Q E q=>
 plainObj_wpAny_Assign_Attribute (h Fl _ fz s σ r σ' I hv _ _ q.MU fun zs ai a9 av lU D' ys b8 L h2=>by
  refine aq (fw h2) fun o ho h3=>?_;obtain⟨v,g,⟨hg,rfl⟩,gx,k8⟩:=L.X.hide O hn ho;obtain⟨a,dA,fs,rfl,rfl,h4⟩:=pK k8 h3;refine ka (kQ (show(if(fs.map fun y=>(y.1,y.2.erase)).length<100 then Mo.ok Fl.next (ai.put i (.obj (setField (fs.map fun y=>(y.1,y.2.erase)) y (.own zs)))) else none)=some (r,σ') from h4)) fun hlen h5=>?_;refine dR (ik O k8 (Je F O gx k8 hy (by simpa using hlen) L.hl L.r ⟨L.A.L,L.A.cells,fun j g' hj=>L.A.own j g' (kV hj).2,L.A.cc,L.A.P,L.A.FR⟩ L.z L.h0 (L.A.own i _ hg) fun s' jq AG=>?_)) hd;have fin:=jq.pG hn AG;rw[ux,St.wB] at fin;exact q.fin h5 b8 fin) (pF hc)
structure tW(fd:FuncData)(body:List Stmt):Prop where
 df:oS fd body ["self"] 1 []
 shape:∃p1 p2 p3 p4 p5 p6 p7 p8 p9 QE Oj Ux Uy Yw X7 Yx n1 n2,body=[
  .Assign [.Attribute (.Name "self" p1) "useragents" p2] (.List [] p3) p4,
  .Assign [.Attribute (.Name "self" p5) "rulelines" p6] (.List [] p7) p8,
  .Assign [.Attribute (.Name "self" p9) "delay" QE] (.Constant .none n1 Oj) Ux,
  .Assign [.Attribute (.Name "self" Uy) "req_rate" Yw] (.Constant .none n2 X7) Yx]
noncomputable def NB(e1 e2:St→Mo Fl):St→Mo Fl:=fun σ=>(e1 σ).bind fun f σ=>match f with
 |.next=>e2 σ
 |.ret d=>.ok (.ret d) σ
noncomputable def Q7:St→Mo D:=fun σ=>(fe [] σ).bind jt
noncomputable def Jf:St→Mo D:=fun σ=>Mo.ok .none σ
noncomputable def PB:St→Mo Fl:=NB (fun σ=>(Q7 σ).bind (pL 0 "useragents")) (NB (fun σ=>(Q7 σ).bind (pL 0 "rulelines")) (NB (fun σ=>(Jf σ).bind (nK 0 "delay")) (NB (fun σ=>(Jf σ).bind (nK 0 "req_rate")) fun σ=>Mo.ok .next σ)))
noncomputable def wW:List (Str×FS):=[("useragents",.own []),("rulelines",.own []),("delay",.val .none),("req_rate",.val .none)]
theorem H3:∃σ',PB {ρ:=some (.obj [])::l,κ:=[]}=some (.ok .next,σ')∧σ'.get 0=some (.obj wW):=by
 refine⟨{ρ:=some (.obj wW)::l,κ:=[]},?_,rfl⟩;kernel_rfl
theorem DZ {K:W.Frag} {fS fI:Addr} (F:CF c.C K fS fI) (O:c.Ok) {fd:FuncData} {body:List Stmt} (I:tW fd body) (hn:c.env.scope.names[0]?=some (("self":Str),NameKind.local)):i6 prog w c body PB:=by
 obtain⟨p1,p2,p3,p4,p5,p6,p7,p8,p9,QE,Oj,Ux,Uy,Yw,X7,Yx,n1,n2,rfl⟩:=I.shape;have hd:(("self":Str)==("__debug__":Str))=false:=by decide +kernel
 have own:∀p,mB prog w c (.List [] p) Q7:=fun p=>An O (es:=[]) (evs:=[]) trivial rfl;have Yy:∀n p,aj prog w c none (.Constant .none n p) Jf:=fun n p=>nx (k:=none) O trivial .none;exact wA (qX F O hn hd (by decide +kernel) rfl (own p3))
  (wA (qX F O hn hd (by decide +kernel) rfl (own p7))
   (wA (tU F O hn hd (by decide +kernel) rfl (Yy n1 Oj))
    (wA (tU F O hn hd (by decide +kernel) rfl (Yy n2 X7)) Ox)))
structure Q8(C:Bc)(bk:Fz)(h₀:Heap)(fz:Fz)(h:Heap)(a dA:Addr)(fs:List (Str×GF)):Prop where
 rep:mw C.EC fz h (.obj a dA fs) (.ref a)
 new:∀b∈(GS.obj a dA fs).addrs,h₀.get? b=none
 fz:∀b∈(GS.obj a dA fs).addrs,fz b=none
 nodup:(GS.obj a dA fs).addrs.Nodup
theorem jj.WC(G:jj c fz s fun _=>none)(hn:c.env.scope.names[0]?=some (x,.local)){g:GS}(hv:fo c s.heap x v)(r:mw c.C.EC fz s.heap g v)(mi:∀a∈g.addrs,mZ c fz a)(nd:g.addrs.Nodup):jj c fz s (upd (fun _=>none) 0 g):=
 ⟨G.snap,G.kp,G.hi,G.le,G.new,G.gens,G.os,G.ns,G.cell,G.AL,G.A4,d0 ⟨_,_,hn⟩ fun _ _ _ h=>vN rfl h,
  fun i y kd g' hy hi=>d0 (g:=g) (P:=fun i g'=>c.env.scope.names[i]?=some (y,kd)→∃v,fo c s.heap y v∧mw c.C.EC fz s.heap g' v) (fun hy=>by cases aL (hn.symm.trans hy);exact⟨v,hv,r⟩) (fun _ _ _ h=>vN rfl h) i g' hi hy,
  d0 mi fun _ _ _ h=>vN rfl h,d0 nd fun _ _ _ h=>vN rfl h,fun i j g1 g2 iv hi hj=>d0 (g:=g) (P:=fun i g1=>i≠j→∀a∈g1.addrs,a∉g2.addrs) (fun iv=>d0 (g:=g) (P:=fun j g2=>0≠j→∀a∈g.addrs,a∉g2.addrs) (fun h=>absurd rfl h) (fun _ _ _ h=>vN rfl h) j g2 hj iv) (fun _ _ _ h=>vN rfl h) i g1 hi iv⟩
theorem D0{K:W.Frag}{fS fI:Addr}(F:CF c.C K fS fI)(O:c.Ok)(X:aw c none fz s σ γ){fd:FuncData}{body:List Stmt}(Ik:tW fd body)(DA:m6 c.C s.heap fI fd)(Yz:2≤c.n){E:Value→Shared→Prop}{Q:Value→Shared→Prop}
 (hQ:∀s' ae a dA fs,bp c.C fz s ae s'→(fs.map fun y=>(y.1,y.2.erase))=wW→Q8 c.C fz s.heap ae s'.heap a dA fs→Q (.ref a) s'):aH (model prog w) c.A (call (.ref c.C.EC) []) Q E s:=by
 have Df:=Ik.df;have Xk:=F.S7 X.g.hi;obtain⟨h,g,dr,t,os⟩:=s;refine hU ?_;refine W.make_core (W.makes_of Xk F.makes) (W.looks_findIn Xk F.init) (fun self=>W.bind_fn Xk self (beq_iff_eq.mp F.initFn)) (.inl rfl) ?_;generalize Uz:(h.push W.emptyDict).push (W.instObj c.C.EC h.objs.size)=h2;have Gf:∀b o,h.get? b=some o→h2.get? b=some o:=fun b o e=>by rw[←Uz];exact Heap.get?_push_of_some _ (Heap.get?_push_of_some _ e)
 have ha:h2.get? (h.objs.size+1)=some (W.instObj c.C.EC h.objs.size):=by rw[←Uz];heap_get
 have hdA:h2.get? h.objs.size=some W.emptyDict:=by rw[←Uz];heap_get
 have gw:h2.objs.size=h.objs.size+2:=by rw[←Uz];simp[Heap.size_push]
 have VA:∀{b},h2.objs.size≤b→h.objs.size≤b:=fun hb=>aG (aG (aP _ 2) (bO gw.symm)) hb;clear Uz;refine aq DA.ob fun o ho hd=>?_;have rm:=O.room;have hw:(Code.builtin "type.__call__" ⟨[.ref c.C.EC],[]⟩).weight=1:=by rfl
 have hu:(Code.builtin "type.__call__" ⟨[.ref c.C.EC],[]⟩).cUnits=1:=by rfl
 have ZA:(Code.builtin "type.__call__" ⟨[.ref c.C.EC],[]⟩).envs=[]:=by rfl
 generalize Vi:c.A.under (.builtin "type.__call__" ⟨[.ref c.C.EC],[]⟩)=A1;have ZC:A1.depth=c.A.depth+1:=by rw[←Vi];show c.A.depth+_=_;rfl
 have A1u:A1.units=c.A.units+1:=by rw[←Vi];show c.A.units+_=_;rfl
 have A1f:A1.frames=some (c.env::c.outer):=by rw[←Vi];unfold Around.under;dsimp only;rw[ZA,O.fr];rfl
 clear Vi hw hu ZA;refine codeAny_call_function (by rw[ZC];have:=rm.depth;unfold recursionLimit;lia) (Gf _ _ ho) hd Df.co Df.gen Df.body (DA.code.keeps Gf) ?_;have VB:bindArgs fd ⟨[.ref (h.objs.size+1)],[]⟩=pure [(("self":Str),Value.ref (h.objs.size+1))]:=Df.bind [.ref (h.objs.size+1)] rfl;have hp:=Df.params 0 _ rfl;rw[VB,Df.Ow];refine aF (wpAny_newFunctionEnv_cells Df.kind (fun x hx=>.inl ?_) fun env he a9 x=>?_)
 ·cases aK.mp hx
  exact cm Df.pj hp
 ·subst he
  refine⟨((X.g.hi.lim O.K).keeps Gf).keeps x.toInCall.keep,codeAny_func ?_⟩
  let c2:Ac:={C:={c.C with FR:=h2.objs.size::c.C.FR},A:=A1.deeper (callEnvC fd h2.objs.size fI),env:=callEnvC fd h2.objs.size fI,outer:=c.env::c.outer,h₀:=h,bk:=fz,os:=os,n:=c.n-2,snap:=fun y v=>y="self"∧v=.ref (h.objs.size+1)}
  have O2:c2.Ok:=by
   refine⟨O.K.fr _,⟨?_,?_⟩,?_,?_,Df.kind,rfl,Df.glob,Df.Gx,Df.pj,X.g.hi.fr _,Fz.le_trans O.rJ X.g.le,dj (VA (bB _)),fun y b hy=>dj (VA (aZ (x.above y b hy))),fun y hy=>lD _ _ _ y (.inl (eY hy)),x.apart,X.g.vi O⟩
   ·have:=rm.depth;show A1.depth+1+2*(c.n-2)<800;rw[ZC];lia
   ·have:=rm.units;show A1.units+3+20*(c.n-2)<5000;rw[A1u];lia
   ·show A1.frames.map _=_;rw[A1f];rfl
   ·show h2.objs.size::c.C.FR=_
    rw[O.FR];rfl
  have hk:∀b o,h2.get? b=some o→a9.heap.get? b=some o:=x.toInCall.keep;refine kK x.toInCall.same fun h₁ tk₁ bq=>?_;subst bq;have ZD:∀b o,h.get? b=some o→h₁.get? b=some o:=fun b o e=>hk b o (Gf b o e);have yi:(callEnvC fd h2.objs.size fI).kindOf "self"=some .local:=cm Df.pj (i:=0) hp;have QF:fo c2 h₁ "self" (.ref (h.objs.size+1)):=.inl ⟨yi,_,x.toInCall.ns,(tV (pn:=[("self":Str)]) (vs:=[Value.ref (h.objs.size+1)]) (m:=fun _=>none) (.cons nofun .nil) (fun x hx=>aK.mp hx▸yi) rfl).2 0 _ rfl⟩;have El:∀b,h.objs.size≤b→fz b=none:=fun b hb=>X.g.hi.fh (dj hb);have G0:jj c2 fz {(⟨h2,g,dr,t,os⟩:Shared) with heap:=h₁,toks:=tk₁} fun _=>none:=
   ⟨fun y v e=>e.1▸e.2▸QF,.of_keeps ZD,(X.g.hi.fr _).keeps ZD,Fz.le_refl _,fun _ hz=>.inl hz,X.g.gens,rfl,⟨_,x.toInCall.ns⟩,fun y b hy=>⟨_,x.cell y b (mF (jf _ _ [] Df.pj .nil (fun x hx=>nomatch hx)) hy)⟩,El _ (VA (bB _)),fun y b hy=>El b (VA (aZ (x.above y b hy))),
    fun i g h=>(nomatch h),fun i x k g _ h=>(nomatch h),fun i g h=>(nomatch h),fun i g h=>(nomatch h),fun i j g g' _ h=>(nomatch h)⟩
  have VC:∀b,h.objs.size≤b→b<h2.objs.size→mZ c2 fz b:=fun b h1 h2=>⟨dj h1,El b h1,fun q=>absurd h2 (Nat.not_lt.mpr (bO q.symm)),fun y b' hy q=>absurd (Nat.lt_trans h2 (x.above y b' hy)) (q▸jP _)⟩;have X2:aw c2 none fz {(⟨h2,g,dr,t,os⟩:Shared) with heap:=h₁,toks:=tk₁} {ρ:=some (.obj [])::[],κ:=[]} (upd (fun _=>none) 0 (.obj (h.objs.size+1) h.objs.size [])):=
   ⟨G0.WC hp QF ⟨rfl,_,_,_,_,hk _ _ ha,hk _ _ hdA,rfl⟩ (pz (VC _ (Nat.le_succ _) (by rw[gw];exact fY _)) (VC _ (bB _) (by rw[gw];exact Nat.lt_add_of_pos_right (by decide)))) (bV.mpr ⟨fun h=>absurd (aK.mp h) (Nat.succ_ne_self _),.cons nofun .nil⟩),fun i=>by cases i<;>rfl,trivial⟩
  refine aq (H3 (l:=[])) fun Iu Ed uq=>?_;have F2:CF c2.C K fS fI:=⟨F.Vx,F.kP,F.get,F.dict,F.attr,F.set,F.over,F.str,F.strFn,F.makes,F.init,F.initFn⟩;refine DZ (c:=c2) F2 O2 Ik hp fz _ _ _ Iu X2.inv Ed _ _ (.vz fun s' ae le I'=>?_);refine eo I'.x fun γ3 X3=>?_;obtain⟨v,g3,⟨_,Ib⟩,X4,H4⟩:=X3.hide O2 hp uq;have hv:v=.ref (h.objs.size+1):=H4.var.fun (X3.g.snap "self" _ ⟨rfl,rfl⟩);obtain⟨a,dA,fs,rfl,Vj,X8⟩:=pK (f:=some) (q:=wW) H4 (Ib▸rfl);rw[Vj] at hv;have hav:a=h.objs.size+1:=by injection hv
  refine⟨rfl,?_⟩;show Q (.ref (h.objs.size+1)) s';rw[←hav];refine hQ s' ae a dA fs ⟨fun b o' e hP=>?_,X3.g.le,X3.g.new,X3.g.hi.fr c.C.FR,X3.g.gens.trans X.g.gens.symm,X3.g.os⟩ (aL X8) ⟨Vj▸H4.rep,fun b hb=>(H4.g9 b hb).new,fun b hb=>(H4.g9 b hb).fz,H4.nodup⟩;refine aq (X3.g.kp b o' e hP) fun Sf e' q=>?_;refine⟨Sf,e',q.imp_left fun q=>?_⟩;rcases aO.mp q with q|q
  ·exact absurd (VA (bO q.symm)) (Nat.not_le.mpr (Heap.lt_size e))
  ·exact q
theorem m6.WD{C:Bc}{fd:FuncData}(H:HI C fz h)(o:∃o,C.B.get? a=some o∧o.data=.func fd)(ha:a≠C.P)(cd:∃c' oc vs t,fd.code=.ref c'∧C.B.get? c'=some oc∧oc.data=.fields vs∧vs[1]?=some (.str fd.qualname t)∧c'≠C.P):m6 C h a fd:=by
 refine aq o fun o h1 h2=>?_;obtain⟨c',oc,vs,t,e1,e2,e3,e4,e5⟩:=cd;exact⟨⟨o,H.base a o h1 ha,h2⟩,⟨c',oc,vs,t,e1,H.base c' oc e2 e5,e3,e4⟩⟩
theorem wX{K:W.Frag}{fS fI:Addr}(F:CF c.C K fS fI)(VD:W.keepIn K (.ref c.C.EC)=true)(O:c.Ok)(d9:∀y v,¬c.snap y v){fd:FuncData}{body:List Stmt}(Ik:tW fd body)
 (DA:∀fz h,HI c.C fz h→m6 c.C h fI fd) (Yz:2≤c.n) {i:Nat} {x:Str} {kd:NameKind} {xp p cp pos:Pos} (hn:c.env.scope.names[i]?=some (x,kd)) (hk:isVar kd=true) (hx:globK c none "Entry") (hg:c.C.mg "Entry"=some (.ref c.C.EC)):
 du prog w c (.Assign [.Name x xp] (.Call (.Name "Entry" p) [] [] cp) pos) (fun σ=>.ok .next (σ.put i (.obj wW))):=fun fz s σ r σ' I hv Q E q=>by
 obtain⟨γ,X⟩:=I.x;refine wpAny_Assign_Name (dG (l6 (k:=none) O trivial X.g.hi hx hg (W.callWith_K0 (F.S7 X.g.hi) VD (D0 F O X Ik (DA fz _ X.g.hi) Yz fun s' ae a dA fs G X8 N=>?_)) (by decide +kernel))) rfl;exact vy O d9 (X.grow (k:=none) O trivial G) hn hk (g:=.obj a dA fs) N.rep (fun b hb=>let A:=X.gb O (N.new b hb);⟨⟨X.HT (N.new b hb),N.fz b hb,A.L,A.cells⟩,A⟩) N.nodup fun pZ Ry=>q.fin hv G.le (congrArg Slot.obj X8▸Ry)
theorem H5(O:c.Ok)(KO:dc c k){n:Nat}:aj prog w c k (.UnaryOp .USub (.Constant (.int m) kk p) pos) (fun σ=>.ok (.int (-m)) σ):=fun fz s σ r σ' I hv Q E P=>
 wpAny_UnaryOp (wpAny_Constant_int (PyProof.Rows.neg_int (P.fin hv (Fz.le_refl _) (I.grow O KO (bp.tok I.hi _)) gy)))
end Mine.Internal
namespace Mine.Internal
open PySem PyProof.Rows
variable{prog:Program}{w:World}{A:Around}
structure S8(prog:Program)(w:World)(A:Around)(I D':Addr)(Z:List Addr)(n:Nat)(St:Nat→Heap→Prop)(P:Nat→Value→Heap→Prop):Prop where
 ne:D'∉Z
 item:∀i (s:Shared) (Q:Option Value→Shared→Prop) (E:Value→Shared→Prop),i<n→St i s.heap→(∃o,s.heap.get? D'=some o)→
  (∀v h' tk,P i v h'→St (i+1) h'→(∀b o,b∉Z→s.heap.get? b=some o→h'.get? b=some o)→Q (some v) {s with heap:=h',toks:=tk})→aH (model prog w) A (pyNext (.ref I)) Q E s
 done:∀(s:Shared) (Q:Option Value→Shared→Prop) (E:Value→Shared→Prop),St n s.heap→
  (∀h' tk,(∀b o,b∉Z→s.heap.get? b=some o→h'.get? b=some o)→Q none {s with heap:=h',toks:=tk})→aH (model prog w) A (pyNext (.ref I)) Q E s
 frame:∀i h h',St i h→(∀b o,b≠D'→h.get? b=some o→h'.get? b=some o)→(∃o,h'.get? D'=some o)→St i h'
 tN:∀i v h h',P i v h→(∀b o,b∉Z→b≠D'→h.get? b=some o→h'.get? b=some o)→P i v h'
noncomputable def wY(P:Nat→Value→Heap→Prop)(h:Heap)(vs:Array Value):Prop:=∀j v,vs[j]?=some v→P j v h
theorem BB{I D':Addr}{Z:List Addr}{n:Nat}{St:Nat→Heap→Prop}{P:Nat→Value→Heap→Prop}{R:Result→Shared→Prop}{res:Value}(W:S8 prog w A.in1 I D' Z n St P)(hn:n≤1024){base:Nat}{vs₀:Array Value}(hb:vs₀.size≤1024):
 ∀(k i:Nat) (s:Shared) (vs:Array Value),n-i=k→i≤n→St i s.heap→bw s.heap D' (vs₀++vs)→vs.size=i→wY P s.heap vs→
  (∀h' tk us,us.size=n→bw h' D' (vs₀++us)→wY P h' us→(∀b o,b∉Z→b≠D'→s.heap.get? b=some o→h'.get? b=some o)→R (.ok (.ret res)) {s with heap:=h',toks:=tk})→
  gS (model prog w) A (.builtin "list.extend.loop" ⟨[.ref D',.ref I,res],[]⟩) R s:=by
 intro k
 induction k with
 |zero=>
  intro i s vs hk hi st hl hv hd hR;have ye:i=n:=(dC hi (iK hk));subst ye;refine dT F.entry_extend_loop ?_;rw[Around.under_plainId F.plain_extend_loop _];refine aB (W.done s _ _ st fun h' tk AB=>aF ?_);refine hR h' tk vs hv ?_ (fun j v hj=>W.tN j v _ _ (hd j v hj) fun b o hb _ e=>AB b o hb e) fun b o hb _ e=>AB b o hb e;refine kK hl fun m sl e=>?_;exact⟨m,sl,AB D' _ W.ne e⟩
 |succ k ih=>
  intro i s vs hk hi st hl hv hd hR;have qK:i<n:=by lia
  refine dT F.entry_extend_loop ?_;rw[Around.under_plainId F.plain_extend_loop _];refine aB (W.item i s _ _ qK st (by refine kK hl fun m sl e=>?_;exact⟨_,e⟩) fun v h₁ tk₁ hP si k7=>?_);have yg:bw h₁ D' (vs₀++vs):=by refine kK hl fun m sl e=>?_;exact⟨m,sl,k7 D' _ W.ne e⟩
  have SH:=yg;refine kK SH fun m sl e=>?_;have gw:(vs₀++vs).size≤sizeLine:=by rw[Array.size_append,eJ];lia
  refine aB (fH e rfl ?_);have QG:=ft yg (·.push v);have BC:∀b o,b≠D'→h₁.get? b=some o→(h₁.update D' (Obj.mapSeq (·.push v))).get? b=some o:=fun b o hb e=>(Heap.get?_update_other _ _ (Ne.symm hb)).trans e;refine aF ⟨fM F.plain_extend_loop _,ih (i+1) _ (vs.push v) (by lia) qK (W.frame _ _ _ si BC (by refine kK QG fun _ _ e=>?_;exact⟨_,e⟩)) ?_ (by simp[hv]) (fun j u hj=>?_) fun h' tk us h1 h2 h3 h4=>?_⟩
  ·have:vs₀++vs.push v=(vs₀++vs).push v:=by simp
   rw[this];exact QG
  ·by_cases X9:j<vs.size
   ·rw[Array.getElem?_push_lt X9] at hj
    have Xa:vs[j]?=some u:=by rw[bC X9];exact hj
    exact W.tN j u _ _ (hd j u Xa) fun b o hb hD e=>BC b o hD (k7 b o hb e)
   ·have hje:j=vs.size:=by
     have:=(fN.mp hj).1;simp at this;exact dC (aE this) (dJ X9)
    subst hje;simp at hj;subst hj;rw[hv];exact W.tN _ _ _ _ hP fun b o hb hD e=>BC b o hD e
  ·exact hR h' tk us h1 h2 h3 fun b o hb hD e=>h4 b o hb hD (BC b o hD (k7 b o hb e))
end Mine.Internal
namespace Mine.Internal
open PySem PyProof.Rows
variable{prog:Program}{w:World}{A:Around}{E:Value→Shared→Prop}{s:Shared}
structure pM(T:String):Prop where
 nl:(Value.type T==Value.type "list")=false
 nt:(Value.type T==Value.type "tuple")=false
 len:gO (.type T) "__len__"=pure none
 hint:gO (.type T) "__length_hint__"=pure none
theorem uV{T:String}(DT:pM T){I D':Addr}{Z:List Addr}{n:Nat}{St:Nat→Heap→Prop}{P:Nat→Value→Heap→Prop}{R:Result→Shared→Prop}{res:Value}(W:S8 prog w A.in1 I D' Z n St P)(hn:n≤1024){vs₀:Array Value}(hb:vs₀.size≤1024)(hT:s.TypeIs (.ref I) T)(hDI:D'≠I)
 (self:∀(Q:Value→Shared→Prop) (E:Value→Shared→Prop),Q (.ref I) s→aH (model prog w) A.in1 (pyIter (.ref I)) Q E s) (st:St 0 s.heap) (hl:bw s.heap D' vs₀)
 (hR:∀h' tk us,us.size=n→bw h' D' (vs₀++us)→wY P h' us→(∀b o,b∉Z→b≠D'→s.heap.get? b=some o→h'.get? b=some o)→R (.ok (.ret res)) {s with heap:=h',toks:=tk}):
 aH (model prog w) A.in1 (Builtin.List.listExtendWith (.ref D') (.ref I) res)
  (fun fin s'=>match fin with|.done f=>R (.ok f) s'|.again c'=>c'.quiet=true∧gS (model prog w) A c' R s') (fun e s'=>R (.error e) s') s:=by
 unfold Builtin.List.listExtendWith;refine aB (wpAny_typeOf hT ?_);have h1:Builtin.List.listSameRef (.ref D') (.ref I)=false:=by simp[Builtin.List.listSameRef,hDI]
 refine bE (decide_eq_false (by rw[h1,DT.nl,DT.nt,Bool.or_false];exact bF)) ?_;refine aB (self _ _ ?_);refine aB (aQ ?_);refine aB (wpAny_specialOf hT DT.len ?_);refine aB (wpAny_specialOf hT DT.hint ?_);refine aF ?_;show aH _ A.in1 (rule "list.extend.makes-room">>=fun _=>Builtin.List.listTouch (.ref D')>>=fun _=>
  again (.builtin "list.extend.loop" ⟨[.ref D',.ref I,res],[]⟩)) _ _ _
 refine aB (fR ?_);refine aB ?_;have rH:=hl;refine kK rH fun m sl e=>?_;have hz1:vs₀.size≤sizeLine:=by rw[eJ];exact aG hb (by decide)
 refine aB (fH e rfl ?_);have MT:=ft hl (·.push .none);have Xb:=MT;refine kK Xb fun m2 Sf e2=>?_;have hz2:(vs₀.push Value.none).size≤sizeLine:=by rw[eJ,Array.size_push];exact aG (aJ hb _) (by decide)
 refine fH (hz:=hz2) e2 rfl ?_;have ZE:=ft MT (·.pop);have BC:∀b o,b≠D'→s.heap.get? b=some o→((s.heap.update D' (Obj.mapSeq (·.push Value.none))).update D' (Obj.mapSeq (·.pop))).get? b=some o:=
  fun b o hb e=>(Heap.get?_update_other _ _ (Ne.symm hb)).trans ((Heap.get?_update_other _ _ (Ne.symm hb)).trans e)
 have hl4:bw ((s.heap.update D' (Obj.mapSeq (·.push Value.none))).update D' (Obj.mapSeq (·.pop))) D' (vs₀++#[]):=by simpa using ZE
 refine aF ⟨fM F.plain_extend_loop _,BB (base:=0) W hn hb n 0 _ #[] rfl (cS _) (W.frame 0 _ _ st BC (by refine kK ZE fun _ _ e=>?_;exact⟨_,e⟩)) hl4 rfl (fun j v hj=>by simp at hj) fun h' tk us h1 h2 h3 h4=>?_⟩;exact hR h' tk us h1 h2 h3 fun b o hb hD e=>h4 b o hb hD (BC b o hD e)
theorem FC{T:String}(DT:pM T){I:Addr}{Z:List Addr}{n:Nat}{St:Nat→Heap→Prop}{P:Nat→Value→Heap→Prop}{Q:Value→Shared→Prop}(hn:n≤1024)(W:S8 prog w A.in1.in1 I s.heap.objs.size Z n St P)(hT:s.TypeIs (.ref I) T)
 (self:∀(s:Shared) (Q:Value→Shared→Prop) (E:Value→Shared→Prop),St 0 s.heap→Q (.ref I) s→aH (model prog w) A.in1.in1 (pyIter (.ref I)) Q E s) (st:St 0 s.heap)
 (hQ:∀h' tk us,us.size=n→bw h' s.heap.objs.size us→wY P h' us→(∀b o,b∉Z→s.heap.get? b=some o→h'.get? b=some o)→Q (.ref s.heap.objs.size) {s with heap:=h',toks:=tk}):
 aH (model prog w) A (call (.type "list") [.ref I]) Q E s:=by
 refine callType_codes (Q₁:=fun obj a9=>obj=.ref s.heap.objs.size∧a9={s with heap:=s.heap.push {cls:=.type "list",data:=.seq #[]}}) F.called_list (F.typeCall_list_1 _) F.entry_list_init
  (code_list_new _ ⟨rfl,rfl⟩) fun obj a9 h₁=>?_
 refine ka h₁ fun Xc ay=>?_;subst Xc;subst ay;have hS:(s.heap.push {cls:=.type "list",data:=.seq #[]}).get? s.heap.objs.size=some {cls:=.type "list",data:=.seq #[]}:=Heap.get?_push_size _ rfl;refine⟨⟨_,hS,rfl⟩,F.args_list_init_2 _ _,?_⟩;show aH _ A.in1.in1 (do let old ←Builtin.List.listItems (.ref s.heap.objs.size);Builtin.List.listUpdate (.ref s.heap.objs.size) (fun _=>#[]);letGo old.toList.reverse;Builtin.List.listExtendWith (.ref s.heap.objs.size) (.ref I) .none) _ _ _;refine aB ?_;unfold Builtin.List.listItems;refine aB (fA hS rfl (aF ?_));show aH _ A.in1.in1 (updateSeq s.heap.objs.size (fun _=>#[])>>=fun _=>letGo (#[]:Array Value).toList.reverse>>=fun _=>Builtin.List.listExtendWith (.ref s.heap.objs.size) (.ref I) .none) _ _ _;refine aB (fH hS rfl ?_);have hl:bw (s.heap.push {cls:=.type "list",data:=.seq #[]}) s.heap.objs.size #[]:=⟨0,#[],hS⟩;have MT:=ft hl (fun _=>#[]);have BC:∀b o,s.heap.get? b=some o→((s.heap.push {cls:=.type "list",data:=.seq #[]}).update s.heap.objs.size (Obj.mapSeq (fun _=>(#[]:Array Value)))).get? b=some o:=
  fun b o e=>(Heap.get?_update_other _ _ (Ne.symm (bU (Heap.lt_size e)))).trans (Heap.get?_push_of_some _ e)
 have ZF:=W.frame 0 _ _ st (fun b o _ e=>BC b o e) (by refine kK MT fun _ _ e=>?_;exact⟨_,e⟩);refine aq hT fun oI eI cI=>?_;refine aB (wpAny_letGo ?_);refine uV (vs₀:=#[]) DT W hn (by simp) ⟨oI,BC _ _ eI,cI⟩ (Ne.symm (bU (Heap.lt_size eI))) (fun Q E h=>self _ Q E ZF h) ZF MT fun h' tk us h1 h2 h3 h4=>?_;refine⟨rfl,hQ h' tk us h1 (by simpa using h2) h3 fun b o hb e=>h4 b o hb (bU (Heap.lt_size e)) (BC b o e)⟩
theorem Jg:pM "zip":=⟨by decide,by decide,by rw[bJ,aW];kernel_rfl,by rw[bJ,aW];kernel_rfl⟩
theorem BD:pM "filter":=⟨by decide,by decide,by rw[bJ,aW];kernel_rfl,by rw[bJ,aW];kernel_rfl⟩
theorem Jh:pM "map":=⟨by decide,by decide,by rw[bJ,aW];kernel_rfl,by rw[bJ,aW];kernel_rfl⟩
noncomputable abbrev H6(h:Heap)(z TI TO T:Addr)(f1:Bool):Prop:=h.get? z=some {cls:=.type "zip",dict:=none,data:=.fields #[rawInt T,.bool f1,.bool false,.ref TI,.ref TO],slots:=#[]}
theorem BE(hz:H6 s.heap z TI TO T f1)(hT:s.heap.get? T=some oT)
 (h:∀h₁,H6 h₁ z TI TO T true→(∀c o,c≠z→s.heap.get? c=some o→h₁.get? c=some o)→h₁.objs.size=s.heap.objs.size→Q false {s with heap:=h₁}):aH (model prog w) A (Builtin.SmallTypes.ownedTupleIsFree (.ref z)) Q E s:=by
 refine aB (cE hz rfl (x:=rawInt T) rfl ?_);show aH _ _ (loadIfAlive (Int.toNat (T:Int))>>=_) _ _ _;rw[cU];refine aB (W.kdx_alive hT ?_);refine bE (decide_eq_false (by rw[Option.isNone_some];exact bF)) ?_;refine aB (cE hz rfl (x:=.bool f1) rfl ?_);cases f1 with
 |true=>
  refine bE (decide_eq_false (by rw[bne_self_eq_false];exact bF)) ?_;exact aF (h s.heap hz (fun _ _ _ e=>e) rfl)
 |false=>
  refine cT (decide_eq_true (by decide)) ?_;exact aB (wpAny_setField_rec hz (by simp) fun h₁ VE QH=>aF (h h₁ VE (fun c o hc e=>QH.extBut _ _ hc e) QH.1))
structure Ji(h:Heap)(z TI TO T i1 i2 l1 l2:Addr)(f1:Bool)(k1 k2:Nat)(xs ys:Array Value):Prop where
 D:ZipApart z TI TO i1 i2 l1 l2
 hz:H6 h z TI TO T f1
 hT:∃oT,h.get? T=some oT
 S9:IsPair h TI (.ref i1) (.ref i2)
 h1:h.IsListIter i1 l1 k1
 h2:h.IsListIter i2 l2 k2
 H7:h.IsList l1 xs
 MT:h.IsList l2 ys
theorem Zg:2≤sizeLine:=by rw[eJ];decide
theorem H8{z TI TO T i1 i2 l1 l2:Addr}{f1:Bool}{k1 k2:Nat}{xs ys:Array Value}{x y:Value}{Q:Value→Shared→Prop}(M:Ji s.heap z TI TO T i1 i2 l1 l2 f1 k1 k2 xs ys)(hx:xs[k1]?=some x)(hy:ys[k2]?=some y)
 (hQ:∀h',H6 h' z TI TO T true→h'.IsListIter i1 l1 (k1+1)→h'.IsListIter i2 l2 (k2+1)→IsPair h' s.heap.objs.size x y→
  (∀c o,c≠z→c≠i1→c≠i2→s.heap.get? c=some o→h'.get? c=some o)→Q (.ref s.heap.objs.size) {s with heap:=h'}):
 aH (model prog w) A (Builtin.«zip.__next__» ⟨[.ref z],[]⟩) (fun fin s'=>∃v,fin=.done (.ret v)∧Q v s') E s:=by
 have D:=M.D;obtain⟨oT,hT⟩:=M.hT;show aH _ _ (field (.ref z) 2>>=_) _ _ _;refine aB (cE M.hz rfl (x:=.bool false) rfl ?_);show aH _ _ (field (.ref z) 3>>=_) _ _ _;refine aB (cE M.hz rfl (x:=.ref TI) rfl (aB (fA M.S9 rfl ?_)));show aH _ _ (Builtin.SmallTypes.ownedTupleIsFree (.ref z)>>=_) _ _ _;refine aB (BE M.hz hT fun h₁ Xd ur Xe=>?_);simp only[eP,if_false];rw[←fE];simp only[eT,gH];refine aB (aB (aB (aQ ?_)));show aH _ _ (Builtin.SmallTypes.nextOf (.ref i1)>>=_) _ _ _;refine aB (gD (M.h1.at fun o e=>ur _ o D.i1z e) (M.H7.at fun o e=>ur _ o D.l1z e) hx fun jz Gg kj=>aF (aF (aB (aB (aQ ?_)))));show aH _ _ (Builtin.SmallTypes.nextOf (.ref i2)>>=_) _ _ _;refine aB (gD ((M.h2.at fun o e=>ur _ o D.i2z e).extBut kj.extBut D.i12.symm) ((M.MT.at fun o e=>ur _ o D.l2z e).extBut kj.extBut D.l2i1) hy fun CL VF yj=>aF (aF (aF (aB (wpAny_newTuple (aF ⟨_,rfl,?_⟩) Zg)))));have gw:CL.objs.size=s.heap.objs.size:=(yj.1.trans kj.1).trans Xe;have VG:H6 CL z TI TO T true:=yj.extBut _ _ D.i2z.symm (kj.extBut _ _ D.i1z.symm Xd);rw[gw];exact hQ _ (Heap.get?_push_of_some _ VG) ((Gg.extBut yj.extBut D.i12).at fun o e=>Heap.get?_push_of_some _ e) (VF.at fun o e=>Heap.get?_push_of_some _ e) (gw▸Heap.get?_push_size _ rfl) fun c o c1 c2 c3 e=>Heap.get?_push_of_some _ (yj.extBut _ _ c3 (kj.extBut _ _ c2 (ur c o c1 e)))
theorem Jj(hh:A.handled=none)(M:Ji s.heap z TI TO T i1 i2 l1 l2 f1 k1 k2 xs ys)(sv:xs[k1]?=none∨ys[k2]?=none)
 (hE:∀h' e,(∀c o,c≠z→c≠TO→c≠i1→c≠i2→s.heap.get? c=some o→h'.get? c=some o)→(∃o,h'.get? e=some o∧o.cls=.type "StopIteration")→E (.ref e) {s with heap:=h'}):
 aH (model prog w) A (Builtin.«zip.__next__» ⟨[.ref z],[]⟩) Q E s:=by
 have D:=M.D;obtain⟨oT,hT⟩:=M.hT;show aH _ _ (field (.ref z) 2>>=_) _ _ _;refine aB (cE M.hz rfl (x:=.bool false) rfl ?_);show aH _ _ (field (.ref z) 3>>=_) _ _ _;refine aB (cE M.hz rfl (x:=.ref TI) rfl (aB (fA M.S9 rfl ?_)));show aH _ _ (Builtin.SmallTypes.ownedTupleIsFree (.ref z)>>=_) _ _ _;refine aB (BE M.hz hT fun h₁ _ ur _=>?_);simp only[eP,if_false];rw[←fE];simp only[eT,gH];refine aB (aB (aB (aQ ?_)));show aH _ _ (Builtin.SmallTypes.nextOf (.ref i1)>>=_) _ _ _;have a1:=M.h1.at (h':=h₁) fun o e=>ur _ o D.i1z e;have a2:=M.H7.at (h':=h₁) fun o e=>ur _ o D.l1z e;cases hx:xs[k1]? with
 |none=>exact aB (iO hh a1 a2 hx fun jz e kj he=>hE jz e (fun c o c1 _ c3 _ x=>kj _ _ c3 (ur c o c1 x)) he)
 |some x=>
  have hy:ys[k2]?=none:=sv.elim (fun h=>vN h hx) id;refine aB (gD a1 a2 hx fun jz Gg kj=>aF (aF (aB (aB (aQ ?_)))));show aH _ _ (Builtin.SmallTypes.nextOf (.ref i2)>>=_) _ _ _;exact aB (iO hh ((M.h2.at fun o e=>ur _ o D.i2z e).extBut kj.extBut D.i12.symm) ((M.MT.at fun o e=>ur _ o D.l2z e).extBut kj.extBut D.l2i1) hy fun CL e yj he=>hE CL e (fun c o c1 _ c3 c4 x=>yj _ _ c4 (kj.extBut _ _ c3 (ur c o c1 x))) he)
structure yO(z TI TO i1 i2 l1 l2:Addr)(xs ys:Array Value)(i:Nat)(h:Heap):Prop where
 z:IsZip h z TI TO .none∨∃T f1 oT,H6 h z TI TO T f1∧h.get? T=some oT
 ti:IsPair h TI (.ref i1) (.ref i2)
 to:∃a b,IsPair h TO a b
 a:h.IsListIter i1 l1 i
 b:h.IsListIter i2 l2 i
 l:h.IsList l1 xs
 m:h.IsList l2 ys
noncomputable def NC(z:Addr)(Z:List Addr)(xs ys:Array Value)(i:Nat)(v:Value)(h:Heap):Prop:=∃T x y,v=.ref T∧z<T∧T∉Z∧xs[i]?=some x∧ys[i]?=some y∧IsPair h T x y
theorem ND(h:x∉[a,b,c,d]):x≠a∧x≠b∧x≠c∧x≠d:=⟨fun q=>h (q▸.head _),fun q=>h (q▸.tail _ (.head _)),fun q=>h (q▸.tail _ (.tail _ (.head _))),fun q=>h (q▸.tail _ (.tail _ (.tail _ (.head _))))⟩
theorem in4(h1:x≠a)(h2:x≠b)(h3:x≠c)(h4:x≠d):x∉[a,b,c,d]:=fun h=>by
 rcases aO.mp h with q|h
 ·exact h1 q
 ·rcases aO.mp h with q|h
  ·exact h2 q
  ·rcases aO.mp h with q|h
   ·exact h3 q
   ·exact h4 (aK.mp h)
section
variable{z TI TO i1 i2 l1 l2 D':Addr}{xs ys:Array Value}
theorem Jk(D:ZipApart z TI TO i1 i2 l1 l2)(i:Nat)(Q:Option Value→Shared→Prop)(hi:i<min xs.size ys.size)(st:yO z TI TO i1 i2 l1 l2 xs ys i s.heap)(hd:∃o,s.heap.get? D'=some o)
 (hQ:∀v h' tk,NC z [z,TO,i1,i2,D'] xs ys i v h'→yO z TI TO i1 i2 l1 l2 xs ys (i+1) h'→(∀b o,b∉[z,TO,i1,i2]→s.heap.get? b=some o→h'.get? b=some o)→Q (some v) {s with heap:=h',toks:=tk}):aH (model prog w) A (pyNext (.ref z)) Q E s:=by
 have hx:=bC (aT hi (iS ..));have hy:=bC (aT hi (Nat.min_le_right ..));obtain⟨hz,MI,⟨a,b,SI⟩,ha,hb,hl,hm⟩:=st;have lt:∀{c},(∃o,s.heap.get? c=some o)→s.heap.objs.size≠c:=fun⟨o,e⟩=>iY (Heap.lt_size e);have tz:∃o,s.heap.get? z=some o:=hz.elim (fun h=>⟨_,h⟩) fun⟨_,_,_,h,_⟩=>⟨_,h⟩;have nT:s.heap.objs.size∉[z,TO,i1,i2,D']:=fun h=>(aO.mp h).elim (fun q=>lt tz q) fun h=>in4 (lt ⟨_,SI⟩) (lt (ha.elim fun o e=>⟨o,e.1⟩)) (lt (hb.elim fun o e=>⟨o,e.1⟩)) (lt hd) h;have P:∀{h'},IsPair h' s.heap.objs.size _ _→NC z [z,TO,i1,i2,D'] xs ys i (.ref s.heap.objs.size) h':=fun p=>⟨_,_,_,rfl,tz.elim fun o e=>Heap.lt_size e,nT,hx,hy,p⟩;rcases hz with hz|⟨T,f1,oT,hz,hT⟩
 ·exact wpAny_pyNext_zip_item D hz MI SI ha hb hl hm hx hy fun h' a1 a2 a3 a4 a5 a6 hk=>hQ _ h' s.toks (P a5) ⟨.inr ⟨_,_,_,a1,a5⟩,hk _ _ D.TIz D.TITO D.TIi1 D.TIi2 MI,⟨_,_,a2⟩,a3,a4,hl.at fun o e=>hk _ o D.l1z D.l1TO D.l1i1 D.l1i2 e,hm.at fun o e=>hk _ o D.l2z D.l2TO D.l2i1 D.l2i2 e⟩ fun c o hc e=>let n:=ND hc;hk c o n.1 n.2.1 n.2.2.1 n.2.2.2 e
 ·have CR:s.TypeIs (.ref z) "zip":=⟨_,hz,rfl⟩
  refine aB (fO (cN (name:=Str.ofString "__next__") CR F.slot_zip_next
   (cH F.slot_zip_next CR F.entry_zip_next (H8 ⟨D,hz,⟨_,hT⟩,MI,ha,hb,hl,hm⟩ hx hy fun h' a1 a3 a4 a5 hk=>aF (hQ _ h' s.toks (P a5) ⟨.inr ?_,hk _ _ D.TIz D.TIi1 D.TIi2 MI,⟨a,b,hk _ _ D.TOz D.TOi1 D.TOi2 SI⟩,a3,a4,hl.at fun o e=>hk _ o D.l1z D.l1i1 D.l1i2 e,hm.at fun o e=>hk _ o D.l2z D.l2i1 D.l2i2 e⟩ fun c o hc e=>let n:=ND hc;hk c o n.1 n.2.2.1 n.2.2.2 e)) (F.args_zip_next_1 _))))
  have alive:∃o,h'.get? T=some o:=by
   by_cases q1:T=z
   ·exact⟨_,(congrArg h'.get? q1).trans a1⟩
   ·by_cases q2:T=i1
    ·exact a3.elim fun o e=>⟨o,q2▸e.1⟩
    ·by_cases q3:T=i2
     ·exact a4.elim fun o e=>⟨o,q3▸e.1⟩
     ·exact⟨_,hk _ _ q1 q2 q3 hT⟩
  exact alive.elim fun o e=>⟨T,true,o,a1,e⟩
theorem Jl(hh:A.handled=none)(D:ZipApart z TI TO i1 i2 l1 l2)(Q:Option Value→Shared→Prop)(st:yO z TI TO i1 i2 l1 l2 xs ys (min xs.size ys.size) s.heap)
 (hQ:∀h' tk,(∀b o,b∉[z,TO,i1,i2]→s.heap.get? b=some o→h'.get? b=some o)→Q none {s with heap:=h',toks:=tk}):aH (model prog w) A (pyNext (.ref z)) Q E s:=by
 obtain⟨hz,MI,⟨a,b,SI⟩,ha,hb,hl,hm⟩:=st;have sv:xs[min xs.size ys.size]?=none∨ys[min xs.size ys.size]?=none:=
  (Nat.le_total xs.size ys.size).imp (fun h=>eK (bO (gU h).symm)) fun h=>eK (bO (Nat.min_eq_right h).symm)
 rcases hz with hz|⟨T,f1,oT,hz,hT⟩
 ·exact wpAny_pyNext_zip_end hh D hz MI SI ha hb hl hm sv fun h' hk=>hQ h' s.toks fun c o hc e=>let n:=ND hc;hk c o n.1 n.2.1 n.2.2.1 n.2.2.2 e
 ·have CR:s.TypeIs (.ref z) "zip":=⟨_,hz,rfl⟩
  exact aB (fO (cN (name:=Str.ofString "__next__") CR F.slot_zip_next
   (cH F.slot_zip_next CR F.entry_zip_next (Jj hh ⟨D,hz,⟨_,hT⟩,MI,ha,hb,hl,hm⟩ sv fun h' e hk ⟨o,ho,hc⟩=>aB (eN (T:="StopIteration") (b:=true) ⟨o,ho,hc⟩ jH (aF (hQ _ s.toks fun c o hc e=>let n:=ND hc;hk c o n.1 n.2.1 n.2.2.1 n.2.2.2 e)))) (F.args_zip_next_1 _))))
structure Jm(z TI TO i1 i2 l1 l2 D':Addr):Prop where
 z:z≠D'
 ti:TI≠D'
 to:TO≠D'
 a:i1≠D'
 b:i2≠D'
 l:l1≠D'
 m:l2≠D'
theorem NG(hh:A.handled=none)(D:ZipApart z TI TO i1 i2 l1 l2)(O:Jm z TI TO i1 i2 l1 l2 D')(xs ys:Array Value):
 S8 prog w A z D' [z,TO,i1,i2] (min xs.size ys.size) (yO z TI TO i1 i2 l1 l2 xs ys) (fun i v h=>NC z [z,TO,i1,i2,D'] xs ys i v h) where
 ne:=in4 O.z.symm O.to.symm O.a.symm O.b.symm
 item:=fun i s Q E hi st hd hQ=>Jk D i Q hi st hd hQ
 done:=fun s Q E st hQ=>Jl hh D Q st hQ
 frame:=fun i h h' st k o=>⟨st.z.imp (k _ _ O.z) fun⟨T,f1,oT,hz,hT⟩=>by
  by_cases q:T=D'
  ·exact o.elim fun oD eD=>⟨T,f1,oD,k _ _ O.z hz,q▸eD⟩
  ·exact⟨T,f1,oT,k _ _ O.z hz,k _ _ q hT⟩,k _ _ O.ti st.ti,st.to.elim fun a h=>h.elim fun b h=>⟨a,b,k _ _ O.to h⟩,st.a.at fun o e=>k _ o O.a e,st.b.at fun o e=>k _ o O.b e,st.l.at fun o e=>k _ o O.l e,st.m.at fun o e=>k _ o O.m e⟩
 tN:=fun i v h h' p k=>by
  obtain⟨T,x,y,e,VH,hT,hx,hy,hp⟩:=p;exact⟨T,x,y,e,VH,hT,hx,hy,k T _ (fun h=>hT (dI [D'] h)) (fun q=>hT (q▸.tail _ (.tail _ (.tail _ (.tail _ (.head _)))))) hp⟩
end
end Mine.Internal
namespace Mine.Internal
open PySem PyProof.Rows
variable{prog:Program}{w:World}{c:Ac}{k:Option Cc}{fz ae:Fz}{s s':Shared}{σ σ':St}
structure D1(C:Bc)(h:Heap)(fz:Fz)(d:D)(v:Value)(T:Addr)(x y:Value)(dx dy:D):Prop where
 v:v=.ref T
 d:d=.tup [dx,dy]
 p:IsPair h T x y
 rx:Rep C.EC fz dx x
 ry:Rep C.EC fz dy y
 P:T≠C.P
 f:fz T=none∨fz T=some (.oo #[x,y] 0)
noncomputable def tX(C:Bc)(h:Heap)(fz:Fz)(d:D)(v:Value):Prop:=∃T x y dx dy,D1 C h fz d v T x y dx dy
theorem lI.imp{α β:Type}{P Q:α→β→Prop}(f:∀a b,P a b→Q a b):∀{as:List α} {bs:List β},lI P as bs→lI Q as bs
 |[],[],_=>trivial
 |[],_::_,h=>h
 |_::_,[],h=>h
 |_::_,_::_,h=>⟨f _ _ h.1,lI.imp f h.2⟩
theorem D1.freeze{C:Bc}{h:Heap}{d:D}{v:Value}{T:Addr}{x y:Value}{dx dy:D}(H:HI C fz h)(p:D1 C h fz d v T x y dx dy):∃f1,Ca C fz f1 h [T]∧f1 T=some (.oo #[x,y] 0):=by
 rcases p.f with hf|hf
 ·exact⟨fz.put T (.oo #[x,y] 0),(Ca.refl (l:=[]) H).add (fun _=>nofun) (.head _) (sl:=#[]) p.p p.P (by simp[FO.oo]) hf,Fz.dv _ _ _⟩
 ·exact⟨fz,.refl H,hf⟩
theorem tX.Zh(F:Ca C fz f1 h [T])(e:f1 T=some (.oo #[x,y] 0))(hp:IsPair h T x y)(p:tX C h fz d v):tX C h f1 d v:=by
 obtain⟨T',x',y',dx,dy,q⟩:=p;refine⟨T',x',y',dx,dy,q.v,q.d,q.p,Rep.mono F.le _ _ q.rx,Rep.mono F.le _ _ q.ry,q.P,?_⟩
 by_cases n:T'=T
 ·subst n
  have e2:=congrArg Obj.data (aL ((show h.get? T'=some {cls:=.type "tuple",data:=.seq #[x,y]} from hp).symm.trans (show h.get? T'=some {cls:=.type "tuple",data:=.seq #[x',y']} from q.p)))
  injection e2 with e2 _
  exact .inr (e2▸e)
 ·exact q.f.imp (fun z=>F.no z fun m=>n (aK.mp m)) (F.le _ _)
theorem sA{C:Bc}{h:Heap}:∀{ds:List D} {vs:List Value} {fz:Fz},HI C fz h→lI (tX C h fz) ds vs→∃ae l,Ca C fz ae h l∧a8 C.EC ae ds vs∧∀b∈l,.ref b∈vs
 |[],[],fz,H,_=>⟨fz,[],.refl H,rfl,fun b h=>nomatch h⟩
 |[],_::_,_,_,h=>h.elim
 |_::_,[],_,_,h=>h.elim
 |d::ds,v::vs,fz,H,hh=>by
  obtain⟨⟨T,x,y,dx,dy,p⟩,hr⟩:=hh;refine aq (p.freeze H) fun f1 F1 e1=>?_;refine sz (sA F1.hi (hr.imp fun d v=>tX.Zh F1 e1 p.p)) fun f2 l F2 R2 b2=>?_;have le:=Fz.le_trans F1.le F2.le;refine⟨f2,T::l,⟨le,F2.hi,fun b hb=>(F2.new b hb).elim (fun h=>(F1.new b h).imp_right fun m=>dI l m) fun h=>.inr (.tail _ h)⟩,⟨v,vs,rfl,?_,R2⟩,fun b hb=>?_⟩
  ·rw[p.v,p.d]
   exact⟨T,#[x,y],0,rfl,F2.le _ _ e1,x,[y],rfl,Rep.mono le _ _ p.rx,y,[],rfl,Rep.mono le _ _ p.ry,rfl⟩
  ·rcases aO.mp hb with rfl|hb
   ·rw[p.v];exact .head _
   ·exact .tail _ (b2 b hb)
theorem FD{α β:Type}{P:α→β→Prop}:∀{as:List α} {bs:List β},as.length=bs.length→(∀(i:Nat) a b,as[i]?=some a→bs[i]?=some b→P a b)→lI P as bs
 |[],[],_,_=>trivial
 |[],_::_,h,_=>by simp at h
 |_::_,[],h,_=>by simp at h
 |a::as,b::bs,h,f=>⟨f 0 a b rfl rfl,FD (by simpa using h) fun i x y hx hy=>f (i+1) x y (by simpa using hx) (by simpa using hy)⟩
theorem H9(h1:l1<n)(h2:l2<n):ZipApart (n+4) (n+2) (n+3) n (n+1) l1 l2∧Jm (n+4) (n+2) (n+3) n (n+1) l1 l2 (n+5):=by
 have ne:∀{i j:Nat},i≠j→n+i≠n+j:=fun h q=>h (Nat.add_left_cancel q);have lo:∀{l:Nat},l<n→∀{i},l≠n+i:=fun h i=>bU (aT h (aP n i));exact⟨⟨ne (by decide),ne (by decide),ne (i:=0) (by decide),ne (by decide),ne (by decide),ne (j:=0) (by decide),ne (by decide),ne (j:=0) (by decide),ne (by decide),ne (i:=0) (by decide),lo h1,lo h1,lo h1 (i:=0),lo h1,lo h2,lo h2,lo h2 (i:=0),lo h2⟩,ne (by decide),ne (by decide),ne (by decide),ne (i:=0) (by decide),ne (by decide),lo h1,lo h2⟩
theorem Ha{C:Bc}{jz:Heap}{z:Addr}{Z:List Addr}(H:HI C fz s.heap)(hz:s.heap.objs.size≤z){xs ys:List D}{us ws vs:Array Value}(r1:a8 C.EC fz xs us.toList)(r2:a8 C.EC fz ys ws.toList)(VI:vs.size=min us.size ws.size)(QI:wY (fun i v h=>NC z Z us ws i v h) jz vs):
 lI (tX C jz fz) (kI (fun x y=>D.tup [x,y]) xs ys) vs.toList:=by
 refine FD (by have l1:=r1.length;have l2:=r2.length;rw[aS] at l1 l2;rw[List.length_zipWith,←l1,←l2,←VI,aS]) fun i d v hd hv=>?_;obtain⟨T,x,y,rfl,VH,hT,hx,hy,hp⟩:=QI i v (by simpa using hv);refine sz (List.getElem?_zipWith_eq_some.mp hd) fun dx dy hxi hyi e=>?_;refine aq (r1.get i dx hxi) fun v1 g1 rv1=>?_;refine aq (r2.get i dy hyi) fun v2 g2 rv2=>?_;cases aL (g1.symm.trans (by simpa using hx));cases aL (g2.symm.trans (by simpa using hy));have hn:=dj (h:=s.heap) (aG hz (aZ VH));exact⟨T,_,_,dx,dy,rfl,e.symm,hp,rv1,rv2,H.mq hn,.inl (H.fh hn)⟩
theorem Jn(st:yO z TI TO i1 i2 l1 l2 us ws i s.heap)(hq:Q (.ref z) s):aH (model prog w) A (pyIter (.ref z)) Q E s:=by
 rcases st.z with hz|⟨T,f1,oT,hz,_⟩
 ·exact wpAny_pyIter_zip hz hq
 ·have hT:s.TypeIs (.ref z) "zip":=⟨_,hz,rfl⟩
  refine wpAny_pyIter_slot hT F.slot_zip_iter (cH F.slot_zip_iter hT F.entry_zip_iter ?_ (F.args_zip_iter_1 _));exact aF ⟨_,rfl,"zip",_,hT,F.slot_zip_next.lookup,hq⟩
theorem TL{C:Bc}{A:Around}(hh:A.handled=none)(H:HI C fz s.heap)(ra:Rep C.EC fz x a)(rb:Rep C.EC fz y b)(h:Gv x y=some q):∃d,q=.ok d∧∀{Q E:Value→Shared→Prop},
 (∀v s' ae,bp C fz s ae s'→Rep C.EC ae d v→Q v s')→aH (model prog w) A (call (.type "zip") [a,b]) (fun z a9=>aH (model prog w) A (call (.type "list") [z]) Q E a9) E s:=by
 obtain⟨xs,rfl,h1⟩:=iy h;refine aq (iy h1) fun ys ay h2=>?_;subst ay;obtain⟨gw,h3⟩:=kQ h2;obtain⟨l1,us,n1,rfl,f1,r1⟩:=ra;obtain⟨l2,ws,n2,rfl,f2,r2⟩:=rb;refine⟨_,(aL h3).symm,fun{Q E} hQ=>?_⟩;have qr:=r1.length;rw[aS] at qr;have Xf:=en H f1;have Xg:=en H f2;have lt:∀{l vs},s.heap.IsList l vs→l<s.heap.objs.size:=fun il=>il.elim fun o e=>Heap.lt_size e.1;refine call_zip_2 Xf Xg fun h' hz MI SI ha hb CS hk=>?_;obtain⟨dd,out⟩:=H9 (lt Xf) (lt Xg);have W:=NG (prog:=prog) (w:=w) (A:=A.in1.in1) (D':=h'.objs.size) hh dd (CS▸out) us ws;have st:yO (s.heap.objs.size+4) (s.heap.objs.size+2) (s.heap.objs.size+3) s.heap.objs.size (s.heap.objs.size+1) l1 l2 us ws 0 h':=⟨.inl hz,MI,⟨_,_,SI⟩,ha,hb,Xf.at fun o e=>hk _ o e,Xg.at fun o e=>hk _ o e⟩;refine FC (s:={s with heap:=h'}) Jg (n:=min us.size ws.size) (aG (iS ..) (qr▸gw.1)) W ⟨_,hz,rfl⟩ (fun s Q E st hq=>Jn st hq) st fun jz tk vs VI hl QI Xh=>?_;have keep:∀b o,s.heap.get? b=some o→jz.get? b=some o:=fun b o e=>by
  have lo:∀{i},b≠s.heap.objs.size+i:=fun{i}=>bU (aT (Heap.lt_size e) (aP _ i));exact Xh b o (in4 lo lo (lo (i:=0)) lo) (hk b o e)
 have ZG:s.heap.objs.size≤s.heap.objs.size+4:=aP _ 4;refine sz (sA (H.keeps keep) (Ha H ZG r1 r2 VI QI)) fun f3 l F3 R3 b3=>?_;have inl:∀b∈l,s.heap.objs.size≤b∧b≠h'.objs.size:=fun b hb=>by
  refine eo (List.getElem?_of_mem (b3 b hb)) fun i e=>?_;obtain⟨T,x,y,e',VH,hT,_⟩:=QI i _ (by simpa using e);cases e';exact⟨aG ZG (aZ VH),fun q=>hT (q▸.tail _ (.tail _ (.tail _ (.tail _ (.head _)))))⟩
 refine kK hl fun m sl eD=>?_;have QC:s.heap.get? h'.objs.size=none:=dj (CS▸aP _ 5);have fD:f3 h'.objs.size=none:=F3.no (H.fh QC) fun h=>(inl _ h).2 rfl;have G0:bp C fz s f3 {s with heap:=jz,toks:=tk}:=⟨.of_keeps keep,F3.le,fun b hb=>(F3.new b hb).imp_right fun h=>dj (inl b h).1,F3.hi,rfl,rfl⟩;exact hQ _ _ _ (G0.put (f:=.listOf vs m) QC eD fD (by simp[FO.listOf]) (H.mq QC)) ⟨_,vs,m,rfl,Fz.dv _ _ _,a8.mono (Fz.i0 _ fD) _ _ R3⟩
theorem D2{l r:Expr}{f:D→D→Option (R D)}{yf Ir:St→Mo D}{whole:Expr}{op:Value→Value→(Value→Shared→Prop)→(Value→Shared→Prop)→Shared→Prop}(O:c.Ok)(KO:dc c k)(hl:aj prog w c k l yf)(hr:aj prog w c k r Ir)
 (rule:∀(fz:Fz) (s:Shared) (σ:St),bt c k fz s σ→∀(Q E:Value→Shared→Prop),aH (model prog w) c.A (eval l (ee c k)) (fun a a9=>aH (model prog w) c.A (eval r (ee c k)) (fun b cw=>op a b Q E cw) E a9) E s→aH (model prog w) c.A (eval whole (ee c k)) Q E s)
 (prim:∀fz s x y a b q,HI c.C fz s.heap→Rep c.C.EC fz x a→Rep c.C.EC fz y b→f x y=some q→∃d,q=.ok d∧∀(Q E:Value→Shared→Prop),(∀v s' ae,bp c.C fz s ae s'→Rep c.C.EC ae d v→Q v s')→op a b Q E s):
 aj prog w c k whole (fun σ=>(yf σ).bind fun x σ=>(Ir σ).bind fun y σ=>.of (f x y) σ):=fun fz s σ q σ' I h Q E P=>
 rule fz s σ I Q E (hl.bind I h P fun x va ai a9 av b8 az ra h2 fg=>hr.bind az h2 fg fun y vb de cw gi fy jc rb h4 sd=>by
  refine ka (Mo.ig h4) fun h5 ay=>?_;subst ay;refine aq (prim gi cw _ _ va vb q jc.hi (Rep.mono fy _ _ ra) rb h5) fun d ay h6=>?_;subst ay;exact h6 _ _ fun v s' ae G R=>sd.ok d rfl v s' ae G.le (jc.grow O KO G) R)
theorem Jo(ha:noStar a=true)(hb:noStar b=true)
 (h:aH M A (eval a env) (fun u a9=>aH M A (eval b env) (fun v cw=>Q [u,v] cw) E a9) E s):aH M A (spliced (backTo pos (starEach [a,b] env))) Q E s:=by
 rw[bf ha,bf hb];show aH _ _ (spliced ((false,eval a env)::(false,eval b env)::backTo pos (starEach [] env))) Q E s;refine Calls.spliced_cons (dS h (fun u a9 h₁=>?_) fun _ _ x=>x);refine Calls.spliced_cons (dS h₁ (fun v cw jz=>?_) fun _ _ x=>x);exact Calls.spliced_nil jz
theorem qt (O:c.Ok) (KO:dc c k) {x:Str} {id:String} {e e':Expr} {p pos:Pos} (hx:globK c k x) (hg:c.C.mg x=none) (hb:c.C.mb x=some (.type id)) (hd:(x==("__debug__":Str))=false) (hn:noStar e=true) (M6:noStar e'=true)
 (fz:Fz) (s:Shared) (σ:St) (I:bt c k fz s σ) (Q E:Value→Shared→Prop) (h:aH (model prog w) c.A (eval e (ee c k)) (fun a a9=>aH (model prog w) c.A (eval e' (ee c k)) (fun b cw=>aH (model prog w) c.A (call (.type id) [a,b]) Q E cw) E a9) E s):
 aH (model prog w) c.A (eval (.Call (.Name x p) [e,e'] [] pos) (ee c k)) Q E s:=by
 refine dG (ij O KO I.hi hx hg hb ?_ hd);refine callWith_type1 (Jo hn M6 h) (bf hn) ?_;rw[bf M6];rfl
theorem Hb (O:c.Ok) (KO:dc c k) (hA:c.A.handled=none) {p1 p2 p3 p4:Pos} {ea eb:St→Mo D} (hx:globK c k "list") (hg:c.C.mg "list"=none) (hb:c.C.mb "list"=some (.type "list"))
 (AF:globK c k "zip") (Ib:c.C.mg "zip"=none) (uK:c.C.mb "zip"=some (.type "zip")) (na:noStar a=true) (nb:noStar b=true) (h1:aj prog w c k a ea) (h2:aj prog w c k b eb):
 aj prog w c k (.Call (.Name "list" p1) [.Call (.Name "zip" p2) [a,b] [] p3] [] p4) (fun σ=>(ea σ).bind fun x σ=>(eb σ).bind fun y σ=>.of (Gv x y) σ):=by
 exact D2 (op:=fun u v Q E s=>aH (model prog w) c.A (call (.type "zip") [u,v]) (fun z a9=>aH (model prog w) c.A (call (.type "list") [z]) Q E a9) E s) O KO h1 h2
  (fun fz s σ I Q E h=>jl O KO hx hg hb (by decide) rfl fz s σ I Q E (qt O KO AF Ib uK (by decide) na nb fz s σ I _ _ h)) fun fz s x y u v q H ru rv hq=>(TL hA H ru rv hq).elim fun d h=>⟨d,h.1,fun Q E=>h.2⟩
end Mine.Internal
namespace Mine.Internal
open PySem PyProof.Rows
theorem yP:Manifest.owners.lookup (String.ofList ['p','a','m'].reverse)=some Manifest.sig_map:=by kernel_rfl
theorem j9:dX "map" "__next__" "map.__next__":=
 .of (owner:="map") (n:="__next__") (by rw[bJ,aW];kernel_rfl) (by decide +kernel) (by decide +kernel) (by decide +kernel)
  (by first|exact .inl (by decide +kernel)|exact .inr (by decide +kernel)) (by rw[bK];kernel_rfl)
theorem qY:dX "map" "__iter__" "map.__iter__":=
 .of (owner:="map") (n:="__iter__") (by rw[bJ,aW];kernel_rfl) (by decide +kernel) (by decide +kernel) (by decide +kernel)
  (by first|exact .inl (by decide +kernel)|exact .inr (by decide +kernel)) (by rw[bK];kernel_rfl)
theorem x6:dX "map" "__init__" "object.__init__":=
 .of (owner:="object") (n:="__init__") (by rw[bJ,aW];kernel_rfl) (by decide +kernel) (by decide +kernel) (by decide +kernel)
  (by first|exact .inl (by decide +kernel)|exact .inr (by decide +kernel)) (by rw[bK];kernel_rfl)
theorem pN:entryFor table "map.__next__"=some Builtin.«map.__next__»:=eM (by kernel_rfl)
theorem qZ(a:Value):argsOk "map.__next__" ⟨[a],[]⟩:=by
 unfold argsOk;rw[gA (id:="map.__next__") (n:=['_','_','t','x','e','n','_','_']) (o:=['p','a','m']) (by kernel_rfl) yP];kernel_rfl
theorem x7(a:Value):argsOk "map.__iter__" ⟨[a],[]⟩:=by
 unfold argsOk;rw[gA (id:="map.__iter__") (n:=['_','_','r','e','t','i','_','_']) (o:=['p','a','m']) (by kernel_rfl) yP];kernel_rfl
theorem wZ:entryFor table "map.__iter__"=some Builtin.«dict_keyiterator.__iter__»:=
 entryFor_alias (id':="dict_keyiterator.__iter__") (by kernel_rfl) (by first|rfl|decide +kernel|(unfold String.splitOn;simp +decide [String.splitOnAux])) (by decide +kernel) (by kernel_rfl)
theorem FE:mroOf (.type "map")=pure [.type "map",.type "object"]:=by rw[mroOf_type];kernel_rfl
theorem w0:gO (.type "map") "__new__"=pure (some (.builtin "map.__new__")):=by rw[bJ,aW];kernel_rfl
theorem D3:TypeCalled "map" "map.__new__" "object.__init__":=
 ⟨by decide +kernel,by decide +kernel,⟨_,_,FE⟩,madeBy_type FE w0 (by decide +kernel),by decide +kernel,by rw[bK];kernel_rfl,x6⟩
theorem zL(a b:Value):checkTypeCall "map" ⟨[a,b],[]⟩=pure ():=by kernel_rfl
theorem BF(a b:Value):iI "map.__new__" ⟨[.type "map",a,b],[]⟩=pure ():=by kernel_rfl
theorem x8:entryFor table "map.__new__"=some Builtin.«map.__new__»:=eM (by kernel_rfl)
theorem NH:eF (.type "map") (.type "map")=pure true:=by rw[bK];kernel_rfl
theorem sC:Manifest.owners.lookup (String.ofList ['r','e','t','l','i','f'].reverse)=some Manifest.sig_filter:=by kernel_rfl
theorem gc:dX "filter" "__next__" "filter.__next__":=
 .of (owner:="filter") (n:="__next__") (by rw[bJ,aW];kernel_rfl) (by decide +kernel) (by decide +kernel) (by decide +kernel)
  (by first|exact .inl (by decide +kernel)|exact .inr (by decide +kernel)) (by rw[bK];kernel_rfl)
theorem nR:dX "filter" "__iter__" "filter.__iter__":=
 .of (owner:="filter") (n:="__iter__") (by rw[bJ,aW];kernel_rfl) (by decide +kernel) (by decide +kernel) (by decide +kernel)
  (by first|exact .inl (by decide +kernel)|exact .inr (by decide +kernel)) (by rw[bK];kernel_rfl)
theorem tY:dX "filter" "__init__" "object.__init__":=
 .of (owner:="object") (n:="__init__") (by rw[bJ,aW];kernel_rfl) (by decide +kernel) (by decide +kernel) (by decide +kernel)
  (by first|exact .inl (by decide +kernel)|exact .inr (by decide +kernel)) (by rw[bK];kernel_rfl)
theorem m7:entryFor table "filter.__next__"=some Builtin.«filter.__next__»:=eM (by kernel_rfl)
theorem nU(a:Value):argsOk "filter.__next__" ⟨[a],[]⟩:=by
 unfold argsOk;rw[gA (id:="filter.__next__") (n:=['_','_','t','x','e','n','_','_']) (o:=['r','e','t','l','i','f']) (by kernel_rfl) sC];kernel_rfl
theorem tZ(a:Value):argsOk "filter.__iter__" ⟨[a],[]⟩:=by
 unfold argsOk;rw[gA (id:="filter.__iter__") (n:=['_','_','r','e','t','i','_','_']) (o:=['r','e','t','l','i','f']) (by kernel_rfl) sC];kernel_rfl
theorem sD:entryFor table "filter.__iter__"=some Builtin.«dict_keyiterator.__iter__»:=
 entryFor_alias (id':="dict_keyiterator.__iter__") (by kernel_rfl) (by first|rfl|decide +kernel|(unfold String.splitOn;simp +decide [String.splitOnAux])) (by decide +kernel) (by kernel_rfl)
theorem w1:mroOf (.type "filter")=pure [.type "filter",.type "object"]:=by rw[mroOf_type];kernel_rfl
theorem sE:gO (.type "filter") "__new__"=pure (some (.builtin "filter.__new__")):=by rw[bJ,aW];kernel_rfl
theorem x9:TypeCalled "filter" "filter.__new__" "object.__init__":=
 ⟨by decide +kernel,by decide +kernel,⟨_,_,w1⟩,madeBy_type w1 sE (by decide +kernel),by decide +kernel,by rw[bK];kernel_rfl,tY⟩
theorem uf(a b:Value):checkTypeCall "filter" ⟨[a,b],[]⟩=pure ():=by kernel_rfl
theorem w2(a b:Value):iI "filter.__new__" ⟨[.type "filter",a,b],[]⟩=pure ():=by kernel_rfl
theorem tc:entryFor table "filter.__new__"=some Builtin.«filter.__new__»:=eM (by kernel_rfl)
theorem D4:eF (.type "filter") (.type "filter")=pure true:=by rw[bK];kernel_rfl
noncomputable abbrev BG(h:Heap)(m TI:Addr):Prop:=h.get? m=some {cls:=.type "map",dict:=none,data:=.fields #[.ref TI,.type "str"],slots:=#[]}
noncomputable abbrev FF(h:Heap)(T:Addr)(a:Value):Prop:=h.get? T=some {cls:=.type "tuple",data:=.seq #[a]}
noncomputable abbrev FG(h:Heap)(l:Addr):Heap:=h.push {cls:=.type "list_iterator",data:=.fields #[.ref l,.int 0 0]}
noncomputable abbrev FH(h:Heap)(l:Addr):Heap:=(FG h l).push {cls:=.type "tuple",data:=.seq #[.ref h.objs.size]}
noncomputable abbrev BH(h:Heap)(l:Addr):Heap:=(FH h l).push {cls:=.type "map",data:=.fields #[.ref (FG h l).objs.size,.type "str"]}
theorem xa(l:Addr)(xs:Array Value):
 Meets (Builtin.«map.__new__» ⟨[.type "map",.type "str",.ref l],[]⟩) (fun _ R s=>s.heap.IsList l xs∧
  R (.ok (.ret (.ref (FH s.heap l).objs.size))) {s with heap:=BH s.heap l}):=
 .of_wp fun prog w A R s h=>by
  obtain⟨hp,g,d,tk,os⟩:=s;obtain⟨H7,h⟩:=h;have Ia:=NH;have Xi:Heap.IsList (Shared.heap ⟨hp,g,d,tk,os⟩) l xs:=H7
  wp_walk using hY Xi
  exact⟨_,rfl,h⟩
variable{prog:Program}{w:World}{A:Around}{E:Value→Shared→Prop}{s:Shared}
theorem zM(hl:s.heap.IsList l xs)
 (h:∀h',BG h' (s.heap.objs.size+2) (s.heap.objs.size+1)→FF h' (s.heap.objs.size+1) (.ref s.heap.objs.size)→
  h'.IsListIter s.heap.objs.size l 0→h'.objs.size=s.heap.objs.size+3→
  (∀c o,s.heap.get? c=some o→h'.get? c=some o)→Q (.ref (s.heap.objs.size+2)) {s with heap:=h'}):
 aH (model prog w) A (call (.type "map") [.type "str",.ref l]) Q E s:=by
 refine callType_new D3 (by decide) (zL _ _) (BF _ _) (fun obj=>F.args_object_init_3 obj _ _) x8
  (xa l xs) ⟨hl,?_⟩
 have z1:(FG s.heap l).objs.size=s.heap.objs.size+1:=Heap.size_push ..;have z2:(FH s.heap l).objs.size=s.heap.objs.size+2:=by rw[Heap.size_push,z1]
 have z3:(BH s.heap l).objs.size=s.heap.objs.size+3:=by rw[Heap.size_push,z2]
 have g3:(BH s.heap l).get? (FH s.heap l).objs.size=some _:=Heap.get?_push_size _ rfl;have g2:(BH s.heap l).get? (FG s.heap l).objs.size=some _:=Heap.get?_push_of_some _ (Heap.get?_push_size _ rfl);have g1:(BH s.heap l).get? s.heap.objs.size=some _:=Heap.get?_push_of_some _ (Heap.get?_push_of_some _ (Heap.get?_push_size _ rfl));show _∧_;rw[z1,z2] at g3;rw[z1] at g2;rw[z2];exact⟨⟨_,g3,rfl⟩,h _ g3 g2 ⟨_,g1,rfl,rfl⟩ z3 fun c o x=>Heap.get?_push_of_some _ (Heap.get?_push_of_some _ (Heap.get?_push_of_some _ x))⟩
end Mine.Internal
namespace Mine.Internal
open PySem PyProof.Rows
variable{prog:Program}{w:World}{A:Around}{E:Value→Shared→Prop}{s:Shared}
theorem Jp{m TI i1 l1:Addr}{k1:Nat}{xs:Array Value}{x:Str}{t:Tok}{Q:Value→Shared→Prop}(hm:BG s.heap m TI)(S9:FF s.heap TI (.ref i1))
 (h1:s.heap.IsListIter i1 l1 k1) (H7:s.heap.IsList l1 xs) (hx:xs[k1]?=some (.str x t)) (Ro:m≠i1)
 (hQ:∀h',h'.IsListIter i1 l1 (k1+1)→Heap.SameBut i1 s.heap h'→Q (.str x t) {s with heap:=h'}):
 aH (model prog w) A (Builtin.«map.__next__» ⟨[.ref m],[]⟩) (fun fin s'=>∃v,fin=.done (.ret v)∧Q v s') E s:=by
 show aH _ _ (field (.ref m) 0>>=_) _ _ _;refine aB (cE hm rfl (x:=.ref TI) rfl ?_);refine aB (fA S9 rfl ?_);dsimp only;rw[←fE];simp only[eT,gH];refine aB (aB (aB (aQ ?_)));show aH _ _ (Builtin.SmallTypes.nextOf (.ref i1)) _ _ _;refine gD h1 H7 hx fun jz Gg kj=>?_;refine aF ?_;refine aF ?_;refine aB (cE (kj.extBut _ _ Ro hm) rfl (x:=.type "str") rfl ?_);refine aB (aQ ?_);refine P.str_of_str ?_;refine aB (wpAny_letGo ?_);exact aF ⟨_,rfl,hQ jz Gg kj⟩
theorem NI(hh:A.handled=none)(hm:BG s.heap m TI)(S9:FF s.heap TI (.ref i1))
 (h1:s.heap.IsListIter i1 l1 k1) (H7:s.heap.IsList l1 xs) (hx:xs[k1]?=none)
 (hE:∀h' e,Heap.ExtBut i1 s.heap h'→(∃o,h'.get? e=some o∧o.cls=.type "StopIteration")→E (.ref e) {s with heap:=h'}):
 aH (model prog w) A (Builtin.«map.__next__» ⟨[.ref m],[]⟩) Q E s:=by
 show aH _ _ (field (.ref m) 0>>=_) _ _ _;refine aB (cE hm rfl (x:=.ref TI) rfl ?_);refine aB (fA S9 rfl ?_);dsimp only;rw[←fE];simp only[eT,gH];refine aB (aB (aB (aQ ?_)));show aH _ _ (Builtin.SmallTypes.nextOf (.ref i1)) _ _ _;exact iO hh h1 H7 hx fun h' e hs he=>hE h' e hs he
structure PC(m TI i1 l1:Addr)(xs:Array Value)(i:Nat)(h:Heap):Prop where
 m:BG h m TI
 ti:FF h TI (.ref i1)
 a:h.IsListIter i1 l1 i
 l:h.IsList l1 xs
noncomputable def TM(xs:Array Value)(i:Nat)(v:Value)(h:Heap):Prop:=xs[i]?=some v
theorem NJ(hh:A.handled=none)(Ro:m≠i1)(MI:TI≠i1)(ZH:l1≠i1)(hD:D'∉[m,TI,i1,l1])(xs:Array Value)(hs:∀v∈xs.toList,∃x t,v=.str x t):
 S8 prog w A m D' [i1] xs.size (PC m TI i1 l1 xs) (TM xs) where
 ne:=fun h=>hD (by simp at h ⊢;simp[h])
 item:=fun i s Q E hi st hd hQ=>by
  have hx:=bC hi;obtain⟨x,t,hv⟩:=hs _ (show xs[i]∈xs.toList by simp);rw[hv] at hx;obtain⟨hm,hT,ha,hl⟩:=st;have CR:s.TypeIs (.ref m) "map":=⟨_,hm,rfl⟩;refine aB (fO (cN (name:=Str.ofString "__next__") CR j9
   (cH j9 CR pN (Jp hm hT ha hl hx Ro fun h' a1 nH=>aF ?_) (qZ _))))
  refine hQ _ h' s.toks hx ⟨nH.extBut _ _ Ro hm,nH.extBut _ _ MI hT,a1,hl.extBut nH.extBut ZH⟩ fun c o hc e=>nH.extBut _ _ (by simpa using hc) e
 done:=fun s Q E st hQ=>by
  obtain⟨hm,hT,ha,hl⟩:=st;have CR:s.TypeIs (.ref m) "map":=⟨_,hm,rfl⟩;refine aB (fO (cN (name:=Str.ofString "__next__") CR j9
   (cH j9 CR pN (NI hh hm hT ha hl (eK (bB _)) fun h' e hk he=>?_) (qZ _))))
  obtain⟨o,ho,hc⟩:=he;refine aB (eN (T:="StopIteration") (b:=true) ⟨o,ho,hc⟩ jH ?_);exact aF (hQ _ s.toks fun c o hc e=>hk c o (by simpa using hc) e)
 frame:=fun i h h' st k o=>by
  simp only[aO,dW,or_false,not_or] at hD;obtain⟨n1,n2,n3,n4⟩:=hD;obtain⟨hm,hT,ha,hl⟩:=st;exact⟨k _ _ (Ne.symm n1) hm,k _ _ (Ne.symm n2) hT,ha.at fun o e=>k _ o (Ne.symm n3) e,hl.at fun o e=>k _ o (Ne.symm n4) e⟩
 tN:=fun i v h h' p k=>p
theorem D5(hm:BG s.heap m TI)(h:Q (.ref m) s):aH (model prog w) A (pyIter (.ref m)) Q E s:=by
 have hT:s.TypeIs (.ref m) "map":=⟨_,hm,rfl⟩;refine wpAny_pyIter_slot hT qY (cH qY hT wZ ?_ (x7 _));exact aF ⟨_,rfl,"map",_,hT,j9.lookup,h⟩
theorem D6(hh:A.handled=none){vs xs:Array Value}(ha:bw s.heap a vs)(hl:s.heap.IsList l xs)(C3:a≠l)(hs:∀v∈xs.toList,∃x t,v=.str x t)(h1:vs.size≤1024)(h2:xs.size≤1024)
 (hQ:∀h' tk,bw h' a (vs++xs)→(∀b o,b≠a→s.heap.get? b=some o→h'.get? b=some o)→Q .none {s with heap:=h',toks:=tk}):
 aH (model prog w) A (call (.type "map") [.type "str",.ref l]) (fun m a9=>aH (model prog w) A (call (.builtin "list.extend") [.ref a,m]) Q E a9) E s:=by
 have Sl:a<s.heap.objs.size:=by refine kK ha fun _ _ e=>?_;exact Heap.lt_size e
 have Vk:l<s.heap.objs.size:=by obtain⟨_,e,_⟩:=hl;exact Heap.lt_size e
 refine zM hl fun h' hm hT hi gw hk=>?_;have W:=NJ (prog:=prog) (w:=w) (A:=A.in1) (m:=s.heap.objs.size+2) (TI:=s.heap.objs.size+1) (i1:=s.heap.objs.size) (l1:=l) (D':=a) hh
  (by intro q;change @Eq Nat _ _ at q;lia) (by intro q;change @Eq Nat _ _ at q;lia) (bU Vk) (by
   simp only[aO,dW,or_false,not_or];have Xj:@LT.lt Nat _ a s.heap.objs.size:=Sl;exact⟨by intro q;change @Eq Nat _ _ at q;lia,by intro q;change @Eq Nat _ _ at q;lia,bU Sl,C3⟩) xs hs
 have st:PC (s.heap.objs.size+2) (s.heap.objs.size+1) s.heap.objs.size l xs 0 h':=⟨hm,hT,hi,hl.at fun o e=>hk _ o e⟩;have CM:bw h' a vs:=by refine kK ha fun n sl e=>?_;exact⟨n,sl,hk _ _ e⟩
 have hTa:({s with heap:=h'}:Shared).TypeIs (.ref a) "list":=by refine kK CM fun n sl e=>?_;exact⟨_,e,rfl⟩
 refine vp F.slot_list_extend hTa F.entry_list_extend ?_ (F.args_list_extend_2 _ _);refine dS (uV (R:=fun r s'=>match r with|.ok (.ret v)=>Q v s'|.ok _=>False|.error e=>E e s') Jh W h2 h1 (s:={s with heap:=h'}) ⟨_,hm,rfl⟩ (by have Xj:@LT.lt Nat _ a s.heap.objs.size:=Sl;intro q;change @Eq Nat _ _ at q;lia) (fun Q E h=>D5 hm h) st CM fun jz tk us e1 e2 e3 e4=>?_) (fun fin s' h=>?_) fun e s' h=>h
 ·have:us=xs:=by
   apply Array.ext e1;intro i hi1 hi2;have:=e3 i us[i] (bC hi1);unfold TM at this;rw[bC hi2] at this;exact(aL this).symm
  subst this;exact hQ jz tk e2 fun b o hb e=>e4 b o (by simp only[aO,dW,or_false];exact bU (Heap.lt_size e)) hb (hk b o e)
 ·rcases fin with (f|c')
  ·cases f<;>exact h
  ·exact h
end Mine.Internal
namespace Mine.Internal
open PySem PyProof.Rows
variable{prog:Program}{w:World}{c:Ac}{k:Option Cc}{fz ae:Fz}{s s':Shared}{σ σ':St}{γ jg:Nat→Option GS}
theorem D7(O:c.Ok)(X:aw c none fz s σ γ){vL:Array Value}(H:ke c fz s γ x (.ref a) (.own a ds)){h':Heap}(hk:∀b o,b≠a→s.heap.get? b=some o→h'.get? b=some o)(hl:bw h' a vL)(r:a8 c.C.EC fz ds' vL.toList):
 aw c none fz {s with heap:=h',toks:=tk} σ γ∧ke c fz {s with heap:=h',toks:=tk} γ x (.ref a) (.own a ds'):=by
 have A:=H.gb a (.head _);have m:=H.g9 a (.head _);obtain⟨_,vs,Xl,_⟩:=H.rep;refine⟨X.turn O A m.fz m.new Xl.tP hk (tk:=tk),?_,⟨rfl,vL,hl,r⟩,fun b hb=>H.g9 b hb,fun b hb=>H.gb b hb,.cons nofun .nil⟩;rcases H.var with ⟨e1,m,⟨o,es,ep,e,r⟩,e2⟩|⟨e1,b,e2,o,e3,e4⟩
 ·exact .inl ⟨e1,m,⟨o,es,ep,hk _ _ (Ne.symm A.L) e,r⟩,e2⟩
 ·exact .inr ⟨e1,b,e2,o,hk _ _ (Ne.symm (A.cells x b (eY e2))) e3,e4⟩
theorem sF{C:Bc}:∀{ds:List D} {vs:List Value} {ys:List (List Nat)},a8 C.EC fz ds vs→strsOf ds=some ys→∀v∈vs,∃x t,v=.str x t
 |[],_,_,r,h=>fun v hv=>by cases r;cases hv
 |d::ds,_,ys,r,h=>fun v' hv=>by
  refine sz r fun v u bq f g=>?_;subst bq;obtain⟨x,rfl,h1⟩:=g5 h;obtain⟨E8,hs,_⟩:=aR.mp h1;rcases aO.mp hv with e|hv
  ·exact(bu f).elim fun t e'=>⟨_,t,e.trans e'⟩
  ·exact sF g hs v' hv
theorem BI (O:c.Ok) (hA:c.A.handled=none) (d9:∀y v,¬c.snap y v) {xp apos sq pos mp sp mcp:Pos} (hn:c.env.scope.names[i]?=some (x,kd)) (hd:(x==("__debug__":Str))=false) (MB:noStar e=true) (sg:(apos.endLine==sq.line)=true)
 (hx:globK c none "map") (hg:c.C.mg "map"=none) (hb:c.C.mb "map"=some (.type "map")) (AF:globK c none "str") (Ib:c.C.mg "str"=none) (uK:c.C.mb "str"=some (.type "str")) (h:nA prog w c e ev):
 du prog w c (.Expr (.Call (.Attribute (.Name x xp) "extend" apos) [.Call (.Name "map" mp) [.Name "str" sp,e] [] mcp] [] sq) pos) (hidden i fun o σ=>(au (ev σ)).bind (ko i o)):=fun fz s σ r σ' I hv Q E q=>jv O I hn hv fun γ v g pg jr hv=>by
 refine iw (bh hv) fun d ai h1 h2=>?_;refine yk (nN jr h2) fun a ds vs L h3=>?_;cases L.g;cases L.v;obtain⟨es,rfl,h4⟩:=iy h3;obtain⟨ys,hys,h5⟩:=fw h4;obtain⟨gw,h6⟩:=kQ h5;refine wpAny_Expr (Call_method1 rfl rfl sg (dR (ik O jr (qp F.slot_list_extend F.type_list_extend L.l (qt O (k:=none) trivial hx hg hb (by decide) rfl MB fz s (σ.hide i) pg.inv _ _ (ij O (k:=none) trivial pg.inv.hi AF Ib uK (h.held O d9 pg jr h1 fun u a9 av lU b8 di ru uk=>?_) (by decide))))) hd)) (je O) rfl;refine eo (qo uk) fun CO xw=>?_;obtain⟨l,us,n,rfl,fl,rl⟩:=ru;have l2:=rl.length;rw[aS] at l2;have C3:a≠l:=fun q=>vN (uk.g9 a (.head _)).fz (q▸fl);refine D6 hA xw.l (en di.inv.hi fl) C3 (sF rl hys) (by rw[xw.size];exact cL gw) (by rw[l2];exact eS gw) fun h' tk rH hk=>?_;refine ka (D7 O di uk (tk:=tk) (ds':=ds++es) hk rH (by rw[eG];exact a8.append xw.r rl)) fun gx k8=>?_;exact q.fin h6 b8 (gx.pG hn k8)
end Mine.Internal
namespace Mine.Internal
open PySem PyProof.Rows
theorem pO:dX "method_descriptor" "__get__" "method_descriptor.__get__":=
 .of (owner:="method_descriptor") (n:="__get__") (by rw[bJ,aW];kernel_rfl) (by decide +kernel) (by decide +kernel) (by decide +kernel)
  (by first|exact .inl (by decide +kernel)|exact .inr (by decide +kernel)) (by rw[bK];kernel_rfl)
theorem BJ:gO (.type "method_descriptor") "__set__"=pure none:=by rw[bJ,aW];kernel_rfl
theorem BK:gO (.type "method_descriptor") "__delete__"=pure none:=by rw[bJ,aW];kernel_rfl
theorem zN:entryFor table "method_descriptor.__get__"=some Builtin.«method_descriptor.__get__»:=eM (by kernel_rfl)
theorem BM(a b c:Value):argsOk "method_descriptor.__get__" ⟨[a,b,c],[]⟩:=by unfold argsOk;kernel_rfl
theorem oK:eF (.type "set") (.type (".".intercalate ("set.__contains__".cutAt '.').dropLast))=pure true:=by
 have e0:"set.__contains__".cutAt '.'=["set","__contains__"]:=by first|rfl|decide +kernel
 rw[e0,show(".".intercalate ["set","__contains__"].dropLast)="set" by decide +kernel,bK];kernel_rfl
noncomputable def nC(a:Addr):Obj:={cls:=.type "builtin_function_or_method",data:=.fields #[.builtin "set.__contains__",.ref a]}
section
variable{prog:Program}{w:World}{A:Around}{E:Value→Shared→Prop}{h:Heap}{g:Array GenState}{d:Drawn}{t:Nat}{os:OsState}{a:Addr}{o:Obj}
theorem zO {R:Result→Shared→Prop} (hx:h.get? a=some o) (hc:o.cls=.type "set") (hq:R (.ok (.ret (.ref h.objs.size))) ⟨h.push (nC a),g,d,t,os⟩):
 gS (model prog w) A (.call (.builtin "method_descriptor.__get__") ⟨[.builtin "set.__contains__",.ref a,.type "set"],[]⟩) R ⟨h,g,d,t,os⟩:=by
 have hT:(⟨h,g,d,t,os⟩:Shared).TypeIs (.ref a) "set":=⟨_,hx,hc⟩;have ZI:(⟨h,g,d,t,os⟩:Shared).TypeIs (.builtin "set.__contains__") "method_descriptor":=F.type_set_contains;have f8:=oK;refine fU pO.plain zN (pO.check _ _ _ _ _ _ _ _ ZI (BM _ _ _) ?_)
 repeat (any_goals (first|assumption|wp_step))
theorem w3 (hx:h.get? a=some o) (hc:o.cls=.type "set") (hd:o.dict=none) (Ee:o.data=.set es n tb) (hq:Q (.done (.ret (.ref h.objs.size))) ⟨h.push (nC a),g,d,t,os⟩):
 aH (model prog w) A (Builtin.«object.__getattribute__» ⟨[.ref a,.str "__contains__" tk],[]⟩) Q E ⟨h,g,d,t,os⟩:=by
 obtain⟨oc,od,Xm,osl⟩:=o;simp only at hc hd Ee;subst hc hd Ee;have hT:(⟨h,g,d,t,os⟩:Shared).TypeIs (.ref a) "set":=⟨_,hx,rfl⟩;have ZI:(⟨h,g,d,t,os⟩:Shared).TypeIs (.builtin "set.__contains__") "method_descriptor":=F.type_set_contains;have f4:=F.slot_set_contains.lookup;have f5:=F.type_set_contains;have f6:=pO.lookup;have f7:=BJ;have f8:=BK
 repeat (any_goals (first|assumption|wp_step))
 refine zO hx rfl ?_
 repeat (any_goals (first|assumption|wp_step))
theorem xb {tk:Tok} {R:Result→Shared→Prop} (hx:h.get? a=some o) (hc:o.cls=.type "set") (hd:o.dict=none) {es:Array (Int×Value)} {n:Nat} {tb:SetTable} (Ee:o.data=.set es n tb) (hq:R (.ok (.ret (.ref h.objs.size))) ⟨h.push (nC a),g,d,t,os⟩):
 gS (model prog w) A (.call (.builtin "set.__getattribute__") ⟨[.ref a,.str "__contains__" tk],[]⟩) R ⟨h,g,d,t,os⟩:=
 fU F.slot_set_getattribute.plain F.entry_set_ga (F.slot_set_getattribute.check _ _ _ _ _ _ _ _ (show(⟨h,g,d,t,os⟩:Shared).TypeIs (.ref a) "set" from⟨_,hx,hc⟩) (F.args_set_getattribute_2 _ _) (w3 hx hc hd Ee hq))
theorem xc (hx:h.get? a=some o) (hc:o.cls=.type "set") (hd:o.dict=none) (Ee:o.data=.set es n tb) (hq:Q (.ref h.objs.size) ⟨h.push (nC a),g,d,t+1,os⟩):aH (model prog w) A (getAttr (.ref a) "__contains__" true) Q E ⟨h,g,d,t,os⟩:=by
 obtain⟨oc,od,Xm,osl⟩:=o;simp only at hc hd Ee;subst hc hd Ee;have hT:∀t,(⟨h,g,d,t,os⟩:Shared).TypeIs (.ref a) "set":=fun _=>⟨_,hx,rfl⟩;have f2:=F.slot_set_getattribute.lookup;have f3:=F.slot_set_getattribute.bind (.ref a);delta getAttr getAttrBy
 repeat (any_goals (first|assumption|exact hT _|wp_step))
 refine xb hx rfl rfl rfl ?_
 repeat (any_goals (first|assumption|wp_step))
end
section
variable{prog:Program}{w:World}{A:Around}{E:Value→Shared→Prop}{s:Shared}
theorem mH:plainId "set.__contains__"=true:=by decide +kernel
theorem td:Manifest.signature? "set.__contains__"=some ⟨.oneArg,"set.__contains__","__contains__",.self,[⟨"object",.posOnly,true⟩]⟩:=by
 rw[gA (id:="set.__contains__") (n:=['_','_','s','n','i','a','t','n','o','c','_','_']) (o:=['t','e','s']) (by kernel_rfl) F.owner_set];kernel_rfl
theorem sG:builtinKind "set.__contains__"=some .method:=by kernel_rfl
theorem w4:eF (.type "set") (.type "module")=pure false:=by rw[bK];kernel_rfl
theorem BN (hT:s.TypeIs (.ref a) "set") (hD:∃o es n t,s.heap.get? a=some o∧o.data=.set es n t) (hQ:Q () s):aH M A (checkBoundCall "set.__contains__" ⟨[.ref a,v],[]⟩) Q E s:=by
 delta checkBoundCall;rw[td,sG];refine aB (eN hT w4 ?_);have e2:¬((Manifest.varargsMethods.contains "set.__contains__"||false)=true):=by decide +kernel
 refine bE (decide_eq_false e2) ?_;obtain⟨o,es,n,t,ho,hd⟩:=hD;refine aB (aB (jG ho ?_));rw[hd];refine aF (aB (wpAny_typeOf hT ?_));show aH M A (Bind.checkArgs "set.__contains__" ⟨.oneArg,toString (Bind.lastOf "set")++toString "."++toString (Bind.lastOf "set.__contains__"),"__contains__",.self,[⟨"object",.posOnly,true⟩]⟩ ⟨[.ref a,v],[]⟩) Q E s;have e3:(toString (Bind.lastOf "set")++toString "."++toString (Bind.lastOf "set.__contains__"))="set.__contains__":=by decide +kernel
 rw[e3];refine aB (m:=Bind.printed "set.__contains__" true _ _) (PyProof.Rows.printed_name (by decide) ?_);refine aB (m:=Bind.printed "__contains__" false _ _) (PyProof.Rows.printed_name (by decide) ?_);refine wpAny_onRaise ?_;have hc:∀n,n=1→Bind.check ⟨.oneArg,"set.__contains__","__contains__",.self,[⟨"object",.posOnly,true⟩]⟩ "set.__contains__" "__contains__" n []=pure ():=fun n hn=>by
  subst hn;rfl
 exact gC (hc _ rfl) hQ
theorem D8{m a:Addr}{S:Str→Bool}{n:Nat}{x:Str}{tk:Tok}{Q:Value→Shared→Prop}(hm:s.heap.get? m=some (nC a))(hS:s.heap.SetOf (strKind prog w) a S n)(h:Q (.bool (S x)) {s with toks:=s.toks+1}):
 aH (model prog w) A (call (.ref m) [.str x tk]) Q E s:=by
 have hT:=hS.typeIs;refine hU (codeAny_of_tree ?_);show aH _ _ (callAny (.ref m) _) _ _ _;delta callAny;dsimp only;refine aB (wpAny_load hm ?_);show aH _ _ (checkBoundCall "set.__contains__" ⟨[.ref a,.str x tk],[]⟩>>=fun _=>again (.builtin "set.__contains__" ⟨[.ref a,.str x tk],[]⟩)) _ _ _;refine aB (BN hT (by obtain⟨o,es,ep,t,ho,_,hd,_⟩:=hS;exact⟨o,es,ep,t,ho,hd⟩) ?_);refine aF ⟨fM mH _,dT entry_set_contains ?_⟩;rw[Around.under_plainId mH _];delta Builtin.«frozenset.__contains__» Builtin.Frozenset.oneOther;simp only[List.isEmpty_nil,bind_assoc];delta Builtin.Frozenset.addrOf Builtin.Frozenset.withSetAsKey setContains;refine aB (aF ?_)
 try dsimp only
 refine aB (aF ?_)
 try dsimp only
 have MJ:(strKind prog w).is x (.str x tk)=true:=by show Value.isStrOf x (.str x tk)=true;simp[Value.isStrOf]
 refine aB (wpAny_tryCatch ?_);refine aQ ?_;refine aB ((strKind prog w).pyHash MJ ?_);refine aB (wpAny_setFind_of (s:={s with toks:=s.toks+1}) MJ rfl hS fun r hr=>?_);refine aF ?_;show aH _ _ (ret (Value.bool r.isSome)) _ _ _;rw[hr];exact aF h
end
noncomputable abbrev BO(h:Heap)(f m it:Addr):Prop:=h.get? f=some {cls:=.type "filter",dict:=none,data:=.fields #[.ref m,.ref it],slots:=#[]}
noncomputable abbrev zP(h:Heap)(l:Addr):Heap:=h.push {cls:=.type "list_iterator",data:=.fields #[.ref l,.int 0 0]}
noncomputable abbrev zQ(h:Heap)(m l:Addr):Heap:=(zP h l).push {cls:=.type "filter",data:=.fields #[.ref m,.ref h.objs.size]}
theorem th(m l:Addr)(xs:Array Value):
 Meets (Builtin.«filter.__new__» ⟨[.type "filter",.ref m,.ref l],[]⟩) (fun _ R s=>s.heap.IsList l xs∧
  R (.ok (.ret (.ref (zP s.heap l).objs.size))) {s with heap:=zQ s.heap m l}):=
 .of_wp fun prog w A R s h=>by
  obtain⟨hp,g,d,tk,os⟩:=s;obtain⟨H7,h⟩:=h;have Ia:=D4;have Xi:Heap.IsList (Shared.heap ⟨hp,g,d,tk,os⟩) l xs:=H7
  wp_walk using hY Xi
  exact⟨_,rfl,h⟩
variable{prog:Program}{w:World}{A:Around}{E:Value→Shared→Prop}{s:Shared}
theorem BP(hl:s.heap.IsList l xs)
 (h:∀h',BO h' (s.heap.objs.size+1) m s.heap.objs.size→h'.IsListIter s.heap.objs.size l 0→h'.objs.size=s.heap.objs.size+2→
  (∀c o,s.heap.get? c=some o→h'.get? c=some o)→Q (.ref (s.heap.objs.size+1)) {s with heap:=h'}):
 aH (model prog w) A (call (.type "filter") [.ref m,.ref l]) Q E s:=by
 refine callType_new x9 (by decide) (uf _ _) (w2 _ _) (fun obj=>F.args_object_init_3 obj _ _) tc
  (th m l xs) ⟨hl,?_⟩
 have z1:(zP s.heap l).objs.size=s.heap.objs.size+1:=Heap.size_push ..;have z2:(zQ s.heap m l).objs.size=s.heap.objs.size+2:=by rw[Heap.size_push,z1]
 have g2:(zQ s.heap m l).get? (zP s.heap l).objs.size=some _:=Heap.get?_push_size _ rfl;have g1:(zQ s.heap m l).get? s.heap.objs.size=some _:=Heap.get?_push_of_some _ (Heap.get?_push_size _ rfl);show _∧_;rw[z1] at g2;rw[z1];exact⟨⟨_,g2,rfl⟩,h _ g2 ⟨_,g1,rfl,rfl⟩ z2 fun c o x=>Heap.get?_push_of_some _ (Heap.get?_push_of_some _ x)⟩
end Mine.Internal
namespace Mine.Internal
open PySem PyProof.Rows
variable{prog:Program}{w:World}{A:Around}{E:Value→Shared→Prop}{s:Shared}
theorem m8(hit:s.heap.IsListIter it l i)(hl:s.heap.IsList l items)(hx:items[i]?=some x)
 (hQ:∀h',h'.IsListIter it l (i+1)→Heap.SameBut it s.heap h'→Q (some x) {s with heap:=h'}):aH (model prog w) A (callSpecial? (.ref it) "__next__") Q E s:=by
 have hT:=hit.typeIs;refine q9 hit fun o ho hc hd=>?_;obtain⟨ol,QJ,_,nl,QK⟩:=hl;refine cN (name:=Str.ofString "__next__") hT hM (cH hM hT entry_listiter_next ?_ (args_listiter_next _));refine aB (m:=field (.ref it) 0) (cE ho hd (x:=.ref l) rfl ?_);refine bE (decide_eq_false (show ¬((Value.ref l==Value.none)=true) from bF)) ?_;refine aB (m:=field (.ref it) 1) (cE ho hd (x:=.int i 0) rfl ?_);refine aB (m:=seqItems? (.ref l)) (fA QJ QK ?_);simp only[cU,hx];refine aB (wpAny_setField ho hd (by simp) (aF ⟨x,rfl,hQ _ ?_ (Heap.SameBut.update ..)⟩));exact⟨_,Heap.get?_update_self _ ho (Obj.isFreed_of_fields (Obj.data_mapFields hd _)),(Obj.cls_mapFields ..).trans hc,by rw[Obj.data_mapFields hd];simp[rawInt]⟩
theorem nV(hh:A.handled=none)(hit:s.heap.IsListIter it l i)(hl:s.heap.IsList l items)(hx:items[i]?=none)
 (hE:∀h' e,Heap.ExtBut it s.heap h'→(∃o,h'.get? e=some o∧o.cls=.type "StopIteration")→E (.ref e) {s with heap:=h'}):aH (model prog w) A (callSpecial? (.ref it) "__next__") Q E s:=by
 have hT:=hit.typeIs;refine q9 hit fun o ho hc hd=>?_;obtain⟨ol,QJ,_,nl,QK⟩:=hl;refine cN (name:=Str.ofString "__next__") hT hM (cH hM hT entry_listiter_next ?_ (args_listiter_next _));refine aB (m:=field (.ref it) 0) (cE ho hd (x:=.ref l) rfl ?_);refine bE (decide_eq_false (show ¬((Value.ref l==Value.none)=true) from bF)) ?_;refine aB (m:=field (.ref it) 1) (cE ho hd (x:=.int i 0) rfl ?_);refine aB (m:=seqItems? (.ref l)) (fA QJ QK ?_);simp only[cU,hx];refine aB (fR (aB (wpAny_setField ho hd (by simp) ?_)));refine aB (m:=newExc (.type "StopIteration") []) ?_;refine aB (dM ?_ (by size_fits));refine aB (m:=firstArgMember _ _) (gC (a:=Value.none) (by first|rfl|(simp only[firstArgMember];rfl)) ?_);refine dM ?_ (by size_fits);refine aB (wpAny_handled ?_);rw[show A.in1.handled=none from hh];refine aB (aF (wpAny_throw ?_));exact hE _ _ (((Heap.SameBut.update ..).extBut.push _).push _) ⟨_,Heap.get?_push_size _ rfl,rfl⟩
noncomputable def oU(S:Str→Bool):Value→Bool
 |.str x _=>S x
 |_=>false
structure qu(prog:Program)(w:World)(f m it a l:Addr)(S:Str→Bool)(n:Nat)(xs:Array Value)(j:Nat)(h:Heap):Prop where
 f:BO h f m it
 m:h.get? m=some (nC a)
 s:h.SetOf (strKind prog w) a S n
 i:h.IsListIter it l j
 l:h.IsList l xs
theorem SetOf.keep{K:Type} [DecidableEq K]{knd:KeyKind prog w K}{h h':Heap}{a:Addr}{S:K→Bool}{n:Nat}(x:h.SetOf knd a S n)(k:∀o,h.get? a=some o→h'.get? a=some o):h'.SetOf knd a S n:=
 let ⟨o,es,ep,t,e,r⟩:=x;⟨o,es,ep,t,k o e,r⟩
theorem qu.but{f m it a l:Addr}{S:Str→Bool}{n:Nat}{xs:Array Value}{j j':Nat}{h h':Heap}(x:qu prog w f m it a l S n xs j h)(hf:f≠it)(hm:m≠it)(ha:a≠it)(hl:l≠it)(k:∀b o,b≠it→h.get? b=some o→h'.get? b=some o)(hi:h'.IsListIter it l j'):qu prog w f m it a l S n xs j' h':=
 ⟨k _ _ hf x.f,k _ _ hm x.m,SetOf.keep x.s fun o e=>k _ o ha e,hi,x.l.at fun o e=>k _ o hl e⟩
theorem uW{f m it a l:Addr}{S:Str→Bool}{n:Nat}{xs:Array Value}(hh:A.handled=none)(hf:f≠it)(hm:m≠it)(ha:a≠it)(hl:l≠it)(hs:∀v∈xs.toList,∃x t,v=.str x t){R:Result→Shared→Prop}:
 ∀(k j i:Nat) (s:Shared),xs.size-j=k→j≤xs.size→((xs.toList.take j).filter (oU S)).length=i→qu prog w f m it a l S n xs j s.heap→
  (∀v h' tk j',(xs.toList.filter (oU S))[i]?=some v→j'≤xs.size→((xs.toList.take j').filter (oU S)).length=i+1→qu prog w f m it a l S n xs j' h'→(∀b o,b≠it→s.heap.get? b=some o→h'.get? b=some o)→R (.ok (.ret v)) {s with heap:=h',toks:=tk})→
  ((xs.toList.filter (oU S))[i]?=none→∀h' tk e,(∀b o,b≠it→s.heap.get? b=some o→h'.get? b=some o)→(∃o,h'.get? e=some o∧o.cls=.type "StopIteration")→R (.error (.ref e)) {s with heap:=h',toks:=tk})→
  gS (model prog w) A (.builtin "filter.__next__" ⟨[.ref f],[]⟩) R s:=by
 intro k
 induction k with
 |zero=>
  intro j i s hk hj hi F h1 h2;have Ic:j=xs.size:=Iv hk hj;refine dT m7 ?_;rw[Around.under_plainId (by decide +kernel) _];refine aB (m:=field (.ref f) 0) (cE F.f rfl (x:=.ref m) rfl ?_);refine aB (m:=field (.ref f) 1) (cE F.f rfl (x:=.ref it) rfl ?_);refine aB (nV hh F.i F.l (by subst Ic;exact eK (bB _)) fun h' e AB he=>?_);refine h2 ?_ h' s.toks e (fun b o hb e=>AB b o hb e) he;rw[←hi,Ic,cK (by simp)];simp
 |succ k ih=>
  intro j i s hk hj hi F h1 h2;have Ic:j<xs.size:=C4 hk;have hx:=bC Ic;refine kK (hs xs[j] (by simp)) fun y t hv=>?_;rw[hv] at hx;have CT:(xs.toList.take (j+1))=xs.toList.take j++[.str y t]:=by
   rw[List.take_add_one];simp[hx]
  refine dT m7 ?_;rw[Around.under_plainId (by decide +kernel) _];refine aB (m:=field (.ref f) 0) (cE F.f rfl (x:=.ref m) rfl ?_);refine aB (m:=field (.ref f) 1) (cE F.f rfl (x:=.ref it) rfl ?_);refine aB (m8 F.i F.l hx fun h' Oa nH=>?_);have F':qu prog w f m it a l S n xs (j+1) h':=F.but hf hm ha hl (fun b o hb e=>nH.extBut _ _ hb e) Oa;refine aB (aQ ?_);have e0:((Value.ref m==Value.none)||(Value.ref m==Value.type "bool"))=false:=rfl;refine bE (decide_eq_false (by rw[e0];exact bF)) ?_;refine aB (D8 (s:={s with heap:=h'}) F'.m F'.s ?_);refine aQ (wpAny_truthy_bool ?_);cases hS:S y with
  |true=>
   have fk:[Value.str y t].filter (oU S)=[.str y t]:=aX hS;refine cT rfl ?_;refine aF (h1 (.str y t) h' _ (j+1) ?_ Ic ?_ F' fun b o hb e=>nH.extBut _ _ hb e)
   ·rw[←iP (j+1) xs.toList,cD,CT,cD,←hi]
    rw[fk];simp
   ·rw[CT,cD,aV,hi,fk];rfl
  |false=>
   refine bE rfl ?_;refine aF ⟨fM (by decide +kernel) _,ih (j+1) i _ (vM hk) Ic ?_ F' (fun v jz tk j' a1 a2 a3 a4 a5=>?_) fun a1 jz tk e a2 a3=>?_⟩
   ·rw[CT,cD,aV,hi,bD (p:=oU S) (a:=.str y t) (show ¬S y=true by rw[hS];exact bF)];rfl
   ·exact h1 v jz tk j' a1 a2 a3 a4 fun b o hb e=>a5 b o hb (nH.extBut _ _ hb e)
   ·exact h2 a1 jz tk e (fun b o hb e=>a2 b o hb (nH.extBut _ _ hb e)) a3
noncomputable def Jq(prog:Program)(w:World)(f m it a l:Addr)(S:Str→Bool)(n:Nat)(xs:Array Value)(i:Nat)(h:Heap):Prop:=
 ∃j,j≤xs.size∧((xs.toList.take j).filter (oU S)).length=i∧qu prog w f m it a l S n xs j h
noncomputable def TN(S:Str→Bool)(xs:Array Value)(i:Nat)(v:Value)(h:Heap):Prop:=(xs.toList.filter (oU S))[i]?=some v
theorem w5{T:String}{name:Str}{id:String}{self:Value}{rest:List Value}{Q E:Value→Shared→Prop}(h:dX T name id)(hT:s.TypeIs self T)
 (hc:gS (model prog w) A (.builtin id ⟨self::rest,[]⟩) (fun r s'=>match r with|.ok (.ret v)=>Q v s'|.ok _=>False|.error e=>E e s') s)
 (ha:argsOk id ⟨self::rest,[]⟩):aH (model prog w) A (call (.builtin id) (self::rest)) Q E s:=
 hU (codeAny_call_builtin_code (fM h.plain _) (h.check _ _ _ _ _ _ _ _ hT ha hc))
theorem D9(hh:A.handled=none){f m it a l D':Addr}(hf:f≠it)(hm:m≠it)(ha:a≠it)(hl:l≠it)(n1:D'≠f)(n2:D'≠m)(n3:D'≠it)(n4:D'≠a)(n5:D'≠l)(S:Str→Bool)(n:Nat)(xs:Array Value)(hs:∀v∈xs.toList,∃x t,v=.str x t):
 S8 prog w A f D' [it] (xs.toList.filter (oU S)).length (Jq prog w f m it a l S n xs) (TN S xs) where
 ne:=fun h=>n3 (aK.mp h)
 item:=fun i s Q E hi st hd hQ=>by
  refine q9 st fun j hj hc F=>?_;have CR:s.TypeIs (.ref f) "filter":=⟨_,F.f,rfl⟩;exact aB (fO (cN (name:=Str.ofString "__next__") CR gc
   (w5 gc CR (uW hh hf hm ha hl hs _ j i s rfl hj hc F (fun v h' tk j' a1 a2 a3 a4 a5=>aF (hQ v h' tk a1 ⟨j',a2,a3,a4⟩ fun b o hb e=>a5 b o (fun q=>hb (q▸.head _)) e)) fun a1=>vN a1 (aY hi)) (nU _))))
 done:=fun s Q E st hQ=>by
  refine q9 st fun j hj hc F=>?_;have CR:s.TypeIs (.ref f) "filter":=⟨_,F.f,rfl⟩;exact aB (fO (cN (name:=Str.ofString "__next__") CR gc
   (w5 gc CR (uW hh hf hm ha hl hs _ j _ s rfl hj hc F (fun v h' tk j' a1 a2 a3 a4 a5=>vN (eR (bB _)) a1) fun a1 h' tk e a2 ⟨o,ho,hc⟩=>
    aB (eN (T:="StopIteration") (b:=true) ⟨o,ho,hc⟩ jH (aF (hQ _ tk fun c o hc e=>a2 c o (fun q=>hc (q▸.head _)) e)))) (nU _))))
 frame:=fun i h h' st k o=>by
  refine q9 st fun j hj hc F=>?_;exact⟨j,hj,hc,k _ _ (Ne.symm n1) F.f,k _ _ (Ne.symm n2) F.m,SetOf.keep F.s fun o e=>k _ o (Ne.symm n4) e,F.i.at fun o e=>k _ o (Ne.symm n3) e,F.l.at fun o e=>k _ o (Ne.symm n5) e⟩
 tN:=fun i v h h' p k=>p
noncomputable def qv(xs:Array Value)(j:Nat)(x:Str):Bool:=(xs.toList.take j).any (Value.isStrOf x)
theorem BQ(hit:s.heap.IsListIter it l i)(hl:s.heap.IsList l items)(hx:items[i]?=some x)
 (hQ:∀h',h'.IsListIter it l (i+1)→Heap.SameBut it s.heap h'→Q (some x) {s with heap:=h'}):aH (model prog w) A (pyNext (.ref it)) Q E s:=by
 exact aB (fO (m8 hit hl hx fun h' a b=>aF (hQ h' a b)))
theorem Dc(hh:A.handled=none)(hit:s.heap.IsListIter it l i)(hl:s.heap.IsList l items)(hx:items[i]?=none)
 (hQ:∀h',Heap.ExtBut it s.heap h'→Q none {s with heap:=h'}):aH (model prog w) A (pyNext (.ref it)) Q E s:=by
 refine aB (fO (nV hh hit hl hx fun h' e a ⟨o,ho,hc⟩=>?_));refine aB (eN (T:="StopIteration") (b:=true) ⟨o,ho,hc⟩ jH ?_);exact aF (hQ h' a)
theorem Jr{S it l:Addr}{xs:Array Value}(hh:A.handled=none)(hS:S≠it)(Xn:l≠S)(hl:l≠it)(hs:∀v∈xs.toList,∃x t,v=.str x t)(hb:xs.size+1<iL){R:Result→Shared→Prop}:
 ∀(k j n:Nat) (s:Shared),xs.size-j=k→j≤xs.size→n≤j→s.heap.IsListIter it l j→s.heap.IsList l xs→s.heap.SetOf (strKind prog w) S (qv xs j) n→
  (∀h' tk n',h'.SetOf (strKind prog w) S (qv xs xs.size) n'→(∀b o,b≠it→b≠S→s.heap.get? b=some o→h'.get? b=some o)→R (.ok (.ret .none)) {s with heap:=h',toks:=tk})→
  gS (model prog w) A (.builtin "set.update.loop" ⟨[.ref S,.ref it],[]⟩) R s:=by
 intro k
 induction k with
 |zero=>
  intro j n s hk hj hn hi hL SK h1;have Ic:j=xs.size:=Iv hk hj;subst Ic;refine dT PyProof.Rows.F.entry_set_update_loop ?_;rw[Around.under_plainId PyProof.Rows.F.plain_set_update_loop _];refine aB (m:=pyNext (.ref it)) (Dc hh hi hL (eK (bB _)) fun h' AB=>?_);exact aF (h1 h' s.toks n (SetOf.keep SK fun o e=>AB _ o hS e) fun b o hb _ e=>AB b o hb e)
 |succ k ih=>
  intro j n s hk hj hn hi hL SK h1;have Ic:j<xs.size:=C4 hk;have hx:=bC Ic;refine kK (hs xs[j] (by simp)) fun y t hv=>?_;rw[hv] at hx;have CT:(xs.toList.take (j+1))=xs.toList.take j++[.str y t]:=by
   rw[List.take_add_one];simp[hx]
  have Xo:∀x,qv xs (j+1) x=(qv xs j x||decide (x=y)):=fun x=>by
   unfold qv;rw[CT,List.any_append]
   congr 1
   simp only[List.any_cons,List.any_nil,Bool.or_false]
   by_cases e:x=y
   ·subst e;rfl
   ·simp only[e,decide_false]
    cases q:Value.isStrOf x (.str y t) with
    |false=>rfl
    |true=>refine eo (Value.isStrOf_shape q) fun u hu=>?_;injection hu with hu;exact absurd hu.symm e
  refine dT PyProof.Rows.F.entry_set_update_loop ?_;rw[Around.under_plainId PyProof.Rows.F.plain_set_update_loop _];refine aB (m:=pyNext (.ref it)) (BQ hi hL hx fun h' Oa nH=>?_);have VJ:h'.SetOf (strKind prog w) S (qv xs j) n:=SetOf.keep SK fun o e=>nH.extBut _ _ hS e;have MJ:(strKind prog w).is y (.str y t)=true:=by show Value.isStrOf y (.str y t)=true;simp[Value.isStrOf]
  refine aB (m:=holding [Value.str y t] (setAdd S (.str y t))) (aQ ?_);refine aQ ?_;refine aB ((strKind prog w).pyHash MJ ?_);refine wpAny_setAddHashed_of (knd:=strKind prog w) (s:={s with heap:=h',toks:=s.toks+1}) MJ rfl VJ (aA (aJ (aG hn hj) _) hb) fun jz Xp hS2=>?_;have hS3:jz.SetOf (strKind prog w) S (qv xs (j+1)) (if qv xs j y then n else n+1):=by
   rw[show qv xs (j+1)=fun k'=>(qv xs j k'||decide (k'=y)) from funext Xo];exact hS2
  refine aF ⟨fM PyProof.Rows.F.plain_set_update_loop _,ih (j+1) _ _ (vM hk) Ic (by split;exact Nat.le_succ_of_le hn;exact iG hn) (Oa.at fun o e=>(Xp.2 _ (Ne.symm hS)).trans e) ((hL.extBut nH.extBut hl).at fun o e=>(Xp.2 _ Xn).trans e) hS3 fun CL tk n' a1 a2=>?_⟩;exact h1 CL tk n' a1 fun b o hb uK e=>a2 b o hb uK ((Xp.2 b uK).trans (nH.extBut _ _ hb e))
theorem Js {S l:Addr} {xs:Array Value} {led:Bool} {Q:Fin→Shared→Prop} (hh:A.handled=none) (hS:s.heap.get? S=some {cls:=.type "set",dict:=none,data:=.set #[] 0 (.fresh 0 0 led)}) (hl:s.heap.IsList l xs) (Xn:l≠S) (hs:∀v∈xs.toList,∃x t,v=.str x t) (hb:xs.size+1<iL)
 (h:∀(h':Heap) (tk n:Nat),h'.SetOf (strKind prog w) S (qv xs xs.size) n→(∀b o,b≠S→s.heap.get? b=some o→h'.get? b=some o)→Q (.done (.ret .none)) {s with heap:=h',toks:=tk}):
 aH (model prog w) A (Builtin.«set.__init__» ⟨[.ref S,.ref l],[]⟩) Q E s:=by
 obtain⟨ol,QJ,SM,nl,QK⟩:=id hl;obtain⟨aBG,ZJ,ZK,Xq⟩:=ol;simp only at SM QK;subst SM;subst QK;have aBH:=F.sub_list_set;have aBI:=F.sub_list_frozenset;have iv:(Value.type "list"==Value.type "dict")=false:=by decide
 delta Builtin.«set.__init__» noKeywords Builtin.Frozenset.updateFrom;generalize hPI:pyIter=PI
 wp_walk
 subst hPI;refine hY hl ?_;refine aB (wpAny_runValue ?_);refine Jr (s:={s with heap:=s.heap.push {cls:=.type "list_iterator",data:=.fields #[.ref l,.int 0 0]}}) (it:=s.heap.objs.size) hh ?_ Xn ?_ hs hb xs.size 0 0 (dC (bB _) (bB _)) (cS _) (bB _) ⟨_,Heap.get?_push_size _ rfl,rfl,rfl⟩ (hl.push _) ?_ ?_
 ·exact bU (Heap.lt_size hS)
 ·exact bU (Heap.lt_size QJ)
 ·exact⟨_,#[],0,_,Heap.get?_push_of_some _ hS,⟨rfl,rfl,rfl⟩,rfl,fun e he=>by simp at he,fun k=>by simp[qv],by decide,by rfl,rfl⟩
 ·intro h' tk n' a1 a2
  exact aF (aF (h h' tk n' a1 fun b o hb e=>a2 b o (bU (Heap.lt_size e)) hb (Heap.get?_push_of_some _ e)))
set_option maxHeartbeats 3200000 in
theorem xd{l:Addr}{xs:Array Value}{Q:Value→Shared→Prop}(hh:A.handled=none)(hl:s.heap.IsList l xs)(hs:∀v∈xs.toList,∃x t,v=.str x t)(hb:xs.size+1<iL)
 (h:∀(h':Heap) (tk n:Nat),h'.SetOf (strKind prog w) s.heap.objs.size (qv xs xs.size) n→(∀b o,b<s.heap.objs.size→s.heap.get? b=some o→h'.get? b=some o)→Q (.ref s.heap.objs.size) {s with heap:=h',toks:=tk}):
 aH (model prog w) A (call (.type "set") [.ref l]) Q E s:=by
 refine kK F.called_set.mro fun c tl aBK=>?_;have ZL:=F.called_set.made;have Ia:=F.called_set.sub;refine hU (codeAny_of_tree ?_);refine aF ⟨Code.quiet_builtin _ (by decide +kernel),dT F.entry_type_call ?_⟩;rw[Around.under_plain (weight_type_call_type "set" [.ref l] []) rfl];have h1:=F.called_set.notType;have h2:=F.called_set.canCreate;have hct:=F.typeCall_set_1 (.ref l)
 repeat (any_goals (first|assumption|wp_step))
 refine codeAny_mono (code_set_new_1 (.ref l) (E:=E) (Q₁:=fun obj a9=>∃led:Bool,obj=.ref s.heap.objs.size∧a9={s with heap:=s.heap.push {cls:=.type "set",dict:=none,data:=.set #[] 0 (.fresh 0 0 led)}}) fun led=>⟨led,rfl,rfl⟩) fun r a9 hr=>?_;rcases r with e|fl
 ·exact hr
 cases fl with
 |ret obj=>
  obtain⟨led,rfl,rfl⟩:=hr;have hS:(s.heap.push {cls:=.type "set",dict:=none,data:=.set #[] 0 (.fresh 0 0 led)}).get? s.heap.objs.size=some {cls:=.type "set",dict:=none,data:=.set #[] 0 (.fresh 0 0 led)}:=Heap.get?_push_size _ rfl;have hT:Shared.TypeIs {s with heap:=s.heap.push {cls:=.type "set",dict:=none,data:=.set #[] 0 (.fresh 0 0 led)}} (.ref s.heap.objs.size) "set":=⟨_,hS,rfl⟩;have ZH:=F.called_set.init.lookup;have hbi:=F.called_set.init.bind (.ref s.heap.objs.size)
  repeat (any_goals (first|assumption|wp_step))
  refine codeAny_mono (fU (R:=wants (fun r cw=>r=.none∧∃h' tk n,cw={s with heap:=h',toks:=tk}∧h'.SetOf (strKind prog w) s.heap.objs.size (qv xs xs.size) n∧
   (∀b o,b<s.heap.objs.size→s.heap.get? b=some o→h'.get? b=some o)) E) F.called_set.init.plain F.entry_set_init (check_set_init_1 hT ?_)) fun Xr cw CU=>?_
  ·obtain⟨ol,QJ,SM,nl,QK⟩:=id hl
   exact Js (A:=A.in1.in1) hh hS ⟨_,Heap.get?_push_of_some _ QJ,SM,nl,QK⟩ (bU (Heap.lt_size QJ)) hs hb fun h' tk n' a1 a2=>⟨rfl,h',tk,n',rfl,a1,fun b o hb e=>a2 b o (bU hb) (Heap.get?_push_of_some _ e)⟩
  ·rcases Xr with e|VK
   ·exact CU
   cases VK with
   |ret r=>
    obtain⟨rfl,h',tk,n,rfl,hS',AB⟩:=CU
    repeat (any_goals (first|assumption|wp_step))
    exact h _ _ _ hS' AB
   |_=>exact CU.elim
 |_=>exact hr.elim
end Mine.Internal
namespace Mine.Internal
open PySem PyProof.Rows
variable{prog:Program}{w:World}{c:Ac}{k:Option Cc}{fz ae:Fz}{s s':Shared}{σ σ':St}{γ jg:Nat→Option GS}
theorem strs_cons{C:Bc}(r:a8 C.EC fz (d::ds) vs)(h:strsOf (d::ds)=some ys):∃x t u E8,vs=.str ⟨x.toArray⟩ t::u∧d=.str x∧ys=x::E8∧a8 C.EC fz ds u∧strsOf ds=some E8:=by
 refine sz r fun v u bq f g=>?_;subst bq;refine aq (g5 h) fun x ay h1=>?_;subst ay;refine aq (aR.mp h1) fun E8 hs bq=>?_;subst bq;refine eo (bu f) fun t ay=>?_;subst ay;exact⟨x,t,u,E8,rfl,rfl,rfl,g,hs⟩
theorem w6{C:Bc}{S:Str→Bool}{p:List Nat→Bool}(hp:∀y,S ⟨y.toArray⟩=p y):∀{ds:List D} {vs:List Value} {ys:List (List Nat)},a8 C.EC fz ds vs→strsOf ds=some ys→a8 C.EC fz ((ys.filter p).map .str) (vs.filter (oU S))
 |[],_,_,r,h=>by cases r;cases h;exact rfl
 |d::ds,_,ys,r,h=>by
  obtain⟨x,t,u,E8,rfl,rfl,rfl,g,hs⟩:=strs_cons r h;have ih:=w6 hp g hs;have e1:oU S (.str ⟨x.toArray⟩ t)=p x:=hp x;rw[List.filter_cons,List.filter_cons,e1];cases hx:p x with
  |true=>exact⟨_,_,rfl,⟨t,rfl⟩,ih⟩
  |false=>exact ih
theorem Dd{x y:List Nat}:Value.isStrOf ⟨y.toArray⟩ (.str ⟨x.toArray⟩ t)=(y==x):=by
 by_cases e:y=x
 ·subst e;simp[Value.isStrOf]
 ·rw[beq_eq_false_iff_ne.mpr e]
  cases q:Value.isStrOf ⟨y.toArray⟩ (.str ⟨x.toArray⟩ t) with
  |false=>rfl
  |true=>
   obtain⟨u,hu⟩:=Value.isStrOf_shape q
   injection hu with hu
   exact absurd (by have:=congrArg (fun z:Str=>z.cps.toList) hu;simpa using this.symm) e
theorem BS{C:Bc}:∀{ds:List D} {vs:List Value} {xs:List (List Nat)},a8 C.EC fz ds vs→strsOf ds=some xs→∀y:List Nat,vs.any (Value.isStrOf ⟨y.toArray⟩)=xs.contains y
 |[],_,_,r,h,y=>by cases r;cases h;rfl
 |d::ds,_,ys,r,h,y=>by
  obtain⟨x,t,u,E8,rfl,rfl,rfl,g,hs⟩:=strs_cons r h;rw[List.any_cons,List.contains_cons,BS g hs y,Dd]
theorem Q9{C:Bc}{A:Around}(hh:A.handled=none)(H:HI C fz s.heap){m a:Addr}{S:Str→Bool}{n:Nat}{v:Value}{y:List D}{ys:List (List Nat)}{p:List Nat→Bool}(hm:s.heap.get? m=some (nC a))(hS:s.heap.SetOf (strKind prog w) a S n)
 (rb:Rep C.EC fz (.list y) v) (hy:strsOf y=some ys) (gw:ys.length≤1024) (hp:∀y,S ⟨y.toArray⟩=p y) {Q E:Value→Shared→Prop}
 (hQ:∀v s' ae,bp C fz s ae s'→Rep C.EC ae (.list ((ys.filter p).map .str)) v→Q v s'):aH (model prog w) A (call (.type "filter") [.ref m,v]) (fun z a9=>aH (model prog w) A (call (.type "list") [z]) Q E a9) E s:=by
 obtain⟨l,us,n1,rfl,f1,r1⟩:=rb;have qr:=r1.length;have Jt:=oF hy;have il:=en H f1;have Vk:l<s.heap.objs.size:=il.elim fun o e=>Heap.lt_size e.1;have ZM:m<s.heap.objs.size:=Heap.lt_size hm;have Sl:a<s.heap.objs.size:=hS.elim fun o h=>h.elim fun _ h=>h.elim fun _ h=>h.elim fun _ h=>Heap.lt_size h.1;refine BP il fun h' hf hi CS hk=>?_;have qK:∀b,b<s.heap.objs.size+2→h'.objs.size≠b:=fun b hb=>CS▸iY hb;have up:∀{b},b<s.heap.objs.size→b<s.heap.objs.size+2:=fun h=>aT h (aP _ 2);have W:=D9 (prog:=prog) (w:=w) (A:=A.in1.in1) (f:=s.heap.objs.size+1) (m:=m) (it:=s.heap.objs.size) (a:=a) (l:=l) (D':=h'.objs.size) hh
  (Nat.succ_ne_self _) (bU ZM) (bU Sl) (bU Vk) (qK _ (fY _)) (qK m (up ZM)) (qK _ (jW (fY _))) (qK a (up Sl)) (qK l (up Vk)) S n us (sF r1 hy)
 have st:Jq prog w (s.heap.objs.size+1) m s.heap.objs.size a l S n us 0 h':=⟨0,cS _,rfl,hf,hk _ _ hm,SetOf.keep hS fun o e=>hk _ o e,hi,il.at fun o e=>hk _ o e⟩;refine FC (s:={s with heap:=h'}) BD (aG (bS ..) (by rw[qr,←Jt];exact gw)) W ⟨_,hf,rfl⟩ (fun s Q E st hq=>?_) st fun jz tk vs VI hl QI Xh=>?_
 ·refine q9 st fun j _ _ F=>?_
  have hT:s.TypeIs (.ref (_:Addr)) "filter":=⟨_,F.f,rfl⟩;refine wpAny_pyIter_slot hT nR (cH nR hT sD ?_ (tZ _));exact aF ⟨_,rfl,"filter",_,hT,gc.lookup,hq⟩
 ·have keep:∀b o,s.heap.get? b=some o→jz.get? b=some o:=fun b o e=>Xh b o (fun h=>bU (Heap.lt_size e) (aK.mp h)) (hk b o e)
  have Ol:s.heap.get? h'.objs.size=none:=dj (CS▸aP _ 2);have evs:vs.toList=us.toList.filter (oU S):=by
   apply List.ext_getElem?;intro i
   by_cases hi:i<vs.size
   ·have:=QI i vs[i] (bC hi)
    rw[this];simp[hi]
   ·have hi:=dJ hi
    rw[eR (aS▸hi),eR (VI▸hi)]
  refine kK hl fun m' sl eD=>?_;exact hQ _ _ _ ((bp.keeps H keep).put (f:=.listOf vs m') Ol eD (H.fh Ol) (by simp[FO.listOf]) (H.mq Ol)) ⟨_,vs,m',rfl,Fz.dv _ _ _,evs▸a8.mono (Fz.i0 _ (H.fh Ol)) _ _ (w6 hp r1 hy)⟩
theorem zR(h:aH (model prog w) A (eval (.Call (.Name x p) [e] [] cp) env) (fun o a9=>aH (model prog w) A (getAttr o attr true) Q E a9) E s):
 aH (model prog w) A (eval (.Attribute (.Call (.Name x p) [e] [] cp) attr pos) env) Q E s:=by
 rw[arm_eval_Attribute,Et rfl];exact aB (dS h (fun o a9 h₁=>aB (cA (aB (aQ (dS h₁ (fun r cw jz=>aB (wpAny_letTemporaryGo (aF jz))) fun _ _ y=>y))))) fun _ _ y=>y)
theorem Hc(h:yB x y=some q):∃a b xs ys,x=.list a∧y=.list b∧strsOf a=some xs∧strsOf b=some ys∧(xs.length≤1024∧ys.length≤1024)∧iu (.list ((ys.filter fun y=>xs.contains y).map .str))=some q:=by
 refine aq (iy h) fun a ha h1=>?_;refine aq (iy h1) fun b hb h2=>?_;refine aq (fw h2) fun xs hx h3=>?_;refine aq (fw h3) fun ys hy h4=>?_;refine ka (kQ h4) fun hz h5=>?_;exact⟨a,b,xs,ys,ha,hb,hx,hy,hz,h5⟩
theorem De (O:c.Ok) (KO:dc c k) (hA:c.A.handled=none) (hx:globK c k "list") (hg:c.C.mg "list"=none) (hb:c.C.mb "list"=some (.type "list"))
 (AF:globK c k "filter") (Ib:c.C.mg "filter"=none) (uK:c.C.mb "filter"=some (.type "filter")) (Xt:globK c k "set") (Xu:c.C.mg "set"=none) (Xv:c.C.mb "set"=some (.type "set")) (na:noStar a=true) (nb:noStar b=true)
 (h1:aj prog w c k a ea) (h2:SV prog w c k b eb):
 aj prog w c k (.Call (.Name "list" p1) [.Call (.Name "filter" p2) [.Attribute (.Call (.Name "set" p5) [a] [] p6) "__contains__" p7,b] [] p3] [] p4) (fun σ=>(ea σ).bind fun x σ=>(au (eb σ)).bind fun y σ=>.of (yB x y) σ):=fun fz s σ q σ' I h Q E P=>by
 refine jl O KO hx hg hb (by decide) rfl fz s σ I Q E (qt O KO AF Ib uK (by decide) rfl nb fz s σ I _ _ (zR (jl O KO Xt Xu Xv (by decide) na fz s σ I _ _ (h1.bind I h P fun x va ai a9 av b8 az ra h4 fg=>?_))));refine iw (bh h4) fun y de h5 h6=>?_;obtain⟨h7,rfl⟩:=Mo.ig h6;obtain⟨zs,b',xs,ys,rfl,rfl,Xw,e4,hlen,h8⟩:=Hc h7;obtain⟨l,us,n1,rfl,f1,r1⟩:=ra;have qr:=r1.length;rw[aS,←oF Xw] at qr;refine xd hA (en az.hi f1) (sF r1 Xw) (by unfold iL;omega) fun h' tk n hS hk=>?_;have QL:∀b o,a9.heap.get? b=some o→h'.get? b=some o:=fun b o e=>hk b o (Heap.lt_size e) e;obtain⟨o,es,ep,tb,ho,hex,hd,hr⟩:=id hS;refine xc ho hex.1 hex.2.1 hd ?_;refine eo az.x fun lU di=>?_;have gx:=di.grow O KO (bp.keeps (h':=h'.push (nC a9.heap.objs.size)) (t:=tk+1) az.hi fun b o e=>Heap.get?_push_of_some _ (QL b o e));have Ol:a9.heap.get? h'.objs.size=none:=by
  cases e:a9.heap.get? h'.objs.size with
  |none=>rfl
  |some o=>exact absurd (Heap.lt_size (QL _ _ e)) (jP _)
 have ZN:(h'.push (nC a9.heap.objs.size)).get? h'.objs.size=some (nC a9.heap.objs.size):=Heap.get?_push_size _ rfl;refine h2.keep O KO gx (pz (di.gb O (ej _)) (di.gb O Ol)) (pz ⟨o,Heap.get?_push_of_some _ ho⟩ ⟨_,ZN⟩) h5 fun vb l4 sf Ge lR jq rb Kt=>?_;exact Q9 hA jq.inv.hi (Kt.get _ (.tail _ (.head _)) _ ZN) (SetOf.keep (SetOf.keep hS fun o e=>Heap.get?_push_of_some _ e) fun o e=>Kt.get _ (.head _) o e) rb e4 hlen.2 (p:=fun y=>xs.contains y) (fun y=>by
  unfold qv;rw[cK (bO aS)];exact BS r1 Xw y) fun v s' ae G' R=>by cases h8;exact fg.ok _ rfl v s' ae (Fz.le_trans lR G'.le) (jq.grow O KO G').inv R
end Mine.Internal
namespace Mine.Internal
open PySem PyProof.Rows
noncomputable def FI:List Value:=[.type "ValueError",.type "Exception",.type "BaseException",.type "object"]
inductive FJ(T N:Addr):Obj→Prop
 |mk (nm q:Str) (bs:List Value) (Xx:Bool) (sn:List Str) (sub:List Value) (ab:Bool) (col:Option Bool) (dd:Option Addr) (k0 k1 k2 k3 k5:Option Value):FJ T N (excClassObj nm q T N bs FI Xx sn sub ab col dd k0 k1 k2 k3 k5 "ValueError.__new__")
inductive oL(h:Heap)(T:Addr):Prop
 |mk (N:Addr) (mN:Str→Option Value) (o:Obj) (eC:h.get? T=some o) (b:FJ T N o) (n:h.Ns N mN) (i:mN "__init__"=none) (s:mN "__str__"=none)
structure TF(C:Bc):Prop where
 obj:∃N mN o,C.B.get? C.TC=some o∧FJ C.TC N o∧C.B.Ns N mN∧mN "__init__"=none∧mN "__str__"=none∧N≠C.P
 ne:C.TC≠C.P
variable{prog:Program}{w:World}{C:Bc}{fz:Fz}
theorem TF.at(T:TF C)(H:HI C fz h):oL h C.TC:=by
 obtain⟨N,mN,o,e,b,n,i,s,ne⟩:=T.obj;exact⟨N,mN,o,H.base _ _ e T.ne,b,H.ns n ne,i,s⟩
section
variable{A:Around}{E:Value→Shared→Prop}{s:Shared}
theorem Hd(X:oL s.heap T)(hq:∀h' e,Heap.MadeExcOf s.heap h' e (.ref T) [v]→Q (.ref e) {s with heap:=h'}):aH (model prog w) A (call (.ref T) [v]) Q E s:=by
 obtain⟨N,mN,_,e,⟨⟩,n,i,_⟩:=X;exact wpAny_call_exc_sub F.excBase_ValueError e n i hq
theorem BU:gO (.type "ValueError") "__str__"=pure (some (.builtin "BaseException.__str__")):=by rw[bJ,aW];kernel_rfl
theorem uX:dX "BaseException" "__str__" "BaseException.__str__":=
 .of (owner:="BaseException") (n:="__str__") (by rw[bJ,aW];kernel_rfl) (by decide +kernel) (by decide +kernel) (by decide +kernel)
  (by first|exact .inl (by decide +kernel)|exact .inr (by decide +kernel)) (by rw[bK];kernel_rfl)
theorem BV:builtinKind "BaseException.__str__"=some .slot:=by kernel_rfl
theorem zS:splitId "BaseException.__str__"=some ("BaseException","__str__"):=by kernel_rfl
inductive kW(h:Heap)(T e:Addr)(m:Str)(tk:Tok):Prop
 |mk (o:Obj) (vs:Array Value) (t0:Addr) (n:Nat) (sl:Array (Option Value)) (ho:h.get? e=some o) (hc:o.cls=.ref T) (hd:o.data=.fields vs) (h0:vs[0]?=some (.ref t0)) (ht:h.get? t0=some ⟨.type "tuple",none,.seq #[.str m tk] n,sl⟩)
theorem Dg(x:kW s.heap T e m tk)(hq:Q (.done (.ret (.str m tk))) s):
 aH (model prog w) A (Builtin.«BaseException.__str__» ⟨[.ref e],[]⟩) Q E s:=by
 obtain⟨o,vs,t0,n,sl,ho,hc,hd,h0,ht⟩:=x;have ba:∀{Q:Value×List Value→Shared→Prop},Q (.ref t0,[.str m tk]) s→aH (model prog w) A (Builtin.BaseException.bexcArgs (.ref e)) Q E s:=fun hq=>by
  exact aB (cE ho hd h0 (aB (fA ht rfl (aF hq))))
 repeat (first|with_reducible refine ba ?_|wp_step)
 exact hq
theorem Dh:Manifest.signature? "BaseException.__str__"=some ⟨.exact,"wrapper __str__","",.self,[]⟩:=by kernel_rfl
theorem Di{o:Obj}(X:oL s.heap T)(ho:s.heap.get? e=some o)(hc:o.cls=.ref T)(hq:Q () s):
 aH M A (iI "BaseException.__str__" ⟨[.ref e],[]⟩) Q E s:=by
 obtain⟨N,mN,_,eC,⟨⟩,_⟩:=X;have hcB:(Value.ref T::FI).contains (.type "BaseException")=true:=by rw[List.contains_cons];exact kJ _
 simp only[iI,BV,zS,Dh]
 repeat (first|(with_reducible refine wpAny_loadPart_at ho ?_;rw[hc])|with_reducible refine wpAny_loadPart_at eC ?_|(with_reducible refine wpAny_isSubtype_exc eC ?_;rw[hcB])|wp_step)
 exact hq
theorem He(X:oL s.heap T)(x:kW s.heap T e m tk)(hq:Q (.str m tk) s):
 aH (model prog w) A (call (.builtin "BaseException.__str__") [.ref e]) Q E s:=
 hU (fU uX.plain F.entry_bexc_str (x.casesOn fun _ _ _ _ _ ho hc _ _ _=>Di X ho hc (Dg x hq)))
theorem BW(v:Value):bindSpecial (.builtin "BaseException.__str__") v=pure (.builtin "BaseException.__str__",[v]):=uX.bind v
theorem Dj(hu:A.units<cLine)(X:oL s.heap T)(x:kW s.heap T e m tk)(hq:Q (.str m tk) s):
 aH (model prog w) A (Builtin.Str.strOf (.ref e)) Q E s:=by
 obtain⟨o,vs,t0,n,sl,ho,hc,hd,h0,ht⟩:=id x;obtain⟨N,mN,_,eC,⟨⟩,hN,_,Xy⟩:=id X;have e0:Builtin.Str.isExactStr (.ref e)=false:=rfl;refine bE (decide_eq_false (by rw[e0];exact bF)) ?_;refine aB (wpAny_cRoomFor hu ?_);refine aB (aB (aB (aB (jG ho ?_))));rw[hc];refine aF ?_;refine wpAny_typeLookup_exc eC hN F.excBase_ValueError.mroIs BU ?_;rw[Xy];refine aQ (aB (gC (BW _) ?_));refine aB (He X x ?_);refine aF ?_
 repeat (first|wp_step)
 exact hq
theorem uY(hu:A.units+2<cLine)(X:oL s.heap T)(x:kW s.heap T e m tk)(hq:Q (.str m tk) s):
 aH (model prog w) A (call (.type "str") [.ref e]) Q E s:=
 callType_new F.called_str (by decide) (F.typeCall_str_1 _) (F.newCall_str_1 _) (fun obj=>F.args_object_init_2 obj _) F.entry_str_new
  (meets_str_new (S:=fun A' R s'=>A'.units+1<cLine∧oL s'.heap T∧kW s'.heap T e m tk∧R (.ok (.ret (.str m tk))) s')
   fun _ _ A' _ _ hq=>Dj (A:=A'.in1) hq.1 hq.2.1 hq.2.2.1 hq.2.2.2)
  ⟨(show A.units+1+1<cLine from hu),X,x,cX _ _ _,hq⟩
end
end Mine.Internal
namespace Mine.Internal
open PySem PyProof.Rows
variable{prog:Program}{w:World}{c:Ac}{k:Option Cc}{fz ae:Fz}{s s':Shared}{σ σ':St}{γ jg:Nat→Option GS}
theorem jj.TP(O:c.Ok)(d9:∀y v,¬c.snap y v)(G:jj c fz s γ)(hn:c.env.scope.names[i]?=some (x,.local))(n:s.heap.Ns c.L I7){h':Heap}(n':h'.Ns c.L (fun y=>if y=x then ov else I7 y))(hs:Heap.SameBut c.L s.heap h'):
 jj c fz {s with heap:=h',toks:=tk} (wo γ i):=by
 refine aq (lz n) fun o ho Rk=>?_;refine⟨fun y v h=>absurd h (d9 y v),G.kp.sameBut hs O.u9,G.hi.sameBut hs G.AL (O.qa O.u9) ho Rk (Ne.symm (O.mq O.u9)),G.le,G.new,G.gens,G.os,⟨_,n'⟩,fun y a hy=>let ⟨u,hc⟩:=G.cell y a hy;⟨u,hc.sameBut hs (rX hc n)⟩,G.AL,G.A4,fun j g' h=>G.AM j g' (kV h).2,fun j y k' g' h1 h2=>?_,fun j g' hj=>G.g9 j g' (kV hj).2,fun j g' hj=>G.nodup j g' (kV hj).2,fun j j' g1 g2 iv h1 h2=>G.apart j j' g1 g2 iv (kV h1).2 (kV h2).2⟩;refine ka (kV h2) fun q h2=>?_;refine aq (G.vars j y k' g' h1 h2) fun u hu ru=>?_;refine⟨u,?_,ru.keep (Fz.le_refl _) fun a ha o e=>(hs.2 a (G.g9 j g' h2 a ha).L).trans e⟩;have hy:y≠x:=fun e=>q (tH O.pj h1 (e▸hn));rcases hu with ⟨e,m',Iq,r'⟩|⟨e,a,Iq,r'⟩
 ·exact .inl ⟨e,_,n',(if_neg hy).trans ((uw n Iq y).trans r')⟩
 ·exact .inr ⟨e,a,Iq,r'.sameBut hs (rX r' n)⟩
theorem yQ(O:c.Ok)(d9:∀y v,¬c.snap y v)(G:jj c fz s γ)(hn:c.env.scope.names[i]?=some (x,.local))
 (h:∀s',jj c fz s' (wo γ i)→fo c s'.heap x v→(∀b o,b≠c.L→s.heap.get? b=some o→s'.heap.get? b=some o)→Q () s'):aH M A (gK c.env x v) Q E s:=by
 have hl:=cm O.pj hn;obtain⟨I7,n⟩:=G.ns;refine iM hl n (fun h' n' hs=>?_) (by rw[O.kind];rfl);exact h _ (G.TP O d9 hn n n' hs) (.inl ⟨hl,_,n',by simp⟩) fun b o hb e=>(hs.2 b hb).trans e
theorem Ju{C:Bc}{A:Around}{outer:List Env}{pn:List Str}{kn:List Str}{vs:List Value}{ds:List D}(K:C.Ok)(Df:oS fd body pn m kn)(DA:m6 C s.heap a fd)
 (rm:u6 (n+1) A) (AO:A.frames=some outer) (Ec:C.FR=outer.filterMap (·.frame)) (vi:Frs C s.heap outer) (H:HI C fz s.heap) (hB:C.rJ.le fz) (hg:s.gens=#[]) (rs:a8 C.EC fz ds vs) (hlen:ds.length=pn.length)
 (hb:(oZ C A outer fz s fd a n).Ok→∀a9,aw (oZ C A outer fz s fd a n) none fz a9 (H0 vars ds) (l7 ds)→(∀s' ae σ',bt (oZ C A outer fz s fd a n) none ae s' σ'→bp C fz s ae s')→
  aH (model prog w) (oZ C A outer fz s fd a n).A (execs body (oZ C A outer fz s fd a n).env) (fun fl s'=>∃v,fl=.ret v∧Q v s') (fun _ _=>False) a9):aH (model prog w) A (call (.ref a) (vs.take m) (kn.zip (vs.drop m))) Q E s:=by
 exact wL K Df DA rm AO Ec vi H hB hg rs hlen vars fun O a9 di=>dS (hb O a9 di fun s' ae σ' I=>qC hg I) (fun fl s' h=>by obtain⟨v,rfl,h⟩:=h;exact h) fun _ _ h=>h.elim
structure SO(C:Bc):Prop where
 hd:W.CodeHd C.B C.c₀ C.P
 bm:C.B.BuiltinsAt C.mg C.P
 ob:∃o,C.B.get? C.c₀=some o
 cP:C.c₀≠C.P
theorem SO.TQ{C:Bc}(S:SO C)(H:HI C fz h):W.CodeHd h C.c₀ C.P:=by
 obtain⟨o,e⟩:=S.ob;have e1:C.B.get? C.c₀=h.get? C.c₀:=e.trans (H.base _ _ e S.cP).symm;have x:=S.hd;unfold W.CodeHd at x ⊢;rw[e1] at x;exact x
theorem SO.TR{C:Bc}(S:SO C){h:Heap}(H:HI C fz h):h.BuiltinsAt C.mg C.P:=by
 obtain⟨bm,o,e1,e2,e3,e4,e5,r⟩:=S.bm;exact⟨bm,o,e1,e2,e3,e4,H.base _ _ e5 e4,r⟩
theorem Hf{C:Bc}(H:HI C fz s.heap){h':Heap}(hx:∀b o,b≠C.P→s.heap.get? b=some o→h'.get? b=some o)(pl:rK C (h'.push o')):bp C fz s fz {s with heap:=h'.push o',toks:=tk}:=
 have keep:∀b o,b≠C.P→s.heap.get? b=some o→(h'.push o').get? b=some o:=fun b o hb e=>Heap.get?_push_of_some _ (hx b o hb e)
 ⟨fun b o e hb=>⟨o.slots,keep b o hb e,.inr rfl⟩,Fz.le_refl _,fun _ h=>.inl h,⟨fun b o x y=>keep b o y (H.base b o x y),fun b f x=>(H.fi b f x).imp fun sl g=>keep b _ (fun q=>vN H.M8 (q▸x)) g,H.M8,pl⟩,rfl,rfl⟩
theorem Hg{C:Bc}(K:C.Ok)(S:SO C)(H:HI C fz s.heap){env:Env}{pos:Pos}
 (SM:closureFor scope env=pure []) (Ol:env.globals=eH) (Gh:env.code=.ref C.c₀) (hq:qual=C.inner) (hl:C.line=(pos.line:Int)) (hc:C.col=(pos.col:Int))
 (h:∀f doc pm cd Ie s',bp C fz s fz s'→s.heap.get? f=none→s'.heap.get? f=some {cls:=.type "function",data:=.func (W.fnX name qual params body scope [] .none .none doc pm none cd Ie)}→s'.heap.CodeRec cd qual→Q (.ref f) s'):
 aH M A (makeFunction name qual params (.stmts body) scope env [] [] [] pos firstLine) Q E s:=by
 refine aq H.place.tab fun ps e r=>?_;rcases r with rfl|⟨cc,rfl,SN,hnB⟩
 ·refine W.makeFunction_K (mg:=C.mg) SM Ol (H.g K) Gh (S.TQ H) e (by trivial) rfl K.gP (S.TR H) fun c' Ie doc h' tk hx VL qK Xz htb=>?_
  have ZO:s.heap.get? c'=none:=dj VL;have QM:=Xz.keeps fun _ _ e=>Heap.get?_push_of_some (W.fnMade name qual params body scope [] doc ((C.mg "__name__").getD .none) c' Ie) e;exact h _ doc _ (.ref c') Ie _ (Hf H hx ⟨_,Heap.get?_push_of_some _ htb,.inr ⟨c',by rw[hl,hc];rfl,hq▸QM,H.qa ZO (H.mq ZO)⟩⟩) (dj (aG VL (aZ qK))) (Heap.get?_push_size _ rfl) QM
 ·refine W.makeFunction_hit (mg:=C.mg) (cv:=.ref cc) SM Ol (H.g K) Gh (S.TQ H) e (by trivial) (by rw[hl,hc];simp[codeAmong,rawInt]) (S.TR H) fun Ie doc h' tk hk gw=>?_
  have keep:=fun b o e=>Heap.get?_push_of_some {cls:=.type "function",data:=.func (W.fnX name qual params body scope [] .none .none doc ((C.mg "__name__").getD .none) none (.ref cc) Ie)} (hk b o e);exact h _ doc _ (.ref cc) Ie _ (bp.keeps H keep) (dj gw) (Heap.get?_push_size _ rfl) ((show s.heap.CodeRec (.ref cc) qual by rw[hq];exact SN).keeps keep)
theorem Dk{C:Bc}{h h':Heap}(H:HI C fz h)(kp:Kp C.P FR h h')(x:h.CodeRec v q):h'.CodeRec v q:=by
 obtain⟨c',oc,vs,t,e1,e2,e3,e4⟩:=x;refine(kp c' oc e2 fun e=>?_).elim fun sl e'=>⟨c',_,vs,t,e1,e'.1,e3,e4⟩;refine aq H.place.tab fun ps e5 r=>?_;cases aL (e2.symm.trans (e▸e5));cases e3;rcases r with r|⟨cc,r,_⟩
 ·rw[r] at e4;cases e4
 ·rw[r] at e4;cases e4
theorem tj(O:c.Ok)(hA:c.A.handled=none){es:List Expr}{o:Obj}{fd:FuncData}{pn:List Str}
 (hd:(x==("__debug__":Str))=false) (hv:c.snap x (.ref f)) (ho:c.h₀.get? f=some o) (hf:o.data=.func fd) (SN:c.h₀.CodeRec fd.code fd.qualname) (Df:oS fd body pn es.length []) (hlen:es.length=pn.length)
 (hb:∀c':Ac,c'.C={c.C with FR:=c'.C.FR}→c'.A.handled=none→c'.n=n→c'.env.scope=fd.scope→c'.env.cells=[]→c'.Ok→(∀y v,¬c'.snap y v)→i6 prog w c' body (cx G nf be)) (MK:∀k,iN k fd.scope.names []=[]) (hn:n+1≤c.n)
 (h1:eg prog w c none es e1) (hs:es.all noStar=true) (iv:es≠[]) (hP:f≠c.C.P):
 aj prog w c none (.Call (.Name x p) es [] pos) (fun σ=>(fe e1 σ).bind fun xs σ=>.of (ll G nf vars be xs) σ):=fun fz s σ r σ' I h Q E P=>by
 have Ec:f∉c.C.FR:=fun hm=>by
  rcases yr O hm with e|⟨o',fu,n',e1,e2⟩
  ·exact vN O.u9 (e▸ho)
  ·rw[aL (e1.symm.trans ho),hf] at e2;cases e2
 obtain⟨γ,X⟩:=I.x;refine dG (dR (nM O (X.g.snap x _ hv) ?_) hd);refine iT (o:=o) (fd:=fd) ((kT (ks:=[]) (e2:=[]) (kn:=[]) h1 trivial hs iv rfl).bind I (by rw[bN];exact h) P fun ds as ai a9 av b8 az rs h4 fg=>?_);obtain⟨vs,rs,XW,rfl⟩:=rs;obtain⟨γ,di⟩:=az.x;have uq:=di.g.kp.get ho hP Ec;exact⟨⟨uq,hf⟩,oQ O (k:=none) trivial az h4 fg fun h5=>Az (vars:=vars) (n:=n) (be:=cx G nf be) O.K Df ⟨⟨o,uq,hf⟩,Dk O.base di.g.kp SN⟩ (O.room.le hn) O.fr O.FR (di.g.vi O) di.g.hi (Fz.le_trans O.rJ di.g.le) di.g.gens rs (rs.length.symm.trans (XW.trans hlen)) (fun Oc=>hb _ rfl hA rfl rfl (MK _) Oc fun _ _ h=>h) h5⟩
theorem xe(he:noStar e=true)
 (h:aH (model prog w) A (eval e env) (fun v a9=>oL a9.heap T∧aH (model prog w) A (call (.ref T) [v]) Q E a9) E s):
 aH (model prog w) A (callWith pos (.ref T) [] (backTo pos (starEach [e] env)) []) Q E s:=by
 rw[bf he];unfold callWith;refine aB (aQ ?_);refine Calls.evalArgs_plain (Calls.spliced_cons (dS h (fun v a9 h₁=>?_) fun _ _ x=>x));refine Calls.spliced_nil ?_;refine aB (cA ?_);obtain⟨X,h₁⟩:=h₁;obtain⟨N,mN,_,eC,⟨⟩,_⟩:=X;refine aB (wpAny_keeperOf_exc eC ?_);exact aB (dS h₁ (fun r cw hr=>aB (aQ (wpAny_point (aF hr)))) fun _ _ x=>x)
noncomputable def atT:List Nat:=[32,40,97,116,32]
noncomputable def TS:R D→Option (List Nat)
 |.ok d=>onStr d some
 |_=>none
noncomputable def Jv(F:List D→Option (R D))(x y z:D):Option (List Nat):=onStr z fun z=>(F [x,y]).bind fun r=>(TS r).bind fun q=>if z.length+q.length+6≤sizeLine then some (z++(atT++(q++[41]))) else none
theorem Hh(h:Jv F x y z=some m):∃zz q,z=.str zz∧F [x,y]=some (.ok (.str q))∧zz.length+q.length+6≤sizeLine∧m=zz++(atT++(q++[41])):=by
 refine aq (g5 h) fun zz ay h=>?_;subst ay;refine aq (dH.mp h) fun r h1 h=>?_;refine aq (dH.mp h) fun q h2 h=>?_;refine ka (kQ h) fun l h4=>?_;cases r with
 |exc x=>cases h2
 |ok d=>
  refine aq (g5 h2) fun _ ay h3=>?_;subst ay;exact⟨_,_,rfl,aL h3▸h1,l,(aL h4).symm⟩
inductive NK(jh:jN)(jw:List Stmt)(k9:Scope)(body:List Stmt)(line col:Int):Prop
 |mk (p0 p1 p2 p3 p4 p5 p6 p7 p8 p9 QE Oj Ux Uy:Pos) (n1 n2:Nat) (e:body=[.FunctionDef "coord_repr" jh jw [] none [] k9 none "coord_repr" p0,
  .Return (some (.Call (.Name "TOMLDecodeError" p1) [.JoinedStr [.FormattedValue (.Name "msg" p2) (-1) none p3,.Constant (.str " (at ") n1 p4,.FormattedValue (.Call (.Name "coord_repr" p5) [.Name "src" p6,.Name "pos" p7] [] p8) (-1) none p9,.Constant (.str ")") n2 QE] Oj] [] Ux)) Uy]) (l:line=(p0.line:Int)) (c:col=(p0.col:Int))
structure sH(fd:FuncData)(inner:Str)(line col:Int)(body:List Stmt)(jh:jN)(jw:List Stmt)(k9:Scope):Prop where
 df:oS fd body ["src","pos","msg"] 3 []
 n0:fd.scope.names[0]?=some (("src":Str),NameKind.local)
 n1:fd.scope.names[1]?=some (("pos":Str),NameKind.local)
 n2:fd.scope.names[2]?=some (("msg":Str),NameKind.local)
 n3:fd.scope.names[3]?=some (("coord_repr":Str),NameKind.local)
 mU:fd.scope.names.lookup ("TOMLDecodeError":Str)=some NameKind.globalImplicit
 WE:fd.scope.names.lookup ("coord_repr":Str)=some NameKind.local
 qual:fd.qualname++(".<locals>.":Str)++("coord_repr":Str)=inner
 shape:NK jh jw k9 body line col
 defaults:jh.defaults=[]
 Zi:jh.kw_defaults=[]
 ann:∀env,annTrees jh none env=[]
 free:∀n,(n,NameKind.free)∉k9.names
 DN:∀k,iN k k9.names []=[]
 Zj:∀q doc pm cd Ie,oS (W.fnX "coord_repr" q jh jw k9 [] .none .none doc pm none cd Ie) jw ["src","pos"] 2 []
theorem zT(env:Env):∀(cs:List (Str×Addr)),(∀n,(n,NameKind.free)∉names)→pD env names cs=cs:=by
 induction names with
 |nil=>exact fun _ _=>rfl
 |cons y r ih=>
  intro cs h;have hk:(y.2==NameKind.free)=false:=by
   cases hk:y.2==NameKind.free with
   |false=>rfl
   |true=>exact absurd (show(y.1,NameKind.free)∈y::r from eq_of_beq hk▸.head _) (h y.1)
  exact(congrArg (pD env r) (zE hk)).trans (ih cs fun n hn=>h n (.tail _ hn))
structure lE(C:Bc)(h h':Heap)(e:Addr)(m:List Nat):Prop where
 new:h.get? e=none
 rN:lV C h' e
 obj:∃t tk,h'.get? e=some {cls:=.ref C.TC,data:=.fields #[.ref t,.none,.none,.none,.bool false,.none]}∧h'.get? t=some {cls:=.type "tuple",data:=.seq #[.str ⟨m.toArray⟩ tk]}
theorem lE.exc(x:lE C h h' e m):Exc C h h' e (.mU m) none:=by
 refine iw x.obj fun t tk h1 h2=>?_;exact⟨_,_,⟨x.new,x.rN,h1,rfl,rfl,⟨_,rfl,t,tk,0,#[],rfl,h2⟩⟩,rfl⟩
theorem lE.mU{C:Bc}{m:List Nat}(x:lE C h h' e m):∃tk,kW h' C.TC e ⟨m.toArray⟩ tk:=by
 refine iw x.obj fun t tk h1 h2=>?_;exact⟨tk,_,_,t,0,#[],h1,rfl,rfl,rfl,h2⟩
noncomputable def Ac.Y7(c:Ac)(sn:Str→Value→Prop):Ac:={c with snap:=sn}
theorem aw.look(X:aw c none fz s σ γ)(h:∀y v,sn y v→fo c s.heap y v):aw (c.Y7 sn) none fz s σ γ:=
 ⟨⟨h,X.g.kp,X.g.hi,X.g.le,X.g.new,X.g.gens,X.g.os,X.g.ns,X.g.cell,X.g.AL,X.g.A4,X.g.AM,X.g.vars,fun i g hg a ha=>let m:=X.g.g9 i g hg a ha;⟨m.new,m.fz,m.L,m.cells⟩,X.g.nodup,X.g.apart⟩,X.e,trivial⟩
theorem Ac.Ok.look(Y:c.Ok)(sn:Str→Value→Prop):(c.Y7 sn).Ok:=⟨Y.K,Y.room,Y.fr,Y.FR,Y.kind,Y.frame,Y.glob,Y.Gx,Y.pj,Y.base,Y.rJ,Y.u9,Y.Gy,Y.nL,Y.apart,Y.pk⟩
theorem codeRec_of{h h':Heap}(x:h.CodeRec cd q)(k:∀b o vs,h.get? b=some o→o.data=.fields vs→h'.get? b=some o):h'.CodeRec cd q:=
 let ⟨c',oc,vs,t,r1,r2,r3,r4⟩:=x;⟨c',oc,vs,t,r1,k _ _ _ r2 r3,r3,r4⟩
theorem SO.fr(S:SO C)(l:List Addr):SO {C with FR:=l}:=⟨S.hd,S.bm,S.ob,S.cP⟩
theorem Jw {env:Env} (WE:env.kindOf "coord_repr"=some NameKind.local) (qual:env.qual++("coord_repr":Str)=inner):qualnameIn env "coord_repr" "coord_repr"=inner:=by
 unfold qualnameIn;rw[WE];exact qual
theorem uy{e:Ev}(h1:e.1 σ=.ok x ai)(h2:fe r ai=.ok xs de):fe (e::r) σ=.ok (x::xs) de:=by
 show Mo.bind (e.1 σ) _=_;rw[h1];show Mo.bind (fe r ai) _=_;rw[h2];rfl
section
variable{n:Nat}{jw:List Stmt}{G:Gl}{nf:Nat}{f:Addr}{o:Obj}{Sm:FuncData}{x y:D}{zz q:List Nat}{n1 n2:Nat}{p2 p3 p4 p5 p6 p7 p8 p9 QE Oj:Pos}
theorem Hi(Ed:ll G nf 4 bz [x,y]=some (.ok (.str q)))(hl:zz.length+q.length+6≤sizeLine):
 (au (fe [val fun σ=>(iz 2 σ).bind fun x σ=>.of (mr false x) σ,val fun σ=>.ok (.str atT) σ,val fun σ=>((fe [(iz 0,peek 0),(iz 1,peek 1)] σ).bind fun xs σ=>.of (ll G nf 4 bz xs) σ).bind fun x σ=>.of (mr false x) σ,val fun σ=>.ok (.str [41]) σ] ((H0 4 [x,y,.str zz]).hide 3))).bind (fun xs σ=>.of (lW xs) σ)=some (.ok (.str (zz++(atT++(q++[41])))),(H0 4 [x,y,.str zz]).hide 3):=by
 have e1:mr false (.str zz)=some (.ok (.str zz)):=if_pos (by lia);have e2:mr false (.str q)=some (.ok (.str q)):=if_pos (by lia);have e3:lW [.str zz,.str atT,.str q,.str [41]]=some (.ok (.str (zz++(atT++(q++[41]))))):=if_pos ⟨gY 2 2,(by show zz.length+(5+(q.length+(1+0)))≤sizeLine;lia)⟩;generalize hS:(H0 4 [x,y,.str zz]).hide 3=S;have a0:(iz 2 S).bind (fun x σ=>.of (mr false x) σ)=.ok (.str zz) S:=by subst hS;exact congrArg (Mo.of · _) e1
 have a2:((fe [(iz 0,peek 0),(iz 1,peek 1)] S).bind fun xs σ=>.of (ll G nf 4 bz xs) σ).bind (fun x σ=>.of (mr false x) σ)=.ok (.str q) S:=by
  subst hS;exact(congrArg (fun m=>Mo.bind (Mo.of m ((H0 4 [x,y,.str zz]).hide 3)) fun x σ=>.of (mr false x) σ) Ed).trans (congrArg (Mo.of · _) e2)
 have a:=uy (e:=val fun σ=>(iz 2 σ).bind fun x σ=>.of (mr false x) σ) a0 (uy (e:=val fun σ=>.ok (.str atT) σ) rfl (uy (e:=val fun σ=>((fe [(iz 0,peek 0),(iz 1,peek 1)] σ).bind fun xs σ=>.of (ll G nf 4 bz xs) σ).bind fun x σ=>.of (mr false x) σ) a2 (uy (e:=val fun σ=>.ok (.str [41]) σ) (r:=[]) rfl rfl)));exact(congrArg (fun m=>(au m).bind fun xs σ=>Mo.of (lW xs) σ) a).trans (congrArg (Mo.of · _) e3)
theorem Qa (O:c.Ok) (d9:∀y v,¬c.snap y v) (hA:c.A.handled=none) (hn:n+1≤c.n) (m0:c.env.scope.names[0]?=some (("src":Str),NameKind.local)) (m1:c.env.scope.names[1]?=some (("pos":Str),NameKind.local)) (m2:c.env.scope.names[2]?=some (("msg":Str),NameKind.local))
 (jq:aw c none fz s ((H0 4 [x,y,.str zz]).hide 3) γ) (ZP:d7 c none γ f) (hf:s.heap.get? f=some o) (hd:o.data=.func Sm) (SN:s.heap.CodeRec Sm.code Sm.qualname) (hv:fo c s.heap "coord_repr" (.ref f)) (Df:oS Sm jw ["src","pos"] 2 []) (MK:∀k,iN k Sm.scope.names []=[])
 (hb:∀c':Ac,c'.C={c.C with FR:=c'.C.FR}→c'.A.handled=none→c'.n=n→c'.env.scope=Sm.scope→c'.env.cells=[]→c'.Ok→(∀y v,¬c'.snap y v)→i6 prog w c' jw (cx G nf bz))
 (Ed:ll G nf 4 bz [x,y]=some (.ok (.str q))) (hl:zz.length+q.length+6≤sizeLine)
 (hQ:∀t s' ae,bt c none ae s' ((H0 4 [x,y,.str zz]).hide 3)→Q (.str ⟨(zz++(atT++(q++[41]))).toArray⟩ t) s'):
 aH (model prog w) c.A (eval (.JoinedStr [.FormattedValue (.Name "msg" p2) (-1) none p3,.Constant (.str " (at ") n1 p4,.FormattedValue (.Call (.Name "coord_repr" p5) [.Name "src" p6,.Name "pos" p7] [] p8) (-1) none p9,.Constant (.str ")") n2 QE] Oj) c.env) Q E s:=by
 have SP:∀b∈[f],d7 c none γ b:=fun b hb=>aK.mp hb▸ZP;have kb:fx c fz s [f] f=true:=by unfold fx;simp
 have Y:=jq.Eu O SP;have Z:=jq.zB O SP;have rI:=Y.look fun y v=>y=("coord_repr":Str)∧v=.ref f;have qP:=Z.look (sn:=fun y v=>y=("coord_repr":Str)∧v=.ref f) fun y u h=>h.1▸h.2▸hv;have s1:=tL (prog:=prog) (w:=w) (e:=.Name "msg" p2) (pos:=p3) rI (k:=none) trivial (pw rI m2 (by decide));have s2:=nx (prog:=prog) (w:=w) (n:=n1) (pos:=p4) rI (k:=none) trivial (.str " (at ");have s4:=nx (prog:=prog) (w:=w) (n:=n2) (pos:=QE) rI (k:=none) trivial (.str ")");have s3:=tL (prog:=prog) (w:=w) (pos:=p9) rI (k:=none) trivial (tj (p:=p5) (pos:=p8) (es:=[.Name "src" p6,.Name "pos" p7]) (e1:=[(iz 0,peek 0),(iz 1,peek 1)]) rI hA (vars:=4) (n:=n) (by decide) ⟨rfl,rfl⟩ ((jd kb).trans hf) hd (codeRec_of SN fun b o vs h1 h2=>(jd (by unfold fx;rw[pC h1 h2,kJ])).trans h1) Df rfl (fun c' h1=>hb c' h1) MK hn ⟨⟨pw rI m0 (by decide),qk rI m0 (by decide)⟩,⟨pw rI m1 (by decide),qk rI m1 (by decide)⟩,trivial⟩ rfl (List.cons_ne_nil _ _) ZP.P);have js:=r5 (prog:=prog) (w:=w) (pos:=Oj) rI (k:=none) trivial (es:=[_,_,_,_]) (evs:=[val _,val _,val _,val _]) ⟨⟨s1,l5 rI (k:=none) trivial s1 fun _ _=>rfl⟩,⟨s2,l5 rI (k:=none) trivial s2 fun _ _=>rfl⟩,⟨s3,l5 rI (k:=none) trivial s3 fun _ _=>rfl⟩,⟨s4,l5 rI (k:=none) trivial s4 fun _ _=>rfl⟩,trivial⟩;refine js fz s _ _ _ qP.inv (Hi Ed hl) Q E (.A6 fun v oi su yh AI R=>?_);refine eo (bu R) fun t ay=>?_;subst ay;refine eo AI.x fun Uu YA=>?_;exact hQ t _ _ (jq.r9 O SP (YA.look (sn:=c.snap) fun y v h=>absurd h (d9 y v))).inv
end
theorem Jx{C:Bc}{A:Around}{outer:List Env}{fd:FuncData}
 (K:C.Ok) (S:SO C) (T:TF C) (hT:C.mg "TOMLDecodeError"=some (.ref C.TC)) (Sh:sH fd C.inner C.line C.col body jh jw k9) (Gh:fd.code=.ref C.c₀) (DA:m6 C s.heap a fd)
 (rm:u6 (n+2) A) (hA:A.handled=none) (AO:A.frames=some outer) (Ec:C.FR=outer.filterMap (·.frame)) (vi:Frs C s.heap outer) (H:HI C fz s.heap) (hB:C.rJ.le fz) (hg:s.gens=#[]) (rs:a8 C.EC fz [x,y,z] vs)
 (hb:∀c':Ac,c'.C={C with FR:=c'.C.FR}→c'.A.handled=none→c'.n=n→c'.env.scope=k9→c'.env.cells=[]→c'.Ok→(∀y v,¬c'.snap y v)→i6 prog w c' jw (cx G nf bz))
 (hm:Jv (ll G nf 4 bz) x y z=some m)
 (hQ:∀e s' ae,bp C fz s ae s'→lE C s.heap s'.heap e m→Q (.ref e) s'):aH (model prog w) A (call (.ref a) vs) Q E s:=by
 obtain⟨zz,q,rfl,Ed,hl,rfl⟩:=Hh hm;have hv:vs.take 3=vs:=cK (bO rs.length);refine(congrArg (fun l=>aH (model prog w) A (call (.ref a) l) Q E s) hv).mp (Ju (vars:=4) (n:=n+1) K Sh.df DA rm AO Ec vi H hB hg rs rfl fun O a9 di grow=>?_);obtain⟨p0,p1,p2,p3,p4,p5,p6,p7,p8,p9,QE,Oj,Ux,Uy,n1,n2,rfl,rH,hc⟩:=Sh.shape;refine iH (W.nestDef_K Sh.defaults Sh.Zi (Sh.ann _) ?_);refine Hg O.K (S.fr _) di.g.hi ((qW (fun n hn=>absurd hn (Sh.free n))).trans (congrArg pure (zT _ _ Sh.free))) Sh.df.glob Gh (Jw Sh.WE Sh.qual) rH hc fun f doc pm cd Ie cw YB Rk hf SN=>?_;have gx:=di.grow O (k:=none) trivial YB;refine yQ O (fun _ _ h=>h) gx.g (i:=3) Sh.n3 fun l4 VM VN QN=>?_;have Ef:=di.gb O Rk;refine iH (wpAny_Return_some (dG (l6 O (k:=none) trivial VM.hi Sh.mU hT (xe rfl ?_) (by decide))));refine Qa O (fun _ _ h=>h) hA (bB _) Sh.n0 Sh.n1 Sh.n2 ⟨VM,gx.e.hide,trivial⟩ ⟨Ef.L,Ef.cells,fun i g hi=>Ef.own i g (kV hi).2,Ef.cc,Ef.P,Ef.FR⟩ (QN f _ Ef.L hf) rfl (codeRec_of SN fun b o vs h1 h2=>QN b o (fun e=>?_) h1) VN (Sh.Zj _ doc pm cd Ie) Sh.DN hb Ed hl fun t oi su AI=>?_
 ·refine eo gx.g.ns fun m ns=>?_
  refine aq (lz ns) fun o' e1 e2=>?_;exact e2 vs (aL (e1.symm.trans (e▸h1))▸h2)
 ·have gr:=grow oi su _ AI
  refine⟨T.at gr.hi,Hd (T.at gr.hi) fun h' e Sn=>⟨_,rfl,hQ e _ su (gr.trans (bp.keeps (t:=oi.toks) gr.hi Sn.keeps)) ?_⟩⟩;refine q9 Sn.there fun t0 h1 h2 h3=>?_;exact⟨gr.kp.some (gr.hi.mq Sn.new) Sn.new,gr.hi.rN Sn.new Sn.keeps,t0,t,h1,h3⟩
variable(prog w) in
noncomputable def sI(C:Bc)(a:Addr)(n:Nat)(qQ:D→D→D→Option (List Nat)):Prop:=
 ∀(A:Around) (outer:List Env) (fz:Fz) (s:Shared) (vs:List Value) (x y z:D) (m:List Nat),u6 n A→A.handled=none→A.frames=some outer→C.FR=outer.filterMap (·.frame)→Frs C s.heap outer→
  HI C fz s.heap→C.rJ.le fz→s.gens=#[]→a8 C.EC fz [x,y,z] vs→qQ x y z=some m→∀(Q E:Value→Shared→Prop),(∀e s' ae,bp C fz s ae s'→lE C s.heap s'.heap e m→Q (.ref e) s')→aH (model prog w) A (call (.ref a) vs) Q E s
theorem lE.old{C:Bc}{h₀ h h':Heap}(kp:Kp C.P FR h₀ h)(hP:∃o,h.get? C.P=some o)(x:lE C h h' e m):lE C h₀ h' e m:=
 ⟨kp.some (fun q=>hP.elim fun o=>vN (q▸x.new)) x.new,x.rN,x.obj⟩
theorem BX(O:c.Ok)(hA:c.A.handled=none){va vb vc:Ev}{o:Obj}
 (hx:globK c none "suffixed_err") (hg:c.C.mg "suffixed_err"=some (.ref a)) (ho:c.C.B.get? a=some o) (hf:o.data=.func fd) (Rr:a≠c.C.P) (spec:sI prog w c.C a n qQ) (hn:n≤c.n)
 (h1:eg prog w c none [ea,eb,ec] [va,vb,vc]) (hs:[ea,eb,ec].all noStar=true) (I:bt c none fz s σ) (Vj:va.1 σ=some (.ok x,ai)) (hvb:vb.1 ai=some (.ok y,de)) (hvc:vc.1 de=some (.ok z,oW)) (hm:qQ x y z=some m)
 (hQ:∀e s' ae,fz.le ae→bt c none ae s' oW→lE c.C c.h₀ s'.heap e m→Q (.ref e) s'):aH (model prog w) c.A (eval (.Call (.Name "suffixed_err" p) [ea,eb,ec] [] pos) c.env) Q E s:=by
 refine dG (l6 (k:=none) O trivial I.hi hx hg ?_ (by decide));refine iT (o:=o) (fd:=fd) (kT (ks:=[]) (e2:=[]) (kn:=[]) h1 trivial hs (List.cons_ne_nil _ _) rfl fz s σ (.ok [x,y,z]) oW I ?_ _ _ (.A6 fun ds a9 av b8 az rs=>?_))
 ·simp only[bN,fe,Vj,hvb,hvc,Mo.bind,Mo.ok]
 obtain⟨vs,rs,_,rfl⟩:=rs;refine⟨⟨az.hi.base a o ho Rr,hf⟩,?_⟩;refine eo az.x fun γ X=>?_;refine(congrArg (fun l=>aH (model prog w) c.A (call (.ref a) l) Q E a9) (cK (bO rs.length))).mpr (spec c.A (c.env::c.outer) av a9 vs x y z m (O.room.le hn) hA O.fr O.FR (X.g.vi O) X.g.hi (Fz.le_trans O.rJ X.g.le) X.g.gens rs hm _ _ fun e s' ae G N=>?_);exact hQ e s' ae (Fz.le_trans b8 G.le) (az.grow O (k:=none) trivial G) (N.old X.g.kp (let ⟨_,e,_⟩:=X.g.hi.place.tab;⟨_,e⟩))
theorem zU(O:c.Ok)(hA:c.A.handled=none)(T:TF c.C){va vb vc:Ev}{o:Obj}
 (hx:globK c none "suffixed_err") (hg:c.C.mg "suffixed_err"=some (.ref a)) (ho:c.C.B.get? a=some o) (hf:o.data=.func fd) (Rr:a≠c.C.P) (spec:sI prog w c.C a n qQ) (hn:n≤c.n)
 (AF:globK c none "str") (Ib:c.C.mg "str"=none) (uK:c.C.mb "str"=some (.type "str")) (h1:eg prog w c none [ea,eb,ec] [va,vb,vc]) (hs:[ea,eb,ec].all noStar=true):
 aj prog w c none (.Call (.Name "str" p') [.Call (.Name "suffixed_err" p) [ea,eb,ec] [] pos] [] pos') (fun σ=>(au (va.1 σ)).bind fun x σ=>(au (vb.1 σ)).bind fun y σ=>(au (vc.1 σ)).bind fun z σ=>.of ((qQ x y z).map fun m=>.ok (.str m)) σ):=fun fz s σ r σ' I h Q E P=>by
 refine iw (bh h) fun x ai e1 h=>?_;refine iw (bh h) fun y de e2 h=>?_;refine iw (bh h) fun z oW e3 h=>?_;obtain⟨h5,rfl⟩:=Mo.ig h;refine aq (aR.mp h5) fun m hm bq=>?_;subst bq;refine jl O (k:=none) trivial AF Ib uK (by decide) rfl fz s σ I _ _ ?_;refine BX O hA hx hg ho hf Rr spec hn h1 hs I e1 e2 e3 hm fun e s' ae le I' N=>?_;refine eo N.mU fun tk te=>?_;exact uY (by have:=O.units;exact aA (aJ (aP _ _) _) this) (T.at I'.hi) te (P.ok _ rfl _ s' ae le I' (by exact⟨tk,rfl⟩))
theorem Dm{A:Around}(b:FJ T N o)(hA:A.handled=none)
 (h:aH M A x (fun v a9=>∃e t,v=.ref e∧a9.heap.get? T=some o∧a9.heap.get? e=some {cls:=.ref T,data:=.fields #[.ref t,.none,.none,.none,.bool false,.none]}∧E (.ref e) a9) E s):aH M A (raiseStmt env (some x) none) Q E s:=by
 cases b;exact wpAny_raiseStmt_made_sub (by decide) hA h
theorem NL(O:c.Ok)(hA:c.A.handled=none)(T:TF c.C){va vb vc:Ev}{o:Obj}
 (hx:globK c none "suffixed_err") (hg:c.C.mg "suffixed_err"=some (.ref a)) (ho:c.C.B.get? a=some o) (hf:o.data=.func fd) (Rr:a≠c.C.P) (spec:sI prog w c.C a n qQ) (hn:n≤c.n)
 (h1:eg prog w c none [ea,eb,ec] [va,vb,vc]) (hs:[ea,eb,ec].all noStar=true):
 du prog w c (.Raise (some (.Call (.Name "suffixed_err" p) [ea,eb,ec] [] pos)) none aBQ) (fun σ=>(au (va.1 σ)).bind fun x σ=>(au (vb.1 σ)).bind fun y σ=>(au (vc.1 σ)).bind fun z σ=>match qQ x y z with
  |some m=>some (.exc (.mU m),σ)
  |none=>none):=fun fz s σ r σ' I h Q E q=>by
 refine iw (bh h) fun x ai e1 h=>?_;refine iw (bh h) fun y de e2 h=>?_;refine iw (bh h) fun z oW e3 h=>?_;cases hm:qQ x y z with
 |none=>rw[hm] at h;exact nS h
 |some m=>
  rw[hm] at h;have h:=aL h;cases h;rw[arm_exec_Raise,arm_evalOpt_some];obtain⟨N,mN,_,eC,b,_⟩:=T.obj;refine aB (cA (Dm b hA ?_));refine aB (BX O hA hx hg ho hf Rr spec hn h1 hs I e1 e2 e3 hm fun e s' ae le I' Nt=>?_);refine aB (cA (aF ?_));refine iw Nt.obj fun t tk g1 g2=>?_;exact⟨e,t,rfl,I'.hi.base _ _ eC T.ne,g1,q.exc _ rfl e s' ae le I' (.inl Nt.exc)⟩
theorem BY{A:Around}
 (h:aH (model prog w) (A.mark (some (.ref e))) (eval t env) (fun cv a9=>cv=.ref T∧oL a9.heap T∧(∃oe,a9.heap.get? e=some oe∧oe.cls=.ref T)∧
  aH (model prog w) (A.mark (some (.ref e))) (setFlight (.ref e) none) (fun _ cw=>
   aH (model prog w) (A.mark (some (.ref e))) (gK env n (.ref e)) (fun _ l4=>
    aH (model prog w) (A.mark (some (.ref e))) (execs (AJ::MH) env)
     (fun f sk=>aH (model prog w) A (do bindName env n .none;unbindBehindTheSuite env n pos) (fun _ oi=>Q f oi) E sk)
     (AsSuiteRaised (model prog w) (A.mark (some (.ref e))) env n pos (notedBy (model prog w) (A.mark (some (.ref e))) env (gN (model prog w) A env E))) l4) (notedBy (model prog w) (A.mark (some (.ref e))) env (gN (model prog w) A env E)) cw) (notedBy (model prog w) (A.mark (some (.ref e))) env (gN (model prog w) A env E)) a9) (notedBy (model prog w) (A.mark (some (.ref e))) env (gN (model prog w) A env E)) s):
 aH (model prog w) A (handleBy (.ref e) env (.ExceptHandler (some t) (some n) (AJ::MH) pos::rest)) Q E s:=by
 refine wpAny_handleBy_cons (codeAny_handlers_test (dS h (fun c a9 h₁=>?_) fun _ _ y=>y)) (by intro q;cases q);obtain⟨rfl,O,⟨oe,he,Oe⟩,hk⟩:=h₁;obtain⟨N,mN,_,eC,⟨⟩,_⟩:=O;exact wpAny_excMatches_sub_self eC he Oe (by decide) (codeAny_handlers_suite_as hk)
theorem Exc.NM{C:Bc}{m:List Nat}(x:Exc C h₀ h e (.mU m) tb):∃tk,kW h C.TC e ⟨m.toArray⟩ tk:=by
 refine iw x fun oe vs a _=>?_;obtain⟨a0,e4,t,tk,n,sl,rfl,e6⟩:=a.args;exact⟨tk,oe,vs,t,n,sl,a.get,a.cls,a.data,e4,e6⟩
theorem kW.kept{h h':Heap}(x:kW h T e m tk)(n:h.Ns L mm)(k:∀b o,b≠L→h.get? b=some o→h'.get? b=some o):kW h' T e m tk:=by
 obtain⟨o,vs,t0,nn,sl,h1,h2,h3,h4,h5⟩:=x;obtain⟨mo,es,ep,e1,e2,_⟩:=n;refine⟨o,vs,t0,nn,sl,k _ _ (fun e=>?_) h1,h2,h3,h4,k _ _ (fun e=>?_) h5⟩
 ·rw[aL (e1.symm.trans (e▸h1)),h3] at e2;cases e2
 ·rw[aL (e1.symm.trans (e▸h5))] at e2;cases e2
section
variable{i j nn:Nat}{x err:Str}{kd:NameKind}{p1 p2 p3 p4 p5 p6 hp:Pos}{m:List Nat}{tk:Tok}{ea:Addr}{sl:Slot}
theorem Dn (O:c.Ok) (d9:∀y v,¬c.snap y v) (T:TF c.C) (hn:c.env.scope.names[i]?=some (x,kd)) (hd:(x==("__debug__":Str))=false) (M6:c.env.scope.names[j]?=some (err,.local)) (Og:(err==("__debug__":Str))=false) (YC:i≠j)
 (AF:globK c none "str") (Ib:c.C.mg "str"=none) (uK:c.C.mb "str"=some (.type "str")) (qP:aw c none fz s σ γ) (te:kW s.heap c.C.TC ea ⟨m.toArray⟩ tk) (uq:(σ.hide j).get i=some sl) {Q:Flow→Shared→Prop} {E E' E'':Value→Shared→Prop}
 (q:∀v s' ae,fz.le ae→bt c none ae s' ((σ.hide j).put i (.val sl.d))→Rep c.C.EC ae (.tup [sl.d,.str m]) v→Q (.ret v) s'):
 aH (model prog w) (c.A.mark (some (.ref ea))) (gK c.env err (.ref ea)) (fun _ l4=>aH (model prog w) (c.A.mark (some (.ref ea))) (execs [.Return (some (.Tuple [.Name x p1,.Call (.Name "str" p2) [.Name err p3] [] p4] nn p5)) p6] c.env)
  (fun f sk=>aH (model prog w) c.A (do bindName c.env err .none;unbindBehindTheSuite c.env err hp) (fun _ oi=>Q f oi) E sk) E' l4) E'' s:=by
 refine yQ O d9 qP.g M6 fun oi YD VO VP=>?_;have I9:aw c none fz oi (σ.hide j) (wo γ j):=⟨YD,qP.e.hide,trivial⟩;obtain⟨mm,ns⟩:=qP.g.ns;have VQ:=te.kept ns VP;obtain⟨VR,v,VS,VT,YE,Om⟩:=I9.inv.take O hn uq;refine iH (wpAny_Return_some (Tuple_ ?_));rw[bf rfl,bf rfl];refine Calls.spliced_cons (dR (nM O VT (Calls.spliced_cons ?_)) hd);refine dG (ij (c:=c) (k:=none) O trivial Om.hi AF Ib uK ?_ (by decide));rw[bf rfl];refine PySem.callWith_type1 (dR (nM O VO ?_) Og);refine uY (by have:=O.units;show c.A.units+2<cLine;exact aA (aJ (aP _ _) _) this) (T.at Om.hi) VQ (Calls.spliced_nil ?_);refine Gives.newTuple (C:=c.C) (fz:=VR) (ds:=[sl.d,.str m]) Om.hi ?_ (by show 2≤sizeLine;decide) _ _ fun v' SF VU VV YF=>?_
 ·exact⟨_,_,rfl,YE,_,_,rfl,by exact⟨tk,rfl⟩,rfl⟩
 obtain⟨ZQ,ME⟩:=(Om.grow O (k:=none) trivial VV).x;obtain⟨I7,Ob⟩:=ME.g.ns;refine wpAny_nameGoes_keeps (cm O.pj M6) Ob (by rw[O.kind];rfl) fun h' ov n' nH=>?_;refine q v' _ VU (Fz.le_trans VS VV.le) ⟨_,ME.g.TP O d9 M6 Ob (tk:=SF.toks+1) n' nH,fun l=>?_,trivial⟩ YF;unfold wo
 by_cases e:l=j
 ·rw[if_pos e,e,St.Ek (St.tG uq),if_neg (Ne.symm YC),St.Ar,if_pos rfl];rfl
 ·rw[if_neg e];exact ME.e l
theorem Hj(O:c.Ok)(d9:∀y v,¬c.snap y v)(T:TF c.C)
 (hn:c.env.scope.names[i]?=some (x,kd)) (hd:(x==("__debug__":Str))=false) (M6:c.env.scope.names[j]?=some (err,.local)) (Og:(err==("__debug__":Str))=false) (YC:i≠j)
 (hT:globK c none "TOMLDecodeError") (hgT:c.C.mg "TOMLDecodeError"=some (.ref c.C.TC)) (AF:globK c none "str") (Ib:c.C.mg "str"=none) (uK:c.C.mb "str"=some (.type "str")) (hb:i6 prog w c body be)
 (SG:∀z f,sel z=some f→∃m,z=.mU m∧f=fun σ=>(iz i (σ.hide j)).bind fun d σ=>.ok (.ret (.tup [d,.str m])) σ):
 du prog w c (.Try body [.ExceptHandler (some (.Name "TOMLDecodeError" tp)) (some err) [.Return (some (.Tuple [.Name x p1,.Call (.Name "str" p2) [.Name err p3] [] p4] nn p5)) p6] hp] [] [] pos) (fun σ=>tE (be σ) sel):=fun fz s σ r σ' I hv Q E q=>by
 refine wpAny_Try_except ?_;rcases yN hv with ⟨f,Oi,rfl⟩|⟨z,ai,f,Oi,hs,hv⟩
 ·exact hb fz s σ _ _ I Oi _ _ ⟨fun hf a9 av b8 az=>gX (q.next hf a9 av b8 az),q.ret,fun x hx=>(nomatch hx)⟩
 ·refine aq (SG z f hs) fun m ay bq=>?_;subst ay;subst bq
  refine hb fz s σ _ _ I Oi _ _ (.rZ fun ea a9 av b8 az um=>?_);refine eo az.x fun lU di=>?_;refine note O.fr O di um fun cw gx uo=>kr O gx uo none fun l4 jq AH=>BY (T:=c.C.TC) (l6 (c:=c) (k:=none) O trivial jq.g.hi hT hgT ⟨rfl,T.at jq.g.hi,?_,?_⟩ (by decide))
  ·refine iw AH fun oe vs a _=>?_
   exact⟨oe,a.get,a.cls⟩
  refine kr O jq AH none fun sk qP Uw=>?_;refine eo Uw.NM fun tk te=>?_;rcases Mo.bind_some hv with ⟨d,de,h1,h2⟩|⟨y,h1,_⟩
  ·refine aq (fw h1) fun sl uq h3=>?_
   have h2:=aL h2;have h3:=aL h3;cases h2;cases h3;exact Dn O d9 T hn hd M6 Og YC AF Ib uK qP te uq fun v s' ae le I' R=>q.ret _ rfl v s' ae (Fz.le_trans b8 le) I' R
  ·refine aq (fw h1) fun sl uq h3=>?_
   cases aL h3
end
end Mine.Internal
namespace Mine.Internal
open PySem PyProof.Rows
noncomputable abbrev Nm:=List (Str×NameKind)
noncomputable def NN:List Str:=["","skip_chars","skip_until","skip_comment","skip_comments_and_array_ws","parse_literal_str","","merge_entries","_law_cells","_law_tail","_law_word","_law_there","_law_rate","_law_merged","_law_rows","_law_written",
 "_law_read","_law_mended","_law_due","_law_parted","_law_anew","_law_sorted","law"]
noncomputable def fnName(f:Nat):Str:=NN.getD f ""
noncomputable def xf(f:Nat):Nat:=[1,3,3,2,2,2,1,2].getD f 1
noncomputable def MV(f:Nat):List Str:=if f=2 then["error_on","error_on_eof"] else[]
noncomputable def sJ(g:Nat):Str:=["ILLEGAL_COMMENT_CHARS","ILLEGAL_LITERAL_STR_CHARS","TOML_WS_AND_NEWLINE"].getD g ""
noncomputable def Fn.name:Fn→Str
 |.len=>"len"|.str=>"str"|.int=>"int"
noncomputable def BZ(x:Str):Bool:=!(x==("__debug__":Str))
noncomputable def oa(N:Nm)(kn:Option Nm)(x:Str):Bool:=(kn.getD N).lookup x==some .globalImplicit
noncomputable def freeOk(N:Nm)(cn:Nm):Bool:=cn.all fun y=>y.2 !=.cell&&(y.2 !=.free||N.lookup y.1==some .cell)
noncomputable def Dp(N:Nm)(sc:Scope):Bool:=decide (sc.kind=.function)&&decide ((sc.names.map (·.1)).Nodup)&&freeOk N sc.names
noncomputable def dE:Expr:=.Constant .none 0 default
structure Pt where
 x:Str:=""
 q:Const:=.none
 n:Nat:=0
 o:Operator:=.Add
 os:List CmpOp:=[]
 bo:BoolOp:=.And
 u:UnaryOp:=.Not
 i:Int:=0
 es:List Expr:=[]
 a:Expr:=dE
 b:Expr:=dE
 d:Expr:=dE
 la:Option Expr:=none
 lb:Option Expr:=none
 lc:Option Expr:=none
 ks:List Keyword:=[]
 gs:List iF:=[]
 s:Scope
 p:Pos
noncomputable def dP:Pt:={s:=default,p:=default}
noncomputable def parts(e:Expr):Pt:=Expr.casesOn (motive_1:=fun _=>Pt) e (fun o es p=>{dP with bo:=o,es:=es,p:=p}) (fun _ _ _=>dP) (fun a o b p=>{dP with a:=a,o:=o,b:=b,p:=p}) (fun o a p=>{dP with u:=o,a:=a,p:=p}) (fun _ _ _ _=>dP) (fun a b d p=>{dP with a:=a,b:=b,d:=d,p:=p}) (fun _ _ _=>dP) (fun _ _ _=>dP) (fun a gs s p=>{dP with a:=a,gs:=gs,s:=s,p:=p}) (fun _ _ _ _=>dP) (fun _ _ _ _ _=>dP) (fun _ _ _ _=>dP) (fun _ _=>dP) (fun _ _=>dP) (fun _ _=>dP) (fun a os es p=>{dP with a:=a,os:=os,es:=es,p:=p}) (fun a es ks p=>{dP with a:=a,es:=es,ks:=ks,p:=p}) (fun a i l p=>{dP with a:=a,i:=i,lc:=l,p:=p}) (fun es p=>{dP with es:=es,p:=p}) (fun q n p=>{dP with q:=q,n:=n,p:=p}) (fun a x p=>{dP with a:=a,x:=x,p:=p}) (fun a b p=>{dP with a:=a,b:=b,p:=p}) (fun _ _=>dP) (fun x p=>{dP with x:=x,p:=p}) (fun es p=>{dP with es:=es,p:=p}) (fun es n p=>{dP with es:=es,n:=n,p:=p}) (fun a b c p=>{dP with la:=a,lb:=b,lc:=c,p:=p})
noncomputable def build(e:Expr)(i:Nat)(t:Pt):Expr:=[.BoolOp t.bo t.es t.p,e,.BinOp t.a t.o t.b t.p,.UnaryOp t.u t.a t.p,e,.IfExp t.a t.b t.d t.p,e,e,.ListComp t.a t.gs t.s t.p,e,e,e,e,e,e,.Compare t.a t.os t.es t.p,.Call t.a t.es t.ks t.p,
 .FormattedValue t.a t.i t.lc t.p,.JoinedStr t.es t.p,.Constant t.q t.n t.p,.Attribute t.a t.x t.p,.Subscript t.a t.b t.p,e,.Name t.x t.p,.List t.es t.p,.Tuple t.es t.n t.p,.Slice t.la t.lb t.lc t.p].getD i e
theorem Zk(e:Expr):e=build e e.ctorIdx (parts e):=by cases e<;>rfl
noncomputable def ix(e:Expr)(i:Nat):Bool:=e.ctorIdx==i
theorem jx(h:ix e i=true):e=build e i (parts e):=(Zk e).trans (congrArg (fun n=>build e n (parts e)) (eq_of_beq h))
theorem a1(h:(a&&b)=true):a=true:=(cO.mp h).1
theorem a2(h:(a&&b)=true):b=true:=(cO.mp h).2
noncomputable def nm(e:Expr):Str:=(parts e).x
theorem gf(h:ix e 23=true):e=.Name (nm e) (parts e).p:=jx h
noncomputable def hd(l:List Expr):Expr:=l.headD dE
noncomputable def len(l:List Expr)(n:Nat):Bool:=l.length==n
theorem Hk{l:List Expr}(h:len l (n+1)=true):l=hd l::l.tail∧len l.tail n=true:=by
 cases l with
 |nil=>cases h
 |cons a l=>exact⟨rfl,beq_iff_eq.mpr (Nat.succ.inj (eq_of_beq h))⟩
theorem len0(h:len l 0=true):l=[]:=eZ.mp (eq_of_beq h)
theorem qr(h:len l 1=true):l=[hd l]:=(Hk h).1.trans (congrArg _ (len0 (Hk h).2))
theorem Jt{l:List Expr}(h:len l 2=true):l=[hd l,hd l.tail]:=(Hk h).1.trans (congrArg _ (qr (Hk h).2))
theorem TU{l:List Expr}(h:len l 3=true):l=[hd l,hd l.tail,hd l.tail.tail]:=(Hk h).1.trans (congrArg _ (Jt (Hk h).2))
theorem zV{α:Type}{o:Option α}(d:α)(h:o.isSome=true):o=some (o.getD d):=by
 obtain⟨a,rfl⟩:=eU.mp h;rfl
noncomputable def isFn(e:Expr)(f:Str):Bool:=ix e 16&&ix (parts e).a 23&&(parts e).ks.isEmpty&&nm (parts e).a==f
noncomputable def C2(e:Expr)(f:Str)(es:List Expr):Expr:=.Call (.Name f (parts (parts e).a).p) es [] (parts e).p
theorem NO(h:isFn e f=true):e=C2 e f (parts e).es:=by
 have h1:=jx (a1 (a1 (a1 h)));have h2:=gf (a2 (a1 (a1 h)));rw[eq_of_beq (a2 h)] at h2;refine h1.trans ?_;show Expr.Call (parts e).a (parts e).es (parts e).ks (parts e).p=_;rw[cM.mp (a2 (a1 h))];exact congrArg (fun t=>Expr.Call t (parts e).es [] (parts e).p) h2
theorem yR(h:isFn e f=true)(h1:len (parts e).es 1=true):e=C2 e f [hd (parts e).es]:=(NO h).trans (congrArg (C2 e f) (qr h1))
theorem PD(h:isFn e f=true)(h1:len (parts e).es 2=true):e=C2 e f [hd (parts e).es,hd (parts e).es.tail]:=(NO h).trans (congrArg (C2 e f) (Jt h1))
theorem TV(h:isFn e f=true)(h1:len (parts e).es 3=true):e=C2 e f [hd (parts e).es,hd (parts e).es.tail,hd (parts e).es.tail.tail]:=(NO h).trans (congrArg (C2 e f) (TU h1))
noncomputable def zW(e:Expr)(y:Str):Bool:=ix e 16&&ix (parts e).a 20&&(parts e).ks.isEmpty&&nm (parts e).a==y&&((parts (parts e).a).p.endLine==(parts e).p.line)
noncomputable def ob(e:Expr):Expr:=(parts (parts e).a).a
noncomputable def PF(e o:Expr)(y:Str)(es:List Expr):Expr:=.Call (.Attribute o y (parts (parts e).a).p) es [] (parts e).p
theorem Jy(h:zW e y=true):e=PF e (ob e) y (parts e).es:=by
 have h1:=jx (a1 (a1 (a1 (a1 h))));have h2:(parts e).a=.Attribute (ob e) (nm (parts e).a) (parts (parts e).a).p:=jx (a2 (a1 (a1 (a1 h))));rw[eq_of_beq (a2 (a1 h))] at h2;refine h1.trans ?_;show Expr.Call (parts e).a (parts e).es (parts e).ks (parts e).p=_;rw[cM.mp (a2 (a1 (a1 h)))];exact congrArg (fun t=>Expr.Call t (parts e).es [] (parts e).p) h2
noncomputable def onB{α:Type}{P:α→Prop}(o:Option {x:α // P x})(f:α→Bool):Bool:=match o with
 |some a=>f a.1
 |none=>false
theorem an(h:(a&&b)=true):a=true∧b=true:=cO.mp h
noncomputable abbrev Ck:=Option Nm→Expr→Bool×Bool
noncomputable def two(b:Bool):Bool×Bool:=(b,b)
noncomputable def zX:List Ck→Option Nm→List Expr→Bool
 |[],_,es=>es.isEmpty
 |x::r,kn,es=>!es.isEmpty&&(x kn (hd es)).1&&zX r kn es.tail
noncomputable def Qb:List Ck→Option Nm→List Expr→Bool
 |[],_,es=>es.isEmpty
 |x::r,kn,es=>!es.isEmpty&&(x kn (hd es)).2&&Qb r kn es.tail
noncomputable def PG(N:Nm)(i:Nat):Ck:=fun kn e=>match kn with
 |none=>two (ix e 23&&(N[i]?.map (·.1)==some (nm e))&&BZ (nm e))
 |some cn=>(ix e 23&&(N[i]?==some (nm e,.cell))&&(cn.lookup (nm e)==some .free)&&BZ (nm e),false)
noncomputable def Jz(j:Nat):Ck:=fun kn e=>two (kn.isSome&&ix e 23&&((kn.getD [])[j]?==some (nm e,.local))&&BZ (nm e))
noncomputable def KG(N:Nm)(g:Nat):Ck:=fun kn e=>two (ix e 23&&nm e==sJ g&&oa N kn (nm e)&&BZ (nm e))
noncomputable def TX(d:D)(q:Const):Option {u:Unit // ∃m,q=.int m∧d=.int (-m)}:=match d,q with
 |.int i,.int m=>if h:i=-m then some ⟨(),m,rfl,congrArg _ h⟩ else none
 |_,_=>none
noncomputable def isInt(d:D)(m:Const):Bool:=(TX d m).isSome
noncomputable def WG(d:D)(e:Expr):Bool:=ix e 19&&(constOk d (parts e).q).isSome
noncomputable def KH(d:D):Ck:=fun _ e=>(WG d e||(ix e 3&&(parts e).u==.USub&&ix (parts e).a 19&&isInt d (parts (parts e).a).q),WG d e)
noncomputable def PH(op:Ma)(x y:Ck):Ck:=fun kn e=>two (ix e 2&&(parts e).o==op.op&&(x kn (parts e).a).1&&(y kn (parts e).b).1)
noncomputable def PJ(op:MR)(x y:Ck):Ck:=fun kn e=>two (ix e 15&&(parts e).os==[op.op]&&len (parts e).es 1&&!behindInMarks op.op (hd (parts e).es)&&(x kn (parts e).a).1&&(y kn (hd (parts e).es)).1)
noncomputable def zY(o:BoolOp)(l:List Ck):Ck:=fun kn e=>(ix e 0&&(parts e).bo==o&&zX l kn (parts e).es,ix e 0&&(parts e).bo==o&&Qb l kn (parts e).es)
noncomputable def PK(x:Ck):Ck:=fun kn e=>(false,ix e 3&&(parts e).u==.Not&&(x kn (parts e).a).2)
noncomputable def PL(x y z:Ck):Ck:=fun kn e=>(ix e 5&&(x kn (parts e).a).2&&(y kn (parts e).b).1&&(z kn (parts e).d).1,ix e 5&&(x kn (parts e).a).2&&(y kn (parts e).b).2&&(z kn (parts e).d).2)
noncomputable def KI(l:List Ck):Ck:=fun kn e=>two (ix e 24&&zX l kn (parts e).es&&(parts e).es.all noStar)
noncomputable def PM(l:List Ck):Ck:=fun kn e=>two (ix e 25&&zX l kn (parts e).es&&(parts e).es.all noStar)
noncomputable def PN(x y:Ck):Ck:=fun kn e=>two (ix e 21&&(x kn (parts e).a).1&&(y kn (parts e).b).1&&!isSlice (parts e).b)
noncomputable def TY(p:PE):Option {u:Unit // p=.a7 .none}:=PE.casesOn (motive_1:=fun p=>Option {u:Unit // p=.a7 .none}) p (fun _=>none) (fun _=>none) (fun _=>none) (fun d=>D.casesOn (motive_1:=fun d=>Option {u:Unit // PE.a7 d=.a7 .none}) d (some ⟨(),rfl⟩) (fun _=>none) (fun _=>none) (fun _=>none) (fun _=>none) (fun _=>none) (fun _=>none) (fun _=>none)) (fun _ _ _=>none) (fun _ _ _=>none) (fun _=>none) (fun _=>none) (fun _=>none) (fun _ _ _=>none) (fun _=>none) (fun _=>none) (fun _ _=>none) (fun _ _ _=>none) (fun _ _ _ _ _=>none) (fun _ _=>none) (fun _ _ _=>none) (fun _ _=>none) (fun _ _=>none) (fun _=>none) (fun _ _=>none) none (fun _ _=>none) (fun _ _=>none) (fun _ _ _=>none)
noncomputable def sL(p:PE):Bool:=(TY p).isSome
noncomputable def Dq(nc:Bool)(x:Ck)(kn:Option Nm):Option Expr→Bool
 |some e=>(x kn e).1
 |none=>nc
noncomputable def FK(x y z:Ck)(ny nz:Bool):Ck:=fun kn e=>two (ix e 21&&ix (parts e).b 26&&(parts (parts e).b).lc.isNone&&(x kn (parts e).a).1&&Dq ny y kn (parts (parts e).b).la&&Dq nz z kn (parts (parts e).b).lb)
noncomputable def WH(N:Nm)(rng:Bool)(x:Ck)(it:Expr):Bool:=match rng with
 |false=>(x none it).1
 |true=>isFn it "range"&&len (parts it).es 1&&oa N none "range"&&noStar (hd (parts it).es)&&(x none (hd (parts it).es)).1
noncomputable def condB(x:Option Ck)(cn:Nm)(ifs:List Expr):Bool:=match x with
 |none=>ifs.isEmpty
 |some x=>len ifs 1&&(x (some cn) (hd ifs)).2
noncomputable def gen(e:Expr):iF:=(parts e).gs.headD ⟨dE,dE,[],0⟩
noncomputable def FL(N:Nm)(rng:Bool)(j:Nat)(it:Ck)(cond:Option Ck)(elt:Ck)(e:Expr):Bool:=ix e 8&&((parts e).gs.length==1)&&((gen e).is_async==0)&&ix (gen e).target 23&&
 Dp N (parts e).s&&(parts e).s.names[j]?==some (nm (gen e).target,.local)&&yI (gen e).iter&&WH N rng it (gen e).iter&&condB cond (parts e).s.names (gen e).ifs&&(elt (some (parts e).s.names) (parts e).a).1
noncomputable def KJ(N:Nm)(rng:Bool)(j:Nat)(it:Ck)(cond:Option Ck)(elt:Ck):Ck:=fun kn e=>two (kn.isNone&&FL N rng j it cond elt e)
noncomputable def KL(N:Nm)(f:Nat)(l:List Ck):Ck:=fun kn e=>two (ix e 16&&ix (parts e).a 23&&nm (parts e).a==fnName f&&!(fnName f==("":Str))&&oa N kn (fnName f)&&BZ (fnName f)&&(parts e).es.length==xf f&&(parts e).ks.map (·.arg)==(MV f).map some&&zX l kn ((parts e).es++(parts e).ks.map (·.value))&&(parts e).es.all noStar&&!(parts e).es.isEmpty)
noncomputable def KP(m:C9)(x:Ck)(l:List Ck):Ck:=fun kn e=>two (zW e m.name&&(x kn (ob e)).1&&zX l kn (parts e).es&&(parts e).es.all noStar&&!(parts e).es.isEmpty&&yz (ob e)&&decide ((parts e).es.length<20))
noncomputable def TZ(N:Nm)(f:Fn)(x:Ck):Ck:=fun kn e=>two (isFn e f.name&&len (parts e).es 1&&oa N kn f.name&&noStar (hd (parts e).es)&&(x kn (hd (parts e).es)).1)
noncomputable def PO(rep:Bool)(x:Ck):Ck:=fun kn e=>two (ix e 17&&(parts e).lc.isNone&&(parts e).i==(if rep then 114 else -1)&&(x kn (parts e).a).1)
noncomputable def KQ(l:List Ck):Ck:=fun kn e=>two (ix e 18&&zX l kn (parts e).es)
noncomputable def KR(y:Str)(x:Ck):Ck:=fun kn e=>two (ix e 20&&nm e==y&&fieldNames.contains y&&ix (parts e).a 23&&(x kn (parts e).a).1)
noncomputable def tA(e:Expr):Expr:=hd (parts e).es
noncomputable def KS(N:Nm)(kn:Option Nm)(e:Expr)(f g:Str)(n:Nat):Bool:=isFn e f&&len (parts e).es 1&&isFn (tA e) g&&len (parts (tA e)).es n&&oa N kn f&&oa N kn g
noncomputable def ag(e:Expr)(i:Nat):Expr:=(parts (tA e)).es.getD i dE
noncomputable def PQ(N:Nm)(x y:Ck):Ck:=fun kn e=>two (KS N kn e "list" "zip" 2&&noStar (ag e 0)&&noStar (ag e 1)&&(x kn (ag e 0)).1&&(y kn (ag e 1)).1)
noncomputable def KU(N:Nm)(x y:Ck):Ck:=fun kn e=>two (KS N kn e "list" "filter" 2&&ix (ag e 0) 20&&nm (ag e 0)=="__contains__"&&isFn (parts (ag e 0)).a "set"&&len (parts (parts (ag e 0)).a).es 1&&
 oa N kn "set"&&noStar (tA (parts (ag e 0)).a)&&noStar (ag e 1)&&(x kn (tA (parts (ag e 0)).a)).1&&(y kn (ag e 1)).1)
noncomputable def FN(N:Nm)(x y z:Ck)(e:Expr):Bool:=isFn e "suffixed_err"&&len (parts e).es 3&&oa N none "suffixed_err"&&(parts e).es.all noStar&&(x none (hd (parts e).es)).1&&(y none (hd (parts e).es.tail)).1&&(z none (hd (parts e).es.tail.tail)).1
noncomputable def PR(N:Nm)(x y z:Ck):Ck:=fun kn e=>two (kn.isNone&&isFn e "str"&&len (parts e).es 1&&oa N none "str"&&FN N x y z (tA e))
mutual
noncomputable def ck(N:Nm):PE→Ck
 |.var i=>PG N i
 |.cvar j=>Jz j
 |.glob g=>KG N g
 |.a7 d=>KH d
 |.bin op a b=>PH op (ck N a) (ck N b)
 |.cmp op a b=>PJ op (ck N a) (ck N b)
 |.band l=>zY .And (MW N l)
 |.bor l=>zY .Or (MW N l)
 |.sa a=>PK (ck N a)
 |.ite a b c=>PL (ck N a) (ck N b) (ck N c)
 |.list l=>KI (MW N l)
 |.tup l=>PM (MW N l)
 |.sub a b=>PN (ck N a) (ck N b)
 |.slice a b c=>FK (ck N a) (ck N b) (ck N c) (sL b) (sL c)
 |.comp rng j it cond elt=>KJ N rng j (ck N it) (WI N cond) (ck N elt)
 |.call f l=>KL N f (MW N l)
 |.dz m o l=>KP m (ck N o) (MW N l)
 |.fn f a=>TZ N f (ck N a)
 |.fmt r a=>PO r (ck N a)
 |.joined l=>KQ (MW N l)
 |.attr a x=>KR x (ck N a)
 |.entry=>fun _ _=>(false,false)
 |.zip a b=>PQ N (ck N a) (ck N b)
 |.AW a b=>KU N (ck N a) (ck N b)
 |.l9 a b c=>PR N (ck N a) (ck N b) (ck N c)
termination_by structural e=>e
noncomputable def MW(N:Nm):List PE→List Ck
 |[]=>[]
 |p::r=>ck N p::MW N r
termination_by structural l=>l
noncomputable def WI(N:Nm):Option PE→Option Ck
 |none=>none
 |some p=>some (ck N p)
termination_by structural o=>o
end
theorem CF.fr{C:Bc}{K:W.Frag}{fS fI:Addr}(x:CF C K fS fI)(l:List Addr):CF {C with FR:=l} K fS fI:=⟨x.Vx,x.kP,x.get,x.dict,x.attr,x.set,x.over,x.str,x.strFn,x.makes,x.init,x.initFn⟩
theorem TF.fr(x:TF C)(l:List Addr):TF {C with FR:=l}:=⟨x.obj,x.ne⟩
noncomputable def Qc:List (Str×Value):=[("len",.builtin "len"),("str",.type "str"),("int",.type "int"),("range",.type "range"),("list",.type "list"),("zip",.type "zip"),("filter",.type "filter"),("set",.type "set"),("map",.type "map"),("IndexError",.type "IndexError"),("ValueError",.type "ValueError")]
structure Bs(prog:Program)(w:World)(C:Bc)(K:W.Frag)(fS fI:Addr)(G:Gl)(n:Nat):Prop where
 cf:CF C K fS fI
 keep:W.keepIn K (.ref C.EC)=true
 tf:TF C
 T2:C.mg "Entry"=some (.ref C.EC)
 Sa:C.mg "TOMLDecodeError"=some (.ref C.TC)
 init:∃fd body,tW fd body∧∀(l:List Addr) (fz:Fz) (h:Heap),HI {C with FR:=l} fz h→m6 {C with FR:=l} h fI fd
 str:∀f,G.fn 0=some f→∀l:List Addr,qU prog w {C with FR:=l} fS 1 [] n f
 fn:∀f,(fnName f==("":Str))=false→∃a o fd,C.mg (fnName f)=some (.ref a)∧C.B.get? a=some o∧o.data=.func fd∧a≠C.P∧∀F,G.fn f=some F→∀l:List Addr,qU prog w {C with FR:=l} a (xf f) (MV f) n F
 glob:∀g d,G.glob g=some d→∃v,C.mg (sJ g)=some v∧Rep C.EC C.rJ d v
 qQ:∃a o fd,C.mg "suffixed_err"=some (.ref a)∧C.B.get? a=some o∧o.data=.func fd∧a≠C.P∧∀l:List Addr,sI prog w {C with FR:=l} a n G.qQ
 bi:∀x v,(x,v)∈Qc→C.mg x=none∧C.mb x=some v
structure Cx(C:Bc)(N:Nm)(n:Nat)(c:Ac):Prop where
 O:c.Ok
 hA:c.A.handled=none
 hC:c.C={C with FR:=c.C.FR}
 PT:c.env.scope.names=N
 hn:n+3≤c.n
noncomputable def KN:Option Cc→Option Nm→Prop
 |none,none=>True
 |some cc,some cn=>cc.names=cn
 |_,_=>False
variable{prog:Program}{w:World}{C:Bc}{K:W.Frag}{fS fI:Addr}{G:Gl}{n:Nat}{N:Nm}{c:Ac}{k:Option Cc}{kn:Option Nm}
theorem Cx.re(X:Cx C N n c)(O:Ac.Ok {c with h₀:=h₀,bk:=bk,snap:=sn}):Cx C N n {c with h₀:=h₀,bk:=bk,snap:=sn}:=⟨O,X.hA,X.hC,X.PT,X.hn⟩
theorem Cx.mg(X:Cx C N n c):c.C.mg=C.mg:=by rw[X.hC]
theorem Cx.mb(X:Cx C N n c):c.C.mb=C.mb:=by rw[X.hC]
theorem Cx.P(X:Cx C N n c):c.C.P=C.P:=by rw[X.hC]
theorem Cx.B(X:Cx C N n c):c.C.B=C.B:=by rw[X.hC]
theorem Cx.EC(X:Cx C N n c):c.C.EC=C.EC:=by rw[X.hC]
theorem Cx.TC(X:Cx C N n c):c.C.TC=C.TC:=by rw[X.hC]
theorem Cx.rJ(X:Cx C N n c):c.C.rJ=C.rJ:=by rw[X.hC]
theorem Cx.cf(X:Cx C N n c)(B:Bs prog w C K fS fI G n):CF c.C K fS fI:=by rw[X.hC];exact B.cf.fr _
theorem Cx.tf(X:Cx C N n c)(B:Bs prog w C K fS fI G n):TF c.C:=by rw[X.hC];exact B.tf.fr _
theorem Cx.bi(X:Cx C N n c)(B:Bs prog w C K fS fI G n)(h:(x,v)∈Qc):c.C.mg x=none∧c.C.mb x=some v:=by rw[X.mg,X.mb];exact B.bi x v h
theorem oM(X:Cx C N n c)(hk:KN k kn)(h:oa N kn x=true):globK c k x:=by
 have h:=eq_of_beq h;cases k with
 |none=>cases kn with
  |none=>show c.env.scope.names.lookup x=_;rw[X.PT];exact h
  |some _=>exact hk.elim
 |some cc=>cases kn with
  |none=>exact hk.elim
  |some cn=>show cc.names.lookup x=_;rw[show cc.names=cn from hk];exact h
theorem xg(X:Cx C N n c)(h:oa N none x=true):globK c none x:=oM (k:=none) (kn:=none) X trivial h
theorem m9(h:BZ x=true):(x==("__debug__":Str))=false:=dZ _ |>.mp h
variable(prog w C n N) in
noncomputable def PU(kn:Option Nm)(e:Expr)(ev:St→Mo D):Prop:=∀c k,Cx C N n c→KN k kn→dc c k→aj prog w c k e ev
variable(prog w C n N) in
noncomputable def Y8(kn:Option Nm)(e:Expr)(et:St→Mo Bool):Prop:=∀c k,Cx C N n c→KN k kn→dc c k→gk prog w c k e et
variable(prog w C n N) in
noncomputable def q0(kn:Option Nm)(e:Expr)(b:Bool×Bool)(ev:Ev):Prop:=(b.1=true→PU prog w C n N kn e ev.1)∧(b.2=true→Y8 prog w C n N kn e ev.2)
theorem q0.no:q0 prog w C n N kn e (false,false) ev:=⟨fun h=>(nomatch h),fun h=>(nomatch h)⟩
noncomputable def Plain(e:Expr):Prop:=∀env whole,isTrue e env whole=(do let v ←whole;standAt e.pos;holding [v] (truthy v))
theorem q0.B0(he:b=true→e=e')(h:b=true→PU prog w C n N kn e' ev)(pl:Plain e'):q0 prog w C n N kn e (two b) (Mine.Internal.val ev):=
 ⟨fun hb=>(he hb).symm▸h hb,fun hb=>(he hb).symm▸fun c k X hk hc=>l5 X.O hc (h hb c k X hk hc) pl⟩
theorem q0.pair(he:(b1||b2)=true→e=e')(h1:b1=true→PU prog w C n N kn e' ev)(h2:b2=true→Y8 prog w C n N kn e' et):q0 prog w C n N kn e (b1,b2) (ev,et):=
 ⟨fun hb=>(he (hb▸Bool.true_or b2)).symm▸h1 hb,fun hb=>(he (hb▸kJ b1)).symm▸h2 hb⟩
theorem B1{α β:Type}{P:α→β→Prop}{as ZR:List α}:∀{bs:List β},lI P (as++ZR) bs→∃b1 b2,bs=b1++b2∧lI P as b1∧lI P ZR b2:=by
 induction as with
 |nil=>exact fun{bs} h=>⟨[],bs,rfl,trivial,h⟩
 |cons a as ih=>
  intro bs h;cases bs with
  |nil=>exact h.elim
  |cons b bs=>
   refine sz (ih h.2) fun b1 b2 e h1 h2=>?_;exact⟨b::b1,b2,congrArg _ e,⟨h.1,h1⟩,h2⟩
theorem KV(X:Cx C N n c)(h:Dp N sc=true):rd c.env sc:=by
 simp only[Dp,cG,decide_eq_true_eq] at h;obtain⟨⟨h1,h2⟩,h3⟩:=h;simp only[freeOk,bQ,cG,bne_iff_ne,ne_eq,Bool.or_eq_true,beq_iff_eq] at h3;refine⟨h1,h2,fun y hy=>(h3 y hy).1,fun m hm=>?_⟩;rw[X.PT];rcases(h3 _ hm).2 with q|q
 ·exact absurd rfl q
 ·exact q
end Mine.Internal
namespace Mine.Internal
open PySem PyProof.Rows
variable{prog:Program}{w:World}{C:Bc}{K:W.Frag}{fS fI:Addr}{G:Gl}{n:Nat}{N:Nm}{kn:Option Nm}
variable(prog w C n N) in
noncomputable def SC(x:Ck)(ev:Ev):Prop:=∀kn e,q0 prog w C n N kn e (x kn e) ev
variable(prog w C n N) in
noncomputable def Y9(kn:Option Nm)(es:List Expr)(evs:List Ev):Prop:=∀c k,Cx C N n c→KN k kn→dc c k→eg prog w c k es evs
noncomputable def fT(l:List Ev):List Ev:=l.map fun e=>(e.1,fun _=>none)
noncomputable def fV(l:List Ev):List Ev:=l.map fun e=>(fun _=>none,e.2)
theorem tm(l:List Ev):fe (fT l)=fe l:=by
 induction l with
 |nil=>rfl
 |cons e l ih=>funext σ;exact congrArg (fun m=>Mo.bind (e.1 σ) fun x σ=>(m σ).bind fun xs σ=>.ok (x::xs) σ) ih
theorem FP:∀l:List Ev,AZ (fT l)=AZ l
 |[]=>rfl
 |[e]=>rfl
 |e::e'::l=>by funext σ;show Mo.bind (e.1 σ) (fun x σ=>(qc x σ).bind fun c σ=>if c then AZ (fT (e'::l)) σ else _)=_;rw[FP (e'::l)];rfl
theorem KW:∀l:List Ev,Ou (fT l)=Ou l
 |[]=>rfl
 |[e]=>rfl
 |e::e'::l=>by funext σ;show Mo.bind (e.1 σ) (fun x σ=>(qc x σ).bind fun c σ=>if c then _ else Ou (fT (e'::l)) σ)=_;rw[KW (e'::l)];rfl
theorem NP(l:List Ev):A0 (fV l)=A0 l:=by
 induction l with
 |nil=>rfl
 |cons e l ih=>funext σ;show Mo.bind (e.2 σ) (fun c σ=>if c then A0 (fV l) σ else _)=_;rw[ih];rfl
theorem Qd(l:List Ev):Ov (fV l)=Ov l:=by
 induction l with
 |nil=>rfl
 |cons e l ih=>funext σ;show Mo.bind (e.2 σ) (fun c σ=>if c then _ else Ov (fV l) σ)=_;rw[ih];rfl
theorem zZ{es:List Expr}(h:(!es.isEmpty)=true):es=hd es::es.tail:=by
 cases es with
 |nil=>cases h
 |cons e es=>rfl
theorem me:∀{evs:List Ev},lI (SC prog w C n N) xs evs→∀{es:List Expr},zX xs kn es=true→Y9 prog w C n N kn es (fT evs):=by
 induction xs with
 |nil=>
  intro evs S es h;cases evs with
  |nil=>rw[cM.mp h];exact fun _ _ _ _ _=>trivial
  |cons=>exact S.elim
 |cons x xs ih=>
  intro evs S es h;cases evs with
  |nil=>exact S.elim
  |cons ev evs=>rw[zZ (a1 (a1 h))];exact fun c k X hk hc=>⟨⟨(S.1 _ _).1 (a2 (a1 h)) c k X hk hc,fun _ _ _ _ _ _ h=>nS h⟩,ih S.2 (a2 h) c k X hk hc⟩
theorem FQ:∀{evs:List Ev},lI (SC prog w C n N) xs evs→∀{es:List Expr},Qb xs kn es=true→Y9 prog w C n N kn es (fV evs):=by
 induction xs with
 |nil=>
  intro evs S es h;cases evs with
  |nil=>rw[cM.mp h];exact fun _ _ _ _ _=>trivial
  |cons=>exact S.elim
 |cons x xs ih=>
  intro evs S es h;cases evs with
  |nil=>exact S.elim
  |cons ev evs=>rw[zZ (a1 (a1 h))];exact fun c k X hk hc=>⟨⟨fun _ _ _ _ _ _ h=>nS h,(S.1 _ _).2 (a2 (a1 h)) c k X hk hc⟩,ih S.2 (a2 h) c k X hk hc⟩
section
variable{x y z:Ck}{ex ey ez:Ev}{xs:List Ck}{evs:List Ev}
theorem T3{i:Nat}{x:Str}(h:(N[i]?.map (·.1)==some x)=true):∃kd,N[i]?=some (x,kd):=by
 obtain⟨⟨y,kd⟩,h1,h2⟩:=aR.mp (eq_of_beq h);cases h2;exact⟨kd,h1⟩
theorem NQ{i:Nat}:SC prog w C n N (PG N i) (iz i,peek i):=fun kn e=>by
 cases kn with
 |none=>
  refine q0.pair (e':=.Name (nm e) (parts e).p) (fun h=>gf (a1 (a1 ((Bool.or_self _).symm.trans h)))) (fun h c k X hk hc=>?_) (fun h c k X hk hc=>?_)
  all_goals
   obtain⟨kd,h1⟩:=T3 (a2 (a1 h));rw[←X.PT] at h1;cases k with
   |some _=>exact hk.elim
   |none=>first|exact pw X.O h1 (m9 (a2 h))|exact qk X.O h1 (m9 (a2 h))
 |some cn=>
  refine q0.pair (e':=.Name (nm e) (parts e).p) (fun h=>gf (a1 (a1 (a1 ((Bool.or_false _).symm.trans h))))) (fun h c k X hk hc=>?_) fun h=>(nomatch h);cases k with
  |none=>exact hk.elim
  |some cc=>exact ve X.O hc (X.PT▸eq_of_beq (a2 (a1 (a1 h)))) ((show cc.names=cn from hk)▸eq_of_beq (a2 (a1 h))) (m9 (a2 h))
theorem KX:SC prog w C n N (Jz j) (Mine.Internal.val (JL j)):=fun kn e=>q0.B0 (e':=.Name (nm e) (parts e).p) (fun h=>gf (a2 (a1 (a1 h)))) (fun h c k X hk hc=>by
 cases kn with
 |none=>cases a1 (a1 (a1 h))
 |some cn=>
  cases k with
  |none=>exact hk.elim
  |some cc=>exact Cf hc ((show cc.names=cn from hk)▸eq_of_beq (a2 (a1 h))) (m9 (a2 h))) fun _ _=>rfl
theorem KY(B:Bs prog w C K fS fI G n):SC prog w C n N (KG N g) (Mine.Internal.val fun σ=>.of ((G.glob g).map .ok) σ):=fun kn e=>q0.B0 (e':=.Name (nm e) (parts e).p) (fun h=>gf (a1 (a1 (a1 h)))) (fun h c k X hk hc=>by
 cases hg:G.glob g with
 |none=>exact fun fz s σ r σ' I h=>nS h
 |some d=>
  refine aq (B.glob g d hg) fun v e1 r=>?_;exact Cg X.O hc (oM X hk (a2 (a1 h))) (by rw[X.mg,eq_of_beq (a2 (a1 (a1 h)))];exact e1) (d:=d) (by rw[X.EC];exact Rep.mono (X.rJ▸X.O.rJ) _ _ r) (m9 (a2 h)) fun e he=>(aL he).symm) fun _ _=>rfl
theorem T4(h:(constOk d q).isSome=true):Ci q d:=((constOk d q).get h).2
theorem NR(h:isInt d q=true):∃m,q=.int m∧d=.int (-m):=((TX d q).get h).2
theorem KZ:SC prog w C n N (KH d) (Mine.Internal.val fun σ=>Mo.ok d σ):=fun kn e=>by
 have T:WG d e=true→e=.Constant (parts e).q (parts e).n (parts e).p∧PU prog w C n N kn (.Constant (parts e).q (parts e).n (parts e).p) (fun σ=>Mo.ok d σ):=fun h=>
  ⟨jx (a1 h),fun c k X hk hc=>nx X.O hc (T4 (a2 h))⟩
 refine⟨fun h=>?_,fun h=>(T h).1.symm▸fun c k X hk hc=>l5 X.O hc ((T h).2 c k X hk hc) fun _ _=>rfl⟩;rcases gT.mp h with h|h
 ·exact(T h).1.symm▸(T h).2
 ·refine aq (NR (a2 h)) fun m e1 e2=>?_
  have h1:e=.UnaryOp (parts e).u (parts e).a (parts e).p:=jx (a1 (a1 (a1 h)));have h2:(parts e).a=.Constant (parts (parts e).a).q (parts (parts e).a).n (parts (parts e).a).p:=jx (a2 (a1 h));rw[e1] at h2;rw[eq_of_beq (a2 (a1 (a1 h))),h2] at h1;rw[h1,e2];exact fun c k X hk hc=>H5 (n:=0) X.O hc
theorem NS(hx:SC prog w C n N x ex)(hy:SC prog w C n N y ey):SC prog w C n N (PH op x y) (Mine.Internal.val fun σ=>(ex.1 σ).bind fun a σ=>(ey.1 σ).bind fun b σ=>.of (rP op a b) σ):=fun kn e=>
 q0.B0 (e':=.BinOp (parts e).a op.op (parts e).b (parts e).p) (fun h=>eq_of_beq (a2 (a1 (a1 h)))▸jx (a1 (a1 (a1 h)))) (fun h c k X hk hc=>HB X.O hc ((hx kn _).1 (a2 (a1 h)) c k X hk hc) ((hy kn _).1 (a2 h) c k X hk hc)) fun _ _=>rfl
theorem NT(hx:SC prog w C n N x ex)(hy:SC prog w C n N y ey):SC prog w C n N (PJ op x y) (Mine.Internal.val fun σ=>(ex.1 σ).bind fun a σ=>(ey.1 σ).bind fun b σ=>.of (u7 op a b) σ):=fun kn e=>
 q0.pair (e':=.Compare (parts e).a [op.op] [hd (parts e).es] (parts e).p) (fun h=>by
  have h:=(Bool.or_self _).symm.trans h;have h1:e=.Compare (parts e).a (parts e).os (parts e).es (parts e).p:=jx (a1 (a1 (a1 (a1 (a1 h)))));exact h1.trans (by rw[eq_of_beq (a2 (a1 (a1 (a1 (a1 h)))))];exact congrArg (fun l=>Expr.Compare (parts e).a [op.op] l (parts e).p) (qr (a2 (a1 (a1 (a1 h)))))))
  (fun h c k X hk hc=>HC X.O hc ((hx kn _).1 (a2 (a1 h)) c k X hk hc) ((hy kn _).1 (a2 h) c k X hk hc) ((dZ _).mp (a2 (a1 (a1 h)))))
  (fun h c k X hk hc=>Cj X.O hc ((hx kn _).1 (a2 (a1 h)) c k X hk hc) ((hy kn _).1 (a2 h) c k X hk hc) ((dZ _).mp (a2 (a1 (a1 h)))))
theorem K1(h:(ix e 0&&(parts e).bo==o&&b1||ix e 0&&(parts e).bo==o&&b2)=true):e=.BoolOp o (parts e).es (parts e).p:=by
 have h1:(ix e 0&&(parts e).bo==o)=true:=(gT.mp h).elim a1 a1;exact eq_of_beq (a2 h1)▸jx (a1 h1)
theorem K2(S:lI (SC prog w C n N) xs evs):SC prog w C n N (zY .And xs) (AZ evs,A0 evs):=fun kn e=>q0.pair K1
 (fun h c k X hk hc=>FP evs▸Cm X.O hc (me S (a2 h) c k X hk hc)) (fun h c k X hk hc=>NP evs▸A8 (FQ S (a2 h) c k X hk hc))
theorem NU(S:lI (SC prog w C n N) xs evs):SC prog w C n N (zY .Or xs) (Ou evs,Ov evs):=fun kn e=>q0.pair K1
 (fun h c k X hk hc=>KW evs▸HD X.O hc (me S (a2 h) c k X hk hc)) (fun h c k X hk hc=>Qd evs▸Cn (FQ S (a2 h) c k X hk hc))
theorem K3(hx:SC prog w C n N x ex):SC prog w C n N (PK x) (f,fun σ=>(ex.2 σ).bind fun c σ=>.ok (!c) σ):=fun kn e=>
 q0.pair (e':=.UnaryOp .Not (parts e).a (parts e).p) (fun h=>eq_of_beq (a2 (a1 h))▸jx (a1 (a1 h))) (fun h=>(nomatch h)) fun h c k X hk hc=>Co ((hx kn _).2 (a2 h) c k X hk hc)
theorem NV(hx:SC prog w C n N x ex)(hy:SC prog w C n N y ey)(hz:SC prog w C n N z ez):SC prog w C n N (PL x y z) (fun σ=>(ex.2 σ).bind fun b σ=>if b then ey.1 σ else ez.1 σ,fun σ=>(ex.2 σ).bind fun b σ=>if b then ey.2 σ else ez.2 σ):=fun kn e=>
 q0.pair (e':=.IfExp (parts e).a (parts e).b (parts e).d (parts e).p) (fun h=>jx ((gT.mp h).elim (fun h=>a1 (a1 (a1 h))) fun h=>a1 (a1 (a1 h))))
  (fun h c k X hk hc=>HE ((hx kn _).2 (a2 (a1 (a1 h))) c k X hk hc) ((hy kn _).1 (a2 (a1 h)) c k X hk hc) ((hz kn _).1 (a2 h) c k X hk hc))
  fun h c k X hk hc=>Cp ((hx kn _).2 (a2 (a1 (a1 h))) c k X hk hc) ((hy kn _).2 (a2 (a1 h)) c k X hk hc) ((hz kn _).2 (a2 h) c k X hk hc)
theorem K4(S:lI (SC prog w C n N) xs evs):SC prog w C n N (KI xs) (Mine.Internal.val fun σ=>(fe evs σ).bind jt):=fun kn e=>
 q0.B0 (e':=.List (parts e).es (parts e).p) (fun h=>jx (a1 (a1 h))) (fun h c k X hk hc=>tm evs▸Cq X.O hc (me S (a2 (a1 h)) c k X hk hc) (a2 h)) fun _ _=>rfl
theorem NW(S:lI (SC prog w C n N) xs evs):SC prog w C n N (PM xs) (Mine.Internal.val fun σ=>(fe evs σ).bind rS):=fun kn e=>
 q0.B0 (e':=.Tuple (parts e).es (parts e).n (parts e).p) (fun h=>jx (a1 (a1 h))) (fun h c k X hk hc=>tm evs▸HF X.O hc (me S (a2 (a1 h)) c k X hk hc) (a2 h)) fun _ _=>rfl
theorem NX(hx:SC prog w C n N x ex)(hy:SC prog w C n N y ey):SC prog w C n N (PN x y) (Mine.Internal.val fun σ=>(ex.1 σ).bind fun a σ=>(ey.1 σ).bind fun b σ=>.of (tB a b) σ):=fun kn e=>
 q0.B0 (e':=.Subscript (parts e).a (parts e).b (parts e).p) (fun h=>jx (a1 (a1 (a1 h)))) (fun h c k X hk hc=>HG X.O hc X.hA ((hx kn _).1 (a2 (a1 (a1 h))) c k X hk hc) ((hy kn _).1 (a2 (a1 h)) c k X hk hc) ((dZ _).mp (a2 h))) fun _ _=>rfl
theorem FT(hx:SC prog w C n N x (bo G p))(h:Dq (sL p) x kn o=true)(X:Cx C N n c)(hk:KN k kn)(hc:dc c k):yv prog w c k o (bo G p).1:=by
 cases o with
 |some e=>exact(hx kn _).1 h c k X hk hc
 |none=>
  obtain⟨⟨_,rfl⟩,_⟩:=eU.mp h;rfl
theorem Hl(hx:SC prog w C n N x ex)(hy:SC prog w C n N y (bo G b))(hz:SC prog w C n N z (bo G d)):SC prog w C n N (FK x y z (sL b) (sL d)) (Mine.Internal.val fun σ=>(ex.1 σ).bind fun a σ=>((bo G b).1 σ).bind fun l σ=>((bo G d).1 σ).bind fun h σ=>.of (km a l h) σ):=fun kn e=>
 q0.B0 (e':=.Subscript (parts e).a (.Slice (parts (parts e).b).la (parts (parts e).b).lb none (parts (parts e).b).p) (parts e).p) (fun h=>by
  have h1:(parts e).b=.Slice (parts (parts e).b).la (parts (parts e).b).lb (parts (parts e).b).lc (parts (parts e).b).p:=jx (a2 (a1 (a1 (a1 (a1 h)))));rw[fW.mp (a2 (a1 (a1 (a1 h))))] at h1;have h2:e=.Subscript (parts e).a (parts e).b (parts e).p:=jx (a1 (a1 (a1 (a1 (a1 h)))));exact h2.trans (congrArg (fun t=>Expr.Subscript (parts e).a t (parts e).p) h1))
  (fun h c k X hk hc=>Aa X.O hc ((hx kn _).1 (a2 (a1 (a1 h))) c k X hk hc) (FT hy (a2 (a1 h)) X hk hc) (FT hz (a2 h) X hk hc)) fun _ _=>rfl
end
end Mine.Internal
namespace Mine.Internal
open PySem PyProof.Rows
variable{prog:Program}{w:World}{C:Bc}{K:W.Frag}{fS fI:Addr}{G:Gl}{n:Nat}{N:Nm}{kn:Option Nm}
variable{x y z:Ck}{ex ey ez:Ev}{xs:List Ck}{evs:List Ev}
theorem jm{i:Nat}{q:Str×Value}(h:Qc[i]?=some q):q∈Qc:=iR h
theorem Cx.at{c:Ac}(X:Cx C N n c)(O:(c.at h₀ bk).Ok):Cx C N n (c.at h₀ bk):=⟨O,X.hA,X.hC,X.PT,X.hn⟩
theorem PU.at(h:PU prog w C n N kn e ev)(X:Cx C N n c)(hk:KN k kn):Mine.Internal.SV prog w c k e ev:=fun h₀ bk O KO=>h _ _ (X.at O) hk KO
theorem PU.v(h:PU prog w C n N none e ev)(X:Cx C N n c):aj prog w c none e ev:=h c none X trivial trivial
theorem B2(B:Bs prog w C K fS fI G n)(hx:SC prog w C n N x ex){rng:Bool}{it:Expr}(h:WH N rng x it=true){c:Ac}(X:Cx C N n c):rg prog w c it rng ex.1:=by
 cases rng with
 |false=>exact zG X.O X.hA (((hx none it).1 h).v X)
 |true=>
  have hb:=X.bi B (jm (i:=3) rfl);exact(yR (a1 (a1 (a1 (a1 h)))) (a2 (a1 (a1 (a1 h))))).symm▸x4 X.O X.hA (xg X (a2 (a1 (a1 h)))) hb.1 hb.2 (a2 (a1 h)) (((hx none _).1 (a2 h)).v X)
noncomputable def WJ(prog:Program)(w:World)(C:Bc)(n:Nat)(N:Nm)(x:Option Ck)(f:St→Mo Bool):Prop:=(x=none∧f=fun σ=>.ok true σ)∨∃x' ev,x=some x'∧f=ev.2∧SC prog w C n N x' ev
noncomputable def PV(e:Expr):Expr:=.ListComp (parts e).a [⟨.Name (nm (gen e).target) (parts (gen e).target).p,(gen e).iter,(gen e).ifs,0⟩] (parts e).s (parts e).p
theorem T5(h:((parts e).gs.length==1)=true):(parts e).gs=[gen e]:=by
 obtain⟨g,hg⟩:=gE.mp (eq_of_beq h);unfold gen;rw[hg];rfl
theorem NY(g:iF):g=⟨g.target,g.iter,g.ifs,g.is_async⟩:=by cases g;rfl
theorem Qe(h1:ix e 8=true)(h2:((parts e).gs.length==1)=true)(h3:((gen e).is_async==0)=true)(h4:ix (gen e).target 23=true):e=PV e:=by
 have e1:e=.ListComp (parts e).a (parts e).gs (parts e).s (parts e).p:=jx h1;have e2:gen e=⟨.Name (nm (gen e).target) (parts (gen e).target).p,(gen e).iter,(gen e).ifs,0⟩:=(NY _).trans<|(congrArg (fun i=>iF.mk (gen e).target (gen e).iter (gen e).ifs i) (eq_of_beq h3)).trans (congrArg (fun t=>iF.mk t (gen e).iter (gen e).ifs 0) (gf h4));exact e1.trans (congrArg (fun l=>Expr.ListComp (parts e).a l (parts e).s (parts e).p) ((T5 h2).trans (congrArg (fun g=>[g]) e2)))
section
variable{rng:Bool}{j:Nat}{cond:Option Ck}{fc:St→Mo Bool}{e:Expr}
theorem FU(h:FL N rng j x cond y e=true):e=PV e:=let h:=a1 (a1 (a1 (a1 (a1 (a1 h)))));Qe (a1 (a1 (a1 h))) (a2 (a1 (a1 h))) (a2 (a1 h)) (a2 h)
theorem FW(B:Bs prog w C K fS fI G n)(hx:SC prog w C n N x ex)(hc:WJ prog w C n N cond fc)(hy:SC prog w C n N y ey)(h:FL N rng j x cond y e=true)(X:Cx C N n c):
 tT prog w c (parts e).a (gen e).iter (nm (gen e).target) (gen e).ifs (parts e).s j rng ex.1 fc ey.1:=by
 have h1:=a1 h;have h2:=a1 h1;have h3:=a1 h2;refine⟨KV X (a2 (a1 (a1 h3))),eq_of_beq (a2 (a1 h3)),a2 h3,B2 B hx (a2 h2) X,fun C'=>((hy _ _).1 (a2 h)).at X rfl,fun C'=>?_⟩;rcases hc with ⟨rfl,rfl⟩|⟨x',ev,rfl,rfl,AF⟩
 ·exact .inl ⟨cM.mp (a2 h1),rfl⟩
 ·exact .inr ⟨_,qr (a1 (a2 h1)),fun h₀ bk O KO=>(AF _ _).2 (a2 (a2 h1)) _ _ (X.at O) rfl KO⟩
theorem K5(B:Bs prog w C K fS fI G n)(hx:SC prog w C n N x ex)(hc:WJ prog w C n N cond fc)(hy:SC prog w C n N y ey):
 SC prog w C n N (KJ N rng j x cond y) (Mine.Internal.val fun σ=>(ex.1 σ).bind (uN rng j fc ey.1)):=fun kn e=>q0.B0 (fun h=>FU (a2 h)) (fun h c k X hk hkc=>by
 cases kn with
 |some _=>cases a1 h
 |none=>
  cases k with
  |some _=>exact hk.elim
  |none=>exact DP X.O (FW B hx hc hy (a2 h) X)) fun _ _=>rfl
end
theorem Qf:∃F:List D→Option (R D),(∀xs σ,lh G f xs σ=.of (F xs) σ)∧∀(l:List Addr) (ad:Addr),(∀F',G.fn f=some F'→qU prog w {C with FR:=l} ad (xf f) (MV f) n F')→qU prog w {C with FR:=l} ad (xf f) (MV f) n F:=by
 cases hF:G.fn f with
 |none=>exact⟨fun _=>none,fun xs σ=>by unfold lh;rw[hF];rfl,fun l ad _ A outer fz s vs ds r _ _ _ _ _ _ _ _ _ q=>nS q⟩
 |some F=>exact⟨F,fun xs σ=>by unfold lh;rw[hF];rfl,fun l ad h=>h F rfl⟩
theorem K6(B:Bs prog w C K fS fI G n)(S:lI (SC prog w C n N) xs evs):SC prog w C n N (KL N f xs) (Mine.Internal.val fun σ=>(fe evs σ).bind (lh G f)):=fun kn e=>
 q0.B0 (e':=.Call (.Name (fnName f) (parts (parts e).a).p) (parts e).es (parts e).ks (parts e).p) (fun h=>by
  have h:=a1 (a1 (a1 (a1 (a1 (a1 (a1 (a1 h)))))));have h1:e=.Call (parts e).a (parts e).es (parts e).ks (parts e).p:=jx (a1 (a1 h));exact h1.trans (congrArg (fun t=>Expr.Call t (parts e).es (parts e).ks (parts e).p) ((gf (a2 (a1 h))).trans (congrArg (fun x=>Expr.Name x (parts (parts e).a).p) (eq_of_beq (a2 h))))))
 (fun h c k X hk hc=>by
  have h1:=a1 h;have h2:=a1 h1;have h3:=a1 h2;have h4:=a1 h3;have h5:=a1 h4;obtain⟨ad,o,fd,m1,m2,m3,m4,spec⟩:=B.fn f ((dZ _).mp (a2 (a1 (a1 h5))));refine sz (B1 (me S (a2 h2) c k X hk hc)) fun e1 e2 he s1 s2=>?_;refine aq (Qf (prog:=prog) (w:=w) (C:=C) (G:=G) (n:=n) (f:=f)) fun F hF sp=>?_;have e0:(fun σ=>(fe evs σ).bind (lh G f))=fun σ=>(fe (e1++e2) σ).bind fun xs σ=>.of (F xs) σ:=by
   rw[←tm,he,funext fun xs=>funext (hF xs)]
  rw[e0];exact Ct X.O hc X.hA (kn:=MV f) (oM X hk (a2 (a1 h5))) (m9 (a2 h5)) (X.mg▸m1) (X.B▸m2) m3 (X.P▸m4) (n:=n) (by rw[X.hC,eq_of_beq (a2 h4)];exact sp _ _ fun F' h=>spec F' h _) (aG (aP _ 3) X.hn) s1 s2 (a2 h1) (fun q=>by have:=a2 h;rw[q] at this;cases this) (eq_of_beq (a2 h3)))
 fun _ _=>rfl
theorem ne_nil{l:List Expr}(h:(!l.isEmpty)=true):l≠[]:=zZ h▸List.cons_ne_nil _ _
theorem yS{y:Str}(h:zW e y=true):((parts (parts e).a).p.endLine==(parts e).p.line)=true:=a2 h
theorem K7(hx:SC prog w C n N x ex)(S:lI (SC prog w C n N) xs evs):SC prog w C n N (KP m x xs) (Mine.Internal.val fun σ=>(ex.1 σ).bind fun a σ=>(au (fe evs σ)).bind fun ys σ=>.of (iq m a ys) σ):=fun kn e=>
 q0.B0 (fun h=>Jy (a1 (a1 (a1 (a1 (a1 (a1 h))))))) (fun h c k X hk hc=>
  have h1:=a1 (a1 h);have h2:=a1 (a1 h1);have hs:=DG X.O hc (fun _=>X.hA) ((hx kn _).1 (a2 (a1 h2)) c k X hk hc) (me S (a2 h2) c k X hk hc) (a2 (a1 h1)) (ne_nil (a2 h1)) (a2 (a1 h)) (of_decide_eq_true (a2 h)) (yS (a1 (a1 h2)))
  tm evs▸hs) fun _ _=>rfl
theorem Qg(B:Bs prog w C K fS fI G n)(hx:SC prog w C n N x ex):SC prog w C n N (TZ N f x) (Mine.Internal.val fun σ=>(ex.1 σ).bind (Ot G f)):=fun kn e=>
 q0.B0 (fun h=>yR (a1 (a1 (a1 (a1 h)))) (a2 (a1 (a1 (a1 h))))) (fun h c k X hk hc=>by
  have hg:=oM X hk (a2 (a1 (a1 h)));have hs:=(hx kn _).1 (a2 h) c k X hk hc;have h3:=a2 (a1 h);clear h;cases f with
  |len=>have hb:=X.bi B (jm (i:=0) rfl);exact HJ X.O hc hg hb.1 hb.2 h3 hs
  |int=>have hb:=X.bi B (jm (i:=2) rfl);exact HK X.O hc hg hb.1 hb.2 h3 hs
  |str=>have hb:=X.bi B (jm (i:=1) rfl);exact HH X.O hc (X.cf B) X.hA (n:=n) (fun f hf=>by rw[X.hC];exact B.str f hf _) (aG (bI (by decide) n) X.hn) hg hb.1 hb.2 h3 hs) fun _ _=>rfl
theorem NZ(hx:SC prog w C n N x ex):SC prog w C n N (PO rep x) (Mine.Internal.val fun σ=>(ex.1 σ).bind fun a σ=>.of (mr rep a) σ):=fun kn e=>
 q0.B0 (e':=.FormattedValue (parts e).a (if rep then 114 else -1) none (parts e).p) (fun h=>by
  have h1:e=.FormattedValue (parts e).a (parts e).i (parts e).lc (parts e).p:=jx (a1 (a1 (a1 h)));rw[fW.mp (a2 (a1 (a1 h))),eq_of_beq (a2 (a1 h))] at h1;exact h1) (fun h c k X hk hc=>by
  have hs:=(hx kn _).1 (a2 h) c k X hk hc;clear h;cases rep with
  |true=>exact DB X.O hc hs
  |false=>exact tL X.O hc hs) fun _ _=>rfl
theorem Dr(S:lI (SC prog w C n N) xs evs):SC prog w C n N (KQ xs) (Mine.Internal.val fun σ=>(au (fe evs σ)).bind fun ys σ=>.of (lW ys) σ):=fun kn e=>
 q0.B0 (e':=.JoinedStr (parts e).es (parts e).p) (fun h=>jx (a1 h)) (fun h c k X hk hc=>tm evs▸r5 X.O hc (me S (a2 h) c k X hk hc)) fun _ _=>rfl
theorem K8(B:Bs prog w C K fS fI G n){y:Str}(hx:SC prog w C n N x ex):SC prog w C n N (KR y x) (Mine.Internal.val fun σ=>(ex.1 σ).bind fun d σ=>.of (rQ d y) σ):=fun kn e=>
 q0.B0 (e':=.Attribute (.Name (nm (parts e).a) (parts (parts e).a).p) y (parts e).p) (fun h=>by
  have h1:e=.Attribute (parts e).a (nm e) (parts e).p:=jx (a1 (a1 (a1 (a1 h))));exact h1.trans (eq_of_beq (a2 (a1 (a1 (a1 h))))▸congrArg (fun t=>Expr.Attribute t (nm e) (parts e).p) (gf (a2 (a1 h)))))
  (fun h c k X hk hc=>Cv X.O hc (X.cf B) (fJ.mp (a2 (a1 (a1 h)))) (gf (a2 (a1 h))▸(hx kn _).1 (a2 h) c k X hk hc)) fun _ _=>rfl
noncomputable def Qh(e:Expr)(f g:Str)(es:List Expr):Expr:=C2 e f [C2 (tA e) g es]
theorem FX(h:KS N kn e f g 2=true):e=Qh e f g [ag e 0,ag e 1]:=by
 have h:=a1 (a1 h);refine(yR (a1 (a1 (a1 h))) (a2 (a1 (a1 h)))).trans (congrArg (fun t=>C2 e f [t]) ((PD (a2 (a1 h)) (a2 h)).trans (congrArg (C2 (tA e) g) ?_)));unfold ag;generalize (parts (tA e)).es=l
 match l with
 |[]=>rfl
 |[a]=>rfl
 |a::b::l=>rfl
theorem N0(B:Bs prog w C K fS fI G n)(hx:SC prog w C n N x ex)(hy:SC prog w C n N y ey):SC prog w C n N (PQ N x y) (Mine.Internal.val fun σ=>(ex.1 σ).bind fun a σ=>(ey.1 σ).bind fun b σ=>.of (Gv a b) σ):=fun kn e=>
 q0.B0 (fun h=>FX (a1 (a1 (a1 (a1 h))))) (fun h c k X hk hc=>
  have h2:=a1 (a1 h);have h3:=a1 (a1 h2);have l1:=X.bi B (jm (i:=4) rfl);have l2:=X.bi B (jm (i:=5) rfl)
  Hb X.O hc X.hA (oM X hk (a2 (a1 h3))) l1.1 l1.2 (oM X hk (a2 h3)) l2.1 l2.2 (a2 (a1 h2)) (a2 h2) ((hx kn _).1 (a2 (a1 h)) c k X hk hc) ((hy kn _).1 (a2 h) c k X hk hc)) fun _ _=>rfl
theorem K9(B:Bs prog w C K fS fI G n)(hx:SC prog w C n N x ex)(hy:SC prog w C n N y ey):SC prog w C n N (KU N x y) (Mine.Internal.val fun σ=>(ex.1 σ).bind fun a σ=>(au (ey.1 σ)).bind fun b σ=>.of (yB a b) σ):=fun kn e=>
 q0.B0 (e':=Qh e "list" "filter" [.Attribute (C2 (parts (ag e 0)).a "set" [tA (parts (ag e 0)).a]) "__contains__" (parts (ag e 0)).p,ag e 1]) (fun h=>by
  have h:=a1 (a1 (a1 (a1 (a1 h))));have h1:=a1 (a1 h);have e1:ag e 0=.Attribute (parts (ag e 0)).a (nm (ag e 0)) (parts (ag e 0)).p:=jx (a2 (a1 h1));rw[eq_of_beq (a2 h1),yR (a2 (a1 h)) (a2 h)] at e1;exact(FX (a1 (a1 h1))).trans (congrArg (fun t=>Qh e "list" "filter" [t,ag e 1]) e1)) (fun h c k X hk hc=>
  have h2:=a1 (a1 h);have h3:=a1 (a1 h2);have h4:=a1 (a1 (a1 (a1 (a1 h3))));have l1:=X.bi B (jm (i:=4) rfl);have l2:=X.bi B (jm (i:=6) rfl);have l3:=X.bi B (jm (i:=7) rfl)
  De X.O hc X.hA (oM X hk (a2 (a1 h4))) l1.1 l1.2 (oM X hk (a2 h4)) l2.1 l2.2 (oM X hk (a2 h3)) l3.1 l3.2 (a2 (a1 h2)) (a2 h2) ((hx kn _).1 (a2 (a1 h)) c k X hk hc) (((hy kn _).1 (a2 h)).at X hk)) fun _ _=>rfl
noncomputable def N1(e:Ev):Ev:=(e.1,fun _=>none)
noncomputable def T6(e:Expr):Expr:=C2 e "suffixed_err" [hd (parts e).es,hd (parts e).es.tail,hd (parts e).es.tail.tail]
theorem PW(h:FN N x y z e=true):e=T6 e:=let h:=a1 (a1 (a1 (a1 (a1 h))));TV (a1 h) (a2 h)
theorem Ka(B:Bs prog w C K fS fI G n){c:Ac}(X:Cx C N n c):∃ad o fd,c.C.mg "suffixed_err"=some (.ref ad)∧c.C.B.get? ad=some o∧o.data=.func fd∧ad≠c.C.P∧sI prog w c.C ad n G.qQ:=by
 obtain⟨ad,o,fd,m1,m2,m3,m4,spec⟩:=B.qQ;exact⟨ad,o,fd,X.mg▸m1,X.B▸m2,m3,X.P▸m4,X.hC▸spec _⟩
theorem B3(hx:SC prog w C n N x ex)(hy:SC prog w C n N y ey)(hz:SC prog w C n N z ez)(h:FN N x y z e=true)(X:Cx C N n c):
 eg prog w c none [hd (parts e).es,hd (parts e).es.tail,hd (parts e).es.tail.tail] [N1 ex,N1 ey,N1 ez]∧[hd (parts e).es,hd (parts e).es.tail,hd (parts e).es.tail.tail].all noStar=true∧globK c none "suffixed_err":=by
 have h1:=a1 (a1 h);have h2:=a1 (a1 h1);exact⟨⟨⟨((hx none _).1 (a2 h1)).v X,fun _ _ _ _ _ _ h=>nS h⟩,⟨((hy none _).1 (a2 (a1 h))).v X,fun _ _ _ _ _ _ h=>nS h⟩,⟨((hz none _).1 (a2 h)).v X,fun _ _ _ _ _ _ h=>nS h⟩,trivial⟩,TU (a2 (a1 h2))▸a2 (a1 h1),xg X (a2 h2)⟩
theorem Ds(B:Bs prog w C K fS fI G n)(hx:SC prog w C n N x ex)(hy:SC prog w C n N y ey)(hz:SC prog w C n N z ez):SC prog w C n N (PR N x y z) (Mine.Internal.val fun σ=>(au (ex.1 σ)).bind fun a σ=>(au (ey.1 σ)).bind fun b σ=>(au (ez.1 σ)).bind fun d σ=>.of ((G.qQ a b d).map fun m=>.ok (.str m)) σ):=fun kn e=>
 q0.B0 (e':=C2 e "str" [T6 (tA e)]) (fun h=>(yR (a2 (a1 (a1 (a1 h)))) (a2 (a1 (a1 h)))).trans (congrArg (fun t=>C2 e "str" [t]) (PW (a2 h)))) (fun h c k X hk hc=>by
 cases kn with
 |some _=>cases a1 (a1 (a1 (a1 h)))
 |none=>
  cases k with
  |some _=>exact hk.elim
  |none=>
   have l1:=X.bi B (jm (i:=1) rfl);obtain⟨ad,o,fd,m1,m2,m3,m4,spec⟩:=Ka B X;refine AP (B3 hx hy hz (a2 h) X) fun s1 s2 s3=>?_;exact zU (va:=N1 ex) (vb:=N1 ey) (vc:=N1 ez) X.O X.hA (X.tf B) s3 m1 m2 m3 m4 spec (aG (aP _ 3) X.hn) (xg X (a2 (a1 h))) l1.1 l1.2 s1 s2) fun _ _=>rfl
mutual
theorem ao(B:Bs prog w C K fS fI G n):∀pe:PE,SC prog w C n N (ck N pe) (bo G pe)
 |.var i=>NQ
 |.cvar j=>KX
 |.glob g=>KY B
 |.a7 d=>KZ
 |.bin op a b=>NS (ao B a) (ao B b)
 |.cmp op a b=>NT (ao B a) (ao B b)
 |.band l=>K2 (ip B l)
 |.bor l=>NU (ip B l)
 |.sa a=>K3 (ao B a)
 |.ite c a b=>NV (ao B c) (ao B a) (ao B b)
 |.list l=>K4 (ip B l)
 |.tup l=>NW (ip B l)
 |.sub a b=>NX (ao B a) (ao B b)
 |.slice a b c=>Hl (ao B a) (ao B b) (ao B c)
 |.comp rng j iter cond elt=>K5 B (ao B iter) (yT B cond) (ao B elt)
 |.call f l=>K6 B (ip B l)
 |.dz m o l=>K7 (ao B o) (ip B l)
 |.fn f a=>Qg B (ao B a)
 |.fmt r a=>NZ (ao B a)
 |.joined l=>Dr (ip B l)
 |.attr a x=>K8 B (ao B a)
 |.entry=>fun _ _=>q0.no
 |.zip a b=>N0 B (ao B a) (ao B b)
 |.AW a b=>K9 B (ao B a) (ao B b)
 |.l9 a b c=>Ds B (ao B a) (ao B b) (ao B c)
termination_by structural pe=>pe
theorem ip(B:Bs prog w C K fS fI G n):∀l:List PE,lI (SC prog w C n N) (MW N l) (bol G l)
 |[]=>trivial
 |p::r=>⟨ao B p,ip B r⟩
termination_by structural l=>l
theorem yT(B:Bs prog w C K fS fI G n):∀o:Option PE,WJ prog w C n N (WI N o) (Mc G o)
 |none=>.inl ⟨rfl,rfl⟩
 |some p=>.inr ⟨_,_,rfl,rfl,ao B p⟩
termination_by structural o=>o
end
end Mine.Internal
namespace Mine.Internal
open PySem PyProof.Rows
structure Pq where
 es:List Expr:=[]
 a:Expr:=dE
 b:Expr:=dE
 o:Operator:=.Add
 la:Option Expr:=none
 lb:Option Expr:=none
 s1:List Stmt:=[]
 s2:List Stmt:=[]
 s3:List Stmt:=[]
 hs:List ExceptHandler:=[]
 p:Pos
noncomputable def dQ:Pq:={p:=default}
noncomputable def sp(s:Stmt):Pq:=Stmt.casesOn (motive_2:=fun _=>Pq) s (fun _ _ _ _ _ _ _ _ _ _=>dQ) (fun _ _ _ _ _ _ _ _ _ _=>dQ) (fun _ _ _ _ _ _ _ _ _ _ _=>dQ) (fun a p=>{dQ with la:=a,p:=p}) (fun _ _=>dQ) (fun es a p=>{dQ with es:=es,a:=a,p:=p}) (fun _ _ _ _ _ _ _=>dQ) (fun a o b p=>{dQ with a:=a,o:=o,b:=b,p:=p}) (fun _ _ _ _ _=>dQ) (fun a b s1 s2 p=>{dQ with a:=a,b:=b,s1:=s1,s2:=s2,p:=p}) (fun _ _ _ _ _=>dQ) (fun a s1 s2 p=>{dQ with a:=a,s1:=s1,s2:=s2,p:=p}) (fun a s1 s2 p=>{dQ with a:=a,s1:=s1,s2:=s2,p:=p}) (fun _ _ _=>dQ) (fun _ _ _=>dQ) (fun _ _ _=>dQ) (fun a b p=>{dQ with la:=a,lb:=b,p:=p}) (fun s1 hs s2 s3 p=>{dQ with s1:=s1,hs:=hs,s2:=s2,s3:=s3,p:=p}) (fun _ _ _ _ _=>dQ) (fun _ _ _=>dQ) (fun _ _=>dQ) (fun _ _ _ _=>dQ) (fun _ _=>dQ) (fun _ _=>dQ) (fun a p=>{dQ with a:=a,p:=p}) (fun _=>dQ) (fun _=>dQ) (fun _=>dQ)
noncomputable def Dt(s:Stmt)(i:Nat)(t:Pq):Stmt:=[s,s,s,.Return t.la t.p,s,.Assign t.es t.a t.p,s,.AugAssign t.a t.o t.b t.p,s,.For t.a t.b t.s1 t.s2 t.p,s,.While t.a t.s1 t.s2 t.p,.If t.a t.s1 t.s2 t.p,s,s,s,.Raise t.la t.lb t.p,.Try t.s1 t.hs t.s2 t.s3 t.p,s,s,s,s,s,s,.Expr t.a t.p].getD i s
theorem WK(s:Stmt):s=Dt s s.ctorIdx (sp s):=by cases s<;>rfl
noncomputable def six(s:Stmt)(i:Nat):Bool:=s.ctorIdx==i
theorem sM(h:six s i=true):s=Dt s i (sp s):=(WK s).trans (congrArg (fun n=>Dt s n (sp s)) (eq_of_beq h))
noncomputable def tg(s:Stmt):Expr:=hd (sp s).es
noncomputable def FY(s:Stmt):Bool:=six s 5&&len (sp s).es 1
theorem Kb(h:FY s=true):s=.Assign [tg s] (sp s).a (sp s).p:=(show s=.Assign (sp s).es (sp s).a (sp s).p from sM (a1 h)).trans (congrArg (fun l=>Stmt.Assign l (sp s).a (sp s).p) (qr (a2 h)))
noncomputable def FZ(s:Stmt):Bool:=six s 7&&(sp s).o==.Add
theorem Kc(h:FZ s=true):s=.AugAssign (sp s).a .Add (sp s).b (sp s).p:=eq_of_beq (a2 h)▸sM (a1 h)
noncomputable def ofName(e:Expr)(i:Nat):Bool:=ix e i&&ix (parts e).a 23
noncomputable def T7(e:Expr):Str:=nm (parts e).a
noncomputable def Ya(e:Expr):Expr:=.Name (T7 e) (parts (parts e).a).p
theorem Du(h:ofName e 20=true):e=.Attribute (Ya e) (nm e) (parts e).p:=(show e=.Attribute (parts e).a (nm e) (parts e).p from jx (a1 h)).trans (congrArg (fun t=>Expr.Attribute t (nm e) (parts e).p) (gf (a2 h)))
theorem Qi(h:ofName e 21=true):e=.Subscript (Ya e) (parts e).b (parts e).p:=(show e=.Subscript (parts e).a (parts e).b (parts e).p from jx (a1 h)).trans (congrArg (fun t=>Expr.Subscript t (parts e).b (parts e).p) (gf (a2 h)))
noncomputable def w7(s:Stmt)(y:Str):Bool:=six s 24&&zW (sp s).a y
noncomputable def N2(s:Stmt)(o:Expr)(y:Str)(es:List Expr):Stmt:=.Expr (PF (sp s).a o y es) (sp s).p
theorem PX(h:w7 s y=true):s=N2 s (ob (sp s).a) y (parts (sp s).a).es:=(show s=.Expr (sp s).a (sp s).p from sM (a1 h)).trans (congrArg (fun t=>Stmt.Expr t (sp s).p) (Jy (a2 h)))
noncomputable def ret(s:Stmt):Expr:=(sp s).la.getD dE
noncomputable def Kd(s:Stmt):Bool:=six s 3&&(sp s).la.isSome
theorem PY(h:Kd s=true):s=.Return (some (ret s)) (sp s).p:=(show s=.Return (sp s).la (sp s).p from sM (a1 h)).trans (congrArg (fun t=>Stmt.Return t (sp s).p) (zV dE (a2 h)))
noncomputable def B4(h:ExceptHandler):Option Expr×Option Str×List Stmt×Pos:=match h with
 |.ExceptHandler a b c d=>(a,b,c,d)
theorem N3(h:ExceptHandler):h=.ExceptHandler (B4 h).1 (B4 h).2.1 (B4 h).2.2.1 (B4 h).2.2.2:=by cases h;rfl
noncomputable def uZ(s:Stmt):Option Expr×Option Str×List Stmt×Pos:=B4 ((sp s).hs.headD (.ExceptHandler none none [] default))
noncomputable def Ke(s:Stmt)(t:Str):Bool:=six s 17&&(sp s).hs.length==1&&(uZ s).1.isSome&&ix ((uZ s).1.getD dE) 23&&nm ((uZ s).1.getD dE)==t&&(sp s).s2.isEmpty&&(sp s).s3.isEmpty
noncomputable def T8(s:Stmt)(t:Str)(er:Option Str)(hb:List Stmt):Stmt:=.Try (sp s).s1 [.ExceptHandler (some (.Name t (parts ((uZ s).1.getD dE)).p)) er hb (uZ s).2.2.2] [] [] (sp s).p
theorem PZ(h:Ke s t=true):s=T8 s t (uZ s).2.1 (uZ s).2.2.1:=by
 have h1:=a1 (a1 h);have h2:=a1 (a1 h1);have e1:s=.Try (sp s).s1 (sp s).hs (sp s).s2 (sp s).s3 (sp s).p:=sM (a1 (a1 h2));obtain⟨g,hg⟩:=gE.mp (eq_of_beq (a2 (a1 h2)));have e2:(sp s).hs=[.ExceptHandler (uZ s).1 (uZ s).2.1 (uZ s).2.2.1 (uZ s).2.2.2]:=by unfold uZ;rw[hg];exact congrArg (fun x=>[x]) (N3 g)
 have e3:=(zV dE (a2 h2)).trans (congrArg some ((gf (a2 (a1 h1))).trans (congrArg (fun x=>Expr.Name x _) (eq_of_beq (a2 h1)))));rw[e2,cM.mp (a2 (a1 h)),cM.mp (a2 h)] at e1;exact e1.trans (congrArg (fun o=>Stmt.Try (sp s).s1 [.ExceptHandler o (uZ s).2.1 (uZ s).2.2.1 (uZ s).2.2.2] [] [] (sp s).p) e3)
noncomputable def tq(N:Nm)(i:Nat)(x:Str):Bool:=N[i]?.elim false (fun q=>q.1==x&&isVar q.2)&&BZ x
noncomputable def z0(N:Nm):List Nat→List Expr→Bool
 |[],es=>es.isEmpty
 |i::is,es=>!es.isEmpty&&ix (hd es) 23&&tq N i (nm (hd es))&&z0 N is es.tail
noncomputable def F0(l:List PS):Option {u:Unit // l=[.stuck]}:=List.casesOn (motive:=fun l=>Option {u:Unit // l=[.stuck]}) l none (fun p r=>List.casesOn (motive:=fun r=>Option {u:Unit // p::r=[.stuck]}) r (PS.casesOn (motive_1:=fun p=>Option {u:Unit // [p]=[.stuck]}) p (fun _ _=>none) (fun _ _=>none) (fun _ _=>none) (fun _ _ _=>none) (fun _ _=>none) (fun _=>none) (fun _ _=>none) (fun _ _ _=>none) (fun _ _ _=>none) (fun _ _ _=>none) (fun _ _ _=>none) (fun _ _ _ _ _=>none) (fun _ _=>none) (fun _=>none) none (fun _ _ _=>none) (fun _ _=>none) (fun _ _=>none) (fun _ _ _=>none) (some ⟨(),rfl⟩)) (fun _ _=>none))
noncomputable def T9(N:Nm)(one:Bool)(t:Expr)(is:List Nat):Bool:=match one with
 |true=>ix t 23&&is.length==1&&tq N (is.headD 0) (nm t)
 |false=>ix t 25&&z0 N is (parts t).es
noncomputable abbrev Cs:=Stmt→Bool
noncomputable abbrev MX:=List Stmt→Bool
noncomputable def Tc(N:Nm)(e:PE)(v:Expr):Bool:=match e with
 |.entry=>isFn v "Entry"&&(parts v).es.isEmpty&&oa N none "Entry"
 |.list l=>ix v 24&&zX (MW N l) none (parts v).es&&(parts v).es.all noStar
 |.comp rng j it c el=>FL N rng j (ck N it) (WI N c) (ck N el) v
 |e=>mC v&&(ck N e none v).1
noncomputable def B5(N:Nm)(i:Nat)(e:PE):Cs:=fun s=>FY s&&ix (tg s) 23&&tq N i (nm (tg s))&&Tc N e (sp s).a
noncomputable def B6(N:Nm)(is:List Nat)(x:Ck):Cs:=fun s=>FY s&&ix (tg s) 25&&z0 N is (parts (tg s)).es&&mC (sp s).a&&J9 (sp s).a&&(x none (sp s).a).1
noncomputable def P0(N:Nm)(i:Nat)(x:Ck):Cs:=fun s=>FZ s&&ix (sp s).a 23&&tq N i (nm (sp s).a)&&(x none (sp s).b).1
noncomputable def B7(N:Nm)(i:Nat)(x y:Ck):Cs:=fun s=>FZ s&&ofName (sp s).a 21&&tq N i (T7 (sp s).a)&&!isSlice (parts (sp s).a).b&&(x none (parts (sp s).a).b).1&&(y none (sp s).b).1
noncomputable def arg(s:Stmt):Expr:=hd (parts (sp s).a).es
noncomputable def B8(N:Nm)(i:Nat)(x:Ck):Cs:=fun s=>w7 s "append"&&ix (ob (sp s).a) 23&&len (parts (sp s).a).es 1&&tq N i (nm (ob (sp s).a))&&noStar (arg s)&&(x none (arg s)).1
noncomputable def yU(N:Nm)(i:Nat):Cs:=fun s=>w7 s "reverse"&&ix (ob (sp s).a) 23&&(parts (sp s).a).es.isEmpty&&tq N i (nm (ob (sp s).a))
noncomputable def B9(N:Nm)(i:Nat)(x:Ck):Cs:=fun s=>w7 s "extend"&&ix (ob (sp s).a) 23&&len (parts (sp s).a).es 1&&isFn (arg s) "map"&&len (parts (arg s)).es 2&&ix (tA (arg s)) 23&&nm (tA (arg s))=="str"&&
 oa N none "map"&&oa N none "str"&&tq N i (nm (ob (sp s).a))&&noStar (hd (parts (arg s)).es.tail)&&(x none (hd (parts (arg s)).es.tail)).1
noncomputable def yV(N:Nm)(i:Nat)(a:Str)(x:Ck):Cs:=fun s=>FY s&&ofName (tg s) 20&&nm (tg s)==a&&fieldNames.contains a&&tq N i (T7 (tg s))&&mC (sp s).a&&(x none (sp s).a).1
noncomputable def yW(N:Nm)(i:Nat)(a:Str)(x:Ck):Cs:=fun s=>FZ s&&ofName (sp s).a 20&&nm (sp s).a==a&&fieldNames.contains a&&tq N i (T7 (sp s).a)&&(x none (sp s).b).1
noncomputable def yX(N:Nm)(i:Nat)(a:Str)(x:Ck):Cs:=fun s=>w7 s "append"&&ofName (ob (sp s).a) 20&&nm (ob (sp s).a)==a&&len (parts (sp s).a).es 1&&fieldNames.contains a&&tq N i (T7 (ob (sp s).a))&&noStar (arg s)&&(x none (arg s)).1
noncomputable def Td(x:Ck)(a b:MX):Cs:=fun s=>six s 12&&(x none (sp s).a).2&&a (sp s).s1&&b (sp s).s2
noncomputable def P1(N:Nm)(rng one:Bool)(is:List Nat)(x:Ck)(b:MX):Cs:=fun s=>six s 9&&(sp s).s2.isEmpty&&yI (sp s).b&&WH N rng x (sp s).b&&T9 N one (sp s).a is&&b (sp s).s1
noncomputable def F4(x:Ck)(b:MX):Cs:=fun s=>six s 11&&(sp s).s2.isEmpty&&(x none (sp s).a).2&&b (sp s).s1
noncomputable def P2(x:Ck):Cs:=fun s=>Kd s&&(x none (ret s)).1
noncomputable def F5(N:Nm)(x y z:Ck):Cs:=fun s=>six s 16&&(sp s).la.isSome&&(sp s).lb.isNone&&FN N x y z (ret s)
noncomputable def Ba(N:Nm)(t:Str)(b:MX)(hand:List PS):Cs:=fun s=>Ke s t&&(F0 hand).isSome&&(uZ s).2.1.isNone&&!(uZ s).2.2.1.isEmpty&&oa N none t&&b (sp s).s1
noncomputable def nP(s:Stmt):Stmt:=(uZ s).2.2.1.headD (.Pass default)
noncomputable def Kf(N:Nm)(i j:Nat)(b:MX):Cs:=fun s=>Ke s "TOMLDecodeError"&&(uZ s).2.1.isSome&&(uZ s).2.2.1.length==1&&Kd (nP s)&&ix (ret (nP s)) 25&&len (parts (ret (nP s))).es 2&&ix (tA (ret (nP s))) 23&&
 isFn (hd (parts (ret (nP s))).es.tail) "str"&&len (parts (hd (parts (ret (nP s))).es.tail)).es 1&&ix (tA (hd (parts (ret (nP s))).es.tail)) 23&&nm (tA (hd (parts (ret (nP s))).es.tail))==(uZ s).2.1.getD ""&&
 (oa N none "TOMLDecodeError"&&oa N none "str"&&tq N i (nm (tA (ret (nP s))))&&N[j]?==some ((uZ s).2.1.getD "",.local)&&BZ ((uZ s).2.1.getD "")&&decide (i≠j)&&b (sp s).s1)
noncomputable def P4(x:Cs)(r:MX):MX:=fun ss=>match ss with
 |s::ss=>x s&&r ss
 |[]=>false
mutual
noncomputable def cs(N:Nm):PS→Cs
 |.assign i e=>B5 N i e
 |.unpack is e=>B6 N is (ck N e)
 |.aug i e=>P0 N i (ck N e)
 |.ou i k e=>B7 N i (ck N k) (ck N e)
 |.append i e=>B8 N i (ck N e)
 |.reverse i=>yU N i
 |.ju i e=>B9 N i (ck N e)
 |.setAttr i x e=>yV N i x (ck N e)
 |.fj i x e=>yW N i x (ck N e)
 |.fm i x e=>yX N i x (ck N e)
 |.gz c a b=>Td (ck N c) (F6 N a) (F6 N b)
 |.kc rng one is iter body=>P1 N rng one is (ck N iter) (F6 N body)
 |.tC c body=>F4 (ck N c) (F6 N body)
 |.ret e=>P2 (ck N e)
 |.pass=>fun _=>false
 |.raise a b c=>F5 N (ck N a) (ck N b) (ck N c)
 |.mu body hand=>Ba N "IndexError" (F6 N body) hand
 |.ox body hand=>Ba N "ValueError" (F6 N body) hand
 |.sb body i j=>Kf N i j (F6 N body)
 |.stuck=>fun _=>true
termination_by structural p=>p
noncomputable def F6(N:Nm):List PS→MX
 |[]=>fun ss=>ss.isEmpty
 |p::r=>P4 (cs N p) (F6 N r)
termination_by structural l=>l
end
end Mine.Internal
namespace Mine.Internal
open PySem PyProof.Rows
variable{prog:Program}{w:World}{C:Bc}{K:W.Frag}{fS fI:Addr}{G:Gl}{n nf:Nat}{N:Nm}
variable(prog w C n N) in
noncomputable def nW(x:Cs)(ex:St→Mo Fl):Prop:=∀st,x st=true→∀c,Cx C N n c→(∀y v,¬c.snap y v)→du prog w c st ex
variable(prog w C n N) in
noncomputable def xh(x:MX)(ex:St→Mo Fl):Prop:=∀ss,x ss=true→∀c,Cx C N n c→(∀y v,¬c.snap y v)→i6 prog w c ss ex
variable{x y z:Ck}{ex ey ez:Ev}
theorem lP{c:Ac}(X:Cx C N n c){i:Nat}{x:Str}(h:tq N i x=true):∃kd,c.env.scope.names[i]?=some (x,kd)∧isVar kd=true∧(x==("__debug__":Str))=false:=by
 have h1:=a1 h;rw[X.PT];cases hq:N[i]? with
 |none=>rw[hq] at h1;cases h1
 |some q=>rw[hq] at h1;exact⟨q.2,eq_of_beq (a1 h1)▸rfl,a2 h1,m9 (a2 h)⟩
theorem Bb(X:Cx C N n c):∀{es:List Expr},z0 N is es=true→yL c es is:=by
 induction is with
 |nil=>intro es h;rw[cM.mp h];trivial
 |cons i is ih=>
  intro es h;have h1:=a1 h;refine q9 (lP X (a2 h1)) fun kd b1 b2 _=>?_;rw[zZ (a1 (a1 h1))];exact⟨⟨_,_,kd,gf (a2 (a1 h1)),b1,b2⟩,ih (a2 h)⟩
theorem qw(hx:SC prog w C n N x ex)(X:Cx C N n c)(h:(x none v).1=true):nA prog w c v ex.1:=fun h₀ bk sn O=>((hx none v).1 h).v (X.re O)
theorem uz(hx:SC prog w C n N x ex)(X:Cx C N n c)(h:(x none v).1=true):aj prog w c none v ex.1:=((hx none v).1 h).v X
theorem F7(hx:SC prog w C n N x ex)(X:Cx C N n c)(h:(x none v).2=true):gk prog w c none v ex.2:=(hx none v).2 h c none X trivial trivial
theorem N4{c:Ac}{st:Stmt}:du prog w c st (fun _=>none):=fun fz s σ r σ' I h=>nS h
theorem F8:i6 prog w c ss (cx G nf [.stuck]):=fun fz s σ r σ' I h=>nS h
section
variable{i:Nat}{e:PE}{c:Ac}{y:Str}{v:Expr}{p q:Pos}{kd:NameKind}
theorem Qj(B:Bs prog w C K fS fI G n)(X:Cx C N n c)(d9:∀y v,¬c.snap y v)(hn:c.env.scope.names[i]?=some (y,kd))(hk:isVar kd=true)(he:∀d,lj e d=.val d)(h:(mC v&&(ck N e none v).1)=true):du prog w c (.Assign [.Name y p] v q) (A3 G nf (.assign i e)):=by
 have hs:=J5 (prog:=prog) (w:=w) (xp:=p) (pos:=q) X.O d9 hn hk (a1 h) (uz (ao B e) X (a2 h));have e0:A3 G nf (.assign i e)=fun σ=>((bo G e).1 σ).bind fun d σ=>.ok .next (σ.put i (.val d)):=funext fun σ=>congrArg (Mo.bind ((bo G e).1 σ)) (funext fun d=>funext fun σ=>congrArg (fun x=>Mo.ok Fl.next (σ.put i x)) (he d));exact e0▸hs
theorem Te(B:Bs prog w C K fS fI G n)(X:Cx C N n c)(d9:∀y v,¬c.snap y v)(hn:c.env.scope.names[i]?=some (y,kd))(hk:isVar kd=true)(h:Tc N e v=true):du prog w c (.Assign [.Name y p] v q) (A3 G nf (.assign i e)):=by
 cases e with
 |entry=>
  have e1:=NO (a1 (a1 h));rw[cM.mp (a2 (a1 h))] at e1;rw[e1];refine iw B.init fun fd body Ik DA=>?_;exact wX (X.cf B) (X.EC▸B.keep) X.O d9 Ik (fun fz h H=>by have:=X.hC;rw[this] at H ⊢;exact DA _ fz h H) (aG (gY 2 (n+1)) X.hn) hn hk (xg X (a2 h)) (by rw[X.mg,X.EC];exact B.T2)
 |list l=>
  have hl:=An (prog:=prog) (w:=w) (pos:=(parts v).p) X.O (me (ip B l) (a2 (a1 h)) c none X trivial trivial) (a2 h);rw[tm,show Expr.List (parts v).es (parts v).p=v from(jx (a1 (a1 h))).symm] at hl;exact rn X.O d9 hn hk (pF (show mC v=true from jx (a1 (a1 h))▸rfl)) hl (f:=lj (.list l)) fun zs=>rfl
 |comp rng j it cc el=>exact FU h▸x5 X.O d9 hn hk rfl (FW B (ao B it) (yT B cc) (ao B el) h X) (f:=lj (.comp rng j it cc el)) fun zs=>rfl
 |_=>exact Qj B X d9 hn hk (fun _=>rfl) h
end
theorem Hm(B:Bs prog w C K fS fI G n):nW prog w C n N (B5 N i e) (A3 G nf (.assign i e)):=fun st h c X d9=>by
 have h1:=a1 h;refine q9 (lP X (a2 h1)) fun kd hn hk hd=>?_;have e1:=Kb (a1 (a1 h1));rw[gf (a2 (a1 h1))] at e1;exact e1▸Te B X d9 hn hk (a2 h)
theorem Hn(hx:SC prog w C n N x ex):nW prog w C n N (B6 N is x) (fun σ=>(ex.1 σ).bind (rT is)):=fun st h c X d9=>by
 have h1:=a1 (a1 h);have h2:=a1 (a1 h1);have e1:=Kb (a1 h2);rw[show tg st=.Tuple (parts (tg st)).es (parts (tg st)).n (parts (tg st)).p from jx (a2 h2)] at e1;exact e1▸Ja X.O X.hA d9 (Bb X (a2 (a1 h1))) (a2 h1) (a2 (a1 h)) (uz hx X (a2 h))
theorem Qk(hx:SC prog w C n N x ex):nW prog w C n N (P0 N i x) (hidden i fun o σ=>(au (ex.1 σ)).bind (A2 i o)):=fun st h c X d9=>by
 have h1:=a1 h;refine q9 (lP X (a2 h1)) fun kd hn hk hd=>?_;exact(Kc (a1 (a1 h1))).trans (congrArg (fun t=>Stmt.AugAssign t .Add (sp st).b (sp st).p) (gf (a2 (a1 h1))))▸TJ X.O d9 hn hk (qw hx X (a2 h))
theorem Ho(hx:SC prog w C n N x ex)(hy:SC prog w C n N y ey):nW prog w C n N (B7 N i x y) (hidden i fun o σ=>(au (ex.1 σ)).bind fun k σ=>(au (ey.1 σ)).bind (rU i o k)):=fun st h c X d9=>by
 have h1:=a1 (a1 h);have h2:=a1 h1;refine q9 (lP X (a2 h2)) fun kd hn hk hd=>?_;exact(Kc (a1 (a1 h2))).trans (congrArg (fun t=>Stmt.AugAssign t .Add (sp st).b (sp st).p) (Qi (a2 (a1 h2))))▸Jb X.O d9 hn hd ((dZ _).mp (a2 h1)) (qw hx X (a2 (a1 h))) (qw hy X (a2 h))
theorem sN{y:Str}(h:w7 s y=true):((parts (parts (sp s).a).a).p.endLine==(parts (sp s).a).p.line)=true:=yS (a2 h)
noncomputable def xE(s:Stmt)(y:Str)(es:List Expr):Stmt:=N2 s (.Name (nm (ob (sp s).a)) (parts (ob (sp s).a)).p) y es
theorem WL{s:Stmt}{y:Str}(h:w7 s y=true)(h1:ix (ob (sp s).a) 23=true){es:List Expr}(h2:(parts (sp s).a).es=es):s=xE s y es:=h2▸(PX h).trans (congrArg (fun o=>N2 s o y (parts (sp s).a).es) (gf h1))
theorem Hp(hx:SC prog w C n N x ex):nW prog w C n N (B8 N i x) (hidden i fun o σ=>(au (ex.1 σ)).bind (ph i o)):=fun st h c X d9=>by
 have h1:=a1 (a1 h);have h2:=a1 (a1 h1);refine q9 (lP X (a2 h1)) fun kd hn hk hd=>?_;exact WL (a1 h2) (a2 h2) (qr (a2 (a1 h1)))▸J8 X.O d9 hn hd (a2 (a1 h)) (sN (a1 h2)) (qw hx X (a2 h))
theorem Dv{i:Nat}:nW prog w C n N (yU N i) (v5 i):=fun st h c X d9=>by
 have h2:=a1 (a1 h);refine q9 (lP X (a2 h)) fun kd hn hk hd=>?_;exact WL (a1 h2) (a2 h2) (cM.mp (a2 (a1 h)))▸HV X.O hn hd (sN (a1 h2))
theorem z4(B:Bs prog w C K fS fI G n)(hx:SC prog w C n N x ex):nW prog w C n N (B9 N i x) (hidden i fun o σ=>(au (ex.1 σ)).bind (ko i o)):=fun st h c X d9=>by
 have h1:=a1 (a1 h);have h2:=a1 h1;have h3:=a1 (a1 h2);have h4:=a1 (a1 h3);have h5:=a1 (a1 h4);refine q9 (lP X (a2 h1)) fun kd hn hk Uv=>?_;have l1:=X.bi B (jm (i:=8) rfl);have l2:=X.bi B (jm (i:=1) rfl);have e1:tA (arg st)=.Name "str" (parts (tA (arg st))).p:=(gf (a2 (a1 h3))).trans (congrArg (fun x=>Expr.Name x _) (eq_of_beq (a2 h3)));have e2:=(PD (a2 (a1 h4)) (a2 h4)).trans (congrArg (fun t=>C2 (arg st) "map" [t,hd (parts (arg st)).es.tail]) e1);exact WL (a1 (a1 h5)) (a2 (a1 h5)) ((qr (a2 h5)).trans (congrArg (fun t=>[t]) e2))▸BI X.O X.hA d9 hn Uv (a2 (a1 h)) (sN (a1 (a1 h5))) (xg X (a2 (a1 h2))) l1.1 l1.2 (xg X (a2 h2)) l2.1 l2.2 (qw hx X (a2 h))
theorem Dw(B:Bs prog w C K fS fI G n)(hx:SC prog w C n N x ex):nW prog w C n N (yV N i a x) (fun σ=>(ex.1 σ).bind (nK i a)):=fun st h c X d9=>by
 have h1:=a1 (a1 h);have h2:=a1 (a1 h1);refine q9 (lP X (a2 h1)) fun kd hn hk hd=>?_;have e1:=(Kb (a1 (a1 h2))).trans (congrArg (fun t=>Stmt.Assign [t] (sp st).a (sp st).p) (Du (a2 (a1 h2))));rw[eq_of_beq (a2 h2)] at e1;exact e1▸tU (X.cf B) X.O hn hd (fJ.mp (a2 (a1 h1))) (a2 (a1 h)) (uz hx X (a2 h))
theorem Dx(B:Bs prog w C K fS fI G n){a:Str}(hx:SC prog w C n N x ex):nW prog w C n N (yW N i a x) (hidden i fun o σ=>(au (ex.1 σ)).bind (rV i a o)):=fun st h c X d9=>by
 have h1:=a1 (a1 h);have h2:=a1 h1;refine q9 (lP X (a2 (a1 h))) fun kd hn hk hd=>?_;have e1:=(Kc (a1 (a1 h2))).trans (congrArg (fun t=>Stmt.AugAssign t .Add (sp st).b (sp st).p) (Du (a2 (a1 h2))));rw[eq_of_beq (a2 h2)] at e1;exact e1▸HY (X.cf B) X.O d9 hn hd (fJ.mp (a2 h1)) (qw hx X (a2 h))
theorem Dy(B:Bs prog w C K fS fI G n)(hx:SC prog w C n N x ex):nW prog w C n N (yX N i a x) (hidden i fun o σ=>(au (ex.1 σ)).bind (rW i a o)):=fun st h c X d9=>by
 have h1:=a1 (a1 h);have h2:=a1 (a1 h1);have h3:=a1 (a1 h2);refine q9 (lP X (a2 h1)) fun kd hn hk hd=>?_;have e1:=Du (a2 h3);rw[eq_of_beq (a2 (a1 h2))] at e1;have e2:=(PX (a1 h3)).trans (congrArg (fun o=>N2 st o "append" (parts (sp st).a).es) e1);rw[qr (a2 h2)] at e2;exact e2▸HX (X.cf B) X.O d9 hn hd (fJ.mp (a2 (a1 h1))) (a2 (a1 h)) (sN (a1 h3)) (qw hx X (a2 h))
variable{b d:MX}{eb ed:St→Mo Fl}
theorem Ql(hx:SC prog w C n N x ex)(hb:xh prog w C n N b eb)(hd:xh prog w C n N d ed):nW prog w C n N (Td x b d) (fun σ=>(ex.2 σ).bind fun x σ=>if x then eb σ else ed σ):=fun st h c X d9=>
 (show st=.If (sp st).a (sp st).s1 (sp st).s2 (sp st).p from sM (a1 (a1 (a1 h))))▸WA (F7 hx X (a2 (a1 (a1 h)))) (hb _ (a2 (a1 h)) c X d9) (hd _ (a2 h) c X d9)
theorem Qm(X:Cx C N n c)(h:T9 N one t is=true):rz c one t is:=by
 cases one with
 |true=>
  refine eo (gE.mp (eq_of_beq (a2 (a1 h)))) fun i ay=>?_;subst ay;refine q9 (lP X (a2 h)) fun kd hn hk hd=>?_;exact⟨_,_,_,kd,gf (a1 (a1 h)),rfl,hn,hk⟩
 |false=>exact⟨_,_,_,jx (a1 h),Bb X (a2 h)⟩
theorem N5(B:Bs prog w C K fS fI G n)(hx:SC prog w C n N x ex)(hb:xh prog w C n N b eb):nW prog w C n N (P1 N rng one is x b) (fun σ=>(ex.1 σ).bind (tD rng one is eb)):=fun st h c X d9=>by
 have h1:=a1 (a1 h);have h2:=a1 (a1 h1);have e1:st=.For (sp st).a (sp st).b (sp st).s1 (sp st).s2 (sp st).p:=sM (a1 h2);rw[cM.mp (a2 h2)] at e1;exact e1▸TK X.O X.hA d9 (a2 (a1 h1)) (B2 B hx (a2 h1) X) (Qm X (a2 (a1 h))) fun h₀ bk O=>hb _ (a2 h) _ (X.at O) d9
theorem N6(hx:SC prog w C n N x ex)(hb:xh prog w C n N b eb):nW prog w C n N (F4 x b) (ji ex.2 eb nf):=fun st h c X d9=>by
 have h2:=a1 (a1 h);have e1:st=.While (sp st).a (sp st).s1 (sp st).s2 (sp st).p:=sM (a1 h2);rw[cM.mp (a2 h2)] at e1;exact e1▸Mz X.O (F7 hx X (a2 (a1 h))) (hb _ (a2 h) c X d9)
theorem Qn(hx:SC prog w C n N x ex):nW prog w C n N (P2 x) (fun σ=>(ex.1 σ).bind fun d σ=>.ok (.ret d) σ):=fun st h c X d9=>PY (a1 h)▸TH (uz hx X (a2 h))
theorem Kg(B:Bs prog w C K fS fI G n)(hx:SC prog w C n N x ex)(hy:SC prog w C n N y ey)(hz:SC prog w C n N z ez):nW prog w C n N (F5 N x y z) (fun σ=>(au (ex.1 σ)).bind fun x σ=>(au (ey.1 σ)).bind fun y σ=>(au (ez.1 σ)).bind fun z σ=>match G.qQ x y z with
 |some m=>some (.exc (.mU m),σ)
 |none=>none):=fun st h c X d9=>by
 have h1:=a1 (a1 h);have e1:st=.Raise (sp st).la (sp st).lb (sp st).p:=sM (a1 h1);rw[fW.mp (a2 (a1 h)),zV dE (a2 h1)] at e1;obtain⟨ad,o,fd,m1,m2,m3,m4,spec⟩:=Ka B X;refine AP (B3 hx hy hz (a2 h) X) fun s1 s2 s3=>?_;exact e1.trans (congrArg (fun t=>Stmt.Raise (some t) none (sp st).p) (PW (a2 h)))▸NL (va:=N1 ex) (vb:=N1 ey) (vc:=N1 ez) X.O X.hA (X.tf B) s3 m1 m2 m3 m4 spec (aG (aP _ 3) X.hn) s1 s2
theorem Kh{t:Str}{hand:List PS}{st:Stmt}(h:Ba N t b hand st=true):hand=[.stuck]∧oa N none t=true∧b (sp st).s1=true∧∃AJ hb,st=T8 st t none (AJ::hb):=by
 have h1:=a1 (a1 h);have h2:=a1 (a1 h1);have e1:=PZ (a1 h2);rw[fW.mp (a2 (a1 h1))] at e1;refine⟨((F0 hand).get (a2 h2)).2,a2 (a1 h),a2 h,?_⟩;cases hb:(uZ st).2.2.1 with
 |nil=>have h3:=a2 h1;rw[hb] at h3;cases h3
 |cons AJ uK=>exact⟨AJ,uK,hb▸e1⟩
theorem Hq(B:Bs prog w C K fS fI G n){hand:List PS}(hb:xh prog w C n N b eb):nW prog w C n N (Ba N "IndexError" b hand) (fun σ=>tE (eb σ) fun x=>match x with
 |.index=>some (cx G nf hand)
 |_=>none):=fun st h c X d9=>by
 obtain⟨rfl,h1,h2,AJ,uK,e⟩:=Kh h;have l1:=X.bi B (jm (i:=9) rfl);exact e▸PA (T:="IndexError") (xT:=.index) (he:=cx G nf [.stuck]) X.O rfl wN wU wQ l1.1 l1.2 (xg X h1) (by decide) (hb _ h2 c X d9) (fun e=>F8) fun x f hf=>by
  cases x with
  |index=>exact⟨rfl,(aL hf).symm⟩
  |_=>exact nS hf
theorem Hr(B:Bs prog w C K fS fI G n){hand:List PS}(hb:xh prog w C n N b eb):nW prog w C n N (Ba N "ValueError" b hand) (fun σ=>tE (eb σ) fun x=>match x with
 |.value=>some (cx G nf hand)
 |_=>none):=fun st h c X d9=>by
 obtain⟨rfl,h1,h2,AJ,uK,e⟩:=Kh h;have l1:=X.bi B (jm (i:=10) rfl);exact e▸PA (T:="ValueError") (xT:=.value) (he:=cx G nf [.stuck]) X.O rfl wO wV wR l1.1 l1.2 (xg X h1) (by decide) (hb _ h2 c X d9) (fun e=>F8) fun x f hf=>by
  cases x with
  |value=>exact⟨rfl,(aL hf).symm⟩
  |_=>exact nS hf
theorem Dz(B:Bs prog w C K fS fI G n)(hb:xh prog w C n N b eb):nW prog w C n N (Kf N i j b) (fun σ=>tE (eb σ) fun x=>match x with
 |.mU m=>some fun σ=>(iz i (σ.hide j)).bind fun d σ=>.ok (.ret (.tup [d,.str m])) σ
 |_=>none):=fun st h c X d9=>by
 have i1:=a1 (a2 h);have i2:=a1 (a1 i1);have i3:=a1 (a1 i2);have h1:=a1 (a1 h);have h2:=a1 (a1 h1);have h3:=a1 (a1 h2);have h4:=a1 (a1 h3);have h5:=a1 (a1 h4);refine eo (gE.mp (eq_of_beq (a2 (a1 h4)))) fun g hg=>?_;have e0:(uZ st).2.2.1=[nP st]:=by unfold nP;rw[hg];rfl
 have e1:=PY (a2 h4);rw[show ret (nP st)=.Tuple (parts (ret (nP st))).es (parts (ret (nP st))).n (parts (ret (nP st))).p from jx (a2 (a1 h3)),Jt (a2 h3),show hd (parts (ret (nP st))).es=_ from gf (a2 (a1 h2)),yR (a2 h2) (a2 (a1 h1)),show hd (parts (hd (parts (ret (nP st))).es.tail)).es=_ from gf (a2 h1),show nm (hd (parts (hd (parts (ret (nP st))).es.tail)).es)=_ from eq_of_beq (a2 (a1 h))] at e1;have e2:=PZ (a1 h5);rw[e0,e1,zV (o:=(uZ st).2.1) "" (a2 h5)] at e2;refine q9 (lP X (a2 (a1 i2))) fun kd hn hk Uv=>?_;have l1:=X.bi B (jm (i:=1) rfl);exact e2▸Hj X.O d9 (X.tf B) hn Uv (X.PT▸eq_of_beq (a2 i2)) (m9 (a2 (a1 i1))) (of_decide_eq_true (a2 i1)) (xg X (a1 i3)) (by rw[X.mg,X.TC];exact B.Sa) (xg X (a2 i3)) l1.1 l1.2 (hb _ (a2 (a2 h)) c X d9) fun z f hf=>by
  cases z with
  |mU m=>exact⟨_,rfl,(aL hf).symm⟩
  |_=>exact nS hf
theorem N7{x:Cs}{ex:St→Mo Fl}(hx:nW prog w C n N x ex)(hb:xh prog w C n N b eb):xh prog w C n N (P4 x b) (fun σ=>(ex σ).bind fun f σ=>match f with
 |.next=>eb σ
 |.ret d=>.ok (.ret d) σ):=fun ss h c X d9=>by
 cases ss with
 |nil=>cases h
 |cons s ss=>exact wA (hx s (a1 h) c X d9) (hb ss (a2 h) c X d9)
mutual
theorem Ki(B:Bs prog w C K fS fI G n):∀p:PS,nW prog w C n N (cs N p) (A3 G nf p)
 |.assign i e=>Hm B
 |.unpack is e=>Hn (ao B e)
 |.aug i e=>Qk (ao B e)
 |.ou i k e=>Ho (ao B k) (ao B e)
 |.append i e=>Hp (ao B e)
 |.reverse i=>Dv
 |.ju i e=>z4 B (ao B e)
 |.setAttr i x e=>Dw B (ao B e)
 |.fj i x e=>Dx B (ao B e)
 |.fm i x e=>Dy B (ao B e)
 |.gz c a b=>Ql (ao B c) (gu B a) (gu B b)
 |.kc rng one is iter body=>N5 B (ao B iter) (gu B body)
 |.tC c body=>N6 (ao B c) (gu B body)
 |.ret e=>Qn (ao B e)
 |.pass=>fun _ h=>by cases h
 |.raise a b c=>Kg B (ao B a) (ao B b) (ao B c)
 |.mu body hand=>Hq B (gu B body)
 |.ox body hand=>Hr B (gu B body)
 |.sb body i j=>Dz B (gu B body)
 |.stuck=>fun _ _ c X d9=>N4
termination_by structural p=>p
theorem gu(B:Bs prog w C K fS fI G n):∀l:List PS,xh prog w C n N (F6 N l) (cx G nf l)
 |[]=>fun ss h c X d9=>by
  cases ss with
  |nil=>exact Ox
  |cons _ _=>cases h
 |p::r=>N7 (Ki B p) (gu B r)
termination_by structural l=>l
end
end Mine.Internal
namespace Mine.Internal
open PySem PyProof.Rows
noncomputable def WM:List (Option (Nat×Nat×List PS)):=[some (1,4,lX),some (3,3,lF),some (5,6,lG),some (2,3,j6),some (2,3,d4),some (2,3,d3),none,
 some (2,3,lx),some (1,3,mY),some (1,2,qd),some (1,1,qe),some (1,1,gh),some (1,2,nj),
 some (1,9,nk),some (1,9,qf),some (1,5,mv),some (1,5,ly),some (1,10,nq),some (1,15,tF),some (1,5,nr),
 some (1,9,qg),some (1,5,nu),some (1,12,Gw)]
noncomputable def tab(k:Nat):Option (Nat×Nat×List PS):=WM.getD k none
noncomputable def w8:List Nat:=(bW 32).filter (· !=9)++[127]
noncomputable def Bd:Nat→Option D
 |0=>some (.kh w8)
 |1=>some (.kh w8)
 |2=>some (.kh [32,9,10])
 |_=>none
noncomputable def NF:Nat:=3000
noncomputable def runK(G:Gl)(t:Nat×Nat×List PS)(args:List D):Option (R D):=if args.length=t.1 then ll G NF t.2.1 t.2.2 args else none
noncomputable def GG:Nat→Gl
 |0=>⟨fun _=>none,Bd,fun _ _ _=>none⟩
 |d+1=>⟨fun k=>(tab k).map (runK (GG d)),Bd,Jv (ll (GG d) NF 4 bz)⟩
noncomputable def z5(C:Bc)(fd:FuncData):Prop:=∃c' oc vs tk,fd.code=.ref c'∧C.B.get? c'=some oc∧oc.data=.fields vs∧vs[1]?=some (.str fd.qualname tk)∧c'≠C.P
inductive jy(C:Bc)(a:Addr)(k:Nat)(t:Nat×Nat×List PS):Prop
 |mk (o:Obj) (fd:FuncData) (body:List Stmt) (pn:List Str) (h1:C.B.get? a=some o) (h2:o.data=.func fd) (h3:a≠C.P) (df:oS fd body pn (xf k) (MV k)) (hl:pn.length=t.1) (SR:z5 C fd) (SS:F6 fd.scope.names t.2.2 body=true)
inductive Tf(C:Bc):Prop
 |mk (a:Addr) (o:Obj) (fd:FuncData) (body:List Stmt) (jh:jN) (jw:List Stmt) (k9:Scope) (h1:C.mg "suffixed_err"=some (.ref a)) (h2:C.B.get? a=some o) (h3:o.data=.func fd) (h4:a≠C.P) (sh:sH fd C.inner C.line C.col body jh jw k9) (hc:fd.code=.ref C.c₀) (SR:z5 C fd) (SS:F6 k9.names bz jw=true)
structure Tp(C:Bc)(K:W.Frag)(fS fI:Addr):Prop where
 ok:C.Ok
 cf:CF C K fS fI
 keep:W.keepIn K (.ref C.EC)=true
 tf:TF C
 so:SO C
 T2:C.mg "Entry"=some (.ref C.EC)
 Sa:C.mg "TOMLDecodeError"=some (.ref C.TC)
 init:∃fd body,tW fd body∧∀(l:List Addr) (fz:Fz) (h:Heap),HI {C with FR:=l} fz h→m6 {C with FR:=l} h fI fd
 str:jy C fS 0 (1,4,lX)
 fn:∀k t,tab k=some t→k≠0→∃a,C.mg (fnName k)=some (.ref a)∧jy C a k t
 glob:∀g d,Bd g=some d→∃v,C.mg (sJ g)=some v∧Rep C.EC C.rJ d v
 qQ:Tf C
 bi:∀x v,(x,v)∈Qc→C.mg x=none∧C.mb x=some v
variable{prog:Program}{w:World}{C:Bc}{K:W.Frag}{fS fI:Addr}{n:Nat}
theorem z6(T:Tp C K fS fI)(B:Bs prog w C K fS fI G n)(F:jy C a k t)(l:List Addr):qU prog w {C with FR:=l} a (xf k) (MV k) (n+4) (runK G t):=by
 obtain⟨o,fd,body,pn,h1,h2,h3,Df,hl,SR,SS⟩:=F;exact fun A outer fz s vs ds r rm hA AO Ec vi H hB hg rs hr=>Az (vars:=t.2.1) (n:=n+3) (be:=cx G NF t.2.2) (T.ok.fr l) Df (m6.WD H ⟨o,h1,h2⟩ h3 SR) rm AO Ec vi H hB hg rs ((kQ hr).1.trans hl.symm)
  (fun O=>gu B t.2.2 body SS _ ⟨O,hA,rfl,rfl,bB _⟩ fun _ _ h=>h) (kQ hr).2
theorem Hs (f:Nat) (h:(fnName f==("":Str))=false):f≠0∧∃t,tab f=some t:=by
 have Rn:(bW 23).all (fun f=>fnName f==("":Str)||(f !=0&&(tab f).isSome))=true:=by decide +kernel
 by_cases hf:f<23
 ·have h1:=bQ.mp Rn f (gI.mpr hf)
  rw[h] at h1;exact⟨fun e=>bne_iff_ne.mp (a1 h1) e,eU.mp (a2 h1)⟩
 ·have:fnName f="":=by unfold fnName;rw[cW,eR (dJ hf)];rfl
  rw[this] at h;cases h
theorem qU.le(x:qU prog w C a m kn n F)(h:n≤n'):qU prog w C a m kn n' F:=
 fun A outer fz s vs ds r rm=>x A outer fz s vs ds r (rm.le h)
theorem P5 (T:Tp C K fS fI) {p:Addr→Prop} {f:Nat} (h:(fnName f==("":Str))=false) (go:∀a t,tab f=some t→jy C a f t→p a):∃a o fd,C.mg (fnName f)=some (.ref a)∧C.B.get? a=some o∧o.data=.func fd∧a≠C.P∧p a:=by
 obtain⟨h0,t,ht⟩:=Hs f h;refine aq (T.fn f t ht h0) fun a h1 F=>?_;have hp:=go a t ht F;obtain⟨o,fd,body,pn,h2,h3,h4,_⟩:=F;exact⟨a,o,fd,h1,h2,h3,h4,hp⟩
theorem Be(T:Tp C K fS fI){p:Addr→Prop}(go:∀{a:Addr} {o:Obj} {fd:FuncData} {body:List Stmt} {jh:jN} {jw:List Stmt} {k9:Scope},C.B.get? a=some o→o.data=.func fd→a≠C.P→sH fd C.inner C.line C.col body jh jw k9→fd.code=.ref C.c₀→z5 C fd→F6 k9.names bz jw=true→p a):
 ∃a o fd,C.mg "suffixed_err"=some (.ref a)∧C.B.get? a=some o∧o.data=.func fd∧a≠C.P∧p a:=by
 obtain⟨a,o,fd,body,pc,bc,sc,h1,h2,h3,h4,sh,hc,SR,SS⟩:=T.qQ;exact⟨a,o,fd,h1,h2,h3,h4,go h2 h3 h4 sh hc SR SS⟩
theorem xi(T:Tp C K fS fI)(d:Nat):Bs prog w C K fS fI (GG d) (5*d):=by
 induction d with
 |zero=>exact⟨T.cf,T.keep,T.tf,T.T2,T.Sa,T.init,fun f h=>nS h,fun f h=>P5 T h fun _ _ _ _ F hF=>nS hF,T.glob,Be T fun _ _ _ _ _ _ _ l A outer fz s vs x y z m _ _ _ _ _ _ _ _ _ hm=>nS hm,T.bi⟩
 |succ d B=>
  have h4:5*d+4≤5*(d+1):=bI (by decide) _;have h5:5*d+3+2≤5*(d+1):=bB _;refine⟨T.cf,T.keep,T.tf,T.T2,T.Sa,T.init,fun f h l=>?_,fun f h=>P5 T h fun a t ht F aBT hF l=>?_,T.glob,Be T fun h2 h3 h4 Sh hc SR SS l A outer fz s vs x y z m rm hA AO Ec vi H hB hg rs hm Q E hQ=>
   Jx (C:={C with FR:=l}) (n:=5*d+3) (T.ok.fr l) (T.so.fr l) (T.tf.fr l) T.Sa Sh hc (m6.WD H ⟨_,h2,h3⟩ h4 SR) (rm.le h5) hA AO Ec vi H hB hg rs (fun c' e1 e2 e3 e4 e5 O d9=>gu B bz _ SS c' ⟨O,e2,e1,congrArg Scope.names e4,bO e3.symm⟩ d9) hm hQ,T.bi⟩
  ·exact aL h▸(z6 T B T.str l).le h4
  ·rw[show(GG (d+1)).fn f=(tab f).map (runK (GG d)) from rfl,ht] at hF
   exact aL hF▸(z6 T B F l).le h4
end Mine.Internal
namespace MineH.Internal
open PySem PySem.W PySem.Calls PyProof.Rows
section
variable{α β γ δ:Type}{P:Prop}
theorem eo{p:α→Prop}(h:∃a,p a)(k:∀a,p a→P):P:=h.elim k
theorem aq{p q:α→Prop}(h:∃a,p a∧q a)(k:∀a,p a→q a→P):P:=h.elim fun a h=>k a h.1 h.2
theorem q9{p q r:α→Prop}(h:∃a,p a∧q a∧r a)(k:∀a,p a→q a→r a→P):P:=h.elim fun a h=>k a h.1 h.2.1 h.2.2
theorem S6{p q r s:α→Prop}(h:∃a,p a∧q a∧r a∧s a)(k:∀a,p a→q a→r a→s a→P):P:=h.elim fun a h=>k a h.1 h.2.1 h.2.2.1 h.2.2.2
theorem kK{p:α→β→Prop}(h:∃a b,p a b)(k:∀a b,p a b→P):P:=h.elim fun a h=>h.elim (k a)
theorem iw{p q:α→β→Prop}(h:∃a b,p a b∧q a b)(k:∀a b,p a b→q a b→P):P:=kK h fun a b h=>k a b h.1 h.2
theorem sz{p q r:α→β→Prop}(h:∃a b,p a b∧q a b∧r a b)(k:∀a b,p a b→q a b→r a b→P):P:=kK h fun a b h=>k a b h.1 h.2.1 h.2.2
theorem Z7{p q r s:α→β→Prop}(h:∃a b,p a b∧q a b∧r a b∧s a b)(k:∀a b,p a b→q a b→r a b→s a b→P):P:=kK h fun a b h=>k a b h.1 h.2.1 h.2.2.1 h.2.2.2
theorem Gj{p:α→β→γ→Prop}(h:∃a b c,p a b c)(k:∀a b c,p a b c→P):P:=kK h fun a b h=>h.elim (k a b)
theorem yk{p q:α→β→γ→Prop}(h:∃a b c,p a b c∧q a b c)(k:∀a b c,p a b c→q a b c→P):P:=Gj h fun a b c h=>k a b c h.1 h.2
theorem Z8{p q r:α→β→γ→Prop}(h:∃a b c,p a b c∧q a b c∧r a b c)(k:∀a b c,p a b c→q a b c→r a b c→P):P:=Gj h fun a b c h=>k a b c h.1 h.2.1 h.2.2
theorem Z9{p q r s:α→β→γ→Prop}(h:∃a b c,p a b c∧q a b c∧r a b c∧s a b c)(k:∀a b c,p a b c→q a b c→r a b c→s a b c→P):P:=Gj h fun a b c h=>k a b c h.1 h.2.1 h.2.2.1 h.2.2.2
theorem Sr{p:α→β→γ→δ→Prop}(h:∃a b c d,p a b c d)(k:∀a b c d,p a b c d→P):P:=Gj h fun a b c h=>h.elim (k a b c)
theorem Za{p q:α→β→γ→δ→Prop}(h:∃a b c d,p a b c d∧q a b c d)(k:∀a b c d,p a b c d→q a b c d→P):P:=Sr h fun a b c d h=>k a b c d h.1 h.2
theorem Zb{p q r:α→β→γ→δ→Prop}(h:∃a b c d,p a b c d∧q a b c d∧r a b c d)(k:∀a b c d,p a b c d→q a b c d→r a b c d→P):P:=Sr h fun a b c d h=>k a b c d h.1 h.2.1 h.2.2
theorem ka(h:p∧q)(k:p→q→P):P:=k h.1 h.2
theorem AP(h:p∧q∧r)(k:p→q→r→P):P:=k h.1 h.2.1 h.2.2
theorem Zc(h:p∧q∧r∧s)(k:p→q→r→s→P):P:=k h.1 h.2.1 h.2.2.1 h.2.2.2
end
section
variable{den:Code→Sem Fin}{p:Program}{w:World}
noncomputable def yY(den:Code→Sem Fin)(p:Program)(w:World)(s:SharedT)(t:Thread):Option (SharedT×Thread):=Sem.casesOn (motive:=fun _=>Option (SharedT×Thread)) t.cur (fun f=>PySem.Fin.casesOn (motive:=fun _=>Option (SharedT×Thread)) f (fun _=>stepT den p w s t) (fun c=>some (s,⟨den c,c,t.pos,t.stack⟩))) (fun _=>stepT den p w s t) (fun _=>stepT den p w s t) (fun _=>stepT den p w s t) (fun _ _=>stepT den p w s t) (fun _ _=>stepT den p w s t) (fun _ _ _=>stepT den p w s t) (fun _ _ _ _=>stepT den p w s t) (fun _ _=>stepT den p w s t) (fun _ _=>stepT den p w s t) (fun _ _=>stepT den p w s t) (fun _ _=>stepT den p w s t) (fun _=>stepT den p w s t) (fun _=>stepT den p w s t) (fun _ _ _=>stepT den p w s t) (fun _ _ _=>stepT den p w s t) (fun c h g l k=>some (s,⟨den c,c,t.pos,.ret k h g l t.code t.pos []::t.stack⟩)) (fun _ _=>stepT den p w s t) (fun _ _=>stepT den p w s t) (fun _ _=>stepT den p w s t) (fun _ _ _ _=>stepT den p w s t) (fun _ _ _ _=>stepT den p w s t) (fun _=>stepT den p w s t) (fun _ _=>stepT den p w s t) (fun _=>stepT den p w s t) (fun _ _ _ _ _=>stepT den p w s t)
theorem EA{s s':SharedT}{cur:Sem Fin}{code:Code}{pos:Pos}{stack:List Frame}{t':Thread}(h:yY den p w s ⟨cur,code,pos,stack⟩=some (s',t')):stepK den p w s.abs ⟨cur,code,pos,stack⟩=.go s'.abs t':=by
 cases cur with
 |pure x=>cases x with
  |again c=>cases h;rfl
  |_=>delta yY at h;exact stepT_spec h
 |call c h' g l k=>cases h;rfl
 |_=>delta yY at h;exact stepT_spec h
noncomputable def P6(den:Code→Sem Fin)(p:Program)(w:World)(s:SharedT)(t:Thread):Option (SharedT×Thread):=bif t.loud then none else yY den p w s t
theorem EB{s s':SharedT}(h:P6 den p w s t=some (s',t')):stepI den p w s.abs t=.go s'.abs t':=by
 cases hl:t.loud with
 |true=>exact nomatch (congrArg (fun b=>bif b then none else yY den p w s t) hl).symm.trans h
 |false=>exact(stepI_quiet den p w hl).trans (EA ((congrArg (fun b=>bif b then none else yY den p w s t) hl).symm.trans h))
noncomputable def goN(den:Code→Sem Fin)(p:Program)(w:World):Nat→SharedT→Thread→Option (SharedT×Thread)
 |0,s,t=>some (s,t)
 |n+1,s,t=>(P6 den p w s t).bind fun r=>goN den p w n r.1 r.2
end
noncomputable def Ends(p:Program)(w:World)(Φ:Shared→Prop)(s:Shared)(t:Thread):Prop:=∃f pZ,Φ pZ∧Runs (model p w) (Ctx.of t.code []) t.pos t.cur t.stack s (.ret (.ok f)) pZ
section
variable{p:Program}{w:World}{Φ:Shared→Prop}
theorem Ends.step(h:stepI (denote table) p w s t=.go s' t')(e:Ends p w Φ s' t'):Ends p w Φ s t:=by
 obtain⟨f,pZ,ML,r⟩:=e;refine⟨f,pZ,ML,runs_iff_reach.mpr (.step (t₁:=t'.cur) (c₁:=t'.code) (p₁:=t'.pos) (pre₁:=t'.stack) ?_ (runs_iff_reach.mp r))⟩;rw[bN,bN];exact h
theorem Ends.go:∀{s s':SharedT} {t t':Thread},goN (denote fF) p w n s t=some (s',t')→Ends p w Φ s'.abs t'→Ends p w Φ s.abs t:=by
 induction n with
 |zero=>intro s s' t t' h e;cases h;exact e
 |succ n ih=>
  intro s s' t t' h e;obtain⟨r,hs,hr⟩:=dH.mp h;have e1:=EB hs;rw[←table_eq_tree] at e1;exact(ih hr e).step e1
theorem Ends.wrap{α:Type}{m:Sem α}{K:α→Sem Fin}{H:Value→Sem Fin}{gd:Bool→Bool}{lv:List Value→List Value}{c:Code}{q:Pos}{B:List Frame}{s:Shared}{A:Around}{Q:α→Shared→Prop}
 (hA:(Ctx.of c B).In A) (h:aH (model p w) A m Q (fun _ _=>False) s) (k:∀a s' q',Q a s'→Ends p w Φ s' ⟨K a,c,q',B⟩):Ends p w Φ s ⟨m.wrap K H gd lv,c,q,B⟩:=by
 have h':=h ((Ctx.of c []).over B) q (by rw[←Ctx.of_append,bN];exact hA);obtain⟨e,pZ,r,ML,f,rfl⟩:=runs_wrap_of_wp (Φ:=fun e pZ=>Φ pZ∧∃f,e=.ret (.ok f)) K H gd lv m h' (fun a p' s' hq=>by
  obtain⟨f,pZ,ML,r⟩:=k a s' p' hq;exact⟨_,pZ,r,ML,f,rfl⟩) (fun _ _ _ hf=>hf.elim)
 exact⟨f,pZ,ML,r⟩
theorem Ends.bind{α:Type}{m:Sem α}{K:α→Sem Fin}{c:Code}{q:Pos}{B:List Frame}{s:Shared}{A:Around}{Q:α→Shared→Prop}
 (hA:(Ctx.of c B).In A) (h:aH (model p w) A m Q (fun _ _=>False) s) (k:∀a s' q',Q a s'→Ends p w Φ s' ⟨K a,c,q',B⟩):Ends p w Φ s ⟨m>>=K,c,q,B⟩:=by
 rw[Sem.bind_eq_wrap'];exact Ends.wrap hA h k
theorem Ends.Tg{s:Shared}(hz:s.asleep)(e:Ends p w Φ s t)(hg:∀pZ,Φ pZ→gZ pZ.gens=false):∃n f c q σ pZ,schedN (denote table) p w n (.single s t)=.running (.single σ ⟨.pure (.done f),c,q,[]⟩)∧σ.forget=pZ.forget∧Φ pZ:=by
 obtain⟨f,pZ,ML,r⟩:=e;obtain⟨n,t',c',p',aBU,hn,rfl,rfl⟩:=(runs_iff_reach.mp r).runN;rw[bN,bN] at hn;have hh:(model p w).runN (n+1) s t=.halted (outcomeOf (.ok f)) pZ:=by
  rw[runN_snoc hn,step_leaf_nil];simp only[finish,hg pZ ML,eP,if_false]
 obtain⟨σ',hr,hf,hc⟩:=runNI_real (denote table) p w hh (outcomeOf_ends _);have iv:∀k cw,runN (denote table) p w k s t≠.halted (.unsupported "lifetime:generator-with-cleanup-left-suspended") cw:=by
  intro k cw hk;have a:=runN_mono (denote table) p w (n+1) k s t _ σ' hr;have b:=runN_mono (denote table) p w k (n+1) s t _ cw hk;rw[Nat.add_comm,b] at a
  injection a with a1 _
  cases a1
 obtain⟨σ,tau,YG,h1,h2⟩:=runNI_running_real hn;obtain⟨cur,code,pos,stack⟩:=tau;simp only[Thread.forget,Thread.mk.injEq,forgetAll] at h2;obtain⟨e2,e3,e4,e5⟩:=h2;have MB:stack=[]:=by cases stack with|nil=>rfl|cons x xs=>simp at e5
 subst MB e2 e3 e4;refine⟨n,f,code,pos,σ,pZ,?_,h1,ML⟩;rw[schedN_eq_runN (denote table) p w s t hz ⟨hc,iv⟩ n,show runN (denote table) p w n s t=_ from YG];rfl
end
end MineH.Internal
namespace MineH.Internal
open PySem PySem.W PySem.Calls PyProof.Rows
open SetTable
noncomputable def MY(M:Nat):Nat→Nat→Nat
 |0,i=>i
 |k+1,i=>MY M k ((5*i+1)%M)
theorem vA(M:Nat):∀a b i,MY M (a+b) i=MY M b (MY M a i)
 |0,b,i=>by rw[gG];rfl
 |a+1,b,i=>by rw[show a+1+b=(a+b)+1 by lia];exact vA M a b _
noncomputable def Qo:List Nat:=[0,1,70,111,28,109,2,123,120,25,126,71,20,5,58,83,112,49,54,31,12,29,114,43,104,73,110,119,4,53,42,3,96,97,38,79,124,77,98,91,88,121,94,39,116,101,26,51,80,17,22,127,108,125,82,11,72,41,78,87,100,21,10,99,64,65,6,47,92,45,66,59,56,89,62,7,84,69,122,19,48,113,118,95,76,93,50,107,40,9,46,55,68,117,106,67,32,33,102,15,60,13,34,27,24,57,30,103,52,37,90,115,16,81,86,63,44,61,18,75,8,105,14,23,36,85,74,35]
noncomputable def WN:List Nat:=[0,1,6,7,4,5,2,3]
noncomputable def Reaches(M:Nat):Prop:=∀i<M,∀j<M,∃k<M,MY M k i=j
theorem w9(inv:List Nat)(h1:MY M M 0=0)(h2:∀j<M,inv.getD j 0<M∧MY M (inv.getD j 0) 0=j):Reaches M:=fun i hi j hj=>by
 refine ka (h2 i hi) fun a1 a2=>?_;refine ka (h2 j hj) fun b1 b2=>?_;generalize inv.getD i 0=a at a1 a2;generalize inv.getD j 0=b at b1 b2
 by_cases h:a≤b
 ·refine⟨b-a,(Nat.sub_lt_of_lt b1),?_⟩
  rw[←a2,←vA,show a+(b-a)=b by lia,b2]
 ·refine⟨b+M-a,by lia,?_⟩
  rw[←a2,←vA,show a+(b+M-a)=M+b by lia,vA,h1,b2]
theorem wa:Reaches 128:=w9 Qo (by decide +kernel) (by decide +kernel)
theorem Kj:Reaches 8:=w9 WN (by decide +kernel) (by decide +kernel)
noncomputable def tries(mask:Nat):Nat→Nat→Nat→Nat×Nat
 |0,i,p=>(i,p)
 |m+1,i,p=>tries mask m (leap mask i p).1 (leap mask i p).2
theorem tr(mask:Nat):∀a b i p,tries mask (a+b) i p=tries mask b (tries mask a i p).1 (tries mask a i p).2
 |0,b,i,p=>by rw[gG];rfl
 |a+1,b,i,p=>by rw[show a+1+b=(a+b)+1 by lia];exact tr mask a b _ _
theorem wb(mask:Nat):∀m i p,(tries mask m i p).2=p/32^m
 |0,i,p=>by simp[tries]
 |m+1,i,p=>by
  rw[tries,wb mask m];show p/32/32^m=_;rw[Nat.div_div_eq_div_mul,Nat.pow_succ,Nat.mul_comm]
theorem Kk(mask m i p:Nat):(tries mask (m+1) i p).1<mask+1:=by
 rw[tr mask m 1];exact Nat.mod_lt _ (Nat.succ_pos _)
theorem yZ(mask:Nat):∀m i,(tries mask m i 0).1=MY (mask+1) m i
 |0,_=>rfl
 |m+1,i=>by
  rw[tries,MY,show(leap mask i 0).2=0 from rfl,yZ mask m];show MY (mask+1) m ((i*5+1+0)%(mask+1))=_;rw[Nat.mul_comm,Nat.add_zero]
theorem Ht{mask:Nat}(R:Reaches (mask+1))(i p j:Nat)(hp:p<2^64)(hj:j<mask+1):∃m<mask+15,(tries mask m i p).1=j:=by
 refine aq (R _ (Kk mask 12 i p) j hj) fun k hk e=>?_;refine⟨13+k,by lia,?_⟩;rw[tr,wb mask 13,show p/32^13=0 from Nat.div_eq_of_lt (aA (aE hp) (by decide)),yZ];exact e
theorem y0{mask:Nat}{owner:Array (Option Nat)}:∀(fuel i p:Nat),(∃m<fuel,(owner.getD (tries mask m i p).1 (some 0)).isNone=true)→∃j,layClean.free mask owner fuel i p=some j∧(owner.getD j (some 0)).isNone=true
 |0,_,_,⟨_,h,_⟩=>by lia
 |fuel+1,i,p,⟨m,hm,h⟩=>by
  rw[layClean.free];cases hf:(bW (runEnd mask i+1-i)).find? fun k=>(owner.getD (i+k) (some 0)).isNone with
  |some k=>exact⟨i+k,rfl,by simpa using List.find?_some hf⟩
  |none=>
   have h0:¬(owner.getD i (some 0)).isNone=true:=by
    have:=List.find?_eq_none.mp hf 0 (by
     have:i≤runEnd mask i:=by unfold runEnd;split<;>lia
     simp;lia)
    simpa using this
   cases m with
   |zero=>exact absurd h h0
   |succ m=>exact y0 fuel _ _ ⟨m,(fC hm),h⟩
noncomputable def pP(owner:Array (Option Nat)):List Nat:=owner.toList.filterMap id
theorem N8{l:List (Option Nat)}(h:∀x∈l,x.isSome=true):(l.filterMap id).length=l.length:=by
 induction l with
 |nil=>rfl
 |cons x l ih=>
  obtain⟨y,rfl⟩:=eU.mp (h x (.head _));simp[ih fun z hz=>h z (.tail _ hz)]
theorem N9{owner:Array (Option Nat)}(h:(owner.getD j (some 0)).isNone=true):(pP (owner.setIfInBounds j (some k))).Perm (k::pP owner)∧j<owner.size:=by
 have hj:j<owner.size:=by
  rcases Nat.lt_or_ge j owner.size with q|q
  ·exact q
  ·rw[fG,eK q] at h;cases h
 refine⟨?_,hj⟩;have he:owner.toList[j]'(by simpa using hj)=none:=by
  rw[fG,bC hj] at h
  simpa using h
 unfold pP;rw[Array.toList_setIfInBounds,List.set_eq_take_append_cons_drop,if_pos (by simpa using hj),List.filterMap_append,List.filterMap_cons_some (f:=id) (b:=k) rfl];have e2:owner.toList=owner.toList.take j++none::owner.toList.drop (j+1):=by
  rw[←he,←cZ,iP]
 conv=>rhs;rw[e2]
 rw[List.filterMap_append,List.filterMap_cons_none rfl];exact List.perm_middle
theorem Bf{mask:Nat}(R:Reaches (mask+1)):∀(hs:List Int) (owner:Array (Option Nat)) (k:Nat),owner.size=mask+1→(pP owner).Perm (bW k)→k+hs.length≤mask→
 ∃xP,(hs.foldl (init:=some (owner,k)) fun acc h=>do
  let (owner,k) ←acc
  let j ←layClean.free mask owner (turns mask) (bits h%(mask+1)) (bits h)
  pure (owner.setIfInBounds j (some k),k+1))=some (xP,k+hs.length)∧xP.size=mask+1∧(pP xP).Perm (bW (k+hs.length))
 |[],owner,k,h1,h2,_=>⟨owner,rfl,h1,h2⟩
 |h::hs,owner,k,h1,h2,h3=>by
  have hl:(pP owner).length=k:=by rw[h2.length_eq,fP]
  obtain⟨j0,hj0,hn⟩:∃j<mask+1,(owner.getD j (some 0)).isNone=true:=by
   refine Classical.byContradiction fun hc=>?_;have:(pP owner).length=owner.toList.length:=N8 fun x hx=>by
    obtain⟨j,hj,rfl⟩:=jD hx;have Xa:j<owner.size:=by simpa using hj
    cases hq:owner.toList[j] with
    |some y=>rfl
    |none=>exact absurd ⟨j,(aT hj (bO h1)),by rw[fG,bC Xa];simpa using hq⟩ hc
   simp only[aS] at this;simp at h3
   lia
  refine aq (Ht R (bits h%(mask+1)) (bits h) j0 (by unfold bits;lia) hj0) fun m hm e=>?_;obtain⟨j,hf,Ic⟩:=y0 (mask:=mask) (owner:=owner) (turns mask) (bits h%(mask+1)) (bits h) ⟨m,hm,by rw[e];exact hn⟩;refine ka (N9 (k:=k) Ic) fun hp hjl=>?_;have h2':(pP (owner.setIfInBounds j (some k))).Perm (bW (k+1)):=by
   refine hp.trans ((h2.cons k).trans ?_);rw[List.range_succ];exact(List.perm_append_singleton k _).symm
  refine q9 (Bf R hs _ (k+1) (by rw[Array.size_setIfInBounds];exact h1) h2' (by simp at h3;lia)) fun xP e1 e2 e3=>?_;refine⟨xP,?_,e2,by rw[bA,show k+(hs.length+1)=k+1+hs.length by lia];exact e3⟩;rw[List.foldl_cons];show List.foldl _ (do
   let j ←layClean.free mask owner (turns mask) (bits h%(mask+1)) (bits h)
   pure (owner.setIfInBounds j (some k),k+1)) hs=_
  rw[hf,bA,show k+(hs.length+1)=k+1+hs.length by lia];exact e1
theorem F9{mask:Nat}(R:Reaches (mask+1))(finger moves:Nat)(led plain:Bool)(hs:Array Int)(hn:hs.size≤mask):∃t order,laid mask finger moves led plain hs=some (t,order)∧order.toList.Perm (bW hs.size)∧t.place.size=hs.size∧t.dummies=#[]∧t.mask=mask:=by
 refine q9 (Bf R hs.toList (Array.replicate (mask+1) none) 0 (by simp) (by simp[pP]) (by simpa using hn)) fun owner e1 e2 e3=>?_;rw[gG] at e1 e3;have hc:layClean mask hs=some owner:=by
  delta layClean;rw[←Array.foldl_toList,e1];rfl
 have Ig:∀f:Nat→Option Nat,f=(fun j=>owner.getD j none)→(((bW (mask+1)).filterMap fun j=>(f j).map (j,·)).map (·.2))=pP owner:=by
  rintro f rfl
  rw[List.map_filterMap];delta pP;have:owner.toList=(bW (mask+1)).map fun j=>owner.getD j none:=by
   apply List.ext_getElem
   ·simp[e2]
   ·intro i h1 h2
    simp only[List.getElem_map,List.getElem_range];rw[fG,bC h1];simp
  rw[this,List.filterMap_map]
  congr 1
  funext j
  show gM _ (gM _ (owner.getD j none))=owner.getD j none;cases owner.getD j none<;>rfl
 delta laid;rw[hc];refine⟨_,_,rfl,?_,?_,rfl,rfl⟩
 ·rw[Ig _ rfl,←aS];exact e3
 ·have:=(Ig _ rfl)▸e3.length_eq
  simpa using this
end MineH.Internal
namespace MineH.Internal
open PySem PySem.W PySem.Calls PyProof.Rows
theorem y1{h:Heap}(e:h.get? a=some o)(q:f o=g o):h.update a f=h.update a g:=by
 obtain⟨objs,life⟩:=h;have e':objs[a]?=some o:=by
  simp only[Heap.get?] at e;revert e;cases objs[a]? with
  |none=>intro e;cases e
  |some x=>intro e;obtain⟨c,d,dt,sl⟩:=x;cases dt<;>cases e<;>rfl
 show Heap.mk (objs.modify a f) life=Heap.mk (objs.modify a g) life
 congr 1
 apply gB;intro i;rw[dB,dB]
 by_cases hi:a=i
 ·subst hi;simp[e',q]
 ·simp[hi]
theorem z7{h:Heap}:(h.update a f).update a g=h.update a (g∘f):=by
 obtain⟨objs,life⟩:=h;show Heap.mk ((objs.modify a f).modify a g) life=Heap.mk (objs.modify a (g∘f)) life
 congr 1
 apply gB;intro i;rw[dB,dB,dB]
 by_cases hi:a=i
 ·subst hi;cases objs[a]?<;>simp
 ·simp[hi]
noncomputable def b9(es:Array (Int×Value))(n:Nat)(t:SetTable):Obj:={cls:=.type "frozenset",data:=.set es n t}
noncomputable def putAt(h:Heap)(a:Addr)(o:Obj):Heap:=h.update a fun _=>o
theorem y2{h:Heap}(e:h.get? a=some (b9 es n t)):(putAt h a (b9 fu n' t')).get? a=some (b9 fu n' t'):=
 Heap.get?_update_self _ e rfl
theorem Kl{h:Heap}(e:b≠a):(putAt h a o).get? b=h.get? b:=Heap.get?_update_ne _ _ _ _ e
theorem pQ:putAt (putAt h a o) a o'=putAt h a o':=z7
noncomputable def code(e:Int×Value):Nat:=match e.2 with
 |.str x _=>x.cps.getD 0 0
 |_=>0
structure FS(es:Array (Int×Value))(t:SetTable)(l:List Nat):Prop where
 str:∀e∈es.toList,∃c tk,e.2=.str ⟨#[c]⟩ tk
 Na:(es.toList.map code).Perm l
 pj:l.Nodup
 fits:t.fits es.size=true
 lt:l.length<1000
namespace FS
variable{es fu:Array (Int×Value)}{t t':SetTable}{l:List Nat}
theorem size(F:FS es t l):es.size=l.length:=by rw[←F.Na.length_eq,aM,aS]
theorem perm(F:FS es t l)(p:fu.toList.Perm es.toList)(f:t'.fits fu.size=true):FS fu t' l:=⟨fun e he=>F.str e (p.mem_iff.mp he),(p.map _).trans F.Na,F.pj,f,F.lt⟩
theorem scan(F:FS es t l):byScan (.str ⟨#[c]⟩ tk) es=true:=by
 have h1:es.all (fun e=>e.2.scannable)=true:=by
  rw[←iJ,bQ];intro e he;obtain⟨c,tk,q⟩:=F.str e he;rw[q];rfl
 have:=F.size;have:=F.lt;simp only[byScan,h1,Bool.and_true,cG,decide_eq_true_eq];exact⟨rfl,by unfold iL;lia⟩
theorem exact(F:FS es t l):es.all (fun e=>isExactStrKey e.2)=true:=by
 rw[←iJ,bQ];intro e he;obtain⟨c,tk,q⟩:=F.str e he;rw[q];rfl
theorem isStr(F:FS es t l){e:Int×Value}(he:e∈es.toList):e.2.isStr ⟨#[c]⟩=decide (code e=c):=by
 obtain⟨d,tk,q⟩:=F.str e he;unfold code;rw[q]
 by_cases h:d=c
 ·subst h;simp[Value.isStr]
 ·simp[Value.isStr,h]
theorem find_none(F:FS es t l)(hc:c∉l):es.findIdx? (fun e=>e.2.isStr ⟨#[c]⟩)=none:=by
 have:es.findIdx? (fun e=>e.2.isStr ⟨#[c]⟩)=es.toList.findIdx? (fun e=>e.2.isStr ⟨#[c]⟩):=by cases es;simp
 rw[this,gV];intro e he;rw[F.isStr he];simp only[decide_eq_false_iff_not]
 rintro rfl
 exact hc (F.Na.mem_iff.mp (List.mem_map_of_mem he))
theorem find_some(F:FS es t l)(hc:c∈l):∃i,∃h:i<es.size,es.findIdx? (fun e=>e.2.isStr ⟨#[c]⟩)=some i∧code es[i]=c:=by
 have h0:es.findIdx? (fun e=>e.2.isStr ⟨#[c]⟩)=es.toList.findIdx? (fun e=>e.2.isStr ⟨#[c]⟩):=by cases es;simp
 rw[h0];cases hr:es.toList.findIdx? (fun e=>e.2.isStr ⟨#[c]⟩) with
 |none=>
  obtain⟨e,he,rfl⟩:=bH.mp (F.Na.mem_iff.mpr hc);have:=gV.mp hr e he;rw[F.isStr he] at this;simp at this
 |some i=>
  obtain⟨hi,hp,_⟩:=fX.mp hr;rw[F.isStr (List.getElem_mem hi)] at hp;exact⟨i,by simpa using hi,rfl,by simpa using hp⟩
theorem push(F:FS es t l)(hc:c∉l)(hl:l.length+1<1000)(p:fu.toList.Perm (es.push (h,.str ⟨#[c]⟩ tk)).toList)(f:t'.fits fu.size=true):FS fu t' (c::l):=by
 rw[iA] at p;refine⟨fun e he=>?_,?_,bV.mpr ⟨hc,F.pj⟩,f,by simpa using hl⟩
 ·rcases cB.mp (p.mem_iff.mp he) with q|q
  ·exact F.str e q
  ·rw[aK] at q;subst q;exact⟨c,tk,rfl⟩
 ·refine(p.map _).trans ?_
  rw[bR];refine(List.perm_append_singleton _ _).trans ?_;exact F.Na.cons c
theorem erase(F:FS es t l)(hi:i<es.size)(f:t'.fits (SetTable.eraseAt es i).size=true):FS (SetTable.eraseAt es i) t' (l.erase (code es[i])):=by
 have e:(SetTable.eraseAt es i).toList=es.toList.take i++es.toList.drop (i+1):=by
  simp[SetTable.eraseAt,List.extract_eq_take_drop,cK]
 have Oa:i<es.toList.length:=by simpa using hi
 have e2:es.toList.Perm (es[i]::(es.toList.take i++es.toList.drop (i+1))):=by
  conv=>lhs;rw[←iP i es.toList,cZ Oa]
  exact List.perm_middle
 refine⟨fun x hx=>?_,?_,F.pj.erase _,f,aA (List.length_erase_le) F.lt⟩
 ·rw[e] at hx
  exact F.str x (e2.mem_iff.mpr (iX _ hx))
 ·rw[e]
  have h1:=((e2.map code).symm.trans F.Na).erase (code es[i]);rw[aN,List.erase_cons_head] at h1;exact h1
end FS
section
variable{prog:Program}{w:World}{A:Around}{E:Value→Shared→Prop}{s:Shared}
theorem z8(b:Bool)(h:Q () s):aH (model prog w) A (match b with|true=>rule "set.scan.the-table-gave-way"|false=>pure ()) Q E s:=by
 cases b
 ·exact aF h
 ·exact fR h
theorem Qp:Obj.putSet fu t' (b9 es n t)=b9 fu (n+1) t':=rfl
theorem nX{es fu:Array (Int×Value)}(ho:s.heap.get? a=some (b9 es n t))(hz:fu.size<1000)
 (h:Q () {s with heap:=putAt s.heap a (b9 fu (n+1) t')}):aH (model prog w) A (storeSet a fu t') Q E s:=by
 refine wpAny_storeSet_of ho rfl ?_ (by rw[eJ];exact aG (aE hz) (by decide));rw[y1 (g:=fun _=>b9 fu (n+1) t') ho Qp];exact h
theorem fq(F:FS es t l)(ho:s.heap.get? a=some (b9 es n t))(h:Q (es,n,t) s):
 aH (model prog w) A (setState a) Q E s:=wpAny_setState_of ho rfl F.fits h
theorem Fi{g:Bool→Sem Unit}(hg:∀(b:Bool) (a9:Shared) (Q':Unit→Shared→Prop),Q' () a9→aH (model prog w) A (g b) Q' E a9)
 {a:Addr} {es E7:Array (Int×Value)} {n:Nat} {t t2:SetTable} {l:List Nat} (ho:s.heap.get? a=some (b9 es n t)) (F:FS E7 t2 l) {CV:Bool} {R:Option Bool→Shared→Prop}
 (h:∀fu n' t',FS fu t' l→R (some true) {s with heap:=putAt s.heap a (b9 fu n' t')}):
 aH (model prog w) A (do
  storeSet a E7 t2
  if(!CV&&t2.tooFull)=true then do
   g (relayAll t2 E7 (SetTable.grown E7.size)).2.2
   storeSet a (relayAll t2 E7 (SetTable.grown E7.size)).1 (relayAll t2 E7 (SetTable.grown E7.size)).2.1
   pure (some true)
   else pure (some true)) R E s:=by
 have hz:E7.size<1000:=by rw[F.size];exact F.lt
 refine aB (nX ho hz ?_)
 split
 ·have hp:=relayAll_perm t2 E7 (SetTable.grown E7.size)
  have hf:=relayAll_fits t2 E7 (SetTable.grown E7.size);have F2:=F.perm hp hf;refine aB (hg _ _ _ ?_);refine aB (nX (y2 ho) (by rw[F2.size];exact F2.lt) ?_);dsimp only;rw[pQ];exact aF (h _ _ _ F2)
 ·exact aF (h _ _ _ F)
theorem Bg{l:List Nat}(ho:s.heap.get? a=some (b9 es n t))(F:FS es t l)(hc:c∉l)(hl:l.length+1<1000)
 (h:∀fu n' t',FS fu t' (c::l)→Q true {s with heap:=putAt s.heap a (b9 fu n' t')}):aH (model prog w) A (setAddHashed a (.str ⟨#[c]⟩ tk) hh) Q E s:=by
 refine aQ (aB (fq F ho ?_));dsimp only;rw[F.scan];refine cT rfl ?_;refine aB (aB (fR ?_));delta setScan;dsimp only;rw[if_pos F.exact];delta setScanStrs;rw[F.find_none hc];refine aB (aF ?_);have MM:=layNew_perm t es hh (.str ⟨#[c]⟩ tk);have MN:=layNew_fits t es hh (.str ⟨#[c]⟩ tk);generalize layNew t es hh (.str ⟨#[c]⟩ tk)=L at MM MN ⊢;obtain⟨E7,t1,CV,aBY⟩:=L;refine aB (z8 _ ?_)
 split
 ·refine aB ?_
  rw[hashByValue_scannable 8 rfl];refine aF ?_;refine Fi ?_ ho (F.push hc hl MM (t':=if plainKind (.str ⟨#[c]⟩ tk)=true then t1 else{t1 with plain:=false}) ?_) ?_
  ·exact fun b a9 Q' hq=>z8 b hq
  ·exact SetTable.fits_plain_off MN
  ·exact fun fu n' t' F'=>aF (h fu n' t' F')
 ·refine aB (aF ?_)
  refine Fi ?_ ho (F.push hc hl MM MN) ?_
  ·exact fun b a9 Q' hq=>z8 b hq
  ·exact fun fu n' t' F'=>aF (h fu n' t' F')
end
section
variable{prog:Program}{w:World}{A:Around}{E:Value→Shared→Prop}{s:Shared}
theorem wc:eF (.type "frozenset") (.type "set")=pure false:=by rw[bK];kernel_rfl
theorem Hu:eF (.type "frozenset") (.type "frozenset")=pure true:=by rw[bK];kernel_rfl
theorem tu(ho:s.heap.get? a=some (b9 es n t)):s.TypeIs (.ref a) "frozenset":=⟨_,ho,rfl⟩
theorem mJ(ho:s.heap.get? a=some (b9 es n t))(h:Q true s):aH (model prog w) A (Builtin.Frozenset.isAnySet (.ref a)) Q E s:=by
 refine aB (eN (tu ho) wc ?_);exact eN (tu ho) Hu h
theorem we{h:Heap}:putAt (h.push o) h.objs.size o'=h.push o':=by
 obtain⟨objs,life⟩:=h;show Heap.mk ((objs.push o).modify objs.size _) life=Heap.mk (objs.push o') life
 congr 1
 apply gB;intro i;rw[dB,Array.getElem?_push,Array.getElem?_push]
 by_cases hi:objs.size=i
 ·subst hi;simp
 ·simp[hi,Ne.symm hi]
theorem Km{α:Type}(f:Nat→Nat)(x:α):pickOrder f #[x]=#[x]:=by
 show pickOrder.go f 1 0 [x] #[]=_;rw[pickOrder.go,show f 0 % [x].length=0 from Nat.mod_one _];rfl
theorem Bh{h:Heap}(e:h.get? a=some o):(h.update a fun _=>o)=h:=by
 rw[y1 (f:=fun _=>o) (g:=id) e rfl];obtain⟨objs,life⟩:=h;show Heap.mk (objs.modify a id) life=Heap.mk objs life
 congr 1
 apply gB;intro i;rw[dB]
 by_cases hi:a=i
 ·subst hi;cases objs[a]?<;>simp
 ·simp[hi]
theorem Bi(F:FS #[e] t l)(ho:s.heap.get? o=some (b9 #[e] n t))(h:Q #[e] s):
 aH (model prog w) A (setWalkUnseen o others filled) Q E s:=by
 refine aB (fq F ho ?_);refine aB (aB (gQ (aF ?_)));have h1:(decide ((#[e]:Array (Int×Value)).size≤1))=true:=rfl;rw[h1,kJ];refine cT rfl ?_;refine aB (fq F ho ?_);refine aB (aB (gQ (aF ?_)));cases hb:(⟨(model prog w).prog,(model prog w).w.params⟩:Setting).params.followText "set-order" with
 |true=>
  refine cT rfl ?_;refine aB (gQ (aF ?_));rw[Km];exact h
 |false=>
  refine bE rfl ?_;have h2:(!t.plain&&decide ((#[e]:Array (Int×Value)).size>1))=false:=by rw[show decide ((#[e]:Array (Int×Value)).size>1)=false from rfl,Bool.and_false]
  refine(show aH (model prog w) A (if(!t.plain&&decide ((#[e]:Array (Int×Value)).size>1))=true then _ else _) _ E s from ?_);rw[h2];refine bE rfl ?_;refine aB ?_;have h3:(!t.led&&decide ((#[e]:Array (Int×Value)).size>1))=false:=by rw[show decide ((#[e]:Array (Int×Value)).size>1)=false from rfl,Bool.and_false]
  refine(show aH (model prog w) A (if(!t.led&&decide ((#[e]:Array (Int×Value)).size>1))=true then _ else _) _ E s from ?_);rw[h3];refine bE rfl ?_;exact aF (aF h)
theorem sO{es:Array (Int×Value)}{t':SetTable}{order:Array Nat}{m:Sem (Array (Int×Value)×SetTable)}{Q:(Array (Int×Value)×SetTable)→Shared→Prop}(hp:order.toList.Perm (bW es.size))
 (hm:m=(do
  let fu:=order.filterMap (es[·]?)
  if fu.size !=es.size then unsupported "internal:set-table-lost-an-element"
  pure (fu,t'))) (h:∀fu:Array (Int×Value),fu.toList.Perm es.toList→Q (fu,t') s):aH (model prog w) A m Q E s:=by
 subst hm;have p:(order.filterMap (es[·]?)).toList.Perm es.toList:=by
  rw[Array.toList_filterMap];exact(hp.filterMap _).trans (by rw[filterMap_getElem?_range])
 have hs:((order.filterMap (es[·]?)).size !=es.size)=false:=by
  have:=p.length_eq;simp only[aS] at this;simp[this]
 dsimp only;rw[hs];exact aF (h _ p)
noncomputable def lY(n mask:Nat):Prop:=(n<5∧mask=7)∨(5≤n∧SetTable.sizeAbove (n*2)=128∧mask=127)
theorem Nb(h:lY n mask)(h2:n<100):n≤mask:=by
 rcases h with ⟨a,b⟩|⟨a,_,b⟩<;>lia
theorem ED(h:lY n mask):Reaches (mask+1):=by
 rcases h with ⟨_,rfl⟩|⟨_,_,rfl⟩
 ·exact Kj
 ·exact wa
theorem pR{t:SetTable}(h:t.fits 0=true):FS #[] t []:=⟨by simp,by simp,.nil,h,by simp⟩
theorem EE(ho:s.heap.get? a=some (b9 #[] 0 (.fresh 0 0 led)))(hr:lY k mask)
 (h:∀n t,t.place=#[]→t.dummies=#[]→t.mask=mask→Q () {s with heap:=putAt s.heap a (b9 #[] n t)}):aH (model prog w) A (setRoomFor a k) Q E s:=by
 refine aB (fq (l:=[]) (pR rfl) ho ?_);rcases hr with ⟨h1,rfl⟩|⟨h1,h2,rfl⟩
 ·have e:(SetTable.fresh 0 0 led).roomFor k=none:=by
   delta SetTable.roomFor;rw[if_neg (by show ¬(0+k)*5≥7*3;lia)]
  rw[e];refine aF ?_;have:=h 0 (.fresh 0 0 led) rfl rfl rfl;rw[show putAt s.heap a (b9 #[] 0 (.fresh 0 0 led))=s.heap from Bh ho] at this;exact this
 ·have e:(SetTable.fresh 0 0 led).roomFor k=some (k*2):=by
   delta SetTable.roomFor;rw[if_pos (by show(0+k)*5≥7*3;lia)];show some ((0+k)*2)=_;rw[gG]
  rw[e];refine aB (fq (l:=[]) (pR rfl) ho ?_);dsimp only;rw[h2];have e3:(SetTable.fresh 0 0 led).relaid (Array.map (fun x=>x.1) (#[]:Array (Int×Value))) (k*2)=SetTable.laid 127 0 ((SetTable.fresh 0 0 led).movedTo 127) led true #[]:=by
   delta SetTable.relaid;rw[h2,show Array.map (fun x=>x.1) (#[]:Array (Int×Value))=#[] from by simp];rfl
  rw[e3];obtain⟨t',order,e1,p,q1,q2,q3⟩:=F9 wa 0 ((SetTable.fresh 0 0 led).movedTo 127) led true #[] (by simp);rw[e1];refine bE (decide_eq_false (by rw[eJ];exact(by decide))) ?_;refine aB (sO (es:=#[]) (order:=order) (t':=t') p rfl fun fu hp=>?_);dsimp only;have:fu=#[]:=by
   have:=hp.length_eq
   simpa using this
  subst this;refine nX ho (by simp) (h _ t' (by simpa using q1) q2 q3)
end
section
variable{prog:Program}{w:World}{A:Around}{E:Value→Shared→Prop}{s:Shared}
theorem Bj{l:List Nat}(hr:s.heap.get? r=some (b9 #[] 0 (.fresh 0 0 led)))(ho:s.heap.get? o=some (b9 es n t))(F:FS es t l)
 (iv:r≠o) (hl:l≠[]) (hk:l.length<100) (hm:lY l.length mask) (h:∀fu n' t',FS fu t' l→t'.dummies=#[]→t'.mask=mask→Q () {s with heap:=putAt s.heap r (b9 fu n' t')}):aH (model prog w) A (setMerge r o each) Q E s:=by
 have hz:es.size=l.length:=F.size;have hp:0<l.length:=fZ.mpr hl;delta setMerge;refine bE (decide_eq_false (by simpa using iv)) ?_;refine aB (fq F ho ?_);dsimp only;refine bE (decide_eq_false (by simp only[jR,decide_eq_true_eq];lia)) ?_;refine aB (EE hr (by rw[hz];exact hm) fun n₁ t₁ e1 e2 e3=>?_);have oX:(putAt s.heap r (b9 #[] n₁ t₁)).get? r=some (b9 #[] n₁ t₁):=y2 hr;have hf:t₁.fill=0:=by delta SetTable.fill;rw[e1,e2];rfl
 have um:FS #[] t₁ []:=pR (by delta SetTable.fits;rw[hf,e1];rfl);refine aB (fq um oX ?_);dsimp only;have hle:=Nb hm hk;delta SetTable.road;rw[hf];simp only[bne_self_eq_false,eP,↓reduceIte]
 split
 ·rename_i hc
  split at hc
  ·rename_i hq
   simp only[cG,beq_iff_eq,Array.isEmpty_iff] at hq;have ff:=F.fits;refine nX (s:={s with heap:=putAt s.heap r (b9 #[] n₁ t₁)}) oX (by rw[hz];exact aA (aE hk) (by decide)) ?_;dsimp only;rw[pQ];refine h _ _ _ (F.perm .rfl ?_) hq.2 (hq.1.symm.trans e3);exact ff
  ·cases hc
 ·rename_i hc
  split at hc
  ·cases hc
  ·obtain⟨t',order,l1,p,q1,q2,q3⟩:=F9 (ED hm) t₁.finger t₁.moves (t₁.led&&t.led) (t₁.plain&&t.plain) (es.map (·.1)) (by rw[Array.size_map,hz];exact hle)
   rw[e3,l1];rw[Array.size_map] at p q1;refine aB (sO p rfl fun fu hp=>?_);have Si:fu.size=es.size:=by
    have:=hp.length_eq
    simpa using this
   dsimp only;refine nX (s:={s with heap:=putAt s.heap r (b9 #[] n₁ t₁)}) oX (by rw[Si,hz];exact aA (aE hk) (by decide)) ?_;dsimp only;rw[pQ];refine h _ _ _ (F.perm hp ?_) q2 q3;simp only[SetTable.fits,SetTable.fill,q1,q2,q3,Si,hz];simp[hle]
 ·rename_i hc
  split at hc
  ·cases hc
  ·cases hc
theorem Hv{t to:SetTable}{l:List Nat}(hr:s.heap.get? r=some (b9 es n t))(F:FS es t l)
 (ho:s.heap.get? o=some (b9 #[e] no to)) (Fo:FS #[e] to [c]) (iv:r≠o) (hl:l≠[]) (hc:c∉l) (hd:t.dummies=#[]) (hm:t.mask=mask) (CW:(l.length+1)*5<mask*3) (hk:l.length<100)
 (hE:∀(a9:Shared) (Q':Unit→Shared→Prop),a9.heap.get? o=some (b9 #[e] no to)→Q' () a9→aH (model prog w) A each Q' E a9)
 (h:∀fu n' t',FS fu t' (c::l)→Q () {s with heap:=putAt s.heap r (b9 fu n' t')}):aH (model prog w) A (setMerge r o each) Q E s:=by
 have hp:0<l.length:=fZ.mpr hl;have hz:es.size=l.length:=F.size;have SU:t.place.size=l.length:=by
  have:=F.fits;simp only[SetTable.fits,cG,beq_iff_eq] at this;rw[this.1,hz]
 have QO:t.fill=l.length:=by delta SetTable.fill;rw[hd,SU];rfl
 refine kK (Fo.str e (by simp)) fun c' tk he=>?_;have YH:c'=c:=by
  have:=Fo.Na;simp only[aN,dK] at this;have:=List.perm_singleton.mp this;simp only[code,he] at this
  simpa using this
 subst YH;delta setMerge;refine bE (decide_eq_false (by simpa using iv)) ?_;refine aB (fq Fo ho ?_);refine bE (decide_eq_false (by simp)) ?_;refine aB ?_;refine aB (fq F hr ?_);have e1:t.roomFor (#[e]:Array (Int×Value)).size=none:=by
  delta SetTable.roomFor;rw[if_neg (by rw[QO,hm];show ¬(l.length+1)*5≥mask*3;exact Nat.not_le_of_lt CW)]
 rw[e1];refine aF ?_;refine aB (fq F hr ?_);dsimp only;delta SetTable.road;rw[if_pos (by rw[QO];simp;exact hl)];refine aB (Bi Fo ho ?_);simp only[←fE,eT,gH];refine aB (aB (aB (aQ ?_)));rw[he];refine Bg hr F hc (aA (aJ (aE hk) _) (by decide)) fun fu n' t' F'=>?_;have So:(putAt s.heap r (b9 fu n' t')).get? o=some (b9 #[e] no to):=(Kl (Ne.symm iv)).trans ho;refine aB (hE {s with heap:=putAt s.heap r (b9 fu n' t')} _ So ?_);refine aB (fq (s:={s with heap:=putAt s.heap r (b9 fu n' t')}) Fo So ?_);refine bE (decide_eq_false (by simp)) ?_;refine aF ?_;exact aF (aF (h fu n' t' F'))
theorem Hw(h:∀led,Q (.ref s.heap.objs.size) {s with heap:=s.heap.push (b9 #[] 0 (.fresh 0 0 led))}):aH (model prog w) A (newSet (.type "frozenset")) Q E s:=by
 refine aB (aB (gQ (aF ?_)));exact aB (wpAny_alloc (aF (h _)))
theorem Nc (ho:s.heap.get? a=some (b9 es n t)) (h:Q (.type "frozenset") s):aH (model prog w) A (Builtin.Frozenset.baseOf a) Q E s:=by
 refine aB (eN (tu ho) wc ?_);exact aF h
theorem mf(h:Q a s):aH (model prog w) A (Builtin.Frozenset.addrOf (.ref a)) Q E s:=aF h
theorem Fj{l:List Nat}(ho:s.heap.get? o=some (b9 es n t))(F:FS es t l)(hl:l≠[])(hk:l.length<100)(hm:lY l.length mask)
 (h:∀fu n' t',FS fu t' l→t'.dummies=#[]→t'.mask=mask→Q (.ref s.heap.objs.size) {s with heap:=s.heap.push (b9 fu n' t')}):aH (model prog w) A (Builtin.Frozenset.copyOf o) Q E s:=by
 have qK:=Heap.lt_size ho;unfold Builtin.Frozenset.copyOf;refine aB (Nc ho (aB (Hw fun led=>?_)));refine aB (mf ?_);have So:(s.heap.push (b9 #[] 0 (.fresh 0 0 led))).get? o=some (b9 es n t):=Heap.get?_push_of_some _ ho;refine aB (Bj (s:={s with heap:=s.heap.push (b9 #[] 0 (.fresh 0 0 led))}) (Heap.get?_push_size _ rfl) So F (iY qK) hl hk hm fun fu n' t' F' d m=>?_);dsimp only;rw[we];exact aF (h _ _ _ F' d m)
theorem sQ{id:String}{o:Addr}{es:Array (Int×Value)}{n:Nat}{t:SetTable}{l:List Nat}(F:FS es t l)(a9:Shared)(Q':Unit→Shared→Prop)(ho:a9.heap.get? o=some (b9 es n t))(h:Q' () a9):aH (model prog w) A (Builtin.Frozenset.unchanged id o n) Q' E a9:=by
 refine aB (eW ho rfl F.fits ?_);refine bE (decide_eq_false (by simp)) ?_;exact aF h
theorem Th{l:List Nat}(ha:s.heap.get? a=some (b9 es n t))(F:FS es t l)(hb:s.heap.get? b=some (b9 #[e] no to))(Fo:FS #[e] to [c])
 (YI:b≠a) (hl:l≠[]) (hc:c∉l) (hk:l.length<100) (hm:lY l.length mask) (CW:(l.length+1)*5<mask*3)
 (h:∀fu n' t',FS fu t' (c::l)→Q (.done (.ret (.ref s.heap.objs.size))) {s with heap:=s.heap.push (b9 fu n' t')}):aH (model prog w) A (Builtin.«frozenset.__or__» ⟨[.ref a,.ref b],[]⟩) Q E s:=by
 refine(show aH _ _ (Bind.bind (Builtin.Frozenset.slot1 "__or__" ⟨[.ref a,.ref b],[]⟩) _) Q E s from ?_);refine aB (gC (a:=(.ref a,.ref b)) rfl ?_);refine aB (m:=Builtin.Frozenset.isAnySet (.ref a)<&&>Builtin.Frozenset.isAnySet (.ref b)) ?_;refine aB (mJ ha ?_);refine mJ hb ?_;refine bE (decide_eq_false (by rw[Bool.not_true];exact bF)) ?_;refine aB (mf ?_);refine aB ?_;refine(show aH _ _ (Bind.bind (Builtin.Frozenset.copyOf a) _) _ E s from ?_);refine aB (Fj ha F hl hk hm fun mn n₁ t₁ um SW m₁=>?_);refine cT (decide_eq_true (by simpa using YI)) ?_;have u4:(s.heap.push (b9 mn n₁ t₁)).get? b=some (b9 #[e] no to):=Heap.get?_push_of_some _ hb;refine aB (mf ?_);refine aB (aQ ?_);refine aB (mJ (s:={s with heap:=s.heap.push (b9 mn n₁ t₁)}) u4 ?_);refine cT rfl ?_;refine aB (mf ?_);refine aB (eW (s:={s with heap:=s.heap.push (b9 mn n₁ t₁)}) u4 rfl Fo.fits ?_);refine Hv (s:={s with heap:=s.heap.push (b9 mn n₁ t₁)}) (Heap.get?_push_size _ rfl) um u4 Fo (Ne.symm (bU (Heap.lt_size hb))) hl hc SW m₁ CW hk (fun a9 Q' h1 h2=>sQ Fo a9 Q' h1 h2) fun CX E9 Ih uo=>?_;rw[we];exact aF (aF (h _ _ _ uo))
theorem wg{α:Type}{xs:Array α}(hi:i<xs.size):(SetTable.eraseAt xs i).size=xs.size-1:=by
 simp[SetTable.eraseAt];lia
theorem EF{t:SetTable}{l:List Nat}(hr:s.heap.get? r=some (b9 es n t))(F:FS es t l)(hc:c∈l)
 (h:∀fu n' t',FS fu t' (l.erase c)→t'.mask=t.mask→t'.dummies.size=t.dummies.size+1→Q true {s with heap:=putAt s.heap r (b9 fu n' t')}):aH (model prog w) A (setDiscardHashed r (.str ⟨#[c]⟩ tk) hh) Q E s:=by
 obtain⟨i,hi,hf,rfl⟩:=F.find_some hc;refine kK (F.str es[i] (by simp)) fun d Sg he=>?_;have hd:code es[i]=d:=by unfold code;rw[he];rfl
 unfold setDiscardHashed;refine aB ?_;unfold setFind setFindIn;refine aB (fq F hr ?_);dsimp only;rw[F.scan];refine cT rfl ?_;refine aB (fR ?_);refine aB ?_;delta setScan;dsimp only;refine cT (decide_eq_true F.exact) ?_;delta setScanStrs;rw[hf];dsimp only;rw[bC hi];dsimp only;refine aB (eW hr rfl F.fits ?_);refine aB ((strKind prog w).eqBool (a:=⟨#[code es[i]]⟩) (b:=⟨#[code es[i]]⟩) (by rw[he,hd];show Value.isStrOf ⟨#[d]⟩ (.str ⟨#[d]⟩ Sg)=true;simp[Value.isStrOf]) (by show Value.isStrOf ⟨#[code es[i]]⟩ (.str ⟨#[code es[i]]⟩ tk)=true;simp[Value.isStrOf]) ?_);refine bE (decide_eq_false (by rw[jF];exact bF)) ?_;refine aB (eW hr rfl F.fits ?_);simp only[bne_self_eq_false,eP,↓reduceIte,decide_true];refine aF ?_;dsimp only;refine aF ?_;dsimp only;refine aB (fq F hr ?_);dsimp only;have gw:(SetTable.eraseAt es i).size=es.size-1:=wg hi;have Vl:=F.fits;simp only[SetTable.fits,cG,beq_iff_eq,decide_eq_true_eq] at Vl;have ZS:i<t.place.size:=by rw[Vl.1];exact hi
 obtain⟨j,hj⟩:∃j,t.place[i]?=some j:=⟨_,bC ZS⟩;have Gi:t.drop i={t with place:=SetTable.eraseAt t.place i,dummies:=SetTable.insertAt t.dummies (SetTable.below t.dummies j) j}:=by
  delta SetTable.drop;rw[hj]
 have QB:(t.drop i).dummies.size=t.dummies.size+1:=by
  rw[Gi];have:=congrArg cJ (SetTable.toList_insertAt t.dummies (SetTable.below t.dummies j) j);simp only[aS,aV,bA,List.length_take,List.length_drop] at this;show(SetTable.insertAt t.dummies (SetTable.below t.dummies j) j).size=_
  lia
 have VW:(t.drop i).place.size=t.place.size-1:=by rw[Gi];exact wg ZS
 have xr:(t.drop i).fits (SetTable.eraseAt es i).size=true:=by
  have hm:(t.drop i).mask=t.mask:=by rw[Gi]
  have:=Vl.2;simp only[SetTable.fits,SetTable.fill,VW,QB,hm,gw,Vl.1] at *;simp;lia
 have F':=F.erase hi xr;refine aB (nX hr (by rw[F'.size];exact F'.lt) ?_);refine aB (wpAny_point ?_);exact aF (h _ _ _ F' (by rw[Gi]) QB)
theorem qD{l:List Nat}(F:FS es t l)(ha:s.heap.get? a=some (b9 es n t))(h:Q l.length s):aH (model prog w) A (Builtin.Frozenset.sizeOf a) Q E s:=by
 refine aB (wpAny_setEntries_of ha rfl F.fits ?_);rw[F.size];exact aF h
theorem Qq{l:List Nat}(ha:s.heap.get? a=some (b9 es n t))(F:FS es t l)(hb:s.heap.get? b=some (b9 #[e] no to))(Fo:FS #[e] to [c])
 (hl:l≠[]) (hc:c∈l) (hk:l.length<100) (hm:lY l.length 127) (h4:1<l.length/4)
 (h:∀fu n' t',FS fu t' (l.erase c)→Q (.done (.ret (.ref s.heap.objs.size))) {s with heap:=s.heap.push (b9 fu n' t')}):aH (model prog w) A (Builtin.«frozenset.__sub__» ⟨[.ref a,.ref b],[]⟩) Q E s:=by
 refine(show aH _ _ (Bind.bind (Builtin.Frozenset.slot1 "__sub__" ⟨[.ref a,.ref b],[]⟩) _) Q E s from ?_);refine aB (gC (a:=(.ref a,.ref b)) rfl ?_);refine aB (m:=Builtin.Frozenset.isAnySet (.ref a)<&&>Builtin.Frozenset.isAnySet (.ref b)) ?_;refine aB (mJ ha ?_);refine mJ hb ?_;refine bE (decide_eq_false (by rw[Bool.not_true];exact bF)) ?_;refine aB (mf ?_);refine aB ?_;refine aB (mJ hb ?_);refine aB (mf ?_);refine aB (qD Fo hb ?_);refine aB (qD F ha ?_);refine cT (decide_eq_true (by exact h4)) ?_;refine aB (fR ?_);refine aB (Fj ha F hl hk hm fun mn n₁ t₁ um SW m₁=>?_);have u4:(s.heap.push (b9 mn n₁ t₁)).get? b=some (b9 #[e] no to):=Heap.get?_push_of_some _ hb;have oX:(s.heap.push (b9 mn n₁ t₁)).get? s.heap.objs.size=some (b9 mn n₁ t₁):=Heap.get?_push_size _ rfl;have iv:b≠s.heap.objs.size:=bU (Heap.lt_size hb);refine aB (mf ?_);refine aB (aQ ?_);refine bE (decide_eq_false (by simpa using iv)) ?_;refine aB (mJ (s:={s with heap:=s.heap.push (b9 mn n₁ t₁)}) u4 ?_);refine cT rfl ?_;refine aB (mf ?_);refine aB (qD (s:={s with heap:=s.heap.push (b9 mn n₁ t₁)}) Fo u4 ?_);refine aB (qD (s:={s with heap:=s.heap.push (b9 mn n₁ t₁)}) um oX ?_);refine bE (decide_eq_false (by show ¬1/8>l.length;exact Nat.not_lt_of_le (cS _))) ?_;refine aB (eW (s:={s with heap:=s.heap.push (b9 mn n₁ t₁)}) u4 rfl Fo.fits ?_);refine aB (aQ ?_);refine aB (Bi (s:={s with heap:=s.heap.push (b9 mn n₁ t₁)}) Fo u4 ?_);refine kK (Fo.str e (by simp)) fun c' tk he=>?_;have YH:c'=c:=by
  have:=Fo.Na;simp only[aN,dK] at this;have:=List.perm_singleton.mp this;simp only[code,he] at this
  simpa using this
 subst YH;simp only[←fE,eT,gH];refine aB (aB (aB (aQ ?_)));rw[he];refine EF (s:={s with heap:=s.heap.push (b9 mn n₁ t₁)}) oX um hc fun CX E9 Ih uo m₂ YJ=>?_;rw[we];have VX:(s.heap.push (b9 CX E9 Ih)).get? b=some (b9 #[e] no to):=Heap.get?_push_of_some _ hb;have CU:(s.heap.push (b9 CX E9 Ih)).get? s.heap.objs.size=some (b9 CX E9 Ih):=Heap.get?_push_size _ rfl;refine aB (sQ Fo _ _ VX ?_);refine aF (aF (aF ?_));refine aB (fq (s:={s with heap:=s.heap.push (b9 CX E9 Ih)}) uo CU ?_);dsimp only;have hd:Ih.tooManyDummies=false:=by
  delta SetTable.tooManyDummies;rw[YJ,SW,m₂,m₁];rfl
 rw[hd];exact aF (aF (aF (h _ _ _ uo)))
end
noncomputable abbrev pp:Program:=PySem.Challenge.pw_nb0160_01
noncomputable abbrev qx(w:World):=goN (denote fF) pp w
noncomputable def Zl(L:List Obj):BT:=(L.foldl (fun(x:BT×Nat) o=>(x.1.ins x.2 o,x.2+1)) (.nil,0)).1
noncomputable def P7(P:Params):Life:=(boot_heap P).life
noncomputable def sx(P:Params)(L:List Obj)(n:Nat)(g:Array GenState)(k:Nat)(os:OsState):SharedT:=⟨Zl L,n,P7 P,g,boot_drawn,k,os⟩
noncomputable def hp(P:Params)(L:List Obj):Heap:=⟨L.toArray,P7 P⟩
noncomputable def L0(P:Params):List Obj:=[boot_o_0 P,boot_o_1 P,boot_o_2 P,boot_o_3 P,boot_o_4 P,boot_o_5 P,boot_o_6 P,boot_o_7 P,boot_o_8 P,boot_o_9 P,boot_o_10 P]
noncomputable def WO(P:Params):Obj:={cls:=.type "dict",data:=.dict #[{hash:=PyData.keyHash P ("__name__"),key:=.str ("__name__") 165,val:=.str ("cpy313.tomllib._parser") 194},{hash:=PyData.keyHash P ("__doc__"),key:=.str ("__doc__") 166,val:=.none},{hash:=PyData.keyHash P ("__package__"),key:=.str ("__package__") 167,val:=.none},{hash:=PyData.keyHash P ("__loader__"),key:=.str ("__loader__") 168,val:=.builtin "__main__.__loader__#opaque"},{hash:=PyData.keyHash P ("__spec__"),key:=.str ("__spec__") 169,val:=.none},{hash:=PyData.keyHash P ("__annotations__"),key:=.str ("__annotations__") 170,val:=.ref 6},{hash:=PyData.keyHash P ("__builtins__"),key:=.str ("__builtins__") 171,val:=.ref 4},{hash:=PyData.keyHash P ("__file__"),key:=.str ("__file__") 173,val:=.str ("/claim/cut.py") 172},{hash:=PyData.keyHash P ("__cached__"),key:=.str ("__cached__") 174,val:=.none},{hash:=PyData.keyHash P ("_wall"),key:=.str ("_wall") 193,val:=.ref 21}] 10}
noncomputable def o11(P:Params):Obj:={cls:=.type "tuple",data:=.seq #[]}
noncomputable def o12(P:Params):Obj:={cls:=.none,data:=.fields #[.int 1 0,.int 0 0,.ref 20,.int 5 0,.int 23 0,.ref 26]}
noncomputable def o13(P:Params):Obj:={cls:=.type "code",data:=.fields #[.str ("<module>") 182,.str ("<module>") 183,.str ("/claim/cut.py") 184,.int 1 0,.int 0 0,.int 0 0,.int 0 0,.int 0 0,.ref 11,.bool false,.int 181 0,.ref 12,.none,.none,.none,.none,.int 185 0,.int 1 0,.str ("/claim/cut.py") 186]}
noncomputable def o14(P:Params):Obj:={cls:=.type "frame",slots:=#[some (.ref 13),some (.ref 3),some (.ref 3),none,some (.str ("__main__") 164),none,some (.ref 0)]}
noncomputable def Zm(P:Params):Obj:={cls:=.type "tuple",data:=.seq #[]}
noncomputable def Zn(P:Params):Obj:={cls:=.none,data:=.fields #[]}
noncomputable def Zo(P:Params):Obj:={cls:=.type "tuple",data:=.seq #[.str ("k") 190]}
noncomputable def Zp(P:Params):Obj:={cls:=.type "tuple",data:=.seq #[]}
noncomputable def Zq(P:Params):Obj:={cls:=.none,data:=.func {name:="_wall",qualname:="_wall",params:={posonlyargs:=[],args:=[{arg:="k",annotation:=none,pos:={line:=1,col:=10,endLine:=1,endCol:=11}}],vararg:=none,kwonlyargs:=[],kw_defaults:=[],kwarg:=none,defaults:=[]},body:=FuncBody.stmts [Stmt.While (Expr.Constant (Const.bool true) 0 {line:=2,col:=10,endLine:=2,endCol:=14}) [Stmt.Pass {line:=3,col:=8,endLine:=3,endCol:=12}] [] {line:=2,col:=4,endLine:=3,endCol:=12}],scope:={kind:=ScopeKind.function,names:=[("k",NameKind.local)],isGenerator:=false,isCoroutine:=false},globals:=0,closure:=[],defaults:=.none,kwdefaults:=.none}}
noncomputable def Zr(P:Params):Obj:={cls:=.type "code",data:=.fields #[.str ("_wall") 187,.str ("_wall") 188,.str ("/claim/cut.py") 189,.int 1 0,.int 1 0,.int 0 0,.int 0 0,.int 3 0,.ref 15,.bool true,.int 181 0,.ref 16,.none,.ref 17,.ref 18,.ref 19,.int 191 0,.int 1 0,.str ("/claim/cut.py") 192]}
noncomputable def Zs(P:Params):Obj:={cls:=.type "function",data:=.func {name:="_wall",qualname:="_wall",params:={posonlyargs:=[],args:=[{arg:="k",annotation:=none,pos:={line:=1,col:=10,endLine:=1,endCol:=11}}],vararg:=none,kwonlyargs:=[],kw_defaults:=[],kwarg:=none,defaults:=[]},body:=FuncBody.stmts [Stmt.While (Expr.Constant (Const.bool true) 0 {line:=2,col:=10,endLine:=2,endCol:=14}) [Stmt.Pass {line:=3,col:=8,endLine:=3,endCol:=12}] [] {line:=2,col:=4,endLine:=3,endCol:=12}],scope:={kind:=ScopeKind.function,names:=[("k",NameKind.local)],isGenerator:=false,isCoroutine:=false},globals:=3,closure:=[],defaults:=.none,kwdefaults:=.none,pyModule:=.str ("__main__") 164,code:=.ref 20}}
noncomputable def Zt(P:Params):Obj:={cls:=.type "range",data:=.fields #[.int 0 197,.int 32 196,.int 1 198]}
noncomputable def Zu(P:Params):Obj:={cls:=.type "tuple",data:=.seq #[]}
noncomputable def Zv(P:Params):Obj:={cls:=.none,data:=.fields #[]}
noncomputable def Zw(P:Params):Obj:={cls:=.type "code",data:=.fields #[.str ("<genexpr>") 199,.str ("<genexpr>") 200,.str ("/claim/cut.py") 201,.int 5 0,.int 1 0,.int 0 0,.int 0 0,.int 35 0,.ref 24,.bool true,.int 181 0,.ref 25,.none,.none,.none,.none,.int 202 0,.int 5 0,.str ("/claim/cut.py") 203]}
noncomputable def Zx(P:Params):Obj:={cls:=.type "generator",data:=.fields #[.int 0 0,.str ("<genexpr>") 205,.str ("<genexpr>") 206]}
noncomputable def Zy(i:Nat):Obj:=⟨.type "range_iterator",none,.fields #[.int (i:Nat) 0,.int (32-i:Nat) 0,.int 1 0],#[]⟩
noncomputable def Yb(P:Params):cQ:={hash:=PyData.keyHash P (".0":Str),key:=.str (".0":Str) 204,val:=.ref 23}
noncomputable def Zz(P:Params):Nat→Obj
 |0=>⟨.type "frame",none,.dict #[Yb P] 1,#[]⟩
 |i+1=>⟨.type "frame",none,.dict #[Yb P,{hash:=PyData.keyHash P ("i":Str),key:=.str ("i":Str) 208,val:=.int (i:Nat) (207+4*i)}] 2,#[]⟩
noncomputable def LA(P:Params)(i:Nat)(o29:Obj):List Obj:=[boot_o_0 P,boot_o_1 P,boot_o_2 P,WO P,boot_o_4 P,boot_o_5 P,boot_o_6 P,boot_o_7 P,boot_o_8 P,boot_o_9 P,boot_o_10 P,o11 P,o12 P,o13 P,o14 P,Zm P,Zn P,Zo P,Zp P,Zq P,Zr P,Zs P,Zt P,Zy i,Zu P,Zv P,Zw P,Zz P i,Zx P,o29]
noncomputable def gg(a b:Addr):Code:=.builtin "set.update.loop" ⟨[.ref a,.ref b],[]⟩
noncomputable def Io(w:World):World:=w.withFollow "special-get-raises" false
noncomputable def kf(w:World)(os:OsState):=qx (Io w) 136 (sx w.params (L0 w.params) 11 (gR []) boot_toks os) (topStub pp)
noncomputable def tw(w:World)(os:OsState):List Frame:=match kf w os with|some r=>r.2.stack|none=>[]
noncomputable def Hx:Pos:={line:=5,col:=13,endLine:=5,endCol:=51}
noncomputable def Ti(w:World)(os:OsState):Array GenState:=match kf w os with|some r=>r.1.gens|none=>#[]
noncomputable def Kn(w:World):Obj:=b9 #[] 0 (.fresh 0 0 (!w.params.followText "set-order"))
noncomputable def KA(w:World):Prop:=∀os,qx w 136 (sx w.params (L0 w.params) 11 (gR []) boot_toks os) (topStub pp)=some (sx w.params (LA w.params 0 (Kn w)) 30 (Ti w os) 207 os,⟨denote fF (gg 29 28),gg 29 28,Hx,tw w os⟩)
theorem kA(w:World):KA w:=by
 refine byRow2 "special-get-raises" (P:=KA) (fun w=>?_) (fun w=>?_) w
 ·intro os;kernel_rfl
 ·intro os;kernel_rfl
noncomputable def Qr:Env:={scope:=pp.main.scope,locals:=3,globals:=3,cells:=[],code:=.ref 13,frame:=some 14}
noncomputable def jw:Code:=.body pp.main.body Qr
noncomputable abbrev Kt:=Result→Sem Fin
noncomputable def BA(k1 k2 k3 k4:Kt):List Frame:=[.ret k1 none false [.ref 29] (.builtin "frozenset.__new__" ⟨[.type "frozenset",.ref 28],[]⟩) Hx [],.ret k2 none false [] (.builtin "type.__call__" ⟨[.type "frozenset",.ref 28],[]⟩) Hx [],.ret k3 none false [] jw Hx [],.ret k4 none false [] (.builtin "claim.caller" {}) default []]
noncomputable def sy(l:List Frame)(i:Nat):Kt:=match l[i]? with
 |some (.ret k _ _ _ _ _ _)=>k
 |_=>fun _=>.unsupported ""
theorem Nd(w:World)(os:OsState):tw w os=BA (sy (tw w os) 0) (sy (tw w os) 1) (sy (tw w os) 2) (sy (tw w os) 3):=by kernel_rfl
noncomputable def Nf:Expr:=((pp.main.body[2]?:Option Stmt)).elim default fun s=>Stmt.casesOn (motive_2:=fun _=>Expr) s (fun _ _ _ _ _ _ _ _ _ _=>default) (fun _ _ _ _ _ _ _ _ _ _=>default) (fun _ _ _ _ _ _ _ _ _ _ _=>default) (fun _ _=>default) (fun _ _=>default) (fun _ v _=>Expr.casesOn (motive_1:=fun _=>Expr) v (fun _ _ _=>default) (fun _ _ _=>default) (fun l _ _ _=>Expr.casesOn (motive_1:=fun _=>Expr) l (fun _ _ _=>default) (fun _ _ _=>default) (fun _ _ _ _=>default) (fun _ _ _=>default) (fun _ _ _ _=>default) (fun _ _ _ _=>default) (fun _ _ _=>default) (fun _ _ _=>default) (fun _ _ _ _=>default) (fun _ _ _ _=>default) (fun _ _ _ _ _=>default) (fun _ _ _ _=>default) (fun _ _=>default) (fun _ _=>default) (fun _ _=>default) (fun _ _ _ _=>default) (fun _ as _ _=>as.headD default) (fun _ _ _ _=>default) (fun _ _=>default) (fun _ _ _=>default) (fun _ _ _=>default) (fun _ _ _=>default) (fun _ _=>default) (fun _ _=>default) (fun _ _=>default) (fun _ _ _=>default) (fun _ _ _ _=>default)) (fun _ _ _=>default) (fun _ _ _ _=>default) (fun _ _ _ _=>default) (fun _ _ _=>default) (fun _ _ _=>default) (fun _ _ _ _=>default) (fun _ _ _ _=>default) (fun _ _ _ _ _=>default) (fun _ _ _ _=>default) (fun _ _=>default) (fun _ _=>default) (fun _ _=>default) (fun _ _ _ _=>default) (fun _ _ _ _=>default) (fun _ _ _ _=>default) (fun _ _=>default) (fun _ _ _=>default) (fun _ _ _=>default) (fun _ _ _=>default) (fun _ _=>default) (fun _ _=>default) (fun _ _=>default) (fun _ _ _=>default) (fun _ _ _ _=>default)) (fun _ _ _ _ _ _ _=>default) (fun _ _ _ _=>default) (fun _ _ _ _ _=>default) (fun _ _ _ _ _=>default) (fun _ _ _ _ _=>default) (fun _ _ _ _=>default) (fun _ _ _ _=>default) (fun _ _ _=>default) (fun _ _ _=>default) (fun _ _ _=>default) (fun _ _ _=>default) (fun _ _ _ _ _=>default) (fun _ _ _ _ _=>default) (fun _ _ _=>default) (fun _ _=>default) (fun _ _ _ _=>default) (fun _ _=>default) (fun _ _=>default) (fun _ _=>default) (fun _=>default) (fun _=>default) (fun _=>default)
noncomputable def Qs:Env:={scope:=(Expr.casesOn (motive_1:=fun _=>Scope) Nf (fun _ _ _=>pp.main.scope) (fun _ _ _=>pp.main.scope) (fun _ _ _ _=>pp.main.scope) (fun _ _ _=>pp.main.scope) (fun _ _ _ _=>pp.main.scope) (fun _ _ _ _=>pp.main.scope) (fun _ _ _=>pp.main.scope) (fun _ _ _=>pp.main.scope) (fun _ _ _ _=>pp.main.scope) (fun _ _ _ _=>pp.main.scope) (fun _ _ _ _ _=>pp.main.scope) (fun _ _ sc _=>sc) (fun _ _=>pp.main.scope) (fun _ _=>pp.main.scope) (fun _ _=>pp.main.scope) (fun _ _ _ _=>pp.main.scope) (fun _ _ _ _=>pp.main.scope) (fun _ _ _ _=>pp.main.scope) (fun _ _=>pp.main.scope) (fun _ _ _=>pp.main.scope) (fun _ _ _=>pp.main.scope) (fun _ _ _=>pp.main.scope) (fun _ _=>pp.main.scope) (fun _ _=>pp.main.scope) (fun _ _=>pp.main.scope) (fun _ _ _=>pp.main.scope) (fun _ _ _ _=>pp.main.scope)),locals:=27,globals:=3,cells:=[],qual:="<genexpr>.",code:=.ref 26,frame:=some 27}
noncomputable def P8:Code:=.compLoop Nf 0 (.ref 23) .none Qs
noncomputable def WQ(w:World)(os:OsState):=qx w 34 (sx w.params (LA w.params 0 (Kn w)) 30 (gR [.running]) 207 os) ⟨denote fF P8,P8,default,[.gen 0 (fun _=>.pure (.done .next)) [] (.builtin "" {}) default]⟩
noncomputable def G1(w:World)(os:OsState):Array GenState:=match WQ w os with
 |some r=>r.1.gens
 |none=>#[]
theorem Ng(w:World)(os:OsState):Ti w os=#[.fresh (.compStart Nf 0 (.ref 23) .none Qs)]:=by kernel_rfl
noncomputable def xA(i:Nat):Value:=.str ⟨#[i]⟩ (209+4*i)
noncomputable def z9(a it:Addr)(x:Value):Sem Fin:=holding [x] (setAdd a x)>>=fun _=>again (gg a it)
noncomputable def SA(w:World)(os:OsState)(i:Nat)(o:Obj)(k:Nat):SharedT:=sx w.params (LA w.params i o) 30 (G1 w os) k os
noncomputable def fL(w:World)(os:OsState)(es:Array (Int×Value))(n:Nat)(t:SetTable)(q:Pos)(k1 k2 k3 k4:Kt)(i:Nat):=qx w 45 (SA w os i (b9 es n t) (207+4*i)) ⟨denote fF (gg 29 28),gg 29 28,q,BA k1 k2 k3 k4⟩
noncomputable def gL(w:World)(os:OsState)(es:Array (Int×Value))(n:Nat)(t:SetTable)(q:Pos)(k1 k2 k3 k4:Kt)(i:Nat):Option (SharedT×Thread):=some (SA w os (i+1) (b9 es n t) (210+4*i),⟨z9 29 28 (xA i),gg 29 28,q,BA k1 k2 k3 k4⟩)
section
variable(w:World)(os:OsState)(es:Array (Int×Value))(n:Nat)(t:SetTable)(q:Pos)(k1 k2 k3 k4:Kt)
theorem kLa:(cY 1 16).map (fL w os es n t q k1 k2 k3 k4)=(cY 1 16).map (gL w os es n t q k1 k2 k3 k4):=by kernel_rfl
theorem kLb:(cY 17 15).map (fL w os es n t q k1 k2 k3 k4)=(cY 17 15).map (gL w os es n t q k1 k2 k3 k4):=by kernel_rfl
theorem kL(h1:1≤i)(h2:i<32):fL w os es n t q k1 k2 k3 k4 i=gL w os es n t q k1 k2 k3 k4 i:=by
 by_cases h:i<17
 ·exact jY.mp (kLa w os es n t q k1 k2 k3 k4) i (hX.mpr ⟨h1,h⟩)
 ·exact jY.mp (kLb w os es n t q k1 k2 k3 k4) i (hX.mpr ⟨(dJ h),h2⟩)
noncomputable def cit(w:World)(b:Bool):World:=w.withFollow "comprehension-iter-twice" b
noncomputable def K0(w:World):Prop:=∀os es n t q k1 k2 k3 k4,∃m,qx w m (sx w.params (LA w.params 0 (b9 es n t)) 30 #[.fresh (.compStart Nf 0 (.ref 23) .none Qs)] 207 os) ⟨denote fF (gg 29 28),gg 29 28,q,BA k1 k2 k3 k4⟩=some (SA w os 1 (b9 es n t) 210,⟨z9 29 28 (xA 0),gg 29 28,q,BA k1 k2 k3 k4⟩)
theorem k0(w:World):K0 w:=by
 refine byRow2 "comprehension-iter-twice" (P:=K0) (fun w=>?_) (fun w=>?_) w
 ·refine byRow2 "special-get-raises" (P:=fun w=>K0 (cit w false)) (fun w=>?_) (fun w=>?_) w
  ·intro os es n t q k1 k2 k3 k4
   refine⟨56,?_⟩;kernel_rfl
  ·intro os es n t q k1 k2 k3 k4
   refine⟨56,?_⟩;kernel_rfl
 ·intro os es n t q k1 k2 k3 k4
  refine⟨46,?_⟩;kernel_rfl
end
theorem uA(h:L[a]?=some (b9 es n t)):(hp P L).get? a=some (b9 es n t):=by
 unfold hp Heap.get?;show(match (L.toArray)[a]? with|_=>_)=_;rw[iQ,h];rfl
theorem Ko{L:List Obj}:putAt (hp P L) a o=hp P (L.set a o):=by
 show Heap.mk (L.toArray.modify a _) _=Heap.mk _ _
 congr 1
 apply gB;intro i;rw[dB,iQ,iQ,jT]
 by_cases hi:a=i
 ·subst hi
  by_cases hl:a<L.length
  ·simp[hl]
  ·simp[hl]
 ·simp[hi]
theorem Nh:(hp P L).push o=hp P (L++[o]):=by
 show Heap.mk (L.toArray.push o) _=Heap.mk _ _;rw[List.push_toArray]
theorem za(Γ:Ctx):∃A,Γ.In A:=⟨⟨Γ.handled,frameCount Γ.below+Γ.code.weight,none,none,Γ.units⟩,rfl,bB _,fun l h=>(by cases h),fun l h=>(by cases h),bB _⟩
section
variable{w:World}{Φ:Shared→Prop}{A:Around}{E:Value→Shared→Prop}{s:Shared}
theorem Kq{l:List Nat}(ho:s.heap.get? a=some (b9 es n t))(F:FS es t l)(hc:c∉l)(hl:l.length+1<1000)
 (h:∀fu n' t',FS fu t' (c::l)→Q true {s with heap:=putAt s.heap a (b9 fu n' t'),toks:=s.toks+1}):aH (model pp w) A (holding [.str ⟨#[c]⟩ tk] (setAdd a (.str ⟨#[c]⟩ tk))) Q E s:=by
 refine aQ (aQ (aB ((strKind pp w).pyHash (k:=⟨#[c]⟩) (by show Value.isStrOf ⟨#[c]⟩ (.str ⟨#[c]⟩ tk)=true;simp[Value.isStrOf]) ?_)));exact Bg (s:={s with toks:=s.toks+1}) ho F hc hl h
theorem Kr(s:SharedT)(a b:Addr)(c:Code)(q:Pos)(B:List Frame):qx w 1 s ⟨again (gg a b),c,q,B⟩=some (s,⟨denote fF (gg a b),gg a b,q,B⟩):=by kernel_rfl
theorem Bk{P:Params}{L:List Obj}{m k:Nat}{g:Array GenState}{os:OsState}{a it:Addr}{es:Array (Int×Value)}{n:Nat}{t:SetTable}{l:List Nat}{c:Nat}{tk:Tok}{q:Pos}{B:List Frame}{cd:Code}
 (hL:∀o k,(sx P (L.set a o) m g k os).abs=⟨hp P (L.set a o),g,boot_drawn,k,os⟩) (e:L.set a (b9 es n t)=L) (ha:a<L.length) (F:FS es t l) (hc:c∉l) (hl:l.length+1<1000)
 (h:∀fu n' t' q',FS fu t' (c::l)→Ends pp w Φ (sx P (L.set a (b9 fu n' t')) m g (k+1) os).abs ⟨denote fF (gg a it),gg a it,q',B⟩):Ends pp w Φ (sx P L m g k os).abs ⟨z9 a it (.str ⟨#[c]⟩ tk),cd,q,B⟩:=by
 obtain⟨A,hA⟩:=za (Ctx.of cd B);have e1:=hL (b9 es n t) k;rw[e] at e1;have hg:L[a]?=some (b9 es n t):=by rw[←e,List.getElem?_set_self ha]
 rw[e1];refine Ends.bind (Q:=fun _ s'=>∃fu n' t',FS fu t' (c::l)∧s'=⟨hp P (L.set a (b9 fu n' t')),g,boot_drawn,k+1,os⟩) hA (Kq (uA hg) F hc hl fun fu n' t' F'=>⟨fu,n',t',F',?_⟩) ?_
 ·skip
  rw[Ko]
 ·rintro b s' q' ⟨fu,n',t',F',rfl⟩
  rw[←hL];exact Ends.go (Kr _ a it cd q' B) (h fu n' t' q' F')
end
section
variable{w:World}{os:OsState}{Φ:Shared→Prop}{k1 k2 k3 k4:Kt}
theorem Ks(i:Nat)(o:Obj)(k:Nat):(SA w os i o k).abs=⟨hp w.params (LA w.params i o),G1 w os,boot_drawn,k,os⟩:=by kernel_rfl
noncomputable def codes(i:Nat):List Nat:=(bW i).reverse
theorem EG(i:Nat):codes (i+1)=i::codes i:=by unfold codes;rw[List.range_succ,List.reverse_append];rfl
theorem Ku(i:Nat):i∉codes i:=by unfold codes;simp
theorem Hy(i:Nat):(codes i).length=i:=by unfold codes;simp
theorem P9(sv:∀es n t q,FS es t (codes 32)→Ends pp w Φ (SA w os 32 (b9 es n t) 335).abs ⟨denote fF (gg 29 28),gg 29 28,q,BA k1 k2 k3 k4⟩):
 ∀(m i:Nat),i+m=32→1≤i→∀es n t q,FS es t (codes i)→Ends pp w Φ (SA w os i (b9 es n t) (207+4*i)).abs ⟨denote fF (gg 29 28),gg 29 28,q,BA k1 k2 k3 k4⟩
 |0,i,e,_,es,n,t,q,F=>by
  obtain rfl:i=32:=e;exact sv es n t q F
 |m+1,i,e,h1,es,n,t,q,F=>by
  have h:=kL w os es n t q k1 k2 k3 k4 h1 (by lia);refine Ends.go h ?_;refine Bk (L:=LA w.params (i+1) (b9 es n t)) (es:=es) (n:=n) (t:=t) (fun o k=>Ks (i+1) o k) rfl (show 29<30 by decide) F (Ku i) (by rw[Hy];lia) fun fu n' t' q' F'=>?_;rw[←EG] at F';have:=P9 sv m (i+1) (by lia) (gY _ _) fu n' t' q' F';rw[show 207+4*(i+1)=210+4*i+1 by lia] at this;exact this
theorem Qt(sv:∀es n t q,FS es t (codes 32)→Ends pp w Φ (SA w os 32 (b9 es n t) 335).abs ⟨denote fF (gg 29 28),gg 29 28,q,tw w os⟩):
 Ends pp w Φ (sx w.params (L0 w.params) 11 (gR []) boot_toks os).abs (topStub pp):=by
 refine Ends.go (kA w os) ?_;rw[Ng,Nd] at *;obtain⟨m,h⟩:=k0 w os #[] 0 (.fresh 0 0 (!w.params.followText "set-order")) Hx (sy (tw w os) 0) (sy (tw w os) 1) (sy (tw w os) 2) (sy (tw w os) 3);refine Ends.go h ?_;refine Bk (L:=LA w.params 1 (b9 #[] 0 _)) (es:=#[]) (n:=0) (t:=.fresh 0 0 (!w.params.followText "set-order")) (l:=[]) (fun o k=>Ks 1 o k) rfl (show 29<30 by decide) (pR rfl) (by simp) (by simp) fun fu n' t' q' F'=>?_;exact P9 sv 31 1 rfl (bB _) fu n' t' q' F'
end
noncomputable def ent(P:Params)(x:Str)(tk:Nat)(a:Addr):cQ:={hash:=PyData.keyHash P x,key:=.str x tk,val:=.ref a}
noncomputable def WR(P:Params):List cQ:=[ent P "ASCII_CTRL" 339 38,ent P "ILLEGAL_BASIC_STR_CHARS" 343 43,ent P "ILLEGAL_LITERAL_STR_CHARS" 344 43,ent P "ILLEGAL_COMMENT_CHARS" 345 43,ent P "TOML_WS" 351 44,ent P "TOML_WS_AND_NEWLINE" 355 52]
noncomputable def o3n(P:Params)(k:Nat):Obj:=match WO P with
 |⟨c,d,.dict es n,sl⟩=>⟨c,d,.dict (gR (es.toList++(WR P).take k)) (n+k),sl⟩
 |o=>o
noncomputable def LB(P:Params)(k:Nat):List Obj:=((LA P 32 (WO P)).set 3 (o3n P k)).take 29
noncomputable def d5:Obj:={cls:=.type "tuple",data:=.seq #[]}
noncomputable def sR(a:Addr):Obj:={cls:=.type "StopIteration",data:=.fields #[.ref a,.none,.none,.none,.bool false,.none]}
noncomputable def u0(x:Str)(tk i:Nat):Obj:=⟨.type "str_ascii_iterator",none,.fields #[.str x tk,.int (i:Nat) 0],#[]⟩
noncomputable def Qu(i:Nat):Obj:=⟨.type "str_ascii_iterator",none,.fields #[.none,.int (i:Nat) 0],#[]⟩
noncomputable abbrev V:=Array (Int×Value)×Nat×SetTable
noncomputable def fv(x:V):Obj:=b9 x.1 x.2.1 x.2.2
noncomputable def v0(w:World):V:=(#[],0,.fresh 0 0 (!w.params.followText "set-order"))
noncomputable def Yc(P:Params)(k:Nat)(a:V):List Obj:=LB P k++[fv a,d5,sR 30,d5,sR 32]
noncomputable def LC(P:Params)(a b:V)(i:Obj):List Obj:=Yc P 0 a++[fv b,i]
noncomputable def Pa(P:Params)(k:Nat)(a b:V)(l:List Obj):List Obj:=Yc P k a++([fv b,Qu 1,d5,sR 36]++l)
noncomputable def gF:Array GenState:=#[.finished]
noncomputable abbrev sS(w:World)(os:OsState)(L:List Obj)(n k:Nat):SharedT:=sx w.params L n gF k os
noncomputable def BL(a:Addr)(x:Str)(tk:Nat)(l:List Value)(p:Pos)(k1 k2 k3 k4:Kt):List Frame:=[.ret k1 none false [.ref a] (.builtin "frozenset.__new__" ⟨[.type "frozenset",.str x tk],[]⟩) p [],.ret k2 none false [] (.builtin "type.__call__" ⟨[.type "frozenset",.str x tk],[]⟩) p [],.ret k3 none false l jw p [],.ret k4 none false [] (.builtin "claim.caller" {}) default []]
noncomputable def zb(a b:Addr)(q:Pos)(B:List Frame):Thread:=⟨denote fF (gg a b),gg a b,q,B⟩
noncomputable def wh(r:Option (SharedT×Thread)):List Frame:=match r with
 |some r=>r.2.stack
 |none=>[]
noncomputable def Va(B:List Frame)(a:Addr)(x:Str)(tk:Nat)(l:List Value)(p:Pos):List Frame:=BL a x tk l p (sy B 0) (sy B 1) (sy B 2) (sy B 3)
noncomputable def EH:Pos:={line:=5,col:=54,endLine:=5,endCol:=73}
noncomputable def xj(w:World)(os:OsState):List Frame:=wh (qx (Io w) 68 (SA (Io w) os 32 (fv (v0 w)) 335) (zb 29 28 Hx (tw w os)))
noncomputable def KC(w:World):Prop:=∀os (a:V) q,qx w 68 (SA w os 32 (fv a) 335) (zb 29 28 q (tw w os))=some (sS w os (LC w.params a (v0 w) (u0 "\x7f" 336 0)) 36 337,zb 34 35 EH (xj w os))
theorem kC(w:World):KC w:=by
 refine byRow2 "special-get-raises" (P:=KC) (fun w=>?_) (fun w=>?_) w
 ·intro os a q;kernel_rfl
 ·intro os a q;kernel_rfl
theorem Fm(w:World)(os:OsState):xj w os=Va (xj w os) 34 "\x7f" 336 [.ref 29] EH:=by kernel_rfl
theorem k34(w:World)(os:OsState)(a b:V)(q:Pos)(k1 k2 k3 k4:Kt):qx w 10 (sS w os (LC w.params a b (u0 "\x7f" 336 0)) 36 337) (zb 34 35 q (BL 34 "\x7f" 336 [.ref 29] EH k1 k2 k3 k4))=some (sS w os (LC w.params a b (u0 "\x7f" 336 1)) 36 338,⟨z9 34 35 (.str ⟨#[127]⟩ 337),gg 34 35,q,BL 34 "\x7f" 336 [.ref 29] EH k1 k2 k3 k4⟩):=by kernel_rfl
noncomputable def thO(B:List Frame)(q:Pos):Thread:=⟨Builtin.«frozenset.__or__» ⟨[.ref 29,.ref 34],[]⟩,.builtin "frozenset.__or__" ⟨[.ref 29,.ref 34],[]⟩,q,B⟩
noncomputable def WS:Pos:={line:=5,col:=13,endLine:=5,endCol:=73}
noncomputable def Tj(w:World)(os:OsState):List Frame:=wh (qx w 33 (sS w os (LC w.params (v0 w) (v0 w) (u0 "\x7f" 336 1)) 36 339) (zb 34 35 EH (xj w os)))
theorem kO(w:World)(os:OsState)(a b:V)(q:Pos):qx w 33 (sS w os (LC w.params a b (u0 "\x7f" 336 1)) 36 339) (zb 34 35 q (xj w os))=some (sS w os (Pa w.params 0 a b []) 38 339,thO (Tj w os) WS):=by kernel_rfl
noncomputable def dn(a:Addr)(c:Code)(q:Pos)(B:List Frame):Thread:=⟨.pure (.done (.ret (.ref a))),c,q,B⟩
noncomputable def EI:Pos:={line:=6,col:=39,endLine:=6,endCol:=54}
noncomputable def tS(k:Nat)(q:Pos):Thread:=⟨((execs (pp.main.body.drop k) Qr).onRaise (leaving Qr)).bind fun f=>.pure (.done f),jw,q,[topFrame default]⟩
noncomputable def EJ(l c:Nat):Pos:={line:=l,col:=0,endLine:=l,endCol:=c}
theorem kD1(w:World)(os:OsState)(a b c:V)(cd:Code)(q:Pos):qx w 9 (sS w os (Pa w.params 0 a b [fv c]) 39 339) (dn 38 cd q (Tj w os))=some (sS w os (Pa w.params 1 a b [fv c]) 39 340,tS 3 (EJ 5 10)):=by kernel_rfl
noncomputable def LD(P:Params)(a b c d:V)(i:Obj):List Obj:=Pa P 1 a b [fv c,fv d,i]
noncomputable def xk(w:World)(os:OsState):List Frame:=wh (qx (Io w) 21 (sS (Io w) os (Pa (Io w).params 1 (v0 w) (v0 w) [fv (v0 w)]) 39 340) (tS 3 default))
noncomputable def KD(w:World):Prop:=∀os (a b c:V) q,qx w 21 (sS w os (Pa w.params 1 a b [fv c]) 39 340) (tS 3 q)=some (sS w os (LD w.params a b c (v0 w) (u0 "\t" 340 0)) 41 341,zb 39 40 EI (xk w os))
theorem kD(w:World):KD w:=by
 refine byRow2 "special-get-raises" (P:=KD) (fun w=>?_) (fun w=>?_) w
 ·intro os a b c q;kernel_rfl
 ·intro os a b c q;kernel_rfl
theorem Fp(w:World)(os:OsState):xk w os=Va (xk w os) 39 "\t" 340 [.ref 38] EI:=by kernel_rfl
theorem k39(w:World)(os:OsState)(a b c d:V)(q:Pos)(k1 k2 k3 k4:Kt):qx w 10 (sS w os (LD w.params a b c d (u0 "\t" 340 0)) 41 341) (zb 39 40 q (BL 39 "\t" 340 [.ref 38] EI k1 k2 k3 k4))=some (sS w os (LD w.params a b c d (u0 "\t" 340 1)) 41 342,⟨z9 39 40 (.str ⟨#[9]⟩ 341),gg 39 40,q,BL 39 "\t" 340 [.ref 38] EI k1 k2 k3 k4⟩):=by kernel_rfl
noncomputable def Sb(f:Builtin)(nm:String)(x y:Addr)(B:List Frame)(q:Pos):Thread:=⟨f ⟨[.ref x,.ref y],[]⟩,.builtin nm ⟨[.ref x,.ref y],[]⟩,q,B⟩
noncomputable def WT:Pos:={line:=6,col:=26,endLine:=6,endCol:=54}
noncomputable def MS(P:Params)(k:Nat)(a b c d:V)(l:List Obj):List Obj:=Pa P k a b ([fv c,fv d,Qu 1,d5,sR 41]++l)
noncomputable def Tn(w:World)(os:OsState):List Frame:=wh (qx w 33 (sS w os (LD w.params (v0 w) (v0 w) (v0 w) (v0 w) (u0 "\t" 340 1)) 41 343) (zb 39 40 EI (xk w os)))
theorem kS(w:World)(os:OsState)(a b c d:V)(q:Pos):qx w 33 (sS w os (LD w.params a b c d (u0 "\t" 340 1)) 41 343) (zb 39 40 q (xk w os))=some (sS w os (MS w.params 1 a b c d []) 43 343,Sb Builtin.«frozenset.__sub__» "frozenset.__sub__" 38 39 (Tn w os) WT):=by kernel_rfl
theorem kE1(w:World)(os:OsState)(a b c d e:V)(cd:Code)(q:Pos):qx w 9 (sS w os (MS w.params 1 a b c d [fv e]) 44 343) (dn 43 cd q (Tn w os))=some (sS w os (MS w.params 2 a b c d [fv e]) 44 344,tS 4 (EJ 6 23)):=by kernel_rfl
theorem kE2(w:World)(os:OsState)(a b c d e:V)(q:Pos):qx w 20 (sS w os (MS w.params 2 a b c d [fv e]) 44 344) (tS 4 q)=some (sS w os (MS w.params 4 a b c d [fv e]) 44 346,tS 6 (EJ 8 21)):=by kernel_rfl
noncomputable def Bl:Pos:={line:=9,col:=10,endLine:=9,endCol:=26}
noncomputable def zc(w:World)(os:OsState):List Frame:=wh (qx (Io w) 19 (sS (Io w) os (MS (Io w).params 4 (v0 w) (v0 w) (v0 w) (v0 w) [fv (v0 w)]) 44 346) (tS 6 default))
noncomputable def KE(w:World):Prop:=∀os (a b c d e:V) q,qx w 19 (sS w os (MS w.params 4 a b c d [fv e]) 44 346) (tS 6 q)=some (sS w os (MS w.params 4 a b c d [fv e,fv (v0 w),u0 " \t" 346 0]) 46 347,zb 44 45 Bl (zc w os))
theorem kE(w:World):KE w:=by
 refine byRow2 "special-get-raises" (P:=KE) (fun w=>?_) (fun w=>?_) w
 ·intro os a b c d e q;kernel_rfl
 ·intro os a b c d e q;kernel_rfl
theorem Fq(w:World)(os:OsState):zc w os=Va (zc w os) 44 " \t" 346 [] Bl:=by kernel_rfl
theorem WU(w:World)(os:OsState)(a b c d e f:V)(q:Pos)(k1 k2 k3 k4:Kt):qx w 10 (sS w os (MS w.params 4 a b c d [fv e,fv f,u0 " \t" 346 0]) 46 347) (zb 44 45 q (BL 44 " \t" 346 [] Bl k1 k2 k3 k4))=some (sS w os (MS w.params 4 a b c d [fv e,fv f,u0 " \t" 346 1]) 46 348,⟨z9 44 45 (.str ⟨#[32]⟩ 347),gg 44 45,q,BL 44 " \t" 346 [] Bl k1 k2 k3 k4⟩):=by kernel_rfl
theorem WV(w:World)(os:OsState)(a b c d e f:V)(q:Pos)(k1 k2 k3 k4:Kt):qx w 10 (sS w os (MS w.params 4 a b c d [fv e,fv f,u0 " \t" 346 1]) 46 349) (zb 44 45 q (BL 44 " \t" 346 [] Bl k1 k2 k3 k4))=some (sS w os (MS w.params 4 a b c d [fv e,fv f,u0 " \t" 346 2]) 46 350,⟨z9 44 45 (.str ⟨#[9]⟩ 349),gg 44 45,q,BL 44 " \t" 346 [] Bl k1 k2 k3 k4⟩):=by kernel_rfl
theorem kF1(w:World)(os:OsState)(a b c d e f:V)(q:Pos):qx w 33 (sS w os (MS w.params 4 a b c d [fv e,fv f,u0 " \t" 346 2]) 46 351) (zb 44 45 q (zc w os))=some (sS w os (MS w.params 5 a b c d [fv e,fv f,Qu 2,d5,sR 46]) 48 352,tS 7 (EJ 9 7)):=by kernel_rfl
noncomputable def MF(P:Params)(k:Nat)(a b c d e f:V)(l:List Obj):List Obj:=MS P k a b c d ([fv e,fv f,Qu 2,d5,sR 46]++l)
noncomputable def EK:Pos:={line:=10,col:=32,endLine:=10,endCol:=47}
noncomputable def xl(w:World)(os:OsState):List Frame:=wh (qx (Io w) 21 (sS (Io w) os (MF (Io w).params 5 (v0 w) (v0 w) (v0 w) (v0 w) (v0 w) (v0 w) []) 48 352) (tS 7 default))
noncomputable def KF(w:World):Prop:=∀os (a b c d e f:V) q,qx w 21 (sS w os (MF w.params 5 a b c d e f []) 48 352) (tS 7 q)=some (sS w os (MF w.params 5 a b c d e f [fv (v0 w),u0 "\n" 352 0]) 50 353,zb 48 49 EK (xl w os))
theorem kF(w:World):KF w:=by
 refine byRow2 "special-get-raises" (P:=KF) (fun w=>?_) (fun w=>?_) w
 ·intro os a b c d e f q;kernel_rfl
 ·intro os a b c d e f q;kernel_rfl
theorem Fs(w:World)(os:OsState):xl w os=Va (xl w os) 48 "\n" 352 [.ref 44] EK:=by kernel_rfl
theorem k48(w:World)(os:OsState)(a b c d e f g:V)(q:Pos)(k1 k2 k3 k4:Kt):qx w 10 (sS w os (MF w.params 5 a b c d e f [fv g,u0 "\n" 352 0]) 50 353) (zb 48 49 q (BL 48 "\n" 352 [.ref 44] EK k1 k2 k3 k4))=some (sS w os (MF w.params 5 a b c d e f [fv g,u0 "\n" 352 1]) 50 354,⟨z9 48 49 (.str ⟨#[10]⟩ 353),gg 48 49,q,BL 48 "\n" 352 [.ref 44] EK k1 k2 k3 k4⟩):=by kernel_rfl
noncomputable def WW:Pos:={line:=10,col:=22,endLine:=10,endCol:=47}
noncomputable def To(w:World)(os:OsState):List Frame:=wh (qx w 33 (sS w os (MF w.params 5 (v0 w) (v0 w) (v0 w) (v0 w) (v0 w) (v0 w) [fv (v0 w),u0 "\n" 352 1]) 50 355) (zb 48 49 EK (xl w os)))
theorem kG(w:World)(os:OsState)(a b c d e f g:V)(q:Pos):qx w 33 (sS w os (MF w.params 5 a b c d e f [fv g,u0 "\n" 352 1]) 50 355) (zb 48 49 q (xl w os))=some (sS w os (MF w.params 5 a b c d e f [fv g,Qu 1,d5,sR 50]) 52 355,Sb Builtin.«frozenset.__or__» "frozenset.__or__" 44 48 (To w os) WW):=by kernel_rfl
noncomputable def MG(P:Params)(k:Nat)(a b c d e f g h:V):List Obj:=MF P k a b c d e f [fv g,Qu 1,d5,sR 50,fv h]
theorem kH1(w:World)(os:OsState)(a b c d e f g h:V)(cd:Code)(q:Pos):qx w 9 (sS w os (MG w.params 5 a b c d e f g h) 53 355) (dn 52 cd q (To w os))=some (sS w os (MG w.params 6 a b c d e f g h) 53 356,tS 8 (EJ 10 19)):=by kernel_rfl
noncomputable abbrev FV(x:V)(l:List Nat):Prop:=FS x.1 x.2.2 l
theorem Ni{α:Type}(m:Sem α):m.wrap .pure .raise id id=m:=by induction m<;>simp only[Sem.wrap,id, *]
theorem FV.one{x:V}(F:FV x [c]):∃e,x.1=#[e]:=by
 have h:=F.size;rw[show cJ [c]=1 from rfl] at h;exact⟨x.1[0],by apply Array.ext<;>simp[h];intro i hi;obtain rfl:i=0:=(by omega);rfl⟩
section
variable{w:World}{Φ:Shared→Prop}{P:Params}{m k:Nat}{g:Array GenState}{os:OsState}{l:List Nat}{c:Nat}{q:Pos}{B:List Frame}{cd:Code}
theorem nY{Lf:V→List Obj}{a it:Addr}{x:V}{tk:Tok}(CY:∀x k,(sx P (Lf x) m g k os).abs=⟨hp P (Lf x),g,boot_drawn,k,os⟩)(uq:∀x,(Lf x)[a]?=some (fv x))(DO:∀x y,(Lf x).set a (fv y)=Lf y)
 (F:FV x l) (hc:c∉l) (hl:l.length+1<1000) (h:∀y q',FV y (c::l)→Ends pp w Φ (sx P (Lf y) m g (k+1) os).abs (zb a it q' B)):Ends pp w Φ (sx P (Lf x) m g k os).abs ⟨z9 a it (.str ⟨#[c]⟩ tk),cd,q,B⟩:=by
 obtain⟨A,hA⟩:=za (Ctx.of cd B);rw[CY];refine Ends.bind (Q:=fun _ s'=>∃y,FV y (c::l)∧s'=⟨hp P (Lf y),g,boot_drawn,k+1,os⟩) hA (Kq (uA (uq x)) F hc hl fun fu n' t' F'=>⟨(fu,n',t'),F',?_⟩) ?_
 ·skip
  rw[Ko,show(Lf x).set a (b9 fu n' t')=Lf (fu,n',t') from DO x (fu,n',t')]
 ·rintro b s' q' ⟨y,F',rfl⟩
  rw[←CY];exact Ends.go (Kr _ a it cd q' B) (h y q' F')
theorem Bm{L:List Obj}(CY:∀k,(sx P L m g k os).abs=⟨hp P L,g,boot_drawn,k,os⟩)(hlen:L.length=m)(C0:∀z k,(sx P (L++[fv z]) (m+1) g k os).abs=⟨hp P (L++[fv z]),g,boot_drawn,k,os⟩)
 (hf:∀(A:Around) (Q:Fin→Shared→Prop),(∀fu n' t',FS fu t' l'→Q (.done (.ret (.ref m))) ⟨(hp P L).push (b9 fu n' t'),g,boot_drawn,k,os⟩)→aH (model pp w) A (f ⟨[.ref x,.ref y],[]⟩) Q (fun _ _=>False) ⟨hp P L,g,boot_drawn,k,os⟩)
 (h:∀z q',FV z l'→Ends pp w Φ (sx P (L++[fv z]) (m+1) g k os).abs (dn m (.builtin nm ⟨[.ref x,.ref y],[]⟩) q' B)):Ends pp w Φ (sx P L m g k os).abs (Sb f nm x y B q):=by
 obtain⟨A,hA⟩:=za (Ctx.of (.builtin nm ⟨[.ref x,.ref y],[]⟩) B);unfold Sb;rw[CY,←Ni (f ⟨[.ref x,.ref y],[]⟩)];refine Ends.wrap (Q:=fun r s'=>r=.done (.ret (.ref m))∧∃z,FV z l'∧s'=⟨hp P (L++[fv z]),g,boot_drawn,k,os⟩) hA (hf A _ fun fu n' t' F'=>⟨rfl,(fu,n',t'),F',?_⟩) ?_
 ·rw[Nh];rfl
 ·rintro r s' q' ⟨rfl,z,F',rfl⟩
  rw[←C0];exact h z q' F'
theorem Ft{L:List Obj}(CY:∀k,(sx P L m g k os).abs=⟨hp P L,g,boot_drawn,k,os⟩)(hlen:L.length=m)(C0:∀z k,(sx P (L++[fv z]) (m+1) g k os).abs=⟨hp P (L++[fv z]),g,boot_drawn,k,os⟩)
 (h1:L[x]?=some (fv a)) (Fa:FV a l) (h2:L[y]?=some (fv b)) (Fb:FV b [c]) (YI:y≠x) (hl:l≠[]) (hc:c∉l) (hk:l.length<100) (hm:lY l.length mask) (CW:(l.length+1)*5<mask*3)
 (h:∀z q',FV z (c::l)→Ends pp w Φ (sx P (L++[fv z]) (m+1) g k os).abs (dn m (.builtin "frozenset.__or__" ⟨[.ref x,.ref y],[]⟩) q' B)):Ends pp w Φ (sx P L m g k os).abs (Sb Builtin.«frozenset.__or__» "frozenset.__or__" x y B q):=by
 obtain⟨e,he⟩:=Fb.one;obtain⟨b1,nb,tb⟩:=b;subst he;subst hlen;exact Bm CY rfl C0 (fun A Q hQ=>Th (s:=⟨hp P L,g,boot_drawn,k,os⟩) (uA h1) Fa (uA h2) Fb YI hl hc hk hm CW hQ) h
theorem Kv{L:List Obj}(CY:∀k,(sx P L m g k os).abs=⟨hp P L,g,boot_drawn,k,os⟩)(hlen:L.length=m)(C0:∀z k,(sx P (L++[fv z]) (m+1) g k os).abs=⟨hp P (L++[fv z]),g,boot_drawn,k,os⟩)
 (h1:L[x]?=some (fv a)) (Fa:FV a l) (h2:L[y]?=some (fv b)) (Fb:FV b [c]) (hl:l≠[]) (hc:c∈l) (hk:l.length<100) (hm:lY l.length 127) (h4:1<l.length/4)
 (h:∀z q',FV z (l.erase c)→Ends pp w Φ (sx P (L++[fv z]) (m+1) g k os).abs (dn m (.builtin "frozenset.__sub__" ⟨[.ref x,.ref y],[]⟩) q' B)):Ends pp w Φ (sx P L m g k os).abs (Sb Builtin.«frozenset.__sub__» "frozenset.__sub__" x y B q):=by
 obtain⟨e,he⟩:=Fb.one;obtain⟨b1,nb,tb⟩:=b;subst he;subst hlen;exact Bm CY rfl C0 (fun A Q hQ=>Qq (s:=⟨hp P L,g,boot_drawn,k,os⟩) (uA h1) Fa (uA h2) Fb hl hc hk hm h4 hQ) h
end
section
variable{w:World}{os:OsState}{Φ:Shared→Prop}
noncomputable def MZ:List Nat:=127::codes 32
set_option maxHeartbeats 8000000 in
theorem Nj(sv:∀a b c d e f g h:V,FV e (MZ.erase 9)→FV h [10,9,32]→Ends pp w Φ (sS w os (MG w.params 6 a b c d e f g h) 53 356).abs (tS 8 (EJ 10 19))):
 Ends pp w Φ (sx w.params (L0 w.params) 11 (gR []) boot_toks os).abs (topStub pp):=by
 refine Qt fun es n t q Fa=>?_;refine Ends.go (kC w os (es,n,t) q) ?_;rw[Fm];refine Ends.go (k34 w os (es,n,t) (v0 w) EH _ _ _ _) ?_;refine nY (Lf:=fun b=>LC w.params (es,n,t) b (u0 "\x7f" 336 1)) (fun x k=>by kernel_rfl) (fun x=>by kernel_rfl) (fun x y=>by kernel_rfl) (l:=[]) (pR rfl) (by simp) (by simp) fun b q' Fb=>?_;rw[show BL 34 "\x7f" 336 [.ref 29] EH (sy (xj w os) 0) (sy (xj w os) 1) (sy (xj w os) 2) (sy (xj w os) 3)=xj w os from(Fm w os).symm];refine Ends.go (kO w os (es,n,t) b q') ?_;generalize hA:((es,n,t):V)=a at *;have Fa':FV a (codes 32):=by subst hA;exact Fa
 refine Ft (L:=Pa w.params 0 a b []) (x:=29) (y:=34) (a:=a) (b:=b) (mask:=127) (fun k=>by kernel_rfl) (by kernel_rfl) (fun z k=>by kernel_rfl) (by kernel_rfl) Fa' (by kernel_rfl) Fb (by decide) (by decide) (by decide) (by decide) (.inr (by decide)) (by decide) fun c q' Fc=>?_;refine Ends.go (kD1 w os a b c _ q') ?_;refine Ends.go (kD w os a b c _) ?_;rw[Fp];refine Ends.go (k39 w os a b c (v0 w) EI _ _ _ _) ?_;refine nY (Lf:=fun d=>LD w.params a b c d (u0 "\t" 340 1)) (fun x k=>by kernel_rfl) (fun x=>by kernel_rfl) (fun x y=>by kernel_rfl) (l:=[]) (pR rfl) (by simp) (by simp) fun d q' Fd=>?_;rw[show BL 39 "\t" 340 [.ref 38] EI (sy (xk w os) 0) (sy (xk w os) 1) (sy (xk w os) 2) (sy (xk w os) 3)=xk w os from(Fp w os).symm];refine Ends.go (kS w os a b c d q') ?_;refine Kv (L:=MS w.params 1 a b c d []) (x:=38) (y:=39) (a:=c) (b:=d) (fun k=>by kernel_rfl) (by kernel_rfl) (fun z k=>by kernel_rfl) (by kernel_rfl) Fc (by kernel_rfl) Fd (by decide) (by decide) (by decide) (.inr (by decide)) (by decide) fun e q' Fe=>?_;refine Ends.go (kE1 w os a b c d e _ q') ?_;refine Ends.go (kE2 w os a b c d e _) ?_;refine Ends.go (kE w os a b c d e _) ?_;rw[Fq];refine Ends.go (WU w os a b c d e (v0 w) Bl _ _ _ _) ?_;refine nY (Lf:=fun f=>MS w.params 4 a b c d [fv e,fv f,u0 " \t" 346 1]) (fun x k=>by kernel_rfl) (fun x=>by kernel_rfl) (fun x y=>by kernel_rfl) (l:=[]) (pR rfl) (by simp) (by simp) fun f q' Ff=>?_;refine Ends.go (WV w os a b c d e f q' _ _ _ _) ?_;refine nY (Lf:=fun f=>MS w.params 4 a b c d [fv e,fv f,u0 " \t" 346 2]) (fun x k=>by kernel_rfl) (fun x=>by kernel_rfl) (fun x y=>by kernel_rfl) Ff (by decide) (by decide) fun f q' Ff=>?_;rw[show BL 44 " \t" 346 [] Bl (sy (zc w os) 0) (sy (zc w os) 1) (sy (zc w os) 2) (sy (zc w os) 3)=zc w os from(Fq w os).symm];refine Ends.go (kF1 w os a b c d e f q') ?_;refine Ends.go (kF w os a b c d e f _) ?_;rw[Fs];refine Ends.go (k48 w os a b c d e f (v0 w) EK _ _ _ _) ?_;refine nY (Lf:=fun g=>MF w.params 5 a b c d e f [fv g,u0 "\n" 352 1]) (fun x k=>by kernel_rfl) (fun x=>by kernel_rfl) (fun x y=>by kernel_rfl) (l:=[]) (pR rfl) (by simp) (by simp) fun g q' Fg=>?_;rw[show BL 48 "\n" 352 [.ref 44] EK (sy (xl w os) 0) (sy (xl w os) 1) (sy (xl w os) 2) (sy (xl w os) 3)=xl w os from(Fs w os).symm];refine Ends.go (kG w os a b c d e f g q') ?_;refine Ft (L:=MF w.params 5 a b c d e f [fv g,Qu 1,d5,sR 50]) (x:=44) (y:=48) (a:=f) (b:=g) (mask:=7) (fun k=>by kernel_rfl) (by kernel_rfl) (fun z k=>by kernel_rfl) (by kernel_rfl) Ff (by kernel_rfl) Fg (by decide) (by decide) (by decide) (by decide) (.inl (by decide)) (by decide) fun h q' Fh=>?_;refine Ends.go (kH1 w os a b c d e f g h _ q') ?_;exact sv a b c d e f g h Fe Fh
end
noncomputable def cy(P:Params)(x:Str)(tk:Nat)(v:Value):cQ:={hash:=PyData.keyHash P x,key:=.str x tk,val:=v}
noncomputable def ku:Obj:=⟨.none,none,.fields #[],#[]⟩
noncomputable def mV(l:List Value):Obj:=⟨.type "tuple",none,.seq (gR l) 0,#[]⟩
noncomputable def kg(l:List Value):Obj:=⟨.type "code",none,.fields (gR l),#[]⟩
noncomputable def Yd(q:Str→Str)(g:Addr)(md cd:Value)(s:Stmt):Obj:=Stmt.casesOn (motive_2:=fun _=>Obj) s (fun nm ar bd _ _ _ sc _ _ _=>⟨if g=0 then .none else .type "function",none,.func {name:=nm,qualname:=q nm,params:=ar,body:=.stmts bd,scope:=sc,globals:=g,closure:=[],defaults:=.none,kwdefaults:=.none,pyModule:=md,code:=cd},#[]⟩) (fun _ _ _ _ _ _ _ _ _ _=>default) (fun _ _ _ _ _ _ _ _ _ _ _=>default) (fun _ _=>default) (fun _ _=>default) (fun _ _ _=>default) (fun _ _ _ _ _ _ _=>default) (fun _ _ _ _=>default) (fun _ _ _ _ _=>default) (fun _ _ _ _ _=>default) (fun _ _ _ _ _=>default) (fun _ _ _ _=>default) (fun _ _ _ _=>default) (fun _ _ _=>default) (fun _ _ _=>default) (fun _ _ _=>default) (fun _ _ _=>default) (fun _ _ _ _ _=>default) (fun _ _ _ _ _=>default) (fun _ _ _=>default) (fun _ _=>default) (fun _ _ _ _=>default) (fun _ _=>default) (fun _ _=>default) (fun _ _=>default) (fun _=>default) (fun _=>default) (fun _=>default)
noncomputable def ib(k:Nat)(g:Addr)(md cd:Value):Obj:=(pp.main.body[k]?:Option Stmt).elim default (Yd id g md cd)
noncomputable def M0(k:Nat)(g:Addr)(md cd:Value):Obj:=(pp.main.body[16]?:Option Stmt).elim default fun s=>Stmt.casesOn (motive_2:=fun _=>Obj) s (fun _ _ _ _ _ _ _ _ _ _=>default) (fun _ _ _ _ _ _ _ _ _ _=>default) (fun _ _ _ b _ _ _ _ _ _ _=>b[k]?.elim default (Yd (Str.ofString "Entry."++·) g md cd)) (fun _ _=>default) (fun _ _=>default) (fun _ _ _=>default) (fun _ _ _ _ _ _ _=>default) (fun _ _ _ _=>default) (fun _ _ _ _ _=>default) (fun _ _ _ _ _=>default) (fun _ _ _ _ _=>default) (fun _ _ _ _=>default) (fun _ _ _ _=>default) (fun _ _ _=>default) (fun _ _ _=>default) (fun _ _ _=>default) (fun _ _ _=>default) (fun _ _ _ _ _=>default) (fun _ _ _ _ _=>default) (fun _ _ _=>default) (fun _ _=>default) (fun _ _ _ _=>default) (fun _ _=>default) (fun _ _=>default) (fun _ _=>default) (fun _=>default) (fun _=>default) (fun _=>default)
noncomputable def o3z(P:Params):Obj:=⟨.type "dict",none,.dict #[cy P "__name__" 165 (.str "law_nb0160_01" 500),cy P "__doc__" 166 (.none),cy P "__package__" 167 (.none),cy P "__loader__" 168 (.builtin "__main__.__loader__#opaque"),cy P "__spec__" 169 (.none),cy P "__annotations__" 170 (.ref 6),cy P "__builtins__" 171 (.ref 4),cy P "__file__" 173 (.str "/claim/cut.py" 172),cy P "__cached__" 174 (.none),cy P "_wall" 193 (.ref 21),cy P "ASCII_CTRL" 339 (.ref 38),cy P "ILLEGAL_BASIC_STR_CHARS" 343 (.ref 43),cy P "ILLEGAL_LITERAL_STR_CHARS" 344 (.ref 43),cy P "ILLEGAL_COMMENT_CHARS" 345 (.ref 43),cy P "TOML_WS" 351 (.ref 44),cy P "TOML_WS_AND_NEWLINE" 355 (.ref 52),cy P "TOMLDecodeError" 373 (.ref 62),cy P "skip_chars" 382 (.ref 72),cy P "skip_until" 394 (.ref 79),cy P "skip_comment" 403 (.ref 86),cy P "skip_comments_and_array_ws" 412 (.ref 93),cy P "parse_literal_str" 421 (.ref 100),cy P "suffixed_err" 431 (.ref 107),cy P "Entry" 490 (.ref 145),cy P "merge_entries" 499 (.ref 156),cy P "_law_cells" 510 (.ref 163),cy P "_law_tail" 518 (.ref 170),cy P "_law_word" 525 (.ref 177),cy P "_law_there" 531 (.ref 182),cy P "_law_rate" 539 (.ref 189),cy P "_law_merged" 545 (.ref 194),cy P "_law_rows" 551 (.ref 199),cy P "_law_written" 562 (.ref 206),cy P "_law_read" 573 (.ref 213),cy P "_law_mended" 579 (.ref 218),cy P "_law_due" 600 (.ref 225),cy P "_law_parted" 606 (.ref 230),cy P "_law_anew" 621 (.ref 237),cy P "_law_sorted" 632 (.ref 244),cy P "law" 638 (.ref 249)] 40,#[]⟩
noncomputable def WX:Obj:=⟨.none,none,.fields #[.int 1 0,.int 0 0,.ref 20,.int 5 0,.int 23 0,.ref 26,.int 11 0,.int 0 0,.ref 58,.int 13 0,.int 0 0,.ref 71,.int 20 0,.int 0 0,.ref 78,.int 32 0,.int 0 0,.ref 85,.int 40 0,.int 0 0,.ref 92,.int 47 0,.int 0 0,.ref 99,.int 52 0,.int 0 0,.ref 106,.int 65 0,.int 0 0,.ref 113,.int 95 0,.int 0 0,.ref 155,.int 103 0,.int 0 0,.ref 162,.int 108 0,.int 0 0,.ref 169,.int 113 0,.int 0 0,.ref 176,.int 115 0,.int 0 0,.ref 181,.int 117 0,.int 0 0,.ref 188,.int 122 0,.int 0 0,.ref 193,.int 141 0,.int 0 0,.ref 198,.int 161 0,.int 0 0,.ref 205,.int 170 0,.int 0 0,.ref 212,.int 186 0,.int 0 0,.ref 217,.int 199 0,.int 0 0,.ref 224,.int 220 0,.int 0 0,.ref 229,.int 226 0,.int 0 0,.ref 236,.int 239 0,.int 0 0,.ref 243,.int 244 0,.int 0 0,.ref 248],#[]⟩
noncomputable def tlZ(P:Params):List Obj:=[
 (mV [.type "ValueError"]),
 ⟨.type "builtin_function_or_method",none,.fields #[.builtin "type.__prepare__",.type "type"],#[]⟩,
 ⟨.type "dict",none,.dict #[cy P "__module__" 363 (.str "cpy313.tomllib._parser" 194),cy P "__qualname__" 365 (.str "TOMLDecodeError" 364),cy P "__firstlineno__" 367 (.int 11 366),cy P "__static_attributes__" 368 (.ref 60)] 4,#[]⟩,
 d5,
 ku,
 (kg [.str "TOMLDecodeError" 358,.str "TOMLDecodeError" 359,.str "/claim/cut.py" 360,.int 11 0,.int 0 0,.int 0 0,.int 0 0,.int 0 0,.ref 56,.bool false,.int 181 0,.ref 57,.none,.none,.none,.none,.int 361 0,.int 11 0,.str "/claim/cut.py" 362]),
 ⟨.type "frame",none,.plain,#[some (.ref 58),some (.ref 3),some (.ref 55),none,some (.str "cpy313.tomllib._parser" 194),none,some (.ref 0)]⟩,
 d5,
 ⟨.type "dict",none,.dict #[cy P "__module__" 363 (.str "cpy313.tomllib._parser" 194),cy P "__firstlineno__" 367 (.int 11 366),cy P "__static_attributes__" 368 (.ref 60),cy P "__weakref__" 370 (.ref 63),cy P "__doc__" 371 (.none)] 3,#[]⟩,
 ⟨.type "type",none,.cls {name:="TOMLDecodeError",bases:=[.type "ValueError"],mro:=[.ref 62,.type "ValueError",.type "Exception",.type "BaseException",.type "object"],ns:=61,qualname:="TOMLDecodeError",hasDict:=true,slotNames:=[],subclasses:=[],abstract:=false,collection:=none,hasDel:=false},#[some (.ref 53),none,some (.str "TOMLDecodeError" 356),some (.str "TOMLDecodeError" 364),some (.builtin "ValueError.__new__"),some (.bool true)]⟩,
 ⟨.type "getset_descriptor",none,.fields #[.str "__weakref__" 369,.ref 62,.builtin "ExceptionGroup.__weakref__",.none],#[]⟩,
 ⟨.type "super",none,.fields #[.ref 62,.ref 62,.ref 62],#[]⟩,
 ⟨.type "builtin_function_or_method",none,.fields #[.builtin "object.__init_subclass__",.ref 62],#[]⟩,
 d5,
 ku,
 (mV [.str "src" 377,.str "pos" 378,.str "chars" 379]),
 d5,
 (ib 9 0 (.none) (.none)),
 (kg [.str "skip_chars" 374,.str "skip_chars" 375,.str "/claim/cut.py" 376,.int 13 0,.int 3 0,.int 0 0,.int 0 0,.int 3 0,.ref 66,.bool true,.int 181 0,.ref 67,.none,.ref 68,.ref 69,.ref 70,.int 380 0,.int 13 0,.str "/claim/cut.py" 381]),
 (ib 9 3 (.str "cpy313.tomllib._parser" 194) (.ref 71)),
 d5,
 ku,
 (mV [.str "src" 386,.str "pos" 387,.str "expect" 388,.str "error_on" 389,.str "error_on_eof" 390,.str "new_pos" 391]),
 d5,
 (ib 10 0 (.none) (.none)),
 (kg [.str "skip_until" 383,.str "skip_until" 384,.str "/claim/cut.py" 385,.int 20 0,.int 3 0,.int 0 0,.int 2 0,.int 3 0,.ref 73,.bool true,.int 181 0,.ref 74,.none,.ref 75,.ref 76,.ref 77,.int 392 0,.int 20 0,.str "/claim/cut.py" 393]),
 (ib 10 3 (.str "cpy313.tomllib._parser" 194) (.ref 78)),
 d5,
 ku,
 (mV [.str "src" 398,.str "pos" 399,.str "char" 400]),
 d5,
 (ib 11 0 (.none) (.none)),
 (kg [.str "skip_comment" 395,.str "skip_comment" 396,.str "/claim/cut.py" 397,.int 32 0,.int 2 0,.int 0 0,.int 0 0,.int 3 0,.ref 80,.bool true,.int 181 0,.ref 81,.none,.ref 82,.ref 83,.ref 84,.int 401 0,.int 32 0,.str "/claim/cut.py" 402]),
 (ib 11 3 (.str "cpy313.tomllib._parser" 194) (.ref 85)),
 d5,
 ku,
 (mV [.str "src" 407,.str "pos" 408,.str "pos_before_skip" 409]),
 d5,
 (ib 12 0 (.none) (.none)),
 (kg [.str "skip_comments_and_array_ws" 404,.str "skip_comments_and_array_ws" 405,.str "/claim/cut.py" 406,.int 40 0,.int 2 0,.int 0 0,.int 0 0,.int 3 0,.ref 87,.bool true,.int 181 0,.ref 88,.none,.ref 89,.ref 90,.ref 91,.int 410 0,.int 40 0,.str "/claim/cut.py" 411]),
 (ib 12 3 (.str "cpy313.tomllib._parser" 194) (.ref 92)),
 d5,
 ku,
 (mV [.str "src" 416,.str "pos" 417,.str "start_pos" 418]),
 d5,
 (ib 13 0 (.none) (.none)),
 (kg [.str "parse_literal_str" 413,.str "parse_literal_str" 414,.str "/claim/cut.py" 415,.int 47 0,.int 2 0,.int 0 0,.int 0 0,.int 3 0,.ref 94,.bool true,.int 181 0,.ref 95,.none,.ref 96,.ref 97,.ref 98,.int 419 0,.int 47 0,.str "/claim/cut.py" 420]),
 (ib 13 3 (.str "cpy313.tomllib._parser" 194) (.ref 99)),
 d5,
 ku,
 (mV [.str "src" 425,.str "pos" 426,.str "msg" 427,.str "coord_repr" 428]),
 d5,
 (ib 14 0 (.none) (.none)),
 (kg [.str "suffixed_err" 422,.str "suffixed_err" 423,.str "/claim/cut.py" 424,.int 52 0,.int 3 0,.int 0 0,.int 0 0,.int 3 0,.ref 101,.bool true,.int 181 0,.ref 102,.none,.ref 103,.ref 104,.ref 105,.int 429 0,.int 52 0,.str "/claim/cut.py" 430]),
 (ib 14 3 (.str "cpy313.tomllib._parser" 194) (.ref 106)),
 d5,
 ⟨.type "builtin_function_or_method",none,.fields #[.builtin "type.__prepare__",.type "type"],#[]⟩,
 ⟨.type "dict",none,.dict #[cy P "__module__" 441 (.str "cpy313.urllib.robotparser" 432),cy P "__qualname__" 443 (.str "Entry" 442),cy P "__firstlineno__" 445 (.int 65 444),cy P "__init__" 452 (.ref 121),cy P "__str__" 462 (.ref 128),cy P "applies_to" 470 (.ref 135),cy P "allowance" 478 (.ref 142),cy P "__static_attributes__" 483 (.ref 143)] 8,#[]⟩,
 d5,
 ⟨.none,none,.fields #[.int 67 0,.int 4 0,.ref 120,.int 73 0,.int 4 0,.ref 127,.int 90 0,.int 4 0,.ref 134,.int 93 0,.int 4 0,.ref 141],#[]⟩,
 (kg [.str "Entry" 436,.str "Entry" 437,.str "/claim/cut.py" 438,.int 65 0,.int 0 0,.int 0 0,.int 0 0,.int 0 0,.ref 111,.bool false,.int 181 0,.ref 112,.none,.none,.none,.none,.int 439 0,.int 65 0,.str "/claim/cut.py" 440]),
 ⟨.type "frame",none,.plain,#[some (.ref 113),some (.ref 3),some (.ref 110),none,some (.str "cpy313.urllib.robotparser" 432),none,some (.ref 0)]⟩,
 d5,
 ku,
 (mV [.str "self" 449]),
 d5,
 (M0 0 0 (.none) (.none)),
 (kg [.str "__init__" 446,.str "Entry.__init__" 447,.str "/claim/cut.py" 448,.int 67 0,.int 1 0,.int 0 0,.int 0 0,.int 3 0,.ref 115,.bool true,.int 181 0,.ref 116,.none,.ref 117,.ref 118,.ref 119,.int 450 0,.int 67 0,.str "/claim/cut.py" 451]),
 (M0 0 3 (.str "cpy313.urllib.robotparser" 432) (.ref 120)),
 d5,
 ku,
 (mV [.str "self" 456,.str "ret" 457,.str "agent" 458,.str "rate" 459]),
 d5,
 (M0 1 0 (.none) (.none)),
 (kg [.str "__str__" 453,.str "Entry.__str__" 454,.str "/claim/cut.py" 455,.int 73 0,.int 1 0,.int 0 0,.int 0 0,.int 3 0,.ref 122,.bool true,.int 181 0,.ref 123,.none,.ref 124,.ref 125,.ref 126,.int 460 0,.int 73 0,.str "/claim/cut.py" 461]),
 (M0 1 3 (.str "cpy313.urllib.robotparser" 432) (.ref 127)),
 d5,
 ku,
 (mV [.str "self" 466,.str "useragent" 467]),
 d5,
 (M0 2 0 (.none) (.none)),
 (kg [.str "applies_to" 463,.str "Entry.applies_to" 464,.str "/claim/cut.py" 465,.int 90 0,.int 2 0,.int 0 0,.int 0 0,.int 3 0,.ref 129,.bool true,.int 181 0,.ref 130,.none,.ref 131,.ref 132,.ref 133,.int 468 0,.int 90 0,.str "/claim/cut.py" 469]),
 (M0 2 3 (.str "cpy313.urllib.robotparser" 432) (.ref 134)),
 d5,
 ku,
 (mV [.str "self" 474,.str "filename" 475]),
 d5,
 (M0 3 0 (.none) (.none)),
 (kg [.str "allowance" 471,.str "Entry.allowance" 472,.str "/claim/cut.py" 473,.int 93 0,.int 2 0,.int 0 0,.int 0 0,.int 3 0,.ref 136,.bool true,.int 181 0,.ref 137,.none,.ref 138,.ref 139,.ref 140,.int 476 0,.int 93 0,.str "/claim/cut.py" 477]),
 (M0 3 3 (.str "cpy313.urllib.robotparser" 432) (.ref 141)),
 (mV [.str "delay" 479,.str "req_rate" 480,.str "rulelines" 481,.str "useragents" 482]),
 ⟨.type "dict",none,.dict #[cy P "__module__" 441 (.str "cpy313.urllib.robotparser" 432),cy P "__firstlineno__" 445 (.int 65 444),cy P "__init__" 452 (.ref 121),cy P "__str__" 462 (.ref 128),cy P "applies_to" 470 (.ref 135),cy P "allowance" 478 (.ref 142),cy P "__static_attributes__" 483 (.ref 143),cy P "__dict__" 485 (.ref 146),cy P "__weakref__" 487 (.ref 147),cy P "__doc__" 488 (.none)] 4,#[]⟩,
 ⟨.type "type",none,.cls {name:="Entry",bases:=[.type "object"],mro:=[.ref 145,.type "object"],ns:=144,qualname:="Entry",hasDict:=true,slotNames:=[],subclasses:=[],abstract:=false,collection:=none,hasDel:=false},#[none,none,some (.str "Entry" 434),some (.str "Entry" 442),some (.builtin "object.__new__"),some (.bool true)]⟩,
 ⟨.type "getset_descriptor",none,.fields #[.str "__dict__" 484,.ref 145,.builtin "function.__dict__",.builtin "function.__dict__#set"],#[]⟩,
 ⟨.type "getset_descriptor",none,.fields #[.str "__weakref__" 486,.ref 145,.builtin "ExceptionGroup.__weakref__",.none],#[]⟩,
 ⟨.type "super",none,.fields #[.ref 145,.ref 145,.ref 145],#[]⟩,
 ⟨.type "builtin_function_or_method",none,.fields #[.builtin "object.__init_subclass__",.ref 145],#[]⟩,
 d5,
 ku,
 (mV [.str "e1" 494,.str "e2" 495,.str "entry" 496]),
 d5,
 (ib 17 0 (.none) (.none)),
 (kg [.str "merge_entries" 491,.str "merge_entries" 492,.str "/claim/cut.py" 493,.int 95 0,.int 2 0,.int 0 0,.int 0 0,.int 3 0,.ref 150,.bool true,.int 181 0,.ref 151,.none,.ref 152,.ref 153,.ref 154,.int 497 0,.int 95 0,.str "/claim/cut.py" 498]),
 (ib 17 3 (.str "cpy313.urllib.robotparser" 432) (.ref 155)),
 d5,
 ku,
 (mV [.str "script" 505,.str "cells" 506,.str "place" 507]),
 d5,
 (ib 19 0 (.none) (.none)),
 (kg [.str "_law_cells" 502,.str "_law_cells" 503,.str "/claim/cut.py" 504,.int 103 0,.int 1 0,.int 0 0,.int 0 0,.int 3 0,.ref 157,.bool true,.int 181 0,.ref 158,.none,.ref 159,.ref 160,.ref 161,.int 508 0,.int 103 0,.str "/claim/cut.py" 509]),
 (ib 19 3 (.str "law_nb0160_01" 500) (.ref 162)),
 d5,
 ku,
 (mV [.str "cell" 514,.str "tails" 515]),
 d5,
 (ib 20 0 (.none) (.none)),
 (kg [.str "_law_tail" 511,.str "_law_tail" 512,.str "/claim/cut.py" 513,.int 108 0,.int 1 0,.int 0 0,.int 0 0,.int 3 0,.ref 164,.bool true,.int 181 0,.ref 165,.none,.ref 166,.ref 167,.ref 168,.int 516 0,.int 108 0,.str "/claim/cut.py" 517]),
 (ib 20 3 (.str "law_nb0160_01" 500) (.ref 169)),
 d5,
 ku,
 (mV [.str "cell" 522]),
 d5,
 (ib 21 0 (.none) (.none)),
 (kg [.str "_law_word" 519,.str "_law_word" 520,.str "/claim/cut.py" 521,.int 113 0,.int 1 0,.int 0 0,.int 0 0,.int 3 0,.ref 171,.bool true,.int 181 0,.ref 172,.none,.ref 173,.ref 174,.ref 175,.int 523 0,.int 113 0,.str "/claim/cut.py" 524]),
 (ib 21 3 (.str "law_nb0160_01" 500) (.ref 176)),
 d5,
 ku,
 (ib 22 0 (.none) (.none)),
 (kg [.str "_law_there" 526,.str "_law_there" 527,.str "/claim/cut.py" 528,.int 115 0,.int 1 0,.int 0 0,.int 0 0,.int 3 0,.ref 178,.bool true,.int 181 0,.ref 179,.none,.none,.none,.ref 180,.int 529 0,.int 115 0,.str "/claim/cut.py" 530]),
 (ib 22 3 (.str "law_nb0160_01" 500) (.ref 181)),
 d5,
 ku,
 (mV [.str "cell" 535,.str "rate" 536]),
 d5,
 (ib 23 0 (.none) (.none)),
 (kg [.str "_law_rate" 532,.str "_law_rate" 533,.str "/claim/cut.py" 534,.int 117 0,.int 1 0,.int 0 0,.int 0 0,.int 3 0,.ref 183,.bool true,.int 181 0,.ref 184,.none,.ref 185,.ref 186,.ref 187,.int 537 0,.int 117 0,.str "/claim/cut.py" 538]),
 (ib 23 3 (.str "law_nb0160_01" 500) (.ref 188)),
 d5,
 ku,
 (ib 24 0 (.none) (.none)),
 (kg [.str "_law_merged" 540,.str "_law_merged" 541,.str "/claim/cut.py" 542,.int 122 0,.int 1 0,.int 0 0,.int 0 0,.int 3 0,.ref 190,.bool true,.int 181 0,.ref 191,.none,.none,.none,.ref 192,.int 543 0,.int 122 0,.str "/claim/cut.py" 544]),
 (ib 24 3 (.str "law_nb0160_01" 500) (.ref 193)),
 d5,
 ku,
 (ib 25 0 (.none) (.none)),
 (kg [.str "_law_rows" 546,.str "_law_rows" 547,.str "/claim/cut.py" 548,.int 141 0,.int 1 0,.int 0 0,.int 0 0,.int 3 0,.ref 195,.bool true,.int 181 0,.ref 196,.none,.none,.none,.ref 197,.int 549 0,.int 141 0,.str "/claim/cut.py" 550]),
 (ib 25 3 (.str "law_nb0160_01" 500) (.ref 198)),
 d5,
 ku,
 (mV [.str "dressed" 555,.str "doc" 556,.str "numbers" 557,.str "line" 558,.str "dress" 559]),
 d5,
 (ib 26 0 (.none) (.none)),
 (kg [.str "_law_written" 552,.str "_law_written" 553,.str "/claim/cut.py" 554,.int 161 0,.int 1 0,.int 0 0,.int 0 0,.int 3 0,.ref 200,.bool true,.int 181 0,.ref 201,.none,.ref 202,.ref 203,.ref 204,.int 560 0,.int 161 0,.str "/claim/cut.py" 561]),
 (ib 26 3 (.str "law_nb0160_01" 500) (.ref 205)),
 d5,
 ku,
 (mV [.str "doc" 566,.str "texts" 567,.str "place" 568,.str "text" 569,.str "err" 570]),
 d5,
 (ib 27 0 (.none) (.none)),
 (kg [.str "_law_read" 563,.str "_law_read" 564,.str "/claim/cut.py" 565,.int 170 0,.int 1 0,.int 0 0,.int 0 0,.int 3 0,.ref 207,.bool true,.int 181 0,.ref 208,.none,.ref 209,.ref 210,.ref 211,.int 571 0,.int 170 0,.str "/claim/cut.py" 572]),
 (ib 27 3 (.str "law_nb0160_01" 500) (.ref 212)),
 d5,
 ku,
 (ib 28 0 (.none) (.none)),
 (kg [.str "_law_mended" 574,.str "_law_mended" 575,.str "/claim/cut.py" 576,.int 186 0,.int 1 0,.int 0 0,.int 0 0,.int 3 0,.ref 214,.bool true,.int 181 0,.ref 215,.none,.none,.none,.ref 216,.int 577 0,.int 186 0,.str "/claim/cut.py" 578]),
 (ib 28 3 (.str "law_nb0160_01" 500) (.ref 217)),
 d5,
 ku,
 (mV [.str "rows" 583,.str "told" 584,.str "rest" 585,.str "turn" 586,.str "texts" 587,.str "words" 588,.str "line" 589,.str "faulty" 590,.str "k" 591,.str "ahead" 592,.str "tail" 593,.str "strings" 594,.str "fault" 595,.str "sign" 596,.str "dress" 597]),
 d5,
 (ib 29 0 (.none) (.none)),
 (kg [.str "_law_due" 580,.str "_law_due" 581,.str "/claim/cut.py" 582,.int 199 0,.int 1 0,.int 0 0,.int 0 0,.int 3 0,.ref 219,.bool true,.int 181 0,.ref 220,.none,.ref 221,.ref 222,.ref 223,.int 598 0,.int 199 0,.str "/claim/cut.py" 599]),
 (ib 29 3 (.str "law_nb0160_01" 500) (.ref 224)),
 d5,
 ku,
 (ib 30 0 (.none) (.none)),
 (kg [.str "_law_parted" 601,.str "_law_parted" 602,.str "/claim/cut.py" 603,.int 220 0,.int 1 0,.int 0 0,.int 0 0,.int 3 0,.ref 226,.bool true,.int 181 0,.ref 227,.none,.none,.none,.ref 228,.int 604 0,.int 220 0,.str "/claim/cut.py" 605]),
 (ib 30 3 (.str "law_nb0160_01" 500) (.ref 229)),
 d5,
 ku,
 (mV [.str "texts" 610,.str "agents" 611,.str "delays" 612,.str "rates" 613,.str "others" 614,.str "entry" 615,.str "text" 616,.str "requests" 617,.str "seconds" 618]),
 d5,
 (ib 31 0 (.none) (.none)),
 (kg [.str "_law_anew" 607,.str "_law_anew" 608,.str "/claim/cut.py" 609,.int 226 0,.int 1 0,.int 0 0,.int 0 0,.int 3 0,.ref 231,.bool true,.int 181 0,.ref 232,.none,.ref 233,.ref 234,.ref 235,.int 619 0,.int 226 0,.str "/claim/cut.py" 620]),
 (ib 31 3 (.str "law_nb0160_01" 500) (.ref 236)),
 d5,
 ku,
 (mV [.str "texts" 625,.str "agents" 626,.str "delays" 627,.str "rates" 628,.str "others" 629]),
 d5,
 (ib 32 0 (.none) (.none)),
 (kg [.str "_law_sorted" 622,.str "_law_sorted" 623,.str "/claim/cut.py" 624,.int 239 0,.int 1 0,.int 0 0,.int 0 0,.int 3 0,.ref 238,.bool true,.int 181 0,.ref 239,.none,.ref 240,.ref 241,.ref 242,.int 630 0,.int 239 0,.str "/claim/cut.py" 631]),
 (ib 32 3 (.str "law_nb0160_01" 500) (.ref 243)),
 d5,
 ku,
 (ib 33 0 (.none) (.none)),
 (kg [.str "law" 633,.str "law" 634,.str "/claim/cut.py" 635,.int 244 0,.int 1 0,.int 0 0,.int 0 0,.int 3 0,.ref 245,.bool true,.int 181 0,.ref 246,.none,.none,.none,.ref 247,.int 636 0,.int 244 0,.str "/claim/cut.py" 637]),
 (ib 33 3 (.str "law_nb0160_01" 500) (.ref 248))]
noncomputable def LZ(P:Params)(a b c d e f g h:V):List Obj:=((MG P 6 a b c d e f g h).set 3 (o3z P)).set 12 WX++tlZ P
set_option maxHeartbeats 4000000 in
theorem kZ(w:World)(os:OsState)(a b c d e f g h:V):qx w 1203 (sS w os (MG w.params 6 a b c d e f g h) 53 356) (tS 8 (EJ 10 19))=some (sS w os (LZ w.params a b c d e f g h) 250 639,⟨.pure (.done (.ret .none)),.builtin "claim.caller" {},default,[]⟩):=by kernel_rfl
theorem Ends.done(h:Φ s):Ends p w Φ s ⟨.pure (.done f),c,q,[]⟩:=⟨f,s,h,Runs.done⟩
noncomputable def sZ(w:World)(os:OsState)(a b c d e f g h:V):Shared:=⟨hp w.params (LZ w.params a b c d e f g h),gF,boot_drawn,639,os⟩
noncomputable def WY(w:World)(os:OsState)(s:Shared):Prop:=∃a b c d e f g h,FV e (MZ.erase 9)∧FV h [10,9,32]∧s=sZ w os a b c d e f g h
noncomputable def sB(w:World)(os:OsState):Shared:=⟨boot_heap w.params,gR [],boot_drawn,boot_toks,os⟩
theorem WZ(w:World)(os:OsState)(a b c d e f g h:V):(sS w os (LZ w.params a b c d e f g h) 250 639).abs=sZ w os a b c d e f g h:=by kernel_rfl
theorem W0(w:World)(os:OsState):(sx w.params (L0 w.params) 11 (gR []) boot_toks os).abs=sB w os:=by kernel_rfl
theorem Kw(w:World)(os:OsState):Ends pp w (WY w os) (sB w os) (topStub pp):=by
 rw[←W0];refine Nj fun a b c d e f g h Fe Fh=>?_;refine Ends.go (kZ w os a b c d e f g h) ?_;rw[WZ];exact Ends.done ⟨a,b,c,d,e,f,g,h,Fe,Fh,rfl⟩
section
variable(w:World)(a b c d e f g h:V)
theorem Qv:(hp w.params (LZ w.params a b c d e f g h)).life=(boot_heap w.params).life:=rfl
theorem Hz:staticsOk (importedModules pp.main.body) (boot_heap w.params) (hp w.params (LZ w.params a b c d e f g h))=true:=by kernel_rfl
theorem Nk:namesBound pp (hp w.params (LZ w.params a b c d e f g h))=true:=by kernel_rfl
theorem Qw:laidKept (boot_heap w.params) (hp w.params (LZ w.params a b c d e f g h))=true:=by kernel_rfl
theorem Tq:(hp w.params (LZ w.params a b c d e f g h)).accountedOkI (importedModules pp.main.body)=true:=by kernel_rfl
theorem Qx:(hp w.params (LZ w.params a b c d e f g h)).isNs eH=true:=by kernel_rfl
theorem Tr:(hp w.params (LZ w.params a b c d e f g h)).isNs fB=true:=by kernel_rfl
theorem Qy:(hp w.params (LZ w.params a b c d e f g h)).bltView=bltViewBooted:=by kernel_rfl
theorem Nl:(hp w.params (LZ w.params a b c d e f g h)).bmainOk=true:=by kernel_rfl
end
theorem EL{σ s:Shared}(h:σ.forget=s.forget)(hg:s.gens=gF):σ=s:=by
 obtain⟨h1,g1,d1,t1,o1⟩:=σ;obtain⟨h2,g2,d2,t2,o2⟩:=s;simp only[Shared.forget,Shared.mk.injEq] at h;obtain⟨rfl,ZT,rfl,rfl,rfl⟩:=h;subst hg;have:g1=gF:=by
  have hs:g1.size=1:=by have:=congrArg Array.size ZT;simpa [gF] using this
  have e0:(g1.map GenState.forget)[0]?=some .finished:=by rw[ZT];simp[gF]
  rw[Array.getElem?_map,bC (by lia)] at e0;apply Array.ext
  ·rw[hs];rfl
  ·intro i hi Oa
   obtain rfl:i=0:=(dC (aE Oa) (cS _));simp only[iV,Option.some.injEq] at e0;show g1[0]=.finished;revert e0;cases g1[0]<;>simp
 subst this;rfl
theorem Nn(w:World)(a b c d e f g h:V)(he:(boot_heap w.params).get? x=some o)(hn:x≠3):(hp w.params (LZ w.params a b c d e f g h)).get? x=some o:=by
 have hx:x<11:=Heap.lt_size he;rw[←he];exact jY.mp (show[0,1,2,4,5,6,7,8,9,10].map (hp w.params (LZ w.params a b c d e f g h)).get?=[0,1,2,4,5,6,7,8,9,10].map (boot_heap w.params).get? by kernel_rfl) x ((by decide:∀x,x<11→x≠3→x∈[0,1,2,4,5,6,7,8,9,10]) x hx hn)
theorem Qz(w:World)(os:OsState)(hz:(sB w os).asleep):∃a9,WY w os a9∧TopRan pp w (sB w os) a9:=by
 obtain⟨n,f,c,q,σ,pZ,hr,hf,ML⟩:=(Kw w os).Tg hz (fun pZ h=>by obtain⟨a,b,c,d,e,f,g,h,_,_,rfl⟩:=h;show gZ gF=false;simp[gF,gZ]);have YK:=ML;obtain⟨a,b,c',d,e,f',g,h,Fe,Fh,rfl⟩:=ML;obtain rfl:=EL hf rfl;have hm:=Qx w a b c' d e f' g h;have hb:=Tr w a b c' d e f' g h;refine⟨_,YK,⟨n,_,hr,rfl⟩,Qv w a b c' d e f' g h,rfl,fun x o hx hn=>Nn w a b c' d e f' g h hx fun q=>hn (.inl q),Heap.accountedI_of_ok (Tq w a b c' d e f' g h),statics_of_ok (Hz w a b c' d e f' g h),Pin.keysAreStrs_of hm,
  fun x hx=>(Pin.builtinOf_eq hb x).trans (Heap.of_bltView hb (Qy w a b c' d e f' g h) x hx),?_,?_,names_of_bound (Nk w a b c' d e f' g h),laid_of_kept (Qw w a b c' d e f' g h)⟩
 ·obtain⟨bm,ob,h1,_,h2,h3,h4,_⟩:=Heap.bmainOk_spec (Nl w a b c' d e f' g h)
  exact⟨bm,ob,(Pin.globalOf_eq hm _).trans h1,h2,h3,h4⟩
 ·intro x hx
  obtain rfl:x=.finished:=by simpa [sZ,gF] using hx
  trivial
end MineH.Internal
namespace Mine.Internal
open PySem
noncomputable abbrev Tx:=List Nat
noncomputable def mk(F:Nat×Nat×List PS→List D→Option (R D))(S:D→D→D→Option (List Nat)):Gl:=⟨fun k=>(tab k).map F,Bd,S⟩
section
variable{G:Gl}{n:Nat}
noncomputable def E1(G:Gl)(e:PE)(σ:St)(d:D)(σ':St):Prop:=(bo G e).1 σ=some (.ok d,σ')
noncomputable def T1(G:Gl)(e:PE)(σ:St)(b:Bool)(σ':St):Prop:=(bo G e).2 σ=some (.ok b,σ')
noncomputable def L1(G:Gl)(l:List PE)(σ:St)(ds:List D)(σ':St):Prop:=fe (bol G l) σ=some (.ok ds,σ')
noncomputable def X1(G:Gl)(n:Nat)(p:PS)(σ σ':St):Prop:=A3 G n p σ=some (.ok .next,σ')
noncomputable def Xs(G:Gl)(n:Nat)(l:List PS)(σ:St)(m:Mo Fl):Prop:=cx G n l σ=m
theorem E1.var{i:Nat}{σ:St}{x:Slot}(h:σ.get i=some x):E1 G (.var i) σ x.d (σ.put i (.val x.d)):=by
 show iz i σ=_;unfold iz;rw[h];rfl
theorem E1.val{i:Nat}{σ:St}{d:D}(h:σ.get i=some (.val d))(h':σ.put i (.val d)=σ):E1 G (.var i) σ d σ:=by
 have:=E1.var (G:=G) h;rw[show Slot.d (.val d)=d from rfl,h'] at this;exact this
theorem E1.a7{d:D}{σ:St}:E1 G (.a7 d) σ d σ:=rfl
theorem E1.glob{g:Nat}{d:D}{σ:St}(h:G.glob g=some d):E1 G (.glob g) σ d σ:=by
 show Mo.of ((G.glob g).map .ok) σ=_;rw[h];rfl
theorem E1.cvar{j:Nat}{d:D}{σ:St}(h:(σ.κ[j]?).join=some d):E1 G (.cvar j) σ d σ:=by
 show Mo.of (((σ.κ[j]?).join).map .ok) σ=_;rw[h];rfl
theorem af{α β:Type}{m:Mo α}{a:α}{σ:St}{f:α→St→Mo β}(h:m=some (.ok a,σ)):m.bind f=f a σ:=by rw[h];rfl
theorem cu{α:Type}{m:Mo α}{a:α}{σ:St}(h:m=some (.ok a,σ)):au m=some (.ok a,σ):=by rw[h];rfl
theorem of_ok{α:Type}{r:Option (R α)}{a:α}{σ:St}(h:r=some (.ok a)):Mo.of r σ=some (.ok a,σ):=by rw[h];rfl
theorem E1.bin{op:Ma}{a b:PE}{x y z:D}{σ σ1 σ2:St}(ha:E1 G a σ x σ1)(hb:E1 G b σ1 y σ2)(h:rP op x y=some (.ok z)):E1 G (.bin op a b) σ z σ2:=
 (af ha).trans ((af hb).trans (of_ok h))
theorem E1.cmp{op:MR}{a b:PE}{x y z:D}{σ σ1 σ2:St}(ha:E1 G a σ x σ1)(hb:E1 G b σ1 y σ2)(h:u7 op x y=some (.ok z)):E1 G (.cmp op a b) σ z σ2:=
 (af ha).trans ((af hb).trans (of_ok h))
theorem pS{e:PE}{σ σ':St}{d:D}{b:Bool}(h:E1 G e σ d σ')(hb:kM d=some b):((bo G e).1 σ).bind (fun x σ=>Mo.of ((kM x).map .ok) σ)=some (.ok b,σ'):=
 (af h).trans (of_ok (by rw[hb];rfl))
theorem T1.cmp{op:MR}{a b:PE}{x y:D}{c:Bool}{σ σ1 σ2:St}(ha:E1 G a σ x σ1)(hb:E1 G b σ1 y σ2)(h:u7 op x y=some (.ok (.bool c))):T1 G (.cmp op a b) σ c σ2:=
 pS (E1.cmp ha hb h) rfl
theorem T1.bin{op:Ma}{a b:PE}{x y z:D}{c:Bool}{σ σ1 σ2:St}(ha:E1 G a σ x σ1)(hb:E1 G b σ1 y σ2)(h:rP op x y=some (.ok z))(ht:kM z=some c):T1 G (.bin op a b) σ c σ2:=
 pS (E1.bin ha hb h) ht
theorem T1.var{i:Nat}{σ:St}{x:Slot}{b:Bool}(h:σ.get i=some x)(hb:kM x.d=some b):T1 G (.var i) σ b σ:=by
 show peek i σ=_;unfold peek;rw[h];exact of_ok (by rw[hb];rfl)
theorem T1.a7{d:D}{σ:St}{b:Bool}(h:kM d=some b):T1 G (.a7 d) σ b σ:=pS (G:=G) (e:=.a7 d) E1.a7 h
theorem T1.not{a:PE}{b:Bool}{σ σ':St}(h:T1 G a σ b σ'):T1 G (.sa a) σ (!b) σ':=(af h).trans rfl
theorem E1.sub{a i:PE}{x y z:D}{σ σ1 σ2:St}(ha:E1 G a σ x σ1)(hb:E1 G i σ1 y σ2)(h:tB x y=some (.ok z)):E1 G (.sub a i) σ z σ2:=
 (af ha).trans ((af hb).trans (of_ok h))
theorem E1.slice{a l h:PE}{x y z r:D}{σ σ1 σ2 Iu:St}(ha:E1 G a σ x σ1)(hl:E1 G l σ1 y σ2)(hh:E1 G h σ2 z Iu)(hr:km x y z=some (.ok r)):E1 G (.slice a l h) σ r Iu:=
 (af ha).trans ((af hl).trans ((af hh).trans (of_ok hr)))
theorem E1.attr{a:PE}{x:D}{nm:Str}{z:D}{σ σ1:St}(ha:E1 G a σ x σ1)(h:rQ x nm=some (.ok z)):E1 G (.attr a nm) σ z σ1:=(af ha).trans (of_ok h)
theorem E1.ite{c a b:PE}{t:Bool}{z:D}{σ σ1 σ2:St}(hc:T1 G c σ t σ1)(h:(if t then E1 G a σ1 z σ2 else E1 G b σ1 z σ2)):E1 G (.ite c a b) σ z σ2:=by
 refine(af hc).trans ?_;cases t with
 |true=>exact h
 |false=>exact h
theorem L1.nil{σ:St}:L1 G [] σ [] σ:=rfl
theorem L1.cons{e:PE}{r:List PE}{d:D}{ds:List D}{σ σ1 σ2:St}(h:E1 G e σ d σ1)(hr:L1 G r σ1 ds σ2):L1 G (e::r) σ (d::ds) σ2:=
 (af h).trans ((af hr).trans rfl)
theorem L1.one{e:PE}{d:D}{σ σ1:St}(h:E1 G e σ d σ1):L1 G [e] σ [d] σ1:=.cons h .nil
theorem E1.tup{l:List PE}{ds:List D}{σ σ1:St}(h:L1 G l σ ds σ1)(hs:ds.length≤sizeLine):E1 G (.tup l) σ (.tup ds) σ1:=
 (af h).trans (by unfold rS;rw[if_pos hs];rfl)
theorem E1.list{l:List PE}{ds:List D}{σ σ1:St}(h:L1 G l σ ds σ1)(hs:ds.length≤sizeLine):E1 G (.list l) σ (.list ds) σ1:=
 (af h).trans (by unfold jt;rw[if_pos hs];rfl)
theorem E1.call{f:Nat}{l:List PE}{ds:List D}{d:D}{F:List D→Option (R D)}{σ σ1:St}(h:L1 G l σ ds σ1)(hF:G.fn f=some F)(hd:F ds=some (.ok d)):E1 G (.call f l) σ d σ1:=
 (af h).trans (by unfold lh;rw[hF];exact of_ok hd)
theorem call_exc{f:Nat}{l:List PE}{ds:List D}{x:X}{F:List D→Option (R D)}{σ σ1:St}(h:L1 G l σ ds σ1)(hF:G.fn f=some F)(hd:F ds=some (.exc x)):(bo G (.call f l)).1 σ=some (.exc x,σ1):=
 (af h).trans (by unfold lh;rw[hF];show Mo.of (F ds) σ1=_;rw[hd];rfl)
theorem E1.dz{m:C9}{o:PE}{l:List PE}{x z:D}{ds:List D}{σ σ1 σ2:St}(ho:E1 G o σ x σ1)(h:L1 G l σ1 ds σ2)(hz:iq m x ds=some (.ok z)):E1 G (.dz m o l) σ z σ2:=
 (af ho).trans ((af (cu h)).trans (of_ok hz))
theorem T1.dz{m:C9}{o:PE}{l:List PE}{x:D}{b:Bool}{ds:List D}{σ σ1 σ2:St}(ho:E1 G o σ x σ1)(h:L1 G l σ1 ds σ2)(hz:iq m x ds=some (.ok (.bool b))):T1 G (.dz m o l) σ b σ2:=
 pS (E1.dz ho h hz) rfl
theorem E1.fn{f:Fn}{a:PE}{x z:D}{σ σ1:St}(h:E1 G a σ x σ1)(hi:∀fs,x≠.inst fs)(hz:Mb f x=some (.ok z)):E1 G (.fn f a) σ z σ1:=
 (af h).trans (by
  have:Ot G f x σ1=.of (Mb f x) σ1:=by
   cases x with
   |inst fs=>exact absurd rfl (hi fs)
   |_=>cases f<;>rfl
  exact this.trans (of_ok hz))
theorem E1.fmt{rep:Bool}{a:PE}{x z:D}{σ σ1:St}(h:E1 G a σ x σ1)(hz:mr rep x=some (.ok z)):E1 G (.fmt rep a) σ z σ1:=(af h).trans (of_ok hz)
theorem E1.joined{l:List PE}{ds:List D}{z:D}{σ σ1:St}(h:L1 G l σ ds σ1)(hz:lW ds=some (.ok z)):E1 G (.joined l) σ z σ1:=
 (af (cu h)).trans (of_ok hz)
theorem Sd{i:Nat}{m:Slot→St→Mo Fl}{σ:St}{o:Slot}(ho:σ.get i=some o):hidden i m σ=m o (σ.hide i):=by unfold hidden;rw[ho];rfl
theorem X1.assign{i:Nat}{e:PE}{d:D}{σ σ1:St}(h:E1 G e σ d σ1):X1 G n (.assign i e) σ (σ1.put i (lj e d)):=(af h).trans rfl
theorem X1.unpack{is:List Nat}{e:PE}{d:D}{σ σ1 σ2:St}(h:E1 G e σ d σ1)(hu:rT is d σ1=some (.ok .next,σ2)):X1 G n (.unpack is e) σ σ2:=(af h).trans hu
theorem X1.aug{i:Nat}{e:PE}{o:Slot}{d:D}{σ σ1 σ2:St}(ho:σ.get i=some o)(h:E1 G e (σ.hide i) d σ1)(hu:A2 i o d σ1=some (.ok .next,σ2)):X1 G n (.aug i e) σ σ2:=by
 exact(Sd (m:=fun o σ=>(au (ir G e σ)).bind (A2 i o)) ho).trans ((af (cu h)).trans hu)
theorem X1.append{i:Nat}{e:PE}{o:Slot}{d:D}{σ σ1 σ2:St}(ho:σ.get i=some o)(h:E1 G e (σ.hide i) d σ1)(hu:ph i o d σ1=some (.ok .next,σ2)):X1 G n (.append i e) σ σ2:=by
 exact(Sd (m:=fun o σ=>(au (ir G e σ)).bind (ph i o)) ho).trans ((af (cu h)).trans hu)
theorem Xs.cons{p:PS}{r:List PS}{σ σ':St}{m:Mo Fl}(h:X1 G n p σ σ')(hr:Xs G n r σ' m):Xs G n (p::r) σ m:=(af h).trans hr
theorem Xs.ret{e:PE}{r:List PS}{d:D}{σ σ':St}(h:E1 G e σ d σ'):Xs G n (.ret e::r) σ (some (.ok (.ret d),σ')):=by
 show Mo.bind (A3 G n (.ret e) σ) _=_;rw[show A3 G n (.ret e) σ=some (.ok (.ret d),σ') from(af h).trans rfl];rfl
theorem X1.skip{c:PE}{a:List PS}{σ σ':St}(h:T1 G c σ false σ'):X1 G n (.gz c a []) σ σ':=(af h).trans rfl
theorem X1.gz{c:PE}{a b:List PS}{t:Bool}{σ σ1 σ2:St}(h:T1 G c σ t σ1)(hb:Xs G n (if t then a else b) σ1 (some (.ok .next,σ2))):X1 G n (.gz c a b) σ σ2:=by
 refine(af h).trans ?_;cases t with
 |true=>exact hb
 |false=>exact hb
theorem Xs.gz{c:PE}{a b r:List PS}{d:D}{t:Bool}{σ σ1 σ2:St}(h:T1 G c σ t σ1)(hb:Xs G n (if t then a else b) σ1 (some (.ok (.ret d),σ2))):Xs G n (.gz c a b::r) σ (some (.ok (.ret d),σ2)):=by
 show Mo.bind (A3 G n (.gz c a b) σ) _=_;rw[show A3 G n (.gz c a b) σ=some (.ok (.ret d),σ2) from(af h).trans (by
  cases t with
  |true=>exact hb
  |false=>exact hb)];rfl
theorem X1.mu{b h:List PS}{σ σ':St}(hb:Xs G n b σ (some (.ok .next,σ'))):X1 G n (.mu b h) σ σ':=by
 show tE (cx G n b σ) _=_;rw[show cx G n b σ=_ from hb];rfl
theorem X1.ox{b h:List PS}{σ σ':St}(hb:Xs G n b σ (some (.ok .next,σ'))):X1 G n (.ox b h) σ σ':=by
 show tE (cx G n b σ) _=_;rw[show cx G n b σ=_ from hb];rfl
theorem Xs.nil{σ:St}:Xs G n [] σ (some (.ok .next,σ)):=rfl
theorem Xs.one{p:PS}{σ σ':St}(h:X1 G n p σ σ'):Xs G n [p] σ (some (.ok .next,σ')):=.cons h .nil
theorem cz{a v:Nat}{body:List PS}{args:List D}{d:D}{σ':St}(hl:args.length=a)(h:Xs G NF body ⟨args.map (fun d=>some (.val d))++eO (v-args.length) none,[]⟩ (some (.ok (.ret d),σ'))):runK G (a,v,body) args=some (.ok d):=by
 show(if args.length=a then ll G NF v body args else none)=_;rw[if_pos hl];unfold ll;rw[show cx G NF body _=_ from h]
theorem Fu{a v:Nat}{body:List PS}{args:List D}{x:X}{σ':St}(hl:args.length=a)(h:Xs G NF body ⟨args.map (fun d=>some (.val d))++eO (v-args.length) none,[]⟩ (some (.exc x,σ'))):runK G (a,v,body) args=some (.exc x):=by
 show(if args.length=a then ll G NF v body args else none)=_;rw[if_pos hl];unfold ll;rw[show cx G NF body _=_ from h]
end
theorem scan{c:St→Mo Bool}{b:St→Mo Fl}(f:Nat→St)(k:Nat):∀(n i:Nat),(∀j,i≤j→j<i+k→c (f j)=.ok true (f j)∧b (f j)=.ok .next (f (j+1)))→c (f (i+k))=.ok false (f (i+k))→k<n→ji c b n (f i)=.ok .next (f (i+k)):=by
 induction k with
 |zero=>
  intro n i _ h hn;cases n with
  |zero=>exact absurd hn (Nat.not_lt_zero _)
  |succ n=>exact(af h).trans rfl
 |succ k ih=>
  intro n i h1 h2 hn;cases n with
  |zero=>exact absurd hn (Nat.not_lt_zero _)
  |succ n=>
   have h3:=h1 i (bB _) (Nat.lt_add_of_pos_right (Nat.succ_pos k));rw[show i+(k+1)=i+1+k from(cC i k 1)] at h1 h2 ⊢;exact(af h3.1).trans ((af h3.2).trans (ih n (i+1) (fun j a b=>h1 j (fQ a) b) h2 (fC hn)))
theorem Np{x:Tx}{k:Int}(h:(0:Int)≤k∧k<2^63):tB (.str x) (.int k)=some (ni x k):=if_pos h
theorem qy{x:Tx}{k:Nat}{c:Nat}(h:x[k]?=some c)(hk:k<2^63):tB (.str x) (.int (k:Int))=some (.ok (.str [c])):=by
 obtain⟨h1,h2⟩:=bL.mp h;have h3:(0:Int)≤(k:Int)∧(k:Int)<2^63:=by lia
 exact(Np h3).trans (congrArg some ((dif_pos ⟨h3.1,h1⟩).trans (congrArg (fun c=>R.ok (D.str [c])) h2)))
noncomputable def W2(src:Tx)(l:Tx)(p:Nat):St:=⟨[some (.val (.str src)),some (.val (.int (p:Int))),some (.val (.kh l))],[]⟩
theorem add_one(p:Nat):rP .add (.int (p:Int)) (.int 1)=some (.ok (.int ((p+1:Nat):Int))):=rfl
theorem wi(G:Gl){src l:Tx}{p k c:Nat}(hw:∀j,p≤j→j<p+k→∃c,src[j]?=some c∧l.contains c=true)(hc:src[p+k]?=some c)(hl:l.contains c=false)(hs:src.length<2000):
 runK G (3,3,lF) [.str src,.int (p:Int),.kh l]=some (.ok (.int ((p+k:Nat):Int))):=by
 have hk:p+k<src.length:=(bL.mp hc).1;refine cz (σ':=W2 src l (p+k)) rfl (Xs.cons (σ':=W2 src l (p+k)) (X1.mu (Xs.one ?_)) (Xs.ret (E1.val rfl rfl)));refine scan (W2 src l) k NF p (fun j h1 h2=>⟨?_,?_⟩) ?_ (by unfold NF;exact cV (eS (aG (aZ hk) (aG (aE hs) (by decide)))))
 ·refine aq (hw j h1 h2) fun c h3 h4=>?_
  exact T1.cmp (E1.sub (E1.val rfl rfl) (E1.val rfl rfl) (qy h3 (aA (aG (aZ h2) (aG (aZ hk) (aE hs))) (by decide)))) (E1.val rfl rfl) (congrArg (fun b=>iu (.bool b)) h4)
 ·refine Xs.one (X1.aug rfl E1.a7 ?_)
  rfl
 ·exact T1.cmp (E1.sub (E1.val rfl rfl) (E1.val rfl rfl) (qy hc (aA (aG (aZ hk) (aE hs)) (by decide)))) (E1.val rfl rfl) (congrArg (fun b=>iu (.bool b)) hl)
theorem EM:∀{w:Tx},(∀x∈w,x≠c)→(w++c::r).idxOf? c=some w.length
 |[],_=>by simp[List.idxOf?,jM]
 |x::w,h=>by
  have h1:=EM (c:=c) (r:=r) (w:=w) fun y hy=>h y (iX _ hy);have h2:(x==c)=false:=by simpa using h x (List.mem_cons_self ..)
  rw[List.idxOf?] at h1 ⊢;rw[List.cons_append,jM,h2,h1];rfl
theorem mK{a:Tx}:(a++c::r)[a.length]?=some c:=by simp
theorem Pb{a w z:Tx}(h1:a.length≤j)(h2:j<a.length+w.length):∃c∈w,(a++(w++z))[j]?=some c:=by
 refine⟨w[j-a.length]'(by lia),List.getElem_mem _,?_⟩;rw[List.getElem?_append_right h1,List.getElem?_append_left (by lia),aY]
theorem Kx{a w r:Tx}:(a++(w++c::r))[a.length+w.length]?=some c:=by
 rw[List.getElem?_append_right (by lia),show a.length+w.length-a.length=w.length by lia];exact mK
theorem q5(G:Gl){a w r l:Tx}(hw:∀x∈w,l.contains x=true)(hc:l.contains c=false)(hs:(a++(w++c::r)).length<2000):
 runK G (3,3,lF) [.str (a++(w++c::r)),.int (a.length:Int),.kh l]=some (.ok (.int ((a.length+w.length:Nat):Int))):=
 wi G (fun j h1 h2=>by
  refine aq (Pb (z:=c::r) h1 h2) fun c h3 h4=>?_;exact⟨c,h4,hw c h3⟩) Kx hc hs
theorem Bn{i n d:Nat}(h:i≤n):dq (some (i:Int)) d n=some i:=(if_pos (e:=none) (dF i)).trans (congrArg some (gU h))
theorem Nq{i j n:Nat}{f:Nat→Nat→D}(h1:i≤n)(h2:j≤n)(h3:n≤sizeLine):AX (some (i:Int)) (some (j:Int)) n f=some (.ok (f i j)):=by
 unfold AX;rw[if_pos h3,Bn h1,Bn h2];rfl
theorem qE{x:Tx}(h1:i≤x.length)(h2:j≤x.length)(h3:x.length≤sizeLine):km (.str x) (.int (i:Int)) (.int (j:Int))=some (.ok (.str ((x.drop i).take (j-i)))):=Nq h1 h2 h3
theorem aa(h:n<100000):n≤sizeLine:=by unfold sizeLine;exact aG (aE h) (by decide)
noncomputable def Se(src:Tx)(c:Nat)(l:Tx)(eb:D)(q:Int)(p:Nat):St:=⟨[some (.val (.str src)),some (.val (.int (p:Int))),some (.val (.str [c])),some (.val (.kh l)),some (.val eb),some (.val (.int q))],[]⟩
theorem Bo{a w r:Tx}(hw:∀x∈w,x≠c)(hs:(a++(w++c::r)).length<2000):iq .index (.str (a++(w++c::r))) [.str [c],.int (a.length:Int)]=some (.ok (.int ((a.length+w.length:Nat):Int))):=by
 have h:(0:Int)≤(a.length:Int)∧(a.length:Int).toNat≤(a++(w++c::r)).length∧(a++(w++c::r)).length≤sizeLine:=⟨(dF _),by simp,aa (aA (aE hs) (by decide))⟩;refine(if_pos h).trans ?_;rw[cU,gJ,EM hw];rfl
theorem q6(G:Gl){a w r l:Tx}(hw:∀x∈w,x≠c)(hl:∀x∈w,l.contains x=false)(hs:(a++(w++c::r)).length<2000):
 runK G (5,6,lG) [.str (a++(w++c::r)),.int (a.length:Int),.str [c],.kh l,eb]=some (.ok (.int ((a.length+w.length:Nat):Int))):=by
 have h0:=Bo hw hs;have hd:(a++(w++c::r)).drop a.length=w++c::r:=gJ;generalize hx:a++(w++c::r)=src at *;have hlen:a.length+w.length≤src.length:=by rw[←hx];simp
 refine cz (σ':=Se src c l eb ((a.length+w.length:Nat):Int) a.length) rfl (Xs.cons (σ':=Se src c l eb ((a.length+w.length:Nat):Int) a.length) (X1.ox (Xs.one (X1.assign (E1.dz (E1.val rfl rfl) (.cons (E1.val rfl rfl) (.one (E1.val rfl rfl))) h0)))) ?_);refine Xs.cons (X1.skip (T1.not (b:=true) (T1.dz (E1.val rfl rfl) (.one (E1.slice (E1.val rfl rfl) (E1.val rfl rfl) (E1.val rfl rfl) (qE (cL hlen) hlen (aa (aA (aE hs) (by decide)))))) ?_))) (Xs.ret (E1.val rfl rfl));rw[hd,show a.length+w.length-a.length=w.length by lia,jI];exact congrArg (fun b=>iu (.bool b)) (bQ.mpr fun x hx=>by rw[hl x hx];rfl)
noncomputable def kX:Tx:=[70,111,117,110,100,32,105,110,118,97,108,105,100,32,99,104,97,114,97,99,116,101,114,32]
theorem X1.tC(h:ji (qR G c) (cx G n b) n σ=some (.ok .next,σ')):X1 G n (.tC c b) σ σ':=h
theorem Xs.raise{G:Gl}(ha:E1 G a σ x σ1)(hb:E1 G b σ1 y σ2)(hc:E1 G c σ2 z Iu)(h:G.qQ x y z=some m):Xs G n (.raise a b c::r) σ (some (.exc (.mU m),Iu)):=by
 have e:A3 G n (.raise a b c) σ=some (.exc (.mU m),Iu):=by
  refine(af (cu ha)).trans ((af (cu hb)).trans ((af (cu hc)).trans ?_));rw[h]
 show Mo.bind (A3 G n (.raise a b c) σ) _=_;rw[e];rfl
theorem Xs.Nr(h:T1 G c σ t σ1)(hb:Xs G n (if t then a else b) σ1 (some (.exc x,σ2))):Xs G n (.gz c a b::r) σ (some (.exc x,σ2)):=by
 show Mo.bind (A3 G n (.gz c a b) σ) _=_;rw[show A3 G n (.gz c a b) σ=some (.exc x,σ2) from(af h).trans (by
  cases t with
  |true=>exact hb
  |false=>exact hb)];rfl
theorem wj(G:Gl){a w v r l:Tx}{rp m:Tx}(hw:∀x∈w++e::v,x≠c)(hl:∀x∈w,l.contains x=false)(he:l.contains e=true)(hr:AY [e]=some rp)(VY:rp.length<10)
 (hs:(a++(w++e::(v++c::r))).length<2000) (hm:G.qQ (.str (a++(w++e::(v++c::r)))) (.int ((a.length+w.length:Nat):Int)) (.str (kX++rp))=some m):
 runK G (5,6,lG) [.str (a++(w++e::(v++c::r))),.int (a.length:Int),.str [c],.kh l,eb]=some (.exc (.mU m)):=by
 have h0:=Bo (a:=a) (w:=w++e::v) (r:=r) hw (by simpa using hs);rw[show w++e::v++c::r=w++e::(v++c::r) by simp] at h0;have hd:(a++(w++e::(v++c::r))).drop a.length=(w++e::v)++c::r:=by rw[gJ];simp
 have ye:∀j,a.length≤j→j<a.length+w.length→∃x∈w,(a++(w++e::(v++c::r)))[j]?=some x:=fun j h1 h2=>Pb h1 h2;have sv:(a++(w++e::(v++c::r)))[a.length+w.length]?=some e:=Kx;have hlen:a.length+(w++e::v).length≤(a++(w++e::(v++c::r))).length:=by simp
 have Vm:a.length+w.length<(a++(w++e::(v++c::r))).length:=by simp
 generalize hx:a++(w++e::(v++c::r))=src at *;generalize hq:a.length+(w++e::v).length=q at *;refine Fu (σ':=Se src c l eb (q:Int) (a.length+w.length)) rfl (Xs.cons (σ':=Se src c l eb (q:Int) a.length) (X1.ox (Xs.one (X1.assign (E1.dz (E1.val rfl rfl) (.cons (E1.val rfl rfl) (.one (E1.val rfl rfl))) h0)))) ?_);refine Xs.Nr (t:=!false) (T1.not (T1.dz (b:=false) (E1.val rfl rfl) (.one (E1.slice (E1.val rfl rfl) (E1.val rfl rfl) (E1.val rfl rfl) (qE (aG (aP _ _) (aZ Vm)) hlen (aa (aA (aE hs) (by decide)))))) ?_)) ?_
 ·rw[hd,show q-a.length=(w++e::v).length by lia,jI]
  exact congrArg (fun b=>iu (.bool b)) (List.all_eq_false.mpr ⟨e,dU _ (List.mem_cons_self ..),by rw[he];decide⟩)
 ·refine Xs.cons (σ':=Se src c l eb (q:Int) (a.length+w.length)) (X1.tC (scan (Se src c l eb (q:Int)) w.length NF a.length (fun j h1 h2=>⟨?_,?_⟩) ?_ (by unfold NF;lia))) (Xs.raise (E1.val rfl rfl) (E1.val rfl rfl) (E1.joined (.cons E1.a7 (.one (E1.fmt (z:=.str rp) (E1.sub (E1.val rfl rfl) (E1.val rfl rfl) (qy sv (aA (aG (aZ Vm) (aE hs)) (by decide)))) ?_))) (z:=.str (kX++rp)) ?_) hm)
  ·refine aq (ye j h1 h2) fun x h3 h4=>?_
   exact T1.cmp (E1.sub (E1.val rfl rfl) (E1.val rfl rfl) (qy h4 (aA (aG (aZ h2) (aG (aZ Vm) (aE hs))) (by decide)))) (E1.val rfl rfl) (congrArg (fun b=>iu (.bool !b)) (hl x h3))
  ·refine Xs.one (X1.aug rfl E1.a7 ?_)
   rfl
  ·exact T1.cmp (E1.sub (E1.val rfl rfl) (E1.val rfl rfl) (qy sv (aA (aG (aZ Vm) (aE hs)) (by decide)))) (E1.val rfl rfl) (congrArg (fun b=>iu (.bool !b)) he)
  ·exact congrArg (gM fun y=>R.ok (D.str y)) hr
  ·exact(if_pos ⟨bB 2,aa (by show 24+(rp.length+0)<100000;exact aA (bI (aJ (aE VY) _) _) (by decide))⟩).trans (congrArg (fun y=>iu (.str (kX++y))) (bN rp))
noncomputable def plain(c:Nat):Bool:=decide (32≤c)&&decide (c<127)
theorem qz(h:plain c=true):w8.contains c=false:=by
 simp only[plain,cG,decide_eq_true_eq] at h;have:∀c<127,32≤c→w8.contains c=false:=by decide
 exact this c h.2 h.1
section
variable{d:Nat}
theorem ug{a r:Tx}(hc:c≠35)(hs:(a++c::r).length<2000)(h1:c<1114112):runK (GG d) (2,3,j6) [.str (a++c::r),.int (a.length:Int)]=some (.ok (.int (a.length:Int))):=by
 have h:=mK (a:=a) (c:=c) (r:=r);have hl:a.length<(a++c::r).length:=by simp
 generalize a++c::r=src at *;refine cz (σ':=⟨[some (.val (.str src)),some (.val (.int (a.length:Int))),some (.val (.str [c]))],[]⟩) rfl (Xs.cons (σ':=⟨[some (.val (.str src)),some (.val (.int (a.length:Int))),some (.val (.str [c]))],[]⟩) (X1.mu (Xs.one (X1.assign (E1.sub (E1.val rfl rfl) (E1.val rfl rfl) (qy h (aA (aG (aZ hl) (aE hs)) (by decide))))))) (Xs.cons (X1.skip (T1.cmp (E1.val rfl rfl) E1.a7 ?_)) (Xs.ret (E1.val rfl rfl))));simp[u7,Im,D.toPy,PyData.canLay0,PyData.depth,PyData.strOk,PyData.eqv,hc,h1]
end
theorem eq_int(a b:Int):u7 .eq (.int a) (.int b)=some (.ok (.bool (a==b))):=rfl
theorem ne_int(a b:Int):u7 .ne (.int a) (.int b)=some (.ok (.bool (!(a==b)))):=rfl
noncomputable def lit(x:Tx):Bool:=x.all fun c=>decide (c<128)
theorem nZ{x:Tx}(h:lit x=true):PyData.strOk ⟨x.toArray⟩=true:=by
 unfold PyData.strOk;rw[←iJ];refine bQ.mpr fun c hc=>?_;have:=bQ.mp h c (by simpa using hc);simp only[decide_eq_true_eq] at this ⊢;exact aA (aE this) (by decide)
theorem Fv(ha:lit a=true)(hb:lit b=true):Im (.str a) (.str b)=some (decide (a=b)):=by
 refine(if_pos ⟨nZ ha,nZ hb,(by decide:(0:Nat)≤64)⟩).trans (congrArg some ?_);show(Str.mk a.toArray==Str.mk b.toArray)=_
 by_cases h:a=b
 ·subst h;simp
 ·simp only[h,decide_false,beq_eq_false_iff_ne,ne_eq]
  intro e;have e':a.toArray=b.toArray:=congrArg Str.cps e;exact h (by simpa using congrArg Array.toList e')
theorem eq_str(ha:lit a=true)(hb:lit b=true):u7 .eq (.str a) (.str b)=some (.ok (.bool (decide (a=b)))):=congrArg (gM fun c=>R.ok (D.bool c)) (Fv ha hb)
theorem ne_str(ha:lit a=true)(hb:lit b=true):u7 .ne (.str a) (.str b)=some (.ok (.bool (!decide (a=b)))):=congrArg (gM fun c=>R.ok (D.bool !c)) (Fv ha hb)
theorem wk(h:c σ=some (.ok true,σ')):ji c b (n+1) σ=(b σ').bind fun f σ=>(match f with
 |.next=>ji c b n σ
 |.ret d=>.ok (.ret d) σ):=by
 exact(af h).trans rfl
theorem Bp(h:c σ=some (.ok false,σ')):ji c b (n+1) σ=some (.ok .next,σ'):=by
 exact(af h).trans rfl
theorem Xs.EN(h:(bo G e).1 σ=some (.exc x,σ')):Xs G n (.assign i e::r) σ (some (.exc x,σ')):=by
 show Mo.bind (Mo.bind ((bo G e).1 σ) _) _=_;rw[h];rfl
section
variable{d:Nat}
theorem uB{a w r:Tx}(hw:∀x∈w,plain x=true)(hs:(a++35::(w++10::r)).length<2000):runK (GG (d+1)) (2,3,j6) [.str (a++35::(w++10::r)),.int (a.length:Int)]=some (.ok (.int ((a.length+1+w.length:Nat):Int))):=by
 have h:=mK (a:=a) (c:=35) (r:=w++10::r);have hl:a.length<(a++35::(w++10::r)).length:=by simp
 have hu:=q6 (GG d) (a:=a++[35]) (w:=w) (r:=r) (l:=w8) (c:=10) (eb:=.bool false) (fun x hx=>by
  have:=hw x hx;simp only[plain,cG,decide_eq_true_eq] at this;exact iY (aT (by decide) this.1)) (fun x hx=>qz (hw x hx)) (by simpa using hs)
 rw[show(a++[35])++(w++10::r)=a++35::(w++10::r) by simp,show cJ (a++[35])=a.length+1 by simp] at hu;generalize a++35::(w++10::r)=src at *;refine cz (σ':=⟨[some (.val (.str src)),some (.val (.int (a.length:Int))),some (.val (.str [35]))],[]⟩) rfl (Xs.cons (σ':=⟨[some (.val (.str src)),some (.val (.int (a.length:Int))),some (.val (.str [35]))],[]⟩) (X1.mu (Xs.one (X1.assign (E1.sub (E1.val rfl rfl) (E1.val rfl rfl) (qy h (aA (aG (aZ hl) (aE hs)) (by decide))))))) (Xs.gz (t:=true) (T1.cmp (E1.val rfl rfl) E1.a7 (eq_str (by decide) (by decide))) (Xs.ret (E1.call (.cons (E1.val rfl rfl) (.cons (E1.bin (E1.val rfl rfl) E1.a7 (add_one _)) (.cons E1.a7 (.cons (E1.glob rfl) (.one E1.a7))))) rfl hu))))
noncomputable def ws(c:Nat):Bool:=([32,9,10]:Tx).contains c
inductive Sk:Tx→Tx→Prop
 |stop {c:Nat} {r:Tx}:ws c=false→c≠35→c<128→Sk (c::r) (c::r)
 |ws {c:Nat} {r y:Tx}:ws c=true→Sk r y→Sk (c::r) y
 |Sp {w r y:Tx}:(∀x∈w,plain x=true)→Sk r y→Sk (35::(w++10::r)) y
theorem Sk.head(h:Sk x y):∃c r,y=c::r∧Mine.Internal.ws c=false∧c≠35∧c<128:=by
 induction h with
 |stop h1 h2 h3=>exact⟨_,_,rfl,h1,h2,h3⟩
 |ws _ _ ih=>exact ih
 |Sp _ _ ih=>exact ih
theorem Sk.split(h:Sk x y):∃w z,x=w++z∧(∀c∈w,Mine.Internal.ws c=true)∧(z=y∨∃v r,z=35::(v++10::r)∧(∀x∈v,plain x=true)∧Sk (10::r) y):=by
 induction h with
 |stop h1 h2 h3=>exact⟨[],_,rfl,by simp,.inl rfl⟩
 |@ws c r y h1 _ ih=>
  refine sz ih fun w z bq h2 h3=>?_;subst bq;exact⟨c::w,z,rfl,by simpa [h1] using h2,h3⟩
 |Sp h1 h2 _=>exact⟨[],_,rfl,by simp,.inr ⟨_,_,rfl,h1,.ws (by decide) h2⟩⟩
noncomputable def RA(src:Tx)(p:Nat)(o:Option Slot):St:=⟨[some (.val (.str src)),some (.val (.int (p:Int))),o],[]⟩
noncomputable def b4:List PS:=[.assign 2 (.var 1),.assign 1 (.call 1 [(.var 0),(.var 1),(.glob 2)]),.assign 1 (.call 3 [(.var 0),(.var 1)]),.gz (.cmp .eq (.var 1) (.var 2)) [.ret (.var 1)] []]
theorem Ky{src:Tx}{p q r:Nat}{o:Option Slot}(h1:runK (GG (d+1)) (3,3,lF) [.str src,.int (p:Int),.kh [32,9,10]]=some (.ok (.int (q:Int))))
 (h2:runK (GG (d+1)) (2,3,j6) [.str src,.int (q:Int)]=some (.ok (.int (r:Int)))):cx (GG (d+2)) NF b4 (RA src p o)=if r=p then some (.ok (.ret (.int (r:Int))),RA src r (some (.val (.int (p:Int))))) else some (.ok .next,RA src r (some (.val (.int (p:Int))))):=by
 refine Xs.cons (X1.assign (E1.val rfl rfl)) (Xs.cons (X1.assign (E1.call (.cons (E1.val rfl rfl) (.cons (E1.val rfl rfl) (.one (E1.glob rfl)))) rfl h1)) (Xs.cons (X1.assign (E1.call (.cons (E1.val rfl rfl) (.one (E1.val rfl rfl))) rfl h2)) ?_))
 by_cases h:r=p
 ·subst h
  rw[if_pos rfl];exact Xs.gz (t:=true) (T1.cmp (E1.val rfl rfl) (E1.val rfl rfl) (by rw[eq_int];simp)) (Xs.ret (E1.val rfl rfl))
 ·rw[if_neg h]
  exact Xs.cons (X1.skip (T1.cmp (E1.val rfl rfl) (E1.val rfl rfl) (by rw[eq_int];simp;lia))) Xs.nil
theorem uC:∀(n:Nat) (a x:Tx) (o:Option Slot),Sk x y→x.length<n→(a++x).length<2000→∃b o',x=b++y∧ji (qR (GG (d+2)) (.a7 (.bool true))) (cx (GG (d+2)) NF b4) n (RA (a++x) a.length o)=some (.ok (.ret (.int ((a++b).length:Int))),RA (a++x) (a++b).length o')
 |0,_,_,_,_,h,_=>by lia
 |n+1,a,x,o,h,hn,hs=>by
  obtain⟨c,r,hy,ZU,ZW,ZX⟩:=h.head;refine sz h.split fun w z bq hw hz=>?_;subst bq;rw[wk (T1.a7 rfl)];have L:(a++w).length=a.length+w.length:=by simp
  rcases hz with rfl|⟨v,r',rfl,hv,hk⟩
  ·subst hy
   have h1:=q5 (GG (d+1)) (a:=a) (w:=w) (r:=r) (l:=[32,9,10]) (c:=c) hw ZU hs;have h2:=ug (d:=d+1) (a:=a++w) (r:=r) (c:=c) ZW (by simpa using hs) (aA (aE ZX) (by decide));rw[L,bZ] at h2;rw[Ky h1 h2]
   by_cases ZY:w=[]
   ·subst ZY
    rw[if_pos (by simp)];exact⟨[],some (.val (.int (a.length:Int))),rfl,by simp[Mo.bind,Mo.ok]⟩
   ·have hp:0<w.length:=by cases w with
     |nil=>exact absurd rfl ZY
     |cons=>simp
    rw[if_neg (by lia)];refine iw (uC n (a++w) (c::r) (some (.val (.int (a.length:Int)))) (.stop ZU ZW ZX) (by simp at hn ⊢;lia) (by simpa using hs)) fun b o' e1 e2=>?_;have hb:b=[]:=by
     have:=congrArg cJ e1;simp at this;exact this
    subst hb;refine⟨w,o',rfl,?_⟩;rw[L,bZ,bN,L] at e2;rw[L];exact e2
  ·have h1:=q5 (GG (d+1)) (a:=a) (w:=w) (r:=v++10::r') (l:=[32,9,10]) (c:=35) hw (by decide) hs
   have h2:=uB (d:=d) (a:=a++w) (w:=v) (r:=r') hv (by simpa using hs);rw[L,bZ] at h2;rw[Ky h1 h2,if_neg (by lia)];refine iw (uC n (a++w++35::v) (10::r') (some (.val (.int (a.length:Int)))) hk (by simp at hn ⊢;lia) (by simpa using hs)) fun b o' e1 e2=>?_;refine⟨w++35::(v++b),o',by simp[e1],?_⟩;have E1:a++w++35::v++10::r'=a++(w++35::(v++10::r')):=by simp
   have E2:(a++w++35::v).length=a.length+w.length+1+v.length:=by simp;lia
   have E3:a++w++35::v++b=a++(w++35::(v++b)):=by simp
   rw[E1,E2,E3] at e2;exact e2
theorem vD{a x y:Tx}(h:Sk x y)(hs:(a++x).length<2000):∃b,x=b++y∧runK (GG (d+2)) (2,3,d4) [.str (a++x),.int (a.length:Int)]=some (.ok (.int ((a++b).length:Int))):=by
 refine iw (uC (d:=d) NF a x none h (by simp at hs;unfold NF;exact cV (eS (aG (aZ hs) (by decide)))) hs) fun b o' e1 e2=>?_;refine⟨b,e1,cz (σ':=RA (a++x) (a++b).length o') rfl ?_⟩;show Mo.bind (ji (qR (GG (d+2)) (.a7 (.bool true))) (cx (GG (d+2)) NF b4) NF (RA (a++x) a.length none)) _=_;rw[e2];rfl
theorem Bq{a w r:Tx}(hw:∀x∈w,plain x=true∧x≠39)(hs:(a++39::(w++39::r)).length<2000):runK (GG (d+1)) (2,3,d3) [.str (a++39::(w++39::r)),.int (a.length:Int)]=some (.ok (.tup [.int ((a.length+1+w.length+1:Nat):Int),.str w])):=by
 have hu:=q6 (GG d) (a:=a++[39]) (w:=w) (r:=r) (l:=w8) (c:=39) (eb:=.bool true) (fun x hx=>(hw x hx).2) (fun x hx=>qz (hw x hx).1) (by simpa using hs);rw[show(a++[39])++(w++39::r)=a++39::(w++39::r) by simp,show cJ (a++[39])=a.length+1 by simp] at hu;have hd:(a++39::(w++39::r)).drop (a.length+1)=w++39::r:=by
  rw[show a++39::(w++39::r)=(a++[39])++(w++39::r) by simp,show a.length+1=(a++[39]).length by simp,gJ]
 have hl:a.length+1+w.length<(a++39::(w++39::r)).length:=by simp;lia
 generalize a++39::(w++39::r)=src at *;refine cz (σ':=⟨[some (.val (.str src)),some (.val (.int ((a.length+1+w.length:Nat):Int))),some (.val (.int ((a.length+1:Nat):Int)))],[]⟩) rfl ?_;refine Xs.cons (X1.aug (σ2:=⟨[some (.val (.str src)),some (.val (.int ((a.length+1:Nat):Int))),none],[]⟩) rfl E1.a7 rfl) ?_;refine Xs.cons (X1.assign (E1.val rfl rfl)) (Xs.cons (X1.assign (E1.call (.cons (E1.val rfl rfl) (.cons (E1.val rfl rfl) (.cons E1.a7 (.cons (E1.glob rfl) (.one E1.a7))))) rfl hu)) ?_);refine Xs.ret (E1.tup (.cons (E1.bin (E1.val rfl rfl) E1.a7 (add_one _)) (.one (E1.slice (E1.val rfl rfl) (E1.val rfl rfl) (E1.val rfl rfl) ?_))) (aa (by simp)));rw[qE (by lia) (by lia) (aa (by lia)),hd,show a.length+1+w.length-(a.length+1)=w.length by lia,jI]
theorem IA{a w v r rp m:Tx}(hw:∀x∈w,plain x=true∧x≠39)(hv:∀x∈v,x≠39)(he:w8.contains e=true)(SX:e≠39)(hr:AY [e]=some rp)(VY:rp.length<10)(hs:(a++39::(w++e::(v++39::r))).length<2000)
 (hm:(GG d).qQ (.str (a++39::(w++e::(v++39::r)))) (.int ((a.length+1+w.length:Nat):Int)) (.str (kX++rp))=some m):
 runK (GG (d+1)) (2,3,d3) [.str (a++39::(w++e::(v++39::r))),.int (a.length:Int)]=some (.exc (.mU m)):=by
 have L1:a++39::(w++e::(v++39::r))=(a++[39])++(w++e::(v++39::r)):=by simp
 have L2:a.length+1=(a++[39]).length:=by simp
 rw[L1,L2] at hm;have hu:=wj (GG d) (a:=a++[39]) (w:=w) (v:=v) (r:=r) (l:=w8) (c:=39) (e:=e) (eb:=.bool true) (fun x hx=>by
  simp only[cB,aO] at hx;rcases hx with h|rfl|h
  ·exact(hw x h).2
  ·exact SX
  ·exact hv x h) (fun x hx=>qz (hw x hx).1) he hr VY (by simpa using hs) hm
 rw[←L1,←L2] at hu;generalize a++39::(w++e::(v++39::r))=src at *;refine Fu (σ':=⟨[some (.val (.str src)),some (.val (.int ((a.length+1:Nat):Int))),some (.val (.int ((a.length+1:Nat):Int)))],[]⟩) rfl ?_;refine Xs.cons (X1.aug (σ2:=⟨[some (.val (.str src)),some (.val (.int ((a.length+1:Nat):Int))),none],[]⟩) rfl E1.a7 rfl) ?_;refine Xs.cons (X1.assign (E1.val rfl rfl)) ?_;exact Xs.EN (call_exc (F:=runK (GG d) (5,6,lG)) (.cons (E1.val rfl rfl) (.cons (E1.val rfl rfl) (.cons E1.a7 (.cons (E1.glob rfl) (.one E1.a7))))) rfl hu)
end
noncomputable def fa:Tx:=[108,105,110,101,32]
noncomputable def uh:Tx:=[44,32,99,111,108,117,109,110,32]
noncomputable def ja(z:Tx)(line col:Nat):Tx:=z++(atT++((fa++(digits line++(uh++digits col)))++[41]))
theorem bl(h:n<100):(digits n).length≤2:=by
 have:∀n<100,(digits n).length≤2:=by decide
 exact this n h
theorem LG{x:Tx}(h:x.length≤sizeLine):Mb .len (.str x)=some (.ok (.int (x.length:Int))):=if_pos h
theorem Pc{i:Int}(h:0≤i∧i<10000):mr false (.int i)=some (.ok (.str (digits i.toNat))):=if_pos h
theorem Pd{k:Nat}(h:k<10000):mr false (.int (k:Int))=some (.ok (.str (digits k))):=Pc ⟨dF k,Int.ofNat_lt.mpr h⟩
theorem LH{a b r:Tx}:(a++10::(b++r)).take (a.length+1+b.length)=a++10::b:=by
 rw[show a++10::(b++r)=(a++10::b)++r by simp,show a.length+1+b.length=cJ (a++10::b) by simp;exact cC _ _ _,jI]
section
variable{d:Nat}
theorem LI(G:Gl){a b r:Tx}(hb:∀x∈b,x≠10)(hr:r≠[])(hs:(a++10::(b++r)).length<2000)(h1:a.count 10+2<100)(h2:b.length+1<100):
 ll G NF 4 bz [.str (a++10::(b++r)),.int ((a.length+1+b.length:Nat):Int)]=some (.ok (.str (fa++(digits (a.count 10+2)++(uh++digits (b.length+1)))))):=by
 have hl:a.length+1+b.length<(a++10::(b++r)).length:=by
  have:0<r.length:=fZ.mpr hr;simp;lia
 have ht:=LH (a:=a) (b:=b) (r:=r);have hc:(a++10::b).count 10=a.count 10+1:=by
  rw[eE,List.count_cons_self,List.count_eq_zero.mpr (show 10∉b from fun h=>hb 10 h rfl)]
 have hi:(a++10::b).reverse.idxOf? 10=some b.length:=by
  rw[show(a++10::b).reverse=b.reverse++10::a.reverse by simp,EM (fun x hx=>hb x (by simpa using hx)),List.length_reverse]
 generalize a++10::(b++r)=src at *;generalize hp:a.length+1+b.length=p at *;have gw:src.length≤sizeLine:=aa (aA (aE hs) (by decide));have key:=cz (G:=G) (a:=2) (v:=4) (body:=bz) (args:=[.str src,.int (p:Int)]) (d:=.str (fa++(digits (a.count 10+2)++(uh++digits (b.length+1))))) (σ':=⟨[some (.val (.str src)),some (.val (.int (p:Int))),some (.val (.int ((a.count 10+2:Nat):Int))),some (.val (.int ((b.length+1:Nat):Int)))],[]⟩) rfl ?_
 ·exact(if_pos (show cJ _=_ from rfl)).symm.trans key
 ·refine Xs.cons (σ':=⟨[some (.val (.str src)),some (.val (.int (p:Int))),none,none],[]⟩) (X1.skip (T1.cmp (E1.val rfl rfl) (E1.fn (z:=.int (src.length:Int)) (E1.val rfl rfl) (by simp) (LG gw)) ?_)) ?_
  ·exact congrArg (fun b=>iu (.bool b)) (decide_eq_false (fun h=>absurd (kB.mp h) (Nat.not_le_of_lt hl)))
  refine Xs.cons (X1.assign (E1.bin (E1.dz (z:=.int ((a.count 10+1:Nat):Int)) (E1.val rfl rfl) (.cons E1.a7 (.cons E1.a7 (.one (E1.val rfl rfl)))) ?_) E1.a7 (add_one _))) ?_
  ·refine(if_pos ⟨rfl,dF p,aZ hl,gw⟩).trans ?_
   rw[cU,ht,hc];rfl
  refine Xs.cons (X1.gz (t:=false) (T1.cmp (E1.val rfl rfl) E1.a7 ?_) (Xs.one (X1.assign (E1.bin (E1.val rfl rfl) (E1.dz (z:=.int (a.length:Int)) (E1.val rfl rfl) (.cons E1.a7 (.cons E1.a7 (.one (E1.val rfl rfl)))) ?_) (z:=.int ((b.length+1:Nat):Int)) ?_)))) ?_
  ·exact congrArg (fun b=>iu (.bool b)) (beq_eq_false_iff_ne.mpr (by lia))
  ·refine(if_pos ⟨rfl,dF p,aZ hl,gw⟩).trans ?_
   rw[cU,ht,hi];exact congrArg (fun i=>iu (.int i)) (by lia)
  ·exact congrArg (fun i=>iu (.int i)) (by lia)
  refine Xs.ret (E1.joined (.cons E1.a7 (.cons (E1.fmt (z:=.str (digits (a.count 10+2))) (E1.val rfl rfl) ?_) (.cons E1.a7 (.one (E1.fmt (z:=.str (digits (b.length+1))) (E1.val rfl rfl) ?_))))) ?_)
  ·exact Pd (aT h1 (by decide))
  ·exact Pd (aA (aE h2) (by decide))
  ·have e1:=bl h1
   have e2:=bl h2;exact(if_pos ⟨gY 2 2,aa (by show 5+((digits (a.count 10+2)).length+(9+((digits (b.length+1)).length+0)))<100000;lia)⟩).trans (congrArg (fun y=>iu (.str (fa++(digits (a.count 10+2)++(uh++y))))) (bN _))
theorem RB{a b r z:Tx}(hb:∀x∈b,x≠10)(hr:r≠[])(hs:(a++10::(b++r)).length<2000)(h1:a.count 10+2<100)(h2:b.length+1<100)(hz:z.length<100):
 (GG (d+1)).qQ (.str (a++10::(b++r))) (.int ((a.length+1+b.length:Nat):Int)) (.str z)=some (ja z (a.count 10+2) (b.length+1)):=by
 rw[show(GG (d+1)).qQ=Jv (ll (GG d) NF 4 bz) from rfl];have e1:=bl h1;have e2:=bl h2;have hl:(fa++(digits (a.count 10+2)++(uh++digits (b.length+1)))).length=5+((digits (a.count 10+2)).length+(9+(digits (b.length+1)).length)):=by rw[aV,aV,aV];rfl
 delta Jv onStr;dsimp only;rw[LI (GG d) hb hr hs h1 h2];exact if_pos (aa (by lia))
end
theorem LJ{src:Tx}{p c:Nat}(h:src[p]?=some c)(hs:src.length<2000):km (.str src) (.int (p:Int)) (.int ((p+1:Nat):Int))=some (.ok (.str [c])):=by
 obtain⟨h1,h2⟩:=bL.mp h;rw[qE (by lia) (by lia) (aa (by lia)),cZ h1,show p+1-p=1 by lia,h2];rfl
theorem E1.l9{G:Gl}(ha:E1 G a σ x σ1)(hb:E1 G b σ1 y σ2)(hc:E1 G c σ2 z Iu)(h:G.qQ x y z=some m):E1 G (.l9 a b c) σ (.str m) Iu:=
 (af (cu ha)).trans ((af (cu hb)).trans ((af (cu hc)).trans (of_ok (by rw[h];rfl))))
theorem E1.own{σ σ':St}(h:σ.get i=some (.own ds))(h':σ.put i (.val (.list ds))=σ'):E1 G (.var i) σ (.list ds) σ':=by
 have:=E1.var (G:=G) h;rw[show Slot.d (.own ds)=.list ds from rfl,h'] at this;exact this
noncomputable def sr(src:Tx)(ts:List D)(o:Option Slot)(p:Nat):St:=⟨[some (.val (.str src)),some (.own ts),some (.val (.int (p:Int))),o,none],[]⟩
noncomputable def Tt(src:Tx)(ts:List D)(o:Option Slot)(p:Nat):St:=⟨[some (.val (.str src)),some (.val (.list ts)),some (.val (.int (p:Int))),o,none],[]⟩
noncomputable def here:PE:=.slice (.var 0) (.var 2) (.bin .add (.var 2) (.a7 (.int 1)))
noncomputable def Pe:PE:=.cmp .ne here (.a7 (.str [93]))
noncomputable def wm:Tx:=[73,110,118,97,108,105,100,32,118,97,108,117,101]
noncomputable def wq:Tx:=[85,110,99,108,111,115,101,100,32,97,114,114,97,121]
noncomputable def IB:List PS:=[
 .gz (.cmp .ne here (.a7 (.str [39]))) [.ret (.tup [(.var 1),(.l9 (.var 0) (.var 2) (.a7 (.str wm)))])] [],
 .unpack [2,3] (.call 5 [(.var 0),(.var 2)]),
 .append 1 (.var 3),
 .assign 2 (.call 4 [(.var 0),(.var 2)]),
 .gz (.cmp .ne here (.a7 (.str [44]))) [.ret (.tup [(.var 1),(.l9 (.var 0) (.var 2) (.a7 (.str wq)))])] [],
 .assign 2 (.call 4 [(.var 0),(.bin .add (.var 2) (.a7 (.int 1)))])]
theorem RC:ly=[.assign 1 (.list []),.sb [.assign 2 (.call 4 [(.var 0),(.a7 (.int 1))]),.tC Pe IB] 1 4,.ret (.tup [(.var 1),(.a7 (.str []))])]:=rfl
section
variable{d:Nat}{src:Tx}{ts:List D}{o:Option Slot}{p:Nat}
theorem Nu{c:Nat}(h:src[p]?=some c)(hs:src.length<2000):E1 G here (sr src ts o p) (.str [c]) (sr src ts o p):=
 E1.slice (E1.val rfl rfl) (E1.val rfl rfl) (E1.bin (E1.val rfl rfl) E1.a7 (add_one p)) (LJ h hs)
theorem Fw(h:src[p]?=some c)(hs:src.length<2000)(hc:c<128)(hk:k<128):T1 G (.cmp .ne here (.a7 (.str [k]))) (sr src ts o p) (!decide ([c]=[k])) (sr src ts o p):=
 T1.cmp (Nu h hs) E1.a7 (ne_str (by simp[lit,hc]) (by simp[lit,hk]))
theorem sT(h:src[p]?=some c)(hs:src.length<2000)(hc:c<128):T1 G (.cmp .ne here (.a7 (.str [c]))) (sr src ts o p) false (sr src ts o p):=by
 have:=Fw (G:=G) (ts:=ts) (o:=o) h hs hc hc
 simpa using this
theorem ze(h:src[p]?=some c)(hs:src.length<2000)(hc:c<128)(hk:k<128)(hn:c≠k):T1 G (.cmp .ne here (.a7 (.str [k]))) (sr src ts o p) true (sr src ts o p):=by
 have:=Fw (G:=G) (ts:=ts) (o:=o) h hs hc hk
 simpa [hn] using this
theorem zg{G:Gl}(h:src[p]?=some c)(hs:src.length<2000)(hc:c<128)(hn:c≠39)(hm:G.qQ (.str src) (.int (p:Int)) (.str wm)=some m):
 cx G NF IB (sr src ts o p)=some (.ok (.ret (.tup [.list ts,.str m])),Tt src ts o p):=
 Xs.gz (ze h hs hc (by decide) hn) (Xs.ret (E1.tup (.cons (E1.own (ds:=ts) (σ':=Tt src ts o p) rfl rfl) (.one (E1.l9 (E1.val rfl rfl) (E1.val rfl rfl) E1.a7 hm))) (aa (by simp))))
theorem LK(h:src[p]?=some 39)(hs:src.length<2000)(hx:runK (GG d) (2,3,d3) [.str src,.int (p:Int)]=some (.exc x)):
 cx (GG (d+1)) NF IB (sr src ts o p)=some (.exc x,sr src ts o p):=by
 refine Xs.cons (X1.skip (sT h hs (by decide))) ?_;show Mo.bind (Mo.bind ((bo (GG (d+1)) (.call 5 _)).1 _) _) _=_;rw[call_exc (F:=runK (GG d) (2,3,d3)) (.cons (E1.val rfl rfl) (.one (E1.val rfl rfl))) rfl hx];rfl
theorem wt{w:Tx}{q q':Nat}{X:Mo Fl}(h:src[p]?=some 39)(hs:src.length<2000)(ht:ts.length<1000)(hx:runK (GG d) (2,3,d3) [.str src,.int (p:Int)]=some (.ok (.tup [.int (q:Int),.str w])))
 (hq:runK (GG d) (2,3,d4) [.str src,.int (q:Int)]=some (.ok (.int (q':Int))))
 (hk:Xs (GG (d+1)) NF (IB.drop 4) (sr src (ts++[.str w]) (some (.val (.str w))) q') X):
 cx (GG (d+1)) NF IB (sr src ts o p)=X:=by
 refine Xs.cons (X1.skip (sT h hs (by decide))) ?_;refine Xs.cons (X1.unpack (σ2:=sr src ts (some (.val (.str w))) q) (E1.call (.cons (E1.val rfl rfl) (.one (E1.val rfl rfl))) rfl hx) rfl) ?_;refine Xs.cons (X1.append (σ2:=sr src (ts++[.str w]) (some (.val (.str w))) q) rfl (E1.val rfl rfl) ?_) ?_
 ·exact if_pos (aa (aA (aJ (aE ht) _) (by decide)))
 ·exact Xs.cons (X1.assign (E1.call (.cons (E1.val rfl rfl) (.one (E1.val rfl rfl))) rfl hq)) hk
theorem Nv{a w z z' y:Tx}(hw:∀x∈w,plain x=true∧x≠39)(hz:Sk z (44::z'))(hy:Sk z' y)(hs:(a++39::(w++39::z)).length<2000)(ht:ts.length<1000):
 ∃a',a++39::(w++39::z)=a'++y∧cx (GG (d+3)) NF IB (sr (a++39::(w++39::z)) ts o a.length)=some (.ok .next,sr (a++39::(w++39::z)) (ts++[.str w]) (some (.val (.str w))) a'.length):=by
 have h0:(a++39::(w++39::z))[a.length]?=some 39:=mK;have h1:=Bq (d:=d+1) hw hs;have e1:a++39::(w++39::z)=(a++39::(w++[39]))++z:=by simp
 have l1:a.length+1+w.length+1=cJ (a++39::(w++[39])):=by simp;lia
 refine aq (vD (d:=d) (a:=a++39::(w++[39])) hz (by rw[←e1];exact hs)) fun b e2 h2=>?_;rw[←e1,←l1] at h2;have e3:a++39::(w++39::z)=(a++39::(w++[39])++b)++44::z':=by rw[e1,e2];simp
 have e4:a++39::(w++39::z)=(a++39::(w++[39])++b++[44])++z':=by rw[e3];simp
 refine aq (vD (d:=d) (a:=a++39::(w++[39])++b++[44]) hy (by rw[←e4];exact hs)) fun b' e5 h3=>?_;refine⟨a++39::(w++[39])++b++[44]++b',by rw[e4,e5];simp,?_⟩;have l2:cJ (a++39::(w++[39])++b++[44])=cJ (a++39::(w++[39])++b)+1:=by simp;lia
 rw[←e4,l2] at h3;have h4:(a++39::(w++39::z))[cJ (a++39::(w++[39])++b)]?=some 44:=by rw[e3];exact mK
 refine wt h0 hs ht h1 h2 ?_;exact Xs.cons (X1.skip (sT h4 hs (by decide))) (Xs.one (X1.assign (E1.call (.cons (E1.val rfl rfl) (.one (E1.bin (E1.val rfl rfl) E1.a7 (add_one _)))) rfl h3)))
theorem xm{a w z z' m:Tx}{c:Nat}(hw:∀x∈w,plain x=true∧x≠39)(hz:Sk z (c::z'))(hc:c≠44)(hs:(a++39::(w++39::z)).length<2000)(ht:ts.length<1000)
 (hm:∀a',a++39::(w++39::z)=a'++c::z'→(GG (d+3)).qQ (.str (a++39::(w++39::z))) (.int (a'.length:Int)) (.str wq)=some m):
 ∃σ,cx (GG (d+3)) NF IB (sr (a++39::(w++39::z)) ts o a.length)=some (.ok (.ret (.tup [.list (ts++[.str w]),.str m])),σ):=by
 have h0:(a++39::(w++39::z))[a.length]?=some 39:=mK;have h1:=Bq (d:=d+1) hw hs;have e1:a++39::(w++39::z)=(a++39::(w++[39]))++z:=by simp
 have l1:a.length+1+w.length+1=cJ (a++39::(w++[39])):=by simp;lia
 refine aq (vD (d:=d) (a:=a++39::(w++[39])) hz (by rw[←e1];exact hs)) fun b e2 h2=>?_;rw[←e1,←l1] at h2;have e3:a++39::(w++39::z)=(a++39::(w++[39])++b)++c::z':=by rw[e1,e2];simp
 have h4:(a++39::(w++39::z))[cJ (a++39::(w++[39])++b)]?=some c:=by rw[e3];exact mK
 obtain⟨c',r',e,_,_,Px⟩:=hz.head;cases e;exact⟨_,wt h0 hs ht h1 h2 (Xs.gz (ze h4 hs Px (by decide) hc) (Xs.ret (E1.tup (.cons (E1.own (ds:=ts++[.str w]) (σ':=Tt (a++39::(w++39::z)) (ts++[.str w]) (some (.val (.str w))) (cJ (a++39::(w++[39])++b))) rfl rfl) (.one (E1.l9 (E1.val rfl rfl) (E1.val rfl rfl) E1.a7 (hm _ e3)))) (aa (by simp)))))⟩
end
theorem Sk.le{x y:Tx}(h:Sk x y):y.length≤x.length:=by
 induction h with
 |stop=>exact bB _
 |ws _ _ ih=>simp only[bA];exact aG ih (aP _ _)
 |Sp _ _ ih=>simp only[bA,aV];exact aG ih (fQ (aZ (gY _ _)))
noncomputable def LM(x:X):Option (St→Mo Fl):=match x with
 |.mU m=>some fun σ=>(iz 1 (σ.hide 4)).bind fun d σ=>.ok (.ret (.tup [d,.str m])) σ
 |_=>none
noncomputable def post(G:Gl)(m:Mo Fl):Mo Fl:=Mo.bind (tE (Mo.bind m fun f σ=>match f with
 |.next=>.ok .next σ
 |.ret d=>.ok (.ret d) σ) LM) fun f σ=>match f with
 |.next=>cx G NF [.ret (.tup [(.var 1),(.a7 (.str []))])] σ
 |.ret d=>.ok (.ret d) σ
section
variable{d:Nat}{src:Tx}{ts:List D}{o:Option Slot}{p:Nat}
theorem IC:post G (some (.ok .next,sr src ts o p))=some (.ok (.ret (.tup [.list ts,.str []])),Tt src ts o p):=by
 show cx G NF [.ret (.tup [(.var 1),(.a7 (.str []))])] (sr src ts o p)=_;exact Xs.ret (n:=NF) (r:=[]) (E1.tup (.cons (E1.own (ds:=ts) (σ':=Tt src ts o p) rfl rfl) (.one E1.a7)) (aa (by simp)))
noncomputable def LF(d:Nat)(src y:Tx)(ts:List D)(x:D):Prop:=∀(a:Tx) (o:Option Slot) (n:Nat),src=a++y→y.length<n→∃σ,post (GG (d+3)) (ji (qR (GG (d+3)) Pe) (cx (GG (d+3)) NF IB) n (sr src ts o a.length))=some (.ok (.ret x),σ)
theorem LF.done(hs:src.length<2000):LF d src (93::r) ts (.tup [.list ts,.str []]):=by
 intro a o n e hn;obtain⟨m,rfl⟩:∃m,n=m+1:=⟨n-1,by simp at hn;exact Eq.symm (Nat.sub_add_cancel (eS hn))⟩;have h:src[a.length]?=some 93:=by rw[e];exact mK
 rw[Bp (c:=qR (GG (d+3)) Pe) (sT h hs (by decide)),IC];exact⟨_,rfl⟩
theorem LF.turn{y:Tx}(hy:y=c::r)(hc:c<128)(hn:c≠93)(hs:src.length<2000)
 (h:∀a o n,src=a++y→y.length≤n→∃σ,post (GG (d+3)) ((cx (GG (d+3)) NF IB (sr src ts o a.length)).bind fun f σ=>(match f with
  |.next=>ji (qR (GG (d+3)) Pe) (cx (GG (d+3)) NF IB) n σ
  |.ret d=>.ok (.ret d) σ))=some (.ok (.ret x),σ)):LF d src y ts x:=by
 intro a o n e hl;obtain⟨m,rfl⟩:∃m,n=m+1:=⟨n-1,(Eq.symm (Nat.sub_add_cancel (eS hl)))⟩;have h1:src[a.length]?=some c:=by rw[e,hy];exact mK
 rw[wk (c:=qR (GG (d+3)) Pe) (ze h1 hs hc (by decide) hn)];exact h a o m e (aE hl)
theorem LF.ok(hw:∀x∈w,plain x=true∧x≠39)(hz:Sk z (44::z'))(hy:Sk z' y)(hs:src.length<2000)(ht:ts.length<1000)(k:LF d src y (ts++[.str w]) x):LF d src (39::(w++39::z)) ts x:=by
 refine LF.turn rfl (by decide) (by decide) hs fun a o n e hn=>?_;subst e;refine aq (Nv (d:=d) (a:=a) (ts:=ts) (o:=o) hw hz hy hs ht) fun a' e' h=>?_;rw[h];exact k a' _ n e' (by have:=hz.le;have:=hy.le;simp at *;lia)
theorem LF.LN(hw:∀x∈w,plain x=true∧x≠39)(hz:Sk z (c::z'))(hc:c≠44)(hs:src.length<2000)(ht:ts.length<1000)
 (hm:∀a',src=a'++c::z'→(GG (d+3)).qQ (.str src) (.int (a'.length:Int)) (.str wq)=some m):LF d src (39::(w++39::z)) ts (.tup [.list (ts++[.str w]),.str m]):=by
 refine LF.turn rfl (by decide) (by decide) hs fun a o n e hn=>?_;subst e;obtain⟨σ,h⟩:=xm (d:=d) (a:=a) (ts:=ts) (o:=o) hw hz hc hs ht hm;rw[h];exact⟨σ,rfl⟩
theorem LF.invalid(hc:c<128)(h1:c≠39)(h2:c≠93)(hs:src.length<2000)
 (hm:∀a',src=a'++c::r→(GG (d+3)).qQ (.str src) (.int (a'.length:Int)) (.str wm)=some m):LF d src (c::r) ts (.tup [.list ts,.str m]):=by
 refine LF.turn rfl hc h2 hs fun a o n e hn=>?_;rw[zg (by rw[e];exact mK) hs hc h1 (hm a e)];exact⟨_,rfl⟩
theorem LF.exc{w v r m rp:Tx}(hw:∀x∈w,plain x=true∧x≠39)(hv:∀x∈v,x≠39)(he:w8.contains e=true)(SX:e≠39)(hr:AY [e]=some rp)(VY:rp.length<10)(hs:src.length<2000)
 (hm:∀a',src=a'++39::(w++e::(v++39::r))→(GG (d+1)).qQ (.str src) (.int ((a'.length+1+w.length:Nat):Int)) (.str (kX++rp))=some m):LF d src (39::(w++e::(v++39::r))) ts (.tup [.list ts,.str m]):=by
 refine LF.turn rfl (by decide) (by decide) hs fun a o n e hn=>?_;have h:=hm a e;subst e;rw[LK (d:=d+2) mK hs (IA (d:=d+1) hw hv he SX hr VY hs h)];exact⟨_,rfl⟩
theorem Nw(h:Sk x y)(hs:(91::x).length<2000)(k:LF d (91::x) y [] r):runK (GG (d+3)) (1,5,ly) [.str (91::x)]=some (.ok r):=by
 refine aq (vD (d:=d) (a:=[91]) h hs) fun b e h1=>?_;refine eo (k (91::b) none NF (by rw[e];rfl) (by have:=h.le;simp at hs;unfold NF;lia)) fun σ h2=>?_;rw[RC];refine cz (σ':=σ) rfl (Xs.cons (σ':=⟨[some (.val (.str (91::x))),some (.own []),none,none,none],[]⟩) (X1.assign (E1.list .nil (aa (by simp)))) ?_);have e1:cx (GG (d+3)) NF [.assign 2 (.call 4 [(.var 0),(.a7 (.int 1))]),.tC Pe IB] ⟨[some (.val (.str (91::x))),some (.own []),none,none,none],[]⟩=Mo.bind (ji (qR (GG (d+3)) Pe) (cx (GG (d+3)) NF IB) NF (sr (91::x) [] none (91::b).length)) fun f σ=>match f with
  |.next=>.ok .next σ
  |.ret d=>.ok (.ret d) σ:=
  (af (X1.assign (n:=NF) (E1.call (.cons (E1.val rfl rfl) (.one E1.a7)) rfl h1))).trans rfl
 show Mo.bind (tE (cx (GG (d+3)) NF [.assign 2 (.call 4 [(.var 0),(.a7 (.int 1))]),.tC Pe IB] ⟨[some (.val (.str (91::x))),some (.own []),none,none,none],[]⟩) LM) _=_;rw[e1];exact h2
end
structure Row where
 ahead:Tx
 tail:Tx
 parts:List Tx
 fault:Tx
 sign:Nat
 ax:Nat
noncomputable def clean(x:Tx):Prop:=∀c∈x,plain c=true∧c≠39
theorem clean.app(h:clean x)(h':clean y):clean (x++y):=fun c hc=>(cB.mp hc).elim (h c) (h' c)
theorem b0{x:Tx}(h:(x.all fun c=>plain c&&c !=39)=true):clean x:=fun c hc=>by
 have:=bQ.mp h c hc
 simpa using this
noncomputable def xn:Tx:=[39,92,120,48,49,39]
inductive cj:Row→Prop
 |plain {ah t:Tx} {dr:Nat}:clean ah→clean t→ah.length≤14→t.length≤40→dr<3→cj ⟨ah,t,[t],[],0,dr⟩
 |M7 {ah:Tx} {dr:Nat}:clean ah→ah.length≤14→dr<3→cj ⟨ah,[105,116,39,115],[[105,116]],wq,3,dr⟩
 |bad {ah:Tx} {dr:Nat}:clean ah→ah.length≤14→dr<3→cj ⟨ah,[97,1,98],[],kX++xn,1,dr⟩
 |two {ah:Tx} {dr:Nat}:clean ah→ah.length≤14→dr<3→cj ⟨ah,[97,39,44,32,39,98],[[97],[98]],[],0,dr⟩
 |rem {ah:Tx} {dr:Nat}:clean ah→ah.length≤14→dr<3→cj ⟨ah,[97,39,44,32,35,32,98],[[97]],[],0,dr⟩
 |br {ah:Tx} {dr:Nat}:clean ah→ah.length≤14→dr<3→cj ⟨ah,[97,39,44,91],[[97]],wm,3,dr⟩
 |emp {ah:Tx} {dr:Nat}:clean ah→ah.length≤14→dr<3→cj ⟨ah,[97,39,44,39],[[97],[]],[],0,dr⟩
noncomputable def Row.text(r:Row):Tx:=r.ahead++r.tail
noncomputable def Row.out(r:Row):List Tx:=match r.parts with
 |[]=>[]
 |s::ss=>(r.ahead++s)::ss
noncomputable def kv(d:Nat):Tx:=if d=2 then[9,35,32,49,10,10] else[]
noncomputable def lZ(d:Nat):Tx:=if d=1 then[32,35,32,105,116,39,115,44,32,91,39] else[]
noncomputable def core(t:Tx)(d:Nat)(rest:Tx):Tx:=39::(t++(39::44::(lZ d++10::rest)))
noncomputable def body:List Row→Tx
 |[]=>[93]
 |r::rs=>kv r.ax++core r.text r.ax (body rs)
noncomputable def W3:List Row→Tx
 |[]=>[93]
 |r::rs=>core r.text r.ax (body rs)
noncomputable def b7(l d:Nat):Nat:=l+(if d=2 then 3 else 1)
noncomputable def cb:List Row→Nat→List Tx→List Tx×Tx
 |[],_,ts=>(ts,[])
 |r::rs,l,ts=>if r.fault=[] then cb rs (b7 l r.ax) (ts++r.out) else(ts++r.out,ja r.fault (b7 l r.ax) (r.ahead.length+r.sign+2))
noncomputable def pairD(p:List Tx×Tx):D:=.tup [.list (p.1.map .str),.str p.2]
theorem RD:Sk (kv d++39::z) (39::z):=by
 have h:Sk (39::z) (39::z):=.stop (by decide) (by decide) (by decide);unfold kv
 split
 ·exact .ws (by decide) (.Sp (w:=[32,49]) (by decide) (.ws (by decide) h))
 ·exact h
theorem Fx:∀rows,Sk (body rows) (W3 rows)
 |[]=>.stop (by decide) (by decide) (by decide)
 |r::rs=>RD
theorem EO(h:Sk r y):Sk (lZ d++10::r) y:=by
 unfold lZ
 split
 ·exact .ws (by decide) (.Sp (w:=[32,105,116,39,115,44,32,91,39]) (by decide) h)
 ·exact .ws (by decide) h
theorem ID(d:Nat):∀x∈lZ d,Mine.Internal.plain x=true:=by
 unfold lZ
 split
 ·decide
 ·simp
theorem W4{x:Tx}(h:∀c∈x,Mine.Internal.plain c=true):∀c∈x,c≠10:=fun c hc e=>by
 have:=h c hc;subst e;exact absurd this (by decide)
theorem qF{x:Tx}(h:clean x):∀c∈x,c≠10:=W4 fun c hc=>(h c hc).1
theorem EP:Sk (44::z) (44::z):=.stop (by decide) (by decide) (by decide)
theorem zh{src A b r z:Tx}(e:src=(A++[10])++(b++r))(hb:∀x∈b,x≠10)(hr:r≠[])(hs:src.length<2000)(hl:(A++[10]).count 10=l)(h1:l+1<100)(h2:b.length+1<100)(hz:z.length<100){a':Tx}(e':src=a'++r):
 (GG (d+1)).qQ (.str src) (.int (a'.length:Int)) (.str z)=some (ja z (l+1) (b.length+1)):=by
 have rH:A.count 10+1=l:=by rw[←hl,eE];rfl
 have e2:src=A++10::(b++r):=by rw[e];simp
 have e3:a'.length=A.length+1+b.length:=by
  have h3:=congrArg cJ e2;have h4:=congrArg cJ e';simp only[aV,bA] at h3 h4
  lia
 rw[e3,e2];rw[e2] at hs;have:=RB (d:=d) (z:=z) hb hr hs (by lia) h2 hz;rw[this,←rH]
section
variable{d:Nat}{src:Tx}
theorem LO{r:Row}(hr:cj r)(hf:r.fault=[]){ts:List D}(hs:src.length<2000)(ht:ts.length+1<1000)(hy:Sk rest y)(k:LF d src y (ts++r.out.map .str) x):LF d src (core r.text r.ax rest) ts x:=by
 cases hr with
 |@plain ah t dr h1 h2=>
  exact LF.ok (w:=ah++t) (h1.app h2) EP (EO hy) hs (aA (aP _ _) ht) k
 |M7 h1=>exact absurd (show wq=[] from hf) (by decide)
 |bad h1=>exact absurd (show kX++xn=[] from hf) (by decide)
 |br h1=>exact absurd (show wm=[] from hf) (by decide)
 |@two ah dr h1=>
  have e:core (Row.text ⟨ah,[97,39,44,32,39,98],[[97],[98]],[],0,dr⟩) dr rest=39::((ah++[97])++39::44::32::39::([98]++39::44::(lZ dr++10::rest))):=by simp[core,Row.text]
  rw[e];refine LF.ok (h1.app (b0 (by decide))) EP (.ws (by decide) (.stop (by decide) (by decide) (by decide))) hs (aA (aP _ _) ht) ?_;refine LF.ok (b0 (by decide)) EP (EO hy) hs (by simp;exact ht) ?_;rw[bZ];exact k
 |@rem ah dr h1=>
  have e:core (Row.text ⟨ah,[97,39,44,32,35,32,98],[[97]],[],0,dr⟩) dr rest=39::((ah++[97])++39::44::32::35::((32::98::39::44::lZ dr)++10::rest)):=by simp[core,Row.text]
  rw[e];refine LF.ok (h1.app (b0 (by decide))) EP (.ws (by decide) (.Sp (fun c hc=>?_) hy)) hs (aA (aP _ _) ht) k;simp only[aO] at hc;rcases hc with rfl|rfl|rfl|rfl|hc
  ·decide
  ·decide
  ·decide
  ·decide
  ·exact ID dr c hc
 |@emp ah dr h1=>
  have e:core (Row.text ⟨ah,[97,39,44,39],[[97],[]],[],0,dr⟩) dr rest=39::((ah++[97])++39::44::39::([]++39::44::(lZ dr++10::rest))):=by simp[core,Row.text]
  rw[e];refine LF.ok (h1.app (b0 (by decide))) EP (.stop (by decide) (by decide) (by decide)) hs (aA (aP _ _) ht) ?_;refine LF.ok (b0 (by decide)) EP (EO hy) hs (by simp;exact ht) ?_;rw[bZ];exact k
theorem Nx{r:Row}(hr:cj r)(hf:r.fault≠[]){ts:List D}(e:src=(A++[10])++core r.text r.ax rest)(hs:src.length<2000)(ht:ts.length+1<1000)(hl:(A++[10]).count 10=l)(SY:l+1<100):
 LF d src (core r.text r.ax rest) ts (.tup [.list (ts++r.out.map .str),.str (ja r.fault (l+1) (r.ahead.length+r.sign+2))]):=by
 cases hr with
 |plain=>exact absurd rfl hf
 |two=>exact absurd rfl hf
 |rem=>exact absurd rfl hf
 |emp=>exact absurd rfl hf
 |@M7 ah dr h1 h2=>
  have e1:core (Row.text ⟨ah,[105,116,39,115],[[105,116]],wq,3,dr⟩) dr rest=39::((ah++[105,116])++39::115::(39::44::(lZ dr++10::rest))):=by simp[core,Row.text]
  rw[e1] at e ⊢;refine LF.LN (h1.app (b0 (by decide))) (.stop (by decide) (by decide) (by decide)) (by decide) hs (aA (aP _ _) ht) fun a' ha=>?_;have:=zh (d:=d+2) (z:=wq) (A:=A) (b:=39::(ah++[105,116,39])) (r:=115::(39::44::(lZ dr++10::rest))) (by rw[e];simp) (fun c hc=>by
   simp only[aO,cB] at hc;rcases hc with rfl|hc|rfl|rfl|rfl|hc
   ·decide
   ·exact qF h1 c hc
   ·decide
   ·decide
   ·decide
   ·exact absurd hc (by simp)) (by simp) hs hl SY (by simp;exact aA (aJ h2 5) (by decide)) (by decide) ha
  rw[this];simp
 |@bad ah dr h1 h2=>
  have e1:core (Row.text ⟨ah,[97,1,98],[],kX++xn,1,dr⟩) dr rest=39::((ah++[97])++1::([98]++39::(44::(lZ dr++10::rest)))):=by simp[core,Row.text]
  rw[e1] at e ⊢;have Xl:ts++(Row.out ⟨ah,[97,1,98],[],kX++xn,1,dr⟩).map .str=ts:=by simp[Row.out]
  rw[Xl];refine LF.exc (rp:=xn) (h1.app (b0 (by decide))) (by decide) (by decide) (by decide) (by decide) (by decide) hs fun a' ha=>?_;have:=zh (d:=d) (z:=kX++xn) (A:=A) (b:=39::(ah++[97])) (r:=1::([98]++39::(44::(lZ dr++10::rest)))) (by rw[e];simp) (fun c hc=>by
   simp only[aO,cB] at hc;rcases hc with rfl|hc|rfl|hc
   ·decide
   ·exact qF h1 c hc
   ·decide
   ·exact absurd hc (by simp)) (by simp) hs hl SY (by simp;exact aA (aJ h2 3) (by decide)) (by decide) (a':=a'++39::(ah++[97])) (by rw[ha];simp)
  rw[show a'.length+1+cJ (ah++[97])=cJ (a'++39::(ah++[97])) by simp;exact cC _ _ _,this];simp
 |@br ah dr h1 h2=>
  have e1:core (Row.text ⟨ah,[97,39,44,91],[[97]],wm,3,dr⟩) dr rest=39::((ah++[97])++39::44::91::(39::44::(lZ dr++10::rest))):=by simp[core,Row.text]
  rw[e1] at e ⊢;refine LF.ok (h1.app (b0 (by decide))) EP (.stop (by decide) (by decide) (by decide)) hs (aA (aP _ _) ht) ?_;refine LF.invalid (by decide) (by decide) (by decide) hs fun a' ha=>?_;have:=zh (d:=d+2) (z:=wm) (A:=A) (b:=39::(ah++[97,39,44])) (r:=91::(39::44::(lZ dr++10::rest))) (by rw[e];simp) (fun c hc=>by
   simp only[aO,cB] at hc;rcases hc with rfl|hc|rfl|rfl|rfl|hc
   ·decide
   ·exact qF h1 c hc
   ·decide
   ·decide
   ·decide
   ·exact absurd hc (by simp)) (by simp) hs hl SY (by simp;exact aA (aJ h2 5) (by decide)) (by decide) ha
  rw[this];simp
end
inductive Pl:Nat→D→Prop
 |int {n:Nat} {i:Int}:Pl n (.int i)
 |str {n:Nat} {x:Tx}:lit x=true→Pl n (.str x)
 |list {n:Nat} {l:List D}:(∀x∈l,Pl n x)→Pl (n+1) (.list l)
 |tup {n:Nat} {l:List D}:(∀x∈l,Pl n x)→Pl (n+1) (.tup l)
noncomputable def Ye(n:Nat)(d:D):Prop:=∃p,d.toPy=some p∧p.canLay0=true∧p.depth≤n∧PyData.eqv p p=true
theorem ER:∀{l:List D},(∀x∈l,Ye n x)→∃ps,D.nI l=some ps∧PyData.canLayAll0 ps=true∧PyData.depthAll ps≤n∧PyData.eqvAll ps ps=true
 |[],_=>⟨[],rfl,rfl,cS _,rfl⟩
 |x::l,h=>by
  refine S6 (h x (.head _)) fun p a1 a2 a3 a4=>?_;refine S6 (ER fun y hy=>h y (.tail _ hy)) fun ps b1 b2 b3 b4=>?_;exact⟨p::ps,by simp only[D.nI,a1,b1,kH],by simp only[PyData.canLayAll0,a2,b2,Bool.and_self],Nat.max_le.mpr ⟨a3,b3⟩,by simp only[PyData.eqvAll,a4,b4,Bool.and_self]⟩
theorem Pl.py(h:Pl n d):Ye n d:=by
 induction h with
 |int=>exact⟨_,rfl,rfl,cS _,by simp[PyData.eqv]⟩
 |str hl=>exact⟨_,rfl,nZ hl,cS _,by simp[PyData.eqv]⟩
 |list _ ih=>
  refine S6 (ER ih) fun ps b1 b2 b3 b4=>?_;exact⟨.list ps,by simp only[D.toPy,b1,iV],b2,iG b3,b4⟩
 |tup _ ih=>
  refine S6 (ER ih) fun ps b1 b2 b3 b4=>?_;exact⟨.tuple ps,by simp only[D.toPy,b1,iV],b2,iG b3,b4⟩
theorem Pl.strs{l:List Tx}(h:∀x∈l,lit x=true):Pl (n+1) (.list (l.map .str)):=.list fun x hx=>by
 refine aq (bH.mp hx) fun y hy bq=>?_;subst bq;exact .str (h y hy)
theorem zi(h:Pl n d)(hn:n≤64):Im d d=some true:=by
 refine S6 h.py fun p a1 a2 a3 a4=>?_;unfold Im;rw[a1];exact(if_pos ⟨a2,a2,(aG a3 hn)⟩).trans (congrArg some a4)
theorem wu:∀l:List Tx,D.nI (l.map .str)=some (l.map fun x=>PyData.str ⟨x.toArray⟩)
 |[]=>rfl
 |x::l=>by simp only[aN,D.nI,D.toPy,wu l,kH]
theorem u1:∀{l:List Tx},(∀x∈l,lit x=true)→PyData.canLayAll0 (l.map fun x=>PyData.str ⟨x.toArray⟩)=true
 |[],_=>rfl
 |x::l,h=>by
  simp only[aN,PyData.canLayAll0,PyData.canLay0,nZ (h x (.head _)),u1 fun y hy=>h y (.tail _ hy),Bool.and_self]
theorem Fy{l:List Tx}(ha:lit a=true)(hl:∀x∈l,lit x=true):inD (.str a) (l.map .str)=some (decide (a∈l)):=by
 unfold inD;rw[wu];refine(if_pos ⟨nZ ha,u1 hl,(by decide:(0:Nat)≤64)⟩).trans (congrArg some ?_);rw[gW,List.any_eq_true,decide_eq_true_iff]
 constructor
 ·rintro⟨z,hz,e⟩
  refine aq (bH.mp hz) fun x hx bq=>?_;subst bq;have:x=a:=by simpa [PyData.eqv] using e
  exact this▸hx
 ·exact fun h=>⟨_,List.mem_map_of_mem h,by simp[PyData.eqv]⟩
noncomputable abbrev xQ:=List (Option Slot)
section
variable{G:Gl}{R:xQ→Prop}{p:D→Bool}{f:D→D}
theorem Br{cond:St→Mo Bool}{elt:St→Mo D}:∀{items:List D},(∀d∈items,∀ρ,R ρ→∃d8,R d8∧cond ⟨ρ,[none,some d]⟩=some (.ok (p d),⟨d8,[none,some d]⟩))→(∀d∈items,p d=true→∀ρ,R ρ→∃d8,R d8∧elt ⟨ρ,[none,some d]⟩=some (.ok (f d),⟨d8,[none,some d]⟩))→
 ∀{ρ:xQ} {x:Option D},R ρ→∃d8 y,R d8∧mX cond elt 1 items ⟨ρ,[none,x]⟩=some (.ok ((items.filter p).map f),⟨d8,[none,y]⟩)
 |[],_,_,ρ,x,h=>⟨ρ,x,h,rfl⟩
 |d::r,hc,he,ρ,x,h=>by
  refine aq (hc d (.head _) ρ h) fun ρ1 h1 e1=>?_;have go:=fun(ρ:xQ) (x:Option D)=>Br (items:=r) (fun y hy=>hc y (.tail _ hy)) (fun y hy=>he y (.tail _ hy)) (ρ:=ρ) (x:=x);show ∃d8 y,R d8∧(cond ⟨ρ,[none,some d]⟩).bind _=_;rw[e1];cases hp:p d with
  |false=>
   refine iw (go ρ1 (some d) h1) fun d8 y h2 e2=>?_;exact⟨d8,y,h2,by rw[bD (by simp[hp])];exact e2⟩
  |true=>
   refine aq (he d (.head _) hp ρ1 h1) fun ZZ h2 e2=>?_;refine iw (go ZZ (some d) h2) fun d8 y h3 e3=>?_;refine⟨d8,y,h3,?_⟩;rw[aX hp];show(elt ⟨ρ1,[none,some d]⟩).bind _=_;rw[e2];show(mX cond elt 1 r ⟨ZZ,[none,some d]⟩).bind _=_;rw[e3];rfl
theorem E1.comp{rng:Bool}{iter elt:PE}{cond:Option PE}{x:D}{items:List D}{ρ0 ρ1:xQ}(hi:E1 G iter ⟨ρ0,[]⟩ x ⟨ρ1,[]⟩)(hx:lg rng x=some items)(h1:R ρ1)
 (hc:∀d∈items,∀ρ,R ρ→∃d8,R d8∧Mc G cond ⟨ρ,[none,some d]⟩=some (.ok (p d),⟨d8,[none,some d]⟩)) (he:∀d∈items,p d=true→∀ρ,R ρ→∃d8,R d8∧E1 G elt ⟨ρ,[none,some d]⟩ (f d) ⟨d8,[none,some d]⟩):
 ∃d8,R d8∧E1 G (.comp rng 1 iter cond elt) ⟨ρ0,[]⟩ (.list ((items.filter p).map f)) ⟨d8,[]⟩:=by
 refine iw (Br hc he (x:=none) h1) fun d8 y h2 e=>?_;refine⟨d8,h2,(af hi).trans ?_⟩;unfold uN;rw[hx];show(au (mX _ _ 1 items ⟨ρ1,[none,none]⟩)).bind _=_;rw[e];rfl
theorem dm{l:List D}(h:l.length≤sizeLine):lg false (.list l)=some l:=by
 show(if l.length≤sizeLine then some l else none)=_;rw[if_pos h]
theorem Ny(h:0≤n∧n≤1024):lg true (.int n)=some (qb n):=if_pos h
theorem n6{n:Nat}(h:n≤1024):lg true (.int (n:Int))=some ((bW n).map fun(k:Nat)=>.int k):=by
 exact Ny ⟨(dF _),by lia⟩
theorem jb(h:bindTo one is d σ=some σ1):forM one is b (d::r) σ=(b σ1).bind fun f σ=>match f with
 |.next=>forM one is b r σ
 |.ret d=>.ok (.ret d) σ:=by
 show((bindTo one is d σ).bind fun σ=>(b σ).bind fun f σ=>match f with
  |.next=>forM one is b r σ
  |.ret d=>.ok (.ret d) σ)=_
 rw[h];rfl
theorem LQ{A:Type}{F:A→xQ→Prop}{g:A→D→A}{one:Bool}{is:List Nat}{b:St→Mo Fl}:∀{items:List D} {a:A} {ρ:xQ},F a ρ→
 (∀x∈items,∀a ρ,F a ρ→∃σ1 d8,bindTo one is x ⟨ρ,[]⟩=some σ1∧b σ1=some (.ok .next,⟨d8,[]⟩)∧F (g a x) d8)→∃d8,F (items.foldl g a) d8∧forM one is b items ⟨ρ,[]⟩=some (.ok .next,⟨d8,[]⟩)
 |[],a,ρ,h,_=>⟨ρ,h,rfl⟩
 |x::r,a,ρ,h,hb=>by
  refine sz (hb x (.head _) a ρ h) fun σ1 ρ1 e1 e2 h1=>?_;refine aq (LQ (items:=r) h1 fun y hy=>hb y (.tail _ hy)) fun d8 h2 e3=>?_;refine⟨d8,h2,?_⟩;exact(jb e1).trans ((af e2).trans e3)
theorem X1.kc{n:Nat}{A:Type}{F:A→xQ→Prop}{g:A→D→A}{rng one:Bool}{is:List Nat}{iter:PE}{b:List PS}{x:D}{items:List D}{a:A}{ρ0 ρ1:xQ}(hi:E1 G iter ⟨ρ0,[]⟩ x ⟨ρ1,[]⟩)(hx:lg rng x=some items)(h1:F a ρ1)
 (hb:∀x∈items,∀a ρ,F a ρ→∃σ1 d8,bindTo one is x ⟨ρ,[]⟩=some σ1∧Xs G n b σ1 (some (.ok .next,⟨d8,[]⟩))∧F (g a x) d8):∃d8,F (items.foldl g a) d8∧X1 G n (.kc rng one is iter b) ⟨ρ0,[]⟩ ⟨d8,[]⟩:=by
 refine aq (LQ h1 hb) fun d8 h2 e=>?_;refine⟨d8,h2,(af hi).trans ?_⟩;unfold tD;rw[hx];exact cu e
end
theorem X1.of(h:A3 G n p σ=some (.ok .next,σ')):X1 G n p σ σ':=h
theorem E1.of(h:(bo G e).1 σ=some (.ok d,σ')):E1 G e σ d σ':=h
theorem T1.of(h:(bo G e).2 σ=some (.ok b,σ')):T1 G e σ b σ':=h
noncomputable def kk(c:Int):Nat:=(bG c 10).toNat
noncomputable def wd(c:Int):Nat:=(bG (dY c 10) 3).toNat
noncomputable def dr(c:Int):Nat:=(bG (dY c 30) 3).toNat
theorem ew{n:Nat}(h:0<n):bG c n=((bG c n).toNat:Int)∧(bG c n).toNat<n:=by
 have h1:=Int.fmod_nonneg_of_pos c (b:=n) (Int.ofNat_lt.mpr h);have h2:=Int.fmod_lt_of_pos c (b:=n) (Int.ofNat_lt.mpr h);exact⟨(Int.toNat_of_nonneg h1).symm,(Int.toNat_lt h1).mpr h2⟩
theorem Pf(c:Int):bG c 10=(kk c:Int)∧kk c<10:=ew (n:=10) (by decide)
theorem GA(c:Int):bG (dY c 10) 3=(wd c:Int)∧wd c<3:=ew (n:=3) (by decide)
theorem GB(c:Int):bG (dY c 30) 3=(dr c:Int)∧dr c<3:=ew (n:=3) (by decide)
noncomputable abbrev Tl:=Tx×List Tx×Tx×Nat
noncomputable def Pg:List Tl:=[([102,105,103],[[102,105,103]],[],0),([105,116,39,115],[[105,116]],wq,3),([97,1,98],[],kX++xn,1),([35,32,49],[[35,32,49]],[],0),([97,39,44,32,39,98],[[97],[98]],[],0),([97,39,44,32,35,32,98],[[97]],[],0),
 ([97,39,44,91],[[97]],wm,3),([],[[]],[],0),([97,39,44,39],[[97],[]],[],0)]
noncomputable def tl(c:Int):Tl:=Pg.getD (kk c) ([],[],[],0)
noncomputable def tlL(t:Tl):List D:=[.str t.1,.list (t.2.1.map .str),.str t.2.2.1,.int (t.2.2.2:Int)]
noncomputable def Ph(t:Tl):D:=.tup (tlL t)
noncomputable abbrev ct(c:Int):Prop:=kk c<9
noncomputable def there(l:List Int):List Int:=l.filter fun c=>decide (ct c)
noncomputable def Vb:List Tx:=[[68,105,115,97,108,108,111,119,58,32,47],[65,108,108,111,119,58,32,47],[83,105,116,101,109,97,112,58,32]]
noncomputable def word(c:Int):Tx:=Vb.getD (wd c) []
noncomputable def pT(ah:Tx)(c:Int):Row:=⟨ah,(tl c).1,(tl c).2.1,(tl c).2.2.1,(tl c).2.2.2,dr c⟩
theorem W5{P:Nat→Prop}(h:P 0∧P 1∧P 2∧P 3∧P 4∧P 5∧P 6∧P 7∧P 8):∀k,k<9→P k
 |0,_=>h.1
 |1,_=>h.2.1
 |2,_=>h.2.2.1
 |3,_=>h.2.2.2.1
 |4,_=>h.2.2.2.2.1
 |5,_=>h.2.2.2.2.2.1
 |6,_=>h.2.2.2.2.2.2.1
 |7,_=>h.2.2.2.2.2.2.2.1
 |8,_=>h.2.2.2.2.2.2.2.2
noncomputable def RE(ah:Tx)(d:Nat)(t:Tl):Row:=⟨ah,t.1,t.2.1,t.2.2.1,t.2.2.2,d⟩
theorem sU{ah:Tx}{c:Int}(h1:clean ah)(h2:ah.length≤14)(h3:ct c):cj (pT ah c):=by
 have h4:=(GB c).2;exact W5 (P:=fun k=>cj (RE ah (dr c) (Pg.getD k ([],[],[],0)))) ⟨.plain h1 (b0 (by decide)) h2 (by decide) h4,.M7 h1 h2 h4,.bad h1 h2 h4,.plain h1 (b0 (by decide)) h2 (by decide) h4,.two h1 h2 h4,.rem h1 h2 h4,.br h1 h2 h4,.plain h1 (b0 (by decide)) h2 (by decide) h4,.emp h1 h2 h4⟩ _ h3
section
variable{G:Gl}
theorem RF{k:Int}(h1:¬k=-1)(h2:0≤k∧k<2^63):tB (.list l) (.int k)=(l[k.toNat]?).map .ok:=(if_neg h1).trans (if_pos h2)
theorem qG{l:List D}{i:Int}{k:Nat}{d:D}(hi:i=(k:Int))(hk:k<1000)(hd:l[k]?=some d):tB (.list l) (.int i)=some (.ok d):=by
 subst hi;have h2:(0:Int)≤(k:Int)∧(k:Int)<2^63:=by omega
 exact(RF (by omega) h2).trans (by rw[cU,hd];rfl)
theorem Bt{c:Int}(h:ct c):runK G (1,2,qd) [.int c]=some (.ok (Ph (tl c))):=by
 have hk:=Pf c;have hs:tB (.list (Pg.map Ph)) (.int (bG c 10))=some (.ok (Ph (tl c))):=by
  refine qG hk.1 (aA (aE hk.2) (by decide)) ?_;unfold ct at h;unfold tl;rw[dN,cW,aY (show kk c<Pg.length from h)];rfl
 refine cz (σ':=⟨[some (.val (.int c)),some (.val (.list (Pg.map Ph)))],[]⟩) rfl ?_;refine Xs.cons (σ':=⟨[some (.val (.int c)),some (.own ((Pg.take 3).map Ph))],[]⟩) (X1.of (by kernel_rfl)) ?_;refine Xs.cons (σ':=⟨[some (.val (.int c)),some (.own ((Pg.take 6).map Ph))],[]⟩) (X1.of (by kernel_rfl)) ?_;refine Xs.cons (σ':=⟨[some (.val (.int c)),some (.own (Pg.map Ph))],[]⟩) (X1.of (by kernel_rfl)) ?_;exact Xs.ret (E1.sub (E1.own rfl rfl) (E1.bin (E1.val rfl rfl) E1.a7 rfl) hs)
theorem Bu{c:Int}:runK G (1,1,qe) [.int c]=some (.ok (.str (word c))):=by
 have hk:=GA c;have hs:tB (.list (Vb.map .str)) (.int (bG (dY c 10) 3))=some (.ok (.str (word c))):=by
  refine qG hk.1 (aA (aE hk.2) (by decide)) ?_;unfold word;rw[dN,cW,aY (show wd c<Vb.length from hk.2)];rfl
 refine cz (σ':=⟨[some (.val (.int c))],[]⟩) rfl (Xs.ret (E1.sub (x:=.list (Vb.map .str)) (σ1:=⟨[some (.val (.int c))],[]⟩) (E1.of (by kernel_rfl)) (E1.bin (E1.bin (E1.val rfl rfl) E1.a7 rfl) E1.a7 rfl) hs))
theorem Bv:runK G (1,2,nj) [.int c]=some (.ok (.inst [("useragents",.list []),("rulelines",.list []),("delay",.none),("req_rate",.none),("requests",.int (bG c 50)),("seconds",.int (bG (dY c 50) 50))])):=by
 rfl
noncomputable def bj(l:List Int):D:=.list (l.map .int)
noncomputable def zj(d:D):Bool:=match d with
 |.int c=>decide (ct c)
 |_=>false
theorem y3:∀l:List Int,((l.map D.int).filter zj).map (fun d=>d)=(there l).map .int
 |[]=>rfl
 |c::l=>by
  have ih:=y3 l;rw[List.map_id'] at ih ⊢;unfold there at ih ⊢
  by_cases h:ct c
  ·rw[aN,aX (by simpa [zj] using h),aX (by simpa using h),aN,ih]
  ·rw[aN,bD (by simpa [zj] using h),bD (by simpa using h),ih]
theorem lt9(c:Int):decide (bG c 10<9)=decide (ct c):=by
 rw[(Pf c).1,gW,decide_eq_true_iff,decide_eq_true_iff];unfold ct;omega
theorem n7{l:List Int}(hl:l.length<100):runK G (1,1,gh) [bj l]=some (.ok (bj (there l))):=by
 have hc:∀d∈l.map D.int,∀ρ:xQ,ρ=[some (.val (bj l))]→∃d8:xQ,d8=[some (.val (bj l))]∧Mc G (some (.cmp .lt (.bin .mod (.cvar 1) (.a7 (.int 10))) (.a7 (.int 9)))) ⟨ρ,[none,some d]⟩=some (.ok (zj d),⟨d8,[none,some d]⟩):=fun d hd ρ nh=>by
  refine aq (bH.mp hd) fun c _ bq=>?_;subst bq;refine⟨ρ,nh,?_⟩;show some (R.ok (decide (bG c 10<9)),_)=_;rw[lt9];rfl
 obtain⟨d8,rfl,h⟩:=E1.comp (R:=fun ρ=>ρ=[some (.val (bj l))]) (rng:=false) (iter:=.var 0) (elt:=.cvar 1) (f:=fun d=>d) (E1.val rfl rfl) (dm (aa (show(l.map D.int).length<100000 by rw[aM];exact aA (aE hl) (by decide)))) rfl hc fun d hd _ ρ nh=>⟨ρ,nh,E1.cvar rfl⟩;rw[y3] at h;exact cz rfl (Xs.ret h)
end
theorem X1.ou{σ σ1 σ2 Iu:St}(ho:σ.get i=some o)(hk:E1 G k (σ.hide i) x σ1)(he:E1 G e σ1 y σ2)(hu:rU i o x y σ2=some (.ok .next,Iu)):X1 G n (.ou i k e) σ Iu:=by
 exact(Sd (m:=fun o σ=>(au (ir G k σ)).bind fun k σ=>(au (ir G e σ)).bind (rU i o k)) ho).trans ((af (cu hk)).trans ((af (cu he)).trans hu))
theorem int_range{a:List Int}:a=(bW a.length).map fun i=>a.getD i 0:=by
 refine List.ext_getElem (by rw[aM,fP]) fun i h1 h2=>?_;rw[List.getElem_map,List.getElem_range,cW,aY h1];rfl
theorem RG{a:List Int}(h:a.length=11):∃c0 c1 c2 c3 c4 c5 c6 c7 c8 c9 c10,a=[c0,c1,c2,c3,c4,c5,c6,c7,c8,c9,c10]:=
 have e:=int_range (a:=a)
 ⟨_,_,_,_,_,_,_,_,_,_,_,(h▸e:a=(bW 11).map fun i=>a.getD i 0)⟩
theorem IE{ns:List Int}(hn:ns.length≤63):∃c0 c1 c2 c3 c4 c5 c6 c7 c8 c9 c10,runK G (1,3,mY) [bj ns]=some (.ok (bj [c0,c1,c2,c3,c4,c5,c6,c7,c8,c9,c10])):=by
 let F:Unit→xQ→Prop:=fun _ ρ=>∃(a:List Int) (o:Option Slot),a.length=11∧ρ=[some (.val (bj ns)),some (.own (a.map .int)),o]
 have hlen:(ns.map D.int).length≤sizeLine:=by rw[aM];exact aa (aA hn (by decide))
 have step:∀x∈(bW ns.length).map fun(k:Nat)=>D.int k,∀(a:Unit) ρ,F a ρ→∃σ1 d8,bindTo true [2] x ⟨ρ,[]⟩=some σ1∧Xs G NF [.ou 1 (.bin .mod (.var 2) (.a7 (.int 11))) (.sub (.var 0) (.var 2))] σ1 (some (.ok .next,⟨d8,[]⟩))∧F () d8:=by
  intro x hx _ ρ hF;obtain⟨a,o,ha,rfl⟩:=hF;refine aq (bH.mp hx) fun k hk bq=>?_;subst bq;have hk:=gI.mp hk;have QP:=ew (c:=(k:Int)) (n:=11) (by decide);rw[show((11:Nat):Int)=11 from rfl] at QP;obtain⟨y,hy⟩:∃y,(ns.map D.int)[k]?=some (.int y):=⟨ns[k],by rw[dN,aY hk];rfl⟩;obtain⟨z,hz⟩:∃z,(a.map D.int)[(bG (k:Int) 11).toNat]?=some (.int z):=⟨a[(bG (k:Int) 11).toNat]'(by rw[ha];exact QP.2),by rw[dN,aY];rfl⟩;refine⟨⟨[some (.val (bj ns)),some (.own (a.map .int)),some (.val (.int (k:Int)))],[]⟩,[some (.val (bj ns)),some (.own ((a.set (bG (k:Int) 11).toNat (z+y)).map .int)),some (.val (.int (k:Int)))],rfl,Xs.one ?_,_,_,by rw[List.length_set,ha],rfl⟩;have h1:E1 G (.bin .mod (.var 2) (.a7 (.int 11))) ⟨[some (.val (bj ns)),none,some (.val (.int (k:Int)))],[]⟩ (.int (bG (k:Int) 11)) ⟨[some (.val (bj ns)),none,some (.val (.int (k:Int)))],[]⟩:=E1.bin (E1.val rfl rfl) E1.a7 rfl;have h2:E1 G (.sub (.var 0) (.var 2)) ⟨[some (.val (bj ns)),none,some (.val (.int (k:Int)))],[]⟩ (.int y) ⟨[some (.val (bj ns)),none,some (.val (.int (k:Int)))],[]⟩:=E1.sub (E1.val rfl rfl) (E1.val rfl rfl) (qG rfl (aA (aG (aZ hk) hn) (by decide)) hy);refine X1.ou rfl h1 h2 ?_;refine(if_pos (by have:=QP.1;have:=QP.2;omega)).trans ?_;rw[hz];rw[List.map_set];rfl
 obtain⟨d8,⟨a,o,ha,rfl⟩,h⟩:=X1.kc (n:=NF) (F:=F) (g:=fun _ _=>()) (rng:=true) (iter:=.fn .len (.var 0)) (a:=()) (x:=.int (ns.length:Int)) (ρ0:=[some (.val (bj ns)),some (.own (([40,71,24,3,32,15,86,7,0,0,403]:List Int).map .int)),none]) (ρ1:=[some (.val (bj ns)),some (.own (([40,71,24,3,32,15,86,7,0,0,403]:List Int).map .int)),none])
  (E1.fn (E1.val rfl rfl) (fun fs q=>by cases q) (by show(if(ns.map D.int).length≤sizeLine then iu (.int ((ns.map D.int).length:Int)) else none)=_;rw[if_pos hlen,aM];rfl)) (n6 (aG hn (by decide))) ⟨_,_,rfl,rfl⟩ step
 have hr:runK G (1,3,mY) [bj ns]=some (.ok (bj a)):=cz rfl (Xs.cons (X1.of (by kernel_rfl)) (Xs.cons h (Xs.ret (E1.own rfl rfl))));obtain⟨c0,c1,c2,c3,c4,c5,c6,c7,c8,c9,c10,e⟩:=RG ha;exact⟨c0,c1,c2,c3,c4,c5,c6,c7,c8,c9,c10,e▸hr⟩
noncomputable def IF{α:Type}(o:α)(g:Int→α)(d:D):α:=match d with
 |.int c=>g c
 |_=>o
theorem GC{q:Int→Bool}{h:Int→D}:∀l:List Int,((l.map D.int).filter (IF false q)).map (IF .none h)=(l.filter q).map h
 |[]=>rfl
 |c::l=>by
  have ih:=GC (q:=q) (h:=h) l;cases hq:q c with
  |true=>rw[aN,aX (by exact hq),aX hq,aN,ih];rfl
  |false=>rw[aN,bD (by show ¬q c=true;simp[hq]),bD (by simp[hq]),ih]
theorem E1.Bw{G:Gl}{R:xQ→Prop}{iter elt:PE}{cond:Option PE}{l:List Int}{q:Int→Bool}{h:Int→D}{ρ0 ρ1:xQ}(hi:E1 G iter ⟨ρ0,[]⟩ (bj l) ⟨ρ1,[]⟩)(hl:l.length<1000)(h1:R ρ1)
 (hc:∀c∈l,∀ρ,R ρ→∃d8,R d8∧Mc G cond ⟨ρ,[none,some (.int c)]⟩=some (.ok (q c),⟨d8,[none,some (.int c)]⟩)) (he:∀c∈l,q c=true→∀ρ,R ρ→∃d8,R d8∧E1 G elt ⟨ρ,[none,some (.int c)]⟩ (h c) ⟨d8,[none,some (.int c)]⟩):
 ∃d8,R d8∧E1 G (.comp false 1 iter cond elt) ⟨ρ0,[]⟩ (.list ((l.filter q).map h)) ⟨d8,[]⟩:=by
 have Px:∀d∈l.map D.int,∀ρ,R ρ→∃d8,R d8∧Mc G cond ⟨ρ,[none,some d]⟩=some (.ok (IF false q d),⟨d8,[none,some d]⟩):=fun d hd=>by
  refine aq (bH.mp hd) fun c hm bq=>?_;subst bq;exact hc c hm
 have SX:∀d∈l.map D.int,IF false q d=true→∀ρ,R ρ→∃d8,R d8∧E1 G elt ⟨ρ,[none,some d]⟩ (IF .none h d) ⟨d8,[none,some d]⟩:=fun d hd=>by
  refine aq (bH.mp hd) fun c hm bq=>?_;subst bq;exact he c hm
 refine aq (E1.comp (rng:=false) hi (dm (aa (by rw[aM];exact aA (aE hl) (by decide)))) h1 Px SX) fun d8 h2 e=>?_;exact⟨d8,h2,by rw[←GC];exact e⟩
theorem mL(h:c∈there l):ct c:=of_decide_eq_true (cF.mp h).2
theorem mM(l:List Int):(there l).length≤l.length:=bS _ _
noncomputable def og:Tx:=[85,115,101,114,45,97,103,101,110,116,58,32]
noncomputable def uD:Tx:=[67,114,97,119,108,45,100,101,108,97,121,58,32]
noncomputable def vE:Tx:=[82,101,113,117,101,115,116,45,114,97,116,101,58,32]
noncomputable def ES:Tx:=[65,108,108,111,119,58]
noncomputable def W6(r:Row):List D:=[.str r.ahead,.str r.tail,.list (r.parts.map .str),.str r.fault,.int (r.sign:Int),.int (r.ax:Int)]
noncomputable def bg(r:Row):D:=.tup (W6 r)
noncomputable def nums(l:List Int):List Tx:=(l.filter fun c=>decide (wd c≠0)).map fun c=>(tl c).1
noncomputable def y4(l:List Int):List Row:=(l.filter fun c=>decide ((tl c).1∈nums l)).map (pT og)
noncomputable def ui(n:Int):Tx:=digits (bG n 50).toNat
noncomputable def pick(a b:Int):Int:=if bG b 4≠0 then b else a
noncomputable def kY(ah t:Tx)(d:Nat):Row:=⟨ah,t,[t],[],0,d⟩
noncomputable def GD(n:Int):List Row:=if bG n 4≠0 then[kY uD (ui n) (dr n)] else[]
noncomputable def RH(n:Int):Tx:=ui n++[47]++ui (dY n 50)
noncomputable def IG(n:Int):List Row:=if bG n 4≠0 then[kY vE (RH n) (dr n)] else[]
noncomputable def M1(l:List Int):List Row:=if l=[] then[kY ES [] 0] else l.map fun c=>pT (word c) c
noncomputable def rowsOf(a b:List Int)(dl rt:Int):List Row:=if y4 a=[] then[kY [] [] 0] else y4 a++GD dl++IG rt++M1 b
section
variable{d:Nat}
theorem pU{ds:List D}{σ:St}(h:ds.length<1000):ph i (.own ds) y σ=some (.ok .next,σ.put i (.own (ds++[y]))):=by
 exact if_pos (aa (aA (aJ (aE h) _) (by decide)))
theorem LR(h:ct c):E1 (GG (d+1)) (.call 9 [.cvar 1]) ⟨ρ,[none,some (.int c)]⟩ (Ph (tl c)) ⟨ρ,[none,some (.int c)]⟩:=E1.call (.one (E1.cvar rfl)) rfl (Bt h)
theorem sV(h:ct c):E1 (GG (d+1)) (.sub (.call 9 [.cvar 1]) (.a7 (.int 0))) ⟨ρ,[none,some (.int c)]⟩ (.str (tl c).1) ⟨ρ,[none,some (.int c)]⟩:=E1.sub (LR h) E1.a7 rfl
theorem Nz(h:E1 G e σ (.int c) σ):E1 G (.bin .mod (.bin .fdiv e (.a7 (.int 30))) (.a7 (.int 3))) σ (.int (dr c:Int)) σ:=by
 rw[←(GB c).1];exact E1.bin (E1.bin h E1.a7 rfl) E1.a7 rfl
theorem Tu(h:E1 G (.cvar 1) σ (.int c) σ):T1 G (.bin .mod (.bin .fdiv (.cvar 1) (.a7 (.int 10))) (.a7 (.int 3))) σ (decide (wd c≠0)) σ:=by
 refine T1.bin (E1.bin h E1.a7 rfl) E1.a7 rfl ?_;rw[(GA c).1];show some (!decide (((wd c:Nat):Int)=0))=_
 congr 1
 by_cases h:wd c=0<;>simp[h]
theorem Tw(h:ct c):E1 (GG (d+1)) (.bin .add (.bin .add (.tup [.a7 (.str og)]) (.call 9 [.cvar 1])) (.tup [.bin .mod (.bin .fdiv (.cvar 1) (.a7 (.int 30))) (.a7 (.int 3))])) ⟨ρ,[none,some (.int c)]⟩ (bg (pT og c)) ⟨ρ,[none,some (.int c)]⟩:=
 E1.bin (E1.bin (E1.tup (.one E1.a7) (aa (by decide))) (LR h) rfl) (E1.tup (.one (Nz (E1.cvar rfl))) (aa (by simp))) rfl
noncomputable def zk(cs:D)(ag:List Int)(o2 o3:Option Slot)(rows:List D)(o5 o6 o7 o8:Option Slot):St:=⟨[some (.val cs),some (.val (bj ag)),o2,o3,some (.own rows),o5,o6,o7,o8],[]⟩
theorem zl(h:ct c):lit (tl c).1=true:=by
 unfold ct at h;unfold tl;generalize kk c=k at h
 match k,h with
 |0,_|1,_|2,_|3,_|4,_|5,_|6,_|7,_|8,_=>decide
theorem wx{l:List Int}(h:∀c∈l,lit (f c)=true):∀x∈l.map f,lit x=true:=fun x hx=>by
 refine aq (bH.mp hx) fun c hc bq=>?_;subst bq;exact h c hc
theorem Bx(h:∀c∈l,ct c):∀x∈nums l,lit x=true:=wx fun c hc=>zl (h c (cF.mp hc).1)
theorem IH{cs:D}{l:List Int}(hl:l.length<1000)(h:∀c∈l,ct c){o2 o3 o4 o5 o6 o7 o8:Option Slot}:E1 (GG (d+1)) (.comp false 1 (.var 1) (some (.bin .mod (.bin .fdiv (.cvar 1) (.a7 (.int 10))) (.a7 (.int 3)))) (.sub (.call 9 [(.cvar 1)]) (.a7 (.int 0))))
 ⟨[some (.val cs),some (.val (bj l)),o2,o3,o4,o5,o6,o7,o8],[]⟩ (.list ((nums l).map .str)) ⟨[some (.val cs),some (.val (bj l)),o2,o3,o4,o5,o6,o7,o8],[]⟩:=by
 refine aq (E1.Bw (G:=(GG (d+1))) (R:=fun ρ=>ρ=[some (.val cs),some (.val (bj l)),o2,o3,o4,o5,o6,o7,o8]) (iter:=.var 1) (cond:=some (.bin .mod (.bin .fdiv (.cvar 1) (.a7 (.int 10))) (.a7 (.int 3)))) (q:=fun c=>decide (wd c≠0)) (h:=fun c=>.str (tl c).1) (E1.val rfl rfl) hl rfl (fun c hc ρ nh=>⟨ρ,nh,Tu (E1.cvar rfl)⟩) fun c hc _ ρ nh=>⟨ρ,nh,sV (h c hc)⟩) fun d8 ay e=>?_;subst ay;unfold nums;rw[bX];exact e
theorem LS{cs:D}{l:List Int}(hl:l.length<1000)(h:∀c∈l,ct c):∃o3,E1 (GG (d+1)) (.comp false 1 (.var 1) (some (.cmp .tA (.sub (.call 9 [(.cvar 1)]) (.a7 (.int 0))) (.var 3))) (.bin .add (.bin .add (.tup [.a7 (.str og)]) (.call 9 [.cvar 1])) (.tup [.bin .mod (.bin .fdiv (.cvar 1) (.a7 (.int 30))) (.a7 (.int 3))])))
 ⟨[some (.val cs),some (.val (bj l)),none,some (.own ((nums l).map .str)),none,none,none,none,none],[]⟩ (.list ((y4 l).map bg)) ⟨[some (.val cs),some (.val (bj l)),none,o3,none,none,none,none,none],[]⟩:=by
 let R:xQ→Prop:=fun ρ=>∃x,x.d=.list ((nums l).map .str)∧ρ=[some (.val cs),some (.val (bj l)),none,some x,none,none,none,none,none]
 obtain⟨d8,⟨x,_,rfl⟩,e⟩:=E1.Bw (G:=(GG (d+1))) (R:=R) (iter:=.var 1) (q:=fun c=>decide ((tl c).1∈nums l)) (h:=fun c=>bg (pT og c)) (E1.val rfl rfl) hl ⟨.own _,rfl,rfl⟩
  (cond:=some (.cmp .tA (.sub (.call 9 [(.cvar 1)]) (.a7 (.int 0))) (.var 3)))
  (fun c hc ρ nh=>by
   refine aq nh fun x hx bq=>?_;subst bq;exact⟨_,⟨.val x.d,hx,rfl⟩,T1.cmp (sV (h c hc)) (E1.var rfl) (by
    rw[hx];show(inD (.str (tl c).1) ((nums l).map .str)).map _=_;rw[Fy (zl (h c hc)) (Bx h)];rfl)⟩) fun c hc _ ρ nh=>⟨ρ,nh,Tw (h c hc)⟩
 exact⟨_,by unfold y4;rw[bX];exact e⟩
end
section
variable{d:Nat}
theorem rE(h:E1 G e σ (.int n) σ'):T1 G (.bin .mod e (.a7 (.int 4))) σ (decide (bG n 4≠0)) σ':=by
 refine T1.bin h E1.a7 rfl ?_;show some (!decide (bG n 4=0))=_
 congr 1
 by_cases h:bG n 4=0<;>simp[h]
theorem LU(hi:E1 G (.sub (.var 0) (.a7 (.int i))) σ (.int b) σ)(hj:E1 G (.sub (.var 0) (.a7 (.int j))) σ (.int a) σ):
 E1 G (.ite (.bin .mod (.sub (.var 0) (.a7 (.int i))) (.a7 (.int 4))) (.sub (.var 0) (.a7 (.int i))) (.sub (.var 0) (.a7 (.int j)))) σ (.int (pick a b)) σ:=by
 refine E1.ite (rE hi) ?_;unfold pick
 by_cases h:bG b 4=0
 ·simp only[h,ne_eq,not_true_eq_false,decide_false,if_false];exact hj
 ·simp only[h,ne_eq,not_false_eq_true,decide_true,if_true];exact hi
theorem LV(h:E1 G e σ (.int n) σ'):E1 G (.fn .str (.bin .mod e (.a7 (.int 50)))) σ (.str (ui n)) σ':=by
 have h1:=ew (c:=n) (n:=50) (by decide);rw[show((50:Nat):Int)=50 from rfl] at h1;refine E1.fn (E1.bin h E1.a7 rfl) (fun fs q=>by cases q) ?_;show(if 0≤bG n 50∧bG n 50<10000 then iu (.str (digits (bG n 50).toNat)) else none)=_;rw[if_pos (by omega)];rfl
theorem mh(n:Int):(ui n).length≤2:=bl (by have h1:=ew (c:=n) (n:=50) (by decide);rw[show((50:Nat):Int)=50 from rfl] at h1;exact aA (aE h1.2) (by decide))
theorem OA{cs:D}{ag:List Int}{o2 o3 o6 o7 o8:Option Slot}{rows:List D}{n:Int}(hr:rows.length<1000):∃u5,X1 (GG (d+1)) NF (.gz (.bin .mod (.var 5) (.a7 (.int 4))) [
 .assign 6 (.fn .str (.bin .mod (.var 5) (.a7 (.int 50)))),
 .append 4 (.tup [(.a7 (.str uD)),(.var 6),(.list [(.var 6)]),(.a7 (.str [])),(.a7 (.int 0)),(.bin .mod (.bin .fdiv (.var 5) (.a7 (.int 30))) (.a7 (.int 3)))])] [])
 (zk cs ag o2 o3 rows (some (.val (.int n))) o6 o7 o8) (zk cs ag o2 o3 (rows++(GD n).map bg) (some (.val (.int n))) u5 o7 o8):=by
 unfold GD
 by_cases h:bG n 4=0
 ·refine⟨o6,?_⟩
  simp only[h,ne_eq,not_true_eq_false,if_false,dK,bN];exact X1.skip (by have:=rE (G:=(GG (d+1))) (e:=.var 5) (σ:=zk cs ag o2 o3 rows (some (.val (.int n))) o6 o7 o8) (E1.val rfl rfl);simpa [h] using this)
 ·refine⟨some (.val (.str (ui n))),?_⟩
  simp only[h,ne_eq,not_false_eq_true,if_true];refine X1.gz (rE (E1.val rfl rfl)) ?_;simp only[h,ne_eq,not_false_eq_true,decide_true,if_true];exact Xs.cons (X1.assign (LV (E1.val rfl rfl))) (Xs.one (X1.append rfl (E1.tup (.cons E1.a7 (.cons (E1.val rfl rfl) (.cons (E1.list (.one (E1.val rfl rfl)) (aa (by simp))) (.cons E1.a7 (.cons E1.a7 (.one (Nz (E1.val rfl rfl)))))))) (aa (by simp))) (pU hr)))
theorem OB{cs:D}{ag:List Int}{o2 o3 o5 o6 o8:Option Slot}{rows:List D}{n:Int}(hr:rows.length<1000):∃u5,X1 (GG (d+1)) NF (.gz (.bin .mod (.var 7) (.a7 (.int 4))) [
 .assign 6 (.bin .add (.bin .add (.fn .str (.bin .mod (.var 7) (.a7 (.int 50)))) (.a7 (.str [47]))) (.fn .str (.bin .mod (.bin .fdiv (.var 7) (.a7 (.int 50))) (.a7 (.int 50))))),
 .append 4 (.tup [(.a7 (.str vE)),(.var 6),(.list [(.var 6)]),(.a7 (.str [])),(.a7 (.int 0)),(.bin .mod (.bin .fdiv (.var 7) (.a7 (.int 30))) (.a7 (.int 3)))])] [])
 (zk cs ag o2 o3 rows o5 o6 (some (.val (.int n))) o8) (zk cs ag o2 o3 (rows++(IG n).map bg) o5 u5 (some (.val (.int n))) o8):=by
 unfold IG
 by_cases h:bG n 4=0
 ·refine⟨o6,?_⟩
  simp only[h,ne_eq,not_true_eq_false,if_false,dK,bN];exact X1.skip (by have:=rE (G:=(GG (d+1))) (e:=.var 7) (σ:=zk cs ag o2 o3 rows o5 o6 (some (.val (.int n))) o8) (E1.val rfl rfl);simpa [h] using this)
 ·refine⟨some (.val (.str (RH n))),?_⟩
  simp only[h,ne_eq,not_false_eq_true,if_true];refine X1.gz (rE (E1.val rfl rfl)) ?_;simp only[h,ne_eq,not_false_eq_true,decide_true,if_true];have l1:=mh n;have l2:=mh (dY n 50);have add:∀{x y:Tx},x.length+y.length<1000→rP .add (.str x) (.str y)=some (.ok (.str (x++y))):=fun{x y} h=>by
   show(if x.length+y.length≤sizeLine then iu (.str (x++y)) else none)=_;rw[if_pos (aa (aA (aE h) (by decide)))];rfl
  refine Xs.cons (X1.assign (E1.bin (E1.bin (LV (E1.val rfl rfl)) E1.a7 (add (by simp;exact aA (aJ l1 _) (by decide)))) (LV (E1.bin (E1.val rfl rfl) E1.a7 rfl)) (add (by simp;exact aA (aU (aJ l1 _) l2) (by decide))))) (Xs.one (X1.append rfl (E1.tup (.cons E1.a7 (.cons (E1.val rfl rfl) (.cons (E1.list (.one (E1.val rfl rfl)) (aa (by simp))) (.cons E1.a7 (.cons E1.a7 (.one (Nz (E1.val rfl rfl)))))))) (aa (by simp))) (pU hr)))
noncomputable def RI:List PS:=[.append 4 (.bin .add (.bin .add (.tup [(.call 10 [(.var 2)])]) (.call 9 [(.var 2)])) (.tup [(.bin .mod (.bin .fdiv (.var 2) (.a7 (.int 30))) (.a7 (.int 3)))]))]
theorem GH{cs:D}{ag:List Int}{o3 o5 o6 o7 o8:Option Slot}:∀{l:List Int} {o2:Option Slot} {rows:List D},(∀c∈l,ct c)→rows.length+l.length<1000→
 ∃Oo,forM true [2] (cx (GG (d+1)) NF RI) (l.map .int) (zk cs ag o2 o3 rows o5 o6 o7 o8)=some (.ok .next,zk cs ag Oo o3 (rows++(l.map fun c=>pT (word c) c).map bg) o5 o6 o7 o8)
 |[],o2,rows,_,_=>⟨o2,by rw[dK,dK,dK,bN];rfl⟩
 |c::l,o2,rows,h,hl=>by
  simp only[bA] at hl;obtain⟨Oo,e⟩:=GH (l:=l) (o2:=some (.val (.int c))) (rows:=rows++[bg (pT (word c) c)]) (fun y hy=>h y (.tail _ hy)) (by simp;exact aA (bO (cC _ _ _)) hl);refine⟨Oo,?_⟩;have hb:cx (GG (d+1)) NF RI (zk cs ag (some (.val (.int c))) o3 rows o5 o6 o7 o8)=some (.ok .next,zk cs ag (some (.val (.int c))) o3 (rows++[bg (pT (word c) c)]) o5 o6 o7 o8):=
   Xs.one (X1.append rfl (E1.bin (E1.bin (E1.tup (.one (E1.call (.one (E1.val rfl rfl)) rfl Bu)) (aa (by simp))) (E1.call (.one (E1.val rfl rfl)) rfl (Bt (h c (.head _)))) rfl) (E1.tup (.one (Nz (E1.val rfl rfl))) (aa (by simp))) rfl) (pU (aA (aP _ _) hl)))
  rw[aN];rw[jb (show bindTo true [2] (.int c) (zk cs ag o2 o3 rows o5 o6 o7 o8)=some (zk cs ag (some (.val (.int c))) o3 rows o5 o6 o7 o8) from rfl)];rw[hb];refine hH e ?_;rw[aN,aN,bZ];rfl
end
section
variable{d:Nat}
theorem jo{l:List D}(h:l.length<1000):kM (.list l)=some (!l.isEmpty):=by
 show(if l.length≤sizeLine then some (!l.isEmpty) else none)=_;rw[if_pos (aa (aA (aE h) (by decide)))]
theorem X1.nE(hi:E1 G iter σ x σ1)(hx:lg rng x=some items)(h:forM one is (cx G n b) items σ1=some (.ok .next,σ')):X1 G n (.kc rng one is iter b) σ σ':=by
 refine(af hi).trans ?_;unfold tD;rw[hx];exact cu h
theorem OC{cs:D}{ag:List Int}{o2 o3 o5 o6 o7:Option Slot}{rows:List D}{l:List Int}(hr:rows.length<100)(hl:l.length<10)(h:∀c∈l,ct c):
 ∃σ,Xs (GG (d+1)) NF [.gz (.sa (.var 8)) [.append 4 (.tup [(.a7 (.str ES)),(.a7 (.str [])),(.list [(.a7 (.str []))]),(.a7 (.str [])),(.a7 (.int 0)),(.a7 (.int 0))])] [],.kc false true [2] (.var 8) RI,.ret (.var 4)]
  (zk cs ag o2 o3 rows o5 o6 o7 (some (.val (bj l)))) (some (.ok (.ret (.list (rows++(M1 l).map bg))),σ)):=by
 unfold M1;cases l with
 |nil=>
  have h1:X1 (GG (d+1)) NF (.gz (.sa (.var 8)) [.append 4 (.tup [(.a7 (.str ES)),(.a7 (.str [])),(.list [(.a7 (.str []))]),(.a7 (.str [])),(.a7 (.int 0)),(.a7 (.int 0))])] []) (zk cs ag o2 o3 rows o5 o6 o7 (some (.val (bj [])))) (zk cs ag o2 o3 (rows++[bg (kY ES [] 0)]) o5 o6 o7 (some (.val (bj [])))):=
   X1.gz (T1.not (T1.var rfl rfl)) (Xs.one (X1.append rfl (E1.of rfl) (pU (aA (aE hr) (by decide)))))
  exact⟨_,Xs.cons h1 (Xs.cons (σ':=zk cs ag o2 o3 (rows++[bg (kY ES [] 0)]) o5 o6 o7 (some (.val (bj [])))) (X1.of (by rfl)) (Xs.ret (E1.own rfl rfl)))⟩
 |cons c l=>
  obtain⟨Oo,e⟩:=GH (d:=d) (cs:=cs) (ag:=ag) (o3:=o3) (o5:=o5) (o6:=o6) (o7:=o7) (o8:=some (.val (bj (c::l)))) (o2:=o2) (rows:=rows) h (aA (aU (aE hr) (aE hl)) (by decide));rw[if_neg (by simp)];refine⟨_,Xs.cons (X1.skip (T1.not (b:=true) (T1.var (x:=.val (bj (c::l))) rfl (jo (by rw[aM];exact aA (aE hl) (by decide)))))) (Xs.cons (σ':=zk cs ag Oo o3 (rows++((c::l).map fun c=>pT (word c) c).map bg) o5 o6 o7 (some (.val (bj (c::l))))) ?_ (Xs.ret (E1.own rfl rfl)))⟩;exact X1.nE (E1.val rfl rfl) (dm (aa (by rw[aM];exact aA (aE hl) (by decide)))) e
theorem LW(l:List Int):(y4 l).length≤l.length:=by
 unfold y4;rw[aM];exact bS _ _
theorem LX(n:Int):(GD n).length≤1:=by unfold GD;split<;>simp
theorem LY(n:Int):(IG n).length≤1:=by unfold IG;split<;>simp
theorem L3{c0 c1 c2 c3 c4 c5 c6 c7 c8 c9 c10:Int}:runK (GG (d+1)) (1,9,qf) [bj [c0,c1,c2,c3,c4,c5,c6,c7,c8,c9,c10]]=some (.ok (.list ((rowsOf (there [c0,c1,c2,c3]) (there [c4,c5,c6]) (pick c7 c8) (pick c9 c10)).map bg))):=by
 let cs:=bj [c0,c1,c2,c3,c4,c5,c6,c7,c8,c9,c10]
 have la:(there [c0,c1,c2,c3]).length≤4:=mM _;have lb:(there [c4,c5,c6]).length≤3:=mM _;have ha:∀c∈there [c0,c1,c2,c3],ct c:=fun c=>mL;have hb:∀c∈there [c4,c5,c6],ct c:=fun c=>mL;generalize hA:there [c0,c1,c2,c3]=A at la ha ⊢;generalize hB:there [c4,c5,c6]=B at lb hb ⊢;obtain⟨o3,e4⟩:=LS (d:=d) (cs:=cs) (l:=A) (aA la (by decide)) ha;have lu:=LW A;have e0:E1 (GG (d+1)) (.slice (.var 0) (.a7 .none) (.a7 (.int 4))) ⟨[some (.val cs),none,none,none,none,none,none,none,none],[]⟩ (bj [c0,c1,c2,c3]) ⟨[some (.val cs),none,none,none,none,none,none,none,none],[]⟩:=E1.of (by kernel_rfl);have hA':runK (GG d) (1,1,gh) [bj [c0,c1,c2,c3]]=some (.ok (bj A)):=by rw[←hA];exact n7 (by simp)
 have hB':runK (GG d) (1,1,gh) [bj [c4,c5,c6]]=some (.ok (bj B)):=by rw[←hB];exact n7 (by simp)
 have e1:X1 (GG (d+1)) NF (.assign 1 (.call 11 [(.slice (.var 0) (.a7 .none) (.a7 (.int 4)))])) ⟨[some (.val cs),none,none,none,none,none,none,none,none],[]⟩ ⟨[some (.val cs),some (.val (bj A)),none,none,none,none,none,none,none],[]⟩:=
  X1.assign (E1.call (.one e0) rfl hA')
 have e3:=IH (d:=d) (cs:=cs) (l:=A) (aA la (by decide)) ha (o2:=none) (o3:=none) (o4:=none) (o5:=none) (o6:=none) (o7:=none) (o8:=none);unfold rowsOf
 by_cases hu:y4 A=[]
 ·rw[if_pos hu]
  rw[hu] at e4;refine cz (σ':=zk cs A none o3 [] none none none none) rfl (Xs.cons e1 (Xs.cons (X1.assign e3) (Xs.cons (X1.assign e4) ?_)));exact Xs.gz (t:=true) (T1.not (b:=false) (T1.var (x:=.own []) rfl rfl)) (Xs.ret (E1.of (by kernel_rfl)))
 ·rw[if_neg hu]
  have dl:=LX (pick c7 c8);have rl:=LY (pick c9 c10);obtain⟨o6,e6⟩:=OA (d:=d) (cs:=cs) (ag:=A) (o2:=none) (o3:=o3) (o6:=none) (o7:=none) (o8:=none) (rows:=(y4 A).map bg) (n:=pick c7 c8) (by simp;exact aA (aG lu la) (by decide));obtain⟨u5,e8⟩:=OB (d:=d) (cs:=cs) (ag:=A) (o2:=none) (o3:=o3) (o5:=some (.val (.int (pick c7 c8)))) (o6:=o6) (o8:=none) (rows:=(y4 A).map bg++(GD (pick c7 c8)).map bg) (n:=pick c9 c10) (by simp;exact aA (aU (aG lu la) dl) (by decide));obtain⟨σ,e9⟩:=OC (d:=d) (cs:=cs) (ag:=A) (o2:=none) (o3:=o3) (o5:=some (.val (.int (pick c7 c8)))) (o6:=u5) (o7:=some (.val (.int (pick c9 c10)))) (rows:=(y4 A).map bg++(GD (pick c7 c8)).map bg++(IG (pick c9 c10)).map bg) (l:=B) (by simp;exact aA (aU (aG lu la) (aU dl rl)) (by decide)) (aA lb (by decide)) hb;rw[bR,bR,bR];refine cz rfl (Xs.cons e1 (Xs.cons (X1.assign e3) (Xs.cons (X1.assign e4) (Xs.cons (X1.skip (T1.not (b:=true) (T1.var rfl ?_))) (Xs.cons (X1.assign (LU (E1.of (by kernel_rfl)) (E1.of (by kernel_rfl)))) (Xs.cons e6 (Xs.cons (X1.assign (LU (E1.of (by kernel_rfl)) (E1.of (by kernel_rfl)))) (Xs.cons e8 (Xs.cons (X1.assign (E1.call (.one (E1.of (σ':=zk cs A none o3 ((y4 A).map bg++(GD (pick c7 c8)).map bg++(IG (pick c9 c10)).map bg) (some (.val (.int (pick c7 c8)))) u5 (some (.val (.int (pick c9 c10)))) none) (d:=bj [c4,c5,c6]) (by kernel_rfl))) rfl hB')) e9)))))))));refine(jo (by rw[aM];exact aA (aG lu la) (by decide))).trans ?_;cases h:y4 A with
  |nil=>exact absurd h hu
  |cons _ _=>rfl
end
theorem add_str{x y:Tx}(h:x.length+y.length<100000):rP .add (.str x) (.str y)=some (.ok (.str (x++y))):=by
 show(if x.length+y.length≤sizeLine then iu (.str (x++y)) else none)=_;rw[if_pos (aa h)];rfl
theorem GI{x y:Tx}{σ:St}(h:x.length+y.length<100000):A2 i (.val (.str x)) (.str y) σ=some (.ok .next,σ.put i (.val (.str (x++y)))):=by
 show(Mo.of (rP .add (.str x) (.str y)) σ).bind _=_;rw[add_str h];rfl
noncomputable def Row.nice(r:Row):Prop:=(∀c∈r.text,c≠10)∧r.text.length≤60∧r.ax<3
theorem cj.nice{r:Row}(h:cj r):r.nice:=by
 have go:∀{ah t:Tx},clean ah→ah.length≤14→(t.all fun c=>c !=10)=true→t.length≤40→(∀c∈ah++t,c≠10)∧(ah++t).length≤60:=fun{ah t} h1 h2 h3 h4=>
  ⟨fun c hc=>(cB.mp hc).elim (qF h1 c) fun h=>by simpa using bQ.mp h3 c h,by simp;exact aG (aU h2 h4) (by decide)⟩
 have mk:∀{r:Row},(∀c∈r.ahead++r.tail,c≠10)∧(r.ahead++r.tail).length≤60→r.ax<3→r.nice:=fun h h'=>⟨h.1,h.2,h'⟩;cases h with
 |plain h1 h2 h3 h4 h5=>exact mk (go h1 h3 (bQ.mpr fun c hc=>by simpa using qF h2 c hc) h4) h5
 |M7 h1 h2 h3=>exact mk (go h1 h2 (by rfl) (by simp)) h3
 |bad h1 h2 h3=>exact mk (go h1 h2 (by rfl) (by simp)) h3
 |two h1 h2 h3=>exact mk (go h1 h2 (by rfl) (by simp)) h3
 |rem h1 h2 h3=>exact mk (go h1 h2 (by rfl) (by simp)) h3
 |br h1 h2 h3=>exact mk (go h1 h2 (by rfl) (by simp)) h3
 |emp h1 h2 h3=>exact mk (go h1 h2 (by rfl) (by simp)) h3
noncomputable def q7:List Row→Tx
 |[]=>[]
 |r::rs=>kv r.ax++core r.text r.ax []++q7 rs
theorem wy(t:Tx)(d:Nat)(r:Tx):core t d r=core t d []++r:=by simp[core]
theorem GJ:∀rs:List Row,body rs=q7 rs++[93]
 |[]=>rfl
 |r::rs=>by
  show kv r.ax++core r.text r.ax (body rs)=_;rw[wy,GJ rs];simp[q7]
noncomputable def g6:List Row→Nat→List Nat
 |[],_=>[]
 |r::rs,l=>b7 l r.ax::g6 rs (b7 l r.ax)
noncomputable def pr(r:Row):D:=.tup [.str r.text,.int (r.ax:Int)]
noncomputable def cq(n:Nat):D:=.int (n:Int)
theorem uE(d:Nat):(kv d).count 10=if d=2 then 2 else 0:=by unfold kv;split<;>rfl
theorem wz(h:∀c∈t,c≠10):(core t d []).count 10=1:=by
 have h1:t.count 10=0:=List.count_eq_zero.mpr fun hc=>h 10 hc rfl;have h2:(lZ d).count 10=0:=by unfold lZ;split<;>rfl
 simp[core,List.count_cons,eE,h1,h2]
theorem vF(d:Nat):(kv d).length≤6:=by unfold kv;split<;>simp
theorem xB(t:Tx)(d:Nat):(core t d []).length≤t.length+15:=by
 have:(lZ d).length≤11:=by unfold lZ;split<;>simp
 simp[core];exact this
section
variable{G:Gl}
noncomputable def W7:List PS:=[
 .gz (.cmp .eq (.var 4) (.a7 (.int 2))) [
  .aug 1 (.a7 (.str [9,35,32,49,10,10]))] [],
 .append 2 (.bin .add (.dz .count (.var 1) [(.a7 (.str [10]))]) (.a7 (.int 1))),
 .aug 1 (.bin .add (.bin .add (.bin .add (.bin .add (.a7 (.str [39])) (.var 3)) (.a7 (.str [39,44]))) (.ite (.cmp .eq (.var 4) (.a7 (.int 1))) (.a7 (.str [32,35,32,105,116,39,115,44,32,91,39])) (.a7 (.str [])))) (.a7 (.str [10])))]
noncomputable def sw(x:D)(doc:Tx)(ns:List D)(o3 o4:Option Slot):St:=⟨[some (.val x),some (.val (.str doc)),some (.own ns),o3,o4],[]⟩
theorem RJ{doc:Tx}{ns:List D}{r:Row}(hr:r.nice)(h1:doc.length<10000)(h2:ns.length<500):
 Xs G NF W7 (sw x doc ns (some (.val (.str r.text))) (some (.val (.int (r.ax:Int))))) (some (.ok .next,sw x (doc++(kv r.ax++core r.text r.ax [])) (ns++[cq (b7 (doc.count 10) r.ax)]) (some (.val (.str r.text))) (some (.val (.int (r.ax:Int)))))):=by
 refine AP hr fun hc hl hd=>?_;generalize r.text=t at *;generalize r.ax=d at *;have lp:=vF d;have eqd:∀(k:Int) doc,T1 G (.cmp .eq (.var 4) (.a7 (.int k))) (sw x doc ns (some (.val (.str t))) (some (.val (.int (d:Int))))) ((d:Int)==k) (sw x doc ns (some (.val (.str t))) (some (.val (.int (d:Int))))):=fun k doc=>T1.cmp (E1.val rfl rfl) E1.a7 (eq_int _ _);have s1:X1 G NF (.gz (.cmp .eq (.var 4) (.a7 (.int 2))) [.aug 1 (.a7 (.str [9,35,32,49,10,10]))] []) (sw x doc ns (some (.val (.str t))) (some (.val (.int (d:Int))))) (sw x (doc++kv d) ns (some (.val (.str t))) (some (.val (.int (d:Int))))):=by
  refine X1.gz (eqd 2 doc) ?_;unfold kv
  by_cases h:d=2
  ·subst h
   exact Xs.one (X1.aug rfl E1.a7 (GI (by simp;exact aA (aJ (aE h1) _) (by decide))))
  ·rw[if_neg (by simp;lia),if_neg h,bN];exact Xs.nil
 have lc:(doc++kv d).count 10+1=b7 (doc.count 10) d:=by rw[eE,uE];unfold b7;split<;>exact dC (bB _) (bB _)
 have s2:X1 G NF (.append 2 (.bin .add (.dz .count (.var 1) [(.a7 (.str [10]))]) (.a7 (.int 1)))) (sw x (doc++kv d) ns (some (.val (.str t))) (some (.val (.int (d:Int))))) (sw x (doc++kv d) (ns++[cq (b7 (doc.count 10) d)]) (some (.val (.str t))) (some (.val (.int (d:Int))))):=by
  refine X1.append rfl (E1.bin (E1.dz (E1.val rfl rfl) (.one E1.a7) (z:=.int ((doc++kv d).count 10:Int)) ?_) E1.a7 (add_one _)) ?_
  ·show(if(doc++kv d).length≤sizeLine then iu (.int ((doc++kv d).count 10:Int)) else none)=_
   rw[if_pos (aa (by simp;exact aA (aU (aE h1) lp) (by decide)))];rfl
  ·rw[lc];exact pU (aA (aE h2) (by decide))
 refine Xs.cons s1 (Xs.cons s2 (Xs.one ?_));have YL:E1 G (.ite (.cmp .eq (.var 4) (.a7 (.int 1))) (.a7 (.str [32,35,32,105,116,39,115,44,32,91,39])) (.a7 (.str []))) (St.hide (sw x (doc++kv d) (ns++[cq (b7 (doc.count 10) d)]) (some (.val (.str t))) (some (.val (.int (d:Int))))) 1) (.str (lZ d)) (St.hide (sw x (doc++kv d) (ns++[cq (b7 (doc.count 10) d)]) (some (.val (.str t))) (some (.val (.int (d:Int))))) 1):=by
  refine E1.ite (T1.cmp (E1.val rfl rfl) E1.a7 (eq_int _ _)) ?_;unfold lZ
  by_cases h:d=1
  ·subst h;exact E1.a7
  ·rw[if_neg (by simp;lia),if_neg h];exact E1.a7
 have lcm:(lZ d).length≤11:=by unfold lZ;split<;>simp
 have e:doc++(kv d++core t d [])=(doc++kv d)++((((([39]++t)++[39,44])++lZ d))++[10]):=by simp[core]
 rw[e];exact X1.aug rfl (E1.bin (E1.bin (E1.bin (E1.bin E1.a7 (E1.val rfl rfl) (add_str (by simp;exact aA (bI hl _) (by decide)))) E1.a7 (add_str (by simp;exact aA (aJ hl 3) (by decide)))) YL (add_str (by simp;exact aA (aU (aJ hl 3) lcm) (by decide)))) E1.a7 (add_str (by simp;exact aA (aJ (aU hl (aJ lcm 2)) 2) (by decide)))) (GI (by simp;exact aA (aU (aU (aE h1) lp) (aJ (aU hl (aJ lcm 3)) _)) (by decide)))
theorem L4:∀{rs:List Row} {doc:Tx} {ns:List D} {o3 o4:Option Slot},(∀r∈rs,r.nice)→doc.length+100*rs.length<10000→ns.length+rs.length<500→
 ∃S0 Ii,forM false [3,4] (cx G NF W7) (rs.map pr) (sw x doc ns o3 o4)=some (.ok .next,sw x (doc++q7 rs) (ns++(g6 rs (doc.count 10)).map cq) S0 Ii)
 |[],doc,ns,o3,o4,_,_,_=>⟨o3,o4,by show _=some (R.ok Fl.next,sw x (doc++[]) (ns++[]) o3 o4);rw[bN,bN];rfl⟩
 |r::rs,doc,ns,o3,o4,h,h1,h2=>by
  simp only[bA] at h1 h2;refine AP (h r (.head _)) fun hc hl hd=>?_;have lp:=vF r.ax;have lc:=xB r.text r.ax;have e0:=RJ (G:=G) (x:=x) (doc:=doc) (ns:=ns) (h r (.head _)) (aA (aP _ _) h1) (aA (aP _ _) h2);have S1:(doc++(kv r.ax++core r.text r.ax [])).count 10=b7 (doc.count 10) r.ax:=by
   rw[eE,eE,uE,wz hc];unfold b7;split<;>exact dC (bB _) (bB _)
  refine kK (L4 (x:=x) (rs:=rs) (doc:=doc++(kv r.ax++core r.text r.ax [])) (ns:=ns++[cq (b7 (doc.count 10) r.ax)]) (o3:=some (.val (.str r.text))) (o4:=some (.val (.int (r.ax:Int)))) (fun y hy=>h y (.tail _ hy)) (by simp at lp lc ⊢;lia) (by simp;exact aA (bO (cC _ _ _)) h2)) fun S0 Ii e=>?_;refine⟨S0,Ii,?_⟩;rw[aN];rw[jb (show bindTo false [3,4] (pr r) (sw x doc ns o3 o4)=some (sw x doc ns (some (.val (.str r.text))) (some (.val (.int (r.ax:Int))))) from rfl)];rw[show cx G NF W7 _=_ from e0];refine hH e ?_;rw[S1];simp[q7,g6]
theorem u2{rs:List Row}(h:∀r∈rs,r.nice)(hl:rs.length<50):runK G (1,5,mv) [.list (rs.map pr)]=some (.ok (.tup [.str (91::10::body rs),.list ((g6 rs 1).map cq)])):=by
 refine kK (L4 (G:=G) (x:=.list (rs.map pr)) (rs:=rs) (doc:=[91,10]) (ns:=[]) (o3:=none) (o4:=none) h (by simp;exact aA (bI (bM _ (aE hl)) _) (by decide)) (by simp;exact aA (aE hl) (by decide))) fun S0 Ii e=>?_;have hn:∀rs:List Row,(∀r∈rs,r.nice)→(q7 rs).length≤100*rs.length:=by
  intro rs h
  induction rs with
  |nil=>simp[q7]
  |cons r rs ih=>
   have:=ih fun y hy=>h y (.tail _ hy);refine AP (h r (.head _)) fun _ hl _=>?_;have lp:=vF r.ax;have lc:=xB r.text r.ax;simp only[q7,aV,bA];lia
 have:=hn rs h;refine cz (σ':=⟨[some (.val (.list (rs.map pr))),some (.val (.str ([91,10]++q7 rs))),some (.val (.list ([]++(g6 rs (List.count 10 [91,10])).map cq))),S0,Ii],[]⟩) rfl (Xs.cons (σ':=⟨[some (.val (.list (rs.map pr))),some (.val (.str [91,10])),none,none,none],[]⟩) (X1.of rfl) (Xs.cons (σ':=sw (.list (rs.map pr)) [91,10] [] none none) (X1.of rfl) (Xs.cons (X1.nE (E1.val rfl rfl) (dm (aa (by rw[aM];exact aA (aE hl) (by decide)))) e) ?_)));rw[show(91::10::body rs)=([91,10]++q7 rs)++[93] by rw[GJ];simp];exact Xs.ret (E1.tup (.cons (E1.bin (E1.val rfl rfl) E1.a7 (add_str (by simp;exact aA (aJ (aG this (bM _ (aE hl))) 3) (by decide)))) (.one (E1.own rfl rfl))) (aa (by simp)))
end
section
variable{d:Nat}{src:Tx}
theorem RK(A:Tx)(k:Nat):∃A',(A++[10])++kv k=A'++[10]:=by
 unfold kv
 split
 ·exact⟨A++[10,9,35,32,49,10],by simp⟩
 ·exact⟨A,by simp⟩
theorem OD(t:Tx)(k:Nat):∃B,core t k []=B++[10]:=⟨39::(t++39::44::lZ k),by simp[core]⟩
theorem GK(hs:src.length<2000):∀{rs:List Row} {A:Tx} {ts:List Tx} {l:Nat},(∀r∈rs,cj r)→src=(A++[10])++body rs→(A++[10]).count 10=l→l+3*rs.length+2<100→ts.length+2*rs.length+2<1000→LF d src (W3 rs) (ts.map .str) (pairD (cb rs l ts))
 |[],A,ts,l,_,_,_,_,_=>LF.done hs
 |r::rs,A,ts,l,h,e,hl,h1,h2=>by
  simp only[bA] at h1 h2;have hr:=h r (.head _);refine AP hr.nice fun hc _ _=>?_;refine eo (RK A r.ax) fun A' eA=>?_;have e1:src=(A'++[10])++core r.text r.ax (body rs):=by rw[e,←eA];simp[body]
  have H7:(A'++[10]).count 10+1=b7 l r.ax:=by
   rw[←eA,eE,hl,uE];unfold b7;split<;>exact dC (bB _) (bB _)
  have AK:b7 l r.ax≤l+3:=by unfold b7;split<;>lia
  have ho:r.out.length≤2:=by cases hr<;>simp[Row.out]
  show LF d src (core r.text r.ax (body rs)) (ts.map .str) _
  by_cases hf:r.fault=[]
  ·refine eo (OD r.text r.ax) fun B eB=>?_
   have ih:=GK hs (rs:=rs) (A:=A'++[10]++B) (ts:=ts++r.out) (l:=b7 l r.ax) (fun y hy=>h y (.tail _ hy)) (by rw[e1,wy,eB];simp) (by rw[bZ,←eB,eE,wz hc,H7]) (by lia) (by simp;lia);rw[bR] at ih;rw[show cb (r::rs) l ts=cb rs (b7 l r.ax) (ts++r.out) by simp[cb,hf]];exact LO hr hf hs (by simp;exact aA (aU (aP _ _) (by decide)) h2) (Fx rs) ih
  ·have:=Nx (d:=d) hr hf (ts:=ts.map .str) e1 hs (by simp;exact aA (aU (aP _ _) (by decide)) h2) rfl (by lia)
   rw[show cb (r::rs) l ts=(ts++r.out,ja r.fault (b7 l r.ax) (r.ahead.length+r.sign+2)) by simp[cb,hf]];rw[H7] at this;unfold pairD;rw[bR];exact this
theorem By:∀{rs:List Row},(∀r∈rs,r.nice)→(body rs).length≤81*rs.length+1
 |[],_=>by simp[body]
 |r::rs,h=>by
  have ih:=By fun y hy=>h y (.tail _ hy);refine AP (h r (.head _)) fun _ hl _=>?_;have lp:=vF r.ax;have lc:=xB r.text r.ax;show(kv r.ax++core r.text r.ax (body rs)).length≤_;rw[wy];simp only[aV,bA];lia
theorem Bz{rs:List Row}(h:∀r∈rs,cj r)(hl:rs.length≤20):runK (GG (d+3)) (1,5,ly) [.str (91::10::body rs)]=some (.ok (pairD (cb rs 1 []))):=by
 have:=By fun r hr=>(h r hr).nice;exact Nw (d:=d) (x:=10::body rs) (y:=W3 rs) (.ws (by decide) (Fx rs)) (by simp;exact aA (aJ (aG this (aJ (bM _ hl) _)) 2) (by decide)) (GK (A:=[91]) (ts:=[]) (by simp;exact aA (aJ (aG this (aJ (bM _ hl) _)) 2) (by decide)) h rfl rfl (aA (aJ (bI (bM _ hl) _) _) (by decide)) (by simp;exact aA (aJ (bM _ hl) _) (by decide)))
end
end Mine.Internal
namespace Mine.Internal
open PySem PySem.StrLaws PySem.Builtin.Str
noncomputable def jn(c:Nat):List Tx→Tx
 |[]=>[]
 |[x]=>x
 |x::y::r=>x++c::jn c (y::r)
theorem Pj(c:Nat):∀l:List Tx,dV [c] l=jn c l
 |[]=>rfl
 |[x]=>by simp[dV,jn]
 |x::y::r=>by
  have ih:=Pj c (y::r);simp only[dV,List.intersperse,List.flatten_cons] at ih ⊢;rw[ih];rfl
theorem GL(c:Nat):∀l:List Str,(Str.join (S [c]) l).cps.toList=jn c (l.map fun z=>z.cps.toList)
 |[]=>rfl
 |[x]=>rfl
 |x::y::r=>by
  have ih:=GL c (y::r);show(x++S [c]++Str.join (S [c]) (y::r)).cps.toList=_;simp only[Str.cps_append,eG,ih];simp[S,jn]
theorem CA:∀{a b x y:Tx},c∉a→c∉b→a++c::x=b++c::y→a=b∧x=y
 |[],[],x,y,_,_,h=>⟨rfl,by cases h;rfl⟩
 |[],d::b,x,y,_,hb,h=>by cases h;exact absurd (.head _) hb
 |d::a,[],x,y,ha,_,h=>by cases h;exact absurd (.head _) ha
 |d::a,e::b,x,y,ha,hb,h=>by
  refine ka (List.cons.inj h) fun h1 h2=>?_;refine ka (CA (fun q=>ha (.tail _ q)) (fun q=>hb (.tail _ q)) h2) fun h3 h4=>?_;exact⟨by rw[h1,h3],h4⟩
theorem L5:∀{l m:List Tx},l≠[]→m≠[]→(∀x∈l,c∉x)→(∀x∈m,c∉x)→jn c l=jn c m→l=m
 |[],_,h,_,_,_,_=>absurd rfl h
 |_,[],_,h,_,_,_=>absurd rfl h
 |[x],[y],_,_,_,_,h=>by rw[show x=y from h]
 |[x],y::z::r,_,_,hl,_,h=>by
  have:c∈x:=by rw[show x=y++c::jn c (z::r) from h];simp
  exact absurd this (hl x (.head _))
 |x::z::r,[y],_,_,_,hm,h=>by
  have:c∈y:=by rw[←show x++c::jn c (z::r)=y from h];simp
  exact absurd this (hm y (.head _))
 |x::x'::r,y::y'::t,_,_,hl,hm,h=>by
  obtain⟨rfl,h'⟩:=CA (hl x (.head _)) (hm y (.head _)) (show x++c::jn c (x'::r)=y++c::jn c (y'::t) from h);rw[L5 (by simp) (by simp) (fun z hz=>hl z (.tail _ hz)) (fun z hz=>hm z (.tail _ hz)) h']
theorem II(hl:l≠[])(hc:∀x∈l,c∉x):(Txt.split (S (jn c l)) (S [c])).map (fun z=>z.cps.toList)=l:=by
 have h1:jn c ((Txt.split (S (jn c l)) (S [c])).map fun z=>z.cps.toList)=jn c l:=by
  rw[←GL,join_split];rfl
 refine L5 ?_ hl (fun x hx=>?_) hc h1
 ·intro h
  have h2:=List.map_eq_nil_iff.mp h;unfold Txt.split at h2
  split at h2
  ·cases h2
  ·split at h2
   ·cases h2
   ·rw[partsBetween_eq] at h2
    refine kK (partsFrom_ne (S (jn c l)) (S [c]).length 0 (Builtin.Str.occurrences (S (jn c l)) (S [c]) 0 (S (jn c l)).length ((S (jn c l)).length+1))) fun p r e=>?_;rw[e] at h2;cases h2
 ·refine aq (bH.mp hx) fun z hz bq=>?_;subst bq
  exact split_free (S (jn c l)) c z hz
theorem mj{l:List Tx}(hl:l≠[])(hc:∀x∈l,c∉x)(hs:(jn c l).length<10000):iq .split (.str (jn c l)) [.str [c]]=some (.ok (.list (l.map .str))):=by
 show(if[c]≠[]∧(jn c l).length+2≤sizeLine then iu (.list ((Txt.split (S (jn c l)) (S [c])).map fun z=>.str z.cps.toList)) else none)=_;rw[if_pos ⟨by simp,aa (aA (aJ (aE hs) _) (by decide))⟩];rw[show(Txt.split (S (jn c l)) (S [c])).map (fun z=>D.str z.cps.toList)=((Txt.split (S (jn c l)) (S [c])).map fun z=>z.cps.toList).map D.str by rw[bX];rfl,II hl hc];rfl
theorem ET{x y:Tx}:At (S x) (S y) (S x).length k↔k≤x.length∧y<+:x.drop k:=by
 unfold At;rw[subAt_eq];simp only[S,Str.length,bY,beq_iff_eq]
 constructor
 ·rintro⟨h1,h2⟩
  exact⟨(cL h1),by rw[←h2];exact List.take_prefix _ _⟩
 ·rintro⟨h0,h⟩
  refine⟨?_,(List.prefix_iff_eq_take.mp h).symm⟩;have:=h.length_le;rw[List.length_drop] at this
  lia
theorem IJ{P y Q:Tx}(hy:y≠[])(hP:∀k<P.length,¬y<+:P.drop k++y)(c:Nat)(hc:c∈y)(hQ:c∉Q)(hl:lit (P++y++Q)=true)(rH:lit y=true):(Txt.split (S (P++y++Q)) (S y)).map (fun z=>z.cps.toList)=[P,Q]:=by
 have hlen:(S (P++y++Q)).length=P.length+y.length+Q.length:=by simp[S,Str.length];exact Eq.symm (Nat.add_assoc _ _ _)
 have hy0:1≤y.length:=by cases y with|nil=>exact absurd rfl hy|cons _ _=>simp
 have Ru:(S y).length=y.length:=rfl;have kind:∀{x:Tx},lit x=true→Builtin.Str.strKind (S x)=1:=fun{x} h=>by
  unfold Builtin.Str.strKind;rw[if_pos ?_];rw[←iJ,bQ];intro c hc;have:=bQ.mp h c hc;simp only[decide_eq_true_eq] at this ⊢;exact aA (aE this) (by decide)
 have lo:∀k<P.length,¬At (S (P++y++Q)) (S y) (S (P++y++Q)).length k:=fun k hk h=>by
  have h2:=(ET.mp h).2;rw[bZ,List.drop_append_of_le_length (aZ hk)] at h2;refine hP k hk ?_;rw[←bZ] at h2;exact List.prefix_of_prefix_length_le h2 (List.prefix_append _ _) (by simp)
 have hi:∀k,P.length+y.length≤k→¬At (S (P++y++Q)) (S y) (S (P++y++Q)).length k:=fun k hk h=>by
  have h2:=(ET.mp h).2;have:c∈(P++y++Q).drop k:=h2.subset hc;rw[List.drop_append,List.drop_of_length_le (by simp;exact hk),eV] at this;exact hQ (List.mem_of_mem_drop this)
 have mid:At (S (P++y++Q)) (S y) (S (P++y++Q)).length P.length:=ET.mpr ⟨by simp,by rw[bZ,gJ];exact List.prefix_append _ _⟩;have occ:Builtin.Str.occurrences (S (P++y++Q)) (S y) 0 (S (P++y++Q)).length ((S (P++y++Q)).length+1)=[P.length]:=by
  refine aq (occ_tight (S (P++y++Q)) (S y) (by rw[Ru];exact hy0)) fun f h1 h2=>?_;generalize Builtin.Str.occurrences (S (P++y++Q)) (S y) 0 (S (P++y++Q)).length ((S (P++y++Q)).length+1)=YM at h1;cases YM with
  |nil=>exact absurd mid (h2 _ (by rw[show f=0 from h1];exact cS _))
  |cons a r=>
   obtain⟨_,ha,hn,hr⟩:=h1;have e1:a=P.length:=by
    rcases jU a P.length with h|h|h
    ·exact absurd ha (lo a h)
    ·exact h
    ·exact absurd mid (hn _ (cS _) h)
   subst e1;cases r with
   |nil=>rfl
   |cons b r=>
    refine AP hr fun hb uK _=>?_;exact absurd uK (hi b (by rw[Ru] at hb;exact hb))
 unfold Txt.split;rw[if_neg (by rw[kind hl,kind rH,hlen,Ru];simp;exact eS (aP _ _)),occ,if_neg (by simp),partsBetween_eq];simp only[partsFrom,aN,dK,strSub_toList,hlen,Ru];simp[S]
end Mine.Internal
namespace Mine.Internal
open PySem
noncomputable def isFault(z:Tx):Prop:=z=wq∨z=kX++xn∨z=wm
theorem cj.fault{r:Row}(h:cj r):r.fault=[]∨isFault r.fault:=by
 cases h with
 |M7=>exact .inr (.inl rfl)
 |bad=>exact .inr (.inr (.inl rfl))
 |br=>exact .inr (.inr (.inr rfl))
 |_=>exact .inl rfl
noncomputable def CB(x:Tx):Bool:=x.all fun c=>decide (48≤c)&&decide (c≤57)
theorem oN(h:n<100):CB (digits n)=true∧kR (digits n)=n∧lit (digits n)=true∧digits n≠[]:=by
 have:∀n<100,CB (digits n)=true∧kR (digits n)=n∧lit (digits n)=true∧digits n≠[]:=by decide
 exact this n h
theorem xC(h:CB x=true)(hc:c<48∨57<c):c∉x:=fun hm=>by
 have:=bQ.mp h c hm;simp only[cG,decide_eq_true_eq] at this
 lia
theorem ml(h:lit x=true)(h':lit y=true):lit (x++y)=true:=by unfold lit at *;rw[List.all_append,h,h'];rfl
noncomputable def k6(c:Nat):Tx:=[32,99,111,108,117,109,110,32]++digits c++[41]
theorem vG(z:Tx)(l c:Nat):ja z l c=(z++atT)++fa++(digits l++44::k6 c):=by simp[ja,k6,uh]
theorem y5{z:Tx}(h:isFault z):lit (z++atT)=true∧z≠[]∧z.length<60:=by
 rcases h with rfl|rfl|rfl<;>decide
theorem GN(hc:c<100)(h1:k<48∨57<k)(h2:k∉([32,99,111,108,117,109,110,32,41]:Tx)):k∉k6 c:=fun h=>by
 unfold k6 at h;simp only[cB,aO,dW,or_false] at h h2;rcases h with (h|h)|h
 ·lia
 ·exact xC (oN hc).1 h1 h
 ·lia
theorem pV(h:isFault z)(hl:l<100)(hc:c<100):lit (ja z l c)=true:=by
 rw[vG];refine ml (ml (y5 h).1 (by decide)) (ml (oN hl).2.2.1 ?_);show lit ([44]++k6 c)=true;exact ml (by decide) (ml (ml (by decide) (oN hc).2.2.1) (by decide))
theorem qH:ja z l c≠[]:=by rw[vG];simp
theorem L6(h:isFault z)(hl:l<100)(hc:c<100):(ja z l c).length<100:=by
 have h1:=bl hl;have h2:=bl hc;have h3:=(y5 h).2.2;rw[vG];have:k6 c=[32,99,111,108,117,109,110,32]++digits c++[41]:=rfl;simp[this,fa,atT];exact aA (aU (aE h3) (aJ (aU h1 (aJ h2 10)) 10)) (by decide)
theorem CC(h:isFault z)(hl:l<100)(hc:c<100):iq .split (.str (ja z l c)) [.str fa]=some (.ok (.list [.str (z++atT),.str (digits l++44::k6 c)])):=by
 have h1:=L6 h hl hc;have h2:=pV h hl hc;show(if fa≠[]∧(ja z l c).length+2≤sizeLine then iu (.list ((Txt.split (S (ja z l c)) (S fa)).map fun z=>.str z.cps.toList)) else none)=_;rw[if_pos ⟨by decide,aa (aA (aJ (aE h1) _) (by decide))⟩];rw[vG] at h2 ⊢;have hP:∀k<(z++atT).length,¬fa<+:(z++atT).drop k++fa:=by
  have go:∀P:Tx,((bW P.length).all fun k=>!fa.isPrefixOf (P.drop k++fa))=true→∀k<P.length,¬fa<+:P.drop k++fa:=fun P h k hk q=>by
   have:=bQ.mp h k (gI.mpr hk);rw[eL.mpr q] at this;cases this
  rcases h with rfl|rfl|rfl<;>exact go _ (by decide)
 have hQ:105∉digits l++44::k6 c:=fun hm=>by
  rcases cB.mp hm with hm|hm
  ·exact xC (oN hl).1 (by decide) hm
  ·rcases aO.mp hm with hm|hm
   ·lia
   ·exact GN hc (by decide) (by decide) hm
 have:=IJ (P:=z++atT) (y:=fa) (Q:=digits l++44::k6 c) (by decide) hP 105 (by decide) hQ h2 (by decide);rw[show(Txt.split (S (z++atT++fa++(digits l++44::k6 c))) (S fa)).map (fun z=>D.str z.cps.toList)=((Txt.split (S (z++atT++fa++(digits l++44::k6 c))) (S fa)).map fun z=>z.cps.toList).map D.str by rw[bX];rfl,this];rfl
theorem EU(hl:l<100)(hc:c<100):iq .split (.str (digits l++44::k6 c)) [.str [44]]=some (.ok (.list [.str (digits l),.str (k6 c)])):=by
 have h1:=bl hl;have h2:=bl hc;have:=mj (c:=44) (l:=[digits l,k6 c]) (by simp) (fun x hx=>by
  simp only[aO,dW,or_false] at hx;rcases hx with rfl|rfl
  ·exact xC (oN hl).1 (by decide)
  ·exact GN hc (by decide) (by decide)) (by
   have:k6 c=[32,99,111,108,117,109,110,32]++digits c++[41]:=rfl;simp[jn,this];exact aA (aU h1 (aJ h2 10)) (by decide))
 exact this
theorem vH(h:n<100):Mb .int (.str (digits n))=some (.ok (.int (n:Int))):=by
 have h1:=(oN h).2.1;show(if digits n=digits (kR (digits n))∧kR (digits n)<100000 then iu (.int (kR (digits n))) else none)=_;rw[h1,if_pos ⟨rfl,(aA (aE h) (by decide))⟩];rfl
noncomputable def gn:List Row→List Row
 |[]=>[]
 |r::rs=>if r.fault=[] then r::gn rs else rs
noncomputable def outs(rs:List Row):List Tx:=rs.flatMap Row.out
theorem sW:∀{rs:List Row} {l:Nat} {ts:List Tx},(∀r∈rs,r.fault=[])→cb rs l ts=(ts++outs rs,[])
 |[],l,ts,_=>by simp[cb,outs]
 |r::rs,l,ts,h=>by
  rw[show cb (r::rs) l ts=cb rs (b7 l r.ax) (ts++r.out) by simp[cb,h r (.head _)],sW fun y hy=>h y (.tail _ hy)];simp[outs]
theorem xD:∀{rs:List Row} {l:Nat},∀n∈g6 rs l,l<n
 |r::rs,l,n,h=>by
  have h0:l<b7 l r.ax:=by unfold b7;split<;>lia
  rcases aO.mp h with rfl|h
  ·exact h0
  ·exact Nat.lt_trans h0 (xD n h)
theorem pW:∀(rs:List Row) (l:Nat),(g6 rs l).length=rs.length
 |[],_=>rfl
 |r::rs,l=>by simp[g6,pW rs]
theorem GO:∀(rs:List Row) (ns:List Nat) (ln:Nat),ns.length=rs.length→(∀n∈ns,n≠ln)→((rs.zip ns).filter fun x=>decide (x.2≠ln)).map (·.1)=rs
 |[],ns,ln,_,_=>rfl
 |r::rs,[],ln,h,_=>by simp at h
 |r::rs,n::ns,ln,h,h2=>by
  rw[hO,aX (by simpa using h2 n (.head _)),aN,GO rs ns ln (by simpa using h) fun m hm=>h2 m (.tail _ hm)]
theorem n8:∀{rs:List Row} {l:Nat} {ts:List Tx},(¬∀r∈rs,r.fault=[])→∃r∈rs,∃ln,r.fault≠[]∧(cb rs l ts).2=ja r.fault ln (r.ahead.length+r.sign+2)∧l<ln∧ln≤l+3*rs.length∧((rs.zip (g6 rs l)).filter fun x=>decide (x.2≠ln)).map (·.1)=gn rs∧(gn rs).length+1=rs.length
 |[],l,ts,h=>absurd (fun r hr=>(nomatch hr)) h
 |r::rs,l,ts,h=>by
  have AK:l<b7 l r.ax∧b7 l r.ax≤l+3:=by unfold b7;split<;>lia
  by_cases hf:r.fault=[]
  ·obtain⟨r',Vd,ln,a1,a2,a3,a4,a5,a6⟩:=n8 (rs:=rs) (l:=b7 l r.ax) (ts:=ts++r.out) fun q=>h fun y hy=>by
    rcases aO.mp hy with rfl|hy
    ·exact hf
    ·exact q y hy
   refine⟨r',.tail _ Vd,ln,a1,by simpa [cb,hf] using a2,(aA (aP _ _) a3),by simp;lia,?_,by simp[gn,hf];exact a6⟩;show(((r,b7 l r.ax)::rs.zip (g6 rs (b7 l r.ax))).filter _).map _=_;rw[aX (by simp;exact bU a3),aN,a5];simp[gn,hf]
  ·refine⟨r,.head _,b7 l r.ax,hf,by simp[cb,hf],AK.1,by simp;exact aG AK.2 (aJ (aP _ _) _),?_,by simp[gn,hf]⟩
   show(((r,b7 l r.ax)::rs.zip (g6 rs (b7 l r.ax))).filter _).map _=_;rw[bD (by simp),GO rs _ _ (pW _ _) fun n hn=>iY (xD n hn)];simp[gn,hf]
theorem qI:∀{rs:List Row} {r:Row},r∈gn rs→r∈rs
 |r'::rs,r,h=>by
  unfold gn at h
  split at h
  ·rcases aO.mp h with rfl|h
   ·exact .head _
   ·exact .tail _ (qI h)
  ·exact .tail _ h
noncomputable def rF:Nat→List Row→List (List Tx×Tx)
 |0,_=>[]
 |n+1,rs=>if(cb rs 1 []).2=[] then[cb rs 1 []] else cb rs 1 []::rF n (gn rs)
theorem GP{g:Nat→Bool}{h:Nat→D}:∀l:List Nat,((l.map cq).filter (IF false fun k=>g k.toNat)).map (IF .none fun k=>h k.toNat)=(l.filter g).map h
 |[]=>rfl
 |n::l=>by
  have ih:=GP (g:=g) (h:=h) l;have e1:(IF false fun k=>g k.toNat) (cq n)=g n:=by show g ((n:Int).toNat)=_;rfl
  have e2:(IF D.none fun k=>h k.toNat) (cq n)=h n:=by show h ((n:Int).toNat)=_;rfl
  cases hq:g n with
  |true=>rw[aN,aX (by rw[e1];exact hq),aX hq,aN,aN,ih,e2]
  |false=>rw[aN,bD (by rw[e1,hq];simp),bD (by simp[hq]),ih]
theorem CD{q:Nat→Bool}:∀(b:List D) (a:List Nat),a.length=b.length→((bW b.length).filter fun k=>q (a.getD k 0)).map (fun k=>b.getD k .none)=((b.zip a).filter fun x=>q x.2).map (·.1)
 |[],a,_=>rfl
 |x::b,[],h=>by simp at h
 |x::b,n::a,h=>by
  have ih:=CD (q:=q) b a (by simpa using h);rw[bA,List.range_succ_eq_map,hO];cases hq:q n with
  |true=>
   rw[aX (by simpa using hq),aX (by simpa using hq),aN,aN,List.filter_map,bX];exact congrArg (x::·) ih
  |false=>
   rw[bD (by simpa using hq),bD (by simpa using hq),List.filter_map,bX];exact ih
theorem L7{q:Nat→Bool}:∀(rs:List Row) (a:List Nat),(((rs.map pr).zip a).filter fun x=>q x.2).map (·.1)=(((rs.zip a).filter fun x=>q x.2).map (·.1)).map pr
 |[],a=>rfl
 |r::rs,[]=>rfl
 |r::rs,n::a=>by
  have ih:=L7 (q:=q) rs a;rw[aN,hO,hO];cases hq:q n with
  |true=>rw[aX (by simpa using hq),aX (by simpa using hq),aN,aN,aN,ih]
  |false=>rw[bD (by simpa using hq),bD (by simpa using hq),ih]
section
variable{d:Nat}
noncomputable def RL:List PS:=[
 .unpack [4,5] (.call 15 [(.var 2)]),
 .unpack [6,7] (.call 16 [(.var 4)]),
 .append 1 (.tup [(.var 6),(.var 7)]),
 .gz (.cmp .eq (.var 7) (.a7 (.str []))) [
  .ret (.var 1)] [],
 .assign 8 (.dz .split (.var 7) [(.a7 (.str fa))]),
 .assign 9 (.ite (.cmp .eq (.fn .len (.var 8)) (.a7 (.int 2))) (.fn .int (.sub (.dz .split (.sub (.var 8) (.a7 (.int 1))) [(.a7 (.str [44]))]) (.a7 (.int 0)))) (.a7 (.int 0))),
 .assign 2 (.comp true 1 (.fn .len (.var 2)) (some (.cmp .ne (.sub (.var 5) (.cvar 1)) (.var 9))) (.sub (.var 2) (.cvar 1)))]
noncomputable def stM(x:D)(told:List D)(o2 o3 o4 o5 o6 o7 o8 o9:Option Slot):St:=⟨[some (.val x),some (.own told),o2,o3,o4,o5,o6,o7,o8,o9],[]⟩
theorem len_list{l:List D}(h:E1 G e σ (.list l) σ')(hl:l.length<1000):E1 G (.fn .len e) σ (.int (l.length:Int)) σ':=by
 refine E1.fn h (fun fs q=>by cases q) ?_;show(if l.length≤sizeLine then iu (.int (l.length:Int)) else none)=_;rw[if_pos (aa (aA (aE hl) (by decide)))];rfl
theorem IK{G:Gl}{x:D}{told:List D}{rs:List Row}{ns:List Nat}{ln:Nat}{o3 o4 o6 o7 o8:Option Slot}(hn:ns.length=rs.length)(hl:rs.length<100):
 E1 G (.comp true 1 (.fn .len (.var 2)) (some (.cmp .ne (.sub (.var 5) (.cvar 1)) (.var 9))) (.sub (.var 2) (.cvar 1))) (stM x told (some (.val (.list (rs.map pr)))) o3 o4 (some (.val (.list (ns.map cq)))) o6 o7 o8 (some (.val (.int (ln:Int)))))
  (.list ((((rs.zip ns).filter fun y=>decide (y.2≠ln)).map (·.1)).map pr)) (stM x told (some (.val (.list (rs.map pr)))) o3 o4 (some (.val (.list (ns.map cq)))) o6 o7 o8 (some (.val (.int (ln:Int))))):=by
 let ρ0:=(stM x told (some (.val (.list (rs.map pr)))) o3 o4 (some (.val (.list (ns.map cq)))) o6 o7 o8 (some (.val (.int (ln:Int))))).ρ
 have hc:∀y∈(bW rs.length).map cq,∀ρ:xQ,ρ=ρ0→∃d8:xQ,d8=ρ0∧Mc G (some (.cmp .ne (.sub (.var 5) (.cvar 1)) (.var 9))) ⟨ρ,[none,some y]⟩=some (.ok ((IF false fun k=>decide (ns.getD k.toNat 0≠ln)) y),⟨d8,[none,some y]⟩):=fun y hy ρ nh=>by
  subst nh;refine aq (bH.mp hy) fun k hk bq=>?_;subst bq;have hk:=gI.mp hk;have hs:tB (.list (ns.map cq)) (.int (k:Int))=some (.ok (.int (ns.getD k 0:Nat))):=qG rfl (aA (aG (aZ hk) (aE hl)) (by decide)) (by rw[dN,cW,aY (aT hk (bO (Eq.symm hn)))];rfl);have:=T1.cmp (G:=G) (E1.sub (a:=.var 5) (i:=.cvar 1) (σ:=⟨ρ0,[none,some (.int (k:Int))]⟩) (E1.val rfl rfl) (E1.cvar rfl) hs) (E1.val (i:=9) (d:=.int (ln:Int)) rfl rfl) (ne_int _ _);refine⟨ρ0,rfl,?_⟩;have e:((IF false fun k=>decide (ns.getD k.toNat 0≠ln)) (cq k))=(!(((ns.getD k 0:Nat):Int)==(ln:Int))):=by
   show decide (ns.getD ((k:Int).toNat) 0≠ln)=_;rw[cU]
   by_cases h:ns.getD k 0=ln
   ·rw[h];simp
   ·have h':((ns.getD k 0:Nat):Int)≠(ln:Int):=by lia
    rw[decide_eq_true h,beq_eq_false_iff_ne.mpr h'];rfl
  rw[e];exact this
 have he:∀y∈(bW rs.length).map cq,(IF false fun k=>decide (ns.getD k.toNat 0≠ln)) y=true→∀ρ:xQ,ρ=ρ0→∃d8:xQ,d8=ρ0∧E1 G (.sub (.var 2) (.cvar 1)) ⟨ρ,[none,some y]⟩ ((IF .none fun k=>(rs.map pr).getD k.toNat .none) y) ⟨d8,[none,some y]⟩:=fun y hy _ ρ nh=>by
  subst nh;refine aq (bH.mp hy) fun k hk bq=>?_;subst bq;have hk:=gI.mp hk;refine⟨ρ0,rfl,E1.sub (E1.val rfl rfl) (E1.cvar rfl) (qG rfl (aA (aG (aZ hk) (aE hl)) (by decide)) ?_)⟩;show _=some ((rs.map pr).getD ((k:Int).toNat) .none);rw[cU,cW,dN,aY hk];rfl
 have hi:E1 G (.fn .len (.var 2)) ⟨ρ0,[]⟩ (.int (rs.length:Int)) ⟨ρ0,[]⟩:=by
  have:=len_list (G:=G) (e:=.var 2) (l:=rs.map pr) (σ:=⟨ρ0,[]⟩) (E1.val rfl rfl) (by rw[aM];exact aA (aE hl) (by decide));rw[aM] at this;exact this
 refine aq (E1.comp (R:=fun ρ=>ρ=ρ0) hi (n6 (aG (aE hl) (by decide))) rfl hc he) fun d8 ay e=>?_;subst ay;have ep:=GP (g:=fun k=>decide (ns.getD k 0≠ln)) (h:=fun k=>(rs.map pr).getD k .none) (bW rs.length);have ez:=CD (q:=fun n=>decide (n≠ln)) (rs.map pr) ns (by rw[aM,hn]);rw[aM] at ez;exact Eq.mp (congrArg (fun l=>E1 G _ _ (.list l) _) (ep.trans (ez.trans (L7 (q:=fun n=>decide (n≠ln)) rs ns)))) e
end
section
variable{d:Nat}
noncomputable def stN(x:D)(told:List D)(rs:List Row)(o3 o8 o9:Option Slot):St:=stM x told (some (.val (.list (rs.map pr)))) o3 (some (.val (.str (91::10::body rs)))) (some (.val (.list ((g6 rs 1).map cq)))) (some (.val (.list ((cb rs 1 []).1.map .str)))) (some (.val (.str (cb rs 1 []).2))) o8 o9
theorem GQ{told:List D}{rs:List Row}{s2:Slot}(h2:s2.d=.list (rs.map pr))(h:∀r∈rs,cj r)(hl:rs.length≤20)(ht:told.length<100)
 (k:Xs (GG (d+4)) NF (RL.drop 3) (stN x (told++[pairD (cb rs 1 [])]) rs o3 o8 o9) m):
 Xs (GG (d+4)) NF RL (stM x told (some s2) o3 o4 o5 o6 o7 o8 o9) m:=by
 have e1:E1 (GG (d+4)) (.call 15 [(.var 2)]) (stM x told (some s2) o3 o4 o5 o6 o7 o8 o9) (.tup [.str (91::10::body rs),.list ((g6 rs 1).map cq)]) (stM x told (some (.val (.list (rs.map pr)))) o3 o4 o5 o6 o7 o8 o9):=by
  have:=E1.var (G:=(GG (d+4))) (i:=2) (σ:=stM x told (some s2) o3 o4 o5 o6 o7 o8 o9) (x:=s2) rfl;rw[h2] at this;exact E1.call (.one this) rfl (u2 (fun r hr=>(h r hr).nice) (aA hl (by decide)))
 have e2:E1 (GG (d+4)) (.call 16 [(.var 4)]) (stM x told (some (.val (.list (rs.map pr)))) o3 (some (.val (.str (91::10::body rs)))) (some (.val (.list ((g6 rs 1).map cq)))) o6 o7 o8 o9) (pairD (cb rs 1 [])) (stM x told (some (.val (.list (rs.map pr)))) o3 (some (.val (.str (91::10::body rs)))) (some (.val (.list ((g6 rs 1).map cq)))) o6 o7 o8 o9):=
  E1.call (.one (E1.val rfl rfl)) rfl (Bz h hl)
 refine Xs.cons (X1.unpack e1 rfl) (Xs.cons (X1.unpack e2 rfl) (Xs.cons (X1.append rfl (E1.tup (.cons (E1.val rfl rfl) (.one (E1.val rfl rfl))) (aa (by simp))) (pU (aA (aE ht) (by decide)))) k))
theorem sX(h:E1 G (.var i) σ (.str w) σ)(hl:lit w=true):T1 G (.cmp .eq (.var i) (.a7 (.str []))) σ (decide (w=[])) σ:=T1.cmp h E1.a7 (eq_str hl rfl)
theorem RM{told:List D}{rs:List Row}{s2:Slot}(h2:s2.d=.list (rs.map pr))(h:∀r∈rs,cj r)(hl:rs.length≤20)(ht:told.length<100)(hw:(cb rs 1 []).2=[]):
 ∃σ,Xs (GG (d+4)) NF RL (stM x told (some s2) o3 o4 o5 o6 o7 o8 o9) (some (.ok (.ret (.list (told++[pairD (cb rs 1 [])]))),σ)):=by
 have:=sX (G:=(GG (d+4))) (i:=7) (w:=(cb rs 1 []).2) (σ:=stN x (told++[pairD (cb rs 1 [])]) rs o3 o8 o9) (E1.val rfl rfl) (by rw[hw];rfl);rw[decide_eq_true hw] at this;exact⟨_,GQ h2 h hl ht (Xs.gz this (Xs.ret (E1.own rfl rfl)))⟩
theorem vI{r:Row}(h:cj r):r.ahead.length+r.sign+2<100:=by cases h<;>simp<;>lia
theorem RN{told:List D}{rs:List Row}{s2:Slot}(h2:s2.d=.list (rs.map pr))(h:∀r∈rs,cj r)(hl:rs.length≤20)(ht:told.length<100)(hw:¬∀r∈rs,r.fault=[]):
 ∃Ii S2 u5 S3 om uL,Xs (GG (d+4)) NF RL (stM x told (some s2) o3 o4 o5 o6 o7 o8 o9) (some (.ok .next,stM x (told++[pairD (cb rs 1 [])]) (some (.own ((gn rs).map pr))) o3 Ii S2 u5 S3 om uL)):=by
 obtain⟨r,hr,ln,a1,a2,a3,a4,a5,a6⟩:=n8 (rs:=rs) (l:=1) (ts:=[]) hw;have hf:=(h r hr).fault.resolve_left a1;have hc:=vI (h r hr);generalize aB6:r.ahead.length+r.sign+2=col at *;have Vn:ln<100:=(aA (aG a4 (bI (bM _ hl) _)) (by decide));have hs:iq .split (.str (cb rs 1 []).2) [.str fa]=some (.ok (.list [.str (r.fault++atT),.str (digits ln++44::k6 col)])):=by rw[a2];exact CC hf Vn hc
 have Z0:=sX (G:=(GG (d+4))) (i:=7) (w:=(cb rs 1 []).2) (σ:=stN x (told++[pairD (cb rs 1 [])]) rs o3 o8 o9) (E1.val rfl rfl) (by rw[a2];exact pV hf Vn hc);rw[decide_eq_false (by rw[a2];exact qH)] at Z0
 let om:Slot:=.val (.list [.str (r.fault++atT),.str (digits ln++44::k6 col)])
 have e8:X1 (GG (d+4)) NF (.assign 8 (.dz .split (.var 7) [(.a7 (.str fa))])) (stN x (told++[pairD (cb rs 1 [])]) rs o3 o8 o9) (stN x (told++[pairD (cb rs 1 [])]) rs o3 (some om) o9):=X1.assign (E1.dz (E1.val rfl rfl) (.one E1.a7) hs);have hlen:E1 (GG (d+4)) (.fn .len (.var 8)) (stN x (told++[pairD (cb rs 1 [])]) rs o3 (some om) o9) (.int 2) (stN x (told++[pairD (cb rs 1 [])]) rs o3 (some om) o9):=len_list (l:=[.str (r.fault++atT),.str (digits ln++44::k6 col)]) (E1.val rfl rfl) (by simp);have hint:E1 (GG (d+4)) (.fn .int (.sub (.dz .split (.sub (.var 8) (.a7 (.int 1))) [(.a7 (.str [44]))]) (.a7 (.int 0)))) (stN x (told++[pairD (cb rs 1 [])]) rs o3 (some om) o9) (.int (ln:Int)) (stN x (told++[pairD (cb rs 1 [])]) rs o3 (some om) o9):=
  E1.fn (E1.sub (E1.dz (E1.sub (x:=.list [.str (r.fault++atT),.str (digits ln++44::k6 col)]) (E1.val rfl rfl) E1.a7 rfl) (.one E1.a7) (EU Vn hc)) E1.a7 rfl) (fun fs q=>by cases q) (vH Vn)
 have e9:X1 (GG (d+4)) NF (.assign 9 (.ite (.cmp .eq (.fn .len (.var 8)) (.a7 (.int 2))) (.fn .int (.sub (.dz .split (.sub (.var 8) (.a7 (.int 1))) [(.a7 (.str [44]))]) (.a7 (.int 0)))) (.a7 (.int 0)))) (stN x (told++[pairD (cb rs 1 [])]) rs o3 (some om) o9) (stN x (told++[pairD (cb rs 1 [])]) rs o3 (some om) (some (.val (.int (ln:Int))))):=
  X1.assign (E1.ite (t:=true) (T1.cmp hlen E1.a7 (eq_int _ _)) hint)
 have ec:=IK (G:=(GG (d+4))) (x:=x) (told:=told++[pairD (cb rs 1 [])]) (rs:=rs) (ns:=g6 rs 1) (ln:=ln) (o3:=o3) (o4:=some (.val (.str (91::10::body rs)))) (o6:=some (.val (.list ((cb rs 1 []).1.map .str)))) (o7:=some (.val (.str (cb rs 1 []).2))) (o8:=some om) (pW rs 1) (aA hl (by decide));rw[a5] at ec;exact⟨_,_,_,_,_,_,GQ h2 h hl ht (Xs.cons (X1.skip Z0) (Xs.cons e8 (Xs.cons e9 (Xs.one (X1.assign ec)))))⟩
theorem L8:∀{items:List D} {told:List D} {rs:List Row} {s2:Slot} {o3 o4 o5 o6 o7 o8 o9:Option Slot},s2.d=.list (rs.map pr)→(∀r∈rs,cj r)→rs.length≤20→told.length+items.length<100→rs.length<items.length→
 ∃σ,forM true [3] (cx (GG (d+4)) NF RL) items (stM x told (some s2) o3 o4 o5 o6 o7 o8 o9)=some (.ok (.ret (.list (told++(rF items.length rs).map pairD))),σ)
 |[],told,rs,s2,o3,o4,o5,o6,o7,o8,o9,h2,h,hl,ht,hi=>by simp at hi
 |y::items,told,rs,s2,o3,o4,o5,o6,o7,o8,o9,h2,h,hl,ht,hi=>by
  rw[jb (show bindTo true [3] y (stM x told (some s2) o3 o4 o5 o6 o7 o8 o9)=some (stM x told (some s2) (some (.val y)) o4 o5 o6 o7 o8 o9) from rfl)]
  by_cases hw:∀r∈rs,r.fault=[]
  ·have e0:(cb rs 1 []).2=[]:=by rw[sW hw]
   obtain⟨σ,e⟩:=RM (d:=d) (x:=x) (told:=told) (o3:=some (.val y)) (o4:=o4) (o5:=o5) (o6:=o6) (o7:=o7) (o8:=o8) (o9:=o9) h2 h hl (aA (aP _ _) ht) e0;refine⟨σ,?_⟩;rw[show cx (GG (d+4)) NF RL _=_ from e];rw[bA,rF,if_pos e0];rfl
  ·obtain⟨Ii,S2,u5,S3,om,uL,e⟩:=RN (d:=d) (x:=x) (told:=told) (o3:=some (.val y)) (o4:=o4) (o5:=o5) (o6:=o6) (o7:=o7) (o8:=o8) (o9:=o9) h2 h hl (aA (aP _ _) ht) hw
   obtain⟨r,hr,ln,a1,a2,a3,a4,a5,a6⟩:=n8 (rs:=rs) (l:=1) (ts:=[]) hw;obtain⟨σ,e'⟩:=L8 (x:=x) (items:=items) (told:=told++[pairD (cb rs 1 [])]) (rs:=gn rs) (s2:=.own ((gn rs).map pr)) (o3:=some (.val y)) (o4:=Ii) (o5:=S2) (o6:=u5) (o7:=S3) (o8:=om) (o9:=uL) rfl (fun q hq=>h q (qI hq)) (fQ (aG (bO a6) hl)) (by simp;exact aA (bO (cC _ _ _)) ht) (fC (aA (bO a6) hi));refine⟨σ,?_⟩;rw[show cx (GG (d+4)) NF RL _=_ from e];refine hH e' ?_;rw[bA,rF,if_neg (by rw[a2];exact qH),aN,bZ];rfl
theorem Xs.GR{G:Gl}{n:Nat}{rng one:Bool}{is:List Nat}{iter:PE}{b r:List PS}{x y:D}{items:List D}{σ σ1 σ':St}(hi:E1 G iter σ x σ1)(hx:lg rng x=some items)(h:forM one is (cx G n b) items σ1=some (.ok (.ret y),σ')):Xs G n (.kc rng one is iter b::r) σ (some (.ok (.ret y),σ')):=by
 have e:A3 G n (.kc rng one is iter b) σ=some (.ok (.ret y),σ'):=by
  refine(af hi).trans ?_;unfold tD;rw[hx];exact cu h
 exact(af e).trans rfl
theorem EV{rs:List Row}(h:∀r∈rs,cj r)(hl:rs.length≤20):runK (GG (d+4)) (1,10,nq) [.list (rs.map pr)]=some (.ok (.list ((rF (rs.length+1) rs).map pairD))):=by
 obtain⟨σ,e⟩:=L8 (d:=d) (x:=.list (rs.map pr)) (items:=(bW (rs.length+1)).map fun(k:Nat)=>D.int k) (told:=[]) (rs:=rs) (s2:=.val (.list (rs.map pr))) (o3:=none) (o4:=none) (o5:=none) (o6:=none) (o7:=none) (o8:=none) (o9:=none) rfl h hl (by simp;exact aA (aJ hl _) (by decide)) (by simp);rw[aM,fP,eV] at e;have e0:=len_list (G:=(GG (d+4))) (e:=.var 0) (l:=rs.map pr) (σ:=stM (.list (rs.map pr)) [] (some (.val (.list (rs.map pr)))) none none none none none none none) (E1.val rfl rfl) (by rw[aM];exact aA hl (by decide));rw[aM] at e0;have e1:E1 (GG (d+4)) (.bin .add (.fn .len (.var 0)) (.a7 (.int 1))) (stM (.list (rs.map pr)) [] (some (.val (.list (rs.map pr)))) none none none none none none none) (.int ((rs.length+1:Nat):Int)) (stM (.list (rs.map pr)) [] (some (.val (.list (rs.map pr)))) none none none none none none none):=E1.bin e0 E1.a7 (add_one _);exact cz rfl (Xs.cons (X1.of rfl) (Xs.cons (X1.assign (E1.val rfl rfl)) (Xs.GR e1 (n6 (aG (aJ hl _) (by decide))) e)))
end
structure M3 where
 ts:List Tx
 w:Tx
 l:Nat
 f:Nat
noncomputable def oV(a:M3)(k:Nat)(r:Row):M3:=if a.w=[] then⟨a.ts++r.out,if r.fault=[] then[] else ja r.fault (b7 a.l r.ax) (r.ahead.length+r.sign+2),b7 a.l r.ax,if r.fault=[] then a.f else k⟩ else a
noncomputable def kf:M3→Nat→List Row→M3
 |a,_,[]=>a
 |a,k,r::rs=>kf (oV a k r) (k+1) rs
theorem y6:∀{rs:List Row} {a:M3} {k:Nat},a.w≠[]→kf a k rs=a
 |[],a,k,_=>rfl
 |r::rs,a,k,h=>by
  rw[kf,show oV a k r=a by unfold oV;rw[if_neg h]];exact y6 h
theorem vJ:∀{rs:List Row} {ts:List Tx} {l k n:Nat},(kf ⟨ts,[],l,n⟩ k rs).ts=(cb rs l ts).1∧(kf ⟨ts,[],l,n⟩ k rs).w=(cb rs l ts).2∧((¬∀r∈rs,r.fault=[])→∃a r b,rs=a++r::b∧(kf ⟨ts,[],l,n⟩ k rs).f=k+a.length∧gn rs=a++b)
 |[],ts,l,k,n=>⟨rfl,rfl,fun h=>absurd (fun r hr=>(nomatch hr)) h⟩
 |r::rs,ts,l,k,n=>by
  by_cases hf:r.fault=[]
  ·refine AP (vJ (rs:=rs) (ts:=ts++r.out) (l:=b7 l r.ax) (k:=k+1) (n:=n)) fun h1 h2 h3=>?_
   have e:oV ⟨ts,[],l,n⟩ k r=⟨ts++r.out,[],b7 l r.ax,n⟩:=by unfold oV;simp[hf]
   rw[kf,e,show cb (r::rs) l ts=cb rs (b7 l r.ax) (ts++r.out) by simp[cb,hf]];refine⟨h1,h2,fun h=>?_⟩;obtain⟨a,r',b,e1,e2,e3⟩:=h3 fun q=>h fun y hy=>by
    rcases aO.mp hy with rfl|hy
    ·exact hf
    ·exact q y hy
   exact⟨r::a,r',b,by rw[e1];rfl,by rw[e2];simp;exact cC _ _ _,by simp[gn,hf,e3]⟩
  ·have e:oV ⟨ts,[],l,n⟩ k r=⟨ts++r.out,ja r.fault (b7 l r.ax) (r.ahead.length+r.sign+2),b7 l r.ax,k⟩:=by unfold oV;simp[hf]
   rw[kf,e,y6 qH,show cb (r::rs) l ts=(ts++r.out,ja r.fault (b7 l r.ax) (r.ahead.length+r.sign+2)) by simp[cb,hf]];exact⟨rfl,rfl,fun _=>⟨[],r,rs,rfl,rfl,by simp[gn,hf]⟩⟩
section
variable{G:Gl}
noncomputable def L9:List PS:=[
 .unpack [9,10,11,12,13,14] (.sub (.var 2) (.var 8)),
 .gz (.cmp .eq (.var 5) (.a7 (.str []))) [
  .aug 6 (.ite (.cmp .eq (.var 14) (.a7 (.int 2))) (.a7 (.int 3)) (.a7 (.int 1))),
  .aug 4 (.ite (.var 11) (.bin .add (.list [(.bin .add (.var 9) (.sub (.var 11) (.a7 (.int 0))))]) (.slice (.var 11) (.a7 (.int 1)) (.a7 .none))) (.list [])),
  .gz (.var 12) [
   .assign 5 (.bin .add (.bin .add (.bin .add (.bin .add (.bin .add (.var 12) (.a7 (.str (atT++fa)))) (.fn .str (.var 6))) (.a7 (.str uh))) (.fn .str (.bin .add (.bin .add (.fn .len (.var 9)) (.var 13)) (.a7 (.int 2))))) (.a7 (.str [41]))),
   .assign 7 (.var 8)] []] []]
noncomputable def uF(x:D)(told:List D)(rest:List D)(o3:Option Slot)(a:M3)(o8:Option Slot)(o:List (Option Slot)):St:=⟨[some (.val x),some (.own told),some (.val (.list rest)),o3,some (.own (a.ts.map .str)),some (.val (.str a.w)),some (.val (cq a.l)),some (.val (cq a.f)),o8]++o,[]⟩
noncomputable def oh(r:Row):List (Option Slot):=[some (.val (.str r.ahead)),some (.val (.str r.tail)),some (.val (.list (r.parts.map .str))),some (.val (.str r.fault)),some (.val (cq r.sign)),some (.val (cq r.ax))]
theorem cj.La{r:Row}(h:cj r):r.ahead.length≤14∧r.parts.length≤2∧(∀p∈r.parts,p.length≤40)∧r.sign≤3∧r.fault.length<60:=by
 cases h with
 |plain h1 h2 h3 h4 h5=>exact⟨h3,by simp,by simpa using h4,by simp,by simp⟩
 |_ h1 h2 h3=>exact⟨h2,by simp,by simp,by simp,by simp[wq,kX,xn,wm]⟩
theorem Lb{ds es:List D}{σ:St}(h:ds.length+es.length<1000):A2 i (.own ds) (.list es) σ=some (.ok .next,σ.put i (.own (ds++es))):=by
 exact if_pos (aa (aA (aE h) (by decide)))
theorem OE{i:Int}(h:0≤i∧i<10000):Mb .str (.int i)=some (.ok (.str (digits i.toNat))):=if_pos h
theorem GU(h:E1 G e σ (cq n) σ')(hn:n<10000):E1 G (.fn .str e) σ (.str (digits n)) σ':=by
 exact E1.fn h (fun fs q=>by cases q) (OE (by lia))
theorem len_str{x:Tx}(h:E1 G e σ (.str x) σ')(hl:x.length<1000):E1 G (.fn .len e) σ (cq x.length) σ':=by
 exact E1.fn h (fun fs q=>by cases q) (LG (aa (aA (aE hl) (by decide))))
theorem zm(a b:Nat):rP .add (cq a) (cq b)=some (.ok (cq (a+b))):=by
 show some (R.ok (D.int ((a:Int)+(b:Int))))=_;unfold cq;rfl
theorem OF{σ:St}:A2 i (.val (cq a)) (cq b) σ=some (.ok .next,σ.put i (.val (cq (a+b)))):=by
 have h:=zm a b;unfold cq at h ⊢;show(Mo.of (rP .add (.int (a:Int)) (.int (b:Int))) σ).bind (fun z σ=>Mo.ok Fl.next (σ.put i (.val z)))=_;rw[h];rfl
theorem uG{r:Row}(h:cj r):(r.out).length≤2∧(r.ahead++r.parts.headD []).length≤60:=by
 obtain⟨h1,h2,h3,_,_⟩:=h.La;unfold Row.out;cases hp:r.parts with
 |nil=>simp;exact aG h1 (by decide)
 |cons p ps=>
  rw[hp] at h2 h3;have:=h3 p (.head _);simp at h2 ⊢;exact And.intro h2 (aG (aU h1 this) (by decide))
theorem Tz{r:Row}(h:cj r)(h9:E1 G (.var 9) σ (.str r.ahead) σ)(QP:E1 G (.var 11) σ (.list (r.parts.map .str)) σ)(t11:T1 G (.var 11) σ (!r.parts.isEmpty) σ):
 E1 G (.ite (.var 11) (.bin .add (.list [(.bin .add (.var 9) (.sub (.var 11) (.a7 (.int 0))))]) (.slice (.var 11) (.a7 (.int 1)) (.a7 .none))) (.list [])) σ (.list (r.out.map .str)) σ:=by
 refine E1.ite t11 ?_;obtain⟨h1,h2,h3,_,_⟩:=h.La;unfold Row.out;cases hp:r.parts with
 |nil=>exact E1.list .nil (aa (by simp))
 |cons p ps=>
  rw[hp] at QP h2 h3;have hp1:=h3 p (.head _);have hs:km (.list ((p::ps).map .str)) (.int 1) .none=some (.ok (.list (ps.map .str))):=by
   simp only[bA] at h2
   match ps,h2 with
   |[],_=>rfl
   |[q],_=>rfl
  refine E1.bin (E1.list (.one (E1.bin h9 (E1.sub QP E1.a7 rfl) (add_str (aA (aU h1 hp1) (by decide))))) (aa (by simp))) (E1.slice QP E1.a7 E1.a7 hs) ?_;simp only[bA] at h2;show(if[D.str (r.ahead++p)].length+(ps.map D.str).length≤sizeLine then iu (.list ([D.str (r.ahead++p)]++ps.map D.str)) else none)=_;rw[if_pos (aa (by simp;lia))];rfl
end
section
variable{G:Gl}
theorem IL{x:Tx}(h:x.length<1000):kM (.str x)=some (!x.isEmpty):=by
 show(if x.length≤sizeLine then some (!x.isEmpty) else none)=_;rw[if_pos (aa (aA (aE h) (by decide)))]
theorem RO{r:Row}:
 X1 G NF (.aug 6 (.ite (.cmp .eq (.var 14) (.a7 (.int 2))) (.a7 (.int 3)) (.a7 (.int 1)))) (uF x told rest o3 ⟨ts,[],l,f⟩ o8 (oh r)) (uF x told rest o3 ⟨ts,[],b7 l r.ax,f⟩ o8 (oh r)):=by
 have h:E1 G (.ite (.cmp .eq (.var 14) (.a7 (.int 2))) (.a7 (.int 3)) (.a7 (.int 1))) (St.hide (uF x told rest o3 ⟨ts,[],l,f⟩ o8 (oh r)) 6) (cq (if r.ax=2 then 3 else 1)) (St.hide (uF x told rest o3 ⟨ts,[],l,f⟩ o8 (oh r)) 6):=by
  refine E1.ite (T1.cmp (E1.val rfl rfl) E1.a7 (eq_int _ _)) ?_
  by_cases h:r.ax=2
  ·rw[if_pos h,if_pos (by rw[h];rfl)];exact E1.a7
  ·rw[if_neg h,if_neg (by simp;lia)];exact E1.a7
 exact X1.aug rfl h OF
theorem RP{ts:List Tx}{r:Row}(h:cj r)(ht:ts.length<900):
 X1 G NF (.aug 4 (.ite (.var 11) (.bin .add (.list [(.bin .add (.var 9) (.sub (.var 11) (.a7 (.int 0))))]) (.slice (.var 11) (.a7 (.int 1)) (.a7 .none))) (.list []))) (uF x told rest o3 ⟨ts,[],l,f⟩ o8 (oh r)) (uF x told rest o3 ⟨ts++r.out,[],l,f⟩ o8 (oh r)):=by
 have hl:=h.La;have ho:=(uG h).1;have e:=Tz (G:=G) h (σ:=St.hide (uF x told rest o3 ⟨ts,[],l,f⟩ o8 (oh r)) 4) (E1.val rfl rfl) (E1.val rfl rfl) (T1.var rfl ((jo (by rw[aM];exact aA hl.2.1 (by decide))).trans (by cases r.parts<;>rfl)));refine X1.aug rfl e ?_;rw[Lb (by simp;lia),←bR];rfl
theorem OG{r:Row}(h:cj r)(hl:l<100):
 X1 G NF (.gz (.var 12) [
  .assign 5 (.bin .add (.bin .add (.bin .add (.bin .add (.bin .add (.var 12) (.a7 (.str (atT++fa)))) (.fn .str (.var 6))) (.a7 (.str uh))) (.fn .str (.bin .add (.bin .add (.fn .len (.var 9)) (.var 13)) (.a7 (.int 2))))) (.a7 (.str [41]))),
  .assign 7 (.var 8)] []) (uF x told rest o3 ⟨ts,[],l,f⟩ (some (.val (cq k))) (oh r)) (uF x told rest o3 ⟨ts,if r.fault=[] then[] else ja r.fault l (r.ahead.length+r.sign+2),l,if r.fault=[] then f else k⟩ (some (.val (cq k))) (oh r)):=by
 obtain⟨h1,h2,h3,h4,h5⟩:=h.La;have t:T1 G (.var 12) (uF x told rest o3 ⟨ts,[],l,f⟩ (some (.val (cq k))) (oh r)) (!r.fault.isEmpty) (uF x told rest o3 ⟨ts,[],l,f⟩ (some (.val (cq k))) (oh r)):=T1.var rfl (IL (aA (aE h5) (by decide)))
 by_cases hf:r.fault=[]
 ·rw[if_pos hf,if_pos hf]
  rw[hf] at t;exact X1.skip t
 ·rw[if_neg hf,if_neg hf]
  refine X1.gz (t:=true) (by rw[show true=!r.fault.isEmpty by cases hr:r.fault with|nil=>exact absurd hr hf|cons _ _=>rfl];exact t) ?_;have d1:=bl hl;have hc:r.ahead.length+r.sign+2<100:=(aA (aJ (aU h1 h4) _) (by decide));have d2:=bl hc;have e:ja r.fault l (r.ahead.length+r.sign+2)=(((((r.fault++(atT++fa))++digits l)++uh)++digits (r.ahead.length+r.sign+2))++[41]):=by simp[ja]
  rw[e];have la:(atT++fa).length=10:=rfl;have lc:uh.length=9:=rfl;have hn:E1 G (.bin .add (.bin .add (.fn .len (.var 9)) (.var 13)) (.a7 (.int 2))) (uF x told rest o3 ⟨ts,[],l,f⟩ (some (.val (cq k))) (oh r)) (cq (r.ahead.length+r.sign+2)) (uF x told rest o3 ⟨ts,[],l,f⟩ (some (.val (cq k))) (oh r)):=
   E1.bin (E1.bin (len_str (E1.val rfl rfl) (aA h1 (by decide))) (E1.val rfl rfl) (zm _ _)) (E1.a7 (d:=cq 2)) (zm _ _)
  have h5:E1 G (.bin .add (.bin .add (.bin .add (.bin .add (.bin .add (.var 12) (.a7 (.str (atT++fa)))) (.fn .str (.var 6))) (.a7 (.str uh))) (.fn .str (.bin .add (.bin .add (.fn .len (.var 9)) (.var 13)) (.a7 (.int 2))))) (.a7 (.str [41]))) (uF x told rest o3 ⟨ts,[],l,f⟩ (some (.val (cq k))) (oh r)) (.str (((((r.fault++(atT++fa))++digits l)++uh)++digits (r.ahead.length+r.sign+2))++[41])) (uF x told rest o3 ⟨ts,[],l,f⟩ (some (.val (cq k))) (oh r)):=
   E1.bin (E1.bin (E1.bin (E1.bin (E1.bin (E1.val rfl rfl) E1.a7 (add_str (by rw[la];exact aA (aJ (aE h5) _) (by decide)))) (GU (n:=l) (E1.val rfl rfl) (aA (aE hl) (by decide))) (add_str (by rw[aV,la];exact aA (aU (aJ (aE h5) _) d1) (by decide)))) E1.a7 (add_str (by rw[aV,aV,la,lc];exact aA (aJ (aU (aJ (aE h5) _) d1) _) (by decide)))) (GU hn (aA (aE hc) (by decide))) (add_str (by rw[aV,aV,aV,la,lc];exact aA (aU (aJ (aU (aJ (aE h5) _) d1) _) d2) (by decide)))) E1.a7 (add_str (by rw[aV,aV,aV,aV,la,lc];simp;exact aA (aJ (aU (aJ (aU (aJ (aE h5) _) d1) _) d2) _) (by decide)))
  exact Xs.cons (X1.assign h5) (Xs.one (X1.assign (E1.val rfl rfl)))
theorem RQ{rs:List Row}{a:M3}(hk:rs[k]?=some r)(h:cj r)(hl:a.l<90)(ht:a.ts.length<900)(hw:lit a.w=true)(Sj:k<100):
 Xs G NF L9 (uF x told (rs.map bg) o3 a (some (.val (cq k))) [o9,o10,o11,o12,o13,o14]) (some (.ok .next,uF x told (rs.map bg) o3 (oV a k r) (some (.val (cq k))) (oh r))):=by
 have e1:X1 G NF (.unpack [9,10,11,12,13,14] (.sub (.var 2) (.var 8))) (uF x told (rs.map bg) o3 a (some (.val (cq k))) [o9,o10,o11,o12,o13,o14]) (uF x told (rs.map bg) o3 a (some (.val (cq k))) (oh r)):=
  X1.unpack (E1.sub (E1.val rfl rfl) (E1.val rfl rfl) (qG rfl (aA (aE Sj) (by decide)) (by rw[dN,hk];rfl))) rfl
 refine Xs.cons e1 ?_;have t:=sX (G:=G) (i:=5) (w:=a.w) (σ:=uF x told (rs.map bg) o3 a (some (.val (cq k))) (oh r)) (E1.val rfl rfl) hw;obtain⟨ts,w,l,f⟩:=a;unfold oV;dsimp only at *
 by_cases YN:w=[]
 ·subst YN
  rw[if_pos rfl];have AK:b7 l r.ax≤l+3:=by unfold b7;split<;>lia
  exact Xs.one (X1.gz t (Xs.cons RO (Xs.cons (RP h ht) (Xs.one (OG h (aA (aG AK (aJ (aE hl) _)) (by decide)))))))
 ·rw[if_neg YN]
  rw[decide_eq_false YN] at t;exact Xs.one (X1.skip t)
end
section
variable{G:Gl}
structure OH(a:M3)(m:Nat):Prop where
 l:a.l+3*m<85
 t:a.ts.length+2*m<800
 w:lit a.w=true
theorem OH.step(A:OH a (m+1))(h:cj r):OH (oV a k r) m:=by
 have h1:=A.l;have h2:=A.t;have h3:=(uG h).1;have AK:b7 a.l r.ax≤a.l+3:=by unfold b7;split<;>lia
 unfold oV
 split
 ·refine⟨by dsimp only;lia,by simp;lia,?_⟩
  dsimp only
  split
  ·rfl
  ·rename_i hf
   exact pV (h.fault.resolve_left hf) (by lia) (vI h)
 ·exact⟨(aA (bI (aP _ _) _) h1),(aA (bI (aP _ _) _) h2),A.w⟩
theorem Lc{rs:List Row}(h:∀r∈rs,cj r)(hl:rs.length≤20):∀{rem pre:List Row} {a:M3} {o8 o9 o10 o11 o12 o13 o14:Option Slot},rs=pre++rem→OH a rem.length→
 ∃om uL mP mQ mR mS mT,forM true [8] (cx G NF L9) ((cY pre.length rem.length).map cq) (uF x told (rs.map bg) o3 a o8 [o9,o10,o11,o12,o13,o14])=some (.ok .next,uF x told (rs.map bg) o3 (kf a pre.length rem) om [uL,mP,mQ,mR,mS,mT])
 |[],pre,a,o8,o9,o10,o11,o12,o13,o14,_,_=>⟨o8,o9,o10,o11,o12,o13,o14,rfl⟩
 |r::rem,pre,a,o8,o9,o10,o11,o12,o13,o14,e,A=>by
  have hr:=h r (by rw[e];simp);have hlen:pre.length<20:=by rw[e] at hl;simp at hl;exact aT (cV (aP _ _)) hl
  have e1:=RQ (G:=G) (x:=x) (told:=told) (rs:=rs) (o3:=o3) (o9:=o9) (o10:=o10) (o11:=o11) (o12:=o12) (o13:=o13) (o14:=o14) (a:=a) (k:=pre.length) (r:=r) (by rw[e];simp) hr (by have:=A.l;exact cV (cL (aG (aZ this) (by decide)))) (by have:=A.t;exact cV (cL (aG (aZ this) (by decide)))) A.w (aA (aE hlen) (by decide));obtain⟨om,uL,mP,mQ,mR,mS,mT,e2⟩:=Lc (x:=x) (told:=told) (o3:=o3) h hl (rem:=rem) (pre:=pre++[r]) (a:=oV a pre.length r) (o8:=some (.val (cq pre.length))) (o9:=some (.val (.str r.ahead))) (o10:=some (.val (.str r.tail))) (o11:=some (.val (.list (r.parts.map .str)))) (o12:=some (.val (.str r.fault))) (o13:=some (.val (cq r.sign))) (o14:=some (.val (cq r.ax))) (by rw[e];simp) (A.step hr);refine⟨om,uL,mP,mQ,mR,mS,mT,?_⟩;rw[bA,List.range'_succ,aN];rw[jb (show bindTo true [8] (cq pre.length) (uF x told (rs.map bg) o3 a o8 [o9,o10,o11,o12,o13,o14])=some (uF x told (rs.map bg) o3 a (some (.val (cq pre.length))) [o9,o10,o11,o12,o13,o14]) from rfl)];rw[show cx G NF L9 _=_ from e1];rw[aV,List.length_singleton] at e2;exact e2
theorem Ld{x:List D}(h:j≤x.length)(hl:x.length<1000):km (.list x) .none (.int (j:Int))=some (.ok (.list (x.take j))):=by
 show(if x.length≤sizeLine then(match dq none 0 x.length,dq (some (j:Int)) x.length x.length with|some i,some j=>iu (.list (cut i j x))|_,_=>none) else none)=_;rw[if_pos (aa (aA (aE hl) (by decide)))];have e1:dq none 0 x.length=some 0:=rfl;have e2:dq (some (j:Int)) x.length x.length=some j:=by simp[dq];lia
 rw[e1,e2];rfl
theorem Le{x:List D}(h:j≤x.length)(hl:x.length<1000):km (.list x) (.int (j:Int)) .none=some (.ok (.list (x.drop j))):=by
 show(if x.length≤sizeLine then(match dq (some (j:Int)) 0 x.length,dq none x.length x.length with|some i,some j=>iu (.list (cut i j x))|_,_=>none) else none)=_;rw[if_pos (aa (aA (aE hl) (by decide)))];have e1:dq none x.length x.length=some x.length:=rfl;have e2:dq (some (j:Int)) 0 x.length=some j:=by simp[dq];lia
 rw[e1,e2];show some (R.ok (D.list (cut j x.length x)))=_;unfold cut;rw[cK (by simp)]
end
section
variable{G:Gl}
noncomputable def RR:List PS:=[
 .assign 4 (.list []),
 .assign 5 (.a7 (.str [])),
 .assign 6 (.a7 (.int 1)),
 .assign 7 (.fn .len (.var 2)),
 .kc true true [8] (.fn .len (.var 2)) L9,
 .append 1 (.tup [(.var 4),(.var 5)]),
 .gz (.cmp .eq (.var 5) (.a7 (.str []))) [
  .ret (.var 1)] [],
 .assign 2 (.bin .add (.slice (.var 2) (.a7 .none) (.var 7)) (.slice (.var 2) (.bin .add (.var 7) (.a7 (.int 1))) (.a7 .none)))]
noncomputable def zp(x:D)(told rest:List D)(o:List (Option Slot)):St:=⟨[some (.val x),some (.own told),some (.val (.list rest))]++o,[]⟩
noncomputable def tO(o3:Option Slot)(a:M3)(o8:Option Slot)(o:List (Option Slot)):List (Option Slot):=[o3,some (.val (.list (a.ts.map .str))),some (.val (.str a.w)),some (.val (cq a.l)),some (.val (cq a.f)),o8]++o
theorem GV{told:List D}{rs:List Row}(h:∀r∈rs,cj r)(hl:rs.length≤20)(ht:told.length<100):∃om uL mP mQ mR mS mT,∀{m:Mo Fl},
 Xs G NF (RR.drop 6) (zp x (told++[pairD (cb rs 1 [])]) (rs.map bg) (tO o3 (kf ⟨[],[],1,rs.length⟩ 0 rs) om [uL,mP,mQ,mR,mS,mT])) m→
 Xs G NF RR (zp x told (rs.map bg) [o3,o4,o5,o6,o7,o8,o9,o10,o11,o12,o13,o14]) m:=by
 obtain⟨om,uL,mP,mQ,mR,mS,mT,e⟩:=Lc (G:=G) (x:=x) (told:=told) (o3:=o3) h hl (rem:=rs) (pre:=[]) (a:=⟨[],[],1,rs.length⟩) (o8:=o8) (o9:=o9) (o10:=o10) (o11:=o11) (o12:=o12) (o13:=o13) (o14:=o14) rfl ⟨by dsimp only;exact aA (bI (bM _ hl) _) (by decide),by simp;exact aA (bM _ hl) (by decide),rfl⟩;refine⟨om,uL,mP,mQ,mR,mS,mT,fun{m} k=>?_⟩;have ln:∀σ:St,E1 G (.var 2) σ (.list (rs.map bg)) σ→E1 G (.fn .len (.var 2)) σ (cq rs.length) σ:=fun σ YG=>by
  have:=len_list YG (by rw[aM];exact aA hl (by decide));rw[aM] at this;exact this
 refine AP (vJ (rs:=rs) (ts:=[]) (l:=1) (k:=0) (n:=rs.length)) fun h1 h2 _=>?_;refine Xs.cons (X1.assign (E1.list .nil (aa (by simp)))) (Xs.cons (X1.assign E1.a7) (Xs.cons (X1.assign E1.a7) (Xs.cons (X1.assign (ln _ (E1.val rfl rfl))) ?_)));have ef:X1 G NF (.kc true true [8] (.fn .len (.var 2)) L9) (uF x told (rs.map bg) o3 ⟨[],[],1,rs.length⟩ o8 [o9,o10,o11,o12,o13,o14]) (uF x told (rs.map bg) o3 (kf ⟨[],[],1,rs.length⟩ 0 rs) om [uL,mP,mQ,mR,mS,mT]):=by
  refine X1.nE (ln _ (E1.val rfl rfl)) (n6 (n:=rs.length) (aG hl (by decide))) ?_;rw[List.range_eq_range'];exact e
 refine Xs.cons ef ?_;have ea:X1 G NF (.append 1 (.tup [(.var 4),(.var 5)])) (uF x told (rs.map bg) o3 (kf ⟨[],[],1,rs.length⟩ 0 rs) om [uL,mP,mQ,mR,mS,mT]) (zp x (told++[pairD (cb rs 1 [])]) (rs.map bg) (tO o3 (kf ⟨[],[],1,rs.length⟩ 0 rs) om [uL,mP,mQ,mR,mS,mT])):=by
  have ed:pairD (cb rs 1 [])=.tup [.list ((kf ⟨[],[],1,rs.length⟩ 0 rs).ts.map .str),.str (kf ⟨[],[],1,rs.length⟩ 0 rs).w]:=by rw[h1,h2];rfl
  rw[ed];exact X1.append rfl (E1.tup (.cons (E1.own rfl rfl) (.one (E1.val rfl rfl))) (aa (by simp))) (pU (aA (aE ht) (by decide)))
 exact Xs.cons ea k
theorem RS{told:List D}{rs:List Row}(h:∀r∈rs,cj r)(hl:rs.length≤20)(ht:told.length<100)(hw:(cb rs 1 []).2=[]):
 ∃σ,Xs G NF RR (zp x told (rs.map bg) [o3,o4,o5,o6,o7,o8,o9,o10,o11,o12,o13,o14]) (some (.ok (.ret (.list (told++[pairD (cb rs 1 [])]))),σ)):=by
 obtain⟨om,uL,mP,mQ,mR,mS,mT,k⟩:=GV (G:=G) (x:=x) (told:=told) (o3:=o3) (o4:=o4) (o5:=o5) (o6:=o6) (o7:=o7) (o8:=o8) (o9:=o9) (o10:=o10) (o11:=o11) (o12:=o12) (o13:=o13) (o14:=o14) h hl ht;refine AP (vJ (rs:=rs) (ts:=[]) (l:=1) (k:=0) (n:=rs.length)) fun _ h2 _=>?_;rw[hw] at h2;have t:=sX (G:=G) (i:=5) (w:=(kf ⟨[],[],1,rs.length⟩ 0 rs).w) (σ:=zp x (told++[pairD (cb rs 1 [])]) (rs.map bg) (tO o3 (kf ⟨[],[],1,rs.length⟩ 0 rs) om [uL,mP,mQ,mR,mS,mT])) (E1.val rfl rfl) (by rw[h2];rfl);rw[decide_eq_true h2] at t;exact⟨_,k (Xs.gz t (Xs.ret (E1.own rfl rfl)))⟩
theorem RT{told:List D}{rs:List Row}(h:∀r∈rs,cj r)(hl:rs.length≤20)(ht:told.length<100)(hw:¬∀r∈rs,r.fault=[]):
 ∃Ii S2 u5 S3 om uL mP mQ mR mS mT,Xs G NF RR (zp x told (rs.map bg) [o3,o4,o5,o6,o7,o8,o9,o10,o11,o12,o13,o14]) (some (.ok .next,zp x (told++[pairD (cb rs 1 [])]) ((gn rs).map bg) [o3,Ii,S2,u5,S3,om,uL,mP,mQ,mR,mS,mT])):=by
 obtain⟨om,uL,mP,mQ,mR,mS,mT,k⟩:=GV (G:=G) (x:=x) (told:=told) (o3:=o3) (o4:=o4) (o5:=o5) (o6:=o6) (o7:=o7) (o8:=o8) (o9:=o9) (o10:=o10) (o11:=o11) (o12:=o12) (o13:=o13) (o14:=o14) h hl ht;obtain⟨r,hr,ln,a1,a2,a3,a4,a5,a6⟩:=n8 (rs:=rs) (l:=1) (ts:=[]) hw;refine AP (vJ (rs:=rs) (ts:=[]) (l:=1) (k:=0) (n:=rs.length)) fun _ h2 h3=>?_;obtain⟨a,r',b,e1,e2,e3⟩:=h3 hw;rw[a2] at h2;rw[gG] at e2;have t:=sX (G:=G) (i:=5) (w:=(kf ⟨[],[],1,rs.length⟩ 0 rs).w) (σ:=zp x (told++[pairD (cb rs 1 [])]) (rs.map bg) (tO o3 (kf ⟨[],[],1,rs.length⟩ 0 rs) om [uL,mP,mQ,mR,mS,mT])) (E1.val rfl rfl) (by rw[h2];exact pV ((h r hr).fault.resolve_left a1) (aA (aG a4 (bI (bM _ hl) _)) (by decide)) (vI (h r hr)));rw[decide_eq_false (by rw[h2];exact qH)] at t;have C3:a.length<rs.length:=by rw[e1];simp
 have es:E1 G (.bin .add (.slice (.var 2) (.a7 .none) (.var 7)) (.slice (.var 2) (.bin .add (.var 7) (.a7 (.int 1))) (.a7 .none))) (zp x (told++[pairD (cb rs 1 [])]) (rs.map bg) (tO o3 (kf ⟨[],[],1,rs.length⟩ 0 rs) om [uL,mP,mQ,mR,mS,mT])) (.list ((gn rs).map bg)) (zp x (told++[pairD (cb rs 1 [])]) (rs.map bg) (tO o3 (kf ⟨[],[],1,rs.length⟩ 0 rs) om [uL,mP,mQ,mR,mS,mT])):=by
  have v7:E1 G (.var 7) (zp x (told++[pairD (cb rs 1 [])]) (rs.map bg) (tO o3 (kf ⟨[],[],1,rs.length⟩ 0 rs) om [uL,mP,mQ,mR,mS,mT])) (.int (a.length:Int)) (zp x (told++[pairD (cb rs 1 [])]) (rs.map bg) (tO o3 (kf ⟨[],[],1,rs.length⟩ 0 rs) om [uL,mP,mQ,mR,mS,mT])):=by
   have:=E1.val (G:=G) (i:=7) (d:=cq (kf ⟨[],[],1,rs.length⟩ 0 rs).f) (σ:=zp x (told++[pairD (cb rs 1 [])]) (rs.map bg) (tO o3 (kf ⟨[],[],1,rs.length⟩ 0 rs) om [uL,mP,mQ,mR,mS,mT])) rfl rfl;rw[e2] at this;exact this
  refine E1.bin (E1.slice (E1.val rfl rfl) E1.a7 v7 (Ld (by rw[aM];exact aZ C3) (by rw[aM];exact aA hl (by decide)))) (E1.slice (E1.val rfl rfl) (E1.bin v7 E1.a7 (add_one _)) E1.a7 (Le (by rw[aM];exact C3) (by rw[aM];exact aA hl (by decide)))) ?_;rw[e1] at hl;rw[e1,e3] at *;simp only[bR,aN];rw[show(a.map bg++bg r'::b.map bg).take a.length=a.map bg by rw[List.take_append_of_le_length (by simp),cK (by simp)],
   show(a.map bg++bg r'::b.map bg).drop (a.length+1)=b.map bg by rw[show a.map bg++bg r'::b.map bg=(a.map bg++[bg r'])++b.map bg by simp,List.drop_append_of_le_length (by simp),List.drop_of_length_le (by simp),eV]]
  show(if(a.map bg).length+(b.map bg).length≤sizeLine then iu (.list (a.map bg++b.map bg)) else none)=_;rw[if_pos (aa (by simp at hl ⊢;lia))];rfl
 exact⟨_,_,_,_,_,_,_,_,_,_,_,k (Xs.cons (X1.skip t) (Xs.one (X1.assign es)))⟩
theorem Lg:∀{items:List D} {told:List D} {rs:List Row} {o3 o4 o5 o6 o7 o8 o9 o10 o11 o12 o13 o14:Option Slot},(∀r∈rs,cj r)→rs.length≤20→told.length+items.length<100→rs.length<items.length→
 ∃σ,forM true [3] (cx G NF RR) items (zp x told (rs.map bg) [o3,o4,o5,o6,o7,o8,o9,o10,o11,o12,o13,o14])=some (.ok (.ret (.list (told++(rF items.length rs).map pairD))),σ)
 |[],told,rs,o3,o4,o5,o6,o7,o8,o9,o10,o11,o12,o13,o14,h,hl,ht,hi=>by simp at hi
 |y::items,told,rs,o3,o4,o5,o6,o7,o8,o9,o10,o11,o12,o13,o14,h,hl,ht,hi=>by
  rw[jb (show bindTo true [3] y (zp x told (rs.map bg) [o3,o4,o5,o6,o7,o8,o9,o10,o11,o12,o13,o14])=some (zp x told (rs.map bg) [some (.val y),o4,o5,o6,o7,o8,o9,o10,o11,o12,o13,o14]) from rfl)]
  by_cases hw:∀r∈rs,r.fault=[]
  ·have e0:(cb rs 1 []).2=[]:=by rw[sW hw]
   obtain⟨σ,e⟩:=RS (G:=G) (x:=x) (told:=told) (o3:=some (.val y)) (o4:=o4) (o5:=o5) (o6:=o6) (o7:=o7) (o8:=o8) (o9:=o9) (o10:=o10) (o11:=o11) (o12:=o12) (o13:=o13) (o14:=o14) h hl (aA (aP _ _) ht) e0;refine⟨σ,?_⟩;rw[show cx G NF RR _=_ from e];rw[bA,rF,if_pos e0];rfl
  ·obtain⟨Ii,S2,u5,S3,om,uL,mP,mQ,mR,mS,mT,e⟩:=RT (G:=G) (x:=x) (told:=told) (o3:=some (.val y)) (o4:=o4) (o5:=o5) (o6:=o6) (o7:=o7) (o8:=o8) (o9:=o9) (o10:=o10) (o11:=o11) (o12:=o12) (o13:=o13) (o14:=o14) h hl (aA (aP _ _) ht) hw
   obtain⟨r,hr,ln,a1,a2,a3,a4,a5,a6⟩:=n8 (rs:=rs) (l:=1) (ts:=[]) hw;obtain⟨σ,e'⟩:=Lg (x:=x) (items:=items) (told:=told++[pairD (cb rs 1 [])]) (rs:=gn rs) (o3:=some (.val y)) (o4:=Ii) (o5:=S2) (o6:=u5) (o7:=S3) (o8:=om) (o9:=uL) (o10:=mP) (o11:=mQ) (o12:=mR) (o13:=mS) (o14:=mT) (fun q hq=>h q (qI hq)) (fQ (aG (bO a6) hl)) (by simp;exact aA (bO (cC _ _ _)) ht) (fC (aA (bO a6) hi));refine⟨σ,?_⟩;rw[show cx G NF RR _=_ from e];refine hH e' ?_;rw[bA,rF,if_neg (by rw[a2];exact qH),aN,bZ];rfl
theorem OI{rs:List Row}(h:∀r∈rs,cj r)(hl:rs.length≤20):runK G (1,15,tF) [.list (rs.map bg)]=some (.ok (.list ((rF (rs.length+1) rs).map pairD))):=by
 obtain⟨σ,e⟩:=Lg (G:=G) (x:=.list (rs.map bg)) (items:=(bW (rs.length+1)).map fun(k:Nat)=>D.int k) (told:=[]) (rs:=rs) (o3:=none) (o4:=none) (o5:=none) (o6:=none) (o7:=none) (o8:=none) (o9:=none) (o10:=none) (o11:=none) (o12:=none) (o13:=none) (o14:=none) h hl (by simp;exact aA (aJ hl _) (by decide)) (by simp);rw[aM,fP,eV] at e;have e0:=len_list (G:=G) (e:=.var 0) (l:=rs.map bg) (σ:=zp (.list (rs.map bg)) [] (rs.map bg) [none,none,none,none,none,none,none,none,none,none,none,none]) (E1.val rfl rfl) (by rw[aM];exact aA hl (by decide));rw[aM] at e0;have e1:E1 G (.bin .add (.fn .len (.var 0)) (.a7 (.int 1))) (zp (.list (rs.map bg)) [] (rs.map bg) [none,none,none,none,none,none,none,none,none,none,none,none]) (.int ((rs.length+1:Nat):Int)) (zp (.list (rs.map bg)) [] (rs.map bg) [none,none,none,none,none,none,none,none,none,none,none,none]):=E1.bin e0 E1.a7 (add_one _);exact cz rfl (Xs.cons (X1.of rfl) (Xs.cons (X1.assign (E1.val rfl rfl)) (Xs.GR e1 (n6 (aG (aJ hl _) (by decide))) e)))
end
noncomputable def dD:Option Nat→D
 |none=>.none
 |some k=>cq k
noncomputable def rD:Option (Nat×Nat)→D
 |none=>.none
 |some (a,b)=>.inst [("useragents",.list []),("rulelines",.list []),("delay",.none),("req_rate",.none),("requests",cq a),("seconds",cq b)]
noncomputable def gm(ua ru:List Tx)(dl:Option Nat)(rt:Option (Nat×Nat)):D:=.inst [("useragents",.list (ua.map .str)),("rulelines",.list (ru.map .str)),("delay",dD dl),("req_rate",rD rt)]
noncomputable def dO(n:Int):Option Nat:=if bG n 4≠0 then some (bG n 50).toNat else none
noncomputable def rO(n:Int):Option (Nat×Nat):=if bG n 4≠0 then some ((bG n 50).toNat,(bG (dY n 50) 50).toNat) else none
section
variable{G:Gl}
theorem IM{ua ru:List Tx}:rQ (gm ua ru dl rt) (Str.ofString "useragents")=some (.ok (.list (ua.map .str))):=by kernel_rfl
theorem IP{ua ru:List Tx}:rQ (gm ua ru dl rt) (Str.ofString "rulelines")=some (.ok (.list (ru.map .str))):=by kernel_rfl
theorem Lh:rQ (gm ua ru dl rt) (Str.ofString "delay")=some (.ok (dD dl)):=by kernel_rfl
theorem Li:rQ (gm ua ru dl rt) (Str.ofString "req_rate")=some (.ok (rD rt)):=by kernel_rfl
noncomputable def bx(ua ru:FS)(dl rt:FS):Slot:=.obj [("useragents",ua),("rulelines",ru),("delay",dl),("req_rate",rt)]
theorem X1.setAttr{fs QQ:List (Str×FS)}{σ σ1:St}(h:E1 G e σ d σ1)(ho:σ1.get i=some (.obj fs))(hf:fs.length<100)(hs:setField fs x (.val d)=QQ):X1 G n (.setAttr i x e) σ (σ1.put i (.obj QQ)):=by
 refine(af h).trans ?_;unfold nK;rw[ho];exact(if_pos hf).trans (by rw[hs];rfl)
theorem kx:∀l:List Tx,strsOf (l.map .str)=some l
 |[]=>rfl
 |x::l=>congrArg (gM (x::·)) (kx l)
theorem OJ{a b:List Tx}(ha:a.length<1000)(hb:b.length<1000):yB (.list (a.map .str)) (.list (b.map .str))=some (.ok (.list ((b.filter fun y=>a.contains y).map .str))):=by
 show((strsOf (a.map .str)).bind fun xs=>(strsOf (b.map .str)).bind fun ys=>if xs.length≤1024∧ys.length≤1024 then iu (.list ((ys.filter fun y=>xs.contains y).map .str)) else none)=_;rw[kx,kx];exact if_pos ⟨(aG (aZ ha) (by decide)),(aG (aZ hb) (by decide))⟩
theorem E1.AW(ha:E1 G a σ x σ1)(hb:E1 G b σ1 y σ2)(h:yB x y=some (.ok z)):E1 G (.AW a b) σ z σ2:=(af ha).trans ((af (cu hb)).trans (of_ok h))
theorem RU{dl:Option Nat}(h:E1 G e σ (dD dl) σ'):T1 G (.cmp .isNone e (.a7 .none)) σ dl.isNone σ':=T1.cmp h E1.a7 (by cases dl<;>rfl)
theorem OK{rt:Option (Nat×Nat)}(h:E1 G e σ (rD rt) σ'):T1 G (.cmp .isNone e (.a7 .none)) σ rt.isNone σ':=T1.cmp h E1.a7 (by rcases rt with _|⟨a,b⟩<;>rfl)
theorem add_list{x y:List D}(h:x.length+y.length<100000):rP .add (.list x) (.list y)=some (.ok (.list (x++y))):=by
 show(if x.length+y.length≤sizeLine then iu (.list (x++y)) else none)=_;rw[if_pos (aa h)];rfl
theorem IQ{ua QR ru QS:List Tx}{dl Ij:Option Nat}{rt Il:Option (Nat×Nat)}(h1:ua.length<100)(h2:QR.length<100)(h3:ru.length<100)(h4:QS.length<100):
 runK G (2,3,lx) [gm ua ru dl rt,gm QR QS Ij Il]=some (.ok (gm (ua.filter fun y=>QR.contains y) (ru++QS) (if Ij.isNone then dl else Ij) (if Il.isNone then rt else Il))):=by
 let sm:Slot→St:=fun o=>⟨[some (.val (gm ua ru dl rt)),some (.val (gm QR QS Ij Il)),some o],[]⟩
 have v0:∀{o:Slot},E1 G (.var 0) (sm o) (gm ua ru dl rt) (sm o):=E1.val rfl rfl;have v1:∀{o:Slot},E1 G (.var 1) (sm o) (gm QR QS Ij Il) (sm o):=E1.val rfl rfl
 let U:FS:=.val (.list ((ua.filter fun y=>QR.contains y).map .str))
 let R:FS:=.val (.list ((ru++QS).map .str))
 let Dl:=if Ij.isNone then dl else Ij
 let Rt:=if Il.isNone then rt else Il
 have s1:X1 G NF (.setAttr 2 (Str.ofString "useragents") (.AW (.attr (.var 1) (Str.ofString "useragents")) (.attr (.var 0) (Str.ofString "useragents")))) (sm (bx (.own []) (.own []) (.val .none) (.val .none))) (sm (bx U (.own []) (.val .none) (.val .none))):=
  X1.setAttr (E1.AW (E1.attr v1 IM) (E1.attr v0 IM) (OJ (aA (aE h2) (by decide)) (aA (aE h1) (by decide)))) rfl (by simp) (by kernel_rfl)
 have s2:X1 G NF (.setAttr 2 (Str.ofString "rulelines") (.bin .add (.attr (.var 0) (Str.ofString "rulelines")) (.attr (.var 1) (Str.ofString "rulelines")))) (sm (bx U (.own []) (.val .none) (.val .none))) (sm (bx U R (.val .none) (.val .none))):=
  X1.setAttr (E1.bin (E1.attr v0 IP) (E1.attr v1 IP) ((add_list (by simp;lia)).trans (by rw[←bR]))) rfl (by simp) (by kernel_rfl)
 have e3:E1 G (.ite (.cmp .isNone (.attr (.var 1) (Str.ofString "delay")) (.a7 .none)) (.attr (.var 0) (Str.ofString "delay")) (.attr (.var 1) (Str.ofString "delay"))) (sm (bx U R (.val .none) (.val .none))) (dD Dl) (sm (bx U R (.val .none) (.val .none))):=by
  refine E1.ite (RU (E1.attr v1 Lh)) ?_;show(if Ij.isNone=true then E1 G _ _ (dD (if Ij.isNone then dl else Ij)) _ else E1 G _ _ (dD (if Ij.isNone then dl else Ij)) _);cases Ij.isNone
  ·exact E1.attr v1 Lh
  ·exact E1.attr v0 Lh
 have s3:X1 G NF (.setAttr 2 (Str.ofString "delay") (.ite (.cmp .isNone (.attr (.var 1) (Str.ofString "delay")) (.a7 .none)) (.attr (.var 0) (Str.ofString "delay")) (.attr (.var 1) (Str.ofString "delay")))) (sm (bx U R (.val .none) (.val .none))) (sm (bx U R (.val (dD Dl)) (.val .none))):=
  X1.setAttr e3 rfl (by simp) (by kernel_rfl)
 have e4:E1 G (.ite (.cmp .isNone (.attr (.var 1) (Str.ofString "req_rate")) (.a7 .none)) (.attr (.var 0) (Str.ofString "req_rate")) (.attr (.var 1) (Str.ofString "req_rate"))) (sm (bx U R (.val (dD Dl)) (.val .none))) (rD Rt) (sm (bx U R (.val (dD Dl)) (.val .none))):=by
  refine E1.ite (OK (E1.attr v1 Li)) ?_;show(if Il.isNone=true then E1 G _ _ (rD (if Il.isNone then rt else Il)) _ else E1 G _ _ (rD (if Il.isNone then rt else Il)) _);cases Il.isNone
  ·exact E1.attr v1 Li
  ·exact E1.attr v0 Li
 have s4:X1 G NF (.setAttr 2 (Str.ofString "req_rate") (.ite (.cmp .isNone (.attr (.var 1) (Str.ofString "req_rate")) (.a7 .none)) (.attr (.var 0) (Str.ofString "req_rate")) (.attr (.var 1) (Str.ofString "req_rate")))) (sm (bx U R (.val (dD Dl)) (.val .none))) (sm (bx U R (.val (dD Dl)) (.val (rD Rt)))):=
  X1.setAttr e4 rfl (by simp) (by kernel_rfl)
 have s5:E1 G (.var 2) (sm (bx U R (.val (dD Dl)) (.val (rD Rt)))) (gm (ua.filter fun y=>QR.contains y) (ru++QS) Dl Rt) (sm (.val (gm (ua.filter fun y=>QR.contains y) (ru++QS) Dl Rt))):=E1.var (x:=bx U R (.val (dD Dl)) (.val (rD Rt))) rfl;exact cz rfl (Xs.cons (X1.of rfl) (Xs.cons s1 (Xs.cons s2 (Xs.cons s3 (Xs.cons s4 (Xs.ret s5))))))
end
noncomputable def qO:Option Nat→List Tx
 |none=>[]
 |some k=>[uD++digits k]
noncomputable def q8:Option (Nat×Nat)→List Tx
 |none=>[]
 |some (a,b)=>[vE++(digits a++([47]++digits b))]
noncomputable def lQ(ua ru:List Tx)(dl:Option Nat)(rt:Option (Nat×Nat)):List Tx:=ua.map (og++·)++qO dl++q8 rt++(if ru=[] then[ES] else ru)
noncomputable def RV(dl:Option Nat):Prop:=∀k,dl=some k→k<100
noncomputable def UA(rt:Option (Nat×Nat)):Prop:=∀a b,rt=some (a,b)→a<100∧b<100
section
variable{G:Gl}
theorem zq:∀{l:List Tx},(∀x∈l,x.length<100)→(l.map (·.length)).sum≤100*l.length
 |[],_=>by simp
 |x::l,h=>by
  have:=zq fun y hy=>h y (.tail _ hy);have:=h x (.head _);simp only[aN,List.sum_cons,bA];lia
theorem uH{l:List Tx}(h:2≤l.length)(hs:(l.map (·.length)).sum<100000):lW (l.map .str)=some (.ok (.str l.flatten)):=by
 unfold lW;rw[kx];exact if_pos ⟨h,aa hs⟩
theorem OL{x:Tx}(h:x.length<1000):mr false (.str x)=some (.ok (.str x)):=by
 show(if x.length≤sizeLine then iu (.str x) else none)=_;rw[if_pos (aa (aA (aE h) (by decide)))];rfl
theorem OM{i:Int}(h:0≤i∧i<10000):mr false (.int i)=some (.ok (.str (digits i.toNat))):=by
 exact Pc h
theorem zr(h:k<1000):mr false (cq k)=some (.ok (.str (digits k))):=by
 have:=OM (i:=(k:Int)) (by lia);rw[cU] at this;exact this
theorem X1.ju{σ σ1 σ2:St}(ho:σ.get i=some o)(he:E1 G e (σ.hide i) y σ1)(hu:ko i o y σ1=some (.ok .next,σ2)):X1 G n (.ju i e) σ σ2:=by
 exact(Sd (m:=fun o σ=>(au (ir G e σ)).bind (ko i o)) ho).trans ((af (cu he)).trans hu)
theorem RX{ds:List D}{es:List Tx}{σ:St}(h:ds.length+es.length<1000):ko i (.own ds) (.list (es.map .str)) σ=some (.ok .next,σ.put i (.own (ds++es.map .str))):=by
 show((strsOf (es.map .str)).bind fun _=>if ds.length+(es.map D.str).length≤1024 then Mo.ok Fl.next (σ.put i (.own (ds++es.map .str))) else none)=_;rw[kx];exact if_pos (by rw[aM];exact aG (aZ h) (by decide))
theorem ON{l:List Tx}(h:(l.map (·.length)).sum+l.length<100000):iq .join (.str [10]) [.list (l.map .str)]=some (.ok (.str (jn 10 l))):=by
 show((strsOf (l.map D.str)).bind fun ys=>if(ys.map fun y:Tx=>y.length).sum+ys.length≤1048576 then iu (.str (dV [10] ys)) else none)=_;rw[kx];exact(if_pos (aG (aZ h) (by decide))).trans (by rw[Pj];rfl)
theorem T1.attr(h:E1 G (.attr a x) σ y σ')(hb:kM y=some b):T1 G (.attr a x) σ b σ':=pS h hb
theorem RY{dl:Option Nat}(h:E1 G e σ (dD dl) σ'):T1 G (.cmp .l0 e (.a7 .none)) σ dl.isSome σ':=T1.cmp h E1.a7 (by cases dl<;>rfl)
theorem OO{rt:Option (Nat×Nat)}(h:E1 G e σ (rD rt) σ'):T1 G (.cmp .l0 e (.a7 .none)) σ rt.isSome σ':=T1.cmp h E1.a7 (by rcases rt with _|⟨a,b⟩<;>rfl)
noncomputable def se(x:D)(ls:List Tx)(o2 o3:Option Slot):St:=⟨[some (.val x),some (.own (ls.map .str)),o2,o3],[]⟩
theorem X1.app{ls:List Tx}(hl:ls.length<900)(h:E1 G e (St.hide (se x ls o2 o3) 1) (.str y) (St.hide (se x ls o2 o3) 1)):X1 G NF (.append 1 e) (se x ls o2 o3) (se x (ls++[y]) o2 o3):=by
 have:=X1.append (n:=NF) (i:=1) (o:=.own (ls.map .str)) (σ:=se x ls o2 o3) rfl h (pU (by rw[aM];exact aT hl (by decide)));rw[←jO (f:=D.str),←bR] at this;exact this
theorem Lj:∀{ua ls:List Tx} {o2:Option Slot},(∀y∈ua,y.length<80)→ls.length+ua.length<900→
 ∃Oo,forM true [2] (cx G NF [.append 1 (.joined [(.a7 (.str og)),(.fmt false (.var 2))])]) (ua.map .str) (se x ls o2 o3)=some (.ok .next,se x (ls++ua.map (og++·)) Oo o3)
 |[],ls,o2,_,_=>⟨o2,by rw[dK,dK,bN];rfl⟩
 |y::ua,ls,o2,h,hl=>by
  simp only[bA] at hl;have hy:=h y (.head _);obtain⟨Oo,e⟩:=Lj (x:=x) (o3:=o3) (ua:=ua) (ls:=ls++[og++y]) (o2:=some (.val (.str y))) (fun z hz=>h z (.tail _ hz)) (by simp;exact aA (bO (cC _ _ _)) hl);refine⟨Oo,?_⟩;have hj:E1 G (.joined [(.a7 (.str og)),(.fmt false (.var 2))]) (St.hide (se x ls (some (.val (.str y))) o3) 1) (.str (og++y)) (St.hide (se x ls (some (.val (.str y))) o3) 1):=by
   have:=uH (l:=[og,y]) (by simp) (by simp[og];exact aA (bI (aE hy) _) (by decide));rw[show[og,y].flatten=og++y by simp] at this;exact E1.joined (.cons E1.a7 (.one (E1.fmt (E1.val rfl rfl) (OL (aA (aE hy) (by decide)))))) this
  have hb:=Xs.one (X1.app (ls:=ls) (aA (aP _ _) hl) hj);rw[aN];rw[jb (show bindTo true [2] (.str y) (se x ls o2 o3)=some (se x ls (some (.val (.str y))) o3) from rfl)];rw[show cx G NF [.append 1 (.joined [(.a7 (.str og)),(.fmt false (.var 2))])] _=_ from hb];refine hH e ?_;rw[aN,bZ];rfl
theorem W8{ls:List Tx}(h:RV dl)(hl:ls.length<900):X1 G NF (.gz (.cmp .l0 (.attr (.var 0) (Str.ofString "delay")) (.a7 .none)) [
 .append 1 (.joined [(.a7 (.str uD)),(.fmt false (.attr (.var 0) (Str.ofString "delay")))])] []) (se (gm ua ru dl rt) ls o2 o3) (se (gm ua ru dl rt) (ls++qO dl) o2 o3):=by
 have v0:E1 G (.var 0) (se (gm ua ru dl rt) ls o2 o3) (gm ua ru dl rt) (se (gm ua ru dl rt) ls o2 o3):=E1.val rfl rfl;have t:=RY (E1.attr v0 Lh);cases dl with
 |none=>rw[show ls++qO none=ls by simp[qO]];exact X1.skip t
 |some k=>
  refine X1.gz t (Xs.one (X1.app hl ?_));have:=uH (l:=[uD,digits k]) (by simp) (by have:=bl (h k rfl);simp[uD];exact aA (bI this _) (by decide));rw[show[uD,digits k].flatten=uD++digits k by simp] at this;exact E1.joined (.cons E1.a7 (.one (E1.fmt (E1.attr (E1.val rfl rfl) Lh) (zr (by have:=h k rfl;exact aA (aE this) (by decide)))))) this
theorem W9{ls:List Tx}(h:UA rt)(hl:ls.length<900):∃S0,X1 G NF (.gz (.cmp .l0 (.attr (.var 0) (Str.ofString "req_rate")) (.a7 .none)) [
 .assign 3 (.attr (.var 0) (Str.ofString "req_rate")),
 .append 1 (.joined [(.a7 (.str vE)),(.fmt false (.attr (.var 3) (Str.ofString "requests"))),(.a7 (.str [47])),(.fmt false (.attr (.var 3) (Str.ofString "seconds")))])] []) (se (gm ua ru dl rt) ls o2 o3) (se (gm ua ru dl rt) (ls++q8 rt) o2 S0):=by
 have v0:E1 G (.var 0) (se (gm ua ru dl rt) ls o2 o3) (gm ua ru dl rt) (se (gm ua ru dl rt) ls o2 o3):=E1.val rfl rfl;have t:=OO (E1.attr v0 Li);rcases rt with _|⟨a,b⟩
 ·exact⟨o3,by rw[show ls++q8 none=ls by simp[q8]];exact X1.skip t⟩
 ·obtain⟨ha,hb⟩:=h a b rfl
  have d1:=bl ha;have d2:=bl hb;refine⟨_,X1.gz t (Xs.cons (X1.assign (E1.attr v0 Li)) (Xs.one (X1.app (o3:=some (.val (rD (some (a,b))))) hl ?_)))⟩;have:=uH (l:=[vE,digits a,[47],digits b]) (by simp) (by simp[vE];lia);rw[show[vE,digits a,[47],digits b].flatten=vE++(digits a++([47]++digits b)) by simp] at this;exact E1.joined (.cons E1.a7 (.cons (E1.fmt (E1.attr (z:=cq a) (E1.val rfl rfl) (by kernel_rfl)) (zr (aA (aE ha) (by decide)))) (.cons E1.a7 (.one (E1.fmt (E1.attr (z:=cq b) (E1.val rfl rfl) (by kernel_rfl)) (zr (aA (aE hb) (by decide)))))))) this
end
noncomputable def IS(ua ru:List Tx)(dl:Option Nat)(rt:Option (Nat×Nat)):Tx:=if ua=[] then[] else jn 10 (lQ ua ru dl rt)
theorem GW(dl:Option Nat):(qO dl).length≤1:=by cases dl<;>simp[qO]
theorem GX(rt:Option (Nat×Nat)):(q8 rt).length≤1:=by rcases rt with _|⟨a,b⟩<;>simp[q8]
theorem zt(h1:∀y∈ua,y.length<80)(h3:∀y∈ru,y.length<90)(hd:RV dl)(hr:UA rt):∀y∈lQ ua ru dl rt,y.length<100:=fun y hy=>by
 unfold lQ at hy;simp only[cB] at hy;rcases hy with ((hy|hy)|hy)|hy
 ·refine aq (bH.mp hy) fun z hz bq=>?_;subst bq
  have:=h1 z hz;simp[og];exact aA (aJ (aE this) 12) (by decide)
 ·cases dl with
  |none=>cases hy
  |some k=>
   rw[aK.mp hy];have:=bl (hd k rfl);simp[uD];exact aA (aJ this 13) (by decide)
 ·rcases rt with _|⟨a,b⟩
  ·cases hy
  ·rw[aK.mp hy]
   have:=bl (hr a b rfl).1;have:=bl (hr a b rfl).2;simp[vE];lia
 ·split at hy
  ·rw[aK.mp hy];decide
  ·have:=h3 y hy;exact aA (aE this) (by decide)
section
variable{G:Gl}
theorem GY{ua ru:List Tx}(h1:∀y∈ua,y.length<80)(h2:ua.length<50)(h3:∀y∈ru,y.length<90)(h4:ru.length<50)(hd:RV dl)(hr:UA rt):runK G (1,4,lX) [gm ua ru dl rt]=some (.ok (.str (IS ua ru dl rt))):=by
 unfold IS;have Z1:∀o1 o2 o3,T1 G (.attr (.var 0) (Str.ofString "useragents")) ⟨[some (.val (gm ua ru dl rt)),o1,o2,o3],[]⟩ (!(ua.map D.str).isEmpty) ⟨[some (.val (gm ua ru dl rt)),o1,o2,o3],[]⟩:=fun o1 o2 o3=>T1.attr (E1.attr (E1.val rfl rfl) IM) (jo (by rw[aM];exact aT h2 (by decide)))
 by_cases hu:ua=[]
 ·rw[if_pos hu]
  have:=Z1 none none none;rw[hu] at this;rw[hu];exact cz rfl (Xs.gz (t:=true) (T1.not this) (Xs.ret E1.a7))
 ·rw[if_neg hu]
  have t0:(!(ua.map D.str).isEmpty)=true:=by cases ua with|nil=>exact absurd rfl hu|cons _ _=>rfl
  have t1:=Z1 none none none;rw[t0] at t1;have ld:=GW dl;have lr:=GX rt;obtain⟨o2,e3⟩:=Lj (G:=G) (x:=gm ua ru dl rt) (o3:=none) (ua:=ua) (ls:=[]) (o2:=none) h1 (by simp;exact aA (aE h2) (by decide));rw[eV] at e3;have s3:X1 G NF (.kc false true [2] (.attr (.var 0) (Str.ofString "useragents")) [.append 1 (.joined [(.a7 (.str og)),(.fmt false (.var 2))])]) (se (gm ua ru dl rt) [] none none) (se (gm ua ru dl rt) (ua.map (og++·)) o2 none):=
   X1.nE (E1.attr (E1.val rfl rfl) IM) (dm (aa (by rw[aM];exact aT h2 (by decide)))) e3
  have s4:=W8 (G:=G) (ua:=ua) (ru:=ru) (dl:=dl) (rt:=rt) (ls:=ua.map (og++·)) (o2:=o2) (o3:=none) hd (by rw[aM];exact aA (aE h2) (by decide));obtain⟨o3,s5⟩:=W9 (G:=G) (ua:=ua) (ru:=ru) (dl:=dl) (rt:=rt) (ls:=ua.map (og++·)++qO dl) (o2:=o2) (o3:=none) hr (by simp;exact aA (aU (aE h2) ld) (by decide));have YO:(ua.map (og++·)++qO dl++q8 rt).length<60:=by simp;exact aA (aU (aE h2) (aU ld lr)) (by decide)
  have s6:X1 G NF (.gz (.attr (.var 0) (Str.ofString "rulelines")) [.ju 1 (.attr (.var 0) (Str.ofString "rulelines"))] [.append 1 (.a7 (.str ES))]) (se (gm ua ru dl rt) (ua.map (og++·)++qO dl++q8 rt) o2 o3) (se (gm ua ru dl rt) (lQ ua ru dl rt) o2 o3):=by
   refine X1.gz (T1.attr (E1.attr (E1.val rfl rfl) IP) (jo (by rw[aM];exact aT h4 (by decide)))) ?_;unfold lQ;cases ru with
   |nil=>exact Xs.one (X1.app (aA (aE YO) (by decide)) E1.a7)
   |cons r ru=>
    rw[show(if r::ru=[] then[ES] else r::ru)=r::ru from if_neg (by simp)];have:=X1.ju (G:=G) (n:=NF) (i:=1) (e:=.attr (.var 0) (Str.ofString "rulelines")) (o:=.own ((ua.map (og++·)++qO dl++q8 rt).map .str)) (σ:=se (gm ua (r::ru) dl rt) (ua.map (og++·)++qO dl++q8 rt) o2 o3) rfl (E1.attr (E1.val rfl rfl) IP) (RX (es:=r::ru) (by rw[aM];lia));rw[←bR] at this;exact Xs.one this
  have hs:=zq (zt h1 h3 hd hr);have hl:(lQ ua ru dl rt).length<120:=by unfold lQ;split<;>simp<;>lia
  have e7:E1 G (.dz .join (.a7 (.str [10])) [(.var 1)]) (se (gm ua ru dl rt) (lQ ua ru dl rt) o2 o3) (.str (jn 10 (lQ ua ru dl rt))) ⟨[some (.val (gm ua ru dl rt)),some (.val (.list ((lQ ua ru dl rt).map .str))),o2,o3],[]⟩:=E1.dz E1.a7 (.one (E1.own rfl rfl)) (ON (aA (aU (aG hs (bM _ (aE hl))) (aE hl)) (by decide)));exact cz rfl (Xs.cons (X1.skip (T1.not (b:=true) t1)) (Xs.cons (X1.of rfl) (Xs.cons s3 (Xs.cons s4 (Xs.cons s5 (Xs.cons s6 (Xs.ret e7)))))))
theorem E1.UB(h:E1 G a σ (.inst fs) σ')(hF:G.fn 0=some F)(hy:F [.inst fs]=some (.ok (.str y))):E1 G (.fn .str a) σ (.str y) σ':=by
 refine(af h).trans ?_;show rR (lh G 0 [.inst fs] σ')=_;unfold lh;rw[hF];show rR (Mo.of (F [.inst fs]) σ')=_;rw[hy];rfl
end
noncomputable def IT:Tx:=[122,101,100]
noncomputable def eh(l:List Int):List Tx:=l.map fun c=>(tl c).1
noncomputable def dp(l:List Int):List Tx:=l.map fun c=>word c++(tl c).1
section
variable{d:Nat}
theorem xF(c:Int)(h:ct c):(tl c).1.length≤8:=by
 unfold ct at h;unfold tl;generalize kk c=k at h
 match k,h with
 |0,_|1,_|2,_|3,_|4,_|5,_|6,_|7,_|8,_=>decide
theorem mO(c:Int):(word c).length≤11∧lit (word c)=true∧clean (word c):=by
 have h:=(GA c).2;unfold word;generalize wd c=k at h
 match k,h with
 |0,_|1,_|2,_=>exact⟨by decide,by decide,b0 (by decide)⟩
theorem pX{α:Type}(l:List α):l.filter (fun _=>true)=l:=List.filter_eq_self.mpr fun _ _=>rfl
theorem OP{l:List Int}(hi:E1 (GG (d+1)) iter ⟨ρ,[]⟩ (bj l) ⟨ρ,[]⟩)(hl:l.length<1000)(h:∀c∈l,ct c):E1 (GG (d+1)) (.comp false 1 iter none (.sub (.call 9 [(.cvar 1)]) (.a7 (.int 0)))) ⟨ρ,[]⟩ (.list ((eh l).map .str)) ⟨ρ,[]⟩:=by
 refine aq (E1.Bw (G:=(GG (d+1))) (R:=fun d8=>d8=ρ) (cond:=none) (q:=fun _=>true) (h:=fun c=>.str (tl c).1) hi hl rfl (fun c hc ρ nh=>⟨ρ,nh,rfl⟩) fun c hc _ ρ nh=>⟨ρ,nh,sV (h c hc)⟩) fun d8 ay e=>?_;subst ay;unfold eh;rw[bX];rw[pX] at e;exact e
theorem OQ{l:List Int}(hi:E1 (GG (d+1)) iter ⟨ρ,[]⟩ (bj l) ⟨ρ,[]⟩)(hl:l.length<1000)(h:∀c∈l,ct c):E1 (GG (d+1)) (.comp false 1 iter (some (.bin .mod (.bin .fdiv (.cvar 1) (.a7 (.int 10))) (.a7 (.int 3)))) (.sub (.call 9 [(.cvar 1)]) (.a7 (.int 0)))) ⟨ρ,[]⟩ (.list ((nums l).map .str)) ⟨ρ,[]⟩:=by
 refine aq (E1.Bw (G:=(GG (d+1))) (R:=fun d8=>d8=ρ) (cond:=some (.bin .mod (.bin .fdiv (.cvar 1) (.a7 (.int 10))) (.a7 (.int 3)))) (q:=fun c=>decide (wd c≠0)) (h:=fun c=>.str (tl c).1) hi hl rfl (fun c hc ρ nh=>⟨ρ,nh,Tu (E1.cvar rfl)⟩) fun c hc _ ρ nh=>⟨ρ,nh,sV (h c hc)⟩) fun d8 ay e=>?_;subst ay;unfold nums;rw[bX];exact e
theorem GZ{l:List Int}(hi:E1 (GG (d+1)) iter ⟨ρ,[]⟩ (bj l) ⟨ρ,[]⟩)(hl:l.length<1000)(h:∀c∈l,ct c):E1 (GG (d+1)) (.comp false 1 iter none (.bin .add (.call 10 [(.cvar 1)]) (.sub (.call 9 [(.cvar 1)]) (.a7 (.int 0))))) ⟨ρ,[]⟩ (.list ((dp l).map .str)) ⟨ρ,[]⟩:=by
 refine aq (E1.Bw (G:=(GG (d+1))) (R:=fun d8=>d8=ρ) (cond:=none) (q:=fun _=>true) (h:=fun c=>.str (word c++(tl c).1)) (elt:=.bin .add (.call 10 [(.cvar 1)]) (.sub (.call 9 [(.cvar 1)]) (.a7 (.int 0)))) hi hl rfl (fun c hc ρ nh=>⟨ρ,nh,rfl⟩) fun c hc _ ρ nh=>⟨ρ,nh,E1.bin (E1.call (.one (E1.cvar rfl)) rfl Bu) (sV (h c hc)) (add_str (by have:=xF c (h c hc);have:=(mO c).1;omega))⟩) fun d8 ay e=>?_;subst ay;unfold dp;rw[bX];rw[pX] at e;exact e
theorem X1.fj{fs QQ:List (Str×FS)}{ds es:List D}{σ σ1:St}(ho:σ.get i=some (.obj fs))(h:E1 G e (σ.hide i) (.list es) σ1)(hx:fs.lookup x=some (.own ds))(hl:ds.length+es.length<1000)(hf:fs.length<100)(hs:setField fs x (.own (ds++es))=QQ):X1 G n (.fj i x e) σ (σ1.put i (.obj QQ)):=by
 refine(Sd (m:=fun o σ=>(au (ir G e σ)).bind (rV i x o)) ho).trans ((af (cu h)).trans ?_);show((fs.lookup x).bind fun u=>vX u fun ds=>if ds.length+es.length≤sizeLine∧fs.length<100 then Mo.ok Fl.next (σ1.put i (.obj (setField fs x (.own (ds++es))))) else none)=_;rw[hx];exact(if_pos ⟨aa (aA (aE hl) (by decide)),hf⟩).trans (by rw[hs];rfl)
theorem UC(h:E1 G e σ (.int n) σ):E1 G (.ite (.bin .mod e (.a7 (.int 4))) (.bin .mod e (.a7 (.int 50))) (.a7 .none)) σ (dD (dO n)) σ:=by
 refine E1.ite (rE h) ?_;unfold dO
 by_cases h4:bG n 4=0
 ·simp only[h4,ne_eq,not_true_eq_false,decide_false,if_false];exact E1.a7
 ·simp only[h4,ne_eq,not_false_eq_true,decide_true,if_true]
  have h1:=ew (c:=n) (n:=50) (by decide);rw[show((50:Nat):Int)=50 from rfl] at h1;show E1 G _ σ (.int ((bG n 50).toNat:Int)) σ;rw[←h1.1];exact E1.bin h E1.a7 rfl
theorem UD(h:E1 (GG (d+1)) e σ (.int n) σ):E1 (GG (d+1)) (.ite (.bin .mod e (.a7 (.int 4))) (.call 12 [e]) (.a7 .none)) σ (rD (rO n)) σ:=by
 refine E1.ite (rE h) ?_;unfold rO
 by_cases h4:bG n 4=0
 ·simp only[h4,ne_eq,not_true_eq_false,decide_false,if_false];exact E1.a7
 ·simp only[h4,ne_eq,not_false_eq_true,decide_true,if_true]
  have h1:=ew (c:=n) (n:=50) (by decide);have h2:=ew (c:=dY n 50) (n:=50) (by decide);rw[show((50:Nat):Int)=50 from rfl] at h1 h2;have:=E1.call (G:=(GG (d+1))) (f:=12) (.one h) rfl Bv;rw[h1.1,h2.1] at this;exact this
theorem E1.band:∀{l:List PE},l≠[]→(∀e∈l,E1 G e σ (.bool true) σ)→E1 G (.band l) σ (.bool true) σ:=fun{l} iv h=>by
 induction l with
 |nil=>exact absurd rfl iv
 |cons e r ih=>
  cases r with
  |nil=>exact h e (.head _)
  |cons e' r=>
   have h1:(bo G e).1 σ=_:=h e (.head _);show Mo.bind ((bo G e).1 σ) _=_;rw[h1];exact ih (by simp) fun y hy=>h y (.tail _ hy)
theorem Pk(n:Int):RV (dO n):=fun k h=>by
 unfold dO at h
 split at h
 ·cases h;have h1:=ew (c:=n) (n:=50) (by decide);rw[show((50:Nat):Int)=50 from rfl] at h1;exact aA (aE h1.2) (by decide)
 ·cases h
theorem UE(n:Int):UA (rO n):=fun a b h=>by
 unfold rO at h
 split at h
 ·cases h
  have h1:=ew (c:=n) (n:=50) (by decide);have h2:=ew (c:=dY n 50) (n:=50) (by decide);rw[show((50:Nat):Int)=50 from rfl] at h1 h2;exact And.intro (aA (aE h1.2) (by decide)) (aA (aE h2.2) (by decide))
 ·cases h
end
section
variable{d:Nat}
noncomputable def ky:Slot:=bx (.own []) (.own []) (.val .none) (.val .none)
noncomputable def ow(l:List Tx):FS:=.own (l.map .str)
theorem EW:runK (GG (d+2)) (1,9,nk) [bj [c0,c1,c2,c3,c4,c5,c6,c7,c8,c9,c10]]=
 some (.ok (.tup [gm ((eh (there [c0,c1,c2,c3])).filter fun y=>(IT::(nums (there [c0,c1,c2,c3])).reverse).contains y) (dp (there [c4,c5])++dp (there [c6])) (if(dO c8).isNone then dO c7 else dO c8) (if(rO c10).isNone then rO c9 else rO c10),.bool true])):=by
 let cs:=bj [c0,c1,c2,c3,c4,c5,c6,c7,c8,c9,c10]
 have la:(there [c0,c1,c2,c3]).length≤4:=mM _;have lb:(there [c4,c5]).length≤2:=mM _;have lc:(there [c6]).length≤1:=mM _;have ha:∀c∈there [c0,c1,c2,c3],ct c:=fun c=>mL;have hb:∀c∈there [c4,c5],ct c:=fun c=>mL;have hc:∀c∈there [c6],ct c:=fun c=>mL;have rA:runK (GG (d+1)) (1,1,gh) [bj [c0,c1,c2,c3]]=some (.ok (bj (there [c0,c1,c2,c3]))):=n7 (by simp);have rB:runK (GG (d+1)) (1,1,gh) [bj [c4,c5]]=some (.ok (bj (there [c4,c5]))):=n7 (by simp);have rC:runK (GG (d+1)) (1,1,gh) [bj [c6]]=some (.ok (bj (there [c6]))):=n7 (by simp);generalize there [c0,c1,c2,c3]=A at *;generalize there [c4,c5]=B at *;generalize there [c6]=C at *
 let st:Slot→Slot→Option Slot→Option Slot→Option Slot→Option Slot→Option Slot→Option Slot→St:=fun s1 s2 o3 o4 o5 o6 o7 o8=>⟨[some (.val cs),some s1,some s2,o3,o4,o5,o6,o7,o8],[]⟩
 have Z2:∀s1 s2 o3 o4 o5 o6 o7 o8,E1 (GG (d+2)) (.slice (.var 0) (.a7 .none) (.a7 (.int 4))) (st s1 s2 o3 o4 o5 o6 o7 o8) (bj [c0,c1,c2,c3]) (st s1 s2 o3 o4 o5 o6 o7 o8):=fun s1 s2 o3 o4 o5 o6 o7 o8=>E1.of (by kernel_rfl);have slB:∀s1 s2 o3 o4 o5 o6 o7 o8,E1 (GG (d+2)) (.slice (.var 0) (.a7 (.int 4)) (.a7 (.int 6))) (st s1 s2 o3 o4 o5 o6 o7 o8) (bj [c4,c5]) (st s1 s2 o3 o4 o5 o6 o7 o8):=fun s1 s2 o3 o4 o5 o6 o7 o8=>E1.of (by kernel_rfl);have slC:∀s1 s2 o3 o4 o5 o6 o7 o8,E1 (GG (d+2)) (.slice (.var 0) (.a7 (.int 6)) (.a7 (.int 7))) (st s1 s2 o3 o4 o5 o6 o7 o8) (bj [c6]) (st s1 s2 o3 o4 o5 o6 o7 o8):=fun s1 s2 o3 o4 o5 o6 o7 o8=>E1.of (by kernel_rfl);have i7:∀s1 s2 o3 o4 o5 o6 o7 o8,E1 (GG (d+2)) (.sub (.var 0) (.a7 (.int 7))) (st s1 s2 o3 o4 o5 o6 o7 o8) (.int c7) (st s1 s2 o3 o4 o5 o6 o7 o8):=fun s1 s2 o3 o4 o5 o6 o7 o8=>E1.of (by kernel_rfl);have i8:∀s1 s2 o3 o4 o5 o6 o7 o8,E1 (GG (d+2)) (.sub (.var 0) (.a7 (.int 8))) (st s1 s2 o3 o4 o5 o6 o7 o8) (.int c8) (st s1 s2 o3 o4 o5 o6 o7 o8):=fun s1 s2 o3 o4 o5 o6 o7 o8=>E1.of (by kernel_rfl);have i9:∀s1 s2 o3 o4 o5 o6 o7 o8,E1 (GG (d+2)) (.sub (.var 0) (.a7 (.int 9))) (st s1 s2 o3 o4 o5 o6 o7 o8) (.int c9) (st s1 s2 o3 o4 o5 o6 o7 o8):=fun s1 s2 o3 o4 o5 o6 o7 o8=>E1.of (by kernel_rfl);have i10:∀s1 s2 o3 o4 o5 o6 o7 o8,E1 (GG (d+2)) (.sub (.var 0) (.a7 (.int 10))) (st s1 s2 o3 o4 o5 o6 o7 o8) (.int c10) (st s1 s2 o3 o4 o5 o6 o7 o8):=fun s1 s2 o3 o4 o5 o6 o7 o8=>E1.of (by kernel_rfl);have lT:(eh A).length≤4:=by unfold eh;rw[aM];exact la
 have lN:(nums A).length≤4:=by unfold nums;rw[aM];exact aG (bS _ _) la
 have lB:(dp B).length≤2:=by unfold dp;rw[aM];exact lb
 have lC:(dp C).length≤1:=by unfold dp;rw[aM];exact lc
 let vT:Option Slot:=some (.val (.list ((eh A).map .str)))
 let oT:Option Slot:=some (.own ((eh A).map .str))
 let O:=(nums A).reverse
 let vO:Option Slot:=some (.val (.list (O.map .str)))
 let oO:Option Slot:=some (.own (O.map .str))
 let vB:Option Slot:=some (.val (.list ((dp B).map .str)))
 let oB:Option Slot:=some (.own ((dp B).map .str))
 let vC:Option Slot:=some (.val (.list ((dp C).map .str)))
 let oC:Option Slot:=some (.own ((dp C).map .str))
 have s3:X1 (GG (d+2)) NF (.assign 3 (.comp false 1 (.call 11 [(.slice (.var 0) (.a7 .none) (.a7 (.int 4)))]) none (.sub (.call 9 [(.cvar 1)]) (.a7 (.int 0))))) (st ky ky none none none none none none) (st ky ky oT none none none none none):=
  X1.assign (OP (d:=d+1) (E1.call (.one (Z2 _ _ _ _ _ _ _ _)) rfl rA) (aA la (by decide)) ha)
 have s4:X1 (GG (d+2)) NF (.assign 4 (.comp false 1 (.call 11 [(.slice (.var 0) (.a7 .none) (.a7 (.int 4)))]) (some (.bin .mod (.bin .fdiv (.cvar 1) (.a7 (.int 10))) (.a7 (.int 3)))) (.sub (.call 9 [(.cvar 1)]) (.a7 (.int 0))))) (st ky ky oT none none none none none) (st ky ky oT (some (.own ((nums A).map .str))) none none none none):=
  X1.assign (OQ (d:=d+1) (E1.call (.one (Z2 _ _ _ _ _ _ _ _)) rfl rA) (aA la (by decide)) ha)
 have s5:X1 (GG (d+2)) NF (.reverse 4) (st ky ky oT (some (.own ((nums A).map .str))) none none none none) (st ky ky oT oO none none none none):=by
  show(if((nums A).map D.str).length≤sizeLine then Mo.ok Fl.next (st ky ky oT (some (.own ((nums A).map D.str).reverse)) none none none none) else none)=_;rw[if_pos (aa (by rw[aM];exact aA lN (by decide))),←List.map_reverse];rfl
 have s6:X1 (GG (d+2)) NF (.assign 5 (.comp false 1 (.call 11 [(.slice (.var 0) (.a7 (.int 4)) (.a7 (.int 6)))]) none (.bin .add (.call 10 [(.cvar 1)]) (.sub (.call 9 [(.cvar 1)]) (.a7 (.int 0)))))) (st ky ky oT oO none none none none) (st ky ky oT oO oB none none none):=
  X1.assign (GZ (d:=d+1) (E1.call (.one (slB _ _ _ _ _ _ _ _)) rfl rB) (aA lb (by decide)) hb)
 have s7:X1 (GG (d+2)) NF (.assign 6 (.comp false 1 (.call 11 [(.slice (.var 0) (.a7 (.int 6)) (.a7 (.int 7)))]) none (.bin .add (.call 10 [(.cvar 1)]) (.sub (.call 9 [(.cvar 1)]) (.a7 (.int 0)))))) (st ky ky oT oO oB none none none) (st ky ky oT oO oB oC none none):=
  X1.assign (GZ (d:=d+1) (E1.call (.one (slC _ _ _ _ _ _ _ _)) rfl rC) (aA lc (by decide)) hc)
 let n0:FS:=.val .none
 let Z:=IT::O
 have s8:X1 (GG (d+2)) NF (.fj 1 (Str.ofString "useragents") (.var 3)) (st ky ky oT oO oB oC none none) (st (bx (ow (eh A)) (.own []) n0 n0) ky vT oO oB oC none none):=
  X1.fj (ds:=[]) rfl (E1.own rfl rfl) (by kernel_rfl) (by simp;exact aA lT (by decide)) (by simp) (by kernel_rfl)
 have ez:∀σ σ':St,E1 (GG (d+2)) (.var 4) σ (.list (O.map .str)) σ'→E1 (GG (d+2)) (.bin .add (.list [(.a7 (.str [122,101,100]))]) (.var 4)) σ (.list (Z.map .str)) σ':=fun σ σ' h=>
  E1.bin (E1.list (.one E1.a7) (aa (by simp))) h (add_list (by simp[O];lia))
 have lO:O.length≤4:=by show(nums A).reverse.length≤4;rw[List.length_reverse];exact lN
 have s9:X1 (GG (d+2)) NF (.fj 2 (Str.ofString "useragents") (.bin .add (.list [(.a7 (.str [122,101,100]))]) (.var 4))) (st (bx (ow (eh A)) (.own []) n0 n0) ky vT oO oB oC none none) (st (bx (ow (eh A)) (.own []) n0 n0) (bx (ow Z) (.own []) n0 n0) vT vO oB oC none none):=
  X1.fj (ds:=[]) rfl (ez _ _ (E1.own rfl rfl)) (by kernel_rfl) (by simp[Z];exact Nat.add_lt_add_right (aA lO (by decide)) _) (by simp) (by kernel_rfl)
 have s10:X1 (GG (d+2)) NF (.fj 1 (Str.ofString "rulelines") (.var 5)) (st (bx (ow (eh A)) (.own []) n0 n0) (bx (ow Z) (.own []) n0 n0) vT vO oB oC none none) (st (bx (ow (eh A)) (ow (dp B)) n0 n0) (bx (ow Z) (.own []) n0 n0) vT vO vB oC none none):=
  X1.fj (ds:=[]) rfl (E1.own rfl rfl) (by kernel_rfl) (by simp;exact aA lB (by decide)) (by simp) (by kernel_rfl)
 have s11:X1 (GG (d+2)) NF (.fj 2 (Str.ofString "rulelines") (.var 6)) (st (bx (ow (eh A)) (ow (dp B)) n0 n0) (bx (ow Z) (.own []) n0 n0) vT vO vB oC none none) (st (bx (ow (eh A)) (ow (dp B)) n0 n0) (bx (ow Z) (ow (dp C)) n0 n0) vT vO vB vC none none):=
  X1.fj (ds:=[]) rfl (E1.own rfl rfl) (by kernel_rfl) (by simp;exact aA lC (by decide)) (by simp) (by kernel_rfl)
 have Sq:X1 (GG (d+2)) NF (.setAttr 1 (Str.ofString "delay") (.ite (.bin .mod (.sub (.var 0) (.a7 (.int 7))) (.a7 (.int 4))) (.bin .mod (.sub (.var 0) (.a7 (.int 7))) (.a7 (.int 50))) (.a7 .none))) (st (bx (ow (eh A)) (ow (dp B)) n0 n0) (bx (ow Z) (ow (dp C)) n0 n0) vT vO vB vC none none) (st (bx (ow (eh A)) (ow (dp B)) (.val (dD (dO c7))) n0) (bx (ow Z) (ow (dp C)) n0 n0) vT vO vB vC none none):=
  X1.setAttr (UC (i7 _ _ _ _ _ _ _ _)) rfl (by simp) (by kernel_rfl)
 have s13:X1 (GG (d+2)) NF (.setAttr 2 (Str.ofString "delay") (.ite (.bin .mod (.sub (.var 0) (.a7 (.int 8))) (.a7 (.int 4))) (.bin .mod (.sub (.var 0) (.a7 (.int 8))) (.a7 (.int 50))) (.a7 .none))) (st (bx (ow (eh A)) (ow (dp B)) (.val (dD (dO c7))) n0) (bx (ow Z) (ow (dp C)) n0 n0) vT vO vB vC none none) (st (bx (ow (eh A)) (ow (dp B)) (.val (dD (dO c7))) n0) (bx (ow Z) (ow (dp C)) (.val (dD (dO c8))) n0) vT vO vB vC none none):=
  X1.setAttr (UC (i8 _ _ _ _ _ _ _ _)) rfl (by simp) (by kernel_rfl)
 have s14:X1 (GG (d+2)) NF (.setAttr 1 (Str.ofString "req_rate") (.ite (.bin .mod (.sub (.var 0) (.a7 (.int 9))) (.a7 (.int 4))) (.call 12 [(.sub (.var 0) (.a7 (.int 9)))]) (.a7 .none))) (st (bx (ow (eh A)) (ow (dp B)) (.val (dD (dO c7))) n0) (bx (ow Z) (ow (dp C)) (.val (dD (dO c8))) n0) vT vO vB vC none none) (st (bx (ow (eh A)) (ow (dp B)) (.val (dD (dO c7))) (.val (rD (rO c9)))) (bx (ow Z) (ow (dp C)) (.val (dD (dO c8))) n0) vT vO vB vC none none):=
  X1.setAttr (UD (d:=d+1) (i9 _ _ _ _ _ _ _ _)) rfl (by simp) (by kernel_rfl)
 have s15:X1 (GG (d+2)) NF (.setAttr 2 (Str.ofString "req_rate") (.ite (.bin .mod (.sub (.var 0) (.a7 (.int 10))) (.a7 (.int 4))) (.call 12 [(.sub (.var 0) (.a7 (.int 10)))]) (.a7 .none))) (st (bx (ow (eh A)) (ow (dp B)) (.val (dD (dO c7))) (.val (rD (rO c9)))) (bx (ow Z) (ow (dp C)) (.val (dD (dO c8))) n0) vT vO vB vC none none) (st (bx (ow (eh A)) (ow (dp B)) (.val (dD (dO c7))) (.val (rD (rO c9)))) (bx (ow Z) (ow (dp C)) (.val (dD (dO c8))) (.val (rD (rO c10)))) vT vO vB vC none none):=
  X1.setAttr (UD (d:=d+1) (i10 _ _ _ _ _ _ _ _)) rfl (by simp) (by kernel_rfl)
 let one:=gm (eh A) (dp B) (dO c7) (rO c9)
 let two:=gm Z (dp C) (dO c8) (rO c10)
 have g1:E1 (GG (d+2)) (.var 1) (st (bx (ow (eh A)) (ow (dp B)) (.val (dD (dO c7))) (.val (rD (rO c9)))) (bx (ow Z) (ow (dp C)) (.val (dD (dO c8))) (.val (rD (rO c10)))) vT vO vB vC none none) one (st (.val one) (bx (ow Z) (ow (dp C)) (.val (dD (dO c8))) (.val (rD (rO c10)))) vT vO vB vC none none):=E1.var (x:=bx (ow (eh A)) (ow (dp B)) (.val (dD (dO c7))) (.val (rD (rO c9)))) rfl;have g2:E1 (GG (d+2)) (.var 2) (st (.val one) (bx (ow Z) (ow (dp C)) (.val (dD (dO c8))) (.val (rD (rO c10)))) vT vO vB vC none none) two (st (.val one) (.val two) vT vO vB vC none none):=E1.var (x:=bx (ow Z) (ow (dp C)) (.val (dD (dO c8))) (.val (rD (rO c10)))) rfl
 let mg:=gm ((eh A).filter fun y=>Z.contains y) (dp B++dp C) (if(dO c8).isNone then dO c7 else dO c8) (if(rO c10).isNone then rO c9 else rO c10)
 have s16:X1 (GG (d+2)) NF (.assign 7 (.call 7 [(.var 1),(.var 2)])) (st (bx (ow (eh A)) (ow (dp B)) (.val (dD (dO c7))) (.val (rD (rO c9)))) (bx (ow Z) (ow (dp C)) (.val (dD (dO c8))) (.val (rD (rO c10)))) vT vO vB vC none none) (st (.val one) (.val two) vT vO vB vC (some (.val mg)) none):=
  X1.assign (E1.call (.cons g1 (.one g2)) rfl (IQ (aA lT (by decide)) (by simp[Z];exact aA (aJ lO _) (by decide)) (aA lB (by decide)) (aA lC (by decide))))
 have VZ:∀x∈eh A,lit x=true:=wx fun c h=>zl (ha c h);have V0:∀x∈Z,lit x=true:=fun x hx=>by
  rcases aO.mp hx with rfl|hx
  ·decide
  ·exact Bx ha x (List.mem_reverse.mp hx)
 have QT:∀{l:List Int},(∀c∈l,ct c)→∀x∈dp l,lit x=true:=fun{l} h=>wx fun c hc=>ml (mO c).2.1 (zl (h c hc));have eqs:∀{l:List Tx} {a b:PE},(∀x∈l,lit x=true)→E1 (GG (d+2)) a (st (.val one) (.val two) vT vO vB vC (some (.val mg)) none) (.list (l.map .str)) (st (.val one) (.val two) vT vO vB vC (some (.val mg)) none)→E1 (GG (d+2)) b (st (.val one) (.val two) vT vO vB vC (some (.val mg)) none) (.list (l.map .str)) (st (.val one) (.val two) vT vO vB vC (some (.val mg)) none)→E1 (GG (d+2)) (.cmp .eq a b) (st (.val one) (.val two) vT vO vB vC (some (.val mg)) none) (.bool true) (st (.val one) (.val two) vT vO vB vC (some (.val mg)) none):=fun{l a b} h h1 h2=>
  E1.cmp h1 h2 (by show(Im _ _).map _=_;rw[zi (Pl.strs (n:=5) h) (by decide)];rfl)
 have s17:X1 (GG (d+2)) NF (.assign 8 (.band [(.cmp .eq (.attr (.var 1) (Str.ofString "useragents")) (.var 3)),(.cmp .eq (.attr (.var 2) (Str.ofString "useragents")) (.bin .add (.list [(.a7 (.str [122,101,100]))]) (.var 4))),(.cmp .eq (.attr (.var 1) (Str.ofString "rulelines")) (.var 5)),(.cmp .eq (.attr (.var 2) (Str.ofString "rulelines")) (.var 6))])) (st (.val one) (.val two) vT vO vB vC (some (.val mg)) none) (st (.val one) (.val two) vT vO vB vC (some (.val mg)) (some (.val (.bool true)))):=by
  refine X1.assign (E1.band (by simp) fun e he=>?_);simp only[aO,dW,or_false] at he;rcases he with rfl|rfl|rfl|rfl
  ·exact eqs VZ (E1.attr (E1.val rfl rfl) IM) (E1.val rfl rfl)
  ·exact eqs V0 (E1.attr (E1.val rfl rfl) IM) (ez _ _ (E1.val rfl rfl))
  ·exact eqs (QT hb) (E1.attr (E1.val rfl rfl) IP) (E1.val rfl rfl)
  ·exact eqs (QT hc) (E1.attr (E1.val rfl rfl) IP) (E1.val rfl rfl)
 exact cz rfl (Xs.cons (X1.of rfl) (Xs.cons (X1.of rfl) (Xs.cons s3 (Xs.cons s4 (Xs.cons s5 (Xs.cons s6 (Xs.cons s7 (Xs.cons s8 (Xs.cons s9 (Xs.cons s10 (Xs.cons s11 (Xs.cons Sq (Xs.cons s13 (Xs.cons s14 (Xs.cons s15 (Xs.cons s16 (Xs.cons s17 (Xs.ret (E1.tup (.cons (E1.val rfl rfl) (.one (E1.val rfl rfl))) (aa (by simp)))))))))))))))))))))
end
theorem IU(h:CB x=true):clean x:=fun c hc=>by
 have h1:=bQ.mp h c hc;simp only[cG,decide_eq_true_eq] at h1;have:∀c<58,48≤c→plain c=true∧c≠39:=by decide
 exact this c (aA h1.2 (by decide)) h1.1
theorem OR(n:Int):CB (ui n)=true:=(oN (by have h1:=ew (c:=n) (n:=50) (by decide);rw[show((50:Nat):Int)=50 from rfl] at h1;exact aA (aE h1.2) (by decide))).1
theorem uI(n:Int):clean (ui n):=IU (OR n)
theorem Lk(n:Int):clean (RH n):=((uI n).app (b0 (by decide))).app (uI _)
theorem y7(ha:∀c∈a,ct c)(hb:∀c∈b,ct c):∀r∈rowsOf a b dl rt,cj r:=fun r hr=>by
 unfold rowsOf at hr
 split at hr
 ·rw[aK.mp hr]
  exact .plain (b0 rfl) (b0 rfl) (by simp) (by simp) (by decide)
 ·simp only[cB] at hr
  rcases hr with ((hr|hr)|hr)|hr
  ·refine aq (bH.mp hr) fun c hc bq=>?_;subst bq
   exact sU (b0 (by decide)) (by decide) (ha c (cF.mp hc).1)
  ·unfold GD at hr
   split at hr
   ·rw[aK.mp hr]
    exact .plain (b0 (by decide)) (uI _) (by decide) (by have:=mh dl;exact aG this (by decide)) (GB _).2
   ·cases hr
  ·unfold IG at hr
   split at hr
   ·rw[aK.mp hr]
    exact .plain (b0 (by decide)) (Lk _) (by decide) (by have:=mh rt;have:=mh (dY rt 50);simp[RH];lia) (GB _).2
   ·cases hr
  ·unfold M1 at hr
   split at hr
   ·rw[aK.mp hr]
    exact .plain (b0 (by decide)) (b0 rfl) (by decide) (by simp) (by decide)
   ·refine aq (bH.mp hr) fun c hc bq=>?_;subst bq
    exact sU (mO c).2.2 (by have:=(mO c).1;exact aG this (by decide)) (hb c hc)
theorem EX{a b:List Int}(ha:a.length≤4)(hb:b.length≤3):(rowsOf a b dl rt).length≤9∧rowsOf a b dl rt≠[]:=by
 have h1:=LW a;have h2:=LX dl;have h3:=LY rt;unfold rowsOf
 split
 ·simp
 ·rename_i iv
  refine⟨?_,fun q=>?_⟩
  ·unfold M1;split<;>simp<;>lia
  ·simp only[List.append_eq_nil_iff] at q
   exact iv q.1.1.1
theorem OS(a b:Int):(if(dO b).isNone then dO a else dO b)=dO (pick a b):=by
 unfold pick
 by_cases h:bG b 4=0
 ·have:dO b=none:=by unfold dO;simp[h]
  rw[this];simp[h]
 ·have:∃k,dO b=some k:=by unfold dO;simp[h]
  refine eo this fun k hk=>?_;simp[h,hk]
theorem OT(a b:Int):(if(rO b).isNone then rO a else rO b)=rO (pick a b):=by
 unfold pick
 by_cases h:bG b 4=0
 ·have:rO b=none:=by unfold rO;simp[h]
  rw[this];simp[h]
 ·have:∃k,rO b=some k:=by unfold rO;simp[h]
  refine eo this fun k hk=>?_;simp[h,hk]
theorem OU(n:Int):(GD n).map Row.text=qO (dO n):=by
 unfold GD dO
 by_cases h:bG n 4=0<;>simp[h,qO,kY,Row.text,ui]
theorem OV(n:Int):(IG n).map Row.text=q8 (rO n):=by
 unfold IG rO
 by_cases h:bG n 4=0<;>simp[h,q8,kY,Row.text,ui,RH]
theorem OW(l:List Int):(M1 l).map Row.text=if dp l=[] then[ES] else dp l:=by
 unfold M1 dp;cases l with
 |nil=>rfl
 |cons c l=>simp[pT,Row.text]
theorem RZ(h:ct c):(tl c).1≠IT:=by
 unfold ct at h;unfold tl;generalize kk c=k at h
 match k,h with
 |0,_|1,_|2,_|3,_|4,_|5,_|6,_|7,_|8,_=>decide
noncomputable def UG(l:List Int):List Tx:=(eh l).filter fun y=>(IT::(nums l).reverse).contains y
theorem R0(h:∀c∈l,ct c):UG l=(y4 l).map Row.tail:=by
 delta UG eh y4;rw[List.filter_map,bX];have:∀c∈l,((fun y=>(IT::(nums l).reverse).contains y)∘fun c=>(tl c).1) c=decide ((tl c).1∈nums l):=fun c hc=>by
  show(IT::(nums l).reverse).contains (tl c).1=_;rw[gW,fJ,decide_eq_true_iff,aO,List.mem_reverse];exact⟨fun q=>q.resolve_left (RZ (h c hc)),.inr⟩
 rw[jV this];rfl
theorem OX(l:List Int):(y4 l).map Row.text=((y4 l).map Row.tail).map (og++·):=by
 unfold y4;rw[bX,bX,bX];rfl
theorem IV(ha:∀c∈a,ct c):IS (UG a) (dp b) (dO dl) (rO rt)=jn 10 ((rowsOf a b dl rt).map Row.text):=by
 unfold IS rowsOf;rw[R0 ha]
 by_cases h:y4 a=[]
 ·rw[if_pos h,h];rfl
 ·rw[if_neg h,if_neg (by simpa using h)]
  unfold lQ;rw[bR,bR,bR,OU,OV,OW,OX]
theorem IW(a b:List Int):there (a++b)=there a++there b:=by unfold there;rw[cD]
theorem Ll(a b:List Int):dp a++dp b=dp (a++b):=by unfold dp;rw[bR]
noncomputable def pf(y x:Tx):Bool:=y.isPrefixOf x
noncomputable def oj(T:List Tx):List Tx:=T.filter (pf og)
noncomputable def EY(T:List Tx):List Tx:=T.filter (pf uD)
noncomputable def EZ(T:List Tx):List Tx:=T.filter (pf vE)
noncomputable def BC(x:Tx):Bool:=!pf og x&&!pf uD x&&!pf vE x
noncomputable def nF(T:List Tx):List Tx:=T.filter BC
section
variable{G:Gl}
noncomputable def UH{α:Type}(o:α)(g:Tx→α)(d:D):α:=match d with
 |.str x=>g x
 |_=>o
theorem G3{q:Tx→Bool}{h:Tx→D}:∀l:List Tx,((l.map D.str).filter (UH false q)).map (UH .none h)=(l.filter q).map h
 |[]=>rfl
 |c::l=>by
  have ih:=G3 (q:=q) (h:=h) l;cases hq:q c with
  |true=>rw[aN,aX (by exact hq),aX hq,aN,ih];rfl
  |false=>rw[aN,bD (by show ¬q c=true;simp[hq]),bD (by simp[hq]),ih]
theorem E1.Pm{R:xQ→Prop}{iter elt:PE}{cond:Option PE}{l:List Tx}{q:Tx→Bool}{h:Tx→D}{ρ0 ρ1:xQ}(hi:E1 G iter ⟨ρ0,[]⟩ (.list (l.map .str)) ⟨ρ1,[]⟩)(hl:l.length<1000)(h1:R ρ1)
 (hc:∀c∈l,∀ρ,R ρ→∃d8,R d8∧Mc G cond ⟨ρ,[none,some (.str c)]⟩=some (.ok (q c),⟨d8,[none,some (.str c)]⟩)) (he:∀c∈l,q c=true→∀ρ,R ρ→∃d8,R d8∧E1 G elt ⟨ρ,[none,some (.str c)]⟩ (h c) ⟨d8,[none,some (.str c)]⟩):
 ∃d8,R d8∧E1 G (.comp false 1 iter cond elt) ⟨ρ0,[]⟩ (.list ((l.filter q).map h)) ⟨d8,[]⟩:=by
 have Px:∀d∈l.map D.str,∀ρ,R ρ→∃d8,R d8∧Mc G cond ⟨ρ,[none,some d]⟩=some (.ok (UH false q d),⟨d8,[none,some d]⟩):=fun d hd=>by
  refine aq (bH.mp hd) fun c hm bq=>?_;subst bq;exact hc c hm
 have SX:∀d∈l.map D.str,UH false q d=true→∀ρ,R ρ→∃d8,R d8∧E1 G elt ⟨ρ,[none,some d]⟩ (UH .none h d) ⟨d8,[none,some d]⟩:=fun d hd=>by
  refine aq (bH.mp hd) fun c hm bq=>?_;subst bq;exact he c hm
 refine aq (E1.comp (rng:=false) hi (dm (aa (by rw[aM];exact aT hl (by decide)))) h1 Px SX) fun d8 h2 e=>?_;exact⟨d8,h2,by rw[←G3];exact e⟩
theorem zu{T:List Tx}{y:Tx}{o1 o2 o3 o4:Option Slot}(hl:T.length<100):E1 G (.comp false 1 (.var 0) (some (.dz .startswith (.cvar 1) [(.a7 (.str y))])) (.cvar 1)) ⟨[some (.val (.list (T.map .str))),o1,o2,o3,o4],[]⟩ (.list ((T.filter (pf y)).map .str)) ⟨[some (.val (.list (T.map .str))),o1,o2,o3,o4],[]⟩:=by
 refine aq (E1.Pm (G:=G) (R:=fun ρ=>ρ=[some (.val (.list (T.map .str))),o1,o2,o3,o4]) (iter:=.var 0) (cond:=some (.dz .startswith (.cvar 1) [(.a7 (.str y))])) (q:=pf y) (h:=.str) (elt:=.cvar 1) (l:=T) (E1.val rfl rfl) (aA (aE hl) (by decide)) rfl (fun c hc ρ nh=>⟨ρ,nh,T1.dz (E1.cvar rfl) (.one E1.a7) rfl⟩) fun c hc _ ρ nh=>⟨ρ,nh,E1.cvar rfl⟩) fun d8 ay e=>?_;subst ay;exact e
theorem R4{T:List Tx}(h:x∈T):decide (x∈T.filter (pf y))=pf y x:=by
 rw[gW,decide_eq_true_iff,cF];exact⟨fun q=>q.2,fun q=>⟨h,q⟩⟩
theorem CG{T:List Tx}(h:∀x∈T,lit x=true):∀x∈T.filter q,lit x=true:=fun x hx=>h x (cF.mp hx).1
theorem Lm{T:List Tx}(hl:T.length<100)(hT:∀x∈T,lit x=true):∃x1 x2 x3,x1.d=.list ((oj T).map .str)∧x2.d=.list ((EY T).map .str)∧x3.d=.list ((EZ T).map .str)∧
 E1 G (.comp false 1 (.var 0) (some (.band [(.cmp .xM (.cvar 1) (.var 1)),(.cmp .xM (.cvar 1) (.var 2)),(.cmp .xM (.cvar 1) (.var 3))])) (.cvar 1)) ⟨[some (.val (.list (T.map .str))),some (.own ((oj T).map .str)),some (.own ((EY T).map .str)),some (.own ((EZ T).map .str)),none],[]⟩ (.list ((nF T).map .str)) ⟨[some (.val (.list (T.map .str))),some x1,some x2,some x3,none],[]⟩:=by
 let R:xQ→Prop:=fun ρ=>∃x1 x2 x3,x1.d=.list ((oj T).map .str)∧x2.d=.list ((EY T).map .str)∧x3.d=.list ((EZ T).map .str)∧ρ=[some (.val (.list (T.map .str))),some x1,some x2,some x3,none]
 have step:∀{i:Nat} {y c:Tx} {x:Slot} {ρ:xQ},(⟨ρ,[none,some (.str c)]⟩:St).get i=some x→x.d=.list ((T.filter (pf y)).map .str)→c∈T→T1 G (.cmp .xM (.cvar 1) (.var i)) ⟨ρ,[none,some (.str c)]⟩ (!pf y c) (St.put ⟨ρ,[none,some (.str c)]⟩ i (.val x.d)):=fun{i y c x ρ} hg hx hc=>
  T1.cmp (E1.cvar rfl) (E1.var hg) (by
   rw[hx];show(inD (.str c) _).map _=_;rw[Fy (hT c hc) (CG hT),R4 hc];rfl)
 obtain⟨d8,⟨x1,x2,x3,h1,h2,h3,rfl⟩,e⟩:=E1.Pm (G:=G) (R:=R) (iter:=.var 0) (cond:=some (.band [(.cmp .xM (.cvar 1) (.var 1)),(.cmp .xM (.cvar 1) (.var 2)),(.cmp .xM (.cvar 1) (.var 3))])) (q:=BC) (h:=.str) (elt:=.cvar 1) (l:=T) (E1.val rfl rfl) (aA (aE hl) (by decide)) ⟨.own _,.own _,.own _,rfl,rfl,rfl,rfl⟩ (fun c hc ρ nh=>by
  obtain⟨x1,x2,x3,h1,h2,h3,rfl⟩:=nh;have e1:T1 G (.cmp .xM (.cvar 1) (.var 1)) ⟨[some (.val (.list (T.map .str))),some x1,some x2,some x3,none],[none,some (.str c)]⟩ (!pf og c) ⟨[some (.val (.list (T.map .str))),some (.val x1.d),some x2,some x3,none],[none,some (.str c)]⟩:=step (i:=1) (x:=x1) (ρ:=[some (.val (.list (T.map .str))),some x1,some x2,some x3,none]) rfl h1 hc;have e2:T1 G (.cmp .xM (.cvar 1) (.var 2)) ⟨[some (.val (.list (T.map .str))),some (.val x1.d),some x2,some x3,none],[none,some (.str c)]⟩ (!pf uD c) ⟨[some (.val (.list (T.map .str))),some (.val x1.d),some (.val x2.d),some x3,none],[none,some (.str c)]⟩:=step (i:=2) (x:=x2) (ρ:=[some (.val (.list (T.map .str))),some (.val x1.d),some x2,some x3,none]) rfl h2 hc;have e3:T1 G (.cmp .xM (.cvar 1) (.var 3)) ⟨[some (.val (.list (T.map .str))),some (.val x1.d),some (.val x2.d),some x3,none],[none,some (.str c)]⟩ (!pf vE c) ⟨[some (.val (.list (T.map .str))),some (.val x1.d),some (.val x2.d),some (.val x3.d),none],[none,some (.str c)]⟩:=step (i:=3) (x:=x3) (ρ:=[some (.val (.list (T.map .str))),some (.val x1.d),some (.val x2.d),some x3,none]) rfl h3 hc;show ∃d8,R d8∧Mo.bind ((bo G (.cmp .xM (.cvar 1) (.var 1))).2 _) _=_;rw[show(bo G (.cmp .xM (.cvar 1) (.var 1))).2 _=_ from e1];unfold BC;cases pf og c with
  |true=>exact⟨_,⟨.val x1.d,x2,x3,h1,h2,h3,rfl⟩,rfl⟩
  |false=>
   show ∃d8,R d8∧Mo.bind ((bo G (.cmp .xM (.cvar 1) (.var 2))).2 _) _=_;rw[show(bo G (.cmp .xM (.cvar 1) (.var 2))).2 _=_ from e2];cases pf uD c with
   |true=>exact⟨_,⟨.val x1.d,.val x2.d,x3,h1,h2,h3,rfl⟩,rfl⟩
   |false=>
    show ∃d8,R d8∧Mo.bind ((bo G (.cmp .xM (.cvar 1) (.var 3))).2 _) _=_;rw[show(bo G (.cmp .xM (.cvar 1) (.var 3))).2 _=_ from e3];cases pf vE c with
    |true=>exact⟨_,⟨.val x1.d,.val x2.d,.val x3.d,h1,h2,h3,rfl⟩,rfl⟩
    |false=>exact⟨_,⟨.val x1.d,.val x2.d,.val x3.d,h1,h2,h3,rfl⟩,rfl⟩) fun c hc _ ρ nh=>⟨ρ,nh,E1.cvar rfl⟩
 exact⟨x1,x2,x3,h1,h2,h3,e⟩
noncomputable def Ln(T:List Tx):D:=.tup [.list ((oj T).map .str),.list ((EY T).map .str),.list ((EZ T).map .str),.list ((nF T).map .str)]
theorem xG{T:List Tx}(hl:T.length<100)(hT:∀x∈T,lit x=true):runK G (1,5,nr) [.list (T.map .str)]=some (.ok (Ln T)):=by
 obtain⟨x1,x2,x3,h1,h2,h3,e⟩:=Lm (G:=G) hl hT;have v1:=E1.var (G:=G) (i:=1) (x:=x1) (σ:=⟨[some (.val (.list (T.map .str))),some x1,some x2,some x3,some (.own ((nF T).map .str))],[]⟩) rfl;have v2:=E1.var (G:=G) (i:=2) (x:=x2) (σ:=⟨[some (.val (.list (T.map .str))),some (.val x1.d),some x2,some x3,some (.own ((nF T).map .str))],[]⟩) rfl;have v3:=E1.var (G:=G) (i:=3) (x:=x3) (σ:=⟨[some (.val (.list (T.map .str))),some (.val x1.d),some (.val x2.d),some x3,some (.own ((nF T).map .str))],[]⟩) rfl;have v4:E1 G (.var 4) ⟨[some (.val (.list (T.map .str))),some (.val x1.d),some (.val x2.d),some (.val x3.d),some (.own ((nF T).map .str))],[]⟩ (.list ((nF T).map .str)) ⟨[some (.val (.list (T.map .str))),some (.val x1.d),some (.val x2.d),some (.val x3.d),some (.val (.list ((nF T).map .str)))],[]⟩:=E1.own rfl rfl;have et:=E1.tup (.cons v1 (.cons v2 (.cons v3 (.one v4)))) (aa (by simp));rw[h1,h2,h3] at et;exact cz rfl (Xs.cons (X1.assign (zu hl)) (Xs.cons (X1.assign (zu hl)) (Xs.cons (X1.assign (zu hl)) (Xs.cons (X1.assign e) (Xs.ret et)))))
end
section
variable{d:Nat}
theorem uJ{x:Tx}(h:j≤x.length)(hl:x.length<1000):km (.str x) (.int (j:Int)) .none=some (.ok (.str (x.drop j))):=by
 show(if x.length≤sizeLine then(match dq (some (j:Int)) 0 x.length,dq none x.length x.length with|some i,some j=>iu (.str (cut i j x))|_,_=>none) else none)=_;rw[if_pos (aa (aA (aE hl) (by decide)))];have e1:dq none x.length x.length=some x.length:=rfl;have e2:dq (some (j:Int)) 0 x.length=some j:=by simp[dq];lia
 rw[e1,e2];show some (R.ok (D.str (cut j x.length x)))=_;unfold cut;rw[cK (by simp)]
theorem X1.fm{fs QQ:List (Str×FS)}{ds:List D}{σ σ1:St}(ho:σ.get i=some (.obj fs))(h:E1 G e (σ.hide i) y σ1)(hx:fs.lookup x=some (.own ds))(hl:ds.length<1000)(hs:setField fs x (.own (ds++[y]))=QQ):X1 G n (.fm i x e) σ (σ1.put i (.obj QQ)):=by
 refine(Sd (m:=fun o σ=>(au (ir G e σ)).bind (rW i x o)) ho).trans ((af (cu h)).trans ?_);show((fs.lookup x).bind fun u=>vX u fun ds=>if ds.length+1≤sizeLine then Mo.ok Fl.next (σ1.put i (.obj (setField fs x (.own (ds++[y]))))) else none)=_;rw[hx];exact(if_pos (aa (aA (aJ (aE hl) _) (by decide)))).trans (by rw[hs];rfl)
noncomputable def u3(T A Dl Rt O:List Tx)(s:Slot)(o6 o7 o8:Option Slot):St:=⟨[some (.val (.list (T.map .str))),some (.val (.list (A.map .str))),some (.val (.list (Dl.map .str))),some (.val (.list (Rt.map .str))),some (.val (.list (O.map .str))),some s,o6,o7,o8],[]⟩
section
variable{G:Gl}{T A Dl Rt O:List Tx}{o7 o8:Option Slot}
theorem Pn:∀{l ua:List Tx} {o6:Option Slot},(∀x∈l,12≤x.length∧x.length<100)→ua.length+l.length<900→∃u5,forM true [6] (cx G NF [.fm 5 (Str.ofString "useragents") (.slice (.var 6) (.a7 (.int 12)) (.a7 .none))]) (l.map .str) (u3 T A Dl Rt O (bx (ow ua) ru dl rt) o6 o7 o8)=some (.ok .next,u3 T A Dl Rt O (bx (ow (ua++l.map (·.drop 12))) ru dl rt) u5 o7 o8)
 |[],ua,o6,_,_=>⟨o6,by rw[dK,dK,bN];rfl⟩
 |x::l,ua,o6,h,hl=>by
  simp only[bA] at hl;obtain⟨h1,h2⟩:=h x (.head _);obtain⟨u5,e⟩:=Pn (ru:=ru) (dl:=dl) (rt:=rt) (l:=l) (ua:=ua++[x.drop 12]) (o6:=some (.val (.str x))) (fun y hy=>h y (.tail _ hy)) (by simp;exact aA (bO (cC _ _ _)) hl);refine⟨u5,?_⟩;have hb:X1 G NF (.fm 5 (Str.ofString "useragents") (.slice (.var 6) (.a7 (.int 12)) (.a7 .none))) (u3 T A Dl Rt O (bx (ow ua) ru dl rt) (some (.val (.str x))) o7 o8) (u3 T A Dl Rt O (bx (.own (ua.map .str++[.str (x.drop 12)])) ru dl rt) (some (.val (.str x))) o7 o8):=
   X1.fm (ds:=ua.map .str) rfl (E1.slice (E1.val rfl rfl) E1.a7 E1.a7 (uJ (j:=12) h1 (aA (aE h2) (by decide)))) (by kernel_rfl) (by rw[aM];exact cV (cL (aG (aZ hl) (by decide)))) (by kernel_rfl)
  rw[←jO (f:=D.str),←bR] at hb;rw[aN];rw[jb (show bindTo true [6] (.str x) (u3 T A Dl Rt O (bx (ow ua) ru dl rt) o6 o7 o8)=some (u3 T A Dl Rt O (bx (ow ua) ru dl rt) (some (.val (.str x))) o7 o8) from rfl)];rw[show cx G NF [.fm 5 (Str.ofString "useragents") (.slice (.var 6) (.a7 (.int 12)) (.a7 .none))] _=_ from Xs.one hb];refine hH e ?_;rw[aN,bZ];rfl
theorem Po:∀{l ru:List Tx} {o6:Option Slot},ru.length+l.length<900→∃u5,forM true [6] (cx G NF [.fm 5 (Str.ofString "rulelines") (.var 6)]) (l.map .str) (u3 T A Dl Rt O (bx ua (ow ru) dl rt) o6 o7 o8)=some (.ok .next,u3 T A Dl Rt O (bx ua (ow (ru++l)) dl rt) u5 o7 o8)
 |[],ru,o6,_=>⟨o6,by rw[dK,bN];rfl⟩
 |x::l,ru,o6,hl=>by
  simp only[bA] at hl;obtain⟨u5,e⟩:=Po (ua:=ua) (dl:=dl) (rt:=rt) (l:=l) (ru:=ru++[x]) (o6:=some (.val (.str x))) (by simp;exact aA (bO (cC _ _ _)) hl);refine⟨u5,?_⟩;have hb:X1 G NF (.fm 5 (Str.ofString "rulelines") (.var 6)) (u3 T A Dl Rt O (bx ua (ow ru) dl rt) (some (.val (.str x))) o7 o8) (u3 T A Dl Rt O (bx ua (.own (ru.map .str++[.str x])) dl rt) (some (.val (.str x))) o7 o8):=
   X1.fm (ds:=ru.map .str) rfl (E1.val rfl rfl) (by kernel_rfl) (by rw[aM];exact cV (cL (aG (aZ hl) (by decide)))) (by kernel_rfl)
  rw[←jO (f:=D.str),←bR] at hb;rw[aN];rw[jb (show bindTo true [6] (.str x) (u3 T A Dl Rt O (bx ua (ow ru) dl rt) o6 o7 o8)=some (u3 T A Dl Rt O (bx ua (ow ru) dl rt) (some (.val (.str x))) o7 o8) from rfl)];rw[show cx G NF [.fm 5 (Str.ofString "rulelines") (.var 6)] _=_ from Xs.one hb];refine hH e ?_;rw[bZ];rfl
end
end
noncomputable def Wa(rt:Option (Nat×Nat)):Prop:=∀a b,rt=some (a,b)→a<50∧b<50
theorem OY{G:Gl}{a b:Nat}(ha:a<50)(hb:b<50):runK G (1,2,nj) [.int ((a:Int)+50*(b:Int))]=some (.ok (rD (some (a,b)))):=by
 have h:=Bv (G:=G) (c:=(a:Int)+50*(b:Int));rw[show bG ((a:Int)+50*(b:Int)) 50=(a:Int) by rw[Int.fmod_eq_emod_of_nonneg _ (by decide)];lia,
  show bG (dY ((a:Int)+50*(b:Int)) 50) 50=(b:Int) by rw[Int.fdiv_eq_ediv_of_nonneg _ (by decide),Int.fmod_eq_emod_of_nonneg _ (by decide)];lia] at h
 exact h
section
variable{d:Nat}
theorem R5{y x:Tx}(h:pf y x=true):y.length≤x.length:=(eL.mp h).length_le
noncomputable abbrev Yf:PS:=.setAttr 5 (Str.ofString "delay") (.fn .int (.slice (.var 6) (.a7 (.int 13)) (.a7 .none)))
noncomputable abbrev UI:PS:=.unpack [7,8] (.dz .split (.slice (.var 6) (.a7 (.int 14)) (.a7 .none)) [(.a7 (.str [47]))])
noncomputable abbrev UJ:PS:=.setAttr 5 (Str.ofString "req_rate") (.call 12 [(.bin .add (.fn .int (.var 7)) (.bin .mul (.a7 (.int 50)) (.fn .int (.var 8))))])
theorem G4(h1:bindTo true [6] x σ=some ai)(h2:Xs G NF b ai (.ok .next de)):forM true [6] (cx G NF b) [x] σ=.ok .next de:=by
 rw[jb h1,show cx G NF b ai=_ from h2];rfl
theorem UK(dg:(digits k).length≤2):km (.str (uD++digits k)) (.int 13) .none=some (.ok (.str (digits k))):=uJ (x:=uD++digits k) (j:=13) (by simp[uD]) (by simp[uD];exact aA (aJ dg 13) (by decide))
noncomputable abbrev R6(a b:Nat):Tx:=vE++(digits a++([47]++digits b))
theorem UL(d1:(digits a).length≤2)(d2:(digits b).length≤2):km (.str (R6 a b)) (.int 14) .none=some (.ok (.str (jn 47 [digits a,digits b]))):=uJ (x:=R6 a b) (j:=14) (by simp[vE,R6]) (by simp[vE,R6];exact aA (aJ (aU d1 (aJ d2 _)) 14) (by decide))
theorem UM(h:(b:Int).natAbs<2^20):rP .mul (.int 50) (.int b)=some (.ok (.int (50*(b:Int)))):=by
 show(if(50:Int).natAbs<2^20∧(b:Int).natAbs<2^20 then iu (.int (50*(b:Int))) else none)=_;rw[if_pos ⟨by decide,h⟩];rfl
section
variable{T A Dl Rt O:List Tx}{U:FS}{e:FS}{o6:Option Slot}
theorem R7(hk:k<100):X1 (GG (d+2)) NF Yf (u3 T A Dl Rt O (bx U (.own []) (.val .none) (.val .none)) (some (.val (.str (uD++digits k)))) none none) (u3 T A Dl Rt O (bx U (.own []) (.val (cq k)) (.val .none)) (some (.val (.str (uD++digits k)))) none none):=
 X1.setAttr (d:=cq k) (E1.fn (E1.slice (E1.val rfl rfl) E1.a7 E1.a7 (UK (bl hk))) (fun fs q=>by cases q) (vH hk)) rfl (by simp) (by kernel_rfl)
theorem UN(YP:RV dl):∃u5,X1 (GG (d+2)) NF (.kc false true [6] (.var 2) [Yf]) (u3 T A (qO dl) Rt O (bx U (.own []) (.val .none) (.val .none)) o6 none none) (u3 T A (qO dl) Rt O (bx U (.own []) (.val (dD dl)) (.val .none)) u5 none none):=by
 cases dl with
 |none=>exact⟨o6,X1.nE (E1.val rfl rfl) (dm (aa (by simp[qO]))) rfl⟩
 |some k=>exact⟨some (.val (.str (uD++digits k))),X1.nE (E1.val rfl rfl) (dm (aa (by simp[qO]))) (G4 rfl (Xs.one (R7 (YP k rfl))))⟩
theorem R8(d1:(digits a).length≤2)(d2:(digits b).length≤2)(h1:47∉digits a)(h2:47∉digits b):X1 (GG (d+2)) NF UI (u3 T A Dl Rt O (bx U (.own []) e (.val .none)) (some (.val (.str (R6 a b)))) none none) (u3 T A Dl Rt O (bx U (.own []) e (.val .none)) (some (.val (.str (R6 a b)))) (some (.val (.str (digits a)))) (some (.val (.str (digits b))))):=
 X1.unpack (E1.dz (E1.slice (E1.val rfl rfl) E1.a7 E1.a7 (UL d1 d2)) (.one E1.a7) (mj (c:=47) (l:=[digits a,digits b]) (by simp) (fun x hx=>by
  simp only[aO,dW,or_false] at hx;rcases hx with rfl|rfl
  ·exact h1
  ·exact h2) (by simp[jn];exact aA (aU d1 (aJ d2 _)) (by decide)))) rfl
theorem R9{a b:Nat}(ha:a<50)(hb:b<50)(CM:a<100)(uK:b<100)(XS:(b:Int).natAbs<2^20):X1 (GG (d+2)) NF UJ (u3 T A Dl Rt O (bx U (.own []) e (.val .none)) o6 (some (.val (.str (digits a)))) (some (.val (.str (digits b))))) (u3 T A Dl Rt O (bx U (.own []) e (.val (rD (some (a,b))))) o6 (some (.val (.str (digits a)))) (some (.val (.str (digits b))))):=
 X1.setAttr (E1.call (.one (E1.bin (E1.fn (E1.val rfl rfl) (fun fs q=>by cases q) (vH CM)) (E1.bin E1.a7 (E1.fn (E1.val rfl rfl) (fun fs q=>by cases q) (vH uK)) (UM XS)) rfl)) rfl (OY ha hb)) rfl (by simp) (by kernel_rfl)
theorem UO{rt:Option (Nat×Nat)}(V1:Wa rt):∃Oq o7 o8,X1 (GG (d+2)) NF (.kc false true [6] (.var 3) [UI,UJ]) (u3 T A Dl (q8 rt) O (bx U (.own []) e (.val .none)) o6 none none) (u3 T A Dl (q8 rt) O (bx U (.own []) e (.val (rD rt))) Oq o7 o8):=by
 rcases rt with _|⟨a,b⟩
 ·exact⟨o6,none,none,X1.nE (E1.val rfl rfl) (dm (aa (by simp[q8]))) rfl⟩
 ·obtain⟨ha,hb⟩:=V1 a b rfl
  have CM:a<100:=aT ha (by decide);have uK:b<100:=aT hb (by decide);exact⟨some (.val (.str (R6 a b))),some (.val (.str (digits a))),some (.val (.str (digits b))),X1.nE (E1.val rfl rfl) (dm (aa (by simp[q8]))) (G4 rfl (Xs.cons (R8 (bl CM) (bl uK) (show 47∉digits a from xC (oN CM).1 (by decide)) (show 47∉digits b from xC (oN uK).1 (by decide))) (Xs.one (R9 ha hb CM uK (show b<2^20 from aT hb (by decide))))))⟩
end
theorem Lo{T:List Tx}(hl:T.length<100)(hT:∀x∈T,lit x=true)(hs:∀x∈T,x.length<100)(hd:EY T=qO dl)(hr:EZ T=q8 rt)(YP:RV dl)(V1:Wa rt):
 runK (GG (d+2)) (1,9,qg) [.list (T.map .str)]=some (.ok (gm ((oj T).map (·.drop 12)) (nF T) dl rt)):=by
 have la:(oj T).length<100:=aA (bS _ _) hl;have lo:(nF T).length<100:=aA (bS _ _) hl;have ld:=GW dl;have lr:=GX rt;have s0:X1 (GG (d+2)) NF (.unpack [1,2,3,4] (.call 19 [(.var 0)])) ⟨[some (.val (.list (T.map .str))),none,none,none,none,none,none,none,none],[]⟩ ⟨[some (.val (.list (T.map .str))),some (.val (.list ((oj T).map .str))),some (.val (.list ((qO dl).map .str))),some (.val (.list ((q8 rt).map .str))),some (.val (.list ((nF T).map .str))),none,none,none,none],[]⟩:=by
  have:=xG (G:=GG (d+1)) hl hT;unfold Ln at this;rw[hd,hr] at this;exact X1.unpack (E1.call (.one (E1.val rfl rfl)) rfl this) rfl
 refine eo (Pn (G:=GG (d+2)) (T:=T) (A:=oj T) (Dl:=qO dl) (Rt:=q8 rt) (O:=nF T) (o7:=none) (o8:=none) (ru:=.own []) (dl:=.val .none) (rt:=.val .none) (l:=oj T) (ua:=[]) (o6:=none) (fun x hx=>⟨R5 (cF.mp hx).2,hs x (cF.mp hx).1⟩) (by simp;exact aA (aE la) (by decide))) fun o6 e2=>?_;rw[eV] at e2
 let U:=ow ((oj T).map (·.drop 12))
 have s2:X1 (GG (d+2)) NF (.kc false true [6] (.var 1) [.fm 5 (Str.ofString "useragents") (.slice (.var 6) (.a7 (.int 12)) (.a7 .none))]) (u3 T (oj T) (qO dl) (q8 rt) (nF T) ky none none none) (u3 T (oj T) (qO dl) (q8 rt) (nF T) (bx U (.own []) (.val .none) (.val .none)) o6 none none):=
  X1.nE (E1.val rfl rfl) (dm (aa (by rw[aM];exact aT la (by decide)))) e2
 refine eo (UN (d:=d) (T:=T) (A:=oj T) (Rt:=q8 rt) (O:=nF T) (U:=U) (o6:=o6) YP) fun u5 s3=>?_;refine Gj (UO (d:=d) (T:=T) (A:=oj T) (Dl:=qO dl) (O:=nF T) (U:=U) (e:=.val (dD dl)) (o6:=u5) V1) fun Oq o7 o8 s4=>?_;refine eo (Po (G:=GG (d+2)) (T:=T) (A:=oj T) (Dl:=qO dl) (Rt:=q8 rt) (O:=nF T) (o7:=o7) (o8:=o8) (ua:=U) (dl:=.val (dD dl)) (rt:=.val (rD rt)) (l:=nF T) (ru:=[]) (o6:=Oq) (by simp;exact aA (aE lo) (by decide))) fun o6c e5=>?_;rw[eV] at e5;have s5:X1 (GG (d+2)) NF (.kc false true [6] (.var 4) [.fm 5 (Str.ofString "rulelines") (.var 6)]) (u3 T (oj T) (qO dl) (q8 rt) (nF T) (bx U (.own []) (.val (dD dl)) (.val (rD rt))) Oq o7 o8) (u3 T (oj T) (qO dl) (q8 rt) (nF T) (bx U (ow (nF T)) (.val (dD dl)) (.val (rD rt))) o6c o7 o8):=
  X1.nE (E1.val rfl rfl) (dm (aa (by rw[aM];exact aT lo (by decide)))) e5
 exact cz rfl (Xs.cons s0 (Xs.cons (X1.of rfl) (Xs.cons s2 (Xs.cons s3 (Xs.cons s4 (Xs.cons s5 (Xs.ret (E1.var (x:=bx U (ow (nF T)) (.val (dD dl)) (.val (rD rt))) rfl))))))))
end
noncomputable def ki(T:List Tx):List Tx:=if oj T=[] then[[]] else oj T++EY T++EZ T++(if nF T=[] then[ES] else nF T)
section
variable{d:Nat}
theorem E0{T:List Tx}(hl:T.length<100)(hT:∀x∈T,lit x=true):runK (GG (d+1)) (1,5,nu) [.list (T.map .str)]=some (.ok (.list ((ki T).map .str))):=by
 have la:(oj T).length<100:=aA (bS _ _) hl;have ld:(EY T).length<100:=aA (bS _ _) hl;have lr:(EZ T).length<100:=aA (bS _ _) hl;have lo:(nF T).length<100:=aA (bS _ _) hl
 let st:St:=⟨[some (.val (.list (T.map .str))),some (.val (.list ((oj T).map .str))),some (.val (.list ((EY T).map .str))),some (.val (.list ((EZ T).map .str))),some (.val (.list ((nF T).map .str)))],[]⟩
 have s0:X1 (GG (d+1)) NF (.unpack [1,2,3,4] (.call 19 [(.var 0)])) ⟨[some (.val (.list (T.map .str))),none,none,none,none],[]⟩ st:=X1.unpack (E1.call (.one (E1.val rfl rfl)) rfl (xG (G:=GG d) hl hT)) rfl;have t1:T1 (GG (d+1)) (.var 1) st (!((oj T).map D.str).isEmpty) st:=T1.var rfl (jo (by rw[aM];exact aT la (by decide)));unfold ki
 by_cases h:oj T=[]
 ·rw[if_pos h]
  have e:(!((oj T).map D.str).isEmpty)=false:=by rw[h];rfl
  rw[e] at t1;exact cz rfl (Xs.cons s0 (Xs.gz (t:=true) (T1.not t1) (Xs.ret (E1.of rfl))))
 ·rw[if_neg h]
  have e:(!((oj T).map D.str).isEmpty)=true:=by cases ha:oj T with|nil=>exact absurd ha h|cons _ _=>rfl
  rw[e] at t1;have t4:T1 (GG (d+1)) (.var 4) st (!((nF T).map D.str).isEmpty) st:=T1.var rfl (jo (by rw[aM];exact aT lo (by decide)));have e4:E1 (GG (d+1)) (.ite (.var 4) (.var 4) (.list [(.a7 (.str ES))])) st (.list ((if nF T=[] then[ES] else nF T).map .str)) st:=by
   by_cases ho:nF T=[]
   ·have e:(!((nF T).map D.str).isEmpty)=false:=by rw[ho];rfl
    rw[e] at t4;rw[if_pos ho];exact E1.ite (t:=false) t4 (E1.list (.one E1.a7) (aa (by simp)))
   ·have e:(!((nF T).map D.str).isEmpty)=true:=by cases ha:nF T with|nil=>exact absurd ha ho|cons _ _=>rfl
    rw[e] at t4;rw[if_neg ho];exact E1.ite (t:=true) t4 (E1.val rfl rfl)
  have lq:(if nF T=[] then[ES] else nF T).length<100:=by
   split
   ·simp
   ·exact lo
  have ea:E1 (GG (d+1)) (.bin .add (.bin .add (.bin .add (.var 1) (.var 2)) (.var 3)) (.ite (.var 4) (.var 4) (.list [(.a7 (.str ES))]))) st (.list ((oj T++EY T++EZ T++(if nF T=[] then[ES] else nF T)).map .str)) st:=by
   rw[bR,bR,bR];exact E1.bin (E1.bin (E1.bin (E1.val rfl rfl) (E1.val rfl rfl) (add_list (by simp;lia))) (E1.val rfl rfl) (add_list (by simp;lia))) e4 (add_list (by simp at lq ⊢;lia))
  exact cz rfl (Xs.cons s0 (Xs.cons (X1.skip (T1.not (b:=true) t1)) (Xs.ret ea)))
end
noncomputable def good(rs:List Row):List Row:=rs.filter fun r=>decide (r.fault=[])
theorem Lp(h:∀r∈rs,r.fault=[]):good rs=rs:=List.filter_eq_self.mpr fun r hr=>decide_eq_true (h r hr)
theorem y8:∀rs:List Row,good (gn rs)=good rs
 |[]=>rfl
 |r::rs=>by
  unfold gn
  by_cases h:r.fault=[]
  ·have ih:=y8 rs
   unfold good at ih ⊢;rw[if_pos h,aX (by simpa using h),aX (by simpa using h),ih]
  ·unfold good
   rw[if_neg h,bD (by simpa using h)]
theorem y9:∀{n:Nat} {rs:List Row},rs.length<n→(rF n rs).getLast?=some (outs (good rs),[])
 |n+1,rs,h=>by
  by_cases hw:∀r∈rs,r.fault=[]
  ·have e0:=sW (l:=1) (ts:=[]) hw
   rw[rF,if_pos (by rw[e0]),e0,Lp hw];rfl
  ·obtain⟨r,hr,ln,a1,a2,a3,a4,a5,a6⟩:=n8 (rs:=rs) (l:=1) (ts:=[]) hw
   have ih:=y9 (n:=n) (rs:=gn rs) (fC (aA (bO a6) h));rw[rF,if_neg (by rw[a2];exact qH),←y8 rs];cases hd:rF n (gn rs) with
   |nil=>rw[hd] at ih;cases ih
   |cons x l=>rw[hd] at ih;rw[List.getLast?_cons_cons];exact ih
theorem sY{r:Row}(h:r∈good rs):r∈rs∧r.fault=[]:=by
 obtain⟨h1,h2⟩:=cF.mp h;exact⟨h1,of_decide_eq_true h2⟩
theorem n9(a b:List Row):outs (a++b)=outs a++outs b:=List.flatMap_append ..
theorem ng(a b:List Row):good (a++b)=good a++good b:=cD ..
theorem CH:∀{rs:List Row},(∀r∈rs,cj r)→(outs rs).length≤2*rs.length
 |[],_=>by simp[outs]
 |r::rs,h=>by
  have ih:=CH fun y hy=>h y (.tail _ hy);have:=(uG (h r (.head _))).1;unfold outs at ih ⊢;rw[jX,aV,bA];lia
theorem IX{r:Row}(h:cj r)(hf:r.fault=[]):∀x∈r.out,clean x∧x.length≤60:=fun x hx=>by
 cases h with
 |plain h1 h2 h3 h4 h5=>
  rw[aK.mp (show x∈[_] from hx)];exact⟨h1.app h2,by simp;exact aG (aU h3 h4) (by decide)⟩
 |M7=>exact absurd (show wq=[] from hf) (by decide)
 |bad=>exact absurd (show kX++xn=[] from hf) (by decide)
 |br=>exact absurd (show wm=[] from hf) (by decide)
 |two h1 h2 h3=>
  rcases aO.mp (show x∈[_,_] from hx) with rfl|hx
  ·exact⟨h1.app (b0 (by decide)),by simp;exact aG h2 (by decide)⟩
  ·rw[aK.mp hx];exact⟨b0 (by decide),by simp⟩
 |rem h1 h2 h3=>
  rw[aK.mp (show x∈[_] from hx)];exact⟨h1.app (b0 (by decide)),by simp;exact aG h2 (by decide)⟩
 |emp h1 h2 h3=>
  rcases aO.mp (show x∈[_,_] from hx) with rfl|hx
  ·exact⟨h1.app (b0 (by decide)),by simp;exact aG h2 (by decide)⟩
  ·rw[aK.mp hx];exact⟨b0 rfl,by simp⟩
theorem IY{r:Row}(h:cj r)(ht:r.tail.length≤8):∀x∈r.out,x.length≤40:=fun x hx=>by
 have hl:=h.La.1;cases h with
 |plain h1 h2 h3 h4 h5=>rw[aK.mp (show x∈[_] from hx)];simp at ht hl ⊢;exact aG (aU h3 ht) (by decide)
 |M7 h1 h2 h3=>rw[aK.mp (show x∈[_] from hx)];simp;exact aG h2 (by decide)
 |bad=>cases hx
 |two h1 h2 h3=>
  rcases aO.mp (show x∈[_,_] from hx) with rfl|hx
  ·simp;exact aG h2 (by decide)
  ·rw[aK.mp hx];simp
 |rem h1 h2 h3=>rw[aK.mp (show x∈[_] from hx)];simp;exact aG h2 (by decide)
 |br h1 h2 h3=>rw[aK.mp (show x∈[_] from hx)];simp;exact aG h2 (by decide)
 |emp h1 h2 h3=>
  rcases aO.mp (show x∈[_,_] from hx) with rfl|hx
  ·simp;exact aG h2 (by decide)
  ·rw[aK.mp hx];simp
noncomputable def M4(x:Tx):Bool:=match x with
 |[]=>true
 |c::_=>c !=67&&c !=82
theorem zv(h:M4 x=true):pf uD x=false∧pf vE x=false:=by
 cases x with
 |nil=>exact⟨rfl,rfl⟩
 |cons c r=>
  have h':c≠67∧c≠82:=by simpa [M4] using h
  delta pf uD vE;simp only[List.isPrefixOf];rw[beq_eq_false_iff_ne.mpr (Ne.symm h'.1),beq_eq_false_iff_ne.mpr (Ne.symm h'.2)];exact⟨rfl,rfl⟩
theorem OZ(h:M4 a=true)(iv:a≠[]):M4 (a++t)=true:=by
 cases a with
 |nil=>exact absurd rfl iv
 |cons c r=>exact h
theorem Lq{r:Row}(h:cj r)(hn:M4 r.ahead=true)(iv:r.ahead≠[]):∀x∈r.out,M4 x=true:=fun x hx=>by
 have h1:∀t:Tx,M4 (r.ahead++t)=true:=fun t=>OZ hn iv;cases h with
 |plain=>rw[aK.mp (show x∈[_] from hx)];exact h1 _
 |M7=>rw[aK.mp (show x∈[_] from hx)];exact h1 _
 |bad=>cases hx
 |two=>
  rcases aO.mp (show x∈[_,_] from hx) with rfl|hx
  ·exact h1 _
  ·rw[aK.mp hx];rfl
 |rem=>rw[aK.mp (show x∈[_] from hx)];exact h1 _
 |br=>rw[aK.mp (show x∈[_] from hx)];exact h1 _
 |emp=>
  rcases aO.mp (show x∈[_,_] from hx) with rfl|hx
  ·exact h1 _
  ·rw[aK.mp hx];rfl
theorem xH(h:x∈outs rs):∃r∈rs,x∈r.out:=List.mem_flatMap.mp h
theorem G5(n:Int):outs (good (GD n))=qO (dO n):=by
 unfold GD dO
 by_cases h:bG n 4=0<;>simp[h,qO,kY,good,outs,Row.out,ui]
theorem G6(n:Int):outs (good (IG n))=q8 (rO n):=by
 unfold IG rO
 by_cases h:bG n 4=0<;>simp[h,q8,kY,good,outs,Row.out,ui,RH]
theorem qJ{l:List Tx}(h:∀x∈l,q x=false):l.filter q=[]:=List.filter_eq_nil_iff.mpr fun x hx=>by rw[h x hx];simp
theorem Pp(h:∀c∈l,ct c):∀x∈outs (good (y4 l)),M4 x=true:=fun x hx=>by
 refine aq (xH hx) fun r hr hx=>?_;refine aq (bH.mp (sY hr).1) fun c hc bq=>?_;subst bq;exact Lq (sU (b0 (by decide)) (by decide) (h c (cF.mp hc).1)) (by rfl) (by simp[pT,og]) x hx
theorem G7(c:Int):M4 (word c)=true∧word c≠[]:=by
 have h:=(GA c).2;unfold word;generalize wd c=k at h
 match k,h with
 |0,_|1,_|2,_=>exact⟨by decide,by decide⟩
theorem Pr(h:∀c∈l,ct c):∀x∈outs (good (M1 l)),M4 x=true:=fun x hx=>by
 refine aq (xH hx) fun r hr hx=>?_;have hr:=(sY hr).1;unfold M1 at hr
 split at hr
 ·rw[aK.mp hr] at hx
  rw[aK.mp (show x∈[_] from hx)];rfl
 ·refine aq (bH.mp hr) fun c hc bq=>?_;subst bq
  exact Lq (sU (mO c).2.2 (by have:=(mO c).1;exact aG this (by decide)) (h c hc)) (G7 c).1 (G7 c).2 x hx
theorem E4(ha:∀c∈a,ct c)(hb:∀c∈b,ct c):∃d r,EY (outs (good (rowsOf a b dl rt)))=qO d∧EZ (outs (good (rowsOf a b dl rt)))=q8 r∧RV d∧Wa r:=by
 unfold rowsOf
 by_cases h:y4 a=[]
 ·rw[if_pos h]
  exact⟨none,none,rfl,rfl,fun k h=>(by cases h),fun a b h=>(by cases h)⟩
 ·rw[if_neg h]
  refine⟨dO dl,rO rt,?_,?_,Pk dl,fun x y xR=>?_⟩
  ·unfold EY
   rw[ng,ng,ng,n9,n9,n9,G5,G6,cD,cD,cD,qJ fun x hx=>(zv (Pp ha x hx)).1,qJ fun x hx=>(zv (Pr hb x hx)).1];rw[show(qO (dO dl)).filter (pf uD)=qO (dO dl) by cases dO dl with|none=>rfl|some k=>rfl,show(q8 (rO rt)).filter (pf uD)=[] by rcases rO rt with _|⟨x,y⟩<;>rfl];simp
  ·unfold EZ
   rw[ng,ng,ng,n9,n9,n9,G5,G6,cD,cD,cD,qJ fun x hx=>(zv (Pp ha x hx)).2,qJ fun x hx=>(zv (Pr hb x hx)).2];rw[show(qO (dO dl)).filter (pf vE)=[] by cases dO dl with|none=>rfl|some k=>rfl,show(q8 (rO rt)).filter (pf vE)=q8 (rO rt) by rcases rO rt with _|⟨x,y⟩<;>rfl];simp
  ·unfold rO at xR
   split at xR
   ·cases xR
    have h1:=ew (c:=rt) (n:=50) (by decide);have h2:=ew (c:=dY rt 50) (n:=50) (by decide);exact⟨h1.2,h2.2⟩
   ·cases xR
theorem IZ(ha:∀c∈a,ct c)(hb:∀c∈b,ct c):∀r∈rowsOf a b dl rt,r.tail.length≤8:=fun r hr=>by
 unfold rowsOf at hr
 split at hr
 ·rw[aK.mp hr];simp[kY]
 ·simp only[cB] at hr
  rcases hr with ((hr|hr)|hr)|hr
  ·refine aq (bH.mp hr) fun c hc bq=>?_;subst bq
   exact xF c (ha c (cF.mp hc).1)
  ·unfold GD at hr
   split at hr
   ·rw[aK.mp hr];have:=mh dl;simp[kY];exact aG this (by decide)
   ·cases hr
  ·unfold IG at hr
   split at hr
   ·rw[aK.mp hr];have:=mh rt;have:=mh (dY rt 50);simp[kY,RH];lia
   ·cases hr
  ·unfold M1 at hr
   split at hr
   ·rw[aK.mp hr];simp[kY]
   ·refine aq (bH.mp hr) fun c hc bq=>?_;subst bq
    exact xF c (hb c hc)
theorem gv(h:clean x):lit x=true:=bQ.mpr fun c hc=>by
 have:=(h c hc).1;simp only[plain,cG,decide_eq_true_eq] at this ⊢;exact aA (aE this.2) (by decide)
noncomputable def Ts(T:List Tx):Prop:=∀x∈T,clean x∧x.length≤40
theorem O0(ha:∀c∈a,ct c)(hb:∀c∈b,ct c):Ts (outs (good (rowsOf a b dl rt))):=fun x hx=>by
 refine aq (xH hx) fun r hr hx=>?_;refine ka (sY hr) fun h1 h2=>?_;have ok:=y7 ha hb r h1;exact⟨(IX ok h2 x hx).1,IY ok (IZ ha hb r h1) x hx⟩
theorem Ts.filter{T:List Tx}(h:Ts T):Ts (T.filter q):=fun x hx=>h x (cF.mp hx).1
theorem Ts.app(h:Ts T)(h':Ts U):Ts (T++U):=fun x hx=>(cB.mp hx).elim (h x) (h' x)
theorem Ts.sort(h:Ts T):Ts (ki T):=by
 unfold ki
 split
 ·intro x hx;rw[aK.mp hx];exact⟨b0 rfl,by simp⟩
 ·refine((h.filter.app h.filter).app h.filter).app ?_
  split
  ·intro x hx;rw[aK.mp hx];exact⟨b0 (by decide),by decide⟩
  ·exact h.filter
theorem O3(T:List Tx):ki T≠[]:=by
 unfold ki
 split
 ·simp
 ·rename_i h;simp[h]
theorem Pu(h:pf (c::y) x=true):∃r,x=c::r:=by
 obtain⟨t,e⟩:=eL.mp h;exact⟨y++t,e.symm⟩
theorem I0(x:Tx):(if pf og x=true then 1 else 0)+(if pf uD x=true then 1 else 0)+(if pf vE x=true then 1 else 0)+(if BC x=true then 1 else 0)≤1:=by
 unfold BC;cases h1:pf og x with
 |true=>
  refine eo (Pu h1) fun r ay=>?_;subst ay;rw[show pf uD (85::r)=false from rfl,show pf vE (85::r)=false from rfl];decide
 |false=>
  cases h2:pf uD x with
  |true=>
   refine eo (Pu h2) fun r ay=>?_;subst ay;rw[show pf vE (67::r)=false from rfl];decide
  |false=>cases pf vE x<;>decide
theorem ya:∀T:List Tx,(oj T).length+(EY T).length+(EZ T).length+(nF T).length≤T.length
 |[]=>by simp[oj,EY,EZ,nF]
 |x::T=>by
  have ih:=ya T;have h:=I0 x;have f:∀q:Tx→Bool,((x::T).filter q).length=(if q x=true then 1 else 0)+(T.filter q).length:=fun q=>by
   cases hq:q x with
   |true=>rw[aX hq,bA,if_pos rfl];exact Nat.add_comm _ _
   |false=>rw[bD (by simp[hq]),if_neg (by simp)];exact Eq.symm (jC (cS _))
  unfold oj EY EZ nF at *;rw[f,f,f,f,bA]
  lia
theorem Lr{T:List Tx}(h:T.length≤18):(ki T).length≤19:=by
 have:=ya T;unfold ki
 split
 ·simp
 ·split<;>simp<;>lia
theorem I1(hd:EY T=qO d)(hr:EZ T=q8 r):IS ((oj T).map (·.drop 12)) (nF T) d r=jn 10 (ki T):=by
 unfold IS ki
 by_cases h:oj T=[]
 ·rw[if_pos h,if_pos (by rw[h];rfl)];rfl
 ·rw[if_neg h,if_neg (by simpa using h)]
  unfold lQ;rw[hd,hr,bX];have:(oj T).map ((fun x=>og++x)∘fun x=>x.drop 12)=oj T:=by
   refine(jA fun x hx=>?_).trans (List.map_id _);obtain⟨t,e⟩:=eL.mp (cF.mp hx).2;show og++x.drop 12=x;rw[←e,show(og++t).drop 12=t from gJ (l₁:=og)]
  rw[this]
theorem E5(c:Nat):∀l:List Tx,(jn c l).length≤(l.map (·.length)).sum+l.length
 |[]=>by simp[jn]
 |[x]=>by simp[jn]
 |x::y::r=>by
  have ih:=E5 c (y::r);simp only[jn,aV,bA,aN,List.sum_cons] at ih ⊢;lia
section
variable{G:Gl}
theorem comp_map{l:List D}(hi:E1 G iter ⟨ρ,[]⟩ (.list l) ⟨ρ,[]⟩)(hl:l.length<1000)(he:∀x∈l,E1 G elt ⟨ρ,[none,some x]⟩ (f x) ⟨ρ,[none,some x]⟩):E1 G (.comp false 1 iter none elt) ⟨ρ,[]⟩ (.list (l.map f)) ⟨ρ,[]⟩:=by
 obtain⟨d8,rfl,e⟩:=E1.comp (G:=G) (R:=fun d8=>d8=ρ) (rng:=false) (cond:=none) (p:=fun _=>true) (f:=f) hi (dm (aa (aA (aE hl) (by decide)))) rfl (fun x hx d8 nh=>⟨d8,nh,rfl⟩) fun x hx _ d8 nh=>⟨d8,nh,by subst nh;exact he x hx⟩;rw[pX] at e;exact e
noncomputable def fTx(d:D):D:=match d with
 |.tup (.str a::.str t::_)=>.str (a++t)
 |_=>.none
noncomputable def UP(d:D):D:=match d with
 |.tup [_,_,_,_,_,x]=>x
 |_=>.none
noncomputable def fPr(d:D):D:=.tup [d,.int 0]
theorem E1.zip(ha:E1 G a σ x σ1)(hb:E1 G b σ1 y σ2)(h:Gv x y=some (.ok z)):E1 G (.zip a b) σ z σ2:=(af ha).trans ((af hb).trans (of_ok h))
theorem zip_rows:∀rs:List Row,kI (fun x y=>D.tup [x,y]) ((rs.map Row.text).map D.str) ((rs.map bg).map UP)=rs.map pr
 |[]=>rfl
 |r::rs=>by
  have ih:=zip_rows rs;simp only[aN,List.zipWith_cons_cons,ih];rfl
theorem G8(ha:E1 G a σ x σ1)(hb:E1 G b σ1 x σ2)(h:Pl n x)(hn:n≤64):T1 G (.cmp .ne a b) σ false σ2:=T1.cmp ha hb (by show(Im _ _).map _=_;rw[zi h hn];rfl)
theorem CI(ha:E1 G a σ x σ1)(hb:E1 G b σ1 x σ2)(h:Pl n x)(hn:n≤64):E1 G (.cmp .eq a b) σ (.bool true) σ2:=E1.cmp ha hb (by show(Im _ _).map _=_;rw[zi h hn];rfl)
theorem zw{p:List Tx×Tx}(h:∀x∈p.1,lit x=true)(h2:lit p.2=true):Pl 5 (pairD p):=.tup fun x hx=>by
 simp only[aO,dW,or_false] at hx;rcases hx with rfl|rfl
 ·exact Pl.strs (n:=3) h
 ·exact .str h2
theorem CJ:∀{rs:List Row} {l:Nat} {ts:List Tx},(∀r∈rs,cj r)→(∀x∈ts,lit x=true)→l+3*rs.length<90→(∀x∈(cb rs l ts).1,lit x=true)∧lit (cb rs l ts).2=true
 |[],l,ts,_,ht,_=>⟨ht,rfl⟩
 |r::rs,l,ts,h,ht,hl=>by
  simp only[bA] at hl;have hr:=h r (.head _);have AK:b7 l r.ax≤l+3:=by unfold b7;split<;>lia
  have ho:∀x∈ts++r.out,lit x=true:=fun x hx=>(cB.mp hx).elim (ht x) fun hx=>by
   cases hr with
   |plain h1 h2=>rw[aK.mp (show x∈[_] from hx)];exact gv (h1.app h2)
   |M7 h1=>rw[aK.mp (show x∈[_] from hx)];exact gv (h1.app (b0 (by decide)))
   |bad=>cases hx
   |two h1=>
    rcases aO.mp (show x∈[_,_] from hx) with rfl|hx
    ·exact gv (h1.app (b0 (by decide)))
    ·rw[aK.mp hx];rfl
   |rem h1=>rw[aK.mp (show x∈[_] from hx)];exact gv (h1.app (b0 (by decide)))
   |br h1=>rw[aK.mp (show x∈[_] from hx)];exact gv (h1.app (b0 (by decide)))
   |emp h1=>
    rcases aO.mp (show x∈[_,_] from hx) with rfl|hx
    ·exact gv (h1.app (b0 (by decide)))
    ·rw[aK.mp hx];rfl
  by_cases hf:r.fault=[]
  ·rw[show cb (r::rs) l ts=cb rs (b7 l r.ax) (ts++r.out) by simp[cb,hf]]
   exact CJ (fun y hy=>h y (.tail _ hy)) ho (by lia)
  ·rw[show cb (r::rs) l ts=(ts++r.out,ja r.fault (b7 l r.ax) (r.ahead.length+r.sign+2)) by simp[cb,hf]]
   exact⟨ho,pV (hr.fault.resolve_left hf) (by lia) (vI hr)⟩
theorem yb:∀rs:List Row,(gn rs).length≤rs.length
 |[]=>bB _
 |r::rs=>by
  have:=yb rs;unfold gn;split<;>simp<;>exact this
theorem G9:∀{n:Nat} {rs:List Row},(∀r∈rs,cj r)→rs.length≤20→∀x∈(rF n rs).map pairD,Pl 5 x
 |0,rs,_,_,x,hx=>(nomatch hx)
 |n+1,rs,h,hl,x,hx=>by
  have h0:=CJ (l:=1) (ts:=[]) h (fun x hx=>(nomatch hx)) (aA (bI (bM _ hl) _) (by decide));rw[rF] at hx
  split at hx
  ·rw[aK.mp (show x∈[_] from hx)];exact zw h0.1 h0.2
  ·rcases aO.mp (show x∈_::_ from hx) with rfl|hx
   ·exact zw h0.1 h0.2
   ·exact G9 (fun r hr=>h r (qI hr)) (aG (yb rs) hl) x hx
end
theorem T1.Wb(h1:T1 G a σ false σ1)(h2:T1 G b σ1 false σ2):T1 G (.bor [a,b]) σ false σ2:=by
 show Mo.bind ((bo G a).2 σ) _=_;rw[show(bo G a).2 σ=_ from h1];show Mo.bind ((bo G b).2 σ1) _=_;rw[show(bo G b).2 σ1=_ from h2];rfl
theorem Ls{G:Gl}{x cs mg:D}{fs:List (Str×D)}{rows:List Row}{T:List Tx}{told:List D}{ent:List (Str×D)}{again:List Tx}{nums:D}{doc:Tx}{F:Nat→List D→Option (R D)}(hmg:mg=.inst fs)
 (g8:G.fn 8=some (F 8)) (g13:G.fn 13=some (F 13)) (g14:G.fn 14=some (F 14)) (g0:G.fn 0=some (F 0)) (g17:G.fn 17=some (F 17)) (g18:G.fn 18=some (F 18)) (g20:G.fn 20=some (F 20)) (g15:G.fn 15=some (F 15)) (g16:G.fn 16=some (F 16)) (g21:G.fn 21=some (F 21))
 (r8:F 8 [x]=some (.ok cs)) (V2:F 13 [cs]=some (.ok (.tup [mg,.bool true]))) (YQ:F 14 [cs]=some (.ok (.list (rows.map bg)))) (r0:F 0 [.inst fs]=some (.ok (.str (jn 10 (rows.map Row.text))))) (iv:rows≠[]) (QU:∀r∈rows,cj r) (hlen:rows.length≤20)
 (YR:F 17 [.list (rows.map pr)]=some (.ok (.list told))) (YS:F 18 [.list (rows.map bg)]=some (.ok (.list told))) (hpl:∀d∈told,Pl 5 d) (MO:told.getLast?=some (.tup [.list (T.map .str),.str []]))
 (YT:F 20 [.list (T.map .str)]=some (.ok (.inst ent))) (Vo:F 0 [.inst ent]=some (.ok (.str (jn 10 again)))) (ha:again≠[]) (S4:Ts again) (C3:again.length≤20)
 (Vp:F 15 [.list (again.map fun y=>.tup [.str y,.int 0])]=some (.ok (.tup [.str doc,nums]))) (YU:F 21 [.list (T.map .str)]=some (.ok (.list (again.map .str)))) (V3:F 16 [.str doc]=some (.ok (.tup [.list (again.map .str),.str []]))):
 runK G (1,12,Gw) [x]=some (.ok (.bool true)):=by
 have nice:∀r∈rows,r.nice:=fun r hr=>(QU r hr).nice;have YV:∀y∈rows.map Row.text,lit y=true:=fun y hy=>by
  refine aq (bH.mp hy) fun r hr bq=>?_;subst bq;have:∀{r:Row},cj r→lit r.text=true:=fun{r} h=>by
   have app:∀{ah t:Tx},clean ah→lit t=true→lit (ah++t)=true:=fun h1 h2=>ml (gv h1) h2;cases h with
   |plain h1 h2=>exact app h1 (gv h2)
   |M7 h1=>exact app h1 (by rfl)
   |bad h1=>exact app h1 (by rfl)
   |two h1=>exact app h1 (by rfl)
   |rem h1=>exact app h1 (by rfl)
   |br h1=>exact app h1 (by rfl)
   |emp h1=>exact app h1 (by rfl)
  exact this (QU r hr)
 have YW:∀y∈again,y.length<100:=fun y hy=>by have:=(S4 y hy).2;exact aA this (by decide)
 have YX:∀y∈rows.map Row.text,y.length<100:=fun y hy=>by
  refine aq (bH.mp hy) fun r hr bq=>?_;subst bq;have:=(nice r hr).2.1;exact aA this (by decide)
 have sp1:iq .split (.str (jn 10 (rows.map Row.text))) [.str [10]]=some (.ok (.list ((rows.map Row.text).map .str))):=mj (by simpa using iv) (fun y hy q=>by
  refine aq (bH.mp hy) fun r hr bq=>?_;subst bq;exact(nice r hr).1 10 q rfl) (by have h1:=E5 10 (rows.map Row.text);have h2:=zq YX;rw[aM] at h1 h2;exact aA (aG h1 (aU (aG h2 (bM _ hlen)) hlen)) (by decide))
 have sp2:iq .split (.str (jn 10 again)) [.str [10]]=some (.ok (.list (again.map .str))):=mj ha (fun y hy q=>qF (S4 y hy).1 10 q rfl) (by have h1:=E5 10 again;have h2:=zq YW;exact aA (aG h1 (aU (aG h2 (bM _ C3)) C3)) (by decide));have V4:∀y∈again,lit y=true:=fun y hy=>gv (S4 y hy).1
 let L:D:=.list ((rows.map Row.text).map .str)
 let YY:D:=.list (rows.map bg)
 let s5:Option Slot→Option Slot→Option Slot→Option Slot→Option Slot→Option Slot→St:=fun o6 o7 o8 o9 o10 o11=>⟨[some (.val x),some (.val cs),some (.val mg),some (.val (.bool true)),some (.val YY),some (.val L),o6,o7,o8,o9,o10,o11],[]⟩
 have e1:X1 G NF (.assign 1 (.call 8 [(.var 0)])) ⟨[some (.val x),none,none,none,none,none,none,none,none,none,none,none],[]⟩ ⟨[some (.val x),some (.val cs),none,none,none,none,none,none,none,none,none,none],[]⟩:=X1.assign (E1.call (.one (E1.val rfl rfl)) g8 r8);have e2:X1 G NF (.unpack [2,3] (.call 13 [(.var 1)])) ⟨[some (.val x),some (.val cs),none,none,none,none,none,none,none,none,none,none],[]⟩ ⟨[some (.val x),some (.val cs),some (.val mg),some (.val (.bool true)),none,none,none,none,none,none,none,none],[]⟩:=X1.unpack (E1.call (.one (E1.val rfl rfl)) g13 V2) rfl;have e3:X1 G NF (.assign 4 (.call 14 [(.var 1)])) ⟨[some (.val x),some (.val cs),some (.val mg),some (.val (.bool true)),none,none,none,none,none,none,none,none],[]⟩ ⟨[some (.val x),some (.val cs),some (.val mg),some (.val (.bool true)),some (.val YY),none,none,none,none,none,none,none],[]⟩:=X1.assign (E1.call (.one (E1.val rfl rfl)) g14 YQ);have e4:X1 G NF (.assign 5 (.dz .split (.fn .str (.var 2)) [(.a7 (.str [10]))])) ⟨[some (.val x),some (.val cs),some (.val mg),some (.val (.bool true)),some (.val YY),none,none,none,none,none,none,none],[]⟩ (s5 none none none none none none):=by
  subst hmg;exact X1.assign (E1.dz (E1.UB (fs:=fs) (E1.val rfl rfl) g0 r0) (.one E1.a7) sp1)
 have V5:E1 G (.comp false 1 (.var 4) none (.bin .add (.sub (.cvar 1) (.a7 (.int 0))) (.sub (.cvar 1) (.a7 (.int 1))))) (s5 none none none none none none) L (s5 none none none none none none):=by
  have:=comp_map (G:=G) (iter:=.var 4) (elt:=.bin .add (.sub (.cvar 1) (.a7 (.int 0))) (.sub (.cvar 1) (.a7 (.int 1)))) (l:=rows.map bg) (f:=fTx) (ρ:=(s5 none none none none none none).ρ) (E1.val rfl rfl) (by rw[aM];exact aA hlen (by decide)) fun y hy=>by
   refine aq (bH.mp hy) fun r hr bq=>?_;subst bq;have:=(nice r hr).2.1;exact E1.bin (E1.sub (y:=.int 0) (z:=.str r.ahead) (E1.cvar rfl) E1.a7 rfl) (E1.sub (y:=.int 1) (z:=.str r.tail) (E1.cvar rfl) E1.a7 rfl) (add_str (by unfold Row.text at this;rw[aV] at this;exact aA this (by decide)))
  rw[bX] at this;show E1 G _ _ (.list ((rows.map Row.text).map .str)) _;rw[bX];exact this
 have e5:X1 G NF (.gz (.bor [(.sa (.var 3)),(.cmp .ne (.var 5) (.comp false 1 (.var 4) none (.bin .add (.sub (.cvar 1) (.a7 (.int 0))) (.sub (.cvar 1) (.a7 (.int 1))))))]) [.ret (.a7 (.bool false))] []) (s5 none none none none none none) (s5 none none none none none none):=by
  have t1:T1 G (.sa (.var 3)) (s5 none none none none none none) false (s5 none none none none none none):=T1.not (b:=true) (T1.var (x:=.val (.bool true)) rfl rfl);have t2:=G8 (a:=.var 5) (E1.val rfl rfl) V5 (Pl.strs (n:=3) YV) (by decide);exact X1.skip (T1.Wb t1 t2)
 have QI:E1 G (.comp false 1 (.var 4) none (.sub (.cvar 1) (.a7 (.int 5)))) (s5 none none none none none none) (.list ((rows.map bg).map UP)) (s5 none none none none none none):=
  comp_map (ρ:=(s5 none none none none none none).ρ) (E1.val rfl rfl) (by rw[aM];exact aA hlen (by decide)) fun y hy=>by
   refine aq (bH.mp hy) fun r hr bq=>?_;subst bq;exact E1.sub (y:=.int 5) (E1.cvar rfl) E1.a7 rfl
 have hz:Gv L (.list ((rows.map bg).map UP))=some (.ok (.list (rows.map pr))):=by
  show(if((rows.map Row.text).map D.str).length≤1024∧((rows.map bg).map UP).length≤1024 then iu (.list (kI (fun x y=>D.tup [x,y]) ((rows.map Row.text).map D.str) ((rows.map bg).map UP))) else none)=_;rw[if_pos (by simp;exact aG hlen (by decide)),zip_rows];rfl
 have e6:X1 G NF (.assign 6 (.call 17 [(.zip (.var 5) (.comp false 1 (.var 4) none (.sub (.cvar 1) (.a7 (.int 5)))))])) (s5 none none none none none none) (s5 (some (.val (.list told))) none none none none none):=
  X1.assign (E1.call (.one (E1.zip (E1.val rfl rfl) QI hz)) g17 YR)
 have e7:X1 G NF (.assign 7 (.call 18 [(.var 4)])) (s5 (some (.val (.list told))) none none none none none) (s5 (some (.val (.list told))) (some (.val (.list told))) none none none none):=X1.assign (E1.call (.one (E1.val rfl rfl)) g18 YS);have e8:X1 G NF (.gz (.cmp .ne (.var 6) (.var 7)) [.ret (.a7 (.bool false))] []) (s5 (some (.val (.list told))) (some (.val (.list told))) none none none none) (s5 (some (.val (.list told))) (some (.val (.list told))) none none none none):=X1.skip (G8 (E1.val rfl rfl) (E1.val rfl rfl) (Pl.list (n:=5) hpl) (by decide));have hm1:tB (.list told) (.int (-1))=some (.ok (.tup [.list (T.map .str),.str []])):=by
  show told.getLast?.map R.ok=_;rw[MO];rfl
 let tv:Option Slot:=some (.val (.list told))
 let Tv:Option Slot:=some (.val (.list (T.map .str)))
 have e9:X1 G NF (.assign 8 (.sub (.sub (.var 6) (.a7 (.int (-1)))) (.a7 (.int 0)))) (s5 tv tv none none none none) (s5 tv tv Tv none none none):=X1.assign (E1.sub (E1.sub (E1.val rfl rfl) E1.a7 hm1) E1.a7 rfl)
 let Av:Option Slot:=some (.val (.list (again.map .str)))
 have e10:X1 G NF (.assign 9 (.dz .split (.fn .str (.call 20 [(.var 8)])) [(.a7 (.str [10]))])) (s5 tv tv Tv none none none) (s5 tv tv Tv Av none none):=X1.assign (E1.dz (E1.UB (E1.call (.one (E1.val rfl rfl)) g20 YT) g0 Vo) (.one E1.a7) sp2);have hpr:E1 G (.comp false 1 (.var 9) none (.tup [(.cvar 1),(.a7 (.int 0))])) (s5 tv tv Tv Av none none) (.list (again.map fun y=>.tup [.str y,.int 0])) (s5 tv tv Tv Av none none):=by
  have:=comp_map (G:=G) (iter:=.var 9) (elt:=.tup [(.cvar 1),(.a7 (.int 0))]) (l:=again.map .str) (f:=fPr) (ρ:=(s5 tv tv Tv Av none none).ρ) (E1.val rfl rfl) (by rw[aM];exact aA C3 (by decide)) fun y hy=>E1.tup (.cons (E1.cvar rfl) (.one E1.a7)) (aa (by simp));rw[bX] at this;exact this
 have e11:X1 G NF (.unpack [10,11] (.call 15 [(.comp false 1 (.var 9) none (.tup [(.cvar 1),(.a7 (.int 0))]))])) (s5 tv tv Tv Av none none) (s5 tv tv Tv Av (some (.val (.str doc))) (some (.val nums))):=X1.unpack (E1.call (.one hpr) g15 Vp) rfl
 let Sq:=s5 tv tv Tv Av (some (.val (.str doc))) (some (.val nums))
 have v9:E1 G (.var 9) Sq (.list (again.map .str)) Sq:=E1.val rfl rfl;have e12:E1 G (.band [(.cmp .eq (.var 9) (.call 21 [(.var 8)])),(.cmp .eq (.call 16 [(.var 10)]) (.tup [(.var 9),(.a7 (.str []))]))]) Sq (.bool true) Sq:=E1.band (by simp) fun e he=>by
  simp only[aO,dW,or_false] at he;rcases he with rfl|rfl
  ·exact CI v9 (E1.call (.one (E1.val rfl rfl)) g21 YU) (Pl.strs (n:=3) V4) (by decide)
  ·exact CI (E1.call (.one (E1.val rfl rfl)) g16 V3) (E1.tup (.cons v9 (.one E1.a7)) (aa (by simp))) (zw (p:=(again,[])) V4 rfl) (by decide)
 exact cz rfl (Xs.cons e1 (Xs.cons e2 (Xs.cons e3 (Xs.cons e4 (Xs.cons e5 (Xs.cons e6 (Xs.cons e7 (Xs.cons e8 (Xs.cons e9 (Xs.cons e10 (Xs.cons e11 (Xs.ret e12))))))))))))
theorem I2(ns:List Int)(hn:ns.length≤63):runK (GG 5) (1,12,Gw) [.list (ns.map .int)]=some (.ok (.bool true)):=by
 obtain⟨c0,c1,c2,c3,c4,c5,c6,c7,c8,c9,c10,r8⟩:=IE (G:=GG 4) hn;have V2:=EW (d:=2) (c0:=c0) (c1:=c1) (c2:=c2) (c3:=c3) (c4:=c4) (c5:=c5) (c6:=c6) (c7:=c7) (c8:=c8) (c9:=c9) (c10:=c10);have YQ:=L3 (d:=3) (c0:=c0) (c1:=c1) (c2:=c2) (c3:=c3) (c4:=c4) (c5:=c5) (c6:=c6) (c7:=c7) (c8:=c8) (c9:=c9) (c10:=c10);rw[Ll,←IW,OS,OT] at V2;have la:(there [c0,c1,c2,c3]).length≤4:=mM _;have lb:(there [c4,c5,c6]).length≤3:=mM _;have ha:∀c∈there [c0,c1,c2,c3],ct c:=fun c=>mL;have hb:∀c∈there [c4,c5,c6],ct c:=fun c=>mL;rw[show there ([c4,c5]++[c6])=there [c4,c5,c6] from rfl] at V2;generalize there [c0,c1,c2,c3]=A at *;generalize there [c4,c5,c6]=B at *;generalize pick c7 c8=dl at *;generalize pick c9 c10=rt at *;refine ka (EX (a:=A) (b:=B) (dl:=dl) (rt:=rt) la lb) fun hl iv=>?_;have QU:=y7 (dl:=dl) (rt:=rt) ha hb;have MP:=O0 (dl:=dl) (rt:=rt) ha hb;obtain⟨d',r',hd,hr,Z3,Z4⟩:=E4 (dl:=dl) (rt:=rt) ha hb;have V6:(outs (good (rowsOf A B dl rt))).length≤18:=by
  have:=CH (rs:=good (rowsOf A B dl rt)) fun r hr=>QU r (sY hr).1;have:(good (rowsOf A B dl rt)).length≤(rowsOf A B dl rt).length:=bS _ _
  lia
 have r0:=GY (G:=GG 4) (ua:=UG A) (ru:=dp B) (dl:=dO dl) (rt:=rO rt) (fun y hy=>by
  refine aq (bH.mp (cF.mp hy).1) fun c hc bq=>?_;subst bq;have:=xF c (ha c hc);exact aA this (by decide)) (by
  have:(UG A).length≤(eh A).length:=bS _ _;have h2:(eh A).length=A.length:=aM ..
  lia) (fun y hy=>by
  refine aq (bH.mp hy) fun c hc bq=>?_;subst bq;have:=xF c (hb c hc);have:=(mO c).1;rw[aV];lia) (by
  have h2:(dp B).length=B.length:=aM ..
  lia) (Pk dl) (UE rt)
 rw[IV (dl:=dl) (rt:=rt) (b:=B) ha] at r0;have YR:=EV (d:=0) QU (aG hl (by decide));have YS:=OI (G:=GG 4) QU (aG hl (by decide));have MO:=y9 (n:=(rowsOf A B dl rt).length+1) (rs:=rowsOf A B dl rt) (bB _);generalize outs (good (rowsOf A B dl rt))=T at *;have V7:∀x∈T,lit x=true:=fun x hx=>gv (MP x hx).1;have YT:=Lo (d:=2) (T:=T) (dl:=d') (rt:=r') (aA V6 (by decide)) V7 (fun x hx=>by have:=(MP x hx).2;exact aA this (by decide)) hd hr Z3 Z4;have V1:UA r':=fun a b h=>by have:=Z4 a b h;exact And.intro (aA (aE this.1) (by decide)) (aA (aE this.2) (by decide))
 have Vo:=GY (G:=GG 4) (ua:=(oj T).map (·.drop 12)) (ru:=nF T) (dl:=d') (rt:=r') (fun y hy=>by
  refine aq (bH.mp hy) fun z hz bq=>?_;subst bq;have:=(MP z (cF.mp hz).1).2;rw[List.length_drop];exact aA (aG (Nat.sub_le _ _) this) (by decide)) (by
  rw[aM];have:(oj T).length≤T.length:=bS _ _;exact aA (aG this V6) (by decide)) (fun y hy=>by have:=(MP y (cF.mp hy).1).2;exact aA this (by decide)) (by
  have:(nF T).length≤T.length:=bS _ _;exact aA (aG this V6) (by decide)) Z3 V1
 rw[I1 hd hr] at Vo;have S4:=MP.sort;have C3:=Lr V6;have V8:∀r∈(ki T).map fun y=>kY [] y 0,cj r:=fun r hr=>by
  refine aq (bH.mp hr) fun y hy bq=>?_;subst bq;exact .plain (b0 rfl) (S4 y hy).1 (by simp) (S4 y hy).2 (by decide)
 have Vp:=u2 (G:=GG 4) (rs:=(ki T).map fun y=>kY [] y 0) (fun r hr=>(V8 r hr).nice) (by rw[aM];exact aA C3 (by decide));have V3:=Bz (d:=1) (rs:=(ki T).map fun y=>kY [] y 0) V8 (by rw[aM];exact aG C3 (by decide));rw[sW fun r hr=>by
  refine aq (bH.mp hr) fun y hy bq=>?_;subst bq;rfl] at V3
 have ho:outs ((ki T).map fun y=>kY [] y 0)=ki T:=by
  generalize ki T=l
  induction l with
  |nil=>rfl
  |cons x l ih=>unfold outs at ih ⊢;rw[aN,jX,ih];rfl
 rw[eV,ho] at V3;have YU:=E0 (d:=3) (T:=T) (aA V6 (by decide)) V7;have e15:((ki T).map fun y=>kY [] y 0).map pr=(ki T).map fun y=>.tup [.str y,.int 0]:=by rw[bX];rfl
 rw[e15] at Vp;exact Ls (F:=fun k xs=>match tab k with|some t=>runK (GG 4) t xs|none=>none) rfl rfl rfl rfl rfl rfl rfl rfl rfl rfl rfl r8 V2 YQ r0 iv QU (aG hl (by decide)) YR YS (G9 QU (aG hl (by decide))) (by rw[List.getLast?_map,MO];rfl) YT Vo (O3 T) S4 (aG C3 (by decide)) Vp YU V3
end Mine.Internal
namespace Mine.Internal
open PySem PyProof.Rows
open MineH.Internal (pp LZ)
noncomputable abbrev ZV:=MineH.Internal.V
noncomputable def fdOf(o:Obj):FuncData:=match o.data with
 |.func fd=>fd
 |_=>default
noncomputable def bodyOf(fd:FuncData):List Stmt:=match fd.body with
 |.stmts b=>b
 |_=>[]
noncomputable def nG(fd:FuncData):List Str:=(fd.params.args++fd.params.kwonlyargs).map (·.arg)
noncomputable def zo(P:Params)(a b c d e f g h:ZV)(x:Addr):Obj:=(LZ P a b c d e f g h).getD x default
noncomputable def Lu(fd:FuncData)(k:Nat)(t:Nat×Nat×List PS):Bool:=
 (match fd.body with|.stmts _=>true|_=>false)&&fd.closure.isEmpty&&fd.globals==eH&&fd.builtins==fB&&fd.scope.kind==.function&&!fd.scope.isCoroutine&&!fd.scope.isGenerator&&
 decide ((fd.scope.names.map (·.1)).Nodup)&&(fd.scope.names.take (nG fd).length==(nG fd).map fun x=>(x,NameKind.local))&&decide ((nG fd).Nodup)&&(nG fd).length==t.1&&F6 fd.scope.names t.2.2 (bodyOf fd)
theorem vK{fd:FuncData}{t:Nat×Nat×List PS}(h:Lu fd k t=true)(hb:∀vs:List Value,vs.length=(nG fd).length→bindArgs fd ⟨vs.take (xf k),(MV k).zip (vs.drop (xf k))⟩=pure ((nG fd).zip vs)):
 oS fd (bodyOf fd) (nG fd) (xf k) (MV k)∧(nG fd).length=t.1∧F6 fd.scope.names t.2.2 (bodyOf fd)=true:=by
 have j1:=a1 (a1 h);have j2:=a1 (a1 j1);have j3:=a1 (a1 j2);have j4:=a1 (a1 j3);have j5:=a1 (a1 j4);refine⟨⟨?_,hb,cM.mp (a2 j5),eq_of_beq (a2 (a1 j4)),eq_of_beq (a2 j4),eq_of_beq (a2 (a1 j3)),(dZ _).mp (a2 j3),(dZ _).mp (a2 (a1 j2)),of_decide_eq_true (a2 j2),fun i x hi=>?_,of_decide_eq_true (a2 j1)⟩,eq_of_beq (a2 (a1 h)),a2 h⟩
 ·have h1:=a1 j5
  unfold bodyOf;revert h1;cases fd.body with
  |stmts b=>exact fun _=>rfl
  |_=>exact fun h=>nomatch h
 ·have h9:=congrArg (·[i]?) (eq_of_beq (a2 (a1 j1)))
  rw[hK (bL.mp hi).1,dN,hi] at h9;exact h9
theorem ic{l:List Value}(h:l.length=n+1):∃x t,l=x::t∧t.length=n:=by
 cases l with
 |nil=>cases h
 |cons x t=>exact⟨x,t,rfl,Nat.succ.inj h⟩
@[reducible] noncomputable def oP(fd:FuncData)(m:Nat)(kn:List Str)(vs:List Value):Prop:=bindArgs fd ⟨vs.take m,kn.zip (vs.drop m)⟩=pure ((nG fd).zip vs)
section
variable{fd:FuncData}{m:Nat}{kn:List Str}
theorem ie(hl:(nG fd).length=1)(h:∀x,oP fd m kn [x])(vs:List Value)(hv:vs.length=(nG fd).length):oP fd m kn vs:=by
 refine iw (ic (hv.trans hl)) fun x t e h1=>?_;rw[e,eZ.mp h1];exact h x
theorem xI(hl:(nG fd).length=2)(h:∀x y,oP fd m kn [x,y])(vs:List Value)(hv:vs.length=(nG fd).length):oP fd m kn vs:=by
 refine iw (ic (hv.trans hl)) fun x t e h1=>?_;refine iw (ic h1) fun y t e2 h1=>?_;rw[e,e2,eZ.mp h1];exact h x y
theorem Lv(hl:(nG fd).length=3)(h:∀x y z,oP fd m kn [x,y,z])(vs:List Value)(hv:vs.length=(nG fd).length):oP fd m kn vs:=by
 refine iw (ic (hv.trans hl)) fun x t e h1=>?_;refine iw (ic h1) fun y t e2 h1=>?_;refine iw (ic h1) fun z t e3 h1=>?_;rw[e,e2,e3,eZ.mp h1];exact h x y z
theorem Ra(hl:(nG fd).length=5)(h:∀x y z u v,oP fd m kn [x,y,z,u,v])(vs:List Value)(hv:vs.length=(nG fd).length):oP fd m kn vs:=by
 refine iw (ic (hv.trans hl)) fun x t e h1=>?_;refine iw (ic h1) fun y t e2 h1=>?_;refine iw (ic h1) fun z t e3 h1=>?_;refine iw (ic h1) fun u t e4 h1=>?_;refine iw (ic h1) fun v t e5 h1=>?_;rw[e,e2,e3,e4,e5,eZ.mp h1];exact h x y z u v
end
noncomputable def zx:Obj:=MineH.Internal.ib 14 3 (.str "cpy313.tomllib._parser" 194) (.ref 106)
noncomputable def Rb:Option (jN×List Stmt×Scope×Pos):=match bodyOf (fdOf zx) with
 |Stmt.FunctionDef _ ar bd _ _ _ sc _ _ p::_=>some (ar,bd,sc,p)
 |_=>none
noncomputable def nestD:jN×List Stmt×Scope×Pos:=Rb.getD (default,[],default,default)
noncomputable def Cz(P:Params)(a b c d e f g h:ZV):Bc:={B:=MineH.Internal.hp P (LZ P a b c d e f g h),P:=102,c₀:=106,EC:=145,TC:=62,mg:=(MineH.Internal.hp P (LZ P a b c d e f g h)).nsMap eH,mb:=(MineH.Internal.hp P (LZ P a b c d e f g h)).nsMap fB,line:=(nestD.2.2.2.line:Int),col:=(nestD.2.2.2.col:Int),inner:=(fdOf zx).qualname++(".<locals>.":Str)++("coord_repr":Str),rJ:=fun x=>if x=43 then some (FO.vP e.1 e.2.1 e.2.2) else if x=52 then some (FO.vP h.1 h.2.1 h.2.2) else none,FR:=[]}
noncomputable def Ga(d:Data):Option {vs:Array Value // d=.fields vs}:=match d with
 |.fields vs=>some ⟨vs,rfl⟩
 |_=>none
noncomputable def UQ(fd:FuncData)(c:Addr)(oc:Obj)(tk:Nat):Bool:=(Ga oc.data).any (fun vs=>vs.1[1]?==some (.str fd.qualname tk))&&fd.code==.ref c
theorem zy{C:Bc}(h:UQ fd c oc tk=true)(hc:C.B.get? c=some oc)(hn:c≠C.P):z5 C fd:=by
 have h1:=a1 h;cases hf:Ga oc.data with
 |none=>rw[hf] at h1;cases h1
 |some vs=>rw[hf] at h1;exact⟨c,oc,vs.1,tk,eq_of_beq (a2 h),hc,vs.2,eq_of_beq h1,hn⟩
theorem da{C:Bc}{o oc:Obj}(ho:C.B.get? a=some o)(hd:o.data=.func (fdOf o))(hn:a≠C.P)(hb:Lu (fdOf o) k t=true)(bi:∀vs:List Value,vs.length=(nG (fdOf o)).length→oP (fdOf o) (xf k) (MV k) vs)
 (hc:UQ (fdOf o) c oc tk=true) (So:C.B.get? c=some oc) (M6:c≠C.P):jy C a k t:=by
 refine AP (vK hb bi) fun h1 h2 h3=>?_;exact⟨o,fdOf o,bodyOf (fdOf o),nG (fdOf o),ho,hd,hn,h1,h2,zy hc So M6,h3⟩
section
variable(P:Params)(a b c d e f g h:ZV)
theorem Wc:jy (Cz P a b c d e f g h) 128 0 (1,4,lX):=da (o:=(MineH.Internal.M0 1 3 (.str "cpy313.urllib.robotparser" 432) (.ref 127))) (c:=127) (oc:=zo P a b c d e f g h 127) (tk:=454) (by kernel_rfl) (by kernel_rfl) (show 128≠102 by decide) (by kernel_rfl) (ie (by kernel_rfl) fun x=>by kernel_rfl) (by kernel_rfl) (by kernel_rfl) (show 127≠102 by decide)
theorem Wd:jy (Cz P a b c d e f g h) 72 1 (3,3,lF):=da (o:=(MineH.Internal.ib 9 3 (.str "cpy313.tomllib._parser" 194) (.ref 71))) (c:=71) (oc:=zo P a b c d e f g h 71) (tk:=375) (by kernel_rfl) (by kernel_rfl) (show 72≠102 by decide) (by kernel_rfl) (Lv (by kernel_rfl) fun x y z=>by kernel_rfl) (by kernel_rfl) (by kernel_rfl) (show 71≠102 by decide)
theorem We:jy (Cz P a b c d e f g h) 79 2 (5,6,lG):=da (o:=(MineH.Internal.ib 10 3 (.str "cpy313.tomllib._parser" 194) (.ref 78))) (c:=78) (oc:=zo P a b c d e f g h 78) (tk:=384) (by kernel_rfl) (by kernel_rfl) (show 79≠102 by decide) (by kernel_rfl) (Ra (by kernel_rfl) fun x y z u v=>by kernel_rfl) (by kernel_rfl) (by kernel_rfl) (show 78≠102 by decide)
theorem Wf:jy (Cz P a b c d e f g h) 86 3 (2,3,j6):=da (o:=(MineH.Internal.ib 11 3 (.str "cpy313.tomllib._parser" 194) (.ref 85))) (c:=85) (oc:=zo P a b c d e f g h 85) (tk:=396) (by kernel_rfl) (by kernel_rfl) (show 86≠102 by decide) (by kernel_rfl) (xI (by kernel_rfl) fun x y=>by kernel_rfl) (by kernel_rfl) (by kernel_rfl) (show 85≠102 by decide)
theorem Wg:jy (Cz P a b c d e f g h) 93 4 (2,3,d4):=da (o:=(MineH.Internal.ib 12 3 (.str "cpy313.tomllib._parser" 194) (.ref 92))) (c:=92) (oc:=zo P a b c d e f g h 92) (tk:=405) (by kernel_rfl) (by kernel_rfl) (show 93≠102 by decide) (by kernel_rfl) (xI (by kernel_rfl) fun x y=>by kernel_rfl) (by kernel_rfl) (by kernel_rfl) (show 92≠102 by decide)
theorem Wh:jy (Cz P a b c d e f g h) 100 5 (2,3,d3):=da (o:=(MineH.Internal.ib 13 3 (.str "cpy313.tomllib._parser" 194) (.ref 99))) (c:=99) (oc:=zo P a b c d e f g h 99) (tk:=414) (by kernel_rfl) (by kernel_rfl) (show 100≠102 by decide) (by kernel_rfl) (xI (by kernel_rfl) fun x y=>by kernel_rfl) (by kernel_rfl) (by kernel_rfl) (show 99≠102 by decide)
theorem Wi:jy (Cz P a b c d e f g h) 156 7 (2,3,lx):=da (o:=(MineH.Internal.ib 17 3 (.str "cpy313.urllib.robotparser" 432) (.ref 155))) (c:=155) (oc:=zo P a b c d e f g h 155) (tk:=492) (by kernel_rfl) (by kernel_rfl) (show 156≠102 by decide) (by kernel_rfl) (xI (by kernel_rfl) fun x y=>by kernel_rfl) (by kernel_rfl) (by kernel_rfl) (show 155≠102 by decide)
theorem Wj:jy (Cz P a b c d e f g h) 163 8 (1,3,mY):=da (o:=(MineH.Internal.ib 19 3 (.str "law_nb0160_01" 500) (.ref 162))) (c:=162) (oc:=zo P a b c d e f g h 162) (tk:=503) (by kernel_rfl) (by kernel_rfl) (show 163≠102 by decide) (by kernel_rfl) (ie (by kernel_rfl) fun x=>by kernel_rfl) (by kernel_rfl) (by kernel_rfl) (show 162≠102 by decide)
theorem Wk:jy (Cz P a b c d e f g h) 170 9 (1,2,qd):=da (o:=(MineH.Internal.ib 20 3 (.str "law_nb0160_01" 500) (.ref 169))) (c:=169) (oc:=zo P a b c d e f g h 169) (tk:=512) (by kernel_rfl) (by kernel_rfl) (show 170≠102 by decide) (by kernel_rfl) (ie (by kernel_rfl) fun x=>by kernel_rfl) (by kernel_rfl) (by kernel_rfl) (show 169≠102 by decide)
theorem UR:jy (Cz P a b c d e f g h) 177 10 (1,1,qe):=da (o:=(MineH.Internal.ib 21 3 (.str "law_nb0160_01" 500) (.ref 176))) (c:=176) (oc:=zo P a b c d e f g h 176) (tk:=520) (by kernel_rfl) (by kernel_rfl) (show 177≠102 by decide) (by kernel_rfl) (ie (by kernel_rfl) fun x=>by kernel_rfl) (by kernel_rfl) (by kernel_rfl) (show 176≠102 by decide)
theorem US:jy (Cz P a b c d e f g h) 182 11 (1,1,gh):=da (o:=(MineH.Internal.ib 22 3 (.str "law_nb0160_01" 500) (.ref 181))) (c:=181) (oc:=zo P a b c d e f g h 181) (tk:=527) (by kernel_rfl) (by kernel_rfl) (show 182≠102 by decide) (by kernel_rfl) (ie (by kernel_rfl) fun x=>by kernel_rfl) (by kernel_rfl) (by kernel_rfl) (show 181≠102 by decide)
theorem UT:jy (Cz P a b c d e f g h) 189 12 (1,2,nj):=da (o:=(MineH.Internal.ib 23 3 (.str "law_nb0160_01" 500) (.ref 188))) (c:=188) (oc:=zo P a b c d e f g h 188) (tk:=533) (by kernel_rfl) (by kernel_rfl) (show 189≠102 by decide) (by kernel_rfl) (ie (by kernel_rfl) fun x=>by kernel_rfl) (by kernel_rfl) (by kernel_rfl) (show 188≠102 by decide)
theorem UU:jy (Cz P a b c d e f g h) 194 13 (1,9,nk):=da (o:=(MineH.Internal.ib 24 3 (.str "law_nb0160_01" 500) (.ref 193))) (c:=193) (oc:=zo P a b c d e f g h 193) (tk:=541) (by kernel_rfl) (by kernel_rfl) (show 194≠102 by decide) (by kernel_rfl) (ie (by kernel_rfl) fun x=>by kernel_rfl) (by kernel_rfl) (by kernel_rfl) (show 193≠102 by decide)
theorem UW:jy (Cz P a b c d e f g h) 199 14 (1,9,qf):=da (o:=(MineH.Internal.ib 25 3 (.str "law_nb0160_01" 500) (.ref 198))) (c:=198) (oc:=zo P a b c d e f g h 198) (tk:=547) (by kernel_rfl) (by kernel_rfl) (show 199≠102 by decide) (by kernel_rfl) (ie (by kernel_rfl) fun x=>by kernel_rfl) (by kernel_rfl) (by kernel_rfl) (show 198≠102 by decide)
theorem UX:jy (Cz P a b c d e f g h) 206 15 (1,5,mv):=da (o:=(MineH.Internal.ib 26 3 (.str "law_nb0160_01" 500) (.ref 205))) (c:=205) (oc:=zo P a b c d e f g h 205) (tk:=553) (by kernel_rfl) (by kernel_rfl) (show 206≠102 by decide) (by kernel_rfl) (ie (by kernel_rfl) fun x=>by kernel_rfl) (by kernel_rfl) (by kernel_rfl) (show 205≠102 by decide)
theorem UY:jy (Cz P a b c d e f g h) 213 16 (1,5,ly):=da (o:=(MineH.Internal.ib 27 3 (.str "law_nb0160_01" 500) (.ref 212))) (c:=212) (oc:=zo P a b c d e f g h 212) (tk:=564) (by kernel_rfl) (by kernel_rfl) (show 213≠102 by decide) (by kernel_rfl) (ie (by kernel_rfl) fun x=>by kernel_rfl) (by kernel_rfl) (by kernel_rfl) (show 212≠102 by decide)
theorem UZ:jy (Cz P a b c d e f g h) 218 17 (1,10,nq):=da (o:=(MineH.Internal.ib 28 3 (.str "law_nb0160_01" 500) (.ref 217))) (c:=217) (oc:=zo P a b c d e f g h 217) (tk:=575) (by kernel_rfl) (by kernel_rfl) (show 218≠102 by decide) (by kernel_rfl) (ie (by kernel_rfl) fun x=>by kernel_rfl) (by kernel_rfl) (by kernel_rfl) (show 217≠102 by decide)
theorem U0:jy (Cz P a b c d e f g h) 225 18 (1,15,tF):=da (o:=(MineH.Internal.ib 29 3 (.str "law_nb0160_01" 500) (.ref 224))) (c:=224) (oc:=zo P a b c d e f g h 224) (tk:=581) (by kernel_rfl) (by kernel_rfl) (show 225≠102 by decide) (by kernel_rfl) (ie (by kernel_rfl) fun x=>by kernel_rfl) (by kernel_rfl) (by kernel_rfl) (show 224≠102 by decide)
theorem U1:jy (Cz P a b c d e f g h) 230 19 (1,5,nr):=da (o:=(MineH.Internal.ib 30 3 (.str "law_nb0160_01" 500) (.ref 229))) (c:=229) (oc:=zo P a b c d e f g h 229) (tk:=602) (by kernel_rfl) (by kernel_rfl) (show 230≠102 by decide) (by kernel_rfl) (ie (by kernel_rfl) fun x=>by kernel_rfl) (by kernel_rfl) (by kernel_rfl) (show 229≠102 by decide)
theorem U2:jy (Cz P a b c d e f g h) 237 20 (1,9,qg):=da (o:=(MineH.Internal.ib 31 3 (.str "law_nb0160_01" 500) (.ref 236))) (c:=236) (oc:=zo P a b c d e f g h 236) (tk:=608) (by kernel_rfl) (by kernel_rfl) (show 237≠102 by decide) (by kernel_rfl) (ie (by kernel_rfl) fun x=>by kernel_rfl) (by kernel_rfl) (by kernel_rfl) (show 236≠102 by decide)
theorem U3:jy (Cz P a b c d e f g h) 244 21 (1,5,nu):=da (o:=(MineH.Internal.ib 32 3 (.str "law_nb0160_01" 500) (.ref 243))) (c:=243) (oc:=zo P a b c d e f g h 243) (tk:=623) (by kernel_rfl) (by kernel_rfl) (show 244≠102 by decide) (by kernel_rfl) (ie (by kernel_rfl) fun x=>by kernel_rfl) (by kernel_rfl) (by kernel_rfl) (show 243≠102 by decide)
theorem Pw:jy (Cz P a b c d e f g h) 249 22 (1,12,Gw):=da (o:=(MineH.Internal.ib 33 3 (.str "law_nb0160_01" 500) (.ref 248))) (c:=248) (oc:=zo P a b c d e f g h 248) (tk:=634) (by kernel_rfl) (by kernel_rfl) (show 249≠102 by decide) (by kernel_rfl) (ie (by kernel_rfl) fun x=>by kernel_rfl) (by kernel_rfl) (by kernel_rfl) (show 248≠102 by decide)
end
end Mine.Internal
namespace Mine.Internal
open PySem PyProof.Rows
open MineH.Internal (pp LZ FS FV MZ)
theorem rG(F:MineH.Internal.FS es t l)(hm:∀c,c∈m↔c∈l):vQ es t m:=by
 refine⟨F.str,fun c=>?_,by have:=F.size;have:=F.lt;unfold iL;lia,F.fits⟩;rw[hm,←F.Na.mem_iff,bH]
 constructor
 ·rintro⟨e,he,rfl⟩
  refine kK (F.str e he) fun d tk q=>?_;exact⟨e,he,tk,by rw[q];unfold MineH.Internal.code;rw[q];rfl⟩
 ·rintro⟨e,he,tk,q⟩
  exact⟨e,he,by unfold MineH.Internal.code;rw[q];rfl⟩
noncomputable def Lw:Obj:=MineH.Internal.M0 0 3 (.str "cpy313.urllib.robotparser" 432) (.ref 120)
noncomputable def Kz(P:Params)(a b c d e f g h:ZV):W.Frag:=[(145,zo P a b c d e f g h 145),(144,zo P a b c d e f g h 144),(128,zo P a b c d e f g h 128),(121,zo P a b c d e f g h 121)]
section
variable(P:Params)(a b c d e f g h:ZV)
theorem U4:(Cz P a b c d e f g h).Ok:=by
 refine⟨Heap.Ns.of_isNs (by kernel_rfl),Heap.Ns.of_isNs (by kernel_rfl),⟨_,Heap.Ns.of_isNs (a:=cStatics) (show(MineH.Internal.hp P (LZ P a b c d e f g h)).isNs cStatics=true by kernel_rfl),by kernel_rfl⟩,show eH≠102 by decide,show fB≠102 by decide,show cStatics≠102 by decide,⟨zo P a b c d e f g h 102,by kernel_rfl⟩⟩
theorem Wl:CF (Cz P a b c d e f g h) (Kz P a b c d e f g h) 128 121:=by
 refine⟨W.Frag.in_of (as:=[145,144,128,121]) rfl (by kernel_rfl),by kernel_rfl,fun n=>?_,by kernel_rfl,fun x hx=>?_,by kernel_rfl,by kernel_rfl,by kernel_rfl,by kernel_rfl,by kernel_rfl,by kernel_rfl,by kernel_rfl⟩
 ·skip
  kernel_rfl
 ·have:fieldNames.all (fun x=>W.findIn (Kz P a b c d e f g h) (.ref 145) x==some none)=true:=by kernel_rfl
  exact beq_iff_eq.mp (bQ.mp this x hx)
theorem Wm:TF (Cz P a b c d e f g h):=by
 refine⟨⟨61,_,_,by kernel_rfl,.mk "TOMLDecodeError" "TOMLDecodeError" [.type "ValueError"] true [] [] false none none (some (.ref 53)) none (some (.str "TOMLDecodeError" 356)) (some (.str "TOMLDecodeError" 364)) (some (.bool true)),Heap.Ns.of_isNs (a:=61) (show(MineH.Internal.hp P (LZ P a b c d e f g h)).isNs 61=true by kernel_rfl),by kernel_rfl,by kernel_rfl,show 61≠102 by decide⟩,show 62≠102 by decide⟩
theorem U5:SO (Cz P a b c d e f g h):=by
 refine⟨⟨zo P a b c d e f g h 106,[.str "suffixed_err" 422,.str "suffixed_err" 423,.str "/claim/cut.py" 424,.int 52 0,.int 3 0,.int 0 0,.int 0 0,.int 3 0,.ref 101,.bool true,.int 181 0,.ref 102,.none,.ref 103,.ref 104,.ref 105,.int 429 0,.int 52 0,.str "/claim/cut.py" 430].toArray,"/claim/cut.py",430,3,0,true,181,0,by kernel_rfl,by kernel_rfl,by kernel_rfl,by kernel_rfl,by kernel_rfl,by kernel_rfl,by kernel_rfl,by kernel_rfl,by kernel_rfl,show 106≠102 by decide⟩,?_,⟨_,show(MineH.Internal.hp P (LZ P a b c d e f g h)).get? 106=some (zo P a b c d e f g h 106) by kernel_rfl⟩,show 106≠102 by decide⟩;exact⟨4,zo P a b c d e f g h 4,by kernel_rfl,by decide,by decide,show 4≠102 by decide,by kernel_rfl,by kernel_rfl,by kernel_rfl,by kernel_rfl⟩
theorem Rc(Fe:FV e (MZ.erase 9))(Fh:FV h [10,9,32])(k:Nat)(x:D)(hx:Bd k=some x):∃v,(Cz P a b c d e f g h).mg (sJ k)=some v∧Rep (Cz P a b c d e f g h).EC (Cz P a b c d e f g h).rJ x v:=by
 have hc:∀c,c∈w8↔c∈MZ.erase 9:=by
  have:w8.Perm (MZ.erase 9):=by decide +kernel
  exact fun c=>this.mem_iff
 match k,hx with
 |0,hx=>cases hx;exact⟨.ref 43,by kernel_rfl,43,e.1,e.2.1,e.2.2,rfl,rfl,rG Fe hc⟩
 |1,hx=>cases hx;exact⟨.ref 43,by kernel_rfl,43,e.1,e.2.1,e.2.2,rfl,rfl,rG Fe hc⟩
 |2,hx=>cases hx;exact⟨.ref 52,by kernel_rfl,52,h.1,h.2.1,h.2.2,rfl,rfl,rG Fh (fun c=>(show([32,9,10]:List Nat).Perm [10,9,32] by decide +kernel).mem_iff)⟩
 |_+3,hx=>cases hx
theorem Wn(x:Str)(v:Value)(hx:(x,v)∈Qc):(Cz P a b c d e f g h).mg x=none∧(Cz P a b c d e f g h).mb x=some v:=by
 have:Qc.all (fun q=>(Cz P a b c d e f g h).mg q.1==none&&(Cz P a b c d e f g h).mb q.1==some q.2)=true:=by kernel_rfl
 have h1:=bQ.mp this _ hx;simp only[cG,beq_iff_eq] at h1;exact h1
noncomputable def Wo(k:Nat):Prop:=∀t,tab k=some t→k≠0→∃x,(Cz P a b c d e f g h).mg (fnName k)=some (.ref x)∧jy (Cz P a b c d e f g h) x k t
noncomputable def Lx(p:Nat→Prop):List Nat→Prop
 |[]=>True
 |k::r=>p k∧Lx p r
theorem Lx.at(h:Lx p l)(hk:k∈l):p k:=by
 induction l with
 |nil=>cases hk
 |cons x l ih=>exact(aO.mp hk).elim (fun e=>e▸h.1) (ih h.2)
section
variable{P a b c d e f g h}
theorem Wo.mk(x:Addr)(ht:tab k=some t)(hm:(Cz P a b c d e f g h).mg (fnName k)=some (.ref x))(hf:jy (Cz P a b c d e f g h) x k t):Wo P a b c d e f g h k:=fun t' ht' _=>aL (ht.symm.trans ht')▸⟨x,hm,hf⟩
end
theorem U6:Lx (Wo P a b c d e f g h) [0,1,2,3,4,5,6,7,8,9,10,11,12,13,14,15,16,17,18,19,20,21,22]:=
 ⟨fun _ _ h0=>absurd rfl h0,.mk 72 rfl (by kernel_rfl) (Wd ..),.mk 79 rfl (by kernel_rfl) (We ..),.mk 86 rfl (by kernel_rfl) (Wf ..),.mk 93 rfl (by kernel_rfl) (Wg ..),.mk 100 rfl (by kernel_rfl) (Wh ..),fun _ ht _=>(nomatch ht),
  .mk 156 rfl (by kernel_rfl) (Wi ..),.mk 163 rfl (by kernel_rfl) (Wj ..),.mk 170 rfl (by kernel_rfl) (Wk ..),.mk 177 rfl (by kernel_rfl) (UR ..),.mk 182 rfl (by kernel_rfl) (US ..),.mk 189 rfl (by kernel_rfl) (UT ..),.mk 194 rfl (by kernel_rfl) (UU ..),.mk 199 rfl (by kernel_rfl) (UW ..),
  .mk 206 rfl (by kernel_rfl) (UX ..),.mk 213 rfl (by kernel_rfl) (UY ..),.mk 218 rfl (by kernel_rfl) (UZ ..),.mk 225 rfl (by kernel_rfl) (U0 ..),.mk 230 rfl (by kernel_rfl) (U1 ..),.mk 237 rfl (by kernel_rfl) (U2 ..),.mk 244 rfl (by kernel_rfl) (U3 ..),.mk 249 rfl (by kernel_rfl) (Pw ..),trivial⟩
theorem Wq(k:Nat)(t:Nat×Nat×List PS)(ht:tab k=some t)(h0:k≠0):∃x,(Cz P a b c d e f g h).mg (fnName k)=some (.ref x)∧jy (Cz P a b c d e f g h) x k t:=by
 refine Lx.at (U6 P a b c d e f g h) (k:=k) ?_ t ht h0
 by_cases hk:k<23
 ·exact gI.mpr hk
 ·exfalso;unfold tab at ht;rw[cW,eR (dJ hk)] at ht;cases ht
theorem Rd:∃fd body,tW fd body∧∀(l:List Addr) (fz:Fz) (hh:Heap),HI {Cz P a b c d e f g h with FR:=l} fz hh→m6 {Cz P a b c d e f g h with FR:=l} hh 121 fd:=by
 have hb:Lu (fdOf Lw) 6 (1,1,[.stuck,.stuck,.stuck,.stuck])=true:=by kernel_rfl
 obtain⟨D,h2,_⟩:=vK hb (ie (by kernel_rfl) fun x=>by kernel_rfl);have YZ:nG (fdOf Lw)=[("self":Str)]:=by kernel_rfl
 refine⟨fdOf Lw,bodyOf (fdOf Lw),⟨YZ▸D,?_⟩,fun l fz hh H=>m6.WD H ⟨Lw,by kernel_rfl,by kernel_rfl⟩ (show 121≠102 by decide) (zy (c:=120) (oc:=zo P a b c d e f g h 120) (tk:=447) (by kernel_rfl) (by kernel_rfl) (show 120≠102 by decide))⟩;exact⟨_,_,_,_,_,_,_,_,_,_,_,_,_,_,_,_,_,_,rfl⟩
end
end Mine.Internal
namespace Mine.Internal
open PySem PyProof.Rows
open MineH.Internal (pp LZ FV MZ)
section
variable(P:Params)(a b c d e f g h:ZV)
theorem I3:sH (fdOf zx) (Cz P a b c d e f g h).inner (Cz P a b c d e f g h).line (Cz P a b c d e f g h).col (bodyOf (fdOf zx)) nestD.1 nestD.2.1 nestD.2.2.1:=by
 have hb:Lu (fdOf zx) 1 (3,4,[.stuck,.stuck])=true:=by kernel_rfl
 obtain⟨D,h2,_⟩:=vK hb (Lv (by kernel_rfl) fun x y z=>by kernel_rfl);have YZ:nG (fdOf zx)=[("src":Str),"pos","msg"]:=by kernel_rfl
 refine⟨YZ▸D,by kernel_rfl,by kernel_rfl,by kernel_rfl,by kernel_rfl,by kernel_rfl,by kernel_rfl,by kernel_rfl,?_,by kernel_rfl,by kernel_rfl,fun env=>by kernel_rfl,?_,?_,?_⟩
 ·exact⟨_,_,_,_,_,_,_,_,_,_,_,_,_,_,_,_,rfl,rfl,rfl⟩
 ·intro n hn
  have:nestD.2.2.1.names.all (fun q=>q.2 !=.free)=true:=by kernel_rfl
  have:=bQ.mp this _ hn;cases this
 ·intro k
  kernel_rfl
 ·intro q doc pm cd Ie
  have hb:Lu (W.fnX "coord_repr" q nestD.1 nestD.2.1 nestD.2.2.1 [] .none .none doc pm none cd Ie) 3 (2,4,bz)=true:=by kernel_rfl
  obtain⟨D,h2,_⟩:=vK hb (xI (by kernel_rfl) fun x y=>by kernel_rfl);exact D
theorem Wr(Fe:FV e (MZ.erase 9))(Fh:FV h [10,9,32]):Tp (Cz P a b c d e f g h) (Kz P a b c d e f g h) 128 121 where
 ok:=U4 P a b c d e f g h
 cf:=Wl P a b c d e f g h
 keep:=by kernel_rfl
 tf:=Wm P a b c d e f g h
 so:=U5 P a b c d e f g h
 T2:=by kernel_rfl
 Sa:=by kernel_rfl
 init:=Rd P a b c d e f g h
 str:=Wc P a b c d e f g h
 fn:=Wq P a b c d e f g h
 glob:=Rc P a b c d e f g h Fe Fh
 qQ:=⟨107,zx,fdOf zx,bodyOf (fdOf zx),nestD.1,nestD.2.1,nestD.2.2.1,by kernel_rfl,by kernel_rfl,by kernel_rfl,show 107≠102 by decide,I3 P a b c d e f g h,by kernel_rfl,zy (c:=106) (oc:=zo P a b c d e f g h 106) (tk:=423) (by kernel_rfl) (by kernel_rfl) (show 106≠102 by decide),by kernel_rfl⟩
 bi:=Wn P a b c d e f g h
end
end Mine.Internal
namespace Mine.Internal
open PySem PySem.W PyProof.Rows
open MineH.Internal (pp LZ FV MZ sB sZ WY)
theorem Rf(w:World):∃s os,AfterRun (opening pp) w s∧fenceModules? pp s=some (sB w os)∧(sB w os).asleep:=by
 obtain⟨Y0,h0,hv⟩:=aR.mp (boot_open (p:=pp) (N:=600) (by kernel_rfl) (by decide +kernel) (fun s=>by kernel_rfl) w);obtain⟨h,g,d,t,os⟩:=Y0;simp only[jS] at hv;obtain⟨rfl,rfl,rfl,rfl⟩:=hv;refine aq (dH.mp h0) fun s h1 h2=>?_;rw[←table_eq_tree] at h1;have A:=AfterImport.of_importEnds h1;exact⟨s,os,A,h2,Shared.asleep_of_life (fence_lifeW h2) A.life⟩
noncomputable abbrev RW:OpenLaw:=PySem.Challenge.rw_nb0160_01
theorem O4{R:WRecords}{x:WData}(h:WShape.has R x .int=true):∃n,x=.int n:=by
 cases x with
 |int n=>exact⟨n,rfl⟩
 |_=>exact Bool.noConfusion (show false=true from h)
theorem Ly{R:WRecords}{x:WData}(h:WShape.has R x (.list .int)=true):∃xs,x=.list xs∧WShape.hasItems R xs .int=true:=by
 cases x with
 | list xs=>exact⟨xs,rfl,(gT.mp (show(WShape.hasItems R xs .int||false)=true from h)).elim id fun h=>nomatch h⟩
 |_=>exact Bool.noConfusion (show false=true from h)
theorem O5{R:WRecords}{xs:List WData}(h:WShape.hasItems R xs .int=true):∃ns:List Int,xs=ns.map .int:=by
 induction xs with
 |nil=>exact⟨[],rfl⟩
 |cons x xs ih=>
  obtain⟨h1,h2⟩:=cO.mp (show(WShape.has R x .int&&WShape.hasItems R xs .int)=true from h);obtain⟨n,rfl⟩:=O4 h1;obtain⟨ns,rfl⟩:=ih h2;exact⟨n::ns,rfl⟩
theorem Lz{R:WRecords}{xs:List WData}(h:WTm.holds R (.and (.not (.lt (.lit (.int 63)) (.len (.arg 0)))) (.lit (.bool true))) {args:=[.list xs]}=true):xs.length≤63:=by
 by_cases hl:(63:Int)<(xs.length:Int)
 ·have e1:WTm.value R (.lt (.lit (.int 63)) (.len (.arg 0))) {args:=[.list xs]}=some (.bool true):=congrArg (fun b=>some (WData.bool b)) (decide_eq_true hl)
  have e2:WTm.value R (.not (.lt (.lit (.int 63)) (.len (.arg 0)))) {args:=[.list xs]}=some (.bool false):=by unfold WTm.value;rw[e1];rfl
  unfold WTm.holds WTm.value at h;rw[e2] at h;cases h
 ·lia
theorem O6{args:List WData}(h:RW.row.toRowW.claim.pre args=true):∃ns:List Int,ns.length≤63∧args=[.list (ns.map .int)]:=by
 obtain⟨h1,h2⟩:=pre_splitW (r:=RW.row.toRowW) h;refine sz (hasAllW_cons (show WShape.hasAll [] args [.list .int]=true from h1)) fun d r bq h3 h4=>?_;subst bq;obtain rfl:=hasAllW_nil h4;refine aq (Ly h3) fun xs ay h6=>?_;subst ay;refine eo (O5 h6) fun ns ay=>?_;subst ay;refine⟨ns,?_,rfl⟩;have h7:RW.row.pre=.and (.not (.lt (.lit (.int 63)) (.len (.arg 0)))) (.lit (.bool true)):=rfl;rw[h7] at h2;exact aM (f:=WData.int) (as:=ns)▸Lz h2
section
variable{R:WRecords}{cl:Str→Option Addr}{h:Heap}{v:Value}{vs:List Value}{d:WData}{ds:List WData}{as:List Addr}
theorem yc(r:ReadsAllW R cl h vs [] as):vs=[]∧as=[]:=by
 cases r;exact⟨rfl,rfl⟩
theorem xJ(r:ReadsAllW R cl h vs (d::ds) as):∃v vL a b,vs=v::vL∧as=a++b∧ReadsW R cl h v d a∧ReadsAllW R cl h vL ds b:=by
 cases r with
 |cons r1 r2=>exact⟨_,_,_,_,rfl,rfl,r1,r2⟩
theorem I4(r:ReadsW R cl h v (.int n) as):∃t,v=.int n t∧as=[]:=by
 cases r;exact⟨_,rfl,rfl⟩
theorem E6(r:ReadsW R cl h v (.list ds) as):∃a o us n bs,v=.ref a∧as=a::bs∧h.get? a=some o∧o.cls=.type "list"∧o.data=.seq us n∧ReadsAllW R cl h us.toList ds bs:=by
 cases r with
 |list h1 h2 h3 h4=>exact⟨_,_,_,_,_,rfl,rfl,h1,h2,h3,h4⟩
theorem yd{ns:List Int}:∀{vs:List Value} {as:List Addr},ReadsAllW R cl h vs (ns.map .int) as→a8 EC fz (ns.map .int) vs∧as=[]∧∀h',ReadsAllW R cl h' vs (ns.map .int) []:=by
 induction ns with
 |nil=>
  intro vs as r;refine ka (yc r) fun e1 e2=>?_;exact e1▸⟨rfl,e2,fun _=>.nil⟩
 |cons n ns ih=>
  intro vs as r;obtain⟨v,vL,a,b,rfl,rfl,r1,r2⟩:=xJ r;refine aq (I4 r1) fun t ay bq=>?_;subst ay;subst bq;refine AP (ih r2) fun i1 ay i3=>?_;subst ay;exact⟨⟨_,_,rfl,⟨t,rfl⟩,i1⟩,rfl,fun h'=>.cons (as:=[]) (bs:=[]) (.int _ t) (i3 h')⟩
end
theorem xK:RW.row.toRowW.promised:=⟨[.list []],by kernel_rfl,by kernel_rfl⟩
theorem U7(w:World)(os:OsState)(a b c d e f g h:ZV):isTheDefsW pp (sZ w os a b c d e f g h).heap "law":=by
 refine⟨249,MineH.Internal.ib 33 3 (.str "law_nb0160_01" 500) (.ref 248),fdOf (MineH.Internal.ib 33 3 (.str "law_nb0160_01" 500) (.ref 248)),(fdOf (MineH.Internal.ib 33 3 (.str "law_nb0160_01" 500) (.ref 248))).params,bodyOf (fdOf (MineH.Internal.ib 33 3 (.str "law_nb0160_01" 500) (.ref 248))),(fdOf (MineH.Internal.ib 33 3 (.str "law_nb0160_01" 500) (.ref 248))).scope,
  by kernel_rfl,by kernel_rfl,by kernel_rfl,by kernel_rfl,by kernel_rfl,by kernel_rfl,rfl,by kernel_rfl,rfl,by kernel_rfl,by kernel_rfl,by kernel_rfl,.inl ⟨by kernel_rfl,by kernel_rfl⟩,[],by kernel_rfl,.inl ⟨rfl,by kernel_rfl⟩⟩
theorem I5(w:World)(os:OsState)(a b c d e f g h:ZV):isCodeTable (sZ w os a b c d e f g h).heap 102:=by
 obtain⟨o,vs,_,_,_,_,_,_,_,e1,e2,e3,e4,_⟩:=(U5 w.params a b c d e f g h).hd;exact⟨106,o,vs,e1,e2,e3,e4⟩
theorem U8 {w:World} {os:OsState} {a b c d e f g h:ZV} {h':Heap} (keeps:∀x o,(sZ w os a b c d e f g h).heap.get? x=some o→h'.get? x=some o) {x:Addr} {o:Obj} {vs:Array Value} {n:Nat} (hx:h'.get? x=some o) (hc:o.cls=.type "list") (hd:o.data=.seq vs n) (MQ:o.dict=none) (AK:250≤x):
 HI (Cz w.params a b c d e f g h) ((Cz w.params a b c d e f g h).rJ.put x (.listOf vs n)) h':=by
 refine⟨fun y p hy _=>keeps _ _ hy,fun y p hy=>?_,?_,⟨#[],keeps 102 _ (by kernel_rfl),.inl rfl⟩⟩
 ·by_cases Z5:y=x
  ·subst Z5
   rw[Fz.dv] at hy;cases hy;obtain⟨oc,od,dt,sl⟩:=o;cases hc;cases hd;cases MQ;exact⟨sl,hx⟩
  ·rw[Fz.lM _ _ Z5] at hy
   by_cases h1:y=43
   ·subst h1
    cases (show some (FO.vP e.1 e.2.1 e.2.2)=some p from hy);exact⟨#[],keeps 43 (MineH.Internal.b9 e.1 e.2.1 e.2.2) (by kernel_rfl)⟩
   ·by_cases h2:y=52
    ·subst h2
     cases (show some (FO.vP h.1 h.2.1 h.2.2)=some p from hy);exact⟨#[],keeps 52 (MineH.Internal.b9 h.1 h.2.1 h.2.2) (by kernel_rfl)⟩
    ·have:(Cz w.params a b c d e f g h).rJ y=none:=by show(if y=43 then _ else if y=52 then _ else none)=none;rw[if_neg h1,if_neg h2]
     rw[this] at hy;cases hy
 ·show Fz.put _ x _ 102=none
  rw[Fz.lM _ _ (fun q=>absurd AK (by rw[←q];decide))];rfl
theorem Ws{w:World}(AK:250≤x):(Cz w.params a b c d e f g h).rJ x=none:=by
 show(if x=43 then _ else if x=52 then _ else none)=none;rw[if_neg (fun q=>absurd AK (by rw[q];decide)),if_neg (fun q=>absurd AK (by rw[q];decide))]
theorem Rg{w:World}{os:OsState}{a b c d e f g h:ZV}(Fe:FV e (MZ.erase 9))(Fh:FV h [10,9,32]){ns:List Int}{n:Nat}(hn:n<40)(pl:runK (GG n) (1,12,Gw) [.list (ns.map .int)]=some (.ok (.bool true)))
 {a9:Shared} (keeps:∀x o,(sZ w os a b c d e f g h).heap.get? x=some o→a9.heap.get? x=some o) (hos:a9.os=os) {x:Addr} {o:Obj} {vs:Array Value} {k:Nat} (hx:a9.heap.get? x=some o) (hc:o.cls=.type "list") (hd:o.data=.seq vs k) (MQ:o.dict=none) (AK:250≤x)
 (rs:∀EC fz,a8 EC fz (ns.map .int) vs.toList) {Q E:Value→Shared→Prop} (hQ:∀s',(∀b o,a9.heap.get? b=some o→b≠102→s'.heap.get? b=some o)→(∃ps,s'.heap.get? 102=some {cls:=.none,data:=.fields ps})→s'.os=os→s'.gens=#[]→Q (.bool true) s'):
 aH (model pp w) callerA (PySem.call (.ref 249) [.ref x]) Q E {a9 with gens:=#[]}:=by
 have T:=Wr w.params a b c d e f g h Fe Fh;have B:=xi (prog:=pp) (w:=w) T n;have S:=z6 T B (Pw w.params a b c d e f g h) [];have H:=U8 (w:=w) (os:=os) (a:=a) (b:=b) (c:=c) (d:=d) (e:=e) (f:=f) (g:=g) (h:=h) keeps hx hc hd MQ AK;refine S callerA [] _ {a9 with gens:=#[]} [.ref x] [.list (ns.map .int)] _ ⟨?_,?_⟩ rfl rfl rfl (fun e he=>(nomatch he)) H (Fz.i0 _ (Ws AK)) rfl ⟨_,_,rfl,⟨x,vs,k,rfl,Fz.dv _ _ _,rs _ _⟩,rfl⟩ pl Q E (fun dd hdd v s' ae G r=>?_) fun x hx=>by cases hx
 ·show 1+claimMargin+2*_<800
  have:claimMargin=300:=rfl
  lia
 ·show 4+20*_<5000
  exact aA (bI (bM _ (aJ (bM _ (aE hn)) _)) _) (by decide)
 ·cases hdd
  obtain rfl:v=.bool true:=r;refine aq G.hi.place.tab fun ps VW _=>?_;refine hQ s' (fun b o hb hP=>?_) ⟨ps,VW⟩ (G.os.trans hos) G.gens;refine aq (G.kp b o hb hP) fun sl e1 e2=>?_;rcases e2 with e2|e2
  ·cases e2
  ·rw[e1,e2]
theorem O7{w:World}{s a9:Shared}(hl:layAllW [] cl w.params ord [.list ds] s=some (vs,a9)):∃x us k,vs=[.ref x]∧a9.heap.get? x=some {cls:=.type "list",data:=.seq us k}:=by
 refine sz (layAllW_cons hl) fun a q ha hq hr=>?_;refine aq (layW_list ha) fun q' hq' bq=>?_;subst bq;cases hq;cases hr;exact⟨_,_,_,rfl,Heap.get?_push_size _ rfl⟩
theorem MA{w:World}{s a9:Shared}{ns:List Int}(Ig:∀l,(ord l).Perm l)(hl:layAllW [] cl w.params ord [.list (ns.map .int)] s=some (vs,a9))(S5:WData.layableAll [.list (ns.map .int)]=true):
 ∃x vL k,vs=[.ref x]∧s.heap.objs.size≤x∧a9.heap.get? x=some {cls:=.type "list",data:=.seq vL k}∧(∀EC fz,a8 EC fz (ns.map .int) vL.toList)∧∀h',h'.get? x=some {cls:=.type "list",data:=.seq vL k}→ReadsAllW [] cl h' vs [.list (ns.map .int)] [x]:=by
 refine q9 (reads_layAllW Ig _ _ _ hl S5 a9.heap (fun _ _ e=>e)) fun as Y1 ye hold=>?_;refine yk (O7 hl) fun x us k xq hg=>?_;subst xq;obtain⟨v,vs,as1,as2,e1,rfl,r1,r2⟩:=xJ Y1;refine ka (List.cons.inj e1) fun Xc ay=>?_;subst Xc;subst ay;obtain⟨x,o,vL,n,bs,e2,rfl,h1,h2,h3,h4⟩:=E6 r1;cases e2;refine ka (yc r2) fun _ ay=>?_;subst ay;cases aL (h1.symm.trans hg);cases h3;exact⟨_,us,k,rfl,(ye.2.2 _ (dI _ (.head _))).1,hg,fun EC fz=>(yd h4).1,fun h' hh=>.cons (as:=[_]) (bs:=[]) (.list (as:=[]) hh rfl rfl ((yd (EC:=0) (fz:=fun _=>none) h4).2.2 h')) .nil⟩
theorem xo{h h':Heap}(c:isCodeTable h P)(k:∀b o,h.get? b=some o→h'.get? b=some o):isCodeTable h' P:=by
 refine yk c fun cc oc vc e1 e=>?_;exact⟨cc,oc,vc,k _ _ e1,e⟩
theorem O8{h h':Heap}(hC:isCodeTable h P)(h0:h.get? P=some {cls:=.none,data:=.fields #[]})(h1:∀b o,h.get? b=some o→b≠P→h'.get? b=some o)(h2:∃ps,h'.get? P=some {cls:=.none,data:=.fields ps})(b:Addr)(o:Obj)(hb:h.get? b=some o):asItWas h h' b o:=by
 by_cases hP:b=P
 ·obtain⟨ps,VW⟩:=h2
  cases aL (hb.symm.trans (hP▸h0));exact .inr (.inl ⟨hP▸hC,rfl,#[],ps,rfl,hP▸(Array.empty_append (xs:=ps)).symm▸VW⟩)
 ·exact .inl (h1 b o hb hP)
theorem Rh:RW.wellSaid=true:=by
 iterate 37 refine look_both ?_ (by decide +kernel)
 decide +kernel
theorem holds_of(pl:∀ns:List Int,ns.length≤63→∃n,n<40∧runK (GG n) (1,12,Gw) [.list (ns.map .int)]=some (.ok (.bool true))):RW.Holds:=by
 refine holds_law Rh fun Y2=>?_;refine⟨Y2,xK,⟨⟨by kernel_rfl,by kernel_rfl,by kernel_rfl,by kernel_rfl,by kernel_rfl,by kernel_rfl⟩,by kernel_rfl,rfl⟩,xK.witness,fun w=>?_⟩;refine sz (Rf w) fun s os A hf hz=>?_;refine⟨⟨s,A⟩,fun s' nH=>?_⟩;obtain rfl:s'=s:=AfterImport.unique nH A;obtain⟨a9,⟨a,b,c,d,e,f,g,h,Fe,Fh,rfl⟩,T⟩:=MineH.Internal.Qz w os hz;refine⟨sB w os,hf,rfl,_,T,fun n hn=>?_,fun x hx=>(nomatch hx),fun x hx=>(nomatch hx),?_⟩
 ·obtain rfl:n=("law":Str):=aK.mp hn
  exact U7 w os a b c d e f g h
 refine ClaimW.callFrom_of_specN (c:=RW.row.toRowW.claim) (Shared.asleep_of_life T.2.1 hz) (show gZ MineH.Internal.gF=false by simp[MineH.Internal.gF,gZ]) fun args V9 S5 ord Ig=>?_;refine aq (O6 V9) fun ns Xy bq=>?_;subst bq;obtain⟨⟨vs,a9⟩,hl⟩:=eU.mp (layAllW_isSome (R:=[]) (cl:=classAt (sZ w os a b c d e f g h).heap) (P:=w.params) (ord:=ord) (fun c hc=>(nomatch hc)) [.list (ns.map .int)] [.list .int] (sZ w os a b c d e f g h) (pre_splitW (r:=RW.row.toRowW) V9).1);refine⟨vs,a9,hl,?_⟩;obtain⟨x,vL,k,rfl,AK,hx,rs,Y1⟩:=MA Ig hl S5;have keeps:=layAllW_keeps _ _ _ hl;have C3:=layAllW_rest _ _ _ hl;refine aq (pl ns Xy) fun n hn pl=>?_;have hC:=I5 w os a b c d e f g h;refine aB (wpAny_nsGet (s:={a9 with gens:=#[]}) (m:=(Cz w.params a b c d e f g h).mg) (((U8 (w:=w) (os:=os) keeps hx rfl rfl rfl (show 250≤x from AK)).g (U4 w.params a b c d e f g h))) ?_);rw[show(Cz w.params a b c d e f g h).mg RW.row.name=some (.ref 249) by kernel_rfl];refine aB (Rg Fe Fh hn pl keeps C3.2.2.1 hx rfl rfl rfl AK rs fun s' h1 h2 h3 h4=>?_);refine aF ⟨_,rfl,?_,h3,h4,fun q=>(nomatch q)⟩;have hk:=O8 (xo hC keeps) (keeps 102 _ (by kernel_rfl)) h1 h2;have AF:=h1 x _ hx (fun q=>absurd (show 250≤x from AK) (by rw[q];decide));refine .inl ⟨_,rfl,fun cls=>rfl,⟨.bool true,[.list (ns.map .int)],[],[x],.bool true,Y1 _ AF,?_,fun _=>⟨List.nodup_nil,fun a ha=>(nomatch ha),fun a ha=>(nomatch ha)⟩,fun Z6 _=>ident_freeW rfl rfl rfl _ _⟩,fun i hi=>(nomatch hi),fun b o hb _ _=>hk b o hb,fun i hi=>(nomatch hi)⟩;kernel_rfl
end Mine.Internal
namespace Mine.Internal
theorem holds:RW.Holds:=holds_of fun ns h=>⟨5,by decide,I2 ns h⟩
end Mine.Internal
theorem PySem.Challenge.cw_nb0160_01_holds : PySem.Challenge.rw_nb0160_01.Holds :=
 Mine.Internal.holds
