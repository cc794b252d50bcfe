import PyProof.Rows.All
import PySem.Sre
import Wide.All
import OpenK.AllK
import Wide.FinOn
import KE.KLam
import OpenK.KDescr
import PyProof.Rows.StrInSeq
import KE.KStopIter
import PyProof.ListRange
import PyProof.Rows.StrSplitCount
import PySem.Challenge.RW_pd0203_01
set_option Elab.async false
set_option bootstrap.genMatcherCode false
set_option maxRecDepth 100000
set_option linter.all false
set_option autoImplicit false
namespace Mine
set_option compiler.extract_closed false
open _root_ renaming List→AA,autoParam→DA,Array→RA,Option→YA,if_neg→AB,Bool→NB,if_pos→OB,congrArg→RB,decide_eq_true_eq→PC,or_false→QD,beq_iff_eq→UD,beq_self_eq_true→SE,not_false_eq_true→UF,if_false→CG
open PySem renaming Value→BA,Shared→CA,Addr→EA,wpAny→FA,wpAny_holding→TA,Around→XA,wpAny_mono→CB,sizeLine_eq→HB,Params→IB,Heap→PB,mainGlobals→TB,wpAny_field→AC,builtinsNs→DC,wpAny_of_eq→IC,callEnv→KC,starEach→LC,builtinLookup_eq_fast→MC,numsOf→QC,Program→RC,wpAny_seqItems→VC,FuncData→BD,World→HD,foldedSetIterable→JD,builtinKind→KD,wpAny_items_cons→ND,wpAny_call_entry→OD,wpAny_callSpecial?_slot→PD,sliceBounds→SD,bindArgs→TD,Stmt→VD,typeLookup_type→YD,wpAny_execs_cons→AE,wpAny_call→CE,wpAny_standAt→ME,wpAny_attempt→NE,checkBoundCall→OE,wpAny_items_nil→QE,GenState→UE,wpAny_rule→ZE,isSubtype_type→AF,wpAny_specialOf→CF,slot_listiter_next→LF,wpAny_typeOf→NF,wpAny_loadPart→OF,wpAny_newObj_type→RF,isSubtype→VF,entryFor→EG,bootBuiltins→HG,wpAny_isInstance→JG,entryFor_of_tree→KG,wpAny_Call_Name_kw→NG,OsState→QG,wpAny_updateSeq→XG,DictEntry→YG,wpAny_newFunctionEnv→ZG,wpAny_loadName_local→AH,wpAny_setField_rec→OH,wpAny_load→PH,IsPair→RH,codeAny_builtin→TH,Model→WH,wpAny_letGo→YH
open Nat renaming le_trans→GA,le_refl→MA,lt_irrefl→JB,sub_self→VB,ne_of_lt→GC,le_of_eq→DE,lt_of_lt_of_le→FF,le_of_ble_eq_true→IG,ne_of_gt→TG,succ_le_succ→EH,lt_add_of_pos_right→FH,le_add_right→GH,mul_le_mul_left→ZH,le_add_left→BI
open List renaming mem_singleton→HA,nodup_append→JA,mem_cons→NA,getElem?_append_right→OA,length_append→PA,length_cons→UA,mem_append→WA,length_map→BB,getElem?_eq_getElem→EB,not_mem_nil→GB,mem_of_getElem?→LB,flatten_append→WB,forIn_cons→XB,append_nil→ZB,getElem?_append_left→CC,map_append→FC,take_append_drop→JC,append_assoc→WC,getD_eq_getElem?_getD→XC,map_cons→AD,of_mem_zip→DD,map_map→FD,set_append_right→WD,getElem?_set_ne→BE,mem_map_of_mem→EE,getElem?_map→FE,flatten_cons→HE,length_singleton→IE,mem_of_mem_take→PE,nodup_cons→XE,mem_of_mem_drop→HF,lookup→IF,take_of_length_le→WF,getElem?_set_self→XF,length_drop→AG,getElem_mem→BG,nodup_nil→GG,drop_eq_getElem_cons→MG,sum_append→OG,flatMap_append→CH,getElem?_cons_succ→DH,getElem?_drop→IH,sum_cons→LH,flatMap_cons→QH,mem_cons_of_mem→VH,filterMap_cons→XH
open Array renaming length_toList→QA,getElem?_toList→TC,getElem?_eq_getElem→YE,toList_push→MF,toList_append→QF,eraseIdxIfInBounds→AI
open Bool renaming and_eq_true→VA,false_eq_true→YB,false_ne_true→KE,not_eq_true'→WE
open PySem.Heap renaming lt_size→DB,get?_update_self→XD,SameBut→ZD,size_push→VE
open PySem.Heap.SameBut renaming update→QB
open PySem.W renaming look_both→BC,Looks→EC,emptyDict→YC,findIn→CD,piecesOf→ID,looks_findIn→MD,behindTheImports→RD,looks_clsIn→EF,looks_mroIn→BH,callWith_of→NH
open PySem.Txt renaming split→HC,slice→OC,join→UC,isspace→YF
open PySem.Sre.M renaming runFor→ZC
open PySem.Builtin.Str renaming strSliceIndices→ED,glued→FG,occurrences→PG
open PySem.Str renaming length_append→GD,ofString→LD
open PySem.Builtin.SmallTypes renaming nextOf→JE,ownedTupleIsFree→BF
open PySem.W.Looks renaming of_pure→RE
open PySem.Around renaming under_plainId→GF
open PySem.Builtin.List renaming listSubscript?→JF,listItems→WG,listSameRef→SH
open PySem.Calls renaming Name_function_global→PF,evalArgs_plain→JH
open PyProof.Rows renaming pairsOf→TF
open PySem.StrLaws renaming glued_eq_join→ZF
open PySem.Builtin.Range renaming rangeSize→LG,small→MH
open PySem.Bind renaming madeBy→RG,staticBase→KH
open Int renaming toNat_natCast→VG
open PySem.Builtin renaming divisionGoesByPylong→HH
open PySem.Manifest renaming signature?→UH
def sx{s:Lean.Syntax}(T:Prop)(_:T=(DA True s→True)):Lean.Syntax:=s
def q8:=sx ((h:True:=by exact fun x9=>rfl)→True) rfl
def q9:=sx ((h:True:=by rfl)→True) rfl
def q10:=sx ((h:True:=by decide)→True) rfl
def q11:=sx ((h:True:=by assumption)→True) rfl
def q12:=sx ((h:True:=by exact ⟨fun x9=>rfl,fun x9=>rfl,fun x9=>rfl,fun x9=>rfl⟩)→True) rfl
def q13:=sx ((h:True:=by exact fun x9 x9=>rfl)→True) rfl
def q14:=sx ((h:True:=by first|exact fun x9=>.loc rfl rfl|exact fun x9=>.cell _ rfl rfl)→True) rfl
def q15:=sx ((h:True:=by kernel_rfl)→True) rfl
def q16:=sx ((h:True:=by first|exact fun x9 h=>(h rfl).elim|exact fun x9 x9 h=>nomatch h)→True) rfl
def q17:=sx ((h:True:=by exact IG rfl)→True) rfl
def q18:=sx ((h:True:=by exact fun x9=>⟨_,rfl⟩)→True) rfl
def q19:=sx ((h:True:=by exact fun x9 x9 e=>e)→True) rfl
def q20:=sx ((h:True:=by first|exact .inl rfl|exact .inr ⟨_,rfl⟩)→True) rfl
def q21:=sx ((h:True:=by with_unfolding_all rfl)→True) rfl
def q22:=sx ((h:True:=by first|exact Nat.zero_le _|exact kle rfl|exact kl2 rfl|lia)→True) rfl
def q23:=sx ((h:True:=by first|exact .builtin _|exact .type _|exact .K (by kernel_rfl))→True) rfl
theorem o02{a b r:Prop}(h:a∧b)(k:a→b→r):r:=k h.1 h.2
theorem o03{a b c r:Prop}(h:a∧b∧c)(k:a→b→c→r):r:=o02 h.2 (k h.1)
theorem o04{a b c d r:Prop}(h:a∧b∧c∧d)(k:a→b→c→d→r):r:=o03 h.2 (k h.1)
theorem o05{a b c d e r:Prop}(h:a∧b∧c∧d∧e)(k:a→b→c→d→e→r):r:=o04 h.2 (k h.1)
theorem o06{a b c d e f r:Prop}(h:a∧b∧c∧d∧e∧f)(k:a→b→c→d→e→f→r):r:=o05 h.2 (k h.1)
theorem o07{a b c d e f g r:Prop}(h:a∧b∧c∧d∧e∧f∧g)(k:a→b→c→d→e→f→g→r):r:=o06 h.2 (k h.1)
theorem o08{a b c d e f g i r:Prop}(h:a∧b∧c∧d∧e∧f∧g∧i)(k:a→b→c→d→e→f→g→i→r):r:=o07 h.2 (k h.1)
theorem o11{α:Type}{p:α→Prop}{r:Prop}(h:∃a,p a)(k:∀a,p a→r):r:=Exists.elim h k
theorem o12{α:Type}{p q:α→Prop}{r:Prop}(h:∃a,p a∧q a)(k:∀a,p a→q a→r):r:=o11 h fun a h=>o02 h (k a)
theorem o13{α:Type}{p q s:α→Prop}{r:Prop}(h:∃a,p a∧q a∧s a)(k:∀a,p a→q a→s a→r):r:=o11 h fun a h=>o03 h (k a)
theorem o21{α β:Type}{p:α→β→Prop}{r:Prop}(h:∃a b,p a b)(k:∀a b,p a b→r):r:=Exists.elim h fun a h=>o11 h (k a)
theorem o22{α β:Type}{p q:α→β→Prop}{r:Prop}(h:∃a b,p a b∧q a b)(k:∀a b,p a b→q a b→r):r:=o21 h fun a b h=>o02 h (k a b)
theorem o23{α β:Type}{p q s:α→β→Prop}{r:Prop}(h:∃a b,p a b∧q a b∧s a b)(k:∀a b,p a b→q a b→s a b→r):r:=o21 h fun a b h=>o03 h (k a b)
theorem o24{α β:Type}{p q s t:α→β→Prop}{r:Prop}(h:∃a b,p a b∧q a b∧s a b∧t a b)(k:∀a b,p a b→q a b→s a b→t a b→r):r:=o21 h fun a b h=>o04 h (k a b)
theorem o25{α β:Type}{p q s t u:α→β→Prop}{r:Prop}(h:∃a b,p a b∧q a b∧s a b∧t a b∧u a b)(k:∀a b,p a b→q a b→s a b→t a b→u a b→r):r:=o21 h fun a b h=>o05 h (k a b)
theorem o31{α β γ:Type}{p:α→β→γ→Prop}{r:Prop}(h:∃a b c,p a b c)(k:∀a b c,p a b c→r):r:=Exists.elim h fun a h=>o21 h (k a)
theorem o32{α β γ:Type}{p q:α→β→γ→Prop}{r:Prop}(h:∃a b c,p a b c∧q a b c)(k:∀a b c,p a b c→q a b c→r):r:=o31 h fun a b c h=>o02 h (k a b c)
theorem o33{α β γ:Type}{p q s:α→β→γ→Prop}{r:Prop}(h:∃a b c,p a b c∧q a b c∧s a b c)(k:∀a b c,p a b c→q a b c→s a b c→r):r:=o31 h fun a b c h=>o03 h (k a b c)
theorem o35{α β γ:Type}{p q s t u:α→β→γ→Prop}{r:Prop}(h:∃a b c,p a b c∧q a b c∧s a b c∧t a b c∧u a b c)(k:∀a b c,p a b c→q a b c→s a b c→t a b c→u a b c→r):r:=o31 h fun a b c h=>o05 h (k a b c)
theorem o41{α β γ δ:Type}{p:α→β→γ→δ→Prop}{r:Prop}(h:∃a b c d,p a b c d)(k:∀a b c d,p a b c d→r):r:=Exists.elim h fun a h=>o31 h (k a)
theorem o46{α β γ δ:Type}{p q s t u v:α→β→γ→δ→Prop}{r:Prop}(h:∃a b c d,p a b c d∧q a b c d∧s a b c d∧t a b c d∧u a b c d∧v a b c d)(k:∀a b c d,p a b c d→q a b c d→s a b c d→t a b c d→u a b c d→v a b c d→r):r:=o41 h fun a b c d h=>o06 h (k a b c d)
theorem kle{a c h:Nat}(e:Nat.ble a c=true):a≤h+c:=GA (IG e) (BI c h)
theorem kl2{a c h:Nat}(e:Nat.ble a c=true):h+a≤h+c:=Nat.add_le_add_left (IG e) h
theorem si{α:Type}{a b:α}(h:some a=some b):a=b:=Option.some.inj h
theorem lz{a b c:Nat}(h:a≤b:=by with_reducible assumption)(e:DA (Nat.ble b c=true) q9):a≤c:=GA h (IG e)
section
open PySem PySem.Sre
noncomputable def CW:RA Nat:=#[14,4,0,1,4294967295,17,0,24,11,1,4294967295,13,6,16,32,16,9,0,1,17,1,1]
noncomputable def isWs(c:Nat):NB:=c == 32 || c == 9
theorem yP(c:Nat)(a0:Seen):∃seen',accepts CW 11 c a0=.ok (isWs c,seen'):=by
 show ∃seen',inSet CW c 22 13 true a0=.ok (isWs c,seen')
 unfold isWs
 rw[show inSet CW c 22 13 true a0=(if c == 32 then .ok (true,a0.add 16) else inSet CW c 21 15 true (a0.add 16)) from rfl]
 cases h:c == 32 with
 | true=>exact ⟨_,rfl⟩
 | false=>
  rw[AB (by decide)]
  rw[show inSet CW c 21 15 true (a0.add 16)=(if c == 9 then .ok (true,(a0.add 16).add 16) else inSet CW c 20 17 true ((a0.add 16).add 16)) from rfl]
  cases h:c == 9 with
  | true=>exact ⟨_,rfl⟩
  | false=>rw[AB (by decide)];exact ⟨_,rfl⟩
theorem rL{text:RA Nat}{p found n:Nat}{a0 s1:Seen}{b:NB}(e:accepts CW 11 (text.getD p 0) a0=.ok (b,s1)):Sre.run CW text 11 (n+1) p found a0=if b then Sre.run CW text 11 n (p+1) (found+1) s1 else .ok (found,s1):=
 (RB (fun x:Except String (NB×Seen)=>x.bind fun (yes,a0)=>if yes then Sre.run CW text 11 n (p+1) (found+1) a0 else .ok (found,a0)) e).trans rfl
theorem yQ(text:RA Nat)(r:Nat):∀(k p found:Nat) (seen:Seen),(∀i,i < k→isWs (text.getD (p+i) 0)=true)→(r=0∨isWs (text.getD (p+k) 0)=false)→
  ∃seen',Sre.run CW text 11 (r+k) p found seen=.ok (found+k,seen'):=by
 intro k
 induction k with
 | zero=>
  intro p found seen _ hb
  cases r with
  | zero=>exact ⟨_,rfl⟩
  | succ n=>
   refine o11 (yP (text.getD p 0) seen) fun s1 e1=>?_
   exact ⟨s1,(rL (e1.trans (RB (fun b=>Except.ok (b,s1)) (hb.resolve_left (Nat.succ_ne_zero n))))).trans rfl⟩
 | succ k ih=>
  intro p found seen ha hb
  refine o11 (yP (text.getD p 0) seen) fun s1 e1=>?_
  have c:=Nat.add_right_comm p 1
  refine o11 (ih (p+1) (found+1) s1 (fun i hi=>(RB (fun j=>isWs (text.getD j 0)) (c i)).trans (ha (i+1) (Nat.succ_lt_succ hi))) (hb.imp id (RB (fun j=>isWs (text.getD j 0)) (c k)).trans)) fun s2 e2=>?_
  exact ⟨s2,(rL (e1.trans (RB (fun b=>Except.ok (b,s1)) (ha 0 (Nat.succ_pos k))))).trans (e2.trans (RB (fun j=>Except.ok (j,s2)) (Nat.add_right_comm found 1 k)))⟩
noncomputable def SS(text:RA Nat)(lim s:Nat)(first ma:NB)(marks:RA (YA Nat))(seen:Seen):M:=
 { code:=CW,text,lim,start:=s,lastStart:=lim,mustAdvance:=ma,pc:=5,pos:=s,handed:=s,outermost:=first,marks,frames:=[{ wait:=.nextStart,pc:=5,pos:=s,outermost:=first }],weight:=1,seen }
theorem kA(text:RA Nat)(start lim:Nat)(ma:NB):∃X seen,forSearch CW text 1 start lim ma=(if (decide (start > lim) || decide (lim - start < 1))=true then X else SS text lim start true ma #[none,none] seen)∧X.step.outcome=some .failed∧X.outcome.isSome=false:=⟨_,({}:Seen).add 14,rfl,rfl,rfl⟩
theorem kB(text:RA Nat)(start lim:Nat)(ma:NB)(h:start < lim):∃seen,forSearch CW text 1 start lim ma=SS text lim start true ma #[none,none] seen:=by
 refine o22 (kA text start lim ma) fun X seen e x9=>?_
 exact ⟨seen,e.trans (AB (by rw[decide_eq_false (Nat.not_lt.mpr (Nat.le_of_lt h)),decide_eq_false (Nat.not_lt.mpr (Nat.sub_pos_of_lt h))];decide))⟩
theorem aFn(m:M)(n:Nat):M.runFor (n+1) m=if m.outcome.isSome then m else M.runFor n m.step:=rfl
theorem dK{m:M}(h:m.outcome.isSome=true)(n:Nat):M.runFor n m=m:=by
 cases n with
 | zero=>rfl
 | succ n=>exact OB h
theorem kC(b:Nat):∀(a:Nat) (m:M),M.runFor (b+a) m=M.runFor b (M.runFor a m):=by
 intro a
 induction a with
 | zero=>intro m;rfl
 | succ a ih=>
  intro m
  by_cases h:m.outcome.isSome=true
  ·exact (dK h _).trans (((RB (M.runFor b) (dK h _)).trans (dK h _)).symm)
  ·exact (AB h).trans ((ih m.step).trans (RB (M.runFor b) (AB (c:=m.outcome.isSome=true) h).symm))
theorem fB(a b:Nat)(m:M):M.runFor (a+b) m=M.runFor b (M.runFor a m):=(RB (M.runFor · m) (Nat.add_comm a b)).trans (kC b a m)
theorem rs{m m' r:M}{n:Nat}(h:m.outcome=none)(e:m.step=m')(q:M.runFor n m'=r):M.runFor (n+1) m=r:=
 (AB (c:=m.outcome.isSome=true) (by rw[h];decide)).trans ((RB (M.runFor n) e).trans q)
noncomputable def SM(text:RA Nat)(lim s:Nat)(first ma:NB)(marks:RA (YA Nat))(seen:Seen):M:=
 { SS text lim s first ma marks seen with pc:=7,lastmark:=0 }
theorem step1(text:RA Nat)(lim s:Nat)(a0 ma:NB)(marks:RA (YA Nat))(a1:Seen):(SS text lim s a0 ma marks a1).step=SM text lim s a0 ma (marks.setIfInBounds 0 (some s)) (a1.add 17):=rfl
noncomputable def RO(m:M):Except String (Nat×Seen)→M
 | .error why=>m.stick why
 | .ok (n,seen)=>if n < 1 then M.say { m with seen } false else M.afterRun { m with seen,pos:=m.pos+n } .giveBack n (M.keep { m with seen,pos:=m.pos+n } m.inner.isSome)
theorem vI(text:RA Nat)(lim s:Nat)(a0 ma:NB)(marks:RA (YA Nat))(a1:Seen):(SM text lim s a0 ma marks a1).step=if ((1:Nat):Int) > (lim:Int) - s then M.say (SM text lim s a0 ma marks (a1.add 24)) false
  else RO (SM text lim s a0 ma marks (a1.add 24)) (Sre.run CW text 11 (min 4294967295 ((lim:Int) - s).toNat) s 0 ((a1.add 24).add 13)):=rfl
theorem room1{lim s:Nat}(h:s < lim):¬ ((1:Nat):Int) > (lim:Int) - s:=by lia
theorem room0(s:Nat):((1:Nat):Int) > (s:Int) - s:=by lia
theorem rM{text:RA Nat}{lim s:Nat}{a0 ma:NB}{marks:RA (YA Nat)}{a1:Seen}(hs:s≤lim)(hw:s=lim∨isWs (text.getD s 0)=false):∃seen',(SM text lim s a0 ma marks a1).step={ SM text lim s a0 ma marks seen' with answer:=some false }:=by
 have e:=vI text lim s a0 ma marks a1
 rcases hw with h|h
 ·exact ⟨_,e.trans (OB (h▸room0 s))⟩
 ·rcases Nat.lt_or_eq_of_le hs with hl|hl
  ·exact (yQ text _ 0 s 0 _ (fun i hi=>absurd hi (Nat.not_lt_zero i)) (.inr h)).elim fun s2 e2=>⟨s2,e.trans ((AB (room1 hl)).trans (RB (RO _) e2))⟩
  ·exact ⟨_,e.trans (OB (hl▸room0 s))⟩
theorem yR(text:RA Nat)(lim s:Nat)(a1 ma:NB)(marks:RA (YA Nat))(a0:Seen):∃X,M.step { SM text lim s a1 ma marks a0 with answer:=some false }=(if s < lim then SS text lim (s+1) false false marks a0 else X)∧(M.runFor 1 X).outcome=some .failed:=⟨_,rfl,rfl⟩
theorem vJ{text:RA Nat}{lim s:Nat}{a0 ma:NB}{marks:RA (YA Nat)}{a1:Seen}(hs:s < lim)(hw:isWs (text.getD s 0)=false):
  ∃seen',M.runFor 3 (SS text lim s a0 ma marks a1)=SS text lim (s+1) false false (marks.setIfInBounds 0 (some s)) seen':=
 (rM (Nat.le_of_lt hs) (.inr hw)).elim fun s2 e2=>(yR text lim s a0 ma (marks.setIfInBounds 0 (some s)) s2).elim fun X q=>⟨s2,rs rfl (step1 text lim s a0 ma marks a1) (rs rfl e2 (rs rfl (q.1.trans (OB hs)) rfl))⟩
theorem aAY{text:RA Nat}{lim s:Nat}{a0 ma:NB}{marks:RA (YA Nat)}{a1:Seen}(hs:s=lim):(M.runFor 4 (SS text lim s a0 ma marks a1)).outcome=some .failed:=
 (rM (DE hs) (.inl hs)).elim fun s2 e2=>(yR text lim s a0 ma (marks.setIfInBounds 0 (some s)) s2).elim fun X q=>
  (RB M.outcome (rs rfl (step1 text lim s a0 ma marks a1) (rs rfl e2 (rs rfl (q.1.trans (AB (hs▸JB s))) rfl)))).trans q.2
noncomputable def AR(text:RA Nat)(lim s k:Nat)(first ma:NB)(marks:RA (YA Nat))(seen:Seen):M:={ SM text lim s first ma marks seen with
   pc:=19,pos:=s+k,handed:=s+k,weight:=2,frames:=[{ wait:=.giveBack,pc:=7,pos:=s+k,outermost:=first,count:=k,kept:={ lastmark:=0 } },{ wait:=.nextStart,pc:=5,pos:=s,outermost:=first }] }
theorem ends(text:RA Nat)(lim s k:Nat)(a0 ma:NB)(marks:RA (YA Nat))(a1:Seen):∃X Y,M.step (M.step (AR text lim s k a0 ma marks a1))=(if (a0 && ((false && (s+k != lim)) || (ma && (s+k == s))))=true then X else Y)∧
  (M.runFor 3 Y).outcome=some .matched∧(M.runFor 3 Y).start=s∧(M.runFor 3 Y).handed=s+k∧(M.runFor 3 Y).lastmark=1∧(M.runFor 3 Y).marks=marks.setIfInBounds 1 (some (s+k)):=⟨_,_,rfl,rfl,rfl,rfl,rfl,rfl⟩
theorem marks2{α:Type}{m:RA α}(h:m.size=2)(a b:α):(m.setIfInBounds 0 a).setIfInBounds 1 b=#[a,b]:=by
 obtain ⟨l⟩:=m
 cases l with
 | nil=>cases h
 | cons x l=>cases l with
  | nil=>cases h
  | cons y l=>cases l with
   | nil=>rfl
   | cons z l=>cases h
theorem aDT{lim s k:Nat}(hl:s+k≤lim)(hz:lim≤4294967295):min 4294967295 ((lim:Int) - s).toNat=(lim - (s+k))+k:=
 (RB (min _) (Int.toNat_sub lim s)).trans ((Nat.min_eq_right (GA (Nat.sub_le _ _) hz)).trans ((Nat.sub_add_cancel (Nat.le_sub_of_add_le' hl)).symm.trans (RB (·+ k) (Nat.sub_add_eq lim s k).symm)))
theorem hit{text:RA Nat}{lim s k:Nat}{a0 ma:NB}{marks:RA (YA Nat)}{a1:Seen}(hk:1≤k)(hl:s+k≤lim)(hz:lim≤4294967295)(hm:marks.size=2)(ha:∀i,i < k→isWs (text.getD (s+i) 0)=true)(hb:s+k=lim∨isWs (text.getD (s+k) 0)=false):
  ∃m,M.runFor 7 (SS text lim s a0 ma marks a1)=m∧m.outcome=some .matched∧m.start=s∧m.handed=s+k∧m.lastmark=1∧m.marks=#[some s,some (s+k)]:=
 (yQ text (lim - (s+k)) k s 0 (((a1.add 17).add 24).add 13) ha (hb.imp (fun h=>Nat.sub_eq_zero_of_le (DE h.symm)) id)).elim fun s2 e2=>
 (ends text lim s k a0 ma (marks.setIfInBounds 0 (some s)) s2).elim fun X q=>q.elim fun Y q=>
 ⟨_,rs rfl (step1 text lim s a0 ma marks a1) (rs (m':=AR text lim s k a0 ma (marks.setIfInBounds 0 (some s)) s2) rfl ((vI ..).trans ((AB (room1 (FF (FH hk) hl))).trans
  ((RB (RO _) ((RB (fun n=>Sre.run CW text 11 n s 0 _) (aDT hl hz)).trans (e2.trans (RB (fun n=>Except.ok (n,s2)) (Nat.zero_add k))))).trans (AB (Nat.not_lt.mpr hk)))))
  (rs rfl rfl (rs rfl (q.1.trans (AB (by rw[show (s+k == s)=false from beq_false_of_ne (TG (FH hk)),Bool.and_false,Bool.false_and,Bool.or_false,Bool.and_false];decide))) rfl))),q.2.1,q.2.2.1,q.2.2.2.1,q.2.2.2.2.1,q.2.2.2.2.2.trans (marks2 hm _ _)⟩
theorem more3{n a c:Nat}(h:n≤a+c):n+3≤a+3+c:=GA (Nat.add_le_add_right h 3) (DE (Nat.add_right_comm a c 3))
theorem aCI{text:RA Nat}{lim b k:Nat}(hk:1≤k)(hl:b+k≤lim)(hz:lim≤4294967295)(ha:∀i,i < k→isWs (text.getD (b+i) 0)=true)(hb:b+k=lim∨isWs (text.getD (b+k) 0)=false):
  ∀(d s:Nat) (first ma:NB) (marks:RA (YA Nat)) (seen:Seen),s+d=b→marks.size=2→(∀i,s≤i→i < b→isWs (text.getD i 0)=false)→
  ∃n m,n≤3 * d+7∧M.runFor n (SS text lim s first ma marks seen)=m∧m.outcome=some .matched∧m.start=b∧m.handed=b+k∧m.lastmark=1∧m.marks=#[some b,some (b+k)]:=by
 intro d
 induction d with
 | zero=>
  intro s first ma marks seen hd hm _
  obtain rfl:s=b:=hd
  exact (hit hk hl hz hm ha hb).elim fun m q=>⟨7,m,MA 7,q⟩
 | succ d ih=>
  intro s first ma marks seen hd hm hn
  have sl:s < b:=Nat.lt_of_lt_of_eq (FH (Nat.succ_pos d)) hd
  exact (vJ (FF sl (GA (GH b k) hl)) (hn s (MA _) sl)).elim fun s2 e2=>
   (ih (s+1) false false (marks.setIfInBounds 0 (some s)) s2 ((Nat.add_right_comm s 1 d).trans hd) (Array.size_setIfInBounds.trans hm) (fun i h1 h2=>hn i (Nat.le_of_succ_le h1) h2)).elim fun n q=>q.elim fun m q=>
   ⟨n+3,m,more3 q.1,(kC n 3 _).trans ((RB (M.runFor n) e2).trans q.2.1),q.2.2⟩
theorem yS{text:RA Nat}{lim:Nat}:∀(d s:Nat) (first ma:NB) (marks:RA (YA Nat)) (seen:Seen),s+d=lim→(∀i,s≤i→i < lim→isWs (text.getD i 0)=false)→
  ∃n,n≤3 * d+4∧(M.runFor n (SS text lim s first ma marks seen)).outcome=some .failed:=by
 intro d
 induction d with
 | zero=>intro s first ma marks seen hd _;exact ⟨4,MA 4,aAY hd⟩
 | succ d ih=>
  intro s first ma marks seen hd hn
  have sl:s < lim:=Nat.lt_of_lt_of_eq (FH (Nat.succ_pos d)) hd
  exact (vJ sl (hn s (MA _) sl)).elim fun s2 e2=>
   (ih (s+1) false false (marks.setIfInBounds 0 (some s)) s2 ((Nat.add_right_comm s 1 d).trans hd) (fun i h1 h2=>hn i (Nat.le_of_succ_le h1) h2)).elim fun n q=>
   ⟨n+3,more3 q.1,(RB M.outcome ((kC n 3 _).trans (RB (M.runFor n) e2))).trans q.2⟩
theorem less3{n a c b lim:Nat}(h:n≤3 * (b - a)+c)(hb:b≤lim):n≤3 * lim+c:=GA h (Nat.add_le_add_right (ZH 3 (GA (Nat.sub_le b a) hb)) c)
theorem yT{text:RA Nat}{lim start b k:Nat}(ma:NB)(hk:1≤k)(hl:b+k≤lim)(hz:lim≤4294967295)(hs:start≤b)(ha:∀i,i < k→isWs (text.getD (b+i) 0)=true)(hb:b+k=lim∨isWs (text.getD (b+k) 0)=false)(hn:∀i,start≤i→i < b→isWs (text.getD i 0)=false):
  ∃n m,n≤3 * lim+7∧M.runFor n (forSearch CW text 1 start lim ma)=m∧m.outcome=some .matched∧m.start=b∧m.handed=b+k∧m.lastmark=1∧m.marks=#[some b,some (b+k)]:=
 have hbl:=FF (FH hk) hl
 (kB text start lim ma (Nat.lt_of_le_of_lt hs hbl)).elim fun seen e=>
 (aCI hk hl hz ha hb (b - start) start true ma #[none,none] seen (Nat.add_sub_of_le hs) rfl hn).elim fun n q=>q.elim fun m q=>
 ⟨n,m,less3 q.1 (Nat.le_of_lt hbl),(RB (M.runFor n) e).trans q.2.1,q.2.2⟩
theorem uE{text:RA Nat}{lim start:Nat}(ma:NB)(hs:start≤lim)(hn:∀i,start≤i→i < lim→isWs (text.getD i 0)=false):
  ∃n,n≤3 * lim+4∧(M.runFor n (forSearch CW text 1 start lim ma)).outcome=some .failed:=by
 rcases Nat.lt_or_eq_of_le hs with h|h
 ·exact (kB text start lim ma h).elim fun seen e=>(yS (text:=text) (lim - start) start true ma #[none,none] seen (Nat.add_sub_of_le hs) hn).elim fun n q=>
   ⟨n,less3 q.1 (MA _),(RB (fun m=>(M.runFor n m).outcome) e).trans q.2⟩
 ·exact (kA text start lim ma).elim fun X q=>q.elim fun seen q=>⟨1,GA (by decide) (BI 4 _),
   (RB (fun m=>(M.runFor 1 m).outcome) (q.1.trans (OB (by rw[decide_eq_true (show lim - start < 1 from h▸(VB start).symm▸Nat.one_pos),Bool.or_true])))).trans ((RB M.outcome (AB (c:=X.outcome.isSome=true) (by rw[q.2.2];decide))).trans q.2.1)⟩
end
open PySem PySem.W PyProof.Rows PySem.Calls
theorem mam{α:Type}{a:α}{s t:AA α}:a∈s++t→a∈s∨a∈t:=WA.1
noncomputable abbrev wb:=@wpAny_bind
noncomputable abbrev wp:=@wpAny_pure
noncomputable abbrev gps:=@Heap.get?_push_of_some
noncomputable abbrev gpz:=@Heap.get?_push_size
namespace Hd
section
noncomputable abbrev pw:RC:=PySem.Challenge.rw_pd0203_01.row.prog
noncomputable def sv(x:String)(t:Nat):BA:=.str (.ofString x) t
noncomputable def sl(l:AA String)(t:Nat):BA:=.str ⟨(l.flatMap fun x=>(LD x).cps.toList).toArray⟩ t
noncomputable def fi(t:Nat):BA:=sv "/claim/cut.py" t
noncomputable def w0:BA:=sv "__main__" 164
noncomputable def w1:BA:=sv "cpy313.email.header" 331
noncomputable def w2:BA:=sv "os" 575
noncomputable def w3:BA:=sv "abc" 586
noncomputable def w4:BA:=sv "collections.abc" 612
noncomputable def w5:BA:=sv "cpy313.genericpath" 674
noncomputable def w6:BA:=sv "io" 773
noncomputable def w7:BA:=sv "os.path" 1430
noncomputable def w8:BA:=sv "cpy313.shlex" 1490
noncomputable def w9:BA:=sv "os" 662
noncomputable def w10:BA:=sv "cpy313.posixpath" 688
noncomputable def w11:BA:=sv "law_pd0203_01" 1650
noncomputable def iv(n:Int):BA:=.int n 0
noncomputable def en(P:IB)(x:String)(t:Nat)(v:BA):YG:=⟨PyData.keyHash P (.ofString x),.str (.ofString x) t,v⟩
noncomputable def ec(P:IB)(x:AA Nat)(t:Nat)(v:BA):YG:=⟨PyData.keyHash P ⟨x.toArray⟩,.str ⟨x.toArray⟩ t,v⟩
noncomputable def tu(l:AA BA):Obj:=⟨.type "tuple",none,.seq l.toArray 0,#[]⟩
noncomputable def fl(l:AA BA):Obj:=⟨.none,none,.fields l.toArray,#[]⟩
noncomputable def fo(c:String)(l:AA BA):Obj:=⟨.type c,none,.fields l.toArray,#[]⟩
noncomputable def di(l:AA YG)(n:Nat):Obj:=⟨.type "dict",none,.dict l.toArray n,#[]⟩
noncomputable def fn(f:BD):Obj:=⟨.type "function",none,.func f,#[]⟩
noncomputable def sm(i:Nat):VD:=pw.main.body.getD i (.Pass default)
noncomputable def sc(i j:Nat):VD:=match sm i with
 | .ClassDef _ _ _ b _ _ _ _ _ _ _=>b.getD j (.Pass default)
 | s=>s
noncomputable def pf(s:VD)(q:String):BD:=match s with
 | .FunctionDef n a b _ _ _ c _ _ _=>⟨n,.ofString q,a,.stmts b,c,0,[],.none,.none,.none,.none,none,.none,.none,0⟩
 | _=>default
noncomputable def ff(s:VD)(q:String)(m c:BA)(clo:AA (String×EA):=[])(d t:BA:=.none):BD:=match s with
 | .FunctionDef n a b _ _ _ k _ _ _=>⟨n,.ofString q,a,.stmts b,k,3,clo.map fun x=>(.ofString x.1,x.2),d,.none,.none,m,none,c,t,0⟩
 | _=>default
noncomputable def nameOf:VD→Str
 | .FunctionDef n _ _ _ _ _ _ _ _ _=>n
 | _=>default
noncomputable def ct:AA (Nat×Nat×Nat)→AA BA
 | []=>[]
 | (a,b,c) :: l=>iv a :: iv b :: .ref c :: ct l
noncomputable def ss:AA String→Nat→AA BA
 | [],_=>[]
 | x :: l,t=>sv x t :: ss l (t+1)
noncomputable def dr(s:VD)(a t:Nat)(q:String)(vs:AA String)(fr ce:AA String:=[]):AA Obj:=
 [tu (ss fr (t+3)),fl [],tu (ss vs (t+3+fr.length)),tu (ss ce (t+3+fr.length+vs.length)),⟨.none,none,.func (pf s q),#[]⟩]
noncomputable def co(s:VD)(a t:Nat)(q:String)(tk ln ac:Nat)(ko:Nat:=0)(fg:Nat:=3):Obj:=
 fo "code" [.str (nameOf s) t,sv q (t+1),sv "/claim/cut.py" (t+2),iv ln,iv ac,iv 0,iv ko,iv fg,.ref a,.bool true,iv 318,.ref (a+1),.none,.ref (a+2),.ref (a+3),.ref (a+4),iv tk,iv ln,sv "/claim/cut.py" (tk+1)]
noncomputable def df(s:VD)(a t:Nat)(q:String)(vs:AA String)(ln ac:Nat)(m:BA)(fr ce:AA String:=[])(ko:Nat:=0)(fg:Nat:=3)(clo:AA (String×EA):=[])(d x:BA:=.none):AA Obj:=
 dr s a t q vs fr ce++[co s a t q (t+3+fr.length+vs.length+ce.length) ln ac ko fg,fn (ff s q m (.ref (a+5)) clo d x)]
noncomputable def ev{α:Type}:AA α→AA α
 | a :: _ :: l=>a :: ev l
 | l=>l
noncomputable def od{α:Type}:AA α→AA α
 | _ :: b :: l=>b :: od l
 | _=>[]
noncomputable def bt:Nat→AA Obj→BT
 | n+1,o :: l=>.node o (bt n (ev l)) (bt n (od l))
 | _,_=>.nil
noncomputable def fill:Nat→Nat→Frag→AA Obj→AA Obj
 | n+1,i,(a,o) :: K,r=>if Nat.beq a i then o :: fill n (i+1) K r else match r with
  | x :: r=>x :: fill n (i+1) ((a,o) :: K) r
  | []=>[]
 | _,_,_,r=>r
noncomputable def m3(P:IB)(c j:Nat):AA YG:=[en P "__doc__" 166 .none,en P "__package__" 167 .none,en P "__loader__" 168 (.builtin "__main__.__loader__#opaque"),en P "__spec__" 169 .none,en P "__annotations__" 170 (.ref 6),en P "__builtins__" 171 (.ref 4),en P "__file__" 173 (fi 172),en P "__cached__" 174 .none,en P "_sre" 275 (.ref 12),en P "deque" 317 (.type "collections.deque"),en P "_wall" 330 (.ref 44),en P "twin_re_1_header" 360 (.ref 49),en P "NL" 362 (sv "\n" 361),en P "EMPTYSTRING" 364 (sv "" 363),en P "_ValueFormatter" 478 (.ref 122),en P "_Accumulator" 574 (.ref 206),en P "_plain_name" 585 (.ref 217),en P "ABCMeta" 611 (.ref 234),en P "_ABCLike" 654 (.ref 267),en P "_abc_plain_meta" 661 (.ref 276),en P "fspath" 673 (.ref 283),en P "_check_arg_types" 686 (.ref c),en P "check_arg_types_genericpath" 687 (.ref 290),en P "_get_sep" 696 (.ref 297),en P "join" 707 (.ref j),en P "join_posixpath" 708 (.ref 304),en P "splitroot" 717 (.ref 311),en P "normpath" 732 (.ref 318),en P "twin_re_1_shlex" 772 (.ref 323),en P "_whence" 782 (.ref 330),en P "_index" 790 (.ref 337),en P "UnsupportedOperation" 812 (.ref 347),en P "IOBase" 844 (.ref 367),en P "BufferedIOBase" 862 (.ref 382),en P "TextIOBase" 880 (.ref 394),en P "BytesIO" 1142 (.ref 624),en P "StringIO" 1429 (.ref 871),en P "_kind" 1440 (.ref 880),en P "_fspath" 1449 (.ref 887),en P "check_arg_types_path" 1460 (.ref 894),en P "isabs" 1467 (.ref 901),en P "join_path" 1479 (.ref 908),en P "dirname" 1489 (.ref 915),en P "shlex" 1630 (.ref 1006),en P "split" 1640 (.ref 1018),en P "_find_unsafe" 1642 (.ref 1019),en P "quote" 1649 (.ref 1026),en P "_law_charset" 1658 (.ref 1033),en P "_law_text" 1664 (.ref 1038),en P "_law_lines" 1670 (.ref 1043),en P "_law_pieces" 1676 (.ref 1048),en P "_law_told" 1687 (.ref 1055),en P "law" 1693 (.ref 1060)]
noncomputable def m2(P:IB):AA YG:=[ec P [105,109,112,111,114,116,46,108,111,97,100,101,100,46,95,115,114,101] 183 (.bool true),en P "class._frozen_importlib.BuiltinImporter" 185 (.ref 14),ec P [119,97,116,99,104,101,100,46,105,109,112,111,114,116] 206 (.ref 18),en P "class._frozen_importlib.ModuleSpec" 216 (.ref 22),en P "sys.modules.booked-epoch" 245 (iv 4),ec P [105,109,112,111,114,116,46,108,97,116,101,114,45,108,97,105,100,46,95,115,114,101] 270 (.bool true),en P "watched.library" 272 (.ref 27),en P "watched.library-objects" 0 (sv "\x0c\x1e" 0),en P "watched.library-deep._sre" 273 (sv "\x04\x00\x00\x0b\x04\x00\x00\x0b\x04\x00\x00\x03\x04\x00\x00\x0b\x08\x04dict\x02" 0),ec P [105,109,112,111,114,116,46,108,111,97,100,101,100,46,95,99,111,108,108,101,99,116,105,111,110,115] 280 (.bool true),en P "sys.modules.landed._collections" 294 (.bool true),ec P [105,109,112,111,114,116,46,108,97,116,101,114,45,108,97,105,100,46,95,99,111,108,108,101,99,116,105,111,110,115] 309 (.bool true),en P "watched.library-deep._collections" 311 (sv "\x04\x00\x00\x1d\x04\x00\x00\x1d\x04\x00\x00\x03\x04\x00\x00\x1d\x08\x04dict\x02" 0),en P "type.__subclasses__.OSError.0" 809 (iv 347),en P "type.__subclasses__.OSError.n" 810 (iv 1)]
noncomputable def f35:AA BA:=(ct [(3,0,43),(10,0,55),(101,0,133),(138,0,216),(144,0,223),(149,0,242),(164,0,275),(168,0,282),(185,0,289),(198,0,296),(203,0,303),(221,0,310),(235,0,317),(262,0,329),(267,0,336),(274,0,343),(276,0,356),(283,0,378),(285,0,390),(287,0,402),(457,0,632),(663,0,879),(684,0,886),(689,0,893),(695,0,900),(698,0,907),(719,0,914),(728,0,921),(980,0,1017),(989,0,1025),(996,0,1032),(1000,0,1037),(1002,0,1042),(1017,0,1047),(1023,0,1054),(1028,0,1059)])
noncomputable def O3(P:IB)(x:String)(t k c j:Nat):Obj:=di (en P "__name__" 165 (sv x t) :: (m3 P c j).take k) (k+1)
noncomputable def O2(P:IB)(k:Nat):Obj:=⟨.none,none,.dict ((m2 P).take k).toArray k,#[]⟩
noncomputable def c0(P:IB):AA YG:=[en P "__firstlineno__" 376 (.int 10 375),en P "__init__" 387 (.ref 63),en P "_str" 395 (.ref 70),en P "__str__" 402 (.ref 77),en P "newline" 410 (.ref 84),en P "add_transition" 417 (.ref 91),en P "feed" 431 (.ref 98),en P "_maxlengths" 438 (.ref 105),en P "_ascii_split" 450 (.ref 112),en P "_append_chunk" 464 (.ref 119),en P "__static_attributes__" 471 (.ref 120)]
noncomputable def c1(P:IB):AA YG:=[en P "__firstlineno__" 490 (.int 101 489),en P "__init__" 500 (.ref 143),en P "push" 509 (.ref 150),en P "pop_from" 519 (.ref 158),en P "pop" 527 (.ref 166),en P "__len__" 534 (.ref 173),en P "__str__" 541 (.ref 180),en P "reset" 549 (.ref 188),en P "is_onlyws" 556 (.ref 195),en P "part_count" 564 (.ref 203),en P "__static_attributes__" 566 (.ref 204)]
noncomputable def c2(P:IB):AA YG:=[en P "__firstlineno__" 892 (.int 287 891),en P "__init__" 902 (.ref 411),en P "_BytesIO__check" 909 (.ref 418),en P "_BytesIO__line" 920 (.ref 425),en P "closed" 928 (.ref 433),en P "close" 935 (.ref 440),en P "__enter__" 942 (.ref 447),en P "__exit__" 950 (.ref 454),en P "readable" 957 (.ref 461),en P "writable" 964 (.ref 468),en P "seekable" 971 (.ref 475),en P "isatty" 978 (.ref 482),en P "flush" 985 (.ref 489),en P "fileno" 992 (.ref 496),en P "detach" 999 (.ref 503),en P "getvalue" 1006 (.ref 510),en P "getbuffer" 1013 (.ref 517),en P "tell" 1020 (.ref 524),en P "seek" 1030 (.ref 532),en P "truncate" 1038 (.ref 540),en P "read" 1050 (.ref 548),en P "read1" 1060 (.ref 556),en P "readinto" 1070 (.ref 563),en P "readinto1" 1078 (.ref 570),en P "readline" 1088 (.ref 578),en P "readlines" 1096 (.ref 586),en P "__iter__" 1103 (.ref 593),en P "__next__" 1111 (.ref 600),en P "write" 1121 (.ref 607),en P "writelines" 1129 (.ref 614),en P "__repr__" 1136 (.ref 621),en P "__static_attributes__" 1139 (.ref 622)]
noncomputable def c3(P:IB):AA YG:=[en P "__firstlineno__" 1154 (.int 457 1153),en P "__init__" 1167 (.ref 641),en P "_StringIO__translated" 1176 (.ref 648),en P "_StringIO__check" 1183 (.ref 655),en P "_StringIO__check_dot" 1190 (.ref 662),en P "_StringIO__line" 1205 (.ref 669),en P "closed" 1213 (.ref 677),en P "line_buffering" 1221 (.ref 685),en P "newlines" 1229 (.ref 693),en P "encoding" 1237 (.ref 701),en P "errors" 1245 (.ref 709),en P "close" 1252 (.ref 716),en P "__enter__" 1259 (.ref 723),en P "__exit__" 1267 (.ref 730),en P "readable" 1274 (.ref 737),en P "writable" 1281 (.ref 744),en P "seekable" 1288 (.ref 751),en P "isatty" 1295 (.ref 758),en P "flush" 1302 (.ref 765),en P "fileno" 1309 (.ref 772),en P "detach" 1316 (.ref 779),en P "getvalue" 1323 (.ref 786),en P "tell" 1330 (.ref 793),en P "seek" 1340 (.ref 801),en P "truncate" 1348 (.ref 809),en P "read" 1360 (.ref 817),en P "readline" 1370 (.ref 825),en P "readlines" 1380 (.ref 833),en P "__iter__" 1387 (.ref 840),en P "__next__" 1395 (.ref 847),en P "write" 1407 (.ref 854),en P "writelines" 1415 (.ref 861),en P "__repr__" 1422 (.ref 868),en P "__static_attributes__" 1426 (.ref 869)]
noncomputable def c4(P:IB):AA YG:=[en P "__firstlineno__" 1503 (.int 728 1502),en P "__init__" 1515 (.ref 930),en P "punctuation_chars" 1523 (.ref 938),en P "push_token" 1531 (.ref 945),en P "push_source" 1540 (.ref 953),en P "pop_source" 1547 (.ref 960),en P "get_token" 1559 (.ref 967),en P "read_token" 1570 (.ref 974),en P "sourcehook" 1578 (.ref 981),en P "error_leader" 1587 (.ref 989),en P "__iter__" 1594 (.ref 996),en P "__next__" 1602 (.ref 1003),en P "__static_attributes__" 1623 (.ref 1004)]
noncomputable def c5(P:IB):AA YG:=[en P "__firstlineno__" 625 (.int 149 624),en P "__instancecheck__" 634 (.ref 250),en P "__subclasscheck__" 642 (.ref 257),en P "register" 650 (.ref 264),en P "__static_attributes__" 651 (.ref 265)]
noncomputable def KL(P:IB):Frag:=[
 (2,O2 P 15),
 (3,O3 P "law_pd0203_01" 1650 53 894 908),
 (48,tu [(iv 14),(iv 4),(iv 0),(iv 1),(iv 4294967295),(iv 17),(iv 0),(iv 24),(iv 11),(iv 1),(iv 4294967295),(iv 13),(iv 6),(iv 16),(iv 32),(iv 16),(iv 9),(iv 0),(iv 1),(iv 17),(iv 1),(iv 1)]),
 (49,fo "re.Pattern" [(sv "([ \t]+)" 334),(.int 32 359),(iv 1),.none,.none,(.ref 48),(iv 0)]),
 (62,co (sc 7 0) 57 377 "_ValueFormatter.__init__" 385 12 5),
 (63,fn (ff (sc 7 0) "_ValueFormatter.__init__" w1 (.ref 62))),
 (69,co (sc 7 1) 64 388 "_ValueFormatter._str" 393 20 2),
 (70,fn (ff (sc 7 1) "_ValueFormatter._str" w1 (.ref 69))),
 (83,co (sc 7 3) 78 403 "_ValueFormatter.newline" 408 27 1),
 (84,fn (ff (sc 7 3) "_ValueFormatter.newline" w1 (.ref 83))),
 (97,co (sc 7 5) 92 418 "_ValueFormatter.feed" 429 41 4),
 (98,fn (ff (sc 7 5) "_ValueFormatter.feed" w1 (.ref 97))),
 (111,co (sc 7 7) 106 439 "_ValueFormatter._ascii_split" 448 66 4),
 (112,fn (ff (sc 7 7) "_ValueFormatter._ascii_split" w1 (.ref 111))),
 (118,co (sc 7 8) 113 451 "_ValueFormatter._append_chunk" 462 75 3),
 (119,fn (ff (sc 7 8) "_ValueFormatter._append_chunk" w1 (.ref 118))),
 (121,di (en P "__module__" 372 w1 :: c0 P++[en P "__dict__" 473 (.ref 123),en P "__weakref__" 475 (.ref 124),en P "__doc__" 476 .none]) 4),
 (122,⟨(.type "type"),none,.cls ⟨"_ValueFormatter",[(.type "object")],[(.ref 122),(.type "object")],121,"_ValueFormatter",true,[],[],false,none,false⟩,[none,none,some (sv "_ValueFormatter" 365),some (sv "_ValueFormatter" 373),some (.builtin "object.__new__"),some (.bool true)].toArray⟩),
 (130,⟨(.type "cell"),none,.cell (some (.ref 206)),[].toArray⟩),
 (135,tu [(.int 0 491)]),
 (136,tu [(.ref 130)]),
 (142,co (sc 8 0) 137 492 "_Accumulator.__init__" 498 103 2),
 (143,fn (ff (sc 8 0) "_Accumulator.__init__" w1 (.ref 142) (clo:=[("__class__",130)]) (d:=(.ref 135)) (t:=(.ref 136)))),
 (149,co (sc 8 1) 144 501 "_Accumulator.push" 507 107 3),
 (150,fn (ff (sc 8 1) "_Accumulator.push" w1 (.ref 149))),
 (151,tu [(.int 0 510)]),
 (157,co (sc 8 2) 152 511 "_Accumulator.pop_from" 517 110 2),
 (158,fn (ff (sc 8 2) "_Accumulator.pop_from" w1 (.ref 157) (d:=(.ref 151)))),
 (159,tu [(.ref 130)]),
 (165,co (sc 8 3) 160 520 "_Accumulator.pop" 525 115 1),
 (166,fn (ff (sc 8 3) "_Accumulator.pop" w1 (.ref 165) (clo:=[("__class__",130)]) (t:=(.ref 159)))),
 (172,co (sc 8 4) 167 528 "_Accumulator.__len__" 532 120 1),
 (173,fn (ff (sc 8 4) "_Accumulator.__len__" w1 (.ref 172))),
 (179,co (sc 8 5) 174 535 "_Accumulator.__str__" 539 123 1),
 (180,fn (ff (sc 8 5) "_Accumulator.__str__" w1 (.ref 179))),
 (181,tu [.none]),
 (187,co (sc 8 6) 182 542 "_Accumulator.reset" 547 126 2),
 (188,fn (ff (sc 8 6) "_Accumulator.reset" w1 (.ref 187) (d:=(.ref 181)))),
 (194,co (sc 8 7) 189 550 "_Accumulator.is_onlyws" 554 132 1),
 (195,fn (ff (sc 8 7) "_Accumulator.is_onlyws" w1 (.ref 194))),
 (196,tu [(.ref 130)]),
 (202,co (sc 8 8) 197 557 "_Accumulator.part_count" 562 135 1),
 (203,fn (ff (sc 8 8) "_Accumulator.part_count" w1 (.ref 202) (clo:=[("__class__",130)]) (t:=(.ref 196)))),
 (205,di (en P "__module__" 486 w1 :: c1 P++[en P "__dict__" 569 (.ref 207),en P "__weakref__" 571 (.ref 208),en P "__doc__" 572 .none]) 5),
 (206,⟨(.type "type"),none,.cls ⟨"_Accumulator",[(.type "list")],[(.ref 206),(.type "list"),(.type "object")],205,"_Accumulator",true,[],[],false,none,false⟩,[some (.ref 127),none,some (sv "_Accumulator" 479),some (sv "_Accumulator" 487),some (.builtin "list.__new__"),some (.bool true)].toArray⟩),
 (282,co (sm 17) 277 664 "fspath" 671 168 1),
 (283,fn (ff (sm 17) "fspath" w9 (.ref 282))),
 (296,co (sm 22) 291 690 "_get_sep" 694 198 1),
 (297,fn (ff (sm 22) "_get_sep" w10 (.ref 296))),
 (303,co (sm 23) 298 697 "join" 705 203 1 (fg:=7)),
 (304,fn (ff (sm 23) "join" w10 (.ref 303))),
 (310,co (sm 25) 305 709 "splitroot" 715 221 1),
 (311,fn (ff (sm 25) "splitroot" w10 (.ref 310))),
 (317,co (sm 26) 312 718 "normpath" 730 235 1),
 (318,fn (ff (sm 26) "normpath" w10 (.ref 317))),
 (322,tu [(iv 14),(iv 17),(iv 4),(iv 1),(iv 1),(iv 21),(iv 9),(iv 0),(iv 604043296),(iv 1),(iv 0),(iv 0),(iv 0),(iv 0),(iv 0),(iv 8),(iv 4),(iv 0),(iv 13),(iv 14),(iv 21),(iv 9),(iv 0),(iv 604043296),(iv 1),(iv 0),(iv 0),(iv 0),(iv 0),(iv 0),(iv 8),(iv 4),(iv 0),(iv 1)]),
 (323,fo "re.Pattern" [(sv "[^\\w@%+=:,./-]" 734),(.int 256 771),(iv 0),.none,.none,(.ref 322),(iv 0)]),
 (336,co (sm 30) 331 783 "_index" 788 267 2),
 (337,fn (ff (sm 30) "_index" w6 (.ref 336))),
 (363,fo "code" [(sv "__new__" 827),(sv "IOBase.__new__" 828),(fi 829),(iv 279),(iv 1),(iv 1),(iv 0),(iv 15),(.ref 358),(.bool true),(iv 318),(.ref 359),.none,(.ref 360),(.ref 361),(.ref 362),(iv 833),(iv 279),(fi 834)]),
 (364,fn (ff (sc 32 1) "IOBase.__new__" w6 (.ref 363))),
 (366,di [en P "__module__" 820 (sv "io" 825),en P "__firstlineno__" 824 (.int 276 823),en P "__new__" 835 (.ref 368),en P "__static_attributes__" 836 (.ref 365),en P "__dict__" 839 (.ref 369),en P "__weakref__" 841 (.ref 370),en P "__doc__" 842 .none] 4),
 (367,⟨(.type "type"),none,.cls ⟨"IOBase",[(.type "object")],[(.ref 367),(.type "object")],366,"IOBase",true,[],[(.ref 382),(.ref 394)],false,none,false⟩,[none,none,some (sv "IOBase" 813),some (sv "IOBase" 821),some .none,some (.bool true)].toArray⟩),
 (368,fo "staticmethod" [(.ref 364)]),
 (393,di [en P "__module__" 870 (sv "io" 875),en P "__firstlineno__" 874 (.int 285 873),en P "__static_attributes__" 877 (.ref 392),en P "__doc__" 878 .none] 2),
 (394,⟨(.type "type"),none,.cls ⟨"TextIOBase",[(.ref 367)],[(.ref 394),(.ref 367),(.type "object")],393,"TextIOBase",true,[],[(.ref 871)],false,none,false⟩,[some (.ref 385),none,some (sv "TextIOBase" 863),some (sv "TextIOBase" 871),some .none,some (.bool true)].toArray⟩),
 (623,di (en P "__module__" 888 (sv "_io" 893) :: c2 P++[en P "__doc__" 1140 .none]) 2),
 (624,⟨(.type "type"),none,.cls ⟨"BytesIO",[(.ref 382)],[(.ref 624),(.ref 382),(.ref 367),(.type "object")],623,"BytesIO",true,[],[],false,none,false⟩,[some (.ref 397),none,some (sv "BytesIO" 881),some (sv "BytesIO" 889),some .none,some (.bool true)].toArray⟩),
 (634,tu [(sv "" 1157),(sv "\n" 1158)]),
 (640,co (sc 36 1) 635 1159 "StringIO.__init__" 1165 460 3),
 (641,fn (ff (sc 36 1) "StringIO.__init__" w6 (.ref 640) (d:=(.ref 634)))),
 (647,co (sc 36 2) 642 1168 "StringIO.__translated" 1174 473 2),
 (648,fn (ff (sc 36 2) "StringIO.__translated" w6 (.ref 647))),
 (654,co (sc 36 3) 649 1177 "StringIO.__check" 1181 481 1),
 (655,fn (ff (sc 36 3) "StringIO.__check" w6 (.ref 654))),
 (810,tu [(.int (-1) 1350)]),
 (816,fo "code" [(sv "read" 1351),(sv "StringIO.read" 1352),(fi 1353),(iv 603),(iv 2),(iv 2),(iv 0),(iv 3),(.ref 811),(.bool true),(iv 318),(.ref 812),.none,(.ref 813),(.ref 814),(.ref 815),(iv 1358),(iv 603),(fi 1359)]),
 (817,fn (ff (sc 36 25) "StringIO.read" w6 (.ref 816) (d:=(.ref 810)))),
 (818,tu [(.int (-1) 1362)]),
 (824,fo "code" [(sv "readline" 1363),(sv "StringIO.readline" 1364),(fi 1365),(iv 617),(iv 2),(iv 2),(iv 0),(iv 3),(.ref 819),(.bool true),(iv 318),(.ref 820),.none,(.ref 821),(.ref 822),(.ref 823),(iv 1368),(iv 617),(fi 1369)]),
 (825,fn (ff (sc 36 26) "StringIO.readline" w6 (.ref 824) (d:=(.ref 818)))),
 (870,di (en P "__module__" 1150 (sv "_io" 1155) :: c3 P++[en P "__doc__" 1427 .none]) 2),
 (871,⟨(.type "type"),none,.cls ⟨"StringIO",[(.ref 394)],[(.ref 871),(.ref 394),(.ref 367),(.type "object")],870,"StringIO",true,[],[],false,none,false⟩,[some (.ref 627),none,some (sv "StringIO" 1143),some (sv "StringIO" 1151),some .none,some (.bool true)].toArray⟩),
 (923,tu [.none,.none,(.bool false),(.bool false)]),
 (929,co (sc 47 0) 924 1504 "shlex.__init__" 1513 730 5),
 (930,fn (ff (sc 47 0) "shlex.__init__" w8 (.ref 929) (d:=(.ref 923)))),
 (936,co (sc 47 1) 931 1516 "shlex.punctuation_chars" 1520 771 1),
 (937,fn (ff (sc 47 1) "shlex.punctuation_chars" w8 (.ref 936))),
 (938,fo "property" [(.ref 937),.none,.none,.none,(sv "punctuation_chars" 1523),(.bool false)]),
 (966,co (sc 47 5) 961 1548 "shlex.get_token" 1557 798 1),
 (967,fn (ff (sc 47 5) "shlex.get_token" w8 (.ref 966))),
 (973,co (sc 47 6) 968 1560 "shlex.read_token" 1568 825 1),
 (974,fn (ff (sc 47 6) "shlex.read_token" w8 (.ref 973))),
 (995,co (sc 47 9) 990 1588 "shlex.__iter__" 1592 972 1),
 (996,fn (ff (sc 47 9) "shlex.__iter__" w8 (.ref 995))),
 (1002,co (sc 47 10) 997 1595 "shlex.__next__" 1600 975 1),
 (1003,fn (ff (sc 47 10) "shlex.__next__" w8 (.ref 1002))),
 (1005,di (en P "__module__" 1499 w8 :: c4 P++[en P "__dict__" 1625 (.ref 1007),en P "__weakref__" 1627 (.ref 1008),en P "__doc__" 1628 .none]) 4),
 (1006,⟨(.type "type"),none,.cls ⟨"shlex",[(.type "object")],[(.ref 1006),(.type "object")],1005,"shlex",true,[],[],false,none,false⟩,[none,none,some (sv "shlex" 1492),some (sv "shlex" 1500),some (.builtin "object.__new__"),some (.bool true)].toArray⟩),
 (1011,tu [(.bool false),(.bool true)]),
 (1017,co (sm 48) 1012 1631 "split" 1638 980 3),
 (1018,fn (ff (sm 48) "split" w8 (.ref 1017) (d:=(.ref 1011)))),
 (1019,fo "builtin_function_or_method" [(.builtin "re.Pattern.search"),(.ref 323)]),
 (1025,co (sm 50) 1020 1643 "quote" 1647 989 1),
 (1026,fn (ff (sm 50) "quote" w8 (.ref 1025))),
 (1032,co (sm 52) 1027 1652 "_law_charset" 1656 996 0),
 (1033,fn (ff (sm 52) "_law_charset" w11 (.ref 1032))),
 (1037,fo "code" [(sv "_law_text" 1659),(sv "_law_text" 1660),(fi 1661),(iv 1000),(iv 1),(iv 0),(iv 0),(iv 3),(.ref 1034),(.bool true),(iv 318),(.ref 1035),.none,.none,.none,(.ref 1036),(iv 1662),(iv 1000),(fi 1663)]),
 (1038,fn (ff (sm 53) "_law_text" w11 (.ref 1037))),
 (1042,fo "code" [(sv "_law_lines" 1665),(sv "_law_lines" 1666),(fi 1667),(iv 1002),(iv 2),(iv 0),(iv 0),(iv 3),(.ref 1039),(.bool true),(iv 318),(.ref 1040),.none,.none,.none,(.ref 1041),(iv 1668),(iv 1002),(fi 1669)]),
 (1043,fn (ff (sm 54) "_law_lines" w11 (.ref 1042))),
 (1047,fo "code" [(sv "_law_pieces" 1671),(sv "_law_pieces" 1672),(fi 1673),(iv 1017),(iv 2),(iv 0),(iv 0),(iv 3),(.ref 1044),(.bool true),(iv 318),(.ref 1045),.none,.none,.none,(.ref 1046),(iv 1674),(iv 1017),(fi 1675)]),
 (1048,fn (ff (sm 55) "_law_pieces" w11 (.ref 1047))),
 (1054,co (sm 56) 1049 1677 "_law_told" 1685 1023 2),
 (1055,fn (ff (sm 56) "_law_told" w11 (.ref 1054))),
 (1059,fo "code" [(sv "law" 1688),(sv "law" 1689),(fi 1690),(iv 1028),(iv 1),(iv 0),(iv 0),(iv 3),(.ref 1056),(.bool true),(iv 318),(.ref 1057),.none,.none,.none,(.ref 1058),(iv 1691),(iv 1028),(fi 1692)]),
 (1060,fn (ff (sm 57) "law" w11 (.ref 1059)))]
noncomputable def R0(P:IB):AA (AA Obj):=[
 [boot_o_0 P,di [en P "builtins" 162 (.ref 4),en P "__main__" 163 (.ref 5),en P "_sre" 244 (.ref 12),en P "_collections" 292 (.ref 30)] 4,⟨(.type "module"),(some 0),.plain,[].toArray⟩,⟨(.type "module"),(some 3),.plain,[].toArray⟩,di [] 0,tu [],fl [],fo "code" [(sv "<module>" 176),(sv "<module>" 177),(fi 178),(iv 1),(iv 0),(iv 0),(iv 0),(iv 0),(.ref 7),(.bool false),(iv 175),(.ref 8),.none,.none,.none,.none,(iv 179),(iv 1),(fi 180)],⟨(.type "frame"),none,.plain,[some (.ref 9),some (.ref 3),some (.ref 3),none,some w0,none,some (.ref 0)].toArray⟩,di [en P "__name__" 247 (sv "_sre" 246),en P "__doc__" 248 .none,en P "__package__" 250 (sv "" 249),en P "__loader__" 251 (.builtin "off-the-table:_sre.__loader__:shared#opaque"),en P "__spec__" 252 (.builtin "off-the-table:_sre.__spec__:shared#opaque"),en P "compile" 253 (.builtin "_sre.compile"),en P "template" 254 (.builtin "off-the-table:_sre.template:shared#opaque"),en P "getcodesize" 255 (.builtin "off-the-table:_sre.getcodesize:shared#opaque"),en P "ascii_iscased" 256 (.builtin "off-the-table:_sre.ascii_iscased:shared#opaque"),en P "unicode_iscased" 257 (.builtin "off-the-table:_sre.unicode_iscased:shared#opaque"),en P "ascii_tolower" 258 (.builtin "off-the-table:_sre.ascii_tolower:shared#opaque"),en P "unicode_tolower" 259 (.builtin "off-the-table:_sre.unicode_tolower:shared#opaque"),en P "MAGIC" 261 (.int 20230612 260),en P "CODESIZE" 263 (.int 4 262),en P "MAXREPEAT" 265 (.int 4294967295 264),en P "MAXGROUPS" 267 (.int 1073741823 266),en P "copyright" 269 (sv " SRE 2.2.2 Copyright (c) 1997-2002 by Secret Labs AB " 268)] 17,⟨(.type "module"),(some 11),.plain,[].toArray⟩,di [en P "__module__" 189 (sv "_frozen_importlib" 186),en P "__firstlineno__" 190 (.int 971 187),en P "__doc__" 191 (.builtin "_frozen_importlib.BuiltinImporter.__doc__:str#opaque"),en P "_ORIGIN" 192 (sv "built-in" 188),en P "find_spec" 193 (.builtin "_frozen_importlib.BuiltinImporter.find_spec#opaque"),en P "create_module" 194 (.builtin "_frozen_importlib.BuiltinImporter.create_module#opaque"),en P "exec_module" 195 (.builtin "_frozen_importlib.BuiltinImporter.exec_module#opaque"),en P "get_code" 196 (.builtin "_frozen_importlib.BuiltinImporter.get_code#opaque"),en P "get_source" 197 (.builtin "_frozen_importlib.BuiltinImporter.get_source#opaque"),en P "is_package" 198 (.builtin "_frozen_importlib.BuiltinImporter.is_package#opaque"),en P "load_module" 199 (.builtin "_frozen_importlib.BuiltinImporter.load_module#opaque"),en P "__static_attributes__" 200 (.ref 15),en P "__dict__" 202 (.ref 16),en P "__weakref__" 204 (.ref 17)] 14,⟨(.type "type"),none,.cls ⟨"BuiltinImporter",[(.type "object")],[(.ref 14),(.type "object")],13,"BuiltinImporter",true,[],[],false,none,false⟩,[].toArray⟩,tu [],fo "getset_descriptor" [(sv "__dict__" 201),(.ref 14),(.builtin "function.__dict__"),(.builtin "function.__dict__#set")],fo "getset_descriptor" [(sv "__weakref__" 203),(.ref 14),(.builtin "ExceptionGroup.__weakref__"),.none],⟨.none,none,.seq [(iv 13),(sl ["\x06½\n__module__\x06º\x11_frozen_importlib\x06¾\x0f__fi","rstlineno__\x04»\x00ϋ\x06¿\x07__doc__\t4_frozen_impor","tlib.BuiltinImporter.__doc__:str#opaque\x06","À\x07_ORIGIN\x06¼\x08built-in\x06Á\tfind_spec\t2_froze","n_importlib.BuiltinImporter.find_spec#op","aque\x06Â\x0dcreate_module\t6_frozen_importlib.","BuiltinImporter.create_module#opaque\x06Ã\x0be","xec_module\t4_frozen_importlib.BuiltinImp","orter.exec_module#opaque\x06Ä\x08get_code\t1_fr","ozen_importlib.BuiltinImporter.get_code#","opaque\x06Å\nget_source\t3_frozen_importlib.B","uiltinImporter.get_source#opaque\x06Æ\nis_pa","ckage\t3_frozen_importlib.BuiltinImporter",".is_package#opaque\x06Ç\x0bload_module\t4_froze","n_importlib.BuiltinImporter.load_module#","opaque\x06È\x15__static_attributes__\x04\x00\x00\x0f\x06Ê\x08__d","ict__\x04\x00\x00\x10\x06Ì\x0b__weakref__\x04\x00\x00\x11"] 0),(.bool true),(.bool true),(sv "" 205),(iv 21),(sl ["\x06ã\n__module__\x06Ù\x11_frozen_importlib\x06ä\x0f__fi","rstlineno__\x04Ú\x00Ȳ\x06å\x07__doc__\t/_frozen_impor","tlib.ModuleSpec.__doc__:str#opaque\x06æ\x08__i","nit__\t,_frozen_importlib.ModuleSpec.__in","it__#opaque\x06ç\x08__repr__\t,_frozen_importli","b.ModuleSpec.__repr__#opaque\x06è\x06__eq__\t*_","frozen_importlib.ModuleSpec.__eq__#opaqu","e\x06é\x06cached\t*_frozen_importlib.ModuleSpec",".cached#opaque\x06ê\x06parent\t*_frozen_importl","ib.ModuleSpec.parent#opaque\x06ë\x0chas_locati","on\t0_frozen_importlib.ModuleSpec.has_loc","ation#opaque\x06ì\x15__static_attributes__\x04\x00\x00\x17","\x06î\x08__dict__\x04\x00\x00\x18\x06ð\x0b__weakref__\x04\x00\x00\x19\x06ñ\x08__ha","sh__\x00"] 0),(.bool true),(.bool true),(sv "" 242)].toArray 1,#[]⟩,⟨(.type "list"),none,.seq [].toArray 0,#[]⟩,di [en P "name" 208 (sv "_sre" 207),en P "loader" 209 (.ref 14),en P "origin" 210 (sv "built-in" 184),en P "loader_state" 211 .none,en P "submodule_search_locations" 212 .none,en P "_uninitialized_submodules" 213 (.ref 19),en P "_set_fileattr" 214 (.bool false),en P "_cached" 215 .none,en P "_initializing" 243 (.bool false)] 9,di [en P "__module__" 227 (sv "_frozen_importlib" 217),en P "__firstlineno__" 228 (.int 562 218),en P "__doc__" 229 (.builtin "_frozen_importlib.ModuleSpec.__doc__:str#opaque"),en P "__init__" 230 (.builtin "_frozen_importlib.ModuleSpec.__init__#opaque"),en P "__repr__" 231 (.builtin "_frozen_importlib.ModuleSpec.__repr__#opaque"),en P "__eq__" 232 (.builtin "_frozen_importlib.ModuleSpec.__eq__#opaque"),en P "cached" 233 (.builtin "_frozen_importlib.ModuleSpec.cached#opaque"),en P "parent" 234 (.builtin "_frozen_importlib.ModuleSpec.parent#opaque"),en P "has_location" 235 (.builtin "_frozen_importlib.ModuleSpec.has_location#opaque"),en P "__static_attributes__" 236 (.ref 23),en P "__dict__" 238 (.ref 24),en P "__weakref__" 240 (.ref 25),en P "__hash__" 241 .none] 13,⟨(.type "type"),none,.cls ⟨"ModuleSpec",[(.type "object")],[(.ref 22),(.type "object")],21,"ModuleSpec",true,[],[],false,none,false⟩,[].toArray⟩,tu [(sv "_cached" 219),(sv "_set_fileattr" 220),(sv "_uninitialized_submodules" 221),(sv "loader" 222),(sv "loader_state" 223),(sv "name" 224),(sv "origin" 225),(sv "submodule_search_locations" 226)],fo "getset_descriptor" [(sv "__dict__" 237),(.ref 22),(.builtin "function.__dict__"),(.builtin "function.__dict__#set")],fo "getset_descriptor" [(sv "__weakref__" 239),(.ref 22),(.builtin "ExceptionGroup.__weakref__"),.none],⟨(.ref 22),(some 20),.plain,[].toArray⟩],
 [⟨.none,none,.seq [(iv 11),(.str ⟨[6,247,8,95,95,110,97,109,101,95,95,6,246,4,95,115,114,101,6,248,7,95,95,100,111,99,95,95,0,6,250,11,95,95,112,97,99,107,97,103,101,95,95,6,249,0,6,251,10,95,95,108,111,97,100,101,114,95,95,4,0,0,14,6,252,8,95,95,115,112,101,99,95,95,4,0,0,26,6,253,7,99,111,109,112,105,108,101,9,12,95,115,114,101,46,99,111,109,112,105,108,101,6,254,8,116,101,109,112,108,97,116,101,9,13,95,115,114,101,46,116,101,109,112,108,97,116,101,6,255,11,103,101,116,99,111,100,101,115,105,122,101,9,16,95,115,114,101,46,103,101,116,99,111,100,101,115,105,122,101,6,256,13,97,115,99,105,105,95,105,115,99,97,115,101,100,9,18,95,115,114,101,46,97,115,99,105,105,95,105,115,99,97,115,101,100,6,257,15,117,110,105,99,111,100,101,95,105,115,99,97,115,101,100,9,20,95,115,114,101,46,117,110,105,99,111,100,101,95,105,115,99,97,115,101,100,6,258,13,97,115,99,105,105,95,116,111,108,111,119,101,114,9,18,95,115,114,101,46,97,115,99,105,105,95,116,111,108,111,119,101,114,6,259,15,117,110,105,99,111,100,101,95,116,111,108,111,119,101,114,9,20,95,115,114,101,46,117,110,105,99,111,100,101,95,116,111,108,111,119,101,114,6,261,5,77,65,71,73,67,4,260,0,20230612,6,263,8,67,79,68,69,83,73,90,69,4,262,0,4,6,265,9,77,65,88,82,69,80,69,65,84,4,264,0,4294967295,6,267,9,77,65,88,71,82,79,85,80,83,4,266,0,1073741823,6,269,9,99,111,112,121,114,105,103,104,116,6,268,53,32,83,82,69,32,50,46,50,46,50,32,67,111,112,121,114,105,103,104,116,32,40,99,41,32,49,57,57,55,45,50,48,48,50,32,98,121,32,83,101,99,114,101,116,32,76,97,98,115,32,65,66,32].toArray⟩ 0),(.bool true),(.bool false),(sv "_sre" 271),(iv 29),(sl ["\x06Ĩ\x08__name__\x06ħ\x0c_collections\x06ĩ\x07__doc__\t\x1f_c","ollections.__doc__:str#opaque\x06ī\x0b__packag","e__\x06Ī\x00\x06Ĭ\n__loader__\x04\x00\x00\x0e\x06ĭ\x08__spec__\x04\x00\x00!\x06Į","\x0f_count_elements\t\x1c_collections._count_el","ements\x06į\x05deque\x08\x11collections.deque\x06İ\x0bdefa","ultdict\x08\x17collections.defaultdict\x06ı\x0f_dequ","e_iterator\x08\x1bcollections._deque_iterator\x06","Ĳ\x17_deque_reverse_iterator\x08#collections._","deque_reverse_iterator\x06ĳ\x0c_tuplegetter\x08\x18c","ollections._tuplegetter\x06Ĵ\x0bOrderedDict\x08\x17c","ollections.OrderedDict"] 0),(.bool true),(.bool false),(sv "_collections" 310)].toArray 1,#[]⟩,tu [(sv "deque" 277)],di [en P "__name__" 296 (sv "_collections" 295),en P "__doc__" 297 (.builtin "off-the-table:_collections.__doc__:shared#opaque"),en P "__package__" 299 (sv "" 298),en P "__loader__" 300 (.builtin "off-the-table:_collections.__loader__:shared#opaque"),en P "__spec__" 301 (.builtin "off-the-table:_collections.__spec__:shared#opaque"),en P "_count_elements" 302 (.builtin "_collections._count_elements"),en P "deque" 303 (.type "collections.deque"),en P "defaultdict" 304 (.type "collections.defaultdict"),en P "_deque_iterator" 305 (.builtin "off-the-table:_collections._deque_iterator:shared#opaque"),en P "_deque_reverse_iterator" 306 (.builtin "off-the-table:_collections._deque_reverse_iterator:shared#opaque"),en P "_tuplegetter" 307 (.type "collections._tuplegetter"),en P "OrderedDict" 308 (.type "collections.OrderedDict")] 12,⟨(.type "module"),(some 29),.plain,[].toArray⟩,⟨(.type "list"),none,.seq [].toArray 0,#[]⟩,di [en P "name" 283 (sv "_collections" 282),en P "loader" 284 (.ref 14),en P "origin" 285 (sv "built-in" 281),en P "loader_state" 286 .none,en P "submodule_search_locations" 287 .none,en P "_uninitialized_submodules" 288 (.ref 31),en P "_set_fileattr" 289 (.bool false),en P "_cached" 290 .none,en P "_initializing" 291 (.bool false)] 9,⟨(.ref 22),(some 32),.plain,[].toArray⟩,tu [],fl f35,fo "code" [(sv "<module>" 319),(sv "<module>" 320),(fi 321),(iv 1),(iv 0),(iv 0),(iv 0),(iv 0),(.ref 34),(.bool false),(iv 318),(.ref 35),.none,.none,.none,.none,(iv 322),(iv 1),(fi 323)],⟨(.type "frame"),none,.plain,[some (.ref 36),some (.ref 3),some (.ref 3),none,some w0,none,some (.ref 0)].toArray⟩],
 df (sm 2) 38 324 "_wall" ["k"] 3 1 w0,
 [⟨(.type "list"),none,.seq [(.int 14 336),(.int 4 337),(.int 0 338),(.int 1 339),(.int 4294967295 340),(.int 17 341),(.int 0 342),(.int 24 343),(.int 11 344),(.int 1 345),(.int 4294967295 346),(.int 13 347),(.int 6 348),(.int 16 349),(.int 32 350),(.int 16 351),(.int 9 352),(.int 0 353),(.int 1 354),(.int 17 355),(.int 1 356),(.int 1 357)].toArray 0,#[]⟩,di [] 0,tu [.none,.none],tu [],fo "builtin_function_or_method" [(.builtin "type.__prepare__"),(.type "type")],di (en P "__module__" 372 w1 :: en P "__qualname__" 374 (sv "_ValueFormatter" 373) :: c0 P) 13,tu [],fl (ct [(12,4,62),(20,4,69),(24,4,76),(27,4,83),(38,4,90),(41,4,97),(61,4,104),(66,4,111),(75,4,118)]),fo "code" [(sv "_ValueFormatter" 367),(sv "_ValueFormatter" 368),(fi 369),(iv 10),(iv 0),(iv 0),(iv 0),(iv 0),(.ref 53),(.bool false),(iv 318),(.ref 54),.none,.none,.none,.none,(iv 370),(iv 10),(fi 371)],⟨(.type "frame"),none,.plain,[some (.ref 55),some (.ref 3),some (.ref 52),none,some w1,none,some (.ref 0)].toArray⟩],
 dr (sc 7 0) 57 377 "_ValueFormatter.__init__" ["self","headerlen","maxlen","continuation_ws","splitchars"],
 dr (sc 7 1) 64 388 "_ValueFormatter._str" ["self","linesep"],
 df (sc 7 2) 71 396 "_ValueFormatter.__str__" ["self"] 24 1 w1,
 dr (sc 7 3) 78 403 "_ValueFormatter.newline" ["self","end_of_line"],
 df (sc 7 4) 85 411 "_ValueFormatter.add_transition" ["self"] 38 1 w1,
 dr (sc 7 5) 92 418 "_ValueFormatter.feed" ["self","fws","string","charset","encoded_lines","first_line","last_line","line"],
 df (sc 7 6) 99 432 "_ValueFormatter._maxlengths" ["self"] 61 1 w1 (fg:=35),
 dr (sc 7 7) 106 439 "_ValueFormatter._ascii_split" ["self","fws","string","splitchars","parts","part"],
 dr (sc 7 8) 113 451 "_ValueFormatter._append_chunk" ["self","fws","string","ch","i","prevpart","part","remainder"],
 [tu [(sv "_continuation_ws" 465),(sv "_continuation_ws_len" 466),(sv "_current_line" 467),(sv "_lines" 468),(sv "_maxlen" 469),(sv "_splitchars" 470)],fo "getset_descriptor" [(sv "__dict__" 472),(.ref 122),(.builtin "function.__dict__"),(.builtin "function.__dict__#set")],fo "getset_descriptor" [(sv "__weakref__" 474),(.ref 122),(.builtin "ExceptionGroup.__weakref__"),.none],fo "super" [(.ref 122),(.ref 122),(.ref 122)],fo "builtin_function_or_method" [(.builtin "object.__init_subclass__"),(.ref 122)],tu [(.type "list")],fo "builtin_function_or_method" [(.builtin "type.__prepare__"),(.type "type")],di (en P "__module__" 486 w1 :: en P "__qualname__" 488 (sv "_Accumulator" 487) :: c1 P++[en P "__classcell__" 567 (.ref 130)]) 14,tu [],fl (ct [(103,4,142),(107,4,149),(110,4,157),(115,4,165),(120,4,172),(123,4,179),(126,4,187),(132,4,194),(135,4,202)]),fo "code" [(sv "_Accumulator" 481),(sv "_Accumulator" 482),(fi 483),(iv 101),(iv 0),(iv 0),(iv 0),(iv 0),(.ref 131),(.bool false),(iv 318),(.ref 132),.none,.none,.none,.none,(iv 484),(iv 101),(fi 485)],⟨(.type "frame"),none,.plain,[some (.ref 133),some (.ref 3),some (.ref 129),none,some w1,none,some (.ref 0)].toArray⟩],
 dr (sc 8 0) 137 492 "_Accumulator.__init__" ["self","initial_size"] (fr:=["__class__"]),
 dr (sc 8 1) 144 501 "_Accumulator.push" ["self","fws","string"],
 dr (sc 8 2) 152 511 "_Accumulator.pop_from" ["self","i","popped"],
 dr (sc 8 3) 160 520 "_Accumulator.pop" ["self"] (fr:=["__class__"]),
 dr (sc 8 4) 167 528 "_Accumulator.__len__" ["self"],
 dr (sc 8 5) 174 535 "_Accumulator.__str__" ["self"],
 dr (sc 8 6) 182 542 "_Accumulator.reset" ["self","startval"],
 dr (sc 8 7) 189 550 "_Accumulator.is_onlyws" ["self"],
 dr (sc 8 8) 197 557 "_Accumulator.part_count" ["self"] (fr:=["__class__"]),
 [tu [(sv "_initial_size" 565)],fo "getset_descriptor" [(sv "__dict__" 568),(.ref 206),(.builtin "function.__dict__"),(.builtin "function.__dict__#set")],fo "getset_descriptor" [(sv "__weakref__" 570),(.ref 206),(.builtin "ExceptionGroup.__weakref__"),.none],fo "super" [(.ref 206),(.ref 206),(.ref 206)],fo "builtin_function_or_method" [(.builtin "object.__init_subclass__"),(.ref 206)]],
 df (sm 10) 211 577 "_plain_name" ["x","what","kind"] 138 2 w2,
 [tu [(.type "type")],fo "builtin_function_or_method" [(.builtin "type.__prepare__"),(.type "type")],di [en P "__module__" 595 w3,en P "__qualname__" 597 (sv "ABCMeta" 596),en P "__firstlineno__" 599 (.int 144 598),en P "register" 607 (.ref 231),en P "__static_attributes__" 608 (.ref 232)] 5,tu [],fl [(iv 146),(iv 4),(.ref 230)],fo "code" [(sv "ABCMeta" 590),(sv "ABCMeta" 591),(fi 592),(iv 144),(iv 0),(iv 0),(iv 0),(iv 0),(.ref 221),(.bool false),(iv 318),(.ref 222),.none,.none,.none,.none,(iv 593),(iv 144),(fi 594)],⟨(.type "frame"),none,.plain,[some (.ref 223),some (.ref 3),some (.ref 220),none,some w3,none,some (.ref 0)].toArray⟩],
 df (sc 12 0) 225 600 "ABCMeta.register" ["cls","subclass"] 146 2 w3,
 [tu [],di [en P "__module__" 595 w3,en P "__firstlineno__" 599 (.int 144 598),en P "register" 607 (.ref 231),en P "__static_attributes__" 608 (.ref 232),en P "__doc__" 609 .none] 2,⟨(.type "type"),none,.cls ⟨"ABCMeta",[(.type "type")],[(.ref 234),(.type "type"),(.type "object")],233,"ABCMeta",true,[],[(.ref 267)],false,none,false⟩,[some (.ref 218),none,some (sv "ABCMeta" 588),some (sv "ABCMeta" 596),some (.builtin "type.__new__"),some (.bool true)].toArray⟩,fo "super" [(.ref 234),(.ref 234),(.ref 234)],fo "builtin_function_or_method" [(.builtin "object.__init_subclass__"),(.ref 234)],tu [(.ref 234)],fo "builtin_function_or_method" [(.builtin "type.__prepare__"),(.type "type")],di (en P "__module__" 621 w4 :: en P "__qualname__" 623 (sv "_ABCLike" 622) :: c5 P) 7,tu [],fl (ct [(151,4,249),(157,4,256),(162,4,263)]),fo "code" [(sv "_ABCLike" 616),(sv "_ABCLike" 617),(fi 618),(iv 149),(iv 0),(iv 0),(iv 0),(iv 0),(.ref 240),(.bool false),(iv 318),(.ref 241),.none,.none,.none,.none,(iv 619),(iv 149),(fi 620)],⟨(.type "frame"),none,.plain,[some (.ref 242),some (.ref 3),some (.ref 239),none,some w4,none,some (.ref 0)].toArray⟩],
 df (sc 14 0) 244 626 "_ABCLike.__instancecheck__" ["cls","instance","C"] 151 2 w4,
 df (sc 14 1) 251 635 "_ABCLike.__subclasscheck__" ["cls","C"] 157 2 w4,
 df (sc 14 2) 258 643 "_ABCLike.register" ["cls","subclass"] 162 2 w4,
 [tu [],di (en P "__module__" 621 w4 :: c5 P++[en P "__doc__" 652 .none]) 2,⟨(.type "type"),none,.cls ⟨"_ABCLike",[(.ref 234)],[(.ref 267),(.ref 234),(.type "type"),(.type "object")],266,"_ABCLike",true,[],[],false,none,false⟩,[some (.ref 237),none,some (sv "_ABCLike" 614),some (sv "_ABCLike" 622),some (.builtin "type.__new__"),some (.bool true)].toArray⟩,fo "super" [(.ref 267),(.ref 267),(.ref 267)],fo "builtin_function_or_method" [(.builtin "object.__init_subclass__"),(.ref 267)]],
 df (sm 15) 270 655 "_abc_plain_meta" ["C"] 164 1 w4,
 dr (sm 17) 277 664 "fspath" ["path","kind","hook","given"],
 df (sm 19) 284 676 "_check_arg_types" ["funcname","args","hasstr","hasbytes","s"] 185 1 w5 (fg:=7),
 dr (sm 22) 291 690 "_get_sep" ["path"],
 dr (sm 23) 298 697 "join" ["a","p","sep","path","b"],
 dr (sm 25) 305 709 "splitroot" ["p","sep","empty"],
 dr (sm 26) 312 718 "normpath" ["path","sep","dot","dotdot","_","initial_slashes","comps","new_comps","comp"],
 [⟨(.type "list"),none,.seq [(.int 14 736),(.int 17 737),(.int 4 738),(.int 1 739),(.int 1 740),(.int 21 741),(.int 9 742),(.int 0 743),(.int 604043296 744),(.int 1 745),(.int 0 746),(.int 0 747),(.int 0 748),(.int 0 749),(.int 0 750),(.int 8 751),(.int 4 752),(.int 0 753),(.int 13 754),(.int 14 755),(.int 21 756),(.int 9 757),(.int 0 758),(.int 604043296 759),(.int 1 760),(.int 0 761),(.int 0 762),(.int 0 763),(.int 0 764),(.int 0 765),(.int 8 766),(.int 4 767),(.int 0 768),(.int 1 769)].toArray 0,#[]⟩,di [] 0,tu [.none]],
 df (sm 29) 324 775 "_whence" ["n","what"] 262 2 w6]
noncomputable def R1(P:IB):AA (AA Obj):=[
 dr (sm 30) 331 783 "_index" ["n","what"],
 [tu [(.type "OSError"),(.type "ValueError")],fo "builtin_function_or_method" [(.builtin "type.__prepare__"),(.type "type")],di [en P "__module__" 798 (sv "io" 803),en P "__qualname__" 800 (sv "UnsupportedOperation" 799),en P "__firstlineno__" 802 (.int 274 801),en P "__static_attributes__" 805 (.ref 345)] 4,tu [],fl [],fo "code" [(sv "UnsupportedOperation" 793),(sv "UnsupportedOperation" 794),(fi 795),(iv 274),(iv 0),(iv 0),(iv 0),(iv 0),(.ref 341),(.bool false),(iv 318),(.ref 342),.none,.none,.none,.none,(iv 796),(iv 274),(fi 797)],⟨(.type "frame"),none,.plain,[some (.ref 343),some (.ref 3),some (.ref 340),none,some w6,none,some (.ref 0)].toArray⟩,tu [],di [en P "__module__" 798 (sv "io" 803),en P "__firstlineno__" 802 (.int 274 801),en P "__static_attributes__" 805 (.ref 345),en P "__weakref__" 807 (.ref 348),en P "__doc__" 808 .none] 3,⟨(.type "type"),none,.cls ⟨"UnsupportedOperation",[(.type "OSError"),(.type "ValueError")],[(.ref 347),(.type "OSError"),(.type "ValueError"),(.type "Exception"),(.type "BaseException"),(.type "object")],346,"UnsupportedOperation",true,[],[],false,none,false⟩,[some (.ref 338),none,some (sv "UnsupportedOperation" 791),some (sv "UnsupportedOperation" 799),some (.builtin "OSError.__new__"),some (.bool true)].toArray⟩,fo "getset_descriptor" [(sv "__weakref__" 806),(.ref 347),(.builtin "ExceptionGroup.__weakref__"),.none],fo "super" [(.ref 347),(.ref 347),(.ref 347)],fo "builtin_function_or_method" [(.builtin "object.__init_subclass__"),(.ref 347)],tu [],fo "builtin_function_or_method" [(.builtin "type.__prepare__"),(.type "type")],di [en P "__module__" 820 (sv "io" 825),en P "__qualname__" 822 (sv "IOBase" 821),en P "__firstlineno__" 824 (.int 276 823),en P "__new__" 835 (.ref 364),en P "__static_attributes__" 836 (.ref 365)] 5,tu [],fl [(iv 279),(iv 4),(.ref 363)],fo "code" [(sv "IOBase" 815),(sv "IOBase" 816),(fi 817),(iv 276),(iv 0),(iv 0),(iv 0),(iv 0),(.ref 354),(.bool false),(iv 318),(.ref 355),.none,.none,.none,.none,(iv 818),(iv 276),(fi 819)],⟨(.type "frame"),none,.plain,[some (.ref 356),some (.ref 3),some (.ref 353),none,some w6,none,some (.ref 0)].toArray⟩,tu [],fl [],tu [(sv "cls" 830),(sv "args" 831),(sv "kwargs" 832)],tu [],⟨.none,none,.func (pf (sc 32 1) "IOBase.__new__"),#[]⟩],
 [tu [],fo "getset_descriptor" [(sv "__dict__" 838),(.ref 367),(.builtin "function.__dict__"),(.builtin "function.__dict__#set")],fo "getset_descriptor" [(sv "__weakref__" 840),(.ref 367),(.builtin "ExceptionGroup.__weakref__"),.none],fo "super" [(.ref 367),(.ref 367),(.ref 367)],fo "builtin_function_or_method" [(.builtin "object.__init_subclass__"),(.ref 367)],tu [(.ref 367)],fo "builtin_function_or_method" [(.builtin "type.__prepare__"),(.type "type")],di [en P "__module__" 852 (sv "io" 857),en P "__qualname__" 854 (sv "BufferedIOBase" 853),en P "__firstlineno__" 856 (.int 283 855),en P "__static_attributes__" 859 (.ref 380)] 4,tu [],fl [],fo "code" [(sv "BufferedIOBase" 847),(sv "BufferedIOBase" 848),(fi 849),(iv 283),(iv 0),(iv 0),(iv 0),(iv 0),(.ref 376),(.bool false),(iv 318),(.ref 377),.none,.none,.none,.none,(iv 850),(iv 283),(fi 851)],⟨(.type "frame"),none,.plain,[some (.ref 378),some (.ref 3),some (.ref 375),none,some w6,none,some (.ref 0)].toArray⟩,tu [],di [en P "__module__" 852 (sv "io" 857),en P "__firstlineno__" 856 (.int 283 855),en P "__static_attributes__" 859 (.ref 380),en P "__doc__" 860 .none] 2,⟨(.type "type"),none,.cls ⟨"BufferedIOBase",[(.ref 367)],[(.ref 382),(.ref 367),(.type "object")],381,"BufferedIOBase",true,[],[(.ref 624)],false,none,false⟩,[some (.ref 373),none,some (sv "BufferedIOBase" 845),some (sv "BufferedIOBase" 853),some .none,some (.bool true)].toArray⟩,fo "super" [(.ref 382),(.ref 382),(.ref 382)],fo "builtin_function_or_method" [(.builtin "object.__init_subclass__"),(.ref 382)],tu [(.ref 367)],fo "builtin_function_or_method" [(.builtin "type.__prepare__"),(.type "type")],di [en P "__module__" 870 (sv "io" 875),en P "__qualname__" 872 (sv "TextIOBase" 871),en P "__firstlineno__" 874 (.int 285 873),en P "__static_attributes__" 877 (.ref 392)] 4,tu [],fl [],fo "code" [(sv "TextIOBase" 865),(sv "TextIOBase" 866),(fi 867),(iv 285),(iv 0),(iv 0),(iv 0),(iv 0),(.ref 388),(.bool false),(iv 318),(.ref 389),.none,.none,.none,.none,(iv 868),(iv 285),(fi 869)],⟨(.type "frame"),none,.plain,[some (.ref 390),some (.ref 3),some (.ref 387),none,some w6,none,some (.ref 0)].toArray⟩,tu []],
 [fo "super" [(.ref 394),(.ref 394),(.ref 394)],fo "builtin_function_or_method" [(.builtin "object.__init_subclass__"),(.ref 394)],tu [(.ref 382)],fo "builtin_function_or_method" [(.builtin "type.__prepare__"),(.type "type")],di (en P "__module__" 888 (sv "_io" 893) :: en P "__qualname__" 890 (sv "BytesIO" 889) :: c2 P) 34,tu [],fl (ct [(290,4,410),(296,4,417),(300,4,424),(314,4,431),(317,4,439),(320,4,446),(324,4,453),(327,4,460),(331,4,467),(335,4,474),(339,4,481),(343,4,488),(346,4,495),(349,4,502),(352,4,509),(355,4,516),(358,4,523),(362,4,531),(379,4,539),(382,4,547),(396,4,555),(399,4,562),(413,4,569),(416,4,577),(423,4,585),(426,4,592),(429,4,599),(436,4,606),(452,4,613),(455,4,620)]),fo "code" [(sv "BytesIO" 883),(sv "BytesIO" 884),(fi 885),(iv 287),(iv 0),(iv 0),(iv 0),(iv 0),(.ref 400),(.bool false),(iv 318),(.ref 401),.none,.none,.none,.none,(iv 886),(iv 287),(fi 887)],⟨(.type "frame"),none,.plain,[some (.ref 402),some (.ref 3),some (.ref 399),none,some w6,none,some (.ref 0)].toArray⟩,tu [.none]],
 df (sc 35 1) 405 895 "BytesIO.__init__" ["self","initial_bytes"] 290 2 w6 (d:=(.ref 404)),
 df (sc 35 2) 412 903 "BytesIO.__check" ["self"] 296 1 w6,
 df (sc 35 3) 419 910 "BytesIO.__line" ["self","limit","start","stop","i"] 300 2 w6,
 df (sc 35 4) 426 921 "BytesIO.closed" ["self"] 313 1 w6,
 [fo "property" [(.ref 432),.none,.none,.none,(sv "closed" 928),(.bool false)]],
 df (sc 35 5) 434 929 "BytesIO.close" ["self"] 317 1 w6,
 df (sc 35 6) 441 936 "BytesIO.__enter__" ["self"] 320 1 w6,
 df (sc 35 7) 448 943 "BytesIO.__exit__" ["self","args"] 324 1 w6 (fg:=7),
 df (sc 35 8) 455 951 "BytesIO.readable" ["self"] 327 1 w6,
 df (sc 35 9) 462 958 "BytesIO.writable" ["self"] 331 1 w6,
 df (sc 35 10) 469 965 "BytesIO.seekable" ["self"] 335 1 w6,
 df (sc 35 11) 476 972 "BytesIO.isatty" ["self"] 339 1 w6,
 df (sc 35 12) 483 979 "BytesIO.flush" ["self"] 343 1 w6,
 df (sc 35 13) 490 986 "BytesIO.fileno" ["self"] 346 1 w6,
 df (sc 35 14) 497 993 "BytesIO.detach" ["self"] 349 1 w6,
 df (sc 35 15) 504 1000 "BytesIO.getvalue" ["self"] 352 1 w6,
 df (sc 35 16) 511 1007 "BytesIO.getbuffer" ["self"] 355 1 w6,
 df (sc 35 17) 518 1014 "BytesIO.tell" ["self"] 358 1 w6,
 [tu [(.int 0 1021)],tu [],fl [],tu [(sv "self" 1025),(sv "pos" 1026),(sv "whence" 1027)],tu [],⟨.none,none,.func (pf (sc 35 18) "BytesIO.seek"),#[]⟩,fo "code" [(sv "seek" 1022),(sv "BytesIO.seek" 1023),(fi 1024),(iv 362),(iv 3),(iv 3),(iv 0),(iv 3),(.ref 526),(.bool true),(iv 318),(.ref 527),.none,(.ref 528),(.ref 529),(.ref 530),(iv 1028),(iv 362),(fi 1029)],fn (ff (sc 35 18) "BytesIO.seek" w6 (.ref 531) (d:=(.ref 525))),tu [.none],tu [],fl [],tu [(sv "self" 1034),(sv "size" 1035)],tu [],⟨.none,none,.func (pf (sc 35 19) "BytesIO.truncate"),#[]⟩,fo "code" [(sv "truncate" 1031),(sv "BytesIO.truncate" 1032),(fi 1033),(iv 379),(iv 2),(iv 2),(iv 0),(iv 3),(.ref 534),(.bool true),(iv 318),(.ref 535),.none,(.ref 536),(.ref 537),(.ref 538),(iv 1036),(iv 379),(fi 1037)],fn (ff (sc 35 19) "BytesIO.truncate" w6 (.ref 539) (d:=(.ref 533))),tu [(.int (-1) 1040)],tu [],fl [],tu [(sv "self" 1044),(sv "size" 1045),(sv "start" 1046),(sv "stop" 1047)],tu [],⟨.none,none,.func (pf (sc 35 20) "BytesIO.read"),#[]⟩,fo "code" [(sv "read" 1041),(sv "BytesIO.read" 1042),(fi 1043),(iv 382),(iv 2),(iv 2),(iv 0),(iv 3),(.ref 542),(.bool true),(iv 318),(.ref 543),.none,(.ref 544),(.ref 545),(.ref 546),(iv 1048),(iv 382),(fi 1049)],fn (ff (sc 35 20) "BytesIO.read" w6 (.ref 547) (d:=(.ref 541))),tu [(.int (-1) 1052)]],
 [tu [],fl [],tu [(sv "self" 1056),(sv "size" 1057)],tu [],⟨.none,none,.func (pf (sc 35 21) "BytesIO.read1"),#[]⟩,fo "code" [(sv "read1" 1053),(sv "BytesIO.read1" 1054),(fi 1055),(iv 396),(iv 2),(iv 2),(iv 0),(iv 3),(.ref 550),(.bool true),(iv 318),(.ref 551),.none,(.ref 552),(.ref 553),(.ref 554),(iv 1058),(iv 396),(fi 1059)],fn (ff (sc 35 21) "BytesIO.read1" w6 (.ref 555) (d:=(.ref 549))),tu [],fl [],tu [(sv "self" 1064),(sv "buffer" 1065),(sv "start" 1066),(sv "n" 1067)],tu [],⟨.none,none,.func (pf (sc 35 22) "BytesIO.readinto"),#[]⟩,fo "code" [(sv "readinto" 1061),(sv "BytesIO.readinto" 1062),(fi 1063),(iv 399),(iv 2),(iv 2),(iv 0),(iv 3),(.ref 557),(.bool true),(iv 318),(.ref 558),.none,(.ref 559),(.ref 560),(.ref 561),(iv 1068),(iv 399),(fi 1069)],fn (ff (sc 35 22) "BytesIO.readinto" w6 (.ref 562)),tu [],fl [],tu [(sv "self" 1074),(sv "buffer" 1075)],tu [],⟨.none,none,.func (pf (sc 35 23) "BytesIO.readinto1"),#[]⟩,fo "code" [(sv "readinto1" 1071),(sv "BytesIO.readinto1" 1072),(fi 1073),(iv 413),(iv 2),(iv 2),(iv 0),(iv 3),(.ref 564),(.bool true),(iv 318),(.ref 565),.none,(.ref 566),(.ref 567),(.ref 568),(iv 1076),(iv 413),(fi 1077)],fn (ff (sc 35 23) "BytesIO.readinto1" w6 (.ref 569)),tu [(.int (-1) 1080)],tu [],fl [],tu [(sv "self" 1084),(sv "size" 1085)]],
 [tu [],⟨.none,none,.func (pf (sc 35 24) "BytesIO.readline"),#[]⟩,fo "code" [(sv "readline" 1081),(sv "BytesIO.readline" 1082),(fi 1083),(iv 416),(iv 2),(iv 2),(iv 0),(iv 3),(.ref 572),(.bool true),(iv 318),(.ref 573),.none,(.ref 574),(.ref 575),(.ref 576),(iv 1086),(iv 416),(fi 1087)],fn (ff (sc 35 24) "BytesIO.readline" w6 (.ref 577) (d:=(.ref 571))),tu [.none],tu [],fl [],tu [(sv "self" 1092),(sv "size" 1093)],tu [],⟨.none,none,.func (pf (sc 35 25) "BytesIO.readlines"),#[]⟩,fo "code" [(sv "readlines" 1089),(sv "BytesIO.readlines" 1090),(fi 1091),(iv 423),(iv 2),(iv 2),(iv 0),(iv 3),(.ref 580),(.bool true),(iv 318),(.ref 581),.none,(.ref 582),(.ref 583),(.ref 584),(iv 1094),(iv 423),(fi 1095)],fn (ff (sc 35 25) "BytesIO.readlines" w6 (.ref 585) (d:=(.ref 579)))],
 df (sc 35 26) 587 1097 "BytesIO.__iter__" ["self"] 426 1 w6,
 df (sc 35 27) 594 1104 "BytesIO.__next__" ["self","line"] 429 1 w6,
 [tu [],fl [],tu [(sv "self" 1115),(sv "b" 1116),(sv "n" 1117),(sv "start" 1118)],tu [],⟨.none,none,.func (pf (sc 35 28) "BytesIO.write"),#[]⟩,fo "code" [(sv "write" 1112),(sv "BytesIO.write" 1113),(fi 1114),(iv 436),(iv 2),(iv 2),(iv 0),(iv 3),(.ref 601),(.bool true),(iv 318),(.ref 602),.none,(.ref 603),(.ref 604),(.ref 605),(iv 1119),(iv 436),(fi 1120)],fn (ff (sc 35 28) "BytesIO.write" w6 (.ref 606)),tu [],fl [],tu [(sv "self" 1125),(sv "lines" 1126)],tu [],⟨.none,none,.func (pf (sc 35 29) "BytesIO.writelines"),#[]⟩,fo "code" [(sv "writelines" 1122),(sv "BytesIO.writelines" 1123),(fi 1124),(iv 452),(iv 2),(iv 2),(iv 0),(iv 3),(.ref 608),(.bool true),(iv 318),(.ref 609),.none,(.ref 610),(.ref 611),(.ref 612),(iv 1127),(iv 452),(fi 1128)],fn (ff (sc 35 29) "BytesIO.writelines" w6 (.ref 613))],
 df (sc 35 30) 615 1130 "BytesIO.__repr__" ["self"] 455 1 w6,
 [tu [(sv "__buf" 1137),(sv "__pos" 1138)],fo "super" [(.ref 624),(.ref 624),(.ref 624)],fo "builtin_function_or_method" [(.builtin "object.__init_subclass__"),(.ref 624)],tu [(.ref 394)],fo "builtin_function_or_method" [(.builtin "type.__prepare__"),(.type "type")],di (en P "__module__" 1150 (sv "_io" 1155) :: en P "__qualname__" 1152 (sv "StringIO" 1151) :: c3 P) 36,tu [],fl (ct [(460,4,640),(473,4,647),(481,4,654),(485,4,661),(489,4,668),(522,4,675),(526,4,683),(530,4,691),(534,4,699),(538,4,707),(541,4,715),(544,4,722),(548,4,729),(551,4,736),(555,4,743),(559,4,750),(563,4,757),(567,4,764),(570,4,771),(573,4,778),(576,4,785),(579,4,792),(583,4,800),(600,4,808),(603,4,816),(617,4,824),(624,4,832),(627,4,839),(631,4,846),(638,4,853),(657,4,860),(660,4,867)]),fo "code" [(sv "StringIO" 1145),(sv "StringIO" 1146),(fi 1147),(iv 457),(iv 0),(iv 0),(iv 0),(iv 0),(.ref 630),(.bool false),(iv 318),(.ref 631),.none,.none,.none,.none,(iv 1148),(iv 457),(fi 1149)],⟨(.type "frame"),none,.plain,[some (.ref 632),some (.ref 3),some (.ref 629),none,some w6,none,some (.ref 0)].toArray⟩],
 dr (sc 36 1) 635 1159 "StringIO.__init__" ["self","initial_value","newline"],
 dr (sc 36 2) 642 1168 "StringIO.__translated" ["self","s","newline"],
 dr (sc 36 3) 649 1177 "StringIO.__check" ["self"],
 df (sc 36 4) 656 1184 "StringIO.__check_dot" ["self"] 485 1 w6,
 df (sc 36 5) 663 1191 "StringIO.__line" ["self","limit","start","stop","cut","newline","i","j","end"] 489 2 w6,
 df (sc 36 6) 670 1206 "StringIO.closed" ["self"] 521 1 w6,
 [fo "property" [(.ref 676),.none,.none,.none,(sv "closed" 1213),(.bool false)]],
 df (sc 36 7) 678 1214 "StringIO.line_buffering" ["self"] 525 1 w6,
 [fo "property" [(.ref 684),.none,.none,.none,(sv "line_buffering" 1221),(.bool false)]],
 df (sc 36 8) 686 1222 "StringIO.newlines" ["self"] 529 1 w6]
noncomputable def R2(P:IB):AA (AA Obj):=[
 [fo "property" [(.ref 692),.none,.none,.none,(sv "newlines" 1229),(.bool false)]],
 df (sc 36 9) 694 1230 "StringIO.encoding" ["self"] 533 1 w6,
 [fo "property" [(.ref 700),.none,.none,.none,(sv "encoding" 1237),(.bool false)]],
 df (sc 36 10) 702 1238 "StringIO.errors" ["self"] 537 1 w6,
 [fo "property" [(.ref 708),.none,.none,.none,(sv "errors" 1245),(.bool false)]],
 df (sc 36 11) 710 1246 "StringIO.close" ["self"] 541 1 w6,
 df (sc 36 12) 717 1253 "StringIO.__enter__" ["self"] 544 1 w6,
 df (sc 36 13) 724 1260 "StringIO.__exit__" ["self","args"] 548 1 w6 (fg:=7),
 df (sc 36 14) 731 1268 "StringIO.readable" ["self"] 551 1 w6,
 df (sc 36 15) 738 1275 "StringIO.writable" ["self"] 555 1 w6,
 df (sc 36 16) 745 1282 "StringIO.seekable" ["self"] 559 1 w6,
 df (sc 36 17) 752 1289 "StringIO.isatty" ["self"] 563 1 w6,
 df (sc 36 18) 759 1296 "StringIO.flush" ["self"] 567 1 w6,
 df (sc 36 19) 766 1303 "StringIO.fileno" ["self"] 570 1 w6,
 df (sc 36 20) 773 1310 "StringIO.detach" ["self"] 573 1 w6,
 df (sc 36 21) 780 1317 "StringIO.getvalue" ["self"] 576 1 w6,
 df (sc 36 22) 787 1324 "StringIO.tell" ["self"] 579 1 w6,
 [tu [(.int 0 1331)],tu [],fl [],tu [(sv "self" 1335),(sv "pos" 1336),(sv "whence" 1337)],tu [],⟨.none,none,.func (pf (sc 36 23) "StringIO.seek"),#[]⟩,fo "code" [(sv "seek" 1332),(sv "StringIO.seek" 1333),(fi 1334),(iv 583),(iv 3),(iv 3),(iv 0),(iv 3),(.ref 795),(.bool true),(iv 318),(.ref 796),.none,(.ref 797),(.ref 798),(.ref 799),(iv 1338),(iv 583),(fi 1339)],fn (ff (sc 36 23) "StringIO.seek" w6 (.ref 800) (d:=(.ref 794))),tu [.none],tu [],fl [],tu [(sv "self" 1344),(sv "pos" 1345)],tu [],⟨.none,none,.func (pf (sc 36 24) "StringIO.truncate"),#[]⟩,fo "code" [(sv "truncate" 1341),(sv "StringIO.truncate" 1342),(fi 1343),(iv 600),(iv 2),(iv 2),(iv 0),(iv 3),(.ref 803),(.bool true),(iv 318),(.ref 804),.none,(.ref 805),(.ref 806),(.ref 807),(iv 1346),(iv 600),(fi 1347)],fn (ff (sc 36 24) "StringIO.truncate" w6 (.ref 808) (d:=(.ref 802))),tu [],fl [],tu [(sv "self" 1354),(sv "size" 1355),(sv "start" 1356),(sv "stop" 1357)],tu [],⟨.none,none,.func (pf (sc 36 25) "StringIO.read"),#[]⟩,tu [],fl [],tu [(sv "self" 1366),(sv "size" 1367)],tu []],
 [⟨.none,none,.func (pf (sc 36 26) "StringIO.readline"),#[]⟩,tu [(.int (-1) 1372)],tu [],fl [],tu [(sv "self" 1376),(sv "hint" 1377)],tu [],⟨.none,none,.func (pf (sc 36 27) "StringIO.readlines"),#[]⟩,fo "code" [(sv "readlines" 1373),(sv "StringIO.readlines" 1374),(fi 1375),(iv 624),(iv 2),(iv 2),(iv 0),(iv 3),(.ref 827),(.bool true),(iv 318),(.ref 828),.none,(.ref 829),(.ref 830),(.ref 831),(iv 1378),(iv 624),(fi 1379)],fn (ff (sc 36 27) "StringIO.readlines" w6 (.ref 832) (d:=(.ref 826)))],
 df (sc 36 28) 834 1381 "StringIO.__iter__" ["self"] 627 1 w6,
 df (sc 36 29) 841 1388 "StringIO.__next__" ["self","line"] 631 1 w6,
 [tu [],fl [],tu [(sv "self" 1399),(sv "s" 1400),(sv "n" 1401),(sv "m" 1402),(sv "start" 1403),(sv "buf" 1404)],tu [],⟨.none,none,.func (pf (sc 36 30) "StringIO.write"),#[]⟩,fo "code" [(sv "write" 1396),(sv "StringIO.write" 1397),(fi 1398),(iv 638),(iv 2),(iv 2),(iv 0),(iv 3),(.ref 848),(.bool true),(iv 318),(.ref 849),.none,(.ref 850),(.ref 851),(.ref 852),(iv 1405),(iv 638),(fi 1406)],fn (ff (sc 36 30) "StringIO.write" w6 (.ref 853)),tu [],fl [],tu [(sv "self" 1411),(sv "lines" 1412)],tu [],⟨.none,none,.func (pf (sc 36 31) "StringIO.writelines"),#[]⟩,fo "code" [(sv "writelines" 1408),(sv "StringIO.writelines" 1409),(fi 1410),(iv 657),(iv 2),(iv 2),(iv 0),(iv 3),(.ref 855),(.bool true),(iv 318),(.ref 856),.none,(.ref 857),(.ref 858),(.ref 859),(iv 1413),(iv 657),(fi 1414)],fn (ff (sc 36 31) "StringIO.writelines" w6 (.ref 860))],
 df (sc 36 32) 862 1416 "StringIO.__repr__" ["self"] 660 1 w6,
 [tu [(sv "__buf" 1423),(sv "__newline" 1424),(sv "__pos" 1425)],fo "super" [(.ref 871),(.ref 871),(.ref 871)],fo "builtin_function_or_method" [(.builtin "object.__init_subclass__"),(.ref 871)]],
 df (sm 38) 874 1432 "_kind" ["name","x","t"] 663 2 w7,
 df (sm 39) 881 1441 "_fspath" ["name","x","k"] 684 2 w7,
 df (sm 40) 888 1450 "_check_arg_types" ["funcname","args","s","k"] 689 1 w7 (fg:=7),
 df (sm 42) 895 1461 "isabs" ["s"] 695 1 w7,
 df (sm 43) 902 1468 "join" ["a","p","b","sep","path"] 698 1 w7 (fg:=7),
 df (sm 45) 909 1480 "dirname" ["p","sep","i","head"] 719 1 w7,
 [tu [],fo "builtin_function_or_method" [(.builtin "type.__prepare__"),(.type "type")],di (en P "__module__" 1499 w8 :: en P "__qualname__" 1501 (sv "shlex" 1500) :: c4 P) 15,tu [],fl (ct [(730,4,929),(772,4,936),(775,4,944),(778,4,952),(791,4,959),(798,4,966),(825,4,973),(962,4,980),(969,4,988),(972,4,995),(975,4,1002)]),fo "code" [(sv "shlex" 1494),(sv "shlex" 1495),(fi 1496),(iv 728),(iv 0),(iv 0),(iv 0),(iv 0),(.ref 919),(.bool false),(iv 318),(.ref 920),.none,.none,.none,.none,(iv 1497),(iv 728),(fi 1498)],⟨(.type "frame"),none,.plain,[some (.ref 921),some (.ref 3),some (.ref 918),none,some w8,none,some (.ref 0)].toArray⟩],
 dr (sc 47 0) 924 1504 "shlex.__init__" ["self","instream","infile","posix","punctuation_chars","t"],
 dr (sc 47 1) 931 1516 "shlex.punctuation_chars" ["self"],
 df (sc 47 2) 939 1524 "shlex.push_token" ["self","tok"] 775 2 w8,
 [tu [.none]],
 df (sc 47 3) 947 1532 "shlex.push_source" ["self","newstream","newfile"] 778 3 w8 (d:=(.ref 946)),
 df (sc 47 4) 954 1541 "shlex.pop_source" ["self"] 791 1 w8,
 dr (sc 47 5) 961 1548 "shlex.get_token" ["self","tok","raw","spec","newfile","newstream"],
 dr (sc 47 6) 968 1560 "shlex.read_token" ["self","quoted","escapedstate","nextchar","result"],
 df (sc 47 7) 975 1571 "shlex.sourcehook" ["self","newfile"] 962 2 w8]
noncomputable def R3(P:IB):AA (AA Obj):=[
 [tu [.none,.none]],
 df (sc 47 8) 983 1579 "shlex.error_leader" ["self","infile","lineno"] 969 3 w8 (d:=(.ref 982)),
 dr (sc 47 9) 990 1588 "shlex.__iter__" ["self"],
 dr (sc 47 10) 997 1595 "shlex.__next__" ["self","token"],
 [tu [(sv "_punctuation_chars" 1603),(sv "_pushback_chars" 1604),(sv "commenters" 1605),(sv "debug" 1606),(sv "eof" 1607),(sv "escape" 1608),(sv "escapedquotes" 1609),(sv "filestack" 1610),(sv "infile" 1611),(sv "instream" 1612),(sv "lineno" 1613),(sv "posix" 1614),(sv "pushback" 1615),(sv "quotes" 1616),(sv "source" 1617),(sv "state" 1618),(sv "token" 1619),(sv "whitespace" 1620),(sv "whitespace_split" 1621),(sv "wordchars" 1622)],fo "getset_descriptor" [(sv "__dict__" 1624),(.ref 1006),(.builtin "function.__dict__"),(.builtin "function.__dict__#set")],fo "getset_descriptor" [(sv "__weakref__" 1626),(.ref 1006),(.builtin "ExceptionGroup.__weakref__"),.none],fo "super" [(.ref 1006),(.ref 1006),(.ref 1006)],fo "builtin_function_or_method" [(.builtin "object.__init_subclass__"),(.ref 1006)]],
 dr (sm 48) 1012 1631 "split" ["s","comments","posix","lex"],
 dr (sm 50) 1020 1643 "quote" ["s"],
 dr (sm 52) 1027 1652 "_law_charset" ["charset"],
 [tu [],fl [],⟨.none,none,.func (pf (sm 53) "_law_text"),#[]⟩,tu [],fl [],⟨.none,none,.func (pf (sm 54) "_law_lines"),#[]⟩,tu [],fl [],⟨.none,none,.func (pf (sm 55) "_law_pieces"),#[]⟩],
 dr (sm 56) 1049 1677 "_law_told" ["parts","room","former","fws","part"],
 [tu [],fl [],⟨.none,none,.func (pf (sm 57) "law"),#[]⟩]]
noncomputable def KA(P:IB):Frag:=KL P++[(168,fl []),(175,fl []),(1028,fl [])]
noncomputable def ka:AA EA:=[2,3,48,49,62,63,69,70,83,84,97,98,111,112,118,119,121,122,130,135,136,142,143,149,150,151,157,158,159,165,166,172,173,179,180,181,187,188,194,195,196,202,203,205,206,282,283,296,297,303,304,310,311,317,318,322,323,336,337,363,364,366,367,368,393,394,623,624,634,640,641,647,648,654,655,810,816,817,818,824,825,870,871,923,929,930,936,937,938,966,967,973,974,995,996,1002,1003,1005,1006,1011,1017,1018,1019,1025,1026,1032,1033,1037,1038,1042,1043,1047,1048,1054,1055,1059,1060,168,175,1028]
noncomputable def ALL(P:IB):AA Obj:=fill 2000 0 (KL P) (R0 P++R1 P++R2 P++R3 P).flatten
noncomputable def tAt(P:IB)(n:Nat)(l:AA (Nat×Obj)):BT:=l.foldl (fun t x=>t.set x.1 fun _=>x.2) (bt 20 ((ALL P).take n))
noncomputable def Ss0(P:IB)(os:QG):SharedT:=⟨tAt P 34 [(2,O2 P 13),(3,O3 P "__main__" 164 10 290 304)],34,{},⟨[]⟩,{},318,os⟩
noncomputable def ps0:Pos:=⟨0,0,0,0⟩
noncomputable def Spre(P:IB)(os:QG):SharedT:=⟨tAt P 38 [(2,O2 P 13),(3,O3 P "__main__" 164 10 290 304),(35,fl (f35.take 0))],38,{},⟨[]⟩,{},324,os⟩
noncomputable def ppre:Pos:=⟨0,0,0,0⟩
noncomputable def S13(P:IB)(os:QG):SharedT:=⟨tAt P 270 [(2,O2 P 13),(3,O3 P "collections.abc" 612 19 290 304),(35,fl (f35.take 18))],270,{},⟨[]⟩,{},655,os⟩
noncomputable def p13:Pos:=⟨149,0,163,16⟩
noncomputable def S33(P:IB)(os:QG):SharedT:=⟨tAt P 397 [(3,O3 P "io" 773 35 290 304),(35,fl (f35.take 57)),(382,⟨(.type "type"),none,.cls ⟨"BufferedIOBase",[(.ref 367)],[(.ref 382),(.ref 367),(.type "object")],381,"BufferedIOBase",true,[],[],false,none,false⟩,[some (.ref 373),none,some (sv "BufferedIOBase" 845),some (sv "BufferedIOBase" 853),some .none,some (.bool true)].toArray⟩),(394,⟨(.type "type"),none,.cls ⟨"TextIOBase",[(.ref 367)],[(.ref 394),(.ref 367),(.type "object")],393,"TextIOBase",true,[],[],false,none,false⟩,[some (.ref 385),none,some (sv "TextIOBase" 863),some (sv "TextIOBase" 871),some .none,some (.bool true)].toArray⟩)],397,{},⟨[]⟩,{},881,os⟩
noncomputable def p33:Pos:=⟨285,0,286,21⟩
noncomputable def S34(P:IB)(os:QG):SharedT:=⟨tAt P 627 [(3,O3 P "io" 773 36 290 304),(35,fl (f35.take 60)),(394,⟨(.type "type"),none,.cls ⟨"TextIOBase",[(.ref 367)],[(.ref 394),(.ref 367),(.type "object")],393,"TextIOBase",true,[],[],false,none,false⟩,[some (.ref 385),none,some (sv "TextIOBase" 863),some (sv "TextIOBase" 871),some .none,some (.bool true)].toArray⟩)],627,{},⟨[]⟩,{},1143,os⟩
noncomputable def p34:Pos:=⟨287,0,456,17⟩
noncomputable def S35(P:IB)(os:QG):SharedT:=⟨tAt P 874 [(3,O3 P "io" 773 37 290 304),(35,fl (f35.take 63))],874,{},⟨[]⟩,{},1430,os⟩
noncomputable def p35:Pos:=⟨457,0,661,17⟩
noncomputable def Sfin(P:IB)(os:QG):SharedT:=⟨tAt P 1061 [],1061,{},⟨[]⟩,{},1694,os⟩
noncomputable def pfin:Pos:=⟨1028,0,1045,94⟩
end
end Hd
namespace Hd
noncomputable def envT:Env:={ scope:=pw.main.scope,locals:=mainNs,globals:=mainNs,cells:=[],code:=.ref 36,frame:=some 37 }
noncomputable def cdT:Code:=.body (RD pw) envT
noncomputable abbrev runP(w:HD)(n:Nat)(s:SharedT)(i k:Nat)(p:Pos):=segRunT treeTable pw w 34 (some (.ref 6)) 1 n s (ID (((RD pw).drop i).take k) envT cdT p [topFrame ⟨0,0,0,0⟩])
noncomputable def q:RC:={ pw with main:={ pw.main with body:=[sm 57] } }
noncomputable def loose:AA Str:=(["_sre","deque","_wall","twin_re_1_header","NL","EMPTYSTRING","_ValueFormatter","_Accumulator","_plain_name","ABCMeta","_ABCLike","_abc_plain_meta","fspath","_check_arg_types","check_arg_types_genericpath","_get_sep","join","join_posixpath","splitroot","normpath","twin_re_1_shlex","_whence","_index","UnsupportedOperation","IOBase","BufferedIOBase","TextIOBase","BytesIO","StringIO","_kind","_fspath","check_arg_types_path","isabs","join_path","dirname","shlex","split","_find_unsafe","quote","_law_charset","_law_text","_law_lines","_law_pieces","_law_told"]:AA String).map LD
noncomputable def H0(P:IB):PB:=absHeap (Ss0 P default).tree 34 {}
noncomputable def H1(P:IB):PB:=absHeap (Sfin P default).tree 1061 {}
noncomputable def Sb(P:IB):PB:=absHeap (tAt P 34 [(2,O2 P 13),(3,O3 P "__main__" 164 10 290 304),(11,di [en P "__name__" 247 (sv "_sre" 246),en P "__doc__" 248 .none,en P "__package__" 250 (sv "" 249),en P "__loader__" 251 (.ref 14),en P "__spec__" 252 (.ref 26),en P "compile" 253 (.builtin "_sre.compile"),en P "template" 254 (.builtin "_sre.template"),en P "getcodesize" 255 (.builtin "_sre.getcodesize"),en P "ascii_iscased" 256 (.builtin "_sre.ascii_iscased"),en P "unicode_iscased" 257 (.builtin "_sre.unicode_iscased"),en P "ascii_tolower" 258 (.builtin "_sre.ascii_tolower"),en P "unicode_tolower" 259 (.builtin "_sre.unicode_tolower"),en P "MAGIC" 261 (.int 20230612 260),en P "CODESIZE" 263 (.int 4 262),en P "MAXREPEAT" 265 (.int 4294967295 264),en P "MAXGROUPS" 267 (.int 1073741823 266),en P "copyright" 269 (sv " SRE 2.2.2 Copyright (c) 1997-2002 by Secret Labs AB " 268)] 17),(29,di [en P "__name__" 296 (sv "_collections" 295),en P "__doc__" 297 (.builtin "_collections.__doc__:str#opaque"),en P "__package__" 299 (sv "" 298),en P "__loader__" 300 (.ref 14),en P "__spec__" 301 (.ref 33),en P "_count_elements" 302 (.builtin "_collections._count_elements"),en P "deque" 303 (.type "collections.deque"),en P "defaultdict" 304 (.type "collections.defaultdict"),en P "_deque_iterator" 305 (.type "collections._deque_iterator"),en P "_deque_reverse_iterator" 306 (.type "collections._deque_reverse_iterator"),en P "_tuplegetter" 307 (.type "collections._tuplegetter"),en P "OrderedDict" 308 (.type "collections.OrderedDict")] 12)]) 34 {}
noncomputable abbrev bodyT:Thread:=⟨denote treeTable (.body (RD pw) envT),cdT,⟨0,0,0,0⟩,[topFrame ⟨0,0,0,0⟩]⟩
noncomputable abbrev lg:OpenLaw:=PySem.Challenge.rw_pd0203_01
theorem aDU:∀w:HD,importEnds treeTable (opening pw) w 1100 (start (opening pw)).1 (start (opening pw)).2=some ⟨Sb w.params,⟨[]⟩,{},318,(start (opening pw)).1.os⟩:=fun w=>by kernel_rfl
theorem aDV:∀w:HD,(fun os=>(fenceModules? pw ⟨Sb w.params,⟨[]⟩,{},318,os⟩).map (fun s=>(s.heap,s.gens,s.drawn,s.toks)))=fun _=>some ((Ss0 w.params default).abs.heap,⟨[]⟩,{},318):=fun w=>by kernel_rfl
theorem aDW:∀w:HD,((H0 w.params).isNs TB && (⟨[]⟩:RA UE).size == 0,(H0 w.params).objs.size,(H0 w.params).nsMap TB "__annotations__")=(true,34,some (.ref 6)):=fun w=>by kernel_rfl
theorem aDX:∀w:HD,(fun os:QG=>(staticsOk (importedModules pw.main.body) (H0 w.params) (H1 w.params) && namesBound pw (H1 w.params) && gensDone ⟨H1 w.params,⟨[]⟩,{},1694,os⟩ && laidKept (H0 w.params) (H1 w.params)))=fun _=>true:=fun w=>by kernel_rfl
theorem aDY:∀w:HD,(fun os=>openSeen q loose (importedModules pw.main.body) (fun _=>true) true ⟨H1 w.params,⟨[]⟩,{},1694,os⟩)=fun _=>openGood q loose:=fun w=>by kernel_rfl
theorem aDZ:∀w:HD,(fun os=>X.obsZ ka ⟨H1 w.params,⟨[]⟩,{},1694,os⟩)=fun _=>X.valZ KA 1061 1694 w:=fun w=>by kernel_rfl
theorem ka_eq:∀P,ka=(KA P).map (·.1):=fun P=>by kernel_rfl
theorem aGl:(decide (lg.foot≤(RD lg.prog).length))=true:=by kernel_rfl
theorem aGm:(lg.footing.all footLine)=true:=by kernel_rfl
theorem aGn:(noClassBlock lg.prog lg.footing)=true:=by kernel_rfl
theorem aGo:(lg.most.all (fun n=>decide (63≤n)))=true:=by kernel_rfl
theorem aGp:(lg.bound.all (fun n=>decide (2 ^ 63≤n)))=true:=by kernel_rfl
theorem aGq:(noRoadLSs { strict:=true,foot:=some lg.bound',writes:=lg.writes,may:=lg.may } lg.footing)=true:=by kernel_rfl
theorem aGr:(defStands lg.about lg.above)=true:=by kernel_rfl
theorem aGs:(lg.namesIt)=true:=by kernel_rfl
theorem aFo:((["type","isinstance","issubclass","getattr","hasattr"]:AA Str).all (fun n=>lg.about != [n]))=true:=by kernel_rfl
theorem aFp:(lg.bound'.all (fun n=>!builtinNamed n || lg.about == [n] || !lg.reads n))=true:=by kernel_rfl
theorem aFq:((!lg.writes || (lg.prog.main.body.flatMap importedNames).all fun n=>!lg.reads n))=true:=by kernel_rfl
theorem aFr:((lg.prog.main.body.flatMap importedNames).all (fun n=>!lg.reads n || (drawsOf n lg.prog.main.body).all fun mn=>mn.2 != ("attrgetter" : Str) && mn.2 != ("methodcaller" : Str)))=true:=by kernel_rfl
theorem aFs:(namesMeet lg.prog lg.footing (fun sc n=>(!(["type","isinstance","issubclass","getattr","hasattr"]:AA Str).contains n || sc.names.lookup n == some .globalImplicit) && (lg.may != some n || sc.kind == .module || sc.names.lookup n == some .globalImplicit)))=true:=by kernel_rfl
theorem aFt:(lg.own.contains lg.name)=true:=by kernel_rfl
theorem aFu:(lg.own.eraseDups.length == lg.own.length)=true:=by kernel_rfl
theorem aFv:(lg.own.all (fun n=>!builtinNamed n))=true:=by kernel_rfl
theorem aFw:(namesMeet lg.prog lg.above (fun _ n=>!lg.own.contains n))=true:=by kernel_rfl
theorem aFx:(namesMeet lg.prog lg.footing fun sc n=>sc.kind == .module || sc.names.lookup n != some .globalExplicit)=true:=by kernel_rfl
theorem aGt:(sreFenced pw.main)=true:=by kernel_rfl
theorem aGu:(((moduleNames pw.main.body).isEmpty || lookedIntoSs (moduleNames pw.main.body) pw.main.body))=true:=by kernel_rfl
theorem aGv:(namesResolve pw)=true:=by kernel_rfl
theorem aGw:(pw.boundNames.all (fun n=>!worldNames.contains n))=true:=by kernel_rfl
theorem aGx:readsOut pw pw.main.body "vars" = false:=by kernel_rfl
theorem aGy:readsOut pw pw.main.body "dir" = false:=by kernel_rfl
theorem aGz:readsOut pw pw.main.body "locals" = false:=by kernel_rfl
theorem fil3{p:Str→NB}{a b c:Str}(h1:p a=false)(h2:p b=false)(h3:p c=false):[a,b,c].filter p=[]:=by simp[List.filter,h1,h2,h3]
theorem aFy:noRoadLSs { strict:=!(importedModules pw.main.body).all cThrough.contains,foot:=none,bare:=[] } pw.main.body=true:=by kernel_rfl
theorem aGA:(noRoadLSs { strict:=!(importedModules pw.main.body).all cThrough.contains,foot:=none,bare:=(["vars","dir","locals"]:AA Str).filter (readsOut pw pw.main.body) } pw.main.body)=true:=by rw[fil3 aGx aGy aGz];exact aFy
theorem aGB:(namesMeet pw pw.main.body fun _ n=>attrL n)=true:=by kernel_rfl
theorem aGC:(lg.row.toRowW.solid)=true:=by kernel_rfl
theorem aGD:(lg.row.prog.boundNames.contains lg.row.name)=true:=by kernel_rfl
theorem aGE:(!startupNames.contains lg.row.name)=true:=by kernel_rfl
theorem aGF:lg.row.wellSaid=true:=by
 have hx:looksOpen pw=true:=BC (BC (BC (BC (BC aGt aGu) aGv) aGw) aGA) aGB
 have hp:lg.row.partSaid=true:=BC (BC (BC (BC (BC (BC (BC (BC (BC (BC (BC (BC hx rfl) rfl) rfl) rfl) rfl) rfl) aGC) (by rfl)) (by rfl)) (by rfl)) (by rfl)) (by rfl) |> fun x=>BC x (by rfl)
 exact BC (BC hp aGD) aGE
theorem aEa:lg.wellSaid=true:=BC (BC (BC (BC (BC (BC (BC (BC (BC (BC (BC (BC (BC (BC (BC (BC (BC (BC aGF aGl) aGm) aGn) aGo) aGp) aGq) aGr) aGs) aFo) aFp) aFq) aFr) aFs) aFt) aFu) aFv) aFw) aFx
theorem aCJ:∀w:HD,(fun os=>topGo treeTable pw w 34 (some (.ref 6)) 12 (Ss0 w.params os).abs (topStub pw))=fun os=>some ((Spre w.params os).abs,bodyT):=fun w=>by kernel_rfl
theorem yU:∀w:HD,(fun os=>segRunT treeTable pw w 34 (some (.ref 6)) 1 5 (Spre w.params os) (blockOf (RD pw) envT cdT ppre [topFrame ⟨0,0,0,0⟩]))=fun os=>some (.next,Spre w.params os,cdT,ppre):=fun w=>by kernel_rfl
theorem aCK:∀w:HD,(fun os=>topRun treeTable pw w 34 (some (.ref 6)) 5 (Sfin w.params os).abs (restOf [] envT cdT pfin [topFrame ⟨0,0,0,0⟩]))=fun os=>some ((Sfin w.params os).abs):=fun w=>by kernel_rfl
theorem aFz:∀w:HD,(fun os=>runP w 2000 (Spre w.params os) 0 13 ppre)=fun os=>some (.next,S13 w.params os,cdT,p13):=fun w=>by kernel_rfl
theorem aFA:∀w:HD,(fun os=>runP w 2000 (S13 w.params os) 13 20 p13)=fun os=>some (.next,S33 w.params os,cdT,p33):=fun w=>by kernel_rfl
theorem aFB:∀w:HD,(fun os=>runP w 2000 (S33 w.params os) 33 1 p33)=fun os=>some (.next,S34 w.params os,cdT,p34):=fun w=>by kernel_rfl
theorem aFC:∀w:HD,(fun os=>runP w 2000 (S34 w.params os) 34 1 p34)=fun os=>some (.next,S35 w.params os,cdT,p35):=fun w=>by kernel_rfl
theorem aFD:∀w:HD,(fun os=>runP w 2000 (S35 w.params os) 35 100 p35)=fun os=>some (.next,Sfin w.params os,cdT,pfin):=fun w=>by kernel_rfl
end Hd
namespace Hd
theorem gN{w:HD}{s s' r:CA}{i k n N:Nat}{p p':Pos}(h:segRun treeTable pw w 34 (some (.ref 6)) 1 n s (ID (((RD pw).drop i).take k) envT cdT p [topFrame ⟨0,0,0,0⟩])=some (.next,s',cdT,p'))
  (x:topRun treeTable pw w 34 (some (.ref 6)) N s' (restOf ((RD pw).drop (i+k)) envT cdT p' [topFrame ⟨0,0,0,0⟩])=some r):
  topRun treeTable pw w 34 (some (.ref 6)) (n+N) s (restOf ((RD pw).drop i) envT cdT p [topFrame ⟨0,0,0,0⟩])=some r:=by
 have e:((RD pw).drop i)=((RD pw).drop i).take k++(RD pw).drop (i+k):=by
  rw[← List.drop_drop,JC]
 rw[e]
 exact piece_app h x
theorem aAZ:(RD pw).length=56:=by kernel_rfl
theorem aFE(w:HD)(os:QG):topRun treeTable pw w 34 (some (.ref 6)) (12+(5+(2000+(2000+(2000+(2000+(2000+5))))))) ⟨H0 w.params,⟨[]⟩,{},318,os⟩ (topStub pw)=some ⟨H1 w.params,⟨[]⟩,{},1694,os⟩:=by
 refine go_top (congrFun (aCJ w) os) (piece_block (segRun_of (congrFun (yU w) os)) ?_)
 refine gN (i:=0) (segRun_of (congrFun (aFz w) os)) (gN (i:=13) (segRun_of (congrFun (aFA w) os)) (gN (i:=33) (segRun_of (congrFun (aFB w) os)) (gN (i:=34) (segRun_of (congrFun (aFC w) os)) (gN (i:=35) (segRun_of (congrFun (aFD w) os)) ?_))))
 have e:(RD pw).drop (35+100)=[]:=List.drop_eq_nil_of_le (by rw[aAZ];lia)
 rw[e]
 exact congrFun (aCK w) os
noncomputable abbrev rr:OpenRow:=lg.row
theorem aEb:LeftO pw q loose (fun x9=>true) (X.obsZ ka) (X.valZ KA 1061 1694) 11000:=
 LeftO.of_pieces (H₀:=H0) (H₁:=H1) (gs₀:=⟨[]⟩) (gs₁:=⟨[]⟩) (d₀:={}) (d₁:={}) (k₀:=318) (k₁:=1694) (m₀:=34) (ann:=some (.ref 6)) (M:=12+(5+(2000+(2000+(2000+(2000+(2000+5)))))))
  (open_cut (M:=1100) (He:=Sb) (ge:=⟨[]⟩) (de:={}) (ke:=318) aDU (by decide) aDV) aDW aFE (by decide)
  fun w=>funext fun os=>Prod.ext (congrFun (aDX w) os) (Prod.ext (congrFun (aDY w) os) (congrFun (aDZ w) os))
theorem aFF:∃d kwd,defOf q rr.name=some (d,kwd)∧rr.prog.theDef rr.name=some (d.params,d.body,d.scope)∧kwWritten? d.params.kwonlyargs d.params.kw_defaults=some kwd:=by
 have h1:(defOf q rr.name).isSome=true:=by kernel_rfl
 refine o11 (Option.isSome_iff_exists.mp h1) fun x0 e=>?_;obtain ⟨d,kwd⟩:=x0
 have h2:rr.prog.theDef rr.name=(defOf q rr.name).map fun x=>(x.1.params,x.1.body,x.1.scope):=by kernel_rfl
 have h3:(defOf q rr.name).bind (fun x=>kwWritten? x.1.params.kwonlyargs x.1.params.kw_defaults)=(defOf q rr.name).map (·.2):=by kernel_rfl
 rw[e] at h2 h3
 exact ⟨d,kwd,e,h2,h3⟩
theorem aGG:(chainsOk q && opensWell rr.prog && (frees rr.toRowW && rr.within.isEmpty))=true:=by kernel_rfl
theorem aCL:rr.toRowW.found=true:=by kernel_rfl
theorem aEc:rr.prog.bare:=⟨rfl,rfl,rfl,rfl,rfl,by decide +kernel⟩
theorem head_A(call:∀d kwd,d.name=rr.name→WalkX q loose (fun x9 x9=>True) (X.obsZ ka) (X.valZ KA 1061 1694) rr.toRowW d kwd fun f vs=>PySem.call f vs):lg.Holds:=by
 refine holds_law aEa fun said=>?_
 refine o23 aFF fun d kwd hdef hp hk=>?_
 exact holds_openX (r:=rr) (q:=q) (loose:=loose) (Xt:=fun x9=>true) (XP:=fun x9 x9=>True) aEb (fun x9 x9=>trivial) (fun x9 x9 x9 x9 x9=>trivial) hdef hp hk (fun x9 x9=>recFacts_nil rfl) rfl said aGG aEc (RowW.promised_of_found aCL) (call d kwd (defOf_name hdef))
end Hd
inductive AV where
 | none|bool (b:NB)|int (i:Int)|str (s:Str)|tup (l:AA AV)|lst (l:AA AV)|obj (i:Nat)|val (v:BA)
structure Rho where
 rows:AA (AA EA)
 hid:AA EA
noncomputable def Rho.all(ρ:Rho):AA EA:=ρ.rows.flatten++ρ.hid
inductive VNone:BA→Prop
 | none:VNone .none
inductive VBool(b:NB):BA→Prop
 | bool:VBool b (.bool b)
inductive VInt(i:Int):BA→Prop
 | int (t:Tok):VInt i (.int i t)
inductive VStr(s:Str):BA→Prop
 | str (t:Tok):VStr s (.str s t)
inductive VTup(h:PB)(ρ:Rho)(Q:AA BA→Prop):BA→Prop
 | tup {a:EA}{its:RA BA}{n:Nat}(e:h.get? a=some ⟨.type "tuple",.none,.seq its n,#[]⟩) (ha:a∉ρ.all) (hl:Q its.toList):VTup h ρ Q (.ref a)
inductive VLst(h:PB)(ρ:Rho)(Q:AA BA→Prop):BA→Prop
 | lst {a:EA}{its:RA BA}{n:Nat}(e:h.get? a=some ⟨.type "list",.none,.seq its n,#[]⟩) (ha:a∉ρ.all) (hl:Q its.toList):VLst h ρ Q (.ref a)
inductive VObj(ρ:Rho)(i:Nat):BA→Prop
 | obj {a:EA}{r:AA EA}(e:ρ.rows[i]?= some (a :: r)):VObj ρ i (.ref a)
inductive VVal(v:BA):BA→Prop
 | val:VVal v v
inductive VNil:AA BA→Prop
 | nil:VNil []
inductive VCons(P:BA→Prop)(Q:AA BA→Prop):AA BA→Prop
 | cons {mv:BA}{ml:AA BA}(e:P mv) (el:Q ml):VCons P Q (mv :: ml)
mutual
noncomputable def VR(h:PB)(ρ:Rho):AV→BA→Prop
 | .none=>VNone
 | .bool b=>VBool b
 | .int i=>VInt i
 | .str s=>VStr s
 | .tup l=>VTup h ρ (VRs h ρ l)
 | .lst l=>VLst h ρ (VRs h ρ l)
 | .obj i=>VObj ρ i
 | .val v=>VVal v
noncomputable def VRs(h:PB)(ρ:Rho):AA AV→AA BA→Prop
 | []=>VNil
 | a :: l=>VCons (VR h ρ a) (VRs h ρ l)
end
section
variable {h:PB}{ρ:Rho}
theorem VR.none:VR h ρ .none .none:=VNone.none
theorem VR.bool(b:NB):VR h ρ (.bool b) (.bool b):=VBool.bool
theorem VR.int(i:Int)(t:Tok):VR h ρ (.int i) (.int i t):=VInt.int t
theorem VR.str(s:Str)(t:Tok):VR h ρ (.str s) (.str s t):=VStr.str t
theorem VR.val(v:BA):VR h ρ (.val v) v:=VVal.val
theorem VR.obj{i:Nat}{a:EA}{r:AA EA}(e:ρ.rows[i]?= some (a :: r)):VR h ρ (.obj i) (.ref a):=VObj.obj e
theorem VR.tup{l:AA AV}{a:EA}{its:RA BA}{n:Nat}(e:h.get? a=some ⟨.type "tuple",.none,.seq its n,#[]⟩)(ha:a∉ρ.all)(hl:VRs h ρ l its.toList):VR h ρ (.tup l) (.ref a):=VTup.tup e ha hl
theorem VR.lst{l:AA AV}{a:EA}{its:RA BA}{n:Nat}(e:h.get? a=some ⟨.type "list",.none,.seq its n,#[]⟩)(ha:a∉ρ.all)(hl:VRs h ρ l its.toList):VR h ρ (.lst l) (.ref a):=VLst.lst e ha hl
theorem VRs.nil:VRs h ρ [] []:=VNil.nil
theorem VRs.cons{v:AV}{mv:BA}{l:AA AV}{ml:AA BA}(e:VR h ρ v mv)(el:VRs h ρ l ml):VRs h ρ (v :: l) (mv :: ml):=VCons.cons e el
end
inductive VR0(h:PB)(ρ:Rho):AV→BA→Prop
 | none:VR0 h ρ .none .none
 | bool (b:NB):VR0 h ρ (.bool b) (.bool b)
 | int (i:Int) (t:Tok):VR0 h ρ (.int i) (.int i t)
 | str (s:Str) (t:Tok):VR0 h ρ (.str s) (.str s t)
 | tup {l:AA AV}{a:EA}{its:RA BA}{n:Nat}(e:h.get? a=some ⟨.type "tuple",.none,.seq its n,#[]⟩) (ha:a∉ρ.all) (hl:VRs h ρ l its.toList):VR0 h ρ (.tup l) (.ref a)
 | lst {l:AA AV}{a:EA}{its:RA BA}{n:Nat}(e:h.get? a=some ⟨.type "list",.none,.seq its n,#[]⟩) (ha:a∉ρ.all) (hl:VRs h ρ l its.toList):VR0 h ρ (.lst l) (.ref a)
 | obj {i:Nat}{a:EA}{r:AA EA}(e:ρ.rows[i]?= some (a :: r)):VR0 h ρ (.obj i) (.ref a)
 | val (v:BA):VR0 h ρ (.val v) v
inductive VRs0(h:PB)(ρ:Rho):AA AV→AA BA→Prop
 | nil:VRs0 h ρ [] []
 | cons {v:AV}{mv:BA}{l:AA AV}{ml:AA BA}(e:VR h ρ v mv) (el:VRs h ρ l ml):VRs0 h ρ (v :: l) (mv :: ml)
theorem VR.ind{h:PB}{ρ:Rho}{mv:BA}:∀{v:AV},VR h ρ v mv→VR0 h ρ v mv
 | .none,q=>by cases q;exact .none
 | .bool _,q=>by cases q;exact .bool _
 | .int _,q=>by cases q;exact .int _ _
 | .str _,q=>by cases q;exact .str _ _
 | .tup _,q=>by cases q with|tup a b c=>exact .tup a b c
 | .lst _,q=>by cases q with|lst a b c=>exact .lst a b c
 | .obj _,q=>by cases q with|obj e=>exact .obj e
 | .val _,q=>by cases q;exact .val _
theorem VRs.ind{h:PB}{ρ:Rho}{ml:AA BA}:∀{l:AA AV},VRs h ρ l ml→VRs0 h ρ l ml
 | [],q=>by cases q;exact .nil
 | _ :: _,q=>by cases q with|cons a b=>exact .cons a b
noncomputable def Free(h:PB)(ρ:Rho)(b:EA):Prop:=b∈ρ.all∨h.get? b=Option.none∨∃o,h.get? b=some o∧∀its n,o.data≠.seq its n
theorem Free.ns{h:PB}{ρ:Rho}{b:EA}{m:Str→YA BA}(q:h.Ns b m):Free h ρ b:=by
 refine o33 q fun o es ep e d x9=>?_;clear q
 exact .inr (.inr ⟨o,e,fun its n q=>by rw[d] at q;cases q⟩)
theorem Free.cell{h:PB}{ρ:Rho}{b:EA}{v:YA BA}(q:h.IsCell b v):Free h ρ b:=by
 refine o12 q fun o e d=>?_;clear q
 exact .inr (.inr ⟨o,e,fun its n q=>by rw[d] at q;cases q⟩)
theorem Free.fields{h:PB}{ρ:Rho}{b:EA}{o:Obj}{vs:RA BA}(e:h.get? b=some o)(d:o.data=.fields vs):Free h ρ b:=
 .inr (.inr ⟨o,e,fun its n q=>by rw[d] at q;cases q⟩)
theorem Free.not{h:PB}{ρ:Rho}{a:EA}{o:Obj}{its:RA BA}{n:Nat}(e:h.get? a=some o)(d:o.data=.seq its n)(ha:a∉ρ.all):¬ Free h ρ a:=by
 rintro (q|q|⟨o,q,z⟩)
 ·exact ha q
 ·rw[e] at q;cases q
 ·rw[e] at q;replace q:=si q;subst q;exact z _ _ d
mutual
theorem VR.move{h h':PB}{ρ ρ':Rho}(S:EA→Prop)(hk:∀b o,h.get? b=some o→¬ S b→h'.get? b=some o)(hS:∀b,S b→Free h ρ b)
  (hρ:∀(i:Nat) (p:AA EA),ρ.rows[i]?= some p→ρ'.rows[i]?= some p) (hn:∀a∈ρ'.all,Free h ρ a):∀{v:AV}{mv:BA},VR h ρ v mv→VR h' ρ' v mv
 | .none,_,q=>q
 | .bool _,_,q=>q
 | .int _,_,q=>q
 | .str _,_,q=>q
 | .val _,_,q=>q
 | .obj _,_,q=>by cases q with|obj e=>exact .obj (hρ _ _ e)
 | .tup l,_,q=>by
  cases q with
  | tup e ha hl=>exact .tup (hk _ _ e fun q=>Free.not e rfl ha (hS _ q)) (fun q=>Free.not e rfl ha (hn _ q)) (VRs.move S hk hS hρ hn (l:=l) hl)
 | .lst l,_,q=>by
  cases q with
  | lst e ha hl=>exact .lst (hk _ _ e fun q=>Free.not e rfl ha (hS _ q)) (fun q=>Free.not e rfl ha (hn _ q)) (VRs.move S hk hS hρ hn (l:=l) hl)
theorem VRs.move{h h':PB}{ρ ρ':Rho}(S:EA→Prop)(hk:∀b o,h.get? b=some o→¬ S b→h'.get? b=some o)(hS:∀b,S b→Free h ρ b)
  (hρ:∀(i:Nat) (p:AA EA),ρ.rows[i]?= some p→ρ'.rows[i]?= some p) (hn:∀a∈ρ'.all,Free h ρ a):∀{l:AA AV}{ml:AA BA},VRs h ρ l ml→VRs h' ρ' l ml
 | [],_,q=>q
 | v :: l,_,q=>by cases q with|cons e el=>exact .cons (VR.move S hk hS hρ hn (v:=v) e) (VRs.move S hk hS hρ hn (l:=l) el)
end
theorem VRs.length{h:PB}{ρ:Rho}:∀{l:AA AV}{ml:AA BA},VRs h ρ l ml→ml.length=l.length
 | [],_,q=>by cases q;rfl
 | _ :: _,_,q=>by cases q with|cons _ el=>rw[UA,UA,VRs.length el]
theorem VRs.append{h:PB}{ρ:Rho}:∀{l:AA AV}{ml:AA BA}{k:AA AV}{mk:AA BA},VRs h ρ l ml→VRs h ρ k mk→VRs h ρ (l++k) (ml++mk)
 | [],_,_,_,q,hk=>by cases q;exact hk
 | _ :: _,_,_,_,q,hk=>by cases q with|cons e el=>exact .cons e (VRs.append el hk)
theorem VRs.get{h:PB}{ρ:Rho}:∀{l:AA AV}{ml:AA BA},VRs h ρ l ml→∀(i:Nat) (v:AV),l[i]?= some v→∃mv,ml[i]?= some mv∧VR h ρ v mv
 | [],_,_,i,v,e=>by simp at e
 | _ :: _,_,q,0,v,e=>by cases q with|cons q ql=>simp at e;subst e;exact ⟨_,rfl,q⟩
 | _ :: _,_,q,i+1,v,e=>by cases q with|cons q ql=>simpa using VRs.get ql i v (by simpa using e)
theorem VRs.drop{h:PB}{ρ:Rho}:∀{l:AA AV}{ml:AA BA}(n:Nat),VRs h ρ l ml→VRs h ρ (l.drop n) (ml.drop n)
 | _,_,0,q=>by simpa using q
 | [],_,_+1,q=>by cases q;simpa using VRs.nil
 | _ :: _,_,n+1,q=>by cases q with|cons _ ql=>simpa using VRs.drop n ql
theorem VRs.take{h:PB}{ρ:Rho}:∀{l:AA AV}{ml:AA BA}(n:Nat),VRs h ρ l ml→VRs h ρ (l.take n) (ml.take n)
 | _,_,0,q=>by simpa using VRs.nil
 | [],_,_+1,q=>by cases q;simpa using VRs.nil
 | _ :: _,_,n+1,q=>by cases q with|cons q ql=>simpa using VRs.cons q (VRs.take n ql)
noncomputable def NsR(h:PB)(ρ:Rho)(d:EA)(at_:AA (Str×AV)):Prop:=
 ∃m,h.Ns1 d m∧∀x,match at_.lookup x with|some v=>∃mv,m x=some mv∧VR h ρ v mv|Option.none=>m x=Option.none
inductive AO where
 | lst (l:AA AV)
 | inst (C:EA) (sq:YA (AA AV)) (at_:AA (Str×AV))
 | other (o:Obj)
 | zip (l1 l2:AA AV)
 | zip2 (l:AA AV)
 | fn (at_:AA (Str×AV))
 | rng (x y z:Int)
 | dead
section
variable (h:PB)(ρ:Rho)
inductive OLst(l:AA AV):AA EA→Prop
 | lst {a:EA}{its:RA BA}{n:Nat}(e:h.get? a=some ⟨.type "list",.none,.seq its n,#[]⟩) (hl:VRs h ρ l its.toList):OLst l [a]
inductive OPlain(C:EA)(at_:AA (Str×AV)):AA EA→Prop
 | plain {a d:EA}(e:h.get? a=some ⟨.ref C,some d,.plain,#[]⟩) (hd:NsR h ρ d at_):OPlain C at_ [a,d]
inductive OSeq(C:EA)(l:AA AV)(at_:AA (Str×AV)):AA EA→Prop
 | seq {a d:EA}{its:RA BA}{n:Nat}(e:h.get? a=some ⟨.ref C,some d,.seq its n,#[]⟩) (hl:VRs h ρ l its.toList) (hd:NsR h ρ d at_):OSeq C l at_ [a,d]
inductive OOther(o:Obj):AA EA→Prop
 | other {a:EA}(e:h.get? a=some o):OOther o [a]
inductive OZip(v1 v2:AA AV):AA EA→Prop
 | zip {z TO i1 i2 TI l1 l2:EA}{x y:BA}(hz:IsZip h z TI TO .none) (hO:RH h TO x y) (h1:h.IsListIter i1 l1 0) (h2:h.IsListIter i2 l2 0)
   (hT:VR h ρ (.tup [.val (.ref i1),.val (.ref i2)]) (.ref TI)) (q1:VR h ρ (.lst v1) (.ref l1)) (q2:VR h ρ (.lst v2) (.ref l2)):OZip v1 v2 [z,TO,i1,i2]
inductive OZip2(v:AA AV):AA EA→Prop
 | zip2 {z TO TI it l:EA}{x y:BA}(hz:IsZip h z TI TO .none) (hO:RH h TO x y) (h1:h.IsListIter it l 0) (hT:VR h ρ (.tup [.val (.ref it),.val (.ref it)]) (.ref TI)) (q:VR h ρ (.lst v) (.ref l)):OZip2 v [z,TO,it]
inductive OFn(at_:AA (Str×AV)):AA EA→Prop
 | fn {a d:EA}{o:Obj}(e:h.get? a=some o) (hc:o.cls=.type "function" ∧∃fd,o.data=.func fd) (ho:o.dict=some d) (hd:NsR h ρ d at_):OFn at_ [a,d]
inductive ORng(x y z:Int):AA EA→Prop
 | rng {a:EA}{t u v:Tok}(e:IsRange h a x y z t u v):ORng x y z [a]
inductive ODead:AA EA→Prop
 | dead {p:AA EA}(e:∀a∈p,∃o,h.get? a=some o):ODead p
noncomputable def OR(p:AA EA)(o:AO):Prop:=match o with
 | .lst l=>OLst h ρ l p
 | .inst C .none at_=>OPlain h ρ C at_ p
 | .inst C (some l) at_=>OSeq h ρ C l at_ p
 | .other o=>OOther h o p
 | .zip v1 v2=>OZip h ρ v1 v2 p
 | .zip2 v=>OZip2 h ρ v p
 | .fn at_=>OFn h ρ at_ p
 | .rng x y z=>ORng h x y z p
 | .dead=>ODead h p
end
section
variable {h:PB}{ρ:Rho}
theorem OR.lst{a:EA}{l:AA AV}{its:RA BA}{n:Nat}(e:h.get? a=some ⟨.type "list",.none,.seq its n,#[]⟩)(hl:VRs h ρ l its.toList):OR h ρ [a] (.lst l):=OLst.lst e hl
theorem OR.plain{a d C:EA}{at_:AA (Str×AV)}(e:h.get? a=some ⟨.ref C,some d,.plain,#[]⟩)(hd:NsR h ρ d at_):OR h ρ [a,d] (.inst C .none at_):=OPlain.plain e hd
theorem OR.seq{a d C:EA}{l:AA AV}{at_:AA (Str×AV)}{its:RA BA}{n:Nat}(e:h.get? a=some ⟨.ref C,some d,.seq its n,#[]⟩)(hl:VRs h ρ l its.toList)(hd:NsR h ρ d at_):OR h ρ [a,d] (.inst C (some l) at_):=OSeq.seq e hl hd
theorem OR.other{a:EA}{o:Obj}(e:h.get? a=some o):OR h ρ [a] (.other o):=OOther.other e
theorem OR.zip{z TO i1 i2 TI l1 l2:EA}{x y:BA}{v1 v2:AA AV}(hz:IsZip h z TI TO .none)(hO:RH h TO x y)(h1:h.IsListIter i1 l1 0)(h2:h.IsListIter i2 l2 0)
   (hT:VR h ρ (.tup [.val (.ref i1),.val (.ref i2)]) (.ref TI)) (q1:VR h ρ (.lst v1) (.ref l1)) (q2:VR h ρ (.lst v2) (.ref l2)):OR h ρ [z,TO,i1,i2] (.zip v1 v2):=OZip.zip hz hO h1 h2 hT q1 q2
theorem OR.zip2{z TO TI it l:EA}{v:AA AV}{x y:BA}(hz:IsZip h z TI TO .none)(hO:RH h TO x y)(h1:h.IsListIter it l 0)(hT:VR h ρ (.tup [.val (.ref it),.val (.ref it)]) (.ref TI))(q:VR h ρ (.lst v) (.ref l)):OR h ρ [z,TO,it] (.zip2 v):=OZip2.zip2 hz hO h1 hT q
theorem OR.fn{a d:EA}{o:Obj}{at_:AA (Str×AV)}(e:h.get? a=some o)(hc:o.cls=.type "function" ∧∃fd,o.data=.func fd)(ho:o.dict=some d)(hd:NsR h ρ d at_):OR h ρ [a,d] (.fn at_):=OFn.fn e hc ho hd
theorem OR.rng{a:EA}{x y z:Int}{t u v:Tok}(e:IsRange h a x y z t u v):OR h ρ [a] (.rng x y z):=ORng.rng e
theorem OR.dead{p:AA EA}(e:∀a∈p,∃o,h.get? a=some o):OR h ρ p .dead:=ODead.dead e
end
inductive OR0(h:PB)(ρ:Rho):AA EA→AO→Prop
 | lst {a:EA}{l:AA AV}{its:RA BA}{n:Nat}(e:h.get? a=some ⟨.type "list",.none,.seq its n,#[]⟩) (hl:VRs h ρ l its.toList):OR0 h ρ [a] (.lst l)
 | plain {a d C:EA}{at_:AA (Str×AV)}(e:h.get? a=some ⟨.ref C,some d,.plain,#[]⟩) (hd:NsR h ρ d at_):OR0 h ρ [a,d] (.inst C .none at_)
 | seq {a d C:EA}{l:AA AV}{at_:AA (Str×AV)}{its:RA BA}{n:Nat}(e:h.get? a=some ⟨.ref C,some d,.seq its n,#[]⟩) (hl:VRs h ρ l its.toList) (hd:NsR h ρ d at_):OR0 h ρ [a,d] (.inst C (some l) at_)
 | other {a:EA}{o:Obj}(e:h.get? a=some o):OR0 h ρ [a] (.other o)
 | zip {z TO i1 i2 TI l1 l2:EA}{x y:BA}{v1 v2:AA AV}(hz:IsZip h z TI TO .none) (hO:RH h TO x y) (h1:h.IsListIter i1 l1 0) (h2:h.IsListIter i2 l2 0)
   (hT:VR h ρ (.tup [.val (.ref i1),.val (.ref i2)]) (.ref TI)) (q1:VR h ρ (.lst v1) (.ref l1)) (q2:VR h ρ (.lst v2) (.ref l2)):OR0 h ρ [z,TO,i1,i2] (.zip v1 v2)
 | zip2 {z TO TI it l:EA}{v:AA AV}{x y:BA}(hz:IsZip h z TI TO .none) (hO:RH h TO x y) (h1:h.IsListIter it l 0) (hT:VR h ρ (.tup [.val (.ref it),.val (.ref it)]) (.ref TI)) (q:VR h ρ (.lst v) (.ref l)):OR0 h ρ [z,TO,it] (.zip2 v)
 | fn {a d:EA}{o:Obj}{at_:AA (Str×AV)}(e:h.get? a=some o) (hc:o.cls=.type "function" ∧∃fd,o.data=.func fd) (ho:o.dict=some d) (hd:NsR h ρ d at_):OR0 h ρ [a,d] (.fn at_)
 | rng {a:EA}{x y z:Int}{t u v:Tok}(e:IsRange h a x y z t u v):OR0 h ρ [a] (.rng x y z)
 | dead {p:AA EA}(e:∀a∈p,∃o,h.get? a=some o):OR0 h ρ p .dead
theorem OR.ind{h:PB}{ρ:Rho}{p:AA EA}:∀{o:AO},OR h ρ p o→OR0 h ρ p o
 | .lst _,q=>by cases q with|lst e hl=>exact .lst e hl
 | .inst _ .none _,q=>by cases q with|plain e hd=>exact .plain e hd
 | .inst _ (some _) _,q=>by cases q with|seq e hl hd=>exact .seq e hl hd
 | .other _,q=>by cases q with|other e=>exact .other e
 | .zip _ _,q=>by cases q with|zip a b c d e f g=>exact .zip a b c d e f g
 | .zip2 _,q=>by cases q with|zip2 a b c d e=>exact .zip2 a b c d e
 | .fn _,q=>by cases q with|fn a b c d=>exact .fn a b c d
 | .rng ..,q=>by cases q with|rng e=>exact .rng e
 | .dead,q=>by cases q with|dead e=>exact .dead e
inductive ORs(h:PB)(ρ:Rho):AA (AA EA)→AA AO→Prop
 | nil:ORs h ρ [] []
 | cons {p:AA EA}{o:AO}{r:AA (AA EA)}{l:AA AO}(e:OR h ρ p o) (el:ORs h ρ r l):ORs h ρ (p :: r) (o :: l)
theorem NsR.move{h h':PB}{ρ ρ':Rho}{d:EA}{at_:AA (Str×AV)}(hd:∀o,h.get? d=some o→h'.get? d=some o)(hv:∀{v:AV}{mv:BA},VR h ρ v mv→VR h' ρ' v mv)(q:NsR h ρ d at_):NsR h' ρ' d at_:=by
 refine o12 q fun m x0 hm=>?_;clear q;refine o32 x0 fun o es ep e r=>?_;clear x0
 refine ⟨m,⟨o,es,ep,hd _ e,r⟩,fun x=>?_⟩
 have:=hm x
 cases e:at_.lookup x with
 | none=>rw[e] at this;exact this
 | some v=>rw[e] at this;refine o12 this fun mv a b=>?_;clear this;exact ⟨mv,a,hv b⟩
theorem OR.move{h h':PB}{ρ ρ':Rho}{p:AA EA}{o:AO}(hd:∀a∈p,∀o,h.get? a=some o→h'.get? a=some o)(hv:∀{v:AV}{mv:BA},VR h ρ v mv→VR h' ρ' v mv)(hvs:∀{v:AA AV}{mv:AA BA},VRs h ρ v mv→VRs h' ρ' v mv)(q:OR h ρ p o):OR h' ρ' p o:=by
 cases q.ind with
 | lst e hl=>exact .lst (hd _ (by simp) _ e) (hvs hl)
 | plain e hn=>exact .plain (hd _ (by simp) _ e) (hn.move (hd _ (by simp)) hv)
 | seq e hl hn=>exact .seq (hd _ (by simp) _ e) (hvs hl) (hn.move (hd _ (by simp)) hv)
 | other e=>exact .other (hd _ (by simp) _ e)
 | zip hz hO h1 h2 hT q1 q2=>
  refine o12 h1 fun o1 e1 r1=>?_;clear h1
  refine o12 h2 fun o2 e2 r2=>?_;clear h2
  exact .zip (hd _ (by simp) _ hz) (hd _ (by simp) _ hO) ⟨o1,hd _ (by simp) _ e1,r1⟩ ⟨o2,hd _ (by simp) _ e2,r2⟩ (hv hT) (hv q1) (hv q2)
 | zip2 hz hO h1 hT q0=>
  refine o12 h1 fun o1 e1 r1=>?_;clear h1
  exact .zip2 (hd _ (by simp) _ hz) (hd _ (by simp) _ hO) ⟨o1,hd _ (by simp) _ e1,r1⟩ (hv hT) (hv q0)
 | fn e hc ho hn=>exact .fn (hd _ (by simp) _ e) hc ho (hn.move (hd _ (by simp)) hv)
 | rng e=>exact .rng (hd _ (by simp) _ e)
 | dead e=>exact .dead fun a ha=>let ⟨o,z⟩:=e a ha;⟨o,hd a ha o z⟩
theorem ORs.move{h h':PB}{ρ ρ':Rho}(hv:∀{v:AV}{mv:BA},VR h ρ v mv→VR h' ρ' v mv)(hvs:∀{v:AA AV}{mv:AA BA},VRs h ρ v mv→VRs h' ρ' v mv):
  ∀{r:AA (AA EA)}{l:AA AO},(∀a∈r.flatten,∀o,h.get? a=some o→h'.get? a=some o)→ORs h ρ r l→ORs h' ρ' r l
 | _,_,_,.nil=>.nil
 | _,_,hd,.cons e el=>.cons (e.move (fun a ha=>hd a (by simp[ha])) hv hvs) (ORs.move hv hvs (fun a ha=>hd a (by simp only[HE,WA];exact .inr ha)) el)
theorem ORs.length{h:PB}{ρ:Rho}:∀{r:AA (AA EA)}{l:AA AO},ORs h ρ r l→r.length=l.length
 | _,_,.nil=>rfl
 | _,_,.cons _ el=>by rw[UA,UA,ORs.length el]
theorem ORs.get{h:PB}{ρ:Rho}:∀{r:AA (AA EA)}{l:AA AO},ORs h ρ r l→∀(i:Nat) (o:AO),l[i]?= some o→∃p,r[i]?= some p∧OR h ρ p o
 | _,_,.nil,i,v,e=>by simp at e
 | _,_,.cons q ql,0,v,e=>by simp at e;subst e;exact ⟨_,rfl,q⟩
 | _,_,.cons q ql,i+1,v,e=>by simpa using ORs.get ql i v (by simpa using e)
theorem ORs.append{h:PB}{ρ:Rho}:∀{r:AA (AA EA)}{l:AA AO}{r':AA (AA EA)}{l':AA AO},ORs h ρ r l→ORs h ρ r' l'→ORs h ρ (r++r') (l++l')
 | _,_,_,_,.nil,hk=>hk
 | _,_,_,_,.cons e el,hk=>.cons e (ORs.append el hk)
theorem ORs.take{h:PB}{ρ:Rho}:∀{r:AA (AA EA)}{l:AA AO}(n:Nat),ORs h ρ r l→ORs h ρ (r.take n) (l.take n)
 | _,_,0,_=>by simpa using ORs.nil
 | _,_,_+1,.nil=>by simpa using ORs.nil
 | _,_,n+1,.cons e el=>by simpa using ORs.cons e (ORs.take n el)
theorem ORs.set{h h':PB}{ρ:Rho}(hv:∀{v:AV}{mv:BA},VR h ρ v mv→VR h' ρ v mv)(hvs:∀{v:AA AV}{mv:AA BA},VRs h ρ v mv→VRs h' ρ v mv)
  {r:AA (AA EA)}{l:AA AO}(p:AA EA) (o:AO) (q:OR h' ρ p o) (H:ORs h ρ r l):∀(i:Nat),r.flatten.Nodup→r[i]?= some p→(∀a∈r.flatten,a∉p→∀o,h.get? a=some o→h'.get? a=some o)→ORs h' ρ r (l.set i o):=by
 induction H with
 | nil=>intro i _ e;simp at e
 | cons e0 el ih=>
  rename_i p0 o0 r0 l0
  intro i nd e hd
  simp only[HE,JA] at nd
  cases i with
  | zero=>
   simp only[List.getElem?_cons_zero,Option.some.injEq] at e
   subst e
   exact .cons q (ORs.move hv hvs (fun a ha=>hd a (by simp only[HE,WA];exact .inr ha) fun h1=>nd.2.2 a h1 a ha rfl) el)
  | succ i=>
   simp only[DH] at e
   have hp:∀a∈p,a∈r0.flatten:=fun a ha=>List.mem_flatten.mpr ⟨p,LB e,ha⟩
   exact .cons (e0.move (fun a ha=>hd a (by simp[ha]) fun h1=>nd.2.2 a ha a (hp a h1) rfl) hv hvs) (ih i nd.2.1 e fun a ha=>hd a (by simp only[HE,WA];exact .inr ha))
structure Bs where
 prog:RC
 w:HD
 K:Frag
 s₁:CA
 tabs:AA (EA×EA×RA BA)
structure aC(b:Bs):Prop where
 kin:b.K.In b.s₁.heap
 cls:∀a o,b.K.lookup a=some o→o.cls≠.none∨a=cStatics
 lim:b.s₁.heap.NoLimit
 tab:∀t∈b.tabs,b.s₁.heap.TableAt t.1 t.2.1 t.2.2
 code:∀t∈b.tabs,b.s₁.heap.IsCode t.1 t.2.1 t.2.2
 tabs:(b.tabs.map (·.2.1)).Nodup
 boot:∃mb,b.s₁.heap.Ns DC mb∧∀x:Str,x≠"__name__" →mb x=HG x
 bmain:∃mg bm ob,b.s₁.heap.Ns TB mg∧mg "__builtins__" = some (.ref bm)∧bm≠DC∧b.s₁.heap.get? bm=some ob∧ob.cls=.type "module" ∧ob.dict=some DC∧ob.data=.plain
structure OldS(h₀ h:PB):Prop extends OldK h₀ h where
 sta:∀o,h₀.get? cStatics=some o→h.get? cStatics=some o
structure R(b:Bs)(ρ:Rho)(mem:AA AO)(s:CA):Prop where
 old:OldS b.s₁.heap s.heap
 lim:s.heap.NoLimit
 bare:AllBare s.gens
 os:s.os=b.s₁.os
 tab:∀t∈b.tabs,∃more,s.heap.TableAt t.1 t.2.1 (t.2.2++more)∧TriplesOk (t.2.2++more).toList
 ors:ORs s.heap ρ ρ.rows mem
 nd:ρ.all.Nodup
 new:∀a∈ρ.all,b.s₁.heap.get? a=none
 hid:∀a∈ρ.hid,∃o,s.heap.get? a=some o
theorem R.kin{b:Bs}(B:aC b){ρ:Rho}{mem:AA AO}{s:CA}(r:R b ρ mem s):b.K.In s.heap:=
 fun a o e=>(B.cls a o e).elim (fun z=>r.old.toOldK.get_of_cls (B.kin a o e) z) fun z=>by subst z;exact r.old.sta o (B.kin _ o e)
theorem R.boot{b:Bs}(B:aC b){ρ:Rho}{mem:AA AO}{s:CA}(r:R b ρ mem s):∃mb,s.heap.Ns DC mb∧∀x:Str,x≠"__name__" →mb x=HG x:=by
 refine o12 B.boot fun mb x0 hb=>?_;refine o33 x0 fun o es ep e d z=>?_;clear x0
 refine ⟨mb,⟨o,es,ep,?_,d,z⟩,hb⟩
 rcases r.old.old _ _ e with x|⟨t,hc,vs,more,hv,x⟩| ⟨q,_⟩
 ·exact x
 ·have:o.data=.fields vs:=by rw[hv]
  rw[d] at this;cases this
 ·exact absurd q (by decide)
theorem R.bmain{b:Bs}(B:aC b){ρ:Rho}{mem:AA AO}{s:CA}(r:R b ρ mem s):∃mg bm ob,s.heap.Ns TB mg∧mg "__builtins__" = some (.ref bm)∧bm≠DC∧s.heap.get? bm=some ob∧ob.cls=.type "module" ∧ob.dict=some DC∧ob.data=.plain:=by
 refine o31 B.bmain fun mg bm ob x0=>?_;refine o07 x0 fun x1 h1 h2 h3 h4 h5 h6=>?_;clear x0;refine o33 x1 fun o es ep e d z=>?_;clear x1
 refine ⟨mg,bm,ob,⟨o,es,ep,?_,d,z⟩,h1,h2,r.old.toOldK.get_of_cls h3 (by rw[h4];exact fun q=>by cases q),h4,h5,h6⟩
 rcases r.old.old _ _ e with x|⟨t,hc,vs,more,hv,x⟩| ⟨q,_⟩
 ·exact x
 ·have:o.data=.fields vs:=by rw[hv]
  rw[d] at this;cases this
 ·exact absurd q (by decide)
theorem OR.there{h:PB}{ρ:Rho}{p:AA EA}{o:AO}(q:OR h ρ p o):∀a∈p,∃o,h.get? a=some o:=by
 cases q.ind with
 | lst e hl=>simpa using ⟨_,e⟩
 | plain e hn=>refine o12 hn fun m x0 hm=>?_;clear hn;refine o32 x0 fun o es ep e' r=>?_;clear x0;simpa using ⟨⟨_,e⟩,⟨_,e'⟩⟩
 | seq e hl hn=>refine o12 hn fun m x0 hm=>?_;clear hn;refine o32 x0 fun o es ep e' r=>?_;clear x0;simpa using ⟨⟨_,e⟩,⟨_,e'⟩⟩
 | other e=>simpa using ⟨_,e⟩
 | zip hz hO h1 h2 hT q1 q2=>
  refine o12 h1 fun o1 e1 r1=>?_;clear h1
  refine o12 h2 fun o2 e2 r2=>?_;clear h2
  simpa using ⟨⟨_,hz⟩,⟨_,hO⟩,⟨_,e1⟩,⟨_,e2⟩⟩
 | zip2 hz hO h1 hT q=>refine o12 h1 fun o1 e1 r1=>?_;clear h1;simpa using ⟨⟨_,hz⟩,⟨_,hO⟩,⟨_,e1⟩⟩
 | fn e hc ho hn=>refine o12 hn fun m x0 hm=>?_;clear hn;refine o32 x0 fun o es ep e' r=>?_;clear x0;simpa using ⟨⟨_,e⟩,⟨_,e'⟩⟩
 | rng e=>simpa using ⟨_,e⟩
 | dead e=>exact e
theorem ORs.there{h:PB}{ρ:Rho}{r:AA (AA EA)}{l:AA AO}(q:ORs h ρ r l):∀a∈r.flatten,∃o,h.get? a=some o:=by
 induction q with
 | nil=>intro a ha;simp at ha
 | cons e el ih=>
  intro a ha
  simp only[HE,WA] at ha
  exact ha.elim (e.there a) (ih a)
theorem Rho.mem_rows{ρ:Rho}{a:EA}(h:a∈ρ.rows.flatten):a∈ρ.all:=WA.mpr (.inl h)
theorem Rho.mem_hid{ρ:Rho}{a:EA}(h:a∈ρ.hid):a∈ρ.all:=WA.mpr (.inr h)
theorem R.there{b:Bs}{ρ:Rho}{mem:AA AO}{s:CA}(r:R b ρ mem s){a:EA}(ha:a∈ρ.all):∃o,s.heap.get? a=some o:=
 (mam ha).elim (r.ors.there a) (r.hid a)
theorem R.lt{b:Bs}{ρ:Rho}{mem:AA AO}{s:CA}(r:R b ρ mem s){a:EA}(ha:a∈ρ.all):a < s.heap.objs.size:=by
 refine o11 (r.there ha) fun o e=>?_;exact DB e
theorem aP{h:PB}{a:EA}(e:h.objs.size≤a):h.get? a=none:=by
 cases q:h.get? a with
 | none=>rfl
 | some o=>exact absurd (DB q) (Nat.not_lt.mpr e)
theorem R.fresh{b:Bs}{ρ:Rho}{mem:AA AO}{s:CA}(r:R b ρ mem s):b.s₁.heap.get? s.heap.objs.size=none:=by
 cases q:b.s₁.heap.get? s.heap.objs.size with
 | none=>rfl
 | some o=>refine o11 (r.old.there _ _ q) fun o' e=>?_;exact absurd (DB e) (JB _)
theorem rN{h₀ h h':PB}(K:OldS h₀ h){a:EA}(ha:h₀.get? a=none)(hs:∀b,b≠a→h'.get? b=h.get? b):OldS h₀ h':=by
 have ne:∀b o,h₀.get? b=some o→b≠a:=fun b o e q=>by rw[q,ha] at e;cases e
 refine ⟨⟨fun b o e=>?_,fun b o e=>?_⟩,fun o e=>by rw[hs _ (ne _ o e)];exact K.sta o e⟩
 ·have hb:=hs b (ne b o e)
  rcases K.old b o e with x|⟨t,hc,vs,more,hv,x⟩| ⟨rfl,hc,⟨o',es,n,ho',q⟩,z⟩
  ·exact .inl (by rw[hb];exact x)
  ·exact .inr (.inl ⟨t,hc,vs,more,hv,by rw[hb];exact x⟩)
  ·exact .inr (.inr ⟨rfl,hc,⟨o',es,n,by rw[hb];exact ho',q⟩,fun key=>by rw[OldK.staticOf_congr hb key];exact z key⟩)
 ·refine o11 (K.there b o e) fun o' e'=>?_
  exact ⟨o',by rw[hs b (ne b o e)];exact e'⟩
theorem R.keeps{b:Bs}{ρ:Rho}{mem:AA AO}{s:CA}(r:R b ρ mem s){h':PB}(k:∀b o,s.heap.get? b=some o→h'.get? b=some o)(g:RA UE)(hg:AllBare g)(d:Drawn)(t:Nat):R b ρ mem ⟨h',g,d,t,s.os⟩:=by
 have fr:∀a∈ρ.all,Free s.heap ρ a:=fun a ha=>.inl ha
 exact ⟨⟨r.old.toOldK.step_keeps k,fun o e=>k _ _ (r.old.sta o e)⟩,r.lim.imp fun m q=>⟨q.1.keeps k,q.2⟩,hg,r.os,fun t ht=>let ⟨m,q⟩:=r.tab t ht;⟨m,q.1.keeps k,q.2⟩,
  ORs.move (VR.move (fun x9=>False) (fun b o e x9=>k b o e) (fun x9 q=>q.elim) (fun x9 x9 e=>e) fr) (VRs.move (fun x9=>False) (fun b o e x9=>k b o e) (fun x9 q=>q.elim) (fun x9 x9 e=>e) fr) (fun a x9=>k a) r.ors,r.nd,r.new,fun a ha=>let ⟨o,e⟩:=r.hid a ha;⟨o,k a o e⟩⟩
theorem R.push{b:Bs}{ρ:Rho}{mem:AA AO}{s:CA}(r:R b ρ mem s)(o:Obj)(g:RA UE)(hg:AllBare g)(d:Drawn)(t:Nat):R b ρ mem ⟨s.heap.push o,g,d,t,s.os⟩:=
 r.keeps (fun b o' e=>gps o e) g hg d t
theorem R.same{b:Bs}(B:aC b){ρ:Rho}{mem:AA AO}{s:CA}(r:R b ρ mem s){L:EA}{h':PB}(hs:ZD L s.heap h')(hL:b.s₁.heap.get? L=none)(ho:L∉ρ.all)(hf:Free s.heap ρ L)
  (g:RA UE) (hg:AllBare g) (d:Drawn) (t:Nat):R b ρ mem ⟨h',g,d,t,s.os⟩:=by
 have k:∀b o',s.heap.get? b=some o'→¬ (b=L)→h'.get? b=some o':=fun b o' e n=>(hs.2 b n).trans e
 have fr:∀a∈ρ.all,Free s.heap ρ a:=fun a ha=>.inl ha
 have hS:∀b,b=L→Free s.heap ρ b:=fun b e=>e▸hf
 have nb:∀c o,b.s₁.heap.get? c=some o→c≠L:=fun c o e q=>by rw[q,hL] at e;cases e
 refine o12 B.lim fun mc x0 x9=>?_;refine o32 x0 fun oc x9 x9 hc x9=>?_;clear x0
 refine ⟨rN r.old hL hs.2,r.lim.sameBut hs (nb _ _ hc),hg,r.os,fun t ht=>?_,
  ORs.move (VR.move (·= L) k hS (fun x9 x9 e=>e) fr) (VRs.move (·= L) k hS (fun x9 x9 e=>e) fr) (fun a ha o e=>k a o e fun q=>ho (q▸Rho.mem_rows ha)) r.ors,r.nd,r.new,fun a ha=>let ⟨o,e⟩:=r.hid a ha;⟨o,k a o e fun q=>ho (q▸Rho.mem_hid ha)⟩⟩
 refine o11 (r.tab t ht) fun m q=>?_
 refine o02 (B.tab t ht) fun x0 h2=>?_;refine o22 x0 fun o vs h1 x9=>?_;clear x0
 exact ⟨m,q.1.sameBut hs (nb _ _ h1) (nb _ _ h2),q.2⟩
noncomputable def Kp(o:Obj):Prop:=o.cls=.none→∀vs,o.data≠.fields vs
theorem Kp.cls{o:Obj}{n:String}(h:o.cls=.type n):Kp o:=fun e=>by rw[h] at e;cases e
theorem Kp.dict{o:Obj}{es:RA YG}{ep:Nat}(h:o.data=.dict es ep):Kp o:=fun x9 vs e=>by rw[h] at e;cases e
theorem Kp.cell{o:Obj}{v:YA BA}(h:o.data=.cell v):Kp o:=fun x9 vs e=>by rw[h] at e;cases e
structure Ext(S:EA→Prop)(ρ:Rho)(s:CA)(ρ':Rho)(s':CA):Prop where
 keep:∀b o,s.heap.get? b=some o→¬ S b→b∉ρ.rows.flatten→Kp o→s'.heap.get? b=some o
 pre:∀(i:Nat) (p:AA EA),ρ.rows[i]?= some p→ρ'.rows[i]?= some p
 new:∀a∈ρ'.rows.flatten,a∈ρ.rows.flatten∨s.heap.get? a=none
 hid:ρ'.hid=ρ.hid
 live:∀b o,s.heap.get? b=some o→∃o',s'.heap.get? b=some o'
theorem Ext.refl(S:EA→Prop)(ρ:Rho)(s:CA):Ext S ρ s ρ s:=⟨fun x9 x9 e x9 x9 x9=>e,fun x9 x9 e=>e,fun x9 h=>.inl h,rfl,fun x9 o e=>⟨o,e⟩⟩
theorem Ext.trans{S:EA→Prop}{ρ ρ' ρ'':Rho}{s s' s'':CA}(x:Ext S ρ s ρ' s')(y:Ext S ρ' s' ρ'' s''):Ext S ρ s ρ'' s'':=by
 refine ⟨fun b o e hS hb kp=>y.keep b o (x.keep b o e hS hb kp) hS (fun q=>?_) kp,fun i p e=>y.pre i p (x.pre i p e),fun a ha=>?_,y.hid.trans x.hid,fun b o e=>?_⟩
 ·rcases x.new b q with q|q
  ·exact hb q
  ·rw[e] at q;cases q
 ·rcases y.new a ha with q|q
  ·exact x.new a q
  ·cases e:s.heap.get? a with
   | none=>exact .inr rfl
   | some o=>refine o11 (x.live a o e) fun o' e'=>?_;rw[q] at e';cases e'
 ·refine o11 (x.live b o e) fun o' e'=>?_;exact y.live b o' e'
theorem Ext.mono{S S':EA→Prop}(hS:∀b,S b→S' b){ρ ρ':Rho}{s s':CA}(x:Ext S ρ s ρ' s'):Ext S' ρ s ρ' s':=⟨fun b o e h=>x.keep b o e fun q=>h (hS _ q),x.pre,x.new,x.hid,x.live⟩
theorem Ext.of_keeps(S:EA→Prop)(ρ:Rho){s s':CA}(k:∀b o,s.heap.get? b=some o→s'.heap.get? b=some o):Ext S ρ s ρ s':=⟨fun b o e x9 x9 x9=>k b o e,fun x9 x9 e=>e,fun x9 h=>.inl h,rfl,fun b o e=>⟨o,k b o e⟩⟩
theorem Ext.all{S:EA→Prop}{ρ ρ':Rho}{s s':CA}(x:Ext S ρ s ρ' s'):∀a∈ρ'.all,a∈ρ.all∨s.heap.get? a=none:=fun a ha=>by
 rcases mam ha with h|h
 ·exact (x.new a h).imp Rho.mem_rows id
 ·exact .inl (Rho.mem_hid (x.hid▸h))
noncomputable abbrev NoS:EA→Prop:=fun x9=>False
noncomputable def bJ(L:EA)(cs:AA (Str×EA)):EA→Prop:=fun c=>c=L∨∃p∈cs,p.2=c
section
variable {S:EA→Prop}{ρ ρ':Rho}{s s':CA}
theorem Ext.vr(x:Ext S ρ s ρ' s')(hS:∀b,S b→Free s.heap ρ b){v:AV}{mv:BA}(q:VR s.heap ρ v mv):VR s'.heap ρ' v mv:=
 q.move (fun b=>(S b∨b∈ρ.rows.flatten)∨∃o,s.heap.get? b=some o∧¬ Kp o) (fun b o e n=>x.keep b o e (fun h=>n (.inl (.inl h))) (fun h=>n (.inl (.inr h))) (Classical.byContradiction fun h=>n (.inr ⟨o,e,h⟩)))
  (fun b h=>h.elim (fun h=>h.elim (hS b) fun q=>.inl (Rho.mem_rows q)) fun ⟨o,e,h⟩=>.inr (.inr ⟨o,e,fun its n q=>h fun x9 vs z=>by rw[q] at z;cases z⟩)) x.pre
  fun a ha=>(x.all a ha).elim .inl fun h=>.inr (.inl h)
theorem Ext.vrs(x:Ext S ρ s ρ' s')(hS:∀b,S b→Free s.heap ρ b){v:AA AV}{mv:AA BA}(q:VRs s.heap ρ v mv):VRs s'.heap ρ' v mv:=
 q.move (fun b=>(S b∨b∈ρ.rows.flatten)∨∃o,s.heap.get? b=some o∧¬ Kp o) (fun b o e n=>x.keep b o e (fun h=>n (.inl (.inl h))) (fun h=>n (.inl (.inr h))) (Classical.byContradiction fun h=>n (.inr ⟨o,e,h⟩)))
  (fun b h=>h.elim (fun h=>h.elim (hS b) fun q=>.inl (Rho.mem_rows q)) fun ⟨o,e,h⟩=>.inr (.inr ⟨o,e,fun its n q=>h fun x9 vs z=>by rw[q] at z;cases z⟩)) x.pre
  fun a ha=>(x.all a ha).elim .inl fun h=>.inr (.inl h)
theorem Ext.vr0(x:Ext NoS ρ s ρ' s'){v:AV}{mv:BA}(q:VR s.heap ρ v mv):VR s'.heap ρ' v mv:=x.vr (fun x9 h=>h.elim) q
theorem Ext.vrs0(x:Ext NoS ρ s ρ' s'){v:AA AV}{mv:AA BA}(q:VRs s.heap ρ v mv):VRs s'.heap ρ' v mv:=x.vrs (fun x9 h=>h.elim) q
end
noncomputable def bO(L:EA)(cs:AA (Str×EA))(ρ:Rho)(s:CA)(m:Str→YA BA)(x:Str)(v:AV):Prop:=
 match cs.lookup x with
 | none=>∃mv,m x=some mv∧VR s.heap ρ v mv
 | some c=>∃mv,s.heap.IsCell c (some mv)∧VR s.heap ρ v mv
structure Fm(b:Bs)(L:EA)(cs:AA (Str×EA))(ρ:Rho)(loc:AA (Str×AV))(s:CA):Prop where
 ns:∃m,s.heap.Ns L m∧∀x v,loc.lookup x=some v→bO L cs ρ s m x v
 off:∀c,bJ L cs c→c∉ρ.all∧b.s₁.heap.get? c=none
 cel:∀p∈cs,∃v,s.heap.IsCell p.2 v
 apart:(cs.map (·.2)).Nodup
theorem Fm.free{b:Bs}{L:EA}{cs:AA (Str×EA)}{ρ:Rho}{loc:AA (Str×AV)}{s:CA}(f:Fm b L cs ρ loc s):∀c,bJ L cs c→Free s.heap ρ c:=by
 rintro c (rfl|⟨p,hp,rfl⟩)
 ·refine o12 f.ns fun m q x9=>?_;exact .ns q
 ·refine o11 (f.cel p hp) fun v q=>?_;exact .cell q
theorem Fm.ext{b:Bs}{L:EA}{cs:AA (Str×EA)}{ρ ρ':Rho}{loc:AA (Str×AV)}{s s':CA}(f:Fm b L cs ρ loc s)(x:Ext NoS ρ s ρ' s'):Fm b L cs ρ' loc s':=by
 refine o12 f.ns fun m x0 hm=>?_;refine o32 x0 fun o es ep e q=>?_;clear x0
 have kp:∀c o,bJ L cs c→s.heap.get? c=some o→s'.heap.get? c=some o:=fun c o' hc e'=>x.keep c o' e' (fun h=>h) (fun h=>(f.off c hc).1 (Rho.mem_rows h)) (by
  rcases hc with rfl|⟨p,hp,rfl⟩
  ·rw[e] at e';replace e':=si e';subst e';exact .dict q.1
  ·refine o22 (f.cel p hp) fun v oc e1 e2=>?_
   rw[e1] at e';replace e':=si e';subst e';exact .cell e2)
 refine ⟨⟨m,⟨o,es,ep,kp L o (.inl rfl) e,q⟩,fun y v hv=>?_⟩,fun c hc=>⟨fun h=>?_,(f.off c hc).2⟩,fun p hp=>?_,f.apart⟩
 ·have z:=hm y v hv
  unfold bO at z ⊢
  split at z
  ·refine o12 z fun mv a c=>?_;clear z;exact ⟨mv,a,x.vr0 c⟩
  ·rename_i c hc
   refine o12 z fun mv x0 c2=>?_;clear z;refine o12 x0 fun oc e1 e2=>?_;clear x0
   exact ⟨mv,⟨oc,kp c oc (.inr ⟨_,mem_of_lookup hc,rfl⟩) e1,e2⟩,x.vr0 c2⟩
 ·rcases x.all c h with h|h
  ·exact (f.off c hc).1 h
  ·rcases hc with rfl|⟨p,hp,rfl⟩
   ·rw[e] at h;cases h
   ·refine o22 (f.cel p hp) fun v oc e1 x9=>?_;rw[e1] at h;cases h
 ·refine o22 (f.cel p hp) fun v oc e1 e2=>?_
  exact ⟨v,oc,kp _ oc (.inr ⟨p,hp,rfl⟩) e1,e2⟩
noncomputable def Ht(h:Nat)(A:XA):Prop:=A.depth+20 * h≤900∧A.units+100 * h≤9000∧A.handled=none
theorem Ht.mono{h h':Nat}{A:XA}(q:Ht h A)(e:h'≤h):Ht h' A:=⟨by have:=q.1;lia,by have:=q.2.1;lia,q.2.2⟩
section
variable (b:Bs)(h:Nat)(F:EA→Env)
noncomputable abbrev Bs.M:WH:=model b.prog b.w
noncomputable def aE(e:Expr)(loc:AA (Str×AV))(mem:AA AO)(v:AV)(mem':AA AO):Prop:=
 ∀(A:XA) (s:CA) (ρ:Rho) (L:EA) (Q:BA→CA→Prop) (E:BA→CA→Prop),Ht h A→R b ρ mem s→Fm b L (F L).cells ρ loc s→
  (∀ρ' s' mv,R b ρ' mem' s'→Ext NoS ρ s ρ' s'→VR s'.heap ρ' v mv→Q mv s')→FA b.M A (eval e (F L)) Q E s
noncomputable def bA(e:Expr)(loc:AA (Str×AV))(mem:AA AO)(v:NB)(mem':AA AO):Prop:=
 ∀(A:XA) (s:CA) (ρ:Rho) (L:EA) (Q:NB→CA→Prop) (E:BA→CA→Prop),Ht h A→R b ρ mem s→Fm b L (F L).cells ρ loc s→
  (∀ρ' s',R b ρ' mem' s'→Ext NoS ρ s ρ' s'→Q v s')→FA b.M A (isTrue e (F L) (eval e (F L))) Q E s
noncomputable def aF(f:BA)(args:AA AV)(mem:AA AO)(v:AV)(mem':AA AO):Prop:=
 ∀(A:XA) (s:CA) (ρ:Rho) (mvs:AA BA) (Q:BA→CA→Prop) (E:BA→CA→Prop),Ht h A→R b ρ mem s→VRs s.heap ρ args mvs→
  (∀ρ' s' mv,R b ρ' mem' s'→Ext NoS ρ s ρ' s'→VR s'.heap ρ' v mv→Q mv s')→FA b.M A (call f mvs) Q E s
inductive AOut where
 | next|brk|cont|ret (v:AV)
inductive FlR(hp:PB)(ρ:Rho):AOut→Flow→Prop
 | next:FlR hp ρ .next .next
 | brk:FlR hp ρ .brk .brk
 | cont:FlR hp ρ .cont .cont
 | ret {v:AV}{mv:BA}(e:VR hp ρ v mv):FlR hp ρ (.ret v) (.ret mv)
noncomputable def aI(l:AA VD)(loc:AA (Str×AV))(mem:AA AO)(out:AOut)(loc':AA (Str×AV))(mem':AA AO):Prop:=
 ∀(A:XA) (s:CA) (ρ:Rho) (L:EA) (Q:Flow→CA→Prop) (E:BA→CA→Prop),Ht h A→R b ρ mem s→Fm b L (F L).cells ρ loc s→
  (∀ρ' s' fl,R b ρ' mem' s'→Fm b L (F L).cells ρ' loc' s'→Ext (bJ L (F L).cells) ρ s ρ' s'→FlR s'.heap ρ' out fl→Q fl s')→FA b.M A (execs l (F L)) Q E s
noncomputable def aL(st:VD)(loc:AA (Str×AV))(mem:AA AO)(out:AOut)(loc':AA (Str×AV))(mem':AA AO):Prop:=
 ∀(A:XA) (s:CA) (ρ:Rho) (L:EA) (Q:Flow→CA→Prop) (E:BA→CA→Prop),Ht h A→R b ρ mem s→Fm b L (F L).cells ρ loc s→
  (∀ρ' s' fl,R b ρ' mem' s'→Fm b L (F L).cells ρ' loc' s'→Ext (bJ L (F L).cells) ρ s ρ' s'→FlR s'.heap ρ' out fl→Q fl s')→FA b.M A (exec st (F L)) Q E s
end
section
variable {b:Bs}{h:Nat}{F:EA→Env}
theorem aI.nil{loc:AA (Str×AV)}{mem:AA AO}:aI b h F [] loc mem .next loc mem:=fun A s ρ L Q E x9 r f q=>
 wpAny_execs_nil (q ρ s .next r f (Ext.refl _ _ _) .next)
theorem aI.cons{st:VD}{l:AA VD}{loc loc' loc'':AA (Str×AV)}{mem mem' mem'':AA AO}{out:AOut}(x:aL b h F st loc mem .next loc' mem')(y:aI b h F l loc' mem' out loc'' mem''):
  aI b h F (st :: l) loc mem out loc'' mem'':=fun A s ρ L Q E hA r f q=>
 AE (x A s ρ L _ E hA r f fun ρ' s' fl r' f' e' o=>by
  cases o
  exact y A s' ρ' L Q E hA r' f' fun ρ'' s'' fl r'' f'' e'' o=>q ρ'' s'' fl r'' f'' (e'.trans e'') o)
theorem aI.stop{st:VD}{l:AA VD}{loc loc':AA (Str×AV)}{mem mem':AA AO}{out:AOut}(x:aL b h F st loc mem out loc' mem')(ho:out≠.next):
  aI b h F (st :: l) loc mem out loc' mem':=fun A s ρ L Q E hA r f q=>
 AE (x A s ρ L _ E hA r f fun ρ' s' fl r' f' e' o=>by
  cases o with
  | next=>exact absurd rfl ho
  | _=>exact q ρ' s' _ r' f' e' (by constructor <;> assumption))
end
structure aS(F:EA→Env):Prop where
 locals:∀L,(F L).locals=L
 kind:∀L,(F L).scope.kind=.function
 globals:∀L,(F L).globals=TB
 builtins:∀L,(F L).builtins=DC
section
variable {b:Bs}{h:Nat}{F:EA→Env}{loc:AA (Str×AV)}{mem mem' mem'':AA AO}{v:AV}
theorem R.toks{ρ:Rho}{s:CA}(r:R b ρ mem s)(t:Nat):R b ρ mem { s with toks:=t }:=⟨r.old,r.lim,r.bare,r.os,r.tab,r.ors,r.nd,r.new,r.hid⟩
theorem Ext.toks{S:EA→Prop}{ρ ρ':Rho}{s s':CA}(x:Ext S ρ s ρ' s')(t:Nat):Ext S ρ s ρ' { s' with toks:=t }:=⟨x.keep,x.pre,x.new,x.hid,x.live⟩
theorem dW(f:aS F){x:Str}{pos:Pos}(e:loc.lookup x=some v)(hc:DA (∀L,(F L).cells.lookup x=none) q8)(hl:DA (∀L,(F L).kindOf x=some .local) q8)(hd:DA ((x == ("__debug__" : Str))=false) q10):
  aE b h F (.Name x pos) loc mem v mem:=fun A s ρ L Q E hA r fm q=>by
 refine o12 fm.ns fun m hn hm=>?_
 have z:=hm x v e
 unfold bO at z
 rw[hc L] at z
 refine o12 z fun mv e1 e2=>?_;clear z
 exact wpAny_Name (AH (f.kind L) (hl L) (by rw[f.locals L];exact hn) e1 (q ρ s mv r (Ext.refl _ _ _) e2)) hd
theorem aEd(f:aS F){x:Str}{pos:Pos}(e:loc.lookup x=some v){c:EA→EA}(hc:DA (∀L,(F L).cells.lookup x=some (c L)) q8)(hl:DA (∀L,(F L).kindOf x=some .cell) q8)(hd:DA ((x == ("__debug__" : Str))=false) q10):
  aE b h F (.Name x pos) loc mem v mem:=fun A s ρ L Q E hA r fm q=>by
 refine o12 fm.ns fun m hn hm=>?_
 have z:=hm x v e
 unfold bO at z
 rw[hc L] at z
 refine o12 z fun mv e1 e2=>?_;clear z
 exact wpAny_Name (wpAny_loadName_cell (f.kind L) (hl L) (hc L) e1 (q ρ s mv r (Ext.refl _ _ _) e2)) hd
inductive Lit:AV→BA→Prop
 | none:Lit .none .none
 | bool (b:NB):Lit (.bool b) (.bool b)
 | int (i:Int) (t:Tok):Lit (.int i) (.int i t)
 | str (s:Str) (t:Tok):Lit (.str s) (.str s t)
 | val (v:BA):Lit (.val v) v
theorem Lit.vr{v:AV}{mv:BA}(q:Lit v mv){hp:PB}{ρ:Rho}:VR hp ρ v mv:=by cases q <;> constructor
theorem yV(B:aC b)(f:aS F){x:Str}{pos:Pos}{mv:BA}(e:nsIn b.K TB x=some (some mv))(hv:Lit v mv)(hl:DA (∀L,(F L).kindOf x=some .globalImplicit) q8)(hd:DA ((x == ("__debug__" : Str))=false) q10):
  aE b h F (.Name x pos) loc mem v mem:=fun A s ρ L Q E hA r fm q=>by
 refine PF (f.kind L) (hl L) ?_ hd
 unfold loadGlobal
 rw[f.globals L]
 exact wb ((looks_nsIn (r.kin B) e).here (wp (q ρ s mv r (Ext.refl _ _ _) hv.vr)))
theorem hB(B:aC b)(f:aS F){x:Str}{pos:Pos}{mv:BA}(e:nsIn b.K TB x=some none)(e2:HG x=some mv)(hn:DA (x≠"__name__" ) q10)(hl:DA (∀L,(F L).kindOf x=some .globalImplicit) q8)(hd:DA ((x == ("__debug__" : Str))=false) q10):
  aE b h F (.Name x pos) loc mem (.val mv) mem:=fun A s ρ L Q E hA r fm q=>by
 refine o12 (r.boot B) fun mb hb hb2=>?_
 refine PF (f.kind L) (hl L) ?_ hd
 unfold loadGlobal
 rw[f.globals L,f.builtins L]
 refine wb ((looks_nsIn (r.kin B) e).here (wb (wpAny_nsGet hb ?_)))
 rw[hb2 x hn,e2]
 exact wp (q ρ s mv r (Ext.refl _ _ _) (.val _))
theorem aH{i:Int}{k:Nat}{pos:Pos}:aE b h F (.Constant (.int i) k pos) loc mem (.int i) mem:=fun A s ρ L Q E hA r fm q=>
 wpAny_Constant_int (q ρ _ _ (r.toks _) ((Ext.refl _ _ _).toks _) (.int _ _))
theorem aG{x:Str}{k:Nat}{pos:Pos}:aE b h F (.Constant (.str x) k pos) loc mem (.str x) mem:=fun A s ρ L Q E hA r fm q=>
 wpAny_Constant_str (q ρ _ _ (r.toks _) ((Ext.refl _ _ _).toks _) (.str _ _))
theorem bN{k:Nat}{pos:Pos}:aE b h F (.Constant .none k pos) loc mem .none mem:=fun A s ρ L Q E hA r fm q=>
 wpAny_Constant_none (q ρ _ _ r (Ext.refl _ _ _) .none)
theorem fW{x:NB}{k:Nat}{pos:Pos}:aE b h F (.Constant (.bool x) k pos) loc mem (.bool x) mem:=fun A s ρ L Q E hA r fm q=>
 wpAny_Constant_bool (q ρ _ _ r (Ext.refl _ _ _) (.bool _))
noncomputable def dT(b:Bs)(h:Nat)(F:EA→Env)(es:AA Expr)(loc:AA (Str×AV))(mem:AA AO)(vs:AA AV)(mem':AA AO):Prop:=
 ∀(A:XA) (s:CA) (ρ:Rho) (L:EA) (pos:Pos) (Q:AA BA→CA→Prop) (E:BA→CA→Prop),Ht h A→R b ρ mem s→Fm b L (F L).cells ρ loc s→
  (∀ρ' s' mvs,R b ρ' mem' s'→Ext NoS ρ s ρ' s'→VRs s'.heap ρ' vs mvs→Q mvs s')→FA b.M A (spliced (backTo pos (LC es (F L)))) Q E s
theorem dT.nil:dT b h F [] loc mem [] mem:=fun A s ρ L pos Q E hA r fm q=>QE (q ρ s [] r (Ext.refl _ _ _) .nil)
theorem dT.cons{e:Expr}{es:AA Expr}{vs:AA AV}(x:aE b h F e loc mem v mem')(y:dT b h F es loc mem' vs mem'')
  (he:DA (∀L,LC (e :: es) (F L)=(false,eval e (F L)) :: LC es (F L)) q8):dT b h F (e :: es) loc mem (v :: vs) mem'':=fun A s ρ L pos Q E hA r fm q=>
 ND (x A s ρ L _ E hA r fm fun ρ' s' mv r' e' hv=>y A s' ρ' L pos _ E hA r' (fm.ext e') fun ρ'' s'' mvs r'' e'' hvs=>q ρ'' s'' _ r'' (e'.trans e'') (.cons (e''.vr0 hv) hvs)) (he L)
theorem aX{ρ:Rho}{s:CA}(r:R b ρ mem s)(o:Obj):Ext NoS ρ s ρ { s with heap:=s.heap.push o }:=
 Ext.of_keeps _ _ fun b o' e=>gps o e
theorem R.push'{ρ:Rho}{s:CA}(r:R b ρ mem s)(o:Obj):R b ρ mem { s with heap:=s.heap.push o }:=r.push o s.gens r.bare s.drawn s.toks
theorem vK{ρ:Rho}{s:CA}(r:R b ρ mem s){l:AA AV}{ml:AA BA}(hl:VRs s.heap ρ l ml):VR (s.heap.push { cls:=.type "tuple",data:=.seq ml.toArray }) ρ (.tup l) (.ref s.heap.objs.size):=
 .tup (gpz _ rfl) (fun h=>JB _ (r.lt h)) (by simpa using (aX r _).vrs0 hl)
theorem iN{ρ:Rho}{s:CA}(r:R b ρ mem s){l:AA AV}{ml:AA BA}(hl:VRs s.heap ρ l ml):VR (s.heap.push { cls:=.type "list",data:=.seq ml.toArray }) ρ (.lst l) (.ref s.heap.objs.size):=
 .lst (gpz _ rfl) (fun h=>JB _ (r.lt h)) (by simpa using (aX r _).vrs0 hl)
theorem bV{es:AA Expr}{vs:AA AV}{k:Nat}{pos:Pos}(x:dT b h F es loc mem vs mem')(hz:vs.length≤1000000):aE b h F (.Tuple es k pos) loc mem (.tup vs) mem':=fun A s ρ L Q E hA r fm q=>
 wpAny_Tuple (x A s ρ L pos _ E hA r fm fun ρ' s' mvs r' e' hvs=>⟨by rw[hvs.length,HB];exact lz,q ρ' _ _ (r'.push' _) (e'.trans (aX r' _)) (vK r' hvs)⟩)
theorem aW{es:AA Expr}{vs:AA AV}{pos:Pos}(x:dT b h F es loc mem vs mem')(hz:vs.length≤1000000):aE b h F (.List es pos) loc mem (.lst vs) mem':=fun A s ρ L Q E hA r fm q=>
 wpAny_List (x A s ρ L pos _ E hA r fm fun ρ' s' mvs r' e' hvs=>⟨by rw[hvs.length,HB];exact lz,q ρ' _ _ (r'.push' _) (e'.trans (aX r' _)) (iN r' hvs)⟩)
noncomputable def Rho.add(ρ:Rho)(p:AA EA):Rho:=⟨ρ.rows++[p],ρ.hid⟩
theorem R.alloc1{ρ:Rho}{s:CA}(r:R b ρ mem s)(o:Obj)(ao:AO)(hq:OR (s.heap.push o) (ρ.add [s.heap.objs.size]) [s.heap.objs.size] ao):R b (ρ.add [s.heap.objs.size]) (mem++[ao]) { s with heap:=s.heap.push o }∧Ext NoS ρ s (ρ.add [s.heap.objs.size]) { s with heap:=s.heap.push o }:=by
 have r':=r.push' o
 have x:Ext NoS ρ s (ρ.add [s.heap.objs.size]) { s with heap:=s.heap.push o }:=by
  refine ⟨(aX r o).keep,fun i p e=>by show (ρ.rows++_)[i]?= _;rw[CC (List.getElem?_eq_some_iff.mp e).1];exact e,fun a ha=>?_,rfl,(aX r o).live⟩
  simp only[Rho.add,WB,WA,HE,List.flatten_nil,ZB,HA] at ha
  exact ha.elim .inl fun e=>.inr (e▸aP (MA _))
 have hk:∀a∈ρ.rows.flatten,∀o',s.heap.get? a=some o'→(s.heap.push o).get? a=some o':=fun a x9 o' e=>gps o e
 have ea:∀a,a∈(ρ.add [s.heap.objs.size]).all↔a∈ρ.all∨a=s.heap.objs.size:=fun a=>by
  simp only[Rho.add,Rho.all,WB,WA,HE,List.flatten_nil,ZB,HA];exact ⟨fun h=>h.elim (fun h=>h.elim (.inl ∘ .inl) .inr) (.inl ∘ .inr),fun h=>h.elim (fun h=>h.elim (.inl ∘ .inl) .inr) (.inl ∘ .inr)⟩
 refine ⟨⟨r'.old,r'.lim,r'.bare,r'.os,r'.tab,(ORs.move x.vr0 x.vrs0 hk r.ors).append (.cons hq .nil),?_,fun a ha=>((ea a).mp ha).elim (r.new a) fun e=>e▸r.fresh,r'.hid⟩,x⟩
 have nd:=r.nd
 unfold Rho.all at nd
 refine o03 (JA.mp nd) fun n1 n2 n3=>?_
 show ((ρ.rows++[[s.heap.objs.size]]).flatten++ρ.hid).Nodup
 refine JA.mpr ⟨?_,n2,fun a ha c hc=>?_⟩
 ·simp only[WB,HE,List.flatten_nil,ZB]
  refine JA.mpr ⟨n1,by simp,fun a ha c hc=>?_⟩
  rw[HA] at hc;subst hc;exact GC (r.lt (Rho.mem_rows ha))
 ·simp only[WB,WA,HE,List.flatten_nil,ZB,HA] at ha
  exact ha.elim (fun h=>n3 a h c hc) fun e=>e▸(GC (r.lt (Rho.mem_hid hc))).symm
inductive LV(mem:AA AO):AV→AA AV→Prop
 | lst (l:AA AV):LV mem (.lst l) l
 | obj {i:Nat}{l:AA AV}(e:mem[i]?= some (.lst l)):LV mem (.obj i) l
theorem LV.at{v:AV}{l:AA AV}(q:LV mem v l){ρ:Rho}{s:CA}(r:R b ρ mem s){mv:BA}(x:VR s.heap ρ v mv):
  ∃a its n,mv=.ref a∧s.heap.get? a=some ⟨.type "list",none,.seq its n,#[]⟩∧VRs s.heap ρ l its.toList:=by
 cases q with
 | lst=>cases x with|lst e ha hl=>exact ⟨_,_,_,rfl,e,hl⟩
 | obj e=>
  refine o12 (r.ors.get _ _ e) fun p e1 e2=>?_
  cases x with
  | obj e3=>
   rw[e1] at e3
   replace e3:=si e3;subst e3
   cases e2 with
   | lst e hl=>exact ⟨_,_,_,rfl,e,hl⟩
noncomputable def BinV(b:Bs)(h:Nat)(op:Operator)(x y:AV)(mem:AA AO)(v:AV)(mem':AA AO):Prop:=
 ∀(A:XA) (s:CA) (ρ:Rho) (mx my:BA) (Q:BA→CA→Prop) (E:BA→CA→Prop),Ht h A→R b ρ mem s→VR s.heap ρ x mx→VR s.heap ρ y my→
  (∀ρ' s' mv,R b ρ' mem' s'→Ext NoS ρ s ρ' s'→VR s'.heap ρ' v mv→Q mv s')→FA b.M A (binaryOp op mx my) Q E s
noncomputable def cP(b:Bs)(h:Nat)(op:CmpOp)(x y:AV)(mem:AA AO)(v:NB):Prop:=
 ∀(A:XA) (s:CA) (ρ:Rho) (mx my:BA) (Q:BA→CA→Prop) (E:BA→CA→Prop),Ht h A→R b ρ mem s→VR s.heap ρ x mx→VR s.heap ρ y my→
  (∀s',R b ρ mem s'→Ext NoS ρ s ρ s'→Q (.bool v) s')→FA b.M A (compareOp op mx my) Q E s
noncomputable def fM(b:Bs)(h:Nat)(x:AV)(mem:AA AO)(v:NB)(mem':AA AO):Prop:=
 ∀(A:XA) (s:CA) (ρ:Rho) (mx:BA) (Q:NB→CA→Prop) (E:BA→CA→Prop),Ht h A→R b ρ mem s→VR s.heap ρ x mx→
  (∀ρ' s',R b ρ' mem' s'→Ext NoS ρ s ρ' s'→Q v s')→FA b.M A (truthy mx) Q E s
variable {m1 m2 m3:AA AO}{e1 e2 e3:Expr}{v1 v2:AV}{pos:Pos}{c:NB}
theorem aV{op:Operator}(x:aE b h F e1 loc mem v1 m1)(y:aE b h F e2 loc m1 v2 m2)(z:BinV b h op v1 v2 m2 v m3):aE b h F (.BinOp e1 op e2 pos) loc mem v m3:=fun A s ρ L Q E hA r fm q=>
 wpAny_BinOp (x A s ρ L _ E hA r fm fun ρ1 s1 a1 r1 x1 h1=>y A s1 ρ1 L _ E hA r1 (fm.ext x1) fun ρ2 s2 a2 r2 x2 h2=>z A s2 ρ2 a1 a2 Q E hA r2 (x2.vr0 h1) h2 fun ρ3 s3 mv r3 x3 h3=>q ρ3 s3 mv r3 ((x1.trans x2).trans x3) h3)
theorem wN{op:CmpOp}(x:aE b h F e1 loc mem v1 m1)(y:aE b h F e2 loc m1 v2 m2)(z:cP b h op v1 v2 m2 c)(hm:DA (behindInMarks op e2=false) q21):aE b h F (.Compare e1 [op] [e2] pos) loc mem (.bool c) m2:=fun A s ρ L Q E hA r fm q=>
 wpAny_Compare1 (x A s ρ L _ E hA r fm fun ρ1 s1 a1 r1 x1 h1=>y A s1 ρ1 L _ E hA r1 (fm.ext x1) fun ρ2 s2 a2 r2 x2 h2=>z A s2 ρ2 a1 a2 Q E hA r2 (x2.vr0 h1) h2 fun s3 r3 x3=>q ρ2 s3 _ r3 ((x1.trans x2).trans x3) (.bool _)) hm
theorem aD{op:CmpOp}(x:aE b h F e1 loc mem v1 m1)(y:aE b h F e2 loc m1 v2 m2)(z:cP b h op v1 v2 m2 c)(hm:DA (behindInMarks op e2=false) q21):bA b h F (.Compare e1 [op] [e2] pos) loc mem c m2:=fun A s ρ L Q E hA r fm q=>
 wpAny_isTrue_Compare1 (x A s ρ L _ E hA r fm fun ρ1 s1 a1 r1 x1 h1=>y A s1 ρ1 L _ E hA r1 (fm.ext x1) fun ρ2 s2 a2 r2 x2 h2=>z A s2 ρ2 a1 a2 _ E hA r2 (x2.vr0 h1) h2 fun s3 r3 x3=>wpAny_truthy_bool (q ρ2 s3 r3 ((x1.trans x2).trans x3))) hm
theorem aJ(x:aE b h F e1 loc mem v1 m1)(y:fM b h v1 m1 c m2)(he:DA (∀env whole,isTrue e1 env whole=(do let v ← whole;standAt e1.pos;holding [v] (truthy v))) q13):bA b h F e1 loc mem c m2:=fun A s ρ L Q E hA r fm q=>
 wpAny_isTrue_value (x A s ρ L _ E hA r fm fun ρ1 s1 a1 r1 x1 h1=>y A s1 ρ1 a1 Q E hA r1 h1 fun ρ2 s2 r2 x2=>q ρ2 s2 r2 (x1.trans x2)) (he _ _)
theorem bR(x:bA b h F e1 loc mem c m1):bA b h F (.UnaryOp .Not e1 pos) loc mem (!c) m1:=fun A s ρ L Q E hA r fm q=>
 wpAny_isTrue_Not (x A s ρ L _ E hA r fm fun ρ1 s1 r1 x1=>q ρ1 s1 r1 x1)
noncomputable def dS(b:Bs)(h:Nat)(F:EA→Env)(op:BoolOp)(es:AA Expr)(loc:AA (Str×AV))(mem:AA AO)(v:NB)(mem':AA AO):Prop:=
 ∀(A:XA) (s:CA) (ρ:Rho) (L:EA) (Q:NB→CA→Prop) (E:BA→CA→Prop),Ht h A→R b ρ mem s→Fm b L (F L).cells ρ loc s→
  (∀ρ' s',R b ρ' mem' s'→Ext NoS ρ s ρ' s'→Q v s')→FA b.M A (allTrue op es (F L)) Q E s
theorem aQ{op:BoolOp}{es:AA Expr}(x:dS b h F op es loc mem c m1):bA b h F (.BoolOp op es pos) loc mem c m1:=fun A s ρ L Q E hA r fm q=>wpAny_isTrue_BoolOp (x A s ρ L Q E hA r fm q)
theorem gG:dS b h F .And [] loc mem true mem:=fun A s ρ L Q E hA r fm q=>wpAny_allTrue_And_nil (q ρ s r (Ext.refl _ _ _))
theorem dH:dS b h F .Or [] loc mem false mem:=fun A s ρ L Q E hA r fm q=>wpAny_allTrue_Or_nil (q ρ s r (Ext.refl _ _ _))
theorem bK{es:AA Expr}(x:bA b h F e1 loc mem true m1)(y:dS b h F .And es loc m1 c m2):dS b h F .And (e1 :: es) loc mem c m2:=fun A s ρ L Q E hA r fm q=>
 wpAny_allTrue_And_cons (x A s ρ L _ E hA r fm fun ρ1 s1 r1 x1=>by rw[OB rfl];exact y A s1 ρ1 L Q E hA r1 (fm.ext x1) fun ρ2 s2 r2 x2=>q ρ2 s2 r2 (x1.trans x2))
theorem aY{es:AA Expr}(x:bA b h F e1 loc mem false m1):dS b h F .And (e1 :: es) loc mem false m1:=fun A s ρ L Q E hA r fm q=>
 wpAny_allTrue_And_cons (x A s ρ L _ E hA r fm fun ρ1 s1 r1 x1=>by rw[AB (by decide)];exact q ρ1 s1 r1 x1)
theorem cE{es:AA Expr}(x:bA b h F e1 loc mem false m1)(y:dS b h F .Or es loc m1 c m2):dS b h F .Or (e1 :: es) loc mem c m2:=fun A s ρ L Q E hA r fm q=>
 wpAny_allTrue_Or_cons (x A s ρ L _ E hA r fm fun ρ1 s1 r1 x1=>by rw[AB (by decide)];exact y A s1 ρ1 L Q E hA r1 (fm.ext x1) fun ρ2 s2 r2 x2=>q ρ2 s2 r2 (x1.trans x2))
theorem fQ{es:AA Expr}(x:bA b h F e1 loc mem true m1):dS b h F .Or (e1 :: es) loc mem true m1:=fun A s ρ L Q E hA r fm q=>
 wpAny_allTrue_Or_cons (x A s ρ L _ E hA r fm fun ρ1 s1 r1 x1=>by rw[OB rfl];exact q ρ1 s1 r1 x1)
theorem rI(x:bA b h F e1 loc mem true m1)(y:aE b h F e2 loc m1 v m2):aE b h F (.IfExp e1 e2 e3 pos) loc mem v m2:=fun A s ρ L Q E hA r fm q=>
 wpAny_IfExp (x A s ρ L _ E hA r fm fun ρ1 s1 r1 x1=>by rw[OB rfl];exact y A s1 ρ1 L Q E hA r1 (fm.ext x1) fun ρ2 s2 mv r2 x2=>q ρ2 s2 mv r2 (x1.trans x2))
theorem rJ(x:bA b h F e1 loc mem false m1)(y:aE b h F e3 loc m1 v m2):aE b h F (.IfExp e1 e2 e3 pos) loc mem v m2:=fun A s ρ L Q E hA r fm q=>
 wpAny_IfExp (x A s ρ L _ E hA r fm fun ρ1 s1 r1 x1=>by rw[AB (by decide)];exact y A s1 ρ1 L Q E hA r1 (fm.ext x1) fun ρ2 s2 mv r2 x2=>q ρ2 s2 mv r2 (x1.trans x2))
theorem eT{x:Str}(e:(x.length == 0)=true):x=⟨#[]⟩:=by
 obtain ⟨c⟩:=x
 have e:c.size=0:=by simpa [Str.length] using e
 rw[Array.eq_empty_of_size_eq_zero e]
theorem dX{i j:Int}:BinV b h .Add (.int i) (.int j) mem (.int (i+j)) mem:=fun A s ρ mx my Q E hA r hx hy q=>by
 cases hx;cases hy;exact P.add_int (q ρ _ _ (r.toks _) ((Ext.refl _ _ _).toks _) (.int _ _))
theorem eU{i j:Int}:BinV b h .Sub (.int i) (.int j) mem (.int (i - j)) mem:=fun A s ρ mx my Q E hA r hx hy q=>by
 cases hx;cases hy;exact P.sub_int (q ρ _ _ (r.toks _) ((Ext.refl _ _ _).toks _) (.int _ _))
theorem dY{i j:Int}(hj:j≠0):BinV b h .Mod (.int i) (.int j) mem (.int (i.fmod j)) mem:=fun A s ρ mx my Q E hA r hx hy q=>by
 cases hx;cases hy;exact mod_int' hj (q ρ _ _ (r.toks _) ((Ext.refl _ _ _).toks _) (.int _ _))
theorem hJ{i j:Int}(hj:j≠0)(hp:HH i j=false):BinV b h .FloorDiv (.int i) (.int j) mem (.int (i.fdiv j)) mem:=fun A s ρ mx my Q E hA r hx hy q=>by
 cases hx;cases hy;exact floordiv_int hj (q ρ _ _ (r.toks _) ((Ext.refl _ _ _).toks _) (.int _ _)) (.inl hp)
theorem cV{x y:Str}(hz:x.length+y.length≤1000000):BinV b h .Add (.str x) (.str y) mem (.str (x++y)) mem:=fun A s ρ mx my Q E hA r hx hy q=>by
 cases hx with|str t=>
 cases hy with|str u=>
 refine P.add_str ?_
 split
 ·rename_i e
  have:x++y=y:=by
   have:x=⟨#[]⟩:=eT e
   subst this;exact Str.empty_append y
  rw[this] at q
  exact q ρ _ _ r (Ext.refl _ _ _) (.str _ _)
 ·split
  ·rename_i e
   have:x++y=x:=by
    have:y=⟨#[]⟩:=eT e
    subst this;exact Str.ext' (by simp[Str.cps_append])
   rw[this] at q
   exact q ρ _ _ r (Ext.refl _ _ _) (.str _ _)
  ·refine ⟨?_,q ρ _ _ (r.toks _) ((Ext.refl _ _ _).toks _) (.str _ _)⟩
   rw[HB,GD];exact lz
theorem bY{l k:AA AV}(hl:LV mem v1 l)(hk:LV mem v2 k)(hz:l.length+k.length≤1000000):BinV b h .Add v1 v2 mem (.lst (l++k)) mem:=fun A s ρ mx my Q E hA r hx hy q=>by
 refine o33 (hl.at r hx) fun a its n x0 e hvs=>?_;subst x0
 refine o33 (hk.at r hy) fun a2 its2 n2 x0 e2 hvs2=>?_;subst x0
 have z1:=hvs.length
 have z2:=hvs2.length
 rw[QA] at z1 z2
 refine P.add_list e e2 (q ρ _ _ (r.push' _) (aX r _) ?_) (by rw[z1,z2,HB];exact lz)
 have:=iN r (hvs.append hvs2)
 rwa [show (its.toList++its2.toList).toArray=its++its2 by simp] at this
end
section
open PySem.SeqAt
theorem Ht.units{h:Nat}{A:XA}(q:Ht h A):A.units < cLine:=by have:=q.2.1;unfold cLine;lia
theorem Ht.depth{h:Nat}{A:XA}(q:Ht h A):A.depth < recursionLimit:=by have:=q.1;unfold recursionLimit;lia
section
variable {b:Bs}{h:Nat}{mem:AA AO}{v v1 v2:AV}
theorem iO{x y:AV}{k:NB}(q:∀(A:XA) (s:CA) (ρ:Rho) (mx my:BA),Ht h A→R b ρ mem s→VR s.heap ρ x mx→VR s.heap ρ y my→RcAt A s mx my k):cP b h .Eq x y mem k:=fun A s ρ mx my Q E hA r hx hy z=>
 q A s ρ mx my hA r hx hy b.prog b.w E Q (z s r (Ext.refl _ _ _))
theorem lD{x y:AV}{k:NB}(q:∀(A:XA) (s:CA) (ρ:Rho) (mx my:BA),Ht h A→R b ρ mem s→VR s.heap ρ x mx→VR s.heap ρ y my→RcNeAt A s mx my k):cP b h .NotEq x y mem k:=fun A s ρ mx my Q E hA r hx hy z=>
 q A s ρ mx my hA r hx hy b.prog b.w E Q (z s r (Ext.refl _ _ _))
theorem fR{i j:Int}:cP b h .Eq (.int i) (.int j) mem (i == j):=iO fun A s ρ mx my hA r hx hy=>by cases hx;cases hy;exact .int_int _ _ _ _
theorem aT{i j:Str}:cP b h .Eq (.str i) (.str j) mem (i == j):=iO fun A s ρ mx my hA r hx hy=>by cases hx;cases hy;exact .str_str _ _ _ _
theorem dL{i j:Str}:cP b h .NotEq (.str i) (.str j) mem (!(i == j)):=lD fun A s ρ mx my hA r hx hy=>by cases hx;cases hy;exact .str_str _ _ _ _
theorem jT{i:Str}:cP b h .Eq (.str i) .none mem false:=iO fun A s ρ mx my hA r hx hy=>by cases hx;cases hy;exact .str_none _ _
theorem mA{i j:Int}:cP b h .Lt (.int i) (.int j) mem (decide (i < j)):=fun A s ρ mx my Q E hA r hx hy z=>by cases hx;cases hy;exact P.lt_int (z s r (Ext.refl _ _ _))
theorem cH{i j:Int}:cP b h .Gt (.int i) (.int j) mem (decide (i > j)):=fun A s ρ mx my Q E hA r hx hy z=>by cases hx;cases hy;exact P.gt_int (z s r (Ext.refl _ _ _))
theorem cZ{i j:Int}:cP b h .GtE (.int i) (.int j) mem (decide (i≥j)):=fun A s ρ mx my Q E hA r hx hy z=>by cases hx;cases hy;exact P.ge_int (z s r (Ext.refl _ _ _))
theorem aN{x y:Str}:cP b h .In (.str y) (.str x) mem (!(PG x y 0 x.length 1).isEmpty):=fun A s ρ mx my Q E hA r hx hy z=>by cases hx;cases hy;exact P.in_str (z s r (Ext.refl _ _ _))
theorem uF{x y:Str}:cP b h .NotIn (.str y) (.str x) mem (!(!(PG x y 0 x.length 1).isEmpty)):=fun A s ρ mx my Q E hA r hx hy z=>by cases hx;cases hy;exact P.notIn_str (z s r (Ext.refl _ _ _))
noncomputable def AV.isNone:AV→NB
 | .none=>true
 | .val .none=>true
 | _=>false
theorem VR.isNone{hp:PB}{ρ:Rho}{x:AV}{mx:BA}(q:VR hp ρ x mx):(mx == .none)=x.isNone:=by
 cases q.ind with
 | val v=>cases mx <;> rfl
 | _=>rfl
theorem bW{x:AV}:cP b h .Is x .none mem x.isNone:=fun A s ρ mx my Q E hA r hx hy z=>by cases hy;exact is_none (by rw[hx.isNone];exact z s r (Ext.refl _ _ _))
theorem cK{x:AV}:cP b h .IsNot x .none mem (!x.isNone):=fun A s ρ mx my Q E hA r hx hy z=>by cases hy;exact isNot_none (by rw[hx.isNone];exact z s r (Ext.refl _ _ _))
theorem yW{α:Type}[BEq α][LawfulBEq α](xs ys:AA α)(hl:xs.length=ys.length):(List.range xs.length).all (fun j=>xs[j]? == ys[j]?)=(xs == ys):=by
 rw[Bool.eq_iff_iff,List.all_eq_true,UD]
 constructor
 ·intro q
  apply List.ext_getElem?
  intro i
  by_cases hi:i < xs.length
  ·exact UD.mp (q i (List.mem_range.mpr hi))
  ·rw[List.getElem?_eq_none (by lia),List.getElem?_eq_none (by lia)]
 ·rintro rfl i _;exact SE _
theorem VRs.str_at{hp:PB}{ρ:Rho}{xs:AA Str}{its:RA BA}(q:VRs hp ρ (xs.map .str) its.toList)(j:Nat)(hj:j < its.size):∃x t,xs[j]?= some x∧its[j]=.str x t:=by
 have z:=q.length
 rw[QA,BB] at z
 refine o12 (q.get j (.str (xs[j]'(by lia))) (by rw[FE,EB (by lia)];rfl)) fun mv e1 e2=>?_
 rw[TC,YE hj] at e1
 replace e1:=si e1;subst e1
 generalize its[j]=y at e2
 cases e2 with|str t=>exact ⟨_,t,EB (by lia),rfl⟩
theorem yX{xs ys:AA Str}(hx:LV mem v1 (xs.map .str))(hy:LV mem v2 (ys.map .str)):cP b h .Eq v1 v2 mem (xs == ys):=iO fun A s ρ mx my hA r x y=>by
 refine o33 (hx.at r x) fun a its n x0 e hvs=>?_;subst x0
 refine o33 (hy.at r y) fun a2 its2 n2 x0 e2 hvs2=>?_;subst x0
 have z1:=hvs.length
 have z2:=hvs2.length
 rw[QA,BB] at z1 z2
 by_cases hl:xs.length=ys.length
 ·have:=RcAt.lists (s:=s) (A:=A) (items:=its) (items2:=its2) (e:=fun j=>xs[j]? == ys[j]?) ⟨_,e,rfl,n,rfl⟩ ⟨_,e2,rfl,n2,rfl⟩ (by lia) hA.units fun j h1 h2=>by
   refine o22 (hvs.str_at j h1) fun x t e1 e2=>?_
   refine o22 (hvs2.str_at j h2) fun y u e3 e4=>?_
   rw[e1,e2,e3,e4]
   exact .str_str _ _ _ _
  rwa [z1,yW xs ys hl] at this
 ·have:=RcAt.lists_lengths (s:=s) (A:=A) (items:=its) (items2:=its2) ⟨_,e,rfl,n,rfl⟩ ⟨_,e2,rfl,n2,rfl⟩ (by rw[z1,z2];simpa using hl) hA.units
  rwa [show (xs == ys)=false from by simpa using fun q:xs=ys=>hl (by rw[q])]
theorem hR{xs ys:AA Str}(hx:LV mem v1 (xs.map .str))(hy:LV mem v2 (ys.map .str)):cP b h .NotEq v1 v2 mem (!(xs == ys)):=lD fun A s ρ mx my hA r x y=>by
 refine o33 (hx.at r x) fun a its n x0 e hvs=>?_;subst x0
 refine o33 (hy.at r y) fun a2 its2 n2 x0 e2 hvs2=>?_;subst x0
 have z1:=hvs.length
 have z2:=hvs2.length
 rw[QA,BB] at z1 z2
 by_cases hl:xs.length=ys.length
 ·have:=RcNeAt.lists (s:=s) (A:=A) (items:=its) (items2:=its2) (e:=fun j=>xs[j]? == ys[j]?) ⟨_,e,rfl,n,rfl⟩ ⟨_,e2,rfl,n2,rfl⟩ (by lia) hA.units fun j h1 h2=>by
   refine o22 (hvs.str_at j h1) fun x t e1 e2=>?_
   refine o22 (hvs2.str_at j h2) fun y u e3 e4=>?_
   rw[e1,e2,e3,e4]
   exact .str_str _ _ _ _
  rwa [z1,yW xs ys hl] at this
 ·have:=RcNeAt.lists_lengths (s:=s) (A:=A) (items:=its) (items2:=its2) ⟨_,e,rfl,n,rfl⟩ ⟨_,e2,rfl,n2,rfl⟩ (by rw[z1,z2];simpa using hl) hA.units
  rwa [show (!(xs == ys))=true from by simpa using fun q:xs=ys=>hl (by rw[q])]
theorem gO{l:AA AV}(hx:LV mem v1 l)(hy:LV mem v2 []):cP b h .NotEq v1 v2 mem (!l.isEmpty):=lD fun A s ρ mx my hA r x y=>by
 refine o33 (hx.at r x) fun a its n x0 e hvs=>?_;subst x0
 refine o33 (hy.at r y) fun a2 its2 n2 x0 e2 hvs2=>?_;subst x0
 have z1:=hvs.length
 have z2:=hvs2.length
 rw[QA] at z1 z2
 cases l with
 | nil=>
  have:=RcNeAt.lists (s:=s) (A:=A) (items:=its) (items2:=its2) (e:=fun j=>true) ⟨_,e,rfl,n,rfl⟩ ⟨_,e2,rfl,n2,rfl⟩ (by rw[z1,z2]) hA.units fun j h1 h2=>absurd h1 (by rw[z1];simp)
  rw[z1] at this
  simpa using this
 | cons x l=>
  have:=RcNeAt.lists_lengths (s:=s) (A:=A) (items:=its) (items2:=its2) ⟨_,e,rfl,n,rfl⟩ ⟨_,e2,rfl,n2,rfl⟩ (by rw[z1,z2];simp) hA.units
  simpa using this
theorem yY{x1 x2 y1 y2:Str}:cP b h .NotEq (.tup [.str x1,.str x2]) (.tup [.str y1,.str y2]) mem (!(x1 == y1 && x2 == y2)):=lD fun A s ρ mx my hA r x y=>by
 cases x with|tup e ha hl=>
 cases y with|tup e' ha' hl'=>
 rename_i a its n a' its' n'
 have z1:=VRs.length (l:=[x1,x2].map .str) hl
 have z2:=VRs.length (l:=[y1,y2].map .str) hl'
 rw[QA] at z1 z2
 have:=RcNeAt.tuples (s:=s) (A:=A) (items:=its) (items2:=its') (e:=fun j=>[x1,x2][j]? == [y1,y2][j]?) ⟨_,e,rfl,_,rfl⟩ ⟨_,e',rfl,_,rfl⟩ hA.units fun j h1 h2=>by
  refine o22 (VRs.str_at (xs:=[x1,x2]) hl j h1) fun x t e1 e2=>?_
  refine o22 (VRs.str_at (xs:=[y1,y2]) hl' j h2) fun y u e3 e4=>?_
  rw[e1,e2,e3,e4]
  exact .str_str _ _ _ _
 rw[z1,z2] at this
 simpa [List.range_succ,Bool.and_assoc] using this
theorem aM{k:NB}:fM b h (.bool k) mem k mem:=fun A s ρ mx Q E hA r hx q=>by cases hx;exact wpAny_truthy_bool (q ρ s r (Ext.refl _ _ _))
theorem aU{x:Str}(hz:x.length≤1000000):fM b h (.str x) mem (decide (x≠⟨#[]⟩)) mem:=fun A s ρ mx Q E hA r hx q=>by
 cases hx with|str t=>
 refine P.truthy_str (by lia) ?_
 have e:((x.length:Int) != 0)=decide (x≠⟨#[]⟩):=by
  rw[Bool.eq_iff_iff]
  simp only[bne_iff_ne,ne_eq,PC]
  constructor
  ·rintro h rfl;exact h rfl
  ·intro hx h0;exact hx (eT (by simpa using h0))
 rw[e]
 exact q ρ _ (r.toks _) ((Ext.refl _ _ _).toks _)
theorem iZ{l:AA AV}(hl:LV mem v l)(hz:l.length≤1000000):fM b h v mem (!l.isEmpty) mem:=fun A s ρ mx Q E hA r hx q=>by
 refine o33 (hl.at r hx) fun a its n x0 e hvs=>?_;subst x0
 have z:=hvs.length
 rw[QA] at z
 refine wpAny_truthy_list (items:=its) ⟨_,e,rfl,n,rfl⟩ (by rw[z];lia) ?_
 have e:(!its.isEmpty)=!l.isEmpty:=by
  rw[show its.isEmpty=l.isEmpty from by rw[Bool.eq_iff_iff,Array.isEmpty_iff_size_eq_zero,List.isEmpty_iff_length_eq_zero,z]]
 rw[e]
 exact q ρ _ (r.toks _) ((Ext.refl _ _ _).toks _)
end
end
noncomputable def putL(x:Str)(v:AV):AA (Str×AV)→AA (Str×AV)
 | []=>[(x,v)]
 | (y,u) :: r=>if x == y then (x,v) :: r else (y,u) :: putL x v r
theorem dP(x:Str)(v:AV)(y:Str):∀l:AA (Str×AV),(putL x v l).lookup y=if y == x then some v else l.lookup y
 | []=>by simp only[putL,IF];cases y == x <;> rfl
 | (z,u) :: r=>by
  unfold putL
  by_cases h:x=z
  ·subst h
   rw[OB (SE x)]
   simp only[IF]
   cases y == x <;> rfl
  ·rw[AB (by simpa using h)]
   simp only[IF,dP x v y r]
   by_cases h2:y=z
   ·subst h2;rw[SE];rw[show (y == x)=false from by simpa using Ne.symm h];rfl
   ·rw[show (y == z)=false from by simpa using h2]
section
variable {b:Bs}{h:Nat}{F:EA→Env}{loc loc' loc'':AA (Str×AV)}{mem mem' m1 m2:AA AO}{v v1:AV}{e1 e2 e3:Expr}{pos:Pos}{c:NB}{out:AOut}
noncomputable def cR(b:Bs)(h:Nat)(F:EA→Env)(t:Expr)(v:AV)(loc:AA (Str×AV))(mem:AA AO)(loc':AA (Str×AV))(mem':AA AO):Prop:=
 ∀(A:XA) (s:CA) (ρ:Rho) (L:EA) (mv:BA) (Q:Unit→CA→Prop) (E:BA→CA→Prop),Ht h A→R b ρ mem s→Fm b L (F L).cells ρ loc s→VR s.heap ρ v mv→
  (∀ρ' s',R b ρ' mem' s'→Fm b L (F L).cells ρ' loc' s'→Ext (bJ L (F L).cells) ρ s ρ' s'→Q () s')→FA b.M A (assign t (F L) mv) Q E s
inductive eD(e:Env)(x:Str):Prop
 | loc (hl:e.kindOf x=some .local) (hc:e.cells.lookup x=none)
 | cell (c:EA) (hl:e.kindOf x=some .cell) (hc:e.cells.lookup x=some c)
theorem wO{cs:AA (Str×EA)}(nd:(cs.map (·.2)).Nodup){x y:Str}{c:EA}(h1:cs.lookup x=some c)(h2:cs.lookup y=some c):x=y:=by
 have a:=mem_of_lookup h1
 have d:=mem_of_lookup h2
 clear h1 h2
 induction cs with
 | nil=>cases a
 | cons p r ih=>
  rw[AD,XE] at nd
  cases a with
  | head=>
   cases d with
   | head=>rfl
   | tail _ d=>exact absurd (EE (f:=(·.2)) d) nd.1
  | tail _ a=>
   cases d with
   | head=>exact absurd (EE (f:=(·.2)) a) nd.1
   | tail _ d=>exact ih nd.2 a d
theorem cJ(B:aC b)(f:aS F){A:XA}{s:CA}{ρ:Rho}{L:EA}{x:Str}{mv:BA}{Q:Unit→CA→Prop}{E:BA→CA→Prop}(r:R b ρ mem s)(fm:Fm b L (F L).cells ρ loc s)(hv:VR s.heap ρ v mv)
  (hl:eD (F L) x) (q:∀s',R b ρ mem s'→Fm b L (F L).cells ρ (putL x v loc) s'→Ext (bJ L (F L).cells) ρ s ρ s'→Q () s'):FA b.M A (storeName (F L) x mv) Q E s:=by
 refine o12 fm.ns fun m hn hm=>?_
 have step:∀(c:EA) (h':PB) (t:Nat),bJ L (F L).cells c→ZD c s.heap h'→(∃o,h'.get? c=some o)→
   R b ρ mem { s with heap:=h',toks:=t }∧Ext (bJ L (F L).cells) ρ s ρ { s with heap:=h',toks:=t }:=by
  intro c h' t hc hs ⟨o,ho⟩
  refine ⟨r.same B hs (fm.off c hc).2 (fm.off c hc).1 (fm.free c hc) s.gens r.bare s.drawn t,
   fun d o e n x9 x9=>(hs.2 d fun q=>n (q▸hc)).trans e,fun x9 x9 e=>e,fun x9 h=>.inl h,rfl,fun d o' e=>?_⟩
  by_cases hd:d=c
  ·subst hd;exact ⟨o,ho⟩
  ·exact ⟨o',(hs.2 d hd).trans e⟩
 cases hl with
 | loc hk hcl=>
  refine wpAny_storeName_local hk (by rw[f.locals L];exact hn) (fun h' hn' hs=>?_) (by rw[f.kind L];rfl)
  rw[f.locals L] at hn' hs
  refine o32 (id hn') fun on es ep en x9=>?_
  refine o02 (step L h' (s.toks+1) (.inl rfl) hs ⟨on,en⟩) fun r1 x1=>?_
  have ncl:∀p∈(F L).cells,p.2≠L:=fun p hp e=>by
   refine o22 (fm.cel p hp) fun v0 oc e1 e2=>?_
   refine o33 hn fun o2 es2 ep2 e3 e4 x9=>?_;clear hn
   rw[e] at e1;rw[e1] at e3;replace e3:=si e3;subst e3;rw[e2] at e4;cases e4
  refine q _ r1 ⟨⟨_,hn',fun y w hy=>?_⟩,fm.off,fun p hp=>?_,fm.apart⟩ x1
  ·rw[dP] at hy
   unfold bO
   by_cases hyx:y=x
   ·subst hyx
    rw[OB (SE y)] at hy
    replace hy:=si hy;subst hy
    rw[hcl]
    exact ⟨mv,OB rfl,x1.vr fm.free hv⟩
   ·rw[AB (by simpa using hyx)] at hy
    have z:=hm y w hy
    unfold bO at z
    split at z
    ·rename_i hy2
     try rw[hy2]
     try dsimp only
     refine o12 z fun mw a1 a2=>?_;clear z
     exact ⟨mw,(AB hyx).trans a1,x1.vr fm.free a2⟩
    ·rename_i c hy2
     try rw[hy2]
     try dsimp only
     refine o12 z fun mw a1 a2=>?_;clear z
     exact ⟨mw,a1.sameBut hs (ncl _ (mem_of_lookup hy2)),x1.vr fm.free a2⟩
  ·refine o11 (fm.cel p hp) fun v0 z=>?_
   exact ⟨v0,z.sameBut hs (ncl p hp)⟩
 | cell c hk hcl=>
  have hmc:=mem_of_lookup hcl
  refine o11 (fm.cel _ hmc) fun v0 hc0=>?_
  refine wpAny_storeName_cell (f.kind L) hk hcl hc0 fun h' hc' hs=>?_
  refine o12 (id hc') fun oc ec dc=>?_
  refine o02 (step c h' s.toks (.inr ⟨_,hmc,rfl⟩) hs ⟨oc,ec⟩) fun r1 x1=>?_
  have nL:L≠c:=fun e=>by
   refine o12 hc0 fun oc0 e1 e2=>?_;clear hc0
   refine o33 hn fun o2 es2 ep2 e3 e4 x9=>?_;clear hn
   rw[← e] at e1;rw[e1] at e3;replace e3:=si e3;subst e3;rw[e2] at e4;cases e4
  refine q _ r1 ⟨⟨m,hn.sameBut hs nL,fun y w hy=>?_⟩,fm.off,fun p hp=>?_,fm.apart⟩ x1
  ·rw[dP] at hy
   unfold bO
   by_cases hyx:y=x
   ·subst hyx
    rw[OB (SE y)] at hy
    replace hy:=si hy;subst hy
    rw[hcl]
    exact ⟨mv,hc',x1.vr fm.free hv⟩
   ·rw[AB (by simpa using hyx)] at hy
    have z:=hm y w hy
    unfold bO at z
    split at z
    ·rename_i hy2
     try rw[hy2]
     try dsimp only
     refine o12 z fun mw a1 a2=>?_;clear z
     exact ⟨mw,a1,x1.vr fm.free a2⟩
    ·rename_i c2 hy2
     try rw[hy2]
     try dsimp only
     refine o12 z fun mw a1 a2=>?_;clear z
     exact ⟨mw,a1.sameBut hs fun e=>hyx (wO fm.apart hy2 (e▸hcl)),x1.vr fm.free a2⟩
  ·by_cases hp2:p.2=c
   ·rw[hp2];exact ⟨_,hc'⟩
   ·refine o11 (fm.cel p hp) fun v1 z=>?_
    exact ⟨v1,z.sameBut hs hp2⟩
theorem iP(B:aC b)(f:aS F){x:Str}(hl:DA (∀L,eD (F L) x) q14):cR b h F (.Name x pos) v loc mem (putL x v loc) mem:=fun A s ρ L mv Q E hA r fm hv q=>
 assign_Name (cJ B f r fm hv (hl L) fun s' r' f' x'=>q ρ s' r' f' x')
theorem aBa(B:aC b)(f:aS F){x:Str}{p2:Pos}(y:aE b h F e1 loc mem v m1)(hl:DA (∀L,eD (F L) x) q14)
  (hs:DA (∀L,swapsWith e1 (some (.Name x p2)) pos.line (F L)=pure false) q8):aL b h F (.Assign [.Name x p2] e1 pos) loc mem .next (putL x v loc) m1:=fun A s ρ L Q E hA r fm q=>
 wpAny_Assign_Name (y A s ρ L _ E hA r fm fun ρ1 s1 mv r1 x1 h1=>cJ B f r1 (fm.ext x1) h1 (hl L) fun s2 r2 f2 x2=>q ρ1 s2 .next r2 f2 ((x1.mono fun x9 h=>h.elim).trans x2) .next) (hs L)
inductive Plain:AV→Prop
 | none:Plain .none
 | bool (b:NB):Plain (.bool b)
 | int (i:Int):Plain (.int i)
 | str (s:Str):Plain (.str s)
theorem aEe(y:aE b h F e1 loc mem v m1)(hp:Plain v)(hi:DA (∀L,interactive (F L)=false) q8)(hs:DA (∀L,swapsWith e1 none pos.line (F L)=pure false) q8):
  aL b h F (.Expr e1 pos) loc mem .next loc m1:=fun A s ρ L Q E hA r fm q=>
 wpAny_Expr (y A s ρ L _ E hA r fm fun ρ1 s1 mv r1 x1 h1=>by
  have:=q ρ1 s1 .next r1 (fm.ext x1) (x1.mono fun x9 h=>h.elim) .next
  cases hp <;> cases h1 <;> exact this) (hi L) (hs L)
theorem aO{body orelse:AA VD}(x:bA b h F e1 loc mem true m1)(y:aI b h F body loc m1 out loc' m2):aL b h F (.If e1 body orelse pos) loc mem out loc' m2:=fun A s ρ L Q E hA r fm q=>
 wpAny_If (x A s ρ L _ E hA r fm fun ρ1 s1 r1 x1=>by rw[OB rfl];exact y A s1 ρ1 L Q E hA r1 (fm.ext x1) fun ρ2 s2 fl r2 f2 x2 o=>q ρ2 s2 fl r2 f2 ((x1.mono fun x9 h=>h.elim).trans x2) o)
theorem aK{body orelse:AA VD}(x:bA b h F e1 loc mem false m1)(y:aI b h F orelse loc m1 out loc' m2):aL b h F (.If e1 body orelse pos) loc mem out loc' m2:=fun A s ρ L Q E hA r fm q=>
 wpAny_If (x A s ρ L _ E hA r fm fun ρ1 s1 r1 x1=>by rw[AB (by decide)];exact y A s1 ρ1 L Q E hA r1 (fm.ext x1) fun ρ2 s2 fl r2 f2 x2 o=>q ρ2 s2 fl r2 f2 ((x1.mono fun x9 h=>h.elim).trans x2) o)
theorem bI(x:aE b h F e1 loc mem v m1):aL b h F (.Return (some e1) pos) loc mem (.ret v) loc m1:=fun A s ρ L Q E hA r fm q=>
 wpAny_Return_some (x A s ρ L _ E hA r fm fun ρ1 s1 mv r1 x1 h1=>q ρ1 s1 _ r1 (fm.ext x1) (x1.mono fun x9 h=>h.elim) (.ret h1))
theorem rO:aL b h F (.Return none pos) loc mem (.ret .none) loc mem:=fun A s ρ L Q E hA r fm q=>
 wpAny_Return_none (q ρ s _ r fm (Ext.refl _ _ _) (.ret .none))
theorem eV:aL b h F (.Break pos) loc mem .brk loc mem:=fun A s ρ L Q E hA r fm q=>wpAny_Break (q ρ s _ r fm (Ext.refl _ _ _) .brk)
theorem gH:aL b h F (.Continue pos) loc mem .cont loc mem:=fun A s ρ L Q E hA r fm q=>wpAny_Continue (q ρ s _ r fm (Ext.refl _ _ _) .cont)
noncomputable def AsgTs(b:Bs)(h:Nat)(F:EA→Env)(ts:AA Expr)(vs:AA AV)(loc:AA (Str×AV))(mem:AA AO)(loc':AA (Str×AV))(mem':AA AO):Prop:=
 ∀(A:XA) (s:CA) (ρ:Rho) (L:EA) (mvs:AA BA) (Q:Unit→CA→Prop) (E:BA→CA→Prop),Ht h A→R b ρ mem s→Fm b L (F L).cells ρ loc s→VRs s.heap ρ vs mvs→
  (∀ρ' s',R b ρ' mem' s'→Fm b L (F L).cells ρ' loc' s'→Ext (bJ L (F L).cells) ρ s ρ' s'→Q () s')→FA b.M A (assignInOrder ((assignEach ts (F L)).map (·.2)) mvs) Q E s
theorem dO:AsgTs b h F [] [] loc mem loc mem:=fun A s ρ L mvs Q E hA r fm hv q=>by cases hv;exact wp (q ρ s r fm (Ext.refl _ _ _))
theorem bB{t:Expr}{ts:AA Expr}{vs:AA AV}(x:cR b h F t v loc mem loc' m1)(y:AsgTs b h F ts vs loc' m1 loc'' m2)(he:DA (∀L,assignEach (t :: ts) (F L)=(false,assign t (F L)) :: assignEach ts (F L)) q8):
  AsgTs b h F (t :: ts) (v :: vs) loc mem loc'' m2:=fun A s ρ L mvs Q E hA r fm hv q=>by
 cases hv with|cons hv hvs=>
 rw[he L]
 refine wb (TA (x A s ρ L _ _ E hA r fm hv fun ρ1 s1 r1 f1 x1=>?_))
 exact y A s1 ρ1 L _ Q E hA r1 f1 (x1.vrs fm.free hvs) fun ρ2 s2 r2 f2 x2=>q ρ2 s2 r2 f2 (x1.trans x2)
theorem fX{s:CA}{ρ:Rho}{L:EA}{cs:AA (Str×EA)}{h':PB}(r:R b ρ mem s)(fm:Fm b L cs ρ loc s)(k:∀c o,s.heap.get? c=some o→h'.get? c=some o)(t:Nat):
  R b ρ mem { s with heap:=h',toks:=t }∧Fm b L cs ρ loc { s with heap:=h',toks:=t }∧Ext NoS ρ s ρ { s with heap:=h',toks:=t }:=by
 have x:Ext NoS ρ s ρ { s with heap:=h',toks:=t }:=Ext.of_keeps _ _ k
 exact ⟨r.keeps k s.gens r.bare s.drawn t,fm.ext x,x⟩
theorem kD{h h':PB}(x:Heap.ExtBut h.objs.size h h'):∀c o,h.get? c=some o→h'.get? c=some o:=fun c o e=>x c o (GC (DB e)) e
theorem eE{ts:AA Expr}{vs:AA AV}{k:Nat}(x:AsgTs b h F ts vs loc mem loc' m1)(hn:DA (∀L,(assignEach ts (F L)).length=vs.length) q8)(hs:DA (∀L,(assignEach ts (F L)).findIdx? (·.1)=none) q8):
  cR b h F (.Tuple ts k pos) (.tup vs) loc mem loc' m1:=fun A s ρ L mv Q E hA r fm hv q=>by
 cases hv with|tup e ha hl=>
 have z:=hl.length
 rw[QA] at z
 refine wpAny_assign_Tuple hA.2.2 ⟨_,e,rfl,_,rfl⟩ (by rw[hn L,z]) (hs L) fun h' hx=>?_
 refine o03 (fX r fm (kD hx) s.toks) fun r' f' x'=>?_
 exact x A _ ρ L _ Q E hA r' f' (x'.vrs0 hl) fun ρ2 s2 r2 f2 x2=>q ρ2 s2 r2 f2 ((x'.mono fun x9 h=>h.elim).trans x2)
theorem cD{ts:AA Expr}{k:Nat}{p2:Pos}(y:aE b h F e1 loc mem v m1)(x:cR b h F (.Tuple ts k p2) v loc m1 loc' m2)
  (hs:DA (∀L,swapsWithSole [.Tuple ts k p2] e1 pos.line (F L)=pure false) q8) (hw:DA (∀L,swappedStores [.Tuple ts k p2] e1 (F L)=pure none) q8):
  aL b h F (.Assign [.Tuple ts k p2] e1 pos) loc mem .next loc' m2:=fun A s ρ L Q E hA r fm q=>
 Assign_Tuple (y A s ρ L _ E hA r fm fun ρ1 s1 mv r1 x1 h1=>x A s1 ρ1 L mv _ E hA r1 (fm.ext x1) h1 fun ρ2 s2 r2 f2 x2=>q ρ2 s2 .next r2 f2 ((x1.mono fun x9 h=>h.elim).trans x2) .next) (hs L) (hw L)
variable {k:Nat}{m3:AA AO}
theorem Ht.deeper{A:XA}(q:Ht (h+1) A)(env:Env):Ht h (A.deeper env):=by
 refine ⟨?_,?_,q.2.2⟩
 ·have:=q.1;show A.depth+1+20 * h≤900;lia
 ·have:=q.2.1;show A.units+3+100 * h≤9000;lia
theorem Ht.in1{A:XA}(q:Ht (h+1) A):Ht h A.in1:=by
 refine ⟨?_,?_,q.2.2⟩
 ·have:=q.1;show A.depth+20 * h≤900;lia
 ·have:=q.2.1;show A.units+1+100 * h≤9000;lia
theorem aF.mono{f:BA}{args:AA AV}(x:aF b k f args mem v mem')(e:k≤h):aF b h f args mem v mem':=fun A s ρ mvs Q E hA=>x A s ρ mvs Q E (hA.mono e)
noncomputable def cY(b:Bs)(f:BA):Prop:=∀hp:PB,b.K.In hp→∃k,(k=Keeper.frame∨k=Keeper.machine∨k=Keeper.boundFrame)∧EC b.M hp (keeperOf f) k
theorem cY.K{f:BA}(e:keepIn b.K f=true):cY b f:=fun hp X=>keeps_K e hp X
theorem cY.builtin(id:String):cY b (.builtin id):=fun hp X=>⟨.machine,.inr (.inl rfl),RE rfl⟩
theorem cY.type(n:String):cY b (.type n):=fun hp X=>⟨.machine,.inr (.inl rfl),RE rfl⟩
theorem pF(B:aC b){f:BA}{a0:AA BA}{fv:AA AV}{es:AA Expr}{vs:AA AV}(kf:cY b f)(y:dT b h F es loc mem vs m1)(z:aF b k f (fv++vs) m1 v m2)(hk:k≤h)
  {A:XA}{s:CA}{ρ:Rho}{L:EA}{Q:BA→CA→Prop}{E:BA→CA→Prop}(hA:Ht h A) (r:R b ρ mem s) (fm:Fm b L (F L).cells ρ loc s) (hf:VRs s.heap ρ fv a0)
  (q:∀ρ' s' mv,R b ρ' m2 s'→Ext NoS ρ s ρ' s'→VR s'.heap ρ' v mv→Q mv s')
  (hp:(backTo pos (LC es (F L))).any (·.1)=false) (he:es=[]∨∃x rest,backTo pos (LC es (F L))=(false,x) :: rest):FA b.M A (callWith pos f a0 (backTo pos (LC es (F L))) []) Q E s:=by
 refine NH (P:=b.K.In) (by rw[hp];rfl) (fun hp X=>kf hp X) ?_
 have tail:∀ρ1 s1 mvs,R b ρ1 m1 s1→Ext NoS ρ s ρ1 s1→VRs s1.heap ρ1 vs mvs→(b.K.In s1.heap∧FA b.M A (call f (a0++mvs) []) Q E s1):=fun ρ1 s1 mvs r1 x1 h1=>
  ⟨r1.kin B,z A s1 ρ1 _ Q E (hA.mono hk) r1 ((x1.vrs0 hf).append h1) fun ρ2 s2 mv r2 x2 h2=>q ρ2 s2 mv r2 (x1.trans x2) h2⟩
 rcases he with rfl|⟨x,rest,e⟩
 ·unfold evalArgs
  show FA b.M A (spliced (backTo pos (LC [] (F L)))>>=_) _ E s
  refine wb (CB (y A s ρ L pos _ E hA r fm tail) (fun vs s' h'=>?_) fun x9 x9 x=>x)
  refine wb (wp ?_)
  refine TA ?_
  exact wb (wp (wp h'))
 ·rw[e]
  refine JH ?_
  rw[← e]
  exact y A s ρ L pos _ E hA r fm tail
theorem gI{es:AA Expr}{L:EA}(hs:(LC es (F L)).any (·.1)=false):(backTo pos (LC es (F L))).any (·.1)=false:=by
 unfold backTo
 rw[List.any_map]
 exact hs
theorem hU{es:AA Expr}{L:EA}(hs:(LC es (F L)).any (·.1)=false)(hl:es≠[]→LC es (F L)≠[]):es=[]∨∃x rest,backTo pos (LC es (F L))=(false,x) :: rest:=by
 by_cases he:es=[]
 ·exact .inl he
 ·right
  cases e:LC es (F L) with
  | nil=>exact absurd e (hl he)
  | cons p r=>
   rw[e,List.any_cons,Bool.or_eq_false_iff] at hs
   obtain ⟨st,t⟩:=p
   have:st=false:=hs.1
   subst this
   exact ⟨_,_,rfl⟩
theorem aEf(B:aC b){f:BA}{x:Str}{p2:Pos}{es:AA Expr}{vs:AA AV}(hf:aE b h F (.Name x p2) loc mem (.val f) m1)(kf:cY b f)(y:dT b h F es loc m1 vs m2)(z:aF b k f vs m2 v m3)(hk:k≤h)
  (hs:DA (∀L,(LC es (F L)).any (·.1)=false) q8) (hl:DA (∀L,es≠[]→LC es (F L)≠[]) q16):aE b h F (.Call (.Name x p2) es [] pos) loc mem v m3:=fun A s ρ L Q E hA r fm q=>
 NG (hf A s ρ L _ E hA r fm fun ρ1 s1 mv r1 x1 h1=>by
  cases h1
  exact pF B kf (fv:=[]) y z hk hA r1 (fm.ext x1) .nil (fun ρ2 s2 mv r2 x2 h2=>q ρ2 s2 mv r2 (x1.trans x2) h2) (gI (hs L)) (hU (hs L) (hl L)))
noncomputable def dN(b:Bs)(h:Nat)(o:AV)(name:Str)(mem:AA AO)(f:BA)(fv:AA AV):Prop:=
 ∀(A:XA) (s:CA) (ρ:Rho) (mo:BA) (pl:Sem NB) (Q:BA×AA BA→CA→Prop) (E:BA→CA→Prop),Ht h A→R b ρ mem s→VR s.heap ρ o mo→
  (∀s' first,R b ρ mem s'→Ext NoS ρ s ρ s'→VRs s'.heap ρ fv first→Q (f,first) s')→FA b.M A (getMethod mo name pl) Q E s
theorem aEg(B:aC b){o:Expr}{name:Str}{apos:Pos}{ov:AV}{f:BA}{fv:AA AV}{es:AA Expr}{vs:AA AV}(ho:aE b h F o loc mem ov m1)(hm:dN b h ov name m1 f fv)(kf:cY b f)(y:dT b h F es loc m1 vs m2)
  (z:aF b k f (fv++vs) m2 v m3) (hk:k≤h)
  (he:DA (∀L,∃pl,eval (.Call (.Attribute o name apos) es [] pos) (F L)=(do
   let ov ← eval o (F L)
   standAt apos.atName
   let (f,first) ← holding [ov] (getMethod ov name (pl:Sem NB))
   callWith pos f first (backTo pos (LC es (F L))) (backToKw pos (keywordEach [] (F L))))) q18)
  (hs:DA (∀L,(LC es (F L)).any (·.1)=false) q8) (hl:DA (∀L,es≠[]→LC es (F L)≠[]) q16):aE b h F (.Call (.Attribute o name apos) es [] pos) loc mem v m3:=fun A s ρ L Q E hA r fm q=>by
 refine o11 (he L) fun pl he=>?_
 refine methodCall_KW (pl:=pl) (ho A s ρ L _ E hA r fm fun ρ1 s1 mo r1 x1 h1=>hm A s1 ρ1 mo pl _ E hA r1 h1 fun s2 first r2 x2 h2=>?_) he
 exact pF B kf y z hk hA r2 ((fm.ext x1).ext x2) h2 (fun ρ3 s3 mv r3 x3 h3=>q ρ3 s3 mv r3 ((x1.trans x2).trans x3) h3) (gI (hs L)) (hU (hs L) (hl L))
theorem R.inst{ρ:Rho}{s:CA}(r:R b ρ mem s){i:Nat}{C:EA}{sq:YA (AA AV)}{at_:AA (Str×AV)}(e:mem[i]?= some (.inst C sq at_)){mv:BA}(x:VR s.heap ρ (.obj i) mv):
  ∃(a d:EA) (ox od:Obj) (m:Str→YA BA) (es:RA YG) (ep:Nat),mv=.ref a∧ρ.rows[i]?= some [a,d]∧InstAt s.heap a ox C (some od)∧ox.dict=some d∧s.heap.get? d=some od∧od.data=.dict es ep∧StrKeys es∧(∀name,nsFind es name=m name)∧
   (∀x,match at_.lookup x with|some v=>∃mv,m x=some mv∧VR s.heap ρ v mv|Option.none=>m x=Option.none):=by
 refine o12 (r.ors.get _ _ e) fun p e1 e2=>?_
 cases x with
 | obj e3=>
  rw[e1] at e3
  replace e3:=si e3;subst e3
  cases sq with
  | none=>
   cases e2 with|plain q hd=>?_
   refine o12 hd fun m x4 hm=>?_;clear hd;refine o35 x4 fun od es ep e4 e5 e6 eu e7=>?_;clear x4
   exact ⟨_,_,_,od,m,es,ep,rfl,e1,⟨q,rfl,rfl,e4⟩,rfl,e4,e5,e6,e7,hm⟩
  | some l=>
   cases e2 with|seq q hl hd=>?_
   refine o12 hd fun m x4 hm=>?_;clear hd;refine o35 x4 fun od es ep e4 e5 e6 eu e7=>?_;clear x4
   exact ⟨_,_,_,od,m,es,ep,rfl,e1,⟨q,rfl,rfl,e4⟩,rfl,e4,e5,e6,e7,hm⟩
theorem fY{od:Obj}{es:RA YG}{ep:Nat}{m:Str→YA BA}(hd:od.data=.dict es ep)(hk:StrKeys es)(hm:∀name,nsFind es name=m name)(name:Str):lookIn name od=some (m name):=by
 unfold lookIn
 rw[hd]
 dsimp only
 have e:=hm name
 unfold nsFind findBy at e
 have:es.toList.any (·.refKey)=false:=by
  rw[List.any_eq_false]
  intro x hx
  refine o21 (hk x (Array.mem_toList_iff.mp hx)) fun n t hn=>?_
  simp[DictEntry.refKey,hn]
 rw[this,← e,← Array.find?_toList]
 cases es.toList.find? (fun e=>e.key.isStr name) <;> rfl
noncomputable def gaIn(K:Frag)(C:EA):NB:=CD K (.ref C) "__getattribute__" == some (some (.builtin "object.__getattribute__")) ||
 (CD K (.ref C) "__getattribute__" == some (some (.builtin "list.__getattribute__")) && CD K (.ref C) "__getattr__" == some none && mroIn K C (.type "list") == some true)
theorem qS:(Manifest.canonical "list.__getattribute__" != "object.__getattribute__")=false:=by rw[PySem.W.S.canonicalZ_eq];kernel_rfl
theorem pG{K:Frag}{C:EA}(h:gaIn K C=true):CD K (.ref C) "__getattribute__" = some (some (.builtin "object.__getattribute__"))∨
  (CD K (.ref C) "__getattribute__" = some (some (.builtin "list.__getattribute__"))∧CD K (.ref C) "__getattr__" = some none∧mroIn K C (.type "list")=some true):=by
 unfold gaIn at h
 simp only[Bool.or_eq_true,VA,UD] at h
 exact h.imp id fun h=>⟨h.1.1,h.1.2,h.2⟩
theorem rP:KD "list.__getattribute__" = some .slot:=by decide +kernel
theorem pH:splitId "list.__getattribute__" = some ("list","__getattribute__"):=by decide +kernel
theorem pI:EG table "list.__getattribute__" = some Builtin.«object.__getattribute__»:=
 entryFor_alias (id':="object.__getattribute__") (by rw[fastTable_eq_tree];kernel_rfl) (by first|rfl|decide +kernel) (by rw[PySem.W.S.canonicalZ_eq];kernel_rfl) (by rw[fastTable_eq_tree];kernel_rfl)
section
variable {prog:RC}{w:HD}{A:XA}{E:BA→CA→Prop}{s:CA}{K:Frag}{x C:EA}{ox:Obj}{od:YA Obj}{name:Str}{expr:NB}{Q:BA→CA→Prop}
theorem rQ{id m owner:String}{bi:Builtin}{self:BA}{rest:AA BA}{Q:BA→CA→Prop}(hk:KD id=some .slot)(hs:splitId id=some (owner,m))(pl:plainId id=true)(hb:EG table id=some bi)
  (hi:EC (model prog w) s.heap (isInstance self (.type owner)) true) (ha:argsOk id ⟨self :: rest,[]⟩)
  (h:FA (model prog w) A.in1 (bi ⟨self :: rest,[]⟩) (fun fin s'=>∃v,fin=.done (.ret v)∧Q v s') E s):FA (model prog w) A (call (.builtin id) (self :: rest)) Q E s:=by
 refine CE (codeAny_call_builtin pl hb (check_slot hk hs hi ha (CB h (fun fin s' h'=>?_) fun x9 x9 h'=>h')))
 refine o12 h' fun v x4 hv=>?_;clear h';subst x4;exact hv
theorem yZ{x C:BA}{tk:Tok}{v:BA}{Q:Fin→CA→Prop}(L0:EC (model prog w) s.heap (typeOf x) C)(L2:EC (model prog w) s.heap (Builtin.ObjectAttr.find x C name) (.value v))(q:Q (.done (.ret v)) s):
  FA (model prog w) A (Builtin.«object.__getattribute__» ⟨[x,.str name tk],[]⟩) Q E s:=by
 obtain ⟨hp,g,d,t,os⟩:=s
 unfold Builtin.«object.__getattribute__»
 refine wb (IC (a:=(x,[Value.str name tk])) rfl ?_)
 dsimp only
 refine wb (IC (a:=name) rfl ?_)
 refine wb (L0.at (wb (L2.at ?_)))
 exact wp q
theorem mT{v:BA}(X:K.In s.heap)(I:InstAt s.heap x ox C od)(hga:gaIn K C=true)(hf:findObj K C od name=some (.value v))(hh:handedIn v=true)(h:Q v { s with toks:=s.toks+1 }):FA (model prog w) A (getAttr (.ref x) name expr) Q E s:=by
 rcases pG hga with hga|⟨hga,hk,hm⟩
 ·exact get_value X I hga hf hh h
 ·obtain ⟨hp,g,d,t,os⟩:=s
  have L0:=I.type (M:=model prog w)
  have L1:=MD (M:=model prog w) X hga
  have L3:=MD (M:=model prog w) X hk
  have hi:EC (model prog w) hp (isInstance (.ref x) (.type "list")) true:=L0.andThen (BH X hm)
  unfold getAttr getAttrBy
  refine wb (wpAny_mkText (TA (wb (L0.at (wb (L1.at ?_))))))
  show FA _ _ (getAttrByItsOwn _ _ _ _ _ _) _ _ _
  unfold getAttrByItsOwn hookBefore callGetattribute boundAndCalled
  refine wb ?_
  show FA _ _ (typeLookup (.ref C) "__getattr__") _ _ _
  refine L3.at ?_
  refine wb (NE (TA ?_))
  rw[show (expr && onTheHeap (Value.builtin "list.__getattribute__"))=false from by cases expr <;> rfl,AB (by decide)]
  refine wb (IC (PySem.F.slot_list_getattribute.bind _) ?_)
  refine CB (Q:=fun r s'=>r=v∧s'=⟨hp,g,d,t+1,os⟩) (E:=fun x9 x9=>False) ?_ (fun r s' hr=>?_) fun x9 x9 z=>z.elim
  ·show FA _ _ (call (.builtin "list.__getattribute__") [.ref x,.str name t]) _ _ _
   refine rQ rP pH PySem.F.slot_list_getattribute.plain pI hi (PySem.F.args_list_getattribute_2 _ _) ?_
   have L2:=looks_find (M:=model prog w) X I hf
   exact yZ (s:=⟨hp,g,d,t+1,os⟩) L0 L2 ⟨_,rfl,rfl,rfl⟩
  ·refine o02 hr fun x4 x5=>?_;clear hr;subst x4;subst x5
   show FA _ _ (handedOut r) _ _ _
   rw[handedOut_of hh];exact wp h
theorem mU{f:EA}{pl:Sem NB}{Q:BA×AA BA→CA→Prop}{fv:BA}{T:String}(X:K.In s.heap)(I:InstAt s.heap x ox C od)(hga:gaIn K C=true)(hk:CD K (.ref C) "__getattr__" = some none)
  (hf:CD K (.ref C) name=some (some fv)) (ht:typeIn K fv=some (.type T)) (hT:T="function" ∨T="method_descriptor") (hs:shadowIn od name=some false) (h:Q (fv,[.ref x]) s):
  FA (model prog w) A (getMethod (.ref x) name pl) Q E s:=by
 have hcan:=PySem.F.canon_object_ga
 obtain ⟨ga,hga,eg⟩:∃ga,CD K (.ref C) "__getattribute__" = some (some (.builtin ga))∧(ga="object.__getattribute__" ∨ga="list.__getattribute__"):=by
  rcases pG hga with hga|hga
  ·exact ⟨_,hga,.inl rfl⟩
  ·exact ⟨_,hga.1,.inr rfl⟩
 unfold getMethod specialOf
 refine wb (wb (I.type.here ((MD X hga).here ?_)))
 dsimp only
 rw[show (Manifest.canonical ga != "object.__getattribute__")=false from by rcases eg with rfl|rfl;exact hcan;exact qS,AB (by decide)]
 refine wb (wb (I.type.here ((MD X hk).here ?_)))
 refine wb (wb (I.type.here ((MD X hf).here (wb ((looks_typeIn X ht).here ?_)))))
 rw[AB (by rcases hT with rfl|rfl <;> decide +kernel)]
 refine wb (OF I.at_ ?_)
 have hd:=I.dict
 cases e:ox.dict with
 | none=>exact wb (ZE (wp h))
 | some dx=>
  cases od with
  | none=>rw[e] at hd;exact hd.elim
  | some o=>
   rw[e] at hd
   refine o12 (Option.map_eq_some_iff.mp hs) fun r a b=>?_
   refine wb (wb (OF hd ?_))
   rw[nsLook_of a]
   refine wp ?_
   rw[b]
   exact wb (ZE (wp h))
end
noncomputable def plainAttr(K:Frag)(C:EA)(name:Str):NB:=
 (clsIn K C).any (·.hasDict) && gaIn K C && CD K (.ref C) name == some none
theorem rR{K:Frag}{C:EA}{name:Str}{od:Obj}{mv:BA}(hp:plainAttr K C name=true)(e:lookIn name od=some (some mv)):findObj K C (some od) name=some (.value mv):=by
 unfold plainAttr at hp
 simp only[VA,UD] at hp
 refine o02 hp fun x4 h3=>?_;clear hp;refine o02 x4 fun h1 x9=>?_;clear x4
 refine o12 (any_some h1) fun cd hc hd=>?_
 unfold findObj
 simp[hc,h3,W.ownOf,hd,e]
noncomputable def AV.handed:AV→NB
 | .val v=>handedIn v
 | _=>true
theorem VR.handed{hp:PB}{ρ:Rho}{v:AV}{mv:BA}(q:VR hp ρ v mv)(e:v.handed=true):handedIn mv=true:=by
 cases q.ind <;> first|rfl|exact e
noncomputable def AttrV(b:Bs)(h:Nat)(o:AV)(name:Str)(mem:AA AO)(v:AV)(mem':AA AO):Prop:=
 ∀(A:XA) (s:CA) (ρ:Rho) (mo:BA) (ex:NB) (Q:BA→CA→Prop) (E:BA→CA→Prop),Ht h A→R b ρ mem s→VR s.heap ρ o mo→
  (∀ρ' s' mv,R b ρ' mem' s'→Ext NoS ρ s ρ' s'→VR s'.heap ρ' v mv→Q mv s')→FA b.M A (getAttr mo name ex) Q E s
theorem aB(B:aC b){name:Str}{i:Nat}{C:EA}{sq:YA (AA AV)}{at_:AA (Str×AV)}(e:mem[i]?= some (.inst C sq at_))(ha:at_.lookup name=some v)(hp:plainAttr b.K C name=true)(hh:DA (v.handed=true) q9):
  AttrV b h (.obj i) name mem v mem:=fun A s ρ mo ex Q E hA r ho q=>by
 refine o41 (r.inst e ho) fun a d ox od x4=>?_;refine o32 x4 fun m es ep x5 x6=>?_;clear x4;subst x5;refine o08 x6 fun e1 I hd e4 e5 e6 e7 hm=>?_;clear x6
 have z:=hm name
 rw[ha] at z
 refine o12 z fun mv z1 z2=>?_;clear z
 have hga:gaIn b.K C=true:=by
  unfold plainAttr at hp;simp only[VA,UD] at hp;exact hp.1.2
 exact mT (r.kin B) I hga (rR hp (by rw[fY e5 e6 e7,z1])) (z2.handed hh) (q ρ _ mv (r.toks _) ((Ext.refl _ _ _).toks _) z2)
theorem aA{o:Expr}{name:Str}{ov:AV}(ho:aE b h F o loc mem ov m1)(ha:AttrV b h ov name m1 v m2)
  (he:DA (∀L,eval (.Attribute o name pos) (F L)=(do
   let x ← eval o (F L)
   standAt pos.atName
   let r ← holding [x] (getAttr x name true)
   letTemporaryGo o x r
   pure r)) q8):aE b h F (.Attribute o name pos) loc mem v m2:=fun A s ρ L Q E hA r fm q=>
 Attribute_any_ (ho A s ρ L _ E hA r fm fun ρ1 s1 mo r1 x1 h1=>ha A s1 ρ1 mo true Q E hA r1 h1 fun ρ2 s2 mv r2 x2 h2=>q ρ2 s2 mv r2 (x1.trans x2) h2) (he L)
noncomputable def ownMeth(K:Frag)(C:EA)(name:Str)(f:EA):NB:=
 gaIn K C && CD K (.ref C) "__getattr__" == some none && CD K (.ref C) name == some (some (.ref f)) && typeIn K (.ref f) == some (.type "function")
theorem bD(B:aC b){name:Str}{i:Nat}{C f:EA}{sq:YA (AA AV)}{at_:AA (Str×AV)}(e:mem[i]?= some (.inst C sq at_))(hp:ownMeth b.K C name f=true)(hn:at_.lookup name=Option.none):
  dN b h (.obj i) name mem (.ref f) [.obj i]:=fun A s ρ mo pl Q E hA r ho q=>by
 refine o41 (r.inst e ho) fun a d ox od x4=>?_;refine o32 x4 fun m es ep x5 x6=>?_;clear x4;subst x5;refine o08 x6 fun e1 I hd e4 e5 e6 e7 hm=>?_;clear x6
 unfold ownMeth at hp
 simp only[VA,UD] at hp
 have z:=hm name
 rw[hn] at z
 exact mU (f:=f) (r.kin B) I hp.1.1.1 hp.1.1.2 hp.1.2 hp.2 (.inl rfl) (by show Option.map _ (lookIn name od)=_;rw[fY e5 e6 e7,z];rfl) (q s _ r (Ext.refl _ _ _) (.cons ho .nil))
noncomputable def bindsL:AA Str→AA AV→AA (Str×AV)
 | x :: xs,v :: vs=>(x,v) :: bindsL xs vs
 | _,_=>[]
theorem dA{hp:PB}{ρ:Rho}:∀(xs:AA Str) (vs:AA AV) (mvs:AA BA),VRs hp ρ vs mvs→xs.Nodup→∀x v,(bindsL xs vs).lookup x=some v→∃mv,(xs.zip mvs).reverse.lookup x=some mv∧VR hp ρ v mv:=by
 have key:∀(l:AA (Str×BA)) (x:Str) (mv:BA),(l.map (·.1)).Nodup→(x,mv)∈l→l.reverse.lookup x=some mv:=by
  intro l x mv nd hm
  have nd':(l.reverse.map (·.1)).Nodup:=by rw[List.map_reverse];exact (List.reverse_perm _).nodup_iff.mpr nd
  have hm':(x,mv)∈l.reverse:=List.mem_reverse.mpr hm
  generalize l.reverse=k at nd' hm'
  induction k with
  | nil=>cases hm'
  | cons p k ih=>
   rw[AD,XE] at nd'
   cases hm' with
   | head=>simp[IF]
   | tail _ h'=>
    have:x≠p.1:=fun e=>nd'.1 (e▸EE (f:=(·.1)) h')
    simp only[IF]
    rw[show (x == p.1)=false from by simpa using this]
    exact ih nd'.2 h'
 have mem:∀(xs:AA Str) (vs:AA AV) (mvs:AA BA),VRs hp ρ vs mvs→∀x v,(bindsL xs vs).lookup x=some v→∃mv,(x,mv)∈xs.zip mvs∧VR hp ρ v mv:=by
  intro xs
  induction xs with
  | nil=>intro vs mvs q x v e;simp[bindsL] at e
  | cons y xs ih=>
   intro vs mvs q x v e
   cases q.ind with
   | nil=>simp[bindsL] at e
   | cons e1 el=>
    simp only[bindsL,IF] at e
    by_cases hx:x=y
    ·subst hx;rw[SE] at e;replace e:=si e;subst e;exact ⟨_,by simp,e1⟩
    ·rw[show (x == y)=false from by simpa using hx] at e
     refine o12 (ih _ _ el x v e) fun mv a c=>?_
     exact ⟨mv,by simp[a],c⟩
 intro xs vs mvs q nd x v e
 refine o12 (mem xs vs mvs q x v e) fun mv a c=>?_
 refine ⟨mv,key _ x mv ?_ a,c⟩
 have:∀(xs:AA Str) (ms:AA BA),xs.Nodup→((xs.zip ms).map (·.1)).Nodup:=by
  intro xs
  induction xs with
  | nil=>intro ms _;simp
  | cons y xs ih=>
   intro ms nd
   cases ms with
   | nil=>simp
   | cons m ms=>
    rw[XE] at nd
    rw[List.zip_cons_cons,AD,XE]
    exact ⟨fun hm=>by
     refine o12 (List.mem_map.mp hm) fun p hp e=>?_
     have:p.1∈xs:=(DD (a:=p.1) (b:=p.2) hp).1
     have e:p.1=y:=e
     exact nd.1 (e▸this),ih ms nd.2⟩
 exact this xs mvs nd
noncomputable def retOf:AOut→AV
 | .ret v=>v
 | _=>.none
theorem Fm.plain{L:EA}{cs:AA (Str×EA)}{ρ:Rho}{s:CA}(hcs:cs=[]){m:Str→YA BA}(hn:s.heap.Ns L m)(h1:L∉ρ.all)(h2:b.s₁.heap.get? L=none)
  (hm:∀x v,loc.lookup x=some v→∃mv,m x=some mv∧VR s.heap ρ v mv):Fm b L cs ρ loc s:=by
 subst hcs
 refine ⟨⟨m,hn,fun x v e=>hm x v e⟩,fun c hc=>?_,fun p hp=>(nomatch hp),GG⟩
 rcases hc with rfl|⟨p,hp,_⟩
 ·exact ⟨h1,h2⟩
 ·cases hp
theorem rS(B:aC b){f:EA}{fd:BD}{oc:BA}{od:YA EA}{osl:RA (YA BA)}{body:AA VD}{xs:AA Str}{args:AA AV}
  (ho:b.K.lookup f=some ⟨oc,od,.func fd,osl⟩) (hcd:codeIn b.K fd.code fd.qualname=true) (hb:fd.body=.stmts body)
  (hbind:∀mvs:AA BA,mvs.length=args.length→TD fd ⟨mvs,[]⟩=pure (xs.zip mvs)) (nd:xs.Nodup) (hl:xs.length=args.length)
  (hcell:∀x∈fd.scope.names,x.2≠.cell) (hloc:∀x∈xs,fd.scope.names.lookup x=some .local)
  (hco:fd.scope.isCoroutine=false) (hgen:fd.scope.isGenerator=false) (hk:fd.scope.kind=.function)
  (hclo:fd.closure=[])
  (hx:aI b h (fun L=>KC fd L f) body (bindsL xs args) mem out loc' m1):aF b (h+1) (.ref f) args mem (retOf out) m1:=fun A s ρ mvs Q E hA r hv q=>by
 refine CE ?_
 have X:=r.kin B
 refine codeAny_call_def (fd:=fd) (body:=body) (binds:=xs.zip mvs) hA.depth (X _ _ ho) rfl r.lim (codeRec_of X hcd) hb (.of_eq (hbind mvs hv.length)) hcell
  (fun x hx=>hloc x.1 (DD (a:=x.1) (b:=x.2) hx).1) (fun h₀ hns hkp=>?_) hco hgen hk
 have e0:s.heap.get? s.heap.objs.size=none:=aP (MA _)
 have hcl:(KC fd s.heap.objs.size f).cells=[]:=hclo
 have x0:Ext NoS ρ s ρ { s with heap:=h₀,toks:=s.toks+(xs.zip mvs).length }:=Ext.of_keeps _ _ hkp
 have r0:R b ρ mem { s with heap:=h₀,toks:=s.toks+(xs.zip mvs).length }:=r.keeps hkp s.gens r.bare s.drawn _
 refine CB (hx (A.deeper (KC fd s.heap.objs.size f)) _ ρ s.heap.objs.size _ _ (hA.deeper _) r0
  (Fm.plain hcl hns (fun hm=>JB _ (r.lt hm)) r.fresh (dA xs args mvs (x0.vrs0 hv) nd)) fun ρ' s' fl r' f' x' o=>?_) (fun fl s' z=>z) fun x9 x9 z=>z
 have xx:Ext NoS ρ s ρ' s':=by
  refine ⟨fun c oc e x9 hc kq=>x'.keep c oc (hkp c oc e) (fun q=>by
   rcases q with rfl|⟨p,hp,_⟩
   ·rw[e0] at e;cases e
   ·rw[hcl] at hp;cases hp) hc kq,x'.pre,fun a ha=>?_,x'.hid,fun c oc e=>x'.live c oc (hkp c oc e)⟩
  rcases x'.new a ha with z|z
  ·exact .inl z
  ·right
   cases e:s.heap.get? a with
   | none=>rfl
   | some o=>have:=hkp a o e;rw[z] at this;cases this
 cases o with
 | ret e=>exact q ρ' s' _ r' xx e
 | _=>exact q ρ' s' _ r' xx .none
end
section
open Builtin.Str (occurrences partsBetween strKind)
section
variable {b:Bs}{h k:Nat}{F:EA→Env}{mem:AA AO}{v:AV}{e1 e2:Expr}{c:NB}
theorem mB{x:Str}:dN b h (.str x) "split" mem (.builtin "str.split") [.str x]:=fun A s ρ mo pl Q E hA r ho q=>by cases ho;exact GM.split (q s _ r (Ext.refl _ _ _) (.cons (.str _ _) .nil))
theorem iQ{x:Str}:dN b h (.str x) "join" mem (.builtin "str.join") [.str x]:=fun A s ρ mo pl Q E hA r ho q=>by cases ho;exact GM.join (q s _ r (Ext.refl _ _ _) (.cons (.str _ _) .nil))
theorem qT{x:Str}:dN b h (.str x) "startswith" mem (.builtin "str.startswith") [.str x]:=fun A s ρ mo pl Q E hA r ho q=>by cases ho;exact GM.startswith (q s _ r (Ext.refl _ _ _) (.cons (.str _ _) .nil))
theorem uG{x:Str}:dN b h (.str x) "endswith" mem (.builtin "str.endswith") [.str x]:=fun A s ρ mo pl Q E hA r ho q=>by cases ho;exact GM.endswith (q s _ r (Ext.refl _ _ _) (.cons (.str _ _) .nil))
theorem eF{x:Str}:dN b h (.str x) "isspace" mem (.builtin "str.isspace") [.str x]:=fun A s ρ mo pl Q E hA r ho q=>by cases ho;exact GM.isspace (q s _ r (Ext.refl _ _ _) (.cons (.str _ _) .nil))
theorem wP{x:Str}:dN b h (.str x) "replace" mem (.builtin "str.replace") [.str x]:=fun A s ρ mo pl Q E hA r ho q=>by cases ho;exact GM.replace (q s _ r (Ext.refl _ _ _) (.cons (.str _ _) .nil))
theorem qU{x y:Str}:aF b h (.builtin "str.startswith") [.str x,.str y] mem (.bool (Txt.startswith x y)) mem:=fun A s ρ mvs Q E hA r hv q=>by
 cases hv with|cons h1 hv=>cases hv with|cons h2 hv=>cases hv;cases h1;cases h2;exact SC.startswith (q ρ s _ r (Ext.refl _ _ _) (.bool _))
theorem uH{x y:Str}:aF b h (.builtin "str.endswith") [.str x,.str y] mem (.bool (Txt.endswith x y)) mem:=fun A s ρ mvs Q E hA r hv q=>by
 cases hv with|cons h1 hv=>cases hv with|cons h2 hv=>cases hv;cases h1;cases h2;exact SC.endswith (q ρ s _ r (Ext.refl _ _ _) (.bool _))
theorem eG{x:Str}:aF b h (.builtin "str.isspace") [.str x] mem (.bool (YF x)) mem:=fun A s ρ mvs Q E hA r hv q=>by
 cases hv with|cons h1 hv=>cases hv;cases h1;exact SC.isspace (q ρ s _ r (Ext.refl _ _ _) (.bool _))
theorem fD{x:Str}(hz:x.length≤1000000):aF b h (.builtin "len") [.str x] mem (.int x.length) mem:=fun A s ρ mvs Q E hA r hv q=>by
 cases hv with|cons h1 hv=>cases hv;cases h1;exact P.len_str (by lia) (q ρ _ _ (r.toks _) ((Ext.refl _ _ _).toks _) (.int _ _))
theorem iE{l:AA AV}(hl:LV mem v l)(hz:l.length≤1000000):aF b h (.builtin "len") [v] mem (.int l.length) mem:=fun A s ρ mvs Q E hA r hv q=>by
 cases hv with|cons h1 hv=>?_
 cases hv
 refine o33 (hl.at r h1) fun a its n x0 e hvs=>?_;subst x0
 have z:=hvs.length
 rw[QA] at z
 refine call_len_list (items:=its) ⟨_,e,rfl,n,rfl⟩ (by rw[z];lia) ?_
 rw[z]
 exact q ρ _ _ (r.toks _) ((Ext.refl _ _ _).toks _) (.int _ _)
theorem VRs.strs{hp:PB}{ρ:Rho}:∀{xs:AA Str}{ms:AA BA},VRs hp ρ (xs.map .str) ms→∃l:AA (Str×Tok),strValues l=ms∧l.map (·.1)=xs
 | [],_,q=>by cases q;exact ⟨[],rfl,rfl⟩
 | x :: xs,_,q=>by
  cases q with|cons a el=>?_
  cases a with|str t=>?_
  refine o12 (VRs.strs (xs:=xs) el) fun l e1 e2=>?_;exact ⟨(x,t) :: l,by rw[← e1];rfl,by rw[← e2];rfl⟩
theorem VRs.of_strs{hp:PB}{ρ:Rho}:∀(l:AA (Str×Tok)),VRs hp ρ (l.map fun p=>.str p.1) (strValues l)
 | []=>.nil
 | (x,t) :: l=>.cons (.str x t) (VRs.of_strs l)
theorem VRs.numbered{hp:PB}{ρ:Rho}(t:Tok)(xs:AA Str):VRs hp ρ (xs.map .str) (strValues (numbered t xs)):=by
 have:=VRs.of_strs (hp:=hp) (ρ:=ρ) (PySem.numbered t xs)
 rwa [show (PySem.numbered t xs).map (fun p=>AV.str p.1)=((PySem.numbered t xs).map (·.1)).map .str from by rw[FD];rfl,numbered_texts] at this
theorem kE(c:Nat):∀(xs:AA Str) (a:Nat),xs.foldl (fun acc x=>acc+x.length+c) a=a+((xs.map (·.length)).sum+xs.length * c)
 | [],a=>by simp
 | x :: xs,a=>by rw[List.foldl_cons,kE c xs];simp only[AD,LH,UA,Nat.add_mul,Nat.one_mul];lia
theorem iR{x:Str}{xs:AA Str}(hl:LV mem v (xs.map .str))(hz:(xs.map (·.length)).sum+xs.length * x.length≤1000000):aF b h (.builtin "str.join") [.str x,v] mem (.str (UC x xs)) mem:=fun A s ρ mvs Q E hA r hv q=>by
 cases hv with|cons h1 hv=>?_
 cases hv with|cons h2 hv=>?_
 cases hv;cases h1
 refine o33 (hl.at r h2) fun a its n x0 e hvs=>?_;subst x0
 refine o12 hvs.strs fun l e1 e2=>?_
 refine SC.join (l:=l) (texts:=xs) ⟨_,e,rfl,n,by rw[e1]⟩ e2 ?_ fun t' k=>q ρ _ _ (r.toks _) ((Ext.refl _ _ _).toks _) (.str _ _)
 unfold JoinOk Builtin.Str.tooLong
 rw[List.foldl_toArray,kE]
 simp only[WE,decide_eq_false_iff_not]
 rw[HB];lia
theorem pJ{A:XA}{s:CA}{ρ:Rho}(r:R b ρ mem s){l:AA AV}{ml:AA BA}(hl:VRs s.heap ρ l ml)(t:Nat){Q:BA→CA→Prop}
  (q:∀ρ' s' mv,R b ρ' mem s'→Ext NoS ρ s ρ' s'→VR s'.heap ρ' (.lst l) mv→Q mv s'):Q (.ref s.heap.objs.size) { s with toks:=t,heap:=s.heap.push { cls:=.type "list",data:=.seq ml.toArray } }:=
 q ρ _ _ ((r.push' _).toks t) ((aX r _).toks t) (iN r hl)
theorem mC{x y:Str}(hy:(y.length == 0)=false)(hx:x.length≤1000000)(hz:(HC x y).length≤1000000):aF b h (.builtin "str.split") [.str x,.str y] mem (.lst ((HC x y).map .str)) mem:=fun A s ρ mvs Q E hA r hv q=>by
 cases hv with|cons q1 hv=>?_
 cases hv with|cons q2 hv=>?_
 cases hv;cases q1;cases q2
 rename_i t u
 have self:HC x y=[x]→wants Q E (.ok (.ret (.ref s.heap.objs.size))) { s with toks:=s.toks,heap:=s.heap.push { cls:=.type "list",data:=.seq ([.str x t]:AA BA).toArray } }:=fun e=>by
  refine pJ (l:=(HC x y).map .str) (A:=A) r ?_ s.toks q
  rw[e];exact .cons (.str _ _) .nil
 cases h1:(decide (x.length < y.length) || decide (strKind x < strKind y))
 ·cases hf:(occurrences x y 0 x.length (x.length+1)).isEmpty
  ·have es:HC x y=partsBetween x (occurrences x y 0 x.length (x.length+1)) y.length:=(AB (by rw[h1];decide)).trans (AB (by rw[hf];decide))
   refine call_meets F.slot_str_split (typeIs_str _ _ _) F.entry_str_split (F.args_str_split_2 _ _) (meets_str_split_sep x y t u h1 hy hf (by rw[HB];exact lz) (by rw[← es,HB];exact lz)) ?_
   refine pJ (l:=(HC x y).map .str) (A:=A) r ?_ _ q
   rw[strsFrom_eq,es]
   exact VRs.numbered _ _
  ·exact call_meets F.slot_str_split (typeIs_str _ _ _) F.entry_str_split (F.args_str_split_2 _ _) (meets_str_split_not_found x y t u h1 hy hf) (self ((AB (by rw[h1];decide)).trans (OB hf)))
 ·exact call_meets F.slot_str_split (typeIs_str _ _ _) F.entry_str_split (F.args_str_split_2 _ _) (meets_str_split_cannot_occur x y t u h1) (self (OB h1))
end
end
noncomputable def Rho.hide(ρ:Rho)(W:AA EA):Rho:=⟨ρ.rows,W++ρ.hid⟩
structure Keep(W:AA EA)(s s':CA):Prop where
 keep:∀c o,s.heap.get? c=some o→c∉W→s'.heap.get? c=some o
 live:∀c o,s.heap.get? c=some o→∃o',s'.heap.get? c=some o'
structure ItR(b:Bs)(h:Nat)(t:Expr)(it:EA)(W:AA EA)(items:AA AV)(Mm:AA AO→Prop)(P:Nat→Rho→CA→Prop):Prop where
 self:∀{A:XA}{s:CA}{ρ:Rho}{k:Nat}{Q:BA→CA→Prop}{E:BA→CA→Prop},P k ρ s→Q (.ref it) s→FA b.M A (pyIter (.ref it)) Q E s
 stable:∀{k:Nat}{ρ ρ':Rho}{s s':CA}{S:EA→Prop},P k ρ s→Ext S ρ s ρ' s'→(∀c,S c→Free s.heap ρ c)→(∀c∈W,¬ S c)→ρ.all.Nodup→(∀c∈W,c∈ρ.hid)→P k ρ' s'
 more:∀{k:Nat}{ρ:Rho}{s s':CA}{H:AA EA},P k ρ s→(∀c o,s.heap.get? c=some o→s'.heap.get? c=some o)→(∀c∈H,s.heap.get? c=none)→P k (ρ.hide H) s'
 item:∀{A:XA}{s:CA}{ρ:Rho}{mem:AA AO}{k:Nat}{v:AV}{Q:BA→CA→Prop}{E:BA→CA→Prop},Ht h A→R b ρ mem s→Mm mem→P k ρ s→(∀c∈W,c∈ρ.hid)→items[k]?= some v→
  (∀s' mv,R b ρ mem s'→P (k+1) ρ s'→VR s'.heap ρ v mv→Keep W s s'→(∀{u:AV}{mu:BA},VR s.heap ρ u mu→VR s'.heap ρ u mu)→Q mv s')→
  FA b.M A (pyNext (.ref it)) (fun r s1=>match r with|none=>False|some mv=>FA b.M A (letOwnedTupleGo t (.ref it) mv) (fun x9 s2=>Q mv s2) E s1) E s
 fin:∀{A:XA}{s:CA}{ρ:Rho}{mem:AA AO}{k:Nat}{Q:CA→Prop}{E:BA→CA→Prop},Ht h A→R b ρ mem s→Mm mem→P k ρ s→(∀c∈W,c∈ρ.hid)→items[k]?= none→
  (∀s',R b ρ mem s'→Keep W s s'→(∀{u:AV}{mu:BA},VR s.heap ρ u mu→VR s'.heap ρ u mu)→Q s')→
  FA b.M A (pyNext (.ref it)) (fun r s1=>match r with|none=>Q s1|some _=>False) E s
mutual
noncomputable def AV.under(n:Nat):AV→NB
 | .obj i=>decide (i < n)
 | .tup l=>AV.underL n l
 | .lst l=>AV.underL n l
 | _=>true
noncomputable def AV.underL(n:Nat):AA AV→NB
 | []=>true
 | v :: l=>v.under n && AV.underL n l
end
noncomputable def Back(b:Bs)(ρ:Rho)(s:CA)(ρh:Rho)(sh:CA)(W:AA EA)(m0 rest:AA AO):Prop:=
 ∀(S:EA→Prop) (ρ2:Rho) (s2:CA) (m2:AA AO),(∀c,S c→c∉W)→R b ρ2 m2 s2→m2.length=m0.length→Ext (fun c=>S c∨c∈W) ρh sh ρ2 s2→
  ∃ρ3,R b ρ3 (m2++rest) s2∧Ext S ρ s ρ3 s2∧(∀{u:AV}{mu:BA},VR s2.heap ρ2 u mu→VR s2.heap ρ3 u mu)∧(∀c,c∉ρ2.all→c∉ρ3.all)
noncomputable def cB(b:Bs)(h:Nat)(t:Expr)(v:AV)(mem:AA AO)(items:AA AV)(Mm:AA AO→Prop)(m0 rest:AA AO):Prop:=
 ∀(A:XA) (s:CA) (ρ:Rho) (mv:BA) (Q:BA→CA→Prop) (E:BA→CA→Prop),Ht h A→R b ρ mem s→VR s.heap ρ v mv→
  (∀it W P ρh s',R b ρh m0 s'→ItR b h t it W items Mm P→P 0 ρh s'→(∀c∈W,c∈ρh.hid)→(∀c∈W,c∈ρ.all∨s.heap.get? c=none)→Back b ρ s ρh s' W m0 rest→
   (∀c,c∉ρ.all→(∃o,s.heap.get? c=some o)→c∉ρh.all)→(∀{u:AV}{mu:BA},VR s.heap ρ u mu→(rest=[]∨u.under m0.length=true)→VR s'.heap ρh u mu)→(∀c o,s.heap.get? c=some o→s'.heap.get? c=some o)→Q (.ref it) s')→
  FA b.M A (pyIter mv) Q E s
section
variable {b:Bs}{h:Nat}{mem m2:AA AO}{c:NB}
theorem VR.hide{hp:PB}{ρ:Rho}{W:AA EA}(hW:∀c∈W,Free hp ρ c){u:AV}{mu:BA}(q:VR hp ρ u mu):VR hp (ρ.hide W) u mu:=
 q.move (ρ:=ρ) (ρ':=ρ.hide W) (fun x9=>False) (fun x9 x9 e x9=>e) (fun x9 h=>h.elim) (fun x9 x9 e=>e) fun a ha=>by
  rcases mam ha with h|h
  ·exact .inl (Rho.mem_rows h)
  ·rcases mam h with h|h
   ·exact hW a h
   ·exact .inl (Rho.mem_hid h)
theorem VRs.hide{hp:PB}{ρ:Rho}{W:AA EA}(hW:∀c∈W,Free hp ρ c){u:AA AV}{mu:AA BA}(q:VRs hp ρ u mu):VRs hp (ρ.hide W) u mu:=
 q.move (ρ:=ρ) (ρ':=ρ.hide W) (fun x9=>False) (fun x9 x9 e x9=>e) (fun x9 h=>h.elim) (fun x9 x9 e=>e) fun a ha=>by
  rcases mam ha with h|h
  ·exact .inl (Rho.mem_rows h)
  ·rcases mam h with h|h
   ·exact hW a h
   ·exact .inl (Rho.mem_hid h)
theorem VR.show'{hp:PB}{ρ ρ':Rho}(hr:ρ'.rows=ρ.rows)(hh:∀c∈ρ'.hid,c∈ρ.hid){u:AV}{mu:BA}(q:VR hp ρ u mu):VR hp ρ' u mu:=
 q.move (ρ:=ρ) (ρ':=ρ') (fun x9=>False) (fun x9 x9 e x9=>e) (fun x9 h=>h.elim) (fun x9 x9 e=>by rw[hr];exact e) fun a ha=>by
  rcases mam ha with h|h
  ·exact .inl (Rho.mem_rows (hr▸h))
  ·exact .inl (Rho.mem_hid (hh a h))
theorem VRs.show'{hp:PB}{ρ ρ':Rho}(hr:ρ'.rows=ρ.rows)(hh:∀c∈ρ'.hid,c∈ρ.hid){u:AA AV}{mu:AA BA}(q:VRs hp ρ u mu):VRs hp ρ' u mu:=
 q.move (ρ:=ρ) (ρ':=ρ') (fun x9=>False) (fun x9 x9 e x9=>e) (fun x9 h=>h.elim) (fun x9 x9 e=>by rw[hr];exact e) fun a ha=>by
  rcases mam ha with h|h
  ·exact .inl (Rho.mem_rows (hr▸h))
  ·exact .inl (Rho.mem_hid (hh a h))
theorem R.hide{ρ:Rho}{s:CA}(r:R b ρ mem s){W:AA EA}(hW:∀c∈W,Free s.heap ρ c)(h1:∀c∈W,c∉ρ.all)(h2:∀c∈W,b.s₁.heap.get? c=none)(h3:∀c∈W,∃o,s.heap.get? c=some o)(nd:W.Nodup):R b (ρ.hide W) mem s:=by
 refine ⟨r.old,r.lim,r.bare,r.os,r.tab,ORs.move (VR.hide hW) (VRs.hide hW) (fun a x9 o e=>e) r.ors,?_,fun a ha=>?_,fun a ha=>?_⟩
 ·have n:=r.nd
  unfold Rho.all at n
  refine o03 (JA.mp n) fun n1 n2 n3=>?_
  show (ρ.rows.flatten++(W++ρ.hid)).Nodup
  refine JA.mpr ⟨n1,JA.mpr ⟨nd,n2,fun a ha c hc e=>h1 a ha (e▸Rho.mem_hid hc)⟩,fun a ha c hc e=>?_⟩
  rcases mam hc with hc|hc
  ·exact h1 c hc (e▸Rho.mem_rows ha)
  ·exact n3 a ha c hc e
 ·rcases mam ha with q|q
  ·exact r.new a (Rho.mem_rows q)
  ·rcases mam q with q|q
   ·exact h2 a q
   ·exact r.new a (Rho.mem_hid q)
 ·rcases mam ha with q|q
  ·exact h3 a q
  ·exact r.hid a q
theorem R.unhide{ρ:Rho}{W:AA EA}{H:AA EA}{s:CA}(r:R b ρ mem s)(e:ρ.hid=W++H):R b ⟨ρ.rows,H⟩ mem s:=by
 have hh:∀c∈H,c∈ρ.hid:=fun c hc=>by rw[e];exact WA.mpr (.inr hc)
 have n:=r.nd
 unfold Rho.all at n
 refine o03 (JA.mp n) fun n1 n2 n3=>?_
 refine ⟨r.old,r.lim,r.bare,r.os,r.tab,ORs.move (ρ:=ρ) (ρ':=⟨ρ.rows,H⟩) (VR.show' (ρ:=ρ) (ρ':=⟨ρ.rows,H⟩) rfl hh) (VRs.show' (ρ:=ρ) (ρ':=⟨ρ.rows,H⟩) rfl hh) (fun a x9 o e=>e) r.ors,?_,fun a ha=>?_,fun a ha=>r.hid a (hh a ha)⟩
 ·rw[e] at n2
  exact JA.mpr ⟨n1,(JA.mp n2).2.1,fun a ha c hc=>n3 a ha c (hh c hc)⟩
 ·rcases mam ha with q|q
  ·exact r.new a (Rho.mem_rows q)
  ·exact r.new a (Rho.mem_hid (hh a q))
theorem aBb{ρ:Rho}{s s':CA}{W:AA EA}{m0:AA AO}(hk:∀c o,s.heap.get? c=some o→s'.heap.get? c=some o)(hW:∀c∈W,s.heap.get? c=none):Back b ρ s (ρ.hide W) s' W m0 []:=by
 intro S ρ2 s2 m2 hS r2 hl x
 have eh:ρ2.hid=W++ρ.hid:=x.hid
 refine ⟨⟨ρ2.rows,ρ.hid⟩,by rw[ZB];exact r2.unhide eh,⟨fun c o e n hc kq=>x.keep c o (hk c o e) (fun q=>q.elim n fun q=>by rw[hW c q] at e;cases e) hc kq,x.pre,fun a ha=>?_,rfl,fun c o e=>x.live c o (hk c o e)⟩,
  fun q=>q.show' (ρ:=ρ2) (ρ':=⟨ρ2.rows,ρ.hid⟩) rfl fun c hc=>by rw[eh];exact WA.mpr (.inr hc),fun c hc q=>hc ?_⟩
 ·rcases x.new a ha with z|z
  ·exact .inl z
  ·right
   cases e:s.heap.get? a with
   | none=>rfl
   | some o=>have:=hk a o e;rw[z] at this;cases this
 ·rcases mam q with q|q
  ·exact Rho.mem_rows q
  ·exact Rho.mem_hid (by rw[eh];exact WA.mpr (.inr q))
variable {k:Nat}{F:EA→Env}{loc loc' loc'':AA (Str×AV)}{m0 m1 rest:AA AO}{v:AV}{e1 e2 t:Expr}{pos:Pos}{out:AOut}{items:AA AV}{Mm:AA AO→Prop}
theorem Fm.weak{L:EA}{cs:AA (Str×EA)}{ρ:Rho}{s:CA}(f:Fm b L cs ρ loc s)(hw:∀x v,loc'.lookup x=some v→loc.lookup x=some v):Fm b L cs ρ loc' s:=
 ⟨f.ns.imp fun m q=>⟨q.1,fun x v e=>q.2 x v (hw x v e)⟩,f.off,f.cel,f.apart⟩
theorem aI.weak{l:AA VD}(x:aI b h F l loc mem out loc' m1)(hw:∀x v,loc''.lookup x=some v→loc'.lookup x=some v):aI b h F l loc mem out loc'' m1:=fun A s ρ L Q E hA r fm q=>
 x A s ρ L Q E hA r fm fun ρ' s' fl r' f' x' o=>q ρ' s' fl r' (f'.weak hw) x' o
theorem Fm.hide{L:EA}{cs:AA (Str×EA)}{ρ ρ':Rho}{s s':CA}(f:Fm b L cs ρ loc s)(k:∀c o,s.heap.get? c=some o→s'.heap.get? c=some o)(hv:∀{u:AV}{mu:BA},VR s.heap ρ u mu→(∃x,loc.lookup x=some u)→VR s'.heap ρ' u mu)
  (hn:∀c,c∉ρ.all→(∃o,s.heap.get? c=some o)→c∉ρ'.all):Fm b L cs ρ' loc s':=by
 refine o12 f.ns fun m hns hm=>?_
 refine ⟨⟨m,hns.keeps k,fun y w hy=>?_⟩,fun c hc=>⟨hn c (f.off c hc).1 ?_,(f.off c hc).2⟩,fun p hp=>?_,f.apart⟩
 ·have z:=hm y w hy
  unfold bO at z ⊢
  split at z
  ·refine o12 z fun mv a d=>?_;clear z;exact ⟨mv,a,hv d ⟨y,hy⟩⟩
  ·refine o12 z fun mv a d=>?_;clear z;exact ⟨mv,a.keeps k,hv d ⟨y,hy⟩⟩
 ·rcases hc with rfl|⟨p,hp,rfl⟩
  ·refine o32 hns fun o es ep e x9=>?_;clear hns;exact ⟨o,e⟩
  ·refine o22 (f.cel p hp) fun v oc e x9=>?_;exact ⟨oc,e⟩
 ·refine o11 (f.cel p hp) fun v q=>?_;exact ⟨v,q.keeps k⟩
inductive bQ(b:Bs)(h:Nat)(F:EA→Env)(t:Expr)(body:AA VD)(Mm:AA AO→Prop)(n:Nat):AA AV→AA (Str×AV)→AA AO→AOut→AA (Str×AV)→AA AO→Prop
 | nil {loc:AA (Str×AV)}{mem:AA AO}(hm:Mm mem) (hn:mem.length=n):bQ b h F t body Mm n [] loc mem .next loc mem
 | next {v:AV}{vs:AA AV}{loc loc1 loc2 loc':AA (Str×AV)}{mem m1 m2 m':AA AO}{out:AOut}(hm:Mm mem) (hn:mem.length=n) (ha:cR b h F t v loc mem loc1 m1) (hb:aI b h F body loc1 m1 .next loc2 m2) (hr:bQ b h F t body Mm n vs loc2 m2 out loc' m'):
   bQ b h F t body Mm n (v :: vs) loc mem out loc' m'
 | cont {v:AV}{vs:AA AV}{loc loc1 loc2 loc':AA (Str×AV)}{mem m1 m2 m':AA AO}{out:AOut}(hm:Mm mem) (hn:mem.length=n) (ha:cR b h F t v loc mem loc1 m1) (hb:aI b h F body loc1 m1 .cont loc2 m2) (hr:bQ b h F t body Mm n vs loc2 m2 out loc' m'):
   bQ b h F t body Mm n (v :: vs) loc mem out loc' m'
 | brk {v:AV}{vs:AA AV}{loc loc1 loc2:AA (Str×AV)}{mem m1 m2:AA AO}(hm:Mm mem) (hn:mem.length=n) (ha:cR b h F t v loc mem loc1 m1) (hb:aI b h F body loc1 m1 .brk loc2 m2) (h2:m2.length=n):
   bQ b h F t body Mm n (v :: vs) loc mem .brk loc2 m2
 | ret {v w:AV}{vs:AA AV}{loc loc1 loc2:AA (Str×AV)}{mem m1 m2:AA AO}(hm:Mm mem) (hn:mem.length=n) (ha:cR b h F t v loc mem loc1 m1) (hb:aI b h F body loc1 m1 (.ret w) loc2 m2) (h2:m2.length=n):
   bQ b h F t body Mm n (v :: vs) loc mem (.ret w) loc2 m2
theorem Keep.ext{W:AA EA}{ρ:Rho}{s s':CA}(q:Keep W s s')(S:EA→Prop):Ext (fun c=>S c∨c∈W) ρ s ρ s':=
 ⟨fun c o e n x9 x9=>q.keep c o e fun h=>n (.inr h),fun x9 x9 e=>e,fun x9 h=>.inl h,rfl,q.live⟩
theorem Fm.keepW{L:EA}{cs:AA (Str×EA)}{ρ:Rho}{s s':CA}{W:AA EA}(f:Fm b L cs ρ loc s)(q:Keep W s s')(hW:∀c∈W,c∈ρ.hid)(hv:∀{u:AV}{mu:BA},VR s.heap ρ u mu→VR s'.heap ρ u mu):Fm b L cs ρ loc s':=by
 have kp:∀c o,bJ L cs c→s.heap.get? c=some o→s'.heap.get? c=some o:=fun c o hc e=>q.keep c o e fun h=>(f.off c hc).1 (Rho.mem_hid (hW c h))
 refine o12 f.ns fun m x4 hm=>?_;refine o32 x4 fun o es ep e z=>?_;clear x4
 refine ⟨⟨m,⟨o,es,ep,kp L o (.inl rfl) e,z⟩,fun y w hy=>?_⟩,f.off,fun p hp=>?_,f.apart⟩
 ·have z:=hm y w hy
  unfold bO at z ⊢
  split at z
  ·refine o12 z fun mv a d=>?_;clear z;exact ⟨mv,a,hv d⟩
  ·rename_i c hc
   refine o12 z fun mv x4 d=>?_;clear z;refine o12 x4 fun oc e1 e2=>?_;clear x4
   exact ⟨mv,⟨oc,kp c oc (.inr ⟨_,mem_of_lookup hc,rfl⟩) e1,e2⟩,hv d⟩
 ·refine o22 (f.cel p hp) fun v oc e1 e2=>?_
  exact ⟨v,oc,kp _ oc (.inr ⟨p,hp,rfl⟩) e1,e2⟩
theorem FlR.map{hp:PB}{ρ ρ':Rho}{o:AOut}{fl:Flow}(q:FlR hp ρ o fl)(hv:∀{u:AV}{mu:BA},VR hp ρ u mu→VR hp ρ' u mu):FlR hp ρ' o fl:=by
 cases q with
 | ret e=>exact .ret (hv e)
 | _=>constructor
noncomputable def flOf:AOut→AOut
 | .brk=>.next
 | o=>o
theorem dZ{α:Type}{M:WH}{A:XA}{c:Prop}[Decidable c]{x y:Sem α}{Q:α→CA→Prop}{E:BA→CA→Prop}{s:CA}(hc:¬ c)(h:FA M A y Q E s):FA M A (if c then x else y) Q E s:=by rw[AB hc];exact h
theorem aEh{α:Type}{M:WH}{A:XA}{c:Prop}[Decidable c]{x y:Sem α}{Q:α→CA→Prop}{E:BA→CA→Prop}{s:CA}(hc:c)(h:FA M A x Q E s):FA M A (if c then x else y) Q E s:=by rw[OB hc];exact h
theorem bQ.nil_inv{body:AA VD}{n:Nat}{lk lo:AA (Str×AV)}{mk mo:AA AO}(q:bQ b h F t body Mm n [] lk mk out lo mo):Mm mk∧out=.next∧lo=lk∧mo=mk:=by
 cases q with|nil hm hn=>exact ⟨hm,rfl,rfl,rfl⟩
inductive LTurn(b:Bs)(h:Nat)(F:EA→Env)(t:Expr)(body:AA VD)(Mm:AA AO→Prop)(n:Nat)(v:AV)(vs:AA AV)(lk:AA (Str×AV))(mk:AA AO)(out:AOut)(lo:AA (Str×AV))(mo:AA AO):Prop
 | go (loc1:AA (Str×AV)) (m1:AA AO) (o:AOut) (loc2:AA (Str×AV)) (m2:AA AO) (eo:o=.next∨o=.cont) (ha:cR b h F t v lk mk loc1 m1) (hb:aI b h F body loc1 m1 o loc2 m2) (hr:bQ b h F t body Mm n vs loc2 m2 out lo mo)
 | off (loc1:AA (Str×AV)) (m1:AA AO) (eo:out=.brk∨∃u,out=.ret u) (ha:cR b h F t v lk mk loc1 m1) (hb:aI b h F body loc1 m1 out lo mo)
theorem bQ.cons_inv{body:AA VD}{n:Nat}{vs:AA AV}{lk lo:AA (Str×AV)}{mk mo:AA AO}(q:bQ b h F t body Mm n (v :: vs) lk mk out lo mo):Mm mk∧LTurn b h F t body Mm n v vs lk mk out lo mo:=by
 cases q with
 | next hm _ ha hb hr=>exact ⟨hm,.go _ _ _ _ _ (.inl rfl) ha hb hr⟩
 | cont hm _ ha hb hr=>exact ⟨hm,.go _ _ _ _ _ (.inr rfl) ha hb hr⟩
 | brk hm _ ha hb _=>exact ⟨hm,.off _ _ (.inl rfl) ha hb⟩
 | ret hm _ ha hb _=>exact ⟨hm,.off _ _ (.inr ⟨_,rfl⟩) ha hb⟩
inductive FInv(b:Bs)(h:Nat)(F:EA→Env)(t:Expr)(body:AA VD)(Mm:AA AO→Prop)(n:Nat)(items:AA AV)(out:AOut)(lo:AA (Str×AV))(mo:AA AO)(L:EA)(W:AA EA)(P:Nat→Rho→CA→Prop)(ρh:Rho)(sh:CA)(j:Nat)(s:CA):Prop
 | mk (k:Nat) (ρ:Rho) (lk:AA (Str×AV)) (m1:AA AO) (hkj:k+j=items.length) (hrun:bQ b h F t body Mm n (items.drop k) lk m1 out lo mo) (r:R b ρ m1 s) (fm:Fm b L (F L).cells ρ lk s) (hP:P k ρ s) (hW:∀c∈W,c∈ρ.hid) (x0:Ext (fun c=>bJ L (F L).cells c∨c∈W) ρh sh ρ s)
theorem FlR.off{hp:PB}{ρ:Rho}{o:AOut}{fl:Flow}(q:FlR hp ρ o fl)(eo:o=.brk∨∃u,o=.ret u):o≠.next∧((fl=.brk∧FlR hp ρ (flOf o) .next)∨∃v,fl=.ret v∧FlR hp ρ (flOf o) (.ret v)):=by
 rcases eo with rfl|⟨u,rfl⟩
 ·cases q;exact ⟨by simp,.inl ⟨rfl,.next⟩⟩
 ·cases q with|ret e=>exact ⟨by simp,.inr ⟨_,rfl,.ret e⟩⟩
theorem FlR.on{hp:PB}{ρ:Rho}{o:AOut}{fl:Flow}(q:FlR hp ρ o fl)(eo:o=.next∨o=.cont):fl=.next∨fl=.cont:=by
 rcases eo with rfl|rfl <;> cases q
 ·exact .inl rfl
 ·exact .inr rfl
theorem aBc{body orelse:AA VD}{it:EA}{W:AA EA}{P:Nat→Rho→CA→Prop}(I:ItR b h t it W items Mm P){n:Nat}{A:XA}{L:EA}(hA:Ht h A){RR:Result→CA→Prop}{ρh:Rho}{sh:CA}{mo:AA AO}{a0 loce:AA (Str×AV)}{me:AA AO}{oute:AOut}
  (hq:out=.next→aI b h F orelse a0 mo oute loce me) (ho:out≠.cont)
  (Qn:∀ρ' s' fl,out=.next→R b ρ' me s'→Fm b L (F L).cells ρ' loce s'→Ext (fun c=>bJ L (F L).cells c∨c∈W) ρh sh ρ' s'→FlR s'.heap ρ' oute fl→RR (.ok fl) s')
  (Qb:∀ρ' s' fl,out≠.next→R b ρ' mo s'→Fm b L (F L).cells ρ' a0 s'→Ext (fun c=>bJ L (F L).cells c∨c∈W) ρh sh ρ' s'→FlR s'.heap ρ' (flOf out) fl→RR (.ok fl) s'):
  ∀(j:Nat) (s:CA),FInv b h F t body Mm n items out a0 mo L W P ρh sh j s→
   codeAny b.M A (.forLoop t (.ref it) body orelse (F L)) RR s:=by
 intro j s hI
 refine codeAny_forLoop_any (FInv b h F t body Mm n items out a0 mo L W P ρh sh) ?_ j hI
 rintro j s ⟨k,ρ,lk,mk,hkj,hrun,r,fm,hP,hW,x0⟩
 cases e:items.drop k with
 | nil=>
  rw[e] at hrun
  ·refine o04 hrun.nil_inv fun hm x4 x5 x6=>?_;subst x4;subst x5;subst x6
   have hk:items[k]?= none:=by
    rw[← List.head?_drop,e];rfl
   refine CB (I.fin (Q:=fun s1=>FA b.M A (execs orelse (F L)) (fun f s₃=>RR (.ok f) s₃) _ s1) hA r hm hP hW hk fun s1 r1 kp hv=>?_) (fun q s1 z=>by cases q with|none=>exact z|some _=>exact z.elim) fun x9 x9 z=>z
   refine hq rfl A s1 ρ L _ _ hA r1 (fm.keepW kp hW hv) fun ρ2 s2 fl r2 f2 x2 o2=>Qn ρ2 s2 fl rfl r2 f2 ((x0.trans (kp.ext _)).trans (x2.mono fun x9 q=>.inl q)) o2
 | cons v vs=>
  rw[e] at hrun
  have hk:items[k]?= some v:=by rw[← List.head?_drop,e];rfl
  have hd:items.drop (k+1)=vs:=by rw[← List.drop_drop,e];rfl
  have hlt:k < items.length:=by
   rcases Nat.lt_or_ge k items.length with q|q
   ·exact q
   ·rw[List.drop_eq_nil_of_le q] at e;cases e
  refine o02 hrun.cons_inv fun hmm turn0=>?_
  refine CB (I.item hA r hmm hP hW hk (Q:=fun mv s1=>FA b.M A (assign t (F L) mv) _ _ s1) fun s1 mv r1 hP1 h1 kp hv=>?_) (fun q s1 z=>by cases q with|none=>exact z.elim|some _=>exact z) fun x9 x9 z=>z
  have fm1:=fm.keepW kp hW hv
  have x1:=x0.trans (kp.ext _)
  have turn:∀{loc1 loc2:AA (Str×AV)}{m1 m2:AA AO}{o:AOut}{Q2:Flow→CA→Prop}{E1 E2:BA→CA→Prop},cR b h F t v lk mk loc1 m1→aI b h F body loc1 m1 o loc2 m2→
    (∀ρ3 s3 fl,R b ρ3 m2 s3→Fm b L (F L).cells ρ3 loc2 s3→Ext (bJ L (F L).cells) ρ s1 ρ3 s3→FlR s3.heap ρ3 o fl→Q2 fl s3)→FA b.M A (assign t (F L) mv) (fun x9 s₂=>FA b.M A (execs body (F L)) Q2 E2 s₂) E1 s1:=fun ha hb hz=>
   ha A s1 ρ L mv _ _ hA r1 fm1 h1 fun ρ2 s2 r2 f2 x2=>hb A s2 ρ2 L _ _ hA r2 f2 fun ρ3 s3 fl r3 f3 x3 o3=>hz ρ3 s3 fl r3 f3 (x2.trans x3) o3
  have st:∀{ρ3:Rho}{s3:CA},Ext (bJ L (F L).cells) ρ s1 ρ3 s3→P (k+1) ρ3 s3∧(∀c∈W,c∈ρ3.hid)∧Ext (fun c=>bJ L (F L).cells c∨c∈W) ρh sh ρ3 s3:=fun x3=>
   ⟨I.stable hP1 x3 fm1.free (fun c hc q=>(fm1.off c q).1 (Rho.mem_hid (hW c hc))) r1.nd hW,fun c hc=>by rw[x3.hid];exact hW c hc,x1.trans (x3.mono fun x9 q=>.inl q)⟩
  cases turn0 with
  | go _ _ o _ _ eo ha hb hr=>
   refine turn ha hb fun ρ3 s3 fl r3 f3 x3 o3=>?_
   refine o03 (st x3) fun a1 a2 a3=>?_
   have I':FInv b h F t body Mm n items out a0 mo L W P ρh sh (j - 1) s3:=.mk (k+1) ρ3 _ _ (by clear turn st;lia) (hd▸hr) r3 f3 a1 a2 a3
   have lt:j - 1 < j:=by clear turn st;lia
   rcases o3.on eo with rfl|rfl
   ·exact ⟨j - 1,lt,I'⟩
   ·exact ⟨j - 1,lt,I'⟩
  | off _ _ eo ha hb=>
   refine turn ha hb fun ρ3 s3 fl r3 f3 x3 o3=>?_
   refine o03 (st x3) fun a1 a2 a3=>?_
   refine o02 (o3.off eo) fun hne x4=>?_;obtain ⟨rfl,z⟩| ⟨u,rfl,z⟩:=x4
   ·exact Qb ρ3 s3 .next hne r3 f3 a3 z
   ·exact Qb ρ3 s3 _ hne r3 f3 a3 z
theorem Fm.back{L:EA}{cs:AA (Str×EA)}{ρ ρ':Rho}{s:CA}(f:Fm b L cs ρ loc s)(hv:∀{u:AV}{mu:BA},VR s.heap ρ u mu→VR s.heap ρ' u mu)(hn:∀c,c∉ρ.all→c∉ρ'.all):Fm b L cs ρ' loc s:=by
 refine o12 f.ns fun m hns hm=>?_
 refine ⟨⟨m,hns,fun y w hy=>?_⟩,fun c hc=>⟨hn c (f.off c hc).1,(f.off c hc).2⟩,f.cel,f.apart⟩
 have z:=hm y w hy
 unfold bO at z ⊢
 split at z
 ·refine o12 z fun mv a d=>?_;clear z;exact ⟨mv,a,hv d⟩
 ·refine o12 z fun mv a d=>?_;clear z;exact ⟨mv,a,hv d⟩
theorem bQ.len{body:AA VD}{n:Nat}{vs:AA AV}(q:bQ b h F t body Mm n vs loc mem out loc' m1):m1.length=n:=by
 induction q <;> assumption
theorem bQ.noCont{body:AA VD}{n:Nat}{vs:AA AV}(q:bQ b h F t body Mm n vs loc mem out loc' m1):out≠.cont:=by
 induction q <;> first|assumption|simp
theorem aCt{body orelse:AA VD}{loc1 a0 loce:AA (Str×AV)}{mo me:AA AO}{oute a1:AOut}(x:aE b h F e1 loc mem v m1)(hi:cB b h t v m1 items Mm m0 rest)
  (hw:∀x v,loc1.lookup x=some v→loc.lookup x=some v) (hb:rest=[]∨∀x v,loc1.lookup x=some v→v.under m0.length=true)
  (hr:bQ b h F t body Mm m0.length items loc1 m0 out a0 mo)
  (hq:out=.next→aI b h F orelse a0 mo oute loce me∧me.length=m0.length)
  (hf:(out=.next∧a1=oute∧loc'=loce∧m2=me)∨(out≠.next∧a1=flOf out∧loc'=a0∧m2=mo))
  (hs:DA (∀L x,JD e1 (F L) x=pure x) q13):aL b h F (.For t e1 body orelse pos) loc mem a1 loc' (m2++rest):=fun A s ρ L Q E hA r fm q=>by
 refine wpAny_For (x A s ρ L _ E hA r fm fun ρ1 s1 mv r1 x1 h1=>hi A s1 ρ1 mv _ E hA r1 h1 fun it W P ρh sh rh I hP hW hW2 back hall hv hk=>?_) (hs L)
 have fm1:Fm b L (F L).cells ρ1 loc1 s1:=(fm.ext x1).weak hw
 have fmh:Fm b L (F L).cells ρh loc1 sh:=fm1.hide hk (fun q ⟨y,hy⟩=>hv q (hb.imp id fun z=>z y _ hy)) hall
 have hS:∀c,bJ L (F L).cells c→c∉W:=fun c hc hw=>(fmh.off c hc).1 (Rho.mem_hid (hW c hw))
 refine aBc I hA (fun e=>(hq e).1) hr.noCont (fun ρ' s' fl e r' f' x' o'=>?_) (fun ρ' s' fl e r' f' x' o'=>?_) items.length sh ⟨0,ρh,loc1,m0,by lia,hr,rh,fmh,hP,hW,Ext.refl _ _ _⟩
 ·rcases hf with ⟨h1,rfl,rfl,rfl⟩| ⟨h1,_⟩
  ·refine o11 (back _ ρ' s' _ hS r' (hq h1).2 x') fun ρ3 x4=>?_;refine o04 x4 fun r3 x3 v3 n3=>?_;clear x4
   exact q ρ3 s' fl r3 (f'.back v3 n3) ((x1.mono fun x9 h=>h.elim).trans x3) (o'.map v3)
  ·exact absurd e h1
 ·rcases hf with ⟨h1,_⟩| ⟨h1,rfl,rfl,rfl⟩
  ·exact absurd h1 e
  ·refine o11 (back _ ρ' s' _ hS r' hr.len x') fun ρ3 x4=>?_;refine o04 x4 fun r3 x3 v3 n3=>?_;clear x4
   exact q ρ3 s' fl r3 (f'.back v3 n3) ((x1.mono fun x9 h=>h.elim).trans x3) (o'.map v3)
theorem Keep.vr{W:AA EA}{s s':CA}{ρ:Rho}(kp:Keep W s s')(hW:∀c∈W,c∈ρ.hid){u:AV}{mu:BA}(q:VR s.heap ρ u mu):VR s'.heap ρ u mu:=
 q.move (ρ:=ρ) (ρ':=ρ) (·∈W) (fun c o e n=>kp.keep c o e n) (fun c hc=>.inl (Rho.mem_hid (hW c hc))) (fun x9 x9 e=>e) fun a ha=>.inl ha
theorem Keep.vrs{W:AA EA}{s s':CA}{ρ:Rho}(kp:Keep W s s')(hW:∀c∈W,c∈ρ.hid){u:AA AV}{mu:AA BA}(q:VRs s.heap ρ u mu):VRs s'.heap ρ u mu:=
 q.move (ρ:=ρ) (ρ':=ρ) (·∈W) (fun c o e n=>kp.keep c o e n) (fun c hc=>.inl (Rho.mem_hid (hW c hc))) (fun x9 x9 e=>e) fun a ha=>.inl ha
theorem R.keepW{ρ:Rho}{s:CA}(B:aC b)(r:R b ρ mem s){W:AA EA}{h':PB}{tk:Nat}(kp:Keep W s { s with heap:=h',toks:=tk })(hW:∀c∈W,c∈ρ.hid):R b ρ mem { s with heap:=h',toks:=tk }:=by
 have nb:∀c o,b.s₁.heap.get? c=some o→c∉W:=fun c o e q=>by rw[r.new c (Rho.mem_hid (hW c q))] at e;cases e
 have nd:=r.nd
 unfold Rho.all at nd
 refine o03 (JA.mp nd) fun n1 n2 n3=>?_
 refine ⟨⟨⟨fun c o e=>?_,fun c o e=>?_⟩,fun o e=>kp.keep _ o (r.old.sta o e) (nb _ _ e)⟩,?_,r.bare,r.os,fun t ht=>?_,ORs.move (kp.vr hW) (kp.vrs hW) (fun a ha o e=>kp.keep a o e fun q=>n3 a ha a (hW a q) rfl) r.ors,r.nd,r.new,fun a ha=>?_⟩
 ·have nw:=nb c o e
  refine o11 (r.old.there c o e) fun o1 e1=>?_
  have hc:h'.get? c=s.heap.get? c:=by rw[e1];exact kp.keep c o1 e1 nw
  rcases r.old.old c o e with x|⟨t,hc1,vs,more,hv,x⟩| ⟨rfl,hc1,⟨o',es,n,ho',q⟩,z⟩
  ·exact .inl (by rw[hc];exact x)
  ·exact .inr (.inl ⟨t,hc1,vs,more,hv,by rw[hc];exact x⟩)
  ·exact .inr (.inr ⟨rfl,hc1,⟨o',es,n,by rw[hc];exact ho',q⟩,fun key=>by rw[OldK.staticOf_congr hc key];exact z key⟩)
 ·refine o11 (r.old.there c o e) fun o1 e1=>?_
  exact ⟨o1,kp.keep c o1 e1 (nb c o e)⟩
 ·refine o12 r.lim fun m q z=>?_
  refine o32 q fun oc es ep hc x=>?_;clear q
  refine o12 B.lim fun mb qb zb=>?_
  refine o32 qb fun ob esb epb hb xb=>?_;clear qb
  exact ⟨m,⟨oc,es,ep,kp.keep _ oc hc (nb _ _ hb),x⟩,z⟩
 ·refine o12 (r.tab t ht) fun m q qt=>?_
  refine o02 (B.tab t ht) fun x0 hb2=>?_;refine o22 x0 fun ob vsb hb1 x9=>?_;clear x0
  refine o02 q fun x0 h2=>?_;clear q;refine o22 x0 fun o1 vs1 h1 x1=>?_;clear x0
  exact ⟨m,⟨⟨o1,vs1,kp.keep _ _ h1 (nb _ _ hb1),x1⟩,kp.keep _ _ h2 (nb _ _ hb2)⟩,qt⟩
 ·refine o11 (r.hid a ha) fun o e=>?_
  exact kp.live a o e
noncomputable def eI(hp:PB)(ρ:Rho)(c:EA):Prop:=c∉ρ.all∧∃o its n,hp.get? c=some o∧o.data=.seq its n
theorem eI.notFree{hp:PB}{ρ:Rho}{c:EA}(q:eI hp ρ c):¬ Free hp ρ c:=by
 refine o02 q fun hc x0=>?_;clear q;refine o32 x0 fun o its n e d=>?_;clear x0
 rintro (x|x|⟨o',x,y⟩)
 ·exact hc x
 ·rw[e] at x;cases x
 ·rw[e] at x;replace x:=si x;subst x;exact y _ _ d
theorem eI.of_lst{hp:PB}{ρ:Rho}{c:EA}{l:AA AV}(q:VR hp ρ (.lst l) (.ref c)):eI hp ρ c:=by
 cases q with|lst e ha hl=>exact ⟨ha,_,_,_,e,rfl⟩
theorem eI.of_tup{hp:PB}{ρ:Rho}{c:EA}{l:AA AV}(q:VR hp ρ (.tup l) (.ref c)):eI hp ρ c:=by
 cases q with|tup e ha hl=>exact ⟨ha,_,_,_,e,rfl⟩
theorem mD{ρ:Rho}(nd:ρ.all.Nodup){c:EA}(h:c∈ρ.hid):c∉ρ.rows.flatten:=fun q=>(JA.mp nd).2.2 c q c h rfl
structure Drv(b:Bs)(t:Expr)(it:EA)(W:AA EA)(items:AA AV)(V:Nat→PB→Prop)(G:PB→Rho→Prop)(fr:AA EA):Prop where
 self:∀{A:XA}{s:CA}{k:Nat}{Q:BA→CA→Prop}{E:BA→CA→Prop},V k s.heap→Q (.ref it) s→FA b.M A (pyIter (.ref it)) Q E s
 cells:∀{k:Nat}{hp hp':PB},V k hp→(∀c,c∈W∨c∈fr→∀o,hp.get? c=some o→hp'.get? c=some o)→V k hp'
 kq:∀{k:Nat}{hp:PB},V k hp→∀c∈W,∀o,hp.get? c=some o→Kp o
 item:∀{A:XA}{s:CA}{ρ:Rho}{k:Nat}{v:AV}{Q:BA→CA→Prop}{E:BA→CA→Prop},A.handled=none→V k s.heap→G s.heap ρ→(∀c∈W,c∈ρ.hid)→(∀c∈ρ.all,c < s.heap.objs.size)→items[k]?= some v→
  (∀h' tk mv,V (k+1) h'→Keep W s { s with heap:=h',toks:=tk }→(G h' ρ→VR h' ρ v mv)→Q mv { s with heap:=h',toks:=tk })→
  FA b.M A (pyNext (.ref it)) (fun r s1=>match r with|none=>False|some mv=>FA b.M A (letOwnedTupleGo t (.ref it) mv) (fun x9 s2=>Q mv s2) E s1) E s
 fin:∀{A:XA}{s:CA}{k:Nat}{Q:CA→Prop}{E:BA→CA→Prop},A.handled=none→V k s.heap→items[k]?= none→
  (∀h' tk,Keep W s { s with heap:=h',toks:=tk }→Q { s with heap:=h',toks:=tk })→
  FA b.M A (pyNext (.ref it)) (fun r s1=>match r with|none=>Q s1|some _=>False) E s
theorem Drv.itr(B:aC b){it:EA}{W fr:AA EA}{V:Nat→PB→Prop}{G:PB→Rho→Prop}(D:Drv b t it W items V G fr)
  (hG:∀{hp hp':PB}{ρ ρ':Rho},(∀{u:AV}{mu:BA},VR hp ρ u mu→VR hp' ρ' u mu)→(∀{u:AA AV}{mu:AA BA},VRs hp ρ u mu→VRs hp' ρ' u mu)→G hp ρ→G hp' ρ'):
  ItR b h t it W items Mm (fun k ρ s=>V k s.heap∧G s.heap ρ∧∀c∈fr,eI s.heap ρ c) where
 self:=fun p q=>D.self p.1 q
 stable:=fun {k ρ ρ' s s' S} p x hS nS nd hW=>by
  refine o03 p fun p1 p2 p3=>?_;clear p
  have kfr:∀c∈fr,∀o,s.heap.get? c=some o→s'.heap.get? c=some o:=fun c hc o e=>x.keep c o e (fun q=>(p3 c hc).notFree (hS c q)) (fun q=>(p3 c hc).1 (Rho.mem_rows q)) (by
   refine o02 (p3 c hc) fun x9 x0=>?_;refine o32 x0 fun o' its n e' d=>?_;clear x0
   rw[e] at e';replace e':=si e';subst e';exact fun x9 vs z=>by rw[d] at z;cases z)
  refine ⟨D.cells p1 fun c hc o e=>?_,hG (x.vr hS) (x.vrs hS) p2,fun c hc=>?_⟩
  ·rcases hc with hc|hc
   ·exact x.keep c o e (nS c hc) (mD nd (hW c hc)) (D.kq p1 c hc o e)
   ·exact kfr c hc o e
  ·refine o02 (p3 c hc) fun h1 x0=>?_;refine o32 x0 fun o its n e d=>?_;clear x0
   refine ⟨fun q=>?_,o,its,n,kfr c hc o e,d⟩
   rcases x.all c q with q|q
   ·exact h1 q
   ·rw[e] at q;cases q
 more:=fun {k ρ s s' H} p kp hH=>by
  refine o03 p fun p1 p2 p3=>?_;clear p
  have fr:∀a∈(ρ.hide H).all,Free s.heap ρ a:=fun a ha=>by
   rcases mam ha with q|q
   ·exact .inl (Rho.mem_rows q)
   ·rcases mam q with q|q
    ·exact .inr (.inl (hH a q))
    ·exact .inl (Rho.mem_hid q)
  refine ⟨D.cells p1 fun c x9 o e=>kp c o e,hG (fun q=>q.move (ρ:=ρ) (ρ':=ρ.hide H) (fun x9=>False) (fun c o e x9=>kp c o e) (fun x9 q=>q.elim) (fun x9 x9 e=>e) fr) (fun q=>q.move (ρ:=ρ) (ρ':=ρ.hide H) (fun x9=>False) (fun c o e x9=>kp c o e) (fun x9 q=>q.elim) (fun x9 x9 e=>e) fr) p2,fun c hc=>?_⟩
  refine o02 (p3 c hc) fun h1 x0=>?_;refine o32 x0 fun o its n e d=>?_;clear x0
  refine ⟨fun q=>?_,o,its,n,kp c o e,d⟩
  rcases mam q with q|q
  ·exact h1 (Rho.mem_rows q)
  ·rcases mam q with q|q
   ·rw[hH c q] at e;cases e
   ·exact h1 (Rho.mem_hid q)
 item:=fun {A s ρ mem k v Q E} hA r hm p hW hk hQ=>by
  refine o03 p fun p1 p2 p3=>?_;clear p
  refine D.item hA.2.2 p1 p2 hW (fun c hc=>r.lt hc) hk fun h' tk mv q1 kp q2=>?_
  have g:G h' ρ:=hG (ρ':=ρ) (hp':=h') (fun z=>kp.vr hW z) (fun z=>kp.vrs hW z) p2
  refine hQ _ mv (r.keepW B kp hW) ⟨q1,g,fun c hc=>?_⟩ (q2 g) kp fun z=>kp.vr hW z
  refine o02 (p3 c hc) fun z1 x0=>?_;refine o32 x0 fun o its n e d=>?_;clear x0
  exact ⟨z1,o,its,n,kp.keep c o e fun q=>z1 (Rho.mem_hid (hW c q)),d⟩
 fin:=fun {A s ρ mem k Q E} hA r hm p hW hk hQ=>by
  exact D.fin hA.2.2 p.1 hk fun h' tk kp=>hQ _ (r.keepW B kp hW) kp fun z=>kp.vr hW z
theorem fE{α:Type}{M:WH}{A:XA}{s:CA}{Q:α→CA→Prop}{E:BA→CA→Prop}(hh:A.handled=none)
  (q:∀o1 o2:Obj,o2.cls=.type "StopIteration" →o2.isFreed=false→E (.ref (s.heap.push o1).objs.size) { s with heap:=(s.heap.push o1).push o2 }):FA M A (newExc (.type "StopIteration") []>>=fun e=>raiseNew e) Q E s:=by
 refine wb ?_
 simp only[newExc,newTuple]
 refine wb (RF ?_ (by size_fits))
 refine wb (m:=firstArgMember _ _) (IC (a:=Value.none) (by first|rfl|(simp only[firstArgMember];rfl)) ?_)
 refine RF ?_ (by size_fits)
 simp only[raiseNew]
 refine wb (wpAny_handled ?_)
 rw[hh]
 exact wb (wp (wpAny_throw (q _ _ rfl rfl)))
variable {e3:Expr}
theorem jA{M:WH}{A:XA}{s:CA}{Q:Unit→CA→Prop}{E:BA→CA→Prop}{it:EA}{o:Obj}{n:String}{mv:BA}(e:s.heap.get? it=some o)(hc:o.cls=.type n)
  (hn:["enumerate","zip","dict_itemiterator","dict_reverseitemiterator","odict_iterator","itertools.zip_longest","itertools.pairwise"].contains n=false) (q:Q () s):FA M A (letOwnedTupleGo t (.ref it) mv) Q E s:=by
 have w:FA M A (pure ()) Q E s:=wp q
 have k:∀p,FA M A (letOwnedTupleGo (.Tuple [] 0 p) (.ref it) mv) Q E s:=by
  intro p
  cases mv
  case ref a=>
   refine wb (PH e ?_)
   obtain ⟨c,_,d,_⟩:=o
   obtain rfl:c=_:=hc
   cases d
   case fields vs=>exact dZ (by rw[hn,Bool.false_and];decide) w
   all_goals exact w
  all_goals exact w
 cases t
 case Tuple=>exact k default
 case List=>exact k default
 all_goals exact w
theorem Keep.upd{it:EA}{W:AA EA}{s:CA}{h':PB}{tk:Nat}(x:ZD it s.heap h')(hi:it∈W)(hl:∃o,h'.get? it=some o):Keep W s { s with heap:=h',toks:=tk }:=
 ⟨fun c o e n=>x.extBut c o (fun q=>n (q▸hi)) e,fun c o e=>by
  by_cases q:c=it
  ·subst q;exact hl
  ·exact ⟨o,x.extBut c o q e⟩⟩
theorem Keep.push{W:AA EA}{s:CA}{h':PB}{tk:Nat}(x:Keep W s { s with heap:=h',toks:=tk })(o:Obj):Keep W s { s with heap:=h'.push o,toks:=tk }:=
 ⟨fun c o' e n=>gps o (x.keep c o' e n),fun c o' e=>let ⟨o2,e2⟩:=x.live c o' e;⟨o2,gps o e2⟩⟩
theorem zA{A:XA}{s:CA}{it l:EA}{i:Nat}{its:RA BA}{α:Fin→CA→Prop}{E:BA→CA→Prop}(hh:A.handled=none)(hit:s.heap.IsListIter it l i)(hl:s.heap.IsList l its)(hx:its[i]?= none)
  (q:∀h' e,Keep [it] s { s with heap:=h' }→(∃o,h'.get? e=some o∧o.cls=.type "StopIteration")→E (.ref e) { s with heap:=h' }):FA b.M A (Builtin.«list_iterator.__next__» ⟨[.ref it],[]⟩) α E s:=by
 refine o13 (id hit) fun o ho hc hd=>?_
 refine o13 hl fun ol hol x9 x0=>?_;clear hl;refine o11 x0 fun nl hdl=>?_;clear x0
 show FA _ _ (field (.ref it) 0>>=_) _ _ s
 refine wb (AC ho hd (x:=.ref l) rfl ?_)
 show FA _ _ (if (Value.ref l == Value.none)=true then _ else _) _ _ s
 rw[AB (show ¬ ((Value.ref l == Value.none)=true) from KE)]
 show FA _ _ (field (.ref it) 1>>=_) _ _ s
 refine wb (AC ho hd (x:=.int i 0) rfl ?_)
 show FA _ _ (seqItems? (.ref l)>>=_) _ _ s
 refine wb (VC hol hdl ?_)
 simp only[VG,hx]
 refine wb (ZE (wb (wpAny_setField ho hd (by simp) (fE hh fun o1 o2 c2 f2=>?_))))
 refine q _ _ (((Keep.upd (tk:=s.toks) (QB ..) (by simp) ?_).push o1).push o2) ⟨_,gpz _ f2,c2⟩
 exact ⟨_,XD _ ho (Obj.isFreed_of_fields (Obj.data_mapFields hd _))⟩
theorem iS{A:XA}{s:CA}{it:EA}{T id:String}{f:Builtin}{Q:YA BA→CA→Prop}{E:BA→CA→Prop}(hT:s.TypeIs (.ref it) T)(sl:Slot T "__next__" id)(en:EG table id=some f)(ar:argsOk id ⟨[.ref it],[]⟩)
  {P:CA→Prop}(x:∀A':XA,A'.handled=A.handled→∀E',(∀e s',(∃o,s'.heap.get? e=some o∧o.cls=.type "StopIteration")→P s'→E' (.ref e) s')→FA b.M A' (f ⟨[.ref it],[]⟩) (fun x9 x9=>False) E' s)
  (q:∀s',P s'→Q none s'):FA b.M A (pyNext (.ref it)) Q E s:=by
 unfold pyNext
 refine wb (NE (PD (name:=LD "__next__") hT sl (OD sl hT en ?_ ar)))
 refine CB (Q:=fun x9 x9=>False) (x A.in1 rfl _ fun e s' he p=>?_) (fun x9 x9 z=>z.elim) fun x9 x9 z=>z
 refine o12 he fun o ho hc=>?_;clear he
 exact wb (JG (T:="StopIteration") (b:=true) ⟨o,ho,hc⟩ isSubtype_stop (wp (q _ p)))
theorem cC{hp:PB}{ρ:Rho}{its:RA BA}(q:VRs hp ρ items its.toList){k:Nat}{v:AV}(e:items[k]?= some v):∃mv,its[k]?= some mv∧VR hp ρ v mv:=by
 refine o12 (q.get k v e) fun mv a d=>?_
 exact ⟨mv,by rwa [TC] at a,d⟩
theorem Heap.IsListIter.cell{hp hp':PB}{it l:EA}{i:Nat}(x:hp.IsListIter it l i)(q:∀o,hp.get? it=some o→hp'.get? it=some o):hp'.IsListIter it l i:=let ⟨o,ho,r⟩:=x;⟨o,q _ ho,r⟩
theorem Heap.IsList.cell{hp hp':PB}{l:EA}{its:RA BA}(x:hp.IsList l its)(q:∀o,hp.get? l=some o→hp'.get? l=some o):hp'.IsList l its:=let ⟨o,ho,r⟩:=x;⟨o,q _ ho,r⟩
theorem kq1{hp:PB}{it c:EA}{o' o:Obj}{n:String}(e':hp.get? it=some o')(hc:o'.cls=.type n)(h:c∈[it])(e:hp.get? c=some o):Kp o:=by
 rw[HA] at h;subst h
 rw[e] at e';replace e':=si e';subst e';exact .cls hc
theorem aBd{it ax:EA}{its:RA BA}(hz:its.size=items.length)(hne:ax≠it):Drv b t it [it] items (fun k hp=>hp.IsListIter it ax k∧hp.IsList ax its) (fun hp ρ=>VRs hp ρ items its.toList) [ax] where
 self:=fun p q=>wpAny_pyIter_listiter p.1 q
 kq:=fun p c hc o e=>by refine o02 p fun x0 x9=>?_;clear p;refine o13 x0 fun o' e' hcl x9=>?_;clear x0;exact kq1 e' hcl hc e
 cells:=fun p q=>⟨Heap.IsListIter.cell p.1 (q _ (.inl (by simp))),Heap.IsList.cell p.2 (q _ (.inr (by simp)))⟩
 item:=fun {A s ρ k v Q E} hh p g hW hlt hk q=>by
  refine o12 (cC g hk) fun mv e1 e2=>?_
  refine wpAny_pyNext_list_item p.1 p.2 e1 fun h' hi hs=>?_
  refine o13 (id hi) fun o ho hc hd=>?_
  refine jA (s:={ s with heap:=h' }) ho hc (by decide) (q h' s.toks mv ⟨hi,p.2.extBut hs.extBut hne⟩ (Keep.upd hs (by simp) ⟨o,ho⟩) fun g'=>?_)
  refine o12 (cC g' hk) fun mv' e3 e4=>?_
  rw[e1] at e3;replace e3:=si e3;subst e3;exact e4
 fin:=fun {A s k Q E} hh p hk q=>by
  have hx:its[k]?= none:=Array.getElem?_eq_none (by rw[hz];exact List.getElem?_eq_none_iff.mp hk)
  refine iS (P:=Q) p.1.typeIs LF entry_listiter_next (args_listiter_next _) (fun A' hA' E' z=>zA (hA'.trans hh) p.1 p.2 hx fun h' e kp he=>z _ _ he (q h' s.toks kp)) fun x9 z=>z
theorem aCM{s:CA}{ρ:Rho}(r:R b ρ mem s)(o:Obj)(hd:∀its n,o.data≠.seq its n)(hf:o.isFreed=false):
  R b (ρ.hide [s.heap.objs.size]) mem { s with heap:=s.heap.push o }:=by
 have r':=r.push' o
 refine r'.hide (fun c hc=>?_) (fun c hc q=>?_) (fun c hc=>?_) (fun c hc=>?_) (by simp)
 ·rw[HA] at hc;subst hc;exact .inr (.inr ⟨o,gpz _ hf,hd⟩)
 ·rw[HA] at hc;subst hc;exact JB _ (r.lt q)
 ·rw[HA] at hc;subst hc;exact r.fresh
 ·rw[HA] at hc;subst hc;exact ⟨o,gpz _ hf⟩
theorem jB{ρ:Rho}{s:CA}(r:R b ρ m0 s){o:Obj}(hd:∀its n,o.data≠.seq its n)(hf:o.isFreed=false){P:Nat→Rho→CA→Prop}{Q:BA→CA→Prop}
  (I:ItR b h t s.heap.objs.size [s.heap.objs.size] items Mm P) (hP:P 0 (ρ.hide [s.heap.objs.size]) { s with heap:=s.heap.push o })
  (q:∀it W P ρh s',R b ρh m0 s'→ItR b h t it W items Mm P→P 0 ρh s'→(∀c∈W,c∈ρh.hid)→(∀c∈W,c∈ρ.all∨s.heap.get? c=none)→Back b ρ s ρh s' W m0 []→
   (∀c,c∉ρ.all→(∃o,s.heap.get? c=some o)→c∉ρh.all)→(∀{u:AV}{mu:BA},VR s.heap ρ u mu→(([]:AA AO)=[]∨u.under m0.length=true)→VR s'.heap ρh u mu)→(∀c o,s.heap.get? c=some o→s'.heap.get? c=some o)→Q (.ref it) s'):
  Q (.ref s.heap.objs.size) { s with heap:=s.heap.push o }:=by
 have nw:s.heap.get? s.heap.objs.size=none:=aP (MA _)
 refine q _ _ _ (ρ.hide [s.heap.objs.size]) { s with heap:=s.heap.push o } (aCM r o hd hf) I hP (fun c hc=>WA.mpr (.inl hc)) (fun c hc=>.inr (by rw[HA] at hc;subst hc;exact nw))
  (aBb (fun c o' e=>gps o e) fun c hc=>by rw[HA] at hc;subst hc;exact nw) (fun c hc hl z=>?_) (fun {u mu} z _=>?_) fun c o' e=>gps o e
 ·rcases mam z with z|z
  ·exact hc (Rho.mem_rows z)
  ·rcases mam z with z|z
   ·rw[HA] at z;subst z;refine o11 hl fun o' e=>?_;clear hl;rw[nw] at e;cases e
   ·exact hc (Rho.mem_hid z)
 ·refine VR.hide (hp:=s.heap.push o) (fun c hc=>?_) ((aX r o).vr0 z)
  rw[HA] at hc;subst hc;exact .inr (.inr ⟨o,gpz _ hf,hd⟩)
theorem cT(B:aC b):cB b h t (.lst items) mem items (fun x9=>True) mem []:=fun A s ρ mv Q E hA r hv q=>by
 cases hv with|lst e ha hl=>
 rename_i a its n
 have hl1:s.heap.IsList a its:=⟨_,e,rfl,n,rfl⟩
 have hz:its.size=items.length:=by rw[← hl.length,QA]
 have hne:a≠s.heap.objs.size:=GC (DB e)
 refine wpAny_pyIter_list hl1 (jB r (o:={ cls:=.type "list_iterator",data:=.fields #[.ref a,.int 0 0] }) (by simp) rfl ((aBd hz hne).itr B fun x9 hvs g=>hvs g) ⟨⟨⟨_,gpz _ rfl,rfl,rfl⟩,hl1.push _⟩,?_,?_⟩ q)
 ·refine VRs.hide (hp:=s.heap.push _) (fun c hc=>?_) ((aX r _).vrs0 hl)
  rw[HA] at hc;subst hc;exact .inr (.inr ⟨_,gpz _ rfl,by simp⟩)
 ·intro c hc
  rw[HA] at hc;subst hc
  refine ⟨fun z=>?_,_,its,n,gps _ e,rfl⟩
  rcases mam z with z|z
  ·exact ha (Rho.mem_rows z)
  ·rcases mam z with z|z
   ·rw[HA] at z;exact hne z
   ·exact ha (Rho.mem_hid z)
theorem Heap.IsTupleIter.cell{hp hp':PB}{it l:EA}{i:Nat}(x:hp.IsTupleIter it l i)(q:∀o,hp.get? it=some o→hp'.get? it=some o):hp'.IsTupleIter it l i:=let ⟨o,ho,r⟩:=x;⟨o,q _ ho,r⟩
theorem Heap.IsTuple.cell{hp hp':PB}{l:EA}{its:RA BA}(x:hp.IsTuple l its)(q:∀o,hp.get? l=some o→hp'.get? l=some o):hp'.IsTuple l its:=let ⟨o,ho,r⟩:=x;⟨o,q _ ho,r⟩
theorem aEi{A:XA}{s:CA}{it l:EA}{i:Nat}{its:RA BA}{α:Fin→CA→Prop}{E:BA→CA→Prop}(hh:A.handled=none)(hit:s.heap.IsTupleIter it l i)(hl:s.heap.IsTuple l its)(hx:its[i]?= none)
  (q:∀h' e,Keep [it] s { s with heap:=h' }→(∃o,h'.get? e=some o∧o.cls=.type "StopIteration")→E (.ref e) { s with heap:=h' }):FA b.M A (Builtin.«tuple_iterator.__next__» ⟨[.ref it],[]⟩) α E s:=by
 refine o13 (id hit) fun o ho hc hd=>?_
 refine o13 hl fun ol hol x9 x0=>?_;clear hl;refine o11 x0 fun nl hdl=>?_;clear x0
 show FA _ _ (field (.ref it) 0>>=_) _ _ s
 refine wb (AC ho hd (x:=.ref l) rfl ?_)
 show FA _ _ (if (Value.ref l == Value.none)=true then _ else _) _ _ s
 rw[AB (show ¬ ((Value.ref l == Value.none)=true) from KE)]
 show FA _ _ (field (.ref it) 1>>=_) _ _ s
 refine wb (AC ho hd (x:=.int i 0) rfl ?_)
 show FA _ _ (seqItems? (.ref l)>>=_) _ _ s
 refine wb (VC hol hdl ?_)
 simp only[VG,hx]
 refine wb (ZE (wb (wpAny_setField ho hd (by simp) (fE hh fun o1 o2 c2 f2=>?_))))
 refine q _ _ (((Keep.upd (tk:=s.toks) (QB ..) (by simp) ?_).push o1).push o2) ⟨_,gpz _ f2,c2⟩
 exact ⟨_,XD _ ho (Obj.isFreed_of_fields (Obj.data_mapFields hd _))⟩
theorem zB{it ax:EA}{its:RA BA}(hz:its.size=items.length)(hne:ax≠it):Drv b t it [it] items (fun k hp=>hp.IsTupleIter it ax k∧hp.IsTuple ax its) (fun hp ρ=>VRs hp ρ items its.toList) [ax] where
 self:=fun p q=>wpAny_pyIter_tupleiter p.1 q
 kq:=fun p c hc o e=>by refine o02 p fun x0 x9=>?_;clear p;refine o13 x0 fun o' e' hcl x9=>?_;clear x0;exact kq1 e' hcl hc e
 cells:=fun p q=>⟨Heap.IsTupleIter.cell p.1 (q _ (.inl (by simp))),Heap.IsTuple.cell p.2 (q _ (.inr (by simp)))⟩
 item:=fun {A s ρ k v Q E} hh p g hW hlt hk q=>by
  refine o12 (cC g hk) fun mv e1 e2=>?_
  refine wpAny_pyNext_tuple_item p.1 p.2 e1 fun h' hi hs=>?_
  refine o13 (id hi) fun o ho hc hd=>?_
  refine jA (s:={ s with heap:=h' }) ho hc (by decide) (q h' s.toks mv ⟨hi,p.2.extBut hs.extBut hne⟩ (Keep.upd hs (by simp) ⟨o,ho⟩) fun g'=>?_)
  refine o12 (cC g' hk) fun mv' e3 e4=>?_
  rw[e1] at e3;replace e3:=si e3;subst e3;exact e4
 fin:=fun {A s k Q E} hh p hk q=>by
  have hx:its[k]?= none:=Array.getElem?_eq_none (by rw[hz];exact List.getElem?_eq_none_iff.mp hk)
  refine iS (P:=Q) p.1.typeIs F.slot_tuple_iterator_next F.entry_tuple_iterator_next (F.args_tuple_iterator_next_1 _) (fun A' hA' E' z=>aEi (hA'.trans hh) p.1 p.2 hx fun h' e kp he=>z _ _ he (q h' s.toks kp)) fun x9 z=>z
theorem aBe(B:aC b):cB b h t (.tup items) mem items (fun x9=>True) mem []:=fun A s ρ mv Q E hA r hv q=>by
 cases hv with|tup e ha hl=>
 rename_i a its n
 have hl1:s.heap.IsTuple a its:=⟨_,e,rfl,n,rfl⟩
 have hz:its.size=items.length:=by rw[← hl.length,QA]
 have hne:a≠s.heap.objs.size:=GC (DB e)
 refine wpAny_pyIter_tuple hl1 (jB r (o:={ cls:=.type "tuple_iterator",data:=.fields #[.ref a,.int 0 0] }) (by simp) rfl ((zB hz hne).itr B fun x9 hvs g=>hvs g) ⟨⟨⟨_,gpz _ rfl,rfl,rfl⟩,hl1.push _⟩,?_,?_⟩ q)
 ·refine VRs.hide (hp:=s.heap.push _) (fun c hc=>?_) ((aX r _).vrs0 hl)
  rw[HA] at hc;subst hc;exact .inr (.inr ⟨_,gpz _ rfl,by simp⟩)
 ·intro c hc
  rw[HA] at hc;subst hc
  refine ⟨fun z=>?_,_,its,n,gps _ e,rfl⟩
  rcases mam z with z|z
  ·exact ha (Rho.mem_rows z)
  ·rcases mam z with z|z
   ·rw[HA] at z;exact hne z
   ·exact ha (Rho.mem_hid z)
noncomputable def chars(x:Str):AA AV:=x.cps.toList.map fun c=>.str ⟨#[c]⟩
theorem Heap.IsStrIter.cell{hp hp':PB}{it:EA}{ty:String}{x:Str}{tk:Tok}{i:Nat}(z:hp.IsStrIter it ty x tk i)(q:∀o,hp.get? it=some o→hp'.get? it=some o):hp'.IsStrIter it ty x tk i:=let ⟨o,ho,r⟩:=z;⟨o,q _ ho,r⟩
theorem aEj{A:XA}{s:CA}{it:EA}{x:Str}{tk:Tok}{i:Nat}{α:Fin→CA→Prop}{E:BA→CA→Prop}(hh:A.handled=none)(hit:s.heap.IsStrIter it "str_ascii_iterator" x tk i)(hx:x.cps[i]?= none)
  (q:∀h' e,Keep [it] s { s with heap:=h' }→(∃o,h'.get? e=some o∧o.cls=.type "StopIteration")→E (.ref e) { s with heap:=h' }):FA b.M A (Builtin.«str_ascii_iterator.__next__» ⟨[.ref it],[]⟩) α E s:=by
 refine o13 (id hit) fun o ho hc hd=>?_
 show FA _ _ (field (.ref it) 0>>=_) _ _ s
 refine wb (AC ho hd (x:=.str x tk) rfl ?_)
 show FA _ _ (field (.ref it) 1>>=_) _ _ s
 refine wb (AC ho hd (x:=.int i 0) rfl ?_)
 simp only[VG,hx]
 refine wb (ZE (wb (wpAny_setField ho hd (by simp) (wb (YH (fE hh fun o1 o2 c2 f2=>?_))))))
 refine q _ _ (((Keep.upd (tk:=s.toks) (QB ..) (by simp) ?_).push o1).push o2) ⟨_,gpz _ f2,c2⟩
 exact ⟨_,XD _ ho (Obj.isFreed_of_fields (Obj.data_mapFields hd _))⟩
theorem aBf{x:Str}{k:Nat}{v:AV}(e:(chars x)[k]?= some v):∃c,x.cps[k]?= some c∧v=.str ⟨#[c]⟩:=by
 unfold chars at e
 rw[FE,TC] at e
 cases q:x.cps[k]? with
 | none=>rw[q] at e;cases e
 | some c=>rw[q] at e;replace e:=si e;subst e;exact ⟨c,rfl,rfl⟩
theorem aCN{it:EA}{x:Str}{tk:Tok}:Drv b t it [it] (chars x) (fun k hp=>hp.IsStrIter it "str_ascii_iterator" x tk k) (fun hp ρ=>True) [] where
 self:=fun p q=>wpAny_pyIter_striter_ascii p q
 kq:=fun p c hc o e=>by refine o13 p fun o' e' hcl x9=>?_;clear p;exact kq1 e' hcl hc e
 cells:=fun p q=>Heap.IsStrIter.cell p (q _ (.inl (by simp)))
 item:=fun {A s ρ k v Q E} hh p g hW hlt hk q=>by
  refine o12 (aBf hk) fun c e1 x0=>?_;subst x0
  refine wpAny_pyNext_ascii_item p e1 fun h' hi hs=>?_
  refine o13 (id hi) fun o ho hc hd=>?_
  exact jA (s:={ s with heap:=h',toks:=_ }) ho hc (by decide) (q h' _ _ hi (Keep.upd hs (by simp) ⟨o,ho⟩) fun g'=>.str _ _)
 fin:=fun {A s k Q E} hh p hk q=>by
  have hx:x.cps[k]?= none:=by
   cases e:x.cps[k]? with
   | none=>rfl
   | some c=>unfold chars at hk;rw[FE,TC,e] at hk;cases hk
  refine iS (P:=Q) p.typeIs F.slot_str_ascii_iterator_next F.entry_str_ascii_iterator_next (F.args_str_ascii_iterator_next_1 _) (fun A' hA' E' z=>aEj (hA'.trans hh) p hx fun h' e kp he=>z _ _ he (q h' s.toks kp)) fun x9 z=>z
theorem aEk(B:aC b){x:Str}(ha:x.cps.all (· < 128)=true):cB b h t (.str x) mem (chars x) (fun x9=>True) mem []:=fun A s ρ mv Q E hA r hv q=>by
 cases hv with|str tk=>
 exact wpAny_pyIter_ascii ha (jB r (o:={ cls:=.type "str_ascii_iterator",data:=.fields #[.str x tk,.int 0 0] }) (by simp) rfl ((aCN (tk:=tk)).itr B fun x9 hvs g=>g) ⟨⟨_,gpz _ rfl,rfl,rfl⟩,trivial,by simp⟩ q)
noncomputable def steps(a c:Int):Nat→AA AV
 | 0=>[]
 | n+1=>.int a :: steps (a+c) c n
theorem kF(c:Int):∀(n:Nat) (a:Int),(steps a c n).length=n
 | 0,_=>rfl
 | n+1,a=>by rw[steps,UA,kF c n]
theorem rT(c:Int):∀(n:Nat) (a:Int) (k:Nat) (v:AV),(steps a c n)[k]?= some v→k < n∧v=.int (a+k * c)
 | 0,_,k,v,e=>by simp[steps] at e
 | n+1,a,0,v,e=>by simp[steps] at e;subst e;exact ⟨by lia,by simp⟩
 | n+1,a,k+1,v,e=>by
  refine o02 (rT c n (a+c) k v (by simpa [steps] using e)) fun h1 h2=>?_
  refine ⟨by lia,?_⟩
  rw[h2];congr 1;push_cast;rw[Int.add_mul,Int.one_mul];lia
theorem aEl{A:XA}{s:CA}{it:EA}{x a0 step:Int}{α:Fin→CA→Prop}{E:BA→CA→Prop}(hh:A.handled=none)(hit:IsRangeIter s.heap it x a0 step)(a1:a0≤0)
  (q:∀h' e,Keep [it] s { s with heap:=h' }→(∃o,h'.get? e=some o∧o.cls=.type "StopIteration")→E (.ref e) { s with heap:=h' }):FA b.M A (Builtin.«range_iterator.__next__» ⟨[.ref it],[]⟩) α E s:=by
 show FA _ _ (field (.ref it) 0>>=_) _ _ s
 refine wb (AC hit rfl (x:=rawInt x) rfl ?_)
 show FA _ _ (field (.ref it) 1>>=_) _ _ s
 refine wb (AC hit rfl (x:=rawInt a0) rfl ?_)
 show FA _ _ (field (.ref it) 2>>=_) _ _ s
 refine wb (AC hit rfl (x:=rawInt step) rfl ?_)
 show FA _ _ (if a0≤0 then _ else _) _ _ s
 rw[OB a1]
 refine wb (ZE (wb (fE hh fun o1 o2 c2 f2=>?_)))
 exact q _ _ (((⟨fun x9 x9 e x9=>e,fun x9 o e=>⟨o,e⟩⟩:Keep [it] s s).push o1).push o2) ⟨_,gpz _ f2,c2⟩
theorem zC{it:EA}{a c:Int}{n:Nat}:Drv b t it [it] (steps a c n) (fun k hp=>IsRangeIter hp it (a+(k:Nat) * c) ((n:Int) - (k:Nat)) c) (fun hp ρ=>True) [] where
 self:=fun p q=>wpAny_pyIter_rangeiter p q
 kq:=fun p c hc o e=>kq1 p rfl hc e
 cells:=fun p q=>q _ (.inl (by simp)) _ p
 item:=fun {A s ρ k v Q E} hh p g hW hlt hk q=>by
  refine o02 (rT _ _ _ _ _ hk) fun h1 x0=>?_;subst x0
  refine wpAny_pyNext_range_item p (by lia) fun h' hi hs=>?_
  have e1:a+((k+1:Nat):Int) * c=a+(k:Int) * c+c:=by push_cast;rw[Int.add_mul,Int.one_mul,Int.add_assoc]
  have e2:(n:Int) - ((k+1:Nat):Int)=(n:Int) - (k:Int) - 1:=by push_cast;lia
  exact jA (s:={ s with heap:=h',toks:=_ }) hi rfl (by decide) (q h' _ _ (by rw[e1,e2];exact hi) (Keep.upd hs (by simp) ⟨_,hi⟩) fun g'=>.int _ _)
 fin:=fun {A s k Q E} hh p hk q=>by
  have hx:n≤k:=by rw[← kF c n a];exact List.getElem?_eq_none_iff.mp hk
  refine iS (P:=Q) ⟨_,p,rfl⟩ F.slot_range_iterator_next F.entry_range_iterator_next (F.args_range_iterator_next_1 _) (fun A' hA' E' z=>aEl (hA'.trans hh) p (by lia) fun h' e kp he=>z _ _ he (q h' s.toks kp)) fun x9 z=>z
theorem mE(B:aC b){i:Nat}{x y z:Int}{n:Nat}(e:mem[i]?= some (.rng x y z))(hs:MH x y z=true)(hn:LG x y z=n):cB b h t (.obj i) mem (steps x z n) (fun x9=>True) mem []:=fun A s ρ mv Q E hA r hv q=>by
 refine o12 (r.ors.get _ _ e) fun p e1 e2=>?_
 cases hv with|obj e3=>
 rw[e1] at e3
 replace e3:=si e3;subst e3
 cases e2 with|rng er=>
 refine wpAny_pyIter_range er hs (jB r (o:={ cls:=.type "range_iterator",data:=.fields #[rawInt x,rawInt (LG x y z),rawInt z] }) (by simp) rfl ((zC (n:=n)).itr B fun x9 hvs g=>g) ⟨?_,trivial,by simp⟩ q)
 rw[hn]
 have:x+((0:Nat):Int) * z=x:=by simp
 rw[this]
 have:(n:Int) - ((0:Nat):Int)=n:=by simp
 rw[this]
 exact gpz _ rfl
end
noncomputable def AO.under(n:Nat):AO→NB
 | .lst l=>AV.underL n l
 | .inst _ sq at_=>(match sq with|some l=>AV.underL n l|none=>true) && AV.underL n (at_.map (·.2))
 | .zip l1 l2=>AV.underL n l1 && AV.underL n l2
 | .zip2 l=>AV.underL n l
 | .fn at_=>AV.underL n (at_.map (·.2))
 | _=>true
mutual
theorem VR.cut{hp:PB}{ρ ρ':Rho}{n:Nat}(hρ:∀(i:Nat) (p:AA EA),i < n→ρ.rows[i]?= some p→ρ'.rows[i]?= some p)(hn:∀a∈ρ'.all,a∈ρ.all):∀{v:AV}{mv:BA},v.under n=true→VR hp ρ v mv→VR hp ρ' v mv
 | .none,_,_,q=>q
 | .bool _,_,_,q=>q
 | .int _,_,_,q=>q
 | .str _,_,_,q=>q
 | .val _,_,_,q=>q
 | .obj _,_,u,q=>by cases q with|obj e=>exact .obj (hρ _ _ (by simpa [AV.under] using u) e)
 | .tup _,_,u,q=>by cases q with|tup e ha hl=>exact .tup e (fun q=>ha (hn _ q)) (VRs.cut hρ hn (by simpa [AV.under] using u) hl)
 | .lst _,_,u,q=>by cases q with|lst e ha hl=>exact .lst e (fun q=>ha (hn _ q)) (VRs.cut hρ hn (by simpa [AV.under] using u) hl)
theorem VRs.cut{hp:PB}{ρ ρ':Rho}{n:Nat}(hρ:∀(i:Nat) (p:AA EA),i < n→ρ.rows[i]?= some p→ρ'.rows[i]?= some p)(hn:∀a∈ρ'.all,a∈ρ.all):∀{v:AA AV}{mv:AA BA},AV.underL n v=true→VRs hp ρ v mv→VRs hp ρ' v mv
 | [],_,_,q=>q
 | _ :: _,_,u,q=>by
  cases q with|cons e el=>?_
  simp only[AV.underL,VA] at u
  exact .cons (VR.cut hρ hn u.1 e) (VRs.cut hρ hn u.2 el)
end
theorem AV.underL_mem{n:Nat}:∀{l:AA AV}{v:AV},AV.underL n l=true→v∈l→v.under n=true
 | [],_,_,h=>nomatch h
 | v :: l,u,q,h=>by
  simp only[AV.underL,VA] at q
  cases h with
  | head=>exact q.1
  | tail _ h=>exact AV.underL_mem q.2 h
theorem NsR.cut{hp:PB}{ρ ρ':Rho}{n:Nat}(hρ:∀(i:Nat) (p:AA EA),i < n→ρ.rows[i]?= some p→ρ'.rows[i]?= some p)(hn:∀a∈ρ'.all,a∈ρ.all){d:EA}{at_:AA (Str×AV)}(u:AV.underL n (at_.map (·.2))=true)(q:NsR hp ρ d at_):NsR hp ρ' d at_:=by
 refine o12 q fun m h1 h2=>?_;clear q
 refine ⟨m,h1,fun x=>?_⟩
 have:=h2 x
 cases e:at_.lookup x with
 | none=>rw[e] at this;exact this
 | some v=>
  rw[e] at this
  refine o12 this fun mv a d=>?_;clear this
  exact ⟨mv,a,d.cut hρ hn (AV.underL_mem u (EE (f:=(·.2)) (mem_of_lookup e)))⟩
theorem OR.cut{hp:PB}{ρ ρ':Rho}{n:Nat}(hρ:∀(i:Nat) (p:AA EA),i < n→ρ.rows[i]?= some p→ρ'.rows[i]?= some p)(hn:∀a∈ρ'.all,a∈ρ.all){p:AA EA}{o:AO}(u:o.under n=true)(q:OR hp ρ p o):OR hp ρ' p o:=by
 cases q.ind with
 | lst e hl=>exact .lst e (hl.cut hρ hn (by simpa [AO.under] using u))
 | plain e hd=>exact .plain e (hd.cut hρ hn (by simpa [AO.under] using u))
 | seq e hl hd=>
  simp only[AO.under,VA] at u
  exact .seq e (hl.cut hρ hn u.1) (hd.cut hρ hn u.2)
 | other e=>exact .other e
 | zip hz hO h1 h2 hT q1 q2=>
  simp only[AO.under,VA] at u
  exact .zip hz hO h1 h2 (hT.cut hρ hn rfl) (q1.cut hρ hn (by simpa [AV.under] using u.1)) (q2.cut hρ hn (by simpa [AV.under] using u.2))
 | zip2 hz hO h1 hT q0=>exact .zip2 hz hO h1 (hT.cut hρ hn rfl) (q0.cut hρ hn (by simpa [AO.under,AV.under] using u))
 | fn e hc ho hd=>exact .fn e hc ho (hd.cut hρ hn (by simpa [AO.under] using u))
 | rng e=>exact .rng e
 | dead e=>exact .dead e
theorem ORs.cut{hp:PB}{ρ ρ':Rho}{n:Nat}(hρ:∀(i:Nat) (p:AA EA),i < n→ρ.rows[i]?= some p→ρ'.rows[i]?= some p)(hn:∀a∈ρ'.all,a∈ρ.all):∀{r:AA (AA EA)}{l:AA AO},(∀o∈l,o.under n=true)→ORs hp ρ r l→ORs hp ρ' r l
 | _,_,_,.nil=>.nil
 | _,_,u,.cons e el=>.cons (e.cut hρ hn (u _ (by simp))) (ORs.cut hρ hn (fun o ho=>u o (by simp[ho])) el)
section
variable {b:Bs}{h:Nat}{F:EA→Env}{loc loc' loc'':AA (Str×AV)}{mem m1:AA AO}{v v1 v2:AV}{c:NB}{out:AOut}
theorem R.bury{ρ:Rho}{s:CA}{junk:AA AO}(r:R b ρ (mem++junk) s)(u:∀o∈mem,o.under mem.length=true){H:AA EA}(hH:∀a∈H,a∈(ρ.rows.drop mem.length).flatten)(nd:H.Nodup):R b ⟨ρ.rows.take mem.length,H++ρ.hid⟩ mem s∧
  (∀{u:AV}{mu:BA},u.under mem.length=true→VR s.heap ρ u mu→VR s.heap ⟨ρ.rows.take mem.length,H++ρ.hid⟩ u mu)∧(∀c,c∉ρ.all→c∉(⟨ρ.rows.take mem.length,H++ρ.hid⟩:Rho).all):=by
 have hl:=r.ors.length
 rw[PA] at hl
 have e:ρ.rows=ρ.rows.take mem.length++ρ.rows.drop mem.length:=(JC _ _).symm
 have ef:ρ.rows.flatten=(ρ.rows.take mem.length).flatten++(ρ.rows.drop mem.length).flatten:=by conv=>lhs;rw[e,WB]
 have hρ:∀(i:Nat) (p:AA EA),i < mem.length→ρ.rows[i]?= some p→(⟨ρ.rows.take mem.length,H++ρ.hid⟩:Rho).rows[i]?= some p:=fun i p hi q=>by
  show (ρ.rows.take mem.length)[i]?= some p
  rw[List.getElem?_take,OB hi];exact q
 have hn:∀a∈(⟨ρ.rows.take mem.length,H++ρ.hid⟩:Rho).all,a∈ρ.all:=fun a ha=>by
  rcases mam ha with q|q
  ·exact Rho.mem_rows (by rw[ef];exact WA.mpr (.inl q))
  ·rcases mam q with q|q
   ·exact Rho.mem_rows (by rw[ef];exact WA.mpr (.inr (hH a q)))
   ·exact Rho.mem_hid q
 refine ⟨⟨r.old,r.lim,r.bare,r.os,r.tab,?_,?_,fun a ha=>r.new a (hn a ha),fun a ha=>?_⟩,fun hu q=>q.cut hρ hn hu,fun c hc q=>hc (hn c q)⟩
 ·have:=r.ors.take mem.length
  rw[List.take_left] at this
  exact this.cut hρ hn u
 ·have n:=r.nd
  unfold Rho.all at n
  rw[ef] at n
  refine o03 (JA.mp n) fun n1 n2 n3=>?_
  refine o03 (JA.mp n1) fun n4 n5 n6=>?_
  show ((ρ.rows.take mem.length).flatten++(H++ρ.hid)).Nodup
  refine JA.mpr ⟨n4,JA.mpr ⟨nd,n2,fun a ha c hc=>n3 a (WA.mpr (.inr (hH a ha))) c hc⟩,fun a ha c hc=>?_⟩
  rcases mam hc with q|q
  ·exact n6 a ha c (hH c q)
  ·exact n3 a (WA.mpr (.inl ha)) c q
 ·rcases mam ha with q|q
  ·exact r.ors.there a (by rw[ef];exact WA.mpr (.inr (hH a q)))
  ·exact r.hid a q
theorem R.trim{S:EA→Prop}{ρ0 ρ:Rho}{s0 s:CA}{junk:AA AO}(r:R b ρ (mem++junk) s)(x:Ext S ρ0 s0 ρ s)(hl:ρ0.rows.length≤mem.length)(u:∀o∈mem,o.under mem.length=true):
  R b ⟨ρ.rows.take mem.length,ρ.hid⟩ mem s∧Ext S ρ0 s0 ⟨ρ.rows.take mem.length,ρ.hid⟩ s∧(∀{u:AV}{mu:BA},u.under mem.length=true→VR s.heap ρ u mu→VR s.heap ⟨ρ.rows.take mem.length,ρ.hid⟩ u mu)∧(∀c,c∉ρ.all→c∉(⟨ρ.rows.take mem.length,ρ.hid⟩:Rho).all):=by
 refine o03 (r.bury u (H:=[]) (fun a ha=>nomatch ha) GG) fun r1 v1 n1=>?_
 refine ⟨r1,⟨x.keep,fun i p e=>?_,fun a ha=>x.new a ?_,x.hid,x.live⟩,v1,n1⟩
 ·show (ρ.rows.take mem.length)[i]?= some p
  rw[List.getElem?_take,OB (FF (List.getElem?_eq_some_iff.mp e).1 hl)]
  exact x.pre i p e
 ·have e:ρ.rows=ρ.rows.take mem.length++ρ.rows.drop mem.length:=(JC _ _).symm
  rw[e,WB]
  exact WA.mpr (.inl ha)
theorem aF.trim{f:BA}{args:AA AV}{junk:AA AO}(x:aF b h f args mem v (m1++junk))(hl:mem.length≤m1.length)(hu:v.under m1.length=true)(u:∀o∈m1,o.under m1.length=true):aF b h f args mem v m1:=fun A s ρ mvs Q E hA r hv q=>
 x A s ρ mvs Q E hA r hv fun ρ' s' mv r' x' hv'=>by
  refine o04 (r'.trim x' (by rw[r.ors.length];exact hl) u) fun r2 x2 v2 n2=>?_
  exact q _ s' mv r2 x2 (v2 hu hv')
theorem aL.trim{st:VD}{junk:AA AO}(x:aL b h F st loc mem out loc' (m1++junk))(hl:mem.length≤m1.length)(ho:∀v,out=.ret v→v.under m1.length=true)(u:∀o∈m1,o.under m1.length=true)
  (hw:∀x v,loc''.lookup x=some v→loc'.lookup x=some v∧v.under m1.length=true):aL b h F st loc mem out loc'' m1:=fun A s ρ L Q E hA r fm q=>
 x A s ρ L Q E hA r fm fun ρ' s' fl r' f' x' o'=>by
  refine o04 (r'.trim x' (by rw[r.ors.length];exact hl) u) fun r2 x2 v2 n2=>?_
  refine q _ s' fl r2 ?_ x2 ?_
  ·refine o12 f'.ns fun m hns hm=>?_
   refine ⟨⟨m,hns,fun y w hy=>?_⟩,fun c hc=>⟨n2 c (f'.off c hc).1,(f'.off c hc).2⟩,f'.cel,f'.apart⟩
   refine o02 (hw y w hy) fun hy1 hy2=>?_
   have z:=hm y w hy1
   unfold bO at z ⊢
   split at z
   ·refine o12 z fun mv a d=>?_;clear z;exact ⟨mv,a,v2 hy2 d⟩
   ·refine o12 z fun mv a d=>?_;clear z;exact ⟨mv,a,v2 hy2 d⟩
  ·cases o' with
   | ret e=>exact .ret (v2 (ho _ rfl) e)
   | _=>constructor
variable {k:Nat}{e1:Expr}
structure ZA(z TI TO i1 i2 l1 l2:EA):Prop where
 TIz:TI≠z
 TOz:TO≠z
 i1z:i1≠z
 i2z:i2≠z
 TITO:TI≠TO
 TIi1:TI≠i1
 TIi2:TI≠i2
 TOi1:TO≠i1
 TOi2:TO≠i2
 l1z:l1≠z
 l1TO:l1≠TO
 l1i1:l1≠i1
 l1i2:l1≠i2
 l2z:l2≠z
 l2TO:l2≠TO
 l2i1:l2≠i1
 l2i2:l2≠i2
noncomputable def Two(hp:PB)(a:EA)(x y:BA):Prop:=∃n,hp.get? a=some ⟨.type "tuple",none,.seq #[x,y] n,#[]⟩
theorem Two.cell{hp hp':PB}{a:EA}{x y:BA}(q:Two hp a x y)(k:∀o,hp.get? a=some o→hp'.get? a=some o):Two hp' a x y:=q.imp fun x9 e=>k _ e
theorem zD{A:XA}{s:CA}{it l:EA}{i:Nat}{its:RA BA}{α:BA→CA→Prop}{E:BA→CA→Prop}(hh:A.handled=none)(hit:s.heap.IsListIter it l i)(hl:s.heap.IsList l its)(hx:its[i]?= none)
  (q:∀h' e,Keep [it] s { s with heap:=h' }→(∃o,h'.get? e=some o∧o.cls=.type "StopIteration")→E (.ref e) { s with heap:=h' }):FA b.M A (JE (.ref it)) α E s:=by
 unfold JE
 exact wb (PD (name:=LD "__next__") hit.typeIs LF
  (OD LF hit.typeIs entry_listiter_next (zA hh hit hl hx q) (args_listiter_next _)))
theorem Keep.trans{W:AA EA}{s s' s'':CA}(x:Keep W s s')(y:Keep W s' s''):Keep W s s'':=
 ⟨fun c o e n=>y.keep c o (x.keep c o e n) n,fun c o e=>let ⟨o1,e1⟩:=x.live c o e;y.live c o1 e1⟩
theorem Keep.mono{W W':AA EA}{s s':CA}(x:Keep W s s')(hW:∀c∈W,c∈W'):Keep W' s s':=⟨fun c o e n=>x.keep c o e fun q=>n (hW c q),x.live⟩
theorem Keep.at{W:AA EA}{s:CA}{h':PB}{tk:Nat}(x:Keep W s { s with heap:=h',toks:=tk }){c:EA}{o:Obj}(n:c∉W)(e:s.heap.get? c=some o):h'.get? c=some o:=x.keep c o e n
theorem oE{hp:PB}{it l:EA}{i:Nat}(x:hp.IsListIter it l i):∃o,hp.get? it=some o:=let ⟨o,ho,_⟩:=x;⟨o,ho⟩
theorem vL{A:XA}{E:BA→CA→Prop}{s:CA}{z TI TO i1 i2 l1 l2:EA}{k1 k2:Nat}{xs ys:RA BA}{x y a d:BA}{Q:BA→CA→Prop}(D:ZA z TI TO i1 i2 l1 l2)
  (hz:IsZip s.heap z TI TO .none) (hTI:Two s.heap TI (.ref i1) (.ref i2)) (hTO:RH s.heap TO a d)
  (h1:s.heap.IsListIter i1 l1 k1) (h2:∀h':PB,h'.IsListIter i1 l1 (k1+1)→(∀o,i2≠i1→s.heap.get? i2=some o→h'.get? i2=some o)→h'.IsListIter i2 l2 k2) (hl1:s.heap.IsList l1 xs) (hl2:s.heap.IsList l2 ys) (hx:xs[k1]?= some x) (hy:ys[k2]?= some y)
  (hQ:∀h',IsZip h' z TI TO (rawInt s.heap.objs.size)→RH h' TO x y→h'.IsListIter i2 l2 (k2+1)→(i1≠i2→h'.IsListIter i1 l1 (k1+1))→RH h' s.heap.objs.size x y→Keep [z,TO,i1,i2] s { s with heap:=h' }→Q (.ref s.heap.objs.size) { s with heap:=h' }):
  FA b.M A (Builtin.«zip.__next__» ⟨[.ref z],[]⟩) (fun fin s'=>∃v,fin=.done (.ret v)∧Q v s') E s:=by
 refine o11 hTI fun nT eTI=>?_;clear hTI
 show FA _ _ (field (.ref z) 2>>=_) _ _ _
 refine wb (AC hz rfl (x:=.bool false) rfl ?_)
 show FA _ _ (field (.ref z) 3>>=_) _ _ _
 refine wb (AC hz rfl (x:=.ref TI) rfl ?_)
 refine wb (VC eTI rfl ?_)
 show FA _ _ (BF (.ref z)>>=_) _ _ _
 refine wb ?_
 unfold BF
 refine wb (AC hz rfl (x:=.none) rfl (wp ?_))
 simp only[if_true]
 refine wb (ZE (wb (AC hz rfl (x:=.ref TO) rfl ?_)))
 refine wb (OH hz (by simp) fun g1 hz1 s1=>?_)
 have K1:Keep [z,TO,i1,i2] s { s with heap:=g1 }:=Keep.upd s1 (by simp) ⟨_,hz1⟩
 refine wb ?_
 simp only[List.zipIdx_cons,List.zipIdx_nil,XB,List.forIn_nil]
 refine wb (wb (wpAny_onRaise ?_))
 show FA _ _ (JE (.ref i1)>>=_) _ _ _
 refine wb (wpAny_nextOf_list_item (h1.extBut s1.extBut D.i1z) (hl1.extBut s1.extBut D.l1z) hx fun g2 hi2 s2=>wp ?_)
 have K2:=K1.trans (Keep.upd (s:={ s with heap:=g1 }) (tk:=s.toks) s2 (W:=[z,TO,i1,i2]) (by simp) (oE hi2))
 have t2:RH g2 TO a d:=s2.extBut _ _ D.TOi1 (s1.extBut _ _ D.TOz hTO)
 refine wb (VC t2 rfl (wb (wpAny_updateSeq_pair t2 fun g3 t3 s3=>?_)))
 have K3:=K2.trans (Keep.upd (s:={ s with heap:=g2 }) (tk:=s.toks) s3 (W:=[z,TO,i1,i2]) (by simp) ⟨_,t3⟩)
 replace t3:RH g3 TO x d:=t3
 have hi3:g3.IsListIter i1 l1 (k1+1):=hi2.extBut s3.extBut D.TOi1.symm
 refine wb (YH (wp (wb (wb (wpAny_onRaise ?_)))))
 show FA _ _ (JE (.ref i2)>>=_) _ _ _
 refine wb (wpAny_nextOf_list_item (h2 g3 hi3 fun o n e=>s3.extBut _ _ D.TOi2.symm (s2.extBut _ _ n (s1.extBut _ _ D.i2z e)))
  (((hl2.extBut s1.extBut D.l2z).extBut s2.extBut D.l2i1).extBut s3.extBut D.l2TO) hy fun g4 hj4 s4=>wp ?_)
 have K4:=K3.trans (Keep.upd (s:={ s with heap:=g3 }) (tk:=s.toks) s4 (W:=[z,TO,i1,i2]) (by simp) (oE hj4))
 have t4:RH g4 TO x d:=s4.extBut _ _ D.TOi2 t3
 refine wb (VC t4 rfl (wb (wpAny_updateSeq_pair t4 fun g5 t5 s5=>?_)))
 have K5:=K4.trans (Keep.upd (s:={ s with heap:=g4 }) (tk:=s.toks) s5 (W:=[z,TO,i1,i2]) (by simp) ⟨_,t5⟩)
 replace t5:RH g5 TO x y:=t5
 refine wb (YH (wp (wp ?_)))
 refine wb (VC t5 rfl (wb (wpAny_newTuple ?_)))
 have sz:g5.objs.size=s.heap.objs.size:=by rw[s5.1,s4.1,s3.1,s2.1,s1.1]
 have z5:IsZip g5 z TI TO .ellipsis:=s5.extBut _ _ D.TOz.symm (s4.extBut _ _ D.i2z.symm (s3.extBut _ _ D.TOz.symm (s2.extBut _ _ D.i1z.symm hz1)))
 have j5:g5.IsListIter i2 l2 (k2+1):=hj4.extBut s5.extBut D.TOi2.symm
 have i5:i1≠i2→g5.IsListIter i1 l1 (k1+1):=fun n=>(hi3.extBut s4.extBut n).extBut s5.extBut D.TOi1.symm
 show FA _ _ (Builtin.SmallTypes.ownedTupleHandOut (.ref z) (.ref g5.objs.size)>>=_) _ _ _
 refine wb ?_
 unfold Builtin.SmallTypes.ownedTupleHandOut
 have z6:IsZip (g5.push { cls:=.type "tuple",data:=.seq #[x,y] }) z TI TO .ellipsis:=gps _ z5
 refine wb (OH z6 (by simp) fun g7 z7 s7=>?_)
 replace z7:IsZip g7 z TI TO (rawInt g5.objs.size):=z7
 refine OH z7 (by simp) fun g8 z8 s8=>wp ⟨_,rfl,?_⟩
 replace z8:IsZip g8 z TI TO (rawInt g5.objs.size):=z8
 have up:∀c o,c≠z→g5.get? c=some o→g8.get? c=some o:=fun c o n e=>s8.extBut _ _ n (s7.extBut _ _ n (gps _ e))
 have t8:RH g8 g5.objs.size x y:=s8.extBut _ _ (TG (DB z5)) (s7.extBut _ _ (TG (DB z5)) (gpz _ rfl))
 have K8:Keep [z,TO,i1,i2] s { s with heap:=g8 }:=((K5.push { cls:=.type "tuple",data:=.seq #[x,y] }).trans (Keep.upd (s:={ s with heap:=g5.push _ }) (tk:=s.toks) s7 (W:=[z,TO,i1,i2]) (by simp) ⟨_,z7⟩)).trans
  (Keep.upd (s:={ s with heap:=g7 }) (tk:=s.toks) s8 (W:=[z,TO,i1,i2]) (by simp) ⟨_,z8⟩)
 show Q (.ref g5.objs.size) _
 rw[sz] at z8 t8 ⊢
 exact hQ g8 z8 (up _ _ D.TOz t5) (Heap.IsListIter.cell j5 fun o e=>up _ o D.i2z e) (fun n=>Heap.IsListIter.cell (i5 n) fun o e=>up _ o D.i1z e) t8 K8
theorem zE{A:XA}{E:BA→CA→Prop}{s:CA}{z TI TO i1 i2 l1 l2:EA}{k1 k2:Nat}{xs ys:RA BA}{a d:BA}{α:Fin→CA→Prop}(hh:A.handled=none)(D:ZA z TI TO i1 i2 l1 l2)
  (hz:IsZip s.heap z TI TO .none) (hTI:Two s.heap TI (.ref i1) (.ref i2)) (hTO:RH s.heap TO a d)
  (h1:s.heap.IsListIter i1 l1 k1) (h2:i1≠i2→s.heap.IsListIter i2 l2 k2) (hl1:s.heap.IsList l1 xs) (hl2:s.heap.IsList l2 ys) (he:xs[k1]?= none∨(i1≠i2∧ys[k2]?= none))
  (q:∀h' e,Keep [z,TO,i1,i2] s { s with heap:=h' }→(∃o,h'.get? e=some o∧o.cls=.type "StopIteration")→E (.ref e) { s with heap:=h' }):
  FA b.M A (Builtin.«zip.__next__» ⟨[.ref z],[]⟩) α E s:=by
 refine o11 hTI fun nT eTI=>?_;clear hTI
 show FA _ _ (field (.ref z) 2>>=_) _ _ _
 refine wb (AC hz rfl (x:=.bool false) rfl ?_)
 show FA _ _ (field (.ref z) 3>>=_) _ _ _
 refine wb (AC hz rfl (x:=.ref TI) rfl ?_)
 refine wb (VC eTI rfl ?_)
 show FA _ _ (BF (.ref z)>>=_) _ _ _
 refine wb ?_
 unfold BF
 refine wb (AC hz rfl (x:=.none) rfl (wp ?_))
 simp only[if_true]
 refine wb (ZE (wb (AC hz rfl (x:=.ref TO) rfl ?_)))
 refine wb (OH hz (by simp) fun g1 hz1 s1=>?_)
 replace hz1:IsZip g1 z TI TO .ellipsis:=hz1
 have K1:Keep [z,TO,i1,i2] s { s with heap:=g1 }:=Keep.upd s1 (by simp) ⟨_,hz1⟩
 refine wb ?_
 simp only[List.zipIdx_cons,List.zipIdx_nil,XB,List.forIn_nil]
 refine wb (wb (wpAny_onRaise ?_))
 show FA _ _ (JE (.ref i1)>>=_) _ _ _
 have done:∀(g:PB) (e:EA),Keep [z,TO,i1,i2] s { s with heap:=g }→IsZip g z TI TO .ellipsis→(∃o,g.get? e=some o∧o.cls=.type "StopIteration")→∀g',IsZip g' z TI TO .none→ZD z g g'→E (.ref e) { s with heap:=g' }:=fun g e K hz ⟨oe,ho,hc⟩ g' hz' hs=>by
  have hez:e≠z:=fun x=>by subst x;rw[hz] at ho;replace ho:=si ho;subst ho;simp at hc
  exact q g' e (K.trans (Keep.upd (s:={ s with heap:=g }) (tk:=s.toks) hs (W:=[z,TO,i1,i2]) (by simp) ⟨_,hz'⟩)) ⟨oe,hs.extBut _ _ hez ho,hc⟩
 cases hx:xs[k1]? with
 | none=>
  refine wb (zD hh (h1.extBut s1.extBut D.i1z) (hl1.extBut s1.extBut D.l1z) hx fun g2 e K2 he=>?_)
  have z2:IsZip g2 z TI TO .ellipsis:=K2.keep _ _ hz1 (by simpa using D.i1z.symm)
  exact OH z2 (by simp) fun g3 z3 s3=>done g2 e (K1.trans (K2.mono (W':=[z,TO,i1,i2]) (by simp))) z2 he g3 z3 s3
 | some x=>
  have hy:i1≠i2∧ys[k2]?= none:=by rcases he with h|h;rw[hx] at h;cases h;exact h
  refine wb (wpAny_nextOf_list_item (h1.extBut s1.extBut D.i1z) (hl1.extBut s1.extBut D.l1z) hx fun g2 hi2 s2=>wp ?_)
  have K2:=K1.trans (Keep.upd (s:={ s with heap:=g1 }) (tk:=s.toks) s2 (W:=[z,TO,i1,i2]) (by simp) (oE hi2))
  have t2:RH g2 TO a d:=s2.extBut _ _ D.TOi1 (s1.extBut _ _ D.TOz hTO)
  refine wb (VC t2 rfl (wb (wpAny_updateSeq_pair t2 fun g3 t3 s3=>?_)))
  have K3:=K2.trans (Keep.upd (s:={ s with heap:=g2 }) (tk:=s.toks) s3 (W:=[z,TO,i1,i2]) (by simp) ⟨_,t3⟩)
  refine wb (YH (wp (wb (wb (wpAny_onRaise ?_)))))
  show FA _ _ (JE (.ref i2)>>=_) _ _ _
  have z3:IsZip g3 z TI TO .ellipsis:=s3.extBut _ _ D.TOz.symm (s2.extBut _ _ D.i1z.symm hz1)
  refine wb (zD hh ((((h2 hy.1).extBut s1.extBut D.i2z).extBut s2.extBut hy.1.symm).extBut s3.extBut D.TOi2.symm) (((hl2.extBut s1.extBut D.l2z).extBut s2.extBut D.l2i1).extBut s3.extBut D.l2TO) hy.2 fun g4 e K4 he=>?_)
  have z4:IsZip g4 z TI TO .ellipsis:=K4.keep _ _ z3 (by simpa using D.i2z.symm)
  exact OH z4 (by simp) fun g5 z5 s5=>done g4 e (K3.trans (K4.mono (W':=[z,TO,i1,i2]) (by simp))) z4 he g5 z5 s5
variable {m0 m2:AA AO}{pos:Pos}{t:Expr}{items:AA AV}{Mm:AA AO→Prop}
noncomputable def pairs:AA AV→AA AV→AA AV
 | a :: l,d :: k=>.tup [a,d] :: pairs l k
 | _,_=>[]
theorem mF:∀(l1 l2:AA AV) (k:Nat),(pairs l1 l2)[k]?= match l1[k]?,l2[k]? with|some a,some d=>some (.tup [a,d])|_,_=>none
 | [],l2,k=>by simp[pairs]
 | a :: l,[],k=>by
  simp only[pairs,List.getElem?_nil]
  cases (a :: l)[k]? <;> rfl
 | a :: l,d :: m,0=>rfl
 | a :: l,d :: m,k+1=>by simp only[pairs,DH];exact mF l m k
theorem rU{ρ:Rho}{s:CA}{h':PB}{x y:BA}{v1 v2:AV}(hlt:∀c∈ρ.all,c < s.heap.objs.size)(e:RH h' s.heap.objs.size x y)(h1:VR h' ρ v1 x)(h2:VR h' ρ v2 y):VR h' ρ (.tup [v1,v2]) (.ref s.heap.objs.size):=
 .tup e (fun q=>JB _ (hlt _ q)) (.cons h1 (.cons h2 .nil))
theorem aCO{z TI TO i1 i2 l1 l2:EA}{xs ys:RA BA}{a1 a2:AA AV}{elts:AA Expr}{n:Nat}(D:ZA z TI TO i1 i2 l1 l2)(ne:i1≠i2)(hx:xs.size=a1.length)(hy:ys.size=a2.length):
  Drv b (.Tuple elts n pos) z [z,TO,i1,i2] (pairs a1 a2) (fun k hp=>IsZip hp z TI TO .none∧Two hp TI (.ref i1) (.ref i2)∧(∃x y,RH hp TO x y)∧hp.IsListIter i1 l1 k∧hp.IsListIter i2 l2 k∧hp.IsList l1 xs∧hp.IsList l2 ys)
   (fun hp ρ=>VRs hp ρ a1 xs.toList∧VRs hp ρ a2 ys.toList) [TI,l1,l2] where
 self:=fun p q=>wpAny_pyIter_zip p.1 q
 kq:=fun ⟨p1,p2,⟨x,y,p3⟩,p4,p5,p6,p7⟩ c hc o e=>by
  refine o13 p4 fun o4 e4 c4 x9=>?_;clear p4
  refine o13 p5 fun o5 e5 c5 x9=>?_;clear p5
  simp only[NA,GB,QD] at hc
  rcases hc with h|h|h|h
  ·exact kq1 p1 rfl (HA.mpr h) e
  ·exact kq1 p3 rfl (HA.mpr h) e
  ·exact kq1 e4 c4 (HA.mpr h) e
  ·exact kq1 e5 c5 (HA.mpr h) e
 cells:=fun ⟨p1,p2,⟨x,y,p3⟩,p4,p5,p6,p7⟩ q=>⟨q z (.inl (by simp)) _ p1,p2.cell (q TI (.inr (by simp))),⟨x,y,q TO (.inl (by simp)) _ p3⟩,Heap.IsListIter.cell p4 (q _ (.inl (by simp))),Heap.IsListIter.cell p5 (q _ (.inl (by simp))),
  Heap.IsList.cell p6 (q _ (.inr (by simp))),Heap.IsList.cell p7 (q _ (.inr (by simp)))⟩
 item:=fun {A s ρ k v Q E} hh p g hW hlt hk q=>by
  refine o07 p fun p1 p2 x0 p4 p5 p6 p7=>?_;clear p;refine o21 x0 fun x y p3=>?_;clear x0
  rw[mF] at hk
  cases ea:a1[k]? with
  | none=>rw[ea] at hk;cases hk
  | some va=>
   cases ed:a2[k]? with
   | none=>rw[ea,ed] at hk;cases hk
   | some vd=>
    rw[ea,ed] at hk
    replace hk:=si hk;subst hk
    refine o12 (cC g.1 ea) fun mx x1 x2=>?_
    refine o12 (cC g.2 ed) fun my y1 y2=>?_
    unfold pyNext
    refine wb (NE (PD (name:=LD "__next__") ⟨_,p1,rfl⟩ F.slot_zip_next (OD F.slot_zip_next ⟨_,p1,rfl⟩ F.entry_zip_next
     (vL D p1 p2 p3 p4 (fun h' x9 ki=>Heap.IsListIter.cell p5 fun o e=>ki o ne.symm e) p6 p7 x1 y1 fun h' q1 q2 q3 q4 q5 K=>wp ?_) (F.args_zip_next_1 _))))
    refine wpAny_letOwnedTupleGo_zip (s:={ s with heap:=h' }) q1 fun g z1 s1=>?_
    have k':∀c o,c≠z→h'.get? c=some o→g.get? c=some o:=fun c o n e=>s1.extBut _ _ n e
    have KK:=K.trans (Keep.upd (s:={ s with heap:=h' }) (tk:=s.toks) s1 (W:=[z,TO,i1,i2]) (by simp) ⟨_,z1⟩)
    have nz:s.heap.objs.size≠z:=TG (DB p1)
    refine q g s.toks _ ⟨z1,p2.cell fun o e=>k' _ _ D.TIz (K.keep _ _ e (by simp[D.TIz,D.TITO,D.TIi1,D.TIi2])),⟨_,_,k' _ _ D.TOz q2⟩,Heap.IsListIter.cell (q4 ne) (fun o=>k' _ o D.i1z),Heap.IsListIter.cell q3 (fun o=>k' _ o D.i2z),
     Heap.IsList.cell p6 (fun o e=>k' _ o D.l1z (K.keep _ _ e (by simp[D.l1z,D.l1TO,D.l1i1,D.l1i2]))),Heap.IsList.cell p7 (fun o e=>k' _ o D.l2z (K.keep _ _ e (by simp[D.l2z,D.l2TO,D.l2i1,D.l2i2])))⟩ KK fun g'=>?_
    refine o12 (cC g'.1 ea) fun mx' x3 x4=>?_
    refine o12 (cC g'.2 ed) fun my' y3 y4=>?_
    rw[x1] at x3;replace x3:=si x3;subst x3
    rw[y1] at y3;replace y3:=si y3;subst y3
    exact rU hlt (k' _ _ nz q5) x4 y4
 fin:=fun {A s k Q E} hh p hk q=>by
  refine o07 p fun p1 p2 x0 p4 p5 p6 p7=>?_;clear p;refine o21 x0 fun x y p3=>?_;clear x0
  have he:xs[k]?= none∨(i1≠i2∧ys[k]?= none):=by
   rw[mF] at hk
   cases ea:a1[k]? with
   | none=>left;rw[Array.getElem?_eq_none_iff,hx];exact List.getElem?_eq_none_iff.mp ea
   | some va=>
    cases ed:a2[k]? with
    | none=>right;exact ⟨ne,by rw[Array.getElem?_eq_none_iff,hy];exact List.getElem?_eq_none_iff.mp ed⟩
    | some vd=>rw[ea,ed] at hk;cases hk
  exact iS (P:=Q) ⟨_,p1,rfl⟩ F.slot_zip_next F.entry_zip_next (F.args_zip_next_1 _) (fun A' hA' E' w=>zE (hA'.trans hh) D p1 p2 p3 p4 (fun x9=>p5) p6 p7 he fun h' e kp ho=>w _ _ ho (q h' s.toks kp)) fun x9 w=>w
noncomputable def twos:AA AV→AA AV
 | a :: d :: l=>.tup [a,d] :: twos l
 | _=>[]
theorem oF:∀(l:AA AV) (k:Nat),(twos l)[k]?= match l[2 * k]?,l[2 * k+1]? with|some a,some d=>some (.tup [a,d])|_,_=>none
 | [],k=>by simp[twos]
 | [a],k=>by
  simp only[twos,List.getElem?_nil,DH]
  cases k with
  | zero=>rfl
  | succ k=>rw[show 2 * (k+1)=2 * k+1+1 by lia];rfl
 | a :: d :: l,0=>rfl
 | a :: d :: l,k+1=>by
  simp only[twos,DH]
  rw[oF l k,show 2 * (k+1)=2 * k+1+1 by lia]
  simp only[DH]
theorem aBg{z TI TO it l:EA}{xs:RA BA}{a:AA AV}{elts:AA Expr}{n:Nat}(D:ZA z TI TO it it l l)(hx:xs.size=a.length)(hev:a.length % 2=0):
  Drv b (.Tuple elts n pos) z [z,TO,it] (twos a) (fun k hp=>IsZip hp z TI TO .none∧Two hp TI (.ref it) (.ref it)∧(∃x y,RH hp TO x y)∧hp.IsListIter it l (2 * k)∧hp.IsList l xs)
   (fun hp ρ=>VRs hp ρ a xs.toList) [TI,l] where
 self:=fun p q=>wpAny_pyIter_zip p.1 q
 kq:=fun ⟨p1,p2,⟨x,y,p3⟩,p4,p6⟩ c hc o e=>by
  refine o13 p4 fun o4 e4 c4 x9=>?_;clear p4
  simp only[NA,GB,QD] at hc
  rcases hc with h|h|h
  ·exact kq1 p1 rfl (HA.mpr h) e
  ·exact kq1 p3 rfl (HA.mpr h) e
  ·exact kq1 e4 c4 (HA.mpr h) e
 cells:=fun ⟨p1,p2,⟨x,y,p3⟩,p4,p6⟩ q=>⟨q z (.inl (by simp)) _ p1,p2.cell (q TI (.inr (by simp))),⟨x,y,q TO (.inl (by simp)) _ p3⟩,Heap.IsListIter.cell p4 (q _ (.inl (by simp))),Heap.IsList.cell p6 (q _ (.inr (by simp)))⟩
 item:=fun {A s ρ k v Q E} hh p g hW hlt hk q=>by
  refine o05 p fun p1 p2 x0 p4 p6=>?_;clear p;refine o21 x0 fun x y p3=>?_;clear x0
  rw[oF] at hk
  cases ea:a[2 * k]? with
  | none=>rw[ea] at hk;cases hk
  | some va=>
   cases ed:a[2 * k+1]? with
   | none=>rw[ea,ed] at hk;cases hk
   | some vd=>
    rw[ea,ed] at hk
    replace hk:=si hk;subst hk
    refine o12 (cC g ea) fun mx x1 x2=>?_
    refine o12 (cC g ed) fun my y1 y2=>?_
    unfold pyNext
    refine wb (NE (PD (name:=LD "__next__") ⟨_,p1,rfl⟩ F.slot_zip_next (OD F.slot_zip_next ⟨_,p1,rfl⟩ F.entry_zip_next
     (vL D p1 p2 p3 p4 (fun h' hi x9=>hi) p6 p6 x1 y1 fun h' q1 q2 q3 q4 q5 K=>wp ?_) (F.args_zip_next_1 _))))
    replace K:Keep [z,TO,it] s { s with heap:=h' }:=K.mono (by simp)
    refine wpAny_letOwnedTupleGo_zip (s:={ s with heap:=h' }) q1 fun g z1 s1=>?_
    have k':∀c o,c≠z→h'.get? c=some o→g.get? c=some o:=fun c o n e=>s1.extBut _ _ n e
    have KK:=K.trans (Keep.upd (s:={ s with heap:=h' }) (tk:=s.toks) s1 (W:=[z,TO,it]) (by simp) ⟨_,z1⟩)
    have nz:s.heap.objs.size≠z:=TG (DB p1)
    refine q g s.toks _ ⟨z1,p2.cell fun o e=>k' _ _ D.TIz (K.keep _ _ e (by simp[D.TIz,D.TITO,D.TIi1])),⟨_,_,k' _ _ D.TOz q2⟩,Heap.IsListIter.cell q3 (fun o=>k' _ o D.i2z),
     Heap.IsList.cell p6 (fun o e=>k' _ o D.l1z (K.keep _ _ e (by simp[D.l1z,D.l1TO,D.l1i1])))⟩ KK fun g'=>?_
    refine o12 (cC g' ea) fun mx' x3 x4=>?_
    refine o12 (cC g' ed) fun my' y3 y4=>?_
    rw[x1] at x3;replace x3:=si x3;subst x3
    rw[y1] at y3;replace y3:=si y3;subst y3
    exact rU hlt (k' _ _ nz q5) x4 y4
 fin:=fun {A s k Q E} hh p hk q=>by
  refine o05 p fun p1 p2 x0 p4 p6=>?_;clear p;refine o21 x0 fun x y p3=>?_;clear x0
  have he:xs[2 * k]?= none:=by
   rw[Array.getElem?_eq_none_iff,hx]
   rw[oF] at hk
   cases ea:a[2 * k]? with
   | none=>exact List.getElem?_eq_none_iff.mp ea
   | some va=>
    have h1:=(List.getElem?_eq_some_iff.mp ea).1
    have h2:2 * k+1 < a.length:=by lia
    rw[ea,EB h2] at hk
    cases hk
  exact iS (P:=Q) ⟨_,p1,rfl⟩ F.slot_zip_next F.entry_zip_next (F.args_zip_next_1 _) (fun A' hA' E' w=>zE (k2:=0) (hA'.trans hh) D p1 p2 p3 p4 (fun n=>absurd rfl n) p6 p6 (.inl he) fun h' e kp ho=>w _ _ ho (q h' s.toks (kp.mono (by simp)))) fun x9 w=>w
theorem rV{ρ:Rho}{s:CA}{ao:AO}{it:EA}{W:AA EA}(r:R b ρ (m0++[ao]) s)(u:∀o∈m0,o.under m0.length=true)(hW:ρ.rows[m0.length]?= some W){P:Nat→Rho→CA→Prop}{Q:BA→CA→Prop}
  (I:ItR b h t it W items Mm P) (hP:P 0 ⟨ρ.rows.take m0.length,W++ρ.hid⟩ s)
  (q:∀it W P ρh s',R b ρh m0 s'→ItR b h t it W items Mm P→P 0 ρh s'→(∀c∈W,c∈ρh.hid)→(∀c∈W,c∈ρ.all∨s.heap.get? c=none)→Back b ρ s ρh s' W m0 [.dead]→
   (∀c,c∉ρ.all→(∃o,s.heap.get? c=some o)→c∉ρh.all)→(∀{u:AV}{mu:BA},VR s.heap ρ u mu→(([AO.dead]:AA AO)=[]∨u.under m0.length=true)→VR s'.heap ρh u mu)→(∀c o,s.heap.get? c=some o→s'.heap.get? c=some o)→Q (.ref it) s'):Q (.ref it) s:=by
 have hl:=r.ors.length
 rw[PA,IE] at hl
 have er:ρ.rows=ρ.rows.take m0.length++[W]:=by
  conv=>lhs;rw[← JC m0.length ρ.rows]
  congr 1
  rw[MG (by lia),List.drop_eq_nil_of_le (by lia)]
  rw[EB (by lia)] at hW
  replace hW:=si hW;subst hW;rfl
 have ed:(ρ.rows.drop m0.length).flatten=W:=by
  conv=>lhs;rw[er]
  rw[List.drop_left' (by rw[List.length_take];lia)];simp
 have nd:=r.nd
 unfold Rho.all at nd
 rw[er,WB] at nd
 refine o03 (JA.mp nd) fun n1 n2 n3=>?_
 refine o03 (JA.mp n1) fun n4 n5 n6=>?_
 have nW:W.Nodup:=by simpa using n5
 refine o03 (r.bury u (H:=W) (fun a ha=>by rw[ed];exact ha) nW) fun r1 v1 c1=>?_
 have mW:∀c∈W,c∈ρ.rows.flatten:=fun c hc=>by rw[er,WB];exact WA.mpr (.inr (by simpa using hc))
 refine q it W P ⟨ρ.rows.take m0.length,W++ρ.hid⟩ s r1 I hP (fun c hc=>WA.mpr (.inl hc)) (fun c hc=>.inl (Rho.mem_rows (mW c hc))) ?_ (fun c hc x9=>c1 c hc) (fun z w=>v1 (w.elim (fun e=>nomatch e) id) z) fun c o e=>e
 intro S ρ2 s2 m2 hS r2 hl2 x
 have eh:ρ2.hid=W++ρ.hid:=x.hid
 have l2:ρ2.rows.length=m0.length:=by rw[r2.ors.length,hl2]
 have nd2:=r2.nd
 unfold Rho.all at nd2
 rw[eh] at nd2
 refine o03 (JA.mp nd2) fun a1 a2 a3=>?_
 refine o03 (JA.mp a2) fun a4 a5 a6=>?_
 let ρ3:Rho:=⟨ρ2.rows++[W],ρ.hid⟩
 have mem3:∀c,c∈ρ3.all↔c∈ρ2.all:=fun c=>by
  show c∈(ρ2.rows++[W]).flatten++ρ.hid↔c∈ρ2.rows.flatten++ρ2.hid
  rw[eh]
  simp only[WB,WA,HE,List.flatten_nil,ZB]
  exact ⟨fun h=>h.elim (fun h=>h.elim .inl (.inr ∘ .inl)) (.inr ∘ .inr),fun h=>h.elim (.inl ∘ .inl) fun h=>h.elim (.inl ∘ .inr) .inr⟩
 have v3:∀{u:AV}{mu:BA},VR s2.heap ρ2 u mu→VR s2.heap ρ3 u mu:=fun z=>z.move (ρ:=ρ2) (ρ':=ρ3) (fun x9=>False) (fun x9 x9 e x9=>e) (fun x9 h=>h.elim) (fun i p e=>by
  show (ρ2.rows++[W])[i]?= some p
  rw[CC (List.getElem?_eq_some_iff.mp e).1];exact e) fun a ha=>.inl ((mem3 a).mp ha)
 have vs3:∀{u:AA AV}{mu:AA BA},VRs s2.heap ρ2 u mu→VRs s2.heap ρ3 u mu:=fun z=>z.move (ρ:=ρ2) (ρ':=ρ3) (fun x9=>False) (fun x9 x9 e x9=>e) (fun x9 h=>h.elim) (fun i p e=>by
  show (ρ2.rows++[W])[i]?= some p
  rw[CC (List.getElem?_eq_some_iff.mp e).1];exact e) fun a ha=>.inl ((mem3 a).mp ha)
 refine ⟨ρ3,⟨r2.old,r2.lim,r2.bare,r2.os,r2.tab,?_,?_,fun a ha=>r2.new a ((mem3 a).mp ha),fun a ha=>r2.hid a (by rw[eh];exact WA.mpr (.inr ha))⟩,?_,v3,fun c hc z=>hc ((mem3 c).mp z)⟩
 ·exact (r2.ors.move v3 vs3 (fun x9 x9 x9 e=>e)).append (.cons (.dead fun a ha=>r2.hid a (by rw[eh];exact WA.mpr (.inl ha))) .nil)
 ·show ((ρ2.rows++[W]).flatten++ρ.hid).Nodup
  rw[WB]
  refine JA.mpr ⟨JA.mpr ⟨a1,by simpa using a4,fun a ha c hc=>a3 a ha c (WA.mpr (.inl (by simpa using hc)))⟩,a5,fun a ha c hc=>?_⟩
  rcases mam ha with z|z
  ·exact a3 a z c (WA.mpr (.inr hc))
  ·exact a6 a (by simpa using z) c hc
 ·refine ⟨fun c o e n hc kq=>x.keep c o e (fun z=>z.elim n fun z=>hc (mW c z)) (fun z=>hc ?_) kq,fun i p e=>?_,fun a ha=>?_,rfl,x.live⟩
  ·rw[er,WB];exact WA.mpr (.inl z)
  ·show (ρ2.rows++[W])[i]?= some p
   by_cases hi:i < m0.length
   ·rw[CC (by lia)]
    exact x.pre i p (by show (ρ.rows.take m0.length)[i]?= some p;rw[List.getElem?_take,OB hi];exact e)
   ·have hi2:i=m0.length:=by have:=(List.getElem?_eq_some_iff.mp e).1;lia
    subst hi2
    rw[hW] at e;replace e:=si e;subst e
    rw[OA (by lia),l2,VB];rfl
  ·have ha':a∈ρ2.rows.flatten++W:=by simpa [ρ3] using ha
   rcases mam ha' with z|z
   ·rcases x.new a z with z|z
    ·left;rw[er,WB];exact WA.mpr (.inl z)
    ·exact .inr z
   ·exact .inl (mW a z)
variable {e2 e3:Expr}
theorem VR.two{hp:PB}{ρ:Rho}{x y:BA}{a:EA}(q:VR hp ρ (.tup [.val x,.val y]) (.ref a)):Two hp a x y:=by
 cases q with|tup e ha hl=>
 rename_i its n
 refine ⟨n,?_⟩
 obtain ⟨L⟩:=its
 cases hl with|cons y1 hl=>cases hl with|cons y2 hl=>cases hl;cases y1;cases y2;exact e
theorem VR.lst_inv{hp:PB}{ρ:Rho}{l:AA AV}{a:EA}(q:VR hp ρ (.lst l) (.ref a)):∃its,hp.IsList a its∧its.size=l.length∧VRs hp ρ l its.toList:=by
 cases q with|lst e ha hl=>exact ⟨_,⟨_,e,rfl,_,rfl⟩,by rw[← hl.length,QA],hl⟩
theorem OR.zip_inv{hp:PB}{ρ:Rho}{p:AA EA}{a1 a2:AA AV}(q:OR hp ρ p (.zip a1 a2)):∃z TO i1 i2 TI l1 l2 x y,p=[z,TO,i1,i2]∧IsZip hp z TI TO .none∧RH hp TO x y∧hp.IsListIter i1 l1 0∧hp.IsListIter i2 l2 0∧
  VR hp ρ (.tup [.val (.ref i1),.val (.ref i2)]) (.ref TI)∧VR hp ρ (.lst a1) (.ref l1)∧VR hp ρ (.lst a2) (.ref l2):=by
 cases q with|zip hz hO h1 h2 hT q1 q2=>exact ⟨_,_,_,_,_,_,_,_,_,rfl,hz,hO,h1,h2,hT,q1,q2⟩
theorem OR.zip2_inv{hp:PB}{ρ:Rho}{p:AA EA}{a:AA AV}(q:OR hp ρ p (.zip2 a)):∃z TO it TI l x y,p=[z,TO,it]∧IsZip hp z TI TO .none∧RH hp TO x y∧hp.IsListIter it l 0∧
  VR hp ρ (.tup [.val (.ref it),.val (.ref it)]) (.ref TI)∧VR hp ρ (.lst a) (.ref l):=by
 cases q with|zip2 hz hO h1 hT q=>exact ⟨_,_,_,_,_,_,_,rfl,hz,hO,h1,hT,q⟩
theorem rW{ρ:Rho}{s:CA}{ao:AO}(r:R b ρ (m0++[ao]) s){mv:BA}(hv:VR s.heap ρ (.obj m0.length) mv):∃a p,mv=.ref a∧ρ.rows[m0.length]?= some (a :: p)∧OR s.heap ρ (a :: p) ao∧(a :: p).Nodup∧(∀c∈a :: p,c∈ρ.all)∧∀c∈a :: p,c∉(⟨ρ.rows.take m0.length,[]⟩:Rho).all:=by
 refine o12 (r.ors.get m0.length ao (by rw[OA (MA _),VB];rfl)) fun p e1 e2=>?_
 cases hv with|obj e3=>
 rename_i a rr
 have n1:=(JA.mp r.nd).1
 refine ⟨a,rr,rfl,e3,by rw[e1] at e3;replace e3:=si e3;subst e3;exact e2,(List.pairwise_flatten.mp n1).1 _ (LB e3),fun c hc=>Rho.mem_rows (List.mem_flatten.mpr ⟨_,LB e3,hc⟩),fun c hc q=>?_⟩
 have e:ρ.rows.flatten=(ρ.rows.take m0.length).flatten++(ρ.rows.drop m0.length).flatten:=by rw[← WB,JC]
 rw[e] at n1
 refine (JA.mp n1).2.2 c (by simpa [Rho.all] using q) c ?_ rfl
 refine List.mem_flatten.mpr ⟨_,?_,hc⟩
 exact LB (i:=0) (by rw[IH];exact e3)
theorem fZ{hp:PB}{ρ:Rho}{c:EA}{H:AA EA}{n:Nat}(q:eI hp ρ c)(hH:∀a∈H,a∈ρ.all):eI hp ⟨ρ.rows.take n,H++ρ.hid⟩ c:=by
 refine ⟨fun z=>q.1 ?_,q.2⟩
 rcases mam z with z|z
 ·refine o12 (List.mem_flatten.mp z) fun p h1 h2=>?_
  exact Rho.mem_rows (List.mem_flatten.mpr ⟨p,PE h1,h2⟩)
 ·rcases mam z with z|z
  ·exact hH c z
  ·exact Rho.mem_hid z
theorem rX(B:aC b){a1 a2:AA AV}{elts:AA Expr}{n:Nat}(u:∀o∈m0,o.under m0.length=true)(u1:AV.underL m0.length a1=true)(u2:AV.underL m0.length a2=true):
  cB b h (.Tuple elts n pos) (.obj m0.length) (m0++[.zip a1 a2]) (pairs a1 a2) (fun x9=>True) m0 [.dead]:=fun A s ρ mv Q E hA r hv q=>by
 refine o21 (rW r hv) fun z p x0=>?_;refine o06 x0 fun x2 hrow ho nd inr outr=>?_;clear x0;subst x2
 refine o41 ho.zip_inv fun z0 TO i1 i2 x0=>?_;refine o41 x0 fun TI l1 l2 x x2=>?_;clear x0;refine o12 x2 fun y ep x3=>?_;clear x2;refine o07 x3 fun hz hO h1 h2 hT q1 q2=>?_;clear x3
 cases ep
 have fT:=eI.of_tup hT
 have f1:=eI.of_lst q1
 have f2:=eI.of_lst q2
 have off:∀{d c:EA},eI s.heap ρ d→c∈[z,TO,i1,i2]→d≠c:=fun f hc e=>f.1 (e▸inr _ hc)
 simp only[XE,NA,GB,QD,not_or,UF,GG,and_true] at nd
 refine o03 nd fun x0 x2 n6=>?_;clear nd;refine o03 x0 fun n1 n2 n3=>?_;clear x0;refine o02 x2 fun n4 n5=>?_;clear x2
 have D:ZA z TI TO i1 i2 l1 l2:=⟨off fT (by simp),Ne.symm n1,Ne.symm n2,Ne.symm n3,off fT (by simp),off fT (by simp),off fT (by simp),n4,n5,off f1 (by simp),off f1 (by simp),off f1 (by simp),off f1 (by simp),off f2 (by simp),off f2 (by simp),off f2 (by simp),off f2 (by simp)⟩
 refine o03 (r.bury u (H:=[z,TO,i1,i2]) (fun c hc=>List.mem_flatten.mpr ⟨_,LB (i:=0) (by rw[IH];exact hrow),hc⟩) (by simp[n1,n2,n3,n4,n5,n6])) fun x9 v1 x9=>?_
 refine o13 q1.lst_inv fun xs lx sx x9=>?_
 refine o13 q2.lst_inv fun ys ly sy x9=>?_
 refine o13 ((v1 (u:=.lst a1) (by simpa [AV.under] using u1) q1).lst_inv) fun xs' lx' x9 gx=>?_
 refine o13 ((v1 (u:=.lst a2) (by simpa [AV.under] using u2) q2).lst_inv) fun ys' ly' x9 gy=>?_
 have ex:xs'=xs:=by refine o13 lx fun o e x9 x0=>?_;clear lx;refine o11 x0 fun nn d=>?_;clear x0;refine o13 lx' fun o' e' x9 x0=>?_;clear lx';refine o11 x0 fun nn' d'=>?_;clear x0;rw[e] at e';replace e':=si e';subst e';rw[d] at d';cases d';rfl
 have ey:ys'=ys:=by refine o13 ly fun o e x9 x0=>?_;clear ly;refine o11 x0 fun nn d=>?_;clear x0;refine o13 ly' fun o' e' x9 x0=>?_;clear ly';refine o11 x0 fun nn' d'=>?_;clear x0;rw[e] at e';replace e':=si e';subst e';rw[d] at d';cases d';rfl
 rw[ex] at gx
 rw[ey] at gy
 refine wpAny_pyIter_zip hz (rV r u hrow ((aCO D n6 sx sy).itr B fun x9 hvs g=>⟨hvs g.1,hvs g.2⟩) ⟨⟨hz,hT.two,⟨_,_,hO⟩,h1,h2,lx,ly⟩,⟨gx,gy⟩,fun c hc=>?_⟩ q)
 have:c=TI∨c=l1∨c=l2:=by simpa using hc
 rcases this with rfl|rfl|rfl
 ·exact fZ fT inr
 ·exact fZ f1 inr
 ·exact fZ f2 inr
theorem aCP(B:aC b){a:AA AV}{elts:AA Expr}{n:Nat}(u:∀o∈m0,o.under m0.length=true)(u1:AV.underL m0.length a=true)(hev:a.length % 2=0):
  cB b h (.Tuple elts n pos) (.obj m0.length) (m0++[.zip2 a]) (twos a) (fun x9=>True) m0 [.dead]:=fun A s ρ mv Q E hA r hv q=>by
 refine o21 (rW r hv) fun z p x0=>?_;refine o06 x0 fun x2 hrow ho nd inr outr=>?_;clear x0;subst x2
 refine o41 ho.zip2_inv fun z0 TO it TI x0=>?_;refine o31 x0 fun l x y x2=>?_;clear x0;refine o06 x2 fun ep hz hO h1 hT q1=>?_;clear x2
 cases ep
 have fT:=eI.of_tup hT
 have f1:=eI.of_lst q1
 have off:∀{d c:EA},eI s.heap ρ d→c∈[z,TO,it]→d≠c:=fun f hc e=>f.1 (e▸inr _ hc)
 simp only[XE,NA,GB,QD,not_or,UF,GG,and_true] at nd
 refine o02 nd fun x0 n4=>?_;clear nd;refine o02 x0 fun n1 n2=>?_;clear x0
 have D:ZA z TI TO it it l l:=⟨off fT (by simp),Ne.symm n1,Ne.symm n2,Ne.symm n2,off fT (by simp),off fT (by simp),off fT (by simp),n4,n4,off f1 (by simp),off f1 (by simp),off f1 (by simp),off f1 (by simp),off f1 (by simp),off f1 (by simp),off f1 (by simp),off f1 (by simp)⟩
 refine o03 (r.bury u (H:=[z,TO,it]) (fun c hc=>List.mem_flatten.mpr ⟨_,LB (i:=0) (by rw[IH];exact hrow),hc⟩) (by simp[n1,n2,n4])) fun x9 v1 x9=>?_
 refine o13 q1.lst_inv fun xs lx sx x9=>?_
 refine o13 ((v1 (u:=.lst a) (by simpa [AV.under] using u1) q1).lst_inv) fun xs' lx' x9 gx=>?_
 have ex:xs'=xs:=by refine o13 lx fun o e x9 x0=>?_;clear lx;refine o11 x0 fun nn d=>?_;clear x0;refine o13 lx' fun o' e' x9 x0=>?_;clear lx';refine o11 x0 fun nn' d'=>?_;clear x0;rw[e] at e';replace e':=si e';subst e';rw[d] at d';cases d';rfl
 rw[ex] at gx
 refine wpAny_pyIter_zip hz (rV r u hrow ((aBg D sx hev).itr B fun x9 hvs g=>hvs g) ⟨⟨hz,hT.two,⟨_,_,hO⟩,h1,lx⟩,gx,fun c hc=>?_⟩ q)
 have:c=TI∨c=l:=by simpa using hc
 rcases this with rfl|rfl
 ·exact fZ fT inr
 ·exact fZ f1 inr
theorem iT{a1 a2:AA AV}:aF b h (.type "zip") [.lst a1,.lst a2] mem (.obj mem.length) (mem++[.zip a1 a2]):=fun A s ρ mvs Q E hA r hv q=>by
 cases hv with|cons h1 hv=>cases hv with|cons h2 hv=>
 cases hv
 cases h1 with|lst e1 ha1 hl1=>
 cases h2 with|lst e2 ha2 hl2=>
 rename_i c1 its1 n1 c2 its2 n2
 refine call_zip_2 ⟨_,e1,rfl,n1,rfl⟩ ⟨_,e2,rfl,n2,rfl⟩ fun h' hz hT hO i1 i2 hsz kp=>?_
 let S:=s.heap.objs.size
 let ρ':Rho:=ρ.add [S+4,S+3,S,S+1]
 have fresh:∀c,S≤c→s.heap.get? c=none:=fun c hc=>aP hc
 have nall:∀c,S≤c→c∉ρ.all:=fun c hc q=>JB _ (FF (r.lt q) hc)
 have nbase:∀c,S≤c→b.s₁.heap.get? c=none:=fun c hc=>by
  cases e:b.s₁.heap.get? c with
  | none=>rfl
  | some o=>refine o11 (r.old.there c o e) fun o' e'=>?_;rw[fresh c hc] at e';cases e'
 have r0:R b ρ mem { s with heap:=h' }:=r.keeps kp s.gens r.bare s.drawn s.toks
 have memn:∀a,a∈[S+4,S+3,S,S+1]→S≤a:=fun a ha=>by simp only[NA,GB,QD] at ha;rcases ha with rfl|rfl|rfl|rfl <;> lia
 have x:Ext NoS ρ s ρ' { s with heap:=h' }:=by
  refine ⟨fun c o e x9 x9 x9=>kp c o e,fun i p e=>by show (ρ.rows++_)[i]?= _;rw[CC (List.getElem?_eq_some_iff.mp e).1];exact e,fun a ha=>?_,rfl,fun c o e=>⟨o,kp c o e⟩⟩
  have ha':a∈ρ.rows.flatten++[S+4,S+3,S,S+1]:=by simpa [ρ',Rho.add] using ha
  rcases mam ha' with z|z
  ·exact .inl z
  ·exact .inr (fresh a (memn a z))
 have ea:∀a,a∈ρ'.all→a∈ρ.all∨a∈[S+4,S+3,S,S+1]:=fun a ha=>by
  have ha':a∈(ρ.rows.flatten++[S+4,S+3,S,S+1])++ρ.hid:=by simpa [ρ',Rho.add,Rho.all] using ha
  rcases mam ha' with z|z
  ·exact (mam z).imp Rho.mem_rows id
  ·exact .inl (Rho.mem_hid z)
 refine q ρ' _ _ ⟨r0.old,r0.lim,r0.bare,r0.os,r0.tab,?_,?_,fun a ha=>(ea a ha).elim (r.new a) fun z=>nbase a (memn a z),r0.hid⟩ x (.obj (r:=[S+3,S,S+1]) ?_)
 ·refine (ORs.move x.vr0 x.vrs0 (fun a x9=>kp a) r.ors).append (.cons ?_ .nil)
  refine .zip (l1:=c1) (l2:=c2) hz hO i1 i2 (.tup hT (fun z=>?_) (.cons (.val _) (.cons (.val _) .nil))) (x.vr0 (.lst e1 ha1 hl1)) (x.vr0 (.lst e2 ha2 hl2))
  rcases ea _ z with z|z
  ·exact nall _ (by lia) z
  ·simp[S] at z
 ·have nd:=r.nd
  unfold Rho.all at nd
  refine o03 (JA.mp nd) fun n1 n2 n3=>?_
  show ((ρ.rows++[[S+4,S+3,S,S+1]]).flatten++ρ.hid).Nodup
  rw[WB]
  refine JA.mpr ⟨JA.mpr ⟨n1,by simp,fun a ha c hc e=>?_⟩,n2,fun a ha c hc e=>?_⟩
  ·have:=memn c (by simpa using hc)
   exact nall a (e▸this) (Rho.mem_rows ha)
  ·rcases mam ha with z|z
   ·exact n3 a z c hc e
   ·have:=memn a (by simpa using z)
    exact nall c (e▸this) (Rho.mem_hid hc)
 ·show (ρ.rows++[[S+4,S+3,S,S+1]])[mem.length]?= _
  rw[OA (by rw[r.ors.length];exact MA _),r.ors.length,VB];rfl
theorem pK{x y:Int}:aF b h (.type "range") [.int x,.int y] mem (.obj mem.length) (mem++[.rng x y 1]):=fun A s ρ mvs Q E hA r hv q=>by
 cases hv with|cons h1 hv=>cases hv with|cons h2 hv=>
 cases hv;cases h1;cases h2
 refine call_range_2 ?_
 obtain ⟨r1,x1⟩:=r.alloc1 { cls:=.type "range",data:=.fields #[.int x _,.int y _,.int 1 s.toks] } (.rng x y 1) (.rng (gpz _ rfl))
 exact q _ _ _ (r1.toks _) (x1.toks _) (.obj (r:=[]) (by show (ρ.rows++_)[mem.length]?= _;rw[OA (by rw[r.ors.length];exact MA _),r.ors.length,VB];rfl))
theorem zF{x y z:Int}(hz:z≠0)(hp:HH (y - x) z=false):aF b h (.type "range") [.int x,.int y,.int z] mem (.obj mem.length) (mem++[.rng x y z]):=fun A s ρ mvs Q E hA r hv q=>by
 cases hv with|cons h1 hv=>cases hv with|cons h2 hv=>cases hv with|cons h3 hv=>
 cases hv;cases h1;cases h2;cases h3
 refine call_range_3 hz ?_ (.inl hp)
 obtain ⟨r1,x1⟩:=r.alloc1 { cls:=.type "range",data:=.fields #[.int x _,.int y _,.int z _] } (.rng x y z) (.rng (gpz _ rfl))
 exact q _ _ _ r1 x1 (.obj (r:=[]) (by show (ρ.rows++_)[mem.length]?= _;rw[OA (by rw[r.ors.length];exact MA _),r.ors.length,VB];rfl))
end
theorem rY(elt a0 iter:Expr)(scope:Scope)(pos:Pos)(it acc:BA)(env:Env):
  compTurn (.ListComp elt [⟨a0,iter,[],0⟩] scope pos) 0 it acc env=(standAt iter.pos>>=fun x9=>pyNext it>>=fun r=>match r with
   | none=>pure (.done .next)
   | some v=>letOwnedTupleGo a0 it v>>=fun x9=>assign a0 env v>>=fun x9=>(eval elt env>>=fun x=>call (.builtin "list.append") [acc,x]>>=fun x9=>pure ())>>=fun x9=>
     again (.compLoop (.ListComp elt [⟨a0,iter,[],0⟩] scope pos) 0 it acc env)):=by
 rfl
section
variable {b:Bs}{h:Nat}{F:EA→Env}{loc loc' base lv:AA (Str×AV)}{mem:AA AO}{v v1 v2:AV}{e1 e2 e3:Expr}{pos:Pos}{c:NB}{t:Expr}{items outs:AA AV}
noncomputable def compEnv(scope:Scope)(names:AA (Str×NameKind))(cl:AA (Str×EA))(env:Env)(C:EA):Env:={ newEnv scope C env.globals cl env.qual none .none (some env) env.builtins with scope:={ scope with names:=names } }
theorem aFG{scope:Scope}{names:AA (Str×NameKind)}{cl:AA (Str×EA)}(f:aS F)(hk:scope.kind=.function)(L:EA):aS (compEnv scope names cl (F L)):=
 ⟨fun x9=>rfl,fun x9=>hk,fun x9=>f.globals L,fun x9=>f.builtins L⟩
noncomputable def AsgC(b:Bs)(F:EA→Env)(t:Expr)(v:AV)(loc:AA (Str×AV))(loc':AA (Str×AV)):Prop:=
 ∀(A:XA) (s:CA) (ρ:Rho) (L:EA) (mv:BA) (mem:AA AO) (Q:Unit→CA→Prop) (E:BA→CA→Prop),A.handled=none→R b ρ mem s→Fm b L (F L).cells ρ loc s→VR s.heap ρ v mv→
  (∀s',R b ρ mem s'→Fm b L (F L).cells ρ loc' s'→Ext (·= L) ρ s ρ s'→Q () s')→FA b.M A (assign t (F L) mv) Q E s
theorem gA(B:aC b)(f:aS F){A:XA}{s:CA}{ρ:Rho}{L:EA}{x:Str}{mv:BA}{Q:Unit→CA→Prop}{E:BA→CA→Prop}(r:R b ρ mem s)(fm:Fm b L (F L).cells ρ loc s)(hv:VR s.heap ρ v mv)
  (hk:(F L).kindOf x=some .local) (hcl:(F L).cells.lookup x=none) (q:∀s',R b ρ mem s'→Fm b L (F L).cells ρ (putL x v loc) s'→Ext (·= L) ρ s ρ s'→Q () s'):FA b.M A (storeName (F L) x mv) Q E s:=by
 refine o12 fm.ns fun m hn hm=>?_
 refine wpAny_storeName_local hk (by rw[f.locals L];exact hn) (fun h' hn' hs=>?_) (by rw[f.kind L];rfl)
 rw[f.locals L] at hn' hs
 refine o32 (id hn') fun on es ep en x9=>?_
 have fL:Free s.heap ρ L:=fm.free L (.inl rfl)
 have r1:R b ρ mem { s with heap:=h',toks:=s.toks+1 }:=r.same B hs (fm.off L (.inl rfl)).2 (fm.off L (.inl rfl)).1 fL s.gens r.bare s.drawn _
 have x1:Ext (·= L) ρ s ρ { s with heap:=h',toks:=s.toks+1 }:=⟨fun d o e n x9 x9=>(hs.2 d n).trans e,fun x9 x9 e=>e,fun x9 h=>.inl h,rfl,fun d o' e=>by
  by_cases hd:d=L
  ·subst hd;exact ⟨on,en⟩
  ·exact ⟨o',(hs.2 d hd).trans e⟩⟩
 have fL':∀c,c=L→Free s.heap ρ c:=fun c e=>e▸fL
 have ncl:∀p∈(F L).cells,p.2≠L:=fun p hp e=>by
  refine o22 (fm.cel p hp) fun v0 oc e1 e2=>?_
  refine o33 hn fun o2 es2 ep2 e3 e4 x9=>?_;clear hn
  rw[e] at e1;rw[e1] at e3;replace e3:=si e3;subst e3;rw[e2] at e4;cases e4
 refine q _ r1 ⟨⟨_,hn',fun y w hy=>?_⟩,fm.off,fun p hp=>?_,fm.apart⟩ x1
 ·rw[dP] at hy
  unfold bO
  by_cases hyx:y=x
  ·subst hyx
   rw[OB (SE y)] at hy
   replace hy:=si hy;subst hy
   rw[hcl]
   exact ⟨mv,OB rfl,x1.vr fL' hv⟩
  ·rw[AB (by simpa using hyx)] at hy
   have z:=hm y w hy
   unfold bO at z
   split at z
   ·rename_i hy2
    try rw[hy2]
    try dsimp only
    refine o12 z fun mw a1 a2=>?_;clear z
    exact ⟨mw,(AB hyx).trans a1,x1.vr fL' a2⟩
   ·rename_i c hy2
    try rw[hy2]
    try dsimp only
    refine o12 z fun mw a1 a2=>?_;clear z
    exact ⟨mw,a1.sameBut hs (ncl _ (mem_of_lookup hy2)),x1.vr fL' a2⟩
 ·refine o11 (fm.cel p hp) fun v0 z=>?_
  exact ⟨v0,z.sameBut hs (ncl p hp)⟩
theorem aCQ(B:aC b)(f:aS F){x:Str}(hk:DA (∀L,(F L).kindOf x=some .local) q8)(hc:DA (∀L,(F L).cells.lookup x=none) q8):AsgC b F (.Name x pos) v loc (putL x v loc):=fun A s ρ L mv mem Q E hA r fm hv q=>
 assign_Name (gA B f r fm hv (hk L) (hc L) q)
theorem aCR(B:aC b)(f:aS F){x y:Str}{p1 p2:Pos}{n:Nat}(hx:DA (∀L,(F L).kindOf x=some .local) q8)(hxc:DA (∀L,(F L).cells.lookup x=none) q8)
  (hy:DA (∀L,(F L).kindOf y=some .local) q8) (hyc:DA (∀L,(F L).cells.lookup y=none) q8):
  AsgC b F (.Tuple [.Name x p1,.Name y p2] n pos) (.tup [v1,v2]) loc (putL y v2 (putL x v1 loc)):=fun A s ρ L mv mem Q E hA r fm hv q=>by
 cases hv with|tup e ha hl=>
 rename_i a its nn
 have z:=hl.length
 rw[QA] at z
 obtain ⟨Ls⟩:=its
 refine wpAny_assign_Tuple hA ⟨_,e,rfl,_,rfl⟩ (by rw[z];rfl) rfl fun h' hx'=>?_
 refine o03 (fX r fm (kD hx') s.toks) fun r' f' x'=>?_
 cases x'.vrs0 hl with|cons a1 hl2=>cases hl2 with|cons a2 hl3=>
 cases hl3
 refine wb (TA (assign_Name (gA B f r' f' a1 (hx L) (hxc L) fun s1 r1 f1 x1=>?_)))
 refine wb (TA (assign_Name (gA B f r1 f1 (x1.vr (fun c hc=>hc▸f'.free L (.inl rfl)) a2) (hy L) (hyc L) fun s2 r2 f2 x2=>?_)))
 exact wp (q s2 r2 f2 (((x'.mono fun x9 h=>h.elim).trans x1).trans x2))
inductive IfsC(b:Bs)(h:Nat)(F:EA→Env)(loc:AA (Str×AV))(mem:AA AO):AA Expr→NB→Prop
 | nil:IfsC b h F loc mem [] true
 | one {e:Expr}{c:NB}(x:bA b h F e loc mem c mem):IfsC b h F loc mem [e] c
inductive aZ(b:Bs)(h:Nat)(F:EA→Env)(t elt:Expr)(ifs:AA Expr)(base:AA (Str×AV))(mem:AA AO):AA AV→AA AV→Prop
 | nil:aZ b h F t elt ifs base mem [] []
 | take {v x:AV}{vs xs:AA AV}{lv:AA (Str×AV)}(ha:AsgC b F t v base lv) (hl:∀y w,base.lookup y=some w→lv.lookup y=some w) (hi:IfsC b h F lv mem ifs true) (he:aE b h F elt lv mem x mem) (hr:aZ b h F t elt ifs base mem vs xs):aZ b h F t elt ifs base mem (v :: vs) (x :: xs)
 | skip {v:AV}{vs xs:AA AV}{lv:AA (Str×AV)}(ha:AsgC b F t v base lv) (hl:∀y w,base.lookup y=some w→lv.lookup y=some w) (hi:IfsC b h F lv mem ifs false) (hr:aZ b h F t elt ifs base mem vs xs):aZ b h F t elt ifs base mem (v :: vs) xs
theorem aZ.len{elt:Expr}{ifs:AA Expr}(q:aZ b h F t elt ifs base mem items outs):outs.length≤items.length:=by
 induction q with
 | nil=>exact MA _
 | take _ _ _ _ _ ih=>simp only[UA];lia
 | skip _ _ _ _ ih=>simp only[UA];lia
noncomputable def wpIfs(M:WH)(A:XA)(ifs:AA Expr)(env:Env)(Q:NB→CA→Prop)(E:BA→CA→Prop)(s:CA):Prop:=match ifs with | [c]=>FA M A (isTrue c env (eval c env)) Q E s|_=>Q true s
theorem zG{elt a0 iter:Expr}{ifs:AA Expr}{scope:Scope}{it acc:BA}{env:Env}{M:WH}{A:XA}{s:CA}{Q:Fin→CA→Prop}{E:BA→CA→Prop}(hi:ifs=[]∨∃c,ifs=[c])
  (h:FA M A (pyNext it) (fun r s1=>match r with
   | none=>Q (.done .next) s1
   | some v=>FA M A (letOwnedTupleGo a0 it v) (fun x9 s2=>FA M A (assign a0 env v) (fun x9 s3=>wpIfs M A ifs env (fun ok s4=>match ok with
    | true=>FA M A (eval elt env) (fun x s5=>FA M A (call (.builtin "list.append") [acc,x]) (fun x9 s6=>Q (.again (.compLoop (.ListComp elt [⟨a0,iter,ifs,0⟩] scope pos) 0 it acc env)) s6) E s5) E s4
    | false=>Q (.again (.compLoop (.ListComp elt [⟨a0,iter,ifs,0⟩] scope pos) 0 it acc env)) s4) E s3) E s2) E s1) E s):
  FA M A (compTurn (.ListComp elt [⟨a0,iter,ifs,0⟩] scope pos) 0 it acc env) Q E s:=by
 rcases hi with rfl|⟨c,rfl⟩
 ·rw[rY]
  refine wb (ME (wb (CB h (fun r s1 h1=>?_) fun x9 x9 z=>z)))
  cases r with
  | none=>exact wp h1
  | some v=>
   refine wb (CB h1 (fun x9 s2 h2=>wb (CB h2 (fun x9 s3 h3=>wb (wb ?_)) fun x9 x9 z=>z)) fun x9 x9 z=>z)
   refine CB (show FA M A (eval elt env) _ E s3 from h3) (fun x s5 h5=>wb (CB h5 (fun x9 s6 h6=>wp (wp h6)) fun x9 x9 z=>z)) fun x9 x9 z=>z
 ·unfold compTurn
  simp only[List.getElem?_cons_zero,XB,List.forIn_nil]
  show FA M A (standAt iter.pos>>=fun x9=>pyNext it>>=_) Q E s
  refine wb (ME (wb (CB h (fun r s1 h1=>?_) fun x9 x9 z=>z)))
  cases r with
  | none=>exact wp h1
  | some v=>
   refine wb (CB h1 (fun x9 s2 h2=>wb (CB h2 (fun x9 s3 h3=>wb (wb ?_)) fun x9 x9 z=>z)) fun x9 x9 z=>z)
   rw[OB trivial]
   refine wb (CB (show FA M A (isTrue c env (eval c env)) _ E s3 from h3) (fun ok s4 h4=>wp (wp ?_)) fun x9 x9 z=>z)
   cases ok with
   | true=>
    rw[OB rfl]
    exact wb (wb (CB h4 (fun x s5 h5=>wb (CB h5 (fun x9 s6 h6=>wp (wp h6)) fun x9 x9 z=>z)) fun x9 x9 z=>z))
   | false=>
    rw[AB (by decide)]
    exact wp h4
variable {k:Nat}{m0:AA AO}{elt iter:Expr}{Mm:AA AO→Prop}{ifs:AA Expr}
theorem mV{A:XA}{s:CA}{Q:BA→CA→Prop}{E:BA→CA→Prop}{l:EA}{its:RA BA}{n:Nat}{x:BA}(hl:IsL s.heap l its n)(hz:its.size≤1000000)
  (q:∀h' n',IsL h' l (its.push x) n'→ZD l s.heap h'→Q .none { s with heap:=h' }):FA b.M A (call (.builtin "list.append") [.ref l,x]) Q E s:=
 call_meets F.slot_list_append ⟨_,hl,rfl⟩ F.entry_list_append (F.args_list_append_2 _ _) (PySem.list_append l its n x (by rw[HB];exact lz)) ⟨hl,q _ _ (IsL.update hl _) (QB ..)⟩
theorem IfsC.wp(q:IfsC b h F loc mem ifs c){A:XA}{s:CA}{ρ:Rho}{L:EA}{Q:NB→CA→Prop}{E:BA→CA→Prop}(hA:Ht h A)(r:R b ρ mem s)(fm:Fm b L (F L).cells ρ loc s)(z:∀ρ' s',R b ρ' mem s'→Ext NoS ρ s ρ' s'→Q c s'):wpIfs b.M A ifs (F L) Q E s:=by
 cases q with
 | nil=>exact z ρ s r (Ext.refl _ _ _)
 | one x=>exact x A s ρ L Q E hA r fm z
theorem aZ.nil_inv{elt:Expr}{ifs:AA Expr}(q:aZ b h F t elt ifs base m0 [] outs):outs=[]:=by cases q;rfl
inductive CTurn(b:Bs)(h:Nat)(F:EA→Env)(t elt:Expr)(ifs:AA Expr)(base:AA (Str×AV))(mem:AA AO)(v:AV)(vs outs:AA AV):Prop
 | take (x:AV) (xs:AA AV) (lv:AA (Str×AV)) (e:outs=x :: xs) (ha:AsgC b F t v base lv) (hl:∀y w,base.lookup y=some w→lv.lookup y=some w) (hi:IfsC b h F lv mem ifs true) (he:aE b h F elt lv mem x mem) (hr:aZ b h F t elt ifs base mem vs xs)
 | skip (lv:AA (Str×AV)) (ha:AsgC b F t v base lv) (hl:∀y w,base.lookup y=some w→lv.lookup y=some w) (hi:IfsC b h F lv mem ifs false) (hr:aZ b h F t elt ifs base mem vs outs)
theorem aZ.cons_inv{elt:Expr}{ifs:AA Expr}{vs:AA AV}(q:aZ b h F t elt ifs base m0 (v :: vs) outs):CTurn b h F t elt ifs base m0 v vs outs:=by
 cases q with
 | take ha hl hi he hr=>exact .take _ _ _ rfl ha hl hi he hr
 | skip ha hl hi hr=>exact .skip _ ha hl hi hr
inductive CInv(b:Bs)(h:Nat)(F:EA→Env)(t elt:Expr)(ifs:AA Expr)(base:AA (Str×AV))(m0:AA AO)(items outs:AA AV)(C acc:EA)(W:AA EA)(P:Nat→Rho→CA→Prop)(ρh:Rho)(sh:CA)(j:Nat)(s:CA):Prop
 | mk (k:Nat) (ρ:Rho) (done todo:AA AV) (its:RA BA) (n:Nat) (hkj:k+j=items.length) (hrun:aZ b h F t elt ifs base m0 (items.drop k) todo) (ho:outs=done++todo) (hdk:done.length≤k) (r:R b ρ m0 s) (fm:Fm b C (F C).cells ρ base s) (hP:P k ρ s) (hW:∀c∈W,c∈ρ.hid) (ha:acc∈ρ.hid) (haW:acc∉W)
   (hacc:IsL s.heap acc its n) (hdone:VRs s.heap ρ done its.toList) (x0:Ext (fun c=>c=C∨c∈W∨c=acc) ρh sh ρ s)
theorem pL(B:aC b){it:EA}{W:AA EA}{P:Nat→Rho→CA→Prop}(I:ItR b h t it W items Mm P){A:XA}{C:EA}(hA:Ht h A){scope:Scope}{acc:EA}(hm:Mm m0)(hz:items.length≤1000000)(hif:ifs=[]∨∃c,ifs=[c])
  {RR:Result→CA→Prop}{ρh:Rho}{sh:CA}
  (Qn:∀ρ' s' its n,R b ρ' m0 s'→Ext (fun c=>c=C∨c∈W∨c=acc) ρh sh ρ' s'→IsL s'.heap acc its n→VRs s'.heap ρ' outs its.toList→(∃m,s'.heap.Ns C m)→RR (.ok .next) s'):
  ∀(j:Nat) (s:CA),CInv b h F t elt ifs base m0 items outs C acc W P ρh sh j s→
   codeAny b.M A (.compLoop (.ListComp elt [⟨t,iter,ifs,0⟩] scope pos) 0 (.ref it) (.ref acc) (F C)) RR s:=by
 intro j s hI
 refine codeAny_loop rfl (CInv b h F t elt ifs base m0 items outs C acc W P ρh sh) ?_ j hI
 rintro j s ⟨k,ρ,done,todo,its,n,hkj,hrun,ho,hdk,r,fm,hP,hW,ha,haW,hacc,hdone,x0⟩
 show FA _ _ ((compTurn (.ListComp elt [⟨t,iter,ifs,0⟩] scope pos) 0 (.ref it) (.ref acc) (F C)).onRaise (fun x=>do noteFrame x (F C);theTreesLotGoes x)) _ _ s
 refine wpAny_noted (zG hif ?_)
 have hA':Ht h (A.under (.compLoop (.ListComp elt [⟨t,iter,ifs,0⟩] scope pos) 0 (.ref it) (.ref acc) (F C))):=hA
 cases e:items.drop k with
 | nil=>
  rw[e] at hrun
  obtain rfl:=hrun.nil_inv
  rw[ZB] at ho
  have hk:items[k]?= none:=by rw[← List.head?_drop,e];rfl
  refine CB (I.fin (Q:=fun s1=>RR (.ok .next) s1) hA' r hm hP hW hk fun s1 r1 kp hv=>?_) (fun q s1 z=>by cases q with|none=>exact z|some _=>exact z.elim) fun x9 x9 z=>z
  have f1:=fm.keepW kp hW hv
  refine o12 f1.ns fun m hns x9=>?_
  refine Qn ρ s1 its n r1 (x0.trans ((kp.ext (ρ:=ρ) (fun x9=>False)).mono fun c q=>q.elim (fun q=>q.elim) fun q=>.inr (.inl q))) (kp.keep _ _ hacc haW) (by rw[ho];exact kp.vrs hW hdone) ⟨m,hns⟩
 | cons v vs=>
  rw[e] at hrun
  have hk:items[k]?= some v:=by rw[← List.head?_drop,e];rfl
  have hd:items.drop (k+1)=vs:=by rw[← List.drop_drop,e];rfl
  have hlt:k < items.length:=by
   rcases Nat.lt_or_ge k items.length with q|q
   ·exact q
   ·rw[List.drop_eq_nil_of_le q] at e;cases e
  refine CB (I.item hA' r hm hP hW hk (Q:=fun mv s1=>FA b.M _ (assign t (F C) mv) _ _ s1) fun s1 mv r1 hP1 h1 kp hv=>?_) (fun q s1 z=>by cases q with|none=>exact z.elim|some _=>exact z) fun x9 x9 z=>z
  have f1:=fm.keepW kp hW hv
  have x1:=x0.trans ((kp.ext (ρ:=ρ) (fun x9=>False)).mono (S':=fun c=>c=C∨c∈W∨c=acc) fun c q=>q.elim (fun q=>q.elim) fun q=>.inr (.inl q))
  have hC:C∉ρ.all:=(fm.off C (.inl rfl)).1
  have acC:acc≠C:=fun q=>hC (q▸Rho.mem_hid ha)
  have acr:∀{ρ':Rho}{s':CA}{S:EA→Prop},R b ρ' m0 s'→acc∈ρ'.hid→acc∉ρ'.rows.flatten:=fun r' hh=>mD r'.nd hh
  have hacc1:IsL s1.heap acc its n:=kp.keep _ _ hacc haW
  have hdone1:=kp.vrs hW hdone
  have st:∀{ρ3:Rho}{s3:CA},Ext (·= C) ρ s1 ρ3 s3→P (k+1) ρ3 s3∧(∀c∈W,c∈ρ3.hid)∧acc∈ρ3.hid∧IsL s3.heap acc its n∧VRs s3.heap ρ3 done its.toList∧Ext (fun c=>c=C∨c∈W∨c=acc) ρh sh ρ3 s3:=fun x3=>
   ⟨I.stable hP1 x3 (fun c hc=>hc▸f1.free C (.inl rfl)) (fun c hc q=>hC (q▸Rho.mem_hid (hW c hc))) r1.nd hW,fun c hc=>by rw[x3.hid];exact hW c hc,by rw[x3.hid];exact ha,
    x3.keep _ _ hacc1 acC (mD r1.nd ha) (.cls rfl),x3.vrs (fun c hc=>hc▸f1.free C (.inl rfl)) hdone1,x1.trans (x3.mono fun x9 q=>.inl q)⟩
  have go:∀{lv:AA (Str×AV)}{cc:NB}{Q2:NB→CA→Prop}{E1:BA→CA→Prop},AsgC b F t v base lv→IfsC b h F lv m0 ifs cc→(∀ρ3 s3,R b ρ3 m0 s3→Fm b C (F C).cells ρ3 lv s3→Ext (·= C) ρ s1 ρ3 s3→Q2 cc s3)→
    FA b.M (A.under (.compLoop (.ListComp elt [⟨t,iter,ifs,0⟩] scope pos) 0 (.ref it) (.ref acc) (F C))) (assign t (F C) mv) (fun x9 s3=>wpIfs b.M (A.under (.compLoop (.ListComp elt [⟨t,iter,ifs,0⟩] scope pos) 0 (.ref it) (.ref acc) (F C))) ifs (F C) Q2 E1 s3) E1 s1:=fun ha hi hz=>
   ha _ s1 ρ C mv m0 _ _ hA'.2.2 r1 f1 h1 fun s2 r2 f2 x2=>hi.wp hA' r2 f2 fun ρ3 s3 r3 x3=>hz ρ3 s3 r3 (f2.ext x3) (x2.trans (x3.mono fun x9 q=>q.elim))
  cases hrun.cons_inv with
  | take x xs lv et ht hl hi he hr=>
   subst et
   refine go ht hi fun ρ3 s3 r3 f3 x3=>?_
   refine he _ s3 ρ3 C _ _ hA' r3 f3 fun ρ4 s4 mx r4 x4 h4=>?_
   have x34:Ext (·= C) ρ s1 ρ4 s4:=x3.trans (x4.mono fun x9 q=>q.elim)
   refine o06 (st x34) fun a1 a2 a3 a4 a5 a6=>?_
   have zn:its.size=done.length:=by rw[← a5.length,QA]
   refine mV a4 (by clear st go;lia) fun h' n' hl' hs'=>?_
   have kW:Keep [acc] s4 { s4 with heap:=h' }:=Keep.upd (tk:=s4.toks) hs' (by simp) ⟨_,hl'⟩
   have hW1:∀c∈[acc],c∈ρ4.hid:=fun c hc=>by rw[HA] at hc;subst hc;exact a3
   have r5:R b ρ4 m0 { s4 with heap:=h',toks:=s4.toks }:=r4.keepW B kW hW1
   have f5:Fm b C (F C).cells ρ4 base { s4 with heap:=h',toks:=s4.toks }:=((f3.ext x4).keepW kW hW1 fun q=>kW.vr hW1 q).weak hl
   have x5:Ext (·= acc) ρ4 s4 ρ4 { s4 with heap:=h',toks:=s4.toks }:=(kW.ext (ρ:=ρ4) (fun x9=>False)).mono fun c q=>q.elim (fun q=>q.elim) fun q=>by simpa using q
   refine ⟨rfl,j - 1,by clear st go;lia,k+1,ρ4,done++[x],xs,its.push mx,n',by clear st go;lia,hd▸hr,by rw[ho];simp,by rw[PA];exact EH hdk,r5,f5,?_,a2,a3,haW,hl',?_,a6.trans (x5.mono fun x9 q=>.inr (.inr q))⟩
   ·exact I.stable a1 x5 (fun c hc=>.inl (Rho.mem_hid (hc▸a3))) (fun c hc q=>haW (q▸hc)) r4.nd a2
   ·rw[MF]
    exact (kW.vrs hW1 a5).append (.cons (kW.vr hW1 h4) .nil)
  | skip lv ht hl hi hr=>
   refine go ht hi fun ρ3 s3 r3 f3 x3=>?_
   refine o06 (st x3) fun a1 a2 a3 a4 a5 a6=>?_
   exact ⟨rfl,j - 1,by clear st go;lia,k+1,ρ3,done,_,its,n,by clear st go;lia,hd▸hr,ho,Nat.le_succ_of_le hdk,r3,f3.weak hl,a1,a2,a3,haW,a4,a5,a6⟩
theorem R.push_hid{ρ:Rho}{s:CA}(r:R b ρ mem s)(o:Obj)(hf:o.isFreed=false):R b (ρ.hide [s.heap.objs.size]) mem { s with heap:=s.heap.push o }∧(∀{u:AV}{mu:BA},VR s.heap ρ u mu→VR (s.heap.push o) (ρ.hide [s.heap.objs.size]) u mu):=by
 have nw:s.heap.get? s.heap.objs.size=none:=aP (MA _)
 have r':=r.push' o
 have hW:∀c∈[s.heap.objs.size],s.heap.get? c=none:=fun c hc=>by rw[HA] at hc;subst hc;exact nw
 have fr:∀a∈(ρ.hide [s.heap.objs.size]).all,Free s.heap ρ a:=fun a ha=>by
  rcases mam ha with q|q
  ·exact .inl (Rho.mem_rows q)
  ·rcases mam q with q|q
   ·exact .inr (.inl (hW a q))
   ·exact .inl (Rho.mem_hid q)
 have mv:∀{u:AV}{mu:BA},VR s.heap ρ u mu→VR (s.heap.push o) (ρ.hide [s.heap.objs.size]) u mu:=fun q=>q.move (ρ:=ρ) (ρ':=ρ.hide [s.heap.objs.size]) (fun x9=>False) (fun c o' e x9=>gps o e) (fun x9 q=>q.elim) (fun x9 x9 e=>e) fr
 have mvs:∀{u:AA AV}{mu:AA BA},VRs s.heap ρ u mu→VRs (s.heap.push o) (ρ.hide [s.heap.objs.size]) u mu:=fun q=>q.move (ρ:=ρ) (ρ':=ρ.hide [s.heap.objs.size]) (fun x9=>False) (fun c o' e x9=>gps o e) (fun x9 q=>q.elim) (fun x9 x9 e=>e) fr
 have nin:s.heap.objs.size∉ρ.all:=fun q=>JB _ (r.lt q)
 refine ⟨⟨r'.old,r'.lim,r'.bare,r'.os,r'.tab,r.ors.move mv mvs (fun a x9 o' e=>gps o e),?_,fun a ha=>?_,fun a ha=>?_⟩,mv⟩
 ·have n:=r.nd
  unfold Rho.all at n
  refine o03 (JA.mp n) fun n1 n2 n3=>?_
  show (ρ.rows.flatten++([s.heap.objs.size]++ρ.hid)).Nodup
  refine JA.mpr ⟨n1,JA.mpr ⟨by simp,n2,fun a ha c hc e=>?_⟩,fun a ha c hc e=>?_⟩
  ·rw[HA] at ha;subst ha;exact nin (e▸Rho.mem_hid hc)
  ·rcases mam hc with q|q
   ·rw[HA] at q;subst q;exact nin (e▸Rho.mem_rows ha)
   ·exact n3 a ha c q e
 ·rcases mam ha with q|q
  ·exact r.new a (Rho.mem_rows q)
  ·rcases mam q with q|q
   ·rw[HA] at q;subst q;exact r.fresh
   ·exact r.new a (Rho.mem_hid q)
 ·rcases mam ha with q|q
  ·rw[HA] at q;subst q;exact ⟨o,gpz _ hf⟩
  ·exact r'.hid a q
noncomputable def ownNames(scope:Scope)(env:Env):AA (Str×NameKind):=
 scope.names.map fun (n,k)=>if (k == .free && env.scope.kind == .function && env.kindOf n == some .cell) then (n,.cell) else (n,k)
theorem aBh{M:WH}{A:XA}{env:Env}{s:CA}{scope:Scope}{cl:AA (Str×EA)}{Q:BA→CA→Prop}{E:BA→CA→Prop}(hs:∀x,JD iter env x=pure x)
  (hcl:closureFor scope env=pure cl) (hkind:scope.kind=.function) (hnames:∀x∈scope.names,x.2=.local→(ownNames scope env).lookup x.1=some .local)
  (h:FA M A (eval iter env) (fun x s₁=>FA M A (pyIter x) (fun it s₂=>FA M A (newList []) (fun acc s₃=>
   FA M A (newFunctionEnv scope env.globals cl [] env.qual none .none (some env)) (fun cenv s₄=>
    codeAny M A (.compStart (.ListComp elt [⟨t,iter,ifs,0⟩] scope pos) 0 it acc { cenv with scope:={ scope with names:=ownNames scope env } }) (fun r s'=>∃f m,r=.ok f∧s'.heap.Ns cenv.locals m∧∀h',ZD cenv.locals s'.heap h'→Q acc { s' with heap:=h' }) s₄) E s₃) E s₂) E s₁) E s):
  FA M A (eval (.ListComp elt [⟨t,iter,ifs,0⟩] scope pos) env) Q E s:=by
 rw[eval_ListComp]
 unfold comprehension
 rw[hcl]
 refine wb (CB (show FA M A (firstIter [⟨t,iter,ifs,0⟩] env) _ E s from h) (fun x s₁ h₁=>wb (ME (wb (IC (hs x) (wb (TA (CB h₁ (fun it s₂ h₂=>
  wpAny_standIf (wb (CB h₂ (fun acc s₃ h₃=>wb (wp (wb (CB h₃ (fun cenv s₄ h₄=>?_) fun x9 x9 h'=>h')))) fun x9 x9 h'=>h')))
   fun x9 x9 h'=>h'))))))) fun x9 x9 h'=>h')
 dsimp only
 refine TA (wb (NE (TA (wpAny_run (codeAny_mono h₄ fun r s' hr=>?_)))))
 obtain ⟨f,m,rfl,hn,hr⟩:=hr
 refine wb (TA (wpAny_comp_letGo (cenv:={ cenv with scope:={ scope with names:=ownNames scope env } }) hkind _ s' m (fun x hx hl=>?_) hn fun h' m' x9 hs'=>wp (hr h' hs')))
 exact hnames x ((List.mem_filter.mp (List.mem_reverse.mp hx)).1) hl
variable {m1 rest:AA AO}
noncomputable def compF(scope:Scope)(cl:AA (Str×EA))(env:Env)(C:EA):Env:={ newEnv scope C env.globals cl env.qual none .none (some env) DC with scope:={ scope with names:=ownNames scope env } }
theorem aEm(B:aC b)(f:aS F){scope:Scope}{cl:EA→AA (Str×EA)}(x:aE b h F iter loc mem v m1)(hi:cB b h t v m1 items Mm m0 rest)(hm:Mm m0)(hz:items.length≤1000000)
  (hif:ifs=[]∨∃c,ifs=[c])
  (hr:∀L,aZ b h (compF scope (cl L) (F L)) t elt ifs base m0 items outs)
  (hcl:∀L,closureFor scope (F L)=pure (cl L)) (hcs:∀L,∀p∈cl L,p∈(F L).cells) (hap:∀L,((cl L).map (·.2)).Nodup)
  (hb:∀y w,base.lookup y=some w→loc.lookup y=some w∧(rest=[]∨w.under m0.length=true)∧∀L,(cl L).lookup y=(F L).cells.lookup y∧((cl L).lookup y).isSome=true)
  (hs:DA (∀L x,JD iter (F L) x=pure x) q13)
  (hkind:DA (scope.kind=.function) q9) (hnc:DA (∀x∈scope.names,x.2≠.cell) q10)
  (hnames:∀L,∀x∈scope.names,x.2=.local→(ownNames scope (F L)).lookup x.1=some .local):
  aE b h F (.ListComp elt [⟨t,iter,ifs,0⟩] scope pos) loc mem (.lst outs) (m0++rest):=fun A s ρ L Q E hA r fm q=>by
 refine aBh (hs L) (hcl L) hkind (hnames L) (x A s ρ L _ E hA r fm fun ρ1 s1 mv r1 x1 h1=>hi A s1 ρ1 mv _ E hA r1 h1 fun it W P ρh sh rh I hP hW hW2 back hall hv hk=>?_)
 refine wpAny_newList ?_
 refine o02 (rh.push_hid { cls:=.type "list",data:=.seq ([]:AA BA).toArray } rfl) fun ra va=>?_
 have nacc:sh.heap.get? sh.heap.objs.size=none:=aP (MA _)
 have hPa:P 0 (ρh.hide [sh.heap.objs.size]) { sh with heap:=sh.heap.push { cls:=.type "list",data:=.seq ([]:AA BA).toArray } }:=
  I.more hP (fun c o e=>gps _ e) fun c hc=>by rw[HA] at hc;subst hc;exact nacc
 have hga:((sh.heap.push { cls:=.type "list",data:=.seq ([]:AA BA).toArray }):PB).get? sh.heap.objs.size=some { cls:=.type "list",data:=.seq ([]:AA BA).toArray }:=gpz _ rfl
 refine ZG hnc (fun x hx=>nomatch hx) (fun h4 hns hsb=>?_) hkind
 have kp:∀c o,(sh.heap.push { cls:=.type "list",data:=.seq ([]:AA BA).toArray }:PB).get? c=some o→h4.get? c=some o:=fun c o e=>by
  refine hsb.extBut c o (GC (DB e)) (gps _ e)
 have nC:(sh.heap.push { cls:=.type "list",data:=.seq ([]:AA BA).toArray }:PB).get? (sh.heap.push { cls:=.type "list",data:=.seq ([]:AA BA).toArray }).objs.size=none:=aP (MA _)
 have szA:(sh.heap.push { cls:=.type "list",data:=.seq ([]:AA BA).toArray }:PB).objs.size=sh.heap.objs.size+1:=VE ..
 generalize hC:(sh.heap.push { cls:=.type "list",data:=.seq ([]:AA BA).toArray }:PB).objs.size=C at *
 generalize hacc:sh.heap.objs.size=acc at *
 have r4:R b (ρh.hide [acc]) m0 { sh with heap:=h4,toks:=sh.toks+0 }:=ra.keeps kp sh.gens ra.bare sh.drawn (sh.toks+0)
 have hP4:P 0 (ρh.hide [acc]) { sh with heap:=h4,toks:=sh.toks+0 }:=by
  have:=I.more (H:=[]) (s':={ sh with heap:=h4,toks:=sh.toks+0 }) hPa kp (fun c hc=>nomatch hc)
  exact this
 have v4:∀{u:AV}{mu:BA},VR sh.heap ρh u mu→VR h4 (ρh.hide [acc]) u mu:=fun z=>(va z).move (ρ:=ρh.hide [acc]) (ρ':=ρh.hide [acc]) (fun x9=>False) (fun c o e x9=>kp c o e) (fun x9 h=>h.elim) (fun x9 x9 e=>e) fun a ha=>.inl ha
 have k4:∀c o,sh.heap.get? c=some o→h4.get? c=some o:=fun c o e=>kp c o (gps _ e)
 have CnA:C≠acc:=by lia
 have Cn:C∉(ρh.hide [acc]).all:=fun z=>JB _ (by have:=ra.lt z;rw[hC] at this;exact this)
 have Cb:b.s₁.heap.get? C=none:=by
  cases e:b.s₁.heap.get? C with
  | none=>rfl
  | some o=>refine o11 (ra.old.there C o e) fun o' e'=>?_;rw[nC] at e';cases e'
 have fm1:Fm b L (F L).cells ρ1 loc s1:=fm.ext x1
 have cells4:∀p∈cl L,∃v,h4.IsCell p.2 v:=fun p hp=>by
  refine o22 (fm1.cel p (hcs L p hp)) fun v0 oc e d=>?_
  exact ⟨v0,oc,k4 _ _ (hk _ _ e),d⟩
 have off4:∀p∈cl L,p.2∉(ρh.hide [acc]).all∧b.s₁.heap.get? p.2=none:=fun p hp=>by
  refine o02 (fm1.off p.2 (.inr ⟨p,hcs L p hp,rfl⟩)) fun z1 z2=>?_
  refine o22 (fm1.cel p (hcs L p hp)) fun v0 oc e d=>?_
  refine ⟨fun z=>?_,z2⟩
  have z3:=hall p.2 z1 ⟨oc,e⟩
  rcases mam z with z|z
  ·exact z3 (Rho.mem_rows z)
  ·rcases mam z with z|z
   ·rw[HA] at z;have:=hk _ _ e;rw[z,nacc] at this;cases this
   ·exact z3 (Rho.mem_hid z)
 have f4:Fm b C (cl L) (ρh.hide [acc]) base { sh with heap:=h4,toks:=sh.toks+0 }:=by
  refine ⟨⟨_,hns,fun y w hy=>?_⟩,fun c hc=>?_,cells4,hap L⟩
  ·refine o03 (hb y w hy) fun b1 b2 b3=>?_
   refine o12 fm1.ns fun m x9 hm'=>?_
   have z:=hm' y w b1
   unfold bO at z ⊢
   rw[(b3 L).1]
   have b5:=(b3 L).2
   rw[(b3 L).1] at b5
   cases e:(F L).cells.lookup y with
   | none=>rw[e] at b5;cases b5
   | some cc=>
    rw[e] at z
    refine o12 z fun mw x0 z3=>?_;clear z;refine o12 x0 fun oc z1 z2=>?_;clear x0
    exact ⟨mw,⟨oc,k4 _ _ (hk _ _ z1),z2⟩,v4 (hv z3 b2)⟩
  ·rcases hc with rfl|⟨p,hp,rfl⟩
   ·exact ⟨Cn,Cb⟩
   ·exact off4 p hp
 have haW:acc∉W:=fun z=>by
  refine o11 (rh.hid acc (hW acc z)) fun o e=>?_
  rw[nacc] at e;cases e
 show codeAny b.M A (.compStart (.ListComp elt [⟨t,iter,ifs,0⟩] scope pos) 0 (.ref it) (.ref acc) (compF scope (cl L) (F L) C)) _ _
 have loop:codeAny b.M A (.compLoop (.ListComp elt [⟨t,iter,ifs,0⟩] scope pos) 0 (.ref it) (.ref acc) (compF scope (cl L) (F L) C)) (fun r s'=>∃f m,r=.ok f∧s'.heap.Ns C m∧∀h',ZD C s'.heap h'→Q (.ref acc) { s' with heap:=h' }) { sh with heap:=h4,toks:=sh.toks+0 }:=by
  refine pL B I (F:=compF scope (cl L) (F L)) hA hm hz hif (outs:=outs) (base:=base) (fun ρ' s' its n r' x' hl' ho' hns'=>?_) items.length _ ⟨0,ρh.hide [acc],[],outs,#[],0,by lia,hr L,rfl,MA _,r4,f4,hP4,fun c hc=>WA.mpr (.inr (hW c hc)),WA.mpr (.inl (by simp)),haW,kp _ _ hga,.nil,Ext.refl _ _ _⟩
  obtain ⟨m,hns'⟩:=hns'
  refine ⟨.next,m,rfl,hns',fun h' hs'=>?_⟩
  have eh:ρ'.hid=[acc]++ρh.hid:=x'.hid
  have accA:acc∈ρ'.hid:=by rw[eh];simp
  have CnR:C∉ρ'.all:=fun z=>by
   rcases x'.all C z with z|z
   ·exact Cn z
   ·refine o32 hns fun o es ep e x9=>?_;clear hns
    rw[show (({ sh with heap:=h4,toks:=sh.toks+0 }:CA).heap.get? C)=h4.get? C from rfl,e] at z;cases z
  have fC:Free s'.heap ρ' C:=.ns hns'
  have r5:R b ρ' m0 { s' with heap:=h' }:=r'.same B hs' Cb CnR fC s'.gens r'.bare s'.drawn s'.toks
  have v5:∀{u:AV}{mu:BA},VR s'.heap ρ' u mu→VR h' ρ' u mu:=fun z=>z.move (ρ:=ρ') (ρ':=ρ') (·= C) (fun c o e n=>(hs'.2 c n).trans e) (fun c e=>e▸fC) (fun x9 x9 e=>e) fun a ha=>.inl ha
  have vs5:∀{u:AA AV}{mu:AA BA},VRs s'.heap ρ' u mu→VRs h' ρ' u mu:=fun z=>z.move (ρ:=ρ') (ρ':=ρ') (·= C) (fun c o e n=>(hs'.2 c n).trans e) (fun c e=>e▸fC) (fun x9 x9 e=>e) fun a ha=>.inl ha
  have r6:R b ⟨ρ'.rows,ρh.hid⟩ m0 { s' with heap:=h' }:=r5.unhide eh
  have nd':=r5.nd
  unfold Rho.all at nd'
  rw[eh] at nd'
  refine o03 (JA.mp nd') fun n1 n2 n3=>?_
  have accN:acc∉(⟨ρ'.rows,ρh.hid⟩:Rho).all:=fun z=>by
   rcases mam z with z|z
   ·exact n3 acc z acc (by simp) rfl
   ·exact (JA.mp n2).2.2 acc (by simp) acc z rfl
  have hl6:h'.get? acc=some { cls:=.type "list",dict:=none,data:=.seq its n,slots:=#[] }:=(hs'.2 acc CnA.symm).trans hl'
  have sub:∀c∈ρh.hid,c∈ρ'.hid:=fun c hc=>by rw[eh];exact WA.mpr (.inr hc)
  have vl:VR h' ⟨ρ'.rows,ρh.hid⟩ (.lst outs) (.ref acc):=.lst hl6 accN ((vs5 ho').show' (ρ:=ρ') (ρ':=⟨ρ'.rows,ρh.hid⟩) rfl sub)
  have xx:Ext (fun c=>NoS c∨c∈W) ρh sh ⟨ρ'.rows,ρh.hid⟩ { s' with heap:=h' }:=by
   have ne:∀c o,sh.heap.get? c=some o→c≠C∧c≠acc:=fun c o e=>⟨fun z=>(by have:=gps ({ cls:=.type "list",data:=.seq ([]:AA BA).toArray }:Obj) e;rw[z,nC] at this;cases this),fun z=>(by rw[z,nacc] at e;cases e)⟩
   refine ⟨fun c o e n hc kq=>?_,x'.pre,fun a ha=>?_,rfl,fun c o e=>?_⟩
   ·refine o02 (ne c o e) fun z1 z2=>?_
    exact (hs'.2 c z1).trans (x'.keep c o (k4 c o e) (fun z=>z.elim z1 fun z=>z.elim (fun z=>n (.inr z)) z2) hc kq)
   ·rcases x'.new a ha with z|z
    ·exact .inl z
    ·right
     cases e:sh.heap.get? a with
     | none=>rfl
     | some o=>have:=k4 a o e;rw[show (({ sh with heap:=h4,toks:=sh.toks+0 }:CA).heap.get? a)=h4.get? a from rfl] at z;rw[z] at this;cases this
   ·refine o02 (ne c o e) fun z1 z2=>?_
    refine o11 (x'.live c o (k4 c o e)) fun o1 e1=>?_
    exact ⟨o1,(hs'.2 c z1).trans e1⟩
  refine o11 (back NoS ⟨ρ'.rows,ρh.hid⟩ { s' with heap:=h' } m0 (fun c hc=>hc.elim) r6 rfl xx) fun ρ3 x0=>?_;refine o04 x0 fun r7 x7 v7 n7=>?_;clear x0
  exact q ρ3 _ _ r7 (x1.trans x7) (v7 vl)
 refine codeAny_compStart_list loop (I.self hP4 loop)
variable {mem' m2 m3:AA AO}{p2:Pos}{l:AA AV}{i:Int}{n:Nat}
noncomputable def GetV(b:Bs)(h:Nat)(o i:AV)(mem:AA AO)(v:AV):Prop:=
 ∀(A:XA) (s:CA) (ρ:Rho) (mo mi:BA) (Q:BA→CA→Prop) (E:BA→CA→Prop),Ht h A→R b ρ mem s→VR s.heap ρ o mo→VR s.heap ρ i mi→
  (∀s' mv,R b ρ mem s'→Ext NoS ρ s ρ s'→VR s'.heap ρ v mv→Q mv s')→FA b.M A (getitemInPython mo) (fun r s1=>r=false∧FA b.M A (getItem mo mi) Q E s1) E s
theorem inPy{A:XA}{s:CA}{mo:BA}{T id:String}{Q:NB→CA→Prop}{E:BA→CA→Prop}(hT:s.TypeIs mo T)(hl:typeLookup (.type T) "__getitem__" = pure (some (.builtin id)))(q:Q false s):FA b.M A (getitemInPython mo) Q E s:=by
 rw[getitemInPython_of_ne hT.not_modules]
 exact wb (CF hT hl (wp q))
theorem bP(x:aE b h F e1 loc mem v1 m1)(y:aE b h F e2 loc m1 v2 m2)(g:GetV b h v1 v2 m2 v)(hs:DA (∀o i,subscripted e2 false o i=operate [o,i] (getItem o i)) q13):aE b h F (.Subscript e1 e2 pos) loc mem v m2:=fun A s ρ L Q E hA r fm q=>by
 rw[eval_Subscript]
 refine wb (x A s ρ L _ E hA r fm fun ρ1 s1 mo r1 x1 h1=>?_)
 refine wb (TA (y A s1 ρ1 L _ E hA r1 (fm.ext x1) fun ρ2 s2 mi r2 x2 h2=>?_))
 refine wb (ME (wb (CB (g A s2 ρ2 mo mi (fun mv s3=>FA b.M A (letTemporaryGo e1 mo mv>>=fun x9=>pure mv) Q E s3) E hA r2 (x2.vr0 h1) h2 fun s3 mv r3 x3 h3=>?_) (fun rr s3 z=>?_) fun x9 x9 z=>z)))
 ·exact wb (wpAny_letTemporaryGo (wp (q ρ2 s3 mv r3 ((x1.trans x2).trans x3) h3)))
 ·obtain ⟨rfl,z⟩:=z
  rw[hs]
  exact wb (wpAny_operating z)
theorem oG{k:Nat}(hk:seqIndex? i n=some k):k < n∧(0≤i∧k=i.toNat∨i < 0∧-(n:Int)≤i∧k=(i+n).toNat):=by
 unfold seqIndex? at hk
 by_cases h0:i < 0
 ·simp only[h0,if_true] at hk
  split at hk
  ·rename_i hh
   simp only[VA,PC] at hh
   simp only[Option.some.injEq] at hk
   lia
  ·cases hk
 ·simp only[h0,CG] at hk
  split at hk
  ·rename_i hh
   simp only[VA,PC] at hh
   simp only[Option.some.injEq] at hk
   lia
  ·cases hk
theorem rZ{A:XA}{s:CA}{a:EA}{its:RA BA}{t:Tok}{k:Nat}{mv:BA}{Q:BA→CA→Prop}{E:BA→CA→Prop}(hl:s.heap.IsList a its)(hz:its.size≤1000000)(hk:seqIndex? i its.size=some k)(e:its[k]?= some mv)(q:Q mv s):
  FA b.M A (getItem (.ref a) (.int i t)) Q E s:=by
 refine o02 (oG hk) fun h1 h2=>?_
 rcases h2 with ⟨h2,rfl⟩| ⟨h2,h3,rfl⟩
 ·exact wpAny_getItem_list hl h2 (by lia) e q
 ·exact wpAny_getItem_list_neg hl h2 h3 (by lia) e q
theorem eA{k:Nat}(hl:LV mem v1 l)(hz:l.length≤1000000)(hk:seqIndex? i l.length=some k)(e:l[k]?= some v):GetV b h v1 (.int i) mem v:=fun A s ρ mo mi Q E hA r ho hi q=>by
 refine o33 (hl.at r ho) fun a its n x0 ea hvs=>?_;subst x0
 cases hi with|int t=>
 have z:=hvs.length
 rw[QA] at z
 refine o12 (cC hvs e) fun mv x1 x2=>?_
 have hL:s.heap.IsList a its:=⟨_,ea,rfl,n,rfl⟩
 exact inPy hL.typeIs slot_list_getitem.lookup ⟨rfl,rZ hL (by lia) (by rw[z];exact hk) x1 (q s mv r (Ext.refl _ _ _) x2)⟩
theorem jC{k:Nat}(hz:l.length≤1000000)(hk:seqIndex? i l.length=some k)(e:l[k]?= some v):GetV b h (.tup l) (.int i) mem v:=fun A s ρ mo mi Q E hA r ho hi q=>by
 cases ho with|tup ea ha hvs=>
 rename_i a its n
 cases hi with|int t=>
 have z:=hvs.length
 rw[QA] at z
 refine o12 (cC hvs e) fun mv x1 x2=>?_
 refine o02 (oG hk) fun h1 h2=>?_
 exact inPy ⟨_,ea,rfl⟩ F.slot_tuple_getitem.lookup ⟨rfl,P.getItem_tuple ea (by lia) (by lia) (by rw[z];exact hk) x1 (q s mv r (Ext.refl _ _ _) x2)⟩
theorem mX{x:Str}{cc:Nat}(hz:x.length≤1000000)(e:(seqIndex? i x.length).bind (x.cps[·]?)=some cc):GetV b h (.str x) (.int i) mem (.str ⟨#[cc]⟩):=fun A s ρ mo mi Q E hA r ho hi q=>by
 cases ho with|str t=>
 cases hi with|int u=>
 have hr:(decide (i < -(2 ^ 63:Int)) || decide (i≥2 ^ 63))=false:=by
  cases hk:seqIndex? i x.length with
  | none=>rw[hk] at e;cases e
  | some k=>refine o02 (oG hk) fun h1 h2=>?_;simp only[Bool.or_eq_false_iff,decide_eq_false_iff_not];lia
 exact inPy (typeIs_str _ _ _) F.slot_str_getitem.lookup ⟨rfl,P.getItem_str hr e (q _ _ (r.toks _) ((Ext.refl _ _ _).toks _) (.str _ _))⟩
noncomputable def eN(b:Bs)(h:Nat)(F:EA→Env)(e:YA Expr)(loc:AA (Str×AV))(mem:AA AO)(i:YA Int)(mem':AA AO):Prop:=
 ∀(A:XA) (s:CA) (ρ:Rho) (L:EA) (Q:BA→CA→Prop) (E:BA→CA→Prop),Ht h A→R b ρ mem s→Fm b L (F L).cells ρ loc s→
  (∀ρ' s' mv,R b ρ' mem' s'→Ext NoS ρ s ρ' s'→IsPart mv i→Q mv s')→FA b.M A (evalPart e (F L)) Q E s
theorem bM:eN b h F none loc mem none mem:=fun A s ρ L Q E hA r fm q=>by rw[evalPart_none];exact wp (q ρ s .none r (Ext.refl _ _ _) .none)
theorem bG(x:aE b h F e1 loc mem (.int i) m1):eN b h F (some e1) loc mem (some i) m1:=fun A s ρ L Q E hA r fm q=>by
 rw[evalPart_some]
 exact x A s ρ L Q E hA r fm fun ρ' s' mv r' x' h'=>by cases h';exact q ρ' s' _ r' x' (.int _ _)
noncomputable def pick(l:AA AV)(lo hi:YA Int):AA AV:=(l.drop (lo.elim 0 (clipAt l.length))).take (hi.elim l.length (clipAt l.length) - lo.elim 0 (clipAt l.length))
theorem sA{hp:PB}{ρ:Rho}{its:RA BA}(q:VRs hp ρ l its.toList)(lo hi:YA Int):VRs hp ρ (pick l lo hi) (slicePick its lo hi none).toList:=by
 have z:=q.length
 rw[QA] at z
 rw[slicePick_plain,z]
 exact (q.drop _).take _
theorem uI(lo hi:YA Int):(pick l lo hi).length≤l.length:=by
 unfold pick
 rw[List.length_take,AG];lia
theorem dE{a0 a1:YA Expr}{lo hi:YA Int}{l:AA AV}(x:aE b h F e1 loc mem v1 m1)(pl:eN b h F a0 loc m1 lo m2)(pu:eN b h F a1 loc m2 hi m3)(hl:LV m3 v1 l)(hz:l.length≤1000000):
  aE b h F (.Subscript e1 (.Slice a0 a1 none p2) pos) loc mem (.lst (pick l lo hi)) m3:=fun A s ρ L Q E hA r fm q=>by
 rw[eval_Subscript]
 refine wb (x A s ρ L _ E hA r fm fun ρ1 s1 mo r1 x1 h1=>?_)
 refine wb (TA (wpAny_Slice (pl A s1 ρ1 L _ E hA r1 (fm.ext x1) fun ρ2 s2 ml r2 x2 h2=>pu A s2 ρ2 L _ E hA r2 ((fm.ext x1).ext x2) fun ρ3 s3 mu r3 x3 h3=>?_)))
 rw[evalPart_none]
 refine wp (wb (ME (wb ?_)))
 refine o33 (hl.at r3 (x3.vr0 (x2.vr0 h1))) fun a its n x0 ea hvs=>?_;subst x0
 have z:=hvs.length
 rw[QA] at z
 have hL:s3.heap.IsList a its:=⟨_,ea,rfl,n,rfl⟩
 refine inPy (hL.push _).typeIs slot_list_getitem.lookup ?_
 show FA b.M A (operate [_,_] (getItem _ _)>>=_) Q E _
 refine wb (wpAny_operating (wpAny_getItem_list_slice (hL.push _) (Heap.IsSliceOf.new ..) h2 h3 .none (by simp) ?_ (by rw[z,HB];exact lz)))
 refine wb (wpAny_letTemporaryGo (wp ?_))
 let o1:Obj:={ cls:=.type "slice",data:=.fields #[ml,mu,.none] }
 have rr:=r3.push' o1
 refine q ρ3 _ _ (rr.push' _) ((((x1.trans x2).trans x3).trans (aX r3 o1)).trans (aX rr _)) ?_
 have:=iN rr (sA ((aX r3 o1).vrs0 hvs) lo hi)
 simpa using this
theorem vM{mv:BA}{i:YA Int}(q:IsPart mv i):∃p:YA (Int×Tok),mv=partValue p∧p.map (·.1)=i:=by
 cases q with
 | none=>exact ⟨none,rfl,rfl⟩
 | int i t=>exact ⟨some (i,t),rfl,rfl⟩
theorem dB{a0 a1:YA Expr}{lo hi:YA Int}{x:Str}(y:aE b h F e1 loc mem (.str x) m1)(pl:eN b h F a0 loc m1 lo m2)(pu:eN b h F a1 loc m2 hi m3)(hz:x.length≤1000000):
  aE b h F (.Subscript e1 (.Slice a0 a1 none p2) pos) loc mem (.str (OC x lo hi)) m3:=fun A s ρ L Q E hA r fm q=>by
 rw[eval_Subscript]
 refine wb (y A s ρ L _ E hA r fm fun ρ1 s1 mo r1 x1 h1=>?_)
 cases h1 with|str t=>
 refine wb (TA (wpAny_Slice (pl A s1 ρ1 L _ E hA r1 (fm.ext x1) fun ρ2 s2 ml r2 x2 h2=>pu A s2 ρ2 L _ E hA r2 ((fm.ext x1).ext x2) fun ρ3 s3 mu r3 x3 h3=>?_)))
 rw[evalPart_none]
 refine wp (wb (ME (wb ?_)))
 refine o12 (vM h2) fun pa x0 ea=>?_;subst x0
 refine o12 (vM h3) fun pb x0 eb=>?_;subst x0
 let o1:Obj:={ cls:=.type "slice",data:=.fields #[partValue pa,partValue pb,.none] }
 have rr:=r3.push' o1
 have xx:=((x1.trans x2).trans x3).trans (aX r3 o1)
 refine inPy (typeIs_str _ _ _) PySem.F.slot_str_getitem.lookup ?_
 show FA b.M A (operate [_,_] (getItem _ _)>>=_) Q E _
 refine wb (wpAny_operating (wpAny_getItem_str_slice (l:=pa) (u:=pb) (st:=none) ⟨_,gpz _ rfl,rfl,rfl⟩ rfl ?_))
 have key:∀(s4:CA) (t':Tok),R b ρ3 m3 s4→Ext NoS ρ s ρ3 s4→FA b.M A (letTemporaryGo e1 (.str x t) (.str (OC x lo hi) t')>>=fun x9=>pure (.str (OC x lo hi) t')) Q E s4:=fun s4 t' r4 x4=>
  wb (wpAny_letTemporaryGo (wp (q ρ3 s4 _ r4 x4 (.str _ _))))
 have ep:slicePicked x pa pb none=ED lo hi 1 x.length:=by unfold slicePicked;rw[ea,eb];rfl
 unfold sliceMade
 rw[ep]
 split
 ·rename_i hc
  have:=key { s3 with heap:=s3.heap.push o1 } t rr xx
  rw[show OC x lo hi=x from OB hc] at this
  exact this
 ·rename_i hc
  have hs:OC x lo hi=⟨((ED lo hi 1 x.length).filterMap (x.cps[·]?)).toArray⟩:=AB hc
  rw[hs] at key
  refine ⟨?_,key _ _ (rr.toks _) (xx.toks _)⟩
  have:=List.length_filterMap_le (x.cps[·]?) (ED lo hi 1 x.length)
  have h2:=sliceIndices_le lo hi x.length
  show ((ED lo hi 1 x.length).filterMap (x.cps[·]?)).toArray.size≤sizeLine
  rw[List.size_toArray,HB]
  lia
end
section
open Builtin Builtin.ObjectAttr
section
variable {b:Bs}{h:Nat}{F:EA→Env}{loc lv:AA (Str×AV)}{mem m1 m2:AA AO}{v:AV}{e1 e2 e3:Expr}{pos p2:Pos}{c:NB}{l:AA AV}{i:Int}{n:Nat}
theorem R.upd(B:aC b){ρ:Rho}{s:CA}(r:R b ρ mem s){i:Nat}{p:AA EA}{c:EA}{h':PB}{o':AO}{tk:Nat}(a0:ρ.rows[i]?= some p)(hc:c∈p)(hs:ZD c s.heap h')(hl:∃o,h'.get? c=some o)(ho:OR h' ρ p o'):
  R b ρ (mem.set i o') { s with heap:=h',toks:=tk }∧Ext NoS ρ s ρ { s with heap:=h',toks:=tk }:=by
 have hrows:c∈ρ.rows.flatten:=List.mem_flatten.mpr ⟨p,LB a0,hc⟩
 have hall:c∈ρ.all:=Rho.mem_rows hrows
 have cb:b.s₁.heap.get? c=none:=r.new c hall
 have kp:∀a o,s.heap.get? a=some o→a≠c→h'.get? a=some o:=fun a o e n=>(hs.2 a n).trans e
 have nb:∀a o,b.s₁.heap.get? a=some o→a≠c:=fun a o e q=>by rw[q,cb] at e;cases e
 have mv:∀{u:AV}{mu:BA},VR s.heap ρ u mu→VR h' ρ u mu:=fun q=>q.move (ρ:=ρ) (ρ':=ρ) (·= c) kp (fun a e=>e▸.inl hall) (fun x9 x9 e=>e) fun a ha=>.inl ha
 have mvs:∀{u:AA AV}{mu:AA BA},VRs s.heap ρ u mu→VRs h' ρ u mu:=fun q=>q.move (ρ:=ρ) (ρ':=ρ) (·= c) kp (fun a e=>e▸.inl hall) (fun x9 x9 e=>e) fun a ha=>.inl ha
 have n1:=(JA.mp r.nd).1
 have n3:=(JA.mp r.nd).2.2
 have lv:∀a o,s.heap.get? a=some o→∃o',h'.get? a=some o':=fun a o e=>by
  by_cases q:a=c
  ·subst q;exact hl
  ·exact ⟨o,kp a o e q⟩
 refine o12 B.lim fun mc x0 x9=>?_;refine o32 x0 fun oc x9 x9 hcc x9=>?_;clear x0
 refine ⟨⟨rN r.old cb hs.2,r.lim.sameBut hs (nb _ _ hcc),r.bare,r.os,fun t ht=>?_,ORs.set mv mvs p o' ho r.ors i n1 a0 fun a ha hn o e=>kp a o e fun q=>hn (q▸hc),r.nd,r.new,fun a ha=>let ⟨o,e⟩:=r.hid a ha;lv a o e⟩,
  ⟨fun a o e x9 ha x9=>kp a o e fun q=>ha (q▸hrows),fun x9 x9 e=>e,fun x9 h=>.inl h,rfl,lv⟩⟩
 refine o11 (r.tab t ht) fun m q=>?_
 refine o02 (B.tab t ht) fun x0 h2=>?_;refine o22 x0 fun o vs h1 x9=>?_;clear x0
 exact ⟨m,q.1.sameBut hs (nb _ _ h1) (nb _ _ h2),q.2⟩
noncomputable def isRefV:BA→NB
 | .ref _=>true
 | _=>false
noncomputable def bareEnd(l:AA BA):NB:=l.dropWhile isRefV == [.type "object"] || l.dropWhile isRefV == [.type "list",.type "object"]
theorem wQ{v:BA}(h:isRefV v=true):∃a,v=.ref a:=by
 unfold isRefV at h
 split at h
 ·exact ⟨_,rfl⟩
 ·cases h
theorem sB{P:AA BA→Prop}(h1:P [.type "object"])(h2:P [.type "list",.type "object"])(h3:∀c r,P r→P (.ref c :: r)){l:AA BA}(e:bareEnd l=true):P l:=by
 have z:P (l.dropWhile isRefV):=by
  rcases Bool.or_eq_true_iff.mp e with e|e <;> rw[eq_of_beq e]
  ·exact h1
  ·exact h2
 clear e
 induction l with
 | nil=>exact z
 | cons v r ih=>
  rw[List.dropWhile_cons] at z
  by_cases q:isRefV v=true
  ·rw[OB q] at z
   refine o11 (wQ q) fun c x0=>?_;subst x0
   exact h3 c r (ih z)
  ·rw[AB q] at z;exact z
theorem uJ(self:BA):refuseLoop self "__setattr__" [.type "list",.type "object"]=pure ():=by kernel_rfl
theorem uK(self:BA){l:AA BA}(e:bareEnd l=true):refuseLoop self "__setattr__" l=pure ():=
 sB (P:=fun l=>refuseLoop self "__setattr__" l=pure ()) (PySem.F.store_object.passes self) (uJ self) (fun c r h=>by rw[refuseLoop_ref];exact h) e
theorem aBi{l:AA BA}(e:bareEnd l=true):l.contains (.type "object")=true:=
 sB (P:=fun l=>l.contains (.type "object")=true) (by decide) (by decide) (fun c r h=>by rw[List.contains_cons,h,Bool.or_true]) e
noncomputable def takesOwn(K:Frag)(C:EA)(name:Str):NB:=CD K (.ref C) "__setattr__" == some (some (.builtin "object.__setattr__")) && (clsIn K C).any (fun cd=>bareEnd cd.mro && cd.hasDict && !cd.mro.isEmpty) && takerIn K C name == some none
theorem wR{ρ:Rho}{s:CA}(r:R b ρ mem s){i:Nat}{C:EA}{sq:YA (AA AV)}{at_:AA (Str×AV)}(e:mem[i]?= some (.inst C sq at_)){mv:BA}(x:VR s.heap ρ (.obj i) mv):
  ∃(a d:EA) (ox od:Obj),mv=.ref a∧ρ.rows[i]?= some [a,d]∧InstAt s.heap a ox C (some od)∧ox.dict=some d∧s.heap.get? d=some od∧NsR s.heap ρ d at_∧a≠d∧
   ∀{h':PB}{at2:AA (Str×AV)},h'.get? a=s.heap.get? a→NsR h' ρ d at2→(∀{u:AA AV}{mu:AA BA},VRs s.heap ρ u mu→VRs h' ρ u mu)→OR h' ρ [a,d] (.inst C sq at2):=by
 refine o12 (r.ors.get _ _ e) fun p e1 e2=>?_
 cases x with
 | obj e3=>
  rw[e1] at e3
  replace e3:=si e3;subst e3
  have nd:=(List.pairwise_flatten.mp (JA.mp r.nd).1).1 _ (LB e1)
  cases sq with
  | none=>
   cases e2 with|plain q hd=>?_
   refine o12 (id hd) fun m x0 hm=>?_;refine o35 x0 fun od es ep e4 e5 e6 eu e7=>?_;clear x0
   exact ⟨_,_,_,od,rfl,e1,⟨q,rfl,rfl,e4⟩,rfl,e4,hd,by simpa using nd,fun ha hn x9=>.plain (ha.trans q) hn⟩
  | some l=>
   cases e2 with|seq q hl hd=>?_
   refine o12 (id hd) fun m x0 hm=>?_;refine o35 x0 fun od es ep e4 e5 e6 eu e7=>?_;clear x0
   exact ⟨_,_,_,od,rfl,e1,⟨q,rfl,rfl,e4⟩,rfl,e4,hd,by simpa using nd,fun ha hn hv=>.seq (ha.trans q) (hv hl) hn⟩
theorem sD(B:aC b){A:XA}{s:CA}{ρ:Rho}{Q:Unit→CA→Prop}{E:BA→CA→Prop}(r:R b ρ mem s){i:Nat}{C:EA}{sq:YA (AA AV)}{at_:AA (Str×AV)}{name:Str}(e:mem[i]?= some (.inst C sq at_)){mo mv:BA}
  (ho:VR s.heap ρ (.obj i) mo) (hv:VR s.heap ρ v mv) (ht:takesOwn b.K C name=true) (hz:at_.length≤1000) (q:∀s',R b ρ (mem.set i (.inst C sq (putL name v at_))) s'→Ext NoS ρ s ρ s'→Q () s'):FA b.M A (setAttr mo name mv) Q E s:=by
 refine o41 (wR r e ho) fun a d ox od x0=>?_;refine o02 x0 fun x4 x5=>?_;clear x0;subst x4;refine o07 x5 fun hrow I hdx hod hns hne mk=>?_;clear x5
 unfold takesOwn at ht
 simp only[VA,UD] at ht
 refine o02 ht fun x0 h3=>?_;clear ht;refine o02 x0 fun h1 h2=>?_;clear x0
 refine o12 (any_some h2) fun cd hc h4=>?_
 simp only[VA,WE] at h4
 refine o02 h4 fun x0 hm=>?_;clear h4;refine o02 x0 fun hb hd=>?_;clear x0
 have X:=r.kin B
 refine set_plain X I h1 ?_
 have SF:=PySem.F.store_object
 have sub:EC b.M s.heap (isInstance (.ref a) (.type "object")) true:=I.type.andThen (BH X (by unfold mroIn;rw[hc,Option.bind_some,AB (by rw[hm];decide),aBi hb]))
 refine codeAny_call_builtin SF.slot.plain SF.entry (@check_slot b.M _ _ { s with toks:=s.toks+1 } "object.__setattr__" "object" "__setattr__" (.ref a) [.str name s.toks,mv] [] _ SF.kind SF.split sub (SF.args (.ref a) (.str name s.toks) mv) ?_)
 refine o12 (Option.bind_eq_some_iff.mp h3) fun attr ha hr=>?_
 have hmr:EC b.M s.heap (mroOf (.ref C)) cd.mro:=(EF X hc).andThen .now
 have L3:EC b.M s.heap (storeTaker? attr) none:=by
  cases attr with
  | none=>exact .now
  | some a=>
   refine o12 (Option.map_eq_some_iff.mp hr) fun bb hb hb2=>?_
   refine (looks_takesIn X hb).andThen ?_
   cases bb with
   | true=>cases hb2
   | false=>exact .now
 rw[osa_eq,refuse_eq]
 let s1:CA:={ s with toks:=s.toks+1 }
 have It:EC b.M s1.heap (typeOf (.ref a)) (.ref C):=I.type
 have Im:EC b.M s1.heap (mroOf (.ref C)) cd.mro:=hmr
 have If:EC b.M s1.heap (typeLookup (.ref C) name) attr:=MD X ha
 have I3:EC b.M s1.heap (storeTaker? attr) none:=L3
 have Ic:EC b.M s1.heap (classData C) cd:=EF X hc
 show FA _ _ _ _ _ s1
 refine wb (wb (It.here (wb (Im.here ?_))))
 rw[uK _ hb]
 refine wp (wb (It.here (wb (If.here (wb (I3.here ?_))))))
 show FA b.M _ (storeInOwnDict (.ref a) (.ref C) (.str name s.toks) name mv attr.isSome) _ _ _
 unfold storeInOwnDict
 refine wb (wp ?_)
 show FA b.M _ (ownDictForStores (.ref a)>>=_) _ _ _
 obtain ⟨hx,hcl,hn,-⟩:=I
 refine wb ?_
 show FA b.M _ (instanceDict a true) _ _ _
 unfold instanceDict
 refine wb (OF hx ?_)
 rw[hcl]
 refine wb (Ic.here ?_)
 rw[hd,hdx]
 refine wp (a:=some d) ?_
 show FA b.M _ (storeInDict d (.str name s.toks) name mv) _ _ _
 unfold storeInDict newKeyGuard
 refine o12 (id hns) fun m n1 nm=>?_
 refine wb (wp (wb (wpAny_nsSet1 (show Heap.Ns1 ({ s with toks:=s.toks+1 }:CA).heap d m from n1) fun h' hn' hs'=>?_)))
 have hw:Within m (at_.map (·.1)):=fun y hy=>by
  have z:=nm y
  cases e:at_.lookup y with
  | none=>rw[e] at z;exact absurd z hy
  | some w=>exact EE (f:=(·.1)) (mem_of_lookup e)
 refine o33 (hn'.count (Within.cons name mv hw)) fun oD esD epD hoD hdD hcD=>?_
 refine wb (wpAny_lookBehind hoD (by rw[hdD];exact pastItsLine_dict (GA hcD (by rw[UA,BB,HB];lia))) ?_)
 have hall:d∈ρ.all:=Rho.mem_rows (List.mem_flatten.mpr ⟨_,LB hrow,by simp⟩)
 have kp:∀c o,s.heap.get? c=some o→c≠d→h'.get? c=some o:=fun c o e n=>(hs'.2 c n).trans e
 have mvv:∀{u:AV}{mu:BA},VR s.heap ρ u mu→VR h' ρ u mu:=fun q=>q.move (ρ:=ρ) (ρ':=ρ) (·= d) kp (fun a e=>e▸.inl hall) (fun x9 x9 e=>e) fun a ha=>.inl ha
 have mvs:∀{u:AA AV}{mu:AA BA},VRs s.heap ρ u mu→VRs h' ρ u mu:=fun q=>q.move (ρ:=ρ) (ρ':=ρ) (·= d) kp (fun a e=>e▸.inl hall) (fun x9 x9 e=>e) fun a ha=>.inl ha
 have hns':NsR h' ρ d (putL name v at_):=⟨_,hn',fun x=>by
  rw[dP]
  by_cases hx:x=name
  ·subst hx;rw[OB (SE x)];exact ⟨mv,OB rfl,mvv hv⟩
  ·rw[AB (by simpa using hx),show (if x=name then some mv else m x)=m x from AB hx]
   have z:=nm x
   cases e:at_.lookup x with
   | none=>rw[e] at z;exact z
   | some w=>rw[e] at z;refine o12 z fun mw z1 z2=>?_;clear z;exact ⟨mw,z1,mvv z2⟩⟩
 refine o02 (r.upd B (tk:=s.toks+1+1) hrow (c:=d) (by simp) hs' ⟨oD,hoD⟩ (mk ((hs'.2 a hne)) hns' mvs)) fun r' x'=>?_
 exact wp (q _ r' x')
theorem dI(B:aC b){o:Expr}{name:Str}{i:Nat}{C:EA}{sq:YA (AA AV)}{at_:AA (Str×AV)}(x:aE b h F e1 loc mem v m1)(y:aE b h F o loc m1 (.obj i) m2)(e:m2[i]?= some (.inst C sq at_))(ht:takesOwn b.K C name=true)(hz:at_.length≤1000)
  (hs:DA (∀L,swapsWith e1 (some (.Attribute o name p2)) pos.line (F L)=pure false) q8):aL b h F (.Assign [.Attribute o name p2] e1 pos) loc mem .next loc (m2.set i (.inst C sq (putL name v at_))):=fun A s ρ L Q E hA r fm q=>
 plainObj_wpAny_Assign_Attribute (x A s ρ L _ E hA r fm fun ρ1 s1 mv r1 x1 h1=>y A s1 ρ1 L _ E hA r1 (fm.ext x1) fun ρ2 s2 mo r2 x2 h2=>sD B r2 e h2 (x2.vr0 h1) ht hz fun s3 r3 x3=>
  q ρ2 s3 .next r3 (((fm.ext x1).ext x2).ext x3) (((x1.trans x2).trans x3).mono fun x9 h=>h.elim) .next) (hs L)
end
end
section
variable {b:Bs}{h k:Nat}{mem:AA AO}{v:AV}{e1 e2 e3:Expr}{c:NB}{l:AA AV}{i:Nat}{n:Nat}
theorem R.list{ρ:Rho}{s:CA}(r:R b ρ mem s)(e:mem[i]?= some (.lst l)){mv:BA}(x:VR s.heap ρ (.obj i) mv):∃a its n,mv=.ref a∧ρ.rows[i]?= some [a]∧IsL s.heap a its n∧VRs s.heap ρ l its.toList∧its.size=l.length:=by
 refine o12 (r.ors.get _ _ e) fun p e1 e2=>?_
 cases x with
 | obj e3=>
  rw[e1] at e3
  replace e3:=si e3;subst e3
  cases e2 with
  | lst ea hl=>exact ⟨_,_,_,rfl,e1,ea,hl,by rw[← hl.length,QA]⟩
theorem R.listUpd(B:aC b){ρ:Rho}{s:CA}(r:R b ρ mem s){a:EA}{h':PB}{its:RA BA}{n:Nat}{tk:Nat}(a0:ρ.rows[i]?= some [a])(hs:ZD a s.heap h')(hl:IsL h' a its n)(hv:VRs s.heap ρ l its.toList):
  R b ρ (mem.set i (.lst l)) { s with heap:=h',toks:=tk }∧Ext NoS ρ s ρ { s with heap:=h',toks:=tk }∧(∀{u:AV}{mu:BA},VR s.heap ρ u mu→VR h' ρ u mu):=by
 have hall:a∈ρ.all:=Rho.mem_rows (List.mem_flatten.mpr ⟨_,LB a0,by simp⟩)
 have mv:∀{u:AV}{mu:BA},VR s.heap ρ u mu→VR h' ρ u mu:=fun q=>q.move (ρ:=ρ) (ρ':=ρ) (·= a) (fun c o e n=>(hs.2 c n).trans e) (fun a e=>e▸.inl hall) (fun x9 x9 e=>e) fun a ha=>.inl ha
 have mvs:∀{u:AA AV}{mu:AA BA},VRs s.heap ρ u mu→VRs h' ρ u mu:=fun q=>q.move (ρ:=ρ) (ρ':=ρ) (·= a) (fun c o e n=>(hs.2 c n).trans e) (fun a e=>e▸.inl hall) (fun x9 x9 e=>e) fun a ha=>.inl ha
 refine o02 (r.upd B (tk:=tk) a0 (c:=a) (by simp) hs ⟨_,hl⟩ (OR.lst hl (mvs hv))) fun r' x'=>?_
 exact ⟨r',x',mv⟩
theorem vN{v:AV}{name:Str}{id:String}(hl:LV mem v l)(sl:Slot "list" name id)(hty:typeOf (.builtin id)=pure (.type "method_descriptor")):dN b h v name mem (.builtin id) [v]:=fun A s ρ mo pl Q E hA r ho q=>by
 refine o33 (hl.at r ho) fun a its n x0 ea hvs=>?_;subst x0
 exact getMethod_builtin ⟨_,ea,rfl⟩ F.plainAttrs_list sl hty (fun x hx=>by cases hx;exact ⟨_,ea,rfl⟩) (q s _ r (Ext.refl _ _ _) (.cons ho .nil))
theorem gB(hl:LV mem v l):dN b h v "append" mem (.builtin "list.append") [v]:=vN hl F.slot_list_append F.type_list_append
theorem zH(hl:LV mem v l):dN b h v "pop" mem (.builtin "list.pop") [v]:=vN hl F.slot_list_pop F.type_list_pop
theorem kG(B:aC b)(e:mem[i]?= some (.lst l))(hz:l.length≤1000000):aF b h (.builtin "list.append") [.obj i,v] mem .none (mem.set i (.lst (l++[v]))):=fun A s ρ mvs Q E hA r hv q=>by
 cases hv with|cons h1 hv=>cases hv with|cons h2 hv=>
 cases hv
 refine o35 (r.list e h1) fun a its n x0 hrow ea hvs sz=>?_;subst x0
 refine mV ea (by lia) fun h' n' hl' hs'=>?_
 refine o03 (r.listUpd B (tk:=s.toks) hrow hs' hl' (l:=l++[v]) (by rw[MF];exact hvs.append (.cons h2 .nil))) fun r' x' x9=>?_
 exact q ρ _ _ r' x' .none
theorem aEn(B:aC b)(e:mem[i]?= some (.lst (l++[v])))(hz:l.length≤1000000):aF b h (.builtin "list.pop") [.obj i] mem v (mem.set i (.lst l)):=fun A s ρ mvs Q E hA r hv q=>by
 cases hv with|cons h1 hv=>
 cases hv
 refine o35 (r.list e h1) fun a its n x0 hrow ea hvs sz=>?_;subst x0
 rw[PA,IE] at sz
 refine o12 (cC hvs (k:=its.size - 1) (v:=v) (by rw[sz,Nat.add_sub_cancel,OA (MA _),VB];rfl)) fun mv x1 x2=>?_
 refine call_meets F.slot_list_pop ⟨_,ea,rfl⟩ F.entry_list_pop (F.args_list_pop_1 _) (MeetsSeq.list_pop_last a its n mv x1 (by rw[HB];lia)) ⟨ea,?_⟩
 refine o03 (r.listUpd B (tk:=s.toks) hrow (QB s.heap a (Obj.mapSeq fun xs=>xs.eraseIdxIfInBounds (its.size - 1))) (IsL.update ea _) (l:=l) (by
  have:=hvs.take l.length
  rw[List.take_left] at this
  rw[show (its.eraseIdxIfInBounds (its.size - 1)).toList=its.toList.take l.length from ?_]
  ·exact this
  ·rw[AI,dif_pos (by lia),Array.toList_eraseIdx,sz,Nat.add_sub_cancel,List.eraseIdx_eq_take_drop_succ,List.drop_of_length_le (by rw[QA];lia),ZB])) fun r' x' mvv=>?_
 exact q ρ _ mv r' x' (mvv x2)
theorem aCS(B:aC b)(e:mem[i]?= some (.lst (v :: l)))(hz:l.length≤1000000):aF b h (.builtin "list.pop") [.obj i,.int 0] mem v (mem.set i (.lst l)):=fun A s ρ mvs Q E hA r hv q=>by
 cases hv with|cons h1 hv=>cases hv with|cons h2 hv=>
 cases hv
 cases h2 with|int t=>
 refine o35 (r.list e h1) fun a its n x0 hrow ea hvs sz=>?_;subst x0
 rw[UA] at sz
 refine o12 (cC hvs (k:=0) (v:=v) rfl) fun mv x1 x2=>?_
 have hk:seqIndex? 0 its.size=some 0:=by
  unfold seqIndex?
  simp only[Int.lt_irrefl,CG]
  rw[OB (by simp only[VA,PC];lia)];rfl
 refine call_meets F.slot_list_pop ⟨_,ea,rfl⟩ F.entry_list_pop (F.args_list_pop_2 _ _) (MeetsSeq.list_pop_at a its n 0 t 0 mv (by decide) hk x1 (by rw[HB];lia)) ⟨ea,?_⟩
 refine o03 (r.listUpd B (tk:=s.toks) hrow (QB s.heap a (Obj.mapSeq fun xs=>xs.eraseIdxIfInBounds 0)) (IsL.update ea _) (l:=l) (by
  have:=hvs.drop 1
  rw[List.drop_one,List.tail_cons] at this
  rw[show (its.eraseIdxIfInBounds 0).toList=its.toList.drop 1 from ?_]
  ·exact this
  ·rw[AI,dif_pos (by lia),Array.toList_eraseIdx,List.eraseIdx_eq_take_drop_succ];rfl)) fun r' x' mvv=>?_
 exact q ρ _ mv r' x' (mvv x2)
variable {F:EA→Env}{loc:AA (Str×AV)}{mem' m1 m2:AA AO}{v1 v2:AV}{pos p2:Pos}
theorem oH{es:AA Expr}{vs:AA AV}(x:dT b h F es loc mem vs m1)(hz:vs.length≤1000000):aE b h F (.List es pos) loc mem (.obj m1.length) (m1++[.lst vs]):=fun A s ρ L Q E hA r fm q=>
 wpAny_List (x A s ρ L pos _ E hA r fm fun ρ' s' mvs r' e' hvs=>⟨by rw[hvs.length,HB];exact lz,by
  refine o02 (r'.alloc1 { cls:=.type "list",data:=.seq mvs.toArray } (.lst vs) (.lst (n:=0) (gpz _ rfl) (by
   have:VRs (s'.heap.push { cls:=.type "list",data:=.seq mvs.toArray }) (ρ'.add [s'.heap.objs.size]) vs mvs:=hvs.move (ρ:=ρ') (ρ':=ρ'.add [s'.heap.objs.size]) (fun x9=>False) (fun c o e x9=>gps _ e) (fun x9 q=>q.elim) (fun i p e=>by
    show (ρ'.rows++_)[i]?= _;rw[CC (List.getElem?_eq_some_iff.mp e).1];exact e) (fun a ha=>by
     have ha':a∈(ρ'.rows.flatten++[s'.heap.objs.size])++ρ'.hid:=by simpa [Rho.add,Rho.all] using ha
     rcases mam ha' with z|z
     ·rcases mam z with z|z
      ·exact .inl (Rho.mem_rows z)
      ·rw[HA] at z;subst z;exact .inr (.inl (aP (MA _)))
     ·exact .inl (Rho.mem_hid z))
   simpa using this))) fun r1 x1=>?_
  exact q _ _ _ r1 (e'.trans x1) (.obj (r:=[]) (by show (ρ'.rows++_)[m1.length]?= _;rw[OA (by rw[r'.ors.length];exact MA _),r'.ors.length,VB];rfl))⟩)
noncomputable def InpV(b:Bs)(h:Nat)(op:Operator)(x y:AV)(mem:AA AO)(v:AV)(mem':AA AO):Prop:=
 ∀(A:XA) (s:CA) (ρ:Rho) (mx my:BA) (Q:BA→CA→Prop) (E:BA→CA→Prop),Ht h A→R b ρ mem s→VR s.heap ρ x mx→VR s.heap ρ y my→
  (∀ρ' s' mv,R b ρ' mem' s'→Ext NoS ρ s ρ' s'→VR s'.heap ρ' v mv→Q mv s')→FA b.M A (inplaceOp op mx my) Q E s
theorem kH{x y:Str}(hz:x.length+y.length≤1000000):InpV b h .Add (.str x) (.str y) mem (.str (x++y)) mem:=fun A s ρ mx my Q E hA r hx hy q=>by
 cases hx with|str t=>
 cases hy with|str u=>
 refine P.iadd_str ?_
 split
 ·rename_i e
  have:x++y=y:=by
   have:x=⟨#[]⟩:=eT e
   subst this;exact Str.empty_append y
  rw[this] at q
  exact q ρ _ _ r (Ext.refl _ _ _) (.str _ _)
 ·split
  ·rename_i e
   have:x++y=x:=by
    have:y=⟨#[]⟩:=eT e
    subst this;exact Str.ext' (by simp[Str.cps_append])
   rw[this] at q
   exact q ρ _ _ r (Ext.refl _ _ _) (.str _ _)
  ·refine ⟨?_,q ρ _ _ (r.toks _) ((Ext.refl _ _ _).toks _) (.str _ _)⟩
   rw[HB,GD];exact lz
theorem aFH(B:aC b)(f:aS F){x:Str}{op:Operator}(e:loc.lookup x=some v1)(y:aE b h F e1 loc mem v2 m1)(z:InpV b h op v1 v2 m1 v m2)(hc:DA (∀L,(F L).cells.lookup x=none) q8)(hk:DA (∀L,(F L).kindOf x=some .local) q8):
  aL b h F (.AugAssign (.Name x p2) op e1 pos) loc mem .next (putL x v loc) m2:=fun A s ρ L Q E hA r fm q=>by
 refine o12 fm.ns fun m hn hm=>?_
 have w:=hm x v1 e
 unfold bO at w
 rw[hc L] at w
 refine o12 w fun mv w1 w2=>?_;clear w
 refine wpAny_AugAssign_Name (AH (f.kind L) (hk L) (by rw[f.locals L];exact hn) w1 (y A s ρ L _ E hA r fm fun ρ1 s1 mw r1 x1 h1=>?_))
 exact z A s1 ρ1 mv mw _ E hA r1 (x1.vr0 w2) h1 fun ρ2 s2 mr r2 x2 h2=>cJ B f r2 ((fm.ext x1).ext x2) h2 (.loc (hk L) (hc L)) fun s3 r3 f3 x3=>q ρ2 s3 .next r3 f3 (((x1.trans x2).mono fun x9 h=>h.elim).trans x3) .next
variable {loc':AA (Str×AV)}{m3 m4:AA AO}{out:AOut}
theorem pM(B:aC b){o:Expr}{name:Str}{op:Operator}{i:Nat}{C:EA}{sq:YA (AA AV)}{at_:AA (Str×AV)}(x:aE b h F o loc mem (.obj i) m1)(ha:AttrV b h (.obj i) name m1 v1 m2)(y:aE b h F e1 loc m2 v2 m3)(z:InpV b h op v1 v2 m3 v m4)
  (e:m4[i]?= some (.inst C sq at_)) (ht:takesOwn b.K C name=true) (hz:at_.length≤1000):aL b h F (.AugAssign (.Attribute o name p2) op e1 pos) loc mem .next loc (m4.set i (.inst C sq (putL name v at_))):=fun A s ρ L Q E hA r fm q=>by
 refine wpAny_AugAssign_AttributeAny (x A s ρ L _ E hA r fm fun ρ1 s1 mo r1 x1 h1=>ha A s1 ρ1 mo true _ E hA r1 h1 fun ρ2 s2 mv r2 x2 h2=>y A s2 ρ2 L _ E hA r2 ((fm.ext x1).ext x2) fun ρ3 s3 mw r3 x3 h3=>?_)
 refine z A s3 ρ3 mv mw _ E hA r3 (x3.vr0 h2) h3 fun ρ4 s4 mr r4 x4 h4=>?_
 exact sD B r4 e (x4.vr0 (x3.vr0 (x2.vr0 h1))) h4 ht hz fun s5 r5 x5=>q ρ4 s5 .next r5 (((((fm.ext x1).ext x2).ext x3).ext x4).ext x5) (((((x1.trans x2).trans x3).trans x4).trans x5).mono fun x9 h=>h.elim) .next
inductive WRun(b:Bs)(h:Nat)(F:EA→Env)(test:Expr)(body:AA VD):Nat→AA (Str×AV)→AA AO→AOut→AA (Str×AV)→AA AO→Prop
 | stop {loc:AA (Str×AV)}{mem m1:AA AO}(ht:bA b h F test loc mem false m1):WRun b h F test body 0 loc mem .next loc m1
 | next {n:Nat}{loc loc1 loc':AA (Str×AV)}{mem m1 m2 m':AA AO}{out:AOut}(ht:bA b h F test loc mem true m1) (hb:aI b h F body loc m1 .next loc1 m2) (hr:WRun b h F test body n loc1 m2 out loc' m'):WRun b h F test body (n+1) loc mem out loc' m'
 | cont {n:Nat}{loc loc1 loc':AA (Str×AV)}{mem m1 m2 m':AA AO}{out:AOut}(ht:bA b h F test loc mem true m1) (hb:aI b h F body loc m1 .cont loc1 m2) (hr:WRun b h F test body n loc1 m2 out loc' m'):WRun b h F test body (n+1) loc mem out loc' m'
 | brk {loc loc1:AA (Str×AV)}{mem m1 m2:AA AO}(ht:bA b h F test loc mem true m1) (hb:aI b h F body loc m1 .brk loc1 m2):WRun b h F test body 0 loc mem .brk loc1 m2
 | ret {v:AV}{loc loc1:AA (Str×AV)}{mem m1 m2:AA AO}(ht:bA b h F test loc mem true m1) (hb:aI b h F body loc m1 (.ret v) loc1 m2):WRun b h F test body 0 loc mem (.ret v) loc1 m2
inductive WTurn(b:Bs)(h:Nat)(F:EA→Env)(test:Expr)(body:AA VD)(n:Nat)(lk:AA (Str×AV))(mk:AA AO)(out:AOut)(lo:AA (Str×AV))(mo:AA AO):Prop
 | stop (eo:out=.next) (el:lo=lk) (ht:bA b h F test lk mk false mo)
 | go (n0:Nat) (m1:AA AO) (o:AOut) (loc1:AA (Str×AV)) (m2:AA AO) (en:n=n0+1) (eo:o=.next∨o=.cont) (ht:bA b h F test lk mk true m1) (hb:aI b h F body lk m1 o loc1 m2) (hr:WRun b h F test body n0 loc1 m2 out lo mo)
 | off (m1:AA AO) (eo:out=.brk∨∃u,out=.ret u) (ht:bA b h F test lk mk true m1) (hb:aI b h F body lk m1 out lo mo)
theorem WRun.inv{a0:Expr}{body:AA VD}{n:Nat}{lk lo:AA (Str×AV)}{mk mo:AA AO}(q:WRun b h F a0 body n lk mk out lo mo):WTurn b h F a0 body n lk mk out lo mo:=by
 cases q with
 | stop ht=>exact .stop rfl rfl ht
 | next ht hb hr=>exact .go _ _ _ _ _ rfl (.inl rfl) ht hb hr
 | cont ht hb hr=>exact .go _ _ _ _ _ rfl (.inr rfl) ht hb hr
 | brk ht hb=>exact .off _ (.inl rfl) ht hb
 | ret ht hb=>exact .off _ (.inr ⟨_,rfl⟩) ht hb
inductive WInv(b:Bs)(h:Nat)(F:EA→Env)(test:Expr)(body:AA VD)(out:AOut)(lo:AA (Str×AV))(mo:AA AO)(L:EA)(ρ0:Rho)(s0:CA)(n:Nat)(s:CA):Prop
 | mk (lk:AA (Str×AV)) (m1:AA AO) (ρ:Rho) (hr:WRun b h F test body n lk m1 out lo mo) (r:R b ρ m1 s) (fm:Fm b L (F L).cells ρ lk s) (x0:Ext (bJ L (F L).cells) ρ0 s0 ρ s)
theorem wS{a0:Expr}{body:AA VD}{loc':AA (Str×AV)}{m':AA AO}{A:XA}{L:EA}(hA:Ht h A){RR:Result→CA→Prop}{ρ0:Rho}{s0:CA}
  (Q:∀ρ' s' fl,R b ρ' m' s'→Fm b L (F L).cells ρ' loc' s'→Ext (bJ L (F L).cells) ρ0 s0 ρ' s'→FlR s'.heap ρ' (flOf out) fl→RR (.ok fl) s'):
  ∀(n:Nat) (s:CA),WInv b h F a0 body out loc' m' L ρ0 s0 n s→codeAny b.M A (.whileLoop a0 body [] (F L)) RR s:=by
 intro n s hI
 refine codeAny_whileLoop (WInv b h F a0 body out loc' m' L ρ0 s0) ?_ n hI
 rintro n s ⟨lk,mk,ρ,hr,r,fm,x0⟩
 cases hr.inv with
 | stop eo el ht=>
  refine ht A s ρ L _ _ hA r fm fun ρ1 s1 r1 x1=>?_
  subst eo el
  rw[AB (by decide)]
  exact wpAny_execs_nil (Q ρ1 s1 .next r1 (fm.ext x1) (x0.trans (x1.mono fun x9 h=>h.elim)) .next)
 | go n0 _ _ _ _ en eo ht hb hr=>
  refine ht A s ρ L _ _ hA r fm fun ρ1 s1 r1 x1=>?_
  rw[OB rfl]
  refine hb A s1 ρ1 L _ _ hA r1 (fm.ext x1) fun ρ2 s2 fl r2 f2 x2 o2=>?_
  have I':=WInv.mk _ _ ρ2 hr r2 f2 ((x0.trans (x1.mono fun x9 h=>h.elim)).trans x2)
  have lt:n0 < n:=by rw[en];exact Nat.lt_succ_self _
  rcases o2.on eo with rfl|rfl
  ·exact ⟨_,lt,I'⟩
  ·exact ⟨_,lt,I'⟩
 | off _ eo ht hb=>
  refine ht A s ρ L _ _ hA r fm fun ρ1 s1 r1 x1=>?_
  rw[OB rfl]
  refine hb A s1 ρ1 L _ _ hA r1 (fm.ext x1) fun ρ2 s2 fl r2 f2 x2 o2=>?_
  have x3:=(x0.trans (x1.mono fun x9 h=>h.elim)).trans x2
  refine o02 (o2.off eo) fun x9 x6=>?_;obtain ⟨rfl,z⟩| ⟨u,rfl,z⟩:=x6
  ·exact Q ρ2 s2 .next r2 f2 x3 z
  ·exact Q ρ2 s2 _ r2 f2 x3 z
theorem lE{a0:Expr}{body:AA VD}(hr:WRun b h F a0 body n loc mem out loc' m1):aL b h F (.While a0 body [] pos) loc mem (flOf out) loc' m1:=fun A s ρ L Q E hA r fm q=>
 wpAny_While (wS hA (fun ρ' s' fl r' f' x' o'=>q ρ' s' fl r' f' x' o') n s ⟨loc,mem,ρ,hr,r,fm,Ext.refl _ _ _⟩)
theorem aFI{body:AA VD}{h0:ExceptHandler}{hs:AA ExceptHandler}(x:aI b h F body loc mem out loc' m1):aL b h F (.Try body (h0 :: hs) [] [] pos) loc mem out loc' m1:=fun A s ρ L Q E hA r fm q=>
 wpAny_Try_except (x A s ρ L _ _ hA r fm fun ρ' s' fl r' f' x' o'=>by
  have:=q ρ' s' fl r' f' x' o'
  cases fl with
  | next=>exact wpAny_execs_nil this
  | _=>exact this)
theorem aFJ{es:AA Expr}(x:aE b h F e1 loc mem v m1)(t:fM b h v m1 true m2):aE b h F (.BoolOp .Or (e1 :: e2 :: es) pos) loc mem v m2:=fun A s ρ L Q E hA r fm q=>
 BoolOp_or (x A s ρ L _ E hA r fm fun ρ1 s1 mv r1 x1 h1=>t A s1 ρ1 mv _ E hA r1 h1 fun ρ2 s2 r2 x2=>by rw[OB rfl];exact q ρ2 s2 mv r2 (x1.trans x2) (x2.vr0 h1))
theorem aFK(x:aE b h F e1 loc mem v1 m1)(t:fM b h v1 m1 false m2)(y:aE b h F e2 loc m2 v m3):aE b h F (.BoolOp .Or [e1,e2] pos) loc mem v m3:=fun A s ρ L Q E hA r fm q=>
 BoolOp_or (x A s ρ L _ E hA r fm fun ρ1 s1 mv r1 x1 h1=>t A s1 ρ1 mv _ E hA r1 h1 fun ρ2 s2 r2 x2=>by
  rw[AB (by decide)]
  exact BoolOp_one (y A s2 ρ2 L Q E hA r2 ((fm.ext x1).ext x2) fun ρ3 s3 mw r3 x3 h3=>q ρ3 s3 mw r3 ((x1.trans x2).trans x3) h3))
theorem aEo{es:AA Expr}(x:aE b h F e1 loc mem v m1)(t:fM b h v m1 false m2):aE b h F (.BoolOp .And (e1 :: e2 :: es) pos) loc mem v m2:=fun A s ρ L Q E hA r fm q=>
 BoolOp_and (x A s ρ L _ E hA r fm fun ρ1 s1 mv r1 x1 h1=>t A s1 ρ1 mv _ E hA r1 h1 fun ρ2 s2 r2 x2=>by rw[AB (by decide)];exact q ρ2 s2 mv r2 (x1.trans x2) (x2.vr0 h1))
theorem aEp(x:aE b h F e1 loc mem v1 m1)(t:fM b h v1 m1 true m2)(y:aE b h F e2 loc m2 v m3):aE b h F (.BoolOp .And [e1,e2] pos) loc mem v m3:=fun A s ρ L Q E hA r fm q=>
 BoolOp_and (x A s ρ L _ E hA r fm fun ρ1 s1 mv r1 x1 h1=>t A s1 ρ1 mv _ E hA r1 h1 fun ρ2 s2 r2 x2=>by
  rw[OB rfl]
  exact BoolOp_one (y A s2 ρ2 L Q E hA r2 ((fm.ext x1).ext x2) fun ρ3 s3 mw r3 x3 h3=>q ρ3 s3 mw r3 ((x1.trans x2).trans x3) h3))
theorem oI(B:aC b)(f:aS F){x y:Str}{ts:AA Expr}{k:Nat}(z:aE b h F e1 loc mem (.tup [v1,v2]) m1)(hx:DA (∀L,eD (F L) x) q14)(hy:DA (∀L,eD (F L) y) q14)
  (hs:DA (∀L,swapsWithSole [.Tuple ts k p2] e1 pos.line (F L)=pure false) q8) (hw:DA (∀L,swappedStores [.Tuple ts k p2] e1 (F L)=pure (some [x,y])) q8):
  aL b h F (.Assign [.Tuple ts k p2] e1 pos) loc mem .next (putL x v1 (putL y v2 loc)) m1:=fun A s ρ L Q E hA r fm q=>
 Assign_Tuple_swapped (names:=[x,y]) (z A s ρ L _ E hA r fm fun ρ1 s1 mv r1 x1 h1=>by
  cases h1 with|tup e ha hl=>
  rename_i a its n
  have z:=hl.length
  rw[QA] at z
  obtain ⟨Ls⟩:=its
  have z2:Ls.length=2:=z
  have:=wpAny_unpackItems_tuple (prog:=b.prog) (w:=b.w) (A:=A) (E:=E) (s:=s1) (t:=a) (items:=⟨Ls⟩) (Q:=fun items s₂=>FA b.M A (assignInOrder (([x,y]:AA Str).reverse.map fun n=>bindName (F L) n) items.reverse) (fun x9=>Q .next) E s₂) hA.2.2 ⟨_,e,rfl,_,rfl⟩ fun h' hx'=>by
   refine o03 (fX r1 (fm.ext x1) (kD hx') s1.toks) fun r' f' x'=>?_
   cases x'.vrs0 hl with|cons a1 hl2=>cases hl2 with|cons a2 hl3=>
   cases hl3
   refine wb (TA (bindName_ (cJ B f r' f' a2 (hy L) fun s2 r2 f2 x2=>?_)))
   refine wb (TA (bindName_ (cJ B f r2 f2 (x2.vr f'.free a1) (hx L) fun s3 r3 f3 x3=>?_)))
   exact wp (q ρ1 s3 .next r3 f3 (((x1.mono fun x9 h=>h.elim).trans (x'.mono fun x9 h=>h.elim)).trans (x2.trans x3)) .next)
  have e2:(⟨Ls⟩:RA BA).size=2:=z2
  rw[e2] at this
  exact this) (hs L) (hw L)
theorem eP{x:Str}:aF b h (.builtin "isinstance") [.str x,.val (.type "bytes")] mem (.bool false) mem:=fun A s ρ mvs Q E hA r hv q=>by
 cases hv with|cons h1 hv=>cases hv with|cons h2 hv=>
 cases hv;cases h1;cases h2
 exact IsiPair.str_bytes (q ρ _ _ (r.toks _) ((Ext.refl _ _ _).toks _) (.bool _))
theorem oJ{x:Str}:aF b h (.builtin "isinstance") [.str x,.val (.type "str")] mem (.bool true) mem:=fun A s ρ mvs Q E hA r hv q=>by
 cases hv with|cons h1 hv=>cases hv with|cons h2 hv=>
 cases hv;cases h1;cases h2
 exact IsiPair.str_str (q ρ _ _ r (Ext.refl _ _ _) (.bool _))
variable {t:Expr}
theorem N{x:Str}(e:DA (loc.lookup x=some v) q9)(f:DA (aS F) q12)(hc:DA (∀L,(F L).cells.lookup x=none) q8)(hl:DA (∀L,(F L).kindOf x=some .local) q8)(hd:DA ((x == ("__debug__" : Str))=false) q10):
  aE b h F (.Name x pos) loc mem v mem:=dW f e hc hl hd
theorem NC{x:Str}(e:DA (loc.lookup x=some v) q9){c:EA→EA}(f:DA (aS F) q12)(hc:DA (∀L,(F L).cells.lookup x=some (c L)) q8)(hl:DA (∀L,(F L).kindOf x=some .cell) q8)(hd:DA ((x == ("__debug__" : Str))=false) q10):
  aE b h F (.Name x pos) loc mem v mem:=aEd f e hc hl hd
theorem Gv{x:Str}{mv:BA}(e:DA (nsIn b.K TB x=some (some mv)) q15)(B:DA (aC b) q11)(f:DA (aS F) q12)(hl:DA (∀L,(F L).kindOf x=some .globalImplicit) q8)(hd:DA ((x == ("__debug__" : Str))=false) q10):
  aE b h F (.Name x pos) loc mem (.val mv) mem:=yV B f e (.val _) hl hd
theorem U{x:Str}{mv:BA}(e2:HG x=some mv:=by decide +kernel)(e:DA (nsIn b.K TB x=some none) q15)(B:DA (aC b) q11)(f:DA (aS F) q12)(hn:DA (x≠"__name__" ) q10)
  (hl:DA (∀L,(F L).kindOf x=some .globalImplicit) q8) (hd:DA ((x == ("__debug__" : Str))=false) q10):aE b h F (.Name x pos) loc mem (.val mv) mem:=hB B f e e2 hn hl hd
theorem MB{o:Expr}{name:Str}{apos:Pos}{ov:AV}{f:BA}{fv:AA AV}{es:AA Expr}{vs:AA AV}(ho:aE b h F o loc mem ov m1)(hm:dN b h ov name m1 f fv)(y:dT b h F es loc m1 vs m2)(z:aF b k f (fv++vs) m2 v m3)(hk:DA (k≤h) q22)
  (kf:DA (cY b f) q23) (B:DA (aC b) q11)
  (he:DA (∀L,∃pl,eval (.Call (.Attribute o name apos) es [] pos) (F L)=(do
   let ov ← eval o (F L)
   standAt apos.atName
   let (f,first) ← holding [ov] (getMethod ov name (pl:Sem NB))
   callWith pos f first (backTo pos (LC es (F L))) (backToKw pos (keywordEach [] (F L))))) q18)
  (hs:DA (∀L,(LC es (F L)).any (·.1)=false) q8) (hl:DA (∀L,es≠[]→LC es (F L)≠[]) q16):aE b h F (.Call (.Attribute o name apos) es [] pos) loc mem v m3:=
 aEg B ho hm kf y z hk he hs hl
theorem SA{x:Str}(y:aE b h F e1 loc mem v m1)(B:DA (aC b) q11)(f:DA (aS F) q12)(hl:DA (∀L,eD (F L) x) q14)
  (hs:DA (∀L,swapsWith e1 (some (.Name x p2)) pos.line (F L)=pure false) q8):aL b h F (.Assign [.Name x p2] e1 pos) loc mem .next (putL x v loc) m1:=aBa B f y hl hs
theorem AN{x:Str}(B:DA (aC b) q11)(f:DA (aS F) q12)(hl:DA (∀L,eD (F L) x) q14):cR b h F (.Name x pos) v loc mem (putL x v loc) mem:=iP B f hl
theorem SG{x:Str}{op:Operator}(y:aE b h F e1 loc mem v2 m1)(z:InpV b h op v1 v2 m1 v m2)(e:DA (loc.lookup x=some v1) q9)(B:DA (aC b) q11)(f:DA (aS F) q12)(hc:DA (∀L,(F L).cells.lookup x=none) q8)
  (hk:DA (∀L,(F L).kindOf x=some .local) q8):aL b h F (.AugAssign (.Name x p2) op e1 pos) loc mem .next (putL x v loc) m2:=aFH B f e y z hc hk
theorem DF{f:EA}{fd:BD}{oc:BA}{od:YA EA}{osl:RA (YA BA)}{body:AA VD}{xs:AA Str}{args:AA AV}
  (hx:aI b h (fun L=>KC fd L f) body (bindsL xs args) mem out loc' m1)
  (ho:DA (b.K.lookup f=some ⟨oc,od,.func fd,osl⟩) q9) (hcd:DA (codeIn b.K fd.code fd.qualname=true) q15) (hb:DA (fd.body=.stmts body) q9)
  (hbind:∀mvs:AA BA,mvs.length=args.length→TD fd ⟨mvs,[]⟩=pure (xs.zip mvs)) (nd:DA (xs.Nodup) q10) (hl:DA (xs.length=args.length) q9)
  (hcell:DA (∀x∈fd.scope.names,x.2≠.cell) q10) (hloc:DA (∀x∈xs,fd.scope.names.lookup x=some .local) q10)
  (hco:DA (fd.scope.isCoroutine=false) q9) (hgen:DA (fd.scope.isGenerator=false) q9) (hk:DA (fd.scope.kind=.function) q9) (hclo:DA (fd.closure=[]) q9) (B:DA (aC b) q11):aF b (h+1) (.ref f) args mem (retOf out) m1:=
 rS B ho hcd hb hbind nd hl hcell hloc hco hgen hk hclo hx
theorem L1{α:Type}{l:AA α}(h:l.length=1):∃a,l=[a]:=List.length_eq_one_iff.mp h
theorem L0{α:Type}{l:AA α}{n:Nat}(h:l.length=n+1):∃a t,l=a :: t∧t.length=n:=by
 cases l with
 | nil=>cases h
 | cons a t=>exact ⟨a,t,rfl,Nat.succ.inj h⟩
theorem L2{α:Type}{l:AA α}(h:l.length=2):∃a c,l=[a,c]:=by
 refine o22 (L0 h) fun a t x0 e=>?_;subst x0
 refine o11 (L1 e) fun c x0=>?_;subst x0
 exact ⟨a,c,rfl⟩
theorem L3{α:Type}{l:AA α}(h:l.length=3):∃a c d,l=[a,c,d]:=by
 refine o22 (L0 h) fun a t x0 e=>?_;subst x0
 refine o21 (L2 e) fun c d x0=>?_;subst x0
 exact ⟨a,c,d,rfl⟩
theorem L4{α:Type}{l:AA α}(h:l.length=4):∃a c d g,l=[a,c,d,g]:=by
 refine o22 (L0 h) fun a t x0 e=>?_;subst x0
 refine o31 (L3 e) fun c d g x0=>?_;subst x0
 exact ⟨a,c,d,g,rfl⟩
theorem bind0{fd:BD}(h:TD fd ⟨[],[]⟩=pure []):∀mvs:AA BA,mvs.length=0→TD fd ⟨mvs,[]⟩=pure (([]:AA Str).zip mvs):=fun mvs e=>by cases mvs with|nil=>exact h|cons _ _=>cases e
theorem bind1{fd:BD}{x:Str}(h:∀a,TD fd ⟨[a],[]⟩=pure [(x,a)]):∀mvs:AA BA,mvs.length=1→TD fd ⟨mvs,[]⟩=pure ([x].zip mvs):=fun mvs e=>by
 refine o11 (L1 e) fun a x0=>?_;subst x0;exact h a
theorem bind2{fd:BD}{x y:Str}(h:∀a c,TD fd ⟨[a,c],[]⟩=pure [(x,a),(y,c)]):∀mvs:AA BA,mvs.length=2→TD fd ⟨mvs,[]⟩=pure ([x,y].zip mvs):=fun mvs e=>by
 refine o21 (L2 e) fun a c x0=>?_;subst x0;exact h a c
theorem bind3{fd:BD}{x y z:Str}(h:∀a c d,TD fd ⟨[a,c,d],[]⟩=pure [(x,a),(y,c),(z,d)]):∀mvs:AA BA,mvs.length=3→TD fd ⟨mvs,[]⟩=pure ([x,y,z].zip mvs):=fun mvs e=>by
 refine o31 (L3 e) fun a c d x0=>?_;subst x0;exact h a c d
theorem bind4{fd:BD}{x y z u:Str}(h:∀a c d g,TD fd ⟨[a,c,d,g],[]⟩=pure [(x,a),(y,c),(z,d),(u,g)]):∀mvs:AA BA,mvs.length=4→TD fd ⟨mvs,[]⟩=pure ([x,y,z,u].zip mvs):=fun mvs e=>by
 refine o41 (L4 e) fun a c d g x0=>?_;subst x0;exact h a c d g
variable {v':AV}
theorem iF{x:Str}:aF b h (.type "type") [.str x] mem (.val (.type "str")) mem:=fun A s ρ mvs Q E hA r hv q=>by
 cases hv with|cons h1 hv=>
 cases hv;cases h1
 exact call_type_of (typeIs_str _ _ _) (by decide) (q ρ s _ r (Ext.refl _ _ _) (.val _))
theorem aBj:VF (.type "str") (.type "str")=pure true:=by rw[AF];kernel_rfl
theorem aCT{A:XA}{s:CA}{d:Int}{t:Tok}{Q:Fin→CA→Prop}{E:BA→CA→Prop}(q:Q (.done (.ret (.bool true))) s):FA b.M A (Builtin.«issubclass.nested» ⟨[.type "str",.type "str",.int d t],[]⟩) Q E s:=by
 have hm:(Value.type "type" == Value.type "type")=true:=by decide
 have hself:=aBj
 repeat (any_goals (first|assumption|(rw[OB hm])|(rw[hself])|wp_step))
theorem aBk(a c d:BA):argsOk "issubclass.nested" ⟨[a,c,d],[]⟩:=by unfold argsOk;rw[PySem.W.S.signatureZ_eq];kernel_rfl
theorem aBl{A:XA}{s:CA}{d:Int}{t:Tok}{Q:BA→CA→Prop}{E:BA→CA→Prop}(q:Q (.bool true) s):FA b.M A (call (.builtin "issubclass.nested") [.type "str",.type "str",.int d t]) Q E s:=
 call_function_meets (by decide +kernel) (by decide +kernel) F.entry_issubclass_nested (aBk _ _ _) (S:=fun x9 R s=>R (.ok (.ret (.bool true))) s) (fun prog w A R s hs=>aCT (b:=⟨prog,w,[],s,[]⟩) hs) q
theorem aCU{A:XA}{s:CA}{a:EA}{n:Nat}{Q:BA→CA→Prop}{E:BA→CA→Prop}(e:s.heap.get? a=some ⟨.type "tuple",none,.seq #[.type "str",.type "bytes"] n,#[]⟩)(q:Q (.bool true) s):
  FA b.M A (call (.builtin "issubclass") [.type "str",.ref a]) Q E s:=by
 refine call_function_meets F.kind_issubclass F.plain_issubclass F.entry_issubclass (F.args_issubclass_2 _ _) (S:=fun x9 R s=>s.heap.get? a=some ⟨.type "tuple",none,.seq #[.type "str",.type "bytes"] n,#[]⟩∧R (.ok (.ret (.bool true))) s) ?_ ⟨e,q⟩
 intro prog w A R s hs
 refine o02 hs fun he hr=>?_;clear hs
 refine issubclass_outer ?_
 have hT:s.TypeIs (.ref a) "tuple" :=⟨_,he,rfl⟩
 show FA _ _ (typeOf (.ref a)>>=_) _ _ _
 refine wb (NF hT ?_)
 rw[AB (by decide)]
 refine wb ?_
 unfold Builtin.Builtins.unionMembers
 refine wb (NF hT ?_)
 rw[AB (by decide)]
 refine wp ?_
 refine wb (JG hT F.sub_tuple_tuple ?_)
 rw[OB rfl,AB (by decide)]
 refine wb (VC he rfl ?_)
 simp only[Option.getD_some]
 refine wb ?_
 rw[← Array.forIn_toList]
 simp only[XB]
 refine wb (wb (aBl (b:=⟨prog,w,[],s,[]⟩) (wb (wpAny_truthy_bool ?_))))
 rw[OB rfl]
 exact wb (wp (wp (wp (wp hr))))
theorem aEq:aF b h (.builtin "issubclass") [.val (.type "str"),.tup [.val (.type "str"),.val (.type "bytes")]] mem (.bool true) mem:=fun A s ρ mvs Q E hA r hv q=>by
 cases hv with|cons h1 hv=>cases hv with|cons h2 hv=>
 cases hv;cases h1
 cases h2 with|tup e ha hl=>
 rename_i a its n
 obtain ⟨Ls⟩:=its
 cases hl with|cons a1 hl=>cases hl with|cons a2 hl=>
 cases hl;cases a1;cases a2
 exact aCU e (q ρ s _ r (Ext.refl _ _ _) (.bool _))
theorem bA.to{F:EA→Env}{e:Expr}{loc:AA (Str×AV)}{c c':NB}(x:bA b h F e loc mem c m1)(hc:c=c'):bA b h F e loc mem c' m1:=hc▸x
theorem aE.to{F:EA→Env}{e:Expr}{loc:AA (Str×AV)}(x:aE b h F e loc mem v m1)(hc:v=v'):aE b h F e loc mem v' m1:=hc▸x
variable {m0 rest:AA AO}
noncomputable def bS(b:Bs)(h:Nat)(f:BA)(args:AA AV)(kns:AA Str)(kvs:AA AV)(mem:AA AO)(v:AV)(mem':AA AO):Prop:=
 ∀(A:XA) (s:CA) (ρ:Rho) (mvs mks:AA BA) (Q:BA→CA→Prop) (E:BA→CA→Prop),Ht h A→R b ρ mem s→VRs s.heap ρ args mvs→VRs s.heap ρ kvs mks→
  (∀ρ' s' mv,R b ρ' mem' s'→Ext NoS ρ s ρ' s'→VR s'.heap ρ' v mv→Q mv s')→codeAny b.M A (.call f ⟨mvs,kns.zip mks⟩) (wants Q E) s
theorem bS.call{f:BA}{args:AA AV}(x:bS b h f args [] [] mem v m1):aF b h f args mem v m1:=fun A s ρ mvs Q E hA r hv q=>
 CE (x A s ρ mvs [] Q E hA r hv .nil q)
noncomputable def eO(b:Bs)(fd:BD)(args:AA AV)(kns:AA Str)(kvs:AA AV)(mem:AA AO)(xs:AA Str)(vs:AA AV):Prop:=
 ∀(A:XA) (s:CA) (ρ:Rho) (mvs mks:AA BA) (Q:AA (Str×BA)→CA→Prop) (E:BA→CA→Prop),R b ρ mem s→VRs s.heap ρ args mvs→VRs s.heap ρ kvs mks→
  (∀s' ms,R b ρ mem s'→Ext NoS ρ s ρ s'→(∀c o,s.heap.get? c=some o→s'.heap.get? c=some o)→VRs s'.heap ρ vs ms→Q (xs.zip ms) s')→FA b.M A (TD fd ⟨mvs,kns.zip mks⟩) Q E s
theorem eO.pure{fd:BD}{args:AA AV}{xs:AA Str}(h:∀mvs:AA BA,mvs.length=args.length→TD fd ⟨mvs,[]⟩=Pure.pure (xs.zip mvs)):eO b fd args [] [] mem xs args:=fun A s ρ mvs mks Q E r hv hk q=>by
 rw[show (([]:AA Str).zip mks)=[] from rfl,h mvs hv.length]
 exact wp (q s mvs r (Ext.refl _ _ _) (fun x9 x9 e=>e) hv)
theorem eO.star{fd:BD}{x p:Str}{w1 w2:AV}(h:∀a c:BA,TD fd ⟨[a,c],[]⟩=(newTuple [c]>>=fun t=>Pure.pure [(x,a),(p,t)])):eO b fd [w1,w2] [] [] mem [x,p] [w1,.tup [w2]]:=fun A s ρ mvs mks Q E r hv hk q=>by
 cases hv with|cons h1 hv=>cases hv with|cons h2 hv=>
 cases hv
 rename_i mv ml
 have hv:VRs s.heap ρ [w2] [ml]:=.cons h2 .nil
 rw[show (([]:AA Str).zip mks)=[] from rfl,h]
 refine wb (wpAny_newTuple ?_ (by simp[HB]))
 have x0:=aX r { cls:=.type "tuple",data:=.seq [ml].toArray }
 exact wp (q _ [mv,.ref s.heap.objs.size] (r.push' _) x0 (fun c o e=>gps _ e) (.cons (x0.vr0 h1) (.cons (vK r hv) .nil)))
theorem eO.dflt{fd:BD}{T:EA}{oc:BA}{od:YA EA}{osl:RA (YA BA)}{items:RA BA}{n:Nat}{args vs:AA AV}{kns:AA Str}{kvs:AA AV}{xs:AA Str}(B:aC b)(hT:b.K.lookup T=some ⟨oc,od,.seq items n,osl⟩)
  (h:∀mvs mks:AA BA,mvs.length=args.length→mks.length=kvs.length→∃k,TD fd ⟨mvs,kns.zip mks⟩=(seqItems? (.ref T)>>=k)∧∃ms,k (some items)=Pure.pure (xs.zip ms)∧∀hp ρ,VRs hp ρ args mvs→VRs hp ρ kvs mks→VRs hp ρ vs ms):eO b fd args kns kvs mem xs vs:=fun A s ρ mvs mks Q E r hv hk q=>by
 refine o12 (h mvs mks hv.length hk.length) fun k e1 x3=>?_;refine o12 x3 fun ms e2 e3=>?_;clear x3
 rw[e1]
 refine wb (VC ((r.kin B) _ _ hT) rfl ?_)
 rw[e2]
 exact wp (q s ms r (Ext.refl _ _ _) (fun x9 x9 e=>e) (e3 _ _ hv hk))
theorem aBm(B:aC b){f:EA}{fd:BD}{oc:BA}{od:YA EA}{osl:RA (YA BA)}{body:AA VD}{xs:AA Str}{args vs:AA AV}{kns:AA Str}{kvs:AA AV}
  (ho:b.K.lookup f=some ⟨oc,od,.func fd,osl⟩) (hcd:codeIn b.K fd.code fd.qualname=true) (hb:fd.body=.stmts body)
  (hbind:eO b fd args kns kvs mem xs vs) (nd:xs.Nodup)
  (hcell:∀x∈fd.scope.names,x.2≠.cell) (hloc:∀x∈xs,fd.scope.names.lookup x=some .local)
  (hco:fd.scope.isCoroutine=false) (hgen:fd.scope.isGenerator=false) (hk:fd.scope.kind=.function)
  (hclo:fd.closure=[])
  (hx:aI b h (fun L=>KC fd L f) body (bindsL xs vs) mem out loc' m1):bS b (h+1) (.ref f) args kns kvs mem (retOf out) m1:=fun A s ρ mvs mks Q E hA r hv hkv q=>by
 have X:=r.kin B
 refine codeAny_call_function hA.depth (X _ _ ho) rfl hco hgen hb (codeRec_of X hcd) ?_
 refine hbind A.in1 s ρ mvs mks _ _ r hv hkv fun s1 ms r1 x1 k1 h1=>?_
 refine ZG hcell (fun x hx=>hloc x.1 (DD (a:=x.1) (b:=x.2) hx).1) (fun h₀ hns hsb=>?_) hk
 have hkp:∀c o,s1.heap.get? c=some o→h₀.get? c=some o:=fun c o e=>hsb.extBut c o (GC (DB e)) (gps _ e)
 have e0:s1.heap.get? s1.heap.objs.size=none:=aP (MA _)
 have hcl:(KC fd s1.heap.objs.size f).cells=[]:=hclo
 have x0:Ext NoS ρ s1 ρ { s1 with heap:=h₀,toks:=s1.toks+(xs.zip ms).length }:=Ext.of_keeps _ _ hkp
 have r0:R b ρ mem { s1 with heap:=h₀,toks:=s1.toks+(xs.zip ms).length }:=r1.keeps hkp s1.gens r1.bare s1.drawn _
 refine ⟨r0.lim,codeAny_func ?_⟩
 show FA b.M (A.deeper (KC fd s1.heap.objs.size f)) (execs body (KC fd s1.heap.objs.size f)) _ _ _
 refine CB (hx (A.deeper (KC fd s1.heap.objs.size f)) _ ρ s1.heap.objs.size _ _ (hA.deeper _) r0
  (Fm.plain hcl hns (fun hm=>JB _ (r1.lt hm)) r1.fresh (dA xs vs ms (x0.vrs0 h1) nd)) fun ρ' s' fl r' f' x' o=>?_) (fun fl s' z=>z) fun x9 x9 z=>z
 have xx:Ext NoS ρ s ρ' s':=by
  refine ⟨fun c oc e x9 hc kq=>x'.keep c oc (hkp c oc (k1 c oc e)) (fun q=>by
   rcases q with rfl|⟨p,hp,_⟩
   ·rw[k1 _ _ e] at e0;cases e0
   ·rw[hcl] at hp;cases hp) hc kq,x'.pre,fun a ha=>?_,x'.hid,fun c oc e=>x'.live c oc (hkp c oc (k1 c oc e))⟩
  rcases x'.new a ha with z|z
  ·exact .inl z
  ·right
   cases e:s.heap.get? a with
   | none=>rfl
   | some o=>have:=hkp a o (k1 a o e);rw[z] at this;cases this
 cases o with
 | ret e=>exact q ρ' s' _ r' xx e
 | _=>exact q ρ' s' _ r' xx .none
theorem DG{f:EA}{fd:BD}{oc:BA}{od:YA EA}{osl:RA (YA BA)}{body:AA VD}{xs:AA Str}{args vs:AA AV}{kns:AA Str}{kvs:AA AV}
  (hbind:eO b fd args kns kvs mem xs vs)
  (hx:aI b h (fun L=>KC fd L f) body (bindsL xs vs) mem out loc' m1)
  (ho:DA (b.K.lookup f=some ⟨oc,od,.func fd,osl⟩) q9) (hcd:DA (codeIn b.K fd.code fd.qualname=true) q15) (hb:DA (fd.body=.stmts body) q9) (nd:DA (xs.Nodup) q10)
  (hcell:DA (∀x∈fd.scope.names,x.2≠.cell) q10) (hloc:DA (∀x∈xs,fd.scope.names.lookup x=some .local) q10)
  (hco:DA (fd.scope.isCoroutine=false) q9) (hgen:DA (fd.scope.isGenerator=false) q9) (hk:DA (fd.scope.kind=.function) q9) (hclo:DA (fd.closure=[]) q9) (B:DA (aC b) q11):bS b (h+1) (.ref f) args kns kvs mem (retOf out) m1:=
 aBm B ho hcd hb hbind nd hcell hloc hco hgen hk hclo hx
section
variable {F:EA→Env}{base:AA (Str×AV)}{e1:Expr}{pos:Pos}{n:Nat}{t elt iter:Expr}{items outs:AA AV}{Mm:AA AO→Prop}{ifs:AA Expr}
theorem iU{body orelse:AA VD}{loc1 a0 loce:AA (Str×AV)}{mo me:AA AO}{oute a1:AOut}(x:aE b h F e1 loc mem v m1)(hi:cB b h t v m1 items Mm m0 [])(hr:bQ b h F t body Mm m0.length items loc1 m0 out a0 mo)
  (hq:out=.next→aI b h F orelse a0 mo oute loce me∧me.length=m0.length)
  (hf:(out=.next∧a1=oute∧loc'=loce∧m2=me)∨(out≠.next∧a1=flOf out∧loc'=a0∧m2=mo))
  (hw:DA (∀x v,loc1.lookup x=some v→loc.lookup x=some v) q19) (hs:DA (∀L x,JD e1 (F L) x=pure x) q13):aL b h F (.For t e1 body orelse pos) loc mem a1 loc' m2:=by
 have:=aCt (pos:=pos) (rest:=[]) x hi hw (.inl rfl) hr hq hf hs
 rwa [ZB] at this
theorem mY{body:AA VD}{loc1:AA (Str×AV)}(x:aE b h F e1 loc mem v m1)(hi:cB b h t v m1 items Mm m0 [])(hr:bQ b h F t body Mm m0.length items loc1 m0 .next loc' m2)
  (hw:DA (∀x v,loc1.lookup x=some v→loc.lookup x=some v) q19) (hs:DA (∀L x,JD e1 (F L) x=pure x) q13):aL b h F (.For t e1 body [] pos) loc mem .next loc' m2:=
 iU x hi hr (fun x9=>⟨.nil,hr.len⟩) (.inl ⟨rfl,rfl,rfl,rfl⟩) hw hs
theorem zI{body:AA VD}{loc1:AA (Str×AV)}(x:aE b h F e1 loc mem v m1)(hi:cB b h t v m1 items Mm m0 rest)(hr:bQ b h F t body Mm m0.length items loc1 m0 .next loc' m2)
  (hb:∀x v,loc1.lookup x=some v→v.under m0.length=true)
  (hw:DA (∀x v,loc1.lookup x=some v→loc.lookup x=some v) q19) (hs:DA (∀L x,JD e1 (F L) x=pure x) q13):aL b h F (.For t e1 body [] pos) loc mem .next loc' (m2++rest):=
 aCt x hi hw (.inr hb) hr (fun x9=>⟨.nil,hr.len⟩) (.inl ⟨rfl,rfl,rfl,rfl⟩) hs
theorem sE{scope:Scope}{env:Env}(h:∀x∈scope.names,x.2≠.free):ownNames scope env=scope.names:=by
 unfold ownNames
 refine map_eq_self fun x hx=>?_
 obtain ⟨n,k⟩:=x
 have:(k == NameKind.free)=false:=by simpa using h _ hx
 simp[this]
theorem iV{scope:Scope}(x:aE b h F iter loc mem v m1)(hi:cB b h t v m1 items Mm m0 rest)(hm:Mm m0)(hz:items.length≤1000000)(hr:∀L,aZ b h (compF scope [] (F L)) t elt ifs [] m0 items outs)
  (hif:DA (ifs=[]∨∃c,ifs=[c]) q20) (B:DA (aC b) q11) (f:DA (aS F) q12)
  (hfree:DA (∀x∈scope.names,x.2≠.free) q10) (hs:DA (∀L x,JD iter (F L) x=pure x) q13)
  (hkind:DA (scope.kind=.function) q9) (hnc:DA (∀x∈scope.names,x.2≠.cell) q10) (hnames:DA (∀x∈scope.names,x.2=.local→scope.names.lookup x.1=some .local) q10):
  aE b h F (.ListComp elt [⟨t,iter,ifs,0⟩] scope pos) loc mem (.lst outs) (m0++rest):=
 aEm B f (cl:=fun x9=>[]) (base:=[]) x hi hm hz hif hr (fun L=>closureFor_none hfree) (fun L p hp=>nomatch hp) (fun L=>GG) (fun y w e=>nomatch e) hs hkind hnc
  (fun L=>by rw[sE hfree];exact hnames)
theorem eQ{x:Str}(hx:DA (loc.lookup x=none) q9):∀y w,loc.lookup y=some w→(putL x v loc).lookup y=some w:=fun y w e=>by
 rw[dP]
 by_cases q:y=x
 ·subst q;rw[hx] at e;cases e
 ·rw[AB (by simpa using q)];exact e
theorem bQ.fold{α σ:Type}{body:AA VD}(val:α→AV)(f:σ→α→σ)(M:σ→AA AO)(I:Nat→σ→Prop)(C:α→Prop)(hM:∀k st,I k st→Mm (M st)∧(M st).length=n)
  (turn:∀k st c,C c→I (k+1) st→I k (f st c)∧∃loc1,cR b h F t (val c) loc (M st) loc1 (M st)∧(aI b h F body loc1 (M st) .next loc (M (f st c))∨aI b h F body loc1 (M st) .cont loc (M (f st c)))):
  ∀(cs:AA α) (st:σ),(∀c∈cs,C c)→I cs.length st→bQ b h F t body Mm n (cs.map val) loc (M st) .next loc (M (cs.foldl f st))
 | [],st,hC,hI=>.nil (hM _ _ hI).1 (hM _ _ hI).2
 | c :: cs,st,hC,hI=>by
  refine o02 (turn _ st c (hC c (by simp)) hI) fun h1 x3=>?_;refine o12 x3 fun loc1 h2 h3=>?_;clear x3
  have r:=bQ.fold val f M I C hM turn cs (f st c) (fun c hc=>hC c (by simp[hc])) h1
  rcases h3 with h3|h3
  ·exact .next (hM _ _ hI).1 (hM _ _ hI).2 h2 h3 r
  ·exact .cont (hM _ _ hI).1 (hM _ _ hI).2 h2 h3 r
theorem fU{i:Int}(x:aE b h F e1 loc mem (.int i) m1):aE b h F (.UnaryOp .USub e1 pos) loc mem (.int (-i)) m1:=fun A s ρ L Q E hA r fm q=>by
 show FA b.M A (eval e1 (F L)>>=_) Q E s
 refine wb (x A s ρ L _ E hA r fm fun ρ1 s1 mv r1 x1 h1=>?_)
 cases h1
 exact wb (ME (TA (PySem.P.neg_int (q ρ1 _ _ (r1.toks _) (x1.toks _) (.int _ _)))))
theorem aFL(x:aE b h F e1 loc mem v m1){c:NB}(y:fM b h v m1 c m2):aE b h F (.UnaryOp .Not e1 pos) loc mem (.bool (!c)) m2:=fun A s ρ L Q E hA r fm q=>by
 show FA b.M A (eval e1 (F L)>>=_) Q E s
 refine wb (x A s ρ L _ E hA r fm fun ρ1 s1 mv r1 x1 h1=>?_)
 refine wb (ME (TA ?_))
 unfold unaryOp
 refine TA ?_
 show FA b.M A (truthy mv>>=fun t=>pure (.bool (!t))) Q E s1
 exact wb (y A s1 ρ1 mv _ E hA r1 h1 fun ρ2 s2 r2 x2=>wp (q ρ2 s2 _ r2 (x1.trans x2) (.bool _)))
theorem ES{e:Expr}(x:aE b h F e loc mem v m1)(hp:Plain v:=by constructor)(hi:DA (∀L,interactive (F L)=false) q8)(hs:DA (∀L,swapsWith e none pos.line (F L)=pure false) q8):
  aL b h F (.Expr e pos) loc mem .next loc m1:=aEe x hp hi hs
theorem vO{n:Nat}{l:AA AV}(hz:l.length=n+1):seqIndex? (-1) l.length=some n:=by
 unfold seqIndex?
 simp only[show (-1:Int) < 0 by decide,if_true]
 rw[OB (by simp only[VA,PC];lia)]
 congr 1;lia
theorem fM.to{x:AV}{c c':NB}(q:fM b h x mem c m1)(hc:c=c'):fM b h x mem c' m1:=hc▸q
end
theorem sF{A:XA}{s:CA}{t:EA}{x y:BA}{Q:AA BA→CA→Prop}{E:BA→CA→Prop}(hh:A.handled=none)(ht:s.heap.IsList t #[x,y])
  (hQ:∀h',(∀c o,s.heap.get? c=some o→h'.get? c=some o)→Q [x,y] { s with heap:=h' }):FA b.M A (unpackItems (.ref t) 2 none) Q E s:=by
 have hlt:t≠s.heap.objs.size:=by refine o12 ht fun o ho x9=>?_;clear ht;exact GC (DB ho)
 unfold unpackItems
 refine wb ?_
 unfold notIterableAtAll
 refine wb (CF ht.typeIs slot_list_iter.lookup ?_)
 refine wp ?_
 simp only[YB,CG]
 refine wb (TA (wpAny_pyIter_list ht ?_))
 refine wb (TA ?_)
 have i0:Heap.IsListIter (s.heap.push { cls:=.type "list_iterator",data:=.fields #[.ref t,.int 0 0] }) s.heap.objs.size t 0:=⟨_,gpz _ rfl,rfl,rfl⟩
 have l0:=ht.push { cls:=.type "list_iterator",data:=.fields #[.ref t,.int 0 0] }
 show FA _ _ (pyNext (.ref s.heap.objs.size)>>=_) _ _ _
 refine wb (wpAny_pyNext_list_item i0 l0 (x:=x) rfl fun g1 i1 s1=>?_)
 have l1:=l0.extBut s1.extBut hlt
 refine wb (TA ?_)
 show FA _ _ (pyNext (.ref s.heap.objs.size)>>=_) _ _ _
 refine wb (wpAny_pyNext_list_item i1 l1 (x:=y) rfl fun g2 i2 s2=>?_)
 have l2:=l1.extBut s2.extBut hlt
 refine wb (TA (wp (wp (wp ?_))))
 rw[AB (show ¬ ([x,y]:AA BA).length < 2 from by simp)]
 refine wb (TA (wpAny_pyNext_list_end hh i2 l2 rfl fun g3 e3=>?_))
 simp only[Option.isSome_none,YB,CG]
 refine wp (hQ g3 fun c o e=>?_)
 have n:c≠s.heap.objs.size:=GC (DB e)
 exact e3 c o n (s2.extBut c o n (s1.extBut c o n (gps _ e)))
theorem pN{A:XA}{s:CA}{ρ:Rho}{mv:BA}{ts:AA Expr}{n:Nat}{env:Env}{Q:Unit→CA→Prop}{E:BA→CA→Prop}(hA:A.handled=none)(hv:VR s.heap ρ (.lst [v1,v2]) mv)(hn:(assignEach ts env).length=2)(hs:(assignEach ts env).findIdx? (·.1)=none)
  (q:∀h' ms,(∀c o,s.heap.get? c=some o→h'.get? c=some o)→VRs s.heap ρ [v1,v2] ms→FA b.M A (assignInOrder ((assignEach ts env).map (·.2)) ms) Q E { s with heap:=h' }):FA b.M A (assign (.Tuple ts n pos) env mv) Q E s:=by
 cases hv with|lst e ha hl=>
 rename_i a its nn
 obtain ⟨Ls⟩:=its
 cases hl with|cons a1 hl=>cases hl with|cons a2 hl=>
 cases hl
 rename_i w1 w2
 rw[arm_assign_Tuple]
 refine wb (ME ?_)
 unfold unpack
 rw[hn,hs]
 exact wb (TA (sF hA ⟨_,e,rfl,nn,rfl⟩ fun h' k=>q h' _ k (.cons a1 (.cons a2 .nil))))
theorem oK{ts:AA Expr}{n:Nat}(x:AsgTs b h F ts [v1,v2] loc mem loc' m1)(hn:DA (∀L,(assignEach ts (F L)).length=2) q8)(hs:DA (∀L,(assignEach ts (F L)).findIdx? (·.1)=none) q8):
  cR b h F (.Tuple ts n pos) (.lst [v1,v2]) loc mem loc' m1:=fun A s ρ L mv Q E hA r fm hv q=>
 pN hA.2.2 hv (hn L) (hs L) fun h' ms k hms=>by
  refine o03 (fX r fm k s.toks) fun r' f' x'=>?_
  exact x A _ ρ L _ Q E hA r' f' (x'.vrs0 hms) fun ρ2 s2 r2 f2 x2=>q ρ2 s2 r2 f2 ((x'.mono fun x9 h=>h.elim).trans x2)
theorem aBn(B:aC b)(f:aS F){x y:Str}{p1 p2:Pos}{n:Nat}(hx:DA (∀L,(F L).kindOf x=some .local) q8)(hxc:DA (∀L,(F L).cells.lookup x=none) q8)
  (hy:DA (∀L,(F L).kindOf y=some .local) q8) (hyc:DA (∀L,(F L).cells.lookup y=none) q8):
  AsgC b F (.Tuple [.Name x p1,.Name y p2] n pos) (.lst [v1,v2]) loc (putL y v2 (putL x v1 loc)):=fun A s ρ L mv mem Q E hA r fm hv q=>
 pN hA hv rfl rfl fun h' ms k hms=>by
  refine o03 (fX r fm k s.toks) fun r' f' x'=>?_
  cases x'.vrs0 hms with|cons a1 hl2=>cases hl2 with|cons a2 hl3=>
  cases hl3
  refine wb (TA (assign_Name (gA B f r' f' a1 (hx L) (hxc L) fun s1 r1 f1 x1=>?_)))
  refine wb (TA (assign_Name (gA B f r1 f1 (x1.vr (fun c hc=>hc▸f'.free L (.inl rfl)) a2) (hy L) (hyc L) fun s2 r2 f2 x2=>?_)))
  exact wp (q s2 r2 f2 (((x'.mono fun x9 h=>h.elim).trans x1).trans x2))
theorem aZ.map{α:Type}{t elt:Expr}{base:AA (Str×AV)}{l:AA α}(val res:α→AV)(q:∀c∈l,∃lv,AsgC b F t (val c) base lv∧(∀y w,base.lookup y=some w→lv.lookup y=some w)∧aE b h F elt lv mem (res c) mem):aZ b h F t elt [] base mem (l.map val) (l.map res):=by
 induction l with
 | nil=>exact .nil
 | cons c l ih=>
  refine o13 (q c (by simp)) fun lv h1 h2 h3=>?_
  exact .take h1 h2 .nil h3 (ih fun c hc=>q c (by simp[hc]))
theorem aEr{l:AA Nat}{a:Nat}(h:a∈l):a≤l.sum:=by
 induction l with
 | nil=>cases h
 | cons x l ih=>
  rw[LH]
  cases h with
  | head=>lia
  | tail _ h=>have:=ih h;lia
theorem ACN{x:Str}(B:DA (aC b) q11)(f:DA (aS F) q12)(hk:DA (∀L,(F L).kindOf x=some .local) q8)(hc:DA (∀L,(F L).cells.lookup x=none) q8):AsgC b F (.Name x pos) v loc (putL x v loc):=aCQ B f hk hc
theorem ACP{x y:Str}{p1 p2:Pos}{n:Nat}(B:DA (aC b) q11)(f:DA (aS F) q12)(hx:DA (∀L,(F L).kindOf x=some .local) q8)(hxc:DA (∀L,(F L).cells.lookup x=none) q8)
  (hy:DA (∀L,(F L).kindOf y=some .local) q8) (hyc:DA (∀L,(F L).cells.lookup y=none) q8):AsgC b F (.Tuple [.Name x p1,.Name y p2] n pos) (.tup [v1,v2]) loc (putL y v2 (putL x v1 loc)):=aCR B f hx hxc hy hyc
theorem ACL{x y:Str}{p1 p2:Pos}{n:Nat}(B:DA (aC b) q11)(f:DA (aS F) q12)(hx:DA (∀L,(F L).kindOf x=some .local) q8)(hxc:DA (∀L,(F L).cells.lookup x=none) q8)
  (hy:DA (∀L,(F L).kindOf y=some .local) q8) (hyc:DA (∀L,(F L).cells.lookup y=none) q8):AsgC b F (.Tuple [.Name x p1,.Name y p2] n pos) (.lst [v1,v2]) loc (putL y v2 (putL x v1 loc)):=aBn B f hx hxc hy hyc
variable {Mm:AA AO→Prop}
theorem bQ.foldL{α σ:Type}{body:AA VD}(val:α→AV)(f:σ→α→σ)(M:σ→AA AO)(Lc:σ→AA (Str×AV))(I:Nat→σ→Prop)(C:α→Prop)(hM:∀k st,I k st→Mm (M st)∧(M st).length=n)
  (turn:∀k st c,C c→I (k+1) st→I k (f st c)∧∃loc1 loc2 m1,cR b h F t (val c) (Lc st) (M st) loc1 m1∧(aI b h F body loc1 m1 .next loc2 (M (f st c))∨aI b h F body loc1 m1 .cont loc2 (M (f st c)))∧∀x v,(Lc (f st c)).lookup x=some v→loc2.lookup x=some v):
  ∀(cs:AA α) (st:σ),(∀c∈cs,C c)→I cs.length st→bQ b h F t body Mm n (cs.map val) (Lc st) (M st) .next (Lc (cs.foldl f st)) (M (cs.foldl f st))
 | [],st,hC,hI=>.nil (hM _ _ hI).1 (hM _ _ hI).2
 | c :: cs,st,hC,hI=>by
  refine o02 (turn _ st c (hC c (by simp)) hI) fun h1 x0=>?_;refine o33 x0 fun loc1 loc2 m1 h2 h3 h4=>?_;clear x0
  have r:=bQ.foldL val f M Lc I C hM turn cs (f st c) (fun c hc=>hC c (by simp[hc])) h1
  rcases h3 with h3|h3
  ·exact .next (hM _ _ hI).1 (hM _ _ hI).2 h2 (h3.weak h4) r
  ·exact .cont (hM _ _ hI).1 (hM _ _ hI).2 h2 (h3.weak h4) r
theorem bE{n:Nat}:∀(l:AA Str),AV.underL n (l.map .str)=true
 | []=>rfl
 | x :: l=>by rw[AD];unfold AV.underL;rw[bE l];rfl
variable {elt iter:Expr}{items outs:AA AV}{ifs:AA Expr}
theorem lF{scope:Scope}(x:aE b h F iter loc mem v m1)(hi:cB b h t v m1 items Mm m0 [])(hm:Mm m0)(hz:items.length≤1000000)(hr:∀L,aZ b h (compF scope [] (F L)) t elt ifs [] m0 items outs)
  (hif:DA (ifs=[]∨∃c,ifs=[c]) q20) (B:DA (aC b) q11) (f:DA (aS F) q12)
  (hfree:DA (∀x∈scope.names,x.2≠.free) q10) (hs:DA (∀L x,JD iter (F L) x=pure x) q13)
  (hkind:DA (scope.kind=.function) q9) (hnc:DA (∀x∈scope.names,x.2≠.cell) q10) (hnames:DA (∀x∈scope.names,x.2=.local→scope.names.lookup x.1=some .local) q10):
  aE b h F (.ListComp elt [⟨t,iter,ifs,0⟩] scope pos) loc mem (.lst outs) m0:=by
 have:=iV (pos:=pos) (rest:=[]) x hi hm hz hr hif B f hfree hs hkind hnc hnames
 rwa [ZB] at this
theorem hV(l:AA AV)(k:Nat):pick l (some (k:Int)) none=l.drop k:=by
 unfold pick
 simp only[Option.elim,clipAt_nat]
 rcases Nat.le_total k l.length with h|h
 ·rw[Nat.min_eq_left h,WF (by simp)]
 ·rw[Nat.min_eq_right h,List.drop_of_length_le (MA _),List.drop_of_length_le h];simp
theorem lG(l:AA AV)(k:Nat):pick l none (some (k:Int))=l.take k:=by
 unfold pick
 simp only[Option.elim,clipAt_nat,List.drop_zero,Nat.sub_zero]
 rcases Nat.le_total k l.length with h|h
 ·rw[Nat.min_eq_left h]
 ·rw[Nat.min_eq_right h,WF (MA _),WF h]
theorem zJ(l:AA AV):pick l none (some (-1))=l.dropLast:=by
 unfold pick
 have:clipAt l.length (-1)=l.length - 1:=clipAt_neg l.length 1 (MA _)
 simp only[Option.elim,this,List.drop_zero,Nat.sub_zero]
 rw[List.dropLast_eq_take]
theorem pO{α β:Type}(g:α→AA β):∀(l:AA α) (st:AA β),l.foldl (fun st c=>st++g c) st=st++l.flatMap g
 | [],st=>by simp
 | c :: l,st=>by rw[List.foldl_cons,pO g l];simp
end
theorem sG{n:Nat}(h:0 < n):seqIndex? 0 n=some 0:=by
 unfold seqIndex?
 simp only[Int.lt_irrefl,CG]
 rw[OB (by simp only[VA,PC];lia)];rfl
theorem gP{n k:Nat}(h:k < n):seqIndex? (k:Int) n=some k:=by
 unfold seqIndex?
 simp only[show ¬ ((k:Int) < 0) by lia,CG]
 rw[OB (by simp only[VA,PC];lia)];simp
theorem dC{k:AA (Str×AV)}{y:Str}{v:AV}:∀{l:AA (Str×AV)},l.lookup y=some v→(l++k).lookup y=some v
 | [],e=>by cases e
 | (x,u) :: l,e=>by
  simp only[List.cons_append,IF] at e ⊢
  cases q:y == x with
  | true=>rw[q] at e;exact e
  | false=>rw[q] at e;exact dC e
theorem hX{n:Nat}{l:AA (Str×AV)}(h:AV.underL n (l.map (·.2))=true):∀x v,l.lookup x=some v→v.under n=true:=fun x v e=>AV.underL_mem h (EE (f:=(·.2)) (mem_of_lookup e))
section
variable {b:Bs}{h:Nat}{mem m1:AA AO}{v:AV}
theorem R.allocN{ρ:Rho}{s:CA}(r:R b ρ mem s){h':PB}{tk:Nat}(kp:∀c o,s.heap.get? c=some o→h'.get? c=some o){p:AA EA}{ao:AO}(hp:∀a∈p,s.heap.objs.size≤a)(nd:p.Nodup)
  (ho:(∀{u:AV}{mu:BA},VR s.heap ρ u mu→VR h' (ρ.add p) u mu)→(∀{u:AA AV}{mu:AA BA},VRs s.heap ρ u mu→VRs h' (ρ.add p) u mu)→(∀c,c∈(ρ.add p).all→c∈ρ.all∨c∈p)→OR h' (ρ.add p) p ao):
  R b (ρ.add p) (mem++[ao]) { s with heap:=h',toks:=tk }∧Ext NoS ρ s (ρ.add p) { s with heap:=h',toks:=tk }∧(ρ.add p).rows[mem.length]?= some p:=by
 have fresh:∀c,s.heap.objs.size≤c→s.heap.get? c=none:=fun c hc=>aP hc
 have nall:∀c,s.heap.objs.size≤c→c∉ρ.all:=fun c hc q=>JB _ (FF (r.lt q) hc)
 have nbase:∀c,s.heap.objs.size≤c→b.s₁.heap.get? c=none:=fun c hc=>by
  cases e:b.s₁.heap.get? c with
  | none=>rfl
  | some o=>refine o11 (r.old.there c o e) fun o' e'=>?_;rw[fresh c hc] at e';cases e'
 have r0:R b ρ mem { s with heap:=h',toks:=tk }:=r.keeps kp s.gens r.bare s.drawn tk
 have x:Ext NoS ρ s (ρ.add p) { s with heap:=h',toks:=tk }:=by
  refine ⟨fun c o e x9 x9 x9=>kp c o e,fun i p e=>by show (ρ.rows++_)[i]?= _;rw[CC (List.getElem?_eq_some_iff.mp e).1];exact e,fun a ha=>?_,rfl,fun c o e=>⟨o,kp c o e⟩⟩
  have ha':a∈ρ.rows.flatten++p:=by simpa [Rho.add] using ha
  rcases mam ha' with z|z
  ·exact .inl z
  ·exact .inr (fresh a (hp a z))
 have ea:∀a,a∈(ρ.add p).all→a∈ρ.all∨a∈p:=fun a ha=>by
  have ha':a∈(ρ.rows.flatten++p)++ρ.hid:=by simpa [Rho.add,Rho.all] using ha
  rcases mam ha' with z|z
  ·exact (mam z).imp Rho.mem_rows id
  ·exact .inl (Rho.mem_hid z)
 have oo:=ho x.vr0 x.vrs0 ea
 refine ⟨⟨r0.old,r0.lim,r0.bare,r0.os,r0.tab,(ORs.move x.vr0 x.vrs0 (fun a x9=>kp a) r.ors).append (.cons oo .nil),?_,fun a ha=>(ea a ha).elim (r.new a) fun z=>nbase a (hp a z),r0.hid⟩,x,?_⟩
 ·have nd':=r.nd
  unfold Rho.all at nd'
  refine o03 (JA.mp nd') fun n1 n2 n3=>?_
  show ((ρ.rows++[p]).flatten++ρ.hid).Nodup
  rw[WB]
  refine JA.mpr ⟨JA.mpr ⟨n1,by simpa using nd,fun a ha c hc e=>?_⟩,n2,fun a ha c hc e=>?_⟩
  ·have:=hp c (by simpa using hc)
   exact nall a (e▸this) (Rho.mem_rows ha)
  ·rcases mam ha with z|z
   ·exact n3 a z c hc e
   ·have:=hp a (by simpa using z)
    exact nall c (e▸this) (Rho.mem_hid hc)
 ·show (ρ.rows++[p])[mem.length]?= _
  rw[OA (by rw[r.ors.length];exact MA _),r.ors.length,VB];rfl
theorem Ht.under{A:XA}(q:Ht (h+1) A)(c:Code)(hw:c.weight≤20)(hu:c.cUnits≤100):Ht h (A.under c):=by
 refine ⟨?_,?_,q.2.2⟩
 ·have:=q.1;show A.depth+c.weight+20 * h≤900;lia
 ·have:=q.2.1;show A.units+c.cUnits+100 * h≤9000;lia
theorem eW(C:EA)(r:AA BA)(kw:AA (Str×BA)):(Code.builtin "type.__call__" ⟨.ref C :: r,kw⟩).weight≤20∧(Code.builtin "type.__call__" ⟨.ref C :: r,kw⟩).cUnits≤100:=⟨IG rfl,IG rfl⟩
theorem pP(B:aC b){C fI:EA}{args kvs:AA AV}{kns:AA Str}(hm:makesIn b.K C=true)(hi:CD b.K (.ref C) "__init__" = some (some (.ref fI)))(hf:typeIn b.K (.ref fI)=some (.type "function"))
  (z:bS b h (.ref fI) (.obj mem.length :: args) kns kvs (mem++[.inst C none []]) .none m1):bS b (h+1) (.ref C) args kns kvs mem (.obj mem.length) m1:=fun A s ρ mvs mks Q E hA r hv hkv q=>by
 obtain ⟨hp,g,d,t,os⟩:=s
 have X:=r.kin B
 refine make_core (makes_of X hm) (MD X hi) (fun self=>bind_fn X self hf) (.inl rfl) ?_
 have kp:∀c o,hp.get? c=some o→((hp.push YC).push (instObj C hp.objs.size)).get? c=some o:=fun c o e=>gps _ (gps _ e)
 have g1:((hp.push YC).push (instObj C hp.objs.size)).get? hp.objs.size=some YC:=gps _ (gpz _ rfl)
 have g2:((hp.push YC).push (instObj C hp.objs.size)).get? (hp.objs.size+1)=some (instObj C hp.objs.size):=by
  have:((hp.push YC).push (instObj C hp.objs.size)).get? (hp.push YC).objs.size=some (instObj C hp.objs.size):=gpz _ rfl
  rwa [VE] at this
 refine o03 (r.allocN (tk:=t) (h':=(hp.push YC).push (instObj C hp.objs.size)) kp (p:=[hp.objs.size+1,hp.objs.size]) (ao:=.inst C none []) (fun a ha=>by
  show hp.objs.size≤a
  simp only[NA,GB,QD] at ha;rcases ha with rfl|rfl <;> lia) (by simp) (fun mv mvs ea=>.plain g2 ⟨fun x9=>none,Heap.Ns1.of_empty ⟨YC,#[],0,g1,rfl,fun e he=>absurd he (by simp),fun x9=>rfl⟩,fun x=>rfl⟩)) fun r1 x1 row=>?_
 refine codeAny_mono (z (A.under (.builtin "type.__call__" ⟨.ref C :: mvs,kns.zip mks⟩)) _ _ (.ref (hp.objs.size+1) :: mvs) mks (fun v s'=>v=.none∧Q (.ref (hp.objs.size+1)) s') E (hA.under _ (eW _ _ _).1 (eW _ _ _).2) r1 (.cons (.obj row) (x1.vrs0 hv)) (x1.vrs0 hkv) fun ρ' s' mv r' x' h'=>?_) fun rr s' w=>?_
 ·cases h'
  exact ⟨rfl,q ρ' s' _ r' (x1.trans x') (.obj (x'.pre _ _ row))⟩
 ·rcases rr with e|(v|_|_|_) <;> exact w
end
theorem mZ{y:Str}{k:AA (Str×BA)}:∀(l:AA (Str×BA)),(l++k).lookup y=match l.lookup y with|some v=>some v|none=>k.lookup y
 | []=>rfl
 | (x,u) :: l=>by
  simp only[List.cons_append,IF]
  cases y == x <;> simp[mZ l]
theorem zK{kd:Str→YA NameKind}:∀(binds:AA (Str×BA)) (m:Str→YA BA),(∀p∈binds,kd p.1=some .local)→∀y v,binds.reverse.lookup y=some v→bindL kd binds m y=some v
 | [],m,h,y,v,e=>by cases e
 | (n,u) :: r,m,h,y,v,e=>by
  have key:∀(r:AA (Str×BA)) (m:Str→YA BA),(∀p∈r,kd p.1=some .local)→bindL kd r m y=match r.reverse.lookup y with|some v=>some v|none=>m y:=by
   intro r
   induction r with
   | nil=>intro m _;rfl
   | cons p r ih=>
    obtain ⟨n,u⟩:=p
    intro m h
    rw[bindL,OB (h (n,u) (by simp)),ih _ fun p hp=>h p (by simp[hp]),List.reverse_cons,mZ]
    cases r.reverse.lookup y with
    | some v=>rfl
    | none=>
     simp only[IF]
     by_cases q:y=n
     ·subst q;rw[OB rfl,SE]
     ·rw[AB q,show (y == n)=false from by simpa using q]
  rw[key _ _ h,e]
section
variable {b:Bs}{h:Nat}{loc':AA (Str×AV)}{mem m1:AA AO}{out:AOut}
theorem wT(B:aC b){f:EA}{fd:BD}{oc:BA}{od:YA EA}{osl:RA (YA BA)}{body:AA VD}{xs:AA Str}{args:AA AV}
  (ho:b.K.lookup f=some ⟨oc,od,.func fd,osl⟩) (hcd:codeIn b.K fd.code fd.qualname=true) (hb:fd.body=.stmts body)
  (hbind:∀mvs:AA BA,mvs.length=args.length→TD fd ⟨mvs,[]⟩=pure (xs.zip mvs)) (nd:xs.Nodup)
  (hloc:∀x∈xs,fd.scope.names.lookup x=some .local) (hnc:∀L x,x∈xs→(callEnvC fd L f).cells.lookup x=none) (hun:∀L p,p∈(callEnvC fd L f).cells→(callEnvC fd L f).cells.lookup p.1=some p.2)
  (hco:fd.scope.isCoroutine=false) (hgen:fd.scope.isGenerator=false) (hk:fd.scope.kind=.function) (hclo:fd.closure=[])
  (hx:aI b h (fun L=>callEnvC fd L f) body (bindsL xs args) mem out loc' m1):aF b (h+1) (.ref f) args mem (retOf out) m1:=fun A s ρ mvs Q E hA r hv q=>by
 refine CE ?_
 have X:=r.kin B
 refine codeAny_call_cells (fd:=fd) (body:=body) (binds:=xs.zip mvs) hA.depth (X _ _ ho) rfl r.lim (codeRec_of X hcd) hb (hbind mvs hv.length) hclo
  (fun x hx=>.inl (hloc x.1 (DD (a:=x.1) (b:=x.2) hx).1)) (fun s1 hc=>?_) hco hgen hk
 obtain ⟨⟨⟨h₀,tk,e1⟩,hns,hkp,_⟩,hcell,hap,hab⟩:=hc
 subst e1
 generalize hL:s.heap.objs.size=L at *
 have e0:∀c,L≤c→s.heap.get? c=none:=fun c hc=>aP (hL▸hc)
 have nall:∀c,L≤c→c∉ρ.all:=fun c hc q=>JB _ (FF (r.lt q) (hL▸hc))
 have nbase:∀c,L≤c→b.s₁.heap.get? c=none:=fun c hc=>by
  cases e:b.s₁.heap.get? c with
  | none=>rfl
  | some o=>refine o11 (r.old.there c o e) fun o' e'=>?_;rw[e0 c hc] at e';cases e'
 have x0:Ext NoS ρ s ρ { s with heap:=h₀,toks:=tk }:=Ext.of_keeps _ _ hkp
 have r0:R b ρ mem { s with heap:=h₀,toks:=tk }:=r.keeps hkp s.gens r.bare s.drawn _
 have hge:∀c,bJ L (callEnvC fd L f).cells c→L≤c:=by
  rintro c (rfl|⟨p,hp,rfl⟩)
  ·exact MA _
  ·exact Nat.le_of_lt (hab p.1 p.2 hp)
 have nodupOf:∀(cs:AA (Str×EA)),(cs.Pairwise fun x y=>x.2≠y.2)→(cs.map (·.2)).Nodup:=fun cs z=>List.pairwise_map.mpr z
 have apart:=nodupOf _ hap
 have bf:=dA xs args mvs (x0.vrs0 hv) nd
 have fm:Fm b L (callEnvC fd L f).cells ρ (bindsL xs args) { s with heap:=h₀,toks:=tk }:=by
  refine ⟨⟨_,hns,fun y w hy=>?_⟩,fun c hc=>⟨nall c (hge c hc),nbase c (hge c hc)⟩,fun p hp=>?_,apart⟩
  ·refine o12 (bf y w hy) fun mv z1 z2=>?_
   have hyx:y∈xs:=by
    have:=mem_of_lookup z1
    rw[List.mem_reverse] at this
    exact (DD (a:=y) (b:=mv) this).1
   unfold bO
   rw[hnc L y hyx]
   exact ⟨mv,zK _ _ (fun p hp=>hloc p.1 (DD (a:=p.1) (b:=p.2) hp).1) y mv z1,z2⟩
  ·exact ⟨_,hcell p.1 p.2 (hun L p hp)⟩
 refine CB (hx (A.deeper (callEnvC fd L f)) _ ρ L _ _ (hA.deeper _) r0 fm fun ρ' s' fl r' f' x' o=>?_) (fun fl s' z=>z) fun x9 x9 z=>z
 have xx:Ext NoS ρ s ρ' s':=by
  refine ⟨fun c oc e x9 hc kq=>x'.keep c oc (hkp c oc e) (fun q=>by rw[e0 c (hge c q)] at e;cases e) hc kq,x'.pre,fun a ha=>?_,x'.hid,fun c oc e=>x'.live c oc (hkp c oc e)⟩
  rcases x'.new a ha with z|z
  ·exact .inl z
  ·right
   cases e:s.heap.get? a with
   | none=>rfl
   | some o=>have:=hkp a o e;rw[z] at this;cases this
 cases o with
 | ret e=>exact q ρ' s' _ r' xx e
 | _=>exact q ρ' s' _ r' xx .none
variable {k n:Nat}{F:EA→Env}{loc base:AA (Str×AV)}{v:AV}{t elt cond:Expr}{st:VD}
theorem aZ.filter{α:Type}{l:AA α}(val res:α→AV)(pz:α→NB)(q:∀c∈l,∃lv,AsgC b F t (val c) base lv∧(∀y w,base.lookup y=some w→lv.lookup y=some w)∧bA b h F cond lv mem (pz c) mem∧aE b h F elt lv mem (res c) mem):
  aZ b h F t elt [cond] base mem (l.map val) ((l.filter pz).map res):=by
 induction l with
 | nil=>exact .nil
 | cons c l ih=>
  refine o11 (q c (by simp)) fun lv x1=>?_;refine o04 x1 fun h1 h2 h3 h4=>?_;clear x1
  have r:=ih fun c hc=>q c (by simp[hc])
  rw[AD]
  cases hp:pz c with
  | true=>rw[List.filter_cons_of_pos hp,AD];exact .take h1 h2 (.one (hp▸h3)) h4 r
  | false=>rw[List.filter_cons_of_neg (by simp[hp])];exact .skip h1 h2 (.one (hp▸h3)) r
theorem iG:∀(n a:Nat),steps (a:Int) 1 n=(List.range' a n).map fun (k:Nat)=>AV.int (k:Int)
 | 0,a=>rfl
 | n+1,a=>by
  rw[steps,List.range'_succ,AD,← iG n (a+1)]
  push_cast;rfl
theorem aL.keep{junk:AA AO}(x:aL b h F st loc mem .next loc' (mem++junk))(u:∀o∈mem,o.under mem.length=true)(hw:AV.underL mem.length (loc'.map (·.2))=true):aL b h F st loc mem .next loc' mem:=
 x.trim (MA _) (fun v e=>nomatch e) u fun x v e=>⟨e,hX hw x v e⟩
variable {m0 m2 rest:AA AO}{e1 e2 iter:Expr}{pos:Pos}{c:NB}{items outs:AA AV}{Mm:AA AO→Prop}{ifs:AA Expr}
theorem zL(B:aC b)(f:aS F){scope:Scope}{cl:EA→AA (Str×EA)}{A:XA}{s:CA}{ρ:Rho}{L:EA}{E:BA→CA→Prop}{KK:BA→EA→CA→Prop}(hA:Ht h A)(r:R b ρ mem s)(fm:Fm b L (F L).cells ρ loc s)
  (x:aE b h F iter loc mem v m1) (hi:cB b h t v m1 items Mm m0 rest) (hm:Mm m0) (hz:items.length≤1000000)
  (hif:ifs=[]∨∃c,ifs=[c])
  (hr:∀L,aZ b h (compF scope (cl L) (F L)) t elt ifs base m0 items outs)
  (hcs:∀L,∀p∈cl L,p∈(F L).cells) (hap:∀L,((cl L).map (·.2)).Nodup)
  (hb:∀y w,base.lookup y=some w→loc.lookup y=some w∧(rest=[]∨w.under m0.length=true)∧∀L,(cl L).lookup y=(F L).cells.lookup y∧((cl L).lookup y).isSome=true)
  (hkind:scope.kind=.function) (hnc:∀x∈scope.names,x.2≠.cell)
  (q:∀ρ3 s' acc C,R b ρ3 (m0++rest) s'→Ext NoS ρ s ρ3 s'→VR s'.heap ρ3 (.lst outs) (.ref acc)→s.heap.get? C=none→b.s₁.heap.get? C=none→C∉ρ3.all→(∃m,s'.heap.Ns C m)→KK (.ref acc) C s'):
  FA b.M A (eval iter (F L)) (fun x s₁=>FA b.M A (pyIter x) (fun it s₂=>FA b.M A (newList []) (fun acc s₃=>
   FA b.M A (newFunctionEnv scope (F L).globals (cl L) [] (F L).qual none .none (some (F L))) (fun cenv s₄=>
    codeAny b.M A (.compStart (.ListComp elt [⟨t,iter,ifs,0⟩] scope pos) 0 it acc { cenv with scope:={ scope with names:=ownNames scope (F L) } }) (fun r s'=>∃f,r=.ok f∧KK acc cenv.locals s') s₄) E s₃) E s₂) E s₁) E s:=by
 refine x A s ρ L _ E hA r fm fun ρ1 s1 mv r1 x1 h1=>hi A s1 ρ1 mv _ E hA r1 h1 fun it W P ρh sh rh I hP hW hW2 back hall hv hk=>?_
 refine wpAny_newList ?_
 refine o02 (rh.push_hid { cls:=.type "list",data:=.seq ([]:AA BA).toArray } rfl) fun ra va=>?_
 have nacc:sh.heap.get? sh.heap.objs.size=none:=aP (MA _)
 have hPa:P 0 (ρh.hide [sh.heap.objs.size]) { sh with heap:=sh.heap.push { cls:=.type "list",data:=.seq ([]:AA BA).toArray } }:=
  I.more hP (fun c o e=>gps _ e) fun c hc=>by rw[HA] at hc;subst hc;exact nacc
 have hga:((sh.heap.push { cls:=.type "list",data:=.seq ([]:AA BA).toArray }):PB).get? sh.heap.objs.size=some { cls:=.type "list",data:=.seq ([]:AA BA).toArray }:=gpz _ rfl
 refine ZG hnc (fun x hx=>nomatch hx) (fun h4 hns hsb=>?_) hkind
 have kp:∀c o,(sh.heap.push { cls:=.type "list",data:=.seq ([]:AA BA).toArray }:PB).get? c=some o→h4.get? c=some o:=fun c o e=>by
  refine hsb.extBut c o (GC (DB e)) (gps _ e)
 have nC:(sh.heap.push { cls:=.type "list",data:=.seq ([]:AA BA).toArray }:PB).get? (sh.heap.push { cls:=.type "list",data:=.seq ([]:AA BA).toArray }).objs.size=none:=aP (MA _)
 have szA:(sh.heap.push { cls:=.type "list",data:=.seq ([]:AA BA).toArray }:PB).objs.size=sh.heap.objs.size+1:=VE ..
 generalize hC:(sh.heap.push { cls:=.type "list",data:=.seq ([]:AA BA).toArray }:PB).objs.size=C at *
 generalize hacc:sh.heap.objs.size=acc at *
 have r4:R b (ρh.hide [acc]) m0 { sh with heap:=h4,toks:=sh.toks+0 }:=ra.keeps kp sh.gens ra.bare sh.drawn (sh.toks+0)
 have hP4:P 0 (ρh.hide [acc]) { sh with heap:=h4,toks:=sh.toks+0 }:=by
  have:=I.more (H:=[]) (s':={ sh with heap:=h4,toks:=sh.toks+0 }) hPa kp (fun c hc=>nomatch hc)
  exact this
 have v4:∀{u:AV}{mu:BA},VR sh.heap ρh u mu→VR h4 (ρh.hide [acc]) u mu:=fun z=>(va z).move (ρ:=ρh.hide [acc]) (ρ':=ρh.hide [acc]) (fun x9=>False) (fun c o e x9=>kp c o e) (fun x9 h=>h.elim) (fun x9 x9 e=>e) fun a ha=>.inl ha
 have k4:∀c o,sh.heap.get? c=some o→h4.get? c=some o:=fun c o e=>kp c o (gps _ e)
 have CnA:C≠acc:=by lia
 have Cn:C∉(ρh.hide [acc]).all:=fun z=>JB _ (by have:=ra.lt z;rw[hC] at this;exact this)
 have Cb:b.s₁.heap.get? C=none:=by
  cases e:b.s₁.heap.get? C with
  | none=>rfl
  | some o=>refine o11 (ra.old.there C o e) fun o' e'=>?_;rw[nC] at e';cases e'
 have fm1:Fm b L (F L).cells ρ1 loc s1:=fm.ext x1
 have cells4:∀p∈cl L,∃v,h4.IsCell p.2 v:=fun p hp=>by
  refine o22 (fm1.cel p (hcs L p hp)) fun v0 oc e d=>?_
  exact ⟨v0,oc,k4 _ _ (hk _ _ e),d⟩
 have off4:∀p∈cl L,p.2∉(ρh.hide [acc]).all∧b.s₁.heap.get? p.2=none:=fun p hp=>by
  refine o02 (fm1.off p.2 (.inr ⟨p,hcs L p hp,rfl⟩)) fun z1 z2=>?_
  refine o22 (fm1.cel p (hcs L p hp)) fun v0 oc e d=>?_
  refine ⟨fun z=>?_,z2⟩
  have z3:=hall p.2 z1 ⟨oc,e⟩
  rcases mam z with z|z
  ·exact z3 (Rho.mem_rows z)
  ·rcases mam z with z|z
   ·rw[HA] at z;have:=hk _ _ e;rw[z,nacc] at this;cases this
   ·exact z3 (Rho.mem_hid z)
 have f4:Fm b C (cl L) (ρh.hide [acc]) base { sh with heap:=h4,toks:=sh.toks+0 }:=by
  refine ⟨⟨_,hns,fun y w hy=>?_⟩,fun c hc=>?_,cells4,hap L⟩
  ·refine o03 (hb y w hy) fun b1 b2 b3=>?_
   refine o12 fm1.ns fun m x9 hm'=>?_
   have z:=hm' y w b1
   unfold bO at z ⊢
   rw[(b3 L).1]
   have b5:=(b3 L).2
   rw[(b3 L).1] at b5
   cases e:(F L).cells.lookup y with
   | none=>rw[e] at b5;cases b5
   | some cc=>
    rw[e] at z
    refine o12 z fun mw x0 z3=>?_;clear z;refine o12 x0 fun oc z1 z2=>?_;clear x0
    exact ⟨mw,⟨oc,k4 _ _ (hk _ _ z1),z2⟩,v4 (hv z3 b2)⟩
  ·rcases hc with rfl|⟨p,hp,rfl⟩
   ·exact ⟨Cn,Cb⟩
   ·exact off4 p hp
 have haW:acc∉W:=fun z=>by
  refine o11 (rh.hid acc (hW acc z)) fun o e=>?_
  rw[nacc] at e;cases e
 show codeAny b.M A (.compStart (.ListComp elt [⟨t,iter,ifs,0⟩] scope pos) 0 (.ref it) (.ref acc) (compF scope (cl L) (F L) C)) _ _
 have loop:codeAny b.M A (.compLoop (.ListComp elt [⟨t,iter,ifs,0⟩] scope pos) 0 (.ref it) (.ref acc) (compF scope (cl L) (F L) C)) (fun r s'=>∃f,r=.ok f∧KK (.ref acc) C s') { sh with heap:=h4,toks:=sh.toks+0 }:=by
  refine pL B I (F:=compF scope (cl L) (F L)) hA hm hz hif (outs:=outs) (base:=base) (fun ρ' s' its n r' x' hl' ho' hns'=>?_) items.length _ ⟨0,ρh.hide [acc],[],outs,#[],0,by lia,hr L,rfl,MA _,r4,f4,hP4,fun c hc=>WA.mpr (.inr (hW c hc)),WA.mpr (.inl (by simp)),haW,kp _ _ hga,.nil,Ext.refl _ _ _⟩
  refine ⟨.next,rfl,?_⟩
  have eh:ρ'.hid=[acc]++ρh.hid:=x'.hid
  have CnR:C∉ρ'.all:=fun z=>by
   rcases x'.all C z with z|z
   ·exact Cn z
   ·refine o32 hns fun o es ep e x9=>?_;clear hns
    rw[show (({ sh with heap:=h4,toks:=sh.toks+0 }:CA).heap.get? C)=h4.get? C from rfl,e] at z;cases z
  have r6:R b ⟨ρ'.rows,ρh.hid⟩ m0 s':=r'.unhide eh
  have nd':=r'.nd
  unfold Rho.all at nd'
  rw[eh] at nd'
  refine o03 (JA.mp nd') fun n1 n2 n3=>?_
  have accN:acc∉(⟨ρ'.rows,ρh.hid⟩:Rho).all:=fun z=>by
   rcases mam z with z|z
   ·exact n3 acc z acc (by simp) rfl
   ·exact (JA.mp n2).2.2 acc (by simp) acc z rfl
  have sub:∀c∈ρh.hid,c∈ρ'.hid:=fun c hc=>by rw[eh];exact WA.mpr (.inr hc)
  have vl:VR s'.heap ⟨ρ'.rows,ρh.hid⟩ (.lst outs) (.ref acc):=.lst hl' accN (ho'.show' (ρ:=ρ') (ρ':=⟨ρ'.rows,ρh.hid⟩) rfl sub)
  have ne:∀c o,sh.heap.get? c=some o→c≠C∧c≠acc:=fun c o e=>⟨fun z=>(by have:=gps ({ cls:=.type "list",data:=.seq ([]:AA BA).toArray }:Obj) e;rw[z,nC] at this;cases this),fun z=>(by rw[z,nacc] at e;cases e)⟩
  have xx:Ext (fun c=>NoS c∨c∈W) ρh sh ⟨ρ'.rows,ρh.hid⟩ s':=by
   refine ⟨fun c o e n hc kq=>?_,x'.pre,fun a ha=>?_,rfl,fun c o e=>x'.live c o (k4 c o e)⟩
   ·refine o02 (ne c o e) fun z1 z2=>?_
    exact x'.keep c o (k4 c o e) (fun z=>z.elim z1 fun z=>z.elim (fun z=>n (.inr z)) z2) hc kq
   ·rcases x'.new a ha with z|z
    ·exact .inl z
    ·right
     cases e:sh.heap.get? a with
     | none=>rfl
     | some o=>have:=k4 a o e;rw[show (({ sh with heap:=h4,toks:=sh.toks+0 }:CA).heap.get? a)=h4.get? a from rfl] at z;rw[z] at this;cases this
  refine o11 (back NoS ⟨ρ'.rows,ρh.hid⟩ s' m0 (fun c hc=>hc.elim) r6 rfl xx) fun ρ3 x0=>?_;refine o04 x0 fun r7 x7 v7 n7=>?_;clear x0
  have sC:s.heap.get? C=none:=by
   cases e:s.heap.get? C with
   | none=>rfl
   | some o=>
    refine o11 (x1.live C o e) fun o1 e1=>?_
    exact absurd rfl (ne C o1 (hk C o1 e1)).1
  refine q ρ3 s' acc C r7 (x1.trans x7) (v7 vl) sC Cb (n7 C fun z=>CnR ?_) hns'
  rcases mam z with z|z
  ·exact Rho.mem_rows z
  ·exact Rho.mem_hid (sub C z)
 refine codeAny_compStart_list loop (I.self hP4 loop)
theorem zM{M:WH}{A:XA}{env:Env}{s:CA}{scope:Scope}{cl:AA (Str×EA)}{Q:CA→Prop}{E:BA→CA→Prop}{u:BA→Sem Unit}(hs:∀x,JD iter env x=pure x)
  (hcl:closureFor scope env=pure cl) (hkind:scope.kind=.function) (hnames:∀x∈scope.names,x.2=.local→(ownNames scope env).lookup x.1=some .local)
  (h:FA M A (eval iter env) (fun x s₁=>FA M A (pyIter x) (fun it s₂=>FA M A (newList []) (fun acc s₃=>
   FA M A (newFunctionEnv scope env.globals cl [] env.qual none .none (some env)) (fun cenv s₄=>
    codeAny M A (.compStart (.ListComp elt [⟨t,iter,ifs,0⟩] scope pos) 0 it acc { cenv with scope:={ scope with names:=ownNames scope env } }) (fun r s'=>∃f,r=.ok f∧FA M A (u acc) (fun x9 s''=>∃m,s''.heap.Ns cenv.locals m∧∀h',ZD cenv.locals s''.heap h'→Q { s'' with heap:=h' }) E s') s₄) E s₃) E s₂) E s₁) E s):
  FA M A (evalThenUse (.ListComp elt [⟨t,iter,ifs,0⟩] scope pos) env u) (fun x9 s'=>Q s') E s:=by
 show FA M A (comprehension (.ListComp elt [⟨t,iter,ifs,0⟩] scope pos) scope env _ (newList []) false (eval iter env) (some u)>>=_) _ E s
 refine wb ?_
 unfold comprehension
 rw[hcl]
 refine wb (CB h (fun x s₁ h₁=>wb (ME (wb (IC (hs x) (wb (TA (CB h₁ (fun it s₂ h₂=>
  wpAny_standIf (wb (CB h₂ (fun acc s₃ h₃=>wb (wp (wb (CB h₃ (fun cenv s₄ h₄=>?_) fun x9 x9 h'=>h')))) fun x9 x9 h'=>h')))
   fun x9 x9 h'=>h'))))))) fun x9 x9 h'=>h')
 dsimp only
 refine TA (wb (NE (TA (wpAny_run (codeAny_mono h₄ fun r s' hr=>?_)))))
 obtain ⟨f,rfl,hr⟩:=hr
 refine wb (ZE (wb (TA (CB hr (fun x9 s'' hr'=>?_) fun x9 x9 h'=>h'))))
 obtain ⟨m,hn,hr'⟩:=hr'
 refine wb (wpAny_comp_letGo (cenv:={ cenv with scope:={ scope with names:=ownNames scope env } }) hkind _ s'' m (fun x hx hl=>?_) hn fun h' m' x9 hs'=>wp (wp (hr' h' hs')))
 have key:x∈scope.names:=by
  rcases mam hx with h1|h1
  ·exact (List.mem_filter.mp (List.mem_reverse.mp (HF h1))).1
  ·exact (List.mem_filter.mp (List.mem_reverse.mp (PE h1))).1
 exact hnames x key hl
theorem gE(B:aC b)(f:aS F){scope:Scope}{cl:EA→AA (Str×EA)}{y:Str}{py a0:Pos}(x:aE b h F iter loc mem v m1)(hi:cB b h t v m1 items Mm m0 rest)(hm:Mm m0)(hz:items.length≤1000000)
  (hif:ifs=[]∨∃c,ifs=[c])
  (hr:∀L,aZ b h (compF scope (cl L) (F L)) t elt ifs base m0 items outs)
  (hcl:∀L,closureFor scope (F L)=pure (cl L)) (hcs:∀L,∀p∈cl L,p∈(F L).cells) (hap:∀L,((cl L).map (·.2)).Nodup)
  (hb:∀y w,base.lookup y=some w→loc.lookup y=some w∧(rest=[]∨w.under m0.length=true)∧∀L,(cl L).lookup y=(F L).cells.lookup y∧((cl L).lookup y).isSome=true)
  (hl:∀L,eD (F L) y) (hsw:∀L,swapsWith (.ListComp elt [⟨t,iter,ifs,0⟩] scope pos) (some (.Name y py)) a0.line (F L)=pure true)
  (hs:∀L x,JD iter (F L) x=pure x) (hkind:scope.kind=.function) (hnc:∀x∈scope.names,x.2≠.cell)
  (hnames:∀L,∀x∈scope.names,x.2=.local→(ownNames scope (F L)).lookup x.1=some .local):
  aL b h F (.Assign [.Name y py] (.ListComp elt [⟨t,iter,ifs,0⟩] scope pos) a0) loc mem .next (putL y (.lst outs) loc) (m0++rest):=fun A s ρ L Q E hA r fm q=>by
 rw[exec_Assign_Name_used _ _ _ _ (hsw L)]
 refine wb (ME (wb (CB (zM (Q:=fun s'=>Q .next s') (hs L) (hcl L) hkind (hnames L) (zL (KK:=fun acc C s'=>FA b.M A (assign (.Name y py) (F L) acc) (fun x9 s''=>∃m,s''.heap.Ns C m∧∀h',ZD C s''.heap h'→Q .next { s'' with heap:=h' }) E s') B f hA r fm x hi hm hz hif hr hcs hap hb hkind hnc fun ρ3 s' acc C r3 x3 v3 sC bC nC hns=>?_)) (fun x9 x9 z=>wp z) fun x9 x9 z=>z)))
 have fm3:=fm.ext x3
 refine assign_Name (cJ B f r3 fm3 v3 (hl L) fun s2 r2 f2 x2=>?_)
 obtain ⟨m,hns⟩:=hns
 have nOut:¬ bJ L (F L).cells C:=by
  rintro (rfl|⟨p,hp,rfl⟩)
  ·refine o12 fm.ns fun x9 x0 x9=>?_;refine o32 x0 fun o es ep e x9=>?_;clear x0;rw[sC] at e;cases e
  ·refine o22 (fm.cel p hp) fun v0 oc e x9=>?_;rw[sC] at e;cases e
 have nrow:C∉ρ3.rows.flatten:=fun z=>nC (Rho.mem_rows z)
 have hns2:s2.heap.Ns C m:=by
  refine o32 hns fun o es ep e z=>?_;clear hns
  exact ⟨o,es,ep,x2.keep C o e nOut nrow (.dict z.1),z⟩
 refine ⟨m,hns2,fun h' hs'=>?_⟩
 have fC:Free s2.heap ρ3 C:=.ns hns2
 have kp:∀c o,s2.heap.get? c=some o→c≠C→h'.get? c=some o:=fun c o e n=>(hs'.2 c n).trans e
 have mv:∀{u:AV}{mu:BA},VR s2.heap ρ3 u mu→VR h' ρ3 u mu:=fun z=>z.move (ρ:=ρ3) (ρ':=ρ3) (·= C) kp (fun c e=>e▸fC) (fun x9 x9 e=>e) fun a ha=>.inl ha
 have r4:R b ρ3 (m0++rest) { s2 with heap:=h' }:=r2.same B hs' bC nC fC s2.gens r2.bare s2.drawn s2.toks
 have f4:Fm b L (F L).cells ρ3 (putL y (.lst outs) loc) { s2 with heap:=h' }:=by
  refine o12 f2.ns fun mf x0 hmf=>?_;refine o32 x0 fun o es ep e z=>?_;clear x0
  have nL:L≠C:=fun q=>nOut (.inl q.symm)
  have ncell:∀p∈(F L).cells,p.2≠C:=fun p hp q=>nOut (.inr ⟨p,hp,q⟩)
  refine ⟨⟨mf,⟨o,es,ep,kp L o e nL,z⟩,fun y w hy=>?_⟩,f2.off,fun p hp=>?_,f2.apart⟩
  ·have z:=hmf y w hy
   unfold bO at z ⊢
   split at z
   ·refine o12 z fun mw a d=>?_;clear z;exact ⟨mw,a,mv d⟩
   ·rename_i c hc
    refine o12 z fun mw x0 d=>?_;clear z;refine o12 x0 fun oc e1 e2=>?_;clear x0
    exact ⟨mw,⟨oc,kp c oc e1 (ncell _ (mem_of_lookup hc)),e2⟩,mv d⟩
  ·refine o22 (f2.cel p hp) fun v0 oc e1 e2=>?_
   exact ⟨v0,oc,kp _ oc e1 (ncell p hp),e2⟩
 have x02:Ext (bJ L (F L).cells) ρ s ρ3 s2:=(x3.mono fun x9 h=>h.elim).trans x2
 refine q ρ3 _ .next r4 f4 ⟨fun c o e n hc kq=>kp c o (x02.keep c o e n hc kq) fun z=>(by rw[z,sC] at e;cases e),x02.pre,x02.new,x02.hid,fun c o e=>?_⟩ .next
 refine o11 (x02.live c o e) fun o1 e1=>?_
 exact ⟨o1,kp c o1 e1 fun z=>(by rw[z,sC] at e;cases e)⟩
theorem aL.into{st:VD}(x:aL b h F st loc mem out loc' m1)(hc:m1=m2):aL b h F st loc mem out loc' m2:=hc▸x
theorem SC{scope:Scope}{y:Str}{py a0:Pos}(x:aE b h F iter loc mem v m1)(hi:cB b h t v m1 items Mm m0 [])(hm:Mm m0)(hz:items.length≤1000000)(hr:∀L,aZ b h (compF scope [] (F L)) t elt ifs [] m0 items outs)
  (hif:DA (ifs=[]∨∃c,ifs=[c]) q20) (B:DA (aC b) q11) (f:DA (aS F) q12) (hl:∀L,eD (F L) y:=by exact fun x9=>.loc rfl rfl)
  (hsw:DA (∀L,swapsWith (.ListComp elt [⟨t,iter,ifs,0⟩] scope pos) (some (.Name y py)) a0.line (F L)=pure true) q8)
  (hfree:DA (∀x∈scope.names,x.2≠.free) q10) (hs:DA (∀L x,JD iter (F L) x=pure x) q13)
  (hkind:DA (scope.kind=.function) q9) (hnc:DA (∀x∈scope.names,x.2≠.cell) q10) (hnames:DA (∀x∈scope.names,x.2=.local→scope.names.lookup x.1=some .local) q10):
  aL b h F (.Assign [.Name y py] (.ListComp elt [⟨t,iter,ifs,0⟩] scope pos) a0) loc mem .next (putL y (.lst outs) loc) m0:=
 .into (gE B f (cl:=fun x9=>[]) (base:=[]) (rest:=[]) x hi hm hz hif hr (fun L=>closureFor_none hfree) (fun L p hp=>nomatch hp) (fun L=>GG) (fun y w e=>nomatch e) hl hsw hs hkind hnc
  (fun L=>by rw[sE hfree];exact hnames)) (ZB _)
end
theorem lm{α β:Type}{f:α→β}{l:AA α}{n:Nat}(h:l.length≤n):(l.map f).length≤n:=GA (DE (BB f)) h
theorem ldp{α:Type}{l:AA α}{k n:Nat}(h:l.length≤n):(l.drop k).length≤n:=GA (DE AG) (GA (Nat.sub_le _ _) h)
theorem ltk{α:Type}{l:AA α}{k n:Nat}(h:l.length≤n):(l.take k).length≤n:=GA (List.length_take_le' _ _) h
theorem lzp{α β:Type}{l:AA α}{m:AA β}{n:Nat}(h:l.length≤n):(l.zip m).length≤n:=GA (DE List.length_zip) (GA (Nat.min_le_left _ _) h)
section
variable {b:Bs}{h:Nat}{F:EA→Env}{loc loc' loc1:AA (Str×AV)}{mem m1 m2:AA AO}{v:AV}{e1:Expr}{pos:Pos}{out:AOut}{t:Expr}{st:VD}{l body orelse:AA VD}{X:AA (Str×AV)→Prop}
theorem xnil(p:X loc):∃l2,aI b h F [] loc mem .next l2 mem∧X l2:=⟨loc,.nil,p⟩
theorem xcons(x:aL b h F st loc mem .next loc' m1)(y:∃l2,aI b h F l loc' m1 out l2 m2∧X l2):∃l2,aI b h F (st :: l) loc mem out l2 m2∧X l2:=y.imp fun x9 z=>⟨.cons x z.1,z.2⟩
theorem xlast(x:∃l2,aL b h F st loc mem .next l2 m2∧X l2):∃l2,aI b h F [st] loc mem .next l2 m2∧X l2:=x.imp fun x9 z=>⟨.cons z.1 .nil,z.2⟩
theorem xifT(c:bA b h F e1 loc mem true m1)(y:∃l2,aI b h F body loc m1 out l2 m2∧X l2):∃l2,aL b h F (.If e1 body orelse pos) loc mem out l2 m2∧X l2:=y.imp fun x9 z=>⟨aO c z.1,z.2⟩
theorem xifF(c:bA b h F e1 loc mem false m1)(y:∃l2,aI b h F orelse loc m1 out l2 m2∧X l2):∃l2,aL b h F (.If e1 body orelse pos) loc mem out l2 m2∧X l2:=y.imp fun x9 z=>⟨aK c z.1,z.2⟩
theorem xturn(a:cR b h F t v loc mem loc1 m1)(y:∃l2,aI b h F body loc1 m1 .next l2 m2∧∀x v,loc'.lookup x=some v→l2.lookup x=some v):
  ∃loc1 loc2 m1,cR b h F t v loc mem loc1 m1∧(aI b h F body loc1 m1 .next loc2 m2∨aI b h F body loc1 m1 .cont loc2 m2)∧∀x v,loc'.lookup x=some v→loc2.lookup x=some v:=by
 refine o12 y fun l2 y1 y2=>?_;clear y
 exact ⟨loc1,l2,m1,a,.inl y1,y2⟩
end
theorem size1{n:Nat}(h:1≤n):LG 1 (n:Int) 1=((n - 1:Nat):Int):=by
 rw[rangeSize_one]
 split <;> lia
theorem fits1{i:Int}(h:-1000000≤i)(h2:i≤1000000):Builtin.Range.rangeFitsLong i=true:=by
 unfold Builtin.Range.rangeFitsLong
 simp only[VA,PC];lia
theorem small1{n:Nat}(h:1≤n)(h2:n≤1000):MH 1 (n:Int) 1=true:=by
 unfold MH
 rw[size1 h,fits1 (i:=1) (by lia) (by lia),fits1 (i:=(n:Int)) (by lia) (by lia),fits1 (i:=((n - 1:Nat):Int)) (by lia) (by lia),OB (by decide),fits1 (i:=(n:Int)+(1 - 1)) (by lia) (by lia)]
 simp
mutual
theorem AV.under_mono{n m:Nat}(h:n≤m):∀{v:AV},v.under n=true→v.under m=true
 | .obj i,q=>by simp only[AV.under,PC] at q ⊢;lia
 | .tup l,q=>by simp only[AV.under] at q ⊢;exact AV.underL_mono h q
 | .lst l,q=>by simp only[AV.under] at q ⊢;exact AV.underL_mono h q
 | .none,_=>rfl
 | .bool _,_=>rfl
 | .int _,_=>rfl
 | .str _,_=>rfl
 | .val _,_=>rfl
theorem AV.underL_mono{n m:Nat}(h:n≤m):∀{l:AA AV},AV.underL n l=true→AV.underL m l=true
 | [],_=>rfl
 | v :: l,q=>by
  simp only[AV.underL,VA] at q ⊢
  exact ⟨AV.under_mono h q.1,AV.underL_mono h q.2⟩
end
theorem AO.under_mono{n m:Nat}(h:n≤m):∀{o:AO},o.under n=true→o.under m=true
 | .lst l,q=>by simp only[AO.under] at q ⊢;exact AV.underL_mono h q
 | .inst _ sq at_,q=>by
  cases sq with
  | none=>simp only[AO.under,VA] at q ⊢;exact ⟨q.1,AV.underL_mono h q.2⟩
  | some l=>simp only[AO.under,VA] at q ⊢;exact ⟨AV.underL_mono h q.1,AV.underL_mono h q.2⟩
 | .zip l1 l2,q=>by simp only[AO.under,VA] at q ⊢;exact ⟨AV.underL_mono h q.1,AV.underL_mono h q.2⟩
 | .zip2 l,q=>by simp only[AO.under] at q ⊢;exact AV.underL_mono h q
 | .fn at_,q=>by simp only[AO.under] at q ⊢;exact AV.underL_mono h q
 | .other _,_=>rfl
 | .rng _ _ _,_=>rfl
 | .dead,_=>rfl
theorem aBo{mem:AA AO}{o:AO}(hu:∀o∈mem,o.under mem.length=true)(ho:o.under (mem.length+1)=true):∀a∈mem++[o],a.under (mem++[o]).length=true:=fun a ha=>by
 rw[PA,IE]
 rcases mam ha with z|z
 ·exact AO.under_mono (by lia) (hu a z)
 ·rw[HA] at z;subst z;exact ho
theorem sH(n:Nat):seqIndex? (-1) (n+1)=some n:=by
 unfold seqIndex?
 simp only[show (-1:Int) < 0 by decide,if_true]
 rw[OB (by simp only[VA,PC];lia)]
 congr 1;lia
theorem sI{x:Str}(h:x≠⟨#[]⟩):∃cc,(seqIndex? (-1) x.length).bind (x.cps[·]?)=some cc∧x.cps.toList.getLast?= some cc:=by
 have h1:x.cps.size≠0:=fun e=>h (eT (by simpa [Str.length] using e))
 obtain ⟨n,hn⟩:∃n,x.cps.size=n+1:=⟨x.cps.size - 1,by lia⟩
 have hx:x.length=n+1:=hn
 refine ⟨x.cps[n],?_,?_⟩
 ·rw[hx,sH]
  exact YE (by lia)
 ·rw[List.getLast?_eq_getElem?,TC,QA,show x.cps.size - 1=n by lia]
  exact YE (by lia)
theorem gQ(c d:Nat):((⟨#[c]⟩:Str) == ⟨#[d]⟩)=(c == d):=by
 rw[Bool.eq_iff_iff,UD,UD]
 constructor
 ·intro e;injection e with e;simpa using e
 ·rintro rfl;rfl
theorem jD{n:Nat}:∀(l:AA Nat),AV.underL n (l.map fun (k:Nat)=>AV.int (k:Int))=true
 | []=>rfl
 | x :: l=>by rw[AD];unfold AV.underL;rw[jD l];rfl
theorem idx1{n:Nat}(h:1≤n):ED none (some 1) 1 n=[0]:=by
 have e:ED none (some 1) 1 n=ED (some ((0:Nat):Int)) (some ((1:Nat):Int)) 1 n:=by
  have e1:max (0:Int) (min (((0:Nat):Int)) (n:Int))=0:=by lia
  have h1:¬ (((0:Nat):Int) < 0):=by lia
  simp only[ED,h1,CG,e1,show ((1:Int) > 0)=True from by simp,if_true]
  rfl
 rw[e,StrLaws.strSliceIndices_plain (by lia) h];rfl
theorem slice1(x:Str)(d:Nat):(OC x none (some 1) == ⟨#[d]⟩)=(x.cps.toList.head? == some d):=by
 by_cases hx:x.cps.size=0
 ·have:x=⟨#[]⟩:=eT (by simp[Str.length,hx])
  subst this
  rw[show OC (⟨#[]⟩:Str) none (some 1)=⟨#[]⟩ from by decide]
  rfl
 ·have hn:1≤x.length:=by show 1≤x.cps.size;lia
  have h0:x.cps[0]?= some x.cps[0]:=YE (by lia)
  have hs:OC x none (some 1)=⟨#[x.cps[0]]⟩:=by
   unfold OC
   rw[idx1 hn]
   split
   ·rename_i hc
    have:1=x.length:=by simpa using hc
    have h1:x.cps.size=1:=this.symm
    apply Str.ext'
    apply Array.ext
    ·simp[h1]
    ·intro i hi1 hi2
     have:i=0:=by lia
     subst this;rfl
   ·simp[h0]
  rw[hs,gQ]
  rw[show x.cps.toList.head?= some x.cps[0] from by rw[List.head?_eq_getElem?,TC];exact h0]
  rfl
noncomputable def makesSeq(K:Frag)(C:EA):NB:=match K.lookup C with
 | some ⟨_,_,.cls cd,sl⟩=>!cd.abstract && !cd.hasDel && (sl.toList[4]?).join == some (.builtin "list.__new__") && !cd.mro.isEmpty && cd.mro.contains (.ref C) && cd.mro.contains (.type "list") &&
   specialIn K (.ref C) "__call__" == some (some (.builtin "type.__call__")) && instIn K (.ref C) (.type "type") == some true
 | _=>false
structure MakesL(M:WH)(h:PB)(C:EA):Prop where
 obj:∃oc od cd sl,h.get? C=some ⟨oc,od,.cls cd,sl⟩∧cd.abstract=false∧cd.hasDel=false∧cd.mro.isEmpty=false
 made:EC M h (RG (.ref C)) (some "list.__new__")
 base:EC M h (KH (.ref C)) (.ref C)
 self:EC M h (VF (.ref C) (.ref C)) true
 top:EC M h (VF (.ref C) (.type "list")) true
 call:EC M h (specialOf (.ref C) "__call__") (some (.builtin "type.__call__"))
 typ:EC M h (isInstance (.ref C) (.type "type")) true
theorem zN{K:Frag}{M:WH}{h:PB}(X:K.In h){C:EA}(e:makesSeq K C=true):MakesL M h C:=by
 unfold makesSeq at e
 split at e
 ·rename_i oc od cd sl ho
  simp only[VA,WE,UD] at e
  refine o02 e fun x0 e8=>?_;clear e;refine o02 x0 fun x2 e7=>?_;clear x0;refine o02 x2 fun x3 e6=>?_;clear x2;refine o02 x3 fun x4 e5=>?_;clear x3;refine o02 x4 fun x5 e4=>?_;clear x4;refine o02 x5 fun x6 e3=>?_;clear x5;refine o02 x6 fun e1 e2=>?_;clear x6
  have hc:clsIn K C=some cd:=by unfold clsIn;rw[ho]
  have hm:EC M h (mroOf (.ref C)) cd.mro:=(EF X hc).andThen .now
  obtain ⟨c,l,hl⟩:∃c l,cd.mro=c :: l:=by cases q:cd.mro with|nil=>rw[q] at e4;cases e4|cons c l=>exact ⟨c,l,rfl⟩
  have made:EC M h (RG (.ref C)) (some "list.__new__"):=by
   intro A Q E s k q
   unfold RG
   refine wb (hm A _ E s k ?_)
   rw[hl,XB]
   refine wb (wb (wb (wb (OF (k _ _ (X _ _ ho)) (wp ?_)))))
   dsimp only
   rw[← TC,e3]
   exact wp (wp (wp q))
  refine ⟨⟨oc,od,cd,sl,X _ _ ho,e1,e2,e4⟩,made,?_,BH X ?_,BH X ?_,looks_specialIn X e7,looks_instIn X e8⟩
  ·intro A Q E s k q
   unfold KH
   refine wb (hm A _ E s k ?_)
   rw[hl,XB]
   exact wb (wb (wb (made A _ E s k (wp (wp (wp q))))))
  ·unfold mroIn;rw[hc,Option.bind_some,AB (by rw[e4];decide),e5]
  ·unfold mroIn;rw[hc,Option.bind_some,AB (by rw[e4];decide),e6]
 ·cases e
noncomputable abbrev seqObj(C dx:EA):Obj:={ cls:=.ref C,dict:=some dx,data:=.seq #[] }
theorem aBp:splitId "list.__new__" = some ("list","__new__"):=by decide +kernel
theorem aCV:KD "list.__new__" = some .builtinFn:=by decide +kernel
theorem aCW(C:EA)(rest:AA BA)(kw:AA (Str×BA)):argsOk "list.__new__" ⟨.ref C :: rest,kw⟩:=by unfold argsOk;rw[PySem.W.S.signatureZ_eq];kernel_rfl
section
variable {prog:RC}{w:HD}{A:XA}{C:EA}{R:Result→CA→Prop}{h:PB}{g:RA UE}{d:Drawn}{t:Nat}{os:QG}
theorem kI{M:WH}{h:PB}{C:EA}{oc:BA}{od:YA EA}{cd:ClassData}{sl:RA (YA BA)}(hC:h.get? C=some ⟨oc,od,.cls cd,sl⟩):EC M h (isType (.ref C)) true:=(Looks.ld (part:=none) hC).andThen .now
theorem pQ{M:WH}{A:XA}{E:BA→CA→Prop}{s:CA}{i owner:String}{C:EA}{base:BA}{rest:AA BA}{kw:AA (Str×BA)}{Q:Unit→CA→Prop}
  (hk:KD i=some .builtinFn) (hs:splitId i=some (owner,"__new__")) (hi:EC M s.heap (isType (.ref C)) true) (ht:EC M s.heap (VF (.ref C) (.type owner)) true)
  (hb:EC M s.heap (KH (.ref C)) base) (hm:EC M s.heap (RG base) (some i)) (ha:argsOk i ⟨.ref C :: rest,kw⟩) (q:Q () s):FA M A (checkBuiltinCall i ⟨.ref C :: rest,kw⟩) Q E s:=by
 unfold checkBuiltinCall
 rw[hk,hs]
 refine aEh (by decide) (wb (hi.here (dZ (by decide) (wb (ht.here (dZ (by decide) (wb (hb.here (wb (hm.here (dZ (by rw[bne_self_eq_false];decide) ?_)))))))))))
 unfold argsOk at ha
 dsimp only
 generalize UH i=o at ha ⊢
 cases o with
 | none=>exact wp q
 | some sig=>exact (RB (FA M A · Q E s) ha).mpr (wp q)
theorem aEs{rest:AA BA}{kw:AA (Str×BA)}(Y:MakesL (model prog w) h C)
  (hq:R (.ok (.ret (.ref (h.objs.size+1)))) ⟨(h.push YC).push (seqObj C h.objs.size),g,d,t,os⟩):
  codeAny (model prog w) A (.call (.builtin "list.__new__") ⟨.ref C :: rest,kw⟩) R ⟨h,g,d,t,os⟩:=by
 refine codeAny_of_tree ?_
 show FA _ A.in1 (do checkBuiltinCall "list.__new__" ⟨.ref C :: rest,kw⟩;again (.builtin "list.__new__" ⟨.ref C :: rest,kw⟩)) _ _ _
 obtain ⟨⟨oc,od,cd,sl,hC,e1,e2,e4⟩,made,base,self,top,call,typ⟩:=Y
 refine wb (pQ aCV aBp (kI hC) top base made (aCW _ _ _) (wp ⟨plainId_quiet PySem.F.plain_list_new _,codeAny_builtin_stack PySem.F.entry_list_new rfl fun p st=>?_⟩))
 rw[GF PySem.F.plain_list_new _]
 have hown:=owner_list_new
 simp only[hown]
 have fin:∀A',FA (model prog w) A' (do
   let .ref d ← newDict|unsupported "internal:list.__new__"
   ret (← newObj (.ref C) (.seq #[]) (some d))) (fun fin s'=>match fin with | .done f=>R (.ok f) s' | .again c'=>c'.quiet=true∧codeAny (model prog w) A c' R s') (fun e s'=>R (.error e) s') ⟨h,g,d,t,os⟩:=by
  intro A'
  unfold newDict
  refine wb (wb (wpAny_alloc (wp (wb ?_))))
  show FA _ _ (newObjAsIs _ _ _) _ _ _
  unfold newObjAsIs classHasDel
  refine wb (wpAny_alloc (wb (wb (PH (gps _ (gps _ hC)) (wp ?_)))))
  rw[e2]
  refine wp (wp ?_)
  show R _ _
  rw[VE]
  exact hq
 repeat (first|refine dZ (by simp only[YB,UF,Bool.not_true]) ?_|exact fin _|lk)
theorem wU{rest:AA BA}{kw:AA (Str×BA)}{a0:BA}(Y:MakesL (model prog w) h C)(hi:EC (model prog w) h (typeLookup (.ref C) "__init__") (some a0))
  (hb:∀self,EC (model prog w) h (bindSpecial a0 self) (a0,[self]))
  (hq:codeAny (model prog w) (A.under (.builtin "type.__call__" ⟨.ref C :: rest,kw⟩)) (.call a0 ⟨.ref (h.objs.size+1) :: rest,kw⟩) (InitBack (h.objs.size+1) R) ⟨(h.push YC).push (seqObj C h.objs.size),g,d,t,os⟩):
  codeAny (model prog w) A (.call (.ref C) ⟨rest,kw⟩) R ⟨h,g,d,t,os⟩:=by
 have Y':=Y
 obtain ⟨⟨oc,od,cd,sl,hC,e1,e2,e4⟩,made,base,self,top,call,typ⟩:=Y
 refine codeAny_of_tree ?_
 show FA _ _ (callAny (.ref C) _) _ _ _
 refine nd_load hC ?_
 show FA _ _ (callAny.viaDunder (.ref C) _) _ _ _
 unfold callAny.viaDunder
 refine wb (call.at ?_)
 dsimp only
 rw[tc_bind]
 refine wb (wp (wb (wp ?_)))
 refine wp (a:=Fin.again (.call (.builtin "type.__call__") ⟨.ref C :: rest,kw⟩)) (And.intro rfl ?_)
 refine codeAny_call_builtin_at (Code.quiet_builtin _ (by decide +kernel)) entry_typeCall (check_slot tc_kind tc_split typ (tc_args _ _ _) ?_)
 unfold Builtin.«type.__call__»
 have hm:EC (model prog w) h (mroOf (.ref C)) cd.mro:=((Looks.ld (part:=none) hC).andThen .now).andThen .now
 repeat (first|refine dZ (by simp only[e4,YB,UF]) ?_|with_reducible refine CE ?_|lk)
 refine aEs Y' ?_
 have k:∀b o,h.get? b=some o→((h.push YC).push (seqObj C h.objs.size)).get? b=some o:=fun b o e=>gps _ (gps _ e)
 have hx:((h.push YC).push (seqObj C h.objs.size)).get? (h.objs.size+1)=some (seqObj C h.objs.size):=by heap_get
 have t1:EC (model prog w) ((h.push YC).push (seqObj C h.objs.size)) (typeOf (.ref (h.objs.size+1))) (.ref C):=(Looks.ld hx).andThen .now
 have s1:=self.keeps k
 have i1:=hi.keeps k
 have b1:=(hb (.ref (h.objs.size+1))).keeps k
 unfold isInstance callSpecial? specialOf
 repeat (first|with_reducible refine CE ?_|lk)
 refine codeAny_mono hq fun r s' z=>?_
 rcases r with e|(v|_|_|_) <;> first|exact z|exact z.elim|skip
 obtain ⟨rfl,z⟩:=z
 exact wp (wp z)
end
section
variable {b:Bs}{h:Nat}{mem m1:AA AO}{v:AV}
theorem wV(B:aC b){C fI:EA}{args kvs:AA AV}{kns:AA Str}(hm:makesSeq b.K C=true)(hi:CD b.K (.ref C) "__init__" = some (some (.ref fI)))(hf:typeIn b.K (.ref fI)=some (.type "function"))
  (z:bS b h (.ref fI) (.obj mem.length :: args) kns kvs (mem++[.inst C (some []) []]) .none m1):bS b (h+1) (.ref C) args kns kvs mem (.obj mem.length) m1:=fun A s ρ mvs mks Q E hA r hv hkv q=>by
 obtain ⟨hp,g,d,t,os⟩:=s
 have X:=r.kin B
 refine wU (zN X hm) (MD X hi) (fun self=>bind_fn X self hf) ?_
 have kp:∀c o,hp.get? c=some o→((hp.push YC).push (seqObj C hp.objs.size)).get? c=some o:=fun c o e=>gps _ (gps _ e)
 have g1:((hp.push YC).push (seqObj C hp.objs.size)).get? hp.objs.size=some YC:=gps _ (gpz _ rfl)
 have g2:((hp.push YC).push (seqObj C hp.objs.size)).get? (hp.objs.size+1)=some (seqObj C hp.objs.size):=by
  have:((hp.push YC).push (seqObj C hp.objs.size)).get? (hp.push YC).objs.size=some (seqObj C hp.objs.size):=gpz _ rfl
  rwa [VE] at this
 refine o03 (r.allocN (tk:=t) (h':=(hp.push YC).push (seqObj C hp.objs.size)) kp (p:=[hp.objs.size+1,hp.objs.size]) (ao:=.inst C (some []) []) (fun a ha=>by
  show hp.objs.size≤a
  simp only[NA,GB,QD] at ha;rcases ha with rfl|rfl <;> lia) (by simp) (fun mv mvs ea=>.seq g2 .nil ⟨fun x9=>none,Heap.Ns1.of_empty ⟨YC,#[],0,g1,rfl,fun e he=>absurd he (by simp),fun x9=>rfl⟩,fun x=>rfl⟩)) fun r1 x1 row=>?_
 refine codeAny_mono (z (A.under (.builtin "type.__call__" ⟨.ref C :: mvs,kns.zip mks⟩)) _ _ (.ref (hp.objs.size+1) :: mvs) mks (fun v s'=>v=.none∧Q (.ref (hp.objs.size+1)) s') E (hA.under _ (eW _ _ _).1 (eW _ _ _).2) r1 (.cons (.obj row) (x1.vrs0 hv)) (x1.vrs0 hkv) fun ρ' s' mv r' x' h'=>?_) fun rr s' w=>?_
 ·cases h'
  exact ⟨rfl,q ρ' s' _ r' (x1.trans x') (.obj (x'.pre _ _ row))⟩
 ·rcases rr with e|(v|_|_|_) <;> exact w
variable {prog:RC}{w:HD}{A:XA}{E:BA→CA→Prop}{s:CA}{I:EA}{fp wr:AA EA}{G:RA UE→RA UE→Prop}{n:Nat}{P:Nat→BA→Prop}{St:Nat→CA→Prop}
theorem wW(W:WalksS prog w A I fp wr G n P St):WalksS prog w A I fp wr G (n+1) (fun j v=>match j with|0=>False|j+1=>P j v) (fun j s=>match j with|0=>False|j+1=>St j s) where
 sub:=W.sub
 grefl:=W.grefl
 gtrans:=W.gtrans
 frame:=fun i s h' tk st ht hk=>by cases i with|zero=>exact st|succ j=>exact W.frame j s h' tk st ht hk
 item:=fun i s Q E hi st hQ=>by cases i with|zero=>exact st.elim|succ j=>exact W.item j s Q E (by lia) st fun v s' hP hs hm=>hQ v s' hP hs hm
 done:=fun s Q E st hQ=>W.done s Q E st hQ
 self:=fun i s Q E st hQ=>by cases i with|zero=>exact st.elim|succ j=>exact W.self j s Q E st hQ
noncomputable def valAhead(a:Int)(val:Nat→Int):Nat→Int:=fun j=>match j with|0=>a|j+1=>val j
theorem eB(a:Int)(val:Nat→Int):∀n,preSum (valAhead a val) (n+1)=a+preSum val n
 | 0=>by simp[preSum,valAhead]
 | n+1=>by
  rw[preSum,eB a val n]
  show _+val n=_
  rw[preSum];lia
theorem zO(a c:BA):argsOk "sum" ⟨[a,c],[]⟩:=by unfold argsOk;rw[PySem.W.S.signatureZ_eq];kernel_rfl
theorem zP{a:Int}{t:Tok}{Q:BA→CA→Prop}(W:WalksS prog w A.in1 I fp wr G n P St)(val:Nat→Int)(a0:∀i v,P i v→∃t,v=.int (val i) t)(ha:InLong a)(a1:∀j,j < n→InLong (val j)∧InLong (a+preSum val (j+1)))
  (hst:St 0 s) (hfp:∀b∈fp,b < s.heap.objs.size)
  (hQ:∀s' t',Moved (s.heap.objs.size :: wr) G { s with heap:=s.heap.push { cls:=.type "list",data:=.seq #[.int a s.toks] },toks:=s.toks+1 } s'→Q (.int (a+preSum val n) t') s'):
  FA (model prog w) A (call (.builtin "sum") [.ref I,.int a t]) Q E s:=by
 refine call_function_tree PySem.F.kind_sum PySem.F.plain_sum PySem.F.entry_sum (zO _ _) ?_
 unfold Builtin.«sum»
 simp only[UA,List.length_nil]
 rw[AB (by decide)]
 refine wb (IC (show Builtin.Builtins.bindParams "sum" ["start"] 0 { pos:=[.int a t] }=pure [some (.int a t)] from rfl) ?_)
 refine wb (W.self 0 s _ _ hst ?_)
 have hfl:(decide (-(2 ^ 63)≤a) && decide (a < 2 ^ 63))=true:=by
  refine o02 ha fun h1 h2=>?_;clear ha
  simp only[VA,PC];exact ⟨h1,h2⟩
 dsimp only
 split
 rotate_left
 ·rename_i hneg
  exact absurd hfl hneg
 refine wb (ZE (wb (wpAny_mkInt (wb (wp ?_)))))
 simp only[XB,List.forIn_nil]
 refine wb (wb (wb (JG (T:="int") (b:=false) (typeIs_int _ _ _) PySem.sub_int_str ?_)))
 simp only[YB,CG]
 refine wp (wb (wb (JG (T:="int") (b:=false) (typeIs_int _ _ _) sub_int_bytes ?_)))
 simp only[YB,CG]
 refine wp (wb (wb (JG (T:="int") (b:=false) (typeIs_int _ _ _) sub_int_bytearray ?_)))
 simp only[YB,CG]
 refine wp (wp ?_)
 refine wb (RF ?_)
 have hSf:s.heap.objs.size∉fp:=fun hm=>JB _ (hfp _ hm)
 refine wp ⟨plainId_quiet PySem.F.plain_sum_loop _,codeAny_sum_loopS (wW W) (valAhead a val) (fun i v h=>by cases i with|zero=>exact h.elim|succ j=>exact a0 j v h) (fun j hj=>?_) s.heap.objs.size hSf n 1 _ s.toks 0 (by lia) (by lia)
  (W.frame 0 s _ _ hst (Nat.le_succ _) fun b x9 o e=>gps _ e) (by
   rw[eB a val 0]
   simp only[preSum,Int.add_zero]
   exact gpz _ rfl) fun s' t' hm=>?_⟩
 ·cases j with
  | zero=>exact ⟨ha,by rw[eB a val 0];simpa [preSum] using ha⟩
  | succ j=>rw[eB a val (j+1)];exact a1 j (by lia)
 ·rw[eB a val n]
  exact hQ s' t' hm
end
noncomputable abbrev SqO(C d:EA)(its:RA BA)(n:Nat):Obj:={ cls:=.ref C,dict:=some d,data:=.seq its n,slots:=#[] }
noncomputable def seqCls(K:Frag)(C:EA):NB:=mroIn K C (.type "list") == some true && noSeq K C
noncomputable def fromList(K:Frag)(C:EA)(name:Str)(id:String):NB:=CD K (.ref C) name == some (some (.builtin id))
section
variable {M:WH}{A:XA}{E:BA→CA→Prop}{s:CA}{K:Frag}{a C d:EA}{its:RA BA}{n:Nat}
theorem wX{id owner m:String}{self:BA}{rest:AA BA}{kw:AA (Str×BA)}{Q:Unit→CA→Prop}(hk:KD id=some .slot∨KD id=some .method)(hs:splitId id=some (owner,m))
  (hi:EC M s.heap (isInstance self (.type owner)) true) (ha:argsOk id ⟨self :: rest,kw⟩) (q:Q () s):FA M A (checkBuiltinCall id ⟨self :: rest,kw⟩) Q E s:=by
 rcases hk with hk|hk
 ·exact check_slot hk hs hi ha q
 ·simp only[checkBuiltinCall,hk,hs]
  refine wb (hi.here ?_)
  simp only[Bool.not_true,YB,CG]
  cases hsig:UH id with
  | none=>exact wp q
  | some sig=>
   simp only[argsOk,hsig] at ha
   have h2:Bind.checkArgs id sig ⟨self :: rest,kw⟩=pure ():=ha
   show FA M A (Bind.checkArgs id sig ⟨self :: rest,kw⟩) Q E s
   rw[h2];exact wp q
theorem kJ(M:WH)(e:s.heap.get? a=some (SqO C d its n)):EC M s.heap (typeOf (.ref a)) (.ref C):=(Looks.ld e).andThen .now
theorem zQ(X:K.In s.heap)(e:s.heap.get? a=some (SqO C d its n))(hc:seqCls K C=true):EC M s.heap (isInstance (.ref a) (.type "list")) true:=by
 unfold seqCls at hc
 simp only[VA,UD] at hc
 exact ((Looks.ld e).andThen .now).andThen (BH X hc.1)
theorem fF(X:K.In s.heap)(e:s.heap.get? a=some (SqO C d its n)){name:Str}{id:String}(hf:fromList K C name id=true):EC M s.heap (specialOf (.ref a) name) (some (.builtin id)):=by
 unfold fromList at hf
 exact ((Looks.ld e).andThen .now).andThen (MD X (UD.mp hf))
theorem eR{name:Str}{id:String}{args:AA BA}{Q:YA BA→CA→Prop}(X:K.In s.heap)(e:s.heap.get? a=some (SqO C d its n))(hf:fromList K C name id=true)(hb:∀self,bindSpecial (.builtin id) self=pure (.builtin id,[self]))
  (h:FA M A (call (.builtin id) (.ref a :: args)) (fun v=>Q (some v)) E s):FA M A (callSpecial? (.ref a) name args) Q E s:=by
 unfold callSpecial?
 refine wb ((fF X e hf).here ?_)
 dsimp only
 rw[hb]
 exact TA (wb (wp (wb (CB h (fun v s' h'=>wp h') fun x9 x9 h'=>h'))))
theorem iH{k:BA}{name:Str}{Q:BA→CA→Prop}(X:K.In s.heap)(e:s.heap.get? a=some (SqO C d its n))(hc:seqCls K C=true)(q:Q k s):FA M A (sequenceKey (.ref a) k name) Q E s:=by
 unfold seqCls at hc
 simp only[VA,UD] at hc
 unfold sequenceKey
 refine wb ((kJ M e).here ?_)
 refine wb ((anyM_none X hc.2).here ?_)
 rw[OB (show (!false)=true from rfl)]
 exact wp q
variable {prog:RC}{w:HD}
theorem gC{id m:String}{bi:Builtin}{rest:AA BA}{Q:BA→CA→Prop}(hk:KD id=some .slot∨KD id=some .method)(hs:splitId id=some ("list",m))(pl:plainId id=true)(hb:EG table id=some bi)
  (X:K.In s.heap) (e:s.heap.get? a=some (SqO C d its n)) (hc:seqCls K C=true) (ha:argsOk id ⟨.ref a :: rest,[]⟩)
  (h:FA (model prog w) A.in1 (bi ⟨.ref a :: rest,[]⟩) (fun fin s'=>∃v,fin=.done (.ret v)∧Q v s') E s):FA (model prog w) A (call (.builtin id) (.ref a :: rest)) Q E s:=by
 refine CE (codeAny_call_builtin pl hb (wX hk hs (zQ X e hc) ha (CB h (fun fin s' h'=>?_) fun x9 x9 h'=>h')))
 refine o12 h' fun v x0 hv=>?_;clear h';subst x0;exact hv
theorem aCX:KD "list.__iter__" = some .slot∨KD "list.__iter__" = some .method:=by first|exact .inl (by decide +kernel)|exact .inr (by decide +kernel)
theorem aBq:splitId "list.__iter__" = some ("list","__iter__"):=by decide +kernel
theorem vP:KD "list.__getitem__" = some .slot∨KD "list.__getitem__" = some .method:=by first|exact .inl (by decide +kernel)|exact .inr (by decide +kernel)
theorem sJ:splitId "list.__getitem__" = some ("list","__getitem__"):=by decide +kernel
theorem aCY:KD "list.__setitem__" = some .slot∨KD "list.__setitem__" = some .method:=by first|exact .inl (by decide +kernel)|exact .inr (by decide +kernel)
theorem aBr:splitId "list.__setitem__" = some ("list","__setitem__"):=by decide +kernel
theorem aCZ:KD "list.append" = some .slot∨KD "list.append" = some .method:=by first|exact .inl (by decide +kernel)|exact .inr (by decide +kernel)
theorem aBs:splitId "list.append" = some ("list","append"):=by decide +kernel
theorem uL{Q:BA→CA→Prop}(X:K.In s.heap)(e:s.heap.get? a=some (SqO C d its n))(hc:seqCls K C=true)(hf:fromList K C "__iter__" "list.__iter__" = true)
  (hQ:Q (.ref s.heap.objs.size) { s with heap:=s.heap.push { cls:=.type "list_iterator",data:=.fields #[.ref a,.int 0 0] } }):FA (model prog w) A (pyIter (.ref a)) Q E s:=by
 have sp:=fF (M:=model prog w) X e hf
 unfold pyIter
 refine wb (sp.here ?_)
 dsimp only
 unfold callSpecialIfBoundUnlessNone? bindSpecialIfBound?
 refine wb (TA (wb (wb (sp.here ?_))))
 dsimp only
 refine wb (wpAny_askSetting ?_)
 have fin:FA (model prog w) A (call (.builtin "list.__iter__") [.ref a]) (fun it s'=>it=.ref s.heap.objs.size∧s'={ s with heap:=s.heap.push { cls:=.type "list_iterator",data:=.fields #[.ref a,.int 0 0] } }) E s:=by
  refine gC aCX aBq slot_list_iter.plain entry_list_iter X e hc (args_list_iter _) ?_
  show FA _ _ (do ret (← newFields "list_iterator" [.ref a,rawInt 0])) _ _ s
  exact wb (RF (wp ⟨_,rfl,rfl,rfl⟩))
 have go:∀{Q':YA BA→CA→Prop},(Q' (some (.ref s.heap.objs.size)) { s with heap:=s.heap.push { cls:=.type "list_iterator",data:=.fields #[.ref a,.int 0 0] } })→
   FA (model prog w) A (call (.builtin "list.__iter__") [.ref a]>>=fun v=>pure (some v)) Q' E s:=fun hq=>wb (CB fin (fun v s' hv=>by refine o02 hv fun x0 x1=>?_;clear hv;subst x0;subst x1;exact wp hq) fun x9 x9 z=>z)
 have last:FA (model prog w) A (specialOf (.ref s.heap.objs.size) "__next__" >>=fun r=>match r with
   | none=>(do rule "iter.non-iterator";raiseError "TypeError" s!"iter() returned non-iterator of type '{← typeNameOf (.ref s.heap.objs.size)}'")
   | some _=>pure (Value.ref s.heap.objs.size)) Q E { s with heap:=s.heap.push { cls:=.type "list_iterator",data:=.fields #[.ref a,.int 0 0] } }:=
  wb (CF (T:="list_iterator") ⟨_,gpz _ rfl,rfl⟩ LF.lookup (wp hQ))
 rw[slot_list_iter.bind]
 split
 ·refine wb (wp (wp ?_))
  dsimp only
  rw[AB (by decide)]
  exact go last
 ·refine wpAny_tryCatch (wb (wp (wp ?_)))
  dsimp only
  rw[AB (by decide)]
  exact go last
end
noncomputable def SeqAt'(hp:PB)(a:EA)(its:RA BA):Prop:=∃o n,hp.get? a=some o∧o.data=.seq its n
theorem SeqAt'.cell{hp hp':PB}{a:EA}{its:RA BA}(x:SeqAt' hp a its)(q:∀o,hp.get? a=some o→hp'.get? a=some o):SeqAt' hp' a its:=let ⟨o,n,ho,r⟩:=x;⟨o,n,q _ ho,r⟩
section
variable {prog:RC}{w:HD}{A:XA}{E:BA→CA→Prop}{s:CA}
theorem aBt{it l:EA}{i:Nat}{items:RA BA}{x:BA}{Q:YA BA→CA→Prop}(hit:s.heap.IsListIter it l i)(hl:SeqAt' s.heap l items)(hx:items[i]?= some x)
  (hQ:∀h',h'.IsListIter it l (i+1)→ZD it s.heap h'→Q (some x) { s with heap:=h' }):FA (model prog w) A (pyNext (.ref it)) Q E s:=by
 refine o13 (id hit) fun o ho hc hd=>?_
 refine o22 hl fun ol nl hol hdl=>?_;clear hl
 unfold pyNext
 refine wb (NE (PD (name:=LD "__next__") hit.typeIs LF (OD LF hit.typeIs entry_listiter_next ?_ (args_listiter_next _))))
 show FA _ _ (field (.ref it) 0>>=_) _ _ s
 refine wb (AC ho hd (x:=.ref l) rfl ?_)
 show FA _ _ (if (Value.ref l == Value.none)=true then _ else _) _ _ s
 rw[AB (show ¬ ((Value.ref l == Value.none)=true) from KE)]
 show FA _ _ (field (.ref it) 1>>=_) _ _ s
 refine wb (AC ho hd (x:=.int i 0) rfl ?_)
 show FA _ _ (seqItems? (.ref l)>>=_) _ _ s
 refine wb (VC hol hdl ?_)
 simp only[VG,hx]
 refine wb (wpAny_setField ho hd (by simp) (wp ⟨x,rfl,wp (hQ _ ?_ (QB ..))⟩))
 exact ⟨_,XD _ ho (Obj.isFreed_of_fields (Obj.data_mapFields hd _)),(Obj.cls_mapFields ..).trans hc,by rw[Obj.data_mapFields hd];simp[rawInt]⟩
theorem sK{it l:EA}{i:Nat}{items:RA BA}{Q:YA BA→CA→Prop}(hh:A.handled=none)(hit:s.heap.IsListIter it l i)(hl:SeqAt' s.heap l items)(hx:items[i]?= none)
  (hQ:∀h',Heap.ExtBut it s.heap h'→Q none { s with heap:=h' }):FA (model prog w) A (pyNext (.ref it)) Q E s:=by
 refine o13 (id hit) fun o ho hc hd=>?_
 refine o22 hl fun ol nl hol hdl=>?_;clear hl
 unfold pyNext
 refine wb (NE (PD (name:=LD "__next__") hit.typeIs LF (OD LF hit.typeIs entry_listiter_next ?_ (args_listiter_next _))))
 show FA _ _ (field (.ref it) 0>>=_) _ _ s
 refine wb (AC ho hd (x:=.ref l) rfl ?_)
 show FA _ _ (if (Value.ref l == Value.none)=true then _ else _) _ _ s
 rw[AB (show ¬ ((Value.ref l == Value.none)=true) from KE)]
 show FA _ _ (field (.ref it) 1>>=_) _ _ s
 refine wb (AC ho hd (x:=.int i 0) rfl ?_)
 show FA _ _ (seqItems? (.ref l)>>=_) _ _ s
 refine wb (VC hol hdl ?_)
 simp only[VG,hx]
 refine wb (ZE (wb (wpAny_setField ho hd (by simp) (fE hh fun o1 o2 c2 f2=>?_))))
 refine wb (JG (T:="StopIteration") (b:=true) ⟨_,gpz _ f2,c2⟩ isSubtype_stop ?_)
 exact wp (hQ _ (((QB ..).extBut.push _).push _))
end
theorem wY{prog:RC}{w:HD}{A:XA}(hh:A.handled=none)(I ax:EA)(hne:ax≠I)(items:RA BA)(Ts:Nat→EA)(vals:Nat→RA BA)(hit:∀j,j < items.size→items[j]?= some (.ref (Ts j)))(hTI:∀j,j < items.size→Ts j≠I):
  WalksU prog w A I (I :: ax :: (List.range items.size).map Ts) [I] items.size (fun j v=>j < items.size∧v=vals j)
   (fun j h=>h.IsListIter I ax j∧SeqAt' h ax items∧∀k,k < items.size→h.IsTuple (Ts k) (vals k))
   (fun j T h=>(j < items.size∧T=Ts j)∧h.IsListIter I ax (j+1)∧SeqAt' h ax items∧∀k,k < items.size→h.IsTuple (Ts k) (vals k)) where
 sub:=fun b hb=>by simp at hb;simp[hb]
 frame:=fun x9 x9 x9 st hk=>⟨st.1.at fun o e=>hk I (by simp) o e,st.2.1.cell fun o e=>hk ax (by simp) o e,
  fun k hk'=>(st.2.2 k hk').at fun o e=>hk (Ts k) (VH _ (VH _ (List.mem_map.mpr ⟨k,List.mem_range.mpr hk',rfl⟩))) o e⟩
 item:=fun i s Q E hi st hQ=>by
  refine aBt st.1 st.2.1 (x:=.ref (Ts i)) (hit i hi) fun h' hit' hs'=>?_
  have tup:∀k,k < items.size→h'.IsTuple (Ts k) (vals k):=fun k hk'=>(st.2.2 k hk').extBut hs'.extBut (hTI k hk')
  exact hQ (Ts i) (vals i) h' s.toks ⟨hi,rfl⟩ (tup i hi) ⟨⟨hi,rfl⟩,hit',st.2.1.cell fun o e=>hs'.extBut ax o hne e,tup⟩ fun b o hb e=>hs'.extBut b o (fun h=>hb (by simp[h])) e
 go:=fun x9 x9 x9 x9 x9 s Q x9 hm hQ=>wpAny_letOwnedTupleGo_listiter hm.2.1 (hQ s.heap hm.2 fun x9 x9 x9 e=>e)
 apart:=fun j T x9 hm hmem=>by
  rcases NA.mp hmem with e|e
  ·exact hTI j hm.1.1 (hm.1.2▸e)
  ·cases e
 done:=fun s Q E st hQ=>sK hh st.1 st.2.1 (by simp) fun h' he'=>hQ h' s.toks fun b o hb e=>he' b o (fun h=>hb (by simp[h])) e
 self:=fun x9 x9 x9 x9 st hQ=>wpAny_pyIter_listiter st.1 hQ
section
variable {b:Bs}{mem m2:AA AO}
theorem vQ{α β:Type}{f:α→β}:∀{l:AA α},(l.map f).Nodup→∀{x y:α},x∈l→y∈l→f x=f y→x=y
 | [],_,_,_,hx,_,_=>nomatch hx
 | a :: l,nd,x,y,hx,hy,e=>by
  rw[AD,XE] at nd
  rcases NA.mp hx with h1|h1
  ·rcases NA.mp hy with h2|h2
   ·rw[h1,h2]
   ·exact absurd (by rw[← h1,e];exact EE (f:=f) h2) nd.1
  ·rcases NA.mp hy with h2|h2
   ·exact absurd (by rw[← h2,← e];exact EE (f:=f) h1) nd.1
   ·exact vQ nd.2 h1 h2 e
theorem R.isCode(B:aC b){ρ:Rho}{s:CA}(r:R b ρ mem s){t:EA×EA×RA BA}(ht:t∈b.tabs):∃more,s.heap.TableAt t.1 t.2.1 (t.2.2++more)∧s.heap.IsCode t.1 t.2.1 (t.2.2++more):=by
 refine o12 (r.tab t ht) fun more h1 h2=>?_
 refine o02 (B.tab t ht) fun x0 x9=>?_;refine o24 x0 fun o0 vs0 e0 c0 d0 z0=>?_;clear x0
 refine o41 (B.code t ht) fun o vs file tf x0=>?_;refine o41 x0 fun flags tg inF text x1=>?_;clear x0;refine o25 x1 fun tt op ho hd h11 h2' x2=>?_;clear x1;refine o07 x2 fun h7 h9 h10 hop hpd htr hne=>?_;clear x2
 rw[e0] at ho;replace ho:=si ho;subst ho
 exact ⟨more,h1,o0,vs,file,tf,flags,tg,inF,text,tt,_,r.old.toOldK.get_of_cls e0 (by rw[c0];exact fun z=>by cases z),hd,h11,h2',h7,h9,h10,h1.2,rfl,h2,hne⟩
theorem R.grow(B:aC b){ρ:Rho}{s:CA}(r:R b ρ mem s){t:EA×EA×RA BA}(ht:t∈b.tabs){h':PB}{g:RA UE}{d:Drawn}{tk:Nat}{more m2:RA BA}(kp:∀c o,s.heap.get? c=some o→c≠t.2.1→h'.get? c=some o)
  (h1:s.heap.TableAt t.1 t.2.1 (t.2.2++more)) (h2:h'.TableAt t.1 t.2.1 (t.2.2++more++m2)) (tr:TriplesOk (t.2.2++more++m2).toList) (hg:AllBare g):R b ρ mem ⟨h',g,d,tk,s.os⟩∧Ext NoS ρ s ρ ⟨h',g,d,tk,s.os⟩:=by
 obtain ⟨tc,tP,tps⟩:=t
 have base:=B.tab _ ht
 have lv:∀c o,s.heap.get? c=some o→∃o',h'.get? c=some o':=fun c o e=>by
  by_cases hc:c=tP
  ·exact ⟨_,hc▸h2.2⟩
  ·exact ⟨o,kp c o e hc⟩
 have hS:∀c,c=tP→Free s.heap ρ c:=fun c e=>by subst e;exact .fields h1.2 rfl
 have nP:∀a∈ρ.all,a≠tP:=fun a ha e=>by have:=r.new a ha;rw[e,base.2] at this;cases this
 have fr:∀a∈ρ.all,Free s.heap ρ a:=fun a ha=>.inl ha
 have mv:∀{u:AV}{mu:BA},VR s.heap ρ u mu→VR h' ρ u mu:=fun q=>q.move (ρ:=ρ) (ρ':=ρ) (·= tP) kp hS (fun x9 x9 e=>e) fr
 have mvs:∀{u:AA AV}{mu:AA BA},VRs s.heap ρ u mu→VRs h' ρ u mu:=fun q=>q.move (ρ:=ρ) (ρ':=ρ) (·= tP) kp hS (fun x9 x9 e=>e) fr
 have nst:tP≠cStatics:=fun e=>by
  refine o12 B.lim fun m x0 x9=>?_;refine o33 x0 fun o es ep e1 d1 x9=>?_;clear x0
  have:=base.2
  rw[e,e1] at this;replace this:=si this;subst this;cases d1
 refine ⟨⟨⟨r.old.toOldK.step_table base h1 h2 (fun c o hc e=>kp c o e hc) nst,fun o e=>kp _ o (r.old.sta o e) (Ne.symm nst)⟩,?_,hg,r.os,fun t' ht'=>?_,ORs.move mv mvs (fun a ha o e=>kp a o e (nP a (Rho.mem_rows ha))) r.ors,r.nd,r.new,fun a ha=>let ⟨o,e⟩:=r.hid a ha;lv a o e⟩,
  ⟨fun c o e x9 x9 kq=>kp c o e fun z=>(by subst z;rw[h1.2] at e;replace e:=si e;subst e;exact kq rfl _ rfl),fun x9 x9 e=>e,fun x9 z=>.inl z,rfl,lv⟩⟩
 ·refine o12 r.lim fun m x0 q=>?_;refine o32 x0 fun o es ep e1 z=>?_;clear x0
  exact ⟨m,⟨o,es,ep,kp _ _ e1 (Ne.symm nst),z⟩,q⟩
 ·by_cases e:t'=(tc,tP,tps)
  ·subst e
   exact ⟨more++m2,by rw[← Array.append_assoc];exact h2,by rw[← Array.append_assoc];exact tr⟩
  ·refine o12 (r.tab t' ht') fun m' x0 q=>?_;refine o02 x0 fun x1 e3=>?_;clear x0;refine o22 x1 fun o vs e1 e2=>?_;clear x1
   have n1:t'.2.1≠tP:=fun z=>e (vQ B.tabs ht' ht z)
   have n2:t'.1≠tP:=fun z=>by rw[z,h1.2] at e1;replace e1:=si e1;subst e1;cases e2.1
   exact ⟨m',⟨⟨o,vs,kp _ _ e1 n2,e2⟩,kp _ _ e3 n1⟩,q⟩
noncomputable def bfIn(_:Frag):NB:=true
theorem aFM(B:aC b){ρ:Rho}{s:CA}{A:XA}{Q:EA→CA→Prop}{E:BA→CA→Prop}(r:R b ρ mem s)(e:bfIn b.K=true)(q:Q DC s):FA b.M A (builtinsFor TB DC) Q E s:=by
 refine o31 (r.bmain B) fun mg bm ob x0=>?_;refine o07 x0 fun h0 h1 h2 h3 h4 h5 h6=>?_;clear x0
 exact wpAny_builtinsFor h0 h1 h2 h3 h4 h5 h6 q
end
noncomputable def prs(ps:AA (Str×Str)):AA AV:=ps.map fun p=>.tup [.str p.1,.str p.2]
theorem aEt{hp:PB}{ρ:Rho}:∀{ps:AA (Str×Str)}{l:AA BA},VRs hp ρ (prs ps) l→∀{j:Nat}{p:Str×Str},ps[j]?= some p→
  ∃T ta tb n,l[j]?= some (.ref T)∧hp.get? T=some ⟨.type "tuple",.none,.seq #[.str p.1 ta,.str p.2 tb] n,#[]⟩∧T∉ρ.all:=fun {ps l} q j p e=>by
 refine o12 (q.get j (.tup [.str p.1,.str p.2]) (by unfold prs;rw[FE,e];rfl)) fun mv a d=>?_
 cases d with|tup e2 ha hl=>
 rename_i T its n
 obtain ⟨xs⟩:=its
 cases hl with|cons h1 hl=>cases hl with|cons h2 hl=>
 cases hl
 cases h1 with|str ta=>
 cases h2 with|str tb=>
 exact ⟨T,ta,tb,n,a,e2,ha⟩
theorem lR(n:Nat):passing (fun x9=>true) n 0=List.range n:=by
 unfold passing;rw[List.drop_zero,List.filter_eq_self.mpr fun x9 x9=>rfl]
theorem zR{prog:RC}{w:HD}{A:XA}{I:EA}{fp wr:AA EA}{G:RA UE→RA UE→Prop}{n:Nat}{P P':Nat→BA→Prop}{St:Nat→CA→Prop}(W:WalksS prog w A I fp wr G n P St)(hP:∀j v,P j v→P' j v):
  WalksS prog w A I fp wr G n P' St where
 sub:=W.sub
 grefl:=W.grefl
 gtrans:=W.gtrans
 frame:=W.frame
 item:=fun i s Q E hi st hQ=>W.item i s Q E hi st fun v s' h=>hQ v s' (hP i v h)
 done:=W.done
 self:=W.self
structure GenAtV(prog:RC)(w:HD)(A:XA)(s0:CA)(g:EA)(n:Nat)(P:Nat→BA→Prop)(s:CA):Prop where
 walk:∃fp wr gi St,WalksS prog w A.in4 g fp wr (GenOnlyQ gi) n P St∧St 0 s∧(∀c∈fp,c < s.heap.objs.size)∧g∈fp∧(∀c∈wr,s0.heap.get? c=none)∧(∀i s,St i s→s.TypeIs (.ref g) "generator")
section
variable {b:Bs}{h:Nat}{F:EA→Env}{loc:AA (Str×AV)}{mem m2:AA AO}{v:AV}{pos px:Pos}{i:Nat}{C:EA}{at_:AA (Str×AV)}{ps:AA (Str×Str)}{elt:Expr}{xa xb x:Str}{pa pb pt:Pos}{kt:Nat}{scope:Scope}
structure Grown(b:Bs)(t:EA×EA×RA BA)(s s':CA):Prop where
 kp:∀c o,s.heap.get? c=some o→c≠t.2.1→s'.heap.get? c=some o
 tab:∃more m2,s.heap.TableAt t.1 t.2.1 (t.2.2++more)∧s'.heap.TableAt t.1 t.2.1 (t.2.2++more++m2)∧TriplesOk (t.2.2++more++m2).toList
 bare:AllBare s'.gens
 os:s'.os=s.os
theorem Grown.r(B:aC b){t:EA×EA×RA BA}(ht:t∈b.tabs){ρ:Rho}{s s':CA}(r:R b ρ mem s)(q:Grown b t s s'):R b ρ mem s'∧Ext NoS ρ s ρ s':=by
 obtain ⟨hp,g,d,tk,os⟩:=s'
 obtain ⟨kp,⟨more,m2,h1,h2,h3⟩,bare,rfl⟩:=q
 exact r.grow B ht kp h1 h2 h3 bare
theorem aBu(B:aC b){t:EA×EA×RA BA}(ht:t∈b.tabs){ρ:Rho}{s:CA}(r:R b ρ mem s){A:XA}{env:Env}{qn:Str}{Q:BA→CA→Prop}{E:BA→CA→Prop}(hc:env.code=.ref t.1)
  (q:∀cv h' tk,Grown b t s { s with heap:=h',toks:=tk }→Q cv { s with heap:=h',toks:=tk }):FA b.M A (genexprCode env pos qn scope) Q E s:=by
 refine o12 (r.isCode B ht) fun more h1 h2=>?_
 have htr:TriplesOk (t.2.2++more).toList:=by
  refine o41 h2 fun o vs file tf x0=>?_;clear h2;refine o41 x0 fun flags tg inF text x1=>?_;clear x0;refine o25 x1 fun tt op x9 x9 x9 x9 x2=>?_;clear x1;refine o07 x2 fun x9 x9 x9 x9 x9 htr x9=>?_;clear x2
  exact htr
 cases e:codeAmong pos (t.2.2++more).toList with
 | none=>
  refine wpAny_genexprCodeX hc h2 h1 e fun c' h' tk hx x9 x9 x9 x9 ht' x9=>q _ h' tk ⟨fun c o e1 hn=>hx c o hn e1,⟨more,_,h1,ht',?_⟩,r.bare,rfl⟩
  rw[QF]
  exact TriplesOk_snoc _ _ _ _ htr
 | some c'=>exact wpAny_genexprCode_hit hc h2 e (q c' s.heap s.toks ⟨fun c o e1 x9=>e1,⟨more,#[],h1,by simpa using h1,by simpa using htr⟩,r.bare,rfl⟩)
theorem pR(B:aC b)(f:aS F){t:EA×EA×RA BA}(ht:t∈b.tabs){L:EA}{ρ:Rho}{s:CA}{A:XA}{Q:BA→CA→Prop}{E:BA→CA→Prop}(hA:Ht h A)(r:R b ρ mem s)(fm:Fm b L (F L).cells ρ loc s)
  (hcode:(F L).code=.ref t.1) (hx:loc.lookup x=some (.obj i)) (hm:mem[i]?= some (.inst C (some (prs ps)) at_)) (hc:seqCls b.K C=true) (hf:fromList b.K C "__iter__" "list.__iter__" = true) (hbf:bfIn b.K=true) {Fp:Str×Str→BA→Prop}
  (hE:∀(A':XA) (u:CA) (C':EA) (code:BA) (m2:Str→YA BA) (p:Str×Str) (ta tb:Tok) (Q:BA→CA→Prop) (E:BA→CA→Prop),A'.handled=none→b.K.In u.heap→(∃mb,u.heap.Ns DC mb∧∀x:Str,x≠"__name__" →mb x=HG x)→
   u.heap.Ns C' m2→m2 xa=some (.str p.1 ta)→m2 xb=some (.str p.2 tb)→p∈ps→(∀y h' tk,(∀c o,u.heap.get? c=some o→h'.get? c=some o)→Fp p y→Q y { u with heap:=h',toks:=tk })→FA b.M A' (eval elt (genEnv scope [] C' code DC (F L))) Q E u)
  (q:∀g s5,Grown b t s s5→GenAtV b.prog b.w A s g ps.length (fun j y=>∃p,ps[j]?= some p∧Fp p y) s5→Q (.ref g) s5)
  (hcx:(F L).cells.lookup x=none) (hlx:(F L).kindOf x=some .local) (hdx:(x == ("__debug__" : Str))=false)
  (hco:scope.isCoroutine=false) (hclos:closureFor scope (F L)=pure []) (hcell:∀y∈scope.names,y.2≠.cell) (h0:scope.names.lookup (".0" : Str)=some NameKind.local)
  (hxa:scope.names.lookup xa=some .local) (hxb:scope.names.lookup xb=some .local) (hab:xa≠xb) (hkind:scope.kind=.function) (hs:∀v,genFold (.Name x px) (F L) v=pure v):
  FA b.M A (eval (.GeneratorExp elt [⟨.Tuple [.Name xa pa,.Name xb pb] kt pt,.Name x px,[],0⟩] scope pos) (F L)) Q E s:=by
 refine o12 fm.ns fun m hn hmm=>?_
 have z:=hmm x _ hx
 unfold bO at z
 rw[hcx] at z
 refine o12 z fun mv e1 e2=>?_;clear z
 refine o12 (r.ors.get _ _ hm) fun p e3 e4=>?_
 cases e2 with|obj e5=>
 rename_i a rr
 rw[e3] at e5
 replace e5:=si e5;subst e5
 cases e4 with|seq ea hl hd=>
 rename_i d its n
 have hsz:its.size=ps.length:=by
  have:=hl.length
  rw[QA] at this
  rw[this];unfold prs;rw[BB]
 have hroom:A.depth < recursionLimit:=hA.depth
 refine wpAny_GeneratorExp_walksQT hA.2.2 hco hclos hcell h0 hxa hxb hab hkind hroom (wpAny_Name (AH (f.kind L) hlx (by rw[f.locals L];exact hn) e1 ?_) hdx) hs
 refine uL (r.kin B) ea hc hf ⟨r.lim.push _,?_⟩
 let o1:Obj:={ cls:=.type "list_iterator",data:=.fields #[.ref a,.int 0 0] }
 have r2:R b ρ mem { s with heap:=s.heap.push o1 }:=r.push' o1
 refine aBu B ht r2 hcode fun cv h3 tk3 gr=>?_
 rw[f.globals L,f.builtins L]
 refine o02 (gr.r B ht r2) fun r3 x3=>?_
 refine aFM B r3 hbf ?_
 have base:=B.tab t ht
 have nP:∀{c:EA}{o:Obj},s.heap.get? c=some o→Kp o→c≠t.2.1:=fun {c o} e kq z=>by
  refine o22 gr.tab fun more m2 h1 x9=>?_
  subst z
  have h1':=h1.2
  rw[gps _ e] at h1'
  replace h1':=si h1';subst h1'
  exact kq rfl _ rfl
 have up:∀{c:EA}{o:Obj},s.heap.get? c=some o→Kp o→h3.get? c=some o:=fun {c o} e kq=>gr.kp c o (gps _ e) (nP e kq)
 have I1:h3.get? s.heap.objs.size=some o1:=gr.kp _ _ (gpz _ rfl) fun z=>by
  have:=base.2
  rw[← z] at this
  refine o11 (r.old.there _ _ this) fun o' e'=>?_
  exact JB _ (DB e')
 have hax:a≠s.heap.objs.size:=GC (DB ea)
 have at':∀j,j < its.size→∃T ta tb n p,ps[j]?= some p∧its[j]?= some (.ref T)∧s.heap.get? T=some ⟨.type "tuple",.none,.seq #[.str p.1 ta,.str p.2 tb] n,#[]⟩:=fun j hj=>by
  have hp:ps[j]?= some ps[j]:=EB (by lia)
  refine o41 (aEt hl hp) fun T ta tb n x0=>?_;refine o03 x0 fun h1 h2 x9=>?_;clear x0
  exact ⟨T,ta,tb,n,_,hp,by rwa [TC] at h1,h2⟩
 let Ts:Nat→EA:=fun j=>match its[j]? with|some (.ref T)=>T|_=>0
 let vals:Nat→RA BA:=fun j=>match s.heap.get? (Ts j) with|some o=>(match o.data with | .seq v _=>v|_=>#[])|none=>#[]
 have hTs:∀j,j < its.size→∃ta tb n p,ps[j]?= some p∧its[j]?= some (.ref (Ts j))∧s.heap.get? (Ts j)=some ⟨.type "tuple",.none,.seq #[.str p.1 ta,.str p.2 tb] n,#[]⟩∧vals j=#[.str p.1 ta,.str p.2 tb]:=fun j hj=>by
  refine o41 (at' j hj) fun T ta tb n x0=>?_;refine o13 x0 fun p h1 h2 h3=>?_;clear x0
  have hT:Ts j=T:=by show (match its[j]? with|some (.ref T)=>T|_=>0)=T;rw[h2]
  refine ⟨ta,tb,n,p,h1,by rw[hT];exact h2,by rw[hT];exact h3,?_⟩
  show (match s.heap.get? (Ts j) with|some o=>(match o.data with | .seq v _=>v|_=>#[])|none=>#[])=_
  rw[hT,h3]
 have hTI:∀j,j < its.size→Ts j≠s.heap.objs.size:=fun j hj=>by
  refine o41 (hTs j hj) fun ta tb n p x0=>?_;refine o04 x0 fun x9 x9 h3 x9=>?_;clear x0
  exact GC (DB h3)
 have W:=fun (A':XA) (hA':A'.handled=none)=>wY (prog:=b.prog) (w:=b.w) hA' s.heap.objs.size a hax its Ts vals (fun j hj=>by refine o41 (hTs j hj) fun x9 x9 x9 x9 x0=>?_;refine o03 x0 fun x9 h2 x9=>?_;clear x0;exact h2) hTI
 have kin:b.K.In h3:=r3.kin B
 refine o12 (r3.boot B) fun mb hmb hmb2=>?_
 have lt3:∀{c:EA}{o:Obj},s.heap.get? c=some o→c < h3.objs.size:=fun {c o} e=>by
  refine o11 (x3.live c o (gps _ e)) fun o' e'=>?_;exact DB e'
 refine ⟨s.heap.objs.size,_,_,its.size,_,_,_,(fun x9=>true),(fun j y=>∃p,ps[j]?= some p∧Fp p y),rfl,W,?_,⟨⟨o1,I1,rfl,rfl⟩,⟨_,n,up ea (fun x9 x9 z=>nomatch z),rfl⟩,fun j hj=>?_⟩,?_,r3.lim,?_,fun href hk=>?_,?_⟩
 ·rintro j vs ⟨hj,rfl⟩
  refine o41 (hTs j hj) fun ta tb n p x0=>?_;refine o04 x0 fun x9 x9 x9 h4=>?_;clear x0
  exact ⟨_,_,h4⟩
 ·refine o41 (hTs j hj) fun ta tb n p x0=>?_;refine o04 x0 fun x9 x9 h3 h4=>?_;clear x0
  rw[h4]
  exact ⟨_,up h3 (.cls rfl),rfl,n,rfl⟩
 ·intro c hc'
  rcases NA.mp hc' with rfl|hc'
  ·exact DB I1
  ·rcases NA.mp hc' with rfl|hc'
   ·exact lt3 ea
   ·refine o12 (List.mem_map.mp hc') fun j hj x0=>?_;subst x0
    refine o41 (hTs j (List.mem_range.mp hj)) fun x9 x9 x9 x9 x0=>?_;refine o04 x0 fun x9 x9 h3 x9=>?_;clear x0
    exact lt3 h3
 ·rw[HA]
  refine o12 r.lim fun m' x0 x9=>?_;refine o32 x0 fun oc x9 x9 h1 x9=>?_;clear x0
  exact GC (DB h1)
 ·have up2:∀{u:CA},(∀c∈List.range h3.objs.size,c∉[s.heap.objs.size]→∀o,href.get? c=some o→u.heap.get? c=some o)→∀{c:EA}{o:Obj},h3.get? c=some o→c≠s.heap.objs.size→u.heap.get? c=some o:=
   fun {u} hu {c o} e hne=>hu c (List.mem_range.mpr (DB e)) (by simpa using hne) o (hk c o e)
  have nK:∀{c:EA}{o:Obj},b.K.lookup c=some o→c≠s.heap.objs.size:=fun {c o} e=>GC (DB ((r.kin B) c o e))
  refine ⟨fun A' E' j va vb s₂ m₂ hh x9 x9 x9 x9 x9=>wp ⟨rfl,s₂.heap,s₂.toks,rfl,fun x9 x9 e=>e⟩,fun A' E' j va vb s₂ m₂ hh hP x9 hns hma hmb' hu=>?_⟩
  refine o02 hP fun hj hv=>?_;clear hP
  refine o41 (hTs j hj) fun ta tb n p x0=>?_;refine o04 x0 fun hp x9 x9 h4=>?_;clear x0
  rw[h4] at hv
  obtain ⟨rfl,rfl⟩:va=.str p.1 ta∧vb=.str p.2 tb:=by simpa using RB Array.toList hv
  refine hE A' s₂ _ cv m₂ p ta tb _ E' hh (fun c o e=>up2 hu (kin c o e) (nK e)) ⟨mb,hmb.at' fun o e=>up2 hu e ?_,hmb2⟩ hns hma hmb' (LB hp) fun y h' tk hk' hF=>⟨⟨p,hp,hF⟩,h',tk,rfl,hk'⟩
  refine o12 (r.boot B) fun m' x0 x9=>?_;refine o32 x0 fun oc es ep h1 x9=>?_;clear x0
  exact GC (DB h1)
 ·intro g h5 tk gs hg hlt hsz5 kp5 W5 G5
  have kp':∀c o,s.heap.get? c=some o→c≠t.2.1→h5.get? c=some o:=fun c o e hn=>kp5 c o (gr.kp c o (gps _ e) hn)
  refine o23 gr.tab fun more m2 t1 t2 t3=>?_
  refine o12 (r.tab t ht) fun more' t1' t1''=>?_
  have em:more=more':=by
   have h1:=t1.2
   have h2:=gps o1 t1'.2
   have h3:({ cls:=.none,data:=.fields (t.2.2++more) }:Obj)={ cls:=.none,data:=.fields (t.2.2++more') }:=Option.some.inj (h1.symm.trans h2)
   injection h3 with _ _ h3
   injection h3 with h3
   have h4:=RB Array.toList h3
   rw[QF,QF] at h4
   exact Array.toList_inj.mp (List.append_cancel_left h4)
  subst em
  have W6:=zR W5 (P':=fun j y=>∃p,ps[j]?= some p∧Fp p y) fun j y ⟨i,hi,p,hp,hF⟩=>by
   rw[lR] at hi
   obtain ⟨hlt',e'⟩:=List.getElem?_eq_some_iff.mp hi
   rw[List.getElem_range] at e'
   subst e'
   exact ⟨p,hp,hF⟩
  rw[lR,List.length_range,hsz] at W6
  have hIlt:=DB I1
  refine q g _ ⟨kp',⟨more,m2,t1',t2.keeps kp5,t3⟩,(AllBare.push r.bare hg),rfl⟩ ⟨_,_,_,_,W6,by rw[hsz] at G5;exact G5,fun c hc'=>?_,List.mem_cons_self,fun c hc'=>?_,fun i s' st=>st.1.typeIs⟩
  ·show c < h5.objs.size
   have h1:h3.objs.size < g:=hlt
   have h2:c=g∨c=h3.objs.size∨c < h3.objs.size:=by simpa using hc'
   have h4:g < h5.objs.size:=by rw[hsz5];exact Nat.lt_succ_self _
   rcases h2 with rfl|rfl|h2
   ·exact h4
   ·exact Nat.lt_trans h1 h4
   ·exact Nat.lt_trans h2 (Nat.lt_trans h1 h4)
  ·refine aP ?_
   simp only[NA,GB,QD] at hc'
   rcases hc' with rfl|rfl
   ·exact Nat.le_of_lt hIlt
   ·exact MA _
theorem Grown.moved{t:EA×EA×RA BA}(B:aC b){ht:t∈b.tabs}{ρ:Rho}{s s5 s6 s':CA}(r:R b ρ mem s)(g:Grown b t s s5)(k5:∀c o,s5.heap.get? c=some o→s6.heap.get? c=some o)(hg:s6.gens=s5.gens)(ho:s6.os=s5.os){wr:AA EA}{gi:Nat}(m:Moved wr (GenOnlyQ gi) s6 s')
  (hw:∀c∈wr,s.heap.get? c=none):Grown b t s s':=by
 refine o23 g.tab fun more m2 t1 t2 t3=>?_
 have nw:∀{c:EA}{o:Obj},s.heap.get? c=some o→c∉wr:=fun {c o} e z=>by rw[hw c z] at e;cases e
 refine o02 t1 fun x0 e3=>?_;clear t1;refine o22 x0 fun o vs e1 e2=>?_;clear x0
 refine ⟨fun c o e n=>m.heap c o (nw e) (k5 _ _ (g.kp c o e n)),⟨more,m2,⟨⟨o,vs,e1,e2⟩,e3⟩,t2.at2 (fun o' e=>m.heap _ _ (nw e1) (k5 _ _ e)) (fun o' e=>m.heap _ _ (nw e3) (k5 _ _ e)),t3⟩,m.gens.bare (by rw[hg];exact g.bare),m.os.trans (ho.trans g.os)⟩
theorem aBv(B:aC b){ρ:Rho}{s:CA}{A:XA}{Q:BA→CA→Prop}{E:BA→CA→Prop}{mo:BA}{ex:NB}{name:Str}{sq:YA (AA AV)}(r:R b ρ mem s)(ho:VR s.heap ρ (.obj i) mo)(e:mem[i]?= some (.inst C sq at_))(ha:at_.lookup name=some v)
  (hp:plainAttr b.K C name=true) (hh:v.handed=true) (q:∀mv,VR s.heap ρ v mv→Q mv { s with toks:=s.toks+1 }):FA b.M A (getAttr mo name ex) Q E s:=by
 refine o41 (r.inst e ho) fun a d ox od x0=>?_;refine o32 x0 fun m es ep x1 x2=>?_;clear x0;subst x1;refine o08 x2 fun e1 I hd e4 e5 e6 e7 hm=>?_;clear x2
 have z:=hm name
 rw[ha] at z
 refine o12 z fun mv z1 z2=>?_;clear z
 have hga:gaIn b.K C=true:=by
  unfold plainAttr at hp;simp only[VA,UD] at hp;exact hp.1.2
 exact mT (r.kin B) I hga (rR hp (by rw[fY e5 e6 e7,z1])) (z2.handed hh) (q mv z2)
section
variable {A:XA}{s:CA}{Q:BA→CA→Prop}{E:BA→CA→Prop}{L C':EA}{code:BA}{m2:Str→YA BA}{p2:Pos}
theorem jE{y:Str}{mv:BA}(hk:scope.kind=.function)(hl:scope.names.lookup y=some .local)(hns:s.heap.Ns C' m2)(e:m2 y=some mv)(hd:(y == ("__debug__" : Str))=false)(q:Q mv s):FA b.M A (eval (.Name y px) (genEnv scope [] C' code DC (F L))) Q E s:=
 wpAny_Name (AH (env:=genEnv scope [] C' code DC (F L)) hk hl hns e q) hd
theorem nA(f:aS F){y:Str}{mv:BA}(hk:scope.kind=.function)(hl:scope.names.lookup y=some .globalImplicit)(X:b.K.In s.heap)(hb:∃mb,s.heap.Ns DC mb∧∀x:Str,x≠"__name__" →mb x=HG x)(e:nsIn b.K TB y=some none)(e2:HG y=some mv)
  (hn:y≠"__name__") (hd:(y == ("__debug__" : Str))=false) (q:Q mv s):FA b.M A (eval (.Name y px) (genEnv scope [] C' code DC (F L))) Q E s:=by
 obtain ⟨mb,hb,hb2⟩:=hb
 refine PF (env:=genEnv scope [] C' code DC (F L)) hk hl ?_ hd
 unfold loadGlobal
 show FA _ _ (nsGet (F L).globals y>>=_) _ _ _
 rw[f.globals L]
 refine wb ((looks_nsIn X e).here (wb (wpAny_nsGet hb ?_)))
 rw[hb2 y hn,e2]
 exact wp q
theorem zS(f:aS F){y:Str}{mv:BA}(hk:scope.kind=.function)(hl:scope.names.lookup y=some .globalImplicit)(X:b.K.In s.heap)(e:nsIn b.K TB y=some (some mv))(hd:(y == ("__debug__" : Str))=false)(q:Q mv s):
  FA b.M A (eval (.Name y px) (genEnv scope [] C' code DC (F L))) Q E s:=by
 refine PF (env:=genEnv scope [] C' code DC (F L)) hk hl ?_ hd
 unfold loadGlobal
 show FA _ _ (nsGet (F L).globals y>>=_) _ _ _
 rw[f.globals L]
 exact wb ((looks_nsIn X e).here (wp q))
theorem sL{env:Env}{y z:Str}{id:String}{mv:BA}(h1:∀{Q E},Q (.builtin id) s→FA b.M A (eval (.Name y px) env) Q E s)(h2:∀{Q E},Q mv s→FA b.M A (eval (.Name z p2) env) Q E s)(h:FA b.M A (call (.builtin id) [mv]) Q E s):
  FA b.M A (eval (.Call (.Name y px) [.Name z p2] [] pos) env) Q E s:=by
 refine NG (h1 ?_)
 refine NH (P:=fun x9=>True) rfl (fun hp x9=>⟨.machine,.inr (.inl rfl),RE rfl⟩) ?_
 refine JH ?_
 exact ND (h2 (QE ⟨trivial,h⟩))
end
theorem aBw(f:aS F){L:EA}{q1 q2 q3 q4 q5 q6 q7:Pos}(hk:scope.kind=.function)(hl:scope.names.lookup ("len" : Str)=some .globalImplicit)(ha:scope.names.lookup xa=some .local)(hb:scope.names.lookup xb=some .local)(da:(xa == ("__debug__" : Str))=false)(db:(xb == ("__debug__" : Str))=false)
  (e:nsIn b.K TB "len" = some none) (hz:∀p∈ps,p.1.length≤1000000∧p.2.length≤1000000) (A':XA) (u:CA) (C':EA) (code:BA) (m2:Str→YA BA) (p:Str×Str) (ta tb:Tok) (Q:BA→CA→Prop) (E:BA→CA→Prop) (_:A'.handled=none) (X:b.K.In u.heap)
  (hb2:∃mb,u.heap.Ns DC mb∧∀x:Str,x≠"__name__" →mb x=HG x) (hns:u.heap.Ns C' m2) (h1:m2 xa=some (.str p.1 ta)) (h2:m2 xb=some (.str p.2 tb)) (hp:p∈ps)
  (q:∀y h' tk,(∀c o,u.heap.get? c=some o→h'.get? c=some o)→(∃t,y=.int ((p.1.length+p.2.length:Nat):Int) t)→Q y { u with heap:=h',toks:=tk }):
  FA b.M A' (eval (.BinOp (.Call (.Name "len" q1) [.Name xa q2] [] q3) .Add (.Call (.Name "len" q4) [.Name xb q5] [] q6) q7) (genEnv scope [] C' code DC (F L))) Q E u:=by
 refine o02 (hz p hp) fun z1 z2=>?_
 refine wpAny_BinOp (sL (fun q=>nA f hk hl X hb2 e Boot.len (by decide) (by decide) q) (fun q=>jE hk ha hns h1 da q) (P.len_str (by lia) ?_))
 refine sL (fun q=>nA f hk hl X hb2 e Boot.len (by decide) (by decide) q) (fun q=>jE hk hb hns h2 db q) (P.len_str (by lia) ?_)
 exact PySem.P.add_int (q _ _ _ (fun x9 x9 e=>e) ⟨_,by rw[Int.natCast_add]⟩)
noncomputable def total(ps:AA (Str×Str)):Nat:=(ps.map fun p=>p.1.length+p.2.length).sum
theorem sM{val:Nat→Int}:∀(ps:AA (Str×Str)),(∀j p,ps[j]?= some p→val j=((p.1.length+p.2.length:Nat):Int))→∀n,n≤ps.length→preSum val n=(total (ps.take n):Int):=by
 intro ps hv n
 induction n with
 | zero=>intro _;simp[preSum,total]
 | succ n ih=>
  intro hn
  have hp:ps[n]?= some ps[n]:=EB (by lia)
  rw[preSum,ih (by lia),hv n _ hp,List.take_add_one,hp]
  unfold total
  rw[FC,OG]
  simp
theorem jF(ps:AA (Str×Str))(n:Nat):total (ps.take n)≤total ps:=by
 unfold total
 have h:ps.map (fun p=>p.1.length+p.2.length)=(ps.take n).map (fun p=>p.1.length+p.2.length)++(ps.drop n).map (fun p=>p.1.length+p.2.length):=by
  rw[← FC,JC]
 rw[h,OG];lia
theorem hY{ps:AA (Str×Str)}{p:Str×Str}(h:p∈ps):p.1.length+p.2.length≤total ps:=by
 unfold total
 induction ps with
 | nil=>cases h
 | cons a r ih=>
  rw[AD,LH]
  rcases NA.mp h with rfl|h
  ·lia
  ·have:=ih h;lia
theorem uN(B:aC b)(f:aS F){t:EA×EA×RA BA}(ht:t∈b.tabs){st:Int}{nm:Str}{p1 q1 q2 q3 q4 q5 q6 q7 a0 px2 apos:Pos}
  (hx:loc.lookup x=some (.obj i)) (hm:mem[i]?= some (.inst C (some (prs ps)) at_)) (hat:at_.lookup nm=some (.int st)) (hst:0≤st∧st≤1000000) (hz:total ps≤1000000)
  (hcode:∀L,(F L).code=.ref t.1) (hc:seqCls b.K C=true) (hf:fromList b.K C "__iter__" "list.__iter__" = true) (hbf:bfIn b.K=true) (hpl:plainAttr b.K C nm=true)
  (e1:nsIn b.K TB "len" = some none) (e2:nsIn b.K TB "sum" = some none)
  (hks:∀L,(F L).kindOf "sum" = some .globalImplicit) (hcx:∀L,(F L).cells.lookup x=none) (hlx:∀L,(F L).kindOf x=some .local) (hdx:(x == ("__debug__" : Str))=false)
  (hco:scope.isCoroutine=false) (hclos:∀L,closureFor scope (F L)=pure []) (hcell:∀y∈scope.names,y.2≠.cell) (h0:scope.names.lookup (".0" : Str)=some NameKind.local)
  (hxa:scope.names.lookup xa=some .local) (hxb:scope.names.lookup xb=some .local) (hab:xa≠xb) (hda:(xa == ("__debug__" : Str))=false) (hdb:(xb == ("__debug__" : Str))=false) (hl:scope.names.lookup ("len" : Str)=some .globalImplicit) (hkind:scope.kind=.function)
  (hs:∀L v,genFold (.Name x px) (F L) v=pure v):
  aE b h F (.Call (.Name "sum" p1) [.GeneratorExp (.BinOp (.Call (.Name "len" q1) [.Name xa q2] [] q3) .Add (.Call (.Name "len" q4) [.Name xb q5] [] q6) q7) [⟨.Tuple [.Name xa pa,.Name xb pb] kt pt,.Name x px,[],0⟩] scope a0,.Attribute (.Name x px2) nm apos] [] pos)
   loc mem (.int (st+total ps)) mem:=fun A s ρ L Q E hA r fm q=>by
 refine o12 (r.boot B) fun mb hb hb2=>?_
 refine NG (PF (f.kind L) (hks L) ?_ (by decide))
 unfold loadGlobal
 rw[f.globals L,f.builtins L]
 refine wb ((looks_nsIn (r.kin B) e2).here (wb (wpAny_nsGet hb ?_)))
 rw[hb2 _ (by decide),Boot.sum]
 refine wp ?_
 have hbp:=gI (F:=F) (pos:=pos) (L:=L) (es:=[.GeneratorExp (.BinOp (.Call (.Name "len" q1) [.Name xa q2] [] q3) .Add (.Call (.Name "len" q4) [.Name xb q5] [] q6) q7) [⟨.Tuple [.Name xa pa,.Name xb pb] kt pt,.Name x px,[],0⟩] scope a0,.Attribute (.Name x px2) nm apos]) rfl
 have hbh:=hU (F:=F) (pos:=pos) (L:=L) (es:=[.GeneratorExp (.BinOp (.Call (.Name "len" q1) [.Name xa q2] [] q3) .Add (.Call (.Name "len" q4) [.Name xb q5] [] q6) q7) [⟨.Tuple [.Name xa pa,.Name xb pb] kt pt,.Name x px,[],0⟩] scope a0,.Attribute (.Name x px2) nm apos]) rfl (by intro _ h;exact nomatch h)
 refine NH (P:=fun x9=>True) (by rw[hbp];rfl) (fun hp x9=>⟨.machine,.inr (.inl rfl),RE rfl⟩) ?_
 rcases hbh with hbh|⟨x',rest',e'⟩
 ·cases hbh
 rw[e']
 refine JH ?_
 rw[← e']
 have hzp:∀p∈ps,p.1.length≤1000000∧p.2.length≤1000000:=fun p hp=>by have:=hY hp;lia
 refine ND (pR B f ht hA r fm (hcode L) hx hm hc hf hbf (Fp:=fun p y=>∃t,y=.int ((p.1.length+p.2.length:Nat):Int) t) (aBw f hkind hl hxa hxb hda hdb e1 hzp) (fun g s5 gr gv=>?_) (hcx L) (hlx L) hdx hco (hclos L) hcell h0 hxa hxb hab hkind (hs L)) rfl
 refine o02 (gr.r B ht r) fun r5 x5=>?_
 have fm5:=fm.ext x5
 refine o12 fm5.ns fun m hn hmm=>?_
 have z:=hmm x _ hx
 unfold bO at z
 rw[hcx] at z
 refine o12 z fun mv z1 z2=>?_;clear z
 refine ND (Attribute_any_ (wpAny_Name (AH (f.kind L) (hlx L) (by rw[f.locals L];exact hn) z1 ?_) hdx)) rfl
 refine aBv B r5 z2 hm hat hpl rfl fun mst hst'=>?_
 cases hst' with|int tst=>
 refine QE ⟨trivial,?_⟩
 refine o46 gv.walk fun fp wr gi St W st0 hfp hg hwr hty=>?_
 have W1:WalksS b.prog b.w A.in1 g fp wr (GenOnlyQ gi) ps.length (fun j y=>∃p,ps[j]?= some p∧∃t,y=.int ((p.1.length+p.2.length:Nat):Int) t) St:=W.in4_1
 let val:Nat→Int:=fun j=>match ps[j]? with|some p=>((p.1.length+p.2.length:Nat):Int)|none=>0
 have hval:∀j p,ps[j]?= some p→val j=((p.1.length+p.2.length:Nat):Int):=fun j p e=>by show (match ps[j]? with|some p=>((p.1.length+p.2.length:Nat):Int)|none=>0)=_;rw[e]
 have hsum:∀n,n≤ps.length→preSum val n=(total (ps.take n):Int):=sM ps hval
 refine zP W1 val (fun j y ⟨p,hp,t,hy⟩=>⟨t,by rw[hval j p hp];exact hy⟩) ⟨by lia,by lia⟩ (fun j hj=>?_) (W1.frame 0 s5 s5.heap _ st0 (Nat.le_succ _) fun c x9 o e=>e) hfp fun s' t' hmv=>?_
 ·have hp:ps[j]?= some ps[j]:=EB hj
  rw[hval j _ hp,hsum (j+1) hj]
  have h1:=hY (LB hp)
  have h2:=jF ps (j+1)
  exact ⟨⟨by lia,by lia⟩,by lia,by lia⟩
 ·have k0:=gr.moved B (ht:=ht) r (s6:={ s5 with heap:=s5.heap.push { cls:=.type "list",data:=.seq #[.int st (s5.toks+1)] },toks:=s5.toks+1+1 }) (fun c o e=>gps _ e) rfl rfl hmv fun c hc'=>by
   rcases NA.mp hc' with rfl|hc'
   ·cases e:s.heap.get? s5.heap.objs.size with
    | none=>rfl
    | some o=>refine o11 (x5.live _ _ e) fun o' e''=>?_;exact absurd (DB e'') (JB _)
   ·exact hwr c hc'
  refine o02 (k0.r B ht r) fun r6 x6=>?_
  refine q ρ s' _ r6 x6 ?_
  rw[hsum _ (MA _),List.take_length]
  exact .int _ _
end
noncomputable def duo(p:Str×Str):Str:=UC ⟨#[]⟩ [p.1,p.2]
noncomputable def txtOf(ps:AA (Str×Str)):Str:=UC ⟨#[]⟩ (ps.map duo)
theorem zT(p:Str×Str):duo p=p.1++p.2:=by
 unfold duo
 show FG ⟨#[]⟩ [p.1,p.2]=_
 rw[ZF]
 show p.1++⟨#[]⟩++Str.join ⟨#[]⟩ [p.2]=_
 exact Str.ext' (by simp[Str.cps_append,Str.join])
theorem pS{xs:AA Str}(h:(xs.map (·.length)).sum≤1000000):JoinOk ⟨#[]⟩ xs=true:=by
 unfold JoinOk Builtin.Str.tooLong
 rw[List.foldl_toArray,kE]
 simp only[WE,decide_eq_false_iff_not]
 rw[HB]
 have:(⟨#[]⟩:Str).length=0:=rfl
 rw[this];lia
section
variable {b:Bs}{h k:Nat}{F:EA→Env}{loc:AA (Str×AV)}{mem m2:AA AO}{v:AV}{pos px:Pos}{i:Nat}{C:EA}{at_:AA (Str×AV)}{ps:AA (Str×Str)}{xa xb x:Str}{pa pb pt:Pos}{kt:Nat}{scope:Scope}
theorem aBx(f:aS F){L:EA}{en:Str}{t0:Tok}{q1 q2 q3 q4 q5 q6:Pos}{ktt:Nat}(hk:scope.kind=.function)(hl:scope.names.lookup en=some .globalImplicit)(ha:scope.names.lookup xa=some .local)(hb:scope.names.lookup xb=some .local)(da:(xa == ("__debug__" : Str))=false)(db:(xb == ("__debug__" : Str))=false)(de:(en == ("__debug__" : Str))=false)
  (e:nsIn b.K TB en=some (some (.str ⟨#[]⟩ t0))) (hz:∀p∈ps,p.1.length+p.2.length≤1000000)
  (he:∀C' code,∃pl,eval (.Call (.Attribute (.Name en q1) "join" q2) [.Tuple [.Name xa q3,.Name xb q4] ktt q5] [] q6) (genEnv scope [] C' code DC (F L))=(do
   let ov ← eval (.Name en q1) (genEnv scope [] C' code DC (F L))
   standAt q2.atName
   let (f,first) ← holding [ov] (getMethod ov "join" (pl:Sem NB))
   callWith q6 f first (backTo q6 (LC [.Tuple [.Name xa q3,.Name xb q4] ktt q5] (genEnv scope [] C' code DC (F L)))) (backToKw q6 (keywordEach [] (genEnv scope [] C' code DC (F L))))))
  (A':XA) (u:CA) (C':EA) (code:BA) (m2:Str→YA BA) (p:Str×Str) (ta tb:Tok) (Q:BA→CA→Prop) (E:BA→CA→Prop) (_:A'.handled=none) (X:b.K.In u.heap)
  (hb2:∃mb,u.heap.Ns DC mb∧∀x:Str,x≠"__name__" →mb x=HG x) (hns:u.heap.Ns C' m2) (h1:m2 xa=some (.str p.1 ta)) (h2:m2 xb=some (.str p.2 tb)) (hp:p∈ps)
  (q:∀y h' tk,(∀c o,u.heap.get? c=some o→h'.get? c=some o)→(∃t,y=.str (duo p) t)→Q y { u with heap:=h',toks:=tk }):
  FA b.M A' (eval (.Call (.Attribute (.Name en q1) "join" q2) [.Tuple [.Name xa q3,.Name xb q4] ktt q5] [] q6) (genEnv scope [] C' code DC (F L))) Q E u:=by
 refine o11 (he C' code) fun pl he=>?_
 refine methodCall_KW (zS f hk hl X e de (GM.join ?_)) he
 refine NH (P:=fun x9=>True) rfl (fun hp x9=>⟨.machine,.inr (.inl rfl),RE rfl⟩) ?_
 refine JH ?_
 refine ND (wpAny_Tuple (ND (jE hk ha hns h1 da (ND (jE hk hb hns h2 db (QE ⟨by rw[HB];show 2≤_;decide,?_⟩))))))
 refine QE ⟨trivial,?_⟩
 have hok:JoinOk ⟨#[]⟩ [p.1,p.2]=true:=pS (by have:=hz p hp;simpa using this)
 have hok':=hok
 unfold JoinOk at hok'
 rw[WE] at hok'
 refine call_meets PySem.F.slot_str_join (typeIs_str _ _ _) PySem.F.entry_str_join (PySem.F.args_str_join_2 _ _) (meets_str_join_tuple ⟨#[]⟩ t0 u.heap.objs.size [(p.1,ta),(p.2,tb)] hok') ⟨⟨_,_,gpz _ rfl,rfl,rfl⟩,post_join _ ⟨joinFit_length hok',fun t' k=>q _ _ _ (fun c o e=>gps _ e) ⟨t',rfl⟩⟩⟩
theorem qV{A:XA}{E:BA→CA→Prop}{s:CA}{tk:Tok}{Q:BA→CA→Prop}{prog:RC}{w:HD}{I:EA}{fp wr:AA EA}{G:RA UE→RA UE→Prop}{St:Nat→CA→Prop}
  (W:WalksS prog w A.in1.in1 I fp wr G ps.length (fun j y=>∃p,ps[j]?= some p∧∃t,y=.str (duo p) t) St) (hT:∀i s,St i s→s.TypeIs (.ref I) "generator") (hst:St 0 s) (hfp:∀c∈fp,c < s.heap.objs.size) (hI:I∈fp) (hz:total ps≤1000000) (hn:ps.length≤1000000)
  (hq:∀s' t' k,Moved wr G s s'→Q (.str (txtOf ps) t') { s' with toks:=k }):FA (model prog w) A (call (.builtin "str.join") [.str ⟨#[]⟩ tk,.ref I]) Q E s:=by
 refine SC.joinGen W hT hst hfp hI (fun j y ⟨p,_,t,e⟩=>⟨_,t,e⟩) (fun s' l hm hi=>?_) (by rw[HB];exact lz)
 have key:l.map (·.1)=ps.map duo:=by
  have h1:l.length=ps.length:=by have:=hi.1;rw[List.size_toArray] at this;unfold strValues at this;simpa using this
  refine List.ext_getElem (by simp[h1]) fun j hj1 hj2=>?_
  rw[List.getElem_map,List.getElem_map]
  rw[BB] at hj1 hj2
  refine o12 (hi.2 j (.str l[j].1 l[j].2) (by
   rw[List.getElem?_toArray]
   unfold strValues
   rw[FE,EB hj1];rfl)) fun p hp x0=>?_;refine o11 x0 fun t e=>?_;clear x0
  rw[EB hj2] at hp
  replace hp:=si hp;subst hp
  injection e
 rw[key]
 refine ⟨pS ?_,fun t' k=>hq s' t' k hm⟩
 rw[FD]
 have:((fun x:Str=>x.length) ∘ duo)=fun p:Str×Str=>p.1.length+p.2.length:=by
  funext p
  show (duo p).length=_
  rw[zT,GD]
 show (ps.map ((fun x:Str=>x.length) ∘ duo)).sum≤_
 rw[this];exact hz
theorem sN(B:aC b)(f:aS F){t:EA×EA×RA BA}(ht:t∈b.tabs){en:Str}{t0:Tok}{g1 g2 q1 q2 q3 q4 q5 q6 a0:Pos}{ktt:Nat}
  (hx:loc.lookup x=some (.obj i)) (hm:mem[i]?= some (.inst C (some (prs ps)) at_)) (hz:total ps≤1000000) (hn:ps.length≤1000000)
  (hcode:∀L,(F L).code=.ref t.1) (hc:seqCls b.K C=true) (hf:fromList b.K C "__iter__" "list.__iter__" = true) (hbf:bfIn b.K=true)
  (e:nsIn b.K TB en=some (some (.str ⟨#[]⟩ t0)))
  (hke:∀L,(F L).kindOf en=some .globalImplicit) (hcx:∀L,(F L).cells.lookup x=none) (hlx:∀L,(F L).kindOf x=some .local) (hdx:(x == ("__debug__" : Str))=false)
  (hco:scope.isCoroutine=false) (hclos:∀L,closureFor scope (F L)=pure []) (hcell:∀y∈scope.names,y.2≠.cell) (h0:scope.names.lookup (".0" : Str)=some NameKind.local)
  (hxa:scope.names.lookup xa=some .local) (hxb:scope.names.lookup xb=some .local) (hab:xa≠xb) (hda:(xa == ("__debug__" : Str))=false) (hdb:(xb == ("__debug__" : Str))=false) (hde:(en == ("__debug__" : Str))=false) (hl:scope.names.lookup en=some .globalImplicit) (hkind:scope.kind=.function)
  (hs:∀L v,genFold (.Name x px) (F L) v=pure v)
  (he:∀L C' code,∃pl,eval (.Call (.Attribute (.Name en q1) "join" q2) [.Tuple [.Name xa q3,.Name xb q4] ktt q5] [] q6) (genEnv scope [] C' code DC (F L))=(do
   let ov ← eval (.Name en q1) (genEnv scope [] C' code DC (F L))
   standAt q2.atName
   let (f,first) ← holding [ov] (getMethod ov "join" (pl:Sem NB))
   callWith q6 f first (backTo q6 (LC [.Tuple [.Name xa q3,.Name xb q4] ktt q5] (genEnv scope [] C' code DC (F L)))) (backToKw q6 (keywordEach [] (genEnv scope [] C' code DC (F L))))))
  (he2:∀L,∃pl,eval (.Call (.Attribute (.Name en g1) "join" g2) [.GeneratorExp (.Call (.Attribute (.Name en q1) "join" q2) [.Tuple [.Name xa q3,.Name xb q4] ktt q5] [] q6) [⟨.Tuple [.Name xa pa,.Name xb pb] kt pt,.Name x px,[],0⟩] scope a0] [] pos) (F L)=(do
   let ov ← eval (.Name en g1) (F L)
   standAt g2.atName
   let (f,first) ← holding [ov] (getMethod ov "join" (pl:Sem NB))
   callWith pos f first (backTo pos (LC [.GeneratorExp (.Call (.Attribute (.Name en q1) "join" q2) [.Tuple [.Name xa q3,.Name xb q4] ktt q5] [] q6) [⟨.Tuple [.Name xa pa,.Name xb pb] kt pt,.Name x px,[],0⟩] scope a0] (F L))) (backToKw pos (keywordEach [] (F L))))):
  aE b h F (.Call (.Attribute (.Name en g1) "join" g2) [.GeneratorExp (.Call (.Attribute (.Name en q1) "join" q2) [.Tuple [.Name xa q3,.Name xb q4] ktt q5] [] q6) [⟨.Tuple [.Name xa pa,.Name xb pb] kt pt,.Name x px,[],0⟩] scope a0] [] pos)
   loc mem (.str (txtOf ps)) mem:=fun A s ρ L Q E hA r fm q=>by
 refine o11 (he2 L) fun pl he2=>?_
 refine methodCall_KW (PF (f.kind L) (hke L) ?_ hde) he2
 unfold loadGlobal
 rw[f.globals L]
 refine wb ((looks_nsIn (r.kin B) e).here (wp (GM.join ?_)))
 have hbp:=gI (F:=F) (pos:=pos) (L:=L) (es:=[.GeneratorExp (.Call (.Attribute (.Name en q1) "join" q2) [.Tuple [.Name xa q3,.Name xb q4] ktt q5] [] q6) [⟨.Tuple [.Name xa pa,.Name xb pb] kt pt,.Name x px,[],0⟩] scope a0]) rfl
 have hbh:=hU (F:=F) (pos:=pos) (L:=L) (es:=[.GeneratorExp (.Call (.Attribute (.Name en q1) "join" q2) [.Tuple [.Name xa q3,.Name xb q4] ktt q5] [] q6) [⟨.Tuple [.Name xa pa,.Name xb pb] kt pt,.Name x px,[],0⟩] scope a0]) rfl (by intro _ h;exact nomatch h)
 refine NH (P:=fun x9=>True) (by rw[hbp];rfl) (fun hp x9=>⟨.machine,.inr (.inl rfl),RE rfl⟩) ?_
 rcases hbh with hbh|⟨x',rest',e'⟩
 ·cases hbh
 rw[e']
 refine JH ?_
 rw[← e']
 have hzp:∀p∈ps,p.1.length+p.2.length≤1000000:=fun p hp=>GA (hY hp) hz
 refine ND (pR B f ht hA r fm (hcode L) hx hm hc hf hbf (Fp:=fun p y=>∃t,y=.str (duo p) t) (aBx f hkind hl hxa hxb hda hdb hde e hzp (he L)) (fun g s5 gr gv=>?_) (hcx L) (hlx L) hdx hco (hclos L) hcell h0 hxa hxb hab hkind (hs L)) rfl
 refine QE ⟨trivial,?_⟩
 refine o46 gv.walk fun fp wr gi St W st0 hfp hg hwr hty=>?_
 refine qV W.in4_2 hty st0 hfp hg hz hn fun s' t' k hmv=>?_
 have k0:=gr.moved B (ht:=ht) r (s6:=s5) (fun c o e=>e) rfl rfl hmv hwr
 refine o02 (k0.r B ht r) fun r6 x6=>?_
 exact q ρ _ _ (r6.toks k) (x6.toks k) (.str _ _)
variable {prog:RC}{w:HD}{A:XA}{E:BA→CA→Prop}{s:CA}{K:Frag}{a d:EA}{its:RA BA}{n:Nat}
theorem zU{k:Int}{t:Tok}{mv:BA}{Q:BA→CA→Prop}(X:K.In s.heap)(ea:s.heap.get? a=some (SqO C d its n))(hc:seqCls K C=true)(hf:fromList K C "__getitem__" "list.__getitem__" = true)(h0:0≤k)(hk:k < 2 ^ 63)(x1:its[k.toNat]?= some mv)(q:Q mv s):
  FA (model prog w) A (getItem (.ref a) (.int k t)) Q E s:=by
 have fit:=fitsIndex_of h0 hk
 clear hk
 unfold getItem
 refine TA (wb (iH X ea hc ?_))
 refine wb (eR X ea hf slot_list_getitem.bind (gC vP sJ slot_list_getitem.plain entry_list_getitem X ea hc (args_list_getitem _ _) ?_))
 show FA _ _ (JF (.int k t)>>=_) _ _ s
 refine wb (wpAny_listSubscript_int fit ?_)
 clear fit
 refine o11 (Int.eq_ofNat_of_zero_le h0) fun j x0=>?_;subst x0
 have hx':its[j]?= some mv:=x1
 show FA _ _ ((seqItemAt a j>>=fun r=>pure (r.map (j,·)))>>=_) _ _ s
 refine wb (wb (wpAny_seqItemAt ea rfl (wp ?_)))
 rw[hx']
 first
  | exact wb (wp (wp ⟨mv,rfl,wp q⟩))
  | exact wp ⟨mv,rfl,wp q⟩
variable {e1 e2:Expr}{l:AA AV}
noncomputable def builtinMeth(K:Frag)(C:EA)(name:Str)(id:String):NB:=
 gaIn K C && CD K (.ref C) "__getattr__" == some none && CD K (.ref C) name == some (some (.builtin id)) && typeIn K (.builtin id) == some (.type "method_descriptor")
theorem nB(B:aC b){name:Str}{id:String}{sq:YA (AA AV)}(e:mem[i]?= some (.inst C sq at_))(hp:builtinMeth b.K C name id=true)(hn:at_.lookup name=Option.none):dN b h (.obj i) name mem (.builtin id) [.obj i]:=fun A s ρ mo pl Q E hA r ho q=>by
 refine o41 (r.inst e ho) fun a d ox od x0=>?_;refine o32 x0 fun m es ep x3 x4=>?_;clear x0;subst x3;refine o08 x4 fun e1 I hd e4 e5 e6 e7 hm=>?_;clear x4
 unfold builtinMeth at hp
 simp only[VA,UD] at hp
 have z:=hm name
 rw[hn] at z
 exact mU (f:=0) (r.kin B) I hp.1.1.1 hp.1.1.2 hp.1.2 hp.2 (.inr rfl) (by show Option.map _ (lookIn name od)=_;rw[fY e5 e6 e7,z];rfl) (q s _ r (Ext.refl _ _ _) (.cons ho .nil))
theorem R.seqi{ρ:Rho}{s:CA}(r:R b ρ mem s)(e:mem[i]?= some (.inst C (some l) at_)){mv:BA}(x:VR s.heap ρ (.obj i) mv):∃a d its n,mv=.ref a∧ρ.rows[i]?= some [a,d]∧s.heap.get? a=some (SqO C d its n)∧VRs s.heap ρ l its.toList∧its.size=l.length∧NsR s.heap ρ d at_:=by
 refine o12 (r.ors.get _ _ e) fun p e1 e2=>?_
 cases x with
 | obj e3=>
  rw[e1] at e3
  replace e3:=si e3;subst e3
  cases e2 with
  | seq ea hl hd=>exact ⟨_,_,_,_,rfl,e1,ea,hl,by rw[← hl.length,QA],hd⟩
theorem R.seqUpd(B:aC b){ρ:Rho}{s:CA}(r:R b ρ mem s){a d:EA}{h':PB}{its:RA BA}{n:Nat}{tk:Nat}(a0:ρ.rows[i]?= some [a,d])(hd:NsR s.heap ρ d at_)(hs:ZD a s.heap h')(hl:h'.get? a=some (SqO C d its n))(hv:VRs s.heap ρ l its.toList):
  R b ρ (mem.set i (.inst C (some l) at_)) { s with heap:=h',toks:=tk }∧Ext NoS ρ s ρ { s with heap:=h',toks:=tk }∧(∀{u:AV}{mu:BA},VR s.heap ρ u mu→VR h' ρ u mu):=by
 have hall:a∈ρ.all:=Rho.mem_rows (List.mem_flatten.mpr ⟨_,LB a0,by simp⟩)
 have mv:∀{u:AV}{mu:BA},VR s.heap ρ u mu→VR h' ρ u mu:=fun q=>q.move (ρ:=ρ) (ρ':=ρ) (·= a) (fun c o e n=>(hs.2 c n).trans e) (fun a e=>e▸.inl hall) (fun x9 x9 e=>e) fun a ha=>.inl ha
 have mvs:∀{u:AA AV}{mu:AA BA},VRs s.heap ρ u mu→VRs h' ρ u mu:=fun q=>q.move (ρ:=ρ) (ρ':=ρ) (·= a) (fun c o e n=>(hs.2 c n).trans e) (fun a e=>e▸.inl hall) (fun x9 x9 e=>e) fun a ha=>.inl ha
 have ad:d≠a:=by
  have this:=(List.pairwise_flatten.mp (JA.mp r.nd).1).1 _ (LB a0)
  have this:[a,d].Nodup:=this
  simp only[XE,HA] at this
  exact fun z=>this.1 z.symm
 refine o02 (r.upd B (tk:=tk) a0 (c:=a) (by simp) hs ⟨_,hl⟩ (OR.seq hl (mvs hv) (hd.move (fun o e=>(hs.2 d ad).trans e) mv))) fun r' x'=>?_
 exact ⟨r',x',mv⟩
theorem lH{hp:PB}{a d:EA}{C:EA}{its:RA BA}{n:Nat}(f:RA BA→RA BA)(e:hp.get? a=some (SqO C d its n)):∃n',(hp.update a (Obj.mapSeq f)).get? a=some (SqO C d (f its) n'):=
 ⟨_,XD (Obj.mapSeq f) e rfl⟩
theorem iW(B:aC b)(e:mem[i]?= some (.inst C (some l) at_))(hc:seqCls b.K C=true)(hz:l.length≤1000000):aF b h (.builtin "list.append") [.obj i,v] mem .none (mem.set i (.inst C (some (l++[v])) at_)):=fun A s ρ mvs Q E hA r hv q=>by
 cases hv with|cons h1 hv=>cases hv with|cons h2 hv=>
 cases hv
 rename_i mv ml
 refine o46 (r.seqi e h1) fun a d its n x0 hrow ea hvs sz hd=>?_;subst x0
 refine gC aCZ aBs PySem.F.slot_list_append.plain PySem.F.entry_list_append (r.kin B) ea hc (PySem.F.args_list_append_2 _ _) ?_
 show FA _ _ (updateSeq a (·.push ml)>>=fun x9=>ret .none) _ _ s
 refine wb (XG ea rfl ?_ (by rw[sz,HB];exact lz) (by rw[Array.size_push,sz,HB];lia))
 refine wp ⟨_,rfl,?_⟩
 refine o11 (lH (·.push ml) ea) fun n' hn'=>?_
 refine o03 (r.seqUpd B (tk:=s.toks) hrow hd (QB s.heap a (Obj.mapSeq (·.push ml))) hn' (l:=l++[v]) (by rw[MF];exact hvs.append (.cons h2 .nil))) fun r' x' x9=>?_
 exact q ρ _ _ r' x' .none
theorem gR(B:aC b){x:Int}{k:Nat}(e:mem[i]?= some (.inst C (some l) at_))(hc:seqCls b.K C=true)(hf:fromList b.K C "__getitem__" "list.__getitem__" = true)(hz:l.length≤1000000)(hx:x=(k:Int))(he:l[k]?= some v):GetV b h (.obj i) (.int x) mem v:=fun A s ρ mo mi Q E hA r ho hi q=>by
 subst hx
 refine o46 (r.seqi e ho) fun a d its n x0 hrow ea hvs sz hd=>?_;subst x0
 cases hi with|int t=>
 refine o12 (cC hvs he) fun mv x1 x2=>?_
 have X:=r.kin B
 have hk:k < its.size:=by
  have:=Array.getElem?_eq_some_iff.mp x1
  exact this.1
 have sp:=fF (M:=b.M) X ea hf
 unfold getitemInPython
 refine wb (sp.here (wp ⟨rfl,?_⟩))
 exact zU X ea hc hf (by lia) (by lia) x1 (q s mv r (Ext.refl _ _ _) x2)
variable {o:Obj}
theorem oL{sl:EA}{vl vu:BA}{lo hi:YA Int}{Q:BA→CA→Prop}(ho:s.heap.get? a=some o)(hd:o.data=.seq its n)(hs:s.heap.IsSliceOf sl vl vu .none)(pl:IsPart vl lo)(pu:IsPart vu hi)(hsz:its.size≤sizeLine)
  (h:Q (.ref s.heap.objs.size) { s with heap:=s.heap.push { cls:=.type "list",data:=.seq (slicePick its lo hi none) } }):
  FA (model prog w) A (Builtin.«list.__getitem__» ⟨[.ref a,.ref sl],[]⟩) (fun fin s'=>∃v,fin=.done (.ret v)∧Q v s') E s:=by
 refine o13 (id hs) fun os hos hcs hds=>?_
 have hTs:s.TypeIs (.ref sl) "slice" :=⟨os,hos,hcs⟩
 show FA _ _ (JF (.ref sl)>>=_) _ _ s
 refine wb ?_
 unfold JF
 refine wb (CF hTs slice_no_index ?_)
 simp only[Option.isNone_none,if_true]
 refine wp ?_
 show FA _ _ (typeOf (.ref sl)>>=_) _ _ s
 refine wb (NF hTs ?_)
 rw[AB (by decide)]
 rw[listSliceParts_eq]
 refine wb (wb (AC hos hds (x:=.none) rfl (wb (wpAny_listPart .none ?_))))
 rw[AB (show ¬ ((rawPart none == rawInt 0)=true) from KE)]
 refine wb (AC hos hds (x:=vl) rfl (wb (wpAny_listPart pl ?_)))
 refine wb (AC hos hds (x:=vu) rfl (wb (wpAny_listPart pu (wp ?_))))
 refine wb (m:=WG (.ref a)) ?_
 unfold WG
 refine wb (VC ho hd (wp ?_))
 refine wb (IC (sliceIndices_raw lo hi none its.size (by simp)) ?_)
 exact wb (RF (wp ⟨_,rfl,h⟩) (GA (slicePick_size_le its lo hi none) hsz))
noncomputable def splice(its new:RA BA)(lo hi:YA Int):RA BA:=
 its.extract 0 (SD lo hi none its.size).1.toNat++new++its.extract (max (SD lo hi none its.size).1 (SD lo hi none its.size).2.1).toNat its.size
theorem gF{sl v:EA}{new:RA BA}{vl vu:BA}{lo hi:YA Int}{Q:BA→CA→Prop}(ho:s.heap.get? a=some o)(hd:o.data=.seq its n)(hs:s.heap.IsSliceOf sl vl vu .none)(pl:IsPart vl lo)(pu:IsPart vu hi)(hv:s.heap.IsList v new)(hne:a≠v)
  (hsz:its.size+new.size≤2000000) (h:Q .none { s with heap:=s.heap.update a (Obj.mapSeq fun xs=>xs.extract 0 (SD lo hi none its.size).1.toNat++new++xs.extract (max (SD lo hi none its.size).1 (SD lo hi none its.size).2.1).toNat xs.size) }):
  FA (model prog w) A (Builtin.«list.__setitem__» ⟨[.ref a,.ref sl,.ref v],[]⟩) (fun fin s'=>∃v,fin=.done (.ret v)∧Q v s') E s:=by
 refine o13 (id hs) fun os hos hcs hds=>?_
 refine o13 (id hv) fun ov hov hcv x0=>?_;refine o11 x0 fun nv hdv=>?_;clear x0
 have hTs:s.TypeIs (.ref sl) "slice" :=⟨os,hos,hcs⟩
 show FA _ _ (JF (.ref sl)>>=_) _ _ s
 refine wb ?_
 unfold JF
 refine wb (CF hTs slice_no_index ?_)
 simp only[Option.isNone_none,if_true]
 refine wp ?_
 show FA _ _ (typeOf (.ref sl)>>=_) _ _ s
 refine wb (NF hTs ?_)
 rw[AB (by decide)]
 rw[listSliceParts_eq]
 refine wb (wb (AC hos hds (x:=.none) rfl (wb (wpAny_listPart .none ?_))))
 rw[AB (show ¬ ((rawPart none == rawInt 0)=true) from KE)]
 refine wb (AC hos hds (x:=vl) rfl (wb (wpAny_listPart pl ?_)))
 refine wb (AC hos hds (x:=vu) rfl (wb (wpAny_listPart pu (wp ?_))))
 have h1:SH (.ref a) (.ref v)=false:=by simp[SH,hne]
 simp only[h1,YB,CG]
 refine wb (m:=Builtin.List.listAllItems (.ref v) _) ?_
 unfold Builtin.List.listAllItems
 refine wb (NF hv.typeIs ?_)
 rw[OB (by decide)]
 refine wpAny_listItems hov hdv ?_
 refine wb (wpAny_listItems ho hd ?_)
 refine wb (IC (sliceIndices_raw lo hi none its.size (by simp)) ?_)
 have h2:(SD lo hi none its.size).2.2=1:=rfl
 rw[h2,OB (by decide)]
 refine wb (ZE ?_)
 rw[AB (by unfold Builtin.List.listTooLong;rw[HB];simp only[PC];lia)]
 show FA _ _ (updateSeq a _>>=_) _ _ s
 refine wb (XG ho hd ?_ (by rw[HB];lia) ?_)
 ·exact wb (YH (wp ⟨_,rfl,h⟩))
 ·have e2:∀x y,(its.extract x y).size≤its.size:=fun x y=>by rw[Array.size_extract];lia
  show (its.extract 0 _++new++its.extract _ its.size).size≤_
  rw[Array.size_append,Array.size_append,HB]
  refine GA (Nat.add_le_add (Nat.add_le_add (e2 _ _) (MA _)) (e2 _ _)) ?_
  lia
variable {m1 m3:AA AO}{p2:Pos}
theorem sO(B:aC b){a0 a1:YA Expr}{lo hi:YA Int}(x:aE b h F e1 loc mem (.obj i) m1)(pl:eN b h F a0 loc m1 lo m2)(pu:eN b h F a1 loc m2 hi m3)(e:m3[i]?= some (.inst C (some l) at_))(hc:seqCls b.K C=true)(hf:fromList b.K C "__getitem__" "list.__getitem__" = true)(hz:l.length≤1000000):
  aE b h F (.Subscript e1 (.Slice a0 a1 none p2) pos) loc mem (.lst (pick l lo hi)) m3:=fun A s ρ L Q E hA r fm q=>by
 rw[eval_Subscript]
 refine wb (x A s ρ L _ E hA r fm fun ρ1 s1 mo r1 x1 h1=>?_)
 refine wb (TA (wpAny_Slice (pl A s1 ρ1 L _ E hA r1 (fm.ext x1) fun ρ2 s2 ml r2 x2 h2=>pu A s2 ρ2 L _ E hA r2 ((fm.ext x1).ext x2) fun ρ3 s3 mu r3 x3 h3=>?_)))
 rw[evalPart_none]
 refine wp (wb (ME (wb ?_)))
 refine o46 (r3.seqi e (x3.vr0 (x2.vr0 h1))) fun a d its n x0 hrow ea hvs sz hd=>?_;subst x0
 let o1:Obj:={ cls:=.type "slice",data:=.fields #[ml,mu,.none] }
 have rr:=r3.push' o1
 have X:=rr.kin B
 have ea':({ s3 with heap:=s3.heap.push o1 }:CA).heap.get? a=some (SqO C d its n):=gps _ ea
 unfold getitemInPython
 refine wb ((fF (M:=b.M) X ea' hf).here (wp ?_))
 show FA b.M A (operate [_,_] (getItem _ _)>>=_) Q E _
 refine wb (wpAny_operating ?_)
 unfold getItem
 refine TA (wb (iH X ea' hc ?_))
 refine wb (eR X ea' hf slot_list_getitem.bind (gC vP sJ slot_list_getitem.plain entry_list_getitem X ea' hc (args_list_getitem _ _) ?_))
 refine oL ea' rfl (Heap.IsSliceOf.new ..) h2 h3 (by rw[sz,HB];exact lz) (wp ?_)
 refine wb (wpAny_letTemporaryGo (wp ?_))
 refine q ρ3 _ _ (rr.push' _) ((((x1.trans x2).trans x3).trans (aX r3 o1)).trans (aX rr _)) ?_
 have:=iN rr (sA ((aX r3 o1).vrs0 hvs) lo hi)
 simpa using this
end
noncomputable def putl{α:Type}(l new:AA α)(lo hi:YA Int):AA α:=l.take (lo.elim 0 (clipAt l.length))++new++l.drop (max (lo.elim 0 (clipAt l.length)) (hi.elim l.length (clipAt l.length)))
theorem sP{α:Type}(l new:AA α):putl l new none none=new:=by unfold putl;simp
theorem zV{α:Type}(l new:AA α)(n:Nat)(hn:n≤l.length):putl l new (some (n:Int)) none=l.take n++new:=by
 have e:clipAt l.length (n:Int)=n:=by unfold clipAt;rw[AB (by lia)];lia
 unfold putl
 simp only[Option.elim,e]
 rw[show max n l.length=l.length by lia,List.drop_length,ZB]
theorem jU(its new:RA BA)(lo hi:YA Int):
  (its.extract 0 (SD lo hi none its.size).1.toNat++new++its.extract (max (SD lo hi none its.size).1 (SD lo hi none its.size).2.1).toNat its.size).toList=putl its.toList new.toList lo hi:=by
 rw[sliceBounds_plain]
 unfold putl
 rw[QF,QF,Array.toList_extract,Array.toList_extract,QA]
 have h1:(((lo.elim 0 (clipAt its.size):Nat):Int)).toNat=lo.elim 0 (clipAt its.size):=VG _
 have h2:(max ((lo.elim 0 (clipAt its.size):Nat):Int) ((hi.elim its.size (clipAt its.size):Nat):Int)).toNat=max (lo.elim 0 (clipAt its.size)) (hi.elim its.size (clipAt its.size)):=by lia
 dsimp only
 rw[h1,h2]
 simp only[List.extract_eq_take_drop,List.drop_zero,Nat.sub_zero]
 rw[WF (l:=its.toList.drop _) (by rw[AG,QA];lia)]
theorem VRs.putl{hp:PB}{ρ:Rho}{l new:AA AV}{ml mn:AA BA}(q:VRs hp ρ l ml)(w:VRs hp ρ new mn)(lo hi:YA Int):VRs hp ρ (putl l new lo hi) (Mine.putl ml mn lo hi):=by
 unfold Mine.putl
 rw[q.length]
 exact ((q.take _).append w).append (q.drop _)
section
variable {b:Bs}{h:Nat}{F:EA→Env}{loc:AA (Str×AV)}{mem m1 m2 m3 m4:AA AO}{e1 e2:Expr}{pos p2 p3:Pos}{i:Nat}{C:EA}{at_:AA (Str×AV)}{l new:AA AV}
theorem fG(B:aC b){a0 a1:YA Expr}{lo hi:YA Int}(y:aE b h F e2 loc mem (.lst new) m1)(x:aE b h F e1 loc m1 (.obj i) m2)(pl:eN b h F a0 loc m2 lo m3)(pu:eN b h F a1 loc m3 hi m4)(e:m4[i]?= some (.inst C (some l) at_))(hc:seqCls b.K C=true)(hf:fromList b.K C "__setitem__" "list.__setitem__" = true)
  (hz:l.length+new.length≤1000000) (hs:DA (∀L,swapsWith e2 (some (.Subscript e1 (.Slice a0 a1 none p2) p3)) pos.line (F L)=pure false) q8):
  aL b h F (.Assign [.Subscript e1 (.Slice a0 a1 none p2) p3] e2 pos) loc mem .next loc (m4.set i (.inst C (some (putl l new lo hi)) at_)):=fun A s ρ L Q E hA r fm q=>by
 refine wpAny_Assign_Subscript (y A s ρ L _ E hA r fm fun ρ1 s1 mv r1 x1 h1=>x A s1 ρ1 L _ E hA r1 (fm.ext x1) fun ρ2 s2 mo r2 x2 h2=>?_) (hs L)
 refine wpAny_Slice (pl A s2 ρ2 L _ E hA r2 ((fm.ext x1).ext x2) fun ρ3 s3 ml r3 x3 h3=>pu A s3 ρ3 L _ E hA r3 (((fm.ext x1).ext x2).ext x3) fun ρ4 s4 mu r4 x4 h4=>?_)
 rw[evalPart_none]
 refine wp ?_
 have hv4:=x4.vr0 (x3.vr0 (x2.vr0 h1))
 refine o46 (r4.seqi e (x4.vr0 (x3.vr0 h2))) fun a d its n x0 hrow ea hvs sz hd=>?_;subst x0
 cases hv4 with|lst ev hav hlv=>
 rename_i av itv nv
 let o1:Obj:={ cls:=.type "slice",data:=.fields #[ml,mu,.none] }
 have rr:=r4.push' o1
 have xp:=aX r4 o1
 have X:=rr.kin B
 have ea':({ s4 with heap:=s4.heap.push o1 }:CA).heap.get? a=some (SqO C d its n):=gps _ ea
 have ev':({ s4 with heap:=s4.heap.push o1 }:CA).heap.IsList av itv:=⟨_,gps _ ev,rfl,nv,rfl⟩
 have hall:a∈ρ4.all:=Rho.mem_rows (List.mem_flatten.mpr ⟨_,LB hrow,by simp⟩)
 have szv:itv.size=new.length:=by rw[← hlv.length,QA]
 unfold setItem
 refine TA (wb (iH X ea' hc ?_))
 refine wb (eR X ea' hf slot_list_setitem.bind (gC aCY aBr slot_list_setitem.plain entry_list_setitem X ea' hc (args_list_setitem _ _ _) ?_))
 refine gF ea' rfl (Heap.IsSliceOf.new ..) h3 h4 ev' (fun z=>hav (z▸hall)) (by lia) ?_
 refine wp ?_
 refine o11 (lH (fun xs=>xs.extract 0 (SD lo hi none its.size).1.toNat++itv++xs.extract (max (SD lo hi none its.size).1 (SD lo hi none its.size).2.1).toNat xs.size) ea') fun n' hn'=>?_
 refine o03 (rr.seqUpd B (tk:=s4.toks) hrow (hd.move (fun o e=>gps _ e) xp.vr0) (QB _ a (Obj.mapSeq fun xs=>xs.extract 0 (SD lo hi none its.size).1.toNat++itv++xs.extract (max (SD lo hi none its.size).1 (SD lo hi none its.size).2.1).toNat xs.size)) hn' (l:=putl l new lo hi) (by
  rw[jU]
  exact (xp.vrs0 hvs).putl (xp.vrs0 hlv) lo hi)) fun r' x' x9=>?_
 have xx:=((((x1.trans x2).trans x3).trans x4).trans xp).trans x'
 exact q ρ4 _ .next r' (fm.ext xx) (xx.mono fun x9 z=>z.elim) .next
theorem oM(B:aC b){a0 a1:YA Expr}{lo hi:YA Int}(y:aE b h F e2 loc mem (.lst new) m1)(x:aE b h F e1 loc m1 (.obj i) m2)(pl:eN b h F a0 loc m2 lo m3)(pu:eN b h F a1 loc m3 hi m4)(e:m4[i]?= some (.lst l))
  (hz:l.length+new.length≤1000000) (hs:DA (∀L,swapsWith e2 (some (.Subscript e1 (.Slice a0 a1 none p2) p3)) pos.line (F L)=pure false) q8):
  aL b h F (.Assign [.Subscript e1 (.Slice a0 a1 none p2) p3] e2 pos) loc mem .next loc (m4.set i (.lst (putl l new lo hi))):=fun A s ρ L Q E hA r fm q=>by
 refine wpAny_Assign_Subscript (y A s ρ L _ E hA r fm fun ρ1 s1 mv r1 x1 h1=>x A s1 ρ1 L _ E hA r1 (fm.ext x1) fun ρ2 s2 mo r2 x2 h2=>?_) (hs L)
 refine wpAny_Slice (pl A s2 ρ2 L _ E hA r2 ((fm.ext x1).ext x2) fun ρ3 s3 ml r3 x3 h3=>pu A s3 ρ3 L _ E hA r3 (((fm.ext x1).ext x2).ext x3) fun ρ4 s4 mu r4 x4 h4=>?_)
 rw[evalPart_none]
 refine wp ?_
 have hv4:=x4.vr0 (x3.vr0 (x2.vr0 h1))
 refine o35 (r4.list e (x4.vr0 (x3.vr0 h2))) fun a its n x0 hrow ea hvs sz=>?_;subst x0
 cases hv4 with|lst ev hav hlv=>
 rename_i av itv nv
 let o1:Obj:={ cls:=.type "slice",data:=.fields #[ml,mu,.none] }
 have rr:=r4.push' o1
 have xp:=aX r4 o1
 have ea':IsL (s4.heap.push o1) a its n:=gps _ ea
 have hL:({ s4 with heap:=s4.heap.push o1 }:CA).heap.IsList a its:=⟨_,ea',rfl,n,rfl⟩
 have ev':({ s4 with heap:=s4.heap.push o1 }:CA).heap.IsList av itv:=⟨_,gps _ ev,rfl,nv,rfl⟩
 have hall:a∈ρ4.all:=Rho.mem_rows (List.mem_flatten.mpr ⟨_,LB hrow,by simp⟩)
 have szv:itv.size=new.length:=by rw[← hlv.length,QA]
 unfold setItem
 refine TA (wb (wpAny_sequenceKey hL.typeIs (by decide) ?_))
 refine wb (PD (name:=LD "__setitem__") hL.typeIs slot_list_setitem (OD slot_list_setitem hL.typeIs entry_list_setitem ?_ (args_list_setitem _ _ _)))
 refine gF ea' rfl (Heap.IsSliceOf.new ..) h3 h4 ev' (fun z=>hav (z▸hall)) (by lia) ?_
 refine wp ?_
 refine o03 (rr.listUpd B (tk:=s4.toks) hrow (QB _ a (Obj.mapSeq fun xs=>xs.extract 0 (SD lo hi none its.size).1.toNat++itv++xs.extract (max (SD lo hi none its.size).1 (SD lo hi none its.size).2.1).toNat xs.size)) (IsL.update ea' _) (l:=putl l new lo hi) (by
  rw[jU]
  exact (xp.vrs0 hvs).putl (xp.vrs0 hlv) lo hi)) fun r' x' x9=>?_
 have xx:=((((x1.trans x2).trans x3).trans x4).trans xp).trans x'
 exact q ρ4 _ .next r' (fm.ext xx) (xx.mono fun x9 z=>z.elim) .next
end
theorem aDa:Slot "method_descriptor" "__get__" "method_descriptor.__get__" :=.of (owner:="method_descriptor") (n:="__get__") (by rw[YD,MC];kernel_rfl) (by decide +kernel) (by decide +kernel) (by decide +kernel)
 (by rw[PySem.W.S.findZ_eq];first|exact .inl (by decide +kernel)|exact .inr (by decide +kernel)) (by rw[AF];kernel_rfl)
theorem aBy:EG table "method_descriptor.__get__" = some Builtin.«method_descriptor.__get__»:=KG (by kernel_rfl)
theorem aDb(a b c:BA):argsOk "method_descriptor.__get__" ⟨[a,b,c],[]⟩:=by unfold argsOk;rw[PySem.W.S.signatureZ_eq];kernel_rfl
theorem vR:Slot "wrapper_descriptor" "__get__" "wrapper_descriptor.__get__" :=.of (owner:="wrapper_descriptor") (n:="__get__") (by rw[YD,MC];kernel_rfl) (by decide +kernel) (by decide +kernel) (by decide +kernel)
 (by rw[PySem.W.S.findZ_eq];first|exact .inl (by decide +kernel)|exact .inr (by decide +kernel)) (by rw[AF];kernel_rfl)
theorem sQ:EG table "wrapper_descriptor.__get__" = some Builtin.«wrapper_descriptor.__get__»:=KG (by kernel_rfl)
theorem vS(a b c:BA):argsOk "wrapper_descriptor.__get__" ⟨[a,b,c],[]⟩:=by unfold argsOk;rw[PySem.W.S.signatureZ_eq];kernel_rfl
theorem aEu:typeOf (.builtin "list.pop")=pure (.type "method_descriptor"):=by show builtinType _=_;rw[builtinType_eq_fast];kernel_rfl
theorem aEv:typeOf (.builtin "list.__len__")=pure (.type "wrapper_descriptor"):=by show builtinType _=_;rw[builtinType_eq_fast];kernel_rfl
theorem aDc:typeOf (.builtin "list.__init__")=pure (.type "wrapper_descriptor"):=by show builtinType _=_;rw[builtinType_eq_fast];kernel_rfl
section
variable {prog:RC}{w:HD}{A:XA}{E:BA→CA→Prop}{x C:EA}{Q:Fin→CA→Prop}
theorem aBz:Manifest.toldItsClass.contains "list.pop" = false:=by decide +kernel
theorem aDd{hp:PB}{g:RA UE}{dd:Drawn}{t:Nat}{os:QG}{d:EA}{its:RA BA}{n:Nat}(ea:hp.get? x=some (SqO C d its n))(a0:EC (model prog w) hp (VF (.ref C) (.type "list")) true)
  (hq:Q (.done (.ret (.ref hp.objs.size))) ⟨hp.push { cls:=.type "builtin_function_or_method",data:=.fields #[.builtin "list.pop",.ref x] },g,dd,t,os⟩):
  FA (model prog w) A (Builtin.«method_descriptor.__get__» ⟨[.builtin "list.pop",.ref x,.ref C],[]⟩) Q E ⟨hp,g,dd,t,os⟩:=by
 have ht:=aBz
 unfold Builtin.«method_descriptor.__get__»
 refine wb (IC (a:=(Value.builtin "list.pop",some (.ref x),some (.ref C))) rfl ?_)
 dsimp only
 rw[ht]
 refine dZ KE ?_
 have hi:EC (model prog w) hp (typeOf (.ref x)) (.ref C):=(Looks.ld ea).andThen .now
 have key:∀{T:String}{Q':NB→CA→Prop},T="list" →Q' true ⟨hp,g,dd,t,os⟩→FA (model prog w) A (VF (.ref C) (.type T)) Q' E ⟨hp,g,dd,t,os⟩:=fun e q=>by subst e;exact a0.here q
 clear a0
 repeat (first|(with_reducible refine key (by decide +kernel) ?_)|refine dZ (by simp only[Bool.not_true,YB,UF]) ?_|lk)
 exact hq
theorem aDe{hp:PB}{g:RA UE}{dd:Drawn}{t:Nat}{os:QG}{d:EA}{its:RA BA}{n:Nat}(ea:hp.get? x=some (SqO C d its n))(a0:EC (model prog w) hp (VF (.ref C) (.type "list")) true)
  (hq:Q (.done (.ret (.ref hp.objs.size))) ⟨hp.push { cls:=.type "method-wrapper",data:=.fields #[.builtin "list.__len__",.ref x] },g,dd,t,os⟩):
  FA (model prog w) A (Builtin.«wrapper_descriptor.__get__» ⟨[.builtin "list.__len__",.ref x,.ref C],[]⟩) Q E ⟨hp,g,dd,t,os⟩:=by
 unfold Builtin.«wrapper_descriptor.__get__»
 refine wb (IC (a:=(Value.builtin "list.__len__",some (.ref x),some (.ref C))) rfl ?_)
 dsimp only
 have hi:EC (model prog w) hp (typeOf (.ref x)) (.ref C):=(Looks.ld ea).andThen .now
 have key:∀{T:String}{Q':NB→CA→Prop},T="list" →Q' true ⟨hp,g,dd,t,os⟩→FA (model prog w) A (VF (.ref C) (.type T)) Q' E ⟨hp,g,dd,t,os⟩:=fun e q=>by subst e;exact a0.here q
 clear a0
 repeat (first|(with_reducible refine key (by decide +kernel) ?_)|refine dZ (by simp only[Bool.not_true,YB,UF]) ?_|lk)
 exact hq
theorem aBA{hp:PB}{g:RA UE}{dd:Drawn}{t:Nat}{os:QG}{d:EA}{its:RA BA}{n:Nat}(ea:hp.get? x=some (SqO C d its n))(a0:EC (model prog w) hp (VF (.ref C) (.type "list")) true)
  (hq:Q (.done (.ret (.ref hp.objs.size))) ⟨hp.push { cls:=.type "method-wrapper",data:=.fields #[.builtin "list.__init__",.ref x] },g,dd,t,os⟩):
  FA (model prog w) A (Builtin.«wrapper_descriptor.__get__» ⟨[.builtin "list.__init__",.ref x,.ref C],[]⟩) Q E ⟨hp,g,dd,t,os⟩:=by
 unfold Builtin.«wrapper_descriptor.__get__»
 refine wb (IC (a:=(Value.builtin "list.__init__",some (.ref x),some (.ref C))) rfl ?_)
 dsimp only
 have hi:EC (model prog w) hp (typeOf (.ref x)) (.ref C):=(Looks.ld ea).andThen .now
 have key:∀{T:String}{Q':NB→CA→Prop},T="list" →Q' true ⟨hp,g,dd,t,os⟩→FA (model prog w) A (VF (.ref C) (.type T)) Q' E ⟨hp,g,dd,t,os⟩:=fun e q=>by subst e;exact a0.here q
 clear a0
 repeat (first|(with_reducible refine key (by decide +kernel) ?_)|refine dZ (by simp only[Bool.not_true,YB,UF]) ?_|lk)
 exact hq
variable {h:PB}{g:RA UE}{d:Drawn}{t:Nat}{os:QG}{so D:EA}{l₀ l:AA BA}{K:Frag}{name:Str}{id T gid BT:String}{gb:Builtin}
theorem aBB{tk:Tok}{Q:Fin→CA→Prop}(hso:h.get? so=some { cls:=.type "super",dict:=none,data:=.fields #[.ref D,.ref x,.ref C],slots:=#[] })(hno:EC (model prog w) h (opaqueClassAbove (.ref C)) none)
  (hC:EC (model prog w) h (mroOf (.ref C)) l₀) (hl:(l₀.dropWhile (· != .ref D)).drop 1=l) (X:K.In h) (hf:alongIn K name l=some (some (.builtin id))) (hT:typeOf (.builtin id)=pure (.type T)) (sl:Slot T "__get__" gid) (en:EG table gid=some gb) (ar:∀a b c,argsOk gid ⟨[a,b,c],[]⟩)
  (hg:∀{A:XA}{E:BA→CA→Prop}{Q:Fin→CA→Prop},Q (.done (.ret (.ref h.objs.size))) ⟨h.push { cls:=.type BT,data:=.fields #[.builtin id,.ref x] },g,d,t,os⟩→FA (model prog w) A (gb ⟨[.builtin id,.ref x,.ref C],[]⟩) Q E ⟨h,g,d,t,os⟩)
  (hxC:x≠C) (hn:(name == ("__class__" : Str))=false) (hq:Q (.done (.ret (.ref h.objs.size))) ⟨h.push { cls:=.type BT,data:=.fields #[.builtin id,.ref x] },g,d,t,os⟩):
  FA (model prog w) A (Builtin.«super.__getattribute__» ⟨[.ref so,.str name tk],[]⟩) Q E ⟨h,g,d,t,os⟩:=by
 have hlk:=sl.lookup
 have hne:(Value.ref x == Value.ref C)=false:=by simp[hxC]
 have hTf:(⟨h,g,d,t,os⟩:CA).TypeIs (.builtin id) T:=hT
 have hdt:({ cls:=.type "super",dict:=none,data:=.fields #[.ref D,.ref x,.ref C],slots:=#[] }:Obj).data=.fields #[.ref D,.ref x,.ref C]:=rfl
 have f0:(#[.ref D,.ref x,.ref C]:RA BA)[0]?= some (.ref D):=rfl
 have f1:(#[.ref D,.ref x,.ref C]:RA BA)[1]?= some (.ref x):=rfl
 have f2:(#[.ref D,.ref x,.ref C]:RA BA)[2]?= some (.ref C):=rfl
 unfold Builtin.«super.__getattribute__»
 repeat (first
  | (with_reducible refine AC hso hdt f0 ?_)|(with_reducible refine AC hso hdt f1 ?_)|(with_reducible refine AC hso hdt f2 ?_)
  | (with_reducible refine ks_wpAny_notOpaque hno ?_)
  | (with_reducible refine Looks.at hC ?_;rw[hl])
  | (refine ks_forIn_along X (fun x9 x9=>rfl) rfl ?_ hf)
  | (with_reducible refine NF hTf ?_)
  | (with_reducible refine OD sl hTf en ?_ (ar _ _ _))
  | (with_reducible refine hg ?_)
  | (with_reducible refine ⟨_,rfl,?_⟩)
  | (simp only[hn,hne,Bool.or_false,YB,CG])
  | wp_step
  | dsimp only)
 all_goals exact hq
theorem mG{pl:Sem NB}{Q:BA×AA BA→CA→Prop}(hso:h.get? so=some { cls:=.type "super",dict:=none,data:=.fields #[.ref D,.ref x,.ref C],slots:=#[] })(hno:EC (model prog w) h (opaqueClassAbove (.ref C)) none)
  (hC:EC (model prog w) h (mroOf (.ref C)) l₀) (hl:(l₀.dropWhile (· != .ref D)).drop 1=l) (X:K.In h) (hf:alongIn K name l=some (some (.builtin id))) (hT':typeOf (.builtin id)=pure (.type T)) (sl:Slot T "__get__" gid) (en:EG table gid=some gb) (ar:∀a b c,argsOk gid ⟨[a,b,c],[]⟩)
  (hg:∀{t:Nat}{A:XA}{E:BA→CA→Prop}{Q:Fin→CA→Prop},Q (.done (.ret (.ref h.objs.size))) ⟨h.push { cls:=.type BT,data:=.fields #[.builtin id,.ref x] },g,d,t,os⟩→FA (model prog w) A (gb ⟨[.builtin id,.ref x,.ref C],[]⟩) Q E ⟨h,g,d,t,os⟩)
  (hxC:x≠C) (hn:(name == ("__class__" : Str))=false) (hq:Q (.ref h.objs.size,[]) ⟨h.push { cls:=.type BT,data:=.fields #[.builtin id,.ref x] },g,d,t+1,os⟩):
  FA (model prog w) A (getMethod (.ref so) name pl) Q E ⟨h,g,d,t,os⟩:=by
 have hlk:=PySem.F.ks_slot_super_ga.lookup
 have hcan:=PySem.F.ks_canon_super_ga
 have hT:∀t',(⟨h,g,d,t',os⟩:CA).TypeIs (.ref so) "super" :=fun x9=>⟨_,hso,rfl⟩
 unfold getMethod
 refine wb (CF (hT _) hlk ?_)
 show FA _ _ (if (Manifest.canonical "super.__getattribute__" != "object.__getattribute__")=true then _ else _) _ _ _
 rw[OB hcan]
 unfold getAttr getAttrBy
 refine wb (wb (wpAny_mkText (TA (wb (NF (hT _) (wb (IC hlk ?_)))))))
 show FA _ _ (getAttrByItsOwn (.ref so) (.str name t) (.type "super") (.builtin "super.__getattribute__") true false) _ _ _
 unfold getAttrByItsOwn hookBefore callGetattribute boundAndCalled
 refine wb (IC (show (if onTheHeap (.type "super") then typeLookup (.type "super") "__getattr__" else pure none)=pure none from rfl) ?_)
 refine wb (NE (TA ?_))
 show FA _ _ (bindSpecial (.builtin "super.__getattribute__") (.ref so)>>=_) _ _ _
 refine wb (IC (PySem.F.ks_slot_super_ga.bind _) ?_)
 refine CB (Q:=fun v s'=>v=.ref h.objs.size∧s'=⟨h.push { cls:=.type BT,data:=.fields #[.builtin id,.ref x] },g,d,t+1,os⟩) (E:=fun x9 x9=>False)
  (OD PySem.F.ks_slot_super_ga (hT _) PySem.F.ks_entry_super_ga (aBB hso hno hC hl X hf hT' sl en ar (fun q=>hg q) hxC hn ⟨_,rfl,rfl,rfl⟩) (PySem.F.ks_gaArgs_super _ _)) (fun v s' hv=>?_) fun x9 x9 z=>z.elim
 refine o02 hv fun x0 x1=>?_;clear hv;subst x0;subst x1
 exact wp (wp hq)
end
section
variable {prog:RC}{w:HD}{A:XA}{E:BA→CA→Prop}{s:CA}{bm:EA}{Q:BA→CA→Prop}
theorem wZ{id BT:String}{bi:Builtin}{x:BA}(hb:s.heap.get? bm=some { cls:=.type BT,dict:=none,data:=.fields #[.builtin id,x],slots:=#[] })(hBT:BT="builtin_function_or_method" ∨BT="method-wrapper")(hc:FA (model prog w) A.in1 (OE id ⟨[x],[]⟩) (fun x9 s'=>s'=s) (fun x9 x9=>False) s)
  (pl:plainId id=true) (en:EG table id=some bi)
  (h:FA (model prog w) A.in1 (bi ⟨[x],[]⟩) (fun fin s'=>∃v,fin=.done (.ret v)∧Q v s') E s):FA (model prog w) A (call (.ref bm) []) Q E s:=by
 refine CE (codeAny_of_tree ?_)
 show FA _ A.in1 (callAny (.ref bm) ⟨[],[]⟩) _ _ _
 unfold callAny
 refine wb (PH hb ?_)
 have go:FA (model prog w) A.in1 (OE id ⟨[x],[]⟩>>=fun x9=>again (.builtin id ⟨[x],[]⟩)) (fun fin s'=>match fin with
   | .done f=>wants Q E (.ok f) s'
   | .again c'=>c'.quiet=true∧codeAny (model prog w) A c' (wants Q E) s') (fun e s'=>wants Q E (.error e) s') s:=by
  refine wb (CB hc (fun x9 s' hs=>?_) fun x9 x9 z=>z.elim)
  subst hs
  refine wp ⟨plainId_quiet pl _,TH en ?_⟩
  rw[GF pl _]
  refine CB h (fun fin s' z=>?_) fun x9 x9 z=>z
  obtain ⟨v,rfl,z⟩:=z
  exact z
 rcases hBT with rfl|rfl <;> exact go
end
theorem aDf:UH "list.pop" = some ⟨.positional,"list.pop","pop",.self,[⟨"index",.posOnly,false⟩]⟩:=by rw[PySem.W.S.signatureZ_eq];kernel_rfl
theorem uO:Manifest.varargsMethods.contains "list.pop" = false:=by decide +kernel
theorem aDg:KD "list.pop" = some .method:=by decide +kernel
theorem aDh:KD "list.__len__" = some .slot:=by decide +kernel
theorem aBC:KD "list.__init__" = some .slot:=by decide +kernel
theorem aBD:Bind.lastOf "list.pop" = "pop" :=by decide +kernel
theorem qW(a0:String)(hf:(a0 != "*")=true)(x:BA):Bind.checkArgs "list.pop" ⟨.positional,a0,"pop",.self,[⟨"index",.posOnly,false⟩]⟩ ⟨[x],[]⟩=pure ():=by
 unfold Bind.checkArgs Bind.printed
 simp only[hf,if_true]
 rfl
theorem aDi(own:String):((toString own++toString "." ++toString "pop") != "*")=true:=by
 rw[bne_iff_ne]
 intro h
 have:=RB String.length h
 simp only[String.length_append] at this
 have h1:(toString "." : String).length=1:=by decide
 have h2:(toString "pop" : String).length=3:=by decide
 have h3:("*" : String).length=1:=by decide
 lia
section
variable {M:WH}{A:XA}{E:BA→CA→Prop}{h:PB}{g:RA UE}{dd:Drawn}{t:Nat}{os:QG}{K:Frag}{a C d:EA}{its:RA BA}{n:Nat}
theorem lS{id:String}{x:BA}{s:CA}{Q:Unit→CA→Prop}(hk:KD id=some .slot)(ha:argsOk id ⟨[x],[]⟩)(q:Q () s):FA M A (OE id ⟨[x],[]⟩) Q E s:=by
 unfold OE
 cases hsig:UH id with
 | none=>exact wp q
 | some sig=>
  simp only[argsOk,hsig] at ha
  have h2:Bind.checkArgs id sig ⟨[x],[]⟩=pure ():=ha
  simp only[hk,h2]
  exact wp q
theorem xA{Q:Unit→CA→Prop}(X:K.In h)(ea:h.get? a=some (SqO C d its n))(a1:mroIn K C (.type "module")=some false)(a0:∃o cd,K.lookup C=some o∧o.data=.cls cd∧o.cls=.type "type")(q:Q () ⟨h,g,dd,t,os⟩):
  FA M A (OE "list.pop" ⟨[.ref a],[]⟩) Q E ⟨h,g,dd,t,os⟩:=by
 refine o23 a0 fun o cd ho hd hc=>?_;clear a0
 unfold OE
 rw[aDf]
 dsimp only
 rw[aDg]
 dsimp only
 rw[AB (by decide)]
 have hm:EC M h (isInstance (.ref a) (.type "module")) false:=(kJ (s:=⟨h,g,dd,t,os⟩) M ea).andThen (BH X a1)
 refine wb (Looks.here (s:=⟨h,g,dd,t,os⟩) hm ?_)
 rw[uO,aBD]
 simp only[Bool.or_false,YB,CG]
 refine wb (ks_wpAny_isType_inst ea (fun c z=>nomatch z) ?_)
 simp only[YB,CG]
 refine wb (Looks.here (s:=⟨h,g,dd,t,os⟩) (kJ (s:=⟨h,g,dd,t,os⟩) M ea) ?_)
 dsimp only
 unfold classData
 refine wb (wb (PH (s:=⟨h,g,dd,t,os⟩) (X _ _ ho) ?_))
 rw[hd]
 refine wp ?_
 have hct:EC M h (typeOf (.ref C)) (.type "type"):=by
  rw[← hc]
  exact (Looks.ld (X _ _ ho)).andThen .now
 refine wb (Looks.here (s:=⟨h,g,dd,t,os⟩) hct ?_)
 rw[qW _ (aDi _)]
 exact wp q
end
section
variable (b:Bs)(h:Nat)(G F:EA→Env)(body:AA VD)
noncomputable def EvalW(e:Expr)(loc:AA (Str×AV))(mem:AA AO)(v:AV)(mem':AA AO):Prop:=
 ∀(A:XA) (s:CA) (ρ:Rho) (L:EA) (Q:BA→CA→Prop) (E:BA→CA→Prop),Ht h A→R b ρ mem s→Fm b L (F L).cells ρ loc s→
  (∀ρ' s' mv,R b ρ' mem' s'→Ext NoS ρ s ρ' s'→VR s'.heap ρ' v mv→Q mv s')→PySem.wpAt b.M A (.func body (G L)) (eval e (G L)) Q E s
noncomputable def ExecW(l:AA VD)(loc:AA (Str×AV))(mem:AA AO)(out:AOut)(loc':AA (Str×AV))(mem':AA AO):Prop:=
 ∀(A:XA) (s:CA) (ρ:Rho) (L:EA) (Q:Flow→CA→Prop) (E:BA→CA→Prop),Ht h A→R b ρ mem s→Fm b L (F L).cells ρ loc s→
  (∀ρ' s' fl,R b ρ' mem' s'→Fm b L (F L).cells ρ' loc' s'→Ext (bJ L (F L).cells) ρ s ρ' s'→FlR s'.heap ρ' out fl→Q fl s')→PySem.wpAt b.M A (.func body (G L)) (execs l (G L)) Q E s
end
section
variable {b:Bs}{h:Nat}{G F:EA→Env}{body:AA VD}{loc loc' loc'':AA (Str×AV)}{mem m1 m2:AA AO}{v:AV}{out:AOut}{e:Expr}{st:VD}{l:AA VD}{pos:Pos}
theorem vT(x:aL b h F st loc mem .next loc' m1)(y:ExecW b h G F body l loc' m1 out loc'' m2)(he:DA (∀L,exec st (G L)=exec st (F L)) q8):ExecW b h G F body (st :: l) loc mem out loc'' m2:=fun A s ρ L Q E hA r f q=>
 ks_wpAt_execs_cons (wpAt_of_wpAny (by
  rw[he L]
  refine x A s ρ L _ E hA r f fun ρ' s' fl r' f' e' o=>?_
  cases o
  exact y A s' ρ' L Q E hA r' f' fun ρ'' s'' fl r'' f'' e'' o=>q ρ'' s'' fl r'' f'' (e'.trans e'') o))
theorem aDj(x:aL b h F st loc mem out loc' m1)(ho:out≠.next)(he:DA (∀L,exec st (G L)=exec st (F L)) q8):ExecW b h G F body (st :: l) loc mem out loc' m1:=fun A s ρ L Q E hA r f q=>
 ks_wpAt_execs_cons (wpAt_of_wpAny (by
  rw[he L]
  refine x A s ρ L _ E hA r f fun ρ' s' fl r' f' e' o=>?_
  cases o with
  | next=>exact absurd rfl ho
  | _=>exact q ρ' s' _ r' f' e' (by constructor <;> assumption)))
theorem zW(x:EvalW b h G F body e loc mem v m1):ExecW b h G F body [.Return (some e) pos] loc mem (.ret v) loc m1:=fun A s ρ L Q E hA r f q=>
 ks_wpAt_execs_cons (ks_wpAt_Return_some (x A s ρ L _ E hA r f fun ρ' s' mv r' e' hv=>q ρ' s' _ r' (f.ext e') (e'.mono fun x9 z=>z.elim) (.ret hv)))
theorem aDk(x:EvalW b h G F body e loc mem v m1)(hi:DA (∀L,interactive (G L)=false) q8)(hs:DA (∀L,swapsWith e none pos.line (G L)=pure false) q8):ExecW b h G F body [.Expr e pos] loc mem .next loc m1:=fun A s ρ L Q E hA r f q=>
 ks_wpAt_execs_cons (ks_wpAt_Expr_any (x A s ρ L _ E hA r f fun ρ' s' mv r' e' hv=>wpAt_of_wpAny (wpAny_execs_nil (q ρ' s' .next r' (f.ext e') (e'.mono fun x9 z=>z.elim) .next))) (hi L) (hs L))
theorem sR(B:aC b){f:EA}{fd:BD}{oc:BA}{od:YA EA}{osl:RA (YA BA)}{xs:AA Str}{args:AA AV}
  (ho:b.K.lookup f=some ⟨oc,od,.func fd,osl⟩) (hcd:codeIn b.K fd.code fd.qualname=true) (hb:fd.body=.stmts body)
  (hbind:∀mvs:AA BA,mvs.length=args.length→∀s:CA,b.K.In s.heap→BindsTo s fd ⟨mvs,[]⟩ (xs.zip mvs)) (nd:xs.Nodup) (hl:xs.length=args.length)
  (hcell:∀x∈fd.scope.names,x.2≠.cell) (hloc:∀x∈xs,fd.scope.names.lookup x=some .local)
  (hco:fd.scope.isCoroutine=false) (hgen:fd.scope.isGenerator=false) (hk:fd.scope.kind=.function)
  (hx:ExecW b h (fun L=>KC fd L f) (fun L=>{ KC fd L f with cells:=[] }) body body (bindsL xs args) mem out loc' m1):bS b (h+1) (.ref f) args [] [] mem (retOf out) m1:=fun A s ρ mvs mks Q E hA r hv hkv q=>by
 have X:=r.kin B
 rw[show (([]:AA Str).zip mks)=[] from rfl]
 refine ks_codeAny_call_defAt (fd:=fd) (body:=body) (binds:=xs.zip mvs) hA.depth (X _ _ ho) rfl r.lim (codeRec_of X hcd) hb (hbind mvs hv.length s X) hcell
  (fun x hx=>hloc x.1 (DD (a:=x.1) (b:=x.2) hx).1) (fun h₀ hns hkp=>?_) hco hgen hk
 have e0:s.heap.get? s.heap.objs.size=none:=aP (MA _)
 have x0:Ext NoS ρ s ρ { s with heap:=h₀,toks:=s.toks+(xs.zip mvs).length }:=Ext.of_keeps _ _ hkp
 have r0:R b ρ mem { s with heap:=h₀,toks:=s.toks+(xs.zip mvs).length }:=r.keeps hkp s.gens r.bare s.drawn _
 refine ks_wpAt_mono (hx (A.deeper (KC fd s.heap.objs.size f)) _ ρ s.heap.objs.size _ _ (hA.deeper _) r0
  (Fm.plain rfl hns (fun hm=>JB _ (r.lt hm)) r.fresh (dA xs args mvs (x0.vrs0 hv) nd)) fun ρ' s' fl r' f' x' o=>?_) (fun fl s' z=>z) fun x9 x9 z=>z
 have xx:Ext NoS ρ s ρ' s':=by
  refine ⟨fun c oc e x9 hc kq=>x'.keep c oc (hkp c oc e) (fun q=>by
   rcases q with rfl|⟨p,hp,_⟩
   ·rw[e0] at e;cases e
   ·cases hp) hc kq,x'.pre,fun a ha=>?_,x'.hid,fun c oc e=>x'.live c oc (hkp c oc e)⟩
  rcases x'.new a ha with z|z
  ·exact .inl z
  ·right
   cases e:s.heap.get? a with
   | none=>rfl
   | some o=>have:=hkp a o e;rw[z] at this;cases this
 cases o with
 | ret e=>exact q ρ' s' _ r' xx e
 | _=>exact q ρ' s' _ r' xx .none
end
structure SupB(M:WH)(id T gid BT:String)(gb bi:Builtin):Prop where
 ty:typeOf (.builtin id)=pure (.type T)
 sl:Slot T "__get__" gid
 en:EG table gid=some gb
 ar:∀a b c,argsOk gid ⟨[a,b,c],[]⟩
 bt:BT="builtin_function_or_method" ∨BT="method-wrapper"
 pl:plainId id=true
 ei:EG table id=some bi
theorem aBE{prog:RC}{w:HD}:SupB (model prog w) "list.pop" "method_descriptor" "method_descriptor.__get__" "builtin_function_or_method" Builtin.«method_descriptor.__get__» Builtin.«list.pop»:=⟨aEu,aDa,aBy,aDb,.inl rfl,PySem.F.slot_list_pop.plain,PySem.F.entry_list_pop⟩
theorem aBF{prog:RC}{w:HD}:SupB (model prog w) "list.__len__" "wrapper_descriptor" "wrapper_descriptor.__get__" "method-wrapper" Builtin.«wrapper_descriptor.__get__» Builtin.«list.__len__»:=⟨aEv,vR,sQ,vS,.inr rfl,PySem.F.slot_list_len.plain,PySem.F.entry_list_len⟩
theorem zX{prog:RC}{w:HD}:SupB (model prog w) "list.__init__" "wrapper_descriptor" "wrapper_descriptor.__get__" "method-wrapper" Builtin.«wrapper_descriptor.__get__» Builtin.«list.__init__»:=⟨aDc,vR,sQ,vS,.inr rfl,PySem.F.slot_list_init.plain,PySem.F.entry_list_init⟩
noncomputable def supFile(b:Bs)(cda:EA):Prop:=∃ccl cdd vs ccs file tf,b.K.lookup cda=some ⟨ccl,cdd,.fields vs,ccs⟩∧vs[2]?= some (.str file tf)∧((b.prog.main.file:Str) == file)=true∧(b.prog.main.scope.names.lookup ("super" : Str)).isSome=false
section
variable {b:Bs}{h:Nat}{body:AA VD}{loc:AA (Str×AV)}{mem m1:AA AO}{v:AV}{pos p0 p1 apos:Pos}{i:Nat}{C D:EA}{at_:AA (Str×AV)}{l:AA AV}
theorem mH(B:aC b){f cda cc:EA}{fd:BD}{oc cl:BA}{od cld:YA EA}{osl csl:RA (YA BA)}{ar:Arg}{cdD:ClassData}{name:Str}{id T gid BT:String}{gb bi:Builtin}
  (ho:b.K.lookup f=some ⟨oc,od,.func fd,osl⟩) (har:(fd.params.posonlyargs++fd.params.args).head?= some ar) (hcode:fd.code=.ref cda) (hfile:supFile b cda)
  (hclo:fd.closure=[(("__class__" : Str),cc)]) (hcell:b.K.lookup cc=some ⟨cl,cld,.cell (some (.ref D)),csl⟩) (hD:clsIn b.K D=some cdD) (hsub:mroIn b.K C (.ref D)=some true) (hsuper:nsIn b.K TB "super" = some none)
  (hks:fd.scope.names.lookup ("super" : Str)=some .globalImplicit) (hkc:fd.scope.names.lookup ("__class__" : Str)=some .free) (hka:fd.scope.names.lookup ar.arg=some .local) (hk:fd.scope.kind=.function)
  (hgl:fd.globals=TB) (hbl:fd.builtins=DC)
  (hx:loc.lookup ar.arg=some (.obj i)) (hm:mem[i]?= some (.inst C (some l) at_)) (hc:seqCls b.K C=true) (hopq:nsIn b.K cStatics "thirdparty.any" = some none) (hsi:ks_superIn b.K C D name=some (some (.builtin id))) (hcls:(clsIn b.K C).isSome=true) (hn:(name == ("__class__" : Str))=false)
  (S:SupB b.M id T gid BT gb bi)
  (hget:∀{A:XA}{E:BA→CA→Prop}{Q:Fin→CA→Prop}{x d:EA}{its:RA BA}{n:Nat}{hp:PB}{g:RA UE}{dd:Drawn}{t:Nat}{os:QG},hp.get? x=some (SqO C d its n)→EC b.M hp (VF (.ref C) (.type "list")) true→
   Q (.done (.ret (.ref hp.objs.size))) ⟨hp.push { cls:=.type BT,data:=.fields #[.builtin id,.ref x] },g,dd,t,os⟩→FA b.M A (gb ⟨[.builtin id,.ref x,.ref C],[]⟩) Q E ⟨hp,g,dd,t,os⟩)
  (hchk:∀{A:XA}{E:BA→CA→Prop}{Q:Unit→CA→Prop}{x d:EA}{its:RA BA}{n:Nat}{s:CA},b.K.In s.heap→s.heap.get? x=some (SqO C d its n)→Q () s→FA b.M A (OE id ⟨[.ref x],[]⟩) Q E s)
  (run:∀{A:XA}{s:CA}{ρ:Rho}{a d:EA}{its:RA BA}{n:Nat}{Q:BA→CA→Prop}{E:BA→CA→Prop},R b ρ mem s→ρ.rows[i]?= some [a,d]→s.heap.get? a=some (SqO C d its n)→VRs s.heap ρ l its.toList→its.size=l.length→NsR s.heap ρ d at_→
   (∀s' mv,R b ρ m1 s'→Ext NoS ρ s ρ s'→VR s'.heap ρ v mv→Q mv s')→FA b.M A (bi ⟨[.ref a],[]⟩) (fun fin s'=>∃v,fin=.done (.ret v)∧Q v s') E s)
  (he:∀L,∃pl,eval (.Call (.Attribute (.Call (.Name "super" p0) [] [] p1) name apos) [] [] pos) (KC fd L f)=(do
   let ov ← attributeBase (.Call (.Name "super" p0) [] [] p1) name (KC fd L f) (eval (.Call (.Name "super" p0) [] [] p1) (KC fd L f))
   standAt apos.atName
   let (f',first) ← holding [ov] (getMethod ov name (pl:Sem NB))
   callWith pos f' first (backTo pos (LC [] (KC fd L f))) [])):
  EvalW b h (fun L=>KC fd L f) (fun L=>{ KC fd L f with cells:=[] }) body (.Call (.Attribute (.Call (.Name "super" p0) [] [] p1) name apos) [] [] pos) loc mem v m1:=fun A s ρ L Q E hA r fm q=>by
 refine o11 (he L) fun pl he=>?_
 refine o41 hfile fun ccl cdd vs ccs x0=>?_;clear hfile;refine o24 x0 fun file tf hcda hvs hfl htop=>?_;clear x0
 have X:=r.kin B
 refine o12 fm.ns fun m hns hmm=>?_
 have z:=hmm _ _ hx
 unfold bO at z
 rw[show (({ KC fd L f with cells:=[] }:Env).cells).lookup ar.arg=none from rfl] at z
 refine o12 z fun mv z1 z2=>?_;clear z
 refine o46 (r.seqi hm z2) fun a d its n x0 hrow ea hvs' sz hd=>?_;subst x0
 obtain ⟨oD,hD1,hD2⟩:∃oD,s.heap.get? D=some oD∧oD.data=.cls cdD:=by
  unfold clsIn at hD
  split at hD
  ·rename_i c d cd' sl ho
   replace hD:=si hD;subst hD
   exact ⟨_,X _ _ ho,rfl⟩
  ·cases hD
 refine o11 (Option.isSome_iff_exists.mp hcls) fun cdC hcC=>?_
 have hsubL:mroIn b.K C (.type "list")=some true:=by
  unfold seqCls at hc
  simp only[VA,UD] at hc
  exact hc.1
 have hxC:a≠C:=by
  rintro rfl
  unfold clsIn at hcC
  split at hcC
  ·rename_i c d cd' sl ho
   have e:=X _ _ ho
   rw[ea] at e;cases e
  ·cases hcC
 refine o12 (r.boot B) fun mb hb hb2=>?_
 refine ks_wpAt_MethodCall ?_ he
 refine ks_wpAt_super_base (env:=KC fd L f) hks hkc hn rfl (X _ _ ho) rfl har hcode (X _ _ hcda) rfl hvs hfl htop ?_
 refine ks_loadName_global hk hks ?_
 unfold loadGlobal
 show FA _ _ (nsGet fd.globals "super" >>=_) _ _ _
 rw[hgl]
 refine wb ((looks_nsIn X hsuper).here ?_)
 show FA _ _ (nsGet fd.builtins "super" >>=_) _ _ _
 rw[hbl]
 refine wb (wpAny_nsGet hb ?_)
 rw[hb2 _ (by decide),show HG "super" = some (.type "super") from Boot.super]
 refine wp ⟨rfl,?_⟩
 refine wpAny_loadName_free hk hkc (by show fd.closure.lookup _=_;rw[hclo];rfl) ⟨_,X _ _ hcell,rfl⟩ ?_
 refine AH hk hka hns z1 ?_
 refine ks_wpAny_isType_cls hD1 hD2 ⟨rfl,?_⟩
 refine ks_wpAny_call_super hD1 hD2 ea rfl (fun c z=>nomatch z) (BH X hsub) (fun h' e1 k1=>?_)
 have r1:R b ρ mem { s with heap:=h' }:=r.keeps k1 s.gens r.bare s.drawn s.toks
 have X1:b.K.In h':=r1.kin B
 have ea1:=k1 _ _ ea
 have hsi':alongIn b.K name ((cdC.mro.dropWhile (· != .ref D)).drop 1)=some (some (.builtin id)):=by
  unfold ks_superIn at hsi
  rw[hcC] at hsi
  exact hsi
 refine mG (d:=s.drawn) (BT:=BT) e1 (looks_opaque X1 hopq) (l₀:=cdC.mro) (fun A Q E s k q=>wb ((EF X1 hcC) A _ E s k (wp q))) rfl X1 hsi' S.ty S.sl S.en S.ar (fun q=>hget ea1 (BH X1 hsubL) q) hxC hn ?_
 let ob:Obj:={ cls:=.type BT,data:=.fields #[.builtin id,.ref a] }
 have hbm:(h'.push ob).get? h'.objs.size=some ob:=gpz _ rfl
 have k2:∀c o,s.heap.get? c=some o→(h'.push ob).get? c=some o:=fun c o e=>gps _ (k1 c o e)
 have x2:Ext NoS ρ s ρ { s with heap:=h'.push ob,toks:=s.toks+1 }:=Ext.of_keeps _ _ k2
 have r2:R b ρ mem { s with heap:=h'.push ob,toks:=s.toks+1 }:=r.keeps k2 s.gens r.bare s.drawn _
 refine NH (P:=fun hp=>hp.get? h'.objs.size=some ob) rfl (fun hp e=>⟨.machine,.inr (.inl rfl),?_⟩) ?_
 ·intro A Q E s k q
  unfold keeperOf
  refine wb (PH (k _ _ e) ?_)
  rcases S.bt with rfl|rfl <;> exact wp q
 unfold evalArgs
 show FA b.M A (spliced (backTo pos (LC [] (KC fd L f)))>>=_) _ E _
 refine wb (QE (wb (wp (TA (wb (wp (wp ⟨hbm,?_⟩)))))))
 refine wZ (x:=.ref a) hbm S.bt (hchk (r2.kin B) (k2 _ _ ea) rfl) S.pl S.ei ?_
 exact run r2 hrow (k2 _ _ ea) (x2.vrs0 hvs') sz (hd.move (fun o e=>k2 _ _ e) x2.vr0) fun s' mv r' x' h'=>q ρ s' mv r' (x2.trans x') h'
variable {k:Nat}{f:EA}{sq:YA (AA AV)}
theorem Ht.in2{A:XA}(q:Ht (h+1) A):Ht h A.in1.in1:=by
 refine ⟨?_,?_,q.2.2⟩
 ·have:=q.1;show A.depth+20 * h≤900;lia
 ·have:=q.2.1;show A.units+1+1+100 * h≤9000;lia
theorem lT(B:aC b){n:Int}(e:mem[i]?= some (.inst C sq at_))(hs:CD b.K (.ref C) "__len__" = some (some (.ref f)))(hf:isFn b.K (.ref f)=true)(z:aF b h (.ref f) [.obj i] mem (.int n) m1)(h0:0≤n)(h1:n≤1000000000)
  {A:XA}{s:CA}{ρ:Rho}{mv:BA}{Q:BA→CA→Prop}{E:BA→CA→Prop}(hA:Ht h A) (r:R b ρ mem s) (hv1:VR s.heap ρ (.obj i) mv) (q:∀ρ' s' t,R b ρ' m1 s'→Ext NoS ρ s ρ' s'→Q (.int n t) s'):
  FA b.M A (Builtin.«len» ⟨[mv],[]⟩) (fun fin s'=>∃v,fin=.done (.ret v)∧Q v s') E s:=by
 refine o41 (r.inst e hv1) fun a d ox od x0=>?_;refine o32 x0 fun m es ep x3 x4=>?_;clear x0;subst x3;refine o08 x4 fun e1 I hd e4 e5 e6 e7 hm=>?_;clear x4
 unfold Builtin.«len»
 refine wb (m:=oneArg "len" _) (wp ?_)
 refine wb (m:=callSpecial? (.ref a) (LD "__len__")) (special_fn (r.kin B) I hs (UD.mp hf) (z A s ρ _ _ E hA r (.cons hv1 .nil) fun ρ' s' mv r' x' hv'=>?_))
 cases hv' with|int t=>
 refine wb (TA (wp ?_))
 refine wb (YH ?_)
 show FA _ _ (if n < 0 then _ else _) _ _ _
 rw[AB (by lia)]
 show FA _ _ (if n≥2 ^ 63 then _ else _) _ _ _
 rw[AB (by lia)]
 exact wb (wpAny_mkInt (wp ⟨_,rfl,q ρ' _ _ (r'.toks _) (x'.toks _)⟩))
theorem xB(B:aC b){n:Int}(e:mem[i]?= some (.inst C sq at_))(hs:CD b.K (.ref C) "__len__" = some (some (.ref f)))(hf:isFn b.K (.ref f)=true)(z:aF b h (.ref f) [.obj i] mem (.int n) m1)(h0:0≤n)(h1:n≤1000000000):aF b (h+1) (.builtin "len") [.obj i] mem (.int n) m1:=fun A s ρ mvs Q E hA r hv q=>by
 cases hv with|cons hv1 hv=>
 cases hv
 refine Calls.call_function_entry kind_len plain_len entry_len (args_len1 _) ?_
 exact lT B e hs hf z h0 h1 hA.in1 r hv1 fun ρ' s' t r' x'=>q ρ' s' _ r' x' (.int _ _)
theorem nD(B:aC b){x:Str}(e:mem[i]?= some (.inst C sq at_))(hs:CD b.K (.ref C) "__str__" = some (some (.ref f)))(hf:isFn b.K (.ref f)=true)(z:aF b h (.ref f) [.obj i] mem (.str x) m1):aF b (h+1) (.type "str") [.obj i] mem (.str x) m1:=fun A s ρ mvs Q E hA r hv q=>by
 cases hv with|cons hv1 hv=>
 cases hv
 refine o41 (r.inst e hv1) fun a d ox od x0=>?_;refine o32 x0 fun m es ep x3 x4=>?_;clear x0;subst x3;refine o08 x4 fun e1 I hd e4 e5 e6 e7 hm=>?_;clear x4
 refine kso_call ?_ (r.kin B) I hs hf (z A.in1.in1 s ρ _ _ E hA.in2 r (.cons hv1 .nil) fun ρ' s' mv r' x' hv'=>?_)
 ·have:=hA.in2.2.1
  show A.in1.in1.units < cLine
  have hc:(9000:Nat) < cLine:=by decide
  lia
 ·cases hv' with|str t=>
  exact q ρ' s' _ r' x' (.str _ _)
theorem aDl(B:aC b){n:Int}(e:mem[i]?= some (.inst C sq at_))(hb:CD b.K (.ref C) "__bool__" = some none)(hs:CD b.K (.ref C) "__len__" = some (some (.ref f)))(hf:isFn b.K (.ref f)=true)(z:aF b h (.ref f) [.obj i] mem (.int n) m1)(h0:0≤n)(h1:n≤1000000000):fM b (h+1) (.obj i) mem (n != 0) m1:=fun A s ρ mv Q E hA r hv1 q=>by
 refine o41 (r.inst e hv1) fun a d ox od x0=>?_;refine o32 x0 fun m es ep x3 x4=>?_;clear x0;subst x3;refine o08 x4 fun e1 I hd e4 e5 e6 e7 hm=>?_;clear x4
 have X:=r.kin B
 unfold truthy
 refine wb (m:=callSpecial? (.ref a) (LD "__bool__")) (wb (wb (I.type.here ((MD X hb).here (wp ?_)))))
 refine wb (wb (I.type.here ((MD X hs).here ?_)))
 refine wb (wpAny_runValue (TH entry_len ?_))
 rw[GF plain_len _]
 refine CB (lT B e hs hf z h0 h1 (Q:=fun v s'=>FA b.M A (match v with | .int n _=>pure (n != 0)|_=>unsupported "internal:truth.len") Q E s') hA.in1 r hv1 fun ρ' s' t r' x'=>wp (q ρ' s' r' x')) (fun fin s' w=>?_) fun x9 x9 w=>w
 obtain ⟨v,rfl,w⟩:=w
 exact w
theorem aDm{l:AA AV}(hz:l.length≤1000000){A:XA}{s:CA}{ρ:Rho}{a d:EA}{its:RA BA}{n:Nat}{Q:BA→CA→Prop}{E:BA→CA→Prop}(r:R b ρ mem s)(a0:ρ.rows[i]?= some [a,d])(ea:s.heap.get? a=some (SqO C d its n))(hvs:VRs s.heap ρ l its.toList)(sz:its.size=l.length)(hd:NsR s.heap ρ d at_)
  (q:∀s' mv,R b ρ mem s'→Ext NoS ρ s ρ s'→VR s'.heap ρ (.int l.length) mv→Q mv s'):FA b.M A (Builtin.«list.__len__» ⟨[.ref a],[]⟩) (fun fin s'=>∃v,fin=.done (.ret v)∧Q v s') E s:=by
 show FA _ _ (seqSize a>>=fun n=>retInt n) _ _ s
 unfold seqSize
 refine wb (wb (OF ea ?_))
 refine wp ?_
 show FA _ _ (retInt (its.size:Int)) _ _ _
 rw[sz]
 exact wb (wpAny_mkInt (wp ⟨_,rfl,q _ _ (r.toks _) ((Ext.refl _ _ _).toks _) (.int _ _)⟩))
theorem aBG(B:aC b){l:AA AV}(hz:l.length≤1000000){A:XA}{s:CA}{ρ:Rho}{a d:EA}{its:RA BA}{n:Nat}{Q:BA→CA→Prop}{E:BA→CA→Prop}(r:R b ρ mem s)(a0:ρ.rows[i]?= some [a,d])(ea:s.heap.get? a=some (SqO C d its n))(hvs:VRs s.heap ρ l its.toList)(sz:its.size=l.length)(hd:NsR s.heap ρ d at_)
  (q:∀s' mv,R b ρ (mem.set i (.inst C (some []) at_)) s'→Ext NoS ρ s ρ s'→VR s'.heap ρ .none mv→Q mv s'):FA b.M A (Builtin.«list.__init__» ⟨[.ref a],[]⟩) (fun fin s'=>∃v,fin=.done (.ret v)∧Q v s') E s:=by
 show FA _ _ (WG (.ref a)>>=fun old=>Builtin.List.listUpdate (.ref a) (fun x9=>#[])>>=fun x9=>letGo old.toList.reverse>>=fun x9=>ret .none) _ _ s
 refine wb (wpAny_listItems ea rfl ?_)
 refine wb (m:=updateSeq a _) (XG ea rfl ?_ (by rw[sz,HB];exact lz) (by rw[HB];show 0≤_;lia))
 refine wb (YH (wp ⟨_,rfl,?_⟩))
 refine o11 (lH (fun x9=>(#[]:RA BA)) ea) fun n' hn'=>?_
 refine o03 (r.seqUpd B (tk:=s.toks) a0 hd (QB s.heap a (Obj.mapSeq fun x9=>(#[]:RA BA))) hn' (l:=[]) .nil) fun r' x' x9=>?_
 exact q _ _ r' x' .none
theorem aDn(B:aC b){l:AA AV}(hz:l.length≤1000000){A:XA}{s:CA}{ρ:Rho}{a d:EA}{its:RA BA}{n:Nat}{Q:BA→CA→Prop}{E:BA→CA→Prop}(r:R b ρ mem s)(a0:ρ.rows[i]?= some [a,d])(ea:s.heap.get? a=some (SqO C d its n))(hvs:VRs s.heap ρ (l++[v]) its.toList)(sz:its.size=(l++[v]).length)(hd:NsR s.heap ρ d at_)
  (q:∀s' mv,R b ρ (mem.set i (.inst C (some l) at_)) s'→Ext NoS ρ s ρ s'→VR s'.heap ρ v mv→Q mv s'):FA b.M A (Builtin.«list.pop» ⟨[.ref a],[]⟩) (fun fin s'=>∃v,fin=.done (.ret v)∧Q v s') E s:=by
 rw[PA,IE] at sz
 refine o12 (cC hvs (k:=its.size - 1) (v:=v) (by rw[sz,Nat.add_sub_cancel,OA (MA _),VB];rfl)) fun mv x1 x2=>?_
 have hk:seqIndex? (-1) its.size=some (its.size - 1):=by rw[sz,sH];rfl
 have hne:¬ its.isEmpty=true:=by
  intro he;have:its.size=0:=by simpa using he
  lia
 have hsb:ZD a s.heap (s.heap.update a (Obj.mapSeq fun xs=>xs.eraseIdxIfInBounds (its.size - 1))):=QB ..
 refine o11 (lH (fun xs=>xs.eraseIdxIfInBounds (its.size - 1)) ea) fun n' hn'=>?_
 refine o03 (r.seqUpd B (tk:=s.toks) a0 hd hsb hn' (l:=l) (by
  have:=hvs.take l.length
  rw[List.take_left] at this
  rw[show (its.eraseIdxIfInBounds (its.size - 1)).toList=its.toList.take l.length from ?_]
  ·exact this
  ·rw[AI,dif_pos (by lia),Array.toList_eraseIdx,sz,Nat.add_sub_cancel,List.eraseIdx_eq_take_drop_succ,List.drop_of_length_le (by rw[QA];lia),ZB])) fun r' x' mvv=>?_
 have hq:=q _ mv r' x' (mvv x2)
 obtain ⟨hp,g,dd,tk,os⟩:=s
 have hz':(its.eraseIdxIfInBounds (its.size - 1)).size≤sizeLine+1:=by
  rw[AI,dif_pos (by lia),Array.size_eraseIdx,HB];lia
 wp_walk using wpAny_loadPart' ea
 simp only[hk,x1,Option.bind_some,Option.map_some]
 wp_walk using (XG ea rfl (hz:=by rw[HB];lia) (_hz':=hz')),wpAny_loadPart' ea
 exact ⟨_,rfl,hq⟩
variable {v1 v2:AV}{e1 e2:Expr}
theorem dflt2(B:aC b){fd:BD}{T:EA}{oc:BA}{od:YA EA}{osl:RA (YA BA)}{items:RA BA}{n:Nat}{x y:Str}(hT:b.K.lookup T=some ⟨oc,od,.seq items n,osl⟩)
  (h:∀a c,∃k,TD fd ⟨[a,c],[]⟩=(seqItems? (.ref T)>>=k)∧k (some items)=pure [(x,a),(y,c)]):eO b fd [v1,v2] [] [] mem [x,y] [v1,v2]:=
 .dflt B hT fun mvs mks h1 h2=>by
  ·refine o21 (L2 h1) fun a c x0=>?_;subst x0
   refine o12 (h a c) fun k e1 e2=>?_
   exact ⟨k,e1,[a,c],e2,fun hp ρ hv x9=>hv⟩
theorem dflt1(B:aC b){fd:BD}{T:EA}{oc:BA}{od:YA EA}{osl:RA (YA BA)}{items:RA BA}{n:Nat}{x y:Str}{d:BA}(hT:b.K.lookup T=some ⟨oc,od,.seq items n,osl⟩)(hd:Lit v2 d)
  (h:∀a,∃k,TD fd ⟨[a],[]⟩=(seqItems? (.ref T)>>=k)∧k (some items)=pure [(x,a),(y,d)]):eO b fd [v1] [] [] mem [x,y] [v1,v2]:=
 .dflt B hT fun mvs mks h1 h2=>by
  ·refine o11 (L1 h1) fun a x0=>?_;subst x0
   refine o12 (h a) fun k e1 e2=>?_
   exact ⟨k,e1,[a,d],e2,fun hp ρ hv x9=>by cases hv with|cons q1 q2=>exact .cons q1 (.cons hd.vr .nil)⟩
end
noncomputable def boundMeth(K:Frag)(C:EA)(name:Str)(f:EA):NB:=
 CD K (.ref C) "__getattribute__" == some (some (.builtin "list.__getattribute__")) && CD K (.ref C) "__getattr__" == some none && mroIn K C (.type "list") == some true && (clsIn K C).any (·.hasDict) &&
  CD K (.ref C) name == some (some (.ref f)) && specialIn K (.ref f) "__get__" == some (some (.builtin "function.__get__")) && takesIn K (.ref f) == some false && !copiedNames.contains name && (K.lookup f).any fun o=>o.cls == .type "function" && match o.data with | .func _=>true|_=>false
section
variable {prog:RC}{w:HD}{A:XA}{E:BA→CA→Prop}{s:CA}{K:Frag}{x C:EA}{ox:Obj}{od:YA Obj}{name:Str}{expr:NB}{Q:BA→CA→Prop}
theorem aBH{x C g a:BA}{tk:Tok}{Q:Fin→CA→Prop}(L0:EC (model prog w) s.heap (typeOf x) C)(L2:EC (model prog w) s.heap (Builtin.ObjectAttr.find x C name) (.bind g a))(hx:x≠.none)(q:FA (model prog w) A (call g [a,x,C]) (fun v=>Q (.done (.ret v))) E s):
  FA (model prog w) A (Builtin.«object.__getattribute__» ⟨[x,.str name tk],[]⟩) Q E s:=by
 obtain ⟨hp,gg,d,t,os⟩:=s
 unfold Builtin.«object.__getattribute__»
 refine wb (IC (a:=(x,[Value.str name tk])) rfl ?_)
 dsimp only
 refine wb (IC (a:=name) rfl ?_)
 refine wb (L0.at (wb (L2.at ?_)))
 dsimp only
 unfold Builtin.ObjectAttr.bindTo
 cases x <;> first|exact absurd rfl hx|exact wb (TA (CB q (fun v s' z=>wp z) fun x9 x9 z=>z))
theorem xC{f:EA}(X:K.In s.heap)(I:InstAt s.heap x ox C (od:YA Obj)){o:Obj}(hod:od=some o)(hb:boundMeth K C name f=true)(hl:lookIn name o=some none)(h:Q (.ref s.heap.objs.size) { s with heap:=s.heap.push { cls:=.type "method",data:=.fields #[.ref f,.ref x] },toks:=s.toks+1 }):
  FA (model prog w) A (getAttr (.ref x) name expr) Q E s:=by
 subst hod
 unfold boundMeth at hb
 simp only[VA,UD,WE] at hb
 refine o02 hb fun x0 hfn=>?_;clear hb;refine o02 x0 fun x6 hcp=>?_;clear x0;refine o02 x6 fun x7 htk=>?_;clear x6;refine o02 x7 fun x8 hg=>?_;clear x7;refine o02 x8 fun y0 hf=>?_;clear x8;refine o02 y0 fun y1 hdict=>?_;clear y0;refine o02 y1 fun y2 hm=>?_;clear y1;refine o02 y2 fun hga hk=>?_;clear y2
 refine o12 (any_some hdict) fun cd hcd hd=>?_
 have hfo:findObj K C (some o) name=some (.bind (.builtin "function.__get__") (.ref f)):=by
  unfold findObj
  simp[hcd,hf,hg,htk,W.ownOf,hd,hl]
  exact fun hmem=>absurd hmem (by simpa using hcp)
 obtain ⟨hp,g,d,t,os⟩:=s
 have L0:=I.type (M:=model prog w)
 have L1:=MD (M:=model prog w) X hga
 have L3:=MD (M:=model prog w) X hk
 have hi:EC (model prog w) hp (isInstance (.ref x) (.type "list")) true:=L0.andThen (BH X hm)
 unfold getAttr getAttrBy
 refine wb (wpAny_mkText (TA (wb (L0.at (wb (L1.at ?_))))))
 show FA _ _ (getAttrByItsOwn _ _ _ _ _ _) _ _ _
 unfold getAttrByItsOwn hookBefore callGetattribute boundAndCalled
 refine wb ?_
 show FA _ _ (typeLookup (.ref C) "__getattr__") _ _ _
 refine L3.at ?_
 refine wb (NE (TA ?_))
 rw[show (expr && onTheHeap (Value.builtin "list.__getattribute__"))=false from by cases expr <;> rfl,AB (by decide)]
 refine wb (IC (PySem.F.slot_list_getattribute.bind _) ?_)
 refine o12 (any_some hfn) fun fo hfo1 hfo2=>?_
 rw[VA,UD] at hfo2
 have hT:∀t',(⟨hp,g,d,t',os⟩:CA).TypeIs (.ref f) "function" :=fun t'=>⟨fo,X _ _ hfo1,hfo2.1⟩
 refine CB (Q:=fun r s'=>r=.ref hp.objs.size∧s'=⟨hp.push { cls:=.type "method",data:=.fields #[.ref f,.ref x] },g,d,t+1,os⟩) (E:=fun x9 x9=>False) ?_ (fun r s' hr=>?_) fun x9 x9 z=>z.elim
 ·show FA _ _ (call (.builtin "list.__getattribute__") [.ref x,.str name t]) _ _ _
  refine rQ rP pH PySem.F.slot_list_getattribute.plain pI hi (PySem.F.args_list_getattribute_2 _ _) ?_
  have L2:=looks_find (M:=model prog w) X I hfo
  refine aBH (s:=⟨hp,g,d,t+1,os⟩) L0 L2 (fun z=>nomatch z) ?_
  refine OD PySem.F.ks_slot_function_get (hT _) PySem.F.ks_entry_function_get ?_ (PySem.F.ks_getArgs_function _ _ _)
  show FA _ _ (newFields "method" [.ref f,.ref x]>>=ret) _ _ _
  exact wb (RF (wp ⟨_,rfl,_,rfl,rfl,rfl⟩))
 ·refine o02 hr fun x0 x6=>?_;clear hr;subst x0;subst x6
  exact wp h
variable {b:Bs}{h k i:Nat}{F:EA→Env}{loc:AA (Str×AV)}{mem m1 m2 m3:AA AO}{v:AV}{pos:Pos}
theorem xD(B:aC b){o e:Expr}{name:Str}{apos p:Pos}{f:EA}{vs:AA AV}{sq:YA (AA AV)}{at_:AA (Str×AV)}(ho:aE b h F o loc mem (.obj i) m1)(hm:m1[i]?= some (.inst C sq at_))(hn:at_.lookup name=Option.none)(hb:boundMeth b.K C name f=true)(y:aE b h F e loc m1 (.tup vs) m2)
  (z:bS b k (.ref f) (.obj i :: vs) [] [] m2 v m3) (hk:k≤h) (hz:vs.length≤1000000)
  (he:∀L,∃mp:Sem Pos,∃pos',eval (.Call (.Attribute o name apos) [.Starred e p] [] pos) (F L)=(do
   let ov ← eval o (F L)
   standAt apos.atName
   let (f,first) ← holding [ov] (do pure (← getAttr ov name true,[]))
   let callPos ← mp
   callWith callPos f first (backTo pos (LC [.Starred e p] (F L))) [])∧mp=pure pos':=by exact fun x9=>⟨_,_,rfl,rfl⟩)
  (hs:DA (∀L,LC [.Starred e p] (F L)=[(true,eval e (F L))]) q8):aE b h F (.Call (.Attribute o name apos) [.Starred e p] [] pos) loc mem v m3:=fun A s ρ L Q E hA r fm q=>by
 refine o22 (he L) fun mp pos' he hmp=>?_
 rw[he]
 refine wb (ho A s ρ L _ E hA r fm fun ρ1 s1 mo r1 x1 h1=>?_)
 refine wb (ME (wb (TA (wb ?_))))
 refine o41 (r1.inst hm h1) fun a d ox od x0=>?_;refine o32 x0 fun m es ep x6 x7=>?_;clear x0;subst x6;refine o08 x7 fun e1 I hd e4 e5 e6 e7 hmm=>?_;clear x7
 have w:=hmm name
 rw[hn] at w
 have X1:=r1.kin B
 refine xC X1 I rfl hb (by rw[fY e5 e6 e7,w]) (wp ?_)
 dsimp only
 let ob:Obj:={ cls:=.type "method",data:=.fields #[.ref f,.ref a] }
 have r2:R b ρ1 m1 { s1 with heap:=s1.heap.push ob,toks:=s1.toks+1 }:=(r1.push' ob).toks _
 have x2:Ext NoS ρ1 s1 ρ1 { s1 with heap:=s1.heap.push ob,toks:=s1.toks+1 }:=(aX r1 ob).toks _
 rw[hmp,pure_bind]
 rw[hs L]
 have hbm:(s1.heap.push ob).get? s1.heap.objs.size=some ob:=gpz _ rfl
 have hnotrow:s1.heap.objs.size∉ρ1.rows.flatten:=fun q=>JB _ (r1.lt (Rho.mem_rows q))
 refine o12 (any_some (by unfold boundMeth at hb;simp only[VA] at hb;exact hb.2:Option.any (fun o=>o.cls == .type "function" && match o.data with | .func _=>true|_=>false) (b.K.lookup f)=true)) fun fo hfo1 hfo2=>?_
 rw[VA] at hfo2
 refine ks_call (P:=fun hp=>hp.get? s1.heap.objs.size=some ob∧b.K.In hp) rfl (fun hp e=>⟨.boundFrame,.inr (.inr rfl),?_⟩) (ks_lone (y A _ ρ1 L _ E hA r2 ((fm.ext x1).ext x2) fun ρ3 s3 mv r3 x3 h3=>?_))
 ·intro A Q E s k q
  unfold keeperOf
  refine wb (PH (k _ _ e.1) ?_)
  show FA _ _ (load f>>=_) _ _ _
  refine wb (PH (k _ _ (e.2 _ _ hfo1)) ?_)
  obtain ⟨fc,fdd,fdt,fsl⟩:=fo
  cases fdt <;> first|exact absurd hfo2.2 KE|exact wp q
 cases h3 with|tup ea ha hl=>
 rename_i a2 its n
 have hT:s3.TypeIs (.ref a2) "tuple" :=⟨_,ea,rfl⟩
 have sz:=hl.length
 rw[QA] at sz
 have hb3:s3.heap.get? s1.heap.objs.size=some ob:=x3.keep _ _ hbm (fun z=>z) hnotrow (.cls rfl)
 have zz:FA b.M A (collect (.ref a2)) (fun vs' s'=>(s'.heap.get? s1.heap.objs.size=some ob∧b.K.In s'.heap)∧FA b.M A (call (.ref s1.heap.objs.size) ([]++vs')) Q E s') E s3:=by
  refine wpAny_collect_seq a2 (.inr rfl) ea rfl rfl (fun h' hk'=>?_) (by rw[sz,HB];exact lz)
  have r4:R b ρ3 m2 { s3 with heap:=h' }:=r3.keeps hk' s3.gens r3.bare s3.drawn s3.toks
  have x4:Ext NoS ρ3 s3 ρ3 { s3 with heap:=h' }:=Ext.of_keeps _ _ hk'
  refine ⟨⟨hk' _ _ hb3,r4.kin B⟩,CE (ks_codeAny_call_bound (hk' _ _ hb3) ?_)⟩
  exact z A _ ρ3 (.ref a :: its.toList) [] Q E (hA.mono hk) r4 (.cons (x4.vr0 (x3.vr0 (x2.vr0 h1))) (x4.vrs0 hl)) .nil fun ρ5 s5 mv r5 x5 h5=>q ρ5 s5 mv r5 ((((x1.trans x2).trans x3).trans x4).trans x5) h5
 unfold StarOf notIterableAtAll
 exact wb (CF hT PySem.F.slot_tuple_iter.lookup (wp ⟨rfl,zz⟩))
end
noncomputable def downs:Nat→AA AV
 | 0=>[]
 | n+1=>.int ((n+1:Nat):Int) :: downs n
theorem nE:∀n:Nat,steps (n:Int) (-1) n=downs n
 | 0=>rfl
 | n+1=>by
  rw[steps,downs]
  rw[show ((n+1:Nat):Int)+-1=(n:Int) by lia,nE n]
noncomputable def lastHit(hit:Nat→NB):Nat→YA Nat
 | 0=>none
 | n+1=>if hit (n+1) then some (n+1) else lastHit hit n
theorem cL{hit:Nat→NB}:∀{n i:Nat},lastHit hit n=some i→1≤i∧i≤n∧hit i=true
 | 0,i,e=>nomatch e
 | n+1,i,e=>by
  unfold lastHit at e
  split at e
  ·replace e:=si e;subst e;exact ⟨by lia,by lia,‹_›⟩
  ·have:=cL e;exact ⟨this.1,by lia,this.2.2⟩
noncomputable def firstIs(x:Str)(cc:Nat):NB:=x.cps.toList.head? == some cc
noncomputable def lastIs(x:Str)(cc:Nat):NB:=x.cps.toList.getLast? == some cc
section
variable {b:Bs}{h k:Nat}{F:EA→Env}{loc L0:AA (Str×AV)}{mem m1:AA AO}{pos p2 p3 p4 p5:Pos}{i:Nat}{t:Expr}{body:AA VD}{hit:Nat→NB}
theorem pT{Li:Nat→AA (Str×AV)}(hno:∀i,1≤i→hit i=false→∀n,i≤n→n≤k→∃loc1 m1,cR b h F t (.int (i:Int)) L0 mem loc1 m1∧aI b h F body loc1 m1 .next L0 mem)(a0:∀i,1≤i→i≤k→hit i=true→∃loc1 m1,cR b h F t (.int (i:Int)) L0 mem loc1 m1∧aI b h F body loc1 m1 .brk (Li i) mem):
  ∀n,n≤k→(lastHit hit n=none→bQ b h F t body (fun x9=>True) mem.length (downs n) L0 mem .next L0 mem)∧(∀i,lastHit hit n=some i→bQ b h F t body (fun x9=>True) mem.length (downs n) L0 mem .brk (Li i) mem)
 | 0,_=>⟨fun x9=>.nil trivial rfl,fun i e=>nomatch e⟩
 | n+1,hn=>by
  refine o02 (pT hno a0 n (by lia)) fun ih1 ih2=>?_
  unfold lastHit
  cases hh:hit (n+1) with
  | true=>
   refine o22 (a0 (n+1) (by lia) hn hh) fun loc1 m1 a x=>?_
   refine ⟨fun e=>by simp at e,fun i e=>?_⟩
   simp only[if_true,Option.some.injEq] at e
   subst e
   exact .brk trivial rfl a x rfl
  | false=>
   refine o22 (hno (n+1) (by lia) hh (n+1) (MA _) hn) fun loc1 m1 a x=>?_
   exact ⟨fun e=>.next trivial rfl a x (ih1 (by simpa using e)),fun i e=>.next trivial rfl a x (ih2 i (by simpa using e))⟩
theorem fV{e:Expr}{c:NB}(y:bA b h F e loc mem c m1):dS b h F .And [e] loc mem c m1:=by
 cases c with
 | true=>exact bK y gG
 | false=>exact aY y
theorem zY{x:Str}(h:x≠⟨#[]⟩):∃cc,(seqIndex? 0 x.length).bind (x.cps[·]?)=some cc∧x.cps.toList.head?= some cc:=by
 have h1:x.cps.size≠0:=fun e=>h (eT (by simpa [Str.length] using e))
 refine ⟨x.cps[0]'(by lia),?_,?_⟩
 ·have:seqIndex? 0 x.length=some 0:=by
   unfold seqIndex?
   simp only[Int.lt_irrefl,CG]
   rw[OB (by simp only[VA,PC];have:x.length=x.cps.size:=rfl;lia)];rfl
  rw[this]
  exact YE (by lia)
 ·rw[List.head?_eq_getElem?,TC]
  exact YE (by lia)
theorem oN{x y:Str}{z:Str}{cc k2:Nat}{p6 p7:Pos}(f:aS F)(ex:loc.lookup x=some (.str z))(ey:loc.lookup y=some (.str ⟨#[cc]⟩))(hz:z.length≤1000000)(cx:∀L,(F L).cells.lookup x=none)(cy:∀L,(F L).cells.lookup y=none)(kx:∀L,(F L).kindOf x=some .local)(ky:∀L,(F L).kindOf y=some .local)(dx:(x == ("__debug__" : Str))=false)(dy:(y == ("__debug__" : Str))=false):
  bA b h F (.BoolOp .And [.Name x p2,.Compare (.Subscript (.Name x p3) (.Constant (.int 0) k2 p4) p5) [.Eq] [.Name y p6] p7] pos) loc mem (firstIs z cc) mem:=by
 by_cases h0:z=⟨#[]⟩
 ·subst h0
  exact .to (aQ (aY (.to (aJ (dW f ex cx kx dx) (aU (by simp[Str.length]))) (by simp)))) rfl
 ·refine o12 (zY h0) fun c1 q1 q2=>?_
  refine .to (aQ (bK (.to (aJ (dW f ex cx kx dx) (aU hz)) (by simp[h0])) (fV (aD (bP (dW f ex cx kx dx) aH (mX hz q1)) (dW f ey cy ky dy) aT)))) ?_
  rw[gQ]
  unfold firstIs
  rw[q2]
  rfl
theorem lI{x y:Str}{z:Str}{cc k2:Nat}{p6 p7 p8:Pos}(f:aS F)(ex:loc.lookup x=some (.str z))(ey:loc.lookup y=some (.str ⟨#[cc]⟩))(hz:z.length≤1000000)(cx:∀L,(F L).cells.lookup x=none)(cy:∀L,(F L).cells.lookup y=none)(kx:∀L,(F L).kindOf x=some .local)(ky:∀L,(F L).kindOf y=some .local)(dx:(x == ("__debug__" : Str))=false)(dy:(y == ("__debug__" : Str))=false):
  bA b h F (.BoolOp .And [.Name x p2,.Compare (.Subscript (.Name x p3) (.UnaryOp .USub (.Constant (.int 1) k2 p4) p5) p6) [.Eq] [.Name y p7] p8] pos) loc mem (lastIs z cc) mem:=by
 by_cases h0:z=⟨#[]⟩
 ·subst h0
  exact .to (aQ (aY (.to (aJ (dW f ex cx kx dx) (aU (by simp[Str.length]))) (by simp)))) rfl
 ·refine o12 (sI h0) fun c1 q1 q2=>?_
  refine .to (aQ (bK (.to (aJ (dW f ex cx kx dx) (aU hz)) (by simp[h0])) (fV (aD (bP (dW f ex cx kx dx) (fU aH) (mX hz q1)) (dW f ey cy ky dy) aT)))) ?_
  rw[gQ]
  unfold lastIs
  rw[q2]
  rfl
end
noncomputable def OutX(b:Bs)(h:Nat)(F:EA→Env)(l:AA VD)(loc:AA (Str×AV))(mem:AA AO)(r:AV)(m1:AA AO):Prop:=∃out loc',aI b h F l loc mem out loc' m1∧retOf out=r∧(out=.next∨∃v,out=.ret v)
section
variable {b:Bs}{h k:Nat}{F:EA→Env}{loc loc' L0:AA (Str×AV)}{mem m1 m2:AA AO}{v r:AV}{e1:Expr}{pos p2:Pos}{i:Nat}{body orelse l:AA VD}{st:VD}
theorem zZ:OutX b h F [] loc mem .none mem:=⟨_,_,.nil,rfl,.inl rfl⟩
theorem lJ(x:aL b h F st loc mem .next loc' m1)(y:OutX b h F l loc' m1 r m2):OutX b h F (st :: l) loc mem r m2:=by
 refine o23 y fun o l2 y1 y2 y3=>?_;clear y
 exact ⟨o,l2,.cons x y1,y2,y3⟩
theorem aEw(c:bA b h F e1 loc mem true m1)(y:OutX b h F body loc m1 r m2):OutX b h F [.If e1 body orelse pos] loc mem r m2:=by
 refine o23 y fun o l2 y1 y2 y3=>?_;clear y
 rcases y3 with rfl|⟨v,rfl⟩
 ·exact ⟨_,_,.cons (aO c y1) .nil,y2,.inl rfl⟩
 ·exact ⟨_,_,.stop (aO c y1) (by simp),y2,.inr ⟨v,rfl⟩⟩
theorem aEx(c:bA b h F e1 loc mem false m1)(y:OutX b h F orelse loc m1 r m2):OutX b h F [.If e1 body orelse pos] loc mem r m2:=by
 refine o23 y fun o l2 y1 y2 y3=>?_;clear y
 rcases y3 with rfl|⟨v,rfl⟩
 ·exact ⟨_,_,.cons (aK c y1) .nil,y2,.inl rfl⟩
 ·exact ⟨_,_,.stop (aK c y1) (by simp),y2,.inr ⟨v,rfl⟩⟩
theorem aEy{Lb:Nat→AA (Str×AV)}{hit:Nat→Nat→NB}{N:Nat}{x:Str}(x1:aE b h F e1 loc mem (.str ", ") mem)(B:aC b)(f:aS F)(hl:∀L,eD (F L) x)(a0:mem.length=k)
  (turn:∀cc,(cc=44∨cc=32)→(∀i,lastHit (hit cc) N=some i→aI b h F body (putL x (.str ⟨#[cc]⟩) L0) mem .brk (Lb i) mem)∧(lastHit (hit cc) N=none→aI b h F body (putL x (.str ⟨#[cc]⟩) L0) mem .cont L0 mem))
  (hw:∀x v,L0.lookup x=some v→loc.lookup x=some v)
  (found:∀i,(lastHit (hit 44) N).or (lastHit (hit 32) N)=some i→OutX b h F l (Lb i) mem r m2)
  (none':(lastHit (hit 44) N).or (lastHit (hit 32) N)=none→∃loc',aI b h F orelse L0 mem (.ret r) loc' m2∧m2.length=mem.length)
  (hs:DA (∀L x,JD e1 (F L) x=pure x) q13):OutX b h F (.For (.Name x p2) e1 body orelse pos :: l) loc mem r m2:=by
 have hch:chars (", " : Str)=[.str ⟨#[44]⟩,.str ⟨#[32]⟩]:=rfl
 have hit':cB b h (.Name x p2) (.str ", ") mem [.str ⟨#[44]⟩,.str ⟨#[32]⟩] (fun x9=>True) mem []:=hch▸aEk B (by decide +kernel)
 refine o02 (turn 44 (.inl rfl)) fun t1 t2=>?_
 refine o02 (turn 32 (.inr rfl)) fun t3 t4=>?_
 cases h1:lastHit (hit 44) N with
 | some i=>
  refine o23 (found i (by rw[h1];rfl)) fun o l2 y1 y2 y3=>?_
  have run:bQ b h F (.Name x p2) body (fun x9=>True) mem.length [.str ⟨#[44]⟩,.str ⟨#[32]⟩] L0 mem .brk (Lb i) mem:=.brk trivial rfl (iP B f hl) (t1 i h1) rfl
  exact ⟨o,l2,.cons (iU x1 hit' run (fun e=>nomatch e) (.inr ⟨by simp,rfl,rfl,rfl⟩) hw hs (oute:=.next) (loce:=[]) (me:=[])) y1,y2,y3⟩
 | none=>
  cases h2:lastHit (hit 32) N with
  | some i=>
   refine o23 (found i (by rw[h1,h2];rfl)) fun o l2 y1 y2 y3=>?_
   have run:bQ b h F (.Name x p2) body (fun x9=>True) mem.length [.str ⟨#[44]⟩,.str ⟨#[32]⟩] L0 mem .brk (Lb i) mem:=.cont trivial rfl (iP B f hl) (t2 h1) (.brk trivial rfl (iP B f hl) (t3 i h2) rfl)
   exact ⟨o,l2,.cons (iU x1 hit' run (fun e=>nomatch e) (.inr ⟨by simp,rfl,rfl,rfl⟩) hw hs (oute:=.next) (loce:=[]) (me:=[])) y1,y2,y3⟩
  | none=>
   refine o12 (none' (by rw[h1,h2];rfl)) fun loc' y1 y2=>?_
   have run:bQ b h F (.Name x p2) body (fun x9=>True) mem.length [.str ⟨#[44]⟩,.str ⟨#[32]⟩] L0 mem .next L0 mem:=.cont trivial rfl (iP B f hl) (t2 h1) (.cont trivial rfl (iP B f hl) (t4 h2) (.nil trivial rfl))
   exact ⟨.ret r,loc',.stop (iU x1 hit' run (fun x9=>⟨y1,y2⟩) (.inl ⟨rfl,rfl,rfl,rfl⟩) hw hs) (by simp),rfl,.inr ⟨r,rfl⟩⟩
theorem dF{L0 loc:AA (Str×AV)}(h:∀p∈L0,loc.lookup p.1=some p.2):∀x v,L0.lookup x=some v→loc.lookup x=some v:=fun x v e=>h _ (mem_of_lookup e)
theorem DX{f:EA}{fd:BD}{oc:BA}{od:YA EA}{osl:RA (YA BA)}{body:AA VD}{xs:AA Str}{args:AA AV}
  (hx:OutX b h (fun L=>KC fd L f) body (bindsL xs args) mem r m1)
  (ho:DA (b.K.lookup f=some ⟨oc,od,.func fd,osl⟩) q9) (hcd:DA (codeIn b.K fd.code fd.qualname=true) q15) (hb:DA (fd.body=.stmts body) q9)
  (hbind:∀mvs:AA BA,mvs.length=args.length→TD fd ⟨mvs,[]⟩=pure (xs.zip mvs)) (nd:DA (xs.Nodup) q10) (hl:DA (xs.length=args.length) q9)
  (hcell:DA (∀x∈fd.scope.names,x.2≠.cell) q10) (hloc:DA (∀x∈xs,fd.scope.names.lookup x=some .local) q10)
  (hco:DA (fd.scope.isCoroutine=false) q9) (hgen:DA (fd.scope.isGenerator=false) q9) (hk:DA (fd.scope.kind=.function) q9) (hclo:DA (fd.closure=[]) q9) (B:DA (aC b) q11):aF b (h+1) (.ref f) args mem r m1:=by
 refine o23 hx fun o l2 y1 y2 x9=>?_;clear hx
 rw[← y2]
 exact rS B ho hcd hb hbind nd hl hcell hloc hco hgen hk hclo y1
end
theorem pU(n:Nat):LG (n:Int) 0 (-1)=(n:Int):=by
 unfold LG
 rw[AB (by decide)]
 rcases Nat.eq_zero_or_pos n with h|h
 ·subst h;decide
 ·rw[OB (by lia),show (-(-1:Int))=1 from rfl,Int.ediv_one];lia
theorem xE{n:Nat}(h2:n≤1000):MH (n:Int) 0 (-1)=true:=by
 unfold MH
 rw[pU]
 have f:∀i:Int,-1000000≤i→i≤1000000→Builtin.Range.rangeFitsLong i=true:=fun i a c=>fits1 a c
 rw[f (n:Int) (by lia) (by lia),f 0 (by lia) (by lia),f (-1) (by lia) (by lia),AB (by decide),f (0+(-1+1)) (by lia) (by lia)]
 simp
section
variable {b:Bs}{h k:Nat}{F:EA→Env}{L0 L1:AA (Str×AV)}{M:AA AO}{e1:Expr}{p2 p3 p4:Pos}{t:Expr}{body:AA VD}{hit:Nat→NB}{N:Nat}
theorem xF{Lb:Nat→AA (Str×AV)}(B:aC b)(x:aE b h F e1 L1 M (.obj M.length) (M++[.rng (N:Int) 0 (-1)]))(hN:N≤1000)(u:∀o∈M,o.under M.length=true)(hL0:AV.underL M.length (L0.map (·.2))=true)(hLb:∀i,AV.underL M.length ((Lb i).map (·.2))=true)
  (hw:∀x v,L0.lookup x=some v→L1.lookup x=some v)
  (hno:∀i,1≤i→i≤N→hit i=false→∃loc1 m1,cR b h F t (.int (i:Int)) L1 (M++[.rng (N:Int) 0 (-1)]) loc1 m1∧aI b h F body loc1 m1 .next L1 (M++[.rng (N:Int) 0 (-1)]))
  (hyes:∀i,1≤i→i≤N→hit i=true→∃loc1 m1,cR b h F t (.int (i:Int)) L1 (M++[.rng (N:Int) 0 (-1)]) loc1 m1∧aI b h F body loc1 m1 .brk (Lb i) (M++[.rng (N:Int) 0 (-1)]))
  (hs:DA (∀L x,JD e1 (F L) x=pure x) q13):
  (∀i,lastHit hit N=some i→aI b h F [.For t e1 body [.Continue p2] p3,.Break p4] L1 M .brk (Lb i) M)∧(lastHit hit N=none→aI b h F [.For t e1 body [.Continue p2] p3,.Break p4] L1 M .cont L0 M):=by
 refine o02 (pT (k:=N) (t:=t) (body:=body) (hit:=hit) (Li:=Lb) (fun i h1 h2 n h3 h4=>hno i h1 (by lia) h2) hyes N (MA _)) fun r1 r2=>?_
 have it:cB b h t (.obj M.length) (M++[.rng (N:Int) 0 (-1)]) (downs N) (fun x9=>True) (M++[.rng (N:Int) 0 (-1)]) []:=by
  rw[← nE]
  exact mE B (by simp) (xE hN) (pU N)
 refine ⟨fun i hi=>?_,fun hi=>?_⟩
 ·refine .cons (aL.keep (junk:=[.rng (N:Int) 0 (-1)]) ?_ u (hLb i)) (.stop eV (by simp))
  exact iU x it (r2 i hi) (fun e=>nomatch e) (.inr ⟨by simp,rfl,rfl,rfl⟩) (fun x9 x9 e=>e) hs (oute:=.next) (loce:=[]) (me:=[])
 ·refine .stop ?_ (by simp)
  have y:aL b h F (.For t e1 body [.Continue p2] p3) L1 M .cont L0 (M++[.rng (N:Int) 0 (-1)]):=by
   refine iU x it (r1 hi) (fun x9=>⟨?_,?_⟩) (.inl ⟨rfl,rfl,rfl,rfl⟩) (fun x9 x9 e=>e) hs
   ·exact (aI.stop gH (by simp)).weak hw
   ·simp
  exact y.trim (MA _) (fun v e=>nomatch e) u fun x v e=>⟨e,hX hL0 x v e⟩
end
section
open Builtin Builtin.ObjectAttr
theorem aEz:mroOf (.type "function")=pure [.type "function",.type "object"]:=by rw[mroOf_type];kernel_rfl
theorem aAa(self:BA):refuseLoop self "__setattr__" [.type "function",.type "object"]=pure ():=by kernel_rfl
theorem aCu:typeLookup (.type "function") "header_encoding" = pure none:=by rw[YD,MC];kernel_rfl
theorem aCv:typeLookup (.type "function") "__getattribute__" = pure (some (.builtin "object.__getattribute__")):=by rw[YD,MC];kernel_rfl
theorem fn_slot_sa:Slot "function" "__setattr__" "object.__setattr__" :=
 .of (owner:="object") (n:="__setattr__") (by rw[YD,MC];kernel_rfl) (by decide +kernel) (by decide +kernel) (by decide +kernel)
  (by rw[PySem.W.S.findZ_eq];first|exact .inl (by decide +kernel)|exact .inr (by decide +kernel)) (by rw[AF];kernel_rfl)
theorem fn_slot_ga:Slot "function" "__getattribute__" "object.__getattribute__" :=
 .of (owner:="object") (n:="__getattribute__") aCv (by decide +kernel) (by decide +kernel) (by decide +kernel)
  (by rw[PySem.W.S.findZ_eq];first|exact .inl (by decide +kernel)|exact .inr (by decide +kernel)) (by rw[AF];kernel_rfl)
theorem uP:EG table "object.__getattribute__" = some Builtin.«object.__getattribute__»:=KG (by kernel_rfl)
theorem xG(a c:BA):argsOk "object.__getattribute__" ⟨[a,c],[]⟩:=by unfold argsOk;rw[PySem.W.S.signatureZ_eq];kernel_rfl
theorem xH:typeHasDict (.type "function")=true:=by decide +kernel
theorem aDo(a d:EA):dictMade (.type "function") a d=pure (some d):=by kernel_rfl
theorem nF{o:Obj}{fd:BD}(h:o.data=.func fd):o.isFreed=false:=by
 obtain ⟨c,d,dt,sl⟩:=o;subst h;rfl
section
variable {b:Bs}{h:Nat}{mem:AA AO}
theorem R.adopt{ρ:Rho}{s:CA}(r:R b ρ mem s){p:AA EA}{ao:AO}(ha:∀a∈p,a∉ρ.all∧Free s.heap ρ a∧b.s₁.heap.get? a=none)(nd:p.Nodup)
  (ho:(∀{u:AV}{mu:BA},VR s.heap ρ u mu→VR s.heap (ρ.add p) u mu)→OR s.heap (ρ.add p) p ao):R b (ρ.add p) (mem++[ao]) s∧(ρ.add p).rows[mem.length]?= some p:=by
 have ea:∀a,a∈(ρ.add p).all→a∈ρ.all∨a∈p:=fun a ha=>by
  have ha':a∈(ρ.rows.flatten++p)++ρ.hid:=by simpa [Rho.add,Rho.all] using ha
  rcases mam ha' with z|z
  ·exact (mam z).imp Rho.mem_rows id
  ·exact .inl (Rho.mem_hid z)
 have pre:∀(i:Nat) (q:AA EA),ρ.rows[i]?= some q→(ρ.add p).rows[i]?= some q:=fun i q e=>by
  show (ρ.rows++_)[i]?= _;rw[CC (List.getElem?_eq_some_iff.mp e).1];exact e
 have fr:∀a∈(ρ.add p).all,Free s.heap ρ a:=fun a z=>(ea a z).elim .inl fun z=>(ha a z).2.1
 have mv:∀{u:AV}{mu:BA},VR s.heap ρ u mu→VR s.heap (ρ.add p) u mu:=fun q=>q.move (fun x9=>False) (fun x9 x9 e x9=>e) (fun x9 z=>z.elim) pre fr
 have mvs:∀{u:AA AV}{mu:AA BA},VRs s.heap ρ u mu→VRs s.heap (ρ.add p) u mu:=fun q=>q.move (fun x9=>False) (fun x9 x9 e x9=>e) (fun x9 z=>z.elim) pre fr
 refine ⟨⟨r.old,r.lim,r.bare,r.os,r.tab,(ORs.move mv mvs (fun x9 x9 x9 e=>e) r.ors).append (.cons (ho mv) .nil),?_,fun a z=>(ea a z).elim (r.new a) fun z=>(ha a z).2.2,r.hid⟩,?_⟩
 ·have nd':=r.nd
  unfold Rho.all at nd'
  refine o03 (JA.mp nd') fun n1 n2 n3=>?_
  show ((ρ.rows++[p]).flatten++ρ.hid).Nodup
  rw[WB]
  refine JA.mpr ⟨JA.mpr ⟨n1,by simpa using nd,fun a hz c hc e=>?_⟩,n2,fun a hz c hc e=>?_⟩
  ·exact (ha c (by simpa using hc)).1 (e▸Rho.mem_rows hz)
  ·rcases mam hz with z|z
   ·exact n3 a z c hc e
   ·exact (ha a (by simpa using z)).1 (e▸Rho.mem_hid hc)
 ·show (ρ.rows++[p])[mem.length]?= _
  rw[OA (by rw[r.ors.length];exact MA _),r.ors.length,VB];rfl
theorem aEA(B:aC b){A:XA}{s:CA}{ρ:Rho}{Q:Unit→CA→Prop}{E:BA→CA→Prop}(r:R b ρ mem s){a:EA}{o:Obj}{fd:BD}{v:BA}(ho:s.heap.get? a=some o)(hc:o.cls=.type "function")(hd:o.dict=none)(a0:o.data=.func fd)
  (na:a∉ρ.all) (nb:b.s₁.heap.get? a=none)
  (q:∀h' tk,R b ρ mem { s with heap:=h',toks:=tk }→h'.get? a=some { o with dict:=some s.heap.objs.size }→h'.Ns1 s.heap.objs.size (fun x=>if x="header_encoding" then some v else none)→
   (∀c o',s.heap.get? c=some o'→c≠a→h'.get? c=some o')→Q () { s with heap:=h',toks:=tk }):FA b.M A (setAttr (.ref a) "header_encoding" v) Q E s:=by
 obtain ⟨hp,g,d,t,os⟩:=s
 have hT:∀(g:RA UE) (d:Drawn) (t:Nat) (os:QG),(⟨hp,g,d,t,os⟩:CA).TypeIs (.ref a) "function" :=fun x9 x9 x9 x9=>⟨o,ho,hc⟩
 unfold setAttr
 refine wb (wpAny_mkText (wb (PD (hT _ _ _ _) fn_slot_sa ?_)))
 refine CE (codeAny_call_builtin fn_slot_sa.plain PySem.F.store_object.entry (fn_slot_sa.check _ _ _ _ _ _ _ _ (hT _ _ _ _) (PySem.F.store_object.args _ _ _) ?_))
 rw[osa_eq,refuse_eq]
 refine wb (wb (NF (hT _ _ _ _) (wb ?_)))
 rw[aEz]
 refine wp ?_
 rw[aAa]
 refine wp (wb (NF (hT _ _ _ _) (wb ?_)))
 rw[aCu]
 refine wp (wb ?_)
 show FA b.M _ (pure none) _ _ _
 refine wp ?_
 show FA b.M _ (storeInOwnDict (.ref a) (.type "function") (.str "header_encoding" t) "header_encoding" v false) _ _ _
 unfold storeInOwnDict
 refine wb (wp ?_)
 show FA b.M _ (ownDictForStores (.ref a)>>=_) _ _ _
 refine wb ?_
 show FA b.M _ (instanceDict a true) _ _ _
 unfold instanceDict
 refine wb (OF ho ?_)
 rw[hc,hd]
 dsimp only
 rw[xH,a0]
 dsimp only
 let dd:Obj:={ cls:=.type "dict",data:=.dict #[] }
 refine wb (wpAny_alloc (o:=dd) ?_)
 have hs:a≠hp.objs.size:=GC (DB ho)
 have ha1:(hp.push dd).get? a=some o:=gps _ ho
 refine wb (wpAny_update ha1 ?_)
 rw[aDo]
 refine wp ?_
 show FA b.M _ (storeInDict hp.objs.size (.str "header_encoding" t) "header_encoding" v) _ _ _
 let fo:Obj→Obj:=fun o=>{ o with dict:=some hp.objs.size }
 let h2:PB:=(hp.push dd).update a fo
 have sb2:ZD a (hp.push dd) h2:=QB ..
 have hd2:h2.get? hp.objs.size=some dd:=(sb2.2 _ (Ne.symm hs)).trans (gpz _ rfl)
 have ha2:h2.get? a=some (fo o):=XD (h:=hp.push dd) fo ha1 (nF (show (fo o).data=.func fd from a0))
 have n1:h2.Ns1 hp.objs.size fun x9=>none:=Heap.Ns1.of_empty ⟨dd,#[],0,hd2,rfl,fun e he=>absurd he (by simp),fun x9=>rfl⟩
 have r1:=r.push dd g r.bare d (t+1)
 have free:∀{hh:PB}{o':Obj},hh.get? a=some o'→o'.data=.func fd→Free hh ρ a:=fun e ed=>.inr (.inr ⟨_,e,fun its n z=>by rw[ed] at z;cases z⟩)
 have r2:=r1.same B (h':=h2) sb2 nb na (free ha1 a0) g r.bare d (t+1)
 have nd:hp.objs.size∉ρ.all:=fun z=>JB _ (r.lt z)
 unfold storeInDict newKeyGuard
 refine wb (wp (wb (wpAny_nsSet1 (show Heap.Ns1 (⟨h2,g,d,t+1,os⟩:CA).heap hp.objs.size _ from n1) fun h' hn' hs'=>?_)))
 have r3:=r2.same B (h':=h') hs' r.fresh nd (.ns n1.ns) g r.bare d (t+1+1)
 refine o33 (hn'.count (Within.cons (ns:=[]) "header_encoding" v (fun y hy=>absurd rfl hy))) fun oD esD epD hoD hdD hcD=>?_
 refine wb (wpAny_lookBehind hoD (by rw[hdD];exact pastItsLine_dict (GA hcD (by rw[HB];decide))) ?_)
 refine wp (wp (q h' (t+1+1) r3 ((hs'.2 a hs).trans ha2) hn' fun c o' e nc=>?_))
 have nc2:c≠hp.objs.size:=GC (DB e)
 exact (hs'.2 c nc2).trans ((sb2.2 c nc).trans (gps _ e))
theorem aFN(B:aC b){i:Nat}{at_:AA (Str×AV)}{v:AV}(e:mem[i]?= some (.fn at_))(ha:at_.lookup ("header_encoding" : Str)=some v)(hh:DA (v.handed=true) q9):
  AttrV b h (.obj i) "header_encoding" mem v mem:=fun A s ρ mo ex Q E hA r ho q=>by
 refine o12 (r.ors.get _ _ e) fun p e1 e2=>?_
 cases ho with|obj e3=>
 rw[e1] at e3;replace e3:=si e3;subst e3
 cases e2 with|fn eo hc hod hd=>
 rename_i a d o
 refine o12 hd fun m x0 hm=>?_;clear hd;refine o35 x0 fun od es ep e4 e5 e6 eu e7=>?_;clear x0
 have z:=hm "header_encoding"
 rw[ha] at z
 refine o12 z fun mv z1 z2=>?_;clear z
 have qq:=q ρ { s with toks:=s.toks+1 } mv (r.toks _) ((Ext.refl _ _ _).toks _) z2
 have hmv:=z2.handed hh
 obtain ⟨hp,g,dr,t,os⟩:=s
 have hT:∀(g:RA UE) (d:Drawn) (t:Nat) (os:QG),(⟨hp,g,d,t,os⟩:CA).TypeIs (.ref a) "function" :=fun x9 x9 x9 x9=>⟨o,eo,hc.1⟩
 unfold getAttr getAttrBy
 refine wb (wpAny_mkText (TA (wb (NF (hT _ _ _ _) (wb ?_)))))
 rw[aCv]
 refine wp ?_
 show FA _ _ (getAttrByItsOwn _ _ _ _ _ _) _ _ _
 unfold getAttrByItsOwn hookBefore callGetattribute boundAndCalled
 refine wb (wp ?_)
 refine wb (NE (TA ?_))
 rw[show (ex && onTheHeap (Value.builtin "object.__getattribute__"))=false from by cases ex <;> rfl,AB (by decide)]
 refine wb (IC (fn_slot_ga.bind _) ?_)
 refine CB (Q:=fun r s'=>r=mv∧s'=⟨hp,g,dr,t+1,os⟩) (E:=fun x9 x9=>False) ?_ (fun r s' hr=>?_) fun x9 x9 z=>z.elim
 ·show FA _ _ (call (.builtin "object.__getattribute__") [.ref a,.str "header_encoding" t]) _ _ _
  refine OD fn_slot_ga (hT _ _ _ _) uP ?_ (xG _ _)
  unfold Builtin.«object.__getattribute__»
  refine wb (IC (a:=(.ref a,[Value.str "header_encoding" t])) rfl ?_)
  dsimp only
  refine wb (IC (a:=("header_encoding" : Str)) rfl ?_)
  refine wb (NF (hT _ _ _ _) ?_)
  unfold find
  refine wb (wb ?_)
  rw[aCu]
  refine wp (wb (wp (wb (wp ?_))))
  show FA _ _ (ownThenClass (.ref a) "header_encoding" none none) _ _ _
  unfold ownThenClass inOwnDict ObjectAttr.ownDict
  refine wb (wb (wb ?_))
  show FA _ _ (loadPart a (some headPart)) _ _ _
  refine OF eo ?_
  refine o11 hc.2 fun fd hfd=>?_
  rw[hfd]
  show FA _ _ (instanceDict a false) _ _ _
  unfold instanceDict
  refine wb (OF eo ?_)
  rw[hc.1,hod]
  refine wp ?_
  show FA _ _ (nsGet d "header_encoding") _ _ _
  refine wpAny_nsGet (m:=m) ⟨od,es,ep,e4,e5,e6,e7⟩ ?_
  rw[z1]
  exact wb (ZE (wp (wp ⟨_,rfl,rfl,rfl⟩)))
 ·refine o02 hr fun x0 x1=>?_;clear hr;subst x0;subst x1
  show FA _ _ (handedOut r) _ _ _
  rw[handedOut_of hmv];exact wp qq
end
end
section
variable {b:Bs}{h k:Nat}{F:EA→Env}{loc loc':AA (Str×AV)}{mem m3:AA AO}{v:AV}{out:AOut}{pos p1 p2 p3 p4 p5 p6:Pos}
theorem aEB(B:aC b){t:EA×EA×RA BA}(ht:t∈b.tabs){ρ:Rho}{s:CA}(r:R b ρ mem s){A:XA}{env:Env}{Q:BA→CA→Prop}{E:BA→CA→Prop}{params:Arguments}{body:Expr}{scope:Scope}(hc:env.code=.ref t.1)
  (hg:env.globals=TB) (hdef:defaultsOf params env=([],[])) (hcl:closureFor scope env=pure [])
  (q:∀h1 tk o fd,Grown b t s { s with heap:=h1 }→o.cls=.type "function" →o.dict=none→o.data=.func fd→Q (.ref h1.objs.size) { s with heap:=h1.push o,toks:=tk }):
  FA b.M A (eval (.Lambda params body scope pos) env) Q E s:=by
 refine o12 (r.isCode B ht) fun more h1 h2=>?_
 have C:=CodeHd.of h2 h1
 have htr:TriplesOk (t.2.2++more).toList:=by
  refine o41 h2 fun o vs file tf x0=>?_;clear h2;refine o41 x0 fun flags tg inF text x5=>?_;clear x0;refine o25 x5 fun tt op x9 x9 x9 x9 x6=>?_;clear x5;refine o07 x6 fun x9 x9 x9 x9 x9 htr x9=>?_;clear x6
  exact htr
 refine o31 (r.bmain B) fun mg bm ob x0=>?_;refine o07 x0 fun b0 b1 b2 b3 b4 b5 b6=>?_;clear x0
 have hgP:TB≠t.2.1:=fun z=>by
  refine o33 b0 fun o es ep e hd x9=>?_;clear b0
  rw[z,h1.2] at e;replace e:=si e;subst e;cases hd
 have hbP:bm≠t.2.1:=fun z=>by rw[z,h1.2] at b3;replace b3:=si b3;subst b3;cases b4
 have hbG:bm≠TB:=fun z=>by
  refine o33 b0 fun o es ep e hd x9=>?_;clear b0
  rw[z,e] at b3;replace b3:=si b3;subst b3;rw[hd] at b6;cases b6
 refine kla_eval hdef ?_
 cases e:codeAmong pos (t.2.2++more).toList with
 | none=>
  refine kla_makeFunction (mg:=mg) hcl hg b0 hc C h1.2 htr e hgP ⟨bm,ob,b1,b2,hbG,hbP,b3,b4,b5,b6⟩ fun c' ctv h' tk hx hge hlt hrec htb=>?_
  refine q h' tk _ _ ⟨fun c o e1 hn=>hx c o hn e1,⟨more,#[rawInt pos.line,rawInt pos.col,.ref c'],h1,?_,?_⟩,r.bare,rfl⟩ rfl rfl rfl
  ·refine o41 C fun o vs file tf x0=>?_;clear C;refine o41 x0 fun flags tg inF text x5=>?_;clear x0;refine o13 x5 fun tt e1 e2 x6=>?_;clear x5;refine o08 x6 fun e3 e4 e5 e6 e7 e8 e9 e10=>?_;clear x6
   exact ⟨⟨o,vs,hx _ _ e10 e1,e2,e3,e4⟩,htb⟩
  ·rw[QF]
   exact TriplesOk_snoc _ _ _ _ htr
 | some c'=>
  refine kla_makeFunctionHit (mg:=mg) hcl hg b0 hc C h1.2 htr e ⟨bm,ob,b1,b2,hbG,hbP,b3,b4,b5,b6⟩ fun ctv h' tk hk hsz=>?_
  exact q h' tk _ _ ⟨fun c o e1 x9=>hk c o e1,⟨more,#[],h1,by simpa using ⟨by
   refine o02 h1 fun x0 e3=>?_;clear h1;refine o22 x0 fun o vs e1 e2=>?_;clear x0
   exact ⟨o,vs,hk _ _ e1,e2⟩,hk _ _ h1.2⟩,by simpa using htr⟩,r.bare,rfl⟩ rfl rfl rfl
theorem aFO(B:aC b)(f:aS F){t:EA×EA×RA BA}(ht:t∈b.tabs){x:Str}{params:Arguments}{body:Expr}{scope:Scope}{rest:AA VD}
  (hcode:∀L,(F L).code=.ref t.1) (hdef:∀L,defaultsOf params (F L)=([],[])) (hcl:∀L,closureFor scope (F L)=pure []) (hcs:∀L,(F L).cells=[]) (hlx:∀L,(F L).kindOf x=some .local) (hdx:(x == ("__debug__" : Str))=false)
  (hs1:∀L,swapsWith (.Lambda params body scope p2) (some (.Name x p3)) p1.line (F L)=pure false)
  (y:aI b h F rest [(x,.obj mem.length)] (mem++[.fn [(("header_encoding" : Str),.none)]]) out loc' m3):
  aI b h F (.Assign [.Name x p3] (.Lambda params body scope p2) p1 :: .Assign [.Attribute (.Name x p4) "header_encoding" p5] (.Constant .none k pos) p6 :: rest) [] mem out loc' m3:=fun A s ρ L Q E hA r fm q=>by
 refine AE (wpAny_Assign_Name (aEB B ht r (hcode L) (f.globals L) (hdef L) (hcl L) fun h1 tk o fd G hc hd hdat=>?_) (hs1 L))
 refine o02 (G.r B ht r) fun r1 x1=>?_
 have r2:=r1.push o s.gens r.bare s.drawn tk
 have x2:Ext NoS ρ { s with heap:=h1 } ρ ⟨h1.push o,s.gens,s.drawn,tk,s.os⟩:=Ext.of_keeps _ _ fun c o' e=>gps _ e
 refine cJ (v:=.val (.ref h1.objs.size)) B f r2 ((fm.ext x1).ext x2) (.val _) (.loc (hlx L) (by rw[hcs L];rfl)) fun s3 r3 f3 x3=>?_
 have kpo:Kp o:=.cls hc
 have fr0:h1.objs.size∉ρ.all:=fun z=>JB _ (r1.lt z)
 have nb0:b.s₁.heap.get? h1.objs.size=none:=r1.fresh
 have nL:h1.objs.size≠L:=fun z=>by
  refine o12 ((fm.ext x1).ns) fun m x0 x9=>?_;refine o32 x0 fun o2 es ep e x9=>?_;clear x0
  have:=DB e
  rw[← z] at this;exact JB _ this
 have ho3:s3.heap.get? h1.objs.size=some o:=x3.keep _ _ (gpz _ (nF hdat)) (fun z=>by
  rcases z with z|⟨p,hp,_⟩
  ·exact nL z
  ·rw[hcs L] at hp;cases hp) (fun z=>fr0 (Rho.mem_rows z)) kpo
 refine AE (plainObj_wpAny_Assign_Attribute (wpAny_Constant_none ?_) rfl)
 refine dW (v:=.val (.ref h1.objs.size)) (loc:=putL x (.val (.ref h1.objs.size)) []) (h:=h) f (by show IF x [(x,_)]=_;simp) (fun L=>by rw[hcs L];rfl) hlx hdx A s3 ρ L _ E hA r3 f3 fun ρ4 s4 mv r4 x4 hv=>?_
 cases hv
 have ho4:=x4.keep _ _ ho3 (fun z=>z) (fun z=>fr0 (Rho.mem_rows z)) kpo
 have na4:h1.objs.size∉ρ4.all:=fun z=>by
  rcases x4.all _ z with z|z
  ·exact fr0 z
  ·rw[ho3] at z;cases z
 refine aEA B r4 ho4 hc hd hdat na4 nb0 fun h5 tk5 r5 ha5 hn5 kp5=>?_
 have had:h1.objs.size≠s4.heap.objs.size:=GC (DB ho4)
 have nd4:s4.heap.objs.size∉ρ4.all:=fun z=>JB _ (r4.lt z)
 have f4:=f3.ext x4
 refine o02 (r5.adopt (p:=[h1.objs.size,s4.heap.objs.size]) (ao:=.fn [(("header_encoding" : Str),.none)]) (fun a ha=>by
  rcases NA.mp ha with rfl|ha
  ·exact ⟨na4,.inr (.inr ⟨_,ha5,fun its n z=>by rw[show Obj.data _=o.data from rfl,hdat] at z;cases z⟩),nb0⟩
  ·rcases NA.mp ha with rfl|ha
   ·exact ⟨nd4,.ns hn5.ns,r4.fresh⟩
   ·cases ha) (by simpa using had) (fun mv=>.fn ha5 ⟨hc,fd,hdat⟩ rfl ⟨_,hn5,fun y=>by
    by_cases hy:y="header_encoding"
    ·subst hy;exact ⟨.none,rfl,.none⟩
    ·rw[show IF y [(("header_encoding" : Str),AV.none)]=none from by rw[List.lookup_cons,show (y == ("header_encoding" : Str))=false from by simpa using hy];rfl]
     exact AB hy⟩)) fun r6 row=>?_
 have x14:Ext (bJ L (F L).cells) ρ s ρ4 s4:=(((x1.mono fun x9 z=>z.elim).trans (x2.mono fun x9 z=>z.elim)).trans x3).trans (x4.mono fun x9 z=>z.elim)
 have sa:∀c o',s.heap.get? c=some o'→c≠h1.objs.size:=fun c o' e z=>by
  refine o11 (x1.live c o' e) fun o2 e2=>?_
  have:=DB e2
  rw[z] at this;exact JB _ this
 have nS:s.heap.get? h1.objs.size=none:=by
  cases e:s.heap.get? h1.objs.size with
  | none=>rfl
  | some o'=>exact absurd rfl (sa _ _ e)
 have nS4:s.heap.get? s4.heap.objs.size=none:=by
  cases e:s.heap.get? s4.heap.objs.size with
  | none=>rfl
  | some o'=>refine o11 (x14.live _ _ e) fun o2 e2=>?_;exact absurd (DB e2) (JB _)
 have x15:Ext (bJ L (F L).cells) ρ s (ρ4.add [h1.objs.size,s4.heap.objs.size]) { s4 with heap:=h5,toks:=tk5 }:=by
  refine ⟨fun c o' e hS hb kq=>kp5 c o' (x14.keep c o' e hS hb kq) (sa c o' e),fun i p e=>?_,fun a ha=>?_,x14.hid,fun c o' e=>?_⟩
  ·have e:=x14.pre i p e
   show (ρ4.rows++_)[i]?= _;rw[CC (List.getElem?_eq_some_iff.mp e).1];exact e
  ·have ha':a∈ρ4.rows.flatten++[h1.objs.size,s4.heap.objs.size]:=by simpa [Rho.add] using ha
   rcases mam ha' with z|z
   ·exact x14.new a z
   ·rcases NA.mp z with rfl|z
    ·exact .inr nS
    ·rcases NA.mp z with rfl|z
     ·exact .inr nS4
     ·cases z
  ·refine o11 (x14.live c o' e) fun o2 e2=>?_
   exact ⟨o2,kp5 c o2 e2 (sa c o' e)⟩
 have eL:∀c,bJ L (F L).cells c→c=L:=fun c hc=>by
  rcases hc with z|⟨p,hp,_⟩
  ·exact z
  ·rw[hcs L] at hp;cases hp
 refine o12 f4.ns fun m hn hm=>?_
 have hLs:L < s4.heap.objs.size:=by refine o32 hn fun o2 es ep e x9=>?_;clear hn;exact DB e
 have f6:Fm b L (F L).cells (ρ4.add [h1.objs.size,s4.heap.objs.size]) [(x,.obj mem.length)] { s4 with heap:=h5,toks:=tk5 }:=by
  refine ⟨⟨m,?_,fun y w hy=>?_⟩,fun c hc=>⟨fun z=>?_,(f4.off c hc).2⟩,fun p hp=>?_,f4.apart⟩
  ·refine o32 hn fun o2 es ep e q=>?_;clear hn
   exact ⟨o2,es,ep,kp5 _ _ e (Ne.symm nL),q⟩
  ·have z:=hm x (.val (.ref h1.objs.size)) (by show IF x [(x,_)]=_;simp)
   rw[List.lookup_cons] at hy
   cases hyx:y == x with
   | false=>rw[hyx] at hy;cases hy
   | true=>
    rw[hyx] at hy
    replace hy:=si hy;subst hy
    obtain rfl:y=x:=by simpa using hyx
    unfold bO at z ⊢
    rw[hcs L] at z ⊢
    refine o12 z fun mv z1 z2=>?_;clear z
    cases z2
    exact ⟨_,z1,.obj row⟩
  ·rw[eL c hc] at z
   have z':L∈(ρ4.rows.flatten++[h1.objs.size,s4.heap.objs.size])++ρ4.hid:=by simpa [Rho.add,Rho.all] using z
   rcases mam z' with z|z
   ·rcases mam z with z|z
    ·exact (f4.off L (.inl rfl)).1 (Rho.mem_rows z)
    ·rcases NA.mp z with z|z
     ·exact nL z.symm
     ·rcases NA.mp z with z|z
      ·rw[← z] at hLs;exact JB _ hLs
      ·cases z
   ·exact (f4.off L (.inl rfl)).1 (Rho.mem_hid z)
  ·rw[hcs L] at hp;cases hp
 exact y A _ _ L Q E hA r6 f6 fun ρ7 s7 fl r7 f7 x7 o7=>q ρ7 s7 fl r7 f7 (x15.trans x7) o7
end
section
open Builtin Builtin.Re
theorem jV:Slot "re.Pattern" "split" "re.Pattern.split" :=
 .of (owner:="re.Pattern") (n:="split") (by rw[YD,MC];kernel_rfl) (by decide +kernel) (by decide +kernel) (by decide +kernel)
  (by rw[PySem.W.S.findZ_eq];first|exact .inl (by decide +kernel)|exact .inr (by decide +kernel)) (by rw[AF];kernel_rfl)
theorem oO:EG table "re.Pattern.split" = some Builtin.«re.Pattern.split»:=KG (by kernel_rfl)
theorem qX(a c:BA):argsOk "re.Pattern.split" ⟨[a,c],[]⟩:=by unfold argsOk;rw[PySem.W.S.signatureZ_eq];kernel_rfl
theorem aBI(v:BA):reNamed "re.Pattern.split" "split" ["string","maxsplit"] 1 [v] []=pure [some v,none]:=by kernel_rfl
noncomputable abbrev fA:=RA BA×Nat×Nat×NB×Int×NB
noncomputable def splitBody(t:ReTarget)(x:Nat)(st:fA):Sem (ForInStep fA):=
 if (!st.2.2.2.2.2)=true then do
  let r ← if (0 != 0 && decide (st.2.2.2.2.1≥0))=true then pure none else reNextFound t st.2.1 st.2.2.2.1
  match r with
  | none=>pure (ForInStep.yield (st.1,st.2.1,st.2.2.1,st.2.2.2.1,st.2.2.2.2.1,true))
  | some m=>do
   let v ← reSlice t.text t.kind st.2.2.1 m.start
   let out ← forIn (List.range t.groups) (st.1.push v) fun g out=>do
    let w ← reMachineGroup t m (g+1) (pure Value.none)
    pure (ForInStep.yield (out.push w))
   pure (ForInStep.yield (out,m.handed,m.handed,m.handed == m.start,st.2.2.2.2.1+1,st.2.2.2.2.2))
 else pure (ForInStep.yield (st.1,st.2.1,st.2.2.1,st.2.2.2.1,st.2.2.2.2.1,st.2.2.2.2.2))
noncomputable def splitTail(t:ReTarget)(st:fA):Sem Fin:=
 if (!st.2.2.2.2.2)=true then do
  let _ ← (unsupported "internal:re:more-matches-than-can-be" : Sem PUnit)
  let v ← reSlice t.text t.kind st.2.2.1 t.lim
  let l ← newList (st.1.push v).toList
  ret l
 else do
  let v ← reSlice t.text t.kind st.2.2.1 t.lim
  let l ← newList (st.1.push v).toList
  ret l
theorem uQ(p s:BA):Builtin.«re.Pattern.split» ⟨[p,s],[]⟩=(do
  let t ← reWholeTarget p s
  let st ← forIn (List.range (reMostMatches t)) ((#[],0,0,false,0,false):fA) (splitBody t)
  splitTail t st):=by
 unfold Builtin.«re.Pattern.split»
 dsimp only
 rw[aBI]
 simp only[pure_bind]
 rfl
section
variable {M:WH}{A:XA}{E:BA→CA→Prop}{s:CA}
theorem sS{Q:Sre.M→CA→Prop}:∀(turns n:Nat) (m:Sre.M),1≤n→n≤4 * turns→(ZC n m).outcome.isSome=true→Q (ZC n m) s→FA M A (reDrive turns m) Q E s
 | 0,n,m,h1,h2,_,_=>absurd h2 (by lia)
 | turns+1,n,m,h1,h2,ho,q=>by
  unfold reDrive
  dsimp only
  rw[show reTurnSteps=4 from rfl]
  by_cases e:(ZC 4 m).outcome.isSome=true
  ·rw[OB e]
   have:ZC 4 m=ZC n m:=by
    by_cases hn:n≤4
    ·have:ZC (n+(4 - n)) m=ZC n m:=by rw[fB,dK ho]
     rwa [show n+(4 - n)=4 by lia] at this
    ·obtain ⟨k,rfl⟩:∃k,n=4+k:=⟨n - 4,by lia⟩
     rw[fB,dK e]
   rw[this];exact wp q
  ·rw[AB e]
   have hn:4 < n:=by
    by_cases hn:n≤4
    ·have:ZC (n+(4 - n)) m=ZC n m:=by rw[fB,dK ho]
     rw[show n+(4 - n)=4 by lia] at this
     rw[this] at e;exact absurd ho e
    ·lia
   obtain ⟨k,rfl⟩:∃k,n=4+k:=⟨n - 4,by lia⟩
   rw[fB] at ho q
   exact wb (ZE (sS turns k _ (by lia) (by lia) ho q))
theorem mI{Q:PUnit→CA→Prop}(c:Nat→NB)(nm:Nat→String)(q:Q PUnit.unit s):∀l:AA Nat,FA M A (forIn l PUnit.unit fun i x9=>if c i=true then do rule (nm i);pure (ForInStep.yield PUnit.unit) else pure (ForInStep.yield PUnit.unit)) Q E s
 | []=>wp q
 | i :: l=>by
  rw[XB]
  refine wb ?_
  cases c i with
  | true=>exact wb (ZE (wp (mI c nm q l)))
  | false=>exact wp (mI c nm q l)
theorem aBJ{Q:YA Sre.M→CA→Prop}{n:Nat}{m m':Sre.M}(h1:1≤n)(h2:n≤10000000000)(e:ZC n m=m')(ho:m'.outcome=some .matched∨m'.outcome=some .failed)(q:Q (if m'.outcome matches some .matched then some m' else none) s):
  FA M A (reRunToEnd m) Q E s:=by
 unfold reRunToEnd
 refine wb (sS (2 ^ 64) n m h1 (by exact lz) (by rw[e];rcases ho with h|h <;> rw[h] <;> rfl) ?_)
 rw[e]
 refine wb (mI _ _ ?_ _)
 rcases ho with h|h <;> rw[h] at q ⊢ <;> exact wp q
end
theorem aAb(text:RA Nat)(i:Nat):text.getD i 0=text.toList.getD i 0:=by
 obtain ⟨l⟩:=text
 rw[Array.getD_eq_getD_getElem?,XC]
 simp
theorem oP{text:RA Nat}{pre mid suf:AA Nat}(h:text.toList=pre++(mid++suf)):text.extract pre.length (pre.length+mid.length)=mid.toArray:=by
 obtain ⟨l⟩:=text
 subst h
 simp
theorem gS{text:RA Nat}{pre mid suf:AA Nat}(h:text.toList=pre++(mid++suf)){i:Nat}(hi:i < mid.length):text.getD (pre.length+i) 0=mid[i]:=by
 rw[aAb,h,XC,OA (by lia),Nat.add_sub_cancel_left,CC hi,EB hi];rfl
noncomputable def flatR:AA (Str×Str)→AA Nat
 | []=>[]
 | x :: r=>x.1.cps.toList++(x.2.cps.toList++flatR r)
noncomputable def partsR:AA (Str×Str)→AA Str
 | []=>[]
 | x :: r=>x.1 :: x.2 :: partsR r
noncomputable def noWs(x:Str):Prop:=∀c∈x.cps.toList,isWs c=false
noncomputable def allWs(x:Str):Prop:=x.cps.toList≠[]∧∀c∈x.cps.toList,isWs c=true
noncomputable def rowsOk:AA (Str×Str)→Prop
 | []=>True
 | x :: r=>allWs x.1∧noWs x.2∧(r=[]∨x.2.cps.toList≠[])∧rowsOk r
noncomputable def SV(l:AA Str)(vs:AA BA):Prop:=∀hp ρ,VRs hp ρ (l.map .str) vs
theorem SV.nil:SV [] []:=fun x9 x9=>.nil
theorem SV.cons{x:Str}{t:Tok}{l:AA Str}{vs:AA BA}(q:SV l vs):SV (x :: l) (.str x t :: vs):=fun hp ρ=>.cons (.str x t) (q hp ρ)
section
variable {M:WH}{A:XA}{E:BA→CA→Prop}{s:CA}
theorem mJ{text:RA Nat}{b e:Nat}{Q:BA→CA→Prop}(hz:text.size≤1000000)(q:Q (.str ⟨text.extract b e⟩ s.toks) { s with toks:=s.toks+1 }):FA M A (reSlice text 0 b e) Q E s:=by
 show FA M A (mkStr _) Q E s
 refine wpAny_mkStr q (hx:=?_)
 have:(text.extract b e).size≤text.size:=by simp;lia
 show (text.extract b e).size≤_
 rw[HB];lia
theorem vU(t:ReTarget)(i:Nat)(out:RA BA)(start last:Nat)(a0:NB)(n:Int):splitBody t i (out,start,last,a0,n,false)=(reNextFound t start a0>>=fun r=>match r with
  | none=>pure (.yield (out,start,last,a0,n,true))
  | some m=>reSlice t.text t.kind last m.start>>=fun v=>(forIn (List.range t.groups) (out.push v) (fun g out=>reMachineGroup t m (g+1) (pure .none)>>=fun w=>pure (.yield (out.push w))))>>=fun out=>pure (.yield (out,m.handed,m.handed,m.handed == m.start,n+1,false))):=rfl
theorem aAc(t:ReTarget)(i:Nat)(out:RA BA)(start last:Nat)(a0:NB)(n:Int):splitBody t i (out,start,last,a0,n,true)=pure (.yield (out,start,last,a0,n,true)):=rfl
theorem pV{t:ReTarget}{Q:fA→CA→Prop}{out:RA BA}{start last:Nat}{a0:NB}{n:Int}(q:Q (out,start,last,a0,n,true) s):∀l:AA Nat,FA M A (forIn l ((out,start,last,a0,n,true):fA) (splitBody t)) Q E s
 | []=>wp q
 | i :: l=>by
  rw[XB,aAc]
  exact wb (wp (pV q l))
theorem jG{Q:YA Sre.M→CA→Prop}{n:Nat}{m:Sre.M}(h2:n≤1000000000)(ho:(ZC n m).outcome=some .matched∨(ZC n m).outcome=some .failed)(q:Q (if (ZC n m).outcome matches some .matched then some (ZC n m) else none) s):
  FA M A (reRunToEnd m) Q E s:=by
 have e:ZC (n+1) m=ZC n m:=by rw[fB,dK (by rcases ho with h|h <;> rw[h] <;> rfl)]
 exact aBJ (n:=n+1) (by lia) (by lia) e ho q
theorem aBK{t:ReTarget}{m:Sre.M}{b e:Nat}{Q:BA→CA→Prop}(h1:m.lastmark=1)(h2:m.marks=#[some b,some e])(hbe:b≤e)(q:FA M A (reSlice t.text t.kind b e) Q E s):FA M A (reMachineGroup t m 1 (pure .none)) Q E s:=by
 unfold reMachineGroup
 rw[h1,h2,AB (by decide)]
 show FA M A (if e < b then _ else _) Q E s
 rw[AB (by lia)]
 exact q
theorem sT{text:RA Nat}{pat str:BA}(hz:text.size≤1000000):∀(rows:AA (Str×Str)) (pre:AA Nat) (p0:Str) (out:RA BA) (n:Int) (l:AA Nat) (hp:PB) (g:RA UE) (d:Drawn) (tk:Nat) (os:QG) (Q:fA→CA→Prop),
  rows.length < l.length→text.toList=pre++(p0.cps.toList++flatR rows)→noWs p0→rowsOk rows→
  (∀out' last must n' tk' vs,out'.toList=out.toList++vs→(∀t,SV (p0 :: partsR rows) (vs++[.str ⟨text.extract last text.size⟩ t]))→Q (out',last,last,must,n',true) ⟨hp,g,d,tk',os⟩)→
  FA M A (forIn l ((out,pre.length,pre.length,false,n,false):fA) (splitBody ⟨pat,str,CW,text,0,1,0,text.size⟩)) Q E ⟨hp,g,d,tk,os⟩
 | [],pre,p0,out,n,[],hp,g,d,tk,os,Q,hl,ht,h1,h2,q=>absurd hl (by simp)
 | [],pre,p0,out,n,i :: l,hp,g,d,tk,os,Q,hl,ht,h1,h2,q=>by
  rw[XB,vU]
  have hsz:text.size=pre.length+p0.cps.toList.length:=by
   have:=RB List.length ht
   simp[flatR] at this
   simpa using this
  refine o12 (uE (text:=text) (lim:=text.size) (start:=pre.length) false (by lia) (fun i hi hj=>by
   obtain ⟨j,rfl⟩:∃j,i=pre.length+j:=⟨i - pre.length,by lia⟩
   rw[gS ht (by lia)]
   exact h1 _ (BG _))) fun k e1 e2=>?_
  refine wb (wb ?_)
  unfold reNextFound
  refine jG (n:=k) (by lia) (.inr e2) ?_
  rw[e2]
  refine wp (pV (q out pre.length false n tk [] (by simp) fun t=>?_) l)
  have:text.extract pre.length text.size=p0.cps:=by
   rw[hsz,oP ht]
  rw[this]
  exact .cons .nil
 | (w,p) :: rows,pre,p0,out,n,[],hp,g,d,tk,os,Q,hl,ht,h1,h2,q=>absurd hl (by simp)
 | (w,p) :: rows,pre,p0,out,n,i :: l,hp,g,d,tk,os,Q,hl,ht,h1,h2,q=>by
  rw[XB,vU]
  refine o04 h2 fun hw hp1 hp2 hr=>?_;clear h2
  have ht1:text.toList=pre++(p0.cps.toList++(w.cps.toList++(p.cps.toList++flatR rows))):=ht
  have ht2:text.toList=(pre++p0.cps.toList)++(w.cps.toList++(p.cps.toList++flatR rows)):=by rw[ht1];simp
  have ht3:text.toList=(pre++p0.cps.toList++w.cps.toList)++(p.cps.toList++flatR rows):=by rw[ht1];simp
  have hsz:text.size=pre.length+(p0.cps.toList.length+(w.cps.toList.length+(p.cps.toList.length+(flatR rows).length))):=by
   have:=RB List.length ht1
   simp at this
   simpa using this
  have hw1:1≤w.cps.toList.length:=by
   rcases List.eq_nil_or_concat w.cps.toList with e|⟨a,c,e⟩
   ·exact absurd e hw.1
   ·rw[e];simp
  refine o21 (yT (text:=text) (lim:=text.size) (start:=pre.length) (b:=(pre++p0.cps.toList).length) (k:=w.cps.toList.length) false hw1 (by rw[PA];lia) (by exact lz) (by rw[PA];lia)
   (fun i hi=>by rw[gS ht2 hi];exact hw.2 _ (BG _))
   (by
    rcases hp2 with e|e
    ·subst e
     by_cases hp0:p.cps.toList=[]
     ·left;rw[hsz,hp0];simp[flatR];lia
     ·right
      have:0 < p.cps.toList.length:=List.length_pos_iff.mpr hp0
      have z:=gS ht3 this
      rw[← PA,← Nat.add_zero ((pre++p0.cps.toList++w.cps.toList).length),z]
      exact hp1 _ (BG _)
    ·right
     have:0 < p.cps.toList.length:=List.length_pos_iff.mpr e
     have z:=gS ht3 this
     rw[← PA,← Nat.add_zero ((pre++p0.cps.toList++w.cps.toList).length),z]
     exact hp1 _ (BG _))
   (fun i hi hj=>by
    obtain ⟨j,rfl⟩:∃j,i=pre.length+j:=⟨i - pre.length,by lia⟩
    rw[PA] at hj
    rw[gS ht1 (by lia)]
    exact h1 _ (BG _))) fun k m x0=>?_;refine o07 x0 fun e1 e2 e3 e4 e5 e6 e7=>?_;clear x0
  refine wb (wb ?_)
  unfold reNextFound
  refine jG (n:=k) (by lia) (.inl (by rw[e2];exact e3)) ?_
  rw[e2,e3]
  show FA M A (reSlice text 0 pre.length m.start>>=_) _ _ _
  refine wb (mJ hz (wb ?_))
  show FA M A (forIn [0] _ _) _ _ _
  rw[XB]
  refine wb (wb (aBK e6 e7 (by lia) (mJ hz (wp ?_))))
  refine wp (wp ?_)
  rw[e5,e4]
  have hne:((pre++p0.cps.toList).length+w.cps.toList.length == (pre++p0.cps.toList).length)=false:=beq_eq_false_iff_ne.mpr (by lia)
  rw[hne,← PA]
  refine sT hz rows (pre++p0.cps.toList++w.cps.toList) p _ (n+1) l hp g d _ os Q (by simpa using hl) ht3 hp1 hr fun out' last must n' tk' vs h3 h4=>?_
  refine q out' last must n' tk' (.str p0 tk :: .str w (tk+1) :: vs) ?_ fun t=>.cons (.cons (h4 t))
  have x1:=oP ht1
  have x2:=oP ht2
  rw[h3,MF,MF]
  rw[PA,x1]
  rw[← PA (as:=pre),PA (bs:=w.cps.toList)]
  show ((out.toList++[Value.str ⟨p0.cps.toList.toArray⟩ tk])++[Value.str ⟨text.extract (pre++p0.cps.toList).length ((pre++p0.cps.toList).length+w.cps.toList.length)⟩ (tk+1)])++vs=_
  rw[x2]
  simp
end
end
section
open Builtin Builtin.Re
theorem aFP:PlainAttrs "re.Pattern" :=⟨⟨"object.__getattribute__",by rw[YD,MC];kernel_rfl,by rw[PySem.W.S.canonicalZ_eq];kernel_rfl⟩,by rw[YD,MC];kernel_rfl⟩
theorem qY:typeOf (.builtin "re.Pattern.split")=pure (.type "method_descriptor"):=by show builtinType _=_;rw[builtinType_eq_fast];kernel_rfl
noncomputable def reIn(K:Frag)(a:EA):Prop:=∃o vs c oc its n,K.lookup a=some o∧o.cls=.type "re.Pattern" ∧o.dict=none∧o.data=.fields vs∧vs.getD 5 .none=.ref c∧reRawNat (vs.getD 6 .none)=0∧reRawNat (vs.getD 2 .none)=1∧K.lookup c=some oc∧oc.data=.seq its n∧(its.map reRawOf).map (·.toNat)=CW
section
variable {b:Bs}{h:Nat}{mem:AA AO}
theorem uR(B:aC b){a:EA}(hi:reIn b.K a):dN b h (.val (.ref a)) "split" mem (.builtin "re.Pattern.split") [.val (.ref a)]:=fun A s ρ mo pl Q E hA r ho q=>by
 cases ho
 refine o41 hi fun o vs c oc x0=>?_;clear hi;refine o24 x0 fun its n e hc hd x9=>?_;clear x0
 have e':=r.kin B a o e
 exact getMethod_builtin ⟨o,e',hc⟩ aFP jV qY (fun x hx=>by cases hx;exact ⟨o,e',hd⟩) (q s _ r (Ext.refl _ _ _) (.cons (.val _) .nil))
theorem uS(B:aC b){a:EA}(hi:reIn b.K a){x p0:Str}{rows:AA (Str×Str)}(hx:x.cps.toList=p0.cps.toList++flatR rows)(hz:x.cps.size≤1000000)(hr:rows.length≤1000000)(h1:noWs p0)(h2:rowsOk rows)(hl:rows.length≤x.cps.size):
  aF b h (.builtin "re.Pattern.split") [.val (.ref a),.str x] mem (.obj mem.length) (mem++[.lst ((p0 :: partsR rows).map .str)]):=fun A s ρ mvs Q E hA r hv q=>by
 cases hv with|cons h3 hv=>cases hv with|cons h4 hv=>
 cases hv;cases h3;cases h4 with|str t=>
 refine o41 hi fun o vs c oc x0=>?_;clear hi;refine o24 x0 fun its n e hc hd x2=>?_;clear x0;refine o07 x2 fun hdat v5 v6 v2 ec hoc hcode=>?_;clear x2
 have e':=r.kin B a o e
 have ec':=r.kin B c oc ec
 obtain ⟨hp,g,d,tk,os⟩:=s
 refine OD jV ⟨o,e',hc⟩ oO ?_ (qX _ _)
 rw[uQ]
 refine wb ?_
 unfold reWholeTarget
 refine wb (wpAny_fieldsOf e' hdat ?_)
 refine wb (IC (a:=(x.cps,0)) rfl ?_)
 dsimp only
 rw[v6]
 rw[AB (by decide)]
 rw[AB (by decide),v5,v2]
 refine wb (wp ?_)
 unfold reRawItems
 refine wb (wb (VC ec' hoc ?_))
 refine wp ?_
 show FA _ _ (pure _) _ _ _
 rw[show Array.map (fun x=>x.toNat) (((some its).getD #[]).map reRawOf)=CW from hcode]
 refine wp (wb ?_)
 refine sT (pat:=.ref a) (str:=.str x t) hz rows [] p0 #[] 0 _ hp g d tk os _ (by rw[List.length_range];show rows.length < 2 * x.cps.size+3;lia) (by rw[hx];rfl) h1 h2 fun out' last must n' tk' ws h3 h4=>?_
 have hw:ws.length+1=(p0 :: partsR rows).length:=by
  have z:=(h4 0 hp ρ).length
  rw[BB,PA] at z
  exact z
 have hpl:∀rows:AA (Str×Str),(partsR rows).length=2 * rows.length:=fun rows=>by
  induction rows with
  | nil=>rfl
  | cons x r ih=>show (partsR r).length+1+1=_;rw[ih,UA];lia
 unfold splitTail
 show FA _ _ (if (!true)=true then _ else _) _ _ _
 rw[AB (by decide)]
 refine wb (mJ hz (wb (wpAny_newList ?_ (hsz:=?_))))
 ·refine wp ⟨_,rfl,?_⟩
  have eo:(out'.push (Value.str ⟨x.cps.extract last x.cps.size⟩ tk')).toList=ws++[.str ⟨x.cps.extract last x.cps.size⟩ tk']:=by rw[MF,h3];rfl
  refine o02 ((r.toks (tk'+1)).alloc1 { cls:=.type "list",data:=.seq (out'.push (Value.str ⟨x.cps.extract last x.cps.size⟩ tk')).toList.toArray } (.lst ((p0 :: partsR rows).map .str)) (.lst (n:=0) (gpz _ rfl) (by
   rw[List.toList_toArray,eo]
   exact h4 tk' _ _))) fun r1 x1=>?_
  exact q _ _ _ r1 (((Ext.refl NoS ρ _).toks (tk'+1)).trans x1) (.obj (r:=[]) (by show (ρ.rows++_)[mem.length]?= _;rw[OA (by rw[r.ors.length];exact MA _),r.ors.length,VB];rfl))
 ·rw[MF,h3]
  show (([]++ws)++[_]).length≤_
  rw[HB,List.nil_append,PA,IE,hw,UA,hpl]
  lia
end
end
section
open Builtin
noncomputable abbrev zH1(h:PB)(it:EA):PB:=h.push { cls:=.type "tuple",data:=.seq #[.ref it,.ref it] }
noncomputable abbrev zH2(h:PB)(it:EA):PB:=(zH1 h it).push { cls:=.type "tuple",data:=.seq #[.none,.none] }
noncomputable abbrev zH3(h:PB)(it:EA):PB:=(zH2 h it).push { cls:=.type "zip",data:=.fields #[.none,.bool false,.bool false,.ref h.objs.size,.ref (zH1 h it).objs.size] }
theorem sU(it l:EA):
  Meets (Builtin.«zip.__new__» ⟨[.type "zip",.ref it,.ref it],[]⟩) (fun x9 R s=>s.heap.IsListIter it l 0∧R (.ok (.ret (.ref (zH2 s.heap it).objs.size))) { s with heap:=zH3 s.heap it }):=
 .of_wp fun prog w A R s h=>by
  obtain ⟨hp,g,d,tk,os⟩:=s;obtain ⟨hl1,h⟩:=h
  have hsub:=sub_zip
  have hL1:Heap.IsListIter (Shared.heap ⟨hp,g,d,tk,os⟩) it l 0:=hl1
  wp_walk using wpAny_pyIter_listiter hL1
  exact ⟨_,rfl,h⟩
section
variable {prog:RC}{w:HD}{A:XA}{E:BA→CA→Prop}{s:CA}
theorem uT{it l:EA}{Q:BA→CA→Prop}(hl:s.heap.IsListIter it l 0)(h:Q (.ref (zH2 s.heap it).objs.size) { s with heap:=zH3 s.heap it }):
  FA (model prog w) A (call (.type "zip") [.ref it,.ref it]) Q E s:=
 callType_new F.called_zip (by decide) (F.typeCall_zip_2 _ _) (F.newCall_zip_2 _ _) (fun obj=>F.args_object_init_3 obj _ _) F.entry_zip_new (sU it l) ⟨hl,⟨_,gpz _ rfl,rfl⟩,h⟩
theorem oQ{l:EA}{items:RA BA}{Q:BA→CA→Prop}(hl:s.heap.IsList l items)(h:Q (.ref s.heap.objs.size) { s with heap:=s.heap.push { cls:=.type "list_iterator",data:=.fields #[.ref l,.int 0 0] } }):
  FA (model prog w) A (call (.builtin "iter") [.ref l]) Q E s:=by
 refine call_function_entry (by decide +kernel) (by decide +kernel) kdk_entry_iter (kdk_args_iter _) ?_
 unfold Builtin.«iter»
 refine wb (m:=someArgs "iter" 1 2 _) (IC (a:=[Value.ref l]) (by first|rfl|kernel_rfl!) ?_)
 show FA _ _ (pyIter (.ref l)>>=_) _ _ _
 exact wb (wpAny_pyIter_list hl (wp ⟨_,rfl,h⟩))
theorem aDp{l:EA}{v:BA}{k:Nat}{u:Tok}{Q:BA→CA→Prop}(hl:s.heap.get? l=some { cls:=.type "list",dict:=none,data:=.seq #[v] k,slots:=#[] })
  (h:Q (.ref s.heap.objs.size) { s with heap:=s.heap.push { cls:=.type "list",data:=.seq #[v,v] } }):
  FA (model prog w) A (binaryOp .Mult (.ref l) (.int 2 u)) Q E s:=
 wpAny_binaryOp_repeat_ref (T:="list") (U:="int") (by decide) ⟨_,hl,rfl⟩ (fun s'=>typeIs_int s' 2 u) noFill_list_mul F.fills_int_mul F.slot_int_rmul repeat_list F.slot_int_index.lookup
  (call_meets F.slot_int_rmul (typeIs_int s 2 u) F.entry_int_rmul (F.args_int_rmul_2 _ _) (int___rmul___int_list 2 u l #[v] k)
   ⟨hl,rfl,⟨_,hl,rfl⟩,call_meets F.slot_list_mul ⟨_,hl,rfl⟩ F.entry_list_mul (F.args_list_mul_2 _ _)
    (AutoListH.list___mul___list_int_3 l #[v] k 2 u (by simp[Builtin.List.listFitsIndex]) (by simp) (by simp[Builtin.List.listTooLong,sizeLine]))
    ⟨hl,h⟩⟩)
variable {b:Bs}{h k k2:Nat}{F:EA→Env}{loc loc0 loc1 loc2 loc3:AA (Str×AV)}{mem m0 m1 m3:AA AO}{v:AV}{items:AA AV}{out:AOut}{e:Expr}{pos p1 p2 p3 p4 p5 p6 p7:Pos}
theorem aEC(B:aC b)(f:aS F)(x:aE b h F e loc mem (.lst items) m1)(g1:nsIn b.K TB "zip" = some none)(g2:nsIn b.K TB "iter" = some none)
  (hl1:DA (∀L,(F L).kindOf "zip" = some .globalImplicit) q8) (hl2:DA (∀L,(F L).kindOf "iter" = some .globalImplicit) q8)
  (he:DA (∀L,LC [e] (F L)=(false,eval e (F L)) :: LC [] (F L)) q8):
  aE b h F (.Call (.Name "zip" p1) [.Starred (.BinOp (.List [.Call (.Name "iter" p2) [e] [] p3] p4) .Mult (.Constant (.int 2) k2 p5) p6) p7] [] pos) loc mem (.obj m1.length) (m1++[.zip2 items]):=fun A s ρ L Q E hA r fm q=>by
 refine NG (hB (loc:=loc) (mem:=mem) (h:=h) (pos:=p1) B f g1 Boot.«zip» (by decide) hl1 (by decide) A s ρ L _ E hA r fm fun ρ1 s1 mv r1 x1 hv=>?_)
 cases hv
 show FA b.M A (callWith pos (.type "zip") [] (backTo pos (LC [.Starred (.BinOp (.List [.Call (.Name "iter" p2) [e] [] p3] p4) .Mult (.Constant (.int 2) k2 p5) p6) p7] (F L))) []) Q E s1
 rw[show LC [.Starred (.BinOp (.List [.Call (.Name "iter" p2) [e] [] p3] p4) .Mult (.Constant (.int 2) k2 p5) p6) p7] (F L)=[(true,eval (.BinOp (.List [.Call (.Name "iter" p2) [e] [] p3] p4) .Mult (.Constant (.int 2) k2 p5) p6) (F L))] from rfl]
 refine ks_call (P:=b.K.In) rfl (fun hp X=>cY.type (b:=b) "zip" hp X) (ks_lone (wpAny_BinOp (wpAny_List (ND ?_))))
 refine NG (hB (loc:=loc) (mem:=mem) (h:=h) (pos:=p2) B f g2 Boot.«iter» (by decide) hl2 (by decide) A s1 ρ1 L _ E hA r1 (fm.ext x1) fun ρ2 s2 mv r2 x2 hv=>?_)
 cases hv
 refine NH (P:=b.K.In) (by rw[he L];rfl) (fun hp X=>cY.builtin (b:=b) "iter" hp X) ?_
 obtain ⟨x0,rest0,eb⟩:∃x0 rest0,backTo p3 (LC [e] (F L))=(false,x0) :: rest0:=by rw[he L];exact ⟨_,_,rfl⟩
 rw[eb]
 refine JH ?_
 rw[← eb]
 refine ND (x A s2 ρ2 L _ E hA r2 ((fm.ext x1).ext x2) fun ρ3 s3 mv r3 x3 hv=>QE ⟨r3.kin B,?_⟩) (he L)
 cases hv with|lst el ha hl=>
 rename_i l its n
 refine oQ ⟨_,el,rfl,n,rfl⟩ (QE ⟨by rw[HB];simp,?_⟩)
 refine wpAny_Constant_int ?_
 refine aDp (k:=0) (gpz _ rfl) ?_
 unfold StarOf notIterableAtAll
 refine wb (CF (T:="list") ⟨_,gpz _ rfl,rfl⟩ slot_list_iter.lookup (wp ⟨rfl,?_⟩))
 refine wpAny_collect_seq (n:=0) _ (.inl rfl) (gpz _ rfl) rfl rfl (fun h' hk'=>?_) (by rw[HB];simp)
 let o1:Obj:={ cls:=.type "list_iterator",data:=.fields #[.ref l,.int 0 0] }
 have k1:∀c o,s3.heap.get? c=some o→h'.get? c=some o:=fun c o e=>hk' c o (gps _ (gps _ (gps _ e)))
 have hit:h'.get? s3.heap.objs.size=some o1:=hk' _ _ (gps _ (gps _ (gpz _ rfl)))
 have hS:s3.heap.objs.size < h'.objs.size:=DB hit
 refine ⟨(r3.kin B).keeps k1,?_⟩
 refine uT (it:=s3.heap.objs.size) (l:=l) ⟨o1,hit,rfl,rfl⟩ ?_
 have z1:(zH1 h' s3.heap.objs.size).objs.size=h'.objs.size+1:=VE ..
 have z2:(zH2 h' s3.heap.objs.size).objs.size=h'.objs.size+2:=by rw[VE,z1]
 have g3:(zH3 h' s3.heap.objs.size).get? (zH2 h' s3.heap.objs.size).objs.size=some _:=gpz _ rfl
 have g2':(zH3 h' s3.heap.objs.size).get? (zH1 h' s3.heap.objs.size).objs.size=some _:=gps _ (gpz _ rfl)
 have g1':(zH3 h' s3.heap.objs.size).get? h'.objs.size=some _:=gps _ (gps _ (gpz _ rfl))
 have g0:(zH3 h' s3.heap.objs.size).get? s3.heap.objs.size=some o1:=gps _ (gps _ (gps _ hit))
 have kp:∀c o,s3.heap.get? c=some o→(zH3 h' s3.heap.objs.size).get? c=some o:=fun c o e=>gps _ (gps _ (gps _ (k1 c o e)))
 rw[z1] at g2'
 rw[z2,z1] at g3
 rw[z2]
 refine o03 (r3.allocN (tk:=s3.toks+1) (h':=zH3 h' s3.heap.objs.size) kp (p:=[h'.objs.size+2,h'.objs.size+1,s3.heap.objs.size]) (ao:=.zip2 items) (fun a ha=>by
  simp only[NA,GB,QD] at ha
  show s3.heap.objs.size≤a
  rcases ha with rfl|rfl|rfl <;> lia) (by rw[XE,XE];refine ⟨fun z=>?_,fun z=>?_,by simp⟩ <;> simp only[NA,GB,QD] at z <;> first|(rcases z with z|z <;> exact absurd z (TG (by lia)))|exact absurd z (TG (by lia))) (fun mv mvs ea=>by
   refine .zip2 (TI:=h'.objs.size) g3 g2' ⟨o1,g0,rfl,rfl⟩ (.tup g1' (fun z=>?_) (.cons (.val _) (.cons (.val _) .nil))) (mv (.lst el ha hl))
   rcases ea _ z with z|z
   ·exact absurd (r3.lt z) (by show ¬ h'.objs.size < s3.heap.objs.size;lia)
   ·simp only[NA,GB,QD] at z
    rcases z with z|z|z
    ·exact absurd z (GC (by lia))
    ·exact absurd z (GC (by lia))
    ·exact absurd z (TG (by assumption)))) fun r4 x4 row=>?_
 exact q _ _ _ r4 (((x1.trans x2).trans x3).trans x4) (.obj row)
theorem freeze2{st1 st2:VD}{rest:AA VD}{x:Str}(x1:aL b h F st1 loc mem .next loc0 m0)(x2:aL b h F st2 loc0 m0 .next loc1 (m1++[.lst items]))(hl:mem.length≤m1.length)(u:∀o∈m1,o.under m1.length=true)(ui:AV.underL m1.length items=true)
  (hx:loc1.lookup x=some (.obj m1.length)) (hw:∀y v,loc2.lookup y=some v→(y=x∧v=.lst items)∨(loc1.lookup y=some v∧v.under m1.length=true)) (y:aI b h F rest loc2 m1 out loc3 m3):aI b h F (st1 :: st2 :: rest) loc mem out loc3 m3:=fun A s ρ L Q E hA r fm q=>
 AE (x1 A s ρ L _ E hA r fm fun ρ1 s1 fl r1 f1 e1 o1=>by
  cases o1
  refine AE (x2 A s1 ρ1 L _ E hA r1 f1 fun ρ2 s2 fl r2 f2 e2 o2=>?_)
  cases o2
  refine o04 (r2.trim (e1.trans e2) (by rw[r.ors.length];exact hl) u) fun r3 x3 v3 n3=>?_
  have fz:∀mv,VR s2.heap ρ2 (.obj m1.length) mv→VR s2.heap ⟨ρ2.rows.take m1.length,ρ2.hid⟩ (.lst items) mv:=fun mv hv=>by
   refine o35 (r2.list (i:=m1.length) (l:=items) (by rw[OA (MA _),VB];rfl) hv) fun a its n x5 hrow ea hvs sz=>?_;subst x5
   have nd:=r2.nd
   have er:ρ2.rows=ρ2.rows.take m1.length++ρ2.rows.drop m1.length:=(JC _ _).symm
   have ef:ρ2.rows.flatten=(ρ2.rows.take m1.length).flatten++(ρ2.rows.drop m1.length).flatten:=by conv=>lhs;rw[er,WB]
   have hd:a∈(ρ2.rows.drop m1.length).flatten:=List.mem_flatten.mpr ⟨[a],LB (i:=0) (by rw[IH];exact hrow),by simp⟩
   unfold Rho.all at nd
   rw[ef] at nd
   refine o03 (JA.mp nd) fun d1 d2 d3=>?_
   refine o03 (JA.mp d1) fun d4 d5 d6=>?_
   refine .lst ea (fun z=>?_) (hvs.cut (n:=m1.length) (fun i p hi e=>?_) (fun c hc=>?_) ui)
   ·rcases mam z with z|z
    ·exact d6 a z a hd rfl
    ·exact d3 a (WA.mpr (.inr hd)) a z rfl
   ·show (ρ2.rows.take m1.length)[i]?= some p
    rw[List.getElem?_take,OB hi];exact e
   ·rcases mam hc with z|z
    ·exact Rho.mem_rows (by rw[ef];exact WA.mpr (.inl z))
    ·exact Rho.mem_hid z
  have f3:Fm b L (F L).cells ⟨ρ2.rows.take m1.length,ρ2.hid⟩ loc2 s2:=by
   refine o12 f2.ns fun m hns hm=>?_
   refine ⟨⟨m,hns,fun y w hy=>?_⟩,fun c hc=>⟨n3 c (f2.off c hc).1,(f2.off c hc).2⟩,f2.cel,f2.apart⟩
   rcases hw y w hy with ⟨rfl,rfl⟩| ⟨hy1,hy2⟩
   ·have z:=hm y _ hx
    unfold bO at z ⊢
    split at z
    ·refine o12 z fun mv a d=>?_;clear z;exact ⟨mv,a,fz mv d⟩
    ·refine o12 z fun mv a d=>?_;clear z;exact ⟨mv,a,fz mv d⟩
   ·have z:=hm y w hy1
    unfold bO at z ⊢
    split at z
    ·refine o12 z fun mv a d=>?_;clear z;exact ⟨mv,a,v3 hy2 d⟩
    ·refine o12 z fun mv a d=>?_;clear z;exact ⟨mv,a,v3 hy2 d⟩
  exact y A s2 _ L Q E hA r3 f3 fun ρ4 s4 fl r4 f4 e4 o4=>q ρ4 s4 fl r4 f4 (x3.trans e4) o4)
end
end
section
open Builtin Builtin.Re
section
variable {b:Bs}{h k1 k2 k3:Nat}{F:EA→Env}{loc:AA (Str×AV)}{mem:AA AO}{p1 p2 p3 p4 p5 p6 p7:Pos}{x:Str}{s a y z:Str}
theorem qZ(B:aC b)(f:aS F)(ex:loc.lookup x=some (.str s))(hyz:(y == z)=false)(hb:s.length+(s.length+1) * z.length≤1000000)(ha:a.length+(Txt.replace s y z).length≤1000000)(hc:DA (∀L,(F L).cells.lookup x=none) q8)(hl:DA (∀L,(F L).kindOf x=some .local) q8)(hd:DA ((x == ("__debug__" : Str))=false) q10)
  (he:DA (∀L,∃pl,eval (.Call (.Attribute (.Name x p2) "replace" p3) [.Constant (.str y) k2 p4,.Constant (.str z) k3 p5] [] p6) (F L)=(do
   let ov ← eval (.Name x p2) (F L)
   standAt p3.atName
   let (f,first) ← holding [ov] (getMethod ov "replace" (pl:Sem NB))
   callWith p6 f first (backTo p6 (LC [.Constant (.str y) k2 p4,.Constant (.str z) k3 p5] (F L))) (backToKw p6 (keywordEach [] (F L))))) q18):
  aE b h F (.BinOp (.Constant (.str a) k1 p1) .Add (.Call (.Attribute (.Name x p2) "replace" p3) [.Constant (.str y) k2 p4,.Constant (.str z) k3 p5] [] p6) p7) loc mem (.str (a++Txt.replace s y z)) mem:=fun A s0 ρ L Q E hA r fm q=>by
 refine o11 (he L) fun pl he=>?_
 refine wpAny_BinOp (wpAny_Constant_str ?_)
 have r1:R b ρ mem { s0 with toks:=s0.toks+1 }:=r.toks _
 have x1:Ext NoS ρ s0 ρ { s0 with toks:=s0.toks+1 }:=(Ext.refl _ _ _).toks _
 refine methodCall_KW (pl:=pl) (wpAny_with_toks (n:=1) (BI 1 s0.toks) (dW (v:=.str s) (h:=h) f ex hc hl hd A _ ρ L _ _ hA r1 (fm.ext x1) fun ρ2 s2 mo r2 x2 h2 ht2=>?_)) he
 refine wpAny_with_toks (n:=1) ht2 (wP (b:=b) (h:=h) A s2 ρ2 mo pl _ _ hA r2 h2 fun s3 first r3 x3 h3 ht3=>?_)
 cases h3 with|cons h4 h5=>
 cases h5
 cases h4 with|str t4=>
 refine NH (P:=b.K.In) rfl (fun hp X=>cY.builtin (b:=b) "str.replace" hp X) ?_
 refine JH (ND (wpAny_Constant_str (ND (wpAny_Constant_str (QE ⟨r3.kin B,?_⟩)))))
 refine SC.replace (u:=s3.toks) (v:=s3.toks+1) (TG ht3) (TG (Nat.succ_pos _)) (GC (Nat.lt_succ_self _)) hyz (by exact lz) fun t' k=>?_
 have r4:R b ρ2 mem { s3 with toks:=k }:=r3.toks _
 refine cV (h:=h) ha A _ ρ2 _ _ Q E hA r4 (.str _ _) (.str _ _) fun ρ5 s5 mv r5 x5 h5=>q ρ5 s5 mv r5 ((((x1.trans x2).trans x3).trans ((Ext.refl _ _ _).toks k)).trans x5) h5
end
end
section
open Builtin Builtin.Re
theorem xI:UH "re.Pattern.search" = some ⟨.keywords,"Pattern.search","search",.self,[⟨"string",.posOrKw,true⟩,⟨"pos",.posOrKw,false⟩,⟨"endpos",.posOrKw,false⟩]⟩:=by rw[PySem.W.S.signatureZ_eq];kernel_rfl
theorem oR:Manifest.varargsMethods.contains "re.Pattern.search" = false:=by decide +kernel
theorem xJ:KD "re.Pattern.search" = some .method:=by decide +kernel
theorem uU:Bind.lastOf "re.Pattern.search" = "search" :=by decide +kernel
theorem sV:Bind.lastOf "re.Pattern" = "Pattern" :=by decide +kernel
theorem kK:plainId "re.Pattern.search" = true:=by decide +kernel
theorem kL:EG table "re.Pattern.search" = some Builtin.«re.Pattern.search»:=KG (by kernel_rfl)
theorem hZ(v:BA):reNamed "re.Pattern.search" "search" ["string","pos","endpos"] 1 [v] []=pure [some v,none,none]:=by kernel_rfl
theorem aBL:VF (.type "re.Pattern") (.type "module")=pure false:=by rw[AF];kernel_rfl
theorem uV(x y:BA):Bind.checkArgs "re.Pattern.search" ⟨.keywords,s!"{Bind.lastOf "re.Pattern"}.search","search",.self,[⟨"string",.posOrKw,true⟩,⟨"pos",.posOrKw,false⟩,⟨"endpos",.posOrKw,false⟩]⟩ ⟨[x,y],[]⟩=pure ():=by
 rw[sV];kernel_rfl
section
variable {M:WH}{A:XA}{E:BA→CA→Prop}{a:EA}{o:Obj}{vs:RA BA}
theorem jW{s:CA}{y:BA}{Q:Unit→CA→Prop}(e:s.heap.get? a=some o)(hc:o.cls=.type "re.Pattern")(hd:o.data=.fields vs)(q:Q () s):FA M A (OE "re.Pattern.search" ⟨[.ref a,y],[]⟩) Q E s:=by
 obtain ⟨hp,g,d,t,os⟩:=s
 have hT:(⟨hp,g,d,t,os⟩:CA).TypeIs (.ref a) "re.Pattern" :=⟨o,e,hc⟩
 unfold OE
 rw[xI]
 dsimp only
 rw[xJ]
 dsimp only
 rw[AB (by decide)]
 refine wb (JG hT aBL ?_)
 rw[oR,uU]
 simp only[Bool.or_false,YB,CG]
 refine wb (ks_wpAny_isType_inst e (fun c z=>by rw[hd] at z;cases z) ?_)
 simp only[YB,CG]
 refine wb (NF hT ?_)
 dsimp only
 exact IC (uV _ _) q
variable {prog:RC}{w:HD}{s:CA}{bm:EA}{Q:BA→CA→Prop}
theorem lU{id BT:String}{bi:Builtin}{x y:BA}{o:Obj}(hb:s.heap.get? bm=some o)(hcl:o.cls=.type BT)(hdt:o.data=.fields #[.builtin id,x])(hBT:BT="builtin_function_or_method")(hc:FA (model prog w) A.in1 (OE id ⟨[x,y],[]⟩) (fun x9 s'=>s'=s) (fun x9 x9=>False) s)
  (pl:plainId id=true) (en:EG table id=some bi)
  (h:FA (model prog w) A.in1 (bi ⟨[x,y],[]⟩) (fun fin s'=>∃v,fin=.done (.ret v)∧Q v s') E s):FA (model prog w) A (call (.ref bm) [y]) Q E s:=by
 subst hBT
 refine CE (codeAny_of_tree ?_)
 show FA _ A.in1 (callAny (.ref bm) ⟨[y],[]⟩) _ _ _
 unfold callAny
 refine wb (PH hb ?_)
 rw[hdt,hcl]
 have go:FA (model prog w) A.in1 (OE id ⟨[x,y],[]⟩>>=fun x9=>again (.builtin id ⟨[x,y],[]⟩)) (fun fin s'=>match fin with
   | .done f=>wants Q E (.ok f) s'
   | .again c'=>c'.quiet=true∧codeAny (model prog w) A c' (wants Q E) s') (fun e s'=>wants Q E (.error e) s') s:=by
  refine wb (CB hc (fun x9 s' hs=>?_) fun x9 x9 z=>z.elim)
  subst hs
  refine wp ⟨plainId_quiet pl _,TH en ?_⟩
  rw[GF pl _]
  refine CB h (fun fin s' z=>?_) fun x9 x9 z=>z
  obtain ⟨v,rfl,z⟩:=z
  exact z
 exact go
end
noncomputable def searchIn(K:Frag)(a:EA)(C:RA Nat):Prop:=∃o c p vs cc oc its n,K.lookup a=some o∧o.cls=.type "builtin_function_or_method" ∧o.data=.fields #[.builtin "re.Pattern.search",.ref c]∧K.lookup c=some p∧p.cls=.type "re.Pattern" ∧p.data=.fields vs∧vs.getD 5 .none=.ref cc∧reRawNat (vs.getD 6 .none)=0∧reRawNat (vs.getD 2 .none)=0∧K.lookup cc=some oc∧oc.data=.seq its n∧(its.map reRawOf).map (·.toNat)=C
theorem keepS{b:Bs}{a:EA}{C:RA Nat}(hi:searchIn b.K a C):cY b (.ref a):=fun hp X=>by
 refine o41 hi fun o c p vs x0=>?_;clear hi;refine o41 x0 fun cc oc its n x1=>?_;clear x0;refine o04 x1 fun e h1 h2 x9=>?_;clear x1
 refine ⟨.machine,.inr (.inl rfl),?_⟩
 unfold keeperOf
 intro A Q E s k q
 refine wb (PH (k _ _ (X a o e)) ?_)
 rw[h2,h1]
 exact wp q
section
variable {b:Bs}{h:Nat}{mem:AA AO}
theorem sW(B:aC b){a:EA}{C:RA Nat}(hi:searchIn b.K a C){x:Str}(hz:x.cps.size≤1000000){n:Nat}(hn:n≤1000000000)(e0:(ZC n (Sre.forSearch C x.cps 0 0 x.cps.size false)).outcome=some .failed):
  aF b h (.ref a) [.str x] mem .none mem:=fun A s ρ mvs Q E hA r hv q=>by
 cases hv with|cons h3 hv=>
 cases hv;cases h3 with|str t=>
 refine o41 hi fun o c p vs x0=>?_;clear hi;refine o46 x0 fun cc oc its n' e h1 h2 ec hpc x1=>?_;clear x0;refine o07 x1 fun hpd v5 v6 v2 ecc hoc hcode=>?_;clear x1
 have X:=r.kin B
 obtain ⟨hp,g,d,tk,os⟩:=s
 refine lU (X a o e) h1 h2 rfl (jW (X c p ec) hpc hpd rfl) kK kL ?_
 unfold Builtin.«re.Pattern.search»
 refine wb ?_
 unfold reTarget
 dsimp only
 rw[hZ]
 refine wb (wp ?_)
 dsimp only
 refine wb (wp (wb (wp (wb (wpAny_fieldsOf (X c p ec) hpd ?_)))))
 refine wb (IC (a:=(x.cps,0)) rfl ?_)
 dsimp only
 rw[v6]
 rw[AB (by decide)]
 rw[AB (by decide),v5,v2]
 refine wb (wp ?_)
 unfold reRawItems
 refine wb (wb (VC (X cc oc ecc) hoc ?_))
 refine wp ?_
 show FA _ _ (pure _) _ _ _
 rw[show Array.map (fun x=>x.toNat) (((some its).getD #[]).map reRawOf)=C from hcode]
 refine wp ?_
 unfold reAnswer
 have hlim:min (2 ^ 63 - 1:Int).toNat x.cps.size=x.cps.size:=Nat.min_eq_right (by show x.cps.size≤9223372036854775807;exact lz)
 dsimp only
 rw[hlim]
 refine wb (jG (n:=n) hn (.inr (by rw[show min (Int.toNat 0) x.cps.size=0 from Nat.zero_min _];exact e0)) ?_)
 rw[show min (Int.toNat 0) x.cps.size=0 from Nat.zero_min _,e0]
 exact wp ⟨_,rfl,q ρ _ _ r (Ext.refl _ _ _) .none⟩
end
end
section
open Builtin Builtin.Re
section
variable {b:Bs}{h:Nat}{mem:AA AO}
theorem R.dead2{ρ:Rho}{s:CA}(r:R b ρ mem s)(o1 o2:Obj)(hf:o2.isFreed=false):R b (ρ.add [s.heap.objs.size+1]) (mem++[.dead]) { s with heap:=(s.heap.push o1).push o2 }∧Ext NoS ρ s (ρ.add [s.heap.objs.size+1]) { s with heap:=(s.heap.push o1).push o2 }∧(ρ.add [s.heap.objs.size+1]).rows[mem.length]?= some [s.heap.objs.size+1]:=by
 have g2:((s.heap.push o1).push o2).get? (s.heap.objs.size+1)=some o2:=by
  have:=gpz (s.heap.push o1) hf
  rwa [VE] at this
 exact r.allocN (tk:=s.toks) (h':=(s.heap.push o1).push o2) (fun c o e=>gps _ (gps _ e)) (p:=[s.heap.objs.size+1]) (ao:=.dead) (fun a ha=>by
  rw[HA] at ha;subst ha;exact GH _ 1) (by simp) (fun mv mvs ea=>.dead fun a ha=>by
  rw[HA] at ha;subst ha
  exact ⟨_,g2⟩)
theorem rA(B:aC b){a:EA}{C:RA Nat}(hi:searchIn b.K a C){x:Str}(hz:x.cps.size≤1000000){n:Nat}(hn:n≤1000000000)(e0:(ZC n (Sre.forSearch C x.cps 0 0 x.cps.size false)).outcome=some .matched):
  aF b h (.ref a) [.str x] mem (.obj mem.length) (mem++[.dead]):=fun A s ρ mvs Q E hA r hv q=>by
 cases hv with|cons h3 hv=>
 cases hv;cases h3 with|str t=>
 refine o41 hi fun o c p vs x0=>?_;clear hi;refine o46 x0 fun cc oc its n' e h1 h2 ec hpc x1=>?_;clear x0;refine o07 x1 fun hpd v5 v6 v2 ecc hoc hcode=>?_;clear x1
 have X:=r.kin B
 obtain ⟨hp,g,d,tk,os⟩:=s
 refine lU (X a o e) h1 h2 rfl (jW (X c p ec) hpc hpd rfl) kK kL ?_
 unfold Builtin.«re.Pattern.search»
 refine wb ?_
 unfold reTarget
 dsimp only
 rw[hZ]
 refine wb (wp ?_)
 dsimp only
 refine wb (wp (wb (wp (wb (wpAny_fieldsOf (X c p ec) hpd ?_)))))
 refine wb (IC (a:=(x.cps,0)) rfl ?_)
 dsimp only
 rw[v6]
 rw[AB (by decide)]
 rw[AB (by decide),v5,v2]
 refine wb (wp ?_)
 unfold reRawItems
 refine wb (wb (VC (X cc oc ecc) hoc ?_))
 refine wp ?_
 show FA _ _ (pure _) _ _ _
 rw[show Array.map (fun x=>x.toNat) (((some its).getD #[]).map reRawOf)=C from hcode]
 refine wp ?_
 unfold reAnswer
 have hlim:min (2 ^ 63 - 1:Int).toNat x.cps.size=x.cps.size:=Nat.min_eq_right (by show x.cps.size≤9223372036854775807;exact lz)
 dsimp only
 rw[hlim]
 refine wb (jG (n:=n) hn (.inl (by rw[show min (Int.toNat 0) x.cps.size=0 from Nat.zero_min _];exact e0)) ?_)
 rw[show min (Int.toNat 0) x.cps.size=0 from Nat.zero_min _,e0]
 refine wb ?_
 unfold reNewMatch
 show FA _ _ (newTuple _>>=fun v=>newFields "re.Match" _) _ _ _
 refine wb (wpAny_newTuple ?_ (hsz:=by rw[HB];simp))
 refine RF ?_ (by size_fits)
 refine wp ⟨_,rfl,?_⟩
 refine q _ _ _ (r.dead2 _ _ rfl).1 (r.dead2 _ _ rfl).2.1 (.obj (r:=[]) ?_)
 rw[show ((hp.push _).objs.size:Nat)=hp.objs.size+1 from VE ..]
 exact (r.dead2 { cls:=.none,data:=.plain } { cls:=.none,data:=.plain } rfl).2.2
end
end
section
open Builtin
noncomputable def makesNew(K:Frag)(C:EA):NB:=match K.lookup C with
 | some ⟨_,_,.cls cd,sl⟩=>(sl.toList[4]?).join == some .none && !cd.mro.isEmpty && mroIn K C (.ref C) == some true && specialIn K (.ref C) "__call__" == some (some (.builtin "type.__call__")) && instIn K (.ref C) (.type "type") == some true
 | _=>false
structure MakesN(M:WH)(h:PB)(C:EA):Prop where
 obj:∃oc od cd sl,h.get? C=some ⟨oc,od,.cls cd,sl⟩∧cd.mro.isEmpty=false
 made:EC M h (RG (.ref C)) none
 self:EC M h (VF (.ref C) (.ref C)) true
 call:EC M h (specialOf (.ref C) "__call__") (some (.builtin "type.__call__"))
 typ:EC M h (isInstance (.ref C) (.type "type")) true
theorem kM{K:Frag}{M:WH}{h:PB}(X:K.In h){C:EA}(e:makesNew K C=true):MakesN M h C:=by
 unfold makesNew at e
 split at e
 ·rename_i oc od cd sl ho
  simp only[VA,WE,UD] at e
  refine o02 e fun x0 e8=>?_;clear e;refine o02 x0 fun x3 e7=>?_;clear x0;refine o02 x3 fun x4 e5=>?_;clear x3;refine o02 x4 fun e3 e4=>?_;clear x4
  have hc:clsIn K C=some cd:=by unfold clsIn;rw[ho]
  have hm:EC M h (mroOf (.ref C)) cd.mro:=(EF X hc).andThen .now
  obtain ⟨c,l,hl⟩:∃c l,cd.mro=c :: l:=by cases q:cd.mro with|nil=>rw[q] at e4;cases e4|cons c l=>exact ⟨c,l,rfl⟩
  refine ⟨⟨oc,od,cd,sl,X _ _ ho,e4⟩,?_,BH X e5,looks_specialIn X e7,looks_instIn X e8⟩
  intro A Q E s k q
  unfold RG
  refine wb (hm A _ E s k ?_)
  rw[hl,XB]
  refine wb (wb (wb (wb (OF (k _ _ (X _ _ ho)) (wp ?_)))))
  dsimp only
  rw[← TC,e3]
  exact wp (wp (wp q))
 ·cases e
section
variable {b:Bs}{h:Nat}{mem m1:AA AO}{args:AA AV}
theorem xK(B:aC b){C fN fI:EA}(hM:makesNew b.K C=true)(a0:∀(A:XA) (s:CA) (Q:BA→CA→Prop) (E:BA→CA→Prop),b.K.In s.heap→(∀tk,Q (.ref fN) { s with toks:=tk })→FA b.M A (getAttr (.ref C) "__new__") Q E s)
  (hi:CD b.K (.ref C) "__init__" = some (some (.ref fI))) (hf:typeIn b.K (.ref fI)=some (.type "function"))
  (zn:aF b h (.ref fN) (.val (.ref C) :: args) mem (.obj mem.length) (mem++[.inst C none []])) (zi:aF b h (.ref fI) (.obj mem.length :: args) (mem++[.inst C none []]) .none m1):aF b (h+1) (.ref C) args mem (.obj mem.length) m1:=fun A s ρ mvs Q E hA r hv q=>by
 obtain ⟨hp,g,d,t,os⟩:=s
 have X:=r.kin B
 obtain ⟨⟨oc,od,cd,sl,hC,e4⟩,made,self,call,typ⟩:=kM (M:=b.M) X hM
 have hA':Ht h (A.under (.builtin "type.__call__" ⟨.ref C :: mvs,[]⟩)):=hA.under _ (eW _ _ _).1 (eW _ _ _).2
 refine CE (codeAny_of_tree ?_)
 show FA _ _ (callAny (.ref C) _) _ _ _
 refine nd_load hC ?_
 show FA _ _ (callAny.viaDunder (.ref C) _) _ _ _
 unfold callAny.viaDunder
 refine wb (call.at ?_)
 dsimp only
 rw[tc_bind]
 refine wb (wp (wb (wp ?_)))
 refine wp (a:=Fin.again (.call (.builtin "type.__call__") ⟨.ref C :: mvs,[]⟩)) (And.intro rfl ?_)
 refine codeAny_call_builtin_at (Code.quiet_builtin _ (by decide +kernel)) entry_typeCall (check_slot tc_kind tc_split typ (tc_args _ _ _) ?_)
 unfold Builtin.«type.__call__»
 have hm:EC b.M hp (mroOf (.ref C)) cd.mro:=((Looks.ld (part:=none) hC).andThen .now).andThen .now
 dsimp only
 rw[AB (show ¬ ((Value.ref C == Value.type "type")=true) from KE)]
 refine wb (hm.at ?_)
 rw[e4,AB (by decide)]
 refine wb (made.at ?_)
 dsimp only
 refine wb (a0 _ ⟨hp,g,d,t,os⟩ _ _ X fun tk=>wb (TA ?_))
 refine zn (A.under (.builtin "type.__call__" ⟨.ref C :: mvs,[]⟩)) ⟨hp,g,d,tk,os⟩ ρ (.ref C :: mvs) _ _ hA' (r.toks tk) (.cons (.val _) hv) fun ρ1 s1 mv r1 x1 h1=>?_
 refine o41 (r1.inst (C:=C) (sq:=none) (at_:=[]) (by simp) h1) fun a dx ox odd x0=>?_;refine o35 x0 fun m es ep x3 e1 I hd x9=>?_;clear x0;subst x3
 have X1:=r1.kin B
 have s1L:=self
 have li:EC b.M s1.heap (isInstance (.ref a) (.ref C)) true:=I.type.andThen (kM (M:=b.M) X1 hM).self
 refine wb (li.here ?_)
 rw[AB (by decide)]
 refine wb (TA (special_fn X1 I hi hf ?_))
 refine zi (A.under (.builtin "type.__call__" ⟨.ref C :: mvs,[]⟩)) s1 ρ1 (.ref a :: mvs) _ _ hA' r1 (.cons h1 (x1.vrs0 hv)) fun ρ2 s2 mv r2 x2 h2=>?_
 cases h2
 refine wp ?_
 exact q ρ2 s2 _ r2 ((((Ext.refl NoS ρ _).toks tk).trans x1).trans x2) (x2.vr0 h1)
end
end
section
open Builtin Builtin.Slots
noncomputable def madeNone(K:Frag)(C:EA):NB:=match K.lookup C with
 | some ⟨_,_,.cls cd,sl⟩=>(sl.toList[4]?).join == some .none && !cd.mro.isEmpty
 | _=>false
theorem fS{K:Frag}{M:WH}{h:PB}(X:K.In h){C:EA}(e:madeNone K C=true):EC M h (RG (.ref C)) none:=by
 unfold madeNone at e
 split at e
 ·rename_i oc od cd sl ho
  simp only[VA,WE,UD] at e
  refine o02 e fun e3 e4=>?_;clear e
  have hc:clsIn K C=some cd:=by unfold clsIn;rw[ho]
  have hm:EC M h (mroOf (.ref C)) cd.mro:=(EF X hc).andThen .now
  obtain ⟨c,l,hl⟩:∃c l,cd.mro=c :: l:=by cases q:cd.mro with|nil=>rw[q] at e4;cases e4|cons c l=>exact ⟨c,l,rfl⟩
  intro A Q E s k q
  unfold RG
  refine wb (hm A _ E s k ?_)
  rw[hl,XB]
  refine wb (wb (wb (wb (OF (k _ _ (X _ _ ho)) (wp ?_)))))
  dsimp only
  rw[← TC,e3]
  exact wp (wp (wp q))
 ·cases e
theorem lV:RG (.type "object")=pure (some "object.__new__"):=by
 unfold RG
 rw[mroOf_type,show fastBuiltinMro "object" = some [.type "object"] from by kernel_rfl]
 simp only[YD,MC]
 kernel_rfl
theorem sX:slotNamesOf (.type "object")=pure []:=by kernel_rfl
section
variable {K:Frag}{M:WH}{h:PB}{C D:EA}{cd:ClassData}{v:BA}
theorem uW(X:K.In h)(hc:clsIn K C=some cd):EC M h (slotNamesOf (.ref C)) cd.slotNames:=(EF X hc).andThen .now
theorem lW{ns:AA Str}(X:K.In h)(hc:clsIn K C=some cd)(hb:cd.bases=[v])(hv:EC M h (slotNamesOf v) ns)(hs:cd.slotNames=[]):EC M h (addsLayout (.ref C)) false:=by
 intro A Q E s k q
 unfold addsLayout
 refine wb (EF X hc A _ E s k ?_)
 rw[hb]
 simp only[XB,List.forIn_nil]
 refine wb (wb (wb (hv A _ E s k ?_)))
 refine wp (wp ?_)
 rw[hs]
 exact wp q
theorem jH{r:BA}(hs:EC M h (solid v) r):EC M h (bestBase [v]) v:=by
 intro A Q E s k q
 unfold bestBase
 simp only[XB,List.forIn_nil]
 refine wb (wb (wb (hs A _ E s k ?_)))
 exact wp (wp (wp q))
theorem sY:solid (.type "object")=pure (.type "object"):=by kernel_rfl
theorem sZ(X:K.In h)(hc:clsIn K C=some cd)(hm:cd.mro=[.ref C,.type "object"])(ha:EC M h (addsLayout (.ref C)) false):EC M h (solid (.ref C)) (.type "object"):=by
 intro A Q E s k q
 unfold solid
 refine wb (((EF X hc).andThen .now:EC M h (mroOf (.ref C)) cd.mro) A _ E s k ?_)
 rw[hm,XB]
 refine wb (wb (wb (ha A _ E s k ?_)))
 exact wp (wp (wp q))
theorem tA(X:K.In h)(hc:clsIn K C=some cd)(hm:cd.mro=[.ref C,.ref D,.type "object"])(ha:EC M h (addsLayout (.ref C)) false)(hd:EC M h (addsLayout (.ref D)) false):EC M h (solid (.ref C)) (.type "object"):=by
 intro A Q E s k q
 unfold solid
 refine wb (((EF X hc).andThen .now:EC M h (mroOf (.ref C)) cd.mro) A _ E s k ?_)
 rw[hm,XB]
 refine wb (wb (wb (ha A _ E s k ?_)))
 refine wp ?_
 show FA M A (forIn [Value.ref D,.type "object"] _ _) _ _ _
 rw[XB]
 refine wb (wb (hd A _ E s k ?_))
 exact wp (wp (wp q))
theorem rB{C1 C2 C3:EA}{c1 c2 c3:ClassData}(X:K.In h)(m1:madeNone K C1=true)(m2:madeNone K C2=true)(m3:madeNone K C3=true)(h1:clsIn K C1=some c1)(h2:clsIn K C2=some c2)(h3:clsIn K C3=some c3)
  (r1:c1.mro=[.ref C1,.ref C2,.ref C3,.type "object"]) (r2:c2.mro=[.ref C2,.ref C3,.type "object"]) (r3:c3.mro=[.ref C3,.type "object"]) (b1:c1.bases=[.ref C2]) (b2:c2.bases=[.ref C3]) (b3:c3.bases=[.type "object"]) (s2:c2.slotNames=[]) (s3:c3.slotNames=[]):
  EC M h (KH (.ref C1)) (.type "object"):=by
 have a3:EC M h (addsLayout (.ref C3)) false:=lW X h3 b3 (RE sX) s3
 have a2:EC M h (addsLayout (.ref C2)) false:=lW X h2 b2 (uW X h3) s2
 have o3:=sZ (M:=M) X h3 r3 a3
 have o2:=tA (M:=M) X h2 r2 a2 a3
 intro A Q E s k q
 unfold KH
 refine wb (((EF X h1).andThen .now:EC M h (mroOf (.ref C1)) c1.mro) A _ E s k ?_)
 rw[r1,XB]
 refine wb (wb (wb (fS X m1 A _ E s k ?_)))
 refine wb (EF X h1 A _ E s k ?_)
 rw[b1]
 refine wb (jH o2 A _ E s k (wp ?_))
 dsimp only
 rw[XB]
 refine wb (wb (fS X m2 A _ E s k ?_))
 refine wb (EF X h2 A _ E s k ?_)
 rw[b2]
 refine wb (jH o3 A _ E s k (wp ?_))
 dsimp only
 rw[XB]
 refine wb (wb (fS X m3 A _ E s k ?_))
 refine wb (EF X h3 A _ E s k ?_)
 rw[b3]
 refine wb (jH (RE sY) A _ E s k (wp ?_))
 dsimp only
 rw[XB]
 refine wb (wb ?_)
 rw[lV]
 exact wp (wp (wp (wp q)))
end
end
section
open Builtin
theorem aDq(C:EA):argsOk "object.__new__" ⟨[.ref C],[]⟩:=by unfold argsOk;rw[PySem.W.S.signatureZ_eq];kernel_rfl
section
variable {b:Bs}{h:Nat}{mem:AA AO}
theorem aAd(B:aC b){C:EA}{oc:BA}{od:YA EA}{cd:ClassData}{sl:RA (YA BA)}(hk:b.K.lookup C=some ⟨oc,od,.cls cd,sl⟩)(e1:cd.abstract=false)(e2:cd.hasDel=false)(hM:makesNew b.K C=true)(hT:mroIn b.K C (.type "object")=some true)
  (hst:∀hp:PB,b.K.In hp→EC b.M hp (KH (.ref C)) (.type "object")):aF b h (.builtin "object.__new__") [.val (.ref C)] mem (.obj mem.length) (mem++[.inst C none []]):=fun A s ρ mvs Q E hA r hv q=>by
 cases hv with|cons h1 hv=>
 cases hv;cases h1
 obtain ⟨hp,g,d,t,os⟩:=s
 have X:=r.kin B
 have hC:=X C _ hk
 obtain ⟨_,made,self,call,typ⟩:=kM (M:=b.M) X hM
 have top:EC b.M hp (VF (.ref C) (.type "object")) true:=BH X hT
 have base:=hst hp X
 have madeO:EC b.M hp (RG (.type "object")) (some "object.__new__"):=RE lV
 have F:=PySem.F.objNew
 refine CE (codeAny_call_builtin_code (Code.quiet_builtin _ F.quiet) ?_)
 refine pQ (i:="object.__new__") (owner:="object") (base:=.type "object") F.kind F.split (kI hC) top base madeO (aDq C) ?_
 refine TH F.entry ?_
 unfold Builtin.«object.__new__»
 have k2:∀c o,hp.get? c=some o→((hp.push YC).push (instObj C hp.objs.size)).get? c=some o:=fun c o e=>gps _ (gps _ e)
 have g1:((hp.push YC).push (instObj C hp.objs.size)).get? hp.objs.size=some YC:=gps _ (gpz _ rfl)
 have g2:((hp.push YC).push (instObj C hp.objs.size)).get? (hp.objs.size+1)=some (instObj C hp.objs.size):=by
  have:((hp.push YC).push (instObj C hp.objs.size)).get? (hp.push YC).objs.size=some (instObj C hp.objs.size):=gpz _ rfl
  rwa [VE] at this
 refine o03 (r.allocN (tk:=t) (h':=(hp.push YC).push (instObj C hp.objs.size)) k2 (p:=[hp.objs.size+1,hp.objs.size]) (ao:=.inst C none []) (fun a ha=>by
  show hp.objs.size≤a
  simp only[NA,GB,QD] at ha;rcases ha with rfl|rfl <;> lia) (by simp) (fun mv mvs ea=>.plain g2 ⟨fun x9=>none,Heap.Ns1.of_empty ⟨YC,#[],0,g1,rfl,fun e he=>absurd he (by simp),fun x9=>rfl⟩,fun x=>rfl⟩)) fun r1 x1 row=>?_
 have qq:=q _ _ (.ref (hp.objs.size+1)) r1 x1 (.obj row)
 repeat (first|refine dZ (by simp only[e1,YB,UF]) ?_|lk)
 refine nd_load (gps _ (gps _ hC)) (nd_pure ?_)
 refine wp ?_
 rw[e2]
 refine wp (wp ?_)
 show Q (.ref (hp.push _).objs.size) _
 rw[show ((hp.push _).objs.size:Nat)=hp.objs.size+1 from VE ..]
 exact qq
end
end
section
open Builtin
section
variable {b:Bs}{h k:Nat}{loc':AA (Str×AV)}{mem m1:AA AO}{v:AV}{out:AOut}
noncomputable def BindW(b:Bs)(fd:BD)(args:AA AV)(mem:AA AO)(xs:AA Str)(vs:AA AV)(ys:AA Str):Prop:=
 ∀(A:XA) (s:CA) (ρ:Rho) (mvs:AA BA) (Q:AA (Str×BA)→CA→Prop) (E:BA→CA→Prop),R b ρ mem s→VRs s.heap ρ args mvs→
  (∀s' ms ns,R b ρ mem s'→Ext NoS ρ s ρ s'→(∀c o,s.heap.get? c=some o→s'.heap.get? c=some o)→VRs s'.heap ρ vs ms→ns.length=ys.length→Q (xs.zip ms++ys.zip ns) s')→FA b.M A (TD fd ⟨mvs,[]⟩) Q E s
theorem VRs.vals{hp:PB}{ρ:Rho}:∀ns:AA BA,VRs hp ρ (ns.map .val) ns
 | []=>.nil
 | n :: ns=>.cons (.val n) (VRs.vals ns)
theorem lX:∀(xs:AA Str) (vs:AA AV) (ys:AA Str) (ws:AA AV) (x:Str) (v:AV),(bindsL xs vs).lookup x=some v→(bindsL (xs++ys) (vs++ws)).lookup x=some v
 | [],_,_,_,x,v,e=>by simp[bindsL] at e
 | _ :: _,[],_,_,x,v,e=>by simp[bindsL] at e
 | y :: xs,u :: vs,ys,ws,x,v,e=>by
  simp only[bindsL,List.cons_append,List.lookup_cons] at e ⊢
  cases hx:x == y with
  | true=>rw[hx] at e;exact e
  | false=>rw[hx] at e;exact lX xs vs ys ws x v e
theorem aAe(B:aC b){f:EA}{fd:BD}{oc:BA}{od:YA EA}{osl:RA (YA BA)}{body:AA VD}{xs ys:AA Str}{args vs:AA AV}
  (hbind:BindW b fd args mem xs vs ys)
  (hx:aI b h (fun L=>KC fd L f) body (bindsL xs vs) mem out loc' m1) (hvl:vs.length=xs.length)
  (ho:DA (b.K.lookup f=some ⟨oc,od,.func fd,osl⟩) q9) (hcd:DA (codeIn b.K fd.code fd.qualname=true) q15) (hb:DA (fd.body=.stmts body) q9) (nd:DA ((xs++ys).Nodup) q10)
  (hcell:DA (∀x∈fd.scope.names,x.2≠.cell) q10) (hloc:DA (∀x∈xs++ys,fd.scope.names.lookup x=some .local) q10)
  (hco:DA (fd.scope.isCoroutine=false) q9) (hgen:DA (fd.scope.isGenerator=false) q9) (hk:DA (fd.scope.kind=.function) q9) (hclo:DA (fd.closure=[]) q9):aF b (h+1) (.ref f) args mem (retOf out) m1:=fun A s ρ mvs Q E hA r hv q=>by
 have X:=r.kin B
 refine CE (codeAny_call_function hA.depth (X _ _ ho) rfl hco hgen hb (codeRec_of X hcd) ?_)
 refine hbind A.in1 s ρ mvs _ _ r hv fun s1 ms ns r1 x1 k1 h1 hns=>?_
 have hml:ms.length=xs.length:=by rw[h1.length,hvl]
 have ez:xs.zip ms++ys.zip ns=(xs++ys).zip (ms++ns):=(List.zip_append hml.symm).symm
 rw[ez]
 refine ZG hcell (fun x hx=>hloc x.1 (DD (a:=x.1) (b:=x.2) hx).1) (fun h₀ hns hsb=>?_) hk
 have hkp:∀c o,s1.heap.get? c=some o→h₀.get? c=some o:=fun c o e=>hsb.extBut c o (GC (DB e)) (gps _ e)
 have e0:s1.heap.get? s1.heap.objs.size=none:=aP (MA _)
 have hcl:(KC fd s1.heap.objs.size f).cells=[]:=hclo
 have x0:Ext NoS ρ s1 ρ { s1 with heap:=h₀,toks:=s1.toks+((xs++ys).zip (ms++ns)).length }:=Ext.of_keeps _ _ hkp
 have r0:R b ρ mem { s1 with heap:=h₀,toks:=s1.toks+((xs++ys).zip (ms++ns)).length }:=r1.keeps hkp s1.gens r1.bare s1.drawn _
 refine ⟨r0.lim,codeAny_func ?_⟩
 show FA b.M (A.deeper (KC fd s1.heap.objs.size f)) (execs body (KC fd s1.heap.objs.size f)) _ _ _
 refine CB (hx (A.deeper (KC fd s1.heap.objs.size f)) _ ρ s1.heap.objs.size _ _ (hA.deeper _) r0
  (Fm.plain hcl hns (fun hm=>JB _ (r1.lt hm)) r1.fresh (fun x v e=>dA (xs++ys) (vs++ns.map .val) (ms++ns) ((x0.vrs0 h1).append (VRs.vals ns)) nd x v (lX xs vs ys _ x v e))) fun ρ' s' fl r' f' x' o=>?_) (fun fl s' z=>z) fun x9 x9 z=>z
 have xx:Ext NoS ρ s ρ' s':=by
  refine ⟨fun c oc e x9 hc kq=>x'.keep c oc (hkp c oc (k1 c oc e)) (fun q=>by
   rcases q with rfl|⟨p,hp,_⟩
   ·rw[k1 _ _ e] at e0;cases e0
   ·rw[hcl] at hp;cases hp) hc kq,x'.pre,fun a ha=>?_,x'.hid,fun c oc e=>x'.live c oc (hkp c oc (k1 c oc e))⟩
  rcases x'.new a ha with z|z
  ·exact .inl z
  ·right
   cases e:s.heap.get? a with
   | none=>rfl
   | some o=>have:=hkp a o (k1 a o e);rw[z] at this;cases this
 cases o with
 | ret e=>exact q ρ' s' _ r' xx e
 | _=>exact q ρ' s' _ r' xx .none
theorem aBM{fd:BD}{x p q:Str}{w1 w2:AV}(h:∀a c:BA,TD fd ⟨[a,c],[]⟩=(newTuple [c]>>=fun t=>alloc { cls:=.type "dict",data:=.dict #[] }>>=fun d=>Pure.pure [(x,a),(p,t),(q,.ref d)])):BindW b fd [w1,w2] mem [x] [w1] [p,q]:=fun A s ρ mvs Q E r hv k=>by
 cases hv with|cons h1 hv=>cases hv with|cons h2 hv=>
 cases hv
 rename_i mv ml
 rw[h]
 refine wb (wpAny_newTuple ?_ (by simp[HB]))
 have x0:=aX r { cls:=.type "tuple",data:=.seq [ml].toArray }
 have r0:=r.push' { cls:=.type "tuple",data:=.seq [ml].toArray }
 refine wb (wpAny_alloc ?_)
 have x1:=aX r0 { cls:=.type "dict",data:=.dict #[] }
 exact wp (k _ [mv] [_,_] (r0.push' _) (x0.trans x1) (fun c o e=>gps _ (gps _ e)) (.cons ((x0.trans x1).vr0 h1) .nil) rfl)
theorem rC(B:aC b)(e:findCls b.K (.type "object") (.type "type") "__new__" = some (.val (.builtin "object.__new__")))(hga:CD b.K (.type "type") "__getattribute__" = some (some (.builtin "type.__getattribute__")))(hi:subIn b.K (.type "type") (.type "type")=some true):
  dN b h (.val (.type "object")) "__new__" mem (.builtin "object.__new__") []:=fun A s ρ mo pl Q E hA r ho q=>by
 cases ho
 have X:=r.kin B
 have qq:=q { s with toks:=s.toks+1 } [] (r.toks _) ((Ext.refl _ _ _).toks _) .nil
 unfold getMethod specialOf
 refine wb (wb (IC (a:=.type "type") rfl ((MD (M:=b.M) X hga).here ?_)))
 dsimp only
 rw[canon_tga,OB rfl]
 refine wb ?_
 refine cls_open (mc:=.type "type") (hook:=none) X (RE (by kernel_rfl)) (RE rfl) hga (RE rfl) hi e ?_
 refine wp ?_
 show FA _ _ (handedOut _) _ _ _
 rw[handedOut_of (by decide)]
 exact wp (wp qq)
end
end
section
open Builtin
section
variable {b:Bs}{h:Nat}{mem:AA AO}{v1 v2 v3:AV}
theorem lY(B:aC b){x y:EA}{cx cy:ClassData}{ax ay:BA}{dx dy:YA EA}{sx sy:RA (YA BA)}(ex:b.K.lookup x=some ⟨ax,dx,.cls cx,sx⟩)(ey:b.K.lookup y=some ⟨ay,dy,.cls cy,sy⟩)(hx:ax=.type "type"):cP b h .IsNot (.val (.ref x)) (.val (.ref y)) mem (!(x == y)):=fun A s ρ mx my Q E hA r h1 h2 z=>by
 cases h1;cases h2
 have zz:=z s r (Ext.refl _ _ _)
 show FA _ _ (do return Value.bool (!(← isSame (.ref x) (.ref y)))) _ _ _
 refine wb ?_
 show FA _ _ (if (x == y)=true then pure true else _) _ _ _
 cases e:x == y with
 | true=>rw[OB rfl];rw[e] at zz;exact wp (wp zz)
 | false=>
  rw[AB (by decide)]
  rw[e] at zz
  refine wb (PH (r.kin B x _ ex) (wb (PH (r.kin B y _ ey) ?_)))
  subst hx
  exact wp (wp zz)
theorem gT{x y:String}:cP b h .IsNot (.val (.type x)) (.val (.type y)) mem (!((Value.type x) == (Value.type y))):=fun A s ρ mx my Q E hA r h1 h2 z=>by
 cases h1;cases h2
 have zz:=z s r (Ext.refl _ _ _)
 show FA _ _ (do return Value.bool (!(← isSame (.type x) (.type y)))) _ _ _
 exact wb (wp (wp zz))
theorem dflt23(B:aC b){fd:BD}{T:EA}{oc:BA}{od:YA EA}{osl:RA (YA BA)}{items:RA BA}{n:Nat}{x y z:Str}{d:BA}(hT:b.K.lookup T=some ⟨oc,od,.seq items n,osl⟩)(hd:Lit v3 d)
  (h:∀a c,∃k,TD fd ⟨[a,c],[]⟩=(seqItems? (.ref T)>>=k)∧k (some items)=pure [(x,a),(y,c),(z,d)]):eO b fd [v1,v2] [] [] mem [x,y,z] [v1,v2,v3]:=
 .dflt B hT fun mvs mks h1 h2=>by
  refine o21 (L2 h1) fun a c x0=>?_;subst x0
  refine o12 (h a c) fun k e1 e2=>?_
  exact ⟨k,e1,[a,c,d],e2,fun hp ρ hv x9=>by
    cases hv with|cons q1 q2=>cases q2 with|cons q3 q4=>exact .cons q1 (.cons q3 (.cons hd.vr .nil))⟩
end
end
section
open Builtin
noncomputable def dqO:Obj:={ cls:=.type "collections.deque",data:=.fields #[.none,.int 0 0] }
theorem aAf:mroOf (.type "collections.deque")=pure [.type "collections.deque",.type "object"]:=by rw[mroOf_type];kernel_rfl
theorem aED:typeLookup (.type "collections.deque") "__new__" = pure (some (.builtin "collections.deque.__new__")):=by rw[YD,MC];kernel_rfl
theorem pW:typeLookup (.type "collections.deque") "__bool__" = pure none:=by rw[YD,MC];kernel_rfl
theorem aDr:Slot "collections.deque" "__init__" "collections.deque.__init__" :=
 .of (owner:="collections.deque") (n:="__init__") (by rw[YD,MC];kernel_rfl) (by decide +kernel) (by decide +kernel) (by decide +kernel)
  (by rw[PySem.W.S.findZ_eq];first|exact .inl (by decide +kernel)|exact .inr (by decide +kernel)) (by rw[AF];kernel_rfl)
theorem dq_len:Slot "collections.deque" "__len__" "collections.deque.__len__" :=
 .of (owner:="collections.deque") (n:="__len__") (by rw[YD,MC];kernel_rfl) (by decide +kernel) (by decide +kernel) (by decide +kernel)
  (by rw[PySem.W.S.findZ_eq];first|exact .inl (by decide +kernel)|exact .inr (by decide +kernel)) (by rw[AF];kernel_rfl)
theorem aAg:TypeCalled "collections.deque" "collections.deque.__new__" "collections.deque.__init__" :=
 ⟨by decide +kernel,by decide +kernel,⟨_,_,aAf⟩,madeBy_type aAf aED (by decide +kernel),by decide +kernel,by rw[AF];kernel_rfl,aDr⟩
theorem aBN:checkTypeCall "collections.deque" ⟨[],[]⟩=pure ():=by unfold checkTypeCall;rw[PySem.W.S.signatureZ_eq];kernel_rfl
theorem aAh:checkBuiltinCall "collections.deque.__new__" ⟨[.type "collections.deque"],[]⟩=pure ():=by kernel_rfl
theorem aAi:EG table "collections.deque.__new__" = some Builtin.«collections.deque.__new__»:=KG (by kernel_rfl)
theorem aAj:EG table "collections.deque.__init__" = some Builtin.«collections.deque.__init__»:=KG (by kernel_rfl)
theorem aAk:EG table "collections.deque.__len__" = some Builtin.«collections.deque.__len__»:=KG (by kernel_rfl)
theorem aBO(a:BA):argsOk "collections.deque.__init__" ⟨[a],[]⟩:=by unfold argsOk;rw[PySem.W.S.signatureZ_eq];kernel_rfl
theorem aBP(a:BA):argsOk "collections.deque.__len__" ⟨[a],[]⟩:=by unfold argsOk;rw[PySem.W.S.signatureZ_eq];kernel_rfl
theorem xL:Deque.newArgs Deque.ty ⟨[.type "collections.deque"],[]⟩=pure (.type "collections.deque",[]):=by
 unfold Deque.newArgs
 show (isType (.type "collections.deque")>>=_)=_
 rw[show isType (.type "collections.deque")=pure true from rfl,pure_bind]
 rw[AB (by decide)]
 show (VF (.type "collections.deque") (.type "collections.deque")>>=_)=_
 rw[show VF (.type "collections.deque") (.type "collections.deque")=pure true from by rw[AF];kernel_rfl,pure_bind]
 rfl
theorem tB:Meets (Builtin.«collections.deque.__new__» ⟨[.type "collections.deque"],[]⟩) (fun x9 R s=>R (.ok (.ret (.ref s.heap.objs.size))) { s with heap:=s.heap.push dqO }):=
 .of_wp fun prog w A R s h=>by
  obtain ⟨hp,g,d,tk,os⟩:=s
  unfold Builtin.«collections.deque.__new__»
  rw[xL]
  refine wb (wp (wb ?_))
  unfold Deque.new
  rw[AB (by decide),show typeHasDict (.type "collections.deque")=false from by decide +kernel]
  refine wb (wp ?_)
  exact RF (wp ⟨_,rfl,h⟩) (by size_fits)
theorem rD(a:EA):Meets (Builtin.«collections.deque.__init__» ⟨[.ref a],[]⟩) (fun x9 R s=>s.heap.get? a=some dqO∧(∀h',h'.get? a=some dqO→ZD a s.heap h'→R (.ok (.ret .none)) { s with heap:=h' })):=
 .of_wp fun prog w A R s h=>by
  obtain ⟨hp,g,d,tk,os⟩:=s
  obtain ⟨ho,h⟩:=h
  unfold Builtin.«collections.deque.__init__»
  dsimp only
  show FA _ _ (setField (.ref a) 0 .none>>=fun x9=>Deque.clear (.ref a)>>=fun x9=>ret .none) _ _ _
  refine wb (wpAny_setField ho rfl (by decide) ?_)
  have e2:(hp.update a (Obj.mapFields (·.setIfInBounds 0 .none))).get? a=some dqO:=by
   rw[XD _ ho (Obj.isFreed_of_fields (Obj.data_mapFields (o:=dqO) rfl _))]
   rfl
  refine wb ?_
  unfold Deque.clear Deque.items
  refine wb (wb (wpAny_fieldsOf e2 rfl (wp ?_)))
  rw[AB (by decide)]
  exact wp (wp ⟨_,rfl,h _ e2 (QB ..)⟩)
section
variable {b:Bs}{h:Nat}{mem:AA AO}{i:Nat}
theorem tC:aF b h (.type "collections.deque") [] mem (.obj mem.length) (mem++[.other dqO]):=fun A s ρ mvs Q E hA r hv q=>by
 cases hv
 refine callType_meets (Q₁:=fun obj s₁=>obj=.ref s.heap.objs.size∧s₁={ s with heap:=s.heap.push dqO }) aAg aBN aAh aAi aAj tB ⟨rfl,rfl⟩ fun obj s₁ hq=>?_
 refine o02 hq fun x0 x2=>?_;clear hq;subst x0;subst x2
 have g1:(s.heap.push dqO).get? s.heap.objs.size=some dqO:=gpz _ rfl
 refine ⟨⟨dqO,g1,rfl⟩,aBO _,_,rD _,g1,fun h' e hs=>?_⟩
 refine ⟨rfl,?_⟩
 refine o03 (r.allocN (tk:=s.toks) (h':=h') (fun c o ec=>(hs.2 c (GC (DB ec))).trans (gps _ ec)) (p:=[s.heap.objs.size]) (ao:=.other dqO) (fun a ha=>by
  rw[HA] at ha;subst ha;exact MA _) (by simp) (fun mv mvs ea=>.other e)) fun r1 x1 row=>?_
 exact q _ _ _ r1 x1 (.obj row)
theorem kN(e:mem[i]?= some (.other dqO)):fM b h (.obj i) mem false mem:=fun A s ρ mx Q E hA r hx q=>by
 refine o12 (r.ors.get _ _ e) fun p e1 e2=>?_
 cases hx with|obj e3=>
 rw[e1] at e3;replace e3:=si e3;subst e3
 cases e2 with|other eo=>
 rename_i a
 have hT:∀(g:RA UE) (d:Drawn) (t:Nat) (os:QG),(⟨s.heap,g,d,t,os⟩:CA).TypeIs (.ref a) "collections.deque" :=fun x9 x9 x9 x9=>⟨_,eo,rfl⟩
 have qq:=q ρ { s with toks:=s.toks+1+1 } (r.toks _) ((Ext.refl _ _ _).toks _)
 obtain ⟨hp,g,d,tk,os⟩:=s
 have key:FA b.M A (runValue (.builtin "len" ⟨[.ref a],[]⟩)) (fun r s'=>r=.int 0 (tk+1)∧Q false s') E ⟨hp,g,d,tk,os⟩:=by
  refine wpAny_runValue (TH entry_len ?_)
  rw[GF plain_len _]
  have body:FA b.M A.in1 (Builtin.«len» ⟨[.ref a],[]⟩) (fun fin s'=>∃r,fin=.done (.ret r)∧(r=.int 0 (tk+1)∧Q false s')) E ⟨hp,g,d,tk,os⟩:=by
   unfold Builtin.«len»
   refine wb (m:=oneArg "len" _) (wp ?_)
   refine wb (m:=callSpecial? (.ref a) (LD "__len__")) (PD (name:=LD "__len__") (hT _ _ _ _) dq_len
    (OD dq_len (hT _ _ _ _) aAk ?_ (aBP _)))
   show FA _ _ (Deque.size (.ref a)>>=fun n=>retInt n) _ _ _
   unfold Deque.size
   refine wb (wb (wpAny_fieldsOf eo rfl (wp ?_)))
   show FA _ _ (retInt 0) _ _ _
   refine wb (wpAny_mkInt (wp ⟨_,rfl,?_⟩))
   refine wb (TA (wp ?_))
   refine wb (YH ?_)
   show FA _ _ (if ((0:Int)) < 0 then _ else _) _ _ _
   rw[AB (by lia)]
   show FA _ _ (if ((0:Int))≥2 ^ 63 then _ else _) _ _ _
   rw[AB (by lia)]
   exact wb (wpAny_mkInt (wp ⟨_,rfl,rfl,qq⟩))
  exact CB body (fun fin s' h'=>by refine o12 h' fun r x0 hq=>?_;clear h';subst x0;exact hq) fun x9 x9 e=>e
 unfold truthy
 first
  | refine wb (wpAny_callSpecial?_none (name:=LD "__bool__") (hT _ _ _ _) pW ?_)
  | refine wb (wp (wb (wpAny_callSpecial?_none (name:=LD "__bool__") (hT _ _ _ _) pW ?_)))
 first
  | refine wb (CF (name:=LD "__len__") (hT _ _ _ _) dq_len.lookup ?_)
  | refine wb (wp (wb (CF (name:=LD "__len__") (hT _ _ _ _) dq_len.lookup ?_)))
 first
  | exact wb (CB key (fun r s' h'=>by refine o02 h' fun x0 hq=>?_;clear h';subst x0;exact wp hq) fun x9 x9 e=>e)
  | exact wb (wp (wb (CB key (fun r s' h'=>by obtain ⟨rfl,hq⟩:=h';exact wp hq) fun x9 x9 e=>e)))
end
end
section
open Builtin
noncomputable def propIn(K:Frag)(C:EA)(name:Str)(p fget:EA):Prop:=CD K (.ref C) "__getattribute__" = some (some (.builtin "object.__getattribute__"))∧CD K (.ref C) "__getattr__" = some none∧(clsIn K C).isSome=true∧
 CD K (.ref C) name=some (some (.ref p))∧specialIn K (.ref p) "__get__" = some (some (.builtin "property.__get__"))∧takesIn K (.ref p)=some true∧∃rest,recIn K p "property" = some (.ref fget :: rest)
section
variable {b:Bs}{h k:Nat}{F:EA→Env}{loc:AA (Str×AV)}{mem m1 m2 m3:AA AO}{v v1 v2:AV}{pos p2:Pos}
theorem gL(B:aC b){name:Str}{i:Nat}{C p a0:EA}{sq:YA (AA AV)}{at_:AA (Str×AV)}(e:mem[i]?= some (.inst C sq at_))(hp:propIn b.K C name p a0)(z:bS b h (.ref a0) [.obj i] [] [] mem v m1)(hh:DA (v.handed=true) q9):
  AttrV b (h+1) (.obj i) name mem v m1:=fun A s ρ mo ex Q E hA r ho q=>by
 refine o41 (r.inst e ho) fun a d ox od x0=>?_;refine o32 x0 fun m es ep x5 x6=>?_;clear x0;subst x5;refine o08 x6 fun e1 I hd e4 e5 e6 e7 hm=>?_;clear x6
 refine o07 hp fun g1 g2 g3 g4 g5 g6 x0=>?_;clear hp;refine o11 x0 fun rest g7=>?_;clear x0
 have X:=r.kin B
 refine o11 (Option.isSome_iff_exists.mp g3) fun cd hc=>?_
 have hf:findObj b.K C (some od) name=some (.bind (.builtin "property.__get__") (.ref p)):=by
  unfold findObj
  rw[hc,g4]
  simp only[Option.bind_some,g5,g6]
 refine get_bind X I g1 hf g2 ?_
 refine CE (prop_get (s:={ s with toks:=s.toks+1 }) X g7 ?_)
 refine z A.in1 { s with toks:=s.toks+1 } ρ [.ref a] [] _ _ hA.in1 (r.toks _) (.cons ho .nil) .nil fun ρ2 s2 mv r2 x2 h2=>?_
 rw[handedOut_of (h2.handed hh)]
 exact wp (q ρ2 s2 mv r2 (((Ext.refl NoS ρ _).toks _).trans x2) h2)
theorem aAl(B:aC b){f:BA}{x kn:Str}{e1 e2:Expr}{p3:Pos}{m4:AA AO}(hf:aE b h F (.Name x p2) loc mem (.val f) m1)(kf:cY b f)(y:aE b h F e1 loc m1 v1 m2)(y2:aE b h F e2 loc m2 v2 m3)(z:bS b k f [v1] [kn] [v2] m3 v m4)(hk:k≤h)
  (he:DA (∀L,LC [e1] (F L)=(false,eval e1 (F L)) :: LC [] (F L)) q8):aE b h F (.Call (.Name x p2) [e1] [⟨some kn,e2,p3⟩] pos) loc mem v m4:=fun A s ρ L Q E hA r fm q=>
 NG (hf A s ρ L _ E hA r fm fun ρ1 s1 mv r1 x1 hv=>by
  cases hv
  refine NH (P:=b.K.In) (by rw[he L];rfl) (fun hp X=>kf hp X) ?_
  refine evalArgs_kw2 rfl (ND (y A s1 ρ1 L _ E hA r1 (fm.ext x1) fun ρ2 s2 a2 r2 x2 h2=>QE ?_) (he L)) (he L)
  refine kwAll_cons (y2 A s2 ρ2 L _ E hA r2 ((fm.ext x1).ext x2) fun ρ3 s3 a3 r3 x3 h3=>kwAll_nil ⟨r3.kin B,?_⟩)
  exact CE (z A s3 ρ3 [a2] [a3] Q E (hA.mono hk) r3 (.cons (x3.vr0 h2) .nil) (.cons h3 .nil) fun ρ4 s4 mv r4 x4 h4=>q ρ4 s4 mv r4 (((x1.trans x2).trans x3).trans x4) h4))
end
end
section
open Builtin
section
variable {b:Bs}{h:Nat}{mem:AA AO}
theorem VRs.strsAre{hp:PB}{ρ:Rho}:∀{xs:AA Str}{ms:AA BA},VRs hp ρ (xs.map .str) ms→StrsAre ms xs
 | [],_,q=>by cases q;exact .nil
 | x :: xs,_,q=>by
  cases q with|cons a el=>?_
  cases a with|str t=>exact .cons x t (VRs.strsAre (xs:=xs) el)
theorem jI{x:Str}{ys:AA Str}:cP b h .In (.str x) (.tup (ys.map .str)) mem (ys.any (· == x)):=fun A s ρ mx my Q E hA r h1 h2 z=>by
 cases h1 with|str t=>
 cases h2 with|tup e ha hl=>
 exact in_tuple_strs (ys:=ys) ⟨_,e,rfl,_,rfl⟩ hl.strsAre (z s r (Ext.refl _ _ _))
end
end
section
open Builtin
noncomputable def frs(l:AA Env):AA EA:=l.filterMap (·.frame)
structure cQ(b:Bs)(ρ:Rho)(s:CA)(l:AA Env):Prop where
 kind:∀env∈l,env.scope.kind≠.module∧∃L,env.frame=some L
 cell:∀L∈frs l,L∉ρ.all∧b.s₁.heap.get? L=none∧∃m,s.heap.Ns L m
noncomputable def Nsk(l:AA Env)(s s':CA):Prop:=∀c∈frs l,∀m,s.heap.Ns c m→s'.heap.Ns c m
section
variable {b:Bs}{h:Nat}{F:EA→Env}{loc loc' loc1:AA (Str×AV)}{mem m1 m2:AA AO}{ρ ρ':Rho}{s s':CA}{l:AA Env}{e1:Expr}{pos np p2:Pos}
theorem cQ.ext{S:EA→Prop}(f:cQ b ρ s l)(x:Ext S ρ s ρ' s')(hS:∀L∈frs l,¬ S L):cQ b ρ' s' l:=by
 refine ⟨f.kind,fun L hL=>?_⟩
 refine o03 (f.cell L hL) fun h1 h2 x4=>?_;refine o41 x4 fun m o es ep x5=>?_;clear x4;refine o03 x5 fun e d z=>?_;clear x5
 refine ⟨fun q=>?_,h2,m,o,es,ep,x.keep L o e (hS L hL) (fun q=>h1 (Rho.mem_rows q)) (.dict d),d,z⟩
 rcases x.all L q with q|q
 ·exact h1 q
 ·rw[e] at q;cases q
theorem Nsk.trans{s'':CA}(x:Nsk l s s')(y:Nsk l s' s''):Nsk l s s'':=fun c hc m z=>y c hc m (x c hc m z)
theorem cQ.nsk{S:EA→Prop}(f:cQ b ρ s l)(x:Ext S ρ s ρ' s')(hS:∀L∈frs l,¬ S L):Nsk l s s':=fun c hc m ⟨o,es,ep,e,d,z⟩=>
 ⟨o,es,ep,x.keep c o e (hS c hc) (fun q=>(f.cell c hc).1 (Rho.mem_rows q)) (.dict d),d,z⟩
theorem cQ.nexts{S:EA→Prop}(f:cQ b ρ s l)(x:Ext S ρ s ρ' s')(n:Nsk l s s'):cQ b ρ' s' l:=by
 refine ⟨f.kind,fun L hL=>?_⟩
 refine o03 (f.cell L hL) fun h1 h2 x4=>?_;refine o11 x4 fun m hm=>?_;clear x4
 refine ⟨fun q=>?_,h2,m,n L hL m hm⟩
 rcases x.all L q with q|q
 ·exact h1 q
 ·refine o32 hm fun o es ep e x9=>?_;clear hm
  rw[e] at q;cases q
theorem cQ.free(f:cQ b ρ s l):∀c∈frs l,Free s.heap ρ c:=fun c hc=>.ns (f.cell c hc).2.2.choose_spec
theorem cQ.push{env:Env}{L:EA}{m:Str→YA BA}(f:cQ b ρ s l)(hk:env.scope.kind=.function)(hf:env.frame=some L)(h1:L∉ρ.all)(h2:b.s₁.heap.get? L=none)(h3:s.heap.Ns L m):cQ b ρ s (env :: l):=by
 refine ⟨fun e he=>?_,fun c hc=>?_⟩
 ·rcases NA.mp he with rfl|he
  ·exact ⟨by rw[hk];decide,L,hf⟩
  ·exact f.kind e he
 ·unfold frs at hc
  rw[XH,hf] at hc
  rcases NA.mp hc with rfl|hc
  ·exact ⟨h1,h2,m,h3⟩
  ·exact f.cell c hc
theorem pX{hp base:PB}:∀{l:AA Env},(∀env∈l,env.scope.kind≠.module∧∃L,env.frame=some L)→(∀L∈frs l,base.get? L=none∧∃m,hp.Ns L m)→hp.FunFrames base l
 | [],_,_=>trivial
 | env :: r,h1,h2=>by
  refine o02 (h1 env (.head _)) fun hk x4=>?_;refine o11 x4 fun L hf=>?_;clear x4
  have hm:L∈frs (env :: r):=by unfold frs;rw[XH,hf];exact .head _
  refine o02 (h2 L hm) fun h3 x4=>?_;refine o41 x4 fun m o es ep x5=>?_;clear x4;refine o03 x5 fun e d z=>?_;clear x5
  exact ⟨hk,⟨L,o,hf,h3,e,fun vs q=>by rw[d] at q;cases q⟩,pX (fun e he=>h1 e (.tail _ he)) fun c hc=>h2 c (by unfold frs;rw[XH,hf];exact .tail _ hc)⟩
theorem R.moved(B:aC b)(r:R b ρ mem s){W:AA EA}{h':PB}(kp:∀c o,s.heap.get? c=some o→c∉W→h'.get? c=some o)(live:∀c o,s.heap.get? c=some o→∃o',h'.get? c=some o')
  (off:∀c∈W,c∉ρ.all∧b.s₁.heap.get? c=none) (fr:∀c∈W,Free s.heap ρ c):R b ρ mem { s with heap:=h' }∧Ext (·∈W) ρ s ρ { s with heap:=h' }:=by
 have nb:∀c o,b.s₁.heap.get? c=some o→c∉W:=fun c o e q=>by rw[(off c q).2] at e;cases e
 have all:∀a∈ρ.all,Free s.heap ρ a:=fun a ha=>.inl ha
 have vr:∀{u:AV}{mu:BA},VR s.heap ρ u mu→VR h' ρ u mu:=fun q=>q.move (ρ:=ρ) (ρ':=ρ) (·∈W) kp fr (fun x9 x9 e=>e) all
 have vrs:∀{u:AA AV}{mu:AA BA},VRs s.heap ρ u mu→VRs h' ρ u mu:=fun q=>q.move (ρ:=ρ) (ρ':=ρ) (·∈W) kp fr (fun x9 x9 e=>e) all
 refine ⟨⟨⟨⟨fun c o e=>?_,fun c o e=>?_⟩,fun o e=>kp _ o (r.old.sta o e) (nb _ _ e)⟩,?_,r.bare,r.os,fun t ht=>?_,ORs.move vr vrs (fun a ha o e=>kp a o e fun q=>(off a q).1 (Rho.mem_rows ha)) r.ors,r.nd,r.new,fun a ha=>?_⟩,
  ⟨fun c o e hS x9 x9=>kp c o e hS,fun x9 x9 e=>e,fun x9 q=>.inl q,rfl,live⟩⟩
 ·have nw:=nb c o e
  refine o11 (r.old.there c o e) fun o1 e1=>?_
  have hc:h'.get? c=s.heap.get? c:=by rw[e1];exact kp c o1 e1 nw
  rcases r.old.old c o e with x|⟨t,hc1,vs,more,hv,x⟩| ⟨rfl,hc1,⟨o',es,n,ho',q⟩,z⟩
  ·exact .inl (by rw[hc];exact x)
  ·exact .inr (.inl ⟨t,hc1,vs,more,hv,by rw[hc];exact x⟩)
  ·exact .inr (.inr ⟨rfl,hc1,⟨o',es,n,by rw[hc];exact ho',q⟩,fun key=>by rw[OldK.staticOf_congr hc key];exact z key⟩)
 ·refine o11 (r.old.there c o e) fun o1 e1=>?_
  exact ⟨o1,kp c o1 e1 (nb c o e)⟩
 ·refine o12 r.lim fun m q z=>?_
  refine o32 q fun oc es ep hc x=>?_;clear q
  refine o12 B.lim fun mb qb zb=>?_
  refine o32 qb fun ob esb epb hb xb=>?_;clear qb
  exact ⟨m,⟨oc,es,ep,kp _ oc hc (nb _ _ hb),x⟩,z⟩
 ·refine o12 (r.tab t ht) fun m q qt=>?_
  refine o02 (B.tab t ht) fun x4 hb2=>?_;refine o22 x4 fun ob vsb hb1 x9=>?_;clear x4
  refine o02 q fun x4 h2=>?_;clear q;refine o22 x4 fun o1 vs1 h1 x1=>?_;clear x4
  exact ⟨m,⟨⟨o1,vs1,kp _ _ h1 (nb _ _ hb1),x1⟩,kp _ _ h2 (nb _ _ hb2)⟩,qt⟩
 ·refine o11 (r.hid a ha) fun o e=>?_
  exact ⟨o,kp a o e fun q=>(off a q).1 (Rho.mem_hid ha)⟩
noncomputable def ExecR(b:Bs)(h:Nat)(F:EA→Env)(l:AA VD)(loc:AA (Str×AV))(mem mem':AA AO):Prop:=
 ∀(A:XA) (s:CA) (ρ:Rho) (L:EA) (Q:Flow→CA→Prop) (E:BA→CA→Prop),Ht h A→R b ρ mem s→Fm b L (F L).cells ρ loc s→
  (∀ρ' s' h' e loc',R b ρ' mem' s'→Fm b L (F L).cells ρ' loc' s'→Ext (bJ L (F L).cells) ρ s ρ' s'→Heap.MadeExc s'.heap h' e "StopIteration" []→E (.ref e) { s' with heap:=h' })→FA b.M A (execs l (F L)) Q E s
theorem ExecR.cons{st:VD}{r:AA VD}(x:aL b h F st loc mem .next loc1 m1)(y:ExecR b h F r loc1 m1 m2):ExecR b h F (st :: r) loc mem m2:=fun A s ρ L Q E hA r f q=>
 AE (x A s ρ L _ E hA r f fun ρ1 s1 fl r1 f1 x1 o=>by
  cases o
  exact y A s1 ρ1 L _ E hA r1 f1 fun ρ2 s2 h' e loc' r2 f2 x2 hx=>q ρ2 s2 h' e loc' r2 f2 (x1.trans x2) hx)
theorem ExecR.raise(B:aC b)(f:aS F){more orelse rest:AA VD}(t:bA b h F e1 loc mem true m1)(e:nsIn b.K TB ("StopIteration" : Str)=some none)(hl:DA (∀L,(F L).kindOf ("StopIteration" : Str)=some .globalImplicit) q8):
  ExecR b h F (.If e1 (.Raise (some (.Name "StopIteration" np)) none p2 :: more) orelse pos :: rest) loc mem m1:=fun A s ρ L Q E hA r fm q=>
 AE (wpAny_If (t A s ρ L _ E hA r fm fun ρ1 s1 r1 x1=>by
  rw[OB rfl]
  refine AE (owsi_raiseC hA.2.2 ?_ fun h' e hx=>q ρ1 s1 h' e loc r1 (fm.ext x1) (x1.mono fun x9 h=>h.elim) hx)
  refine o12 (r1.boot B) fun mb hb hb2=>?_
  refine PF (f.kind L) (hl L) ?_ (by decide)
  unfold loadGlobal
  rw[f.globals L,f.builtins L]
  refine wb ((looks_nsIn (r1.kin B) e).here (wb (wpAny_nsGet hb ?_)))
  rw[hb2 _ (by decide),Boot.«StopIteration»]
  exact wp ⟨rfl,rfl⟩))
noncomputable def StopV(b:Bs)(h:Nat)(f:BA)(args:AA AV)(mem mem':AA AO):Prop:=
 ∀(A:XA) (s:CA) (ρ:Rho) (mvs:AA BA) (l:AA Env) (Q:BA→CA→Prop) (E:BA→CA→Prop),Ht h A→A.frames=some l→cQ b ρ s l→R b ρ mem s→VRs s.heap ρ args mvs→
  (∀ρ' s' e,R b ρ' mem' s'→Ext (·∈frs l) ρ s ρ' s'→Nsk l s s'→s'.TypeIs (.ref e) "StopIteration" →E (.ref e) s')→FA b.M A (call f mvs) Q E s
theorem aAm(B:aC b){f:EA}{fd:BD}{oc:BA}{od:YA EA}{osl:RA (YA BA)}{body:AA VD}{xs:AA Str}{args:AA AV}
  (hx:ExecR b h (fun L=>KC fd L f) body (bindsL xs args) mem m1)
  (ho:b.K.lookup f=some ⟨oc,od,.func fd,osl⟩) (hcd:codeIn b.K fd.code fd.qualname=true) (hb:fd.body=.stmts body)
  (hbind:∀mvs:AA BA,mvs.length=args.length→TD fd ⟨mvs,[]⟩=pure (xs.zip mvs)) (nd:xs.Nodup)
  (hcell:∀x∈fd.scope.names,x.2≠.cell) (hloc:∀x∈xs,fd.scope.names.lookup x=some .local)
  (hco:fd.scope.isCoroutine=false) (hgen:fd.scope.isGenerator=false) (hk:fd.scope.kind=.function) (hclo:fd.closure=[]):StopV b (h+1) (.ref f) args mem m1:=fun A s ρ mvs l Q E hA hl hfr r hv q=>by
 have X:=r.kin B
 refine CE (codeAny_call_function hA.depth (X _ _ ho) rfl hco hgen hb (codeRec_of X hcd) ?_)
 rw[hbind mvs hv.length]
 refine wp ?_
 refine ZG hcell (fun x hx=>hloc x.1 (DD (a:=x.1) (b:=x.2) hx).1) (fun h₀ hns hsb=>?_) hk
 have hkp:∀c o,s.heap.get? c=some o→h₀.get? c=some o:=fun c o e=>hsb.extBut c o (GC (DB e)) (gps _ e)
 have e0:s.heap.get? s.heap.objs.size=none:=aP (MA _)
 have hcl:(KC fd s.heap.objs.size f).cells=[]:=hclo
 have x0:Ext NoS ρ s ρ { s with heap:=h₀,toks:=s.toks+(xs.zip mvs).length }:=Ext.of_keeps _ _ hkp
 have r0:R b ρ mem { s with heap:=h₀,toks:=s.toks+(xs.zip mvs).length }:=r.keeps hkp s.gens r.bare s.drawn _
 have nL:s.heap.objs.size∉ρ.all:=fun hm=>JB _ (r.lt hm)
 refine ⟨r0.lim,codeAny_func ?_⟩
 refine hx (A.deeper (KC fd s.heap.objs.size f)) _ ρ s.heap.objs.size _ _ (hA.deeper _) r0 (Fm.plain hcl hns nL r.fresh (dA xs args mvs (x0.vrs0 hv) nd)) fun ρ1 s1 h2 e loc2 r1 f1 x1 hx1=>?_
 have lL:∀c∈frs l,c≠s.heap.objs.size:=fun c hc q=>by
  refine o03 (hfr.cell c hc) fun x9 x9 x4=>?_;refine o41 x4 fun m o es ep x5=>?_;clear x4;refine o02 x5 fun e x9=>?_;clear x5
  exact absurd (DB e) (by rw[q];exact JB _)
 have hcl1:∀c∈frs l,¬ bJ s.heap.objs.size (KC fd s.heap.objs.size f).cells c:=fun c hc q=>by
  rw[hcl] at q
  rcases q with q|⟨p,hp,_⟩
  ·exact lL c hc q
  ·cases hp
 have fr1:=(hfr.ext x0 fun x9 x9 z=>z).ext x1 hcl1
 refine o12 f1.ns fun m' hn1 x9=>?_
 have ox:=f1.off s.heap.objs.size (.inl rfl)
 have fr2:cQ b ρ1 s1 (KC fd s.heap.objs.size f :: l):=fr1.push hk rfl ox.1 ox.2 hn1
 have hm:∀L∈frs (KC fd s.heap.objs.size f :: l),(hideAll s1.heap (frs (KC fd s.heap.objs.size f :: l))).get? L=none∧∃m,s1.heap.Ns L m:=fun L hL=>⟨hideAll_none _ hL,(fr2.cell L hL).2.2⟩
 refine wpAny_leaves_madeW (base:=hideAll s1.heap (frs (KC fd s.heap.objs.size f :: l))) (h:=s1.heap) (Around.frames_deeper hl) rfl (fun c o z=>of_hideAll _ z) (pX fr2.kind hm) hx1.of fun h3 t y1 y2 y3 y4=>?_
 refine o04 y1 fun z1 z2 z3 x4=>?_;clear y1;refine o41 x4 fun oe vs T oT x5=>?_;clear x4;refine o13 x5 fun ts z4 z5 x9=>?_;clear x5
 have up:∀c o,s1.heap.get? c=some o→∃o',h3.get? c=some o':=fun c o ec=>by
  by_cases hc:c∈frs (KC fd s.heap.objs.size f :: l)
  ·refine o41 ((fr2.cell c hc).2.2) fun m o1 es ep x4=>?_;refine o03 x4 fun eo d x9=>?_;clear x4
   refine o11 (y4 c o1 (hx1.keeps c o1 eo) fun vs q=>by rw[d] at q;cases q) fun sl es=>?_
   exact ⟨_,es⟩
  ·exact ⟨o,z1 c o (hideAll_get _ ec hc)⟩
 refine o02 (r1.moved B (W:=frs (KC fd s.heap.objs.size f :: l)) (h':=h3) (fun c o ec hc=>z1 c o (hideAll_get _ ec hc)) up (fun c hc=>⟨(fr2.cell c hc).1,(fr2.cell c hc).2.1⟩) fun c hc=>.ns (fr2.cell c hc).2.2.choose_spec) fun r3 x3=>?_
 have nk:Nsk l s { s1 with heap:=h3 }:=((hfr.nsk x0 fun x9 x9 z=>z).trans ((hfr.ext x0 fun x9 x9 z=>z).nsk x1 hcl1)).trans fun c hc m hn=>y4.ns (by
  refine o32 hn fun o es ep e z=>?_;clear hn
  exact ⟨o,es,ep,hx1.keeps c o e,z⟩)
 refine q ρ1 _ e r3 ?_ nk ⟨oe,z4,z5.1⟩
 have back:∀c,c∈frs (KC fd s.heap.objs.size f :: l)→c=s.heap.objs.size∨c∈frs l:=fun c hc=>by
  unfold frs at hc
  rw[XH] at hc
  exact NA.mp hc
 have y:Ext (fun c=>c=s.heap.objs.size∨c∈frs l) ρ s ρ1 { s1 with heap:=h3 }:=((x0.mono fun x9 h=>h.elim).trans (x1.mono fun c hc=>by
  rw[hcl] at hc
  rcases hc with hc|⟨p,hp,_⟩
  ·exact .inl hc
  ·cases hp)).trans (x3.mono back)
 exact ⟨fun c o ec hc hr kq=>y.keep c o ec (fun z=>z.elim (fun z=>by rw[z,e0] at ec;cases ec) hc) hr kq,y.pre,y.new,y.hid,y.live⟩
end
end
section
open Builtin
section
variable {M:WH}{A:XA}{E:BA→CA→Prop}{s:CA}{K:Frag}{x C f:EA}{ox:Obj}{od:YA Obj}
theorem xM{g:BA}{Q:BA→CA→Prop}(X:K.In s.heap)(I:InstAt s.heap x ox C od)(hs:CD K (.ref C) "__iter__" = some (some (.ref f)))(hf:typeIn K (.ref f)=some (.type "function"))
  (h:FA M A (call (.ref f) [.ref x]) (fun it s'=>it=.ref x∧EC M s'.heap (specialOf (.ref x) "__next__") (some g)∧Q (.ref x) s') E s):FA M A (pyIter (.ref x)) Q E s:=by
 have sp:EC M s.heap (specialOf (.ref x) "__iter__") (some (.ref f)):=I.type.andThen (MD X hs)
 unfold pyIter
 refine wb (sp.here ?_)
 dsimp only
 unfold callSpecialIfBoundUnlessNone? bindSpecialIfBound?
 refine wb (TA (wb (wb (sp.here ?_))))
 dsimp only
 refine wb (wpAny_askSetting ?_)
 have go:FA M A (call (.ref f) [.ref x]>>=fun v=>pure (some v)) (fun r s'=>r=some (.ref x)∧EC M s'.heap (specialOf (.ref x) "__next__") (some g)∧Q (.ref x) s') E s:=
  wb (CB h (fun v s' hv=>by refine o03 hv fun x0 h1 h2=>?_;clear hv;subst x0;exact wp ⟨rfl,h1,h2⟩) fun x9 x9 z=>z)
 have fin:∀r s',(r=some (Value.ref x)∧EC M s'.heap (specialOf (.ref x) "__next__") (some g)∧Q (.ref x) s')→FA M A (match r with
   | some it=>specialOf it "__next__" >>=fun r=>match r with
    | none=>(do rule "iter.non-iterator";raiseError "TypeError" s!"iter() returned non-iterator of type '{← typeNameOf it}'")
    | some _=>pure it
   | none=>bindSpecialIfBound? (.ref x) "__getitem__" >>=fun r=>match r with
    | none=>(do rule "iter.not-iterable";raiseError "TypeError" s!"'{← typeNameOf (.ref x)}' object is not iterable")
    | some _=>(do rule "iter.getitem-fallback";newFields "iterator" [.ref x,← mkInt 0])) Q E s':=fun r s' hr=>by
  refine o03 hr fun x0 h1 h2=>?_;clear hr;subst x0
  exact wb (h1.here (wp h2))
 split
 ·refine wb ((bind_fn X _ hf).here (wp ?_))
  dsimp only
  rw[AB (by intro q;cases q)]
  exact CB go fin fun x9 x9 z=>z
 ·refine wpAny_tryCatch (wb ((bind_fn X _ hf).here (wp ?_)))
  dsimp only
  rw[AB (by intro q;cases q)]
  exact CB go fin fun x9 x9 z=>z
end
inductive NRun(b:Bs)(h:Nat)(f:BA)(i:Nat)(C:EA):AA AO→AA AV→AA AO→Prop
 | nil {m:AA AO}{at_:AA (Str×AV)}(hi:m[i]?= some (.inst C .none at_)) (st:∀acc:AO,StopV b h f [.obj i] (m++[acc]) (m++[acc])):NRun b h f i C m [] m
 | cons {m m1 m2:AA AO}{v:AV}{vs:AA AV}{at_:AA (Str×AV)}(hi:m[i]?= some (.inst C .none at_)) (hl:m1.length=m.length) (c:∀acc:AO,aF b h f [.obj i] (m++[acc]) v (m1++[acc])) (r:NRun b h f i C m1 vs m2):NRun b h f i C m (v :: vs) m2
section
variable {b:Bs}{h:Nat}{i:Nat}{C fn:EA}
theorem NRun.len{m m2:AA AO}{vs:AA AV}{f:BA}(N:NRun b h f i C m vs m2):m2.length=m.length:=by
 induction N with
 | nil=>rfl
 | cons hi hl c r ih=>exact ih.trans hl
theorem eX{m:AA AO}{o acc:AO}(e:m[i]?= some o):(m++[acc])[i]?= some o:=by
 rw[CC (List.getElem?_eq_some_iff.mp e).1,e]
theorem xN(B:aC b)(hn:CD b.K (.ref C) "__next__" = some (some (.ref fn)))(hf:typeIn b.K (.ref fn)=some (.type "function")){S I:EA}{res:BA}{l:AA Env}{A:XA}(hA:Ht (h+1) A)(hl:A.frames=some l){Rr:Result→CA→Prop}:
  ∀{m m2:AA AO}{vs:AA AV},NRun b h (.ref fn) i C m vs m2→∀(acc:AA AV) (s:CA) (ρ:Rho),acc.length+vs.length≤1000000→R b ρ (m++[.lst acc]) s→VR s.heap ρ (.obj m.length) (.ref S)→VR s.heap ρ (.obj i) (.ref I)→cQ b ρ s l→
  (∀ρ' s',R b ρ' (m2++[.lst (acc++vs)]) s'→Ext (·∈frs l) ρ s ρ' s'→Nsk l s s'→Rr (.ok (.ret res)) s')→codeAny b.M A (.builtin "list.extend.loop" ⟨[.ref S,.ref I,res],[]⟩) Rr s:=fun N=>by
 induction N with
 | nil hi st=>
  rename_i m at_
  intro acc s ρ hz r hS hI hfr q
  rw[ZB] at q
  refine o41 (r.inst (eX hi) hI) fun a d ox od x0=>?_;refine o33 x0 fun mm es ep ea e1 x6=>?_;clear x0;refine o07 x6 fun IA hd e4 e5 e6 e7 hm=>?_;clear x6
  cases ea
  refine TH F.entry_extend_loop ?_
  rw[GF F.plain_extend_loop _]
  show FA _ A.in1 (pyNext (.ref I)>>=_) _ _ s
  unfold pyNext
  refine wb (wb (NE (special_fn (name:="__next__") (args:=[]) (r.kin B) IA hn hf ?_)))
  refine st (.lst acc) A.in1 s ρ [.ref I] l _ _ hA.in1 hl hfr r (.cons hI .nil) fun ρ' s' e r' x' n' hT=>?_
  refine wb (JG hT owsi_facts.sub ?_)
  rw[OB rfl]
  exact wp (wp (q ρ' s' r' x' n'))
 | cons hi hlen c _ ih=>
  rename_i m m1 m2 v vs at_ _r
  intro acc s ρ hz r hS hI hfr q
  rw[UA] at hz
  refine o41 (r.inst (eX hi) hI) fun a d ox od x0=>?_;refine o33 x0 fun mm es ep ea e1 x6=>?_;clear x0;refine o07 x6 fun IA hd e4 e5 e6 e7 hm=>?_;clear x6
  cases ea
  refine TH F.entry_extend_loop ?_
  rw[GF F.plain_extend_loop _]
  show FA _ A.in1 (pyNext (.ref I)>>=_) _ _ s
  unfold pyNext
  refine wb (wb (NE (special_fn (name:="__next__") (args:=[]) (r.kin B) IA hn hf ?_)))
  refine c (.lst acc) A.in1 s ρ [.ref I] _ _ hA.in1 r (.cons hI .nil) fun ρ1 s1 mv r1 x1 h1=>wp ?_
  have hS1:=x1.vr0 hS
  refine o35 (r1.list (i:=m.length) (by rw[← hlen,OA (MA _),VB];rfl) hS1) fun a2 its n ea2 hrow ea hvs sz=>?_
  cases ea2
  show FA _ A.in1 (updateSeq S (·.push mv)>>=_) _ _ _
  refine wb (XG ea rfl (wp ⟨plainId_quiet F.plain_extend_loop _,?_⟩) (by rw[HB];lia) (by rw[HB,Array.size_push];lia))
  refine o03 (r1.listUpd B (tk:=s1.toks) hrow (QB s1.heap S (Obj.mapSeq fun x=>x.push mv)) (IsL.update ea _) (l:=acc++[v]) (by rw[MF];exact hvs.append (.cons h1 .nil))) fun r2 x2 mv2=>?_
  have em:(m1++[AO.lst acc]).set m.length (.lst (acc++[v]))=m1++[.lst (acc++[v])]:=by
   rw[← hlen,WD _ _ (MA _),VB];rfl
  rw[em] at r2
  refine ih (acc++[v]) _ ρ1 (by rw[PA,IE];lia) r2 (hlen▸mv2 hS1) (mv2 (x1.vr0 hI)) ((hfr.ext x1 fun x9 x9 z=>z).ext x2 fun x9 x9 z=>z) fun ρ' s' r' x' n'=>?_
  rw[WC] at r'
  exact q ρ' s' r' (((x1.mono fun x9 z=>z.elim).trans (x2.mono fun x9 z=>z.elim)).trans x') (((hfr.nsk x1 fun x9 x9 z=>z).trans ((hfr.ext x1 fun x9 x9 z=>z).nsk x2 fun x9 x9 z=>z)).trans n')
theorem rE(B:aC b)(hn:CD b.K (.ref C) "__next__" = some (some (.ref fn)))(hf:typeIn b.K (.ref fn)=some (.type "function")){fi:EA}(hs:CD b.K (.ref C) "__iter__" = some (some (.ref fi)))(hfi:typeIn b.K (.ref fi)=some (.type "function"))
  (h1:CD b.K (.ref C) "__len__" = some none) (h2:CD b.K (.ref C) "__length_hint__" = some none) {l:AA Env}{A:XA}(hA:Ht (h+3) A) (hl:A.frames=some l) {m m2:AA AO}{vs:AA AV}(N:NRun b h (.ref fn) i C m vs m2)
  (ci:∀acc:AO,aF b h (.ref fi) [.obj i] (m++[acc]) (.obj i) (m++[acc])) (hz:vs.length≤1000000) (hm:i < m.length) {at_:AA (Str×AV)}(hi:m[i]?= some (.inst C .none at_)) {s:CA}{ρ:Rho}{I:EA}{Q:BA→CA→Prop}{E:BA→CA→Prop}(r:R b ρ m s) (hI:VR s.heap ρ (.obj i) (.ref I)) (hfr:cQ b ρ s l)
  (q:∀ρ' s' mv,R b ρ' (m2++[.lst vs]) s'→Ext (·∈frs l) ρ s ρ' s'→Nsk l s s'→VR s'.heap ρ' (.obj m.length) mv→Q mv s'):FA b.M A (call (.type "list") [.ref I]) Q E s:=by
 refine callType_codes (Q₁:=fun obj s₁=>obj=.ref s.heap.objs.size∧s₁={ s with heap:=s.heap.push { cls:=.type "list",data:=.seq #[] } }) F.called_list (F.typeCall_list_1 _) F.entry_list_init (code_list_new _ ⟨rfl,rfl⟩) fun obj s₁ hs₁=>?_
 refine o02 hs₁ fun x0 x6=>?_;clear hs₁;subst x0;subst x6
 have hS:(s.heap.push { cls:=.type "list",data:=.seq #[] }).get? s.heap.objs.size=some { cls:=.type "list",data:=.seq #[] }:=gpz _ rfl
 refine o02 (r.alloc1 { cls:=.type "list",data:=.seq #[] } (.lst []) (.lst hS .nil)) fun r1 x1=>?_
 have row:(ρ.add [s.heap.objs.size]).rows[m.length]?= some [s.heap.objs.size]:=by
  show (ρ.rows++[[s.heap.objs.size]])[m.length]?= _
  rw[← r.ors.length,OA (MA _),VB];rfl
 have hSI:s.heap.objs.size≠I:=fun e=>by
  refine o41 (r.inst hi hI) fun a d ox od x0=>?_;refine o31 x0 fun mm es ep x6=>?_;clear x0;refine o04 x6 fun ea e1 IA x9=>?_;clear x6
  cases ea
  exact absurd (DB IA.at_) (by rw[e];exact JB _)
 refine ⟨⟨_,hS,rfl⟩,F.args_list_init_2 _ _,?_⟩
 show FA _ _ (do let old ← WG (.ref s.heap.objs.size);Builtin.List.listUpdate (.ref s.heap.objs.size) (fun x9=>#[]);letGo old.toList.reverse;Builtin.List.listExtendWith (.ref s.heap.objs.size) (.ref I) .none) _ _ _
 refine wb ?_
 unfold WG
 refine wb (VC hS rfl (wp ?_))
 show FA _ _ (updateSeq s.heap.objs.size (fun x9=>#[])>>=fun x9=>letGo (#[]:RA BA).toList.reverse>>=fun x9=>Builtin.List.listExtendWith (.ref s.heap.objs.size) (.ref I) .none) _ _ _
 refine wb (XG hS rfl ?_)
 have hS2:=XD (Obj.mapSeq (fun x9=>(#[]:RA BA))) hS rfl
 refine o03 (r1.listUpd B (i:=m.length) (tk:=s.toks) row (QB _ s.heap.objs.size (Obj.mapSeq fun x9=>(#[]:RA BA))) (its:=#[]) (n:=0) hS2 (l:=[]) .nil) fun r2 x2 mv2=>?_
 have em:(m++[AO.lst []]).set m.length (.lst [])=m++[.lst []]:=by
  rw[WD _ _ (MA _),VB];rfl
 rw[em] at r2
 have hI2:VR _ _ (.obj i) (.ref I):=mv2 (x1.vr0 hI)
 have hfr2:=(hfr.ext x1 fun x9 x9 z=>z).ext x2 fun x9 x9 z=>z
 refine wb (YH ?_)
 refine o41 (r2.inst (eX hi) hI2) fun a d ox od x0=>?_;refine o33 x0 fun mm es ep ea e1 x6=>?_;clear x0;refine o07 x6 fun IA hd e4 e5 e6 e7 hmm=>?_;clear x6
 cases ea
 unfold Builtin.List.listExtendWith
 refine wb (IA.type.here ?_)
 rw[show (SH (.ref s.heap.objs.size) (.ref I) || (Value.ref C == Value.type "list") || (Value.ref C == Value.type "tuple"))=false from by
  simp[SH,hSI],AB (by decide)]
 refine wb ?_
 refine xM (g:=.ref fn) (r2.kin B) IA hs hfi ?_
 refine ci (.lst []) _ _ _ [.ref I] _ _ (hA.in1.in1.mono (Nat.le_succ _)) r2 (.cons hI2 .nil) fun ρ3 s3 mv r3 x3 h3=>?_
 have h3':mv=.ref I:=by
  have:=x3.vr0 hI2
  cases this with|obj ee=>
  cases h3 with|obj ee2=>rw[ee] at ee2;cases ee2;rfl
 subst h3'
 refine o41 (r3.inst (eX hi) h3) fun a d ox od x0=>?_;refine o33 x0 fun mm es ep ea e1 x6=>?_;clear x0;refine o07 x6 fun IA3 hd e4 e5 e6 e7 hmm=>?_;clear x6
 cases ea
 refine ⟨rfl,IA3.type.andThen (MD (r3.kin B) hn),?_⟩
 have k1:EC b.M s3.heap (specialOf (.ref I) "__len__") none:=IA3.type.andThen (MD (r3.kin B) h1)
 have k2:EC b.M s3.heap (specialOf (.ref I) "__length_hint__") none:=IA3.type.andThen (MD (r3.kin B) h2)
 refine wb (TA ?_)
 have hint:FA b.M A.in1.in1 (Builtin.List.listLengthHint (.ref I)) (fun c s'=>c=true∧s'=s3) (fun x9 x9=>False) s3:=by
  unfold Builtin.List.listLengthHint
  refine wb (k1.here ?_)
  show FA _ _ (specialOf (.ref I) "__length_hint__" >>=_) _ _ _
  refine wb (k2.here ?_)
  exact wp ⟨rfl,rfl⟩
 refine CB hint (fun c s' hc=>?_) fun x9 x9 z=>z.elim
 refine o02 hc fun x0 x6=>?_;clear hc;subst x0;subst x6
 have hS3:=x3.vr0 (mv2 (VR.obj row))
 refine o35 (r3.list (i:=m.length) (by rw[OA (MA _),VB];rfl) hS3) fun a2 its n ea2 hrow3 ea3 hvs3 sz3=>?_
 cases ea2
 have e0:its=#[]:=Array.eq_empty_of_size_eq_zero sz3
 subst e0
 rw[Bool.true_or]
 refine wpAny_ite_split (fun x9=>?_) (fun hc=>absurd rfl hc)
 refine wb (ZE ?_)
 refine wb ?_
 show FA _ _ (updateSeq s.heap.objs.size (·.push .none)>>=fun x9=>updateSeq s.heap.objs.size (·.pop)) _ _ _
 refine wb (XG ea3 rfl ?_ (by rw[HB];decide) (by rw[HB];decide))
 have ea4:=XD (Obj.mapSeq (·.push Value.none)) ea3 rfl
 refine XG ea4 rfl ?_ (by rw[HB];decide) (by rw[HB];decide)
 refine o03 (r3.listUpd B (i:=m.length) (tk:=s'.toks) hrow3 ((QB s'.heap s.heap.objs.size (Obj.mapSeq (·.push Value.none))).trans (QB _ s.heap.objs.size (Obj.mapSeq (·.pop)))) (IsL.update ea4 _) (l:=[]) .nil) fun r4 x4 mv4=>?_
 rw[em] at r4
 refine wp ⟨plainId_quiet F.plain_extend_loop _,?_⟩
 refine xN (A:=A.in1) (res:=.none) B hn hf (hA.in1.mono (Nat.le_succ _)) hl N [] _ _ (by simpa using hz) r4 (mv4 hS3) (mv4 h3) ((hfr2.ext x3 fun x9 x9 z=>z).ext x4 fun x9 x9 z=>z) fun ρ' s5 r5 x5 n5=>?_
 have xx:=((((x1.mono (fun x9 z=>z.elim)).trans (x2.mono fun x9 z=>z.elim)).trans (x3.mono fun x9 z=>z.elim)).trans (x4.mono fun x9 z=>z.elim)).trans x5
 have nn:=((((hfr.nsk x1 fun x9 x9 z=>z).trans ((hfr.ext x1 fun x9 x9 z=>z).nsk x2 fun x9 x9 z=>z)).trans (hfr2.nsk x3 fun x9 x9 z=>z)).trans ((hfr2.ext x3 fun x9 x9 z=>z).nsk x4 fun x9 x9 z=>z)).trans n5
 refine ⟨rfl,q ρ' s5 _ (by simpa using r5) xx nn ?_⟩
 exact .obj (x5.pre _ _ hrow3)
end
end
section
open Builtin
section
variable (b:Bs)(h:Nat)(F:EA→Env)
noncomputable def CallF(f:BA)(args:AA AV)(mem:AA AO)(v:AV)(mem':AA AO):Prop:=
 ∀(A:XA) (s:CA) (ρ:Rho) (mvs:AA BA) (l:AA Env) (Q:BA→CA→Prop) (E:BA→CA→Prop),Ht h A→A.frames=some l→cQ b ρ s l→R b ρ mem s→VRs s.heap ρ args mvs→
  (∀ρ' s' mv,R b ρ' mem' s'→Ext (·∈frs l) ρ s ρ' s'→Nsk l s s'→VR s'.heap ρ' v mv→Q mv s')→FA b.M A (call f mvs) Q E s
noncomputable def EvalF(e:Expr)(loc:AA (Str×AV))(mem:AA AO)(v:AV)(mem':AA AO):Prop:=
 ∀(A:XA) (s:CA) (ρ:Rho) (L:EA) (l:AA Env) (Q:BA→CA→Prop) (E:BA→CA→Prop),Ht h A→A.frames=some (F L :: l)→cQ b ρ s (F L :: l)→R b ρ mem s→Fm b L [] ρ loc s→
  (∀ρ' s' mv,R b ρ' mem' s'→Ext (·∈frs (F L :: l)) ρ s ρ' s'→Nsk (F L :: l) s s'→VR s'.heap ρ' v mv→Q mv s')→FA b.M A (eval e (F L)) Q E s
noncomputable def dU(st:AA VD)(loc:AA (Str×AV))(mem:AA AO)(out:AOut)(loc':AA (Str×AV))(mem':AA AO):Prop:=
 ∀(A:XA) (s:CA) (ρ:Rho) (L:EA) (l:AA Env) (Q:Flow→CA→Prop) (E:BA→CA→Prop),Ht h A→A.frames=some (F L :: l)→cQ b ρ s (F L :: l)→L∉frs l→R b ρ mem s→Fm b L [] ρ loc s→
  (∀ρ' s' fl,R b ρ' mem' s'→Fm b L [] ρ' loc' s'→Ext (·∈frs (F L :: l)) ρ s ρ' s'→Nsk l s s'→FlR s'.heap ρ' out fl→Q fl s')→FA b.M A (execs st (F L)) Q E s
end
structure OneF(F:EA→Env):Prop where
 cel:∀L,(F L).cells=[]
 frame:∀L,(F L).frame=some L
 kind:∀L,(F L).scope.kind=.function
section
variable {b:Bs}{h k:Nat}{F:EA→Env}{loc loc' loc1 loc2:AA (Str×AV)}{mem m1 m2 m3:AA AO}{ρ ρ':Rho}{s s':CA}{l:AA Env}{e1:Expr}{v v1:AV}{pos p2:Pos}{out:AOut}{st:VD}{r:AA VD}
theorem cM{env:Env}{L:EA}(hf:env.frame=some L):frs (env :: l)=L :: frs l:=by unfold frs;rw[XH,hf]
theorem Fm.nexts{L:EA}{S:EA→Prop}(f:Fm b L [] ρ loc s)(x:Ext S ρ s ρ' s')(n:∀m,s.heap.Ns L m→s'.heap.Ns L m)(hS:∀c,S c→Free s.heap ρ c):Fm b L [] ρ' loc s':=by
 refine o12 f.ns fun m hn hm=>?_
 refine ⟨⟨m,n m hn,fun y w hw=>?_⟩,fun c hc=>?_,fun p hp=>(nomatch hp),GG⟩
 ·refine o12 (hm y w hw) fun mv z1 z2=>?_
  exact ⟨mv,z1,x.vr hS z2⟩
 ·rcases hc with rfl|⟨p,hp,_⟩
  ·refine o02 (f.off c (.inl rfl)) fun o1 o2=>?_
   refine ⟨fun q=>?_,o2⟩
   rcases x.all c q with q|q
   ·exact o1 q
   ·refine o32 hn fun o es ep e x9=>?_;clear hn
    rw[e] at q;cases q
  ·cases hp
theorem only_nil{L c:EA}:bJ L [] c↔c=L:=⟨fun h=>h.elim id fun ⟨p,hp,_⟩=>(nomatch hp),.inl⟩
theorem dU.cons(o:OneF F)(x:aL b h F st loc mem .next loc1 m1)(y:dU b h F r loc1 m1 out loc2 m2):dU b h F (st :: r) loc mem out loc2 m2:=fun A s ρ L l Q E hA hl hf hd rr fm q=>
 AE (x A s ρ L _ E hA rr (by rw[o.cel];exact fm) fun ρ1 s1 fl r1 f1 x1 fo=>by
  cases fo
  rw[o.cel] at f1 x1
  have hS:∀c∈frs l,¬ bJ L [] c:=fun c hc z=>hd (only_nil.mp z▸hc)
  have hfl:cQ b ρ s l:=⟨fun e he=>hf.kind e (.tail _ he),fun c hc=>hf.cell c (by rw[cM (o.frame L)];exact .tail _ hc)⟩
  refine o12 f1.ns fun m' hn' x9=>?_
  have hf1:=(hfl.ext x1 hS).push (o.kind L) (o.frame L) (f1.off L (.inl rfl)).1 (f1.off L (.inl rfl)).2 hn'
  refine y A s1 ρ1 L l _ E hA hl hf1 hd r1 f1 fun ρ2 s2 fl r2 f2 x2 n2 fo=>q ρ2 s2 fl r2 f2 ((x1.mono fun c hc=>?_).trans x2) ((hfl.nsk x1 hS).trans n2) fo
  rw[cM (o.frame L),only_nil.mp hc];exact .head _)
theorem dU.of(o:OneF F)(x:aI b h F r loc mem out loc' m1):dU b h F r loc mem out loc' m1:=fun A s ρ L l Q E hA hl hf hd rr fm q=>
 x A s ρ L _ E hA rr (by rw[o.cel];exact fm) fun ρ1 s1 fl r1 f1 x1 fo=>by
  rw[o.cel] at f1 x1
  have hS:∀c∈frs l,¬ bJ L [] c:=fun c hc z=>hd (only_nil.mp z▸hc)
  have hfl:cQ b ρ s l:=⟨fun e he=>hf.kind e (.tail _ he),fun c hc=>hf.cell c (by rw[cM (o.frame L)];exact .tail _ hc)⟩
  refine q ρ1 s1 fl r1 f1 (x1.mono fun c hc=>?_) (hfl.nsk x1 hS) fo
  rw[cM (o.frame L),only_nil.mp hc];exact .head _
theorem dU.assign(B:aC b)(o:OneF F)(fe:aS F){x:Str}(y:EvalF b h F e1 loc mem v m1)(z:dU b h F r (putL x v loc) m1 out loc' m2)(hl:DA (∀L,eD (F L) x) q14)
  (hs:DA (∀L,swapsWith e1 (some (.Name x p2)) pos.line (F L)=pure false) q8):dU b h F (.Assign [.Name x p2] e1 pos :: r) loc mem out loc' m2:=fun A s ρ L l Q E hA hfr hf hd rr fm q=>
 AE (wpAny_Assign_Name (y A s ρ L l _ E hA hfr hf rr fm fun ρ1 s1 mv r1 x1 n1 h1=>by
  have f1:Fm b L [] ρ1 loc s1:=fm.nexts x1 (fun m=>n1 L (by rw[cM (o.frame L)];exact .head _) m) hf.free
  refine cJ (L:=L) B fe r1 (by rw[o.cel];exact f1) h1 (hl L) fun s2 r2 f2 x2=>?_
  rw[o.cel] at f2 x2
  have hS:∀c∈frs l,¬ bJ L [] c:=fun c hc z=>hd (only_nil.mp z▸hc)
  have hf1:=hf.nexts x1 n1
  have hfl:cQ b ρ1 s1 l:=⟨fun e he=>hf1.kind e (.tail _ he),fun c hc=>hf1.cell c (by rw[cM (o.frame L)];exact .tail _ hc)⟩
  refine o12 f2.ns fun m' hn' x9=>?_
  have hf2:=(hfl.ext x2 hS).push (o.kind L) (o.frame L) (f2.off L (.inl rfl)).1 (f2.off L (.inl rfl)).2 hn'
  have sub:Nsk l s s1:=fun c hc m=>n1 c (by rw[cM (o.frame L)];exact .tail _ hc) m
  refine z A s2 ρ1 L l _ E hA hfr hf2 hd r2 f2 fun ρ3 s3 fl r3 f3 x3 n3 fo=>q ρ3 s3 fl r3 f3 ((x1.trans (x2.mono fun c hc=>?_)).trans x3) ((sub.trans (hfl.nsk x2 hS)).trans n3) fo
  rw[cM (o.frame L),only_nil.mp hc];exact .head _) (hs L))
theorem dU.ret(o:OneF F)(y:EvalF b h F e1 loc mem v m1):dU b h F (.Return (some e1) pos :: r) loc mem (.ret v) loc m1:=fun A s ρ L l Q E hA hfr hf hd rr fm q=>
 AE (wpAny_Return_some (y A s ρ L l _ E hA hfr hf rr fm fun ρ1 s1 mv r1 x1 n1 h1=>
  q ρ1 s1 _ r1 (fm.nexts x1 (fun m=>n1 L (by rw[cM (o.frame L)];exact .head _) m) hf.free) x1 (fun c hc m=>n1 c (by rw[cM (o.frame L)];exact .tail _ hc) m) (.ret h1)))
theorem vV(B:aC b)(o:OneF F){f:BA}{x:Str}{e2:Expr}(hf:aE b h F (.Name x p2) loc mem (.val f) m1)(kf:cY b f)(y:aE b h F e2 loc m1 v1 m2)(z:CallF b k f [v1] m2 v m3)(hk:k≤h)
  (he:DA (∀L,LC [e2] (F L)=[(false,eval e2 (F L))]) q8):EvalF b h F (.Call (.Name x p2) [e2] [] pos) loc mem v m3:=fun A s ρ L l Q E hA hl hfr r fm q=>
 NG (hf A s ρ L _ E hA r (by rw[o.cel];exact fm) fun ρ1 s1 mv r1 x1 h1=>by
  cases h1
  refine NH (P:=b.K.In) (by rw[he];rfl) (fun hp X=>kf hp X) ?_
  rw[he]
  refine JH ?_
  have fm1:=fm.ext x1
  have hfr1:=hfr.ext x1 fun x9 x9 z=>z
  show FA b.M A (spliced (backTo pos [(false,eval e2 (F L))])) _ E s1
  have yy:=(dT.cons y .nil (he:=fun L=>by rw[he];rfl)) A s1 ρ1 L pos
  rw[he] at yy
  refine yy _ E hA r1 (by rw[o.cel];exact fm1) fun ρ2 s2 mvs r2 x2 h2=>⟨r2.kin B,?_⟩
  refine z A s2 ρ2 mvs (F L :: l) Q E (hA.mono hk) hl (hfr1.ext x2 fun x9 x9 z=>z) r2 h2 fun ρ3 s3 mv r3 x3 n3 h3=>q ρ3 s3 mv r3 (((x1.trans x2).mono fun x9 z=>z.elim).trans x3) (((hfr.nsk x1 fun x9 x9 z=>z).trans (hfr1.nsk x2 fun x9 x9 z=>z)).trans n3) h3)
theorem pY(B:aC b){f:EA}{fd:BD}{oc:BA}{od:YA EA}{osl:RA (YA BA)}{body:AA VD}{xs:AA Str}{args vs:AA AV}
  (hbind:eO b fd args [] [] mem xs vs) (hx:dU b h (fun L=>KC fd L f) body (bindsL xs vs) mem out loc' m1)
  (ho:b.K.lookup f=some ⟨oc,od,.func fd,osl⟩) (hcd:codeIn b.K fd.code fd.qualname=true) (hb:fd.body=.stmts body) (nd:xs.Nodup)
  (hcell:∀x∈fd.scope.names,x.2≠.cell) (hloc:∀x∈xs,fd.scope.names.lookup x=some .local)
  (hco:fd.scope.isCoroutine=false) (hgen:fd.scope.isGenerator=false) (hk:fd.scope.kind=.function) (hclo:fd.closure=[]):CallF b (h+1) (.ref f) args mem (retOf out) m1:=fun A s ρ mvs l Q E hA hl hfr r hv q=>by
 have X:=r.kin B
 refine CE (codeAny_call_function hA.depth (X _ _ ho) rfl hco hgen hb (codeRec_of X hcd) ?_)
 refine hbind A.in1 s ρ mvs [] _ _ r hv .nil fun s1 ms r1 x1 k1 h1=>?_
 refine ZG hcell (fun x hx=>hloc x.1 (DD (a:=x.1) (b:=x.2) hx).1) (fun h₀ hns hsb=>?_) hk
 have hkp:∀c o,s1.heap.get? c=some o→h₀.get? c=some o:=fun c o e=>hsb.extBut c o (GC (DB e)) (gps _ e)
 have e0:s1.heap.get? s1.heap.objs.size=none:=aP (MA _)
 have x0:Ext NoS ρ s1 ρ { s1 with heap:=h₀,toks:=s1.toks+(xs.zip ms).length }:=Ext.of_keeps _ _ hkp
 have r0:R b ρ mem { s1 with heap:=h₀,toks:=s1.toks+(xs.zip ms).length }:=r1.keeps hkp s1.gens r1.bare s1.drawn _
 have nL:s1.heap.objs.size∉ρ.all:=fun hm=>JB _ (r1.lt hm)
 have hfr1:=hfr.ext x1 fun x9 x9 z=>z
 have hfr2:=hfr1.ext x0 fun x9 x9 z=>z
 have lL:s1.heap.objs.size∉frs l:=fun hc=>by
  refine o03 (hfr1.cell _ hc) fun x9 x9 x4=>?_;refine o41 x4 fun m o es ep x5=>?_;clear x4;refine o02 x5 fun e x9=>?_;clear x5
  exact absurd (DB e) (JB _)
 refine ⟨r0.lim,codeAny_func ?_⟩
 refine CB (hx (A.deeper (KC fd s1.heap.objs.size f)) _ ρ s1.heap.objs.size l _ _ (hA.deeper _) (Around.frames_deeper hl) (hfr2.push hk rfl nL r1.fresh hns) lL r0 (Fm.plain rfl hns nL r1.fresh (dA xs vs ms (x0.vrs0 h1) nd)) fun ρ' s' fl r' f' x' n' o=>?_) (fun fl s' z=>z) fun x9 x9 z=>z
 have nk:Nsk l s s':=((hfr.nsk x1 fun x9 x9 z=>z).trans (hfr1.nsk x0 fun x9 x9 z=>z)).trans n'
 have xx:Ext (·∈frs l) ρ s ρ' s':=by
  refine ⟨fun c oc e hn hc kq=>x'.keep c oc (hkp c oc (k1 c oc e)) (fun q=>?_) hc kq,x'.pre,fun a ha=>?_,x'.hid,fun c oc e=>x'.live c oc (hkp c oc (k1 c oc e))⟩
  ·rw[cM (env:=KC fd s1.heap.objs.size f) rfl] at q
   rcases NA.mp q with rfl|q
   ·rw[k1 _ _ e] at e0;cases e0
   ·exact hn q
  ·rcases x'.new a ha with z|z
   ·exact .inl z
   ·right
    cases e:s.heap.get? a with
    | none=>rfl
    | some o=>have:=hkp a o (k1 a o e);rw[z] at this;cases this
 cases o with
 | ret e=>exact q ρ' s' _ r' xx nk e
 | _=>exact q ρ' s' _ r' xx nk .none
end
end
section
open Builtin
section
variable {b:Bs}{h:Nat}{mem m1:AA AO}{f:BA}{args:AA AV}
theorem CallF.freeze{junk:AA AO}{vs:AA AV}(x:CallF b h f args mem (.obj (m1++junk).length) (m1++(junk++[.lst vs])))(hl:mem.length≤m1.length)(u:∀o∈m1,o.under m1.length=true)(hv:AV.underL m1.length vs=true):
  CallF b h f args mem (.lst vs) m1:=fun A s ρ mvs l Q E hA hfr hf r hvs q=>
 x A s ρ mvs l Q E hA hfr hf r hvs fun ρ' s' mv r' x' n' h'=>by
  refine o04 (r'.trim x' (by rw[r.ors.length];exact hl) u) fun r2 x2 v2 c2=>?_
  have e0:(m1++(junk++[AO.lst vs]))[(m1++junk).length]?= some (.lst vs):=by
   rw[← WC,OA (MA _),VB];rfl
  refine o35 (r'.list e0 h') fun a its n x0 hrow ea hl2 sz=>?_;subst x0
  have hm:a∈(ρ'.rows.drop m1.length).flatten:=by
   refine List.mem_flatten.mpr ⟨[a],?_,by simp⟩
   refine LB (i:=junk.length) ?_
   rw[IH,← PA];exact hrow
  have nd:=r'.nd
  unfold Rho.all at nd
  have sp:(ρ'.rows.take m1.length).flatten++(ρ'.rows.drop m1.length).flatten=ρ'.rows.flatten:=by rw[← WB,JC]
  rw[← sp,WC] at nd
  have hn:a∉(⟨ρ'.rows.take m1.length,ρ'.hid⟩:Rho).all:=fun q=>by
   refine o03 (JA.mp nd) fun n1 n2 n3=>?_
   refine o03 (JA.mp n2) fun n4 n5 n6=>?_
   rcases mam q with q|q
   ·exact n3 a q a (WA.mpr (.inl hm)) rfl
   ·exact n6 a hm a q rfl
  refine q _ s' _ r2 x2 n' (.lst ea hn ?_)
  have:∀(vs:AA AV) (ms:AA BA),AV.underL m1.length vs=true→VRs s'.heap ρ' vs ms→VRs s'.heap ⟨ρ'.rows.take m1.length,ρ'.hid⟩ vs ms:=fun vs ms hu z=>by
   induction vs generalizing ms with
   | nil=>cases z;exact .nil
   | cons v vs ih=>
    cases z with|cons z1 z2=>
    unfold AV.underL at hu
    rw[VA] at hu
    exact .cons (v2 hu.1 z1) (ih _ hu.2 z2)
  exact this _ _ hv hl2
end
end
noncomputable def bs(pr:RC)(w:HD)(P:IB)(s₁:CA)(T:AA (EA×EA×RA BA)):Bs:=⟨pr,w,Hd.KL P,s₁,T⟩
theorem UB{P:IB}{n:Str}{mv:BA}(gl:nsIn (Hd.KL P) TB n=some none)(bt:HG n=some mv)(hn:n≠"__name__")(hd:(n == ("__debug__" : Str))=false){pr:RC}{w:HD}{s₁:CA}{T:AA (EA×EA×RA BA)}{h:Nat}{F:EA→Env}{loc:AA (Str×AV)}{mem:AA AO}{pos:Pos}
  (B:DA (aC (bs pr w P s₁ T)) q11) (f:DA (aS F) q12) (hl:DA (∀L,(F L).kindOf n=some .globalImplicit) q8):aE (bs pr w P s₁ T) h F (.Name n pos) loc mem (.val mv) mem:=hB B f gl bt hn hl hd
theorem UG{P:IB}{n:Str}{a:EA}(gl:nsIn (Hd.KL P) TB n=some (some (.ref a)))(hd:(n == ("__debug__" : Str))=false){pr:RC}{w:HD}{s₁:CA}{T:AA (EA×EA×RA BA)}{h:Nat}{F:EA→Env}{loc:AA (Str×AV)}{mem:AA AO}{pos:Pos}
  (B:DA (aC (bs pr w P s₁ T)) q11) (f:DA (aS F) q12) (hl:DA (∀L,(F L).kindOf n=some .globalImplicit) q8):aE (bs pr w P s₁ T) h F (.Name n pos) loc mem (.val (.ref a)) mem:=yV B f gl (.val _) hl hd
abbrev fH{P:IB}:=@UB P "isinstance" (.builtin "isinstance") (by kernel_rfl) Boot.«isinstance» (by decide) (by decide)
abbrev tD{P:IB}:=@UB P "issubclass" (.builtin "issubclass") (by kernel_rfl) Boot.«issubclass» (by decide) (by decide)
theorem aEE{P:IB}:nsIn (Hd.KL P) TB "len" = some none:=by kernel_rfl
abbrev fJ{P:IB}:=@UB P "len" (.builtin "len") (by kernel_rfl) Boot.«len» (by decide) (by decide)
theorem aEF{P:IB}:nsIn (Hd.KL P) TB "sum" = some none:=by kernel_rfl
abbrev aFQ{P:IB}:=@UB P "sum" (.builtin "sum") (by kernel_rfl) Boot.«sum» (by decide) (by decide)
theorem aDs{P:IB}:nsIn (Hd.KL P) TB "iter" = some none:=by kernel_rfl
abbrev jJ{P:IB}:=@UB P "str" (.type "str") (by kernel_rfl) Boot.«str» (by decide) (by decide)
abbrev lK{P:IB}:=@UB P "bytes" (.type "bytes") (by kernel_rfl) Boot.«bytes» (by decide) (by decide)
abbrev nG{P:IB}:=@UB P "type" (.type "type") (by kernel_rfl) Boot.«type» (by decide) (by decide)
theorem aEG{P:IB}:nsIn (Hd.KL P) TB "zip" = some none:=by kernel_rfl
abbrev lM{P:IB}:=@UB P "zip" (.type "zip") (by kernel_rfl) Boot.«zip» (by decide) (by decide)
abbrev oS{P:IB}:=@UB P "range" (.type "range") (by kernel_rfl) Boot.«range» (by decide) (by decide)
theorem mK{P:IB}:nsIn (Hd.KL P) TB "super" = some none:=by kernel_rfl
abbrev jK{P:IB}:=@UG P "fspath" 283 (by kernel_rfl) (by decide)
abbrev aAn{P:IB}:=@UG P "_get_sep" 297 (by kernel_rfl) (by decide)
abbrev gU{P:IB}:=@UG P "join_posixpath" 304 (by kernel_rfl) (by decide)
abbrev uX{P:IB}:=@UG P "splitroot" 311 (by kernel_rfl) (by decide)
abbrev nH{P:IB}:=@UG P "normpath" 318 (by kernel_rfl) (by decide)
abbrev jX{P:IB}:=@UG P "_find_unsafe" 1019 (by kernel_rfl) (by decide)
abbrev aDt{P:IB}:=@UG P "shlex" 1006 (by kernel_rfl) (by decide)
abbrev aDu{P:IB}:=@UG P "split" 1018 (by kernel_rfl) (by decide)
abbrev aDv{P:IB}:=@UG P "quote" 1026 (by kernel_rfl) (by decide)
abbrev rF{P:IB}:=@UG P "_law_charset" 1033 (by kernel_rfl) (by decide)
abbrev cW{P:IB}:=@UG P "_law_text" 1038 (by kernel_rfl) (by decide)
abbrev uY{P:IB}:=@UG P "_law_lines" 1043 (by kernel_rfl) (by decide)
abbrev tE{P:IB}:=@UG P "_law_pieces" 1048 (by kernel_rfl) (by decide)
abbrev nI{P:IB}:=@UG P "_law_told" 1055 (by kernel_rfl) (by decide)
abbrev mL{P:IB}:=@UG P "_ValueFormatter" 122 (by kernel_rfl) (by decide)
abbrev rG{P:IB}:=@UG P "_Accumulator" 206 (by kernel_rfl) (by decide)
abbrev nJ{P:IB}:=@UG P "StringIO" 871 (by kernel_rfl) (by decide)
abbrev kO{P:IB}:=@UG P "twin_re_1_header" 49 (by kernel_rfl) (by decide)
section
variable {pr:RC}{w:HD}{P:IB}{s₁:CA}{T:AA (EA×EA×RA BA)}{h k:Nat}{F:EA→Env}{loc:AA (Str×AV)}{mem m1 m2 m3:AA AO}{pos p2:Pos}{v:AV}
theorem CX{f:BA}{x:Str}{es:AA Expr}{vs:AA AV}(hf:aE (bs pr w P s₁ T) h F (.Name x p2) loc mem (.val f) m1)(y:dT (bs pr w P s₁ T) h F es loc m1 vs m2)(z:aF (bs pr w P s₁ T) k f vs m2 v m3)(hk:DA (k≤h) q22)
  (kf:DA (cY (bs pr w P s₁ T) f) q23) (B:DA (aC (bs pr w P s₁ T)) q11)
  (hs:DA (∀L,(LC es (F L)).any (·.1)=false) q8) (hl:DA (∀L,es≠[]→LC es (F L)≠[]) q16):aE (bs pr w P s₁ T) h F (.Call (.Name x p2) es [] pos) loc mem v m3:=
 aEf B hf kf y z hk hs hl
variable {x y:Str}
theorem aAo(B:aC (bs pr w P s₁ T)):aF (bs pr w P s₁ T) (h+1) (.ref 297) [.str x] mem (.str "/") mem:=by
 refine DF (xs:=["path"]) (out:=.ret (.str "/")) (loc':=[("path",.str x)]) (hbind:=bind1 fun x9=>rfl) ?_
 exact .stop (aK (aJ (CX fH (.cons N (.cons lK .nil)) eP) aM) (.stop (bI aG) (by simp))) (by simp)
theorem jL(B:aC (bs pr w P s₁ T)):aF (bs pr w P s₁ T) (h+1) (.ref 283) [.str x] mem (.str x) mem:=by
 refine DF (xs:=["path"]) (out:=.ret (.str x)) (loc':=[("path",.str x),("kind",.val (.type "str"))]) (hbind:=bind1 fun x9=>rfl) ?_
 exact .cons (SA (CX nG (.cons N .nil) iF)) (.stop (aO (aJ (CX tD (.cons N (.cons (bV (.cons jJ (.cons lK .nil)) (by simp)) .nil)) aEq) aM) (.stop (bI N) (by simp))) (by simp))
theorem uZ(B:aC (bs pr w P s₁ T))(hz:x.length≤1000)(h1:OC x none (some 1)="/")(h2:(OC x (some 1) (some 2) == "/")=false):
  aF (bs pr w P s₁ T) (h+2) (.ref 311) [.str x] mem (.tup [.str "",.str "/",.str (OC x (some 1) none)]) mem:=by
 refine DF (xs:=["p"]) (out:=.ret (.tup [.str "",.str "/",.str (OC x (some 1) none)])) (loc':=[("p",.str x),("sep",.str "/"),("empty",.str "")]) (hbind:=bind1 fun x9=>rfl) ?_
 refine .cons (SA (CX jK (.cons N .nil) (jL B (h:=0)))) ?_
 refine .cons (aK (aJ (CX fH (.cons N (.cons lK .nil)) eP) aM) (.cons (SA aG) (.cons (SA aG) .nil))) ?_
 exact .stop (aK (.to (aD (dB N bM (bG aH) (by exact lz)) N dL) (by rw[h1];decide))
  (.stop (aO (aQ (fQ (.to (aD (dB N (bG aH) (bG aH) (by exact lz)) N dL) (by rw[h2];decide))))
   (.stop (bI (bV (.cons N (.cons N (.cons (dB N (bG aH) bM (by exact lz)) .nil))) (by simp))) (by simp))) (by simp))) (by simp)
theorem aAp(B:aC (bs pr w P s₁ T))(hz:x.length+y.length≤1000)(h0:x≠⟨#[]⟩)(h1:Txt.startswith y "/" = false)(h2:Txt.endswith x "/" = false):
  aF (bs pr w P s₁ T) (h+2) (.ref 304) [.str x,.str y] mem (.str (x++("/" ++y))) mem:=by
 refine bS.call (DG (xs:=["a","p"]) (out:=.ret (.str (x++("/" ++y)))) (loc':=[("a",.str x),("p",.tup [.str y]),("sep",.str "/"),("path",.str (x++("/" ++y))),("b",.str y)]) (.star fun x9 x9=>rfl) ?_)
 refine .cons (SA (CX jK (.cons N .nil) (jL B (h:=0)))) (.cons (SA (CX aAn (.cons N .nil) (aAo B (h:=0)))) (.cons (SA N) ?_))
 refine .cons (aFI (.cons (mY (items:=[.str y]) (m0:=mem) N (aBe B) (.next trivial rfl AN ?_ (.nil trivial rfl))) .nil)) (.stop (bI N) (by simp))
 refine .cons (SA (CX jK (.cons N .nil) (jL B (h:=0)))) ?_
 refine .cons (aK (aQ (cE (.to (aJ (MB N qT (.cons N .nil) qU) aM) h1) (cE (.to (bR (aJ N (aU (by lia)))) (by simp[h0])) dH)))
  (.cons (aK (.to (aJ (MB N uG (.cons N .nil) uH) aM) h2) (.cons (SG (aV N N (cV ?_)) (kH ?_)) .nil)) .nil)) .nil
 ·have:("/" : Str).length=1:=by decide
  lia
 ·have:("/" : Str).length=1:=by decide
  rw[GD];lia
noncomputable def stepN(ns:AA Str)(c:Str):AA Str:=if c=⟨#[]⟩∨c="." then ns else if c=".." then ns.dropLast else ns++[c]
theorem aBQ{ns:AA Str}{c:Str}(h:∀x∈ns,x≠".."):∀x∈stepN ns c,x≠".." :=by
 unfold stepN
 split
 ·exact h
 ·split
  ·exact fun x hx=>h x (List.dropLast_subset _ hx)
  ·intro x hx
   rcases mam hx with z|z
   ·exact h x z
   ·rw[HA] at z;subst z;assumption
theorem pZ(ns:AA Str)(c:Str):(stepN ns c).length≤ns.length+1:=by
 unfold stepN
 split
 ·lia
 ·split
  ·rw[List.length_dropLast];lia
  ·simp
theorem qA:∀(cs ns:AA Str),(cs.foldl stepN ns).length≤ns.length+cs.length
 | [],ns=>by simp
 | c :: cs,ns=>by
  have h1:=qA cs (stepN ns c)
  have h2:=pZ ns c
  simp only[List.foldl_cons,UA];lia
noncomputable def normOf(x:Str):Str:="/" ++UC "/" ((HC (OC x (some 1) none) "/").foldl stepN [])
theorem nM(B:aC (bs pr w P s₁ T))(hz:x.length≤1000)(h0:x≠⟨#[]⟩)(h1:OC x none (some 1)="/")(h2:(OC x (some 1) (some 2) == "/")=false)(h3:(OC x (some 1) none).length≤1000)
  (h4:(HC (OC x (some 1) none) "/").length≤1000) (h5:(((HC (OC x (some 1) none) "/").foldl stepN []).map (·.length)).sum≤1000) (h6:(normOf x).length≤1000) (h7:∀c∈HC (OC x (some 1) none) "/",c.length≤1000) (hu:∀o∈mem,o.under mem.length=true):
  aF (bs pr w P s₁ T) (h+3) (.ref 318) [.str x] mem (.str (normOf x)) mem:=by
 refine aF.trim (junk:=[.lst (((HC (OC x (some 1) none) "/").foldl stepN []).map .str)]) ?_ (MA _) rfl hu
 generalize hr:OC x (some 1) none=r at *
 generalize hcs:HC r "/" = cs at *
 refine DF (xs:=["path"]) (out:=.ret (.str (normOf x))) (loc':=[("path",.str (normOf x)),("sep",.str "/"),("dot",.str "."),("dotdot",.str ".."),("_",.str ""),("initial_slashes",.str "/"),("comps",.obj mem.length),("new_comps",.obj mem.length)]) (hbind:=bind1 fun x9=>rfl) ?_
 refine .cons (SA (CX jK (.cons N .nil) (jL B (h:=0)))) ?_
 refine .cons (aK (aJ (CX fH (.cons N (.cons lK .nil)) eP) aM) (.cons (SA aG) (.cons (SA aG) (.cons (SA aG) .nil)))) ?_
 refine .cons (aK (.to (bR (aJ N (aU (by exact lz)))) (by simp[h0])) .nil) ?_
 refine .cons (cD (CX uX (.cons N .nil) (hr▸uZ B (h:=0) hz h1 h2)) (eE (bB AN (bB AN (bB AN dO))))) ?_
 have sp:aF (bs pr w P s₁ T) (h+2) (.builtin "str.split") [.str r,.str "/"] mem (.lst (cs.map .str)) mem:=hcs▸mC (by decide) (by exact lz) (by rw[hcs];exact lz)
 refine .cons (SA (MB N mB (.cons N .nil) sp)) ?_
 refine .cons (SA (oH .nil (by simp))) ?_
 refine .cons (mY (m0:=mem++[.lst []]) (items:=cs.map .str) (m2:=mem++[.lst ((cs.foldl stepN []).map .str)]) N (cT B)
  (bQ.fold (σ:=AA Str) .str stepN (fun ns=>mem++[.lst (ns.map .str)]) (fun k ns=>ns.length+k≤1000∧∀x∈ns,x≠"..") (fun c=>c.length≤1000) (fun k ns hI=>⟨trivial,by simp⟩) (fun k ns c hc hI=>⟨⟨by have:=pZ ns c;lia,aBQ hI.2⟩,_,AN,?_⟩) cs [] h7 ⟨by simpa using h4,by simp⟩)) ?_
 ·have em:(mem++[AO.lst (ns.map .str)])[mem.length]?= some (.lst (ns.map .str)):=by rw[OA (MA _),VB];rfl
  by_cases c1:c=⟨#[]⟩
  ·right
   rw[show stepN ns c=ns from OB (.inl c1)]
   exact (aI.stop (aO (aQ (fQ (.to (bR (aJ N (aU (by exact lz)))) (by simp[c1])))) (.stop gH (by simp))) (by simp)).weak eQ
  by_cases c2:c="."
  ·right
   rw[show stepN ns c=ns from OB (.inr c2)]
   exact (aI.stop (aO (aQ (cE (.to (bR (aJ N (aU (by exact lz)))) (by simp[c1])) (fQ (.to (aD N N aT) (by simp[c2]))))) (.stop gH (by simp))) (by simp)).weak eQ
  left
  refine aI.weak (.cons (aK (aQ (cE (.to (bR (aJ N (aU (by exact lz)))) (by simp[c1])) (cE (.to (aD N N aT) (by simpa using c2)) dH))) .nil) ?_) (eQ (x:="comp") (v:=.str c))
  have ln:(ns.map AV.str).length≤1000:=by rw[BB];lia
  by_cases c3:c=".."
  ·rcases List.eq_nil_or_concat ns with rfl|⟨ns',l,rfl⟩
   ·rw[show stepN [] c=[] from by unfold stepN;rw[AB (by simp[c1,c2]),OB c3];rfl]
    exact .cons (aK (aQ (cE (.to (aD N N dL) (by simp[c3])) (cE (aQ (aY (.to (bR (aJ N (aU (by decide)))) (by decide)))) (cE (aQ (aY (.to (aJ N (iZ (.obj em) (by simp))) rfl))) dH))))
     (.cons (aK (.to (aJ N (iZ (.obj em) (by simp))) rfl) .nil) .nil)) .nil
   ·have hl:l≠".." :=hI.2 l (by simp)
    rw[List.concat_eq_append,FC] at em ln ⊢
    rw[show stepN (ns'++[l]) c=ns' from by unfold stepN;rw[AB (by simp[c1,c2]),OB c3];simp]
    rw[PA,BB] at ln
    simp only[AD,List.map_nil] at em ln ⊢
    have pp:=aEn (b:=bs pr w P s₁ T) (h:=h+2) B em (by rw[BB];simp at ln;exact lz)
    rw[show (mem++[AO.lst (ns'.map AV.str++[.str l])]).set mem.length (.lst (ns'.map .str))=mem++[.lst (ns'.map .str)] from by rw[WD _ _ (MA _),VB];rfl] at pp
    exact .cons (aK (aQ (cE (.to (aD N N dL) (by simp[c3])) (cE (aQ (aY (.to (bR (aJ N (aU (by decide)))) (by decide))))
      (cE (aQ (bK (.to (aJ N (iZ (.obj em) (by simp at ln ⊢;exact lz))) (by simp)) (aY (.to (aD (bP N (fU aH) (eA (.obj em) (by simp at ln ⊢;exact lz) (vO (n:=ns'.length) (by simp)) (by simp;rfl))) N aT) (by simpa using hl))))) dH))))
     (.cons (aO (.to (aJ N (iZ (.obj em) (by simp at ln ⊢;exact lz))) (by simp)) (.cons (ES (MB N (zH (.obj em)) .nil pp) (.str _)) .nil)) .nil)) .nil
  ·rw[show stepN ns c=ns++[c] from by unfold stepN;rw[AB (by simp[c1,c2]),AB c3]]
   have pp:=kG (b:=bs pr w P s₁ T) (h:=h+2) (v:=.str c) B em (by exact lz)
   rw[show (mem++[AO.lst (ns.map AV.str)]).set mem.length (.lst (ns.map .str++[.str c]))=mem++[.lst ((ns++[c]).map .str)] from by rw[WD _ _ (MA _),VB,FC];rfl] at pp
   exact .cons (aO (aQ (fQ (.to (aD N N dL) (by simpa using c3)))) (.cons (ES (MB N (gB (.obj em)) (.cons N .nil) pp) .none) .nil)) .nil
 ·have fl:=qA cs []
  have em:(mem++[AO.lst ((cs.foldl stepN []).map .str)])[mem.length]?= some (.lst ((cs.foldl stepN []).map .str)):=by rw[OA (MA _),VB];rfl
  have e1:("/" : Str).length=1:=by decide
  have en:normOf x="/" ++UC "/" (cs.foldl stepN []):=by unfold normOf;rw[hr,hcs]
  have ej:(UC "/" (cs.foldl stepN [])).length≤1000:=by rw[en,GD] at h6;lia
  rw[en]
  refine .cons (SA N) (.cons (SA (aV N (MB N iQ (.cons N .nil) (iR (.obj em) (by rw[e1];simp at fl;lia))) (cV (by lia)))) (.stop (bI (aFJ N (.to (aU ?_) ?_))) (by simp)))
  ·rw[GD];lia
  ·refine decide_eq_true fun e=>?_
   have q:=RB Str.length e
   rw[GD,e1] at q
   have:(⟨#[]⟩:Str).length=0:=rfl
   lia
variable {m0 rest:AA AO}
noncomputable abbrev Row:=AA (Str×Str)
noncomputable def Row.txt(r:Row):Str:=UC ⟨#[]⟩ (r.map fun p=>p.1++p.2)
noncomputable def Row.lsts(r:Row):AA AV:=r.map fun p=>.lst [.str p.1,.str p.2]
noncomputable def Row.tups(r:Row):AA AV:=r.map fun p=>.tup [.str p.1,.str p.2]
noncomputable def Row.size(r:Row):Nat:=(r.map fun p=>p.1.length+p.2.length).sum
theorem Row.small{r:Row}{p:Str×Str}(hp:p∈r):p.1.length+p.2.length≤r.size:=by
 unfold Row.size
 exact aEr (EE (f:=fun p=>p.1.length+p.2.length) hp)
theorem Row.sum_txt(r:Row):((r.map fun p=>p.1++p.2).map (·.length)).sum=r.size:=by
 unfold Row.size
 rw[FD]
 congr 1
 exact List.map_congr_left fun p x9=>GD _ _
theorem e0:(⟨#[]⟩:Str).length=0:=rfl
theorem xO(B:aC (bs pr w P s₁ T)){r:Row}(hi:∀{elts n pos},cB (bs pr w P s₁ T) h (.Tuple elts n pos) v mem r.lsts (fun x9=>True) m0 rest)(hz:r.length≤1000)(hs:r.size≤100000):
  aF (bs pr w P s₁ T) (h+1) (.ref 1038) [v] mem (.str r.txt) (m0++rest):=by
 refine DF (xs:=["line"]) (out:=.ret (.str r.txt)) (loc':=[("line",v)]) (hbind:=bind1 fun x9=>rfl) ?_
 refine .stop (bI (MB aG iQ (.cons (iV (outs:=(r.map fun p=>p.1++p.2).map .str) N hi trivial (by unfold Row.lsts;rw[BB];exact lz) fun L=>?_) .nil) (iR (.lst _) ?_))) (by simp)
 ·rw[FD]
  refine aZ.map _ _ fun p hp=>⟨_,ACL,(fun y w e=>nomatch e),aV N N (cV ?_)⟩
  have:=Row.small hp
  lia
 ·rw[Row.sum_txt]
  have:("" : Str).length=0:=by decide
  rw[this];lia
theorem gV(B:aC (bs pr w P s₁ T)){r:Row}(hi:∀{elts n pos},cB (bs pr w P s₁ T) h (.Tuple elts n pos) v mem r.tups (fun x9=>True) m0 rest)(hz:r.length≤1000)(hs:r.size≤100000):
  aF (bs pr w P s₁ T) (h+1) (.ref 1038) [v] mem (.str r.txt) (m0++rest):=by
 refine DF (xs:=["line"]) (out:=.ret (.str r.txt)) (loc':=[("line",v)]) (hbind:=bind1 fun x9=>rfl) ?_
 refine .stop (bI (MB aG iQ (.cons (iV (outs:=(r.map fun p=>p.1++p.2).map .str) N hi trivial (by unfold Row.tups;rw[BB];exact lz) fun L=>?_) .nil) (iR (.lst _) ?_))) (by simp)
 ·rw[FD]
  refine aZ.map _ _ fun p hp=>⟨_,ACP,(fun y w e=>nomatch e),aV N N (cV ?_)⟩
  have:=Row.small hp
  lia
 ·rw[Row.sum_txt]
  have:("" : Str).length=0:=by decide
  rw[this];lia
theorem kP(B:aC (bs pr w P s₁ T)){r:Row}(hz:r.length≤1000)(hs:r.size≤100000):aF (bs pr w P s₁ T) (h+1) (.ref 1038) [.lst r.lsts] mem (.str r.txt) mem:=by
 have:=xO (h:=h) (mem:=mem) B (r:=r) (cT B) hz hs
 rwa [ZB] at this
noncomputable def ID(p:Str×Str):Row:=match HC p.2 " " with | []=>[] | q :: r=>(p.1,q) :: r.map fun x=>(" ",x)
theorem tF(B:aC (bs pr w P s₁ T)){ws ts:AA Str}(hu:∀o∈mem,o.under mem.length=true)(hl:ws.length≤100)(ht:∀t∈ts,t.length≤1000∧(HC t " ").length≤100∧(HC t " ")≠[])(hlt:ts.length≤100):
  aF (bs pr w P s₁ T) (h+1) (.ref 1048) [.lst (ws.map .str),.lst (ts.map .str)] mem (.lst (Row.lsts ((ws.zip ts).flatMap ID))) mem:=by
 have hun:∀(n:Nat) (r:Row),AV.underL n r.lsts=true:=fun n r=>by
  induction r with
  | nil=>rfl
  | cons p r ih=>show (AV.under n (.lst [.str p.1,.str p.2]) && AV.underL n (Row.lsts r))=true;rw[ih];rfl
 refine aF.trim (junk:=[.dead]) ?_ (MA _) (by unfold AV.under;exact hun _ _) hu
 have ez:pairs (ws.map .str) (ts.map .str)=(ws.zip ts).map fun p=>.tup [.str p.1,.str p.2]:=by
  clear hl ht hlt
  induction ws generalizing ts with
  | nil=>simp[pairs]
  | cons a ws ih=>
   cases ts with
   | nil=>simp[pairs]
   | cons d ts=>simp[pairs,ih]
 refine DF (xs:=["whites","written"]) (out:=.ret (.lst (Row.lsts ((ws.zip ts).flatMap ID)))) (loc':=[("whites",.lst (ws.map .str)),("written",.lst (ts.map .str)),("told",.lst (Row.lsts ((ws.zip ts).flatMap ID)))]) (hbind:=bind2 fun x9 x9=>rfl) ?_
 refine .cons (SA (aW .nil (by simp))) ?_
 refine .cons (zI (m0:=mem) (items:=(ws.zip ts).map fun p=>.tup [.str p.1,.str p.2]) (loc1:=[("whites",.lst (ws.map .str)),("written",.lst (ts.map .str)),("told",.lst (Row.lsts []))]) (loc':=[("whites",.lst (ws.map .str)),("written",.lst (ts.map .str)),("told",.lst (Row.lsts ((ws.zip ts).flatMap ID)))]) (rest:=[.dead]) (m2:=mem)
  (CX lM (.cons N (.cons N .nil)) iT) (ez▸rX B hu (bE _) (bE _)) ?_ ?_) (.stop (bI N) (by simp))
 ·have st0:(ws.zip ts).flatMap ID=(ws.zip ts).foldl (fun st c=>st++ID c) []:=by rw[pO];rfl
  rw[st0]
  refine bQ.foldL (fun p=>.tup [.str p.1,.str p.2]) (fun st c=>st++ID c) (fun x9=>mem) (fun st=>[("whites",.lst (ws.map .str)),("written",.lst (ts.map .str)),("told",.lst (Row.lsts st))]) (fun k st=>st.length+100 * k≤10000) (fun p=>p.2∈ts) (fun x9 x9 x9=>⟨trivial,rfl⟩) (fun k st p hp hI=>?_) (ws.zip ts) [] (fun p hp=>(DD (a:=p.1) (b:=p.2) hp).2) ?_
  ·refine o03 (ht p.2 hp) fun g1 g2 g3=>?_
   obtain ⟨a,d⟩:=p
   dsimp only at g1 g2 g3
   cases hsp:HC d " " with
   | nil=>exact absurd hsp g3
   | cons q r=>
    have lp:ID (a,d)=(a,q) :: r.map fun x=>(" ",x):=by unfold ID;rw[hsp]
    rw[hsp,UA] at g2
    have sl:(Row.lsts st).length=st.length:=by unfold Row.lsts;rw[BB]
    have sp:aF (bs pr w P s₁ T) h (.builtin "str.split") [.str d,.str " "] mem (.lst ((q :: r).map .str)) mem:=hsp▸mC (by decide) (by exact lz) (by rw[hsp,UA];exact lz)
    refine ⟨?_,_,_,_,eE (bB AN (bB AN dO)),.inl (.cons (SA (MB N mB (.cons aG .nil) sp)) (.cons (SA (v:=.lst (Row.lsts (st++ID (a,d)))) (.to (aV (aV N (aW (.cons (aW (.cons N (.cons (bP N aH (eA (v:=.str q) (k:=0) (.lst _) ?_ ?_ rfl)) .nil)) ?_) .nil) ?_) (bY (.lst _) (.lst _) ?_))
     (lF (items:=r.map .str) (outs:=r.map fun x=>.lst [.str " ",.str x]) (.to (dE N (bG aH) bM (.lst _) ?_) ?_) (cT B) trivial ?_ fun L=>?_) (bY (.lst _) (.lst _) ?_)) ?_)) .nil)),?_⟩
    ·rw[lp,PA,UA,BB];lia
    ·simp;lia
    ·exact sG (by simp)
    ·simp
    ·simp
    ·rw[sl];simp;lia
    ·simp;lia
    ·rw[show (some (1:Int))=some ((1:Nat):Int) from rfl,hV];rfl
    ·simp;lia
    ·exact aZ.map _ _ fun c hc=>⟨_,ACN,(fun y w e=>nomatch e),aW (.cons aG (.cons N .nil)) (by simp)⟩
    ·rw[PA,sl];simp;lia
    ·rw[lp];unfold Row.lsts;simp
    ·intro y v e;exact dC (k:=[("white",.str a),("text",.str d),("parts",.lst ((q :: r).map .str))]) e
  ·simp;have:(ws.zip ts).length≤100:=by rw[List.length_zip];lia
   rw[List.length_zip] at this;lia
 ·refine hX ?_
  show (AV.underL mem.length (ws.map .str) && (AV.underL mem.length (ts.map .str) && (AV.underL mem.length (Row.lsts []) && true)))=true
  rw[bE,bE];rfl
end
theorem rg1{k n:Nat}(h:1≤k∧k < 1+(n - 1)):k < n:=by
 cases n with
 | zero=>exact absurd (Nat.lt_of_le_of_lt h.1 h.2) (JB 1)
 | succ n=>exact Nat.add_comm 1 n▸h.2
section
variable {pr:RC}{w:HD}{P:IB}{s₁:CA}{T:AA (EA×EA×RA BA)}{h:Nat}{mem m0 m1 rest:AA AO}{x y:Str}{v:AV}
noncomputable def comma(x:Str):NB:=x.cps.toList.getLast? == some 44
noncomputable def blank(x:Str):NB:=x.cps.toList.head? == some 32
noncomputable def commasOf(r:Row):AA Nat:=(List.range' 1 (r.length - 1)).filter fun k=>comma ((r.getD (k - 1) default).2)
noncomputable def blanksOf(r:Row):AA Nat:=(List.range' 1 (r.length - 1)).filter fun k=>blank ((r.getD k default).1)
structure LSt where
 lines:AA Str
 line:Row
 front:Nat
noncomputable def stepL(room:Int)(st:LSt)(p:Str×Str):LSt:=
 let line:Row:=st.line++[p]
 if (st.front:Int)+(Row.txt line).length > room then
  if commasOf line++blanksOf line≠[] then
   let place:=((if commasOf line≠[] then commasOf line else blanksOf line).getLast?).getD 0
   ⟨st.lines++[Row.txt (line.take place)],line.drop place,0⟩
  else if st.front > 0 then ⟨st.lines++[Row.txt line.dropLast],[(if p.1=⟨#[]⟩ then " " else p.1,p.2)],0⟩
  else ⟨st.lines,line,st.front⟩
 else ⟨st.lines,line,st.front⟩
noncomputable def linesOf(room:Int)(r:Row):AA Str:=let st:=r.foldl (stepL room) ⟨[],[],3⟩;st.lines++[Row.txt st.line]
theorem Row.txt_len(r:Row):r.txt.length=r.size:=by
 show (FG _ _).length=_
 rw[size_glued,Row.sum_txt,e0];simp
theorem Row.size_le{c:Nat}:∀{r:Row},(∀p∈r,p.1.length+p.2.length≤c)→r.size≤c * r.length
 | [],_=>by simp[Row.size]
 | p :: r,h=>by
  have h1:=h p (by simp)
  have h2:=Row.size_le (r:=r) fun q hq=>h q (by simp[hq])
  unfold Row.size at h2 ⊢
  rw[AD,LH,UA,Nat.mul_add];lia
theorem nN{x y:Str}{v w:AV}(e:([(x,v)]:AA (Str×AV)).lookup y=some w):y=x∧w=v:=by
 simp only[IF] at e
 cases q:y == x with
 | true=>rw[q] at e;replace e:=si e;subst e;exact ⟨eq_of_beq q,rfl⟩
 | false=>rw[q] at e;cases e
noncomputable def LInv(k:Nat)(st:LSt):Prop:=st.front≤3∧st.line.length+k≤300∧st.lines.length+k≤300∧∀p∈st.line,p.2≠⟨#[]⟩∧p.1.length+p.2.length≤101
theorem qB{room:Int}{k:Nat}{st:LSt}{p:Str×Str}(hI:LInv (k+1) st)(hp:p.2≠⟨#[]⟩∧p.1.length+p.2.length≤100):LInv k (stepL room st p):=by
 refine o04 hI fun h1 h2 h3 h4=>?_;clear hI
 have hl:∀q∈st.line++[p],q.2≠⟨#[]⟩∧q.1.length+q.2.length≤101:=fun q hq=>by
  rcases mam hq with z|z
  ·exact h4 q z
  ·rw[HA] at z;subst z;exact ⟨hp.1,by lia⟩
 have hn:(st.line++[p]).length=st.line.length+1:=by simp
 unfold stepL
 simp only
 split
 ·split
  ·refine ⟨by simp,?_,by simp;lia,fun q hq=>hl q (HF hq)⟩
   show (List.drop _ (st.line++[p])).length+k≤300
   rw[AG];lia
  ·split
   ·refine ⟨by simp,by simp;lia,by simp;lia,fun q hq=>?_⟩
    have:q=(((if p.1=⟨#[]⟩ then (" " : Str) else p.1),p.2):Str×Str):=by simpa using hq
    subst this
    refine ⟨hp.1,?_⟩
    split
    ·have:(" " : Str).length=1:=by decide
     show (" " : Str).length+p.2.length≤101
     lia
    ·show p.1.length+p.2.length≤101
     lia
   ·exact ⟨h1,by show (st.line++[p]).length+k≤300;lia,by show st.lines.length+k≤300;lia,hl⟩
 ·exact ⟨h1,by show (st.line++[p]).length+k≤300;lia,by show st.lines.length+k≤300;lia,hl⟩
theorem qC{room:Int}:∀(r:Row) (st:LSt),(∀p∈r,p.2≠⟨#[]⟩∧p.1.length+p.2.length≤100)→LInv r.length st→LInv 0 (r.foldl (stepL room) st)
 | [],st,_,hI=>hI
 | p :: r,st,hp,hI=>qC r _ (fun q hq=>hp q (by simp[hq])) (qB hI (hp p (by simp)))
set_option maxHeartbeats 4000000 in
theorem vA(B:aC (bs pr w P s₁ T)){r:Row}{room:Int}(hu:∀o∈mem,o.under mem.length=true)(hl:r.length≤200)(hp:∀p∈r,p.2≠⟨#[]⟩∧p.1.length+p.2.length≤100):aF (bs pr w P s₁ T) (h+2) (.ref 1043) [.lst r.lsts,.int room] mem (.lst ((linesOf room r).map .str)) mem:=by
 have hun:∀(n:Nat) (r:Row),AV.underL n r.lsts=true:=fun n r=>by
  induction r with
  | nil=>rfl
  | cons p r ih=>show (AV.under n (.lst [.str p.1,.str p.2]) && AV.underL n (Row.lsts r))=true;rw[ih];rfl
 refine aF.trim (junk:=[.lst ((r.foldl (stepL room) ⟨[],[],3⟩).lines.map .str)]) ?_ (MA _) (by unfold AV.under;exact bE _) hu
 refine wT (xs:=["pieces","room"]) (out:=.ret (.lst ((linesOf room r).map .str))) (loc':=[("pieces",.lst r.lsts),("room",.int room),("lines",.obj mem.length),("line",.lst (r.foldl (stepL room) ⟨[],[],3⟩).line.lsts),("front",.int (r.foldl (stepL room) ⟨[],[],3⟩).front)]) B rfl (by kernel_rfl) rfl (bind2 fun x9 x9=>rfl) (by decide) (by decide) (fun L x hx=>?_) (fun L p hp=>?_) rfl rfl rfl rfl ?_
 ·simp only[NA,GB,QD] at hx
  rcases hx with rfl|rfl <;> rfl
 ·have:p=(("line" : Str),L+1):=by simpa using (show p∈[(("line" : Str),L+1)] from hp)
  subst this;rfl
 refine .cons (cD (bV (.cons (oH .nil (by simp)) (.cons (aW .nil (by simp)) (.cons aH .nil))) (by simp)) (eE (bB AN (bB AN (bB AN dO))))) ?_
 refine .cons (mY (items:=r.map fun p=>.lst [.str p.1,.str p.2]) (m0:=mem++[.lst []]) (m2:=mem++[.lst ((r.foldl (stepL room) ⟨[],[],3⟩).lines.map .str)]) (loc1:=[("pieces",.lst r.lsts),("room",.int room),("lines",.obj mem.length),("line",.lst (Row.lsts [])),("front",.int ((3:Nat):Int))])
  (loc':=[("pieces",.lst r.lsts),("room",.int room),("lines",.obj mem.length),("line",.lst (r.foldl (stepL room) ⟨[],[],3⟩).line.lsts),("front",.int (r.foldl (stepL room) ⟨[],[],3⟩).front)]) N (cT B)
  (bQ.foldL (fun p=>.lst [.str p.1,.str p.2]) (stepL room) (fun st=>mem++[.lst (st.lines.map .str)]) (fun st=>[("pieces",.lst r.lsts),("room",.int room),("lines",.obj mem.length),("line",.lst st.line.lsts),("front",.int st.front)]) (fun k st=>st.front≤3∧st.line.length+k≤300∧st.lines.length+k≤300∧(∀p∈st.line,p.2≠⟨#[]⟩∧p.1.length+p.2.length≤101)) (fun p=>p∈r)
   (fun k st hI=>⟨trivial,by simp⟩) (fun k st p hp' hI=>⟨?_,?_⟩) r ⟨[],[],3⟩ (fun p hp=>hp) ⟨MA _,by simp;exact lz,by simp;exact lz,by simp⟩)) ?_
 ·exact qB hI (hp p hp')
 ·refine o04 hI fun hf hll hls hpl=>?_;clear hI
  obtain ⟨wh,pc⟩:=p
  have len1:(Row.lsts st.line).length=st.line.length:=by unfold Row.lsts;rw[BB]
  generalize hL:st.line++[(wh,pc)]=line
  have lnn:line.length=st.line.length+1:=by rw[← hL];simp
  have lnp:∀p∈line,p.2≠⟨#[]⟩∧p.1.length+p.2.length≤101:=fun p hq=>by
   rw[← hL] at hq
   rcases mam hq with z|z
   ·exact hpl p z
   ·rw[HA] at z;subst z;exact ⟨(hp _ hp').1,GA (hp _ hp').2 (by decide)⟩
  have lns:line.size≤101 * line.length:=Row.size_le fun p hq=>(lnp p hq).2
  have lnt:line.txt.length=line.size:=Row.txt_len line
  have l300:line.length≤300:=lnn▸GA (Nat.add_le_add_left (EH (Nat.zero_le k)) _) hll
  have l3:line.length≤1000:=GA l300 (by decide)
  have l1:1≤line.length:=lnn▸EH (Nat.zero_le _)
  have lz:line.size≤100000:=GA lns (GA (ZH 101 l300) (by decide))
  have lx:line.txt.length≤1000000:=lnt▸GA lz (by decide)
  have ls1:(Row.lsts st.line).length+([.lst [.str wh,.str pc]]:AA AV).length≤1000000:=GA (show (Row.lsts st.line).length+1≤300 from (len1.symm▸lnn)▸l300) (by decide)
  have sl:(st.lines.map AV.str).length≤1000000:=lm (GA (GA (GH _ _) hls) (by decide))
  have lenL:(Row.lsts line).length=line.length:=by unfold Row.lsts;rw[BB]
  have lL:(Row.lsts line).length≤1000000:=lenL▸GA l300 (by decide)
  have ln1:line.length - 1≤300:=GA (Nat.sub_le _ _) l300
  have tk:∀pl,(line.take pl).length≤1000∧Row.size (line.take pl)≤100000:=fun pl=>⟨ltk l3,GA (Row.size_le fun p hq=>(lnp p (PE hq)).2) (GA (ZH 101 (ltk l300)) (by decide))⟩
  have it6:((List.range' 1 (line.length - 1)).map fun (k:Nat)=>AV.int (k:Int)).length≤1000000:=lm (GA (DE List.length_range') (GA ln1 (by decide)))
  have em:(mem++[AO.lst (st.lines.map AV.str)])[mem.length]?= some (.lst (st.lines.map .str)):=by rw[OA (MA _),VB];rfl
  have e3:(mem++[AO.lst (st.lines.map AV.str)]++[AO.rng 1 (line.length:Int) 1])[(mem++[AO.lst (st.lines.map AV.str)]).length]?= some (.rng 1 (line.length:Int) 1):=by rw[OA (MA _),VB];rfl
  have hM:∀o∈mem++[AO.lst (st.lines.map AV.str)],o.under (mem++[AO.lst (st.lines.map AV.str)]).length=true:=aBo hu (by unfold AO.under;exact bE _)
  have cl:(commasOf line).length≤300:=GA (List.length_filter_le _ _) (GA (DE List.length_range') ln1)
  have bl:(blanksOf line).length≤300:=GA (List.length_filter_le _ _) (GA (DE List.length_range') ln1)
  have cb:((commasOf line).map fun (k:Nat)=>AV.int (k:Int)).length+((blanksOf line).map fun (k:Nat)=>AV.int (k:Int)).length≤1000000:=GA (Nat.add_le_add (lm cl) (lm bl)) (by decide)
  have ppx:∀x:Str,aF (bs pr w P s₁ T) (h+1) (.builtin "list.append") [.obj mem.length,.str x] (mem++[AO.lst (st.lines.map AV.str)]) .none (mem++[.lst ((st.lines++[x]).map .str)]):=fun x=>by
   have pp:=kG (b:=bs pr w P s₁ T) (h:=h+1) (v:=.str x) B em sl
   rwa [show (mem++[AO.lst (st.lines.map AV.str)]).set mem.length (.lst (st.lines.map .str++[.str x]))=mem++[.lst ((st.lines++[x]).map .str)] from by rw[WD _ _ (MA _),VB,FC];rfl] at pp
  have ltx:∀(r:Row),r.length≤1000→r.size≤100000→aF (bs pr w P s₁ T) (h+1) (.ref 1038) [.lst r.lsts] (mem++[AO.lst (st.lines.map AV.str)]) (.str r.txt) (mem++[AO.lst (st.lines.map AV.str)]):=fun r h1 h2=>kP (h:=h) B h1 h2
  have eL:Row.lsts st.line++[AV.lst [.str wh,.str pc]]=Row.lsts line:=by rw[← hL];unfold Row.lsts;simp
  by_cases c1:(st.front:Int)+(Row.txt line).length > room
  ·refine xturn (oK (bB AN (bB AN dO))) ?_
   refine xcons (SA (v:=.lst (Row.lsts line)) (.to (aV NC (aW (.cons (aW (.cons N (.cons N .nil)) (by simp)) .nil) (by simp)) (bY (.lst _) (.lst _) ls1)) (by rw[← eL]))) ?_
   refine xlast (xifT (.to (aD (aV N (CX fJ (.cons (CX cW (.cons NC .nil) (ltx _ l3 lz)) .nil) (fD lx)) dX) N cH) (by simpa using c1)) ?_)
   refine xcons (aL.keep (junk:=[.rng 1 (line.length:Int) 1]) (.into (gE B ⟨fun x9=>rfl,fun x9=>rfl,fun x9=>rfl,fun x9=>rfl⟩ (cl:=fun L=>[(("line" : Str),L+1)]) (base:=[("line",.lst (Row.lsts line))]) (rest:=[]) (Mm:=fun x9=>True) (outs:=(commasOf line).map fun (k:Nat)=>AV.int (k:Int))
      (items:=(List.range' 1 (line.length - 1)).map fun (k:Nat)=>AV.int (k:Int)) (m0:=mem++[AO.lst (st.lines.map AV.str)]++[.rng 1 (line.length:Int) 1])
      (CX oS (.cons aH (.cons (aE.to (v':=.int (line.length:Int)) (CX fJ (.cons NC .nil) (iE (.lst _) lL)) (by rw[lenL])) .nil)) pK) ?_ trivial ?_ (.inr ⟨_,rfl⟩) (fun L=>aZ.filter (fun (k:Nat)=>AV.int (k:Int)) (fun (k:Nat)=>AV.int (k:Int)) (fun k=>comma ((line.getD (k - 1) default).2)) fun k hk=>⟨_,ACN,?_,?_,N⟩) (fun L=>rfl) (fun L p hp=>hp) (fun L=>by simp) (fun y w e=>?_)
      (fun L=>.loc rfl rfl) (fun L=>rfl) (fun L x=>rfl) rfl (by decide) (fun L x hx hl=>?_)) ?_) hM ?_) ?_
   ·rw[← iG]
    exact mE B e3 (small1 l1 l3) (size1 l1)
   ·exact it6
   ·exact eQ
   ·have hk2:=List.mem_range'_1.mp hk
    have hkl:k - 1 < line.length:=Nat.lt_of_le_of_lt (Nat.sub_le _ _) (rg1 hk2)
    have hget:line[k - 1]?= some (line[k - 1]):=EB hkl
    have hgd:line.getD (k - 1) default=line[k - 1]:=by rw[XC,hget];rfl
    rw[hgd]
    have hmem:line[k - 1]∈line:=BG hkl
    refine o02 (lnp _ hmem) fun hne hsz=>?_
    generalize line[k - 1]=q at *
    refine o12 (sI hne) fun cc hcc hlast=>?_
    have hix:seqIndex? ((k:Int) - 1) (Row.lsts line).length=some (k - 1):=by
     rw[show (k:Int) - 1=((k - 1:Nat):Int) from (Int.ofNat_sub hk2.1).symm];exact gP (by rw[lenL];exact hkl)
    have hl2:(Row.lsts line)[k - 1]?= some (.lst [.str q.1,.str q.2]):=by unfold Row.lsts;rw[FE,hget];rfl
    refine .to (aD (bP (bP (bP NC (aV N aH eU) (eA (.lst _) lL hix hl2)) aH (eA (v:=.str q.2) (k:=1) (.lst _) (by simp) (gP (k:=1) (by simp)) rfl)) (fU aH) (mX (GA (GA (BI _ _) hsz) (by decide)) hcc)) aG aT) ?_
    unfold comma
    rw[hlast]
    exact (gQ cc 44)
   ·refine o02 (nN e) fun x0 x1=>?_;subst x0;subst x1
    exact ⟨rfl,.inl rfl,fun L=>⟨rfl,rfl⟩⟩
   ·simp only[NA,GB,QD] at hx
    rcases hx with rfl|rfl|rfl <;> first|rfl|cases hl
   ·rw[ZB]
   ·show AV.underL _ [.lst (Row.lsts r),.int room,.obj mem.length,.lst (Row.lsts line),.int st.front,.str wh,.str pc,.lst ((commasOf line).map fun (k:Nat)=>AV.int (k:Int))]=true
    simp only[AV.underL,AV.under,hun,jD,Bool.and_true,Bool.true_and,PC]
    simp
   refine xcons (aL.keep (junk:=[.rng 1 (line.length:Int) 1]) (.into (gE B ⟨fun x9=>rfl,fun x9=>rfl,fun x9=>rfl,fun x9=>rfl⟩ (cl:=fun L=>[(("line" : Str),L+1)]) (base:=[("line",.lst (Row.lsts line))]) (rest:=[]) (Mm:=fun x9=>True) (outs:=(blanksOf line).map fun (k:Nat)=>AV.int (k:Int))
      (items:=(List.range' 1 (line.length - 1)).map fun (k:Nat)=>AV.int (k:Int)) (m0:=mem++[AO.lst (st.lines.map AV.str)]++[.rng 1 (line.length:Int) 1])
      (CX oS (.cons aH (.cons (aE.to (v':=.int (line.length:Int)) (CX fJ (.cons NC .nil) (iE (.lst _) lL)) (by rw[lenL])) .nil)) pK) ?_ trivial ?_ (.inr ⟨_,rfl⟩) (fun L=>aZ.filter (fun (k:Nat)=>AV.int (k:Int)) (fun (k:Nat)=>AV.int (k:Int)) (fun k=>blank ((line.getD k default).1)) fun k hk=>⟨_,ACN,?_,?_,N⟩) (fun L=>rfl) (fun L p hp=>hp) (fun L=>by simp) (fun y w e=>?_)
      (fun L=>.loc rfl rfl) (fun L=>rfl) (fun L x=>rfl) rfl (by decide) (fun L x hx hl=>?_)) ?_) hM ?_) ?_
   ·rw[← iG]
    exact mE B e3 (small1 l1 l3) (size1 l1)
   ·exact it6
   ·exact eQ
   ·have hk2:=List.mem_range'_1.mp hk
    have hkl:k < line.length:=rg1 hk2
    have hget:line[k]?= some (line[k]):=EB hkl
    have hgd:line.getD k default=line[k]:=by rw[XC,hget];rfl
    rw[hgd]
    have hmem:line[k]∈line:=BG hkl
    refine o02 (lnp _ hmem) fun hne hsz=>?_
    generalize line[k]=q at *
    have hix:seqIndex? (k:Int) (Row.lsts line).length=some k:=gP (by rw[lenL];exact hkl)
    have hl2:(Row.lsts line)[k]?= some (.lst [.str q.1,.str q.2]):=by unfold Row.lsts;rw[FE,hget];rfl
    refine .to (aD (dB (bP (bP NC N (eA (.lst _) lL hix hl2)) aH (eA (v:=.str q.1) (k:=0) (.lst _) (by simp) (sG (by simp)) rfl)) bM (bG aH) (GA (GA (GH _ _) hsz) (by decide))) aG aT) ?_
    exact slice1 q.1 32
   ·refine o02 (nN e) fun x0 x1=>?_;subst x0;subst x1
    exact ⟨rfl,.inl rfl,fun L=>⟨rfl,rfl⟩⟩
   ·simp only[NA,GB,QD] at hx
    rcases hx with rfl|rfl|rfl <;> first|rfl|cases hl
   ·rw[ZB]
   ·show AV.underL _ [.lst (Row.lsts r),.int room,.obj mem.length,.lst (Row.lsts line),.int st.front,.str wh,.str pc,.lst ((commasOf line).map fun (k:Nat)=>AV.int (k:Int)),.lst ((blanksOf line).map fun (k:Nat)=>AV.int (k:Int))]=true
    simp only[AV.underL,AV.under,hun,jD,Bool.and_true,Bool.true_and,PC]
    simp
   by_cases c2:commasOf line++blanksOf line≠[]
   ·obtain ⟨ks,k1,k2,k3,k4⟩:∃ks:AA Nat,ks≠[]∧ks.length≤300∧(∀ini pl,ks=ini++[pl]→stepL room st (wh,pc)=⟨st.lines++[Row.txt (line.take pl)],line.drop pl,0⟩)∧(commasOf line≠[]∧ks=commasOf line∨¬ commasOf line≠[]∧ks=blanksOf line):=by
     by_cases c5:commasOf line≠[]
     ·exact ⟨_,c5,cl,fun ini pl q=>by unfold stepL;simp only[hL];rw[OB c1,OB c2,OB c5,q,List.getLast?_concat];rfl,.inl ⟨c5,rfl⟩⟩
     ·exact ⟨_,fun e=>c2 (by rw[Classical.not_not.mp c5,e];rfl),bl,fun ini pl q=>by unfold stepL;simp only[hL];rw[OB c1,OB c2,AB c5,q,List.getLast?_concat];rfl,.inr ⟨c5,rfl⟩⟩
    obtain ⟨ini,pl,hpl'⟩:∃ini pl,ks=ini++[pl]:=⟨_,_,(List.dropLast_concat_getLast k1).symm⟩
    rw[k3 _ _ hpl']
    have pln:ks.length=ini.length+1:=by rw[hpl',PA];rfl
    refine xlast (xifT (.to (aD (aV N N (bY (.lst _) (.lst _) cb)) (aW .nil (by simp)) (gO (.lst _) (.lst _))) (by rw[← FC];simpa using c2)) ?_)
    refine xcons (SA (v:=.int (pl:Int)) (bP (v1:=.lst (ks.map fun (k:Nat)=>AV.int (k:Int))) (m1:=mem++[AO.lst (st.lines.map AV.str)]) ?ev (fU aH) (eA (k:=ini.length) (.lst (ks.map fun (k:Nat)=>AV.int (k:Int))) (lm (GA k2 (by decide))) (vO (by rw[BB];exact pln)) (by rw[hpl',FC,OA (by simp)];simp)))) ?_
    case ev=>
     rcases k4 with ⟨c5,q⟩| ⟨c5,q⟩ <;> rw[q]
     ·exact rI (.to (aD N (aW .nil (by simp)) (gO (.lst _) (.lst _))) (by simpa using c5)) N
     ·exact rJ (.to (aD N (aW .nil (by simp)) (gO (.lst _) (.lst _))) (by rw[Classical.not_not.mp c5];rfl)) N
    refine xcons (ES (MB N (gB (.obj em)) (.cons (CX cW (.cons (aE.to (v':=.lst (Row.lsts (line.take pl))) (dE NC bM (bG N) (.lst _) lL) (by rw[lG];unfold Row.lsts;rw[List.map_take])) .nil) (ltx _ (tk pl).1 (tk pl).2)) .nil) (ppx _)) .none) ?_
    refine xcons (cD (bV (.cons (aE.to (v':=.lst (Row.lsts (line.drop pl))) (dE NC (bG N) bM (.lst _) lL) (by rw[hV];unfold Row.lsts;rw[List.map_drop])) (.cons aH .nil)) (by simp)) (eE (bB AN (bB AN dO)))) (xnil ?_)
    intro y v e;exact dC (k:=[("white",.str wh),("piece",.str pc),("commas",.lst ((commasOf line).map fun (k:Nat)=>AV.int (k:Int))),("blanks",.lst ((blanksOf line).map fun (k:Nat)=>AV.int (k:Int))),("place",.int (pl:Int))]) e
   ·have c2':commasOf line++blanksOf line=[]:=Classical.not_not.mp c2
    by_cases c3:st.front > 0
    ·have dl:Row.lsts line.dropLast=(Row.lsts line).dropLast:=by unfold Row.lsts;rw[List.map_dropLast]
     have dll:line.dropLast.length≤300:=GA (DE List.length_dropLast) ln1
     have dls:Row.size line.dropLast≤101 * line.dropLast.length:=Row.size_le fun p hq=>(lnp p (List.dropLast_subset _ hq)).2
     have e1:stepL room st (wh,pc)=⟨st.lines++[Row.txt line.dropLast],[(if wh=⟨#[]⟩ then " " else wh,pc)],0⟩:=by unfold stepL;simp only[hL];rw[OB c1,AB c2,OB c3]
     rw[e1]
     refine xlast (xifF (.to (aD (aV N N (bY (.lst _) (.lst _) cb)) (aW .nil (by simp)) (gO (.lst _) (.lst _))) (by rw[← FC,c2'];rfl)) (xlast (xifT (.to (aD N aH cH) (by simp;assumption))
      (xcons (ES (MB N (gB (.obj em)) (.cons (CX cW (.cons (aE.to (v':=.lst (Row.lsts line.dropLast)) (dE NC bM (bG (fU aH)) (.lst _) lL) (by rw[dl];exact RB AV.lst (zJ _))) .nil) (ltx _ (GA dll (by decide)) (GA dls (GA (ZH 101 dll) (by decide))))) .nil) (ppx _)) .none) ?_))))
     by_cases c4:wh=⟨#[]⟩
     ·rw[OB c4]
      refine xcons (cD (bV (.cons (aW (.cons (aW (.cons (rJ (.to (aD N aG dL) (by rw[c4];rfl)) aG) (.cons N .nil)) (by simp)) .nil) (by simp)) (.cons aH .nil)) (by simp)) (eE (bB AN (bB AN dO)))) (xnil ?_)
      intro y v e;exact dC (k:=[("white",.str wh),("piece",.str pc),("commas",.lst ((commasOf line).map fun (k:Nat)=>AV.int (k:Int))),("blanks",.lst ((blanksOf line).map fun (k:Nat)=>AV.int (k:Int)))]) e
     ·rw[AB c4]
      refine xcons (cD (bV (.cons (aW (.cons (aW (.cons (rI (.to (aD N aG dL) (by simpa using (show ¬ wh=(LD "") from c4))) N) (.cons N .nil)) (by simp)) .nil) (by simp)) (.cons aH .nil)) (by simp)) (eE (bB AN (bB AN dO)))) (xnil ?_)
      intro y v e;exact dC (k:=[("white",.str wh),("piece",.str pc),("commas",.lst ((commasOf line).map fun (k:Nat)=>AV.int (k:Int))),("blanks",.lst ((blanksOf line).map fun (k:Nat)=>AV.int (k:Int)))]) e
    ·have e1:stepL room st (wh,pc)=⟨st.lines,line,st.front⟩:=by unfold stepL;simp only[hL];rw[OB c1,AB c2,AB c3]
     rw[e1]
     refine xlast (xifF (.to (aD (aV N N (bY (.lst _) (.lst _) cb)) (aW .nil (by simp)) (gO (.lst _) (.lst _))) (by rw[← FC,c2'];rfl)) (xlast (xifF (.to (aD N aH cH) (by simp;lia)) (xnil ?_))))
     intro y v e;exact dC (k:=[("white",.str wh),("piece",.str pc),("commas",.lst ((commasOf line).map fun (k:Nat)=>AV.int (k:Int))),("blanks",.lst ((blanksOf line).map fun (k:Nat)=>AV.int (k:Int)))]) e
  ·have e1:stepL room st (wh,pc)=⟨st.lines,line,st.front⟩:=by unfold stepL;simp only[hL];rw[AB c1]
   rw[e1]
   refine ⟨_,_,_,oK (bB AN (bB AN dO)),.inl (.cons (SA (v:=.lst (Row.lsts line)) (.to (aV NC (aW (.cons (aW (.cons N (.cons N .nil)) (by simp)) .nil) (by simp)) (bY (.lst _) (.lst _) ls1)) ?_))
    (.cons (aK (.to (aD (aV N (CX fJ (.cons (CX cW (.cons NC .nil) (ltx _ l3 lz)) .nil) (fD lx)) dX) N cH) (by simpa using c1)) .nil) .nil)),?_⟩
   ·rw[← eL]
   ·intro y v e;exact dC (k:=[("white",.str wh),("piece",.str pc)]) e
 ·have hI:=qC (room:=room) r ⟨[],[],3⟩ hp ⟨MA _,by simp;exact lz,by simp;exact lz,by simp⟩
  unfold linesOf
  simp only
  generalize r.foldl (stepL room) ⟨[],[],3⟩=st at *
  refine o04 hI fun h1 h2 h3 h4=>?_;clear hI
  have hs:Row.size st.line≤101 * st.line.length:=Row.size_le fun p hq=>(h4 p hq).2
  have em:(mem++[AO.lst (st.lines.map AV.str)])[mem.length]?= some (.lst (st.lines.map .str)):=by rw[OA (MA _),VB];rfl
  exact .stop (bI (.to (aV N (aW (.cons (CX cW (.cons NC .nil) (kP (h:=h) B (by lia) (by lia))) .nil) (by simp)) (bY (.obj em) (.lst _) (by simp;lia))) (by rw[FC];rfl))) (by simp)
end
noncomputable def lawTabs:AA (EA×EA×RA BA):=[(172,168,#[]),(179,175,#[]),(1032,1028,#[])]
noncomputable abbrev bl(pr:RC)(w:HD)(P:IB)(s₁:CA):Bs:=bs pr w P s₁ lawTabs
noncomputable def accO(ps:AA (Str×Str))(n:Int):AO:=.inst 206 (some (prs ps)) [(("_initial_size" : Str),.int n)]
section
variable {P:IB}
theorem cS:seqCls (Hd.KL P) 206=true:=by kernel_rfl
theorem aAq:fromList (Hd.KL P) 206 "__iter__" "list.__iter__" = true:=by kernel_rfl
theorem iA:fromList (Hd.KL P) 206 "__getitem__" "list.__getitem__" = true:=by kernel_rfl
theorem xP:fromList (Hd.KL P) 206 "__setitem__" "list.__setitem__" = true:=by kernel_rfl
theorem aDw:makesSeq (Hd.KL P) 206=true:=by kernel_rfl
theorem aEH:CD (Hd.KL P) (.ref 206) "__init__" = some (some (.ref 143)):=by kernel_rfl
theorem aEI:CD (Hd.KL P) (.ref 206) "__bool__" = some none:=by kernel_rfl
theorem aCw:CD (Hd.KL P) (.ref 206) "__len__" = some (some (.ref 173)):=by kernel_rfl
theorem aCx:CD (Hd.KL P) (.ref 206) "__str__" = some (some (.ref 180)):=by kernel_rfl
theorem kQ:plainAttr (Hd.KL P) 206 "_initial_size" = true:=by kernel_rfl
theorem oU:takesOwn (Hd.KL P) 206 "_initial_size" = true:=by kernel_rfl
theorem tG:builtinMeth (Hd.KL P) 206 "append" "list.append" = true:=by kernel_rfl
theorem tH:ownMeth (Hd.KL P) 206 "push" 150=true:=by kernel_rfl
theorem xQ:ownMeth (Hd.KL P) 206 "pop_from" 158=true:=by kernel_rfl
theorem xR:ownMeth (Hd.KL P) 206 "pop" 166=true:=by kernel_rfl
theorem vW:ownMeth (Hd.KL P) 206 "reset" 188=true:=by kernel_rfl
theorem aEJ:ownMeth (Hd.KL P) 206 "is_onlyws" 195=true:=by kernel_rfl
theorem oV:ownMeth (Hd.KL P) 206 "part_count" 203=true:=by kernel_rfl
theorem aEK:bfIn (Hd.KL P)=true:=rfl
theorem lN:(clsIn (Hd.KL P) 206).isSome=true:=by kernel_rfl
theorem xS:mroIn (Hd.KL P) 206 (.ref 206)=some true:=by kernel_rfl
theorem aFR:mroIn (Hd.KL P) 206 (.type "module")=some false:=by kernel_rfl
theorem xT:nsIn (Hd.KL P) cStatics "thirdparty.any" = some none:=by kernel_rfl
theorem xU:ks_superIn (Hd.KL P) 206 206 "__init__" = some (some (.builtin "list.__init__")):=by kernel_rfl
theorem aAr:ks_superIn (Hd.KL P) 206 206 "__len__" = some (some (.builtin "list.__len__")):=by kernel_rfl
theorem aAs:ks_superIn (Hd.KL P) 206 206 "pop" = some (some (.builtin "list.pop")):=by kernel_rfl
theorem aDx:nsIn (Hd.KL P) TB "EMPTYSTRING" = some (some (.str ⟨#[]⟩ 363)):=by kernel_rfl
end
theorem jM(ps qs:AA (Str×Str)):prs (ps++qs)=prs ps++prs qs:=by unfold prs;rw[FC]
theorem bZ(ps:AA (Str×Str)):(prs ps).length=ps.length:=by unfold prs;rw[BB]
theorem aBR(ps:AA (Str×Str))(n:Nat):prs (ps.take n)=(prs ps).take n:=by unfold prs;rw[List.map_take]
theorem aBS(ps:AA (Str×Str))(n:Nat):prs (ps.drop n)=(prs ps).drop n:=by unfold prs;rw[List.map_drop]
theorem xV{l:AA AV}(n:Nat)(hn:n≤l.length):pick l (some (n:Int)) none=l.drop n:=by
 have e:clipAt l.length (n:Int)=n:=by unfold clipAt;rw[AB (by lia)];lia
 unfold pick
 simp only[Option.elim,e]
 rw[WF (by rw[AG];lia)]
section
variable {pr:RC}{w:HD}{P:IB}{s₁:CA}{h i:Nat}{mem:AA AO}{a c:Str}{ps:AA (Str×Str)}{n:Int}
theorem aEL(B:aC (bl pr w P s₁))(e:mem[i]?= some (accO ps n))(hz:ps.length≤1000):aF (bl pr w P s₁) (h+1) (.ref 150) [.obj i,.str a,.str c] mem .none (mem.set i (accO (ps++[(a,c)]) n)):=by
 have e1:accO (ps++[(a,c)]) n=.inst 206 (some (prs ps++[.tup [.str a,.str c]])) [("_initial_size",.int n)]:=by unfold accO;rw[jM];rfl
 rw[e1]
 refine DF (xs:=["self","fws","string"]) (out:=.next) (loc':=[("self",.obj i),("fws",.str a),("string",.str c)]) (hbind:=bind3 fun x9 x9 x9=>rfl) ?_
 exact .cons (ES (MB N (nB B e tG rfl) (.cons (bV (.cons N (.cons N .nil)) (by simp)) .nil) (iW B e cS (by rw[bZ];exact lz)))) .nil
theorem xW(B:aC (bl pr w P s₁)){k:Nat}(e:mem[i]?= some (accO ps n))(hz:ps.length≤1000)(hk:k≤ps.length):aF (bl pr w P s₁) (h+1) (.ref 158) [.obj i,.int k] mem (.lst (prs (ps.drop k))) (mem.set i (accO (ps.take k) n)):=by
 have e1:accO (ps.take k) n=.inst 206 (some (putl (prs ps) [] (some (k:Int)) none)) [("_initial_size",.int n)]:=by unfold accO;rw[zV _ _ k (by rw[bZ];exact hk),aBR,ZB]
 have e2:prs (ps.drop k)=pick (prs ps) (some (k:Int)) none:=by rw[xV _ (by rw[bZ];exact hk),aBS]
 rw[e1,e2]
 refine bS.call (DG (xs:=["self","i"]) (vs:=[.obj i,.int k]) (out:=.ret (.lst (pick (prs ps) (some (k:Int)) none))) (loc':=[("self",.obj i),("i",.int k),("popped",.lst (pick (prs ps) (some (k:Int)) none))]) ?hb ?_)
 case hb=>exact dflt2 B rfl fun a c=>⟨_,rfl,rfl⟩
 have hzl:(prs ps).length≤1000:=by rw[bZ];exact hz
 refine .cons (SA (sO B N (bG N) bM e cS iA (by exact lz))) ?_
 refine .cons (fG B (aW .nil (by simp)) N (bG N) bM e cS xP (by simp;exact lz)) ?_
 exact .stop (bI N) (by simp)
end
theorem DW{b:Bs}{h:Nat}{body:AA VD}{loc':AA (Str×AV)}{mem m1:AA AO}{out:AOut}{f:EA}{fd:BD}{oc:BA}{od:YA EA}{osl:RA (YA BA)}{xs:AA Str}{args:AA AV}
  (hx:ExecW b h (fun L=>KC fd L f) (fun L=>{ KC fd L f with cells:=[] }) body body (bindsL xs args) mem out loc' m1)
  (ho:DA (b.K.lookup f=some ⟨oc,od,.func fd,osl⟩) q9) (hcd:DA (codeIn b.K fd.code fd.qualname=true) q15) (hb:DA (fd.body=.stmts body) q9)
  (hbind:∀mvs:AA BA,mvs.length=args.length→TD fd ⟨mvs,[]⟩=pure (xs.zip mvs)) (nd:DA (xs.Nodup) q10) (hl:DA (xs.length=args.length) q9)
  (hcell:DA (∀x∈fd.scope.names,x.2≠.cell) q10) (hloc:DA (∀x∈xs,fd.scope.names.lookup x=some .local) q10)
  (hco:DA (fd.scope.isCoroutine=false) q9) (hgen:DA (fd.scope.isGenerator=false) q9) (hk:DA (fd.scope.kind=.function) q9) (B:DA (aC b) q11):bS b (h+1) (.ref f) args [] [] mem (retOf out) m1:=
 sR B ho hcd hb (fun mvs e s X=>.of_eq (hbind mvs e)) nd hl hcell hloc hco hgen hk hx
theorem xX{K:Frag}{fd:BD}{T:EA}{oc:BA}{od:YA EA}{osl:RA (YA BA)}{items:RA BA}{n:Nat}{a:Args}{bs':AA (Str×BA)}(hT:K.lookup T=some ⟨oc,od,.seq items n,osl⟩)
  (h:∃k,TD fd a=(seqItems? (.ref T)>>=k)∧k (some items)=pure bs') (s:CA) (X:K.In s.heap):BindsTo s fd a bs':=by
 refine o12 h fun k e1 e2=>?_;clear h
 intro M A E Q q
 rw[e1]
 refine wb (VC (X _ _ hT) rfl ?_)
 rw[e2]
 exact wp q
theorem aDy(a:BA):argsOk "list.__init__" ⟨[a],[]⟩:=by unfold argsOk;rw[PySem.W.S.signatureZ_eq];kernel_rfl
theorem aBT{M:WH}{A:XA}{E:BA→CA→Prop}{Q:Unit→CA→Prop}{x:EA}{s:CA}(q:Q () s):FA M A (OE "list.__init__" ⟨[.ref x],[]⟩) Q E s:=by
 have h:=lS (M:=M) (A:=A) (E:=E) (id:="list.__init__") (x:=.ref x) (s:=s) (Q:=Q) aBC (aDy _) q
 exact h
theorem lO{mem:AA AO}{i:Nat}{o o':AO}(e:mem[i]?= some o):(mem.set i o')[i]?= some o':=by
 obtain ⟨hi,_⟩:=List.getElem?_eq_some_iff.mp e
 rw[XF hi]
theorem aBU(mem:AA AO)(o o':AO):(mem++[o]).set mem.length o'=mem++[o']:=by simp
section
variable {pr:RC}{w:HD}{P:IB}{s₁:CA}{h i:Nat}{mem:AA AO}{x a c:Str}{ps:AA (Str×Str)}{n:Int}
theorem aEM:((172,168,#[]):EA×EA×RA BA)∈(bl pr w P s₁).tabs:=List.Mem.head _
theorem aEN:((179,175,#[]):EA×EA×RA BA)∈(bl pr w P s₁).tabs:=List.Mem.tail _ (List.Mem.head _)
theorem gW(B:aC (bl pr w P s₁))(H:supFile (bl pr w P s₁) 202)(e:mem[i]?= some (accO ps n))(hz:ps.length≤1000):bS (bl pr w P s₁) (h+1) (.ref 203) [.obj i] [] [] mem (.int ps.length) mem:=by
 refine o11 (Option.isSome_iff_exists.mp (lN (P:=P))) fun cdD hD=>?_
 have hl:(prs ps).length=ps.length:=bZ ps
 refine DW (xs:=["self"]) (out:=.ret (.int ps.length)) (loc':=[("self",.obj i)]) (hbind:=bind1 fun x9=>rfl) ?_
 refine zW ?_
 rw[← hl]
 exact mH B rfl rfl rfl H rfl rfl hD xS mK rfl rfl rfl rfl rfl rfl rfl e cS xT aAr lN (by decide) aBF (fun ea hs q=>aDe ea hs q) (fun X ea q=>lS aDh (PySem.F.args_list_len_1 _) q) (aDm (by lia)) (fun L=>⟨_,rfl⟩)
theorem aFS(B:aC (bl pr w P s₁))(H:supFile (bl pr w P s₁) 165)(H2:supFile (bl pr w P s₁) 202)(e:mem[i]?= some (accO (ps++[(a,c)]) n))(hz:ps.length≤900):
  bS (bl pr w P s₁) (h+2) (.ref 166) [.obj i] [] [] mem (.tup [.str a,.str c]) (mem.set i (accO ps n)):=by
 refine o11 (Option.isSome_iff_exists.mp (lN (P:=P))) fun cdD hD=>?_
 have hl:(prs ps).length=ps.length:=bZ ps
 refine DW (xs:=["self"]) (out:=.ret (.tup [.str a,.str c])) (loc':=[("self",.obj i)]) (hbind:=bind1 fun x9=>rfl) ?_
 refine vT (aK (.to (aD (MB N (bD B e oV rfl) .nil (gW (h:=0) B H2 e (by simp;exact lz)).call) aH fR) ?_) .nil) ?_
 ·simp
  lia
 refine zW ?_
 have e2:mem[i]?= some (.inst 206 (some (prs ps++[.tup [.str a,.str c]])) [(("_initial_size" : Str),.int n)]):=by rw[e];unfold accO;rw[jM];rfl
 exact mH B rfl rfl rfl H rfl rfl hD xS mK rfl rfl rfl rfl rfl rfl rfl e2 cS xT aAs lN (by decide) aBE (fun ea hs q=>aDd ea hs q) (fun {A E Q x d its n s} X ea q=>by obtain ⟨⟩:=s;exact xA X ea aFR ⟨_,_,rfl,rfl,rfl⟩ q) (aDn B (by lia)) (fun L=>⟨_,rfl⟩)
theorem aEO(B:aC (bl pr w P s₁))(H2:supFile (bl pr w P s₁) 202)(e:mem[i]?= some (accO [] n)):
  bS (bl pr w P s₁) (h+2) (.ref 166) [.obj i] [] [] mem (.tup [.str ⟨#[]⟩,.str ⟨#[]⟩]) mem:=by
 refine DW (xs:=["self"]) (out:=.ret (.tup [.str ⟨#[]⟩,.str ⟨#[]⟩])) (loc':=[("self",.obj i)]) (hbind:=bind1 fun x9=>rfl) ?_
 exact aDj (aO (.to (aD (MB N (bD B e oV rfl) .nil (gW (h:=0) B H2 e (by simp)).call) aH fR) (by simp)) (.stop (bI (bV (.cons aG (.cons aG .nil)) (by simp))) (by simp))) (by simp)
theorem xY(B:aC (bl pr w P s₁))(H:supFile (bl pr w P s₁) 142)(e:mem[i]?= some (.inst 206 (some []) [])):bS (bl pr w P s₁) (h+1) (.ref 143) [.obj i,.int n] [] [] mem .none (mem.set i (accO [] n)):=by
 refine o11 (Option.isSome_iff_exists.mp (lN (P:=P))) fun cdD hD=>?_
 have em:mem.set i (accO [] n)=(mem.set i (.inst 206 (some []) (putL ("_initial_size" : Str) (.int n) []))).set i (.inst 206 (some []) (putL ("_initial_size" : Str) (.int n) [])):=by rw[List.set_set];rfl
 rw[em]
 refine sR (out:=.next) (loc':=[("self",.obj i),("initial_size",.int n)]) (xs:=["self","initial_size"]) B (by rfl) (by kernel_rfl) (by rfl) (fun mvs e s X=>?_) (by decide) (by rfl) (by decide) (by decide) (by rfl) (by rfl) (by rfl) ?_
 ·refine o21 (L2 e) fun a c x0=>?_;subst x0
  exact xX (T:=135) rfl ⟨_,rfl,rfl⟩ s X
 refine vT (dI B N N e oU (by simp)) ?_
 refine aDk (v:=.none) ?_
 exact mH B rfl rfl rfl H rfl rfl hD xS mK rfl rfl rfl rfl rfl rfl rfl (lO e) cS xT xU lN (by decide) zX (fun ea hs q=>aBA ea hs q) (fun X ea q=>aBT q) (aBG B (by simp)) (fun L=>⟨_,rfl⟩)
variable {qs:AA (Str×Str)}
theorem aAt(B:aC (bl pr w P s₁))(H:supFile (bl pr w P s₁) 142):aF (bl pr w P s₁) (h+2) (.ref 206) [.int n] mem (.obj mem.length) (mem++[accO [] n]):=by
 rw[← aBU mem (.inst 206 (some []) []) (accO [] n)]
 exact (wV B aDw aEH (by kernel_rfl) (xY B H (by simp))).call
theorem qD(B:aC (bl pr w P s₁))(e:mem[i]?= some (accO ps n))(hn:0≤n∧n≤1000000)(hz:total ps≤1000000):aF (bl pr w P s₁) (h+1) (.ref 173) [.obj i] mem (.int (n+total ps)) mem:=by
 refine DF (xs:=["self"]) (out:=.ret (.int (n+total ps))) (loc':=[("self",.obj i)]) (hbind:=bind1 fun x9=>rfl) ?_
 refine .stop (bI ?_) (by simp)
 exact uN B ⟨fun x9=>rfl,fun x9=>rfl,fun x9=>rfl,fun x9=>rfl⟩ aEM rfl e rfl hn hz (fun x9=>rfl) cS aAq aEK kQ aEE aEF (fun x9=>rfl) (fun x9=>rfl) (fun x9=>rfl) (by decide) rfl (fun x9=>rfl) (by decide) rfl rfl rfl (by decide) (by decide) (by decide) rfl rfl (fun x9 x9=>rfl)
theorem qE(B:aC (bl pr w P s₁))(e:mem[i]?= some (accO ps n))(hz:total ps≤1000000)(hn:ps.length≤1000000):aF (bl pr w P s₁) (h+1) (.ref 180) [.obj i] mem (.str (txtOf ps)) mem:=by
 refine DF (xs:=["self"]) (out:=.ret (.str (txtOf ps))) (loc':=[("self",.obj i)]) (hbind:=bind1 fun x9=>rfl) ?_
 refine .stop (bI ?_) (by simp)
 exact sN B ⟨fun x9=>rfl,fun x9=>rfl,fun x9=>rfl,fun x9=>rfl⟩ aEN rfl e hz hn (fun x9=>rfl) cS aAq aEK aDx (fun x9=>rfl) (fun x9=>rfl) (fun x9=>rfl) (by decide) rfl (fun x9=>rfl) (by decide) rfl rfl rfl (by decide) (by decide) (by decide) (by decide) rfl rfl (fun x9 x9=>rfl) (fun x9 x9 x9=>⟨_,rfl⟩) (fun x9=>⟨_,rfl⟩)
theorem aCy:isFn (Hd.KL P) (.ref 173)=true:=by kernel_rfl
theorem aCz:isFn (Hd.KL P) (.ref 180)=true:=by kernel_rfl
theorem aBV(B:aC (bl pr w P s₁))(e:mem[i]?= some (accO ps n))(hz:ps.length+qs.length≤1000):aF (bl pr w P s₁) (h+1) (.ref 188) [.obj i,.lst (prs qs)] mem .none (mem.set i (accO qs 0)):=by
 have e1:mem.set i (accO qs 0)=(mem.set i (.inst 206 (some (putl (prs ps) (prs qs) none none)) [(("_initial_size" : Str),.int n)])).set i (.inst 206 (some (putl (prs ps) (prs qs) none none)) (putL ("_initial_size" : Str) (.int 0) [(("_initial_size" : Str),.int n)])):=by rw[List.set_set,sP];rfl
 rw[e1]
 refine bS.call (DG (xs:=["self","startval"]) (vs:=[.obj i,.lst (prs qs)]) (out:=.next) (loc':=[("self",.obj i),("startval",.lst (prs qs))]) ?hb ?_)
 case hb=>exact dflt2 B rfl fun a c=>⟨_,rfl,rfl⟩
 refine .cons (aK (aD N bN bW) .nil) ?_
 refine .cons (fG B N N bM bM e cS xP (by rw[bZ,bZ];exact lz)) ?_
 exact .cons (dI B aH N (lO e) oU (by simp)) .nil
theorem aBW(B:aC (bl pr w P s₁))(e:mem[i]?= some (accO ps n))(hz:ps.length≤1000):aF (bl pr w P s₁) (h+1) (.ref 188) [.obj i] mem .none (mem.set i (accO [] 0)):=by
 have e1:mem.set i (accO [] 0)=(mem.set i (.inst 206 (some (putl (prs ps) [] none none)) [(("_initial_size" : Str),.int n)])).set i (.inst 206 (some (putl (prs ps) [] none none)) (putL ("_initial_size" : Str) (.int 0) [(("_initial_size" : Str),.int n)])):=by rw[List.set_set,sP];rfl
 rw[e1]
 refine bS.call (DG (xs:=["self","startval"]) (vs:=[.obj i,.none]) (out:=.next) (loc':=[("self",.obj i),("startval",.lst [])]) ?hb ?_)
 case hb=>exact dflt1 B rfl .none fun a=>⟨_,rfl,rfl⟩
 refine .cons (aO (aD N bN bW) (.cons (SA (aW .nil (by simp))) .nil)) ?_
 refine .cons (fG B N N bM bM e cS xP (by rw[bZ];simp;exact lz)) ?_
 exact .cons (dI B aH N (lO e) oU (by simp)) .nil
theorem aEP(B:aC (bl pr w P s₁))(e:mem[i]?= some (accO ps n))(hn:0≤n∧n≤1000000)(hz:total ps≤1000000)(hl:ps.length≤1000000)(hw:n≠0∨(total ps≠0∧YF (txtOf ps)=false)):aF (bl pr w P s₁) (h+3) (.ref 195) [.obj i] mem (.bool false) mem:=by
 refine DF (xs:=["self"]) (out:=.ret (.bool false)) (loc':=[("self",.obj i)]) (hbind:=bind1 fun x9=>rfl) ?_
 refine .stop (bI ?_) (by simp)
 by_cases h0:n=0
 ·subst h0
  have hw:total ps≠0∧YF (txtOf ps)=false:=hw.resolve_left (fun h=>h rfl)
  refine aEp (.to (wN (aA N (aB B e rfl kQ)) aH fR) (by rfl)) aM ?_
  have hlen:=qD (h:=0) B e hn hz
  refine aFK (.to (aFL N (aDl (h:=h+1) B e aEI aCw aCy (hlen.mono (by lia)) (by lia) (by lia))) (v':=.bool false) ?_) aM ?_
  ·congr 1
   simp only[Bool.not_eq_false',bne_iff_ne,ne_eq]
   lia
  ·exact .to (MB (CX jJ (.cons N .nil) (nD (h:=1) B e aCx aCz (qE (h:=0) B e hz hl))) eF .nil eG) (by rw[hw.2])
 ·exact aEo (.to (wN (aA N (aB B e rfl kQ)) aH fR) (by simp[h0])) aM
end
noncomputable def fmO(room:Int)(j k:Nat):AO:=.inst 122 none [(("_maxlen" : Str),.int room),("_continuation_ws",.str " "),("_continuation_ws_len",.int 1),("_splitchars",.str ", "),("_lines",.obj j),("_current_line",.obj k)]
structure Fst(mem:AA AO)(f j k:Nat)(room:Int):Prop where
 hf:mem[f]?= some (fmO room j k)
 hj:j < mem.length
 hk:k < mem.length
 fj:f≠j
 fk:f≠k
 jk:j≠k
noncomputable def upd(mem:AA AO)(j k:Nat)(lines:AA Str)(ps:AA (Str×Str))(n:Int):AA AO:=(mem.set j (.lst (lines.map .str))).set k (accO ps n)
section
variable {mem:AA AO}{f j k:Nat}{room n n':Int}{lines lines':AA Str}{ps ps':AA (Str×Str)}
theorem Fst.gf(F:Fst mem f j k room):(upd mem j k lines ps n)[f]?= some (fmO room j k):=by
 unfold upd
 rw[BE (Ne.symm F.fk),BE (Ne.symm F.fj),F.hf]
theorem Fst.gj(F:Fst mem f j k room):(upd mem j k lines ps n)[j]?= some (.lst (lines.map .str)):=by
 unfold upd
 rw[BE (Ne.symm F.jk),XF F.hj]
theorem Fst.gk(F:Fst mem f j k room):(upd mem j k lines ps n)[k]?= some (accO ps n):=by
 unfold upd
 rw[XF (by rw[List.length_set];exact F.hk)]
theorem lP:(upd mem j k lines ps n).set k (accO ps' n')=upd mem j k lines ps' n':=by unfold upd;rw[List.set_set]
theorem Fst.uj(F:Fst mem f j k room):(upd mem j k lines ps n).set j (.lst (lines'.map .str))=upd mem j k lines' ps n:=by
 unfold upd
 rw[List.set_comm _ _ (Ne.symm F.jk),List.set_set]
theorem tI{mem:AA AO}{i:Nat}{o:AO}(e:mem[i]?= some o):mem.set i o=mem:=by
 apply List.ext_getElem?
 intro m
 by_cases h:i=m
 ·subst h
  obtain ⟨hi,_⟩:=List.getElem?_eq_some_iff.mp e
  rw[XF hi,e]
 ·rw[BE h]
theorem aBX(hj:mem[j]?= some (.lst (lines.map .str)))(hk:mem[k]?= some (accO ps n)):upd mem j k lines ps n=mem:=by
 unfold upd
 rw[tI hj,tI hk]
variable {P:IB}
theorem tJ:plainAttr (Hd.KL P) 122 "_maxlen" = true:=by kernel_rfl
theorem vX:plainAttr (Hd.KL P) 122 "_splitchars" = true:=by kernel_rfl
theorem oW:plainAttr (Hd.KL P) 122 "_lines" = true:=by kernel_rfl
theorem bL:plainAttr (Hd.KL P) 122 "_current_line" = true:=by kernel_rfl
theorem qF:ownMeth (Hd.KL P) 122 "newline" 84=true:=by kernel_rfl
theorem aFT:ownMeth (Hd.KL P) 122 "_str" 70=true:=by kernel_rfl
theorem aEQ:ownMeth (Hd.KL P) 122 "feed" 98=true:=by kernel_rfl
theorem aDz:ownMeth (Hd.KL P) 122 "_ascii_split" 112=true:=by kernel_rfl
theorem aDA:ownMeth (Hd.KL P) 122 "_append_chunk" 119=true:=by kernel_rfl
theorem aDB:makesIn (Hd.KL P) 122=true:=by kernel_rfl
theorem aER:CD (Hd.KL P) (.ref 122) "__init__" = some (some (.ref 63)):=by kernel_rfl
theorem aFU:typeIn (Hd.KL P) (.ref 63)=some (.type "function"):=by kernel_rfl
theorem aGH:takesOwn (Hd.KL P) 122 "_maxlen" = true:=by kernel_rfl
theorem aGI:takesOwn (Hd.KL P) 122 "_continuation_ws" = true:=by kernel_rfl
theorem aGJ:takesOwn (Hd.KL P) 122 "_continuation_ws_len" = true:=by kernel_rfl
theorem aGK:takesOwn (Hd.KL P) 122 "_splitchars" = true:=by kernel_rfl
theorem aGL:takesOwn (Hd.KL P) 122 "_lines" = true:=by kernel_rfl
theorem aGM:takesOwn (Hd.KL P) 122 "_current_line" = true:=by kernel_rfl
theorem aDC:boundMeth (Hd.KL P) 206 "push" 150=true:=by kernel_rfl
variable {pr:RC}{w:HD}{s₁:CA}{h:Nat}{a c:Str}
noncomputable def dD(pr:RC)(w:HD)(P:IB)(s₁:CA):Prop:=supFile (bl pr w P s₁) 142∧supFile (bl pr w P s₁) 165∧supFile (bl pr w P s₁) 202
theorem oX(B:aC (bl pr w P s₁))(F:Fst mem f j k room)(hz:ps.length≤900):aF (bl pr w P s₁) (h+1) (.ref 150) [.obj k,.str a,.str c] (upd mem j k lines ps n) .none (upd mem j k lines (ps++[(a,c)]) n):=by
 rw[← lP (ps:=ps) (n:=n) (ps':=ps++[(a,c)])]
 exact aEL B F.gk (by exact lz)
theorem tK(B:aC (bl pr w P s₁))(F:Fst mem f j k room)(hz:ps.length≤900):bS (bl pr w P s₁) (h+1) (.ref 150) [.obj k,.str a,.str c] [] [] (upd mem j k lines ps n) .none (upd mem j k lines (ps++[(a,c)]) n):=by
 rw[← lP (ps:=ps) (n:=n) (ps':=ps++[(a,c)])]
 have e1:accO (ps++[(a,c)]) n=.inst 206 (some (prs ps++[.tup [.str a,.str c]])) [("_initial_size",.int n)]:=by unfold accO;rw[jM];rfl
 rw[e1]
 refine DG (xs:=["self","fws","string"]) (vs:=[.obj k,.str a,.str c]) (out:=.next) (loc':=[("self",.obj k),("fws",.str a),("string",.str c)]) ?hb ?_
 case hb=>exact .pure (bind3 fun x9 x9 x9=>rfl)
 exact .cons (ES (MB N (nB B F.gk tG rfl) (.cons (bV (.cons N (.cons N .nil)) (by simp)) .nil) (iW B F.gk cS (by rw[bZ];exact lz)))) .nil
theorem tL(B:aC (bl pr w P s₁))(H:dD pr w P s₁)(F:Fst mem f j k room)(hz:ps.length≤900):aF (bl pr w P s₁) (h+2) (.ref 166) [.obj k] (upd mem j k lines (ps++[(a,c)]) n) (.tup [.str a,.str c]) (upd mem j k lines ps n):=by
 rw[← lP (ps:=ps++[(a,c)]) (n:=n) (ps':=ps)]
 exact (aFS B H.2.1 H.2.2 F.gk hz).call
theorem aDD(B:aC (bl pr w P s₁))(H:dD pr w P s₁)(F:Fst mem f j k room):aF (bl pr w P s₁) (h+2) (.ref 166) [.obj k] (upd mem j k lines [] n) (.tup [.str ⟨#[]⟩,.str ⟨#[]⟩]) (upd mem j k lines [] n):=(aEO B H.2.2 F.gk).call
theorem vB(B:aC (bl pr w P s₁))(F:Fst mem f j k room){i:Nat}(hz:ps.length≤900)(hi:i≤ps.length):aF (bl pr w P s₁) (h+1) (.ref 158) [.obj k,.int i] (upd mem j k lines ps n) (.lst (prs (ps.drop i))) (upd mem j k lines (ps.take i) n):=by
 rw[← lP (ps:=ps) (n:=n) (ps':=ps.take i)]
 exact xW B F.gk (by exact lz) hi
theorem aBY(B:aC (bl pr w P s₁))(H:dD pr w P s₁)(F:Fst mem f j k room)(hz:ps.length≤900):aF (bl pr w P s₁) (h+1) (.ref 203) [.obj k] (upd mem j k lines ps n) (.int ps.length) (upd mem j k lines ps n):=(gW B H.2.2 F.gk (by exact lz)).call
theorem aAu(B:aC (bl pr w P s₁))(F:Fst mem f j k room)(hz:ps.length≤900):aF (bl pr w P s₁) (h+1) (.ref 188) [.obj k] (upd mem j k lines ps n) .none (upd mem j k lines [] 0):=by
 rw[← lP (ps:=ps) (n:=n) (ps':=[])]
 exact aBW B F.gk (by exact lz)
theorem aAv(B:aC (bl pr w P s₁))(F:Fst mem f j k room)(hz:ps.length+ps'.length≤900):aF (bl pr w P s₁) (h+1) (.ref 188) [.obj k,.lst (prs ps')] (upd mem j k lines ps n) .none (upd mem j k lines ps' 0):=by
 rw[← lP (ps:=ps) (n:=n) (ps':=ps')]
 exact aBV B F.gk (by exact lz)
theorem tM(B:aC (bl pr w P s₁))(F:Fst mem f j k room)(hn:0≤n∧n≤1000)(hz:total ps≤100000):aF (bl pr w P s₁) (h+2) (.builtin "len") [.obj k] (upd mem j k lines ps n) (.int (n+total ps)) (upd mem j k lines ps n):=
 xB B F.gk aCw aCy (qD B F.gk (by lia) (by exact lz)) (by lia) (by lia)
theorem aAw(B:aC (bl pr w P s₁))(F:Fst mem f j k room)(hz:total ps≤100000)(hl:ps.length≤900):aF (bl pr w P s₁) (h+2) (.type "str") [.obj k] (upd mem j k lines ps n) (.str (txtOf ps)) (upd mem j k lines ps n):=
 nD B F.gk aCx aCz (qE B F.gk (by exact lz) (by exact lz))
theorem qG(B:aC (bl pr w P s₁))(F:Fst mem f j k room)(hl:lines.length≤900):aF (bl pr w P s₁) h (.builtin "list.append") [.obj j,.str a] (upd mem j k lines ps n) .none (upd mem j k (lines++[a]) ps n):=by
 have e:(upd mem j k lines ps n).set j (.lst (lines.map .str++[.str a]))=upd mem j k (lines++[a]) ps n:=by rw[← F.uj (lines:=lines) (lines':=lines++[a]),FC];rfl
 rw[← e]
 exact kG B F.gj (by rw[BB];exact lz)
theorem qH(B:aC (bl pr w P s₁))(H:dD pr w P s₁)(F:Fst mem f j k room)(hn:0≤n∧n≤1000)(hz:total ps≤10000)(hl:lines.length≤800)(hp:ps.length≤800)
  (hc:(ps=[]∧0 < n)∨(∃(ps':AA (Str×Str)) (p:Str×Str),ps=ps'++[p]∧p≠((" " : Str),(⟨#[]⟩:Str))∧0 < n+total ps∧(n≠0∨YF (txtOf ps)=false))):
  aF (bl pr w P s₁) (h+5) (.ref 84) [.obj f] (upd mem j k lines ps n) .none (upd mem j k (lines++[txtOf ps]) [] 0):=by
 have back:∃(a c:Str) (p1:AA (Str×Str)) (qs:AA (Str×Str)),aF (bl pr w P s₁) 2 (.ref 166) [.obj k] (upd mem j k lines ps n) (.tup [.str a,.str c]) (upd mem j k lines p1 n)∧(!(a == (" " : Str) && c == ⟨#[]⟩))=true∧
   bS (bl pr w P s₁) 1 (.ref 150) [.obj k,.str a,.str c] [] [] (upd mem j k lines p1 n) .none (upd mem j k lines qs n)∧txtOf qs=txtOf ps∧total qs=total ps∧qs.length≤801∧0 < n+total ps∧(n≠0∨YF (txtOf ps)=false):=by
  rcases hc with ⟨rfl,h0⟩| ⟨ps',p,rfl,hp2,h0,h1⟩
  ·exact ⟨_,_,_,[(⟨#[]⟩,⟨#[]⟩)],aDD B H F,by decide,tK B F (by simp),by decide,rfl,by simp,by simpa [total] using h0,.inl (by lia)⟩
  ·refine ⟨p.1,p.2,_,ps'++[p],tL B H F (by simp at hp;exact lz),?_,tK B F (by simp at hp;exact lz),rfl,rfl,by exact lz,h0,h1⟩
   obtain ⟨p1,p2⟩:=p
   simp only[WE,Bool.and_eq_false_iff,beq_eq_false_iff_ne]
   by_cases e:p1=" "
   ·subst e;exact .inr fun e=>hp2 (by rw[e])
   ·exact .inl e
 refine o41 back fun a c p1 qs x0=>?_;clear back;refine o08 x0 fun c1 c2 c3 eq1 eq2 eq3 h0 h1=>?_;clear x0
 rw[← eq1]
 rw[← eq1] at h1
 rw[← eq2] at h0 hz
 refine DF (xs:=["self"]) (out:=.next) (loc':=[("self",.obj f),("end_of_line",.tup [.str a,.str c])]) (hbind:=bind1 fun x9=>rfl) ?_
 refine .cons (SA (MB (aA N (aB B F.gf rfl bL)) (bD B F.gk xR rfl) .nil c1)) ?_
 refine .cons (aO (.to (aD N (bV (.cons aG (.cons aG .nil)) (by simp)) yY) c2) (.cons (ES (xD B (aA N (aB B F.gf rfl bL)) F.gk rfl aDC N c3 (by lia) (by simp))) .nil)) ?_
 refine .cons (aO (.to (aD (CX fJ (.cons (aA N (aB B F.gf rfl bL)) .nil) (tM (h:=0) B F hn (by exact lz))) aH cH) (decide_eq_true h0)) (.cons (aK (.to (aQ (aY (aJ (MB (aA N (aB B F.gf rfl bL)) (bD B F.gk aEJ rfl) .nil (aEP (h:=0) B F.gk ?_ ?_ ?_ ?_)) aM))) rfl) (.cons (ES (MB (aA N (aB B F.gf rfl oW)) (gB (.obj F.gj)) (.cons (CX jJ (.cons (aA N (aB B F.gf rfl bL)) .nil) (aAw (h:=0) B F (by exact lz) (by exact lz))) .nil) (qG (h:=0) B F (by exact lz)))) .nil)) .nil)) ?_
 ·lia
 ·exact lz
 ·exact lz
 ·rcases h1 with h1|h1
  ·exact .inl h1
  ·by_cases e:n=0
   ·exact .inr ⟨by lia,h1⟩
   ·exact .inl e
 exact .cons (ES (MB (aA N (aB B F.gf rfl bL)) (bD B F.gk vW rfl) .nil (aAu (h:=0) B F (by exact lz)))) .nil
end
noncomputable def hitAt(ps:AA (Str×Str))(cc i:Nat):NB:=(cc == 32 && firstIs (ps.getD i default).1 cc) || lastIs (ps.getD (i - 1) default).2 cc
noncomputable def placeOf(ps:AA (Str×Str)):YA Nat:=(lastHit (hitAt ps 44) (ps.length - 1)).or (lastHit (hitAt ps 32) (ps.length - 1))
theorem xZ{ps:AA (Str×Str)}{i:Nat}(h:placeOf ps=some i):i≤ps.length:=by
 unfold placeOf at h
 cases h1:lastHit (hitAt ps 44) (ps.length - 1) with
 | some j=>rw[h1] at h;replace h:=si h;subst h;have:=(cL h1).2.1;lia
 | none=>rw[h1] at h;have:=(cL (show lastHit (hitAt ps 32) (ps.length - 1)=some i from h)).2.1;lia
structure FS where
 lines:AA Str
 ps:AA (Str×Str)
 n:Int
noncomputable def chunkF(room:Int)(st:FS)(a c:Str):FS:=
 if st.n+total (st.ps++[(a,c)]) > room then
  match placeOf (st.ps++[(a,c)]) with
  | some i=>⟨st.lines++[txtOf ((st.ps++[(a,c)]).take i)],(st.ps++[(a,c)]).drop i,0⟩
  | none=>if st.n > 0 then ⟨st.lines++[txtOf st.ps],[(if a=⟨#[]⟩ then " " else a,c)],0⟩ else ⟨st.lines,st.ps++[(a,c)],st.n⟩
 else ⟨st.lines,st.ps++[(a,c)],st.n⟩
theorem Fst.more{mem:AA AO}{f j k:Nat}{room:Int}(F:Fst mem f j k room)(o:AO):Fst (mem++[o]) f j k room where
 hf:=by
  obtain ⟨hi,_⟩:=List.getElem?_eq_some_iff.mp F.hf
  rw[CC hi];exact F.hf
 hj:=by have:=F.hj;simp;lia
 hk:=by have:=F.hk;simp;lia
 fj:=F.fj
 fk:=F.fk
 jk:=F.jk
theorem Fst.upd_more{mem:AA AO}{f j k:Nat}{room n:Int}{lines:AA Str}{ps:AA (Str×Str)}(F:Fst mem f j k room)(o:AO):upd (mem++[o]) j k lines ps n=upd mem j k lines ps n++[o]:=by
 unfold upd
 rw[List.set_append_left _ _ F.hj,List.set_append_left _ _ (by rw[List.length_set];exact F.hk)]
theorem bF{mem:AA AO}{j k:Nat}{n:Int}{lines:AA Str}{ps:AA (Str×Str)}:(upd mem j k lines ps n).length=mem.length:=by unfold upd;simp
theorem qI{n:Nat}:∀(l:AA (Str×Str)),AV.underL n (prs l)=true
 | []=>rfl
 | x :: l=>by
  show AV.underL n (.tup [.str x.1,.str x.2] :: prs l)=true
  unfold AV.underL;rw[qI l];rfl
theorem kR{mem:AA AO}{j k:Nat}{n:Int}{lines:AA Str}{ps:AA (Str×Str)}(u:∀o∈mem,o.under mem.length=true):∀o∈upd mem j k lines ps n,o.under (upd mem j k lines ps n).length=true:=fun o ho=>by
 rw[bF]
 unfold upd at ho
 rcases List.mem_or_eq_of_mem_set ho with ho|rfl
 ·rcases List.mem_or_eq_of_mem_set ho with ho|rfl
  ·exact u o ho
  ·exact bE lines
 ·show AO.under mem.length (.inst 206 (some (prs ps)) [(("_initial_size" : Str),.int n)])=true
  simp only[AO.under,VA]
  exact ⟨qI ps,rfl⟩
theorem vY{ps:AA (Str×Str)}{i:Nat}(h:i < ps.length):ps[i]?= some (ps.getD i default)∧(prs ps)[i]?= some (.tup [.str (ps.getD i default).1,.str (ps.getD i default).2]):=by
 have e:ps[i]?= some (ps.getD i default):=by rw[XC,EB h];rfl
 exact ⟨e,by unfold prs;rw[FE,e];rfl⟩
theorem aAx{ps:AA (Str×Str)}{cc i:Nat}{v:NB}(hc:cc=44)(hh:hitAt ps cc i=v):lastIs (ps.getD (i - 1) default).2 cc=v:=by subst hc;simpa [hitAt] using hh
theorem aAy{ps:AA (Str×Str)}{cc i:Nat}{v:NB}(hc:cc=32)(hh:hitAt ps cc i=v):(firstIs (ps.getD i default).1 cc || lastIs (ps.getD (i - 1) default).2 cc)=v:=by subst hc;simpa [hitAt] using hh
theorem aCA{cc:Nat}(hc:cc=44):YF ⟨#[cc]⟩=false:=by subst hc;decide +kernel
theorem yA{cc:Nat}(hc:cc=32):YF ⟨#[cc]⟩=true:=by subst hc;decide +kernel
theorem aAz{ps:AA (Str×Str)}{n:Int}(hn:n > 0)(hne:∀p∈ps,p.2≠⟨#[]⟩):(ps=[]∧0 < n)∨(∃(ps':AA (Str×Str)) (p:Str×Str),ps=ps'++[p]∧p≠((" " : Str),(⟨#[]⟩:Str))∧0 < n+total ps∧(n≠0∨YF (txtOf ps)=false)):=by
 rcases List.eq_nil_or_concat ps with e|⟨ps',p,e⟩
 ·exact .inl ⟨e,hn⟩
 ·exact .inr ⟨ps',p,e.trans List.concat_eq_append,fun q=>hne p (e▸List.concat_eq_append▸List.mem_append_right _ (HA.mpr rfl)) (q▸rfl),by lia,.inl (by lia)⟩
section
variable {pr:RC}{w:HD}{P:IB}{s₁:CA}{h:Nat}{mem:AA AO}{f j k:Nat}{room n:Int}{lines:AA Str}{ps:AA (Str×Str)}{a c:Str}
set_option maxHeartbeats 1000000 in
theorem aDE(B:aC (bl pr w P s₁))(H:dD pr w P s₁)(F:Fst mem f j k room)(u:∀o∈mem,o.under mem.length=true)(hn:0≤n∧n≤1000)(hz:total (ps++[(a,c)])≤10000)(hl:lines.length≤700)(hp:ps.length≤700)(hne:∀p∈ps,p.2≠⟨#[]⟩):
  aF (bl pr w P s₁) (h+6) (.ref 119) [.obj f,.str a,.str c] (upd mem j k lines ps n) .none (upd mem j k (chunkF room ⟨lines,ps,n⟩ a c).lines (chunkF room ⟨lines,ps,n⟩ a c).ps (chunkF room ⟨lines,ps,n⟩ a c).n):=by
 refine DX (xs:=["self","fws","string"]) (hbind:=bind3 fun x9 x9 x9=>rfl) ?_
 refine lJ (ES (MB (aA N (aB B F.gf rfl bL)) (bD B F.gk tH rfl) (.cons N (.cons N .nil)) (oX (h:=0) B F (GA hp (by decide))))) ?_
 by_cases hroom:n+total (ps++[(a,c)]) > room
 ·refine aEw (.to (aD (CX fJ (.cons (aA N (aB B F.gf rfl bL)) .nil) (tM (h:=0) B F hn (GA hz (by decide)))) (aA N (aB B F.gf rfl tJ)) cH) (decide_eq_true hroom)) ?_
  have hpl:(ps++[(a,c)]).length=ps.length+1:=by simp
  have hNl:((ps++[(a,c)]).length:Int) - 1=(((ps++[(a,c)]).length - 1:Nat):Int):=(Int.ofNat_sub (hpl▸EH (Nat.zero_le _))).symm
  have hfl:f < (upd mem j k lines (ps++[(a,c)]) n).length:=by rw[bF];exact (List.getElem?_eq_some_iff.mp F.hf).1
  have hsz:∀p∈ps++[(a,c)],p.1.length≤1000000∧p.2.length≤1000000:=fun p hp=>have q:=GA (hY hp) (GA hz (by decide));⟨GA (GH _ _) q,GA (BI _ _) q⟩
  have h9:(ps++[(a,c)]).length≤900:=hpl▸GA (EH hp) (by decide)
  have hlt:(ps++[(a,c)]).length - 1 < (ps++[(a,c)]).length:=hpl▸Nat.lt_succ_self _
  have hb1:(prs (ps++[(a,c)])).length≤1000000:=by rw[bZ];exact GA h9 (by decide)
  have hp9:ps.length≤900:=GA hp (by decide)
  have hl9:lines.length≤900:=GA hl (by decide)
  have at2:∀i,1≤i→i≤(ps++[(a,c)]).length - 1→(ps++[(a,c)])[i]?= some ((ps++[(a,c)]).getD i default)∧(prs (ps++[(a,c)]))[i]?= some (.tup [.str ((ps++[(a,c)]).getD i default).1,.str ((ps++[(a,c)]).getD i default).2])∧(i:Int) - 1=((i - 1:Nat):Int)∧
    (prs (ps++[(a,c)]))[i - 1]?= some (.tup [.str ((ps++[(a,c)]).getD (i - 1) default).1,.str ((ps++[(a,c)]).getD (i - 1) default).2])∧((ps++[(a,c)]).getD i default).1.length≤1000000∧((ps++[(a,c)]).getD (i - 1) default).2.length≤1000000:=fun i h1 h2=>by
   refine o02 (vY (ps:=ps++[(a,c)]) (i:=i) (Nat.lt_of_le_of_lt h2 hlt)) fun gi gi'=>?_
   refine o02 (vY (ps:=ps++[(a,c)]) (i:=i - 1) (Nat.lt_of_le_of_lt (GA (Nat.sub_le _ _) h2) hlt)) fun gp gp'=>?_
   exact ⟨gi,gi',(Int.ofNat_sub h1).symm,gp',(hsz _ (LB gi)).1,(hsz _ (LB gp)).2⟩
  refine aEy (L0:=[("self",.obj f),("string",.str c)]) (Lb:=fun i=>[("self",.obj f),("i",.int (i:Int))]) (hit:=hitAt (ps++[(a,c)])) (N:=(ps++[(a,c)]).length - 1) (aA N (aB B F.gf rfl vX)) B ⟨fun x9=>rfl,fun x9=>rfl,fun x9=>rfl,fun x9=>rfl⟩ (fun x9=>.loc rfl rfl) rfl (fun cc hcc=>?_) (dF (by intro p hp;simp only[NA,GB,QD] at hp;rcases hp with rfl|rfl <;> rfl)) (fun i hi=>?_) (fun hi=>?_)
  ·
   have F':=F.more (.rng (((ps++[(a,c)]).length - 1:Nat):Int) 0 (-1))
   have hu:AV.underL (upd mem j k lines (ps++[(a,c)]) n).length [.obj f]=true:=by simp[AV.underL,AV.under,hfl]
   refine xF (t:=.Name "i" _) (M:=upd mem j k lines (ps++[(a,c)]) n) (N:=(ps++[(a,c)]).length - 1) (Lb:=fun i=>[("self",.obj f),("i",.int (i:Int))]) (L0:=[("self",.obj f),("string",.str c)]) B ?_ (GA (Nat.sub_le _ _) (GA h9 (by decide))) (kR u) ?_ (fun i=>?_)
    (dF (by intro p hp;simp only[NA,GB,QD] at hp;rcases hp with rfl|rfl <;> rfl)) (fun i h1 h2 hh=>?_) (fun i h1 h2 hh=>?_)
   ·exact CX oS (.cons (.to (aV (MB (aA N (aB B F.gf rfl bL)) (bD B F.gk oV rfl) .nil (aBY (h:=0) B H F h9)) aH eU) (by rw[hNl])) (.cons aH (.cons (fU aH) .nil))) (zF (by decide) rfl)
   ·simp[AV.underL,AV.under,hfl]
   ·simp[AV.underL,AV.under,hfl]
   ·rw[← F.upd_more]
    refine o06 (at2 i h1 h2) fun gi gi' gp gp' z1 z2=>?_
    rcases hcc with hc|hc
    ·have hl':=aAx hc hh
     exact ⟨_,_,AN,aI.weak (.cons (aK (.to (aJ (MB N eF .nil eG) aM) (aCA hc)) .nil) (.cons (SA (bP (bP (aA N (aB B F'.gf rfl bL)) (aV N aH eU) (gR B F'.gk cS iA hb1 gp gp')) aH (jC (k:=1) (by simp) (by rfl) rfl))) (.cons (aK (.to (lI ⟨fun x9=>rfl,fun x9=>rfl,fun x9=>rfl,fun x9=>rfl⟩ rfl rfl z2 (fun x9=>rfl) (fun x9=>rfl) (fun x9=>rfl) (fun x9=>rfl) (by decide) (by decide)) hl') .nil) .nil))) (dF (by intro p hp;rcases NA.mp hp with rfl|hp;rfl;rcases NA.mp hp with rfl|hp;rfl;rcases NA.mp hp with rfl|hp;rfl;cases hp))⟩
    ·have hh':=Bool.or_eq_false_iff.mp (aAy hc hh)
     refine o02 hh' fun hf' hl'=>?_;clear hh'
     exact ⟨_,_,AN,aI.weak (.cons (aO (.to (aJ (MB N eF .nil eG) aM) (yA hc)) (.cons (SA (bP (bP (aA N (aB B F'.gf rfl bL)) N (gR B F'.gk cS iA hb1 rfl gi')) aH (jC (k:=0) (by simp) (by rfl) rfl))) (.cons (aK (.to (oN ⟨fun x9=>rfl,fun x9=>rfl,fun x9=>rfl,fun x9=>rfl⟩ rfl rfl z1 (fun x9=>rfl) (fun x9=>rfl) (fun x9=>rfl) (fun x9=>rfl) (by decide) (by decide)) hf') .nil) .nil))) (.cons (SA (bP (bP (aA N (aB B F'.gf rfl bL)) (aV N aH eU) (gR B F'.gk cS iA hb1 gp gp')) aH (jC (k:=1) (by simp) (by rfl) rfl))) (.cons (aK (.to (lI ⟨fun x9=>rfl,fun x9=>rfl,fun x9=>rfl,fun x9=>rfl⟩ rfl rfl z2 (fun x9=>rfl) (fun x9=>rfl) (fun x9=>rfl) (fun x9=>rfl) (by decide) (by decide)) hl') .nil) .nil))) (dF (by intro p hp;rcases NA.mp hp with rfl|hp;rfl;rcases NA.mp hp with rfl|hp;rfl;rcases NA.mp hp with rfl|hp;rfl;cases hp))⟩
   ·rw[← F.upd_more]
    refine o06 (at2 i h1 h2) fun gi gi' gp gp' z1 z2=>?_
    rcases hcc with hc|hc
    ·have hl':=aAx hc hh
     exact ⟨_,_,AN,aI.weak (.cons (aK (.to (aJ (MB N eF .nil eG) aM) (aCA hc)) .nil) (.cons (SA (bP (bP (aA N (aB B F'.gf rfl bL)) (aV N aH eU) (gR B F'.gk cS iA hb1 gp gp')) aH (jC (k:=1) (by simp) (by rfl) rfl))) (.stop (aO (.to (lI ⟨fun x9=>rfl,fun x9=>rfl,fun x9=>rfl,fun x9=>rfl⟩ rfl rfl z2 (fun x9=>rfl) (fun x9=>rfl) (fun x9=>rfl) (fun x9=>rfl) (by decide) (by decide)) hl') (.stop eV (by simp))) (by simp)))) (dF (by intro p hp;simp only[NA,GB,QD] at hp;rcases hp with rfl|rfl <;> rfl))⟩
    ·have hh':=aAy hc hh
     cases hf':firstIs ((ps++[(a,c)]).getD i default).1 cc with
     | true=>exact ⟨_,_,AN,aI.weak (.stop (aO (.to (aJ (MB N eF .nil eG) aM) (yA hc)) (.cons (SA (bP (bP (aA N (aB B F'.gf rfl bL)) N (gR B F'.gk cS iA hb1 rfl gi')) aH (jC (k:=0) (by simp) (by rfl) rfl))) (.stop (aO (.to (oN ⟨fun x9=>rfl,fun x9=>rfl,fun x9=>rfl,fun x9=>rfl⟩ rfl rfl z1 (fun x9=>rfl) (fun x9=>rfl) (fun x9=>rfl) (fun x9=>rfl) (by decide) (by decide)) hf') (.stop eV (by simp))) (by simp)))) (by simp)) (dF (by intro p hp;simp only[NA,GB,QD] at hp;rcases hp with rfl|rfl <;> rfl))⟩
     | false=>
      have hl':lastIs ((ps++[(a,c)]).getD (i - 1) default).2 cc=true:=by rw[hf'] at hh';exact hh'
      exact ⟨_,_,AN,aI.weak (.cons (aO (.to (aJ (MB N eF .nil eG) aM) (yA hc)) (.cons (SA (bP (bP (aA N (aB B F'.gf rfl bL)) N (gR B F'.gk cS iA hb1 rfl gi')) aH (jC (k:=0) (by simp) (by rfl) rfl))) (.cons (aK (.to (oN ⟨fun x9=>rfl,fun x9=>rfl,fun x9=>rfl,fun x9=>rfl⟩ rfl rfl z1 (fun x9=>rfl) (fun x9=>rfl) (fun x9=>rfl) (fun x9=>rfl) (by decide) (by decide)) hf') .nil) .nil))) (.cons (SA (bP (bP (aA N (aB B F'.gf rfl bL)) (aV N aH eU) (gR B F'.gk cS iA hb1 gp gp')) aH (jC (k:=1) (by simp) (by rfl) rfl))) (.stop (aO (.to (lI ⟨fun x9=>rfl,fun x9=>rfl,fun x9=>rfl,fun x9=>rfl⟩ rfl rfl z2 (fun x9=>rfl) (fun x9=>rfl) (fun x9=>rfl) (fun x9=>rfl) (by decide) (by decide)) hl') (.stop eV (by simp))) (by simp)))) (dF (by intro p hp;simp only[NA,GB,QD] at hp;rcases hp with rfl|rfl <;> rfl))⟩
  ·
   have hple:=xZ (ps:=ps++[(a,c)]) hi
   have e:chunkF room ⟨lines,ps,n⟩ a c=⟨lines++[txtOf ((ps++[(a,c)]).take i)],(ps++[(a,c)]).drop i,0⟩:=by
    unfold chunkF
    rw[OB hroom]
    show (match placeOf (ps++[(a,c)]) with|some i=>_|none=>_)=_
    rw[show placeOf (ps++[(a,c)])=some i from hi]
   rw[e]
   have ht1:total ((ps++[(a,c)]).take i)≤10000:=GA (jF _ _) hz
   refine lJ (SA (MB (aA N (aB B F.gf rfl bL)) (bD B F.gk xQ rfl) (.cons N .nil) (vB (h:=0) B F h9 hple))) ?_
   refine lJ (ES (MB (aA N (aB B F.gf rfl oW)) (gB (.obj F.gj)) (.cons (CX jJ (.cons (aA N (aB B F.gf rfl bL)) .nil) (aAw (h:=0) B F (GA ht1 (by decide)) (ltk h9))) .nil) (qG (h:=0) B F hl9))) ?_
   refine lJ (ES (MB (aA N (aB B F.gf rfl bL)) (bD B F.gk vW rfl) (.cons N .nil) (aAv (h:=0) B F (GA (DE ((PA).symm.trans (RB List.length (JC i _)))) h9)))) ?_
   exact zZ
  ·
   have hno:placeOf (ps++[(a,c)])=none:=hi
   have za:a.length≤1000000:=(hsz (a,c) (by simp)).1
   have htp:total ps≤10000:=by have h1:=jF (ps++[(a,c)]) ps.length;rw[List.take_left' rfl] at h1;exact GA h1 hz
   by_cases hn0:n > 0
   ·have e:chunkF room ⟨lines,ps,n⟩ a c=⟨lines++[txtOf ps],[(if a=⟨#[]⟩ then " " else a,c)],0⟩:=by
     unfold chunkF
     rw[OB hroom]
     show (match placeOf (ps++[(a,c)]) with|some i=>_|none=>_)=_
     rw[hno]
     exact OB hn0
    rw[e]
    have nl:=qH (h:=0) (lines:=lines) B H F hn htp (GA hl (by decide)) (GA hp (by decide)) (aAz hn0 hne)
    refine ⟨_,.cons (cD (MB (aA N (aB B F.gf rfl bL)) (bD B F.gk xR rfl) .nil (tL (h:=0) B H F hp9)) (eE (bB AN (bB AN dO)))) (.cons (loc':=[("self",.obj f),("string",.str c),("fws",.str (if a=⟨#[]⟩ then " " else a)),("part",.str c)]) (aO (.to (aD (aA (aA N (aB B F.gf rfl bL)) (aB B F.gk rfl kQ)) aH cH) (decide_eq_true hn0)) (.cons (ES (MB N (bD B F.gf qF rfl) .nil nl)) ?_)) (.cons (ES (MB (aA N (aB B F.gf rfl bL)) (bD B F.gk tH rfl) (.cons N (.cons N .nil)) (oX (h:=0) (lines:=lines++[txtOf ps]) (ps:=[]) (n:=0) B F (by simp)))) (.stop rO (by simp)))),by rw[bF,bF]⟩
    by_cases ha:a=⟨#[]⟩
    ·rw[OB ha]
     exact .cons (aO (.to (bR (aJ N (aU za))) (by simp[ha])) (.cons (SA aG) .nil)) .nil
    ·rw[AB ha]
     exact .cons (aK (.to (bR (aJ N (aU za))) (by simp[ha])) .nil) .nil
   ·have e:chunkF room ⟨lines,ps,n⟩ a c=⟨lines,ps++[(a,c)],n⟩:=by
     unfold chunkF
     rw[OB hroom]
     show (match placeOf (ps++[(a,c)]) with|some i=>_|none=>_)=_
     rw[hno]
     exact AB hn0
    rw[e]
    exact ⟨_,.cons (cD (MB (aA N (aB B F.gf rfl bL)) (bD B F.gk xR rfl) .nil (tL (h:=0) B H F hp9)) (eE (bB AN (bB AN dO)))) (.cons (aK (.to (aD (aA (aA N (aB B F.gf rfl bL)) (aB B F.gk rfl kQ)) aH cH) (decide_eq_false hn0)) .nil) (.cons (ES (MB (aA N (aB B F.gf rfl bL)) (bD B F.gk tH rfl) (.cons N (.cons N .nil)) (oX (h:=0) B F (GA hp (by decide))))) (.stop rO (by simp)))),rfl⟩
 ·refine aEx (.to (aD (CX fJ (.cons (aA N (aB B F.gf rfl bL)) .nil) (tM (h:=0) B F hn (GA hz (by decide)))) (aA N (aB B F.gf rfl tJ)) cH) (decide_eq_false hroom)) ?_
  have e:chunkF room ⟨lines,ps,n⟩ a c=⟨lines,ps++[(a,c)],n⟩:=AB hroom
  rw[e]
  exact zZ
variable {b:Bs}{F:EA→Env}{loc at_:AA (Str×AV)}{rest rest':AA AO}{v:AV}{e1 o:Expr}{pos p2:Pos}{C:EA}{sq:YA (AA AV)}{name:Str}
theorem gM(mem:AA AO)(o:AO)(rest:AA AO):(mem++o :: rest)[mem.length]?= some o:=by simp
theorem vZ(mem:AA AO)(o o':AO)(rest:AA AO):(mem++o :: rest).set mem.length o'=mem++o' :: rest:=by simp
theorem aAA{o:AO}:aE b h F (.List [] pos) loc (mem++[o]) (.obj (mem.length+1)) (mem++[o,.lst []]):=by
 have e:=oH (b:=b) (h:=h) (vs:=[]) (es:=[]) (pos:=pos) (F:=F) (loc:=loc) (mem:=mem++[o]) .nil (by simp)
 rw[WC,PA] at e
 exact e
theorem cN(x:aE b h F e1 loc (mem++.inst C sq at_ :: rest) v (mem++.inst C sq at_ :: rest'))(y:aE b h F o loc (mem++.inst C sq at_ :: rest') (.obj mem.length) (mem++.inst C sq at_ :: rest'))(ht:takesOwn b.K C name=true)(hz:DA (at_.length≤1000) q17)
  (hs:DA (∀L,swapsWith e1 (some (.Attribute o name p2)) pos.line (F L)=pure false) q8) (B:DA (aC b) q11):aL b h F (.Assign [.Attribute o name p2] e1 pos) loc (mem++.inst C sq at_ :: rest) .next loc (mem++.inst C sq (putL name v at_) :: rest'):=by
 rw[← vZ mem (.inst C sq at_) (.inst C sq (putL name v at_)) rest']
 exact dI B x y (gM ..) ht hz hs
end
theorem bind5{fd:BD}{x y z u t:Str}(h:∀a c d g i,TD fd ⟨[a,c,d,g,i],[]⟩=pure [(x,a),(y,c),(z,d),(u,g),(t,i)]):∀mvs:AA BA,mvs.length=5→TD fd ⟨mvs,[]⟩=pure ([x,y,z,u,t].zip mvs):=fun mvs e=>by
 refine o22 (L0 e) fun a t x0 e1=>?_;subst x0;refine o41 (L4 e1) fun c d g i x0=>?_;subst x0;exact h a c d g i
section
variable {pr:RC}{w:HD}{P:IB}{s₁:CA}{h:Nat}{mem:AA AO}{k:Nat}{room n:Int}
theorem aAB(B:aC (bl pr w P s₁))(H:dD pr w P s₁):bS (bl pr w P s₁) (h+4) (.ref 63) [.obj mem.length,.int n,.int room,.str " ",.str ", "] [] [] (mem++[.inst 122 none []]) .none (mem++[fmO room (mem.length+1) (mem.length+2),.lst [],accO [] n]):=by
 refine DG (xs:=["self","headerlen","maxlen","continuation_ws","splitchars"]) (vs:=[.obj mem.length,.int n,.int room,.str " ",.str ", "]) (out:=.next) (loc':=[("self",.obj mem.length),("headerlen",.int n),("maxlen",.int room),("continuation_ws",.str " "),("splitchars",.str ", ")]) ?hb ?_
 case hb=>exact .pure (bind5 fun x9 x9 x9 x9 x9=>rfl)
 refine .cons (cN (rest':=[]) N N aGH) ?_
 refine .cons (cN (rest':=[]) N N aGI) ?_
 refine .cons (cN (rest':=[]) (CX fJ (.cons N .nil) (k:=0) (fD (by decide))) N aGJ) ?_
 refine .cons (cN (rest':=[]) N N aGK) ?_
 refine .cons (cN (rest':=[.lst []]) (v:=.obj (mem.length+1)) ?_ N aGL) ?_
 ·exact aAA (mem:=mem) (o:=.inst 122 none [(("_maxlen" : Str),.int room),("_continuation_ws",.str " "),("_continuation_ws_len",.int 1),("_splitchars",.str ", ")])
 refine .cons (cN (rest':=[.lst [],accO [] n]) (v:=.obj (mem.length+2)) ?_ N aGM) ?_
 ·have e:=aAt (h:=h) (n:=n) (mem:=mem++[.inst 122 none [(("_maxlen" : Str),.int room),("_continuation_ws",.str " "),("_continuation_ws_len",.int 1),("_splitchars",.str ", "),("_lines",.obj (mem.length+1))],.lst []]) B H.1
  rw[WC,PA] at e
  exact CX rG (.cons N .nil) e
 exact .nil
theorem aBZ(B:aC (bl pr w P s₁))(H:dD pr w P s₁):aF (bl pr w P s₁) (h+5) (.ref 122) [.int n,.int room,.str " ",.str ", "] mem (.obj mem.length) (mem++[fmO room (mem.length+1) (mem.length+2),.lst [],accO [] n]):=
 (pP B aDB aER aFU (aAB B H)).call
end
noncomputable def feedF(room:Int):AA (Str×Str)→FS→FS
 | [],st=>st
 | x :: l,st=>feedF room l (chunkF room st x.1 x.2)
noncomputable def TF(p0:Str)(rows:AA (Str×Str)):AA (Str×Str):=if p0=⟨#[]⟩ then rows else (⟨#[]⟩,p0) :: rows
noncomputable def weigh:AA (Str×Str)→Nat
 | []=>0
 | x :: l=>x.1.length+x.2.length+1+weigh l
structure FOk(st:FS)(l:AA (Str×Str)):Prop where
 n0:0≤st.n
 n1:st.n≤1000
 tot:total st.ps+weigh l≤10000
 lin:st.lines.length+l.length≤700
 num:st.ps.length+l.length≤700
 ne:∀p∈st.ps,p.2≠⟨#[]⟩
 nl:∀p∈l,p.2≠⟨#[]⟩
theorem aAC(x:Str×Str):total [x]=x.1.length+x.2.length:=by simp[total]
theorem nO(ps:AA (Str×Str))(x:Str×Str):total (ps++[x])=total ps+(x.1.length+x.2.length):=by simp[total]
theorem yB(ps:AA (Str×Str))(n:Nat):total (ps.drop n)≤total ps:=by
 have h:total (ps.take n)+total (ps.drop n)=total ps:=by
  conv=>rhs;rw[← JC n ps]
  simp only[total,FC,OG]
 lia
theorem FOk.step{room:Int}{st:FS}{x:Str×Str}{l:AA (Str×Str)}(q:FOk st (x :: l)):FOk (chunkF room st x.1 x.2) l:=by
 obtain ⟨n0,n1,tot,lin,num,ne,nl⟩:=q
 have nl':∀p∈l,p.2≠⟨#[]⟩:=fun p hp=>nl p (VH _ hp)
 have hx:x.2≠⟨#[]⟩:=nl x (by simp)
 have ne':∀p∈st.ps++[(x.1,x.2)],p.2≠⟨#[]⟩:=fun p hp=>by
  rcases mam hp with h|h
  ·exact ne p h
  ·rw[HA] at h;subst h;exact hx
 have t1:=nO st.ps (x.1,x.2)
 simp only[weigh,UA] at tot lin num
 unfold chunkF
 split
 ·split
  ·rename_i i hi
   have t2:=yB (st.ps++[(x.1,x.2)]) i
   refine ⟨Int.le_refl _,by simp,by simp only at t1 ⊢;lia,by simp;lia,?_,fun p hp=>ne' p (HF hp),nl'⟩
   simp;lia
  ·split
   ·refine ⟨Int.le_refl _,by simp,?_,by simp;lia,by simp;lia,fun p hp=>?_,nl'⟩
    ·show total [_]+_≤_
     rw[aAC]
     by_cases ha:x.1=⟨#[]⟩
     ·rw[OB ha];show (" " : Str).length+x.2.length+_≤_;rw[show (" " : Str).length=1 from rfl];lia
     ·rw[AB ha];show x.1.length+x.2.length+_≤_;lia
    ·rw[HA] at hp;subst hp;exact hx
   ·exact ⟨n0,n1,by simp only at t1 ⊢;lia,by simp;lia,by simp;lia,ne',nl'⟩
 ·exact ⟨n0,n1,by simp only at t1 ⊢;lia,by simp;lia,by simp;lia,ne',nl'⟩
theorem FOk.feed{room:Int}:∀{l r:AA (Str×Str)}{st:FS},FOk st (l++r)→FOk (feedF room l st) r
 | [],r,st,q=>q
 | x :: l,r,st,q=>FOk.feed (l:=l) (q.step)
theorem tN:∀l:AA (Str×Str),twos ((partsR l).map .str)=prs l
 | []=>rfl
 | x :: l=>by show AV.tup [.str x.1,.str x.2] :: twos ((partsR l).map .str)=_;rw[tN l];rfl
theorem jN:∀l:AA (Str×Str),(partsR l).length=2 * l.length
 | []=>rfl
 | x :: l=>by show (partsR l).length+1+1=_;rw[jN l,UA];lia
theorem gJ{n:Nat}:∀l:AA Str,AV.underL n (l.map .str)=true
 | []=>rfl
 | x :: l=>by show AV.underL n (.str x :: l.map .str)=true;unfold AV.underL;rw[gJ l];rfl
section
variable {pr:RC}{w:HD}{P:IB}{s₁:CA}{h:Nat}{mem:AA AO}{f j k:Nat}{room n:Int}{lines:AA Str}{ps:AA (Str×Str)}{a c x y p0:Str}{rows:AA (Str×Str)}
theorem aCB:reIn (Hd.KL P) 49:=⟨_,_,48,_,_,_,rfl,rfl,rfl,rfl,rfl,rfl,rfl,rfl,rfl,by kernel_rfl⟩
noncomputable abbrev updF(mem:AA AO)(j k:Nat)(st:FS):AA AO:=upd mem j k st.lines st.ps st.n
theorem aCa(B:aC (bl pr w P s₁))(H:dD pr w P s₁)(F:Fst mem f j k room)(u:∀o∈mem,o.under mem.length=true){st:FS}{l:AA (Str×Str)}(q:FOk st ((a,c) :: l)):
  aF (bl pr w P s₁) (h+6) (.ref 119) [.obj f,.str a,.str c] (updF mem j k st) .none (updF mem j k (chunkF room st a c)):=by
 have t:=q.tot
 have l1:=q.lin
 have l2:=q.num
 simp only[weigh,UA] at t l1 l2
 exact aDE B H F u ⟨q.n0,q.n1⟩ (by rw[nO];show total st.ps+(a.length+c.length)≤_;lia) (by lia) (by lia) q.ne
theorem tO(B:aC (bl pr w P s₁))(H:dD pr w P s₁)(F:Fst mem f j k room)(u:∀o∈mem,o.under mem.length=true){N:Nat}(hN:N=mem.length){G:EA→Env}{t:Expr}{body:AA VD}{loc0:AA (Str×AV)}
  (turn:∀(st st':FS) (a c:Str),aF (bl pr w P s₁) (h+6) (.ref 119) [.obj f,.str a,.str c] (updF mem j k st) .none (updF mem j k st')→∃loc1,cR (bl pr w P s₁) (h+6) G t (.tup [.str a,.str c]) loc0 (updF mem j k st) loc1 (updF mem j k st)∧aI (bl pr w P s₁) (h+6) G body loc1 (updF mem j k st) .next loc0 (updF mem j k st')):
  ∀(l r:AA (Str×Str)) (st:FS),FOk st (l++r)→bQ (bl pr w P s₁) (h+6) G t body (fun x9=>True) N (prs l) loc0 (updF mem j k st) .next loc0 (updF mem j k (feedF room l st))
 | [],r,st,q=>.nil trivial (hN▸bF)
 | (a,c) :: l,r,st,q=>by
  refine o12 (turn st (chunkF room st a c) a c (aCa B H F u q)) fun loc1 t1 t2=>?_
  exact .next trivial (hN▸bF) t1 t2 (tO B H F u hN turn l r (chunkF room st a c) q.step)
noncomputable def textR(p0:Str)(rows:AA (Str×Str)):AA Nat:=p0.cps.toList++flatR rows
theorem aDF(B:aC (bl pr w P s₁))(H:dD pr w P s₁)(F:Fst mem f j k room)(u:∀o∈mem,o.under mem.length=true){st:FS}{r:AA (Str×Str)}(q:FOk st (TF p0 rows++r))(hx:(x++y).cps.toList=textR p0 rows)(hz:(x++y).cps.size≤10000)(hxy:x.length+y.length≤1000000)(hr:rows.length≤(x++y).cps.size)
  (h1:noWs p0) (h2:rowsOk rows):aF (bl pr w P s₁) (h+7) (.ref 112) [.obj f,.str x,.str y,.str ", "] (updF mem j k st) .none (updF mem j k (feedF room (TF p0 rows) st)):=by
 have hlen:(updF mem j k st).length=mem.length:=bF
 have hfl:f < mem.length:=(List.getElem?_eq_some_iff.mp F.hf).1
 have g0:(updF mem j k st++[AO.lst ((p0 :: partsR rows).map .str)])[mem.length]?= some (.lst ((p0 :: partsR rows).map .str)):=by rw[OA (DE hlen),hlen,VB];rfl
 have hset:∀o,(updF mem j k st++[AO.lst ((p0 :: partsR rows).map .str)]).set mem.length o=updF mem j k st++[o]:=fun o=>by rw[← hlen,WD _ _ (MA _),VB];rfl
 have hpl:=jN rows
 have cv:=uS (h:=h+6) (mem:=updF mem j k st) B (aCB (P:=P)) (x:=x++y) (p0:=p0) (rows:=rows) hx (by exact lz) (by lia) h1 h2 hr
 rw[hlen] at cv
 have hp0:p0.length≤10000:=by
  have:=RB List.length hx
  unfold textR at this
  rw[PA,QA,QA] at this
  show p0.cps.size≤_
  lia
 refine aF.trim (junk:=[.dead]) ?_ (by rw[hlen,bF];exact MA _) rfl (kR u)
 refine DF (xs:=["self","fws","string","splitchars"]) (out:=.next) (loc':=[("self",.obj f)]) (hbind:=bind4 fun x9 x9 x9 x9=>rfl) ?_
 refine freeze2 (x:="parts") (items:=(partsR (TF p0 rows)).map .str) (m1:=updF mem j k st) (loc2:=[("self",.obj f),("parts",.lst ((partsR (TF p0 rows)).map .str))]) (SA (MB kO (uR B aCB) (.cons (aV N N (cV hxy)) .nil) cv (kf:=.builtin _))) (loc1:=[("self",.obj f),("fws",.str x),("string",.str y),("splitchars",.str ", "),("parts",.obj mem.length)]) ?_ (MA _) (kR u) (gJ _) (by rw[hlen];rfl) ?_ ?_
 ·by_cases hp:p0=⟨#[]⟩
  ·have e1:updF mem j k st++[AO.lst ((partsR (TF p0 rows)).map .str)]=(updF mem j k st++[AO.lst ((p0 :: partsR rows).map .str)]).set mem.length (.lst ((partsR rows).map .str)):=by rw[hset,TF,OB hp]
   rw[e1]
   subst hp
   refine aK (.to (aJ (bP N aH (eA (k:=0) (v:=.str ⟨#[]⟩) (.obj g0) (by rw[BB,UA];lia) (by rw[BB,UA];exact gP (k:=0) (Nat.succ_pos _)) rfl)) (aU (by decide))) (by decide)) (.cons (ES (MB N (zH (.obj g0)) (.cons aH .nil) (aCS B g0 (by rw[BB];lia)))) .nil)
  ·have e1:updF mem j k st++[AO.lst ((partsR (TF p0 rows)).map .str)]=(updF mem j k st++[AO.lst ((p0 :: partsR rows).map .str)]).set mem.length (.lst (putl ((p0 :: partsR rows).map .str) [.str ⟨#[]⟩] none (some 0))):=by rw[hset,TF,AB hp];rfl
   rw[e1]
   refine aO (.to (aJ (bP N aH (eA (k:=0) (v:=.str p0) (.obj g0) (by rw[BB,UA];lia) (by rw[BB,UA];exact gP (k:=0) (Nat.succ_pos _)) rfl)) (aU (by exact lz))) (by simp[hp])) (.cons (oM B (aW (.cons aG .nil) (by simp)) N bM (bG aH) g0 (by rw[BB,UA];simp;lia)) .nil)
 ·intro y v hy
  have hm:=mem_of_lookup hy
  simp only[NA,GB,QD,Prod.mk.injEq] at hm
  rcases hm with ⟨rfl,rfl⟩| ⟨rfl,rfl⟩
  ·exact .inr ⟨rfl,by rw[hlen];simp[AV.under,hfl]⟩
  ·exact .inl ⟨rfl,rfl⟩
 ·refine .cons (zI (loc1:=[("self",.obj f)]) (aEC B ⟨fun x9=>rfl,fun x9=>rfl,fun x9=>rfl,fun x9=>rfl⟩ N aEG aDs) (by rw[← tN];exact aCP B (kR u) (gJ _) (by rw[BB,jN];lia))
   (tO (h:=h) B H F u hlen (fun st st' a c z=>⟨_,eE (bB AN (bB AN dO)),aI.weak (.cons (ES (MB N (bD B F.gf aDA rfl) (.cons N (.cons N .nil)) z)) .nil) (dF (by intro p hp;simp only[NA,GB,QD] at hp;subst hp;rfl))⟩) (TF p0 rows) r st q) (fun y v hy=>?_) (dF (by simp))) .nil
  have hm:=mem_of_lookup hy
  simp only[NA,GB,QD,Prod.mk.injEq] at hm
  refine o02 hm fun x0 x1=>?_;clear hm;subst x0;subst x1
  rw[hlen];simp[AV.under,hfl]
variable {g:Nat}{ps':AA (Str×Str)}
theorem aES:((1032,1028,#[]):EA×EA×RA BA)∈(bl pr w P s₁).tabs:=List.Mem.tail _ (List.Mem.tail _ (List.Mem.head _))
theorem aAD(B:aC (bl pr w P s₁)):aF (bl pr w P s₁) (h+1) (.ref 1033) [] mem (.obj mem.length) (mem++[.fn [(("header_encoding" : Str),.none)]]):=by
 refine DF (xs:=[]) (out:=.ret (.obj mem.length)) (loc':=[("charset",.obj mem.length)]) (hbind:=bind0 rfl) ?_
 exact aFO B ⟨fun x9=>rfl,fun x9=>rfl,fun x9=>rfl,fun x9=>rfl⟩ aES (fun x9=>rfl) (fun x9=>rfl) (fun x9=>rfl) (fun x9=>rfl) (fun x9=>rfl) (by decide) (fun x9=>rfl) (.stop (bI N) (by simp))
theorem aET(B:aC (bl pr w P s₁))(H:dD pr w P s₁)(F:Fst mem f j k room)(u:∀o∈mem,o.under mem.length=true){st:FS}{r:AA (Str×Str)}(q:FOk st (TF p0 rows++r))(hx:(x++y).cps.toList=textR p0 rows)(hz:(x++y).cps.size≤10000)(hxy:x.length+y.length≤1000000)(hr:rows.length≤(x++y).cps.size)
  (h1:noWs p0) (h2:rowsOk rows) (e:(updF mem j k st)[g]?= some (.fn [(("header_encoding" : Str),.none)])):aF (bl pr w P s₁) (h+8) (.ref 98) [.obj f,.str x,.str y,.obj g] (updF mem j k st) .none (updF mem j k (feedF room (TF p0 rows) st)):=by
 refine DF (xs:=["self","fws","string","charset"]) (out:=.ret .none) (loc':=[("self",.obj f),("fws",.str x),("string",.str y),("charset",.obj g)]) (hbind:=bind4 fun x9 x9 x9 x9=>rfl) ?_
 exact .stop (aO (aD (aA N (aFN B e rfl)) bN bW) (.cons (ES (MB N (bD B F.gf aDz rfl) (.cons N (.cons N (.cons (aA N (aB B F.gf rfl vX)) .nil))) (aDF (h:=h) B H F u q hx hz hxy hr h1 h2))) (.stop rO (by simp)))) (by simp)
theorem aFV(B:aC (bl pr w P s₁))(H:dD pr w P s₁)(F:Fst mem f j k room)(hn:0≤n∧n≤1000)(hz:total ps≤10000)(hl:lines.length≤800)(hp:ps.length≤800)
  (hc:(ps=[]∧0 < n)∨(∃(ps':AA (Str×Str)) (p:Str×Str),ps=ps'++[p]∧p≠((" " : Str),(⟨#[]⟩:Str))∧0 < n+total ps∧(n≠0∨YF (txtOf ps)=false)))
  (hj:((lines++[txtOf ps]).map (·.length)).sum+(lines++[txtOf ps]).length * 1≤1000000):
  aF (bl pr w P s₁) (h+6) (.ref 70) [.obj f,.str "\n"] (upd mem j k lines ps n) (.str (UC "\n" (lines++[txtOf ps]))) (upd mem j k (lines++[txtOf ps]) [] 0):=by
 refine DF (xs:=["self","linesep"]) (out:=.ret (.str (UC "\n" (lines++[txtOf ps])))) (loc':=[("self",.obj f),("linesep",.str "\n")]) (hbind:=bind2 fun x9 x9=>rfl) ?_
 refine .cons (ES (MB N (bD B F.gf qF rfl) .nil (qH (h:=h) B H F hn hz hl hp hc))) ?_
 exact .stop (bI (MB N iQ (.cons (aA N (aB B F.gf rfl oW)) .nil) (iR (.obj F.gj) hj) (k:=0))) (by simp)
end
structure Part where
 x:Str
 y:Str
 p0:Str
 rows:AA (Str×Str)
structure Part.Ok(p:Part):Prop where
 hx:(p.x++p.y).cps.toList=textR p.p0 p.rows
 hz:(p.x++p.y).cps.size≤10000
 hxy:p.x.length+p.y.length≤1000000
 hr:p.rows.length≤(p.x++p.y).cps.size
 h1:noWs p.p0
 h2:rowsOk p.rows
noncomputable def Part.av(p:Part):AV:=.lst [.str p.x,.str p.y]
noncomputable def allPairs:AA Part→AA (Str×Str)
 | []=>[]
 | p :: l=>TF p.p0 p.rows++allPairs l
theorem kS(room:Int):∀(l r:AA (Str×Str)) (st:FS),feedF room (l++r) st=feedF room r (feedF room l st)
 | [],r,st=>rfl
 | x :: l,r,st=>kS room l r _
section
variable {pr:RC}{w:HD}{P:IB}{s₁:CA}{h:Nat}{mem:AA AO}{f j k:Nat}{room:Int}{x y p0:Str}{rows:AA (Str×Str)}
theorem tQ(B:aC (bl pr w P s₁))(H:dD pr w P s₁)(F:Fst mem f j k room)(u:∀o∈mem,o.under mem.length=true){N:Nat}(hN:N=mem.length){G:EA→Env}{t:Expr}{body:AA VD}{loc0:AA (Str×AV)}
  (turn:∀(st st':FS) (x y:Str),aF (bl pr w P s₁) (h+8) (.ref 98) [.obj f,.str x,.str y,.obj mem.length] (updF mem j k st++[.fn [(("header_encoding" : Str),.none)]]) .none (updF mem j k st'++[.fn [(("header_encoding" : Str),.none)]])→
   ∃loc1,cR (bl pr w P s₁) (h+8) G t (.lst [.str x,.str y]) loc0 (updF mem j k st) loc1 (updF mem j k st)∧aI (bl pr w P s₁) (h+8) G body loc1 (updF mem j k st) .next loc0 (updF mem j k st')):
  ∀(l:AA Part) (r:AA (Str×Str)) (st:FS),(∀p∈l,p.Ok)→FOk st (allPairs l++r)→bQ (bl pr w P s₁) (h+8) G t body (fun x9=>True) N (l.map Part.av) loc0 (updF mem j k st) .next loc0 (updF mem j k (feedF room (allPairs l) st))
 | [],r,st,ok,q=>.nil trivial (hN▸bF)
 | p :: l,r,st,ok,q=>by
  have o:=ok p (by simp)
  have q1:FOk st (TF p.p0 p.rows++(allPairs l++r)):=by rw[← WC];exact q
  have e:(updF (mem++[.fn [(("header_encoding" : Str),.none)]]) j k st)[mem.length]?= some (.fn [(("header_encoding" : Str),.none)]):=by
   show (upd _ _ _ _ _ _)[mem.length]?= _
   rw[F.upd_more,OA (DE bF),bF,VB];rfl
  have z:=aET (h:=h) B H (F.more (.fn [(("header_encoding" : Str),.none)])) (fun o ho=>by
   rcases mam ho with ho|ho
   ·exact AO.under_mono (by simp) (u o ho)
   ·rw[HA] at ho;subst ho;rfl) q1 o.hx o.hz o.hxy o.hr o.h1 o.h2 e
  unfold updF at z
  rw[F.upd_more,F.upd_more] at z
  refine o12 (turn st _ p.x p.y z) fun loc1 t1 t2=>?_
  refine .next trivial (hN▸bF) t1 t2 ?_
  have e2:feedF room (allPairs (p :: l)) st=feedF room (allPairs l) (feedF room (TF p.p0 p.rows) st):=kS ..
  rw[e2]
  exact tQ B H F u hN turn l r _ (fun p hp=>ok p (VH _ hp)) (FOk.feed q1)
end
noncomputable def st0:FS:=⟨[],[],3⟩
noncomputable def endOf(st:FS):AA Str:=st.lines++[txtOf st.ps]
noncomputable def toldOf(room:Int)(l:AA (Str×Str)):AA Str:=endOf (feedF room l st0)
structure EndOk(st:FS):Prop where
 hc:(st.ps=[]∧0 < st.n)∨(∃(ps':AA (Str×Str)) (p:Str×Str),st.ps=ps'++[p]∧p≠((" " : Str),(⟨#[]⟩:Str))∧0 < st.n+total st.ps∧(st.n≠0∨YF (txtOf st.ps)=false))
 hj:((endOf st).map (·.length)).sum+(endOf st).length * 1≤1000000
 hs:HC (UC "\n" (endOf st)) "\n" = endOf st
 hjl:(UC "\n" (endOf st)).length≤1000000
section
variable {pr:RC}{w:HD}{P:IB}{s₁:CA}{h:Nat}{mem:AA AO}{room n:Int}{x y:Str}
theorem nQ(B:aC (bl pr w P s₁))(H:dD pr w P s₁)(u:∀o∈mem,o.under mem.length=true){l:AA Part}(ok:∀p∈l,p.Ok)(q:FOk st0 (allPairs l))(ho:EndOk (feedF room (allPairs l) st0)):
  aF (bl pr w P s₁) (h+9) (.ref 1055) [.lst (l.map Part.av),.int room] mem (.lst ((toldOf room (allPairs l)).map .str)) mem:=by
 have F:Fst (mem++[fmO room (mem.length+1) (mem.length+2),.lst [],accO [] 3]) mem.length (mem.length+1) (mem.length+2) room:=⟨by simp,by simp,by simp,by lia,by lia,by lia⟩
 have gj:(mem++[fmO room (mem.length+1) (mem.length+2),.lst [],accO [] 3])[mem.length+1]?= some (.lst (([]:AA Str).map .str)):=by
  rw[OA (by lia),show mem.length+1 - mem.length=1 by lia];rfl
 have gk:(mem++[fmO room (mem.length+1) (mem.length+2),.lst [],accO [] 3])[mem.length+2]?= some (accO [] 3):=by
  rw[OA (by lia),show mem.length+2 - mem.length=2 by lia];rfl
 have e0:updF (mem++[fmO room (mem.length+1) (mem.length+2),.lst [],accO [] 3]) (mem.length+1) (mem.length+2) st0=mem++[fmO room (mem.length+1) (mem.length+2),.lst [],accO [] 3]:=aBX gj gk
 have uM:∀o∈mem++[fmO room (mem.length+1) (mem.length+2),.lst [],accO [] 3],o.under (mem++[fmO room (mem.length+1) (mem.length+2),.lst [],accO [] 3]).length=true:=fun o ho=>by
  rcases mam ho with ho|ho
  ·exact AO.under_mono (by simp) (u o ho)
  ·simp only[NA,GB,QD] at ho
   rcases ho with rfl|rfl|rfl
   ·simp[AO.under,fmO,AV.underL,AV.under]
   ·rfl
   ·rfl
 have q':FOk st0 (allPairs l++[]):=by rw[ZB];exact q
 have qe:FOk (feedF room (allPairs l) st0) []:=FOk.feed q'
 have lin:=qe.lin
 have num:=qe.num
 have tot:=qe.tot
 simp only[List.length_nil,weigh] at lin num tot
 have ks:=aFV (h:=h+2) B H F ⟨qe.n0,qe.n1⟩ (by lia) (by lia) (by lia) ho.hc ho.hj
 have ed:∀(ls:AA Str) (qs:AA (Str×Str)) (m:Int),upd (mem++[fmO room (mem.length+1) (mem.length+2),.lst [],accO [] 3]) (mem.length+1) (mem.length+2) ls qs m=mem++[fmO room (mem.length+1) (mem.length+2),.lst (ls.map .str),accO qs m]:=fun ls qs m=>by
  unfold upd
  rw[WD _ _ (by lia),WD _ _ (by lia),show mem.length+1 - mem.length=1 by lia,show mem.length+2 - mem.length=2 by lia];rfl
 refine aF.trim (junk:=[fmO room (mem.length+1) (mem.length+2),.lst ((endOf (feedF room (allPairs l) st0)).map .str),accO [] 0]) ?_ (MA _) (by unfold AV.under;exact gJ _) u
 refine DF (xs:=["parts","room"]) (out:=.ret (.lst ((toldOf room (allPairs l)).map .str))) (loc':=[("former",.obj mem.length)]) (hbind:=bind2 fun x9 x9=>rfl) ?_
 refine .cons (SA (CX mL (.cons aH (.cons N (.cons aG (.cons aG .nil)))) (aBZ (h:=h) (n:=3) B H))) ?_
 rw[← e0]
 refine .cons (mY (loc1:=[("former",.obj mem.length)]) N (cT B) (tQ (h:=h) B H F uM bF (fun st st' x y z=>?_) l [] st0 ok q') (dF (by intro p hp;simp only[NA,GB,QD] at hp;subst hp;rfl))) ?_
 ·refine ⟨_,oK (bB AN (bB AN dO)),aI.weak (loc':=[("former",.obj mem.length),("fws",.str x),("part",.str y)]) (.cons ?_ .nil) (dF (by intro p hp;simp only[NA,GB,QD] at hp;subst hp;rfl))⟩
  refine aL.trim (loc':=[("former",.obj mem.length),("fws",.str x),("part",.str y)]) (junk:=[.fn [(("header_encoding" : Str),.none)]]) ?_ (by rw[bF,bF];exact MA _) (fun v e=>nomatch e) (kR uM) (fun y' v hy=>⟨hy,hX (l:=[("former",.obj mem.length),("fws",.str x),("part",.str y)]) (by simp[AV.underL,AV.under,bF]) y' v hy⟩)
  have kc:=aAD (h:=0) (mem:=updF (mem++[fmO room (mem.length+1) (mem.length+2),.lst [],accO [] 3]) (mem.length+1) (mem.length+2) st) B
  rw[show (updF (mem++[fmO room (mem.length+1) (mem.length+2),.lst [],accO [] 3]) (mem.length+1) (mem.length+2) st).length=(mem++[fmO room (mem.length+1) (mem.length+2),.lst [],accO [] 3]).length from bF] at kc
  exact ES (MB N (bD B F.gf aEQ rfl) (.cons N (.cons N (.cons (CX rF .nil kc) .nil))) z)
 ·rw[← ed]
  have sp:aF (bl pr w P s₁) (h+8) (.builtin "str.split") [.str (UC "\n" (endOf (feedF room (allPairs l) st0))),.str "\n"] (upd (mem++[fmO room (mem.length+1) (mem.length+2),.lst [],accO [] 3]) (mem.length+1) (mem.length+2) (endOf (feedF room (allPairs l) st0)) [] 0)
    (.lst ((HC (UC "\n" (endOf (feedF room (allPairs l) st0))) "\n").map .str)) _:=mC (by decide) ho.hjl (by rw[ho.hs];unfold endOf;rw[PA,IE];lia)
  rw[ho.hs] at sp
  exact .stop (bI (MB (MB N (bD B F.gf aFT rfl) (.cons aG .nil) ks) mB (.cons aG .nil) sp)) (by simp)
end
noncomputable def CU:RA Nat:=#[14,17,4,1,1,21,9,0,604043296,1,0,0,0,0,0,8,4,0,13,14,21,9,0,604043296,1,0,0,0,0,0,8,4,0,1]
section
variable {pr:RC}{w:HD}{P:IB}{s₁:CA}{h:Nat}{mem:AA AO}{x y:Str}
theorem nR:searchIn (Hd.KL P) 1019 CU:=⟨_,323,_,_,322,_,_,_,rfl,rfl,rfl,rfl,rfl,rfl,rfl,rfl,rfl,rfl,rfl,by kernel_rfl⟩
theorem gX(B:aC (bl pr w P s₁))(hz:x.cps.size≤1000000)(hx:x≠⟨#[]⟩){n:Nat}(hn:n≤1000000000)(e0:(ZC n (Sre.forSearch CU x.cps 0 0 x.cps.size false)).outcome=some .failed):
  aF (bl pr w P s₁) (h+1) (.ref 1026) [.str x] mem (.str x) mem:=by
 refine DF (xs:=["s"]) (out:=.ret (.str x)) (loc':=[("s",.str x)]) (hbind:=bind1 fun x9=>rfl) ?_
 refine .cons (aK (.to (bR (aJ N (aU hz))) (by simp[hx])) .nil) ?_
 exact .stop (aO (aD (CX jX (.cons N .nil) (sW (h:=0) B (nR (P:=P)) hz hn e0) (kf:=keepS nR)) bN bW) (.stop (bI N) (by simp))) (by simp)
theorem kT(B:aC (bl pr w P s₁))(u:∀o∈mem,o.under mem.length=true)(hz:x.cps.size≤1000)(hx:x≠⟨#[]⟩){n:Nat}(hn:n≤1000000000)(e0:(ZC n (Sre.forSearch CU x.cps 0 0 x.cps.size false)).outcome=some .matched)
  (hy:(("'" : Str)++Txt.replace x "'" "'\"'\"'")++("'" : Str)=y) (hl:(Txt.replace x "'" "'\"'\"'").length≤10000):
  aF (bl pr w P s₁) (h+1) (.ref 1026) [.str x] mem (.str y) mem:=by
 subst hy
 refine aF.trim (junk:=[.dead]) ?_ (MA _) rfl u
 refine DF (xs:=["s"]) (out:=.ret (.str _)) (loc':=[("s",.str x)]) (hbind:=bind1 fun x9=>rfl) ?_
 have hxl:x.length≤1000:=hz
 have l1:("'" : Str).length=1:=rfl
 have l5:("'\"'\"'" : Str).length=5:=rfl
 refine .cons (aK (.to (bR (aJ N (aU (by exact lz)))) (by simp[hx])) .nil) ?_
 refine .cons (aK (aD (CX jX (.cons N .nil) (rA (h:=0) B (nR (P:=P)) (by exact lz) hn e0) (kf:=keepS nR)) bN bW) .nil) ?_
 refine .stop (bI (aV (qZ B ⟨fun x9=>rfl,fun x9=>rfl,fun x9=>rfl,fun x9=>rfl⟩ rfl (by decide) (by rw[l5];lia) (by lia)) aG (cV ?_))) (by simp)
 show (_++_:Str).cps.size+1≤_
 rw[show (("'" : Str)++Txt.replace x "'" "'\"'\"'").cps.size=("'" : Str).length+(Txt.replace x "'" "'\"'\"'").length from Array.size_append ..]
 lia
end
noncomputable def wordOf(i:Nat):Str:=match i with|0=>"a" | 1=>"b c" | 2=>"..//d" | 3=>"it's" | _=>"e,f"
noncomputable def bareOf(i:Nat):Str:=match i with|0=>"a" | 1=>"'b c'" | 2=>"..//d" | 3=>"'it'\"'\"'s'" | _=>"e,f"
section
variable {pr:RC}{w:HD}{P:IB}{s₁:CA}{h:Nat}{mem:AA AO}{x:Str}
theorem aDG(B:aC (bl pr w P s₁))(u:∀o∈mem,o.under mem.length=true):∀i:Nat,aF (bl pr w P s₁) (h+1) (.ref 1026) [.str (wordOf i)] mem (.str (bareOf i)) mem
 | 0=>gX B (by decide) (by decide) (n:=40) (by lia) (by kernel_rfl)
 | 1=>kT B u (by decide) (by decide) (n:=40) (by lia) (by kernel_rfl) (by decide +kernel) (by decide +kernel)
 | 2=>gX B (by decide) (by decide) (n:=100) (by lia) (by kernel_rfl)
 | 3=>kT B u (by decide) (by decide) (n:=100) (by lia) (by kernel_rfl) (by decide +kernel) (by decide +kernel)
 | _+4=>gX (x:="e,f") B (by decide) (by decide) (n:=100) (by lia) (by kernel_rfl)
end
noncomputable def sioO(x:Str)(p:Int):AO:=.inst 871 none [(("_StringIO__newline" : Str),.str "\n"),("_StringIO__buf",.str x),("_StringIO__pos",.int p)]
section
variable {pr:RC}{w:HD}{P:IB}{s₁:CA}{h:Nat}{mem:AA AO}{x:Str}
theorem aCb:∀hp:PB,(Hd.KL P).In hp→EC (model pr w) hp (KH (.ref 871)) (.type "object"):=fun hp X=>
 rB (C1:=871) (C2:=394) (C3:=367) X (by kernel_rfl) (by kernel_rfl) (by kernel_rfl) (by rfl) (by rfl) (by rfl) rfl rfl rfl rfl rfl rfl rfl rfl
theorem aAE(B:aC (bl pr w P s₁)):aF (bl pr w P s₁) (h+1) (.ref 364) [.val (.ref 871),.str x] mem (.obj mem.length) (mem++[.inst 871 none []]):=by
 refine aAe (xs:=["cls"]) (ys:=["args","kwargs"]) (vs:=[.val (.ref 871)]) (out:=.ret (.obj mem.length)) (loc':=[("cls",.val (.ref 871))]) B ?hb ?_ rfl
 case hb=>exact aBM fun a c=>rfl
 refine .cons (aK (aQ (bK (.to (aD N (Gv (mv:=.ref 624)) (lY B rfl rfl rfl)) (by decide)) (aY (.to (aD N nJ (lY B rfl rfl rfl)) (by decide))))) .nil) ?_
 refine .stop (bI (MB (U Boot.«object») (rC B (by kernel_rfl) (by kernel_rfl) (by kernel_rfl)) (.cons N .nil) (aAd (h:=0) B rfl rfl rfl (by kernel_rfl) (by kernel_rfl) aCb))) (by simp)
variable {i:Nat}
theorem aGN:takesOwn (Hd.KL P) 871 "_StringIO__newline" = true:=by kernel_rfl
theorem aEU:takesOwn (Hd.KL P) 871 "_StringIO__buf" = true:=by kernel_rfl
theorem aCc:takesOwn (Hd.KL P) 871 "_StringIO__pos" = true:=by kernel_rfl
theorem aFW:plainAttr (Hd.KL P) 871 "_StringIO__newline" = true:=by kernel_rfl
theorem nU:plainAttr (Hd.KL P) 871 "_StringIO__buf" = true:=by kernel_rfl
theorem aCC:plainAttr (Hd.KL P) 871 "_StringIO__pos" = true:=by kernel_rfl
theorem aGO:ownMeth (Hd.KL P) 871 "_StringIO__translated" 648=true:=by kernel_rfl
theorem aEV:ownMeth (Hd.KL P) 871 "_StringIO__check" 655=true:=by kernel_rfl
theorem aCd:ownMeth (Hd.KL P) 871 "read" 817=true:=by kernel_rfl
theorem aCe(B:aC (bl pr w P s₁)){at_:AA (Str×AV)}(e:mem[i]?= some (.inst 871 none at_))(ea:at_.lookup ("_StringIO__newline" : Str)=some (.str "\n")):aF (bl pr w P s₁) (h+1) (.ref 648) [.obj i,.str x] mem (.str x) mem:=by
 refine DF (xs:=["self","s"]) (out:=.ret (.str x)) (loc':=[("self",.obj i),("s",.str x),("newline",.str "\n")]) (hbind:=bind2 fun x9 x9=>rfl) ?_
 refine .cons (SA (aA N (aB B e ea aFW))) ?_
 refine .cons (aK (aD N bN bW) .nil) ?_
 refine .cons (aK (aQ (cE (.to (aD N aG aT) (by decide)) (cE (.to (aD N aG aT) (by decide)) dH))) .nil) ?_
 exact .stop (bI N) (by simp)
theorem yC(B:aC (bl pr w P s₁)):aF (bl pr w P s₁) (h+3) (.ref 641) [.obj mem.length,.str x] (mem++[.inst 871 none []]) .none (mem++[sioO x 0]):=by
 refine bS.call (DG (xs:=["self","initial_value","newline"]) (vs:=[.obj mem.length,.str x,.str "\n"]) (out:=.next) (loc':=[("self",.obj mem.length),("initial_value",.str x),("newline",.str "\n")]) ?hb ?_)
 case hb=>exact dflt23 B rfl (.str _ _) fun a c=>⟨_,rfl,rfl⟩
 refine .cons (aK (aQ (bK (aD N bN cK) (aY (.to (aD (CX nG (.cons N .nil) (iF (h:=0))) jJ gT) (by decide))))) .nil) ?_
 refine .cons (aK (aQ (bK (aD N bN cK) (bK (.to (aD N aG dL) (by decide)) (aY (.to (aD N aG dL) (by decide)))))) .nil) ?_
 refine .cons (aK (aQ (bK (aD N bN cK) (aY (.to (aD (CX nG (.cons N .nil) (iF (h:=0))) jJ gT) (by decide))))) .nil) ?_
 refine .cons (cN (rest':=[]) N N aGN) ?_
 refine .cons (cN (rest':=[]) aG N aEU) ?_
 refine .cons (cN (rest':=[]) aH N aCc) ?_
 refine .cons (aO (aD N bN cK) (.cons (cN (rest':=[]) (MB N (bD B (gM ..) aGO rfl) (.cons N .nil) (aCe (h:=0) B (gM ..) rfl)) N aEU) .nil)) ?_
 exact .nil
theorem aAF:∀(A:XA) (s:CA) (Q:BA→CA→Prop) (E:BA→CA→Prop),(Hd.KL P).In s.heap→(∀tk,Q (.ref 364) { s with toks:=tk })→FA (model pr w) A (getAttr (.ref 871) "__new__") Q E s:=fun A s Q E X q=>
 cls_bind (mc:=.type "type") X (by kernel_rfl) (by kernel_rfl:findCls (Hd.KL P) (.ref 871) (.type "type") "__new__" = some (.get (.builtin "staticmethod.__get__") (.ref 368) .none (.ref 871)))
  (CE (sm_get (f:=.ref 364) (rest:=[]) (s:={ s with toks:=s.toks+1 }) X (by kernel_rfl) (handed_on rfl (q _))))
theorem aFX(B:aC (bl pr w P s₁)):aF (bl pr w P s₁) (h+4) (.ref 871) [.str x] mem (.obj mem.length) (mem++[sioO x 0]):=
 xK B (by kernel_rfl) aAF (by kernel_rfl:CD (Hd.KL P) (.ref 871) "__init__" = some (some (.ref 641))) (by kernel_rfl) (aAE (h:=h+2) B) (yC (h:=h) B)
variable {b:Bs}
theorem vC{n:Int}:aF b h (.type "type") [.int n] mem (.val (.type "int")) mem:=fun A s ρ mvs Q E hA r hv q=>by
 cases hv with|cons h1 hv=>
 cases hv;cases h1
 exact call_type_of (typeIs_int _ _ _) (by decide) (q ρ s _ r (Ext.refl _ _ _) (.val _))
theorem yD{n:Int}:aF b h (.type "int") [.int n] mem (.int n) mem:=fun A s ρ mvs Q E hA r hv q=>by
 cases hv with|cons h1 hv=>
 cases hv;cases h1
 exact call_int_int (q ρ s _ r (Ext.refl _ _ _) (.int _ _))
variable {y:Str}{n:Int}
theorem wA(B:aC (bl pr w P s₁))(hn:0≤n∧n≤1000000):aF (bl pr w P s₁) (h+1) (.ref 337) [.int n,.str y] mem (.int n) mem:=by
 refine DF (xs:=["n","what"]) (out:=.ret (.int n)) (loc':=[("n",.int n),("what",.str y)]) (hbind:=bind2 fun x9 x9=>rfl) ?_
 refine .cons (aK (aQ (aY (.to (aD (CX nG (.cons N .nil) (vC (h:=0))) (U Boot.«int») gT) (by decide)))) .nil) ?_
 refine .cons (SA (CX (U Boot.«int») (.cons N .nil) (yD (h:=0)))) ?_
 refine .cons (aK (aQ (cE (.to (aD N aH cH) (by simp;lia)) (cE (.to (aD N (fU aH) mA) (by simp;lia)) dH))) .nil) ?_
 exact .stop (bI N) (by simp)
theorem wB(B:aC (bl pr w P s₁)){p:Int}(e:mem[i]?= some (sioO x p)):aF (bl pr w P s₁) (h+1) (.ref 655) [.obj i] mem .none mem:=by
 refine DF (xs:=["self"]) (out:=.next) (loc':=[("self",.obj i)]) (hbind:=bind1 fun x9=>rfl) ?_
 exact .cons (aK (aD (aA N (aB B e rfl nU)) bN bW) .nil) .nil
theorem aEW(B:aC (bl pr w P s₁)){p:Nat}(e:mem[i]?= some (sioO x p))(hz:x.length≤100000)(hp:p < x.length):aF (bl pr w P s₁) (h+2) (.ref 817) [.obj i,.int 1] mem (.str (OC x (some p) (some ((p:Int)+1)))) (mem.set i (sioO x ((p:Int)+1))):=by
 have e2:(mem.set i (sioO x ((p:Int)+1)))[i]?= some (sioO x ((p:Int)+1)):=lO e
 refine bS.call (DG (xs:=["self","size"]) (vs:=[.obj i,.int 1]) (out:=.ret (.str (OC x (some p) (some ((p:Int)+1))))) (loc':=[("self",.obj i),("size",.int 1),("start",.int p),("stop",.int ((p:Int)+1))]) ?hb ?_)
 case hb=>exact dflt2 B rfl fun a c=>⟨_,rfl,rfl⟩
 refine .cons (aK (aD N bN bW) .nil) ?_
 refine .cons (SA (CX (Gv (mv:=.ref 337)) (.cons N (.cons aG .nil)) (wA (h:=0) B (by lia)))) ?_
 refine .cons (ES (MB N (bD B e aEV rfl) .nil (wB (h:=0) B e))) ?_
 refine .cons (SA (aA N (aB B e rfl aCC))) ?_
 refine .cons (SA (CX fJ (.cons (aA N (aB B e rfl nU)) .nil) (fD (h:=0) (by exact lz)))) ?_
 refine .cons (aK (.to (aD N N cZ) (by simp;assumption)) .nil) ?_
 by_cases hlt:p+1 < x.length
 ·refine .cons (aO (aQ (bK (.to (aD N aH cZ) (by decide)) (fV (.to (aD (aV N N dX) N mA) (by simp;lia))))) (.cons (SA (aV N N dX)) .nil)) ?_
  refine .cons (dI B N N e aCc (by simp)) ?_
  exact .stop (bI (dB (aA N (aB B e2 rfl nU)) (bG N) (bG N) (by exact lz))) (by simp)
 ·refine .cons (aK (aQ (bK (.to (aD N aH cZ) (by decide)) (fV (.to (aD (aV N N dX) N mA) (by simp;lia))))) .nil) ?_
  have hx:(x.length:Int)=(p:Int)+1:=by lia
  rw[hx]
  refine .cons (dI B N N e aCc (by simp)) ?_
  exact .stop (bI (dB (aA N (aB B e2 rfl nU)) (bG N) (bG N) (by exact lz))) (by simp)
theorem yE(B:aC (bl pr w P s₁)){p:Nat}(e:mem[i]?= some (sioO x p))(hz:x.length≤100000)(hp:x.length≤p):aF (bl pr w P s₁) (h+2) (.ref 817) [.obj i,.int 1] mem (.str ⟨#[]⟩) mem:=by
 refine bS.call (DG (xs:=["self","size"]) (vs:=[.obj i,.int 1]) (out:=.ret (.str ⟨#[]⟩)) (loc':=[("self",.obj i),("size",.int 1),("start",.int p),("stop",.int x.length)]) ?hb ?_)
 case hb=>exact dflt2 B rfl fun a c=>⟨_,rfl,rfl⟩
 refine .cons (aK (aD N bN bW) .nil) ?_
 refine .cons (SA (CX (Gv (mv:=.ref 337)) (.cons N (.cons aG .nil)) (wA (h:=0) B (by lia)))) ?_
 refine .cons (ES (MB N (bD B e aEV rfl) .nil (wB (h:=0) B e))) ?_
 refine .cons (SA (aA N (aB B e rfl aCC))) ?_
 refine .cons (SA (CX fJ (.cons (aA N (aB B e rfl nU)) .nil) (fD (h:=0) (by lia)))) ?_
 exact .stop (aO (.to (aD N N cZ) (by simp;assumption)) (.stop (bI aG) (by simp))) (by simp)
end
noncomputable def wc:Str:=("abcdfeghijklmnopqrstuvwxyzABCDEFGHIJKLMNOPQRSTUVWXYZ0123456789_" : Str)++("ßàáâãäåæçèéêëìíîïðñòóôõöøùúûüýþÿÀÁÂÃÄÅÆÇÈÉÊËÌÍÎÏÐÑÒÓÔÕÖØÙÚÛÜÝÞ" : Str)
noncomputable def shO(io d1 d2:Nat)(comm:Str)(ws:NB)(st:AV)(tok:Str):AO:=.inst 1006 none [(("instream" : Str),.obj io),("infile",.none),("posix",.bool true),("eof",.none),("commenters",.str comm),("wordchars",.str wc),("whitespace",.str " \t\r\n"),("whitespace_split",.bool ws),("quotes",.str "'\""),("escape",.str "\\"),("escapedquotes",.str "\""),("state",st),("pushback",.obj d1),("lineno",.int 1),("debug",.int 0),("token",.str tok),("filestack",.obj d2),("source",.none),("_punctuation_chars",.str "")]
section
variable {b:Bs}{h:Nat}{F:EA→Env}{loc:AA (Str×AV)}{mem rest rest':AA AO}{v v1 v2:AV}{e1 o:Expr}{pos p2:Pos}{C:EA}{sq:YA (AA AV)}{at_:AA (Str×AV)}{name:Str}{op:Operator}{o1 o2 o3:AO}
theorem aCf(y:aE b h F o loc (mem++.inst C sq at_ :: rest) (.obj mem.length) (mem++.inst C sq at_ :: rest))(ha:AttrV b h (.obj mem.length) name (mem++.inst C sq at_ :: rest) v1 (mem++.inst C sq at_ :: rest))(x:aE b h F e1 loc (mem++.inst C sq at_ :: rest) v2 (mem++.inst C sq at_ :: rest))(z:InpV b h op v1 v2 (mem++.inst C sq at_ :: rest) v (mem++.inst C sq at_ :: rest))(ht:takesOwn b.K C name=true)(hz:DA (at_.length≤1000) q17)
  (B:DA (aC b) q11):aL b h F (.AugAssign (.Attribute o name p2) op e1 pos) loc (mem++.inst C sq at_ :: rest) .next loc (mem++.inst C sq (putL name v at_) :: rest):=by
 rw[← vZ mem (.inst C sq at_) (.inst C sq (putL name v at_)) rest]
 exact pM B y ha x z (gM ..) ht hz
theorem bT{at2:AA (Str×AV)}(x:aE b h F e1 loc (mem++.inst C sq at_ :: rest) v (mem++.inst C sq at_ :: rest'))(y:aE b h F o loc (mem++.inst C sq at_ :: rest') (.obj mem.length) (mem++.inst C sq at_ :: rest'))(ht:takesOwn b.K C name=true)(hp:DA (putL name v at_=at2) q9)(hz:DA (at_.length≤1000) q17)
  (hs:DA (∀L,swapsWith e1 (some (.Attribute o name p2)) pos.line (F L)=pure false) q8) (B:DA (aC b) q11):aL b h F (.Assign [.Attribute o name p2] e1 pos) loc (mem++.inst C sq at_ :: rest) .next loc (mem++.inst C sq at2 :: rest'):=hp▸cN x y ht hz hs B
theorem aEX{at2:AA (Str×AV)}(y:aE b h F o loc (mem++.inst C sq at_ :: rest) (.obj mem.length) (mem++.inst C sq at_ :: rest))(ha:AttrV b h (.obj mem.length) name (mem++.inst C sq at_ :: rest) v1 (mem++.inst C sq at_ :: rest))(x:aE b h F e1 loc (mem++.inst C sq at_ :: rest) v2 (mem++.inst C sq at_ :: rest))(z:InpV b h op v1 v2 (mem++.inst C sq at_ :: rest) v (mem++.inst C sq at_ :: rest))(ht:takesOwn b.K C name=true)(hp:DA (putL name v at_=at2) q9)(hz:DA (at_.length≤1000) q17)
  (B:DA (aC b) q11):aL b h F (.AugAssign (.Attribute o name p2) op e1 pos) loc (mem++.inst C sq at_ :: rest) .next loc (mem++.inst C sq at2 :: rest):=hp▸aCf y ha x z ht hz B
theorem aFY(x:aE b h F e1 loc (mem++[o1,o2]) (.obj (mem++[o1,o2]).length) ((mem++[o1,o2])++[o3])):aE b h F e1 loc (mem++o1 :: [o2]) (.obj (mem.length+2)) (mem++o1 :: [o2,o3]):=by
 rw[WC,PA] at x;exact x
theorem aFZ{o4:AO}(x:aE b h F e1 loc (mem++[o1,o2,o3]) (.obj (mem++[o1,o2,o3]).length) ((mem++[o1,o2,o3])++[o4])):aE b h F e1 loc (mem++o1 :: [o2,o3]) (.obj (mem.length+3)) (mem++o1 :: [o2,o3,o4]):=by
 rw[WC,PA] at x;exact x
variable {P:IB}
theorem vD:takesOwn (Hd.KL P) 1006 "instream" = true:=by kernel_rfl
theorem iI:plainAttr (Hd.KL P) 1006 "instream" = true:=by kernel_rfl
theorem aAG:takesOwn (Hd.KL P) 1006 "infile" = true:=by kernel_rfl
theorem aCg:takesOwn (Hd.KL P) 1006 "posix" = true:=by kernel_rfl
theorem cI:plainAttr (Hd.KL P) 1006 "posix" = true:=by kernel_rfl
theorem aEY:takesOwn (Hd.KL P) 1006 "eof" = true:=by kernel_rfl
theorem kU:plainAttr (Hd.KL P) 1006 "eof" = true:=by kernel_rfl
theorem jY:takesOwn (Hd.KL P) 1006 "commenters" = true:=by kernel_rfl
theorem eM:plainAttr (Hd.KL P) 1006 "commenters" = true:=by kernel_rfl
theorem kX:takesOwn (Hd.KL P) 1006 "wordchars" = true:=by kernel_rfl
theorem dG:plainAttr (Hd.KL P) 1006 "wordchars" = true:=by kernel_rfl
theorem rH:takesOwn (Hd.KL P) 1006 "whitespace" = true:=by kernel_rfl
theorem cU:plainAttr (Hd.KL P) 1006 "whitespace" = true:=by kernel_rfl
theorem fO:takesOwn (Hd.KL P) 1006 "whitespace_split" = true:=by kernel_rfl
theorem fP:plainAttr (Hd.KL P) 1006 "whitespace_split" = true:=by kernel_rfl
theorem aAH:takesOwn (Hd.KL P) 1006 "quotes" = true:=by kernel_rfl
theorem cF:plainAttr (Hd.KL P) 1006 "quotes" = true:=by kernel_rfl
theorem aAI:takesOwn (Hd.KL P) 1006 "escape" = true:=by kernel_rfl
theorem dJ:plainAttr (Hd.KL P) 1006 "escape" = true:=by kernel_rfl
theorem mM:takesOwn (Hd.KL P) 1006 "escapedquotes" = true:=by kernel_rfl
theorem tR:takesOwn (Hd.KL P) 1006 "state" = true:=by kernel_rfl
theorem aR:plainAttr (Hd.KL P) 1006 "state" = true:=by kernel_rfl
theorem vE:takesOwn (Hd.KL P) 1006 "pushback" = true:=by kernel_rfl
theorem lZ:plainAttr (Hd.KL P) 1006 "pushback" = true:=by kernel_rfl
theorem aAJ:takesOwn (Hd.KL P) 1006 "lineno" = true:=by kernel_rfl
theorem aCh:takesOwn (Hd.KL P) 1006 "debug" = true:=by kernel_rfl
theorem eC:plainAttr (Hd.KL P) 1006 "debug" = true:=by kernel_rfl
theorem mN:takesOwn (Hd.KL P) 1006 "token" = true:=by kernel_rfl
theorem gY:plainAttr (Hd.KL P) 1006 "token" = true:=by kernel_rfl
theorem tS:takesOwn (Hd.KL P) 1006 "filestack" = true:=by kernel_rfl
theorem tT:plainAttr (Hd.KL P) 1006 "filestack" = true:=by kernel_rfl
theorem aAK:takesOwn (Hd.KL P) 1006 "source" = true:=by kernel_rfl
theorem qJ:plainAttr (Hd.KL P) 1006 "source" = true:=by kernel_rfl
theorem jO:takesOwn (Hd.KL P) 1006 "_punctuation_chars" = true:=by kernel_rfl
theorem jP:plainAttr (Hd.KL P) 1006 "_punctuation_chars" = true:=by kernel_rfl
theorem aDH:makesIn (Hd.KL P) 1006=true:=by kernel_rfl
theorem aEZ:CD (Hd.KL P) (.ref 1006) "__init__" = some (some (.ref 930)):=by kernel_rfl
theorem aGa:typeIn (Hd.KL P) (.ref 930)=some (.type "function"):=by kernel_rfl
theorem aCD:ownMeth (Hd.KL P) 1006 "get_token" 967=true:=by kernel_rfl
theorem aAL:ownMeth (Hd.KL P) 1006 "read_token" 974=true:=by kernel_rfl
variable {pr:RC}{w:HD}{s₁:CA}{x:Str}
theorem yF(B:aC (bl pr w P s₁)):bS (bl pr w P s₁) (h+5) (.ref 930) [.obj mem.length,.str x] ["posix"] [.bool true] (mem++[.inst 1006 none []]) .none (mem++[shO (mem.length+1) (mem.length+2) (mem.length+3) "#" false (.str " ") ⟨#[]⟩,sioO x 0,.other dqO,.other dqO]):=by
 refine DG (xs:=["self","instream","infile","posix","punctuation_chars"]) (vs:=[.obj mem.length,.str x,.none,.bool true,.bool false]) (out:=.next) (loc':=[("self",.obj mem.length),("instream",.obj (mem.length+1)),("infile",.none),("posix",.bool true),("punctuation_chars",.str "")]) ?hb ?_
 case hb=>
  refine .dflt (T:=923) B rfl fun mvs mks h1 h2=>?_
  ·refine o21 (L2 h1) fun a c x0=>?_;subst x0
   refine o11 (L1 h2) fun p x0=>?_;subst x0
   exact ⟨_,rfl,[a,c,.none,p,.bool false],rfl,fun hp ρ hv hk=>by
    cases hv with|cons q1 q2=>cases q2 with|cons q3 q4=>cases hk with|cons q5 q6=>exact .cons q1 (.cons q3 (.cons .none (.cons q5 (.cons (.bool _) .nil))))⟩
 refine .cons (aO (aJ (CX fH (.cons N (.cons jJ .nil)) (oJ (h:=0))) aM) (.cons (SA (CX nJ (.cons N .nil) (aFX (h:=h) B))) .nil)) ?_
 rw[WC,PA]
 show aI _ _ _ _ [("self",.obj mem.length),("instream",.obj (mem.length+1)),("infile",.none),("posix",.bool true),("punctuation_chars",.bool false)] (mem++[.inst 1006 none [],sioO x 0]) _ _ _
 refine .cons (aO (aD N bN cK) (.cons (bT (at2:=[(("instream" : Str),.obj (mem.length+1))]) (rest':=[sioO x 0]) N N vD) (.cons (bT (at2:=[(("instream" : Str),.obj (mem.length+1)),("infile",.none)]) (rest':=[sioO x 0]) N N aAG) .nil))) ?_
 refine .cons (bT (at2:=[(("instream" : Str),.obj (mem.length+1)),("infile",.none),("posix",.bool true)]) (rest':=[sioO x 0]) N N aCg) ?_
 refine .cons (aO (aJ N aM) (.cons (bT (at2:=[(("instream" : Str),.obj (mem.length+1)),("infile",.none),("posix",.bool true),("eof",.none)]) (rest':=[sioO x 0]) bN N aEY) .nil)) ?_
 refine .cons (bT (at2:=[(("instream" : Str),.obj (mem.length+1)),("infile",.none),("posix",.bool true),("eof",.none),("commenters",.str "#")]) (rest':=[sioO x 0]) aG N jY) ?_
 refine .cons (bT (at2:=[(("instream" : Str),.obj (mem.length+1)),("infile",.none),("posix",.bool true),("eof",.none),("commenters",.str "#"),("wordchars",.str "abcdfeghijklmnopqrstuvwxyzABCDEFGHIJKLMNOPQRSTUVWXYZ0123456789_")]) (rest':=[sioO x 0]) aG N kX) ?_
 refine .cons (aO (aJ (aA N (aB B (gM ..) rfl cI)) aM) (.cons (aEX (at2:=[(("instream" : Str),.obj (mem.length+1)),("infile",.none),("posix",.bool true),("eof",.none),("commenters",.str "#"),("wordchars",.str wc)]) N (aB B (gM ..) rfl dG) aG (kH (by decide)) kX) .nil)) ?_
 refine .cons (bT (at2:=[(("instream" : Str),.obj (mem.length+1)),("infile",.none),("posix",.bool true),("eof",.none),("commenters",.str "#"),("wordchars",.str wc),("whitespace",.str " \t\r\n")]) (rest':=[sioO x 0]) aG N rH) ?_
 refine .cons (bT (at2:=[(("instream" : Str),.obj (mem.length+1)),("infile",.none),("posix",.bool true),("eof",.none),("commenters",.str "#"),("wordchars",.str wc),("whitespace",.str " \t\r\n"),("whitespace_split",.bool false)]) (rest':=[sioO x 0]) fW N fO) ?_
 refine .cons (bT (at2:=[(("instream" : Str),.obj (mem.length+1)),("infile",.none),("posix",.bool true),("eof",.none),("commenters",.str "#"),("wordchars",.str wc),("whitespace",.str " \t\r\n"),("whitespace_split",.bool false),("quotes",.str "'\"")]) (rest':=[sioO x 0]) aG N aAH) ?_
 refine .cons (bT (at2:=[(("instream" : Str),.obj (mem.length+1)),("infile",.none),("posix",.bool true),("eof",.none),("commenters",.str "#"),("wordchars",.str wc),("whitespace",.str " \t\r\n"),("whitespace_split",.bool false),("quotes",.str "'\""),("escape",.str "\\")]) (rest':=[sioO x 0]) aG N aAI) ?_
 refine .cons (bT (at2:=[(("instream" : Str),.obj (mem.length+1)),("infile",.none),("posix",.bool true),("eof",.none),("commenters",.str "#"),("wordchars",.str wc),("whitespace",.str " \t\r\n"),("whitespace_split",.bool false),("quotes",.str "'\""),("escape",.str "\\"),("escapedquotes",.str "\"")]) (rest':=[sioO x 0]) aG N mM) ?_
 refine .cons (bT (at2:=[(("instream" : Str),.obj (mem.length+1)),("infile",.none),("posix",.bool true),("eof",.none),("commenters",.str "#"),("wordchars",.str wc),("whitespace",.str " \t\r\n"),("whitespace_split",.bool false),("quotes",.str "'\""),("escape",.str "\\"),("escapedquotes",.str "\""),("state",.str " ")]) (rest':=[sioO x 0]) aG N tR) ?_
 refine .cons (bT (at2:=[(("instream" : Str),.obj (mem.length+1)),("infile",.none),("posix",.bool true),("eof",.none),("commenters",.str "#"),("wordchars",.str wc),("whitespace",.str " \t\r\n"),("whitespace_split",.bool false),("quotes",.str "'\""),("escape",.str "\\"),("escapedquotes",.str "\""),("state",.str " "),("pushback",.obj (mem.length+2))]) (rest':=[sioO x 0,.other dqO]) (v:=.obj (mem.length+2)) (aFY ?_) N vE) ?_
 ·exact CX (Gv (mv:=.type "collections.deque")) .nil (tC (h:=0))
 refine .cons (bT (at2:=[(("instream" : Str),.obj (mem.length+1)),("infile",.none),("posix",.bool true),("eof",.none),("commenters",.str "#"),("wordchars",.str wc),("whitespace",.str " \t\r\n"),("whitespace_split",.bool false),("quotes",.str "'\""),("escape",.str "\\"),("escapedquotes",.str "\""),("state",.str " "),("pushback",.obj (mem.length+2)),("lineno",.int 1)]) (rest':=[sioO x 0,.other dqO]) aH N aAJ) ?_
 refine .cons (bT (at2:=[(("instream" : Str),.obj (mem.length+1)),("infile",.none),("posix",.bool true),("eof",.none),("commenters",.str "#"),("wordchars",.str wc),("whitespace",.str " \t\r\n"),("whitespace_split",.bool false),("quotes",.str "'\""),("escape",.str "\\"),("escapedquotes",.str "\""),("state",.str " "),("pushback",.obj (mem.length+2)),("lineno",.int 1),("debug",.int 0)]) (rest':=[sioO x 0,.other dqO]) aH N aCh) ?_
 refine .cons (bT (at2:=[(("instream" : Str),.obj (mem.length+1)),("infile",.none),("posix",.bool true),("eof",.none),("commenters",.str "#"),("wordchars",.str wc),("whitespace",.str " \t\r\n"),("whitespace_split",.bool false),("quotes",.str "'\""),("escape",.str "\\"),("escapedquotes",.str "\""),("state",.str " "),("pushback",.obj (mem.length+2)),("lineno",.int 1),("debug",.int 0),("token",.str ⟨#[]⟩)]) (rest':=[sioO x 0,.other dqO]) aG N mN) ?_
 refine .cons (bT (at2:=[(("instream" : Str),.obj (mem.length+1)),("infile",.none),("posix",.bool true),("eof",.none),("commenters",.str "#"),("wordchars",.str wc),("whitespace",.str " \t\r\n"),("whitespace_split",.bool false),("quotes",.str "'\""),("escape",.str "\\"),("escapedquotes",.str "\""),("state",.str " "),("pushback",.obj (mem.length+2)),("lineno",.int 1),("debug",.int 0),("token",.str ⟨#[]⟩),("filestack",.obj (mem.length+3))]) (rest':=[sioO x 0,.other dqO,.other dqO]) (v:=.obj (mem.length+3)) (aFZ ?_) N tS) ?_
 ·exact CX (Gv (mv:=.type "collections.deque")) .nil (tC (h:=0))
 refine .cons (bT (at2:=[(("instream" : Str),.obj (mem.length+1)),("infile",.none),("posix",.bool true),("eof",.none),("commenters",.str "#"),("wordchars",.str wc),("whitespace",.str " \t\r\n"),("whitespace_split",.bool false),("quotes",.str "'\""),("escape",.str "\\"),("escapedquotes",.str "\""),("state",.str " "),("pushback",.obj (mem.length+2)),("lineno",.int 1),("debug",.int 0),("token",.str ⟨#[]⟩),("filestack",.obj (mem.length+3)),("source",.none)]) (rest':=[sioO x 0,.other dqO,.other dqO]) bN N aAK) ?_
 refine .cons (aO (.to (bR (aJ N aM)) rfl) (.cons (SA aG) .nil)) ?_
 refine .cons (bT (at2:=[(("instream" : Str),.obj (mem.length+1)),("infile",.none),("posix",.bool true),("eof",.none),("commenters",.str "#"),("wordchars",.str wc),("whitespace",.str " \t\r\n"),("whitespace_split",.bool false),("quotes",.str "'\""),("escape",.str "\\"),("escapedquotes",.str "\""),("state",.str " "),("pushback",.obj (mem.length+2)),("lineno",.int 1),("debug",.int 0),("token",.str ⟨#[]⟩),("filestack",.obj (mem.length+3)),("source",.none),("_punctuation_chars",.str "")]) (rest':=[sioO x 0,.other dqO,.other dqO]) N N jO) ?_
 refine .cons (aK (.to (aJ N (aU (by decide))) (by decide)) .nil) ?_
 exact .nil
end
theorem yG{x:Str}{p c:Nat}(h:x.cps[p]?= some c):OC x (some (p:Int)) (some ((p:Int)+1))=⟨#[c]⟩:=by
 obtain ⟨hp,hc⟩:=Array.getElem?_eq_some_iff.mp h
 have e:OC x (some (p:Int)) (some ((p:Int)+1))=⟨((x.cps.toList.drop (p:Int).toNat).take (((p:Int)+1) - p).toNat).toArray⟩:=StrLaws.sliceText_plain ⟨by lia,by lia,by rw[QA];lia⟩
 rw[e,show (((p:Int)+1) - p).toNat=1 by lia,show ((p:Int)).toNat=p from VG p]
 have:x.cps.toList.drop p=c :: x.cps.toList.drop (p+1):=by
  rw[MG (by rw[QA];exact hp)]
  rw[show x.cps.toList[p]'(by rw[QA];exact hp)=x.cps[p] from Array.getElem_toList ..]
  rw[hc]
 rw[this];rfl
structure Lst(mem:AA AO)(l m d1 d2:Nat):Prop where
 hl:l < mem.length
 hm:m < mem.length
 h1:mem[d1]?= some (.other dqO)
 h2:mem[d2]?= some (.other dqO)
 lm:l≠m
 l1:l≠d1
 l2:l≠d2
 m1:m≠d1
 m2:m≠d2
noncomputable def updL(mem:AA AO)(l m d1 d2:Nat)(x:Str)(p:Int)(st:AV)(tok:Str):AA AO:=(mem.set l (shO m d1 d2 ⟨#[]⟩ true st tok)).set m (sioO x p)
section
variable {mem:AA AO}{l m d1 d2:Nat}{x tok tok':Str}{p p':Int}{st st':AV}
theorem Lst.gl(L:Lst mem l m d1 d2):(updL mem l m d1 d2 x p st tok)[l]?= some (shO m d1 d2 ⟨#[]⟩ true st tok):=by
 unfold updL
 rw[BE (Ne.symm L.lm),XF L.hl]
theorem Lst.gm(L:Lst mem l m d1 d2):(updL mem l m d1 d2 x p st tok)[m]?= some (sioO x p):=by
 unfold updL
 rw[XF (by rw[List.length_set];exact L.hm)]
theorem Lst.g1(L:Lst mem l m d1 d2):(updL mem l m d1 d2 x p st tok)[d1]?= some (.other dqO):=by
 unfold updL
 rw[BE L.m1,BE L.l1,L.h1]
theorem Lst.g2(L:Lst mem l m d1 d2):(updL mem l m d1 d2 x p st tok)[d2]?= some (.other dqO):=by
 unfold updL
 rw[BE L.m2,BE L.l2,L.h2]
theorem aFa:(updL mem l m d1 d2 x p st tok).set m (sioO x p')=updL mem l m d1 d2 x p' st tok:=by unfold updL;rw[List.set_set]
theorem Lst.ul(L:Lst mem l m d1 d2):(updL mem l m d1 d2 x p st tok).set l (shO m d1 d2 ⟨#[]⟩ true st' tok')=updL mem l m d1 d2 x p st' tok':=by
 unfold updL
 rw[List.set_comm _ _ (Ne.symm L.lm),List.set_set]
theorem dQ:(updL mem l m d1 d2 x p st tok).length=mem.length:=by unfold updL;simp
end
noncomputable def inS(x:Str)(c:Nat):NB:=!(PG x ⟨#[c]⟩ 0 x.length 1).isEmpty
noncomputable def plainL:AA Nat:=[97,98,99,46,47,100,44,105,116,115,101,102]
noncomputable def wsL:AA Nat:=[32,9]
noncomputable def quoteL:AA Nat:=[39,34]
theorem mO:∀c∈plainL,inS " \t\r\n" c=false∧inS "'\"" c=false∧inS "\\" c=false∧inS "" c=false∧c≠10:=by decide +kernel
theorem gZ:∀c∈quoteL,inS " \t\r\n" c=false∧inS "'\"" c=true∧inS "\\" c=false∧inS "" c=false∧inS wc c=false∧c≠10∧((⟨#[c]⟩:Str) == " ")=false:=by decide +kernel
theorem mP:∀c∈wsL,inS " \t\r\n" c=true∧c≠10∧inS "\\" c=false:=by decide +kernel
inductive cG:Nat→Str→Str→NB→AOut→Str→Str→NB→Prop
 | wsp {c:Nat}(h:c∈wsL):cG c " " ⟨#[]⟩ false .cont " " ⟨#[]⟩ false
 | spp {c:Nat}{tok:Str}{q:NB}(h:c∈plainL):cG c " " tok q .next "a" ⟨#[c]⟩ q
 | spq {c:Nat}{tok:Str}{q:NB}(h:c∈quoteL):cG c " " tok q .next ⟨#[c]⟩ tok q
 | ap {c:Nat}{tok:Str}{q:NB}(h:c∈plainL) (hz:tok.length≤1000):cG c "a" tok q .next "a" (tok++⟨#[c]⟩) q
 | aq {c:Nat}{tok:Str}{q:NB}(h:c∈quoteL):cG c "a" tok q .next ⟨#[c]⟩ tok q
 | aw {c:Nat}{tok:Str}{q:NB}(h:c∈wsL) (ht:tok≠⟨#[]⟩) (hz:tok.length≤1000):cG c "a" tok q .brk " " tok q
 | qo {c d:Nat}{tok:Str}{q:NB}(h:d∈quoteL) (hc:c∈plainL∨c∈wsL∨c∈quoteL) (hn:c≠d) (hz:tok.length≤1000):cG c ⟨#[d]⟩ tok q .next ⟨#[d]⟩ (tok++⟨#[c]⟩) true
 | qc {d:Nat}{tok:Str}{q:NB}(h:d∈quoteL):cG d ⟨#[d]⟩ tok q .next "a" tok true
inductive LexR(x:Str):Nat→Str→Str→NB→Nat→AV→Str→NB→Prop
 | next {p p2 c:Nat}{st tok st' tok' tok2:Str}{st2:AV}{q q' q2:NB}(hc:x.cps[p]?= some c) (s:cG c st tok q .next st' tok' q') (r:LexR x (p+1) st' tok' q' p2 st2 tok2 q2):LexR x p st tok q p2 st2 tok2 q2
 | cont {p p2 c:Nat}{st tok st' tok' tok2:Str}{st2:AV}{q q' q2:NB}(hc:x.cps[p]?= some c) (s:cG c st tok q .cont st' tok' q') (r:LexR x (p+1) st' tok' q' p2 st2 tok2 q2):LexR x p st tok q p2 st2 tok2 q2
 | stop {p c:Nat}{st tok st' tok':Str}{q q':NB}(hc:x.cps[p]?= some c) (s:cG c st tok q .brk st' tok' q'):LexR x p st tok q (p+1) (.str st') tok' q'
 | fin {p:Nat}{st tok:Str}{q:NB}(hp:x.length≤p) (hs:st=" " ∨st="a"):LexR x p st tok q p .none tok q
section
variable {pr:RC}{w:HD}{P:IB}{s₁:CA}{h l m d1 d2:Nat}{mem:AA AO}{x tok tok':Str}{q q':NB}
theorem iX:propIn (Hd.KL P) 1006 "punctuation_chars" 938 937:=⟨by kernel_rfl,by kernel_rfl,by kernel_rfl,by kernel_rfl,by kernel_rfl,by kernel_rfl,_,rfl⟩
theorem oY(B:aC (bl pr w P s₁)){a0 tok:Str}{ws:NB}{st:AV}(e:mem[l]?= some (shO m d1 d2 a0 ws st tok)):bS (bl pr w P s₁) (h+1) (.ref 937) [.obj l] [] [] mem (.str "") mem:=by
 refine DG (xs:=["self"]) (vs:=[.obj l]) (out:=.ret (.str "")) (loc':=[("self",.obj l)]) ?hb ?_
 case hb=>exact .pure (bind1 fun x9=>rfl)
 exact .stop (bI (aA N (aB B e rfl jP))) (by simp)
theorem aDI(B:aC (bl pr w P s₁)){G:EA→Env}{H:Nat}{a0:Expr}{body:AA VD}{mm:Nat→AV→Str→AA AO}{lc:NB→AA (Str×AV)}
  (ht:∀loc mem,bA (bl pr w P s₁) H G a0 loc mem true mem)
  (turn:∀(p c:Nat) (st tok st' tok':Str) (q q':NB) (out:AOut),x.cps[p]?= some c→cG c st tok q out st' tok' q'→aI (bl pr w P s₁) H G body (lc q) (mm p (.str st) tok) out (lc q') (mm (p+1) (.str st') tok'))
  (last:∀(p:Nat) (st tok:Str) (q:NB),x.length≤p→(st=" " ∨st="a")→aI (bl pr w P s₁) H G body (lc q) (mm p (.str st) tok) .brk (lc q) (mm p .none tok)):
  ∀{p:Nat}{st tok:Str}{q:NB}{p2:Nat}{st2:AV}{tok2:Str}{q2:NB},LexR x p st tok q p2 st2 tok2 q2→∃n,WRun (bl pr w P s₁) H G a0 body n (lc q) (mm p (.str st) tok) .brk (lc q2) (mm p2 st2 tok2):=fun r=>by
 induction r with
 | next hc s r ih=>obtain ⟨n,ih⟩:=ih;exact ⟨_,.next (ht _ _) (turn _ _ _ _ _ _ _ _ _ hc s) ih⟩
 | cont hc s r ih=>obtain ⟨n,ih⟩:=ih;exact ⟨_,.cont (ht _ _) (turn _ _ _ _ _ _ _ _ _ hc s) ih⟩
 | stop hc s=>exact ⟨0,.brk (ht _ _) (turn _ _ _ _ _ _ _ _ _ hc s)⟩
 | fin hp hs=>exact ⟨0,.brk (ht _ _) (last _ _ _ _ hp hs)⟩
variable {b:Bs}{F:EA→Env}{loc loc':AA (Str×AV)}{m1 m2:AA AO}{e1:Expr}{pos:Pos}{out:AOut}{st:VD}{body:AA VD}
theorem aI.one(x:aL b h F st loc mem out loc' m1):aI b h F [st] loc mem out loc' m1:=by
 cases out with
 | next=>exact .cons x .nil
 | _=>exact .stop x (by simp)
theorem bH(t:bA b h F e1 loc mem false m1)(y:aL b h F st loc m1 out loc' m2):aL b h F (.If e1 body [st] pos) loc mem out loc' m2:=aK t (.one y)
end
section
variable {pr:RC}{w:HD}{P:IB}{s₁:CA}{h l m d1 d2:Nat}{F:EA→Env}{loc:AA (Str×AV)}{mem:AA AO}{x tok tok':Str}{p c:Nat}{st st':AV}{e1 o:Expr}{pos p2:Pos}
theorem aGP(B:aC (bl pr w P s₁))(L:Lst mem l m d1 d2)(hz:x.length≤100000)(hc:x.cps[p]?= some c):aF (bl pr w P s₁) (h+2) (.ref 817) [.obj m,.int 1] (updL mem l m d1 d2 x p st tok) (.str ⟨#[c]⟩) (updL mem l m d1 d2 x ((p+1:Nat):Int) st tok):=by
 have:=aEW (h:=h) (mem:=updL mem l m d1 d2 x p st tok) B L.gm hz (Array.getElem?_eq_some_iff.mp hc).1
 rw[aFa,yG hc] at this
 exact this
theorem aCE(B:aC (bl pr w P s₁))(L:Lst mem l m d1 d2)(hz:x.length≤100000)(hp:x.length≤p):aF (bl pr w P s₁) (h+2) (.ref 817) [.obj m,.int 1] (updL mem l m d1 d2 x p st tok) (.str ⟨#[]⟩) (updL mem l m d1 d2 x p st tok):=
 yE B L.gm hz hp
theorem eY(B:aC (bl pr w P s₁))(L:Lst mem l m d1 d2){q:Int}(a:aE (bl pr w P s₁) h F e1 loc (updL mem l m d1 d2 x q st tok) st' (updL mem l m d1 d2 x q st tok))(y:aE (bl pr w P s₁) h F o loc (updL mem l m d1 d2 x q st tok) (.obj l) (updL mem l m d1 d2 x q st tok))
  (hs:DA (∀L,swapsWith e1 (some (.Attribute o "state" p2)) pos.line (F L)=pure false) q8):aL (bl pr w P s₁) h F (.Assign [.Attribute o "state" p2] e1 pos) loc (updL mem l m d1 d2 x q st tok) .next loc (updL mem l m d1 d2 x q st' tok):=by
 have:=dI (pos:=pos) B a y L.gl tR (by simp) hs
 rw[show (updL mem l m d1 d2 x q st tok).set l (.inst 1006 none (putL "state" st' _))=updL mem l m d1 d2 x q st' tok from L.ul] at this
 exact this
theorem iY(B:aC (bl pr w P s₁))(L:Lst mem l m d1 d2){q:Int}(a:aE (bl pr w P s₁) h F e1 loc (updL mem l m d1 d2 x q st tok) (.str tok') (updL mem l m d1 d2 x q st tok))(y:aE (bl pr w P s₁) h F o loc (updL mem l m d1 d2 x q st tok) (.obj l) (updL mem l m d1 d2 x q st tok))
  (hs:DA (∀L,swapsWith e1 (some (.Attribute o "token" p2)) pos.line (F L)=pure false) q8):aL (bl pr w P s₁) h F (.Assign [.Attribute o "token" p2] e1 pos) loc (updL mem l m d1 d2 x q st tok) .next loc (updL mem l m d1 d2 x q st tok'):=by
 have:=dI (pos:=pos) B a y L.gl mN (by simp) hs
 rw[show (updL mem l m d1 d2 x q st tok).set l (.inst 1006 none (putL "token" (.str tok') _))=updL mem l m d1 d2 x q st tok' from L.ul] at this
 exact this
theorem aCF(B:aC (bl pr w P s₁))(L:Lst mem l m d1 d2){q:Int}(y:aE (bl pr w P s₁) h F o loc (updL mem l m d1 d2 x q st tok) (.obj l) (updL mem l m d1 d2 x q st tok))(a:aE (bl pr w P s₁) h F e1 loc (updL mem l m d1 d2 x q st tok) (.str tok') (updL mem l m d1 d2 x q st tok))(hz:tok.length+tok'.length≤1000000):
  aL (bl pr w P s₁) h F (.AugAssign (.Attribute o "token" p2) .Add e1 pos) loc (updL mem l m d1 d2 x q st tok) .next loc (updL mem l m d1 d2 x q st (tok++tok')):=by
 have:=pM (pos:=pos) (p2:=p2) B y (aB B L.gl rfl gY) a (kH hz) L.gl mN (by simp)
 rw[show (updL mem l m d1 d2 x q st tok).set l (.inst 1006 none (putL "token" (.str (tok++tok')) _))=updL mem l m d1 d2 x q st (tok++tok') from L.ul] at this
 exact this
end
theorem cG.sign{c:Nat}{st tok st' tok':Str}{q q':NB}{out:AOut}(s:cG c st tok q out st' tok' q'):c≠10:=by
 have hp:∀c∈plainL,c≠10:=by decide
 have hw:∀c∈wsL,c≠10:=by decide
 have hq:∀c∈quoteL,c≠10:=by decide
 induction s with
 | wsp h=>exact hw _ h
 | spp h=>exact hp _ h
 | spq h=>exact hq _ h
 | ap h=>exact hp _ h
 | aq h=>exact hq _ h
 | aw h=>exact hw _ h
 | qo h hc=>exact hc.elim (hp _) fun hc=>hc.elim (hw _) (hq _)
 | qc h=>exact hq _ h
theorem gD(c:Nat):decide ((⟨#[c]⟩:Str)≠⟨#[]⟩)=true:=by
 rw[PC];intro q;cases q
theorem aGQ:inS "'\"" 97=false∧inS "\\" 97=false:=by decide +kernel
theorem nV:(!(PG ("'\"" : Str) ("a" : Str) 0 ("'\"" : Str).length 1).isEmpty)=false:=by decide +kernel
theorem nX:(!(PG ("\\" : Str) ("a" : Str) 0 ("\\" : Str).length 1).isEmpty)=false:=by decide +kernel
section
variable {pr:RC}{w:HD}{P:IB}{s₁:CA}{h l m d1 d2:Nat}{mem:AA AO}{x:Str}
theorem aGb(B:aC (bl pr w P s₁)){G:EA→Env}{H:Nat}{a0:Expr}{body:AA VD}{pos:Pos}{mm:Nat→AV→Str→AA AO}{lc:NB→AA (Str×AV)}
  (ht:∀loc mem,bA (bl pr w P s₁) H G a0 loc mem true mem)
  (turn:∀(p c:Nat) (st tok st' tok':Str) (q q':NB) (out:AOut),x.cps[p]?= some c→cG c st tok q out st' tok' q'→aI (bl pr w P s₁) H G body (lc q) (mm p (.str st) tok) out (lc q') (mm (p+1) (.str st') tok'))
  (last:∀(p:Nat) (st tok:Str) (q:NB),x.length≤p→(st=" " ∨st="a")→aI (bl pr w P s₁) H G body (lc q) (mm p (.str st) tok) .brk (lc q) (mm p .none tok))
  {p:Nat}{st tok:Str}{q:NB}{p2:Nat}{st2:AV}{tok2:Str}{q2:NB}(r:LexR x p st tok q p2 st2 tok2 q2):aL (bl pr w P s₁) H G (.While a0 body [] pos) (lc q) (mm p (.str st) tok) .next (lc q2) (mm p2 st2 tok2):=by
 refine o11 (aDI B ht turn last r) fun n z=>?_
 exact lE z
set_option maxHeartbeats 2000000 in
theorem tU(B:aC (bl pr w P s₁))(L:Lst mem l m d1 d2)(hz:x.length≤100000){p p2:Nat}{st0 a0:Str}{q2:NB}{st2:AV}(r:LexR x p st0 ⟨#[]⟩ false p2 st2 a0 q2)(hne:a0≠⟨#[]⟩):
  aF (bl pr w P s₁) (h+3) (.ref 974) [.obj l] (updL mem l m d1 d2 x p (.str st0) ⟨#[]⟩) (.str a0) (updL mem l m d1 d2 x p2 st2 ⟨#[]⟩):=by
 refine DF (xs:=["self"]) (out:=.ret (.str a0)) (loc':=[("self",.obj l),("quoted",.bool q2),("escapedstate",.str " "),("result",.str a0)]) (hbind:=bind1 fun x9=>rfl) ?_
 refine .cons (SA fW) ?_
 refine .cons (SA aG) ?_
 refine .cons (aGb B (lc:=fun q=>[("self",.obj l),("quoted",.bool q),("escapedstate",.str " ")]) (mm:=fun p st tok=>updL mem l m d1 d2 x p st tok) (fun loc mem=>aJ fW aM) ?turn ?last r) ?_
 case turn=>
  intro p c st tok st' tok' q q' out hc s
  refine aI.weak (loc':=[("self",.obj l),("quoted",.bool q'),("escapedstate",.str " "),("nextchar",.str ⟨#[c]⟩)]) ?_ (eQ (x:="nextchar") (loc:=[("self",.obj l),("quoted",.bool q'),("escapedstate",.str " ")]))
  refine .cons (aK (aQ (aY (.to (aJ (aA N (gL B L.gl iX (oY (h:=h) B L.gl))) (aU (by decide))) (by decide)))) (.cons (SA (MB (aA N (aB B L.gl rfl iI)) (bD B L.gm aCd rfl) (.cons aH .nil) (aGP (h:=0) B L hz hc))) .nil)) ?_
  refine .cons (aK (.to (aD N aG aT) ((gQ c 10).trans (beq_false_of_ne s.sign))) .nil) ?_
  refine .cons (aK (.to (aD (aA N (aB B L.gl rfl eC)) aH cZ) (by decide)) .nil) ?_
  refine .one (bH (aD (aA N (aB B L.gl rfl aR)) bN bW) ?_)
  induction s with
  | wsp hw=>
   refine o03 (mP c hw) fun f1 f2 f3=>?_
   refine aO (.to (aD (aA N (aB B L.gl rfl aR)) aG aT) (by decide)) (.one ?_)
   refine bH (.to (bR (aJ N (aU (by show 1≤1000000;lia)))) (by rw[gD];rfl)) (aO (.to (aD N (aA N (aB B L.gl rfl cU)) aN) f1) ?_)
   refine .cons (aK (.to (aD (aA N (aB B L.gl rfl eC)) aH cZ) (by decide)) .nil) ?_
   refine .stop (aK (aQ (cE (.to (aJ (aA N (aB B L.gl rfl gY)) (aU (by decide))) (by decide)) (cE (aQ (bK (aJ (aA N (aB B L.gl rfl cI)) aM) (aY (aJ N aM)))) dH))) (.stop gH (by simp))) (by simp)
  | spp hp=>
   refine o05 (mO c hp) fun f1 f2 f3 f4 f5=>?_
   refine aO (.to (aD (aA N (aB B L.gl rfl aR)) aG aT) (by decide)) (.one ?_)
   refine bH (.to (bR (aJ N (aU (by show 1≤1000000;lia)))) (by rw[gD];rfl)) ?_
   refine bH (.to (aD N (aA N (aB B L.gl rfl cU)) aN) f1) ?_
   refine bH (.to (aD N (aA N (aB B L.gl rfl eM)) aN) f4) ?_
   refine bH (aQ (bK (aJ (aA N (aB B L.gl rfl cI)) aM) (aY (.to (aD N (aA N (aB B L.gl rfl dJ)) aN) f3)))) ?_
   by_cases hw:inS wc c=true
   ·exact aO (.to (aD N (aA N (aB B L.gl rfl dG)) aN) hw) (.cons (iY B L N N) (.cons (eY B L aG N) .nil))
   ·refine bH (.to (aD N (aA N (aB B L.gl rfl dG)) aN) (Bool.not_eq_true _▸hw)) ?_
    refine bH (.to (aD N (aA N (gL B L.gl iX (oY (h:=h) B L.gl))) aN) f4) ?_
    refine bH (.to (aD N (aA N (aB B L.gl rfl cF)) aN) f2) ?_
    exact aO (aJ (aA N (aB B L.gl rfl fP)) aM) (.cons (iY B L N N) (.cons (eY B L aG N) .nil))
  | spq hq=>
   refine o07 (gZ c hq) fun f1 f2 f3 f4 f5 f6 f7=>?_
   refine aO (.to (aD (aA N (aB B L.gl rfl aR)) aG aT) (by decide)) (.one ?_)
   refine bH (.to (bR (aJ N (aU (by show 1≤1000000;lia)))) (by rw[gD];rfl)) ?_
   refine bH (.to (aD N (aA N (aB B L.gl rfl cU)) aN) f1) ?_
   refine bH (.to (aD N (aA N (aB B L.gl rfl eM)) aN) f4) ?_
   refine bH (aQ (bK (aJ (aA N (aB B L.gl rfl cI)) aM) (aY (.to (aD N (aA N (aB B L.gl rfl dJ)) aN) f3)))) ?_
   refine bH (.to (aD N (aA N (aB B L.gl rfl dG)) aN) f5) ?_
   refine bH (.to (aD N (aA N (gL B L.gl iX (oY (h:=h) B L.gl))) aN) f4) ?_
   refine aO (.to (aD N (aA N (aB B L.gl rfl cF)) aN) f2) (.cons (aK (.to (bR (aJ (aA N (aB B L.gl rfl cI)) aM)) rfl) .nil) (.cons (eY B L N N) .nil))
  | ap hp ht=>
   refine o05 (mO c hp) fun f1 f2 f3 f4 f5=>?_
   refine bH (.to (aD (aA N (aB B L.gl rfl aR)) aG aT) (by decide)) ?_
   refine bH (.to (aD (aA N (aB B L.gl rfl aR)) (aA N (aB B L.gl rfl cF)) aN) nV) ?_
   refine bH (.to (aD (aA N (aB B L.gl rfl aR)) (aA N (aB B L.gl rfl dJ)) aN) nX) ?_
   refine aO (.to (aD (aA N (aB B L.gl rfl aR)) (bV (.cons aG (.cons aG .nil)) (by decide)) (jI (ys:=["a","c"]))) (by decide)) (.one ?_)
   refine bH (.to (bR (aJ N (aU (by show 1≤1000000;lia)))) (by rw[gD];rfl)) ?_
   refine bH (.to (aD N (aA N (aB B L.gl rfl cU)) aN) f1) ?_
   refine bH (.to (aD N (aA N (aB B L.gl rfl eM)) aN) f4) ?_
   refine bH (.to (aD (aA N (aB B L.gl rfl aR)) aG aT) (by decide)) ?_
   refine bH (aQ (bK (aJ (aA N (aB B L.gl rfl cI)) aM) (aY (.to (aD N (aA N (aB B L.gl rfl cF)) aN) f2)))) ?_
   refine bH (aQ (bK (aJ (aA N (aB B L.gl rfl cI)) aM) (aY (.to (aD N (aA N (aB B L.gl rfl dJ)) aN) f3)))) ?_
   refine aO (aQ ?_) (.cons (aCF B L N N (by show _+1≤_;lia)) .nil)
   by_cases hw:inS wc c=true
   ·exact fQ (.to (aD N (aA N (aB B L.gl rfl dG)) aN) hw)
   ·refine cE (.to (aD N (aA N (aB B L.gl rfl dG)) aN) (Bool.not_eq_true _▸hw)) ?_
    refine cE (.to (aD N (aA N (aB B L.gl rfl cF)) aN) f2) ?_
    exact fQ (aQ (bK (aJ (aA N (aB B L.gl rfl fP)) aM) (bK (.to (aD N (aA N (gL B L.gl iX (oY (h:=h) B L.gl))) uF) (RB not f4)) gG)))
  | aq hq=>
   refine o07 (gZ c hq) fun f1 f2 f3 f4 f5 f6 f7=>?_
   refine bH (.to (aD (aA N (aB B L.gl rfl aR)) aG aT) (by decide)) ?_
   refine bH (.to (aD (aA N (aB B L.gl rfl aR)) (aA N (aB B L.gl rfl cF)) aN) nV) ?_
   refine bH (.to (aD (aA N (aB B L.gl rfl aR)) (aA N (aB B L.gl rfl dJ)) aN) nX) ?_
   refine aO (.to (aD (aA N (aB B L.gl rfl aR)) (bV (.cons aG (.cons aG .nil)) (by decide)) (jI (ys:=["a","c"]))) (by decide)) (.one ?_)
   refine bH (.to (bR (aJ N (aU (by show 1≤1000000;lia)))) (by rw[gD];rfl)) ?_
   refine bH (.to (aD N (aA N (aB B L.gl rfl cU)) aN) f1) ?_
   refine bH (.to (aD N (aA N (aB B L.gl rfl eM)) aN) f4) ?_
   refine bH (.to (aD (aA N (aB B L.gl rfl aR)) aG aT) (by decide)) ?_
   exact aO (aQ (bK (aJ (aA N (aB B L.gl rfl cI)) aM) (bK (.to (aD N (aA N (aB B L.gl rfl cF)) aN) f2) gG))) (.cons (eY B L N N) .nil)
  | aw hw ht hl=>
   refine o03 (mP c hw) fun f1 f2 f3=>?_
   refine bH (.to (aD (aA N (aB B L.gl rfl aR)) aG aT) (by decide)) ?_
   refine bH (.to (aD (aA N (aB B L.gl rfl aR)) (aA N (aB B L.gl rfl cF)) aN) nV) ?_
   refine bH (.to (aD (aA N (aB B L.gl rfl aR)) (aA N (aB B L.gl rfl dJ)) aN) nX) ?_
   refine aO (.to (aD (aA N (aB B L.gl rfl aR)) (bV (.cons aG (.cons aG .nil)) (by decide)) (jI (ys:=["a","c"]))) (by decide)) (.one ?_)
   refine bH (.to (bR (aJ N (aU (by show 1≤1000000;lia)))) (by rw[gD];rfl)) ?_
   refine aO (.to (aD N (aA N (aB B L.gl rfl cU)) aN) f1) ?_
   refine .cons (aK (.to (aD (aA N (aB B L.gl rfl eC)) aH cZ) (by decide)) .nil) ?_
   refine .cons (eY B L aG N) ?_
   exact .stop (aO (aQ (fQ (.to (aJ (aA N (aB B L.gl rfl gY)) (aU (by exact lz))) (decide_eq_true ht)))) (.stop eV (by simp))) (by simp)
  | @qo d tok q hd hc' hn ht=>
   refine o07 (gZ d hd) fun f1 f2 f3 f4 f5 f6 f7=>?_
   have g3:inS "\\" c=false:=by
    rcases hc' with hc'|hc'|hc'
    ·exact (mO c hc').2.2.1
    ·exact (mP c hc').2.2
    ·exact (gZ c hc').2.2.1
   refine bH (.to (aD (aA N (aB B L.gl rfl aR)) aG aT) f7) ?_
   refine aO (.to (aD (aA N (aB B L.gl rfl aR)) (aA N (aB B L.gl rfl cF)) aN) f2) ?_
   refine .cons (SA fW) ?_
   refine .cons (aK (.to (bR (aJ N (aU (by show 1≤1000000;lia)))) (by rw[gD];rfl)) .nil) ?_
   refine .one (bH (.to (aD N (aA N (aB B L.gl rfl aR)) aT) ((gQ c d).trans (beq_false_of_ne hn))) ?_)
   exact aK (aQ (bK (aJ (aA N (aB B L.gl rfl cI)) aM) (aY (.to (aD N (aA N (aB B L.gl rfl dJ)) aN) g3)))) (.cons (aCF B L N N (by show _+1≤_;lia)) .nil)
  | qc hd=>
   refine o07 (gZ c hd) fun f1 f2 f3 f4 f5 f6 f7=>?_
   refine bH (.to (aD (aA N (aB B L.gl rfl aR)) aG aT) f7) ?_
   refine aO (.to (aD (aA N (aB B L.gl rfl aR)) (aA N (aB B L.gl rfl cF)) aN) f2) ?_
   refine .cons (SA fW) ?_
   refine .cons (aK (.to (bR (aJ N (aU (by show 1≤1000000;lia)))) (by rw[gD];rfl)) .nil) ?_
   exact .one (aO (.to (aD N (aA N (aB B L.gl rfl aR)) aT) ((gQ c c).trans (SE c))) (.one (aK (.to (bR (aJ (aA N (aB B L.gl rfl cI)) aM)) rfl) (.cons (eY B L aG N) .nil))))
 case last=>
  intro p st tok q hp hs
  refine aI.weak (loc':=[("self",.obj l),("quoted",.bool q),("escapedstate",.str " "),("nextchar",.str ⟨#[]⟩)]) ?_ (eQ (x:="nextchar") (loc:=[("self",.obj l),("quoted",.bool q),("escapedstate",.str " ")]))
  refine .cons (aK (aQ (aY (.to (aJ (aA N (gL B L.gl iX (oY (h:=h) B L.gl))) (aU (by decide))) (by decide)))) (.cons (SA (MB (aA N (aB B L.gl rfl iI)) (bD B L.gm aCd rfl) (.cons aH .nil) (aCE (h:=0) B L hz hp))) .nil)) ?_
  refine .cons (aK (.to (aD N aG aT) (by decide)) .nil) ?_
  refine .cons (aK (.to (aD (aA N (aB B L.gl rfl eC)) aH cZ) (by decide)) .nil) ?_
  refine .one (bH (aD (aA N (aB B L.gl rfl aR)) bN bW) ?_)
  rcases hs with rfl|rfl
  ·refine aO (.to (aD (aA N (aB B L.gl rfl aR)) aG aT) (by decide)) (.one ?_)
   exact aO (.to (bR (aJ N (aU (by decide)))) (by decide)) (.cons (eY B L bN N) (.stop eV (by simp)))
  ·refine bH (.to (aD (aA N (aB B L.gl rfl aR)) aG aT) (by decide)) ?_
   refine bH (.to (aD (aA N (aB B L.gl rfl aR)) (aA N (aB B L.gl rfl cF)) aN) nV) ?_
   refine bH (.to (aD (aA N (aB B L.gl rfl aR)) (aA N (aB B L.gl rfl dJ)) aN) nX) ?_
   refine aO (.to (aD (aA N (aB B L.gl rfl aR)) (bV (.cons aG (.cons aG .nil)) (by decide)) (jI (ys:=["a","c"]))) (by decide)) (.one ?_)
   exact aO (.to (bR (aJ N (aU (by decide)))) (by decide)) (.cons (eY B L bN N) (.stop eV (by simp)))
 refine .cons (SA (aA N (aB B L.gl rfl gY))) ?_
 refine .cons (iY B L aG N) ?_
 have hf:(a0 == (⟨#[]⟩:Str))=false:=beq_false_of_ne hne
 refine .cons (aK (m1:=updL mem l m d1 d2 x p2 st2 ⟨#[]⟩) (m2:=updL mem l m d1 d2 x p2 st2 ⟨#[]⟩) (aQ (bK (m1:=updL mem l m d1 d2 x p2 st2 ⟨#[]⟩) (aJ (aA N (aB B L.gl rfl cI)) aM) ?_)) .nil) ?_
 ·cases q2 with
  | true=>exact aY (.to (bR (aJ N aM)) rfl)
  | false=>exact bK (.to (bR (aJ N aM)) rfl) (aY (.to (aD N aG aT) hf))
 refine .cons (aK (.to (aD (aA N (aB B L.gl rfl eC)) aH cH) (by decide)) .nil) ?_
 exact .stop (bI N) (by simp)
theorem vF(B:aC (bl pr w P s₁))(L:Lst mem l m d1 d2)(hz:x.length≤100000){p:Nat}(hp:x.length≤p):
  aF (bl pr w P s₁) (h+3) (.ref 974) [.obj l] (updL mem l m d1 d2 x p .none ⟨#[]⟩) .none (updL mem l m d1 d2 x p .none ⟨#[]⟩):=by
 refine DF (xs:=["self"]) (out:=.ret .none) (loc':=[("self",.obj l),("quoted",.bool false),("escapedstate",.str " "),("nextchar",.str ⟨#[]⟩),("result",.none)]) (hbind:=bind1 fun x9=>rfl) ?_
 refine .cons (SA fW) ?_
 refine .cons (SA aG) ?_
 refine .cons (lE (out:=.brk) (n:=0) (loc':=[("self",.obj l),("quoted",.bool false),("escapedstate",.str " "),("nextchar",.str ⟨#[]⟩)]) (m1:=updL mem l m d1 d2 x p .none ⟨#[]⟩) (.brk (aJ fW aM) ?_)) ?_
 ·refine .cons (aK (aQ (aY (.to (aJ (aA N (gL B L.gl iX (oY (h:=h) B L.gl))) (aU (by decide))) (by decide)))) (.cons (SA (MB (aA N (aB B L.gl rfl iI)) (bD B L.gm aCd rfl) (.cons aH .nil) (aCE (h:=0) B L hz hp))) .nil)) ?_
  refine .cons (aK (.to (aD N aG aT) (by decide)) .nil) ?_
  refine .cons (aK (.to (aD (aA N (aB B L.gl rfl eC)) aH cZ) (by decide)) .nil) ?_
  exact .one (aO (aD (aA N (aB B L.gl rfl aR)) bN bW) (.cons (iY B L aG N) (.stop eV (by simp))))
 refine .cons (SA (aA N (aB B L.gl rfl gY))) ?_
 refine .cons (iY B L aG N) ?_
 refine .cons (aO (aQ (bK (aJ (aA N (aB B L.gl rfl cI)) aM) (bK (.to (bR (aJ N aM)) rfl) (bK (.to (aD N aG aT) (by decide)) gG)))) (.cons (SA bN) .nil)) ?_
 refine .cons (aK (.to (aD (aA N (aB B L.gl rfl eC)) aH cH) (by decide)) .nil) ?_
 exact .stop (bI N) (by simp)
variable {b:Bs}
theorem qK:cP b h .Eq .none .none mem true:=iO fun A s ρ mx my hA r hx hy=>by cases hx;cases hy;exact .none_none
theorem vG(B:aC (bl pr w P s₁))(L:Lst mem l m d1 d2)(hz:x.length≤100000){p p2:Nat}{st0 a0:Str}{q2:NB}{st2:AV}(r:LexR x p st0 ⟨#[]⟩ false p2 st2 a0 q2)(hne:a0≠⟨#[]⟩):
  aF (bl pr w P s₁) (h+4) (.ref 967) [.obj l] (updL mem l m d1 d2 x p (.str st0) ⟨#[]⟩) (.str a0) (updL mem l m d1 d2 x p2 st2 ⟨#[]⟩):=by
 refine DF (xs:=["self"]) (out:=.ret (.str a0)) (loc':=[("self",.obj l),("raw",.str a0)]) (hbind:=bind1 fun x9=>rfl) ?_
 refine .cons (aK (aJ (aA N (aB B L.gl rfl lZ)) (kN L.g1)) .nil) ?_
 refine .cons (SA (MB N (bD B L.gl aAL rfl) .nil (tU (h:=h) B L hz r hne))) ?_
 refine .cons (aK (aD (aA N (aB B L.gl rfl qJ)) bN cK) .nil) ?_
 refine .cons (lE (out:=.next) (n:=0) (.stop (aD N (aA N (aB B L.gl rfl kU)) jT))) ?_
 refine .cons (aK (.to (aD (aA N (aB B L.gl rfl eC)) aH cZ) (by decide)) .nil) ?_
 exact .stop (bI N) (by simp)
theorem yH(B:aC (bl pr w P s₁))(L:Lst mem l m d1 d2)(hz:x.length≤100000){p:Nat}(hp:x.length≤p):
  aF (bl pr w P s₁) (h+4) (.ref 967) [.obj l] (updL mem l m d1 d2 x p .none ⟨#[]⟩) .none (updL mem l m d1 d2 x p .none ⟨#[]⟩):=by
 refine DF (xs:=["self"]) (out:=.ret .none) (loc':=[("self",.obj l),("raw",.none)]) (hbind:=bind1 fun x9=>rfl) ?_
 refine .cons (aK (aJ (aA N (aB B L.gl rfl lZ)) (kN L.g1)) .nil) ?_
 refine .cons (SA (MB N (bD B L.gl aAL rfl) .nil (vF (h:=h) B L hz hp))) ?_
 refine .cons (aK (aD (aA N (aB B L.gl rfl qJ)) bN cK) .nil) ?_
 refine .stop (lE (out:=.ret .none) (n:=0) (.ret (aD N (aA N (aB B L.gl rfl kU)) qK) (.one (aO (.to (bR (aJ (aA N (aB B L.gl rfl tT)) (kN L.g2))) rfl) (.one (bI (aA N (aB B L.gl rfl kU)))))))) (by simp[flOf])
theorem aAM(B:aC (bl pr w P s₁))(L:Lst mem l m d1 d2)(hz:x.length≤100000){p p2:Nat}{st0 a0:Str}{q2:NB}{st2:AV}(r:LexR x p st0 ⟨#[]⟩ false p2 st2 a0 q2)(hne:a0≠⟨#[]⟩):
  aF (bl pr w P s₁) (h+5) (.ref 1003) [.obj l] (updL mem l m d1 d2 x p (.str st0) ⟨#[]⟩) (.str a0) (updL mem l m d1 d2 x p2 st2 ⟨#[]⟩):=by
 refine DF (xs:=["self"]) (out:=.ret (.str a0)) (loc':=[("self",.obj l),("token",.str a0)]) (hbind:=bind1 fun x9=>rfl) ?_
 refine .cons (SA (MB N (bD B L.gl aCD rfl) .nil (vG (h:=h) B L hz r hne))) ?_
 refine .cons (aK (aD N (aA N (aB B L.gl rfl kU)) jT) .nil) ?_
 exact .stop (bI N) (by simp)
theorem aFb(B:aC (bl pr w P s₁)):aF (bl pr w P s₁) (h+1) (.ref 996) [.obj l] mem (.obj l) mem:=by
 refine DF (xs:=["self"]) (out:=.ret (.obj l)) (loc':=[("self",.obj l)]) (hbind:=bind1 fun x9=>rfl) ?_
 exact .stop (bI N) (by simp)
end
inductive eK(x:Str):Nat→AA Str→Prop
 | last {p p2:Nat}{tok:Str}{q:NB}(r:LexR x p " " ⟨#[]⟩ false p2 .none tok q) (hne:tok≠⟨#[]⟩) (he:x.length≤p2):eK x p [tok]
 | more {p p2:Nat}{tok:Str}{toks:AA Str}{q:NB}(r:LexR x p " " ⟨#[]⟩ false p2 (.str " ") tok q) (hne:tok≠⟨#[]⟩) (t:eK x p2 toks):eK x p (tok :: toks)
section
variable {mem:AA AO}{l m d1 d2:Nat}{x tok:Str}{p:Int}{st:AV}{acc:AO}
theorem Lst.snoc(L:Lst mem l m d1 d2):Lst (mem++[acc]) l m d1 d2:=
 ⟨by rw[PA];exact Nat.lt_add_right _ L.hl,by rw[PA];exact Nat.lt_add_right _ L.hm,eX L.h1,eX L.h2,L.lm,L.l1,L.l2,L.m1,L.m2⟩
theorem Lst.upd_snoc(L:Lst mem l m d1 d2):updL (mem++[acc]) l m d1 d2 x p st tok=updL mem l m d1 d2 x p st tok++[acc]:=by
 unfold updL
 rw[List.set_append_left _ _ L.hl,List.set_append_left _ _ (by rw[List.length_set];exact L.hm)]
variable {pr:RC}{w:HD}{P:IB}{s₁:CA}{h:Nat}
theorem aFc:nsIn (Hd.KL P) TB ("StopIteration" : Str)=some none:=by kernel_rfl
theorem vH(B:aC (bl pr w P s₁))(L:Lst mem l m d1 d2)(hz:x.length≤100000){p:Nat}(hp:x.length≤p):
  StopV (bl pr w P s₁) (h+5) (.ref 1003) [.obj l] (updL mem l m d1 d2 x p .none ⟨#[]⟩) (updL mem l m d1 d2 x p .none ⟨#[]⟩):=by
 refine aAm (xs:=["self"]) B ?_ (by rfl) (by kernel_rfl) (by rfl) (bind1 fun x9=>rfl) (by decide) (by decide) (by decide) (by rfl) (by rfl) (by rfl) (by rfl)
 refine .cons (SA (MB N (bD B L.gl aCD rfl) .nil (yH (h:=h) B L hz hp))) ?_
 exact .raise B ⟨fun x9=>rfl,fun x9=>rfl,fun x9=>rfl,fun x9=>rfl⟩ (aD N (aA N (aB B L.gl rfl kU)) qK) aFc
theorem aGc(B:aC (bl pr w P s₁))(L:Lst mem l m d1 d2)(hz:x.length≤100000):∀{p:Nat}{toks:AA Str},eK x p toks→
  ∃q:Nat,NRun (bl pr w P s₁) (h+5) (.ref 1003) l 1006 (updL mem l m d1 d2 x p (.str " ") ⟨#[]⟩) (toks.map .str) (updL mem l m d1 d2 x q .none ⟨#[]⟩):=fun t=>by
 induction t with
 | last r hne he=>
  rename_i p p2 tok q
  refine ⟨p2,.cons (L.gl) (by rw[dQ,dQ]) (fun acc=>?_) (.nil L.gl fun acc=>?_)⟩
  ·rw[← L.upd_snoc,← L.upd_snoc]
   exact aAM B L.snoc hz r hne
  ·rw[← L.upd_snoc]
   exact vH B L.snoc hz he
 | more r hne _ ih=>
  obtain ⟨q,ih⟩:=ih
  refine ⟨q,.cons (L.gl) (by rw[dQ,dQ]) (fun acc=>?_) ih⟩
  rw[← L.upd_snoc,← L.upd_snoc]
  exact aAM B L.snoc hz r hne
theorem aFd:CD (Hd.KL P) (.ref 1006) "__next__" = some (some (.ref 1003)):=by kernel_rfl
theorem aFe:CD (Hd.KL P) (.ref 1006) "__iter__" = some (some (.ref 996)):=by kernel_rfl
theorem aGd:CD (Hd.KL P) (.ref 1006) "__len__" = some none:=by kernel_rfl
theorem aFf:CD (Hd.KL P) (.ref 1006) "__length_hint__" = some none:=by kernel_rfl
theorem aGe:typeIn (Hd.KL P) (.ref 1003)=some (.type "function"):=by kernel_rfl
theorem aGf:typeIn (Hd.KL P) (.ref 996)=some (.type "function"):=by kernel_rfl
theorem yI(B:aC (bl pr w P s₁))(L:Lst mem l m d1 d2)(hz:x.length≤100000){toks:AA Str}(t:eK x 0 toks)(hn:toks.length≤1000000):
  ∃q:Nat,CallF (bl pr w P s₁) (h+8) (.type "list") [.obj l] (updL mem l m d1 d2 x 0 (.str " ") ⟨#[]⟩) (.obj mem.length) (updL mem l m d1 d2 x q .none ⟨#[]⟩++[.lst (toks.map .str)]):=by
 refine o11 (aGc (h:=h) B L hz t) fun q N=>?_
 refine ⟨q,fun A s ρ mvs fl Q E hA hfl hfr r hv z=>?_⟩
 cases hv with|cons h1 hv=>
 cases hv
 refine o41 (r.inst L.gl h1) fun a d ox od x0=>?_;refine o32 x0 fun mm es ep x1 x9=>?_;clear x0;subst x1
 refine rE B aFd aGe aFe aGf aGd aFf hA hfl N (fun acc=>aFb B) (by rw[BB];exact hn) (by rw[dQ];exact L.hl) L.gl r h1 hfr fun ρ' s' mv r' x' n' h'=>?_
 rw[dQ] at h'
 exact z ρ' s' mv r' x' n' h'
theorem wC{l r:AA AO}{i:Nat}{o:AO}(e:r[i]?= some o):(l++r)[l.length+i]?= some o:=by
 rw[OA (GH _ _),Nat.add_sub_cancel_left,e]
theorem wD{l r:AA AO}{i:Nat}{o:AO}:(l++r).set (l.length+i) o=l++r.set i o:=by
 rw[WD _ _ (GH _ _),Nat.add_sub_cancel_left]
theorem aDJ(o1 o2:AO):Lst (mem++[o1,o2,.other dqO,.other dqO]) mem.length (mem.length+1) (mem.length+2) (mem.length+3):=
 ⟨by simp,by simp,wC (i:=2) rfl,wC (i:=3) rfl,by lia,by lia,by lia,by lia,by lia⟩
theorem wE(o1 o2:AO)(p:Int)(st:AV)(tok:Str):updL (mem++[o1,o2,.other dqO,.other dqO]) mem.length (mem.length+1) (mem.length+2) (mem.length+3) x p st tok=
  mem++[shO (mem.length+1) (mem.length+2) (mem.length+3) ⟨#[]⟩ true st tok,sioO x p,.other dqO,.other dqO]:=by
 unfold updL
 rw[show mem.length=mem.length+0 from rfl,wD (i:=0)]
 exact wD (i:=1)
theorem aDK(B:aC (bl pr w P s₁))(hz:x.length≤100000){toks:AA Str}(t:eK x 0 toks)(hn:toks.length≤1000000):
  ∃q:Nat,CallF (bl pr w P s₁) (h+9) (.ref 1018) [.str x] mem (.obj (mem.length+4)) (mem++[shO (mem.length+1) (mem.length+2) (mem.length+3) ⟨#[]⟩ true .none ⟨#[]⟩,sioO x (q:Int),.other dqO,.other dqO,.lst (toks.map .str)]):=by
 refine o11 (yI (h:=h) B (aDJ (mem:=mem) (shO (mem.length+1) (mem.length+2) (mem.length+3) ⟨#[]⟩ true (.str " ") ⟨#[]⟩) (sioO x 0)) hz t hn) fun q c=>?_
 rw[wE,wE,WC,PA] at c
 refine ⟨q,?_⟩
 refine pY (xs:=["s","comments","posix"]) (vs:=[.str x,.bool false,.bool true]) (out:=.ret (.obj (mem.length+4))) (loc':=[("s",.str x),("comments",.bool false),("posix",.bool true),("lex",.obj mem.length)]) B ?hb ?_ (by rfl) (by kernel_rfl) (by rfl) (by decide) (by decide) (by decide) (by rfl) (by rfl) (by rfl) (by rfl)
 case hb=>
  refine .dflt (T:=1011) B rfl fun mvs mks h1 h2=>?_
  ·refine o11 (L1 h1) fun a x0=>?_;subst x0
   obtain rfl:=List.eq_nil_of_length_eq_zero h2
   exact ⟨_,rfl,[a,.bool false,.bool true],rfl,fun hp ρ hv hk=>by
    cases hv with|cons q1 q2=>exact .cons q1 (.cons (.bool _) (.cons (.bool _) .nil))⟩
 have o:∀fd f,fd.closure=[]→fd.scope.kind=.function→OneF (fun L=>KC fd L f):=fun fd f h1 h2=>⟨fun x9=>h1,fun x9=>rfl,fun x9=>h2⟩
 refine .cons (o _ _ rfl rfl) (aK (aD N bN bW) .nil) ?_
 refine .cons (o _ _ rfl rfl) (SA (aAl B aDt (.K (by kernel_rfl)) N N (pP B aDH aEZ aGa (yF (h:=h) B)) (by lia))) ?_
 refine dU.cons (m1:=mem++[shO (mem.length+1) (mem.length+2) (mem.length+3) "#" true (.str " ") ⟨#[]⟩,sioO x 0,.other dqO,.other dqO]) (o _ _ rfl rfl) (bT fW N fO) ?_
 refine dU.cons (m1:=mem++[shO (mem.length+1) (mem.length+2) (mem.length+3) ⟨#[]⟩ true (.str " ") ⟨#[]⟩,sioO x 0,.other dqO,.other dqO]) (o _ _ rfl rfl) (aO (.to (bR (aJ N aM)) rfl) (.cons (bT aG N jY) .nil)) ?_
 exact .ret (o _ _ rfl rfl) (vV B (o _ _ rfl rfl) (U Boot.list) (.type _) N c (by lia))
end
theorem iB(x:Int){d:Int}(h:d.natAbs.log2 < 300)(h0:(d == 0)=false):HH x d=false:=by
 unfold HH
 simp only[h0]
 rw[show (decide ((if false=true then 0 else d.natAbs.log2 / 30+1) > 300))=false from by
  rw[AB (by decide)];simp only[decide_eq_false_iff_not];lia]
 rfl
noncomputable def remN(x:Int)(d:Nat):Nat:=(x.fmod d).toNat
theorem dR(x:Int){d:Nat}(h:0 < d):remN x d < d:=by
 unfold remN
 have h1:=Int.fmod_nonneg_of_pos x (b:=(d:Int)) (by lia)
 have h2:=Int.fmod_lt_of_pos x (b:=(d:Int)) (by lia)
 lia
theorem aDL(x:Int){d:Nat}(h:0 < d):x.fmod d=(remN x d:Int):=by
 unfold remN
 have h1:=Int.fmod_nonneg_of_pos x (b:=(d:Int)) (by lia)
 lia
section
variable {hp:PB}{ρ:Rho}
theorem VRs.ints:∀{ns:AA Int}{ms:AA BA},VRs hp ρ (ns.map .int) ms→∃l:AA (Int×Tok),l.map (·.1)=ns∧ms=l.map fun p=>.int p.1 p.2
 | [],_,q=>by cases q;exact ⟨[],rfl,rfl⟩
 | n :: ns,_,q=>by
  cases q with|cons a el=>?_
  cases a with|int t=>?_
  refine o12 (VRs.ints (ns:=ns) el) fun l h1 h2=>?_
  exact ⟨(n,t) :: l,by rw[AD,h1],by rw[h2];rfl⟩
variable {b:Bs}{h:Nat}{F:EA→Env}{loc:AA (Str×AV)}{mem:AA AO}{pos:Pos}
theorem aFg{ns:AA Int}:aF b h (.builtin "sum") [.lst (ns.map .int)] mem (.int ns.sum) mem:=fun A s ρ mvs Q E hA r hv q=>by
 cases hv with|cons h1 hv=>
 cases hv
 cases h1 with|lst e ha hl=>
 refine o12 hl.ints fun l e1 e2=>?_
 rename_i a its n
 have hi:its=intItems l.toArray:=by
  apply Array.toList_inj.mp
  rw[e2];unfold intItems;simp
 refine sum_intListG (xs:=l.toArray) hA.2.2 ⟨_,e,rfl,_,by rw[hi]⟩ fun h' tk t' hk=>?_
 have es:preSum (numAt l.toArray) l.toArray.size=ns.sum:=by
  rw[preSum_eq,WF (by simp),← e1]
 rw[es]
 exact q ρ _ _ (r.keeps hk s.gens r.bare s.drawn tk) (Ext.of_keeps _ _ hk) (.int _ _)
theorem lQ{e1 e2:Expr}{d:Nat}{x:Int}{l:AA Str}(hd:0 < d)(a:aE b h F e1 loc mem (.lst (l.map .str)) mem)(y:aE b h F e2 loc mem (.int (x.fmod d)) mem)(hl:l.length=d)(hz:d≤100)(hs:DA (∀o i,subscripted e2 false o i=operate [o,i] (getItem o i)) q13):
  aE b h F (.Subscript e1 e2 pos) loc mem (.str (l.getD (remN x d) default)) mem:=by
 refine bP a y (eA (k:=remN x d) (.lst _) (by rw[BB];lia) ?_ ?_) hs
 ·rw[aDL x hd];exact gP (by rw[BB,hl];exact dR x hd)
 ·have hk:remN x d < l.length:=by rw[hl];exact dR x hd
  rw[FE,EB hk,XC,EB hk];rfl
end
noncomputable def QC(ns:AA Int):AA Int:=ns.take 7++[6,1,23,8,4,0,12,19,14]
noncomputable def roomOf(ns:AA Int):Int:=8+(ns.take 7).sum.fmod 6
noncomputable def w5(x:Int):Str:=wordOf (remN x 5)
noncomputable def b5(x:Int):Str:=bareOf (remN x 5)
noncomputable def cm(x:Int):Str:=if (x.fdiv 5).fmod 2 == 1 then ("," : Str) else ("" : Str)
noncomputable def wh(x:Int):Str:=([" ","  ","\t"]:AA Str).getD (remN (x.fdiv 10) 3) default
noncomputable def writtenOf(ns:AA Int):AA Str:=(QC ns).map fun x=>b5 x++cm x
noncomputable def whitesOf(ns:AA Int):AA Str:="" :: ((QC ns).drop 1).map wh
theorem lt5{P:Nat→Prop}(a:P 0)(b:P 1)(c:P 2)(d:P 3)(e:P 4)(i:Nat)(h:i < 5):P i:=by
 cases i with|zero=>exact a|succ i=>cases i with|zero=>exact b|succ i=>cases i with|zero=>exact c|succ i=>cases i with|zero=>exact d|succ i=>cases i with|zero=>exact e|succ i=>lia
theorem word5(x:Int):(["a","b c","..//d","it's","e,f"]:AA Str).getD (remN x 5) default=w5 x:=by
 unfold w5
 exact lt5 (P:=fun i=>(["a","b c","..//d","it's","e,f"]:AA Str).getD i default=wordOf i) rfl rfl rfl rfl rfl _ (dR x (by decide))
theorem bare5(x:Int):(["a","'b c'","..//d","'it'\"'\"'s'","e,f"]:AA Str).getD (remN x 5) default=b5 x:=by
 unfold b5
 exact lt5 (P:=fun i=>(["a","'b c'","..//d","'it'\"'\"'s'","e,f"]:AA Str).getD i default=bareOf i) rfl rfl rfl rfl rfl _ (dR x (by decide))
theorem cX(ns:AA Int):9≤(QC ns).length∧(QC ns).length≤16:=by
 unfold QC
 rw[PA,List.length_take]
 simp only[UA,List.length_nil]
 lia
theorem rem5(x:Int):remN x 5=0∨remN x 5=1∨remN x 5=2∨remN x 5=3∨remN x 5=4:=by
 have:=dR x (d:=5) (by decide)
 lia
theorem aFh(x:Int):(w5 x).length≤20:=by
 unfold w5
 rcases rem5 x with h|h|h|h|h <;> rw[h] <;> decide
theorem aAN(x:Int):(b5 x).length≤20:=by
 unfold b5
 rcases rem5 x with h|h|h|h|h <;> rw[h] <;> decide
theorem tV(x:Int):(cm x).length≤1:=by
 unfold cm
 split <;> decide
theorem aFi(x:Int):(wh x).length≤2:=by
 unfold wh
 have:=dR (x.fdiv 10) (d:=3) (by decide)
 rcases (show remN (x.fdiv 10) 3=0∨remN (x.fdiv 10) 3=1∨remN (x.fdiv 10) 3=2 by lia) with h|h|h <;> rw[h] <;> decide
theorem qL{α:Type}(f g:α→AV):∀l:AA α,pairs (l.map f) (l.map g)=l.map fun x=>.tup [f x,g x]
 | []=>by simp[pairs]
 | x :: l=>by
  have:=qL f g l
  simp[pairs,this]
theorem fK{n:Nat}:∀l:AA Int,AV.underL n (l.map .int)=true
 | []=>by simp[AV.underL]
 | x :: l=>by
  have:=fK (n:=n) l
  simp[AV.underL,AV.under,this]
theorem iJ(ns:AA Int):(writtenOf ns).length=(QC ns).length:=by unfold writtenOf;rw[BB]
theorem gK(ns:AA Int):(whitesOf ns).length=(QC ns).length:=by
 have:=cX ns
 unfold whitesOf;rw[UA,BB,AG];lia
theorem jQ(ns:AA Int):∀t∈writtenOf ns,t.length≤40:=fun t ht=>by
 unfold writtenOf at ht
 refine o12 (List.mem_map.mp ht) fun x x9 x0=>?_;subst x0
 have h1:=aAN x
 have h2:=tV x
 rw[GD];lia
theorem kY(ns:AA Int):∀t∈whitesOf ns,t.length≤40:=fun t ht=>by
 unfold whitesOf at ht
 rcases NA.mp ht with rfl|ht
 ·decide
 ·refine o12 (List.mem_map.mp ht) fun x x9 x0=>?_;subst x0
  have:=aFi x
  exact lz
noncomputable def pathOf(i:Nat):Str:=match i with|0=>"/s/a" | 1=>"/s/b c" | 2=>"/d" | 3=>"/s/it's" | _=>"/s/e,f"
theorem path5(x:Int):(["/s/a","/s/b c","/d","/s/it's","/s/e,f"]:AA Str).getD (remN x 5) default=pathOf (remN x 5):=by
 rcases rem5 x with h|h|h|h|h <;> rw[h] <;> rfl
noncomputable def tokOf(i:Nat)(c:NB):Str:=wordOf i++(if c then ("," : Str) else ("" : Str))
theorem aAO(x:Int):w5 x++cm x=tokOf (remN x 5) ((x.fdiv 5).fmod 2 == 1):=by
 unfold tokOf cm w5;rfl
theorem aCi:∀i,i < 5→∀c:NB,((seqIndex? (-1) (tokOf i c).length).bind ((tokOf i c).cps[·]?)).map (fun cc=>((⟨#[cc]⟩:Str) == ","))=some c∧(tokOf i c).length≤100:=by decide +kernel
theorem wF:∀i,i < 5→OC (tokOf i true) none (some (-1))=wordOf i∧tokOf i false=wordOf i:=by decide +kernel
theorem aAP:∀i,i < 5→("/s" : Str).length+(wordOf i).length≤1000∧Txt.startswith (wordOf i) "/" = false:=by decide +kernel
theorem aAQ:∀i,i < 5→let x:Str:="/s" ++("/" ++wordOf i);x.length≤1000∧OC x none (some 1)="/" ∧(OC x (some 1) (some 2) == "/")=false∧(OC x (some 1) none).length≤1000∧(HC (OC x (some 1) none) "/").length≤1000:=by decide +kernel
theorem yJ:∀i,i < 5→let x:Str:="/s" ++("/" ++wordOf i);(((HC (OC x (some 1) none) "/").foldl stepN []).map (·.length)).sum≤1000∧(normOf x).length≤1000∧(∀c∈HC (OC x (some 1) none) "/",c.length≤1000)∧normOf x=pathOf i:=by decide +kernel
theorem wG(i:Nat):(("/s" : Str)++("/" ++wordOf i))≠⟨#[]⟩:=fun e=>by
 have:=RB Str.length e
 rw[GD] at this
 have h:("/s" : Str).length=2:=by decide
 rw[h,e0] at this
 lia
section
variable {b:Bs}{h:Nat}{m0:AA AO}{pos:Pos}
theorem wH{α:Type}(f g:α→Str)(l:AA α)(B:aC b){elts:AA Expr}{n:Nat}(u:∀o∈m0,o.under m0.length=true):
  cB b h (.Tuple elts n pos) (.obj m0.length) (m0++[.zip ((l.map f).map .str) ((l.map g).map .str)]) (l.map fun x=>.tup [.str (f x),.str (g x)]) (fun x9=>True) m0 [.dead]:=by
 have:=rX (b:=b) (h:=h) (m0:=m0) (elts:=elts) (n:=n) (pos:=pos) B (a1:=(l.map f).map .str) (a2:=(l.map g).map .str) u (bE _) (bE _)
 rw[show pairs ((l.map f).map .str) ((l.map g).map .str)=l.map fun x=>AV.tup [.str (f x),.str (g x)] from by rw[FD,FD];exact qL _ _ l] at this
 exact this
end
noncomputable def rowOf(ns:AA Int):Row:=(whitesOf ns).zip (writtenOf ns)
noncomputable def pcsOf(ns:AA Int):Row:=(rowOf ns).flatMap ID
noncomputable def dueOf(ns:AA Int):AA Str:=linesOf (roomOf ns) (pcsOf ns)
noncomputable def toksOf(ns:AA Int):AA Str:=(QC ns).map fun x=>w5 x++cm x
@[irreducible] noncomputable def halfOf(ns:AA Int):Nat:=(QC ns).length / 2
noncomputable def row1(ns:AA Int):Row:=((whitesOf ns).take (halfOf ns)).zip ((writtenOf ns).take (halfOf ns))
noncomputable def row2(ns:AA Int):Row:=(("" : Str) :: (whitesOf ns).drop (halfOf ns+1)).zip ((writtenOf ns).drop (halfOf ns))
noncomputable def wAt(ns:AA Int):Str:=(whitesOf ns).getD (halfOf ns) default
structure Fed(ns:AA Int)(l:AA Part):Prop where
 ok:∀p∈l,p.Ok
 q:FOk st0 (allPairs l)
 ho:EndOk (feedF (roomOf ns) (allPairs l) st0)
 eq:toldOf (roomOf ns) (allPairs l)=dueOf ns
structure LawOk(ns:AA Int):Prop where
 fed1:∃p0 rows,Fed ns [⟨"",(rowOf ns).txt,p0,rows⟩]
 fed2:∃p0 rows p1 rows1,Fed ns [⟨"",(row1 ns).txt,p0,rows⟩,⟨wAt ns,(row2 ns).txt,p1,rows1⟩]
 pcs:∀p∈pcsOf ns,p.2≠⟨#[]⟩∧p.1.length+p.2.length≤100
 spl:∀t∈writtenOf ns,t.length≤1000∧(HC t " ").length≤100∧(HC t " ")≠[]
 len:(pcsOf ns).length≤200
 jl:((dueOf ns).map (·.length)).sum≤100000
 jlen:(UC "" (dueOf ns)).length≤100000
 lex:eK (UC "" (dueOf ns)) 0 (toksOf ns)
theorem nY:∀(ws ts:AA Str),pairs (ws.map .str) (ts.map .str)=Row.tups (ws.zip ts)
 | [],_=>by simp[pairs,Row.tups]
 | _ :: _,[]=>by simp[pairs,Row.tups]
 | a :: ws,d :: ts=>by
  have:=nY ws ts
  simp only[Row.tups] at this ⊢
  simp[pairs,this]
section
variable {pr:RC}{w:HD}{P:IB}{s₁:CA}{h:Nat}{mem:AA AO}{x:Str}
theorem aCj(B:aC (bl pr w P s₁))(hz:x.length≤100000){toks:AA Str}(t:eK x 0 toks)(hn:toks.length≤1000000)(u:∀o∈mem,o.under mem.length=true):
  CallF (bl pr w P s₁) (h+9) (.ref 1018) [.str x] mem (.lst (toks.map .str)) mem:=by
 refine o11 (aDK (h:=h) (mem:=mem) B hz t hn) fun q c=>?_
 refine CallF.freeze (m1:=mem) (junk:=[shO (mem.length+1) (mem.length+2) (mem.length+3) ⟨#[]⟩ true .none ⟨#[]⟩,sioO x (q:Int),.other dqO,.other dqO]) ?_ (MA _) u (bE _)
 rw[PA]
 exact c
set_option maxHeartbeats 4000000 in
theorem aGg(B:aC (bl pr w P s₁))(H:dD pr w P s₁){ns:AA Int}(hl:ns.length≤1000)(ok:LawOk ns):CallF (bl pr w P s₁) (h+10) (.ref 1060) [.lst (ns.map .int)] [] (.bool true) []:=by
 have o:∀fd f,fd.closure=[]→fd.scope.kind=.function→OneF (fun L=>KC fd L f):=fun fd f h1 h2=>⟨fun x9=>h1,fun x9=>rfl,fun x9=>h2⟩
 refine o02 (cX ns) fun l1 l2=>?_
 have w16:(whitesOf ns).length≤16:=GA (DE (gK ns)) l2
 have t16:(writtenOf ns).length≤16:=GA (DE (iJ ns)) l2
 have hN:(QC ns).length≤1000000:=GA l2 (by decide)
 have hs:ns.length≤1000000:=GA hl (by decide)
 have u0:∀o∈([]:AA AO),o.under ([]:AA AO).length=true:=by simp
 have u1:∀o∈([]++[.dead]:AA AO),o.under ([]++[.dead]:AA AO).length=true:=by simp[AO.under]
 have fe:∀fd f,fd.scope.kind=.function→fd.globals=TB→fd.builtins=DC→aS (fun L=>KC fd L f):=fun fd f h1 h2 h3=>⟨fun x9=>rfl,fun x9=>h1,fun x9=>h2,fun x9=>h3⟩
 have hz1:(rowOf ns).length≤1000:=lzp (GA w16 (by decide))
 have szz:∀(a d:AA Str),(∀t∈a,t.length≤40)→(∀t∈d,t.length≤40)→a.length≤16→Row.size (a.zip d)≤100000:=fun a d ha hd hla=>by
  have:Row.size (a.zip d)≤80 * (a.zip d).length:=Row.size_le fun p hp=>by
   have h1:=ha _ (DD (a:=p.1) (b:=p.2) hp).1
   have h2:=hd _ (DD (a:=p.1) (b:=p.2) hp).2
   exact Nat.add_le_add h1 h2
  exact GA (GA this (ZH 80 (lzp hla))) (by decide)
 have fdv:(((writtenOf ns).map AV.str).length:Int).fdiv 2=(halfOf ns:Nat):=by
  rw[BB,iJ];unfold halfOf
  rw[Int.fdiv_eq_ediv_of_nonneg _ (by decide)];rfl
 have itz:∀{H:Nat}{m0:AA AO}{pos:Pos}{elts:AA Expr}{n:Nat}(a d:AA Str),(∀o∈m0,o.under m0.length=true)→cB (bl pr w P s₁) H (.Tuple elts n pos) (.obj m0.length) (m0++[.zip (a.map .str) (d.map .str)]) (Row.tups (a.zip d)) (fun x9=>True) m0 [.dead]:=fun a d u=>by
  rw[← nY];exact rX B u (bE _) (bE _)
 have w15a:(("" : Str) :: (whitesOf ns).drop (halfOf ns+1)).length≤16:=by
  rw[UA,AG];exact EH (GA (Nat.sub_le_sub_left (EH (Nat.zero_le _)) _) (Nat.sub_le_sub_right w16 1))
 have w15:=GA w15a (show 16≤1000 by decide)
 have hh:halfOf ns≤8∧halfOf ns < (whitesOf ns).length:=by
  unfold halfOf;rw[gK];exact ⟨Nat.div_le_div_right (c:=2) l2,Nat.div_lt_self (FF (by decide) l1) (by decide)⟩
 have tkm:∀(l:AA Str) (n:Nat),pick (l.map AV.str) none (some (n:Int))=(l.take n).map .str:=fun l n=>by rw[lG,List.map_take]
 have drm:∀(l:AA Str) (n:Nat),pick (l.map AV.str) (some (n:Int)) none=(l.drop n).map .str:=fun l n=>by rw[hV,List.map_drop]
 have lw:((whitesOf ns).map AV.str).length≤1000000:=lm (GA w16 (by decide))
 have lt:((writtenOf ns).map AV.str).length≤1000000:=lm (GA t16 (by decide))
 have hz2:(row1 ns).length≤1000:=lzp (ltk (GA w16 (by decide)))
 have hz3:(row2 ns).length≤1000:=lzp w15
 have sz2:(row1 ns).size≤100000:=szz _ _ (fun t ht=>kY ns t (PE ht)) (fun t ht=>jQ ns t (PE ht)) (ltk w16)
 have sz3:(row2 ns).size≤100000:=szz _ _ (fun t ht=>by
  rcases NA.mp ht with rfl|ht
  ·decide
  ·exact kY ns t (HF ht)) (fun t ht=>jQ ns t (HF ht)) w15a
 have wat:((whitesOf ns).map AV.str)[halfOf ns]?= some (.str (wAt ns)):=by
  unfold wAt
  rw[FE,EB hh.2,XC,EB hh.2];rfl
 refine o21 ok.fed1 fun p0 rows F1=>?_
 refine o41 ok.fed2 fun q0 qrows q1 qrows1 F2=>?_
 refine pY (xs:=["script"]) (vs:=[.lst (ns.map .int)]) (out:=.ret (.bool true)) (loc':=[("script",.lst (ns.map .int)),("room",.int (roomOf ns)),("numbers",.lst ((QC ns).map .int)),("words",.lst (((QC ns).map w5).map .str)),("bare",.lst (((QC ns).map b5).map .str)),("commas",.lst (((QC ns).map cm).map .str)),("whites",.lst ((whitesOf ns).map .str)),("written",.lst ((writtenOf ns).map .str)),("half",.int (halfOf ns:Nat)),("row",.str (rowOf ns).txt),("due",.lst ((dueOf ns).map .str)),("halves",.lst [.lst [.str "",.str (row1 ns).txt],.lst [.str (wAt ns),.str (row2 ns).txt]]),("read",.lst ((toksOf ns).map .str)),("straight",.lst (((QC ns).map fun x=>pathOf (remN x 5)).map .str))]) B (.pure (bind1 fun x9=>rfl)) ?_ (by rfl) (by kernel_rfl) (by rfl) (by decide) (by decide) (by decide) (by rfl) (by rfl) (by rfl) (by rfl)
 refine .cons (o _ _ rfl rfl) (oI (x:="numbers") (y:="room") (v1:=.lst ((QC ns).map .int)) (v2:=.int (roomOf ns)) B ⟨fun x9=>rfl,fun x9=>rfl,fun x9=>rfl,fun x9=>rfl⟩ (bV (.cons (.to (aV (dE (l:=ns.map .int) N bM (bG aH) (.lst _) (lm hs))
  (aW (.cons aH (.cons aH (.cons aH (.cons aH (.cons aH (.cons aH (.cons aH (.cons aH (.cons aH .nil))))))))) (by decide)) (bY (.lst _) (.lst _) ?_)) ?_) (.cons (.to (aV aH (aV (CX aFQ (.cons (.to (dE (l:=ns.map .int) N bM (bG aH) (.lst _) (lm hs)) ?_) .nil) (aFg (ns:=ns.take 7))) aH (dY (by decide))) dX) ?_) .nil)) (by simp))) ?_
 ·exact GA (Nat.add_le_add_right (GA (uI none (some 7)) (lm hl)) 9) (by decide)
 ·rw[show (some (7:Int))=some ((7:Nat):Int) from rfl,lG];unfold QC;rw[FC,List.map_take];rfl
 ·rw[show (some (7:Int))=some ((7:Nat):Int) from rfl,lG,List.map_take]
 ·rfl
 refine .cons (o _ _ rfl rfl) (SC (items:=(QC ns).map .int) (outs:=((QC ns).map w5).map .str) N (cT B) trivial (lm hN) fun L=>?_) ?_
 ·rw[FD]
  exact aZ.map _ _ fun x hx=>⟨_,ACN,(fun y w e=>nomatch e),.to (lQ (d:=5) (l:=["a","b c","..//d","it's","e,f"]) (by decide) (aW (.cons aG (.cons aG (.cons aG (.cons aG (.cons aG .nil))))) (by simp)) (aV N aH (dY (by decide))) rfl (by decide)) (RB AV.str (word5 x))⟩
 refine .cons (o _ _ rfl rfl) (SC (items:=(QC ns).map .int) (outs:=((QC ns).map b5).map .str) N (cT B) trivial (lm hN) fun L=>?_) ?_
 ·rw[FD]
  exact aZ.map _ _ fun x hx=>⟨_,ACN,(fun y w e=>nomatch e),.to (lQ (d:=5) (l:=["a","'b c'","..//d","'it'\"'\"'s'","e,f"]) (by decide) (aW (.cons aG (.cons aG (.cons aG (.cons aG (.cons aG .nil))))) (by simp)) (aV N aH (dY (by decide))) rfl (by decide)) (RB AV.str (bare5 x))⟩
 refine .cons (o _ _ rfl rfl) (SC (items:=(QC ns).map .int) (outs:=((QC ns).map cm).map .str) N (cT B) trivial (lm hN) fun L=>?_) ?_
 ·rw[FD]
  refine aZ.map _ _ fun x hx=>⟨_,ACN,(fun y w e=>nomatch e),?_⟩
  by_cases hc:((x.fdiv 5).fmod 2 == 1)=true
  ·exact .to (rI (.to (aD (aV (aV N aH (hJ (by decide) (iB x (by decide) (by decide)))) aH (dY (by decide))) aH fR) hc) aG) (by show AV.str "," = AV.str (cm x);unfold cm;rw[OB hc])
  ·exact .to (rJ (.to (aD (aV (aV N aH (hJ (by decide) (iB x (by decide) (by decide)))) aH (dY (by decide))) aH fR) (Bool.not_eq_true _▸hc)) aG) (by show AV.str "" = AV.str (cm x);unfold cm;rw[AB hc])
 refine .cons (o _ _ rfl rfl) (aK (.to (aD (lF (items:=((QC ns).map w5).map .str) (outs:=((QC ns).map b5).map .str) N (cT B) trivial (lm (lm hN)) fun L=>?_) N (hR (.lst _) (.lst _))) (by simp)) .nil) ?_
 ·rw[FD,FD]
  exact aZ.map _ _ fun x hx=>⟨_,ACN,(fun y w e=>nomatch e),CX aDv (.cons N .nil) (aDG (h:=0) B (by simp) (remN x 5))⟩
 refine .cons (o _ _ rfl rfl) (aL.keep (junk:=[.dead]) (oI (x:="written") (y:="whites") (v1:=.lst ((writtenOf ns).map .str)) (v2:=.lst ((whitesOf ns).map .str)) B (fe _ _ rfl rfl rfl) (bV (.cons (iV (items:=(QC ns).map fun x=>.tup [.str (b5 x),.str (cm x)]) (outs:=(writtenOf ns).map .str) (m0:=[]) (rest:=[.dead]) (Mm:=fun x9=>True)
  (CX lM (.cons N (.cons N .nil)) iT) (wH b5 cm (QC ns) B u0) trivial (lm hN) fun L=>?_) (.cons (.to (aV (aW (.cons aG .nil) (by simp)) (lF (items:=((QC ns).drop 1).map .int) (outs:=(((QC ns).drop 1).map wh).map .str) (.to (dE N (bG aH) bM (.lst _) (lm hN)) ?_) (cT B) trivial (lm (ldp hN)) fun L=>?_) (bY (.lst _) (.lst _) ?_)) ?_) .nil)) (by simp))) u0 ?_) ?_
 ·unfold writtenOf
  rw[FD]
  refine aZ.map _ _ fun x hx=>⟨_,ACP,(fun y w e=>nomatch e),aV N N (cV ?_)⟩
  exact GA (Nat.add_le_add (aAN x) (tV x)) (by decide)
 ·rw[show (some (1:Int))=some ((1:Nat):Int) from rfl,hV,List.map_drop]
 ·rw[FD]
  exact aZ.map _ _ fun x hx=>⟨_,ACN,(fun y w e=>nomatch e),.to (lQ (d:=3) (x:=x.fdiv 10) (l:=[" ","  ","\t"]) (by decide) (aW (.cons aG (.cons aG (.cons aG .nil))) (by simp)) (aV (aV N aH (hJ (by decide) (iB x (by decide) (by decide)))) aH (dY (by decide))) rfl (by decide)) (show _=AV.str (wh x) from rfl)⟩
 ·exact GA (Nat.add_le_add_left (lm (lm (ldp l2))) 1) (by decide)
 ·rfl
 ·show AV.underL 0 [.lst (ns.map .int),.int (roomOf ns),.lst ((QC ns).map .int),.lst (((QC ns).map w5).map .str),.lst (((QC ns).map b5).map .str),.lst (((QC ns).map cm).map .str),.lst ((whitesOf ns).map .str),.lst ((writtenOf ns).map .str)]=true
  simp only[AV.underL,AV.under,bE,fK,Bool.and_true]
 refine .cons (o _ _ rfl rfl) (aL.keep (junk:=[.dead]) (oI (x:="row") (y:="half") (v1:=.str (rowOf ns).txt) (v2:=.int (halfOf ns:Nat)) B (fe _ _ rfl rfl rfl) (bV (.cons (CX cW (.cons (CX lM (.cons N (.cons N .nil)) iT) .nil) (gV (h:=h) (r:=rowOf ns) B (itz _ _ u0) hz1 (szz _ _ (kY ns) (jQ ns) w16)))
  (.cons (.to (aV (CX fJ (.cons N .nil) (iE (.lst _) (lm (GA t16 (by decide))))) aH (hJ (by decide) (iB _ (by decide) (by decide)))) (RB AV.int fdv)) .nil)) (by simp))) u0 ?_) ?_
 ·show AV.underL 0 [.lst (ns.map .int),.int (roomOf ns),.lst ((QC ns).map .int),.lst (((QC ns).map w5).map .str),.lst (((QC ns).map b5).map .str),.lst (((QC ns).map cm).map .str),.lst ((whitesOf ns).map .str),.lst ((writtenOf ns).map .str),.int (halfOf ns:Nat),.str (rowOf ns).txt]=true
  simp only[AV.underL,AV.under,bE,fK,Bool.and_true]
 refine .cons (o _ _ rfl rfl) (SA (CX uY (.cons (CX tE (.cons N (.cons N .nil)) (tF (h:=0) B u0 (GA w16 (by decide)) ok.spl (GA t16 (by decide)))) (.cons N .nil)) (vA (h:=h) (r:=pcsOf ns) B u0 ok.len ok.pcs))) ?_
 refine .cons (o _ _ rfl rfl) (aL.keep (junk:=[.dead,.dead]) (.into (SA (v:=.lst [.lst [.str "",.str (row1 ns).txt],.lst [.str (wAt ns),.str (row2 ns).txt]]) (m1:=([]++[.dead])++[.dead]) (aW (.cons (mem':=[]++[.dead]) (aW (.cons aG (.cons (mem':=[]++[.dead]) ?g1 .nil)) (by simp)) (.cons (mem':=([]++[.dead])++[.dead]) (aW (.cons (mem':=[]++[.dead]) ?g2 (.cons (mem':=([]++[.dead])++[.dead]) ?g3 .nil)) (by simp)) .nil)) (by simp))) rfl) u0 ?_) ?_
 case g1=>exact CX cW (.cons (CX lM (.cons (.to (dE N bM (bG N) (.lst _) lw) (RB AV.lst (tkm _ _))) (.cons (.to (dE N bM (bG N) (.lst _) lt) (RB AV.lst (tkm _ _))) .nil)) iT) .nil) (gV (h:=h) (r:=row1 ns) B (itz _ _ u0) hz2 sz2)
 case g2=>exact bP N N (eA (.lst _) lw (gP (by rw[BB];exact hh.2)) wat)
 case g3=>
  have el:([AV.str ""]:AA AV).length+(((whitesOf ns).drop (halfOf ns+1)).map AV.str).length≤1000000:=GA (Nat.add_le_add_left (lm (ldp w16)) 1) (by decide)
  have hidx:AV.int ((halfOf ns:Nat)+1)=AV.int ((halfOf ns+1:Nat):Int):=by rw[Int.natCast_add];rfl
  exact CX cW (.cons (CX lM (.cons (.to (v':=AV.lst (((("" : Str) :: (whitesOf ns).drop (halfOf ns+1)).map .str))) (aV (aW (.cons aG .nil) (by simp)) (.to (dE N (bG (.to (aV N aH dX) hidx)) bM (.lst _) lw) (RB AV.lst (drm _ (halfOf ns+1)))) (bY (.lst _) (.lst _) el)) rfl) (.cons (.to (dE N (bG N) bM (.lst _) lt) (RB AV.lst (drm _ _))) .nil)) iT) .nil) (gV (h:=h) (r:=row2 ns) B (itz _ _ u1) hz3 sz3)
 ·show AV.underL 0 [.lst (ns.map .int),.int (roomOf ns),.lst ((QC ns).map .int),.lst (((QC ns).map w5).map .str),.lst (((QC ns).map b5).map .str),.lst (((QC ns).map cm).map .str),.lst ((whitesOf ns).map .str),.lst ((writtenOf ns).map .str),.int (halfOf ns:Nat),.str (rowOf ns).txt,.lst ((dueOf ns).map .str),.lst [.lst [.str "",.str (row1 ns).txt],.lst [.str (wAt ns),.str (row2 ns).txt]]]=true
  simp only[AV.underL,AV.under,bE,fK,Bool.and_true]
 refine .cons (o _ _ rfl rfl) (aK (aQ (cE (.to (aD (CX nI (.cons (aW (.cons (aW (.cons aG (.cons N .nil)) (by simp)) .nil) (by simp)) (.cons N .nil)) (nQ (h:=h) (l:=[⟨"",(rowOf ns).txt,p0,rows⟩]) B H u0 F1.ok F1.q F1.ho)) N (hR (.lst _) (.lst _))) ?_) (cE (.to (aD (CX nI (.cons N (.cons N .nil)) (nQ (h:=h) (l:=[⟨"",(row1 ns).txt,q0,qrows⟩,⟨wAt ns,(row2 ns).txt,q1,qrows1⟩]) B H u0 F2.ok F2.q F2.ho)) N (hR (.lst _) (.lst _))) ?_) dH))) .nil) ?_
 ·rw[F1.eq];unfold dueOf;simp
 ·rw[F2.eq];unfold dueOf;simp
 refine dU.assign B (o _ _ rfl rfl) (fe _ _ rfl rfl rfl) (vV B (o _ _ rfl rfl) aDu (.K (by kernel_rfl)) (MB aG iQ (.cons N .nil) (iR (.lst _) ?_)) (aCj (h:=h) B ok.jlen ok.lex ?_ u0) (by lia)) ?_
 ·have:("" : Str).length=0:=by decide
  have:=ok.jl
  rw[‹("" : Str).length=0›];lia
 ·exact GA (lm l2) (by decide)
 refine .cons (o _ _ rfl rfl) (aL.keep (junk:=[.dead]) (aK (.to (aD N (iV (items:=(QC ns).map fun x=>.tup [.str (w5 x),.str (cm x)]) (outs:=(toksOf ns).map .str) (m0:=[]) (rest:=[.dead]) (Mm:=fun x9=>True)
  (CX lM (.cons N (.cons N .nil)) iT) (wH w5 cm (QC ns) B u0) trivial (lm hN) fun L=>?_) (hR (.lst _) (.lst _))) (by simp)) .nil) u0 ?_) ?_
 ·unfold toksOf
  rw[FD]
  refine aZ.map _ _ fun x hx=>⟨_,ACP,(fun y w e=>nomatch e),aV N N (cV ?_)⟩
  exact GA (Nat.add_le_add (aFh x) (tV x)) (by decide)
 ·show AV.underL 0 [.lst (ns.map .int),.int (roomOf ns),.lst ((QC ns).map .int),.lst (((QC ns).map w5).map .str),.lst (((QC ns).map b5).map .str),.lst (((QC ns).map cm).map .str),.lst ((whitesOf ns).map .str),.lst ((writtenOf ns).map .str),.int (halfOf ns:Nat),.str (rowOf ns).txt,.lst ((dueOf ns).map .str),.lst [.lst [.str "",.str (row1 ns).txt],.lst [.str (wAt ns),.str (row2 ns).txt]],.lst ((toksOf ns).map .str)]=true
  simp only[AV.underL,AV.under,bE,fK,Bool.and_true]
 refine .cons (o _ _ rfl rfl) (SC (items:=(toksOf ns).map .str) (outs:=((QC ns).map fun x=>pathOf (remN x 5)).map .str) N (cT B) trivial (lm (lm hN)) fun L=>?_) ?_
 ·unfold toksOf
  rw[FD,FD]
  refine aZ.map _ _ fun x hx=>⟨_,ACN,(fun y w e=>nomatch e),?_⟩
  rw[show (AV.str ∘ fun x=>w5 x++cm x) x=AV.str (tokOf (remN x 5) ((x.fdiv 5).fmod 2 == 1)) from RB AV.str (aAO x)]
  show aE _ _ _ _ _ _ (.str (pathOf (remN x 5))) _
  have hi:=dR x (d:=5) (by decide)
  generalize remN x 5=i at *
  generalize ((x.fdiv 5).fmod 2 == 1)=c
  refine o02 (aCi i hi c) fun t1 t2=>?_
  refine o12 (Option.map_eq_some_iff.mp t1) fun cc hcc hc=>?_
  refine o02 (aAP i hi) fun j1 j2=>?_
  refine o05 (aAQ i hi) fun n1 n2 n3 n4 n5=>?_
  refine o04 (yJ i hi) fun m1 m2 m3 m4=>?_
  cases c with
  | true=>
   exact .to (CX nH (.cons (CX gU (.cons aG (.cons (rI (.to (aD (bP N (fU aH) (mX (GA t2 (by decide)) hcc)) aG aT) hc) (.to (dB N bM (bG (fU aH)) (GA t2 (by decide))) (RB AV.str (wF i hi).1))) .nil)) (aAp (h:=0) B j1 (by decide) j2 (by decide))) .nil) (nM (h:=0) B n1 (wG i) n2 n3 n4 n5 m1 m2 m3 u0)) (RB AV.str m4)
  | false=>
   exact .to (CX nH (.cons (CX gU (.cons aG (.cons (rJ (.to (aD (bP N (fU aH) (mX (GA t2 (by decide)) hcc)) aG aT) hc) (.to N (RB AV.str (wF i hi).2))) .nil)) (aAp (h:=0) B j1 (by decide) j2 (by decide))) .nil) (nM (h:=0) B n1 (wG i) n2 n3 n4 n5 m1 m2 m3 u0)) (RB AV.str m4)
 refine .of (o _ _ rfl rfl) (.stop (bI (.to (wN N (lF (items:=(QC ns).map .int) (outs:=((QC ns).map fun x=>pathOf (remN x 5)).map .str) N (cT B) trivial (lm hN) fun L=>?_) (yX (.lst _) (.lst _))) (by simp))) (by simp))
 rw[FD]
 exact aZ.map _ _ fun x hx=>⟨_,ACN,(fun y w e=>nomatch e),.to (lQ (d:=5) (l:=["/s/a","/s/b c","/d","/s/it's","/s/e,f"]) (by decide) (aW (.cons aG (.cons aG (.cons aG (.cons aG (.cons aG .nil))))) (by simp)) (aV N aH (dY (by decide))) rfl (by decide)) (RB AV.str (path5 x))⟩
end
theorem wI{x y:Str}(h:x.cps.toList=y.cps.toList):x=y:=Str.ext' (Array.toList_inj.mp h)
theorem cA(x y:Str):(x++y).cps.toList=x.cps.toList++y.cps.toList:=by rw[Str.cps_append,QF]
theorem qM(s:Str):UC s []=⟨#[]⟩:=by
 show FG s []=_
 rw[ZF];rfl
theorem eZ(s x:Str):UC s [x]=x:=by
 show FG s [x]=_
 rw[ZF];rfl
theorem eH(s x y:Str)(r:AA Str):UC s (x :: y :: r)=x++s++UC s (y :: r):=by
 show FG s (x :: y :: r)=x++s++FG s (y :: r)
 rw[ZF,ZF];rfl
theorem iK(x y:Str):UC y (HC x y)=x:=by
 show FG y (HC x y)=_
 rw[ZF];exact StrLaws.join_split x y
theorem tjoin0:∀l:AA Str,(UC ⟨#[]⟩ l).cps.toList=l.flatMap (·.cps.toList)
 | []=>by rw[qM];rfl
 | [x]=>by rw[eZ];simp
 | x :: y :: r=>by
  rw[eH,cA,cA,tjoin0 (y :: r)]
  simp
theorem wJ{c:Nat}:∀{x y j k:AA Nat},c∉x→c∉y→x++c :: j=y++c :: k→x=y∧j=k
 | [],[],j,k,_,_,e=>⟨rfl,(List.cons.inj e).2⟩
 | [],b :: y,j,k,_,h2,e=>absurd (List.cons.inj e).1 fun q=>h2 (by rw[q];exact .head _)
 | a :: x,[],j,k,h1,_,e=>absurd (List.cons.inj e).1 fun q=>h1 (by rw[← q];exact .head _)
 | a :: x,b :: y,j,k,h1,h2,e=>by
  refine o02 (List.cons.inj e) fun e1 e2=>?_
  refine o02 (wJ (fun q=>h1 (.tail _ q)) (fun q=>h2 (.tail _ q)) e2) fun e3 e4=>?_
  exact ⟨by rw[e1,e3],e4⟩
theorem qN{c:Nat}:∀{A B:AA Str},(∀x∈A,c∉x.cps.toList)→(∀x∈B,c∉x.cps.toList)→A.length=B.length→UC ⟨#[c]⟩ A=UC ⟨#[c]⟩ B→A=B
 | [],[],_,_,_,_=>rfl
 | [x],[y],_,_,_,e=>by rw[eZ,eZ] at e;rw[e]
 | x :: x2 :: A,y :: y2 :: B,h1,h2,hl,e=>by
  rw[eH,eH] at e
  have e1:=RB (fun z:Str=>z.cps.toList) e
  simp only[cA] at e1
  rw[WC,WC] at e1
  refine o02 (wJ (c:=c) (h1 x (.head _)) (h2 y (.head _)) e1) fun e2 e3=>?_
  rw[wI e2,qN (fun z hz=>h1 z (.tail _ hz)) (fun z hz=>h2 z (.tail _ hz)) (by simpa using hl) (wI e3)]
 | [],_ :: _,_,_,hl,_=>by simp at hl
 | _ :: _,[],_,_,hl,_=>by simp at hl
 | [_],_ :: _ :: _,_,_,hl,_=>by simp at hl
 | _ :: _ :: _,[_],_,_,hl,_=>by simp at hl
theorem qO(c:Nat):∀l:AA Nat,cnt c l=(l.count c:Int)
 | []=>by rw[cnt_nil];rfl
 | a :: l=>by
  rw[cnt_cons,qO c l,List.count_cons]
  by_cases h:a=c
  ·subst h;simp;lia
  ·simp[h]
theorem iL(c:Nat):∀{L:AA Str},L≠[]→(UC ⟨#[c]⟩ L).cps.toList.count c+1=L.length+(L.map fun x=>x.cps.toList.count c).sum
 | [],h=>absurd rfl h
 | [x],_=>by rw[eZ];simp;lia
 | x :: y :: r,_=>by
  have ih:=iL c (L:=y :: r) (by simp)
  rw[eH,cA,cA,List.count_append,List.count_append]
  have e:(⟨#[c]⟩:Str).cps.toList.count c=1:=by simp
  rw[e]
  simp only[UA,AD,LH] at ih ⊢
  lia
theorem tW{α:Type}(f:α→Nat):∀{l:AA α},(l.map f).sum=0→∀x∈l,f x=0
 | a :: l,h,x,hx=>by
  rw[AD,LH] at h
  rcases NA.mp hx with rfl|hx
  ·lia
  ·exact tW f (l:=l) (by lia) x hx
theorem yK{c:Nat}{L:AA Str}(hn:L≠[])(h:∀x∈L,c∉x.cps.toList):HC (UC ⟨#[c]⟩ L) ⟨#[c]⟩=L:=by
 have hc:∀{x:Str},c∉x.cps.toList↔x.cps.toList.count c=0:=fun {x}=>List.count_eq_zero.symm
 have e1:=split_len (UC ⟨#[c]⟩ L) c
 rw[qO] at e1
 have e2:=iL c hn
 have e3:(L.map fun x=>x.cps.toList.count c).sum=0:=by
  have:∀{l:AA Str},(∀x∈l,c∉x.cps.toList)→(l.map fun x=>x.cps.toList.count c).sum=0:=fun {l} hl=>by
   induction l with
   | nil=>rfl
   | cons a l ih=>rw[AD,LH,ih fun x hx=>hl x (.tail _ hx),hc.mp (hl a (.head _))]
  exact this h
 have hl:(HC (UC ⟨#[c]⟩ L) ⟨#[c]⟩).length=L.length:=by lia
 have hs:HC (UC ⟨#[c]⟩ L) ⟨#[c]⟩≠[]:=fun q=>by
  rw[q] at hl;exact hn (List.length_eq_zero_iff.mp hl.symm)
 have e4:=iL c hs
 rw[iK] at e4
 have e5:((HC (UC ⟨#[c]⟩ L) ⟨#[c]⟩).map fun x=>x.cps.toList.count c).sum=0:=by lia
 exact qN (fun x hx=>hc.mpr (tW _ e5 x hx)) h hl (iK _ _)
noncomputable def pieceL:AA Str:=["a","a,","'b","c'","c',","..//d","..//d,","'it'\"'\"'s'","'it'\"'\"'s',","e,f","e,f,"]
noncomputable def whiteL:AA Str:=[""," ","  ","\t"]
theorem bX:∀x∈pieceL,x≠⟨#[]⟩∧x.length≤20∧lastIs x 32=false∧10∉x.cps.toList∧(∀c∈x.cps.toList,isWs c=false)∧x.cps.toList≠[]∧(x.cps.all Unicode.isSpace)=false:=by decide +kernel
theorem eJ:∀x∈whiteL,x.length≤2∧10∉x.cps.toList:=by decide +kernel
noncomputable def Gd(r:Row):Prop:=∀p∈r,p.1∈whiteL∧p.2∈pieceL
theorem nZ(r:Row):total r=r.size:=rfl
theorem bU(r:Row):txtOf r=r.txt:=by
 unfold txtOf Row.txt
 rw[List.map_congr_left fun p x9=>zT p]
theorem iM(f:Nat→NB):∀n:Nat,((List.range' 1 n).filter f).getLast?= lastHit f n
 | 0=>rfl
 | n+1=>by
  rw[List.range'_concat,List.filter_append]
  show (_++List.filter f [1+1 * n]).getLast?= _
  rw[Nat.one_mul,Nat.add_comm 1 n]
  unfold lastHit
  cases h:f (n+1) with
  | true=>simp[h]
  | false=>simp[h,iM f n]
theorem jZ{f g:Nat→NB}:∀{n:Nat},(∀i,1≤i→i≤n→f i=g i)→lastHit f n=lastHit g n
 | 0,_=>rfl
 | n+1,h=>by
  unfold lastHit
  rw[h (n+1) (by lia) (MA _),jZ fun i h1 h2=>h i h1 (Nat.le_succ_of_le h2)]
theorem aAR{r:Row}(h:Gd r){i:Nat}(h1:1≤i)(h2:i≤r.length - 1):hitAt r 32 i=blank ((r.getD i default).1):=by
 have hl:i - 1 < r.length:=by lia
 have hg:r.getD (i - 1) default∈r:=by
  rw[XC,EB hl];exact BG hl
 unfold hitAt
 rw[(bX _ (h _ hg).2).2.2.1,Bool.or_false]
 rfl
theorem aCk{r:Row}(h:Gd r):placeOf r=(commasOf r).getLast?.or (blanksOf r).getLast?:=by
 unfold placeOf commasOf blanksOf
 rw[iM,iM]
 congr 1
 exact jZ fun i h1 h2=>aAR h h1 h2
noncomputable def toL(st:FS):LSt:=⟨st.lines,st.ps,st.n.toNat⟩
theorem yL{room:Int}{st:FS}{a c:Str}(hn:0≤st.n)(h:Gd (st.ps++[(a,c)])):toL (chunkF room st a c)=stepL room (toL st) (a,c):=by
 have e1:((toL st).front:Int)+(Row.txt ((toL st).line++[(a,c)])).length=st.n+total (st.ps++[(a,c)]):=by
  rw[Row.txt_len,← nZ]
  show ((st.n.toNat:Nat):Int)+_=_
  rw[Int.toNat_of_nonneg hn];rfl
 unfold chunkF stepL
 dsimp only
 rw[e1]
 have el:(toL st).line=st.ps:=rfl
 have hd:(st.ps++[(a,c)]).dropLast=st.ps:=by simp
 rw[el,aCk h]
 generalize st.ps++[(a,c)]=line at *
 by_cases c1:st.n+(total line:Int) > room
 ·rw[OB c1,OB c1]
  cases hc:(commasOf line).getLast? with
  | some i=>
   have n1:commasOf line≠[]:=fun q=>by rw[q] at hc;cases hc
   have n2:commasOf line++blanksOf line≠[]:=fun q=>n1 (List.append_eq_nil_iff.mp q).1
   rw[OB n2,OB n1,hc]
   show toL ⟨st.lines++[txtOf (line.take i)],line.drop i,0⟩=_
   rw[bU];rfl
  | none=>
   have n1:commasOf line=[]:=List.getLast?_eq_none_iff.mp hc
   cases hb:(blanksOf line).getLast? with
   | some i=>
    have n2:commasOf line++blanksOf line≠[]:=fun q=>by rw[(List.append_eq_nil_iff.mp q).2] at hb;cases hb
    rw[OB n2,show (if commasOf line≠[] then commasOf line else blanksOf line)=blanksOf line from AB (by rw[n1];simp),hb]
    show toL ⟨st.lines++[txtOf (line.take i)],line.drop i,0⟩=_
    rw[bU];rfl
   | none=>
    have n2:commasOf line++blanksOf line=[]:=by rw[n1,List.getLast?_eq_none_iff.mp hb];rfl
    have n3:¬ (commasOf line++blanksOf line≠[]):=by rw[n2];simp
    rw[AB n3]
    dsimp only[Option.or]
    by_cases c2:st.n > 0
    ·have c3:(toL st).front > 0:=by show st.n.toNat > 0;lia
     rw[OB c2,OB c3,hd,← bU];rfl
    ·have c3:¬ (toL st).front > 0:=by show ¬ st.n.toNat > 0;lia
     rw[AB c2,AB c3];rfl
 ·rw[AB c1,AB c1];rfl
structure FI(st:FS):Prop where
 n0:0≤st.n
 n3:st.n≤3
 gd:Gd st.ps
 ln:∀x∈st.lines,10∉x.cps.toList
theorem tX{room:Int}{st:FS}{a c:Str}(h:FI st)(ha:a∈whiteL)(hc:c∈pieceL):Gd (st.ps++[(a,c)]):=fun p hp=>by
 rcases mam hp with hp|hp
 ·exact h.gd p hp
 ·rw[HA] at hp;subst hp;exact ⟨ha,hc⟩
theorem aCG{r:Row}(h:Gd r):10∉r.txt.cps.toList:=fun q=>by
 unfold Row.txt at q
 rw[tjoin0,List.mem_flatMap] at q
 obtain ⟨x,hx,q⟩:=q
 refine o12 (List.mem_map.mp hx) fun p hp x0=>?_;subst x0
 rw[cA] at q
 rcases mam q with q|q
 ·exact (eJ _ (h p hp).1).2 q
 ·exact (bX _ (h p hp).2).2.2.2.1 q
theorem FI.step{room:Int}{st:FS}{a c:Str}(h:FI st)(ha:a∈whiteL)(hc:c∈pieceL):FI (chunkF room st a c):=by
 have g:=tX (room:=room) h ha hc
 have gt:∀i,Gd ((st.ps++[(a,c)]).take i):=fun i p hp=>g p (PE hp)
 have gr:∀i,Gd ((st.ps++[(a,c)]).drop i):=fun i p hp=>g p (HF hp)
 have gl:∀r:Row,Gd r→∀x∈st.lines++[txtOf r],10∉x.cps.toList:=fun r hr x hx=>by
  rcases mam hx with hx|hx
  ·exact h.ln x hx
  ·rw[HA] at hx;subst hx;rw[bU];exact aCG hr
 unfold chunkF
 split
 ·split
  ·exact ⟨Int.le_refl _,(by show (0:Int)≤3;decide),gr _,gl _ (gt _)⟩
  ·split
   ·refine ⟨Int.le_refl _,(by show (0:Int)≤3;decide),fun p hp=>?_,gl _ h.gd⟩
    rw[HA] at hp;subst hp
    refine ⟨?_,hc⟩
    show (if a=⟨#[]⟩ then (" " : Str) else a)∈whiteL
    split
    ·decide
    ·exact ha
   ·exact ⟨h.n0,h.n3,g,h.ln⟩
 ·exact ⟨h.n0,h.n3,g,h.ln⟩
theorem wK{room:Int}:∀{r:Row}{st:FS},FI st→Gd r→toL (feedF room r st)=r.foldl (stepL room) (toL st)
 | [],_,_,_=>rfl
 | x :: r,st,h,g=>by
  refine o02 (g x (.head _)) fun g1 g2=>?_
  show toL (feedF room r (chunkF room st x.1 x.2))=_
  rw[wK (h.step (room:=room) g1 g2) fun p hp=>g p (.tail _ hp),List.foldl_cons,yL h.n0 (tX (room:=room) h g1 g2)]
theorem oZ{room:Int}:∀{r:Row}{st:FS},FI st→Gd r→FI (feedF room r st)
 | [],_,h,_=>h
 | x :: r,st,h,g=>oZ (r:=r) (h.step (room:=room) (g x (.head _)).1 (g x (.head _)).2) fun p hp=>g p (.tail _ hp)
theorem fi0:FI st0:=⟨by decide,by decide,fun p hp=>(nomatch hp),fun x hx=>(nomatch hx)⟩
theorem pA{room:Int}{r:Row}(g:Gd r):toldOf room r=linesOf room r:=by
 have e:=wK (room:=room) fi0 g
 have e2:toL st0=⟨[],[],3⟩:=rfl
 rw[e2] at e
 unfold toldOf endOf linesOf
 rw[← e,bU];rfl
theorem dM(x:Str):x.cps.toList.length=x.length:=QA
theorem kZ(s:Str):∀L:AA Str,(UC s L).length≤(L.map (·.length)).sum+L.length * s.length
 | []=>by rw[qM];exact Nat.zero_le _
 | [x]=>by rw[eZ];simp
 | x :: y :: r=>by
  have ih:=kZ s (y :: r)
  rw[eH,GD,GD]
  simp only[AD,LH,UA,Nat.add_mul,Nat.one_mul] at ih ⊢
  lia
theorem yM(r:Row)(i:Nat):Row.size (r.take i)+Row.size (r.drop i)=r.size:=by
 unfold Row.size
 rw[← OG,← FC,JC]
structure FW(st:FS)(k:Nat):Prop where
 w:(st.lines.map (·.length)).sum+Row.size st.ps≤23 * k
 l:st.lines.length≤k
 p:st.ps.length≤k
theorem FW.step{room:Int}{st:FS}{k:Nat}{a c:Str}(h:FW st k)(ha:a∈whiteL)(hc:c∈pieceL):FW (chunkF room st a c) (k+1):=by
 refine o02 (eJ a ha) fun w1 x9=>?_
 refine o03 (bX c hc) fun x9 w2 x9=>?_
 have sz:Row.size (st.ps++[(a,c)])=Row.size st.ps+(a.length+c.length):=by unfold Row.size;simp
 have hw:=h.w
 have hl:=h.l
 have hp:=h.p
 unfold chunkF
 split
 ·split
  ·rename_i i _
   have e:=yM (st.ps++[(a,c)]) i
   refine ⟨?_,?_,?_⟩
   ·show ((st.lines++[txtOf _]).map (·.length)).sum+Row.size ((st.ps++[(a,c)]).drop i)≤_
    rw[FC,OG,bU]
    show _+([(Row.txt _).length]).sum+_≤_
    rw[Row.txt_len,List.sum_singleton]
    lia
   ·show (st.lines++[_]).length≤_;simp;assumption
   ·show ((st.ps++[(a,c)]).drop i).length≤_;simp;lia
  ·split
   ·refine ⟨?_,?_,?_⟩
    ·show ((st.lines++[txtOf _]).map (·.length)).sum+Row.size [((if a=⟨#[]⟩ then (" " : Str) else a),c)]≤_
     rw[FC,OG,bU]
     show _+([(Row.txt _).length]).sum+_≤_
     rw[Row.txt_len,List.sum_singleton]
     have:(if a=⟨#[]⟩ then (" " : Str) else a).length≤2:=by
      split
      ·decide
      ·exact w1
     have e:Row.size [((if a=⟨#[]⟩ then (" " : Str) else a),c)]=(if a=⟨#[]⟩ then (" " : Str) else a).length+c.length:=by unfold Row.size;simp
     rw[e];lia
    ·show (st.lines++[_]).length≤_;simp;assumption
    ·show ([_]:Row).length≤_;simp
   ·refine ⟨?_,Nat.le_succ_of_le hl,?_⟩
    ·show (st.lines.map (·.length)).sum+Row.size (st.ps++[(a,c)])≤_;rw[sz];lia
    ·show (st.ps++[(a,c)]).length≤_;simp;assumption
 ·refine ⟨?_,Nat.le_succ_of_le hl,?_⟩
  ·show (st.lines.map (·.length)).sum+Row.size (st.ps++[(a,c)])≤_;rw[sz];lia
  ·show (st.ps++[(a,c)]).length≤_;simp;assumption
theorem pB{room:Int}:∀{r:Row}{st:FS}{k:Nat},FW st k→Gd r→FW (feedF room r st) (k+r.length)
 | [],_,_,h,_=>h
 | x :: r,st,k,h,g=>by
  have:=pB (room:=room) (r:=r) (h.step (room:=room) (g x (.head _)).1 (g x (.head _)).2) fun p hp=>g p (.tail _ hp)
  rw[UA,show k+(r.length+1)=k+1+r.length by lia]
  exact this
theorem fw0:FW st0 0:=⟨MA _,MA _,MA _⟩
theorem aCl{room:Int}{st:FS}{a c:Str}:(chunkF room st a c).ps≠[]:=by
 unfold chunkF
 split
 ·split
  ·rename_i i hi
   show (st.ps++[(a,c)]).drop i≠[]
   have:i≤(st.ps++[(a,c)]).length - 1∧1≤i:=by
    unfold placeOf at hi
    rcases Option.or_eq_some_iff.mp hi with hi|⟨_,hi⟩
    ·exact ⟨(cL hi).2.1,(cL hi).1⟩
    ·exact ⟨(cL hi).2.1,(cL hi).1⟩
   intro q
   have:=List.drop_eq_nil_iff.mp q
   simp only[PA,IE] at *
   lia
  ·split
   ·simp
   ·simp
 ·simp
theorem wL{room:Int}:∀{r:Row}{st:FS},r≠[]→(feedF room r st).ps≠[]
 | [x],st,_=>aCl
 | x :: y :: r,st,_=>wL (r:=y :: r) (by simp)
 | [],_,h=>absurd rfl h
theorem tY:∀{r:Row},Gd r→weigh r≤23 * r.length
 | [],_=>MA _
 | x :: r,g=>by
  have ih:=tY (r:=r) fun p hp=>g p (.tail _ hp)
  refine o02 (eJ _ (g x (.head _)).1) fun w1 x9=>?_
  refine o03 (bX _ (g x (.head _)).2) fun x9 w2 x9=>?_
  unfold weigh
  rw[UA];lia
theorem fok0{r:Row}(g:Gd r)(hl:r.length≤100):FOk st0 r:=by
 have:=tY g
 refine ⟨by decide,by decide,?_,?_,?_,fun p hp=>(nomatch hp),fun p hp=>(bX _ (g p hp).2).1⟩
 ·show 0+weigh r≤10000;lia
 ·show 0+r.length≤700;lia
 ·show 0+r.length≤700;lia
theorem aCm{r:Row}(g:Gd r)(hn:r≠[]):YF r.txt=false∧0 < r.size:=by
 refine o11 (List.exists_mem_of_ne_nil r hn) fun p hp=>?_
 refine o07 (bX _ (g p hp).2) fun f1 x9 x9 x9 x9 f2 f3=>?_
 have sub:∀c∈p.2.cps.toList,c∈r.txt.cps.toList:=fun c hc=>by
  unfold Row.txt
  rw[tjoin0,List.mem_flatMap]
  exact ⟨_,List.mem_map.mpr ⟨p,hp,rfl⟩,by rw[cA];exact WA.mpr (.inr hc)⟩
 constructor
 ·unfold YF
  rw[Bool.and_eq_false_iff]
  right
  rw[← Bool.not_eq_true,Array.all_eq_true_iff_forall_mem] at f3 ⊢
  exact fun q=>f3 fun c hc=>q c (Array.mem_toList_iff.mp (sub c (Array.mem_toList_iff.mpr hc)))
 ·have h1:p.2.length≤r.size:=by have:=Row.small hp;lia
  have h2:0 < p.2.length:=by rw[← dM];exact List.length_pos_iff.mpr f2
  lia
theorem aGh:("\n" : Str)=⟨#[10]⟩:=by decide
theorem aFj{room:Int}{r:Row}(g:Gd r)(hn:r≠[])(hl:r.length≤100):EndOk (feedF room r st0):=by
 have F:=oZ (room:=room) fi0 g
 have W:=pB (room:=room) fw0 g
 have hne:=wL (room:=room) (st:=st0) hn
 obtain ⟨W1,W2,W3⟩:=W
 generalize feedF room r st0=st at *
 have hs:=aCm F.gd hne
 have e1:((endOf st).map (·.length)).sum≤23 * r.length:=by
  unfold endOf
  rw[FC,OG,bU]
  show _+([(Row.txt _).length]).sum≤_
  rw[Row.txt_len,List.sum_singleton];lia
 have e2:(endOf st).length≤r.length+1:=by unfold endOf;simp;lia
 have nl:∀x∈endOf st,10∉x.cps.toList:=fun x hx=>by
  unfold endOf at hx
  rcases mam hx with hx|hx
  ·exact F.ln x hx
  ·rw[HA] at hx;subst hx;rw[bU];exact aCG F.gd
 refine ⟨.inr ?_,by lia,?_,?_⟩
 ·rcases List.eq_nil_or_concat st.ps with q|⟨ps',p,q⟩
  ·exact absurd q hne
  ·rw[List.concat_eq_append] at q
   refine ⟨ps',p,q,fun z=>?_,?_,.inr (by rw[bU];exact hs.1)⟩
   ·have:=(bX _ (F.gd p (by rw[q];simp)).2).1
    rw[z] at this
    exact this rfl
   ·have h1:=F.n0
    have h2:0 < total st.ps:=by rw[nZ];exact hs.2
    lia
 ·rw[aGh];exact yK (by unfold endOf;simp) nl
 ·have:=kZ "\n" (endOf st)
  have h1:("\n" : Str).length=1:=by decide
  rw[h1] at this;lia
theorem aDM{room:Int}{r:Row}(g:Gd r)(hl:r.length≤100):((linesOf room r).map (·.length)).sum≤23 * r.length∧(UC "" (linesOf room r)).length≤23 * r.length:=by
 have F:=oZ (room:=room) fi0 g
 obtain ⟨W1,W2,W3⟩:=pB (room:=room) fw0 g
 have e1:((linesOf room r).map (·.length)).sum≤23 * r.length:=by
  rw[← pA g]
  unfold toldOf endOf
  rw[FC,OG,bU]
  show _+([(Row.txt _).length]).sum≤_
  rw[Row.txt_len,List.sum_singleton];lia
 refine ⟨e1,?_⟩
 have:=kZ "" (linesOf room r)
 have h1:("" : Str).length=0:=by decide
 rw[h1] at this;lia
noncomputable def wrOf(i:Nat)(c:NB):Str:=bareOf i++(if c then ("," : Str) else ("" : Str))
theorem aCH(x:Int):b5 x++cm x=wrOf (remN x 5) ((x.fdiv 5).fmod 2 == 1):=by
 unfold wrOf cm b5;rfl
theorem mQ:∀i,i < 5→∀c:NB,(HC (wrOf i c) " ")≠[]∧(HC (wrOf i c) " ").length≤2∧(∀x∈HC (wrOf i c) " ",x∈pieceL)∧(wrOf i c).length≤40:=by decide +kernel
noncomputable def wsL3:AA Str:=[" ","  ","\t"]
theorem iC:∀x∈wsL3,x∈whiteL∧x.cps.toList≠[]∧∀c∈x.cps.toList,isWs c=true:=by decide +kernel
noncomputable def WR(r:Row):Prop:=∀p∈r,p.1∈whiteL∧∃i,i < 5∧∃c,p.2=wrOf i c
noncomputable def WN(r:Row):Prop:=∀p∈r,p.1∈wsL3
theorem cO{a t:Str}(h:∃i,i < 5∧∃c,t=wrOf i c):∃q r,HC t " " = q :: r∧r.length≤1∧q∈pieceL∧(∀x∈r,x∈pieceL)∧ID (a,t)=(a,q) :: r.map fun x=>(" ",x):=by
 refine o12 h fun i hi x0=>?_;clear h;refine o11 x0 fun c x1=>?_;clear x0;subst x1
 refine o04 (mQ i hi c) fun f1 f2 f3 x9=>?_
 unfold ID
 cases e:HC (wrOf i c) " " with
 | nil=>exact absurd e f1
 | cons q r=>
  rw[e] at f2 f3
  exact ⟨q,r,rfl,by rw[UA] at f2;lia,f3 q (.head _),fun x hx=>f3 x (.tail _ hx),rfl⟩
theorem yN:(" " : Str).cps.toList=[32]:=by decide
theorem qP:∀(r:AA Str) (a q:Str),flatR ((a,q) :: r.map fun x=>((" " : Str),x))=a.cps.toList++(UC " " (q :: r)).cps.toList
 | [],a,q=>by rw[eZ];simp[flatR]
 | y :: r,a,q=>by
  have ih:=qP r " " y
  rw[eH,cA,cA]
  show a.cps.toList++(q.cps.toList++flatR (((" " : Str),y) :: r.map fun x=>((" " : Str),x)))=_
  rw[ih];simp
theorem qQ:∀(r q:Row),flatR (r++q)=flatR r++flatR q
 | [],q=>rfl
 | x :: r,q=>by
  show _++(_++flatR (r++q))=(_++(_++flatR r))++flatR q
  rw[qQ r q];simp
theorem aAS{a t:Str}(h:∃i,i < 5∧∃c,t=wrOf i c):flatR (ID (a,t))=a.cps.toList++t.cps.toList:=by
 refine o25 (cO (a:=a) h) fun q r e x9 x9 x9 e2=>?_
 rw[e2,qP,← e,iK]
theorem jR(p:Str×Str)(r:Row):(Row.txt (p :: r)).cps.toList=p.1.cps.toList++(p.2.cps.toList++(Row.txt r).cps.toList):=by
 unfold Row.txt
 rw[tjoin0,tjoin0]
 simp[cA]
theorem jS:∀{r:Row},WR r→flatR (r.flatMap ID)=(Row.txt r).cps.toList
 | [],_=>by
  unfold Row.txt
  rw[tjoin0];rfl
 | p :: r,h=>by
  rw[QH,qQ,jS fun q hq=>h q (.tail _ hq),aAS (h p (.head _)).2,jR,WC]
theorem aCn:(" " : Str)∈whiteL:=by decide
theorem lA:(" " : Str)∈wsL3:=by decide
theorem aAT{r:Row}(h:WR r):Gd (r.flatMap ID):=fun p hp=>by
 refine o11 (List.mem_flatMap.mp hp) fun x0 x1=>?_;obtain ⟨a,t⟩:=x0;refine o02 x1 fun hw hp=>?_;clear x1
 refine o25 (cO (a:=a) (h _ hw).2) fun q l e x9 h1 h2 e2=>?_
 rw[e2] at hp
 rcases NA.mp hp with rfl|hp
 ·exact ⟨(h _ hw).1,h1⟩
 ·refine o12 (List.mem_map.mp hp) fun x hx x0=>?_;subst x0
  exact ⟨aCn,h2 x hx⟩
theorem oA:∀{r:Row},WR r→(r.flatMap ID).length≤2 * r.length
 | [],_=>MA _
 | (a,t) :: r,h=>by
  have ih:=oA (r:=r) fun q hq=>h q (.tail _ hq)
  refine o25 (cO (a:=a) (h (a,t) (.head _)).2) fun q l e hl h1 h2 e2=>?_
  rw[QH,PA,e2,UA,BB,UA]
  lia
theorem pC:∀{r:Row},(∀p∈r,p.1∈wsL3∧p.2∈pieceL)→rowsOk r
 | [],_=>trivial
 | x :: r,h=>by
  refine o02 (h x (.head _)) fun h1 h2=>?_
  refine o03 (iC _ h1) fun x9 g1 g2=>?_
  refine o07 (bX _ h2) fun x9 x9 x9 x9 g3 g4 x9=>?_
  exact ⟨⟨g1,g2⟩,g3,.inr g4,pC fun p hp=>h p (.tail _ hp)⟩
theorem lB{r:Row}(h:WR r)(hn:WN r):∀p∈r.flatMap ID,p.1∈wsL3∧p.2∈pieceL:=fun p hp=>by
 refine o11 (List.mem_flatMap.mp hp) fun x0 x1=>?_;obtain ⟨a,t⟩:=x0;refine o02 x1 fun hw hp=>?_;clear x1
 refine o25 (cO (a:=a) (h _ hw).2) fun q l e x9 h1 h2 e2=>?_
 rw[e2] at hp
 rcases NA.mp hp with rfl|hp
 ·exact ⟨hn (a,t) hw,h1⟩
 ·refine o12 (List.mem_map.mp hp) fun x hx x0=>?_;subst x0
  exact ⟨lA,h2 x hx⟩
theorem lC:∀{r:Row},(∀p∈r,p.1∈wsL3∧p.2∈pieceL)→r.length≤(flatR r).length
 | [],_=>MA _
 | x :: r,h=>by
  refine o03 (iC _ (h x (.head _)).1) fun x9 g1 x9=>?_
  have ih:=lC (r:=r) fun p hp=>h p (.tail _ hp)
  have:=List.length_pos_iff.mpr g1
  show (x :: r).length≤(x.1.cps.toList++(x.2.cps.toList++flatR r)).length
  rw[PA,PA,UA];lia
theorem wM{r:Row}(h:WR r):r.size≤42 * r.length:=Row.size_le fun p hp=>by
 refine o02 (h p hp) fun h1 x0=>?_;refine o12 x0 fun i hi x1=>?_;clear x0;refine o11 x1 fun c e=>?_;clear x1
 have w1:=(eJ _ h1).1
 have w2:=(mQ i hi c).2.2.2
 rw[e];lia
theorem eS:("" : Str).cps.toList=[]:=by decide
theorem tZ{t:Str}{r:Row}(h:WR (("",t) :: r))(hn:WN r)(hl:r.length≤40):∃p0 rows,Part.Ok ⟨"",Row.txt (("",t) :: r),p0,rows⟩∧TF p0 rows=(((("" : Str),t) :: r).flatMap ID):=by
 refine o25 (cO (a:="") (h ("",t) (.head _)).2) fun q l e hl2 h1 h2 e2=>?_
 have hr:WR r:=fun p hp=>h p (.tail _ hp)
 refine o07 (bX q h1) fun f1 x9 x9 x9 f5 f6 x9=>?_
 have ws:∀p∈(l.map fun x=>((" " : Str),x))++r.flatMap ID,p.1∈wsL3∧p.2∈pieceL:=fun p hp=>by
  rcases mam hp with hp|hp
  ·refine o12 (List.mem_map.mp hp) fun x hx x0=>?_;subst x0
   exact ⟨lA,h2 x hx⟩
  ·exact lB hr hn p hp
 have et:(((("" : Str),t) :: r).flatMap ID)=((("" : Str),q):Str×Str) :: ((l.map fun x=>((" " : Str),x))++r.flatMap ID):=by
  rw[QH,e2];rfl
 have ef:=jS h
 rw[et] at ef
 have ef2:q.cps.toList++flatR ((l.map fun x=>((" " : Str),x))++r.flatMap ID)=(Row.txt (("",t) :: r)).cps.toList:=by
  rw[← ef]
  show _=("" : Str).cps.toList++(q.cps.toList++_)
  rw[eS];rfl
 have sz:(Row.txt (("",t) :: r)).length≤42 * (r.length+1):=by rw[Row.txt_len];exact wM h
 have ex:((("" : Str)++Row.txt (("",t) :: r)).cps.toList)=(Row.txt (("",t) :: r)).cps.toList:=by rw[cA,eS];rfl
 have es:((("" : Str)++Row.txt (("",t) :: r)).cps.size)=(Row.txt (("",t) :: r)).length:=by rw[← QA,ex,dM]
 have e0:("" : Str).length=0:=by decide
 refine ⟨q,(l.map fun x=>((" " : Str),x))++r.flatMap ID,⟨?_,?_,?_,?_,f5,pC ws⟩,?_⟩
 ·show _=textR q _
  unfold textR
  rw[ex,ef2]
 ·show ((("" : Str)++Row.txt (("",t) :: r)).cps.size)≤_
  rw[es];lia
 ·show ("" : Str).length+(Row.txt (("",t) :: r)).length≤_
  rw[e0];lia
 ·show _≤((("" : Str)++Row.txt (("",t) :: r)).cps.size)
  refine GA (lC ws) ?_
  rw[es,← dM,← ef2,PA]
  exact BI _ _
 ·unfold TF
  rw[AB f1,et]
  have:(⟨#[]⟩:Str)="" :=by decide
  rw[this]
theorem aAU{a t:Str}{r:Row}(h:WR ((a,t) :: r))(hn:WN ((a,t) :: r))(hl:r.length≤40):∃rows,Part.Ok ⟨a,Row.txt (("",t) :: r),"",rows⟩∧TF "" rows=(((a,t) :: r).flatMap ID):=by
 have ws:=lB h hn
 have ef:=jS h
 have ex:((a++Row.txt (("",t) :: r)).cps.toList)=(Row.txt ((a,t) :: r)).cps.toList:=by
  rw[cA,jR,jR,eS];rfl
 have es:((a++Row.txt (("",t) :: r)).cps.size)=(Row.txt ((a,t) :: r)).length:=by rw[← QA,ex,dM]
 have sz:(Row.txt ((a,t) :: r)).length≤42 * (r.length+1):=by rw[Row.txt_len];exact wM h
 refine ⟨((a,t) :: r).flatMap ID,⟨?_,?_,?_,?_,fun c hc=>?_,pC ws⟩,?_⟩
 ·show _=textR "" _
  unfold textR
  rw[ex,eS,← ef];rfl
 ·show ((a++Row.txt (("",t) :: r)).cps.size)≤_
  rw[es];lia
 ·show a.length+(Row.txt (("",t) :: r)).length≤_
  have:=es
  have e2:(a++Row.txt (("",t) :: r)).length=a.length+(Row.txt (("",t) :: r)).length:=GD ..
  have e3:(a++Row.txt (("",t) :: r)).length=((a++Row.txt (("",t) :: r)).cps.size):=rfl
  lia
 ·show _≤((a++Row.txt (("",t) :: r)).cps.size)
  rw[es,← dM,← ef]
  exact lC ws
 ·have hc':c∈("" : Str).cps.toList:=hc
  rw[eS] at hc';cases hc'
 ·unfold TF
  rw[OB (by decide)]
theorem rK(x:Int):wh x∈wsL3:=by
 unfold wh
 have:=dR (x.fdiv 10) (d:=3) (by decide)
 rcases (show remN (x.fdiv 10) 3=0∨remN (x.fdiv 10) 3=1∨remN (x.fdiv 10) 3=2 by lia) with h|h|h <;> rw[h] <;> decide
theorem oB{ns:AA Int}{t:Str}(h:t∈writtenOf ns):∃i,i < 5∧∃c,t=wrOf i c:=by
 refine o12 (List.mem_map.mp h) fun x x9 x0=>?_;subst x0
 exact ⟨_,dR x (by decide),_,aCH x⟩
theorem aFk:("" : Str)∈whiteL:=by decide
theorem iD(ns:AA Int):∃(t:Str) (R:Row),rowOf ns=(("" : Str),t) :: R∧R.length+1=(QC ns).length∧WR (("",t) :: R)∧WN R:=by
 refine o02 (cX ns) fun l1 l2=>?_
 have hw:WR (rowOf ns):=fun p hp=>by
  refine o02 (DD (a:=p.1) (b:=p.2) hp) fun h1 h2=>?_
  refine ⟨?_,oB h2⟩
  unfold whitesOf at h1
  rcases NA.mp h1 with e|h1
  ·rw[e];exact aFk
  ·refine o12 (List.mem_map.mp h1) fun x x9 e=>?_
   rw[← e];exact (iC _ (rK x)).1
 cases en:QC ns with
 | nil=>rw[en] at l1;simp at l1
 | cons n0 nt=>
  have e:rowOf ns=(("" : Str),b5 n0++cm n0) :: (nt.map wh).zip (nt.map fun x=>b5 x++cm x):=by
   unfold rowOf whitesOf writtenOf
   rw[en];rfl
  rw[e] at hw ⊢
  refine ⟨_,_,rfl,by simp,hw,fun p hp=>?_⟩
  refine o12 (List.mem_map.mp (DD (a:=p.1) (b:=p.2) hp).1) fun x x9 e=>?_
  rw[← e];exact rK x
theorem uA(ns:AA Int):Gd (pcsOf ns)∧pcsOf ns≠[]∧(pcsOf ns).length≤32:=by
 refine o24 (iD ns) fun t R e hl h1 h2=>?_
 have:=(cX ns).2
 unfold pcsOf
 rw[e]
 refine ⟨aAT h1,?_,?_⟩
 ·refine o25 (cO (a:="") (h1 ("",t) (.head _)).2) fun q l x9 x9 x9 x9 e2=>?_
  rw[QH,e2];simp
 ·have:=oA h1
  rw[UA] at this;lia
theorem aAV{ns:AA Int}{l:AA Part}(ok:∀p∈l,p.Ok)(e:allPairs l=pcsOf ns):Fed ns l:=by
 refine o03 (uA ns) fun g hn hl=>?_
 refine ⟨ok,?_,?_,?_⟩
 ·rw[e];exact fok0 g (by exact lz)
 ·rw[e];exact aFj g hn (by exact lz)
 ·rw[e];exact pA g
theorem aDN(ns:AA Int):∃p0 rows,Fed ns [⟨"",(rowOf ns).txt,p0,rows⟩]:=by
 refine o24 (iD ns) fun t R e hl h1 h2=>?_
 have:=(cX ns).2
 refine o22 (tZ h1 h2 (by lia)) fun p0 rows k1 k2=>?_
 refine ⟨p0,rows,aAV (fun p hp=>?_) ?_⟩
 ·rw[HA] at hp;subst hp;rw[e];exact k1
 ·show TF p0 rows++[]=_
  rw[ZB,k2];unfold pcsOf;rw[e]
theorem aCo(ns:AA Int):1≤halfOf ns∧halfOf ns < (QC ns).length:=by
 have:=cX ns
 unfold halfOf;lia
theorem aDO(ns:AA Int):∃p0 rows p1 rows1,Fed ns [⟨"",(row1 ns).txt,p0,rows⟩,⟨wAt ns,(row2 ns).txt,p1,rows1⟩]:=by
 refine o24 (iD ns) fun t R e hl h1 h2=>?_
 refine o02 (cX ns) fun l1 l2=>?_
 refine o02 (aCo ns) fun g1 g2=>?_
 have hw1:halfOf ns < (whitesOf ns).length:=by rw[gK];exact g2
 have hw2:halfOf ns < (writtenOf ns).length:=by rw[iJ];exact g2
 have er1:row1 ns=(rowOf ns).take (halfOf ns):=by unfold row1 rowOf List.zip;rw[List.take_zipWith]
 have ed:(rowOf ns).drop (halfOf ns)=(wAt ns,(writtenOf ns)[halfOf ns]) :: ((whitesOf ns).drop (halfOf ns+1)).zip ((writtenOf ns).drop (halfOf ns+1)):=by
  have:wAt ns=(whitesOf ns)[halfOf ns]:=by unfold wAt;rw[XC,EB hw1];rfl
  rw[this]
  unfold rowOf List.zip
  rw[List.drop_zipWith,MG hw1,MG hw2];rfl
 have er2:row2 ns=(("" : Str),(writtenOf ns)[halfOf ns]) :: ((whitesOf ns).drop (halfOf ns+1)).zip ((writtenOf ns).drop (halfOf ns+1)):=by
  unfold row2
  rw[MG hw2];rfl
 obtain ⟨k,ek⟩:∃k,halfOf ns=k+1:=⟨halfOf ns - 1,by lia⟩
 have et:(rowOf ns).take (halfOf ns)=(("" : Str),t) :: R.take k:=by rw[e,ek];rfl
 have sub:∀p∈(rowOf ns).drop (halfOf ns),p∈R:=fun p hp=>by
  rw[e,ek] at hp
  exact HF hp
 refine o22 (tZ (t:=t) (r:=R.take k) (fun p hp=>h1 p (by
  rcases NA.mp hp with q|q
  ·rw[q];exact .head _
  ·exact .tail _ (PE q))) (fun p hp=>h2 p (PE hp)) (by rw[List.length_take];lia)) fun p0 rows k1 k2=>?_
 have hd1:WR ((rowOf ns).drop (halfOf ns)):=fun p hp=>h1 p (.tail _ (sub p hp))
 have hd2:WN ((rowOf ns).drop (halfOf ns)):=fun p hp=>h2 p (sub p hp)
 rw[ed] at hd1 hd2
 refine o12 (aAU hd1 hd2 (by rw[List.length_zip,AG,gK];lia)) fun rows1 k3 k4=>?_
 refine ⟨p0,rows,"",rows1,aAV (fun p hp=>?_) ?_⟩
 ·rcases NA.mp hp with q|q
  ·subst q;rw[er1,et];exact k1
  ·rw[HA] at q;subst q;rw[er2];exact k3
 ·show TF p0 rows++(TF "" rows1++[])=_
  rw[ZB,k2,k4,← et,← ed,← CH,JC];rfl
theorem aFl{ns:AA Int}(lex:eK (UC "" (dueOf ns)) 0 (toksOf ns)):LawOk ns:=by
 refine o03 (uA ns) fun g hn hl=>?_
 have d:=aDM (room:=roomOf ns) g (by exact lz)
 refine ⟨aDN ns,aDO ns,fun p hp=>?_,fun t ht=>?_,by exact lz,?_,?_,lex⟩
 ·have w1:=(eJ _ (g p hp).1).1
  refine o03 (bX _ (g p hp).2) fun f1 f2 x9=>?_
  exact ⟨f1,by lia⟩
 ·refine o12 (oB ht) fun i hi x0=>?_;refine o11 x0 fun c x1=>?_;clear x0;subst x1
  refine o04 (mQ i hi c) fun f1 f2 x9 f4=>?_
  exact ⟨by exact lz,by exact lz,f1⟩
 ·have:=d.1;unfold dueOf;lia
 ·have:=d.2;unfold dueOf;lia
inductive LL:AA Nat→Str→Str→NB→AA Nat→AV→Str→NB→Prop
 | next {c:Nat}{cs rest:AA Nat}{st tok st' tok' tok2:Str}{q q' q2:NB}{st2:AV}(s:cG c st tok q .next st' tok' q') (r:LL cs st' tok' q' rest st2 tok2 q2):LL (c :: cs) st tok q rest st2 tok2 q2
 | cont {c:Nat}{cs rest:AA Nat}{st tok st' tok' tok2:Str}{q q' q2:NB}{st2:AV}(s:cG c st tok q .cont st' tok' q') (r:LL cs st' tok' q' rest st2 tok2 q2):LL (c :: cs) st tok q rest st2 tok2 q2
 | stop {c:Nat}{cs:AA Nat}{st tok st' tok':Str}{q q':NB}(s:cG c st tok q .brk st' tok' q'):LL (c :: cs) st tok q cs (.str st') tok' q'
 | fin {st tok:Str}{q:NB}(hs:st=" " ∨st="a"):LL [] st tok q [] .none tok q
theorem mR{x:Str}{p c:Nat}{cs:AA Nat}(h:x.cps.toList.drop p=c :: cs):x.cps[p]?= some c∧x.cps.toList.drop (p+1)=cs:=by
 constructor
 ·have:(x.cps.toList.drop p)[0]?= some c:=by rw[h];rfl
  rw[IH,Nat.add_zero,TC] at this
  exact this
 ·rw[← List.drop_drop,h];rfl
theorem LL.lexR{x:Str}{cs rest:AA Nat}{st tok a0:Str}{q q2:NB}{st2:AV}(r:LL cs st tok q rest st2 a0 q2):∀p,x.cps.toList.drop p=cs→∃p2,LexR x p st tok q p2 st2 a0 q2∧x.cps.toList.drop p2=rest:=by
 induction r with
 | next s _ ih=>
  intro p h
  refine o02 (mR h) fun h1 h2=>?_
  refine o12 (ih (p+1) h2) fun p2 r e=>?_
  exact ⟨p2,.next h1 s r,e⟩
 | cont s _ ih=>
  intro p h
  refine o02 (mR h) fun h1 h2=>?_
  refine o12 (ih (p+1) h2) fun p2 r e=>?_
  exact ⟨p2,.cont h1 s r,e⟩
 | stop s=>
  intro p h
  refine o02 (mR h) fun h1 h2=>?_
  exact ⟨p+1,.stop h1 s,h2⟩
 | fin hs=>
  intro p h
  have:=List.drop_eq_nil_iff.mp h
  rw[dM] at this
  exact ⟨p,.fin this hs,h⟩
inductive LA:AA Nat→AA Str→Prop
 | last {cs:AA Nat}{tok:Str}{q:NB}(r:LL cs " " ⟨#[]⟩ false [] .none tok q) (hne:tok≠⟨#[]⟩):LA cs [tok]
 | more {cs rest:AA Nat}{tok:Str}{toks:AA Str}{q:NB}(r:LL cs " " ⟨#[]⟩ false rest (.str " ") tok q) (hne:tok≠⟨#[]⟩) (t:LA rest toks):LA cs (tok :: toks)
theorem LA.lexAll{x:Str}{cs:AA Nat}{toks:AA Str}(t:LA cs toks):∀p,x.cps.toList.drop p=cs→eK x p toks:=by
 induction t with
 | last r hne=>
  intro p h
  refine o12 (r.lexR p h) fun p2 r e=>?_
  have:=List.drop_eq_nil_iff.mp e
  rw[dM] at this
  exact .last r hne this
 | more r hne _ ih=>
  intro p h
  refine o12 (r.lexR p h) fun p2 r e=>?_
  exact .more r hne (ih p2 e)
noncomputable def lx(c:Nat)(z:Str×Str×NB):YA (Str×Str×NB):=
 if z.1=" " then (if c∈plainL then some ("a",⟨#[c]⟩,z.2.2) else if c∈quoteL then some (⟨#[c]⟩,z.2.1,z.2.2) else none)
 else if z.1="a" then (if c∈plainL∧z.2.1.length≤1000 then some ("a",z.2.1++⟨#[c]⟩,z.2.2) else if c∈quoteL then some (⟨#[c]⟩,z.2.1,z.2.2) else none)
 else match quoteL.find? fun d=>z.1=⟨#[d]⟩ with
  | some d=>if c=d then some ("a",z.2.1,true) else if (c∈plainL∨c∈wsL∨c∈quoteL)∧z.2.1.length≤1000 then some (⟨#[d]⟩,z.2.1++⟨#[c]⟩,true) else none
  | none=>none
theorem aGi{c:Nat}{z y:Str×Str×NB}(h:lx c z=some y):cG c z.1 z.2.1 z.2.2 .next y.1 y.2.1 y.2.2:=by
 obtain ⟨st,tok,q⟩:=z
 unfold lx at h
 dsimp only at h ⊢
 split at h
 ·rename_i e;subst e
  split at h
  ·replace h:=si h;subst h;exact .spp ‹_›
  ·split at h
   ·replace h:=si h;subst h;exact .spq ‹_›
   ·cases h
 ·split at h
  ·rename_i e;subst e
   split at h
   ·rename_i e;replace h:=si h;subst h;exact .ap e.1 e.2
   ·split at h
    ·replace h:=si h;subst h;exact .aq ‹_›
    ·cases h
  ·split at h
   ·rename_i d e
    have e1:=List.find?_some e
    have e2:=List.mem_of_find?_eq_some e
    have e3:st=⟨#[d]⟩:=by simpa using e1
    subst e3
    split at h
    ·rename_i e;subst e;replace h:=si h;subst h;exact .qc e2
    ·split at h
     ·rename_i hn e;replace h:=si h;subst h;exact .qo e2 e.1 hn e.2
     ·cases h
   ·cases h
noncomputable def lxs:AA Nat→Str×Str×NB→YA (Str×Str×NB)
 | [],z=>some z
 | c :: cs,z=>(lx c z).bind (lxs cs)
theorem uB:∀{W:AA Nat}{z y:Str×Str×NB}{cs rest:AA Nat}{st2:AV}{tok2:Str}{q2:NB},lxs W z=some y→LL cs y.1 y.2.1 y.2.2 rest st2 tok2 q2→LL (W++cs) z.1 z.2.1 z.2.2 rest st2 tok2 q2
 | [],z,y,_,_,_,_,_,h,r=>by replace h:=si h;subst h;exact r
 | c :: W,z,y,_,_,_,_,_,h,r=>by
  refine o12 (Option.bind_eq_some_iff.mp h) fun m h1 h2=>?_
  exact .next (aGi h1) (uB h2 r)
theorem aCp:∀i,i < 5→∀c:NB,((lxs (wrOf i c).cps.toList (" ",⟨#[]⟩,false)).map fun z=>(z.1,z.2.1))=some (("a" : Str),tokOf i c)∧tokOf i c≠⟨#[]⟩∧(tokOf i c).length≤1000:=by decide +kernel
theorem pD:∀{u cs rest:AA Nat}{st2:AV}{tok2:Str}{q2:NB},(∀c∈u,c∈wsL)→LL cs " " ⟨#[]⟩ false rest st2 tok2 q2→LL (u++cs) " " ⟨#[]⟩ false rest st2 tok2 q2
 | [],_,_,_,_,_,_,r=>r
 | c :: u,_,_,_,_,_,h,r=>.cont (.wsp (h c (.head _))) (pD (fun d hd=>h d (.tail _ hd)) r)
theorem aDP:∀x∈wsL3,∀c∈x.cps.toList,c∈wsL:=by decide
theorem aAW:∀(xs:AA Int) (x0:Int) (u:AA Nat),(∀c∈u,c∈wsL)→LA (u++((b5 x0++cm x0).cps.toList++xs.flatMap fun x=>(wh x).cps.toList++(b5 x++cm x).cps.toList)) ((x0 :: xs).map fun x=>w5 x++cm x)
 | xs,x0,u,hu=>by
  refine o03 (aCp (remN x0 5) (dR x0 (by decide)) ((x0.fdiv 5).fmod 2 == 1)) fun h1 h2 h3=>?_
  refine o11 (Option.map_eq_some_iff.mp h1) fun x2 x3=>?_;obtain ⟨st,tok,q⟩:=x2;refine o02 x3 fun g1 g2=>?_;clear x3
  have e1:st="a" :=RB Prod.fst g2
  have e2:tok=tokOf (remN x0 5) ((x0.fdiv 5).fmod 2 == 1):=RB Prod.snd g2
  subst e1 e2
  rw[← aCH] at g1
  rw[← aAO] at g1 h2 h3
  cases xs with
  | nil=>
   exact .last (pD hu (uB g1 (.fin (.inr rfl)))) h2
  | cons x1 xs=>
   refine o03 (iC _ (rK x1)) fun k1 k2 x9=>?_
   have k3:=aDP _ (rK x1)
   cases ew:(wh x1).cps.toList with
   | nil=>exact absurd ew k2
   | cons ch u'=>
    rw[ew] at k3
    have ih:=aAW xs x1 u' fun c hc=>k3 c (.tail _ hc)
    rw[QH,ew]
    refine .more (q:=q) (rest:=u'++((b5 x1++cm x1).cps.toList++xs.flatMap fun x=>(wh x).cps.toList++(b5 x++cm x).cps.toList)) (pD hu (uB g1 ?_)) h2 ih
    have:=LL.stop (cs:=u'++((b5 x1++cm x1).cps.toList++xs.flatMap fun x=>(wh x).cps.toList++(b5 x++cm x).cps.toList)) (cG.aw (q:=q) (k3 ch (.head _)) h2 h3)
    simpa using this
termination_by xs=>xs.length
noncomputable def conc(st:FS):AA Nat:=st.lines.flatMap (·.cps.toList)++(Row.txt st.ps).cps.toList
theorem uC(r q:Row):(Row.txt (r++q)).cps.toList=(Row.txt r).cps.toList++(Row.txt q).cps.toList:=by
 unfold Row.txt
 rw[tjoin0,tjoin0,tjoin0,FC,CH]
theorem mS(p:Str×Str):(Row.txt [p]).cps.toList=p.1.cps.toList++p.2.cps.toList:=by
 unfold Row.txt
 rw[tjoin0];simp[cA]
theorem oC{room:Int}{st:FS}{a c:Str}:conc (chunkF room st a c)=conc st++(a.cps.toList++c.cps.toList)∨(a=⟨#[]⟩∧conc (chunkF room st a c)=conc st++([32]++c.cps.toList)):=by
 have line:∀n,conc ⟨st.lines,st.ps++[(a,c)],n⟩=conc st++(a.cps.toList++c.cps.toList):=fun n=>by
  unfold conc
  dsimp only
  rw[uC,mS,WC]
 unfold chunkF
 split
 ·split
  ·rename_i i _
   left
   rw[← line 0]
   unfold conc
   dsimp only
   rw[CH,bU]
   have:=uC ((st.ps++[(a,c)]).take i) ((st.ps++[(a,c)]).drop i)
   rw[JC] at this
   rw[this];simp
  ·split
   ·by_cases h:a=⟨#[]⟩
    ·right
     refine ⟨h,?_⟩
     unfold conc
     dsimp only
     rw[OB h,CH,bU,mS,yN];simp
    ·left
     unfold conc
     dsimp only
     rw[AB h,CH,bU,mS];simp
   ·exact .inl (line _)
 ·exact .inl (line _)
theorem qR{room:Int}:∀{r:Row}{st:FS},(∀p∈r,p.1≠⟨#[]⟩)→conc (feedF room r st)=conc st++flatR r
 | [],st,_=>by show conc st=_;simp[flatR]
 | x :: r,st,h=>by
  show conc (feedF room r (chunkF room st x.1 x.2))=_
  rw[qR fun p hp=>h p (.tail _ hp)]
  rcases oC (room:=room) (st:=st) (a:=x.1) (c:=x.2) with e|⟨e,_⟩
  ·rw[e];simp[flatR]
  ·exact absurd e (h x (.head _))
theorem aCq(ns:AA Int):∃u,(∀c∈u,c∈wsL)∧(UC "" (dueOf ns)).cps.toList=u++(rowOf ns).txt.cps.toList:=by
 refine o24 (iD ns) fun t R e x9 h1 h2=>?_
 refine o25 (cO (a:="") (h1 ("",t) (.head _)).2) fun q l x9 x9 g1 g2 e2=>?_
 have hr:WR R:=fun p hp=>h1 p (.tail _ hp)
 have ne3:∀x∈wsL3,x≠⟨#[]⟩:=by decide
 have en:(⟨#[]⟩:Str)="" :=by decide
 have ep:pcsOf ns=(("" : Str),q) :: ((l.map fun x=>((" " : Str),x))++R.flatMap ID):=by
  unfold pcsOf
  rw[e,QH,e2];rfl
 have nn:∀p∈(l.map fun x=>((" " : Str),x))++R.flatMap ID,p.1≠⟨#[]⟩:=fun p hp=>by
  rcases mam hp with hp|hp
  ·refine o12 (List.mem_map.mp hp) fun x hx x2=>?_;subst x2
   exact ne3 _ lA
  ·exact ne3 _ (lB hr h2 p hp).1
 have ef:=jS (r:=rowOf ns) (by rw[e];exact h1)
 have ef2:flatR (pcsOf ns)=(rowOf ns).txt.cps.toList:=ef
 have ec:(UC "" (dueOf ns)).cps.toList=conc (feedF (roomOf ns) (pcsOf ns) st0):=by
  have:dueOf ns=endOf (feedF (roomOf ns) (pcsOf ns) st0):=(pA (uA ns).1).symm
  rw[this,← en,tjoin0]
  unfold endOf conc
  rw[CH,bU];simp
 have e0:conc st0=[]:=by
  unfold conc
  show []++(Row.txt []).cps.toList=[]
  unfold Row.txt
  rw[tjoin0];rfl
 rw[ec,← ef2,ep]
 show ∃u,_∧conc (feedF (roomOf ns) _ (chunkF (roomOf ns) st0 "" q))=u++(("" : Str).cps.toList++(q.cps.toList++flatR _))
 rw[qR nn]
 rcases oC (room:=roomOf ns) (st:=st0) (a:="") (c:=q) with k|⟨_,k⟩
 ·exact ⟨[],fun c hc=>(nomatch hc),by rw[k,e0];simp⟩
 ·refine ⟨[32],fun c hc=>?_,by rw[k,e0,eS];simp⟩
  rw[HA] at hc;subst hc;decide
theorem aCr(ns:AA Int):∃n0 nt,QC ns=n0 :: nt∧(rowOf ns).txt.cps.toList=(b5 n0++cm n0).cps.toList++nt.flatMap fun x=>(wh x).cps.toList++(b5 x++cm x).cps.toList:=by
 have l1:=(cX ns).1
 cases en:QC ns with
 | nil=>rw[en] at l1;simp at l1
 | cons n0 nt=>
  refine ⟨n0,nt,rfl,?_⟩
  have e:rowOf ns=(("" : Str),b5 n0++cm n0) :: (nt.map wh).zip (nt.map fun x=>b5 x++cm x):=by
   unfold rowOf whitesOf writtenOf
   rw[en];rfl
  have ez:(nt.map wh).zip (nt.map fun x=>b5 x++cm x)=nt.map fun x=>(wh x,b5 x++cm x):=by
   rw[List.zip_map']
  rw[e,ez,jR,eS,List.nil_append]
  congr 1
  unfold Row.txt
  rw[tjoin0,FD,List.flatMap_map]
  congr 1
  funext x
  exact cA _ _
theorem aDQ(ns:AA Int):LawOk ns:=by
 refine aFl ?_
 refine o12 (aCq ns) fun u hu e1=>?_
 refine o22 (aCr ns) fun n0 nt en e2=>?_
 have:=aAW nt n0 u hu
 unfold toksOf
 rw[en]
 refine this.lexAll 0 ?_
 rw[List.drop_zero,e1,e2]
theorem aGj{P:IB}{h:PB}(x:(Hd.KA P).In h):(Hd.KL P).In h:=fun a o e=>x a o (by unfold Hd.KA;rw[List.lookup_append,e];rfl)
theorem aFm(P:IB):∀a o,(Hd.KL P).lookup a=some o→o.cls≠.none∨a=cStatics:=by
 have h:∀K:Frag,K.all (fun p=>p.2.cls != .none || Nat.beq p.1 cStatics)=true→∀a o,K.lookup a=some o→o.cls≠.none∨a=cStatics:=by
  intro K hK a o e
  have hm:(a,o)∈K:=by
   induction K with
   | nil=>cases e
   | cons p K ih=>
    rw[List.lookup_cons] at e
    rw[List.all_cons,VA] at hK
    by_cases q:(a == p.1)=true
    ·rw[q] at e;simp only[Option.some.injEq] at e;subst e
     rw[eq_of_beq q];exact List.mem_cons_self
    ·rw[Bool.eq_false_iff.mpr q] at e
     exact VH _ (ih hK.2 e)
  have:=List.all_eq_true.mp hK _ hm
  simp only[Bool.or_eq_true,bne_iff_ne] at this
  exact this.imp id fun z=>Nat.eq_of_beq_eq_true z
 exact h _ (by kernel_rfl)
theorem uD{P:IB}{h:PB}(x:(Hd.KA P).In h){c t:EA}{o o':Obj}{vs:RA BA}(e1:(Hd.KA P).lookup c=some o)(h2:o.cls=.type "code")(h3:o.data=.fields vs)(h4:vs[11]?= some (.ref t))(e5:(Hd.KA P).lookup t=some o')(h6:o'={ cls:=.none,data:=.fields #[] }):h.TableAt c t #[]:=
 ⟨⟨o,vs,x _ _ e1,h2,h3,h4⟩,(x _ _ e5).trans (RB some h6)⟩
theorem pE{P:IB}{h:PB}(x:(Hd.KA P).In h){c t:EA}{o o':Obj}{vs:RA BA}{file:Str}{tf tg tt:Tok}{a0 text:Int}{inF:NB}(e1:(Hd.KA P).lookup c=some o)(h3:o.data=.fields vs)(h4:vs.getD 11 .none=.ref t)(h18:vs.getD 18 .none=.str file tf)
  (h7:vs.getD 7 .none=.int a0 tg) (h9:vs.getD 9 .none=.bool inF) (h10:vs.getD 10 .none=.int text tt) (e5:(Hd.KA P).lookup t=some o') (h6:o'={ cls:=.none,data:=.fields #[] }) (hne:c≠t):h.IsCode c t #[]:=
 ⟨o,vs,file,tf,a0,tg,inF,text,tt,o',x _ _ e1,h3,h4,h18,h7,h9,h10,x _ _ e5,by rw[h6],trivial,hne⟩
theorem aAX{P:IB}{h:PB}(x:(Hd.KA P).In h):∀t∈lawTabs,h.TableAt t.1 t.2.1 t.2.2:=by
 intro t ht
 simp only[lawTabs,NA,GB,QD] at ht
 rcases ht with rfl|rfl|rfl
 ·exact uD x rfl rfl rfl rfl rfl rfl
 ·exact uD x rfl rfl rfl rfl rfl rfl
 ·exact uD x rfl rfl rfl rfl rfl rfl
theorem aDR{P:IB}{h:PB}(x:(Hd.KA P).In h):∀t∈lawTabs,h.IsCode t.1 t.2.1 t.2.2:=by
 intro t ht
 simp only[lawTabs,NA,GB,QD] at ht
 rcases ht with rfl|rfl|rfl
 ·exact pE x rfl rfl rfl rfl rfl rfl rfl rfl rfl (by decide)
 ·exact pE x rfl rfl rfl rfl rfl rfl rfl rfl rfl (by decide)
 ·exact pE x rfl rfl rfl rfl rfl rfl rfl rfl rfl (by decide)
theorem aGk(w:HD)(s₁:CA):dD Hd.pw w w.params s₁:=
 ⟨⟨_,_,_,_,_,_,rfl,rfl,by kernel_rfl,by kernel_rfl⟩,⟨_,_,_,_,_,_,rfl,rfl,by kernel_rfl,by kernel_rfl⟩,⟨_,_,_,_,_,_,rfl,rfl,by kernel_rfl,by kernel_rfl⟩⟩
theorem yO{K:Frag}{h:PB}{N:EA}{mg:Str→YA BA}{n:Str}{v:BA}(X:K.In h)(G:h.Ns N mg)(e:nsIn K N n=some (some v)):mg n=some v:=by
 refine o31 G fun o es ep x0=>?_;clear G;refine o04 x0 fun ho hd x9 hf=>?_;clear x0
 unfold nsIn at e
 split at e
 ·rename_i c d es' n' sl q
  have:=X _ _ q
  rw[ho] at this
  replace this:=si this;subst this
  cases hd
  split at e
  ·rename_i y he
   cases e
   rw[← hf]
   unfold nsFind findBy
   rw[← Array.find?_toList,he]
   rfl
  ·split at e <;> cases e
 ·cases e
theorem aCs{h:PB}{ρ:Rho}{vs:AA BA}{ns:AA Int}(x:IntsAre vs ns):VRs h ρ (ns.map .int) vs:=by
 induction x with
 | nil=>exact .nil
 | cons i t _ ih=>exact .cons (.int _ _) ih
theorem aDS{w:HD}{P:IB}{s₁:CA}(hin:(Hd.KA P).In s₁.heap)(lim:s₁.heap.NoLimit)(hg:s₁.gens=#[]):R (bl Hd.pw w P s₁) ⟨[],[]⟩ [] s₁ where
 old:=⟨OldK.refl _,fun x9 e=>e⟩
 lim:=lim
 bare:=.of_eq hg
 os:=rfl
 tab:=fun t ht=>⟨#[],by rw[Array.append_empty];exact aAX hin t ht,by
  simp only[bl,bs,lawTabs,NA,GB,QD] at ht
  rcases ht with rfl|rfl|rfl <;> trivial⟩
 ors:=.nil
 nd:=GG
 new:=fun x9 h=>nomatch h
 hid:=fun x9 h=>nomatch h
theorem done_A:Hd.lg.Holds:=by
 refine Hd.head_A ?_
 intro d kwd hname w s₀ s₁ mg mb G Y a o pm cd doc dV kV ho hdd hcd hD hmg hg args vals as L hpre hlay hrd hwl hlo
 have hin:=Frag.In.keeps (X.z_facts Hd.ka_eq Y).2.1 L.keeps
 have kin:=aGj hin
 refine Ground.open G ?_
 intro T B D TE TW
 have nd:(lawTabs.map (·.2.1)).Nodup:=by decide
 have BO:aC (bl Hd.pw w w.params s₁):=⟨kin,aFm _,T.nolimit,aAX hin,aDR hin,nd,⟨mb,T.b,T.builtins⟩,let ⟨bm,ob,h1,h2,h3,h4,h5,h6⟩:=T.bmain;⟨mg,bm,ob,T.g,h1,h2,h3,h4,h5,h6⟩⟩
 wrow_args hpre hlay hrd hwl hlo
 rename_i ns hs hl0 hL1 hr1 hl2 a1 a2 l its a3 hL ra w1 r0 hI hr hc hc2
 have ea:a=1060:=by
  rw[hname,show Hd.rr.name=("law" : Str) from rfl,yO kin T.g (n:="law") (v:=.ref 1060) (by kernel_rfl)] at hmg
  cases hmg;rfl
 subst ea
 have hobj:=X.script_obj L hL
 refine aGg (h:=0) BO (aGk w s₁) (ns:=ns) (by lia) (aDQ ns) callerA s₁ ⟨[],[]⟩ [.ref l] [] _ _ ⟨by decide,by decide,rfl⟩ rfl ⟨fun x9 h=>(nomatch h),fun x9 h=>(nomatch h)⟩ (aDS hin T.nolimit hg)
  (.cons (.lst hobj (fun h=>nomatch h) (aCs hI)) .nil) ?_
 intro ρ' s' mv r _ _ v
 cases v
 exact ⟨.inl ⟨_,_,[],rfl,fun x9=>rfl,ReadsW.bool true,by wrow_post,fun x9=>⟨GG,fun x9 hm=>(nomatch hm)⟩⟩,r.old.toOldK,r.os,r.bare⟩
end Mine
theorem PySem.Challenge.cw_pd0203_01_holds : PySem.Challenge.rw_pd0203_01.Holds :=
  Mine.done_A
