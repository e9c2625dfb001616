import PyProof.Rows.All
import Wide.All
import OpenK.KSplit
import OpenK.KApp
import KE.RegKMod
import KE.KJoinElse
import KE.KTops
import KE.RegKSuper
import KE.RegLcAnyAll
import KE.KCells
import KE.KPassesOwn
import KE.KNestStore
import KE.KStopIter
import KE.RegKBase
import KE.KDictOne
import KE.KNestM
import KE.KDflt
import KE.KOwnIterCall
import KE.KEqText
import KE.KxLen
import KE.KEqDict
import KE.KDisp
import KE.KDictAnyGet
import KE.KDictObj
import KE.KSetIn
import KE.KRevSl
import KE.KEqDeep
import KE.KAnyBase
import KE.KWhile
import KE.KRevIter
import KE.KTreeR
import KE.KxStill
import KE.KTopLam
import KE.KOpsOwn
import KE.KDictNew
import KE.KWhileD
import KE.KLcTest
import KE.KPopAny
import KE.KGrown
import KE.KItemAt
import KE.KTextLit
import KE.KTupDict
import KE.KFmtOwn
import KE.KSortKey
import KE.KExtendNil
import KE.KMethU
import KE.KDictName
import KE.KDictAnyTail
import KE.RegKStar
import KE.RegKTupTruth
import KE.RegKTupSum
import KE.RegKParC
import KE.KxAdd
import KE.KxAffix
import KE.RegKIsAll
import KE.RegKMatchCls
import KE.KLcPair
import KE.KJoinL
import KE.RegKNeg
import KE.KCellOne
import KE.KDictSymLen
import KE.KPairAssign
import KE.KMulAny
import KE.KTextDict
import KE.KSplitRange
import KE.KxPart
import KE.KDictLetter
import KE.KRangeNest
import KE.KSetAt
import KE.KWords
import KE.KxTruthy
import KE.KPairRows
import KE.KStateDown
import KE.KItemsList
import KE.BitLaws
import KE.RegFinNonlin
import KE.KIntText
import KE.KForList
import KE.KIdxIf
import KE.KAssignIn
import KE.KOwn
import KE.KTurnsGround
import KE.KListEnd
import KE.KFinFacts
import KE.RegKTryOn
import KE.KTreeF
import KE.KEndWord
import KE.KOf
import KE.KRepItem
import KE.KListLetter
import KE.KSliceSign
import KE.KFromBytes
import KE.KEndW
import KE.RegLGeC
import Open.Tops
import Wide.FinOn
import PySem.Challenge.RW_xo0041_01
set_option Elab.async false
set_option linter.unusedVariables false
set_option maxRecDepth 100000
set_option bootstrap.genMatcherCode false
noncomputable section
namespace Mine
local macro_rules | `(tactic| walk_at $s:str) => `(tactic| k_extra $s)
local macro_rules | `(tactic| dl_mem) => `(tactic| k_extra "dl_mem")
local macro_rules | `(tactic| k_all) => `(tactic| k_extra "k_all")
local macro_rules | `(tactic| k_in) => `(tactic| k_extra "k_in")
local macro_rules | `(tactic| k_inst) => `(tactic| k_extra "k_inst")
local macro_rules | `(tactic| k_mem) => `(tactic| k_extra "k_mem")
local macro_rules | `(tactic| k_ne) => `(tactic| k_extra "k_ne")
local macro_rules | `(tactic| keq_rows) => `(tactic| k_extra "keq_rows")
local macro_rules | `(tactic| kbo_bools) => `(tactic| k_extra "kbo_bools")
local macro_rules | `(tactic| ktr_rel) => `(tactic| k_extra "ktr_rel")
local macro_rules | `(tactic| ktr_unf) => `(tactic| k_extra "ktr_unf")
local macro_rules | `(tactic| tb_rel) => `(tactic| k_extra "tb_rel")
section
theorem eq_1295:True:=by
 k_with_none
 k_with "isp"=>(fail_if_success (fail_if_success (refine And.left (b:=True) ?_)))
 k_with "rotp"=>(repeat ((fail_if_success (refine And.left (b:=True) ?_));rotate_left 1))
 k_with "w0"=>(unfold Ct;k_fill;intro p loose mean mg mb dp un gd cn cs a ccd cl outer A₀ base h₀ L m s Q E B F X N T hk hd hu ht hgb hret;refine wpAny_call ?_;k_dflt (refine' eq_80 ?k1 ?k2 ?k3 ?k4 ?k5 ?kA ?kF ?kK ?k6 ?k7 ?k8 ?k9 ?kB ?kT ?_ ?c2 ?c3 ?c4 ?c5;(case kA=>exact rfl);(case kF=>exact rfl);(case kK=>assumption);(case k1=>exact B);(case k2=>exact F);(case k3=>exact X);(case k4=>exact N);(case k5=>exact T);(case k6=>k_is);(case k7=>k_is);(case k8=>(show dp<recursionLimit;keq_rows));(case k9=>first|exact BindsTo.of_eq rfl|exact binds_K (by k_in) rfl (by k_is) rfl rfl rfl);(case c5=>decide);(case kB=>exact locs rfl);(case kT=>exact ht);(case c2=>exact rfl);(case c3=>exact rfl);(case c4=>exact rfl);k_whole);intro g L1 h1 tk1 FG F1 N1 B1 X1 T1 l1 kp ht1;(try dsimp only);clear ht;k_fold)
 k_with "w1"=>((case F=>with_reducible assumption);(case N=>exact eq_51 (by with_reducible assumption) (by k_mem)))
 k_with "w2"=>((case k=>exact (fun b o e q=>(by assumption:g.StaysIn _) b o (kp b o e q)));(case fr=>exact eq_20 kp (eq_51 (by with_reducible assumption) (by k_mem)));(case t=>first|assumption|keq_rows);(case g=>assumption))
 k_with "w3"=>(unfold Ct;k_fill;intro p loose mean mg mb dp un gd cn cs a ccd cl outer A₀ base h₀ L m s Q E B F X N T hk hd hu ht hgb hret;refine wpAny_call ?_;k_dflt (refine' eq_267 ?k1 ?k2 ?k3 ?k4 ?k5 ?kA ?kF ?kK ?k6 ?k7 ?k8 ?k9 ?kB ?kT ?_ ?c5 ?c2 ?c3 ?c4;(case kA=>exact rfl);(case kF=>exact rfl);(case kK=>assumption);(case k1=>exact B);(case k2=>exact F);(case k3=>exact X);(case k4=>exact N);(case k5=>exact T);(case k6=>k_is);(case k7=>k_is);(case k8=>(show dp<recursionLimit;keq_rows));(case k9=>first|exact BindsTo.of_eq rfl|exact binds_K (by k_in) rfl (by k_is) rfl rfl rfl);(case c5=>decide);(case kB=>exact locs rfl);(case kT=>exact ht);(case c2=>exact rfl);(case c3=>exact rfl);(case c4=>exact rfl);k_whole);intro g L1 h1 tk1 FG F1 N1 B1 X1 T1 l1 kp ht1;(try dsimp only);clear ht;(try k_fold))
 k_with "w4"=>((case F=>with_reducible assumption);(case N=>exact News.sub (by with_reducible assumption) (by repeat (first|exact List.forall_mem_nil _|refine List.forall_mem_cons.mpr ⟨by k_mem,?_⟩))))
 k_with "w5"=>((case k=>exact (fun b o e q=>(by assumption:g.StaysIn _) b o (kp b o e q)));(case fr=>exact eq_20 kp (News.sub (by with_reducible assumption) (by repeat (first|exact List.forall_mem_nil _|refine List.forall_mem_cons.mpr ⟨by k_mem,?_⟩))));(case t=>first|assumption|keq_rows);(case g=>assumption))
 k_with "w6"=>(unfold CtC;k_fill;intro p loose mean mg mb dp un gd cn cs a ccd cl outer A₀ base h₀ L m s Q E B F X N T hk hd hu ht hgb hret;k_dflt (refine' eq_80 ?k1 ?k2 ?k3 ?k4 ?k5 ?kA ?kF ?kK ?k6 ?k7 ?k8 ?k9 ?kB ?kT ?_ ?c2 ?c3 ?c4 ?c5;(case kA=>exact rfl);(case kF=>exact rfl);(case kK=>assumption);(case k1=>exact B);(case k2=>exact F);(case k3=>exact X);(case k4=>exact N);(case k5=>exact T);(case k6=>k_is);(case k7=>k_is);(case k8=>(show dp<recursionLimit;keq_rows));(case k9=>first|exact BindsTo.of_eq rfl|exact binds_K (by k_in) rfl (by k_is) rfl rfl rfl);(case c5=>decide);(case kB=>exact locs rfl);(case kT=>exact ht);(case c2=>exact rfl);(case c3=>exact rfl);(case c4=>exact rfl);k_whole);intro g L1 h1 tk1 FG F1 N1 B1 X1 T1 l1 kp ht1;(try dsimp only);clear ht;k_fold)
 k_with "w7"=>(unfold CtC;k_fill;intro p loose mean mg mb dp un gd cn cs a ccd cl outer A₀ base h₀ L m s Q E B F X N T hk hd hu ht hgb hret;k_dflt (refine' eq_267 ?k1 ?k2 ?k3 ?k4 ?k5 ?kA ?kF ?kK ?k6 ?k7 ?k8 ?k9 ?kB ?kT ?_ ?c5 ?c2 ?c3 ?c4;(case kA=>exact rfl);(case kF=>exact rfl);(case kK=>assumption);(case k1=>exact B);(case k2=>exact F);(case k3=>exact X);(case k4=>exact N);(case k5=>exact T);(case k6=>k_is);(case k7=>k_is);(case k8=>(show dp<recursionLimit;keq_rows));(case k9=>first|exact BindsTo.of_eq rfl|exact binds_K (by k_in) rfl (by k_is) rfl rfl rfl);(case c5=>decide);(case kB=>exact locs rfl);(case kT=>exact ht);(case c2=>exact rfl);(case c3=>exact rfl);(case c4=>exact rfl);k_whole);intro g L1 h1 tk1 FG F1 N1 B1 X1 T1 l1 kp ht1;(try dsimp only);clear ht;(try k_fold))
 k_with "w8"=>(unfold CtQ;k_fill;intro p loose mean mg mb dp un gd cn cs a ccd cl outer A₀ base h₀ L m s Q E B F X N T hk hd hu ht hgb hpre hret;refine wpAny_call ?_;k_dflt (refine' eq_80 ?k1 ?k2 ?k3 ?k4 ?k5 ?kA ?kF ?kK ?k6 ?k7 ?k8 ?k9 ?kB ?kT ?_ ?c2 ?c3 ?c4 ?c5;(case kA=>exact rfl);(case kF=>exact rfl);(case kK=>assumption);(case k1=>exact B);(case k2=>exact F);(case k3=>exact X);(case k4=>exact N);(case k5=>exact T);(case k6=>k_is);(case k7=>k_is);(case k8=>(show dp<recursionLimit;keq_rows));(case k9=>first|exact BindsTo.of_eq rfl|exact binds_K (by k_in) rfl (by k_is) rfl rfl rfl);(case c5=>decide);(case kB=>exact locs rfl);(case kT=>exact ht);(case c2=>exact rfl);(case c3=>exact rfl);(case c4=>exact rfl);k_whole);intro g L1 h1 tk1 FG F1 N1 B1 X1 T1 l1 kp ht1;(try dsimp only);clear ht;k_fold)
 k_with "w9"=>(unfold CtP;k_fill;intro p loose mean mg mb dp un gd cn cs a ccd cl outer A₀ base h₀ L m s Q E B F X N T hk hd hu ht hgb hpre hret;refine wpAny_call ?_;k_dflt (refine' eq_80 ?k1 ?k2 ?k3 ?k4 ?k5 ?kA ?kF ?kK ?k6 ?k7 ?k8 ?k9 ?kB ?kT ?_ ?c2 ?c3 ?c4 ?c5;(case kA=>exact rfl);(case kF=>exact rfl);(case kK=>assumption);(case k1=>exact B);(case k2=>exact F);(case k3=>exact X);(case k4=>exact N);(case k5=>exact T);(case k6=>k_is);(case k7=>k_is);(case k8=>(show dp<recursionLimit;keq_rows));(case k9=>first|exact BindsTo.of_eq rfl|exact binds_K (by k_in) rfl (by k_is) rfl rfl rfl);(case c5=>decide);(case kB=>exact locs rfl);(case kT=>exact ht);(case c2=>exact rfl);(case c3=>exact rfl);(case c4=>exact rfl);k_whole);intro g L1 h1 tk1 FG F1 N1 B1 X1 T1 l1 kp ht1;(try dsimp only);clear ht;k_fold)
 k_with "v0"=>(rcases List.mem_cons.mp hp with rfl|hp)
 k_with "v1"=>(all_goals (first|exact (Str.ofString "law":Str)|exact (379:Addr)|exact (Value.ref 378:Value)|skip))
 k_with "v2"=>(rcases List.mem_cons.mp hq with rfl|hq)
 k_with "v3"=>(all_goals exact hret _ _ _ _ _ (by assumption) (by assumption) (fun b o e q=>(by assumption:g.StaysIn _) b o (kp b o e q)) (eq_20 kp (by assumption)) (⟨_,rfl⟩) (by first|assumption|keq_rows) (by assumption))
 k_with "v4"=>(exact ne5 _ (by (show @LT.lt Nat _ _ _;keq_rows)) (by (show @Ne Nat _ _;keq_rows)) (by (show @Ne Nat _ _;keq_rows)))
 k_with "v5"=>(refine wpAny_call (codeAny_call_builtin PySem.F.slot_list_getattribute.plain PySem.am_entry_list_getattribute (check_slot (i:="list.__getattribute__") (owner:="list") (n:="__getattribute__") (by decide +kernel) (by decide +kernel) (I.type.andThen (looks_mroIn X hm)) (PySem.F.args_list_getattribute_2 _ _) ?_)))
 k_with "v6"=>(all_goals exact hret _ _ _ _ _ (by assumption) (by assumption) (fun b o e q=>(by assumption:g.StaysIn _) b o (kp b o e q)) (eq_20 kp (by assumption)) (⟨⟨_,rfl⟩,_,hop',rfl⟩) (by first|assumption|keq_rows) (by assumption))
 k_with "v7"=>(obtain ⟨a1,a2,a3,a4,a5,a6,a7,a8,a9,aa,b1,b2,b3,b4,b5,c1,c2,c3,c4,c5⟩:=eq_1068 N1 htb1 htb2)
 k_with "v8"=>(all_goals exact hret _ _ _ _ _ (by assumption) (by assumption) (fun b o e q=>(by assumption:g.StaysIn _) b o (kp b o e q)) (eq_20 kp (by assumption)) (⟨rfl,_,rfl⟩) (by first|assumption|keq_rows) (by assumption))
 k_with "v9"=>(replace F1:Fr g L1 h1 (fun y=>List.lookup y [(Str.ofString "self",.ref AA)]):=F1)
 k_with "va"=>(refine wpAny_bind (wpAny_attempt (wpAny_callSpecial?_slot (name:=Str.ofString "__next__") hT PySem.F.slot_zip_next (wpAny_call_entry PySem.F.slot_zip_next hT PySem.F.entry_zip_next ?_ (PySem.F.args_zip_next_1 _)))))
 k_with "vb"=>(all_goals exact hret _ _ _ _ _ (by assumption) (by assumption) (fun b o e q=>(by assumption:g.StaysIn _) b o (kp b o e q)) (eq_20 kp (by assumption)) (rfl) (by first|assumption|keq_rows) (by assumption))
 k_with "vc"=>(replace F1:Fr g L1 h1 (fun y=>List.lookup y [(tx,.str (S l) t)]):=F1)
 k_with "vd"=>(refine eq_955 (o:=Q1c es n) hget rfl (Nat.le_trans hb (Nat.le_add_right _ _)) (eq_656 hnd) (by rw [sizeLine_eq,List.size_toArray];rw [List.length_cons] at hlen;keq_rows) ?_)
 k_with "ve"=>(exact eq_318 (by k_asm) (by k_asm) hn₄ (by k_extra "t") (by assumption) ⟨by k_extra "m",⟨_,by k_extra "m"⟩,rfl,by rw [hlen3,hnx];exact hst (by simp [Q1j,hx1])⟩)
 k_with "vf"=>(simp only [List.map_cons,List.map_nil,List.mem_cons,List.not_mem_nil,or_false] at hm)
 k_with "vg"=>(refine eq_1166 rfl rfl hoC F6 N6 off h1 h3 htk fun h' tk' oC' htk' hoC' F7 N7=>?_)
 k_with "vh"=>(rcases List.mem_cons.mp (show c∈(a,x.takeWhile (fun c=>!Q5 c))::Qm ((d::r).takeWhile Q5::Q3 k ((d::r).dropWhile Q5)) from hc) with rfl|hc)
 k_with "vi"=>(refine eq_233 (by k_asm) (by k_asm) (by k_asm) (by k_mem) (by k_mem) (by k_is) (by k_is) (by k_is) (by keq_rows) hv2 ?_ (by with_unfolding_all rfl) (fun _=>rfl))
 k_with "vj"=>(exact eq_318 (by k_asm) (by k_asm) hn₄ (by k_extra "t") (by assumption) ⟨by k_extra "m",⟨_,by k_extra "m"⟩,rfl,by rw [hlen3,hnx];exact hst (rfl)⟩)
 k_with "vk"=>(exact Qi.toLoop (s:=s) (fun h' m' news' F' N' hJ'=>⟨⟨io,(N' _ (.head _)).1,hcls,hdat⟩,hk _ _ _ _ hJ' F' fun p hp=>N' p (.tail _ hp)⟩) a₃)
 k_with "vl"=>(refine eq_159 rfl rfl F₁ N₁ fun h' F' N'=>?_)
 k_with "vm"=>(replace F1:Fr g L1 h1 (fun y=>List.lookup y [(Str.ofString "string",.str tB ty),(Str.ofString "fws",.str tA tx),(Str.ofString "self",.ref AA)]):=F1)
 k_with "vn"=>(refine wpAny_bind (wpAny_rule (wpAny_bind (wpAny_field hz rfl (x:=.ref TO) rfl (wpAny_bind (wpAny_setField_rec hz (by simp) fun g₁ u₁ b₁=>?_))))))
 k_with "vo"=>(replace F1:Fr g L1 h1 (fun y=>List.lookup y [(cd,.str (S [c]) t)]):=F1)
 k_with "vp"=>(refine wpAny_bind (wpAny_field hos hds (x:=vu) rfl (wpAny_bind (wpAny_listPart pu (wpAny_pure ?_)))))
 k_with "vq"=>(rcases hx with rfl|rfl|rfl|rfl|rfl<;>rcases hy with rfl|rfl|rfl|rfl|rfl<;>decide)
 k_with "vr"=>(rcases List.mem_append.mp hp with hp|hp)
 k_with "vs"=>(refine ⟨_,_,_,_,_,_,rfl,by with_reducible assumption,by assumption,by assumption,off,by keq_rows,by assumption,rfl,?_⟩)
 k_with "vt"=>(refine wpAny_bind (wpAny_field hos hds (x:=vl) rfl (wpAny_bind (wpAny_listPart pl ?_))))
 k_with "vu"=>(rcases List.mem_append.mp hq with hq|hq)
 k_with "vv"=>(rcases List.mem_append.mp hb with hb|hb)
 k_with "vw"=>(refine wpAny_bind ?_)
 k_with "vx"=>(refine wpAny_pure ?_)
 k_with "vy"=>(obtain ⟨m2,hm2,F2⟩:∃ m2,m2=_∧Fr _ _ _ m2:=⟨_,rfl,F2⟩)
 k_with "vz"=>(refine wpAny_bind (wpAny_of_eq (a:=(.builtin id,some (.ref x),some (.ref C))) (by first|rfl|kernel_rfl) ?_))
 k_with "v10"=>(rw [if_neg (by rw [show (Value.builtin "int.__hash__"==Value.none)=false from rfl];exact Bool.false_ne_true)])
 k_with "v11"=>(rw [hbt2.len];exact Nat.le_trans (Nat.le_trans (eq_268 ns turn zs b (List.mem_of_getElem? hb)) hzl) (by decide))
 k_with "v12"=>(refine wpAny_bind (wpAny_bind (wpAny_field hos hds (x:=.none) rfl (wpAny_bind (wpAny_listPart .none ?_)))))
 k_with "v13"=>(refine wpAny_with_toks ht (join_listW (ys:=ls.map S) hl (eq_713 x) (by decide) ?_ fun t' k hk=>?_))
 k_with "v14"=>(rw [if_neg (by decide)])
 k_with "v15"=>(refine ⟨p,t1,t2,_,_,_,_,_,_,_,_,_,h1,h2,rfl,?_⟩)
 k_with "v16"=>(refine wpAny_bind (wpAny_field hz rfl (x:=.ref TI) rfl (wpAny_bind (wpAny_seqItems hTI rfl ?_))))
 k_with "v17"=>(unfold getAttrByItsOwn hookBefore callGetattribute boundAndCalled)
 k_with "v18"=>(refine wpAny_Name (ks_loadName_global (env:=genEnv scope cl C code builtinsNs env) hk hl ?_) hd)
 k_with "v19"=>(refine wpAny_bind (wpAny_mkText (wpAny_holding (wpAny_bind (L0.at (wpAny_bind (L1.at ?_)))))))
 k_with "v1a"=>(rw [List.flatMap_cons,List.length_append,List.length_cons])
 k_with "v1b"=>(refine eq_6 (eq_6 ⟨Nat.le_refl _,_,rfl,?_,.inr ⟨by keq_rows,rfl,?_⟩⟩))
 k_with "v1c"=>(obtain ⟨⟨oc,od,cd,sl,hC,e2,e4,e9⟩,made,base,self,top,call,typ⟩:=Y)
 k_with "v1d"=>(exact absurd (congrArg Obj.cls e) (by simp))
 k_with "v1e"=>(refine wpAny_bind (wpAny_specialOf hTs slice_no_index ?_))
 k_with "v1f"=>(rw [eq_969,show (Q13 b l).objs.size=b.objs.size+l.length from eq_457 b l])
 k_with "v1g"=>(exact ⟨L',m',news',F',N',fun a b c=>k a b (fun b o e=>F'.keep b o e) c⟩)
 k_with "v1h"=>(refine wpAny_bind (wpAny_bind (wpAny_field hz rfl (x:=.none) rfl (wpAny_pure ?_))))
 k_with "v1i"=>(refine wpAny_bind (wpAny_of_eq (sliceIndices_raw lo hi none its.size (by simp)) ?_))
 k_with "v1j"=>(rw [if_neg (show ¬ ((Value.ref l==Value.none)=true) from Bool.false_ne_true)])
 k_with "v1k"=>(refine wpAny_bind (wpAny_of_eq (a:=(Str.ofString nm,Value.type "list")) ?_ ?_))
 k_with "v1l"=>(rw [if_neg (show ¬ ((rawPart none==rawInt 0)=true) from Bool.false_ne_true)])
 k_with "v1m"=>(simp only [Bool.false_eq_true,if_false])
 k_with "v1n"=>(rcases List.mem_cons.mp hb with rfl|hb)
 k_with "v1o"=>(refine eq_885 (cl:=[]) (by with_unfolding_all rfl) rfl rfl (by decide) ?_)
 k_with "v1p"=>(obtain ⟨nw,hnw,N2⟩:∃ nw,nw=_∧News _ _ _ nw:=⟨_,rfl,N2⟩)
 k_with "v1q"=>(refine wpAny_bind (wpAny_attempt (wpAny_holding ?_)))
 k_with "v1r"=>(unfold mroIn;rw [hc,Option.bind_some,if_neg (by rw [ne];decide),e4];simp)
 k_with "v1s"=>(rcases List.mem_cons.mp hm with hh|hm)
 k_with "v1t"=>(simp only [List.zipIdx_cons,List.zipIdx_nil,List.forIn_cons,List.forIn_nil])
 k_with "v1u"=>(rw [List.take_add_one,h];simp)
 k_with "v1v"=>(exact eq_19 N mp mq (by simp))
 k_with "v1w"=>(rw [PySem.W.Fast.te10110043849684766642,PySem.W.Fast.te14364793385576792824])
 k_with "v1x"=>(rcases List.mem_append.mp h with h|h)
 k_with "v1y"=>(rw [show vs.toArray.size=vs.length by simp] at W)
 k_with "v1z"=>(refine wpAny_bind (wpAny_typeOf (s:=s) (T:="list") ⟨_,hv,rfl⟩ ?_))
 k_with "v20"=>(refine wpAny_with_toks (n:=1) ht ?_)
 k_with "v21"=>(refine wpAny_bind (wpAny_of_eq (PySem.F.slot_list_getattribute.bind _) ?_))
 k_with "v22"=>(rw [List.map_append,List.sum_append])
 k_with "v23"=>(refine wpAny_bind (wpAny_bind (wpAny_onRaise ?_)))
 k_with "v24"=>(refine wpAny_bind (m:=slotArgs "__getattribute__" 1 _) (wpAny_pure ?_))
 k_with "v25"=>(rw [Heap.get?_update_self _ z.1 rfl])
 k_with "v26"=>(exact decide_eq_false (by keq_rows))
 k_with "v27"=>(exact wpAny_bind (wpAny_letGo (wpAny_pure h)))
 trivial
end
section
theorem eq_7 {a1 a2 G:Prop} (h:a1∧a2) (f:a1→a2→G):G:=f h.1 h.2
theorem eq_27 {a1 a2 a3 G:Prop} (h:a1∧a2∧a3) (f:a1→a2→a3→G):G:=f h.1 h.2.1 h.2.2
theorem eq_100 {a1 a2 a3 a4 G:Prop} (h:a1∧a2∧a3∧a4) (f:a1→a2→a3→a4→G):G:=f h.1 h.2.1 h.2.2.1 h.2.2.2
theorem eq_39 {a1 a2 a3 a4 a5 G:Prop} (h:a1∧a2∧a3∧a4∧a5) (f:a1→a2→a3→a4→a5→G):G:=f h.1 h.2.1 h.2.2.1 h.2.2.2.1 h.2.2.2.2
theorem eq_176 {a1 a2 a3 a4 a5 a6 a7 G:Prop} (h:a1∧a2∧a3∧a4∧a5∧a6∧a7) (f:a1→a2→a3→a4→a5→a6→a7→G):G:=f h.1 h.2.1 h.2.2.1 h.2.2.2.1 h.2.2.2.2.1 h.2.2.2.2.2.1 h.2.2.2.2.2.2
theorem eq_748 {a1 a2 a3 a4 a5 a6 a7 a8 G:Prop} (h:a1∧a2∧a3∧a4∧a5∧a6∧a7∧a8) (f:a1→a2→a3→a4→a5→a6→a7→a8→G):G:=f h.1 h.2.1 h.2.2.1 h.2.2.2.1 h.2.2.2.2.1 h.2.2.2.2.2.1 h.2.2.2.2.2.2.1 h.2.2.2.2.2.2.2
theorem eq_5 {t1:Type} {a1:t1→Prop} {G:Prop} (h:∃ x1,a1 x1) (f:∀ x1,a1 x1→G):G:=h.elim fun x1 h=>f x1 h
theorem eq_4 {t1:Type} {a1 a2:t1→Prop} {G:Prop} (h:∃ x1,a1 x1∧a2 x1) (f:∀ x1,a1 x1→a2 x1→G):G:=h.elim fun x1 h=>f x1 h.1 h.2
theorem eq_18 {t1:Type} {a1 a2 a3:t1→Prop} {G:Prop} (h:∃ x1,a1 x1∧a2 x1∧a3 x1) (f:∀ x1,a1 x1→a2 x1→a3 x1→G):G:=h.elim fun x1 h=>f x1 h.1 h.2.1 h.2.2
theorem eq_29 {t1 t2:Type} {a1:t1→t2→Prop} {G:Prop} (h:∃ x1 x2,a1 x1 x2) (f:∀ x1 x2,a1 x1 x2→G):G:=h.elim fun x1 h=>h.elim fun x2 h=>f x1 x2 h
theorem eq_14 {t1 t2:Type} {a1 a2:t1→t2→Prop} {G:Prop} (h:∃ x1 x2,a1 x1 x2∧a2 x1 x2) (f:∀ x1 x2,a1 x1 x2→a2 x1 x2→G):G:=h.elim fun x1 h=>h.elim fun x2 h=>f x1 x2 h.1 h.2
theorem eq_360 {t1 t2:Type} {a1 a2 a3:t1→t2→Prop} {G:Prop} (h:∃ x1 x2,a1 x1 x2∧a2 x1 x2∧a3 x1 x2) (f:∀ x1 x2,a1 x1 x2→a2 x1 x2→a3 x1 x2→G):G:=h.elim fun x1 h=>h.elim fun x2 h=>f x1 x2 h.1 h.2.1 h.2.2
theorem eq_23 {t1 t2:Type} {a1 a2 a3 a4:t1→t2→Prop} {G:Prop} (h:∃ x1 x2,a1 x1 x2∧a2 x1 x2∧a3 x1 x2∧a4 x1 x2) (f:∀ x1 x2,a1 x1 x2→a2 x1 x2→a3 x1 x2→a4 x1 x2→G):G:=h.elim fun x1 h=>h.elim fun x2 h=>f x1 x2 h.1 h.2.1 h.2.2.1 h.2.2.2
theorem eq_771 {t1 t2:Type} {a1 a2 a3 a4 a5 a6:t1→t2→Prop} {G:Prop} (h:∃ x1 x2,a1 x1 x2∧a2 x1 x2∧a3 x1 x2∧a4 x1 x2∧a5 x1 x2∧a6 x1 x2) (f:∀ x1 x2,a1 x1 x2→a2 x1 x2→a3 x1 x2→a4 x1 x2→a5 x1 x2→a6 x1 x2→G):G:=h.elim fun x1 h=>h.elim fun x2 h=>f x1 x2 h.1 h.2.1 h.2.2.1 h.2.2.2.1 h.2.2.2.2.1 h.2.2.2.2.2
theorem eq_26 {t1 t2 t3:Type} {a1 a2:t1→t2→t3→Prop} {G:Prop} (h:∃ x1 x2 x3,a1 x1 x2 x3∧a2 x1 x2 x3) (f:∀ x1 x2 x3,a1 x1 x2 x3→a2 x1 x2 x3→G):G:=h.elim fun x1 h=>h.elim fun x2 h=>h.elim fun x3 h=>f x1 x2 x3 h.1 h.2
theorem eq_70 {t1 t2 t3:Type} {a1 a2 a3:t1→t2→t3→Prop} {G:Prop} (h:∃ x1 x2 x3,a1 x1 x2 x3∧a2 x1 x2 x3∧a3 x1 x2 x3) (f:∀ x1 x2 x3,a1 x1 x2 x3→a2 x1 x2 x3→a3 x1 x2 x3→G):G:=h.elim fun x1 h=>h.elim fun x2 h=>h.elim fun x3 h=>f x1 x2 x3 h.1 h.2.1 h.2.2
theorem eq_825 {t1 t2 t3 t4:Type} {a1 a2:t1→t2→t3→t4→Prop} {G:Prop} (h:∃ x1 x2 x3 x4,a1 x1 x2 x3 x4∧a2 x1 x2 x3 x4) (f:∀ x1 x2 x3 x4,a1 x1 x2 x3 x4→a2 x1 x2 x3 x4→G):G:=h.elim fun x1 h=>h.elim fun x2 h=>h.elim fun x3 h=>h.elim fun x4 h=>f x1 x2 x3 x4 h.1 h.2
theorem eq_281 {t1 t2 t3 t4:Type} {a1 a2 a3 a4 a5 a6:t1→t2→t3→t4→Prop} {G:Prop} (h:∃ x1 x2 x3 x4,a1 x1 x2 x3 x4∧a2 x1 x2 x3 x4∧a3 x1 x2 x3 x4∧a4 x1 x2 x3 x4∧a5 x1 x2 x3 x4∧a6 x1 x2 x3 x4) (f:∀ x1 x2 x3 x4,a1 x1 x2 x3 x4→a2 x1 x2 x3 x4→a3 x1 x2 x3 x4→a4 x1 x2 x3 x4→a5 x1 x2 x3 x4→a6 x1 x2 x3 x4→G):G:=h.elim fun x1 h=>h.elim fun x2 h=>h.elim fun x3 h=>h.elim fun x4 h=>f x1 x2 x3 x4 h.1 h.2.1 h.2.2.1 h.2.2.2.1 h.2.2.2.2.1 h.2.2.2.2.2
theorem eq_358 {t1 t2 t3 t4:Type} {a1 a2 a3 a4 a5 a6 a7 a8 a9:t1→t2→t3→t4→Prop} {G:Prop} (h:∃ x1 x2 x3 x4,a1 x1 x2 x3 x4∧a2 x1 x2 x3 x4∧a3 x1 x2 x3 x4∧a4 x1 x2 x3 x4∧a5 x1 x2 x3 x4∧a6 x1 x2 x3 x4∧a7 x1 x2 x3 x4∧a8 x1 x2 x3 x4∧a9 x1 x2 x3 x4) (f:∀ x1 x2 x3 x4,a1 x1 x2 x3 x4→a2 x1 x2 x3 x4→a3 x1 x2 x3 x4→a4 x1 x2 x3 x4→a5 x1 x2 x3 x4→a6 x1 x2 x3 x4→a7 x1 x2 x3 x4→a8 x1 x2 x3 x4→a9 x1 x2 x3 x4→G):G:=h.elim fun x1 h=>h.elim fun x2 h=>h.elim fun x3 h=>h.elim fun x4 h=>f x1 x2 x3 x4 h.1 h.2.1 h.2.2.1 h.2.2.2.1 h.2.2.2.2.1 h.2.2.2.2.2.1 h.2.2.2.2.2.2.1 h.2.2.2.2.2.2.2.1 h.2.2.2.2.2.2.2.2
theorem eq_308 {t1 t2 t3 t4 t5:Type} {a1 a2:t1→t2→t3→t4→t5→Prop} {G:Prop} (h:∃ x1 x2 x3 x4 x5,a1 x1 x2 x3 x4 x5∧a2 x1 x2 x3 x4 x5) (f:∀ x1 x2 x3 x4 x5,a1 x1 x2 x3 x4 x5→a2 x1 x2 x3 x4 x5→G):G:=h.elim fun x1 h=>h.elim fun x2 h=>h.elim fun x3 h=>h.elim fun x4 h=>h.elim fun x5 h=>f x1 x2 x3 x4 x5 h.1 h.2
theorem eq_46 {t1 t2 t3 t4 t5:Type} {a1 a2 a3 a4 a5 a6 a7:t1→t2→t3→t4→t5→Prop} {G:Prop} (h:∃ x1 x2 x3 x4 x5,a1 x1 x2 x3 x4 x5∧a2 x1 x2 x3 x4 x5∧a3 x1 x2 x3 x4 x5∧a4 x1 x2 x3 x4 x5∧a5 x1 x2 x3 x4 x5∧a6 x1 x2 x3 x4 x5∧a7 x1 x2 x3 x4 x5) (f:∀ x1 x2 x3 x4 x5,a1 x1 x2 x3 x4 x5→a2 x1 x2 x3 x4 x5→a3 x1 x2 x3 x4 x5→a4 x1 x2 x3 x4 x5→a5 x1 x2 x3 x4 x5→a6 x1 x2 x3 x4 x5→a7 x1 x2 x3 x4 x5→G):G:=h.elim fun x1 h=>h.elim fun x2 h=>h.elim fun x3 h=>h.elim fun x4 h=>h.elim fun x5 h=>f x1 x2 x3 x4 x5 h.1 h.2.1 h.2.2.1 h.2.2.2.1 h.2.2.2.2.1 h.2.2.2.2.2.1 h.2.2.2.2.2.2
theorem eq_328 {t1 t2 t3 t4 t5:Type} {a1 a2 a3 a4 a5 a6 a7 a8:t1→t2→t3→t4→t5→Prop} {G:Prop} (h:∃ x1 x2 x3 x4 x5,a1 x1 x2 x3 x4 x5∧a2 x1 x2 x3 x4 x5∧a3 x1 x2 x3 x4 x5∧a4 x1 x2 x3 x4 x5∧a5 x1 x2 x3 x4 x5∧a6 x1 x2 x3 x4 x5∧a7 x1 x2 x3 x4 x5∧a8 x1 x2 x3 x4 x5) (f:∀ x1 x2 x3 x4 x5,a1 x1 x2 x3 x4 x5→a2 x1 x2 x3 x4 x5→a3 x1 x2 x3 x4 x5→a4 x1 x2 x3 x4 x5→a5 x1 x2 x3 x4 x5→a6 x1 x2 x3 x4 x5→a7 x1 x2 x3 x4 x5→a8 x1 x2 x3 x4 x5→G):G:=h.elim fun x1 h=>h.elim fun x2 h=>h.elim fun x3 h=>h.elim fun x4 h=>h.elim fun x5 h=>f x1 x2 x3 x4 x5 h.1 h.2.1 h.2.2.1 h.2.2.2.1 h.2.2.2.2.1 h.2.2.2.2.2.1 h.2.2.2.2.2.2.1 h.2.2.2.2.2.2.2
end
section
set_option genSizeOf false in
set_option genInjectivity false in
inductive Z|v (i:Nat)|n (k:Nat)|c (x:Z)|a (x y:Z)|s (x y:Z)|m (k:Nat) (x:Z)|w (x:Z) (k:Nat)|g (x:Z)|l (x y:Z)|e (x y:Z)|L (x y:Z)|E (x y:Z)|k (p q:Z)|o (p q:Z)|x (p:Z)|f
noncomputable def zN (ns:List Nat):Z→Nat
 |.v i=>ns.getD i 0
 |.n k=>k
 |.a x y=>zN ns x+zN ns y
 |.m k x=>k*zN ns x
 |.w x k=>zN ns x*k
 |_=>0
noncomputable def zI (ns:List Nat) (zs:List Int):Z→Int
 |.v i=>zs.getD i 0
 |.n k=>(k:Int)
 |.c x=>(zN ns x:Int)
 |.a x y=>zI ns zs x+zI ns zs y
 |.s x y=>zI ns zs x-zI ns zs y
 |.m k x=>(k:Int)*zI ns zs x
 |.w x k=>zI ns zs x*(k:Int)
 |.g x=> -zI ns zs x
 |_=>0
noncomputable def zP (ns:List Nat) (zs:List Int):Z→Prop
 |.l x y=>zN ns x≤zN ns y
 |.e x y=>zN ns x=zN ns y
 |.L x y=>zI ns zs x≤zI ns zs y
 |.E x y=>zI ns zs x=zI ns zs y
 |.k p q=>zP ns zs p∧zP ns zs q
 |.o p q=>zP ns zs p∨zP ns zs q
 |.x p=>¬ zP ns zs p
 |_=>False
noncomputable def zD (ns:List Nat) (zs:List Int) (g:Z):List Z→Prop
 |[]=>zP ns zs g
 |h::r=>zP ns zs h→zD ns zs g r
noncomputable def dot:List Int→List Int→Int
 |[],_=>0
 |c::cs,r=>c*r.headD 0+dot cs r.tail
noncomputable def Q24:List Int→List Int→List Int
 |[],l=>l
 |c::cs,l=>(c+l.headD 0)::Q24 cs l.tail
noncomputable def zsc (k:Int) (l:List Int):List Int:=l.map (k* ·)
noncomputable def zun:Nat→List Int
 |0=>[1]
 |i+1=>0::zun i
theorem eq_170 (l r:List Int):dot l r=l.headD 0*r.headD 0+dot l.tail r.tail:=by
 cases l with
 |nil=>exact ((congrArg (· +0) (Int.zero_mul _)).trans (Int.add_zero 0)).symm
 |cons c l=>rfl
theorem eq_57:∀ (c d r:List Int),dot (Q24 c d) r=dot c r+dot d r
 |[],d,r=>(Int.zero_add _).symm
 |c::cs,d,r=>by
  show (c+d.headD 0)*r.headD 0+dot (Q24 cs d.tail) r.tail=c*r.headD 0+dot cs r.tail+dot d r
  rw [eq_57 cs d.tail r.tail,eq_170 d r,Int.add_mul,Int.add_assoc,Int.add_assoc,Int.add_left_comm (dot cs r.tail)]
theorem eq_30 (k:Int):∀ (l r:List Int),dot (zsc k l) r=k*dot l r
 |[],r=>(Int.mul_zero k).symm
 |c::cs,r=>by
  show k*c*r.headD 0+dot (zsc k cs) r.tail=k*(c*r.headD 0+dot cs r.tail)
  rw [eq_30 k cs,Int.mul_add,Int.mul_assoc]
theorem eq_91:∀ (i:Nat) (r:List Int),dot (zun i) r=r.getD i 0
 |0,r=>by cases r<;>exact (Int.add_zero _).trans (Int.one_mul _)
 |i+1,r=>((congrArg (· +dot (zun i) r.tail) (Int.zero_mul _)).trans (Int.zero_add _)).trans ((eq_91 i r.tail).trans (by cases r<;>rfl))
/-- the terms that the walk knows;b:as a Nat -/
noncomputable def zok (nn:Nat):Bool→Z→Bool
 |b,.v i=>!b||Nat.blt i nn
 |_,.n _=>true
 |b,.a x y=>zok nn b x&&zok nn b y
 |b,.m _ x=>zok nn b x
 |b,.w x _=>zok nn b x
 |b,.c x=>!b&&zok nn true x
 |b,.s x y=>!b&&(zok nn b x&&zok nn b y)
 |b,.g x=>!b&&zok nn b x
 |_,_=>false
noncomputable def zl (nn:Nat):Bool→Z→List Int
 |b,.v i=>bif b then zun (i+1) else zun (nn+i+1)
 |_,.n k=>[(k:Int)]
 |b,.a x y=>Q24 (zl nn b x) (zl nn b y)
 |b,.m k x=>zsc k (zl nn b x)
 |b,.w x k=>zsc k (zl nn b x)
 |_,.c x=>zl nn true x
 |b,.s x y=>Q24 (zl nn b x) (zsc (-1) (zl nn b y))
 |b,.g x=>zsc (-1) (zl nn b x)
 |_,_=>[]
noncomputable def zr (ns:List Nat) (zs:List Int):List Int:=ns.foldr (fun (n:Nat) r=>Int.ofNat n::r) zs
theorem eq_167:∀ {ns:List Nat} {zs:List Int} {i:Nat},i<ns.length→(zr ns zs).getD i 0=((ns.getD i 0:Nat):Int)
 |_::_,_,0,_=>rfl
 |_::ns,zs,_+1,h=>eq_167 (ns:=ns) (zs:=zs) (Nat.lt_of_succ_lt_succ h)
theorem eq_410:∀ {ns:List Nat} {zs:List Int} {i:Nat},(zr ns zs).getD (ns.length+i) 0=zs.getD i 0
 |[],zs,i=>congrArg (fun k=>zs.getD k 0) (Nat.zero_add i)
 |n::ns,zs,i=>by
  show (Int.ofNat n::zr ns zs).getD (ns.length+1+i) 0=_
  rw [Nat.add_right_comm];exact eq_410 (ns:=ns)
theorem eq_12 {a b:Bool} (h:(a&&b)=true):a=true∧b=true:=by cases a<;>cases b<;>first|exact ⟨rfl,rfl⟩|cases h
theorem eq_194 {ns:List Nat} {zs:List Int} (t:Z):∀ b,zok ns.length b t=true→dot (zl ns.length b t) (1::zr ns zs)=bif b then (zN ns t:Int) else zI ns zs t:=by
 induction t with
 |v i=>
  intro b h
  cases b
  ·exact (eq_91 _ _).trans eq_410
  ·exact (eq_91 _ _).trans (eq_167 (Nat.le_of_ble_eq_true h))
 |n k=>
  have e:(k:Int)*1+0=k:=by rw [Int.mul_one,Int.add_zero]
  intro b _
  cases b<;>exact e
 |a x y ih ih2=>
  intro b h
  refine (eq_57 _ _ _).trans ?_
  rw [ih b (eq_12 h).1,ih2 b (eq_12 h).2]
  cases b<;>rfl
 |m k x ih=>
  intro b h
  refine (eq_30 _ _ _).trans ?_
  rw [ih b h]
  cases b
  ·rfl
  ·exact (Int.natCast_mul _ _).symm
 |w x k ih=>
  intro b h
  refine (eq_30 _ _ _).trans ?_
  rw [ih b h,Int.mul_comm]
  cases b
  ·rfl
  ·exact (Int.natCast_mul _ _).symm
 |c x ih=>
  intro b h
  cases b
  ·exact ih true h
  ·cases h
 |s x y ih ih2=>
  intro b h
  cases b
  ·refine (eq_57 _ _ _).trans ?_
   rw [eq_30,ih false (eq_12 (eq_12 h).2).1,ih2 false (eq_12 (eq_12 h).2).2,Int.neg_mul,Int.one_mul]
   rfl
  ·cases h
 |g x ih=>
  intro b h
  cases b
  ·refine (eq_30 _ _ _).trans ?_
   rw [ih false h,Int.neg_mul,Int.one_mul]
   rfl
  ·cases h
 |_=>intro b h;cases h
noncomputable def zneg:Int→Bool
 |.negSucc _=>true
 |.ofNat _=>false
noncomputable def Q3c:Int→Bool
 |.negSucc _=>false
 |.ofNat k=>Nat.beq k 0
noncomputable def zpos:Int→Bool
 |.negSucc _=>false
 |.ofNat k=>Nat.blt 0 k
noncomputable def zall (l:List Int):Bool:=l.all Q3c
noncomputable def Q41 (l:List Int):Bool:=zneg (l.headD 0)&&zall l.tail
noncomputable def ztriv (l:List Int):Bool:=!zneg (l.headD 0)&&zall l.tail
noncomputable def zdiv (g:Nat) (l:List Int):List Int:=bif l.tail.all fun x=>Q3c (x % (g:Int)) then (l.headD 0 / (g:Int))::l.tail.map (· / (g:Int)) else l
noncomputable def Q3s (l:List Int):List Int:=
 let g:=l.tail.foldr (fun c g=>Nat.gcd c.natAbs g) 0
 bif Nat.blt 1 g then zdiv g l else l
noncomputable def Q42 (j:Nat) (fs:List (List Int)):List (List Int)×List (List Int)×List (List Int):=
 let ps:=fs.filter fun l=>zpos (l.getD j 0)
 let qs:=fs.filter fun l=>zneg (l.getD j 0)
 (ps,qs,ps.filter fun p=>Nat.beq (p.getD j 0).natAbs 1&&qs.any fun q=>zall (Q24 p q))
noncomputable def zmix (j:Nat) (ps qs:List (List Int)):List (List Int):=
 ps.flatMap fun p=>(qs.map fun q=>Q3s (Q24 (zsc (q.getD j 0).natAbs p) (zsc (p.getD j 0).natAbs q))).filter fun l=>!ztriv l
noncomputable def zel (j:Nat) (fs:List (List Int)):List (List Int):=
 let t:=Q42 j fs
 (fs.filter fun l=>Q3c (l.getD j 0))++match t.2.2 with
  |[]=>zmix j t.1 t.2.1
  |e::_=>zmix j [e] t.2.1++zmix j t.1 ((t.2.1.filter fun q=>zall (Q24 e q)).take 1)
noncomputable def zcost (j:Nat) (fs:List (List Int)):Nat:=
 let t:=Q42 j fs
 bif Nat.beq (t.1.length+t.2.1.length) 0 then 100000 else bif t.2.2.isEmpty then t.1.length*t.2.1.length+50*(fs.filter fun l=>Nat.blt 1 (l.getD j 0).natAbs).length else 0
noncomputable def Q4i (fs:List (List Int)):Nat→Nat×Nat
 |0=>(0,100000)
 |j+1=>let x:=zcost (j+1) fs;let r:=Q4i fs j;bif Nat.beq r.2 0 then r else bif Nat.blt x r.2 then (j+1,x) else r
noncomputable def zfm (W:Nat):Nat→List (List Int)→Bool
 |0,fs=>fs.any Q41
 |n+1,fs=>fs.any Q41||zfm W n (zel (Q4i fs W).1 fs)
noncomputable def zg (nn:Nat):Z→Bool→(List (List Int)→Bool)→List (List Int)→Bool
 |.x p,b,K,fs=>zg nn p (!b) K fs
 |.k p q,b,K,fs=>bif b then zg nn p true (zg nn q true K) fs else zg nn p false K fs&&zg nn q false K fs
 |.o p q,b,K,fs=>bif b then zg nn p true K fs&&zg nn q true K fs else zg nn p false (zg nn q false K) fs
 |.l x y,b,K,fs=>(zok nn true x&&zok nn true y)&&K ((bif b then Q24 (zl nn true y) (zsc (-1) (zl nn true x)) else Q24 (Q24 (zl nn true x) (zsc (-1) (zl nn true y))) [-1])::fs)
 |.L x y,b,K,fs=>(zok nn false x&&zok nn false y)&&K ((bif b then Q24 (zl nn false y) (zsc (-1) (zl nn false x)) else Q24 (Q24 (zl nn false x) (zsc (-1) (zl nn false y))) [-1])::fs)
 |.e x y,b,K,fs=>(zok nn true x&&zok nn true y)&&(let d:=Q24 (zl nn true x) (zsc (-1) (zl nn true y));bif b then K (d::zsc (-1) d::fs) else K (Q24 d [-1]::fs)&&K (Q24 (zsc (-1) d) [-1]::fs))
 |.E x y,b,K,fs=>(zok nn false x&&zok nn false y)&&(let d:=Q24 (zl nn false x) (zsc (-1) (zl nn false y));bif b then K (d::zsc (-1) d::fs) else K (Q24 d [-1]::fs)&&K (Q24 (zsc (-1) d) [-1]::fs))
 |.f,b,K,fs=>b||K fs
 |_,_,_,_=>false
noncomputable def znn:Nat→List (List Int)
 |0=>[]
 |n+1=>zun (n+1)::znn n
noncomputable def zchk (nn nz:Nat) (g:Z) (hs:List Z):Bool:=zg nn g false (hs.foldl (fun K h=>zg nn h true K) (zfm (nn+nz) (nn+nz))) (znn nn)

def Zf (r:List Int) (fs:List (List Int)):Prop:=∀ l∈fs,0≤dot l r
section
variable {r:List Int}
theorem eq_59 {l:List Int} {fs:List (List Int)} (h:0≤dot l r) (k:Zf r fs):Zf r (l::fs):=fun x m=>by
 cases m with
 |head=>exact h
 |tail _ m=>exact k x m
theorem eq_209:∀ {l:List Int} {r:List Int},zall l=true→dot l r=0
 |[],_,_=>rfl
 |c::cs,r,h=>by
  obtain ⟨h1,h2⟩:=eq_12 h
  show c*r.headD 0+dot cs r.tail=0
  rw [eq_209 h2]
  cases c with
  |ofNat k=>obtain rfl:=Nat.eq_of_beq_eq_true h1;exact (congrArg (· +0) (Int.zero_mul _))
  |negSucc k=>cases h1
theorem eq_1216:∀ {c:Int},zneg c=true→c<0
 |.negSucc k,_=>Int.negSucc_lt_zero k
theorem eq_819 {l:List Int} (h:Q41 l=true) (k:0≤dot l (1::r)):False:=by
 obtain ⟨h1,h2⟩:=eq_12 h
 rw [eq_170,show dot l.tail (1::r).tail=0 from eq_209 h2,Int.add_zero,show (1::r).headD (0:Int)=1 from rfl,Int.mul_one] at k
 exact Int.not_le.mpr (eq_1216 h1) k
theorem eq_114:∀ {fs:List (List Int)},fs.any Q41=true→Zf (1::r) fs→False
 |l::fs,h,k=>by
  cases e:Q41 l with
  |true=>exact eq_819 e (k l (.head _))
  |false=>exact eq_114 (fs:=fs) (by have h:(Q41 l||fs.any Q41)=true:=h;rw [e] at h;exact h) fun x m=>k x (.tail _ m)
theorem eq_219 (g:Nat):∀ {l r:List Int},(l.all fun x=>Q3c (x % (g:Int)))=true→dot l r=g*dot (l.map (· / (g:Int))) r
 |[],_,_=>(Int.mul_zero _).symm
 |c::cs,r,h=>by
  obtain ⟨h1,h2⟩:=eq_12 h
  show c*r.headD 0+dot cs r.tail=g*(c / g*r.headD 0+dot (cs.map (· / (g:Int))) r.tail)
  rw [eq_219 g h2,Int.mul_add, ←Int.mul_assoc]
  have e:c % (g:Int)=0:=by
   revert h1
   show Q3c (c % (g:Int))=true→_
   generalize c % (g:Int)=d
   intro h1
   cases d with
   |ofNat k=>obtain rfl:=Nat.eq_of_beq_eq_true h1;rfl
   |negSucc k=>cases h1
  rw [Int.mul_ediv_cancel' (Int.dvd_of_emod_eq_zero e)]
theorem eq_563 {g:Nat} (hg:1<g) {l:List Int} (k:0≤dot l (1::r)):0≤dot (zdiv g l) (1::r):=by
 unfold zdiv
 cases e:l.tail.all fun x=>Q3c (x % (g:Int)) with
 |false=>exact k
 |true=>
  show 0≤l.headD 0 / g*1+dot (l.tail.map (· / (g:Int))) r
  rw [eq_170,show dot l.tail (1::r).tail=_ from eq_219 g e] at k
  revert k
  show 0≤l.headD 0*1+g*dot (l.tail.map (· / (g:Int))) r→_
  generalize dot (l.tail.map (· / (g:Int))) r=d
  generalize l.headD 0=c
  intro k
  rw [Int.mul_one] at k ⊢
  have hg':(0:Int)<g:=by omega
  have:0≤(c+g*d) / g:=Int.ediv_nonneg k (Int.le_of_lt hg')
  rw [Int.add_mul_ediv_left _ _ (Int.ne_of_gt hg')] at this
  exact this
theorem eq_972 {l:List Int} (k:0≤dot l (1::r)):0≤dot (Q3s l) (1::r):=by
 unfold Q3s
 cases e:Nat.blt 1 (l.tail.foldr (fun c g=>Nat.gcd c.natAbs g) 0) with
 |false=>simp only [e];exact k
 |true=>simp only [e];exact eq_563 (Nat.le_of_ble_eq_true e) k
theorem eq_119 {j:Nat} {ps qs:List (List Int)} (k:Zf (1::r) ps) (k':Zf (1::r) qs):Zf (1::r) (zmix j ps qs):=fun l m=>by
 obtain ⟨p,hp,m⟩:=List.mem_flatMap.mp m
 obtain ⟨q,hq,rfl⟩:=List.mem_map.mp (List.mem_filter.mp m).1
 refine eq_972 ?_
 rw [eq_57,eq_30,eq_30]
 exact Int.add_nonneg (Int.mul_nonneg (Int.natCast_nonneg _) (k p hp)) (Int.mul_nonneg (Int.natCast_nonneg _) (k' q hq))
theorem eq_43 {f:List Int→Bool} {fs:List (List Int)} (k:Zf (1::r) fs):Zf (1::r) (fs.filter f):=fun l m=>k l (List.mem_filter.mp m).1
theorem eq_192 {fs gs:List (List Int)} (k:Zf (1::r) fs) (k':Zf (1::r) gs):Zf (1::r) (fs++gs):=fun l m=>(List.mem_append.mp m).elim (k l) (k' l)
theorem eq_930 {j:Nat} {fs:List (List Int)} (k:Zf (1::r) fs):Zf (1::r) (zel j fs):=by
 refine eq_192 (eq_43 k) ?_
 cases e:(Q42 j fs).2.2 with
 |nil=>exact eq_119 (eq_43 k) (eq_43 k)
 |cons x l=>
  have hx:x∈(Q42 j fs).2.2:=by rw [e];exact .head _
  exact eq_192 (eq_119 (fun l m=>by cases m with|head=>exact k _ (List.mem_filter.mp (List.mem_filter.mp hx).1).1|tail _ m=>cases m) (eq_43 k)) (eq_119 (eq_43 k) fun l m=>eq_43 (eq_43 k) l (List.mem_of_mem_take m))
theorem eq_236 {W:Nat}:∀ {n:Nat} {fs:List (List Int)},zfm W n fs=true→Zf (1::r) fs→False
 |0,fs,h,k=>eq_114 h k
 |n+1,fs,h,k=>by
  cases e:fs.any Q41 with
  |true=>exact eq_114 e k
  |false=>exact eq_236 (n:=n) (by have h:(fs.any Q41||zfm W n (zel (Q4i fs W).1 fs))=true:=h;rw [e] at h;exact h) (eq_930 k)
end
theorem eq_154 {l r:List Int}:dot (Q24 l [-1]) (1::r)=dot l (1::r)-1:=(eq_57 _ _ _).trans rfl
def Zk (r:List Int) (K:List (List Int)→Bool):Prop:=∀ fs,Zf (1::r) fs→K fs=true→False
noncomputable def zv (ns:List Nat) (zs:List Int) (b:Bool) (x:Z):Int:=bif b then (zN ns x:Int) else zI ns zs x
theorem eq_171 {ns:List Nat} {zs:List Int} {b:Bool} {x y:Z} (h:(zok ns.length b x&&zok ns.length b y)=true):dot (Q24 (zl ns.length b x) (zsc (-1) (zl ns.length b y))) (1::zr ns zs)=zv ns zs b x-zv ns zs b y:=by
 rw [eq_57,eq_30,eq_194 x b (eq_12 h).1,eq_194 y b (eq_12 h).2,Int.neg_mul,Int.one_mul];rfl
section
variable {ns:List Nat} {zs:List Int} {c b:Bool} {x y:Z} {K:List (List Int)→Bool}
theorem eq_362 (h:bif b then zv ns zs c x≤zv ns zs c y else ¬ zv ns zs c x≤zv ns zs c y) (k:Zk (zr ns zs) K):Zk (zr ns zs) fun fs=>(zok ns.length c x&&zok ns.length c y)&&K ((bif b then Q24 (zl ns.length c y) (zsc (-1) (zl ns.length c x)) else Q24 (Q24 (zl ns.length c x) (zsc (-1) (zl ns.length c y))) [-1])::fs):=fun fs f e=>by
 refine k _ (eq_59 ?_ f) (eq_12 e).2
 cases b with
 |true=>rw [cond_true,eq_171 (by rw [Bool.and_comm];exact (eq_12 e).1)];exact Int.sub_nonneg_of_le h
 |false=>rw [cond_false,eq_154,eq_171 (eq_12 e).1];exact Int.sub_nonneg_of_le (Int.le_sub_right_of_add_le (by rw [Int.add_comm];exact Int.lt_of_not_ge h))
theorem eq_377 (h:bif b then zv ns zs c x=zv ns zs c y else ¬ zv ns zs c x=zv ns zs c y) (k:Zk (zr ns zs) K):Zk (zr ns zs) fun fs=>(zok ns.length c x&&zok ns.length c y)&&(let d:=Q24 (zl ns.length c x) (zsc (-1) (zl ns.length c y));bif b then K (d::zsc (-1) d::fs) else K (Q24 d [-1]::fs)&&K (Q24 (zsc (-1) d) [-1]::fs)):=fun fs f e=>by
 have s:=eq_171 (zs:=zs) (eq_12 e).1
 have e:=(eq_12 e).2
 cases b with
 |true=>
  have h:zv ns zs c x-zv ns zs c y=0:=Int.sub_eq_zero_of_eq h
  exact k _ (eq_59 (by rw [s,h];exact Int.le_refl 0) (eq_59 (by rw [eq_30,s,h];exact Int.le_refl 0) f)) e
 |false=>
  rcases Int.lt_or_gt_of_ne h with g|g
  ·exact k _ (eq_59 (by rw [eq_154,eq_30,s];omega) f) (eq_12 e).2
  ·exact k _ (eq_59 (by rw [eq_154,s];omega) f) (eq_12 e).1
end
theorem eq_391 {ns:List Nat} {zs:List Int} (p:Z):∀ (b:Bool) {K:List (List Int)→Bool},(bif b then zP ns zs p else ¬ zP ns zs p)→Zk (zr ns zs) K→Zk (zr ns zs) (zg ns.length p b K):=by
 induction p with
 |x p ih=>
  intro b _ h k
  cases b
  ·exact ih true (Classical.byContradiction h) k
  ·exact ih false h k
 |k p q ih ih2=>
  intro b _ h k
  cases b
  ·exact fun fs f e=>(Classical.em (zP ns zs p)).elim (fun y=>ih2 false (fun z=>h ⟨y,z⟩) k fs f (eq_12 e).2) fun y=>ih false y k fs f (eq_12 e).1
  ·exact ih true h.1 (ih2 true h.2 k)
 |o p q ih ih2=>
  intro b _ h k
  cases b
  ·exact ih false (fun y=>h (.inl y)) (ih2 false (fun y=>h (.inr y)) k)
  ·exact fun fs f e=>h.elim (fun y=>ih true y k fs f (eq_12 e).1) fun y=>ih2 true y k fs f (eq_12 e).2
 |f=>intro b _ h k fs f e;cases b;exact k fs f e;exact h
 |l x y=>intro b _ h k;exact eq_362 (by cases b;exact fun z=>h (Int.ofNat_le.mp z);exact Int.ofNat_le.mpr h) k
 |L x y=>intro b _ h k;exact eq_362 h k
 |e x y=>intro b _ h k;exact eq_377 (by cases b;exact fun z=>h (Int.ofNat.inj z);exact congrArg Int.ofNat h) k
 |E x y=>intro b _ h k;exact eq_377 h k
 |_=>intro _ _ _ _ _ _ e;exact nomatch e
theorem eq_225 {ns:List Nat} {zs:List Int}:∀ {n:Nat},n≤ns.length→Zf (1::zr ns zs) (znn n)
 |0,_=>fun _ m=>nomatch m
 |n+1,h=>eq_59 (by rw [eq_91];show 0≤(zr ns zs).getD n 0;rw [eq_167 h];exact Int.natCast_nonneg _) (eq_225 (Nat.le_of_succ_le h))
theorem eq_401 {ns:List Nat} {zs:List Int} {g:Z}:∀ {hs:List Z} {K:List (List Int)→Bool},Zk (zr ns zs) K→(Zk (zr ns zs) (hs.foldl (fun K h=>zg ns.length h true K) K)→zP ns zs g)→zD ns zs g hs
 |[],_,z,k=>k z
 |h::_,_,z,k=>fun y=>eq_401 (eq_391 h true y z) k
theorem eq_1 (ns:List Nat) (zs:List Int) (g:Z) (hs:List Z) (e:zchk ns.length zs.length g hs=true):zD ns zs g hs:=
 eq_401 (fun _ f e=>eq_236 e f) fun z=>Classical.byContradiction fun n=>eq_391 g false n z _ (eq_225 (Nat.le_refl _)) e
noncomputable def zt (x y:Z):Z:=.l (.a x (.n 1)) y
noncomputable def zT (x y:Z):Z:=.L (.a x (.n 1)) y
noncomputable def x0:Z:=.v 0
noncomputable def x1:Z:=.v 1
noncomputable def x2:Z:=.v 2
noncomputable def x3:Z:=.v 3
noncomputable def x4:Z:=.v 4
noncomputable def x5:Z:=.v 5
noncomputable def x6:Z:=.v 6
theorem eq_8 (x y:Nat):(y≤x∧x-y+y=x)∨(x≤y∧x-y=0):=(Nat.le_total y x).imp (fun h=>⟨h,Nat.sub_add_cancel h⟩) fun h=>⟨h,Nat.sub_eq_zero_of_le h⟩
theorem eq_36 (x y:Nat):(x≤y∧min x y=x)∨(y≤x∧min x y=y):=(Nat.le_total x y).imp (fun h=>⟨h,Nat.min_eq_left h⟩) fun h=>⟨h,Nat.min_eq_right h⟩
theorem eq_1318 (x y:Nat):(x≤y∧max x y=y)∨(y≤x∧max x y=x):=(Nat.le_total x y).imp (fun h=>⟨h,Nat.max_eq_right h⟩) fun h=>⟨h,Nat.max_eq_left h⟩
theorem eq_433 (x y:Int):(x≤y∧min x y=x)∨(y≤x∧min x y=y):=(Int.le_total x y).imp (fun h=>⟨h,Int.min_eq_left h⟩) fun h=>⟨h,Int.min_eq_right h⟩
theorem eq_92 (x y:Int):(x≤y∧max x y=y)∨(y≤x∧max x y=x):=(Int.le_total x y).imp (fun h=>⟨h,Int.max_eq_right h⟩) fun h=>⟨h,Int.max_eq_left h⟩
theorem eq_11 (x k:Nat) (h:0<k):k*(x / k)+x % k=x∧x % k+1≤k:=⟨Nat.div_add_mod x k,Nat.mod_lt x h⟩
theorem eq_21 (x:Int):(0≤x∧(x.toNat:Int)=x)∨(x≤0∧x.toNat=0):=(Int.le_total 0 x).imp (fun h=>⟨h,Int.toNat_of_nonneg h⟩) fun h=>⟨h,Int.toNat_of_nonpos h⟩
theorem eq_1182 (x:Int):(0≤x∧(x.natAbs:Int)=x)∨(x≤0∧(x.natAbs:Int)= -x):=(Int.le_total 0 x).imp (fun h=>⟨h,Int.natAbs_of_nonneg h⟩) fun h=>⟨h,Int.ofNat_natAbs_of_nonpos h⟩
theorem eq_940 (x:Int) (k:Nat):x*(-(k:Int))= -((k:Int)*x):=by rw [Int.mul_neg,Int.mul_comm]
theorem eq_10 (x y:Nat):x≤x-y+y∧x-y≤x:=⟨Nat.le_add_of_sub_le (Nat.le_refl _),Nat.sub_le x y⟩
theorem eq_13 (x y:Nat):min x y≤x∧min x y≤y:=⟨Nat.min_le_left x y,Nat.min_le_right x y⟩
theorem eq_1252 (x y:Nat):x≤max x y∧y≤max x y:=⟨Nat.le_max_left x y,Nat.le_max_right x y⟩
theorem eq_1202 (x y:Int):min x y≤x∧min x y≤y:=⟨Int.min_le_left x y,Int.min_le_right x y⟩
theorem eq_1284 (x y:Int):x≤max x y∧y≤max x y:=⟨Int.le_max_left x y,Int.le_max_right x y⟩
theorem eq_1294 (x:Int):x≤(x.toNat:Int):=Int.self_le_toNat x
theorem eq_1279 (x:Int):x≤(x.natAbs:Int)∧ -x≤(x.natAbs:Int):=⟨Int.le_natAbs,by rw [←Int.natAbs_neg];exact Int.le_natAbs⟩


end
section
section
variable {a0 a1 a2 a3 a4 a5 a6 a7 a8 a9 a10 a11 a12 a13:Nat} {i0 i1 i2:Int} {p0 p1 p2:Prop}
theorem eq_887:9+a0≤a0+10:=eq_1 [a0] [] (.l (.a (.n 9) x0) (.a x0 (.n 10))) [] (by kernel_rfl)
theorem eq_502:a0+1+a1=a0+a1+1:=eq_1 [a0,a1] [] (.e (.a (.a x0 (.n 1)) x1) (.a (.a x0 x1) (.n 1))) [] (by kernel_rfl)
theorem eq_911:a0≤8→1+a0≤9:=eq_1 [a0] [] (.l (.a (.n 1) x0) (.n 9)) [.l x0 (.n 8)] (by kernel_rfl)
theorem eq_1164:a0+a1<1000→a0+min a2 a1<16777216:=eq_1 [a0,a2,a1,min a2 a1] [] (zt (.a x0 x3) (.n 16777216)) [.k (.l x3 x1) (.l x3 x2),zt (.a x0 x2) (.n 1000)] (by kernel_rfl) (eq_13 a2 a1)
theorem eq_843:28≤a0→a0+a1=1→False:=eq_1 [a0,a1] [] .f [.l (.n 28) x0,.e (.a x0 x1) (.n 1)] (by kernel_rfl)
theorem eq_223:a0+3+3*a1=a0+3*(a1+1):=eq_1 [a0,a1] [] (.e (.a (.a x0 (.n 3)) (.m 3 x1)) (.a x0 (.m 3 (.a x1 (.n 1))))) [] (by kernel_rfl)
theorem eq_521:a0+38*(a1+1)=a0+38*a1+38:=eq_1 [a0,a1] [] (.e (.a x0 (.m 38 (.a x1 (.n 1)))) (.a (.a x0 (.m 38 x1)) (.n 38))) [] (by kernel_rfl)
theorem eq_147:a0+1+a1=a0+(a1+1):=eq_1 [a0,a1] [] (.e (.a (.a x0 (.n 1)) x1) (.a x0 (.a x1 (.n 1)))) [] (by kernel_rfl)
theorem eq_444:a0≤15→a0<1000:=eq_1 [a0] [] (zt x0 (.n 1000)) [.l x0 (.n 15)] (by kernel_rfl)
theorem eq_685:a0+38*a1+2=a0+1+35*a1+3*a1+1:=eq_1 [a0,a1] [] (.e (.a (.a x0 (.m 38 x1)) (.n 2)) (.a (.a (.a (.a x0 (.n 1)) (.m 35 x1)) (.m 3 x1)) (.n 1))) [] (by kernel_rfl)
theorem eq_313:a0+(a1+1)=a2→a0<a2:=eq_1 [a0,a2,a1] [] (zt x0 x1) [.e (.a x0 (.a x2 (.n 1))) x1] (by kernel_rfl)
theorem eq_316:a0+(a1+a2)=a0+a1+a2:=eq_1 [a0,a1,a2] [] (.e (.a x0 (.a x1 x2)) (.a (.a x0 x1) x2)) [] (by kernel_rfl)
theorem eq_674:a0≤PySem.sizeLine→a0≤PySem.sizeLine+1:=eq_1 [a0] [] (.l x0 (.a (.n 16777216) (.n 1))) [.l x0 (.n 16777216)] (by kernel_rfl)
theorem eq_480:a0+3*(a1+1)=a0+3*a1+3:=eq_1 [a0,a1] [] (.e (.a x0 (.m 3 (.a x1 (.n 1)))) (.a (.a x0 (.m 3 x1)) (.n 3))) [] (by kernel_rfl)
theorem eq_861:0+a0=a0:=eq_1 [a0] [] (.e (.a (.n 0) x0) x0) [] (by kernel_rfl)
theorem eq_369:a0+0=a1→a1≤a0:=eq_1 [a1,a0] [] (.l x0 x1) [.e (.a x1 (.n 0)) x0] (by kernel_rfl)
theorem eq_117:a0+(a1+1)=a2→a0+1+a1=a2:=eq_1 [a0,a1,a2] [] (.e (.a (.a x0 (.n 1)) x1) x2) [.e (.a x0 (.a x1 (.n 1))) x2] (by kernel_rfl)
theorem eq_507:a0+35*(a1+1)=a0+35*a1+35:=eq_1 [a0,a1] [] (.e (.a x0 (.m 35 (.a x1 (.n 1)))) (.a (.a x0 (.m 35 x1)) (.n 35))) [] (by kernel_rfl)
theorem eq_1169:a0+(a1+1)<1000→a0<16777216:=eq_1 [a0,a1] [] (zt x0 (.n 16777216)) [zt (.a x0 (.a x1 (.n 1))) (.n 1000)] (by kernel_rfl)
theorem eq_935:a0+20≤a0+29:=eq_1 [a0] [] (.l (.a x0 (.n 20)) (.a x0 (.n 29))) [] (by kernel_rfl)
theorem eq_652:a0+(a1+1)<1000→a0+1+a1<1000:=eq_1 [a0,a1] [] (zt (.a (.a x0 (.n 1)) x1) (.n 1000)) [zt (.a x0 (.a x1 (.n 1))) (.n 1000)] (by kernel_rfl)
theorem eq_227:¬(a0<a1)→a1≤a0:=eq_1 [a1,a0] [] (.l x0 x1) [.x (zt x1 x0)] (by kernel_rfl)
theorem eq_440:¬(a0<a1)→¬(a1+a2=a0)→a2=a0-a1→False:=eq_1 [a0,a1,a2,a0-a1] [] .f [.o (.k (.l x1 x0) (.e (.a x3 x1) x0)) (.k (.l x0 x1) (.e x3 (.n 0))),.x (zt x0 x1),.x (.e (.a x1 x2) x0),.e x2 x3] (by kernel_rfl) (eq_8 a0 a1)
theorem eq_1027:a0<PySem.sizeLine→a0+1≤PySem.sizeLine:=eq_1 [a0] [] (zt x0 (.n 16777216)) [zt x0 (.n 16777216)] (by kernel_rfl)
theorem eq_1178:a0<a1→a1+a2=a0→False:=eq_1 [a0,a1,a2] [] .f [zt x0 x1,.e (.a x1 x2) x0] (by kernel_rfl)
theorem eq_1171:a0+2+2*a1=a0+2*(a1+1):=eq_1 [a0,a1] [] (.e (.a (.a x0 (.n 2)) (.m 2 x1)) (.a x0 (.m 2 (.a x1 (.n 1))))) [] (by kernel_rfl)
theorem eq_1145:1≤a0/17→0=a0/17→False:=eq_1 [a0/17] [] .f [.l (.n 1) x0,.e (.n 0) x0] (by kernel_rfl)
theorem eq_672:17*(a0/17)+a0%17=a0:=eq_1 [a0,a0/17,a0%17] [] (.e (.a (.m 17 x1) x2) x0) [.k (.e (.a (.m 17 x1) x2) x0) (zt x2 (.n 17))] (by kernel_rfl) (eq_11 a0 17 (by decide))
theorem eq_975:a0<a1→a0%17+1≤a1-17*(a0/17):=eq_1 [a0,a1,a0/17,a0%17,a1-17*(a0/17)] [] (zt x3 x4) [.k (.e (.a (.m 17 x2) x3) x0) (zt x3 (.n 17)),.k (.l x1 (.a x4 (.m 17 x2))) (.l x4 x1),zt x0 x1] (by kernel_rfl) (eq_11 a0 17 (by decide)) (eq_10 a1 (17*(a0/17)))
theorem eq_458:1≤a0→0=a0→False:=eq_1 [a0] [] .f [.l (.n 1) x0,.e (.n 0) x0] (by kernel_rfl)
theorem eq_1004:a0<a1→(a0+1)/17=a0/17+1→17*(a0/17)≤a1:=eq_1 [a0,a1,a0/17,(a0+1)/17,(a0+1)%17] [] (.l (.m 17 x2) x1) [.k (.e (.a (.m 17 x3) x4) (.a x0 (.n 1))) (zt x4 (.n 17)),zt x0 x1,.e x3 (.a x2 (.n 1))] (by kernel_rfl) (eq_11 (a0+1) 17 (by decide))
theorem eq_556:1≤a0/17→a0/17-1+1=a0/17:=eq_1 [a0/17,a0/17-1] [] (.e (.a x1 (.n 1)) x0) [.o (.k (.l (.n 1) x0) (.e (.a x1 (.n 1)) x0)) (.k (.l x0 (.n 1)) (.e x1 (.n 0))),.l (.n 1) x0] (by kernel_rfl) (eq_8 (a0/17) 1)
theorem eq_609:a0=17→a1=17→a2+6*a1+5+38*a0+2≤a2+800:=eq_1 [a2,a1,a0] [] (.l (.a (.a (.a (.a x0 (.m 6 x1)) (.n 5)) (.m 38 x2)) (.n 2)) (.a x0 (.n 800))) [.e x2 (.n 17),.e x1 (.n 17)] (by kernel_rfl)
theorem eq_1227:(17:Nat)≤15→False:=eq_1 [] [] .f [.l (.n 17) (.n 15)] (by kernel_rfl)
theorem eq_1110:1≤a0→min (17*a0) a1=0→a1=17*a0+a2→False:=eq_1 [a1,a0,a2,min (17*a0) a1] [] .f [.o (.k (.l (.m 17 x1) x0) (.e x3 (.m 17 x1))) (.k (.l x0 (.m 17 x1)) (.e x3 x0)),.l (.n 1) x1,.e x3 (.n 0),.e x0 (.a (.m 17 x1) x2)] (by kernel_rfl) (eq_36 (17*a0) a1)
theorem eq_682:a0=17→a0<1000:=eq_1 [a0] [] (zt x0 (.n 1000)) [.e x0 (.n 17)] (by kernel_rfl)
theorem eq_956:a0=17→a1+38*a0+2≤a1+800:=eq_1 [a1,a0] [] (.l (.a (.a x0 (.m 38 x1)) (.n 2)) (.a x0 (.n 800))) [.e x1 (.n 17)] (by kernel_rfl)
theorem eq_1122:a0=17*a1+a2→a2≤15→a0/17=a1:=eq_1 [a0,a1,a2,a0/17,a0%17] [] (.e x3 x1) [.k (.e (.a (.m 17 x3) x4) x0) (zt x4 (.n 17)),.e x0 (.a (.m 17 x1) x2),.l x2 (.n 15)] (by kernel_rfl) (eq_11 a0 17 (by decide))
theorem eq_888:a0<a1→(a0+1)/17=a0/17+1→min 17 (a1-17*(a0/17))=17:=eq_1 [a1,a0,a0/17,a1-17*(a0/17),min 17 (a1-17*(a0/17)),(a0+1)/17,(a0+1)%17] [] (.e x4 (.n 17)) [.k (.l x0 (.a x3 (.m 17 x2))) (.l x3 x0),.o (.k (.l (.n 17) x3) (.e x4 (.n 17))) (.k (.l x3 (.n 17)) (.e x4 x3)),.k (.e (.a (.m 17 x5) x6) (.a x1 (.n 1))) (zt x6 (.n 17)),zt x1 x0,.e x5 (.a x2 (.n 1))] (by kernel_rfl) (eq_10 a1 (17*(a0/17))) (eq_36 17 (a1-17*(a0/17))) (eq_11 (a0+1) 17 (by decide))
theorem eq_1063:(a0+1)/17=a0/17+1→1≤(a0+1)/17:=eq_1 [(a0+1)/17,a0/17] [] (.l (.n 1) x0) [.e x0 (.a x1 (.n 1))] (by kernel_rfl)
theorem eq_596:a0=17*a1+a2→a0/17=a1→a0%17=a2:=eq_1 [a0,a2,a1,a0/17,a0%17] [] (.e x4 x1) [.k (.e (.a (.m 17 x3) x4) x0) (zt x4 (.n 17)),.e x0 (.a (.m 17 x2) x1),.e x3 x2] (by kernel_rfl) (eq_11 a0 17 (by decide))
theorem eq_1028:a0=17*a1+a2→a0-17*a1≤a2:=eq_1 [a0,a1,a2,a0-17*a1] [] (.l x3 x2) [.o (.k (.l (.m 17 x1) x0) (.e (.a x3 (.m 17 x1)) x0)) (.k (.l x0 (.m 17 x1)) (.e x3 (.n 0))),.e x0 (.a (.m 17 x1) x2)] (by kernel_rfl) (eq_8 a0 (17*a1))
theorem eq_184:1≤a0→a0=0→False:=eq_1 [a0] [] .f [.l (.n 1) x0,.e x0 (.n 0)] (by kernel_rfl)
theorem eq_623:1≤a0/17→a0<a1→min (17*(a0/17)) a1=0→False:=eq_1 [a1,a0,a0/17,min (17*(a0/17)) a1] [] .f [.o (.k (.l (.m 17 x2) x0) (.e x3 (.m 17 x2))) (.k (.l x0 (.m 17 x2)) (.e x3 x0)),.l (.n 1) x2,zt x1 x0,.e x3 (.n 0)] (by kernel_rfl) (eq_36 (17*(a0/17)) a1)
theorem eq_483:a0=a1→a1≤15→a2=a1→a3+6*a2+5+38*a0+2≤a3+1000:=eq_1 [a3,a2,a0,a1] [] (.l (.a (.a (.a (.a x0 (.m 6 x1)) (.n 5)) (.m 38 x2)) (.n 2)) (.a x0 (.n 1000))) [.e x2 x3,.l x3 (.n 15),.e x1 x3] (by kernel_rfl)
theorem eq_1199:a0=17*a1+a2→a0-17*a1=a2:=eq_1 [a0,a1,a2,a0-17*a1] [] (.e x3 x2) [.o (.k (.l (.m 17 x1) x0) (.e (.a x3 (.m 17 x1)) x0)) (.k (.l x0 (.m 17 x1)) (.e x3 (.n 0))),.e x0 (.a (.m 17 x1) x2)] (by kernel_rfl) (eq_8 a0 (17*a1))
theorem eq_531:17*(a0+1)=17*a0+17:=eq_1 [a0] [] (.e (.m 17 (.a x0 (.n 1))) (.a (.m 17 x0) (.n 17))) [] (by kernel_rfl)
theorem eq_517:a0%17=16→(a0+1)/17=a0/17+1:=eq_1 [a0,(a0+1)/17,(a0+1)%17,a0/17,a0%17] [] (.e x1 (.a x3 (.n 1))) [.k (.e (.a (.m 17 x1) x2) (.a x0 (.n 1))) (zt x2 (.n 17)),.k (.e (.a (.m 17 x3) x4) x0) (zt x4 (.n 17)),.e x4 (.n 16)] (by kernel_rfl) (eq_11 (a0+1) 17 (by decide)) (eq_11 a0 17 (by decide))
theorem eq_769:a0<1000→a1<a0→(a1+1)/17=a1/17+1→min (17*(a1/17)) a0+17<1000:=eq_1 [a1,a0,a1/17,min (17*(a1/17)) a0,(a1+1)/17,(a1+1)%17] [] (zt (.a x3 (.n 17)) (.n 1000)) [.k (.l x3 (.m 17 x2)) (.l x3 x1),.k (.e (.a (.m 17 x4) x5) (.a x0 (.n 1))) (zt x5 (.n 17)),zt x1 (.n 1000),zt x0 x1,.e x4 (.a x2 (.n 1))] (by kernel_rfl) (eq_13 (17*(a1/17)) a0) (eq_11 (a1+1) 17 (by decide))
theorem eq_1089:a0+3*(17*(a1/17))=a0+51*(a1/17):=eq_1 [a0,a1/17] [] (.e (.a x0 (.m 3 (.m 17 x1))) (.a x0 (.m 51 x1))) [] (by kernel_rfl)
theorem eq_597:(a0+1)/17=a0/17→(a0+1)%17=a0%17+1:=eq_1 [a0,(a0+1)/17,(a0+1)%17,a0/17,a0%17] [] (.e x2 (.a x4 (.n 1))) [.k (.e (.a (.m 17 x1) x2) (.a x0 (.n 1))) (zt x2 (.n 17)),.k (.e (.a (.m 17 x3) x4) x0) (zt x4 (.n 17)),.e x1 x3] (by kernel_rfl) (eq_11 (a0+1) 17 (by decide)) (eq_11 a0 17 (by decide))
theorem eq_985:1≤a0→a0-1+1=a0:=eq_1 [a0,a0-1] [] (.e (.a x1 (.n 1)) x0) [.o (.k (.l (.n 1) x0) (.e (.a x1 (.n 1)) x0)) (.k (.l x0 (.n 1)) (.e x1 (.n 0))),.l (.n 1) x0] (by kernel_rfl) (eq_8 a0 1)
theorem eq_1012:¬(a0%17=16)→a0%17+1=17→False:=eq_1 [a0%17] [] .f [.x (.e x0 (.n 16)),.e (.a x0 (.n 1)) (.n 17)] (by kernel_rfl)
theorem eq_895:a0=17*a1+a2→a0<1000→min (17*a1) a0+a2<1000:=eq_1 [a1,a0,a2,min (17*a1) a0] [] (zt (.a x3 x2) (.n 1000)) [.k (.l x3 (.m 17 x0)) (.l x3 x1),.e x1 (.a (.m 17 x0) x2),zt x1 (.n 1000)] (by kernel_rfl) (eq_13 (17*a1) a0)
theorem eq_889:1≤a0→a0=a0-1+1:=eq_1 [a0,a0-1] [] (.e x0 (.a x1 (.n 1))) [.o (.k (.l (.n 1) x0) (.e (.a x1 (.n 1)) x0)) (.k (.l x0 (.n 1)) (.e x1 (.n 0))),.l (.n 1) x0] (by kernel_rfl) (eq_8 a0 1)
theorem eq_965:¬(a0%17=16)→(a0+1)/17=a0/17:=eq_1 [a0,(a0+1)/17,(a0+1)%17,a0/17,a0%17] [] (.e x1 x3) [.k (.e (.a (.m 17 x1) x2) (.a x0 (.n 1))) (zt x2 (.n 17)),.k (.e (.a (.m 17 x3) x4) x0) (zt x4 (.n 17)),.x (.e x4 (.n 16))] (by kernel_rfl) (eq_11 (a0+1) 17 (by decide)) (eq_11 a0 17 (by decide))
theorem eq_1079:a0%17=16→(a0+1)%17=0:=eq_1 [a0,(a0+1)/17,(a0+1)%17,a0/17,a0%17] [] (.e x2 (.n 0)) [.k (.e (.a (.m 17 x1) x2) (.a x0 (.n 1))) (zt x2 (.n 17)),.k (.e (.a (.m 17 x3) x4) x0) (zt x4 (.n 17)),.e x4 (.n 16)] (by kernel_rfl) (eq_11 (a0+1) 17 (by decide)) (eq_11 a0 17 (by decide))
theorem eq_1221:a0+1010+800*a1=a0+8+1000+800*a1+1+1:=eq_1 [a0,a1] [] (.e (.a (.a x0 (.n 1010)) (.m 800 x1)) (.a (.a (.a (.a (.a x0 (.n 8)) (.n 1000)) (.m 800 x1)) (.n 1)) (.n 1))) [] (by kernel_rfl)
theorem eq_1165:a0+51*a1+2*a2+a2=a0+51*a1+3*a2:=eq_1 [a0,a1,a2] [] (.e (.a (.a (.a x0 (.m 51 x1)) (.m 2 x2)) x2) (.a (.a x0 (.m 51 x1)) (.m 3 x2))) [] (by kernel_rfl)
theorem eq_1113:1≤a0→1≤a0+a1:=eq_1 [a0,a1] [] (.l (.n 1) (.a x0 x1)) [.l (.n 1) x0] (by kernel_rfl)
theorem eq_816:a0≤6→a1≤a2+5*a3→a0+a1≤a2+1+5*(a3+1):=eq_1 [a0,a1,a2,a3] [] (.l (.a x0 x1) (.a (.a x2 (.n 1)) (.m 5 (.a x3 (.n 1))))) [.l x0 (.n 6),.l x1 (.a x2 (.m 5 x3))] (by kernel_rfl)
theorem eq_436:0+a0=a0+0:=eq_1 [a0] [] (.e (.a (.n 0) x0) (.a x0 (.n 0))) [] (by kernel_rfl)
theorem eq_669:0+a0+a1=a1+a0:=eq_1 [a0,a1] [] (.e (.a (.a (.n 0) x0) x1) (.a x1 x0)) [] (by kernel_rfl)
theorem eq_504:a0≤a1+5*a2→a1≤20000→a2≤a1→a0≤120000:=eq_1 [a0,a1,a2] [] (.l x0 (.n 120000)) [.l x0 (.a x1 (.m 5 x2)),.l x1 (.n 20000),.l x2 x1] (by kernel_rfl)
theorem eq_539:a0≤a1+5*a2→1+a0≤a1+1+5*(a2+0):=eq_1 [a0,a1,a2] [] (.l (.a (.n 1) x0) (.a (.a x1 (.n 1)) (.m 5 (.a x2 (.n 0))))) [.l x0 (.a x1 (.m 5 x2))] (by kernel_rfl)
theorem eq_724:a0≤6*a1→a2≤6→a2+a0≤6*(a1+1):=eq_1 [a2,a0,a1] [] (.l (.a x0 x1) (.m 6 (.a x2 (.n 1)))) [.l x1 (.m 6 x2),.l x0 (.n 6)] (by kernel_rfl)
theorem eq_1211:a0≤a1+5*a2→a1≤a3+5*a4→a0≤a3+5*(a4+a2):=eq_1 [a0,a3,a4,a2,a1] [] (.l x0 (.a x1 (.m 5 (.a x2 x3)))) [.l x0 (.a x4 (.m 5 x3)),.l x4 (.a x1 (.m 5 x2))] (by kernel_rfl)
theorem eq_1158:a0≤a1→a2=a3+a1→a4=a3→a4+a0≤a2:=eq_1 [a4,a0,a2,a1,a3] [] (.l (.a x0 x1) x2) [.l x1 x3,.e x2 (.a x4 x3),.e x0 x4] (by kernel_rfl)
theorem eq_128:a0<a1→a1+1-(a0+1)<a1+1-a0:=eq_1 [a1,a0,a1+1-(a0+1),a1+1-a0] [] (zt x2 x3) [.o (.k (zt x1 (.a x0 (.n 1))) (.e (.a x2 (.a x1 (.n 1))) (.a x0 (.n 1)))) (.k (zt x0 (.a x1 (.n 1))) (.e x2 (.n 0))),.k (zt x0 (.a x3 x1)) (.l x3 (.a x0 (.n 1))),zt x1 x0] (by kernel_rfl) (eq_8 (a1+1) (a0+1)) (eq_10 (a1+1) a0)
theorem eq_130:a0≤a1→¬(a0<a1)→a0=a1:=eq_1 [a0,a1] [] (.e x0 x1) [.l x0 x1,.x (zt x0 x1)] (by kernel_rfl)
theorem eq_1230:a0+a1=a0+(a1+1)→False:=eq_1 [a0,a1] [] .f [.e (.a x0 x1) (.a x0 (.a x1 (.n 1)))] (by kernel_rfl)
theorem eq_780:0≤i0→i0<((a0+1:Nat):Int)→a0≤1000→-2^63≤i0∧i0<2^63:=eq_1 [a0] [i0] (.k (.L (.g (.n 9223372036854775808)) x0) (zT x0 (.n 9223372036854775808))) [.L (.n 0) x0,zT x0 (.c (.a x0 (.n 1))),.l x0 (.n 1000)] (by kernel_rfl)
theorem eq_278:0≤i0→i0<0→False:=eq_1 [] [i0] .f [.L (.n 0) x0,zT x0 (.n 0)] (by kernel_rfl)
theorem eq_137:a0=a1+1→i0<((a1+1:Nat):Int)→Int.toNat i0<a0:=eq_1 [a0,a1,Int.toNat i0] [i0] (zt x2 x0) [.o (.k (.L (.n 0) x0) (.E (.c x2) x0)) (.k (.L x0 (.n 0)) (.e x2 (.n 0))),.e x0 (.a x1 (.n 1)),zT x0 (.c (.a x1 (.n 1)))] (by kernel_rfl) (eq_21 i0)
theorem eq_445:a0=a1+1→a1≤1000→a0≤16777216:=eq_1 [a0,a1] [] (.l x0 (.n 16777216)) [.e x0 (.a x1 (.n 1)),.l x1 (.n 1000)] (by kernel_rfl)
theorem eq_733:0≤i0∧i0<(a0:Int)→a0≤1000000→¬(i0< -2^63)∧¬(i0≥2^63):=eq_1 [a0] [i0] (.k (.x (zT x0 (.g (.n 9223372036854775808)))) (.x (.L (.n 9223372036854775808) x0))) [.k (.L (.n 0) x0) (zT x0 (.c x0)),.l x0 (.n 1000000)] (by kernel_rfl)
theorem eq_190:i0<0→0≤i0∧i0<(a0:Int)→False:=eq_1 [a0] [i0] .f [zT x0 (.n 0),.k (.L (.n 0) x0) (zT x0 (.c x0))] (by kernel_rfl)
theorem eq_47:1≤a0+1:=eq_1 [a0] [] (.l (.n 1) (.a x0 (.n 1))) [] (by kernel_rfl)
theorem eq_807:0≤i0∧i0<(a0:Int)→Int.toNat i0<a0:=eq_1 [a0,Int.toNat i0] [i0] (zt x1 x0) [.o (.k (.L (.n 0) x0) (.E (.c x1) x0)) (.k (.L x0 (.n 0)) (.e x1 (.n 0))),.k (.L (.n 0) x0) (zT x0 (.c x0))] (by kernel_rfl) (eq_21 i0)
theorem eq_613:0≤i0∧i0<(a0:Int)→a0≤1000→i0<2^63:=eq_1 [a0] [i0] (zT x0 (.n 9223372036854775808)) [.k (.L (.n 0) x0) (zT x0 (.c x0)),.l x0 (.n 1000)] (by kernel_rfl)
theorem eq_145:0<a0→0<(a0:Int):=eq_1 [a0] [] (zT (.n 0) (.c x0)) [zt (.n 0) x0] (by kernel_rfl)
theorem eq_607:4+4*a0=4*(a0+1):=eq_1 [a0] [] (.e (.a (.n 4) (.m 4 x0)) (.m 4 (.a x0 (.n 1)))) [] (by kernel_rfl)
theorem eq_582:0<(a0:Int)→0<a0:=eq_1 [a0] [] (zt (.n 0) x0) [zT (.n 0) (.c x0)] (by kernel_rfl)
theorem eq_951:(a0:Int)=1→a0=1:=eq_1 [a0] [] (.e x0 (.n 1)) [.E (.c x0) (.n 1)] (by kernel_rfl)
theorem eq_156:¬(0<(a0:Int))→i0<5∧0<a0→False:=eq_1 [a0] [i0] .f [.x (zT (.n 0) (.c x0)),.k (zT x0 (.n 5)) (zt (.n 0) x0)] (by kernel_rfl)
theorem eq_732:a0≤0+a1→a1≤5→a0≤5:=eq_1 [a0,a1] [] (.l x0 (.n 5)) [.l x0 (.a (.n 0) x1),.l x1 (.n 5)] (by kernel_rfl)
theorem eq_651:(a0:Int)<1→a0=0:=eq_1 [a0] [] (.e x0 (.n 0)) [zT (.c x0) (.n 1)] (by kernel_rfl)
theorem eq_118:¬(0<(a0:Int))→0<a0→False:=eq_1 [a0] [] .f [.x (zT (.n 0) (.c x0)),zt (.n 0) x0] (by kernel_rfl)
theorem eq_760:a0≤5→a1≤5→4*(a0-1)+a1+1≤30:=eq_1 [a0,a1,a0-1] [] (zt (.a (.m 4 x2) x1) (.n 30)) [.k (.l x0 (.a x2 (.n 1))) (.l x2 x0),.l x0 (.n 5),.l x1 (.n 5)] (by kernel_rfl) (eq_10 a0 1)
theorem eq_966:a0≤1000→(a0:Int)≤((1048576:Nat):Int):=eq_1 [a0] [] (.L (.c x0) (.c (.n 1048576))) [.l x0 (.n 1000)] (by kernel_rfl)
theorem eq_196: -2^63≤(a0:Int):=eq_1 [a0] [] (.L (.g (.n 9223372036854775808)) (.c x0)) [] (by kernel_rfl)
theorem eq_757:a0≤3∧p0∧a1≤a2+1→a3≤3∧p1∧a4≤a1+a5→a4≤a2+(a5+1):=fun h0 h1=>eq_1 [a4,a2,a5,a0,a1,a3] [] (.l x0 (.a x1 (.a x2 (.n 1)))) [.l x3 (.n 3),.l x4 (.a x1 (.n 1)),.l x5 (.n 3),.l x0 (.a x4 x2)] (by kernel_rfl) h0.1 h0.2.2 h1.1 h1.2.2
theorem eq_488:a0+(a1+1)≤a2→a0+1+a1≤a2:=eq_1 [a0,a1,a2] [] (.l (.a (.a x0 (.n 1)) x1) x2) [.l (.a x0 (.a x1 (.n 1))) x2] (by kernel_rfl)
theorem eq_398:a0+(a1+1)=a0+1+a1:=eq_1 [a0,a1] [] (.e (.a x0 (.a x1 (.n 1))) (.a (.a x0 (.n 1)) x1)) [] (by kernel_rfl)
theorem eq_454:a0+(a1+1)≤a2→a0<a2:=eq_1 [a0,a2,a1] [] (zt x0 x1) [.l (.a x0 (.a x2 (.n 1))) x1] (by kernel_rfl)
theorem eq_150:(0+1+1+1+1+1:Nat)≤16777216:=eq_1 [] [] (zt (.a (.a (.a (.a (.n 0) (.n 1)) (.n 1)) (.n 1)) (.n 1)) (.n 16777216)) [] (by kernel_rfl)
theorem eq_1008:a0≤5→a1=4*(a2-1)→a2≤a3→a3≤5→((PySem.Str.ofString "&").cps.toList.length)+a1+a0≤16777216:=eq_1 [a1,a0,a3,a2,a2-1] [] (.l (.a (.a (.n 1) x0) x1) (.n 16777216)) [.k (.l x3 (.a x4 (.n 1))) (.l x4 x3),.l x1 (.n 5),.e x0 (.m 4 x4),.l x3 x2,.l x2 (.n 5)] (by kernel_rfl) (eq_10 a2 1)
theorem eq_866:a0≤a1→a1≤5→a0-1≤1000:=eq_1 [a0,a1,a0-1] [] (.l x2 (.n 1000)) [.k (.l x0 (.a x2 (.n 1))) (.l x2 x0),.l x0 x1,.l x1 (.n 5)] (by kernel_rfl) (eq_10 a0 1)
theorem eq_1066:0<(a0:Int)→(a0:Int)-1=((a0-1:Nat):Int):=eq_1 [a0,a0-1] [] (.E (.s (.c x0) (.n 1)) (.c x1)) [.o (.k (.l (.n 1) x0) (.e (.a x1 (.n 1)) x0)) (.k (.l x0 (.n 1)) (.e x1 (.n 0))),zT (.n 0) (.c x0)] (by kernel_rfl) (eq_8 a0 1)
theorem eq_992:1≤a0+1+1+1+1:=eq_1 [a0] [] (.l (.n 1) (.a (.a (.a (.a x0 (.n 1)) (.n 1)) (.n 1)) (.n 1))) [] (by kernel_rfl)
theorem eq_484:0≤i0→i0<5→0≤i0∧i0<5:=eq_1 [] [i0] (.k (.L (.n 0) x0) (zT x0 (.n 5))) [.L (.n 0) x0,zT x0 (.n 5)] (by kernel_rfl)
theorem eq_1198:a0=4*(a1-1)→a1≤a2→a2≤5→((PySem.Str.ofString "&").length)+a0≤16777216:=eq_1 [a0,a2,a1,a1-1] [] (.l (.a (.n 1) x0) (.n 16777216)) [.k (.l x2 (.a x3 (.n 1))) (.l x3 x2),.e x0 (.m 4 x3),.l x2 x1,.l x1 (.n 5)] (by kernel_rfl) (eq_10 a1 1)
theorem eq_659:i0<1000000→i0<2^63:=eq_1 [] [i0] (zT x0 (.n 9223372036854775808)) [zT x0 (.n 1000000)] (by kernel_rfl)
theorem eq_262:1≤a0+1+1:=eq_1 [a0] [] (.l (.n 1) (.a (.a x0 (.n 1)) (.n 1))) [] (by kernel_rfl)
theorem eq_1007: -((a0+1:Nat):Int)≤ -1:=eq_1 [a0] [] (.L (.g (.c (.a x0 (.n 1)))) (.g (.n 1))) [] (by kernel_rfl)
theorem eq_1153:max 0 (min 1 ((a0+1:Nat):Int))=1:=eq_1 [a0] [min 1 ((a0+1:Nat):Int),max 0 (min 1 ((a0+1:Nat):Int))] (.E x1 (.n 1)) [.o (.k (.L (.n 1) (.c (.a x0 (.n 1)))) (.E x0 (.n 1))) (.k (.L (.c (.a x0 (.n 1))) (.n 1)) (.E x0 (.c (.a x0 (.n 1))))),.o (.k (.L (.n 0) x0) (.E x1 x0)) (.k (.L x0 (.n 0)) (.E x1 (.n 0)))] (by kernel_rfl) (eq_433 1 ((a0+1:Nat):Int)) (eq_92 0 (min 1 ((a0+1:Nat):Int)))
theorem eq_189:a0+a1≤1000000→a0≤16777216:=eq_1 [a0,a1] [] (.l x0 (.n 16777216)) [.l (.a x0 x1) (.n 1000000)] (by kernel_rfl)
theorem eq_198:a0≤16777216→(a0:Int)≥2^63→False:=eq_1 [a0] [] .f [.l x0 (.n 16777216),.L (.n 9223372036854775808) (.c x0)] (by kernel_rfl)
theorem eq_575:Int.toNat (-1+((a0+1:Nat):Int))=a0:=eq_1 [a0,Int.toNat (-1+((a0+1:Nat):Int))] [] (.e x1 x0) [.o (.k (.L (.n 0) (.a (.g (.n 1)) (.c (.a x0 (.n 1))))) (.E (.c x1) (.a (.g (.n 1)) (.c (.a x0 (.n 1)))))) (.k (.L (.a (.g (.n 1)) (.c (.a x0 (.n 1)))) (.n 0)) (.e x1 (.n 0)))] (by kernel_rfl) (eq_21 (-1+((a0+1:Nat):Int)))
theorem eq_177:a0+a1≤1000000→a0+a1>16777216→False:=eq_1 [a0,a1] [] .f [.l (.a x0 x1) (.n 1000000),zt (.n 16777216) (.a x0 x1)] (by kernel_rfl)
theorem eq_245:0<a0→-1+(a0:Int)=((a0-1:Nat):Int):=eq_1 [a0,a0-1] [] (.E (.a (.g (.n 1)) (.c x0)) (.c x1)) [.o (.k (.l (.n 1) x0) (.e (.a x1 (.n 1)) x0)) (.k (.l x0 (.n 1)) (.e x1 (.n 0))),zt (.n 0) x0] (by kernel_rfl) (eq_8 a0 1)
theorem eq_390:0<a0→0≤((a0-1:Nat):Int)∧((a0-1:Nat):Int)<(a0:Int):=eq_1 [a0,a0-1] [] (.k (.L (.n 0) (.c x1)) (zT (.c x1) (.c x0))) [.o (.k (.l (.n 1) x0) (.e (.a x1 (.n 1)) x0)) (.k (.l x0 (.n 1)) (.e x1 (.n 0))),zt (.n 0) x0] (by kernel_rfl) (eq_8 a0 1)
theorem eq_994 {a2:PySem.Addr}:a0=a1+1→a2<a1→a0=a2→False:=eq_1 [a0,a1,a2] [] .f [.e x0 (.a x1 (.n 1)),zt x2 x1,.e x0 x2] (by kernel_rfl)
theorem eq_893 {a2:PySem.Addr}:a0=a1+1→a2<a1→a2=a0→False:=eq_1 [a0,a1,a2] [] .f [.e x0 (.a x1 (.n 1)),zt x2 x1,.e x2 x0] (by kernel_rfl)
theorem eq_976:a0=a1+1→a0<a1→False:=eq_1 [a0,a1] [] .f [.e x0 (.a x1 (.n 1)),zt x0 x1] (by kernel_rfl)
theorem eq_695:a0=a1+1→a1≤a0:=eq_1 [a1,a0] [] (.l x0 x1) [.e x1 (.a x0 (.n 1))] (by kernel_rfl)
theorem eq_989:a0<a0→False:=eq_1 [a0] [] .f [zt x0 x0] (by kernel_rfl)
theorem eq_630:a0<a1→a1≤1000000→a0≤16777216:=eq_1 [a0,a1] [] (.l x0 (.n 16777216)) [zt x0 x1,.l x1 (.n 1000000)] (by kernel_rfl)
theorem eq_456 {a0:PySem.Addr}:a0<a1→a1=a0→False:=eq_1 [a0,a1] [] .f [zt x0 x1,.e x1 x0] (by kernel_rfl)
theorem eq_37:(0:Nat)≤16777216:=eq_1 [] [] (.l (.n 0) (.n 16777216)) [] (by kernel_rfl)
theorem eq_138 {a1:PySem.Addr}:a0≤a1→a1<a0→False:=eq_1 [a0,a1] [] .f [.l x0 x1,zt x1 x0] (by kernel_rfl)
theorem eq_957 {a2:PySem.Addr}:a0=a1+1→a2<a1→a2<a0:=eq_1 [a2,a0,a1] [] (zt x0 x1) [.e x1 (.a x2 (.n 1)),zt x0 x2] (by kernel_rfl)
theorem eq_874:a0=a1+1→a1<a0:=eq_1 [a1,a0] [] (zt x0 x1) [.e x1 (.a x0 (.n 1))] (by kernel_rfl)
theorem eq_260 {a0:PySem.Addr}:a0<a1→a0=a1→False:=eq_1 [a0,a1] [] .f [zt x0 x1,.e x0 x1] (by kernel_rfl)
theorem eq_222:(0+1+1+1:Nat)≤16777216:=eq_1 [] [] (zt (.a (.a (.n 0) (.n 1)) (.n 1)) (.n 16777216)) [] (by kernel_rfl)
theorem eq_152:(0+1:Nat)≤16777216:=eq_1 [] [] (zt (.n 0) (.n 16777216)) [] (by kernel_rfl)
theorem eq_1069:a0≤30→0+1+a0≤16777216:=eq_1 [a0] [] (.l (.a (.a (.n 0) (.n 1)) x0) (.n 16777216)) [.l x0 (.n 30)] (by kernel_rfl)
theorem eq_663:a0+a1=0+0+a2→a0+a1=a2:=eq_1 [a0,a1,a2] [] (.e (.a x0 x1) x2) [.e (.a x0 x1) (.a (.a (.n 0) (.n 0)) x2)] (by kernel_rfl)
theorem eq_1162:a0≤a1+a2∧a3≤a4+a2→a1≤a5+1∧a4≤a6+1→a0≤a5+(a2+1)∧a3≤a6+(a2+1):=eq_1 [a0,a5,a2,a3,a6,a1,a4] [] (.k (.l x0 (.a x1 (.a x2 (.n 1)))) (.l x3 (.a x4 (.a x2 (.n 1))))) [.k (.l x0 (.a x5 x2)) (.l x3 (.a x6 x2)),.k (.l x5 (.a x1 (.n 1))) (.l x6 (.a x4 (.n 1)))] (by kernel_rfl)
theorem eq_568:a0+a1+1+a2=a0+a1+(a2+1):=eq_1 [a0,a1,a2] [] (.e (.a (.a (.a x0 x1) (.n 1)) x2) (.a (.a x0 x1) (.a x2 (.n 1)))) [] (by kernel_rfl)
theorem eq_345:a0+1+a1≤a0+a1+1:=eq_1 [a0,a1] [] (.l (.a (.a x0 (.n 1)) x1) (.a (.a x0 x1) (.n 1))) [] (by kernel_rfl)
theorem eq_214:a0+a1≤a0+a1+1:=eq_1 [a0,a1] [] (.l (.a x0 x1) (.a (.a x0 x1) (.n 1))) [] (by kernel_rfl)
theorem eq_785:a0≤a1+1+a2→a0≤a1+(a2+1):=eq_1 [a0,a1,a2] [] (.l x0 (.a x1 (.a x2 (.n 1)))) [.l x0 (.a (.a x1 (.n 1)) x2)] (by kernel_rfl)
theorem eq_865:p0∧a0≤a1+1+a2→a0≤a1+(a2+1):=fun h0=>eq_1 [a0,a1,a2] [] (.l x0 (.a x1 (.a x2 (.n 1)))) [.l x0 (.a (.a x1 (.n 1)) x2)] (by kernel_rfl) h0.2
theorem eq_931:a0≤30→0+1+a0≤1000000:=eq_1 [a0] [] (.l (.a (.a (.n 0) (.n 1)) x0) (.n 1000000)) [.l x0 (.n 30)] (by kernel_rfl)
theorem eq_141:(0+1+1:Nat)≤16777216:=eq_1 [] [] (zt (.a (.n 0) (.n 1)) (.n 16777216)) [] (by kernel_rfl)
theorem eq_766:a0≤40001→a1≤20000→a0+1+a1≤1000000:=eq_1 [a0,a1] [] (.l (.a (.a x0 (.n 1)) x1) (.n 1000000)) [.l x0 (.n 40001),.l x1 (.n 20000)] (by kernel_rfl)
theorem eq_380:a0+200*3<9900→a0+3<9900:=eq_1 [a0] [] (zt (.a x0 (.n 3)) (.n 9900)) [zt (.a x0 (.m 200 (.n 3))) (.n 9900)] (by kernel_rfl)
theorem eq_1140:a0≤40001→a1≤20000→a0+a1≤1000000:=eq_1 [a0,a1] [] (.l (.a x0 x1) (.n 1000000)) [.l x0 (.n 40001),.l x1 (.n 20000)] (by kernel_rfl)
theorem eq_761:a0+(a1+1)=a0+a1+1:=eq_1 [a0,a1] [] (.e (.a x0 (.a x1 (.n 1))) (.a (.a x0 x1) (.n 1))) [] (by kernel_rfl)
theorem eq_348:a0≤a1+a2+a3→a1≤a4+a5+1→a0≤a4+(a5+a2)+(a3+1):=eq_1 [a0,a4,a5,a2,a3,a1] [] (.l x0 (.a (.a x1 (.a x2 x3)) (.a x4 (.n 1)))) [.l x0 (.a (.a x5 x3) x4),.l x5 (.a (.a x1 x2) (.n 1))] (by kernel_rfl)
theorem eq_1137:a0≤20000→a0+1≤16777215:=eq_1 [a0] [] (zt x0 (.n 16777215)) [.l x0 (.n 20000)] (by kernel_rfl)
theorem eq_1175:(a0:Int)<(a1:Int)+(a2:Int)→a0<a1+a2:=eq_1 [a0,a1,a2] [] (zt x0 (.a x1 x2)) [zT (.c x0) (.a (.c x1) (.c x2))] (by kernel_rfl)
theorem eq_129:¬((a0:Int)<(a1:Int)+(a2:Int))→p0∧a0<a1+a2→False:=fun h0 h1=>eq_1 [a0,a1,a2] [] .f [.x (zT (.c x0) (.a (.c x1) (.c x2))),zt x0 (.a x1 x2)] (by kernel_rfl) h0 h1.2
theorem eq_793:a0≤a1→a2+a0≤a2+a1:=eq_1 [a2,a0,a1] [] (.l (.a x0 x1) (.a x0 x2)) [.l x1 x2] (by kernel_rfl)
theorem eq_297:a0≤a1→a0+1≤a1+1:=eq_1 [a0,a1] [] (zt x0 (.a x1 (.n 1))) [.l x0 x1] (by kernel_rfl)
theorem eq_703:a0≤5→min (min a1 a0-a2) (a0-a2)≤5:=eq_1 [a0,a2,min a1 a0-a2,a0-a2,min (min a1 a0-a2) (a0-a2)] [] (.l x4 (.n 5)) [.k (.l x0 (.a x3 x1)) (.l x3 x0),.k (.l x4 x2) (.l x4 x3),.l x0 (.n 5)] (by kernel_rfl) (eq_10 a0 a2) (eq_13 (min a1 a0-a2) (a0-a2))
theorem eq_968:min a0 (a1+1)≤a1+1:=eq_1 [a0,a1,min a0 (a1+1)] [] (.l x2 (.a x1 (.n 1))) [.k (.l x2 x0) (.l x2 (.a x1 (.n 1)))] (by kernel_rfl) (eq_13 a0 (a1+1))
theorem eq_1073:a0≤0+a1+a2→a2≤a3+1→a3≤a4→a4≤20000→a5+a6=a4→a1≤a5+a6→a0≤40001:=eq_1 [a0,a4,a5,a6,a1,a3,a2] [] (.l x0 (.n 40001)) [.l x0 (.a (.a (.n 0) x4) x6),.l x6 (.a x5 (.n 1)),.l x5 x1,.l x1 (.n 20000),.e (.a x2 x3) x1,.l x4 (.a x2 x3)] (by kernel_rfl)
theorem eq_1040:a0≤20000→a0+1≤16777216:=eq_1 [a0] [] (zt x0 (.n 16777216)) [.l x0 (.n 20000)] (by kernel_rfl)
theorem eq_183:a0=a1→a2+a1=5→a0≤16777216:=eq_1 [a0,a2,a1] [] (.l x0 (.n 16777216)) [.e x0 x2,.e (.a x1 x2) (.n 5)] (by kernel_rfl)
theorem eq_1237:4-a0+1+a0=5→a0≤4:=eq_1 [a0,4-a0] [] (.l x0 (.n 4)) [.e (.a (.a x1 (.n 1)) x0) (.n 5)] (by kernel_rfl)
theorem eq_697:a0+a1=5→a2+1+a1=5→a0=a2+1:=eq_1 [a0,a2,a1] [] (.e x0 (.a x1 (.n 1))) [.e (.a x0 x2) (.n 5),.e (.a (.a x1 (.n 1)) x2) (.n 5)] (by kernel_rfl)
theorem eq_759:a0+1+a1=5→a0≤1000:=eq_1 [a0,a1] [] (.l x0 (.n 1000)) [.e (.a (.a x0 (.n 1)) x1) (.n 5)] (by kernel_rfl)
theorem eq_834:a0+1+a1=5→a2=a0→a2+(a1+1)=5:=eq_1 [a2,a1,a0] [] (.e (.a x0 (.a x1 (.n 1))) (.n 5)) [.e (.a (.a x2 (.n 1)) x1) (.n 5),.e x0 x2] (by kernel_rfl)
theorem eq_220:a0+1+a1=5→Int.natAbs ((a0+1:Nat):Int)<1073741824:=eq_1 [a0,a1,Int.natAbs ((a0+1:Nat):Int)] [] (zt x2 (.n 1073741824)) [.o (.k (.L (.n 0) (.c (.a x0 (.n 1)))) (.E (.c x2) (.c (.a x0 (.n 1))))) (.k (.L (.c (.a x0 (.n 1))) (.n 0)) (.E (.c x2) (.g (.c (.a x0 (.n 1)))))),.e (.a (.a x0 (.n 1)) x1) (.n 5)] (by kernel_rfl) (eq_1182 ((a0+1:Nat):Int))
theorem eq_854:a0+1+a1=5→a0=4-a1:=eq_1 [a0,a1,4-a1] [] (.e x0 x2) [.o (.k (.l x1 (.n 4)) (.e (.a x2 x1) (.n 4))) (.k (.l (.n 4) x1) (.e x2 (.n 0))),.e (.a (.a x0 (.n 1)) x1) (.n 5)] (by kernel_rfl) (eq_8 4 a1)
theorem eq_272:a0≤4*a1→a2≤4→a2+a0≤4*(a1+1):=eq_1 [a2,a0,a1] [] (.l (.a x0 x1) (.m 4 (.a x2 (.n 1)))) [.l x1 (.m 4 x2),.l x0 (.n 4)] (by kernel_rfl)
theorem eq_662:a0≤4*a1→a1≤1000→a0+1+((PySem.Str.ofString "K").length)≤16777216:=eq_1 [a0,a1] [] (zt (.a x0 (.n 1)) (.n 16777216)) [.l x0 (.m 4 x1),.l x1 (.n 1000)] (by kernel_rfl)
theorem eq_655:a0≤2→a0+1+1≤4:=eq_1 [a0] [] (zt (.a x0 (.n 1)) (.n 4)) [.l x0 (.n 2)] (by kernel_rfl)
theorem eq_828:a0≤2→a0+(0+1)+(0+1)≤16777216:=eq_1 [a0] [] (.l (.a (.a x0 (.a (.n 0) (.n 1))) (.a (.n 0) (.n 1))) (.n 16777216)) [.l x0 (.n 2)] (by kernel_rfl)
theorem eq_786:a0≤2→a1≤4*min a2 a3→a3≤1000→a1+1+(a0+(0+1)+(0+1))≤16777216:=eq_1 [a1,a0,a3,a2,min a2 a3] [] (.l (.a (.a x0 (.n 1)) (.a (.a x1 (.a (.n 0) (.n 1))) (.a (.n 0) (.n 1)))) (.n 16777216)) [.k (.l x4 x3) (.l x4 x2),.l x1 (.n 2),.l x0 (.m 4 x4),.l x2 (.n 1000)] (by kernel_rfl) (eq_13 a2 a3)
theorem eq_530:a0≤2→a0+(0+1)≤16777216:=eq_1 [a0] [] (.l (.a x0 (.a (.n 0) (.n 1))) (.n 16777216)) [.l x0 (.n 2)] (by kernel_rfl)
theorem eq_228:a0≤16777216→a0+1≤16777216+1:=eq_1 [a0] [] (zt x0 (.a (.n 16777216) (.n 1))) [.l x0 (.n 16777216)] (by kernel_rfl)
theorem eq_765:(0+1+1:Nat)≤16777216+2:=eq_1 [] [] (zt (.a (.n 0) (.n 1)) (.a (.n 16777216) (.n 2))) [] (by kernel_rfl)
theorem eq_367:a0+a1≤1000000→min (Int.toNat i0) a0-0+a1+(min a0 a0-Int.toNat (max i0 i1))≤16777216+1:=eq_1 [a0,a1,Int.toNat i0,min (Int.toNat i0) a0,min (Int.toNat i0) a0-0,min a0 a0,Int.toNat (max i0 i1),min a0 a0-Int.toNat (max i0 i1)] [] (.l (.a (.a x4 x1) (.v 7)) (.a (.n 16777216) (.n 1))) [.k (.l x3 x2) (.l x3 x0),.k (.l x3 (.a x4 (.n 0))) (.l x4 x3),.k (.l x5 x0) (.l x5 x0),.k (.l x5 (.a (.v 7) x6)) (.l (.v 7) x5),.l (.a x0 x1) (.n 1000000)] (by kernel_rfl) (eq_13 (Int.toNat i0) a0) (eq_10 (min (Int.toNat i0) a0) 0) (eq_13 a0 a0) (eq_10 (min a0 a0) (Int.toNat (max i0 i1)))
theorem eq_1105:0<a0→a0=0→False:=eq_1 [a0] [] .f [zt (.n 0) x0,.e x0 (.n 0)] (by kernel_rfl)
theorem eq_376:(0:Nat)≤16777216+1:=eq_1 [] [] (.l (.n 0) (.a (.n 16777216) (.n 1))) [] (by kernel_rfl)
theorem eq_1185:0<a0→a0-1+1=a0:=eq_1 [a0,a0-1] [] (.e (.a x1 (.n 1)) x0) [.o (.k (.l (.n 1) x0) (.e (.a x1 (.n 1)) x0)) (.k (.l x0 (.n 1)) (.e x1 (.n 0))),zt (.n 0) x0] (by kernel_rfl) (eq_8 a0 1)
theorem eq_818:0<a0→a0-1=a0→False:=eq_1 [a0,a0-1] [] .f [.o (.k (.l (.n 1) x0) (.e (.a x1 (.n 1)) x0)) (.k (.l x0 (.n 1)) (.e x1 (.n 0))),zt (.n 0) x0,.e x1 x0] (by kernel_rfl) (eq_8 a0 1)
theorem eq_1031:(a0:Int)=0→a0=0:=eq_1 [a0] [] (.e x0 (.n 0)) [.E (.c x0) (.n 0)] (by kernel_rfl)
theorem eq_880:a0<a1→Int.toNat (max (a0:Int) (a1:Int))=a1:=eq_1 [a0,a1,Int.toNat (max (a0:Int) (a1:Int))] [max (a0:Int) (a1:Int)] (.e x2 x1) [.o (.k (.L (.c x0) (.c x1)) (.E x0 (.c x1))) (.k (.L (.c x1) (.c x0)) (.E x0 (.c x0))),.o (.k (.L (.n 0) x0) (.E (.c x2) x0)) (.k (.L x0 (.n 0)) (.e x2 (.n 0))),zt x0 x1] (by kernel_rfl) (eq_92 (a0:Int) (a1:Int)) (eq_21 (max (a0:Int) (a1:Int)))
theorem eq_824:a0<a1→min a0 a1=a1→False:=eq_1 [a0,a1,min a0 a1] [] .f [.k (.l x2 x0) (.l x2 x1),zt x0 x1,.e x2 x1] (by kernel_rfl) (eq_13 a0 a1)
theorem eq_756:Int.toNat (max 0 (a0:Int))=a0:=eq_1 [a0,Int.toNat (max 0 (a0:Int))] [max 0 (a0:Int)] (.e x1 x0) [.o (.k (.L (.n 0) (.c x0)) (.E x0 (.c x0))) (.k (.L (.c x0) (.n 0)) (.E x0 (.n 0))),.o (.k (.L (.n 0) x0) (.E (.c x1) x0)) (.k (.L x0 (.n 0)) (.e x1 (.n 0)))] (by kernel_rfl) (eq_92 0 (a0:Int)) (eq_21 (max 0 (a0:Int)))
theorem eq_987:a0≤20000→a1≤20000→a0+a1≤1000000:=eq_1 [a0,a1] [] (.l (.a x0 x1) (.n 1000000)) [.l x0 (.n 20000),.l x1 (.n 20000)] (by kernel_rfl)
theorem eq_788:a0+40<PySem.recursionLimit→a1≤1→a0+a1+20*1<PySem.recursionLimit:=eq_1 [a0,a1] [] (zt (.a (.a x0 x1) (.m 20 (.n 1))) (.n 1000)) [zt (.a x0 (.n 40)) (.n 1000),.l x1 (.n 1)] (by kernel_rfl)
theorem eq_883 {a0:PySem.Addr}:a0<a1→a0=a1+1→False:=eq_1 [a0,a1] [] .f [zt x0 x1,.e x0 (.a x1 (.n 1))] (by kernel_rfl)
theorem eq_629:a0+400<PySem.cLine→a1≤4→a0+a1+200*1<PySem.cLine:=eq_1 [a0,a1] [] (zt (.a (.a x0 x1) (.m 200 (.n 1))) (.n 9900)) [zt (.a x0 (.n 400)) (.n 9900),.l x1 (.n 4)] (by kernel_rfl)
theorem eq_654:a0=a1→a0≤a1:=eq_1 [a0,a1] [] (.l x0 x1) [.e x0 x1] (by kernel_rfl)
theorem eq_998:a0+a1≤400000→((a0+a1:Nat):Int)<2^63:=eq_1 [a0,a1] [] (zT (.c (.a x0 x1)) (.n 9223372036854775808)) [.l (.a x0 x1) (.n 400000)] (by kernel_rfl)
theorem eq_499: -2^63≤((a0+a1:Nat):Int):=eq_1 [a0,a1] [] (.L (.g (.n 9223372036854775808)) (.c (.a x0 x1))) [] (by kernel_rfl)
theorem eq_1123:a0≤200000∧a1≤200000→a0+a1≤400000:=eq_1 [a0,a1] [] (.l (.a x0 x1) (.n 400000)) [.k (.l x0 (.n 200000)) (.l x1 (.n 200000))] (by kernel_rfl)
theorem eq_1052:a0≤400000*a1→a1≤20000→(a0:Int)<2^63:=eq_1 [a0,a1] [] (zT (.c x0) (.n 9223372036854775808)) [.l x0 (.m 400000 x1),.l x1 (.n 20000)] (by kernel_rfl)
theorem eq_739:a0≤200000∧a1≤200000→a2≤400000*a3→a0+a1+a2≤400000*(a3+1):=eq_1 [a0,a1,a2,a3] [] (.l (.a (.a x0 x1) x2) (.m 400000 (.a x3 (.n 1)))) [.k (.l x0 (.n 200000)) (.l x1 (.n 200000)),.l x2 (.m 400000 x3)] (by kernel_rfl)
theorem eq_687:a0≤400000*a1→a1≤a2→a0≤400000*a2:=eq_1 [a0,a2,a1] [] (.l x0 (.m 400000 x1)) [.l x0 (.m 400000 x2),.l x2 x1] (by kernel_rfl)
theorem eq_743:a0+1≤a1→a0<a1:=eq_1 [a0,a1] [] (zt x0 x1) [zt x0 x1] (by kernel_rfl)
theorem eq_750:a0+1≤a1→a0≤a1:=eq_1 [a0,a1] [] (.l x0 x1) [zt x0 x1] (by kernel_rfl)
theorem eq_1236:a0+a1≤10000000→a0+(a1+0)+(0+1+1)*64≤16777216:=eq_1 [a0,a1] [] (.l (.a (.a x0 (.a x1 (.n 0))) (.m 2 (.n 64))) (.n 16777216)) [.l (.a x0 x1) (.n 10000000)] (by kernel_rfl)
theorem eq_1023:a0≤1000000→a0+a1*0>16777216→False:=eq_1 [a0,a1] [] .f [.l x0 (.n 1000000),zt (.n 16777216) (.a x0 (.w x1 0))] (by kernel_rfl)
theorem eq_841:a0≤200000∧a1≤200000→a0+a1≤10000000:=eq_1 [a0,a1] [] (.l (.a x0 x1) (.n 10000000)) [.k (.l x0 (.n 200000)) (.l x1 (.n 200000))] (by kernel_rfl)
theorem eq_182:0<a0→(a0:Int)=0→False:=eq_1 [a0] [] .f [zt (.n 0) x0,.E (.c x0) (.n 0)] (by kernel_rfl)
theorem eq_75:a0≤1000000→(a0:Int)<2^63:=eq_1 [a0] [] (zT (.c x0) (.n 9223372036854775808)) [.l x0 (.n 1000000)] (by kernel_rfl)
theorem eq_126:0≤(a0:Int):=eq_1 [a0] [] (.L (.n 0) (.c x0)) [] (by kernel_rfl)
theorem eq_424:a0+20*2<PySem.recursionLimit→a0+1+20*1<PySem.recursionLimit:=eq_1 [a0] [] (zt (.a (.a x0 (.n 1)) (.m 20 (.n 1))) (.n 1000)) [zt (.a x0 (.m 20 (.n 2))) (.n 1000)] (by kernel_rfl)
theorem eq_392:a0+200*2<PySem.cLine→a0+3+1+1<PySem.cLine:=eq_1 [a0] [] (zt (.a (.a (.a x0 (.n 3)) (.n 1)) (.n 1)) (.n 9900)) [zt (.a x0 (.m 200 (.n 2))) (.n 9900)] (by kernel_rfl)
theorem eq_166:(162:Nat)=169→False:=eq_1 [] [] .f [.e (.n 162) (.n 169)] (by kernel_rfl)
theorem eq_211:a0+200*2<PySem.cLine→a0+3+1+200*1<PySem.cLine:=eq_1 [a0] [] (zt (.a (.a (.a x0 (.n 3)) (.n 1)) (.m 200 (.n 1))) (.n 9900)) [zt (.a x0 (.m 200 (.n 2))) (.n 9900)] (by kernel_rfl)
theorem eq_125:(169:Nat)=162→False:=eq_1 [] [] .f [.e (.n 169) (.n 162)] (by kernel_rfl)
theorem eq_332:a0+200*2<PySem.cLine→a0+3+1+1+200*1<PySem.cLine:=eq_1 [a0] [] (zt (.a (.a (.a (.a x0 (.n 3)) (.n 1)) (.n 1)) (.m 200 (.n 1))) (.n 9900)) [zt (.a x0 (.m 200 (.n 2))) (.n 9900)] (by kernel_rfl)
theorem eq_1190:i0<2^63→i0≥2^63→False:=eq_1 [] [i0] .f [zT x0 (.n 9223372036854775808),.L (.n 9223372036854775808) x0] (by kernel_rfl)
theorem eq_302:a0+200*4<PySem.cLine→a0+3<PySem.cLine:=eq_1 [a0] [] (zt (.a x0 (.n 3)) (.n 9900)) [zt (.a x0 (.m 200 (.n 4))) (.n 9900)] (by kernel_rfl)
theorem eq_93:a0+200*4<PySem.cLine→a0+3+1+200*1<PySem.cLine:=eq_1 [a0] [] (zt (.a (.a (.a x0 (.n 3)) (.n 1)) (.m 200 (.n 1))) (.n 9900)) [zt (.a x0 (.m 200 (.n 4))) (.n 9900)] (by kernel_rfl)
theorem eq_79:a0+200*4<PySem.cLine→a0+3+1+1+200*1<PySem.cLine:=eq_1 [a0] [] (zt (.a (.a (.a (.a x0 (.n 3)) (.n 1)) (.n 1)) (.m 200 (.n 1))) (.n 9900)) [zt (.a x0 (.m 200 (.n 4))) (.n 9900)] (by kernel_rfl)
theorem eq_74:a0+200*4<PySem.cLine→a0+3+1+1<PySem.cLine:=eq_1 [a0] [] (zt (.a (.a (.a x0 (.n 3)) (.n 1)) (.n 1)) (.n 9900)) [zt (.a x0 (.m 200 (.n 4))) (.n 9900)] (by kernel_rfl)
theorem eq_1232:a0≤20000→a0-1+1≤20000:=eq_1 [a0,a0-1] [] (zt x1 (.n 20000)) [.o (.k (.l (.n 1) x0) (.e (.a x1 (.n 1)) x0)) (.k (.l x0 (.n 1)) (.e x1 (.n 0))),.l x0 (.n 20000)] (by kernel_rfl) (eq_8 a0 1)
theorem eq_326:a0≤20000→a0-1≤20000:=eq_1 [a0,a0-1] [] (.l x1 (.n 20000)) [.k (.l x0 (.a x1 (.n 1))) (.l x1 x0),.l x0 (.n 20000)] (by kernel_rfl) (eq_10 a0 1)
theorem eq_84:a0+20*4<PySem.recursionLimit→a0+1+20*1<PySem.recursionLimit:=eq_1 [a0] [] (zt (.a (.a x0 (.n 1)) (.m 20 (.n 1))) (.n 1000)) [zt (.a x0 (.m 20 (.n 4))) (.n 1000)] (by kernel_rfl)
theorem eq_99:a0≤100000→a0≤16777216:=eq_1 [a0] [] (.l x0 (.n 16777216)) [.l x0 (.n 100000)] (by kernel_rfl)
theorem eq_796:((a0+1:Nat):Int)-1=(a0:Int):=eq_1 [a0] [] (.E (.s (.c (.a x0 (.n 1))) (.n 1)) (.c x0)) [] (by kernel_rfl)
theorem eq_917:((a0+1:Nat):Int)=0→False:=eq_1 [a0] [] .f [.E (.c (.a x0 (.n 1))) (.n 0)] (by kernel_rfl)
theorem eq_839:a0≤a1→min a2 a0≤a1:=eq_1 [a2,a0,a1,min a2 a0] [] (.l x3 x2) [.k (.l x3 x0) (.l x3 x1),.l x1 x2] (by kernel_rfl) (eq_13 a2 a0)
theorem eq_1201:a0+1≤a1→a0+1<a1+1:=eq_1 [a0,a1] [] (zt (.a x0 (.n 1)) (.a x1 (.n 1))) [zt x0 x1] (by kernel_rfl)
theorem eq_1114: -2^62≤((a0+1:Nat):Int)-1:=eq_1 [a0] [] (.L (.g (.n 4611686018427387904)) (.s (.c (.a x0 (.n 1))) (.n 1))) [] (by kernel_rfl)
theorem eq_452:a0=a1→a2=a1+1→a2≤20000→a0+1-(a3+1)≤20000:=eq_1 [a0,a3,a1,a2,a0+1-(a3+1)] [] (.l x4 (.n 20000)) [.k (zt x0 (.a x4 (.a x1 (.n 1)))) (.l x4 (.a x0 (.n 1))),.e x0 x2,.e x3 (.a x2 (.n 1)),.l x3 (.n 20000)] (by kernel_rfl) (eq_10 (a0+1) (a3+1))
theorem eq_104:a0≤a0+a1:=eq_1 [a0,a1] [] (.l x0 (.a x0 x1)) [] (by kernel_rfl)
theorem eq_168:a0+1≤a1→a1≤20000→min (a0+1) (a2+1)≤20000:=eq_1 [a0,a2,a1,min (a0+1) (a2+1)] [] (.l x3 (.n 20000)) [.k (.l x3 (.a x0 (.n 1))) (.l x3 (.a x1 (.n 1))),zt x0 x2,.l x2 (.n 20000)] (by kernel_rfl) (eq_13 (a0+1) (a2+1))
theorem eq_1057:¬((a0:Int)<(a1:Int))→a1≤a0:=eq_1 [a1,a0] [] (.l x0 x1) [.x (zT (.c x1) (.c x0))] (by kernel_rfl)
theorem eq_717:a0-a1=a2+1→a2+1≤a0:=eq_1 [a2,a0,a1,a0-a1] [] (zt x0 x1) [.k (.l x1 (.a x3 x2)) (.l x3 x1),.e x3 (.a x0 (.n 1))] (by kernel_rfl) (eq_10 a0 a1)
theorem eq_270:0<((a0+1:Nat):Int):=eq_1 [a0] [] (zT (.n 0) (.c (.a x0 (.n 1)))) [] (by kernel_rfl)
theorem eq_298:a0<a1→a1-a0=a1-a0-1+1:=eq_1 [a1,a0,a1-a0,a1-a0-1] [] (.e x2 (.a x3 (.n 1))) [.k (.l x0 (.a x2 x1)) (.l x2 x0),.o (.k (.l (.n 1) x2) (.e (.a x3 (.n 1)) x2)) (.k (.l x2 (.n 1)) (.e x3 (.n 0))),zt x1 x0] (by kernel_rfl) (eq_10 a1 a0) (eq_8 (a1-a0) 1)
theorem eq_814:a0=a1→a2<a1→a2<a0:=eq_1 [a2,a0,a1] [] (zt x0 x1) [.e x1 x2,zt x0 x2] (by kernel_rfl)
theorem eq_489:¬(a0<a1)→a0<a1+1→a0=a1:=eq_1 [a0,a1] [] (.e x0 x1) [.x (zt x0 x1),zt x0 (.a x1 (.n 1))] (by kernel_rfl)
theorem eq_578:a0≤1000000→(a0:Int)<9223372036854775808:=eq_1 [a0] [] (zT (.c x0) (.n 9223372036854775808)) [.l x0 (.n 1000000)] (by kernel_rfl)
theorem eq_635:i0=((a0+1:Nat):Int)-1+(a1:Int)*(-1)→a0-a1=a2+1→i0=((a2+1:Nat):Int):=eq_1 [a2,a0,a1,a0-a1] [i0,(a1:Int)*(-1)] (.E x0 (.c (.a x0 (.n 1)))) [.E x1 (.g (.m 1 (.c x2))),.o (.k (.l x2 x1) (.e (.a x3 x2) x1)) (.k (.l x1 x2) (.e x3 (.n 0))),.E x0 (.a (.s (.c (.a x1 (.n 1))) (.n 1)) x1),.e x3 (.a x0 (.n 1))] (by kernel_rfl) (eq_940 (a1:Int) 1) (eq_8 a0 a1)
theorem eq_1000:(a0:Int)=i0→0≤i0:=eq_1 [a0] [i0] (.L (.n 0) x0) [.E (.c x0) x0] (by kernel_rfl)
theorem eq_542:((Int.toNat (((a0+1:Nat):Int)-1-0):Nat):Int)=(a0:Int):=eq_1 [a0,Int.toNat (((a0+1:Nat):Int)-1-0)] [] (.E (.c x1) (.c x0)) [.o (.k (.L (.n 0) (.s (.s (.c (.a x0 (.n 1))) (.n 1)) (.n 0))) (.E (.c x1) (.s (.s (.c (.a x0 (.n 1))) (.n 1)) (.n 0)))) (.k (.L (.s (.s (.c (.a x0 (.n 1))) (.n 1)) (.n 0)) (.n 0)) (.e x1 (.n 0)))] (by kernel_rfl) (eq_21 (((a0+1:Nat):Int)-1-0))
theorem eq_1025:a0≤20000→((a0+1:Nat):Int)-1<2^62:=eq_1 [a0] [] (zT (.s (.c (.a x0 (.n 1))) (.n 1)) (.n 4611686018427387904)) [.l x0 (.n 20000)] (by kernel_rfl)
theorem eq_996:((-1).natAbs:Nat)<1073741824:=eq_1 [] [] (zt (.n 1) (.n 1073741824)) [] (by kernel_rfl)
theorem eq_534:(a0:Int)<(a1:Int)→a1≤a0→False:=eq_1 [a0,a1] [] .f [zT (.c x0) (.c x1),.l x1 x0] (by kernel_rfl)
theorem eq_829:a0-a1=a2+1→a0-(a1+1)=a2:=eq_1 [a0,a1,a2,a0-(a1+1),a0-a1] [] (.e x3 x2) [.o (.k (zt x1 x0) (.e (.a x3 (.a x1 (.n 1))) x0)) (.k (.l x0 (.a x1 (.n 1))) (.e x3 (.n 0))),.o (.k (.l x1 x0) (.e (.a x4 x1) x0)) (.k (.l x0 x1) (.e x4 (.n 0))),.e x4 (.a x2 (.n 1))] (by kernel_rfl) (eq_8 a0 (a1+1)) (eq_8 a0 a1)
theorem eq_1003:a0=2*a1→a2<a1→2*a2+1<a0:=eq_1 [a2,a0,a1] [] (zt (.a (.m 2 x0) (.n 1)) x1) [.e x1 (.m 2 x2),zt x0 x2] (by kernel_rfl)
theorem eq_938:a0=2*a1→a0≤2*a1:=eq_1 [a0,a1] [] (.l x0 (.m 2 x1)) [.e x0 (.m 2 x1)] (by kernel_rfl)
theorem eq_569:a0=2*a1→a2<a1→2*a2<a0:=eq_1 [a2,a0,a1] [] (zt (.m 2 x0) x1) [.e x1 (.m 2 x2),zt x0 x2] (by kernel_rfl)
theorem eq_712:a0≤a1→((1:Nat):Int)>(a0:Int)-(a1:Int):=eq_1 [a0,a1] [] (zT (.s (.c x0) (.c x1)) (.c (.n 1))) [.l x0 x1] (by kernel_rfl)
theorem eq_922:a0<4294967295→¬(a0≤a1)→min 4294967295 (Int.toNat ((a0:Int)-(a1:Int)))=a0-a1-1+1:=eq_1 [a0,a1,Int.toNat ((a0:Int)-(a1:Int)),min 4294967295 (Int.toNat ((a0:Int)-(a1:Int))),a0-a1,a0-a1-1] [] (.e x3 (.a x5 (.n 1))) [.o (.k (.L (.n 0) (.s (.c x0) (.c x1))) (.E (.c x2) (.s (.c x0) (.c x1)))) (.k (.L (.s (.c x0) (.c x1)) (.n 0)) (.e x2 (.n 0))),.o (.k (.l (.n 4294967295) x2) (.e x3 (.n 4294967295))) (.k (.l x2 (.n 4294967295)) (.e x3 x2)),.o (.k (.l x1 x0) (.e (.a x4 x1) x0)) (.k (.l x0 x1) (.e x4 (.n 0))),.o (.k (.l (.n 1) x4) (.e (.a x5 (.n 1)) x4)) (.k (.l x4 (.n 1)) (.e x5 (.n 0))),zt x0 (.n 4294967295),.x (.l x0 x1)] (by kernel_rfl) (eq_21 ((a0:Int)-(a1:Int))) (eq_36 4294967295 (Int.toNat ((a0:Int)-(a1:Int)))) (eq_8 a0 a1) (eq_8 (a0-a1) 1)
theorem eq_1194:¬(a0≤a1)→((1:Nat):Int)>(a0:Int)-(a1:Int)→False:=eq_1 [a0,a1] [] .f [.x (.l x0 x1),zT (.s (.c x0) (.c x1)) (.c (.n 1))] (by kernel_rfl)
theorem eq_549:a0≤4*a1+8→a0+3≤4*(a1+1)+8:=eq_1 [a0,a1] [] (.l (.a x0 (.n 3)) (.a (.m 4 (.a x1 (.n 1))) (.n 8))) [.l x0 (.a (.m 4 x1) (.n 8))] (by kernel_rfl)
theorem eq_1076:0<a0→a0<1→False:=eq_1 [a0] [] .f [zt (.n 0) x0,zt x0 (.n 1)] (by kernel_rfl)
theorem eq_745:¬(a0<a1)→a0+a2=a1→a0=a1:=eq_1 [a0,a1,a2] [] (.e x0 x1) [.x (zt x0 x1),.e (.a x0 x2) x1] (by kernel_rfl)
theorem eq_1070:0<a0+1:=eq_1 [a0] [] (zt (.n 0) (.a x0 (.n 1))) [] (by kernel_rfl)
theorem eq_628:a0<a1→((1:Nat):Int)>(a1:Int)-(a0:Int)→False:=eq_1 [a0,a1] [] .f [zt x0 x1,zT (.s (.c x1) (.c x0)) (.c (.n 1))] (by kernel_rfl)
theorem eq_798:a0+a1=a0→a1=0:=eq_1 [a1,a0] [] (.e x0 (.n 0)) [.e (.a x1 x0) x1] (by kernel_rfl)
theorem eq_773:a0+a1=a2→a0≤a2:=eq_1 [a0,a2,a1] [] (.l x0 x1) [.e (.a x0 x2) x1] (by kernel_rfl)
theorem eq_820:7≤4*a0+8:=eq_1 [a0] [] (.l (.n 7) (.a (.m 4 x0) (.n 8))) [] (by kernel_rfl)
theorem eq_1184:¬(a0≤a1)→a1<a0:=eq_1 [a1,a0] [] (zt x0 x1) [.x (.l x1 x0)] (by kernel_rfl)
theorem eq_877:(4:Nat)≤4*0+8:=eq_1 [] [] (.l (.n 4) (.a (.m 4 (.n 0)) (.n 8))) [] (by kernel_rfl)
theorem eq_1033:a0≤4→4=a0+(4-a0):=eq_1 [a0,4-a0] [] (.e (.n 4) (.a x0 x1)) [.o (.k (.l x0 (.n 4)) (.e (.a x1 x0) (.n 4))) (.k (.l (.n 4) x0) (.e x1 (.n 0))),.l x0 (.n 4)] (by kernel_rfl) (eq_8 4 a0)
theorem eq_903:a0+a1=a2→a0<a2→a1=a1-1+1:=eq_1 [a1,a0,a2,a1-1] [] (.e x0 (.a x3 (.n 1))) [.o (.k (.l (.n 1) x0) (.e (.a x3 (.n 1)) x0)) (.k (.l x0 (.n 1)) (.e x3 (.n 0))),.e (.a x1 x0) x2,zt x1 x2] (by kernel_rfl) (eq_8 a1 1)
theorem eq_691:a0<4294967295→min 4294967295 (Int.toNat ((a0:Int)-(a1:Int)))=a0-a1:=eq_1 [a0,a1,Int.toNat ((a0:Int)-(a1:Int)),min 4294967295 (Int.toNat ((a0:Int)-(a1:Int))),a0-a1] [] (.e x3 x4) [.o (.k (.L (.n 0) (.s (.c x0) (.c x1))) (.E (.c x2) (.s (.c x0) (.c x1)))) (.k (.L (.s (.c x0) (.c x1)) (.n 0)) (.e x2 (.n 0))),.o (.k (.l (.n 4294967295) x2) (.e x3 (.n 4294967295))) (.k (.l x2 (.n 4294967295)) (.e x3 x2)),.o (.k (.l x1 x0) (.e (.a x4 x1) x0)) (.k (.l x0 x1) (.e x4 (.n 0))),zt x0 (.n 4294967295)] (by kernel_rfl) (eq_21 ((a0:Int)-(a1:Int))) (eq_36 4294967295 (Int.toNat ((a0:Int)-(a1:Int)))) (eq_8 a0 a1)
theorem eq_1010:¬(a0≤4)→4+(a0-4)=a0:=eq_1 [a0,a0-4] [] (.e (.a (.n 4) x1) x0) [.o (.k (.l (.n 4) x0) (.e (.a x1 (.n 4)) x0)) (.k (.l x0 (.n 4)) (.e x1 (.n 0))),.x (.l x0 (.n 4))] (by kernel_rfl) (eq_8 a0 4)
theorem eq_500:¬(a0≤4)→a1<a2+1→a0≤a1→a0-4<a2:=eq_1 [a0,a2,a1,a0-4] [] (zt x3 x1) [.o (.k (.l (.n 4) x0) (.e (.a x3 (.n 4)) x0)) (.k (.l x0 (.n 4)) (.e x3 (.n 0))),.x (.l x0 (.n 4)),zt x2 (.a x1 (.n 1)),.l x0 x2] (by kernel_rfl) (eq_8 a0 4)
theorem eq_616:a0+(a1+1)=a2-a3→a4+a5=a1+1→a3+a0+a4≤a2:=eq_1 [a3,a0,a4,a2,a1,a5,a2-a3] [] (.l (.a (.a x0 x1) x2) x3) [.o (.k (.l x0 x3) (.e (.a x6 x0) x3)) (.k (.l x3 x0) (.e x6 (.n 0))),.e (.a x1 (.a x4 (.n 1))) x6,.e (.a x2 x5) (.a x4 (.n 1))] (by kernel_rfl) (eq_8 a2 a3)
theorem eq_606:a0≤a1→a0+(a1-a0)=a1:=eq_1 [a0,a1,a1-a0] [] (.e (.a x0 x2) x1) [.o (.k (.l x0 x1) (.e (.a x2 x0) x1)) (.k (.l x1 x0) (.e x2 (.n 0))),.l x0 x1] (by kernel_rfl) (eq_8 a1 a0)
theorem eq_639:a0+(a1+1)=a2-a3→a3+a0<a2:=eq_1 [a3,a0,a2,a1,a2-a3] [] (zt (.a x0 x1) x2) [.o (.k (.l x0 x2) (.e (.a x4 x0) x2)) (.k (.l x2 x0) (.e x4 (.n 0))),.e (.a x1 (.a x3 (.n 1))) x4] (by kernel_rfl) (eq_8 a2 a3)
theorem eq_735:a0+0=a1→a0<a1∧p0→False:=fun h0 h1=>eq_1 [a0,a1] [] .f [.e (.a x0 (.n 0)) x1,zt x0 x1] (by kernel_rfl) h0 h1.1
theorem eq_290:a0+a1-a0=a1:=eq_1 [a0,a1,a0+a1-a0] [] (.e x2 x1) [.o (.k (.l x0 (.a x0 x1)) (.e (.a x2 x0) (.a x0 x1))) (.k (.l (.a x0 x1) x0) (.e x2 (.n 0)))] (by kernel_rfl) (eq_8 (a0+a1) a0)
theorem eq_680:a0+(a1+1)=a2-a3→a3+a0+(a2-(a3+a0))=a2:=eq_1 [a3,a0,a2,a1,a2-(a3+a0),a2-a3] [] (.e (.a (.a x0 x1) x4) x2) [.o (.k (.l (.a x0 x1) x2) (.e (.a x4 (.a x0 x1)) x2)) (.k (.l x2 (.a x0 x1)) (.e x4 (.n 0))),.o (.k (.l x0 x2) (.e (.a x5 x0) x2)) (.k (.l x2 x0) (.e x5 (.n 0))),.e (.a x1 (.a x3 (.n 1))) x5] (by kernel_rfl) (eq_8 a2 (a3+a0)) (eq_8 a2 a3)
theorem eq_1128:2*(a0+1)=2*a0+1+1:=eq_1 [a0] [] (.e (.m 2 (.a x0 (.n 1))) (.a (.a (.m 2 x0) (.n 1)) (.n 1))) [] (by kernel_rfl)
theorem eq_921:2*(a0+1)+1=2*a0+1+1+1:=eq_1 [a0] [] (.e (.a (.m 2 (.a x0 (.n 1))) (.n 1)) (.a (.a (.a (.m 2 x0) (.n 1)) (.n 1)) (.n 1))) [] (by kernel_rfl)
theorem eq_823:a0≤a1→a2+a3+a0≤a2+(a3+a1):=eq_1 [a2,a3,a0,a1] [] (.l (.a (.a x0 x1) x2) (.a x0 (.a x1 x3))) [.l x2 x3] (by kernel_rfl)
theorem eq_526:a0%2=1→(a0+1+1)%2=1:=eq_1 [a0,(a0+1+1)/2,(a0+1+1)%2,a0/2,a0%2] [] (.e x2 (.n 1)) [.k (.e (.a (.m 2 x1) x2) (.a (.a x0 (.n 1)) (.n 1))) (zt x2 (.n 2)),.k (.e (.a (.m 2 x3) x4) x0) (zt x4 (.n 2)),.e x4 (.n 1)] (by kernel_rfl) (eq_11 (a0+1+1) 2 (by decide)) (eq_11 a0 2 (by decide))
theorem eq_988:a0+a1=a2→a1≤a2:=eq_1 [a1,a2,a0] [] (.l x0 x1) [.e (.a x2 x0) x1] (by kernel_rfl)
theorem eq_1055:a0+a1=a2→a1+a0=a2:=eq_1 [a1,a0,a2] [] (.e (.a x0 x1) x2) [.e (.a x1 x0) x2] (by kernel_rfl)
theorem eq_634:a0≤a1+a0:=eq_1 [a0,a1] [] (.l x0 (.a x1 x0)) [] (by kernel_rfl)
theorem eq_952:(a0+1+1)%2=0→a0%2=0:=eq_1 [a0,a0/2,a0%2,(a0+1+1)/2,(a0+1+1)%2] [] (.e x2 (.n 0)) [.k (.e (.a (.m 2 x1) x2) x0) (zt x2 (.n 2)),.k (.e (.a (.m 2 x3) x4) (.a (.a x0 (.n 1)) (.n 1))) (zt x4 (.n 2)),.e x4 (.n 0)] (by kernel_rfl) (eq_11 a0 2 (by decide)) (eq_11 (a0+1+1) 2 (by decide))
theorem eq_508:a0≤a1→a2=a1+1→a0≤a2:=eq_1 [a0,a2,a1] [] (.l x0 x1) [.l x0 x2,.e x1 (.a x2 (.n 1))] (by kernel_rfl)
theorem eq_1197:a0≤a1→a0-a2≤a1:=eq_1 [a0,a2,a1,a0-a2] [] (.l x3 x2) [.k (.l x0 (.a x3 x1)) (.l x3 x0),.l x0 x2] (by kernel_rfl) (eq_10 a0 a2)
theorem eq_371:a0≤a1→a0+a2≤a1+a2:=eq_1 [a0,a2,a1] [] (.l (.a x0 x1) (.a x2 x1)) [.l x0 x2] (by kernel_rfl)
theorem eq_678:2*a0=a1→2*(a0+1)=a1+1+1:=eq_1 [a0,a1] [] (.e (.m 2 (.a x0 (.n 1))) (.a (.a x1 (.n 1)) (.n 1))) [.e (.m 2 x0) x1] (by kernel_rfl)
theorem eq_1212:a0≤a1→a0≤a2+a1:=eq_1 [a0,a2,a1] [] (.l x0 (.a x1 x2)) [.l x0 x2] (by kernel_rfl)
theorem eq_1141:a0≤a1+1→a2≤a0→a3+a4=a2→0<a4→a3≤a1:=eq_1 [a3,a1,a0,a4,a2] [] (.l x0 x1) [.l x2 (.a x1 (.n 1)),.l x4 x2,.e (.a x0 x3) x4,zt (.n 0) x3] (by kernel_rfl)
theorem eq_283:a0≤a1→a0≤a1+1:=eq_1 [a0,a1] [] (.l x0 (.a x1 (.n 1))) [.l x0 x1] (by kernel_rfl)
theorem eq_890:a0+a1≤a2→p0∧a2<a0+a1→False:=fun h0 h1=>eq_1 [a0,a1,a2] [] .f [.l (.a x0 x1) x2,zt x2 (.a x0 x1)] (by kernel_rfl) h0 h1.2
theorem eq_808:a0<a1→a0≤a1:=eq_1 [a0,a1] [] (.l x0 x1) [zt x0 x1] (by kernel_rfl)
theorem eq_109:a0≤a0+1:=eq_1 [a0] [] (.l x0 (.a x0 (.n 1))) [] (by kernel_rfl)
theorem eq_351:a0≤a1+1→a2+a3=a4→0<a2→a5+a4=a0→a3≤a1:=eq_1 [a3,a1,a0,a2,a4,a5] [] (.l x0 x1) [.l x2 (.a x1 (.n 1)),.e (.a x3 x0) x4,zt (.n 0) x3,.e (.a x5 x4) x2] (by kernel_rfl)
theorem eq_466:p0∧a0<a1+a2→a0<a1+(a2+a3):=fun h0=>eq_1 [a0,a1,a2,a3] [] (zt x0 (.a x1 (.a x2 x3))) [zt x0 (.a x1 x2)] (by kernel_rfl) h0.2
theorem eq_311:(1:Nat)≤0→False:=eq_1 [] [] .f [.l (.n 1) (.n 0)] (by kernel_rfl)
theorem eq_143:1≤a0→a0≤0→False:=eq_1 [a0] [] .f [.l (.n 1) x0,.l x0 (.n 0)] (by kernel_rfl)
theorem eq_1170:a0<a1→1≤a1-a0:=eq_1 [a1,a0,a1-a0] [] (.l (.n 1) x2) [.k (.l x0 (.a x2 x1)) (.l x2 x0),zt x1 x0] (by kernel_rfl) (eq_10 a1 a0)
theorem eq_916:a0≤a1+1→¬(a0=a1+1)→a0<a1+1:=eq_1 [a0,a1] [] (zt x0 (.a x1 (.n 1))) [.l x0 (.a x1 (.n 1)),.x (.e x0 (.a x1 (.n 1)))] (by kernel_rfl)
theorem eq_812:a0≤a1+1→¬(a0=a1+1)→a0≤a1:=eq_1 [a0,a1] [] (.l x0 x1) [.l x0 (.a x1 (.n 1)),.x (.e x0 (.a x1 (.n 1)))] (by kernel_rfl)
theorem eq_826:¬(a0+a1≤a2)→a2<a0+a1:=eq_1 [a2,a0,a1] [] (zt x0 (.a x1 x2)) [.x (.l (.a x1 x2) x0)] (by kernel_rfl)
theorem eq_898:0<a0→a1≤a1+a0-1:=eq_1 [a1,a0,a1+a0-1] [] (.l x0 x2) [.k (.l (.a x0 x1) (.a x2 (.n 1))) (.l x2 (.a x0 x1)),zt (.n 0) x1] (by kernel_rfl) (eq_10 (a1+a0) 1)
theorem eq_1215:min (a0+1) a1-(a0+1)=0:=eq_1 [a0,a1,min (a0+1) a1,min (a0+1) a1-(a0+1)] [] (.e x3 (.n 0)) [.k (.l x2 (.a x0 (.n 1))) (.l x2 x1),.o (.k (zt x0 x2) (.e (.a x3 (.a x0 (.n 1))) x2)) (.k (.l x2 (.a x0 (.n 1))) (.e x3 (.n 0)))] (by kernel_rfl) (eq_13 (a0+1) a1) (eq_8 (min (a0+1) a1) (a0+1))
theorem eq_1186:a0≤a1→a2≤0+a1+(a0+1)→a2≤2*a1+1:=eq_1 [a2,a1,a0] [] (.l x0 (.a (.m 2 x1) (.n 1))) [.l x2 x1,.l x0 (.a (.a (.n 0) x1) (.a x2 (.n 1)))] (by kernel_rfl)
theorem eq_1134:(1:Nat)≤5592405:=eq_1 [] [] (.l (.n 1) (.n 5592405)) [] (by kernel_rfl)
theorem eq_515:a0≤80000→a0+((PySem.Str.ofString "?").length)≤16777216:=eq_1 [a0] [] (zt x0 (.n 16777216)) [.l x0 (.n 80000)] (by kernel_rfl)
theorem eq_619:a0≤80000→a1≤4→a0+a1≤16777216:=eq_1 [a0,a1] [] (.l (.a x0 x1) (.n 16777216)) [.l x0 (.n 80000),.l x1 (.n 4)] (by kernel_rfl)
theorem eq_598:a0≤4*min a1 a2→a2≤20000→a0≤80000:=eq_1 [a0,a2,a1,min a1 a2] [] (.l x0 (.n 80000)) [.k (.l x3 x2) (.l x3 x1),.l x0 (.m 4 x3),.l x1 (.n 20000)] (by kernel_rfl) (eq_13 a1 a2)
theorem eq_511:a0=a0+1→False:=eq_1 [a0] [] .f [.e x0 (.a x0 (.n 1))] (by kernel_rfl)
theorem eq_954:a0<4000000000→4*(a0-a1)+8<(2 ^ 64):=eq_1 [a0,a1,a0-a1] [] (zt (.a (.m 4 x2) (.n 8)) (.n 18446744073709551616)) [.k (.l x0 (.a x2 x1)) (.l x2 x0),zt x0 (.n 4000000000)] (by kernel_rfl) (eq_10 a0 a1)
theorem eq_1176:a0=a1+a2→a1+a2≤a3→a0≤a3:=eq_1 [a0,a3,a1,a2] [] (.l x0 x1) [.e x0 (.a x2 x3),.l (.a x2 x3) x1] (by kernel_rfl)
theorem eq_518:a0<a0∧p0→False:=fun h0=>eq_1 [a0] [] .f [zt x0 x0] (by kernel_rfl) h0.1
theorem eq_857:a0-0<2*a0+3:=eq_1 [a0,a0-0] [] (zt x1 (.a (.m 2 x0) (.n 3))) [.k (.l x0 (.a x1 (.n 0))) (.l x1 x0)] (by kernel_rfl) (eq_10 a0 0)
theorem eq_1077:a0≤1000000→min (a1-a2) (a0-a2)≤16777216:=eq_1 [a2,a0,a1-a2,a0-a2,min (a1-a2) (a0-a2)] [] (.l x4 (.n 16777216)) [.k (.l x1 (.a x3 x0)) (.l x3 x1),.k (.l x4 x2) (.l x4 x3),.l x1 (.n 1000000)] (by kernel_rfl) (eq_10 a0 a2) (eq_13 (a1-a2) (a0-a2))
theorem eq_1193:a0≤a1→a0≤a1+1+1:=eq_1 [a0,a1] [] (.l x0 (.a (.a x1 (.n 1)) (.n 1))) [.l x0 x1] (by kernel_rfl)
theorem eq_453:a0≤2*a1→a1≤a2→a3=a2+a4→0<a4→a0+1+1≤2*a3:=eq_1 [a0,a3,a1,a2,a4] [] (zt (.a x0 (.n 1)) (.m 2 x1)) [.l x0 (.m 2 x2),.l x2 x3,.e x1 (.a x3 x4),zt (.n 0) x4] (by kernel_rfl)
theorem eq_1104:0<a0→a1≤a2→p0∧a3-a1<a4∧a3-a1≤a5+1→a3-(a2+a0)≤a5:=fun h0 h1 h2=>eq_1 [a3,a2,a0,a5,a1,a4,a3-(a2+a0),a3-a1] [] (.l x6 x3) [.o (.k (.l (.a x1 x2) x0) (.e (.a x6 (.a x1 x2)) x0)) (.k (.l x0 (.a x1 x2)) (.e x6 (.n 0))),.k (.l x0 (.a (.v 7) x4)) (.l (.v 7) x0),zt (.n 0) x2,.l x4 x1,.k (zt (.v 7) x5) (.l (.v 7) (.a x3 (.n 1)))] (by kernel_rfl) (eq_8 a3 (a2+a0)) (eq_10 a3 a1) h0 h1 h2.2
theorem eq_1072:0<a0→a1+a0≤a2→a3≤a1→a2-a3<a4+1→a2-(a1+a0)<a4:=eq_1 [a2,a1,a0,a4,a3,a2-(a1+a0),a2-a3] [] (zt x5 x3) [.o (.k (.l (.a x1 x2) x0) (.e (.a x5 (.a x1 x2)) x0)) (.k (.l x0 (.a x1 x2)) (.e x5 (.n 0))),.k (.l x0 (.a x6 x4)) (.l x6 x0),zt (.n 0) x2,.l (.a x1 x2) x0,.l x4 x1,zt x6 (.a x3 (.n 1))] (by kernel_rfl) (eq_8 a2 (a1+a0)) (eq_10 a2 a3)
theorem eq_689:a0≤1000000→min (a0-a1) (a0-a1)≤16777216:=eq_1 [a0,a1,a0-a1,min (a0-a1) (a0-a1)] [] (.l x3 (.n 16777216)) [.k (.l x0 (.a x2 x1)) (.l x2 x0),.k (.l x3 x2) (.l x3 x2),.l x0 (.n 1000000)] (by kernel_rfl) (eq_10 a0 a1) (eq_13 (a0-a1) (a0-a1))
theorem eq_439:a0≤2*a1→a1≤a2→a2≤1000000→a0≤16777215:=eq_1 [a0,a2,a1] [] (.l x0 (.n 16777215)) [.l x0 (.m 2 x2),.l x2 x1,.l x1 (.n 1000000)] (by kernel_rfl)
theorem eq_945:(1:Nat)≤4*0+8:=eq_1 [] [] (.l (.n 1) (.a (.m 4 (.n 0)) (.n 8))) [] (by kernel_rfl)
theorem eq_586:a0-a1≤a0-a1:=eq_1 [a0-a1] [] (.l x0 x0) [] (by kernel_rfl)
theorem eq_1039:a0+a1<a0→False:=eq_1 [a1,a0] [] .f [zt (.a x1 x0) x1] (by kernel_rfl)
theorem eq_764:p0∧a0-a1<a2∧a0-a1≤a3→a1≤a4→a4<a0→a3=a3-1+1:=fun h0 h1 h2=>eq_1 [a3,a1,a0,a2,a4,a3-1,a0-a1] [] (.e x0 (.a x5 (.n 1))) [.o (.k (.l (.n 1) x0) (.e (.a x5 (.n 1)) x0)) (.k (.l x0 (.n 1)) (.e x5 (.n 0))),.k (.l x2 (.a x6 x1)) (.l x6 x2),.k (zt x6 x3) (.l x6 x0),.l x1 x4,zt x4 x2] (by kernel_rfl) (eq_8 a3 1) (eq_10 a0 a1) h0.2 h1 h2
theorem eq_747:a0<a1→a0≤a1∧¬(a1-a0=0):=eq_1 [a0,a1,a1-a0] [] (.k (.l x0 x1) (.x (.e x2 (.n 0)))) [.k (.l x1 (.a x2 x0)) (.l x2 x1),zt x0 x1] (by kernel_rfl) (eq_10 a1 a0)
theorem eq_1125:a0<4000000000→a0<4294967295:=eq_1 [a0] [] (zt x0 (.n 4294967295)) [zt x0 (.n 4000000000)] (by kernel_rfl)
theorem eq_589:a0<a1→a0+(a1-a0)=a1:=eq_1 [a0,a1,a1-a0] [] (.e (.a x0 x2) x1) [.o (.k (.l x0 x1) (.e (.a x2 x0) x1)) (.k (.l x1 x0) (.e x2 (.n 0))),zt x0 x1] (by kernel_rfl) (eq_8 a1 a0)
theorem eq_891:max 0 (min 0 (a0:Int))=0:=eq_1 [a0] [min 0 (a0:Int),max 0 (min 0 (a0:Int))] (.E x1 (.n 0)) [.k (.L x0 (.n 0)) (.L x0 (.c x0)),.o (.k (.L (.n 0) x0) (.E x1 x0)) (.k (.L x0 (.n 0)) (.E x1 (.n 0)))] (by kernel_rfl) (eq_1202 0 (a0:Int)) (eq_92 0 (min 0 (a0:Int)))
theorem eq_868:a0=a1→a2≤a0→a2≤a1:=eq_1 [a2,a1,a0] [] (.l x0 x1) [.e x2 x1,.l x0 x2] (by kernel_rfl)
theorem eq_738:a0=a1→a1≤10002→a0+1+(0+1)≤1000000:=eq_1 [a0,a1] [] (.l (.a (.a x0 (.n 1)) (.a (.n 0) (.n 1))) (.n 1000000)) [.e x0 x1,.l x1 (.n 10002)] (by kernel_rfl)
theorem eq_1015:a0≤2*a1+1→a0+1+1≤2*(a1+1)+1:=eq_1 [a0,a1] [] (zt (.a x0 (.n 1)) (.a (.m 2 (.a x1 (.n 1))) (.n 1))) [.l x0 (.a (.m 2 x1) (.n 1))] (by kernel_rfl)
theorem eq_618:2*a0=a1+2→a1≤10002→a0≤6000:=eq_1 [a0,a1] [] (.l x0 (.n 6000)) [.e (.m 2 x0) (.a x1 (.n 2)),.l x1 (.n 10002)] (by kernel_rfl)
theorem eq_1213:(-2^63:Int)≤2:=eq_1 [] [] (.L (.g (.n 9223372036854775808)) (.n 2)) [] (by kernel_rfl)
theorem eq_886:a0≤a1→a1=a2→a2≤5000→a0≤5000:=eq_1 [a0,a2,a1] [] (.l x0 (.n 5000)) [.l x0 x2,.e x2 x1,.l x1 (.n 5000)] (by kernel_rfl)
theorem eq_535:a0≤a1→a1≤6000→a0+1≤20000:=eq_1 [a0,a1] [] (zt x0 (.n 20000)) [.l x0 x1,.l x1 (.n 6000)] (by kernel_rfl)
theorem eq_1189 {a0:PySem.Addr} {a1:PySem.Addr} {a2:PySem.Addr}:a0=a1→a2<a1→a0<a2→False:=eq_1 [a0,a1,a2] [] .f [.e x0 x1,zt x2 x1,zt x0 x2] (by kernel_rfl)
theorem eq_1014:(2:Int)<2^63:=eq_1 [] [] (zT (.n 2) (.n 9223372036854775808)) [] (by kernel_rfl)
theorem eq_123 {a0:PySem.Addr} {a10:PySem.Addr} {a11:PySem.Addr} {a1:PySem.Addr} {a2:PySem.Addr} {a3:PySem.Addr} {a4:PySem.Addr} {a5:PySem.Addr} {a6:PySem.Addr} {a7:PySem.Addr} {a8:PySem.Addr} {a9:PySem.Addr}:a0<a1→a2=a1→a3<a0∧a4<a0∧a5<a0∧a6<a0∧a2<a0∧a7<a0∧a8<a0∧a9<a0∧a10<a0∧a11<a0∧162<a0∧169<a0→False:=eq_1 [a3,a0,a4,a5,a6,a2,a7,a8,a9,a10,a11,a1] [] .f [zt x1 (.v 11),.e x5 (.v 11),.k (zt x0 x1) (.k (zt x2 x1) (.k (zt x3 x1) (.k (zt x4 x1) (.k (zt x5 x1) (.k (zt x6 x1) (.k (zt (.v 7) x1) (.k (zt (.v 8) x1) (.k (zt (.v 9) x1) (.k (zt (.v 10) x1) (.k (zt (.n 162) x1) (zt (.n 169) x1)))))))))))] (by kernel_rfl)
theorem eq_1133:a0=a1→0+1+(a0+1)=a1+2:=eq_1 [a0,a1] [] (.e (.a (.a (.n 0) (.n 1)) (.a x0 (.n 1))) (.a x1 (.n 2))) [.e x0 x1] (by kernel_rfl)
theorem eq_1163 {a0:PySem.Addr} {a10:PySem.Addr} {a1:PySem.Addr} {a2:PySem.Addr} {a3:PySem.Addr} {a4:PySem.Addr} {a5:PySem.Addr} {a6:PySem.Addr} {a7:PySem.Addr} {a8:PySem.Addr} {a9:PySem.Addr}:a0<a1∧a2<a1∧a3<a1∧a4<a1∧a5<a1∧a6<a1∧a7<a1∧a8<a1∧a9<a1∧a10<a1∧162<a1∧169<a1→a10<a1:=eq_1 [a10,a1,a0,a2,a3,a4,a5,a6,a7,a8,a9] [] (zt x0 x1) [.k (zt x2 x1) (.k (zt x3 x1) (.k (zt x4 x1) (.k (zt x5 x1) (.k (zt x6 x1) (.k (zt (.v 7) x1) (.k (zt (.v 8) x1) (.k (zt (.v 9) x1) (.k (zt (.v 10) x1) (.k (zt x0 x1) (.k (zt (.n 162) x1) (zt (.n 169) x1)))))))))))] (by kernel_rfl)
theorem eq_1020 {a0:PySem.Addr} {a1:PySem.Addr}:a0=a1→a0<a1→False:=eq_1 [a0,a1] [] .f [.e x0 x1,zt x0 x1] (by kernel_rfl)
theorem eq_852 {a0:PySem.Addr} {a10:PySem.Addr} {a1:PySem.Addr} {a2:PySem.Addr} {a3:PySem.Addr} {a4:PySem.Addr} {a5:PySem.Addr} {a6:PySem.Addr} {a7:PySem.Addr} {a8:PySem.Addr} {a9:PySem.Addr}:a0<a1∧a2<a1∧a3<a1∧a4<a1∧a5<a1∧a6<a1∧a7<a1∧a8<a1∧a9<a1∧a10<a1∧162<a1∧169<a1→a8<a1:=eq_1 [a8,a1,a0,a2,a3,a4,a5,a6,a7,a9,a10] [] (zt x0 x1) [.k (zt x2 x1) (.k (zt x3 x1) (.k (zt x4 x1) (.k (zt x5 x1) (.k (zt x6 x1) (.k (zt (.v 7) x1) (.k (zt (.v 8) x1) (.k (zt x0 x1) (.k (zt (.v 9) x1) (.k (zt (.v 10) x1) (.k (zt (.n 162) x1) (zt (.n 169) x1)))))))))))] (by kernel_rfl)
theorem eq_939:a0≤1000000→0+a0≤16777216:=eq_1 [a0] [] (.l (.a (.n 0) x0) (.n 16777216)) [.l x0 (.n 1000000)] (by kernel_rfl)
theorem eq_794 {a0:PySem.Addr} {a1:PySem.Addr} {a2:PySem.Addr}:a0<a1→a1<a2→a0=a2→False:=eq_1 [a0,a1,a2] [] .f [zt x0 x1,zt x1 x2,.e x0 x2] (by kernel_rfl)
theorem eq_108 {a0:PySem.Addr} {a10:PySem.Addr} {a11:PySem.Addr} {a12:PySem.Addr} {a1:PySem.Addr} {a2:PySem.Addr} {a3:PySem.Addr} {a4:PySem.Addr} {a5:PySem.Addr} {a6:PySem.Addr} {a7:PySem.Addr} {a8:PySem.Addr} {a9:PySem.Addr}:a0<a1→a1<a2→a3=a2→a4<a0∧a5<a0∧a6<a0∧a7<a0∧a3<a0∧a8<a0∧a9<a0∧a10<a0∧a11<a0∧a12<a0∧162<a0∧169<a0→False:=eq_1 [a4,a0,a5,a6,a7,a3,a8,a9,a10,a11,a12,a1,a2] [] .f [zt x1 (.v 11),zt (.v 11) (.v 12),.e x5 (.v 12),.k (zt x0 x1) (.k (zt x2 x1) (.k (zt x3 x1) (.k (zt x4 x1) (.k (zt x5 x1) (.k (zt x6 x1) (.k (zt (.v 7) x1) (.k (zt (.v 8) x1) (.k (zt (.v 9) x1) (.k (zt (.v 10) x1) (.k (zt (.n 162) x1) (zt (.n 169) x1)))))))))))] (by kernel_rfl)
theorem eq_999:a0≤6000→min a1 a0≤6000:=eq_1 [a1,a0,min a1 a0] [] (.l x2 (.n 6000)) [.k (.l x2 x0) (.l x2 x1),.l x1 (.n 6000)] (by kernel_rfl) (eq_13 a1 a0)
theorem eq_927 {a0:PySem.Addr} {a10:PySem.Addr} {a1:PySem.Addr} {a2:PySem.Addr} {a3:PySem.Addr} {a4:PySem.Addr} {a5:PySem.Addr} {a6:PySem.Addr} {a7:PySem.Addr} {a8:PySem.Addr} {a9:PySem.Addr}:a0<a1∧a2<a1∧a3<a1∧a4<a1∧a5<a1∧a6<a1∧a7<a1∧a8<a1∧a9<a1∧a10<a1∧162<a1∧169<a1→a7<a1:=eq_1 [a7,a1,a0,a2,a3,a4,a5,a6,a8,a9,a10] [] (zt x0 x1) [.k (zt x2 x1) (.k (zt x3 x1) (.k (zt x4 x1) (.k (zt x5 x1) (.k (zt x6 x1) (.k (zt (.v 7) x1) (.k (zt x0 x1) (.k (zt (.v 8) x1) (.k (zt (.v 9) x1) (.k (zt (.v 10) x1) (.k (zt (.n 162) x1) (zt (.n 169) x1)))))))))))] (by kernel_rfl)
theorem eq_723 {a0:PySem.Addr} {a1:PySem.Addr} {a2:PySem.Addr}:a0=a1→a0<a2→a2<a1→False:=eq_1 [a0,a1,a2] [] .f [.e x0 x1,zt x0 x2,zt x2 x1] (by kernel_rfl)
theorem eq_124 {a0:PySem.Addr} {a10:PySem.Addr} {a11:PySem.Addr} {a12:PySem.Addr} {a1:PySem.Addr} {a2:PySem.Addr} {a3:PySem.Addr} {a4:PySem.Addr} {a5:PySem.Addr} {a6:PySem.Addr} {a7:PySem.Addr} {a8:PySem.Addr} {a9:PySem.Addr}:a0<a1→a1<a2→a3=a2→a4<a0∧a5<a0∧a3<a0∧a6<a0∧a7<a0∧a8<a0∧a9<a0∧a10<a0∧a11<a0∧a12<a0∧162<a0∧169<a0→False:=eq_1 [a4,a0,a5,a3,a6,a7,a8,a9,a10,a11,a12,a1,a2] [] .f [zt x1 (.v 11),zt (.v 11) (.v 12),.e x3 (.v 12),.k (zt x0 x1) (.k (zt x2 x1) (.k (zt x3 x1) (.k (zt x4 x1) (.k (zt x5 x1) (.k (zt x6 x1) (.k (zt (.v 7) x1) (.k (zt (.v 8) x1) (.k (zt (.v 9) x1) (.k (zt (.v 10) x1) (.k (zt (.n 162) x1) (zt (.n 169) x1)))))))))))] (by kernel_rfl)
theorem eq_564:a0+1≤2*(a1+1)+1→a1≤5000→a0≤10002:=eq_1 [a0,a1] [] (.l x0 (.n 10002)) [zt x0 (.a (.m 2 (.a x1 (.n 1))) (.n 1)),.l x1 (.n 5000)] (by kernel_rfl)
theorem eq_1152:a0=a1→a1≤10002→a0≤20000:=eq_1 [a0,a1] [] (.l x0 (.n 20000)) [.e x0 x1,.l x1 (.n 10002)] (by kernel_rfl)
theorem eq_840 {a0:PySem.Addr} {a10:PySem.Addr} {a1:PySem.Addr} {a2:PySem.Addr} {a3:PySem.Addr} {a4:PySem.Addr} {a5:PySem.Addr} {a6:PySem.Addr} {a7:PySem.Addr} {a8:PySem.Addr} {a9:PySem.Addr}:a0<a1∧a2<a1∧a3<a1∧a4<a1∧a5<a1∧a6<a1∧a7<a1∧a8<a1∧a9<a1∧a10<a1∧162<a1∧169<a1→a6<a1:=eq_1 [a6,a1,a0,a2,a3,a4,a5,a7,a8,a9,a10] [] (zt x0 x1) [.k (zt x2 x1) (.k (zt x3 x1) (.k (zt x4 x1) (.k (zt x5 x1) (.k (zt x6 x1) (.k (zt x0 x1) (.k (zt (.v 7) x1) (.k (zt (.v 8) x1) (.k (zt (.v 9) x1) (.k (zt (.v 10) x1) (.k (zt (.n 162) x1) (zt (.n 169) x1)))))))))))] (by kernel_rfl)
theorem eq_1018:a0≤a1→a1≤a2→a2≤a3→a3≤5000→a0≤1000000:=eq_1 [a0,a3,a1,a2] [] (.l x0 (.n 1000000)) [.l x0 x2,.l x2 x3,.l x3 x1,.l x1 (.n 5000)] (by kernel_rfl)
theorem eq_934 {a0:PySem.Addr} {a10:PySem.Addr} {a1:PySem.Addr} {a2:PySem.Addr} {a3:PySem.Addr} {a4:PySem.Addr} {a5:PySem.Addr} {a6:PySem.Addr} {a7:PySem.Addr} {a8:PySem.Addr} {a9:PySem.Addr}:a0<a1∧a2<a1∧a3<a1∧a4<a1∧a5<a1∧a6<a1∧a7<a1∧a8<a1∧a9<a1∧a10<a1∧162<a1∧169<a1→a9<a1:=eq_1 [a9,a1,a0,a2,a3,a4,a5,a6,a7,a8,a10] [] (zt x0 x1) [.k (zt x2 x1) (.k (zt x3 x1) (.k (zt x4 x1) (.k (zt x5 x1) (.k (zt x6 x1) (.k (zt (.v 7) x1) (.k (zt (.v 8) x1) (.k (zt (.v 9) x1) (.k (zt x0 x1) (.k (zt (.v 10) x1) (.k (zt (.n 162) x1) (zt (.n 169) x1)))))))))))] (by kernel_rfl)
theorem eq_110 {a0:PySem.Addr} {a10:PySem.Addr} {a11:PySem.Addr} {a1:PySem.Addr} {a2:PySem.Addr} {a3:PySem.Addr} {a4:PySem.Addr} {a5:PySem.Addr} {a6:PySem.Addr} {a7:PySem.Addr} {a8:PySem.Addr} {a9:PySem.Addr}:a0<a1→a1=a2→a3<a0∧a4<a0∧a2<a0∧a5<a0∧a6<a0∧a7<a0∧a8<a0∧a9<a0∧a10<a0∧a11<a0∧162<a0∧169<a0→False:=eq_1 [a3,a0,a4,a2,a5,a6,a7,a8,a9,a10,a11,a1] [] .f [zt x1 (.v 11),.e (.v 11) x3,.k (zt x0 x1) (.k (zt x2 x1) (.k (zt x3 x1) (.k (zt x4 x1) (.k (zt x5 x1) (.k (zt x6 x1) (.k (zt (.v 7) x1) (.k (zt (.v 8) x1) (.k (zt (.v 9) x1) (.k (zt (.v 10) x1) (.k (zt (.n 162) x1) (zt (.n 169) x1)))))))))))] (by kernel_rfl)
theorem eq_690:(a0+1)%2=1→(a0+1+1)%2=0:=eq_1 [a0,(a0+1+1)/2,(a0+1+1)%2,(a0+1)/2,(a0+1)%2] [] (.e x2 (.n 0)) [.k (.e (.a (.m 2 x1) x2) (.a (.a x0 (.n 1)) (.n 1))) (zt x2 (.n 2)),.k (.e (.a (.m 2 x3) x4) (.a x0 (.n 1))) (zt x4 (.n 2)),.e x4 (.n 1)] (by kernel_rfl) (eq_11 (a0+1+1) 2 (by decide)) (eq_11 (a0+1) 2 (by decide))
theorem eq_1220:a0+a1=a2→a2≤5000→a0≤5000:=eq_1 [a0,a2,a1] [] (.l x0 (.n 5000)) [.e (.a x0 x2) x1,.l x1 (.n 5000)] (by kernel_rfl)
theorem eq_700:a0≤20*a1→a1≤139→a0≤5000:=eq_1 [a0,a1] [] (.l x0 (.n 5000)) [.l x0 (.m 20 x1),.l x1 (.n 139)] (by kernel_rfl)
theorem eq_1013:i0<5→i0=5→False:=eq_1 [] [i0] .f [zT x0 (.n 5),.E x0 (.n 5)] (by kernel_rfl)
theorem eq_625:a0≤20*a1→a2≤20→a2+a0≤20*(a1+1):=eq_1 [a2,a0,a1] [] (.l (.a x0 x1) (.m 20 (.a x2 (.n 1)))) [.l x1 (.m 20 x2),.l x0 (.n 20)] (by kernel_rfl)
theorem eq_809:0≤i0→i0<5→i0=0∨i0=1∨i0=2∨i0=3∨i0=4:=eq_1 [] [i0] (.o (.E x0 (.n 0)) (.o (.E x0 (.n 1)) (.o (.E x0 (.n 2)) (.o (.E x0 (.n 3)) (.E x0 (.n 4)))))) [.L (.n 0) x0,zT x0 (.n 5)] (by kernel_rfl)
theorem eq_235:i0<5→i0=6→False:=eq_1 [] [i0] .f [zT x0 (.n 5),.E x0 (.n 6)] (by kernel_rfl)
theorem eq_590:0≤i0∧i0≤5→i0=0∨i0=1∨i0=2∨i0=3∨i0=4∨i0=5:=eq_1 [] [i0] (.o (.E x0 (.n 0)) (.o (.E x0 (.n 1)) (.o (.E x0 (.n 2)) (.o (.E x0 (.n 3)) (.o (.E x0 (.n 4)) (.E x0 (.n 5))))))) [.k (.L (.n 0) x0) (.L x0 (.n 5))] (by kernel_rfl)
theorem eq_1129:a0≤2*a1+1→a1+1≤35*a2→a0+1≤35*(a2*2):=eq_1 [a0,a2,a1] [] (zt x0 (.m 35 (.w x1 2))) [.l x0 (.a (.m 2 x2) (.n 1)),zt x2 (.m 35 x1)] (by kernel_rfl)
theorem eq_974:a0≤a1→a1<a2→a0+(min a1 a2-a0)=a1:=eq_1 [a0,a1,a2,min a1 a2,min a1 a2-a0] [] (.e (.a x0 x4) x1) [.o (.k (.l x1 x2) (.e x3 x1)) (.k (.l x2 x1) (.e x3 x2)),.o (.k (.l x0 x3) (.e (.a x4 x0) x3)) (.k (.l x3 x0) (.e x4 (.n 0))),.l x0 x1,zt x1 x2] (by kernel_rfl) (eq_36 a1 a2) (eq_8 (min a1 a2) a0)
theorem eq_528:a0=a1+1→a0-1=a1:=eq_1 [a0,a1,a0-1] [] (.e x2 x1) [.o (.k (.l (.n 1) x0) (.e (.a x2 (.n 1)) x0)) (.k (.l x0 (.n 1)) (.e x2 (.n 0))),.e x0 (.a x1 (.n 1))] (by kernel_rfl) (eq_8 a0 1)
theorem eq_949:a0≤a1→a1<a2→min (a1+1) a2-a0=min a1 a2-a0+1:=eq_1 [a1,a2,a0,min (a1+1) a2,min (a1+1) a2-a0,min a1 a2,min a1 a2-a0] [] (.e x4 (.a x6 (.n 1))) [.o (.k (zt x0 x1) (.e x3 (.a x0 (.n 1)))) (.k (.l x1 (.a x0 (.n 1))) (.e x3 x1)),.o (.k (.l x2 x3) (.e (.a x4 x2) x3)) (.k (.l x3 x2) (.e x4 (.n 0))),.o (.k (.l x0 x1) (.e x5 x0)) (.k (.l x1 x0) (.e x5 x1)),.o (.k (.l x2 x5) (.e (.a x6 x2) x5)) (.k (.l x5 x2) (.e x6 (.n 0))),.l x2 x0,zt x0 x1] (by kernel_rfl) (eq_36 (a1+1) a2) (eq_8 (min (a1+1) a2) a0) (eq_36 a1 a2) (eq_8 (min a1 a2) a0)
theorem eq_553:0≤i0∧i0≤6→i0≠6→0≤i0∧i0≤5:=eq_1 [] [i0] (.k (.L (.n 0) x0) (.L x0 (.n 5))) [.k (.L (.n 0) x0) (.L x0 (.n 6)),.x (.E x0 (.n 6))] (by kernel_rfl)
theorem eq_863:a0+1≤35*a1→a1≤(2 ^ 2)→a0≤139:=eq_1 [a0,a1] [] (.l x0 (.n 139)) [zt x0 (.m 35 x1),.l x1 (.n 4)] (by kernel_rfl)
theorem eq_1019:i0=i1∨i0=i2∨i0=5∨i0=6∨i0=6→0≤i1→i1<5→0≤i2→i2<5→0≤i0∧i0≤6:=eq_1 [] [i0,i1,i2] (.k (.L (.n 0) x0) (.L x0 (.n 6))) [.o (.E x0 x1) (.o (.E x0 x2) (.o (.E x0 (.n 5)) (.o (.E x0 (.n 6)) (.E x0 (.n 6))))),.L (.n 0) x1,zT x1 (.n 5),.L (.n 0) x2,zT x2 (.n 5)] (by kernel_rfl)
theorem eq_859:a0≤a1+1-1→a0≤a1:=eq_1 [a0,a1,a1+1-1] [] (.l x0 x1) [.o (.k (.l (.n 1) (.a x1 (.n 1))) (.e (.a x2 (.n 1)) (.a x1 (.n 1)))) (.k (zt x1 (.n 1)) (.e x2 (.n 0))),.l x0 x2] (by kernel_rfl) (eq_8 (a1+1) 1)
theorem eq_754:a0≤a1→a1≤a2+2→a2≤5000→a0≤100000:=eq_1 [a0,a2,a1] [] (.l x0 (.n 100000)) [.l x0 x2,.l x2 (.a x1 (.n 2)),.l x1 (.n 5000)] (by kernel_rfl)
theorem eq_1151:i0<18→(Int.toNat i0:Nat)<18:=eq_1 [Int.toNat i0] [i0] (zt x0 (.n 18)) [.o (.k (.L (.n 0) x0) (.E (.c x0) x0)) (.k (.L x0 (.n 0)) (.e x0 (.n 0))),zT x0 (.n 18)] (by kernel_rfl) (eq_21 i0)
theorem eq_1124:a0=a1+a2+a3→a0≤5000→a3≤5000:=eq_1 [a3,a0,a1,a2] [] (.l x0 (.n 5000)) [.e x1 (.a (.a x2 x3) x0),.l x1 (.n 5000)] (by kernel_rfl)
theorem eq_583:a0≤2*(a1+1)+1→2*a2=a0+1→a2≤a1+2:=eq_1 [a2,a1,a0] [] (.l x0 (.a x1 (.n 2))) [.l x2 (.a (.m 2 (.a x1 (.n 1))) (.n 1)),.e (.m 2 x0) (.a x2 (.n 1))] (by kernel_rfl)
theorem eq_1234:a0≤4*a1→a1≤8→a0+1+(0+1)+1≤35*1:=eq_1 [a0,a1] [] (zt (.a (.a x0 (.n 1)) (.a (.n 0) (.n 1))) (.m 35 (.n 1))) [.l x0 (.m 4 x1),.l x1 (.n 8)] (by kernel_rfl)
theorem eq_463:min 0 a0-0=0:=eq_1 [a0,min 0 a0,min 0 a0-0] [] (.e x2 (.n 0)) [.k (.l x1 (.n 0)) (.l x1 x0),.k (.l x1 (.a x2 (.n 0))) (.l x2 x1)] (by kernel_rfl) (eq_13 0 a0) (eq_10 (min 0 a0) 0)
theorem eq_1041:a0=a1+a2→0<a2→0<a3+a0:=eq_1 [a3,a0,a2,a1] [] (zt (.n 0) (.a x0 x1)) [.e x1 (.a x3 x2),zt (.n 0) x2] (by kernel_rfl)
theorem eq_844:5-a0≤(Min.min 5 5)-a0:=eq_1 [a0,5-a0,(Min.min 5 5)-a0] [] (.l x1 x2) [.o (.k (.l x0 (.n 5)) (.e (.a x1 x0) (.n 5))) (.k (.l (.n 5) x0) (.e x1 (.n 0))),.k (.l (.n 5) (.a x2 x0)) (.l x2 (.n 5))] (by kernel_rfl) (eq_8 5 a0) (eq_10 (Min.min 5 5) a0)
theorem eq_848:a0+a1=a2+a3→a4+a2+a3=a4+a0+a1:=eq_1 [a4,a2,a3,a0,a1] [] (.e (.a (.a x0 x1) x2) (.a (.a x0 x3) x4)) [.e (.a x3 x4) (.a x1 x2)] (by kernel_rfl)
theorem eq_472:a0+a1=a2→a2≤a3→a3≤5000→a1≤5000:=eq_1 [a1,a3,a0,a2] [] (.l x0 (.n 5000)) [.e (.a x2 x0) x3,.l x3 x1,.l x1 (.n 5000)] (by kernel_rfl)
theorem eq_719:a0%2=1→(a0+1)%2=0:=eq_1 [a0,(a0+1)/2,(a0+1)%2,a0/2,a0%2] [] (.e x2 (.n 0)) [.k (.e (.a (.m 2 x1) x2) (.a x0 (.n 1))) (zt x2 (.n 2)),.k (.e (.a (.m 2 x3) x4) x0) (zt x4 (.n 2)),.e x4 (.n 1)] (by kernel_rfl) (eq_11 (a0+1) 2 (by decide)) (eq_11 a0 2 (by decide))
theorem eq_1187:a0=a1+a2+a3→a0≤5000→a1≤200000∧a2≤200000:=eq_1 [a1,a2,a0,a3] [] (.k (.l x0 (.n 200000)) (.l x1 (.n 200000))) [.e x2 (.a (.a x0 x1) x3),.l x2 (.n 5000)] (by kernel_rfl)
theorem eq_915:a0≤a1→a1≤a2+2→a2≤5000→a0≤20000:=eq_1 [a0,a2,a1] [] (.l x0 (.n 20000)) [.l x0 x2,.l x2 (.a x1 (.n 2)),.l x1 (.n 5000)] (by kernel_rfl)
theorem eq_1037:i0<5→(Int.toNat i0:Nat)<5:=eq_1 [Int.toNat i0] [i0] (zt x0 (.n 5)) [.o (.k (.L (.n 0) x0) (.E (.c x0) x0)) (.k (.L x0 (.n 0)) (.e x0 (.n 0))),zT x0 (.n 5)] (by kernel_rfl) (eq_21 i0)
theorem eq_675:a0=a1+a2→a3+a4+a1+a2=a3+a4+a0:=eq_1 [a3,a4,a1,a2,a0] [] (.e (.a (.a (.a x0 x1) x2) x3) (.a (.a x0 x1) x4)) [.e x4 (.a x2 x3)] (by kernel_rfl)
theorem eq_962:a0+a1=a2→a2≤a3→a3≤5000→a4≤a3+2→a5≤a4→a0+a1+(a5+1)≤1000000:=eq_1 [a0,a1,a5,a3,a4,a2] [] (.l (.a (.a x0 x1) (.a x2 (.n 1))) (.n 1000000)) [.e (.a x0 x1) x5,.l x5 x3,.l x3 (.n 5000),.l x4 (.a x3 (.n 2)),.l x2 x4] (by kernel_rfl)
theorem eq_694:a0+100<PySem.recursionLimit→a1≤1→a0+a1+20*3<PySem.recursionLimit:=eq_1 [a0,a1] [] (zt (.a (.a x0 x1) (.m 20 (.n 3))) (.n 1000)) [zt (.a x0 (.n 100)) (.n 1000),.l x1 (.n 1)] (by kernel_rfl)
theorem eq_755 {a0:PySem.Addr} {a1:PySem.Addr}:a0<a1→a0=a1→False:=eq_1 [a0,a1] [] .f [zt x0 x1,.e x0 x1] (by kernel_rfl)
theorem eq_148 {a0:PySem.Addr} {a1:PySem.Addr} {a2:PySem.Addr}:a0<a1→a2<a0→a2=a1→False:=eq_1 [a0,a1,a2] [] .f [zt x0 x1,zt x2 x0,.e x2 x1] (by kernel_rfl)
theorem eq_742:a0+1000<PySem.cLine→a1≤4→a0+a1+200*3<PySem.cLine:=eq_1 [a0,a1] [] (zt (.a (.a x0 x1) (.m 200 (.n 3))) (.n 9900)) [zt (.a x0 (.n 1000)) (.n 9900),.l x1 (.n 4)] (by kernel_rfl)
theorem eq_631:a0<5→(a0:Int)<1000000:=eq_1 [a0] [] (zT (.c x0) (.n 1000000)) [zt x0 (.n 5)] (by kernel_rfl)
theorem eq_901:0+(a0:Int)*1=(a0:Int):=eq_1 [a0] [] (.E (.a (.n 0) (.w (.c x0) 1)) (.c x0)) [] (by kernel_rfl)
theorem eq_627:0+1+1+1+min 5 a0≤16777216:=eq_1 [a0,min 5 a0] [] (.l (.a (.a (.a (.a (.n 0) (.n 1)) (.n 1)) (.n 1)) x1) (.n 16777216)) [.k (.l x1 (.n 5)) (.l x1 x0)] (by kernel_rfl) (eq_13 5 a0)
theorem eq_1029:5-a0≤5:=eq_1 [a0,5-a0] [] (.l x1 (.n 5)) [.k (.l (.n 5) (.a x1 x0)) (.l x1 (.n 5))] (by kernel_rfl) (eq_10 5 a0)
theorem eq_601:4+((a0/3000%24:Nat):Int)=((4+a0/3000%24:Nat):Int):=eq_1 [a0/3000%24] [] (.E (.a (.n 4) (.c x0)) (.c (.a (.n 4) x0))) [] (by kernel_rfl)
theorem eq_1177:(301+1+20*5:Nat)<1000:=eq_1 [] [] (zt (.a (.a (.n 301) (.n 1)) (.m 20 (.n 5))) (.n 1000)) [] (by kernel_rfl)
theorem eq_740:(0:Int)≤1000000:=eq_1 [] [] (.L (.n 0) (.n 1000000)) [] (by kernel_rfl)
theorem eq_683:(6:Int)≤1000000:=eq_1 [] [] (.L (.n 6) (.n 1000000)) [] (by kernel_rfl)
theorem eq_789:0≤i0∧i0≤6→i0<1000000:=eq_1 [] [i0] (zT x0 (.n 1000000)) [.k (.L (.n 0) x0) (.L x0 (.n 6))] (by kernel_rfl)
theorem eq_513:(4+3+200*5:Nat)<9900:=eq_1 [] [] (zt (.a (.a (.n 4) (.n 3)) (.m 200 (.n 5))) (.n 9900)) [] (by kernel_rfl)
theorem eq_832:a0≤4*a1→a1≤8→a0+1+(0+1)≤34:=eq_1 [a0,a1] [] (.l (.a (.a x0 (.n 1)) (.a (.n 0) (.n 1))) (.n 34)) [.l x0 (.m 4 x1),.l x1 (.n 8)] (by kernel_rfl)
theorem eq_570:0≤i0∧i0≤6→i0<5∨i0=5∨i0=6:=eq_1 [] [i0] (.o (zT x0 (.n 5)) (.o (.E x0 (.n 5)) (.E x0 (.n 6)))) [.k (.L (.n 0) x0) (.L x0 (.n 6))] (by kernel_rfl)
theorem eq_1096:(301+1+20*2:Nat)<1000:=eq_1 [] [] (zt (.a (.a (.n 301) (.n 1)) (.m 20 (.n 2))) (.n 1000)) [] (by kernel_rfl)
theorem eq_608:(4+3+200*1:Nat)<9900:=eq_1 [] [] (zt (.a (.a (.n 4) (.n 3)) (.m 200 (.n 1))) (.n 9900)) [] (by kernel_rfl)
theorem eq_1016:min 5 a0≤5:=eq_1 [a0,min 5 a0] [] (.l x1 (.n 5)) [.k (.l x1 (.n 5)) (.l x1 x0)] (by kernel_rfl) (eq_13 5 a0)
theorem eq_614:0≤i0→17096+i0=((Int.toNat (17096+i0):Nat):Int):=eq_1 [Int.toNat (17096+i0)] [i0] (.E (.a (.n 17096) x0) (.c x0)) [.o (.k (.L (.n 0) (.a (.n 17096) x0)) (.E (.c x0) (.a (.n 17096) x0))) (.k (.L (.a (.n 17096) x0) (.n 0)) (.e x0 (.n 0))),.L (.n 0) x0] (by kernel_rfl) (eq_21 (17096+i0))
theorem eq_817:0+1+1+1+min 5 a0≤8:=eq_1 [a0,min 5 a0] [] (.l (.a (.a (.a (.a (.n 0) (.n 1)) (.n 1)) (.n 1)) x1) (.n 8)) [.k (.l x1 (.n 5)) (.l x1 x0)] (by kernel_rfl) (eq_13 5 a0)
theorem eq_907:a0=min 5 a1→a0≤1000000:=eq_1 [a0,a1,min 5 a1] [] (.l x0 (.n 1000000)) [.k (.l x2 (.n 5)) (.l x2 x1),.e x0 x2] (by kernel_rfl) (eq_13 5 a1)
theorem eq_594:(0:Int)≤6:=eq_1 [] [] (.L (.n 0) (.n 6)) [] (by kernel_rfl)
theorem eq_953:(301+1+20*3:Nat)<1000:=eq_1 [] [] (zt (.a (.a (.n 301) (.n 1)) (.m 20 (.n 3))) (.n 1000)) [] (by kernel_rfl)
theorem eq_842:(301+1+20*1:Nat)<1000:=eq_1 [] [] (zt (.a (.a (.n 301) (.n 1)) (.m 20 (.n 1))) (.n 1000)) [] (by kernel_rfl)
theorem eq_532:(4+3+1000:Nat)<9900:=eq_1 [] [] (zt (.a (.a (.n 4) (.n 3)) (.n 1000)) (.n 9900)) [] (by kernel_rfl)
theorem eq_1126:(301+1+100:Nat)<1000:=eq_1 [] [] (zt (.a (.a (.n 301) (.n 1)) (.n 100)) (.n 1000)) [] (by kernel_rfl)
theorem eq_776:0≤i0∧i0≤1000000*(a0:Int)→0≤i1→i1<1000000→0≤i1+i0∧i1+i0≤1000000*((a0+1:Nat):Int):=eq_1 [a0] [i1,i0] (.k (.L (.n 0) (.a x0 x1)) (.L (.a x0 x1) (.m 1000000 (.c (.a x0 (.n 1)))))) [.k (.L (.n 0) x1) (.L x1 (.m 1000000 (.c x0))),.L (.n 0) x0,zT x0 (.n 1000000)] (by kernel_rfl)
theorem eq_576:i0≤1000000*(a0:Int)→a0≤5→(Int.toNat (17096+i0):Nat)≤10000000:=eq_1 [a0,Int.toNat (17096+i0)] [i0] (.l x1 (.n 10000000)) [.o (.k (.L (.n 0) (.a (.n 17096) x0)) (.E (.c x1) (.a (.n 17096) x0))) (.k (.L (.a (.n 17096) x0) (.n 0)) (.e x1 (.n 0))),.L x0 (.m 1000000 (.c x0)),.l x0 (.n 5)] (by kernel_rfl) (eq_21 (17096+i0))
theorem eq_1180:(4+3+200*2:Nat)<9900:=eq_1 [] [] (zt (.a (.a (.n 4) (.n 3)) (.m 200 (.n 2))) (.n 9900)) [] (by kernel_rfl)
theorem eq_784:(4+3+200*3:Nat)<9900:=eq_1 [] [] (zt (.a (.a (.n 4) (.n 3)) (.m 200 (.n 3))) (.n 9900)) [] (by kernel_rfl)
theorem eq_1147:0+1+1+1+min 5 a0≤1000:=eq_1 [a0,min 5 a0] [] (.l (.a (.a (.a (.a (.n 0) (.n 1)) (.n 1)) (.n 1)) x1) (.n 1000)) [.k (.l x1 (.n 5)) (.l x1 x0)] (by kernel_rfl) (eq_13 5 a0)
theorem eq_473:a0≤5000→a1≤139→a0+a1≤1000000:=eq_1 [a0,a1] [] (.l (.a x0 x1) (.n 1000000)) [.l x0 (.n 5000),.l x1 (.n 139)] (by kernel_rfl)
theorem eq_1106 {a0:PySem.Addr}:169=a0+1→169<a0→False:=eq_1 [a0] [] .f [.e (.n 169) (.a x0 (.n 1)),zt (.n 169) x0] (by kernel_rfl)
theorem eq_698 {a0:PySem.Addr}:162=a0+1→162<a0→False:=eq_1 [a0] [] .f [.e (.n 162) (.a x0 (.n 1)),zt (.n 162) x0] (by kernel_rfl)
theorem eq_460:a0+a1≤0+1010+800*650→a0+1≤530000:=eq_1 [a0,a1] [] (zt x0 (.n 530000)) [.l (.a x0 x1) (.a (.a (.n 0) (.n 1010)) (.m 800 (.n 650)))] (by kernel_rfl)
theorem eq_1117:a0≤530000→12+(1+(2170+(a0+(1300+2))))+(600000-(12+(1+(2170+(a0+(1300+2))))))=600000:=eq_1 [a0,600000-(12+(1+(2170+(a0+(1300+2)))))] [] (.e (.a (.a (.n 12) (.a (.n 1) (.a (.n 2170) (.a x0 (.a (.n 1300) (.n 2)))))) x1) (.n 600000)) [.o (.k (.l (.a (.n 12) (.a (.n 1) (.a (.n 2170) (.a x0 (.a (.n 1300) (.n 2)))))) (.n 600000)) (.e (.a x1 (.a (.n 12) (.a (.n 1) (.a (.n 2170) (.a x0 (.a (.n 1300) (.n 2))))))) (.n 600000))) (.k (.l (.n 600000) (.a (.n 12) (.a (.n 1) (.a (.n 2170) (.a x0 (.a (.n 1300) (.n 2))))))) (.e x1 (.n 0))),.l x0 (.n 530000)] (by kernel_rfl) (eq_8 600000 (12+(1+(2170+(a0+(1300+2))))))
theorem eq_1218:¬(((63:Nat):Int)<(a0:Int))→a0≤63:=eq_1 [a0] [] (.l x0 (.n 63)) [.x (zT (.c (.n 63)) (.c x0))] (by kernel_rfl)
theorem eq_116:a0≤a1+1→0<a2→a2+a3=a4→a5+a4=a0→a3≤a1:=eq_1 [a3,a1,a0,a2,a4,a5] [] (.l x0 x1) [.l x2 (.a x1 (.n 1)),zt (.n 0) x3,.e (.a x3 x0) x4,.e (.a x5 x4) x2] (by kernel_rfl)
theorem eq_185:a0≤a1→a1<a2→p0∧a2-a0<a3∧a2-a0≤a4→a4=a4-1+1:=fun h0 h1 h2=>eq_1 [a4,a0,a2,a3,a1,a4-1,a2-a0] [] (.e x0 (.a x5 (.n 1))) [.o (.k (.l (.n 1) x0) (.e (.a x5 (.n 1)) x0)) (.k (.l x0 (.n 1)) (.e x5 (.n 0))),.k (.l x2 (.a x6 x1)) (.l x6 x2),.l x1 x4,zt x4 x2,.k (zt x6 x3) (.l x6 x0)] (by kernel_rfl) (eq_8 a4 1) (eq_10 a2 a0) h0 h1 h2.2
theorem eq_121:0≤i0→i0<5→i1=i0∨i1=i2∨i1=5∨i1=6∨i1=6→0≤i2→i2<5→0≤i1∧i1≤6:=eq_1 [] [i1,i0,i2] (.k (.L (.n 0) x0) (.L x0 (.n 6))) [.L (.n 0) x1,zT x1 (.n 5),.o (.E x0 x1) (.o (.E x0 x2) (.o (.E x0 (.n 5)) (.o (.E x0 (.n 6)) (.E x0 (.n 6))))),.L (.n 0) x2,zT x2 (.n 5)] (by kernel_rfl)
end


end
open PySem PySem.W PySem.Spec PySem.Calls PyProof.Rows
section
set_option maxHeartbeats 4000000
noncomputable abbrev pS:Program:=PySem.Challenge.rw_xo0041_01.row.prog
theorem eq_716:sreFenced pS.main=true:=by
 rw [PySem.W.Fast.te11788848310118352699]
 kernel_rfl
theorem eq_875:((moduleNames pS.main.body).isEmpty||lookedIntoSs (moduleNames pS.main.body) pS.main.body)=true:=by
 rw [PySem.W.Fast.te12862048085361865435]
 kernel_rfl
theorem eq_591:namesResolve pS=true:=by
 rw [PySem.W.Fast.te8377067652309620493]
 kernel_rfl
theorem eq_918:pS.boundNames.all (fun n=>!worldNames.contains n)=true:=by
 rw [PySem.W.Fast.te14412699480532031325]
 kernel_rfl
theorem eq_455:noRoadLSs { strict:=!(importedModules pS.main.body).all cThrough.contains,foot:=none,bare:=(["vars","dir","locals"]:List Str).filter (readsOut pS pS.main.body) } pS.main.body=true:=by
 rw [PySem.W.Fast.te8326940854005059898,PySem.W.Fast.te13343964577679436407]
 kernel_rfl
theorem eq_813:namesMeet pS pS.main.body (fun _ n=>attrL n)=true:=by
 rw [PySem.W.Fast.te17119622794617984870,PySem.W.Fast.te17868728402115742887]
 kernel_rfl
theorem eq_948:looksOpen pS=true:=look_both (look_both (look_both (look_both (look_both eq_716 eq_875) eq_591) eq_918) eq_455) eq_813
theorem eq_447:PySem.Challenge.rw_xo0041_01.row.wellSaid=true:=by
 unfold OpenRow.wellSaid OpenRow.partSaid
 rw [eq_948]
 kernel_rfl
theorem eq_876:PySem.Challenge.rw_xo0041_01.wellSaid=true:=by
 unfold OpenLaw.wellSaid
 rw [eq_447]
 kernel_rfl


end
section
open PySem PySem.W PyProof.Rows
theorem eq_1327:True:=by
 k_with "g0"=>skip
 k_with "keq_rows"=>((fail_if_success (k_extra "g0";clear offG));first|with_reducible assumption|dl_mem|exact Nat.le_of_ble_eq_true rfl|decide|omega)
 k_with "g1"=>skip
 k_with "dl_mem"=>((fail_if_success (k_extra "g1";clear offG));first|(with_reducible first|apply eq_887|apply eq_502|(apply eq_911<;>assumption)|fail)|fail)
 trivial
noncomputable abbrev Q38:Option Value:=some (.ref 6)
section
variable {p:Program} {w:World} {n₀:Nat}
theorem eq_89:∀ {m n:Nat} {s s' s'':Shared} {t t' t'':Thread},segGo treeTable p w n₀ Q38 1 m s t=some (s',t')→segGo treeTable p w n₀ Q38 1 n s' t'=some (s'',t'')→
  segGo treeTable p w n₀ Q38 1 (m+n) s t=some (s'',t'')
 |0,n,s,s',s'',t,t',t'',h,k=>by
  obtain ⟨rfl,rfl⟩:s=s'∧t=t':=by simpa [segGo] using h
  rw [Nat.zero_add];exact k
 |m+1,n,s,s',s'',t,t',t'',h,k=>by
  rw [show m+1+n=m+n+1 by keq_rows]
  unfold segGo at h ⊢
  cases he:endAt 1 t with
  |some x=>rw [he] at h;cases h
  |none=>
   rw [he] at h
   cases hk:stepOk n₀ Q38 t with
   |false=>rw [hk] at h;cases h
   |true=>
    rw [hk] at h
    cases hs:step (denote treeTable) p w s t with
    |halt o s₂=>rw [hs] at h;cases h
    |go s₂ t₂=>rw [hs] at h;exact eq_89 h k
theorem eq_414 {s s':Shared} {t t':Thread} (he:endAt 1 t=none) (hk:stepOk n₀ Q38 t=true) (hs:step (denote treeTable) p w s t= .go s' t'):
  segGo treeTable p w n₀ Q38 1 1 s t=some (s',t'):=by
 unfold segGo
 rw [he,hk,hs]
 rfl
noncomputable def Q4a (p:Program) (w:World) (n₀:Nat) (c:Code) (s:Shared) (r:Result) (s':Shared):Prop:=
 ∀ (kk:Result→Sem Fin) (h:Option Value) (g:Bool) (l:List Value) (cd:Code) (q:Pos) (kept:List Value) (b:Frame) (B:List Frame) (pos:Pos),
  ∃ n,n≤8∧segGo treeTable p w n₀ Q38 1 n s ⟨denote treeTable c,c,pos,.ret kk h g l cd q kept::b::B⟩=some (s',⟨kk r,cd,q,b::B⟩)
noncomputable def gp (p:Program) (w:World) (n₀:Nat) {α:Type} (t:Sem α) (Q:α→Shared→Nat→Prop) (s:Shared) (c:Nat):Prop:=
 ∀ (K:α→Sem Fin) (H:Value→Sem Fin) (gd:Bool→Bool) (lv:List Value→List Value) (cd:Code) (pos:Pos) (b:Frame) (B:List Frame),
  ∃ n a s' pos' c',Q a s' c'∧n+c'≤c∧segGo treeTable p w n₀ Q38 1 n s ⟨t.wrap K H gd lv,cd,pos,b::B⟩=some (s',⟨K a,cd,pos',b::B⟩)
theorem eq_1051 {α:Type} (t:Sem α) (Q:α→Shared→Nat→Prop) (s:Shared) (c:Nat) (h:gp p w n₀ t Q s c) (K:α→Sem Fin) (H:Value→Sem Fin) (gd:Bool→Bool) (lv:List Value→List Value) (cd:Code) (pos:Pos) (b:Frame) (B:List Frame):
  ∃ n a s' pos' c',Q a s' c'∧n+c'≤c∧segGo treeTable p w n₀ Q38 1 n s ⟨t.wrap K H gd lv,cd,pos,b::B⟩=some (s',⟨K a,cd,pos',b::B⟩):=h K H gd lv cd pos b B
theorem eq_63 {α:Type} {Q:α→Shared→Nat→Prop} (t:Sem α) (s:Shared) (c d:Nat) (h:gp p w n₀ t Q s c) (hc:c≤d):gp p w n₀ t Q s d:=fun K H gd lv cd pos b B=>
 by obtain ⟨n,a,s',pos',c',q,l,r⟩:=h K H gd lv cd pos b B;exact ⟨n,a,s',pos',c',q,Nat.le_trans l hc,r⟩
theorem eq_383 {α:Type} {Q Q':α→Shared→Nat→Prop} (hQ:∀ a s c,Q a s c→Q' a s c) (t:Sem α) (s:Shared) (c:Nat) (h:gp p w n₀ t Q s c):gp p w n₀ t Q' s c:=fun K H gd lv cd pos b B=>
 by obtain ⟨n,a,s',pos',c',q,l⟩:=h K H gd lv cd pos b B;exact ⟨n,a,s',pos',c',hQ _ _ _ q,l⟩
theorem eq_301 {α β:Type} {t:Sem α} {t':Sem β} {Q:α→Shared→Nat→Prop} {Q':β→Shared→Nat→Prop} {s s':Shared} {c d k:Nat} (h:gp p w n₀ t' Q' s' c) (hk:k+c≤d)
  (x:∀ (K:α→Sem Fin) (H:Value→Sem Fin) (gd:Bool→Bool) (lv:List Value→List Value) (cd:Code) (pos:Pos) (b:Frame) (B:List Frame),∃ K' H' gd' lv' pos' m,m≤k∧segGo treeTable p w n₀ Q38 1 m s ⟨t.wrap K H gd lv,cd,pos,b::B⟩=some (s',⟨t'.wrap K' H' gd' lv',cd,pos',b::B⟩)∧
   ∀ a s'' c',Q' a s'' c'→∀ pos'',∃ n a' s₃ pos₃ c'',Q a' s₃ c''∧n+c''≤c'∧segGo treeTable p w n₀ Q38 1 n s'' ⟨K' a,cd,pos'',b::B⟩=some (s₃,⟨K a',cd,pos₃,b::B⟩)):gp p w n₀ t Q s d:=fun K H gd lv cd pos b B=>by
 obtain ⟨K',H',gd',lv',pos',m,hm,r1,y⟩:=x K H gd lv cd pos b B
 obtain ⟨n,a,s'',pos'',c',q,l,r2⟩:=h K' H' gd' lv' cd pos' b B
 obtain ⟨n',a',s₃,pos₃,c'',q',l',r3⟩:=y a s'' c' q pos''
 exact ⟨m+(n+n'),a',s₃,pos₃,c'',q',Nat.le_trans (by rw [Nat.add_assoc,Nat.add_assoc];exact Nat.add_le_add hm (Nat.le_trans (Nat.add_le_add_left l' n) l)) hk,eq_89 r1 (eq_89 r2 r3)⟩
theorem eq_81 {α:Type} {t t':Sem α} {Q:α→Shared→Nat→Prop} {s s':Shared} {c d k:Nat} (h:gp p w n₀ t' Q s' c) (hk:k+c≤d)
  (x:∀ (K:α→Sem Fin) (H:Value→Sem Fin) (gd:Bool→Bool) (lv:List Value→List Value) (cd:Code) (pos:Pos) (b:Frame) (B:List Frame),∃ H' gd' lv' pos' m,m≤k∧segGo treeTable p w n₀ Q38 1 m s ⟨t.wrap K H gd lv,cd,pos,b::B⟩=some (s',⟨t'.wrap K H' gd' lv',cd,pos',b::B⟩)):gp p w n₀ t Q s d:=
 eq_301 h hk fun K H gd lv cd pos b B=>by obtain ⟨H',gd',lv',pos',m,hm,r⟩:=x K H gd lv cd pos b B;exact ⟨K,H',gd',lv',pos',m,hm,r,fun a s'' c' q pos''=>⟨0,a,s'',pos'',c',q,Nat.le_of_eq (Nat.zero_add _),rfl⟩⟩
theorem eq_1059 {α β:Type} (f:α→Sem β) (Q:β→Shared→Nat→Prop) (m:Sem α) (s:Shared) (c:Nat) (h:gp p w n₀ m (fun a s' c'=>gp p w n₀ (f a) Q s' c') s c):gp p w n₀ (m >>= f) Q s c:=
 eq_301 (k:=0) h (Nat.le_of_eq (Nat.zero_add _)) fun K H gd lv cd pos b B=>⟨fun a=>(f a).wrap K H gd lv,H,gd,lv,pos,0,Nat.le_refl _,by rw [Sem.bind_eq_wrap',Sem.wrap_wrap];rfl,fun a s'' c' q pos''=>q K H gd lv cd pos'' b B⟩
theorem eq_516 {α:Type} (vs:List Value) (Q:α→Shared→Nat→Prop) (m:Sem α) (s:Shared) (c:Nat) (h:gp p w n₀ m Q s c):gp p w n₀ (m.keep vs) Q s c:=
 eq_81 (k:=0) h (Nat.le_of_eq (Nat.zero_add _)) fun K H gd lv cd pos b B=>⟨H,gd,fun l=>lv (vs++l),pos,0,Nat.le_refl _,by rw [Sem.keep_eq_wrap,Sem.wrap_wrap];rfl⟩
theorem eq_403 {α:Type} (x:Value→Sem Unit) (Q:α→Shared→Nat→Prop) (m:Sem α) (s:Shared) (c:Nat) (h:gp p w n₀ m Q s c):gp p w n₀ (m.onRaise x) Q s c:=
 eq_81 (k:=0) h (Nat.le_of_eq (Nat.zero_add _)) fun K H gd lv cd pos b B=>⟨fun e=>((x e).bind fun _=>.raise e).wrap K H gd lv,gd,lv,pos,0,Nat.le_refl _,by rw [Sem.onRaise_eq_wrap,Sem.wrap_wrap];rfl⟩
theorem eq_32 {α β:Type} {k:β→Sem α} {t:Sem α} {x:β} {Q:α→Shared→Nat→Prop} {s s':Shared} {c:Nat} (h:gp p w n₀ (k x) Q s' c)
  (y:∀ (K:α→Sem Fin) (H:Value→Sem Fin) (gd:Bool→Bool) (lv:List Value→List Value) (cd:Code) (pos:Pos) (b:Frame) (B:List Frame),∃ pos',endAt 1 ⟨t.wrap K H gd lv,cd,pos,b::B⟩=none∧stepOk n₀ Q38 ⟨t.wrap K H gd lv,cd,pos,b::B⟩=true∧step (denote treeTable) p w s ⟨t.wrap K H gd lv,cd,pos,b::B⟩= .go s' ⟨(k x).wrap K H gd lv,cd,pos',b::B⟩):gp p w n₀ t Q s (c+1):=
 eq_81 (k:=1) h (Nat.le_of_eq (Nat.add_comm _ _)) fun K H gd lv cd pos b B=>by obtain ⟨pos',e1,e2,e3⟩:=y K H gd lv cd pos b B;exact ⟨H,gd,lv,pos',1,Nat.le_refl _,eq_414 e1 e2 e3⟩
theorem eq_17 {α:Type} {vs:List Value} {m:Sem α} {Q:α→Shared→Nat→Prop} {s:Shared} {c:Nat} (h:gp p w n₀ m Q s c):gp p w n₀ (holding vs m) Q s c:=by
 unfold holding
 split
 ·exact h
 ·exact eq_516 _ _ _ _ _ h
end
section
variable {p:Program} {w:World}
set_option maxRecDepth 100000 in
theorem eq_790 (i:Int) (t:Tok) (hp:Heap) (g:Array GenState) (d:Drawn) (tk:Nat) (os:OsState):
  Q4a p w 28 (.call (.builtin "int.__hash__") ⟨[.int i t],[]⟩) ⟨hp,g,d,tk,os⟩ (.ok (.ret (.int (rawHash i) tk))) ⟨hp,g,d,tk+1,os⟩:=by
 intro kk h gg l cd q kept b B pos
 first
 |exact ⟨3,by decide,by kernel_rfl⟩
 |exact ⟨4,by decide,by kernel_rfl⟩
 |exact ⟨5,by decide,by kernel_rfl⟩
 |exact ⟨6,by decide,by kernel_rfl⟩
 |exact ⟨7,by decide,by kernel_rfl⟩
 |exact ⟨8,by decide,by kernel_rfl⟩
end
section
variable {p:Program} {w:World} {α β:Type} {s:Shared} {c:Nat}
theorem eq_73 {a:α} {Q:α→Shared→Nat→Prop} {d:Nat} (h:Q a s c) (hc:c≤d):gp p w 28 (pure a:Sem α) Q s d:=fun K H gd lv cd pos b B=>⟨0,a,s,pos,c,h,by rw [Nat.zero_add];exact hc,rfl⟩
theorem eq_6 {a:α} {Q:α→Shared→Nat→Prop} (h:Q a s c):gp p w 28 (pure a:Sem α) Q s c:=eq_73 h (Nat.le_refl c)
theorem eq_3 {f:α→Sem β} {Q:β→Shared→Nat→Prop} {m:Sem α} (h:gp p w 28 m (fun a s' c'=>gp p w 28 (f a) Q s' c') s c):gp p w 28 (m >>= f) Q s c:=eq_1059 f Q m s c h
theorem eq_346 {tag:String} {Q:Unit→Shared→Nat→Prop} (h:Q () s c):gp p w 28 (rule tag) Q s (c+1):=eq_32 (k:=.pure) (x:=()) (eq_6 h) fun _ _ _ _ _ _ _ _=>⟨_,(by unfold endAt;cases (List.length _==1)<;>rfl),rfl,rfl⟩
theorem eq_62 {pos:Pos} {Q:Unit→Shared→Nat→Prop} (h:Q () s c):gp p w 28 (standAt pos) Q s (c+1):=eq_32 (k:=.pure) (x:=()) (eq_6 h) fun _ _ _ _ _ _ _ _=>⟨_,(by unfold endAt;cases (List.length _==1)<;>rfl),rfl,rfl⟩
theorem eq_370 {Q:Unit→Shared→Nat→Prop} (h:Q () s c):gp p w 28 point Q s (c+1):=eq_32 (k:=.pure) (x:=()) (eq_6 h) fun _ _ _ _ _ _ _ _=>⟨_,(by unfold endAt;cases (List.length _==1)<;>rfl),rfl,rfl⟩
theorem eq_40 {a:Addr} {o:Obj} {part:Option Value} {Q:Obj→Shared→Nat→Prop} (ho:s.heap.get? a=some o) (h:Q o s c):gp p w 28 (loadPart a part) Q s (c+1):=
 eq_32 (k:=.pure) (x:=o) (eq_6 h) fun K H gd lv cd pos b B=>⟨pos,(by unfold endAt;cases (List.length _==1)<;>rfl),rfl,by
  show step (denote treeTable) p w s ⟨.load a part fun x=>(Sem.pure x).wrap K H gd lv,cd,pos,b::B⟩=_
  simp only [step,ho]⟩
theorem eq_200 {o:Obj} {Q:Addr→Shared→Nat→Prop} (h:Q s.heap.objs.size { s with heap:=s.heap.push o } c):gp p w 28 (.alloc o .pure:Sem Addr) Q s (c+1):=eq_32 (k:=.pure) (x:=s.heap.objs.size) (eq_6 h) fun _ _ _ _ _ _ _ _=>⟨_,(by unfold endAt;cases (List.length _==1)<;>rfl),rfl,rfl⟩
theorem eq_394 {a:Addr} {part:Option Value} {f:Obj→Obj} {Q:Unit→Shared→Nat→Prop} (ho:(s.heap.get? a).isSome=true) (hk:(Nat.ble 28 a||a==mainNs)=true) (h:Q () { s with heap:=s.heap.update a f } c):gp p w 28 (.update a part f .pure:Sem Unit) Q s (c+1):=
 eq_32 (k:=.pure) (x:=()) (eq_6 h) fun K H gd lv cd pos b B=>⟨pos,(by unfold endAt;cases (List.length _==1)<;>rfl),by
  show ((true&&true&&true)&&(Nat.ble 28 a||a==mainNs||a==cStatics||Q38==some (Value.ref a)))=true
  rw [hk];rfl,by
  show step (denote treeTable) p w s ⟨.update a part f fun x=>(Sem.pure x).wrap K H gd lv,cd,pos,b::B⟩=_
  simp only [step,ho,if_true]⟩
theorem eq_595 {cc:Code} {hd:Option Value} {g:Bool} {l:List Value} {k:Result→Sem α} {Q:α→Shared→Nat→Prop} {r:Result} {s':Shared} (hc:Q4a p w 28 cc s r s') (h:gp p w 28 (k r) Q s' c):gp p w 28 (.call cc hd g l k:Sem α) Q s (c+10):=
 eq_81 (k:=9) h (by keq_rows) fun K H gd lv cd pos b B=>by
  obtain ⟨kept,hs⟩:∃ kept,step (denote treeTable) p w s ⟨.call cc hd (gd g) (lv l) fun x=>(k x).wrap K H gd lv,cd,pos,b::B⟩= .go s ⟨denote treeTable cc,cc,pos,.ret (fun x=>(k x).wrap K H gd lv) hd (gd g) (lv l) cd pos kept::b::B⟩:=⟨_,rfl⟩
  obtain ⟨m,hm8,hm⟩:=hc (fun x=>(k x).wrap K H gd lv) hd (gd g) (lv l) cd pos kept b B pos
  exact ⟨H,gd,lv,pos,1+m,by keq_rows,eq_89 (eq_414 ((by unfold endAt;cases (List.length _==1)<;>rfl)) rfl hs) hm⟩
theorem eq_299 {Q:Setting→Shared→Nat→Prop} (h:Q ⟨p,w.params⟩ s c):gp p w 28 ask Q s (c+1):=eq_32 (k:=.pure) (x:=(⟨p,w.params⟩:Setting)) (eq_6 h) fun _ _ _ _ _ _ _ _=>⟨_,(by unfold endAt;cases (List.length _==1)<;>rfl),rfl,rfl⟩
theorem eq_343 {i:Int} {Q:Value→Shared→Nat→Prop} (h:Q (.int i s.toks) { s with toks:=s.toks+1 } c):gp p w 28 (mkInt i) Q s (c+1):=eq_32 (k:=fun t=>.pure (Value.int i t)) (x:=s.toks) (eq_6 h) fun _ _ _ _ _ _ _ _=>⟨_,(by unfold endAt;cases (List.length _==1)<;>rfl),rfl,rfl⟩
theorem eq_165 {x:Str} {Q:Value→Shared→Nat→Prop} (h:Q (.str x s.toks) { s with toks:=s.toks+1 } c):gp p w 28 (mkText x) Q s (c+1):=eq_32 (k:=fun t=>.pure (Value.str x t)) (x:=s.toks) (eq_6 h) fun _ _ _ _ _ _ _ _=>⟨_,(by unfold endAt;cases (List.length _==1)<;>rfl),rfl,rfl⟩
end


end
section
open PySem PySem.W PyProof.Rows
section
variable {p:Program} {w:World} {α β:Type} {s:Shared} {c:Nat}
theorem eq_1308:True:=by
 k_with "g1"=>have offG:True:=trivial
 k_with "g2"=>skip
 k_with "dl_mem"=>((fail_if_success (k_extra "g2";clear offG));first|(with_reducible first|(apply eq_1164<;>assumption)|(apply eq_843<;>assumption)|apply eq_223|apply eq_521|apply eq_147|(apply eq_444<;>assumption)|apply eq_685|(apply eq_313<;>assumption)|apply eq_316|(apply eq_674<;>assumption)|apply eq_480|apply eq_861|(apply eq_369<;>assumption)|(apply eq_117<;>assumption)|apply eq_507|(apply eq_1169<;>assumption)|apply eq_935|(apply eq_652<;>assumption)|(apply eq_227<;>assumption)|(apply eq_440<;>assumption)|(apply eq_1027<;>assumption)|(apply eq_1178<;>assumption)|apply eq_1171|fail)|fail)
 trivial
theorem eq_204 (i:Int) (t:Tok):specialOf (.int i t) "__hash__"=pure (some (.builtin "int.__hash__")):=by
 show (typeLookup (.type "int") "__hash__")=_
 exact slot_int_hash.lookup
theorem eq_1088 {i:Int} {t:Tok} {refuse:Sem Value} {Q:Option Value→Shared→Nat→Prop} (h:Q (some (.int (rawHash i) s.toks)) { s with toks:=s.toks+1 } c):
  gp p w 28 (callSpecialIfBoundUnlessNone? (.int i t) "__hash__" refuse) Q s (c+30):=by
 obtain ⟨hp,g,d,tk,os⟩:=s
 have hb:bindSpecial (.builtin "int.__hash__") (.int i t)=pure (.builtin "int.__hash__",[.int i t]):=slot_int_hash.bind _
 unfold callSpecialIfBoundUnlessNone?
 refine eq_17 (eq_3 ?_)
 unfold bindSpecialIfBound?
 rw [eq_204]
 refine eq_3 (eq_6 ?_)
 dsimp only
 rw [hb]
 have fin:gp p w 28 (do
    let v ←(call (Value.builtin "int.__hash__") [Value.int i t]:Sem Value)
    return (some v:Option Value)) Q ⟨hp,g,d,tk,os⟩ (c+20):=by
  refine eq_3 ?_
  unfold call runValue run
  refine eq_3 ?_
  exact eq_595 (eq_790 i t hp g d tk os) (eq_6 (eq_6 (eq_73 h (Nat.le_add_right _ _))))
 have fin2:=eq_63 _ _ _ (c+29) fin (by keq_rows)
 refine eq_3 (eq_299 ?_)
 split
 ·refine eq_3 (eq_6 (eq_6 ?_))
  dsimp only
  k_extra "v10"
  exact fin2
 ·show gp p w 28 ((pure (some (Value.builtin "int.__hash__",[Value.int i t])):Sem _)) _ _ _
  refine eq_6 ?_
  dsimp only
  k_extra "v10"
  exact fin2
theorem eq_617 {i:Int} {t:Tok} {Q:Int→Shared→Nat→Prop} (h:Q (hashInt i) { s with toks:=s.toks+1 } c):gp p w 28 (pyHash (.int i t)) Q s (c+30):=by
 have hr:=rawHash_range i
 unfold pyHash pyHashByItsType
 have hv:[Value.int i t].any Value.onHeap=false:=rfl
 refine eq_3 ?_
 rw [cRoomFor,if_neg (by rw [hv];exact Bool.false_ne_true)]
 refine eq_6 (eq_3 ?_)
 rw [eq_204]
 refine eq_6 ?_
 show gp p w 28 (if (some (Value.builtin "int.__hash__")==some Value.none)=true then _ else _) Q _ _
 rw [if_neg (by rw [beq_builtin_none];exact Bool.false_ne_true)]
 refine eq_3 (eq_6 ?_)
 refine eq_3 (eq_1088 ?_)
 dsimp only
 unfold pyHashByItsType.reduced
 rw [if_pos (by rw [Bool.and_eq_true];exact ⟨decide_eq_true hr.1,decide_eq_true hr.2⟩)]
 exact eq_6 h
theorem eq_867 {n:Nat} {f:Nat→Option Int} {h:Int} (hf:∀ i,i<n→f i≠some h):placesWithHash n f h=[]:=by
 unfold placesWithHash
 rw [List.filter_eq_nil_iff]
 intro i hi
 have:=hf i (List.mem_range.mp hi)
 simpa using this
theorem eq_264 {d:Addr} {o:Obj} {es:Array DictEntry} {ep:Nat} {i:Int} {t:Tok} {h:Int} {Q:Option Nat→Shared→Nat→Prop} (ho:s.heap.get? d=some o) (hd:o.data= .dict es ep)
  (hno:∀ e∈es,e.hash≠h) (q:Q none s c):gp p w 28 (dictFind d (.int i t) h) Q s (c+1):=by
 have hp:placesWithHash es.size (fun i=>es[i]?.map (·.hash)) h=[]:=eq_867 fun j hj e=>by
  rw [Array.getElem?_eq_getElem hj,Option.map_some] at e
  exact hno _ (Array.getElem_mem hj) (Option.some.inj e)
 unfold dictFind
 refine eq_17 (eq_3 ?_)
 unfold dictEntries
 refine eq_3 (eq_40 ho ?_)
 rw [hd]
 refine eq_6 ?_
 dsimp only
 rw [hp]
 rw [if_pos (by rfl)]
 unfold dictWalkPlain
 refine eq_3 ?_
 rw [List.forIn_nil]
 exact eq_6 (eq_6 q)
theorem eq_405 {d:Addr} {o:Obj} {es:Array DictEntry} {ep:Nat} {f:Array DictEntry→Array DictEntry} {part:Option Value} {Q:Unit→Shared→Nat→Prop} (ho:s.heap.get? d=some o) (hd:o.data= .dict es ep) (h28:28≤d)
  (hsz:(f es).size≤sizeLine) (q:Q () { s with heap:=s.heap.update d (Obj.mapDictKeys f) } c):gp p w 28 (updateDictKeys d f part) Q s (c+3):=by
 obtain ⟨cc,dd,dt,sl⟩:=o
 simp only at hd
 subst hd
 unfold updateDictKeys
 refine eq_3 (eq_40 ho ?_)
 refine eq_3 (eq_394 (by rw [ho];rfl) (by simp [h28]) ?_)
 unfold lookBehind
 refine eq_3 (eq_40 (s:={ s with heap:=s.heap.update d (Obj.mapDictKeys f) }) (o:=Obj.mapDictKeys f ⟨cc,dd,.dict es ep,sl⟩) (Heap.get?_update_self _ ho rfl) ?_)
 have e:(Obj.mapDictKeys f ⟨cc,dd,.dict es ep,sl⟩).data.pastItsLine=none:=pastItsLine_dict (by keq_rows:(f es).size≤sizeLine+1)
 rw [e]
 exact eq_6 q
theorem eq_955 {d:Addr} {o:Obj} {es:Array DictEntry} {ep:Nat} {i:Int} {t:Tok} {v:Value} {Q:Unit→Shared→Nat→Prop} (ho:s.heap.get? d=some o) (hd:o.data= .dict es ep) (h28:28≤d)
  (hno:∀ e∈es,e.hash≠hashInt i) (hsz:es.size<sizeLine) (q:Q () { s with heap:=s.heap.update d (Obj.mapDictKeys (·.push ⟨hashInt i,.int i t,v⟩)),toks:=s.toks+1 } c):gp p w 28 (dictSet d (.int i t) v) Q s (c+35):=by
 unfold dictSet
 refine eq_17 (eq_3 (eq_617 ?_))
 unfold dictSetHashed
 refine eq_17 (eq_3 (eq_264 (s:={ s with toks:=s.toks+1 }) ho hd hno ?_))
 refine eq_3 (eq_346 ?_)
 exact eq_405 (s:={ s with toks:=s.toks+1 }) ho hd h28 (by rw [Array.size_push];keq_rows) q
theorem eq_605 {d:Addr} {o:Obj} {es:Array DictEntry} {ep:Nat} {i:Int} {t:Tok} {h:Int} {v:Value} {Q:Unit→Shared→Nat→Prop} (ho:s.heap.get? d=some o) (hd:o.data= .dict es ep) (h28:28≤d)
  (hno:∀ e∈es,e.hash≠h) (hsz:es.size<sizeLine) (q:Q () { s with heap:=s.heap.update d (Obj.mapDictKeys (·.push ⟨h,.int i t,v⟩)) } c):gp p w 28 (dictPut d h (.int i t) v) Q s (c+4):=by
 unfold dictPut
 refine eq_3 (eq_264 ho hd hno ?_)
 exact eq_405 ho hd h28 (by rw [Array.size_push];keq_rows) q
end
noncomputable def Q13 (b:Heap) (l:List Obj):Heap:=⟨b.objs++l.toArray,b.life⟩
theorem eq_457 (b:Heap) (l:List Obj):(Q13 b l).objs.size=b.objs.size+l.length:=by simp [Q13]
theorem eq_969 (b:Heap) (l:List Obj) (o:Obj):(Q13 b l).push o=Q13 b (l++[o]):=by simp [Q13,Heap.push]
theorem eq_44 {b:Heap} {l:List Obj} {k:Nat} {o:Obj} (h:l[k]?=some o) (hf:o.isFreed=false):(Q13 b l).get? (b.objs.size+k)=some o:=by
 have e:(Q13 b l).objs[b.objs.size+k]?=some o:=by
  simp only [Q13]
  rw [Array.getElem?_append_right (Nat.le_add_right _ _)]
  simpa using h
 unfold Heap.get?
 rw [e]
 obtain ⟨c,d,dt,sl⟩:=o
 cases dt<;>first|rfl|cases hf
theorem eq_482 {b:Heap} {l:List Obj} {a:Nat} (h:a<b.objs.size):(Q13 b l).get? a=b.get? a:=by
 unfold Heap.get?
 rw [show (Q13 b l).objs[a]?=b.objs[a]? from by simp only [Q13];exact Array.getElem?_append_left h]
theorem eq_234 (b:Heap) (l:List Obj) (k:Nat) (f:Obj→Obj):(Q13 b l).update (b.objs.size+k) f=Q13 b (l.modify k f):=by
 unfold Q13 Heap.update
 simp only [Heap.mk.injEq,and_true]
 apply Array.ext_getElem?
 intro i
 rw [Array.getElem?_modify]
 by_cases h:i<b.objs.size
 ·rw [Array.getElem?_append_left h,Array.getElem?_append_left h,if_neg (by keq_rows)]
 ·have h':b.objs.size≤i:=by keq_rows
  rw [Array.getElem?_append_right h',Array.getElem?_append_right h']
  simp only [List.getElem?_toArray,List.getElem?_modify]
  by_cases e:b.objs.size+k=i
  ·subst e;simp
  ·have e':¬ k=i-b.objs.size:=by keq_rows
   rw [if_neg e]
   cases l[i-b.objs.size]?<;>simp [e']
noncomputable def Q1c (es:List DictEntry) (n:Nat):Obj:=⟨.type "dict",none,.dict es.toArray n, #[]⟩
noncomputable def Qw:List (Int×Str)→Nat→List DictEntry
 |[],_=>[]
 |x::r,t=>⟨hashInt x.1,.int x.1 t,.str x.2 (t+1)⟩::Qw r (t+3)
noncomputable def Q17:List (Int×Str)→Nat→List DictEntry
 |[],_=>[]
 |x::r,t=>⟨hashInt x.1,.int x.1 t,.str x.2 (t+1)⟩::Q17 r (t+2)
noncomputable def item (pos:Pos) (x:Int×Str):Sem Value×Sem Value:=(mkInt x.1,do let v ←mkText x.2;standAt pos;pure v)
theorem eq_153:∀ (l:List (Int×Str)) (t:Nat),(Qw l t).map (·.hash)=l.map fun x=>hashInt x.1
 |[],_=>rfl
 |x::r,t=>by simp [Qw,eq_153 r]
theorem eq_210:∀ (l:List (Int×Str)) (t:Nat),(Q17 l t).map (·.hash)=l.map fun x=>hashInt x.1
 |[],_=>rfl
 |x::r,t=>by simp [Q17,eq_210 r]
theorem eq_38:∀ (l:List (Int×Str)) (t:Nat),(Qw l t).length=l.length
 |[],_=>rfl
 |x::r,t=>by simp [Qw,eq_38 r]
theorem eq_76:∀ (l:List (Int×Str)) (t:Nat),(Q17 l t).length=l.length
 |[],_=>rfl
 |x::r,t=>by simp [Q17,eq_76 r]
theorem eq_1092 (l:List Obj) (o:Obj) (f:Obj→Obj):(l++[o]).modify l.length f=l++[f o]:=by
 induction l with
 |nil=>rfl
 |cons a r ih=>simpa using ih
section
variable {p:Program} {w:World}
theorem eq_344 {b:Heap} {l:List Obj} {es:List DictEntry} {n:Nat} {e:DictEntry}:(Q13 b (l++[Q1c es n])).update (b.objs.size+l.length) (Obj.mapDictKeys (·.push e))=Q13 b (l++[Q1c (es++[e]) (n+1)]):=by
 rw [eq_234,eq_1092]
 congr 3
 simp [Q1c,Obj.mapDictKeys]
theorem eq_656 {es:List DictEntry} {x:Int×Str} {r:List (Int×Str)} (hnd:(es.map (·.hash)++(x::r).map fun x=>hashInt x.1).Nodup):∀ e∈es.toArray,e.hash≠hashInt x.1:=fun e he q=>by
 rw [List.mem_toArray] at he
 rw [List.nodup_append] at hnd
 exact hnd.2.2 _ (List.mem_map_of_mem he) _ (by simp) q
theorem eq_252 {es:List DictEntry} {e:DictEntry} {x:Int×Str} {r:List (Int×Str)} (he:e.hash=hashInt x.1) (hnd:(es.map (·.hash)++(x::r).map fun x=>hashInt x.1).Nodup):((es++[e]).map (·.hash)++r.map fun x=>hashInt x.1).Nodup:=by
 rw [List.map_append,List.append_assoc]
 simp only [List.map_cons,List.map_nil,he]
 exact hnd
theorem eq_858 (pos:Pos) (b:Heap) (l:List Obj) (hb:28≤b.objs.size):∀ (r:List (Int×Str)) (es:List DictEntry) (n:Nat) (g:Array GenState) (d:Drawn) (tk:Nat) (os:OsState) (c:Nat) (Q:PUnit→Shared→Nat→Prop),
  (es.map (·.hash)++r.map fun x=>hashInt x.1).Nodup→es.length+r.length<1000→
  Q ⟨⟩ ⟨Q13 b (l++[Q1c (es++Qw r tk) (n+r.length)]),g,d,tk+3*r.length,os⟩ c→
  gp p w 28 (forIn (r.map (item pos)) PUnit.unit fun (x:Sem Value×Sem Value) (_:PUnit)=>(do
   let kv ←x.1
   let vv ←holding [kv] x.2
   holding [kv,vv] (dictSet (b.objs.size+l.length) kv vv)
   pure (ForInStep.yield PUnit.unit):Sem (ForInStep PUnit))) Q ⟨Q13 b (l++[Q1c es n]),g,d,tk,os⟩ (c+38*r.length):=by
 intro r
 induction r with
 |nil=>
  intro es n g d tk os c Q _ _ q
  rw [List.map_nil,List.forIn_nil]
  exact eq_6 (by simpa [Qw] using q)
 |cons x r ih=>
  intro es n g d tk os c Q hnd hlen q
  rw [List.map_cons,List.forIn_cons,List.length_cons,show c+38*(r.length+1)=(c+38*r.length)+38 by keq_rows]
  refine eq_3 (eq_3 (eq_343 ?_))
  refine eq_3 (eq_17 (eq_3 (eq_165 (eq_3 (eq_62 (eq_6 ?_))))))
  refine eq_3 (eq_17 ?_)
  have hget:(Q13 b (l++[Q1c es n])).get? (b.objs.size+l.length)=some (Q1c es n):=eq_44 (by simp) rfl
  k_extra "vd"
  show gp p w 28 _ _ (Shared.mk ((Q13 b (l++[Q1c es n])).update _ _) _ _ _ _) _
  rw [eq_344]
  refine eq_6 ?_
  refine ih (es++[⟨hashInt x.1,.int x.1 tk,.str x.2 (tk+1)⟩]) (n+1) g d (tk+3) os c Q (eq_252 rfl hnd) (by simp at hlen ⊢;keq_rows) ?_
  rw [show n+1+r.length=n+(x::r).length by simp;keq_rows,show tk+3+3*r.length=tk+3*(x::r).length by simp;keq_rows,List.append_assoc]
  exact q
theorem eq_286 {pos:Pos} {b:Heap} {l:List Obj} {r:List (Int×Str)} {g:Array GenState} {d:Drawn} {tk:Nat} {os:OsState} {c:Nat} {Q:Addr→Shared→Nat→Prop} (hb:28≤b.objs.size) (h15:¬ r.length≤15) (hl:r.length<1000)
  (hnd:(r.map fun x=>hashInt x.1).Nodup) (q:Q (b.objs.size+l.length) ⟨Q13 b (l++[Q1c (Qw r tk) r.length]),g,d,tk+3*r.length,os⟩ c):
  gp p w 28 (subDict (r.map (item pos))) Q ⟨Q13 b l,g,d,tk,os⟩ (c+38*r.length+2):=by
 unfold subDict
 refine eq_3 (eq_200 ?_)
 show gp p w 28 _ _ (Shared.mk ((Q13 b l).push (Q1c [] 0)) _ _ _ _) _
 k_extra "v1f"
 refine eq_3 (eq_17 ?_)
 rw [if_neg (by rw [List.length_map];exact h15)]
 refine eq_3 (eq_346 ?_)
 refine eq_3 (eq_858 pos b l hb r [] 0 g d tk os c _ (by simpa using hnd) (by simpa using hl) ?_)
 exact eq_6 (eq_6 (by simpa using q))
noncomputable def Q3b:List (Int×Str)→Nat→List (Value×Value)
 |[],_=>[]
 |x::r,t=>(.int x.1 t,.str x.2 (t+1))::Q3b r (t+2)
theorem eq_1121 {pos:Pos}:∀ (r:List (Int×Str)) (h:Heap) (g:Array GenState) (d:Drawn) (tk:Nat) (os:OsState) (c:Nat) (Q:List (Value×Value)→Shared→Nat→Prop),Q (Q3b r tk) ⟨h,g,d,tk+2*r.length,os⟩ c→
  gp p w 28 (evalPairs (r.map (item pos))) Q ⟨h,g,d,tk,os⟩ (c+3*r.length):=by
 intro r
 induction r with
 |nil=>
  intro h g d tk os c Q q
  rw [List.map_nil,evalPairs]
  exact eq_6 (by simpa [Q3b] using q)
 |cons x r ih=>
  intro h g d tk os c Q q
  rw [List.map_cons,List.length_cons,show c+3*(r.length+1)=(c+3*r.length)+3 by keq_rows]
  show gp p w 28 (evalPairs ((mkInt x.1,(do let v ←mkText x.2;standAt pos;pure v))::r.map (item pos))) _ _ _
  rw [evalPairs]
  refine eq_3 (eq_343 ?_)
  refine eq_3 (eq_17 (eq_3 (eq_165 (eq_3 (eq_62 (eq_6 ?_))))))
  refine eq_3 (eq_17 (ih h g d (tk+2) os c _ ?_))
  refine eq_6 ?_
  rw [show tk+2+2*r.length=tk+2*(x::r).length by simp;keq_rows]
  exact q
theorem eq_443 (b:Heap) (l:List Obj) (hb:28≤b.objs.size):∀ (r:List (Int×Str)) (t:Nat) (es:List DictEntry) (n:Nat) (g:Array GenState) (d:Drawn) (tk:Nat) (os:OsState) (c:Nat) (Q:PUnit→Shared→Nat→Prop),
  (es.map (·.hash)++r.map fun x=>hashInt x.1).Nodup→es.length+r.length<1000→
  Q ⟨⟩ ⟨Q13 b (l++[Q1c (es++Q17 r t) (n+r.length)]),g,d,tk+r.length,os⟩ c→
  gp p w 28 (forIn (Q3b r t) PUnit.unit fun (x:Value×Value) (_:PUnit)=>(do
   dictSet (b.objs.size+l.length) x.1 x.2
   pure (ForInStep.yield PUnit.unit):Sem (ForInStep PUnit))) Q ⟨Q13 b (l++[Q1c es n]),g,d,tk,os⟩ (c+35*r.length):=by
 intro r
 induction r with
 |nil=>
  intro t es n g d tk os c Q _ _ q
  rw [Q3b,List.forIn_nil]
  exact eq_6 (by simpa [Q17] using q)
 |cons x r ih=>
  intro t es n g d tk os c Q hnd hlen q
  rw [Q3b,List.forIn_cons,List.length_cons,show c+35*(r.length+1)=(c+35*r.length)+35 by keq_rows]
  refine eq_3 (eq_3 ?_)
  have hget:(Q13 b (l++[Q1c es n])).get? (b.objs.size+l.length)=some (Q1c es n):=eq_44 (by simp) rfl
  k_extra "vd"
  show gp p w 28 _ _ (Shared.mk ((Q13 b (l++[Q1c es n])).update _ _) _ _ _ _) _
  rw [eq_344]
  refine eq_6 ?_
  refine ih (t+2) (es++[⟨hashInt x.1,.int x.1 t,.str x.2 (t+1)⟩]) (n+1) g d (tk+1) os c Q (eq_252 rfl hnd) (by simp at hlen ⊢;keq_rows) ?_
  rw [show n+1+r.length=n+(x::r).length by simp;keq_rows,show tk+1+r.length=tk+(x::r).length by simp;keq_rows,List.append_assoc]
  exact q
theorem eq_1009 {pos:Pos} {b:Heap} {l:List Obj} {r:List (Int×Str)} {g:Array GenState} {d:Drawn} {tk:Nat} {os:OsState} {c:Nat} {Q:Addr→Shared→Nat→Prop} (hb:28≤b.objs.size) (h15:r.length≤15)
  (hnd:(r.map fun x=>hashInt x.1).Nodup) (q:Q (b.objs.size+l.length) ⟨Q13 b (l++[Q1c (Q17 r tk) r.length]),g,d,tk+2*r.length+r.length,os⟩ c):
  gp p w 28 (subDict (r.map (item pos))) Q ⟨Q13 b l,g,d,tk,os⟩ (c+38*r.length+2):=by
 rw [show c+38*r.length+2=(c+1+35*r.length+3*r.length)+1 by keq_rows]
 unfold subDict
 refine eq_3 (eq_200 ?_)
 show gp p w 28 _ _ (Shared.mk ((Q13 b l).push (Q1c [] 0)) _ _ _ _) _
 k_extra "v1f"
 refine eq_3 (eq_17 ?_)
 rw [if_pos (by rw [List.length_map];exact h15)]
 refine eq_3 (eq_1121 r _ g d tk os _ _ ?_)
 refine eq_17 ?_
 refine eq_3 (eq_443 b l hb r tk [] 0 g d _ os _ _ (by simpa using hnd) (by simpa using (by keq_rows:r.length<1000)) ?_)
 exact eq_6 (eq_73 (by simpa using q) (Nat.le_add_right _ _))
theorem eq_226 {α β:Type} {l:List α} (K:Nat) (I:Nat→β→Shared→Prop) {body:α→β→Sem (ForInStep β)} {Q:β→Shared→Nat→Prop} {c:Nat}
  (step:∀ k (hk:k<l.length),∀ x s c,I k x s→gp p w 28 (body l[k] x) (fun r s' c'=>c≤c'∧∃ x',r=ForInStep.yield x'∧I (k+1) x' s') s (c+K))
  (hQ:∀ x s,I l.length x s→∃ c',c'≤c∧Q x s c') (x:β) (s:Shared) (h0:I 0 x s):gp p w 28 (forIn l x body) Q s (c+K*l.length):=by
 have go:∀ (m k:Nat),k+m=l.length→∀ x s,I k x s→gp p w 28 (forIn (l.drop k) x body) Q s (c+K*m):=by
  intro m
  induction m with
  |zero=>
   intro k hk x s hs
   rw [List.drop_eq_nil_of_le (by keq_rows),List.forIn_nil]
   obtain ⟨c',h1,h2⟩:=hQ x s ((show k=l.length by keq_rows)▸hs)
   exact eq_73 h2 (Nat.le_trans h1 (Nat.le_add_right _ _))
  |succ m ih=>
   intro k hk x s hs
   rw [List.drop_eq_getElem_cons (by keq_rows),List.forIn_cons,show c+K*(m+1)=(c+K*m)+K by rw [Nat.mul_succ];keq_rows]
   refine eq_3 (eq_383 (fun r s' c' hr=>?_) _ _ _ (step k (by keq_rows) x s _ hs))
   obtain ⟨hc,x',rfl,h'⟩:=hr
   exact eq_63 _ _ _ _ (ih (k+1) (by keq_rows) x' s' h') hc
 have:=go l.length 0 (by keq_rows) x s h0
 rwa [List.drop_zero] at this
theorem eq_774 {n:Nat} (K:Nat) (I:Nat→Shared→Prop) {body:Nat→PUnit→Sem (ForInStep PUnit)} {Q:PUnit→Shared→Nat→Prop} {c:Nat} (step:∀ k,k<n→∀ s c,I k s→gp p w 28 (body k ⟨⟩) (fun r s' c'=>c≤c'∧r=ForInStep.yield ⟨⟩∧I (k+1) s') s (c+K))
  (hQ:∀ s,I n s→Q ⟨⟩ s c) (s:Shared) (h0:I 0 s):gp p w 28 (forIn (List.range n) PUnit.unit body) Q s (c+K*n):=by
 have:=eq_226 (p:=p) (w:=w) (l:=List.range n) K (fun k (_:PUnit) s=>I k s) (body:=body) (Q:=Q) (c:=c) (fun k hk x s c hs=>eq_383 (Q:=fun r s' c'=>c≤c'∧r=ForInStep.yield ⟨⟩∧I (k+1) s') (fun r s' c' hr=>⟨hr.1,⟨⟩,hr.2.1,hr.2.2⟩) _ _ _ (by rw [List.getElem_range];exact step k (by simpa using hk) s c hs))
  (fun x s hs=>⟨c,Nat.le_refl c,hQ s (by simpa using hs)⟩) ⟨⟩ s h0
 rwa [List.length_range] at this
theorem eq_426 {a:Addr} {o:Obj} {Q:Value→Shared→Nat→Prop} {s:Shared} {c:Nat} (ho:s.heap.get? a=some o) (q:Q o.cls s c):gp p w 28 (typeOf (.ref a)) Q s (c+1):=by
 unfold typeOf
 exact eq_3 (eq_40 ho (eq_6 q))
theorem eq_164 {a:Addr} {o:Obj} {es:Array DictEntry} {ep:Nat} {part:Option Value} {Q:Array DictEntry→Shared→Nat→Prop} {s:Shared} {c:Nat} (ho:s.heap.get? a=some o) (hd:o.data= .dict es ep) (q:Q es s c):gp p w 28 (dictEntries a part) Q s (c+1):=by
 unfold dictEntries
 refine eq_3 (eq_40 ho ?_)
 rw [hd]
 exact eq_6 q
theorem eq_293 {a:Addr} {o:Obj} {es:Array DictEntry} {ep:Nat} {part:Option Value} {Q:Nat→Shared→Nat→Prop} {s:Shared} {c:Nat} (ho:s.heap.get? a=some o) (hd:o.data= .dict es ep) (q:Q ep s c):gp p w 28 (dictEpoch a part) Q s (c+1):=by
 unfold dictEpoch
 refine eq_3 (eq_40 ho ?_)
 rw [hd]
 exact eq_6 q
theorem eq_1205:isSubtype (.type "dict") (.type "dict")=pure true:=by rw [isSubtype_type];kernel_rfl
theorem eq_626:typeLookup (.type "dict") "__iter__"=pure (some (.builtin "dict.__iter__")):=by rw [typeLookup_type,builtinLookup_eq_fast];kernel_rfl
theorem eq_943 {l:List Obj} {i:Nat} {o:Obj} (h:l[i]?=some o) (f:Obj→Obj):l.modify i f=l.set i (f o):=by
 apply List.ext_getElem?
 intro k
 have hl:i<l.length:=(List.getElem?_eq_some_iff.mp h).1
 rw [List.getElem?_modify]
 by_cases e:i=k
 ·subst e
  rw [List.getElem?_set_self hl,h];simp
 ·rw [List.getElem?_set_ne e]
  cases l[k]?<;>simp [e]
theorem eq_1136 {l:List Obj} {i:Nat} {o:Obj} (h:l[i]?=some o):l.set i o=l:=by
 apply List.ext_getElem?
 intro k
 have hl:i<l.length:=(List.getElem?_eq_some_iff.mp h).1
 by_cases e:i=k
 ·subst e
  rw [List.getElem?_set_self hl,h]
 ·rw [List.getElem?_set_ne e]
theorem eq_239 {b:Heap} {l:List Obj} {i j:Nat} {es es':List DictEntry} {n n':Nat} {g:Array GenState} {d:Drawn} {tk:Nat} {os:OsState} {c:Nat} {Q:Unit→Shared→Nat→Prop} (hb:28≤b.objs.size) (hi:l[i]?=some (Q1c es n)) (hj:l[j]?=some (Q1c es' n'))
  (hij:i≠j) (hne:es≠[]) (hnd:((es++es').map (·.hash)).Nodup) (hk:∀ e∈es',∃ i t,e.key= .int i t) (hlen:es.length+es'.length<1000) (q:Q () ⟨Q13 b (l.set i (Q1c (es++es') (n+es'.length))),g,d,tk,os⟩ c):
  gp p w 28 (mergeMapping (b.objs.size+i) (.ref (b.objs.size+j)) false) Q ⟨Q13 b l,g,d,tk,os⟩ (c+6*es'.length+5):=by
 have hgi:(Q13 b l).get? (b.objs.size+i)=some (Q1c es n):=eq_44 hi rfl
 have hgj:(Q13 b l).get? (b.objs.size+j)=some (Q1c es' n'):=eq_44 hj rfl
 unfold mergeMapping
 refine eq_3 ?_
 unfold isInstance
 refine eq_3 (eq_426 hgj ?_)
 show gp p w 28 (isSubtype (.type "dict") (.type "dict")) _ _ _
 rw [eq_1205]
 refine eq_6 ?_
 dsimp only
 rw [if_pos rfl]
 unfold specialOf
 refine eq_3 (eq_3 (eq_426 hgj ?_))
 show gp p w 28 (typeLookup (.type "dict") "__iter__") _ _ _
 rw [eq_626]
 refine eq_6 (eq_3 (eq_6 ?_))
 rw [show (some (Value.builtin "dict.__iter__")==some (Value.builtin "dict.__iter__"))=true from by decide +kernel]
 dsimp only
 rw [if_neg (by
  rw [beq_iff_eq]
  intro e
  have:sysModules=1:=rfl
  rw [this] at e
  have e':b.objs.size+j=1:=e
  keq_rows)]
 refine eq_3 (eq_164 hgi rfl ?_)
 rw [if_neg (by
  rw [show es.toArray.isEmpty=es.isEmpty from by cases es<;>rfl,List.isEmpty_iff]
  exact hne)]
 refine eq_3 (eq_164 hgj rfl ?_)
 refine eq_3 (eq_293 hgj rfl ?_)
 refine eq_3 ?_
 rw [List.size_toArray]
 refine eq_774 6 (fun k s=>s=⟨Q13 b (l.set i (Q1c (es++es'.take k) (n+k))),g,d,tk,os⟩) ?_ ?_ _ ?_
 ·rintro k hkn s c rfl
  have hil:i<l.length:=(List.getElem?_eq_some_iff.mp hi).1
  have hgi':(Q13 b (l.set i (Q1c (es++es'.take k) (n+k)))).get? (b.objs.size+i)=some (Q1c (es++es'.take k) (n+k)):=eq_44 (by rw [List.getElem?_set_self hil]) rfl
  have hgj':(Q13 b (l.set i (Q1c (es++es'.take k) (n+k)))).get? (b.objs.size+j)=some (Q1c es' n'):=eq_44 (by rw [List.getElem?_set_ne hij];exact hj) rfl
  refine eq_3 (eq_164 hgj' rfl ?_)
  have hek:es'.toArray[k]?=some es'[k]:=by simp [hkn]
  rw [hek]
  dsimp only
  obtain ⟨ki,kt,hkey⟩:=hk es'[k] (List.getElem_mem hkn)
  refine eq_3 (eq_17 ?_)
  rw [if_neg Bool.false_ne_true,hkey]
  refine eq_605 hgi' rfl (Nat.le_trans hb (Nat.le_add_right _ _)) (fun e he q=>?_) (by rw [sizeLine_eq,List.size_toArray,List.length_append,List.length_take];keq_rows) ?_
  ·rw [List.mem_toArray] at he
   have hs:es'=es'.take k++es'[k]::es'.drop (k+1):=by rw [←List.drop_eq_getElem_cons hkn,List.take_append_drop]
   rw [hs, ←List.append_assoc,List.map_append,List.nodup_append] at hnd
   exact hnd.2.2 _ (List.mem_map_of_mem he) _ (List.mem_map_of_mem (List.mem_cons_self (a:=es'[k]))) q
  ·show gp p w 28 _ _ (Shared.mk ((Q13 b _).update _ _) _ _ _ _) _
   have hup:(Q13 b (l.set i (Q1c (es++es'.take k) (n+k)))).update (b.objs.size+i) (Obj.mapDictKeys (·.push ⟨es'[k].hash,.int ki kt,es'[k].val⟩))=Q13 b (l.set i (Q1c (es++es'.take (k+1)) (n+(k+1)))):=by
    rw [eq_234]
    congr 1
    rw [eq_943 (List.getElem?_set_self hil),List.set_set]
    congr 1
    have he:(⟨es'[k].hash,.int ki kt,es'[k].val⟩:DictEntry)=es'[k]:=by rw [←hkey]
    rw [he,List.take_add_one,List.getElem?_eq_getElem hkn]
    simp [Q1c,Obj.mapDictKeys,Nat.add_assoc]
   rw [hup]
   have hgj2:(Q13 b (l.set i (Q1c (es++es'.take (k+1)) (n+(k+1))))).get? (b.objs.size+j)=some (Q1c es' n'):=eq_44 (by rw [List.getElem?_set_ne hij];exact hj) rfl
   refine eq_3 (eq_293 hgj2 rfl ?_)
   rw [if_neg (by simp)]
   exact eq_6 ⟨Nat.le_refl _,rfl,rfl⟩
 ·rintro s rfl
  rw [List.take_length]
  exact eq_6 q
 ·show _=_
  congr 2
  rw [List.take_zero,List.append_nil,Nat.add_zero]
  exact (eq_1136 hi).symm
end


end
section
open PySem PySem.W PyProof.Rows
section
variable {p:Program} {w:World}
theorem eq_1347:True:=by
 k_with "g2"=>have offG:True:=trivial
 k_with "g3"=>skip
 k_with "dl_mem"=>((fail_if_success (k_extra "g3";clear offG));first|(with_reducible first|(apply eq_1145<;>assumption)|apply eq_672|(apply eq_975<;>assumption)|(apply eq_458<;>assumption)|apply eq_223|(apply eq_1004<;>assumption)|(apply eq_556<;>assumption)|(apply eq_609<;>assumption)|(apply eq_1227<;>assumption)|(apply eq_1110<;>assumption)|(apply eq_682<;>assumption)|(apply eq_956<;>assumption)|(apply eq_1122<;>assumption)|(apply eq_888<;>assumption)|(apply eq_1063<;>assumption)|(apply eq_596<;>assumption)|(apply eq_1028<;>assumption)|(apply eq_184<;>assumption)|(apply eq_623<;>assumption)|(apply eq_483<;>assumption)|(apply eq_1199<;>assumption)|apply eq_531|(apply eq_517<;>assumption)|(apply eq_769<;>assumption)|apply eq_1089|(apply eq_597<;>assumption)|(apply eq_985<;>assumption)|(apply eq_1012<;>assumption)|(apply eq_895<;>assumption)|(apply eq_889<;>assumption)|(apply eq_965<;>assumption)|(apply eq_1079<;>assumption)|apply eq_1221|apply eq_1165|fail)|(with_reducible apply eq_184;rotate_left;all_goals assumption)|(apply eq_184<;>assumption)|fail)
 trivial
theorem eq_249:∀ (a b:List (Int×Str)) (t:Nat),Qw (a++b) t=Qw a t++Qw b (t+3*a.length)
 |[],b,t=>by simp [Qw]
 |x::a,b,t=>by
  have e:t+3+3*a.length=t+3*(x::a).length:=by simp;keq_rows
  simp only [List.cons_append,Qw,eq_249 a b,e]
theorem eq_1053 (l:List (Int×Str)):∀ (t:Nat),∀ e∈Qw l t,∃ i t,e.key= .int i t:=by
 induction l with
 |nil=>intro t e h;cases h
 |cons x r ih=>
  intro t e h
  rcases List.mem_cons.mp (show e∈_::Qw r (t+3) from h) with rfl|h
  ·exact ⟨_,_,rfl⟩
  ·exact ih _ e h
theorem eq_973 (l:List (Int×Str)):∀ (t:Nat),∀ e∈Q17 l t,∃ i t,e.key= .int i t:=by
 induction l with
 |nil=>intro t e h;cases h
 |cons x r ih=>
  intro t e h
  rcases List.mem_cons.mp (show e∈_::Q17 r (t+2) from h) with rfl|h
  ·exact ⟨_,_,rfl⟩
  ·exact ih _ e h
noncomputable def chunk (kvs:List (Int×Str)) (j:Nat):List (Int×Str):=(kvs.drop (17*j)).take 17
noncomputable def Q9 (kvs:List (Int×Str)) (tk:Nat) (j:Nat):Obj:=Q1c (Qw (chunk kvs j) (tk+51*j)) 17
noncomputable def Q2s (kvs:List (Int×Str)) (tk:Nat) (c:Nat):Obj:=Q1c (Qw (kvs.take (17*c)) tk) (17*c)
noncomputable def Q1i (kvs:List (Int×Str)) (tk:Nat) (c:Nat):List Obj:=(List.range (c-1)).map fun j=>Q9 kvs tk (j+1)
theorem eq_565 (kvs:List (Int×Str)) (tk:Nat) (c:Nat) (h:1≤c):Q1i kvs tk (c+1)=Q1i kvs tk c++[Q9 kvs tk c]:=by
 unfold Q1i
 obtain ⟨d,rfl⟩:∃ d,c=d+1:=⟨c-1,by keq_rows⟩
 simp [List.range_succ]
theorem eq_250 (kvs:List (Int×Str)) (tk:Nat) (c:Nat):(Q1i kvs tk c).length=c-1:=by simp [Q1i]
theorem eq_1101 {pos:Pos} {b:Heap} {kvs:List (Int×Str)} {cc r:Nat} {g:Array GenState} {d:Drawn} {tk:Nat} {os:OsState} {c:Nat} {Q:Value→Shared→Nat→Prop} (hb:28≤b.objs.size) (hlen:kvs.length=17*cc+r) (hc:1≤cc) (hr:1≤r) (hr':r≤15)
  (hmax:kvs.length<1000) (hnd:(kvs.map fun x=>hashInt x.1).Nodup)
  (q:Q (.ref b.objs.size) ⟨Q13 b (Q1c (Qw (kvs.take (17*cc)) tk++Q17 (kvs.drop (17*cc)) (tk+51*cc)) (17*cc+r)::(Q1i kvs tk cc++[Q1c (Q17 (kvs.drop (17*cc)) (tk+51*cc)) r])),g,d,tk+51*cc+3*r,os⟩ c):
  gp p w 28 (dictDisplay ((kvs.map (item pos)).map fun x=>(some x.1,x.2))) Q ⟨b,g,d,tk,os⟩ (c+1000+800*kvs.length):=by
 have mapnd:∀ (x y z:List (Int×Str)),kvs=x++y++z→(y.map fun x=>hashInt x.1).Nodup:=fun x y z e=>by
  rw [e,List.map_append,List.map_append] at hnd
  exact (List.nodup_append.mp (List.nodup_append.mp hnd).1).2.1
 have cut:∀ i j,kvs=kvs.take i++(kvs.drop i).take j++(kvs.drop i).drop j:=fun i j=>by
  rw [List.append_assoc,List.take_append_drop,List.take_append_drop]
 have tk17:∀ c',kvs.take (17*(c'+1))=kvs.take (17*c')++chunk kvs c':=fun c'=>by
  unfold chunk
  rw [show 17*(c'+1)=17*c'+17 by keq_rows,List.take_add]
 unfold dictDisplay
 dsimp only
 refine eq_3 ?_
 rw [show 800*kvs.length=800*((kvs.map (item pos)).map fun x=>(some x.1,x.2)).length by rw [List.length_map,List.length_map]]
 refine eq_226 800 (fun k (x:Option Addr×List (Sem Value×Sem Value)) s=>x.2=((kvs.drop (17*(k / 17))).take (k % 17)).map (item pos)∧
   ((k / 17=0∧x.1=none∧s=⟨b,g,d,tk,os⟩)∨(1≤k / 17∧x.1=some b.objs.size∧s=⟨Q13 b (Q2s kvs tk (k / 17)::Q1i kvs tk (k / 17)),g,d,tk+51*(k / 17),os⟩))) ?_ ?_ _ _ ⟨by simp,.inl ⟨rfl,rfl,rfl⟩⟩
 ·intro k hk x s c hI
  obtain ⟨main,run⟩:=x
  obtain ⟨hrun,hst⟩:=hI
  rw [List.length_map,List.length_map] at hk
  dsimp only at hrun hst ⊢
  subst hrun
  rw [List.getElem_map,List.getElem_map]
  dsimp only
  have happ:((kvs.drop (17*(k / 17))).take (k % 17)).map (item pos)++[((item pos kvs[k]).1,(item pos kvs[k]).2)]=((kvs.drop (17*(k / 17))).take (k % 17+1)).map (item pos):=by
   rw [List.take_add_one,List.map_append]
   congr 1
   rw [List.getElem?_drop,show 17*(k / 17)+k % 17=k by keq_rows,List.getElem?_eq_getElem hk]
   rfl
  rw [happ,List.length_map,List.length_take,List.length_drop,Nat.min_eq_left (by keq_rows)]
  by_cases h16:k % 17=16
  ·rw [if_pos (by rw [h16];rfl)]
   have hk1:(k+1) / 17=k / 17+1:=by keq_rows
   have hk2:(k+1) % 17=0:=by keq_rows
   have hch:(kvs.drop (17*(k / 17))).take (k % 17+1)=chunk kvs (k / 17):=by rw [h16];rfl
   rw [hch]
   have hcl:(chunk kvs (k / 17)).length=17:=by
    unfold chunk
    rw [List.length_take,List.length_drop];keq_rows
   have hcn:((chunk kvs (k / 17)).map fun x=>hashInt x.1).Nodup:=mapnd _ _ _ (cut (17*(k / 17)) 17)
   have hne:((chunk kvs (k / 17)).map (item pos)).isEmpty=false:=by
    rw [List.isEmpty_eq_false_iff]
    intro e
    have:=congrArg List.length e
    rw [List.length_map,hcl] at this
    cases this
   rw [if_neg (by rw [hne];exact Bool.false_ne_true)]
   rcases hst with ⟨h0,rfl,rfl⟩|⟨h1,rfl,rfl⟩
   ·refine eq_3 (eq_3 ?_)
    have hg0:(⟨b,g,d,tk,os⟩:Shared)=⟨Q13 b [],g,d,tk,os⟩:=by
     congr 1
    rw [hg0]
    refine eq_63 _ _ (c+38*(chunk kvs (k / 17)).length+2) _ (eq_286 hb (by rw [hcl];keq_rows) (by keq_rows) hcn ?_) (by keq_rows)
    k_extra "v1b"
    ·rw [hk2];rfl
    ·rw [hk1,hcl,h0]
     congr 1
   ·have hl1:(Q2s kvs tk (k / 17)::Q1i kvs tk (k / 17)).length=k / 17:=by rw [List.length_cons,eq_250];keq_rows
    have hmain:Qw (kvs.take (17*(k / 17+1))) tk=Qw (kvs.take (17*(k / 17))) tk++Qw (chunk kvs (k / 17)) (tk+51*(k / 17)):=by
     rw [tk17,eq_249,List.length_take,Nat.min_eq_left (by keq_rows)]
     congr 2
     keq_rows
    have hml:(Qw (chunk kvs (k / 17)) (tk+51*(k / 17))).length=17:=by rw [eq_38,hcl]
    refine eq_3 (eq_3 (eq_17 (eq_63 _ _ ((c+6*(Qw (chunk kvs (k / 17)) (tk+51*(k / 17))).length+5)+38*(chunk kvs (k / 17)).length+2) _ (eq_286 hb (by rw [hcl];keq_rows) (by keq_rows) hcn ?_) (by keq_rows))))
    refine eq_3 (eq_403 _ _ _ _ _ (eq_17 ?_))
    refine eq_239 (i:=0) (j:=(Q2s kvs tk (k / 17)::Q1i kvs tk (k / 17)).length) (es:=Qw (kvs.take (17*(k / 17))) tk) (n:=17*(k / 17)) (es':=Qw (chunk kvs (k / 17)) (tk+51*(k / 17))) (n':=(chunk kvs (k / 17)).length) hb rfl (by simp) (by rw [hl1];keq_rows) ?_ ?_ (eq_1053 _ _) ?_ ?_
    ·intro e
     have:=congrArg List.length e
     rw [eq_38,List.length_take,List.length_nil] at this
     keq_rows
    ·rw [←hmain,eq_153]
     exact mapnd [] _ _ (by rw [List.nil_append,List.take_append_drop])
    ·rw [eq_38,eq_38,List.length_take,hcl];keq_rows
    ·k_extra "v1b"
     ·rw [hk2];rfl
     ·rw [←hmain,eq_38,hcl,hk1,eq_565 _ _ _ h1]
      congr 1
  ·rw [if_neg (by rw [beq_iff_eq];keq_rows)]
   have hk1:(k+1) / 17=k / 17:=by keq_rows
   have hk2:(k+1) % 17=k % 17+1:=by keq_rows
   refine eq_6 ⟨Nat.le_add_right _ _,_,rfl,?_,?_⟩
   ·rw [hk1,hk2]
   ·rw [hk1];exact hst
 ·intro x s hI
  obtain ⟨main,run⟩:=x
  obtain ⟨hrun,hst⟩:=hI
  rw [List.length_map,List.length_map] at hrun hst
  refine ⟨c+1000,Nat.le_refl _,?_⟩
  dsimp only at hrun hst ⊢
  subst hrun
  have hdiv:kvs.length / 17=cc:=by keq_rows
  have hmod:kvs.length % 17=r:=by keq_rows
  rw [hdiv] at hst
  rw [hdiv,hmod]
  have hrest:(kvs.drop (17*cc)).take r=kvs.drop (17*cc):=List.take_of_length_le (by rw [List.length_drop];keq_rows)
  have hrl:(kvs.drop (17*cc)).length=r:=by rw [List.length_drop];keq_rows
  rw [hrest]
  have hne:((kvs.drop (17*cc)).map (item pos)).isEmpty=false:=by
   rw [List.isEmpty_eq_false_iff]
   intro e
   have:=congrArg List.length e
   rw [List.length_map,hrl] at this
   simp at this;keq_rows
  rw [if_neg (by rw [hne];exact Bool.false_ne_true)]
  rcases hst with ⟨h0,_,_⟩|⟨h1,rfl,rfl⟩
  ·keq_rows
  ·have hl1:(Q2s kvs tk cc::Q1i kvs tk cc).length=cc:=by rw [List.length_cons,eq_250];keq_rows
   have hml:(Q17 (kvs.drop (17*cc)) (tk+51*cc)).length=r:=by rw [eq_76,hrl]
   refine eq_3 (eq_3 (eq_17 (eq_63 _ _ ((c+6*(Q17 (kvs.drop (17*cc)) (tk+51*cc)).length+5)+38*(kvs.drop (17*cc)).length+2) _ (eq_1009 hb (by rw [hrl];exact hr') (mapnd _ _ [] (by rw [List.append_nil,List.take_append_drop])) ?_) (by keq_rows))))
   refine eq_3 (eq_403 _ _ _ _ _ (eq_17 ?_))
   refine eq_239 (i:=0) (j:=(Q2s kvs tk cc::Q1i kvs tk cc).length) (es:=Qw (kvs.take (17*cc)) tk) (n:=17*cc) (es':=Q17 (kvs.drop (17*cc)) (tk+51*cc)) (n':=(kvs.drop (17*cc)).length) hb rfl (by simp) (by rw [hl1];keq_rows) ?_ ?_ (eq_973 _ _) ?_ ?_
   ·intro e
    have:=congrArg List.length e
    rw [eq_38,List.length_take,List.length_nil] at this
    keq_rows
   ·rw [List.map_append,eq_153,eq_210, ←List.map_append,List.take_append_drop]
    exact hnd
   ·rw [eq_38,eq_76,List.length_take,hrl];keq_rows
   ·refine eq_6 (eq_6 ?_)
    show Q (.ref (b.objs.size+0)) _ _
    rw [Nat.add_zero,hrl,eq_76,hrl]
    rw [show tk+51*cc+2*r+r=tk+51*cc+3*r by keq_rows]
    exact q
noncomputable abbrev KV:=(Int×Nat×Pos)×Str×Nat×Pos
noncomputable def kvOf:Option Expr→Expr→KV
 |some (.Constant (.int i) a b),.Constant (.str x) c d=>((i,a,b),x,c,d)
 |_,_=>((0,0,⟨0,0,0,0⟩),⟨#[]⟩,0,⟨0,0,0,0⟩)
noncomputable def keyE (e:KV):Option Expr:=some (.Constant (.int e.1.1) e.1.2.1 e.1.2.2)
noncomputable def valE (e:KV):Expr:=.Constant (.str e.2.1) e.2.2.1 e.2.2.2
theorem eq_429 (env:Env) (pos:Pos):∀ es:List KV,
  (evalEachOpt (es.map keyE) env).zip ((evalEach (es.map valE) env).map fun v=>(do let x ←v;standAt pos;pure x:Sem Value))=((es.map fun e=>(e.1.1,e.2.1)).map (item pos)).map fun x=>(some x.1,x.2)
 |[]=>rfl
 |_::r=>congrArg (List.cons _) (eq_429 env pos r)
theorem eq_1044 {nsA:Addr} {es:Array DictEntry} {n:Nat} {name:Str} {v:Value} {Q:Unit→Shared→Nat→Prop} {s:Shared} {c:Nat} (ho:s.heap.get? nsA=some ⟨.type "dict",none,.dict es n, #[]⟩) (hm:(Nat.ble 28 nsA||nsA==mainNs)=true) (hr:aRefKeyMayBeTheName name es=false)
  (q:Q () { s with heap:=s.heap.update nsA (Obj.putName name (PyData.keyHash w.params name) (.str name s.toks) v),toks:=s.toks+1 } c):gp p w 28 (nsSet nsA name v) Q s (c+4):=by
 unfold nsSet strHash
 refine eq_3 (eq_3 (eq_299 (eq_6 ?_)))
 refine eq_3 (eq_165 ?_)
 refine eq_3 (eq_40 ho ?_)
 dsimp only
 rw [hr,if_neg Bool.false_ne_true]
 refine eq_394 (by show (s.heap.get? nsA).isSome=true;rw [ho];rfl) hm ?_
 unfold PyData.keyHash at q
 exact q
theorem eq_1046 {env:Env} {es:Array DictEntry} {n:Nat} {name:Str} {v:Value} {Q:Unit→Shared→Nat→Prop} {s:Shared} {c:Nat} (hk:env.kindOf name=some .local) (hs:env.scope.kind= .module) (hl:env.locals=mainNs) (hg:env.globals=mainNs)
  (ho:s.heap.get? mainNs=some ⟨.type "dict",none,.dict es n, #[]⟩) (hr:aRefKeyMayBeTheName name es=false)
  (q:Q () { s with heap:=s.heap.update mainNs (Obj.putName name (PyData.keyHash w.params name) (.str name s.toks) v),toks:=s.toks+1 } c):gp p w 28 (storeName env name v) Q s (c+4):=by
 unfold storeName
 rw [hk,if_neg (by simp)]
 dsimp only
 rw [if_neg (by rw [hs,hl,hg];decide),hl]
 exact eq_1044 ho (by rfl) hr q
theorem eq_737 (ks:List (Option Expr)) (vs:List Expr) (dp:Pos) (env:Env):eval (.Dict ks vs dp) env=(do
  standAt dp
  dictDisplay ((evalEachOpt ks env).zip ((evalEach vs env).map fun v=>(do let x ←v;standAt dp;pure x:Sem Value)))):=rfl
theorem eq_792 {env:Env} {name:Str} {np dp pos:Pos} {ks:List (Option Expr)} {vs:List Expr} {xs:List KV} {kvs:List (Int×Str)} {cc r:Nat} {b:Heap} {g:Array GenState} {d:Drawn} {tk:Nat} {os:OsState} {c:Nat} {Q:Flow→Shared→Nat→Prop} {es:Array DictEntry} {n:Nat}
  (hk:env.kindOf name=some .local) (hs:env.scope.kind= .module) (hl:env.locals=mainNs) (hg:env.globals=mainNs) (hks:ks=xs.map keyE) (hvs:vs=xs.map valE) (hkv:(xs.map fun e=>(e.1.1,e.2.1))=kvs)
  (hb:28≤b.objs.size) (hlen:kvs.length=17*cc+r) (hc:1≤cc) (hr:1≤r) (hr':r≤15) (hmax:kvs.length<1000) (hnd:(kvs.map fun x=>hashInt x.1).Nodup)
  (ho:b.get? mainNs=some ⟨.type "dict",none,.dict es n, #[]⟩) (href:aRefKeyMayBeTheName name es=false) (hsw:swapsWith (.Dict ks vs dp) (some (.Name name np)) pos.line env=pure false)
  (q:Q .next ⟨(Q13 b (Q1c (Qw (kvs.take (17*cc)) tk++Q17 (kvs.drop (17*cc)) (tk+51*cc)) (17*cc+r)::(Q1i kvs tk cc++[Q1c (Q17 (kvs.drop (17*cc)) (tk+51*cc)) r]))).update mainNs
   (Obj.putName name (PyData.keyHash w.params name) (.str name (tk+51*cc+3*r)) (.ref b.objs.size)),g,d,tk+51*cc+3*r+1,os⟩ c):
  gp p w 28 (execs [.Assign [.Name name np] (.Dict ks vs dp) pos] env) Q ⟨b,g,d,tk,os⟩ (c+1010+800*kvs.length):=by
 rw [show c+1010+800*kvs.length=(c+8)+1000+800*kvs.length+1+1 by keq_rows,execs_cons,exec_Assign_Name _ _ _ _ _ hsw]
 refine eq_3 (eq_3 (eq_62 ?_))
 refine eq_3 ?_
 rw [eq_737]
 refine eq_3 (eq_62 ?_)
 rw [hks,hvs,eq_429,hkv]
 refine eq_1101 hb hlen hc hr hr' hmax hnd ?_
 refine eq_3 (eq_62 ?_)
 refine eq_3 ?_
 unfold bindName
 refine eq_3 (eq_17 (eq_370 ?_))
 refine eq_3 (eq_1046 (es:=es) (n:=n) hk hs hl hg ?_ href ?_)
 ·exact (eq_482 (Heap.lt_size ho)).trans ho
 ·refine eq_370 (eq_6 ?_)
  exact eq_73 q (Nat.le_add_right _ _)
end


end
section
theorem eq_1302:True:=by
 k_with "g0"=>have offG:True:=trivial
 k_with "g3"=>have offG:True:=trivial
 trivial
noncomputable def Q12 (n:Nat):Stmt:=match PySem.Challenge.pw_xo0041_01.main.body.drop n with|s::_=>s|[]=>.Pass default
noncomputable def Q4m:Stmt→List Stmt
 |.ClassDef _ _ _ b _ _ _ _ _ _ _=>b
 |_=>[]
noncomputable def stM (c k:Nat):Stmt:=match (Q4m (Q12 c)).drop k with|s::_=>s|[]=>.Pass default
noncomputable def Q3g:Stmt→Option (Str×Arguments×List Stmt×Scope)
 |.FunctionDef n a b _ _ _ sc _ _ _=>some (n,a,b,sc)
 |_=>none
noncomputable abbrev fnL (s:Stmt) {name:Str} {params:Arguments} {body:List Stmt} {scope:Scope} (h:Q3g s=some (name,params,body,scope)) (qual:Str) (globals:Addr) (closure:List (Str×Addr)) (defaults kwdefaults doc pyModule:Value) (an:Option Addr) (code closureTuple:Value) (bi:Addr):Data:=
 .func { name,qualname:=qual,params,body:=.stmts body,scope,globals,closure,defaults,kwdefaults,doc,pyModule,annotations:=an,code,closureTuple,builtins:=bi }
noncomputable def fnA (s:Stmt) (qual:Str) (globals:Addr) (closure:List (Str×Addr)) (defaults kwdefaults doc pyModule:Value) (an:Option Addr) (code closureTuple:Value) (bi:Addr):Data:=
 match Q3g s with
 |some (name,params,body,scope)=>.func { name,qualname:=qual,params,body:=.stmts body,scope,globals,closure,defaults,kwdefaults,doc,pyModule,annotations:=an,code,closureTuple,builtins:=bi }
 |none=>.plain
noncomputable def Qr:Stmt→List (Option Expr)×List Expr
 |.Assign _ (.Dict ks vs _) _=>(ks,vs)
 |_=>([],[])
noncomputable def b3es:List KV:=List.zipWith kvOf (Qr (Q12 11)).1 (Qr (Q12 11)).2
noncomputable def Q4:List (Int×Str):=b3es.map fun e=>(e.1.1,e.2.1)
noncomputable def Q36:List DictEntry:=Qw (Q4.take (17*38)) 598++Q17 (Q4.drop (17*38)) (598+51*38)
noncomputable def Q44:Obj:=Q1c Q36 650
noncomputable abbrev dE (P:Params) (s:String) (t:Nat) (v:Value):DictEntry:=⟨PyData.keyHash P (Str.ofString s),.str (Str.ofString s) t,v⟩
noncomputable def o0 (P:Params):Obj:=⟨(.type "dict"),none,(.dict [dE P "__name__" 1 (.str (Str.ofString "builtins") 160),dE P "__doc__" 2 (.builtin "builtins.__doc__:str#opaque"),dE P "__package__" 3 (.builtin "builtins.__package__:str#opaque"),dE P "__loader__" 4 (.builtin "builtins.__loader__:shared#opaque"),dE P "__spec__" 5 (.builtin "builtins.__spec__#opaque"),dE P "__build_class__" 6 (.builtin "__build_class__"),dE P "__import__" 7 (.builtin "__import__"),dE P "abs" 8 (.builtin "abs"),dE P "all" 9 (.builtin "all"),dE P "any" 10 (.builtin "any"),dE P "ascii" 11 (.builtin "ascii"),dE P "bin" 12 (.builtin "bin"),dE P "breakpoint" 13 (.builtin "breakpoint"),dE P "callable" 14 (.builtin "callable"),dE P "chr" 15 (.builtin "chr"),dE P "compile" 16 (.builtin "compile"),dE P "delattr" 17 (.builtin "delattr"),dE P "dir" 18 (.builtin "dir"),dE P "divmod" 19 (.builtin "divmod"),dE P "eval" 20 (.builtin "eval"),dE P "exec" 21 (.builtin "exec"),dE P "format" 22 (.builtin "format"),dE P "getattr" 23 (.builtin "getattr"),dE P "globals" 24 (.builtin "globals"),dE P "hasattr" 25 (.builtin "hasattr"),dE P "hash" 26 (.builtin "hash"),dE P "hex" 27 (.builtin "hex"),dE P "id" 28 (.builtin "id"),dE P "input" 29 (.builtin "input"),dE P "isinstance" 30 (.builtin "isinstance"),dE P "issubclass" 31 (.builtin "issubclass"),dE P "iter" 32 (.builtin "iter"),dE P "aiter" 33 (.builtin "aiter"),dE P "len" 34 (.builtin "len"),dE P "locals" 35 (.builtin "locals"),dE P "max" 36 (.builtin "max"),dE P "min" 37 (.builtin "min"),dE P "next" 38 (.builtin "next"),dE P "anext" 39 (.builtin "anext"),dE P "oct" 40 (.builtin "oct"),dE P "ord" 41 (.builtin "ord"),dE P "pow" 42 (.builtin "pow"),dE P "print" 43 (.builtin "print"),dE P "repr" 44 (.builtin "repr"),dE P "round" 45 (.builtin "round"),dE P "setattr" 46 (.builtin "setattr"),dE P "sorted" 47 (.builtin "sorted"),dE P "sum" 48 (.builtin "sum"),dE P "vars" 49 (.builtin "vars"),dE P "None" 50 (.none),dE P "Ellipsis" 51 (.ellipsis),dE P "NotImplemented" 52 (.notImplemented),dE P "False" 53 (.bool false),dE P "True" 54 (.bool true),dE P "bool" 55 (.type "bool"),dE P "memoryview" 56 (.type "memoryview"),dE P "bytearray" 57 (.type "bytearray"),dE P "bytes" 58 (.type "bytes"),dE P "classmethod" 59 (.type "classmethod"),dE P "complex" 60 (.type "complex"),dE P "dict" 61 (.type "dict"),dE P "enumerate" 62 (.type "enumerate"),dE P "filter" 63 (.type "filter"),dE P "float" 64 (.type "float"),dE P "frozenset" 65 (.type "frozenset"),dE P "property" 66 (.type "property"),dE P "int" 67 (.type "int"),dE P "list" 68 (.type "list"),dE P "map" 69 (.type "map"),dE P "object" 70 (.type "object"),dE P "range" 71 (.type "range"),dE P "reversed" 72 (.type "reversed"),dE P "set" 73 (.type "set"),dE P "slice" 74 (.type "slice"),dE P "staticmethod" 75 (.type "staticmethod"),dE P "str" 76 (.type "str"),dE P "super" 77 (.type "super"),dE P "tuple" 78 (.type "tuple"),dE P "type" 79 (.type "type"),dE P "zip" 80 (.type "zip"),dE P "__debug__" 81 (.bool true),dE P "BaseException" 82 (.type "BaseException"),dE P "BaseExceptionGroup" 83 (.type "BaseExceptionGroup"),dE P "Exception" 84 (.type "Exception"),dE P "GeneratorExit" 85 (.type "GeneratorExit"),dE P "KeyboardInterrupt" 86 (.type "KeyboardInterrupt"),dE P "SystemExit" 87 (.type "SystemExit"),dE P "ArithmeticError" 88 (.type "ArithmeticError"),dE P "AssertionError" 89 (.type "AssertionError"),dE P "AttributeError" 90 (.type "AttributeError"),dE P "BufferError" 91 (.type "BufferError"),dE P "EOFError" 92 (.type "EOFError"),dE P "ImportError" 93 (.type "ImportError"),dE P "LookupError" 94 (.type "LookupError"),dE P "MemoryError" 95 (.type "MemoryError"),dE P "NameError" 96 (.type "NameError"),dE P "OSError" 97 (.type "OSError"),dE P "ReferenceError" 98 (.type "ReferenceError"),dE P "RuntimeError" 99 (.type "RuntimeError"),dE P "StopAsyncIteration" 100 (.type "StopAsyncIteration"),dE P "StopIteration" 101 (.type "StopIteration"),dE P "SyntaxError" 102 (.type "SyntaxError"),dE P "SystemError" 103 (.type "SystemError"),dE P "TypeError" 104 (.type "TypeError"),dE P "ValueError" 105 (.type "ValueError"),dE P "Warning" 106 (.type "Warning"),dE P "FloatingPointError" 107 (.type "FloatingPointError"),dE P "OverflowError" 108 (.type "OverflowError"),dE P "ZeroDivisionError" 109 (.type "ZeroDivisionError"),dE P "BytesWarning" 110 (.type "BytesWarning"),dE P "DeprecationWarning" 111 (.type "DeprecationWarning"),dE P "EncodingWarning" 112 (.type "EncodingWarning"),dE P "FutureWarning" 113 (.type "FutureWarning"),dE P "ImportWarning" 114 (.type "ImportWarning"),dE P "PendingDeprecationWarning" 115 (.type "PendingDeprecationWarning"),dE P "ResourceWarning" 116 (.type "ResourceWarning"),dE P "RuntimeWarning" 117 (.type "RuntimeWarning"),dE P "SyntaxWarning" 118 (.type "SyntaxWarning"),dE P "UnicodeWarning" 119 (.type "UnicodeWarning"),dE P "UserWarning" 120 (.type "UserWarning"),dE P "BlockingIOError" 121 (.type "BlockingIOError"),dE P "ChildProcessError" 122 (.type "ChildProcessError"),dE P "ConnectionError" 123 (.type "ConnectionError"),dE P "FileExistsError" 124 (.type "FileExistsError"),dE P "FileNotFoundError" 125 (.type "FileNotFoundError"),dE P "InterruptedError" 126 (.type "InterruptedError"),dE P "IsADirectoryError" 127 (.type "IsADirectoryError"),dE P "NotADirectoryError" 128 (.type "NotADirectoryError"),dE P "PermissionError" 129 (.type "PermissionError"),dE P "ProcessLookupError" 130 (.type "ProcessLookupError"),dE P "TimeoutError" 131 (.type "TimeoutError"),dE P "IndentationError" 132 (.type "IndentationError"),dE P "_IncompleteInputError" 133 (.type "_IncompleteInputError"),dE P "IndexError" 134 (.type "IndexError"),dE P "KeyError" 135 (.type "KeyError"),dE P "ModuleNotFoundError" 136 (.type "ModuleNotFoundError"),dE P "NotImplementedError" 137 (.type "NotImplementedError"),dE P "PythonFinalizationError" 138 (.type "PythonFinalizationError"),dE P "RecursionError" 139 (.type "RecursionError"),dE P "UnboundLocalError" 140 (.type "UnboundLocalError"),dE P "UnicodeError" 141 (.type "UnicodeError"),dE P "BrokenPipeError" 142 (.type "BrokenPipeError"),dE P "ConnectionAbortedError" 143 (.type "ConnectionAbortedError"),dE P "ConnectionRefusedError" 144 (.type "ConnectionRefusedError"),dE P "ConnectionResetError" 145 (.type "ConnectionResetError"),dE P "TabError" 146 (.type "TabError"),dE P "UnicodeDecodeError" 147 (.type "UnicodeDecodeError"),dE P "UnicodeEncodeError" 148 (.type "UnicodeEncodeError"),dE P "UnicodeTranslateError" 149 (.type "UnicodeTranslateError"),dE P "ExceptionGroup" 150 (.type "ExceptionGroup"),dE P "EnvironmentError" 151 (.type "OSError"),dE P "IOError" 152 (.type "OSError"),dE P "open" 153 (.builtin "open"),dE P "quit" 154 (.builtin "builtins.quit#opaque"),dE P "exit" 155 (.builtin "builtins.exit#opaque"),dE P "copyright" 156 (.builtin "builtins.copyright#opaque"),dE P "credits" 157 (.builtin "builtins.credits#opaque"),dE P "license" 158 (.builtin "builtins.license#opaque"),dE P "help" 159 (.builtin "builtins.help#opaque")].toArray 159), #[]⟩
noncomputable def o1 (P:Params):Obj:=⟨(.type "dict"),none,(.dict [dE P "builtins" 162 (.ref 4),dE P "__main__" 163 (.ref 5),dE P "_sre" 244 (.ref 12)].toArray 3), #[]⟩
noncomputable def Q30 (P:Params):Obj:=⟨.none,none,(.dict [dE P "\x69mport.loaded._sre" 183 (.bool true),dE P "class._frozen_importlib.BuiltinImporter" 185 (.ref 14),dE P "watched.\x69mport" 206 (.ref 18),dE P "class._frozen_importlib.ModuleSpec" 216 (.ref 22),dE P "sys.modules.booked-epoch" 245 (.int 3 0),dE P "\x69mport.later-laid._sre" 270 (.bool true),dE P "watched.library" 272 (.ref 27),dE P "watched.library-objects" 0 (.str (Str.ofString "\x0c") 0),dE P "watched.library-deep._sre" 273 (.str (Str.ofString "\x04\x00\x00\x0b\x04\x00\x00\x0b\x04\x00\x00\x03\x04\x00\x00\x0b\x08\x04dict\x02") 0)].toArray 9), #[]⟩
noncomputable def Q4l (P:Params):Obj:=⟨(.type "dict"),none,(.dict [dE P "__name__" 165 (.str (Str.ofString "__main__") 164),dE P "__doc__" 166 (.none),dE P "__package__" 167 (.none),dE P "__loader__" 168 (.builtin "__main__.__loader__#opaque"),dE P "__spec__" 169 (.none),dE P "__annotations__" 170 (.ref 6),dE P "__builtins__" 171 (.ref 4),dE P "__file__" 173 (.str (Str.ofString "/claim/cut.py") 172),dE P "__cached__" 174 (.none),dE P "_sre" 275 (.ref 12)].toArray 10), #[]⟩
noncomputable def o4 (P:Params):Obj:=⟨(.type "module"),(some 0),.plain, #[]⟩
noncomputable def o5 (P:Params):Obj:=⟨(.type "module"),(some 3),.plain, #[]⟩
noncomputable def o6 (P:Params):Obj:=⟨(.type "dict"),none,(.dict [].toArray 0), #[]⟩
noncomputable def o7 (P:Params):Obj:=⟨(.type "tuple"),none,(.seq [].toArray 0), #[]⟩
noncomputable def o8 (P:Params):Obj:=⟨.none,none,(.fields [].toArray), #[]⟩
noncomputable def o9 (P:Params):Obj:=⟨(.type "code"),none,(.fields [(.str (Str.ofString "<module>") 176),(.str (Str.ofString "<module>") 177),(.str (Str.ofString "/claim/cut.py") 178),(.int 1 0),(.int 0 0),(.int 0 0),(.int 0 0),(.int 0 0),(.ref 7),(.bool false),(.int 175 0),(.ref 8),.none,.none,.none,.none,(.int 179 0),(.int 1 0),(.str (Str.ofString "/claim/cut.py") 180)].toArray), #[]⟩
noncomputable def o10 (P:Params):Obj:=⟨(.type "frame"),none,.plain,[some (.ref 9),some (.ref 3),some (.ref 3),none,some (.str (Str.ofString "__main__") 164),none,some (.ref 0)].toArray⟩
noncomputable def o11 (P:Params):Obj:=⟨(.type "dict"),none,(.dict [dE P "__name__" 247 (.str (Str.ofString "_sre") 246),dE P "__doc__" 248 (.none),dE P "__package__" 250 (.str (Str.ofString "") 249),dE P "__loader__" 251 (.builtin "off-the-table:_sre.__loader__:shared#opaque"),dE P "__spec__" 252 (.builtin "off-the-table:_sre.__spec__:shared#opaque"),dE P "compile" 253 (.builtin "_sre.compile"),dE P "template" 254 (.builtin "off-the-table:_sre.template:shared#opaque"),dE P "getcodesize" 255 (.builtin "off-the-table:_sre.getcodesize:shared#opaque"),dE P "ascii_iscased" 256 (.builtin "off-the-table:_sre.ascii_iscased:shared#opaque"),dE P "unicode_iscased" 257 (.builtin "off-the-table:_sre.unicode_iscased:shared#opaque"),dE P "ascii_tolower" 258 (.builtin "off-the-table:_sre.ascii_tolower:shared#opaque"),dE P "unicode_tolower" 259 (.builtin "off-the-table:_sre.unicode_tolower:shared#opaque"),dE P "MAGIC" 261 (.int 20230612 260),dE P "CODESIZE" 263 (.int 4 262),dE P "MAXREPEAT" 265 (.int 4294967295 264),dE P "MAXGROUPS" 267 (.int 1073741823 266),dE P "copyright" 269 (.str (Str.ofString " SRE 2.2.2 Copyright (c) 1997-2002 by Secret Labs AB ") 268)].toArray 17), #[]⟩
noncomputable def o12 (P:Params):Obj:=⟨(.type "module"),(some 11),.plain, #[]⟩
noncomputable def o13 (P:Params):Obj:=⟨(.type "dict"),none,(.dict [dE P "__module__" 189 (.str (Str.ofString "_frozen_importlib") 186),dE P "__firstlineno__" 190 (.int 971 187),dE P "__doc__" 191 (.builtin "_frozen_importlib.BuiltinImporter.__doc__:str#opaque"),dE P "_ORIGIN" 192 (.str (Str.ofString "built-in") 188),dE P "find_spec" 193 (.builtin "_frozen_importlib.BuiltinImporter.find_spec#opaque"),dE P "create_module" 194 (.builtin "_frozen_importlib.BuiltinImporter.create_module#opaque"),dE P "exec_module" 195 (.builtin "_frozen_importlib.BuiltinImporter.exec_module#opaque"),dE P "get_code" 196 (.builtin "_frozen_importlib.BuiltinImporter.get_code#opaque"),dE P "get_source" 197 (.builtin "_frozen_importlib.BuiltinImporter.get_source#opaque"),dE P "is_package" 198 (.builtin "_frozen_importlib.BuiltinImporter.is_package#opaque"),dE P "load_module" 199 (.builtin "_frozen_importlib.BuiltinImporter.load_module#opaque"),dE P "__static_attributes__" 200 (.ref 15),dE P "__dict__" 202 (.ref 16),dE P "__weakref__" 204 (.ref 17)].toArray 14), #[]⟩
noncomputable def o14 (P:Params):Obj:=⟨(.type "type"),none,(.cls { name:=(Str.ofString "BuiltinImporter"),bases:=[(.type "object")],mro:=[(.ref 14),(.type "object")],ns:=13,qualname:=(Str.ofString "BuiltinImporter"),hasDict:=true,slotNames:=[],subclasses:=[],abstract:=false,collection:=none,hasDel:=false }), #[]⟩
noncomputable def o15 (P:Params):Obj:=⟨(.type "tuple"),none,(.seq [].toArray 0), #[]⟩
noncomputable def o16 (P:Params):Obj:=⟨(.type "getset_descriptor"),none,(.fields [(.str (Str.ofString "__dict__") 201),(.ref 14),(.builtin "function.__dict__"),(.builtin "function.__dict__#set")].toArray), #[]⟩
noncomputable def o17 (P:Params):Obj:=⟨(.type "getset_descriptor"),none,(.fields [(.str (Str.ofString "__weakref__") 203),(.ref 14),(.builtin "ExceptionGroup.__weakref__"),.none].toArray), #[]⟩
noncomputable def o18 (P:Params):Obj:=⟨.none,none,(.seq [(.int 13 0),(.str (Str.ofString "\x06½\n__module__\x06º\x11_frozen_importlib\x06¾\x0f__firstlineno__\x04»\x00ϋ\x06¿\x07__doc__\t4_frozen_importlib.BuiltinImporter.__doc__:str#opaque\x06À\x07_ORIGIN\x06¼\x08built-in\x06Á\tfind_spec\t2_frozen_importlib.BuiltinImporter.find_spec#opaque\x06Â\x0dcreate_module\t6_frozen_importlib.BuiltinImporter.create_module#opaque\x06Ã\x0bexec_module\t4_frozen_importlib.BuiltinImporter.exec_module#opaque\x06Ä\x08get_code\t1_frozen_importlib.BuiltinImporter.get_code#opaque\x06Å\nget_source\t3_frozen_importlib.BuiltinImporter.get_source#opaque\x06Æ\nis_package\t3_frozen_importlib.BuiltinImporter.is_package#opaque\x06Ç\x0bload_module\t4_frozen_importlib.BuiltinImporter.load_module#opaque\x06È\x15__static_attributes__\x04\x00\x00\x0f\x06Ê\x08__dict__\x04\x00\x00\x10\x06Ì\x0b__weakref__\x04\x00\x00\x11") 0),(.bool true),(.bool true),(.str (Str.ofString "") 205),(.int 21 0),(.str (Str.ofString "\x06ã\n__module__\x06Ù\x11_frozen_importlib\x06ä\x0f__firstlineno__\x04Ú\x00Ȳ\x06å\x07__doc__\t/_frozen_importlib.ModuleSpec.__doc__:str#opaque\x06æ\x08__init__\t,_frozen_importlib.ModuleSpec.__init__#opaque\x06ç\x08__repr__\t,_frozen_importlib.ModuleSpec.__repr__#opaque\x06è\x06__eq__\t*_frozen_importlib.ModuleSpec.__eq__#opaque\x06é\x06cached\t*_frozen_importlib.ModuleSpec.cached#opaque\x06ê\x06parent\t*_frozen_importlib.ModuleSpec.parent#opaque\x06ë\x0chas_location\t0_frozen_importlib.ModuleSpec.has_location#opaque\x06ì\x15__static_attributes__\x04\x00\x00\x17\x06î\x08__dict__\x04\x00\x00\x18\x06ð\x0b__weakref__\x04\x00\x00\x19\x06ñ\x08__hash__\x00") 0),(.bool true),(.bool true),(.str (Str.ofString "") 242)].toArray 1), #[]⟩
noncomputable def o19 (P:Params):Obj:=⟨(.type "list"),none,(.seq [].toArray 0), #[]⟩
noncomputable def o20 (P:Params):Obj:=⟨(.type "dict"),none,(.dict [dE P "name" 208 (.str (Str.ofString "_sre") 207),dE P "loader" 209 (.ref 14),dE P "origin" 210 (.str (Str.ofString "built-in") 184),dE P "loader_state" 211 (.none),dE P "submodule_search_locations" 212 (.none),dE P "_uninitialized_submodules" 213 (.ref 19),dE P "_set_fileattr" 214 (.bool false),dE P "_cached" 215 (.none),dE P "_initializing" 243 (.bool false)].toArray 9), #[]⟩
noncomputable def o21 (P:Params):Obj:=⟨(.type "dict"),none,(.dict [dE P "__module__" 227 (.str (Str.ofString "_frozen_importlib") 217),dE P "__firstlineno__" 228 (.int 562 218),dE P "__doc__" 229 (.builtin "_frozen_importlib.ModuleSpec.__doc__:str#opaque"),dE P "__init__" 230 (.builtin "_frozen_importlib.ModuleSpec.__init__#opaque"),dE P "__repr__" 231 (.builtin "_frozen_importlib.ModuleSpec.__repr__#opaque"),dE P "__eq__" 232 (.builtin "_frozen_importlib.ModuleSpec.__eq__#opaque"),dE P "cached" 233 (.builtin "_frozen_importlib.ModuleSpec.cached#opaque"),dE P "parent" 234 (.builtin "_frozen_importlib.ModuleSpec.parent#opaque"),dE P "has_location" 235 (.builtin "_frozen_importlib.ModuleSpec.has_location#opaque"),dE P "__static_attributes__" 236 (.ref 23),dE P "__dict__" 238 (.ref 24),dE P "__weakref__" 240 (.ref 25),dE P "__hash__" 241 (.none)].toArray 13), #[]⟩
noncomputable def o22 (P:Params):Obj:=⟨(.type "type"),none,(.cls { name:=(Str.ofString "ModuleSpec"),bases:=[(.type "object")],mro:=[(.ref 22),(.type "object")],ns:=21,qualname:=(Str.ofString "ModuleSpec"),hasDict:=true,slotNames:=[],subclasses:=[],abstract:=false,collection:=none,hasDel:=false }), #[]⟩
noncomputable def o23 (P:Params):Obj:=⟨(.type "tuple"),none,(.seq [(.str (Str.ofString "_cached") 219),(.str (Str.ofString "_set_fileattr") 220),(.str (Str.ofString "_uninitialized_submodules") 221),(.str (Str.ofString "loader") 222),(.str (Str.ofString "loader_state") 223),(.str (Str.ofString "name") 224),(.str (Str.ofString "origin") 225),(.str (Str.ofString "submodule_search_locations") 226)].toArray 0), #[]⟩
noncomputable def o24 (P:Params):Obj:=⟨(.type "getset_descriptor"),none,(.fields [(.str (Str.ofString "__dict__") 237),(.ref 22),(.builtin "function.__dict__"),(.builtin "function.__dict__#set")].toArray), #[]⟩
noncomputable def o25 (P:Params):Obj:=⟨(.type "getset_descriptor"),none,(.fields [(.str (Str.ofString "__weakref__") 239),(.ref 22),(.builtin "ExceptionGroup.__weakref__"),.none].toArray), #[]⟩
noncomputable def o26 (P:Params):Obj:=⟨(.ref 22),(some 20),.plain, #[]⟩
noncomputable def o27 (P:Params):Obj:=⟨.none,none,(.seq [(.int 11 0),(.str (PySem.Str.mk [6,247,8,95,95,110,97,109,101,95,95,6,246,4,95,115,114,101,6,248,7,95,95,100,111,99,95,95,0,6,250,11,95,95,112,97,99,107,97,103,101,95,95,6,249,0,6,251,10,95,95,108,111,97,100,101,114,95,95,4,0,0,14,6,252,8,95,95,115,112,101,99,95,95,4,0,0,26,6,253,7,99,111,109,112,105,108,101,9,12,95,115,114,101,46,99,111,109,112,105,108,101,6,254,8,116,101,109,112,108,97,116,101,9,13,95,115,114,101,46,116,101,109,112,108,97,116,101,6,255,11,103,101,116,99,111,100,101,115,105,122,101,9,16,95,115,114,101,46,103,101,116,99,111,100,101,115,105,122,101,6,256,13,97,115,99,105,105,95,105,115,99,97,115,101,100,9,18,95,115,114,101,46,97,115,99,105,105,95,105,115,99,97,115,101,100,6,257,15,117,110,105,99,111,100,101,95,105,115,99,97,115,101,100,9,20,95,115,114,101,46,117,110,105,99,111,100,101,95,105,115,99,97,115,101,100,6,258,13,97,115,99,105,105,95,116,111,108,111,119,101,114,9,18,95,115,114,101,46,97,115,99,105,105,95,116,111,108,111,119,101,114,6,259,15,117,110,105,99,111,100,101,95,116,111,108,111,119,101,114,9,20,95,115,114,101,46,117,110,105,99,111,100,101,95,116,111,108,111,119,101,114,6,261,5,77,65,71,73,67,4,260,0,20230612,6,263,8,67,79,68,69,83,73,90,69,4,262,0,4,6,265,9,77,65,88,82,69,80,69,65,84,4,264,0,4294967295,6,267,9,77,65,88,71,82,79,85,80,83,4,266,0,1073741823,6,269,9,99,111,112,121,114,105,103,104,116,6,268,53,32,83,82,69,32,50,46,50,46,50,32,67,111,112,121,114,105,103,104,116,32,40,99,41,32,49,57,57,55,45,50,48,48,50,32,98,121,32,83,101,99,114,101,116,32,76,97,98,115,32,65,66,32].toArray) 0),(.bool true),(.bool false),(.str (Str.ofString "_sre") 271)].toArray 0), #[]⟩
noncomputable def o28 (P:Params):Obj:=⟨(.type "tuple"),none,(.seq [].toArray 0), #[]⟩
noncomputable def o29s32 (P:Params):Obj:=⟨.none,none,(.fields [].toArray), #[]⟩
noncomputable def o30 (P:Params):Obj:=⟨(.type "code"),none,(.fields [(.str (Str.ofString "<module>") 277),(.str (Str.ofString "<module>") 278),(.str (Str.ofString "/claim/cut.py") 279),(.int 1 0),(.int 0 0),(.int 0 0),(.int 0 0),(.int 0 0),(.ref 28),(.bool false),(.int 276 0),(.ref 29),.none,.none,.none,.none,(.int 280 0),(.int 1 0),(.str (Str.ofString "/claim/cut.py") 281)].toArray), #[]⟩
noncomputable def o31 (P:Params):Obj:=⟨(.type "frame"),none,.plain,[some (.ref 30),some (.ref 3),some (.ref 3),none,some (.str (Str.ofString "__main__") 164),none,some (.ref 0)].toArray⟩
noncomputable def Q2i (P:Params):Obj:=⟨(.type "dict"),none,(.dict [dE P "__name__" 165 (.str (Str.ofString "cpy313.stringprep") 529),dE P "__doc__" 166 (.none),dE P "__package__" 167 (.none),dE P "__loader__" 168 (.builtin "__main__.__loader__#opaque"),dE P "__spec__" 169 (.none),dE P "__annotations__" 170 (.ref 6),dE P "__builtins__" 171 (.ref 4),dE P "__file__" 173 (.str (Str.ofString "/claim/cut.py") 172),dE P "__cached__" 174 (.none),dE P "_sre" 275 (.ref 12),dE P "_wall" 288 (.ref 38),dE P "_twin_re_1" 318 (.ref 43),dE P "NL" 320 (.str (Str.ofString "\n") 319),dE P "EMPTYSTRING" 322 (.str (Str.ofString "") 321),dE P "_ValueFormatter" 432 (.ref 116),dE P "_Accumulator" 528 (.ref 200),dE P "b1_set" 590 (.ref 212),dE P "in_table_b1" 597 (.ref 222)].toArray 18), #[]⟩
noncomputable def Q3i (P:Params):Obj:=⟨.none,none,(.fields [(.int 2 0),(.int 0 0),(.ref 37),(.int 9 0),(.int 0 0),(.ref 49),(.int 81 0),(.int 0 0),(.ref 127),(.int 119 0),(.int 0 0),(.ref 221)].toArray), #[]⟩
noncomputable def o32 (P:Params):Obj:=⟨(.type "tuple"),none,(.seq [].toArray 0), #[]⟩
noncomputable def o33 (P:Params):Obj:=⟨.none,none,(.fields [].toArray), #[]⟩
noncomputable def o34 (P:Params):Obj:=⟨(.type "tuple"),none,(.seq [(.str (Str.ofString "k") 285)].toArray 0), #[]⟩
noncomputable def o35 (P:Params):Obj:=⟨(.type "tuple"),none,(.seq [].toArray 0), #[]⟩
noncomputable def o36 (P:Params):Obj:=⟨.none,none,(fnA (Q12 1) (Str.ofString "_wall") 0 [] .none .none .none .none none .none .none 0), #[]⟩
noncomputable def o37 (P:Params):Obj:=⟨(.type "code"),none,(.fields [(.str (Str.ofString "_wall") 282),(.str (Str.ofString "_wall") 283),(.str (Str.ofString "/claim/cut.py") 284),(.int 2 0),(.int 1 0),(.int 0 0),(.int 0 0),(.int 3 0),(.ref 32),(.bool true),(.int 276 0),(.ref 33),.none,(.ref 34),(.ref 35),(.ref 36),(.int 286 0),(.int 2 0),(.str (Str.ofString "/claim/cut.py") 287)].toArray), #[]⟩
noncomputable def o38 (P:Params):Obj:=⟨(.type "function"),none,(fnL (Q12 1) rfl (Str.ofString "_wall") 3 [] .none .none .none (.str (Str.ofString "__main__") 164) none (.ref 37) .none 0), #[]⟩
noncomputable def o39 (P:Params):Obj:=⟨(.type "list"),none,(.seq [(.int 14 294),(.int 4 295),(.int 0 296),(.int 1 297),(.int 4294967295 298),(.int 17 299),(.int 0 300),(.int 24 301),(.int 11 302),(.int 1 303),(.int 4294967295 304),(.int 13 305),(.int 6 306),(.int 16 307),(.int 32 308),(.int 16 309),(.int 9 310),(.int 0 311),(.int 1 312),(.int 17 313),(.int 1 314),(.int 1 315)].toArray 0), #[]⟩
noncomputable def o40 (P:Params):Obj:=⟨(.type "dict"),none,(.dict [].toArray 0), #[]⟩
noncomputable def o41 (P:Params):Obj:=⟨(.type "tuple"),none,(.seq [.none,.none].toArray 0), #[]⟩
noncomputable def o42 (P:Params):Obj:=⟨(.type "tuple"),none,(.seq [(.int 14 0),(.int 4 0),(.int 0 0),(.int 1 0),(.int 4294967295 0),(.int 17 0),(.int 0 0),(.int 24 0),(.int 11 0),(.int 1 0),(.int 4294967295 0),(.int 13 0),(.int 6 0),(.int 16 0),(.int 32 0),(.int 16 0),(.int 9 0),(.int 0 0),(.int 1 0),(.int 17 0),(.int 1 0),(.int 1 0)].toArray 0), #[]⟩
noncomputable def o43 (P:Params):Obj:=⟨(.type "re.Pattern"),none,(.fields [(.str (Str.ofString "([ \t]+)") 292),(.int 32 317),(.int 1 0),.none,.none,(.ref 42),(.int 0 0)].toArray), #[]⟩
noncomputable def o44 (P:Params):Obj:=⟨(.type "tuple"),none,(.seq [].toArray 0), #[]⟩
noncomputable def o45 (P:Params):Obj:=⟨(.type "builtin_function_or_method"),none,(.fields [(.builtin "type.__prepare__"),(.type "type")].toArray), #[]⟩
noncomputable def o46 (P:Params):Obj:=⟨(.type "dict"),none,(.dict [dE P "__module__" 330 (.str (Str.ofString "cpy313.email.header") 289),dE P "__qualname__" 332 (.str (Str.ofString "_ValueFormatter") 331),dE P "__firstlineno__" 334 (.int 9 333),dE P "__init__" 345 (.ref 57),dE P "_str" 353 (.ref 64),dE P "__str__" 360 (.ref 71),dE P "newline" 368 (.ref 78),dE P "add_transition" 375 (.ref 85),dE P "feed" 385 (.ref 92),dE P "_maxlengths" 392 (.ref 99),dE P "_ascii_split" 404 (.ref 106),dE P "_append_chunk" 418 (.ref 113),dE P "__static_attributes__" 425 (.ref 114)].toArray 13), #[]⟩
noncomputable def o47 (P:Params):Obj:=⟨(.type "tuple"),none,(.seq [].toArray 0), #[]⟩
noncomputable def o48 (P:Params):Obj:=⟨.none,none,(.fields [(.int 11 0),(.int 4 0),(.ref 56),(.int 19 0),(.int 4 0),(.ref 63),(.int 23 0),(.int 4 0),(.ref 70),(.int 26 0),(.int 4 0),(.ref 77),(.int 37 0),(.int 4 0),(.ref 84),(.int 40 0),(.int 4 0),(.ref 91),(.int 43 0),(.int 4 0),(.ref 98),(.int 46 0),(.int 4 0),(.ref 105),(.int 55 0),(.int 4 0),(.ref 112)].toArray), #[]⟩
noncomputable def o49 (P:Params):Obj:=⟨(.type "code"),none,(.fields [(.str (Str.ofString "_ValueFormatter") 325),(.str (Str.ofString "_ValueFormatter") 326),(.str (Str.ofString "/claim/cut.py") 327),(.int 9 0),(.int 0 0),(.int 0 0),(.int 0 0),(.int 0 0),(.ref 47),(.bool false),(.int 276 0),(.ref 48),.none,.none,.none,.none,(.int 328 0),(.int 9 0),(.str (Str.ofString "/claim/cut.py") 329)].toArray), #[]⟩
noncomputable def o50 (P:Params):Obj:=⟨(.type "frame"),none,.plain,[some (.ref 49),some (.ref 3),some (.ref 46),none,some (.str (Str.ofString "cpy313.email.header") 289),none,some (.ref 0)].toArray⟩
noncomputable def o51 (P:Params):Obj:=⟨(.type "tuple"),none,(.seq [].toArray 0), #[]⟩
noncomputable def o52 (P:Params):Obj:=⟨.none,none,(.fields [].toArray), #[]⟩
noncomputable def o53 (P:Params):Obj:=⟨(.type "tuple"),none,(.seq [(.str (Str.ofString "self") 338),(.str (Str.ofString "headerlen") 339),(.str (Str.ofString "maxlen") 340),(.str (Str.ofString "continuation_ws") 341),(.str (Str.ofString "splitchars") 342)].toArray 0), #[]⟩
noncomputable def o54 (P:Params):Obj:=⟨(.type "tuple"),none,(.seq [].toArray 0), #[]⟩
noncomputable def o55 (P:Params):Obj:=⟨.none,none,(fnA (stM 6 0) (Str.ofString "_ValueFormatter.__init__") 0 [] .none .none .none .none none .none .none 0), #[]⟩
noncomputable def o56 (P:Params):Obj:=⟨(.type "code"),none,(.fields [(.str (Str.ofString "__init__") 335),(.str (Str.ofString "_ValueFormatter.__init__") 336),(.str (Str.ofString "/claim/cut.py") 337),(.int 11 0),(.int 5 0),(.int 0 0),(.int 0 0),(.int 3 0),(.ref 51),(.bool true),(.int 276 0),(.ref 52),.none,(.ref 53),(.ref 54),(.ref 55),(.int 343 0),(.int 11 0),(.str (Str.ofString "/claim/cut.py") 344)].toArray), #[]⟩
noncomputable def o57 (P:Params):Obj:=⟨(.type "function"),none,(fnL (stM 6 0) rfl (Str.ofString "_ValueFormatter.__init__") 3 [] .none .none .none (.str (Str.ofString "cpy313.email.header") 289) none (.ref 56) .none 0), #[]⟩
noncomputable def o58 (P:Params):Obj:=⟨(.type "tuple"),none,(.seq [].toArray 0), #[]⟩
noncomputable def o59 (P:Params):Obj:=⟨.none,none,(.fields [].toArray), #[]⟩
noncomputable def o60 (P:Params):Obj:=⟨(.type "tuple"),none,(.seq [(.str (Str.ofString "self") 349),(.str (Str.ofString "linesep") 350)].toArray 0), #[]⟩
noncomputable def o61 (P:Params):Obj:=⟨(.type "tuple"),none,(.seq [].toArray 0), #[]⟩
noncomputable def o62 (P:Params):Obj:=⟨.none,none,(fnA (stM 6 1) (Str.ofString "_ValueFormatter._str") 0 [] .none .none .none .none none .none .none 0), #[]⟩
noncomputable def o63 (P:Params):Obj:=⟨(.type "code"),none,(.fields [(.str (Str.ofString "_str") 346),(.str (Str.ofString "_ValueFormatter._str") 347),(.str (Str.ofString "/claim/cut.py") 348),(.int 19 0),(.int 2 0),(.int 0 0),(.int 0 0),(.int 3 0),(.ref 58),(.bool true),(.int 276 0),(.ref 59),.none,(.ref 60),(.ref 61),(.ref 62),(.int 351 0),(.int 19 0),(.str (Str.ofString "/claim/cut.py") 352)].toArray), #[]⟩
noncomputable def o64 (P:Params):Obj:=⟨(.type "function"),none,(fnL (stM 6 1) rfl (Str.ofString "_ValueFormatter._str") 3 [] .none .none .none (.str (Str.ofString "cpy313.email.header") 289) none (.ref 63) .none 0), #[]⟩
noncomputable def o65 (P:Params):Obj:=⟨(.type "tuple"),none,(.seq [].toArray 0), #[]⟩
noncomputable def o66 (P:Params):Obj:=⟨.none,none,(.fields [].toArray), #[]⟩
noncomputable def o67 (P:Params):Obj:=⟨(.type "tuple"),none,(.seq [(.str (Str.ofString "self") 357)].toArray 0), #[]⟩
noncomputable def o68 (P:Params):Obj:=⟨(.type "tuple"),none,(.seq [].toArray 0), #[]⟩
noncomputable def o69 (P:Params):Obj:=⟨.none,none,(fnA (stM 6 2) (Str.ofString "_ValueFormatter.__str__") 0 [] .none .none .none .none none .none .none 0), #[]⟩
noncomputable def o70 (P:Params):Obj:=⟨(.type "code"),none,(.fields [(.str (Str.ofString "__str__") 354),(.str (Str.ofString "_ValueFormatter.__str__") 355),(.str (Str.ofString "/claim/cut.py") 356),(.int 23 0),(.int 1 0),(.int 0 0),(.int 0 0),(.int 3 0),(.ref 65),(.bool true),(.int 276 0),(.ref 66),.none,(.ref 67),(.ref 68),(.ref 69),(.int 358 0),(.int 23 0),(.str (Str.ofString "/claim/cut.py") 359)].toArray), #[]⟩
noncomputable def o71 (P:Params):Obj:=⟨(.type "function"),none,(fnL (stM 6 2) rfl (Str.ofString "_ValueFormatter.__str__") 3 [] .none .none .none (.str (Str.ofString "cpy313.email.header") 289) none (.ref 70) .none 0), #[]⟩
noncomputable def o72 (P:Params):Obj:=⟨(.type "tuple"),none,(.seq [].toArray 0), #[]⟩
noncomputable def o73 (P:Params):Obj:=⟨.none,none,(.fields [].toArray), #[]⟩
noncomputable def o74 (P:Params):Obj:=⟨(.type "tuple"),none,(.seq [(.str (Str.ofString "self") 364),(.str (Str.ofString "end_of_line") 365)].toArray 0), #[]⟩
noncomputable def o75 (P:Params):Obj:=⟨(.type "tuple"),none,(.seq [].toArray 0), #[]⟩
noncomputable def o76 (P:Params):Obj:=⟨.none,none,(fnA (stM 6 3) (Str.ofString "_ValueFormatter.newline") 0 [] .none .none .none .none none .none .none 0), #[]⟩
noncomputable def o77 (P:Params):Obj:=⟨(.type "code"),none,(.fields [(.str (Str.ofString "newline") 361),(.str (Str.ofString "_ValueFormatter.newline") 362),(.str (Str.ofString "/claim/cut.py") 363),(.int 26 0),(.int 1 0),(.int 0 0),(.int 0 0),(.int 3 0),(.ref 72),(.bool true),(.int 276 0),(.ref 73),.none,(.ref 74),(.ref 75),(.ref 76),(.int 366 0),(.int 26 0),(.str (Str.ofString "/claim/cut.py") 367)].toArray), #[]⟩
noncomputable def o78 (P:Params):Obj:=⟨(.type "function"),none,(fnL (stM 6 3) rfl (Str.ofString "_ValueFormatter.newline") 3 [] .none .none .none (.str (Str.ofString "cpy313.email.header") 289) none (.ref 77) .none 0), #[]⟩
noncomputable def o79 (P:Params):Obj:=⟨(.type "tuple"),none,(.seq [].toArray 0), #[]⟩
noncomputable def o80 (P:Params):Obj:=⟨.none,none,(.fields [].toArray), #[]⟩
noncomputable def o81 (P:Params):Obj:=⟨(.type "tuple"),none,(.seq [(.str (Str.ofString "self") 372)].toArray 0), #[]⟩
noncomputable def o82 (P:Params):Obj:=⟨(.type "tuple"),none,(.seq [].toArray 0), #[]⟩
noncomputable def o83 (P:Params):Obj:=⟨.none,none,(fnA (stM 6 4) (Str.ofString "_ValueFormatter.add_transition") 0 [] .none .none .none .none none .none .none 0), #[]⟩
noncomputable def o84 (P:Params):Obj:=⟨(.type "code"),none,(.fields [(.str (Str.ofString "add_transition") 369),(.str (Str.ofString "_ValueFormatter.add_transition") 370),(.str (Str.ofString "/claim/cut.py") 371),(.int 37 0),(.int 1 0),(.int 0 0),(.int 0 0),(.int 3 0),(.ref 79),(.bool true),(.int 276 0),(.ref 80),.none,(.ref 81),(.ref 82),(.ref 83),(.int 373 0),(.int 37 0),(.str (Str.ofString "/claim/cut.py") 374)].toArray), #[]⟩
noncomputable def o85 (P:Params):Obj:=⟨(.type "function"),none,(fnL (stM 6 4) rfl (Str.ofString "_ValueFormatter.add_transition") 3 [] .none .none .none (.str (Str.ofString "cpy313.email.header") 289) none (.ref 84) .none 0), #[]⟩
noncomputable def o86 (P:Params):Obj:=⟨(.type "tuple"),none,(.seq [].toArray 0), #[]⟩
noncomputable def o87 (P:Params):Obj:=⟨.none,none,(.fields [].toArray), #[]⟩
noncomputable def o88 (P:Params):Obj:=⟨(.type "tuple"),none,(.seq [(.str (Str.ofString "self") 379),(.str (Str.ofString "fws") 380),(.str (Str.ofString "string") 381),(.str (Str.ofString "charset") 382)].toArray 0), #[]⟩
noncomputable def o89 (P:Params):Obj:=⟨(.type "tuple"),none,(.seq [].toArray 0), #[]⟩
noncomputable def o90 (P:Params):Obj:=⟨.none,none,(fnA (stM 6 5) (Str.ofString "_ValueFormatter.feed") 0 [] .none .none .none .none none .none .none 0), #[]⟩
noncomputable def o91 (P:Params):Obj:=⟨(.type "code"),none,(.fields [(.str (Str.ofString "feed") 376),(.str (Str.ofString "_ValueFormatter.feed") 377),(.str (Str.ofString "/claim/cut.py") 378),(.int 40 0),(.int 4 0),(.int 0 0),(.int 0 0),(.int 3 0),(.ref 86),(.bool true),(.int 276 0),(.ref 87),.none,(.ref 88),(.ref 89),(.ref 90),(.int 383 0),(.int 40 0),(.str (Str.ofString "/claim/cut.py") 384)].toArray), #[]⟩
noncomputable def o92 (P:Params):Obj:=⟨(.type "function"),none,(fnL (stM 6 5) rfl (Str.ofString "_ValueFormatter.feed") 3 [] .none .none .none (.str (Str.ofString "cpy313.email.header") 289) none (.ref 91) .none 0), #[]⟩
noncomputable def o93 (P:Params):Obj:=⟨(.type "tuple"),none,(.seq [].toArray 0), #[]⟩
noncomputable def o94 (P:Params):Obj:=⟨.none,none,(.fields [].toArray), #[]⟩
noncomputable def o95 (P:Params):Obj:=⟨(.type "tuple"),none,(.seq [(.str (Str.ofString "self") 389)].toArray 0), #[]⟩
noncomputable def o96 (P:Params):Obj:=⟨(.type "tuple"),none,(.seq [].toArray 0), #[]⟩
noncomputable def o97 (P:Params):Obj:=⟨.none,none,(fnA (stM 6 6) (Str.ofString "_ValueFormatter._maxlengths") 0 [] .none .none .none .none none .none .none 0), #[]⟩
noncomputable def o98 (P:Params):Obj:=⟨(.type "code"),none,(.fields [(.str (Str.ofString "_maxlengths") 386),(.str (Str.ofString "_ValueFormatter._maxlengths") 387),(.str (Str.ofString "/claim/cut.py") 388),(.int 43 0),(.int 1 0),(.int 0 0),(.int 0 0),(.int 3 0),(.ref 93),(.bool true),(.int 276 0),(.ref 94),.none,(.ref 95),(.ref 96),(.ref 97),(.int 390 0),(.int 43 0),(.str (Str.ofString "/claim/cut.py") 391)].toArray), #[]⟩
noncomputable def o99 (P:Params):Obj:=⟨(.type "function"),none,(fnL (stM 6 6) rfl (Str.ofString "_ValueFormatter._maxlengths") 3 [] .none .none .none (.str (Str.ofString "cpy313.email.header") 289) none (.ref 98) .none 0), #[]⟩
noncomputable def o100 (P:Params):Obj:=⟨(.type "tuple"),none,(.seq [].toArray 0), #[]⟩
noncomputable def o101 (P:Params):Obj:=⟨.none,none,(.fields [].toArray), #[]⟩
noncomputable def o102 (P:Params):Obj:=⟨(.type "tuple"),none,(.seq [(.str (Str.ofString "self") 396),(.str (Str.ofString "fws") 397),(.str (Str.ofString "string") 398),(.str (Str.ofString "splitchars") 399),(.str (Str.ofString "parts") 400),(.str (Str.ofString "part") 401)].toArray 0), #[]⟩
noncomputable def o103 (P:Params):Obj:=⟨(.type "tuple"),none,(.seq [].toArray 0), #[]⟩
noncomputable def o104 (P:Params):Obj:=⟨.none,none,(fnA (stM 6 7) (Str.ofString "_ValueFormatter._ascii_split") 0 [] .none .none .none .none none .none .none 0), #[]⟩
noncomputable def o105 (P:Params):Obj:=⟨(.type "code"),none,(.fields [(.str (Str.ofString "_ascii_split") 393),(.str (Str.ofString "_ValueFormatter._ascii_split") 394),(.str (Str.ofString "/claim/cut.py") 395),(.int 46 0),(.int 4 0),(.int 0 0),(.int 0 0),(.int 3 0),(.ref 100),(.bool true),(.int 276 0),(.ref 101),.none,(.ref 102),(.ref 103),(.ref 104),(.int 402 0),(.int 46 0),(.str (Str.ofString "/claim/cut.py") 403)].toArray), #[]⟩
noncomputable def o106 (P:Params):Obj:=⟨(.type "function"),none,(fnL (stM 6 7) rfl (Str.ofString "_ValueFormatter._ascii_split") 3 [] .none .none .none (.str (Str.ofString "cpy313.email.header") 289) none (.ref 105) .none 0), #[]⟩
noncomputable def o107 (P:Params):Obj:=⟨(.type "tuple"),none,(.seq [].toArray 0), #[]⟩
noncomputable def o108 (P:Params):Obj:=⟨.none,none,(.fields [].toArray), #[]⟩
noncomputable def o109 (P:Params):Obj:=⟨(.type "tuple"),none,(.seq [(.str (Str.ofString "self") 408),(.str (Str.ofString "fws") 409),(.str (Str.ofString "string") 410),(.str (Str.ofString "ch") 411),(.str (Str.ofString "i") 412),(.str (Str.ofString "prevpart") 413),(.str (Str.ofString "part") 414),(.str (Str.ofString "remainder") 415)].toArray 0), #[]⟩
noncomputable def o110 (P:Params):Obj:=⟨(.type "tuple"),none,(.seq [].toArray 0), #[]⟩
noncomputable def o111 (P:Params):Obj:=⟨.none,none,(fnA (stM 6 8) (Str.ofString "_ValueFormatter._append_chunk") 0 [] .none .none .none .none none .none .none 0), #[]⟩
noncomputable def o112 (P:Params):Obj:=⟨(.type "code"),none,(.fields [(.str (Str.ofString "_append_chunk") 405),(.str (Str.ofString "_ValueFormatter._append_chunk") 406),(.str (Str.ofString "/claim/cut.py") 407),(.int 55 0),(.int 3 0),(.int 0 0),(.int 0 0),(.int 3 0),(.ref 107),(.bool true),(.int 276 0),(.ref 108),.none,(.ref 109),(.ref 110),(.ref 111),(.int 416 0),(.int 55 0),(.str (Str.ofString "/claim/cut.py") 417)].toArray), #[]⟩
noncomputable def o113 (P:Params):Obj:=⟨(.type "function"),none,(fnL (stM 6 8) rfl (Str.ofString "_ValueFormatter._append_chunk") 3 [] .none .none .none (.str (Str.ofString "cpy313.email.header") 289) none (.ref 112) .none 0), #[]⟩
noncomputable def o114 (P:Params):Obj:=⟨(.type "tuple"),none,(.seq [(.str (Str.ofString "_continuation_ws") 419),(.str (Str.ofString "_continuation_ws_len") 420),(.str (Str.ofString "_current_line") 421),(.str (Str.ofString "_lines") 422),(.str (Str.ofString "_maxlen") 423),(.str (Str.ofString "_splitchars") 424)].toArray 0), #[]⟩
noncomputable def o115 (P:Params):Obj:=⟨(.type "dict"),none,(.dict [dE P "__module__" 330 (.str (Str.ofString "cpy313.email.header") 289),dE P "__firstlineno__" 334 (.int 9 333),dE P "__init__" 345 (.ref 57),dE P "_str" 353 (.ref 64),dE P "__str__" 360 (.ref 71),dE P "newline" 368 (.ref 78),dE P "add_transition" 375 (.ref 85),dE P "feed" 385 (.ref 92),dE P "_maxlengths" 392 (.ref 99),dE P "_ascii_split" 404 (.ref 106),dE P "_append_chunk" 418 (.ref 113),dE P "__static_attributes__" 425 (.ref 114),dE P "__dict__" 427 (.ref 117),dE P "__weakref__" 429 (.ref 118),dE P "__doc__" 430 (.none)].toArray 4), #[]⟩
noncomputable def o116 (P:Params):Obj:=⟨(.type "type"),none,(.cls { name:=(Str.ofString "_ValueFormatter"),bases:=[(.type "object")],mro:=[(.ref 116),(.type "object")],ns:=115,qualname:=(Str.ofString "_ValueFormatter"),hasDict:=true,slotNames:=[],subclasses:=[],abstract:=false,collection:=none,hasDel:=false }),[none,none,some (.str (Str.ofString "_ValueFormatter") 323),some (.str (Str.ofString "_ValueFormatter") 331),some (.builtin "object.__new__"),some (.bool true)].toArray⟩
noncomputable def o117 (P:Params):Obj:=⟨(.type "getset_descriptor"),none,(.fields [(.str (Str.ofString "__dict__") 426),(.ref 116),(.builtin "function.__dict__"),(.builtin "function.__dict__#set")].toArray), #[]⟩
noncomputable def o118 (P:Params):Obj:=⟨(.type "getset_descriptor"),none,(.fields [(.str (Str.ofString "__weakref__") 428),(.ref 116),(.builtin "ExceptionGroup.__weakref__"),.none].toArray), #[]⟩
noncomputable def o119 (P:Params):Obj:=⟨(.type "super"),none,(.fields [(.ref 116),(.ref 116),(.ref 116)].toArray), #[]⟩
noncomputable def o120 (P:Params):Obj:=⟨(.type "builtin_function_or_method"),none,(.fields [(.builtin "object.__init_subclass__"),(.ref 116)].toArray), #[]⟩
noncomputable def o121 (P:Params):Obj:=⟨(.type "tuple"),none,(.seq [(.type "list")].toArray 0), #[]⟩
noncomputable def o122 (P:Params):Obj:=⟨(.type "builtin_function_or_method"),none,(.fields [(.builtin "type.__prepare__"),(.type "type")].toArray), #[]⟩
noncomputable def o123 (P:Params):Obj:=⟨(.type "dict"),none,(.dict [dE P "__module__" 440 (.str (Str.ofString "cpy313.email.header") 289),dE P "__qualname__" 442 (.str (Str.ofString "_Accumulator") 441),dE P "__firstlineno__" 444 (.int 81 443),dE P "__init__" 454 (.ref 137),dE P "push" 463 (.ref 144),dE P "pop_from" 473 (.ref 152),dE P "pop" 481 (.ref 160),dE P "__len__" 488 (.ref 167),dE P "__str__" 495 (.ref 174),dE P "reset" 503 (.ref 182),dE P "is_onlyws" 510 (.ref 189),dE P "part_count" 518 (.ref 197),dE P "__static_attributes__" 520 (.ref 198),dE P "__classcell__" 521 (.ref 124)].toArray 14), #[]⟩
noncomputable def o124 (P:Params):Obj:=⟨(.type "cell"),none,(.cell (some (.ref 200))), #[]⟩
noncomputable def o125 (P:Params):Obj:=⟨(.type "tuple"),none,(.seq [].toArray 0), #[]⟩
noncomputable def o126 (P:Params):Obj:=⟨.none,none,(.fields [(.int 83 0),(.int 4 0),(.ref 136),(.int 87 0),(.int 4 0),(.ref 143),(.int 90 0),(.int 4 0),(.ref 151),(.int 95 0),(.int 4 0),(.ref 159),(.int 100 0),(.int 4 0),(.ref 166),(.int 103 0),(.int 4 0),(.ref 173),(.int 106 0),(.int 4 0),(.ref 181),(.int 112 0),(.int 4 0),(.ref 188),(.int 115 0),(.int 4 0),(.ref 196)].toArray), #[]⟩
noncomputable def o127 (P:Params):Obj:=⟨(.type "code"),none,(.fields [(.str (Str.ofString "_Accumulator") 435),(.str (Str.ofString "_Accumulator") 436),(.str (Str.ofString "/claim/cut.py") 437),(.int 81 0),(.int 0 0),(.int 0 0),(.int 0 0),(.int 0 0),(.ref 125),(.bool false),(.int 276 0),(.ref 126),.none,.none,.none,.none,(.int 438 0),(.int 81 0),(.str (Str.ofString "/claim/cut.py") 439)].toArray), #[]⟩
noncomputable def o128 (P:Params):Obj:=⟨(.type "frame"),none,.plain,[some (.ref 127),some (.ref 3),some (.ref 123),none,some (.str (Str.ofString "cpy313.email.header") 289),none,some (.ref 0)].toArray⟩
noncomputable def o129 (P:Params):Obj:=⟨(.type "tuple"),none,(.seq [(.int 0 445)].toArray 0), #[]⟩
noncomputable def o130 (P:Params):Obj:=⟨(.type "tuple"),none,(.seq [(.ref 124)].toArray 0), #[]⟩
noncomputable def o131 (P:Params):Obj:=⟨(.type "tuple"),none,(.seq [(.str (Str.ofString "__class__") 449)].toArray 0), #[]⟩
noncomputable def o132 (P:Params):Obj:=⟨.none,none,(.fields [].toArray), #[]⟩
noncomputable def o133 (P:Params):Obj:=⟨(.type "tuple"),none,(.seq [(.str (Str.ofString "self") 450),(.str (Str.ofString "initial_size") 451)].toArray 0), #[]⟩
noncomputable def o134 (P:Params):Obj:=⟨(.type "tuple"),none,(.seq [].toArray 0), #[]⟩
noncomputable def o135 (P:Params):Obj:=⟨.none,none,(fnA (stM 7 0) (Str.ofString "_Accumulator.__init__") 0 [] .none .none .none .none none .none .none 0), #[]⟩
noncomputable def o136 (P:Params):Obj:=⟨(.type "code"),none,(.fields [(.str (Str.ofString "__init__") 446),(.str (Str.ofString "_Accumulator.__init__") 447),(.str (Str.ofString "/claim/cut.py") 448),(.int 83 0),(.int 2 0),(.int 0 0),(.int 0 0),(.int 3 0),(.ref 131),(.bool true),(.int 276 0),(.ref 132),.none,(.ref 133),(.ref 134),(.ref 135),(.int 452 0),(.int 83 0),(.str (Str.ofString "/claim/cut.py") 453)].toArray), #[]⟩
noncomputable def o137 (P:Params):Obj:=⟨(.type "function"),none,(fnL (stM 7 0) rfl (Str.ofString "_Accumulator.__init__") 3 [((Str.ofString "__class__"),124)] (.ref 129) .none .none (.str (Str.ofString "cpy313.email.header") 289) none (.ref 136) (.ref 130) 0), #[]⟩
noncomputable def o138 (P:Params):Obj:=⟨(.type "tuple"),none,(.seq [].toArray 0), #[]⟩
noncomputable def o139 (P:Params):Obj:=⟨.none,none,(.fields [].toArray), #[]⟩
noncomputable def o140 (P:Params):Obj:=⟨(.type "tuple"),none,(.seq [(.str (Str.ofString "self") 458),(.str (Str.ofString "fws") 459),(.str (Str.ofString "string") 460)].toArray 0), #[]⟩
noncomputable def o141 (P:Params):Obj:=⟨(.type "tuple"),none,(.seq [].toArray 0), #[]⟩
noncomputable def o142 (P:Params):Obj:=⟨.none,none,(fnA (stM 7 1) (Str.ofString "_Accumulator.push") 0 [] .none .none .none .none none .none .none 0), #[]⟩
noncomputable def o143 (P:Params):Obj:=⟨(.type "code"),none,(.fields [(.str (Str.ofString "push") 455),(.str (Str.ofString "_Accumulator.push") 456),(.str (Str.ofString "/claim/cut.py") 457),(.int 87 0),(.int 3 0),(.int 0 0),(.int 0 0),(.int 3 0),(.ref 138),(.bool true),(.int 276 0),(.ref 139),.none,(.ref 140),(.ref 141),(.ref 142),(.int 461 0),(.int 87 0),(.str (Str.ofString "/claim/cut.py") 462)].toArray), #[]⟩
noncomputable def o144 (P:Params):Obj:=⟨(.type "function"),none,(fnL (stM 7 1) rfl (Str.ofString "_Accumulator.push") 3 [] .none .none .none (.str (Str.ofString "cpy313.email.header") 289) none (.ref 143) .none 0), #[]⟩
noncomputable def o145 (P:Params):Obj:=⟨(.type "tuple"),none,(.seq [(.int 0 464)].toArray 0), #[]⟩
noncomputable def o146 (P:Params):Obj:=⟨(.type "tuple"),none,(.seq [].toArray 0), #[]⟩
noncomputable def o147 (P:Params):Obj:=⟨.none,none,(.fields [].toArray), #[]⟩
noncomputable def o148 (P:Params):Obj:=⟨(.type "tuple"),none,(.seq [(.str (Str.ofString "self") 468),(.str (Str.ofString "i") 469),(.str (Str.ofString "popped") 470)].toArray 0), #[]⟩
noncomputable def o149 (P:Params):Obj:=⟨(.type "tuple"),none,(.seq [].toArray 0), #[]⟩
noncomputable def o150 (P:Params):Obj:=⟨.none,none,(fnA (stM 7 2) (Str.ofString "_Accumulator.pop_from") 0 [] .none .none .none .none none .none .none 0), #[]⟩
noncomputable def o151 (P:Params):Obj:=⟨(.type "code"),none,(.fields [(.str (Str.ofString "pop_from") 465),(.str (Str.ofString "_Accumulator.pop_from") 466),(.str (Str.ofString "/claim/cut.py") 467),(.int 90 0),(.int 2 0),(.int 0 0),(.int 0 0),(.int 3 0),(.ref 146),(.bool true),(.int 276 0),(.ref 147),.none,(.ref 148),(.ref 149),(.ref 150),(.int 471 0),(.int 90 0),(.str (Str.ofString "/claim/cut.py") 472)].toArray), #[]⟩
noncomputable def o152 (P:Params):Obj:=⟨(.type "function"),none,(fnL (stM 7 2) rfl (Str.ofString "_Accumulator.pop_from") 3 [] (.ref 145) .none .none (.str (Str.ofString "cpy313.email.header") 289) none (.ref 151) .none 0), #[]⟩
noncomputable def o153 (P:Params):Obj:=⟨(.type "tuple"),none,(.seq [(.ref 124)].toArray 0), #[]⟩
noncomputable def o154 (P:Params):Obj:=⟨(.type "tuple"),none,(.seq [(.str (Str.ofString "__class__") 477)].toArray 0), #[]⟩
noncomputable def o155 (P:Params):Obj:=⟨.none,none,(.fields [].toArray), #[]⟩
noncomputable def o156 (P:Params):Obj:=⟨(.type "tuple"),none,(.seq [(.str (Str.ofString "self") 478)].toArray 0), #[]⟩
noncomputable def o157 (P:Params):Obj:=⟨(.type "tuple"),none,(.seq [].toArray 0), #[]⟩
noncomputable def o158 (P:Params):Obj:=⟨.none,none,(fnA (stM 7 3) (Str.ofString "_Accumulator.pop") 0 [] .none .none .none .none none .none .none 0), #[]⟩
noncomputable def o159 (P:Params):Obj:=⟨(.type "code"),none,(.fields [(.str (Str.ofString "pop") 474),(.str (Str.ofString "_Accumulator.pop") 475),(.str (Str.ofString "/claim/cut.py") 476),(.int 95 0),(.int 1 0),(.int 0 0),(.int 0 0),(.int 3 0),(.ref 154),(.bool true),(.int 276 0),(.ref 155),.none,(.ref 156),(.ref 157),(.ref 158),(.int 479 0),(.int 95 0),(.str (Str.ofString "/claim/cut.py") 480)].toArray), #[]⟩
noncomputable def o160 (P:Params):Obj:=⟨(.type "function"),none,(fnL (stM 7 3) rfl (Str.ofString "_Accumulator.pop") 3 [((Str.ofString "__class__"),124)] .none .none .none (.str (Str.ofString "cpy313.email.header") 289) none (.ref 159) (.ref 153) 0), #[]⟩
noncomputable def o161 (P:Params):Obj:=⟨(.type "tuple"),none,(.seq [].toArray 0), #[]⟩
noncomputable def o162 (P:Params):Obj:=⟨.none,none,(.fields [].toArray), #[]⟩
noncomputable def o163 (P:Params):Obj:=⟨(.type "tuple"),none,(.seq [(.str (Str.ofString "self") 485)].toArray 0), #[]⟩
noncomputable def o164 (P:Params):Obj:=⟨(.type "tuple"),none,(.seq [].toArray 0), #[]⟩
noncomputable def o165 (P:Params):Obj:=⟨.none,none,(fnA (stM 7 4) (Str.ofString "_Accumulator.__len__") 0 [] .none .none .none .none none .none .none 0), #[]⟩
noncomputable def o166 (P:Params):Obj:=⟨(.type "code"),none,(.fields [(.str (Str.ofString "__len__") 482),(.str (Str.ofString "_Accumulator.__len__") 483),(.str (Str.ofString "/claim/cut.py") 484),(.int 100 0),(.int 1 0),(.int 0 0),(.int 0 0),(.int 3 0),(.ref 161),(.bool true),(.int 276 0),(.ref 162),.none,(.ref 163),(.ref 164),(.ref 165),(.int 486 0),(.int 100 0),(.str (Str.ofString "/claim/cut.py") 487)].toArray), #[]⟩
noncomputable def o167 (P:Params):Obj:=⟨(.type "function"),none,(fnL (stM 7 4) rfl (Str.ofString "_Accumulator.__len__") 3 [] .none .none .none (.str (Str.ofString "cpy313.email.header") 289) none (.ref 166) .none 0), #[]⟩
noncomputable def o168 (P:Params):Obj:=⟨(.type "tuple"),none,(.seq [].toArray 0), #[]⟩
noncomputable def o169 (P:Params):Obj:=⟨.none,none,(.fields [].toArray), #[]⟩
noncomputable def o170 (P:Params):Obj:=⟨(.type "tuple"),none,(.seq [(.str (Str.ofString "self") 492)].toArray 0), #[]⟩
noncomputable def o171 (P:Params):Obj:=⟨(.type "tuple"),none,(.seq [].toArray 0), #[]⟩
noncomputable def o172 (P:Params):Obj:=⟨.none,none,(fnA (stM 7 5) (Str.ofString "_Accumulator.__str__") 0 [] .none .none .none .none none .none .none 0), #[]⟩
noncomputable def o173 (P:Params):Obj:=⟨(.type "code"),none,(.fields [(.str (Str.ofString "__str__") 489),(.str (Str.ofString "_Accumulator.__str__") 490),(.str (Str.ofString "/claim/cut.py") 491),(.int 103 0),(.int 1 0),(.int 0 0),(.int 0 0),(.int 3 0),(.ref 168),(.bool true),(.int 276 0),(.ref 169),.none,(.ref 170),(.ref 171),(.ref 172),(.int 493 0),(.int 103 0),(.str (Str.ofString "/claim/cut.py") 494)].toArray), #[]⟩
noncomputable def o174 (P:Params):Obj:=⟨(.type "function"),none,(fnL (stM 7 5) rfl (Str.ofString "_Accumulator.__str__") 3 [] .none .none .none (.str (Str.ofString "cpy313.email.header") 289) none (.ref 173) .none 0), #[]⟩
noncomputable def o175 (P:Params):Obj:=⟨(.type "tuple"),none,(.seq [.none].toArray 0), #[]⟩
noncomputable def o176 (P:Params):Obj:=⟨(.type "tuple"),none,(.seq [].toArray 0), #[]⟩
noncomputable def o177 (P:Params):Obj:=⟨.none,none,(.fields [].toArray), #[]⟩
noncomputable def o178 (P:Params):Obj:=⟨(.type "tuple"),none,(.seq [(.str (Str.ofString "self") 499),(.str (Str.ofString "startval") 500)].toArray 0), #[]⟩
noncomputable def o179 (P:Params):Obj:=⟨(.type "tuple"),none,(.seq [].toArray 0), #[]⟩
noncomputable def o180 (P:Params):Obj:=⟨.none,none,(fnA (stM 7 6) (Str.ofString "_Accumulator.reset") 0 [] .none .none .none .none none .none .none 0), #[]⟩
noncomputable def o181 (P:Params):Obj:=⟨(.type "code"),none,(.fields [(.str (Str.ofString "reset") 496),(.str (Str.ofString "_Accumulator.reset") 497),(.str (Str.ofString "/claim/cut.py") 498),(.int 106 0),(.int 2 0),(.int 0 0),(.int 0 0),(.int 3 0),(.ref 176),(.bool true),(.int 276 0),(.ref 177),.none,(.ref 178),(.ref 179),(.ref 180),(.int 501 0),(.int 106 0),(.str (Str.ofString "/claim/cut.py") 502)].toArray), #[]⟩
noncomputable def o182 (P:Params):Obj:=⟨(.type "function"),none,(fnL (stM 7 6) rfl (Str.ofString "_Accumulator.reset") 3 [] (.ref 175) .none .none (.str (Str.ofString "cpy313.email.header") 289) none (.ref 181) .none 0), #[]⟩
noncomputable def o183 (P:Params):Obj:=⟨(.type "tuple"),none,(.seq [].toArray 0), #[]⟩
noncomputable def o184 (P:Params):Obj:=⟨.none,none,(.fields [].toArray), #[]⟩
noncomputable def o185 (P:Params):Obj:=⟨(.type "tuple"),none,(.seq [(.str (Str.ofString "self") 507)].toArray 0), #[]⟩
noncomputable def o186 (P:Params):Obj:=⟨(.type "tuple"),none,(.seq [].toArray 0), #[]⟩
noncomputable def o187 (P:Params):Obj:=⟨.none,none,(fnA (stM 7 7) (Str.ofString "_Accumulator.is_onlyws") 0 [] .none .none .none .none none .none .none 0), #[]⟩
noncomputable def o188 (P:Params):Obj:=⟨(.type "code"),none,(.fields [(.str (Str.ofString "is_onlyws") 504),(.str (Str.ofString "_Accumulator.is_onlyws") 505),(.str (Str.ofString "/claim/cut.py") 506),(.int 112 0),(.int 1 0),(.int 0 0),(.int 0 0),(.int 3 0),(.ref 183),(.bool true),(.int 276 0),(.ref 184),.none,(.ref 185),(.ref 186),(.ref 187),(.int 508 0),(.int 112 0),(.str (Str.ofString "/claim/cut.py") 509)].toArray), #[]⟩
noncomputable def o189 (P:Params):Obj:=⟨(.type "function"),none,(fnL (stM 7 7) rfl (Str.ofString "_Accumulator.is_onlyws") 3 [] .none .none .none (.str (Str.ofString "cpy313.email.header") 289) none (.ref 188) .none 0), #[]⟩
noncomputable def o190 (P:Params):Obj:=⟨(.type "tuple"),none,(.seq [(.ref 124)].toArray 0), #[]⟩
noncomputable def o191 (P:Params):Obj:=⟨(.type "tuple"),none,(.seq [(.str (Str.ofString "__class__") 514)].toArray 0), #[]⟩
noncomputable def o192 (P:Params):Obj:=⟨.none,none,(.fields [].toArray), #[]⟩
noncomputable def o193 (P:Params):Obj:=⟨(.type "tuple"),none,(.seq [(.str (Str.ofString "self") 515)].toArray 0), #[]⟩
noncomputable def o194 (P:Params):Obj:=⟨(.type "tuple"),none,(.seq [].toArray 0), #[]⟩
noncomputable def o195 (P:Params):Obj:=⟨.none,none,(fnA (stM 7 8) (Str.ofString "_Accumulator.part_count") 0 [] .none .none .none .none none .none .none 0), #[]⟩
noncomputable def o196 (P:Params):Obj:=⟨(.type "code"),none,(.fields [(.str (Str.ofString "part_count") 511),(.str (Str.ofString "_Accumulator.part_count") 512),(.str (Str.ofString "/claim/cut.py") 513),(.int 115 0),(.int 1 0),(.int 0 0),(.int 0 0),(.int 3 0),(.ref 191),(.bool true),(.int 276 0),(.ref 192),.none,(.ref 193),(.ref 194),(.ref 195),(.int 516 0),(.int 115 0),(.str (Str.ofString "/claim/cut.py") 517)].toArray), #[]⟩
noncomputable def o197 (P:Params):Obj:=⟨(.type "function"),none,(fnL (stM 7 8) rfl (Str.ofString "_Accumulator.part_count") 3 [((Str.ofString "__class__"),124)] .none .none .none (.str (Str.ofString "cpy313.email.header") 289) none (.ref 196) (.ref 190) 0), #[]⟩
noncomputable def o198 (P:Params):Obj:=⟨(.type "tuple"),none,(.seq [(.str (Str.ofString "_initial_size") 519)].toArray 0), #[]⟩
noncomputable def o199 (P:Params):Obj:=⟨(.type "dict"),none,(.dict [dE P "__module__" 440 (.str (Str.ofString "cpy313.email.header") 289),dE P "__firstlineno__" 444 (.int 81 443),dE P "__init__" 454 (.ref 137),dE P "push" 463 (.ref 144),dE P "pop_from" 473 (.ref 152),dE P "pop" 481 (.ref 160),dE P "__len__" 488 (.ref 167),dE P "__str__" 495 (.ref 174),dE P "reset" 503 (.ref 182),dE P "is_onlyws" 510 (.ref 189),dE P "part_count" 518 (.ref 197),dE P "__static_attributes__" 520 (.ref 198),dE P "__dict__" 523 (.ref 201),dE P "__weakref__" 525 (.ref 202),dE P "__doc__" 526 (.none)].toArray 5), #[]⟩
noncomputable def o200 (P:Params):Obj:=⟨(.type "type"),none,(.cls { name:=(Str.ofString "_Accumulator"),bases:=[(.type "list")],mro:=[(.ref 200),(.type "list"),(.type "object")],ns:=199,qualname:=(Str.ofString "_Accumulator"),hasDict:=true,slotNames:=[],subclasses:=[],abstract:=false,collection:=none,hasDel:=false }),[some (.ref 121),none,some (.str (Str.ofString "_Accumulator") 433),some (.str (Str.ofString "_Accumulator") 441),some (.builtin "list.__new__"),some (.bool true)].toArray⟩
noncomputable def o201 (P:Params):Obj:=⟨(.type "getset_descriptor"),none,(.fields [(.str (Str.ofString "__dict__") 522),(.ref 200),(.builtin "function.__dict__"),(.builtin "function.__dict__#set")].toArray), #[]⟩
noncomputable def o202 (P:Params):Obj:=⟨(.type "getset_descriptor"),none,(.fields [(.str (Str.ofString "__weakref__") 524),(.ref 200),(.builtin "ExceptionGroup.__weakref__"),.none].toArray), #[]⟩
noncomputable def o203 (P:Params):Obj:=⟨(.type "super"),none,(.fields [(.ref 200),(.ref 200),(.ref 200)].toArray), #[]⟩
noncomputable def o204 (P:Params):Obj:=⟨(.type "builtin_function_or_method"),none,(.fields [(.builtin "object.__init_subclass__"),(.ref 200)].toArray), #[]⟩
noncomputable def o205 (P:Params):Obj:=⟨(.type "list"),none,(.seq [(.int 173 531),(.int 847 532),(.int 6150 533),(.int 6155 534),(.int 6156 535),(.int 6157 536),(.int 8203 537),(.int 8204 538),(.int 8205 539),(.int 8288 540),(.int 65279 541)].toArray 0), #[]⟩
noncomputable def o206 (P:Params):Obj:=⟨(.type "range"),none,(.fields [(.int 65024 542),(.int 65040 543),(.int 1 544)].toArray), #[]⟩
noncomputable def o207 (P:Params):Obj:=⟨(.type "list"),none,(.seq [(.int 65024 547),(.int 65025 548),(.int 65026 549),(.int 65027 550),(.int 65028 551),(.int 65029 552),(.int 65030 553),(.int 65031 554),(.int 65032 555),(.int 65033 556),(.int 65034 557),(.int 65035 558),(.int 65036 559),(.int 65037 560),(.int 65038 561),(.int 65039 562)].toArray 18), #[]⟩
noncomputable def o208 (P:Params):Obj:=⟨(.type "range_iterator"),none,(.fields [(.int 65040 0),(.int 0 0),(.int 1 0)].toArray), #[]⟩
noncomputable def o209 (P:Params):Obj:=⟨(.type "tuple"),none,(.seq [].toArray 0), #[]⟩
noncomputable def o210 (P:Params):Obj:=⟨(.type "StopIteration"),none,(.fields [(.ref 209),.none,.none,.none,(.bool false),.none].toArray), #[]⟩
noncomputable def o211 (P:Params):Obj:=⟨(.type "list"),none,(.seq [(.int 173 531),(.int 847 532),(.int 6150 533),(.int 6155 534),(.int 6156 535),(.int 6157 536),(.int 8203 537),(.int 8204 538),(.int 8205 539),(.int 8288 540),(.int 65279 541),(.int 65024 547),(.int 65025 548),(.int 65026 549),(.int 65027 550),(.int 65028 551),(.int 65029 552),(.int 65030 553),(.int 65031 554),(.int 65032 555),(.int 65033 556),(.int 65034 557),(.int 65035 558),(.int 65036 559),(.int 65037 560),(.int 65038 561),(.int 65039 562)].toArray 0), #[]⟩
noncomputable def o212 (P:Params):Obj:=⟨(.type "set"),none,(.set [(65024,(.int 65024 547)),(65025,(.int 65025 548)),(65026,(.int 65026 549)),(65027,(.int 65027 550)),(65028,(.int 65028 551)),(65029,(.int 65029 552)),(6150,(.int 6150 533)),(65030,(.int 65030 553)),(65031,(.int 65031 554)),(65032,(.int 65032 555)),(65033,(.int 65033 556)),(6155,(.int 6155 534)),(6156,(.int 6156 535)),(6157,(.int 6157 536)),(8203,(.int 8203 537)),(8204,(.int 8204 538)),(8205,(.int 8205 539)),(65034,(.int 65034 557)),(65035,(.int 65035 558)),(65036,(.int 65036 559)),(65037,(.int 65037 560)),(65038,(.int 65038 561)),(65039,(.int 65039 562)),(173,(.int 173 531)),(847,(.int 847 532)),(8288,(.int 8288 540)),(65279,(.int 65279 541))].toArray 29 ⟨127,[0,1,2,3,4,5,6,7,8,9,10,11,12,13,14,15,16,17,18,19,20,21,22,45,79,96,127].toArray,[].toArray,0,!P.followText "set-order",2,true⟩), #[]⟩
noncomputable def o213 (P:Params):Obj:=⟨(.type "list_iterator"),none,(.fields [.none,(.int 27 0)].toArray), #[]⟩
noncomputable def o214 (P:Params):Obj:=⟨(.type "tuple"),none,(.seq [].toArray 0), #[]⟩
noncomputable def o215 (P:Params):Obj:=⟨(.type "StopIteration"),none,(.fields [(.ref 214),.none,.none,.none,(.bool false),.none].toArray), #[]⟩
noncomputable def o216 (P:Params):Obj:=⟨(.type "tuple"),none,(.seq [].toArray 0), #[]⟩
noncomputable def o217 (P:Params):Obj:=⟨.none,none,(.fields [].toArray), #[]⟩
noncomputable def o218 (P:Params):Obj:=⟨(.type "tuple"),none,(.seq [(.str (Str.ofString "code") 594)].toArray 0), #[]⟩
noncomputable def o219 (P:Params):Obj:=⟨(.type "tuple"),none,(.seq [].toArray 0), #[]⟩
noncomputable def o220 (P:Params):Obj:=⟨.none,none,(fnA (Q12 10) (Str.ofString "in_table_b1") 0 [] .none .none .none .none none .none .none 0), #[]⟩
noncomputable def o221 (P:Params):Obj:=⟨(.type "code"),none,(.fields [(.str (Str.ofString "in_table_b1") 591),(.str (Str.ofString "in_table_b1") 592),(.str (Str.ofString "/claim/cut.py") 593),(.int 119 0),(.int 1 0),(.int 0 0),(.int 0 0),(.int 3 0),(.ref 216),(.bool true),(.int 276 0),(.ref 217),.none,(.ref 218),(.ref 219),(.ref 220),(.int 595 0),(.int 119 0),(.str (Str.ofString "/claim/cut.py") 596)].toArray), #[]⟩
noncomputable def o222 (P:Params):Obj:=⟨(.type "function"),none,(fnL (Q12 10) rfl (Str.ofString "in_table_b1") 3 [] .none .none .none (.str (Str.ofString "cpy313.stringprep") 529) none (.ref 221) .none 0), #[]⟩
noncomputable def o3s262 (P:Params):Obj:=⟨(.type "dict"),none,(.dict [dE P "__name__" 165 (.str (Str.ofString "cpy313.stringprep") 529),dE P "__doc__" 166 (.none),dE P "__package__" 167 (.none),dE P "__loader__" 168 (.builtin "__main__.__loader__#opaque"),dE P "__spec__" 169 (.none),dE P "__annotations__" 170 (.ref 6),dE P "__builtins__" 171 (.ref 4),dE P "__file__" 173 (.str (Str.ofString "/claim/cut.py") 172),dE P "__cached__" 174 (.none),dE P "_sre" 275 (.ref 12),dE P "_wall" 288 (.ref 38),dE P "_twin_re_1" 318 (.ref 43),dE P "NL" 320 (.str (Str.ofString "\n") 319),dE P "EMPTYSTRING" 322 (.str (Str.ofString "") 321),dE P "_ValueFormatter" 432 (.ref 116),dE P "_Accumulator" 528 (.ref 200),dE P "b1_set" 590 (.ref 212),dE P "in_table_b1" 597 (.ref 222),dE P "b3_exceptions" 2548 (.ref 223)].toArray 19), #[]⟩
noncomputable def o3 (P:Params):Obj:=⟨(.type "dict"),none,(.dict [dE P "__name__" 165 (.str (Str.ofString "law_xo0041_01") 2657),dE P "__doc__" 166 (.none),dE P "__package__" 167 (.none),dE P "__loader__" 168 (.builtin "__main__.__loader__#opaque"),dE P "__spec__" 169 (.none),dE P "__annotations__" 170 (.ref 6),dE P "__builtins__" 171 (.ref 4),dE P "__file__" 173 (.str (Str.ofString "/claim/cut.py") 172),dE P "__cached__" 174 (.none),dE P "_sre" 275 (.ref 12),dE P "_wall" 288 (.ref 38),dE P "_twin_re_1" 318 (.ref 43),dE P "NL" 320 (.str (Str.ofString "\n") 319),dE P "EMPTYSTRING" 322 (.str (Str.ofString "") 321),dE P "_ValueFormatter" 432 (.ref 116),dE P "_Accumulator" 528 (.ref 200),dE P "b1_set" 590 (.ref 212),dE P "in_table_b1" 597 (.ref 222),dE P "b3_exceptions" 2548 (.ref 223),dE P "map_table_b3" 2556 (.ref 268),dE P "in_table_c4" 2564 (.ref 275),dE P "c8_set" 2605 (.ref 289),dE P "in_table_c8" 2612 (.ref 299),dE P "_raise_serialization_error" 2621 (.ref 306),dE P "_escape_cdata" 2628 (.ref 313),dE P "_escape_attrib" 2635 (.ref 320),dE P "_escape_attrib_html" 2642 (.ref 327),dE P "_escape_cdata_c14n" 2649 (.ref 334),dE P "_escape_attrib_c14n" 2656 (.ref 341),dE P "_law_text" 2669 (.ref 348),dE P "_law_hands" 2680 (.ref 355),dE P "_law_written" 2696 (.ref 362),dE P "_law_rows" 2702 (.ref 367),dE P "_law_prepared" 2711 (.ref 374),dE P "law" 2717 (.ref 379)].toArray 35), #[]⟩
noncomputable def o29 (P:Params):Obj:=⟨.none,none,(.fields [(.int 2 0),(.int 0 0),(.ref 37),(.int 9 0),(.int 0 0),(.ref 49),(.int 81 0),(.int 0 0),(.ref 127),(.int 119 0),(.int 0 0),(.ref 221),(.int 122 0),(.int 0 0),(.ref 267),(.int 127 0),(.int 0 0),(.ref 274),(.int 135 0),(.int 0 0),(.ref 298),(.int 138 0),(.int 0 0),(.ref 305),(.int 140 0),(.int 0 0),(.ref 312),(.int 151 0),(.int 0 0),(.ref 319),(.int 170 0),(.int 0 0),(.ref 326),(.int 181 0),(.int 0 0),(.ref 333),(.int 194 0),(.int 0 0),(.ref 340),(.int 212 0),(.int 0 0),(.ref 347),(.int 219 0),(.int 0 0),(.ref 354),(.int 226 0),(.int 0 0),(.ref 361),(.int 243 0),(.int 0 0),(.ref 366),(.int 260 0),(.int 0 0),(.ref 373),(.int 268 0),(.int 0 0),(.ref 378)].toArray), #[]⟩
noncomputable def o262 (P:Params):Obj:=⟨(.type "tuple"),none,(.seq [].toArray 0), #[]⟩
noncomputable def o263 (P:Params):Obj:=⟨.none,none,(.fields [].toArray), #[]⟩
noncomputable def o264 (P:Params):Obj:=⟨(.type "tuple"),none,(.seq [(.str (Str.ofString "code") 2552),(.str (Str.ofString "r") 2553)].toArray 0), #[]⟩
noncomputable def o265 (P:Params):Obj:=⟨(.type "tuple"),none,(.seq [].toArray 0), #[]⟩
noncomputable def o266 (P:Params):Obj:=⟨.none,none,(fnA (Q12 12) (Str.ofString "map_table_b3") 0 [] .none .none .none .none none .none .none 0), #[]⟩
noncomputable def o267 (P:Params):Obj:=⟨(.type "code"),none,(.fields [(.str (Str.ofString "map_table_b3") 2549),(.str (Str.ofString "map_table_b3") 2550),(.str (Str.ofString "/claim/cut.py") 2551),(.int 122 0),(.int 1 0),(.int 0 0),(.int 0 0),(.int 3 0),(.ref 262),(.bool true),(.int 276 0),(.ref 263),.none,(.ref 264),(.ref 265),(.ref 266),(.int 2554 0),(.int 122 0),(.str (Str.ofString "/claim/cut.py") 2555)].toArray), #[]⟩
noncomputable def o268 (P:Params):Obj:=⟨(.type "function"),none,(fnL (Q12 12) rfl (Str.ofString "map_table_b3") 3 [] .none .none .none (.str (Str.ofString "cpy313.stringprep") 529) none (.ref 267) .none 0), #[]⟩
noncomputable def o269 (P:Params):Obj:=⟨(.type "tuple"),none,(.seq [].toArray 0), #[]⟩
noncomputable def o270 (P:Params):Obj:=⟨.none,none,(.fields [].toArray), #[]⟩
noncomputable def o271 (P:Params):Obj:=⟨(.type "tuple"),none,(.seq [(.str (Str.ofString "code") 2560),(.str (Str.ofString "c") 2561)].toArray 0), #[]⟩
noncomputable def o272 (P:Params):Obj:=⟨(.type "tuple"),none,(.seq [].toArray 0), #[]⟩
noncomputable def o273 (P:Params):Obj:=⟨.none,none,(fnA (Q12 13) (Str.ofString "in_table_c4") 0 [] .none .none .none .none none .none .none 0), #[]⟩
noncomputable def o274 (P:Params):Obj:=⟨(.type "code"),none,(.fields [(.str (Str.ofString "in_table_c4") 2557),(.str (Str.ofString "in_table_c4") 2558),(.str (Str.ofString "/claim/cut.py") 2559),(.int 127 0),(.int 1 0),(.int 0 0),(.int 0 0),(.int 3 0),(.ref 269),(.bool true),(.int 276 0),(.ref 270),.none,(.ref 271),(.ref 272),(.ref 273),(.int 2562 0),(.int 127 0),(.str (Str.ofString "/claim/cut.py") 2563)].toArray), #[]⟩
noncomputable def o275 (P:Params):Obj:=⟨(.type "function"),none,(fnL (Q12 13) rfl (Str.ofString "in_table_c4") 3 [] .none .none .none (.str (Str.ofString "cpy313.stringprep") 529) none (.ref 274) .none 0), #[]⟩
noncomputable def o276 (P:Params):Obj:=⟨(.type "list"),none,(.seq [(.int 832 2565),(.int 833 2566),(.int 8206 2567),(.int 8207 2568)].toArray 0), #[]⟩
noncomputable def o277 (P:Params):Obj:=⟨(.type "range"),none,(.fields [(.int 8234 2569),(.int 8239 2570),(.int 1 2571)].toArray), #[]⟩
noncomputable def o278 (P:Params):Obj:=⟨(.type "list"),none,(.seq [(.int 8234 2574),(.int 8235 2575),(.int 8236 2576),(.int 8237 2577),(.int 8238 2578)].toArray 7), #[]⟩
noncomputable def o279 (P:Params):Obj:=⟨(.type "range_iterator"),none,(.fields [(.int 8239 0),(.int 0 0),(.int 1 0)].toArray), #[]⟩
noncomputable def o280 (P:Params):Obj:=⟨(.type "tuple"),none,(.seq [].toArray 0), #[]⟩
noncomputable def o281 (P:Params):Obj:=⟨(.type "StopIteration"),none,(.fields [(.ref 280),.none,.none,.none,(.bool false),.none].toArray), #[]⟩
noncomputable def o282 (P:Params):Obj:=⟨(.type "list"),none,(.seq [(.int 832 2565),(.int 833 2566),(.int 8206 2567),(.int 8207 2568),(.int 8234 2574),(.int 8235 2575),(.int 8236 2576),(.int 8237 2577),(.int 8238 2578)].toArray 0), #[]⟩
noncomputable def o283 (P:Params):Obj:=⟨(.type "range"),none,(.fields [(.int 8298 2579),(.int 8304 2580),(.int 1 2581)].toArray), #[]⟩
noncomputable def o284 (P:Params):Obj:=⟨(.type "list"),none,(.seq [(.int 8298 2584),(.int 8299 2585),(.int 8300 2586),(.int 8301 2587),(.int 8302 2588),(.int 8303 2589)].toArray 8), #[]⟩
noncomputable def o285 (P:Params):Obj:=⟨(.type "range_iterator"),none,(.fields [(.int 8304 0),(.int 0 0),(.int 1 0)].toArray), #[]⟩
noncomputable def o286 (P:Params):Obj:=⟨(.type "tuple"),none,(.seq [].toArray 0), #[]⟩
noncomputable def o287 (P:Params):Obj:=⟨(.type "StopIteration"),none,(.fields [(.ref 286),.none,.none,.none,(.bool false),.none].toArray), #[]⟩
noncomputable def o288 (P:Params):Obj:=⟨(.type "list"),none,(.seq [(.int 832 2565),(.int 833 2566),(.int 8206 2567),(.int 8207 2568),(.int 8234 2574),(.int 8235 2575),(.int 8236 2576),(.int 8237 2577),(.int 8238 2578),(.int 8298 2584),(.int 8299 2585),(.int 8300 2586),(.int 8301 2587),(.int 8302 2588),(.int 8303 2589)].toArray 0), #[]⟩
noncomputable def o289 (P:Params):Obj:=⟨(.type "set"),none,(.set [(832,(.int 832 2565)),(833,(.int 833 2566)),(8234,(.int 8234 2574)),(8235,(.int 8235 2575)),(8236,(.int 8236 2576)),(8237,(.int 8237 2577)),(8206,(.int 8206 2567)),(8207,(.int 8207 2568)),(8238,(.int 8238 2578)),(8298,(.int 8298 2584)),(8299,(.int 8299 2585)),(8300,(.int 8300 2586)),(8301,(.int 8301 2587)),(8302,(.int 8302 2588)),(8303,(.int 8303 2589))].toArray 16 ⟨31,[0,1,10,11,12,13,14,15,16,17,18,19,20,21,22].toArray,[].toArray,0,!P.followText "set-order",1,true⟩), #[]⟩
noncomputable def o290 (P:Params):Obj:=⟨(.type "list_iterator"),none,(.fields [.none,(.int 15 0)].toArray), #[]⟩
noncomputable def o291 (P:Params):Obj:=⟨(.type "tuple"),none,(.seq [].toArray 0), #[]⟩
noncomputable def o292 (P:Params):Obj:=⟨(.type "StopIteration"),none,(.fields [(.ref 291),.none,.none,.none,(.bool false),.none].toArray), #[]⟩
noncomputable def o293 (P:Params):Obj:=⟨(.type "tuple"),none,(.seq [].toArray 0), #[]⟩
noncomputable def o294 (P:Params):Obj:=⟨.none,none,(.fields [].toArray), #[]⟩
noncomputable def o295 (P:Params):Obj:=⟨(.type "tuple"),none,(.seq [(.str (Str.ofString "code") 2609)].toArray 0), #[]⟩
noncomputable def o296 (P:Params):Obj:=⟨(.type "tuple"),none,(.seq [].toArray 0), #[]⟩
noncomputable def o297 (P:Params):Obj:=⟨.none,none,(fnA (Q12 15) (Str.ofString "in_table_c8") 0 [] .none .none .none .none none .none .none 0), #[]⟩
noncomputable def o298 (P:Params):Obj:=⟨(.type "code"),none,(.fields [(.str (Str.ofString "in_table_c8") 2606),(.str (Str.ofString "in_table_c8") 2607),(.str (Str.ofString "/claim/cut.py") 2608),(.int 135 0),(.int 1 0),(.int 0 0),(.int 0 0),(.int 3 0),(.ref 293),(.bool true),(.int 276 0),(.ref 294),.none,(.ref 295),(.ref 296),(.ref 297),(.int 2610 0),(.int 135 0),(.str (Str.ofString "/claim/cut.py") 2611)].toArray), #[]⟩
noncomputable def o299 (P:Params):Obj:=⟨(.type "function"),none,(fnL (Q12 15) rfl (Str.ofString "in_table_c8") 3 [] .none .none .none (.str (Str.ofString "cpy313.stringprep") 529) none (.ref 298) .none 0), #[]⟩
noncomputable def o300 (P:Params):Obj:=⟨(.type "tuple"),none,(.seq [].toArray 0), #[]⟩
noncomputable def o301 (P:Params):Obj:=⟨.none,none,(.fields [].toArray), #[]⟩
noncomputable def o302 (P:Params):Obj:=⟨(.type "tuple"),none,(.seq [(.str (Str.ofString "text") 2618)].toArray 0), #[]⟩
noncomputable def o303 (P:Params):Obj:=⟨(.type "tuple"),none,(.seq [].toArray 0), #[]⟩
noncomputable def o304 (P:Params):Obj:=⟨.none,none,(fnA (Q12 17) (Str.ofString "_raise_serialization_error") 0 [] .none .none .none .none none .none .none 0), #[]⟩
noncomputable def o305 (P:Params):Obj:=⟨(.type "code"),none,(.fields [(.str (Str.ofString "_raise_serialization_error") 2615),(.str (Str.ofString "_raise_serialization_error") 2616),(.str (Str.ofString "/claim/cut.py") 2617),(.int 138 0),(.int 1 0),(.int 0 0),(.int 0 0),(.int 3 0),(.ref 300),(.bool true),(.int 276 0),(.ref 301),.none,(.ref 302),(.ref 303),(.ref 304),(.int 2619 0),(.int 138 0),(.str (Str.ofString "/claim/cut.py") 2620)].toArray), #[]⟩
noncomputable def o306 (P:Params):Obj:=⟨(.type "function"),none,(fnL (Q12 17) rfl (Str.ofString "_raise_serialization_error") 3 [] .none .none .none (.str (Str.ofString "cpy313.xml.etree.ElementTree") 2613) none (.ref 305) .none 0), #[]⟩
noncomputable def o307 (P:Params):Obj:=⟨(.type "tuple"),none,(.seq [].toArray 0), #[]⟩
noncomputable def o308 (P:Params):Obj:=⟨.none,none,(.fields [].toArray), #[]⟩
noncomputable def o309 (P:Params):Obj:=⟨(.type "tuple"),none,(.seq [(.str (Str.ofString "text") 2625)].toArray 0), #[]⟩
noncomputable def o310 (P:Params):Obj:=⟨(.type "tuple"),none,(.seq [].toArray 0), #[]⟩
noncomputable def o311 (P:Params):Obj:=⟨.none,none,(fnA (Q12 18) (Str.ofString "_escape_cdata") 0 [] .none .none .none .none none .none .none 0), #[]⟩
noncomputable def o312 (P:Params):Obj:=⟨(.type "code"),none,(.fields [(.str (Str.ofString "_escape_cdata") 2622),(.str (Str.ofString "_escape_cdata") 2623),(.str (Str.ofString "/claim/cut.py") 2624),(.int 140 0),(.int 1 0),(.int 0 0),(.int 0 0),(.int 3 0),(.ref 307),(.bool true),(.int 276 0),(.ref 308),.none,(.ref 309),(.ref 310),(.ref 311),(.int 2626 0),(.int 140 0),(.str (Str.ofString "/claim/cut.py") 2627)].toArray), #[]⟩
noncomputable def o313 (P:Params):Obj:=⟨(.type "function"),none,(fnL (Q12 18) rfl (Str.ofString "_escape_cdata") 3 [] .none .none .none (.str (Str.ofString "cpy313.xml.etree.ElementTree") 2613) none (.ref 312) .none 0), #[]⟩
noncomputable def o314 (P:Params):Obj:=⟨(.type "tuple"),none,(.seq [].toArray 0), #[]⟩
noncomputable def o315 (P:Params):Obj:=⟨.none,none,(.fields [].toArray), #[]⟩
noncomputable def o316 (P:Params):Obj:=⟨(.type "tuple"),none,(.seq [(.str (Str.ofString "text") 2632)].toArray 0), #[]⟩
noncomputable def o317 (P:Params):Obj:=⟨(.type "tuple"),none,(.seq [].toArray 0), #[]⟩
noncomputable def o318 (P:Params):Obj:=⟨.none,none,(fnA (Q12 19) (Str.ofString "_escape_attrib") 0 [] .none .none .none .none none .none .none 0), #[]⟩
noncomputable def o319 (P:Params):Obj:=⟨(.type "code"),none,(.fields [(.str (Str.ofString "_escape_attrib") 2629),(.str (Str.ofString "_escape_attrib") 2630),(.str (Str.ofString "/claim/cut.py") 2631),(.int 151 0),(.int 1 0),(.int 0 0),(.int 0 0),(.int 3 0),(.ref 314),(.bool true),(.int 276 0),(.ref 315),.none,(.ref 316),(.ref 317),(.ref 318),(.int 2633 0),(.int 151 0),(.str (Str.ofString "/claim/cut.py") 2634)].toArray), #[]⟩
noncomputable def o320 (P:Params):Obj:=⟨(.type "function"),none,(fnL (Q12 19) rfl (Str.ofString "_escape_attrib") 3 [] .none .none .none (.str (Str.ofString "cpy313.xml.etree.ElementTree") 2613) none (.ref 319) .none 0), #[]⟩
noncomputable def o321 (P:Params):Obj:=⟨(.type "tuple"),none,(.seq [].toArray 0), #[]⟩
noncomputable def o322 (P:Params):Obj:=⟨.none,none,(.fields [].toArray), #[]⟩
noncomputable def o323 (P:Params):Obj:=⟨(.type "tuple"),none,(.seq [(.str (Str.ofString "text") 2639)].toArray 0), #[]⟩
noncomputable def o324 (P:Params):Obj:=⟨(.type "tuple"),none,(.seq [].toArray 0), #[]⟩
noncomputable def o325 (P:Params):Obj:=⟨.none,none,(fnA (Q12 20) (Str.ofString "_escape_attrib_html") 0 [] .none .none .none .none none .none .none 0), #[]⟩
noncomputable def o326 (P:Params):Obj:=⟨(.type "code"),none,(.fields [(.str (Str.ofString "_escape_attrib_html") 2636),(.str (Str.ofString "_escape_attrib_html") 2637),(.str (Str.ofString "/claim/cut.py") 2638),(.int 170 0),(.int 1 0),(.int 0 0),(.int 0 0),(.int 3 0),(.ref 321),(.bool true),(.int 276 0),(.ref 322),.none,(.ref 323),(.ref 324),(.ref 325),(.int 2640 0),(.int 170 0),(.str (Str.ofString "/claim/cut.py") 2641)].toArray), #[]⟩
noncomputable def o327 (P:Params):Obj:=⟨(.type "function"),none,(fnL (Q12 20) rfl (Str.ofString "_escape_attrib_html") 3 [] .none .none .none (.str (Str.ofString "cpy313.xml.etree.ElementTree") 2613) none (.ref 326) .none 0), #[]⟩
noncomputable def o328 (P:Params):Obj:=⟨(.type "tuple"),none,(.seq [].toArray 0), #[]⟩
noncomputable def o329 (P:Params):Obj:=⟨.none,none,(.fields [].toArray), #[]⟩
noncomputable def o330 (P:Params):Obj:=⟨(.type "tuple"),none,(.seq [(.str (Str.ofString "text") 2646)].toArray 0), #[]⟩
noncomputable def o331 (P:Params):Obj:=⟨(.type "tuple"),none,(.seq [].toArray 0), #[]⟩
noncomputable def o332 (P:Params):Obj:=⟨.none,none,(fnA (Q12 21) (Str.ofString "_escape_cdata_c14n") 0 [] .none .none .none .none none .none .none 0), #[]⟩
noncomputable def o333 (P:Params):Obj:=⟨(.type "code"),none,(.fields [(.str (Str.ofString "_escape_cdata_c14n") 2643),(.str (Str.ofString "_escape_cdata_c14n") 2644),(.str (Str.ofString "/claim/cut.py") 2645),(.int 181 0),(.int 1 0),(.int 0 0),(.int 0 0),(.int 3 0),(.ref 328),(.bool true),(.int 276 0),(.ref 329),.none,(.ref 330),(.ref 331),(.ref 332),(.int 2647 0),(.int 181 0),(.str (Str.ofString "/claim/cut.py") 2648)].toArray), #[]⟩
noncomputable def o334 (P:Params):Obj:=⟨(.type "function"),none,(fnL (Q12 21) rfl (Str.ofString "_escape_cdata_c14n") 3 [] .none .none .none (.str (Str.ofString "cpy313.xml.etree.ElementTree") 2613) none (.ref 333) .none 0), #[]⟩
noncomputable def o335 (P:Params):Obj:=⟨(.type "tuple"),none,(.seq [].toArray 0), #[]⟩
noncomputable def o336 (P:Params):Obj:=⟨.none,none,(.fields [].toArray), #[]⟩
noncomputable def o337 (P:Params):Obj:=⟨(.type "tuple"),none,(.seq [(.str (Str.ofString "text") 2653)].toArray 0), #[]⟩
noncomputable def o338 (P:Params):Obj:=⟨(.type "tuple"),none,(.seq [].toArray 0), #[]⟩
noncomputable def o339 (P:Params):Obj:=⟨.none,none,(fnA (Q12 22) (Str.ofString "_escape_attrib_c14n") 0 [] .none .none .none .none none .none .none 0), #[]⟩
noncomputable def o340 (P:Params):Obj:=⟨(.type "code"),none,(.fields [(.str (Str.ofString "_escape_attrib_c14n") 2650),(.str (Str.ofString "_escape_attrib_c14n") 2651),(.str (Str.ofString "/claim/cut.py") 2652),(.int 194 0),(.int 1 0),(.int 0 0),(.int 0 0),(.int 3 0),(.ref 335),(.bool true),(.int 276 0),(.ref 336),.none,(.ref 337),(.ref 338),(.ref 339),(.int 2654 0),(.int 194 0),(.str (Str.ofString "/claim/cut.py") 2655)].toArray), #[]⟩
noncomputable def o341 (P:Params):Obj:=⟨(.type "function"),none,(fnL (Q12 22) rfl (Str.ofString "_escape_attrib_c14n") 3 [] .none .none .none (.str (Str.ofString "cpy313.xml.etree.ElementTree") 2613) none (.ref 340) .none 0), #[]⟩
noncomputable def o342 (P:Params):Obj:=⟨(.type "tuple"),none,(.seq [].toArray 0), #[]⟩
noncomputable def o343 (P:Params):Obj:=⟨.none,none,(.fields [].toArray), #[]⟩
noncomputable def o344 (P:Params):Obj:=⟨(.type "tuple"),none,(.seq [(.str (Str.ofString "numbers") 2662),(.str (Str.ofString "signs") 2663),(.str (Str.ofString "gaps") 2664),(.str (Str.ofString "text") 2665),(.str (Str.ofString "n") 2666)].toArray 0), #[]⟩
noncomputable def o345 (P:Params):Obj:=⟨(.type "tuple"),none,(.seq [].toArray 0), #[]⟩
noncomputable def o346 (P:Params):Obj:=⟨.none,none,(fnA (Q12 24) (Str.ofString "_law_text") 0 [] .none .none .none .none none .none .none 0), #[]⟩
noncomputable def o347 (P:Params):Obj:=⟨(.type "code"),none,(.fields [(.str (Str.ofString "_law_text") 2659),(.str (Str.ofString "_law_text") 2660),(.str (Str.ofString "/claim/cut.py") 2661),(.int 212 0),(.int 1 0),(.int 0 0),(.int 0 0),(.int 3 0),(.ref 342),(.bool true),(.int 276 0),(.ref 343),.none,(.ref 344),(.ref 345),(.ref 346),(.int 2667 0),(.int 212 0),(.str (Str.ofString "/claim/cut.py") 2668)].toArray), #[]⟩
noncomputable def o348 (P:Params):Obj:=⟨(.type "function"),none,(fnL (Q12 24) rfl (Str.ofString "_law_text") 3 [] .none .none .none (.str (Str.ofString "law_xo0041_01") 2657) none (.ref 347) .none 0), #[]⟩
noncomputable def o349 (P:Params):Obj:=⟨(.type "tuple"),none,(.seq [].toArray 0), #[]⟩
noncomputable def o350 (P:Params):Obj:=⟨.none,none,(.fields [].toArray), #[]⟩
noncomputable def o351 (P:Params):Obj:=⟨(.type "tuple"),none,(.seq [(.str (Str.ofString "code") 2673),(.str (Str.ofString "pool") 2674),(.str (Str.ofString "hands") 2675),(.str (Str.ofString "left") 2676),(.str (Str.ofString "size") 2677)].toArray 0), #[]⟩
noncomputable def o352 (P:Params):Obj:=⟨(.type "tuple"),none,(.seq [].toArray 0), #[]⟩
noncomputable def o353 (P:Params):Obj:=⟨.none,none,(fnA (Q12 25) (Str.ofString "_law_hands") 0 [] .none .none .none .none none .none .none 0), #[]⟩
noncomputable def o354 (P:Params):Obj:=⟨(.type "code"),none,(.fields [(.str (Str.ofString "_law_hands") 2670),(.str (Str.ofString "_law_hands") 2671),(.str (Str.ofString "/claim/cut.py") 2672),(.int 219 0),(.int 1 0),(.int 0 0),(.int 0 0),(.int 3 0),(.ref 349),(.bool true),(.int 276 0),(.ref 350),.none,(.ref 351),(.ref 352),(.ref 353),(.int 2678 0),(.int 219 0),(.str (Str.ofString "/claim/cut.py") 2679)].toArray), #[]⟩
noncomputable def o355 (P:Params):Obj:=⟨(.type "function"),none,(fnL (Q12 25) rfl (Str.ofString "_law_hands") 3 [] .none .none .none (.str (Str.ofString "law_xo0041_01") 2657) none (.ref 354) .none 0), #[]⟩
noncomputable def o356 (P:Params):Obj:=⟨(.type "tuple"),none,(.seq [].toArray 0), #[]⟩
noncomputable def o357 (P:Params):Obj:=⟨.none,none,(.fields [].toArray), #[]⟩
noncomputable def o358 (P:Params):Obj:=⟨(.type "tuple"),none,(.seq [(.str (Str.ofString "sign") 2684),(.str (Str.ofString "hands") 2685),(.str (Str.ofString "wrote") 2686),(.str (Str.ofString "names") 2687),(.str (Str.ofString "tens") 2688),(.str (Str.ofString "folded") 2689),(.str (Str.ofString "shown") 2690),(.str (Str.ofString "name") 2691),(.str (Str.ofString "layers") 2692),(.str (Str.ofString "hand") 2693)].toArray 0), #[]⟩
noncomputable def o359 (P:Params):Obj:=⟨(.type "tuple"),none,(.seq [].toArray 0), #[]⟩
noncomputable def o360 (P:Params):Obj:=⟨.none,none,(fnA (Q12 26) (Str.ofString "_law_written") 0 [] .none .none .none .none none .none .none 0), #[]⟩
noncomputable def o361 (P:Params):Obj:=⟨(.type "code"),none,(.fields [(.str (Str.ofString "_law_written") 2681),(.str (Str.ofString "_law_written") 2682),(.str (Str.ofString "/claim/cut.py") 2683),(.int 226 0),(.int 2 0),(.int 0 0),(.int 0 0),(.int 3 0),(.ref 356),(.bool true),(.int 276 0),(.ref 357),.none,(.ref 358),(.ref 359),(.ref 360),(.int 2694 0),(.int 226 0),(.str (Str.ofString "/claim/cut.py") 2695)].toArray), #[]⟩
noncomputable def o362 (P:Params):Obj:=⟨(.type "function"),none,(fnL (Q12 26) rfl (Str.ofString "_law_written") 3 [] .none .none .none (.str (Str.ofString "law_xo0041_01") 2657) none (.ref 361) .none 0), #[]⟩
noncomputable def o363 (P:Params):Obj:=⟨(.type "tuple"),none,(.seq [].toArray 0), #[]⟩
noncomputable def o364 (P:Params):Obj:=⟨.none,none,(.fields [].toArray), #[]⟩
noncomputable def o365 (P:Params):Obj:=⟨.none,none,(fnA (Q12 27) (Str.ofString "_law_rows") 0 [] .none .none .none .none none .none .none 0), #[]⟩
noncomputable def o366 (P:Params):Obj:=⟨(.type "code"),none,(.fields [(.str (Str.ofString "_law_rows") 2697),(.str (Str.ofString "_law_rows") 2698),(.str (Str.ofString "/claim/cut.py") 2699),(.int 243 0),(.int 4 0),(.int 0 0),(.int 0 0),(.int 3 0),(.ref 363),(.bool true),(.int 276 0),(.ref 364),.none,.none,.none,(.ref 365),(.int 2700 0),(.int 243 0),(.str (Str.ofString "/claim/cut.py") 2701)].toArray), #[]⟩
noncomputable def o367 (P:Params):Obj:=⟨(.type "function"),none,(fnL (Q12 27) rfl (Str.ofString "_law_rows") 3 [] .none .none .none (.str (Str.ofString "law_xo0041_01") 2657) none (.ref 366) .none 0), #[]⟩
noncomputable def o368 (P:Params):Obj:=⟨(.type "tuple"),none,(.seq [].toArray 0), #[]⟩
noncomputable def o369 (P:Params):Obj:=⟨.none,none,(.fields [].toArray), #[]⟩
noncomputable def o370 (P:Params):Obj:=⟨(.type "tuple"),none,(.seq [(.str (Str.ofString "text") 2706),(.str (Str.ofString "kept") 2707),(.str (Str.ofString "sign") 2708)].toArray 0), #[]⟩
noncomputable def o371 (P:Params):Obj:=⟨(.type "tuple"),none,(.seq [].toArray 0), #[]⟩
noncomputable def o372 (P:Params):Obj:=⟨.none,none,(fnA (Q12 28) (Str.ofString "_law_prepared") 0 [] .none .none .none .none none .none .none 0), #[]⟩
noncomputable def o373 (P:Params):Obj:=⟨(.type "code"),none,(.fields [(.str (Str.ofString "_law_prepared") 2703),(.str (Str.ofString "_law_prepared") 2704),(.str (Str.ofString "/claim/cut.py") 2705),(.int 260 0),(.int 1 0),(.int 0 0),(.int 0 0),(.int 3 0),(.ref 368),(.bool true),(.int 276 0),(.ref 369),.none,(.ref 370),(.ref 371),(.ref 372),(.int 2709 0),(.int 260 0),(.str (Str.ofString "/claim/cut.py") 2710)].toArray), #[]⟩
noncomputable def o374 (P:Params):Obj:=⟨(.type "function"),none,(fnL (Q12 28) rfl (Str.ofString "_law_prepared") 3 [] .none .none .none (.str (Str.ofString "law_xo0041_01") 2657) none (.ref 373) .none 0), #[]⟩
noncomputable def o375 (P:Params):Obj:=⟨(.type "tuple"),none,(.seq [].toArray 0), #[]⟩
noncomputable def o376 (P:Params):Obj:=⟨.none,none,(.fields [].toArray), #[]⟩
noncomputable def o377 (P:Params):Obj:=⟨.none,none,(fnA (Q12 29) (Str.ofString "law") 0 [] .none .none .none .none none .none .none 0), #[]⟩
noncomputable def o378 (P:Params):Obj:=⟨(.type "code"),none,(.fields [(.str (Str.ofString "law") 2712),(.str (Str.ofString "law") 2713),(.str (Str.ofString "/claim/cut.py") 2714),(.int 268 0),(.int 1 0),(.int 0 0),(.int 0 0),(.int 3 0),(.ref 375),(.bool true),(.int 276 0),(.ref 376),.none,.none,.none,(.ref 377),(.int 2715 0),(.int 268 0),(.str (Str.ofString "/claim/cut.py") 2716)].toArray), #[]⟩
noncomputable def o379 (P:Params):Obj:=⟨(.type "function"),none,(fnL (Q12 29) rfl (Str.ofString "law") 3 [] .none .none .none (.str (Str.ofString "law_xo0041_01") 2657) none (.ref 378) .none 0), #[]⟩
noncomputable def T28 (P:Params):BT:=(.node (o0 P) (.node (o1 P) (.node (Q4l P) (.node (o7 P) (.node (o15 P) .nil .nil) (.node (o23 P) .nil .nil)) (.node (o11 P) (.node (o19 P) .nil .nil) (.node (o27 P) .nil .nil))) (.node (o5 P) (.node (o9 P) (.node (o17 P) .nil .nil) (.node (o25 P) .nil .nil)) (.node (o13 P) (.node (o21 P) .nil .nil) .nil))) (.node (Q30 P) (.node (o4 P) (.node (o8 P) (.node (o16 P) .nil .nil) (.node (o24 P) .nil .nil)) (.node (o12 P) (.node (o20 P) .nil .nil) .nil)) (.node (o6 P) (.node (o10 P) (.node (o18 P) .nil .nil) (.node (o26 P) .nil .nil)) (.node (o14 P) (.node (o22 P) .nil .nil) .nil))))
noncomputable def T32 (P:Params):BT:=(.node (o0 P) (.node (o1 P) (.node (Q4l P) (.node (o7 P) (.node (o15 P) (.node (o31 P) .nil .nil) .nil) (.node (o23 P) .nil .nil)) (.node (o11 P) (.node (o19 P) .nil .nil) (.node (o27 P) .nil .nil))) (.node (o5 P) (.node (o9 P) (.node (o17 P) .nil .nil) (.node (o25 P) .nil .nil)) (.node (o13 P) (.node (o21 P) .nil .nil) (.node (o29s32 P) .nil .nil)))) (.node (Q30 P) (.node (o4 P) (.node (o8 P) (.node (o16 P) .nil .nil) (.node (o24 P) .nil .nil)) (.node (o12 P) (.node (o20 P) .nil .nil) (.node (o28 P) .nil .nil))) (.node (o6 P) (.node (o10 P) (.node (o18 P) .nil .nil) (.node (o26 P) .nil .nil)) (.node (o14 P) (.node (o22 P) .nil .nil) (.node (o30 P) .nil .nil)))))
noncomputable def Q2y (P:Params):BT:=(.node (o0 P) (.node (o1 P) (.node (Q2i P) (.node (o7 P) (.node (o15 P) (.node (o31 P) (.node (o63 P) (.node (o127 P) .nil .nil) (.node (o191 P) .nil .nil)) (.node (o95 P) (.node (o159 P) .nil .nil) .nil)) (.node (o47 P) (.node (o79 P) (.node (o143 P) .nil .nil) (.node (o207 P) .nil .nil)) (.node (o111 P) (.node (o175 P) .nil .nil) .nil))) (.node (o23 P) (.node (o39 P) (.node (o71 P) (.node (o135 P) .nil .nil) (.node (o199 P) .nil .nil)) (.node (o103 P) (.node (o167 P) .nil .nil) .nil)) (.node (o55 P) (.node (o87 P) (.node (o151 P) .nil .nil) (.node (o215 P) .nil .nil)) (.node (o119 P) (.node (o183 P) .nil .nil) .nil)))) (.node (o11 P) (.node (o19 P) (.node (o35 P) (.node (o67 P) (.node (o131 P) .nil .nil) (.node (o195 P) .nil .nil)) (.node (o99 P) (.node (o163 P) .nil .nil) .nil)) (.node (o51 P) (.node (o83 P) (.node (o147 P) .nil .nil) (.node (o211 P) .nil .nil)) (.node (o115 P) (.node (o179 P) .nil .nil) .nil))) (.node (o27 P) (.node (o43 P) (.node (o75 P) (.node (o139 P) .nil .nil) (.node (o203 P) .nil .nil)) (.node (o107 P) (.node (o171 P) .nil .nil) .nil)) (.node (o59 P) (.node (o91 P) (.node (o155 P) .nil .nil) (.node (o219 P) .nil .nil)) (.node (o123 P) (.node (o187 P) .nil .nil) .nil))))) (.node (o5 P) (.node (o9 P) (.node (o17 P) (.node (o33 P) (.node (o65 P) (.node (o129 P) .nil .nil) (.node (o193 P) .nil .nil)) (.node (o97 P) (.node (o161 P) .nil .nil) .nil)) (.node (o49 P) (.node (o81 P) (.node (o145 P) .nil .nil) (.node (o209 P) .nil .nil)) (.node (o113 P) (.node (o177 P) .nil .nil) .nil))) (.node (o25 P) (.node (o41 P) (.node (o73 P) (.node (o137 P) .nil .nil) (.node (o201 P) .nil .nil)) (.node (o105 P) (.node (o169 P) .nil .nil) .nil)) (.node (o57 P) (.node (o89 P) (.node (o153 P) .nil .nil) (.node (o217 P) .nil .nil)) (.node (o121 P) (.node (o185 P) .nil .nil) .nil)))) (.node (o13 P) (.node (o21 P) (.node (o37 P) (.node (o69 P) (.node (o133 P) .nil .nil) (.node (o197 P) .nil .nil)) (.node (o101 P) (.node (o165 P) .nil .nil) .nil)) (.node (o53 P) (.node (o85 P) (.node (o149 P) .nil .nil) (.node (o213 P) .nil .nil)) (.node (o117 P) (.node (o181 P) .nil .nil) .nil))) (.node (Q3i P) (.node (o45 P) (.node (o77 P) (.node (o141 P) .nil .nil) (.node (o205 P) .nil .nil)) (.node (o109 P) (.node (o173 P) .nil .nil) .nil)) (.node (o61 P) (.node (o93 P) (.node (o157 P) .nil .nil) (.node (o221 P) .nil .nil)) (.node (o125 P) (.node (o189 P) .nil .nil) .nil)))))) (.node (Q30 P) (.node (o4 P) (.node (o8 P) (.node (o16 P) (.node (o32 P) (.node (o64 P) (.node (o128 P) .nil .nil) (.node (o192 P) .nil .nil)) (.node (o96 P) (.node (o160 P) .nil .nil) .nil)) (.node (o48 P) (.node (o80 P) (.node (o144 P) .nil .nil) (.node (o208 P) .nil .nil)) (.node (o112 P) (.node (o176 P) .nil .nil) .nil))) (.node (o24 P) (.node (o40 P) (.node (o72 P) (.node (o136 P) .nil .nil) (.node (o200 P) .nil .nil)) (.node (o104 P) (.node (o168 P) .nil .nil) .nil)) (.node (o56 P) (.node (o88 P) (.node (o152 P) .nil .nil) (.node (o216 P) .nil .nil)) (.node (o120 P) (.node (o184 P) .nil .nil) .nil)))) (.node (o12 P) (.node (o20 P) (.node (o36 P) (.node (o68 P) (.node (o132 P) .nil .nil) (.node (o196 P) .nil .nil)) (.node (o100 P) (.node (o164 P) .nil .nil) .nil)) (.node (o52 P) (.node (o84 P) (.node (o148 P) .nil .nil) (.node (o212 P) .nil .nil)) (.node (o116 P) (.node (o180 P) .nil .nil) .nil))) (.node (o28 P) (.node (o44 P) (.node (o76 P) (.node (o140 P) .nil .nil) (.node (o204 P) .nil .nil)) (.node (o108 P) (.node (o172 P) .nil .nil) .nil)) (.node (o60 P) (.node (o92 P) (.node (o156 P) .nil .nil) (.node (o220 P) .nil .nil)) (.node (o124 P) (.node (o188 P) .nil .nil) .nil))))) (.node (o6 P) (.node (o10 P) (.node (o18 P) (.node (o34 P) (.node (o66 P) (.node (o130 P) .nil .nil) (.node (o194 P) .nil .nil)) (.node (o98 P) (.node (o162 P) .nil .nil) .nil)) (.node (o50 P) (.node (o82 P) (.node (o146 P) .nil .nil) (.node (o210 P) .nil .nil)) (.node (o114 P) (.node (o178 P) .nil .nil) .nil))) (.node (o26 P) (.node (o42 P) (.node (o74 P) (.node (o138 P) .nil .nil) (.node (o202 P) .nil .nil)) (.node (o106 P) (.node (o170 P) .nil .nil) .nil)) (.node (o58 P) (.node (o90 P) (.node (o154 P) .nil .nil) (.node (o218 P) .nil .nil)) (.node (o122 P) (.node (o186 P) .nil .nil) .nil)))) (.node (o14 P) (.node (o22 P) (.node (o38 P) (.node (o70 P) (.node (o134 P) .nil .nil) (.node (o198 P) .nil .nil)) (.node (o102 P) (.node (o166 P) .nil .nil) .nil)) (.node (o54 P) (.node (o86 P) (.node (o150 P) .nil .nil) (.node (o214 P) .nil .nil)) (.node (o118 P) (.node (o182 P) .nil .nil) .nil))) (.node (o30 P) (.node (o46 P) (.node (o78 P) (.node (o142 P) .nil .nil) (.node (o206 P) .nil .nil)) (.node (o110 P) (.node (o174 P) .nil .nil) .nil)) (.node (o62 P) (.node (o94 P) (.node (o158 P) .nil .nil) (.node (o222 P) .nil .nil)) (.node (o126 P) (.node (o190 P) .nil .nil) .nil)))))))
noncomputable def Q48 (P:Params):BT:=(.node (o0 P) (.node (o1 P) (.node (o3s262 P) (.node (o7 P) (.node (o15 P) (.node (o31 P) (.node (o63 P) (.node (o127 P) (.node (Q9 Q4 598 32) .nil .nil) .nil) (.node (o191 P) .nil .nil)) (.node (o95 P) (.node (o159 P) .nil .nil) (.node Q44 .nil .nil))) (.node (o47 P) (.node (o79 P) (.node (o143 P) .nil .nil) (.node (o207 P) .nil .nil)) (.node (o111 P) (.node (o175 P) .nil .nil) (.node (Q9 Q4 598 16) .nil .nil)))) (.node (o23 P) (.node (o39 P) (.node (o71 P) (.node (o135 P) .nil .nil) (.node (o199 P) .nil .nil)) (.node (o103 P) (.node (o167 P) .nil .nil) (.node (Q9 Q4 598 8) .nil .nil))) (.node (o55 P) (.node (o87 P) (.node (o151 P) .nil .nil) (.node (o215 P) .nil .nil)) (.node (o119 P) (.node (o183 P) .nil .nil) (.node (Q9 Q4 598 24) .nil .nil))))) (.node (o11 P) (.node (o19 P) (.node (o35 P) (.node (o67 P) (.node (o131 P) (.node (Q9 Q4 598 36) .nil .nil) .nil) (.node (o195 P) .nil .nil)) (.node (o99 P) (.node (o163 P) .nil .nil) (.node (Q9 Q4 598 4) .nil .nil))) (.node (o51 P) (.node (o83 P) (.node (o147 P) .nil .nil) (.node (o211 P) .nil .nil)) (.node (o115 P) (.node (o179 P) .nil .nil) (.node (Q9 Q4 598 20) .nil .nil)))) (.node (o27 P) (.node (o43 P) (.node (o75 P) (.node (o139 P) .nil .nil) (.node (o203 P) .nil .nil)) (.node (o107 P) (.node (o171 P) .nil .nil) (.node (Q9 Q4 598 12) .nil .nil))) (.node (o59 P) (.node (o91 P) (.node (o155 P) .nil .nil) (.node (o219 P) .nil .nil)) (.node (o123 P) (.node (o187 P) .nil .nil) (.node (Q9 Q4 598 28) .nil .nil)))))) (.node (o5 P) (.node (o9 P) (.node (o17 P) (.node (o33 P) (.node (o65 P) (.node (o129 P) (.node (Q9 Q4 598 34) .nil .nil) .nil) (.node (o193 P) .nil .nil)) (.node (o97 P) (.node (o161 P) .nil .nil) (.node (Q9 Q4 598 2) .nil .nil))) (.node (o49 P) (.node (o81 P) (.node (o145 P) .nil .nil) (.node (o209 P) .nil .nil)) (.node (o113 P) (.node (o177 P) .nil .nil) (.node (Q9 Q4 598 18) .nil .nil)))) (.node (o25 P) (.node (o41 P) (.node (o73 P) (.node (o137 P) .nil .nil) (.node (o201 P) .nil .nil)) (.node (o105 P) (.node (o169 P) .nil .nil) (.node (Q9 Q4 598 10) .nil .nil))) (.node (o57 P) (.node (o89 P) (.node (o153 P) .nil .nil) (.node (o217 P) .nil .nil)) (.node (o121 P) (.node (o185 P) .nil .nil) (.node (Q9 Q4 598 26) .nil .nil))))) (.node (o13 P) (.node (o21 P) (.node (o37 P) (.node (o69 P) (.node (o133 P) (.node (Q1c (Q17 (Q4.drop 646) 2536) 4) .nil .nil) .nil) (.node (o197 P) .nil .nil)) (.node (o101 P) (.node (o165 P) .nil .nil) (.node (Q9 Q4 598 6) .nil .nil))) (.node (o53 P) (.node (o85 P) (.node (o149 P) .nil .nil) (.node (o213 P) .nil .nil)) (.node (o117 P) (.node (o181 P) .nil .nil) (.node (Q9 Q4 598 22) .nil .nil)))) (.node (Q3i P) (.node (o45 P) (.node (o77 P) (.node (o141 P) .nil .nil) (.node (o205 P) .nil .nil)) (.node (o109 P) (.node (o173 P) .nil .nil) (.node (Q9 Q4 598 14) .nil .nil))) (.node (o61 P) (.node (o93 P) (.node (o157 P) .nil .nil) (.node (o221 P) .nil .nil)) (.node (o125 P) (.node (o189 P) .nil .nil) (.node (Q9 Q4 598 30) .nil .nil))))))) (.node (Q30 P) (.node (o4 P) (.node (o8 P) (.node (o16 P) (.node (o32 P) (.node (o64 P) (.node (o128 P) (.node (Q9 Q4 598 33) .nil .nil) .nil) (.node (o192 P) .nil .nil)) (.node (o96 P) (.node (o160 P) .nil .nil) (.node (Q9 Q4 598 1) .nil .nil))) (.node (o48 P) (.node (o80 P) (.node (o144 P) .nil .nil) (.node (o208 P) .nil .nil)) (.node (o112 P) (.node (o176 P) .nil .nil) (.node (Q9 Q4 598 17) .nil .nil)))) (.node (o24 P) (.node (o40 P) (.node (o72 P) (.node (o136 P) .nil .nil) (.node (o200 P) .nil .nil)) (.node (o104 P) (.node (o168 P) .nil .nil) (.node (Q9 Q4 598 9) .nil .nil))) (.node (o56 P) (.node (o88 P) (.node (o152 P) .nil .nil) (.node (o216 P) .nil .nil)) (.node (o120 P) (.node (o184 P) .nil .nil) (.node (Q9 Q4 598 25) .nil .nil))))) (.node (o12 P) (.node (o20 P) (.node (o36 P) (.node (o68 P) (.node (o132 P) (.node (Q9 Q4 598 37) .nil .nil) .nil) (.node (o196 P) .nil .nil)) (.node (o100 P) (.node (o164 P) .nil .nil) (.node (Q9 Q4 598 5) .nil .nil))) (.node (o52 P) (.node (o84 P) (.node (o148 P) .nil .nil) (.node (o212 P) .nil .nil)) (.node (o116 P) (.node (o180 P) .nil .nil) (.node (Q9 Q4 598 21) .nil .nil)))) (.node (o28 P) (.node (o44 P) (.node (o76 P) (.node (o140 P) .nil .nil) (.node (o204 P) .nil .nil)) (.node (o108 P) (.node (o172 P) .nil .nil) (.node (Q9 Q4 598 13) .nil .nil))) (.node (o60 P) (.node (o92 P) (.node (o156 P) .nil .nil) (.node (o220 P) .nil .nil)) (.node (o124 P) (.node (o188 P) .nil .nil) (.node (Q9 Q4 598 29) .nil .nil)))))) (.node (o6 P) (.node (o10 P) (.node (o18 P) (.node (o34 P) (.node (o66 P) (.node (o130 P) (.node (Q9 Q4 598 35) .nil .nil) .nil) (.node (o194 P) .nil .nil)) (.node (o98 P) (.node (o162 P) .nil .nil) (.node (Q9 Q4 598 3) .nil .nil))) (.node (o50 P) (.node (o82 P) (.node (o146 P) .nil .nil) (.node (o210 P) .nil .nil)) (.node (o114 P) (.node (o178 P) .nil .nil) (.node (Q9 Q4 598 19) .nil .nil)))) (.node (o26 P) (.node (o42 P) (.node (o74 P) (.node (o138 P) .nil .nil) (.node (o202 P) .nil .nil)) (.node (o106 P) (.node (o170 P) .nil .nil) (.node (Q9 Q4 598 11) .nil .nil))) (.node (o58 P) (.node (o90 P) (.node (o154 P) .nil .nil) (.node (o218 P) .nil .nil)) (.node (o122 P) (.node (o186 P) .nil .nil) (.node (Q9 Q4 598 27) .nil .nil))))) (.node (o14 P) (.node (o22 P) (.node (o38 P) (.node (o70 P) (.node (o134 P) .nil .nil) (.node (o198 P) .nil .nil)) (.node (o102 P) (.node (o166 P) .nil .nil) (.node (Q9 Q4 598 7) .nil .nil))) (.node (o54 P) (.node (o86 P) (.node (o150 P) .nil .nil) (.node (o214 P) .nil .nil)) (.node (o118 P) (.node (o182 P) .nil .nil) (.node (Q9 Q4 598 23) .nil .nil)))) (.node (o30 P) (.node (o46 P) (.node (o78 P) (.node (o142 P) .nil .nil) (.node (o206 P) .nil .nil)) (.node (o110 P) (.node (o174 P) .nil .nil) (.node (Q9 Q4 598 15) .nil .nil))) (.node (o62 P) (.node (o94 P) (.node (o158 P) .nil .nil) (.node (o222 P) .nil .nil)) (.node (o126 P) (.node (o190 P) .nil .nil) (.node (Q9 Q4 598 31) .nil .nil))))))))
noncomputable def T380 (P:Params):BT:=(.node (o0 P) (.node (o1 P) (.node (o3 P) (.node (o7 P) (.node (o15 P) (.node (o31 P) (.node (o63 P) (.node (o127 P) (.node (Q9 Q4 598 32) .nil .nil) .nil) (.node (o191 P) (.node (o319 P) .nil .nil) .nil)) (.node (o95 P) (.node (o159 P) (.node (o287 P) .nil .nil) .nil) (.node Q44 (.node (o351 P) .nil .nil) .nil))) (.node (o47 P) (.node (o79 P) (.node (o143 P) (.node (o271 P) .nil .nil) .nil) (.node (o207 P) (.node (o335 P) .nil .nil) .nil)) (.node (o111 P) (.node (o175 P) (.node (o303 P) .nil .nil) .nil) (.node (Q9 Q4 598 16) (.node (o367 P) .nil .nil) .nil)))) (.node (o23 P) (.node (o39 P) (.node (o71 P) (.node (o135 P) (.node (o263 P) .nil .nil) .nil) (.node (o199 P) (.node (o327 P) .nil .nil) .nil)) (.node (o103 P) (.node (o167 P) (.node (o295 P) .nil .nil) .nil) (.node (Q9 Q4 598 8) (.node (o359 P) .nil .nil) .nil))) (.node (o55 P) (.node (o87 P) (.node (o151 P) (.node (o279 P) .nil .nil) .nil) (.node (o215 P) (.node (o343 P) .nil .nil) .nil)) (.node (o119 P) (.node (o183 P) (.node (o311 P) .nil .nil) .nil) (.node (Q9 Q4 598 24) (.node (o375 P) .nil .nil) .nil))))) (.node (o11 P) (.node (o19 P) (.node (o35 P) (.node (o67 P) (.node (o131 P) (.node (Q9 Q4 598 36) .nil .nil) .nil) (.node (o195 P) (.node (o323 P) .nil .nil) .nil)) (.node (o99 P) (.node (o163 P) (.node (o291 P) .nil .nil) .nil) (.node (Q9 Q4 598 4) (.node (o355 P) .nil .nil) .nil))) (.node (o51 P) (.node (o83 P) (.node (o147 P) (.node (o275 P) .nil .nil) .nil) (.node (o211 P) (.node (o339 P) .nil .nil) .nil)) (.node (o115 P) (.node (o179 P) (.node (o307 P) .nil .nil) .nil) (.node (Q9 Q4 598 20) (.node (o371 P) .nil .nil) .nil)))) (.node (o27 P) (.node (o43 P) (.node (o75 P) (.node (o139 P) (.node (o267 P) .nil .nil) .nil) (.node (o203 P) (.node (o331 P) .nil .nil) .nil)) (.node (o107 P) (.node (o171 P) (.node (o299 P) .nil .nil) .nil) (.node (Q9 Q4 598 12) (.node (o363 P) .nil .nil) .nil))) (.node (o59 P) (.node (o91 P) (.node (o155 P) (.node (o283 P) .nil .nil) .nil) (.node (o219 P) (.node (o347 P) .nil .nil) .nil)) (.node (o123 P) (.node (o187 P) (.node (o315 P) .nil .nil) .nil) (.node (Q9 Q4 598 28) (.node (o379 P) .nil .nil) .nil)))))) (.node (o5 P) (.node (o9 P) (.node (o17 P) (.node (o33 P) (.node (o65 P) (.node (o129 P) (.node (Q9 Q4 598 34) .nil .nil) .nil) (.node (o193 P) (.node (o321 P) .nil .nil) .nil)) (.node (o97 P) (.node (o161 P) (.node (o289 P) .nil .nil) .nil) (.node (Q9 Q4 598 2) (.node (o353 P) .nil .nil) .nil))) (.node (o49 P) (.node (o81 P) (.node (o145 P) (.node (o273 P) .nil .nil) .nil) (.node (o209 P) (.node (o337 P) .nil .nil) .nil)) (.node (o113 P) (.node (o177 P) (.node (o305 P) .nil .nil) .nil) (.node (Q9 Q4 598 18) (.node (o369 P) .nil .nil) .nil)))) (.node (o25 P) (.node (o41 P) (.node (o73 P) (.node (o137 P) (.node (o265 P) .nil .nil) .nil) (.node (o201 P) (.node (o329 P) .nil .nil) .nil)) (.node (o105 P) (.node (o169 P) (.node (o297 P) .nil .nil) .nil) (.node (Q9 Q4 598 10) (.node (o361 P) .nil .nil) .nil))) (.node (o57 P) (.node (o89 P) (.node (o153 P) (.node (o281 P) .nil .nil) .nil) (.node (o217 P) (.node (o345 P) .nil .nil) .nil)) (.node (o121 P) (.node (o185 P) (.node (o313 P) .nil .nil) .nil) (.node (Q9 Q4 598 26) (.node (o377 P) .nil .nil) .nil))))) (.node (o13 P) (.node (o21 P) (.node (o37 P) (.node (o69 P) (.node (o133 P) (.node (Q1c (Q17 (Q4.drop 646) 2536) 4) .nil .nil) .nil) (.node (o197 P) (.node (o325 P) .nil .nil) .nil)) (.node (o101 P) (.node (o165 P) (.node (o293 P) .nil .nil) .nil) (.node (Q9 Q4 598 6) (.node (o357 P) .nil .nil) .nil))) (.node (o53 P) (.node (o85 P) (.node (o149 P) (.node (o277 P) .nil .nil) .nil) (.node (o213 P) (.node (o341 P) .nil .nil) .nil)) (.node (o117 P) (.node (o181 P) (.node (o309 P) .nil .nil) .nil) (.node (Q9 Q4 598 22) (.node (o373 P) .nil .nil) .nil)))) (.node (o29 P) (.node (o45 P) (.node (o77 P) (.node (o141 P) (.node (o269 P) .nil .nil) .nil) (.node (o205 P) (.node (o333 P) .nil .nil) .nil)) (.node (o109 P) (.node (o173 P) (.node (o301 P) .nil .nil) .nil) (.node (Q9 Q4 598 14) (.node (o365 P) .nil .nil) .nil))) (.node (o61 P) (.node (o93 P) (.node (o157 P) (.node (o285 P) .nil .nil) .nil) (.node (o221 P) (.node (o349 P) .nil .nil) .nil)) (.node (o125 P) (.node (o189 P) (.node (o317 P) .nil .nil) .nil) (.node (Q9 Q4 598 30) .nil .nil))))))) (.node (Q30 P) (.node (o4 P) (.node (o8 P) (.node (o16 P) (.node (o32 P) (.node (o64 P) (.node (o128 P) (.node (Q9 Q4 598 33) .nil .nil) .nil) (.node (o192 P) (.node (o320 P) .nil .nil) .nil)) (.node (o96 P) (.node (o160 P) (.node (o288 P) .nil .nil) .nil) (.node (Q9 Q4 598 1) (.node (o352 P) .nil .nil) .nil))) (.node (o48 P) (.node (o80 P) (.node (o144 P) (.node (o272 P) .nil .nil) .nil) (.node (o208 P) (.node (o336 P) .nil .nil) .nil)) (.node (o112 P) (.node (o176 P) (.node (o304 P) .nil .nil) .nil) (.node (Q9 Q4 598 17) (.node (o368 P) .nil .nil) .nil)))) (.node (o24 P) (.node (o40 P) (.node (o72 P) (.node (o136 P) (.node (o264 P) .nil .nil) .nil) (.node (o200 P) (.node (o328 P) .nil .nil) .nil)) (.node (o104 P) (.node (o168 P) (.node (o296 P) .nil .nil) .nil) (.node (Q9 Q4 598 9) (.node (o360 P) .nil .nil) .nil))) (.node (o56 P) (.node (o88 P) (.node (o152 P) (.node (o280 P) .nil .nil) .nil) (.node (o216 P) (.node (o344 P) .nil .nil) .nil)) (.node (o120 P) (.node (o184 P) (.node (o312 P) .nil .nil) .nil) (.node (Q9 Q4 598 25) (.node (o376 P) .nil .nil) .nil))))) (.node (o12 P) (.node (o20 P) (.node (o36 P) (.node (o68 P) (.node (o132 P) (.node (Q9 Q4 598 37) .nil .nil) .nil) (.node (o196 P) (.node (o324 P) .nil .nil) .nil)) (.node (o100 P) (.node (o164 P) (.node (o292 P) .nil .nil) .nil) (.node (Q9 Q4 598 5) (.node (o356 P) .nil .nil) .nil))) (.node (o52 P) (.node (o84 P) (.node (o148 P) (.node (o276 P) .nil .nil) .nil) (.node (o212 P) (.node (o340 P) .nil .nil) .nil)) (.node (o116 P) (.node (o180 P) (.node (o308 P) .nil .nil) .nil) (.node (Q9 Q4 598 21) (.node (o372 P) .nil .nil) .nil)))) (.node (o28 P) (.node (o44 P) (.node (o76 P) (.node (o140 P) (.node (o268 P) .nil .nil) .nil) (.node (o204 P) (.node (o332 P) .nil .nil) .nil)) (.node (o108 P) (.node (o172 P) (.node (o300 P) .nil .nil) .nil) (.node (Q9 Q4 598 13) (.node (o364 P) .nil .nil) .nil))) (.node (o60 P) (.node (o92 P) (.node (o156 P) (.node (o284 P) .nil .nil) .nil) (.node (o220 P) (.node (o348 P) .nil .nil) .nil)) (.node (o124 P) (.node (o188 P) (.node (o316 P) .nil .nil) .nil) (.node (Q9 Q4 598 29) .nil .nil)))))) (.node (o6 P) (.node (o10 P) (.node (o18 P) (.node (o34 P) (.node (o66 P) (.node (o130 P) (.node (Q9 Q4 598 35) .nil .nil) .nil) (.node (o194 P) (.node (o322 P) .nil .nil) .nil)) (.node (o98 P) (.node (o162 P) (.node (o290 P) .nil .nil) .nil) (.node (Q9 Q4 598 3) (.node (o354 P) .nil .nil) .nil))) (.node (o50 P) (.node (o82 P) (.node (o146 P) (.node (o274 P) .nil .nil) .nil) (.node (o210 P) (.node (o338 P) .nil .nil) .nil)) (.node (o114 P) (.node (o178 P) (.node (o306 P) .nil .nil) .nil) (.node (Q9 Q4 598 19) (.node (o370 P) .nil .nil) .nil)))) (.node (o26 P) (.node (o42 P) (.node (o74 P) (.node (o138 P) (.node (o266 P) .nil .nil) .nil) (.node (o202 P) (.node (o330 P) .nil .nil) .nil)) (.node (o106 P) (.node (o170 P) (.node (o298 P) .nil .nil) .nil) (.node (Q9 Q4 598 11) (.node (o362 P) .nil .nil) .nil))) (.node (o58 P) (.node (o90 P) (.node (o154 P) (.node (o282 P) .nil .nil) .nil) (.node (o218 P) (.node (o346 P) .nil .nil) .nil)) (.node (o122 P) (.node (o186 P) (.node (o314 P) .nil .nil) .nil) (.node (Q9 Q4 598 27) (.node (o378 P) .nil .nil) .nil))))) (.node (o14 P) (.node (o22 P) (.node (o38 P) (.node (o70 P) (.node (o134 P) (.node (o262 P) .nil .nil) .nil) (.node (o198 P) (.node (o326 P) .nil .nil) .nil)) (.node (o102 P) (.node (o166 P) (.node (o294 P) .nil .nil) .nil) (.node (Q9 Q4 598 7) (.node (o358 P) .nil .nil) .nil))) (.node (o54 P) (.node (o86 P) (.node (o150 P) (.node (o278 P) .nil .nil) .nil) (.node (o214 P) (.node (o342 P) .nil .nil) .nil)) (.node (o118 P) (.node (o182 P) (.node (o310 P) .nil .nil) .nil) (.node (Q9 Q4 598 23) (.node (o374 P) .nil .nil) .nil)))) (.node (o30 P) (.node (o46 P) (.node (o78 P) (.node (o142 P) (.node (o270 P) .nil .nil) .nil) (.node (o206 P) (.node (o334 P) .nil .nil) .nil)) (.node (o110 P) (.node (o174 P) (.node (o302 P) .nil .nil) .nil) (.node (Q9 Q4 598 15) (.node (o366 P) .nil .nil) .nil))) (.node (o62 P) (.node (o94 P) (.node (o158 P) (.node (o286 P) .nil .nil) .nil) (.node (o222 P) (.node (o350 P) .nil .nil) .nil)) (.node (o126 P) (.node (o190 P) (.node (o318 P) .nil .nil) .nil) (.node (Q9 Q4 598 31) .nil .nil))))))))
noncomputable def o11i (P:Params):Obj:=⟨(.type "dict"),none,(.dict [dE P "__name__" 247 (.str (Str.ofString "_sre") 246),dE P "__doc__" 248 (.none),dE P "__package__" 250 (.str (Str.ofString "") 249),dE P "__loader__" 251 (.ref 14),dE P "__spec__" 252 (.ref 26),dE P "compile" 253 (.builtin "_sre.compile"),dE P "template" 254 (.builtin "_sre.template"),dE P "getcodesize" 255 (.builtin "_sre.getcodesize"),dE P "ascii_iscased" 256 (.builtin "_sre.ascii_iscased"),dE P "unicode_iscased" 257 (.builtin "_sre.unicode_iscased"),dE P "ascii_tolower" 258 (.builtin "_sre.ascii_tolower"),dE P "unicode_tolower" 259 (.builtin "_sre.unicode_tolower"),dE P "MAGIC" 261 (.int 20230612 260),dE P "CODESIZE" 263 (.int 4 262),dE P "MAXREPEAT" 265 (.int 4294967295 264),dE P "MAXGROUPS" 267 (.int 1073741823 266),dE P "copyright" 269 (.str (Str.ofString " SRE 2.2.2 Copyright (c) 1997-2002 by Secret Labs AB ") 268)].toArray 17), #[]⟩
noncomputable def T28i (P:Params):BT:=(.node (o0 P) (.node (o1 P) (.node (Q4l P) (.node (o7 P) (.node (o15 P) .nil .nil) (.node (o23 P) .nil .nil)) (.node (o11i P) (.node (o19 P) .nil .nil) (.node (o27 P) .nil .nil))) (.node (o5 P) (.node (o9 P) (.node (o17 P) .nil .nil) (.node (o25 P) .nil .nil)) (.node (o13 P) (.node (o21 P) .nil .nil) .nil))) (.node (Q30 P) (.node (o4 P) (.node (o8 P) (.node (o16 P) .nil .nil) (.node (o24 P) .nil .nil)) (.node (o12 P) (.node (o20 P) .nil .nil) .nil)) (.node (o6 P) (.node (o10 P) (.node (o18 P) .nil .nil) (.node (o26 P) .nil .nil)) (.node (o14 P) (.node (o22 P) .nil .nil) .nil))))


end
section
set_option maxHeartbeats 0
noncomputable abbrev pw:Program:=PySem.Challenge.pw_xo0041_01
noncomputable def bod:List Stmt:=behindTheImports pw
noncomputable def Q1v:Env:={ scope:=pw.main.scope,locals:=mainNs,globals:=mainNs,cells:=[],code:=.ref 30,frame:=some 31 }
noncomputable abbrev q0:Pos:={ line:=0,col:=0,endLine:=0,endCol:=0 }
noncomputable abbrev stT (T:BT) (n:Nat) (tk:Nat) (os:OsState):SharedT:=⟨T,n,{},{ toList:=[] },{},tk,os⟩
noncomputable abbrev goB (w:World) (b:Bool):World:=w.withFollow "special-get-raises" b
theorem eq_385 (w:World) (p:Program) (bb:List Stmt) (os:OsState) (b:Bool):segRunT treeTable p (goB w b) 28 (some (.ref 6)) 1 2170 (stT (T32 (goB w b).params) 32 282 os) (piecesOf (bod.take 10) Q1v (.body bb Q1v) q0 [topFrame q0]) =
  some (.next,stT (Q2y (goB w b).params) 223 598 os,.body bb Q1v,{ line:=119,col:=0,endLine:=120,endCol:=30 }):=by
 k_extra "v1w"
 cases b with
 |false=>kernel_rfl
 |true=>kernel_rfl
theorem eq_340 (w:World) (p:Program) (bb:List Stmt) (os:OsState) (pos:Pos) (b:Bool):segRunT treeTable p (goB w b) 28 (some (.ref 6)) 1 1300 (stT (Q48 (goB w b).params) 262 2549 os) (piecesOf (bod.drop 11) Q1v (.body bb Q1v) pos [topFrame q0]) =
  some (.next,stT (T380 (goB w b).params) 380 2718 os,.body bb Q1v,{ line:=268,col:=0,endLine:=285,endCol:=88 }):=by
 k_extra "v1w"
 cases b with
 |false=>kernel_rfl
 |true=>kernel_rfl


end
section
set_option maxHeartbeats 0
theorem eq_1036:(Qr (Q12 11)).1=b3es.map keyE:=by kernel_rfl
theorem eq_538:(Qr (Q12 11)).2=b3es.map valE:=by kernel_rfl
theorem eq_131:Q4.length=650:=by decide +kernel
noncomputable def ascB:Int→List Int→Bool
 |_,[]=>true
 |a,b::r=>decide (a<b)&&ascB b r
theorem eq_341:∀ (l:List Int) (a:Int),ascB a l=true→∀ x∈l,a<x
 |b::r,a,h,x,hx=>by
  simp only [ascB,Bool.and_eq_true,decide_eq_true_eq] at h
  rcases List.mem_cons.mp hx with rfl|hx
  ·exact h.1
  ·exact Int.lt_trans h.1 (eq_341 r b h.2 x hx)
theorem eq_364:∀ (l:List Int) (a:Int),ascB a l=true→l.Nodup
 |[],_,_=>.nil
 |b::r,a,h=>by
  simp only [ascB,Bool.and_eq_true,decide_eq_true_eq] at h
  exact List.nodup_cons.mpr ⟨fun hm=>absurd (eq_341 r b h.2 b hm) (Int.lt_irrefl b),eq_364 r b h.2⟩
theorem eq_1144:(Q4.map fun x=>hashInt x.1).Nodup:=eq_364 _ 0 (by decide +kernel)


end
section
set_option maxHeartbeats 0
theorem eq_1272:True:=by
 k_with "g0"=>skip
 k_with "g4"=>skip
 k_with "dl_mem"=>((fail_if_success (k_extra "g4";clear offG));first|(with_reducible first|(apply eq_460<;>assumption)|apply eq_398|fail)|fail)
 trivial
noncomputable def Q3y:BT→Nat→List Obj→BT
 |t,_,[]=>t
 |t,n,o::r=>Q3y (t.ins n o) (n+1) r
noncomputable def okL:BT→Nat→List Obj→Bool
 |_,_,[]=>true
 |t,n,o::r=>((t.ins n o).get n).isSome&&okL (t.ins n o) (n+1) r
theorem eq_319 (life:Life):∀ (l:List Obj) (t:BT) (n:Nat),okL t n l=true→absHeap (Q3y t n l) (n+l.length) life=Q13 (absHeap t n life) l
 |[],t,n,_=>by simp [Q3y,Q13]
 |o::r,t,n,h=>by
  obtain ⟨h1,h2⟩:=Bool.and_eq_true_iff.mp (show (((t.ins n o).get n).isSome&&okL (t.ins n o) (n+1) r)=true from h)
  have ih:=eq_319 life r (t.ins n o) (n+1) h2
  rw [List.length_cons,show n+(r.length+1)=n+1+r.length by keq_rows]
  show absHeap (Q3y (t.ins n o) (n+1) r) _ _=_
  rw [ih,absHeap_ins h1]
  simp [Q13,Heap.push]
noncomputable def Lb3:List Obj:=Q1c (Qw (Q4.take (17*38)) 598++Q17 (Q4.drop (17*38)) (598+51*38)) (17*38+4)::(Q1i Q4 598 38++[Q1c (Q17 (Q4.drop (17*38)) (598+51*38)) 4])
noncomputable abbrev b3N:Str:=Str.ofString "b3_exceptions"
noncomputable def esOf (o:Obj):Array DictEntry:=match o.data with|.dict es _=>es|_=> #[]
noncomputable def epOf (o:Obj):Nat:=match o.data with|.dict _ n=>n|_=>0
theorem eq_847 (P:Params):Q48 P=(Q3y (Q2y P) 223 Lb3).set 3 (Obj.putName b3N (PyData.keyHash P b3N) (.str b3N 2548) (.ref 223)):=by kernel_rfl
theorem eq_1085 (P:Params):okL (Q2y P) 223 Lb3=true:=by kernel_rfl
theorem eq_1071 (P:Params):(Q3y (Q2y P) 223 Lb3).get 3=some (Q2i P):=by kernel_rfl
theorem eq_464:223+Lb3.length=262:=by kernel_rfl
noncomputable def Q2p:Stmt→Pos×Pos×Pos
 |.Assign [.Name _ a] (.Dict _ _ b) c=>(a,b,c)
 |_=>(q0,q0,q0)
noncomputable def st3:List Stmt:=[.Assign [.Name b3N (Q2p (Q12 11)).1] (.Dict (Qr (Q12 11)).1 (Qr (Q12 11)).2 (Q2p (Q12 11)).2.1) (Q2p (Q12 11)).2.2]
theorem eq_1107:bod=bod.take 10++(st3++(bod.drop 11++[])):=by kernel_rfl
theorem eq_762 (P:Params):absHeap (Q48 P) 262 {}=(Q13 (absHeap (Q2y P) 223 {}) Lb3).update 3 (Obj.putName b3N (PyData.keyHash P b3N) (.str b3N 2548) (.ref 223)):=by
 have e1:absHeap (Q48 P) 262 {}=absHeap ((Q3y (Q2y P) 223 Lb3).set 3 (Obj.putName b3N (PyData.keyHash P b3N) (.str b3N 2548) (.ref 223))) 262 {}:=congrArg (fun t=>absHeap t 262 {}) (eq_847 P)
 have e2:=absHeap_set (n:=262) (life:={}) (f:=(Obj.putName b3N (PyData.keyHash P b3N) (.str b3N 2548) (.ref 223))) (eq_1071 P)
 have e3:=eq_319 {} Lb3 (Q2y P) 223 (eq_1085 P)
 have e4:absHeap (Q3y (Q2y P) 223 Lb3) 262 {}=Q13 (absHeap (Q2y P) 223 {}) Lb3:=(congrArg (fun n=>absHeap (Q3y (Q2y P) 223 Lb3) n {}) eq_464).symm.trans e3
 exact e1.trans (e2.trans (congrArg (fun h=>Heap.update h 3 (Obj.putName b3N (PyData.keyHash P b3N) (.str b3N 2548) (.ref 223))) e4))
theorem eq_971 (P:Params):(absHeap (Q2y P) 223 {}).get? mainNs=some ⟨.type "dict",none,.dict (esOf (Q2i P)) (epOf (Q2i P)), #[]⟩:=by
 rw [abs_get (o:=Q2i P) (by decide) (by kernel_rfl)]
 kernel_rfl
theorem eq_641:Q1v.kindOf b3N=some .local:=by kernel_rfl
theorem eq_906:Q1v.scope.kind= .module:=by kernel_rfl
theorem eq_899 (P:Params):aRefKeyMayBeTheName b3N (esOf (Q2i P))=false:=by kernel_rfl
theorem eq_959:swapsWith (.Dict (Qr (Q12 11)).1 (Qr (Q12 11)).2 (Q2p (Q12 11)).2.1) (some (.Name b3N (Q2p (Q12 11)).1)) (Q2p (Q12 11)).2.2.line Q1v=pure false:=by kernel_rfl
theorem eq_435 (w:World) (p:Program) (bb:List Stmt) (os:OsState) (pos:Pos):∃ n pos',n≤530000∧segRun treeTable p w 28 (some (.ref 6)) 1 n (stT (Q2y w.params) 223 598 os).abs (piecesOf st3 Q1v (.body bb Q1v) pos [topFrame q0])=some (.next,(stT (Q48 w.params) 262 2549 os).abs,.body bb Q1v,pos'):=by
 generalize hH:(Q13 (absHeap (Q2y w.params) 223 {}) Lb3).update 3 (Obj.putName b3N (PyData.keyHash w.params b3N) (.str b3N 2548) (.ref 223))=H
 have h:=eq_792 (kvs:=Q4) (p:=p) (w:=w) (env:=Q1v) (name:=b3N) (np:=(Q2p (Q12 11)).1) (dp:=(Q2p (Q12 11)).2.1) (pos:=(Q2p (Q12 11)).2.2) (cc:=38) (r:=4) (b:=absHeap (Q2y w.params) 223 {}) (g:={ toList:=[] }) (d:={}) (tk:=598) (os:=os) (c:=0)
  (Q:=fun a s' _=>a= .next∧s'=⟨H,{ toList:=[] },{},2549,os⟩)
  eq_641 eq_906 rfl rfl eq_1036 eq_538 rfl (by rw [absHeap_size];decide) eq_131 (by decide) (by decide) (by decide) (by rw [eq_131];decide) eq_1144 (eq_971 w.params) (eq_899 w.params) eq_959 ⟨rfl,by rw [←hH,absHeap_size];rfl⟩
 obtain ⟨n,a,s',pos',c',⟨rfl,rfl⟩,hn,hr⟩:=eq_1051 _ _ _ _ h doneF deadEnd id id (.body bb Q1v) pos (topFrame q0) []
 refine ⟨n+1,pos',by rw [eq_131] at hn;keq_rows,?_⟩
 have e:(stT (Q48 w.params) 262 2549 os).abs=⟨H,{ toList:=[] },{},2549,os⟩:=by
  rw [←hH, ←eq_762]
  rfl
 rw [e]
 exact seg_go hr rfl


end
section
set_option maxHeartbeats 0
theorem eq_1275:True:=by
 k_with "g4"=>have offG:True:=trivial
 k_with "g5"=>skip
 k_with "dl_mem"=>((fail_if_success (k_extra "g5";clear offG));first|(with_reducible first|(apply eq_1117<;>assumption)|fail)|fail)
 trivial
noncomputable def Hi (P:Params):Heap:=absHeap (T28i P) 28 {}
noncomputable def H0 (P:Params):Heap:=absHeap (T28 P) 28 {}
noncomputable def H1 (P:Params):Heap:=absHeap (T380 P) 380 {}
theorem eq_573 (w:World):importEnds treeTable (opening pw) w 800 (start (opening pw)).1 (start (opening pw)).2=some ⟨Hi w.params,{ toList:=[] },{},276,(start (opening pw)).1.os⟩:=by
 rw [PySem.W.Fast.te10274390034422433532,PySem.W.Fast.te14364793385576792824]
 kernel_rfl
theorem eq_770 (w:World):(fun os=>(fenceModules? pw ⟨Hi w.params,{ toList:=[] },{},276,os⟩).map (fun s=>(s.heap,s.gens,s.drawn,s.toks)))=fun _=>some (H0 w.params,{ toList:=[] },{},276):=by
 rw [PySem.W.Fast.te14289696077712309145]
 kernel_rfl
theorem eq_1161:∀ w:World,(fencedOpening treeTable pw w 600000).map (fun s=>(s.heap,s.gens,s.drawn,s.toks))=some (H0 w.params,{ toList:=[] },{},276):=
 open_cut eq_573 (by decide +kernel) eq_770
theorem eq_490 (w:World):((H0 w.params).isNs mainGlobals&&({ toList:=[] }:Array GenState).size==0,(H0 w.params).objs.size,(H0 w.params).nsMap mainGlobals "__annotations__")=(true,28,some (.ref 6)):=by kernel_rfl
theorem eq_1228 (w:World) (os:OsState):topGo treeTable pw w 28 (some (.ref 6)) 12 ⟨H0 w.params,{ toList:=[] },{},276,os⟩ (topStub pw)=some (⟨absHeap (T32 w.params) 32 {},{ toList:=[] },{},282,os⟩,⟨denote treeTable (.body bod Q1v),.body bod Q1v,q0,[topFrame q0]⟩):=by
 rw [PySem.W.Fast.te15667345088766844465,PySem.W.Fast.te11892475500146522536,PySem.W.Fast.te14364793385576792824]
 kernel_rfl
theorem eq_1183 (w:World) (os:OsState):segRun treeTable pw w 28 (some (.ref 6)) 1 1 ⟨absHeap (T32 w.params) 32 {},{ toList:=[] },{},282,os⟩ (blockOf bod Q1v (.body bod Q1v) q0 [topFrame q0])=some (.next,⟨absHeap (T32 w.params) 32 {},{ toList:=[] },{},282,os⟩,.body bod Q1v,q0):=by
 rw [PySem.W.Fast.te14374325043358763698,PySem.W.Fast.te14364793385576792824]
 kernel_rfl
theorem eq_984 (w:World) (os:OsState):topRun treeTable pw w 28 (some (.ref 6)) 2 ⟨H1 w.params,{ toList:=[] },{},2718,os⟩ ⟨doneF .next,.body bod Q1v,{ line:=268,col:=0,endLine:=285,endCol:=88 },[topFrame q0]⟩=some ⟨H1 w.params,{ toList:=[] },{},2718,os⟩:=by
 rw [PySem.W.Fast.te14082659384304107361,PySem.W.Fast.te14364793385576792824]
 kernel_rfl
theorem eq_1115 (w:World) (p:Program) (bb:List Stmt) (os:OsState):segRun treeTable p w 28 (some (.ref 6)) 1 2170 (stT (T32 w.params) 32 282 os).abs (piecesOf (bod.take 10) Q1v (.body bb Q1v) q0 [topFrame q0])=some (.next,(stT (Q2y w.params) 223 598 os).abs,.body bb Q1v,{ line:=119,col:=0,endLine:=120,endCol:=30 }):=
 segRun_of (byRow2 (P:=fun w=>segRunT treeTable p w 28 (some (.ref 6)) 1 2170 (stT (T32 w.params) 32 282 os) (piecesOf (bod.take 10) Q1v (.body bb Q1v) q0 [topFrame q0])=some (.next,stT (Q2y w.params) 223 598 os,.body bb Q1v,{ line:=119,col:=0,endLine:=120,endCol:=30 })) "special-get-raises" (fun w=>eq_385 w p bb os false) (fun w=>eq_385 w p bb os true) w)
theorem eq_806 (w:World) (p:Program) (bb:List Stmt) (os:OsState) (pos:Pos):segRun treeTable p w 28 (some (.ref 6)) 1 1300 (stT (Q48 w.params) 262 2549 os).abs (piecesOf (bod.drop 11) Q1v (.body bb Q1v) pos [topFrame q0])=some (.next,(stT (T380 w.params) 380 2718 os).abs,.body bb Q1v,{ line:=268,col:=0,endLine:=285,endCol:=88 }):=
 segRun_of (byRow2 (P:=fun w=>segRunT treeTable p w 28 (some (.ref 6)) 1 1300 (stT (Q48 w.params) 262 2549 os) (piecesOf (bod.drop 11) Q1v (.body bb Q1v) pos [topFrame q0])=some (.next,stT (T380 w.params) 380 2718 os,.body bb Q1v,{ line:=268,col:=0,endLine:=285,endCol:=88 })) "special-get-raises" (fun w=>eq_340 w p bb os pos false) (fun w=>eq_340 w p bb os pos true) w)
theorem eq_1049 (w:World) (os:OsState):topRun treeTable pw w 28 (some (.ref 6)) 600000 ⟨H0 w.params,{ toList:=[] },{},276,os⟩ (topStub pw)=some ⟨H1 w.params,{ toList:=[] },{},2718,os⟩:=by
 obtain ⟨n2,p2,hn2,h2⟩:=eq_435 w pw bod os { line:=119,col:=0,endLine:=120,endCol:=30 }
 have k4:=piece_nil (env:=Q1v) (q:=q0) (eq_984 w os)
 have k3:=piece_app (rest:=[]) (eq_806 w pw bod os p2) k4
 have k2:=piece_app (rest:=bod.drop 11++[]) h2 k3
 have k1:=piece_app (rest:=st3++(bod.drop 11++[])) (eq_1115 w pw bod os) k2
 rw [←eq_1107] at k1
 have kb:=piece_block (eq_1183 w os) k1
 have kp:=go_top (eq_1228 w os) kb
 have:=topRun_mono (600000-(12+(1+(2170+(n2+(1300+2)))))) _ _ _ _ kp
 rw [show 12+(1+(2170+(n2+(1300+2))))+(600000-(12+(1+(2170+(n2+(1300+2))))))=600000 by keq_rows] at this
 exact this


end
section
set_option maxHeartbeats 0
theorem eq_1257:True:=by
 k_with "g0"=>have offG:True:=trivial
 k_with "g5"=>have offG:True:=trivial
 trivial
noncomputable def Kx:Params→Frag:=fun P=>
 (nat_lit 2,Q30 P)::(nat_lit 3,o3 P)::(nat_lit 6,o6 P)::(nat_lit 11,o11 P)::(nat_lit 12,o12 P)::(nat_lit 32,o32 P)::(nat_lit 34,o34 P)::(nat_lit 35,o35 P)::(nat_lit 37,o37 P)::(nat_lit 38,o38 P)::
 (nat_lit 42,o42 P)::(nat_lit 43,o43 P)::(nat_lit 51,o51 P)::(nat_lit 53,o53 P)::(nat_lit 54,o54 P)::(nat_lit 56,o56 P)::(nat_lit 57,o57 P)::(nat_lit 58,o58 P)::(nat_lit 60,o60 P)::(nat_lit 61,o61 P)::
 (nat_lit 63,o63 P)::(nat_lit 64,o64 P)::(nat_lit 65,o65 P)::(nat_lit 67,o67 P)::(nat_lit 68,o68 P)::(nat_lit 70,o70 P)::(nat_lit 71,o71 P)::(nat_lit 72,o72 P)::(nat_lit 74,o74 P)::(nat_lit 75,o75 P)::
 (nat_lit 77,o77 P)::(nat_lit 78,o78 P)::(nat_lit 79,o79 P)::(nat_lit 81,o81 P)::(nat_lit 82,o82 P)::(nat_lit 84,o84 P)::(nat_lit 85,o85 P)::(nat_lit 86,o86 P)::(nat_lit 88,o88 P)::(nat_lit 89,o89 P)::
 (nat_lit 91,o91 P)::(nat_lit 92,o92 P)::(nat_lit 93,o93 P)::(nat_lit 95,o95 P)::(nat_lit 96,o96 P)::(nat_lit 98,o98 P)::(nat_lit 99,o99 P)::(nat_lit 100,o100 P)::(nat_lit 102,o102 P)::(nat_lit 103,o103 P)::
 (nat_lit 105,o105 P)::(nat_lit 106,o106 P)::(nat_lit 107,o107 P)::(nat_lit 109,o109 P)::(nat_lit 110,o110 P)::(nat_lit 112,o112 P)::(nat_lit 113,o113 P)::(nat_lit 114,o114 P)::(nat_lit 115,o115 P)::(nat_lit 116,o116 P)::
 (nat_lit 117,o117 P)::(nat_lit 118,o118 P)::(nat_lit 121,o121 P)::(nat_lit 124,o124 P)::(nat_lit 129,o129 P)::(nat_lit 130,o130 P)::(nat_lit 131,o131 P)::(nat_lit 133,o133 P)::(nat_lit 134,o134 P)::(nat_lit 136,o136 P)::
 (nat_lit 137,o137 P)::(nat_lit 138,o138 P)::(nat_lit 140,o140 P)::(nat_lit 141,o141 P)::(nat_lit 143,o143 P)::(nat_lit 144,o144 P)::(nat_lit 145,o145 P)::(nat_lit 146,o146 P)::(nat_lit 148,o148 P)::(nat_lit 149,o149 P)::
 (nat_lit 151,o151 P)::(nat_lit 152,o152 P)::(nat_lit 153,o153 P)::(nat_lit 154,o154 P)::(nat_lit 156,o156 P)::(nat_lit 157,o157 P)::(nat_lit 159,o159 P)::(nat_lit 160,o160 P)::(nat_lit 161,o161 P)::(nat_lit 163,o163 P)::
 (nat_lit 164,o164 P)::(nat_lit 166,o166 P)::(nat_lit 167,o167 P)::(nat_lit 168,o168 P)::(nat_lit 170,o170 P)::(nat_lit 171,o171 P)::(nat_lit 173,o173 P)::(nat_lit 174,o174 P)::(nat_lit 175,o175 P)::(nat_lit 176,o176 P)::
 (nat_lit 178,o178 P)::(nat_lit 179,o179 P)::(nat_lit 181,o181 P)::(nat_lit 182,o182 P)::(nat_lit 183,o183 P)::(nat_lit 185,o185 P)::(nat_lit 186,o186 P)::(nat_lit 188,o188 P)::(nat_lit 189,o189 P)::(nat_lit 190,o190 P)::
 (nat_lit 191,o191 P)::(nat_lit 193,o193 P)::(nat_lit 194,o194 P)::(nat_lit 196,o196 P)::(nat_lit 197,o197 P)::(nat_lit 198,o198 P)::(nat_lit 199,o199 P)::(nat_lit 200,o200 P)::(nat_lit 201,o201 P)::(nat_lit 202,o202 P)::
 (nat_lit 212,o212 P)::(nat_lit 216,o216 P)::(nat_lit 218,o218 P)::(nat_lit 219,o219 P)::(nat_lit 221,o221 P)::(nat_lit 222,o222 P)::(nat_lit 223,Q44)::(nat_lit 262,o262 P)::(nat_lit 264,o264 P)::(nat_lit 265,o265 P)::
 (nat_lit 267,o267 P)::(nat_lit 268,o268 P)::(nat_lit 269,o269 P)::(nat_lit 271,o271 P)::(nat_lit 272,o272 P)::(nat_lit 274,o274 P)::(nat_lit 275,o275 P)::(nat_lit 289,o289 P)::(nat_lit 293,o293 P)::(nat_lit 295,o295 P)::
 (nat_lit 296,o296 P)::(nat_lit 298,o298 P)::(nat_lit 299,o299 P)::(nat_lit 300,o300 P)::(nat_lit 302,o302 P)::(nat_lit 303,o303 P)::(nat_lit 305,o305 P)::(nat_lit 306,o306 P)::(nat_lit 307,o307 P)::(nat_lit 309,o309 P)::
 (nat_lit 310,o310 P)::(nat_lit 312,o312 P)::(nat_lit 313,o313 P)::(nat_lit 314,o314 P)::(nat_lit 316,o316 P)::(nat_lit 317,o317 P)::(nat_lit 319,o319 P)::(nat_lit 320,o320 P)::(nat_lit 321,o321 P)::(nat_lit 323,o323 P)::
 (nat_lit 324,o324 P)::(nat_lit 326,o326 P)::(nat_lit 327,o327 P)::(nat_lit 328,o328 P)::(nat_lit 330,o330 P)::(nat_lit 331,o331 P)::(nat_lit 333,o333 P)::(nat_lit 334,o334 P)::(nat_lit 335,o335 P)::(nat_lit 337,o337 P)::
 (nat_lit 338,o338 P)::(nat_lit 340,o340 P)::(nat_lit 341,o341 P)::(nat_lit 342,o342 P)::(nat_lit 344,o344 P)::(nat_lit 345,o345 P)::(nat_lit 347,o347 P)::(nat_lit 348,o348 P)::(nat_lit 349,o349 P)::(nat_lit 351,o351 P)::
 (nat_lit 352,o352 P)::(nat_lit 354,o354 P)::(nat_lit 355,o355 P)::(nat_lit 356,o356 P)::(nat_lit 358,o358 P)::(nat_lit 359,o359 P)::(nat_lit 361,o361 P)::(nat_lit 362,o362 P)::(nat_lit 363,o363 P)::(nat_lit 366,o366 P)::
 (nat_lit 367,o367 P)::(nat_lit 368,o368 P)::(nat_lit 370,o370 P)::(nat_lit 371,o371 P)::(nat_lit 373,o373 P)::(nat_lit 374,o374 P)::(nat_lit 375,o375 P)::(nat_lit 378,o378 P)::(nat_lit 379,o379 P)::
 []
noncomputable def Ky:Params→Frag:=fun P=>(nat_lit 162,o162 P)::(nat_lit 169,o169 P)::Kx P
noncomputable def kasOf:List Addr:=[2,3,6,11,12,32,34,35,37,38,42,43,51,53,54,56,57,58,60,61,63,64,65,67,68,70,71,72,74,75,77,78,79,81,82,84,85,86,88,89,91,92,93,95,96,98,99,100,102,103,105,106,107,109,110,112,113,114,115,116,117,118,121,124,129,130,131,133,134,136,137,138,140,141,143,144,145,146,148,149,151,152,153,154,156,157,159,160,161,163,164,166,167,168,170,171,173,174,175,176,178,179,181,182,183,185,186,188,189,190,191,193,194,196,197,198,199,200,201,202,212,216,218,219,221,222,223,262,264,265,267,268,269,271,272,274,275,289,293,295,296,298,299,300,302,303,305,306,307,309,310,312,313,314,316,317,319,320,321,323,324,326,327,328,330,331,333,334,335,337,338,340,341,342,344,345,347,348,349,351,352,354,355,356,358,359,361,362,363,366,367,368,370,371,373,374,375,378,379]


end
section
set_option maxHeartbeats 0
noncomputable def qv:Program:={ PySem.Challenge.rw_xo0041_01.prog with main:={ PySem.Challenge.rw_xo0041_01.prog.main with body:=PySem.Challenge.rw_xo0041_01.prog.main.body.drop 29 } }
noncomputable def lz:List Str:=["NL","EMPTYSTRING","_Accumulator","_ValueFormatter","_escape_attrib","_escape_attrib_c14n","_escape_attrib_html","_escape_cdata","_escape_cdata_c14n","_law_hands","_law_prepared","_law_rows","_law_text","_law_written","_raise_serialization_error","_sre","_twin_re_1","_wall","b1_set","b3_exceptions","c8_set","in_table_b1","in_table_c4","in_table_c8","map_table_b3"].map Str.ofString
noncomputable abbrev XtL:Shared→Bool:=fun s=>xlAt qv [] s&&recOk (RowW.records PySem.Challenge.rw_xo0041_01.row.toRowW) s
theorem eq_721 (P:Params):162::169::kasOf=(Ky P).map (·.1):=by kernel_rfl
noncomputable abbrev hkL:Hook:=kHook Ky (162::169::kasOf) eq_721
noncomputable abbrev sE (w:World) (os:OsState):Shared:=⟨H1 w.params,{ toList:=[] },{},2718,os⟩
theorem eq_800 (w:World):(fun os=>staticsOk (importedModules pw.main.body) (H0 w.params) (H1 w.params)&&namesBound pw (H1 w.params)&&gensDone (sE w os)&&laidKept (H0 w.params) (H1 w.params))=fun _=>true:=by
 kernel_rfl
theorem eq_636 (w:World):(fun os=>hkL.obs (sE w os))=fun _=>hkL.val w:=by
 kernel_rfl
theorem eq_1118 (w:World):(fun os=>openSeen qv lz (importedModules pw.main.body) XtL true (sE w os))=fun _=>openGood qv lz:=by
 rw [PySem.W.Fast.te4187177175401517315]
 kernel_rfl
theorem eq_894:LeftO pw qv lz XtL hkL.obs hkL.val 600000:=
 LeftO.of_pieces eq_1161 eq_490 eq_1049 (by decide) fun w=>funext fun os=>by
  have h1:=congrFun (eq_800 w) os
  have h2:=congrFun (eq_1118 w) os
  have h3:=congrFun (eq_636 w) os
  exact Prod.ext h1 (Prod.ext h2 h3)


end
section
theorem eq_1099 {x n R:Nat} (h:x+n<R):x<R:=Nat.lt_of_le_of_lt (Nat.le_add_right x n) h
theorem eq_285 {x a n R:Nat} (h:x+n<R) (e:a≤n):x+a<R:=Nat.lt_of_le_of_lt (Nat.add_le_add_left e x) h
theorem eq_306 {x a b n R:Nat} (h:x+n<R) (e:a+b≤n):x+a+b<R:=by rw [Nat.add_assoc];exact eq_285 h e
theorem eq_213 {x a b c n R:Nat} (h:x+n<R) (e:a+b+c≤n):x+a+b+c<R:=by rw [Nat.add_assoc x];exact eq_306 h e
theorem eq_448 {x a b c d n R:Nat} (h:x+n<R) (e:a+b+c+d≤n):x+a+b+c+d<R:=by rw [Nat.add_assoc x];exact eq_213 h e
section
variable {α:Type} {M:Model} {A:Around} {E:Value→Shared→Prop} {env:Env} {Q:Value→Shared→Prop} {h:Heap} {g:Array GenState} {d:Drawn} {tk:Nat} {o:OsState}
theorem eq_493 {x:Str} {k:Nat} {pos:Pos} (q:Q (.str x tk) ⟨h,g,d,tk+1,o⟩):wpAny M A (eval (.Constant (.str x) k pos) env) Q E ⟨h,g,d,tk,o⟩:=wpAny_Constant_str q
theorem eq_963 {i:Int} {k:Nat} {pos:Pos} (q:Q (.int i tk) ⟨h,g,d,tk+1,o⟩):wpAny M A (eval (.Constant (.int i) k pos) env) Q E ⟨h,g,d,tk,o⟩:=wpAny_Constant_int q
theorem eq_292 {t:Sem α} {Q:α→Shared→Prop} {x:Nat} (k:∀ tk:Nat,1≤tk→wpAny M A t Q E ⟨h,g,d,tk,o⟩):wpAny M A t Q E ⟨h,g,d,x+1,o⟩:=k _ (Nat.le_add_left 1 x)
end
theorem eq_1135 {α:Type} {M:Model} {A:Around} {E:Value→Shared→Prop} {s:Shared} {x:Sem α} {Q:α→Shared→Prop} (h:∀ R:α→Shared→Prop,(∀ f s',Q f s'→R f s')→wpAny M A x R E s):wpAny M A x Q E s:=h Q fun _ _ q=>q


end
section
theorem eq_1297:True:=by
 k_with "g0"=>skip
 k_with "g6"=>skip
 k_with "dl_mem"=>((fail_if_success (k_extra "g6";clear offG));first|(with_reducible first|(apply eq_1113<;>assumption)|fail)|fail)
 trivial
noncomputable def Ct (w:World) (lv:Nat) (f:Addr) (vs:List Value) (own:List (Addr×Obj)) (post:Value→List (Addr×Obj)→Prop):Prop:=
 ∀ (p:Program) (loose:List Str) (mean:ExcName→Option Value) (mg mb:Str→Option Value) (dp un:Nat) (gd:Option (List Code)) (cn:Str) (cs:Scope) (a:Addr) (ccd:Value) (cl:List (Str×Addr)) (outer:List Env) (A₀:Around) (base h₀:Heap) (L:Addr) (m:Str→Option Value) (s:Shared) (Q E:Value→Shared→Prop),
  Below A₀ base outer h₀→Fr h₀ L s.heap m→(Kx w.params).In h₀→News h₀ L s.heap own→Top p loose mean mg mb h₀→cs.kind= .function→dp+20*lv<recursionLimit→un+200*lv<cLine→1≤s.toks→AllBare s.gens→
  (∀ v h' tk' own' g',Fr h₀ L h' m→News h₀ L h' own'→(∀ b o,s.heap.get? b=some o→b∉own.map (·.1)→h'.get? b=some o)→(∀ p∈own',p.1∉own.map (·.1)→s.heap.get? p.1=none)→post v own'→1≤tk'→AllBare g'→Q v ⟨h',g',s.drawn,tk',s.os⟩)→
   wpAny (model PySem.Challenge.rw_xo0041_01.prog w) (ktrTop dp un gd cn cs L a ccd cl outer) (call (.ref f) vs) Q E s

section
variable {prog:Program} {w:World} {A₀ A:Around} {s:Shared} {base h₀:Heap} {outer:List Env} {L:Addr} {m:Str→Option Value} {env:Env} {news:List (Addr×Obj)} {K:Frag} {p:Program} {loose:List Str} {mean:ExcName→Option Value} {mg mb:Str→Option Value}
 {R:Result→Shared→Prop} {name qual:Str} {params:Arguments} {body:List Stmt} {scope:Scope} {dV kV doc pm cdv ct oc:Value} {an od:Option Addr} {osl:Array (Option Value)} {f:Addr} {args:Args} {binds:List (Str×Value)}
theorem eq_80 (B:Below A₀ base outer h₀) (F:Fr h₀ L s.heap m) (X₀:K.In h₀) (N:News h₀ L s.heap news) (T:Top p loose mean mg mb h₀) (hA:A.frames=some (env::outer)) (hf:env.frame=some L) (hke:env.scope.kind= .function)
  (ho:K.lookup f=some ⟨oc,od,.func (fnOf name qual params body scope dV kV doc pm an cdv ct),osl⟩) (hcd:codeIn K cdv qual=true) (hroom:A.depth<recursionLimit)
  (hbind:BindsTo s (fnOf name qual params body scope dV kV doc pm an cdv ct) args binds) (hloc:∀ y∈binds,scope.names.lookup y.1=some .local) (ht:1≤s.toks)
  (h:∀ g L' h₁ tk,Fr h₀ L g m→Fr g L' h₁ (fun y=>binds.reverse.lookup y)→News g L' h₁ news→Below A base (env::outer) g→K.In g→Top p loose mean mg mb g→(∀ p∈news,p.1<L')→(∀ b o,s.heap.get? b=some o→b∉news.map (·.1)→g.get? b=some o)→1≤tk→
   wpAny (model prog w) (A.deeper (envOf qual scope L' f cdv)) (execs body (envOf qual scope L' f cdv))
    (fun fl s'=>LeaveK h₀ L m g (fun r s''=>(g.StaysIn s''.heap)→1≤s''.toks→R r s'') (match fl with|.ret v=>v|_=>.none) s')
    (fun e s'=>wpAny (model prog w) (A.deeper (envOf qual scope L' f cdv)) («leaving» (envOf qual scope L' f cdv) e) (fun _ s''=>R (.error e) s'') (fun e' s''=>R (.error e') s'') s')
    { s with heap:=h₁,toks:=tk })
  (hco:scope.isCoroutine=false) (hgen:scope.isGenerator=false) (hk:scope.kind= .function)
  (hcell:∀ x∈scope.names,x.2≠ .cell):codeAny (model prog w) A (.call (.ref f) args) R s:=by
 have ho':s.heap.get? f=some _:=X₀.keeps F.keep _ _ ho
 obtain ⟨FG,BG,st,lv⟩:=groundX (R:=fun r s''=>1≤s''.toks→R r s'') B F N hA hf hke
 refine codeAny_with_toks ht ?_
 refine codeAny_call_def (fd:=fnOf name qual params body scope dV kV doc pm an cdv ct) (body:=body) (binds:=binds) hroom ho' rfl ((T.nolimit).keeps F.keep) (codeRec_of (X₀.keeps F.keep) hcd) rfl hbind hcell hloc (fun h₁ hns hk₁=>?_) hco hgen hk
 refine wpAny_mono (h _ s.heap.objs.size h₁ _ FG ⟨hns,fun b o e=>hk₁ b o (of_hideAll _ e),Nat.le_of_eq (hideAll_size _ _)⟩
  (fun p hp=>⟨hk₁ _ _ (N p hp).1,Nat.ne_of_lt (Heap.lt_size (N p hp).1),hideAll_none _ (List.mem_map_of_mem hp)⟩) BG (X₀.keeps st) (T.keeps st) (fun p hp=>Heap.lt_size (N p hp).1) (fun b o e q=>hideAll_get _ e q) (by show 1≤s.toks+binds.length;keq_rows)) (fun fl s' hl=>?_) fun _ _ y=>?_
 ·refine lv _ _ ?_
  obtain ⟨L',m',news',F',N',k⟩:=hl
  k_extra "v1g"
 ·exact wpAny_mono y (fun _ _ z _=>z) fun _ _ z _=>z
theorem eq_312 {α:Type} {M:Model} {A:Around} {t:Sem α} {Q:α→Shared→Prop} {E:Value→Shared→Prop} {h:Heap} {g:Array GenState} {d:Drawn} {x y:Nat} {o:OsState} (hx:1≤x+y) (k:∀ tk:Nat,1≤tk→wpAny M A t Q E ⟨h,g,d,tk,o⟩):
  wpAny M A t Q E ⟨h,g,d,x+y,o⟩:=k _ hx
theorem eq_221 {x y z:Str} {t u v:Tok} {Q E:Value→Shared→Prop} (ht:1≤s.toks) (hu:1≤(u:Nat)) (hv:1≤(v:Nat)) (huv:u≠v) (hyz:(y==z)=false) (hx:x.length≤1048576) (hz:z.length≤14)
  (hq:∀ t' k,1≤k→Q (.str (Txt.replace x y z) t') { s with toks:=k }):wpAny (model prog w) A (call (.builtin "str.replace") [.str x t,.str y u,.str z v]) Q E s:=
 wpAny_with_toks ht (SC.replaceW (fun e=>by rw [e] at hu;exact absurd hu (by decide)) (fun e=>by rw [e] at hv;exact absurd hv (by decide)) huv hyz hx hz fun t' k hk=>hq t' k hk)
theorem eq_20 {g h':Heap} {L1:Addr} {own own':List (Addr×Obj)} (kp:∀ b o,s.heap.get? b=some o→b∉own.map (·.1)→g.get? b=some o) (N:News g L1 h' own'):∀ p∈own',p.1∉own.map (·.1)→s.heap.get? p.1=none:=fun p hp hn=>by
 cases q:s.heap.get? p.1 with
 |none=>rfl
 |some o=>have:=kp _ _ q hn;rw [(N p hp).2.2] at this;cases this
theorem eq_61 {w:World} {lv:Nat} {f:Addr} {vs:List Value} {post:Value→List (Addr×Obj)→Prop} {dp un:Nat} {gd:Option (List Code)} {cn:Str} {cs:Scope} {a:Addr} {ccd:Value} {cl:List (Str×Addr)} {Q E:Value→Shared→Prop}
  (C:Ct w lv f vs [] post) (B:Below A₀ base outer h₀) (F:Fr h₀ L s.heap m) (X:(Kx w.params).In h₀) (N:News h₀ L s.heap news) (T:Top p loose mean mg mb h₀) (hk:cs.kind= .function) (hd:dp+20*lv<recursionLimit) (hu:un+200*lv<cLine) (ht:1≤s.toks) (hg:AllBare s.gens)
  (k:∀ v h' tk' own' g',Fr h₀ L h' m→News h₀ L h' news→post v own'→1≤tk'→AllBare g'→Q v ⟨h',g',s.drawn,tk',s.os⟩):
  wpAny (model PySem.Challenge.rw_xo0041_01.prog w) (ktrTop dp un gd cn cs L a ccd cl outer) (call (.ref f) vs) Q E s:=
 C p loose mean mg mb dp un gd cn cs a ccd cl outer A₀ base h₀ L m s Q E B F X (fun _ h=>nomatch h) T hk hd hu ht hg
  fun v h' tk' own' g' F' _ kp _ po htk hg'=>k v h' tk' own' g' F' (fun p hp=>⟨kp _ _ (N p hp).1 (fun h=>nomatch h),(N p hp).2⟩) po htk hg'
noncomputable def Q27 (d:Addr):List (Addr×Obj)→Prop
 |[]=>True
 |p::r=>@Ne Nat p.1 d∧Q27 d r
theorem eq_87 {d:Addr}:∀ {l:List (Addr×Obj)},(∀ p∈l,p.1≠d)→Q27 d l
 |[],_=>trivial
 |p::_,h=>⟨h p (.head _),eq_87 fun q hq=>h q (.tail _ hq)⟩
theorem eq_127 {w:World} {lv:Nat} {f:Addr} {vs:List Value} {own rest:List (Addr×Obj)} {post:Value→List (Addr×Obj)→Prop} {dp un:Nat} {gd:Option (List Code)} {cn:Str} {cs:Scope} {a:Addr} {ccd:Value} {cl:List (Str×Addr)} {Q E:Value→Shared→Prop}
  (C:Ct w lv f vs own post) (B:Below A₀ base outer h₀) (F:Fr h₀ L s.heap m) (X:(Kx w.params).In h₀) (N:News h₀ L s.heap news) (hown:∀ p∈own,p∈news) (hrest:∀ p∈rest,p∈news∧p.1∉own.map (·.1)) (T:Top p loose mean mg mb h₀) (hk:cs.kind= .function) (hd:dp+20*lv<recursionLimit) (hu:un+200*lv<cLine) (ht:1≤s.toks) (hg:AllBare s.gens)
  (k:∀ v h' tk' own' g',Fr h₀ L h' m→News h₀ L h' (own'++rest)→(∀ p∈own',p.1∉own.map (·.1)→Q27 p.1 news)→post v own'→1≤tk'→AllBare g'→Q v ⟨h',g',s.drawn,tk',s.os⟩):
  wpAny (model PySem.Challenge.rw_xo0041_01.prog w) (ktrTop dp un gd cn cs L a ccd cl outer) (call (.ref f) vs) Q E s:=
 C p loose mean mg mb dp un gd cn cs a ccd cl outer A₀ base h₀ L m s Q E B F X (fun p hp=>N p (hown p hp)) T hk hd hu ht hg
  fun v h' tk' own' g' F' N' kp kn po htk hg'=>k v h' tk' own' g' F' (fun p hp=>(List.mem_append.mp hp).elim (N' p) fun hp=>⟨kp _ _ (N p (hrest p hp).1).1 (hrest p hp).2,(N p (hrest p hp).1).2⟩)
   (fun p hp hn=>eq_87 fun q hq e=>by have:=kn p hp hn;rw [←e,(N q hq).1] at this;cases this) po htk hg'
noncomputable def Q18 (P:Prop):Prop:=P
theorem halt {P:Prop} (h:Q18 P):P:=h
end
inductive Fa2 {α β:Type} (R:α→β→Prop):List α→List β→Prop
 |nil:Fa2 R [] []
 |cons {a b as bs}:R a b→Fa2 R as bs→Fa2 R (a::as) (b::bs)
namespace Fa2
variable {α β:Type} {R R':α→β→Prop}
theorem len {as:List α} {bs:List β} (h:Fa2 R as bs):as.length=bs.length:=by
 induction h with
 |nil=>rfl
 |cons _ _ ih=>exact congrArg (· +1) ih
theorem get {as:List α} {bs:List β} (h:Fa2 R as bs):∀ {i:Nat} {a:α},as[i]?=some a→∃ b,bs[i]?=some b∧R a b:=by
 induction h with
 |nil=>intro i a e;cases e
 |cons r _ ih=>
  intro i a e
  cases i with
  |zero=>rw [List.getElem?_cons_zero] at e;obtain rfl:=Option.some.inj e;exact ⟨_,rfl,r⟩
  |succ i=>rw [List.getElem?_cons_succ] at e;exact ih e
theorem mono (k:∀ a b,R a b→R' a b) {as:List α} {bs:List β} (h:Fa2 R as bs):Fa2 R' as bs:=by
 induction h with
 |nil=>exact .nil
 |cons r _ ih=>exact .cons (k _ _ r) ih
theorem app {as cs:List α} {bs ds:List β} (h:Fa2 R as bs) (h':Fa2 R cs ds):Fa2 R (as++cs) (bs++ds):=by
 induction h with
 |nil=>exact h'
 |cons r _ ih=>exact .cons r ih
theorem snoc {as:List α} {bs:List β} {a:α} {b:β} (h:Fa2 R as bs) (r:R a b):Fa2 R (as++[a]) (bs++[b]):=h.app (.cons r .nil)
end Fa2


end
section
theorem eq_1328:True:=by
 k_with "g0"=>have offG:True:=trivial
 k_with "g6"=>have offG:True:=trivial
 k_with "g7"=>skip
 k_with "kbo_bools"=>((fail_if_success (k_extra "g7";clear offG));first|with_reducible assumption|with_reducible exact And.left (by with_reducible assumption)|with_reducible exact And.left (And.right (by with_reducible assumption))|with_reducible exact And.left (And.right (And.right (by with_reducible assumption)))|with_reducible exact And.left (And.right (And.right (And.right (by with_reducible assumption))))|with_reducible exact And.left (And.right (And.right (And.right (And.right (by with_reducible assumption)))))|with_reducible exact And.left (And.right (And.right (And.right (And.right (And.right (by with_reducible assumption))))))|with_reducible exact And.left (And.right (And.right (And.right (And.right (And.right (And.right (by with_reducible assumption)))))))|with_reducible exact And.left (And.right (And.right (And.right (And.right (And.right (And.right (And.right (by with_reducible assumption))))))))|with_reducible exact And.left (And.right (And.right (And.right (And.right (And.right (And.right (And.right (And.right (by with_reducible assumption)))))))))|with_reducible exact And.left (And.right (And.right (And.right (And.right (And.right (And.right (And.right (And.right (And.right (by with_reducible assumption))))))))))|with_reducible exact And.left (And.right (And.right (And.right (And.right (And.right (And.right (And.right (And.right (And.right (And.right (by with_reducible assumption)))))))))))|with_reducible exact And.left (And.right (And.right (And.right (And.right (And.right (And.right (And.right (And.right (And.right (And.right (And.right (by with_reducible assumption))))))))))))|with_reducible exact And.left (And.right (And.right (And.right (And.right (And.right (And.right (And.right (And.right (And.right (And.right (And.right (And.right (by with_reducible assumption)))))))))))))|with_reducible exact And.right (by with_reducible assumption)|with_reducible exact And.right (And.right (by with_reducible assumption))|with_reducible exact And.right (And.right (And.right (by with_reducible assumption)))|with_reducible exact And.right (And.right (And.right (And.right (by with_reducible assumption))))|with_reducible exact And.right (And.right (And.right (And.right (And.right (by with_reducible assumption)))))|with_reducible exact And.right (And.right (And.right (And.right (And.right (And.right (by with_reducible assumption))))))|with_reducible exact And.right (And.right (And.right (And.right (And.right (And.right (And.right (by with_reducible assumption)))))))|with_reducible exact And.right (And.right (And.right (And.right (And.right (And.right (And.right (And.right (by with_reducible assumption))))))))|with_reducible exact And.right (And.right (And.right (And.right (And.right (And.right (And.right (And.right (And.right (by with_reducible assumption)))))))))|with_reducible exact And.right (And.right (And.right (And.right (And.right (And.right (And.right (And.right (And.right (And.right (by with_reducible assumption))))))))))|with_reducible exact And.right (And.right (And.right (And.right (And.right (And.right (And.right (And.right (And.right (And.right (And.right (by with_reducible assumption)))))))))))|with_reducible exact And.right (And.right (And.right (And.right (And.right (And.right (And.right (And.right (And.right (And.right (And.right (And.right (by with_reducible assumption)))))))))))))
 k_with "keq_rows"=>((fail_if_success (k_extra "g7";clear offG));first|with_reducible assumption|with_reducible exact Nat.le_trans (by with_reducible assumption) (by decide)|with_reducible exact Nat.lt_of_le_of_lt (by with_reducible assumption) (by decide)|with_reducible exact eq_285 (by with_reducible assumption) (by decide)|with_reducible exact eq_306 (by with_reducible assumption) (by decide)|with_reducible exact eq_213 (by with_reducible assumption) (by decide)|with_reducible exact eq_448 (by with_reducible assumption) (by decide)|with_reducible exact eq_1099 (by with_reducible assumption)|with_reducible exact Nat.le_trans (Nat.min_le_left _ _) (by with_reducible assumption)|with_reducible exact Nat.ne_of_lt (by kbo_bools)|with_reducible exact Nat.ne_of_gt (by kbo_bools)|with_reducible exact Ne.symm (by with_reducible assumption)|dl_mem|exact Nat.le_of_ble_eq_true rfl|decide|omega)
 k_with "k_ne"=>((fail_if_success (k_extra "g7";clear offG));refine neN ?_;(try dsimp only);keq_rows)
 k_with "k_in"=>((fail_if_success (k_extra "g7";clear offG));first|with_reducible assumption|exact Frag.In.keeps (by k_asm) (Fr.keep (by k_asm)))
 k_with "g8"=>skip
 k_with "dl_mem"=>((fail_if_success (k_extra "g8";clear offG));first|(with_reducible first|(apply eq_816<;>assumption)|apply eq_436|apply eq_669|(apply eq_504<;>assumption)|(apply eq_539<;>assumption)|(apply eq_724<;>assumption)|(apply eq_1211<;>assumption)|(apply eq_1158<;>assumption)|fail)|fail)
 trivial
def S (l:List Nat):Str:=⟨l.toArray⟩
theorem eq_9 (l:List Nat):(S l).length=l.length:=by simp [S,Str.length]
theorem eq_172 (l:List Nat):(S l).cps.toList=l:=rfl
theorem eq_55 (x:Str):S x.cps.toList=x:=rfl
theorem eq_82 {a b:List Nat} (h:S a=S b):a=b:=by
 have:=congrArg (fun x:Str=>x.cps.toList) h
 exact this
theorem eq_45 (a b:List Nat):S a++S b=S (a++b):=Str.ext' (by simp [Str.cps_append,S])
noncomputable def rep (c:Nat) (z l:List Nat):List Nat:=l.flatMap fun d=>if d=c then z else [d]
theorem eq_149 (c:Nat) (z a b:List Nat):rep c z (a++b)=rep c z a++rep c z b:=by simp [rep]
theorem eq_78 (c:Nat) (z:List Nat):∀ l:List Nat,c∉l→rep c z l=l
 |[],_=>rfl
 |k::r,h=>by
  have h1:¬ k=c:=fun e=>h (e▸List.mem_cons_self ..)
  have h2:c∉r:=fun m=>h (List.mem_cons_of_mem _ m)
  have ih:=eq_78 c z r h2
  unfold rep at ih ⊢
  rw [List.flatMap_cons,if_neg h1,ih];rfl
theorem eq_1042 (c:Nat) (z:List Nat):rep c z [c]=z:=by simp [rep]
theorem eq_404 (c:Nat) (z:List Nat):∀ parts:List Str,(∀ p∈parts,c∉p.cps.toList)→rep c z (Str.join ⟨#[c]⟩ parts).cps.toList=(Str.join (S z) parts).cps.toList
 |[],_=>rfl
 |[p],h=>eq_78 c z _ (h p (List.mem_singleton.mpr rfl))
 |p::q::r,h=>by
  have ih:=eq_404 c z (q::r) fun a ha=>h a (List.mem_cons_of_mem _ ha)
  show rep c z (p++⟨#[c]⟩++Str.join ⟨#[c]⟩ (q::r)).cps.toList=(p++S z++Str.join (S z) (q::r)).cps.toList
  simp only [Str.cps_append,Array.toList_append]
  rw [eq_149,eq_149,ih,eq_78 c z _ (h p (List.mem_cons_self ..))]
  show p.cps.toList++rep c z [c]++_=_
  rw [eq_1042];rfl
theorem eq_727 (l z:List Nat) (c:Nat):Txt.replace (S l) (S [c]) (S z)=S (rep c z l):=by
 have h:(Txt.replace (S l) ⟨#[c]⟩ (S z)).cps.toList=rep c z (S l).cps.toList:=by
  rw [StrLaws.replace_one, ←eq_404 c z _ (StrLaws.split_free (S l) c),StrLaws.join_split]
 rw [←eq_55 (Txt.replace (S l) (S [c]) (S z))]
 exact congrArg S h
theorem eq_356 (c:Nat) (z:List Nat) (hz:z.length≤6):∀ l:List Nat,(rep c z l).length≤l.length+5*l.count c
 |[]=>by simp [rep]
 |k::r=>by
  have ih:=eq_356 c z hz r
  unfold rep at ih ⊢
  rw [List.flatMap_cons,List.length_append,List.length_cons,List.count_cons]
  by_cases h:k=c
  ·subst h
   rw [if_pos rfl,if_pos (by simp)];keq_rows
  ·have h':¬ (k==c)=true:=by simpa using h
   rw [if_neg h,if_neg h',List.length_singleton];keq_rows
theorem eq_409 (c:Nat) (z:List Nat) (d:Nat) (h1:d≠c) (h2:d∉z):∀ l:List Nat,(rep c z l).count d=l.count d
 |[]=>by simp [rep]
 |k::r=>by
  have ih:=eq_409 c z d h1 h2 r
  unfold rep at ih ⊢
  rw [List.flatMap_cons,List.count_append,List.count_cons,ih]
  by_cases h:k=c
  ·subst h
   have:¬ (k==d)=true:=by simpa using fun e=>h1 e.symm
   rw [if_pos rfl,if_neg this,List.count_eq_zero.mpr h2];keq_rows
  ·rw [if_neg h,List.count_cons,List.count_nil];keq_rows
noncomputable def Q2f (ps:List (Nat×List Nat)) (l:List Nat):List Nat:=ps.foldl (fun l p=>rep p.1 p.2 l) l
noncomputable def Q26:List (Nat×List Nat)→Bool
 |[]=>true
 |p::r=>decide (p.2.length≤6)&&r.all (fun q=>q.1 != p.1&& !p.2.contains q.1)&&Q26 r
theorem eq_357:∀ (ps:List (Nat×List Nat)) (l:List Nat),Q26 ps=true→(Q2f ps l).length≤l.length+5*(ps.map fun p=>l.count p.1).sum
 |[],l,_=>by simp [Q2f]
 |p::r,l,h=>by
  simp only [Q26,Bool.and_eq_true,decide_eq_true_eq,List.all_eq_true,bne_iff_ne,ne_eq,Bool.not_eq_true',List.contains_eq_mem,decide_eq_false_iff_not] at h
  have ih:=eq_357 r (rep p.1 p.2 l) h.2
  have e:(r.map fun q=>(rep p.1 p.2 l).count q.1)=r.map fun q=>l.count q.1:=List.map_congr_left fun q hq=>eq_409 _ _ _ (h.1.2 q hq).1 (h.1.2 q hq).2 l
  rw [e] at ih
  have:=eq_356 p.1 p.2 h.1.1 l
  have e2:Q2f (p::r) l=Q2f r (rep p.1 p.2 l):=rfl
  rw [e2,List.map_cons,List.sum_cons]
  keq_rows
theorem eq_349:∀ (cs l:List Nat),cs.Nodup→(cs.map fun c=>l.count c).sum≤l.length
 |[],l,_=>by simp
 |c::cs,l,h=>by
  have ih:=eq_349 cs (l.filter (· != c)) (List.nodup_cons.mp h).2
  have e:(cs.map fun d=>(l.filter (· != c)).count d)=cs.map fun d=>l.count d:=List.map_congr_left fun d hd=>List.count_filter (by simp;rintro rfl;exact (List.nodup_cons.mp h).1 hd)
  rw [e] at ih
  have:=List.length_eq_countP_add_countP (fun x=>x==c) (l:=l)
  rw [List.map_cons,List.sum_cons]
  have e3:(l.filter (· != c)).length=l.countP (fun x=>!(x==c)):=by rw [←List.countP_eq_length_filter];rfl
  have e4:l.count c=l.countP (fun x=>x==c):=rfl
  rw [e3] at ih
  have e5:List.countP (fun x=>decide ¬(x==c)=true) l=l.countP (fun x=>!(x==c)):=by
   congr 1
   funext x
   cases x==c<;>rfl
  rw [e5] at this
  keq_rows
theorem eq_347:∀ ps:List (Nat×List Nat),Q26 ps=true→(ps.map (·.1)).Nodup
 |[],_=>.nil
 |p::r,h=>by
  simp only [Q26,Bool.and_eq_true,decide_eq_true_eq,List.all_eq_true,bne_iff_ne,ne_eq] at h
  rw [List.map_cons,List.nodup_cons]
  refine ⟨fun hm=>?_,eq_347 r h.2⟩
  (refine eq_4 (List.mem_map.mp hm) fun q hq e=>?_)
  exact (h.1.2 q hq).1 e
theorem eq_16 (ps:List (Nat×List Nat)) (l:List Nat) (hx:l.length≤20000) (ok:Q26 ps=true):(Q2f ps l).length≤120000:=by
 have h1:=eq_357 ps l ok
 have h2:=eq_349 (ps.map (·.1)) l (eq_347 ps ok)
 rw [List.map_map] at h2
 have e:((fun c=>List.count c l) ∘ fun x:Nat×List Nat=>x.1)=fun p=>l.count p.1:=rfl
 rw [e] at h2
 keq_rows


end
section
section
variable {prog:Program} {w:World} {A:Around} {E:Value→Shared→Prop} {s:Shared} {env:Env} {h₀:Heap} {target:Expr} {body orelse:List Stmt} {Q:Flow→Shared→Prop} {m₀:Str→Option Value} {news:List (Addr×Obj)}
theorem eq_1305:True:=by
 k_with "g8"=>have offG:True:=trivial
 k_with "g9"=>skip
 k_with "dl_mem"=>((fail_if_success (k_extra "g9";clear offG));first|(with_reducible first|(apply eq_128<;>assumption)|(apply eq_130<;>assumption)|fail)|fail)
 trivial
noncomputable def Q1t (prog:Program) (w:World) (A:Around) (env:Env) (target:Expr) (body orelse:List Stmt) (Q:Flow→Shared→Prop) (E:Value→Shared→Prop) (it:Value) (s:Shared):Prop:=
 ∃ (I:Nat→Shared→Prop) (n:Nat),I n s∧∀ n s',I n s'→wpAny (model prog w) A (pyNext it) (fun r s₁=>match r with
  |none=>wpAny (model prog w) A (execs orelse env) Q E s₁
  |some v=>wpAny (model prog w) A (letOwnedTupleGo target it v) (fun _ s₁'=>wpAny (model prog w) A (assign target env v) (fun _ s₂=>wpAny (model prog w) A (execs body env) (fun f s₃=>match f with
    |.next|.cont=>∃ m,m<n∧I m s₃
    |.brk=>Q .next s₃
    |.ret v=>Q (.ret v) s₃) E s₂) E s₁') E s₁) E s'
theorem eq_31 {Q11:Expr} {pos:Pos}
  (h:wpAny (model prog w) A (eval Q11 env) (fun x s₁=>wpAny (model prog w) A (pyIter x) (fun it s₂=>Q1t prog w A env target body orelse Q E it s₂) E s₁) E s)
  (hs:∀ x,foldedSetIterable Q11 env x=pure x:=by intro _;rfl) (hE:PassesOwn (model prog w) A env E:=by passes_own):
  wpAny (model prog w) A (exec (.For target Q11 body orelse pos) env) Q E s:=by
 refine wpAny_For (wpAny_mono h (fun xv s₁ h₁=>wpAny_mono h₁ (fun it s₂ h₂=>?_) fun _ _ e=>e) fun _ _ e=>e) hs
 (refine eq_14 (h₂) fun I n hI step=>?_;(try clear h₂))
 refine codeAny_forLoop_any (R:=fun r s'=>match r with|.ok f=>Q f s'|.error e=>cameBackBy (model prog w) A env E e s') I (fun n s' hs'=>?_) n hI
 refine wpAny_mono (step n s' hs') (fun r s₁ h₁=>?_) hE
 cases r with
 |none=>exact wpAny_passesOwn hE h₁
 |some v=>
  refine wpAny_mono h₁ (fun _ s₁' h₁'=>wpAny_mono h₁' (fun _ s₂ h₂=>wpAny_mono h₂ (fun f s₃ h₃=>?_) hE) hE) hE
  cases f<;>exact h₃

noncomputable def Q3e (h₀:Heap) (L:Addr) (wr:List Addr) (St:Heap→Prop) (s:Shared) (J:(Str→Option Value)→List (Addr×Obj)→Prop) (Q:Flow→Shared→Prop) (f:Flow) (s₃:Shared):Prop:=match f with
 |.ret v=>Q (.ret v) s₃
 |.brk=>Q .next s₃
 |_=>∃ h' tk' g' m' news',s₃=⟨h',g',s.drawn,tk',s.os⟩∧St h'∧Fr h₀ L h' m'∧News h₀ L h' news'∧(∀ p∈news',p.1∉wr)∧1≤tk'∧AllBare g'∧J m' news'
theorem eq_97 {I:Addr} {fp wr:List Addr} {n:Nat} {P:Nat→Value→Prop} {St:Nat→Heap→Prop} (W:Walks prog w A I fp wr n P St) (hLf:env.locals∉fp) (hwr:∀ b∈wr,h₀.get? b=none)
  (J:Nat→(Str→Option Value)→List (Addr×Obj)→Prop) (hst:St 0 s.heap) (F:Fr h₀ env.locals s.heap m₀) (N:News h₀ env.locals s.heap news) (hnw:∀ p∈news,p.1∉wr) (hj:J 0 m₀ news) (ht:1≤s.toks) (hg:AllBare s.gens)
  (turn:∀ i v m₁ news₁ h tk g,i<n→P i v→J i m₁ news₁→St (i+1) h→Fr h₀ env.locals h m₁→News h₀ env.locals h news₁→(∀ p∈news₁,p.1∉wr)→1≤tk→AllBare g→
   wpAny (model prog w) A (letOwnedTupleGo target (.ref I) v) (fun _ s₁=>wpAny (model prog w) A (assign target env v) (fun _ s₂=>wpAny (model prog w) A (execs body env) (Q3e h₀ env.locals wr (St (i+1)) s (J (i+1)) Q) E s₂) E s₁) E ⟨h,g,s.drawn,tk,s.os⟩)
  (done:∀ m₁ news₁ h tk g,J n m₁ news₁→Fr h₀ env.locals h m₁→News h₀ env.locals h news₁→1≤tk→AllBare g→wpAny (model prog w) A (execs orelse env) Q E ⟨h,g,s.drawn,tk,s.os⟩):
  Q1t prog w A env target body orelse Q E (.ref I) s:=by
 have hLw:env.locals∉wr:=fun h=>hLf (W.sub _ h)
 have old:∀ b o,h₀.get? b=some o→b∉wr:=fun b o e hb=>by rw [hwr b hb] at e;cases e
 refine ⟨fun k s'=>∃ h' tk g m' news' i,s'=⟨h',g,s.drawn,tk,s.os⟩∧St i h'∧Fr h₀ env.locals h' m'∧News h₀ env.locals h' news'∧(∀ p∈news',p.1∉wr)∧1≤tk∧AllBare g∧J i m' news'∧i≤n∧k=n+1-i,n+1,
  ⟨s.heap,s.toks,s.gens,m₀,news,0,rfl,hst,F,N,hnw,ht,hg,hj,Nat.zero_le _,rfl⟩,?_⟩
 (intro k s' zq1;obtain ⟨h',tk,g,m',news',i,rfl,hst',F',N',hnw',htk,hg',hJ,hi,rfl⟩:=zq1)
 have next:∀ h₁:Heap,(∀ b o,b∉wr→h'.get? b=some o→h₁.get? b=some o)→Fr h₀ env.locals h₁ m'∧News h₀ env.locals h₁ news':=fun h₁ hk₁=>
  ⟨⟨F'.ns.at' fun o e=>hk₁ _ o hLw e,fun b o e=>hk₁ b o (old b o e) (F'.keep b o e),F'.above⟩,fun p hp=>⟨hk₁ _ _ (hnw' p hp) (N' p hp).1,(N' p hp).2⟩⟩
 refine wpAny_with_toks (n:=1) htk ?_
 by_cases hlt:i<n
 ·refine W.item i _ _ _ hlt hst' fun v h₁ tk₁ hP hst₁ hk₁ htk₁=>?_
  (refine eq_7 (next h₁ hk₁) fun F₁ N₁=>?_)
  refine wpAny_mono (turn i v m' news' h₁ tk₁ g hlt hP hJ hst₁ F₁ N₁ hnw' htk₁ hg') (fun _ s₁ a₁=>wpAny_mono a₁ (fun _ s₂ a₂=>wpAny_mono a₂ (fun f s₃ a₃=>?_) fun _ _ e=>e) fun _ _ e=>e) fun _ _ e=>e
  cases f with
  |ret v=>exact a₃
  |brk=>exact a₃
  |next=>
   (refine eq_328 (a₃) fun h₃ tk₃ g₃ m₃ news₃ zq4 st₃ F₃ N₃ nw₃ t₃ b₃ J₃=>?_;(try clear a₃);subst zq4)
   exact ⟨n+1-(i+1),by keq_rows,h₃,tk₃,g₃,m₃,news₃,i+1,rfl,st₃,F₃,N₃,nw₃,t₃,b₃,J₃,hlt,rfl⟩
  |cont=>
   (refine eq_328 (a₃) fun h₃ tk₃ g₃ m₃ news₃ zq5 st₃ F₃ N₃ nw₃ t₃ b₃ J₃=>?_;(try clear a₃);subst zq5)
   exact ⟨n+1-(i+1),by keq_rows,h₃,tk₃,g₃,m₃,news₃,i+1,rfl,st₃,F₃,N₃,nw₃,t₃,b₃,J₃,hlt,rfl⟩
 ·have hin:i=n:=by keq_rows
  subst hin
  refine W.done _ _ _ hst' fun h₁ tk₁ hk₁ htk₁=>?_
  (refine eq_7 (next h₁ hk₁) fun F₁ N₁=>?_)
  exact done m' news' h₁ tk₁ g hJ F₁ N₁ htk₁ hg'

noncomputable def Qi (h₀:Heap) (L:Addr) (I:Addr) (io:Obj) (s:Shared) (J:(Str→Option Value)→List (Addr×Obj)→Prop) (Q:Flow→Shared→Prop) (f:Flow) (s₃:Shared):Prop:=match f with
 |.ret v=>Q (.ret v) s₃
 |.brk=>Q .next s₃
 |_=>∃ h' tk' g' m' news',s₃=⟨h',g',s.drawn,tk',s.os⟩∧Fr h₀ L h' m'∧News h₀ L h' ((I,io)::news')∧(∀ p∈news',p.1≠I)∧1≤tk'∧AllBare g'∧J m' news'
theorem Qi.toLoop {L I:Addr} {io:Obj} {St:Heap→Prop} {J:(Str→Option Value)→List (Addr×Obj)→Prop} (hSt:∀ h' m' news',Fr h₀ L h' m'→News h₀ L h' ((I,io)::news')→J m' news'→St h') {f:Flow} {s₃:Shared} (x:Qi h₀ L I io s J Q f s₃):Q3e h₀ L [I] St s J Q f s₃:=by
 cases f with
 |ret v=>exact x
 |brk=>exact x
 |next=>
  (refine Mine.eq_46 (x) fun h' tk' g' m' news' e F N hn ht hg hj=>?_;(try clear x))
  exact ⟨h',tk',g',m',news',e,hSt _ _ _ F N hj,F,fun p hp=>N p (.tail _ hp),fun p hp h=>hn p hp (List.mem_singleton.mp h),ht,hg,hj⟩
 |cont=>
  (refine Mine.eq_46 (x) fun h' tk' g' m' news' e F N hn ht hg hj=>?_;(try clear x))
  exact ⟨h',tk',g',m',news',e,hSt _ _ _ F N hj,F,fun p hp=>N p (.tail _ hp),fun p hp h=>hn p hp (List.mem_singleton.mp h),ht,hg,hj⟩
theorem eq_95 {h:Heap} {L I:Addr} {o:Obj} {m:Str→Option Value} {news:List (Addr×Obj)} (F:Fr h₀ L h m) (N:News h₀ L h news) (ho:h.get? I=some o) (hL:I≠L) (hI:h₀.get? I=none):News h₀ L h ((I,o)::news):=fun p hp=>by
 k_extra "v0"
 ·exact ⟨ho,hL,hI⟩
 ·exact N p hp

theorem eq_215 {l:List Nat} {t:Tok} (hh:A.handled=none) (F:Fr h₀ env.locals s.heap m₀) (N:News h₀ env.locals s.heap news) (ht:1≤s.toks) (hg:AllBare s.gens) (J:Nat→(Str→Option Value)→List (Addr×Obj)→Prop) (hj:J 0 m₀ news)
  (turn:∀ i c u m₁ news₁ h tk g I io,l[i]?=some c→J i m₁ news₁→Fr h₀ env.locals h m₁→News h₀ env.locals h ((I,io)::news₁)→(∀ p∈news₁,p.1≠I)→(∀ p∈news,p.1<I)→1≤tk→AllBare g→
   wpAny (model prog w) A (letOwnedTupleGo target (.ref I) (.str (S [c]) u)) (fun _ s₁=>wpAny (model prog w) A (assign target env (.str (S [c]) u)) (fun _ s₂=>wpAny (model prog w) A (execs body env) (Qi h₀ env.locals I io s (J (i+1)) Q) E s₂) E s₁) E ⟨h,g,s.drawn,tk,s.os⟩)
  (done:∀ m₁ news₁ h tk g,J l.length m₁ news₁→Fr h₀ env.locals h m₁→News h₀ env.locals h news₁→1≤tk→AllBare g→wpAny (model prog w) A (execs orelse env) Q E ⟨h,g,s.drawn,tk,s.os⟩):
  wpAny (model prog w) A (pyIter (.str (S l) t)) (fun it s₂=>Q1t prog w A env target body orelse Q E it s₂) E s:=by
 refine wpAny_pyIter_strU ?_
 have hnew:h₀.get? s.heap.objs.size=none:=by
  cases hq:h₀.get? s.heap.objs.size with
  |none=>rfl
  |some o'=>exact absurd (Heap.lt_size (F.keep _ _ hq)) (Nat.lt_irrefl _)
 have hL:s.heap.objs.size≠env.locals:=fun e=>absurd F.ns.lt (by rw [e];exact Nat.lt_irrefl _)
 have hsz:(S l).cps.size=l.length:=eq_9 l
 have go:∀ ty,(strIterType (S l)=ty)→Walks prog w A s.heap.objs.size [s.heap.objs.size] [s.heap.objs.size] (S l).cps.size (SignAt (S l)) (fun i h=>h.IsStrIter s.heap.objs.size ty (S l) t i)→
   Q1t prog w A env target body orelse Q E (.ref s.heap.objs.size) { s with heap:=s.heap.push { cls:=.type (strIterType (S l)),data:=.fields #[.str (S l) t,.int 0 0] } }:=by
  intro ty hty W
  rw [hsz] at W
  refine eq_97 (h₀:=h₀) (m₀:=m₀) (news:=news) W (fun h=>hL (List.mem_singleton.mp h).symm) (fun b hb=>by rw [List.mem_singleton.mp hb];exact hnew) J ⟨_,Heap.get?_push_size _ rfl,by rw [hty],rfl⟩ (F.push _) (fun p hp=>⟨Heap.get?_push_of_some _ (N p hp).1,(N p hp).2⟩)
   (fun p hp h=>absurd (Heap.lt_size (N p hp).1) ((List.mem_singleton.mp h)▸Nat.lt_irrefl _)) hj ht hg (fun i v m₁ news₁ h tk g hi hP hJ hst F₁ N₁ hnw htk hg'=>?_) fun m₁ news₁ h tk g hJ F₁ N₁ htk hg'=>done m₁ news₁ h tk g hJ F₁ N₁ htk hg'
  (refine eq_14 (hP) fun c u hc zq6=>?_;(try clear hP);subst zq6)
  (refine eq_18 (hst) fun io hio hcls hdat=>?_;(try clear hst))
  have N₂:=eq_95 F₁ N₁ hio hL hnew
  refine wpAny_mono (turn i c u m₁ news₁ h tk g _ io (by simpa [S] using hc) hJ F₁ N₂ (fun p hp e=>hnw p hp (List.mem_singleton.mpr e)) (fun p hp=>Heap.lt_size (N p hp).1) htk hg') (fun _ s₁ a₁=>wpAny_mono a₁ (fun _ s₂ a₂=>wpAny_mono a₂ (fun f s₃ a₃=>?_) fun _ _ e=>e) fun _ _ e=>e) fun _ _ e=>e
  exact Qi.toLoop (s:=s) (fun h' m' news' F' N' _=>⟨io,(N' _ (.head _)).1,hcls,hdat⟩) a₃
 cases ha:(S l).cps.all (· <128) with
 |true=>exact go _ (by simp [strIterType,ha]) (Walks.strAscii hh _ _ _)
 |false=>exact go _ (by simp [strIterType,ha]) (Walks.strWide hh _ _ _)

theorem eq_103 {l:Addr} {vs:List Value} (hh:A.handled=none) (F:Fr h₀ env.locals s.heap m₀) (N:News h₀ env.locals s.heap news) (ht:1≤s.toks) (hg:AllBare s.gens) (J:Nat→(Str→Option Value)→List (Addr×Obj)→Prop) (hj:J 0 m₀ news)
  (hls:s.heap.IsList l vs.toArray) (hlL:l≠env.locals) (hk:∀ i h m₁ news₁,J i m₁ news₁→Fr h₀ env.locals h m₁→News h₀ env.locals h news₁→h.IsList l vs.toArray)
  (turn:∀ i v m₁ news₁ h tk g I io,vs[i]?=some v→J i m₁ news₁→Fr h₀ env.locals h m₁→News h₀ env.locals h ((I,io)::news₁)→h.IsListIter I l (i+1)→(∀ p∈news₁,p.1≠I)→(∀ p∈news,p.1<I)→1≤tk→AllBare g→
   wpAny (model prog w) A (letOwnedTupleGo target (.ref I) v) (fun _ s₁=>wpAny (model prog w) A (assign target env v) (fun _ s₂=>wpAny (model prog w) A (execs body env) (Qi h₀ env.locals I io s (J (i+1)) Q) E s₂) E s₁) E ⟨h,g,s.drawn,tk,s.os⟩)
  (done:∀ m₁ news₁ h tk g,J vs.length m₁ news₁→Fr h₀ env.locals h m₁→News h₀ env.locals h news₁→1≤tk→AllBare g→wpAny (model prog w) A (execs orelse env) Q E ⟨h,g,s.drawn,tk,s.os⟩):
  wpAny (model prog w) A (pyIter (.ref l)) (fun it s₂=>Q1t prog w A env target body orelse Q E it s₂) E s:=by
 refine wpAny_pyIter_list hls ?_
 have hnew:h₀.get? s.heap.objs.size=none:=by
  cases hq:h₀.get? s.heap.objs.size with
  |none=>rfl
  |some o'=>exact absurd (Heap.lt_size (F.keep _ _ hq)) (Nat.lt_irrefl _)
 have hL:s.heap.objs.size≠env.locals:=fun e=>absurd F.ns.lt (by rw [e];exact Nat.lt_irrefl _)
 obtain ⟨ol,hol,hcl,nl,hdl⟩:=id hls
 have hlt:l<s.heap.objs.size:=Heap.lt_size hol
 have hne:l≠s.heap.objs.size:=Nat.ne_of_lt hlt
 have W:=Walks.list (prog:=prog) (w:=w) hh s.heap.objs.size l hne vs.toArray
 k_extra "v1y"
 refine eq_97 (h₀:=h₀) (m₀:=m₀) (news:=news) W (fun h=>?_) (fun b hb=>by rw [List.mem_singleton.mp hb];exact hnew) J ⟨⟨_,Heap.get?_push_size _ rfl,rfl,rfl⟩,hls.push _⟩ (F.push _) (fun p hp=>⟨Heap.get?_push_of_some _ (N p hp).1,(N p hp).2⟩)
   (fun p hp h=>absurd (Heap.lt_size (N p hp).1) ((List.mem_singleton.mp h)▸Nat.lt_irrefl _)) hj ht hg (fun i v m₁ news₁ h tk g hi hP hJ hst F₁ N₁ hnw htk hg'=>?_) fun m₁ news₁ h tk g hJ F₁ N₁ htk hg'=>done m₁ news₁ h tk g hJ F₁ N₁ htk hg'
 ·rcases List.mem_cons.mp h with e|h
  ·exact hL e.symm
  ·exact hlL (List.mem_singleton.mp h).symm
 ·(refine eq_7 (hst) fun zq7 _=>?_;(try clear hst);(refine eq_18 (zq7) fun io hio hcls hdat=>?_;(try clear zq7)))
  have N₂:=eq_95 F₁ N₁ hio hL hnew
  refine wpAny_mono (turn i v m₁ news₁ h tk g _ io (by simpa using hP) hJ F₁ N₂ ⟨io,hio,hcls,hdat⟩ (fun p hp e=>hnw p hp (List.mem_singleton.mpr e)) (fun p hp=>Heap.lt_size (N p hp).1) htk hg') (fun _ s₁ a₁=>wpAny_mono a₁ (fun _ s₂ a₂=>wpAny_mono a₂ (fun f s₃ a₃=>?_) fun _ _ e=>e) fun _ _ e=>e) fun _ _ e=>e
  k_extra "vk"

theorem eq_159 {x:Str} {px:Pos} {it v:Value} {h:Heap} {g:Array GenState} {d:Drawn} {tk:Nat} {o:OsState} {R:Flow→Shared→Prop} {m:Str→Option Value} (hx:env.kindOf x=some .local)
  (hp:(env.scope.kind== .class||(env.scope.kind== .module&&env.locals != env.globals))=false) (F:Fr h₀ env.locals h m) (N:News h₀ env.locals h news)
  (k:∀ h',Fr h₀ env.locals h' (fun y=>if y=x then some v else m y)→News h₀ env.locals h' news→wpAny (model prog w) A (execs body env) R E ⟨h',g,d,tk+1,o⟩):
  wpAny (model prog w) A (letOwnedTupleGo (.Name x px) it v) (fun _ s₁=>wpAny (model prog w) A (assign (.Name x px) env v) (fun _ s₂=>wpAny (model prog w) A (execs body env) R E s₂) E s₁) E ⟨h,g,d,tk,o⟩:=by
 refine wpAny_of_eq (rfl:letOwnedTupleGo (.Name x px) it v=pure ()) ?_
 refine wpAny_assign_Name (wpAny_storeName_local hx F.ns (fun h' hn hs=>k h' (F.set hn hs) (N.set hs)) hp)
end


end
section
theorem eq_1261:True:=by
 k_with "g9"=>have offG:True:=trivial
 k_with "g10"=>skip
 k_with "dl_mem"=>((fail_if_success (k_extra "g10";clear offG));first|(with_reducible first|(apply eq_1230<;>assumption)|(apply eq_780<;>assumption)|(apply eq_278<;>assumption)|(apply eq_137<;>assumption)|(apply eq_445<;>assumption)|fail)|fail)
 trivial
theorem eq_323:∀ {vs:List Value} {ns:List Int} {i:Nat},IntsAre vs ns→i<ns.length→∃ p t q,vs=p++ .int (ns.getD i 0) t::q∧p.length=i∧IntsAre (p++q) (ns.eraseIdx i)
 |_,_,0,.cons n t hr,_=>⟨[],t,_,rfl,rfl,hr⟩
 |_,_,i+1,.cons n t hr,h=>by
  (refine eq_70 (eq_323 hr (Nat.lt_of_succ_lt_succ h)) fun p t' q e l x=>?_)
  exact ⟨.int n t::p,t',q,by rw [e];rfl,by rw [←l];rfl,.cons n t x⟩
section
variable {prog:Program} {w:World} {A:Around} {E:Value→Shared→Prop} {s:Shared} {h₀ h:Heap} {L D:Addr} {m:Str→Option Value} {news:List (Addr×Obj)} {its:Array Value} {n:Nat}
theorem eq_441 {i:Int} {u:Tok} {ns:List Int} {gg:Obj→List (Addr×Obj)} {Q:Value→Shared→Prop} (F:Fr h₀ L s.heap m) (N:News h₀ L s.heap news) (hi:IntsAre its.toList ns) {k:Nat} (hn:ns.length=k+1) (hb:0≤i∧i<((k+1:Nat):Int)) (hl:k≤1000)
  (U:UpdF D (listOf its n) news gg) (hq:∀ h' t vs',IntsAre vs' (ns.eraseIdx i.toNat)→(ns.eraseIdx i.toNat).length=k→Fr h₀ L h' m→News h₀ L h' (gg (listOf vs'.toArray (n+1)))→Q (.int (ns.getD i.toNat 0) t) { s with heap:=h' }):
  wpAny (model prog w) A (call (.builtin "list.pop") [.ref D,.int i u]) Q E s:=by
 (refine eq_7 (hb) fun h0 h1=>?_;(try clear hb))
 (refine eq_23 (U.split) fun pre post zq1 hg a b=>?_;subst zq1)
 have z:=N (D,listOf its n) (List.mem_append.mpr (.inr (.head _)))
 obtain ⟨p,t,q,e,hp,hv⟩:=eq_323 hi (i:=i.toNat) (by keq_rows)
 have ei:its=(p++ .int (ns.getD i.toNat 0) t::q).toArray:=by rw [←e,Array.toArray_toList]
 have hsz:its.size=ns.length:=by have:=hi.length;simpa using this
 have hf:Builtin.List.listFitsIndex i=true:=by
  have:ns.length<2 ^ 63:=by rw [hn];exact Nat.lt_of_le_of_lt (Nat.succ_le_succ hl) (by decide)
  simp only [Builtin.List.listFitsIndex,Bool.and_eq_true,decide_eq_true_eq];keq_rows
 have hk:seqIndex? i its.size=some p.length:=by
  simp only [seqIndex?]
  have e1:(if i<0 then i+(its.size:Int) else i)=i:=if_neg (by keq_rows)
  rw [e1,hp]
  exact if_pos (by rw [hsz,hn];simp only [Bool.and_eq_true,decide_eq_true_eq];exact ⟨h0,h1⟩)
 have hy:its[p.length]?=some (.int (ns.getD i.toNat 0) t):=by rw [ei];simp
 refine call_meets PySem.F.slot_list_pop ⟨_,z.1,rfl⟩ PySem.F.entry_list_pop (PySem.F.args_list_pop_2 _ _) (PySem.MeetsSeq.list_pop_at D _ n i u _ _ hf hk hy (by rw [hsz,sizeLine_eq];keq_rows)) ⟨z.1,hq _ t (p++q) hv (by rw [List.length_eraseIdx,if_pos (by keq_rows),hn];rfl) (F.change (Heap.SameBut.update ..) z.2.1 z.2.2) ?_⟩
 rw [hg]
 refine kl_turn _ N a b ?_ ?_
 ·subst ei;exact kl_erase p q _
 ·rw [ei,List.size_toArray,List.size_toArray,List.length_append,List.length_append,List.length_cons]
  keq_rows
theorem News.sub {news':List (Addr×Obj)} (N:News h₀ L h news) (q:∀ p∈news',p∈news):News h₀ L h news':=fun p hp=>N p (q p hp)
theorem News.tl {x:Addr×Obj} (N:News h₀ L h (x::news)):News h₀ L h news:=fun p hp=>N p (.tail _ hp)
theorem eq_51 {p:Addr×Obj} (N:News h₀ L h news) (q:p∈news):News h₀ L h [p]:=News.sub N fun _ hp=>by rw [List.mem_singleton.mp hp];exact q
end


end
section
section
variable {prog:Program} {w:World} {A:Around} {E:Value→Shared→Prop} {s:Shared} {h₀ h:Heap} {L D:Addr} {m:Str→Option Value} {news:List (Addr×Obj)}
theorem eq_1285:True:=by
 k_with "g10"=>have offG:True:=trivial
 k_with "g11"=>skip
 k_with "dl_mem"=>((fail_if_success (k_extra "g11";clear offG));first|(with_reducible first|(apply eq_733<;>assumption)|(apply eq_190<;>assumption)|apply eq_47|(apply eq_807<;>assumption)|(apply eq_613<;>assumption)|(apply eq_145<;>assumption)|fail)|(with_reducible apply eq_190;rotate_left;all_goals assumption)|(apply eq_190<;>assumption)|fail)
 trivial
theorem eq_933 {vs:List Value} {xs:List (List Nat)} (hs:StrsAre vs (xs.map S)):∀ i,i<xs.length→∃ t,vs[i]?=some (.str (S (xs.getD i [])) t):=by
 generalize e:xs.map S=ys at hs
 induction hs generalizing xs with
 |nil=>intro i hi;rw [List.map_eq_nil_iff.mp e] at hi;exact absurd hi (Nat.not_lt_zero _)
 |cons y t _ ih=>
  intro i hi
  cases xs with
  |nil=>cases e
  |cons x xs=>
   injection e with e1 e2
   subst e1
   cases i with
   |zero=>exact ⟨t,rfl⟩
   |succ i=>
    (refine eq_5 (ih e2 i (Nat.lt_of_succ_lt_succ hi)) fun t' h'=>?_)
    exact ⟨t',h'⟩
theorem eq_421 {value slice:PySem.Expr} {its:Array Value} {k:Nat} {i:Int} {u:Tok} {ys:List Str} {xs:List (List Nat)} {Q:Value→Shared→Prop} (N:News h₀ L s.heap news) (hm:(D,listOf its k)∈news) (hs:StrsAre its.toList ys) (e:ys=xs.map S)
  (h0:0≤i∧i<(xs.length:Int)) (hl:xs.length≤1000) (hq:∀ t,Q (.str (S (xs.getD i.toNat [])) t) s)
  (hs':subscripted slice false (.ref D) (.int i u)=operate [.ref D,.int i u] (getItem (.ref D) (.int i u)):=by with_unfolding_all rfl):wpAny (model prog w) A (subscriptTail value slice (.ref D) (.int i u)) Q E s:=by
 subst e
 have z:s.heap.IsList D its.toList.toArray:=⟨_,(N _ hm).1,rfl,k,by rw [Array.toArray_toList]⟩
 obtain ⟨t,ht⟩:=eq_933 hs i.toNat (by keq_rows)
 exact tail_any z.typeIs slot_list_getitem.lookup (wpAny_getItem_list z h0.1 (by keq_rows) (by simpa using ht) (hq t)) hs'
theorem eq_229 {value slice:PySem.Expr} {x:Str} {t u:Tok} {i:Int} {l:List Nat} {Q:Value→Shared→Prop} (e:x=S l) (h0:0≤i∧i<(l.length:Int)) (hl:l.length≤1000000) (ht:1≤s.toks) (hq:∀ t' tk,1≤tk→Q (.str (S [l.getD i.toNat 0]) t') { s with toks:=tk })
  (hs':subscripted slice false (.str x t) (.int i u)=operate [.str x t,.int i u] (getItem (.str x t) (.int i u)):=by with_unfolding_all rfl):wpAny (model prog w) A (subscriptTail value slice (.str x t) (.int i u)) Q E s:=by
 subst e
 refine tail_any (typeIs_str _ _ _) slot_str_getitem.lookup (PyProof.Rows.getItem_str (c:=l.getD i.toNat 0) ?_ ?_ (hq _ _ (by show @LE.le Nat _ 1 _;have:@LE.le Nat _ 1 s.toks:=ht;keq_rows))) hs'
 ·have:l.length<2 ^ 63:=Nat.lt_of_le_of_lt hl (by decide)
  simp only [Bool.or_eq_false_iff,decide_eq_false_iff_not];keq_rows
 ·have hk:seqIndex? i (S l).length=some i.toNat:=by
   simp only [seqIndex?]
   have e1:(if i<0 then i+((S l).length:Int) else i)=i:=if_neg (by keq_rows)
   rw [e1]
   exact if_pos (by rw [eq_9];simp only [Bool.and_eq_true,decide_eq_true_eq];exact h0)
  rw [hk]
  show (S l).cps[i.toNat]?=_
  have:i.toNat<l.length:=by keq_rows
  simp [S,this]
theorem eq_186 {a:List Nat} {b:List Nat} {t u:Tok} {Q:Value→Shared→Prop} (ht:1≤s.toks) (hsz:a.length+b.length≤16777216)
  (h:∀ t' tk,1≤tk→Q (.str (S (a++b)) t') { s with toks:=tk }):wpAny (model prog w) A (binaryOp .Add (.str (S a) t) (.str (S b) u)) Q E s:=
 wpAny_with_toks ht (PyProof.Rows.add_str (fun t' tk hk=>by rw [eq_45];exact h t' tk hk) (by rw [sizeLine_eq,eq_9,eq_9];exact hsz))
theorem eq_571 {a b:List Nat} {t u:Tok} {Q:Value→Shared→Prop} (ht:1≤s.toks) (hsz:a.length+b.length≤16777216)
  (h:∀ t' tk,1≤tk→Q (.str (S (a++b)) t') { s with toks:=tk }):wpAny (model prog w) A (inplaceOp .Add (.str (S a) t) (.str (S b) u)) Q E s:=
 wpAny_with_toks ht (PyProof.Rows.iadd_str (fun t' tk hk=>by rw [eq_45];exact h t' tk hk) (by rw [sizeLine_eq,eq_9,eq_9];exact hsz))
theorem eq_600 {a:List Nat} {y:Str} {t u:Tok} {Q:Value→Shared→Prop} (ht:1≤s.toks) (hsz:a.length+y.length≤16777216)
  (h:∀ t' tk,1≤tk→Q (.str (S (a++y.cps.toList)) t') { s with toks:=tk }):wpAny (model prog w) A (binaryOp .Add (.str (S a) t) (.str y u)) Q E s:=by
 rw [←eq_55 y]
 exact eq_186 ht (by rw [←eq_9 y.cps.toList,eq_55];exact hsz) h
theorem eq_287 {y:Str} {b:List Nat} {t u:Tok} {Q:Value→Shared→Prop} (ht:1≤s.toks) (hsz:y.length+b.length≤16777216)
  (h:∀ t' tk,1≤tk→Q (.str (S (y.cps.toList++b)) t') { s with toks:=tk }):wpAny (model prog w) A (binaryOp .Add (.str y t) (.str (S b) u)) Q E s:=by
 rw [←eq_55 y]
 exact eq_186 ht (by rw [←eq_9 y.cps.toList,eq_55];exact hsz) h
end
theorem eq_432 {a:Int} {k:Nat} (hk:0<k):0≤a.fmod k∧a.fmod k<k:=⟨Int.fmod_nonneg_of_pos _ (by keq_rows),Int.fmod_lt_of_pos _ (by keq_rows)⟩
theorem eq_622 {a y:Int} {k:Nat} (hk:y=((k+1:Nat):Int)):0≤a.fmod y∧a.fmod y<((k+1:Nat):Int):=by subst hk;exact eq_432 (Nat.succ_pos _)
theorem eq_372 {a y:Int} {k:Nat} (hk:y=(k:Int)) (h:0<k):0≤a.fmod y∧a.fmod y<(k:Int):=by subst hk;exact eq_432 h


end
section
section
variable {prog:Program} {w:World} {A:Around} {E:Value→Shared→Prop} {s:Shared} {h₀ h:Heap} {L D:Addr} {m:Str→Option Value} {news:List (Addr×Obj)} {o:Obj}
theorem eq_1336:True:=by
 k_with "g11"=>have offG:True:=trivial
 k_with "g12"=>skip
 k_with "dl_mem"=>((fail_if_success (k_extra "g12";clear offG));first|(with_reducible first|apply eq_607|(apply eq_582<;>assumption)|(apply eq_951<;>assumption)|(apply eq_156<;>assumption)|(apply eq_732<;>assumption)|apply eq_47|(apply eq_651<;>assumption)|(apply eq_118<;>assumption)|(apply eq_760<;>assumption)|(apply eq_966<;>assumption)|apply eq_196|(apply eq_757<;>assumption)|fail)|(with_reducible apply eq_156;rotate_left;all_goals assumption)|(apply eq_156<;>assumption)|(with_reducible apply eq_118;rotate_left;all_goals assumption)|(apply eq_118<;>assumption)|fail)
 k_with "g13"=>skip
 k_with "m"=>((fail_if_success (k_extra "g13";clear offG));(try dsimp only);repeat' (first|with_reducible assumption|exact if_pos rfl|refine Eq.trans (if_neg (by decide +kernel)) ?_|exact rfl))
 k_with "s"=>((fail_if_success (k_extra "g13";clear offG));first|exact trivial|(refine ⟨?_,⟨_,_,rfl,?_⟩,?_⟩;decide +kernel;decide +kernel;k_extra "s"))
 k_with "g14"=>skip
 k_with "t"=>((fail_if_success (k_extra "g14";clear offG));(try dsimp only);first|with_reducible assumption|with_reducible exact Nat.le_add_left 1 _|keq_rows|(show @LE.le Nat _ 1 _;keq_rows))
 k_with "eval Name"=>((fail_if_success (k_extra "g13";clear offG));k_here;k_dflt (refine' ld (by k_asm) (by with_reducible assumption) ?_;k_whole))
 k_with "loadName"=>((fail_if_success (k_extra "g13";clear offG));k_here;k_dflt (refine' ldn (by k_asm) (by with_reducible assumption) ?_;k_whole))
 k_with "execs cons"=>((fail_if_success (k_extra "g13";clear offG));refine wpAny_execs_cons ?_;(try k_fold))
 k_with "eval Constant str"=>((fail_if_success (k_extra "g13";clear offG));refine eq_493 ?_)
 k_with "eval Constant int"=>((fail_if_success (k_extra "g13";clear offG));refine eq_963 ?_)
 k_with "execs cons"=>((fail_if_success (k_extra "g13";clear offG));k_here;dsimp only)
 k_with "execs cons"=>((fail_if_success (k_extra "g13";clear offG));k_here;(try dsimp only);(with_reducible refine eq_312 (by first|with_reducible assumption|keq_rows|(show @LE.le Nat _ 1 _;keq_rows)) ?_);intro tkω htkω)
 k_with "execs cons"=>((fail_if_success (k_extra "g13";clear offG));k_here;(try dsimp only);(with_reducible refine eq_292 ?_);intro tkω htkω)
 k_with "execs nil"=>((fail_if_success (k_extra "g13";clear offG));k_here;dsimp only)
 k_with "execs nil"=>((fail_if_success (k_extra "g13";clear offG));k_here;(try dsimp only);(with_reducible refine eq_312 (by first|with_reducible assumption|keq_rows|(show @LE.le Nat _ 1 _;keq_rows)) ?_);intro tkω htkω)
 k_with "execs nil"=>((fail_if_success (k_extra "g13";clear offG));k_here;(try dsimp only);(with_reducible refine eq_292 ?_);intro tkω htkω)
 k_with "call builtin:str.replace"=>((fail_if_success (k_extra "g13";clear offG));k_here;(try dsimp only);refine eq_221 (by (try dsimp only);keq_rows) (by (show @LE.le Nat _ 1 _);keq_rows) (by (show @LE.le Nat _ 1 _);keq_rows) (by (show @Ne Nat _ _);keq_rows) (by decide) (by first|assumption|(simp only [eq_9];keq_rows)) (by decide) ?_;intro t'ω k'ω hk'ω)
 trivial
noncomputable def PrS:List (Str×Value)→List (Nat×List Nat)→Prop
 |(k,v)::r,(c,x)::q=>k=S [c]∧(∃ y t,v= .str y t∧y=S x)∧PrS r q
 |[],[]=>True
 |_,_=>False
theorem PrS.at (c:Nat):∀ {kvs:List (Str×Value)} {T:List (Nat×List Nat)},PrS kvs T→match T.lookup c with
  |some x=>∃ t,valueAt kvs (S [c])=some (.str (S x) t)
  |none=>valueAt kvs (S [c])=none
 |[],[],_=>rfl
 |(k,v)::r,(d,x)::q,⟨e,⟨y,t,ev,ey⟩,h⟩=>by
  subst e ev ey
  rw [List.lookup_cons]
  by_cases hc:c=d
  ·subst hc
   rw [beq_self_eq_true]
   exact ⟨t,by simp [valueAt]⟩
  ·have e1:(c==d)=false:=by simpa using hc
   have e2:¬ S [d]=S [c]:=fun q=>hc (by have:=Mine.eq_82 q;simpa using this.symm)
   have:=PrS.at c h
   rw [e1]
   have e3:valueAt ((S [d],Value.str (S x) t)::r) (S [c])=valueAt r (S [c]):=by simp [valueAt,e2]
   rw [e3]
   exact this
noncomputable def STab (prog:Program) (w:World) (o:Obj) (T:List (Nat×List Nat)):Prop:=∃ kvs,o.IsDictOf (PySem.strKind prog w) kvs∧PrS kvs T
theorem eq_135 {kvs:List (Str×Value)} {T:List (Nat×List Nat)} (hd:o.IsDictOf (PySem.strKind prog w) kvs) (p:PrS kvs T):STab prog w o T:=⟨kvs,hd,p⟩
theorem eq_950 {T:List (Nat×List Nat)} {pl:Sem Bool} {Q:Value×List Value→Shared→Prop} (N:News h₀ L s.heap news) (hm:(D,o)∈news) (hT:STab prog w o T) (hq:Q (.builtin "dict.get",[.ref D]) s):
  wpAny (model prog w) A (getMethod (.ref D) (Str.ofString "get") pl) Q E s:=by
 (refine eq_4 (hT) fun kvs hd _=>?_;(try clear hT))
 have M:=(Heap.dictOf_iff.mpr ⟨o,(N _ hm).1,hd⟩:s.heap.DictOf _ D kvs).mapOf
 exact getMethod_builtin M.typeIs PySem.F.plainAttrs_dict PySem.F.slot_dict_get PySem.F.type_dict_get M.noDict hq
theorem eq_947 {T:List (Nat×List Nat)} {c:Nat} {t t2:Tok} {z:List Nat} {Q:Value→Shared→Prop} (N:News h₀ L s.heap news) (hm:(D,o)∈news) (hT:STab prog w o T) (hD:(D==sysModules)=false) (ht:1≤s.toks)
  (hq:∀ t' tk,1≤tk→Q (.str (S ((T.lookup c).getD z)) t') { s with toks:=tk }):wpAny (model prog w) A (call (.builtin "dict.get") [.ref D,.str (S [c]) t,.str (S z) t2]) Q E s:=by
 (refine eq_4 (hT) fun kvs hd pr=>?_;(try clear hT))
 have M:=(Heap.dictOf_iff.mpr ⟨o,(N _ hm).1,hd⟩:s.heap.DictOf _ D kvs).mapOf
 have ht':@LE.le Nat _ 1 s.toks:=ht
 refine call_meetsIn PySem.F.slot_dict_get M.typeIs PySem.F.entry_dict_get (PySem.F.args_dict_get_3 _ _ _) (meets_dict_get_default (PySem.strKind prog w) D (strKind_is prog w (S [c]) t) hD _) ⟨_,M,?_⟩
 have:=PrS.at c pr
 cases e:T.lookup c with
 |some x=>
  rw [e] at this hq
  (refine eq_5 (this) fun t' h'=>?_;(try clear this))
  rw [h'];exact hq _ _ (by show @LE.le Nat _ 1 _;keq_rows)
 |none=>
  rw [e] at this hq
  have h':valueAt kvs (S [c])=none:=this
  rw [h'];exact hq _ _ (by show @LE.le Nat _ 1 _;keq_rows)
theorem eq_782 {value slice:PySem.Expr} {T:List (Nat×List Nat)} {c:Nat} {t:Tok} {x:List Nat} {Q:Value→Shared→Prop} (N:News h₀ L s.heap news) (hm:(D,o)∈news) (hT:STab prog w o T) (hx:T.lookup c=some x) (ht:1≤s.toks)
  (hq:∀ t' tk,1≤tk→Q (.str (S x) t') { s with toks:=tk })
  (hs':subscripted slice false (.ref D) (.str (S [c]) t)=operate [.ref D,.str (S [c]) t] (getItem (.ref D) (.str (S [c]) t)):=by with_unfolding_all rfl):wpAny (model prog w) A (subscriptTail value slice (.ref D) (.str (S [c]) t)) Q E s:=by
 (refine eq_4 (hT) fun kvs hd pr=>?_;(try clear hT))
 have M:=(Heap.dictOf_iff.mpr ⟨o,(N _ hm).1,hd⟩:s.heap.DictOf _ D kvs).mapOf
 have ht':@LE.le Nat _ 1 s.toks:=ht
 have:=PrS.at c pr
 rw [hx] at this
 (refine eq_5 (this) fun t' h'=>?_;(try clear this))
 exact tail_any M.typeIs PySem.F.slot_dict_getitem.lookup (wpAny_getItem_of (strKind_is prog w (S [c]) t) M h' (hq _ _ (by show @LE.le Nat _ 1 _;keq_rows))) hs'
theorem eq_1078 {c:Nat} {l:List Nat} {t u:Tok} {Q:Value→Shared→Prop} (hq:Q (.bool (decide (c∈l))) s):wpAny (model prog w) A (compareOp .In (.str (S [c]) t) (.str (S l) u)) Q E s:=
 PyProof.Rows.in_str (by
  have:=PySem.StrLaws.found_one (S l) c
  rw [eq_172] at this
  show Q (.bool (!(Builtin.Str.occurrences (S l) ⟨#[c]⟩ 0 (S l).length 1).isEmpty)) s
  rw [this];exact hq)
theorem eq_366 (a:Array Nat):∀ (k:Nat) (acc:Array Nat),List.foldl (fun x1 x2=>x1++x2) acc (List.replicate k a)=(acc.toList++(List.replicate k a.toList).flatten).toArray
 |0,acc=>by simp
 |k+1,acc=>by simp [List.replicate_succ,eq_366 a k,List.append_assoc]
theorem eq_1233 (xs:List Nat) (k:Nat):Txt.mul (S xs) (k:Int)=S (List.replicate k xs).flatten:=by
 unfold Txt.mul
 by_cases h1:(k:Int)<1
 ·have:k=0:=by keq_rows
  subst this
  rfl
 ·rw [if_neg h1]
  by_cases h2:(((k:Int)==1)||(S xs).length==0)=true
  ·rw [if_pos h2]
   rcases Bool.or_eq_true _ _▸h2 with h|h
   ·have:k=1:=by have:=eq_of_beq h;keq_rows
    subst this
    simp
   ·have:xs=[]:=by rw [eq_9] at h;simpa using h
    subst this
    simp
  ·rw [if_neg h2]
   have:=eq_366 (S xs).cps k #[]
   rw [Int.toNat_natCast,this,eq_172]
   rfl
theorem eq_667 {xs:List Nat} {y:Str} {t u:Tok} {n:Int} {k:Nat} {Q:Value→Shared→Prop} (e:y=S xs) (hx:xs.length≤16) (hn:n=k) (hk:k≤1000) (ht:1≤s.toks)
  (hq:∀ t' tk,1≤tk→Q (.str (S (List.replicate k xs).flatten) t') { s with toks:=tk }):wpAny (model prog w) A (binaryOp .Mult (.str y t) (.int n u)) Q E s:=by
 subst e hn
 refine wpAny_with_toks ht (SB.mul (mulOk_of 16 1048576 (by rw [eq_9];exact hx) (by keq_rows) (by keq_rows) (by decide) (by decide)) fun t' tk hk=>?_)
 rw [eq_1233];exact hq t' tk hk
end
noncomputable def Q1k:List (Nat×List Nat):=[(38,[97,109,112,59]),(60,[108,116,59]),(62,[103,116,59]),(34,[113,117,111,116,59]),(13,[35,120,68,59]),(10,[35,120,65,59]),(9,[35,120,57,59])]
noncomputable def Q3r:List (Nat×List Nat):=[(13,[35,49,51,59]),(10,[35,49,48,59]),(9,[35,48,57,59])]
noncomputable def Q21:List (Nat×List Nat):=[(75,[107]),(173,[]),(8203,[]),(64259,[102,102,105]),(890,[32,953]),(13255,[99,111,46]),(120068,[97]),(8481,[116,101,108]),(8207,[63]),(64976,[63])]
noncomputable def Q19:List (List Nat):=[[38,60,62],[38,60,62,34,13,10,9],[38,62,34],[38,60,62,13],[38,60,34,9,10,13]]
noncomputable def nmL:List (List Nat):=[[],[97,109,112,59],[108,116,59],[103,116,59],[113,117,111,116,59],[35,120,68,59],[35,120,65,59],[35,120,57,59],[35,49,51,59],[35,49,48,59],[35,48,57,59],[35,120,100,59],[35,120,97,59]]
noncomputable def lowL (l:List Nat):List Nat:=(Txt.lower (S l)).cps.toList
theorem eq_217:∀ x∈nmL,lowL x∈nmL:=by decide +kernel
theorem eq_174:∀ x∈nmL,x.length≤5:=by decide +kernel
theorem eq_85:∀ p∈Q1k,p.2∈nmL:=by decide +kernel
theorem eq_205:∀ p∈Q3r,p.2∈nmL:=by decide +kernel
theorem eq_551:∀ l∈Q19,∀ c∈l,(Q1k.lookup c).isSome:=by decide +kernel
noncomputable def Q2g (hand:Int) (c:Nat):List Nat:=if hand=1 then (Q3r.lookup c).getD ((Q1k.lookup c).getD []) else (Q1k.lookup c).getD []
noncomputable def inW (hand:Int) (c:Nat):Bool:=decide (c∈Q19.getD hand.toNat [])
noncomputable def Q1b (c:Nat) (st:List Nat×List Nat×Nat) (hand:Int):List Nat×List Nat×Nat:=
 if hand=5 then ((Q21.lookup c).getD [c],lowL st.2.1,st.2.2)
 else if hand<5∧0<st.2.2 then (st.1,st.2.1,st.2.2+1)
 else if hand<5∧inW hand c=true then (st.1,Q2g hand c,1)
 else st
noncomputable def Q28 (c:Nat) (eq_2:List Int):List Nat×List Nat×Nat:=eq_2.foldl (Q1b c) ([c],[],0)
noncomputable def ampL:List Nat:=[97,109,112,59]
noncomputable def Qa (c:Nat) (eq_2:List Int):List Nat:=let st:=Q28 c eq_2;if 0<st.2.2 then 38::((List.replicate (st.2.2-1) ampL).flatten++st.2.1) else st.1
theorem eq_1006:Str.ofString ""=S []:=by decide +kernel
theorem eq_746:Str.ofString "amp;"=S ampL:=by decide +kernel
theorem eq_133:∀ k:Nat,(List.replicate k ampL).flatten.length=4*k
 |0=>rfl
 |k+1=>by rw [List.replicate_succ,List.flatten_cons,List.length_append,eq_133 k];show 4+4*k=_;keq_rows
theorem eq_708 {i:Nat} {c:Nat} (h:c∈Q19.getD i []):Q1k.lookup c=some ((Q1k.lookup c).getD []):=by
 have hi:i<Q19.length:=by
  rcases Nat.lt_or_ge i Q19.length with q|q
  ·exact q
  ·have:Q19.getD i []=[]:=by simp [List.getD,List.getElem?_eq_none q]
   rw [this] at h;cases h
 have e:Q19.getD i []=Q19[i]:=by simp [hi]
 rw [e] at h
 have:=eq_551 _ (List.getElem_mem hi) c h
 cases q:Q1k.lookup c with
 |none=>rw [q] at this;cases this
 |some x=>rfl
theorem eq_160 {c:Nat} {x:List Nat}:∀ {T:List (Nat×List Nat)},T.lookup c=some x→(c,x)∈T
 |(d,y)::r,h=>by
  rw [List.lookup_cons] at h
  cases e:c==d with
  |true=>rw [e] at h;obtain rfl:=Option.some.inj h;obtain rfl:=eq_of_beq e;exact .head _
  |false=>rw [e] at h;exact .tail _ (eq_160 h)
theorem eq_53 {T:List (Nat×List Nat)} (hT:∀ p∈T,p.2∈nmL) {c:Nat} {z:List Nat} (hz:z∈nmL):(T.lookup c).getD z∈nmL:=by
 cases h:T.lookup c with
 |none=>exact hz
 |some x=>exact hT _ (eq_160 h)
theorem eq_64:([]:List Nat)∈nmL:=List.mem_cons_self ..
theorem eq_1011 (n:Int) (c:Nat):Q2g n c∈nmL:=by
 unfold Q2g
 split
 ·exact eq_53 eq_205 (eq_53 eq_85 eq_64)
 ·exact eq_53 eq_85 eq_64
theorem eq_1095 {c:Nat} {ns:List Int} {i:Nat} {n:Int} (h:ns[i]?=some n):Q28 c (ns.take (i+1))=Q1b c (Q28 c (ns.take i)) n:=by
 unfold Q28
 k_extra "v1u"
theorem eq_1047 {c:Nat} {st:List Nat×List Nat×Nat} {n:Int} (h:n=5):Q1b c st n=((Q21.lookup c).getD [c],lowL st.2.1,st.2.2):=if_pos h
theorem eq_1127 {c:Nat} {st:List Nat×List Nat×Nat} {n:Int} (h:n≠5) (h1:n<5) (h2:0<(st.2.2:Int)):Q1b c st n=(st.1,st.2.1,st.2.2+1):=(if_neg h).trans (if_pos ⟨h1,by keq_rows⟩)
theorem eq_327 {c:Nat} {st:List Nat×List Nat×Nat} {n:Int} (h:n≠5) (h1:n<5) (h2:¬ 0<(st.2.2:Int)) (h3:c∈Q19.getD n.toNat []):Q1b c st n=(st.1,Q2g n c,1):=
 (if_neg h).trans ((if_neg fun q=>h2 (by keq_rows)).trans (if_pos ⟨h1,decide_eq_true h3⟩))
theorem eq_905 {c:Nat} {st:List Nat×List Nat×Nat} {n:Int} (h:n≠5) (h1:n<5) (h2:¬ 0<(st.2.2:Int)) (h3:¬ c∈Q19.getD n.toNat []):Q1b c st n=st:=
 (if_neg h).trans ((if_neg fun q=>h2 (by keq_rows)).trans (if_neg fun q=>h3 (of_decide_eq_true q.2)))
theorem eq_772 {c:Nat} {st:List Nat×List Nat×Nat} {n:Int} (h:n≠5) (h1:¬ n<5):Q1b c st n=st:=(if_neg h).trans ((if_neg fun q=>h1 q.1).trans (if_neg fun q=>h1 q.1))
theorem eq_701 {c:Nat} {n:Int} (h:n=1):Q2g n c=(Q3r.lookup c).getD ((Q1k.lookup c).getD []):=if_pos h
theorem eq_611 {c:Nat} {n:Int} (h:n≠1):Q2g n c=(Q1k.lookup c).getD []:=if_neg h
theorem eq_1143 {c:Nat} {st:List Nat×List Nat×Nat} {n:Int} (h:n≠5) (h1:n<5) (h2:¬ 0<(st.2.2:Int)) (h3:c∈Q19.getD n.toNat []) (h4:n=1):Q1b c st n=(st.1,(Q3r.lookup c).getD ((Q1k.lookup c).getD []),1):=by rw [eq_327 h h1 h2 h3,eq_701 h4]
theorem eq_980 {c:Nat} {st:List Nat×List Nat×Nat} {n:Int} (h:n≠5) (h1:n<5) (h2:¬ 0<(st.2.2:Int)) (h3:c∈Q19.getD n.toNat []) (h4:n≠1):Q1b c st n=(st.1,(Q1k.lookup c).getD [],1):=by rw [eq_327 h h1 h2 h3,eq_611 h4]
theorem eq_408:(Str.ofString "&").cps.toList=[38]:=by decide +kernel
theorem eq_838:(Str.ofString "&").length=1:=by decide +kernel
theorem eq_446 {c:Nat} {ns:List Int} (h:¬ 0<((Q28 c ns).2.2:Int)):Qa c ns=(Q28 c ns).1:=if_neg fun q=>h (by keq_rows)
theorem eq_584 {c:Nat} {ns:List Int} (h:0<((Q28 c ns).2.2:Int)):Qa c ns=[38]++(List.replicate ((Q28 c ns).2.2-1) ampL).flatten++(Q28 c ns).2.1:=if_pos (by keq_rows)
theorem eq_919:∀ p∈Q21,p.2.length≤3:=by decide +kernel
theorem eq_1157 (c:Nat):((Q21.lookup c).getD [c]).length≤3:=by
 cases h:Q21.lookup c with
 |none=>exact Nat.succ_le_succ (Nat.zero_le _)
 |some x=>exact eq_919 _ (eq_160 h)
theorem eq_811 {c:Nat} {st:List Nat×List Nat×Nat} {n:Int} (h:st.1.length≤3∧st.2.1∈nmL):(Q1b c st n).1.length≤3∧(Q1b c st n).2.1∈nmL∧(Q1b c st n).2.2≤st.2.2+1:=by
 unfold Q1b
 split
 ·exact ⟨eq_1157 c,eq_217 _ h.2,Nat.le_succ _⟩
 ·split
  ·exact ⟨h.1,h.2,Nat.le_refl _⟩
  ·split
   ·exact ⟨h.1,eq_1011 _ _,Nat.le_add_left _ _⟩
   ·exact ⟨h.1,h.2,Nat.le_succ _⟩
theorem eq_251 (c:Nat):∀ (ns:List Int) (st:List Nat×List Nat×Nat),st.1.length≤3→st.2.1∈nmL→(ns.foldl (Q1b c) st).1.length≤3∧(ns.foldl (Q1b c) st).2.1∈nmL∧(ns.foldl (Q1b c) st).2.2≤st.2.2+ns.length
 |[],st,h1,h2=>⟨h1,h2,Nat.le_refl _⟩
 |n::r,st,h1,h2=>by
  have a:=eq_811 (c:=c) (n:=n) ⟨h1,h2⟩
  have b:=eq_251 c r (Q1b c st n) a.1 a.2.1
  refine ⟨b.1,b.2.1,?_⟩
  have:=b.2.2
  have:=a.2.2
  rw [List.length_cons,List.foldl_cons]
  keq_rows
theorem eq_709 {c:Nat} {ns:List Int} (h:ns.length≤5):(Qa c ns).length≤30:=by
 have a:=eq_251 c ns ([c],[],0) (by simp) eq_64
 have b:=eq_174 _ a.2.1
 unfold Qa
 show List.length (if 0<(Q28 c ns).2.2 then _ else _)≤30
 have a':(Q28 c ns).2.2≤5:=by have q:(Q28 c ns).2.2≤0+ns.length:=a.2.2;keq_rows
 have b':(Q28 c ns).2.1.length≤5:=b
 split
 ·rw [List.length_cons,List.length_append,eq_133];keq_rows
 ·have:(Q28 c ns).1.length≤3:=a.1
  keq_rows
theorem eq_731:[Str.ofString "&<>",Str.ofString "&<>\"\r\n\t",Str.ofString "&>\"",Str.ofString "&<>\r",Str.ofString "&<\"\t\n\r"]=Q19.map S:=by decide +kernel


end
section
theorem eq_1296:True:=by
 k_with "g12"=>have offG:True:=trivial
 k_with "g15"=>skip
 k_with "dl_mem"=>((fail_if_success (k_extra "g15";clear offG));first|(with_reducible first|apply eq_150|(apply eq_1008<;>assumption)|(apply eq_866<;>assumption)|(apply eq_1066<;>assumption)|apply eq_992|(apply eq_484<;>assumption)|(apply eq_1198<;>assumption)|fail)|fail)
 k_with "g16"=>skip
 k_with "binaryOp Add str str"=>((fail_if_success (k_extra "g16";clear offG));k_here;(with_reducible show wpAny _ _ (binaryOp _ (Value.str (S _) _) (Value.str (S _) _)) _ _ _);k_dflt (refine' eq_186 (by first|k_extra "t"|fail) (by first|ktr_rel|fail) ?_;intro t8ω k8ω hk8ω))
 k_with "binaryOp Add str str"=>((fail_if_success (k_extra "g16";clear offG));k_here;(with_reducible show wpAny _ _ (binaryOp _ (Value.str (S _) _) (Value.str (Str.ofString _) _)) _ _ _);k_dflt (refine' eq_600 (by first|k_extra "t"|fail) (by first|ktr_rel|fail) ?_;intro t8ω k8ω hk8ω))
 k_with "g17"=>skip
 k_with "binaryOp Add str str"=>((fail_if_success (k_extra "g17";clear offG));k_here;(with_reducible show wpAny _ _ (binaryOp _ (Value.str (Str.ofString _) _) (Value.str (S _) _)) _ _ _);k_dflt (refine' eq_287 (by first|k_extra "t"|fail) (by first|ktr_rel|fail) ?_;intro t8ω k8ω hk8ω))
 k_with "inplaceOp Add str str"=>((fail_if_success (k_extra "g16";clear offG));k_here;k_dflt (refine' eq_571 (by first|k_extra "t"|fail) (by first|ktr_rel|fail) ?_;intro t8ω k8ω hk8ω))
 k_with "ktr_rel"=>((fail_if_success (k_extra "g16";clear offG));(try simp only [List.length_append,List.length_singleton,List.length_cons,List.length_nil]);keq_rows)
 k_with "g18"=>skip
 k_with "eval Name"=>((fail_if_success (k_extra "g18";clear offG));k_here;k_dflt (refine' ld (by k_asm) ?_ ?_;k_extra "rotp";(· k_extra "m");k_whole))
 k_with "loadName"=>((fail_if_success (k_extra "g18";clear offG));k_here;k_dflt (refine' ldn (by k_asm) ?_ ?_;k_extra "rotp";(· k_extra "m");k_whole))
 k_with "g19"=>skip
 k_with "exec For Name Name cons nil"=>((fail_if_success (k_extra "g19";clear offG));k_here;refine halt ?_)
 trivial
noncomputable abbrev Q3u:Str:=Str.ofString "sign"
noncomputable abbrev Q2q:Str:=Str.ofString "shown"
noncomputable abbrev Q3o:Str:=Str.ofString "name"
noncomputable abbrev Q2e:Str:=Str.ofString "layers"
noncomputable abbrev handN:Str:=Str.ofString "hand"
theorem eq_1292:True:=by
 k_with "getMethod ref"=>((fail_if_success (k_extra "g15";clear offG));k_here;(with_reducible show wpAny _ _ (getMethod (Value.ref _) (Str.ofString "get") _) _ _ _);k_dflt (refine' eq_950 (by k_asm) (by first|k_mem|fail) (by with_reducible assumption) ?_))
 k_with "call builtin:dict.get"=>((fail_if_success (k_extra "g15";clear offG));k_here;k_dflt (refine' eq_947 (by k_asm) (by first|k_mem|fail) (by with_reducible assumption) (by with_reducible assumption) (by first|k_extra "t"|fail) ?_;intro t8ω k8ω hk8ω))
 k_with "subscriptTail"=>((fail_if_success (k_extra "g15";clear offG));k_here;(with_reducible show wpAny _ _ (subscriptTail _ _ (Value.ref _) (Value.str _ _)) _ _ _);k_dflt (refine' eq_782 (by k_asm) (by first|k_mem|fail) (by with_reducible assumption) (by first|exact eq_708 (by with_reducible assumption)|fail) (by first|k_extra "t"|fail) ?_ (by first|with_unfolding_all rfl|fail);intro t8ω k8ω hk8ω))
 k_with "subscriptTail"=>((fail_if_success (k_extra "g15";clear offG));k_here;(with_reducible show wpAny _ _ (subscriptTail _ _ (Value.ref _) (Value.int _ _)) _ _ _);k_dflt (refine' eq_421 (xs:=Q19) (by k_asm) (by first|k_mem|fail) (by with_reducible assumption) (by with_reducible assumption) (by first|(show 0≤_∧_<(5:Int));keq_rows|fail) (by decide) ?_ (by first|with_unfolding_all rfl|fail);intro t9ω))
 k_with "compareOp In str str"=>((fail_if_success (k_extra "g15";clear offG));k_here;(with_reducible show wpAny _ _ (compareOp _ (Value.str (S _) _) (Value.str (S _) _)) _ _ _);k_dflt (refine' eq_1078 ?_))
 trivial
noncomputable abbrev wInv (c:Nat) (ns:List Int) (m2:Str→Option Value) (nw:List (Addr×Obj)) (i:Nat) (m:Str→Option Value) (news:List (Addr×Obj)):Prop:=
 (∃ u,m Q2q=some (.str (S (Q28 c (ns.take i)).1) u))∧(∃ u,m Q3o=some (.str (S (Q28 c (ns.take i)).2.1) u))∧(∃ u,m Q2e=some (.int ((Q28 c (ns.take i)).2.2:Nat) u))∧(Q28 c (ns.take i)).2.1∈nmL∧(Q28 c (ns.take i)).2.2≤i∧(∀ y,y≠Q2q→y≠Q3o→y≠Q2e→y≠handN→m y=m2 y)∧news=nw
theorem eq_56 {c:Nat} {ns:List Int} {m2 m':Str→Option Value} {nw:List (Addr×Obj)} {i:Nat} {n:Int} {h₀ h':Heap} {L I:Addr} {io:Obj} {s:Shared} {tk:Nat} {g':Array GenState} {Q:Flow→Shared→Prop} (st:List Nat×List Nat×Nat) (hn:ns[i]?=some n) (e:Q1b c (Q28 c (ns.take i)) n=st) (hm:st.2.1∈nmL) (hle:st.2.2≤i+1)
  (F:Fr h₀ L h' m') (N:News h₀ L h' ((I,io)::nw)) (hI:∀ p∈nw,p.1≠I) (ht:1≤tk) (hg:AllBare g') (s1:∃ u,m' Q2q=some (.str (S st.1) u)) (s2:∃ u,m' Q3o=some (.str (S st.2.1) u)) (s3:∃ u,m' Q2e=some (.int (st.2.2:Nat) u))
  (r:∀ y,y≠Q2q→y≠Q3o→y≠Q2e→y≠handN→m' y=m2 y):Qi h₀ L I io s (wInv c ns m2 nw (i+1)) Q .next ⟨h',g',s.drawn,tk,s.os⟩:=by
 rw [←eq_1095 hn] at e
 subst e
 exact ⟨_,_,_,_,_,rfl,F,N,hI,ht,hg,s1,s2,s3,hm,hle,r,rfl⟩
theorem eq_1264:True:=by
 k_with "call builtin:str.lower"=>((fail_if_success (k_extra "g15";clear offG));k_here;(try dsimp only);k_dflt (refine SCL.lower (by simp only [eq_9];keq_rows) ?_);intro _)
 k_with "binaryOp Mult str int"=>((fail_if_success (k_extra "g15";clear offG));k_here;refine halt ?_)
 trivial
theorem eq_1111 {x:Addr×Obj} {l:List (Addr×Obj)} (h:x∈l):List.Mem x l:=h
theorem eq_925 {α:Type} {a b:α} {l m:List α} (h:m=a::b::l):b∈m:=h▸ .tail _ (.head _)
theorem eq_1112 {α:Type} {a b c:α} {l m:List α} (h:m=a::b::c::l):c∈m:=h▸ .tail _ (.tail _ (.head _))
theorem eq_729 {α:Type} {a b c d:α} {l m:List α} (h:m=a::b::c::d::l):d∈m:=h▸ .tail _ (.tail _ (.tail _ (.head _)))
theorem eq_552 {α:Type} {a b c d e:α} {l m:List α} (h:m=a::b::c::d::e::l):e∈m:=h▸ .tail _ (.tail _ (.tail _ (.tail _ (.head _))))
theorem eq_787 {α:Type} {a b c d e f:α} {l m:List α} (h:m=a::b::c::d::e::f::l):f∈m:=h▸ .tail _ (.tail _ (.tail _ (.tail _ (.tail _ (.head _)))))
set_option maxHeartbeats 0
theorem eq_1274:True:=by
 k_with "k_mem"=>((fail_if_success (k_extra "g15";clear offG));first|with_reducible assumption|exact eq_1111 (by with_reducible assumption))
 trivial
theorem eq_363 (w:World) (c:Nat) (t:Tok) (l:Addr) (ns:List Int) (vs:List Value) (k:Nat) (hi:IntsAre vs ns) (hl:ns.length≤5) (hb:∀ n∈ns,0≤n∧n≤6):Ct w 1 362 [.str (S [c]) t,.ref l] [(l,listOf vs.toArray k)] (fun v own=>own=[(l,listOf vs.toArray k)]∧∃ u,v= .str (S (Qa c ns)) u):=by
 k_extra "w0"
 replace F1:Fr g L1 h1 (fun y=>List.lookup y [(Str.ofString "hands",.ref l),(Str.ofString "sign",.str (S [c]) t)]):=F1
 k_steps
 unfold Q18
 refine eq_31 ?_
 walk1
 rename Obj.IsDictOf _ _ _=>d3
 have T3:=eq_135 (T:=Q21) d3 (by k_extra "s")
 clear d3
 rename PyProof.V.FlatPairs _ _ _=>d3
 clear d3
 rename Obj.IsDictOf _ _ _=>d2
 have T2:=eq_135 (T:=Q3r) d2 (by k_extra "s")
 clear d2
 rename PyProof.V.FlatPairs _ _ _=>d2
 clear d2
 rename Obj.IsDictOf _ _ _=>d1
 have T1:=eq_135 (T:=Q1k) d1 (by k_extra "s")
 clear d1
 rename PyProof.V.FlatPairs _ _ _=>d1
 clear d1
 rename Fr _ _ _ _=>F2
 rename News _ _ _ _=>N2
 k_extra "vy"
 k_extra "v1p"
 have M1:=eq_925 hnw
 have M2:=eq_1112 hnw
 have M3:=eq_729 hnw
 have M4:=eq_552 hnw
 have M5:=eq_787 hnw
 clear hnw
 obtain ⟨its,ys,hs4,he4,M4⟩:∃ its ys,StrsAre its.toList ys∧ys=Q19.map S∧(_,listOf its _)∈nw:=⟨_,_,.cons _ _ (.cons _ _ (.cons _ _ (.cons _ _ (.cons _ _ .nil)))),eq_731,M4⟩
 have G1:m2 (Str.ofString "wrote")=some _:=Eq.trans rfl (by rw [hm2];k_extra "m")
 have G2:m2 (Str.ofString "names")=some _:=Eq.trans rfl (by rw [hm2];k_extra "m")
 have G3:m2 (Str.ofString "tens")=some _:=Eq.trans rfl (by rw [hm2];k_extra "m")
 have G4:m2 (Str.ofString "folded")=some _:=Eq.trans rfl (by rw [hm2];k_extra "m")
 have G5:m2 Q3u=some _:=Eq.trans rfl (by rw [hm2];k_extra "m")
 have G6:∃ u,m2 Q2q=some (.str (S (Q28 c []).1) u):=⟨_,by rw [hm2];k_extra "m"⟩
 have G7:∃ u,m2 Q3o=some (.str (S (Q28 c []).2.1) u):=⟨_,by rw [hm2,eq_1006];k_extra "m"⟩
 have G8:∃ u,m2 Q2e=some (.int ((Q28 c []).2.2:Nat) u):=⟨_,by rw [hm2];k_extra "m"⟩
 clear hm2
 refine eq_103 rfl F2 N2 (by assumption) (by assumption) (wInv c ns m2 nw) ?_ (News.isList N2 (by k_mem)) ?_ ?_ ?_ ?_
 ·exact ⟨G6,G7,G8,List.mem_cons_self ..,Nat.zero_le _,fun _ _ _ _ _=>rfl,rfl⟩
 ·exact (N2 _ M5).2.1
 ·(intro i h m₁ news₁ zq1;(refine eq_176 (zq1) fun _ _ _ _ _ _ zq2=>?_;(try clear zq1);subst zq2);intro F₁ N₁)
  exact News.isList N₁ (by k_mem)
 ·(intro i v m₁ news₁ h tk g₁ I io hv zq3;(refine eq_176 (zq3) fun zq4 zq5 zq6 q4 q5 h2 zq7=>?_;(try clear zq3);(refine eq_5 (zq4) fun u₁ q1=>?_;(try clear zq4));(refine eq_5 (zq5) fun u₂ q2=>?_;(try clear zq5));(refine eq_5 (zq6) fun u₃ q3=>?_;(try clear zq6));subst zq7);intro F₁ N₁ hI hn₁ hII htk hg₁)
  (refine eq_14 (hi.at _ _ hv) fun n t zq8 hn=>?_;subst zq8)
  (refine eq_7 (hb n (List.mem_of_getElem? hn)) fun n0 n6=>?_)
  k_extra "vl"
  have g1:=(h2 (Str.ofString "wrote") (by decide +kernel) (by decide +kernel) (by decide +kernel) (by decide +kernel)).trans G1
  have g2:=(h2 (Str.ofString "names") (by decide +kernel) (by decide +kernel) (by decide +kernel) (by decide +kernel)).trans G2
  have g3:=(h2 (Str.ofString "tens") (by decide +kernel) (by decide +kernel) (by decide +kernel) (by decide +kernel)).trans G3
  have g4:=(h2 (Str.ofString "folded") (by decide +kernel) (by decide +kernel) (by decide +kernel) (by decide +kernel)).trans G4
  have g5:=(h2 Q3u (by decide +kernel) (by decide +kernel) (by decide +kernel) (by decide +kernel)).trans G5
  have b2:=eq_174 _ q4
  refine eq_1135 fun R hR=>?_
  k_steps
  ·refine hR _ _ ?_;exact eq_56 (_,_,_) hn (eq_1047 (by with_reducible assumption)) (eq_217 _ q4) (Nat.le_succ_of_le q5) (by assumption) (by first|assumption|exact News.tl (by assumption)) hn₁ (by assumption) (by with_reducible assumption) ⟨_,by k_extra "m"⟩ ⟨_,by k_extra "m"⟩ ⟨_,by k_extra "m"⟩ (fun y y1 y2 y3 y4=>by simp only [y1,y2,y3,y4,if_false];exact h2 y y1 y2 y3 y4)
  ·refine hR _ _ ?_;exact eq_56 (_,_,_) hn (eq_1127 (by with_reducible assumption) (by with_reducible assumption) (by with_reducible assumption)) q4 (Nat.succ_le_succ q5) (by assumption) (by first|assumption|exact News.tl (by assumption)) hn₁ (by assumption) (by with_reducible assumption) ⟨_,by k_extra "m"⟩ ⟨_,by k_extra "m"⟩ ⟨_,by k_extra "m"⟩ (fun y y1 y2 y3 y4=>by simp only [y1,y2,y3,y4,if_false];exact h2 y y1 y2 y3 y4)
  ·refine hR _ _ ?_;exact eq_56 (_,_,_) hn (eq_1143 (by with_reducible assumption) (by with_reducible assumption) (by with_reducible assumption) (by with_reducible assumption) (by with_reducible assumption)) (eq_53 eq_205 (eq_53 eq_85 eq_64)) (Nat.succ_le_succ (Nat.zero_le _)) (by assumption) (by first|assumption|exact News.tl (by assumption)) hn₁ (by assumption) (by with_reducible assumption) ⟨_,by k_extra "m"⟩ ⟨_,by k_extra "m"⟩ ⟨_,by k_extra "m"⟩ (fun y y1 y2 y3 y4=>by simp only [y1,y2,y3,y4,if_false];exact h2 y y1 y2 y3 y4)
  ·refine hR _ _ ?_;exact eq_56 (_,_,_) hn (eq_980 (by with_reducible assumption) (by with_reducible assumption) (by with_reducible assumption) (by with_reducible assumption) (by with_reducible assumption)) (eq_53 eq_85 eq_64) (Nat.succ_le_succ (Nat.zero_le _)) (by assumption) (by first|assumption|exact News.tl (by assumption)) hn₁ (by assumption) (by with_reducible assumption) ⟨_,by k_extra "m"⟩ ⟨_,by k_extra "m"⟩ ⟨_,by k_extra "m"⟩ (fun y y1 y2 y3 y4=>by simp only [y1,y2,y3,y4,if_false];exact h2 y y1 y2 y3 y4)
  ·refine hR _ _ ?_;exact eq_56 _ hn (eq_905 (by with_reducible assumption) (by with_reducible assumption) (by with_reducible assumption) (by with_reducible assumption)) q4 (Nat.le_succ_of_le q5) (by assumption) (by first|assumption|exact News.tl (by assumption)) hn₁ (by assumption) (by with_reducible assumption) ⟨_,by k_extra "m"⟩ ⟨_,by k_extra "m"⟩ ⟨_,by k_extra "m"⟩ (fun y y1 y2 y3 y4=>by simp only [y1,y2,y3,y4,if_false];exact h2 y y1 y2 y3 y4)
  ·refine hR _ _ ?_;exact eq_56 _ hn (eq_772 (by with_reducible assumption) (by with_reducible assumption)) q4 (Nat.le_succ_of_le q5) (by assumption) (by first|assumption|exact News.tl (by assumption)) hn₁ (by assumption) (by with_reducible assumption) ⟨_,by k_extra "m"⟩ ⟨_,by k_extra "m"⟩ ⟨_,by k_extra "m"⟩ (fun y y1 y2 y3 y4=>by simp only [y1,y2,y3,y4,if_false];exact h2 y y1 y2 y3 y4)
 ·(intro m₁ news₁ h tk g₁ zq9;(refine eq_176 (zq9) fun zq10 zq11 zq12 q4 q5 h2 zq13=>?_;(try clear zq9);(refine eq_5 (zq10) fun u₁ q1=>?_;(try clear zq10));(refine eq_5 (zq11) fun u₂ q2=>?_;(try clear zq11));(refine eq_5 (zq12) fun u₃ q3=>?_;(try clear zq12));subst zq13);intro F₁ N₁ htk hg₁)
  rw [show vs.length=ns.length from hi.length,List.take_length] at q1 q2 q3 q4 q5
  have b2:=eq_174 _ q4
  have b3:(Str.ofString "&").cps.toList.length=1:=by rw [eq_408];rfl
  have b5:=eq_838
  have b4:=eq_133 ((Q28 c ns).2.2-1)
  k_steps
  all_goals (try (unfold Q18;refine eq_667 (k:=(Q28 c ns).2.2-1) eq_746 (by decide) (by keq_rows) (by keq_rows) (by (try dsimp only);keq_rows) ?_;intro t8 k8 hk8;k_steps))
  all_goals (refine' hret _ _ _ [(l,listOf vs.toArray k)] _ ?F ?N ?k ?fr ?po ?t ?g;k_extra "w1";(case po=>exact ⟨rfl,_,by first|rw [eq_446 (by with_reducible assumption)]|rw [eq_584 (by with_reducible assumption),eq_408]⟩);k_extra "w2")


end
section
section
variable {prog:Program} {w:World} {A:Around} {E:Value→Shared→Prop} {s:Shared} {h₀:Heap} {L:Addr} {env:Env}
theorem eq_1286:True:=by
 k_with "g13"=>have offG:True:=trivial
 k_with "g14"=>have offG:True:=trivial
 k_with "g15"=>have offG:True:=trivial
 k_with "g16"=>have offG:True:=trivial
 k_with "g17"=>have offG:True:=trivial
 k_with "g18"=>have offG:True:=trivial
 k_with "g19"=>have offG:True:=trivial
 k_with "g20"=>skip
 k_with "dl_mem"=>((fail_if_success (k_extra "g20";clear offG));first|(with_reducible first|(apply eq_488<;>assumption)|apply eq_398|(apply eq_454<;>assumption)|fail)|fail)
 trivial
theorem eq_230 {I:Addr} {fp wr:List Addr} {n:Nat} {P:Nat→Value→Prop} {St:Nat→Heap→Prop} (W:Walks prog w A I fp wr n P St):∀ (k i:Nat) (s:Shared) (Q:List Value→Shared→Prop),i+k≤n→St i s.heap→
  (∀ vs h' tk,vs.length=k→(∀ j v,vs[j]?=some v→P (i+j) v)→St (i+k) h'→(∀ b o,b∉wr→s.heap.get? b=some o→h'.get? b=some o)→Q vs { s with heap:=h',toks:=tk })→wpAny (model prog w) A (draw (.ref I) k) Q E s
 |0,i,s,Q,_,hst,hq=>wpAny_pure (hq [] s.heap s.toks rfl (fun j v e=>by cases e) hst fun _ _ _ e=>e)
 |k+1,i,s,Q,hle,hst,hq=>by
  show wpAny _ _ (pyNext (.ref I) >>= _) Q E s
  refine wpAny_bind (W.item i _ _ _ (by keq_rows) hst fun v h₁ tk₁ hP hst₁ hk₁=>?_)
  refine wpAny_bind (wpAny_holding (eq_230 W k (i+1) _ _ (by keq_rows) hst₁ fun vs h₂ tk₂ hl hPs hst₂ hk₂=>wpAny_pure ?_))
  refine hq (v::vs) h₂ tk₂ (by rw [List.length_cons,hl]) (fun j x e=>?_) (by rw [show i+(k+1)=i+1+k by keq_rows];exact hst₂) fun b o hb e=>hk₂ b o hb (hk₁ b o hb e)
  cases j with
  |zero=>rw [List.getElem?_cons_zero] at e;obtain rfl:=Option.some.inj e;exact hP
  |succ j=>rw [List.getElem?_cons_succ] at e;have:=hPs j x e;rw [show i+(j+1)=i+1+j by keq_rows];exact this
theorem eq_692 {α:Type} {vs:List α} {x y:α} (h:vs.length=2) (h0:∀ a,vs[0]?=some a→x=a) (h1:∀ b,vs[1]?=some b→y=b):vs=[x,y]:=by
 cases vs with
 |nil=>cases h
 |cons a t=>
  cases t with
  |nil=>cases h
  |cons b r=>
   cases r with
   |nil=>rw [h0 a rfl,h1 b rfl]
   |cons c r=>cases h
theorem eq_804 {l:Addr} {v₁ v₂:Value} {Q:List Value→Shared→Prop} (hh:A.handled=none) (hl:s.heap.IsList l #[v₁,v₂]) (hq:∀ h' tk,(∀ b o,s.heap.get? b=some o→h'.get? b=some o)→Q [v₁,v₂] { s with heap:=h',toks:=tk }):
  wpAny (model prog w) A (unpackItems (.ref l) 2 none) Q E s:=by
 obtain ⟨ol,hol,hcl,nl,hdl⟩:=id hl
 have hlt:l<s.heap.objs.size:=Heap.lt_size hol
 have hne:l≠s.heap.objs.size:=Nat.ne_of_lt hlt
 unfold unpackItems
 k_extra "vw"
 unfold notIterableAtAll
 refine wpAny_bind (wpAny_specialOf hl.typeIs slot_list_iter.lookup ?_)
 k_extra "vx"
 k_extra "v1m"
 refine wpAny_bind (wpAny_holding (wpAny_pyIter_list hl ?_))
 have W:=Walks.list (prog:=prog) (w:=w) hh s.heap.objs.size l hne #[v₁,v₂]
 refine wpAny_bind (wpAny_holding (eq_230 W 2 0 _ _ (Nat.le_refl 2) ⟨⟨_,Heap.get?_push_size _ rfl,rfl,rfl⟩,hl.push _⟩ fun vs h₁ tk₁ hvl hP hst hk₁=>?_))
 have e:vs=[v₁,v₂]:=eq_692 hvl (fun a e=>Option.some.inj (hP 0 a e:some v₁=some a)) (fun b e=>Option.some.inj (hP 1 b e:some v₂=some b))
 subst e
 rw [if_neg (show ¬ [v₁,v₂].length<2 from Nat.lt_irrefl 2)]
 refine wpAny_bind (wpAny_holding (W.done _ _ _ hst fun h₂ tk₂ hk₂=>?_))
 simp only [Option.isSome_none,Bool.false_eq_true,if_false]
 have off:∀ b o,s.heap.get? b=some o→b∉[s.heap.objs.size]:=fun b o e hm=>Nat.lt_irrefl _ (List.mem_singleton.mp hm▸Heap.lt_size e)
 exact wpAny_pure (hq h₂ _ fun b o e=>hk₂ b o (off b o e) (hk₁ b o (off b o e) (Heap.get?_push_of_some _ e)))
theorem eq_275 {elts:List PySem.Expr} {x1:Nat} {pos:Pos} {l:Addr} {v₁ v₂:Value} {Q:Unit→Shared→Prop} (hh:A.handled=none) (hl:s.heap.IsList l #[v₁,v₂]) (hn:(assignEach elts env).length=2) (hstar:(assignEach elts env).findIdx? (·.1)=none)
  (h:∀ h' tk,(∀ b o,s.heap.get? b=some o→h'.get? b=some o)→wpAny (model prog w) A (assignInOrder ((assignEach elts env).map (·.2)) [v₁,v₂]) Q E { s with heap:=h',toks:=tk }):
  wpAny (model prog w) A (assign (.Tuple elts x1 pos) env (.ref l)) Q E s:=by
 rw [assign_Tuple]
 refine wpAny_bind (wpAny_standAt ?_)
 unfold unpack
 rw [hn,hstar]
 exact wpAny_bind (wpAny_holding (eq_804 hh hl fun h' tk hk=>h h' tk hk))
theorem eq_1097 {x y:Str} {px py tp:Pos} {x1:Nat} {it:Value} {l:Addr} {v₁ v₂:Value} {h:Heap} {g:Array GenState} {d:Drawn} {tk:Nat} {o:OsState} {R:Flow→Shared→Prop} {m:Str→Option Value} {body:List Stmt} {news:List (Addr×Obj)} (hx:env.kindOf x=some .local) (hy:env.kindOf y=some .local)
  (hp:(env.scope.kind== .class||(env.scope.kind== .module&&env.locals != env.globals))=false) (hh:A.handled=none) (hgo:wpAny (model prog w) A (letOwnedTupleGo (.Tuple [.Name x px,.Name y py] x1 tp) it (.ref l)) (fun _ s₁=>s₁=⟨h,g,d,tk,o⟩) E ⟨h,g,d,tk,o⟩)
  (hl:h.IsList l #[v₁,v₂]) (F:Fr h₀ env.locals h m) (N:News h₀ env.locals h news) (ht:1≤tk)
  (k:∀ h' tk',1≤tk'→Fr h₀ env.locals h' (fun z=>if z=y then some v₂ else if z=x then some v₁ else m z)→News h₀ env.locals h' news→wpAny (model prog w) A (execs body env) R E ⟨h',g,d,tk',o⟩):
  wpAny (model prog w) A (letOwnedTupleGo (.Tuple [.Name x px,.Name y py] x1 tp) it (.ref l)) (fun _ s₁=>wpAny (model prog w) A (assign (.Tuple [.Name x px,.Name y py] x1 tp) env (.ref l)) (fun _ s₂=>wpAny (model prog w) A (execs body env) R E s₂) E s₁) E ⟨h,g,d,tk,o⟩:=by
 refine wpAny_mono hgo (fun _ s₁ e=>?_) fun _ _ e=>e
 subst e
 k_extra "v20"
 refine eq_275 hh hl rfl rfl fun h₁ tk₁ hk₁=>?_
 have F₁:=F.keeps hk₁
 have N₁:News h₀ env.locals h₁ news:=fun p hp=>⟨hk₁ _ _ (N p hp).1,(N p hp).2⟩
 refine assignInOrder_cons (wpAny_assign_Name (wpAny_storeName_local hx F₁.ns (fun h₂ hn₂ hs₂=>?_) hp))
 have F₂:=F₁.set hn₂ hs₂
 refine assignInOrder_cons (wpAny_assign_Name (wpAny_storeName_local hy F₂.ns (fun h₃ hn₃ hs₃=>?_) hp))
 refine assignInOrder_nil ?_
 intro ht3
 exact k h₃ _ ht3 (F₂.set hn₃ hs₃) ((N₁.set hs₂).set hs₃)
end


end
section
theorem eq_1246:True:=by
 k_with "g20"=>have offG:True:=trivial
 trivial
noncomputable def CtP (w:World) (lv:Nat) (f:Addr) (vs:List Value) (pre:Heap→Prop) (post:Value→List (Addr×Obj)→Prop):Prop:=
 ∀ (p:Program) (loose:List Str) (mean:ExcName→Option Value) (mg mb:Str→Option Value) (dp un:Nat) (gd:Option (List Code)) (cn:Str) (cs:Scope) (a:Addr) (ccd:Value) (cl:List (Str×Addr)) (outer:List Env) (A₀:Around) (base h₀:Heap) (L:Addr) (m:Str→Option Value) (s:Shared) (Q E:Value→Shared→Prop),
  Below A₀ base outer h₀→Fr h₀ L s.heap m→(Kx w.params).In h₀→News h₀ L s.heap []→Top p loose mean mg mb h₀→cs.kind= .function→dp+20*lv<recursionLimit→un+200*lv<cLine→1≤s.toks→AllBare s.gens→pre s.heap→
  (∀ v h' tk' own' g',Fr h₀ L h' m→News h₀ L h' own'→(∀ b o,s.heap.get? b=some o→h'.get? b=some o)→(∀ p∈own',s.heap.get? p.1=none)→post v own'→1≤tk'→AllBare g'→Q v ⟨h',g',s.drawn,tk',s.os⟩)→
   wpAny (model PySem.Challenge.rw_xo0041_01.prog w) (ktrTop dp un gd cn cs L a ccd cl outer) (call (.ref f) vs) Q E s
section
variable {A₀:Around} {s:Shared} {base h₀:Heap} {outer:List Env} {L:Addr} {m:Str→Option Value} {news:List (Addr×Obj)} {p:Program} {loose:List Str} {mean:ExcName→Option Value} {mg mb:Str→Option Value}
theorem eq_1156 {w:World} {lv:Nat} {f:Addr} {vs:List Value} {pre:Heap→Prop} {post:Value→List (Addr×Obj)→Prop} {dp un:Nat} {gd:Option (List Code)} {cn:Str} {cs:Scope} {a:Addr} {ccd:Value} {cl:List (Str×Addr)} {Q E:Value→Shared→Prop}
  (C:CtP w lv f vs pre post) (B:Below A₀ base outer h₀) (F:Fr h₀ L s.heap m) (X:(Kx w.params).In h₀) (N:News h₀ L s.heap news) (hpre:pre s.heap) (T:Top p loose mean mg mb h₀) (hk:cs.kind= .function) (hd:dp+20*lv<recursionLimit) (hu:un+200*lv<cLine) (ht:1≤s.toks) (hg:AllBare s.gens)
  (k:∀ v h' tk' own' g',Fr h₀ L h' m→News h₀ L h' (own'++news)→(∀ b o,s.heap.get? b=some o→h'.get? b=some o)→(∀ q∈own',∀ p∈news,p.1≠q.1)→post v own'→1≤tk'→AllBare g'→Q v ⟨h',g',s.drawn,tk',s.os⟩):
  wpAny (model PySem.Challenge.rw_xo0041_01.prog w) (ktrTop dp un gd cn cs L a ccd cl outer) (call (.ref f) vs) Q E s:=
 C p loose mean mg mb dp un gd cn cs a ccd cl outer A₀ base h₀ L m s Q E B F X (fun _ h=>nomatch h) T hk hd hu ht hg hpre
  fun v h' tk' own' g' F' N' kp kn po htk hg'=>k v h' tk' own' g' F' (fun p hp=>(List.mem_append.mp hp).elim (N' p) fun hp=>⟨kp _ _ (N p hp).1,(N p hp).2⟩) kp
   (fun q hq p hp e=>by have:=kn q hq;rw [←e,(N p hp).1] at this;cases this) po htk hg'
theorem eq_423 {w:World} {lv:Nat} {f:Addr} {vs:List Value} {D:Addr} {o:Obj} {post:Value→Prop} {dp un:Nat} {gd:Option (List Code)} {cn:Str} {cs:Scope} {a:Addr} {ccd:Value} {cl:List (Str×Addr)} {Q E:Value→Shared→Prop}
  (C:Ct w lv f vs [(D,o)] (fun v own=>own=[(D,o)]∧post v)) (B:Below A₀ base outer h₀) (F:Fr h₀ L s.heap m) (X:(Kx w.params).In h₀) (N:News h₀ L s.heap ((D,o)::news)) (hr:∀ p∈news,p.1≠D) (T:Top p loose mean mg mb h₀) (hk:cs.kind= .function) (hd:dp+20*lv<recursionLimit) (hu:un+200*lv<cLine) (ht:1≤s.toks) (hg:AllBare s.gens)
  (k:∀ v h' tk' g',Fr h₀ L h' m→News h₀ L h' ((D,o)::news)→post v→1≤tk'→AllBare g'→Q v ⟨h',g',s.drawn,tk',s.os⟩):
  wpAny (model PySem.Challenge.rw_xo0041_01.prog w) (ktrTop dp un gd cn cs L a ccd cl outer) (call (.ref f) vs) Q E s:=
 eq_127 (rest:=news) C B F X N (fun p hp=>by rw [List.mem_singleton.mp hp];exact .head _) (fun p hp=>⟨.tail _ hp,fun hm=>hr p hp (by simpa using hm)⟩) T hk hd hu ht hg
  fun v h' tk' own' g' F' N' _ po htk hg'=>by
   (revert po;intro zq1;(refine eq_7 (zq1) fun zq2 po=>?_;(try clear zq1);subst zq2))
   exact k v h' tk' g' F' N' po htk hg'
variable {prog:Program} {w:World} {A:Around} {E:Value→Shared→Prop}
theorem eq_978 {value slice:PySem.Expr} {l:Addr} {vs:List Value} {ns:List Int} {b t:Nat} {u1 u2:Tok} {Q:Value→Shared→Prop} (F:Fr h₀ L s.heap m) (N:News h₀ L s.heap news) (hl:s.heap.IsList l vs.toArray) (hi:IntsAre vs ns) (hn:ns.length≤1000)
  (h:∀ D ws h',Fr h₀ L h' m→News h₀ L h' ((D,listOf (List.toArray ws) 0)::news)→(∀ p∈news,p.1<D)→IntsAre ws ((ns.drop b).take (min t ns.length-b))→Q (.ref D) { s with heap:=h' })
  (hs:subscripted slice false (.ref l) (.ref s.heap.objs.size)=operate [.ref s.heap.objs.size,.ref l] (getItem (.ref l) (.ref s.heap.objs.size))) (ht:∀ r,letTemporaryGo value (.ref l) r=pure ()):
  wpAny (model prog w) A (subscriptTail value slice (.ref l) (.ref s.heap.objs.size)) Q E { s with heap:=s.heap.push { cls:=.type "slice",data:=.fields #[.int (b:Nat) u1,.int (t:Nat) u2,.none] } }:=
 kmk_slice_ints F N hl (IsPart.int _ _) (IsPart.int _ _) hi (kmk_run hi (Int.natCast_nonneg _) (Int.natCast_nonneg _)) rfl (fun D ws h' F' N' l1 hI _ _=>h D ws h' F' N' l1 hI) hs ht (kmk_sz hi (by rw [sizeLine_eq];keq_rows))
end
noncomputable def Q2t (h:Heap) (v:Value) (c:Nat×Nat):Prop:=∃ ca t1 t2 k,v= .ref ca∧h.get? ca=some (listOf #[.str (S [c.1]) t1,.int (c.2:Nat) t2] k)
noncomputable def Q3m (h:Heap) (a:Addr) (cs:List (Nat×Nat)):Prop:=∃ vs k,h.get? a=some (listOf vs.toArray k)∧Fa2 (Q2t h) vs cs
noncomputable def IntsAt (h:Heap) (a:Addr) (ns:List Int):Prop:=∃ vs k,h.get? a=some (listOf vs.toArray k)∧IntsAre vs ns
theorem Q2t.keeps {h h':Heap} (k:∀ b o,h.get? b=some o→h'.get? b=some o) {v:Value} {c:Nat×Nat} (x:Q2t h v c):Q2t h' v c:=let ⟨ca,t1,t2,n,e,q⟩:=x;⟨ca,t1,t2,n,e,k _ _ q⟩
noncomputable def Q1o (own:List (Addr×Obj)) (v:Value) (c:Nat×Nat):Prop:=∃ ca t1 t2 k,v= .ref ca∧(ca,listOf #[.str (S [c.1]) t1,.int (c.2:Nat) t2] k)∈own
noncomputable def Q1q (own:List (Addr×Obj)) (a:Addr) (cs:List (Nat×Nat)):Prop:=∃ vs k,(a,listOf vs.toArray k)∈own∧Fa2 (Q1o own) vs cs
theorem Q1o.sub {own own':List (Addr×Obj)} (k:∀ p∈own,p∈own') {v:Value} {c:Nat×Nat} (x:Q1o own v c):Q1o own' v c:=let ⟨ca,t1,t2,n,e,q⟩:=x;⟨ca,t1,t2,n,e,k _ q⟩
theorem Q1q.sub {own own':List (Addr×Obj)} (k:∀ p∈own,p∈own') {a:Addr} {cs:List (Nat×Nat)} (x:Q1q own a cs):Q1q own' a cs:=let ⟨vs,n,q,r⟩:=x;⟨vs,n,k _ q,r.mono fun _ _ y=>y.sub k⟩
theorem Q1q.heap {h₀ h:Heap} {L a:Addr} {own:List (Addr×Obj)} {cs:List (Nat×Nat)} (x:Q1q own a cs) (N:News h₀ L h own):Q3m h a cs:=
 let ⟨vs,n,q,r⟩:=x;⟨vs,n,(N _ q).1,r.mono fun _ _ ⟨ca,t1,t2,k,e,z⟩=>⟨ca,t1,t2,k,e,(N _ z).1⟩⟩


end
section
section
variable {prog:Program} {w:World} {A:Around} {E:Value→Shared→Prop} {s:Shared} {h₀ h:Heap} {L D:Addr} {m:Str→Option Value} {news:List (Addr×Obj)}
theorem eq_1242:True:=by
 k_with "g21"=>skip
 k_with "dl_mem"=>((fail_if_success (k_extra "g21";clear offG));first|(with_reducible first|(apply eq_659<;>assumption)|apply eq_262|apply eq_1007|apply eq_1153|(apply eq_189<;>assumption)|apply eq_47|(apply eq_198<;>assumption)|apply eq_575|(apply eq_177<;>assumption)|(apply eq_245<;>assumption)|(apply eq_390<;>assumption)|fail)|fail)
 trivial
theorem eq_645 (n:Nat):Builtin.Str.strSliceIndices none (some 1) 1 (n+1)=[0]:=by
 have e:max (0:Int) (min 1 ((n+1:Nat):Int))=1:=by keq_rows
 show sliceRange 0 (max 0 (min 1 ((n+1:Nat):Int))) 1=[0]
 rw [e];rfl
theorem eq_603 (l:List Nat):Txt.slice (S l) none (some 1)=S (l.take 1):=by
 cases l with
 |nil=>rfl
 |cons a r=>
  unfold Txt.slice
  rw [eq_9,List.length_cons,eq_645]
  cases r with
  |nil=>rfl
  |cons b q=>
   rw [if_neg (by simp)]
   rfl
theorem eq_1154 {value:PySem.Expr} {slice:PySem.Expr} {l:List Nat} {t:Tok} {uj:Tok} {Q:Value→Shared→Prop} (F:Fr h₀ L s.heap m) (N:News h₀ L s.heap news) (ht:1≤s.toks) (hz:l.length≤16777216) (h:∀ h' t' tk,1≤tk→Fr h₀ L h' m→News h₀ L h' news→Q (.str (S (l.take 1)) t') { s with heap:=h',toks:=tk })
  (hs:subscripted slice false (.str (S l) t) (.ref s.heap.objs.size)=operate [.ref s.heap.objs.size,.str (S l) t] (getItem (.str (S l) t) (.ref s.heap.objs.size)))
  (hl:∀ r,letTemporaryGo value (.str (S l) t) r=pure ()):
  wpAny (model prog w) A (subscriptTail value slice (.str (S l) t) (.ref s.heap.objs.size)) Q E { s with heap:=s.heap.push { cls:=.type "slice",data:=.fields #[.none,.int 1 uj,.none] } }:=by
 refine wpAny_with_toks (n:=1) ht (slice_strN_ns F N (fun h' t' k F' N' ht'=>?_) hs hl (by rw [eq_9,sizeLine_eq];exact hz))
 rw [eq_603]
 exact h h' t' k ht' F' N'
theorem eq_544 {l:List Nat} {t:Tok} {Q:Value→Shared→Prop} (ht:1≤s.toks) (hz:l.length≤16777216) (h:∀ t' tk,1≤tk→Q (.int (l.length:Nat) t') { s with toks:=tk }):wpAny (model prog w) A (call (.builtin "len") [.str (S l) t]) Q E s:=
 PyProof.Rows.len_str (by rw [eq_9];keq_rows) (by rw [eq_9];exact h _ _ (by show @LE.le Nat _ 1 _;keq_rows))
theorem eq_799 {a b:List Nat}:(S a=S b)↔a=b:=⟨eq_82,fun e=>by rw [e]⟩
theorem eq_871 {c:Nat} {l:List Nat} {t u:Tok} {Q:Value→Shared→Prop} (hq:Q (.bool (!(decide (c∈l)))) s):wpAny (model prog w) A (compareOp .NotIn (.str (S [c]) t) (.str (S l) u)) Q E s:=
 PyProof.Rows.notIn_str (by
  have:=PySem.StrLaws.found_one (S l) c
  rw [eq_172] at this
  show Q (.bool (!(!(Builtin.Str.occurrences (S l) ⟨#[c]⟩ 0 (S l).length 1).isEmpty))) s
  rw [this];exact hq)
theorem eq_615 {value slice:PySem.Expr} {bs:Array Value} {v:Value} {k:Nat} {u:Tok} {Q:Value→Shared→Prop} (N:News h₀ L s.heap news) (hm:(D,listOf (bs.push v) k)∈news) (hq:Q v s) (hz:bs.size≤16777215)
  (hs':subscripted slice false (.ref D) (.int (-1) u)=operate [.ref D,.int (-1) u] (getItem (.ref D) (.int (-1) u)):=by with_unfolding_all rfl):wpAny (model prog w) A (subscriptTail value slice (.ref D) (.int (-1) u)) Q E s:=by
 have z:s.heap.IsList D (bs.push v):=⟨_,(N _ hm).1,rfl,k,rfl⟩
 refine tail_any z.typeIs slot_list_getitem.lookup (wpAny_getItem_list_neg (x:=v) z (by decide) (by rw [Array.size_push];keq_rows) (by decide) ?_ hq) hs'
 have:((-1:Int)+((bs.push v).size:Nat)).toNat=bs.size:=by rw [Array.size_push];keq_rows
 rw [this]
 simp
theorem eq_136 {value slice:PySem.Expr} {its:Array Value} {v:Value} {k:Nat} {i:Int} {u:Tok} {Q:Value→Shared→Prop} (N:News h₀ L s.heap news) (hm:(D,listOf its k)∈news) (h0:0≤i) (h1:i<1000000) (hv:its[i.toNat]?=some v) (hq:Q v s)
  (hs':subscripted slice false (.ref D) (.int i u)=operate [.ref D,.int i u] (getItem (.ref D) (.int i u)):=by with_unfolding_all rfl):wpAny (model prog w) A (subscriptTail value slice (.ref D) (.int i u)) Q E s:=by
 have z:s.heap.IsList D its:=⟨_,(N _ hm).1,rfl,k,rfl⟩
 exact tail_any z.typeIs slot_list_getitem.lookup (wpAny_getItem_list z h0 (by keq_rows) hv hq) hs'
theorem eq_1103 {a b:Addr} {lds:List Value} {k k2:Nat} {Q:Value→Shared→Prop} (N:News h₀ L s.heap news) (h1:(a,listOf lds.toArray k)∈news) (h2:(b,listOf #[] k2)∈news) (hu:A.units<cLine) (hq:Q (.bool (!lds.isEmpty)) s):
  wpAny (model prog w) A (compareOp .NotEq (.ref a) (.ref b)) Q E s:=by
 refine cmp_ofNotEq ?_
 have z1:s.heap.IsList a lds.toArray:=⟨_,(N _ h1).1,rfl,k,rfl⟩
 have z2:s.heap.IsList b #[]:=⟨_,(N _ h2).1,rfl,k2,rfl⟩
 cases lds with
 |nil=>exact PySem.SeqAt.RcNeAt.lists (e:=fun _=>true) z1 z2 rfl hu (fun j h=>absurd h (Nat.not_lt_zero _)) prog w E Q hq
 |cons x r=>exact PySem.SeqAt.RcNeAt.lists_lengths z1 z2 (by simp) hu prog w E Q hq
theorem eq_1050 {b:Addr} {its its2:Array Value} {n n2:Nat} {gg:Obj→List (Addr×Obj)} {Q:Value→Shared→Prop} (F:Fr h₀ L s.heap m) (N:News h₀ L s.heap news) (hb:(b,listOf its2 n2)∈news) (U:UpdF D (listOf its n) news gg) (hz:its.size+its2.size≤1000000)
  (h:∀ h' n',Fr h₀ L h' m→News h₀ L h' (gg (listOf (its++its2) n'))→Q .none { s with heap:=h' }):wpAny (model prog w) A (call (.builtin "list.extend") [.ref D,.ref b]) Q E s:=by
 (refine eq_23 (U.split) fun pre post zq1 hg a c=>?_;subst zq1)
 have z:=N (D,listOf its n) (List.mem_append.mpr (.inr (.head _)))
 have hd:¬(!its.isEmpty&&Builtin.List.listTooLong (its.size+its2.size))=true:=by
  have:Builtin.List.listTooLong (its.size+its2.size)=false:=by
   unfold Builtin.List.listTooLong
   rw [sizeLine_eq]
   k_extra "v26"
  rw [this,Bool.and_false];exact Bool.false_ne_true
 refine call_meets PySem.F.slot_list_extend ⟨_,z.1,rfl⟩ PySem.F.entry_list_extend (PySem.F.args_list_extend_2 _ _) (PySem.AutoSeq1.list_extend_list_list_0 D its n b its2 n2 hd (by rw [sizeLine_eq];keq_rows) (by rw [sizeLine_eq];keq_rows)) ⟨z.1,(N _ hb).1,?_⟩
 refine h _ (if (its++its2).size==its.size then n else n+1) (F.change (Heap.SameBut.update ..) z.2.1 z.2.2) ?_
 rw [hg]
 refine news_set N a c (Heap.SameBut.update ..) ?_
 exact PySem.IsL.update z.1 _
theorem eq_664 {value slice:PySem.Expr} {a b c:Value} {k:Nat} {u:Tok} {Q:Value→Shared→Prop} (F:Fr h₀ L s.heap m) (N:News h₀ L s.heap news) (hm:(D,listOf #[a,b,c] k)∈news)
  (h:∀ D' h',Fr h₀ L h' m→News h₀ L h' ((D',listOf #[a,b] 0)::news)→(∀ p∈news,p.1<D')→Q (.ref D') { s with heap:=h' })
  (hs:subscripted slice false (.ref D) (.ref s.heap.objs.size)=operate [.ref s.heap.objs.size,.ref D] (getItem (.ref D) (.ref s.heap.objs.size))) (ht:∀ r,letTemporaryGo value (.ref D) r=pure ()):
  wpAny (model prog w) A (subscriptTail value slice (.ref D) (.ref s.heap.objs.size)) Q E { s with heap:=s.heap.push { cls:=.type "slice",data:=.fields #[.none,.int 2 u,.none] } }:=
 kmk_slice_lit (zs:=[a,b]) F N ⟨_,(N _ hm).1,rfl,k,rfl⟩ IsPart.none (IsPart.int _ _) rfl h hs ht (by rw [sizeLine_eq];exact (by decide:3≤16777216))
theorem eq_322 {value slice:PySem.Expr} {l:List Nat} {t u:Tok} {Q:Value→Shared→Prop} (hl:l≠[]) (hz:l.length≤1000000) (ht:1≤s.toks) (hq:∀ t' tk,1≤tk→Q (.str (S [l.getLast?.getD 0]) t') { s with toks:=tk })
  (hs':subscripted slice false (.str (S l) t) (.int (-1) u)=operate [.str (S l) t,.int (-1) u] (getItem (.str (S l) t) (.int (-1) u)):=by with_unfolding_all rfl):wpAny (model prog w) A (subscriptTail value slice (.str (S l) t) (.int (-1) u)) Q E s:=by
 have hp:0<l.length:=List.length_pos_iff.mpr hl
 refine tail_any (typeIs_str _ _ _) slot_str_getitem.lookup (PyProof.Rows.getItem_str (c:=l.getLast?.getD 0) (by decide) ?_ (hq _ _ (by show @LE.le Nat _ 1 _;have:@LE.le Nat _ 1 s.toks:=ht;keq_rows))) hs'
 have hk:seqIndex? (-1) (S l).length=some (l.length-1):=by
  simp only [seqIndex?]
  have e1:(if (-1:Int)<0 then -1+((S l).length:Int) else -1)=((l.length-1:Nat):Int):=by rw [if_pos (by decide),eq_9];keq_rows
  rw [e1]
  exact if_pos (by rw [eq_9];simp only [Bool.and_eq_true,decide_eq_true_eq];keq_rows)
 rw [hk]
 show (S l).cps[l.length-1]?=_
 simp only [S,List.getElem?_toArray]
 rw [←List.getLast?_eq_getElem?]
 cases e:l.getLast? with
 |none=>rw [List.getLast?_eq_none_iff] at e;exact absurd e hl
 |some x=>rfl
end


end
section
theorem eq_1301:True:=by
 k_with "g21"=>have offG:True:=trivial
 k_with "g22"=>skip
 k_with "dl_mem"=>((fail_if_success (k_extra "g22";clear offG));first|(with_reducible first|(apply eq_228<;>assumption)|fail)|(apply eq_228<;>assumption)|fail)
 trivial
noncomputable abbrev Qg (its:Array Value) (n:Nat) (d:Addr):Obj:=⟨.ref 200,some d,.seq its n, #[]⟩
theorem Qg.inst {h₀ h:Heap} {L x d:Addr} {its:Array Value} {n:Nat} {news:List (Addr×Obj)} {od:Obj} (N:News h₀ L h news) (h1:(x,Qg its n d)∈news) (h2:(d,od)∈news):InstAt h x (Qg its n d) 200 (some od):=⟨(N _ h1).1,rfl,rfl,(N _ h2).1⟩
section
variable {prog:Program} {w:World} {A:Around} {E:Value→Shared→Prop} {s:Shared} {K:Frag} {x C L D:Addr} {ox:Obj} {od:Option Obj} {name:Str} {h₀:Heap} {m:Str→Option Value} {news news':List (Addr×Obj)} {its:Array Value} {n:Nat} {d:Addr}
theorem eq_406 {f:Value} {t:String} {pl:Sem Bool} {Q:Value×List Value→Shared→Prop} (X:K.In s.heap) (I:InstAt s.heap x ox C od) (hga:findIn K (.ref C) "__getattribute__"=some (some (.builtin "list.__getattribute__"))) (hk:findIn K (.ref C) "__getattr__"=some none)
  (hf:findIn K (.ref C) name=some (some f)) (ht:typeIn K f=some (.type t)) (hx:(Value.type t != .type "function"&&Value.type t != .type "method_descriptor"&&Value.type t != .type "wrapper_descriptor")=false) (hs:shadowIn od name=some false) (h:Q (f,[.ref x]) s):
  wpAny (model prog w) A (getMethod (.ref x) name pl) Q E s:=by
 have hcan:=PySem.canon_list_getattribute
 unfold getMethod specialOf
 refine wpAny_bind (wpAny_bind (I.type.here ((looks_findIn X hga).here ?_)))
 dsimp only
 rw [hcan,if_neg (by decide)]
 refine wpAny_bind (wpAny_bind (I.type.here ((looks_findIn X hk).here ?_)))
 refine wpAny_bind (wpAny_bind (I.type.here ((looks_findIn X hf).here (wpAny_bind ((looks_typeIn X ht).here ?_)))))
 rw [if_neg (by rw [hx];decide)]
 refine wpAny_bind (wpAny_loadPart I.at_ ?_)
 have hd:=I.dict
 cases e:ox.dict with
 |none=>exact wpAny_bind (wpAny_rule (wpAny_pure h))
 |some dx=>
  cases od with
  |none=>rw [e] at hd;exact hd.elim
  |some o=>
   rw [e] at hd
   (refine eq_4 (Option.map_eq_some_iff.mp hs) fun r a b=>?_)
   refine wpAny_bind (wpAny_bind (wpAny_loadPart hd ?_))
   rw [nsLook_of a]
   k_extra "vx"
   rw [b]
   exact wpAny_bind (wpAny_rule (wpAny_pure h))
theorem eq_1054 {expr:Bool} {v:Value} {Q:Value→Shared→Prop} (X:K.In s.heap) (I:InstAt s.heap x ox C od) (hga:findIn K (.ref C) "__getattribute__"=some (some (.builtin "list.__getattribute__"))) (hk:findIn K (.ref C) "__getattr__"=some none) (hm:mroIn K C (.type "list")=some true)
  (hf:findObj K C od name=some (.value v)) (hh:handedIn v=true) (h:Q v { s with toks:=s.toks+1 }):wpAny (model prog w) A (getAttr (.ref x) name expr) Q E s:=by
 obtain ⟨hh',g,dd,t,os⟩:=s
 have L0:=I.type (M:=model prog w)
 have L1:=looks_findIn (M:=model prog w) X hga
 have L2:=looks_findIn (M:=model prog w) X hk
 have L3:=looks_find (M:=model prog w) X I hf
 unfold getAttr getAttrBy
 k_extra "v19"
 show wpAny _ _ (getAttrByItsOwn (.ref x) (.str name t) (.ref C) (.builtin "list.__getattribute__") true expr) _ _ _
 k_extra "v17"
 refine wpAny_bind (L2.at ?_)
 rw [if_neg (by simp [onTheHeap])]
 k_extra "v1q"
 k_extra "v21"
 refine wpAny_mono (Q:=fun r s'=>r=v∧s'=⟨hh',g,dd,t+1,os⟩) (E:=fun _ _=>False) ?_ (fun r s' hr=>?_) fun _ _ z=>z.elim
 ·k_extra "v5"
  unfold Builtin.«object.__getattribute__»
  k_extra "v24"
  refine wpAny_bind (m:=Builtin.ObjectAttr.attrName _) (wpAny_pure ?_)
  refine wpAny_bind (L0.at (wpAny_bind (L3.at ?_)))
  exact wpAny_pure ⟨rfl,rfl⟩
 ·(refine eq_7 (hr) fun zq1 zq2=>?_;(try clear hr);subst zq1;subst zq2)
  show wpAny _ _ (handedOut r) _ _ _
  rw [handedOut_of hh]
  exact wpAny_pure h
theorem eq_68 {id nm:String} {B:Builtin} {rest:List Value} {Q:Value→Shared→Prop} (X:K.In s.heap) (hx:s.heap.get? x=some ox) (hc:ox.cls= .ref 200) (hm:mroIn K 200 (.type "list")=some true)
  (hsp:splitId id=some ("list",nm)) (hk:builtinKind id=some .method∨builtinKind id=some .slot) (plain:plainId id=true) (entry:entryFor table id=some B) (args:argsOk id ⟨.ref x::rest,[]⟩)
  (h:wpAny (model prog w) A.in1 (B ⟨.ref x::rest,[]⟩) (fun fin s'=>∃ v,fin= .done (.ret v)∧Q v s') E s):wpAny (model prog w) A (call (.builtin id) (.ref x::rest)) Q E s:=by
 have T:∀ M,Looks M s.heap (typeOf (.ref x)) (.ref 200):=fun M=>hc▸(Looks.ld hx).andThen .now
 have h':=wpAny_mono h (Q':=fun fin s'=>match fin with|.done (.ret v)=>Q v s'|_=>False) (E':=E) (fun fin s' h'=>by (refine eq_4 (h') fun v zq3 hv=>?_;(try clear h');subst zq3);exact hv) fun _ _ z=>z
 refine wpAny_call (codeAny_call_builtin plain entry ?_)
 rcases hk with hk|hk
 ·exact kfo_check hk hsp ((T _).andThen (looks_mroIn X hm)) args (wpAny_mono h (fun fin s' h'=>by (refine eq_4 (h') fun v zq4 hv=>?_;(try clear h');subst zq4);exact hv) fun _ _ z=>z)
 ·exact check_slot hk hsp ((T _).andThen (looks_mroIn X hm)) args (wpAny_mono h (fun fin s' h'=>by (refine eq_4 (h') fun v zq5 hv=>?_;(try clear h');subst zq5);exact hv) fun _ _ z=>z)
theorem eq_512 {v:Value} {Q:Value→Shared→Prop} (F:Fr h₀ L s.heap m) (X:K.In h₀) (hm:mroIn K 200 (.type "list")=some true) (N:News h₀ L s.heap news) (U:Upd D (Qg its n d) (Qg (its.push v) (n+1) d) news news') (hz:its.size≤sizeLine)
  (h:∀ h',Fr h₀ L h' m→News h₀ L h' news'→Q .none { s with heap:=h' }):wpAny (model prog w) A (call (.builtin "list.append") [.ref D,v]) Q E s:=by
 (refine eq_23 (U.split) fun pre post zq6 zq7 a b=>?_;subst zq6;subst zq7)
 have z:=N (D,Qg its n d) (List.mem_append.mpr (.inr (.head _)))
 refine eq_68 (X.keeps F.keep) z.1 rfl hm (nm:="append") (by decide +kernel) (.inl (by decide +kernel)) (by decide +kernel) PySem.entry_list_append (args_list_append _ _) ?_
 show wpAny _ _ (updateSeq D (·.push v) >>= fun _=>ret .none) _ _ s
 refine wpAny_bind (wpAny_updateSeq (hz:=hz) z.1 rfl (wpAny_pure ⟨.none,rfl,h _ (F.change (Heap.SameBut.update ..) z.2.1 z.2.2) (news_set N a b (Heap.SameBut.update ..) ?_)⟩))
 k_extra "v25"
 simp [Obj.mapSeq]
end
theorem eq_1341:True:=by
 k_with "g23"=>skip
 k_with "k_inst"=>((fail_if_success (k_extra "g23";clear offG));refine' Qg.inst (by k_asm) (by first|k_mem|fail) (by first|k_mem|fail))
 k_with "g24"=>skip
 k_with "getMethod ref"=>((fail_if_success (k_extra "g24";clear offG));k_here;k_dflt (refine' eq_406 (by k_in) (by first|k_inst|fail) (by k_is) (by k_is) (by k_is) (by k_is) (by decide) (by exact rfl) ?_))
 k_with "g25"=>skip
 k_with "getAttr ref"=>((fail_if_success (k_extra "g25";clear offG));k_here;k_dflt (refine' eq_1054 (by k_in) (by first|k_inst|fail) (by k_is) (by k_is) (by k_is) (by first|(refine' findObj_own (attr:=none) (by k_is) (by k_is) (by k_is) (by exact rfl))|fail) (by exact rfl) ?_))
 k_with "g26"=>skip
 k_with "call builtin:list.append"=>((fail_if_success (k_extra "g26";clear offG));k_here;k_dflt (refine' eq_512 (by k_asm) (by k_asm) (by k_is) (by k_asm) (by first|k_upd|fail) (by first|(rw [sizeLine_eq];keq_rows)|fail) ?_);intro h9ω F9ω N9ω;(try dsimp only at N9ω))
 trivial
noncomputable abbrev Q1d (w:World) (u t:Tok) (c:Nat):Obj:=dictOf [⟨PyData.keyHash w.params (Str.ofString "_initial_size"),.str (Str.ofString "_initial_size") u,.int 0 t⟩] c
theorem eq_1335:True:=by
 k_with "g13"=>skip
 k_with "g14"=>skip
 trivial
noncomputable abbrev Qh (x y:Value):Obj:={ cls:=.type "tuple",data:=.seq #[x,y] }
theorem eq_28 {w:World} {h₀ h:Heap} {L AA DD:Addr} {its:Array Value} {n c:Nat} {u t0:Tok} {news:List (Addr×Obj)} (N:News h₀ L h news) (h1:(AA,Qg its n DD)∈news) (h2:(DD,Q1d w u t0 c)∈news):@Ne Nat AA DD:=fun e=>by
 have a:=(N _ h1).1
 have b:=(N _ h2).1
 dsimp only at a b
 rw [show AA=DD from e,b] at a
 cases a
set_option maxHeartbeats 400000
theorem eq_1024 (w:World) (AA DD:Addr) (its:Array Value) (n:Nat) (u t0:Tok) (c:Nat) (tA tB:Str) (tx ty:Tok) (hz:its.size≤20000):Ct w 1 144 [.ref AA,.str tA tx,.str tB ty] [(AA,Qg its n DD),(DD,Q1d w u t0 c)] (fun v own=>v= .none∧∃ p,own=[(p,Qh (.str tA tx) (.str tB ty)),(AA,Qg (its.push (.ref p)) (n+1) DD),(DD,Q1d w u t0 c)]):=by
 k_extra "w0"
 k_extra "vm"
 have hAD:=eq_28 N1 (.head _) (.tail _ (.head _))
 k_steps
 k_extra "v8"


end
section
theorem eq_1283:True:=by
 k_with "g13"=>have offG:True:=trivial
 k_with "g14"=>have offG:True:=trivial
 k_with "g22"=>have offG:True:=trivial
 k_with "g23"=>have offG:True:=trivial
 k_with "g24"=>have offG:True:=trivial
 k_with "g25"=>have offG:True:=trivial
 k_with "g26"=>have offG:True:=trivial
 k_with "g27"=>skip
 k_with "dl_mem"=>((fail_if_success (k_extra "g27";clear offG));first|(with_reducible first|apply eq_765|fail)|fail)
 trivial
theorem eq_105:Slot "wrapper_descriptor" "__get__" "wrapper_descriptor.__get__":=.of (owner:="wrapper_descriptor") (n:="__get__") (by rw [typeLookup_type,builtinLookup_eq_fast];kernel_rfl) (by decide +kernel) (by decide +kernel) (by decide +kernel)
 (by first|exact .inl (by decide +kernel)|exact .inr (by decide +kernel)) (by rw [isSubtype_type];kernel_rfl)
theorem eq_373:Slot "method_descriptor" "__get__" "method_descriptor.__get__":=.of (owner:="method_descriptor") (n:="__get__") (by rw [typeLookup_type,builtinLookup_eq_fast];kernel_rfl) (by decide +kernel) (by decide +kernel) (by decide +kernel)
 (by first|exact .inl (by decide +kernel)|exact .inr (by decide +kernel)) (by rw [isSubtype_type];kernel_rfl)
theorem eq_269:entryFor table "wrapper_descriptor.__get__"=some Builtin.«wrapper_descriptor.__get__» :=entryFor_of_tree (by kernel_rfl)
theorem eq_1131:entryFor table "method_descriptor.__get__"=some Builtin.«method_descriptor.__get__» :=entryFor_of_tree (by kernel_rfl)
theorem eq_253 (a b c:Value):argsOk "wrapper_descriptor.__get__" ⟨[a,b,c],[]⟩:=by unfold argsOk;kernel_rfl
theorem eq_604 (a b c:Value):argsOk "method_descriptor.__get__" ⟨[a,b,c],[]⟩:=by unfold argsOk;kernel_rfl
theorem eq_243:typeOf (.builtin "list.__init__")=pure (.type "wrapper_descriptor"):=by show builtinType _=_;rw [builtinType_eq_fast];kernel_rfl
theorem eq_338:typeOf (.builtin "list.__len__")=pure (.type "wrapper_descriptor"):=by show builtinType _=_;rw [builtinType_eq_fast];kernel_rfl
theorem eq_315:typeOf (.builtin "list.pop")=pure (.type "method_descriptor"):=by show builtinType _=_;rw [builtinType_eq_fast];kernel_rfl
theorem eq_560:(kfb_private% "ownerAndName") "list.__init__"=("list","__init__"):=by first|decide +kernel|kernel_rfl
theorem eq_870:(kfb_private% "ownerAndName") "list.__len__"=("list","__len__"):=by first|decide +kernel|kernel_rfl
theorem eq_920:(kfb_private% "ownerAndName") "list.pop"=("list","pop"):=by first|decide +kernel|kernel_rfl
noncomputable abbrev Q1g (bt id:String) (x:Addr):Obj:={ cls:=.type bt,dict:=none,data:=.fields #[.builtin id,.ref x],slots:= #[] }
section
variable {M:Model} {A:Around} {E:Value→Shared→Prop} {s:Shared} {x C:Addr} {P:Fin→Shared→Prop} {id nm:String}
theorem eq_397 (ho:(kfb_private% "ownerAndName") id=("list",nm)) (hi:Looks M s.heap (isInstance (.ref x) (.type "list")) true) (h:P (.done (.ret (.ref s.heap.objs.size))) { s with heap:=s.heap.push (Q1g "method-wrapper" id x) }):
  wpAny M A (Builtin.«wrapper_descriptor.__get__» ⟨[.builtin id,.ref x,.ref C],[]⟩) P E s:=by
 unfold Builtin.«wrapper_descriptor.__get__»
 k_extra "vz"
 show wpAny _ _ (_ >>= fun _=>_) _ _ _
 k_extra "vw"
 show wpAny _ _ (_ >>= fun _=>_) _ _ _
 k_extra "v1k"
 ·show pure (Str.ofString ((kfb_private% "ownerAndName") id).2,Value.type ((kfb_private% "ownerAndName") id).1)=_
  rw [ho]
 refine wpAny_bind (hi.here ?_)
 k_extra "vx"
 exact wpAny_bind (wpAny_newObj_type (wpAny_pure h))
theorem eq_964 (ho:(kfb_private% "ownerAndName") id=("list",nm)) (ht:Manifest.toldItsClass.contains id=false) (hi:Looks M s.heap (isInstance (.ref x) (.type "list")) true) (h:P (.done (.ret (.ref s.heap.objs.size))) { s with heap:=s.heap.push (Q1g "builtin_function_or_method" id x) }):
  wpAny M A (Builtin.«method_descriptor.__get__» ⟨[.builtin id,.ref x,.ref C],[]⟩) P E s:=by
 unfold Builtin.«method_descriptor.__get__»
 k_extra "vz"
 dsimp only
 rw [ht,if_neg (by decide)]
 show wpAny _ _ (_ >>= fun _=>_) _ _ _
 k_extra "vw"
 show wpAny _ _ (_ >>= fun _=>_) _ _ _
 k_extra "v1k"
 ·show pure (Str.ofString ((kfb_private% "ownerAndName") id).2,Value.type ((kfb_private% "ownerAndName") id).1)=_
  rw [ho]
 refine wpAny_bind (hi.here ?_)
 k_extra "vx"
 exact wpAny_bind (wpAny_newObj_type (wpAny_pure h))
end
section
variable {prog:Program} {w:World} {A:Around} {E:Value→Shared→Prop} {s:Shared} {h:Heap} {gg:Array GenState} {dr:Drawn} {tt:Nat} {os:OsState} {K:Frag} {so D x C:Addr} {name:Str} {id bt T gid:String} {tk:Tok}
structure Q3l (T gid bt id:String):Prop where
 slot:Slot T "__get__" gid
 type:typeOf (.builtin id)=pure (.type T)
 run:∀ (prog:Program) (w:World) (A:Around) (E:Value→Shared→Prop) (s:Shared) (x C:Addr) (Q:Value→Shared→Prop),Looks (model prog w) s.heap (isInstance (.ref x) (.type "list")) true→Q (.ref s.heap.objs.size) { s with heap:=s.heap.push (Q1g bt id x) }→
  wpAny (model prog w) A (call (.builtin gid) [.builtin id,.ref x,.ref C]) Q E s
theorem eq_142 (s:Shared) {id T:String} (h:typeOf (.builtin id)=pure (.type T)):s.TypeIs (.builtin id) T:=h
theorem eq_242:Q3l "wrapper_descriptor" "wrapper_descriptor.__get__" "method-wrapper" "list.__init__":=⟨eq_105,eq_243,fun _ _ _ _ _ _ _ _ hi q=>wpAny_call_entry eq_105 (eq_142 _ eq_243) eq_269 (eq_397 eq_560 hi ⟨_,rfl,q⟩) (eq_253 _ _ _)⟩
theorem eq_1206:Q3l "wrapper_descriptor" "wrapper_descriptor.__get__" "method-wrapper" "list.__len__":=⟨eq_105,eq_338,fun _ _ _ _ _ _ _ _ hi q=>wpAny_call_entry eq_105 (eq_142 _ eq_338) eq_269 (eq_397 eq_870 hi ⟨_,rfl,q⟩) (eq_253 _ _ _)⟩
theorem eq_244:Q3l "method_descriptor" "method_descriptor.__get__" "builtin_function_or_method" "list.pop":=⟨eq_373,eq_315,fun _ _ _ _ _ _ _ _ hi q=>wpAny_call_entry eq_373 (eq_142 _ eq_315) eq_1131 (eq_964 eq_920 (by decide +kernel) hi ⟨_,rfl,q⟩) (eq_604 _ _ _)⟩
theorem eq_548 (G:Q3l T gid bt id) {l₀ l:List Value} {Q:Fin→Shared→Prop} (hso:h.get? so=some (ks_superObj D x C)) (hno:Looks (model prog w) h (opaqueClassAbove (.ref C)) none)
  (hC:Looks (model prog w) h (mroOf (.ref C)) l₀) (hl:(l₀.dropWhile (· != .ref D)).drop 1=l) (X:K.In h) (hf:alongIn K name l=some (some (.builtin id))) (hi:Looks (model prog w) h (isInstance (.ref x) (.type "list")) true) (hxC:x≠C) (hn:(name==("__class__":Str))=false)
  (hq:Q (.done (.ret (.ref h.objs.size))) ⟨h.push (Q1g bt id x),gg,dr,tt,os⟩):
  wpAny (model prog w) A (Builtin.«super.__getattribute__» ⟨[.ref so,.str name tk],[]⟩) Q E ⟨h,gg,dr,tt,os⟩:=by
 have hlk:=G.slot.lookup
 have hty:=G.type
 have hne:(Value.ref x==Value.ref C)=false:=by simp [hxC]
 have hdt:(ks_superObj D x C).data= .fields #[.ref D,.ref x,.ref C]:=rfl
 have f0:(#[.ref D,.ref x,.ref C]:Array Value)[0]?=some (.ref D):=rfl
 have f1:(#[.ref D,.ref x,.ref C]:Array Value)[1]?=some (.ref x):=rfl
 have f2:(#[.ref D,.ref x,.ref C]:Array Value)[2]?=some (.ref C):=rfl
 unfold Builtin.«super.__getattribute__»
 repeat (first
  |(with_reducible refine wpAny_field hso hdt f0 ?_)|(with_reducible refine wpAny_field hso hdt f1 ?_)|(with_reducible refine wpAny_field hso hdt f2 ?_)
  |(with_reducible refine ks_wpAny_notOpaque hno ?_)
  |(with_reducible refine Looks.at hC ?_;rw [hl])
  |(refine ks_forIn_along X (fun _ _=>rfl) rfl ?_ hf)
  |(with_reducible refine wpAny_of_eq hty ?_)
  |(with_reducible refine wpAny_of_eq hlk ?_)
  |(with_reducible refine G.run _ _ _ _ _ _ _ _ hi ?_)
  |(simp only [hn,hne,Bool.or_false,Bool.false_eq_true,if_false])
  |wp_step
  |dsimp only)
 all_goals exact hq
end


end
section
section
variable {prog:Program} {w:World} {A:Around} {E:Value→Shared→Prop} {s:Shared} {K:Frag} {so D x C L:Addr} {name:Str} {id bt T gid:String} {h₀:Heap} {m:Str→Option Value} {news:List (Addr×Obj)} {ox:Obj} {odx:Option Obj}
theorem eq_1343:True:=by
 k_with "g27"=>have offG:True:=trivial
 trivial
theorem eq_66 (G:Q3l T gid bt id) {pl:Sem Bool} {Q:Value×List Value→Shared→Prop} (F:Fr h₀ L s.heap m) (X₀:K.In h₀) (N:News h₀ L s.heap news) (hso:(so,ks_superObj D x C)∈news) (I:InstAt s.heap x ox C odx) (ho:nsIn K cStatics "thirdparty.any"=some none)
  (hm:ks_superIn K C D name=some (some (.builtin id))) (hl:mroIn K C (.type "list")=some true) (hn:(name==("__class__":Str))=false)
  (h:∀ q h',Fr h₀ L h' m→News h₀ L h' ((q,Q1g bt id x)::news)→(∀ p∈news,p.1<q)→Q (.ref q,[]) { s with heap:=h',toks:=s.toks+1 }):wpAny (model prog w) A (getMethod (.ref so) name pl) Q E s:=by
 have X:K.In s.heap:=X₀.keeps F.keep
 obtain ⟨hh,g,d,t,os⟩:=s
 cases hc:clsIn K C with
 |none=>unfold ks_superIn at hm;rw [hc] at hm;cases hm
 |some cd=>
  unfold ks_superIn at hm
  rw [hc] at hm
  have hC:Looks (model prog w) hh (mroOf (.ref C)) cd.mro:=fun A Q E s k q=>wpAny_bind ((looks_clsIn X hc) A _ E s k (wpAny_pure q))
  have hi:Looks (model prog w) hh (isInstance (.ref x) (.type "list")) true:=I.type.andThen (looks_mroIn X hl)
  have hcan:=PySem.F.ks_canon_super_ga
  have hlk:=PySem.F.ks_slot_super_ga.lookup
  have hT:∀ t',(⟨hh,g,d,t',os⟩:Shared).TypeIs (.ref so) "super":=fun _=>⟨_,(N _ hso).1,rfl⟩
  (refine eq_27 (ks_newsPush (s:=⟨hh,g,d,t,os⟩) (o:=Q1g bt id x) F N rfl (Heap.get?_push_at rfl rfl) (fun b o e=>Heap.get?_push_of_some _ e)) fun F' N' l'=>?_)
  unfold getMethod
  refine wpAny_bind (wpAny_specialOf (hT _) hlk ?_)
  show wpAny _ _ (if (Manifest.canonical "super.__getattribute__" != "object.__getattribute__")=true then _ else _) _ _ _
  rw [if_pos hcan]
  unfold getAttr getAttrBy
  refine wpAny_bind (wpAny_bind (wpAny_mkText (wpAny_holding (wpAny_bind (wpAny_typeOf (hT _) (wpAny_bind (wpAny_of_eq hlk ?_)))))))
  show wpAny _ _ (getAttrByItsOwn (.ref so) (.str name t) (.type "super") (.builtin "super.__getattribute__") true false) _ _ _
  k_extra "v17"
  refine wpAny_bind (wpAny_of_eq (show (if onTheHeap (.type "super") then typeLookup (.type "super") "__getattr__" else pure none)=pure none from rfl) ?_)
  k_extra "v1q"
  show wpAny _ _ (bindSpecial (.builtin "super.__getattribute__") (.ref so) >>= _) _ _ _
  refine wpAny_bind (wpAny_of_eq (PySem.F.ks_slot_super_ga.bind _) ?_)
  refine wpAny_mono (Q:=fun v s'=>v= .ref hh.objs.size∧s'=⟨hh.push (Q1g bt id x),g,d,t+1,os⟩) (E:=fun _ _=>False)
   (wpAny_call_entry PySem.F.ks_slot_super_ga (hT _) PySem.F.ks_entry_super_ga (eq_548 G (N _ hso).1 (looks_opaque X ho) hC rfl X hm hi (ks_ne X I hc) hn ⟨_,rfl,rfl,rfl⟩) (PySem.F.ks_gaArgs_super _ _)) (fun v s' hv=>?_) fun _ _ z=>z.elim
  (refine eq_7 (hv) fun zq1 zq2=>?_;(try clear hv);subst zq1;subst zq2)
  exact wpAny_pure (wpAny_pure (h _ _ F' N' l'))
theorem eq_173 {q:Addr} {B:Builtin} {rest:List Value} {Q:Value→Shared→Prop} (hq:s.heap.get? q=some (Q1g bt id x)) (hbt:bt="method-wrapper"∨bt="builtin_function_or_method") (hchk:Looks (model prog w) s.heap (checkBoundCall id ⟨.ref x::rest,[]⟩) ()) (hqu:id.startsWith "lifetime."=false) (entry:entryFor table id=some B)
  (h:∀ A':Around,wpAny (model prog w) A' (B ⟨.ref x::rest,[]⟩) (fun fin s'=>∃ v,fin= .done (.ret v)∧Q v s') E s):wpAny (model prog w) A (call (.ref q) rest) Q E s:=by
 have e:(Value.type bt==Value.type "method"||Value.type bt==Value.type "builtin_function_or_method"||Value.type bt==Value.type "method-wrapper")=true:=by
  rcases hbt with rfl|rfl<;>decide
 have e2:(Value.type bt != Value.type "method")=true:=by
  rcases hbt with rfl|rfl<;>decide
 refine wpAny_call (codeAny_of_tree ?_)
 show wpAny _ A.in1 (callAny (.ref q) ⟨rest,[]⟩) _ _ s
 simp only [callAny]
 refine wpAny_bind (wpAny_load hq ?_)
 simp only [e,e2,if_true]
 refine wpAny_bind (hchk.here ?_)
 refine wpAny_bind (wpAny_pure (wpAny_pure ?_))
 exact ⟨Code.quiet_builtin _ hqu,codeAny_builtin entry (wpAny_mono (h _) (fun fin s' h'=>by (refine eq_4 (h') fun v zq3 hv=>?_;(try clear h');subst zq3);exact hv) fun _ _ z=>z)⟩
end


end
section
section
variable {prog:Program} {w:World} {M:Model} {A:Around} {E:Value→Shared→Prop} {s:Shared} {K:Frag} {x d D L:Addr} {h₀:Heap} {m:Str→Option Value} {news news':List (Addr×Obj)} {its:Array Value} {n:Nat} {od:Obj}
theorem eq_1287:True:=by
 k_with "g28"=>skip
 k_with "dl_mem"=>((fail_if_success (k_extra "g28";clear offG));first|(with_reducible first|(apply eq_367<;>assumption)|(apply eq_1105<;>assumption)|(apply eq_177<;>assumption)|(apply eq_189<;>assumption)|apply eq_37|apply eq_376|(apply eq_245<;>assumption)|(apply eq_390<;>assumption)|fail)|fail)
 trivial
theorem eq_1021 {y:Value} {P:Fin→Shared→Prop} (hl:s.heap.get? x=some (Qg its n d)) (hy:its[its.size-1]?=some y) (hs1:its.size≤sizeLine) (h:P (.done (.ret y)) { s with heap:=s.heap.update x (Obj.mapSeq fun xs=>xs.eraseIdxIfInBounds (its.size-1)) }):
  wpAny (model prog w) A (Builtin.«list.pop» ⟨[.ref x],[]⟩) P E s:=by
 obtain ⟨hp,g,dr,tk,os⟩:=s
 have hpos:0<its.size:=by
  rcases Nat.eq_zero_or_pos its.size with h0|h0
  ·simp [h0] at hy
  ·exact h0
 have hne:¬ its.isEmpty=true:=by
  intro he;have:its.size=0:=by simpa using he
  keq_rows
 have hk:seqIndex? (-1) its.size=some (its.size-1):=by
  simp only [seqIndex?]
  have e1:(if (-1:Int)<0 then -1+(its.size:Int) else -1)=((its.size-1:Nat):Int):=by rw [if_pos (by decide)];keq_rows
  rw [e1]
  exact if_pos (by simp only [Bool.and_eq_true,decide_eq_true_eq];keq_rows)
 wp_walk using wpAny_loadPart' hl
 simp only [hk,hy,Option.bind_some,Option.map_some]
 have hz':(its.eraseIdxIfInBounds (its.size-1)).size≤sizeLine+1:=Nat.le_trans (PySem.MeetsSeq.size_erased its _) (Nat.le_succ_of_le hs1)
 wp_walk using (wpAny_updateSeq hl rfl (hz:=hs1) (_hz':=hz')),wpAny_loadPart' hl
 exact h
theorem eq_1138 {P:Fin→Shared→Prop} (hl:s.heap.get? x=some (Qg its n d)) (h:P (.done (.ret (.int (its.size:Nat) s.toks))) { s with toks:=s.toks+1 }):wpAny (model prog w) A (Builtin.«list.__len__» ⟨[.ref x],[]⟩) P E s:=by
 obtain ⟨hp,g,dr,tk,os⟩:=s
 wp_walk using wpAny_loadPart' hl
 all_goals exact h
theorem eq_1093 {P:Fin→Shared→Prop} (hl:s.heap.get? x=some (Qg #[] 0 d)) (h:P (.done (.ret .none)) { s with heap:=s.heap.update x (Obj.mapSeq fun _=> #[]) }):wpAny (model prog w) A (Builtin.«list.__init__» ⟨[.ref x],[]⟩) P E s:=by
 unfold Builtin.«list.__init__»
 refine wpAny_bind (m:=Builtin.List.listItems (.ref x)) ?_
 unfold Builtin.List.listItems
 refine wpAny_bind (wpAny_seqItems hl rfl (wpAny_pure ?_))
 refine wpAny_bind (m:=Builtin.List.listUpdate (.ref x) _) (wpAny_updateSeq hl rfl ?_)
 k_extra "v27"
theorem eq_749 {k:Int} {u:Tok} {y:Value} {P:Fin→Shared→Prop} (hl:s.heap.get? x=some (Qg its n d)) (h0:0≤k) (hfit:k<2 ^ 63) (hy:its[k.toNat]?=some y) (h:P (.done (.ret y)) s):wpAny (model prog w) A (Builtin.«list.__getitem__» ⟨[.ref x,.int k u],[]⟩) P E s:=by
 show wpAny _ _ (Builtin.List.listSubscript? (.int k u) >>= _) _ _ s
 refine wpAny_bind (wpAny_listSubscript_int (fitsIndex_of h0 hfit) ?_)
 clear hfit
 (refine eq_5 (Int.eq_ofNat_of_zero_le h0) fun j zq1=>?_;subst zq1)
 have hy':its[j]?=some y:=hy
 show wpAny _ _ ((seqItemAt x j >>= fun r=>pure (r.map (j,·))) >>= _) _ _ s
 refine wpAny_bind (wpAny_bind (wpAny_seqItemAt hl rfl (wpAny_pure ?_)))
 rw [hy']
 first
  |exact wpAny_bind (wpAny_pure (wpAny_pure h))
  |exact wpAny_pure h
theorem eq_494 {sl:Addr} {vl vu vs:Value} {lo hi st:Option Int} {P:Fin→Shared→Prop} (hl:s.heap.get? x=some (Qg its n d)) (hs:s.heap.IsSliceOf sl vl vu vs) (pl:IsPart vl lo) (pu:IsPart vu hi) (ps:IsPart vs st) (h0:st≠some 0) (hsz:its.size≤sizeLine)
  (h:P (.done (.ret (.ref s.heap.objs.size))) { s with heap:=s.heap.push { cls:=.type "list",data:=.seq (slicePick its lo hi st) } }):wpAny (model prog w) A (Builtin.«list.__getitem__» ⟨[.ref x,.ref sl],[]⟩) P E s:=by
 (refine eq_18 (id hs) fun os hos hcs hds=>?_)
 have hTs:s.TypeIs (.ref sl) "slice":=⟨os,hos,hcs⟩
 show wpAny _ _ (Builtin.List.listSubscript? (.ref sl) >>= _) _ _ s
 k_extra "vw"
 unfold Builtin.List.listSubscript?
 k_extra "v1e"
 simp only [Option.isNone_none,if_true]
 k_extra "vx"
 show wpAny _ _ (typeOf (.ref sl) >>= _) _ _ s
 refine wpAny_bind (wpAny_typeOf hTs ?_)
 k_extra "v14"
 rw [listSliceParts_eq]
 have hstep:¬ ((rawPart st==rawInt 0)=true):=by
  cases st with
  |none=>exact Bool.false_ne_true
  |some c=>
   intro hh
   have:c=0:=by simpa [rawPart,rawInt] using hh
   exact h0 (by rw [this])
 refine wpAny_bind (wpAny_bind (wpAny_field hos hds (x:=vs) rfl (wpAny_bind (wpAny_listPart ps ?_))))
 rw [if_neg hstep]
 k_extra "vt"
 k_extra "vp"
 refine wpAny_bind (m:=Builtin.List.listItems (.ref x)) ?_
 unfold Builtin.List.listItems
 refine wpAny_bind (wpAny_seqItems hl rfl (wpAny_pure ?_))
 refine wpAny_bind (wpAny_of_eq (sliceIndices_raw lo hi st its.size h0) ?_)
 exact wpAny_bind (wpAny_newObj_type (wpAny_pure h) (Nat.le_trans (slicePick_size_le its lo hi st) hsz))
theorem eq_1200 {P:Fin→Shared→Prop} (h:P (.done (.ret (.ref s.heap.objs.size))) { s with heap:=s.heap.push { cls:=.type "list_iterator",data:=.fields #[.ref x,.int 0 0] } }):wpAny (model prog w) A (Builtin.«list.__iter__» ⟨[.ref x],[]⟩) P E s:=by
 obtain ⟨hp,g,dr,tk,os⟩:=s
 wp_walk
 all_goals exact h
theorem eq_991 {sl v:Addr} {vl vu:Value} {lo hi:Option Int} {its2:Array Value} {n2:Nat} {P:Fin→Shared→Prop} (hl:s.heap.get? x=some (Qg its n d)) (hv:s.heap.get? v=some (listOf its2 n2)) (hne:x≠v) (hs:s.heap.IsSliceOf sl vl vu .none) (pl:IsPart vl lo) (pu:IsPart vu hi)
  (hst:(sliceBounds lo hi none its.size).2.2=1) (hsz:its.size+its2.size≤1000000)
  (h:P (.done (.ret .none)) { s with heap:=s.heap.update x (Obj.mapSeq fun xs=>xs.extract 0 (sliceBounds lo hi none its.size).1.toNat++its2++xs.extract (max (sliceBounds lo hi none its.size).1 (sliceBounds lo hi none its.size).2.1).toNat xs.size) }):wpAny (model prog w) A (Builtin.«list.__setitem__» ⟨[.ref x,.ref sl,.ref v],[]⟩) P E s:=by
 (refine eq_18 (id hs) fun os hos hcs hds=>?_)
 have hTs:s.TypeIs (.ref sl) "slice":=⟨os,hos,hcs⟩
 show wpAny _ _ (Builtin.List.listSubscript? (.ref sl) >>= _) _ _ s
 k_extra "vw"
 unfold Builtin.List.listSubscript?
 k_extra "v1e"
 simp only [Option.isNone_none,if_true]
 k_extra "vx"
 show wpAny _ _ (typeOf (.ref sl) >>= _) _ _ s
 refine wpAny_bind (wpAny_typeOf hTs ?_)
 k_extra "v14"
 rw [listSliceParts_eq]
 k_extra "v12"
 k_extra "v1l"
 k_extra "vt"
 k_extra "vp"
 have hsame:Builtin.List.listSameRef (.ref x) (.ref v)=false:=by simp [Builtin.List.listSameRef,hne]
 dsimp only
 rw [hsame,if_neg (by decide)]
 refine wpAny_bind (m:=Builtin.List.listAllItems (.ref v) _) ?_
 unfold Builtin.List.listAllItems
 k_extra "v1z"
 rw [if_pos (by decide)]
 unfold Builtin.List.listItems
 refine wpAny_bind (wpAny_seqItems hv rfl (wpAny_pure ?_))
 refine wpAny_bind (wpAny_bind (wpAny_seqItems hl rfl (wpAny_pure ?_)))
 k_extra "v1i"
 rw [hst,if_pos (by decide)]
 refine wpAny_bind (wpAny_rule ?_)
 have ht:Builtin.List.listTooLong (its.size+its2.size)=false:=by
  unfold Builtin.List.listTooLong
  rw [sizeLine_eq]
  k_extra "v26"
 rw [ht,if_neg (by decide)]
 refine wpAny_bind (m:=Builtin.List.listUpdate (.ref x) _) (wpAny_updateSeq (hz:=by rw [sizeLine_eq];keq_rows) (_hz':=?_) hl rfl ?_)
 ·k_extra "v27"
 ·simp only [Array.size_append,Array.size_extract]
  rw [sizeLine_eq];keq_rows
end


end
section
section
variable {prog:Program} {w:World} {A₀ A:Around} {s:Shared} {base h₀:Heap} {outer:List Env} {L:Addr} {m:Str→Option Value} {env:Env} {news:List (Addr×Obj)} {K:Frag} {p:Program} {loose:List Str} {mean:ExcName→Option Value} {mg mb:Str→Option Value}
 {R:Result→Shared→Prop} {name qual:Str} {params:Arguments} {body:List Stmt} {scope:Scope} {dV kV doc pm cdv ct oc:Value} {an od:Option Addr} {osl:Array (Option Value)} {f cc:Addr} {args:Args} {binds:List (Str×Value)}
theorem eq_1323:True:=by
 k_with "g28"=>have offG:True:=trivial
 k_with "g6"=>skip
 trivial
theorem eq_267 (B:Below A₀ base outer h₀) (F:Fr h₀ L s.heap m) (X₀:K.In h₀) (N:News h₀ L s.heap news) (T:Top p loose mean mg mb h₀) (hA:A.frames=some (env::outer)) (hf:env.frame=some L) (hke:env.scope.kind= .function)
  (ho:K.lookup f=some ⟨oc,od,.func (ksFn name qual params body scope dV kV doc pm an cdv ct cc),osl⟩) (hcd:codeIn K cdv qual=true) (hroom:A.depth<recursionLimit)
  (hbind:BindsTo s (ksFn name qual params body scope dV kV doc pm an cdv ct cc) args binds) (hloc:∀ y∈binds,scope.names.lookup y.1=some .local) (ht:1≤s.toks)
  (h:∀ g L' h₁ tk,Fr h₀ L g m→Fr g L' h₁ (fun y=>binds.reverse.lookup y)→News g L' h₁ news→Below A base (env::outer) g→K.In g→Top p loose mean mg mb g→(∀ p∈news,p.1<L')→(∀ b o,s.heap.get? b=some o→b∉news.map (·.1)→g.get? b=some o)→1≤tk→
   _root_.PySem.wpAt (model prog w) (A.deeper (ksEnv qual scope L' f cdv cc)) (.func body (ksEnv qual scope L' f cdv cc)) (execs body (ksEnv qual scope L' f cdv cc))
    (fun fl s'=>LeaveK h₀ L m g (fun r s''=>(g.StaysIn s''.heap)→1≤s''.toks→R r s'') (match fl with|.ret v=>v|_=>.none) s')
    (fun e s'=>wpAny (model prog w) (A.deeper (ksEnv qual scope L' f cdv cc)) («leaving» (ksEnv qual scope L' f cdv cc) e) (fun _ s''=>R (.error e) s'') (fun e' s''=>R (.error e') s'') s')
    { s with heap:=h₁,toks:=tk })
  (hcell:∀ x∈scope.names,x.2≠ .cell:=by decide) (hco:scope.isCoroutine=false:=by rfl) (hgen:scope.isGenerator=false:=by rfl) (hk:scope.kind= .function:=by rfl):codeAny (model prog w) A (.call (.ref f) args) R s:=by
 (refine eq_100 (groundX (R:=fun r s''=>1≤s''.toks→R r s'') B F N hA hf hke) fun FG BG st lv=>?_)
 refine codeAny_with_toks ht ?_
 refine ks_codeAny_call_defAt (fd:=ksFn name qual params body scope dV kV doc pm an cdv ct cc) (body:=body) (binds:=binds) hroom ((X₀.keeps F.keep) _ _ ho) rfl (T.nolimit.keeps F.keep) (codeRec_of (X₀.keeps F.keep) hcd) rfl hbind hcell hloc (fun h₁ hns hk₁=>?_) hco hgen hk
 refine ks_wpAt_mono (h _ s.heap.objs.size h₁ _ FG ⟨hns,fun b o e=>hk₁ b o (of_hideAll _ e),Nat.le_of_eq (hideAll_size _ _)⟩
  (fun p hp=>⟨hk₁ _ _ (N p hp).1,Nat.ne_of_lt (Heap.lt_size (N p hp).1),hideAll_none _ (List.mem_map_of_mem hp)⟩) BG (X₀.keeps st) (T.keeps st) (fun p hp=>Heap.lt_size (N p hp).1) (fun b o e q=>hideAll_get _ e q) (by show 1≤s.toks+binds.length;keq_rows)) (fun fl s' hl=>?_) fun _ _ y=>?_
 ·refine lv _ _ ?_
  (refine eq_70 (hl) fun L' m' news' F' N' k=>?_;(try clear hl))
  k_extra "v1g"
 ·exact wpAny_mono y (fun _ _ z _=>z) fun _ _ z _=>z
end
section
variable {prog:Program} {w:World} {A:Around} {E:Value→Shared→Prop} {s:Shared} {K:Frag} {x d D L C:Addr} {h₀:Heap} {m:Str→Option Value} {news news':List (Addr×Obj)} {its:Array Value} {n:Nat} {ox:Obj} {od:Option Obj}
theorem eq_193 {nm:Str} {id:String} {args:List Value} {Q:Option Value→Shared→Prop} (S:Slot "list" nm id) (X:K.In s.heap) (I:InstAt s.heap x ox C od) (hs:findIn K (.ref C) nm=some (some (.builtin id))) (h:wpAny (model prog w) A (call (.builtin id) (.ref x::args)) (fun v=>Q (some v)) E s):
  wpAny (model prog w) A (callSpecial? (.ref x) nm args) Q E s:=kfo_special X I hs S.bind h
theorem eq_587 {k:Value} {Q:Value→Shared→Prop} (X:K.In s.heap) (I:InstAt s.heap x ox C od) (hq:noSeq K C=true) (hs:findIn K (.ref C) "__getitem__"=some (some (.builtin "list.__getitem__"))) (h:wpAny (model prog w) A (call (.builtin "list.__getitem__") [.ref x,k]) Q E s):wpAny (model prog w) A (getItem (.ref x) k) Q E s:=by
 unfold getItem sequenceKey
 refine wpAny_holding (wpAny_bind (wpAny_bind (I.type.here ?_)))
 refine wpAny_bind ((anyM_none X hq).here ?_)
 rw [if_pos (show (!false)=true from rfl)]
 exact wpAny_pure (wpAny_bind (eq_193 slot_list_getitem X I hs (wpAny_mono h (fun _ _ z=>wpAny_pure z) fun _ _ z=>z)))
theorem eq_720 {k v:Value} {Q:Unit→Shared→Prop} (X:K.In s.heap) (I:InstAt s.heap x ox C od) (hq:noSeq K C=true) (hs:findIn K (.ref C) "__setitem__"=some (some (.builtin "list.__setitem__"))) (h:wpAny (model prog w) A (call (.builtin "list.__setitem__") [.ref x,k,v]) (fun _=>Q ()) E s):wpAny (model prog w) A (setItem (.ref x) k v) Q E s:=by
 unfold setItem sequenceKey
 refine wpAny_holding (wpAny_bind (wpAny_bind (I.type.here ?_)))
 refine wpAny_bind ((anyM_none X hq).here ?_)
 rw [if_pos (show (!false)=true from rfl)]
 exact wpAny_pure (wpAny_bind (eq_193 slot_list_setitem X I hs (wpAny_mono h (fun _ _ z=>wpAny_pure z) fun _ _ z=>z)))
theorem eq_420 {value slice:PySem.Expr} {i:Value} {ops:List Value} {Q:Value→Shared→Prop} (X:K.In s.heap) (I:InstAt s.heap x ox C od) (hq:noSeq K C=true) (hs:findIn K (.ref C) "__getitem__"=some (some (.builtin "list.__getitem__"))) (h:wpAny (model prog w) A (call (.builtin "list.__getitem__") [.ref x,i]) Q E s)
  (h1:subscripted slice false (.ref x) i=operate ops (getItem (.ref x) i)) (h2:∀ r,letTemporaryGo value (.ref x) r=pure ()):wpAny (model prog w) A (subscriptTail value slice (.ref x) i) Q E s:=by
 have fin:wpAny (model prog w) A (subscripted slice false (.ref x) i) (fun r s₃=>wpAny (model prog w) A (letTemporaryGo value (.ref x) r >>= fun _=>pure r) Q E s₃) E s:=by
  rw [h1]
  exact wpAny_operating (wpAny_mono (eq_587 X I hq hs h) (fun r s₃ h₃=>wpAny_bind (wpAny_of_eq (h2 r) (wpAny_pure h₃))) fun _ _ x=>x)
 unfold subscriptTail getitemInPython
 refine wpAny_bind (wpAny_bind (wpAny_bind (I.type.here ((looks_findIn X hs).here ?_))))
 first
  |exact wpAny_pure (wpAny_bind fin)
  |exact wpAny_bind (wpAny_pure (wpAny_bind fin))
  |exact wpAny_bind fin
  |exact wpAny_pure fin
end


end
section
section
variable {prog:Program} {w:World} {M:Model} {A:Around} {E:Value→Shared→Prop} {s:Shared} {K:Frag} {x q d D L C:Addr} {h₀:Heap} {m:Str→Option Value} {news news':List (Addr×Obj)} {its:Array Value} {n:Nat} {bt id:String}
theorem eq_1342:True:=by
 k_with "g6"=>have offG:True:=trivial
 k_with "g29"=>skip
 k_with "dl_mem"=>((fail_if_success (k_extra "g29";clear offG));first|(with_reducible first|(apply eq_1185<;>assumption)|(apply eq_818<;>assumption)|fail)|fail)
 trivial
theorem eq_981 {pos:Pos} {Q:Value→Shared→Prop} (N:News h₀ L s.heap news) (hm:(q,Q1g bt id x)∈news) (hbt:bt="method-wrapper"∨bt="builtin_function_or_method") (h:wpAny M A (call (.ref q) []) Q E s):wpAny M A (callWith pos (.ref q) [] [] []) Q E s:=by
 have e1:(Value.type bt != Value.type "method")=true:=by rcases hbt with rfl|rfl<;>decide
 have e2:(Value.type bt==Value.type "builtin_function_or_method"||Value.type bt==Value.type "method-wrapper")=true:=by rcases hbt with rfl|rfl<;>decide
 unfold callWith
 refine wpAny_bind (wpAny_holding (PyProof.Rows.evalArgs_none (wpAny_bind (wpAny_standAt ?_))))
 simp only [List.any_nil,Bool.or_false]
 refine wpAny_bind (m:=keeperOf (.ref q)) ?_
 unfold keeperOf
 refine wpAny_bind (wpAny_load (N _ hm).1 ?_)
 simp only [Q1g,e1,e2,if_true]
 k_extra "vx"
 exact wpAny_bind (wpAny_mono h (fun r s₂ hr=>wpAny_bind (wpAny_holding (wpAny_point (wpAny_pure hr)))) fun _ _ x=>x)
theorem eq_1204 {Q:Value→Shared→Prop} (N:News h₀ L s.heap news) (hq:(q,Q1g "method-wrapper" "list.__len__" x)∈news) (hl:(x,Qg its n d)∈news) (h:Q (.int (its.size:Nat) s.toks) { s with toks:=s.toks+1 }):wpAny (model prog w) A (call (.ref q) []) Q E s:=
 eq_173 (N _ hq).1 (.inl rfl) (Looks.of_pure (by unfold checkBoundCall;kernel_rfl)) (by decide +kernel) PySem.F.entry_list_len fun A'=>eq_1138 (N _ hl).1 ⟨_,rfl,h⟩
theorem eq_753 {Q:Value→Shared→Prop} (F:Fr h₀ L s.heap m) (N:News h₀ L s.heap news) (hq:(q,Q1g "method-wrapper" "list.__init__" x)∈news) (U:Upd x (Qg #[] 0 d) (Qg #[] 0 d) news news') (h:∀ h',Fr h₀ L h' m→News h₀ L h' news'→Q .none { s with heap:=h' }):wpAny (model prog w) A (call (.ref q) []) Q E s:=by
 (refine eq_23 (U.split) fun pre post zq1 zq2 a b=>?_;subst zq1;subst zq2)
 have z:=N (x,Qg #[] 0 d) (List.mem_append.mpr (.inr (.head _)))
 refine eq_173 (N _ hq).1 (.inl rfl) (Looks.of_pure (by unfold checkBoundCall;kernel_rfl)) (by decide +kernel) PySem.F.entry_list_init fun A'=>eq_1093 z.1 ⟨_,rfl,h _ (F.change (Heap.SameBut.update ..) z.2.1 z.2.2) (news_set N a b (Heap.SameBut.update ..) ?_)⟩
 k_extra "v25"
 simp [Obj.mapSeq]
theorem eq_961:Manifest.signature? "list.pop"=some ⟨.positional,"list.pop","pop",.self,[⟨"index",.posOnly,false⟩]⟩:=by
 rw [PySem.signature?_of (id:="list.pop") (n:=['p', 'o', 'p']) (o:=['t', 's', 'i', 'l']) (by kernel_rfl) PySem.F.owner_list];kernel_rfl
theorem eq_1142 (x:Addr):Bind.checkArgs "list.pop" ⟨.positional,toString (Str.ofString "_Accumulator").toString++toString "."++toString (Bind.lastOf "list.pop"),"pop",.self,[⟨"index",.posOnly,false⟩]⟩ ⟨[.ref x],[]⟩=pure ():=by kernel_rfl
theorem eq_658 {h:Heap} {cd:ClassData} (X:K.In h) (hx:h.get? x=some (Qg its n d)) (hm:mroIn K 200 (.type "module")=some false) (hc:clsIn K 200=some cd) (hn:cd.qualname=Str.ofString "_Accumulator") (ht:typeIn K (.ref 200)=some (.type "type")):Looks M h (checkBoundCall "list.pop" ⟨[.ref x],[]⟩) ():=by
 intro A Q E s k q
 have hk:builtinKind "list.pop"=some .method:=by decide +kernel
 have T:Looks M h (typeOf (.ref x)) (.ref 200):=(Looks.ld hx).andThen .now
 unfold checkBoundCall
 rw [eq_961]
 simp only [hk]
 k_extra "v14"
 refine wpAny_bind (wpAny_bind (T A _ E s k (looks_mroIn X hm A _ E s k ?_)))
 rw [show Manifest.varargsMethods.contains "list.pop"=false by decide +kernel,if_neg (by decide)]
 refine wpAny_bind (wpAny_bind ?_)
 unfold loadHead
 refine wpAny_loadPart (k _ _ hx) ?_
 k_extra "vx"
 show wpAny M A (typeOf (.ref x) >>= _) _ _ _
 refine wpAny_bind (T A _ E s k ?_)
 show wpAny M A (classData 200 >>= _) _ _ _
 refine wpAny_bind (looks_clsIn X hc A _ E s k ?_)
 refine wpAny_bind (looks_typeIn X ht A _ E s k ?_)
 rw [if_pos (by decide),hn]
 exact wpAny_of_eq (eq_1142 x) q
theorem eq_1235 {its:Array Value} {y:Value} (hy:its[its.size-1]?=some y) (n:Nat) (d:Addr):Obj.mapSeq (fun xs=>xs.eraseIdxIfInBounds (its.size-1)) (Qg its n d)=Qg its.pop (n+1) d:=by
 have hpos:0<its.size:=by
  rcases Nat.eq_zero_or_pos its.size with h0|h0
  ·simp [h0] at hy
  ·exact h0
 have e:its.eraseIdxIfInBounds (its.size-1)=its.pop:=by
  apply Array.ext'
  rw [Array.toList_eraseIdxIfInBounds,Array.toList_pop,List.eraseIdx_eq_dropLast (by rw [Array.length_toList];keq_rows)]
 unfold Obj.mapSeq
 dsimp only
 rw [e]
 have:¬ (its.pop.size==its.size)=true:=by
  rw [Array.size_pop]
  intro h
  have:=eq_of_beq h
  keq_rows
 rw [if_neg this]
theorem eq_908 {y:Value} {cd:ClassData} {Q:Value→Shared→Prop} (F:Fr h₀ L s.heap m) (X₀:K.In h₀) (N:News h₀ L s.heap news) (hq:(q,Q1g "builtin_function_or_method" "list.pop" x)∈news) (U:Upd x (Qg its n d) (Qg its.pop (n+1) d) news news') (hy:its[its.size-1]?=some y) (hz:its.size≤sizeLine)
  (hm:mroIn K 200 (.type "module")=some false) (hc:clsIn K 200=some cd) (hn:cd.qualname=Str.ofString "_Accumulator") (ht:typeIn K (.ref 200)=some (.type "type")) (h:∀ h',Fr h₀ L h' m→News h₀ L h' news'→Q y { s with heap:=h' }):wpAny (model prog w) A (call (.ref q) []) Q E s:=by
 have hq':=(N _ hq).1
 (refine eq_23 (U.split) fun pre post zq3 zq4 a b=>?_;subst zq3;subst zq4)
 have z:=N (x,Qg its n d) (List.mem_append.mpr (.inr (.head _)))
 refine eq_173 hq' (.inr rfl) (eq_658 (X₀.keeps F.keep) z.1 hm hc hn ht) (by decide +kernel) PySem.F.entry_list_pop fun A'=>eq_1021 z.1 hy hz ⟨_,rfl,h _ (F.change (Heap.SameBut.update ..) z.2.1 z.2.2) (news_set N a b (Heap.SameBut.update ..) ?_)⟩
 rw [Heap.get?_update_self _ z.1 rfl,eq_1235 hy]
end
set_option maxHeartbeats 400000
theorem eq_1248:True:=by
 k_with "g23"=>skip
 k_with "getMethod ref"=>((fail_if_success (k_extra "g29";clear offG));k_here;k_dflt (first
  |(refine' eq_66 eq_1206 (by k_asm) (by k_asm) (by k_asm) (by first|k_mem|fail) (by first|k_inst|fail) (by k_is) (by first|ks_is|fail) (by k_is) (by decide) ?_)
  |(refine' eq_66 eq_242 (by k_asm) (by k_asm) (by k_asm) (by first|k_mem|fail) (by first|k_inst|fail) (by k_is) (by first|ks_is|fail) (by k_is) (by decide) ?_)
  |(refine' eq_66 eq_244 (by k_asm) (by k_asm) (by k_asm) (by first|k_mem|fail) (by first|k_inst|fail) (by k_is) (by first|ks_is|fail) (by k_is) (by decide) ?_));intro q9ω h9ω F9ω N9ω l9ω;(try k_lt l9ω))
 k_with "g30"=>skip
 k_with "callWith ref"=>((fail_if_success (k_extra "g30";clear offG));k_here;k_dflt (refine' eq_981 (by k_asm) (by first|k_mem|fail) (by first|(first|exact .inl rfl|exact .inr rfl)|fail) ?_))
 k_with "call ref"=>((fail_if_success (k_extra "g29";clear offG));k_here;k_dflt (refine' eq_1204 (by k_asm) (by first|k_mem|fail) (by first|k_mem|fail) ?_))
 k_with "g13"=>skip
 k_with "g14"=>skip
 trivial
theorem eq_294 (w:World) (AA DD:Addr) (its:Array Value) (n:Nat) (u t0:Tok) (c:Nat):Ct w 1 197 [.ref AA] [(AA,Qg its n DD),(DD,Q1d w u t0 c)] (fun v own=>(∃ t,v= .int (its.size:Nat) t)∧own=[(AA,Qg its n DD),(DD,Q1d w u t0 c)]):=by
 k_extra "w3"
 k_extra "v9"
 have hAD:=eq_28 N1 (.head _) (.tail _ (.head _))
 k_steps
 all_goals (refine' hret _ _ _ [(AA,Qg its n DD),(DD,Q1d w u t0 c)] _ ?F ?N ?k ?fr ?po ?t ?g;k_extra "w4";(case po=>exact ⟨⟨_,rfl⟩,rfl⟩);k_extra "w5")


end
section
theorem eq_1312:True:=by
 k_with "g14"=>have offG:True:=trivial
 k_with "g29"=>have offG:True:=trivial
 k_with "g31"=>skip
 k_with "dl_mem"=>((fail_if_success (k_extra "g31";clear offG));first|(with_reducible first|(apply eq_1031<;>assumption)|fail)|fail)
 trivial
inductive Rem (p:Addr×Obj):List (Addr×Obj)→List (Addr×Obj)→Prop
 |head {l}:Rem p (p::l) l
 |tail {q l l'}:Rem p l l'→Rem p (q::l) (q::l')
inductive Q23:List (Addr×Obj)→List (Addr×Obj)→List (Addr×Obj)→Prop
 |nil {l}:Q23 [] l l
 |cons {p own l l' r}:Rem p l l'→Q23 own l' r→Q23 (p::own) l r
theorem Rem.mem {p:Addr×Obj} {l l':List (Addr×Obj)} (h:Rem p l l'):p∈l:=by
 induction h with
 |head=>exact .head _
 |tail _ ih=>exact .tail _ ih
theorem Rem.sub {p:Addr×Obj} {l l':List (Addr×Obj)} (h:Rem p l l'):∀ q∈l',q∈l:=by
 induction h with
 |head=>exact fun _ h=>.tail _ h
 |tail _ ih=>exact fun q hq=>(List.mem_cons.mp hq).elim (fun e=>e▸ .head _) fun hq=>.tail _ (ih q hq)
theorem Q23.mem {own l r:List (Addr×Obj)} (h:Q23 own l r):(∀ p∈own,p∈l)∧∀ p∈r,p∈l:=by
 induction h with
 |nil=>exact ⟨List.forall_mem_nil _,fun _ h=>h⟩
 |cons hr _ ih=>exact ⟨List.forall_mem_cons.mpr ⟨hr.mem,fun p hp=>hr.sub _ (ih.1 p hp)⟩,fun p hp=>hr.sub _ (ih.2 p hp)⟩
section
variable {A₀:Around} {s:Shared} {base h₀:Heap} {outer:List Env} {L:Addr} {m:Str→Option Value} {news:List (Addr×Obj)} {p:Program} {loose:List Str} {mean:ExcName→Option Value} {mg mb:Str→Option Value}
theorem eq_33 {w:World} {lv:Nat} {f:Addr} {vs:List Value} {own rest:List (Addr×Obj)} {post:Value→List (Addr×Obj)→Prop} {dp un:Nat} {gd:Option (List Code)} {cn:Str} {cs:Scope} {a:Addr} {ccd:Value} {cl:List (Str×Addr)} {Q E:Value→Shared→Prop}
  (C:Ct w lv f vs own post) (B:Below A₀ base outer h₀) (F:Fr h₀ L s.heap m) (X:(Kx w.params).In h₀) (N:News h₀ L s.heap news) (P:Q23 own news rest) (hr:∀ q∈own,∀ p∈rest,p.1≠q.1) (T:Top p loose mean mg mb h₀) (hk:cs.kind= .function) (hd:dp+20*lv<recursionLimit) (hu:un+200*lv<cLine) (ht:1≤s.toks) (hg:AllBare s.gens)
  (k:∀ v h' tk' own' g',Fr h₀ L h' m→News h₀ L h' (own'++rest)→(∀ p∈own',p.1∉own.map (·.1)→Q27 p.1 news)→post v own'→1≤tk'→AllBare g'→Q v ⟨h',g',s.drawn,tk',s.os⟩):
  wpAny (model PySem.Challenge.rw_xo0041_01.prog w) (ktrTop dp un gd cn cs L a ccd cl outer) (call (.ref f) vs) Q E s:=
 eq_127 C B F X N P.mem.1 (fun p hp=>⟨P.mem.2 p hp,fun h=>by (refine eq_4 (List.mem_map.mp h) fun q hq e=>?_);exact hr q hq p hp e.symm⟩) T hk hd hu ht hg k
end
set_option maxHeartbeats 400000
theorem eq_1324:True:=by
 k_with "g32"=>skip
 k_with "b"=>((fail_if_success (k_extra "g32";clear offG));first|exact Q23.nil|(refine' Q23.cons (by first|(repeat (first|exact Rem.head|apply Rem.tail))|fail) (by first|k_extra "b"|fail)))
 k_with "g33"=>skip
 k_with "f"=>((fail_if_success (k_extra "g33";clear offG));first|exact List.forall_mem_nil _|(refine' List.forall_mem_cons.mpr ⟨(by first|k_all|fail),(by first|k_extra "f"|fail)⟩))
 k_with "g34"=>skip
 k_with "t"=>((fail_if_success (k_extra "g34";clear offG));(try dsimp only);first|with_reducible assumption|keq_rows|(show @LE.le Nat _ 1 _;keq_rows))
 k_with "g24"=>skip
 k_with "getMethod ref"=>((fail_if_success (k_extra "g31";clear offG));k_here;k_dflt (refine' eq_66 eq_244 (by k_asm) (by k_asm) (by k_asm) (by first|k_mem|fail) (by first|k_inst|fail) (by k_is) (by first|ks_is|fail) (by k_is) (by decide) ?_);intro q9ω h9ω F9ω N9ω l9ω;(try k_lt l9ω))
 k_with "call ref"=>((fail_if_success (k_extra "g31";clear offG));k_here;k_dflt (refine' eq_908 (by k_asm) (by k_asm) (by k_asm) (by first|k_mem|fail) (by first|k_upd|fail) (by with_reducible assumption) (by first|(rw [sizeLine_eq];keq_rows)|fail) (by k_is) (by k_is) (by exact rfl) (by k_is) ?_);intro h9ω F9ω N9ω;(try dsimp only at N9ω))
 k_with "t"=>((fail_if_success (k_extra "g34";clear offG));(try dsimp only);first|with_reducible assumption|with_reducible exact Nat.le_add_left 1 _|keq_rows|(show @LE.le Nat _ 1 _;keq_rows))
 k_with "call ref"=>((fail_if_success (k_extra "g31";clear offG));k_here;k_dflt (refine' eq_33 (eq_294 _ _ _ _ _ _ _ _) (by k_asm) (by k_asm) (by k_asm) (by k_asm) (by first|k_extra "b"|fail) (by first|k_extra "f"|fail) (by k_asm) (by first|(first|exact rfl|with_reducible assumption)|fail) (by first|(first|keq_rows|ktr_room)|fail) (by first|(first|keq_rows|ktr_units)|fail) (by first|k_extra "t"|fail) (by first|(try dsimp only);with_reducible assumption|fail) ?_;intro v9ω h9ω t9ω o9ω g9ω F9ω N9ω e9ω p9ω ht9ω hg9ω;(refine eq_7 (p9ω) fun zq1ω ho9ω=>?_;(try clear p9ω);(refine eq_5 (zq1ω) fun u9ω hv9ω=>?_;(try clear zq1ω)));subst hv9ω ho9ω;dsimp only [List.cons_append,List.nil_append] at N9ω))
 k_with "g35"=>skip
 k_with "wpAt"=>((fail_if_success (k_extra "g35";clear offG));with_reducible refine ks_wpAt_execs_cons ?_)
 k_with "wpAt"=>((fail_if_success (k_extra "g35";clear offG));with_reducible refine ks_wpAt_Return_some ?_)
 k_with "wpAt"=>((fail_if_success (k_extra "g35";clear offG));(with_reducible show _root_.PySem.wpAt _ _ _ (eval (Expr.Call (Expr.Attribute (Expr.Call (Expr.Name _ _) [] [] _) _ _) [] [] _) _) _ _ _);k_dflt (refine ks_wpAt_MethodCall ?_))
 trivial
theorem eq_430 (w:World) (AA DD:Addr) (its:Array Value) (n:Nat) (u t0:Tok) (c:Nat) (yy:Value) (hy:its[its.size-1]?=some yy) (hz:its.size≤20000):Ct w 2 160 [.ref AA] [(AA,Qg its n DD),(DD,Q1d w u t0 c)] (fun v own=>v=yy∧own=[(AA,Qg its.pop (n+1) DD),(DD,Q1d w u t0 c)]):=by
 k_extra "w3"
 k_extra "v9"
 have hAD:=eq_28 N1 (.head _) (.tail _ (.head _))
 k_steps
 ·have:its.size=0:=by keq_rows
  simp [this] at hy
 all_goals (refine' hret _ _ _ [(AA,Qg its.pop (n+1) DD),(DD,Q1d w u t0 c)] _ ?F ?N ?k ?fr ?po ?t ?g;k_extra "w4";(case po=>exact ⟨rfl,rfl⟩);k_extra "w5")


end
section
section
variable {prog:Program} {w:World} {M:Model} {A:Around} {E:Value→Shared→Prop} {s:Shared} {K:Frag} {x q d D L C:Addr} {h₀:Heap} {m:Str→Option Value} {news news':List (Addr×Obj)} {its:Array Value} {n:Nat}
theorem eq_1314:True:=by
 k_with "g24"=>have offG:True:=trivial
 k_with "g30"=>have offG:True:=trivial
 k_with "g31"=>have offG:True:=trivial
 k_with "g32"=>have offG:True:=trivial
 k_with "g33"=>have offG:True:=trivial
 k_with "g34"=>have offG:True:=trivial
 k_with "g35"=>have offG:True:=trivial
 k_with "g36"=>skip
 k_with "dl_mem"=>((fail_if_success (k_extra "g36";clear offG));first|(with_reducible first|(apply eq_880<;>assumption)|(apply eq_824<;>assumption)|apply eq_37|apply eq_756|fail)|fail)
 trivial
theorem eq_736 {value slice:PySem.Expr} {vl vu:Value} {lo hi:Option Int} {od:Obj} {Q:Value→Shared→Prop} (F:Fr h₀ L s.heap m) (X₀:K.In h₀) (N:News h₀ L s.heap news) (hl:(x,Qg its n d)∈news) (hd:(d,od)∈news) (pl:IsPart vl lo) (pu:IsPart vu hi)
  (hq:noSeq K 200=true) (hs:findIn K (.ref 200) "__getitem__"=some (some (.builtin "list.__getitem__"))) (hm:mroIn K 200 (.type "list")=some true) (hz:its.size≤sizeLine)
  (h:∀ D h',Fr h₀ L h' m→News h₀ L h' ((D,listOf (slicePick its lo hi none) 0)::news)→(∀ p∈news,p.1<D)→Q (.ref D) { s with heap:=h' })
  (h1:subscripted slice false (.ref x) (.ref s.heap.objs.size)=operate [.ref s.heap.objs.size,.ref x] (getItem (.ref x) (.ref s.heap.objs.size))) (h2:∀ r,letTemporaryGo value (.ref x) r=pure ()):
  wpAny (model prog w) A (subscriptTail value slice (.ref x) (.ref s.heap.objs.size)) Q E { s with heap:=s.heap.push { cls:=.type "slice",data:=.fields #[vl,vu,.none] } }:=by
 have F1:=F.push { cls:=.type "slice",data:=.fields #[vl,vu,.none] }
 have N0:News h₀ L (s.heap.push { cls:=.type "slice",data:=.fields #[vl,vu,.none] }) news:=N.grown fun _ _ e=>Heap.get?_push_of_some _ e
 have N1:=News.push F1 N0 { cls:=.type "list",data:=.seq (slicePick its lo hi none) }
 rw [Heap.size_push] at N1
 refine eq_420 (s:={ s with heap:=s.heap.push _ }) (X₀.keeps F1.keep) (Qg.inst N0 hl hd) hq hs ?_ h1 h2
 refine eq_68 (s:={ s with heap:=s.heap.push _ }) (X₀.keeps F1.keep) (N0 _ hl).1 rfl hm (nm:="__getitem__") (by decide +kernel) (.inl (by decide +kernel)) (by decide +kernel) PySem.F.entry_list_getitem (PySem.F.args_list_getitem_2 _ _) ?_
 refine eq_494 (N0 _ hl).1 (Heap.IsSliceOf.new ..) pl pu .none (by simp) hz ⟨_,rfl,?_⟩
 show Q (.ref (s.heap.push _).objs.size) _
 rw [Heap.size_push]
 exact h _ _ (F1.push _) N1 fun p hp=>Nat.lt_succ_of_lt (Heap.lt_size (N p hp).1)
theorem eq_393 {v:Addr} {vl vu:Value} {lo hi:Option Int} {od:Obj} {its2:Array Value} {n2 k:Nat} {zs:Array Value} {Q:Unit→Shared→Prop} (F:Fr h₀ L s.heap m) (X₀:K.In h₀) (N:News h₀ L s.heap news) {gg:Obj→List (Addr×Obj)} (U:UpdF x (Qg its n d) news gg) (hd:(d,od)∈news) (hv:(v,listOf its2 n2)∈news) (pl:IsPart vl lo) (pu:IsPart vu hi)
  (hq:noSeq K 200=true) (hs:findIn K (.ref 200) "__setitem__"=some (some (.builtin "list.__setitem__"))) (hm:mroIn K 200 (.type "list")=some true) (hne:x≠v) (hst:(sliceBounds lo hi none its.size).2.2=1) (hsz:its.size+its2.size≤1000000)
  (hz:zs=its.extract 0 (sliceBounds lo hi none its.size).1.toNat++its2++its.extract (max (sliceBounds lo hi none its.size).1 (sliceBounds lo hi none its.size).2.1).toNat its.size) (hk:k=if zs.size==its.size then n else n+1)
  (h:∀ h',Fr h₀ L h' m→News h₀ L h' (gg (Qg zs k d))→Q () { s with heap:=h' }):
  wpAny (model prog w) A (setItem (.ref x) (.ref s.heap.objs.size) (.ref v)) Q E { s with heap:=s.heap.push { cls:=.type "slice",data:=.fields #[vl,vu,.none] } }:=by
 have F1:=F.push { cls:=.type "slice",data:=.fields #[vl,vu,.none] }
 have N0:News h₀ L (s.heap.push { cls:=.type "slice",data:=.fields #[vl,vu,.none] }) news:=N.grown fun _ _ e=>Heap.get?_push_of_some _ e
 have hv':=(N0 _ hv).1
 (refine eq_23 (U.split) fun pre post zq1 hg a b=>?_;subst zq1)
 have hl:(x,Qg its n d)∈pre++(x,Qg its n d)::post:=List.mem_append.mpr (.inr (.head _))
 have z:=N0 _ hl
 refine eq_720 (s:={ s with heap:=s.heap.push _ }) (X₀.keeps F1.keep) (Qg.inst N0 hl hd) hq hs ?_
 refine eq_68 (s:={ s with heap:=s.heap.push _ }) (X₀.keeps F1.keep) z.1 rfl hm (nm:="__setitem__") (by decide +kernel) (.inr (by decide +kernel)) (by decide +kernel) PySem.F.entry_list_setitem (PySem.F.args_list_setitem_3 _ _ _) ?_
 refine eq_991 z.1 hv' hne (Heap.IsSliceOf.new ..) pl pu hst hsz ⟨_,rfl,h _ (F1.change (Heap.SameBut.update ..) z.2.1 z.2.2) ?_⟩
 rw [hg]
 refine news_set N0 a b (Heap.SameBut.update ..) ?_
 k_extra "v25"
 unfold Obj.mapSeq
 dsimp only
 rw [←hz, ←hk]
theorem eq_122 {i k:Nat} (h:i≤k):sliceBounds (some (i:Int)) none none k=((i:Int),(k:Int),1):=by
 simp only [sliceBounds]
 simp
 rw [if_neg (Int.not_lt.mpr (Int.natCast_nonneg i)),Int.min_eq_left (Int.ofNat_le.mpr h),Int.max_eq_right (Int.natCast_nonneg i)]
theorem eq_280 (k:Nat):sliceBounds none none none k=(0,(k:Int),1):=by
 simp [sliceBounds]
theorem eq_862 {v:Addr} {od:Obj} {i:Nat} {u:Tok} {n2:Nat} {gg:Obj→List (Addr×Obj)} {Q:Unit→Shared→Prop} (F:Fr h₀ L s.heap m) (X₀:K.In h₀) (N:News h₀ L s.heap news) (U:UpdF x (Qg its n d) news gg) (hd:(d,od)∈news) (hv:(v,listOf #[] n2)∈news)
  (hq:noSeq K 200=true) (hs:findIn K (.ref 200) "__setitem__"=some (some (.builtin "list.__setitem__"))) (hm:mroIn K 200 (.type "list")=some true) (hne:x≠v) (hi:i<its.size) (hsz:its.size≤20000)
  (h:∀ h',Fr h₀ L h' m→News h₀ L h' (gg (Qg (its.toList.take i).toArray (n+1) d))→Q () { s with heap:=h' }):
  wpAny (model prog w) A (setItem (.ref x) (.ref s.heap.objs.size) (.ref v)) Q E { s with heap:=s.heap.push { cls:=.type "slice",data:=.fields #[.int (i:Nat) u,.none,.none] } }:=by
 refine eq_393 F X₀ N U hd hv (IsPart.int _ _) IsPart.none hq hs hm hne (by rw [eq_122 (Nat.le_of_lt hi)]) (by simp;keq_rows) ?_ ?_ h
 ·rw [eq_122 (Nat.le_of_lt hi)]
  apply Array.ext'
  have e:(max (i:Int) (its.size:Int)).toNat=its.size:=by keq_rows
  rw [e]
  simp
 ·rw [if_neg]
  intro hh
  have:=eq_of_beq hh
  simp at this
  keq_rows
theorem eq_801 {v:Addr} {od:Obj} {zs:Array Value} {n2:Nat} {gg:Obj→List (Addr×Obj)} {Q:Unit→Shared→Prop} (F:Fr h₀ L s.heap m) (X₀:K.In h₀) (N:News h₀ L s.heap news) (U:UpdF x (Qg its n d) news gg) (hd:(d,od)∈news) (hv:(v,listOf zs n2)∈news)
  (hq:noSeq K 200=true) (hs:findIn K (.ref 200) "__setitem__"=some (some (.builtin "list.__setitem__"))) (hm:mroIn K 200 (.type "list")=some true) (hne:x≠v) (hsz:its.size+zs.size≤1000000)
  (h:∀ h' k,Fr h₀ L h' m→News h₀ L h' (gg (Qg zs k d))→Q () { s with heap:=h' }):
  wpAny (model prog w) A (setItem (.ref x) (.ref s.heap.objs.size) (.ref v)) Q E { s with heap:=s.heap.push { cls:=.type "slice",data:=.fields #[.none,.none,.none] } }:=by
 refine eq_393 (zs:=zs) F X₀ N U hd hv IsPart.none IsPart.none hq hs hm hne (by rw [eq_280]) hsz ?_ rfl fun h'=>h h' _
 rw [eq_280]
 apply Array.ext'
 have e:(max (0:Int) (its.size:Int)).toNat=its.size:=by keq_rows
 rw [e]
 simp
theorem eq_1067 {i:Nat} (h:i≤its.size):slicePick its (some (i:Int)) none none=(its.toList.drop i).toArray:=by
 rw [kmk_pick_nat its (eq_122 h),List.take_of_length_le (by rw [List.length_drop,Array.length_toList];exact Nat.le_refl _)]
end
set_option maxHeartbeats 400000
theorem eq_1262:True:=by
 k_with "subscriptTail Name Slice ref ref"=>((fail_if_success (k_extra "g36";clear offG));k_here;k_dflt (refine' eq_736 (by k_asm) (by k_asm) (by k_asm) (by first|k_mem|fail) (by first|k_mem|fail) (by first|(first|exact IsPart.int _ _|exact IsPart.none)|fail) (by first|(first|exact IsPart.int _ _|exact IsPart.none)|fail) (by k_is) (by k_is) (by k_is) (by first|(rw [sizeLine_eq];keq_rows)|fail) ?_ (by first|with_unfolding_all rfl|fail) (by first|kmk_pure|fail));intro D9ω h9ω F9ω N9ω l9ω;k_lt l9ω)
 k_with "setItem ref ref"=>((fail_if_success (k_extra "g36";clear offG));k_here;k_dflt (refine' eq_862 (by k_asm) (by k_asm) (by k_asm) (by first|k_updF|fail) (by first|k_mem|fail) (by first|k_mem|fail) (by k_is) (by k_is) (by k_is) (by first|k_ne|fail) (by with_reducible assumption) (by with_reducible assumption) ?_);intro h9ω F9ω N9ω;(try dsimp only at N9ω))
 k_with "g37"=>skip
 k_with "setItem ref ref"=>((fail_if_success (k_extra "g37";clear offG));k_here;k_dflt (refine' eq_801 (by k_asm) (by k_asm) (by k_asm) (by first|k_updF|fail) (by first|k_mem|fail) (by first|k_mem|fail) (by k_is) (by k_is) (by k_is) (by first|k_ne|fail) (by first|(first|with_reducible assumption|(simp;keq_rows))|fail) ?_);intro h9ω k9ω F9ω N9ω;(try dsimp only at N9ω))
 k_with "g14"=>skip
 trivial
theorem eq_995 (w:World) (AA DD:Addr) (its:Array Value) (n:Nat) (u t0:Tok) (c:Nat) (i:Nat) (ti:Tok) (hi:i<its.size) (hz:its.size≤20000):Ct w 1 152 [.ref AA,.int i ti] [(AA,Qg its n DD),(DD,Q1d w u t0 c)] (fun v own=>∃ r,v= .ref r∧own=[(r,listOf (its.toList.drop i).toArray 0),(AA,Qg (its.toList.take i).toArray (n+1) DD),(DD,Q1d w u t0 c)]):=by
 k_extra "w0"
 replace F1:Fr g L1 h1 (fun y=>List.lookup y [(Str.ofString "i",.int i ti),(Str.ofString "self",.ref AA)]):=F1
 have hAD:=eq_28 N1 (.head _) (.tail _ (.head _))
 k_steps
 rw [eq_1067 (Nat.le_of_lt hi)] at *
 all_goals (refine' hret _ _ _ [(_,listOf (its.toList.drop i).toArray 0),(AA,Qg (its.toList.take i).toArray (n+1) DD),(DD,Q1d w u t0 c)] _ ?F ?N ?k ?fr ?po ?t ?g;k_extra "w4";(case po=>exact ⟨_,rfl,rfl⟩);k_extra "w5")


end
section
section
open Builtin Builtin.ObjectAttr
variable {prog:Program} {w:World} {A:Around} {E:Value→Shared→Prop} {s:Shared} {K:Frag} {x C L dx:Addr} {h₀:Heap} {m:Str→Option Value} {news news':List (Addr×Obj)} {R:Result→Shared→Prop}
theorem eq_1268:True:=by
 k_with "g36"=>have offG:True:=trivial
 k_with "g38"=>skip
 k_with "dl_mem"=>((fail_if_success (k_extra "g38";clear offG));first|(with_reducible first|(apply eq_987<;>assumption)|apply eq_37|fail)|fail)
 trivial
theorem eq_1132 (self:Value):refuseLoop self "__setattr__" [.type "list",.type "object"]=pure ():=by kernel_rfl
theorem eq_592 {ox:Obj} {od:Option Obj} {name:Str} {tk:Tok} {v:Value} {r:Option Value} {cd:ClassData} (X:K.In s.heap) (I:InstAt s.heap x ox C od) (hc:clsIn K C=some cd) (ho:cd.mro=[.ref C,.type "list",.type "object"]) (ht:takerIn K C name=some r)
  (h:∀ b,wpAny (model prog w) A.in1 (match r with|some a=>setByDescriptor a (.ref x) v|none=>storeInOwnDict (.ref x) (.ref C) (.str name tk) name v b)
   (fun fin s'=>match fin with|.done f=>R (.ok f) s'|.again c'=>c'.quiet=true∧codeAny (model prog w) A c' R s') (fun e s'=>R (.error e) s') s):
  codeAny (model prog w) A (.call (.builtin "object.__setattr__") ⟨[.ref x,.str name tk,v],[]⟩) R s:=by
 have SF:=PySem.F.store_object
 have ne:cd.mro.isEmpty=false:=by rw [ho];rfl
 have sub:Looks (model prog w) s.heap (isInstance (.ref x) (.type "object")) true:=I.type.andThen (looks_mroIn X (by unfold mroIn;rw [hc,Option.bind_some,if_neg (by rw [ne];decide),ho];simp))
 refine codeAny_call_builtin SF.slot.plain SF.entry (@check_slot (model prog w) _ _ s "object.__setattr__" "object" "__setattr__" (.ref x) [.str name tk,v] [] _ SF.kind SF.split sub (SF.args (.ref x) (.str name tk) v) ?_)
 (refine eq_4 (Option.bind_eq_some_iff.mp ht) fun attr ha hr=>?_)
 have hm:Looks (model prog w) s.heap (mroOf (.ref C)) cd.mro:=(looks_clsIn X hc).andThen .now
 have L3:Looks (model prog w) s.heap (storeTaker? attr) r:=by
  cases attr with
  |none=>cases hr;exact .now
  |some a=>
   (refine eq_4 (Option.map_eq_some_iff.mp hr) fun b hb zq1=>?_;subst zq1)
   refine (looks_takesIn X hb).andThen ?_
   cases b<;>exact .now
 rw [osa_eq,refuse_eq]
 refine wpAny_bind (wpAny_bind (I.type.here (wpAny_bind (hm.here ?_))))
 rw [ho,refuseLoop_ref,eq_1132]
 refine wpAny_pure (wpAny_bind (I.type.here (wpAny_bind ((looks_findIn X ha).here (wpAny_bind (L3.here ?_))))))
 exact h _
theorem eq_1005 {ox od od':Obj} {name:Str} {tk:Tok} {v:Value} {pre post:List (Addr×Obj)} {es:List DictEntry} {n:Nat} {cd:ClassData} (F:Fr h₀ L s.heap m) (N:News h₀ L s.heap (pre++(dx,od)::post)) (X:K.In s.heap)
  (I:InstAt s.heap x ox C (some od)) (hd:ox.dict=some dx) (hc:clsIn K C=some cd) (ho:cd.mro=[.ref C,.type "list",.type "object"]) (hd':cd.hasDict=true) (ht:takerIn K C name=some none)
  (hl:(lookIn name od).isSome=true) (h1:∀ p∈pre,p.1≠dx) (h2:∀ p∈post,p.1≠dx)
  (e:Obj.putName name (PyData.keyHash w.params name) (.str name s.toks) v od=od') (e':od'.data= .dict es.toArray n) (hz:es.length≤1000)
  (h:∀ h',Fr h₀ L h' m→News h₀ L h' (pre++(dx,od')::post)→R (.ok (.ret .none)) { s with heap:=h',toks:=s.toks+1 }):
  codeAny (model prog w) A (.call (.builtin "object.__setattr__") ⟨[.ref x,.str name tk,v],[]⟩) R s:=by
 refine eq_592 X I hc ho ht fun b=>?_
 (refine eq_7 (news_upd (f:=Obj.putName name (PyData.keyHash w.params name) (.str name s.toks) v) F N h1 h2 e (by obtain ⟨_,_,dd,_⟩:=od';cases e';rfl)) fun U1 U2=>?_)
 have D:=(N (dx,od) (by simp)).1
 have D':=(U2 (dx,od') (by simp)).1
 obtain ⟨hx,hcl,hn, -⟩:=I
 obtain ⟨oc,odi,oda,osl⟩:=ox
 dsimp only at hcl hd
 subst hcl hd
 refine wpAny_bind (wpAny_pure (wpAny_bind (wpAny_bind (wpAny_loadPart hx (wpAny_bind ((looks_clsIn X hc).here ?_))))))
 rw [hd']
 refine wpAny_pure (a:=some dx) (wpAny_bind (wpAny_pure (wpAny_bind ?_)))
 unfold nsSet
 refine wpAny_bind (wpAny_bind (wpAny_askSetting (wpAny_pure (wpAny_bind (wpAny_mkText (wpAny_bind (wpAny_loadPart D ?_)))))))
 unfold lookIn at hl
 split at hl
 ·rename_i es₀ n₀ q
  rw [q]
  dsimp only
  have c:(!es₀.any (·.key.isStr name)&&es₀.any (·.refKey))=false:=by
   rw [←Array.any_toList, ←Array.any_toList]
   split at hl
   ·rename_i en he
    rw [List.any_eq_true.mpr ⟨en,List.mem_of_find?_eq_some he,List.find?_some he⟩];rfl
   ·split at hl
    ·cases hl
    ·rename_i z;rw [Bool.not_eq_true] at z;rw [z,Bool.and_false]
  rw [aRefKeyMayBeTheName_at,c]
  refine wpAny_updatePart D ?_
  refine wpAny_bind (wpAny_lookBehind D' (by rw [e'];exact pastItsLine_dict (by rw [List.size_toArray,sizeLine_eq];keq_rows)) ?_)
  exact wpAny_pure (h _ U1 U2)
 ·cases hl
theorem eq_644 {ox:Obj} {name:Str} {v:Value} {es es':List DictEntry} {n n':Nat} {cd:ClassData} {Q:Unit→Shared→Prop} (F:Fr h₀ L s.heap m) (X₀:K.In h₀) (N:News h₀ L s.heap news) (I:InstAt s.heap x ox C (some (dictOf es n))) (hd:ox.dict=some dx)
  (hs:findIn K (.ref C) "__setattr__"=some (some (.builtin "object.__setattr__"))) (hc:clsIn K C=some cd) (ho:cd.mro=[.ref C,.type "list",.type "object"]) (hd':cd.hasDict=true) (ht:takerIn K C name=some none) (hl:(getL name es).isSome=true)
  (e:(putL name (PyData.keyHash w.params name) (.str name (s.toks+1)) v es,putN name es n)=(es',n')) (U:Upd dx (dictOf es n) (dictOf es' n') news news') (hz:es'.length≤1000)
  (h:∀ h',Fr h₀ L h' m→News h₀ L h' news'→Q () { s with heap:=h',toks:=s.toks+2 }):
  wpAny (model prog w) A (setAttr (.ref x) name v) Q E s:=by
 (refine eq_23 (U.split) fun pre post zq3 zq4 a b=>?_;subst zq3;subst zq4)
 (refine eq_7 (Prod.mk.inj e) fun e1 e2=>?_)
 exact set_plain (X₀.keeps F.keep) I hs (eq_1005 (s:={ s with toks:=s.toks+1 }) F N (X₀.keeps F.keep) I hd hc ho hd' ht hl a b (by rw [putName_dict,e1,e2]) rfl hz fun h' F' N'=>h h' F' N')
theorem eq_19 {h₀ h:Heap} {L a b:Addr} {o o':Obj} {news:List (Addr×Obj)} (N:News h₀ L h news) (h1:(a,o)∈news) (h2:(b,o')∈news) (hc:o.cls≠o'.cls):@Ne Nat a b:=fun e=>by
 have x:=(N _ h1).1
 have y:=(N _ h2).1
 dsimp only at x y
 rw [show a=b from e,y] at x
 exact hc (congrArg Obj.cls (Option.some.inj x)).symm
noncomputable abbrev inz:Str:=Str.ofString "_initial_size"
theorem eq_529 (P:Params) (k v v':Value) (u:Tok) (c:Nat):(putL inz (PyData.keyHash P inz) k v' [⟨PyData.keyHash P inz,.str inz u,v⟩],putN inz [⟨PyData.keyHash P inz,.str inz u,v⟩] c)=([⟨PyData.keyHash P inz,.str inz u,v'⟩],c):=by
 have h:(Value.str inz u).isStr inz=true:=by simp [Value.isStr]
 unfold putL putN
 simp [h]
end
theorem eq_1254:True:=by
 k_with "setAttr ref"=>((fail_if_success (k_extra "g38";clear offG));k_here;k_dflt (refine' eq_644 (by k_asm) (by k_asm) (by k_asm) (by first|k_inst|fail) (by exact rfl) (by k_is) (by k_is) (by exact rfl) (by exact rfl) (by k_is) (by first|k_get|fail) (by first|(first|exact eq_529 _ _ _ _ _ _|k_put)|fail) (by first|k_upd|fail) (by first|exact Nat.le_of_ble_eq_true rfl|fail) ?_);intro h9ω F9ω N9ω;(try dsimp only at N9ω))
 k_with "getMethod ref"=>((fail_if_success (k_extra "g38";clear offG));k_here;k_dflt (refine' eq_66 eq_242 (by k_asm) (by k_asm) (by k_asm) (by first|k_mem|fail) (by first|k_inst|fail) (by k_is) (by first|ks_is|fail) (by k_is) (by decide) ?_);intro q9ω h9ω F9ω N9ω l9ω;(try k_lt l9ω))
 k_with "g30"=>skip
 k_with "call ref"=>((fail_if_success (k_extra "g38";clear offG));k_here;k_dflt (refine' eq_753 (by k_asm) (by k_asm) (by first|k_mem|fail) (by first|k_upd|fail) ?_);intro h9ω F9ω N9ω;(try dsimp only at N9ω))
 k_with "g35"=>skip
 k_with "wpAt"=>((fail_if_success (k_extra "g38";clear offG));(with_reducible show _root_.PySem.wpAt _ _ _ (exec (Stmt.Expr (Expr.Call (Expr.Attribute (Expr.Call (Expr.Name _ _) [] [] _) _ _) [] [] _) _) _) _ _ _);k_dflt (refine ks_wpAt_Expr_any ?_))
 trivial
noncomputable def CtC (w:World) (lv:Nat) (f:Addr) (vs:List Value) (own:List (Addr×Obj)) (post:Value→List (Addr×Obj)→Prop):Prop:=
 ∀ (p:Program) (loose:List Str) (mean:ExcName→Option Value) (mg mb:Str→Option Value) (dp un:Nat) (gd:Option (List Code)) (cn:Str) (cs:Scope) (a:Addr) (ccd:Value) (cl:List (Str×Addr)) (outer:List Env) (A₀:Around) (base h₀:Heap) (L:Addr) (m:Str→Option Value) (s:Shared) (Q E:Value→Shared→Prop),
  Below A₀ base outer h₀→Fr h₀ L s.heap m→(Kx w.params).In h₀→News h₀ L s.heap own→Top p loose mean mg mb h₀→cs.kind= .function→dp+20*lv<recursionLimit→un+200*lv<cLine→1≤s.toks→AllBare s.gens→
  (∀ v h' tk' own' g',Fr h₀ L h' m→News h₀ L h' own'→(∀ b o,s.heap.get? b=some o→b∉own.map (·.1)→h'.get? b=some o)→(∀ p∈own',p.1∉own.map (·.1)→s.heap.get? p.1=none)→post v own'→1≤tk'→AllBare g'→Q v ⟨h',g',s.drawn,tk',s.os⟩)→
   codeAny (model PySem.Challenge.rw_xo0041_01.prog w) (ktrTop dp un gd cn cs L a ccd cl outer) (.call (.ref f) ⟨vs,[]⟩) (fun r s'=>match r with|.ok (.ret v)=>Q v s'|.ok _=>False|.error e=>E e s') s
set_option maxHeartbeats 400000
theorem eq_1263:True:=by
 k_with "getMethod ref"=>((fail_if_success (k_extra "g38";clear offG));k_here;k_dflt (refine' eq_406 (by k_in) (by first|k_inst|fail) (by k_is) (by k_is) (by k_is) (by k_is) (by decide) (by exact rfl) ?_))
 k_with "g26"=>skip
 trivial
theorem eq_864 (w:World) (AA DD:Addr) (its:Array Value) (n:Nat) (u t0:Tok) (c:Nat) (tA tB:Str) (tx ty:Tok) (hz:its.size≤20000):CtC w 1 144 [.ref AA,.str tA tx,.str tB ty] [(AA,Qg its n DD),(DD,Q1d w u t0 c)] (fun v own=>v= .none∧∃ p,own=[(p,Qh (.str tA tx) (.str tB ty)),(AA,Qg (its.push (.ref p)) (n+1) DD),(DD,Q1d w u t0 c)]):=by
 k_extra "w6"
 k_extra "vm"
 have hAD:=eq_28 N1 (.head _) (.tail _ (.head _))
 k_steps
 k_extra "v8"
theorem eq_562 (w:World) (AA DD:Addr) (ti:Tok):CtC w 1 137 [.ref AA,.int 0 ti] [(AA,Qg #[] 0 DD),(DD,dictOf [] 0)] (fun v own=>v= .none∧∃ u c,own=[(AA,Qg #[] 0 DD),(DD,Q1d w u ti c)]):=by
 k_extra "w7"
 replace F1:Fr g L1 h1 (fun y=>List.lookup y [(Str.ofString "initial_size",.int 0 ti),(Str.ofString "self",.ref AA)]):=F1
 have hAD:@Ne Nat AA DD:=fun e=>by
  have a:=(N1 _ (.head _)).1
  have b:=(N1 _ (.tail _ (.head _))).1
  dsimp only at a b
  rw [show AA=DD from e,b] at a
  cases a
 k_steps
 all_goals (refine' hret _ _ _ [(AA,Qg #[] 0 DD),(DD,Q1d w _ ti _)] _ ?F ?N ?k ?fr ?po ?t ?g;k_extra "w4";(case po=>exact ⟨rfl,_,_,rfl⟩);k_extra "w5")
theorem eq_451 (w:World) (AA DD:Addr) (its:Array Value) (n:Nat) (u t0:Tok) (c:Nat) (hz:its.size≤20000):Ct w 1 182 [.ref AA] [(AA,Qg its n DD),(DD,Q1d w u t0 c)] (fun v own=>v= .none∧∃ k u t0 c,own=[(AA,Qg #[] k DD),(DD,Q1d w u t0 c)]):=by
 k_extra "w0"
 replace F1:Fr g L1 h1 (fun y=>List.lookup y [(Str.ofString "startval",.none),(Str.ofString "self",.ref AA)]):=F1
 have hAD:=eq_28 N1 (.head _) (.tail _ (.head _))
 k_steps
 all_goals (refine' hret _ _ _ [(AA,Qg #[] _ DD),(DD,Q1d w _ _ _)] _ ?F ?N ?k ?fr ?po ?t ?g;k_extra "w4";(case po=>exact ⟨rfl,_,_,_,_,rfl⟩);k_extra "w5")
theorem eq_1231 (w:World) (AA DD RR:Addr) (its zs:Array Value) (n kr:Nat) (u t0:Tok) (c:Nat) (hz:its.size≤20000) (hz2:zs.size≤20000):Ct w 1 182 [.ref AA,.ref RR] [(RR,listOf zs kr),(AA,Qg its n DD),(DD,Q1d w u t0 c)] (fun v own=>v= .none∧∃ k u t0 c,own=[(RR,listOf zs kr),(AA,Qg zs k DD),(DD,Q1d w u t0 c)]):=by
 k_extra "w0"
 replace F1:Fr g L1 h1 (fun y=>List.lookup y [(Str.ofString "startval",.ref RR),(Str.ofString "self",.ref AA)]):=F1
 have hAD:=eq_28 N1 (.tail _ (.head _)) (.tail _ (.tail _ (.head _)))
 have hRA:@Ne Nat RR AA:=fun e=>by
  have a:=(N1 _ (.head _)).1
  have b:=(N1 _ (.tail _ (.head _))).1
  dsimp only at a b
  rw [show RR=AA from e,b] at a
  cases a
 have hRD:@Ne Nat RR DD:=eq_19 N1 (.head _) (.tail _ (.tail _ (.head _))) (by simp)
 have hzz:its.size+zs.size≤1000000:=by keq_rows
 k_steps
 all_goals (refine' hret _ _ _ [(RR,listOf zs kr),(AA,Qg zs _ DD),(DD,Q1d w _ _ _)] _ ?F ?N ?k ?fr ?po ?t ?g;k_extra "w4";(case po=>exact ⟨rfl,_,_,_,_,rfl⟩);k_extra "w5")


end
section
theorem eq_1256:True:=by
 k_with "g13"=>have offG:True:=trivial
 k_with "g14"=>have offG:True:=trivial
 k_with "g23"=>have offG:True:=trivial
 k_with "g26"=>have offG:True:=trivial
 k_with "g30"=>have offG:True:=trivial
 k_with "g35"=>have offG:True:=trivial
 k_with "g37"=>have offG:True:=trivial
 k_with "g38"=>have offG:True:=trivial
 k_with "g39"=>skip
 k_with "dl_mem"=>((fail_if_success (k_extra "g39";clear offG));first|(with_reducible first|(apply eq_260<;>assumption)|(apply eq_788<;>assumption)|(apply eq_883<;>assumption)|(apply eq_629<;>assumption)|apply eq_376|fail)|fail)
 trivial
structure Q34 (M:Model) (h:Heap) (C:Addr):Prop where
 obj:∃ oc od cd sl,h.get? C=some ⟨oc,od,.cls cd,sl⟩∧cd.hasDel=false∧cd.mro.isEmpty=false∧cd.hasDict=true
 made:Looks M h (Bind.madeBy (.ref C)) (some "list.__new__")
 base:Looks M h (Bind.staticBase (.ref C)) (.ref C)
 self:Looks M h (isSubtype (.ref C) (.ref C)) true
 top:Looks M h (isSubtype (.ref C) (.type "list")) true
 call:Looks M h (specialOf (.ref C) "__call__") (some (.builtin "type.__call__"))
 typ:Looks M h (isInstance (.ref C) (.type "type")) true
theorem eq_846 {K:Frag} {M:Model} {h:Heap} (X:K.In h) {C:Addr} {oc:Value} {od:Option Addr} {cd:ClassData} {sl:Array (Option Value)} (ho:K.lookup C=some ⟨oc,od,.cls cd,sl⟩) (e2:cd.hasDel=false) (e3:(sl.toList[4]?).join=some (.builtin "list.__new__")) (e4:cd.mro=[.ref C,.type "list",.type "object"]) (e9:cd.hasDict=true)
  (e7:specialIn K (.ref C) "__call__"=some (some (.builtin "type.__call__"))) (e8:instIn K (.ref C) (.type "type")=some true):Q34 M h C:=by
 have hc:clsIn K C=some cd:=by unfold clsIn;rw [ho]
 have hm:Looks M h (mroOf (.ref C)) cd.mro:=(looks_clsIn X hc).andThen .now
 have ne:cd.mro.isEmpty=false:=by rw [e4];rfl
 have made:Looks M h (Bind.madeBy (.ref C)) (some "list.__new__"):=by
  intro A Q E s k q
  unfold Bind.madeBy
  refine wpAny_bind (hm A _ E s k ?_)
  rw [e4,List.forIn_cons]
  refine wpAny_bind (wpAny_bind (wpAny_bind (wpAny_bind (wpAny_loadPart (k _ _ (X _ _ ho)) (wpAny_pure ?_)))))
  dsimp only
  rw [←Array.getElem?_toList,e3]
  exact wpAny_pure (wpAny_pure (wpAny_pure q))
 refine ⟨⟨oc,od,cd,sl,X _ _ ho,e2,ne,e9⟩,made,?_,looks_mroIn X ?_,looks_mroIn X ?_,looks_specialIn X e7,looks_instIn X e8⟩
 ·intro A Q E s k q
  unfold Bind.staticBase
  refine wpAny_bind (hm A _ E s k ?_)
  rw [e4,List.forIn_cons]
  exact wpAny_bind (wpAny_bind (wpAny_bind (made A _ E s k (wpAny_pure (wpAny_pure (wpAny_pure q))))))
 ·k_extra "v1r"
 ·k_extra "v1r"
theorem eq_648:builtinKind "list.__new__"=some .builtinFn:=by decide +kernel
theorem eq_670:splitId "list.__new__"=some ("list","__new__"):=by decide +kernel
theorem eq_849:Manifest.signature? "list.__new__"=some ⟨.any,"list","list",.cls,[⟨"args",.varPos,false⟩,⟨"kwargs",.varKw,false⟩]⟩:=by
 rw [PySem.signature?_of (id:="list.__new__") (n:=['_', '_', 'w', 'e', 'n', '_', '_']) (o:=['t', 's', 'i', 'l']) (by kernel_rfl) PySem.F.owner_list];kernel_rfl
theorem eq_815 (C:Addr) (v:Value):Bind.checkArgs "list.__new__" ⟨.any,"list","list",.cls,[⟨"args",.varPos,false⟩,⟨"kwargs",.varKw,false⟩]⟩ ⟨[.ref C,v],[]⟩=pure ():=by kernel_rfl
section
variable {prog:Program} {w:World} {A:Around} {K:Frag} {C:Addr} {R:Result→Shared→Prop} {h:Heap} {g:Array GenState} {d:Drawn} {t:Nat} {os:OsState}
noncomputable abbrev Q3z (C d:Addr):Obj:=⟨.ref C,some d,.seq #[] 0, #[]⟩
theorem eq_1094 {v:Value} (Y:Q34 (model prog w) h C) (hq:R (.ok (.ret (.ref (h.objs.size+1)))) ⟨(h.push emptyDict).push (Q3z C h.objs.size),g,d,t,os⟩):
  codeAny (model prog w) A (.call (.builtin "list.__new__") ⟨[.ref C,v],[]⟩) R ⟨h,g,d,t,os⟩:=by
 k_extra "v1c"
 refine codeAny_call_builtin_code (Code.quiet_builtin _ (by decide +kernel)) ?_
 simp only [checkBuiltinCall,eq_648,eq_670,eq_849]
 have here:Looks (model prog w) h (Bind.madeHere "list.__new__" (.ref C)) ():=base.andThen (made.andThen (Looks.of_pure (by simp only [Option.map_some,bne_self_eq_false,Bool.false_eq_true,if_false])))
 rw [eq_815]
 repeat (first|simp only [bne_self_eq_false,Bool.false_eq_true,if_false]|lk)
 refine codeAny_builtin_stack PySem.F.entry_list_new rfl fun p st=>?_
 have hown:=PySem.owner_list_new
 simp only [hown]
 unfold isType loadHead
 refine wpAny_bind (wpAny_bind (wpAny_loadPart hC (wpAny_pure ?_)))
 rw [if_neg (by simp)]
 refine wpAny_bind (top.at ?_)
 rw [if_neg (by simp)]
 refine wpAny_bind (wpAny_pure ?_)
 rw [if_neg (by simp [typeHasDict])]
 refine wpAny_bind (m:=newDict) (wpAny_newObj_type ?_)
 dsimp only
 k_extra "vw"
 unfold newObj
 show wpAny _ _ (newObjAsIs (.ref C) (.seq #[] 0) (some h.objs.size)) _ _ _
 unfold newObjAsIs classHasDel
 refine wpAny_bind (wpAny_alloc (wpAny_bind (wpAny_bind (wpAny_load (Heap.get?_push_of_some _ (Heap.get?_push_of_some _ hC)) (wpAny_pure ?_)))))
 rw [e2]
 refine wpAny_pure (wpAny_pure ?_)
 show R _ _
 rw [Heap.size_push]
 exact hq
theorem eq_822 {v init:Value} (Y:Q34 (model prog w) h C) (hi:Looks (model prog w) h (typeLookup (.ref C) "__init__") (some init)) (hb:∀ self,Looks (model prog w) h (bindSpecial init self) (init,[self]))
  (hq:codeAny (model prog w) (A.under (.builtin "type.__call__" ⟨[.ref C,v],[]⟩)) (.call init ⟨[.ref (h.objs.size+1),v],[]⟩) (InitBack (h.objs.size+1) R) ⟨(h.push emptyDict).push (Q3z C h.objs.size),g,d,t,os⟩):
  codeAny (model prog w) A (.call (.ref C) ⟨[v],[]⟩) R ⟨h,g,d,t,os⟩:=by
 have Y':=Y
 k_extra "v1c"
 refine codeAny_of_tree ?_
 show wpAny _ _ (callAny (.ref C) _) _ _ _
 refine nd_load hC ?_
 show wpAny _ _ (callAny.viaDunder (.ref C) _) _ _ _
 unfold callAny.viaDunder
 refine wpAny_bind (call.at ?_)
 dsimp only
 rw [tc_bind]
 refine wpAny_bind (wpAny_pure (wpAny_bind (wpAny_pure ?_)))
 refine wpAny_pure (a:=Fin.again (.call (.builtin "type.__call__") ⟨[.ref C,v],[]⟩)) (And.intro rfl ?_)
 refine codeAny_call_builtin_at (Code.quiet_builtin _ (by decide +kernel)) entry_typeCall (check_slot tc_kind tc_split typ (tc_args _ _ _) ?_)
 unfold Builtin.«type.__call__»
 have hm:Looks (model prog w) h (mroOf (.ref C)) cd.mro:=((Looks.ld (part:=none) hC).andThen .now).andThen .now
 repeat (first|simp only [e4,Bool.false_eq_true,if_false]|with_reducible refine wpAny_call ?_|lk)
 refine eq_1094 Y' ?_
 have k:∀ b o,h.get? b=some o→((h.push emptyDict).push (Q3z C h.objs.size)).get? b=some o:=fun b o e=>Heap.get?_push_of_some _ (Heap.get?_push_of_some _ e)
 have hx:((h.push emptyDict).push (Q3z C h.objs.size)).get? (h.objs.size+1)=some (Q3z C h.objs.size):=by heap_get
 have t1:Looks (model prog w) ((h.push emptyDict).push (Q3z C h.objs.size)) (typeOf (.ref (h.objs.size+1))) (.ref C):=(Looks.ld hx).andThen .now
 have s1:=self.keeps k
 have i1:=hi.keeps k
 have b1:=(hb (.ref (h.objs.size+1))).keeps k
 unfold isInstance callSpecial? specialOf
 repeat (first|with_reducible refine wpAny_call ?_|lk)
 refine codeAny_mono hq fun r s' z=>?_
 rcases r with e|(v|_|_|_)<;>first|exact z|exact z.elim|skip
 (revert z;intro zq3;(refine eq_7 (zq3) fun zq4 z=>?_;(try clear zq3);subst zq4))
 exact wpAny_pure (wpAny_pure z)
end
section
variable {A₀:Around} {s:Shared} {base h₀:Heap} {outer:List Env} {L:Addr} {m:Str→Option Value} {news:List (Addr×Obj)} {p:Program} {loose:List Str} {mean:ExcName→Option Value} {mg mb:Str→Option Value}
theorem eq_325 {dp un:Nat} {gd:Option (List Code)} {cn:Str} {cs:Scope} {a:Addr} {ccd:Value} {cl:List (Str×Addr)} (c:Code) (he:c.envs=[]):(ktrTop dp un gd cn cs L a ccd cl outer).under c=ktrTop (dp+c.weight) (un+c.cUnits) (pushGuards c.guards gd) cn cs L a ccd cl outer:=by
 unfold Around.under
 rw [he]
 rfl
theorem eq_355 (C:Addr) (vs:List Value):(Code.builtin "type.__call__" ⟨.ref C::vs,[]⟩).weight≤1:=Nat.le_of_ble_eq_true (by kernel_rfl)
theorem eq_208 (C:Addr) (vs:List Value):(Code.builtin "type.__call__" ⟨.ref C::vs,[]⟩).cUnits≤4:=Nat.le_of_ble_eq_true (by kernel_rfl)
set_option maxHeartbeats 400000 in
theorem eq_1167 {w:World} {ti:Tok} {dp un:Nat} {gd:Option (List Code)} {cn:Str} {cs:Scope} {a:Addr} {ccd:Value} {cl:List (Str×Addr)} {Q E:Value→Shared→Prop}
  (B:Below A₀ base outer h₀) (F:Fr h₀ L s.heap m) (X:(Kx w.params).In h₀) (N:News h₀ L s.heap news) (T:Top p loose mean mg mb h₀) (hk:cs.kind= .function) (hd:dp+40<recursionLimit) (hu:un+400<cLine) (ht:1≤s.toks) (hg:AllBare s.gens)
  (k:∀ x d h' tk u c g',Fr h₀ L h' m→News h₀ L h' ((x,Qg #[] 0 d)::(d,Q1d w u ti c)::news)→(∀ p∈news,p.1≠x)→(∀ p∈news,p.1≠d)→@Ne Nat x d→1≤tk→AllBare g'→Q (.ref x) ⟨h',g',s.drawn,tk,s.os⟩):
  wpAny (model PySem.Challenge.rw_xo0041_01.prog w) (ktrTop dp un gd cn cs L a ccd cl outer) (call (.ref 200) [.int 0 ti]) Q E s:=by
 revert X
 k_fill
 intro X
 have X':(Kx w.params).In s.heap:=X.keeps F.keep
 obtain ⟨hh,g,d,t,os⟩:=s
 have Y:Q34 (model PySem.Challenge.rw_xo0041_01.prog w) hh 200:=by
  refine' eq_846 X' ?h1 ?h2 ?h3 ?h4 ?h5 ?h6 ?h7
  case h1=>k_is
  case h2=>rfl
  case h3=>rfl
  case h4=>rfl
  case h5=>rfl
  case h6=>k_is
  case h7=>k_is
 have N':=(N.push F emptyDict).push (F.push _) (Q3z 200 hh.objs.size)
 rw [Heap.size_push] at N'
 have F':Fr h₀ L ((hh.push emptyDict).push (Q3z 200 hh.objs.size)) m:=(F.push _).push _
 refine wpAny_call (eq_822 (init:=.ref 137) Y (looks_findIn X' ?hi) (fun self=>bind_fn X' self ?hf) ?_)
 case hi=>k_is
 case hf=>k_is
 rw [eq_325 _ rfl]
 have w1:=eq_355 200 [.int 0 ti]
 have w2:=eq_208 200 [.int 0 ti]
 refine codeAny_mono (eq_562 w (hh.objs.size+1) hh.objs.size ti p loose mean mg mb _ _ _ cn cs a ccd cl outer A₀ base h₀ L m ⟨(hh.push emptyDict).push (Q3z 200 hh.objs.size),g,d,t,os⟩ (fun v s'=>v= .none∧Q (.ref (hh.objs.size+1)) s') E B F' X (News.sub N' fun q hq=>?_) T hk (by keq_rows) (by keq_rows) ht hg ?_) (fun r s' hr=>?_)
 ·k_extra "v2"
  ·exact .head _
  ·k_extra "v2"
   ·exact .tail _ (.head _)
   ·cases hq
 ·(intro v h' tk' own' g' F2 N2 kp kn zq5;obtain ⟨rfl,u,c,rfl⟩:=zq5;intro ht' hg')
  have lt:∀ q∈news,q.1<hh.objs.size:=fun q hq=>Heap.lt_size (N q hq).1
  refine ⟨rfl,k _ _ h' tk' u c g' F2 ?_ (fun q hq=>Nat.ne_of_lt (Nat.lt_succ_of_lt (lt q hq))) (fun q hq=>Nat.ne_of_lt (lt q hq)) (Nat.succ_ne_self _) ht' hg'⟩
  intro q hq
  k_extra "v2"
  ·exact N2 _ (.head _)
  ·k_extra "v2"
   ·exact N2 _ (.tail _ (.head _))
   ·have z:=N' q (.tail _ (.tail _ hq))
    refine ⟨kp _ _ z.1 ?_,z.2⟩
    have this:@LT.lt Nat _ q.1 hh.objs.size:=lt q hq
    intro hm
    k_extra "vf"
    rcases hm with e|e
    ·have e2:@Eq Nat q.1 (hh.objs.size+1):=e
     keq_rows
    ·have e2:@Eq Nat q.1 hh.objs.size:=e
     keq_rows
 ·rcases r with e|(v|_|_|_)<;>first|exact hr|exact hr.elim
end


end
section
theorem eq_1260:True:=by
 k_with "g39"=>have offG:True:=trivial
 k_with "g40"=>skip
 k_with "dl_mem"=>((fail_if_success (k_extra "g40";clear offG));first|(with_reducible first|apply eq_37|(apply eq_654<;>assumption)|fail)|fail)
 trivial
noncomputable abbrev SeqAt (h:Heap) (l:Addr) (items:Array Value):Prop:=∃ o n,h.get? l=some o∧o.data= .seq items n
section
variable {prog:Program} {w:World} {A:Around} {E:Value→Shared→Prop} {s:Shared}
theorem eq_1207 {it l:Addr} {i:Nat} {items:Array Value} {x:Value} {Q:Option Value→Shared→Prop} (hit:s.heap.IsListIter it l i) (hl:SeqAt s.heap l items) (hx:items[i]?=some x)
  (hQ:∀ h',h'.IsListIter it l (i+1)→Heap.SameBut it s.heap h'→Q (some x) { s with heap:=h' }):wpAny (model prog w) A (pyNext (.ref it)) Q E s:=by
 (refine eq_18 (id hit) fun o ho hc hd=>?_)
 (refine eq_14 (hl) fun ol nl hol hdl=>?_;(try clear hl))
 unfold pyNext
 refine wpAny_bind (wpAny_attempt (wpAny_callSpecial?_slot (name:=Str.ofString "__next__") hit.typeIs slot_listiter_next
  (wpAny_call_entry slot_listiter_next hit.typeIs entry_listiter_next ?_ (args_listiter_next _))))
 show wpAny _ _ (field (.ref it) 0 >>= _) _ _ s
 refine wpAny_bind (wpAny_field ho hd (x:=.ref l) rfl ?_)
 show wpAny _ _ (if (Value.ref l==Value.none)=true then _ else _) _ _ s
 k_extra "v1j"
 show wpAny _ _ (field (.ref it) 1 >>= _) _ _ s
 refine wpAny_bind (wpAny_field ho hd (x:=.int i 0) rfl ?_)
 show wpAny _ _ (seqItems? (.ref l) >>= _) _ _ s
 refine wpAny_bind (wpAny_seqItems hol hdl ?_)
 simp only [Int.toNat_natCast,hx]
 refine wpAny_bind (wpAny_setField ho hd (by simp) (wpAny_pure ⟨x,rfl,wpAny_pure (hQ _ ?_ (Heap.SameBut.update ..))⟩))
 exact ⟨_,Heap.get?_update_self _ ho (Obj.isFreed_of_fields (Obj.data_mapFields hd _)),(Obj.cls_mapFields ..).trans hc,by
  rw [Obj.data_mapFields hd];simp [rawInt]⟩
theorem eq_718 {it l:Addr} {i:Nat} {items:Array Value} {Q:Option Value→Shared→Prop} (hh:A.handled=none) (hit:s.heap.IsListIter it l i) (hl:SeqAt s.heap l items) (hx:items[i]?=none)
  (hQ:∀ h',Heap.ExtBut it s.heap h'→Q none { s with heap:=h' }):wpAny (model prog w) A (pyNext (.ref it)) Q E s:=by
 (refine eq_18 (id hit) fun o ho hc hd=>?_)
 (refine eq_14 (hl) fun ol nl hol hdl=>?_;(try clear hl))
 unfold pyNext
 refine wpAny_bind (wpAny_attempt (wpAny_callSpecial?_slot (name:=Str.ofString "__next__") hit.typeIs slot_listiter_next
  (wpAny_call_entry slot_listiter_next hit.typeIs entry_listiter_next ?_ (args_listiter_next _))))
 show wpAny _ _ (field (.ref it) 0 >>= _) _ _ s
 refine wpAny_bind (wpAny_field ho hd (x:=.ref l) rfl ?_)
 show wpAny _ _ (if (Value.ref l==Value.none)=true then _ else _) _ _ s
 k_extra "v1j"
 show wpAny _ _ (field (.ref it) 1 >>= _) _ _ s
 refine wpAny_bind (wpAny_field ho hd (x:=.int i 0) rfl ?_)
 show wpAny _ _ (seqItems? (.ref l) >>= _) _ _ s
 refine wpAny_bind (wpAny_seqItems hol hdl ?_)
 simp only [Int.toNat_natCast,hx]
 refine wpAny_bind (wpAny_rule (wpAny_bind (wpAny_setField ho hd (by simp) ?_)))
 show wpAny _ _ (newExc (.type "StopIteration") [] >>= _) _ _ _
 k_extra "vw"
 simp only [newExc,newTuple]
 refine wpAny_bind (wpAny_newObj_type ?_ (by size_fits))
 refine wpAny_bind (m:=firstArgMember _ _) (wpAny_of_eq (a:=Value.none) (by first|rfl|(simp only [firstArgMember];rfl)) ?_)
 refine wpAny_newObj_type ?_ (by size_fits)
 simp only [raiseNew]
 refine wpAny_bind (wpAny_handled ?_)
 rw [show A.in1.handled=none from hh]
 refine wpAny_bind (wpAny_pure (wpAny_throw ?_))
 refine wpAny_bind (wpAny_isInstance (T:="StopIteration") (b:=true) ⟨_,Heap.get?_push_size _ rfl,rfl⟩ isSubtype_stop ?_)
 exact wpAny_pure (hQ _ (((Heap.SameBut.update ..).extBut.push _).push _))
end
noncomputable def CAt (K:Addr) (h:Heap) (v:Value) (c:List Nat×List Nat):Prop:=∃ p t1 t2,v= .ref p∧ @LT.lt Nat _ p K∧h.get? p=some (Qh (.str (S c.1) t1) (.str (S c.2) t2))
theorem CAt.at {K:Addr} {h h':Heap} {v:Value} {c:List Nat×List Nat} (x:CAt K h v c) (k:∀ p o,@LT.lt Nat _ p K→h.get? p=some o→o.cls= .type "tuple"→h'.get? p=some o):CAt K h' v c:=
 let ⟨p,t1,t2,e,l,q⟩:=x;⟨p,t1,t2,e,l,k _ _ l q rfl⟩
theorem Fa2.put {α β:Type} {R:α→β→Prop}:∀ {as:List α} {bs:List β},Fa2 R as bs→∀ {i:Nat} {b:β},bs[i]?=some b→∃ a,as[i]?=some a∧R a b:=by
 intro as bs h
 induction h with
 |nil=>intro i a e;cases e
 |cons r _ ih=>
  intro i a e
  cases i with
  |zero=>rw [List.getElem?_cons_zero] at e;obtain rfl:=Option.some.inj e;exact ⟨_,rfl,r⟩
  |succ i=>rw [List.getElem?_cons_succ] at e;exact ih e
section
variable {prog:Program} {w:World} {A:Around}
structure Q39 (K I x:Addr) (its:Array Value) (cs:List (List Nat×List Nat)) (i:Nat) (h:Heap):Prop where
 it:h.IsListIter I x i
 seq:SeqAt h x its
 chunks:Fa2 (CAt K h) its.toList cs
theorem Q39.moved {K I x:Addr} {its:Array Value} {cs:List (List Nat×List Nat)} {i j:Nat} {h h':Heap} (S:Q39 K I x its cs i h) (hne:x≠I) (hi:h'.IsListIter I x j) (k:∀ b o,b≠I→h.get? b=some o→h'.get? b=some o):Q39 K I x its cs j h':=
 ⟨hi,let ⟨o,n,a,b⟩:=S.seq;⟨o,n,k _ _ hne a,b⟩,S.chunks.mono fun v c y=>y.at fun p o _ e hc=>k p o (fun e'=>by
  (refine Mine.eq_18 (S.it) fun oi ho hci _=>?_)
  rw [←e',e] at ho
  cases ho
  rw [hc] at hci
  simp at hci) e⟩
theorem eq_1030 (hh:A.handled=none) (K I x:Addr) (its:Array Value) (cs:List (List Nat×List Nat)) (hxI:x≠I) (hxK:@LT.lt Nat _ x K) (fp:List Addr) (hI:I∈fp) (hfp:∀ b,@LT.lt Nat _ b K→b∈fp):
  WalksU prog w A I fp [I] cs.length (fun i vals=>∃ c t1 t2,cs[i]?=some c∧vals= #[.str (S c.1) t1,.str (S c.2) t2]) (Q39 K I x its cs) (fun i T h=>Q39 K I x its cs (i+1) h∧T≠I) where
 sub:=fun b hb=>by rw [List.mem_singleton.mp hb];exact hI
 frame:=fun i h h' S k=>⟨let ⟨o,a,r⟩:=S.it;⟨o,k _ hI _ a,r⟩,let ⟨o,n,a,b⟩:=S.seq;⟨o,n,k _ (hfp _ hxK) _ a,b⟩,S.chunks.mono fun v c y=>y.at fun p o l e _=>k p (hfp p l) o e⟩
 item:=fun i s Q E hi S hQ=>by
  obtain ⟨c,hc⟩:∃ c,cs[i]?=some c:=⟨_,List.getElem?_eq_getElem hi⟩
  obtain ⟨v,hv,p,t1,t2,rfl,hp,hg⟩:=S.chunks.put hc
  have hv':its[i]?=some (.ref p):=by rw [←hv];simp
  have hpI:p≠I:=fun e=>by
   (refine eq_18 (S.it) fun oi ho hci _=>?_)
   rw [←e,hg] at ho
   cases ho
   simp at hci
  refine eq_1207 S.it S.seq hv' fun h' hi' hs=>?_
  have k:∀ b o,b≠I→s.heap.get? b=some o→h'.get? b=some o:=fun b o hb e=>(hs.2 b hb).trans e
  exact hQ p _ h' s.toks ⟨c,t1,t2,hc,rfl⟩ ⟨_,k _ _ hpI hg,rfl,_,rfl⟩ ⟨S.moved hxI hi' k,hpI⟩ fun b o hb e=>k b o (fun e'=>hb (by simp [e'])) e
 go:=fun elts k pos i T s Q E hm hQ=>wpAny_letOwnedTupleGo_listiter hm.1.it (hQ s.heap hm.1 fun _ _ _ e=>e)
 apart:=fun i T h hm=>by simp [hm.2]
 done:=fun s Q E S hQ=>by
  have hz:its[cs.length]?=none:=by
   rw [Array.getElem?_eq_none]
   have:=S.chunks.len
   rw [Array.length_toList] at this
   keq_rows
  exact eq_718 hh S.it S.seq hz fun h' hs=>hQ h' s.toks fun b o hb e=>hs b o (fun e'=>hb (by simp [e'])) e
 self:=fun i s Q E S hQ=>wpAny_pyIter_listiter S.it hQ
end


end
section
section
variable {prog:Program} {w:World} {M:Model} {A:Around} {E:Value→Shared→Prop} {s:Shared} {K:Frag} {x d L P c:Addr} {g:Heap} {m:Str→Option Value} {news:List (Addr×Obj)} {its:Array Value} {n:Nat} {od op:Obj} {p:Program} {loose:List Str} {mean:ExcName→Option Value} {mg mb:Str→Option Value}
theorem eq_1339:True:=by
 k_with "g40"=>have offG:True:=trivial
 trivial
noncomputable abbrev Q2n (x:Addr):Obj:={ cls:=.type "list_iterator",data:=.fields #[.ref x,.int 0 0] }
theorem eq_661 {Q:Value→Shared→Prop} (X:K.In s.heap) (hl:s.heap.get? x=some (Qg its n d)) (I:InstAt s.heap x (Qg its n d) 200 (some od)) (hs:findIn K (.ref 200) "__iter__"=some (some (.builtin "list.__iter__"))) (hm:mroIn K 200 (.type "list")=some true)
  (h:Q (.ref s.heap.objs.size) { s with heap:=s.heap.push (Q2n x) }):wpAny (model prog w) A (pyIter (.ref x)) Q E s:=by
 have c1:wpAny (model prog w) A (call (.builtin "list.__iter__") [.ref x]) (fun it s'=>it= .ref s.heap.objs.size∧s'={ s with heap:=s.heap.push (Q2n x) }) E s:=
  eq_68 X hl rfl hm (nm:="__iter__") (by decide +kernel) (.inr (by decide +kernel)) (by decide +kernel) entry_list_iter (args_list_iter _) (eq_1200 ⟨_,rfl,rfl,rfl⟩)
 have fin:∀ refuse:Sem Value,wpAny (model prog w) A (if (Value.builtin "list.__iter__"==Value.none)=true then (refuse >>= fun v=>pure (some v)) else (call (.builtin "list.__iter__") [.ref x] >>= fun v=>pure (some v))) (fun r s'=>r=some (.ref s.heap.objs.size)∧s'={ s with heap:=s.heap.push (Q2n x) }) E s:=fun refuse=>by
  rw [if_neg (show ¬ ((Value.builtin "list.__iter__"==Value.none)=true) from Bool.false_ne_true)]
  exact wpAny_bind (wpAny_mono c1 (fun v s' h'=>wpAny_pure ⟨congrArg some h'.1,h'.2⟩) fun _ _ z=>z)
 have hb:=slot_list_iter.bind (.ref x)
 have one:∀ refuse:Sem Value,wpAny (model prog w) A (callSpecialIfBoundUnlessNone? (.ref x) "__iter__" refuse) (fun r s'=>r=some (.ref s.heap.objs.size)∧s'={ s with heap:=s.heap.push (Q2n x) }) E s:=by
  intro refuse
  simp only [callSpecialIfBoundUnlessNone?,bindSpecialIfBound?]
  refine wpAny_holding (wpAny_bind (wpAny_bind (wpAny_bind (I.type.here ((looks_findIn X hs).here ?_)))))
  refine wpAny_bind (wpAny_askSetting (wpAny_ite ?_))
  split
  ·exact wpAny_bind (wpAny_of_eq hb (wpAny_pure (by exact fin refuse)))
  ·exact wpAny_tryCatch (wpAny_bind (wpAny_of_eq hb (wpAny_pure (by exact fin refuse))))
 unfold pyIter
 refine wpAny_bind (wpAny_bind (I.type.here ((looks_findIn X hs).here ?_)))
 show wpAny _ A (callSpecialIfBoundUnlessNone? (.ref x) "__iter__" _ >>= _) Q E s
 refine wpAny_bind (wpAny_mono (one _) (fun r s' hr=>?_) fun _ _ z=>z)
 (refine eq_7 (hr) fun zq1 zq2=>?_;(try clear hr);subst zq1;subst zq2)
 exact wpAny_bind (wpAny_specialOf (s:={ s with heap:=s.heap.push (Q2n x) }) (T:="list_iterator") ⟨_,Heap.get?_push_size _ rfl,rfl⟩ slot_listiter_next.lookup (wpAny_pure h))
noncomputable def Qz (o:Obj):Prop:=∃ ps,o={ cls:=.none,data:=.fields ps }∧TriplesOk ps.toList
theorem Qz.data {o:Obj} (h:Qz o):∃ ps,o.data= .fields ps∧TriplesOk ps.toList:=let ⟨ps,e,t⟩:=h;⟨ps,by rw [e],t⟩
theorem eq_853 {M:Model} {A:Around} {E:Value→Shared→Prop} {s:Shared} {env:Env} {c P:Addr} {ps:Array Value} {pos:Pos} {qualname:Str} {scope:Scope} {Q:Value→Shared→Prop} (hc:env.code= .ref c) (hok:s.heap.IsCode c P ps) (ht:s.heap.TableAt c P ps)
  (hQ:∀ code h' tk ps',Heap.ExtBut P s.heap h'→h'.IsCode c P ps'→h'.get? P=some { cls:=.none,data:=.fields ps' }→Q code { s with heap:=h',toks:=tk }):wpAny M A (genexprCode env pos qualname scope) Q E s:=by
 cases hnf:codeAmong pos ps.toList with
 |some cv=>exact wpAny_genexprCode_hit hc hok hnf (hQ cv s.heap s.toks ps (Heap.ExtBut.refl _ _) hok ht.2)
 |none=>exact wpAny_genexprCodeX hc hok ht hnf fun c' h' tk hx _ _ hok' _ ht' _=>hQ _ h' tk _ hx hok' ht'.2
noncomputable def Qc (h:Heap) (v:Value) (c:List Nat×List Nat):Prop:=∃ p t1 t2,v= .ref p∧h.get? p=some (Qh (.str (S c.1) t1) (.str (S c.2) t2))
theorem eq_649 (n:Nat):passing (fun _=>true) n 0=List.range n:=by unfold passing;rw [List.drop_zero];exact List.filter_eq_self.mpr fun _ _=>rfl
set_option maxHeartbeats 400000 in
theorem eq_428 {env:Env} {elt Q11:PySem.Expr} {xa xb:Str} {pa pb pt:Pos} {kt:Nat} {scope:Scope} {cl:List (Str×Addr)} {pos:Pos} {oc:Obj} {vs:Array Value} {file:Str} {tf:Tok} {flags text:Int} {tg tt:Tok} {inF:Bool} {cs:List (List Nat×List Nat)} {gg:Obj→List (Addr×Obj)} {Fv:Nat→Value→Prop} {Q:Value→Shared→Prop}
  (hh:A.handled=none) (F:Fr g L s.heap m) (N:News g L s.heap news) (X:K.In g) (T:Top p loose mean mg mb g) (G:AllBare s.gens) (ht:1≤s.toks)
  (hit:∀ Q' E':Value→Shared→Prop,Q' (.ref x) s→wpAny (model prog w) A (eval Q11 env) Q' E' s) (hx:(x,Qg its n d)∈news) (hd:(d,od)∈news) (hch:Fa2 (Qc s.heap) its.toList cs)
  (U:UpdF P op news gg) (htab:Qz op) (hcode:env.code= .ref c) (hc:K.lookup c=some oc) (hvs:oc.data= .fields vs) (hcls:oc.cls= .type "code") (v11e:vs[11]?=some (.ref P)) (v11:vs.getD 11 .none= .ref P) (v18:vs.getD 18 .none= .str file tf) (v7:vs.getD 7 .none= .int flags tg) (v9:vs.getD 9 .none= .bool inF) (v10:vs.getD 10 .none= .int text tt)
  (hgl:env.globals=mainGlobals) (hs1:findIn K (.ref 200) "__iter__"=some (some (.builtin "list.__iter__"))) (hm:mroIn K 200 (.type "list")=some true)
  (hco:scope.isCoroutine=false) (hclos:closureFor scope env=pure cl) (hcell:∀ y∈scope.names,y.2≠ .cell) (h0:scope.names.lookup (".0":Str)=some NameKind.local)
  (hxa:scope.names.lookup xa=some .local) (hxb:scope.names.lookup xb=some .local) (hab:xa≠xb) (hkind:scope.kind= .function) (hroom:A.depth<recursionLimit)
  (hs:∀ x,genFold Q11 env x=pure x)
  (helt:∀ (A':Around) (E':Value→Shared→Prop) i ch t1 t2 (t:Shared) code C m₂,A'.handled=none→cs[i]?=some ch→Fr g C t.heap m₂→m₂ xa=some (.str (S ch.1) t1)→m₂ xb=some (.str (S ch.2) t2)→
   wpAny (model prog w) A' (eval elt (genEnv scope cl C code builtinsNs env)) (fun y s₃=>Fv i y∧Keeps t s₃) E' t)
  (k:∀ a h' gs' tk op' Kb Fn,Gen prog w A Kb a cs.length Fn ⟨h',gs',s.drawn,tk,s.os⟩→(∀ j y,Fn j y→Fv j y)→L≤Kb→(∀ q∈gg op',q.1≤Kb)→Fr g L h' m→Qz op'→News g L h' (gg op')→AllBare gs'→1≤tk→Q (.ref a) ⟨h',gs',s.drawn,tk,s.os⟩):
  wpAny (model prog w) A (eval (.GeneratorExp elt [⟨.Tuple [.Name xa pa,.Name xb pb] kt pt,Q11,[],0⟩] scope pos) env) Q E s:=by
 (refine eq_23 (U.split) fun pre post zq3 hg up1 up2=>?_;subst zq3)
 (refine eq_4 (htab) fun ps hpe hps=>?_;(try clear htab))
 have hpd:op.data= .fields ps:=by rw [hpe]
 have hPm:(P,op)∈pre++(P,op)::post:=List.mem_append.mpr (.inr (.head _))
 have hP:=N _ hPm
 have hgP:∀ b o,g.get? b=some o→b≠P:=fun b o e e'=>by rw [e',hP.2.2] at e;cases e
 have hL:L<s.heap.objs.size:=F.ns.lt
 have hL':@LT.lt Nat _ L s.heap.objs.size:=hL
 refine wpAny_with_toks ht ?_
 refine wpAny_GeneratorExp_walksQT hh hco hclos hcell h0 hxa hxb hab hkind hroom (hit _ _ ?_) hs
 have hX:=X.keeps F.keep
 refine eq_661 hX (N _ hx).1 (Qg.inst N hx hd) hs1 hm ?_
 have F2:Fr g L (s.heap.push (Q2n x)) m:=F.push _
 have up:∀ b o,s.heap.get? b=some o→(s.heap.push (Q2n x)).get? b=some o:=fun b o e=>Heap.get?_push_of_some _ e
 have hcc:g.get? c=some oc:=X _ _ hc
 have hok:(s.heap.push (Q2n x)).IsCode c P ps:=⟨oc,vs,file,tf,flags,tg,inF,text,tt,op,up _ _ (F.keep _ _ hcc),hvs,v11,v18,v7,v9,v10,up _ _ hP.1,hpd,hps,hgP _ _ hcc⟩
 refine ⟨T.nolimit.keeps F2.keep,eq_853 hcode hok ⟨⟨oc,vs,up _ _ (F.keep _ _ hcc),hcls,hvs,v11e⟩,hpe▸up _ _ hP.1⟩ fun code h₃ tk₃ ps' hx₃ hok₃ htb₃=>?_⟩
 have gk:∀ b o,g.get? b=some o→h₃.get? b=some o:=fun b o e=>hx₃ b o (hgP b o e) (F2.keep b o e)
 (refine eq_29 (bmod_of_top T) fun bm ob BM=>?_)
 have M₃:BMod h₃ env.globals mg bm ob:=by rw [hgl];exact BM.keeps gk
 refine wpAny_builtinsFor M₃.ns M₃.name M₃.ne M₃.obj M₃.cls M₃.dict M₃.data ?_
 have hPI:@Ne Nat P s.heap.objs.size:=Nat.ne_of_lt (Heap.lt_size hP.1)
 have hI3:h₃.get? s.heap.objs.size=some (Q2n x):=hx₃ _ _ (fun e=>hPI e.symm) (Heap.get?_push_size _ rfl)
 have hsz:s.heap.objs.size<h₃.objs.size:=Heap.lt_size hI3
 have hxs:x<s.heap.objs.size:=Heap.lt_size (N _ hx).1
 have hnot:∀ b o,s.heap.get? b=some o→(∀ v,o.data≠ .fields v)→h₃.get? b=some o:=fun b o e hn=>hx₃ b o (fun e'=>by
  rw [e',hP.1] at e
  cases e
  exact hn _ hpd) (up _ _ e)
 have hch3:Fa2 (CAt h₃.objs.size h₃) its.toList cs:=hch.mono fun v ch y=>by
  (refine eq_26 (y) fun q t1 t2 e hq=>?_;(try clear y))
  have:=hnot _ _ hq (fun v h=>by cases h)
  exact ⟨q,t1,t2,e,Heap.lt_size this,this⟩
 have hst:Q39 h₃.objs.size s.heap.objs.size x its cs 0 h₃:=⟨⟨_,hI3,rfl,rfl⟩,⟨_,n,hnot _ _ (N _ hx).1 (fun v h=>by cases h),rfl⟩,hch3⟩
 refine ⟨s.heap.objs.size,List.range h₃.objs.size,[s.heap.objs.size],cs.length,_,_,_,(fun _=>true),Fv,rfl,
  fun A' hA=>eq_1030 hA h₃.objs.size s.heap.objs.size x its cs (Nat.ne_of_lt hxs) (Nat.lt_trans hxs hsz) _ (List.mem_range.mpr hsz) (fun b hb=>List.mem_range.mpr hb),
  fun i vals ⟨ch,t1,t2,_,e⟩=>⟨_,_,e⟩,hst,fun b hb=>List.mem_range.mp hb,T.nolimit.keeps gk,?_,fun href hhref=>⟨?_,?_⟩,fun a h₅ tk gs hgb hag hsz₅ hk₅ W hat=>?_⟩
 ·intro hm
  rw [List.mem_singleton] at hm
  (refine eq_4 (T.nolimit) fun mc hns _=>?_)
  have h1:=hns.lt
  have h2:=F.above
  rw [hm] at h1
  exact absurd (Nat.lt_of_lt_of_le h1 (Nat.le_trans h2 (Nat.le_of_lt hL))) (Nat.lt_irrefl _)
 ·intro A' E' i va vb s₂ m₂ _ _ _ _ _ _
  exact wpAny_pure ⟨rfl,_,_,rfl,fun _ _ e=>e⟩
 ·intro A' E' i va vb s₂ m₂ hA' hPt _ hns ha hb hold
  (refine eq_26 (hPt) fun ch t1 t2 hci e=>?_;(try clear hPt))
  have e1:va= .str (S ch.1) t1:=by have:=congrArg (fun z=>z[0]?) e;simpa using this
  have e2:vb= .str (S ch.2) t2:=by have:=congrArg (fun z=>z[1]?) e;simpa using this
  subst e1 e2
  refine helt A' E' i ch t1 t2 s₂ code h₃.objs.size m₂ hA' hci ⟨hns,fun b o hbo=>?_,Nat.le_trans F.above (Nat.le_trans (Nat.le_of_lt hL) (Nat.le_of_lt hsz))⟩ ha hb
  have hb3:=gk b o hbo
  refine hold b (List.mem_range.mpr (Heap.lt_size hb3)) (fun hm=>?_) o (hhref _ _ hb3)
  rw [List.mem_singleton.mp hm] at hbo
  exact absurd (Nat.lt_of_lt_of_le (Heap.lt_size hbo) (Nat.le_trans F.above (Nat.le_of_lt hL))) (Nat.lt_irrefl _)
 ·obtain ⟨_,_,_,_,_,_,_,_,_,op',_,_,_,_,_,_,_,hop',hpd',hps',_⟩:=hok₃
  have hpe':op'={ cls:=.none,data:=.fields ps' }:=by
   rw [hop'] at htb₃
   exact Option.some.inj htb₃
  rw [eq_649,List.length_range] at W
  intro htk
  refine k a h₅ _ tk op' (s.heap.objs.size-1) _ ⟨_,_,_,_,W,hat,(fun i s' st=>st.1.typeIs),List.mem_cons_self,?_,?_⟩ (fun j y hy=>?_) (Nat.le_sub_one_of_lt hL') (fun q hq=>?_) ⟨?_,fun b o e=>hk₅ _ _ (gk b o e),F.above⟩ ⟨ps',hpe',hps'⟩ ?_ (G.push hgb) htk
  ·intro b hb
   show b<h₅.objs.size
   rw [hsz₅]
   have hag':@LT.lt Nat _ h₃.objs.size a:=hag
   k_extra "v1n"
   ·exact Nat.lt_succ_self _
   ·k_extra "v1n"
    ·exact Nat.lt_succ_of_lt hag'
    ·exact Nat.lt_succ_of_lt (Nat.lt_trans (List.mem_range.mp hb) hag')
  ·intro b hb
   k_extra "v1n"
   ·exact (Nat.lt_of_le_of_lt (Nat.sub_le _ _) hsz:@LT.lt Nat _ (s.heap.objs.size-1) h₃.objs.size)
   ·rw [List.mem_singleton.mp hb]
    exact (Nat.sub_lt (Nat.lt_of_le_of_lt (Nat.zero_le _) hL') Nat.one_pos:@LT.lt Nat _ (s.heap.objs.size-1) s.heap.objs.size)
  ·(revert hy;intro zq4;(refine eq_4 (zq4) fun i hi hy=>?_;(try clear zq4)))
   obtain ⟨_,e⟩:=List.getElem?_eq_some_iff.mp hi
   rw [List.getElem_range] at e
   rw [e];exact hy
  ·have old:∀ q∈pre++(P,op)::post,@LT.lt Nat _ q.1 s.heap.objs.size:=fun q hq=>Heap.lt_size (N q hq).1
   show q.1≤s.heap.objs.size-1
   rw [hg] at hq
   k_extra "vu"
   ·exact Nat.le_sub_one_of_lt (old q (List.mem_append.mpr (.inl hq)))
   ·k_extra "v2"
    ·exact Nat.le_sub_one_of_lt (old (P,op) hPm)
    ·exact Nat.le_sub_one_of_lt (old q (List.mem_append.mpr (.inr (.tail _ hq))))
  ·(refine eq_70 (F2.ns) fun oL es ep hoL hdL r=>?_)
   exact ⟨oL,es,ep,hk₅ _ _ (hx₃ _ _ (fun e=>hP.2.1 e.symm) hoL),hdL,r⟩
  ·rw [hg]
   intro q hq
   k_extra "vu"
   ·have z:=N q (List.mem_append.mpr (.inl hq))
    exact ⟨hk₅ _ _ (hx₃ _ _ (up1 q hq) (up _ _ z.1)),z.2⟩
   ·k_extra "v2"
    ·exact ⟨hk₅ _ _ hop',hP.2⟩
    ·have z:=N q (List.mem_append.mpr (.inr (.tail _ hq)))
     exact ⟨hk₅ _ _ (hx₃ _ _ (up2 q hq) (up _ _ z.1)),z.2⟩
end


end
section
section
variable {prog:Program} {w:World} {A:Around} {E:Value→Shared→Prop} {s:Shared} {Kb L a:Addr} {g:Heap} {m:Str→Option Value} {news:List (Addr×Obj)} {n:Nat} {Fn:Nat→Value→Prop}
theorem eq_1298:True:=by
 k_with "g41"=>skip
 k_with "dl_mem"=>((fail_if_success (k_extra "g41";clear offG));first|(with_reducible first|apply eq_152|fail)|fail)
 trivial
theorem eq_1217 (a b:Value):argsOk "sum" ⟨[a,b],[]⟩:=by unfold argsOk;kernel_rfl
theorem eq_519 {x:Value} {t0:Tok} {Q:Value→Shared→Prop}
  (h:wpAny (model prog w) A.in1 (pyIter x) (fun it s₂=>∃ I fp wr G n P St val,it= .ref I∧WalksS prog w A.in1 I fp wr G n P St∧St 0 s₂∧(∀ b∈fp,b<s₂.heap.objs.size)∧
   (∀ i v,P i v→∃ t,v= .int (val i) t)∧(∀ j,j<n→InLong (val j)∧InLong (preSum val (j+1)))∧
   ∀ s' t',Moved wr G s₂ s'→Q (.int (preSum val n) t') s') E s):
  wpAny (model prog w) A (call (.builtin "sum") [x,.int 0 t0]) Q E s:=by
 refine call_function_tree PySem.F.kind_sum PySem.F.plain_sum PySem.F.entry_sum (eq_1217 _ _) ?_
 unfold Builtin.«sum»
 simp only [List.length_cons,List.length_nil]
 k_extra "v14"
 refine wpAny_bind (wpAny_of_eq (show Builtin.Builtins.bindParams "sum" ["start"] 0 ⟨[.int 0 t0],[]⟩=pure [some (.int 0 t0)] from rfl) ?_)
 refine wpAny_bind (wpAny_mono h (fun it s₂ h₂=>?_) fun _ _ e=>e)
 obtain ⟨I,fp,wr,G,n,P,St,val,rfl,W,hst,hfp,hval,hfit,hQ⟩:=h₂
 dsimp only
 refine wpAny_bind (wpAny_rule (wpAny_bind (wpAny_mkInt (wpAny_bind (wpAny_pure ?_)))))
 simp only [List.forIn_cons,List.forIn_nil]
 refine wpAny_bind (wpAny_bind (wpAny_bind (wpAny_isInstance (T:="int") (b:=false) (typeIs_int _ _ _) PySem.sub_int_str ?_)))
 k_extra "v1m"
 refine wpAny_pure (wpAny_bind (wpAny_bind (wpAny_isInstance (T:="int") (b:=false) (typeIs_int _ _ _) PySem.sub_int_bytes ?_)))
 k_extra "v1m"
 refine wpAny_pure (wpAny_bind (wpAny_bind (wpAny_isInstance (T:="int") (b:=false) (typeIs_int _ _ _) PySem.sub_int_bytearray ?_)))
 k_extra "v1m"
 refine wpAny_pure (wpAny_pure ?_)
 refine wpAny_bind (wpAny_newObj_type ?_)
 have hSf:s₂.heap.objs.size∉fp:=fun hm=>Nat.lt_irrefl _ (hfp _ hm)
 refine wpAny_pure ⟨plainId_quiet PySem.F.plain_sum_loop _,codeAny_sum_loopS W val hval hfit s₂.heap.objs.size hSf n 0 _ s₂.toks 0 rfl (Nat.zero_le _)
  (W.frame 0 s₂ _ _ hst (by first|exact Nat.le_refl _|exact Nat.le_succ _|keq_rows) fun b _ o e=>Heap.get?_push_of_some _ e) (Heap.get?_push_size _ rfl) fun s' t' hm=>?_⟩
 exact hQ s' t' (hm.drop_new (by first|exact Nat.le_refl _|exact Nat.le_succ _|keq_rows))
theorem eq_271 {s':Shared} {wr:List Addr} {gi:Nat} (N:News g L s.heap news) (hm:Moved wr (GenOnlyQ gi) s s') (hK:∀ q∈news,q.1≤Kb) (hwr:∀ b∈wr,Kb<b):News g L s'.heap news:=fun q hq=>
 ⟨hm.heap _ _ (fun hw=>absurd (Nat.lt_of_lt_of_le (hwr _ hw) (hK q hq)) (Nat.lt_irrefl _)) (N q hq).1,(N q hq).2⟩
theorem eq_546 {val:Nat→Int} {t0:Tok} {Q:Value→Shared→Prop} (X:Gen prog w A Kb a n Fn s) (hF:∀ j y,Fn j y→∃ t,y= .int (val j) t) (hfit:∀ j,j<n→InLong (val j)∧InLong (preSum val (j+1)))
  (F:Fr g L s.heap m) (N:News g L s.heap news) (G:AllBare s.gens) (hLK:L≤Kb) (hN:∀ q∈news,q.1≤Kb) (ht:1≤s.toks)
  (k:∀ t' h' gs' tk,Fr g L h' m→News g L h' news→AllBare gs'→1≤tk→Q (.int (preSum val n) t') ⟨h',gs',s.drawn,tk,s.os⟩):wpAny (model prog w) A (call (.builtin "sum") [.ref a,.int 0 t0]) Q E s:=by
 (refine eq_281 (X) fun fp wr gi St W hst _ _ hfp hwr=>?_;(try clear X))
 have W:=W.in4_1
 refine eq_519 (W.self 0 _ _ _ hst ⟨a,_,_,_,_,_,_,val,rfl,W,hst,hfp,hF,hfit,fun s' t' hm=>?_⟩)
 have e:s'=⟨s'.heap,s'.gens,s.drawn,s'.toks,s.os⟩:=by
  obtain ⟨h',g',d',tk',os'⟩:=s'
  have h1:d'=s.drawn:=hm.drawn
  have h2:os'=s.os:=hm.os
  rw [h1,h2]
 rw [e]
 exact k t' s'.heap s'.gens s'.toks (F.moved hm fun b hb=>Nat.lt_of_le_of_lt hLK (hwr b hb)) (eq_271 N hm hN hwr) (G.movedS hm) (Nat.le_trans ht hm.toks)
theorem eq_833 {sep:Str} {t0:Tok} {tx:Nat→Str} {Q:Value→Shared→Prop} (X:Gen prog w A Kb a n Fn s) (hF:∀ j y,Fn j y→∃ t,y= .str (tx j) t) (hok:JoinOk sep ((List.range n).map tx)=true) (hsz:n≤sizeLine)
  (F:Fr g L s.heap m) (N:News g L s.heap news) (G:AllBare s.gens) (hLK:L≤Kb) (hN:∀ q∈news,q.1≤Kb) (ht:1≤s.toks)
  (k:∀ t' h' gs' tk,Fr g L h' m→News g L h' news→AllBare gs'→1≤tk→Q (.str (Txt.join sep ((List.range n).map tx)) t') ⟨h',gs',s.drawn,tk,s.os⟩):wpAny (model prog w) A (call (.builtin "str.join") [.str sep t0,.ref a]) Q E s:=by
 (refine eq_281 (X) fun fp wr gi St W hst hT ha hfp hwr=>?_;(try clear X))
 have W:=W.in4_2
 refine wpAny_with_toks ht ?_
 refine SC.joinGen W hT hst hfp ha (fun j v hv=>let ⟨u,e⟩:=hF j v hv;⟨_,u,e⟩) (fun s' lt hm hacc=>?_) hsz
 have hl:lt.map (·.1)=(List.range n).map tx:=by
  apply List.ext_getElem?
  intro j
  have hln:lt.length=n:=by simpa [strValues] using hacc.1
  by_cases hj:j<n
  ·have hj':j<lt.length:=hln▸hj
   (refine eq_5 (hF j _ (hacc.2 j (.str lt[j].1 lt[j].2) (by simp [strValues,List.getElem?_eq_getElem hj']))) fun u hv=>?_)
   injection hv with h1 _
   simp [List.getElem?_eq_getElem hj',hj,h1]
  ·rw [List.getElem?_eq_none (by simpa [hln] using Nat.le_of_not_lt hj),List.getElem?_eq_none (by simpa using Nat.le_of_not_lt hj)]
 rw [hl]
 refine ⟨hok,fun t' tk htk=>?_⟩
 have e:({ s' with toks:=tk }:Shared)=⟨s'.heap,s'.gens,s.drawn,tk,s.os⟩:=by
  obtain ⟨h',g',d',tk',os'⟩:=s'
  have h1:d'=s.drawn:=hm.drawn
  have h2:os'=s.os:=hm.os
  rw [h1,h2]
 rw [e]
 exact k t' s'.heap s'.gens tk (F.moved hm fun b hb=>Nat.lt_of_le_of_lt hLK (hwr b hb)) (eq_271 N hm hN hwr) (G.movedS hm) htk
end


end
section
theorem eq_1240:True:=by
 k_with "g41"=>have offG:True:=trivial
 k_with "g42"=>skip
 k_with "dl_mem"=>((fail_if_success (k_extra "g42";clear offG));first|(with_reducible first|(apply eq_998<;>assumption)|apply eq_499|apply eq_196|(apply eq_1123<;>assumption)|(apply eq_1052<;>assumption)|(apply eq_739<;>assumption)|(apply eq_687<;>assumption)|(apply eq_198<;>assumption)|(apply eq_743<;>assumption)|(apply eq_750<;>assumption)|fail)|fail)
 trivial
noncomputable def CtQ (w:World) (lv:Nat) (f:Addr) (vs:List Value) (own:List (Addr×Obj)) (pre:Heap→Prop) (post:Value→List (Addr×Obj)→Prop):Prop:=
 ∀ (p:Program) (loose:List Str) (mean:ExcName→Option Value) (mg mb:Str→Option Value) (dp un:Nat) (gd:Option (List Code)) (cn:Str) (cs:Scope) (a:Addr) (ccd:Value) (cl:List (Str×Addr)) (outer:List Env) (A₀:Around) (base h₀:Heap) (L:Addr) (m:Str→Option Value) (s:Shared) (Q E:Value→Shared→Prop),
  Below A₀ base outer h₀→Fr h₀ L s.heap m→(Kx w.params).In h₀→News h₀ L s.heap own→Top p loose mean mg mb h₀→cs.kind= .function→dp+20*lv<recursionLimit→un+200*lv<cLine→1≤s.toks→AllBare s.gens→pre s.heap→
  (∀ v h' tk' own' g',Fr h₀ L h' m→News h₀ L h' own'→(∀ b o,s.heap.get? b=some o→b∉own.map (·.1)→h'.get? b=some o)→(∀ p∈own',p.1∉own.map (·.1)→s.heap.get? p.1=none)→post v own'→1≤tk'→AllBare g'→Q v ⟨h',g',s.drawn,tk',s.os⟩)→
   wpAny (model PySem.Challenge.rw_xo0041_01.prog w) (ktrTop dp un gd cn cs L a ccd cl outer) (call (.ref f) vs) Q E s
theorem Gen.later {prog:Program} {w:World} {A:Around} {Kb a:Addr} {n:Nat} {Fn:Nat→Value→Prop} {h:Heap} {g:Array GenState} {d:Drawn} {t t':Nat} {o:OsState} (X:Gen prog w A Kb a n Fn ⟨h,g,d,t,o⟩) (ht:t≤t'):Gen prog w A Kb a n Fn ⟨h,g,d,t',o⟩:=
 by obtain ⟨fp,wr,gi,St,W,h1,h2⟩:=X;exact ⟨fp,wr,gi,St,W,W.frame 0 _ h t' h1 ht fun _ _ _ e=>e,h2⟩
theorem eq_34 {h₀ h g:Heap} {L:Addr} {own:List (Addr×Obj)} {vs:List Value} {cs:List (List Nat×List Nat)} (N:News h₀ L h own) (hno:∀ q∈own,∀ x y,q.2≠Qh x y) (kp:∀ b o,h.get? b=some o→b∉own.map (·.1)→g.get? b=some o) (x:Fa2 (Qc h) vs cs):Fa2 (Qc g) vs cs:=
 x.mono fun v c y=>by
  (refine eq_26 (y) fun p t1 t2 e hp=>?_;(try clear y))
  refine ⟨p,t1,t2,e,kp _ _ hp fun hm=>?_⟩
  (refine eq_4 (List.mem_map.mp hm) fun q hq e'=>?_)
  have:=(N q hq).1
  rw [e',hp] at this
  exact hno q hq _ _ (Option.some.inj this).symm
theorem eq_254 {w:World} {AA DD P:Addr} {its:Array Value} {n c:Nat} {u t0:Tok} {op:Obj} (ht:Qz op):∀ q∈[(AA,Qg its n DD),(DD,Q1d w u t0 c),(P,op)],∀ x y,q.2≠Qh x y:=by
 intro q hq x y e
 (refine eq_4 (ht.data) fun ps hps _=>?_)
 k_extra "v2"
 ·cases e
 ·k_extra "v2"
  ·k_extra "v1d"
  ·k_extra "v2"
   ·have e':op=Qh x y:=e
    rw [e'] at hps
    cases hps
   ·cases hq
noncomputable def Q8 (cs:List (List Nat×List Nat)):Nat:=(cs.map fun c=>c.1.length+c.2.length).sum
section
variable {prog:Program} {w:World} {M:Model} {A:Around} {E:Value→Shared→Prop} {s:Shared} {C:Addr} {g:Heap} {m:Str→Option Value} {scope:Scope} {cl:List (Str×Addr)} {code:Value} {env:Env} {x:Str} {pos:Pos} {K:Frag} {p:Program} {loose:List Str} {mean:ExcName→Option Value} {mg mb:Str→Option Value}
theorem eq_476 {v:Value} {Q:Value→Shared→Prop} (F:Fr g C s.heap m) (X:K.In g) (T:Top p loose mean mg mb g) (hgl:env.globals=mainGlobals) (e:nsIn K mainGlobals x=some none) (hb:bootBuiltins x=some v) (hne:x≠"__name__") (h:Q v s)
  (hk:scope.kind= .function:=by rfl) (hl:(genEnv scope cl C code builtinsNs env).kindOf x=some .globalImplicit:=by rfl) (hd:(x==("__debug__":Str))=false:=by decide):wpAny M A (eval (.Name x pos) (genEnv scope cl C code builtinsNs env)) Q E s:=by
 k_extra "v18"
 have hg:(genEnv scope cl C code builtinsNs env).globals=mainGlobals:=hgl
 exact loadGlobal_builtin (mg:=mg) (mb:=mb) (by rw [hg];exact T.g.keeps F.keep) (mg_none_of X T.g e) (T.b.keeps F.keep) ((T.builtins _ hne).trans hb) h
theorem eq_1195 {v:Value} {Q:Value→Shared→Prop} (F:Fr g C s.heap m) (X:K.In g) (T:Top p loose mean mg mb g) (hgl:env.globals=mainGlobals) (e:nsIn K mainGlobals x=some (some v)) (h:Q v s)
  (hk:scope.kind= .function:=by rfl) (hl:(genEnv scope cl C code builtinsNs env).kindOf x=some .globalImplicit:=by rfl) (hd:(x==("__debug__":Str))=false:=by decide):wpAny M A (eval (.Name x pos) (genEnv scope cl C code builtinsNs env)) Q E s:=by
 k_extra "v18"
 have hg:(genEnv scope cl C code builtinsNs env).globals=mainGlobals:=hgl
 exact Calls.loadGlobal_global (env:=genEnv scope cl C code builtinsNs env) (by rw [hg];exact T.g.keeps F.keep) (mg_of X T.g e) h
theorem eq_677 {l:List Nat} {t:Tok} {Q:Value→Shared→Prop} (hz:l.length≤16777216) (h:∀ t' tk,Q (.int (l.length:Nat) t') { s with toks:=tk }):wpAny (model prog w) A (call (.builtin "len") [.str (S l) t]) Q E s:=
 PyProof.Rows.len_str (by rw [eq_9];keq_rows) (by rw [eq_9];exact h _ _)
theorem eq_335:∀ (cs:List (List Nat×List Nat)) (n:Nat),n≤cs.length→preSum (fun j=>(((cs.getD j ([],[])).1.length+(cs.getD j ([],[])).2.length:Nat):Int)) n=((Q8 (cs.take n):Nat):Int):=by
 intro cs n
 induction n with
 |zero=>intro _;rfl
 |succ n ih=>
  intro h
  have e:cs.take (n+1)=cs.take n++[cs.getD n ([],[])]:=by
   rw [List.take_add_one,List.getElem?_eq_getElem (by keq_rows)]
   simp [List.getD,List.getElem?_eq_getElem (show n<cs.length by keq_rows)]
  show preSum _ n+_=_
  rw [ih (by keq_rows),e]
  unfold Q8
  k_extra "v22"
  simp
theorem eq_1108 (cs:List (List Nat×List Nat)) (h:∀ c∈cs,c.1.length≤200000∧c.2.length≤200000) (n:Nat):Q8 (cs.take n)≤400000*cs.length:=by
 have:∀ l:List (List Nat×List Nat),(∀ c∈l,c.1.length≤200000∧c.2.length≤200000)→Q8 l≤400000*l.length:=by
  intro l
  induction l with
  |nil=>intro _;exact Nat.le_refl _
  |cons c r ih=>
   intro hc
   have h1:=hc c (List.mem_cons_self ..)
   have h2:=ih fun d hd=>hc d (List.mem_cons_of_mem _ hd)
   have e:Q8 (c::r)=c.1.length+c.2.length+Q8 r:=by simp [Q8]
   rw [e,List.length_cons]
   keq_rows
 have h1:=this (cs.take n) fun c hc=>h c (List.mem_of_mem_take hc)
 have h2:(cs.take n).length≤cs.length:=List.length_take_le' n cs
 have:=Nat.mul_le_mul_left 400000 h2
 keq_rows
end
theorem eq_15 {h₀ h:Heap} {L a P:Addr} {o op:Obj} {news:List (Addr×Obj)} (N:News h₀ L h news) (h1:(a,o)∈news) (h2:(P,op)∈news) (ht:Qz op) (hd:∀ vs,o.data≠ .fields vs):@Ne Nat a P:=fun e=>by
 have x:=(N _ h1).1
 have y:=(N _ h2).1
 dsimp only at x y
 rw [show a=P from e,y] at x
 (refine eq_4 (ht.data) fun ps hps _=>?_)
 exact hd ps (by rw [←Option.some.inj x];exact hps)
set_option maxHeartbeats 400000
theorem eq_1317:True:=by
 k_with "g23"=>skip
 k_with "g25"=>skip
 k_with "g43"=>skip
 k_with "eval GeneratorExp"=>((fail_if_success (k_extra "g43";clear offG));k_here;refine halt ?_)
 k_with "g44"=>skip
 k_with "call builtin:sum"=>((fail_if_success (k_extra "g44";clear offG));k_here;refine halt ?_)
 k_with "g13"=>skip
 k_with "g14"=>skip
 k_with "eval Name"=>((fail_if_success (k_extra "g43";clear offG));k_here;k_dflt (refine' ldVarG (by k_asm) (by with_reducible assumption) ?_))
 k_with "eval Name"=>((fail_if_success (k_extra "g42";clear offG));k_here;k_dflt (refine' eq_476 (by k_asm) (by k_asm) (by k_asm) (by first|rfl|fail) (by k_is) (by first|(first|boot_by_name|rfl|kernel_rfl)|fail) (by decide) ?_))
 k_with "call builtin:len"=>((fail_if_success (k_extra "g42";clear offG));k_here;(with_reducible show wpAny _ _ (call _ [Value.str (S _) _]) _ _ _);k_dflt (refine' eq_677 (by first|keq_rows|fail) ?_);intro t8ω k8ω)
 trivial
theorem eq_157 (w:World) (AA DD:Addr) (its:Array Value) (n:Nat) (u t0:Tok) (c:Nat) (op:Obj) (chs:List (List Nat×List Nat)) (htb:Qz op) (hz:chs.length≤20000) (hz2:∀ c∈chs,c.1.length≤200000∧c.2.length≤200000):
  CtQ w 1 167 [.ref AA] [(AA,Qg its n DD),(DD,Q1d w u t0 c),(162,op)] (fun h=>Fa2 (Qc h) its.toList chs) (fun v own=>(∃ t,v= .int (Q8 chs:Nat) t)∧∃ op',Qz op'∧own=[(AA,Qg its n DD),(DD,Q1d w u t0 c),(162,op')]):=by
 k_extra "w8"
 k_extra "v9"
 have hAD:=eq_28 N1 (.head _) (.tail _ (.head _))
 have hch:=eq_34 N (eq_254 htb) kp hpre
 have hch:Fa2 (Qc h1) its.toList chs:=hch.mono fun v c y=>by
  (refine eq_26 (y) fun p t1 t2 e hp=>?_;(try clear y))
  exact ⟨p,t1,t2,e,F1.keep _ _ hp⟩
 k_steps
 unfold Q18
 have hAP:=eq_15 N1 (.head _) (.tail _ (.tail _ (.head _))) htb (by simp)
 have hDP:=eq_15 N1 (.tail _ (.head _)) (.tail _ (.tail _ (.head _))) htb (by simp)
 refine' eq_428 (K:=Kx w.params) (P:=162) (Fv:=fun i y=>∃ t,y= .int (((chs.getD i ([],[])).1.length+(chs.getD i ([],[])).2.length:Nat):Int) t) ?hh ?F ?N ?X ?T ?G ?ht ?hit ?hx ?hd ?hch ?U ?htab ?hcode ?hc ?hvs ?hcls ?v11e ?v11 ?v18 ?v7 ?v9 ?v10 ?hgl ?hs1 ?hm ?hco ?hclos ?hcell ?h0 ?hxa ?hxb ?hab ?hkind ?hroom ?hs ?helt ?_
 case hh=>rfl
 case F=>k_asm
 case N=>k_asm
 case X=>k_asm
 case T=>k_asm
 case G=>assumption
 case ht=>k_extra "t"
 case hit=>exact fun Q' E' q=>ld F1 rfl q
 case hx=>k_mem
 case hd=>k_mem
 case hch=>exact hch
 case U=>k_updF
 case htab=>exact htb
 case hcode=>rfl
 case hc=>k_is
 case hvs=>rfl
 case hcls=>rfl
 case v11e=>rfl
 case v11=>rfl
 case v18=>rfl
 case v7=>rfl
 case v9=>rfl
 case v10=>rfl
 case hgl=>rfl
 case hs1=>k_is
 case hm=>k_is
 case hco=>rfl
 case hclos=>rfl
 case hcell=>decide
 case h0=>rfl
 case hxa=>rfl
 case hxb=>rfl
 case hab=>decide
 case hkind=>rfl
 case hroom=>(try dsimp only [ktrTop]);simp only [depth_deeper];keq_rows
 case hs=>intro x;rfl
 case helt=>
  intro A' E' i ch t1 t2 t code C m₂ hA hci F2 ha hb
  have hl:=hz2 ch (List.mem_of_getElem? hci)
  have hl1:=hl.1
  have hl2:=hl.2
  have hgd:chs.getD i ([],[])=ch:=by simp [List.getD,hci]
  rw [hgd]
  k_steps
  all_goals exact ⟨_,_,rfl,fun _ _ e=>e⟩
 intro aG hG gsG tkG op' Kb Fn XG hFn hLK hNK FG2 hop' NG GG htG
 k_steps
 unfold Q18
 refine eq_546 (val:=fun j=>(((chs.getD j ([],[])).1.length+(chs.getD j ([],[])).2.length:Nat):Int)) (Gen.later XG (Nat.le_succ _)) hFn ?_ FG2 NG GG hLK hNK (by k_extra "t") ?_
 ·intro j hj
  have b1:((chs.getD j ([],[])).1.length+(chs.getD j ([],[])).2.length)≤400000:=by
   have hm:=hz2 _ (List.getElem_mem hj)
   simp only [List.getD,List.getElem?_eq_getElem hj,Option.getD_some]
   keq_rows
  have b2:=eq_1108 chs hz2 (j+1)
  rw [eq_335 chs (j+1) hj]
  refine ⟨⟨?_,?_⟩,⟨?_,?_⟩⟩<;>keq_rows
 ·intro t' hS gsS tkS FS NS GS htS
  rw [eq_335 chs chs.length (Nat.le_refl _),List.take_length]
  k_steps
  k_extra "v6"


end
section
theorem eq_1315:True:=by
 k_with "g25"=>have offG:True:=trivial
 k_with "g42"=>have offG:True:=trivial
 k_with "g44"=>have offG:True:=trivial
 k_with "g45"=>skip
 k_with "dl_mem"=>((fail_if_success (k_extra "g45";clear offG));first|(with_reducible first|(apply eq_1236<;>assumption)|(apply eq_1023<;>assumption)|(apply eq_841<;>assumption)|fail)|fail)
 trivial
noncomputable def Qd (cs:List (List Nat×List Nat)):List Nat:=cs.flatMap fun c=>c.1++c.2
theorem eq_83 (cs:List (List Nat×List Nat)):(Qd cs).length=Q8 cs:=by
 induction cs with
 |nil=>rfl
 |cons c r ih=>
  have e:Qd (c::r)=c.1++c.2++Qd r:=rfl
  have e2:Q8 (c::r)=c.1.length+c.2.length+Q8 r:=by simp [Q8]
  rw [e,e2,List.length_append,List.length_append,ih]
theorem eq_162:∀ ls:List (List Nat),PySem.Str.join (S []) (ls.map S)=S ls.flatten
 |[]=>rfl
 |[a]=>by show S a=_;simp
 |a::b::r=>by
  have ih:=eq_162 (b::r)
  show S a++S []++PySem.Str.join (S []) ((b::r).map S)=_
  rw [ih,eq_45,eq_45]
  simp
theorem eq_71:Str.ofString ""=S []:=by decide +kernel
section
variable {prog:Program} {w:World} {A:Around} {E:Value→Shared→Prop} {s:Shared} {D:Addr}
theorem eq_524 {M:Model} {vs:List Value} {Q:Value→Shared→Prop} (h:Q (.ref s.heap.objs.size) { s with heap:=s.heap.push { cls:=.type "tuple",data:=.seq vs.toArray } }) (hsz:vs.length≤1000):wpAny M A (newTuple vs) Q E s:=by
 unfold newTuple
 exact wpAny_newObj_type h (by show vs.toArray.size≤sizeLine;rw [sizeLine_eq];simp;keq_rows)
theorem eq_936 {a b:List Nat} {t1 t2 t:Tok} {Q:Value→Shared→Prop} (hl:IsTup s.heap D #[.str (S a) t1,.str (S b) t2]) (hz:a.length+b.length≤10000000) (h:∀ t' k,Q (.str (S (a++b)) t') { s with toks:=k }):
  wpAny (model prog w) A (call (.builtin "str.join") [.str (Str.ofString "") t,.ref D]) Q E s:=by
 refine join_tupleC (ys:=[S a,S b]) hl (.cons _ _ (.cons _ _ .nil)) (by decide) (by simp only [List.map_cons,List.map_nil,List.sum_cons,List.sum_nil,List.length_cons,List.length_nil,eq_9];keq_rows) fun t' k=>?_
 have e:Txt.join (Str.ofString "") [S a,S b]=S (a++b):=by
  have:=eq_162 [a,b]
  rw [eq_71]
  refine this.trans ?_
  simp
 rw [e]
 exact h t' k
end
theorem eq_924 (cs:List (List Nat×List Nat)):((cs.map fun c=>S (c.1++c.2)).map (·.length)).sum=Q8 cs:=by
 unfold Q8
 rw [List.map_map]
 congr 1
 apply List.map_congr_left
 intro c _
 show (S (c.1++c.2)).length=_
 rw [eq_9,List.length_append]
theorem eq_359 (chs:List (List Nat×List Nat)):(List.range chs.length).map (fun j=>S ((chs.getD j ([],[])).1++(chs.getD j ([],[])).2))=chs.map fun c=>S (c.1++c.2):=by
 apply List.ext_getElem
 ·simp
 ·intro i h1 h2
  simp only [List.getElem_map,List.getElem_range]
  rw [List.length_map] at h2
  simp [List.getD,List.getElem?_eq_getElem h2]
set_option maxHeartbeats 400000
theorem eq_1280:True:=by
 k_with "g46"=>skip
 k_with "call builtin:str.join"=>((fail_if_success (k_extra "g46";clear offG));k_here;refine halt ?_)
 k_with "eval Name"=>((fail_if_success (k_extra "g45";clear offG));k_here;k_dflt (refine' eq_1195 (by k_asm) (by k_asm) (by k_asm) (by first|rfl|fail) (by k_is) ?_))
 k_with "newTuple"=>((fail_if_success (k_extra "g45";clear offG));k_here;k_dflt (refine' eq_524 ?_ (by first|exact Nat.le_of_ble_eq_true rfl|fail)))
 trivial
theorem eq_161 (w:World) (AA DD:Addr) (its:Array Value) (n:Nat) (u t0:Tok) (c:Nat) (op:Obj) (chs:List (List Nat×List Nat)) (htb:Qz op) (hz:chs.length≤20000) (hz2:∀ c∈chs,c.1.length≤200000∧c.2.length≤200000) (hz3:Q8 chs≤1000000):
  CtQ w 1 174 [.ref AA] [(AA,Qg its n DD),(DD,Q1d w u t0 c),(169,op)] (fun h=>Fa2 (Qc h) its.toList chs) (fun v own=>(∃ t,v= .str (S (Qd chs)) t)∧∃ op',Qz op'∧own=[(AA,Qg its n DD),(DD,Q1d w u t0 c),(169,op')]):=by
 k_extra "w8"
 k_extra "v9"
 have hAD:=eq_28 N1 (.head _) (.tail _ (.head _))
 have hch:=eq_34 N (eq_254 htb) kp hpre
 have hch:Fa2 (Qc h1) its.toList chs:=hch.mono fun v c y=>by
  (refine eq_26 (y) fun p t1 t2 e hp=>?_;(try clear y))
  exact ⟨p,t1,t2,e,F1.keep _ _ hp⟩
 k_steps
 unfold Q18
 have hAP:=eq_15 N1 (.head _) (.tail _ (.tail _ (.head _))) htb (by simp)
 have hDP:=eq_15 N1 (.tail _ (.head _)) (.tail _ (.tail _ (.head _))) htb (by simp)
 refine' eq_428 (K:=Kx w.params) (P:=169) (Fv:=fun i y=>∃ t,y= .str (S ((chs.getD i ([],[])).1++(chs.getD i ([],[])).2)) t) ?hh ?F ?N ?X ?T ?G ?ht ?hit ?hx ?hd ?hch ?U ?htab ?hcode ?hc ?hvs ?hcls ?v11e ?v11 ?v18 ?v7 ?v9 ?v10 ?hgl ?hs1 ?hm ?hco ?hclos ?hcell ?h0 ?hxa ?hxb ?hab ?hkind ?hroom ?hs ?helt ?_
 case hh=>rfl
 case F=>k_asm
 case N=>k_asm
 case X=>k_asm
 case T=>k_asm
 case G=>assumption
 case ht=>k_extra "t"
 case hit=>exact fun Q' E' q=>ld F1 rfl q
 case hx=>k_mem
 case hd=>k_mem
 case hch=>exact hch
 case U=>k_updF
 case htab=>exact htb
 case hcode=>rfl
 case hc=>k_is
 case hvs=>rfl
 case hcls=>rfl
 case v11e=>rfl
 case v11=>rfl
 case v18=>rfl
 case v7=>rfl
 case v9=>rfl
 case v10=>rfl
 case hgl=>rfl
 case hs1=>k_is
 case hm=>k_is
 case hco=>rfl
 case hclos=>rfl
 case hcell=>decide
 case h0=>rfl
 case hxa=>rfl
 case hxb=>rfl
 case hab=>decide
 case hkind=>rfl
 case hroom=>(try dsimp only [ktrTop]);simp only [depth_deeper];keq_rows
 case hs=>intro x;rfl
 case helt=>
  intro A' E' i ch t1 t2 t code C m₂ hA hci F2 ha hb
  have hl:=hz2 ch (List.mem_of_getElem? hci)
  have hgd:chs.getD i ([],[])=ch:=by simp [List.getD,hci]
  rw [hgd]
  have NC:News g C t.heap []:=fun _ h=>nomatch h
  k_steps
  unfold Q18
  refine eq_936 ⟨_,Heap.get?_push_size _ rfl,rfl,_,rfl⟩ (by keq_rows) fun t' k=>?_
  exact ⟨⟨_,rfl⟩,_,_,rfl,fun _ _ e=>Heap.get?_push_of_some _ e⟩
 intro aG hG gsG tkG op' Kb Fn XG hFn hLK hNK FG2 hop' NG GG htG
 k_steps
 unfold Q18
 refine eq_833 XG hFn ?_ (by rw [sizeLine_eq];keq_rows) FG2 NG GG hLK hNK (by k_extra "t") ?_
 ·rw [eq_359]
  unfold JoinOk
  rw [PySem.StrLaws.joinTotal,eq_924]
  have:(Str.ofString "").length=0:=by decide +kernel
  rw [this]
  unfold Builtin.Str.tooLong
  rw [sizeLine_eq,Bool.not_eq_true']
  k_extra "v26"
 ·intro t' hS gsS tkS FS NS GS htS
  have e:Txt.join (Str.ofString "") ((List.range chs.length).map (fun j=>S ((chs.getD j ([],[])).1++(chs.getD j ([],[])).2)))=S (Qd chs):=by
   rw [eq_359,eq_71]
   have h:=eq_162 (chs.map fun c=>c.1++c.2)
   rw [List.map_map] at h
   have h2:PySem.Str.join (S []) (chs.map fun c=>S (c.1++c.2))=S (Qd chs):=by
    refine Eq.trans h ?_
    unfold Qd
    rw [List.flatMap_def]
   exact (eq_of_beq (join_plain_closes _ _)).trans h2
  rw [e]
  k_steps
  k_extra "v6"


end
section
theorem eq_1345:True:=by
 k_with "g14"=>have offG:True:=trivial
 k_with "g43"=>have offG:True:=trivial
 k_with "g45"=>have offG:True:=trivial
 k_with "g46"=>have offG:True:=trivial
 k_with "g47"=>skip
 k_with "dl_mem"=>((fail_if_success (k_extra "g47";clear offG));first|(with_reducible first|(apply eq_182<;>assumption)|(apply eq_75<;>assumption)|apply eq_126|(apply eq_424<;>assumption)|(apply eq_392<;>assumption)|(apply eq_166<;>assumption)|(apply eq_211<;>assumption)|(apply eq_125<;>assumption)|(apply eq_332<;>assumption)|(apply eq_1190<;>assumption)|(apply eq_278<;>assumption)|fail)|(apply eq_424<;>assumption)|(apply eq_75<;>assumption)|(apply eq_332<;>assumption)|(apply eq_211<;>assumption)|(with_reducible apply eq_182;rotate_left;all_goals assumption)|(apply eq_182<;>assumption)|(apply eq_392<;>assumption)|fail)
 trivial
theorem eq_52 {g h:Heap} {L:Addr} {m:Str→Option Value} {vs:List Value} {cs:List (List Nat×List Nat)} (F:Fr g L h m) (x:Fa2 (Qc g) vs cs):Fa2 (Qc h) vs cs:=x.mono fun v c y=>by
 (refine eq_26 (y) fun p t1 t2 e hp=>?_;(try clear y))
 exact ⟨p,t1,t2,e,F.keep _ _ hp⟩
theorem eq_415 {w:World} {AA DD P1 P2:Addr} {its:Array Value} {n c:Nat} {u t0:Tok} {op1 op2:Obj} (h1:Qz op1) (h2:Qz op2):∀ q∈[(AA,Qg its n DD),(DD,Q1d w u t0 c),(P1,op1),(P2,op2)],∀ x y,q.2≠Qh x y:=by
 intro q hq x y e
 k_extra "v2"
 ·cases e
 ·k_extra "v2"
  ·k_extra "v1d"
  ·k_extra "v2"
   ·(refine eq_4 (h1.data) fun ps hps _=>?_)
    have e':op1=Qh x y:=e
    rw [e'] at hps
    cases hps
   ·k_extra "v2"
    ·(refine eq_4 (h2.data) fun ps hps _=>?_)
     have e':op2=Qh x y:=e
     rw [e'] at hps
     cases hps
    ·cases hq
section
variable {A₀:Around} {s:Shared} {base h₀:Heap} {outer:List Env} {L:Addr} {m:Str→Option Value} {news:List (Addr×Obj)} {p:Program} {loose:List Str} {mean:ExcName→Option Value} {mg mb:Str→Option Value}
theorem eq_24 {w:World} {lv:Nat} {f:Addr} {vs:List Value} {own rest:List (Addr×Obj)} {pre:Heap→Prop} {post:Value→List (Addr×Obj)→Prop} {dp un:Nat} {gd:Option (List Code)} {cn:Str} {cs:Scope} {a:Addr} {ccd:Value} {cl:List (Str×Addr)} {Q E:Value→Shared→Prop}
  (C:CtQ w lv f vs own pre post) (B:Below A₀ base outer h₀) (F:Fr h₀ L s.heap m) (X:(Kx w.params).In h₀) (N:News h₀ L s.heap news) (P:Q23 own news rest) (hr:∀ q∈own,∀ p∈rest,p.1≠q.1) (hpre:pre s.heap) (T:Top p loose mean mg mb h₀) (hk:cs.kind= .function) (hd:dp+20*lv<recursionLimit) (hu:un+200*lv<cLine) (ht:1≤s.toks) (hg:AllBare s.gens)
  (k:∀ v h' tk' own' g',Fr h₀ L h' m→News h₀ L h' (own'++rest)→(∀ p∈own',p.1∉own.map (·.1)→Q27 p.1 news)→post v own'→1≤tk'→AllBare g'→Q v ⟨h',g',s.drawn,tk',s.os⟩):
  wpAny (model PySem.Challenge.rw_xo0041_01.prog w) (ktrTop dp un gd cn cs L a ccd cl outer) (call (.ref f) vs) Q E s:=by
 have hown:=P.mem.1
 have hrest:∀ p∈rest,p∈news∧p.1∉own.map (·.1):=fun p hp=>⟨P.mem.2 p hp,fun h=>by (refine eq_4 (List.mem_map.mp h) fun q hq e=>?_);exact hr q hq p hp e.symm⟩
 exact C p loose mean mg mb dp un gd cn cs a ccd cl outer A₀ base h₀ L m s Q E B F X (fun p hp=>N p (hown p hp)) T hk hd hu ht hg hpre
  fun v h' tk' own' g' F' N' kp kn po htk hg'=>k v h' tk' own' g' F' (fun p hp=>(List.mem_append.mp hp).elim (N' p) fun hp=>⟨kp _ _ (N p (hrest p hp).1).1 (hrest p hp).2,(N p (hrest p hp).1).2⟩)
   (fun p hp hn=>eq_87 fun q hq e=>by have:=kn p hp hn;rw [←e,(N q hq).1] at this;cases this) po htk hg'
end
section
variable {prog:Program} {w:World} {A:Around} {E:Value→Shared→Prop} {s:Shared} {K:Frag} {x C f:Addr} {ox:Obj} {od:Option Obj}
theorem eq_1109 {Q:Bool→Shared→Prop} (X:K.In s.heap) (I:InstAt s.heap x ox C od) (hs:findIn K (.ref C) "__bool__"=some none) (hl:findIn K (.ref C) "__len__"=some (some (.ref f))) (hf:isFn K (.ref f)=true)
  (h:wpAny (model prog w) A.in1 (call (.ref f) [.ref x]) (fun v s'=>∃ n t,v= .int n t∧0≤n∧n<2 ^ 63∧Q (n != 0) { s' with toks:=s'.toks+1 }) E s):wpAny (model prog w) A (truthy (.ref x)) Q E s:=by
 unfold truthy
 refine wpAny_bind (m:=callSpecial? (.ref x) (Str.ofString "__bool__")) (wpAny_bind (wpAny_bind (I.type.here ((looks_findIn X hs).here (wpAny_pure ?_)))))
 refine wpAny_bind (wpAny_bind (I.type.here ((looks_findIn X hl).here ?_)))
 refine wpAny_bind (wpAny_runValue (codeAny_builtin entry_len ?_))
 rw [Around.under_plainId plain_len _]
 unfold Builtin.«len»
 refine wpAny_bind (m:=oneArg "len" _) (wpAny_pure ?_)
 refine wpAny_bind (m:=callSpecial? (.ref x) (Str.ofString "__len__")) (special_fn X I hl (beq_iff_eq.mp hf) (wpAny_mono h (fun r s' hr=>?_) fun _ _ y=>y))
 (refine eq_23 (hr) fun n t zq1 h0 h1 hq=>?_;(try clear hr);subst zq1)
 refine wpAny_bind (wpAny_holding (wpAny_pure ?_))
 refine wpAny_bind (wpAny_letGo ?_)
 show wpAny _ _ (if n<0 then _ else _) _ _ _
 rw [if_neg (by keq_rows)]
 show wpAny _ _ (if n≥2 ^ 63 then _ else _) _ _ _
 rw [if_neg (by keq_rows)]
 exact wpAny_bind (wpAny_mkInt (wpAny_pure (wpAny_pure hq)))
end
set_option maxHeartbeats 400000
theorem eq_1310:True:=by
 k_with "g32"=>skip
 k_with "g33"=>skip
 k_with "g34"=>skip
 k_with "g25"=>skip
 k_with "truthy ref"=>((fail_if_success (k_extra "g47";clear offG));k_here;k_dflt (refine' eq_1109 (by k_in) (by first|k_inst|fail) (by k_is) (by k_is) (by k_is) ?_))
 k_with "Exists"=>((fail_if_success (k_extra "g47";clear offG));k_dflt (refine wants_len (by with_reducible assumption) ?_))
 k_with "g48"=>skip
 k_with "call type:str"=>((fail_if_success (k_extra "g48";clear offG));k_here;k_dflt (refine' kso_call (by first|ktr_units|fail) (by k_in) (by first|k_inst|fail) (by k_is) (by k_is) ?_))
 k_with "StrBack"=>((fail_if_success (k_extra "g48";clear offG));unfold StrBack;dsimp only)
 k_with "call ref"=>((fail_if_success (k_extra "g47";clear offG));k_here;k_dflt (refine' eq_24 (eq_157 _ _ _ _ _ _ _ _ _ _ ?_ ?_ ?_) (by k_asm) (by k_asm) (by k_asm) (by k_asm) (by first|k_extra "b"|fail) (by first|k_extra "f"|fail) (by first|exact eq_52 (by k_asm) (by with_reducible assumption)|fail) (by k_asm) (by first|(first|exact rfl|with_reducible assumption)|fail) (by first|(first|keq_rows|ktr_room)|fail) (by first|(first|keq_rows|ktr_units)|fail) (by first|k_extra "t"|fail) (by first|(try dsimp only);with_reducible assumption|fail) ?_;k_extra "rotp";(· with_reducible assumption);k_extra "rotp";(· with_reducible assumption);k_extra "rotp";(· with_reducible assumption);intro v9ω h9ω t9ω o9ω g9ω F9ω N9ω e9ω p9ω ht9ω hg9ω;obtain ⟨⟨u9ω,hv9ω⟩,op9ω,hop9ω,ho9ω⟩:=p9ω;subst hv9ω ho9ω;dsimp only [List.cons_append,List.nil_append] at N9ω))
 k_with "call ref"=>((fail_if_success (k_extra "g47";clear offG));k_here;k_dflt (refine' eq_24 (eq_161 _ _ _ _ _ _ _ _ _ _ ?_ ?_ ?_ ?_) (by k_asm) (by k_asm) (by k_asm) (by k_asm) (by first|k_extra "b"|fail) (by first|k_extra "f"|fail) (by first|exact eq_52 (by k_asm) (by with_reducible assumption)|fail) (by k_asm) (by first|(first|exact rfl|with_reducible assumption)|fail) (by first|(first|keq_rows|ktr_room)|fail) (by first|(first|keq_rows|ktr_units)|fail) (by first|k_extra "t"|fail) (by first|(try dsimp only);with_reducible assumption|fail) ?_;k_extra "rotp";(· with_reducible assumption);k_extra "rotp";(· with_reducible assumption);k_extra "rotp";(· with_reducible assumption);k_extra "rotp";(· with_reducible assumption);intro v9ω h9ω t9ω o9ω g9ω F9ω N9ω e9ω p9ω ht9ω hg9ω;obtain ⟨⟨u9ω,hv9ω⟩,op9ω,hop9ω,ho9ω⟩:=p9ω;subst hv9ω ho9ω;dsimp only [List.cons_append,List.nil_append] at N9ω))
 trivial
theorem eq_914 (w:World) (AA DD:Addr) (its:Array Value) (n:Nat) (u t0:Tok) (c:Nat) (op1 op2:Obj) (chs:List (List Nat×List Nat)) (htb1:Qz op1) (htb2:Qz op2) (hz:chs.length≤20000) (hz2:∀ c∈chs,c.1.length≤200000∧c.2.length≤200000) (hz3:Q8 chs≤1000000) (hpos:0<Q8 chs) (hws:Txt.isspace (S (Qd chs))=false):
  CtQ w 2 189 [.ref AA] [(AA,Qg its n DD),(DD,Q1d w u t0 c),(162,op1),(169,op2)] (fun h=>Fa2 (Qc h) its.toList chs) (fun v own=>v= .bool false∧∃ op1' op2',Qz op1'∧Qz op2'∧own=[(AA,Qg its n DD),(DD,Q1d w u t0 c),(162,op1'),(169,op2')]):=by
 k_extra "w8"
 k_extra "v9"
 have hAD:=eq_28 N1 (.head _) (.tail _ (.head _))
 have hA1:=eq_15 N1 (.head _) (.tail _ (.tail _ (.head _))) htb1 (by simp)
 have hD1:=eq_15 N1 (.tail _ (.head _)) (.tail _ (.tail _ (.head _))) htb1 (by simp)
 have hA2:=eq_15 N1 (.head _) (.tail _ (.tail _ (.tail _ (.head _)))) htb2 (by simp)
 have hD2:=eq_15 N1 (.tail _ (.head _)) (.tail _ (.tail _ (.tail _ (.head _)))) htb2 (by simp)
 have hchg:=eq_34 N (eq_415 htb1 htb2) kp hpre
 k_steps
 ·rw [hws]
  all_goals (refine' hret _ _ _ [(AA,Qg its n DD),(DD,Q1d w u t0 c),(162,_),(169,_)] _ ?F ?N ?k ?fr ?po ?t ?g;k_extra "w4";(case po=>exact ⟨rfl,_,_,by assumption,by assumption,rfl⟩);k_extra "w5")
 ·keq_rows


end
section
theorem eq_1306:True:=by
 k_with "g13"=>have offG:True:=trivial
 k_with "g23"=>have offG:True:=trivial
 k_with "g25"=>have offG:True:=trivial
 k_with "g32"=>have offG:True:=trivial
 k_with "g33"=>have offG:True:=trivial
 k_with "g34"=>have offG:True:=trivial
 k_with "g47"=>have offG:True:=trivial
 k_with "g48"=>have offG:True:=trivial
 trivial
structure Q1p where
 k1:Tok
 k2:Tok
 k3:Tok
 k4:Tok
 k5:Tok
 k6:Tok
 tm:Tok
 tc:Tok
 tl:Tok
 ts:Tok
 c:Nat
noncomputable abbrev fent (w:World) (x:Str) (k:Tok) (v:Value):DictEntry:=⟨PyData.keyHash w.params x,.str x k,v⟩
noncomputable abbrev Q40 (FD:Addr):Obj:=instObj 116 FD
noncomputable abbrev fmtD (w:World) (t:Q1p) (mx:Nat) (LL AA:Addr):Obj:=dictOf [fent w (Str.ofString "_maxlen") t.k1 (.int mx t.tm),fent w (Str.ofString "_continuation_ws") t.k2 (.str (Str.ofString " ") t.tc),
 fent w (Str.ofString "_continuation_ws_len") t.k3 (.int 1 t.tl),fent w (Str.ofString "_splitchars") t.k4 (.str (Str.ofString " ") t.ts),fent w (Str.ofString "_lines") t.k5 (.ref LL),fent w (Str.ofString "_current_line") t.k6 (.ref AA)] t.c
noncomputable abbrev Q1f (w:World) (FF FD LL AA DD:Addr) (t:Q1p) (mx:Nat) (lv:Array Value) (kl:Nat) (its:Array Value) (n:Nat) (u t0:Tok) (c:Nat) (op1 op2:Obj):List (Addr×Obj):=
 [(FF,Q40 FD),(FD,fmtD w t mx LL AA),(LL,listOf lv kl),(AA,Qg its n DD),(DD,Q1d w u t0 c),(162,op1),(169,op2)]
theorem eq_1223 {h₀ h:Heap} {L a b:Addr} {o o':Obj} {news:List (Addr×Obj)} (N:News h₀ L h news) (h1:(a,o)∈news) (h2:(b,o')∈news) (hc:o≠o'):@Ne Nat a b:=fun e=>by
 have x:=(N _ h1).1
 have y:=(N _ h2).1
 dsimp only at x y
 rw [show a=b from e,y] at x
 exact hc (Option.some.inj x).symm
noncomputable def Sep (a b:Addr):Prop:=@Ne Nat a b
theorem Sep.ne {a b:Addr} (h:Sep a b):@Ne Nat a b:=h
theorem Sep.nes {a b:Addr} (h:Sep a b):@Ne Nat b a:=fun e=>h.ne e.symm
noncomputable def Q1m (d:Addr):List (Addr×Obj)→Prop
 |[]=>True
 |p::r=>Sep p.1 d∧Q1m d r
theorem eq_50 {d:Addr}:∀ {l:List (Addr×Obj)},(∀ p∈l,p.1≠d)→Q1m d l
 |[],_=>trivial
 |p::_,h=>⟨h p (.head _),eq_50 fun q hq=>h q (.tail _ hq)⟩
theorem eq_67 {d:Addr}:∀ {l:List (Addr×Obj)},Q27 d l→Q1m d l
 |[],_=>trivial
 |_::_,h=>⟨h.1,eq_67 h.2⟩
structure FApart (FF FD LL AA DD:Addr):Prop where
 a1:Sep FF FD
 a2:Sep FF LL
 a3:Sep FF AA
 a4:Sep FF DD
 a5:Sep FD LL
 a6:Sep FD AA
 a7:Sep FD DD
 a8:Sep LL AA
 a9:Sep LL DD
 aa:Sep AA DD
 b1:Sep FF 162
 b2:Sep FD 162
 b3:Sep LL 162
 b4:Sep AA 162
 b5:Sep DD 162
 c1:Sep FF 169
 c2:Sep FD 169
 c3:Sep LL 169
 c4:Sep AA 169
 c5:Sep DD 169
theorem eq_1068 {w:World} {FF FD LL AA DD:Addr} {t:Q1p} {mx kl n c:Nat} {lv its:Array Value} {u t0:Tok} {op1 op2:Obj} {h₀ h:Heap} {L:Addr} (N:News h₀ L h (Q1f w FF FD LL AA DD t mx lv kl its n u t0 c op1 op2)) (h1:Qz op1) (h2:Qz op2):FApart FF FD LL AA DD:=by
 have m0:(FF,Q40 FD)∈Q1f w FF FD LL AA DD t mx lv kl its n u t0 c op1 op2:=.head _
 have m1:(FD,fmtD w t mx LL AA)∈Q1f w FF FD LL AA DD t mx lv kl its n u t0 c op1 op2:=.tail _ (.head _)
 have m2:(LL,listOf lv kl)∈Q1f w FF FD LL AA DD t mx lv kl its n u t0 c op1 op2:=.tail _ (.tail _ (.head _))
 have m3:(AA,Qg its n DD)∈Q1f w FF FD LL AA DD t mx lv kl its n u t0 c op1 op2:=.tail _ (.tail _ (.tail _ (.head _)))
 have m4:(DD,Q1d w u t0 c)∈Q1f w FF FD LL AA DD t mx lv kl its n u t0 c op1 op2:=.tail _ (.tail _ (.tail _ (.tail _ (.head _))))
 have m5:(162,op1)∈Q1f w FF FD LL AA DD t mx lv kl its n u t0 c op1 op2:=.tail _ (.tail _ (.tail _ (.tail _ (.tail _ (.head _)))))
 have m6:(169,op2)∈Q1f w FF FD LL AA DD t mx lv kl its n u t0 c op1 op2:=.tail _ (.tail _ (.tail _ (.tail _ (.tail _ (.tail _ (.head _))))))
 exact ⟨eq_19 N m0 m1 (by simp),eq_19 N m0 m2 (by simp),eq_19 N m0 m3 (by simp),eq_19 N m0 m4 (by simp),eq_19 N m1 m2 (by simp),eq_19 N m1 m3 (by simp),eq_1223 N m1 m4 (by simp),eq_19 N m2 m3 (by simp),eq_19 N m2 m4 (by simp),eq_19 N m3 m4 (by simp),
  eq_15 N m0 m5 h1 (by simp),eq_15 N m1 m5 h1 (by simp),eq_15 N m2 m5 h1 (by simp),eq_15 N m3 m5 h1 (by simp),eq_15 N m4 m5 h1 (by simp),eq_15 N m0 m6 h2 (by simp),eq_15 N m1 m6 h2 (by simp),eq_15 N m2 m6 h2 (by simp),eq_15 N m3 m6 h2 (by simp),eq_15 N m4 m6 h2 (by simp)⟩
theorem eq_48 {w:World} {FF FD LL AA DD:Addr} {t:Q1p} {mx kl n c:Nat} {lv its:Array Value} {u t0:Tok} {op1 op2:Obj} (h1:Qz op1) (h2:Qz op2):∀ q∈Q1f w FF FD LL AA DD t mx lv kl its n u t0 c op1 op2,∀ x y,q.2≠Qh x y:=by
 intro q hq x y e
 k_extra "v2"
 ·cases e
 ·k_extra "v2"
  ·k_extra "v1d"
  ·k_extra "v2"
   ·k_extra "v1d"
   ·exact eq_415 h1 h2 q hq x y e


end
section
section
variable {prog:Program} {w:World} {A:Around} {E:Value→Shared→Prop} {s:Shared} {K:Frag} {x C L f p:Addr} {ox:Obj} {od:Option Obj} {name:Str} {h₀ g:Heap} {m:Str→Option Value} {news:List (Addr×Obj)} {expr:Bool}
theorem eq_1146 (F:Fr h₀ L s.heap m) (X₀:K.In h₀) (N:News h₀ L s.heap news) (I:InstAt s.heap x ox C od) {Q:Value→Shared→Prop} (hga:findIn K (.ref C) "__getattribute__"=some (some (.builtin "list.__getattribute__"))) (hk:findIn K (.ref C) "__getattr__"=some none) (hm:mroIn K C (.type "list")=some true)
  (hf:findObj K C od name=some (.bind (.builtin "function.__get__") (.ref f))) (ht:typeIn K (.ref f)=some (.type "function"))
  (h:∀ q h',Fr h₀ L h' m→News h₀ L h' ((q,methodObj (.ref f) (.ref x))::news)→(∀ p∈news,p.1<q)→Q (.ref q) { s with heap:=h',toks:=s.toks+1 }):wpAny (model prog w) A (getAttr (.ref x) name expr) Q E s:=by
 have X:K.In s.heap:=X₀.keeps F.keep
 obtain ⟨hh',gg,dd,t,os⟩:=s
 have L0:=I.type (M:=model prog w)
 have L1:=looks_findIn (M:=model prog w) X hga
 have L2:=looks_findIn (M:=model prog w) X hk
 have L3:=looks_find (M:=model prog w) X I hf
 unfold getAttr getAttrBy
 k_extra "v19"
 show wpAny _ _ (getAttrByItsOwn (.ref x) (.str name t) (.ref C) (.builtin "list.__getattribute__") true expr) _ _ _
 k_extra "v17"
 refine wpAny_bind (L2.at ?_)
 rw [if_neg (by simp [onTheHeap])]
 k_extra "v1q"
 k_extra "v21"
 refine wpAny_mono (Q:=fun r s'=>r= .ref hh'.objs.size∧s'=⟨hh'.push (methodObj (.ref f) (.ref x)),gg,dd,t+1,os⟩) (E:=fun _ _=>False) ?_ (fun r s' hr=>?_) fun _ _ z=>z.elim
 ·k_extra "v5"
  unfold Builtin.«object.__getattribute__»
  k_extra "v24"
  refine wpAny_bind (m:=Builtin.ObjectAttr.attrName _) (wpAny_pure ?_)
  refine wpAny_bind (L0.at (wpAny_bind (L3.at ?_)))
  show wpAny _ _ (holding [.ref f] (call (.builtin "function.__get__") [.ref f,.ref x,.ref C]) >>= fun v=>ret v) _ _ _
  exact wpAny_bind (wpAny_holding (wpAny_call (fn_get (s:=⟨hh',gg,dd,t+1,os⟩) X ht (wpAny_pure ⟨rfl,rfl⟩))))
 ·(refine eq_7 (hr) fun zq1 zq2=>?_;(try clear hr);subst zq1;subst zq2)
  show wpAny _ _ (handedOut _) _ _ _
  rw [handedOut_of rfl]
  exact wpAny_pure (h hh'.objs.size _ (F.push _) (N.push F _) fun p hp=>Heap.lt_size (N p hp).1)
theorem eq_986 {a b:Value} {Q:List Value→Shared→Prop} (F:Fr h₀ L s.heap m) (N:News h₀ L s.heap news) (hp:s.heap.get? p=some (Qh a b)) (h:∀ h',Fr h₀ L h' m→News h₀ L h' news→Q [a,b] { s with heap:=h' }):StarOf (model prog w) A E (.ref p) Q s:=by
 have hT:s.TypeIs (.ref p) "tuple":=⟨_,hp,rfl⟩
 have z:wpAny (model prog w) A (collect (.ref p)) Q E s:=by
  refine wpAny_collect_seq p (.inr rfl) hp rfl rfl (fun h' hk=>h h' ?_ fun p hp=>⟨hk _ _ (N p hp).1,(N p hp).2⟩) (by rw [sizeLine_eq];exact Nat.le_of_ble_eq_true rfl)
  (refine eq_26 (F.ns) fun oL es ep hL r=>?_)
  exact ⟨⟨oL,es,ep,hk _ _ hL,r⟩,fun b x q=>hk _ _ (F.keep b x q),F.above⟩
 unfold StarOf notIterableAtAll
 exact wpAny_bind (wpAny_specialOf hT PySem.F.slot_tuple_iter.lookup (wpAny_pure ⟨rfl,z⟩))
theorem eq_850 {pos p2:Pos} {env:Env} {e:PySem.Expr} {q gf:Addr} {self:Value} {Q:Value→Shared→Prop} (hf:fnIn K gf=true) (h:wpAny (model prog w) A (eval e env) (fun v s₁=>StarOf (model prog w) A E v (fun vs s₂=>MethP K q gf self s₂.heap∧wpAny (model prog w) A (call (.ref q) ([]++vs)) Q E s₂) s₁) E s)
  (he:starEach [.Starred e p2] env=[(true,eval e env)]:=by rfl):wpAny (model prog w) A (callWith pos (.ref q) [] (backTo pos (starEach [.Starred e p2] env)) []) Q E s:=by
 rw [he]
 exact ks_call rfl (fun h P=>keeps_M (self:=self) hf h P) (ks_lone h)
end
section
variable {A₀:Around} {s:Shared} {base h₀:Heap} {outer:List Env} {L:Addr} {m:Str→Option Value} {news:List (Addr×Obj)} {p:Program} {loose:List Str} {mean:ExcName→Option Value} {mg mb:Str→Option Value}
theorem eq_879 {w:World} {lv:Nat} {f:Addr} {vs:List Value} {own rest:List (Addr×Obj)} {post:Value→List (Addr×Obj)→Prop} {dp un:Nat} {gd:Option (List Code)} {cn:Str} {cs:Scope} {a:Addr} {ccd:Value} {cl:List (Str×Addr)} {Q E:Value→Shared→Prop}
  (C:CtC w lv f vs own post) (B:Below A₀ base outer h₀) (F:Fr h₀ L s.heap m) (X:(Kx w.params).In h₀) (N:News h₀ L s.heap news) (P:Q23 own news rest) (hr:∀ q∈own,∀ p∈rest,p.1≠q.1) (T:Top p loose mean mg mb h₀) (hk:cs.kind= .function) (hd:dp+20*lv<recursionLimit) (hu:un+200*lv<cLine) (ht:1≤s.toks) (hg:AllBare s.gens)
  (k:∀ v h' tk' own' g',Fr h₀ L h' m→News h₀ L h' (own'++rest)→(∀ p∈own',p.1∉own.map (·.1)→Q27 p.1 news)→post v own'→1≤tk'→AllBare g'→Q v ⟨h',g',s.drawn,tk',s.os⟩):
  codeAny (model PySem.Challenge.rw_xo0041_01.prog w) (ktrTop dp un gd cn cs L a ccd cl outer) (.call (.ref f) ⟨vs,[]⟩) (fun r s'=>match r with|.ok (.ret v)=>Q v s'|.ok _=>False|.error e=>E e s') s:=by
 have hown:=P.mem.1
 have hrest:∀ p∈rest,p∈news∧p.1∉own.map (·.1):=fun p hp=>⟨P.mem.2 p hp,fun h=>by (refine eq_4 (List.mem_map.mp h) fun q hq e=>?_);exact hr q hq p hp e.symm⟩
 exact C p loose mean mg mb dp un gd cn cs a ccd cl outer A₀ base h₀ L m s Q E B F X (fun p hp=>N p (hown p hp)) T hk hd hu ht hg
  fun v h' tk' own' g' F' N' kp kn po htk hg'=>k v h' tk' own' g' F' (fun p hp=>(List.mem_append.mp hp).elim (N' p) fun hp=>⟨kp _ _ (N p (hrest p hp).1).1 (hrest p hp).2,(N p (hrest p hp).1).2⟩)
   (fun p hp hn=>eq_87 fun q hq e=>by have:=kn p hp hn;rw [←e,(N q hq).1] at this;cases this) po htk hg'
end


end
section
section
variable {prog:Program} {w:World} {A:Around} {E:Value→Shared→Prop} {s:Shared} {h₀:Heap} {L p D:Addr} {news:List (Addr×Obj)}
theorem eq_1288:True:=by
 k_with "g49"=>skip
 k_with "dl_mem"=>((fail_if_success (k_extra "g49";clear offG));first|(with_reducible first|(apply eq_302<;>assumption)|apply eq_126|(apply eq_93<;>assumption)|(apply eq_125<;>assumption)|(apply eq_145<;>assumption)|(apply eq_79<;>assumption)|(apply eq_74<;>assumption)|(apply eq_1232<;>assumption)|(apply eq_166<;>assumption)|(apply eq_326<;>assumption)|(apply eq_84<;>assumption)|(apply eq_99<;>assumption)|(apply eq_75<;>assumption)|fail)|(apply eq_302<;>assumption)|(apply eq_84<;>assumption)|(apply eq_145<;>assumption)|(apply eq_74<;>assumption)|(apply eq_79<;>assumption)|(apply eq_93<;>assumption)|(apply eq_99<;>assumption)|fail)
 trivial
theorem eq_467 {a b:List Nat} {t1 t2 u1 u2:Tok} {Q:Value→Shared→Prop} (hp:s.heap.get? p=some (Qh (.str (S a) t1) (.str (S b) t2))) (N:News h₀ L s.heap news) (hD:(D,Qh (.str (Str.ofString " ") u1) (.str (Str.ofString "") u2))∈news) (hu:A.units<cLine) (hb:b≠[]) (hq:Q (.bool true) s):
  wpAny (model prog w) A (compareOp .NotEq (.ref p) (.ref D)) Q E s:=by
 refine cmp_ofNotEq ?_
 have z1:s.heap.IsTuple p #[.str (S a) t1,.str (S b) t2]:=⟨_,hp,rfl,0,rfl⟩
 have z2:s.heap.IsTuple D #[.str (Str.ofString " ") u1,.str (Str.ofString "") u2]:=⟨_,(N _ hD).1,rfl,0,rfl⟩
 have key:(!((List.range (min 2 2)).all (fun j=>if j=0 then S a==Str.ofString " " else S b==Str.ofString "")&&(2:Nat)==2))=true:=by
  have:(S b==Str.ofString "")=false:=by
   rw [eq_71]
   cases h:S b==S [] with
   |false=>rfl
   |true=>exact absurd (eq_82 (eq_of_beq h)) hb
  simp [List.range,List.range.loop,this]
 have:=PySem.SeqAt.RcNeAt.tuples (A:=A) (s:=s) (e:=fun j=>if j=0 then S a==Str.ofString " " else S b==Str.ofString "") z1 z2 hu (fun j h1 h2=>by
  rcases j with _|_|j
  ·exact PySem.SeqAt.EqAt.str_str _ _ _ _
  ·exact PySem.SeqAt.EqAt.str_str _ _ _ _
  ·exact absurd h1 (by simp)) prog w E Q
 refine this ?_
 show Q (.bool (!((List.range (min 2 2)).all _&&(2:Nat)==2))) s
 rw [key]
 exact hq
end
theorem eq_495 {M:Model} {A:Around} {E:Value→Shared→Prop} {s:Shared} {env:Env} {o e:PySem.Expr} {name:Str} {apos pos p2:Pos} {Q:Value→Shared→Prop}
  (h:wpAny M A (eval o env) (fun ov s₁=>wpAny M A (getAttr ov name true) (fun f s₂=>wpAny M A (callWith pos f [] (backTo pos (starEach [.Starred e p2] env)) []) Q E s₂) E s₁) E s)
  (he:eval (.Call (.Attribute o name apos) [.Starred e p2] [] pos) env=(do
   let ov ←eval o env
   standAt apos.atName
   let (f,first) ←holding [ov] (do pure (←getAttr ov name true,[]))
   callWith pos f first (backTo pos (starEach [.Starred e p2] env)) []):=by rfl):
  wpAny M A (eval (.Call (.Attribute o name apos) [.Starred e p2] [] pos) env) Q E s:=by
 rw [he]
 refine wpAny_bind (wpAny_mono h (fun ov s₁ h₁=>wpAny_bind (wpAny_standAt (wpAny_bind (wpAny_holding (wpAny_bind (wpAny_mono h₁ (fun fx s₂ h₂=>wpAny_pure ?_) fun _ _ x=>x)))))) fun _ _ x=>x)
 exact h₂
theorem eq_831 {s:Shared} {Q:Value→Shared→Prop} {n:Nat} {t:Tok} (hn:n≤1000000) (h:Q (.int (n:Nat) s.toks) { s with toks:=s.toks+1 }):PySem.W.LenBack Q (.int (n:Nat) t) s:=⟨⟨by keq_rows,by keq_rows⟩,h⟩
theorem eq_178 {h₀ g h:Heap} {L L1 p:Addr} {m1:Str→Option Value} {news:List (Addr×Obj)} {vs:List Value} {y:Value} {chs:List (List Nat×List Nat)} {cw cp:List Nat} {t1 t2:Tok} (F:Fr g L1 h m1) (N:News h₀ L h news) (hp:(p,Qh (.str (S cw) t1) (.str (S cp) t2))∈news) (x:Fa2 (Qc g) vs chs):
  Fa2 (Qc h) ((vs++[y]).toArray.pop.push (.ref p)).toList (chs++[(cw,cp)]):=by
 have:((vs++[y]).toArray.pop.push (.ref p)).toList=vs++[Value.ref p]:=by simp
 rw [this]
 exact (eq_52 F x).snoc ⟨p,t1,t2,rfl,(N _ hp).1⟩
theorem eq_361 {w:World} {h₀ h:Heap} {L q AA DD:Addr} {x y:Value} {its its0:Array Value} {n n0 c:Nat} {u t0:Tok} {news old:List (Addr×Obj)} {r:List (Addr×Obj)} (N:News h₀ L h news) (h1:(q,Qh x y)∈news) (h2:(AA,Qg its n DD)∈news) (h3:(DD,Q1d w u t0 c)∈news)
  (e:∀ p∈(q,Qh x y)::r,p.1∉[(AA,Qg its0 n0 DD),(DD,Q1d w u t0 c)].map (·.1)→Q27 p.1 old):Q27 q old:=by
 refine e _ (.head _) fun hm=>?_
 have z1:@Ne Nat q AA:=eq_19 N h1 h2 (by simp)
 have z2:@Ne Nat q DD:=eq_19 N h1 h3 (by simp)
 k_extra "v1s"
 ·exact z1 hh
 ·k_extra "v1s"
  ·exact z2 hh
  ·cases hm
set_option maxHeartbeats 4000000
theorem eq_1309:True:=by
 k_with "g23"=>skip
 k_with "g32"=>skip
 k_with "g33"=>skip
 k_with "g25"=>skip
 k_with "g24"=>skip
 k_with "g48"=>skip
 k_with "g50"=>skip
 k_with "LenBack"=>((fail_if_success (k_extra "g50";clear offG));k_dflt (refine eq_831 (by with_reducible assumption) ?_))
 k_with "g51"=>skip
 k_with "compareOp NotEq ref ref"=>((fail_if_success (k_extra "g51";clear offG));k_here;refine halt ?_)
 k_with "eval Call Attribute"=>((fail_if_success (k_extra "g49";clear offG));k_here;(with_reducible show wpAny _ _ (eval (Expr.Call (Expr.Attribute _ _ _) [Expr.Starred _ _] _ _) _) _ _ _);k_dflt (refine eq_495 ?_))
 k_with "getAttr ref"=>((fail_if_success (k_extra "g49";clear offG));k_here;(with_reducible show wpAny _ _ (getAttr _ (Str.ofString "push") _) _ _ _);k_dflt (refine' eq_1146 (K:=Kx _) (by k_asm) (by k_asm) (by k_asm) (by first|k_inst|fail) (by k_is) (by k_is) (by k_is) (by first|(refine' findObj_fn ?k8a ?k8b ?k8c ?k8d ?k8e ?k8f;(case k8a=>k_is);(case k8b=>k_is);(case k8c=>k_is);(case k8d=>k_is);(case k8e=>decide);(case k8f=>exact rfl))|fail) (by k_is) ?_;intro q8ω h8ω F8ω N8ω l8ω;k_lt l8ω))
 k_with "callWith ref"=>((fail_if_success (k_extra "g49";clear offG));k_here;(with_reducible show wpAny _ _ (callWith _ (Value.ref _) _ (backTo _ (starEach [Expr.Starred _ _] _)) []) _ _ _);k_dflt (refine' eq_850 (K:=Kx _) (gf:=144) (self:=_) (by k_is) ?_))
 k_with "StarOf ref"=>((fail_if_success (k_extra "g49";clear offG));k_here;k_dflt (refine' eq_986 (by k_asm) (by k_asm) (by first|exact Fr.keep (by k_asm) _ _ (by with_reducible assumption)|fail) ?_;intro h7ω F7ω N7ω;refine' ⟨(by first|k_meth|fail),?_⟩;(try dsimp only [List.nil_append])))
 k_with "g13"=>skip
 k_with "g14"=>skip
 k_with "g52"=>skip
 k_with "k_ne"=>((fail_if_success (k_extra "g52";clear offG));refine neN ?_;(try dsimp only);first|exact Sep.ne (by with_reducible assumption)|exact Sep.nes (by with_reducible assumption))
 k_with "t"=>((fail_if_success (k_extra "g52";clear offG));(try dsimp only);first|with_reducible assumption|with_reducible exact Nat.le_add_left 1 _|(show @LE.le Nat _ 1 _;keq_rows))
 k_with "ktr_rel"=>((fail_if_success (k_extra "g50";clear offG));(try simp only [Array.size_push,Array.size_pop]);keq_rows)
 k_with "call ref"=>((fail_if_success (k_extra "g49";clear offG));k_here;k_dflt (refine' eq_33 (eq_430 _ _ _ _ _ _ _ _ _ ?_ ?_) (by k_asm) (by k_asm) (by k_asm) (by k_asm) (by first|k_extra "b"|fail) (by first|k_extra "f"|fail) (by k_asm) (by first|(first|exact rfl|with_reducible assumption)|fail) (by first|(first|keq_rows|ktr_room)|fail) (by first|(first|keq_rows|ktr_units)|fail) (by first|k_extra "t"|fail) (by first|(try dsimp only);with_reducible assumption|fail) ?_;k_extra "rotp";(· with_reducible assumption);k_extra "rotp";(· with_reducible assumption);intro v9ω h9ω t9ω o9ω g9ω F9ω N9ω e9ω p9ω ht9ω hg9ω;(refine eq_7 (p9ω) fun hv9ω ho9ω=>?_;(try clear p9ω));subst hv9ω ho9ω;dsimp only [List.cons_append,List.nil_append] at N9ω))
 k_with "call ref"=>((fail_if_success (k_extra "g49";clear offG));k_here;k_dflt (refine' call_meth (by k_asm) (by first|k_mem|fail) ?_;(refine' eq_879 (eq_864 _ _ _ _ _ _ _ _ _ _ _ _ ?_) (by k_asm) (by k_asm) (by k_asm) (by k_asm) (by first|k_extra "b"|fail) (by first|k_extra "f"|fail) (by k_asm) (by first|(first|exact rfl|with_reducible assumption)|fail) (by first|(first|keq_rows|ktr_room)|fail) (by first|(first|keq_rows|ktr_units)|fail) (by first|k_extra "t"|fail) (by first|(try dsimp only);with_reducible assumption|fail) ?_;k_extra "rotp";(· ktr_rel);intro v9ω h9ω t9ω o9ω g9ω F9ω N9ω e9ω p9ω ht9ω hg9ω;obtain ⟨hv9ω,q9ω,ho9ω⟩:=p9ω;subst hv9ω ho9ω;dsimp only [List.cons_append,List.nil_append] at N9ω;have hn9ω:=eq_361 N9ω (by k_mem) (by k_mem) (by k_mem) e9ω;replace hn9ω:=eq_67 hn9ω;simp only [Q1m,and_true] at hn9ω;repeat ((revert hn9ω;intro zq1ω;(refine eq_7 (zq1ω) fun hx9ω hn9ω=>?_;(try clear zq1ω)))))))
 k_with "call ref"=>((fail_if_success (k_extra "g49";clear offG));k_here;k_dflt (refine' eq_24 (eq_157 _ _ _ _ _ _ _ _ _ _ ?_ ?_ ?_) (by k_asm) (by k_asm) (by k_asm) (by k_asm) (by first|k_extra "b"|fail) (by first|k_extra "f"|fail) (by first|exact eq_178 (by k_asm) (by k_asm) (by k_mem) (by with_reducible assumption)|fail) (by k_asm) (by first|(first|exact rfl|with_reducible assumption)|fail) (by first|(first|keq_rows|ktr_room)|fail) (by first|(first|keq_rows|ktr_units)|fail) (by first|k_extra "t"|fail) (by first|(try dsimp only);with_reducible assumption|fail) ?_;k_extra "rotp";(· with_reducible assumption);k_extra "rotp";(· with_reducible assumption);k_extra "rotp";(· with_reducible assumption);intro v9ω h9ω t9ω o9ω g9ω F9ω N9ω e9ω p9ω ht9ω hg9ω;obtain ⟨⟨u9ω,hv9ω⟩,op9ω,hop9ω,ho9ω⟩:=p9ω;subst hv9ω ho9ω;dsimp only [List.cons_append,List.nil_append] at N9ω))
 k_with "call ref"=>((fail_if_success (k_extra "g49";clear offG));k_here;k_dflt (refine' eq_24 (eq_161 _ _ _ _ _ _ _ _ _ _ ?_ ?_ ?_ ?_) (by k_asm) (by k_asm) (by k_asm) (by k_asm) (by first|k_extra "b"|fail) (by first|k_extra "f"|fail) (by first|exact eq_178 (by k_asm) (by k_asm) (by k_mem) (by with_reducible assumption)|fail) (by k_asm) (by first|(first|exact rfl|with_reducible assumption)|fail) (by first|(first|keq_rows|ktr_room)|fail) (by first|(first|keq_rows|ktr_units)|fail) (by first|k_extra "t"|fail) (by first|(try dsimp only);with_reducible assumption|fail) ?_;k_extra "rotp";(· with_reducible assumption);k_extra "rotp";(· with_reducible assumption);k_extra "rotp";(· with_reducible assumption);k_extra "rotp";(· with_reducible assumption);intro v9ω h9ω t9ω o9ω g9ω F9ω N9ω e9ω p9ω ht9ω hg9ω;obtain ⟨⟨u9ω,hv9ω⟩,op9ω,hop9ω,ho9ω⟩:=p9ω;subst hv9ω ho9ω;dsimp only [List.cons_append,List.nil_append] at N9ω))
 k_with "call ref"=>((fail_if_success (k_extra "g49";clear offG));k_here;k_dflt (refine' eq_24 (eq_914 _ _ _ _ _ _ _ _ _ _ _ ?_ ?_ ?_ ?_ ?_ ?_ ?_) (by k_asm) (by k_asm) (by k_asm) (by k_asm) (by first|k_extra "b"|fail) (by first|k_extra "f"|fail) (by first|exact eq_178 (by k_asm) (by k_asm) (by k_mem) (by with_reducible assumption)|fail) (by k_asm) (by first|(first|exact rfl|with_reducible assumption)|fail) (by first|(first|keq_rows|ktr_room)|fail) (by first|(first|keq_rows|ktr_units)|fail) (by first|k_extra "t"|fail) (by first|(try dsimp only);with_reducible assumption|fail) ?_;k_extra "rotp";(· with_reducible assumption);k_extra "rotp";(· with_reducible assumption);k_extra "rotp";(· with_reducible assumption);k_extra "rotp";(· with_reducible assumption);k_extra "rotp";(· with_reducible assumption);k_extra "rotp";(· with_reducible assumption);k_extra "rotp";(· with_reducible assumption);intro v9ω h9ω t9ω o9ω g9ω F9ω N9ω e9ω p9ω ht9ω hg9ω;obtain ⟨hv9ω,op9ω,op8ω,hop9ω,hop8ω,ho9ω⟩:=p9ω;subst hv9ω ho9ω;dsimp only [List.cons_append,List.nil_append] at N9ω))
 k_with "call ref"=>((fail_if_success (k_extra "g49";clear offG));k_here;k_dflt (refine' eq_33 (eq_451 _ _ _ _ _ _ _ _ ?_) (by k_asm) (by k_asm) (by k_asm) (by k_asm) (by first|k_extra "b"|fail) (by first|k_extra "f"|fail) (by k_asm) (by first|(first|exact rfl|with_reducible assumption)|fail) (by first|(first|keq_rows|ktr_room)|fail) (by first|(first|keq_rows|ktr_units)|fail) (by first|k_extra "t"|fail) (by first|(try dsimp only);with_reducible assumption|fail) ?_;k_extra "rotp";(· ktr_rel);intro v9ω h9ω t9ω o9ω g9ω F9ω N9ω e9ω p9ω ht9ω hg9ω;obtain ⟨hv9ω,k9ω,u9ω,w9ω,c9ω,ho9ω⟩:=p9ω;subst hv9ω ho9ω;dsimp only [List.cons_append,List.nil_append] at N9ω))
 trivial
theorem eq_699 (w:World) (FF FD LL AA DD:Addr) (t:Q1p) (mx:Nat) (lv:Array Value) (kl:Nat) (vs:List Value) (vl:Value) (n:Nat) (u t0:Tok) (c:Nat) (op1 op2:Obj) (chs:List (List Nat×List Nat)) (cw cp:List Nat) (htb1:Qz op1) (htb2:Qz op2)
  (hz:(vs++[vl]).toArray.size≤20000) (hcp:cp≠[]) (hz1:(chs++[(cw,cp)]).length≤20000) (hz2:∀ c∈chs++[(cw,cp)],c.1.length≤200000∧c.2.length≤200000) (hz3:Q8 (chs++[(cw,cp)])≤1000000) (hpos:0<Q8 (chs++[(cw,cp)])) (hws:Txt.isspace (S (Qd (chs++[(cw,cp)])))=false)
  (hlv:lv.size≤100000)  :CtQ w 4 78 [.ref FF] (Q1f w FF FD LL AA DD t mx lv kl (vs++[vl]).toArray n u t0 c op1 op2) (fun h=>Fa2 (Qc h) vs chs∧Qc h vl (cw,cp)) (fun v own=>v= .none∧∃ tk k u t0 c op1 op2,Qz op1∧Qz op2∧own=Q1f w FF FD LL AA DD t mx (lv.push (.str (S (Qd (chs++[(cw,cp)]))) tk)) (kl+1) #[] k u t0 c op1 op2):=by
 k_extra "w8"
 replace F1:Fr g L1 h1 (fun y=>List.lookup y [(Str.ofString "self",.ref FF)]):=F1
 k_extra "v7"
 have hch:=eq_34 N (eq_48 htb1 htb2) kp (hpre.1.snoc hpre.2)
 have hch0:Fa2 (Qc g) vs chs:=eq_34 N (eq_48 htb1 htb2) kp hpre.1
 have hlast:Qc g vl (cw,cp):=by
  have:=eq_34 N (eq_48 htb1 htb2) kp (.cons hpre.2 .nil)
  cases this with
  |cons r _=>exact r
 (refine eq_26 (hlast) fun p9 u1 u2 zq4 hp9=>?_;(try clear hlast);subst zq4)
 dsimp only at hp9
 have hy:(vs++[Value.ref p9]).toArray[(vs++[Value.ref p9]).toArray.size-1]?=some (.ref p9):=by simp
 k_steps
 unfold Q18
 refine eq_467 (Fr.keep (by k_asm) _ _ hp9) (by k_asm) (by k_mem) (by ktr_units) hcp ?_
 k_steps
 all_goals (refine' hret _ _ _ (Q1f w FF FD LL AA DD t mx _ _ _ _ _ _ _ _ _) _ ?F ?N ?k ?fr ?po ?t ?g;k_extra "w4";(case po=>exact ⟨rfl,_,_,_,_,_,_,_,(by assumption),(by assumption),rfl⟩);k_extra "w5")


end
section
theorem eq_1344:True:=by
 k_with "g23"=>have offG:True:=trivial
 k_with "g24"=>have offG:True:=trivial
 k_with "g25"=>have offG:True:=trivial
 k_with "g48"=>have offG:True:=trivial
 k_with "g49"=>have offG:True:=trivial
 k_with "g50"=>have offG:True:=trivial
 k_with "g51"=>have offG:True:=trivial
 trivial
noncomputable def Qx:List (List Nat)→List Nat
 |[]=>[]
 |[a]=>a
 |a::b::r=>a++10::Qx (b::r)
theorem eq_624:Str.ofString "\n"=S [10]:=by decide +kernel
theorem eq_274:∀ ls:List (List Nat),PySem.Str.join (S [10]) (ls.map S)=S (Qx ls)
 |[]=>by decide +kernel
 |[a]=>rfl
 |a::b::r=>by
  have ih:=eq_274 (b::r)
  show S a++S [10]++PySem.Str.join (S [10]) ((b::r).map S)=_
  rw [ih]
  show Str.mk _=Str.mk _
  congr 1
  show (a.toArray++[10].toArray)++(Qx (b::r)).toArray=(Qx (a::b::r)).toArray
  simp [Qx]
noncomputable def Q1s (v:Value) (l:List Nat):Prop:=∃ t,v= .str (S l) t
theorem eq_713:∀ {vs:List Value} {ls:List (List Nat)},Fa2 Q1s vs ls→StrsAre vs (ls.map S):=by
 intro vs ls h
 induction h with
 |nil=>exact .nil
 |cons a _ ih=>obtain ⟨_,rfl⟩:=a;exact .cons _ _ ih
section
variable {prog:Program} {w:World} {A:Around} {E:Value→Shared→Prop} {s:Shared} {h₀:Heap} {L D:Addr} {news:List (Addr×Obj)}
theorem eq_835 {its:Array Value} {k:Nat} {ls:List (List Nat)} {t:Tok} {Q:Value→Shared→Prop} (N:News h₀ L s.heap news) (hm:(D,listOf its k)∈news) (x:Fa2 Q1s its.toList ls) (hz:(ls.map List.length).sum+ls.length≤1000000) (ht:1≤s.toks) (h:∀ t' (k:Nat),1≤k→Q (.str (S (Qx ls)) t') { s with toks:=k }):
  wpAny (model prog w) A (call (.builtin "str.join") [.str (Str.ofString "\n") t,.ref D]) Q E s:=by
 have hl:s.heap.IsList D its:=⟨_,(N _ hm).1,rfl,_,rfl⟩
 k_extra "v13"
 ·have:((ls.map S).map (·.length))=ls.map List.length:=by
   rw [List.map_map]
   exact List.map_congr_left fun l _=>eq_9 l
  rw [this,List.length_map]
  keq_rows
 ·have e:Txt.join (Str.ofString "\n") (ls.map S)=S (Qx ls):=by
   rw [eq_624]
   exact (eq_of_beq (join_plain_closes _ _)).trans (eq_274 ls)
  rw [e]
  exact h t' k hk
end
theorem eq_412 {vs:Array Value} {ls:List (List Nat)} {l:List Nat} {t:Tok} (x:Fa2 Q1s vs.toList ls):Fa2 Q1s (vs.push (.str (S l) t)).toList (ls++[l]):=by
 rw [Array.toList_push]
 exact x.snoc ⟨t,rfl⟩
theorem eq_660 {g h:Heap} {L:Addr} {m:Str→Option Value} {v:Value} {c:List Nat×List Nat} (F:Fr g L h m) (x:Qc g v c):Qc h v c:=by
 have:=eq_52 F (.cons x .nil)
 cases this with
 |cons r _=>exact r
set_option maxHeartbeats 4000000
theorem eq_1267:True:=by
 k_with "g53"=>skip
 k_with "call builtin:str.join"=>((fail_if_success (k_extra "g53";clear offG));k_here;k_dflt (refine' eq_835 (by k_asm) (by first|k_mem|fail) (by first|exact eq_412 (by with_reducible assumption)|fail) (by with_reducible assumption) (by first|k_extra "t"|fail) ?_;intro t8ω k8ω hk8ω))
 k_with "call ref"=>((fail_if_success (k_extra "g53";clear offG));k_here;k_dflt (refine' eq_24 (eq_699 _ _ _ _ _ _ _ _ _ _ _ _ _ _ _ _ _ _ _ _ _ ?_ ?_ ?_ ?_ ?_ ?_ ?_ ?_ ?_ ?_) (by k_asm) (by k_asm) (by k_asm) (by k_asm) (by first|k_extra "b"|fail) (by first|k_extra "f"|fail) (by first|exact ⟨eq_52 (by k_asm) (by with_reducible assumption),eq_660 (by k_asm) (by with_reducible assumption)⟩|fail) (by k_asm) (by first|(first|exact rfl|with_reducible assumption)|fail) (by first|(first|keq_rows|ktr_room)|fail) (by first|(first|keq_rows|ktr_units)|fail) (by first|k_extra "t"|fail) (by first|(try dsimp only);with_reducible assumption|fail) ?_;k_extra "rotp";(· with_reducible assumption);k_extra "rotp";(· with_reducible assumption);k_extra "rotp";(· with_reducible assumption);k_extra "rotp";(· with_reducible assumption);k_extra "rotp";(· with_reducible assumption);k_extra "rotp";(· with_reducible assumption);k_extra "rotp";(· with_reducible assumption);k_extra "rotp";(· with_reducible assumption);k_extra "rotp";(· with_reducible assumption);k_extra "rotp";(· with_reducible assumption);intro v9ω h9ω t9ω o9ω g9ω F9ω N9ω e9ω p9ω ht9ω hg9ω;obtain ⟨hv9ω,a1ω,a2ω,a3ω,a4ω,a5ω,a6ω,a7ω,a8ω,a9ω,ho9ω⟩:=p9ω;subst hv9ω ho9ω;dsimp only [List.cons_append,List.nil_append] at N9ω))
 trivial
theorem eq_873 (w:World) (FF FD LL AA DD:Addr) (t:Q1p) (mx:Nat) (lv:Array Value) (kl:Nat) (vs:List Value) (vl:Value) (n:Nat) (u t0:Tok) (c:Nat) (op1 op2:Obj) (chs:List (List Nat×List Nat)) (cw cp:List Nat) (ls:List (List Nat)) (ts:Tok) (htb1:Qz op1) (htb2:Qz op2)
  (hz:(vs++[vl]).toArray.size≤20000) (hcp:cp≠[]) (hz1:(chs++[(cw,cp)]).length≤20000) (hz2:∀ c∈chs++[(cw,cp)],c.1.length≤200000∧c.2.length≤200000) (hz3:Q8 (chs++[(cw,cp)])≤1000000) (hpos:0<Q8 (chs++[(cw,cp)])) (hws:Txt.isspace (S (Qd (chs++[(cw,cp)])))=false)
  (hlv:lv.size≤100000) (hls:Fa2 Q1s lv.toList ls) (hz4:((ls++[Qd (chs++[(cw,cp)])]).map List.length).sum+(ls++[Qd (chs++[(cw,cp)])]).length≤1000000):
  CtQ w 5 64 [.ref FF,.str (Str.ofString "\n") ts] (Q1f w FF FD LL AA DD t mx lv kl (vs++[vl]).toArray n u t0 c op1 op2) (fun h=>Fa2 (Qc h) vs chs∧Qc h vl (cw,cp)) (fun v own=>(∃ tt,v= .str (S (Qx (ls++[Qd (chs++[(cw,cp)])]))) tt)∧∃ op1 op2,Qz op1∧Qz op2∧own=[(162,op1),(169,op2)]):=by
 k_extra "w8"
 replace F1:Fr g L1 h1 (fun y=>List.lookup y [(Str.ofString "linesep",.str (Str.ofString "\n") ts),(Str.ofString "self",.ref FF)]):=F1
 k_extra "v7"
 have hch0:Fa2 (Qc g) vs chs:=eq_34 N (eq_48 htb1 htb2) kp hpre.1
 have hlast:Qc g vl (cw,cp):=by
  have:=eq_34 N (eq_48 htb1 htb2) kp (.cons hpre.2 .nil)
  cases this with
  |cons r _=>exact r
 k_steps
 all_goals (refine' hret _ _ _ [(162,_),(169,_)] _ ?F ?N ?k ?fr ?po ?t ?g;k_extra "w4";(case po=>exact ⟨⟨_,rfl⟩,_,_,(by with_reducible assumption),(by with_reducible assumption),rfl⟩);k_extra "w5")


end
section
section
variable {prog:Program} {w:World} {A:Around} {E:Value→Shared→Prop} {s:Shared} {env:Env} {h₀:Heap} {target:Expr} {body orelse:List Stmt} {Q:Flow→Shared→Prop} {m₀:Str→Option Value} {news:List (Addr×Obj)}
theorem eq_1255:True:=by
 k_with "g13"=>have offG:True:=trivial
 k_with "g14"=>have offG:True:=trivial
 k_with "g32"=>have offG:True:=trivial
 k_with "g33"=>have offG:True:=trivial
 k_with "g52"=>have offG:True:=trivial
 k_with "g53"=>have offG:True:=trivial
 trivial
theorem eq_207 {r:Addr} {a₀ b₀ c₀:Int} {t₀ u₀ v₀:Tok} {n:Nat} (hh:A.handled=none) (F:Fr h₀ env.locals s.heap m₀) (N:News h₀ env.locals s.heap news) (ht:1≤s.toks) (hg:AllBare s.gens) (J:Nat→(Str→Option Value)→List (Addr×Obj)→Prop) (hj:J 0 m₀ news)
  (hr:IsRange s.heap r a₀ b₀ c₀ t₀ u₀ v₀) (hsmall:Builtin.Range.small a₀ b₀ c₀=true) (hn:Builtin.Range.rangeSize a₀ b₀ c₀=(n:Int))
  (turn:∀ i k t m₁ news₁ h tk g I io,i<n→k=a₀+(i:Nat)*c₀→J i m₁ news₁→Fr h₀ env.locals h m₁→News h₀ env.locals h ((I,io)::news₁)→(∀ p∈news₁,p.1≠I)→(∀ p∈news,p.1<I)→1≤tk→AllBare g→
   wpAny (model prog w) A (letOwnedTupleGo target (.ref I) (.int k t)) (fun _ s₁=>wpAny (model prog w) A (assign target env (.int k t)) (fun _ s₂=>wpAny (model prog w) A (execs body env) (Qi h₀ env.locals I io s (J (i+1)) Q) E s₂) E s₁) E ⟨h,g,s.drawn,tk,s.os⟩)
  (done:∀ m₁ news₁ h tk g,J n m₁ news₁→Fr h₀ env.locals h m₁→News h₀ env.locals h news₁→1≤tk→AllBare g→wpAny (model prog w) A (execs orelse env) Q E ⟨h,g,s.drawn,tk,s.os⟩):
  wpAny (model prog w) A (pyIter (.ref r)) (fun it s₂=>Q1t prog w A env target body orelse Q E it s₂) E s:=by
 refine wpAny_pyIter_range hr hsmall ?_
 have hnew:h₀.get? s.heap.objs.size=none:=by
  cases hq:h₀.get? s.heap.objs.size with
  |none=>rfl
  |some o'=>exact absurd (Heap.lt_size (F.keep _ _ hq)) (Nat.lt_irrefl _)
 have hL:s.heap.objs.size≠env.locals:=fun e=>absurd F.ns.lt (by rw [e];exact Nat.lt_irrefl _)
 have W:Walks prog w A s.heap.objs.size [s.heap.objs.size] [s.heap.objs.size] n (fun i v=>i<n∧∃ t,v= .int (a₀+i*c₀) t)
   (fun i h=>IsRangeIter h s.heap.objs.size (a₀+(i:Nat)*c₀) ((n:Int)-(i:Nat)) c₀):=(Walks.range hh _ a₀ c₀ n).bound
 refine eq_97 (h₀:=h₀) (m₀:=m₀) (news:=news) W (fun h=>hL (List.mem_singleton.mp h).symm) (fun b hb=>by rw [List.mem_singleton.mp hb];exact hnew) J (by show IsRangeIter _ _ _ _ _;rw [hn];simpa using Heap.get?_push_size _ rfl) (F.push _) (fun p hp=>⟨Heap.get?_push_of_some _ (N p hp).1,(N p hp).2⟩)
  (fun p hp h=>absurd (Heap.lt_size (N p hp).1) ((List.mem_singleton.mp h)▸Nat.lt_irrefl _)) hj ht hg (fun i v m₁ news₁ h tk g hi hP hJ hst F₁ N₁ hnw htk hg'=>?_) fun m₁ news₁ h tk g hJ F₁ N₁ htk hg'=>done m₁ news₁ h tk g hJ F₁ N₁ htk hg'
 obtain ⟨_,t,rfl⟩:=hP
 have hst':=hst
 have N₂:=eq_95 F₁ N₁ hst' hL hnew
 refine wpAny_mono (turn i _ t m₁ news₁ h tk g _ _ hi rfl hJ F₁ N₂ (fun p hp e=>hnw p hp (List.mem_singleton.mpr e)) (fun p hp=>Heap.lt_size (N p hp).1) htk hg') (fun _ s₁ a₁=>wpAny_mono a₁ (fun _ s₂ a₂=>wpAny_mono a₂ (fun f s₃ a₃=>?_) fun _ _ e=>e) fun _ _ e=>e) fun _ _ e=>e
 exact Qi.toLoop (s:=s) (fun h' m' news' F' N' _=>(N' _ (.head _)).1) a₃
end
noncomputable def Q1j (c:List Nat×List Nat):Bool:=c.1.head?==some 32
noncomputable def Qf (l:List (List Nat×List Nat)):Nat→Option Nat
 |0=>none
 |i+1=>if Q1j (l.getD (i+1) ([],[])) then some (i+1) else Qf l i


end
section
open PyProof.Rows.LCg
section
variable {prog:Program} {w:World} {A:Around} {E:Value→Shared→Prop} {s:Shared} {h₀:Heap} {L:Addr} {m:Str→Option Value} {env:Env} {news:List (Addr×Obj)}
theorem eq_1266:True:=by
 k_with "g54"=>skip
 k_with "dl_mem"=>((fail_if_success (k_extra "g54";clear offG));first|(with_reducible first|(apply eq_994<;>assumption)|(apply eq_893<;>assumption)|(apply eq_976<;>assumption)|(apply eq_695<;>assumption)|(apply eq_989<;>assumption)|(apply eq_630<;>assumption)|(apply eq_128<;>assumption)|(apply eq_456<;>assumption)|apply eq_37|(apply eq_138<;>assumption)|(apply eq_957<;>assumption)|(apply eq_874<;>assumption)|(apply eq_260<;>assumption)|fail)|(with_reducible apply eq_138;rotate_left;all_goals assumption)|(apply eq_138<;>assumption)|fail)
 trivial
theorem eq_633 {elt target Q11:PySem.Expr} {scope:Scope} {pos:Pos} {it acc:Value} {env:Env} {R:Result→Shared→Prop} (I:Nat→Shared→Prop)
  (turn:∀ n s,I n s→wpAny (model prog w) A (pyNext it) (fun r s₁=>match r with
   |none=>R (.ok .next) s₁
   |some v=>wpAny (model prog w) A (letOwnedTupleGo target it v) (fun _ s₁'=>wpAny (model prog w) A (assign target env v) (fun _ s₂=>wpAny (model prog w) A (eval elt env) (fun x s₃=>
     wpAny (model prog w) A (call (.builtin "list.append") [acc,x]) (fun _ s₄=>∃ m,m<n∧I m s₄) (notedBy (model prog w) A env fun e s'=>R (.error e) s') s₃)
     (notedBy (model prog w) A env fun e s'=>R (.error e) s') s₂) (notedBy (model prog w) A env fun e s'=>R (.error e) s') s₁') (notedBy (model prog w) A env fun e s'=>R (.error e) s') s₁) (notedBy (model prog w) A env fun e s'=>R (.error e) s') s)
  (n:Nat) (h:I n s):codeAny (model prog w) A (.compLoop (.ListComp elt [⟨target,Q11,[],0⟩] scope pos) 0 it acc env) R s:=by
 refine codeAny_loop rfl I (fun n s hI=>?_) n h
 show wpAny _ _ ((compTurn (.ListComp elt [⟨target,Q11,[],0⟩] scope pos) 0 it acc env).onRaise (fun x=>do noteFrame x env;theTreesLotGoes x)) _ _ s
 refine wpAny_noted ?_
 rw [compTurn_list1]
 refine wpAny_bind (wpAny_standAt (wpAny_bind (wpAny_mono (turn n s hI) (fun r s₁ h₁=>?_) fun _ _ h'=>h')))
 cases r with
 |none=>exact wpAny_pure h₁
 |some v=>
  exact wpAny_bind (wpAny_mono h₁ (fun _ s₁' h₁'=>wpAny_bind (wpAny_mono h₁' (fun _ s₂ h₂=>wpAny_bind (wpAny_bind (wpAny_mono h₂ (fun x s₃ h₃=>wpAny_bind (wpAny_mono h₃
   (fun _ s₄ h₄=>wpAny_pure (wpAny_pure ⟨rfl,h₄⟩)) fun _ _ h'=>h')) fun _ _ h'=>h'))) fun _ _ h'=>h')) fun _ _ h'=>h')
noncomputable def CEnd (h₀:Heap) (L:Addr) (m:Str→Option Value) (s:Shared) (I:Addr) (oI:Obj) (C D:Addr) (ys:List Value) (J:List Value→List (Addr×Obj)→Prop) (y:Value) (s₂:Shared):Prop:=
 ∃ h' tk g' news' oC m',s₂=⟨h',g',s.drawn,tk,s.os⟩∧NsObj oC m'∧Fr h₀ L h' m∧News h₀ L h' ((I,oI)::(C,oC)::(D,lst ys)::news')∧(∀ p∈news',p.1≠I∧p.1≠C∧p.1≠D)∧1≤tk∧AllBare g'∧J (ys++[y]) news'
theorem eq_389 {elt target Q11:PySem.Expr} {scope:Scope} {cl:List (Str×Addr)} {pos:Pos} {I:Addr} {fp:List Addr} {n:Nat} {P:Nat→Value→Prop} {St:Nat→Heap→Prop} {RR:Value→Addr→Result→Shared→Prop}
  (W:Walks prog w A I fp [I] n P St) (hsz:n≤1000000) (hcell:∀ y∈scope.names,y.2≠ .cell) (hkind:scope.kind= .function) (hst:St 0 s.heap) (hfp:∀ b∈fp,b<s.heap.objs.size) (hIo:∀ i h,St i h→∃ o,h.get? I=some o)
  (F:Fr h₀ L s.heap m) (N:News h₀ L s.heap news) (hIL:L≠I) (hI₀:h₀.get? I=none) (off:∀ p∈news,p.1≠I) (ht:1≤s.toks) (hg:AllBare s.gens)
  (J:Nat→List Value→List (Addr×Obj)→Prop) (hj:J 0 [] news) (hSt:∀ i h h' oI ys nw,St i h→h.get? I=some oI→h'.get? I=some oI→Fr h₀ L h' m→News h₀ L h' nw→J i ys nw→St i h')
  (turn:∀ i v ys news₁ h tk g C oC D m₂ oI (E':Value→Shared→Prop),i<n→P i v→J i ys news₁→NsObj oC m₂→Fr h₀ L h m→News h₀ L h ((I,oI)::(C,oC)::(D,lst ys)::news₁)→St (i+1) h→(∀ p∈news₁,p.1≠I∧p.1≠C∧p.1≠D)→@Ne Nat I C→@Ne Nat I D→@Ne Nat C D→1≤tk→AllBare g→
   wpAny (model prog w) A (letOwnedTupleGo target (.ref I) v) (fun _ s₁=>wpAny (model prog w) A (assign target (compEnvC scope cl C env) v) (fun _ s₂=>wpAny (model prog w) A (eval elt (compEnvC scope cl C env)) (CEnd h₀ L m s I oI C D ys (J (i+1))) E' s₂) E' s₁) E' ⟨h,g,s.drawn,tk,s.os⟩)
  (hRR:∀ D C h tk g m' ys news',J n ys news'→Fr h₀ L h m→News h₀ L h ((D,lst ys)::news')→(∀ p∈news',p.1≠D)→h.Ns C m'→h₀.get? C=none→C≠L→C≠D→(∀ p∈news',p.1≠C)→1≤tk→AllBare g→RR (.ref D) C (.ok .next) ⟨h,g,s.drawn,tk,s.os⟩):
  wpAny (model prog w) A (newList []) (fun acc s₃=>wpAny (model prog w) A (newFunctionEnv scope env.globals cl [] env.qual none .none (some env)) (fun cenv s₄=>
   codeAny (model prog w) A (.compStart (.ListComp elt [⟨target,Q11,[],0⟩] scope pos) 0 (.ref I) acc { cenv with scope:=relabel scope env }) (RR acc cenv.locals) s₄) E s₃) E s:=by
 refine wpAny_newObj_type (wpAny_newFunctionEnv hcell (by intro y hy;simp at hy) (fun h₁ hns₁ hsb₁=>?_) hkind)
 dsimp only at hns₁ hsb₁ ⊢
 generalize hH:s.heap.push { cls:=.type "list",dict:=none,data:=.seq ([]:List Value).toArray }=H at hns₁ hsb₁ ⊢
 have hC:H.objs.size=s.heap.objs.size+1:=by rw [←hH,Heap.size_push]
 have lt1:∀ b o,s.heap.get? b=some o→@LT.lt Nat _ b s.heap.objs.size:=fun b o e=>Heap.lt_size e
 have lt0:∀ b o,h₀.get? b=some o→@LT.lt Nat _ b s.heap.objs.size:=fun b o e=>Heap.lt_size (F.keep b o e)
 have hfp':∀ b∈fp,@LT.lt Nat _ b s.heap.objs.size:=hfp
 have hIlt:@LT.lt Nat _ I s.heap.objs.size:=hfp I (W.sub I (List.mem_singleton.mpr rfl))
 have hLlt:@LT.lt Nat _ L s.heap.objs.size:=F.ns.lt
 have old:∀ b o,s.heap.get? b=some o→h₁.get? b=some o:=fun b o e=>hsb₁.extBut b o (Nat.ne_of_lt (by have:=lt1 b o e;show @LT.lt Nat _ b H.objs.size;keq_rows)) (Heap.get?_push_of_some _ (hH▸Heap.get?_push_of_some _ e))
 have hDC:s.heap.objs.size≠H.objs.size:=Nat.ne_of_lt (by keq_rows)
 have hacc:h₁.get? s.heap.objs.size=some (lst []):=hsb₁.extBut _ _ hDC (Heap.get?_push_of_some _ (hH▸Heap.get?_push_size _ rfl))
 have none₀:∀ a:Addr,@LE.le Nat _ s.heap.objs.size a→h₀.get? a=none:=fun a ha=>by
  cases e:h₀.get? a with
  |none=>rfl
  |some o=>have:=lt0 a o e;keq_rows
 have hD₀:=none₀ s.heap.objs.size (Nat.le_refl _)
 have hC₀:=none₀ H.objs.size (by keq_rows)
 have hDL:s.heap.objs.size≠L:=fun e=>by have e:@Eq Nat s.heap.objs.size L:=e;keq_rows
 have hCL:H.objs.size≠L:=fun e=>by have e:@Eq Nat H.objs.size L:=e;keq_rows
 have hIC:@Ne Nat I H.objs.size:=by keq_rows
 have hID:@Ne Nat I s.heap.objs.size:=by keq_rows
 have hCf:H.objs.size∉fp:=fun hm=>by have:=hfp' _ hm;keq_rows
 have hDf:s.heap.objs.size∉fp:=fun hm=>by have:=hfp' _ hm;keq_rows
 have N₁:News h₀ L h₁ ((s.heap.objs.size,lst [])::news):=List.forall_mem_cons.mpr ⟨⟨hacc,hDL,hD₀⟩,fun p hp=>⟨old _ _ (N p hp).1,(N p hp).2⟩⟩
 have off₁:∀ p∈news,p.1≠I∧p.1≠H.objs.size∧p.1≠s.heap.objs.size:=fun p hp=>⟨off p hp,fun e=>by have:=lt1 _ _ (N p hp).1;have e:@Eq Nat p.1 H.objs.size:=e;keq_rows,fun e=>by have:=lt1 _ _ (N p hp).1;have e:@Eq Nat p.1 s.heap.objs.size:=e;keq_rows⟩
 have hst₁:St 0 h₁:=W.frame _ _ _ hst fun b _ o e=>old b o e
 have goL:codeAny (model prog w) A (.compLoop (.ListComp elt [⟨target,Q11,[],0⟩] scope pos) 0 (.ref I) (.ref s.heap.objs.size) (compEnvC scope cl H.objs.size env)) (RR (.ref s.heap.objs.size) H.objs.size)
   { s with heap:=h₁,toks:=s.toks+([]:List (Str×Value)).length }:=by
  refine eq_633 (fun k s'=>∃ h' tk g i ys m' news',s'=⟨h',g,s.drawn,tk,s.os⟩∧i≤n∧k=n+1-i∧ys.length=i∧St i h'∧Fr h₀ L h' m∧h'.Ns H.objs.size m'∧News h₀ L h' ((s.heap.objs.size,lst ys)::news')∧
    (∀ p∈news',p.1≠I∧p.1≠H.objs.size∧p.1≠s.heap.objs.size)∧1≤tk∧AllBare g∧J i ys news') ?_ (n+1)
   ⟨h₁,_,_,0,[],_,news,rfl,Nat.zero_le _,rfl,rfl,hst₁,F.keeps old,hns₁,N₁,off₁,ht,hg,hj⟩
  (intro k s' zq1;obtain ⟨h',tk,g,i,ys,m',news',rfl,hi,rfl,hyl,hst',F',hn',N',off',ht',hg',hJ⟩:=zq1)
  have nx:∀ h₂:Heap,(∀ b o,b∉[I]→h'.get? b=some o→h₂.get? b=some o)→Fr h₀ L h₂ m∧h₂.Ns H.objs.size m'∧News h₀ L h₂ ((s.heap.objs.size,lst ys)::news'):=fun h₂ hk₂=>by
   refine ⟨fr_but F' hk₂ hIL hI₀,hn'.at' fun o e=>hk₂ _ o (fun q=>hIC (List.mem_singleton.mp q).symm) e,news_but N' hk₂ (List.forall_mem_cons.mpr ⟨fun e=>hID e.symm,fun p hp=>(off' p hp).1⟩)⟩
  refine wpAny_with_toks (n:=1) ht' ?_
  by_cases hlt:i<n
  ·refine W.item i _ _ _ hlt hst' fun v h₂ tk₂ hP hst₂ hk₂ ht₂=>?_
   (refine eq_27 (nx h₂ hk₂) fun F₂ hn₂ N₂=>?_)
   (refine eq_5 (hIo _ _ hst₂) fun oI heI=>?_)
   (refine eq_4 (ns_obj hn₂) fun oC heC hoC=>?_)
   have N₃:News h₀ L h₂ ((I,oI)::(H.objs.size,oC)::(s.heap.objs.size,lst ys)::news'):=List.forall_mem_cons.mpr ⟨⟨heI,Ne.symm hIL,hI₀⟩,List.forall_mem_cons.mpr ⟨⟨heC,hCL,hC₀⟩,N₂⟩⟩
   refine wpAny_mono (turn i v ys news' h₂ tk₂ g H.objs.size oC s.heap.objs.size m' oI _ hlt hP hJ hoC F₂ N₃ hst₂ off' hIC hID (Ne.symm hDC) ht₂ hg') (fun _ s₁ a₁=>wpAny_mono a₁ (fun _ s₂ a₂=>wpAny_mono a₂ (fun y s₃ a₃=>?_) fun _ _ e=>e) fun _ _ e=>e) fun _ _ e=>e
   obtain ⟨h₄,tk₄,g₄,news₄,oC₄,m₄,rfl,hoC₄,F₄,N₄,off₄,ht₄,hg₄,hJ₄⟩:=a₃
   have zI:=(N₄ (I,oI) (.head _)).1
   have zC:=(N₄ (H.objs.size,oC₄) (.tail _ (.head _))).1
   have zD:=(N₄ (s.heap.objs.size,lst ys) (.tail _ (.tail _ (.head _)))).1
   have N₄':News h₀ L h₄ news₄:=fun p hp=>N₄ p (.tail _ (.tail _ (.tail _ hp)))
   have hst₄:St (i+1) h₄:=hSt _ _ _ _ _ _ hst₂ heI zI F₄ N₄' hJ₄
   refine append_at (hsz:=by show ys.toArray.size≤sizeLine;rw [List.size_toArray,hyl,sizeLine_eq];keq_rows) zD fun h₅ hs₅ hD₅=>?_
   refine ⟨n+1-(i+1),by keq_rows,h₅,tk₄,g₄,i+1,ys++[y],_,news₄,rfl,hlt,rfl,by rw [List.length_append,List.length_singleton,hyl],W.frame _ _ _ hst₄ fun b hb o e=>hs₅.extBut b o (fun q=>hDf (q▸hb)) e,F₄.change hs₅ hDL hD₀,
    (hoC₄.ns zC).sameBut hs₅ (Ne.symm hDC),List.forall_mem_cons.mpr ⟨⟨hD₅.trans (congrArg some (lst_snoc ys y)),hDL,hD₀⟩,fun p hp=>⟨hs₅.extBut _ _ (off₄ p hp).2.2 (N₄' p hp).1,(N₄' p hp).2⟩⟩,off₄,ht₄,hg₄,hJ₄⟩
  ·obtain rfl:i=n:=Nat.le_antisymm hi (Nat.not_lt.mp hlt)
   refine W.done _ _ _ hst' fun h₂ tk₂ hk₂ ht₂=>?_
   (refine eq_27 (nx h₂ hk₂) fun F₂ hn₂ N₂=>?_)
   exact hRR _ _ h₂ tk₂ g m' ys news' hJ F₂ N₂ (fun p hp=>(off' p hp).2.2) hn₂ hC₀ hCL (Ne.symm hDC) (fun p hp=>(off' p hp).2.1) ht₂ hg'
 exact codeAny_compStart_list goL (W.self 0 _ _ _ hst₁ goL)
end


end
section
open PyProof.Rows.LCg
section
variable {prog:Program} {w:World} {A:Around} {E:Value→Shared→Prop} {s:Shared} {h₀:Heap} {L:Addr} {m:Str→Option Value} {env:Env} {news:List (Addr×Obj)}
theorem eq_1311:True:=by
 k_with "g54"=>have offG:True:=trivial
 trivial
noncomputable def Q2x (prog:Program) (w:World) (A:Around) (env:Env) (elt target Q11:PySem.Expr) (scope:Scope) (pos:Pos) (cl:List (Str×Addr)) (use:Option (Value→Sem Unit)) (Q E:Value→Shared→Prop) (it:Value) (s:Shared):Prop:=
 wpAny (model prog w) A (newList []) (fun acc s₃=>wpAny (model prog w) A (newFunctionEnv scope env.globals cl [] env.qual none .none (some env)) (fun cenv s₄=>
  codeAny (model prog w) A (.compStart (.ListComp elt [⟨target,Q11,[],0⟩] scope pos) 0 it acc { cenv with scope:=relabel scope env }) (compPost (model prog w) A E use Q acc cenv.locals) s₄) E s₃) E s
theorem eq_111 {elt target Q11:PySem.Expr} {scope:Scope} {pos:Pos} {cl:List (Str×Addr)} {Q:Value→Shared→Prop} (hclos:closureFor scope env=pure cl) (hkind:scope.kind= .function) (hnames:∀ y∈scope.names,y.2= .local→scope.names.lookup y.1=some .local)
  (h:wpAny (model prog w) A (eval Q11 env) (fun x s₁=>wpAny (model prog w) A (pyIter x) (Q2x prog w A env elt target Q11 scope pos cl none Q E) E s₁) E s) (hs:∀ x,foldedSetIterable Q11 env x=pure x:=by intro _;rfl):
  wpAny (model prog w) A (eval (.ListComp elt [⟨target,Q11,[],0⟩] scope pos) env) Q E s:=by
 rw [eval_ListComp]
 exact wpAny_comprehension_free (use:=none) rfl hs hclos hkind hnames h
theorem eq_885 {elt target Q11:PySem.Expr} {y:Str} {py spos:Pos} {scope:Scope} {pos:Pos} {cl:List (Str×Addr)} {Q:Flow→Shared→Prop} (hsw:swapsWith (.ListComp elt [⟨target,Q11,[],0⟩] scope pos) (some (.Name y py)) spos.line env=pure true)
  (hclos:closureFor scope env=pure cl) (hkind:scope.kind= .function) (hnames:∀ y∈scope.names,y.2= .local→scope.names.lookup y.1=some .local)
  (h:wpAny (model prog w) A (eval Q11 env) (fun x s₁=>wpAny (model prog w) A (pyIter x) (Q2x prog w A env elt target Q11 scope pos cl (some (assign (.Name y py) env)) (fun _ s'=>Q .next s') E) E s₁) E s) (hs:∀ x,foldedSetIterable Q11 env x=pure x:=by intro _;rfl):
  wpAny (model prog w) A (exec (.Assign [.Name y py] (.ListComp elt [⟨target,Q11,[],0⟩] scope pos) spos) env) Q E s:=by
 rw [exec_Assign_Name_used _ _ _ _ hsw]
 refine wpAny_bind (wpAny_standAt (wpAny_bind ?_))
 show wpAny _ A (do let _ ←comprehension (.ListComp elt [⟨target,Q11,[],0⟩] scope pos) scope env _ (newList []) false (eval Q11 env) (some (assign (.Name y py) env))) _ _ s
 exact wpAny_bind (wpAny_mono (wpAny_comprehension_free (use:=some (assign (.Name y py) env)) (Q:=fun _ s'=>Q .next s') rfl hs hclos hkind hnames h) (fun _ s' hq=>wpAny_pure (wpAny_pure hq)) fun _ _ e=>e)
noncomputable def Q3k (prog:Program) (w:World) (A:Around) (env:Env) (h₀:Heap) (L:Addr) (m:Str→Option Value) (E:Value→Shared→Prop) (s:Shared) (use:Option (Value→Sem Unit)) (Q:Value→Shared→Prop) (n:Nat) (J:Nat→List Value→List (Addr×Obj)→Prop):Prop:=
 match use with
 |none=>∀ D h tk g ys news',J n ys news'→Fr h₀ L h m→News h₀ L h ((D,lst ys)::news')→(∀ p∈news',p.1≠D)→1≤tk→AllBare g→Q (.ref D) ⟨h,g,s.drawn,tk,s.os⟩
 |some u=>∀ D C h tk g ys news',J n ys news'→Fr h₀ L h m→News h₀ L h ((D,lst ys)::news')→(∀ p∈news',p.1≠D)→C≠L→h₀.get? C=none→C≠D→(∀ p∈news',p.1≠C)→(∃ m',h.Ns C m')→1≤tk→AllBare g→
   wpAny (model prog w) A (u (.ref D)) (fun _ s''=>∃ m',s''.heap.Ns C m'∧∀ h',Heap.SameBut C s''.heap h'→Q .none { s'' with heap:=h' }) E ⟨h,g,s.drawn,tk,s.os⟩
theorem eq_304 {n:Nat} {use:Option (Value→Sem Unit)} {Q:Value→Shared→Prop} {J:Nat→List Value→List (Addr×Obj)→Prop} (k:Q3k prog w A env h₀ L m E s use Q n J):
  ∀ D C h tk g m' ys news',J n ys news'→Fr h₀ L h m→News h₀ L h ((D,lst ys)::news')→(∀ p∈news',p.1≠D)→h.Ns C m'→h₀.get? C=none→C≠L→C≠D→(∀ p∈news',p.1≠C)→1≤tk→AllBare g→compPost (model prog w) A E use Q (.ref D) C (.ok .next) ⟨h,g,s.drawn,tk,s.os⟩:=by
 intro D C h tk g m' ys news' hJ F N hD hn hC₀ hCL hCD hC ht hg
 cases use with
 |none=>
  refine ⟨m',hn,fun h' hs=>?_⟩
  refine k D h' tk g ys news' hJ (F.change hs hCL hC₀) (fun p hp=>⟨hs.extBut _ _ ?_ (N p hp).1,(N p hp).2⟩) hD ht hg
  k_extra "v0"
  ·exact Ne.symm hCD
  ·exact hC p hp
 |some u=>exact k D C h tk g ys news' hJ F N hD hCL hC₀ hCD hC ⟨m',hn⟩ ht hg
theorem eq_86 {elt target Q11:PySem.Expr} {scope:Scope} {cl:List (Str×Addr)} {pos:Pos} {use:Option (Value→Sem Unit)} {Q:Value→Shared→Prop} {ax:Addr} {vs:List Value} (hh:A.handled=none) (hl:s.heap.IsList ax vs.toArray) (hsz:vs.length≤1000000) (hcell:∀ y∈scope.names,y.2≠ .cell) (hkind:scope.kind= .function)
  (F:Fr h₀ L s.heap m) (N:News h₀ L s.heap news) (ht:1≤s.toks) (hg:AllBare s.gens)
  (J:Nat→List Value→List (Addr×Obj)→Prop) (hj:J 0 [] news) (hk:∀ i h ys nw,J i ys nw→Fr h₀ L h m→News h₀ L h nw→h.IsList ax vs.toArray)
  (turn:∀ i v ys news₁ h tk g I C oC D m₂ oI (E':Value→Shared→Prop),vs[i]?=some v→J i ys news₁→NsObj oC m₂→Fr h₀ L h m→News h₀ L h ((I,oI)::(C,oC)::(D,lst ys)::news₁)→h.IsListIter I ax (i+1)→(∀ p∈news₁,p.1≠I∧p.1≠C∧p.1≠D)→@Ne Nat I C→@Ne Nat I D→@Ne Nat C D→1≤tk→AllBare g→
   wpAny (model prog w) A (letOwnedTupleGo target (.ref I) v) (fun _ s₁=>wpAny (model prog w) A (assign target (compEnvC scope cl C env) v) (fun _ s₂=>wpAny (model prog w) A (eval elt (compEnvC scope cl C env)) (CEnd h₀ L m s I oI C D ys (J (i+1))) E' s₂) E' s₁) E' ⟨h,g,s.drawn,tk,s.os⟩)
  (done:Q3k prog w A env h₀ L m E s use Q vs.length J):
  wpAny (model prog w) A (pyIter (.ref ax)) (Q2x prog w A env elt target Q11 scope pos cl use Q E) E s:=by
 refine wpAny_pyIter_list hl ?_
 have hnew:h₀.get? s.heap.objs.size=none:=by
  cases hq:h₀.get? s.heap.objs.size with
  |none=>rfl
  |some o'=>exact absurd (Heap.lt_size (F.keep _ _ hq)) (Nat.lt_irrefl _)
 obtain ⟨ol,hol,hcl,nl,hdl⟩:=id hl
 have hlt:ax<s.heap.objs.size:=Heap.lt_size hol
 have hne:ax≠s.heap.objs.size:=Nat.ne_of_lt hlt
 have W:=Walks.list (prog:=prog) (w:=w) hh s.heap.objs.size ax hne vs.toArray
 k_extra "v1y"
 refine eq_389 (s:=⟨s.heap.push _,s.gens,s.drawn,s.toks,s.os⟩) (h₀:=h₀) (L:=L) (m:=m) (news:=news) W hsz hcell hkind ⟨⟨_,Heap.get?_push_size _ rfl,rfl,rfl⟩,hl.push _⟩ (fun b hb=>?_) (fun i h st=>by (refine eq_4 (st.1) fun o e _=>?_);exact ⟨o,e⟩) (F.push _) (fun p hp=>⟨Heap.get?_push_of_some _ (N p hp).1,(N p hp).2⟩)
  (fun e=>absurd F.ns.lt (by rw [e];exact Nat.lt_irrefl _)) hnew (fun p hp e=>absurd (Heap.lt_size (N p hp).1) (by rw [e];exact Nat.lt_irrefl _)) ht hg J hj (fun i h h' oI ys nw st e e' F' N' hJ=>⟨?_,hk i h' ys nw hJ F' N'⟩) (fun i v ys news₁ h tk g C oC D m₂ oI E' hi hP hJ hoC F₁ N₁ hst₁ off h1 h2 h3 htk hg₁=>?_) (eq_304 (env:=env) (s:=⟨s.heap.push _,s.gens,s.drawn,s.toks,s.os⟩) (n:=vs.length) (J:=J) done)
 ·show b<(s.heap.push _).objs.size
  rw [Heap.size_push]
  k_extra "v1n"
  ·exact Nat.lt_succ_self _
  ·rw [List.mem_singleton.mp hb];exact Nat.lt_succ_of_lt hlt
 ·(refine eq_4 (st.1) fun o' q r=>?_)
  rw [e] at q;cases q
  exact ⟨oI,e',r⟩
 ·exact turn i v ys news₁ h tk g _ C oC D m₂ oI E' (by simpa using hP) hJ hoC F₁ N₁ hst₁.1 off h1 h2 h3 htk hg₁
theorem eq_665 {y:Str} {py:Pos} {n:Nat} {J:Nat→List Value→List (Addr×Obj)→Prop} {Q:Flow→Shared→Prop} (hL:env.locals=L) (hy:env.kindOf y=some .local) (hp:(env.scope.kind== .class||(env.scope.kind== .module&&env.locals != env.globals))=false)
  (k:∀ D h tk g ys news',J n ys news'→Fr h₀ L h (fun z=>if z=y then some (.ref D) else m z)→News h₀ L h ((D,lst ys)::news')→(∀ p∈news',p.1≠D)→1≤tk→AllBare g→Q .next ⟨h,g,s.drawn,tk,s.os⟩):
  Q3k prog w A env h₀ L m E s (some (assign (.Name y py) env)) (fun _ s'=>Q .next s') n J:=by
 subst hL
 intro D C h tk g ys news' hJ F N hD hCL hC₀ hCD hC hn ht hg
 (revert hn;intro zq1;(refine eq_5 (zq1) fun m' hn=>?_;(try clear zq1)))
 k_extra "v20"
 refine wpAny_assign_Name (wpAny_storeName_local hy F.ns (fun h₂ hn₂ hs₂=>?_) hp)
 intro ht₂
 have F₂:=F.set hn₂ hs₂
 have N₂:=N.set hs₂
 refine ⟨m',hn.sameBut hs₂ hCL,fun h'' hs''=>?_⟩
 refine k D h'' _ g ys news' hJ (F₂.change hs'' hCL hC₀) (fun p hp=>⟨hs''.extBut _ _ ?_ (N₂ p hp).1,(N p hp).2⟩) hD ht₂ hg
 k_extra "v0"
 ·exact Ne.symm hCD
 ·exact hC p hp
theorem eq_475 {elt target Q11:PySem.Expr} {scope:Scope} {cl:List (Str×Addr)} {pos:Pos} {use:Option (Value→Sem Unit)} {Q:Value→Shared→Prop} {l:List Nat} {t:Tok} (hh:A.handled=none) (hsz:l.length≤1000000) (hcell:∀ y∈scope.names,y.2≠ .cell) (hkind:scope.kind= .function)
  (F:Fr h₀ L s.heap m) (N:News h₀ L s.heap news) (ht:1≤s.toks) (hg:AllBare s.gens)
  (J:Nat→List Value→List (Addr×Obj)→Prop) (hj:J 0 [] news)
  (turn:∀ i c u ys news₁ h tk g I C oC D m₂ oI (E':Value→Shared→Prop),l[i]?=some c→J i ys news₁→NsObj oC m₂→Fr h₀ L h m→News h₀ L h ((I,oI)::(C,oC)::(D,lst ys)::news₁)→(∀ p∈news₁,p.1≠I∧p.1≠C∧p.1≠D)→@Ne Nat I C→@Ne Nat I D→@Ne Nat C D→1≤tk→AllBare g→
   wpAny (model prog w) A (letOwnedTupleGo target (.ref I) (.str (S [c]) u)) (fun _ s₁=>wpAny (model prog w) A (assign target (compEnvC scope cl C env) (.str (S [c]) u)) (fun _ s₂=>wpAny (model prog w) A (eval elt (compEnvC scope cl C env)) (CEnd h₀ L m s I oI C D ys (J (i+1))) E' s₂) E' s₁) E' ⟨h,g,s.drawn,tk,s.os⟩)
  (done:Q3k prog w A env h₀ L m E s use Q l.length J):
  wpAny (model prog w) A (pyIter (.str (S l) t)) (Q2x prog w A env elt target Q11 scope pos cl use Q E) E s:=by
 refine wpAny_pyIter_strU ?_
 have hnew:h₀.get? s.heap.objs.size=none:=by
  cases hq:h₀.get? s.heap.objs.size with
  |none=>rfl
  |some o'=>exact absurd (Heap.lt_size (F.keep _ _ hq)) (Nat.lt_irrefl _)
 have hsz':(S l).cps.size=l.length:=eq_9 l
 have go:∀ ty,(strIterType (S l)=ty)→Walks prog w A s.heap.objs.size [s.heap.objs.size] [s.heap.objs.size] (S l).cps.size (SignAt (S l)) (fun i h=>h.IsStrIter s.heap.objs.size ty (S l) t i)→
   Q2x prog w A env elt target Q11 scope pos cl use Q E (.ref s.heap.objs.size) { s with heap:=s.heap.push { cls:=.type (strIterType (S l)),data:=.fields #[.str (S l) t,.int 0 0] } }:=by
  intro ty hty W
  rw [hsz'] at W
  refine eq_389 (s:=⟨s.heap.push _,s.gens,s.drawn,s.toks,s.os⟩) (h₀:=h₀) (L:=L) (m:=m) (news:=news) W hsz hcell hkind ⟨_,Heap.get?_push_size _ rfl,by rw [hty],rfl⟩ (fun b hb=>?_) (fun i h st=>by (refine eq_4 (st) fun o e _=>?_;(try clear st));exact ⟨o,e⟩) (F.push _) (fun p hp=>⟨Heap.get?_push_of_some _ (N p hp).1,(N p hp).2⟩)
   (fun e=>absurd F.ns.lt (by rw [e];exact Nat.lt_irrefl _)) hnew (fun p hp e=>absurd (Heap.lt_size (N p hp).1) (by rw [e];exact Nat.lt_irrefl _)) ht hg J hj (fun i h h' oI ys nw st e e' F' N' hJ=>?_) (fun i v ys news₁ h tk g C oC D m₂ oI E' hi hP hJ hoC F₁ N₁ hst₁ off h1 h2 h3 htk hg₁=>?_) (eq_304 (env:=env) (s:=⟨s.heap.push _,s.gens,s.drawn,s.toks,s.os⟩) (n:=l.length) (J:=J) done)
  ·show b<(s.heap.push _).objs.size
   rw [Heap.size_push,List.mem_singleton.mp hb]
   exact Nat.lt_succ_self _
  ·(refine eq_4 (st) fun o' q r=>?_;(try clear st))
   rw [e] at q;cases q
   exact ⟨oI,e',r⟩
  ·(refine eq_14 (hP) fun c u hc zq2=>?_;(try clear hP);subst zq2)
   exact turn i c u ys news₁ h tk g _ C oC D m₂ oI E' (by simpa [S] using hc) hJ hoC F₁ N₁ off h1 h2 h3 htk hg₁
 cases ha:(S l).cps.all (· <128) with
 |true=>exact go _ (by simp [strIterType,ha]) (Walks.strAscii hh _ _ _)
 |false=>exact go _ (by simp [strIterType,ha]) (Walks.strWide hh _ _ _)
theorem eq_1065 {x:Str} {pos:Pos} {scope:Scope} {cl:List (Str×Addr)} {C:Addr} {oC:Obj} {m':Str→Option Value} {v:Value} {Q:Value→Shared→Prop} (N:News h₀ L s.heap news) (hm:(C,oC)∈news) (hoC:NsObj oC m') (hv:m' x=some v) (h:Q v s) (hx:scope.names.lookup x=some .local) (hkind:scope.kind= .function)
  (hd:(x==("__debug__":Str))=false:=by decide):wpAny (model prog w) A (eval (.Name x pos) (compEnvC scope cl C env)) Q E s:=
 wpAny_Name (wpAny_loadName_local (by simp [compEnvC,relabel,hkind]) (lookup_relabel_local hx) (hoC.ns (N _ hm).1) hv h) hd
theorem eq_1166 {x:Str} {px:Pos} {scope:Scope} {cl:List (Str×Addr)} {C I D:Addr} {oI oC oD:Obj} {v:Value} {h:Heap} {g:Array GenState} {d:Drawn} {tk:Nat} {o:OsState} {elt:PySem.Expr} {R:Value→Shared→Prop} {m₂:Str→Option Value} (hx:scope.names.lookup x=some .local) (hkind:scope.kind= .function)
  (hoC:NsObj oC m₂) (F:Fr h₀ L h m) (N:News h₀ L h ((I,oI)::(C,oC)::(D,oD)::news)) (off:∀ p∈news,p.1≠I∧p.1≠C∧p.1≠D) (h1:@Ne Nat I C) (h3:@Ne Nat C D) (ht:1≤tk)
  (k:∀ h' tk' oC',1≤tk'→NsObj oC' (fun y=>if y=x then some v else m₂ y)→Fr h₀ L h' m→News h₀ L h' ((I,oI)::(C,oC')::(D,oD)::news)→wpAny (model prog w) A (eval elt (compEnvC scope cl C env)) R E ⟨h',g,d,tk',o⟩):
  wpAny (model prog w) A (letOwnedTupleGo (.Name x px) (.ref I) v) (fun _ s₁=>wpAny (model prog w) A (assign (.Name x px) (compEnvC scope cl C env) v) (fun _ s₂=>wpAny (model prog w) A (eval elt (compEnvC scope cl C env)) R E s₂) E s₁) E ⟨h,g,d,tk,o⟩:=by
 refine wpAny_of_eq (rfl:letOwnedTupleGo (.Name x px) (.ref I) v=pure ()) ?_
 k_extra "v20"
 have zC:=N (C,oC) (.tail _ (.head _))
 refine wpAny_assign_Name (wpAny_storeName_local (lookup_relabel_local hx) (hoC.ns zC.1) (fun h₃ hn₃ hs₃=>?_) (by simp [compEnvC,relabel,hkind]))
 intro ht₃
 (refine eq_4 (ns_obj hn₃) fun oC' heC hoC'=>?_)
 refine k h₃ _ oC' ht₃ hoC' (F.change hs₃ zC.2.1 zC.2.2) ?_
 have zI:=N (I,oI) (.head _)
 refine List.forall_mem_cons.mpr ⟨⟨hs₃.extBut _ _ h1 zI.1,zI.2⟩,List.forall_mem_cons.mpr ⟨⟨heC,zC.2⟩,List.forall_mem_cons.mpr ⟨?_,fun p hp=>?_⟩⟩⟩
 ·have zD:=N (D,oD) (.tail _ (.tail _ (.head _)))
  exact ⟨hs₃.extBut _ _ (Ne.symm h3) zD.1,zD.2⟩
 ·have z:=N p (.tail _ (.tail _ (.tail _ hp)))
  exact ⟨hs₃.extBut _ _ (off p hp).2.1 z.1,z.2⟩
end


end
section
theorem eq_1249:True:=by
 k_with "g55"=>skip
 k_with "dl_mem"=>((fail_if_success (k_extra "g55";clear offG));first|(with_reducible first|apply eq_222|apply eq_37|apply eq_152|(apply eq_1069<;>assumption)|(apply eq_663<;>assumption)|(apply eq_1162<;>assumption)|apply eq_568|apply eq_345|apply eq_214|(apply eq_785<;>assumption)|(apply eq_865<;>assumption)|(apply eq_931<;>assumption)|apply eq_141|(apply eq_766<;>assumption)|(apply eq_380<;>assumption)|(apply eq_1140<;>assumption)|apply eq_761|(apply eq_348<;>assumption)|(apply eq_1137<;>assumption)|(apply eq_1175<;>assumption)|apply eq_47|(apply eq_129<;>assumption)|(apply eq_793<;>assumption)|(apply eq_297<;>assumption)|(apply eq_703<;>assumption)|apply eq_968|(apply eq_1073<;>assumption)|(apply eq_1040<;>assumption)|fail)|(with_reducible apply eq_129;rotate_left;all_goals assumption)|(apply eq_129<;>assumption)|(apply eq_380<;>assumption)|fail)
 k_with "g13"=>skip
 k_with "g14"=>skip
 k_with "g16"=>skip
 k_with "g17"=>skip
 k_with "g18"=>skip
 k_with "exec For Tuple Name cons nil"=>((fail_if_success (k_extra "g55";clear offG));k_here;refine halt ?_)
 k_with "g19"=>skip
 trivial
noncomputable abbrev Tri:=Nat×Nat×Nat
noncomputable def Q0 (eq_2:List Int) (turn:Nat) (c:Nat×Nat):List Nat:=Qa c.1 ((eq_2.drop c.2).take (min turn eq_2.length-c.2))
noncomputable def lastOf (d:Nat) (x:List Nat):Nat:=x.getLast?.getD d
noncomputable def Q14 (x:List Nat) (last:Nat):Bool:=x.head?==some 32&& !(last==32||last==9)
noncomputable def Qb (eq_2:List Int) (turn:Nat) (st:List (List Tri)×List Tri×Nat) (c:Nat×Nat):List (List Tri)×List Tri×Nat:=
 let x:=Q0 eq_2 turn c
 if Q14 x st.2.2=true then (st.1++[st.2.1],[(c.1,c.2,x.length)],lastOf st.2.2 x) else (st.1,st.2.1++[(c.1,c.2,x.length)],lastOf st.2.2 x)
noncomputable def Q1 (eq_2:List Int) (turn:Nat) (cs:List (Nat×Nat)):List (List Tri)×List Tri×Nat:=cs.foldl (Qb eq_2 turn) ([],[],32)
theorem eq_402 {eq_2:List Int} {turn:Nat} {cs:List (Nat×Nat)} {i:Nat} {c:Nat×Nat} (h:cs[i]?=some c):Q1 eq_2 turn (cs.take (i+1))=Qb eq_2 turn (Q1 eq_2 turn (cs.take i)) c:=by
 unfold Q1
 k_extra "v1u"
theorem eq_146 (eq_2:List Int) (turn:Nat):∀ (cs:List (Nat×Nat)) (st:List (List Tri)×List Tri×Nat),(cs.foldl (Qb eq_2 turn) st).1.length≤st.1.length+cs.length∧(cs.foldl (Qb eq_2 turn) st).2.1.length≤st.2.1.length+cs.length
 |[],st=>⟨Nat.le_refl _,Nat.le_refl _⟩
 |c::r,st=>by
  have a:=eq_146 eq_2 turn r (Qb eq_2 turn st c)
  have b:(Qb eq_2 turn st c).1.length≤st.1.length+1∧(Qb eq_2 turn st c).2.1.length≤st.2.1.length+1:=by
   unfold Qb
   dsimp only
   split
   ·exact ⟨by simp,by simp⟩
   ·exact ⟨by simp,by simp⟩
  rw [List.foldl_cons,List.length_cons]
  keq_rows
theorem eq_115 (eq_2:List Int) (turn:Nat) (cs:List (Nat×Nat)):(Q1 eq_2 turn cs).1.length≤cs.length:=by have:=(eq_146 eq_2 turn cs ([],[],32)).1;rw [List.length_nil,Nat.zero_add] at this;exact this
theorem eq_533 (eq_2:List Int) (turn:Nat) (cs:List (Nat×Nat)):(Q1 eq_2 turn cs).2.1.length≤cs.length:=by have:=(eq_146 eq_2 turn cs ([],[],32)).2;rw [List.length_nil,Nat.zero_add] at this;exact this
theorem eq_232 (eq_2:List Int) (turn:Nat):∀ (cs:List (Nat×Nat)) (st:List (List Tri)×List Tri×Nat) (k:Nat),(∀ b∈st.1,b.length≤k)→st.2.1.length≤k→(∀ b∈(cs.foldl (Qb eq_2 turn) st).1,b.length≤k+cs.length)∧(cs.foldl (Qb eq_2 turn) st).2.1.length≤k+cs.length
 |[],st,k,h1,h2=>⟨h1,h2⟩
 |c::r,st,k,h1,h2=>by
  have b:(∀ b∈(Qb eq_2 turn st c).1,b.length≤k+1)∧(Qb eq_2 turn st c).2.1.length≤k+1:=by
   unfold Qb
   dsimp only
   split
   ·refine ⟨fun b hb=>?_,by simp⟩
    k_extra "vv"
    ·exact Nat.le_succ_of_le (h1 b hb)
    ·rw [List.mem_singleton.mp hb];exact Nat.le_succ_of_le h2
   ·refine ⟨fun b hb=>Nat.le_succ_of_le (h1 b hb),?_⟩
    rw [List.length_append,List.length_singleton];keq_rows
  have a:=eq_232 eq_2 turn r (Qb eq_2 turn st c) (k+1) b.1 b.2
  rw [List.foldl_cons,List.length_cons]
  refine ⟨fun b hb=>?_,?_⟩
  ·have:=a.1 b hb;keq_rows
  ·have:=a.2;keq_rows
theorem eq_268 (eq_2:List Int) (turn:Nat) (cs:List (Nat×Nat)):∀ b∈(Q1 eq_2 turn cs).1++[(Q1 eq_2 turn cs).2.1],b.length≤cs.length:=by
 have a:=eq_232 eq_2 turn cs ([],[],32) 0 (List.forall_mem_nil _) (Nat.le_refl 0)
 rw [Nat.zero_add] at a
 intro b hb
 k_extra "vv"
 ·exact a.1 b hb
 ·rw [List.mem_singleton.mp hb];exact a.2
noncomputable def Q31 (own:List (Addr×Obj)) (v:Value) (c:Tri):Prop:=∃ ca t1 t2 t3 k,v= .ref ca∧(ca,listOf #[.str (S [c.1]) t1,.int (c.2.1:Nat) t2,.int (c.2.2:Nat) t3] k)∈own
noncomputable def Q32 (own:List (Addr×Obj)) (v:Value) (b:List Tri):Prop:=∃ ba vs k,v= .ref ba∧(ba,listOf vs.toArray k)∈own∧Fa2 (Q31 own) vs b
theorem Q31.sub {own own':List (Addr×Obj)} (k:∀ p∈own,p∈own') {v:Value} {c:Tri} (x:Q31 own v c):Q31 own' v c:=let ⟨ca,t1,t2,t3,n,e,q⟩:=x;⟨ca,t1,t2,t3,n,e,k _ q⟩
theorem Q32.sub {own own':List (Addr×Obj)} (k:∀ p∈own,p∈own') {v:Value} {c:List Tri} (x:Q32 own v c):Q32 own' v c:=let ⟨ba,vs,n,e,q,r⟩:=x;⟨ba,vs,n,e,k _ q,r.mono fun _ _ y=>y.sub k⟩
noncomputable def Qs (b:List Tri):Nat:=(b.map fun t=>t.2.2).sum
noncomputable def Q6 (b:List Tri):List (Nat×Nat):=b.map fun t=>(t.1,t.2.1)
noncomputable def Qe (turn width:Nat) (st:List (Nat×Nat)×Nat) (b:List Tri):List (Nat×Nat)×Nat:=
 if st.1≠[]∧width<st.2+Qs b then (st.1++[(10,turn+1)]++Q6 b,Qs b) else (st.1++Q6 b,st.2+Qs b)
noncomputable def Q1y (turn width:Nat) (bs:List (List Tri)):List (Nat×Nat)×Nat:=bs.foldl (Qe turn width) ([],0)
noncomputable def Q2w (eq_2:List Int) (turn width:Nat) (cs:List (Nat×Nat)):List (Nat×Nat):=(Q1y turn width ((Q1 eq_2 turn cs).1++[(Q1 eq_2 turn cs).2.1])).1
theorem eq_646 {turn width:Nat} {bs:List (List Tri)} {i:Nat} {b:List Tri} (h:bs[i]?=some b):Q1y turn width (bs.take (i+1))=Qe turn width (Q1y turn width (bs.take i)) b:=by
 unfold Q1y
 k_extra "v1u"
theorem eq_237:∀ b:List Tri,(b.map fun t=>(t.2.2:Int)).sum=((Qs b:Nat):Int)
 |[]=>rfl
 |t::r=>by
  have:=eq_237 r
  unfold Qs at *
  rw [List.map_cons,List.sum_cons,List.map_cons,List.sum_cons,this]
  exact (Int.natCast_add _ _).symm
theorem eq_387 (eq_2:List Int) (turn:Nat):∀ (cs:List (Nat×Nat)) (st:List (List Tri)×List Tri×Nat),((cs.foldl (Qb eq_2 turn) st).1.map List.length).sum+(cs.foldl (Qb eq_2 turn) st).2.1.length=(st.1.map List.length).sum+st.2.1.length+cs.length
 |[],st=>rfl
 |c::r,st=>by
  have a:=eq_387 eq_2 turn r (Qb eq_2 turn st c)
  have b:((Qb eq_2 turn st c).1.map List.length).sum+(Qb eq_2 turn st c).2.1.length=(st.1.map List.length).sum+st.2.1.length+1:=by
   unfold Qb
   dsimp only
   split
   ·simp
   ·simp only [List.length_append,List.length_singleton];keq_rows
  rw [List.foldl_cons,List.length_cons,a,b];keq_rows
theorem eq_284 (turn width:Nat):∀ (bs:List (List Tri)) (st:List (Nat×Nat)×Nat),(bs.foldl (Qe turn width) st).1.length≤st.1.length+(bs.map List.length).sum+bs.length
 |[],st=>Nat.le_refl _
 |b::r,st=>by
  have a:=eq_284 turn width r (Qe turn width st b)
  have c:(Qe turn width st b).1.length≤st.1.length+b.length+1:=by
   unfold Qe
   split
   ·simp only [List.length_append,List.length_singleton,Q6,List.length_map];keq_rows
   ·simp only [List.length_append,Q6,List.length_map];keq_rows
  rw [List.foldl_cons,List.map_cons,List.sum_cons,List.length_cons];keq_rows
theorem eq_1159 (l:List Nat):∀ i,(l.take i).sum≤l.sum:=by
 induction l with
 |nil=>intro i;simp
 |cons a r ih=>
  intro i
  cases i with
  |zero=>simp
  |succ i=>have:=ih i;rw [List.take_succ_cons,List.sum_cons,List.sum_cons];keq_rows
theorem eq_1196 (eq_2:List Int) (turn width:Nat) (cs:List (Nat×Nat)) (h:cs.length≤20000) (i:Nat):(Q1y turn width (((Q1 eq_2 turn cs).1++[(Q1 eq_2 turn cs).2.1]).take i)).1.length≤40001:=by
 have a:=eq_284 turn width (((Q1 eq_2 turn cs).1++[(Q1 eq_2 turn cs).2.1]).take i) ([],0)
 have b:=eq_387 eq_2 turn cs ([],[],32)
 have b':((Q1 eq_2 turn cs).1.map List.length).sum+(Q1 eq_2 turn cs).2.1.length=cs.length:=by
  have:((Q1 eq_2 turn cs).1.map List.length).sum+(Q1 eq_2 turn cs).2.1.length=0+0+cs.length:=b
  keq_rows
 have c:=eq_1159 (((Q1 eq_2 turn cs).1++[(Q1 eq_2 turn cs).2.1]).map List.length) i
 rw [←List.map_take,List.map_append,List.sum_append] at c
 have c2:(List.map List.length [(Q1 eq_2 turn cs).2.1]).sum=(Q1 eq_2 turn cs).2.1.length:=by simp
 rw [c2] at c
 have d:=eq_115 eq_2 turn cs
 have e:=List.length_take_le i ((Q1 eq_2 turn cs).1++[(Q1 eq_2 turn cs).2.1])
 have e2:(((Q1 eq_2 turn cs).1++[(Q1 eq_2 turn cs).2.1]).take i).length≤(Q1 eq_2 turn cs).1.length+1:=by
  rw [List.length_take,List.length_append,List.length_singleton];keq_rows
 have f:(Q1y turn width (((Q1 eq_2 turn cs).1++[(Q1 eq_2 turn cs).2.1]).take i)).1.length≤0+((((Q1 eq_2 turn cs).1++[(Q1 eq_2 turn cs).2.1]).take i).map List.length).sum+(((Q1 eq_2 turn cs).1++[(Q1 eq_2 turn cs).2.1]).take i).length:=a
 keq_rows
noncomputable abbrev Q43:Str:=Str.ofString "laid"
noncomputable abbrev Q3x:Str:=Str.ofString "room"
noncomputable abbrev Q4b:Str:=Str.ofString "block"
noncomputable abbrev sizeN:Str:=Str.ofString "size"
noncomputable def Inv2 (turn width:Nat) (blocks:List (List Tri)) (old:List (Addr×Obj)) (m2:Str→Option Value) (i:Nat) (m:Str→Option Value) (news:List (Addr×Obj)):Prop:=
 ∃ (lA:Addr) (lds:List Value) (k:Nat) (rest:List (Addr×Obj)) (u:Tok),m Q43=some (.ref lA)∧m Q3x=some (.int ((Q1y turn width (blocks.take i)).2:Nat) u)∧(∀ y,y≠Q43→y≠Q3x→y≠Q4b→y≠sizeN→m y=m2 y)∧
  news=(lA,listOf lds.toArray k)::rest∧(∀ p∈rest,p.1≠lA)∧(∀ p∈old,p∈rest)∧Fa2 (Q1o rest) lds (Q1y turn width (blocks.take i)).1
noncomputable abbrev Q25:Str:=Str.ofString "blocks"
noncomputable abbrev Q3a:Str:=Str.ofString "last"
noncomputable abbrev Q3h:Str:=Str.ofString "birth"
noncomputable abbrev Q2v:Str:=Str.ofString "text"
noncomputable def Inv1 (eq_2:List Int) (turn:Nat) (cs:List (Nat×Nat)) (m2:Str→Option Value) (i:Nat) (m:Str→Option Value) (news:List (Addr×Obj)):Prop:=
 ∃ (bA lb:Addr) (bs ls:List Value) (k1 k2:Nat) (rest:List (Addr×Obj)) (u:Tok),m Q25=some (.ref bA)∧m Q3a=some (.str (S [(Q1 eq_2 turn (cs.take i)).2.2]) u)∧(∀ y,y≠Q25→y≠Q3a→y≠Q3u→y≠Q3h→y≠Q2v→m y=m2 y)∧
  news=(bA,listOf (bs.toArray.push (.ref lb)) k1)::(lb,listOf ls.toArray k2)::rest∧Fa2 (Q32 rest) bs (Q1 eq_2 turn (cs.take i)).1∧Fa2 (Q31 rest) ls (Q1 eq_2 turn (cs.take i)).2.1∧(∀ p∈rest,p.1≠bA)∧(∀ p∈rest,p.1≠lb)∧ @Ne Nat bA lb
theorem eq_982:Str.ofString " \t"=S [32,9]:=by decide +kernel
theorem eq_321:Str.ofString " "=S [32]:=by decide +kernel
theorem eq_396 {ns:List Int} {b t:Nat} (h:ns.length≤5):((ns.drop b).take (min t ns.length-b)).length≤5:=by
 rw [List.length_take,List.length_drop];keq_rows
theorem eq_693 {ns:List Int} {b t:Nat} (h:∀ n∈ns,0≤n∧n≤6):∀ n∈(ns.drop b).take (min t ns.length-b),0≤n∧n≤6:=fun n hn=>h n (List.mem_of_mem_drop (List.mem_of_mem_take hn))
theorem eq_810 {x:Addr×Obj} {l:List (Addr×Obj)} (h:x∈l):List.Mem x l:=h
theorem eq_505 {d:Addr} {l rest:List (Addr×Obj)} (h:∀ q∈l,q.1≠d) (sub:∀ p∈rest,p∈l):∀ p∈rest,p.1≠d:=fun p hp=>h p (sub p hp)
theorem eq_425 {d:Addr} {l:List (Addr×Obj)} (h:∀ q∈l,q.1<d):∀ q∈l,q.1≠d:=fun q hq=>Nat.ne_of_lt (h q hq)
theorem eq_339 {x:List Nat}:x.head?=some 32↔S (x.take 1)=Str.ofString " ":=by
 rw [eq_321,eq_799]
 cases x with
 |nil=>simp
 |cons a r=>simp
theorem eq_558 {x:List Nat} {d:Nat} (h:(S (x.take 1)==Str.ofString " ")=true) (h2:¬ d∈[32,9]):Q14 x d=true:=by
 have h1:=eq_339.mpr (eq_of_beq h)
 have a:d≠32:=fun e=>h2 (by simp [e])
 have b:d≠9:=fun e=>h2 (by simp [e])
 simp [Q14,h1,a,b]
theorem eq_775 {x:List Nat} {d:Nat} (h2:d∈[32,9]):Q14 x d=false:=by
 rcases List.mem_cons.mp h2 with rfl|h
 ·simp [Q14]
 ·rw [List.mem_singleton.mp h];simp [Q14]
theorem eq_434 {x:List Nat} {d:Nat} (h:(S (x.take 1)==Str.ofString " ")=false):Q14 x d=false:=by
 have h1:¬ x.head?=some 32:=fun e=>by rw [eq_339.mp e,beq_self_eq_true] at h;cases h
 have h3:(x.head?==some 32)=false:=by simpa using h1
 simp [Q14,h3]
theorem eq_419 (d:Nat) (x:List Nat):([d]++x).getLast?.getD 0=lastOf d x:=by
 unfold lastOf
 rw [List.getLast?_append]
 cases x.getLast?<;>rfl
section
variable {g h':Heap} {L I bA lb l' D' nb:Addr} {io oD:Obj} {s:Shared} {tk k1 k2 i turn:Nat} {g':Array GenState} {Q:Flow→Shared→Prop} {m2 m':Str→Option Value} {zs:List (Nat×Nat)} {ns:List Int} {bs ls:List Value} {rest l:List (Addr×Obj)} {c:Nat×Nat} {t1 t2 t3 u:Tok}
theorem eq_231 (hc:zs[i]?=some c) (hx:Q14 (Q0 ns turn c) (Q1 ns turn (zs.take i)).2.2=false) (F:Fr g L h' m') (N:News g L h' ((l',listOf #[.str (S [c.1]) t1,.int (c.2:Nat) t2,.int ((Q0 ns turn c).length:Nat) t3] 0)::(D',oD)::(I,io)::(bA,listOf (bs++[Value.ref lb]).toArray k1)::(lb,listOf (ls++[Value.ref l']).toArray k2)::rest))
  (ht:1≤tk) (hg:AllBare g') (hb:m' Q25=some (Value.ref bA)) (hla:m' Q3a=some (.str (S [([(Q1 ns turn (zs.take i)).2.2]++Q0 ns turn c).getLast?.getD 0]) u)) (hr:∀ y,y≠Q25→y≠Q3a→y≠Q3u→y≠Q3h→y≠Q2v→m' y=m2 y)
  (q4:Fa2 (Q32 rest) bs (Q1 ns turn (zs.take i)).1) (q5:Fa2 (Q31 rest) ls (Q1 ns turn (zs.take i)).2.1) (q6:∀ p∈rest,p.1≠bA) (q7:∀ p∈rest,p.1≠lb) (q8:@Ne Nat bA lb) (i1:bA≠I) (i2:lb≠I) (i3:∀ p∈rest,p.1≠I) (n1:I≠l') (n2:bA≠l') (n3:lb≠l'):
  Qi g L I io s (Inv1 ns turn zs m2 (i+1)) Q .next ⟨h',g',s.drawn,tk,s.os⟩:=by
 have e:Q1 ns turn (zs.take (i+1))=((Q1 ns turn (zs.take i)).1,(Q1 ns turn (zs.take i)).2.1++[(c.1,c.2,(Q0 ns turn c).length)],lastOf (Q1 ns turn (zs.take i)).2.2 (Q0 ns turn c)):=by
  rw [eq_402 hc];exact if_neg (by rw [hx];decide)
 rw [eq_419] at hla
 have NN:News g L h' ((I,io)::(bA,listOf (bs.toArray.push (Value.ref lb)) k1)::(lb,listOf (ls++[Value.ref l']).toArray k2)::(l',listOf #[.str (S [c.1]) t1,.int (c.2:Nat) t2,.int ((Q0 ns turn c).length:Nat) t3] 0)::rest):=by
  intro p hp
  k_extra "v0"
  ·exact N _ (.tail _ (.tail _ (.head _)))
  ·k_extra "v0"
   ·rw [List.push_toArray];exact N _ (.tail _ (.tail _ (.tail _ (.head _))))
   ·k_extra "v0"
    ·exact N _ (.tail _ (.tail _ (.tail _ (.tail _ (.head _)))))
    ·k_extra "v0"
     ·exact N _ (.head _)
     ·exact N _ (.tail _ (.tail _ (.tail _ (.tail _ (.tail _ hp)))))
 have OO:∀ p∈(bA,listOf (bs.toArray.push (Value.ref lb)) k1)::(lb,listOf (ls++[Value.ref l']).toArray k2)::(l',listOf #[.str (S [c.1]) t1,.int (c.2:Nat) t2,.int ((Q0 ns turn c).length:Nat) t3] 0)::rest,p.1≠I:=by
  intro p hp
  k_extra "v0"
  ·exact i1
  ·k_extra "v0"
   ·exact i2
   ·k_extra "v0"
    ·exact fun e=>n1 e.symm
    ·exact i3 p hp
 refine ⟨h',tk,g',m',(bA,listOf (bs.toArray.push (Value.ref lb)) k1)::(lb,listOf (ls++[Value.ref l']).toArray k2)::(l',listOf #[.str (S [c.1]) t1,.int (c.2:Nat) t2,.int ((Q0 ns turn c).length:Nat) t3] 0)::rest,rfl,F,NN,OO,ht,hg,?_⟩
 ·refine ⟨bA,lb,bs,ls++[Value.ref l'],k1,k2,_,u,hb,by rw [e];exact hla,hr,rfl,by rw [e];exact q4.mono fun _ _ x=>x.sub fun _ hp=>.tail _ hp,?_,?_,?_,q8⟩
  ·rw [e]
   exact (q5.mono fun _ _ x=>x.sub fun _ hp=>.tail _ hp).snoc ⟨l',t1,t2,t3,0,rfl,.head _⟩
  ·exact List.forall_mem_cons.mpr ⟨fun e=>n2 e.symm,q6⟩
  ·exact List.forall_mem_cons.mpr ⟨fun e=>n3 e.symm,q7⟩
theorem eq_1222 (hc:zs[i]?=some c) (hx:Q14 (Q0 ns turn c) (Q1 ns turn (zs.take i)).2.2=true) (F:Fr g L h' m') (N:News g L h' ((l',listOf #[.str (S [c.1]) t1,.int (c.2:Nat) t2,.int ((Q0 ns turn c).length:Nat) t3] 0)::(nb,listOf #[Value.ref l'] (0+1))::(D',oD)::(I,io)::(bA,listOf (bs++[Value.ref lb]++[Value.ref nb]).toArray (k1+1))::(lb,listOf ls.toArray k2)::rest))
  (ht:1≤tk) (hg:AllBare g') (hb:m' Q25=some (Value.ref bA)) (hla:m' Q3a=some (.str (S [([(Q1 ns turn (zs.take i)).2.2]++Q0 ns turn c).getLast?.getD 0]) u)) (hr:∀ y,y≠Q25→y≠Q3a→y≠Q3u→y≠Q3h→y≠Q2v→m' y=m2 y)
  (q4:Fa2 (Q32 rest) bs (Q1 ns turn (zs.take i)).1) (q5:Fa2 (Q31 rest) ls (Q1 ns turn (zs.take i)).2.1) (q6:∀ p∈rest,p.1≠bA) (q7:∀ p∈rest,p.1≠lb) (q8:@Ne Nat bA lb) (i1:bA≠I) (i2:lb≠I) (i3:∀ p∈rest,p.1≠I) (n1:I≠l') (n2:bA≠l') (n3:lb≠l') (n4:∀ p∈rest,p.1≠nb) (n5:I≠nb) (n6:@Ne Nat bA nb) (n7:lb≠nb) (n8:nb≠l'):
  Qi g L I io s (Inv1 ns turn zs m2 (i+1)) Q .next ⟨h',g',s.drawn,tk,s.os⟩:=by
 have e:Q1 ns turn (zs.take (i+1))=((Q1 ns turn (zs.take i)).1++[(Q1 ns turn (zs.take i)).2.1],[(c.1,c.2,(Q0 ns turn c).length)],lastOf (Q1 ns turn (zs.take i)).2.2 (Q0 ns turn c)):=by
  rw [eq_402 hc];exact if_pos hx
 rw [eq_419] at hla
 have NN:News g L h' ((I,io)::(bA,listOf ((bs++[Value.ref lb]).toArray.push (Value.ref nb)) (k1+1))::(nb,listOf ([Value.ref l']:List Value).toArray (0+1))::(l',listOf #[.str (S [c.1]) t1,.int (c.2:Nat) t2,.int ((Q0 ns turn c).length:Nat) t3] 0)::(lb,listOf ls.toArray k2)::rest):=by
  intro p hp
  k_extra "v0"
  ·exact N _ (.tail _ (.tail _ (.tail _ (.head _))))
  ·k_extra "v0"
   ·rw [List.push_toArray];exact N _ (.tail _ (.tail _ (.tail _ (.tail _ (.head _)))))
   ·k_extra "v0"
    ·exact N _ (.tail _ (.head _))
    ·k_extra "v0"
     ·exact N _ (.head _)
     ·exact N _ (.tail _ (.tail _ (.tail _ (.tail _ (.tail _ hp)))))
 have OO:∀ p∈(bA,listOf ((bs++[Value.ref lb]).toArray.push (Value.ref nb)) (k1+1))::(nb,listOf ([Value.ref l']:List Value).toArray (0+1))::(l',listOf #[.str (S [c.1]) t1,.int (c.2:Nat) t2,.int ((Q0 ns turn c).length:Nat) t3] 0)::(lb,listOf ls.toArray k2)::rest,p.1≠I:=by
  intro p hp
  k_extra "v0"
  ·exact i1
  ·k_extra "v0"
   ·exact fun e=>n5 e.symm
   ·k_extra "v0"
    ·exact fun e=>n1 e.symm
    ·k_extra "v0"
     ·exact i2
     ·exact i3 p hp
 refine ⟨h',tk,g',m',(bA,listOf ((bs++[Value.ref lb]).toArray.push (Value.ref nb)) (k1+1))::(nb,listOf ([Value.ref l']:List Value).toArray (0+1))::(l',listOf #[.str (S [c.1]) t1,.int (c.2:Nat) t2,.int ((Q0 ns turn c).length:Nat) t3] 0)::(lb,listOf ls.toArray k2)::rest,rfl,F,NN,OO,ht,hg,?_⟩
 ·refine ⟨bA,nb,bs++[Value.ref lb],[Value.ref l'],k1+1,0+1,_,u,hb,by rw [e];exact hla,hr,rfl,?_,?_,?_,?_,n6⟩
  ·rw [e]
   exact (q4.mono fun _ _ x=>x.sub fun _ hp=>.tail _ (.tail _ hp)).snoc ⟨lb,ls,k2,rfl,.tail _ (.head _),q5.mono fun _ _ x=>x.sub fun _ hp=>.tail _ (.tail _ hp)⟩
  ·rw [e]
   exact .cons ⟨l',t1,t2,t3,0,rfl,.head _⟩ .nil
  ·exact List.forall_mem_cons.mpr ⟨fun e=>n2 e.symm,List.forall_mem_cons.mpr ⟨fun e=>q8 e.symm,q6⟩⟩
  ·exact List.forall_mem_cons.mpr ⟨fun e=>n8 e.symm,List.forall_mem_cons.mpr ⟨n7,n4⟩⟩
end
theorem eq_300 {g h':Heap} {L D2 I lA:Addr} {o2 io oL:Obj} {ex pre rest2:List (Addr×Obj)} (N:News g L h' ((D2,o2)::(ex++(pre++(I,io)::(lA,oL)::rest2)))):News g L h' ((D2,o2)::(I,io)::(lA,oL)::(ex++(pre++rest2))):=News.sub N fun p hp=>by
 simp only [List.mem_cons,List.mem_append] at hp ⊢
 rcases hp with h|h|h|h|h|h<;>simp [h]
theorem eq_388 {ex pre rest2:List (Addr×Obj)} {lA I:Addr} {oL io:Obj} (hex:∀ p∈ex,∀ q∈pre++(I,io)::(lA,oL)::rest2,q.1≠p.1) (hp:∀ p∈pre,p.1≠lA) (hr:∀ p∈rest2,p.1≠lA):∀ p∈ex++(pre++rest2),p.1≠lA:=fun p h=>by
 k_extra "v1x"
 ·exact fun e=>hex p h (lA,oL) (List.mem_append_right _ (.tail _ (.head _))) e.symm
 ·k_extra "v1x"
  ·exact hp p h
  ·exact hr p h
theorem eq_132 {ex pre rest2:List (Addr×Obj)} {lA I:Addr} {oL io:Obj} (hex:∀ p∈ex,∀ q∈pre++(I,io)::(lA,oL)::rest2,q.1≠p.1) (hp:∀ p∈pre,p.1≠I) (hr:∀ p∈rest2,p.1≠I):∀ p∈ex++(pre++rest2),p.1≠I:=fun p h=>by
 k_extra "v1x"
 ·exact fun e=>hex p h (I,io) (List.mem_append_right _ (.head _)) e.symm
 ·k_extra "v1x"
  ·exact hp p h
  ·exact hr p h
theorem eq_187 {g h':Heap} {L I lA D2:Addr} {io o2:Obj} {s:Shared} {tk k i turn width:Nat} {g':Array GenState} {Q:Flow→Shared→Prop} {m3 m':Str→Option Value} {blocks:List (List Tri)} {b:List Tri} {lds:List Value} {arr:Array Value} {rest old:List (Addr×Obj)} (st:List (Nat×Nat)×Nat) (hb:blocks[i]?=some b) (e:Qe turn width (Q1y turn width (blocks.take i)) b=st)
  (F:Fr g L h' m') (N:News g L h' ((D2,o2)::(I,io)::(lA,listOf arr k)::rest)) (ha:arr=lds.toArray) (q:Fa2 (Q1o rest) lds st.1) (off:∀ p∈rest,p.1≠lA) (offI:∀ p∈rest,p.1≠I) (i1:lA≠I) (ho:∀ p∈old,p∈rest) (ht:1≤tk) (hg:AllBare g')
  (h1:m' Q43=some (.ref lA)) (h2:∃ u,m' Q3x=some (.int (st.2:Nat) u)) (h3:∀ y,y≠Q43→y≠Q3x→y≠Q4b→y≠sizeN→m' y=m3 y):Qi g L I io s (Inv2 turn width blocks old m3 (i+1)) Q .next ⟨h',g',s.drawn,tk,s.os⟩:=by
 subst ha
 rw [←eq_646 hb] at e
 subst e
 (revert h2;intro zq1;(refine eq_5 (zq1) fun u h2=>?_;(try clear zq1)))
 exact ⟨h',tk,g',m',(lA,listOf lds.toArray k)::rest,rfl,F,News.tl N,List.forall_mem_cons.mpr ⟨i1,offI⟩,ht,hg,lA,lds,k,rest,u,h1,h2,h3,rfl,off,ho,q⟩
theorem eq_1074 (lds ys:List Value) (v:Value):lds.toArray.push v++ys.toArray=(lds++[v]++ys).toArray:=by simp
theorem eq_492 {R:Value→Nat×Nat→Prop} {lds:List Value} {l:List (Nat×Nat)} (w:Fa2 R lds l) (h:lds.isEmpty=true):l=[]:=by
 cases w with
 |nil=>rfl
 |cons r q=>cases h
theorem eq_929 {R:Value→Nat×Nat→Prop} {lds:List Value} {l:List (Nat×Nat)} (w:Fa2 R lds l) (h:lds.isEmpty=false):l≠[]:=by
 cases w with
 |nil=>cases h
 |cons r q=>exact List.cons_ne_nil _ _
theorem eq_581 {R:Value→Nat×Nat→Prop} {turn width:Nat} {lds:List Value} {st:List (Nat×Nat)×Nat} {b:List Tri} (w:Fa2 R lds st.1) (h:lds.isEmpty=true):Qe turn width st b=(st.1++Q6 b,st.2+Qs b):=if_neg fun q=>q.1 (eq_492 w h)
theorem eq_1001 {turn width:Nat} {st:List (Nat×Nat)×Nat} {b:List Tri} (h:¬ (width:Int)<(st.2:Nat)+(Qs b:Nat)):Qe turn width st b=(st.1++Q6 b,st.2+Qs b):=if_neg fun q=>h (by have:=q.2;keq_rows)
theorem eq_707 {R:Value→Nat×Nat→Prop} {turn width:Nat} {lds:List Value} {st:List (Nat×Nat)×Nat} {b:List Tri} (w:Fa2 R lds st.1) (h0:lds.isEmpty=false) (h:(width:Int)<(st.2:Nat)+(Qs b:Nat)):Qe turn width st b=(st.1++[(10,turn+1)]++Q6 b,Qs b):=if_pos ⟨eq_929 w h0,by keq_rows⟩
theorem eq_668:Str.ofString "\n"=S [10]:=by decide +kernel
theorem eq_303 {g h':Heap} {L I2 C D D':Addr} {oI oC:Obj} {m':Str→Option Value} {s:Shared} {ys:List Value} {ex led:List (Addr×Obj)} {tk j:Nat} {g':Array GenState} {m:Str→Option Value} {b:List Tri} {t:Tri} {u1 u2:Tok} (ht:b[j]?=some t) (hoC:LCg.NsObj oC m') (F:Fr g L h' m)
  (N:News g L h' ((D',listOf #[.str (S [t.1]) u1,.int (t.2.1:Nat) u2] 0)::(I2,oI)::(C,oC)::(D,LCg.lst ys)::(ex++led))) (hAll:∀ q∈(I2,oI)::(C,oC)::(D,LCg.lst ys)::(ex++led),q.1≠D') (off:∀ p∈ex++led,p.1≠I2∧p.1≠C∧p.1≠D) (htk:1≤tk) (hg:AllBare g') (hys:Fa2 (Q1o ex) ys (Q6 (b.take j))) (hx:∀ p∈ex,∀ q∈led,q.1≠p.1):
  CEnd g L m s I2 oI C D ys (fun ys nw=>∃ ex,nw=ex++led∧Fa2 (Q1o ex) ys (Q6 (b.take (j+1)))∧∀ p∈ex,∀ q∈led,q.1≠p.1) (.ref D') ⟨h',g',s.drawn,tk,s.os⟩:=by
 have e:Q6 (b.take (j+1))=Q6 (b.take j)++[(t.1,t.2.1)]:=by
  unfold Q6
  rw [List.take_add_one,ht,List.map_append];rfl
 refine ⟨h',tk,g',(D',listOf #[.str (S [t.1]) u1,.int (t.2.1:Nat) u2] 0)::(ex++led),oC,m',rfl,hoC,F,?_,?_,htk,hg,(D',listOf #[.str (S [t.1]) u1,.int (t.2.1:Nat) u2] 0)::ex,rfl,?_,List.forall_mem_cons.mpr ⟨fun q hq=>hAll q (.tail _ (.tail _ (.tail _ (List.mem_append_right _ hq)))),hx⟩⟩
 ·intro p hp
  k_extra "v0"
  ·exact N _ (.tail _ (.head _))
  ·k_extra "v0"
   ·exact N _ (.tail _ (.tail _ (.head _)))
   ·k_extra "v0"
    ·exact N _ (.tail _ (.tail _ (.tail _ (.head _))))
    ·k_extra "v0"
     ·exact N _ (.head _)
     ·exact N _ (.tail _ (.tail _ (.tail _ (.tail _ hp))))
 ·exact List.forall_mem_cons.mpr ⟨⟨fun e=>hAll _ (.head _) e.symm,fun e=>hAll _ (.tail _ (.head _)) e.symm,fun e=>hAll _ (.tail _ (.tail _ (.head _))) e.symm⟩,off⟩
 ·rw [e]
  exact (hys.mono fun _ _ x=>x.sub fun _ hp=>.tail _ hp).snoc ⟨D',u1,u2,0,rfl,.head _⟩
theorem eq_1265:True:=by
 k_with "g56"=>skip
 k_with "k_mem"=>((fail_if_success (k_extra "g56";clear offG));first|with_reducible exact List.Mem.head _|exact eq_810 (by with_reducible assumption)|(refine' List.Mem.tail _ ?_;k_mem))
 k_with "k_all"=>((fail_if_success (k_extra "g56";clear offG));first|exact List.forall_mem_nil _|with_reducible assumption|(refine' List.forall_mem_cons.mpr ⟨(by first|k_ne|fail),(by first|k_all|fail)⟩)|exact eq_505 (by assumption) (fun pω hpω=>by repeat (first|exact hpω|apply List.Mem.tail)))
 trivial
local macro_rules | `(tactic| k_lt $_:ident) => `(tactic| k_extra "j")
set_option maxHeartbeats 0
theorem eq_1337:True:=by
 k_with "j"=>((fail_if_success (k_extra "g56";clear offG));rename ∀ q∈(_:List (Addr×Obj)),q.1<_=>hω;have h2ω:=eq_425 hω;replace hω:=allLt_of hω;simp only [AllLt,and_true] at hω)
 k_with "subscriptTail Name Slice ref ref"=>((fail_if_success (k_extra "g55";clear offG));k_here;k_dflt (refine' eq_978 (by k_asm) (by k_asm) (by with_reducible assumption) (by with_reducible assumption) (by first|keq_rows|fail) ?_ (by first|with_unfolding_all rfl|fail) (by first|kmk_pure|fail));intro D'ω ws'ω h'ω F'ω N'ω l1ω hI'ω;k_lt l1ω)
 k_with "subscriptTail Name Slice str ref"=>((fail_if_success (k_extra "g55";clear offG));k_here;k_dflt (refine' eq_1154 (by k_asm) (by k_asm) (by first|k_extra "t"|fail) (by first|keq_rows|fail) ?_ (by first|with_unfolding_all rfl|fail) (by first|kmk_pure|fail));intro h8ω t8ω k8ω hk8ω F8ω N8ω)
 k_with "compareOp NotIn str str"=>((fail_if_success (k_extra "g55";clear offG));k_here;k_dflt (rw [eq_982];refine' eq_871 ?_))
 k_with "subscriptTail"=>((fail_if_success (k_extra "g55";clear offG));k_here;(with_reducible show wpAny _ _ (subscriptTail _ _ (Value.ref _) (Value.int _ _)) _ _ _);k_dflt (refine' eq_615 (by k_asm) (by first|k_mem|fail) ?_ (by first|tb_rel|fail) (by first|with_unfolding_all rfl|fail)))
 k_with "subscriptTail Name UnaryOp str int"=>((fail_if_success (k_extra "g55";clear offG));k_here;(with_reducible show wpAny _ _ (subscriptTail _ _ (Value.str _ _) (Value.int _ _)) _ _ _);k_dflt (refine' eq_322 (by first|exact List.cons_ne_nil _ _|fail) (by first|(try simp only [List.length_append,List.length_singleton,List.length_cons,List.length_nil]);keq_rows|fail) (by first|k_extra "t"|fail) ?_ (by first|with_unfolding_all rfl|fail);intro t8ω k8ω hk8ω))
 k_with "tb_rel"=>((fail_if_success (k_extra "g55";clear offG));simp only [Array.size_push,List.size_toArray,sizeLine_eq];keq_rows)
 k_with "call builtin:list.append"=>((fail_if_success (k_extra "g55";clear offG));k_here;k_dflt (refine' append_K (by k_asm) (by k_asm) (by first|k_upd|fail) ?_ (by first|tb_rel|fail));intro h'ω F'ω N'ω;(try dsimp only at N'ω))
 k_with "subscriptTail"=>((fail_if_success (k_extra "g55";clear offG));k_here;(with_reducible show wpAny _ _ (subscriptTail _ _ (Value.ref _) (Value.int _ _)) _ _ _);k_dflt (refine' eq_136 (by k_asm) (by first|k_mem|fail) (by decide) (by decide) (by exact rfl) ?_ (by first|with_unfolding_all rfl|fail)))
 k_with "eval Name"=>((fail_if_success (k_extra "g56";clear offG));k_here;(with_reducible show wpAny _ _ (eval _ (compEnvC _ _ _ _)) _ _ _);k_dflt (refine' eq_1065 (by k_asm) (by first|k_mem|fail) (by with_reducible assumption) ?_ ?_ (by exact rfl) (by exact rfl);k_extra "rotp";(· k_extra "m")))
 k_with "g44"=>skip
 k_with "g51"=>skip
 k_with "subscriptTail Name Slice ref ref"=>((fail_if_success (k_extra "g55";clear offG));k_here;k_dflt (refine' eq_664 (by k_asm) (by k_asm) (by first|k_mem|fail) ?_ (by first|with_unfolding_all rfl|fail) (by first|kmk_pure|fail));intro D'ω h'ω F'ω N'ω l1ω;k_lt l1ω)
 k_with "call builtin:list.extend"=>((fail_if_success (k_extra "g55";clear offG));k_here;k_dflt (refine' eq_1050 (by k_asm) (by k_asm) (by first|k_mem|fail) (by first|k_updF|fail) (by first|tb_rel|fail) ?_);intro h9ω n9ω F9ω N9ω;(try dsimp only at N9ω))
 k_with "eval ListComp"=>((fail_if_success (k_extra "g56";clear offG));k_here;refine halt ?_)
 k_with "call builtin:len"=>((fail_if_success (k_extra "g55";clear offG));k_here;(with_reducible show wpAny _ _ (call _ [Value.str (S _) _]) _ _ _);k_dflt (refine' eq_544 (by first|k_extra "t"|fail) (by first|keq_rows|fail) ?_;intro t8ω k8ω hk8ω))
 k_with "call ref"=>((fail_if_success (k_extra "g55";clear offG));k_here;k_dflt (refine' eq_423 (eq_363 _ _ _ _ _ _ _ ?_ ?_ ?_) (by k_asm) (by k_asm) (by k_asm) (by k_asm) (by first|(first|with_reducible assumption|k_all)|fail) (by k_asm) (by first|(first|exact rfl|with_reducible assumption)|fail) (by first|(first|keq_rows|ktr_room)|fail) (by first|(first|keq_rows|ktr_units)|fail) (by first|k_extra "t"|fail) (by first|(try dsimp only);with_reducible assumption|fail) ?_;k_extra "rotp";(· with_reducible assumption);k_extra "rotp";(· exact eq_396 (by with_reducible assumption));k_extra "rotp";(· exact eq_693 (by with_reducible assumption));intro v9ω h9ω t9ω g9ω F9ω N9ω p9ω ht9ω hg9ω;(revert p9ω;intro zq2ω;(refine eq_5 (zq2ω) fun u9ω p9ω=>?_;(try clear zq2ω)));subst p9ω))
 trivial
theorem eq_1082 (w:World) (ca ha:Addr) (zs:List (Nat×Nat)) (ns:List Int) (turn width:Nat) (t1 t2:Tok) (hn5:ns.length≤5) (hnb:∀ n∈ns,0≤n∧n≤6) (hzl:zs.length≤20000):CtP w 3 367 [.ref ca,.ref ha,.int turn t1,.int width t2] (fun h=>Q3m h ca zs∧IntsAt h ha ns) (fun v own=>∃ a,v= .ref a∧Q1q own a (Q2w ns turn width zs)):=by
 k_extra "w9"
 replace F1:Fr g L1 h1 (fun y=>List.lookup y [(Str.ofString "width",.int width t2),(Str.ofString "turn",.int turn t1),(Str.ofString "hands",.ref ha),(Str.ofString "cells",.ref ca)]):=F1
 k_steps
 unfold Q18
 (refine eq_7 (hpre) fun zq3 zq4=>?_;(try clear hpre);(refine eq_14 (zq3) fun cvs ck hcl hcs=>?_;(try clear zq3));(refine eq_14 (zq4) fun hvs hk2 hhl hhs=>?_;(try clear zq4)))
 have hca:=kp _ _ hcl (fun h=>nomatch h)
 have hha:=kp _ _ hhl (fun h=>nomatch h)
 have hcs:Fa2 (Q2t g) cvs zs:=hcs.mono fun _ _ x=>x.keeps fun b o e=>kp b o e (fun h=>nomatch h)
 refine eq_31 ?_
 walk1
 rename Fr _ _ _ _=>F2
 rename News _ _ _ _=>N2
 k_extra "vy"
 have hcL:∀ b o,g.get? b=some o→b≠L1:=fun b o e=>Nat.ne_of_lt (Nat.lt_of_lt_of_le (Heap.lt_size e) F2.above)
 refine eq_103 rfl F2 (News.tl N2) (by assumption) (by assumption) (Inv1 ns turn zs m2) ?_ (⟨_,F2.keep _ _ hca,rfl,_,rfl⟩) (hcL _ _ hca) (fun i h m₁ news₁ _ F₁ _=>⟨_,F₁.keep _ _ hca,rfl,_,rfl⟩) ?_ ?_
 ·refine ⟨_,_,[],[],_,_,_,_,by rw [hm2];k_extra "m",by rw [hm2,eq_321];k_extra "m",fun _ _ _ _ _ _=>rfl,rfl,.nil,.nil,List.forall_mem_nil _,List.forall_mem_nil _,by k_ne⟩
 ·(intro i v m₁ news₁ h tk g₁ I io hv zq5;obtain ⟨bA,lb,bs,ls,k1,k2,rest,u,q1,q2,q3,rfl,q4,q5,q6,q7,q8⟩:=zq5;intro F₁ N₁ hI hn₁ hII htk hg₁)
  (refine eq_4 (hcs.get hv) fun c hc zq7=>?_;(refine eq_825 (zq7) fun cca ct1 ct2 ck1 zq8 hcc=>?_;(try clear zq7);subst zq8))
  refine eq_1097 rfl rfl rfl rfl (wpAny_letOwnedTupleGo_listiter hI rfl) ⟨_,F₁.keep _ _ hcc,rfl,_,rfl⟩ F₁ N₁ htk fun h' tk' htk' F' N'=>?_
  have hlh:h'.IsList ha hvs.toArray:=⟨_,F'.keep _ _ hha,rfl,_,rfl⟩
  have g1:m₁ (Str.ofString "hands")=some _:=(q3 _ (by decide +kernel) (by decide +kernel) (by decide +kernel) (by decide +kernel) (by decide +kernel)).trans (by rw [hm2];k_extra "m")
  have g2:m₁ (Str.ofString "turn")=some _:=(q3 _ (by decide +kernel) (by decide +kernel) (by decide +kernel) (by decide +kernel) (by decide +kernel)).trans (by rw [hm2];k_extra "m")
  have i1:@Ne Nat bA I:=hn₁ _ (.head _)
  have i2:@Ne Nat lb I:=hn₁ _ (.tail _ (.head _))
  have bz:=Nat.le_trans (Nat.le_trans (Nat.le_of_eq q4.len) (eq_115 ns turn (zs.take i))) (Nat.le_trans (List.length_take_le' i zs) hzl)
  have bz2:=Nat.le_trans (Nat.le_trans (Nat.le_of_eq q5.len) (eq_533 ns turn (zs.take i))) (Nat.le_trans (List.length_take_le' i zs) hzl)
  have bw:=eq_709 (c:=c.1) (eq_396 (b:=c.2) (t:=turn) hn5)
  k_steps
  ·exact eq_231 hc (eq_775 (by with_reducible assumption)) (by assumption) (by assumption) (by assumption) (by assumption) (by k_extra "m") (by k_extra "m") (fun y y1 y2 y3 y4 y5=>by simp only [y1,y2,y3,y4,y5,if_false];exact q3 y y1 y2 y3 y4 y5) q4 q5 q6 q7 q8 i1 i2 (fun p hp=>hn₁ p (.tail _ (.tail _ hp))) (by k_ne) (by k_ne) (by k_ne)
  ·exact eq_1222 hc (eq_558 (by assumption) (by with_reducible assumption)) (by assumption) (by assumption) (by assumption) (by assumption) (by k_extra "m") (by k_extra "m") (fun y y1 y2 y3 y4 y5=>by simp only [y1,y2,y3,y4,y5,if_false];exact q3 y y1 y2 y3 y4 y5) q4 q5 q6 q7 q8 i1 i2 (fun p hp=>hn₁ p (.tail _ (.tail _ hp))) (by k_ne) (by k_ne) (by k_ne) (by k_all) (by k_ne) (by k_ne) (by k_ne) (by k_ne)
  ·exact eq_231 hc (eq_434 (by assumption)) (by assumption) (by assumption) (by assumption) (by assumption) (by k_extra "m") (by k_extra "m") (fun y y1 y2 y3 y4 y5=>by simp only [y1,y2,y3,y4,y5,if_false];exact q3 y y1 y2 y3 y4 y5) q4 q5 q6 q7 q8 i1 i2 (fun p hp=>hn₁ p (.tail _ (.tail _ hp))) (by k_ne) (by k_ne) (by k_ne)
 ·(intro m₁ news₁ h tk g₁ zq9;obtain ⟨bA,lb,bs,ls,k1,k2,rest,u,q1,q2,q3,rfl,q4,q5,q6,q7,q8⟩:=zq9;intro F₁ N₁ htk hg₁)
  rw [hcs.len,List.take_length] at q2 q4 q5
  k_steps
  unfold Q18
  refine eq_31 ?_
  walk1
  rename Fr _ _ _ _=>F3
  rename News _ _ _ _=>N3
  obtain ⟨m3,hm3,F3⟩:∃ m3,m3=_∧Fr _ _ _ m3:=⟨_,rfl,F3⟩
  have bks:Fa2 (Q32 ((bA,listOf (bs.toArray.push (Value.ref lb)) k1)::(lb,listOf ls.toArray k2)::rest)) (bs++[Value.ref lb]) ((Q1 ns turn zs).1++[(Q1 ns turn zs).2.1]):=
   (q4.mono fun _ _ x=>x.sub fun _ hp=>.tail _ (.tail _ hp)).snoc ⟨lb,ls,k2,rfl,.tail _ (.head _),q5.mono fun _ _ x=>x.sub fun _ hp=>.tail _ (.tail _ hp)⟩
  have N4:=News.tl N3
  have gw1:m₁ (Str.ofString "width")=some _:=(q3 _ (by decide +kernel) (by decide +kernel) (by decide +kernel) (by decide +kernel) (by decide +kernel)).trans (by rw [hm2];k_extra "m")
  have gt1:m₁ (Str.ofString "turn")=some _:=(q3 _ (by decide +kernel) (by decide +kernel) (by decide +kernel) (by decide +kernel) (by decide +kernel)).trans (by rw [hm2];k_extra "m")
  have gw3:m3 (Str.ofString "width")=some (.int width t2):=by rw [hm3];refine Eq.trans (if_neg (by decide +kernel)) (Eq.trans (if_neg (by decide +kernel)) gw1)
  have gt3:m3 (Str.ofString "turn")=some (.int turn t1):=by rw [hm3];refine Eq.trans (if_neg (by decide +kernel)) (Eq.trans (if_neg (by decide +kernel)) gt1)
  have isB:∀ h nw,News g L1 h nw→(bA,listOf (bs.toArray.push (Value.ref lb)) k1)∈nw→h.IsList bA (bs++[Value.ref lb]).toArray:=fun h nw N hm=>⟨_,(N _ hm).1,rfl,k1,by rw [←List.push_toArray]⟩
  refine eq_103 rfl F3 N4 (by assumption) (by assumption) (Inv2 turn width ((Q1 ns turn zs).1++[(Q1 ns turn zs).2.1]) ((bA,listOf (bs.toArray.push (Value.ref lb)) k1)::(lb,listOf ls.toArray k2)::rest) m3) ?_ (isB _ _ N4 (.tail _ (.head _))) ?_ ?_ ?_ ?_
  ·refine ⟨_,[],_,_,_,by rw [hm3];k_extra "m",by rw [hm3];k_extra "m",fun _ _ _ _ _=>rfl,rfl,?_,fun _ hp=>hp,.nil⟩
   k_all
  ·exact (N4 _ (.tail _ (.head _))).2.1
  ·(intro i h m₁ news₁ zq11;(refine eq_46 (zq11) fun lA lds k rest2 u2 w1 w2 w3 zq12 w4 w5 w6=>?_;(try clear zq11);subst zq12);intro F₁ N₁)
   exact isB _ _ N₁ (.tail _ (w5 _ (.head _)))
  ·(intro i v m₁ news₁ h tk g₁ I io hv zq13;(refine eq_46 (zq13) fun lA lds k rest2 u2 w1 w2 w3 zq14 w4 w5 w6=>?_;(try clear zq13);subst zq14);intro F₁ N₁ hI hn₁ hII htk hg₁)
   (refine eq_4 (bks.get hv) fun b hb zq15=>?_;(refine eq_70 (zq15) fun ba bvs bk zq16 hbm hbt=>?_;(try clear zq15);subst zq16))
   k_extra "vl"
   have gw:m₁ (Str.ofString "width")=some _:=(w3 _ (by decide +kernel) (by decide +kernel) (by decide +kernel) (by decide +kernel)).trans gw3
   have gt:m₁ (Str.ofString "turn")=some _:=(w3 _ (by decide +kernel) (by decide +kernel) (by decide +kernel) (by decide +kernel)).trans gt3
   have i1:@Ne Nat lA I:=hn₁ _ (.head _)
   have lz:lds.length≤40001:=by rw [w6.len];exact eq_1196 ns turn width zs hzl i
   have hbm2:=w5 _ hbm
   have hbt2:=hbt.mono fun _ _ x=>x.sub w5
   k_steps
   unfold Q18
   refine eq_111 (cl:=[]) rfl rfl (by decide) ?_
   walk1
   rename Fr _ _ _ _=>F5
   rename News _ _ _ _=>N5
   refine eq_86 (vs:=bvs) rfl ⟨_,(N5 _ (.tail _ (.tail _ hbm2))).1,rfl,bk,rfl⟩ ?_ (by decide) rfl F5 N5 (by assumption) (by assumption) (fun j ys nw=>nw=_∧IntsAre ys ((b.take j).map fun t=>(t.2.2:Int))) ⟨rfl,.nil⟩ ?_ ?_ ?_
   ·k_extra "v11"
   ·(intro j h ys nw zq17;(refine eq_7 (zq17) fun zq18 _=>?_;(try clear zq17);subst zq18);intro _ N6)
    exact ⟨_,(N6 _ (.tail _ (.tail _ hbm2))).1,rfl,bk,rfl⟩
   ·(intro j v ys news₁ h tk g I2 C oC D m₂ oI E' hv zq19;(refine eq_7 (zq19) fun zq20 hys=>?_;(try clear zq19);subst zq20);intro hoC F6 N6 hI2 off h1 h2 h3 htk hg₁)
    (refine eq_4 (hbt2.get hv) fun t ht zq21=>?_;(refine eq_308 (zq21) fun ta u1 u2 u3 tk3 zq22 htm=>?_;(try clear zq21);subst zq22))
    k_extra "vg"
    k_steps
    k_extra "vs"
    rw [List.take_add_one,ht,List.map_append]
    exact hys.append (.cons _ _ .nil)
   ·(intro D h tk g ys news' zq23;(refine eq_7 (zq23) fun zq24 hys=>?_;(try clear zq23);subst zq24);intro F8 N8 hD htk hg8)
    rw [hbt2.len,List.take_length] at hys
    have i3:@Ne Nat lA D:=hD _ (.tail _ (.head _))
    have i4:@Ne Nat I D:=hD _ (.head _)
    k_steps
    unfold Q18
    refine wpAny_with_toks (n:=1) htk (PyProof.Rows.LSm.sum_ints F8 N8 rfl ⟨_,(N8 _ (.head _)).1,rfl,_,rfl⟩ hys fun h9 tk9 t9 F9 N9 htk9=>?_)
    rw [eq_237]
    replace htk9:1≤tk9:=htk9
    k_steps
    unfold Q18
    refine eq_1103 (by assumption) (by k_mem) (by k_mem) ?_ ?_
    ·ktr_units
    k_steps
    all_goals (
     unfold Q18
     refine eq_111 (cl:=[]) rfl rfl (by decide) ?_
     walk1
     rename Fr _ _ _ _=>FA
     rename News _ _ _ _=>NA
     obtain ⟨led,hled,NA⟩:∃ led,led=_∧News _ _ _ led:=⟨_,rfl,NA⟩
     have sub2:∀ p∈rest2,p∈led:=fun p hp=>by rw [hled];repeat (first|exact hp|apply List.Mem.tail)
     have hbm3:=sub2 _ hbm2
     have hbt3:=hbt2.mono fun _ _ x=>x.sub sub2
     refine eq_86 (vs:=bvs) rfl ⟨_,(NA _ hbm3).1,rfl,bk,rfl⟩ ?_ (by decide) rfl FA NA (by assumption) (by assumption) (fun j ys nw=>∃ ex,nw=ex++led∧Fa2 (Q1o ex) ys (Q6 (b.take j))∧∀ p∈ex,∀ q∈led,q.1≠p.1) ⟨[],rfl,.nil,List.forall_mem_nil _⟩ ?_ ?_ ?_
     ·k_extra "v11"
     ·(intro j h ys nw zq25;(refine eq_4 (zq25) fun ex zq26 _=>?_;(try clear zq25);subst zq26);intro _ N6)
      exact ⟨_,(N6 _ (List.mem_append_right _ hbm3)).1,rfl,bk,rfl⟩
     ·(intro j v ys news₁ h tk g I2 C oC D m₂ oI E' hv zq27;(refine eq_18 (zq27) fun ex zq28 hys hex=>?_;(try clear zq27);subst zq28);intro hoC F6 N6 hI2 off h1 h2 h3 htk hg₁)
      (refine eq_4 (hbt3.get hv) fun t ht zq29=>?_;(refine eq_308 (zq29) fun ta u1 u2 u3 tk3 zq30 htm=>?_;(try clear zq29);subst zq30))
      have htm':=List.mem_append_right ex htm
      k_extra "vg"
      k_steps
      exact eq_303 ht hoC' (by with_reducible assumption) (by with_reducible assumption) (by with_reducible assumption) off (by k_extra "t") hg₁ hys hex
     (intro D2 h tk g ys news' zq31;(refine eq_18 (zq31) fun ex zq32 hys hex=>?_;(try clear zq31);subst zq32);intro FB NB hD2 htk hgB)
     rw [hbt2.len,List.take_length] at hys
     have yz:ys.length≤20000:=by rw [hys.len];unfold Q6;rw [List.length_map];exact Nat.le_trans (eq_268 ns turn zs b (List.mem_of_getElem? hb)) hzl
     subst hled
     first
      |(have NC:=eq_300 (pre:=[_,_]) NB;have hlD2:@Ne Nat lA D2:=hD2 _ (List.mem_append_right _ (.tail _ (.tail _ (.tail _ (.head _)))));have hoff:=eq_388 (pre:=[_,_]) hex (by k_all) w4)
      |(have NC:=eq_300 (pre:=[_,_,_]) NB;have hlD2:@Ne Nat lA D2:=hD2 _ (List.mem_append_right _ (.tail _ (.tail _ (.tail _ (.tail _ (.head _))))));have hoff:=eq_388 (pre:=[_,_,_]) hex (by k_all) w4)
     clear NB
     k_steps)
    ·exact eq_187 (lds:=lds++ys) (_,_) hb (eq_581 w6 (by with_reducible assumption)) (by assumption) (by assumption) (by simp) ((w6.mono fun _ _ x=>x.sub fun p hp=>List.mem_append_right _ (List.mem_append_right _ hp)).app (hys.mono fun _ _ x=>x.sub fun p hp=>List.mem_append_left _ hp)) hoff (eq_132 hex (by k_all) (fun p hp=>hn₁ p (.tail _ hp))) i1 (fun p hp=>List.mem_append_right _ (List.mem_append_right _ (w5 p hp))) (by k_extra "t") (by assumption) (by k_extra "m") ⟨_,by k_extra "m"⟩ (fun y y1 y2 y3 y4=>by simp only [y1,y2,y3,y4,if_false];exact w3 y y1 y2 y3 y4)
    ·rename Fr _ _ _ _=>FZ
     rw [Int.zero_add] at FZ
     exact eq_187 (lds:=lds++[Value.ref _]++ys) (_,_) hb (eq_707 w6 (by with_reducible assumption) (by with_reducible assumption)) (by assumption) (by assumption) (eq_1074 _ _ _) (((w6.mono fun _ _ x=>x.sub fun p hp=>List.mem_append_right _ (List.mem_append_right _ hp)).snoc ⟨_,_,_,_,rfl,by rw [←eq_668];exact List.mem_append_right _ (List.mem_append_left _ (.head _))⟩).app (hys.mono fun _ _ x=>x.sub fun p hp=>List.mem_append_left _ hp)) hoff (eq_132 hex (by k_all) (fun p hp=>hn₁ p (.tail _ hp))) i1 (fun p hp=>List.mem_append_right _ (List.mem_append_right _ (w5 p hp))) (by k_extra "t") (by assumption) (by k_extra "m") ⟨_,by k_extra "m"⟩ (fun y y1 y2 y3 y4=>by simp only [y1,y2,y3,y4,if_false];exact w3 y y1 y2 y3 y4)
    ·exact eq_187 (lds:=lds++ys) (_,_) hb (eq_1001 (by with_reducible assumption)) (by assumption) (by assumption) (by simp) ((w6.mono fun _ _ x=>x.sub fun p hp=>List.mem_append_right _ (List.mem_append_right _ hp)).app (hys.mono fun _ _ x=>x.sub fun p hp=>List.mem_append_left _ hp)) hoff (eq_132 hex (by k_all) (fun p hp=>hn₁ p (.tail _ hp))) i1 (fun p hp=>List.mem_append_right _ (List.mem_append_right _ (w5 p hp))) (by k_extra "t") (by assumption) (by k_extra "m") ⟨_,by k_extra "m"⟩ (fun y y1 y2 y3 y4=>by simp only [y1,y2,y3,y4,if_false];exact w3 y y1 y2 y3 y4)
  ·(intro m₁ news₁ h tk g₁ zq33;(refine eq_46 (zq33) fun lA lds k rest2 u2 w1 w2 w3 zq34 w4 w5 w6=>?_;(try clear zq33);subst zq34);intro F₁ N₁ htk hg₁)
   rw [bks.len,List.take_length] at w6
   k_steps
   exact hret _ _ _ _ _ (by assumption) (by assumption) (fun b o e=>F₁.keep b o (kp b o e (fun h=>nomatch h))) (fun p hp=>eq_20 kp N₁ p hp (fun h=>nomatch h)) ⟨_,rfl,_,_,.head _,w6.mono fun _ _ x=>x.sub fun _ hp=>.tail _ hp⟩ (by first|assumption|keq_rows) (by assumption)


end
section
section
variable {prog:Program} {w:World} {A:Around} {E:Value→Shared→Prop} {s:Shared} {K:Frag} {x q d D L C p:Addr} {h₀:Heap} {m:Str→Option Value} {news news':List (Addr×Obj)} {its:Array Value} {n:Nat}
theorem eq_1247:True:=by
 k_with "g19"=>have offG:True:=trivial
 k_with "g44"=>have offG:True:=trivial
 k_with "g51"=>have offG:True:=trivial
 k_with "g55"=>have offG:True:=trivial
 k_with "g56"=>have offG:True:=trivial
 k_with "g57"=>skip
 k_with "dl_mem"=>((fail_if_success (k_extra "g57";clear offG));first|(with_reducible first|apply eq_796|apply eq_262|(apply eq_84<;>assumption)|(apply eq_326<;>assumption)|(apply eq_917<;>assumption)|(apply eq_839<;>assumption)|(apply eq_1201<;>assumption)|apply eq_1114|(apply eq_452<;>assumption)|(apply eq_74<;>assumption)|(apply eq_99<;>assumption)|apply eq_104|(apply eq_168<;>assumption)|(apply eq_166<;>assumption)|(apply eq_79<;>assumption)|(apply eq_75<;>assumption)|(apply eq_1057<;>assumption)|(apply eq_717<;>assumption)|apply eq_270|(apply eq_298<;>assumption)|(apply eq_814<;>assumption)|(apply eq_489<;>assumption)|(apply eq_125<;>assumption)|(apply eq_578<;>assumption)|(apply eq_93<;>assumption)|(apply eq_635<;>assumption)|(apply eq_1000<;>assumption)|apply eq_542|(apply eq_1025<;>assumption)|apply eq_996|(apply eq_534<;>assumption)|(apply eq_829<;>assumption)|fail)|(apply eq_84<;>assumption)|(apply eq_74<;>assumption)|(with_reducible apply eq_168;rotate_left;all_goals assumption)|(apply eq_168<;>assumption)|(apply eq_93<;>assumption)|(apply eq_79<;>assumption)|(apply eq_99<;>assumption)|fail)
 trivial
theorem eq_1048 {i:Nat} (h:i≤1000000):(i:Int)<2 ^ 63:=by
 have:(1000001:Int)≤2 ^ 63:=by decide
 keq_rows
theorem eq_588 {i:Nat} {u:Tok} {y:Value} {P:Fin→Shared→Prop} (hl:s.heap.get? x=some (Qg its n d)) (hz:i≤1000000) (hy:its[i]?=some y) (h:P (.done (.ret y)) s):wpAny (model prog w) A (Builtin.«list.__getitem__» ⟨[.ref x,.int (i:Nat) u],[]⟩) P E s:=by
 have e:its[((i:Nat):Int).toNat]?=some y:=by rw [Int.toNat_natCast];exact hy
 have f:=eq_1048 hz
 generalize hk:(i:Int)=k at e f ⊢
 have h0:0≤k:=by keq_rows
 exact eq_749 hl h0 f e h
theorem eq_233 {value slice:PySem.Expr} {i:Nat} {u:Tok} {od:Obj} {y:Value} {Q:Value→Shared→Prop} (F:Fr h₀ L s.heap m) (X₀:K.In h₀) (N:News h₀ L s.heap news) (hl:(x,Qg its n d)∈news) (hd:(d,od)∈news)
  (hq:noSeq K 200=true) (hs:findIn K (.ref 200) "__getitem__"=some (some (.builtin "list.__getitem__"))) (hm:mroIn K 200 (.type "list")=some true) (hz:i≤1000000) (hy:its[i]?=some y)
  (h:Q y s) (h1:subscripted slice false (.ref x) (.int i u)=operate [.ref x,.int i u] (getItem (.ref x) (.int i u))) (h2:∀ r,letTemporaryGo value (.ref x) r=pure ()):
  wpAny (model prog w) A (subscriptTail value slice (.ref x) (.int (i:Nat) u)) Q E s:=by
 refine eq_420 (X₀.keeps F.keep) (Qg.inst N hl hd) hq hs ?_ h1 h2
 refine eq_68 (X₀.keeps F.keep) (N _ hl).1 rfl hm (nm:="__getitem__") (by decide +kernel) (.inl (by decide +kernel)) (by decide +kernel) PySem.F.entry_list_getitem (PySem.F.args_list_getitem_2 _ _) ?_
 have z:=@eq_588 prog w A.in1 E s x d its n i u y (fun fin s'=>∃ v,fin= .done (.ret v)∧Q v s') (N _ hl).1 hz hy ⟨_,rfl,h⟩
 clear h1 h2 hs hm hq hy hz
 with_reducible exact z
theorem eq_932 {value slice:PySem.Expr} {a b:Value} {u:Tok} {Q:Value→Shared→Prop} (hp:s.heap.get? p=some (Qh a b)) (hq:Q a s)
  (hs':subscripted slice false (.ref p) (.int 0 u)=operate [.ref p,.int 0 u] (getItem (.ref p) (.int 0 u)):=by with_unfolding_all rfl):wpAny (model prog w) A (subscriptTail value slice (.ref p) (.int 0 u)) Q E s:=by
 have z:IsTup s.heap p #[a,b]:=⟨_,hp,rfl,0,rfl⟩
 exact tail_any z.typeIs PySem.F.slot_tuple_getitem.lookup (PyProof.Rows.getItem_tuple z (by decide) (by decide) (j:=0) (by rfl) rfl hq) hs'
theorem eq_201 {value slice:PySem.Expr} {a b:Value} {u:Tok} {Q:Value→Shared→Prop} (hp:s.heap.get? p=some (Qh a b)) (hq:Q b s)
  (hs':subscripted slice false (.ref p) (.int 1 u)=operate [.ref p,.int 1 u] (getItem (.ref p) (.int 1 u)):=by with_unfolding_all rfl):wpAny (model prog w) A (subscriptTail value slice (.ref p) (.int 1 u)) Q E s:=by
 have z:IsTup s.heap p #[a,b]:=⟨_,hp,rfl,0,rfl⟩
 exact tail_any z.typeIs PySem.F.slot_tuple_getitem.lookup (PyProof.Rows.getItem_tuple z (by decide) (by decide) (j:=1) (by rfl) rfl hq) hs'
theorem eq_1150 {L:Addr} {Q:Value→Shared→Prop} {a b c:Int} {t u v:Tok} (F:Fr h₀ L s.heap m) (N:News h₀ L s.heap news) (hc:c≠0) (hp:Builtin.divisionGoesByPylong (b-a) c=false) (ht:1≤s.toks)
  (h:∀ h' (tk:Nat) t₁ u₁ v₁,1≤tk→IsRange h' s.heap.objs.size a b c t₁ u₁ v₁→Fr h₀ L h' m→News h₀ L h' news→Q (.ref s.heap.objs.size) { s with heap:=h',toks:=tk }):
  wpAny (model prog w) A (call (.type "range") [.int a t,.int b u,.int c v]) Q E s:=
 wpAny_with_toks ht (range3_rows F N hc (fun h' tk t₁ u₁ v₁ hr F' N' _ hk=>h h' tk t₁ u₁ v₁ hk hr F' N') (.inl hp))
end
theorem eq_407 {h₀ g h:Heap} {L L1 p:Addr} {m1:Str→Option Value} {news:List (Addr×Obj)} {vs:List Value} {chs:List (List Nat×List Nat)} {cw cp:List Nat} {t1 t2:Tok} (F:Fr g L1 h m1) (N:News h₀ L h news) (hp:(p,Qh (.str (S cw) t1) (.str (S cp) t2))∈news) (x:Fa2 (Qc g) vs chs):
  Fa2 (Qc h) (vs++[Value.ref p]).toArray.toList (chs++[(cw,cp)]):=by
 show Fa2 _ (vs++[Value.ref p]) _
 exact (eq_52 F x).snoc ⟨p,t1,t2,rfl,(N _ hp).1⟩
theorem eq_1239:True:=by
 k_with "g23"=>skip
 k_with "g32"=>skip
 k_with "g33"=>skip
 k_with "g25"=>skip
 k_with "g24"=>skip
 k_with "g48"=>skip
 k_with "g50"=>skip
 k_with "g52"=>skip
 k_with "g58"=>skip
 k_with "call type:range"=>((fail_if_success (k_extra "g58";clear offG));k_here;refine halt ?_)
 k_with "exec For Name Attribute cons cons"=>((fail_if_success (k_extra "g57";clear offG));k_here;refine halt ?_)
 k_with "exec For Name Call cons cons"=>((fail_if_success (k_extra "g57";clear offG));k_here;refine halt ?_)
 k_with "call ref"=>((fail_if_success (k_extra "g57";clear offG));k_here;k_dflt (refine' eq_33 (eq_1024 _ _ _ _ _ _ _ _ _ _ _ _ ?_) (by k_asm) (by k_asm) (by k_asm) (by k_asm) (by first|k_extra "b"|fail) (by first|k_extra "f"|fail) (by k_asm) (by first|(first|exact rfl|with_reducible assumption)|fail) (by first|(first|keq_rows|ktr_room)|fail) (by first|(first|keq_rows|ktr_units)|fail) (by first|k_extra "t"|fail) (by first|(try dsimp only);with_reducible assumption|fail) ?_;k_extra "rotp";(· ktr_rel);intro v9ω h9ω t9ω o9ω g9ω F9ω N9ω e9ω p9ω ht9ω hg9ω;obtain ⟨hv9ω,q9ω,ho9ω⟩:=p9ω;subst hv9ω ho9ω;dsimp only [List.cons_append,List.nil_append] at N9ω;have hn9ω:=eq_361 N9ω (by k_mem) (by k_mem) (by k_mem) e9ω;replace hn9ω:=eq_67 hn9ω;simp only [Q1m,and_true] at hn9ω;repeat ((revert hn9ω;intro zq1ω;(refine eq_7 (zq1ω) fun hx9ω hn9ω=>?_;(try clear zq1ω))))))
 k_with "call ref"=>((fail_if_success (k_extra "g57";clear offG));k_here;k_dflt (refine' eq_24 (eq_157 _ _ _ _ _ _ _ _ _ _ ?_ ?_ ?_) (by k_asm) (by k_asm) (by k_asm) (by k_asm) (by first|k_extra "b"|fail) (by first|k_extra "f"|fail) (by first|exact eq_407 (by k_asm) (by k_asm) (by k_mem) (by with_reducible assumption)|fail) (by k_asm) (by first|(first|exact rfl|with_reducible assumption)|fail) (by first|(first|keq_rows|ktr_room)|fail) (by first|(first|keq_rows|ktr_units)|fail) (by first|k_extra "t"|fail) (by first|(try dsimp only);with_reducible assumption|fail) ?_;k_extra "rotp";(· with_reducible assumption);k_extra "rotp";(· with_reducible assumption);k_extra "rotp";(· with_reducible assumption);intro v9ω h9ω t9ω o9ω g9ω F9ω N9ω e9ω p9ω ht9ω hg9ω;obtain ⟨⟨u9ω,hv9ω⟩,op9ω,hop9ω,ho9ω⟩:=p9ω;subst hv9ω ho9ω;dsimp only [List.cons_append,List.nil_append] at N9ω))
 trivial
noncomputable def Q3f (g:Heap) (q:Addr) (o₀:Obj) (p:Addr) (o:Obj):Prop:=g.get? p=some o∨(p=q∧o=o₀)
theorem Q3f.get {g h:Heap} {L q p:Addr} {o₀ o:Obj} {m:Str→Option Value} {news:List (Addr×Obj)} (x:Q3f g q o₀ p o) (F:Fr g L h m) (N:News g L h news) (hq:(q,o₀)∈news):h.get? p=some o:=by
 rcases x with e|⟨rfl,rfl⟩
 ·exact F.keep _ _ e
 ·exact (N _ hq).1
theorem eq_395 {g:Heap} {vs:List Value} {chs:List (List Nat×List Nat)} {cw cp:List Nat} {tw tp:Tok} {q:Addr} (x:Fa2 (Qc g) vs chs) {i:Nat} (hi:i<(chs++[(cw,cp)]).length):
  ∃ p t1 t2,(vs++[Value.ref q]).toArray[i]?=some (.ref p)∧Q3f g q (Qh (.str (S cw) tw) (.str (S cp) tp)) p (Qh (.str (S ((chs++[(cw,cp)]).getD i ([],[])).1) t1) (.str (S ((chs++[(cw,cp)]).getD i ([],[])).2) t2)):=by
 have hl:=x.len
 by_cases h:i<chs.length
 ·obtain ⟨v,hv,p,t1,t2,rfl,hp⟩:=x.put (List.getElem?_eq_getElem h)
  refine ⟨p,t1,t2,?_,.inl ?_⟩
  ·rw [List.getElem?_toArray,List.getElem?_append_left (by keq_rows)];exact hv
  ·rw [List.getD_eq_getElem?_getD,List.getElem?_append_left h,List.getElem?_eq_getElem h];exact hp
 ·have hi':i=chs.length:=by simp at hi;keq_rows
  subst hi'
  refine ⟨q,tw,tp,?_,.inr ⟨rfl,?_⟩⟩
  ·rw [List.getElem?_toArray, ←hl];simp
  ·rw [List.getD_eq_getElem?_getD];simp
theorem eq_728 {g h:Heap} {L AA DD q:Addr} {n:Nat} {vs:List Value} {r:List (Addr×Obj)} (_:News g L h ((AA,Qg (vs++[Value.ref q]).toArray n DD)::r)):∃ q',q'=q:=⟨q,rfl⟩
noncomputable def Q1u (mx:Nat) (l:List (List Nat×List Nat)):Option Nat:=if Q8 l≤mx then none else Qf l (l.length-1)
noncomputable def Q2d (w:World) (FF FD LL AA DD:Addr) (t:Q1p) (mx:Nat) (lv:Array Value) (vs:List Value) (chs:List (List Nat×List Nat)) (cw cp:List Nat) (own:List (Addr×Obj)):Prop:=
 ∃ p t1 t2 vs' lv' kl' n' u' t0' c' op1' op2',Qz op1'∧Qz op2'∧own=(p,Qh (.str (S cw) t1) (.str (S cp) t2))::Q1f w FF FD LL AA DD t mx lv' kl' (List.toArray vs') n' u' t0' c' op1' op2'∧
  match Q1u mx (chs++[(cw,cp)]) with
  |none=>vs'=vs++[Value.ref p]∧lv'=lv
  |some i=>vs'=(vs++[Value.ref p]).drop i∧∃ tt,lv'=lv.push (.str (S (Qd ((chs++[(cw,cp)]).take i))) tt)
theorem eq_967 {w:World} {FF FD LL AA DD p:Addr} {t:Q1p} {mx kl n c:Nat} {lv:Array Value} {vs:List Value} {chs:List (List Nat×List Nat)} {cw cp:List Nat} {t1 t2 u t0:Tok} {op1 op2:Obj} (h1:Qz op1) (h2:Qz op2) (hc:¬ (mx:Int)<(Q8 (chs++[(cw,cp)]):Nat)):
  Q2d w FF FD LL AA DD t mx lv vs chs cw cp ((p,Qh (.str (S cw) t1) (.str (S cp) t2))::Q1f w FF FD LL AA DD t mx lv kl (List.toArray (vs++[Value.ref p])) n u t0 c op1 op2):=by
 k_extra "v15"
 have:Q1u mx (chs++[(cw,cp)])=none:=if_pos (by keq_rows)
 rw [this]
 exact ⟨rfl,rfl⟩
theorem eq_1340:True:=by
 k_with "call ref"=>((fail_if_success (k_extra "g57";clear offG));k_here;k_dflt (refine' eq_33 (eq_294 _ _ _ _ _ _ _ _) (by k_asm) (by k_asm) (by k_asm) (by k_asm) (by first|k_extra "b"|fail) (by first|k_extra "f"|fail) (by k_asm) (by first|(first|exact rfl|with_reducible assumption)|fail) (by first|(first|keq_rows|ktr_room)|fail) (by first|(first|keq_rows|ktr_units)|fail) (by first|k_extra "t"|fail) (by first|(try dsimp only);with_reducible assumption|fail) ?_;intro v9ω h9ω t9ω o9ω g9ω F9ω N9ω e9ω p9ω ht9ω hg9ω;(refine eq_7 (p9ω) fun zq4ω ho9ω=>?_;(try clear p9ω);(refine eq_5 (zq4ω) fun u9ω hv9ω=>?_;(try clear zq4ω)));subst hv9ω ho9ω;dsimp only [List.cons_append,List.nil_append] at N9ω))
 k_with "subscriptTail Name Name ref int"=>((fail_if_success (k_extra "g57";clear offG));k_here;refine halt ?_)
 k_with "subscriptTail Name BinOp ref int"=>((fail_if_success (k_extra "g57";clear offG));k_here;refine halt ?_)
 k_with "subscriptTail Name Constant ref int"=>((fail_if_success (k_extra "g57";clear offG));k_here;refine halt ?_)
 trivial
theorem eq_98 {α:Type} {l:List α} {i:Nat} {d:α} (h:i<l.length):l.getD i d∈l:=by
 rw [List.getD_eq_getElem?_getD,List.getElem?_eq_getElem h]
 exact List.getElem_mem h
theorem eq_450 {prog:Program} {w:World} {A:Around} {E:Value→Shared→Prop} {s:Shared} {l:List Nat} {t:Tok} {Q:Bool→Shared→Prop} (hz:l.length≤1000000) (ht:1≤s.toks) (h:∀ k:Nat,1≤k→Q (!l.isEmpty) { s with toks:=k }):wpAny (model prog w) A (truthy (.str (S l) t)) Q E s:=by
 refine PyProof.Rows.SBL.truthy (by rw [eq_9];keq_rows) ?_
 have e:(((S l).length:Int) != 0)= !l.isEmpty:=by
  rw [eq_9]
  cases l with
  |nil=>rfl
  |cons a r=>simp only [List.length_cons,List.isEmpty_cons,Bool.not_false,bne_iff_ne,ne_eq];keq_rows
 rw [e]
 exact h _ (by show @LE.le Nat _ 1 _;keq_rows)
theorem eq_1281:True:=by
 k_with "g59"=>skip
 k_with "truthy str"=>((fail_if_success (k_extra "g59";clear offG));k_here;(with_reducible show wpAny _ _ (truthy (Value.str (S _) _)) _ _ _);k_dflt (refine' eq_450 (by first|(first|with_reducible assumption|exact Nat.le_trans (by with_reducible assumption) (by decide)|exact Nat.le_of_ble_eq_true rfl)|fail) (by first|k_extra "t"|fail) ?_;intro k8ω hk8ω;(try dsimp only [List.isEmpty_cons,List.isEmpty_nil,Bool.not_false,Bool.not_true])))
 trivial
theorem eq_1045 {prog:Program} {w:World} {A:Around} {E:Value→Shared→Prop} {s:Shared} {value slice:PySem.Expr} {x:Nat} {r:List Nat} {t u:Tok} {Q:Value→Shared→Prop} (hz:(x::r).length≤1000000) (ht:1≤s.toks) (hq:∀ t' tk,1≤tk→Q (.str (S [x]) t') { s with toks:=tk })
  (hs':subscripted slice false (.str (S (x::r)) t) (.int 0 u)=operate [.str (S (x::r)) t,.int 0 u] (getItem (.str (S (x::r)) t) (.int 0 u)):=by with_unfolding_all rfl):wpAny (model prog w) A (subscriptTail value slice (.str (S (x::r)) t) (.int 0 u)) Q E s:=
 eq_229 rfl ⟨Int.le_refl _,by simp only [List.length_cons];keq_rows⟩ hz ht (fun t' tk h=>hq t' tk h) hs'
theorem eq_469 {prog:Program} {w:World} {A:Around} {E:Value→Shared→Prop} {s:Shared} {a b:List Nat} {t u:Tok} {Q:Value→Shared→Prop} (h:Q (.bool (decide (a=b))) s):wpAny (model prog w) A (compareOp .Eq (.str (S a) t) (.str (S b) u)) Q E s:=by
 refine PyProof.Rows.eq_str ?_
 have e:(S a==S b)=decide (a=b):=by
  by_cases hab:a=b
  ·subst hab;simp
  ·rw [decide_eq_false hab];exact beq_false_of_ne fun e=>hab (eq_82 e)
 rw [e]
 exact h
theorem eq_1251:True:=by
 k_with "compareOp Eq str str"=>((fail_if_success (k_extra "g58";clear offG));k_here;(with_reducible show wpAny _ _ (compareOp _ (Value.str (S _) _) (Value.str (S _) _)) _ _ _);k_dflt (refine eq_469 ?_))
 k_with "subscriptTail Name Constant str int"=>((fail_if_success (k_extra "g57";clear offG));k_here;(with_reducible show wpAny _ _ (subscriptTail _ _ (Value.str (S (_::_)) _) (Value.int _ _)) _ _ _);k_dflt (refine' eq_1045 (by first|(first|with_reducible assumption|exact Nat.le_trans (by with_reducible assumption) (by decide))|fail) (by first|k_extra "t"|fail) ?_ (by first|with_unfolding_all rfl|fail);intro t8ω k8ω hk8ω))
 k_with "subscriptTail Name UnaryOp str int"=>((fail_if_success (k_extra "g57";clear offG));k_here;(with_reducible show wpAny _ _ (subscriptTail _ _ (Value.str (S (_::_)) _) (Value.int _ _)) _ _ _);k_dflt (refine' eq_322 (by first|exact List.cons_ne_nil _ _|fail) (by first|(first|with_reducible assumption|exact Nat.le_trans (by with_reducible assumption) (by decide))|fail) (by first|k_extra "t"|fail) ?_ (by first|with_unfolding_all rfl|fail);intro t8ω k8ω hk8ω))
 trivial
theorem eq_902 {w:World} {h₀ h:Heap} {L q AA DD:Addr} {zs its its0:Array Value} {n n0 c k:Nat} {u t0:Tok} {news old:List (Addr×Obj)} {r:List (Addr×Obj)} (N:News h₀ L h news) (h1:(q,listOf zs k)∈news) (h2:(AA,Qg its n DD)∈news) (h3:(DD,Q1d w u t0 c)∈news)
  (e:∀ p∈(q,listOf zs k)::r,p.1∉[(AA,Qg its0 n0 DD),(DD,Q1d w u t0 c)].map (·.1)→Q27 p.1 old):Q27 q old:=by
 refine e _ (.head _) fun hm=>?_
 have z1:@Ne Nat q AA:=eq_19 N h1 h2 (by simp)
 have z2:@Ne Nat q DD:=eq_19 N h1 h3 (by simp)
 k_extra "v1s"
 ·exact z1 hh
 ·k_extra "v1s"
  ·exact z2 hh
  ·cases hm
theorem eq_255 {l:List Nat} (h:[l.getLast?.getD 0]=[32]):l.getLast?=some 32:=by
 cases e:l.getLast? with
 |none=>rw [e] at h;simp at h
 |some a=>rw [e] at h;simp at h;rw [h]
theorem eq_318 {g h':Heap} {L I4:Addr} {io4:Obj} {s:Shared} {J:(Str→Option Value)→List (Addr×Obj)→Prop} {Q:Flow→Shared→Prop} {m':Str→Option Value} {nw:List (Addr×Obj)} {tk:Nat} {g':Array GenState} (F:Fr g L h' m') (N:News g L h' ((I4,io4)::nw)) (hn:∀ p∈nw,p.1≠I4) (ht:1≤tk) (hg:AllBare g') (hj:J m' nw):Qi g L I4 io4 s J Q .next ⟨h',g',s.drawn,tk,s.os⟩:=
 ⟨h',tk,g',m',nw,rfl,F,N,hn,ht,hg,hj⟩
theorem eq_612 {n k:Nat} (h:k<n):∃ i,n-k=i+1:=⟨n-k-1,by keq_rows⟩
theorem eq_1062 {n k i:Nat} {kk:Int} (h:kk=((n+1:Nat):Int)-1+(k:Int)* -1) (hk:k<n) (hi:n-k=i+1):kk=((i+1:Nat):Int):=by keq_rows
theorem eq_1081 {n k i:Nat} (h:n-k=i+1):n-(k+1)=i:=by keq_rows
theorem eq_599 {n k i:Nat} (h:n-k=i+1):i+1≤n:=by keq_rows
theorem eq_468 {α:Type} {l:List α} {i n:Nat} (h:l.length≤n):(l.take i).length≤n:=by rw [List.length_take];keq_rows
theorem eq_449 {α:Type} {l:List α} {i:Nat} {P:α→Prop} (h:∀ c∈l,P c):∀ c∈l.take i,P c:=fun c hc=>h c (List.mem_of_mem_take hc)
theorem eq_334 (l:List (List Nat×List Nat)) (i:Nat):Q8 (l.take i)≤Q8 l:=by
 conv=>rhs;rw [←List.take_append_drop i l]
 unfold Q8
 k_extra "v22"
 keq_rows
theorem Fa2.take {α β:Type} {R:α→β→Prop}:∀ {as:List α} {bs:List β},Fa2 R as bs→∀ i,Fa2 R (as.take i) (bs.take i):=by
 intro as bs h
 induction h with
 |nil=>intro i;rw [List.take_nil,List.take_nil];exact .nil
 |cons a _ ih=>
  intro i
  cases i with
  |zero=>exact .nil
  |succ i=>exact .cons a (ih i)
theorem eq_540 {h₀ g h:Heap} {L L1 p:Addr} {m1:Str→Option Value} {news:List (Addr×Obj)} {vs:List Value} {chs:List (List Nat×List Nat)} {cw cp:List Nat} {t1 t2:Tok} (F:Fr g L1 h m1) (N:News h₀ L h news) (hp:(p,Qh (.str (S cw) t1) (.str (S cp) t2))∈news) (x:Fa2 (Qc g) vs chs) (i:Nat):
  Fa2 (Qc h) ((vs++[Value.ref p]).toArray.toList.take i).toArray.toList ((chs++[(cw,cp)]).take i):=(eq_407 F N hp x).take i
theorem eq_1303:True:=by
 k_with "call ref"=>((fail_if_success (k_extra "g57";clear offG));k_here;k_dflt (refine' eq_33 (eq_995 _ _ _ _ _ _ _ _ _ _ ?_ ?_) (by k_asm) (by k_asm) (by k_asm) (by k_asm) (by first|k_extra "b"|fail) (by first|k_extra "f"|fail) (by k_asm) (by first|(first|exact rfl|with_reducible assumption)|fail) (by first|(first|keq_rows|ktr_room)|fail) (by first|(first|keq_rows|ktr_units)|fail) (by first|k_extra "t"|fail) (by first|(try dsimp only);with_reducible assumption|fail) ?_;k_extra "rotp";(· with_reducible assumption);k_extra "rotp";(· ktr_rel);intro v9ω h9ω t9ω o9ω g9ω F9ω N9ω e9ω p9ω ht9ω hg9ω;(refine eq_4 (p9ω) fun r9ω hv9ω ho9ω=>?_;(try clear p9ω));subst hv9ω ho9ω;dsimp only [List.cons_append,List.nil_append] at N9ω;have hn9ω:=eq_902 N9ω (by k_mem) (by k_mem) (by k_mem) e9ω;replace hn9ω:=eq_67 hn9ω;simp only [Q1m,and_true] at hn9ω;repeat ((revert hn9ω;intro zq5ω;(refine eq_7 (zq5ω) fun hx9ω hn9ω=>?_;(try clear zq5ω))))))
 k_with "call ref"=>((fail_if_success (k_extra "g57";clear offG));k_here;k_dflt (refine' eq_24 (eq_161 _ _ _ _ _ _ _ _ _ _ ?_ ?_ ?_ ?_) (by k_asm) (by k_asm) (by k_asm) (by k_asm) (by first|k_extra "b"|fail) (by first|k_extra "f"|fail) (by first|exact eq_540 (by k_asm) (by k_asm) (by k_mem) (by with_reducible assumption) _|fail) (by k_asm) (by first|(first|exact rfl|with_reducible assumption)|fail) (by first|(first|keq_rows|ktr_room)|fail) (by first|(first|keq_rows|ktr_units)|fail) (by first|k_extra "t"|fail) (by first|(try dsimp only);with_reducible assumption|fail) ?_;k_extra "rotp";(· with_reducible assumption);k_extra "rotp";(· with_reducible assumption);k_extra "rotp";(· with_reducible assumption);k_extra "rotp";(· with_reducible assumption);intro v9ω h9ω t9ω o9ω g9ω F9ω N9ω e9ω p9ω ht9ω hg9ω;obtain ⟨⟨u9ω,hv9ω⟩,op9ω,hop9ω,ho9ω⟩:=p9ω;subst hv9ω ho9ω;dsimp only [List.cons_append,List.nil_append] at N9ω))
 k_with "call ref"=>((fail_if_success (k_extra "g57";clear offG));k_here;k_dflt (refine' eq_33 (eq_1231 _ _ _ _ _ _ _ _ _ _ _ ?_ ?_) (by k_asm) (by k_asm) (by k_asm) (by k_asm) (by first|k_extra "b"|fail) (by first|k_extra "f"|fail) (by k_asm) (by first|(first|exact rfl|with_reducible assumption)|fail) (by first|(first|keq_rows|ktr_room)|fail) (by first|(first|keq_rows|ktr_units)|fail) (by first|k_extra "t"|fail) (by first|(try dsimp only);with_reducible assumption|fail) ?_;k_extra "rotp";(· (simp only [List.size_toArray,List.length_take,List.length_drop,List.length_append,List.length_singleton];keq_rows));k_extra "rotp";(· (simp only [List.size_toArray,List.length_take,List.length_drop,List.length_append,List.length_singleton];keq_rows));intro v9ω h9ω t9ω o9ω g9ω F9ω N9ω e9ω p9ω ht9ω hg9ω;obtain ⟨hv9ω,k9ω,u9ω,w9ω,c9ω,ho9ω⟩:=p9ω;subst hv9ω ho9ω;dsimp only [List.cons_append,List.nil_append] at N9ω))
 trivial
theorem eq_881 {g h':Heap} {L I4:Addr} {io4:Obj} {s:Shared} {J:(Str→Option Value)→List (Addr×Obj)→Prop} {Q:Flow→Shared→Prop} {m':Str→Option Value} {nw:List (Addr×Obj)} {tk:Nat} {g':Array GenState} (F:Fr g L h' m') (N:News g L h' ((I4,io4)::nw)) (hn:∀ p∈nw,p.1≠I4) (ht:1≤tk) (hg:AllBare g') (hj:J m' nw):Qi g L I4 io4 s J Q .cont ⟨h',g',s.drawn,tk,s.os⟩:=
 ⟨h',tk,g',m',nw,rfl,F,N,hn,ht,hg,hj⟩
theorem eq_937 {l:List (List Nat×List Nat)} {k i:Nat} (h:Qf l k=Qf l (i+1)) (hh:Q1j (l.getD (i+1) ([],[]))=false):Qf l k=Qf l i:=by
 rw [h,Qf,hh];rfl
theorem eq_752 {l:List (List Nat×List Nat)} {k i:Nat} (h:Qf l k=Qf l (i+1)) (hh:Q1j (l.getD (i+1) ([],[]))=true):Qf l k=some (i+1):=by
 rw [h,Qf,hh];rfl
theorem eq_574 {w:World} {FF FD LL AA DD p:Addr} {t:Q1p} {mx kl n c i:Nat} {lv:Array Value} {vs:List Value} {chs:List (List Nat×List Nat)} {cw cp:List Nat} {t1 t2 u t0 tt:Tok} {op1 op2:Obj} (h1:Qz op1) (h2:Qz op2) (hc:(mx:Int)<(Q8 (chs++[(cw,cp)]):Nat)) (hi:Qf (chs++[(cw,cp)]) ((chs++[(cw,cp)]).length-1)=some i):
  Q2d w FF FD LL AA DD t mx lv vs chs cw cp ((p,Qh (.str (S cw) t1) (.str (S cp) t2))::Q1f w FF FD LL AA DD t mx (lv.push (.str (S (Qd ((chs++[(cw,cp)]).take i))) tt)) kl (List.toArray ((vs++[Value.ref p]).drop i)) n u t0 c op1 op2):=by
 k_extra "v15"
 have:Q1u mx (chs++[(cw,cp)])=some i:=(if_neg (by keq_rows)).trans hi
 rw [this]
 exact ⟨rfl,_,rfl⟩
theorem eq_913 {w:World} {FF FD LL AA DD p:Addr} {t:Q1p} {mx kl n c:Nat} {lv its:Array Value} {vs:List Value} {chs:List (List Nat×List Nat)} {cw cp:List Nat} {t1 t2 u t0:Tok} {op1 op2:Obj} (h1:Qz op1) (h2:Qz op2) (he:its=(vs++[Value.ref p]).toArray) (hi:Qf (chs++[(cw,cp)]) ((chs++[(cw,cp)]).length-1)=none):
  Q2d w FF FD LL AA DD t mx lv vs chs cw cp ((p,Qh (.str (S cw) t1) (.str (S cp) t2))::Q1f w FF FD LL AA DD t mx lv kl its n u t0 c op1 op2):=by
 subst he
 k_extra "v15"
 have:Q1u mx (chs++[(cw,cp)])=none:=by
  unfold Q1u
  split
  ·rfl
  ·exact hi
 rw [this]
 exact ⟨rfl,rfl⟩
theorem eq_541 (vs:List Value) (x y:Value):(vs++[x]).toArray.pop.push y=(vs++[y]).toArray:=by simp
set_option maxHeartbeats 4000000
theorem eq_1329:True:=by
 k_with "call ref"=>((fail_if_success (k_extra "g57";clear offG));k_here;k_dflt (refine' eq_33 (eq_430 _ _ _ _ _ _ _ _ _ ?_ ?_) (by k_asm) (by k_asm) (by k_asm) (by k_asm) (by first|k_extra "b"|fail) (by first|k_extra "f"|fail) (by k_asm) (by first|(first|exact rfl|with_reducible assumption)|fail) (by first|(first|keq_rows|ktr_room)|fail) (by first|(first|keq_rows|ktr_units)|fail) (by first|k_extra "t"|fail) (by first|(try dsimp only);with_reducible assumption|fail) ?_;k_extra "rotp";(· with_reducible assumption);k_extra "rotp";(· with_reducible assumption);intro v9ω h9ω t9ω o9ω g9ω F9ω N9ω e9ω p9ω ht9ω hg9ω;(refine eq_7 (p9ω) fun hv9ω ho9ω=>?_;(try clear p9ω));subst hv9ω ho9ω;dsimp only [List.cons_append,List.nil_append] at N9ω))
 trivial
theorem eq_941 (w:World) (FF FD LL AA DD:Addr) (t:Q1p) (mx:Nat) (lv:Array Value) (kl:Nat) (vs:List Value) (n:Nat) (u t0:Tok) (c:Nat) (op1 op2:Obj) (chs:List (List Nat×List Nat)) (cw cp:List Nat) (tw tp:Tok) (htb1:Qz op1) (htb2:Qz op2)
  (hz:vs.toArray.size≤10000) (hz1:(chs++[(cw,cp)]).length≤20000) (hz2:∀ c∈chs++[(cw,cp)],c.1.length≤200000∧c.2.length≤200000) (hz3:Q8 (chs++[(cw,cp)])≤1000000) (hlv:lv.size≤100000) (hno:∀ c∈chs++[(cw,cp)],c.2.getLast?≠some 32):
  CtQ w 4 113 [.ref FF,.str (S cw) tw,.str (S cp) tp] (Q1f w FF FD LL AA DD t mx lv kl vs.toArray n u t0 c op1 op2) (fun h=>Fa2 (Qc h) vs chs) (fun v own=>v= .none∧Q2d w FF FD LL AA DD t mx lv vs chs cw cp own):=by
 k_extra "w8"
 replace F1:Fr g L1 h1 (fun y=>List.lookup y [(Str.ofString "string",.str (S cp) tp),(Str.ofString "fws",.str (S cw) tw),(Str.ofString "self",.ref FF)]):=F1
 k_extra "v7"
 have hch0:Fa2 (Qc g) vs chs:=eq_34 N (eq_48 htb1 htb2) kp hpre
 k_steps
 ·unfold Q18
  rename News _ _ _ ((AA,Qg (vs++[Value.ref _]).toArray _ _)::_)=>NQ
  (refine eq_5 (eq_728 NQ) fun q5 eq5=>?_)
  subst eq5
  refine eq_31 ?_
  k_steps
  rw [show Str.ofString " "=S [32] from by decide +kernel]
  refine eq_215 rfl (by k_asm) (by k_asm) (by k_extra "t") (by assumption) (fun i m' nw=>m' (Str.ofString "self")=some (.ref FF)∧nw=_∧(1≤i→Qf (chs++[(cw,cp)]) ((chs++[(cw,cp)]).length-1)=none)) ⟨by k_extra "m",rfl,fun h=>absurd h (by decide)⟩ ?_ ?_
  ·(intro i cc uc m₂ news₂ h2 tk2 g2 I io hc zq7;(refine eq_27 (zq7) fun hm1 zq8 hcut=>?_;(try clear zq7);subst zq8);intro F₂ N₂ hn₂ hI htk2 hg2)
   obtain rfl:cc=32:=by
    rcases i with _|i
    ·exact (Option.some.inj hc).symm
    ·cases hc
   refine eq_159 rfl rfl F₂ N₂ fun h' F' N'=>?_
   k_steps
   unfold Q18
   refine eq_31 ?_
   have hI2:=eq_50 hn₂
   simp only [Q1m,and_true] at hI2
   repeat ((revert hI2;intro zq9;(refine eq_7 (zq9) fun hx2 hI2=>?_;(try clear zq9))))
   k_steps
   have hlen:=hch0.len
   have hlen2:(vs++[Value.ref q5]).toArray.size=chs.length+1:=by simp;keq_rows
   have hlen3:(chs++[(cw,cp)]).length-1=chs.length:=by simp
   have hz9:chs.length≤20000:=by simp at hz1;keq_rows
   unfold Q18
   refine eq_1150 (by k_asm) (by k_asm) (by decide) (PyProof.noPylong_small (by keq_rows)) (by k_extra "t") fun h3 tk3 t3 u3 v3 htk3 hr3 F3 N3=>?_
   k_steps
   refine eq_207 rfl F3 N3 (by k_extra "t") (by assumption) (fun k m' nw=>m' (Str.ofString "self")=some (.ref FF)∧(∃ uc,m' (Str.ofString "ch")=some (.str (S [32]) uc))∧nw=_∧Qf (chs++[(cw,cp)]) ((chs++[(cw,cp)]).length-1)=Qf (chs++[(cw,cp)]) ((chs++[(cw,cp)]).length-1-k)) ⟨by k_extra "m",⟨_,by k_extra "m"⟩,rfl,rfl⟩ hr3 ?_ (n:=(chs++[(cw,cp)]).length-1) ?_ ?_ ?_
   ·rw [hlen2];exact small_down (by keq_rows) (by keq_rows) (by decide) (by decide)
   ·rw [rangeSize_downNat,hlen2,hlen3];keq_rows
   ·(intro k kk u4 m₄ news₄ h4 tk4 g4 I4 io4 hk hkk zq10;(refine eq_100 (zq10) fun hs4 zq11 zq12 hJ4=>?_;(try clear zq10);(refine eq_5 (zq11) fun uc4 hc4=>?_;(try clear zq11));subst zq12);intro F₄ N₄ hn₄ hI4 htk4 hg4)
    have hI4':=eq_50 hn₄
    simp only [Q1m,and_true] at hI4'
    repeat ((revert hI4';intro zq13;(refine eq_7 (zq13) fun hx4 hI4'=>?_;(try clear zq13))))
    rw [hlen3] at hk hJ4
    rw [hlen2] at hkk
    obtain ⟨i',hi'⟩:=eq_612 hk
    obtain rfl:kk=((i'+1:Nat):Int):=eq_1062 hkk hk hi'
    have hnx:=eq_1081 hi'
    have hi1:=eq_599 hi'
    have hz8:i'+1≤20000:=Nat.le_trans hi1 hz9
    have hib:i'+1≤1000000:=Nat.le_trans hi1 (Nat.le_trans hz9 (by decide))
    have hia:i'≤1000000:=Nat.le_trans (Nat.le_succ _) hib
    have hib':i'<chs.length+1:=Nat.lt_succ_of_le (Nat.le_trans (Nat.le_succ _) hi1)
    rw [hi'] at hJ4
    obtain ⟨p1,ta1,tb1,hv1,hp1⟩:=eq_395 (cw:=cw) (cp:=cp) (tw:=tw) (tp:=tp) (q:=q5) hch0 (i:=i'+1) (by rw [List.length_append,List.length_singleton];keq_rows)
    obtain ⟨p2,ta2,tb2,hv2,hp2⟩:=eq_395 (cw:=cw) (cp:=cp) (tw:=tw) (tp:=tp) (q:=q5) hch0 (i:=i') (by rw [List.length_append,List.length_singleton];keq_rows)
    have hm1:=eq_98 (l:=chs++[(cw,cp)]) (i:=i'+1) (d:=([],[])) (by rw [List.length_append,List.length_singleton];keq_rows)
    have hm0:=eq_98 (l:=chs++[(cw,cp)]) (i:=i') (d:=([],[])) (by rw [List.length_append,List.length_singleton];keq_rows)
    have hb1:=(hz2 _ hm1).1
    have hb0:=(hz2 _ hm0).2
    have hlast0:=hno _ hm0
    have hst:=eq_937 (i:=i') hJ4
    have hht:=eq_752 (i:=i') hJ4
    generalize (chs++[(cw,cp)]).getD (i'+1) ([],[])=c1' at hp1 hb1 hst hht
    generalize (chs++[(cw,cp)]).getD i' ([],[])=c0' at hp2 hb0 hlast0
    obtain ⟨w1,q1⟩:=c1'
    obtain ⟨w0,q0⟩:=c0'
    clear hm1 hm0
    dsimp only at hp1 hp2 hb1 hb0 hlast0
    refine eq_159 rfl rfl F₄ N₄ fun h' F' N'=>?_
    k_steps
    unfold Q18
    refine eq_233 (by k_asm) (by k_asm) (by k_asm) (by k_mem) (by k_mem) (by k_is) (by k_is) (by k_is) (by keq_rows) hv1 ?_ (by with_unfolding_all rfl) (fun _=>rfl)
    k_steps
    unfold Q18
    refine eq_932 (hp1.get (by k_asm) (by k_asm) (by k_mem)) ?_
    rcases w1 with _|⟨x1,r1⟩
    ·k_steps
     unfold Q18
     rw [show ((i'+1:Nat):Int)-1=((i':Nat):Int) by keq_rows]
     k_extra "vi"
     k_steps
     unfold Q18
     refine eq_201 (hp2.get (by k_asm) (by k_asm) (by k_mem)) ?_
     rcases q0 with _|⟨x0,r0⟩
     ·k_steps
      k_extra "vj"
     ·k_steps
      ·rename ([(x0::r0).getLast?.getD 0]=[32])=>hbad
       exact absurd (eq_255 hbad) hlast0
      ·k_extra "vj"
    ·by_cases hx1:x1=32
     ·subst hx1
      have hcut2:=hht rfl
      clear hst hht
      k_steps
      (try dsimp only)
      k_steps
      have hti:i'+1<(vs++[Value.ref q5]).toArray.size:=by rw [hlen2];exact Nat.lt_succ_of_le hi1
      have hsz5:(vs++[Value.ref q5]).toArray.size≤20000:=by rw [hlen2];simpa using hz1
      have ht1:=eq_468 (i:=i'+1) hz1
      have ht2:=eq_449 (i:=i'+1) hz2
      have ht3:=Nat.le_trans (eq_334 (chs++[(cw,cp)]) (i'+1)) hz3
      repeat' (unfold Qi;(try dsimp only);k_steps)
      all_goals (refine' hret _ _ _ ((q5,Qh _ _)::Q1f w FF FD LL AA DD t mx _ _ _ _ _ _ _ _ _) _ ?F ?N ?k ?fr ?po ?t ?g;k_extra "w4";(case po=>exact ⟨rfl,eq_574 (by with_reducible assumption) (by with_reducible assumption) (by with_reducible assumption) (by rw [hlen3];exact hcut2)⟩);k_extra "w5")
     ·k_steps
      ·rename ([x1]=[32])=>hbad
       exact absurd (List.cons.inj hbad).1 hx1
      ·unfold Q18
       rw [show ((i'+1:Nat):Int)-1=((i':Nat):Int) by keq_rows]
       k_extra "vi"
       k_steps
       unfold Q18
       refine eq_201 (hp2.get (by k_asm) (by k_asm) (by k_mem)) ?_
       rcases q0 with _|⟨x0,r0⟩
       ·k_steps
        k_extra "ve"
       ·k_steps
        ·rename ([(x0::r0).getLast?.getD 0]=[32])=>hbad
         exact absurd (eq_255 hbad) hlast0
        ·k_extra "ve"
   ·(intro m₅ news₅ h5 tk5 g5 zq14;(refine eq_100 (zq14) fun hs5 zq15 zq16 hJ5=>?_;(try clear zq14);(refine eq_5 (zq15) fun uc5 hc5=>?_;(try clear zq15));subst zq16);intro F5 N5 htk5 hg5)
    k_steps
    exact eq_881 (by k_asm) (News.sub (by with_reducible assumption) (by repeat (first|exact List.forall_mem_nil _|refine List.forall_mem_cons.mpr ⟨by k_mem,?_⟩))) hn₂ (by k_extra "t") (by assumption) ⟨hs5,rfl,fun _=>by rw [hJ5,Nat.sub_self];rfl⟩
  ·(intro m₆ news₆ h6 tk6 g6 zq17;(refine eq_27 (zq17) fun hs6 zq18 hJ6=>?_;(try clear zq17);subst zq18);intro F6 N6 htk6 hg6)
   have hy6:(vs++[Value.ref q5]).toArray[(vs++[Value.ref q5]).toArray.size-1]?=some (.ref q5):=by simp
   have hz6:(vs++[Value.ref q5]).toArray.size≤20000:=by simp;simp at hz;keq_rows
   k_steps
   all_goals (refine' hret _ _ _ ((_,Qh _ _)::Q1f w FF FD LL AA DD t mx _ _ _ _ _ _ _ _ _) _ ?F ?N ?k ?fr ?po ?t ?g;k_extra "w4";(case po=>exact ⟨rfl,eq_913 (by with_reducible assumption) (by with_reducible assumption) (eq_541 _ _ _) (hJ6 (by decide))⟩);k_extra "w5")
 all_goals (refine' hret _ _ _ ((_,Qh _ _)::Q1f w FF FD LL AA DD t mx _ _ _ _ _ _ _ _ _) _ ?F ?N ?k ?fr ?po ?t ?g;k_extra "w4";(case po=>exact ⟨rfl,eq_967 (by with_reducible assumption) (by with_reducible assumption) (by with_reducible assumption)⟩);k_extra "w5")


end
section
theorem eq_1316:True:=by
 k_with "g13"=>have offG:True:=trivial
 k_with "g14"=>have offG:True:=trivial
 k_with "g16"=>have offG:True:=trivial
 k_with "g17"=>have offG:True:=trivial
 k_with "g18"=>have offG:True:=trivial
 k_with "g23"=>have offG:True:=trivial
 k_with "g24"=>have offG:True:=trivial
 k_with "g25"=>have offG:True:=trivial
 k_with "g32"=>have offG:True:=trivial
 k_with "g33"=>have offG:True:=trivial
 k_with "g48"=>have offG:True:=trivial
 k_with "g50"=>have offG:True:=trivial
 k_with "g52"=>have offG:True:=trivial
 k_with "g57"=>have offG:True:=trivial
 k_with "g58"=>have offG:True:=trivial
 k_with "g59"=>have offG:True:=trivial
 k_with "g60"=>skip
 k_with "dl_mem"=>((fail_if_success (k_extra "g60";clear offG));first|(with_reducible first|apply eq_141|fail)|fail)
 trivial
structure Q35 (z TI TO it l:Addr):Prop where
 p1:TI≠z
 p2:TO≠z
 p3:it≠z
 p4:TI≠TO
 p5:TI≠it
 p6:TO≠it
 p7:l≠z
 p8:l≠TO
 p9:l≠it
noncomputable def Q2a (h:Heap) (z TI TO it l:Addr) (xs:Array Value) (f0:Value) (k:Nat):Prop:=
 IsZip h z TI TO f0∧IsPair h TI (.ref it) (.ref it)∧(∃ a b,IsPair h TO a b)∧h.IsListIter it l k∧h.IsList l xs
section
variable {prog:Program} {w:World} {A:Around} {E:Value→Shared→Prop} {s:Shared} {z TI TO it l:Addr} {xs:Array Value} {k:Nat}
theorem eq_960 {x y:Value} {Q:Option Value→Shared→Prop} (D:Q35 z TI TO it l) (Z:Q2a s.heap z TI TO it l xs .none k) (hx:xs[k]?=some x) (hy:xs[k+1]?=some y)
  (hQ:∀ (T:Addr) h',Q2a h' z TI TO it l xs (rawInt (T:Nat)) (k+2)→h'.get? T=some { cls:=.type "tuple",data:=.seq #[x,y] }→s.heap.objs.size≤T→(∀ c o,c≠z→c≠TO→c≠it→s.heap.get? c=some o→h'.get? c=some o)→Q (some (.ref T)) { s with heap:=h' }):
  wpAny (model prog w) A (pyNext (.ref z)) Q E s:=by
 (refine eq_39 (Z) fun hz hTI zq1 hit hl=>?_;(try clear Z);(refine eq_29 (zq1) fun a b hTO=>?_;(try clear zq1)))
 have hT:s.TypeIs (.ref z) "zip":=⟨_,hz,rfl⟩
 unfold pyNext
 k_extra "va"
 show wpAny _ _ (field (.ref z) 2 >>= _) _ _ _
 refine wpAny_bind (wpAny_field hz rfl (x:=.bool false) rfl ?_)
 show wpAny _ _ (field (.ref z) 3 >>= _) _ _ _
 k_extra "v16"
 show wpAny _ _ (Builtin.SmallTypes.ownedTupleIsFree (.ref z) >>= _) _ _ _
 unfold Builtin.SmallTypes.ownedTupleIsFree
 k_extra "v1h"
 simp only [if_true]
 k_extra "vn"
 replace u₁:IsZip g₁ z TI TO .ellipsis:=u₁
 k_extra "vw"
 k_extra "v1t"
 k_extra "v23"
 show wpAny _ _ (Builtin.SmallTypes.nextOf (.ref it) >>= _) _ _ _
 refine wpAny_bind (wpAny_nextOf_list_item (hit.extBut b₁.extBut D.p3) (hl.extBut b₁.extBut D.p7) hx fun g₂ i₂ b₂=>wpAny_pure ?_)
 have t₂:IsPair g₂ TO a b:=b₂.extBut _ _ D.p6 (b₁.extBut _ _ D.p2 hTO)
 have l₂:g₂.IsList l xs:=(hl.extBut b₁.extBut D.p7).extBut b₂.extBut D.p9
 refine wpAny_bind (wpAny_seqItems t₂ rfl (wpAny_bind (wpAny_updateSeq_pair t₂ fun g₃ t₃ b₃=>wpAny_bind (wpAny_letGo (wpAny_pure ?_)))))
 replace t₃:IsPair g₃ TO x b:=t₃
 k_extra "v23"
 show wpAny _ _ (Builtin.SmallTypes.nextOf (.ref it) >>= _) _ _ _
 refine wpAny_bind (wpAny_nextOf_list_item (i₂.extBut b₃.extBut D.p6.symm) (l₂.extBut b₃.extBut D.p8) hy fun g₄ i₄ b₄=>wpAny_pure ?_)
 have t₄:IsPair g₄ TO x b:=b₄.extBut _ _ D.p6 t₃
 have l₄:g₄.IsList l xs:=(l₂.extBut b₃.extBut D.p8).extBut b₄.extBut D.p9
 refine wpAny_bind (wpAny_seqItems t₄ rfl (wpAny_bind (wpAny_updateSeq_pair t₄ fun g₅ t₅ b₅=>wpAny_bind (wpAny_letGo (wpAny_pure (wpAny_pure ?_))))))
 replace t₅:IsPair g₅ TO x y:=t₅
 refine wpAny_bind (wpAny_seqItems t₅ rfl (wpAny_bind (wpAny_newTuple ?_)))
 have hsz:g₅.objs.size=s.heap.objs.size:=by rw [b₅.1,b₄.1,b₃.1,b₂.1,b₁.1]
 have old:∀ c o,c≠z→c≠TO→c≠it→s.heap.get? c=some o→g₅.get? c=some o:=fun c o c1 c2 c3 e=>
  b₅.extBut _ _ c2 (b₄.extBut _ _ c3 (b₃.extBut _ _ c2 (b₂.extBut _ _ c3 (b₁.extBut _ _ c1 e))))
 have z₅:IsZip g₅ z TI TO .ellipsis:=b₅.extBut _ _ D.p2.symm (b₄.extBut _ _ D.p3.symm (b₃.extBut _ _ D.p2.symm (b₂.extBut _ _ D.p3.symm u₁)))
 have i₅:g₅.IsListIter it l (k+1+1):=i₄.extBut b₅.extBut D.p6.symm
 have l₅:g₅.IsList l xs:=l₄.extBut b₅.extBut D.p8
 have hlt:z<g₅.objs.size:=Heap.lt_size z₅
 show wpAny _ _ (Builtin.SmallTypes.ownedTupleHandOut (.ref z) (.ref g₅.objs.size) >>= _) _ _ _
 unfold Builtin.SmallTypes.ownedTupleHandOut
 have z₆:IsZip (g₅.push { cls:=.type "tuple",data:=.seq #[x,y] }) z TI TO .ellipsis:=Heap.get?_push_of_some _ z₅
 refine wpAny_bind (wpAny_bind (wpAny_setField_rec z₆ (by simp) fun g₇ z₇ b₇=>?_))
 replace z₇:IsZip g₇ z TI TO (rawInt g₅.objs.size):=z₇
 refine wpAny_setField_rec z₇ (by simp) fun g₈ z₈ b₈=>?_
 replace z₈:IsZip g₈ z TI TO (rawInt g₅.objs.size):=z₈
 have up:∀ c o,c≠z→g₅.get? c=some o→g₈.get? c=some o:=fun c o c1 e=>b₈.extBut _ _ c1 (b₇.extBut _ _ c1 (Heap.get?_push_of_some _ e))
 have hT₈:IsPair g₈ g₅.objs.size x y:=b₈.extBut _ _ (Nat.ne_of_gt hlt) (b₇.extBut _ _ (Nat.ne_of_gt hlt) (Heap.get?_push_size _ rfl))
 refine wpAny_pure ⟨_,rfl,wpAny_pure ?_⟩
 exact hQ g₅.objs.size g₈ ⟨z₈,up _ _ D.p1 (old _ _ D.p1 D.p4 D.p5 hTI),⟨x,y,up _ _ D.p2 t₅⟩,i₅.at fun o e=>up _ o D.p3 e,l₅.at fun o e=>up _ o D.p7 e⟩ hT₈ (Nat.le_of_eq hsz.symm) fun c o c1 c2 c3 e=>up c o c1 (old c o c1 c2 c3 e)
theorem eq_726 {Q:Option Value→Shared→Prop} (hh:A.handled=none) (D:Q35 z TI TO it l) (Z:Q2a s.heap z TI TO it l xs .none k) (hx:xs[k]?=none)
  (hQ:∀ h',(∀ c o,c≠z→c≠TO→c≠it→s.heap.get? c=some o→h'.get? c=some o)→Q none { s with heap:=h' }):
  wpAny (model prog w) A (pyNext (.ref z)) Q E s:=by
 (refine eq_39 (Z) fun hz hTI zq2 hit hl=>?_;(try clear Z);(refine eq_29 (zq2) fun a b hTO=>?_;(try clear zq2)))
 have hT:s.TypeIs (.ref z) "zip":=⟨_,hz,rfl⟩
 unfold pyNext
 k_extra "va"
 show wpAny _ _ (field (.ref z) 2 >>= _) _ _ _
 refine wpAny_bind (wpAny_field hz rfl (x:=.bool false) rfl ?_)
 show wpAny _ _ (field (.ref z) 3 >>= _) _ _ _
 k_extra "v16"
 show wpAny _ _ (Builtin.SmallTypes.ownedTupleIsFree (.ref z) >>= _) _ _ _
 unfold Builtin.SmallTypes.ownedTupleIsFree
 k_extra "v1h"
 simp only [if_true]
 k_extra "vn"
 replace u₁:IsZip g₁ z TI TO .ellipsis:=u₁
 k_extra "vw"
 k_extra "v1t"
 k_extra "v23"
 show wpAny _ _ (Builtin.SmallTypes.nextOf (.ref it) >>= _) _ _ _
 refine wpAny_bind (wpAny_nextOf_list_end hh (hit.extBut b₁.extBut D.p3) (hl.extBut b₁.extBut D.p7) hx fun g₂ e b₂ he=>?_)
 (refine eq_4 (he) fun oe hoe hce=>?_;(try clear he))
 have z₂:IsZip g₂ z TI TO .ellipsis:=b₂ _ _ D.p3.symm u₁
 have hez:e≠z:=fun x=>by subst x;rw [z₂] at hoe;cases hoe;simp at hce
 refine wpAny_setField_rec z₂ (by simp) fun g₃ _ b₃=>?_
 refine wpAny_bind (wpAny_isInstance (T:="StopIteration") (b:=true) ⟨oe,b₃.extBut _ _ hez hoe,hce⟩ isSubtype_stop ?_)
 exact wpAny_pure (hQ _ fun c o c1 _ c3 x=>b₃.extBut _ _ c1 (b₂ _ _ c3 (b₁.extBut _ _ c1 x)))
theorem eq_872 {elts:List PySem.Expr} {n:Nat} {pos:Pos} {T:Addr} {Q:Unit→Shared→Prop} (D:Q35 z TI TO it l) (Z:Q2a s.heap z TI TO it l xs (rawInt T) k) (hQ:∀ h',Q2a h' z TI TO it l xs .none k→Heap.SameBut z s.heap h'→Q () { s with heap:=h' }):
  wpAny (model prog w) A (letOwnedTupleGo (.Tuple elts n pos) (.ref z) (.ref T)) Q E s:=by
 (refine eq_39 (Z) fun hz hTI zq3 hit hl=>?_;(try clear Z);(refine eq_29 (zq3) fun a b hTO=>?_;(try clear zq3)))
 exact wpAny_letOwnedTupleGo_zip hz fun h' hz' hs'=>hQ h' ⟨hz',hs'.extBut _ _ D.p1 hTI,⟨a,b,hs'.extBut _ _ D.p2 hTO⟩,hit.extBut hs'.extBut D.p3,hl.extBut hs'.extBut D.p7⟩ hs'
end


end
section
theorem eq_1291:True:=by
 k_with "g60"=>have offG:True:=trivial
 trivial
noncomputable abbrev liO (l:Addr) (i:Nat):Obj:={ cls:=.type "list_iterator",data:=.fields #[.ref l,.int (i:Nat) 0] }
noncomputable abbrev zoH1 (h:Heap) (it:Addr):Heap:=h.push { cls:=.type "tuple",data:=.seq #[.ref it,.ref it] }
noncomputable abbrev zoH2 (h:Heap) (it:Addr):Heap:=(zoH1 h it).push { cls:=.type "tuple",data:=.seq #[.none,.none] }
noncomputable abbrev zoH3 (h:Heap) (it:Addr):Heap:=(zoH2 h it).push { cls:=.type "zip",data:=.fields #[.none,.bool false,.bool false,.ref h.objs.size,.ref (zoH1 h it).objs.size] }
theorem eq_522 (it l:Addr):Meets (Builtin.«zip.__new__» ⟨[.type "zip",.ref it,.ref it],[]⟩) (fun _ R s=>s.heap.IsListIter it l 0∧R (.ok (.ret (.ref (zoH2 s.heap it).objs.size))) { s with heap:=zoH3 s.heap it }):=
 .of_wp fun prog w A R s h=>by
  obtain ⟨hp,g,d,tk,os⟩:=s;(revert h;intro zq1;(refine eq_7 (zq1) fun hl h=>?_;(try clear zq1)))
  have hsub:=sub_zip
  have h1:Heap.IsListIter (Shared.heap ⟨hp,g,d,tk,os⟩) it l 0:=hl
  wp_walk using wpAny_pyIter_listiter h1
  exact ⟨_,rfl,h⟩
section
variable {prog:Program} {w:World} {A:Around} {E:Value→Shared→Prop} {s:Shared} {h₀:Heap} {L:Addr} {m:Str→Option Value} {news:List (Addr×Obj)}
theorem eq_632 {D:Addr} {its:Array Value} {k:Nat} {Q:Value→Shared→Prop} (F:Fr h₀ L s.heap m) (N:News h₀ L s.heap news) (hm:(D,listOf its k)∈news)
  (h:∀ it h',Fr h₀ L h' m→News h₀ L h' ((it,liO D 0)::news)→(∀ p∈news,p.1<it)→Q (.ref it) { s with heap:=h' }):wpAny (model prog w) A (call (.builtin "iter") [.ref D]) Q E s:=by
 have hl:s.heap.IsList D its:=⟨_,(N _ hm).1,rfl,k,rfl⟩
 refine call_function_entry (by decide +kernel) (by decide +kernel) kdk_entry_iter (kdk_args_iter _) ?_
 unfold Builtin.«iter»
 refine wpAny_bind (wpAny_of_eq (a:=[Value.ref D]) (by first|rfl|kernel_rfl) ?_)
 refine wpAny_bind (wpAny_pyIter_list hl ?_)
 exact wpAny_pure ⟨_,rfl,h _ _ (F.push _) (N.push F _) fun p hp=>Heap.lt_size (N p hp).1⟩
theorem eq_566 {it l:Addr} {Q:Value→Shared→Prop} (F:Fr h₀ L s.heap m) (N:News h₀ L s.heap news) (hm:(it,liO l 0)∈news)
  (h:∀ z TI TO h',Fr h₀ L h' m→News h₀ L h' ((z,{ cls:=.type "zip",data:=.fields #[.none,.bool false,.bool false,.ref TI,.ref TO] })::(TO,{ cls:=.type "tuple",data:=.seq #[.none,.none] })::(TI,{ cls:=.type "tuple",data:=.seq #[.ref it,.ref it] })::news)→
   (∀ p∈news,p.1<TI)→TI<TO→TO<z→Q (.ref z) { s with heap:=h' }):wpAny (model prog w) A (call (.type "zip") [.ref it,.ref it]) Q E s:=by
 have hi:s.heap.IsListIter it l 0:=⟨_,(N _ hm).1,rfl,rfl⟩
 refine callType_new PySem.F.called_zip (by decide) (PySem.F.typeCall_zip_2 _ _) (PySem.F.newCall_zip_2 _ _) (fun obj=>PySem.F.args_object_init_3 obj _ _) PySem.F.entry_zip_new (eq_522 it l) ⟨hi,?_⟩
 have F1:=F.push { cls:=.type "tuple",data:=.seq #[.ref it,.ref it] }
 have N1:=N.push F { cls:=.type "tuple",data:=.seq #[.ref it,.ref it] }
 have F2:=F1.push { cls:=.type "tuple",data:=.seq #[.none,.none] }
 have N2:=N1.push F1 { cls:=.type "tuple",data:=.seq #[.none,.none] }
 have F3:=F2.push { cls:=.type "zip",data:=.fields #[.none,.bool false,.bool false,.ref s.heap.objs.size,.ref (zoH1 s.heap it).objs.size] }
 have N3:=N2.push F2 { cls:=.type "zip",data:=.fields #[.none,.bool false,.bool false,.ref s.heap.objs.size,.ref (zoH1 s.heap it).objs.size] }
 refine ⟨⟨_,(N3 _ (.head _)).1,rfl⟩,?_⟩
 refine h _ _ _ _ F3 N3 (fun p hp=>Heap.lt_size (N p hp).1) ?_ ?_
 ·show s.heap.objs.size<(s.heap.push _).objs.size
  rw [Heap.size_push];exact Nat.lt_succ_self _
 ·show (s.heap.push _).objs.size<((s.heap.push _).push _).objs.size
  simp only [Heap.size_push];exact Nat.lt_succ_self _
theorem eq_1174 {pos p2:Pos} {env:Env} {e:PySem.Expr} {T:String} {Q:Value→Shared→Prop} (h:wpAny (model prog w) A (eval e env) (fun v s₁=>StarOf (model prog w) A E v (fun vs s₂=>wpAny (model prog w) A (call (.type T) vs) Q E s₂) s₁) E s)
  (he:starEach [.Starred e p2] env=[(true,eval e env)]:=by rfl):wpAny (model prog w) A (callWith pos (.type T) [] (backTo pos (starEach [.Starred e p2] env)) []) Q E s:=by
 rw [he]
 refine ks_call (P:=fun _=>True) rfl (fun _ _=>⟨.machine,.inr (.inl rfl),Looks.of_pure rfl⟩) (ks_lone ?_)
 refine wpAny_mono h (fun v s₁ h₁=>?_) fun _ _ z=>z
 unfold StarOf at h₁ ⊢
 exact wpAny_mono h₁ (fun b s₂ h₂=>⟨h₂.1,wpAny_mono h₂.2 (fun vs s₃ h₃=>⟨trivial,h₃⟩) fun _ _ z=>z⟩) fun _ _ z=>z
end


end
section
theorem eq_1325:True:=by
 k_with "g61"=>skip
 k_with "dl_mem"=>((fail_if_success (k_extra "g61";clear offG));first|(with_reducible first|(apply eq_1003<;>assumption)|(apply eq_128<;>assumption)|(apply eq_938<;>assumption)|(apply eq_569<;>assumption)|(apply eq_130<;>assumption)|fail)|fail)
 trivial
theorem Q2a.at {h h':Heap} {z TI TO it l:Addr} {xs:Array Value} {f0:Value} {k:Nat} (Z:Q2a h z TI TO it l xs f0 k) (e:∀ b,b=z∨b=TO∨b=TI∨b=it∨b=l→∀ o,h.get? b=some o→h'.get? b=some o):Q2a h' z TI TO it l xs f0 k:=by
 (refine Mine.eq_39 (Z) fun a1 a2 zq1 a4 a5=>?_;(try clear Z);(refine Mine.eq_29 (zq1) fun a b a3=>?_;(try clear zq1)))
 exact ⟨e _ (by simp) _ a1,e _ (by simp) _ a2,⟨a,b,e _ (by simp) _ a3⟩,a4.at fun o=>e _ (by simp) o,a5.at fun o=>e _ (by simp) o⟩
section
variable {prog:Program} {w:World} {A:Around} {E:Value→Shared→Prop} {s:Shared} {env:Env} {h₀:Heap} {elts:List PySem.Expr} {ne:Nat} {tpos:Pos} {body orelse:List Stmt} {Q:Flow→Shared→Prop} {m₀:Str→Option Value} {news:List (Addr×Obj)}
noncomputable def off5 (z TI TO it l a:Addr):Prop:=@Ne Nat a z∧ @Ne Nat a TO∧ @Ne Nat a TI∧ @Ne Nat a it∧ @Ne Nat a l
noncomputable def Q49 (h₀:Heap) (L:Addr) (hd:List (Addr×Obj)) (off:Addr→Prop) (s:Shared) (J:(Str→Option Value)→List (Addr×Obj)→Prop) (Q:Flow→Shared→Prop) (f:Flow) (s₃:Shared):Prop:=match f with
 |.ret v=>Q (.ret v) s₃
 |.brk=>Q .next s₃
 |_=>∃ h' tk' g' m' news',s₃=⟨h',g',s.drawn,tk',s.os⟩∧Fr h₀ L h' m'∧News h₀ L h' (hd++news')∧(∀ p∈news',off p.1)∧1≤tk'∧AllBare g'∧J m' news'
theorem eq_462 {z TI TO it l:Addr} {xs:Array Value} {n:Nat} (hh:A.handled=none) (D:Q35 z TI TO it l) (F:Fr h₀ env.locals s.heap m₀) (N:News h₀ env.locals s.heap news) (Z:Q2a s.heap z TI TO it l xs .none 0) (none0:∀ b,b=z∨b=TO∨b=TI∨b=it∨b=l→h₀.get? b=none∧b≠env.locals)
  (ht:1≤s.toks) (hg:AllBare s.gens) (hoff:∀ p∈news,off5 z TI TO it l p.1) (J:Nat→(Str→Option Value)→List (Addr×Obj)→Prop) (hj:J 0 m₀ news) (hxs:xs.size=2*n)
  (turn:∀ i x y m₁ news₁ h tk g T oz oo ot oi ol,i<n→xs[2*i]?=some x→xs[2*i+1]?=some y→J i m₁ news₁→Fr h₀ env.locals h m₁→News h₀ env.locals h ((T,Qh x y)::([(z,oz),(TO,oo),(TI,ot),(it,oi),(l,ol)]++news₁))→(∀ p∈news₁,off5 z TI TO it l p.1)→(∀ p∈news₁,@Ne Nat p.1 T)→1≤tk→AllBare g→
   wpAny (model prog w) A (assign (.Tuple elts ne tpos) env (.ref T)) (fun _ s₂=>wpAny (model prog w) A (execs body env) (Q49 h₀ env.locals [(z,oz),(TO,oo),(TI,ot),(it,oi),(l,ol)] (off5 z TI TO it l) s (J (i+1)) Q) E s₂) E ⟨h,g,s.drawn,tk,s.os⟩)
  (done:∀ m₁ news₁ h tk g,J n m₁ news₁→Fr h₀ env.locals h m₁→News h₀ env.locals h news₁→1≤tk→AllBare g→wpAny (model prog w) A (execs orelse env) Q E ⟨h,g,s.drawn,tk,s.os⟩):
  wpAny (model prog w) A (pyIter (.ref z)) (fun iv s₂=>Q1t prog w A env (.Tuple elts ne tpos) body orelse Q E iv s₂) E s:=by
 refine wpAny_pyIter_zip Z.1 ?_
 refine ⟨fun k s'=>∃ h' tk g m' news' i,s'=⟨h',g,s.drawn,tk,s.os⟩∧Q2a h' z TI TO it l xs .none (2*i)∧Fr h₀ env.locals h' m'∧News h₀ env.locals h' news'∧(∀ p∈news',off5 z TI TO it l p.1)∧1≤tk∧AllBare g∧J i m' news'∧i≤n∧k=n+1-i,n+1,
  ⟨s.heap,s.toks,s.gens,m₀,news,0,rfl,Z,F,N,hoff,ht,hg,hj,Nat.zero_le _,rfl⟩,?_⟩
 (intro k s' zq2;obtain ⟨h',tk,g,m',news',i,rfl,Z',F',N',hnw',htk,hg',hJ,hi,rfl⟩:=zq2)
 have next:∀ h₁:Heap,(∀ c o,c≠z→c≠TO→c≠it→h'.get? c=some o→h₁.get? c=some o)→Fr h₀ env.locals h₁ m'∧News h₀ env.locals h₁ news':=fun h₁ hk₁=>by
  refine ⟨⟨F'.ns.at' fun o e=>hk₁ _ o ?_ ?_ ?_ e,fun b o e=>hk₁ b o ?_ ?_ ?_ (F'.keep b o e),F'.above⟩,fun p hp=>⟨hk₁ _ _ (hnw' p hp).1 (hnw' p hp).2.1 (hnw' p hp).2.2.2.1 (N' p hp).1,(N' p hp).2⟩⟩
  ·exact (none0 z (by simp)).2.symm
  ·exact (none0 TO (by simp)).2.symm
  ·exact (none0 it (by simp)).2.symm
  ·rintro rfl;rw [(none0 b (by simp)).1] at e;cases e
  ·rintro rfl;rw [(none0 b (by simp)).1] at e;cases e
  ·rintro rfl;rw [(none0 b (by simp)).1] at e;cases e
 by_cases hlt:i<n
 ·obtain ⟨x,hx⟩:∃ x,xs[2*i]?=some x:=⟨xs[2*i]'(by keq_rows),Array.getElem?_eq_getElem (by keq_rows)⟩
  obtain ⟨y,hy⟩:∃ y,xs[2*i+1]?=some y:=⟨xs[2*i+1]'(by keq_rows),Array.getElem?_eq_getElem (by keq_rows)⟩
  refine eq_960 D Z' hx hy fun T h₁ Z₁ hT hTs hk₁=>?_
  (refine eq_7 (next h₁ hk₁) fun F₁ N₁=>?_)
  have hzT:@Ne Nat z T:=fun e=>absurd (Heap.lt_size Z'.1) (by rw [e];exact Nat.not_lt.mpr hTs)
  refine eq_872 D Z₁ fun h₂ Z₂ hs₂=>?_
  have up:∀ c o,c≠z→h₁.get? c=some o→h₂.get? c=some o:=fun c o hc e=>hs₂.extBut _ _ hc e
  have F₂:Fr h₀ env.locals h₂ m':=⟨F₁.ns.at' fun o e=>up _ o (none0 z (by simp)).2.symm e,fun b o e=>up b o (by rintro rfl;rw [(none0 b (by simp)).1] at e;cases e) (F₁.keep b o e),F₁.above⟩
  have N₂:News h₀ env.locals h₂ news':=fun p hp=>⟨up _ _ (hnw' p hp).1 (N₁ p hp).1,(N₁ p hp).2⟩
  have hT₂:h₂.get? T=some (Qh x y):=up _ _ hzT.symm hT
  have hT0:h₀.get? T=none:=by
   cases hq:h₀.get? T with
   |none=>rfl
   |some o=>exact absurd (Heap.lt_size (F'.keep _ _ hq)) (Nat.not_lt.mpr hTs)
  have hTL:T≠env.locals:=fun e=>absurd F'.ns.lt (by rw [←e];exact Nat.not_lt.mpr hTs)
  have hTn:∀ p∈news',@Ne Nat p.1 T:=fun p hp e=>absurd (Heap.lt_size (N' p hp).1) (by rw [show p.1=T from e];exact Nat.not_lt.mpr hTs)
  (refine eq_39 (id Z₂) fun b1 b2 zq5 zq6 zq7=>?_;(refine eq_29 (zq5) fun ta tb b3=>?_;(try clear zq5));(refine eq_4 (zq6) fun oi b4 b4'=>?_;(try clear zq6));(refine eq_4 (zq7) fun ol b5 b5'=>?_;(try clear zq7)))
  obtain ⟨oz,b1⟩:∃ o,h₂.get? z=some o:=⟨_,b1⟩
  obtain ⟨oo,b3⟩:∃ o,h₂.get? TO=some o:=⟨_,b3⟩
  obtain ⟨ot,b2⟩:∃ o,h₂.get? TI=some o:=⟨_,b2⟩
  have NN:News h₀ env.locals h₂ ((T,Qh x y)::([(z,oz),(TO,oo),(TI,ot),(it,oi),(l,ol)]++news')):=by
   intro p hp
   k_extra "v0"
   ·exact ⟨hT₂,hTL,hT0⟩
   k_extra "vr"
   ·k_extra "v0"
    ·exact ⟨b1,(none0 z (by simp)).2,(none0 z (by simp)).1⟩
    k_extra "v0"
    ·exact ⟨b3,(none0 TO (by simp)).2,(none0 TO (by simp)).1⟩
    k_extra "v0"
    ·exact ⟨b2,(none0 TI (by simp)).2,(none0 TI (by simp)).1⟩
    k_extra "v0"
    ·exact ⟨b4,(none0 it (by simp)).2,(none0 it (by simp)).1⟩
    k_extra "v0"
    ·exact ⟨b5,(none0 l (by simp)).2,(none0 l (by simp)).1⟩
    ·cases hp
   ·exact N₂ p hp
  refine wpAny_mono (turn i x y m' news' h₂ tk g T oz oo ot oi ol hlt hx hy hJ F₂ NN hnw' hTn htk hg') (fun _ s₂ a₂=>wpAny_mono a₂ (fun f s₃ a₃=>?_) fun _ _ e=>e) fun _ _ e=>e
  have fin:∀ h₃ news₃,News h₀ env.locals h₃ ([(z,oz),(TO,oo),(TI,ot),(it,oi),(l,ol)]++news₃)→Q2a h₃ z TI TO it l xs .none (2*(i+1)):=fun h₃ news₃ N₃=>by
   refine Z₂.at fun b hb o e=>?_
   rcases hb with rfl|rfl|rfl|rfl|rfl
   ·rw [b1] at e;rw [←e];exact (N₃ (b,oz) (by simp)).1
   ·rw [b3] at e;rw [←e];exact (N₃ (b,oo) (by simp)).1
   ·rw [b2] at e;rw [←e];exact (N₃ (b,ot) (by simp)).1
   ·rw [b4] at e;rw [←e];exact (N₃ (b,oi) (by simp)).1
   ·rw [b5] at e;rw [←e];exact (N₃ (b,ol) (by simp)).1
  cases f with
  |ret v=>exact a₃
  |brk=>exact a₃
  |next=>
   (refine eq_46 (a₃) fun h₃ tk₃ g₃ m₃ news₃ zq8 F₃ N₃ nw₃ t₃ c₃ J₃=>?_;(try clear a₃);subst zq8)
   exact ⟨n+1-(i+1),by keq_rows,h₃,tk₃,g₃,m₃,news₃,i+1,rfl,fin _ _ N₃,F₃,fun p hp=>N₃ p (List.mem_append_right _ hp),nw₃,t₃,c₃,J₃,hlt,rfl⟩
  |cont=>
   (refine eq_46 (a₃) fun h₃ tk₃ g₃ m₃ news₃ zq9 F₃ N₃ nw₃ t₃ c₃ J₃=>?_;(try clear a₃);subst zq9)
   exact ⟨n+1-(i+1),by keq_rows,h₃,tk₃,g₃,m₃,news₃,i+1,rfl,fin _ _ N₃,F₃,fun p hp=>N₃ p (List.mem_append_right _ hp),nw₃,t₃,c₃,J₃,hlt,rfl⟩
 ·have hin:i=n:=by keq_rows
  subst hin
  refine eq_726 hh D Z' (Array.getElem?_eq_none (by keq_rows)) fun h₁ hk₁=>?_
  (refine eq_7 (next h₁ hk₁) fun F₁ N₁=>?_)
  exact done m' news' h₁ tk g hJ F₁ N₁ htk hg'
end


end
section
theorem eq_1330:True:=by
 k_with "g61"=>have offG:True:=trivial
 trivial
noncomputable def Qm:List (List Nat)→List (List Nat×List Nat)
 |a::b::r=>(a,b)::Qm r
 |_=>[]
noncomputable def Q16 (mx:Nat) (st:List (List Nat)×List (List Nat×List Nat)) (c:List Nat×List Nat):List (List Nat)×List (List Nat×List Nat):=
 match Q1u mx (st.2++[c]) with
 |none=>(st.1,st.2++[c])
 |some i=>(st.1++[Qd ((st.2++[c]).take i)],(st.2++[c]).drop i)
noncomputable def Ql (mx:Nat) (ps:List (List Nat×List Nat)):List (List Nat)×List (List Nat×List Nat):=ps.foldl (Q16 mx) ([],[])
noncomputable def Q2l (ex:List (Addr×Obj)) (v:Value) (c:List Nat×List Nat):Prop:=∃ p t1 t2,v= .ref p∧(p,Qh (.str (S c.1) t1) (.str (S c.2) t2))∈ex
theorem Q2l.more {ex:List (Addr×Obj)} {v:Value} {c:List Nat×List Nat} (x:Q2l ex v c) (p:Addr×Obj):Q2l (p::ex) v c:=by
 (refine Mine.eq_26 (x) fun a b d e f=>?_;(try clear x))
 exact ⟨a,b,d,e,.tail _ f⟩
theorem Q2l.chunk {ex news:List (Addr×Obj)} {h₀ h:Heap} {L:Addr} {v:Value} {c:List Nat×List Nat} (N:News h₀ L h news) (hs:∀ p∈ex,p∈news) (x:Q2l ex v c):Qc h v c:=by
 (refine Mine.eq_26 (x) fun a b d e f=>?_;(try clear x))
 exact ⟨a,b,d,e,(N _ (hs _ f)).1⟩
noncomputable def Q4e (w:World) (FF FD LL AA DD:Addr) (t:Q1p) (mx:Nat) (ls:List (List Nat)) (chs:List (List Nat×List Nat)) (nw:List (Addr×Obj)):Prop:=
 ∃ lv kl vs n u t0 c op1 op2 ex,Qz op1∧Qz op2∧nw=Q1f w FF FD LL AA DD t mx lv kl (List.toArray vs) n u t0 c op1 op2++ex∧(∀ q∈Q1f w FF FD LL AA DD t mx lv kl (List.toArray vs) n u t0 c op1 op2,∀ p∈ex,@Ne Nat p.1 q.1)∧Fa2 (Q2l ex) vs chs∧Fa2 Q1s lv.toList ls
theorem eq_101 {w:World} {FF FD LL AA DD:Addr} {t:Q1p} {mx kl n c kl' n' c':Nat} {lv its lv' its':Array Value} {u t0 u' t0':Tok} {op1 op2 op1' op2':Obj}:∀ q∈Q1f w FF FD LL AA DD t mx lv kl its n u t0 c op1 op2,∃ q'∈Q1f w FF FD LL AA DD t mx lv' kl' its' n' u' t0' c' op1' op2',q'.1=q.1:=by
 intro q hq
 k_extra "v2"
 ·exact ⟨_,.head _,rfl⟩
 k_extra "v2"
 ·exact ⟨_,.tail _ (.head _),rfl⟩
 k_extra "v2"
 ·exact ⟨_,.tail _ (.tail _ (.head _)),rfl⟩
 k_extra "v2"
 ·exact ⟨_,.tail _ (.tail _ (.tail _ (.head _))),rfl⟩
 k_extra "v2"
 ·exact ⟨_,.tail _ (.tail _ (.tail _ (.tail _ (.head _)))),rfl⟩
 k_extra "v2"
 ·exact ⟨_,.tail _ (.tail _ (.tail _ (.tail _ (.tail _ (.head _))))),rfl⟩
 k_extra "v2"
 ·exact ⟨_,.tail _ (.tail _ (.tail _ (.tail _ (.tail _ (.tail _ (.head _)))))),rfl⟩
 ·cases hq
theorem eq_696 {w:World} {FF FD LL AA DD p L:Addr} {t:Q1p} {mx kl n c:Nat} {lv its:Array Value} {u t0:Tok} {op1 op2:Obj} {h₀ h:Heap} {x y:Value} {r:List (Addr×Obj)} (h1:Qz op1) (h2:Qz op2) (N:News h₀ L h ((p,Qh x y)::Q1f w FF FD LL AA DD t mx lv kl its n u t0 c op1 op2++r)):∀ q∈Q1f w FF FD LL AA DD t mx lv kl its n u t0 c op1 op2,@Ne Nat p q.1:=by
 intro q hq
 have mp:(p,Qh x y)∈(p,Qh x y)::Q1f w FF FD LL AA DD t mx lv kl its n u t0 c op1 op2++r:=.head _
 have mq:q∈(p,Qh x y)::Q1f w FF FD LL AA DD t mx lv kl its n u t0 c op1 op2++r:=.tail _ (List.mem_append_left _ hq)
 k_extra "v2"
 ·k_extra "v1v"
 k_extra "v2"
 ·k_extra "v1v"
 k_extra "v2"
 ·k_extra "v1v"
 k_extra "v2"
 ·k_extra "v1v"
 k_extra "v2"
 ·k_extra "v1v"
 k_extra "v2"
 ·exact eq_15 N mp mq h1 (by simp)
 k_extra "v2"
 ·exact eq_15 N mp mq h2 (by simp)
 ·cases hq
theorem Fa2.drop {α β:Type} {R:α→β→Prop}:∀ {as:List α} {bs:List β},Fa2 R as bs→∀ i,Fa2 R (as.drop i) (bs.drop i)
 |_,_,.nil,i=>by rw [List.drop_nil,List.drop_nil];exact .nil
 |_,_,.cons a r,0=>.cons a r
 |_,_,.cons a r,i+1=>r.drop i
theorem eq_1209 {a:Addr} {l:List (Addr×Obj)} (h:Q27 a l) (p:Addr×Obj) (hp:p∈l):@Ne Nat p.1 a:=by
 induction l with
 |nil=>cases hp
 |cons q l ih=>
  k_extra "v0"
  ·exact h.1
  ·exact ih h.2 hp
theorem eq_666 {w:World} {FF FD LL AA DD L:Addr} {t:Q1p} {mx kl n c:Nat} {lv:Array Value} {vs:List Value} {u t0:Tok} {op1 op2:Obj} {h₀ h':Heap} {ls:List (List Nat)} {chs:List (List Nat×List Nat)} {cw cp:List Nat} {own' hd ex:List (Addr×Obj)} {off:Addr→Prop}
  (hA:Q2d w FF FD LL AA DD t mx lv vs chs cw cp own') (N':News h₀ L h' (own'++(hd++ex))) (kn:∀ p∈own',p.1∉(Q1f w FF FD LL AA DD t mx lv kl (List.toArray vs) n u t0 c op1 op2).map (·.1)→Q27 p.1 (hd++(Q1f w FF FD LL AA DD t mx lv kl (List.toArray vs) n u t0 c op1 op2++ex)))
  (hoff:∀ q∈Q1f w FF FD LL AA DD t mx lv kl (List.toArray vs) n u t0 c op1 op2,∀ p∈ex,@Ne Nat p.1 q.1) (hx:Fa2 (Q2l ex) vs chs) (hl:Fa2 Q1s lv.toList ls)
  (o1:∀ p∈Q1f w FF FD LL AA DD t mx lv kl (List.toArray vs) n u t0 c op1 op2++ex,off p.1) (o2:∀ a,(∀ p∈hd,@Ne Nat p.1 a)→off a):
  ∃ nw',Q4e w FF FD LL AA DD t mx (Q16 mx (ls,chs) (cw,cp)).1 (Q16 mx (ls,chs) (cw,cp)).2 nw'∧News h₀ L h' (hd++nw')∧∀ p∈nw',off p.1:=by
 obtain ⟨p,t1,t2,vs',lv',kl',n',u',t0',c',op1',op2',k1,k2,rfl,hm⟩:=hA
 have pn:=eq_696 k1 k2 (r:=hd++ex) N'
 have hpn:p∉(Q1f w FF FD LL AA DD t mx lv kl (List.toArray vs) n u t0 c op1 op2).map (·.1):=fun hp=>by
  (refine eq_4 (List.mem_map.mp hp) fun q hq e=>?_)
  (refine eq_4 (eq_101 (lv':=lv') (kl':=kl') (its':=List.toArray vs') (n':=n') (u':=u') (t0':=t0') (c':=c') (op1':=op1') (op2':=op2') q hq) fun q' hq' e'=>?_)
  exact pn q' hq' (by rw [e',e])
 have hne:=eq_1209 (kn _ (.head _) hpn)
 have hfull:Fa2 (Q2l ((p,Qh (.str (S cw) t1) (.str (S cp) t2))::ex)) (vs++[Value.ref p]) (chs++[(cw,cp)]):=(hx.mono fun v c y=>y.more _).snoc ⟨p,t1,t2,rfl,.head _⟩
 have hst:Fa2 (Q2l ((p,Qh (.str (S cw) t1) (.str (S cp) t2))::ex)) vs' (Q16 mx (ls,chs) (cw,cp)).2∧Fa2 Q1s lv'.toList (Q16 mx (ls,chs) (cw,cp)).1:=by
  unfold Q16
  dsimp only
  cases hcut:Q1u mx (chs++[(cw,cp)]) with
  |none=>
   rw [hcut] at hm
   (refine eq_7 (hm) fun zq2 zq3=>?_;(try clear hm);subst zq2;subst zq3)
   exact ⟨hfull,hl⟩
  |some i=>
   rw [hcut] at hm
   obtain ⟨rfl,tt,rfl⟩:=hm
   exact ⟨hfull.drop i,eq_412 hl⟩
 refine ⟨Q1f w FF FD LL AA DD t mx lv' kl' (List.toArray vs') n' u' t0' c' op1' op2'++((p,Qh (.str (S cw) t1) (.str (S cp) t2))::ex),⟨lv',kl',vs',n',u',t0',c',op1',op2',_,k1,k2,rfl,?_,hst.1,hst.2⟩,?_,?_⟩
 ·intro q hq r hr
  rcases List.mem_cons.mp hr with rfl|hr
  ·exact pn q hq
  ·(refine eq_4 (eq_101 (lv':=lv) (kl':=kl) (its':=List.toArray vs) (n':=n) (u':=u) (t0':=t0) (c':=c) (op1':=op1) (op2':=op2) q hq) fun q' hq' e'=>?_)
   have:=hoff q' hq' r hr
   rw [e'] at this
   exact this
 ·intro q hq
  refine N' q ?_
  k_extra "vu"
  ·exact List.mem_append_right _ (List.mem_append_left _ hq)
  ·k_extra "vu"
   ·exact List.mem_append_left _ (.tail _ hq)
   ·k_extra "v2"
    ·exact List.mem_append_left _ (.head _)
    ·exact List.mem_append_right _ (List.mem_append_right _ hq)
 ·intro q hq
  k_extra "vu"
  ·(refine eq_4 (eq_101 (lv':=lv) (kl':=kl) (its':=List.toArray vs) (n':=n) (u':=u) (t0':=t0) (c':=c) (op1':=op1) (op2':=op2) q hq) fun q' hq' e'=>?_)
   have:=o1 q' (List.mem_append_left _ hq')
   rw [e'] at this
   exact this
  ·k_extra "v2"
   ·exact o2 _ fun r hr=>hne r (List.mem_append_left _ hr)
   ·exact o1 q (List.mem_append_right _ hq)
theorem Rem.mid {p:Addr×Obj}:∀ (hd:List (Addr×Obj)) {r:List (Addr×Obj)},Rem p (hd++p::r) (hd++r)
 |[],_=>.head
 |_::hd,_=>.tail (Rem.mid hd)
theorem Q23.mid (hd ex:List (Addr×Obj)):∀ (own:List (Addr×Obj)),Q23 own (hd++(own++ex)) (hd++ex)
 |[]=>.nil
 |_::own=>.cons (Rem.mid hd) (Q23.mid hd ex own)


end
section
set_option maxHeartbeats 4000000
theorem eq_1332:True:=by
 k_with "g62"=>skip
 k_with "dl_mem"=>((fail_if_success (k_extra "g62";clear offG));first|(with_reducible first|apply eq_37|(apply eq_694<;>assumption)|(apply eq_755<;>assumption)|(apply eq_148<;>assumption)|(apply eq_742<;>assumption)|fail)|(with_reducible apply eq_148;rotate_left;all_goals assumption)|(apply eq_148<;>assumption)|fail)
 k_with "g13"=>skip
 k_with "g14"=>skip
 k_with "g16"=>skip
 k_with "g17"=>skip
 k_with "g18"=>skip
 k_with "g52"=>skip
 k_with "call ref"=>((fail_if_success (k_extra "g62";clear offG));k_here;k_dflt (refine' eq_1167 (by k_asm) (by k_asm) (by k_asm) (by k_asm) (by k_asm) (by first|(first|exact rfl|with_reducible assumption)|fail) (by first|(first|keq_rows|ktr_room)|fail) (by first|(first|keq_rows|ktr_units)|fail) (by first|k_extra "t"|fail) (by first|(try dsimp only);with_reducible assumption|fail) ?_;intro x9ω d9ω h9ω t9ω u9ω c9ω g9ω F9ω N9ω n1ω n2ω n3ω ht9ω hg9ω;have s1ω:=eq_50 n1ω;have s2ω:=eq_50 n2ω;have s3ω:Sep x9ω d9ω:=n3ω;simp only [Q1m,and_true] at s1ω s2ω;repeat ((revert s1ω;intro zq1ω;(refine eq_7 (zq1ω) fun hx9ω s1ω=>?_;(try clear zq1ω))));repeat ((revert s2ω;intro zq2ω;(refine eq_7 (zq2ω) fun hy9ω s2ω=>?_;(try clear zq2ω))))))
 trivial
theorem eq_1084 (w:World) (FF FD:Addr) (mx:Nat) (ti tm tc ts:Tok):CtC w 3 57 [.ref FF,.int 0 ti,.int mx tm,.str (Str.ofString " ") tc,.str (Str.ofString " ") ts] [(FF,Q40 FD),(FD,dictOf [] 0)]
  (fun v own=>v= .none∧∃ LL AA DD t u c,own=[(FF,Q40 FD),(FD,fmtD w t mx LL AA),(LL,listOf #[] 0),(AA,Qg #[] 0 DD),(DD,Q1d w u ti c)]):=by
 k_extra "w6"
 replace F1:Fr g L1 h1 (fun y=>List.lookup y [(Str.ofString "splitchars",.str (Str.ofString " ") ts),(Str.ofString "continuation_ws",.str (Str.ofString " ") tc),(Str.ofString "maxlen",.int mx tm),(Str.ofString "headerlen",.int 0 ti),(Str.ofString "self",.ref FF)]):=F1
 have hAD:Sep FF FD:=eq_19 N1 (.head _) (.tail _ (.head _)) (by simp)
 k_steps
 all_goals (refine' hret _ _ _ [(FF,_),(FD,_),(_,listOf #[] 0),(_,Qg #[] 0 _),(_,Q1d w _ ti _)] _ ?F ?N ?k ?fr ?po ?t ?g;k_extra "w4";(case po=>exact ⟨rfl,_,_,_,⟨_,_,_,_,_,_,_,_,_,_,_⟩,_,_,rfl⟩);k_extra "w5")
theorem eq_1102 {w:World} {mx:Nat} {ti tm tc ts:Tok} {A₀:Around} {s:Shared} {base h₀:Heap} {outer:List Env} {L:Addr} {m:Str→Option Value} {news:List (Addr×Obj)} {p:Program} {loose:List Str} {mean:ExcName→Option Value} {mg mb:Str→Option Value} {dp un:Nat} {gd:Option (List Code)} {cn:Str} {cs:Scope} {a:Addr} {ccd:Value} {cl:List (Str×Addr)} {Q E:Value→Shared→Prop}
  (B:Below A₀ base outer h₀) (F:Fr h₀ L s.heap m) (X:(Kx w.params).In h₀) (N:News h₀ L s.heap news) (T:Top p loose mean mg mb h₀) (hk:cs.kind= .function) (hd:dp+100<recursionLimit) (hu:un+1000<cLine) (ht:1≤s.toks) (hg:AllBare s.gens)
  (k:∀ FF FD LL AA DD t h' tk u c g',Fr h₀ L h' m→News h₀ L h' ([(FF,Q40 FD),(FD,fmtD w t mx LL AA),(LL,listOf #[] 0),(AA,Qg #[] 0 DD),(DD,Q1d w u ti c)]++news)→(∀ q∈[(FF,Q40 FD),(FD,fmtD w t mx LL AA),(LL,listOf #[] 0),(AA,Qg #[] 0 DD),(DD,Q1d w u ti c)],∀ p∈news,@Ne Nat p.1 q.1)→1≤tk→AllBare g'→Q (.ref FF) ⟨h',g',s.drawn,tk,s.os⟩):
  wpAny (model PySem.Challenge.rw_xo0041_01.prog w) (ktrTop dp un gd cn cs L a ccd cl outer) (call (.ref 116) [.int 0 ti,.int mx tm,.str (Str.ofString " ") tc,.str (Str.ofString " ") ts]) Q E s:=by
 revert X
 k_fill
 intro X
 refine' call_cls F X N ?hm ?hi ?hf ?_
 case hm=>k_is
 case hi=>k_is
 case hf=>k_is
 intro x dx h1 F1 N1 l1 l2
 rw [eq_325 _ rfl]
 have w1:=eq_355 116 [.int 0 ti,.int mx tm,.str (Str.ofString " ") tc,.str (Str.ofString " ") ts]
 have w2:=eq_208 116 [.int 0 ti,.int mx tm,.str (Str.ofString " ") tc,.str (Str.ofString " ") ts]
 refine codeAny_mono (eq_1084 w x dx mx ti tm tc ts p loose mean mg mb _ _ _ cn cs a ccd cl outer A₀ base h₀ L m ⟨h1,s.gens,s.drawn,s.toks,s.os⟩ (fun v s'=>v= .none∧Q (.ref x) s') E B F1 X (News.sub N1 fun q hq=>?_) T hk (by keq_rows) (by keq_rows) ht hg ?_) (fun r s' hr=>?_)
 ·k_extra "v2"
  ·exact .head _
  ·k_extra "v2"
   ·exact .tail _ (.head _)
   ·cases hq
 ·(intro v h' tk' own' g' F2 N2 kp kn zq3;obtain ⟨rfl,LL,AA,DD,t,u,c,rfl⟩:=zq3;intro ht' hg')
  have lt1:∀ q∈news,@LT.lt Nat _ q.1 dx:=fun q hq=>l1 q hq
  have l2':@LT.lt Nat _ dx x:=l2
  have out:∀ q∈news,q.1∉[(x,Q40 dx),(dx,dictOf [] 0)].map (·.1):=fun q hq hm=>by
   have z:=lt1 q hq
   k_extra "vf"
   rcases hm with e|e
   ·have e2:@Eq Nat q.1 x:=e
    keq_rows
   ·have e2:@Eq Nat q.1 dx:=e
    keq_rows
  refine ⟨rfl,k x dx LL AA DD t h' tk' u c g' F2 (fun q hq=>?_) (fun q hq r hr e=>?_) ht' hg'⟩
  ·k_extra "vu"
   ·exact N2 q hq
   ·have z:=N1 q (.tail _ (.tail _ hq))
    exact ⟨kp _ _ z.1 (out q hq),z.2⟩
  ·by_cases hm:q.1∈[(x,Q40 dx),(dx,dictOf [] 0)].map (·.1)
   ·exact out r hr (by rw [show r.1=q.1 from e];exact hm)
   ·have z1:=kn q hq hm
    have z2:=(N1 r (.tail _ (.tail _ hr))).1
    rw [show r.1=q.1 from e] at z2
    rw [z1] at z2
    cases z2
 ·rcases r with e|(v|_|_|_)<;>first|exact hr|exact hr.elim


end
section
theorem eq_1276:True:=by
 k_with "g16"=>have offG:True:=trivial
 k_with "g17"=>have offG:True:=trivial
 k_with "g52"=>have offG:True:=trivial
 k_with "g62"=>have offG:True:=trivial
 k_with "g63"=>skip
 k_with "dl_mem"=>((fail_if_success (k_extra "g63";clear offG));first|(with_reducible first|(apply eq_183<;>assumption)|(apply eq_1237<;>assumption)|apply eq_150|(apply eq_697<;>assumption)|(apply eq_137<;>assumption)|(apply eq_759<;>assumption)|apply eq_37|(apply eq_834<;>assumption)|(apply eq_220<;>assumption)|(apply eq_854<;>assumption)|fail)|(apply eq_220<;>assumption)|(with_reducible apply eq_183;rotate_left;all_goals assumption)|(apply eq_183<;>assumption)|fail)
 trivial
noncomputable def Q2c:List Int→Int→List Int→List Int
 |pool,left,k::ks=>pool.getD (left.fmod k).toNat 0::Q2c (pool.eraseIdx (left.fmod k).toNat) (left.fdiv k) ks
 |_,_,[]=>[]
noncomputable def Q7 (c:Int):List Int:=Q2c [c.fmod 5,(c.fdiv 5).fmod 5,5,6,6] (c.fdiv 25) [5,4,3,2,1]
section
variable {prog:Program} {w:World} {A:Around} {s:Shared} {h₀:Heap} {env:Env} {m₀:Str→Option Value} {news:List (Addr×Obj)} {target:PySem.Expr} {body orelse:List Stmt} {Q:Flow→Shared→Prop} {E:Value→Shared→Prop}
theorem eq_882 {l:Addr} {vs:List Value} (hh:A.handled=none) (F:Fr h₀ env.locals s.heap m₀) (N:News h₀ env.locals s.heap news) (ht:1≤s.toks) (hg:AllBare s.gens) (J:Nat→(Str→Option Value)→List (Addr×Obj)→Prop) (hj:J 0 m₀ news)
  (hls:s.heap.IsTuple l vs.toArray) (hlL:l≠env.locals) (hk:∀ i h m₁ news₁,J i m₁ news₁→Fr h₀ env.locals h m₁→News h₀ env.locals h news₁→h.IsTuple l vs.toArray)
  (turn:∀ i v m₁ news₁ h tk g I io,vs[i]?=some v→J i m₁ news₁→Fr h₀ env.locals h m₁→News h₀ env.locals h ((I,io)::news₁)→(∀ p∈news₁,p.1≠I)→(∀ p∈news,p.1<I)→1≤tk→AllBare g→
   wpAny (model prog w) A (letOwnedTupleGo target (.ref I) v) (fun _ s₁=>wpAny (model prog w) A (assign target env v) (fun _ s₂=>wpAny (model prog w) A (execs body env) (Qi h₀ env.locals I io s (J (i+1)) Q) E s₂) E s₁) E ⟨h,g,s.drawn,tk,s.os⟩)
  (done:∀ m₁ news₁ h tk g,J vs.length m₁ news₁→Fr h₀ env.locals h m₁→News h₀ env.locals h news₁→1≤tk→AllBare g→wpAny (model prog w) A (execs orelse env) Q E ⟨h,g,s.drawn,tk,s.os⟩):
  wpAny (model prog w) A (pyIter (.ref l)) (fun it s₂=>Q1t prog w A env target body orelse Q E it s₂) E s:=by
 refine wpAny_pyIter_tuple hls ?_
 have hnew:h₀.get? s.heap.objs.size=none:=by
  cases hq:h₀.get? s.heap.objs.size with
  |none=>rfl
  |some o'=>exact absurd (Heap.lt_size (F.keep _ _ hq)) (Nat.lt_irrefl _)
 have hL:s.heap.objs.size≠env.locals:=fun e=>absurd F.ns.lt (by rw [e];exact Nat.lt_irrefl _)
 obtain ⟨ol,hol,hcl,nl,hdl⟩:=id hls
 have W:=Walks.tuple (prog:=prog) (w:=w) hh s.heap.objs.size l (Nat.ne_of_lt (Heap.lt_size hol)) vs.toArray
 k_extra "v1y"
 refine eq_97 (h₀:=h₀) (m₀:=m₀) (news:=news) W (fun h=>?_) (fun b hb=>by rw [List.mem_singleton.mp hb];exact hnew) J ⟨⟨_,Heap.get?_push_size _ rfl,rfl,rfl⟩,hls.push _⟩ (F.push _) (fun p hp=>⟨Heap.get?_push_of_some _ (N p hp).1,(N p hp).2⟩)
   (fun p hp h=>absurd (Heap.lt_size (N p hp).1) ((List.mem_singleton.mp h)▸Nat.lt_irrefl _)) hj ht hg (fun i v m₁ news₁ h tk g hi hP hJ hst F₁ N₁ hnw htk hg'=>?_) fun m₁ news₁ h tk g hJ F₁ N₁ htk hg'=>done m₁ news₁ h tk g hJ F₁ N₁ htk hg'
 ·rcases List.mem_cons.mp h with e|h
  ·exact hL e.symm
  ·exact hlL (List.mem_singleton.mp h).symm
 ·(refine eq_7 (hst) fun zq1 _=>?_;(try clear hst);(refine eq_18 (zq1) fun io hio hcls hdat=>?_;(try clear zq1)))
  have N₂:=eq_95 F₁ N₁ hio hL hnew
  refine wpAny_mono (turn i v m₁ news₁ h tk g _ io (by simpa using hP) hJ F₁ N₂ (fun p hp e=>hnw p hp (List.mem_singleton.mpr e)) (fun p hp=>Heap.lt_size (N p hp).1) htk hg') (fun _ s₁ a₁=>wpAny_mono a₁ (fun _ s₂ a₂=>wpAny_mono a₂ (fun f s₃ a₃=>?_) fun _ _ e=>e) fun _ _ e=>e) fun _ _ e=>e
  k_extra "vk"
end
noncomputable def hInv (T T2 a b:Addr) (oT o2:Obj) (n:Nat) (i:Nat) (m:Str→Option Value) (news:List (Addr×Obj)):Prop:=∃ k1 k2 hs ps hl pl x u,news=[(T,oT),(T2,o2),(a,listOf hs k1),(b,listOf ps k2)]∧IntsAre hs.toList hl∧IntsAre ps.toList pl∧pl.length+i=5∧hs.size=i∧m (Str.ofString "hands")=some (.ref a)∧m (Str.ofString "pool")=some (.ref b)∧m (Str.ofString "left")=some (.int x u)∧hl++Q2c pl x ([5,4,3,2,1].drop i)=Q7 n
theorem eq_845 {hs:Array Value} {hl:List Int} {x:Int} {t:Tok} (h:IntsAre hs.toList hl):IntsAre (hs.push (.int x t)).toList (hl++[x]):=by rw [Array.toList_push];exact h.append (.cons _ _ .nil)
theorem eq_620 {hl pl:List Int} {x:Int} {i k n:Nat} (hk:k+1+i=5) (h:hl++Q2c pl x ([5,4,3,2,1].drop i)=Q7 n):
  (hl++[pl.getD (x.fmod ((k+1:Nat):Int)).toNat 0])++Q2c (pl.eraseIdx (x.fmod ((k+1:Nat):Int)).toNat) (x.fdiv ((k+1:Nat):Int)) ([5,4,3,2,1].drop (i+1))=Q7 n:=by
 rw [←h,List.append_assoc]
 obtain rfl:k=4-i:=by keq_rows
 have hi:i≤4:=by keq_rows
 match i,hi with
 |0,_|1,_|2,_|3,_|4,_=>rfl
theorem eq_485 {l:List Int} {i k:Nat} (hk:k+1+i=5) (h:l.length=k):l.length+(i+1)=5:=by keq_rows
theorem eq_1139 {T T2 a b I:Addr} {oT o2 oa ob oa' ob':Obj} (h:∀ p∈[(T,oT),(T2,o2),(a,oa),(b,ob)],p.1≠I):∀ p∈[(T,oT),(T2,o2),(a,oa'),(b,ob')],p.1≠I:=by
 simpa using h
theorem eq_537 {i:Nat} {z:Int} (h:[(5:Int),4,3,2,1][i]?=some z):∃ k:Nat,k+1+i=5∧z=((k+1:Nat):Int):=by
 match i with
 |0=>cases h;exact ⟨4,rfl,rfl⟩
 |1=>cases h;exact ⟨3,rfl,rfl⟩
 |2=>cases h;exact ⟨2,rfl,rfl⟩
 |3=>cases h;exact ⟨1,rfl,rfl⟩
 |4=>cases h;exact ⟨0,rfl,rfl⟩
 |n+5=>cases h
set_option maxHeartbeats 0
theorem eq_1258:True:=by
 k_with "exec For Name Tuple cons nil"=>((fail_if_success (k_extra "g63";clear offG));k_here;refine halt ?_)
 k_with "pyIter ref"=>((fail_if_success (k_extra "g63";clear offG));k_here;refine halt ?_)
 k_with "call builtin:list.pop"=>((fail_if_success (k_extra "g63";clear offG));k_here;k_dflt (refine' eq_441 (by k_asm) (by k_asm) (by with_reducible assumption) (by with_reducible assumption) (by first|exact eq_622 rfl|fail) (by first|keq_rows|fail) (by first|k_updF|fail) ?_;intro h9ω t9ω v9ω I9ω l9ω F9ω N9ω;(try dsimp only at N9ω)))
 trivial
theorem eq_2 (w:World) (n:Nat) (t:Tok) (hn:n≤10000000):Ct w 1 355 [.int n t] [] (fun v own=>∃ a k vs,v= .ref a∧own=[(a,listOf vs.toArray k)]∧IntsAre vs (Q7 n)):=by
 k_extra "w0"
 replace F1:Fr g L1 h1 (fun y=>List.lookup y [(Str.ofString "code",.int n t)]):=F1
 k_steps
 unfold Q18
 refine eq_31 ?_
 k_steps
 unfold Q18
 rename Fr _ _ _ _=>F2
 rename News _ _ _ _=>N2
 rename _∧_=>l2
 obtain ⟨l2a,l2b,l2c⟩:=l2
 obtain ⟨oT,o2,ps0,vs,N2,hcT,hdT,hps,hvs⟩:∃ oT o2 ps vs,News _ _ _ [(_,oT),(_,o2),(_,listOf #[] 0),(_,listOf ps 0)]∧oT.cls= .type "tuple"∧(∃ n,oT.data= .seq (List.toArray vs) n)∧IntsAre ps.toList [(n:Int).fmod 5,((n:Int).fdiv 5).fmod 5,5,6,6]∧IntsAre vs [5,4,3,2,1]:=
  ⟨_,_,_,_,N2,rfl,⟨_,rfl⟩,.cons _ _ (.cons _ _ (.cons _ _ (.cons _ _ (.cons _ _ .nil)))),.cons _ _ (.cons _ _ (.cons _ _ (.cons _ _ (.cons _ _ .nil))))⟩
 refine eq_882 rfl F2 N2 (by k_extra "t") (by assumption) (hInv _ _ _ _ oT o2 n) ⟨0,0,_,_,[],_,_,_,rfl,.nil,hps,rfl,rfl,by k_extra "m",by k_extra "m",by k_extra "m",rfl⟩ ⟨_,(N2 _ (.head _)).1,hcT,hdT⟩ (N2 _ (.head _)).2.1 ?_ ?_ ?_
 ·(intro i h m₁ news₁ zq2;obtain ⟨_,_,_,_,_,_,_,_,rfl,_⟩:=zq2;intro F₁ N₁)
  exact ⟨_,(N₁ _ (.head _)).1,hcT,hdT⟩
 ·(intro i v m₁ news₁ h tk g₁ I io hv zq4;obtain ⟨k1,k2,hs,ps,hl,pl,x,u,rfl,a1,a2,a3,a4,q1,q2,q3,a5⟩:=zq4;intro F₁ N₁ hI hII htk hg₁)
  obtain ⟨z,t',rfl,hz⟩:=hvs.at _ _ hv
  obtain ⟨k,hk,rfl⟩:∃ k:Nat,k+1+i=5∧z=((k+1:Nat):Int):=eq_537 hz
  have a3:pl.length=k+1:=by keq_rows
  have z0:((k+1:Nat):Int)≠0:=Int.natCast_ne_zero.mpr (Nat.succ_ne_zero k)
  k_lt hII
  k_extra "vl"
  k_steps
  exact ⟨_,_,_,_,_,rfl,by k_asm,by k_asm,eq_1139 hI,by k_extra "t",by assumption,_,_,_,_,_,_,_,_,rfl,eq_845 a1,by assumption,eq_485 hk (by assumption),by rw [Array.size_push,a4],by k_extra "m",by k_extra "m",by k_extra "m",eq_620 hk a5⟩
 (intro m₁ news₁ h tk g₁ zq7;obtain ⟨k1,k2,hs,ps,hl,pl,x,u,rfl,a1,a2,a3,a4,q1,q2,q3,a5⟩:=zq7;intro F₁ N₁ htk hg₁)
 rw [show vs.length=5 from hvs.length] at a5
 obtain rfl:hl=Q7 n:=by rw [←a5];exact (List.append_nil hl).symm
 k_steps
 all_goals (refine' hret _ _ _ [(_,_)] _ ?F ?N ?k ?fr ?po ?t ?g;(case F=>with_reducible assumption);(case' po=>refine' ⟨_,_,hs.toList,rfl,by rw [Array.toArray_toList],a1⟩);(case N=>exact eq_51 (by with_reducible assumption) (by k_mem));(case k=>exact (fun b o e q=>(by assumption:g.StaysIn _) b o (kp b o e q)));(case fr=>exact eq_20 kp (eq_51 (by with_reducible assumption) (by k_mem)));(case t=>first|assumption|keq_rows);(case g=>assumption))


end
section
theorem eq_1243:True:=by
 k_with "g63"=>have offG:True:=trivial
 k_with "g64"=>skip
 k_with "dl_mem"=>((fail_if_success (k_extra "g64";clear offG));first|(with_reducible first|(apply eq_272<;>assumption)|(apply eq_662<;>assumption)|apply eq_150|(apply eq_655<;>assumption)|(apply eq_828<;>assumption)|(apply eq_786<;>assumption)|(apply eq_530<;>assumption)|fail)|fail)
 k_with "g19"=>skip
 trivial
noncomputable def Q3t:List (List Nat):=[[32],[32],[32,9],[9,32],[9]]
noncomputable def Qu:List Nat:=[38,60,62,34,9,10,13,32,75,0xad,0x200b,0xfb03,0x37a,0x33c7,0x1d504,0x2121,0x200f,0xfdd0]
noncomputable def Q1x (n:Int):List Nat:=Q3t.getD (n.fmod 5).toNat []++[Qu.getD ((n.fdiv 5).fmod 18).toNat 0]++[Qu.getD ((n.fdiv 90).fmod 18).toNat 0]
noncomputable def Q1h (ns:List Int):List Nat:=0xfb03::ns.flatMap Q1x++[75]
theorem eq_836:[Str.ofString " ",Str.ofString " ",Str.ofString " \t",Str.ofString "\t ",Str.ofString "\t"]=Q3t.map S:=by decide +kernel
theorem eq_1032:Str.ofString "&<>\"\t\n\x0d K­​ﬃͺ㏇𝔄℡‏﷐"=S Qu:=by decide +kernel
theorem eq_536:Str.ofString "ﬃ"=S [0xfb03]:=by decide +kernel
theorem eq_1172:(Str.ofString "K").cps.toList=[75]:=by decide +kernel
theorem eq_983:(Str.ofString "K").length=1:=by decide +kernel
theorem eq_310 (i:Nat):(Q3t.getD i []).length≤2:=by
 match i with
 |0|1|2|3|4=>decide
 |i+5=>exact Nat.zero_le _
theorem eq_926 (n:Int):(Q1x n).length≤4:=by
 unfold Q1x
 have:=eq_310 (n.fmod 5).toNat
 simp only [List.length_append,List.length_singleton];keq_rows
theorem eq_69:∀ ns:List Int,(ns.flatMap Q1x).length≤4*ns.length
 |[]=>by simp
 |n::r=>by
  have:=eq_69 r
  have:=eq_926 n
  k_extra "v1a"
  keq_rows
theorem eq_550 {ns:List Int} {i:Nat} {n:Int} (h:ns[i]?=some n):(ns.take (i+1)).flatMap Q1x=(ns.take i).flatMap Q1x++Q1x n:=by
 k_extra "v1u"
theorem eq_1269:True:=by
 k_with "subscriptTail"=>((fail_if_success (k_extra "g64";clear offG));k_here;(with_reducible show wpAny _ _ (subscriptTail _ _ (Value.ref _) (Value.int _ _)) _ _ _);k_dflt (refine' eq_421 (xs:=Q3t) (by k_asm) (by first|k_mem|fail) (by first|exact .cons _ _ (.cons _ _ (.cons _ _ (.cons _ _ (.cons _ _ .nil))))|fail) (by first|exact eq_836|fail) (by first|exact eq_372 rfl (by decide)|fail) (by decide) ?_ (by first|with_unfolding_all rfl|fail);intro t9ω))
 k_with "subscriptTail Name BinOp str int"=>((fail_if_success (k_extra "g64";clear offG));k_here;(with_reducible show wpAny _ _ (subscriptTail _ _ (Value.str _ _) (Value.int _ _)) _ _ _);k_dflt (refine' eq_229 (l:=Qu) (by first|exact eq_1032|fail) (by first|exact eq_372 rfl (by decide)|fail) (by decide) (by first|k_extra "t"|fail) ?_ (by first|with_unfolding_all rfl|fail);intro t8ω k8ω hk8ω))
 k_with "g16"=>skip
 trivial
noncomputable abbrev txtN:Str:=Str.ofString "text"
noncomputable abbrev nN:Str:=Str.ofString "n"
noncomputable abbrev gapsN:Str:=Str.ofString "gaps"
noncomputable abbrev signsN:Str:=Str.ofString "signs"
set_option maxHeartbeats 0
theorem eq_1219 (w:World) (l:Addr) (ns:List Int) (vs:List Value) (k:Nat) (hi:IntsAre vs ns) (hl:ns.length≤1000):Ct w 1 348 [.ref l] [(l,listOf vs.toArray k)] (fun v own=>own=[(l,listOf vs.toArray k)]∧∃ u,v= .str (S (Q1h ns)) u):=by
 k_extra "w0"
 replace F1:Fr g L1 h1 (fun y=>List.lookup y [(Str.ofString "numbers",.ref l)]):=F1
 k_steps
 unfold Q18
 refine eq_31 ?_
 walk1
 rename Fr _ _ _ _=>F2
 rename News _ _ _ _=>N2
 k_extra "vy"
 k_extra "v1p"
 refine eq_103 rfl F2 N2 (by assumption) (by assumption) (fun i m news=>(∃ u,m txtN=some (.str (S (0xfb03::(ns.take i).flatMap Q1x)) u))∧(∀ y,y≠txtN→y≠nN→m y=m2 y)∧news=nw) ?_ (News.isList N2 (by subst hnw;k_mem)) ?_ ?_ ?_ ?_
 ·exact ⟨⟨_,by rw [hm2];exact (if_pos rfl).trans (by rw [eq_536];rfl)⟩,fun _ _ _=>rfl,rfl⟩
 ·subst hnw;exact (N2 _ (.tail _ (.head _))).2.1
 ·(intro i h m₁ news₁ zq1;(refine eq_27 (zq1) fun _ _ zq2=>?_;(try clear zq1);subst zq2);intro F₁ N₁)
  exact News.isList N₁ (by subst hnw;k_mem)
 ·(intro i v m₁ news₁ h tk g₁ I io hv zq3;(refine eq_27 (zq3) fun zq4 h2 zq5=>?_;(try clear zq3);(refine eq_5 (zq4) fun u₁ h1=>?_;(try clear zq4));subst zq5);intro F₁ N₁ hI hn₁ hII htk hg₁)
  (refine eq_14 (hi.at _ _ hv) fun n t zq6 hn=>?_;subst zq6)
  k_extra "vl"
  subst hnw
  have g1:m₁ gapsN=some _:=(h2 _ (by decide +kernel) (by decide +kernel)).trans (by rw [hm2];k_extra "m")
  have g2:m₁ signsN=some _:=(h2 _ (by decide +kernel) (by decide +kernel)).trans (by rw [hm2];k_extra "m")
  have b1:=eq_69 (ns.take i)
  rw [List.length_take] at b1
  have b2:=eq_310 (n.fmod 5).toNat
  k_steps
  refine ⟨_,_,_,_,_,rfl,by assumption,by assumption,by assumption,by with_reducible assumption,by with_reducible assumption,⟨_,by rw [eq_550 hn];exact if_pos rfl⟩,fun y y1 y2=>?_,rfl⟩
  ·rw [if_neg y1,if_neg y2];exact h2 y y1 y2
 ·(intro m₁ news₁ h tk g₁ zq7;(refine eq_27 (zq7) fun zq8 h2 zq9=>?_;(try clear zq7);(refine eq_5 (zq8) fun u₁ h1=>?_;(try clear zq8));subst zq9);intro F₁ N₁ htk hg₁)
  rw [show vs.length=ns.length from hi.length,List.take_length] at h1
  subst hnw
  have b1:=eq_69 ns
  have b3:=eq_983
  k_steps
  all_goals (refine' hret _ _ _ [(_,_)] _ ?F ?N ?k ?fr ?po ?t ?g;(case F=>with_reducible assumption);(case' po=>refine' ⟨rfl,_,by rw [eq_1172];rfl⟩);(case N=>exact eq_51 (by with_reducible assumption) (by k_mem));(case k=>exact (fun b o e q=>(by assumption:g.StaysIn _) b o (kp b o e q)));(case fr=>exact eq_20 kp (eq_51 (by with_reducible assumption) (by k_mem)));(case t=>first|assumption|keq_rows);(case g=>assumption))


end
section
open PySem.Sre
theorem eq_1338:True:=by
 k_with "g13"=>have offG:True:=trivial
 k_with "g14"=>have offG:True:=trivial
 k_with "g16"=>have offG:True:=trivial
 k_with "g18"=>have offG:True:=trivial
 k_with "g19"=>have offG:True:=trivial
 k_with "g64"=>have offG:True:=trivial
 k_with "g65"=>skip
 k_with "dl_mem"=>((fail_if_success (k_extra "g65";clear offG));first|(with_reducible first|(apply eq_712<;>assumption)|(apply eq_922<;>assumption)|(apply eq_1194<;>assumption)|(apply eq_549<;>assumption)|(apply eq_1076<;>assumption)|(apply eq_745<;>assumption)|apply eq_1070|(apply eq_628<;>assumption)|(apply eq_798<;>assumption)|(apply eq_773<;>assumption)|apply eq_820|(apply eq_1184<;>assumption)|(apply eq_297<;>assumption)|apply eq_147|(apply eq_117<;>assumption)|apply eq_877|(apply eq_1033<;>assumption)|(apply eq_903<;>assumption)|(apply eq_691<;>assumption)|(apply eq_298<;>assumption)|(apply eq_1010<;>assumption)|(apply eq_500<;>assumption)|fail)|fail)
 trivial
noncomputable abbrev Qq:Array Nat:= #[14,4,0,1,4294967295,17,0,24,11,1,4294967295,13,6,16,32,16,9,0,1,17,1,1]
noncomputable def Q5 (c:Nat):Bool:=c==32||c==9
theorem eq_459 (c:Nat) (seen:Sre.Seen):∃ seen',accepts Qq 11 c seen= .ok (Q5 c,seen'):=by
 have h0:accepts Qq 11 c seen=inSet Qq c 22 13 true seen:=rfl
 have h1:inSet Qq c 22 13 true seen=if c==32 then .ok (true,seen.add 16) else inSet Qq c 21 15 true (seen.add 16):=rfl
 have h2:inSet Qq c 21 15 true (seen.add 16)=if c==9 then .ok (true,(seen.add 16).add 16) else inSet Qq c 20 17 true ((seen.add 16).add 16):=rfl
 have h3:inSet Qq c 20 17 true ((seen.add 16).add 16)= .ok (false,((seen.add 16).add 16).add 0):=rfl
 rw [h0,h1,h2,h3]
 unfold Q5
 by_cases a:c=32
 ·subst a;exact ⟨_,rfl⟩
 ·by_cases b:c=9
  ·subst b;exact ⟨_,rfl⟩
  ·have a':(c==32)=false:=by simp [a]
   have b':(c==9)=false:=by simp [b]
   rw [a',b']
   exact ⟨_,rfl⟩
noncomputable def Qk (text:Array Nat):Nat→Nat→Nat
 |0,_=>0
 |n+1,p=>if Q5 (text.getD p 0) then Qk text n (p+1)+1 else 0
theorem eq_181 (text:Array Nat):∀ (n p found:Nat) (seen:Sre.Seen),∃ seen',Sre.run Qq text 11 n p found seen= .ok (found+Qk text n p,seen')
 |0,p,found,seen=>⟨seen,rfl⟩
 |n+1,p,found,seen=>by
  (refine eq_5 (eq_459 (text.getD p 0) seen) fun s1 h1=>?_)
  have e:Sre.run Qq text 11 (n+1) p found seen=(do
    let (yes,seen) ←accepts Qq 11 (text.getD p 0) seen
    if yes then Sre.run Qq text 11 n (p+1) (found+1) seen else pure (found,seen)):=rfl
  rw [e,h1]
  cases hb:Q5 (text.getD p 0) with
  |true=>
   (refine eq_5 (eq_181 text n (p+1) (found+1) s1) fun s2 h2=>?_)
   refine ⟨s2,?_⟩
   show Sre.run Qq text 11 n (p+1) (found+1) s1=_
   rw [h2,Qk,if_pos hb]
   congr 2;keq_rows
  |false=>
   refine ⟨s1,?_⟩
   show Except.ok (found,s1)=_
   rw [Qk,if_neg (by rw [hb];decide)]
   rfl
noncomputable def st (text:Array Nat) (lim start:Nat) (pc pos handed:Nat) (om:Bool) (marks:Array (Option Nat)) (lm li:Int) (frames:List Sre.Frame) (weight:Nat) (answer:Option Bool) (seen:Sre.Seen) (out:Option Sre.Outcome):M:=
 { code:=Qq,text,lim,start,lastStart:=lim,wholeText:=false,mustAdvance:=false,pc,pos,handed,outermost:=om,marks,lastmark:=lm,lastindex:=li,loops:= #[],inner:=none,frames,weight,answer,seen,outcome:=out }
noncomputable def fr0 (s:Nat) (f:Bool):Sre.Frame:={ wait:=.nextStart,pc:=5,pos:=s,outermost:=f }
noncomputable def fr1 (s n:Nat) (f:Bool) (lm li:Int):Sre.Frame:={ wait:=.giveBack,pc:=7,pos:=s,outermost:=f,count:=n,kept:={ lastmark:=lm,lastindex:=li,whole:=false,marks:= #[] } }
section
variable (text:Array Nat) (lim s:Nat) (f:Bool) (a b:Option Nat) (seen:Sre.Seen)
theorem eq_498 (hd:Nat):∃ seen',(st text lim s 5 s hd f #[a,b] (-1) (-1) [fr0 s f] 1 none seen none).step=st text lim s 7 s hd f #[some s,b] 0 (-1) [fr0 s f] 1 none seen' none:=⟨_,rfl⟩
theorem eq_333 (hd:Nat):(st text lim s 7 s hd f #[some s,b] 0 (-1) [fr0 s f] 1 none seen none).step =
  if ((1:Nat):Int)>(lim:Int)-(s:Nat) then st text lim s 7 s hd f #[some s,b] 0 (-1) [fr0 s f] 1 (some false) (seen.add 24) none
  else match Sre.run Qq text 11 (min 4294967295 ((lim:Int)-(s:Nat)).toNat) s 0 ((seen.add 24).add 13) with
   |.error why=>st text lim s 7 s hd f #[some s,b] 0 (-1) [fr0 s f] 1 none (seen.add 24) (some (.stuck why))
   |.ok (n,seen')=>if n<1 then st text lim s 7 s hd f #[some s,b] 0 (-1) [fr0 s f] 1 (some false) seen' none
    else st text lim s 19 (s+n) (s+n) f #[some s,b] 0 (-1) [fr1 (s+n) n f 0 (-1),fr0 s f] 2 none seen' none:=rfl
theorem eq_904 (hd:Nat) (h:s≤lim) (hlim:lim<4294967295) (hn:lim≤s∨Q5 (text.getD s 0)=false):∃ seen',(st text lim s 7 s hd f #[some s,b] 0 (-1) [fr0 s f] 1 none seen none).step=st text lim s 7 s hd f #[some s,b] 0 (-1) [fr0 s f] 1 (some false) seen' none:=by
 rw [eq_333]
 by_cases hs:lim≤s
 ·rw [if_pos (by keq_rows)]
  exact ⟨_,rfl⟩
 ·have hw:Q5 (text.getD s 0)=false:=hn.resolve_left hs
  rw [if_neg (by keq_rows)]
  (refine eq_5 (eq_181 text (min 4294967295 ((lim:Int)-(s:Nat)).toNat) s 0 ((seen.add 24).add 13)) fun s1 h1=>?_)
  rw [h1]
  obtain ⟨k,hk⟩:∃ k,min 4294967295 ((lim:Int)-(s:Nat)).toNat=k+1:=⟨lim-s-1,by keq_rows⟩
  rw [hk,Qk,if_neg (by rw [hw];decide)]
  exact ⟨_,rfl⟩
theorem eq_837 (hd:Nat) (h:s<lim) (hlim:lim<4294967295) (hw:Q5 (text.getD s 0)=true):∃ seen',(st text lim s 7 s hd f #[some s,b] 0 (-1) [fr0 s f] 1 none seen none).step=st text lim s 19 (s+Qk text (lim-s) s) (s+Qk text (lim-s) s) f #[some s,b] 0 (-1) [fr1 (s+Qk text (lim-s) s) (Qk text (lim-s) s) f 0 (-1),fr0 s f] 2 none seen' none:=by
 rw [eq_333,if_neg (by keq_rows)]
 have hm:min 4294967295 ((lim:Int)-(s:Nat)).toNat=lim-s:=by keq_rows
 (refine eq_5 (eq_181 text (lim-s) s 0 ((seen.add 24).add 13)) fun s1 h1=>?_)
 rw [hm,h1,Nat.zero_add]
 have hp:0<Qk text (lim-s) s:=by
  obtain ⟨k,hk⟩:∃ k,lim-s=k+1:=⟨lim-s-1,by keq_rows⟩
  rw [hk,Qk,if_pos hw]
  keq_rows
 refine ⟨s1,?_⟩
 dsimp only
 rw [if_neg (by keq_rows)]
theorem eq_711 (p n:Nat):∃ seen',(st text lim s 19 p p f #[some s,b] 0 (-1) [fr1 p n f 0 (-1),fr0 s f] 2 none seen none).step=st text lim s 21 p p f #[some s,some p] 1 1 [fr1 p n f 0 (-1),fr0 s f] 2 none seen' none:=by
 refine ⟨seen.add 17,?_⟩
 have e:(st text lim s 19 p p f #[some s,b] 0 (-1) [fr1 p n f 0 (-1),fr0 s f] 2 none seen none).step=(st text lim s 19 p p f #[some s,b] 0 (-1) [fr1 p n f 0 (-1),fr0 s f] 2 none (seen.add 17) none).mark 1:=rfl
 rw [e]
 unfold M.mark st
 dsimp only
 rw [if_pos (by decide:((1:Nat):Int)≤0+1)]
 rfl
theorem eq_797 (p n:Nat):∃ seen',(st text lim s 21 p p f #[some s,some p] 1 1 [fr1 p n f 0 (-1),fr0 s f] 2 none seen none).step=st text lim s 21 p p f #[some s,some p] 1 1 [fr1 p n f 0 (-1),fr0 s f] 2 (some true) seen' none:=by
 cases f<;>exact ⟨_,rfl⟩
theorem eq_1173 (p n:Nat):(st text lim s 21 p p f #[some s,some p] 1 1 [fr1 p n f 0 (-1),fr0 s f] 2 (some true) seen none).step=st text lim s 7 p p f #[some s,some p] 1 1 [fr0 s f] 1 (some true) seen none:=rfl
theorem eq_1224 (p:Nat):(st text lim s 7 p p f #[some s,some p] 1 1 [fr0 s f] 1 (some true) seen none).step=st text lim s 5 s p f #[some s,some p] 1 1 [] 0 (some true) seen none:=rfl
theorem eq_1060 (p:Nat):(st text lim s 5 s p f #[some s,some p] 1 1 [] 0 (some true) seen none).step=st text lim s 5 s p f #[some s,some p] 1 1 [] 0 (some true) seen (some .matched):=rfl
theorem eq_291 (hd:Nat):(st text lim s 7 s hd f #[some s,b] 0 (-1) [fr0 s f] 1 (some false) seen none).step =
  if s<lim then st text lim (s+1) 5 (s+1) (s+1) false #[some s,b] (-1) (-1) [fr0 (s+1) false] 1 none seen none
  else st text lim s 5 s hd f #[some s,b] 0 (-1) [] 0 (some false) seen none:=rfl
theorem eq_1119 (hd:Nat) (h:s<lim):(st text lim s 7 s hd f #[some s,b] 0 (-1) [fr0 s f] 1 (some false) seen none).step=st text lim (s+1) 5 (s+1) (s+1) false #[some s,b] (-1) (-1) [fr0 (s+1) false] 1 none seen none:=by
 rw [eq_291,if_pos h]
theorem eq_1148 (hd:Nat):(st text lim lim 7 lim hd f #[some lim,b] 0 (-1) [fr0 lim f] 1 (some false) seen none).step=st text lim lim 5 lim hd f #[some lim,b] 0 (-1) [] 0 (some false) seen none:=by
 rw [eq_291,if_neg (Nat.lt_irrefl _)]
theorem eq_892 (hd:Nat):(st text lim lim 5 lim hd f #[some lim,b] 0 (-1) [] 0 (some false) seen none).step=st text lim lim 5 lim hd f #[some lim,b] 0 (-1) [] 0 (some false) seen (some .failed):=rfl
noncomputable def Q1a (text:Array Nat) (lim:Nat):Nat→Nat→Option Nat
 |0,_=>none
 |n+1,s=>if s<lim∧Q5 (text.getD s 0)=true then some s else Q1a text lim n (s+1)
end
noncomputable def Q11 (k:Nat) (m:M):M:=match k with
 |0=>m
 |k+1=>Q11 k m.step
theorem eq_112:∀ (a b:Nat) (m:M),Q11 (a+b) m=Q11 b (Q11 a m)
 |0,b,m=>by rw [Nat.zero_add];rfl
 |a+1,b,m=>by rw [Nat.succ_add];exact eq_112 a b m.step
theorem eq_266 {m:M} (h:m.outcome.isSome=true):m.step=m:=if_pos h
theorem eq_94 {m:M} (h:m.outcome.isSome=true):∀ k,Q11 k m=m
 |0=>rfl
 |k+1=>by
  show Q11 k m.step=m
  rw [eq_266 h]
  exact eq_94 h k
theorem eq_350:∀ (k:Nat) (m:M),m.runFor k=Q11 k m
 |0,m=>rfl
 |k+1,m=>by
  show (if m.outcome.isSome then m else M.runFor k m.step)=Q11 k m.step
  cases h:m.outcome.isSome with
  |true=>rw [if_pos rfl,eq_266 h,eq_94 h]
  |false=>rw [if_neg (by decide)];exact eq_350 k m.step
noncomputable def Ends (m:M) (n:Nat) (mf:M):Prop:=∃ k,k≤n∧Q11 k m=mf∧mf.outcome.isSome=true
noncomputable def Tells (text:Array Nat) (lim:Nat) (r:Option Nat) (m:M):Prop:=match r with
 |none=>m.outcome=some .failed
 |some s=>m.outcome=some .matched∧m.start=s∧m.handed=s+Qk text (lim-s) s∧m.marks= #[some s,some (s+Qk text (lim-s) s)]∧m.lastmark=1
theorem eq_330 (text:Array Nat) (lim:Nat) (hlim:lim<4294967295):∀ (n s:Nat) (f:Bool) (a b:Option Nat) (seen:Sre.Seen),s+n=lim→∃ mf,Ends (st text lim s 5 s s f #[a,b] (-1) (-1) [fr0 s f] 1 none seen none) (4*n+8) mf∧Tells text lim (Q1a text lim (n+1) s) mf
 |n,s,f,a,b,seen,hs=>by
  (refine eq_5 (eq_498 text lim s f a b seen s) fun s1 h1=>?_)
  by_cases hw:s<lim∧Q5 (text.getD s 0)=true
  ·(refine eq_5 (eq_837 text lim s f b s1 s hw.1 hlim hw.2) fun s2 h2=>?_)
   (refine eq_5 (eq_711 text lim s f b s2 (s+Qk text (lim-s) s) (Qk text (lim-s) s)) fun s3 h3=>?_)
   (refine eq_5 (eq_797 text lim s f s3 (s+Qk text (lim-s) s) (Qk text (lim-s) s)) fun s4 h4=>?_)
   have h5:=eq_1173 text lim s f s4 (s+Qk text (lim-s) s) (Qk text (lim-s) s)
   have h6:=eq_1224 text lim s f s4 (s+Qk text (lim-s) s)
   have h7:=eq_1060 text lim s f s4 (s+Qk text (lim-s) s)
   have hE:Q11 7 (st text lim s 5 s s f #[a,b] (-1) (-1) [fr0 s f] 1 none seen none)=st text lim s 5 s (s+Qk text (lim-s) s) f #[some s,some (s+Qk text (lim-s) s)] 1 1 [] 0 (some true) s4 (some .matched):=by
    show Q11 0 (M.step (M.step (M.step (M.step (M.step (M.step (M.step _)))))))=_
    rw [h1,h2,h3,h4,h5,h6,h7]
    rfl
   refine ⟨_,⟨7,by keq_rows,hE,rfl⟩,?_⟩
   rw [Q1a,if_pos hw]
   exact ⟨rfl,rfl,rfl,rfl,rfl⟩
  ·obtain ⟨s2,h2⟩:=eq_904 text lim s f b s1 s (by keq_rows) hlim (by
    by_cases h:lim≤s
    ·exact .inl h
    ·refine .inr ?_
     cases hb:Q5 (text.getD s 0) with
     |false=>rfl
     |true=>exact absurd ⟨by keq_rows,hb⟩ hw)
   rw [Q1a,if_neg hw]
   by_cases hl:s<lim
   ·obtain ⟨n',rfl⟩:∃ n',n=n'+1:=⟨n-1,by keq_rows⟩
    have h3:=eq_1119 text lim s f b s2 s hl
    obtain ⟨mf,he,ht⟩:=eq_330 text lim hlim n' (s+1) false (some s) b s2 (by keq_rows)
    refine ⟨mf,?_,ht⟩
    (refine eq_18 (he) fun k x y z=>?_;(try clear he))
    refine ⟨k+3,by keq_rows,?_,z⟩
    show Q11 k (M.step (M.step (M.step _)))=mf
    rw [h1,h2,h3]
    exact y
   ·obtain rfl:s=lim:=by keq_rows
    obtain rfl:n=0:=by keq_rows
    have h3:=eq_1148 text s f b s2 s
    have h4:=eq_892 text s f b s2 s
    have hE:Q11 4 (st text s s 5 s s f #[a,b] (-1) (-1) [fr0 s f] 1 none seen none)=st text s s 5 s s f #[some s,b] 0 (-1) [] 0 (some false) s2 (some .failed):=by
     show Q11 0 (M.step (M.step (M.step (M.step _))))=_
     rw [h1,h2,h3,h4]
     rfl
    exact ⟨_,⟨4,by keq_rows,hE,rfl⟩,rfl⟩
 termination_by n=>n
open Builtin.Re in
theorem eq_195 {Md:Model} {A:Around} {E:Value→Shared→Prop} {sh:Shared} {Q:M→Shared→Prop}:∀ (turns:Nat) {m mf:M} {n:Nat},Ends m n mf→n<turns→Q mf sh→wpAny Md A (reDrive turns m) Q E sh
 |0,m,mf,n,_,hn,_=>absurd hn (Nat.not_lt_zero _)
 |turns+1,m,mf,n,he,hn,hq=>by
  (refine eq_18 (he) fun k hk hi ho=>?_;(try clear he))
  have e:m.runFor reTurnSteps=Q11 4 m:=eq_350 4 m
  show wpAny _ _ (if (m.runFor reTurnSteps).outcome.isSome then pure (m.runFor reTurnSteps) else do rule "sre.turn";reDrive turns (m.runFor reTurnSteps)) _ _ _
  rw [e]
  by_cases h4:k≤4
  ·have:Q11 4 m=mf:=by
    rw [show 4=k+(4-k) by keq_rows,eq_112,hi,eq_94 ho]
   rw [this,if_pos ho]
   exact wpAny_pure hq
  ·have h5:Q11 (k-4) (Q11 4 m)=mf:=by rw [←eq_112,show 4+(k-4)=k by keq_rows];exact hi
   cases h:(Q11 4 m).outcome.isSome with
   |true=>
    rw [if_pos rfl]
    rw [eq_94 h] at h5
    rw [h5]
    exact wpAny_pure hq
   |false=>
    k_extra "v14"
    exact wpAny_bind (wpAny_rule (eq_195 turns ⟨k-4,Nat.le_refl _,h5,ho⟩ (by keq_rows) hq))


end
section
open PySem.Sre
theorem eq_1334:True:=by
 k_with "g65"=>have offG:True:=trivial
 k_with "g66"=>skip
 k_with "dl_mem"=>((fail_if_success (k_extra "g66";clear offG));first|(with_reducible first|(apply eq_616<;>assumption)|(apply eq_606<;>assumption)|(apply eq_639<;>assumption)|(apply eq_735<;>assumption)|apply eq_147|(apply eq_369<;>assumption)|apply eq_290|(apply eq_680<;>assumption)|apply eq_104|(apply eq_313<;>assumption)|(apply eq_117<;>assumption)|fail)|fail)
 trivial
noncomputable def Q3:Nat→List Nat→List (List Nat)
 |0,x=>[x]
 |k+1,x=>match x.dropWhile (fun c=>!Q5 c) with
  |[]=>[x]
  |c::r=>x.takeWhile (fun c=>!Q5 c)::(c::r).takeWhile Q5::Q3 k ((c::r).dropWhile Q5)
theorem eq_368 (l:List Nat) {p:Nat} (h:p<l.length):l.drop p=l.toArray.getD p 0::l.drop (p+1):=by
 rw [List.drop_eq_getElem_cons h]
 congr 1
 simp [Array.getD,h]
theorem eq_331 (l:List Nat):∀ (n p:Nat),p+n=l.length→Qk l.toArray n p=((l.drop p).takeWhile Q5).length
 |0,p,h=>by
  rw [List.drop_of_length_le (by keq_rows)]
  rfl
 |n+1,p,h=>by
  rw [eq_368 l (by keq_rows),Qk,List.takeWhile_cons]
  cases hb:Q5 (l.toArray.getD p 0) with
  |true=>rw [if_pos rfl,if_pos rfl,eq_331 l n (p+1) (by keq_rows),List.length_cons]
  |false=>rw [if_neg (by decide),if_neg (by decide)];rfl
theorem eq_418 (l:List Nat):∀ (n p:Nat),p+n=l.length→Q1a l.toArray l.length (n+1) p=if (l.drop p).dropWhile (fun c=>!Q5 c)=[] then none else some (p+((l.drop p).takeWhile (fun c=>!Q5 c)).length)
 |0,p,h=>by
  rw [List.drop_of_length_le (by keq_rows),Q1a,if_neg (by keq_rows)]
  rfl
 |n+1,p,h=>by
  rw [eq_368 l (by keq_rows),Q1a,List.takeWhile_cons,List.dropWhile_cons]
  cases hb:Q5 (l.toArray.getD p 0) with
  |true=>
   rw [if_pos ⟨by keq_rows,rfl⟩,if_neg (by simp)]
   simp
  |false=>
   rw [if_neg (by simp),eq_418 l n (p+1) (by keq_rows)]
   simp only [Bool.not_false,if_true,List.length_cons]
   split
   ·rfl
   ·congr 1;keq_rows
theorem eq_224 (l:List Nat) {p:Nat} (h:p≤l.length) {k:Nat}:
  (Q1a l.toArray l.length (l.length-p+1) p=none∧Q3 (k+1) (l.drop p)=[l.drop p])∨
  ∃ q,Q1a l.toArray l.length (l.length-p+1) p=some q∧p≤q∧q<l.length∧0<Qk l.toArray (l.length-q) q∧q+Qk l.toArray (l.length-q) q≤l.length∧
   Q3 (k+1) (l.drop p)=(l.drop p).take (q-p)::(l.drop q).take (Qk l.toArray (l.length-q) q)::Q3 k (l.drop (q+Qk l.toArray (l.length-q) q)):=by
 rw [eq_418 l (l.length-p) p (by keq_rows)]
 have hs:Q3 (k+1) (l.drop p)=match (l.drop p).dropWhile (fun c=>!Q5 c) with
  |[]=>[l.drop p]
  |c::r=>(l.drop p).takeWhile (fun c=>!Q5 c)::(c::r).takeWhile Q5::Q3 k ((c::r).dropWhile Q5):=rfl
 cases hd:(l.drop p).dropWhile (fun c=>!Q5 c) with
 |nil=>rw [hd] at hs;exact .inl ⟨if_pos rfl,hs⟩
 |cons c r=>
  right
  rw [hd] at hs
  have ha:(l.drop p).takeWhile (fun c=>!Q5 c)++(c::r)=l.drop p:=by rw [←hd];exact List.takeWhile_append_dropWhile
  generalize hA:(l.drop p).takeWhile (fun c=>!Q5 c)=a at ha hs ⊢
  have hlen:a.length+(r.length+1)=l.length-p:=by
   have:=congrArg List.length ha
   simp only [List.length_append,List.length_cons,List.length_drop] at this
   keq_rows
  have hq:l.drop (p+a.length)=c::r:=by
   rw [←List.drop_drop, ←ha,List.drop_left]
  have hw:Qk l.toArray (l.length-(p+a.length)) (p+a.length)=((c::r).takeWhile Q5).length:=by
   rw [eq_331 l _ _ (by keq_rows),hq]
  have hc:Q5 c=true:=by
   have:=List.head?_dropWhile_not (p:=fun c=>!Q5 c) (l:=l.drop p)
   rw [hd] at this
   simpa using this
  have hb:(c::r).takeWhile Q5++(c::r).dropWhile Q5=c::r:=List.takeWhile_append_dropWhile
  have hbl:((c::r).takeWhile Q5).length+((c::r).dropWhile Q5).length=r.length+1:=by
   have:=congrArg List.length hb
   rw [List.length_append] at this
   exact this
  refine ⟨p+a.length,if_neg (by simp),by keq_rows,by keq_rows,?_,?_,?_⟩
  ·rw [hw,List.takeWhile_cons,if_pos hc];simp
  ·rw [hw];keq_rows
  ·rw [hw,hs,hq]
   have e1:(l.drop p).take (p+a.length-p)=a:=by
    rw [show p+a.length-p=a.length by keq_rows, ←ha,List.take_left]
   have e2:(c::r).take ((c::r).takeWhile Q5).length=(c::r).takeWhile Q5:=by
    conv=>lhs;arg 2;rw [←hb]
    exact List.take_left
   have e3:l.drop (p+a.length+((c::r).takeWhile Q5).length)=(c::r).dropWhile Q5:=by
    rw [←List.drop_drop,hq]
    conv=>lhs;arg 2;rw [←hb]
    exact List.drop_left
   rw [e1,e2,e3]


end
section
open Builtin.Re
theorem eq_1333:True:=by
 k_with "g66"=>have offG:True:=trivial
 k_with "g67"=>skip
 k_with "dl_mem"=>((fail_if_success (k_extra "g67";clear offG));first|(with_reducible first|(apply eq_954<;>assumption)|(apply eq_1176<;>assumption)|(apply eq_518<;>assumption)|apply eq_857|(apply eq_283<;>assumption)|(apply eq_1077<;>assumption)|(apply eq_1193<;>assumption)|(apply eq_453<;>assumption)|(apply eq_1104<;>assumption)|(apply eq_1072<;>assumption)|(apply eq_689<;>assumption)|(apply eq_439<;>assumption)|apply eq_945|apply eq_586|(apply eq_1039<;>assumption)|(apply eq_764<;>assumption)|(apply eq_747<;>assumption)|(apply eq_130<;>assumption)|(apply eq_1125<;>assumption)|(apply eq_589<;>assumption)|apply eq_290|(apply eq_185<;>assumption)|fail)|(with_reducible apply eq_185;rotate_left;all_goals assumption)|(apply eq_185<;>assumption)|fail)
 trivial
theorem eq_910 (text:Array Nat) (pos lim:Nat):∃ m0:Sre.M,Sre.forSearch Qq text 1 pos lim false=(if (decide (pos>lim)||decide (lim-pos<1))=true then m0 else st text lim pos 5 pos pos true #[none,none] (-1) (-1) [fr0 pos true] 1 none (({}:Sre.Seen).add 14) none)∧m0.step.outcome=some .failed:=⟨_,rfl,rfl⟩
section
variable {M:Model} {A:Around} {E:Value→Shared→Prop} {s:Shared}
theorem eq_1017 {t:ReTarget} {pos:Nat} {Q:Option Sre.M→Shared→Prop} (hc:t.code=Qq) (hg:t.groups=1) (hlim:t.lim<4000000000) (hp:pos≤t.lim)
  (h1:Q1a t.text t.lim (t.lim-pos+1) pos=none→Q none s)
  (h2:∀ q m,Q1a t.text t.lim (t.lim-pos+1) pos=some q→m.start=q→m.handed=q+Qk t.text (t.lim-q) q→m.marks= #[some q,some (q+Qk t.text (t.lim-q) q)]→m.lastmark=1→Q (some m) s):
  wpAny M A (reNextFound t pos false) Q E s:=by
 unfold reNextFound
 rw [hc,hg]
 have key:∃ mf,Ends (Sre.forSearch Qq t.text 1 pos t.lim false) (4*(t.lim-pos)+8) mf∧Tells t.text t.lim (Q1a t.text t.lim (t.lim-pos+1) pos) mf:=by
  (refine eq_4 (eq_910 t.text pos t.lim) fun m0 e0 ho=>?_)
  rw [e0]
  by_cases hl:pos<t.lim
  ·rw [if_neg (by simp;keq_rows)]
   exact eq_330 t.text t.lim (by keq_rows) (t.lim-pos) pos true none none _ (by keq_rows)
  ·have e:pos=t.lim:=by keq_rows
   rw [e,Nat.sub_self]
   have e2:Q1a t.text t.lim (0+1) t.lim=none:=by rw [Q1a,if_neg (by keq_rows)];rfl
   rw [e2,if_pos (by simp)]
   exact ⟨_,⟨1,by keq_rows,rfl,(congrArg Option.isSome ho:_)⟩,ho⟩
 (refine eq_4 (key) fun mf he ht=>?_;(try clear key))
 unfold reRunToEnd
 refine wpAny_bind (eq_195 _ he (by keq_rows) ?_)
 refine wpAny_bind (wpAny_forIn_list _ (fun _ _ s'=>s'=s) _ (fun x rest b s' hs=>?_) (fun b s' hs=>?_) _ _ rfl)
 ·subst hs
  by_cases hx:mf.seen.has x=true
  ·rw [if_pos hx]
   exact wpAny_bind (wpAny_rule (wpAny_pure rfl))
  ·rw [if_neg hx]
   exact wpAny_pure rfl
 ·subst hs
  cases hf:Q1a t.text t.lim (t.lim-pos+1) pos with
  |none=>
   rw [hf] at ht
   have ho:mf.outcome=some .failed:=ht
   rw [ho]
   exact wpAny_pure (h1 hf)
  |some q=>
   rw [hf] at ht
   (refine eq_39 (ht) fun ho a b c d=>?_;(try clear ht))
   rw [ho]
   exact wpAny_pure (h2 q mf hf a b c d)
theorem eq_896 (v:Value):reNamed "re.Pattern.split" "split" ["string","maxsplit"] 1 [v] []=pure [some v,none]:=by kernel_rfl
theorem eq_638:Array.map (fun x=>x.toNat) (Array.map reRawOf #[Value.int 14 0,Value.int 4 0,Value.int 0 0,Value.int 1 0,Value.int 4294967295 0,Value.int 17 0,Value.int 0 0,Value.int 24 0,Value.int 11 0,Value.int 1 0,Value.int 4294967295 0,Value.int 13 0,Value.int 6 0,Value.int 16 0,Value.int 32 0,Value.int 16 0,Value.int 9 0,Value.int 0 0,Value.int 1 0,Value.int 17 0,Value.int 1 0,Value.int 1 0])=Qq:=by decide +kernel
theorem eq_437 {P:Params} {l:List Nat} {t:Tok} {Q:ReTarget→Shared→Prop} (h43:s.heap.get? 43=some (o43 P)) (h42:s.heap.get? 42=some (o42 P))
  (h:Q { pattern:=.ref 43,string:=.str (S l) t,code:=Qq,text:=l.toArray,kind:=0,groups:=1,pos:=0,lim:=l.length } s):wpAny M A (reWholeTarget (.ref 43) (.str (S l) t)) Q E s:=by
 unfold reWholeTarget
 refine wpAny_bind (wpAny_fieldsOf h43 rfl ?_)
 refine wpAny_bind (m:=reTextOf (.str (S l) t)) (wpAny_pure ?_)
 dsimp only
 rw [if_neg (by decide),if_neg (by decide)]
 refine wpAny_bind (m:=reNoCollectionInside (.str (S l) t) 0) (wpAny_pure ?_)
 show wpAny _ _ (reRawItems (.ref 42) >>= _) _ _ _
 unfold reRawItems
 refine wpAny_bind (wpAny_bind (wpAny_seqItems h42 rfl (wpAny_pure ?_)))
 have hz:(S l).cps.size=l.length:=eq_9 l
 have e:(⟨Value.ref 43,Value.str (S l) t,Array.map (fun x=>x.toNat) (Array.map reRawOf #[Value.int 14 0,Value.int 4 0,Value.int 0 0,Value.int 1 0,Value.int 4294967295 0,Value.int 17 0,Value.int 0 0,Value.int 24 0,Value.int 11 0,Value.int 1 0,Value.int 4294967295 0,Value.int 13 0,Value.int 6 0,Value.int 16 0,Value.int 32 0,Value.int 16 0,Value.int 9 0,Value.int 0 0,Value.int 1 0,Value.int 17 0,Value.int 1 0,Value.int 1 0]),(S l).cps,0,1,0,(S l).cps.size⟩:ReTarget)=⟨Value.ref 43,Value.str (S l) t,Qq,l.toArray,0,1,0,l.length⟩:=by
  rw [hz,eq_638]
  rfl
 k_extra "vx"
 show Q (⟨Value.ref 43,Value.str (S l) t,Array.map (fun x=>x.toNat) (Array.map reRawOf _),(S l).cps,0,_,0,(S l).cps.size⟩:ReTarget) s
 exact e.symm▸h
theorem eq_102 (l:List Nat) (b e:Nat):(⟨l.toArray.extract b e⟩:Str)=S ((l.drop b).take (e-b)):=by
 show Str.mk _=Str.mk _
 congr 1
 rw [List.extract_toArray]
noncomputable def Q4c (l:List Nat) (s:Shared) (rest:List Nat) (b:Array Value×Nat×Nat×Bool×Int×Bool) (s':Shared):Prop:=
 ∃ vs ps k tk,b.1=List.toArray vs∧s'={ s with toks:=tk }∧s.toks≤tk∧Fa2 Q1s vs ps∧vs.length≤2*b.2.1∧b.2.1=b.2.2.1∧b.2.1≤l.length∧b.2.2.2.1=false∧
  (if b.2.2.2.2.2 then Q3 (l.length+1) l=ps++[l.drop b.2.1] else Q3 (l.length+1) l=ps++Q3 (k+1) (l.drop b.2.1)∧l.length-b.2.1<rest.length∧l.length-b.2.1≤k)
theorem eq_479 {P:Params} {l:List Nat} {t:Tok} {Pf:PySem.Fin→Shared→Prop} (h43:s.heap.get? 43=some (o43 P)) (h42:s.heap.get? 42=some (o42 P)) (hl:l.length≤1000000)
  (h:∀ vs tk,Fa2 Q1s vs (Q3 (l.length+1) l)→s.toks≤tk→Pf (.done (.ret (.ref s.heap.objs.size))) { s with heap:=s.heap.push { cls:=.type "list",data:=.seq vs.toArray 0 },toks:=tk }):
  wpAny M A (Builtin.«re.Pattern.split» ⟨[.ref 43,.str (S l) t],[]⟩) Pf E s:=by
 unfold Builtin.«re.Pattern.split»
 dsimp only
 rw [eq_896]
 refine wpAny_bind (wpAny_pure ?_)
 dsimp only
 refine wpAny_bind (wpAny_pure ?_)
 refine wpAny_bind (eq_437 h43 h42 ?_)
 dsimp only
 generalize hT:({ pattern:=Value.ref 43,string:=Value.str (S l) t,code:=Qq,text:=l.toArray,kind:=0,groups:=1,pos:=0,lim:=l.length }:ReTarget)=T
 refine wpAny_bind (wpAny_mono (wpAny_forIn_list _ (Q4c l s) (Q4c l s []) (fun x rest b s' hI=>?_) (fun b s' h=>h) _ _ ?_) (fun b s' hI=>?_) fun _ _ z=>z)
 ·obtain ⟨out,start,last,must,n,over⟩:=b
  (refine eq_358 (hI) fun vs ps k tk e1 zq1 htk hv hvl e2 hp e3 hx=>?_;(try clear hI);subst zq1)
  dsimp only at e1 e2 hp e3 hx hvl ⊢
  subst e1 e2 e3
  cases over with
  |true=>
   k_extra "v14"
   exact wpAny_pure ⟨vs,ps,k,tk,rfl,rfl,htk,hv,hvl,rfl,hp,rfl,hx⟩
  |false=>
   rw [if_pos (by decide)]
   rw [if_neg (by decide)] at hx
   have hT1:T.code=Qq:=by subst hT;rfl
   have hT2:T.groups=1:=by subst hT;rfl
   have hT3:T.lim=l.length:=by subst hT;rfl
   have hT4:T.text=l.toArray:=by subst hT;rfl
   have hT5:T.kind=0:=by subst hT;rfl
   k_extra "vw"
   rw [if_neg (by simp)]
   refine eq_1017 hT1 hT2 (by rw [hT3];keq_rows) (by rw [hT3];exact hp) (fun hno=>?_) (fun q m hq hm1 hm2 hm3 hm4=>?_)
   ·rw [hT3,hT4] at hno
    dsimp only
    refine wpAny_pure ⟨vs,ps,k,tk,rfl,rfl,htk,hv,hvl,rfl,hp,rfl,?_⟩
    rw [if_pos rfl]
    rcases eq_224 l hp (k:=k) with ⟨_,h2⟩|⟨q,h2,_⟩
    ·rw [hx.1,h2]
    ·rw [hno] at h2;cases h2
   ·rw [hT3,hT4] at hq hm2 hm3
    rcases eq_224 l hp (k:=k) with ⟨h2,_⟩|⟨q',h2,h3,h4,h5,h6,h7⟩
    ·rw [hq] at h2;cases h2
    obtain rfl:q=q':=by rw [hq] at h2;exact Option.some.inj h2
    dsimp only
    have hz1:∀ b e,(⟨l.toArray.extract b e⟩:Str).length≤sizeLine:=fun b e=>by
     rw [eq_102,eq_9,sizeLine_eq,List.length_take,List.length_drop]
     keq_rows
    rw [hm1]
    have hsl:∀ b e (Q:Value→Shared→Prop) (s:Shared),(Q (.str (S ((l.drop b).take (e-b))) s.toks) { s with toks:=s.toks+1 })→wpAny M A (reSlice l.toArray 0 b e) Q E s:=fun b e Q s h=>by
     unfold reSlice
     rw [if_pos (by decide)]
     refine wpAny_mkStr ?_ (hz1 b e)
     rw [eq_102]
     exact h
    refine wpAny_bind (hsl _ _ _ _ ?_)
    rw [show List.range 1=[0] from rfl,List.forIn_cons]
    refine wpAny_bind (wpAny_bind (wpAny_bind ?_))
    unfold reMachineGroup
    rw [hm4,if_neg (by decide),hm3,hT4,hT5]
    show wpAny _ _ (if q+Qk l.toArray (l.length-q) q<q then reWrongSpan else reSlice l.toArray 0 q (q+Qk l.toArray (l.length-q) q)) _ _ _
    rw [if_neg (by keq_rows)]
    refine hsl _ _ _ _ ?_
    k_extra "vx"
    dsimp only
    rw [List.forIn_nil]
    refine wpAny_pure (wpAny_pure ?_)
    obtain ⟨k',rfl⟩:∃ k',k=k'+1:=⟨k-1,by keq_rows⟩
    refine ⟨vs++[.str (S ((l.drop start).take (q-start))) tk]++[.str (S ((l.drop q).take (q+Qk l.toArray (l.length-q) q-q))) (tk+1)],ps++[(l.drop start).take (q-start)]++[(l.drop q).take (Qk l.toArray (l.length-q) q)],k',_,?_,rfl,?_,(hv.snoc ⟨tk,rfl⟩).snoc ⟨tk+1,?_⟩,?_,rfl,?_,?_,?_⟩
    ·simp
    ·show @LE.le Nat _ _ _;keq_rows
    ·rw [show q+Qk l.toArray (l.length-q) q-q=Qk l.toArray (l.length-q) q by keq_rows]
    ·show _≤2*m.handed
     simp only [List.length_append,List.length_singleton]
     keq_rows
    ·show m.handed≤l.length
     keq_rows
    ·show (m.handed==q)=false
     rw [hm2]
     simp;keq_rows
    ·dsimp only
     rw [if_neg (by decide),hm2]
     refine ⟨?_,?_,by keq_rows⟩
     ·rw [hx.1,h7];simp
     ·have:=hx.2.1
      rw [List.length_cons] at this
      keq_rows
 ·subst hT
  refine ⟨[],[],l.length,s.toks,rfl,rfl,Nat.le_refl _,.nil,Nat.zero_le _,rfl,Nat.zero_le _,rfl,?_⟩
  rw [if_neg (by decide),List.length_range]
  refine ⟨rfl,?_,Nat.sub_le _ _⟩
  show l.length-0<2*l.toArray.size+3
  rw [List.size_toArray]
  keq_rows
 ·obtain ⟨out,start,last,must,n,over⟩:=b
  (refine eq_358 (hI) fun vs ps k tk e1 zq2 htk hv hvl e2 hp e3 hx=>?_;(try clear hI);subst zq2)
  dsimp only at e1 e2 hp e3 hx hvl ⊢
  subst e1 e2 e3
  cases over with
  |false=>rw [if_neg (by decide)] at hx;exact absurd hx.2.1 (Nat.not_lt_zero _)
  |true=>
   rw [if_pos rfl] at hx
   k_extra "v14"
   subst hT
   have hz1:(⟨l.toArray.extract start l.length⟩:Str).length≤sizeLine:=by
    rw [eq_102,eq_9,sizeLine_eq,List.length_take,List.length_drop]
    keq_rows
   k_extra "vw"
   unfold reSlice
   rw [if_pos (by decide)]
   refine wpAny_mkStr ?_ hz1
   rw [eq_102,List.take_of_length_le (by rw [List.length_drop];keq_rows)]
   refine wpAny_bind (wpAny_newList ?_ ?_)
   ·k_extra "vx"
    have hv2:=h (vs++[.str (S (l.drop start)) tk]) (tk+1) (by rw [hx];exact hv.snoc ⟨_,rfl⟩) (by show @LE.le Nat _ _ _;keq_rows)
    simpa using hv2
   ·show (vs.toArray.push _).toList.toArray.size≤sizeLine
    rw [sizeLine_eq]
    simp
    keq_rows
end


end
section
theorem eq_1304:True:=by
 k_with "g67"=>have offG:True:=trivial
 trivial
theorem eq_650:typeLookup (.type "re.Pattern") "__getattribute__"=pure (some (.builtin "object.__getattribute__")):=by rw [typeLookup_type,builtinLookup_eq_fast];kernel_rfl
theorem eq_860:typeLookup (.type "re.Pattern") "__getattr__"=pure none:=by rw [typeLookup_type,builtinLookup_eq_fast];kernel_rfl
theorem eq_216:typeLookup (.type "re.Pattern") "split"=pure (some (.builtin "re.Pattern.split")):=by rw [typeLookup_type,builtinLookup_eq_fast];kernel_rfl
theorem eq_795:typeOf (.builtin "re.Pattern.split")=pure (.type "method_descriptor"):=by show builtinType _=_;rw [builtinType_eq_fast];kernel_rfl
theorem eq_288:Slot "re.Pattern" "split" "re.Pattern.split":=
 .of (owner:="re.Pattern") (n:="split") eq_216 (by decide +kernel) (by decide +kernel) (by decide +kernel) (by first|exact .inl (by decide +kernel)|exact .inr (by decide +kernel)) (by rw [isSubtype_type];kernel_rfl)
theorem eq_509:entryFor table "re.Pattern.split"=some Builtin.«re.Pattern.split» :=entryFor_of_tree (by kernel_rfl)
theorem eq_763 (a b:Value):argsOk "re.Pattern.split" ⟨[a,b],[]⟩:=by
 unfold argsOk;kernel_rfl
section
variable {prog:Program} {w:World} {A:Around} {E:Value→Shared→Prop} {s:Shared} {P:Params} {h₀:Heap} {L:Addr} {m:Str→Option Value} {news:List (Addr×Obj)}
theorem eq_1034 {pl:Sem Bool} {Q:Value×List Value→Shared→Prop} (h43:s.heap.get? 43=some (o43 P)) (h:Q (.builtin "re.Pattern.split",[.ref 43]) s):wpAny (model prog w) A (getMethod (.ref 43) "split" pl) Q E s:=by
 have hT:s.TypeIs (.ref 43) "re.Pattern":=⟨_,h43,rfl⟩
 unfold getMethod
 refine wpAny_bind (wpAny_specialOf hT eq_650 ?_)
 dsimp only
 rw [if_neg (by decide +kernel)]
 refine wpAny_bind (wpAny_specialOf hT eq_860 (wpAny_bind (wpAny_specialOf hT eq_216 (wpAny_bind (wpAny_of_eq eq_795 ?_)))))
 k_extra "v14"
 exact wpAny_bind (wpAny_loadPart h43 (wpAny_bind (wpAny_rule (wpAny_pure h))))
theorem eq_1192 {l:List Nat} {t:Tok} {Q:Value→Shared→Prop} (h43:s.heap.get? 43=some (o43 P)) (h42:s.heap.get? 42=some (o42 P)) (hl:l.length≤1000000) (ht:1≤s.toks) (F:Fr h₀ L s.heap m) (N:News h₀ L s.heap news)
  (h:∀ D vs h' (tk:Nat),Fa2 Q1s vs (Q3 (l.length+1) l)→1≤tk→Fr h₀ L h' m→News h₀ L h' ((D,listOf vs.toArray 0)::news)→(∀ p∈news,p.1<D)→Q (.ref D) { s with heap:=h',toks:=tk }):
  wpAny (model prog w) A (call (.builtin "re.Pattern.split") [.ref 43,.str (S l) t]) Q E s:=by
 have hT:s.TypeIs (.ref 43) "re.Pattern":=⟨_,h43,rfl⟩
 refine wpAny_call (codeAny_call_builtin eq_288.plain eq_509 (eq_288.check _ _ _ _ _ _ _ _ hT (eq_763 _ _) ?_))
 refine eq_479 h43 h42 hl fun vs tk hv htk=>?_
 exact h s.heap.objs.size vs _ tk hv (Nat.le_trans ht htk) (F.push _) (N.push F _) fun p hp=>Heap.lt_size (N p hp).1
end


end
section
theorem eq_1241:True:=by
 k_with "g68"=>skip
 k_with "dl_mem"=>((fail_if_success (k_extra "g68";clear offG));first|(with_reducible first|apply eq_1128|apply eq_921|(apply eq_823<;>assumption)|(apply eq_526<;>assumption)|(apply eq_988<;>assumption)|(apply eq_1055<;>assumption)|apply eq_634|(apply eq_952<;>assumption)|(apply eq_508<;>assumption)|(apply eq_1197<;>assumption)|(apply eq_371<;>assumption)|(apply eq_678<;>assumption)|(apply eq_1212<;>assumption)|(apply eq_1141<;>assumption)|apply eq_104|fail)|fail)
 trivial
theorem eq_342 (mx:Nat) (ps:List (List Nat×List Nat)) (c:List Nat×List Nat):Ql mx (ps++[c])=Q16 mx (Ql mx ps) c:=by
 unfold Ql
 rw [List.foldl_append]
 rfl
theorem eq_22 (a b:List (List Nat×List Nat)):Q8 (a++b)=Q8 a+Q8 b:=by
 unfold Q8
 k_extra "v22"
theorem eq_527 (l:List (List Nat×List Nat)) (i:Nat):Q8 (l.drop i)≤Q8 l:=by
 conv=>rhs;rw [←List.take_append_drop i l]
 rw [eq_22]
 keq_rows
structure Q2r (ps:List (List Nat×List Nat)) (st:List (List Nat)×List (List Nat×List Nat)):Prop where
 a:∀ c∈st.2,c∈ps
 b:Q8 st.2≤Q8 ps
 c:st.1.length≤ps.length
 d:st.2.length≤ps.length
theorem eq_681 (mx:Nat) {ps:List (List Nat×List Nat)} {st:List (List Nat)×List (List Nat×List Nat)} (c:List Nat×List Nat) (ih:Q2r ps st):Q2r (ps++[c]) (Q16 mx st c):=by
 obtain ⟨a,b,d,e⟩:=ih
 have s1:∀ x∈st.2++[c],x∈ps++[c]:=fun x hx=>by
  rcases List.mem_append.mp hx with h|h
  ·exact List.mem_append_left _ (a x h)
  ·exact List.mem_append_right _ h
 have s2:Q8 (st.2++[c])≤Q8 (ps++[c]):=by rw [eq_22,eq_22];keq_rows
 have s3:(st.2++[c]).length≤(ps++[c]).length:=by simp;keq_rows
 have s4:(ps++[c]).length=ps.length+1:=by simp
 unfold Q16
 cases Q1u mx (st.2++[c]) with
 |none=>exact ⟨s1,s2,by dsimp only;keq_rows,s3⟩
 |some i=>
  refine ⟨fun x hx=>s1 x (List.mem_of_mem_drop hx),Nat.le_trans (eq_527 _ _) s2,?_,?_⟩
  ·dsimp only;simp;keq_rows
  ·dsimp only;rw [List.length_drop];keq_rows
theorem eq_400 (mx:Nat):∀ (ps qs:List (List Nat×List Nat)) (st:List (List Nat)×List (List Nat×List Nat)),Q2r qs st→Q2r (qs++ps) (ps.foldl (Q16 mx) st)
 |[],qs,st,h=>by rw [List.append_nil];exact h
 |c::ps,qs,st,h=>by
  have:=eq_400 mx ps (qs++[c]) (Q16 mx st c) (eq_681 mx c h)
  rw [List.append_assoc] at this
  exact this
theorem eq_337 (mx:Nat) (ps:List (List Nat×List Nat)):Q2r ps (Ql mx ps):=eq_400 mx ps [] ([],[]) ⟨fun c h=>h,Nat.le_refl _,Nat.le_refl _,Nat.le_refl _⟩
theorem eq_413:∀ (ps:List (List Nat)) (i:Nat) {a b:List Nat},ps[2*i]?=some a→ps[2*i+1]?=some b→(Qm ps)[i]?=some (a,b)
 |[],i,a,b,h,_=>by simp at h
 |[x],0,a,b,_,h2=>by simp at h2
 |[x],i+1,a,b,h,_=>by rw [show 2*(i+1)=2*i+1+1 by keq_rows] at h;simp at h
 |x::y::r,0,a,b,h1,h2=>by
  have e1:x=a:=by simpa using h1
  have e2:y=b:=by simpa using h2
  subst e1 e2;rfl
 |x::y::r,i+1,a,b,h1,h2=>by
  have h1':r[2*i]?=some a:=by
   rw [show 2*(i+1)=2*i+1+1 by keq_rows,List.getElem?_cons_succ,List.getElem?_cons_succ] at h1
   exact h1
  have h2':r[2*i+1]?=some b:=by
   rw [show 2*(i+1)+1=2*i+1+1+1 by keq_rows,List.getElem?_cons_succ,List.getElem?_cons_succ] at h2
   exact h2
  show ((x,y)::Qm r)[i+1]?=_
  rw [List.getElem?_cons_succ]
  exact eq_413 r i h1' h2'
theorem eq_144:∀ (ps:List (List Nat)),ps.length % 2=0→2*(Qm ps).length=ps.length
 |[],_=>rfl
 |[x],h=>by simp at h
 |x::y::r,h=>by
  have:=eq_144 r (by simp at h;keq_rows)
  show 2*((Qm r).length+1)=r.length+1+1
  keq_rows
theorem eq_295:∀ (ps:List (List Nat)),Q8 (Qm ps)≤(ps.map List.length).sum
 |[]=>Nat.le_refl _
 |[x]=>Nat.zero_le _
 |x::y::r=>by
  have:=eq_295 r
  have e:Q8 (Qm (x::y::r))=x.length+y.length+Q8 (Qm r):=rfl
  rw [e]
  simp only [List.map_cons,List.sum_cons]
  keq_rows
theorem eq_218:∀ (ps:List (List Nat)) {c},c∈Qm ps→c.1∈ps∧c.2∈ps
 |[],c,h=>by cases h
 |[x],c,h=>by cases h
 |x::y::r,c,h=>by
  rcases List.mem_cons.mp (show c∈(x,y)::Qm r from h) with rfl|h
  ·exact ⟨.head _,.tail _ (.head _)⟩
  ·have:=eq_218 r h
   exact ⟨.tail _ (.tail _ this.1),.tail _ (.tail _ this.2)⟩
theorem eq_241:∀ (k:Nat) (x:List Nat),(Q3 k x).flatten=x
 |0,x=>by simp [Q3]
 |k+1,x=>by
  have hs:Q3 (k+1) x=match x.dropWhile (fun c=>!Q5 c) with
   |[]=>[x]
   |c::r=>x.takeWhile (fun c=>!Q5 c)::(c::r).takeWhile Q5::Q3 k ((c::r).dropWhile Q5):=rfl
  rw [hs]
  cases hd:x.dropWhile (fun c=>!Q5 c) with
  |nil=>simp
  |cons c r=>
   dsimp only
   rw [List.flatten_cons,List.flatten_cons,eq_241 k,List.takeWhile_append_dropWhile, ←hd,List.takeWhile_append_dropWhile]
theorem eq_155:∀ (k:Nat) (x:List Nat),(Q3 k x).length % 2=1
 |0,x=>rfl
 |k+1,x=>by
  have hs:Q3 (k+1) x=match x.dropWhile (fun c=>!Q5 c) with
   |[]=>[x]
   |c::r=>x.takeWhile (fun c=>!Q5 c)::(c::r).takeWhile Q5::Q3 k ((c::r).dropWhile Q5):=rfl
  rw [hs]
  cases hd:x.dropWhile (fun c=>!Q5 c) with
  |nil=>rfl
  |cons c r=>
   have:=eq_155 k ((c::r).dropWhile Q5)
   simp only [List.length_cons]
   keq_rows
theorem eq_158 (k:Nat) (x:List Nat):((Q3 k x).map List.length).sum=x.length:=by
 have:=congrArg List.length (eq_241 k x)
 rw [List.length_flatten] at this
 exact this
theorem eq_381:∀ {l:List (List Nat)} {a:List Nat},a∈l→a.length≤(l.map List.length).sum
 |x::r,a,h=>by
  rw [List.map_cons,List.sum_cons]
  rcases List.mem_cons.mp h with rfl|h
  ·keq_rows
  ·have:=eq_381 h
   keq_rows
theorem eq_54 {p:Nat→Bool} {s:Nat}:∀ {x:List Nat},s∈x.takeWhile p→p s=true
 |a::r,h=>by
  rw [List.takeWhile_cons] at h
  cases hp:p a with
  |true=>
   rw [if_pos hp] at h
   rcases List.mem_cons.mp h with rfl|h
   ·exact hp
   ·exact eq_54 h
  |false=>rw [if_neg (by rw [hp];decide)] at h;cases h
theorem eq_352:∀ (k:Nat) (x a:List Nat),x.length≤k→∀ c∈Qm (a::Q3 k x),∀ s∈c.2,Q5 s=false
 |0,x,a,h,c,hc,s,hs=>by
  have:x=[]:=List.length_eq_zero_iff.mp (Nat.le_zero.mp h)
  subst this
  have e:Qm (a::Q3 0 [])=[(a,[])]:=rfl
  rw [e] at hc
  rw [List.mem_singleton.mp hc] at hs
  cases hs
 |k+1,x,a,h,c,hc,s,hs=>by
  have hspl:Q3 (k+1) x=match x.dropWhile (fun c=>!Q5 c) with
   |[]=>[x]
   |c::r=>x.takeWhile (fun c=>!Q5 c)::(c::r).takeWhile Q5::Q3 k ((c::r).dropWhile Q5):=rfl
  rw [hspl] at hc
  cases hd:x.dropWhile (fun c=>!Q5 c) with
  |nil=>
   rw [hd] at hc
   have hx:x.takeWhile (fun c=>!Q5 c)=x:=by
    have:=List.takeWhile_append_dropWhile (p:=fun c=>!Q5 c) (l:=x)
    rw [hd,List.append_nil] at this
    exact this
   have e:c=(a,x):=List.mem_singleton.mp hc
   subst e
   have hs':s∈x.takeWhile (fun c=>!Q5 c):=by rw [hx];exact hs
   have:=eq_54 hs'
   simpa using this
  |cons d r=>
   rw [hd] at hc
   k_extra "vh"
   ·have:=eq_54 hs
    simpa using this
   ·refine eq_352 k _ _ ?_ c hc s hs
    have h1:((d::r).dropWhile Q5).length+((d::r).takeWhile Q5).length=(d::r).length:=by
     have:=congrArg List.length (List.takeWhile_append_dropWhile (p:=Q5) (l:=d::r))
     rw [List.length_append] at this
     keq_rows
    have h2:(d::r).length≤x.length:=by
     have:=congrArg List.length (List.takeWhile_append_dropWhile (p:=fun c=>!Q5 c) (l:=x))
     rw [List.length_append,hd] at this
     keq_rows
    have hdw:Q5 d=true:=by
     have:=List.head?_dropWhile_not (p:=fun c=>!Q5 c) (l:=x)
     rw [hd] at this
     simpa using this
    have h3:0<((d::r).takeWhile Q5).length:=by rw [List.takeWhile_cons,if_pos hdw];simp
    keq_rows


end
section
section
variable {prog:Program} {w:World} {A:Around} {E:Value→Shared→Prop} {s:Shared} {x D L:Addr} {h₀:Heap} {m:Str→Option Value} {news:List (Addr×Obj)} {its:Array Value} {n:Nat}
theorem eq_1300:True:=by
 k_with "g68"=>have offG:True:=trivial
 k_with "g69"=>skip
 k_with "dl_mem"=>((fail_if_success (k_extra "g69";clear offG));first|(with_reducible first|(apply eq_177<;>assumption)|(apply eq_189<;>assumption)|(apply eq_367<;>assumption)|apply eq_891|fail)|fail)
 trivial
theorem eq_580 {sl v:Addr} {vl vu:Value} {lo hi:Option Int} {its2:Array Value} {n2:Nat} {P:Fin→Shared→Prop} {o:Obj} (hl:s.heap.get? x=some o) (hdo:o.data= .seq its n) (hv:s.heap.get? v=some (listOf its2 n2)) (hne:x≠v) (hs:s.heap.IsSliceOf sl vl vu .none) (pl:IsPart vl lo) (pu:IsPart vu hi)
  (hst:(sliceBounds lo hi none its.size).2.2=1) (hsz:its.size+its2.size≤1000000)
  (h:P (.done (.ret .none)) { s with heap:=s.heap.update x (Obj.mapSeq fun xs=>xs.extract 0 (sliceBounds lo hi none its.size).1.toNat++its2++xs.extract (max (sliceBounds lo hi none its.size).1 (sliceBounds lo hi none its.size).2.1).toNat xs.size) }):wpAny (model prog w) A (Builtin.«list.__setitem__» ⟨[.ref x,.ref sl,.ref v],[]⟩) P E s:=by
 (refine eq_18 (id hs) fun os hos hcs hds=>?_)
 have hTs:s.TypeIs (.ref sl) "slice":=⟨os,hos,hcs⟩
 show wpAny _ _ (Builtin.List.listSubscript? (.ref sl) >>= _) _ _ s
 k_extra "vw"
 unfold Builtin.List.listSubscript?
 k_extra "v1e"
 simp only [Option.isNone_none,if_true]
 k_extra "vx"
 show wpAny _ _ (typeOf (.ref sl) >>= _) _ _ s
 refine wpAny_bind (wpAny_typeOf hTs ?_)
 k_extra "v14"
 rw [listSliceParts_eq]
 k_extra "v12"
 k_extra "v1l"
 k_extra "vt"
 k_extra "vp"
 have hsame:Builtin.List.listSameRef (.ref x) (.ref v)=false:=by simp [Builtin.List.listSameRef,hne]
 dsimp only
 rw [hsame,if_neg (by decide)]
 refine wpAny_bind (m:=Builtin.List.listAllItems (.ref v) _) ?_
 unfold Builtin.List.listAllItems
 k_extra "v1z"
 rw [if_pos (by decide)]
 unfold Builtin.List.listItems
 refine wpAny_bind (wpAny_seqItems hv rfl (wpAny_pure ?_))
 refine wpAny_bind (wpAny_bind (wpAny_seqItems hl hdo (wpAny_pure ?_)))
 k_extra "v1i"
 rw [hst,if_pos (by decide)]
 refine wpAny_bind (wpAny_rule ?_)
 have ht:Builtin.List.listTooLong (its.size+its2.size)=false:=by
  unfold Builtin.List.listTooLong
  rw [sizeLine_eq]
  k_extra "v26"
 rw [ht,if_neg (by decide)]
 refine wpAny_bind (m:=Builtin.List.listUpdate (.ref x) _) (wpAny_updateSeq (hz:=by rw [sizeLine_eq];keq_rows) (_hz':=?_) hl hdo ?_)
 ·k_extra "v27"
 ·simp only [Array.size_append,Array.size_extract]
  rw [sizeLine_eq];keq_rows
theorem eq_525 (k:Nat):sliceBounds none (some (0:Int)) none k=(0,0,1):=by
 unfold sliceBounds
 simp
 keq_rows
theorem eq_510 {v:Addr} {its2:Array Value} {n2:Nat} {u:Tok} {gg:Obj→List (Addr×Obj)} {Q:Unit→Shared→Prop} (F:Fr h₀ L s.heap m) (N:News h₀ L s.heap news) (U:UpdF x (listOf its n) news gg) (hv:(v,listOf its2 n2)∈news) (hne:x≠v) (hsz:its.size+its2.size≤1000000)
  (h:∀ h' k,Fr h₀ L h' m→News h₀ L h' (gg (listOf (its2++its) k))→Q () { s with heap:=h' }):
  wpAny (model prog w) A (setItem (.ref x) (.ref s.heap.objs.size) (.ref v)) Q E { s with heap:=s.heap.push { cls:=.type "slice",data:=.fields #[.none,.int 0 u,.none] } }:=by
 have F1:=F.push { cls:=.type "slice",data:=.fields #[.none,.int 0 u,.none] }
 have N0:News h₀ L (s.heap.push { cls:=.type "slice",data:=.fields #[.none,.int 0 u,.none] }) news:=N.grown fun _ _ e=>Heap.get?_push_of_some _ e
 have hv':=(N0 _ hv).1
 (refine eq_23 (U.split) fun pre post zq1 hg a b=>?_;subst zq1)
 have hl:(x,listOf its n)∈pre++(x,listOf its n)::post:=List.mem_append.mpr (.inr (.head _))
 have z:=N0 _ hl
 have hT:(⟨s.heap.push { cls:=.type "slice",data:=.fields #[.none,.int 0 u,.none] },s.gens,s.drawn,s.toks,s.os⟩:Shared).TypeIs (.ref x) "list":=⟨_,z.1,rfl⟩
 have hb:=eq_525 its.size
 unfold setItem
 refine wpAny_holding (wpAny_bind (wpAny_sequenceKey hT (by decide) ?_))
 refine wpAny_bind (wpAny_callSpecial?_slot (name:=Str.ofString "__setitem__") hT slot_list_setitem (wpAny_call_entry slot_list_setitem hT entry_list_setitem ?_ (args_list_setitem _ _ _)))
 refine eq_580 z.1 rfl hv' hne (Heap.IsSliceOf.new ..) .none (.int _ _) (by rw [hb]) hsz ⟨_,rfl,?_⟩
 refine wpAny_pure (h _ (if (its2++its).size==its.size then n else n+1) (F1.change (Heap.SameBut.update ..) z.2.1 z.2.2) ?_)
 rw [hg]
 refine news_set N0 a b (Heap.SameBut.update ..) ?_
 k_extra "v25"
 unfold Obj.mapSeq
 dsimp only
 rw [hb]
 simp
end


end
section
theorem eq_1346:True:=by
 k_with "g69"=>have offG:True:=trivial
 k_with "g70"=>skip
 k_with "dl_mem"=>((fail_if_success (k_extra "g70";clear offG));first|(with_reducible first|(apply eq_868<;>assumption)|(apply eq_738<;>assumption)|(apply eq_1015<;>assumption)|(apply eq_618<;>assumption)|apply eq_1213|(apply eq_886<;>assumption)|(apply eq_535<;>assumption)|(apply eq_1189<;>assumption)|apply eq_1014|(apply eq_123<;>assumption)|(apply eq_1133<;>assumption)|apply eq_109|(apply eq_1163<;>assumption)|(apply eq_1020<;>assumption)|(apply eq_852<;>assumption)|(apply eq_939<;>assumption)|(apply eq_794<;>assumption)|(apply eq_108<;>assumption)|(apply eq_371<;>assumption)|(apply eq_999<;>assumption)|apply eq_152|(apply eq_927<;>assumption)|(apply eq_723<;>assumption)|(apply eq_124<;>assumption)|(apply eq_564<;>assumption)|(apply eq_1152<;>assumption)|(apply eq_840<;>assumption)|(apply eq_1018<;>assumption)|(apply eq_934<;>assumption)|(apply eq_110<;>assumption)|(apply eq_690<;>assumption)|(apply eq_1220<;>assumption)|fail)|(with_reducible apply eq_124;rotate_left;all_goals assumption)|(apply eq_124<;>assumption)|(with_reducible apply eq_123;rotate_left;all_goals assumption)|(apply eq_123<;>assumption)|(with_reducible apply eq_108;rotate_left;all_goals assumption)|(apply eq_108<;>assumption)|(with_reducible apply eq_110;rotate_left;all_goals assumption)|(apply eq_110<;>assumption)|fail)
 trivial
theorem eq_202 (P:Params):(Kx P).lookup 43=some (o43 P):=rfl
theorem eq_791 (P:Params):(Kx P).lookup 42=some (o42 P):=rfl
theorem eq_642 {prog:Program} {w:World} {A:Around} {E:Value→Shared→Prop} {s:Shared} {b:List Nat} {t u:Tok} {Q:Value→Shared→Prop} (ht:1≤s.toks) (hsz:b.length≤1000000)
  (h:∀ t' tk,1≤tk→Q (.str (S b) t') { s with toks:=tk }):wpAny (model prog w) A (binaryOp .Add (.str (Str.ofString "") t) (.str (S b) u)) Q E s:=by
 have e:(Str.ofString "").cps.toList=[]:=by decide +kernel
 have e2:(Str.ofString "").length=0:=by decide +kernel
 refine eq_287 ht (by rw [e2];keq_rows) ?_
 rw [e]
 exact h
theorem eq_1289:True:=by
 k_with "g32"=>skip
 k_with "g13"=>skip
 k_with "g14"=>skip
 k_with "g16"=>skip
 k_with "g17"=>skip
 k_with "g18"=>skip
 k_with "g52"=>skip
 k_with "binaryOp Add str str"=>((fail_if_success (k_extra "g70";clear offG));k_here;(with_reducible show wpAny _ _ (binaryOp _ (Value.str (Str.ofString "") _) (Value.str (S _) _)) _ _ _);k_dflt (refine' eq_642 (by first|k_extra "t"|fail) (by first|exact Nat.le_trans (by with_reducible assumption) (by decide)|fail) ?_;intro t8ω k8ω hk8ω))
 k_with "getMethod ref"=>((fail_if_success (k_extra "g70";clear offG));k_here;(with_reducible show wpAny _ _ (getMethod (Value.ref 43) _ _) _ _ _);k_dflt (refine' eq_1034 (by first|exact Frag.In.keeps (by k_asm) (Fr.keep (by k_asm)) _ _ (eq_202 _)|fail) ?_))
 k_with "g59"=>skip
 k_with "setItem ref ref ref"=>((fail_if_success (k_extra "g70";clear offG));k_here;k_dflt (refine' eq_510 (by k_asm) (by k_asm) (by first|k_updF|fail) (by first|k_mem|fail) (by first|(show @Ne Nat _ _;keq_rows)|fail) (by first|(simp only [List.size_toArray,List.length_cons,List.length_nil];keq_rows)|fail) ?_;intro h9ω k9ω F9ω N9ω;(try dsimp only at N9ω)))
 k_with "callWith"=>((fail_if_success (k_extra "g70";clear offG));k_here;(with_reducible show wpAny _ _ (callWith _ (Value.type _) _ (backTo _ (starEach [Expr.Starred _ _] _)) []) _ _ _);k_dflt (refine eq_1174 ?_))
 k_with "call builtin:iter"=>((fail_if_success (k_extra "g70";clear offG));k_here;k_dflt (refine' eq_632 (by k_asm) (by k_asm) (by first|k_mem|fail) ?_);intro it9ω h9ω F9ω N9ω l9ω;k_lt l9ω)
 k_with "g71"=>skip
 k_with "call ref"=>((fail_if_success (k_extra "g71";clear offG));k_here;refine halt ?_)
 k_with "call type:zip"=>((fail_if_success (k_extra "g70";clear offG));k_here;refine halt ?_)
 k_with "call builtin:re.Pattern.split"=>((fail_if_success (k_extra "g70";clear offG));k_here;refine halt ?_)
 trivial
noncomputable def Q2 (l:List Nat):List (List Nat×List Nat):=Qm ([]::Q3 (l.length+1) l)
theorem eq_506 {x:Nat} {q:List Nat} (h:Q5 x=false) (k:Nat):∃ r0 pr,Q3 (k+1) (x::q)=(x::r0)::pr:=by
 have hs:Q3 (k+1) (x::q)=match (x::q).dropWhile (fun c=>!Q5 c) with
  |[]=>[x::q]
  |c::r=>(x::q).takeWhile (fun c=>!Q5 c)::(c::r).takeWhile Q5::Q3 k ((c::r).dropWhile Q5):=rfl
 rw [hs]
 cases (x::q).dropWhile (fun c=>!Q5 c) with
 |nil=>exact ⟨_,_,rfl⟩
 |cons c r=>
  dsimp only
  rw [List.takeWhile_cons,if_pos (by rw [h];rfl)]
  exact ⟨_,_,rfl⟩
theorem eq_1188 {t:Tok} {vs:List Value} {ps:List (List Nat)} (x:Fa2 Q1s vs ps):Fa2 Q1s (#[Value.str (Str.ofString "") t]++List.toArray vs).toList ([]::ps):=by
 have:(#[Value.str (Str.ofString "") t]++List.toArray vs).toList=Value.str (Str.ofString "") t::vs:=by simp
 rw [this,eq_71]
 exact .cons ⟨t,rfl⟩ x
structure TurnOk (mx:Nat) (l:List Nat) (i:Nat) (cc:List Nat×List Nat):Prop where
 a:((Ql mx ((Q2 l).take i)).2++[cc]).length≤20000
 b:∀ d∈(Ql mx ((Q2 l).take i)).2++[cc],d.1.length≤200000∧d.2.length≤200000
 c:Q8 ((Ql mx ((Q2 l).take i)).2++[cc])≤1000000
 d:(Ql mx ((Q2 l).take i)).1.length≤100000
 e:∀ d∈(Ql mx ((Q2 l).take i)).2++[cc],d.2.getLast?≠some 32
 f:(Ql mx ((Q2 l).take i)).2.length≤10000
 g:Ql mx ((Q2 l).take (i+1))=Q16 mx (Ql mx ((Q2 l).take i)) cc
theorem eq_317 (l:List Nat):Q8 (Q2 l)≤l.length:=by
 have h1:=eq_295 ([]::Q3 (l.length+1) l)
 have h2:=eq_158 (l.length+1) l
 simp only [List.map_cons,List.sum_cons,List.length_nil,Nat.zero_add] at h1
 unfold Q2
 keq_rows
theorem eq_151:∀ (k:Nat) (x:List Nat),(Q3 k x).length≤2*k+1
 |0,x=>by simp [Q3]
 |k+1,x=>by
  have hs:Q3 (k+1) x=match x.dropWhile (fun c=>!Q5 c) with
   |[]=>[x]
   |c::r=>x.takeWhile (fun c=>!Q5 c)::(c::r).takeWhile Q5::Q3 k ((c::r).dropWhile Q5):=rfl
  rw [hs]
  cases hd:x.dropWhile (fun c=>!Q5 c) with
  |nil=>simp
  |cons c r=>
   have:=eq_151 k ((c::r).dropWhile Q5)
   simp only [List.length_cons]
   keq_rows
theorem eq_640 {mx:Nat} {l:List Nat} {i:Nat} {c:List Nat×List Nat} (hl:l.length≤5000) (hn:(Q2 l).length≤6000) (hi:(Q2 l)[i]?=some c):TurnOk mx l i c:=by
 have hok:=eq_337 mx ((Q2 l).take i)
 have hmem:∀ d∈(Ql mx ((Q2 l).take i)).2++[c],d∈Q2 l:=fun d hd=>by
  rcases List.mem_append.mp hd with h|h
  ·exact List.mem_of_mem_take (hok.a d h)
  ·rw [List.mem_singleton.mp h];exact List.mem_of_getElem? hi
 have htk:(Q2 l).take (i+1)=(Q2 l).take i++[c]:=by rw [List.take_add_one,hi];rfl
 have hle:((Q2 l).take i).length≤6000:=by rw [List.length_take];keq_rows
 have hsz:∀ d∈Q2 l,d.1.length≤5000∧d.2.length≤5000:=fun d hd=>by
  have hm:=eq_218 _ hd
  have hsum:=eq_158 (l.length+1) l
  have hone:∀ a∈([]:List Nat)::Q3 (l.length+1) l,a.length≤5000:=fun a ha=>by
   rcases List.mem_cons.mp ha with rfl|ha
   ·exact Nat.zero_le _
   ·have:=eq_381 ha
    keq_rows
  exact ⟨hone _ hm.1,hone _ hm.2⟩
 refine ⟨?_,fun d hd=>?_,?_,Nat.le_trans hok.c (Nat.le_trans hle (by decide)),fun d hd e=>?_,Nat.le_trans hok.d (Nat.le_trans hle (by decide)),?_⟩
 ·rw [List.length_append,List.length_singleton]
  have:=hok.d
  keq_rows
 ·have:=hsz d (hmem d hd)
  exact ⟨Nat.le_trans this.1 (by decide),Nat.le_trans this.2 (by decide)⟩
 ·have h1:Q8 ((Ql mx ((Q2 l).take i)).2++[c])≤Q8 ((Q2 l).take (i+1)):=by
   rw [htk,eq_22,eq_22]
   have:=hok.b
   keq_rows
  have h2:=eq_334 (Q2 l) (i+1)
  have h3:=eq_317 l
  keq_rows
 ·have:=eq_352 (l.length+1) l [] (by keq_rows) d (hmem d hd) 32 (List.mem_of_getLast? e)
  revert this;decide
 ·rw [htk,eq_342]
theorem eq_705 {g h:Heap} {L z TI TO it:Addr} {f:Value} {oo:Obj} {r:List (Addr×Obj)} (_:News g L h ((z,{ cls:=.type "zip",data:=.fields #[f,.bool false,.bool false,.ref TI,.ref TO] })::(TO,oo)::(TI,{ cls:=.type "tuple",data:=.seq #[.ref it,.ref it] })::r)):∃ q,q=it:=⟨it,rfl⟩
theorem eq_990 {g h:Heap} {L z TI TO it D:Addr} {xs:Array Value} {k:Nat} {r:List (Addr×Obj)} (N:News g L h ((z,{ cls:=.type "zip",data:=.fields #[.none,.bool false,.bool false,.ref TI,.ref TO] })::(TO,{ cls:=.type "tuple",data:=.seq #[.none,.none] })::(TI,{ cls:=.type "tuple",data:=.seq #[.ref it,.ref it] })::r)) (hi:(it,liO D 0)∈r∧(D,listOf xs k)∈r):Q2a h z TI TO it D xs .none 0:=
 ⟨(N _ (.head _)).1,(N _ (.tail _ (.tail _ (.head _)))).1,⟨_,_,(N _ (.tail _ (.head _))).1⟩,⟨_,(N _ (.tail _ (.tail _ (.tail _ hi.1)))).1,rfl,rfl⟩,⟨_,(N _ (.tail _ (.tail _ (.tail _ hi.2)))).1,rfl,k,rfl⟩⟩
theorem eq_520 {g h:Heap} {L z TI TO it D:Addr} {xs:Array Value} {k:Nat} {o1 o2 o3:Obj} {r:List (Addr×Obj)} (N:News g L h ((z,o1)::(TO,o2)::(TI,o3)::r)) (hi:(it,liO D 0)∈r∧(D,listOf xs k)∈r):∀ b,b=z∨b=TO∨b=TI∨b=it∨b=D→g.get? b=none∧b≠L:=by
 intro b hb
 rcases hb with rfl|rfl|rfl|rfl|rfl
 ·exact ⟨(N _ (.head _)).2.2,(N _ (.head _)).2.1⟩
 ·exact ⟨(N _ (.tail _ (.head _))).2.2,(N _ (.tail _ (.head _))).2.1⟩
 ·exact ⟨(N _ (.tail _ (.tail _ (.head _)))).2.2,(N _ (.tail _ (.tail _ (.head _)))).2.1⟩
 ·exact ⟨(N _ (.tail _ (.tail _ (.tail _ hi.1)))).2.2,(N _ (.tail _ (.tail _ (.tail _ hi.1)))).2.1⟩
 ·exact ⟨(N _ (.tail _ (.tail _ (.tail _ hi.2)))).2.2,(N _ (.tail _ (.tail _ (.tail _ hi.2)))).2.1⟩
theorem eq_704 {g h':Heap} {L:Addr} {hd nw:List (Addr×Obj)} {off:Addr→Prop} {s:Shared} {J:(Str→Option Value)→List (Addr×Obj)→Prop} {Q:Flow→Shared→Prop} {m':Str→Option Value} {tk:Nat} {g':Array GenState} (F:Fr g L h' m') (N:News g L h' (hd++nw)) (ho:∀ p∈nw,off p.1) (ht:1≤tk) (hg:AllBare g') (hj:J m' nw):Q49 g L hd off s J Q .next ⟨h',g',s.drawn,tk,s.os⟩:=
 ⟨h',tk,g',m',nw,rfl,F,N,ho,ht,hg,hj⟩
noncomputable def SplitJ (w:World) (FF FD LL AA DD:Addr) (t:Q1p) (mx:Nat) (l:List Nat) (i:Nat) (m':Str→Option Value) (nw:List (Addr×Obj)):Prop:=
 m' (Str.ofString "self")=some (.ref FF)∧Q4e w FF FD LL AA DD t mx (Ql mx ((Q2 l).take i)).1 (Ql mx ((Q2 l).take i)).2 nw
set_option maxHeartbeats 4000000
theorem eq_610 (w:World) (FF FD LL AA DD:Addr) (t:Q1p) (mx:Nat) (kl n:Nat) (u t0:Tok) (c:Nat) (op1 op2:Obj) (l:List Nat) (te tt tc:Tok) (htb1:Qz op1) (htb2:Qz op2) (hl:l.length≤5000) (hw0:∃ x q,l=x::q∧Q5 x=false):
  CtQ w 5 106 [.ref FF,.str (Str.ofString "") te,.str (S l) tt,.str (Str.ofString " ") tc] (Q1f w FF FD LL AA DD t mx #[] kl #[] n u t0 c op1 op2) (fun h=>True) (fun v own=>v= .none∧Q4e w FF FD LL AA DD t mx (Ql mx (Q2 l)).1 (Ql mx (Q2 l)).2 own):=by
 k_extra "w8"
 replace F1:Fr g L1 h1 (fun y=>List.lookup y [(Str.ofString "splitchars",.str (Str.ofString " ") tc),(Str.ofString "string",.str (S l) tt),(Str.ofString "fws",.str (Str.ofString "") te),(Str.ofString "self",.ref FF)]):=F1
 k_extra "v7"
 k_steps
 unfold Q18
 refine eq_1192 (Frag.In.keeps (by k_asm) (Fr.keep (by k_asm)) _ _ (eq_202 _)) (Frag.In.keeps (by k_asm) (Fr.keep (by k_asm)) _ _ (eq_791 _)) (by keq_rows) (by k_extra "t") (by k_asm) (by k_asm) ?_
 intro D vs h2 tk2 hvs htk2 F2 N2 l2
 (refine eq_14 (hw0) fun x0 q0 hlq hx0=>?_;(try clear hw0))
 (refine eq_29 (eq_506 (q:=q0) hx0 l.length) fun r0 pr hsp=>?_)
 rw [←hlq] at hsp
 rw [hsp] at hvs
 obtain ⟨ts0,vr,rfl,hvr⟩:∃ ts0 vr,vs= .str (S (x0::r0)) ts0::vr∧Fa2 Q1s vr pr:=by
  cases hvs with
  |cons a r=>
   (refine eq_5 (a) fun t' zq1=>?_;(try clear a);subst zq1)
   exact ⟨t',_,rfl,r⟩
 have hsum:=eq_158 (l.length+1) l
 have hodd:=eq_155 (l.length+1) l
 rw [hsp] at hsum hodd
 simp only [List.map_cons,List.sum_cons] at hsum
 have hx00:(x0::r0).length≤5000:=by keq_rows
 have hvl0:=hvr.len
 have hcnt:pr.length≤10002:=by
  have:=eq_151 (l.length+1) l
  rw [hsp,List.length_cons] at this
  keq_rows
 have hvl:vr.length≤20000:=by keq_rows
 k_lt l2
 k_steps
 refine eq_31 ?_
 k_steps
 unfold Q18
 refine eq_566 (by k_asm) (by k_asm) (by k_mem) fun z TI TO h3 F3 N3 l3 l4 l5=>?_
 k_lt l3
 (refine eq_5 (eq_705 N3) fun it eit=>?_)
 subst eit
 have hoff0:∀ p∈Q1f w FF FD LL AA DD t mx #[] kl #[] n u t0 c op1 op2,off5 z TI TO it D p.1:=by
  intro p hp
  have ne5:∀ a:Addr,a<TI→@Ne Nat a it→@Ne Nat a D→off5 z TI TO it D a:=fun a h1 h2 h3=>⟨fun e=>by have:=Nat.lt_trans l4 l5;have h1':@LT.lt Nat _ a TI:=h1;have l4':@LT.lt Nat _ TI TO:=l4;have l5':@LT.lt Nat _ TO z:=l5;keq_rows,fun e=>by have h1':@LT.lt Nat _ a TI:=h1;have l4':@LT.lt Nat _ TI TO:=l4;keq_rows,fun e=>by have h1':@LT.lt Nat _ a TI:=h1;keq_rows,h2,h3⟩
  k_extra "v0"
  ·k_extra "v4"
  k_extra "v0"
  ·k_extra "v4"
  k_extra "v0"
  ·k_extra "v4"
  k_extra "v0"
  ·k_extra "v4"
  k_extra "v0"
  ·k_extra "v4"
  k_extra "v0"
  ·k_extra "v4"
  k_extra "v0"
  ·k_extra "v4"
  ·cases hp
 have hparts:∀ tq:Tok,Fa2 Q1s (#[Value.str (Str.ofString "") tq]++List.toArray (Value.str (S (x0::r0)) ts0::vr)).toList ([]::Q3 (l.length+1) l):=by
  intro tq
  rw [hsp]
  exact eq_1188 (.cons ⟨ts0,rfl⟩ hvr)
 have hplen:2*(Q2 l).length=pr.length+2:=by
  have:=eq_144 ([]::Q3 (l.length+1) l) (by rw [hsp];simp only [List.length_cons];simp only [List.length_cons] at hodd;keq_rows)
  unfold Q2
  rw [this,hsp]
  simp
 have hz3:=eq_990 N3 ⟨by k_mem,by k_mem⟩
 refine eq_462 (news:=Q1f w FF FD LL AA DD t mx #[] kl #[] n u t0 c op1 op2) rfl ⟨?d1,?d2,?d3,?d4,?d5,?d6,?d7,?d8,?d9⟩ F3 ?NN hz3 (eq_520 N3 ⟨by k_mem,by k_mem⟩) (by k_extra "t") (by assumption) hoff0 (SplitJ w FF FD LL AA DD t mx l) ?hj (n:=(Q2 l).length) ?hxs ?turn ?done
 case NN=>exact News.sub N3 (by repeat (first|exact List.forall_mem_nil _|refine List.forall_mem_cons.mpr ⟨by k_mem,?_⟩))
 case hj=>exact ⟨by k_extra "m", #[],kl,[],n,u,t0,c,op1,op2,[],htb1,htb2,rfl,fun _ _ p hp=>(nomatch hp),.nil,.nil⟩
 case hxs=>
  rw [hplen]
  simp only [Array.size_append,List.size_toArray,List.length_cons,List.length_nil]
  keq_rows
 case turn=>
  (intro i x y m₁ news₁ h tk g₁ T oz oo ot oi ol hi hx hy zq2;obtain ⟨hself,lv,kl',vs',n',u',t0',c',q1,q2,ex,tb1,tb2,rfl,hex,hin,hls⟩:=zq2;intro F₁ N₁ hoff hoT htk hg₁)
  obtain ⟨pa,hpa,ta,rfl⟩:=(hparts _).get (by rw [Array.getElem?_toList];exact hx)
  obtain ⟨pb,hpb,tb,rfl⟩:=(hparts _).get (by rw [Array.getElem?_toList];exact hy)
  have hpi:(Q2 l)[i]?=some (pa,pb):=eq_413 _ _ hpa hpb
  have tko:=eq_640 (mx:=mx) hl (by keq_rows) hpi
  have hsz1:=hin.len
  have hsz2:=hls.len
  have ho1:=hoff
  have hT1:∀ p∈Q1f w FF FD LL AA DD t mx lv kl' (List.toArray vs') n' u' t0' c' q1 q2,@Ne Nat p.1 T:=fun p hp=>hoT p (List.mem_append_left _ hp)
  simp only [List.forall_mem_cons] at hT1
  (refine eq_748 (hT1) fun sT1 sT2 sT3 sT4 sT5 sT6 sT7 zq6=>?_;(try clear hT1);clear zq6)

  simp only [List.cons_append,List.nil_append] at N₁
  k_steps
  unfold Q18
  refine eq_24 (eq_941 w FF FD LL AA DD t mx lv kl' vs' n' u' t0' c' q1 q2 (Ql mx ((Q2 l).take i)).2 pa pb ta tb tb1 tb2 ?z1 tko.a tko.b tko.c ?z2 tko.e) (by k_asm) (by k_asm) (by k_asm) (by k_asm) (Q23.mid [(T,Qh (.str (S pa) ta) (.str (S pb) tb)),(z,oz),(TO,oo),(TI,ot),(it,oi),(D,ol)] ex (Q1f w FF FD LL AA DD t mx lv kl' (List.toArray vs') n' u' t0' c' q1 q2)) ?hr ?hp (by k_asm) rfl (by first|keq_rows|ktr_room) (by first|keq_rows|ktr_units) (by k_extra "t") (by assumption) ?k
  case z1=>
   rw [List.size_toArray,hsz1]
   exact tko.f
  case z2=>
   rw [←Array.length_toList,hsz2]
   exact tko.d
  case hr=>
   intro q hq p hp
   k_extra "vr"
   ·have o5:=ho1 q (List.mem_append_left _ hq)
    k_extra "v0"
    ·exact fun e=>hoT q (List.mem_append_left _ hq) e.symm
    k_extra "v0"
    ·exact fun e=>o5.1 e.symm
    k_extra "v0"
    ·exact fun e=>o5.2.1 e.symm
    k_extra "v0"
    ·exact fun e=>o5.2.2.1 e.symm
    k_extra "v0"
    ·exact fun e=>o5.2.2.2.1 e.symm
    k_extra "v0"
    ·exact fun e=>o5.2.2.2.2 e.symm
    ·cases hp
   ·exact hex q hq p hp
  case hp=>exact hin.mono fun v c y=>y.chunk (by k_asm) (fun p hp=>by repeat (first|exact hp|apply List.Mem.tail))
  case k=>
   intro v9 h9 t9 o9 g9 F9 N9 e9 p9 ht9 hg9
   (refine eq_7 (p9) fun hv9 hA=>?_;(try clear p9))
   (refine eq_18 (eq_666 hA N9 e9 hex hin hls ho1 (fun a ha=>⟨fun e=>ha (z,oz) (by simp) e.symm,fun e=>ha (TO,oo) (by simp) e.symm,fun e=>ha (TI,ot) (by simp) e.symm,fun e=>ha (it,oi) (by simp) e.symm,fun e=>ha (D,ol) (by simp) e.symm⟩)) fun nw' hf' N' ho'=>?_)
   k_steps
   exact eq_704 (by k_asm) (fun p hp=>N' p (.tail _ hp)) ho' (by k_extra "t") (by assumption) ⟨by k_extra "m",by rw [tko.g];exact hf'⟩
 case done=>
  (intro m₁ news₁ h tk g₁ zq7;(refine eq_7 (zq7) fun hself hF=>?_;(try clear zq7));intro F₁ N₁ htk hg₁)
  rw [List.take_length] at hF
  k_steps
  exact hret _ _ _ news₁ _ (by assumption) (by assumption) (fun b o e q=>(by assumption:g.StaysIn _) b o (kp b o e q)) (eq_20 kp N₁) ⟨rfl,hF⟩ (by assumption) (by assumption)
 all_goals (have l4':@LT.lt Nat _ TI TO:=l4;have l5':@LT.lt Nat _ TO z:=l5;show @Ne Nat _ _;keq_rows)


end
section
section
variable {prog:Program} {w:World} {A:Around} {E:Value→Shared→Prop} {s:Shared} {h:Heap}
theorem eq_1244:True:=by
 k_with "g16"=>have offG:True:=trivial
 k_with "g17"=>have offG:True:=trivial
 k_with "g18"=>have offG:True:=trivial
 k_with "g32"=>have offG:True:=trivial
 k_with "g52"=>have offG:True:=trivial
 k_with "g59"=>have offG:True:=trivial
 k_with "g70"=>have offG:True:=trivial
 k_with "g71"=>have offG:True:=trivial
 k_with "g72"=>skip
 k_with "dl_mem"=>((fail_if_success (k_extra "g72";clear offG));first|(with_reducible first|apply eq_1134|fail)|fail)
 trivial
noncomputable def Q45 (e:Int×Value):Bool:=match e.2 with
 |.int j _=>e.1==j&&hashInt j==j
 |_=>false
noncomputable def Q3n (l:List (Int×Value)):Bool:=l.all Q45
theorem eq_180 {l:List (Int×Value)} (h:Q3n l=true) (e:Int×Value) (he:e∈l):∃ t,e.2= .int e.1 t∧hashInt e.1=e.1:=by
 have h:=List.all_eq_true.mp h e he
 unfold Q45 at h
 split at h
 ·rename_i j u q
  (refine eq_7 (Bool.and_eq_true_iff.mp h) fun a b=>?_)
  rw [eq_of_beq a]
  exact ⟨u,q,eq_of_beq b⟩
 ·cases h
theorem eq_203 {a:Addr} {es:Array (Int×Value)} {ep:Nat} {t:SetTable} (ho:h.get? a=some ⟨.type "set",none,.set es ep t, #[]⟩) (hes:Q3n es.toList=true) (hf:t.fits es.size=true) (hn:es.size<scanBound):
  h.SetOf (intKind prog w) a (fun k=>(es.toList.map (·.1)).contains k) es.size:=by
 refine ⟨_,es,ep,t,ho,⟨rfl,rfl,rfl⟩,rfl,fun e he=>?_,fun k=>?_,hn,hf,rfl⟩
 ·(refine eq_4 (eq_180 hes e he) fun u e1 e2=>?_)
  refine ⟨⟨e.1,?_,e2.symm⟩,?_⟩
  ·rw [e1];exact intKind_is prog w e.1 u
  ·rw [e1];rfl
 ·rw [List.contains_iff_mem,List.mem_map]
  constructor
  ·(intro zq1;(refine eq_4 (zq1) fun e he zq2=>?_;(try clear zq1);subst zq2))
   (refine eq_4 (eq_180 hes e he) fun u e1 _=>?_)
   exact ⟨e,he,by rw [e1];exact intKind_is prog w e.1 u⟩
  ·(intro zq3;(refine eq_4 (zq3) fun e he hk=>?_;(try clear zq3)))
   (refine eq_4 (eq_180 hes e he) fun u e1 _=>?_)
   rw [e1] at hk
   have:e.1=k:=(intKind prog w).inj _ _ _ (intKind_is prog w e.1 u) hk
   exact ⟨e,he,this⟩
noncomputable def inB1 (c:Nat):Bool:=([65024,65025,65026,65027,65028,65029,6150,65030,65031,65032,65033,6155,6156,6157,8203,8204,8205,65034,65035,65036,65037,65038,65039,173,847,8288,65279]:List Int).contains (c:Int)
noncomputable def inC8 (c:Nat):Bool:=([832,833,8234,8235,8236,8237,8206,8207,8238,8298,8299,8300,8301,8302,8303]:List Int).contains (c:Int)
theorem eq_673 {c:Nat} {t:Tok} {Q:Value→Shared→Prop} (X:(Kx w.params).In s.heap) (hq:Q (.bool (inB1 c)) { s with toks:=s.toks+1 }):wpAny (model prog w) A (compareOp .In (.int c t) (.ref 212)) Q E s:=
 wpAny_inSet_of (knd:=intKind prog w) (intKind_is prog w c t) rfl (eq_203 (X 212 _ rfl) (by decide +kernel) (by rfl) (by decide +kernel)) hq
theorem eq_1229 {c:Nat} {t:Tok} {Q:Value→Shared→Prop} (X:(Kx w.params).In s.heap) (hq:Q (.bool (inC8 c)) { s with toks:=s.toks+1 }):wpAny (model prog w) A (compareOp .In (.int c t) (.ref 289)) Q E s:=
 wpAny_inSet_of (knd:=intKind prog w) (intKind_is prog w c t) rfl (eq_203 (X 289 _ rfl) (by decide +kernel) (by rfl) (by decide +kernel)) hq

noncomputable abbrev ent1 (x:Int×Str) (e:DictEntry):Prop:=e.hash=hashInt x.1∧(∃ t,e.key= .int x.1 t)∧∃ t,e.val= .str x.2 t
noncomputable abbrev Q3j:=Fa2 ent1
theorem eq_684 (l:List (Int×Str)):∀ t:Nat,Q3j l (Qw l t):=by
 induction l with
 |nil=>exact fun _=>.nil
 |cons x r ih=>exact fun t=>.cons ⟨rfl,⟨_,rfl⟩,⟨_,rfl⟩⟩ (ih _)
theorem eq_777 (l:List (Int×Str)):∀ t:Nat,Q3j l (Q17 l t):=by
 induction l with
 |nil=>exact fun _=>.nil
 |cons x r ih=>exact fun t=>.cons ⟨rfl,⟨_,rfl⟩,⟨_,rfl⟩⟩ (ih _)
theorem eq_688 {l:List (Int×Str)} {es:List DictEntry} (h:Q3j l es):∀ e∈es,∃ k,(intKind prog w).is k e.key=true∧e.hash=(intKind prog w).hash k:=by
 induction h with
 |nil=>exact fun _ h=>nomatch h
 |cons r _ ih=>
  intro e he
  rcases List.mem_cons.mp he with rfl|he
  ·(refine eq_27 (r) fun h1 zq4 _=>?_;(try clear r);(refine eq_5 (zq4) fun t h2=>?_;(try clear zq4)))
   exact ⟨_,by rw [h2];exact intKind_is prog w _ t,h1⟩
  ·exact ih e he
theorem eq_470 (k:Int) {l:List (Int×Str)} {es:List DictEntry} (h:Q3j l es):
  (match l.lookup k with
   |some x=>∃ t,(es.find? fun e=>(intKind prog w).is k e.key).map (·.val)=some (.str x t)
   |none=>(es.find? fun e=>(intKind prog w).is k e.key).map (·.val)=none):=by
 induction h with
 |nil=>rfl
 |@cons x e r es hx _ ih=>
  (refine eq_27 (hx) fun _ zq5 zq6=>?_;(try clear hx);(refine eq_5 (zq5) fun t h2=>?_;(try clear zq5));(refine eq_5 (zq6) fun u h3=>?_;(try clear zq6)))
  rw [show x=(x.1,x.2) from rfl,List.lookup_cons,List.find?_cons]
  have e1:(intKind prog w).is k e.key=(k==x.1):=by
   rw [h2,KeyKind.is_eq_decide (intKind_is prog w x.1 t)];rfl
  rw [e1]
  cases hk:k==x.1 with
  |true=>exact ⟨u,by rw [Option.map_some,h3]⟩
  |false=>exact ih
theorem eq_282:Q3j Q4 Q36:=by
 have:=(eq_684 (Q4.take (17*38)) 598).app (eq_777 (Q4.drop (17*38)) (598+51*38))
 rwa [List.take_append_drop] at this
noncomputable def Q33 (prog:Program) (w:World) (k:Int):Option Value:=findBy (intKind prog w).is Q36.toArray k
theorem eq_96 (X:(Kx w.params).In s.heap):s.heap.MapOf (intKind prog w) 223 (Q33 prog w):=
 ⟨_,Q36.toArray,650,X 223 Q44 rfl,⟨rfl,rfl,rfl⟩,rfl,fun e he=>eq_688 eq_282 e (List.mem_toArray.mp he),fun _=>rfl⟩
theorem eq_555 (k:Int):match Q4.lookup k with
  |some x=>∃ t,Q33 prog w k=some (.str x t)
  |none=>Q33 prog w k=none:=by
 have:=eq_470 (prog:=prog) (w:=w) k eq_282
 unfold Q33 findBy
 rw [List.find?_toArray]
 exact this
theorem eq_1226 {pl:Sem Bool} {Q:Value×List Value→Shared→Prop} (X:(Kx w.params).In s.heap) (hq:Q (.builtin "dict.get",[.ref 223]) s):
  wpAny (model prog w) A (getMethod (.ref 223) (Str.ofString "get") pl) Q E s:=
 getMethod_builtin (eq_96 (prog:=prog) X).typeIs PySem.F.plainAttrs_dict PySem.F.slot_dict_get PySem.F.type_dict_get (eq_96 (prog:=prog) X).noDict hq
theorem eq_602 {c:Nat} {t:Tok} {Q:Value→Shared→Prop} (X:(Kx w.params).In s.heap)
  (h1:∀ x,Q4.lookup (c:Int)=some x→∀ t',Q (.str x t') { s with toks:=s.toks+1 }) (h2:Q4.lookup (c:Int)=none→Q .none { s with toks:=s.toks+1 }):
  wpAny (model prog w) A (call (.builtin "dict.get") [.ref 223,.int c t]) Q E s:=by
 refine call_meetsIn PySem.F.slot_dict_get (eq_96 (prog:=prog) X).typeIs PySem.F.entry_dict_get (PySem.F.args_dict_get_2 _ _) (meets_dict_get (intKind prog w) 223 (intKind_is prog w c t) rfl) ⟨_,eq_96 X,?_⟩
 have h:=eq_555 (prog:=prog) (w:=w) (c:Int)
 cases hl:Q4.lookup (c:Int) with
 |some x=>
  rw [hl] at h
  (revert h;intro zq7;(refine eq_5 (zq7) fun t' h=>?_;(try clear zq7)))
  show Q ((Q33 prog w c).getD .none) _
  rw [h];exact h1 x hl t'
 |none=>
  rw [hl] at h
  show Q ((Q33 prog w c).getD .none) _
  have h:Q33 prog w c=none:=h
  rw [h];exact h2 hl
end
set_option maxHeartbeats 0
theorem eq_1253:True:=by
 k_with "compareOp In int ref"=>((fail_if_success (k_extra "g72";clear offG));k_here;k_dflt (refine' eq_673 (by first|exact Frag.In.keeps (by k_asm) (Fr.keep (by k_asm))|fail) ?_))
 k_with "compareOp In int ref"=>((fail_if_success (k_extra "g72";clear offG));k_here;k_dflt (refine' eq_1229 (by first|exact Frag.In.keeps (by k_asm) (Fr.keep (by k_asm))|fail) ?_))
 k_with "getMethod ref"=>((fail_if_success (k_extra "g72";clear offG));k_here;k_dflt (refine' eq_1226 (by first|exact Frag.In.keeps (by k_asm) (Fr.keep (by k_asm))|fail) ?_))
 k_with "call builtin:dict.get"=>((fail_if_success (k_extra "g72";clear offG));k_here;k_dflt (refine' eq_602 (by first|exact Frag.In.keeps (by k_asm) (Fr.keep (by k_asm))|fail) ?_ ?_;(intro x9ω hx9ω t9ω);rotate_left;(intro hx9ω)))
 trivial
noncomputable abbrev cd:Str:=Str.ofString "code"
noncomputable def Q3d (c:Nat):Bool:=if (c:Int)<64976 then false else if (c:Int)<65008 then true else [65534,65535].any fun x:Int=>x==Builtin.bitAnd (c:Int) 65535
noncomputable def Q2k (c:Nat):Str:=match Q4.lookup (c:Int) with|some x=>x|none=>Txt.lower (S [c])
theorem eq_1083 {c:Nat} {x:Str} {t:Tok} (h:Q4.lookup (c:Int)=some x):∃ u,Value.str x t= .str (Q2k c) u:=⟨t,by unfold Q2k;rw [h]⟩
theorem eq_559 {c:Nat} {t:Tok} (h:Q4.lookup (c:Int)=none):∃ u,Value.str (Txt.lower (S [c])) t= .str (Q2k c) u:=⟨t,by unfold Q2k;rw [h]⟩
theorem eq_503 {c:Nat} (h:(c:Int)<64976):Value.bool false= .bool (Q3d c):=by unfold Q3d;rw [if_pos h]
theorem eq_722 {c:Nat} (h:¬ (c:Int)<64976) (h2:(c:Int)<65008):Value.bool true= .bool (Q3d c):=by unfold Q3d;rw [if_neg h,if_pos h2]
theorem eq_715 {c:Nat} (h:¬ (c:Int)<64976) (h2:¬ (c:Int)<65008):Value.bool ([65534,65535].any fun x:Int=>x==Builtin.bitAnd (c:Int) 65535)= .bool (Q3d c):=by unfold Q3d;rw [if_neg h,if_neg h2]
theorem eq_1245:True:=by
 k_with "call builtin:str.lower"=>((fail_if_success (k_extra "g72";clear offG));k_here;(try dsimp only);k_dflt (refine SCL.lower (by simp only [eq_9,List.length_singleton];keq_rows) ?_);intro _)
 trivial
theorem eq_958 (w:World) (c:Nat) (t:Tok):Ct w 1 222 [.str (S [c]) t] [] (fun v _=>v= .bool (inB1 c)):=by
 k_extra "w0"
 k_extra "vo"
 k_steps
 k_extra "vb"
theorem eq_1210 (w:World) (c:Nat) (t:Tok):Ct w 1 299 [.str (S [c]) t] [] (fun v _=>v= .bool (inC8 c)):=by
 k_extra "w0"
 k_extra "vo"
 k_steps
 k_extra "vb"
theorem eq_501 (w:World) (c:Nat) (t:Tok):Ct w 1 275 [.str (S [c]) t] [] (fun v _=>v= .bool (Q3d c)):=by
 k_extra "w0"
 k_extra "vo"
 k_steps
 all_goals exact hret _ _ _ _ _ (by assumption) (by assumption) (fun b o e q=>(by assumption:g.StaysIn _) b o (kp b o e q)) (eq_20 kp (by assumption)) ((by first|exact eq_503 (by keq_rows)|exact eq_722 (by keq_rows) (by keq_rows)|exact eq_715 (by keq_rows) (by keq_rows))) (by first|assumption|keq_rows) (by assumption)
theorem eq_878 (w:World) (c:Nat) (t:Tok):Ct w 1 268 [.str (S [c]) t] [] (fun v _=>∃ u,v= .str (Q2k c) u):=by
 k_extra "w0"
 k_extra "vo"
 k_steps
 all_goals exact hret _ _ _ _ _ (by assumption) (by assumption) (fun b o e q=>(by assumption:g.StaysIn _) b o (kp b o e q)) (eq_20 kp (by assumption)) ((by first|exact eq_1083 (by assumption)|exact eq_559 (by assumption))) (by first|assumption|keq_rows) (by assumption)


end
section
theorem eq_1238:True:=by
 k_with "g72"=>have offG:True:=trivial
 k_with "g73"=>skip
 k_with "dl_mem"=>((fail_if_success (k_extra "g73";clear offG));first|(with_reducible first|(apply eq_515<;>assumption)|(apply eq_619<;>assumption)|(apply eq_598<;>assumption)|(apply eq_272<;>assumption)|fail)|fail)
 trivial
noncomputable def Q15 (c:Nat):List Nat:=if Q3d c||inC8 c then [63] else if inB1 c then [] else (Q2k c).cps.toList
theorem eq_175:Str.ofString "?"=S [63]:=by decide +kernel
noncomputable abbrev kp_:Str:=Str.ofString "kept"
theorem eq_781:(Str.ofString "?").length=1:=by rw [eq_175];rfl
theorem eq_593:Q4.all (fun p=>decide (p.2.length≤4))=true:=by decide +kernel
theorem eq_374 {α β:Type} [BEq α] [LawfulBEq α] {k:α} {v:β}:∀ {l:List (α×β)},l.lookup k=some v→(k,v)∈l
 |(k',v')::r,h=>by
  rw [List.lookup_cons] at h
  cases e:k==k' with
  |true=>
   rw [e] at h
   obtain rfl:=Option.some.inj h
   obtain rfl:=eq_of_beq e
   exact .head _
  |false=>rw [e] at h;exact .tail _ (eq_374 h)
 |[],h=>by cases h
theorem eq_422 (c:Nat):(Q2k c).length≤4:=by
 unfold Q2k
 cases h:Q4.lookup (c:Int) with
 |some x=>
  have:=List.all_eq_true.mp eq_593 _ (eq_374 h)
  exact of_decide_eq_true this
 |none=>
  have:=len_lower (S [c])
  rw [eq_9] at this
  simp only [List.length_singleton] at this
  show (Txt.lower (S [c])).length≤4
  keq_rows
theorem eq_1179 (c:Nat):(Q15 c).length≤4:=by
 unfold Q15
 split
 ·simp
 ·split
  ·simp
  ·have:=eq_422 c
   simpa [Str.length] using this
theorem eq_384:∀ l:List Nat,(l.flatMap Q15).length≤4*l.length
 |[]=>by simp
 |c::r=>by
  have:=eq_384 r
  have:=eq_1179 c
  k_extra "v1a"
  keq_rows
theorem eq_353 {l:List Nat} {i c:Nat} (h:l[i]?=some c):(l.take (i+1)).flatMap Q15=(l.take i).flatMap Q15++Q15 c:=by
 k_extra "v1u"
theorem eq_621 {c:Nat} (h:Q3d c=true):Q15 c=(Str.ofString "?").cps.toList:=by unfold Q15;rw [h,eq_175];rfl
theorem eq_561 {c:Nat} (h:Q3d c=false) (h2:inC8 c=true):Q15 c=(Str.ofString "?").cps.toList:=by unfold Q15;rw [h,h2,eq_175];rfl
theorem eq_734 {c:Nat} (h:Q3d c=false) (h2:inC8 c=false) (h3:inB1 c=true):Q15 c=[]:=by unfold Q15;rw [h,h2,h3];rfl
theorem eq_1022 {c:Nat} (h:Q3d c=false) (h2:inC8 c=false) (h3:inB1 c=false):Q15 c=(Q2k c).cps.toList:=by unfold Q15;rw [h,h2,h3];rfl
theorem eq_851 {x z:Str} (h:x≠z) {a b:Option Value} {m:Str→Option Value}:(fun y=>if y=x then a else if y=z then b else m y)=fun y=>if y=z then b else if y=x then a else m y:=by
 funext y
 by_cases h1:y=x
 ·subst h1;rw [if_pos rfl,if_neg h,if_pos rfl]
 ·rw [if_neg h1];by_cases h2:y=z
  ·rw [if_pos h2,if_pos h2]
  ·rw [if_neg h2,if_neg h2,if_neg h1]
noncomputable abbrev Q4f (l:List Nat) (i:Nat) (m:Str→Option Value) (news:List (Addr×Obj)):Prop:=∃ (u:Tok) (m':Str→Option Value),m=(fun y=>if y=kp_ then some (.str (S ((l.take i).flatMap Q15)) u) else m' y)∧news=[]
theorem eq_179 {g:Heap} {L I:Addr} {io:Obj} {s:Shared} {l:List Nat} {i c:Nat} {z:List Nat} {h':Heap} {g':Array GenState} {tk:Nat} {t8:Tok} {m'':Str→Option Value} {Q:Flow→Shared→Prop} (hc:l[i]?=some c) (hz:Q15 c=z)
  (F:Fr g L h' (fun y=>if y=kp_ then some (.str (S ((l.take i).flatMap Q15++z)) t8) else m'' y)) (N:News g L h' [(I,io)]) (ht:1≤tk) (hg:AllBare g'):Qi g L I io s (Q4f l (i+1)) Q .next ⟨h',g',s.drawn,tk,s.os⟩:=
 ⟨h',tk,g',_,[],rfl,F,N,(fun _ h=>nomatch h),ht,hg,t8,m'',by rw [eq_353 hc,hz],rfl⟩
theorem eq_1116 {g:Heap} {L I:Addr} {io:Obj} {s:Shared} {l:List Nat} {i c:Nat} {h':Heap} {g':Array GenState} {tk:Nat} {t8:Tok} {a:Option Value} {m'':Str→Option Value} {Q:Flow→Shared→Prop} (hc:l[i]?=some c) (hz:Q15 c=[])
  (F:Fr g L h' (fun y=>if y=Str.ofString "sign" then a else if y=kp_ then some (.str (S ((l.take i).flatMap Q15)) t8) else m'' y)) (N:News g L h' [(I,io)]) (ht:1≤tk) (hg:AllBare g'):Qi g L I io s (Q4f l (i+1)) Q .next ⟨h',g',s.drawn,tk,s.os⟩:=
 ⟨h',tk,g',_,[],rfl,F,N,(fun _ h=>nomatch h),ht,hg,t8,_,by rw [eq_353 hc,hz,List.append_nil];exact eq_851 (by decide +kernel),rfl⟩
theorem eq_1320:True:=by
 k_with "call ref"=>((fail_if_success (k_extra "g73";clear offG));k_here;k_dflt (refine' eq_61 (eq_958 _ _ _) (by k_asm) (by k_asm) (by k_asm) (by k_asm) (by k_asm) (by first|(first|exact rfl|with_reducible assumption)|fail) (by first|(first|keq_rows|ktr_room)|fail) (by first|(first|keq_rows|ktr_units)|fail) (by first|k_extra "t"|fail) (by first|(try dsimp only);with_reducible assumption|fail) ?_;intro v9ω h9ω t9ω o9ω g9ω F9ω N9ω p9ω ht9ω hg9ω;subst p9ω))
 k_with "call ref"=>((fail_if_success (k_extra "g73";clear offG));k_here;k_dflt (refine' eq_61 (eq_501 _ _ _) (by k_asm) (by k_asm) (by k_asm) (by k_asm) (by k_asm) (by first|(first|exact rfl|with_reducible assumption)|fail) (by first|(first|keq_rows|ktr_room)|fail) (by first|(first|keq_rows|ktr_units)|fail) (by first|k_extra "t"|fail) (by first|(try dsimp only);with_reducible assumption|fail) ?_;intro v9ω h9ω t9ω o9ω g9ω F9ω N9ω p9ω ht9ω hg9ω;subst p9ω))
 k_with "call ref"=>((fail_if_success (k_extra "g73";clear offG));k_here;k_dflt (refine' eq_61 (eq_1210 _ _ _) (by k_asm) (by k_asm) (by k_asm) (by k_asm) (by k_asm) (by first|(first|exact rfl|with_reducible assumption)|fail) (by first|(first|keq_rows|ktr_room)|fail) (by first|(first|keq_rows|ktr_units)|fail) (by first|k_extra "t"|fail) (by first|(try dsimp only);with_reducible assumption|fail) ?_;intro v9ω h9ω t9ω o9ω g9ω F9ω N9ω p9ω ht9ω hg9ω;subst p9ω))
 k_with "call ref"=>((fail_if_success (k_extra "g73";clear offG));k_here;k_dflt (refine' eq_61 (eq_878 _ _ _) (by k_asm) (by k_asm) (by k_asm) (by k_asm) (by k_asm) (by first|(first|exact rfl|with_reducible assumption)|fail) (by first|(first|keq_rows|ktr_room)|fail) (by first|(first|keq_rows|ktr_units)|fail) (by first|k_extra "t"|fail) (by first|(try dsimp only);with_reducible assumption|fail) ?_;intro v9ω h9ω t9ω o9ω g9ω F9ω N9ω p9ω ht9ω hg9ω;(revert p9ω;intro zq1ω;(refine eq_5 (zq1ω) fun u9ω p9ω=>?_;(try clear zq1ω)));subst p9ω))
 trivial
theorem eq_577 {prog:Program} {w:World} {A:Around} {E:Value→Shared→Prop} {s:Shared} {a:List Nat} {y:Str} {t u:Tok} {Q:Value→Shared→Prop} (ht:1≤s.toks) (hsz:(S a).length+y.length≤16777216)
  (h:∀ t' tk,1≤tk→Q (.str (S (a++y.cps.toList)) t') { s with toks:=tk }):wpAny (model prog w) A (inplaceOp .Add (.str (S a) t) (.str y u)) Q E s:=
 wpAny_with_toks ht (iadd_str (fun t' tk hk=>by rw [←eq_55 y,eq_45];exact h t' tk hk) (by rw [sizeLine_eq];exact hsz))
set_option maxHeartbeats 0
theorem eq_1307:True:=by
 k_with "inplaceOp Add str str"=>((fail_if_success (k_extra "g73";clear offG));k_here;k_dflt (refine' eq_577 (by first|k_extra "t"|fail) (by first|ktr_rel|fail) ?_;intro t8ω k8ω hk8ω))
 k_with "ktr_rel"=>((fail_if_success (k_extra "g73";clear offG));first|keq_rows|(simp only [eq_9];keq_rows))
 k_with "exec For"=>((fail_if_success (k_extra "g73";clear offG));k_here;refine halt ?_)
 trivial
theorem eq_923 (w:World) (l:List Nat) (t:Tok) (hl:l.length≤20000):Ct w 2 374 [.str (S l) t] [] (fun v _=>∃ u,v= .str (S (l.flatMap Q15)) u):=by
 k_extra "w0"
 replace F1:Fr g L1 h1 (fun y=>List.lookup y [(Str.ofString "text",.str (S l) t)]):=F1
 k_steps
 unfold Q18
 refine eq_31 ?_
 walk1
 refine eq_215 rfl (by k_asm) (by k_asm) (by assumption) (by assumption) (Q4f l) ?_ ?_ ?_
 ·exact ⟨_,_,rfl,rfl⟩
 ·(intro i c u m₁ news₁ h tk g₁ I io hc zq2;(refine eq_14 (zq2) fun u₁ m' zq3 zq4=>?_;(try clear zq2);subst zq3;subst zq4);intro F₁ N₁ hn₁ hI htk hg₁)
  k_extra "vl"
  have b1:(S ((l.take i).flatMap Q15)).length≤80000:=by
   have:=eq_384 (l.take i)
   rw [List.length_take] at this
   rw [eq_9];keq_rows
  have b2:=eq_422 c
  have b3:=eq_781
  k_steps
  ·exact eq_179 hc (eq_621 (by with_reducible assumption)) (by assumption) (by assumption) (by assumption) (by assumption)
  ·exact eq_179 hc (eq_561 (by with_reducible assumption) (by with_reducible assumption)) (by assumption) (by assumption) (by assumption) (by assumption)
  ·exact eq_1116 hc (eq_734 (by with_reducible assumption) (by with_reducible assumption) (by with_reducible assumption)) (by assumption) (by assumption) (by assumption) (by assumption)
  ·exact eq_179 hc (eq_1022 (by with_reducible assumption) (by with_reducible assumption) (by with_reducible assumption)) (by assumption) (by assumption) (by assumption) (by assumption)
 ·(intro m₁ news₁ h tk g₁ zq5;(refine eq_14 (zq5) fun u₁ m' zq6 zq7=>?_;(try clear zq5);subst zq6;subst zq7);intro F₁ N₁ htk hg₁)
  rw [List.take_length] at F₁
  k_steps
  k_extra "v3"


end
section
theorem eq_1271:True:=by
 k_with "g13"=>have offG:True:=trivial
 k_with "g14"=>have offG:True:=trivial
 k_with "g73"=>have offG:True:=trivial
 k_with "g74"=>skip
 k_with "dl_mem"=>((fail_if_success (k_extra "g74";clear offG));first|(with_reducible first|(apply eq_283<;>assumption)|(apply eq_890<;>assumption)|(apply eq_808<;>assumption)|(apply eq_227<;>assumption)|apply eq_109|(apply eq_351<;>assumption)|(apply eq_466<;>assumption)|(apply eq_311<;>assumption)|(apply eq_143<;>assumption)|(apply eq_1170<;>assumption)|(apply eq_916<;>assumption)|(apply eq_812<;>assumption)|(apply eq_826<;>assumption)|(apply eq_898<;>assumption)|apply eq_47|(apply eq_116<;>assumption)|fail)|(with_reducible apply eq_116;rotate_left;all_goals assumption)|(apply eq_116<;>assumption)|(apply eq_311<;>assumption)|(with_reducible apply eq_143;rotate_left;all_goals assumption)|(apply eq_143<;>assumption)|fail)
 trivial
noncomputable abbrev Qj:=List Nat×List Nat
noncomputable def txc (c:Qj):List Nat:=c.1++c.2
theorem eq_65 (a b:List Qj):Qd (a++b)=Qd a++Qd b:=by simp [Qd]
theorem eq_42 (c:Qj):Qd [c]=txc c:=by simp [Qd,txc]
theorem eq_265 (l:List Qj):∀ i,(∀ j,1≤j→j≤i→Q1j (l.getD j ([],[]))=false)→Qf l i=none
 |0,_=>rfl
 |i+1,h=>by
  rw [Qf,if_neg (by rw [h (i+1) (by keq_rows) (Nat.le_refl _)];decide)]
  exact eq_265 l i fun j h1 h2=>h j h1 (by keq_rows)
theorem eq_382 (l:List Qj) (k:Nat) (hk:1≤k) (hh:Q1j (l.getD k ([],[]))=true):∀ i,k≤i→(∀ j,k<j→j≤i→Q1j (l.getD j ([],[]))=false)→Qf l i=some k
 |0,h,_=>by keq_rows
 |i+1,h,hn=>by
  by_cases e:k=i+1
  ·subst e;rw [Qf,if_pos hh]
  ·rw [Qf,if_neg (by rw [hn (i+1) (by keq_rows) (Nat.le_refl _)];decide)]
   exact eq_382 l k hk hh i (by keq_rows) fun j h1 h2=>hn j h1 (by keq_rows)
structure RB (r b:List Qj):Prop where
 a:b≠[]
 t:∀ c∈b.tail,Q1j c=false
 h:r≠[]→∃ c q,b=c::q∧Q1j c=true
theorem eq_296 {α:Type} (a b:List α) (d:α) (j:Nat) (h:a.length≤j):(a++b).getD j d=b.getD (j-a.length) d:=by
 rw [List.getD_eq_getElem?_getD,List.getElem?_append_right h,List.getD_eq_getElem?_getD]
theorem eq_417 {b:List Qj} (t:∀ c∈b.tail,Q1j c=false) (j:Nat) (hj:1≤j):Q1j (b.getD j ([],[]))=false:=by
 by_cases h:j<b.length
 ·have e:b.getD j ([],[])=b[j]:=by rw [List.getD_eq_getElem?_getD,List.getElem?_eq_getElem h];rfl
  rw [e]
  refine t _ ?_
  cases b with
  |nil=>simp at h
  |cons c q=>
   cases j with
   |zero=>keq_rows
   |succ j=>simp
 ·have e:b.getD j ([],[])=([],[]):=by rw [List.getD_eq_getElem?_getD,List.getElem?_eq_none (by keq_rows)];rfl
  rw [e];rfl
theorem eq_199 (mx:Nat) {r b:List Qj} (x:RB r b):Q1u mx (r++b)=if r≠[]∧mx<Q8 r+Q8 b then some r.length else none:=by
 unfold Q1u
 rw [eq_22]
 have hb:0<b.length:=List.length_pos_iff.mpr x.a
 by_cases hl:Q8 r+Q8 b≤mx
 ·rw [if_pos hl,if_neg (by keq_rows)]
 ·rw [if_neg hl]
  by_cases hr:r=[]
  ·subst hr
   rw [if_neg (by simp)]
   exact eq_265 _ _ fun j h1 _=>eq_417 x.t j h1
  ·rw [if_pos ⟨hr,by keq_rows⟩]
   have hrl:0<r.length:=List.length_pos_iff.mpr hr
   (refine eq_14 (x.h hr) fun c q zq1 hc=>?_;subst zq1)
   refine eq_382 _ r.length hrl ?_ _ ?_ fun j h1 h2=>?_
   ·rw [eq_296 _ _ _ _ (Nat.le_refl _),Nat.sub_self];exact hc
   ·rw [List.length_append];keq_rows
   ·rw [eq_296 _ _ _ _ (by keq_rows)]
    exact eq_417 x.t _ (by keq_rows)
noncomputable abbrev Q47:=List (List Nat)×List Qj×List Qj
noncomputable def Q22 (mx:Nat) (L:List (List Nat)) (r b:List Qj):Q47:=if r≠[]∧mx<Q8 r+Q8 b then (L++[Qd r],[],b) else (L,r,b)
noncomputable def Q46 (st:Q47):List (List Nat)×List Qj:=(st.1,st.2.1++st.2.2)
noncomputable def est (mx:Nat) (st:Q47) (c:Qj):Q47:=if Q1j c=true then Q22 mx st.1 (st.2.1++st.2.2) [c] else Q22 mx st.1 st.2.1 (st.2.2++[c])
theorem RB.norm {mx:Nat} {L:List (List Nat)} {r b:List Qj} (x:RB r b):RB (Q22 mx L r b).2.1 (Q22 mx L r b).2.2:=by
 unfold Q22
 split
 ·exact ⟨x.a,x.t,fun h=>absurd rfl h⟩
 ·exact x
theorem eq_416 {mx:Nat} {L:List (List Nat)} {r b l:List Qj} (x:RB r b) (e:l=r++b):(match Q1u mx l with|none=>(L,l)|some i=>(L++[Qd (l.take i)],l.drop i))=Q46 (Q22 mx L r b):=by
 subst e
 rw [eq_199 mx x]
 unfold Q22 Q46
 by_cases h:r≠[]∧mx<Q8 r+Q8 b
 ·rw [if_pos h,if_pos h]
  simp
 ·rw [if_neg h,if_neg h]
theorem eq_579 (mx:Nat) {st:Q47} (x:RB st.2.1 st.2.2) (c:Qj):RB (est mx st c).2.1 (est mx st c).2.2∧Q16 mx (Q46 st) c=Q46 (est mx st c):=by
 unfold est
 by_cases hc:Q1j c=true
 ·rw [if_pos hc]
  have y:RB (st.2.1++st.2.2) [c]:=⟨by simp,fun d hd=>(by cases hd),fun _=>⟨c,[],rfl,hc⟩⟩
  refine ⟨y.norm,?_⟩
  unfold Q16
  exact eq_416 y rfl
 ·rw [if_neg hc]
  have hc':Q1j c=false:=by simpa using hc
  have y:RB st.2.1 (st.2.2++[c]):=by
   refine ⟨by simp,fun d hd=>?_,fun h=>?_⟩
   ·(refine eq_29 (List.exists_cons_of_ne_nil x.a) fun e q eq=>?_)
    rw [eq] at hd
    have hd':d∈q++[c]:=hd
    rcases List.mem_append.mp hd' with h|h
    ·exact x.t d (by rw [eq];exact h)
    ·rw [List.mem_singleton.mp h];exact hc'
   ·(refine eq_14 (x.h h) fun e q eq he=>?_)
    exact ⟨e,q++[c],by rw [eq];rfl,he⟩
  refine ⟨y.norm,?_⟩
  unfold Q16
  exact eq_416 y (by unfold Q46;rw [List.append_assoc])
theorem eq_320 (mx:Nat):∀ (ps:List Qj) (st:Q47),RB st.2.1 st.2.2→ps.foldl (Q16 mx) (Q46 st)=Q46 (ps.foldl (est mx) st)
 |[],_,_=>rfl
 |c::ps,st,x=>by
  have h:=eq_579 mx x c
  rw [List.foldl_cons,List.foldl_cons,h.2]
  exact eq_320 mx ps _ h.1
theorem eq_993 (mx:Nat) (c:Qj) (ps:List Qj):Ql mx (c::ps)=Q46 (ps.foldl (est mx) ([],[],[c])):=by
 rw [←eq_320 mx ps _ ⟨by simp,fun d hd=>(by cases hd),fun h=>absurd rfl h⟩]
 unfold Ql
 rw [List.foldl_cons]
 congr 1
 have e:Q1u mx ([]++[c])=none:=by
  rw [eq_199 mx (r:=[]) (b:=[c]) ⟨by simp,fun d hd=>(by cases hd),fun h=>absurd rfl h⟩,if_neg (by simp)]
 show (match Q1u mx ([]++[c]) with|none=>_|some i=>_)=_
 rw [e]
 rfl
noncomputable def Q1w (mx:Nat) (st:List (List Nat)×List Nat) (b:List Nat):List (List Nat)×List Nat:=if st.2≠[]∧mx<st.2.length+b.length then (st.1++[st.2],b) else (st.1,st.2++b)
noncomputable def Q1l (mx:Nat) (g:List (List Nat)×List Nat) (b:List Nat):List (List Nat)×List Nat×List Nat:=if g.2≠[]∧mx<g.2.length+b.length then (g.1++[g.2],[],b) else (g.1,g.2,b)
noncomputable def bst (st:List (List Nat)×List Nat) (c:Qj):List (List Nat)×List Nat:=if Q1j c=true then (st.1++[st.2],txc c) else (st.1,st.2++txc c)
noncomputable def Q3q (st:Q47):List (List Nat)×List Nat×List Nat:=(st.1,Qd st.2.1,Qd st.2.2)
noncomputable def Q29 (l:List Qj):Prop:=∀ c∈l,txc c≠[]
theorem eq_686 {l:List Qj} (h:Q29 l):Qd l=[]↔l=[]:=by
 cases l with
 |nil=>simp [Qd]
 |cons c q=>
  have:=h c (List.mem_cons_self ..)
  have e:Qd (c::q)=txc c++Qd q:=rfl
  rw [e]
  simp [this]
theorem eq_206 (mx:Nat) (L:List (List Nat)) {r b:List Qj} (h:Q29 r):Q3q (Q22 mx L r b)=Q1l mx (L,Qd r) (Qd b):=by
 unfold Q22 Q1l Q3q
 rw [←eq_83, ←eq_83]
 dsimp only
 have e:=eq_686 h
 by_cases c:r≠[]∧mx<(Qd r).length+(Qd b).length
 ·rw [if_pos c,if_pos ⟨fun x=>c.1 (e.mp x),c.2⟩];rfl
 ·rw [if_neg c,if_neg fun x=>c ⟨fun y=>x.1 (e.mpr y),x.2⟩]
theorem Q29.norm {mx:Nat} {L:List (List Nat)} {r b:List Qj} (h1:Q29 r) (h2:Q29 b):Q29 (Q22 mx L r b).2.1∧Q29 (Q22 mx L r b).2.2:=by
 unfold Q22
 split
 ·exact ⟨fun c hc=>(by cases hc),h2⟩
 ·exact ⟨h1,h2⟩
theorem Q29.app {a b:List Qj} (h1:Q29 a) (h2:Q29 b):Q29 (a++b):=fun c hc=>(List.mem_append.mp hc).elim (h1 c) (h2 c)
theorem Q29.one {c:Qj} (h:txc c≠[]):Q29 [c]:=fun d hd=>by rw [List.mem_singleton.mp hd];exact h
theorem eq_1035 (mx:Nat) (g:List (List Nat)×List Nat) (b x:List Nat):Q1l mx ((Q1l mx g b).1,(Q1l mx g b).2.1) ((Q1l mx g b).2.2++x)=Q1l mx g (b++x):=by
 unfold Q1l
 by_cases c:g.2≠[]∧mx<g.2.length+b.length
 ·rw [if_pos c]
  dsimp only
  rw [if_neg (by simp),if_pos ⟨c.1,by rw [List.length_append];keq_rows⟩]
 ·rw [if_neg c]
theorem eq_276 (mx:Nat) (g:List (List Nat)×List Nat) (b:List Nat):((Q1l mx g b).1,(Q1l mx g b).2.1++(Q1l mx g b).2.2)=Q1w mx g b:=by
 unfold Q1l Q1w
 split
 ·rfl
 ·rfl
theorem eq_140 (mx:Nat):∀ (ps:List Qj) (st:Q47) (bs:List (List Nat)) (bt:List Nat),Q29 ps→Q29 st.2.1→Q29 st.2.2→Q3q st=Q1l mx (bs.foldl (Q1w mx) ([],[])) bt→
  Q3q (ps.foldl (est mx) st)=Q1l mx ((ps.foldl bst (bs,bt)).1.foldl (Q1w mx) ([],[])) (ps.foldl bst (bs,bt)).2
 |[],st,bs,bt,_,_,_,h=>h
 |c::ps,st,bs,bt,hp,h1,h2,h=>by
  rw [List.foldl_cons,List.foldl_cons]
  have hc:=hp c (List.mem_cons_self ..)
  have hps:Q29 ps:=fun d hd=>hp d (List.mem_cons_of_mem _ hd)
  have e1:st.1=(Q1l mx (bs.foldl (Q1w mx) ([],[])) bt).1:=congrArg (·.1) h
  have e2:Qd st.2.1=(Q1l mx (bs.foldl (Q1w mx) ([],[])) bt).2.1:=congrArg (·.2.1) h
  have e3:Qd st.2.2=(Q1l mx (bs.foldl (Q1w mx) ([],[])) bt).2.2:=congrArg (·.2.2) h
  by_cases hh:Q1j c=true
  ·have ee:est mx st c=Q22 mx st.1 (st.2.1++st.2.2) [c]:=if_pos hh
   have eb:bst (bs,bt) c=(bs++[bt],txc c):=if_pos hh
   have n:=Q29.norm (mx:=mx) (L:=st.1) (h1.app h2) (Q29.one hc)
   rw [ee,eb]
   refine eq_140 mx ps _ _ _ hps n.1 n.2 ?_
   rw [eq_206 mx _ (h1.app h2),eq_65,eq_42,e1,e2,e3,eq_276,List.foldl_append]
   rfl
  ·have ee:est mx st c=Q22 mx st.1 st.2.1 (st.2.2++[c]):=if_neg hh
   have eb:bst (bs,bt) c=(bs,bt++txc c):=if_neg hh
   have n:=Q29.norm (mx:=mx) (L:=st.1) h1 (h2.app (Q29.one hc))
   rw [ee,eb]
   refine eq_140 mx ps _ _ _ hps n.1 n.2 ?_
   rw [eq_206 mx _ h1,eq_65,eq_42,e1,e2,e3,eq_1035]
theorem eq_671 (mx:Nat) (c:Qj) (ps:List Qj) (h:Q29 (c::ps)) (hc:Q1j c=false):
  ((Ql mx (c::ps)).1,Qd (Ql mx (c::ps)).2)=(((c::ps).foldl bst ([],[])).1++[((c::ps).foldl bst ([],[])).2]).foldl (Q1w mx) ([],[]):=by
 have e:=eq_140 mx ps ([],[],[c]) [] (txc c) (fun d hd=>h d (List.mem_cons_of_mem _ hd)) (fun d hd=>by cases hd) (Q29.one (h c (List.mem_cons_self ..))) (by unfold Q3q Q1l;rw [if_neg (by simp),eq_42];rfl)
 have eb:(c::ps).foldl bst ([],[])=ps.foldl bst ([],txc c):=by
  rw [List.foldl_cons]
  congr 1
  unfold bst
  rw [if_neg (by rw [hc];decide)]
  rfl
 rw [eq_993,eb,List.foldl_append]
 generalize ps.foldl (est mx) ([],[],[c])=st at e
 generalize ps.foldl bst ([],txc c)=bb at e
 show (st.1,Qd (st.2.1++st.2.2))=Q1w mx _ _
 rw [←eq_276, ←e,eq_65]
 rfl
noncomputable def Q2h (st:List (List Nat)×List Nat×Nat) (ch:Nat):List (List Nat)×List Nat×Nat:=if ch=32∧Q5 st.2.2=false then (st.1++[st.2.1],[ch],ch) else (st.1,st.2.1++[ch],ch)
noncomputable def Q1r (d:Nat) (x:List Nat):Nat:=x.getLast?.getD d
theorem eq_134 (d c:Nat) (x:List Nat):Q1r d (c::x)=Q1r c x:=by
 unfold Q1r
 rw [List.getLast?_cons]
 rfl
theorem eq_49:∀ (x:List Nat) (bs:List (List Nat)) (b:List Nat) (last:Nat),(∀ c∈x,c≠32)→x.foldl Q2h (bs,b,last)=(bs,b++x,Q1r last x)
 |[],bs,b,last,_=>by simp [Q1r]
 |c::x,bs,b,last,h=>by
  have e:Q2h (bs,b,last) c=(bs,b++[c],c):=if_neg fun q=>h c (List.mem_cons_self ..) q.1
  rw [List.foldl_cons,e,eq_49 x _ _ _ fun d hd=>h d (List.mem_cons_of_mem _ hd),eq_134,List.append_assoc]
  rfl
theorem eq_163:∀ (x:List Nat) (bs:List (List Nat)) (b:List Nat) (last:Nat),Q5 last=true→(∀ c∈x,Q5 c=true)→x.foldl Q2h (bs,b,last)=(bs,b++x,Q1r last x)
 |[],bs,b,last,_,_=>by simp [Q1r]
 |c::x,bs,b,last,hl,h=>by
  have e:Q2h (bs,b,last) c=(bs,b++[c],c):=if_neg fun q=>by rw [hl] at q;exact absurd q.2 (by decide)
  rw [List.foldl_cons,e,eq_163 x _ _ _ (h c (List.mem_cons_self ..)) fun d hd=>h d (List.mem_cons_of_mem _ hd),eq_134,List.append_assoc]
  rfl
theorem eq_259:Q5 32=true:=rfl
theorem eq_169 (a p:List Nat) (bs:List (List Nat)) (b:List Nat) (last:Nat) (ha:∀ c∈a,Q5 c=true) (hp:∀ c∈p,Q5 c=false) (hl:a≠[]→Q5 last=false):
  (a++p).foldl Q2h (bs,b,last)=((bst (bs,b) (a,p)).1,(bst (bs,b) (a,p)).2,Q1r last (a++p)):=by
 have hp32:∀ c∈p,c≠32:=fun c hc e=>by have:=hp c hc;rw [e,eq_259] at this;cases this
 cases a with
 |nil=>
  rw [List.nil_append,eq_49 p _ _ _ hp32]
  rfl
 |cons d q=>
  have hd:=ha d (List.mem_cons_self ..)
  have hq:∀ c∈q,Q5 c=true:=fun c hc=>ha c (List.mem_cons_of_mem _ hc)
  have hl2:Q5 last=false:=hl (by simp)
  clear hl
  rw [List.foldl_append,List.foldl_cons]
  by_cases h32:d=32
  ·subst h32
   have e:Q2h (bs,b,last) 32=(bs++[b],[32],32):=if_pos ⟨rfl,hl2⟩
   have eb:bst (bs,b) (32::q,p)=(bs++[b],txc (32::q,p)):=if_pos rfl
   rw [e,eq_163 q _ _ _ rfl hq,eq_49 p _ _ _ hp32,eb]
   simp only [txc,Q1r]
   simp
   cases p<;>cases q<;>simp [List.getLast?_cons,List.getLast?_append]
  ·have e:Q2h (bs,b,last) d=(bs,b++[d],d):=if_neg fun x=>h32 x.1
   have eb:bst (bs,b) (d::q,p)=(bs,b++txc (d::q,p)):=if_neg (by simp [Q1j,h32])
   rw [e,eq_163 q _ _ _ hd hq,eq_49 p _ _ _ hp32,eb]
   simp only [txc,Q1r]
   simp
   cases p<;>cases q<;>simp [List.getLast?_cons,List.getLast?_append]
theorem eq_72 (k:Nat) (x:List Nat):Q3 (k+1) x=match x.dropWhile (fun c=>!Q5 c) with
   |[]=>[x]
   |c::r=>x.takeWhile (fun c=>!Q5 c)::(c::r).takeWhile Q5::Q3 k ((c::r).dropWhile Q5):=rfl
theorem eq_481 {d:Nat} {x:List Nat} (h:x≠[]):Q1r d x∈x:=by
 unfold Q1r
 rw [List.getLast?_eq_some_getLast h]
 exact List.getLast_mem h
theorem eq_465 {d:Nat} {a x:List Nat} (h:x≠[]):Q1r d (a++x)=Q1r d x:=by
 unfold Q1r
 rw [List.getLast?_append,List.getLast?_eq_some_getLast h]
 rfl
theorem eq_324:∀ (k:Nat) (a x:List Nat) (bs:List (List Nat)) (b:List Nat) (last:Nat),x.length≤k→(∀ c∈a,Q5 c=true)→(a≠[]→Q5 last=false)→(∀ c,x.head?=some c→Q5 c=false)→
  ∃ last',(a++x).foldl Q2h (bs,b,last)=(((Qm (a::Q3 k x)).foldl bst (bs,b)).1,((Qm (a::Q3 k x)).foldl bst (bs,b)).2,last')
 |0,a,x,bs,b,last,hk,ha,hl,hx=>by
  have e:x=[]:=List.length_eq_zero_iff.mp (Nat.le_zero.mp hk)
  subst e
  exact ⟨_,eq_169 a [] bs b last ha (fun c hc=>by cases hc) hl⟩
 |k+1,a,x,bs,b,last,hk,ha,hl,hx=>by
  rw [eq_72]
  have hp:∀ c∈x.takeWhile (fun c=>!Q5 c),Q5 c=false:=fun c hc=>by have:=eq_54 hc;simpa using this
  have hx0:=List.takeWhile_append_dropWhile (p:=fun c=>!Q5 c) (l:=x)
  cases hd:x.dropWhile (fun c=>!Q5 c) with
  |nil=>
   rw [hd,List.append_nil] at hx0
   have:=eq_169 a x bs b last ha (by rw [←hx0];exact hp) hl
   exact ⟨_,this⟩
  |cons d r=>
   dsimp only
   rw [hd] at hx0
   have hdw:Q5 d=true:=by
    have:=List.head?_dropWhile_not (p:=fun c=>!Q5 c) (l:=x)
    rw [hd] at this
    simpa using this
   have hxne:x≠[]:=by rintro rfl;simp at hd
   have hpne:x.takeWhile (fun c=>!Q5 c)≠[]:=by
    cases x with
    |nil=>exact absurd rfl hxne
    |cons y q=>
     have:=hx y rfl
     rw [List.takeWhile_cons,if_pos (by rw [this];rfl)]
     simp
   have h1:=eq_169 a (x.takeWhile (fun c=>!Q5 c)) bs b last ha hp hl
   have hr0:=List.takeWhile_append_dropWhile (p:=Q5) (l:=d::r)
   have h3:0<((d::r).takeWhile Q5).length:=by rw [List.takeWhile_cons,if_pos hdw];simp
   have hlen:((d::r).dropWhile Q5).length≤k:=by
    have e1:=congrArg List.length hr0
    have e2:=congrArg List.length hx0
    have:=List.length_pos_iff.mpr hpne
    rw [List.length_append] at e1 e2
    keq_rows
   have hlast:Q5 (Q1r last (a++x.takeWhile (fun c=>!Q5 c)))=false:=by
    rw [eq_465 hpne]
    exact hp _ (eq_481 hpne)
   obtain ⟨last',h2⟩:=eq_324 k ((d::r).takeWhile Q5) ((d::r).dropWhile Q5) (bst (bs,b) (a,x.takeWhile (fun c=>!Q5 c))).1 (bst (bs,b) (a,x.takeWhile (fun c=>!Q5 c))).2 _ hlen (fun c hc=>eq_54 hc) (fun _=>hlast) (fun c hc=>by
    have:=List.head?_dropWhile_not (p:=Q5) (l:=d::r)
    rw [hc] at this
    simpa using this)
   refine ⟨last',?_⟩
   rw [hr0] at h2
   have hx1:a++x=(a++x.takeWhile (fun c=>!Q5 c))++(d::r):=by rw [List.append_assoc,hx0]
   rw [hx1,List.foldl_append,h1,h2]
   rfl
theorem eq_329:∀ (k:Nat) (a x:List Nat),x.length≤k→a++x≠[]→(∀ c,x.head?=some c→Q5 c=false)→Q29 (Qm (a::Q3 k x))
 |0,a,x,hk,hne,hx=>by
  have e:x=[]:=List.length_eq_zero_iff.mp (Nat.le_zero.mp hk)
  subst e
  exact Q29.one (show txc (a,[])≠[] from hne)
 |k+1,a,x,hk,hne,hx=>by
  rw [eq_72]
  have hx0:=List.takeWhile_append_dropWhile (p:=fun c=>!Q5 c) (l:=x)
  cases hd:x.dropWhile (fun c=>!Q5 c) with
  |nil=>exact Q29.one (show txc (a,x)≠[] from hne)
  |cons d r=>
   dsimp only
   rw [hd] at hx0
   have hdw:Q5 d=true:=by
    have:=List.head?_dropWhile_not (p:=fun c=>!Q5 c) (l:=x)
    rw [hd] at this
    simpa using this
   have hpne:x.takeWhile (fun c=>!Q5 c)≠[]:=by
    cases x with
    |nil=>simp at hd
    |cons y q=>
     have:=hx y rfl
     rw [List.takeWhile_cons,if_pos (by rw [this];rfl)]
     simp
   have hr0:=List.takeWhile_append_dropWhile (p:=Q5) (l:=d::r)
   have h3:0<((d::r).takeWhile Q5).length:=by rw [List.takeWhile_cons,if_pos hdw];simp
   have hlen:((d::r).dropWhile Q5).length≤k:=by
    have e1:=congrArg List.length hr0
    have e2:=congrArg List.length hx0
    have:=List.length_pos_iff.mpr hpne
    rw [List.length_append] at e1 e2
    keq_rows
   have ih:=eq_329 k ((d::r).takeWhile Q5) ((d::r).dropWhile Q5) hlen (by rw [hr0];simp) (fun c hc=>by
    have:=List.head?_dropWhile_not (p:=Q5) (l:=d::r)
    rw [hc] at this
    simpa using this)
   intro c hc
   k_extra "vh"
   ·unfold txc
    simp [hpne]
   ·exact ih c hc
noncomputable def Q3v (l:List Nat):List (List Nat)×List Nat×Nat:=l.foldl Q2h ([],[],32)
noncomputable def Q1e (l:List Nat):List (List Nat):=(Q3v l).1++[(Q3v l).2.1]
theorem eq_946 (mx:Nat) (l:List Nat) (h:∃ x q,l=x::q∧Q5 x=false):
  ((Ql mx (Qm ([]::Q3 (l.length+1) l))).1,Qd (Ql mx (Qm ([]::Q3 (l.length+1) l))).2)=(Q1e l).foldl (Q1w mx) ([],[]):=by
 (refine eq_14 (h) fun x q e hx=>?_;(try clear h))
 have hhd:∀ c,l.head?=some c→Q5 c=false:=fun c hc=>by
  rw [e] at hc
  rw [←Option.some.inj hc]
  exact hx
 obtain ⟨last',h1⟩:=eq_324 (l.length+1) [] l [] [] 32 (by keq_rows) (fun c hc=>by cases hc) (fun h=>absurd rfl h) hhd
 have h2:=eq_329 (l.length+1) [] l (by keq_rows) (by rw [e];simp) hhd
 rw [List.nil_append] at h1
 unfold Q1e Q3v
 rw [h1]
 dsimp only
 have hps:∃ c ps,Qm ([]::Q3 (l.length+1) l)=c::ps∧Q1j c=false:=by
  rw [eq_72]
  cases hd:l.dropWhile (fun c=>!Q5 c) with
  |nil=>exact ⟨_,_,rfl,rfl⟩
  |cons d r=>exact ⟨_,_,rfl,rfl⟩
 (refine eq_14 (hps) fun c ps ep hc=>?_;(try clear hps))
 rw [ep] at h2 ⊢
 exact eq_671 mx c ps h2 hc


end
section
theorem eq_1326:True:=by
 k_with "g74"=>have offG:True:=trivial
 k_with "g75"=>skip
 k_with "dl_mem"=>((fail_if_success (k_extra "g75";clear offG));first|(with_reducible first|apply eq_1215|(apply eq_1186<;>assumption)|apply eq_345|apply eq_214|(apply eq_348<;>assumption)|fail)|fail)
 trivial
theorem eq_77 (a:List Nat) {l:List (List Nat)} (h:l≠[]):Qx (a::l)=a++10::Qx l:=by
 cases l with
 |nil=>exact absurd rfl h
 |cons b r=>rfl
theorem eq_431 (row b:List Nat):∀ L:List (List Nat),Qx (L++[row++b])=Qx (L++[row])++b
 |[]=>rfl
 |a::L=>by
  rw [List.cons_append,List.cons_append,eq_77 a (by simp),eq_77 a (by simp),eq_431 row b L]
  simp
theorem eq_261 (row b:List Nat):∀ L:List (List Nat),Qx (L++[row]++[b])=Qx (L++[row])++10::b
 |[]=>rfl
 |a::L=>by
  rw [List.cons_append,List.cons_append,eq_77 a (by simp),eq_77 a (by simp),eq_261 row b L]
  simp
noncomputable def bT (eq_2:List Int) (turn:Nat) (b:List Tri):List Nat:=(Q6 b).flatMap (Q0 eq_2 turn)
theorem eq_442 (eq_2:List Int) (turn:Nat) (b:List Tri) (t:Tri):bT eq_2 turn (b++[t])=bT eq_2 turn b++Q0 eq_2 turn (t.1,t.2.1):=by simp [bT,Q6]
theorem eq_554 (eq_2:List Int) (turn:Nat) (t:Tri):bT eq_2 turn [t]=Q0 eq_2 turn (t.1,t.2.1):=by simp [bT,Q6]
theorem eq_257 {x:List Nat} {last:Nat}:Q14 x last=true↔x.head?=some 32∧Q5 last=false:=by
 unfold Q14 Q5
 simp [Bool.and_eq_true]
theorem eq_477 (x:List Nat) (bs:List (List Nat)) (b:List Nat) (last:Nat) (h:∀ c∈x.tail,Q5 c=false):
  x.foldl Q2h (bs,b,last)=if Q14 x last=true then (bs++[b],x,lastOf last x) else (bs,b++x,lastOf last x):=by
 cases x with
 |nil=>simp [Q14,lastOf]
 |cons d q=>
  have hq:∀ c∈q,c≠32:=fun c hc e=>by have:=h c hc;rw [e,eq_259] at this;cases this
  rw [List.foldl_cons]
  have hl:lastOf last (d::q)=Q1r d q:=eq_134 last d q
  by_cases hb:Q14 (d::q) last=true
  ·have z:=eq_257.mp hb
   have hd:d=32:=by have:=z.1;simpa using this
   have e:Q2h (bs,b,last) d=(bs++[b],[d],d):=if_pos ⟨hd,z.2⟩
   rw [if_pos hb,e,eq_49 q _ _ _ hq,hl]
   rfl
  ·have e:Q2h (bs,b,last) d=(bs,b++[d],d):=if_neg fun z=>hb (eq_257.mpr ⟨by rw [z.1];rfl,z.2⟩)
   rw [if_neg hb,e,eq_49 q _ _ _ hq,hl,List.append_assoc]
   rfl
theorem eq_378 (eq_2:List Int) (turn:Nat):∀ (cs:List (Nat×Nat)) (st:List (List Tri)×List Tri×Nat),(∀ c∈cs,∀ x∈(Q0 eq_2 turn c).tail,Q5 x=false)→
  (cs.flatMap (Q0 eq_2 turn)).foldl Q2h (st.1.map (bT eq_2 turn),bT eq_2 turn st.2.1,st.2.2)=((cs.foldl (Qb eq_2 turn) st).1.map (bT eq_2 turn),bT eq_2 turn (cs.foldl (Qb eq_2 turn) st).2.1,(cs.foldl (Qb eq_2 turn) st).2.2)
 |[],st,_=>rfl
 |c::cs,st,h=>by
  have ih:=eq_378 eq_2 turn cs (Qb eq_2 turn st c) fun d hd=>h d (List.mem_cons_of_mem _ hd)
  rw [List.foldl_cons, ←ih,List.flatMap_cons,List.foldl_append,eq_477 _ _ _ _ (h c (List.mem_cons_self ..))]
  congr 1
  unfold Qb
  dsimp only
  by_cases hb:Q14 (Q0 eq_2 turn c) st.2.2=true
  ·rw [if_pos hb,if_pos hb]
   simp only [List.map_append,List.map_cons,List.map_nil]
   rw [eq_554]
  ·rw [if_neg hb,if_neg hb,eq_442]
noncomputable def Q2u (eq_2:List Int) (turn:Nat) (cs:List (Nat×Nat)) (t:Tri):Prop:=t.2.2=(Q0 eq_2 turn (t.1,t.2.1)).length∧(t.1,t.2.1)∈cs
theorem eq_309 (eq_2:List Int) (turn:Nat) (al:List (Nat×Nat)):∀ (cs:List (Nat×Nat)) (st:List (List Tri)×List Tri×Nat),(∀ c∈cs,c∈al)→(∀ b∈st.1,∀ t∈b,Q2u eq_2 turn al t)→(∀ t∈st.2.1,Q2u eq_2 turn al t)→
  (∀ b∈(cs.foldl (Qb eq_2 turn) st).1,∀ t∈b,Q2u eq_2 turn al t)∧(∀ t∈(cs.foldl (Qb eq_2 turn) st).2.1,Q2u eq_2 turn al t)
 |[],st,_,h1,h2=>⟨h1,h2⟩
 |c::cs,st,h,h1,h2=>by
  have hc:Q2u eq_2 turn al (c.1,c.2,(Q0 eq_2 turn c).length):=⟨rfl,h c (List.mem_cons_self ..)⟩
  rw [List.foldl_cons]
  refine eq_309 eq_2 turn al cs _ (fun d hd=>h d (List.mem_cons_of_mem _ hd)) ?_ ?_
  ·unfold Qb
   dsimp only
   split
   ·intro b hb
    k_extra "vv"
    ·exact h1 b hb
    ·rw [List.mem_singleton.mp hb];exact h2
   ·exact h1
  ·unfold Qb
   dsimp only
   split
   ·intro t ht
    rw [List.mem_singleton.mp ht];exact hc
   ·intro t ht
    rcases List.mem_append.mp ht with ht|ht
    ·exact h2 t ht
    ·rw [List.mem_singleton.mp ht];exact hc
theorem eq_427 {eq_2:List Int} {turn:Nat} {al:List (Nat×Nat)}:∀ {b:List Tri},(∀ t∈b,Q2u eq_2 turn al t)→Qs b=(bT eq_2 turn b).length
 |[],_=>rfl
 |t::b,h=>by
  have ih:=eq_427 (b:=b) fun u hu=>h u (List.mem_cons_of_mem _ hu)
  have e1:Qs (t::b)=t.2.2+Qs b:=by simp [Qs]
  have e2:bT eq_2 turn (t::b)=Q0 eq_2 turn (t.1,t.2.1)++bT eq_2 turn b:=rfl
  rw [e1,e2,List.length_append,ih,(h t (List.mem_cons_self ..)).1]
theorem eq_496 {eq_2:List Int} {turn:Nat} {al:List (Nat×Nat)} {b:List Tri} (h:∀ t∈b,Q2u eq_2 turn al t):∀ c∈Q6 b,c∈al:=fun c hc=>by
 (refine eq_4 (List.mem_map.mp hc) fun t ht zq1=>?_;subst zq1)
 exact (h t ht).2
theorem eq_1090 (eq_2:List Int) (turn:Nat):Q0 eq_2 (turn+1) (10,turn+1)=[10]:=by
 have:min (turn+1) eq_2.length-(turn+1)=0:=by keq_rows
 unfold Q0
 dsimp only
 rw [this,List.take_zero]
 rfl
structure LayR (eq_2:List Int) (turn:Nat) (st:List (Nat×Nat)×Nat) (g:List (List Nat)×List Nat):Prop where
 a:st.1.flatMap (Q0 eq_2 (turn+1))=Qx (g.1++[g.2])
 b:st.2=g.2.length
 c:st.1=[]↔g.2=[]
theorem eq_399 (eq_2:List Int) (turn width:Nat):∀ (bs:List (List Tri)) (st:List (Nat×Nat)×Nat) (g:List (List Nat)×List Nat),(∀ b∈bs,Qs b=(bT eq_2 turn b).length∧bT eq_2 turn b≠[]∧∀ c∈Q6 b,Q0 eq_2 (turn+1) c=Q0 eq_2 turn c)→LayR eq_2 turn st g→
  LayR eq_2 turn (bs.foldl (Qe turn width) st) ((bs.map (bT eq_2 turn)).foldl (Q1w width) g)
 |[],st,g,_,h=>h
 |b::bs,st,g,hb,⟨a,b2,c⟩=>by
  rw [List.foldl_cons,List.map_cons,List.foldl_cons]
  refine eq_399 eq_2 turn width bs _ _ (fun d hd=>hb d (List.mem_cons_of_mem _ hd)) ?_
  (refine eq_27 (hb b (List.mem_cons_self ..)) fun h1 h2 h3=>?_)
  have h4:(Q6 b).flatMap (Q0 eq_2 (turn+1))=bT eq_2 turn b:=by
   unfold bT
   rw [List.flatMap_def,List.flatMap_def,List.map_congr_left h3]
  have hne:Q6 b≠[]:=fun e=>h2 (by unfold bT;rw [e];rfl)
  unfold Qe Q1w
  by_cases hc:st.1≠[]∧width<st.2+Qs b
  ·rw [if_pos hc,if_pos ⟨fun e=>hc.1 (c.mpr e),by rw [←b2, ←h1];exact hc.2⟩]
   refine ⟨?_,h1,by simp [h2]⟩
   dsimp only
   rw [eq_261, ←a]
   simp only [List.flatMap_append,List.flatMap_cons,List.flatMap_nil,List.append_nil,eq_1090,h4]
   simp
  ·rw [if_neg hc,if_neg fun e=>hc ⟨fun x=>e.1 (c.mp x),by rw [b2,h1];exact e.2⟩]
   refine ⟨?_,?_,by simp [h2,hne]⟩
   ·dsimp only
    rw [eq_431, ←a,List.flatMap_append,h4]
   ·dsimp only
    rw [List.length_append,b2,h1]
theorem eq_307:∀ (l:List Nat) (st:List (List Nat)×List Nat×Nat),(∀ b∈st.1,b≠[])→(st.2.1≠[]∨st.2.2=32)→(∀ b∈(l.foldl Q2h st).1,b≠[])∧((l.foldl Q2h st).2.1≠[]∨((l.foldl Q2h st).2.1=st.2.1∧l=[]))
 |[],st,h1,h2=>⟨h1,.inr ⟨rfl,rfl⟩⟩
 |c::l,st,h1,h2=>by
  rw [List.foldl_cons]
  have h3:(∀ b∈(Q2h st c).1,b≠[])∧(Q2h st c).2.1≠[]:=by
   unfold Q2h
   by_cases hc:c=32∧Q5 st.2.2=false
   ·rw [if_pos hc]
    refine ⟨fun b hb=>?_,by simp⟩
    k_extra "vv"
    ·exact h1 b hb
    ·rw [List.mem_singleton.mp hb]
     rcases h2 with h|h
     ·exact h
     ·rw [h] at hc;exact absurd hc.2 (by decide)
   ·rw [if_neg hc]
    exact ⟨h1,by simp⟩
  have:=eq_307 l (Q2h st c) h3.1 (.inl h3.2)
  refine ⟨this.1,.inl ?_⟩
  rcases this.2 with h|h
  ·exact h
  ·rw [h.1];exact h3.2
theorem eq_365 {l:List Nat} (h:l≠[]):∀ b∈Q1e l,b≠[]:=by
 have:=eq_307 l ([],[],32) (fun b hb=>by cases hb) (.inr rfl)
 intro b hb
 unfold Q1e Q3v at hb
 k_extra "vv"
 ·exact this.1 b hb
 ·rw [List.mem_singleton.mp hb]
  rcases this.2 with h1|h1
  ·exact h1
  ·exact absurd h1.2 h
theorem eq_289 (eq_2:List Int) (turn:Nat) (cs:List (Nat×Nat)) (h:∀ c∈cs,∀ x∈(Q0 eq_2 turn c).tail,Q5 x=false):
  ((Q1 eq_2 turn cs).1++[(Q1 eq_2 turn cs).2.1]).map (bT eq_2 turn)=Q1e (cs.flatMap (Q0 eq_2 turn)):=by
 have:=eq_378 eq_2 turn cs ([],[],32) h
 unfold Q1e Q3v
 have e:(([],[],32):List (List Nat)×List Nat×Nat)=(([]:List (List Tri)).map (bT eq_2 turn),bT eq_2 turn [],32):=rfl
 rw [e,this]
 unfold Q1
 simp
theorem eq_741 (eq_2:List Int) (turn width:Nat) (cs:List (Nat×Nat)) (h:∀ c∈cs,∀ x∈(Q0 eq_2 turn c).tail,Q5 x=false) (hn:cs.flatMap (Q0 eq_2 turn)≠[]) (hk:∀ c∈cs,Q0 eq_2 (turn+1) c=Q0 eq_2 turn c):
  (Q2w eq_2 turn width cs).flatMap (Q0 eq_2 (turn+1))=Qx (((Q1e (cs.flatMap (Q0 eq_2 turn))).foldl (Q1w width) ([],[])).1++[((Q1e (cs.flatMap (Q0 eq_2 turn))).foldl (Q1w width) ([],[])).2]):=by
 have hb:=eq_289 eq_2 turn cs h
 have ht:=eq_309 eq_2 turn cs cs ([],[],32) (fun c hc=>hc) (fun b hb=>by cases hb) (fun t ht=>by cases ht)
 have ht':∀ b∈(Q1 eq_2 turn cs).1++[(Q1 eq_2 turn cs).2.1],∀ t∈b,Q2u eq_2 turn cs t:=fun b hb=>by
  k_extra "vv"
  ·exact ht.1 b hb
  ·rw [List.mem_singleton.mp hb];exact ht.2
 have hne:=eq_365 hn
 rw [←hb] at hne
 have:=eq_399 eq_2 turn width ((Q1 eq_2 turn cs).1++[(Q1 eq_2 turn cs).2.1]) ([],0) ([],[]) (fun b hb=>⟨eq_427 (ht' b hb),hne _ (List.mem_map_of_mem hb),fun c hc=>hk c (eq_496 (ht' b hb) c hc)⟩) ⟨rfl,rfl,by simp⟩
 rw [hb] at this
 exact this.a
theorem eq_386 (eq_2:List Int) (turn:Nat):∀ (cs:List (Nat×Nat)) (st:List (List Tri)×List Tri×Nat),(cs.foldl (Qb eq_2 turn) st).1.flatMap Q6++Q6 (cs.foldl (Qb eq_2 turn) st).2.1=st.1.flatMap Q6++Q6 st.2.1++cs
 |[],st=>by simp
 |c::cs,st=>by
  rw [List.foldl_cons,eq_386 eq_2 turn cs]
  unfold Qb
  dsimp only
  split
  ·simp [Q6]
  ·simp [Q6]
theorem eq_354 (turn width:Nat):∀ (bs:List (List Tri)) (st:List (Nat×Nat)×Nat),∀ c∈(bs.foldl (Qe turn width) st).1,c∈st.1∨c=(10,turn+1)∨c∈bs.flatMap Q6
 |[],st,c,h=>.inl h
 |b::bs,st,c,h=>by
  rw [List.foldl_cons] at h
  rw [List.flatMap_cons,List.mem_append]
  rcases eq_354 turn width bs _ c h with h|h|h
  ·unfold Qe at h
   split at h
   ·simp only [List.mem_append,List.mem_singleton] at h
    rcases h with (h|h)|h
    ·exact .inl h
    ·exact .inr (.inl h)
    ·exact .inr (.inr (.inl h))
   ·simp only [List.mem_append] at h
    rcases h with h|h
    ·exact .inl h
    ·exact .inr (.inr (.inl h))
  ·exact .inr (.inl h)
  ·exact .inr (.inr (.inr h))
theorem eq_240 (turn width:Nat):∀ (bs:List (List Tri)) (st:List (Nat×Nat)×Nat),(bs.foldl (Qe turn width) st).1.length≤st.1.length+(bs.flatMap Q6).length+bs.length
 |[],st=>by simp
 |b::bs,st=>by
  rw [List.foldl_cons]
  have:=eq_240 turn width bs (Qe turn width st b)
  have h2:(Qe turn width st b).1.length≤st.1.length+(Q6 b).length+1:=by
   unfold Qe
   split
   ·dsimp only;rw [List.length_append,List.length_append,List.length_singleton];keq_rows
   ·dsimp only;rw [List.length_append];keq_rows
  k_extra "v1a"
  keq_rows
theorem eq_247 (turn width:Nat):∀ (bs:List (List Tri)) (st:List (Nat×Nat)×Nat),st.1≠[]→(bs.foldl (Qe turn width) st).1.head?=st.1.head?
 |[],st,_=>rfl
 |b::bs,st,h=>by
  rw [List.foldl_cons]
  (refine eq_29 (List.exists_cons_of_ne_nil h) fun d q e=>?_)
  have h2:(Qe turn width st b).1.head?=st.1.head?:=by
   unfold Qe
   split
   ·rw [e];rfl
   ·rw [e];rfl
  have h3:(Qe turn width st b).1≠[]:=fun x=>by rw [x,e] at h2;cases h2
  rw [eq_247 turn width bs _ h3,h2]
theorem eq_997 (turn width:Nat) (bs:List (List Tri)) (b:List Tri) (st:List (Nat×Nat)×Nat) (h:Q6 b≠[]):((bs++[b]).foldl (Qe turn width) st).1.getLast?=(Q6 b).getLast?:=by
 rw [List.foldl_append]
 show (Qe turn width _ b).1.getLast?=_
 unfold Qe
 have e:=List.getLast?_eq_some_getLast h
 split
 ·dsimp only
  rw [List.getLast?_append,e];rfl
 ·dsimp only
  rw [List.getLast?_append,e];rfl
structure RowsOk (turn:Nat) (cs rs:List (Nat×Nat)):Prop where
 m:∀ c∈rs,c∈cs∨c=(10,turn+1)
 n:rs.length≤2*cs.length+1
 h:rs.head?=cs.head?
 l:rs.getLast?=cs.getLast?
theorem eq_942 (eq_2:List Int) (turn width:Nat) (cs:List (Nat×Nat)) (h:∀ c∈cs,∀ x∈(Q0 eq_2 turn c).tail,Q5 x=false) (hn:cs.flatMap (Q0 eq_2 turn)≠[]):RowsOk turn cs (Q2w eq_2 turn width cs):=by
 have hb:=eq_289 eq_2 turn cs h
 have hne:=eq_365 hn
 rw [←hb] at hne
 have hc:=eq_386 eq_2 turn cs ([],[],32)
 have hl:=eq_115 eq_2 turn cs
 have hc:((Q1 eq_2 turn cs).1++[(Q1 eq_2 turn cs).2.1]).flatMap Q6=cs:=by
  rw [List.flatMap_append]
  simpa [Q1,Q6] using hc
 have hlast:Q6 (Q1 eq_2 turn cs).2.1≠[]:=fun e=>hne (bT eq_2 turn (Q1 eq_2 turn cs).2.1) (by simp) (by unfold bT;rw [e];rfl)
 unfold Q2w Q1y
 refine ⟨fun c hm=>?_,?_,?_,?_⟩
 ·rcases eq_354 turn width _ _ c hm with x|x|x
  ·cases x
  ·exact .inr x
  ·rw [hc] at x;exact .inl x
 ·have:=eq_240 turn width ((Q1 eq_2 turn cs).1++[(Q1 eq_2 turn cs).2.1]) ([],0)
  rw [hc,List.length_append,List.length_nil,List.length_singleton] at this
  keq_rows
 ·generalize (Q1 eq_2 turn cs).1++[(Q1 eq_2 turn cs).2.1]=bs at hne hc
  cases bs with
  |nil=>rw [←hc];rfl
  |cons b r=>
   have hb1:Q6 b≠[]:=fun e=>hne (bT eq_2 turn b) (by simp) (by unfold bT;rw [e];rfl)
   (refine eq_29 (List.exists_cons_of_ne_nil hb1) fun d q e=>?_)
   rw [List.foldl_cons]
   have e2:(Qe turn width ([],0) b).1=Q6 b:=by
    unfold Qe
    rw [if_neg (by simp)]
    rfl
   rw [eq_247 turn width r _ (by rw [e2];exact hb1),e2, ←hc,List.flatMap_cons,e]
   rfl
 ·rw [eq_997 turn width _ _ _ hlast]
  have e:=List.getLast?_eq_some_getLast hlast
  conv=>rhs;rw [←hc,List.flatMap_append]
  simp only [List.flatMap_cons,List.flatMap_nil,List.append_nil]
  rw [List.getLast?_append,e];rfl


end
section
section
variable {w:World} {A:Around} {s:Shared} {g:Heap} {L f:Addr} {m:Str→Option Value} {news:List (Addr×Obj)} {K:Frag} {qual:Str} {sc:Scope} {cd:Value} {E:Value→Shared→Prop} {Q:Flow→Shared→Prop}
theorem eq_1322:True:=by
 k_with "g75"=>have offG:True:=trivial
 k_with "g76"=>skip
 k_with "dl_mem"=>((fail_if_success (k_extra "g76";clear offG));first|(with_reducible first|(apply eq_511<;>assumption)|fail)|fail)
 k_with "g13"=>skip
 k_with "g14"=>skip
 trivial
noncomputable abbrev tx:Str:=Str.ofString "text"
noncomputable def Q37 (g:Heap) (L:Addr) (m:Str→Option Value) (news:List (Addr×Obj)) (s:Shared) (l:List Nat) (fl:Flow) (s':Shared):Prop:=
 fl= .next∧∃ t' tk h',s'={ s with heap:=h',toks:=tk }∧1≤tk∧Fr g L h' (fun y=>if y=tx then some (.str (S l) t') else m y)∧News g L h' news
theorem eq_909 {cs zs:Str} {c:Nat} {z l:List Nat} {t:Tok} {k1 k2 k3:Nat} {p1 p2 p3 p4 p5 p6 p7 p8 p9 p10 p11:Pos} {env:Env} (F:Fr g L s.heap m) (N:News g L s.heap news)
  (hm:m tx=some (.str (S l) t)) (hc:cs=S [c]) (hz:zs=S z)
  (h1:wpAny (model PySem.Challenge.rw_xo0041_01.prog w) A (isTrue (.Compare (.Constant (.str cs) k1 p1) [.In] [.Name tx p2] p3) env (eval (.Compare (.Constant (.str cs) k1 p1) [.In] [.Name tx p2] p3) env))
   (fun b s₂=>if b then wpAny (model PySem.Challenge.rw_xo0041_01.prog w) A (execs [.Assign [.Name tx p4] (.Call (.Attribute (.Name tx p5) (Str.ofString "replace") p6) [.Constant (.str cs) k2 p7,.Constant (.str zs) k3 p8] [] p9) p10] env) (Q37 g L m news s (rep c z l)) E s₂
    else wpAny (model PySem.Challenge.rw_xo0041_01.prog w) A (execs [] env) (Q37 g L m news s (rep c z l)) E s₂) E s)
  (h:∀ t' tk h',1≤tk→Fr g L h' (fun y=>if y=tx then some (.str (S (rep c z l)) t') else m y)→News g L h' news→Q .next { s with heap:=h',toks:=tk }):
  wpAny (model PySem.Challenge.rw_xo0041_01.prog w) A (exec (.If (.Compare (.Constant (.str cs) k1 p1) [.In] [.Name tx p2] p3)
   [.Assign [.Name tx p4] (.Call (.Attribute (.Name tx p5) (Str.ofString "replace") p6) [.Constant (.str cs) k2 p7,.Constant (.str zs) k3 p8] [] p9) p10] [] p11) env) Q E s:=
 wpAny_mono (wpAny_If h1) (fun fl s' ⟨e,t',tk,h',e',htk,F',N'⟩=>by subst e e';exact h t' tk h' htk F' N') fun _ _ x=>x
theorem eq_855 {cs:Str} {c:Nat} {z l:List Nat} {t:Tok} {tk:Nat} (F:Fr g L s.heap m) (N:News g L s.heap news) (hm:m tx=some (.str (S l) t)) (hc:cs=S [c])
  (hn:(Builtin.Str.occurrences (S l) cs 0 (S l).length 1).isEmpty=true) (htk:1≤tk):Q37 g L m news s (rep c z l) .next { s with toks:=tk }:=by
 have hf:c∉l:=fun hm'=>by
  have e:=StrLaws.found_one (S l) c
  rw [show (⟨#[c]⟩:Str)=cs from hc.symm,hn] at e
  have:decide (c∈(S l).cps.toList)=true:=decide_eq_true hm'
  rw [this] at e;cases e
 refine ⟨rfl,t,tk,s.heap,rfl,htk,?_,N⟩
 rw [eq_78 c z l hf]
 have e:(fun y=>if y=tx then some (.str (S l) t) else m y)=m:=by
  funext y
  by_cases h:y=tx
  ·subst h;rw [if_pos rfl,hm]
  ·rw [if_neg h]
 rw [e];exact F
theorem eq_730 {cs zs:Str} {c:Nat} {z l:List Nat} {t':Tok} {tk:Nat} {h':Heap} (F:Fr g L h' (fun y=>if y=tx then some (.str (Txt.replace (S l) cs zs) t') else m y)) (N:News g L h' news) (hc:cs=S [c]) (hz:zs=S z) (htk:1≤tk):
  Q37 g L m news s (rep c z l) .next { s with heap:=h',toks:=tk }:=by
 subst hc hz
 rw [eq_727] at F
 exact ⟨rfl,t',tk,h',rfl,htk,F,N⟩
theorem eq_912:Str.ofString "&"=S [38]:=by decide +kernel
theorem eq_802:Str.ofString "<"=S [60]:=by decide +kernel
theorem eq_1130:Str.ofString ">"=S [62]:=by decide +kernel
theorem eq_676:Str.ofString "\""=S [34]:=by decide +kernel
theorem eq_523:Str.ofString "\x0d"=S [13]:=by decide +kernel
theorem eq_900:Str.ofString "\n"=S [10]:=by decide +kernel
theorem eq_1061:Str.ofString "\t"=S [9]:=by decide +kernel
theorem eq_805:Str.ofString "&amp;"=S [38,97,109,112,59]:=by decide +kernel
theorem eq_543:Str.ofString "&lt;"=S [38,108,116,59]:=by decide +kernel
theorem eq_572:Str.ofString "&gt;"=S [38,103,116,59]:=by decide +kernel
theorem eq_714:Str.ofString "&quot;"=S [38,113,117,111,116,59]:=by decide +kernel
theorem eq_758:Str.ofString "&#13;"=S [38,35,49,51,59]:=by decide +kernel
theorem eq_1225:Str.ofString "&#10;"=S [38,35,49,48,59]:=by decide +kernel
theorem eq_706:Str.ofString "&#09;"=S [38,35,48,57,59]:=by decide +kernel
theorem eq_944:Str.ofString "&#xD;"=S [38,35,120,68,59]:=by decide +kernel
theorem eq_438:Str.ofString "&#xA;"=S [38,35,120,65,59]:=by decide +kernel
theorem eq_1149:Str.ofString "&#x9;"=S [38,35,120,57,59]:=by decide +kernel
end
theorem eq_1313:True:=by
 k_with "call builtin:str.replace"=>((fail_if_success (k_extra "g76";clear offG));k_here;(try dsimp only);refine eq_221 (by (try dsimp only);k_extra "t") (by k_extra "t") (by k_extra "t") (by (show @Ne Nat _ _);keq_rows) (by assumption) (by first|assumption|(simp only [eq_9];keq_rows)) (by assumption) ?_;intro t'ω k'ω hk'ω)
 k_with "tb_rel"=>((fail_if_success (k_extra "g76";clear offG));first|exact eq_855 (by assumption) (by assumption) (by first|assumption|exact if_pos rfl|exact rfl) (by assumption) (by assumption) (by assumption)|exact eq_730 (by assumption) (by assumption) (by assumption) (by assumption) (by assumption))
 trivial
noncomputable abbrev Q2m:Scope:={ kind:=.function,names:=[(tx,.local),(Str.ofString "TypeError",.globalImplicit),(Str.ofString "AttributeError",.globalImplicit),(Str.ofString "_raise_serialization_error",.globalImplicit)],isGenerator:=false,isCoroutine:=false }
theorem eq_827 {L f:Addr} {qual:Str} {cd:Value} {cs zs:Str} {k2 k3:Nat} {p5 p6 p7 p8 p9:Pos} (hp:(p6.endLine==p9.line)=true):eval (.Call (.Attribute (.Name tx p5) (Str.ofString "replace") p6) [.Constant (.str cs) k2 p7,.Constant (.str zs) k3 p8] [] p9) (envOf qual Q2m L f cd)=(do
   let ov ←eval (.Name tx p5) (envOf qual Q2m L f cd)
   standAt p6.atName
   let (f',first) ←holding [ov] (getMethod ov (Str.ofString "replace") (do return (←importBound (.Name tx p5) (envOf qual Q2m L f cd)).getD true))
   callWith p9 f' first (backTo p9 (starEach [.Constant (.str cs) k2 p7,.Constant (.str zs) k3 p8] (envOf qual Q2m L f cd))) []):=by
 show (do
  let ov ←attributeBase (.Name tx p5) (Str.ofString "replace") (envOf qual Q2m L f cd) (eval (.Name tx p5) (envOf qual Q2m L f cd))
  standAt p6.atName
  methodCall (.Name tx p5) (Str.ofString "replace") p6 p9 (envOf qual Q2m L f cd) ov 2 (backTo p9 (starEach [.Constant (.str cs) k2 p7,.Constant (.str zs) k3 p8] (envOf qual Q2m L f cd))) [])=_
 have e:∀ few o env,methodCallPos few o env p6 p9=pure p9:=fun few o env=>by
  unfold methodCallPos
  rw [hp,Bool.or_true,if_pos rfl]
 unfold methodCall
 simp only [e]
 rfl
set_option maxHeartbeats 0
theorem eq_1293:True:=by
 k_with "eval Call Attribute"=>((fail_if_success (k_extra "g76";clear offG));k_here;refine MethodCall_ ?_ (eq_827 (by assumption)))
 trivial
theorem eq_1038 {w:World} {A:Around} {s:Shared} {g:Heap} {L f:Addr} {m:Str→Option Value} {news:List (Addr×Obj)} {qual:Str} {cd:Value} {E:Value→Shared→Prop} {Q:Flow→Shared→Prop} {cs zs:Str} {c:Nat} {z l:List Nat} {t:Tok} {k1 k2 k3:Nat} {p1 p2 p3 p4 p5 p6 p7 p8 p9 p10 p11:Pos} (X:(Kx w.params).In g) (F:Fr g L s.heap m) (N:News g L s.heap news)
  (hm:m tx=some (.str (S l) t)) (hc:cs=S [c]) (hz:zs=S z) (hp:(p6.endLine==p9.line)=true) (ht:1≤s.toks) (hl:l.length≤120000) (hne:(cs==zs)=false) (hz4:zs.length≤14)
  (h:∀ t' tk h',1≤tk→Fr g L h' (fun y=>if y=tx then some (.str (S (rep c z l)) t') else m y)→News g L h' news→Q .next { s with heap:=h',toks:=tk }):
  wpAny (model PySem.Challenge.rw_xo0041_01.prog w) A (exec (.If (.Compare (.Constant (.str cs) k1 p1) [.In] [.Name tx p2] p3)
   [.Assign [.Name tx p4] (.Call (.Attribute (.Name tx p5) (Str.ofString "replace") p6) [.Constant (.str cs) k2 p7,.Constant (.str zs) k3 p8] [] p9) p10] [] p11) (envOf qual Q2m L f cd)) Q E s:=by
 obtain ⟨hh,gg,dd,tk0,os⟩:=s
 refine eq_909 F N hm hc hz ?_ h
 clear h
 dsimp only at F N ht
 have hl2:(S l).length≤1048576:=by simp only [eq_9];keq_rows
 k_steps
 all_goals tb_rel
set_option maxHeartbeats 0
theorem eq_1259:True:=by
 k_with "ktr_rel"=>((fail_if_success (k_extra "g76";clear offG));first|exact eq_912|exact eq_802|exact eq_1130|exact eq_676|exact eq_523|exact eq_900|exact eq_1061)
 k_with "ktr_unf"=>((fail_if_success (k_extra "g76";clear offG));first|exact eq_805|exact eq_543|exact eq_572|exact eq_714|exact eq_758|exact eq_1225|exact eq_706|exact eq_944|exact eq_438|exact eq_1149)
 k_with "exec If"=>((fail_if_success (k_extra "g76";clear offG));k_here;(try dsimp only);k_dflt (refine' eq_1038 (by k_asm) (by k_asm) (by k_asm) (by first|(first|assumption|exact if_pos rfl|exact rfl)|fail) (by first|ktr_rel|fail) (by first|ktr_unf|fail) (by decide) (by first|k_extra "t"|fail) (by first|(first|assumption|keq_rows)|fail) (by decide) (by decide) ?_;intro t'ω tk'ω h'ω htk'ω F'ω N'ω))
 trivial
noncomputable def Q2b:List (Nat×List Nat):=[(38,[38,97,109,112,59]),(60,[38,108,116,59]),(62,[38,103,116,59])]
theorem eq_1064 (w:World) (l:List Nat) (t:Tok) (hx:l.length≤20000):Ct w 1 313 [.str (S l) t] [] (fun v _=>∃ t,v= .str (S (Q2f Q2b l)) t):=by
 k_extra "w0"
 k_extra "vc"
 have b1:(rep 38 [38,97,109,112,59] l).length≤120000:=eq_16 (Q2b.take 1) l hx (by decide)
 have b2:(rep 60 [38,108,116,59] (rep 38 [38,97,109,112,59] l)).length≤120000:=eq_16 (Q2b.take 2) l hx (by decide)
 k_steps
 k_extra "v3"
noncomputable def Q10:List (Nat×List Nat):=[(38,[38,97,109,112,59]),(60,[38,108,116,59]),(62,[38,103,116,59]),(34,[38,113,117,111,116,59]),(13,[38,35,49,51,59]),(10,[38,35,49,48,59]),(9,[38,35,48,57,59])]
theorem eq_1100 (w:World) (l:List Nat) (t:Tok) (hx:l.length≤20000):Ct w 1 320 [.str (S l) t] [] (fun v _=>∃ t,v= .str (S (Q2f Q10 l)) t):=by
 k_extra "w0"
 k_extra "vc"
 have b1:(rep 38 [38,97,109,112,59] l).length≤120000:=eq_16 (Q10.take 1) l hx (by decide)
 have b2:(rep 60 [38,108,116,59] (rep 38 [38,97,109,112,59] l)).length≤120000:=eq_16 (Q10.take 2) l hx (by decide)
 have b3:(rep 62 [38,103,116,59] (rep 60 [38,108,116,59] (rep 38 [38,97,109,112,59] l))).length≤120000:=eq_16 (Q10.take 3) l hx (by decide)
 have b4:(rep 34 [38,113,117,111,116,59] (rep 62 [38,103,116,59] (rep 60 [38,108,116,59] (rep 38 [38,97,109,112,59] l)))).length≤120000:=eq_16 (Q10.take 4) l hx (by decide)
 have b5:(rep 13 [38,35,49,51,59] (rep 34 [38,113,117,111,116,59] (rep 62 [38,103,116,59] (rep 60 [38,108,116,59] (rep 38 [38,97,109,112,59] l))))).length≤120000:=eq_16 (Q10.take 5) l hx (by decide)
 have b6:(rep 10 [38,35,49,48,59] (rep 13 [38,35,49,51,59] (rep 34 [38,113,117,111,116,59] (rep 62 [38,103,116,59] (rep 60 [38,108,116,59] (rep 38 [38,97,109,112,59] l)))))).length≤120000:=eq_16 (Q10.take 6) l hx (by decide)
 k_steps
 k_extra "v3"
noncomputable def Q2o:List (Nat×List Nat):=[(38,[38,97,109,112,59]),(62,[38,103,116,59]),(34,[38,113,117,111,116,59])]
theorem eq_710 (w:World) (l:List Nat) (t:Tok) (hx:l.length≤20000):Ct w 1 327 [.str (S l) t] [] (fun v _=>∃ t,v= .str (S (Q2f Q2o l)) t):=by
 k_extra "w0"
 k_extra "vc"
 have b1:(rep 38 [38,97,109,112,59] l).length≤120000:=eq_16 (Q2o.take 1) l hx (by decide)
 have b2:(rep 62 [38,103,116,59] (rep 38 [38,97,109,112,59] l)).length≤120000:=eq_16 (Q2o.take 2) l hx (by decide)
 k_steps
 k_extra "v3"
noncomputable def Q1n:List (Nat×List Nat):=[(38,[38,97,109,112,59]),(60,[38,108,116,59]),(62,[38,103,116,59]),(13,[38,35,120,68,59])]
theorem eq_1026 (w:World) (l:List Nat) (t:Tok) (hx:l.length≤20000):Ct w 1 334 [.str (S l) t] [] (fun v _=>∃ t,v= .str (S (Q2f Q1n l)) t):=by
 k_extra "w0"
 k_extra "vc"
 have b1:(rep 38 [38,97,109,112,59] l).length≤120000:=eq_16 (Q1n.take 1) l hx (by decide)
 have b2:(rep 60 [38,108,116,59] (rep 38 [38,97,109,112,59] l)).length≤120000:=eq_16 (Q1n.take 2) l hx (by decide)
 have b3:(rep 62 [38,103,116,59] (rep 60 [38,108,116,59] (rep 38 [38,97,109,112,59] l))).length≤120000:=eq_16 (Q1n.take 3) l hx (by decide)
 k_steps
 k_extra "v3"
noncomputable def Qy:List (Nat×List Nat):=[(38,[38,97,109,112,59]),(60,[38,108,116,59]),(34,[38,113,117,111,116,59]),(9,[38,35,120,57,59]),(10,[38,35,120,65,59]),(13,[38,35,120,68,59])]
theorem eq_514 (w:World) (l:List Nat) (t:Tok) (hx:l.length≤20000):Ct w 1 341 [.str (S l) t] [] (fun v _=>∃ t,v= .str (S (Q2f Qy l)) t):=by
 k_extra "w0"
 k_extra "vc"
 have b1:(rep 38 [38,97,109,112,59] l).length≤120000:=eq_16 (Qy.take 1) l hx (by decide)
 have b2:(rep 60 [38,108,116,59] (rep 38 [38,97,109,112,59] l)).length≤120000:=eq_16 (Qy.take 2) l hx (by decide)
 have b3:(rep 34 [38,113,117,111,116,59] (rep 60 [38,108,116,59] (rep 38 [38,97,109,112,59] l))).length≤120000:=eq_16 (Qy.take 3) l hx (by decide)
 have b4:(rep 9 [38,35,120,57,59] (rep 34 [38,113,117,111,116,59] (rep 60 [38,108,116,59] (rep 38 [38,97,109,112,59] l)))).length≤120000:=eq_16 (Qy.take 4) l hx (by decide)
 have b5:(rep 10 [38,35,120,65,59] (rep 9 [38,35,120,57,59] (rep 34 [38,113,117,111,116,59] (rep 60 [38,108,116,59] (rep 38 [38,97,109,112,59] l))))).length≤120000:=eq_16 (Qy.take 5) l hx (by decide)
 k_steps
 k_extra "v3"


end
section
theorem eq_1282:True:=by
 k_with "g13"=>have offG:True:=trivial
 k_with "g14"=>have offG:True:=trivial
 k_with "g76"=>have offG:True:=trivial
 trivial
noncomputable def Q4g:List Nat:=Qu++[97,109,112,59,108,116,103,113,117,111,35,120,68,65,57,49,51,48,100,107,102,105,953,99,46,101,63]
noncomputable def Q4h (c:Nat):List Nat:=if c=68 then [100] else if c=65 then [97] else (Q21.lookup c).getD [c]
theorem eq_557:∀ c∈Q4g,Q15 c=Q4h c:=by decide +kernel
noncomputable def r6:List Int:=[0,1,2,3,4,5]
noncomputable def okq (l:List Int):Bool:=decide ((l.filter (· <5)).length≤2)&&decide ((l.filter (· ==5)).length≤1)
noncomputable def Q3w:List (List Int):=(([]:List Int)::(r6.map fun a=>[a])++(r6.flatMap fun a=>r6.map fun b=>[a,b])++(r6.flatMap fun a=>r6.flatMap fun b=>r6.map fun c=>[a,b,c])).filter okq
noncomputable def Q3p (h:Int):List (Nat×List Nat):=if h=0 then Q2b else if h=1 then Q10 else if h=2 then Q2o else if h=3 then Q1n else Qy
noncomputable def Q1z (h:Int) (l:List Nat):List Nat:=if h=5 then l.flatMap Q4h else Q2f (Q3p h) l
theorem eq_1075:∀ l∈Q3w,∀ c∈Qu,∀ x∈Qa c l,x∈Q4g:=by decide +kernel
theorem eq_1120:∀ l∈Q3w,∀ h,l.getLast?=some h→∀ c∈Qu,Q1z h (Qa c l.dropLast)=Qa c l:=by
 have:∀ l∈Q3w,∀ c∈Qu,(l.getLast?.elim true fun h=>Q1z h (Qa c l.dropLast)==Qa c l)=true:=by decide +kernel
 intro l hl h e c hc
 have:=this l hl c hc
 rw [e] at this
 exact eq_of_beq this
theorem eq_474:∀ l∈Q3w,∀ c∈Qu,∀ x∈(Qa c l).tail,Q5 x=false:=by decide +kernel
theorem eq_1168:∀ l∈Q3w,∀ c∈Qu,(Qa c l).length≤20:=by decide +kernel
theorem eq_778:∀ l∈Q3w,∃ x q,Qa 0xfb03 l=x::q∧Q5 x=false:=by
 have:∀ l∈Q3w,(Qa 0xfb03 l).head?.any (fun x=>!Q5 x)=true:=by decide +kernel
 intro l hl
 have:=this l hl
 cases h:Qa 0xfb03 l with
 |nil=>rw [h] at this;cases this
 |cons x q=>rw [h] at this;exact ⟨x,q,rfl,by simpa using this⟩
theorem eq_1098:∀ l∈Q3w,Qa 75 l=[75]∨Qa 75 l=[107]:=by decide +kernel


end
section
theorem eq_1331:True:=by
 k_with "g77"=>skip
 k_with "dl_mem"=>((fail_if_success (k_extra "g77";clear offG));first|(with_reducible first|(apply eq_700<;>assumption)|(apply eq_1013<;>assumption)|apply eq_270|(apply eq_137<;>assumption)|(apply eq_625<;>assumption)|(apply eq_809<;>assumption)|(apply eq_235<;>assumption)|(apply eq_590<;>assumption)|(apply eq_1129<;>assumption)|(apply eq_974<;>assumption)|(apply eq_528<;>assumption)|(apply eq_949<;>assumption)|(apply eq_553<;>assumption)|(apply eq_863<;>assumption)|(apply eq_1019<;>assumption)|apply eq_104|(apply eq_121<;>assumption)|fail)|(with_reducible apply eq_121;rotate_left;all_goals assumption)|(apply eq_121<;>assumption)|fail)
 trivial
theorem eq_256:∀ (l:List Int) (i:Nat),i<l.length→(l.getD i 0::l.eraseIdx i).Perm l
 |[],i,h=>absurd h (Nat.not_lt_zero _)
 |a::r,0,_=>List.Perm.refl _
 |a::r,i+1,h=>by
  have ih:=eq_256 r i (by simpa using h)
  show (r.getD i 0::a::r.eraseIdx i).Perm (a::r)
  exact (List.Perm.swap _ _ _).trans (ih.cons a)
noncomputable def Q4k:Nat→List Int
 |0=>[]
 |k+1=>((k+1:Nat):Int)::Q4k k
theorem eq_375:∀ (k:Nat) (pool:List Int) (left:Int),pool.length=k→(Q2c pool left (Q4k k)).Perm pool
 |0,pool,left,h=>by rw [List.length_eq_zero_iff.mp h];exact List.Perm.refl _
 |k+1,pool,left,h=>by
  have h0:=Int.fmod_nonneg_of_pos left (show (0:Int)<((k+1:Nat):Int) by keq_rows)
  have h1:=Int.fmod_lt_of_pos left (show (0:Int)<((k+1:Nat):Int) by keq_rows)
  have hi:(left.fmod ((k+1:Nat):Int)).toNat<pool.length:=by keq_rows
  show (pool.getD _ 0::Q2c (pool.eraseIdx _) _ (Q4k k)).Perm pool
  exact ((eq_375 k _ _ (by rw [List.length_eraseIdx,if_pos hi];keq_rows)).cons _).trans (eq_256 pool _ hi)
structure Qn (hs:List Int):Prop where
 len:hs.length=5
 rng:∀ h∈hs,0≤h∧h≤6
 cnt:(hs.filter (· != 6)).length≤3
 esc:((hs.filter (· != 6)).filter (· <5)).length≤2
 five:((hs.filter (· != 6)).filter (· ==5)).length≤1
 six:(hs.filter (· ==6)).length≤2
theorem eq_25 (n:Nat):Qn (Q7 n):=by
 have p:(Q7 n).Perm [(n:Int).fmod 5,((n:Int).fdiv 5).fmod 5,5,6,6]:=eq_375 5 _ _ rfl
 have b1:=Int.fmod_nonneg_of_pos (n:Int) (show (0:Int)<5 by decide)
 have b2:=Int.fmod_lt_of_pos (n:Int) (show (0:Int)<5 by decide)
 have b3:=Int.fmod_nonneg_of_pos ((n:Int).fdiv 5) (show (0:Int)<5 by decide)
 have b4:=Int.fmod_lt_of_pos ((n:Int).fdiv 5) (show (0:Int)<5 by decide)
 generalize (n:Int).fmod 5=x at p b1 b2
 generalize ((n:Int).fdiv 5).fmod 5=y at p b3 b4
 have e1:([x,y,5,6,6]:List Int).filter (· != 6)=[x,y,5]:=by
  have h1:(x != 6)=true:=by simp;keq_rows
  have h2:(y != 6)=true:=by simp;keq_rows
  simp [List.filter_cons,h1,h2]
 have hx:x=0∨x=1∨x=2∨x=3∨x=4:=by keq_rows
 have hy:y=0∨y=1∨y=2∨y=3∨y=4:=by keq_rows
 have pf:=p.filter (· != 6)
 rw [e1] at pf
 refine ⟨p.length_eq,fun h hm=>?_,?_,?_,?_,?_⟩
 ·have:=p.mem_iff.mp hm
  simp only [List.mem_cons,List.not_mem_nil,or_false] at this
  keq_rows
 ·rw [pf.length_eq];exact Nat.le_refl _
 ·rw [(pf.filter _).length_eq]
  k_extra "vq"
 ·rw [(pf.filter _).length_eq]
  k_extra "vq"
 ·rw [(p.filter _).length_eq]
  k_extra "vq"
theorem eq_60 {x:Int} (h:0≤x∧x≤5):x∈r6:=by
 have:x=0∨x=1∨x=2∨x=3∨x=4∨x=5:=by keq_rows
 rcases this with rfl|rfl|rfl|rfl|rfl|rfl<;>decide
theorem eq_725 {l:List Int} (h:∀ x∈l,0≤x∧x≤5) (hl:l.length≤3) (ho:okq l=true):l∈Q3w:=by
 refine List.mem_filter.mpr ⟨?_,ho⟩
 match l with
 |[]=>simp
 |[a]=>
  have:=eq_60 (h a (by simp))
  simp [this]
 |[a,b]=>
  have h1:=eq_60 (h a (by simp))
  have h2:=eq_60 (h b (by simp))
  simp [h1,h2]
 |[a,b,c]=>
  have h1:=eq_60 (h a (by simp))
  have h2:=eq_60 (h b (by simp))
  have h3:=eq_60 (h c (by simp))
  simp only [List.mem_append,List.mem_cons,List.mem_flatMap,List.mem_map]
  exact .inr ⟨a,h1,b,h2,c,h3,rfl⟩
 |_::_::_::_::_=>simp at hl
theorem eq_1002 (c:Nat) (hs:List Int):Qa c (hs.filter (· != 6))=Qa c hs:=by
 have:∀ (hs:List Int) (st:List Nat×List Nat×Nat),(hs.filter (· != 6)).foldl (Q1b c) st=hs.foldl (Q1b c) st:=by
  intro hs
  induction hs with
  |nil=>intro st;rfl
  |cons h r ih=>
   intro st
   by_cases e:h=6
   ·subst e
    have e2:((6:Int)::r).filter (· != 6)=r.filter (· != 6):=by simp [List.filter_cons]
    have e3:Q1b c st 6=st:=by
     unfold Q1b
     rw [if_neg (by decide),if_neg (by simp),if_neg (by simp)]
    rw [e2,List.foldl_cons,e3]
    exact ih st
   ·have e2:(h::r).filter (· != 6)=h::r.filter (· != 6):=by simp [List.filter_cons,e]
    rw [e2,List.foldl_cons,List.foldl_cons]
    exact ih _
 unfold Qa Q28
 rw [this hs]
noncomputable def seg (hs:List Int) (t b:Nat):List Int:=(hs.drop b).take (min t hs.length-b)
theorem eq_379 (hs:List Int) (t b:Nat):(seg hs t b).Sublist hs:=(List.take_sublist _ _).trans (List.drop_sublist _ _)
theorem eq_120 {hs:List Int} {t b:Nat} {h:Int} (hh:hs[t]?=some h) (hb:b≤t):seg hs (t+1) b=seg hs t b++[h]:=by
 have ht:t<hs.length:=(List.getElem?_eq_some_iff.mp hh).1
 unfold seg
 have e:min (t+1) hs.length-b=(min t hs.length-b)+1:=by keq_rows
 rw [e,List.take_add_one]
 congr 1
 rw [List.getElem?_drop,show b+(min t hs.length-b)=t by keq_rows,hh]
 rfl
theorem eq_58 {hs:List Int} (H:Qn hs) (t b:Nat):(seg hs t b).filter (· != 6)∈Q3w:=by
 have s:=(eq_379 hs t b).filter (· != 6)
 refine eq_725 (fun x hx=>?_) (Nat.le_trans s.length_le H.cnt) ?_
 ·have hx2:=List.mem_filter.mp hx
  have:=H.rng x ((eq_379 hs t b).subset hx2.1)
  have h6:x≠6:=by simpa using hx2.2
  keq_rows
 ·unfold okq
  rw [Bool.and_eq_true,decide_eq_true_eq,decide_eq_true_eq]
  exact ⟨Nat.le_trans (s.filter _).length_le H.esc,Nat.le_trans (s.filter _).length_le H.five⟩
theorem eq_35 (hs:List Int) (t:Nat) (c:Nat×Nat):Q0 hs t c=Qa c.1 ((seg hs t c.2).filter (· != 6)):=(eq_1002 _ _).symm
structure Qt (hs:List Int) (t:Nat) (cs:List (Nat×Nat)):Prop where
 m:∀ c∈cs,c.1∈Qu∧c.2≤t
 n:cs.length+1≤35*2 ^ ((hs.take t).filter (· ==6)).length
 h:cs.head?=some (0xfb03,0)
 l:cs.getLast?=some (75,0)
noncomputable def Qp (hs:List Int) (t:Nat) (cs:List (Nat×Nat)):List Nat:=cs.flatMap (Q0 hs t)
theorem eq_273 {hs:List Int} {t:Nat} {cs:List (Nat×Nat)} (H:Qn hs) (K:Qt hs t cs):∀ c∈cs,∀ x∈(Q0 hs t c).tail,Q5 x=false:=fun c hc=>by
 rw [eq_35]
 exact eq_474 _ (eq_58 H t c.2) _ (K.m c hc).1
theorem eq_88 {hs:List Int} {t:Nat} {cs:List (Nat×Nat)} (H:Qn hs) (K:Qt hs t cs):cs.length≤139:=by
 have h1:((hs.take t).filter (· ==6)).length≤2:=Nat.le_trans ((List.take_sublist t hs).filter _).length_le H.six
 have h2:2 ^ ((hs.take t).filter (· ==6)).length≤2 ^ 2:=Nat.pow_le_pow_right (by decide) h1
 have:=K.n
 keq_rows
theorem eq_279 {hs:List Int} {t:Nat} (H:Qn hs):∀ {cs:List (Nat×Nat)},(∀ c∈cs,c.1∈Qu∧c.2≤t)→(Qp hs t cs).length≤20*cs.length
 |[],_=>Nat.le_refl _
 |c::cs,h=>by
  have ih:=eq_279 (t:=t) H (cs:=cs) fun d hd=>h d (List.mem_cons_of_mem _ hd)
  have e:Qp hs t (c::cs)=Q0 hs t c++Qp hs t cs:=rfl
  have h1:=eq_1168 _ (eq_58 H t c.2) _ (h c (List.mem_cons_self ..)).1
  rw [←eq_35] at h1
  rw [e,List.length_append,List.length_cons]
  keq_rows
theorem eq_90 {hs:List Int} {t:Nat} {cs:List (Nat×Nat)} (H:Qn hs) (K:Qt hs t cs):(Qp hs t cs).length≤5000:=by
 have:=eq_279 H K.m
 have:=eq_88 H K
 keq_rows
theorem eq_113 {hs:List Int} {t:Nat} {cs:List (Nat×Nat)} (H:Qn hs) (K:Qt hs t cs):∃ x q,Qp hs t cs=x::q∧Q5 x=false:=by
 have hd:=K.h
 cases cs with
 |nil=>cases hd
 |cons c r=>
  have e:c=(0xfb03,0):=by simpa using hd
  (refine eq_14 (eq_778 _ (eq_58 H t c.2)) fun x q h1 h2=>?_)
  rw [e] at h1
  have e2:Qp hs t (c::r)=Q0 hs t c++Qp hs t r:=rfl
  rw [e2,eq_35,e,h1]
  exact ⟨x,_,rfl,h2⟩
theorem eq_767 {hs:List Int} {t:Nat} {cs:List (Nat×Nat)} (H:Qn hs) (K:Qt hs t cs):(Qp hs t cs).getLast?=some 75∨(Qp hs t cs).getLast?=some 107:=by
 (refine eq_5 (List.getLast?_eq_some_iff.mp K.l) fun pre e=>?_)
 have e2:Qp hs t cs=Qp hs t pre++Q0 hs t (75,0):=by rw [e];simp [Qp]
 rw [e2,eq_35]
 rcases eq_1098 _ (eq_58 H t 0) with h|h
 ·left
  show (_++Qa 75 _).getLast?=_
  rw [h];simp
 ·right
  show (_++Qa 75 _).getLast?=_
  rw [h];simp
theorem eq_305:∀ (ps:List (Nat×List Nat)) (a b:List Nat),Q2f ps (a++b)=Q2f ps a++Q2f ps b
 |[],_,_=>rfl
 |p::ps,a,b=>by
  show Q2f ps (rep p.1 p.2 (a++b))=Q2f ps (rep p.1 p.2 a)++Q2f ps (rep p.1 p.2 b)
  rw [eq_149,eq_305 ps]
theorem eq_238:∀ ps:List (Nat×List Nat),Q2f ps []=[]
 |[]=>rfl
 |p::ps=>eq_238 ps
theorem eq_977 (h:Int) (a b:List Nat):Q1z h (a++b)=Q1z h a++Q1z h b:=by
 unfold Q1z
 split
 ·rw [List.flatMap_append]
 ·exact eq_305 _ _ _
theorem eq_653 (h:Int):Q1z h []=[]:=by
 unfold Q1z
 split
 ·rfl
 ·exact eq_238 _
theorem eq_1058 {hs:List Int} {t:Nat} {c:Nat×Nat} {h:Int} (H:Qn hs) (hh:hs[t]?=some h) (h6:h≠6) (hc:c.1∈Qu∧c.2≤t):Q1z h (Q0 hs t c)=Q0 hs (t+1) c:=by
 rw [eq_35,eq_35,eq_120 hh hc.2,List.filter_append]
 have e:[h].filter (· != 6)=[h]:=by simp [List.filter_cons,h6]
 have ha:=eq_58 H (t+1) c.2
 rw [eq_120 hh hc.2,List.filter_append,e] at ha
 rw [e]
 have:=eq_1120 _ ha h (by simp) c.1 hc.1
 rw [List.dropLast_concat] at this
 exact this
theorem eq_188 {hs:List Int} {t:Nat} {h:Int} (H:Qn hs) (hh:hs[t]?=some h) (h6:h≠6):∀ {cs:List (Nat×Nat)},(∀ c∈cs,c.1∈Qu∧c.2≤t)→Q1z h (Qp hs t cs)=Qp hs (t+1) cs
 |[],_=>eq_653 h
 |c::cs,hm=>by
  have e:∀ u,Qp hs u (c::cs)=Q0 hs u c++Qp hs u cs:=fun _=>rfl
  rw [e,e,eq_977,eq_1058 H hh h6 (hm c (List.mem_cons_self ..)),eq_188 H hh h6 fun d hd=>hm d (List.mem_cons_of_mem _ hd)]
theorem eq_897 {hs:List Int} {t:Nat} {cs:List (Nat×Nat)} (H:Qn hs) (K:Qt hs t cs):∀ x∈Qp hs t cs,x∈Q4g:=fun x hx=>by
 (refine eq_4 (List.mem_flatMap.mp hx) fun c hc hx=>?_)
 rw [eq_35] at hx
 exact eq_1075 _ (eq_58 H t c.2) _ (K.m c hc).1 x hx
theorem eq_1056 {hs:List Int} {t:Nat} {cs:List (Nat×Nat)} (H:Qn hs) (K:Qt hs t cs) (hh:hs[t]?=some 5):(Qp hs t cs).flatMap Q15=Qp hs (t+1) cs:=by
 rw [←eq_188 H hh (by decide) K.m]
 show _=List.flatMap Q4h _
 rw [List.flatMap_def,List.flatMap_def,List.map_congr_left fun x hx=>eq_557 x (eq_897 H K x hx)]
theorem eq_970 {hs:List Int} {t:Nat} {cs:List (Nat×Nat)} {h:Int} (H:Qn hs) (K:Qt hs t cs) (hh:hs[t]?=some h) (h5:h<5):Q2f (Q3p h) (Qp hs t cs)=Qp hs (t+1) cs:=by
 rw [←eq_188 H hh (by keq_rows) K.m]
 exact (if_neg (by keq_rows)).symm
theorem eq_637 (hs:List Int) (t:Nat):((hs.take t).filter (· ==6)).length≤((hs.take (t+1)).filter (· ==6)).length:=by
 rw [List.take_add_one,List.filter_append,List.length_append]
 keq_rows
theorem eq_487 {hs:List Int} {t:Nat} {cs:List (Nat×Nat)} (K:Qt hs t cs):Qt hs (t+1) cs:=
 ⟨fun c hc=>⟨(K.m c hc).1,Nat.le_succ_of_le (K.m c hc).2⟩,Nat.le_trans K.n (Nat.mul_le_mul_left _ (Nat.pow_le_pow_right (by decide) (eq_637 hs t))),K.h,K.l⟩
theorem eq_212 {hs:List Int} {t:Nat} {cs:List (Nat×Nat)} (H:Qn hs) (K:Qt hs t cs):Qp hs t cs≠[]:=by
 (refine eq_14 (eq_113 H K) fun x q e _=>?_)
 rw [e];simp
theorem eq_1087 {hs:List Int} {t:Nat} {cs:List (Nat×Nat)} (width:Nat) (H:Qn hs) (K:Qt hs t cs) (hh:hs[t]?=some 6):Qt hs (t+1) (Q2w hs t width cs):=by
 have R:=eq_942 hs t width cs (eq_273 H K) (eq_212 H K)
 refine ⟨fun c hc=>?_,?_,R.h.trans K.h,R.l.trans K.l⟩
 ·rcases R.m c hc with h|h
  ·exact ⟨(K.m c h).1,Nat.le_succ_of_le (K.m c h).2⟩
  ·rw [h];exact ⟨(by decide:(10:Nat)∈Qu),Nat.le_refl _⟩
 ·have e:((hs.take (t+1)).filter (· ==6)).length=((hs.take t).filter (· ==6)).length+1:=by
   rw [List.take_add_one,hh,List.filter_append,List.length_append]
   rfl
  rw [e,Nat.pow_succ]
  have:=R.n
  have:=K.n
  keq_rows
theorem eq_979 {hs:List Int} {t:Nat} {c:Nat×Nat} (hh:hs[t]?=some 6) (hc:c.2≤t):Q0 hs (t+1) c=Q0 hs t c:=by
 rw [eq_35,eq_35,eq_120 hh hc,List.filter_append]
 have e:[(6:Int)].filter (· != 6)=[]:=rfl
 rw [e,List.append_nil]
theorem eq_768 {hs:List Int} {t:Nat} {cs:List (Nat×Nat)} (width:Nat) (H:Qn hs) (K:Qt hs t cs) (hh:hs[t]?=some 6):
  Qx ((Ql width (Q2 (Qp hs t cs))).1++[Qd (Ql width (Q2 (Qp hs t cs))).2])=Qp hs (t+1) (Q2w hs t width cs):=by
 have h1:=eq_946 width (Qp hs t cs) (eq_113 H K)
 have h2:=eq_741 hs t width cs (eq_273 H K) (eq_212 H K) fun c hc=>eq_979 hh (K.m c hc).2
 have e1:(Ql width (Q2 (Qp hs t cs))).1=((Q1e (Qp hs t cs)).foldl (Q1w width) ([],[])).1:=congrArg (·.1) h1
 have e2:Qd (Ql width (Q2 (Qp hs t cs))).2=((Q1e (Qp hs t cs)).foldl (Q1w width) ([],[])).2:=congrArg (·.2) h1
 rw [e1,e2]
 exact h2.symm


end
section
theorem eq_1319:True:=by
 k_with "g77"=>have offG:True:=trivial
 k_with "g78"=>skip
 k_with "dl_mem"=>((fail_if_success (k_extra "g78";clear offG));first|(with_reducible first|(apply eq_859<;>assumption)|(apply eq_754<;>assumption)|(apply eq_351<;>assumption)|(apply eq_1151<;>assumption)|(apply eq_1124<;>assumption)|apply eq_109|(apply eq_583<;>assumption)|apply eq_316|(apply eq_1234<;>assumption)|apply eq_463|(apply eq_1041<;>assumption)|apply eq_844|(apply eq_848<;>assumption)|(apply eq_472<;>assumption)|(apply eq_719<;>assumption)|(apply eq_1187<;>assumption)|(apply eq_915<;>assumption)|(apply eq_1037<;>assumption)|(apply eq_675<;>assumption)|(apply eq_962<;>assumption)|fail)|fail)
 trivial
theorem eq_248:∀ (l:List Qj) (i k:Nat),Qf l i=some k→k≤i
 |l,0,k,h=>by cases h
 |l,i+1,k,h=>by
  rw [Qf] at h
  split at h
  ·rw [←Option.some.inj h];exact Nat.le_refl _
  ·exact Nat.le_succ_of_le (eq_248 l i k h)
theorem eq_647 (mx:Nat) (st:List (List Nat)×List Qj) (c:Qj):∃ r,(Q16 mx st c).2=r++[c]:=by
 unfold Q16
 cases h:Q1u mx (st.2++[c]) with
 |none=>exact ⟨_,rfl⟩
 |some i=>
  have hi:i≤st.2.length:=by
   unfold Q1u at h
   split at h
   ·cases h
   ·have:=eq_248 _ _ _ h
    rw [List.length_append,List.length_singleton] at this
    keq_rows
  exact ⟨st.2.drop i,by dsimp only;rw [List.drop_append_of_le_length hi]⟩
theorem eq_314:∀ (k:Nat) (a x:List Nat) (e:Nat),x.length≤k→x.getLast?=some e→Q5 e=false→∃ ps cw cp,Qm (a::Q3 k x)=ps++[(cw,cp)]∧cp≠[]
 |0,a,x,e,hk,he,hw=>by
  have:x=[]:=List.length_eq_zero_iff.mp (Nat.le_zero.mp hk)
  rw [this] at he;cases he
 |k+1,a,x,e,hk,he,hw=>by
  rw [eq_72]
  have hx0:=List.takeWhile_append_dropWhile (p:=fun c=>!Q5 c) (l:=x)
  cases hd:x.dropWhile (fun c=>!Q5 c) with
  |nil=>exact ⟨[],a,x,rfl,fun h=>by rw [h] at he;cases he⟩
  |cons d r=>
   dsimp only
   rw [hd] at hx0
   have hdw:Q5 d=true:=by
    have:=List.head?_dropWhile_not (p:=fun c=>!Q5 c) (l:=x)
    rw [hd] at this
    simpa using this
   have hr0:=List.takeWhile_append_dropWhile (p:=Q5) (l:=d::r)
   have h3:0<((d::r).takeWhile Q5).length:=by rw [List.takeWhile_cons,if_pos hdw];simp
   have hlen:((d::r).dropWhile Q5).length≤k:=by
    have e1:=congrArg List.length hr0
    have e2:=congrArg List.length hx0
    rw [List.length_append] at e1 e2
    keq_rows
   have hle:x.getLast?=(d::r).getLast?:=by
    rw [←hx0,List.getLast?_append,List.getLast?_eq_some_getLast (by simp)]
    rfl
   have hne:(d::r).dropWhile Q5≠[]:=fun h=>by
    rw [h,List.append_nil] at hr0
    have hm:e∈(d::r).takeWhile Q5:=by
     rw [hr0]
     rw [he] at hle
     exact List.mem_of_getLast? hle.symm
    have:=eq_54 hm
    rw [hw] at this;cases this
   have hle2:(d::r).getLast?=((d::r).dropWhile Q5).getLast?:=by
    conv=>lhs;rw [←hr0]
    rw [List.getLast?_append,List.getLast?_eq_some_getLast hne]
    rfl
   (refine eq_26 (eq_314 k ((d::r).takeWhile Q5) ((d::r).dropWhile Q5) e hlen (by rw [←hle2, ←hle];exact he) hw) fun ps cw cp h1 h2=>?_)
   exact ⟨(a,x.takeWhile (fun c=>!Q5 c))::ps,cw,cp,by show (a,x.takeWhile (fun c=>!Q5 c))::Qm ((d::r).takeWhile Q5::Q3 k ((d::r).dropWhile Q5))=_;rw [h1];rfl,h2⟩
theorem eq_856 (mx:Nat) (st:List (List Nat)×List Qj) (c:Qj):((Q16 mx st c).1.map List.length).sum+Q8 (Q16 mx st c).2=(st.1.map List.length).sum+Q8 st.2+Q8 [c]:=by
 unfold Q16
 cases h:Q1u mx (st.2++[c]) with
 |none=>dsimp only;rw [eq_22];keq_rows
 |some i=>
  dsimp only
  have e:=eq_22 ((st.2++[c]).take i) ((st.2++[c]).drop i)
  rw [List.take_append_drop,eq_22] at e
  k_extra "v22"
  have e2:([Qd ((st.2++[c]).take i)].map List.length).sum=Q8 ((st.2++[c]).take i):=by rw [←eq_83];simp
  rw [e2]
  keq_rows
theorem eq_277 (mx:Nat):∀ (ps:List Qj) (st:List (List Nat)×List Qj),((ps.foldl (Q16 mx) st).1.map List.length).sum+Q8 (ps.foldl (Q16 mx) st).2=(st.1.map List.length).sum+Q8 st.2+Q8 ps
 |[],st=>by show _=_+0;rfl
 |c::ps,st=>by
  rw [List.foldl_cons,eq_277 mx ps,eq_856]
  have:Q8 (c::ps)=Q8 [c]+Q8 ps:=eq_22 [c] ps
  keq_rows
theorem eq_679 (l:List Nat):(Q2 l).length≤l.length+2:=by
 have h1:=eq_155 (l.length+1) l
 have h2:=eq_151 (l.length+1) l
 have h3:=eq_144 ([]::Q3 (l.length+1) l) (by rw [List.length_cons];keq_rows)
 rw [List.length_cons] at h3
 unfold Q2
 keq_rows
theorem eq_491:PySem.Unicode.isSpace 75=false:=by decide +kernel
theorem eq_657:PySem.Unicode.isSpace 107=false:=by decide +kernel
structure Q2z (mx:Nat) (l:List Nat) (ch:List Qj) (cw cp:List Nat):Prop where
 e:(Ql mx (Q2 l)).2=ch++[(cw,cp)]
 a:cp≠[]
 b:(ch++[(cw,cp)]).length≤20000
 c:∀ c∈ch++[(cw,cp)],c.1.length≤200000∧c.2.length≤200000
 d:Q8 (ch++[(cw,cp)])≤1000000
 f:0<Q8 (ch++[(cw,cp)])
 g:Txt.isspace (S (Qd (ch++[(cw,cp)])))=false
 h:(Ql mx (Q2 l)).1.length≤100000
 i:(((Ql mx (Q2 l)).1++[Qd (ch++[(cw,cp)])]).map List.length).sum+((Ql mx (Q2 l)).1++[Qd (ch++[(cw,cp)])]).length≤1000000
theorem eq_336:∀ (k:Nat) (a x:List Nat),Qd (Qm (a::Q3 k x))=a++x
 |0,a,x=>by show Qd [(a,x)]=_;rw [eq_42];rfl
 |k+1,a,x=>by
  rw [eq_72]
  have hx0:=List.takeWhile_append_dropWhile (p:=fun c=>!Q5 c) (l:=x)
  cases hd:x.dropWhile (fun c=>!Q5 c) with
  |nil=>show Qd [(a,x)]=_;rw [eq_42];rfl
  |cons d r=>
   dsimp only
   rw [hd] at hx0
   have hr0:=List.takeWhile_append_dropWhile (p:=Q5) (l:=d::r)
   have e:Qd (Qm (a::x.takeWhile (fun c=>!Q5 c)::(d::r).takeWhile Q5::Q3 k ((d::r).dropWhile Q5)))=a++x.takeWhile (fun c=>!Q5 c)++Qd (Qm ((d::r).takeWhile Q5::Q3 k ((d::r).dropWhile Q5))):=rfl
   rw [e,eq_336 k,hr0,List.append_assoc,hx0]
theorem eq_1191 (mx:Nat) {l:List Nat} (hl:l.length≤5000) (hlast:l.getLast?=some 75∨l.getLast?=some 107):∃ ch cw cp,Q2z mx l ch cw cp:=by
 obtain ⟨z,hz,hzw,hzs⟩:∃ z,l.getLast?=some z∧Q5 z=false∧PySem.Unicode.isSpace z=false:=by
  rcases hlast with h|h
  ·exact ⟨_,h,rfl,eq_491⟩
  ·exact ⟨_,h,rfl,eq_657⟩
 obtain ⟨ps,cw,cp,hps,hcp⟩:=eq_314 (l.length+1) [] l z (by keq_rows) hz hzw
 have hps:Q2 l=ps++[(cw,cp)]:=hps
 obtain ⟨ch,hch⟩:∃ r,(Ql mx (Q2 l)).2=r++[(cw,cp)]:=by
  rw [hps,eq_342]
  exact eq_647 _ _ _
 have hok:=eq_337 mx (Q2 l)
 have hcnt:=eq_679 l
 have hsum:((Ql mx (Q2 l)).1.map List.length).sum+Q8 (Ql mx (Q2 l)).2=Q8 (Q2 l):=by
  have:=eq_277 mx (Q2 l) ([],[])
  have e:(([]:List (List Nat)).map List.length).sum+Q8 []=0:=rfl
  rw [e,Nat.zero_add] at this
  exact this
 have hpl:=eq_317 l
 have hd:=hok.d
 rw [hch] at hsum hd
 have hL:Q8 (ch++[(cw,cp)])≤5000:=by keq_rows
 have hmem:∀ c∈ch++[(cw,cp)],c.1.length≤200000∧c.2.length≤200000:=by
  have:∀ q:List Qj,Q8 q≤5000→∀ c∈q,c.1.length≤200000∧c.2.length≤200000:=by
   intro q
   induction q with
   |nil=>intro _ c hc;cases hc
   |cons d q ih=>
    intro hq c hc
    have e:Q8 (d::q)=d.1.length+d.2.length+Q8 q:=by simp [Q8]
    rcases List.mem_cons.mp hc with rfl|hc
    ·keq_rows
    ·exact ih (by keq_rows) c hc
  exact this _ hL
 have hrow:(Qd (ch++[(cw,cp)])).getLast?=some z:=by
  have hs:=eq_336 (l.length+1) [] l
  have hs:Qd (Q2 l)=l:=hs
  rw [hps,eq_65,eq_42] at hs
  have hcl:(txc (cw,cp)).getLast?=some z:=by
   rw [←hs,List.getLast?_append,show (txc (cw,cp)).getLast?=some ((txc (cw,cp)).getLast (by simp [txc,hcp])) from List.getLast?_eq_some_getLast _] at hz
   rw [List.getLast?_eq_some_getLast (by simp [txc,hcp])]
   exact hz
  rw [eq_65,eq_42,List.getLast?_append,hcl]
  rfl
 refine ⟨ch,cw,cp,hch,hcp,by keq_rows,hmem,by keq_rows,?_,?_,by have:=hok.c;keq_rows,?_⟩
 ·rw [eq_22]
  have:0<cp.length:=List.length_pos_iff.mpr hcp
  have e:Q8 [(cw,cp)]=cw.length+cp.length:=by simp [Q8]
  keq_rows
 ·have hm:=List.mem_of_getLast? hrow
  unfold Txt.isspace
  have:(S (Qd (ch++[(cw,cp)]))).cps.all PySem.Unicode.isSpace=false:=by
   rw [Bool.eq_false_iff]
   intro h
   rw [Array.all_eq_true_iff_forall_mem] at h
   have:=h z (by simpa [S] using hm)
   rw [hzs] at this;cases this
  rw [this,Bool.and_false]
 ·rw [List.map_append,List.sum_append,List.length_append,List.length_singleton]
  have e:([Qd (ch++[(cw,cp)])].map List.length).sum=Q8 (ch++[(cw,cp)]):=by rw [←eq_83];simp
  rw [e]
  have:=hok.c
  keq_rows
noncomputable def Q20 (ns:List Int):List (Nat×Nat):=(Q1h ns).map fun c=>(c,0)
theorem eq_702:∀ g∈Q3t,∀ c∈g,c∈Qu:=by decide
theorem eq_585 (n:Int):∀ c∈Q1x n,c∈Qu:=by
 intro c hc
 unfold Q1x at hc
 simp only [List.mem_append,List.mem_singleton] at hc
 have hs:∀ i,i<18→Qu.getD i 0∈Qu:=fun i hi=>eq_98 (by show i<18;exact hi)
 have b1:=Int.fmod_nonneg_of_pos (n.fdiv 5) (show (0:Int)<18 by decide)
 have b2:=Int.fmod_lt_of_pos (n.fdiv 5) (show (0:Int)<18 by decide)
 have b3:=Int.fmod_nonneg_of_pos (n.fdiv 90) (show (0:Int)<18 by decide)
 have b4:=Int.fmod_lt_of_pos (n.fdiv 90) (show (0:Int)<18 by decide)
 have b5:=Int.fmod_nonneg_of_pos n (show (0:Int)<5 by decide)
 have b6:=Int.fmod_lt_of_pos n (show (0:Int)<5 by decide)
 rcases hc with (hc|hc)|hc
 ·exact eq_702 _ (eq_98 (by show _<5;keq_rows)) c hc
 ·rw [hc];exact hs _ (by keq_rows)
 ·rw [hc];exact hs _ (by keq_rows)
theorem eq_486 (hs:List Int) (ns:List Int) (hn:ns.length≤8):Qt hs 0 (Q20 ns):=by
 refine ⟨fun c hc=>?_,?_,rfl,?_⟩
 ·(refine eq_4 (List.mem_map.mp hc) fun d hd zq1=>?_;subst zq1)
  refine ⟨?_,Nat.le_refl _⟩
  unfold Q1h at hd
  rcases List.mem_append.mp hd with h|h
  ·rcases List.mem_cons.mp h with rfl|h
   ·show 0xfb03∈Qu;decide
   ·(refine eq_4 (List.mem_flatMap.mp h) fun n _ hx=>?_)
    exact eq_585 n d hx
  ·rw [List.mem_singleton.mp h];show 75∈Qu;decide
 ·have:=eq_69 ns
  unfold Q20 Q1h
  simp only [List.length_map,List.length_append,List.length_cons,List.length_nil,List.take_zero,List.filter_nil,Nat.pow_zero]
  keq_rows
 ·unfold Q20 Q1h
  rw [List.map_append]
  exact List.getLast?_concat
theorem eq_821 (hs:List Int) (ns:List Int):Qp hs 0 (Q20 ns)=Q1h ns:=by
 unfold Qp Q20
 rw [List.flatMap_map]
 have:∀ c:Nat,Q0 hs 0 (c,0)=[c]:=fun c=>by
  unfold Q0
  dsimp only
  rw [show min 0 hs.length-0=0 by keq_rows,List.take_zero]
  rfl
 simp [this]
noncomputable def Qo (hs:List Int) (width:Nat) (ns:List Int):Nat→List (Nat×Nat)
 |0=>Q20 ns
 |i+1=>if hs[i]?=some 6 then Q2w hs i width (Qo hs width ns i) else Qo hs width ns i
theorem eq_41 {hs:List Int} (H:Qn hs) (width:Nat) {ns:List Int} (hn:ns.length≤8):∀ i,Qt hs i (Qo hs width ns i)
 |0=>eq_486 hs ns hn
 |i+1=>by
  have ih:=eq_41 H width hn i
  unfold Qo
  split
  ·exact eq_1087 width H ih (by assumption)
  ·exact eq_487 ih
noncomputable def Qv (hs:List Int) (width:Nat) (ns:List Int) (i:Nat):List Nat:=Qp hs i (Qo hs width ns i)
theorem eq_547 {hs:List Int} (H:Qn hs) (c:Nat×Nat):Q0 hs 5 c=Qa c.1 (hs.drop c.2):=by
 unfold Q0
 congr 1
 rw [H.len]
 exact List.take_of_length_le (by rw [List.length_drop,H.len];keq_rows)


end
section
section
variable {prog:Program} {w:World} {s:Shared} {R:Result→Shared→Prop} {name qual:Str} {params:Arguments} {body:List Stmt} {scope:Scope} {dV kV doc pm cdv ct:Value} {an:Option Addr} {fo:Obj} {f:Addr} {args:Args} {binds:List (Str×Value)} {hides:List (Addr×Obj)}
theorem eq_1299:True:=by
 k_with "g78"=>have offG:True:=trivial
 trivial
theorem eq_1160 (hhid:∀ p∈hides,s.heap.get? p.1=some p.2) (hlim:s.heap.NoLimit)
  (ho:s.heap.get? f=some fo) (hd:fo.data= .func (fnX name qual params body scope [] dV kV doc pm an cdv ct)) (hcd:s.heap.CodeRec cdv qual)
  (hbind:BindsTo s (fnX name qual params body scope [] dV kV doc pm an cdv ct) args binds)
  (hkind:∀ n,∀ x∈binds,scope.names.lookup x.1=some .local∨(scope.names.lookup x.1=some .cell∧((cellsFrom n scope.names []).lookup x.1).isSome=true))
  (hnd:((cellsFrom 0 scope.names []).map (·.1)).Nodup)
  (h:∀ g L' h₁ tk cells,Fr g L' h₁ (bindL (envOfC qual scope L' f cdv).kindOf binds fun _=>none)→News g L' h₁ (cells++hides)→
   CellsAre (bindC (envOfC qual scope L' f cdv).kindOf binds fun _=>none) (cellsFrom (L'+1) scope.names []) cells→Below callerA g [] g→(∀ b o,s.heap.get? b=some o→b∉hides.map (·.1)→g.get? b=some o)→(∀ b o,g.get? b=some o→s.heap.get? b=some o)→(∀ p∈hides,p.1<L')→
   wpAny (model prog w) (callerA.deeper (envOfC qual scope L' f cdv)) (execs body (envOfC qual scope L' f cdv))
    (fun fl s'=>R (.ok (.ret (match fl with|.ret v=>v|_=>.none))) s')
    (fun e s'=>wpAny (model prog w) (callerA.deeper (envOfC qual scope L' f cdv)) («leaving» (envOfC qual scope L' f cdv) e) (fun _ s''=>R (.error e) s'') (fun e' s''=>R (.error e') s'') s')
    { s with heap:=h₁,toks:=tk })
  (hco:scope.isCoroutine=false:=by rfl) (hgen:scope.isGenerator=false:=by rfl) (hk:scope.kind= .function:=by rfl):codeAny (model prog w) callerA (.call (.ref f) args) R s:=by
 have hroom:callerA.depth<recursionLimit:=by decide +kernel
 refine codeAny_call_function hroom ho hd hco hgen rfl hcd (hbind _ _ _ _ ?_)
 refine wpAny_newFunctionEnv_cells hk (hkind _) fun env' he s' x=>?_
 subst he
 refine ⟨hlim.keeps x.toInCall.keep,codeAny_func ?_⟩
 (refine eq_14 (x.done) fun h₁ tk zq1 _=>?_;subst zq1)
 have hk₁:=x.toInCall.keep
 (refine eq_4 (Cl.news (h₀:=s.heap) (Nat.le_refl _) fun n c hm=>⟨x.cell n c (lookup_of_mem_nodup (cellsFrom_names scope.names 0 (s.heap.objs.size+1) [] [] rfl▸hnd) hm),x.above n c hm⟩) fun cells NC Y=>?_)
 refine h (hideAll s.heap (hides.map (·.1))) s.heap.objs.size h₁ tk cells ⟨x.toInCall.ns,fun b o e=>hk₁ b o (of_hideAll _ e),Nat.le_of_eq (hideAll_size _ _)⟩ (fun p hp=>?_) Y (below_caller _) (fun b o e hn=>hideAll_get _ e hn) (fun b o e=>of_hideAll _ e) (fun p hp=>Heap.lt_size (hhid p hp))
 k_extra "vr"
 ·refine ⟨(NC p hp).1,(NC p hp).2.1,?_⟩
  cases q:(hideAll s.heap (hides.map (·.1))).get? p.1 with
  |none=>rfl
  |some o=>
   have z:=of_hideAll _ q
   rw [(NC p hp).2.2] at z
   cases z
 ·exact ⟨hk₁ _ _ (hhid p hp),Nat.ne_of_lt (Heap.lt_size (hhid p hp)),hideAll_none _ (List.mem_map_of_mem hp)⟩
end
section
variable {prog:Program} {w:World} {s:Shared} {R:Result→Shared→Prop} {K:Frag} {name qual:Str} {params:Arguments} {body:List Stmt} {scope:Scope} {dV kV doc pm cdv ct oc:Value} {an od:Option Addr} {osl:Array (Option Value)} {f:Addr} {args:Args} {binds:List (Str×Value)} {hides:List (Addr×Obj)}
theorem eq_1155 (X:K.In s.heap) (hhid:∀ p∈hides,s.heap.get? p.1=some p.2) (hlim:s.heap.NoLimit)
  (ho:K.lookup f=some ⟨oc,od,.func (fnOf name qual params body scope dV kV doc pm an cdv ct),osl⟩) (hcd:codeIn K cdv qual=true)
  (hbind:BindsTo s (fnOf name qual params body scope dV kV doc pm an cdv ct) args binds) (hkind:(binds.all fun y=>scope.names.lookup y.1==some .local||scope.names.lookup y.1==some .cell)=true)
  (hnd:((cellsFrom 0 scope.names []).map (·.1)).Nodup)
  (h:∀ g L' h₁ tk cells,Fr g L' h₁ (bindL (envOfC qual scope L' f cdv).kindOf binds fun _=>none)→News g L' h₁ (cells++hides)→
   CellsAre (bindC (envOfC qual scope L' f cdv).kindOf binds fun _=>none) (cellsFrom (L'+1) scope.names []) cells→Below callerA g [] g→(∀ b o,s.heap.get? b=some o→b∉hides.map (·.1)→g.get? b=some o)→(∀ b o,g.get? b=some o→s.heap.get? b=some o)→(∀ p∈hides,p.1<L')→
   wpAny (model prog w) (callerA.deeper (envOfC qual scope L' f cdv)) (execs body (envOfC qual scope L' f cdv))
    (fun fl s'=>R (.ok (.ret (match fl with|.ret v=>v|_=>.none))) s')
    (fun e s'=>wpAny (model prog w) (callerA.deeper (envOfC qual scope L' f cdv)) («leaving» (envOfC qual scope L' f cdv) e) (fun _ s''=>R (.error e) s'') (fun e' s''=>R (.error e') s'') s')
    { s with heap:=h₁,toks:=tk })
  (hco:scope.isCoroutine=false) (hgen:scope.isGenerator=false) (hk:scope.kind= .function):codeAny (model prog w) callerA (.call (.ref f) args) R s:=
 eq_1160 hhid hlim (X _ _ ho) rfl (codeRec_of X hcd) hbind (kindsX hkind) hnd h hco hgen hk
end
noncomputable def pE (q:Program):Program:={ q with main:={ q.main with body:=[.Import [{ name:=Str.ofString "sys",asname:=none,pos:=default }] default] } }
noncomputable def Q4d (q:Program) (loose:List Str):List Str:=loose++((recsOf q).map (·.name)++((litsOf q).map (·.1)++(clssOf q loose).map (·.name)))
theorem eq_1091 {q:Program} {loose:List Str} {mean:ExcName→Option Value} {mg mb:Str→Option Value} {h g:Heap} {hides:List (Addr×Obj)} (T:Top q loose mean mg mb h) (hh:∀ p∈hides,h.get? p.1=some p.2) (hf:∀ p∈hides,∃ vs,p.2.data= .fields vs)
  (hk:∀ b o,h.get? b=some o→b∉hides.map (·.1)→g.get? b=some o):Top (pE q) (Q4d q loose) mean mg mb g:=by
 have keep:∀ b o,h.get? b=some o→(∀ vs,o.data≠ .fields vs)→g.get? b=some o:=fun b o e hn=>hk b o e fun hm=>by
  (refine eq_4 (List.mem_map.mp hm) fun p hp zq2=>?_;subst zq2)
  (refine eq_5 (hf p hp) fun vs hv=>?_)
  rw [hh p hp] at e
  rw [←Option.some.inj e] at hn
  exact hn vs hv
 have ns:∀ a m,h.Ns a m→g.Ns a m:=fun a m ⟨o,es,ep,x,d,r⟩=>⟨o,es,ep,keep a o x (fun vs e=>by rw [d] at e;cases e),d,r⟩
 refine ⟨ns _ _ T.g,ns _ _ T.b,?_,?_,?_,?_,?_,?_,T.builtins,?_,?_,?_⟩
 ·(refine eq_4 (T.nolimit) fun mc a b=>?_)
  exact ⟨mc,ns _ _ a,b⟩
 ·(refine eq_4 (T.nodigits) fun mc a b=>?_)
  exact ⟨mc,ns _ _ a,b⟩
 ·intro d hd;cases hd
 ·intro d hd;cases hd
 ·intro x d hx;cases hx
 ·intro x h1 h2 _ _ _
  unfold Q4d at h2
  simp only [List.mem_append,not_or] at h2
  exact T.free x h1 h2.1 h2.2.1 h2.2.2.1 h2.2.2.2
 ·intro d hd;cases hd
 ·(refine eq_771 (T.bmain) fun bm ob a1 a2 a3 a4 a5 a6=>?_)
  exact ⟨bm,ob,a1,a2,keep _ _ a3 (fun vs e=>by rw [a6] at e;cases e),a4,a5,a6⟩
 ·intro hi
  have hf:importsNone (pE q)=false:=rfl
  rw [hf] at hi
  cases hi


end
section
open PyProof.Rows.LCg
theorem eq_1321:True:=by
 k_with "g79"=>skip
 k_with "dl_mem"=>((fail_if_success (k_extra "g79";clear offG));first|(with_reducible first|(apply eq_631<;>assumption)|apply eq_901|apply eq_627|apply eq_126|apply eq_1029|apply eq_141|apply eq_601|apply eq_1177|apply eq_740|apply eq_683|(apply eq_789<;>assumption)|apply eq_513|apply eq_47|(apply eq_832<;>assumption)|(apply eq_570<;>assumption)|apply eq_1096|apply eq_608|apply eq_1016|(apply eq_614<;>assumption)|apply eq_817|(apply eq_907<;>assumption)|apply eq_594|apply eq_953|apply eq_842|apply eq_532|apply eq_222|apply eq_1126|(apply eq_776<;>assumption)|(apply eq_576<;>assumption)|(apply eq_235<;>assumption)|apply eq_1180|apply eq_784|apply eq_1147|(apply eq_473<;>assumption)|(apply eq_1106<;>assumption)|(apply eq_698<;>assumption)|fail)|fail)
 k_with "g13"=>skip
 k_with "g14"=>skip
 k_with "g16"=>skip
 k_with "g17"=>skip
 k_with "g18"=>skip
 k_with "g52"=>skip
 k_with "g58"=>skip
 k_with "g46"=>skip
 k_with "exec For Name Call cons nil"=>((fail_if_success (k_extra "g79";clear offG));k_here;refine halt ?_)
 k_with "g56"=>skip
 k_with "g44"=>skip
 k_with "g71"=>skip
 k_with "exec Assign cons ListComp"=>((fail_if_success (k_extra "g79";clear offG));k_here;refine halt ?_)
 trivial
theorem eq_1208 {vs:List Value} {ns:List Int} (h:IntsAre vs ns) {i:Nat} {v:Value} (hv:vs[i]?=some v):∃ n t,ns[i]?=some n∧v= .int n t:=by
 have hl:=h.length
 have hi:i<ns.length:=by rw [←hl];exact (List.getElem?_eq_some_iff.mp hv).1
 (refine eq_5 (h.get i _ (List.getElem?_eq_getElem hi)) fun t e=>?_)
 rw [hv] at e
 exact ⟨_,t,List.getElem?_eq_getElem hi,Option.some.inj e⟩
section
variable {prog:Program} {w:World} {A:Around} {E:Value→Shared→Prop} {s:Shared} {h₀:Heap} {L:Addr} {m:Str→Option Value} {news:List (Addr×Obj)}
theorem eq_197 {env:Env} {y:Str} {py:Pos} {n:Nat} {J:Nat→List Value→List (Addr×Obj)→Prop} {P:Shared→Prop} (hL:env.locals=L) (hy:env.kindOf y=some .local) (hp:(env.scope.kind== .class||(env.scope.kind== .module&&env.locals != env.globals))=false)
  (k:∀ D h tk g ys news',J n ys news'→Fr h₀ L h (fun z=>if z=y then some (.ref D) else m z)→News h₀ L h ((D,lst ys)::news')→(∀ p∈news',p.1≠D)→1≤tk→AllBare g→P ⟨h,g,s.drawn,tk,s.os⟩):
  Q3k prog w A env h₀ L m E s (some (assign (.Name y py) env)) (fun _ s'=>P s') n J:=eq_665 (Q:=fun _ s'=>P s') hL hy hp k
theorem eq_1080 {value slice:PySem.Expr} {l:Addr} {vs:List Value} {ns:List Int} {t:Nat} {u2:Tok} {Q:Value→Shared→Prop} (F:Fr h₀ L s.heap m) (N:News h₀ L s.heap news) (hl:s.heap.IsList l vs.toArray) (hi:IntsAre vs ns) (hn:ns.length≤1000)
  (h:∀ D ws h',Fr h₀ L h' m→News h₀ L h' ((D,listOf (List.toArray ws) 0)::news)→(∀ p∈news,p.1<D)→IntsAre ws (ns.take t)→Q (.ref D) { s with heap:=h' })
  (hs:subscripted slice false (.ref l) (.ref s.heap.objs.size)=operate [.ref s.heap.objs.size,.ref l] (getItem (.ref l) (.ref s.heap.objs.size))) (ht:∀ r,letTemporaryGo value (.ref l) r=pure ()):
  wpAny (model prog w) A (subscriptTail value slice (.ref l) (.ref s.heap.objs.size)) Q E { s with heap:=s.heap.push { cls:=.type "slice",data:=.fields #[.none,.int (t:Nat) u2,.none] } }:=
 kmk_slice_ints F N hl .none (IsPart.int _ _) hi (kmk_upto hi (Int.natCast_nonneg _)) rfl (fun D ws h' F' N' l1 hI _ _=>h D ws h' F' N' l1 hI) hs ht (kmk_sz hi (by rw [sizeLine_eq];keq_rows))
theorem eq_779 {value slice:PySem.Expr} {l:Addr} {vs:List Value} {ns:List Int} {t:Nat} {u2:Tok} {Q:Value→Shared→Prop} (F:Fr h₀ L s.heap m) (N:News h₀ L s.heap news) (hl:s.heap.IsList l vs.toArray) (hi:IntsAre vs ns) (hn:ns.length≤1000)
  (h:∀ D ws h',Fr h₀ L h' m→News h₀ L h' ((D,listOf (List.toArray ws) 0)::news)→(∀ p∈news,p.1<D)→IntsAre ws (ns.drop t)→Q (.ref D) { s with heap:=h' })
  (hs:subscripted slice false (.ref l) (.ref s.heap.objs.size)=operate [.ref s.heap.objs.size,.ref l] (getItem (.ref l) (.ref s.heap.objs.size))) (ht:∀ r,letTemporaryGo value (.ref l) r=pure ()):
  wpAny (model prog w) A (subscriptTail value slice (.ref l) (.ref s.heap.objs.size)) Q E { s with heap:=s.heap.push { cls:=.type "slice",data:=.fields #[.int (t:Nat) u2,.none,.none] } }:=
 kmk_slice_ints F N hl (IsPart.int _ _) .none hi (kmk_from hi (Int.natCast_nonneg _)) rfl (fun D ws h' F' N' l1 hI _ _=>h D ws h' F' N' l1 hI) hs ht (kmk_sz hi (by rw [sizeLine_eq];keq_rows))
end
theorem eq_1277:True:=by
 k_with "subscriptTail Name Slice ref ref"=>((fail_if_success (k_extra "g79";clear offG));k_here;refine halt ?_)
 k_with "g32"=>skip
 k_with "g33"=>skip
 trivial
noncomputable def Q4j (e:Int):Addr:=if e=0 then 313 else if e=1 then 320 else if e=2 then 327 else if e=3 then 334 else 341
theorem eq_107 {e:Int} {P:Int→Prop} (h0:0≤e) (h5:e<5) (p0:P 0) (p1:P 1) (p2:P 2) (p3:P 3) (p4:P 4):P e:=by
 obtain ⟨k,rfl⟩:=Int.eq_ofNat_of_zero_le h0
 match k,h5 with
 |0,_=>exact p0
 |1,_=>exact p1
 |2,_=>exact p2
 |3,_=>exact p3
 |4,_=>exact p4
theorem eq_1214 {e:Int} (h0:0≤e) (h5:e<5):(#[Value.ref 313,Value.ref 320,Value.ref 327,Value.ref 334,Value.ref 341]:Array Value)[e.toNat]?=some (.ref (Q4j e)):=eq_107 (P:=fun e=>(#[Value.ref 313,Value.ref 320,Value.ref 327,Value.ref 334,Value.ref 341]:Array Value)[e.toNat]?=some (.ref (Q4j e))) h0 h5 rfl rfl rfl rfl rfl
theorem eq_478 (w:World) (e:Int) (l:List Nat) (t:Tok) (h0:0≤e) (h5:e<5) (hx:l.length≤20000):Ct w 1 (Q4j e) [.str (S l) t] [] (fun v _=>∃ t,v= .str (S (Q2f (Q3p e) l)) t):=
 eq_107 (P:=fun e=>Ct w 1 (Q4j e) [.str (S l) t] [] (fun v _=>∃ t,v= .str (S (Q2f (Q3p e) l)) t)) h0 h5 (eq_1064 w l t hx) (eq_1100 w l t hx) (eq_710 w l t hx) (eq_1026 w l t hx) (eq_514 w l t hx)
theorem eq_497 {P:Params} {e:Int} (h0:0≤e) (h5:e<5):keepIn (Kx P) (.ref (Q4j e))=true:=eq_107 (P:=fun e=>keepIn (Kx P) (.ref (Q4j e))=true) h0 h5 (show keepIn (Kx P) (.ref 313)=true by kernel_rfl) (show keepIn (Kx P) (.ref 320)=true by kernel_rfl) (show keepIn (Kx P) (.ref 327)=true by kernel_rfl) (show keepIn (Kx P) (.ref 334)=true by kernel_rfl) (show keepIn (Kx P) (.ref 341)=true by kernel_rfl)
theorem eq_1290:True:=by
 k_with "callWith ref"=>((fail_if_success (k_extra "g79";clear offG));k_here;(with_reducible show wpAny _ _ (callWith _ (Value.ref (Q4j _)) _ _ _) _ _ _);k_dflt (refine' callWith_K (by k_asm) (by first|exact eq_497 (by with_reducible assumption) (by with_reducible assumption)|fail) ?_;k_whole))
 trivial
local macro_rules | `(tactic| k_lt $_:ident) => `(tactic| k_extra "j")
set_option maxHeartbeats 4000000
theorem eq_1270:True:=by
 k_with "call ref"=>((fail_if_success (k_extra "g79";clear offG));k_here;k_dflt (refine' eq_61 (cn:=Str.ofString "law") (a:=379) (ccd:=.ref 378) (eq_478 _ _ _ _ ?_ ?_ ?_) (by k_asm) (by k_asm) (by k_asm) (by k_asm) (by k_asm) (by first|(first|exact rfl|with_reducible assumption)|fail) (by first|(first|keq_rows|ktr_room|decide +kernel)|fail) (by first|(first|keq_rows|ktr_units|decide +kernel)|fail) (by first|k_extra "t"|fail) (by first|(try dsimp only);with_reducible assumption|fail) ?_;k_extra "rotp";(· with_reducible assumption);k_extra "rotp";(· with_reducible assumption);k_extra "rotp";(· with_reducible assumption);intro v9ω h9ω t9ω o9ω g9ω F9ω N9ω p9ω ht9ω hg9ω;(revert p9ω;intro zq2ω;(refine eq_5 (zq2ω) fun u9ω p9ω=>?_;(try clear zq2ω)));subst p9ω))
 k_with "call ref"=>((fail_if_success (k_extra "g79";clear offG));k_here;k_dflt (refine' eq_61 (cn:=Str.ofString "law") (a:=379) (ccd:=.ref 378) (eq_923 _ _ _ ?_) (by k_asm) (by k_asm) (by k_asm) (by k_asm) (by k_asm) (by first|(first|exact rfl|with_reducible assumption)|fail) (by first|(first|keq_rows|ktr_room|decide +kernel)|fail) (by first|(first|keq_rows|ktr_units|decide +kernel)|fail) (by first|k_extra "t"|fail) (by first|(try dsimp only);with_reducible assumption|fail) ?_;k_extra "rotp";(· with_reducible assumption);intro v9ω h9ω t9ω o9ω g9ω F9ω N9ω p9ω ht9ω hg9ω;(revert p9ω;intro zq3ω;(refine eq_5 (zq3ω) fun u9ω p9ω=>?_;(try clear zq3ω)));subst p9ω))
 k_with "subscriptTail Name Name ref int"=>((fail_if_success (k_extra "g79";clear offG));k_here;k_dflt (refine' eq_136 (by k_asm) (by first|k_mem|fail) (by first|keq_rows|fail) (by first|keq_rows|fail) (by with_reducible assumption) ?_ (by first|with_unfolding_all rfl|fail)))
 k_with "subscriptTail Name Subscript ref int"=>((fail_if_success (k_extra "g79";clear offG));k_here;k_dflt (refine' eq_136 (by k_asm) (by first|k_mem|fail) (by first|keq_rows|fail) (by first|keq_rows|fail) (by with_reducible assumption) ?_ (by first|with_unfolding_all rfl|fail)))
 trivial
noncomputable def drawnOf (ns:List Int):List Int:=(ns.take 5).map fun x=>x.fmod 1000000
theorem eq_1181 (ns:List Int):∃ n:Nat,17096+((ns.take 5).map fun x=>x.fmod 1000000).sum=(n:Int)∧n≤10000000:=by
 have key:∀ (l:List Int),0≤(l.map fun x=>x.fmod 1000000).sum∧(l.map fun x=>x.fmod 1000000).sum≤1000000*l.length:=by
  intro l
  induction l with
  |nil=>exact ⟨Int.le_refl _,Int.le_refl _⟩
  |cons a r ih=>
   have h1:=Int.fmod_nonneg_of_pos a (show (0:Int)<1000000 by decide)
   have h2:=Int.fmod_lt_of_pos a (show (0:Int)<1000000 by decide)
   simp only [List.map_cons,List.sum_cons,List.length_cons]
   keq_rows
 (refine eq_7 (key (ns.take 5)) fun a b=>?_)
 have hl:(ns.take 5).length≤5:=by rw [List.length_take];keq_rows
 exact ⟨(17096+((ns.take 5).map fun x=>x.fmod 1000000).sum).toNat,by keq_rows,by keq_rows⟩
theorem eq_830 {M:Model} {A:Around} {E:Value→Shared→Prop} {s:Shared} {h₀:Heap} {L a c:Addr} {cn:Str} {cs:Scope} {ccd v:Value} {pos:Pos} {Q:Value→Shared→Prop} {news:List (Addr×Obj)} {o:Obj} (N:News h₀ L s.heap news) (hm:(c,o)∈news) (hd:o.data= .cell (some v)) (h:Q v s)
  (h1:(cellsFrom (L+1) cs.names []).lookup (Str.ofString "hands")=some c) (h2:cs.kind= .function) (h3:(envX cn cs L a ccd (cellsFrom (L+1) cs.names [])).kindOf (Str.ofString "hands")=some .cell):wpAny M A (eval (.Name (Str.ofString "hands") pos) (envOfC cn cs L a ccd)) Q E s:=
 nameX_C (cl:=cellsFrom (L+1) cs.names []) N h1 hm hd h h2 h3
theorem eq_1278:True:=by
 k_with "eval Name"=>((fail_if_success (k_extra "g79";clear offG));k_here;(with_reducible show wpAny _ _ (eval (Expr.Name (Str.ofString "hands") _) (envOfC _ _ _ _ _)) _ _ _);k_dflt (refine' eq_830 (by k_asm) ?_ (by with_reducible assumption) ?_ (by first|kernel_rfl|fail) (by first|kernel_rfl|fail) (by first|kernel_rfl|fail);k_extra "rotp";(· k_mem)))
 trivial
theorem eq_567 {g h:Heap} {L EA HA C:Addr} {oe oh oc:Obj} {p1 p2 p4 p6:Addr×Obj} {r:List (Addr×Obj)} {w:Value} (N:News g L h (p1::p2::(EA,oe)::p4::(HA,oh)::p6::(C,oc)::r)) (hd:oc.data= .cell (some w)):
  ∃ EA' oc',EA'=EA∧oc'=oc∧oc'.data= .cell (some w)∧News g L h ((EA',oe)::(HA,oh)::(C,oc')::r):=
 ⟨EA,oc,rfl,rfl,hd,News.sub N fun p hp=>by
  k_extra "v0"
  ·exact .tail _ (.tail _ (.head _))
  ·k_extra "v0"
   ·exact .tail _ (.tail _ (.tail _ (.tail _ (.head _))))
   ·exact .tail _ (.tail _ (.tail _ (.tail _ (.tail _ (.tail _ hp)))))⟩
theorem eq_1043 {x:Int} {n:Nat} (h:x=(n:Int)):4+(x.fdiv 3000).fmod 24=((4+n / 3000 % 24:Nat):Int):=by
 rw [h]
 have e1:(n:Int).fdiv 3000=((n / 3000:Nat):Int):=by
  rw [Int.fdiv_eq_ediv_of_nonneg _ (by decide)];keq_rows
 rw [e1]
 have e2:((n / 3000:Nat):Int).fmod 24=((n / 3000 % 24:Nat):Int):=by
  rw [Int.fmod_eq_emod_of_nonneg _ (by decide)];keq_rows
 rw [e2]
 keq_rows
noncomputable abbrev Q2j:Str:=Str.ofString "cells"
noncomputable abbrev turnN:Str:=Str.ofString "turn"
noncomputable abbrev fmtN:Str:=Str.ofString "formatter"
noncomputable def LawJ (C HA EA:Addr) (oh oe oc:Obj) (hs:List Int) (width:Nat) (ms:List Int) (m2:Str→Option Value) (i:Nat) (m:Str→Option Value) (news:List (Addr×Obj)):Prop:=
 ∃ op1 op2 keep ca u,Qz op1∧Qz op2∧news=(162,op1)::(169,op2)::keep∧(∀ p∈keep,@Ne Nat p.1 162∧ @Ne Nat p.1 169)∧(EA,oe)∈keep∧(HA,oh)∈keep∧(C,oc)∈keep∧Q1q keep ca (Qo hs width ms i)∧
  m Q2v=some (.str (S (Qv hs width ms i)) u)∧m Q2j=some (.ref ca)∧∀ y,y≠Q2v→y≠Q2j→y≠turnN→y≠fmtN→m y=m2 y
theorem eq_139 {g h':Heap} {L C HA EA I ca:Addr} {oh oe oc io op1 op2:Obj} {hs:List Int} {width i tk:Nat} {ms:List Int} {m2 m':Str→Option Value} {keep:List (Addr×Obj)} {s:Shared} {g':Array GenState} {Q:Flow→Shared→Prop} {u:Tok} {l:List Nat} (t1:Qz op1) (t2:Qz op2) (sep:∀ p∈keep,@Ne Nat p.1 162∧ @Ne Nat p.1 169) (k1:(EA,oe)∈keep) (k2:(HA,oh)∈keep) (k3:(C,oc)∈keep)
  (kc:Q1q keep ca (Qo hs width ms (i+1))) (F:Fr g L h' m') (N:News g L h' ((I,io)::(162,op1)::(169,op2)::keep)) (off:∀ p∈(162,op1)::(169,op2)::keep,p.1≠I) (ht:1≤tk) (hg:AllBare g') (htx:m' Q2v=some (.str (S l) u)) (hl:l=Qv hs width ms (i+1)) (hce:m' Q2j=some (.ref ca))
  (hr:∀ y,y≠Q2v→y≠Q2j→y≠turnN→y≠fmtN→m' y=m2 y):Qi g L I io s (LawJ C HA EA oh oe oc hs width ms m2 (i+1)) Q .next ⟨h',g',s.drawn,tk,s.os⟩:=
 ⟨h',tk,g',m',_,rfl,F,N,off,ht,hg,op1,op2,keep,ca,u,t1,t2,rfl,sep,k1,k2,k3,kc,by rw [←hl];exact htx,hce,hr⟩
theorem eq_106 {hs:List Int} {width i:Nat} {ms:List Int} {e:Int} (he:hs[i]?=some e) (h6:e≠6):Qo hs width ms (i+1)=Qo hs width ms i:=by
 show (if hs[i]?=some 6 then _ else _)=_
 rw [if_neg]
 rw [he]
 exact fun q=>h6 (Option.some.inj q)
theorem eq_1203 {n:Nat} {width i:Nat} {ms:List Int} {e:Int} (hm:ms.length≤8) (he:(Q7 n)[i]?=some e) (h5:e<5):Q2f (Q3p e) (Qv (Q7 n) width ms i)=Qv (Q7 n) width ms (i+1):=by
 unfold Qv
 rw [eq_106 he (by keq_rows)]
 exact eq_970 (eq_25 n) (eq_41 (eq_25 n) width hm i) he h5
theorem eq_643 {n:Nat} {width i:Nat} {ms:List Int} (hm:ms.length≤8) (he:(Q7 n)[i]?=some 5):(Qv (Q7 n) width ms i).flatMap Q15=Qv (Q7 n) width ms (i+1):=by
 unfold Qv
 rw [eq_106 he (by decide)]
 exact eq_1056 (eq_25 n) (eq_41 (eq_25 n) width hm i) he
theorem eq_411 {hs:List Int} {width i:Nat} {ms:List Int} (he:hs[i]?=some 6):Qo hs width ms (i+1)=Q2w hs i width (Qo hs width ms i):=by
 show (if hs[i]?=some 6 then _ else _)=_
 rw [if_pos he]
theorem eq_803 {n:Nat} {width i:Nat} {ms:List Int} {ch:List Qj} {cw cp:List Nat} (hm:ms.length≤8) (he:(Q7 n)[i]?=some 6) (x:Q2z width (Qv (Q7 n) width ms i) ch cw cp):
  Qx ((Ql width (Q2 (Qv (Q7 n) width ms i))).1++[Qd (ch++[(cw,cp)])])=Qv (Q7 n) width ms (i+1):=by
 rw [←x.e]
 unfold Qv
 rw [eq_411 he]
 exact eq_768 width (eq_25 n) (eq_41 (eq_25 n) width hm i) he
theorem Fa2.snoc_inv {α β:Type} {R:α→β→Prop} {as:List α} {bs:List β} {b:β} (h:Fa2 R as (bs++[b])):∃ as' a,as=as'++[a]∧Fa2 R as' bs∧R a b:=by
 induction bs generalizing as with
 |nil=>
  cases h with
  |cons r q=>
   cases q
   exact ⟨[],_,rfl,.nil,r⟩
 |cons c bs ih=>
  cases h with
  |cons r q=>
   (refine Mine.eq_360 (ih q) fun as' a e h1 h2=>?_)
   exact ⟨_::as',a,by rw [e];rfl,.cons r h1,h2⟩
section
variable {prog:Program} {w:World} {M:Model} {A:Around} {E:Value→Shared→Prop} {s:Shared} {h₀:Heap} {L C:Addr} {m mg mb:Str→Option Value} {scope:Scope} {cl:List (Str×Addr)} {env:Env} {x:Str} {pos:Pos} {K:Frag} {p:Program} {loose:List Str} {mean:ExcName→Option Value} {news:List (Addr×Obj)}
theorem eq_751 {c:Addr} {o:Obj} {v:Value} {Q:Value→Shared→Prop} (N:News h₀ L s.heap news) (hm:(c,o)∈news) (hd:o.data= .cell (some v)) (h:Q v s) (h1:cl.lookup x=some c) (h2:(compEnvC scope cl C env).scope.kind= .function) (h3:(compEnvC scope cl C env).kindOf x=some .cell) (hb:(x==("__debug__":Str))=false:=by decide):wpAny M A (eval (.Name x pos) (compEnvC scope cl C env)) Q E s:=
 wpAny_Name (wpAny_loadName_cell h2 h3 h1 ⟨o,N.get hm,hd⟩ h) hb
theorem eq_461 {v:Value} {Q:Value→Shared→Prop} (F:Fr h₀ L s.heap m) (X:K.In h₀) (T:Top p loose mean mg mb h₀) (hgl:env.globals=mainGlobals) (e:nsIn K mainGlobals x=some (some v)) (h:Q v s)
  (hk:(compEnvC scope cl C env).scope.kind= .function) (hl:(compEnvC scope cl C env).kindOf x=some .globalImplicit) (hd:(x==("__debug__":Str))=false:=by decide):wpAny M A (eval (.Name x pos) (compEnvC scope cl C env)) Q E s:=by
 refine wpAny_Name (ks_loadName_global (env:=compEnvC scope cl C env) hk hl ?_) hd
 have hg:(compEnvC scope cl C env).globals=mainGlobals:=hgl
 exact Calls.loadGlobal_global (env:=compEnvC scope cl C env) (by rw [hg];exact T.g.keeps F.keep) (mg_of X T.g e) h
theorem eq_1086 {x y:Str} {px py tp:Pos} {x1:Nat} {I D l:Addr} {oI oC oD:Obj} {v₁ v₂:Value} {h:Heap} {g:Array GenState} {d:Drawn} {tk:Nat} {o:OsState} {elt:PySem.Expr} {R:Value→Shared→Prop} {m₂:Str→Option Value} (hx:scope.names.lookup x=some .local) (hy:scope.names.lookup y=some .local) (hkind:scope.kind= .function) (hh:A.handled=none)
  (hgo:wpAny (model prog w) A (letOwnedTupleGo (.Tuple [.Name x px,.Name y py] x1 tp) (.ref I) (.ref l)) (fun _ s₁=>s₁=⟨h,g,d,tk,o⟩) E ⟨h,g,d,tk,o⟩) (hls:h.IsList l #[v₁,v₂])
  (hoC:LCg.NsObj oC m₂) (F:Fr h₀ L h m) (N:News h₀ L h ((I,oI)::(C,oC)::(D,oD)::news)) (off:∀ p∈news,p.1≠I∧p.1≠C∧p.1≠D) (h1:@Ne Nat I C) (h3:@Ne Nat C D) (ht:1≤tk)
  (k:∀ h' tk' oC',1≤tk'→LCg.NsObj oC' (fun z=>if z=y then some v₂ else if z=x then some v₁ else m₂ z)→Fr h₀ L h' m→News h₀ L h' ((I,oI)::(C,oC')::(D,oD)::news)→wpAny (model prog w) A (eval elt (compEnvC scope cl C env)) R E ⟨h',g,d,tk',o⟩):
  wpAny (model prog w) A (letOwnedTupleGo (.Tuple [.Name x px,.Name y py] x1 tp) (.ref I) (.ref l)) (fun _ s₁=>wpAny (model prog w) A (assign (.Tuple [.Name x px,.Name y py] x1 tp) (compEnvC scope cl C env) (.ref l)) (fun _ s₂=>wpAny (model prog w) A (eval elt (compEnvC scope cl C env)) R E s₂) E s₁) E ⟨h,g,d,tk,o⟩:=by
 have step:∀ {h h₃:Heap} {oC oC':Obj} (F:Fr h₀ L h m) (N:News h₀ L h ((I,oI)::(C,oC)::(D,oD)::news)) (hs₃:Heap.SameBut C h h₃) (heC:h₃.get? C=some oC'),Fr h₀ L h₃ m∧News h₀ L h₃ ((I,oI)::(C,oC')::(D,oD)::news):=by
  intro h h₃ oC oC' F N hs₃ heC
  have zC:=N (C,oC) (.tail _ (.head _))
  have zI:=N (I,oI) (.head _)
  refine ⟨F.change hs₃ zC.2.1 zC.2.2,List.forall_mem_cons.mpr ⟨⟨hs₃.extBut _ _ h1 zI.1,zI.2⟩,List.forall_mem_cons.mpr ⟨⟨heC,zC.2⟩,List.forall_mem_cons.mpr ⟨?_,fun p hp=>?_⟩⟩⟩⟩
  ·have zD:=N (D,oD) (.tail _ (.tail _ (.head _)))
   exact ⟨hs₃.extBut _ _ (Ne.symm h3) zD.1,zD.2⟩
  ·have z:=N p (.tail _ (.tail _ (.tail _ hp)))
   exact ⟨hs₃.extBut _ _ (off p hp).2.1 z.1,z.2⟩
 refine wpAny_mono hgo (fun _ s₁ e=>?_) fun _ _ e=>e
 subst e
 k_extra "v20"
 refine eq_275 hh hls rfl rfl fun h₁ tk₁ hk₁=>?_
 have F₁:=F.keeps hk₁
 have N₁:News h₀ L h₁ ((I,oI)::(C,oC)::(D,oD)::news):=fun p hp=>⟨hk₁ _ _ (N p hp).1,(N p hp).2⟩
 refine assignInOrder_cons (wpAny_assign_Name (wpAny_storeName_local (lookup_relabel_local hx) (hoC.ns (N₁ (C,oC) (.tail _ (.head _))).1) (fun h₂ hn₂ hs₂=>?_) (by simp [compEnvC,relabel,hkind])))
 (refine eq_4 (LCg.ns_obj hn₂) fun oC2 heC2 hoC2=>?_)
 (refine eq_7 (step F₁ N₁ hs₂ heC2) fun F₂ N₂=>?_)
 refine assignInOrder_cons (wpAny_assign_Name (wpAny_storeName_local (lookup_relabel_local hy) (hoC2.ns heC2) (fun h₃ hn₃ hs₃=>?_) (by simp [compEnvC,relabel,hkind])))
 (refine eq_4 (LCg.ns_obj hn₃) fun oC3 heC3 hoC3=>?_)
 (refine eq_7 (step F₂ N₂ hs₃ heC3) fun F₃ N₃=>?_)
 refine assignInOrder_nil ?_
 intro ht3
 exact k h₃ _ oC3 ht3 hoC3 F₃ N₃
end
theorem eq_1250:True:=by
 k_with "eval Name"=>((fail_if_success (k_extra "g79";clear offG));k_here;(with_reducible show wpAny _ _ (eval (Expr.Name (Str.ofString "hands") _) (compEnvC _ _ _ _)) _ _ _);k_dflt (refine' eq_751 (by k_asm) ?_ (by with_reducible assumption) ?_ (by first|kernel_rfl|fail) (by first|kernel_rfl|fail) (by first|kernel_rfl|fail);k_extra "rotp";(· k_mem)))
 k_with "eval Name"=>((fail_if_success (k_extra "g79";clear offG));k_here;(with_reducible show wpAny _ _ (eval (Expr.Name (Str.ofString "_law_written") _) (compEnvC _ _ _ _)) _ _ _);k_dflt (refine' eq_461 (by k_asm) (by k_asm) (by k_asm) (by exact rfl) (by k_is) ?_ (by first|kernel_rfl|fail) (by first|kernel_rfl|fail)))
 trivial
theorem eq_191:∀ ls:List (List Nat),PySem.Str.join (S []) (ls.map S)=S ls.flatten
 |[]=>by decide +kernel
 |[a]=>by simp [PySem.Str.join]
 |a::b::r=>by
  have ih:=eq_191 (b::r)
  show S a++S []++PySem.Str.join (S []) ((b::r).map S)=_
  rw [ih,eq_45,eq_45,List.append_nil]
  rfl
theorem eq_471 {prog:Program} {w:World} {A:Around} {E:Value→Shared→Prop} {s:Shared} {h₀:Heap} {L D:Addr} {news:List (Addr×Obj)} {ys:List Value} {ls:List (List Nat)} {t:Tok} {Q:Value→Shared→Prop} (N:News h₀ L s.heap news) (hm:(D,PyProof.Rows.LCg.lst ys)∈news) (x:Fa2 Q1s ys ls) (hz:(ls.map List.length).sum+ls.length≤1000000) (ht:1≤s.toks) (h:∀ t' (k:Nat),1≤k→Q (.str (S ls.flatten) t') { s with toks:=k }):
  wpAny (model prog w) A (call (.builtin "str.join") [.str (Str.ofString "") t,.ref D]) Q E s:=by
 have hl:s.heap.IsList D ys.toArray:=⟨_,(N _ hm).1,rfl,_,rfl⟩
 k_extra "v13"
 ·have:((ls.map S).map (·.length))=ls.map List.length:=by
   rw [List.map_map]
   exact List.map_congr_left fun l _=>eq_9 l
  rw [this,List.length_map]
  keq_rows
 ·have e:Txt.join (Str.ofString "") (ls.map S)=S ls.flatten:=by
   rw [eq_71]
   exact (eq_of_beq (join_plain_closes _ _)).trans (eq_191 ls)
  rw [e]
  exact h t' k hk
theorem eq_263 {n:Nat} {width:Nat} {ms:List Int}:((Qo (Q7 n) width ms 5).map fun c=>Qa c.1 ((Q7 n).drop c.2)).flatten=Qv (Q7 n) width ms 5:=by
 unfold Qv Qp
 rw [List.flatMap_def]
 congr 1
 exact List.map_congr_left fun c _=>(eq_547 (eq_25 n) c).symm
theorem eq_783 {n:Nat} {width:Nat} {ms:List Int} (hm:ms.length≤8):(((Qo (Q7 n) width ms 5).map fun c=>Qa c.1 ((Q7 n).drop c.2)).map List.length).sum+((Qo (Q7 n) width ms 5).map fun c=>Qa c.1 ((Q7 n).drop c.2)).length≤1000000:=by
 have K:=eq_41 (eq_25 n) width hm 5
 have h1:=eq_90 (eq_25 n) K
 have h2:=eq_88 (eq_25 n) K
 have h3:=congrArg List.length (eq_263 (n:=n) (width:=width) (ms:=ms))
 rw [List.length_flatten] at h3
 have h3:_=(Qp (Q7 n) 5 (Qo (Q7 n) width ms 5)).length:=h3
 rw [h3,List.length_map]
 keq_rows
theorem eq_545 {w:World} {g h:Heap} {L DD:Addr} {u ti:Tok} {c:Nat} {p1 p2 p3 p4:Addr×Obj} {r:List (Addr×Obj)} (_:News g L h ([p1,p2,p3,p4,(DD,Q1d w u ti c)]++r)):∃ ti',ti'=ti:=⟨ti,rfl⟩
structure Kept (h h':Heap):Prop where
 keep:∀ b o,h.get? b=some o→b≠162→b≠169→h'.get? b=some o
 t1:∃ o,Qz o∧h'.get? 162=some o
 t2:∃ o,Qz o∧h'.get? 169=some o
theorem eq_928 {h g h':Heap} {L:Addr} {m:Str→Option Value} {op1 op2 o1 o2:Obj} {news:List (Addr×Obj)} (hk:∀ b o,h.get? b=some o→b∉[((162:Addr),op1),(169,op2)].map (·.1)→g.get? b=some o) (F:Fr g L h' m) (N:News g L h' news) (m1:(162,o1)∈news) (m2:(169,o2)∈news) (t1:Qz o1) (t2:Qz o2):Kept h h':=
 ⟨fun b o e n1 n2=>F.keep _ _ (hk b o e fun hm=>by
   k_extra "vf"
   exact hm.elim n1 n2),⟨_,t1,(N _ m1).1⟩,⟨_,t2,(N _ m2).1⟩⟩
theorem eq_744 (w:World) (s:Shared) (lst:Addr) (vals:List Value) (ns:List Int) {q:Program} {loose:List Str} {mean:ExcName→Option Value} {mg mb:Str→Option Value} (T₀:Top q loose mean mg mb s.heap) (X₀:(Kx w.params).In s.heap) (hL:s.heap.IsList lst vals.toArray) (hI:IntsAre vals ns) (hlen:ns.length≤63)
  (op1 op2:Obj) (h162:s.heap.get? 162=some op1) (h169:s.heap.get? 169=some op2) (htb1:Qz op1) (htb2:Qz op2) (hgn:s.gens= #[]) {R:Result→Shared→Prop}
  (fin:∀ s',Kept s.heap s'.heap→s'.os=s.os→AllBare s'.gens→R (.ok (.ret (.bool true))) s'):
  codeAny (model PySem.Challenge.rw_xo0041_01.prog w) callerA (.call (.ref 379) ⟨[.ref lst],[]⟩) R s:=by
 revert X₀
 k_fill
 intro X₀
 have hhid:∀ p∈[((162:Addr),op1),(169,op2)],s.heap.get? p.1=some p.2:=fun p hp=>by
  k_extra "v0"
  ·exact h162
  ·rw [List.mem_singleton.mp hp];exact h169
 k_dflt (refine' eq_1155 (hides:=[(162,op1),(169,op2)]) X₀ hhid T₀.nolimit ?k6 ?k7 ?k9 ?kB ?kD ?_ ?c2 ?c3 ?c4;(case k6=>k_is);(case k7=>k_is);(case k9=>exact BindsTo.of_eq rfl);(case kB=>exact rfl);(case kD=>decide +kernel);(case c2=>exact rfl);(case c3=>exact rfl);(case c4=>exact rfl);k_whole)
 intro g L1 h1 tk1 cells F1 N1 Y1 B1 hk1 hk2 l1
 (refine eq_4 (CellsAre.one Y1) fun oc hE dc=>?_)
 subst hE
 clear Y1
 simp only [List.cons_append,List.nil_append] at N1
 have T1:=eq_1091 T₀ hhid (fun p hp=>by
  k_extra "v0"
  ·(refine eq_4 (htb1.data) fun ps e _=>?_);exact ⟨ps,e⟩
  ·rw [List.mem_singleton.mp hp];(refine eq_4 (htb2.data) fun ps e _=>?_);exact ⟨ps,e⟩) hk1
 have X1:(Kx w.params).In g:=fun a o e=>hk1 a o (X₀ a o e) fun hm=>by
  k_extra "vf"
  rcases hm with rfl|rfl
  ·have z:(Kx w.params).lookup 162=none:=rfl
   rw [z] at e;cases e
  ·have z:(Kx w.params).lookup 169=none:=rfl
   rw [z] at e;cases e
 have hgb:AllBare s.gens:=.of_eq hgn
 have hL2:∀ h:Heap,(∃ m',Fr g L1 h m')→h.IsList lst vals.toArray:=by
  (intro h zq4;(refine eq_5 (zq4) fun m' F=>?_;(try clear zq4)))
  obtain ⟨o,ho,hc,k,hd⟩:=hL
  refine ⟨o,F.keep _ _ (hk1 _ _ ho fun hm=>?_),hc,k,hd⟩
  (refine eq_4 (List.mem_map.mp hm) fun p hp e=>?_)
  have hp1:=hhid p hp
  rw [e,ho] at hp1
  have hpd:∃ ps,p.2.data= .fields ps:=by
   k_extra "v0"
   ·(refine eq_4 (htb1.data) fun ps e _=>?_);exact ⟨ps,e⟩
   ·rw [List.mem_singleton.mp hp];(refine eq_4 (htb2.data) fun ps e _=>?_);exact ⟨ps,e⟩
  (refine eq_5 (hpd) fun ps hps=>?_;(try clear hpd))
  rw [←Option.some.inj hp1,hd] at hps
  cases hps
 obtain ⟨m0,hm0,F1⟩:∃ m0:Str→Option Value,m0 (Str.ofString "script")=some (.ref lst)∧Fr g L1 h1 m0:=⟨_,rfl,F1⟩
 (try dsimp only)
 k_steps
 all_goals (try k_data)
 unfold Q18
 k_extra "v1o"
 k_steps
 all_goals (try k_data)
 unfold Q18
 refine eq_1080 (t:=5) (by k_asm) (by k_asm) (hL2 _ ⟨_,by k_asm⟩) hI (by keq_rows) ?_ (by with_unfolding_all rfl) (fun _=>rfl)
 intro D2 ws h2 F2 N2 l2 hI2
 refine eq_86 (vs:=ws) rfl ⟨_,(N2 _ (.head _)).1,rfl,0,rfl⟩ ?_ (by decide) rfl F2 N2 (by k_extra "t") (by assumption) (fun j ys nw=>nw=_∧IntsAre ys (((ns.take 5).take j).map fun x=>x.fmod 1000000)) ⟨rfl,.nil⟩ ?_ ?_ ?_
 ·have:=hI2.length
  rw [List.length_take] at this
  keq_rows
 ·(intro j h ys nw zq5;(refine eq_7 (zq5) fun zq6 _=>?_;(try clear zq5);subst zq6);intro _ N6)
  exact ⟨_,(N6 _ (.head _)).1,rfl,0,rfl⟩
 ·(intro j v ys news₁ h tk g I2 C oC D m₂ oI E' hv zq7;(refine eq_7 (zq7) fun zq8 hys=>?_;(try clear zq7);subst zq8);intro hoC F6 N6 hI2' off h1 h2 h3 htk hg₁)
  (refine eq_14 (eq_1208 hI2 hv) fun x tx hx zq9=>?_;subst zq9)
  k_extra "vg"
  k_steps
  k_extra "vs"
  rw [List.take_add_one,hx,List.map_append]
  exact hys.append (.cons _ _ .nil)
 refine eq_197 (by rfl) (by rfl) (by rfl) ?_
 (intro D h tk g₂ ys news' zq10;(refine eq_7 (zq10) fun zq11 hys=>?_;(try clear zq10);subst zq11);intro F8 N8 hD htk hg8)
 rw [hI2.length,List.take_length] at hys
 k_steps
 all_goals (try k_data)
 unfold Q18
 rename Fr _ _ _ _=>F9
 rename News _ _ _ _=>N9
 refine wpAny_with_toks (n:=1) (by k_extra "t") (PyProof.Rows.LSm.sum_ints F9 N9 rfl ⟨_,(N9 _ (.head _)).1,rfl,_,rfl⟩ hys fun h9 tk9 t9 F9 N9 htk9=>?_)
 replace htk9:1≤tk9:=htk9
 (refine eq_4 (eq_1181 ns) fun cn hcn hcb=>?_)
 k_steps
 all_goals (try k_data)
 unfold Q18
 rw [hcn]
 refine eq_127 (cn:=Str.ofString "law") (a:=379) (ccd:=.ref 378) (own:=[]) (eq_2 w cn _ hcb) (by k_asm) (by k_asm) (by k_asm) (by k_asm) (fun _ h=>nomatch h) (fun p hp=>⟨hp,List.not_mem_nil⟩) (by k_asm) rfl (by first|keq_rows|ktr_room|decide +kernel) (by first|keq_rows|ktr_units|decide +kernel) (by k_extra "t") (by assumption) ?_
 (intro _ h9 tk9 _ g9 F9 N9 fr9 zq12;(refine eq_70 (zq12) fun HA kH vsH zq13 zq14 hIH=>?_;(try clear zq12);subst zq13;subst zq14);intro htk9 hg9)
 dsimp only [List.cons_append,List.nil_append] at N9
 have s9:=eq_67 (fr9 _ (.head _) List.not_mem_nil)
 simp only [Q1m,and_true] at s9
 (refine eq_39 (s9) fun s91 s92 s93 s94 s95=>?_;(try clear s9))
 have sD:=eq_50 hD
 simp only [Q1m,and_true] at sD
 (refine eq_100 (sD) fun sD1 sD2 sD3 sD4=>?_;(try clear sD))
 have sL:Sep 162 (L1+1):=fun e=>by have:=l1 _ (.head _);have h2:@LT.lt Nat _ 162 L1:=this;have e2:@Eq Nat 162 (L1+1):=e;keq_rows
 have sL2:Sep 169 (L1+1):=fun e=>by have:=l1 _ (.tail _ (.head _));have h2:@LT.lt Nat _ 169 L1:=this;have e2:@Eq Nat 169 (L1+1):=e;keq_rows
 replace N9:News g L1 h9 [(HA,listOf vsH.toArray kH),(D,PyProof.Rows.LCg.lst ys),(L1+1,oc),(162,op1),(169,op2)]:=News.sub N9 (by repeat (first|exact List.forall_mem_nil _|refine List.forall_mem_cons.mpr ⟨by k_mem,?_⟩))
 k_steps
 k_extra "v1"
 unfold Q18
 refine eq_33 (cn:=Str.ofString "law") (a:=379) (ccd:=.ref 378) (eq_1219 w _ _ _ _ (by assumption) ?hl) (by k_asm) (by k_asm) (by k_asm) (by k_asm) (by k_extra "b") (by first|k_extra "f"|fail "far") (by k_asm) rfl (by first|keq_rows|ktr_room|decide +kernel) (by first|keq_rows|ktr_units|decide +kernel) (by k_extra "t") (by assumption) ?_
 case hl=>simp only [List.length_append,List.length_map,List.length_cons,List.length_nil];rw [List.length_take];keq_rows
 (intro _ h9 tk9 own9 g9 F9 N9 fr9 zq15;obtain ⟨rfl,u9,rfl⟩:=zq15;intro htk9 hg9)
 dsimp only [List.cons_append,List.nil_append] at N9
 k_steps
 unfold Q18
 rename News _ _ _ _=>NA
 rename _=Data.cell _=>dA
 (refine eq_23 (eq_567 NA dA) fun EA oc2 e1 e2 dc2 NB=>?_)
 subst e1 e2
 clear NA
 rename Fr _ _ _ _=>FA
 rw [eq_1043 hcn] at FA
 have nEA:∀ p∈[(HA,listOf vsH.toArray kH),(L1+1,oc2),(162,op1),(169,op2)],@Ne Nat p.1 EA:=by first|k_all|fail "ea"
 obtain ⟨m3,hwd,hes,htx,FA⟩:∃ m3:Str→Option Value,(∃ t,m3 (Str.ofString "width")=some (.int ((4+cn / 3000 % 24:Nat):Int) t))∧m3 (Str.ofString "escapes")=some (.ref EA)∧(∃ t,m3 Q2v=some (.str (S (Q1h ([810,468,1160]++(ns.take 5).map fun x=>x.fmod 1000000))) t))∧Fr g L1 _ m3:=⟨_,⟨_,by k_extra "m"⟩,by k_extra "m",⟨_,by k_extra "m"⟩,FA⟩
 obtain ⟨ms,hms⟩:∃ ms,ms=[810,468,1160]++(ns.take 5).map fun x=>x.fmod 1000000:=⟨_,rfl⟩
 rw [←hms] at htx
 (revert htx;intro zq18;(refine eq_5 (zq18) fun ttx htx=>?_;(try clear zq18)))
 have hm8:ms.length≤8:=by rw [hms,List.length_append,List.length_map,List.length_take];simp only [List.length_cons,List.length_nil];keq_rows
 k_extra "v1o"
 k_steps
 k_extra "v1"
 rename Fr _ _ _ _=>FB
 rename News _ _ _ _=>NC
 have hm34:(Q1h ms).length≤34:=by
  have:=eq_69 ms
  unfold Q1h
  simp only [List.length_append,List.length_cons,List.length_nil]
  keq_rows
 obtain ⟨led,hled,NC⟩:∃ led,led=_∧News g L1 _ led:=⟨_,rfl,NC⟩
 refine eq_475 (l:=Q1h ms) rfl (by keq_rows) (by decide) rfl FB NC (by k_extra "t") (by assumption) (fun j ys nw=>∃ ex,nw=ex++led∧Fa2 (Q1o ex) ys (Q6 (((Q1h ms).map fun c=>((c,0,0):Tri)).take j))∧∀ p∈ex,∀ q∈led,q.1≠p.1) ⟨[],rfl,.nil,List.forall_mem_nil _⟩ ?_ ?_
 ·(intro j c u ys news₁ h tk g I2 C oC D m₂ oI E' hc zq19;(refine eq_18 (zq19) fun ex zq20 hys hex=>?_;(try clear zq19);subst zq20);intro hoC F6 N6 off h1 h2 h3 htk hg₁)
  k_extra "vg"
  k_steps
  exact eq_303 (t:=(c,0,0)) (by rw [List.getElem?_map,hc];rfl) hoC' (by with_reducible assumption) (by assumption) (by with_reducible assumption) off (by k_extra "t") hg₁ hys hex
 refine eq_197 (by rfl) (by rfl) (by rfl) ?_
 (intro CA h tk g₂ ys news' zq21;(refine eq_18 (zq21) fun ex zq22 hys hex=>?_;(try clear zq21);subst zq22);intro F8 N8 hD8 htk hg8)
 have hcells:Fa2 (Q1o ex) ys (Q20 ms):=by
  have e:Q6 ((((Q1h ms).map fun c=>((c,0,0):Tri))).take (Q1h ms).length)=Q20 ms:=by
   rw [List.take_of_length_le (by rw [List.length_map];exact Nat.le_refl _)]
   unfold Q6 Q20
   rw [List.map_map]
   rfl
  rw [e] at hys
  exact hys
 k_steps
 unfold Q18
 refine eq_31 ?_
 k_steps
 k_extra "v1"
 unfold Q18
 rename Fr _ _ _ _=>FD
 rename News _ _ _ _=>ND
 refine wpAny_with_toks (n:=1) (by k_extra "t") (range1_rows FD ND fun h3 tk3 t3 u3 v3 hr3 F3 N3 _ htk3=>?_)
 replace htk3:1≤tk3:=htk3
 k_steps
 k_extra "v1"
 obtain ⟨m4,hm4,F3⟩:∃ m4,m4=_∧Fr _ _ _ m4:=⟨_,rfl,F3⟩
 have H:=eq_25 cn
 have hm4a:∀ y,y≠Q2j→m4 y=m3 y:=fun y hy=>by rw [hm4];exact if_neg hy
 have hm4c:m4 Q2j=some (.ref CA):=by rw [hm4];exact if_pos rfl
 (revert hwd;intro zq23;(refine eq_5 (zq23) fun twd hwd=>?_;(try clear zq23)))
 have gwd4:m4 (Str.ofString "width")=some _:=(hm4a _ (by decide +kernel)).trans hwd
 have ges4:m4 (Str.ofString "escapes")=some _:=(hm4a _ (by decide +kernel)).trans hes
 generalize hW:4+cn / 3000 % 24=W at gwd4
 have hs162:∀ p∈(CA,PyProof.Rows.LCg.lst ys)::(ex++[(EA,listOf #[Value.ref 313,Value.ref 320,Value.ref 327,Value.ref 334,Value.ref 341] 0),(HA,listOf vsH.toArray kH),(L1+1,oc2)]),@Ne Nat p.1 162∧ @Ne Nat p.1 169:=by
  intro p hp
  k_extra "v0"
  ·exact ⟨fun e=>hD8 (162,op1) (List.mem_append_right _ (by rw [hled];simp)) e.symm,fun e=>hD8 (169,op2) (List.mem_append_right _ (by rw [hled];simp)) e.symm⟩
  ·k_extra "vr"
   ·exact ⟨fun e=>hex p hp (162,op1) (by rw [hled];simp) e.symm,fun e=>hex p hp (169,op2) (by rw [hled];simp) e.symm⟩
   ·k_extra "v0"
    ·exact ⟨fun e=>nEA (162,op1) (by simp) e.symm,fun e=>nEA (169,op2) (by simp) e.symm⟩
    ·k_extra "v0"
     ·exact ⟨fun e=>s94.ne e.symm,fun e=>s95.ne e.symm⟩
     ·rw [List.mem_singleton.mp hp]
      exact ⟨fun e=>sL.ne e.symm,fun e=>sL2.ne e.symm⟩
 have N4:News g L1 h3 ((162,op1)::(169,op2)::(CA,PyProof.Rows.LCg.lst ys)::(ex++[(EA,listOf #[Value.ref 313,Value.ref 320,Value.ref 327,Value.ref 334,Value.ref 341] 0),(HA,listOf vsH.toArray kH),(L1+1,oc2)])):=News.sub N3 fun p hp=>by
  rw [hled]
  simp only [List.mem_cons,List.mem_append,List.not_mem_nil,or_false] at hp ⊢
  rcases hp with h|h|h|h|h|h|h<;>simp [h]
 refine eq_207 (n:=5) rfl F3 N4 (by k_extra "t") (by assumption) (LawJ (L1+1) HA EA (listOf vsH.toArray kH) (listOf #[Value.ref 313,Value.ref 320,Value.ref 327,Value.ref 334,Value.ref 341] 0) oc2 (Q7 cn) W ms m4) ?_ hr3 (by decide) (by decide) ?_ ?_
 ·refine ⟨op1,op2,_,CA,ttx,htb1,htb2,rfl,hs162,by simp,by simp,by simp,⟨_,_,.head _,hcells.mono fun _ _ x=>x.sub fun p hp=>.tail _ (List.mem_append_left _ hp)⟩,?_,hm4c,fun _ _ _ _ _=>rfl⟩
  unfold Qv
  rw [show Qo (Q7 cn) W ms 0=Q20 ms from rfl,eq_821]
  exact (hm4a _ (by decide +kernel)).trans htx
 ·(intro i k tq m₁ news₁ h tk g₁ I io hi5 zq24;subst zq24;intro zq25;obtain ⟨op1',op2',keep,ca,u,tb1,tb2,rfl,hsep,kEA,kHA,kC,kcells,gtx,gce,grest⟩:=zq25;intro F₁ N₁ hn₁ hI htk hg₁)
  have ek:(0:Int)+((i:Nat):Int)*1=(i:Int):=by keq_rows
  rw [ek]
  have gwd:m₁ (Str.ofString "width")=some _:=(grest _ (by decide +kernel) (by decide +kernel) (by decide +kernel) (by decide +kernel)).trans gwd4
  have ges:m₁ (Str.ofString "escapes")=some _:=(grest _ (by decide +kernel) (by decide +kernel) (by decide +kernel) (by decide +kernel)).trans ges4
  k_extra "vl"
  have K:=eq_41 H W hm8 i
  have htl:(Qv (Q7 cn) W ms i).length≤20000:=Nat.le_trans (eq_90 H K) (by decide)
  obtain ⟨e,he⟩:∃ e,(Q7 cn)[i]?=some e:=⟨_,List.getElem?_eq_getElem (by rw [H.len];exact hi5)⟩
  (refine eq_5 (hIH.get i e he) fun te hve=>?_)
  have hve2:vsH.toArray[((i:Nat):Int).toNat]?=some (.int e te):=by rw [Int.toNat_natCast,List.getElem?_toArray];exact hve
  have rng:=H.rng e (List.mem_of_getElem? he)
  have hcs:e<5∨e=5∨e=6:=by keq_rows
  rcases hcs with h5|rfl|rfl
  ·have e0:0≤e:=rng.1
   have hv5:=eq_1214 e0 h5
   k_steps
   k_extra "v1"
   exact eq_139 tb1 tb2 hsep kEA kHA kC (by rw [eq_106 he (by keq_rows)];exact kcells) (by assumption) (by assumption) hn₁ (by k_extra "t") (by assumption) (by k_extra "m") (eq_1203 hm8 he h5) (by k_extra "m") (fun y y1 y2 y3 y4=>by simp only [y1,y2,y3,y4,if_false];exact grest y y1 y2 y3 y4)
  ·k_steps
   k_extra "v1"
   exact eq_139 tb1 tb2 hsep kEA kHA kC (by rw [eq_106 he (by decide)];exact kcells) (by assumption) (by assumption) hn₁ (by k_extra "t") (by assumption) (by k_extra "m") (eq_643 hm8 he) (by k_extra "m") (fun y y1 y2 y3 y4=>by simp only [y1,y2,y3,y4,if_false];exact grest y y1 y2 y3 y4)
  ·k_steps
   k_extra "v1"
   unfold Q18
   rename Fr _ _ _ _=>FE
   rename News _ _ _ _=>NE
   refine eq_1102 (cn:=Str.ofString "law") (a:=379) (ccd:=.ref 378) (by k_asm) FE (by k_asm) NE (by k_asm) rfl (by first|keq_rows|ktr_room|decide +kernel) (by first|keq_rows|ktr_units|decide +kernel) (by k_extra "t") (by assumption) fun FF FD LL AA DD tt h6 tk6 u6 c6 g6 F6 N6 hne6 htk6 hg6=>?_
   (refine eq_5 (eq_545 N6) fun ti6 e6=>?_)
   rw [←e6] at N6 hne6
   clear e6
   simp only [List.cons_append,List.nil_append] at N6
   k_steps
   k_extra "v1"
   unfold Q18
   rename Fr _ _ _ _=>F7
   rename News _ _ _ _=>N7
   obtain ⟨ch,cw,cp,FE9⟩:∃ ch cw cp,Q2z W (Qv (Q7 cn) W ms i) ch cw cp:=eq_1191 W (eq_90 H K) (eq_767 H K)
   have hr7:∀ q∈Q1f w FF FD LL AA DD tt W #[] 0 #[] 0 u6 ti6 c6 op1' op2',∀ p∈(I,io)::keep,@Ne Nat p.1 q.1:=by
    have g1:∀ q∈[(FF,Q40 FD),(FD,fmtD w tt W LL AA),(LL,listOf #[] 0),(AA,Qg #[] 0 DD),(DD,Q1d w u6 ti6 c6)],∀ p∈(I,io)::keep,@Ne Nat p.1 q.1:=fun q hq p hp=>hne6 q hq p (by
     k_extra "v0"
     ·exact .head _
     ·exact .tail _ (.tail _ (.tail _ hp)))
    intro q hq
    k_extra "v2"
    ·exact g1 _ (by simp)
    k_extra "v2"
    ·exact g1 _ (by simp)
    k_extra "v2"
    ·exact g1 _ (by simp)
    k_extra "v2"
    ·exact g1 _ (by simp)
    k_extra "v2"
    ·exact g1 _ (by simp)
    k_extra "v2"
    ·exact List.forall_mem_cons.mpr ⟨fun e=>hn₁ (162,op1') (.head _) e.symm,fun p hp=>(hsep p hp).1⟩
    ·rw [List.mem_singleton.mp hq]
     exact List.forall_mem_cons.mpr ⟨fun e=>hn₁ (169,op2') (.tail _ (.head _)) e.symm,fun p hp=>(hsep p hp).2⟩
   refine eq_24 (cn:=Str.ofString "law") (a:=379) (ccd:=.ref 378) (eq_610 w FF FD LL AA DD tt W 0 0 u6 ti6 c6 op1' op2' (Qv (Q7 cn) W ms i) _ _ _ tb1 tb2 (eq_90 H K) (eq_113 H K)) (by k_asm) F7 (by k_asm) N7 (Q23.cons .head (Q23.cons .head (Q23.cons .head (Q23.cons .head (Q23.cons .head (Q23.cons (.tail .head) (Q23.cons (.tail .head) .nil))))))) hr7 trivial (by k_asm) rfl (by first|keq_rows|ktr_room|decide +kernel) (by first|keq_rows|ktr_units|decide +kernel) (by k_extra "t") (by assumption) ?_
   (intro _ h8 tk8 own8 g8 F8 N8 fr8 zq27;obtain ⟨rfl,lv,kl,vs,n8,u8,t8,c8,q1,q2,ex8,tb3,tb4,rfl,hex8,hin,hls⟩:=zq27;intro htk8 hg8)
   rw [FE9.e] at hin
   (refine eq_360 (hin.snoc_inv) fun vs' vl zq30 hin1 hin2=>?_;subst zq30)
   simp only [List.cons_append,List.nil_append] at N8
   k_steps
   k_extra "v1"
   unfold Q18
   rename Fr _ _ _ _=>F9
   rename News _ _ _ _=>N9
   refine eq_24 (cn:=Str.ofString "law") (a:=379) (ccd:=.ref 378) (eq_873 w FF FD LL AA DD tt W lv kl vs' vl n8 u8 t8 c8 q1 q2 ch cw cp (Ql W (Q2 (Qv (Q7 cn) W ms i))).1 _ tb3 tb4 ?z FE9.a FE9.b FE9.c FE9.d FE9.f FE9.g ?lz hls FE9.i) (by k_asm) F9 (by k_asm) N9 (Q23.cons .head (Q23.cons .head (Q23.cons .head (Q23.cons .head (Q23.cons .head (Q23.cons .head (Q23.cons .head .nil))))))) ?hr9 ⟨hin1.mono fun v c y=>y.chunk N9 ?s1,hin2.chunk N9 ?s2⟩ (by k_asm) rfl (by first|keq_rows|ktr_room|decide +kernel) (by first|keq_rows|ktr_units|decide +kernel) (by k_extra "t") (by assumption) ?_
   case z=>rw [List.size_toArray,List.length_append,hin1.len,List.length_singleton];have:=FE9.b;rw [List.length_append,List.length_singleton] at this;exact this
   case lz=>rw [←Array.length_toList,hls.len];exact FE9.h
   case s1=>exact fun p hp=>.tail _ (.tail _ (.tail _ (.tail _ (.tail _ (.tail _ (.tail _ (List.mem_append_left _ hp)))))))
   case s2=>exact fun p hp=>.tail _ (.tail _ (.tail _ (.tail _ (.tail _ (.tail _ (.tail _ (List.mem_append_left _ hp)))))))
   case hr9=>
    intro q hq p hp
    k_extra "vr"
    ·exact hex8 q hq p hp
    ·(refine eq_4 (eq_101 (lv':= #[]) (kl':=0) (its':= #[]) (n':=0) (u':=u6) (t0':=ti6) (c':=c6) (op1':=op1') (op2':=op2') q hq) fun q' hq' e'=>?_)
     have:=hr7 q' hq' p hp
     rw [e'] at this
     exact this
   (intro _ h5 tk5 own5 g5 F5 N5 fr5 zq31;obtain ⟨⟨tt5,rfl⟩,p1,p2,tb5,tb6,rfl⟩:=zq31;intro htk5 hg5)
   rw [eq_803 hm8 he FE9]
   have N5:News g L1 h5 ((162,p1)::(169,p2)::(I,io)::keep):=News.sub N5 fun p hp=>by
    k_extra "v0"
    ·exact .head _
    ·k_extra "v0"
     ·exact .tail _ (.head _)
     ·exact List.mem_append_right [(162,p1),(169,p2)] (List.mem_append_right ex8 hp)
   k_steps
   k_extra "v1"
   unfold Q18
   rename Fr _ _ _ _=>FZ
   rename News _ _ _ _=>NZ
   refine eq_1156 (cn:=Str.ofString "law") (a:=379) (ccd:=.ref 378) (eq_1082 w ca HA (Qo (Q7 cn) W ms i) (Q7 cn) i W _ _ (Nat.le_of_eq H.len) H.rng (Nat.le_trans (eq_88 H K) (by decide))) (by k_asm) FZ (by k_asm) NZ ⟨kcells.heap (News.sub NZ fun p hp=>.tail _ (.tail _ (.tail _ hp))),⟨vsH,kH,(NZ _ (.tail _ (.tail _ (.tail _ kHA)))).1,hIH⟩⟩ (by k_asm) rfl (by first|keq_rows|ktr_room|decide +kernel) (by first|keq_rows|ktr_units|decide +kernel) (by k_extra "t") (by assumption) ?_
   (intro _ hY tkY ownY gY FY NY kpY frY zq35;(refine eq_4 (zq35) fun caY zq36 hcY=>?_;(try clear zq35);subst zq36);intro htkY hgY)
   rw [←eq_411 he] at hcY
   have NY:News g L1 hY ((I,io)::(162,p1)::(169,p2)::(ownY++keep)):=News.sub NY fun p hp=>by
    simp only [List.mem_cons,List.mem_append] at hp ⊢
    rcases hp with h|h|h|h|h<;>simp [h]
   have sepY:∀ p∈ownY++keep,@Ne Nat p.1 162∧ @Ne Nat p.1 169:=fun p hp=>by
    k_extra "vr"
    ·exact ⟨fun e=>frY p hp (162,p1) (.head _) e.symm,fun e=>frY p hp (169,p2) (.tail _ (.head _)) e.symm⟩
    ·exact hsep p hp
   have offY:∀ p∈(162,p1)::(169,p2)::(ownY++keep),p.1≠I:=by
    refine List.forall_mem_cons.mpr ⟨hn₁ (162,op1') (.head _),List.forall_mem_cons.mpr ⟨hn₁ (169,op2') (.tail _ (.head _)),fun p hp=>?_⟩⟩
    k_extra "vr"
    ·exact fun e=>frY p hp (I,io) (.tail _ (.tail _ (.head _))) e.symm
    ·exact hn₁ p (.tail _ (.tail _ hp))
   k_steps
   k_extra "v1"
   exact eq_139 tb5 tb6 sepY (List.mem_append_right _ kEA) (List.mem_append_right _ kHA) (List.mem_append_right _ kC) (hcY.sub fun p hp=>List.mem_append_left _ hp) (by assumption) (by assumption) offY (by k_extra "t") (by assumption) (by k_extra "m") rfl (by k_extra "m") (fun y y1 y2 y3 y4=>by simp only [y1,y2,y3,y4,if_false];exact grest y y1 y2 y3 y4)
 ·(intro m₁ news₁ h tk g₁ zq37;obtain ⟨op1',op2',keep,ca,u,tb1,tb2,rfl,hsep,kEA,kHA,kC,⟨vsC,kCC,hmC,hfa⟩,gtx,gce,grest⟩:=zq37;intro F₁ N₁ htk hg₁)
  k_steps
  k_extra "v1"
  unfold Q18
  refine eq_111 (cl:=[(Str.ofString "hands",L1+1)]) (by kernel_rfl) rfl (by decide) ?_
  k_steps
  k_extra "v1"
  rename Fr _ _ _ _=>FB9
  rename News _ _ _ _=>NC9
  have K:=eq_41 H W hm8 5
  refine eq_86 (vs:=vsC) rfl ⟨_,(NC9 _ (.tail _ (.tail _ hmC))).1,rfl,kCC,rfl⟩ ?_ (by decide) rfl FB9 NC9 (by k_extra "t") (by assumption) (fun j ys nw=>nw=(162,op1')::(169,op2')::keep∧Fa2 Q1s ys (((Qo (Q7 cn) W ms 5).take j).map fun c=>Qa c.1 ((Q7 cn).drop c.2))) ⟨rfl,.nil⟩ ?_ ?_ ?_
  ·rw [hfa.len];exact Nat.le_trans (eq_88 H K) (by decide)
  ·(intro j h ys nw zq40;(refine eq_7 (zq40) fun zq41 _=>?_;(try clear zq40);subst zq41);intro _ N6)
   exact ⟨_,(N6 _ (.tail _ (.tail _ hmC))).1,rfl,kCC,rfl⟩
  ·(intro j v ys news₁ h tk g I2 C oC D m₂ oI E' hv zq42;(refine eq_7 (zq42) fun zq43 hys=>?_;(try clear zq42);subst zq43);intro hoC F6 N6 hI2 off h1 h2 h3 htk hg₁)
   obtain ⟨c,hc,ca',t1,t2,kc2,rfl,hcm⟩:=hfa.get hv
   refine eq_1086 rfl rfl rfl rfl (wpAny_letOwnedTupleGo_listiter hI2 rfl) ⟨_,(N6 _ (.tail _ (.tail _ (.tail _ (.tail _ (.tail _ hcm)))))).1,rfl,kc2,rfl⟩ hoC F6 N6 off h1 h3 htk fun h' tk' oC' htk' hoC' F7 N7=>?_
   k_steps
   k_extra "v1"
   unfold Q18
   refine eq_779 (t:=c.2) (by k_asm) (by k_asm) (News.isList (by k_asm) (by k_mem)) hIH (by rw [H.len];decide) ?_ (by with_unfolding_all rfl) (fun _=>rfl)
   intro DS ws8 h8 F8 N8 l8 hI8
   have nDS:∀ p∈(I2,oI)::(C,oC')::(D,PyProof.Rows.LCg.lst ys)::(162,op1')::(169,op2')::keep,p.1≠DS:=eq_425 l8
   k_steps
   k_extra "v1"
   unfold Q18
   rename Fr _ _ _ _=>FW
   rename News _ _ _ _=>NW
   refine eq_423 (cn:=Str.ofString "law") (a:=379) (ccd:=.ref 378) (eq_363 w c.1 _ DS ((Q7 cn).drop c.2) ws8 0 hI8 (by rw [List.length_drop,H.len];keq_rows) (fun n hn=>H.rng n (List.mem_of_mem_drop hn))) (by k_asm) FW (by k_asm) NW nDS (by k_asm) rfl (by first|keq_rows|ktr_room|decide +kernel) (by first|keq_rows|ktr_units|decide +kernel) (by k_extra "t") (by assumption) ?_
   (intro _ h5 tk5 g5 F5 N5 zq45;(refine eq_5 (zq45) fun u5 zq46=>?_;(try clear zq45);subst zq46);intro htk5 hg5)
   refine ⟨_,_,_,_,_,_,rfl,hoC',F5,News.tl N5,off,by keq_rows,hg5,rfl,?_⟩
   rw [List.take_add_one,hc,List.map_append]
   exact hys.snoc ⟨u5,rfl⟩
  ·(intro D h tk g ys news' zq47;(refine eq_7 (zq47) fun zq48 hys=>?_;(try clear zq47);subst zq48);intro F8 N8 hD8 htk hg8)
   rw [hfa.len,List.take_length] at hys
   k_steps
   k_extra "v1"
   unfold Q18
   refine eq_471 (by assumption) (.head _) hys (eq_783 hm8) (by k_extra "t") fun tJ kJ hkJ=>?_
   rw [eq_263]
   k_steps
   k_extra "v1"
   rw [decide_eq_true (rfl:Qv (Q7 cn) W ms 5=_)]
   exact fin _ (eq_928 hk1 (by k_asm) (by k_asm) (by k_mem) (by k_mem) (by assumption) (by assumption)) rfl (by assumption)


end
section
set_option maxHeartbeats 4000000
theorem eq_1273:True:=by
 k_with "g13"=>have offG:True:=trivial
 k_with "g14"=>have offG:True:=trivial
 k_with "g16"=>have offG:True:=trivial
 k_with "g17"=>have offG:True:=trivial
 k_with "g18"=>have offG:True:=trivial
 k_with "g32"=>have offG:True:=trivial
 k_with "g33"=>have offG:True:=trivial
 k_with "g44"=>have offG:True:=trivial
 k_with "g46"=>have offG:True:=trivial
 k_with "g52"=>have offG:True:=trivial
 k_with "g56"=>have offG:True:=trivial
 k_with "g58"=>have offG:True:=trivial
 k_with "g7"=>have offG:True:=trivial
 k_with "g71"=>have offG:True:=trivial
 k_with "g79"=>have offG:True:=trivial
 k_with "g0"=>skip
 k_with "g80"=>skip
 k_with "dl_mem"=>((fail_if_success (k_extra "g80";clear offG));first|(with_reducible first|(apply eq_1218<;>assumption)|fail)|fail)
 trivial
theorem eq_246 {w:World} {h:Heap} (Y:(Ky w.params).In h):(Kx w.params).In h∧h.get? 162=some (o162 w.params)∧h.get? 169=some (o169 w.params):=
 ⟨fun a o e=>Y a o (by
   have h1:(a==162)=false:=by
    cases q:a==162 with
    |false=>rfl
    |true=>rw [eq_of_beq q] at e;have z:(Kx w.params).lookup 162=none:=rfl;rw [z] at e;cases e
   have h2:(a==169)=false:=by
    cases q:a==169 with
    |false=>rfl
    |true=>rw [eq_of_beq q] at e;have z:(Kx w.params).lookup 169=none:=rfl;rw [z] at e;cases e
   unfold Ky
   rw [List.lookup_cons,h1,List.lookup_cons,h2]
   exact e),Y 162 _ rfl,Y 169 _ rfl⟩
theorem eq_258:Qz ⟨.none,none,.fields [].toArray, #[]⟩:=⟨#[],rfl,trivial⟩
theorem eq_884 {w:World} {h:Heap} {mg:Str→Option Value} {f:Value} (N:h.Ns mainGlobals mg) (Y:(Ky w.params).In h) (e:mg (Str.ofString "law")=some f):f= .ref 379:=by
 obtain ⟨o,es,ep,ho,hd,_,hm⟩:=N
 have h3:h.get? mainGlobals=some (o3 w.params):=Y 3 _ (by kernel_rfl)
 rw [ho] at h3
 have ho3:=Option.some.inj h3
 have h5:(match (o3 w.params).data with|.dict es _=>nsFind es (Str.ofString "law")|_=>none)=some (.ref 379):=by kernel_rfl
 rw [←ho3,hd] at h5
 have h6:=hm (Str.ofString "law")
 rw [e] at h6
 exact (Option.some.inj (h5.symm.trans h6)).symm
theorem eq_869 {w:World} {h h':Heap} (Y:(Ky w.params).In h) (k:Kept h h'):OldK h h':=by
 obtain ⟨_,y1,y2⟩:=eq_246 Y
 obtain ⟨_,⟨p1,rfl,_⟩,k1⟩:=k.t1
 obtain ⟨_,⟨p2,rfl,_⟩,k2⟩:=k.t2
 refine ⟨fun b o e=>?_,fun b o e=>?_⟩
 ·by_cases b1:b=162
  ·subst b1
   rw [y1] at e
   cases Option.some.inj e
   exact .inr (.inl ⟨⟨166,o166 w.params,_,Y 166 _ (by kernel_rfl),rfl,rfl,rfl⟩,rfl, #[],p1,rfl,by rw [k1,Array.empty_append];rfl⟩)
  by_cases b2:b=169
  ·subst b2
   rw [y2] at e
   cases Option.some.inj e
   exact .inr (.inl ⟨⟨173,o173 w.params,_,Y 173 _ (by kernel_rfl),rfl,rfl,rfl⟩,rfl, #[],p2,rfl,by rw [k2,Array.empty_append];rfl⟩)
  exact .inl (k.keep b o e b1 b2)
 ·by_cases b1:b=162
  ·subst b1;exact ⟨_,k1⟩
  by_cases b2:b=169
  ·subst b2;exact ⟨_,k2⟩
  exact ⟨o,k.keep b o e b1 b2⟩
theorem holds:PySem.Challenge.rw_xo0041_01.Holds:=by
 w_on
 refine holds_law eq_876 fun _=>?_
 refine holds_open (q:=qv) (loose:=lz) (Xt:=XtL) (XP:=XL qv []) (Yf:=hkL.obs) (Ya:=hkL.val) (YP:=hkL.says) (N:=600000) eq_894 (Hook.of _) (Hook.keeps _) (fun s e=>xl_of s (Bool.and_eq_true_iff.mp e).1) XL.keeps (by rfl) (by rfl) (by rfl) (fun s e=>recFacts_of (Bool.and_eq_true_iff.mp e).2) (by rfl) (by first|assumption|decide +kernel) (by decide +kernel) ⟨rfl,rfl,rfl,rfl,rfl,by decide +kernel⟩ ?hw ?hc
 case hw=>exact ⟨[ofPy (.list [])],by decide +kernel,by decide +kernel⟩
 case hc=>
  k_fill
  intro w s₀ s₁ mg mb G Y fa o pm cd doc dV kV ho hd hcd hD hmg hg args vals as hpre hlay hrd hwl hlo
  have KX:=kIn_of Y
  have X:=(Ground.X G).1
  refine Ground.open G ?_
  intro T B D TE TW
  try (refine guard_noD D (by decide +kernel) ?_;clear D)
  wrow_args hpre hlay hrd hwl hlo
  all_goals (
   first|refine callC_kw (enter_call ?_)|refine enter_call ?_|refine callC_kw (enter_callW ?_)|refine enter_callW ?_|w_how)
  clear hcd hd hD
  obtain rfl:fa=379:=Value.ref.inj (eq_884 T.g KX hmg)
  obtain ⟨KX',y1,y2⟩:=eq_246 KX
  rename IntsAre _ _=>hI
  rename Heap.IsList _ _ _=>hL
  rename ¬ _=>hn
  refine eq_744 w s₁ _ _ _ T KX' hL hI (by keq_rows) _ _ y1 y2 eq_258 eq_258 hg fun s' kp ko kg=>?_
  exact ⟨.inl ⟨.bool true,.bool true,[],rfl,fun _=>rfl,.bool _,by wrow_post,fun _=>⟨.nil,fun _ h=>nomatch h⟩⟩,eq_869 KX kp,ko,kg⟩


end
end Mine
end
open PySem PySem.W PySem.Spec PySem.Calls PyProof.Rows
theorem PySem.Challenge.cw_xo0041_01_holds : PySem.Challenge.rw_xo0041_01.Holds := by
 exact Mine.holds
