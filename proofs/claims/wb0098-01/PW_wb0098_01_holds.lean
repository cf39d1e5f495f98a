import PyProof.Rows.All
import Wide.All
import OpenK.AllK
import Wide.FinOn
import Open.Tops
import Flt.RightMore
import Flt.Calls5
import PyProof.IsiInt
import KE.KUnpack
import KE.KItem
import KE.KTurns
import KE.KRevIter
import PyProof.ZipIter
import Wide.More
import Lean
import PySem.Challenge.RW_wb0098_01
set_option tactic.hygienic false
set_option genInjectivity false
set_option genCtorIdx false
set_option bootstrap.genMatcherCode false
set_option genSizeOf false
set_option Elab.async false
set_option linter.unusedVariables false
set_option maxRecDepth 100000
set_option maxHeartbeats 0
noncomputable section
local macro_rules | `(⋯) => `(by first | kernel_rfl | decide)
open Array renaming length_toList→lW,size_append→IU,size_extract→Jh,getElem?_setIfInBounds_self_of_lt→Jk,eq_empty_of_size_eq_zero→SZ,getElem?_setIfInBounds_ne→Ts
open Bool renaming false_ne_true→aL,and_eq_true→nU,noConfusion→tY,eq_iff_iff→yW,false_eq_true→yZ,eq_false_iff→SU
open Classical renaming byContradiction→alE
open Decidable renaming byContradiction→alH
open False renaming elim→gY
open ForInStep renaming yield→iZ
open Int renaming natCast_nonneg→bA,le_of_lt→cb,toNat_natCast→cw,natAbs_natCast→fQ,natCast_mul→gZ,mul_comm→ie,fdiv_eq_ediv_of_nonneg→iF,ofNat→jr,one_mul→lU,natCast_add→og,le_trans→pL,eq_ofNat_of_zero_le→pP,add_mul→rn,mul_assoc→rp,emod_nonneg→rt,emod_lt_of_pos→ry,toNat_of_nonneg→rz,ne_of_gt→tP,mul_le_mul_of_nonneg_right→ui,add_zero→wz,le_refl→wA,ediv_nonneg→wB,mul_ediv_add_emod→wC,fmod_eq_emod_of_nonneg→wS,neg_mul→yS,negSucc→yT,natCast_pow→y2,zero_add→CJ,mul_one→CK,le_total→CO,ofNat_sub→CW,lt_of_le_of_lt→C7,pow_add→Dd,sub_mul→Df,lt_of_lt_of_le→Dg,add_comm→IE,le_of_eq→IF,mul_nonneg→IG,lt_trans→IK,max_eq_right→IW,mul_fdiv_add_fmod→Ja,natAbs_neg→Jb
open Int.ofNat renaming inj→tO
open LawfulMonad renaming bind_assoc→SR
open List renaming range→au,mem_cons_self→aK,mem_cons_of_mem→aY,length_map→bB,length_cons→bP,casesOn→bW,replicate→cq,size_toArray→dF,length_append→dG,rec→d6,not_mem_nil→fc,map_cons→gm,length_range→gH,append_assoc→i4,append_nil→m5,zipWith→m9,sum_cons→ni,map_append→nW,replicate_succ→oh,map_map→oj,forIn_cons→pF,drop_eq_getElem_cons→pG,flatten_cons→rB,getElem?_eq_getElem→rG,map_congr_left→rH,getElem?_toArray→tQ,drop_zero→tR,cons_append→tT,mem_append_right→tU,mem_cons→t8,drop_of_length_le→ug,forIn_nil→wE,length_nil→wF,nil_append→wG,foldl_cons→wJ,length_drop→wP,of_mem_zip→wQ,length_take→wU,drop_eq_nil_of_le→yV,getElem_range→zd,mem_append_left→CS,take_of_length_le→CX,getElem?_map→C9,mem_singleton→IJ,reverse_cons→IT,take_length→I0,drop_drop→I5,range_succ→I9,length_singleton→Ji,getElem_mem→SQ,eq_of_mem_replicate→SS,push_toArray→Ta,getElem?_range→Tb,length_reverse→Tc,length_zipWith→Td,mem_of_mem_drop→Tj,mem_of_mem_take→Tk,length_replicate→Tm,getD_eq_getElem?_getD→Tp
open List.cons renaming inj→ju
open Nat renaming le_trans→az,le_refl→aQ,beq→aS,ble→bh,le_of_ble_eq_true→bV,lt_of_le_of_lt→b9,add→cL,mod_lt→dr,le_of_lt→dw,lt_of_lt_of_le→fy,eq_of_beq_eq_true→fD,two_pow_pos→fE,pow→fF,ne_of_lt→fG,mul_comm→fO,zero_le→fP,pow_add→gu,blt→gW,add_comm→iG,zero_add→iY,mul→i5,le_of_eq→i7,le_succ→jt,lt_trans→jU,pow_lt_pow_right→jv,lt_succ_of_le→jw,mul_add→jx,pow_succ→jy,mul_assoc→jS,succ→jT,ble_eq_true_of_le→kz,mul_one→kB,le_add_right→lY,zero_mul→m6,sub→m8,pow_le_pow_right→nh,add_assoc→nV,mul_le_mul_left→nY,ne_of_beq_eq_false→nZ,div→pJ,mul_zero→pK,ne_of_gt→pM,mul_le_mul→lV,lt_succ_self→pN,rec→rC,lt_succ_of_lt→rD,lt_irrefl→rE,mul_pos→tW,pos_of_ne_zero→tZ,log2_lt→wH,add_le_add_left→wK,add_mul→wT,div_add_mod→yU,one_mul→y3,le_add_left→Dj,add_sub_cancel'→za,le_total→CL,sub_add_cancel→CM,min_eq_left→CN,lt_or_ge→CT,succ_pos→CY,le_succ_of_le→C4,add_le_add_right→Dc,not_lt_zero→De,eq_zero_or_pos→Di,pow_pos→Dm,min_le_left→IH,mul_div_mul_right→IL,div_lt_iff_lt_mul→IM,mul_le_mul_right→IN,mul_lt_mul_of_pos_right→IP,add_zero→IQ,mul_lt_mul_of_pos_left→IR,sub_zero→IZ,div_lt_of_lt_mul→Th,div_eq_of_lt→Jc,le_of_lt_succ→Jd,exists_eq_add_of_le→Je,add_sub_cancel→Jj,mul_succ→Jl,sub_eq_zero_of_le→SO,le_div_iff_mul_le→SV,lt_or_eq_of_le→SW,mul_div_cancel→SX,add_right_comm→SY,le_of_succ_le→Tf,add_sub_cancel_left→Ti,le_mul_of_pos_left→Tl
open Ne renaming symm→pQ
open Option renaming casesOn→y5
open Option.some renaming inj→aO,injEq→II
open Ordering renaming lt→IS
open PUnit renaming unit→jR
open Prod.mk renaming inj→y8
open Pure renaming pure→gX
open PyProof renaming noPylong_of_log2→Dh
open PyProof.Rows renaming getItem_tuple→alJ,callWith_type→alK,bitAnd_pp→alM
open PySem renaming Value→aa,Expr→ab,wpAny_bind→ar,Shared→aF,wpAny_pure→aV,World→bj,Program→bF,NameKind→bG,CmpOp→bQ,Params→cc,Operator→cE,OsState→cI,IntMulOk→eE,DictEntry→fN,wpAny_field→iI,Scope→ig,call→kA,wpAny_holding→kD,IsPair→kF,wpAny_mono→kE,wpAny_execs_cons→lZ,Around→m7,mem_of_lookup→ng,FuncData→nX,wpAny_standAt→pO,holding→rA,wpAny_rule→rF,Comprehension→t9,wpAny_Name→ub,wpAny_seqItems→uf,ExceptHandler→uj,GenState→wD,assign→wO,call_meets→y4,wpAny_callSpecial?_slot→y6,wpAny_call_entry→y7,dictSet→CQ,standAt→CR,wpAny_Constant_int→C1,strKind→C3,wpAny_setField→C6,wpAny_Call_NameR→C8,wpAny_setField_rec→Da,wpAny_execs_nil→Db,wpAny_truthy_bool→IV,wpAny_pyIter_tuple→IX,wpAny_newObj_type→I4,typeLookup_type→Jf,builtinLookup_eq_fast→Jg,callWith_function_kw→S8
open PySem.Builtin renaming bitNot→fe,divisionGoesByPylong→ij,bitAnd→kC,bitOr→n9,bitXor→wI
open PySem.Builtin.Int renaming intBits→bk
open PySem.Builtin.List renaming listFitsIndex→alI
open PySem.Builtin.Range renaming rangeSize→iH,small→wL
open PySem.Builtin.Re renaming reDrive→Tn,reRawOf→To,reWholeTarget→alN
open PySem.Builtin.SmallTypes renaming nextOf→uh,ownedTupleIsFree→I7,ownedTupleHandOut→alL
open PySem.Builtin.Str renaming occurrences→alG
open PySem.Calls renaming spliced_cons→uc,callWith_builtin→C2,Name_function_global→IY,loadGlobal_builtin→S7
open PySem.Challenge renaming rw_wb0098_01→alF
open PySem.CmpOp renaming casesOn→yX
open PySem.Const renaming casesOn→CU
open PySem.Data renaming noConfusion→iJ
open PySem.ExceptHandler renaming casesOn→Tt
open PySem.Expr renaming casesOn→cv
open PySem.F renaming slot_zip_next→I8,self_ZeroDivisionError→alP
open PySem.Float64 renaming zero→yY
open PySem.Flt renaming log2_lt_of→y9
open PySem.Heap renaming lt_size→bu,get?_push_of_some→b7,get?_push_size→cU,size_push→gq,get?_update_other→jV,SameBut→lX,size_after_update→tV,get?_update_self→wN,ExtBut→C5
open PySem.Heap.FunFrames renaming cons→Tq
open PySem.Heap.SameBut renaming update→ud
open PySem.NameKind renaming free→fA,cell→lx,noConfusion→wR,casesOn→CZ
open PySem.Obj renaming mapFields→pH,data_mapFields→ue,mapSeq→zc,isFreed_of_fields→I3,cls_mapFields→S9
open PySem.Operator renaming casesOn→tX
open PySem.Sre renaming Seen→jW,forSearch→Dk
open PySem.Stmt renaming casesOn→wM
open PySem.Str renaming length→gJ,ofString→fU
open PySem.StrLaws renaming glued_eq_join→alO
open PySem.Txt renaming join→cA
open PySem.UnaryOp renaming casesOn→CV
open PySem.Value renaming ref→fx,noConfusion→iK,none→i6,isInt→Dl
open PySem.W renaming SharedT→pI
open PySem.W.WData renaming int→Dn
open PySem.pyHashByItsType renaming reduced→CP
open PySem PySem.W PyProof.Rows PySem.Calls PySem.Flt
namespace Mine.Internal
namespace Om
inductive OE|v (i:Nat)|k (n:Nat)|a (x y:OE)|m (c:Nat) (x:OE)|w (x:OE) (c:Nat)|s (x y:OE)|g (x:OE)|u (x:OE)
abbrev ma{α:Type}(d:α)(l:List α):Nat->α:=l.rec (λJ=>d) λx J r i=>i.rec x λi J=>r i
section
variable(N:List Nat)(Z:List Int)
abbrev OE.n(e:OE):Nat:=e.rec (ma 0 N) id (λJ J x y=>x+y) (λc J x=>c*x) (λJ c x=>x*c) (λJ J J J=>0) (λJ J=>0) λJ J=>0
abbrev OE.z(e:OE):Int:=e.rec (ma 0 Z) (λn=>OfNat.ofNat n) (λJ J x y=>x+y) (λc J x=>OfNat.ofNat c*x) (λJ c x=>x*OfNat.ofNat c) (λJ J x y=>x-y) (λJ x=>-x) λx J=>(x.n N:Int)
def oo(p:List Int):List Int->List Int:=p.rec id λa p r q=>q.rec (a::p) λb q J=>(a+b)::r q
def ly(c:Int)(p:List Int):List Int:=p.rec [] λa J r=>(c*a)::r
def punit(i:Nat):List Int:=i.rec [1] λJ r=>0::r
def OE.pn(e:OE):List Int:=e.rec (λi=>punit (2*i+1)) (λn=>[jr n]) (λJ J x y=>oo x y) (λc J x=>ly (jr c) x) (λJ c x=>ly (jr c) x) (λJ J J J=>[]) (λJ J=>[]) λJ J=>[]
def OE.pz(e:OE):List Int:=e.rec (λi=>punit (2*i+2)) (λn=>[jr n]) (λJ J x y=>oo x y) (λc J x=>ly (jr c) x) (λJ c x=>ly (jr c) x) (λJ J x y=>oo x (ly (-1) y)) (λJ x=>ly (-1) x) λx J=>x.pn
def zg(j:Nat):Int:=j.casesOn 1 λj=>if j%2=0 then(ma 0 N (j/2):Nat)else ma 0 Z (j/2)
def ev(p:List Int):Nat->Int:=p.rec (λJ=>0) λa J r j=>a*zg N Z j+r (j+1)
theorem me(p):∀q j,ev N Z (oo p q) j=ev N Z p j+ev N Z q j:=by
 induction p with
 |nil=>exact λq j=>(CJ _).symm|cons a p ih=>
  intro q j;cases q with
  |nil=>exact(wz _).symm|cons b q=>
   show(a+b)*_+ev N Z (oo p q) _=(a*_+_)+(b*_+_)
   rw[ih,rn,Int.add_assoc,Int.add_left_comm (b*_),<-Int.add_assoc];rfl
theorem rJ(c p):∀j,ev N Z (ly c p) j=c*ev N Z p j:=by
 induction p with|nil=>exact λj=>(Int.mul_zero c).symm|cons a p ih=>exact λj=>(congr (congrArg _ (rp c a _)) (ih _)).trans (Int.mul_add _ _ _).symm
theorem Jo(i):∀j,ev N Z (punit i) j=zg N Z (i+j):=by
 induction i with|zero=>exact λj=>(wz _).trans ((lU _).trans (congrArg _ (iY j).symm))|succ i ih=>exact λj=>(congrArg (·+_) (Int.zero_mul _)).trans ((CJ _).trans ((ih _).trans (congrArg _ (Nat.succ_add_eq_add_succ i j).symm)))
theorem Tu(i:Nat):zg N Z (2*i+1)=(ma 0 N i:Nat):=by show(if 2*i%2=0 then((ma 0 N (2*i/2):Nat):Int)else _)=_;rw[if_pos (Nat.mul_mod_right 2 i),Nat.mul_div_cancel_left i (bV rfl)]
theorem Tw(i:Nat):zg N Z (2*i+2)=ma 0 Z i:=by show(if(2*i+1)%2=0 then _ else ma 0 Z ((2*i+1)/2))=_;rw[if_neg λh=>Nat.noConfusion ((Nat.mul_add_mod 2 i 1).symm.trans h),Nat.mul_add_div (bV rfl) i 1];rfl
theorem pT(x:OE):ev N Z x.pn 0=(x.n N:Int):=by
 induction x with|v i=>exact(Jo N Z _ 0).trans (Tu N Z i)|k n=>exact(wz _).trans (CK _)|a x y p q=>exact(me N Z _ _ 0).trans (congr (congrArg _ p) q)|m c x p=>exact(rJ N Z _ _ 0).trans (congrArg _ p)|w x c p=>exact(rJ N Z _ _ 0).trans ((congrArg _ p).trans (ie _ _))|s|g|u=>rfl
theorem Tx(a:Int): -1*a=-a:=(yS 1 a).trans (congrArg _ (lU a))
theorem Do(p):ev N Z (ly (-1) p) 0=-ev N Z p 0:=(rJ N Z _ _ 0).trans (Tx _)
theorem uk(x:OE):ev N Z x.pz 0=x.z N Z:=by
 induction x with|v i=>exact(Jo N Z _ 0).trans (Tw N Z i)|k n=>exact(wz _).trans (CK _)|a x y p q=>exact(me N Z _ _ 0).trans (congr (congrArg _ p) q)|m c x p=>exact(rJ N Z _ _ 0).trans (congrArg _ p)|w x c p=>exact(rJ N Z _ _ 0).trans ((congrArg _ p).trans (ie _ _))|s x y p q=>exact(me N Z _ _ 0).trans (congr (congrArg _ p) ((Do N Z _).trans (congrArg _ q)))|g x p=>exact(Do N Z _).trans (congrArg _ p)|u x=>exact pT N Z x
inductive OF|le (x y:OE)|lt (x y:OE)|eq (x y:OE)|Jp (x y:OE)|Jq (x y:OE)|Jr (x y:OE)|no (f:OF)|an (f g:OF)|or (f g:OF)|im (f g:OF)|ff
abbrev OF.t(f:OF):Prop:=f.rec (λx y=>x.n N<=y.n N) (λx y=>x.n N<y.n N) (λx y=>x.n N=y.n N) (λx y=>x.z N Z<=y.z N Z) (λx y=>x.z N Z<y.z N Z) (λx y=>x.z N Z=y.z N Z) (λJ f=>¬f) (λJ J f g=>f/\g) (λJ J f g=>f∨g) (λJ J f g=>f->g) False
def rK(p q:List Int):List Int:=oo p (ly (-1) q)
def um(p q:List Int):List Int:=oo [-1] (rK p q)
def Dp(p q:List Int)(b:Bool):List (List (List Int)):=cond b [[rK q p]] [[um p q]]
def Dq(p q:List Int)(b:Bool):List (List (List Int)):=cond b [[um q p]] [[rK p q]]
def Dr(p q:List Int)(b:Bool):List (List (List Int)):=cond b [[rK q p,rK p q]] [[um q p],[um p q]]
def dx(a s:List (List (List Int))):List (List (List Int)):=a.rec [] λa J r=>s.map (a++·)++r
def Ds(p q:List (List (List Int)))(b:Bool):List (List (List Int)):=cond b (dx p q) (p++q)
def OF.d(f:OF):Bool->List (List (List Int)):=f.rec (λx y=>Dp x.pn y.pn) (λx y=>Dq x.pn y.pn) (λx y=>Dr x.pn y.pn) (λx y=>Dp x.pz y.pz) (λx y=>Dq x.pz y.pz) (λx y=>Dr x.pz y.pz) (λJ f b=>f (!b)) (λJ J f g b=>Ds (f b) (g b) b) (λJ J f g b=>Ds (f b) (g b) (!b)) (λJ J f g b=>Ds (f (!b)) (g b) (!b)) λb=>cond b [] [[]]
abbrev Nn(p:List Int):Prop:=0<=ev N Z p 0
abbrev All(l:List (List Int)):Prop:=∀p∈l,Nn N Z p
abbrev jX(D:List (List (List Int))):Prop:=∃l∈D,All N Z l
variable{N Z}
theorem uo:All N Z []:=λJ m=>nomatch m
theorem uq{p l}(h:Nn N Z p)(k:All N Z l):All N Z (p::l):=List.forall_mem_cons.mpr ⟨h,k⟩
theorem wW{p r}(h:Nn N Z p):jX N Z ([p]::r):=⟨_,.head _,uq h uo⟩
theorem Js(p q):ev N Z (rK p q) 0=ev N Z p 0-ev N Z q 0:=(me N Z _ _ 0).trans (congrArg _ (Do N Z q))
theorem Tz(p q):ev N Z (um p q) 0=ev N Z p 0-ev N Z q 0-1:=(me N Z _ _ 0).trans ((IE _ _).trans (congrArg (·-1) (Js p q)))
theorem zh{p q}(h:ev N Z q 0<=ev N Z p 0):Nn N Z (rK p q):=Eq.mpr (congrArg (0<=·) (Js p q)) (Int.sub_nonneg_of_le h)
theorem zi{p q}(h:ev N Z q 0<ev N Z p 0):Nn N Z (um p q):=Eq.mpr (congrArg (0<=·) (Tz p q)) (Int.le_sub_one_of_lt (Int.sub_pos_of_lt h))
theorem Jt{p q b}(h:cond b (ev N Z p 0<=ev N Z q 0) (¬ev N Z p 0<=ev N Z q 0)):jX N Z (Dp p q b):=match b,h with|true,h=>wW (zh h)|false,h=>wW (zi (Int.not_le.mp h))
theorem Ju{p q b}(h:cond b (ev N Z p 0<ev N Z q 0) (¬ev N Z p 0<ev N Z q 0)):jX N Z (Dq p q b):=match b,h with|true,h=>wW (zi h)|false,h=>wW (zh (Int.not_lt.mp h))
theorem Jv{p q b}(h:cond b (ev N Z p 0=ev N Z q 0) (¬ev N Z p 0=ev N Z q 0)):jX N Z (Dr p q b):=match b,h with|true,h=>⟨_,.head _,uq (zh (IF h)) (uq (zh (IF h.symm)) uo)⟩|false,h=>(Int.lt_or_gt_of_ne h).elim (λh=>wW (zi h)) λh=>⟨_,.tail _ (.head _),uq (zi h) uo⟩
theorem Jw{a b}(h:All N Z a)(k:All N Z b):All N Z (a++b):=λp m=>(List.mem_append.mp m).elim (h p) (k p)
theorem zk{D E}(h:jX N Z D):jX N Z (D++E):=h.elim λl h=>⟨l,List.mem_append.mpr (.inl h.1),h.2⟩
theorem zl{D E}(h:jX N Z E):jX N Z (D++E):=h.elim λl h=>⟨l,List.mem_append.mpr (.inr h.1),h.2⟩
theorem wX{D E}(h:jX N Z D)(k:jX N Z E):jX N Z (dx D E):=by
 obtain⟨l,m,h⟩:=h;obtain⟨k,n,g⟩:=k
 induction D with|nil=>nomatch m|cons a r ih=>exact(List.mem_cons.mp m).elim (λe=>zk ⟨_,List.mem_map.mpr ⟨k,n,rfl⟩,Jw (e▸h) g⟩) λm=>zl (ih m)
theorem Jx(f:OF):∀b:Bool,cond b (f.t N Z) (¬f.t N Z)->jX N Z (f.d b):=by
 induction f with
 |le x y=>exact λb h=>Jt (by rw[pT,pT];exact(match b,h with|true,h=>Int.ofNat_le.mpr h|false,h=>λk=>h (Int.ofNat_le.mp k)))|lt x y=>exact λb h=>Ju (by rw[pT,pT];exact(match b,h with|true,h=>Int.ofNat_lt.mpr h|false,h=>λk=>h (Int.ofNat_lt.mp k)))|eq x y=>exact λb h=>Jv (by rw[pT,pT];exact(match b,h with|true,h=>congrArg _ h|false,h=>λk=>h (tO k)))|Jp x y=>exact λb h=>Jt (by rw[uk,uk];exact h)|Jq x y=>exact λb h=>Ju (by rw[uk,uk];exact h)|Jr x y=>exact λb h=>Jv (by rw[uk,uk];exact h)|no f p=>exact λb h=>p (!b) (match b,h with|true,h=>h|false,h=>Classical.not_not.mp h)|an f g p q=>exact λb=>match b with
  |true=>λh=>wX (p true h.1) (q true h.2)|false=>λh=>(Classical.em (f.t N Z)).elim (λx=>zl (q false λy=>h ⟨x,y⟩)) λx=>zk (p false x)
 |or f g p q=>exact λb=>match b with
  |true=>λh=>h.elim (λx=>zk (p true x)) λx=>zl (q true x)|false=>λh=>wX (p false λx=>h (.inl x)) (q false λx=>h (.inr x))
 |im f g p q=>exact λb=>match b with
  |true=>λh=>(Classical.em (f.t N Z)).elim (λx=>zl (q true (h x))) λx=>zk (p false x)|false=>λh=>wX (p true (alE λx=>h λy=>absurd y x)) (q false λx=>h λJ=>x)
 |ff=>exact λb=>match b with
  |true=>λh=>h.elim|false=>λJ=>⟨[],.head _,uo⟩
def Jy(c:List Nat):List (List Int)->List Int:=c.rec (λJ=>[]) λa J r f=>f.casesOn [] λp f=>oo (ly (jr a) p) (r f)
theorem TA(c):∀f,All N Z f->Nn N Z (Jy c f):=by
 induction c with
 |nil=>exact λf h=>wA 0|cons a c ih=>exact λf=>match f with
  |[]=>λh=>wA 0|p::f=>λh=>by show 0<=ev N Z (oo _ _) 0;rw[me,rJ];exact Int.add_nonneg (IG (bA _) (h p (.head _))) (ih f λp m=>h p (.tail _ m))
def Jz(d:Nat)(p:List Int):List Int:=p.casesOn [] λc p=>cond ((ly (d:Int) (p.map (·/(d:Int)))==p)&&gW 0 d) (c/(d:Int)::p.map (·/(d:Int))) []
theorem TB(d p)(h:Nn N Z p):Nn N Z (Jz d p):=by
 cases p with
 |nil=>exact h|cons c p=>
  show 0<=ev N Z (cond _ _ _) 0;cases e:((ly (d:Int) (p.map (·/(d:Int)))==p)&&gW 0 d)with|false=>exact wA 0|true=>obtain⟨e,f⟩:=nU _ _▸e;have e:=eq_of_beq e;have f:(0:Int)<d:=Int.ofNat_lt.mpr (Nat.blt_eq▸f);have h:0<=c*1+ev N Z p 1:=h;rw[<-e,rJ,CK]at h;have h:=wB h (cb f);rw[Int.add_mul_ediv_left _ _ (tP f)]at h;exact Eq.mpr (congrArg (λx=>0<=x+_) (CK (c/d))) h
noncomputable def TC(l:List (List Int)):Bool:=l.casesOn false λp J=>p.casesOn false λc p=>c.casesOn (λJ=>false) λJ=>p.all λx=>x==0
theorem wY(p):∀j,p.all (λx=>x==(0:Int))=true->ev N Z p j=0:=by
 induction p with|nil=>exact λJ J=>rfl|cons a p ih=>intro j h;obtain⟨e,f⟩:=nU _ _▸h;exact(congr (congrArg _ (congrArg (·*_) (eq_of_beq e))) (ih _ f)).trans ((wz _).trans (Int.zero_mul _))
def leaf(r:List (Nat×List Nat)):List (List Int)->Bool:=r.rec TC λc J r f=>r (Jz c.1 (Jy c.2 f)::f)
theorem TD(r):∀f,leaf r f=true->All N Z f->False:=by
 induction r with
 |nil=>exact λf=>match f with
  |[]=>nofun|[]::_=>nofun|(.ofNat _::_)::_=>nofun|(.negSucc n::p)::_=>λh a=>by have a:0<=yT n*1+ev N Z p 1:=a _ (.head _);rw[wY p _ h,CK]at a;exact nomatch a
 |cons c r ih=>exact λf h a=>ih _ h (uq (TB c.1 _ (TA c.2 f a)) a)
def Dt(u:List (List Int))(D:List (List (List Int))):List (List (Nat×List Nat))->Bool:=D.rec (λJ=>true) λf J r R=>R.casesOn false λs R=>leaf s (f++u)&&r R
theorem TE{u}(hu:All N Z u)(D):∀R,Dt u D R=true->jX N Z D->False:=by
 induction D with
 |nil=>exact λ_ _ ⟨_,m,_⟩=>nomatch m|cons f D ih=>exact λR=>match R with
  |[]=>nofun|r::R=>λh ⟨l,m,a⟩=>
   have h:=nU _ _▸h
   (List.mem_cons.mp m).elim (λe=>TD r _ h.1 (Jw (e▸a) hu)) λm=>ih R h.2 ⟨l,m,a⟩
def Du(k:Nat):List (List Int):=k.rec [] λk r=>punit (2*k+1)::r
theorem TG(k):All N Z (Du k):=by
 induction k with|zero=>exact uo|succ k ih=>exact uq (Eq.mpr (congrArg (0<=·) (pT N Z (.v k))) (bA _)) ih
variable(N Z)
abbrev OF.JA(g:OF)(l:List OF):Prop:=l.rec (g.t N Z) λh J r=>h.t N Z->r
def wZ(l:List OF):List (List (List Int)):=l.rec [[]] λh J r=>dx (h.d true) r
theorem TH(g:OF)(hs:List OF):(jX N Z (wZ hs)->g.t N Z)->g.JA N Z hs:=by
 induction hs with|nil=>exact λh=>h ⟨[],.head _,uo⟩|cons f r ih=>exact λh x=>ih λy=>h (wX (Jx f true x) y)
end
noncomputable abbrev p1{α β:Type}(l:List α)(d:β)(k:α->List α->β):β:=l.casesOn d k
abbrev p2{α β:Type}(l:List α)(d:β)(k:α->α->List α->β):β:=p1 l d λy l=>p1 l d λx l=>k x y l
noncomputable abbrev kk(e:OE):Nat:=e.casesOn (λJ=>0) id (λJ J=>0) (λJ J=>0) (λJ J=>0) (λJ J=>0) (λJ=>0) λJ=>0
noncomputable abbrev dec:Nat->Nat->List OE->List OF->List OF
 |0,_,_,F=>F|f+1,s,es,F=>
  let t:=s%16
  let r:=s/16
  let e2 (c:OE->OE->OE):=λr=>p2 es F λx y es=>dec f r (c x y::es) F
  let f2 (c:OE->OE->OF):=λr=>p2 es F λx y es=>dec f r es (c x y::F)
  let e1 (c:OE->OE):=λr=>p1 es F λx es=>dec f r (c x::es) F
  let g2 (c:OF->OF->OF):=λr=>p2 F F λx y F=>dec f r es (c x y::F)
  bif bh t 6 then dec f r (.v t::es) F else
   ma F [dec f (r/16) (.v (r%16)::es) F,e2 .a r,dec f (r/16) (.k (r%16)::es) F,
    dec f (r/16/16^(r%16)) (.k (r/16%16^(r%16))::es) F,f2 .le r,f2 .lt r,f2 .eq r,
    ma F [F,e2 (λx y=>.m (kk x) y) (r/16),e2 (λx y=>.w x (kk y)) (r/16),e2 .s (r/16),e1 .g (r/16),e1 .u (r/16),f2 .Jp (r/16),f2 .Jq (r/16),f2 .Jr (r/16),dec f (r/4096/16^(r/16%256)) (.k (r/4096%16^(r/16%256))::es) F] (r%16),
    ma F [p1 F F λx F=>dec f (r/16) es (.no x::F),g2 .an (r/16),g2 .or (r/16),g2 .im (r/16),dec f (r/16) es (.ff::F)] (r%16)] (t-7)
abbrev iM(N:List Nat)(Z:List Int)(l:List OF):Prop:=l.casesOn True λg hs=>g.JA N Z hs
noncomputable def oq{β:Type}(s:Nat)(k:Nat->Nat->β):β:=
 bif aS (s%16) 15 then k (s/256%16^(s/16%16)) (s/256/16^(s/16%16))else k (s%16) (s/16)
def zm{β:Type}(n:Nat):Nat->(List Nat->Nat->β)->β:=n.rec (λs k=>k [] s) λJ r s k=>oq s λa s=>r s λl=>k (a::l)
def zo{β:Type}(n:Nat):Nat->(List (Nat×List Nat)->Nat->β)->β:=n.rec (λs k=>k [] s) λJ r s k=>oq s λd s=>oq s λn s=>zm n s λc s=>r s λl=>k ((d,c)::l)
def zq(n:Nat):Nat->(List (List (Nat×List Nat))->Bool)->Bool:=n.rec (λJ k=>k []) λJ r s k=>oq s λn s=>zo n s λl s=>r s λm=>k (l::m)
def i9(c e:Nat):Bool:=p1 (dec 400 c [] []) true λg hs=>oq e λk e=>zq (dx (g.d false) (wZ hs)).length e λR=>Dt (Du k) (dx (g.d false) (wZ hs)) R
theorem w0{s}{k:Nat->Nat->Bool}(h:oq s k=true):∃a s,k a s=true:=by unfold oq at h;exact(match aS (s%16) 15,h with|true,h=>⟨_,_,h⟩|false,h=>⟨_,_,h⟩)
theorem TJ(n):∀{s} {k:List Nat->Nat->Bool},zm n s k=true->∃a s,k a s=true:=by
 induction n with|zero=>exact λh=>⟨_,_,h⟩|succ n ih=>exact λ{s k} h=>have⟨_,_,h⟩:=w0 (s:=s) (k:=λa s=>zm n s λl=>k (a::l)) h;have⟨_,_,h⟩:=ih h;⟨_,_,h⟩
theorem TK(n):∀{s} {k:List (Nat×List Nat)->Nat->Bool},zo n s k=true->∃a s,k a s=true:=by
 induction n with|zero=>exact λh=>⟨_,_,h⟩|succ n ih=>exact λ{s k} h=>have⟨_,_,h⟩:=w0 (s:=s) (k:=λd s=>oq s λm s=>zm m s λc s=>zo n s λl=>k ((d,c)::l)) h;have⟨_,_,h⟩:=w0 h;have⟨_,_,h⟩:=TJ _ h;have⟨_,_,h⟩:=ih h;⟨_,_,h⟩
theorem TM(n):∀{s} {k:List (List (Nat×List Nat))->Bool},zq n s k=true->∃a,k a=true:=by
 induction n with|zero=>exact λh=>⟨_,h⟩|succ n ih=>exact λ{s k} h=>have⟨_,_,h⟩:=w0 (s:=s) (k:=λm s=>zo m s λl s=>zq n s λm=>k (l::m)) h;have⟨_,_,h⟩:=TK _ h;have⟨_,h⟩:=ih h;⟨_,h⟩
theorem TN(N:List Nat)(Z:List Int)(e):∀l,p1 l true (λg hs=>oq e λk e=>zq (dx (g.d false) (wZ hs)).length e λR=>Dt (Du k) (dx (g.d false) (wZ hs)) R)=true->iM N Z l
 |[]=>λJ=>trivial|g::hs=>λh=>TH N Z g hs λy=>alE λx=>
  have⟨_,_,h⟩:=w0 h;have⟨_,h⟩:=TM _ h
  TE (TG _) _ _ h (wX (Jx g false x) y)
theorem om(c e:Nat)(N:List Nat)(Z:List Int)(h:i9 c e=true:=by exact⋯):iM N Z (dec 400 c [] []):=TN N Z e _ h
theorem sb{a b:Nat}:(b<=a/\a-b+b=a)∨(a<=b/\a-b=0):=(CL b a).imp (λh=>⟨h,CM h⟩) λh=>⟨h,SO h⟩
theorem dm(k a:Nat)(h:0<k:=by exact⋯):k*(a/k)+a%k=a/\a%k<k:=⟨yU a k,dr a h⟩
theorem dz(k a:Int)(h:0<k:=by exact⋯):k*(a/k)+a%k=a/\0<=a%k/\a%k<k:=⟨wC a k,rt a (tP h),ry a h⟩
theorem mi{a b:Nat}:(min a b<=a/\min a b<=b)/\(min a b=a∨min a b=b):=⟨⟨IH a b,Nat.min_le_right a b⟩,(CL a b).imp CN Nat.min_eq_right⟩
theorem tn{a:Int}:(0<=a/\(a.toNat:Int)=a)∨(a<=0/\a.toNat=0):=(CO 0 a).imp (λh=>⟨h,rz h⟩) λh=>⟨h,Int.toNat_of_nonpos h⟩
theorem na{a:Int}:(0<=a/\(a.natAbs:Int)=a)∨(a<=0/\(a.natAbs:Int)=-a):=(CO 0 a).imp (λh=>⟨h,Int.natAbs_of_nonneg h⟩) λh=>⟨h,Int.ofNat_natAbs_of_nonpos h⟩
theorem n0(C E:Nat)(h:i9 C E=true:=by exact⋯):iM [] [] (dec 400 C [] []):=om C E _ _ h
theorem n1(C E:Nat){a:Nat}(h:i9 C E=true:=by exact⋯):iM [a] [] (dec 400 C [] []):=om C E _ _ h
theorem n2(C E:Nat){a b:Nat}(h:i9 C E=true:=by exact⋯):iM [a,b] [] (dec 400 C [] []):=om C E _ _ h
theorem n3(C E:Nat){a b c:Nat}(h:i9 C E=true:=by exact⋯):iM [a,b,c] [] (dec 400 C [] []):=om C E _ _ h
theorem n4(C E:Nat){a b c d:Nat}(h:i9 C E=true:=by exact⋯):iM [a,b,c,d] [] (dec 400 C [] []):=om C E _ _ h
theorem n5(C E:Nat){a b c d e:Nat}(h:i9 C E=true:=by exact⋯):iM [a,b,c,d,e] [] (dec 400 C [] []):=om C E _ _ h
theorem n6(C E:Nat){a b c d e f:Nat}(h:i9 C E=true:=by exact⋯):iM [a,b,c,d,e,f] [] (dec 400 C [] []):=om C E _ _ h
theorem n7(C E:Nat){a b c d e f g:Nat}(h:i9 C E=true:=by exact⋯):iM [a,b,c,d,e,f,g] [] (dec 400 C [] []):=om C E _ _ h
theorem n8(C E:Nat){a b c d e f g i:Nat}(h:i9 C E=true:=by exact⋯):iM [a,b,c,d,e,f,g,i] [] (dec 400 C [] []):=om C E _ _ h
theorem z1(C E:Nat){a:Int}(h:i9 C E=true:=by exact⋯):iM [] [a] (dec 400 C [] []):=om C E _ _ h
theorem z2(C E:Nat){a b:Int}(h:i9 C E=true:=by exact⋯):iM [] [a,b] (dec 400 C [] []):=om C E _ _ h
theorem z3(C E:Nat){a b c:Int}(h:i9 C E=true:=by exact⋯):iM [] [a,b,c] (dec 400 C [] []):=om C E _ _ h
theorem z4(C E:Nat){a b c d:Int}(h:i9 C E=true:=by exact⋯):iM [] [a,b,c,d] (dec 400 C [] []):=om C E _ _ h
theorem z5(C E:Nat){a b c d e:Int}(h:i9 C E=true:=by exact⋯):iM [] [a,b,c,d,e] (dec 400 C [] []):=om C E _ _ h
theorem z6(C E:Nat){a b c d e f:Int}(h:i9 C E=true:=by exact⋯):iM [] [a,b,c,d,e,f] (dec 400 C [] []):=om C E _ _ h
end Om
open Om renaming n2→ao,sb→aq,n1→ax,n3→aC,n4→a9,om→bL,z2→cy,n5→cV,z1→dy,n0→dS,na→g7,dm→iL,tn→i8,z3→nj,mi→pR,n6→pS,z4→rI,n7→wV,z5→zf,z6→Jm,dz→Jn
namespace Hd
noncomputable abbrev pw:=PySem.Challenge.pw_wb0098_01
noncomputable def cW:List Stmt->Nat->Stmt|s::_,0=>s|_::r,n+1=>cW r n|[],_=>default
def rb(n:Nat):Stmt:=cW pw.main.body n
def q0:Stmt:=rb 0
noncomputable def q1:Stmt:=rb 1
noncomputable def q2:Stmt:=rb 2
def q3:Stmt:=rb 3
def q4:Stmt:=rb 4
def q5:Stmt:=rb 5
def q6:Stmt:=rb 6
def q7:Stmt:=rb 7
def q8:Stmt:=rb 8
def q9:Stmt:=rb 9
def zB:Stmt:=rb 10
def zC:Stmt:=rb 11
def zD:Stmt:=rb 12
def pU:Stmt:=rb 13
def pV:Stmt:=rb 14
def pW:Stmt:=rb 15
def pX:Stmt:=rb 16
def pY:Stmt:=rb 17
def pZ:Stmt:=rb 18
def p9:Stmt:=rb 19
def qa:Stmt:=rb 20
def ur:Stmt:=rb 21
def zE:Stmt:=rb 22
def uu:Stmt:=rb 23
def ot:Stmt:=rb 24
def uv:Stmt:=rb 25
def lz:Stmt:=rb 26
def uw:Stmt:=rb 27
def uA:Stmt:=rb 28
def qc:Stmt:=rb 29
def zF:Stmt:=rb 30
def ux:Stmt:=rb 31
def uy:Stmt:=rb 32
def uz:Stmt:=rb 33
def rN:Stmt:=rb 34
def sM:ig:=pw.main.scope
def cells:List Stmt:=[q1,q2,q3,q4,q5,q6,q7,q8,q9,zB,zC,zD,pU,pV,pW,pX,pY,pZ,p9,qa,ur,zE,uu,ot,uv,lz,uw,uA,qc,zF,ux,uy,uz,rN]
abbrev fV:bF:=pw
theorem Dx:pw=fV:=rfl
end Hd
namespace Hd
noncomputable def w3(prog:bF)(w:bj)(n₀:Nat)(ann:Option aa)(b:List Stmt)(env:Env)(q:Pos)(heap:Heap)(gens:Array wD)(drawn:Drawn)(toks:Nat)(os:cI)(k:Int)(t:Tok)(K:Int->Sem Fin)(H:aa->Sem Fin)(gd:Bool->Bool)(lv:List aa->List aa)(p:Pos)(n:Nat)(bb:Bool):=
 segGo treeTable prog (w.withFollow "special-get-raises" bb) n₀ ann 1 n ⟨heap,gens,drawn,toks,os⟩ ⟨(pyHash (.int k t)).wrap K H gd lv,.body b env,p,[topFrame q]⟩
theorem VC:Hd.w3=Hd.w3:=rfl
name_quick hashRunQ for Hd.w3 by Hd.VC
theorem VD(prog:bF)(w:bj)(n₀:Nat)(ann:Option aa)(b:List Stmt)(env:Env)(q:Pos)(heap:Heap)(gens:Array wD)(drawn:Drawn)(toks:Nat)(os:cI)(k:Int)(t:Tok)(K:Int->Sem Fin)(H:aa->Sem Fin)(gd:Bool->Bool)(lv:List aa->List aa)(p:Pos):(PySem.W.Fast.hashRunQ prog w n₀ ann b env q heap gens drawn toks os k t K H gd lv p 5 true)=some (⟨heap,gens,drawn,toks+1,os⟩,⟨((CP (rawHash k))).wrap K H gd lv,.body b env,p,[topFrame q]⟩):=⋯
theorem VE(prog:bF)(w:bj)(n₀:Nat)(ann:Option aa)(b:List Stmt)(env:Env)(q:Pos)(heap:Heap)(gens:Array wD)(drawn:Drawn)(toks:Nat)(os:cI)(k:Int)(t:Tok)(K:Int->Sem Fin)(H:aa->Sem Fin)(gd:Bool->Bool)(lv:List aa->List aa)(p:Pos):(PySem.W.Fast.hashRunQ prog w n₀ ann b env q heap gens drawn toks os k t K H gd lv p 5 false)=some (⟨heap,gens,drawn,toks+1,os⟩,⟨((CP (rawHash k))).wrap K H gd lv,.body b env,p,[topFrame q]⟩):=⋯
theorem VF(prog:bF)(w:bj)(n₀:Nat)(ann:Option aa)(b:List Stmt)(env:Env)(q:Pos)(s:aF)(k:Int)(t:Tok)(K:Int->Sem Fin)(H:aa->Sem Fin)(gd:Bool->Bool)(lv:List aa->List aa)(p:Pos):segGo treeTable prog w n₀ ann 1 5 s ⟨(pyHash (.int k t)).wrap K H gd lv,.body b env,p,[topFrame q]⟩=some ({s with toks:=s.toks+1},⟨((CP (rawHash k))).wrap K H gd lv,.body b env,p,[topFrame q]⟩):=by
 have h:∀bb,Hd.w3 prog w n₀ ann b env q s.heap s.gens s.drawn s.toks s.os k t K H gd lv p 5 bb=some ({s with toks:=s.toks+1},⟨((CP (rawHash k))).wrap K H gd lv,.body b env,p,[topFrame q]⟩):=by
  intro bb;rw[PySem.W.Fast.hashRunQ_eq];cases bb
  ·exact VE ..
  ·exact VD ..
 have:=h (w.params.followText "special-get-raises");unfold w3 at this;rw[World.withFollow_self]at this;exact this
section
variable(prog:bF)(w:bj)(n₀:Nat)(ann:Option aa)(b:List Stmt)(env:Env)(q:Pos)
def Go{α:Type}(t:Sem α)(s:aF)(p:Pos)(a:α)(s':aF)(p':Pos)(n:Nat):Prop:=
 ∀(K:α->Sem Fin) (H:aa->Sem Fin) (gd:Bool->Bool) (lv:List aa->List aa) (N:Nat),
  segRun treeTable prog w n₀ ann 1 (N+n) s ⟨t.wrap K H gd lv,.body b env,p,[topFrame q]⟩=
   segRun treeTable prog w n₀ ann 1 N s' ⟨K a,.body b env,p',[topFrame q]⟩
end
section
variable{α β:Type}
theorem Go.pure:Go prog w n₀ ann b env q (gX a:Sem α) s p a s p 0:=λJ J J J J=>rfl
theorem JE(t:Sem α)(f:α->Sem β)(K:β->Sem Fin)(H gd lv):(t>>=f).wrap K H gd lv=t.wrap (λa=>(f a).wrap K H gd lv) H gd lv:=by rw[Sem.bind_eq_wrap',Sem.wrap_wrap];rfl
theorem Go.bind(h:Go prog w n₀ ann b env q t s p a s₁ p₁ n)(k:Go prog w n₀ ann b env q (f a) s₁ p₁ c lA JF m):Go prog w n₀ ann b env q (t>>=f) s p c lA JF (m+n):=by intro K H gd lv N;rw[JE,<-nV,h,k]
theorem Go.keep(h:Go prog w n₀ ann b env q t s p a s₁ p₁ n):Go prog w n₀ ann b env q (t.keep vs) s p a s₁ p₁ n:=by intro K H gd lv N;rw[Sem.keep_eq_wrap,Sem.wrap_wrap];exact h K H gd _ N
theorem Go.holding(h:Go prog w n₀ ann b env q t s p a s₁ p₁ n):Go prog w n₀ ann b env q (holding vs t) s p a s₁ p₁ n:=by
 unfold rA
 split
 ·exact h
 ·exact h.keep
theorem Go.onRaise(h:Go prog w n₀ ann b env q t s p a s₁ p₁ n):Go prog w n₀ ann b env q (t.onRaise hd) s p a s₁ p₁ n:=by intro K H gd lv N;rw[Sem.onRaise_eq_wrap,Sem.wrap_wrap];exact h K _ gd _ N
theorem Go.rule:Go prog w n₀ ann b env q (rule tag) s p () s p 1:=λJ J J J J=>rfl
theorem Go.standAt:Go prog w n₀ ann b env q (standAt p') s p () s p' 1:=λJ J J J J=>rfl
theorem Go.fresh:Go prog w n₀ ann b env q fresh s p s.toks {s with toks:=s.toks+1} p 1:=λJ J J J J=>rfl
theorem Go.alloc:Go prog w n₀ ann b env q (alloc o) s p s.heap.objs.size {s with heap:=s.heap.push o} p 1:=λJ J J J J=>rfl
theorem Dy(he:endAt 1 t=none)(hk:stepOk n₀ ann t=true)(hs:PySem.step (denote treeTable) prog w s t=.go s' t'):segRun treeTable prog w n₀ ann 1 (N+1) s t=segRun treeTable prog w n₀ ann 1 N s' t':=by rw[segRun,he];dsimp only;rw[hk];dsimp only;rw[hs]
theorem Go.loadPart(h:s.heap.get? a=some o):Go prog w n₀ ann b env q (loadPart a part) s p o s p 1:=by intro K H gd lv N;refine Dy rfl rfl ?_;obtain⟨heap,gens,drawn,toks,os⟩:=s;dsimp only at h;show(match heap.get? a with|some o=>Step.go _ _|none=>_)=_;rw[h];rfl
theorem Go.updatePart(h:s.heap.get? a=some o)(ok:n₀<=a):Go prog w n₀ ann b env q (updatePart a part f) s p () {s with heap:=s.heap.update a f} p 1:=by
 intro K H gd lv N;refine Dy rfl ?_ ?_
 ·show(true&&(bh n₀ a||a==mainNs||a==cStatics||ann==some (.ref a)))=true
  rw[kz ok];rfl
 obtain⟨heap,gens,drawn,toks,os⟩:=s;dsimp only at h;show(if(heap.get? a).isSome=true then Step.go _ _ else _)=_;rw[h];rfl
theorem VG(h:segGo treeTable prog w n₀ ann 1 n s t=some (s',t')):segRun treeTable prog w n₀ ann 1 (N+n) s t=segRun treeTable prog w n₀ ann 1 N s' t':=by
 induction n generalizing s t with
 |zero=>simp only[segGo,II,Prod.mk.injEq]at h;obtain⟨rfl,rfl⟩:=h;rfl
 |succ n ih=>
  unfold segGo at h;cases he:endAt 1 t with
  |some f=>rw[he]at h;cases h|none=>
   rw[he]at h;cases hk:stepOk n₀ ann t with
   |false=>rw[hk]at h;cases h|true=>
    rw[hk]at h;cases hs:PySem.step (denote treeTable) prog w s t with|halt o lA=>rw[hs]at h;cases h|go lA alQ=>rw[hs]at h;rw[<-ih h];exact Dy he hk hs
theorem Go.pyHash(h0:0<=k)(h1:k<2^60):Go prog w n₀ ann b env q (pyHash (.int k t)) s p k {s with toks:=s.toks+1} p 5:=by
 intro K H gd lv N;rw[VG (VF prog w n₀ ann b env q s k t K H gd lv p)];have e:rawHash k=k:=by
  have a:((k.natAbs:Int)%((2^61-1:Nat):Int))=k:=by rw[show(k.natAbs:Int)=k by exact(bL 0xe8e05e06e0092f1f8e4e05e06e0901f8e05e06e009 0x101311001422100141110014110001522100015111 [_] [_]) h0 g7];refine Int.emod_eq_of_lt h0 ?_;rw[show((2^61-1:Nat):Int)=2305843009213693951 by decide];exact(dy 0xe7e1fffffffffffffff109e07e1000000000000000109e0 1122576) h1
  unfold rawHash;dsimp only;have VH:¬k<0:=(dy 0xe0f7e0906e009 1122576) h0;have:(k== -1)=false:=by rw[beq_eq_false_iff_ne];exact(dy 0xe0f8e4e1906e009 16855312) h0
  rw[a,if_neg VH,this];rfl
 rw[e];unfold CP;have a1:(k== -1)=false:=by rw[beq_eq_false_iff_ne];exact(dy 0xe0f8e4e1906e009 16855312) h0
 rw[if_pos (by simp;exact(dy 0xe1f7e8000000000000000109e06e04e8000000000000000109e6e0097e1000000000000000109e0 17674076758288) h0 h1),a1];rfl
end
end Hd
namespace Hd
noncomputable def HL(L:List Obj):Heap:=⟨L.toArray,{}⟩
noncomputable def aB(es:List fN):Obj:={cls:=.type "dict",data:=.dict es.toArray es.length}
theorem JG(L:List Obj):(HL L).objs.size=L.length:=by simp[HL]
theorem JH(L:List Obj)(o:Obj):(HL L).push o=HL (L++[o]):=by simp[HL,Heap.push]
theorem rO(ha:a=A.length):(HL (A++aB es::G)).get? a=some (aB es):=by subst ha;unfold Heap.get? HL;simp[aB]
theorem JI:∀A:List Obj,(A++o::G).modify A.length f=A++f o::G|[]=>rfl|a::A=>by have:=JI (o:=o) (G:=G) (f:=f) A;simpa [List.modify]using this
theorem VI(ha:a=A.length):(HL (A++o::G)).update a f=HL (A++f o::G):=by subst ha;unfold Heap.update HL;simp only[Heap.mk.injEq,and_true];apply Array.ext';simp[JI]
theorem VJ(es:List fN)(e:fN):Obj.mapDictKeys (·.push e) (aB es)=aB (es++[e]):=by simp[aB,Obj.mapDictKeys]
section
variable{prog:bF}{w:bj}{n₀:Nat}{ann:Option aa}{b:List Stmt}{env:Env}{q:Pos}{α β:Type}{p p₁ JF:Pos} {gens:Array wD} {drawn:Drawn} {os:cI} {T:Nat}
abbrev St(L:List Obj)(gens:Array wD)(drawn:Drawn)(T:Nat)(os:cI):aF:=⟨HL L,gens,drawn,T,os⟩
theorem Go.map{t:Sem α}{f:α->β}{a:α}{n:Nat}(h:Go prog w n₀ ann b env q t s p a s₁ p₁ n):Go prog w n₀ ann b env q (t>>=λx=>gX (f x)) s p (f a) s₁ p₁ n:=
 (iY n)▸Go.bind h Go.pure
theorem Go.zG(h:s.heap.get? a=some (aB es)):Go prog w n₀ ann b env q (dictEntries a part) s p es.toArray s p 1:=by unfold PySem.dictEntries;exact Go.bind (m:=0) (n:=1) (Go.loadPart h) Go.pure
theorem Go.dictEpoch(h:s.heap.get? a=some (aB es)):Go prog w n₀ ann b env q (dictEpoch a part) s p es.length s p 1:=by unfold PySem.dictEpoch;exact Go.bind (m:=0) (n:=1) (Go.loadPart h) Go.pure
theorem VK{es:List fN}{k:Int}(hk:∀e∈es,e.hash≠k):placesWithHash es.toArray.size (λi=>Option.map (λx=>x.hash) es.toArray[i]?) k=[]:=by unfold placesWithHash;rw[List.filter_eq_nil_iff];intro i _ h;simp only[tQ,beq_iff_eq,Option.map_eq_some_iff]at h;obtain⟨e,he,hh⟩:=h;exact hk e (List.mem_of_getElem? he) hh
theorem Go.dictFind{d:Addr}{k:Int}{t:Tok}{es:List fN}(h:s.heap.get? d=some (aB es))(hk:∀e∈es,e.hash≠k):Go prog w n₀ ann b env q (dictFind d (.int k t) k) s p none s p 1:=by unfold PySem.dictFind;refine Go.holding (Go.bind (m:=0) (n:=1) (Go.zG h) ?_);dsimp only;rw[VK hk];exact Go.pure
theorem Go.lookBehind(h:s.heap.get? a=some (aB es))(hs:es.length<=100000):Go prog w n₀ ann b env q (lookBehind a part) s p () s p 1:=by
 unfold PySem.lookBehind;refine Go.bind (m:=0) (n:=1) (Go.loadPart h) ?_;have:(aB es).data.pastItsLine=none:=by show(if es.toArray.size>sizeLine+1 then some _ else none)=none;rw[if_neg];have:sizeLine=16777216:=rfl;simp only[dF];exact(ao 0xe0fc18190b186a05a1d10000007a0 269566226) hs this
 rw[this];exact Go.pure
theorem Go.JJ(hd:d=A.length)(hn:n₀<=d)(hs:es.length<100000):Go prog w n₀ ann b env q (updateDictKeys d (·.push e) part) (St (A++aB es::G) gens drawn T os) p () (St (A++aB (es++[e])::G) gens drawn T os) p 3:=by unfold PySem.updateDictKeys;refine Go.bind (m:=2) (n:=1) (Go.loadPart (rO hd)) ?_;refine Go.bind (m:=1) (n:=1) (Go.updatePart (rO hd) hn) ?_;rw[VI hd,VJ];exact Go.lookBehind (rO hd) (by simp;exact(ax 0xeb1869f5a0c186a05a0 1122577) hs)
theorem Go.dictSet(hd:d=A.length)(hn:n₀<=d)(hs:es.length<100000)(hk:∀e∈es,e.hash≠k)(h0:0<=k)(h1:k<2^60):Go prog w n₀ ann b env q (dictSet d (.int k t) v) (St (A++aB es::G) gens drawn T os) p () (St (A++aB (es++[⟨k,.int k t,v⟩])::G) gens drawn (T+1) os) p 10:=by unfold CQ;refine Go.holding (Go.bind (m:=5) (n:=5) (Go.pyHash h0 h1) ?_);unfold PySem.dictSetHashed;refine Go.holding (Go.bind (m:=4) (n:=1) (Go.dictFind (rO hd) hk) ?_);exact Go.bind (m:=3) (n:=1) Go.rule (Go.JJ hd hn hs)
theorem Go.dictPut(hd:d=A.length)(hn:n₀<=d)(hs:es.length<100000)(hk:∀e∈es,e.hash≠k):Go prog w n₀ ann b env q (dictPut d k (.int k t) v) (St (A++aB es::G) gens drawn T os) p () (St (A++aB (es++[⟨k,.int k t,v⟩])::G) gens drawn T os) p 4:=by unfold PySem.dictPut;exact Go.bind (m:=3) (n:=1) (Go.dictFind (rO hd) hk) (Go.JJ hd hn hs)
theorem Go.mkInt:Go prog w n₀ ann b env q (mkInt i) s p (.int i s.toks) {s with toks:=s.toks+1} p 1:=Go.bind (m:=0) (n:=1) Go.fresh Go.pure
theorem Go.mkText:Go prog w n₀ ann b env q (mkText x) s p (.str x s.toks) {s with toks:=s.toks+1} p 1:=Go.bind (m:=0) (n:=1) Go.fresh Go.pure
noncomputable def rP(kv:Int×Str):Sem aa:=PySem.mkInt kv.1
noncomputable def qe(pos:Pos)(kv:Int×Str):Sem aa:=do let x <-PySem.mkText kv.2;CR pos;gX x
theorem Go.JK:Go prog w n₀ ann b env q (qe pos kv) s p (.str kv.2 s.toks) {s with toks:=s.toks+1} pos 2:=
 Go.bind (m:=1) (n:=1) Go.mkText (Go.bind (m:=0) (n:=1) Go.standAt Go.pure)
noncomputable def bC:Nat->List (Int×Str)->List fN|_,[]=>[]|T,kv::r=>⟨kv.1,.int kv.1 T,.str kv.2 (T+1)⟩::bC (T+3) r
noncomputable def kG:Nat->List (Int×Str)->List fN|_,[]=>[]|T,kv::r=>⟨kv.1,.int kv.1 T,.str kv.2 (T+1)⟩::kG (T+2) r
theorem zH:∀(l:List (Int×Str)) (T:Nat),(bC T l).map (·.hash)=l.map (·.1)|[],_=>rfl|kv::r,T=>by simp[bC,zH r]
theorem JL:∀(l:List (Int×Str)) (T:Nat),(kG T l).map (·.hash)=l.map (·.1)|[],_=>rfl|kv::r,T=>by simp[kG,JL r]
theorem zI:∀(l:List (Int×Str)) (T:Nat),(bC T l).length=l.length|[],_=>rfl|kv::r,T=>by simp[bC,zI r]
def g9(l:List (Int×Str)):Prop:=(∀kv∈l,0<=kv.1/\kv.1<2^60)/\l.Pairwise λa b=>a.1<b.1
noncomputable def VL(d:Nat):Sem aa×Sem aa->PUnit->Sem (ForInStep PUnit):=λx J=>match x with
 |(k,v)=>do
  let kv <-k
  let vv <-rA [kv] v
  rA [kv,vv] (CQ d kv vv)
  gX (iZ jR)
theorem Go.JM(hd:d=A.length)(hn:n₀<=d):∀(l:List (Int×Str)) (es:List fN) (T:Nat) (p:Pos),g9 l->(∀kv∈l,∀e∈es,e.hash<kv.1)->es.length+l.length<100000->(l=[]->p=pos)-> Go prog w n₀ ann b env q (forIn (l.map λkv=>(rP kv,qe pos kv)) jR (VL d)) (St (A++[aB es]) gens drawn T os) p jR (St (A++[aB (es++bC T l)]) gens drawn (T+3*l.length) os) pos (13*l.length)
 |[],es,T,p,_,_,_,hp=>by cases hp rfl;simp only[List.map_nil,wE,bC,m5];exact Go.pure|kv::r,es,T,p,hk,aM,hs,_=>by
  obtain⟨h0,h1⟩:=hk.1 kv (.head _);have hr:g9 r:=⟨λx hx=>hk.1 x (.tail _ hx),(List.pairwise_cons.mp hk.2).2⟩
  have ih:=Go.JM (A:=A) (d:=d) (pos:=pos) hd hn r (es++[⟨kv.1,.int kv.1 T,.str kv.2 (T+1)⟩]) (T+3) pos hr (by
   intro x hx e he;rcases List.mem_append.mp he with he|he
   ·exact aM x (.tail _ hx) e he
   ·simp only[IJ]at he;subst he;exact(List.pairwise_cons.mp hk.2).1 x hx) (by simp only[dG,bP,wF]at hs⊢;exact(ao 0xec186a05a818190c186a05a881910 1122578) hs) (λJ=>rfl)
  rw[i4]at ih;simp only[gm,pF];refine(show 13*(kv::r).length=13*r.length+13 by simp only[bP];exact ax 0xed8d91e0d91e8190d9 4581298449)▸?_;refine Go.bind (m:=13*r.length) (n:=13) (s₁:=St (A++[aB (es++[⟨kv.1,.int kv.1 T,.str kv.2 (T+1)⟩])]) gens drawn (T+3) os) (p₁:=pos) (a:=iZ jR) ?_ ?_
  ·show Go prog w n₀ ann b env q (do let k' <-rP kv;let v' <-rA [k'] (qe pos kv);rA [k',v'] (CQ d k' v');gX (iZ jR)) _ _ _ _ _ _
   refine Go.bind (m:=12) (n:=1) Go.mkInt (Go.bind (m:=10) (n:=2) (Go.holding Go.JK) (Go.bind (m:=0) (n:=10) (a:=()) (Go.holding ?_) Go.pure));exact Go.dictSet (G:=[]) hd hn (by simp only[bP]at hs;exact(ao 0xec186a05a0c186a05a881910 17903890) hs) (λe he=>Int.ne_of_lt (aM kv (.head _) e he)) h0 h1
  ·have e1:T+3+3*r.length=T+3*(kv::r).length:=by simp only[bP];exact ao 0xed81e819139081e1398390 4581298450
   rw[e1]at ih;exact ih
theorem Go.JN{A:List Obj}{pos:Pos}{l:List (Int×Str)}(hn:n₀<=A.length)(hk:g9 l)(hl:15<l.length)(hs:l.length<100000):Go prog w n₀ ann b env q (subDict (l.map λkv=>(rP kv,qe pos kv))) (St A gens drawn T os) p A.length (St (A++[aB (bC T l)]) gens drawn (T+3*l.length) os) pos (13*l.length+2):=by
 unfold subDict;refine Go.bind (m:=13*l.length+1) (n:=1) (a:=A.length) (s₁:=St (A++[aB []]) gens drawn T os) (p₁:=p) ?_ ?_
 ·have:=Go.alloc (prog:=prog) (w:=w) (n₀:=n₀) (ann:=ann) (b:=b) (env:=env) (q:=q) (s:=St A gens drawn T os) (p:=p) (o:=aB [])
  rw[JH,JG]at this;exact this
 ·refine Go.map (f:=λJ=>A.length) (a:=()) (Go.holding ?_)
  rw[if_neg (by simp only[bB];exact(ax 0xe0fbf90c0f9 1122577) hl)];refine Go.bind (m:=13*l.length) (n:=1) Go.rule ?_;have h:=Go.JM (prog:=prog) (w:=w) (n₀:=n₀) (ann:=ann) (b:=b) (env:=env) (q:=q) (gens:=gens) (drawn:=drawn) (os:=os) (A:=A) (d:=A.length) (pos:=pos) rfl hn l [] T p hk (λJ J e he=>nomatch he) (by simpa using hs) (λe=>by subst e;simp at hl);exact Go.map (f:=λJ=>()) h
theorem Go.evalPairs{pos:Pos}:∀(l:List (Int×Str)) (s:aF) (p:Pos),(l=[]->p=pos)-> Go prog w n₀ ann b env q (PySem.evalPairs (l.map λkv=>(rP kv,qe pos kv))) s p ((kG s.toks l).map λe=>(e.key,e.val)) {s with toks:=s.toks+2*l.length} pos (3*l.length)
 |[],s,p,hp=>by cases hp rfl;exact Go.pure|kv::r,s,p,_=>by
  have ih:=Go.evalPairs (pos:=pos) r {s with toks:=s.toks+1+1} pos (λJ=>rfl);refine(show 3*(kv::r).length=3*r.length+2+1 by simp only[bP];exact ax 0xed8198291e0391e819039 4581298449)▸?_;refine Go.bind (m:=3*r.length+2) (n:=1) Go.mkInt (Go.bind (m:=3*r.length) (n:=2) (Go.holding Go.JK) ?_);have h2:=Go.map (f:=λl=>(Value.int kv.1 s.toks,Value.str kv.2 (s.toks+1))::l) (Go.holding (vs:=[.int kv.1 s.toks,.str kv.2 (s.toks+1)]) ih);have e1:s.toks+1+1+2*r.length=s.toks+2*(kv::r).length:=by simp only[bP];exact ao 0xed81e819129081e1298198190 4581298450
  dsimp only at h2;rw[e1]at h2;exact h2
noncomputable def VM(d:Nat):aa×aa->PUnit->Sem (ForInStep PUnit):=λx J=>match x with
 |(k,v)=>do
  CQ d k v
  gX (iZ jR)
theorem Go.JO(hd:d=A.length)(hn:n₀<=d):∀(l:List (Int×Str)) (es:List fN) (T U:Nat),g9 l->(∀kv∈l,∀e∈es,e.hash<kv.1)->es.length+l.length<100000-> Go prog w n₀ ann b env q (forIn ((kG U l).map λe=>(e.key,e.val)) jR (VM d)) (St (A++[aB es]) gens drawn T os) p jR (St (A++[aB (es++kG U l)]) gens drawn (T+l.length) os) p (10*l.length)
 |[],es,T,U,_,_,_=>by simp only[List.map_nil,wE,kG,m5];exact Go.pure|kv::r,es,T,U,hk,aM,hs=>by
  obtain⟨h0,h1⟩:=hk.1 kv (.head _);have hr:g9 r:=⟨λx hx=>hk.1 x (.tail _ hx),(List.pairwise_cons.mp hk.2).2⟩
  have ih:=Go.JO (A:=A) (d:=d) hd hn r (es++[⟨kv.1,.int kv.1 U,.str kv.2 (U+1)⟩]) (T+1) (U+2) hr (by
   intro x hx e he;rcases List.mem_append.mp he with he|he
   ·exact aM x (.tail _ hx) e he
   ·simp only[IJ]at he;subst he;exact(List.pairwise_cons.mp hk.2).1 x hx) (by simp only[dG,bP,wF]at hs⊢;exact(ao 0xec186a05a818190c186a05a881910 1122578) hs)
  rw[i4]at ih;simp only[kG,gm,pF];refine(show 10*(kv::r).length=10*r.length+10 by simp only[bP];exact ax 0xed8a91e0a91e8190a9 4581298449)▸?_;refine Go.bind (m:=10*r.length) (n:=10) (s₁:=St (A++[aB (es++[⟨kv.1,.int kv.1 U,.str kv.2 (U+1)⟩])]) gens drawn (T+1) os) (p₁:=p) (a:=iZ jR) ?_ ?_
  ·show Go prog w n₀ ann b env q (do CQ d _ _;gX (iZ jR)) _ _ _ _ _ _
   exact Go.bind (m:=0) (n:=10) (a:=()) (Go.dictSet (G:=[]) hd hn (by simp only[bP]at hs;exact(ao 0xec186a05a0c186a05a881910 17903890) hs) (λe he=>Int.ne_of_lt (aM kv (.head _) e he)) h0 h1) Go.pure
  ·have e1:T+1+r.length=T+(kv::r).length:=by simp only[bP];exact ao 0xed881910818190 4581298450
   rw[e1]at ih;exact ih
theorem Go.VN{A:List Obj}{pos:Pos}{l:List (Int×Str)}(hn:n₀<=A.length)(hk:g9 l)(hl:l.length<=15)(dB:l≠[]):Go prog w n₀ ann b env q (subDict (l.map λkv=>(rP kv,qe pos kv))) (St A gens drawn T os) p A.length (St (A++[aB (kG T l)]) gens drawn (T+2*l.length+l.length) os) pos (13*l.length+1):=by
 unfold subDict;refine Go.bind (m:=13*l.length) (n:=1) (a:=A.length) (s₁:=St (A++[aB []]) gens drawn T os) (p₁:=p) ?_ ?_
 ·have:=Go.alloc (prog:=prog) (w:=w) (n₀:=n₀) (ann:=ann) (b:=b) (env:=env) (q:=q) (s:=St A gens drawn T os) (p:=p) (o:=aB [])
  rw[JH,JG]at this;exact this
 ·refine Go.map (f:=λJ=>A.length) (a:=()) (Go.holding ?_)
  rw[if_pos (by simp only[bB];exact(ax 63343476624 1122577) hl)];refine(show 13*l.length=10*l.length+3*l.length by exact ax 0xed81e0391e0a91e0d9 4581298449)▸?_;refine Go.bind (m:=10*l.length) (n:=3*l.length) (Go.evalPairs l _ p (λe=>absurd e dB)) (Go.holding ?_);have h:=Go.JO (prog:=prog) (w:=w) (n₀:=n₀) (ann:=ann) (b:=b) (env:=env) (q:=q) (gens:=gens) (drawn:=drawn) (os:=os) (p:=pos) (A:=A) (d:=A.length) rfl hn l [] (T+2*l.length) T hk (λJ J e he=>nomatch he) (by simp;exact(ax 0xec186a05a0bf90 1122577) hl);exact Go.map (f:=λJ=>()) h
theorem uB(ha:a=A.length+1+G.length):(HL (A++aB es::(G++[aB es']))).get? a=some (aB es'):=by have:=rO (A:=A++aB es::G) (G:=[]) (es:=es') (a:=a) (by simp;exact(aC 0xed8819210d8281910 18833716883731) ha);simpa using this
noncomputable def JP(d a VO:Nat):Nat->PUnit->Sem (ForInStep PUnit):=λi J=>do
 match(<-PySem.dictEntries a)[i]? with
 |some e=>do
  rA [e.key,e.val] (PySem.dictPut d e.hash e.key e.val)
  if(<-PySem.dictEpoch a)!=VO then do
   unsupported "dict.changed-during-merge"
   gX (iZ jR)
  else gX (iZ jR)
 |x=>do
  unsupported "dict.changed-during-merge"
  gX (iZ jR)
theorem Go.JQ(hd:d=A.length)(ha:a=A.length+1+G.length)(hn:n₀<=d)(rQ:es'.Pairwise λx y=>x.hash<y.hash)(zJ:∀e∈es',∃t,e.key=.int e.hash t):∀(m i:Nat) (es:List fN),i+m=es'.length->(∀e∈es,∀e'∈es'.drop i,e.hash<e'.hash)->es.length+m<100000-> Go prog w n₀ ann b env q (forIn (List.range' i m) jR (JP d a es'.length)) (St (A++aB es::(G++[aB es'])) gens drawn T os) p jR (St (A++aB (es++es'.drop i)::(G++[aB es'])) gens drawn T os) p (6*m)
 |0,i,es,h,_,_=>by rw[yV (by exact(ao 0xeb10d08091 16855314) h)];simp only[List.range'_zero,wE,m5];exact Go.pure|m+1,i,es,h,aM,hs=>by
  have hi:i<es'.length:=by exact(aC 0xec10d1881920 269566227) h
  have JR:=pG hi;obtain⟨t,ht⟩:=zJ _ (SQ hi);have hp:(es'.drop i).Pairwise λx y=>x.hash<y.hash:=rQ.sublist (List.drop_sublist ..);rw[JR]at hp aM
  have ih:=Go.JQ (A:=A) (G:=G) (d:=d) (a:=a) (es':=es') hd ha hn rQ zJ m (i+1) (es++[es'[i]]) ((aC 0xed2818190d2881910 18833716883731) h) (by
   intro e he e' nq;rcases List.mem_append.mp he with he|he
   ·exact aM e he e' (.tail _ nq)
   ·simp only[IJ]at he;subst he;exact(List.pairwise_cons.mp hp).1 e' nq) (by simp only[dG,bP,wF];exact(ao 0xec186a05a818190c186a05a881910 1122578) hs)
  rw[i4]at ih;rw[JR,List.range'_succ,pF];refine(show 6*(m+1)=6*m+6 by exact ax 0xed8691e0691e819069 4581298449)▸?_;refine Go.bind (m:=6*m) (n:=6) (s₁:=St (A++aB (es++[es'[i]])::(G++[aB es'])) gens drawn T os) (p₁:=p) (a:=iZ jR) ?_ ih;unfold JP;refine Go.bind (m:=5) (n:=1) (Go.zG (uB ha)) ?_;have e1:es'.toArray[i]?=some es'[i]:=by simp[hi]
  rw[e1];dsimp only;refine Go.bind (m:=1) (n:=4) (a:=()) (s₁:=St (A++aB (es++[es'[i]])::(G++[aB es'])) gens drawn T os) (p₁:=p) (Go.holding ?_) ?_
  ·have:=Go.dictPut (prog:=prog) (w:=w) (n₀:=n₀) (ann:=ann) (b:=b) (env:=env) (q:=q) (gens:=gens) (drawn:=drawn) (T:=T) (os:=os) (p:=p) (A:=A) (G:=G++[aB es']) (es:=es) (d:=d) (k:=es'[i].hash) (t:=t) (v:=es'[i].val) hd hn ((ao 0xec186a05a0c186a05a881910 17903890) hs) (λe he=>Int.ne_of_lt (aM e he _ (.head _)))
   rw[<-ht]at this;exact this
  ·refine Go.bind (m:=0) (n:=1) (Go.dictEpoch (uB ha)) ?_
   rw[if_neg (by simp)];exact Go.pure
theorem Go.typeOf{a:Addr}{es:List fN}(h:s.heap.get? a=some (aB es)):Go prog w n₀ ann b env q (PySem.typeOf (.ref a)) s p (.type "dict") s p 1:=by exact Go.map (f:=λo:Obj=>o.cls) (Go.loadPart h)
theorem VP:isSubtype (.type "dict") (.type "dict")=gX true:=by rw[isSubtype_type];exact⋯
theorem Go.merge{A G:List Obj}{es es':List fN}{d a:Nat}(hd:d=A.length)(ha:a=A.length+1+G.length)(hn:n₀<=d)(VQ:a≠sysModules)(dB:es≠[])(aM:∀e∈es,∀e'∈es',e.hash<e'.hash) (rQ:es'.Pairwise λx y=>x.hash<y.hash) (zJ:∀e∈es',∃t,e.key=.int e.hash t) (hs:es.length+es'.length<100000):Go prog w n₀ ann b env q (mergeMapping d (.ref a) false) (St (A++aB es::(G++[aB es'])) gens drawn T os) p () (St (A++aB (es++es')::(G++[aB es'])) gens drawn T os) p (6*es'.length+5):=by
 unfold mergeMapping;refine Go.bind (m:=6*es'.length+4) (n:=1) (a:=true) (s₁:=St (A++aB es::(G++[aB es'])) gens drawn T os) (p₁:=p) ?_ ?_
 ·unfold isInstance
  refine Go.bind (m:=0) (n:=1) (Go.typeOf (uB ha)) ?_;rw[VP];exact Go.pure
 ·rw[if_pos rfl]
  refine Go.bind (m:=6*es'.length+3) (n:=1) (a:=some (Value.builtin "dict.__iter__")) (s₁:=St (A++aB es::(G++[aB es'])) gens drawn T os) (p₁:=p) ?_ ?_
  ·unfold specialOf
   refine Go.bind (m:=0) (n:=1) (Go.typeOf (uB ha)) ?_;rw[show typeLookup (.type "dict") (fU "__iter__")=gX (some (.builtin "dict.__iter__"))from F.slot_dict_iter.lookup];exact Go.pure
  ·refine Go.bind (m:=6*es'.length+3) (n:=0) (a:=true) (s₁:=St (A++aB es::(G++[aB es'])) gens drawn T os) (p₁:=p) ?_ ?_
   ·have:(some (Value.builtin "dict.__iter__")==some (Value.builtin "dict.__iter__"))=true:=by simp
    rw[this];exact Go.pure
   ·dsimp only
    rw[if_neg (by simpa using VQ)];refine Go.bind (m:=6*es'.length+2) (n:=1) (Go.zG (rO hd)) ?_;rw[if_neg (by simpa using dB)];refine Go.bind (m:=6*es'.length+1) (n:=1) (Go.zG (uB ha)) ?_;refine Go.bind (m:=6*es'.length) (n:=1) (Go.dictEpoch (uB ha)) ?_;have h:=Go.JQ (prog:=prog) (w:=w) (n₀:=n₀) (ann:=ann) (b:=b) (env:=env) (q:=q) (gens:=gens) (drawn:=drawn) (T:=T) (os:=os) (p:=p) (A:=A) (G:=G) (d:=d) (a:=a) (es':=es') hd ha hn rQ zJ es'.length 0 es (ax 248545289 4581298449) (by simpa using aM) hs;rw[tR,<-List.range_eq_range']at h;have:=Go.map (f:=λJ=>()) h;simp only[dF];exact this
end
end Hd
namespace Hd
noncomputable abbrev KV:=Int×Str
noncomputable abbrev SP:=Sem aa×Sem aa
def mf(pos:Pos)(kv:KV):Option (Sem aa)×Sem aa:=(some (rP kv),qe pos kv)
def qf(pos:Pos)(kv:KV):SP:=(rP kv,qe pos kv)
noncomputable def qg(run:List SP)(main:Option Addr):Sem (Option Addr):=
 if run.isEmpty=true then gX main
 else match main with
  |none=>do
   let r <-subDict run
   gX (some r)
  |some d=>do
   let sub <-rA [fx d] (subDict run)
   (rA [fx d,fx sub] (mergeMapping d (fx sub) false)).onRaise λx=>do
    let _ <-rA [fx d,x] (runValue (Code.builtin "proto.let_go" {}))
    gX ()
   gX (some d)
def Dz(st:Option Addr×List SP):Sem aa:=do
 match(<-qg st.2 st.1)with|some d=>gX (fx d)|none=>newDict
noncomputable abbrev zK:=Option (Sem aa)×Sem aa->Option Addr×List SP->Sem (ForInStep (Option Addr×List SP))
def BodyOk(iN:zK):Prop:=∀(k v:Sem aa) (main:Option Addr) (run:List SP),iN (some k,v) (main,run)=
 if((run++[(k,v)]).length==17)=true then do
  let main <-qg (run++[(k,v)]) main
  gX (iZ (main,[]))
 else gX (iZ (main,run++[(k,v)]))
theorem VS(items:List (Option (Sem aa)×Sem aa)):∃iN:zK,BodyOk iN/\dictDisplay items=(do let st <-forIn items (none,[]) iN;Dz st):=
 ⟨_,λJ J J J=>rfl,rfl⟩
theorem DA(hb:BodyOk iN):∀(l:List KV) (run:List SP),run.length+l.length<17-> forIn ((l++rest).map (mf pos)) (main,run) iN=forIn (rest.map (mf pos)) (main,run++l.map (qf pos)) iN
 |[],run,_=>by simp|kv::l,run,h=>by
  have ih:=DA hb (pos:=pos) (rest:=rest) (main:=main) l (run++[qf pos kv]) (by simp only[dG,bP,wF]at h⊢;exact(ao 0xec112a818190c112a881910 1122578) h);rw[i4]at ih;simp only[tT,gm,pF];have e:iN (mf pos kv) (main,run)=gX (iZ (main,run++[qf pos kv])):=by refine(hb _ _ _ _).trans ?_;rw[if_neg (by simp only[dG,bP,wF]at h⊢;simp;exact(ao 0xe0fd102a0c112a881910 286277906) h)];rfl
  rw[e];exact ih
theorem JS{iN:zK}(hb:BodyOk iN){pos:Pos}{rest:List KV}{main:Option Addr}{g:List KV}(hg:g.length=17):forIn ((g++rest).map (mf pos)) (main,[]) iN=(do let m <-qg (g.map (qf pos)) main;forIn (rest.map (mf pos)) (m,[]) iN):=by
 obtain⟨g',x,rfl⟩:∃g' x,g=g'++[x]:=⟨g.dropLast,g.getLast (by intro h;subst h;cases hg),(List.dropLast_concat_getLast _).symm⟩
 rw[i4,DA hb g' [] (by simp at hg⊢;exact(ax 0xec112a0d102a0 1122577) hg)];simp only[tT,wG,gm,pF];have e:iN (mf pos x) (main,g'.map (qf pos))=(do let m <-qg ((g'++[x]).map (qf pos)) main;gX (iZ (m,[]))):=by refine(hb _ _ _ _).trans ?_;rw[if_pos (by simp at hg⊢;exact(ax 0xed102a0d102a0 18833716883729) hg)];rw[nW];rfl
 rw[e,SR];rfl
section
variable{prog:bF}{w:bj}{ann:Option aa}{b:List Stmt}{env:Env}{q:Pos}{α β:Type} {gens:Array wD} {drawn:Drawn} {os:cI} {T:Nat}
theorem JT:∀(l:List KV) (T:Nat),∀e∈bC T l,∃t,e.key=.int e.hash t|[],_=>λJ h=>absurd h fc|kv::r,T=>List.forall_mem_cons.mpr ⟨⟨_,rfl⟩,JT r _⟩
theorem JU:∀(l:List KV) (T:Nat),∀e∈kG T l,∃t,e.key=.int e.hash t|[],_=>λJ h=>absurd h fc|kv::r,T=>List.forall_mem_cons.mpr ⟨⟨_,rfl⟩,JU r _⟩
theorem VT{es:List fN}{l:List KV}(h:es.map (·.hash)=l.map (·.1))(hk:g9 l):es.Pairwise λx y=>x.hash<y.hash:=by have:=List.pairwise_map.mpr hk.2;rw[<-h]at this;exact List.pairwise_map.mp this
theorem DB{es:List fN}{l:List KV}(h:es.map (·.hash)=l.map (·.1)){e:fN}(he:e∈es):∃kv∈l,kv.1=e.hash:=by have:e.hash∈es.map (·.hash):=List.mem_map_of_mem he;rw[h]at this;exact List.mem_map.mp this
theorem g9.left(h:g9 (l++r)):g9 l:=⟨λx hx=>h.1 x (CS _ hx),(List.pairwise_append.mp h.2).1⟩
theorem g9.right(h:g9 (l++r)):g9 r:=⟨λx hx=>h.1 x (tU _ hx),(List.pairwise_append.mp h.2).2.1⟩
theorem g9.lt(h:g9 (l++r)):∀a∈l,∀b∈r,a.1<b.1:=(List.pairwise_append.mp h.2).2.2
theorem Go.flush{A G:List Obj}{es es':List fN}{d:Nat}{l:List KV}{pos:Pos}{n:Nat}{T':Nat}(hd:d=A.length)(hn:n₀<=d)(hA:1<d)(dB:es≠[])(hl:l≠[]) (JV:∀A':List Obj,n₀<=A'.length->Go prog w n₀ ann b env q (subDict (l.map (qf pos))) (St A' gens drawn T os) p A'.length (St (A'++[aB es']) gens drawn T' os) pos n) (he:es'.map (·.hash)=l.map (·.1)) (VU:∀e∈es',∃t,e.key=.int e.hash t) (hk:g9 l) (aM:∀kv∈l,∀e∈es,e.hash<kv.1) (hs:es.length+l.length<100000):Go prog w n₀ ann b env q (qg (l.map (qf pos)) (some d)) (St (A++aB es::G) gens drawn T os) p (some d) (St (A++aB (es++es')::(G++[aB es'])) gens drawn T' os) pos (6*l.length+5+n):=by
 unfold qg;rw[if_neg (by simpa using hl)];dsimp only;have hlen:es'.length=l.length:=by simpa using congrArg List.length he
 have h1:=JV (A++aB es::G) (by simp only[dG,bP];exact(a9 0xeb8819210d13b30 68989051156) hd hn);have e1:A++aB es::G++[aB es']=A++aB es::(G++[aB es']):=by simp
 rw[e1]at h1;refine Go.bind (m:=6*l.length+5) (n:=n) (Go.holding h1) ?_;have h2:=Go.merge (prog:=prog) (w:=w) (n₀:=n₀) (ann:=ann) (b:=b) (env:=env) (q:=q) (gens:=gens) (drawn:=drawn) (T:=T') (os:=os) (p:=pos) (A:=A) (G:=G) (es:=es) (es':=es') (d:=d) (a:=(A++aB es::G).length) hd (by simp;exact ao 0xed818190881910 4581298450) hn
  (by have h0:sysModules=1:=rfl;rw[h0];simp only[dG,bP];exact(aC 0xe0fd19881910d02c219 1103823466771) hd hA) dB (λe DC e' nq=>by obtain⟨kv,hm,hh⟩:=DB he nq;rw[<-hh];exact aM kv hm e DC) (VT he hk) VU ((aC 0xec186a05a810c186a05a820d21 17903891) hs hlen)
 rw[hlen]at h2;exact Go.map (f:=λJ=>some d) (Go.onRaise (Go.holding h2))
theorem Go.fin{d:Nat}{run:List SP}{n:Nat}(h:Go prog w n₀ ann b env q (qg run (some d)) s p (some d) s₁ p₁ n):Go prog w n₀ ann b env q (Dz (some d,run)) s p (.ref d) s₁ p₁ n:=
 (iY n)▸Go.bind (m:=0) h Go.pure
noncomputable def w4:Nat->List (List KV)->List KV->List fN|T,[],l=>kG T l|T,g::gs,l=>bC T g++w4 (T+3*g.length) gs l
noncomputable def GF:Nat->List (List KV)->List KV->List Obj|T,[],l=>[aB (kG T l)]|T,g::gs,l=>aB (bC T g)::GF (T+3*g.length) gs l
noncomputable def TF:Nat->List (List KV)->List KV->Nat|T,[],l=>T+2*l.length+l.length|T,g::gs,l=>TF (T+3*g.length) gs l
noncomputable def NF:List (List KV)->List KV->Nat|[],l=>6*l.length+5+(13*l.length+1)|g::gs,l=>NF gs l+(6*g.length+5+(13*g.length+2))
theorem Go.groups{iN:zK}(hb:BodyOk iN){A:List Obj}{d:Nat}{pos:Pos}(hd:d=A.length)(hn:n₀<=d)(hA:1<d){l:List KV}(hl:l≠[])(w5:l.length<=15):∀(gs:List (List KV)) (es:List fN) (G:List Obj) (T:Nat) (p:Pos),(∀g∈gs,g.length=17)->g9 (gs.flatten++l)->es≠[]->(∀kv∈gs.flatten++l,∀e∈es,e.hash<kv.1)->es.length+(gs.flatten++l).length<100000-> Go prog w n₀ ann b env q (do let st <-forIn ((gs.flatten++l).map (mf pos)) (some d,[]) iN;Dz st) (St (A++aB es::G) gens drawn T os) p (.ref d) (St (A++aB (es++w4 T gs l)::(G++GF T gs l)) gens drawn (TF T gs l) os) pos (NF gs l)
 |[],es,G,T,p,_,hk,dB,aM,hs=>by simp only[List.flatten_nil,wG]at hk aM hs⊢;have e:=DA hb (pos:=pos) (rest:=[]) (main:=some d) l [] (by simp;exact(ax 0xec112a0bf90 1122577) w5);rw[m5]at e;rw[e];simp only[List.map_nil,wE,wG];exact Go.fin (Go.flush hd hn hA dB hl (λA' DD=>Go.VN DD hk w5 hl) (JL l T) (JU l T) hk aM hs)|g::gs,es,G,T,p,hg,hk,dB,aM,hs=>by
  have ox:=hg g (.head _);simp only[rB,i4]at hk aM hs⊢;rw[JS hb ox,SR];have zM:g≠[]:=by rintro rfl;cases ox
  have ih:=Go.groups hb (pos:=pos) hd hn hA hl w5 gs (es++bC T g) (G++[aB (bC T g)]) (T+3*g.length) pos (λx hx=>hg x (.tail _ hx)) hk.right (by simp[dB]) (by
   intro kv uC e he;rcases List.mem_append.mp he with he|he
   ·exact aM kv (tU _ uC) e he
   ·obtain⟨DE,hm,hh⟩:=DB (zH g T) he
    rw[<-hh];exact hk.lt DE hm kv uC) (by simp only[dG,zI]at hs⊢;exact(a9 0xec186a05a8832810c186a05a8883210 1122580) hs)
  refine Go.bind (m:=NF gs l) (n:=6*g.length+5+(13*g.length+2)) (Go.flush hd hn hA dB zM (λA' DD=>Go.JN DD hk.left ((ax 0xec0f9d112a0 16855313) ox) ((ax 0xec186a05a0d112a0 1122577) ox)) (zH g T) (JT g T) hk.left (λkv uC=>aM kv (CS _ uC)) (by simp only[dG]at hs;exact(a9 0xec186a05a810c186a05a8883210 286343444) hs)) ?_;rw[i4,i4]at ih;exact ih
theorem Go.display{A:List Obj}{pos:Pos}(hn:n₀<=A.length)(hA:1<A.length){g:List KV}(ox:g.length=17){gs:List (List KV)}(hg:∀g∈gs,g.length=17){l:List KV}(hl:l≠[])(w5:l.length<=15) (hk:g9 (g++(gs.flatten++l))) (hs:(g++(gs.flatten++l)).length<100000):Go prog w n₀ ann b env q (dictDisplay ((g++(gs.flatten++l)).map (mf pos))) (St A gens drawn T os) p (.ref A.length) (St (A++aB (bC T g++w4 (T+3*g.length) gs l)::GF (T+3*g.length) gs l) gens drawn (TF (T+3*g.length) gs l) os) pos (NF gs l+(13*g.length+2)):=by
 obtain⟨iN,hb,e⟩:=VS ((g++(gs.flatten++l)).map (mf pos));rw[e,JS hb ox,SR];have zM:g≠[]:=by rintro rfl;cases ox
 have ih:=Go.groups (prog:=prog) (w:=w) (n₀:=n₀) (ann:=ann) (b:=b) (env:=env) (q:=q) (gens:=gens) (drawn:=drawn) (os:=os) hb (pos:=pos) (A:=A) rfl hn hA hl w5 gs (bC T g) [] (T+3*g.length) pos hg hk.right (by
   intro h;have:=congrArg List.length h;rw[zI]at this;simp at this;exact zM this) (by
   intro kv uC e he;obtain⟨DE,hm,hh⟩:=DB (zH g T) he
   rw[<-hh];exact hk.lt DE hm kv uC) (by have h:=hs;simp only[dG]at h;simp only[dG,zI];exact(aC 0xec186a05a88210c186a05a88210 1122579) h)
 refine Go.bind (m:=NF gs l) (n:=13*g.length+2) (a:=some A.length) (s₁:=St (A++[aB (bC T g)]) gens drawn (T+3*g.length) os) (p₁:=pos) ?_ ?_
 ·unfold qg
  rw[if_neg (by simpa using zM)];exact Go.map (f:=some) (Go.JN (l:=g) hn hk.left ((ax 0xec0f9d112a0 16855313) ox) (by have h:=hs;simp only[dG]at h;exact(ax 0xec186a05a0d112a0 1122577) ox))
 ·exact ih
end
end Hd
namespace Hd
noncomputable def fdOf(st:Stmt)(globals:Addr)(mod code:aa):nX:=match st with|.FunctionDef name args body _ _ _ scope _ _ _=>{name:=name,qualname:=name,params:=args,body:=.stmts body,scope:=scope,globals:=globals,closure:=[],defaults:=.none,kwdefaults:=.none,pyModule:=mod,code:=code}|_=>{name:=default,qualname:=default,params:=default,body:=.stmts [],scope:=default,globals:=0,closure:=[],defaults:=.none,kwdefaults:=.none}
def rawFn(st:Stmt):Obj:={cls:=.none,data:=.func (fdOf st 0 .none .none)}
def gK(st:Stmt)(mod code:aa):Obj:={cls:=.type "function",data:=.func (fdOf st 3 mod code)}
noncomputable def qh(P:cc)(x:Str)(t:Tok)(v:aa):Obj->Obj:=Obj.mapDictKeys (·.push ⟨PyData.keyHash P x,.str x t,v⟩)
noncomputable def uD(l c:Nat):Obj->Obj:=pH (·++[.int l 0,.int 0 0,.ref c].toArray)
noncomputable def kv(P:cc)(x:Str)(t:Tok)(v:aa):fN:=⟨PyData.keyHash P x,.str x t,v⟩
noncomputable def oT(vs:List aa):Obj:=⟨.type "tuple",none,.seq vs.toArray 0,#[]⟩
noncomputable def oL(vs:List aa):Obj:=⟨.type "list",none,.seq vs.toArray 0,#[]⟩
noncomputable def oF(vs:List aa):Obj:=⟨.none,none,.fields vs.toArray,#[]⟩
noncomputable def oD(es:List fN)(n:Nat):Obj:=⟨.type "dict",none,.dict es.toArray n,#[]⟩
noncomputable def oC(x:Str)(t l n f a:Nat)(b c d:aa)(u:Nat):Obj:=⟨.type "code",none,.fields #[.str x t,.str x (t+1),.str (fU "/claim/cut.py") (t+2),.int l 0,.int n 0,.int 0 0,.int 0 0,.int f 0,.ref a,.bool true,.int 276 0,.ref (a+1),.none,b,c,d,.int u 0,.int l 0,.str (fU "/claim/cut.py") (u+1)],#[]⟩
def n3(P:cc):Obj:=oD [kv P "__name__" 165 (.str "cpy313.stringprep" 542),kv P "__doc__" 166 .none,kv P "__package__" 167 .none,kv P "__loader__" 168 (.builtin "__main__.__loader__#opaque"),kv P "__spec__" 169 .none,kv P "__annotations__" 170 (.ref 6),kv P "__builtins__" 171 (.ref 4),kv P "__file__" 173 (.str "/claim/cut.py" 172),kv P "__cached__" 174 .none,kv P "_sre" 275 (.ref 12),kv P "_DIV_LIMIT" 285 (.int 4000 284),kv P "_div2n1n" 302 (.ref 38),kv P "_div3n2n" 316 (.ref 45),kv P "_int2digits" 327 (.ref 52),kv P "_digits2int" 338 (.ref 59),kv P "_divmod_pos" 353 (.ref 66),kv P "int_divmod" 363 (.ref 73),kv P "ONE_THIRD" 369 (.float 4599676419421066581 368),kv P "ONE_SIXTH" 373 (.float 4595172819793696085 372),kv P "TWO_THIRD" 377 (.float 4604180019048437077 376),kv P "rgb_to_yiq" 389 (.ref 80),kv P "yiq_to_rgb" 401 (.ref 87),kv P "rgb_to_hls" 420 (.ref 94),kv P "hls_to_rgb" 431 (.ref 101),kv P "_v" 440 (.ref 108),kv P "rgb_to_hsv" 458 (.ref 115),kv P "hsv_to_rgb" 472 (.ref 122),kv P "_twin_re_1" 490 (.ref 127),kv P "_twin_re_2" 532 (.ref 132),kv P "CRLF" 534 (.str "\x0d\n" 533),kv P "quotedata" 541 (.ref 139)] 31
def n6(P:cc):Obj:=oD [] 0
def n7(P:cc):Obj:=oT []
def n8(P:cc):Obj:=oF []
def DF(P:cc):Obj:=oF [.int 4 0,.int 0 0,.ref 37,.int 20 0,.int 0 0,.ref 44,.int 30 0,.int 0 0,.ref 51,.int 46 0,.int 0 0,.ref 58,.int 55 0,.int 0 0,.ref 65,.int 66 0,.int 0 0,.ref 72,.int 81 0,.int 0 0,.ref 79,.int 86 0,.int 0 0,.ref 86,.int 103 0,.int 0 0,.ref 93,.int 126 0,.int 0 0,.ref 100,.int 135 0,.int 0 0,.ref 107,.int 144 0,.int 0 0,.ref 114,.int 163 0,.int 0 0,.ref 121,.int 188 0,.int 0 0,.ref 138]
def JW(P:cc):Obj:=oT [.none]
def m0(P:cc):Obj:=oD [kv P "__name__" 165 (.str "__main__" 164),kv P "__doc__" 166 .none,kv P "__package__" 167 .none,kv P "__loader__" 168 (.builtin "__main__.__loader__#opaque"),kv P "__spec__" 169 .none,kv P "__annotations__" 170 (.ref 6),kv P "__builtins__" 171 (.ref 4),kv P "__file__" 173 (.str "/claim/cut.py" 172),kv P "__cached__" 174 .none,kv P "_sre" 275 (.ref 12)] 10
def t0(P:cc):Obj:=oF []
noncomputable def k1(a:Nat)(s:Str):List KV:=(au s.cps.size).map λi=>(((a+i:Nat):Int),⟨#[s.cps.getD i 0]⟩)
noncomputable def k2(a:Nat)(s:Str):List KV:=[((a:Int),s)]
def mh:List KV:=k1 181 "μ"++k2 223 "ss"++k2 304 "i̇"++k2 329 "ʼn"++k1 383 "s"++k2 496 "ǰ"++k1 837 "ι"++k2 890 " ι"++k2 912 "ΐ"++k2 944 "ΰ"++k1 962 "σ"++k1 976 "βθυύϋφ"
def lB:List (List KV):=[k1 982 "π"++k1 1008 "κρσ"++k1 1013 "ε"++k2 1415 "եւ"++k2 7830 "ẖ"++k2 7831 "ẗ"++k2 7832 "ẘ"++k2 7833 "ẙ"++k2 7834 "aʾ"++k1 7835 "ṡ"++k2 8016 "ὐ"++k2 8018 "ὒ"++k2 8020 "ὔ"++k2 8022 "ὖ"++k2 8064 "ἀι",k2 8065 "ἁι"++k2 8066 "ἂι"++k2 8067 "ἃι"++k2 8068 "ἄι"++k2 8069 "ἅι"++k2 8070 "ἆι"++k2 8071 "ἇι"++k2 8072 "ἀι"++k2 8073 "ἁι"++k2 8074 "ἂι"++k2 8075 "ἃι"++k2 8076 "ἄι"++k2 8077 "ἅι"++k2 8078 "ἆι"++k2 8079 "ἇι"++k2 8080 "ἠι"++k2 8081 "ἡι",k2 8082 "ἢι"++k2 8083 "ἣι"++k2 8084 "ἤι"++k2 8085 "ἥι"++k2 8086 "ἦι"++k2 8087 "ἧι"++k2 8088 "ἠι"++k2 8089 "ἡι"++k2 8090 "ἢι"++k2 8091 "ἣι"++k2 8092 "ἤι"++k2 8093 "ἥι"++k2 8094 "ἦι"++k2 8095 "ἧι"++k2 8096 "ὠι"++k2 8097 "ὡι"++k2 8098 "ὢι",k2 8099 "ὣι"++k2 8100 "ὤι"++k2 8101 "ὥι"++k2 8102 "ὦι"++k2 8103 "ὧι"++k2 8104 "ὠι"++k2 8105 "ὡι"++k2 8106 "ὢι"++k2 8107 "ὣι"++k2 8108 "ὤι"++k2 8109 "ὥι"++k2 8110 "ὦι"++k2 8111 "ὧι"++k2 8114 "ὰι"++k2 8115 "αι"++k2 8116 "άι"++k2 8118 "ᾶ",k2 8119 "ᾶι"++k2 8124 "αι"++k1 8126 "ι"++k2 8130 "ὴι"++k2 8131 "ηι"++k2 8132 "ήι"++k2 8134 "ῆ"++k2 8135 "ῆι"++k2 8140 "ηι"++k2 8146 "ῒ"++k2 8147 "ΐ"++k2 8150 "ῖ"++k2 8151 "ῗ"++k2 8162 "ῢ"++k2 8163 "ΰ"++k2 8164 "ῤ"++k2 8166 "ῦ",k2 8167 "ῧ"++k2 8178 "ὼι"++k2 8179 "ωι"++k2 8180 "ώι"++k2 8182 "ῶ"++k2 8183 "ῶι"++k2 8188 "ωι"++k2 8360 "rs"++k1 8450 "c"++k2 8451 "°c"++k1 8455 "ɛ"++k2 8457 "°f"++k1 8459 "hhh"++k1 8464 "ii",k1 8466 "l"++k1 8469 "n"++k2 8470 "no"++k1 8473 "pqrrr"++k2 8480 "sm"++k2 8481 "tel"++k2 8482 "tm"++k1 8484 "z"++k1 8488 "z"++k1 8492 "bc"++k1 8496 "ef",k1 8499 "m"++k1 8510 "γπ"++k1 8517 "d"++k2 13169 "hpa"++k2 13171 "au"++k2 13173 "ov"++k2 13184 "pa"++k2 13185 "na"++k2 13186 "μa"++k2 13187 "ma"++k2 13188 "ka"++k2 13189 "kb"++k2 13190 "mb"++k2 13191 "gb"++k2 13194 "pf"++k2 13195 "nf",k2 13196 "μf"++k2 13200 "hz"++k2 13201 "khz"++k2 13202 "mhz"++k2 13203 "ghz"++k2 13204 "thz"++k2 13225 "pa"++k2 13226 "kpa"++k2 13227 "mpa"++k2 13228 "gpa"++k2 13236 "pv"++k2 13237 "nv"++k2 13238 "μv"++k2 13239 "mv"++k2 13240 "kv"++k2 13241 "mv"++k2 13242 "pw",k2 13243 "nw"++k2 13244 "μw"++k2 13245 "mw"++k2 13246 "kw"++k2 13247 "mw"++k2 13248 "kω"++k2 13249 "mω"++k2 13251 "bq"++k2 13254 "c∕kg"++k2 13255 "co."++k2 13256 "db"++k2 13257 "gy"++k2 13259 "hp"++k2 13261 "kk"++k2 13262 "km"++k2 13271 "ph"++k2 13273 "ppm",k2 13274 "pr"++k2 13276 "sv"++k2 13277 "wb"++k2 64256 "ff"++k2 64257 "fi"++k2 64258 "fl"++k2 64259 "ffi"++k2 64260 "ffl"++k2 64261 "st"++k2 64262 "st"++k2 64275 "մն"++k2 64276 "մե"++k2 64277 "մի"++k2 64278 "վն"++k2 64279 "մխ"++k1 119808 "ab",k1 119810 "cdefghijklmnopqrs",k1 119827 "tuvwxyz"++k1 119860 "abcdefghij",k1 119870 "klmnopqrstuvwxyz"++k1 119912 "a",k1 119913 "bcdefghijklmnopqr",k1 119930 "stuvwxyz"++k1 119964 "a"++k1 119966 "cd"++k1 119970 "g"++k1 119973 "jk"++k1 119977 "nop",k1 119980 "q"++k1 119982 "stuvwxyz"++k1 120016 "abcdefgh",k1 120024 "ijklmnopqrstuvwxy",k1 120041 "z"++k1 120068 "ab"++k1 120071 "defg"++k1 120077 "jklmnopq"++k1 120086 "st",k1 120088 "uvwxy"++k1 120120 "ab"++k1 120123 "defg"++k1 120128 "ijklm"++k1 120134 "o",k1 120138 "stuvwxy"++k1 120172 "abcdefghij",k1 120182 "klmnopqrstuvwxyz"++k1 120224 "a",k1 120225 "bcdefghijklmnopqr",k1 120242 "stuvwxyz"++k1 120276 "abcdefghi",k1 120285 "jklmnopqrstuvwxyz",k1 120328 "abcdefghijklmnopq",k1 120345 "rstuvwxyz"++k1 120380 "abcdefgh",k1 120388 "ijklmnopqrstuvwxy",k1 120405 "z"++k1 120432 "abcdefghijklmnop",k1 120448 "qrstuvwxyz"++k1 120488 "αβγδεζη",k1 120495 "θικλμνξοπρθστυφχψ",k1 120512 "ω"++k1 120531 "σ"++k1 120546 "αβγδεζηθικλμνξο",k1 120561 "πρθστυφχψω"++k1 120589 "σ"++k1 120604 "αβγδεζ",k1 120610 "ηθικλμνξοπρθστυφχ",k1 120627 "ψω"++k1 120647 "σ"++k1 120662 "αβγδεζηθικλμνξ",k1 120676 "οπρθστυφχψω"++k1 120705 "σ"++k1 120720 "αβγδε",k1 120725 "ζηθικλμνξοπρθστυφ"]
def lC:List KV:=k1 120742 "χψω"++k1 120763 "σ"
def zN:List KV:=mh++(lB.flatten++lC)
def VW:List fN:=bC 611 mh++w4 662 lB lC
def Ku(P:cc):Obj:=n3 P
def Kv(P:cc):Obj:=qh P "b1_set" 603 (.ref 147) (Ku P)
def DG(P:cc):Obj:=qh P "in_table_b1" 610 (.ref 157) (Kv P)
def Kw(P:cc):Obj:=qh P "b3_exceptions" 2561 (.ref 158) (DG P)
def VY(P:cc):Obj:=qh P "map_table_b3" 2569 (.ref 203) (Kw P)
def VZ(P:cc):Obj:=Obj.mapDict (·.modify 0 λe=>{e with val:=.str "law_wb0098_01" 2570}) (VY P)
def Wa(P:cc):Obj:=qh P "_law_typed" 2577 (.ref 208) (VZ P)
def Wb(P:cc):Obj:=qh P "_law_prepared" 2583 (.ref 213) (Wa P)
def Wc(P:cc):Obj:=qh P "_law_seen" 2589 (.ref 218) (Wb P)
def Wd(P:cc):Obj:=qh P "law" 2595 (.ref 223) (Wc P)
def zO(P:cc):Obj:=uD 192 156 (DF P)
def We(P:cc):Obj:=uD 237 222 (uD 218 217 (uD 213 212 (uD 201 207 (uD 195 202 (zO P)))))
def Kx(l:List Obj):List Obj×List Obj:=l.rec ([],[]) λx _ r=>(x::r.2,r.1)
def rR(n:Nat):List Obj->BT:=n.rec (λ_=>.nil) λ_ f l=>l.casesOn .nil λx r=>.node x (f (Kx r).1) (f (Kx r).2)
def oO(P:cc)(m t:Obj):List Obj:=[PySem.W.boot_o_0 P,oD [kv P "builtins" 162 (.ref 4),kv P "__main__" 163 (.ref 5),kv P "_sre" 244 (.ref 12)] 3,⟨.none,none,.dict #[kv P "\x69mport.loaded._sre" 183 (.bool true),kv P "class._frozen_importlib.BuiltinImporter" 185 (.ref 14),kv P "watched.\x69mport" 206 (.ref 18),kv P "class._frozen_importlib.ModuleSpec" 216 (.ref 22),kv P "sys.modules.booked-epoch" 245 (.int 3 0),kv P "\x69mport.later-laid._sre" 270 (.bool true),kv P "watched.library" 272 (.ref 27),kv P "watched.library-objects" 0 (.str "\x0c" 0),kv P "watched.library-deep._sre" 273 (.str "\x04\x00\x00\x0b\x04\x00\x00\x0b\x04\x00\x00\x03\x04\x00\x00\x0b\x08\x04dict\x02" 0)] 9,#[]⟩,m,⟨.type "module",(some 0),.plain,#[]⟩,⟨.type "module",(some 3),.plain,#[]⟩,n6 P,n7 P,n8 P,⟨.type "code",none,.fields #[.str "<module>" 176,.str "<module>" 177,.str "/claim/cut.py" 178,.int 1 0,.int 0 0,.int 0 0,.int 0 0,.int 0 0,.ref 7,.bool false,.int 175 0,.ref 8,.none,.none,.none,.none,.int 179 0,.int 1 0,.str "/claim/cut.py" 180],#[]⟩,⟨.type "frame",none,.plain,#[(some (.ref 9)),(some (.ref 3)),(some (.ref 3)),none,(some (.str "__main__" 164)),none,(some (.ref 0))]⟩,oD [kv P "__name__" 247 (.str "_sre" 246),kv P "__doc__" 248 .none,kv P "__package__" 250 (.str "" 249),kv P "__loader__" 251 (.builtin "off-the-table:_sre.__loader__:shared#opaque"),kv P "__spec__" 252 (.builtin "off-the-table:_sre.__spec__:shared#opaque"),kv P "compile" 253 (.builtin "_sre.compile"),kv P "template" 254 (.builtin "off-the-table:_sre.template:shared#opaque"),kv P "getcodesize" 255 (.builtin "off-the-table:_sre.getcodesize:shared#opaque"),kv P "ascii_iscased" 256 (.builtin "off-the-table:_sre.ascii_iscased:shared#opaque"),kv P "unicode_iscased" 257 (.builtin "off-the-table:_sre.unicode_iscased:shared#opaque"),kv P "ascii_tolower" 258 (.builtin "off-the-table:_sre.ascii_tolower:shared#opaque"),kv P "unicode_tolower" 259 (.builtin "off-the-table:_sre.unicode_tolower:shared#opaque"),kv P "MAGIC" 261 (.int 20230612 260),kv P "CODESIZE" 263 (.int 4 262),kv P "MAXREPEAT" 265 (.int 4294967295 264),kv P "MAXGROUPS" 267 (.int 1073741823 266),kv P "copyright" 269 (.str " SRE 2.2.2 Copyright (c) 1997-2002 by Secret Labs AB " 268)] 17,⟨.type "module",(some 11),.plain,#[]⟩,oD [kv P "__module__" 189 (.str "_frozen_importlib" 186),kv P "__firstlineno__" 190 (.int 971 187),kv P "__doc__" 191 (.builtin "_frozen_importlib.BuiltinImporter.__doc__:str#opaque"),kv P "_ORIGIN" 192 (.str "built-in" 188),kv P "find_spec" 193 (.builtin "_frozen_importlib.BuiltinImporter.find_spec#opaque"),kv P "create_module" 194 (.builtin "_frozen_importlib.BuiltinImporter.create_module#opaque"),kv P "exec_module" 195 (.builtin "_frozen_importlib.BuiltinImporter.exec_module#opaque"),kv P "get_code" 196 (.builtin "_frozen_importlib.BuiltinImporter.get_code#opaque"),kv P "get_source" 197 (.builtin "_frozen_importlib.BuiltinImporter.get_source#opaque"),kv P "is_package" 198 (.builtin "_frozen_importlib.BuiltinImporter.is_package#opaque"),kv P "load_module" 199 (.builtin "_frozen_importlib.BuiltinImporter.load_module#opaque"),kv P "__static_attributes__" 200 (.ref 15),kv P "__dict__" 202 (.ref 16),kv P "__weakref__" 204 (.ref 17)] 14,⟨.type "type",none,.cls ⟨"BuiltinImporter",[.type "object"],[.ref 14,.type "object"],13,"BuiltinImporter",true,[],[],false,none,false⟩,#[]⟩,n7 P,⟨.type "getset_descriptor",none,.fields #[.str "__dict__" 201,.ref 14,.builtin "function.__dict__",.builtin "function.__dict__#set"],#[]⟩,⟨.type "getset_descriptor",none,.fields #[.str "__weakref__" 203,.ref 14,.builtin "ExceptionGroup.__weakref__",.none],#[]⟩,⟨.none,none,.seq #[.int 13 0,.str "\x06½\n__module__\x06º\x11_frozen_importlib\x06¾\x0f__firstlineno__\x04»\x00ϋ\x06¿\x07__doc__\t4_frozen_importlib.BuiltinImporter.__doc__:str#opaque\x06À\x07_ORIGIN\x06¼\x08built-in\x06Á\tfind_spec\t2_frozen_importlib.BuiltinImporter.find_spec#opaque\x06Â\x0dcreate_module\t6_frozen_importlib.BuiltinImporter.create_module#opaque\x06Ã\x0bexec_module\t4_frozen_importlib.BuiltinImporter.exec_module#opaque\x06Ä\x08get_code\t1_frozen_importlib.BuiltinImporter.get_code#opaque\x06Å\nget_source\t3_frozen_importlib.BuiltinImporter.get_source#opaque\x06Æ\nis_package\t3_frozen_importlib.BuiltinImporter.is_package#opaque\x06Ç\x0bload_module\t4_frozen_importlib.BuiltinImporter.load_module#opaque\x06È\x15__static_attributes__\x04\x00\x00\x0f\x06Ê\x08__dict__\x04\x00\x00\x10\x06Ì\x0b__weakref__\x04\x00\x00\x11" 0,.bool true,.bool true,.str "" 205,.int 21 0,.str "\x06ã\n__module__\x06Ù\x11_frozen_importlib\x06ä\x0f__firstlineno__\x04Ú\x00Ȳ\x06å\x07__doc__\t/_frozen_importlib.ModuleSpec.__doc__:str#opaque\x06æ\x08__init__\t,_frozen_importlib.ModuleSpec.__init__#opaque\x06ç\x08__repr__\t,_frozen_importlib.ModuleSpec.__repr__#opaque\x06è\x06__eq__\t*_frozen_importlib.ModuleSpec.__eq__#opaque\x06é\x06cached\t*_frozen_importlib.ModuleSpec.cached#opaque\x06ê\x06parent\t*_frozen_importlib.ModuleSpec.parent#opaque\x06ë\x0chas_location\t0_frozen_importlib.ModuleSpec.has_location#opaque\x06ì\x15__static_attributes__\x04\x00\x00\x17\x06î\x08__dict__\x04\x00\x00\x18\x06ð\x0b__weakref__\x04\x00\x00\x19\x06ñ\x08__hash__\x00" 0,.bool true,.bool true,.str "" 242] 1,#[]⟩,oL [],oD [kv P "name" 208 (.str "_sre" 207),kv P "loader" 209 (.ref 14),kv P "origin" 210 (.str "built-in" 184),kv P "loader_state" 211 .none,kv P "submodule_search_locations" 212 .none,kv P "_uninitialized_submodules" 213 (.ref 19),kv P "_set_fileattr" 214 (.bool false),kv P "_cached" 215 .none,kv P "_initializing" 243 (.bool false)] 9,oD [kv P "__module__" 227 (.str "_frozen_importlib" 217),kv P "__firstlineno__" 228 (.int 562 218),kv P "__doc__" 229 (.builtin "_frozen_importlib.ModuleSpec.__doc__:str#opaque"),kv P "__init__" 230 (.builtin "_frozen_importlib.ModuleSpec.__init__#opaque"),kv P "__repr__" 231 (.builtin "_frozen_importlib.ModuleSpec.__repr__#opaque"),kv P "__eq__" 232 (.builtin "_frozen_importlib.ModuleSpec.__eq__#opaque"),kv P "cached" 233 (.builtin "_frozen_importlib.ModuleSpec.cached#opaque"),kv P "parent" 234 (.builtin "_frozen_importlib.ModuleSpec.parent#opaque"),kv P "has_location" 235 (.builtin "_frozen_importlib.ModuleSpec.has_location#opaque"),kv P "__static_attributes__" 236 (.ref 23),kv P "__dict__" 238 (.ref 24),kv P "__weakref__" 240 (.ref 25),kv P "__hash__" 241 .none] 13,⟨.type "type",none,.cls ⟨"ModuleSpec",[.type "object"],[.ref 22,.type "object"],21,"ModuleSpec",true,[],[],false,none,false⟩,#[]⟩,oT [.str "_cached" 219,.str "_set_fileattr" 220,.str "_uninitialized_submodules" 221,.str "loader" 222,.str "loader_state" 223,.str "name" 224,.str "origin" 225,.str "submodule_search_locations" 226],⟨.type "getset_descriptor",none,.fields #[.str "__dict__" 237,.ref 22,.builtin "function.__dict__",.builtin "function.__dict__#set"],#[]⟩,⟨.type "getset_descriptor",none,.fields #[.str "__weakref__" 239,.ref 22,.builtin "ExceptionGroup.__weakref__",.none],#[]⟩,⟨.ref 22,(some 20),.plain,#[]⟩,⟨.none,none,.seq #[.int 11 0,.str ⟨#[6,247,8,95,95,110,97,109,101,95,95,6,246,4,95,115,114,101,6,248,7,95,95,100,111,99,95,95,0,6,250,11,95,95,112,97,99,107,97,103,101,95,95,6,249,0,6,251,10,95,95,108,111,97,100,101,114,95,95,4,0,0,14,6,252,8,95,95,115,112,101,99,95,95,4,0,0,26,6,253,7,99,111,109,112,105,108,101,9,12,95,115,114,101,46,99,111,109,112,105,108,101,6,254,8,116,101,109,112,108,97,116,101,9,13,95,115,114,101,46,116,101,109,112,108,97,116,101,6,255,11,103,101,116,99,111,100,101,115,105,122,101,9,16,95,115,114,101,46,103,101,116,99,111,100,101,115,105,122,101,6,256,13,97,115,99,105,105,95,105,115,99,97,115,101,100,9,18,95,115,114,101,46,97,115,99,105,105,95,105,115,99,97,115,101,100,6,257,15,117,110,105,99,111,100,101,95,105,115,99,97,115,101,100,9,20,95,115,114,101,46,117,110,105,99,111,100,101,95,105,115,99,97,115,101,100,6,258,13,97,115,99,105,105,95,116,111,108,111,119,101,114,9,18,95,115,114,101,46,97,115,99,105,105,95,116,111,108,111,119,101,114,6,259,15,117,110,105,99,111,100,101,95,116,111,108,111,119,101,114,9,20,95,115,114,101,46,117,110,105,99,111,100,101,95,116,111,108,111,119,101,114,6,261,5,77,65,71,73,67,4,260,0,20230612,6,263,8,67,79,68,69,83,73,90,69,4,262,0,4,6,265,9,77,65,88,82,69,80,69,65,84,4,264,0,4294967295,6,267,9,77,65,88,71,82,79,85,80,83,4,266,0,1073741823,6,269,9,99,111,112,121,114,105,103,104,116,6,268,53,32,83,82,69,32,50,46,50,46,50,32,67,111,112,121,114,105,103,104,116,32,40,99,41,32,49,57,57,55,45,50,48,48,50,32,98,121,32,83,101,99,114,101,116,32,76,97,98,115,32,65,66,32]⟩ 0,.bool true,.bool false,.str "_sre" 271] 0,#[]⟩,n7 P,t,⟨.type "code",none,.fields #[.str "<module>" 277,.str "<module>" 278,.str "/claim/cut.py" 279,.int 1 0,.int 0 0,.int 0 0,.int 0 0,.int 0 0,.ref 28,.bool false,.int 276 0,.ref 29,.none,.none,.none,.none,.int 280 0,.int 1 0,.str "/claim/cut.py" 281],#[]⟩,⟨.type "frame",none,.plain,#[(some (.ref 30)),(some (.ref 3)),(some (.ref 3)),none,(some (.str "__main__" 164)),none,(some (.ref 0))]⟩,n7 P,n8 P,oT [.str "a" 289,.str "b" 290,.str "n" 291,.str "pad" 292,.str "half_n" 293,.str "mask" 294,.str "b1" 295,.str "b2" 296,.str "q1" 297,.str "r" 298,.str "q2" 299],n7 P,rawFn q3,oC "_div2n1n" 286 4 3 3 32 (.ref 34) (.ref 35) (.ref 36) 300,gK q3 (.str "cpy313._pylong" 282) (.ref 37),n7 P,n8 P,oT [.str "a12" 306,.str "a3" 307,.str "b" 308,.str "b1" 309,.str "b2" 310,.str "n" 311,.str "q" 312,.str "r" 313],n7 P,rawFn q4,oC "_div3n2n" 303 20 6 3 39 (.ref 41) (.ref 42) (.ref 43) 314,gK q4 (.str "cpy313._pylong" 282) (.ref 44),n7 P,n8 P,oT [.str "a" 320,.str "n" 321],oT [.str "n" 322,.str "a_digits" 323,.str "inner" 324],rawFn q5,oC "_int2digits" 317 30 2 3 46 (.ref 48) (.ref 49) (.ref 50) 325,gK q5 (.str "cpy313._pylong" 282) (.ref 51),n7 P,n8 P,oT [.str "digits" 331,.str "n" 332],oT [.str "digits" 333,.str "n" 334,.str "inner" 335],rawFn q6,oC "_digits2int" 328 46 2 3 53 (.ref 55) (.ref 56) (.ref 57) 336,gK q6 (.str "cpy313._pylong" 282) (.ref 58),n7 P,n8 P,oT [.str "a" 342,.str "b" 343,.str "n" 344,.str "a_digits" 345,.str "r" 346,.str "q_digits" 347,.str "a_digit" 348,.str "q_digit" 349,.str "q" 350],n7 P,rawFn q7,oC "_divmod_pos" 339 55 2 3 60 (.ref 62) (.ref 63) (.ref 64) 351,gK q7 (.str "cpy313._pylong" 282) (.ref 65),n7 P,n8 P,oT [.str "a" 357,.str "b" 358,.str "q" 359,.str "r" 360],n7 P,rawFn q8,oC "int_divmod" 354 66 2 3 67 (.ref 69) (.ref 70) (.ref 71) 361,gK q8 (.str "cpy313._pylong" 282) (.ref 72),n7 P,n8 P,oT [.str "r" 381,.str "g" 382,.str "b" 383,.str "y" 384,.str "i" 385,.str "q" 386],n7 P,rawFn pU,oC "rgb_to_yiq" 378 81 3 3 74 (.ref 76) (.ref 77) (.ref 78) 387,gK pU (.str "cpy313.colorsys" 364) (.ref 79),n7 P,n8 P,oT [.str "y" 393,.str "i" 394,.str "q" 395,.str "r" 396,.str "g" 397,.str "b" 398],n7 P,rawFn pV,oC "yiq_to_rgb" 390 86 3 3 81 (.ref 83) (.ref 84) (.ref 85) 399,gK pV (.str "cpy313.colorsys" 364) (.ref 86),n7 P,n8 P,oT [.str "r" 405,.str "g" 406,.str "b" 407,.str "maxc" 408,.str "minc" 409,.str "sumc" 410,.str "rangec" 411,.str "l" 412,.str "s" 413,.str "rc" 414,.str "gc" 415,.str "bc" 416,.str "h" 417],n7 P,rawFn pW,oC "rgb_to_hls" 402 103 3 3 88 (.ref 90) (.ref 91) (.ref 92) 418,gK pW (.str "cpy313.colorsys" 364) (.ref 93),n7 P,n8 P,oT [.str "h" 424,.str "l" 425,.str "s" 426,.str "m2" 427,.str "m1" 428],n7 P,rawFn pX,oC "hls_to_rgb" 421 126 3 3 95 (.ref 97) (.ref 98) (.ref 99) 429,gK pX (.str "cpy313.colorsys" 364) (.ref 100),n7 P,n8 P,oT [.str "m1" 435,.str "m2" 436,.str "hue" 437],n7 P,rawFn pY,oC "_v" 432 135 3 3 102 (.ref 104) (.ref 105) (.ref 106) 438,gK pY (.str "cpy313.colorsys" 364) (.ref 107),n7 P,n8 P,oT [.str "r" 444,.str "g" 445,.str "b" 446,.str "maxc" 447,.str "minc" 448,.str "rangec" 449,.str "v" 450,.str "s" 451,.str "rc" 452,.str "gc" 453,.str "bc" 454,.str "h" 455],n7 P,rawFn pZ,oC "rgb_to_hsv" 441 144 3 3 109 (.ref 111) (.ref 112) (.ref 113) 456,gK pZ (.str "cpy313.colorsys" 364) (.ref 114),n7 P,n8 P,oT [.str "h" 462,.str "s" 463,.str "v" 464,.str "i" 465,.str "f" 466,.str "p" 467,.str "q" 468,.str "t" 469],n7 P,rawFn p9,oC "hsv_to_rgb" 459 163 3 3 116 (.ref 118) (.ref 119) (.ref 120) 470,gK p9 (.str "cpy313.colorsys" 364) (.ref 121),oL [.int 14 478,.int 4 479,.int 0 480,.int 1 481,.int 1 482,.int 6 483,.int 1 484,.int 16 485,.int 46 486,.int 1 487],n6 P,JW P,oT [.int 14 0,.int 4 0,.int 0 0,.int 1 0,.int 1 0,.int 6 0,.int 1 0,.int 16 0,.int 46 0,.int 1 0],⟨.type "re.Pattern",none,.fields #[.str "(?m)^\\." 476,.int 40 489,.int 0 0,.none,.none,.ref 126,.int 0 0],#[]⟩,oL [.int 14 494,.int 9 495,.int 4 496,.int 1 497,.int 2 498,.int 16 499,.int 10 500,.int 16 501,.int 13 502,.int 0 503,.int 7 504,.int 7 505,.int 16 506,.int 13 507,.int 16 508,.int 10 509,.int 15 510,.int 18 511,.int 5 512,.int 16 513,.int 10 514,.int 15 515,.int 13 516,.int 11 517,.int 16 518,.int 13 519,.int 5 520,.int 5 521,.int 0 522,.int 16 523,.int 10 524,.int 1 525,.int 15 526,.int 2 527,.int 0 528,.int 1 529],n6 P,JW P,oT [.int 14 0,.int 9 0,.int 4 0,.int 1 0,.int 2 0,.int 16 0,.int 10 0,.int 16 0,.int 13 0,.int 0 0,.int 7 0,.int 7 0,.int 16 0,.int 13 0,.int 16 0,.int 10 0,.int 15 0,.int 18 0,.int 5 0,.int 16 0,.int 10 0,.int 15 0,.int 13 0,.int 11 0,.int 16 0,.int 13 0,.int 5 0,.int 5 0,.int 0 0,.int 16 0,.int 10 0,.int 1 0,.int 15 0,.int 2 0,.int 0 0,.int 1 0],⟨.type "re.Pattern",none,.fields #[.str "(?:\\r\\n|\\n|\\r(?!\\n))" 492,.int 32 531,.int 0 0,.none,.none,.ref 131,.int 0 0],#[]⟩,n7 P,n8 P,oT [.str "data" 538],n7 P,rawFn ot,oC "quotedata" 535 188 1 3 133 (.ref 135) (.ref 136) (.ref 137) 539,gK ot (.str "cpy313.smtplib" 473) (.ref 138),oL [.int 173 544,.int 847 545,.int 6150 546,.int 6155 547,.int 6156 548,.int 6157 549,.int 8203 550,.int 8204 551,.int 8205 552,.int 8288 553,.int 65279 554],{cls:=.type "range",data:=.fields [.int 65024 555,.int 65040 556,.int 1 557].toArray},{cls:=.type "list",data:=.seq [.int 65024 560,.int 65025 561,.int 65026 562,.int 65027 563,.int 65028 564,.int 65029 565,.int 65030 566,.int 65031 567,.int 65032 568,.int 65033 569,.int 65034 570,.int 65035 571,.int 65036 572,.int 65037 573,.int 65038 574,.int 65039 575].toArray 18},{cls:=.type "range_iterator",data:=.fields [.int 65040 0,.int 0 0,.int 1 0].toArray},n7 P,{cls:=.type "StopIteration",data:=.fields [.ref 144,.none,.none,.none,.bool false,.none].toArray},oL [.int 173 544,.int 847 545,.int 6150 546,.int 6155 547,.int 6156 548,.int 6157 549,.int 8203 550,.int 8204 551,.int 8205 552,.int 8288 553,.int 65279 554,.int 65024 560,.int 65025 561,.int 65026 562,.int 65027 563,.int 65028 564,.int 65029 565,.int 65030 566,.int 65031 567,.int 65032 568,.int 65033 569,.int 65034 570,.int 65035 571,.int 65036 572,.int 65037 573,.int 65038 574,.int 65039 575],{cls:=.type "set",data:=.set [(65024,.int 65024 560),(65025,.int 65025 561),(65026,.int 65026 562),(65027,.int 65027 563),(65028,.int 65028 564),(65029,.int 65029 565),(6150,.int 6150 546),(65030,.int 65030 566),(65031,.int 65031 567),(65032,.int 65032 568),(65033,.int 65033 569),(6155,.int 6155 547),(6156,.int 6156 548),(6157,.int 6157 549),(8203,.int 8203 550),(8204,.int 8204 551),(8205,.int 8205 552),(65034,.int 65034 570),(65035,.int 65035 571),(65036,.int 65036 572),(65037,.int 65037 573),(65038,.int 65038 574),(65039,.int 65039 575),(173,.int 173 544),(847,.int 847 545),(8288,.int 8288 553),(65279,.int 65279 554)].toArray 29 ⟨127,[0,1,2,3,4,5,6,7,8,9,10,11,12,13,14,15,16,17,18,19,20,21,22,45,79,96,127].toArray,[].toArray,0,!(P.followText "set-order"),2,true⟩},{cls:=.type "list_iterator",data:=.fields [.none,.int 27 0].toArray},n7 P,{cls:=.type "StopIteration",data:=.fields [.ref 149,.none,.none,.none,.bool false,.none].toArray},n7 P,n8 P,oT [.str "code" 607],n7 P,rawFn uw,oC "in_table_b1" 604 192 1 3 151 (.ref 153) (.ref 154) (.ref 155) 608,gK uw (.str "cpy313.stringprep" 542) (.ref 156),aB VW]++(GF 662 lB lC++[n7 P,n8 P,oT [.str "code" 2565,.str "r" 2566],n7 P,rawFn qc,oC "map_table_b3" 2562 195 1 3 197 (.ref 199) (.ref 200) (.ref 201) 2567,gK qc (.str "cpy313.stringprep" 542) (.ref 202),n7 P,n8 P,rawFn ux,oC "_law_typed" 2572 201 2 3 204 .none .none (.ref 206) 2575,gK ux (.str "law_wb0098_01" 2570) (.ref 207),n7 P,n8 P,rawFn uy,oC "_law_prepared" 2578 213 1 3 209 .none .none (.ref 211) 2581,gK uy (.str "law_wb0098_01" 2570) (.ref 212),n7 P,n8 P,rawFn uz,oC "_law_seen" 2584 218 2 3 214 .none .none (.ref 216) 2587,gK uz (.str "law_wb0098_01" 2570) (.ref 217),n7 P,n8 P,rawFn rN,oC "law" 2590 237 1 3 219 .none .none (.ref 221) 2593,gK rN (.str "law_wb0098_01" 2570) (.ref 222)])
def Wf(P:cc):BT:=rR 8 ((oO P (m0 P) (t0 P)).take 32)
abbrev S0(w:bj)(os:cI):pI:=⟨Wf w.params,32,{},⟨[]⟩,{},282,os⟩
def Wg(P:cc):BT:=rR 8 ((oO P (Ku P) (DF P)).take 140)
abbrev uF(w:bj)(os:cI):pI:=⟨Wg w.params,140,{},⟨[]⟩,{},544,os⟩
def Wi(P:cc):BT:=rR 8 ((oO P (Kv P) (DF P)).take 151)
abbrev rS(w:bj)(os:cI):pI:=⟨Wi w.params,151,{},⟨[]⟩,{},604,os⟩
def zP(P:cc):BT:=rR 8 ((oO P (DG P) (zO P)).take 158)
abbrev w6(w:bj)(os:cI):pI:=⟨zP w.params,158,{},⟨[]⟩,{},611,os⟩
def Ky(P:cc):BT:=rR 8 ((oO P (DG P) (zO P)).take 197)
abbrev DH(w:bj)(os:cI):pI:=⟨Ky w.params,197,{},⟨[]⟩,{},2561,os⟩
def Wj(P:cc):BT:=rR 8 ((oO P (Kw P) (zO P)).take 197)
abbrev uG(w:bj)(os:cI):pI:=⟨Wj w.params,197,{},⟨[]⟩,{},2562,os⟩
def zQ(P:cc):BT:=rR 8 ((oO P (Wd P) (We P)).take 224)
abbrev w7(w:bj)(os:cI):pI:=⟨zQ w.params,224,{},⟨[]⟩,{},2596,os⟩
abbrev dI:Env:={scope:=sM,locals:=mainNs,globals:=mainNs,cells:=[],code:=.ref 30,frame:=some 31}
abbrev iO(b:List Stmt):Code:=.body b dI
noncomputable abbrev gx:List Frame:=[topFrame ⟨0,0,0,0⟩]
noncomputable abbrev eF:Option aa:=some (.ref 6)
noncomputable def qi(w:bj)(ann:Option aa)(k m:Nat)(S:bj->cI->pI)(qs:List Stmt)(env:Env)(pos:Pos)(fr:List Frame)(p:bF)(b:List Stmt)(os:cI):=segRunT treeTable p w 28 ann k m (S w os) (piecesOf qs env (.body b env) pos fr)
theorem Wl:Hd.qi=Hd.qi:=rfl
name_quick runGQ for Hd.qi by Hd.Wl
theorem Wm(w:bj)(p:bF)(b:List Stmt)(os:cI):PySem.W.Fast.runGQ w eF 1 999 S0 [q1,q2,q3,q4,q5,q6,q7,q8,q9,zB,zC,zD,pU,pV,pW,pX,pY,pZ,p9,qa,ur,zE,uu,ot,uv] dI ⟨0,0,0,0⟩ gx p b os=some (.next,uF w os,.body b dI,⟨190,0,190,8⟩):=⋯
theorem Wo(w:bj)(p:bF)(b:List Stmt)(os:cI):PySem.W.Fast.runGQ (w.withFollow "special-get-raises" true) eF 1 999 uF [lz] dI ⟨190,0,190,8⟩ gx p b os=some (.next,rS (w.withFollow "special-get-raises" true) os,.body b dI,⟨191,0,191,6⟩):=⋯
theorem Wp(w:bj)(p:bF)(b:List Stmt)(os:cI):PySem.W.Fast.runGQ (w.withFollow "special-get-raises" false) eF 1 999 uF [lz] dI ⟨190,0,190,8⟩ gx p b os=some (.next,rS (w.withFollow "special-get-raises" false) os,.body b dI,⟨191,0,191,6⟩):=⋯
theorem Wq(w:bj)(p:bF)(b:List Stmt)(os:cI):PySem.W.Fast.runGQ w eF 1 30 rS [uw] dI ⟨191,0,191,6⟩ gx p b os=some (.next,w6 w os,.body b dI,⟨192,0,193,30⟩):=⋯
theorem Ws(w:bj)(p:bF)(b:List Stmt)(os:cI):PySem.W.Fast.runGQ w eF 1 144 uG [qc,zF,ux,uy,uz,rN] dI ⟨194,0,194,13⟩ gx p b os=some (.next,w7 w os,.body b dI,⟨237,0,307,152⟩):=⋯
def DJ:List ab:=match uA with|.Assign ts _ _=>ts|_=>[]
noncomputable def Kz:Pos:=⟨194,0,194,8704⟩
noncomputable def oy:Pos:=⟨194,16,194,8704⟩
noncomputable def KA(ts:List ab)(env:Env)(v:aa):Sem Flow:=assignStores env v none ((assignEach ts env).map (·.2))
abbrev Wt(v:aa):Sem Flow:=KA DJ dI v
def zR(w:bj)(ann:Option aa)(k m:Nat)(S:bj->cI->pI)(ts:List ab)(env:Env)(v:aa)(pos:Pos)(fr:List Frame)(p:bF)(b:List Stmt)(os:cI):=segRunT treeTable p w 28 ann k m (S w os) ⟨(KA ts env v).wrap doneF deadEnd id id,.body b env,pos,fr⟩
theorem Wu:Hd.zR=Hd.zR:=rfl
name_quick runSQ for Hd.zR by Hd.Wu
theorem Wv(w:bj)(p:bF)(b:List Stmt)(os:cI):PySem.W.Fast.runSQ w eF 1 10 DH DJ dI (.ref 158) oy gx p b os=some (.next,uG w os,.body b dI,⟨194,0,194,13⟩):=⋯
def Ww(P:cc):List Obj:=(oO P (m0 P) (t0 P)).take 28
def H0(P:cc):Heap:=⟨⟨Ww P⟩,{}⟩
noncomputable def uI(pr:bF)(w:bj):=(fencedOpening treeTable pr w 20000).map (λs=>(s.heap,s.gens,s.drawn,s.toks))
theorem Wx:Hd.uI=Hd.uI:=rfl
name_quick run0Q for Hd.uI by Hd.Wx
theorem Wy(w:bj):PySem.W.Fast.run0Q fV w=some (H0 w.params,⟨[]⟩,{},276):=⋯
noncomputable def zS(pr:bF)(H:Heap)(ann:Option aa)(w:bj)(os:cI):=topGo treeTable pr w 28 ann 12 ⟨H,⟨[]⟩,{},276,os⟩ (topStub pr)
theorem Wz:Hd.zS=Hd.zS:=rfl
name_quick runPreQ for Hd.zS by Hd.Wz
noncomputable def zU(S:pI)(c:Code)(fr:List Frame):Option (aF×Thread):=some (S.abs,⟨denote treeTable c,c,⟨0,0,0,0⟩,fr⟩)
theorem WA:Hd.zU=Hd.zU:=rfl
name_quick resPreQ for Hd.zU by Hd.WA
theorem WB(w:bj)(os:cI):PySem.W.Fast.runPreQ fV (H0 w.params) eF w os=PySem.W.Fast.resPreQ (S0 w os) (iO cells) gx:=⋯
def H1(P:cc):Heap:=absHeap (zQ P) 224 {}
def qv:bF:=view fV [0,2,3,4,5,6,7,8,10,11,12,13,14,15,16,17,18,19,21,22,23,24,26,27,29,31,32,33,34]
noncomputable def oz:List Str:=[fU "ONE_THIRD",fU "ONE_SIXTH",fU "TWO_THIRD",fU "_twin_re_1",fU "_twin_re_2",fU "b1_set",fU "b3_exceptions"]
noncomputable def zV(s:aF):Bool:=recOk [] s
noncomputable def w8(s:aF):Heap×Nat:=(s.heap,s.toks)
def w9(w:bj):Heap×Nat:=(H1 w.params,2596)
noncomputable def sz(H:Heap):=(H.isNs mainGlobals&&(⟨[]⟩:Array wD).size==0,H.objs.size,H.nsMap mainGlobals "__annotations__")
theorem WC:Hd.sz=Hd.sz:=rfl
name_quick szQ for Hd.sz by Hd.WC
theorem WD(w:bj):PySem.W.Fast.szQ (H0 w.params)=(true,28,eF):=⋯
noncomputable def zW(pr:bF)(H H':Heap)(os:cI):Bool:=staticsOk (importedModules pr.main.body) H H'&&namesBound pr H'&&gensDone ⟨H',⟨[]⟩,{},2596,os⟩&&laidKept H H'
theorem WE:Hd.zW=Hd.zW:=rfl
name_quick lkAQ for Hd.zW by Hd.WE
theorem WF(w:bj)(os:cI):PySem.W.Fast.lkAQ fV (H0 w.params) (H1 w.params) os=true:=⋯
def zX(v pr:bF)(l:List Str)(H:Heap)(os:cI):=openSeen v l (importedModules pr.main.body) zV true ⟨H,⟨[]⟩,{},2596,os⟩
theorem WG:Hd.zX=Hd.zX:=rfl
name_quick lkBQ for Hd.zX by Hd.WG
theorem WH(w:bj)(os:cI):PySem.W.Fast.lkBQ qv fV oz (H1 w.params) os=openGood qv oz:=⋯
end Hd
namespace Hd
theorem WI:exec uA dI=(do CR Kz;CR oy;let v <-dictDisplay (zN.map (mf oy));Wt v):=⋯
theorem DK:mh++(lB.flatten++lC)=zN:=⋯
theorem WJ:mh.length=17:=⋯
theorem WK:lB.map (·.length)=cq 37 17:=⋯
theorem KB:lC.length=4:=⋯
noncomputable def rising:List KV->Bool|[]=>true|[a]=>decide (0<=a.1)&&decide (a.1<2^60)|a::b::r=>decide (0<=a.1)&&decide (a.1<2^60)&&decide (a.1<b.1)&&rising (b::r)
theorem KC:∀{l:List KV},rising l=true->g9 l
 |[],_=>⟨λJ h=>(nomatch h),List.Pairwise.nil⟩|[a],h=>by simp only[rising,nU,decide_eq_true_eq]at h;exact⟨λx hx=>by simp only[IJ]at hx;subst hx;exact h,List.pairwise_singleton ..⟩|a::b::r,h=>by
  simp only[rising,nU,decide_eq_true_eq]at h;obtain⟨⟨⟨h0,h1⟩,h2⟩,h3⟩:=h;have ih:=KC h3;refine⟨λx hx=>?_,List.pairwise_cons.mpr ⟨λx hx=>?_,ih.2⟩⟩
  ·rcases List.mem_cons.mp hx with rfl|hx
   ·exact⟨h0,h1⟩
   ·exact ih.1 x hx
  ·rcases List.mem_cons.mp hx with rfl|hx
   ·exact h2
   ·exact IK h2 ((List.pairwise_cons.mp ih.2).1 x hx)
theorem WL:rising zN=true:=⋯
theorem WM(P:cc):(zP P).list 158++aB (bC 611 mh++w4 (611+3*mh.length) lB lC)::GF (611+3*mh.length) lB lC=(Ky P).list 197:=⋯
theorem WN:TF (611+3*mh.length) lB lC=2561:=⋯
theorem DL(P:cc):((zP P).list 158).length=158:=by simp[BT.list]
def xa:Nat:=10+(NF lB lC+(13*mh.length+2)+1+1)
theorem WO:(mh++(lB.flatten++lC)).length<100000:=by rw[DK];exact of_decide_eq_true ⋯
theorem WP:∀g∈lB,g.length=17:=by intro g hg;have:g.length∈lB.map (·.length):=List.mem_map_of_mem hg;rw[WK]at this;exact SS this
theorem WQ{α:Type}(a b:Sem Unit)(c:Sem α)(f:α->Sem Flow)(K:Flow->Sem Fin)(H gd lv):(do a;b;let v <-c;f v:Sem Flow).wrap K H gd lv=(do a;b;c:Sem α).wrap (λv=>(f v).wrap K H gd lv) H gd lv:=by simp only[JE]
theorem WR(w:bj)(p:bF)(bl:List Stmt)(os:cI):segRun treeTable p w 28 eF 1 xa (w6 w os).abs (pieceOf uA dI (iO bl) ⟨192,0,193,30⟩ gx)=some (.next,(uG w os).abs,(iO bl),⟨194,0,194,13⟩):=by
 have hD:=Go.display (prog:=p) (w:=w) (n₀:=28) (ann:=eF) (b:=bl) (env:=dI) (q:=⟨0,0,0,0⟩) (p:=oy) (gens:=⟨[]⟩) (drawn:={}) (os:=os) (T:=611) (pos:=oy) (A:=(zP w.params).list 158)
  (by rw[DL];exact dS 0xeb9e2a1c2a 69904) (by rw[DL];exact dS 3969788441 69904) WJ WP (l:=lC) (by intro h;have:=congrArg List.length h;rw[KB]at this;cases this) (by rw[KB];exact dS 15464777 69904) (by rw[DK];exact KC WL) WO
 rw[DK,WM,WN,DL]at hD;have hG:Go p w 28 eF bl dI ⟨0,0,0,0⟩ (do CR Kz;CR oy;dictDisplay (zN.map (mf oy))) (w6 w os).abs ⟨192,0,193,30⟩ (.ref 158) (DH w os).abs oy (NF lB lC+(13*mh.length+2)+1+1):=
  Go.bind Go.standAt (Go.bind Go.standAt hD)
 have WS:zR w eF 1 10 DH DJ dI (.ref 158) oy gx p bl os=some (.next,uG w os,(iO bl),⟨194,0,194,13⟩):=by rw[PySem.W.Fast.runSQ_eq];exact Wv w p bl os
 have h2:=segRun_of WS;show segRun treeTable p w 28 eF 1 xa (w6 w os).abs ⟨(exec uA dI).wrap doneF deadEnd id id,(iO bl),⟨192,0,193,30⟩,gx⟩=_;rw[WI,WQ];unfold xa;rw[hG _ deadEnd id id 10];exact h2
theorem WT:cells=[q1,q2,q3,q4,q5,q6,q7,q8,q9,zB,zC,zD,pU,pV,pW,pX,pY,pZ,p9,qa,ur,zE,uu,ot,uv]++([lz]++([uw]++(uA::([qc,zF,ux,uy,uz,rN]++[])))):=rfl
theorem WU(w:bj)(p:bF)(os:cI):segRun treeTable p w 28 eF 1 1 (S0 w os).abs (blockOf cells dI (iO cells) ⟨0,0,0,0⟩ gx)=some (.next,(S0 w os).abs,iO cells,⟨0,0,0,0⟩):=⋯
theorem WV(w:bj)(p:bF)(bl:List Stmt)(os:cI):topRun treeTable p w 28 eF 2 (w7 w os).abs ⟨doneF .next,iO bl,⟨237,0,307,152⟩,gx⟩=some (w7 w os).abs:=⋯
theorem WW(w:bj)(p:bF)(bl:List Stmt)(os:cI):segRun treeTable p w 28 eF 1 999 (S0 w os).abs (piecesOf [q1,q2,q3,q4,q5,q6,q7,q8,q9,zB,zC,zD,pU,pV,pW,pX,pY,pZ,p9,qa,ur,zE,uu,ot,uv] dI (iO bl) ⟨0,0,0,0⟩ gx)=some (.next,(uF w os).abs,iO bl,⟨190,0,190,8⟩):=by refine segRun_of (?_:qi w eF 1 999 S0 _ dI ⟨0,0,0,0⟩ gx p bl os=_);rw[PySem.W.Fast.runGQ_eq];exact Wm w p bl os
theorem WX(w:bj)(p:bF)(bl:List Stmt)(os:cI):segRun treeTable p w 28 eF 1 999 (uF w os).abs (piecesOf [lz] dI (iO bl) ⟨190,0,190,8⟩ gx)=some (.next,(rS w os).abs,iO bl,⟨191,0,191,6⟩):=by
 have h:∀bb,qi (w.withFollow "special-get-raises" bb) eF 1 999 uF [lz] dI ⟨190,0,190,8⟩ gx p bl os=some (.next,rS (w.withFollow "special-get-raises" bb) os,.body bl dI,⟨191,0,191,6⟩):=by
  intro bb;rw[PySem.W.Fast.runGQ_eq];cases bb
  ·exact Wp w p bl os
  ·exact Wo w p bl os
 have h2:=h (w.params.followText "special-get-raises");unfold qi at h2;rw[World.withFollow_self]at h2;exact segRun_of h2
theorem WY(w:bj)(p:bF)(bl:List Stmt)(os:cI):segRun treeTable p w 28 eF 1 30 (rS w os).abs (piecesOf [uw] dI (iO bl) ⟨191,0,191,6⟩ gx)=some (.next,(w6 w os).abs,iO bl,⟨192,0,193,30⟩):=by refine segRun_of (?_:qi w eF 1 30 rS _ dI ⟨191,0,191,6⟩ gx p bl os=_);rw[PySem.W.Fast.runGQ_eq];exact Wq w p bl os
theorem WZ(w:bj)(p:bF)(bl:List Stmt)(os:cI):segRun treeTable p w 28 eF 1 144 (uG w os).abs (piecesOf [qc,zF,ux,uy,uz,rN] dI (iO bl) ⟨194,0,194,13⟩ gx)=some (.next,(w7 w os).abs,iO bl,⟨237,0,307,152⟩):=by refine segRun_of (?_:qi w eF 1 144 uG _ dI ⟨194,0,194,13⟩ gx p bl os=_);rw[PySem.W.Fast.runGQ_eq];exact Ws w p bl os
def M0:Nat:=12+(1+(999+(999+(30+(xa+(144+2))))))
theorem W0(w:bj)(os:cI):topRun treeTable fV w 28 eF M0 ⟨H0 w.params,⟨[]⟩,{},276,os⟩ (topStub fV)=some (w7 w os).abs:=by
 have DM:zS fV (H0 w.params) eF w os=zU (S0 w os) (iO cells) gx:=by rw[PySem.W.Fast.runPreQ_eq,PySem.W.Fast.resPreQ_eq];exact WB w os
 refine go_top DM (piece_block (WU w fV os) ?_);rw[WT];exact piece_app (WW w fV _ os) (piece_app (WX w fV _ os) (piece_app (WY w fV _ os) (piece_cons (WR w fV _ os) (piece_app (WZ w fV _ os) (piece_nil (WV w fV _ os))))))
theorem W1:bh M0 20000=true:=⋯
theorem W2:LeftO fV qv oz zV w8 w9 20000:=by
 refine LeftO.of_pieces (H₀:=H0) (H₁:=H1) (gs₀:=⟨[]⟩) (gs₁:=⟨[]⟩) (d₀:={}) (d₁:={}) (k₀:=276) (k₁:=2596) (m₀:=28) (ann:=eF) (M:=M0) ?_ ?_ W0 W1 ?_
 ·intro w
  have h:uI fV w=some (H0 w.params,⟨[]⟩,{},276):=by rw[PySem.W.Fast.run0Q_eq];exact Wy w
  exact h
 ·intro w
  have h:sz (H0 w.params)=(true,28,eF):=by rw[PySem.W.Fast.szQ_eq];exact WD w
  exact h
 ·intro w
  funext os;have h1:zW fV (H0 w.params) (H1 w.params) os=true:=by rw[PySem.W.Fast.lkAQ_eq];exact WF w os
  have h2:zX qv fV oz (H1 w.params) os=openGood qv oz:=by rw[PySem.W.Fast.lkBQ_eq];exact WH w os
  exact Prod.ext h1 (Prod.ext h2 rfl)
theorem W3:LeftO pw qv oz zV w8 w9 20000:=by rw[Dx];exact W2
noncomputable abbrev fR:=alF
def nr:DefRec:=match rN with|.FunctionDef name args body _ _ _ scope _ _ pos=>⟨name,args,body,scope,pos⟩|_=>⟨default,default,[],default,default⟩
theorem hA:defOf qv fR.row.name=some (nr,[]):=⋯
theorem hB:fR.row.prog.theDef fR.row.name=some (nr.params,nr.body,nr.scope):=⋯
theorem hC:kwWritten? nr.params.kwonlyargs nr.params.kw_defaults=some []:=⋯
theorem W6:chainsOk qv=true:=⋯
theorem W7:opensWell fR.row.prog=true:=by show opensWell pw=true;rw[Dx];exact⋯
theorem W8:(frees fR.row.toRowW&&fR.row.within.isEmpty)=true:=⋯
theorem hD:(chainsOk qv&&opensWell fR.row.prog&&(frees fR.row.toRowW&&fR.row.within.isEmpty))=true:=by rw[W6,W7,W8];rfl
theorem hE:fR.row.prog.bare:=⟨rfl,rfl,rfl,rfl,rfl,by decide+kernel⟩
noncomputable def KD(p:bF):OpenLaw:={prog:=p,name:=fU "law",about:=[fU "int_divmod"],foot:=4,most:=some 63,bound:=none,writes:=false}
abbrev xb:OpenLaw:=KD fV
def DN(p:bF):Bool:=(KD p).wellSaid
theorem W9:Hd.DN=Hd.DN:=rfl
name_quick wsdQ for Hd.DN by Hd.W9
theorem Xa:PySem.W.Fast.wsdQ fV=true:=⋯
theorem KF:alF=xb:=by show({prog:=pw,name:=fU "law",about:=[fU "int_divmod"],foot:=4,most:=some 63,bound:=none,writes:=false}:OpenLaw)=xb;rw[Dx];rfl
theorem Xb(h:xb.row.wellSaid=true->xb.row.Holds):xb.Holds:=holds_law (by rw[<-Xa,<-PySem.W.Fast.wsdQ_eq];rfl) h
theorem head(call:WalkX qv oz (λJ J=>True) w8 w9 fR.row.toRowW nr [] λf vs=>kA f vs)(hw:fR.row.toRowW.promised):fR.Holds:=by show PySem.Challenge.rw_wb0098_01.Holds;rw[KF];refine Xb λXc=>?_;rw[<-KF]at Xc⊢;exact holds_openX (q:=qv) (loose:=oz) (Xt:=zV) (XP:=λJ J=>True) (Yf:=w8) (Ya:=w9) (N:=20000) W3 (λJ J=>trivial) (λJ J J J J=>trivial) hA hB hC (λs e=>recFacts_of e) rfl (by assumption) hD hE hw call
end Hd
theorem DO(h:Runs M Γ p t fs s e s'):s.heap.objs.size<=s'.heap.objs.size:=by
 induction h<;>(try simp only[Shared.setGen,gq,tV]at*)<;>omega
theorem Xe(h:Wakes M Γ p g r s res s'):s.heap.objs.size<=s'.heap.objs.size:=by
 unfold Wakes at h
 split at h
 ·exact h.elim
 ·split at h
  ·obtain⟨Xf,s₁,hr,_,_,rfl⟩:=h;exact(DO hr:(s.setGen g .running).heap.objs.size<=s₁.heap.objs.size)
  ·rw[h.2];exact aQ _
  ·rw[h.2];exact aQ _
 ·obtain⟨Xf,s₁,hr,_,_,rfl⟩:=h;exact(DO hr:(s.setGen g .running).heap.objs.size<=s₁.heap.objs.size)
 ·rw[h.2];exact aQ _
 ·rw[h.2];exact aQ _
theorem Xg{α:Type}(M:Model)(Γ:Ctx)(n:Nat)(t:Sem α):∀(Q:α->Pos->aF->Prop) (E:aa->Pos->aF->Prop) (p:Pos) (s:aF),n<=s.heap.objs.size->Sem.wp M Γ t Q E p s-> Sem.wp M Γ t (λa p' s'=>n<=s'.heap.objs.size/\Q a p' s') (λe p' s'=>n<=s'.heap.objs.size/\E e p' s') p s:=by
 induction t with
 |pure a=>intro Q E p s hn h;exact⟨hn,h⟩|raise e=>intro Q E p s hn h;exact⟨hn,h⟩|unsupported _=>intro Q E p s _ h;exact h|finish _=>intro Q E p s _ h;exact h|rule _ k ih=>intro Q E p s hn h;exact ih () Q E p s hn h|«at» p' k ih=>intro Q E p s hn h;exact ih () Q E p' s hn h|load a _ k ih=>intro Q E p s hn h;obtain⟨o,ho,h⟩:=h;exact⟨o,ho,ih o Q E p s hn h⟩
 |update a _ f k ih=>intro Q E p s hn h;exact⟨h.1,ih () Q E p _ (by rw[tV];exact hn) h.2⟩|loadIfAlive a k ih=>intro Q E p s hn h;exact ih _ Q E p s hn h|point _ k ih=>intro Q E p s hn h;exact ih () Q E p s hn h|register _ _=>intro Q E p s _ h;exact h|alloc o k ih=>intro Q E p s hn h;exact ih _ Q E p _ (by rw[gq];exact(ao 0xeb81910b10 1122578) hn) h|fresh k ih=>intro Q E p s hn h;exact ih _ Q E p _ hn h|ask k ih=>intro Q E p s hn h;exact ih _ Q E p s hn h|choose src m k ih=>intro Q E p s hn h;exact⟨h.1,ih _ Q E p _ hn h.2⟩|os q _ k ih=>intro Q E p s hn h;exact ih _ Q E p _ hn h|call c hd _ _ k ih=>intro Q E p s hn h;obtain⟨r,s',hr,h⟩:=h;exact⟨r,s',hr,ih r Q E p s' (az hn (DO hr)) h⟩
 |handled own k ih=>intro Q E p s hn h;exact ih _ Q E p s hn h|genState g k ih=>intro Q E p s hn h;obtain⟨st,hs,h⟩:=h;exact⟨st,hs,ih _ Q E p s hn h⟩
 |newGen c k ih=>intro Q E p s hn h;exact ih _ Q E p _ hn h|resume g r _ k ih=>intro Q E p s hn h;obtain⟨res,s',hw,h⟩:=h;exact⟨res,s',hw,ih res Q E p s' (az hn (Xe hw)) h⟩
 |yield _ _ _ _=>intro Q E p s _ h;exact h|stack k ih=>intro Q E p s hn h;exact ih _ Q E p s hn h|fork _ _=>intro Q E p s _ h;exact h|thread k ih=>intro Q E p s hn h;exact ih _ Q E p s hn h|await _ _ _ _ _=>intro Q E p s _ h;exact h
theorem jY (h:wpAny M A t (λa s'=>s.heap.objs.size<=s'.heap.objs.size->Q a s') E s):wpAny M A t Q E s:=
 λΓ p DP=>Sem.wp_mono M Γ _ (λa p' s' x=>x.2 x.1) (λJ J J x=>x.2) _ _ (Xg M Γ s.heap.objs.size t _ _ p s (aQ _) (h Γ p DP))
section
open PySem PySem.Float64 PySem.Flt
namespace Fl
noncomputable def he(n d:Nat):Nat:=bif gW d (2*(n%d))then n/d+1 else bif aS (2*(n%d)) d then n/d+n/d%2 else n/d
theorem qj(n d:Nat):he n d=halfEven n d:=by
 unfold he halfEven;simp only;by_cases h1:d<2*(n%d)
 ·rw[show gW d (2*(n%d))=true from kz h1,cond_true,if_pos (by simp[h1])]
 ·rw[show gW d (2*(n%d))=false by rw[SU];exact λh=>h1 (bV h),cond_false]
  by_cases h2:2*(n%d)=d
  ·rw[show aS (2*(n%d)) d=true by rw[Nat.beq_eq];exact h2,cond_true]
   rcases Nat.mod_two_eq_zero_or_one (n/d)with h3|h3
   ·rw[h3,if_neg (by simp[h1,h2,h3])];rfl
   ·rw[h3,if_pos (by simp[h2,h3])]
  ·rw[show aS (2*(n%d)) d=false by rw[SU];exact λh=>h2 (fD h),cond_false,if_neg (by simp[h1,h2])]
theorem KG(n d c:Nat)(hc:0<c):halfEven (n*c) (d*c)=halfEven n d:=by
 have e1:=IL n d hc;have e2:=Nat.mul_mod_mul_right c n d;unfold halfEven;simp only[e1,e2];have q1:(2*(n%d*c)>d*c)↔(2*(n%d)>d):=by rw[<-jS];exact Nat.mul_lt_mul_right hc
 have q2:(2*(n%d*c)==d*c)=(2*(n%d)==d):=by rw[<-jS,yW,beq_iff_eq,beq_iff_eq];exact⟨λh=>Nat.eq_of_mul_eq_mul_right hc h,λh=>by rw[h]⟩
 rw[q2,show decide (2*(n%d*c)>d*c)=decide (2*(n%d)>d)from decide_eq_decide.mpr q1]
theorem DQ(h1:0<d1)(h2:0<d2)(h:n1*d2=n2*d1):halfEven n1 d1=halfEven n2 d2:=by rw[<-KG n1 d1 d2 h2,<-KG n2 d2 d1 h1,h,fO d1 d2]
theorem KH(h1:0<d1)(h2:0<d2)(h:n1*d2=n2*d1):n1/d1=n2/d2:=by rw[<-IL n1 d1 h2,<-IL n2 d2 h1,h,fO d1 d2]
def gy(W D:Nat):Nat:=he W (D*2^((W/D).log2-52))*2^((W/D).log2-52)
theorem KI(h1:0<d1)(h2:0<d2)(h:n1*d2=n2*d1):gy n1 d1=gy n2 d2:=by unfold gy;rw[KH h1 h2 h,qj,qj];generalize (n2/d2).log2-52=k;rw[DQ (tW h1 (fE k)) (tW h2 (fE k)) (by rw[<-jS,h,jS])]
theorem DR(h1:2^k<=q)(h2:q<2^(k+1)):q.log2=k:=by
 have hq:q≠0:=by have:=fE k;exact(ao 0xe0fd090b01c109 285294866) h1 this
 have a:=(Nat.le_log2 hq).mpr h1;have b:=(wH hq).mpr h2;exact(ao 0xed10b01c81910 17674076758290) a b
theorem KJ(hd:0<d)(uJ:roundMag n d<infMag):V (roundMag n d)=gy (n*2^1074) d:=by
 by_cases hn:n=0
 ·subst hn
  have e:roundMag 0 d=0:=by unfold roundMag;simp
  rw[e,V_zero,m6];unfold gy;rw[qj];unfold halfEven;simp
 ·have ja:=place_spec hn hd
  have oA:=place_ge n d;have Xh:=@scaled n d;have hb:=shift_pos n d (-(place n d)) hd;have Xi:roundMag n d=(place n d+1074).toNat*2^52+halfEven (shift n d (-(place n d))).1 (shift n d (-(place n d))).2:=by have:=roundMag_eq' (d:=d) hn;exact(cV 0xed822e10000000000000ea10c30d401f2fd822e10000000000000ea14d341fb822e10000000000000ea14b34 0x10010161110010161110001001811100010108115) uJ this pR
  generalize hk:(place n d+1074).toNat=k at*;generalize (shift n d (-(place n d))).1=a at*;generalize (shift n d (-(place n d))).2=b at*;generalize hN:n*2^1074=W at*;have Xj:halfEven a b<=2^53:=by have h1:=halfEven_le' a b hb;have h2:=(IM hb).mpr ja.1;exact(ao 0xeb20000000000000ea0b81910c20000000000000ea1 17903890) h1 h2
  have xd:k=0∨2^52*b<=a:=by
   rcases ja.2 with h|h
   ·left;exact(bL 0xed090d018e4e4323a02f1fd0916e0984323a01f8e84323a05e16e84323a009 0x100010171110011017111000000001a111000000001a112 [_,_] [_]) hk h i8
   ·right;exact h
  have Xk:2^52<=halfEven a b∨k=0:=by
   rcases xd with h|h
   ·exact .inr h
   ·left
    have h1:=(SV hb).mpr h;have h2:a/b<=halfEven a b:=by unfold halfEven;simp only;split<;>(first|exact ax 246946048 69905|exact ax 60160 69905)
    exact(ao 0xeb010000000000000eab110000000000000eab01 17903890) h1 h2
  rw[Xi,V_at Xj Xk];have KL:W*b=(a*2^k)*d:=by rw[Xh,fO]
  have hdiv:=KH hd hb KL;have Xl:(W/d).log2-52=k:=by
   rw[hdiv];rcases xd with h|h
   ·subst h
    rw[Nat.pow_zero,kB];have h2:=(IM hb).mpr ja.1;by_cases h0:a/b=0
    ·rw[h0];rfl
    ·have:=(wH h0).mpr h2
     exact(ao 0xed090c352a12f1fd090b342a11fd18342a0b1342a 0x10014111011411100000171110000017112) this aq
   ·have h1:2^(52+k)<=a*2^k/b:=by
     rw[SV hb,gu];have:=IN (2^k) h
     calc 2^52*2^k*b=2^52*b*2^k:=by ac_rfl
      _<=a*2^k:=this
    have h2:a*2^k/b<2^(52+k+1):=by
     rw[IM hb,show 52+k+1=53+k by exact ax 0xed80352a81980342a 4581298449,gu];have:=IP ja.1 (fE k)
     calc a*2^k<2^53*b*2^k:=this
      _=2^53*2^k*b:=by ac_rfl
    rw[DR h1 h2];exact(ao 0xed102f1fd090b342a81342a1fd81342a8342a0b81342a342a 0x10101511101311101141110014112) aq
  unfold gy;rw[Xl,qj];congr 1;refine DQ hb (tW hd (fE k)) ?_;rw[KL]
  ac_rfl
structure FI(x:UInt64)(s:Bool)(M:Nat):Prop where
 fin:∃a m e,decode x=.fin a m e
 val:val x=sgn s M
theorem FI.DS(h:FI x s M):isInf x=false:=by obtain⟨a,m,e,hd⟩:=h.fin;unfold isInf;rw[hd]
theorem FI.KM(h:FI x s M):isNaN x=false:=by obtain⟨a,m,e,hd⟩:=h.fin;unfold Float64.isNaN;rw[hd]
theorem zY(s:Bool):sgn s 0=0:=by unfold sgn;cases s<;>rfl
theorem FI.abs(h:FI x s M):(Float64.val x).natAbs=M:=by rw[h.val,sgn_natAbs]
theorem FI.zero(h:FI x s M):isZero x=(M==0):=by
 obtain⟨a,m,e,hd⟩:=h.fin;have h1:=h.abs;rw[val_natAbs hd]at h1;have hp:=fE (e+1074).toNat;unfold isZero;rw[hd];cases m with
 |zero=>rw[m6]at h1;rw[<-h1];rfl|succ m=>
  have:M≠0:=by rw[<-h1];exact Nat.mul_ne_zero (ax 966317932944 16855313) ((ax 0xe0fd090c009 16855313) hp)
  simpa using this
theorem FI.pack(h:t<infMag):FI (pack s t) s (V t):=by obtain⟨m,e,hd,hv⟩:=decode_pack s h;exact⟨⟨_,_,_,hd⟩,val_pack s h⟩
theorem FI.sign(h:FI x s M)(hd:decode x=.fin a m e)(hM:M≠0):a=s:=by have h1:=h.val;rw[val_eq hd]at h1;have h2:=h.abs;rw[val_natAbs hd]at h2;rw[h2]at h1;unfold sgn at h1;cases a<;>cases s<;>simp at h1<;>first|rfl|(first|exact((ax 0xe4f0fd0908e4e5e05e0 0x11211022211211003221) hM h1).elim|exact((ax 0xe4f0fd0908e5e04e5e0 0x11211003221121102221) hM h1).elim)
theorem KN(hD:0<D)(h:W<D*2^1200):¬(D*((2^54-1)*2^2045)<=2*W):=by
 intro h2;have h4:D*2^1200*2<=D*((2^54-1)*2^2045):=by rw[jS];exact nY D (by decide+kernel)
 exact(aC 0xe4fc10b1e0292b22e291 1177107313187) h h2 h4
theorem KO{neg:Bool}{n d W D:Nat}(hd:0<d)(hW:n*2^1074*D=W*d)(hD:0<D)(hb:W<D*2^1200):FI (ofFrac neg n d) neg (gy W D):=by
 have uJ:roundMag n d<infMag:=by
  have h1:roundMag n d<=infMag:=by rw[roundMag_min];exact(aC 0xeb101f2fd20d101fb20b10 1177107374355) pR
  have h2:=over_of hd hW hD;have h3:=KN hD hb;rcases CT (roundMag n d) infMag with h|h
  ·exact h
  ·exact absurd (h2.mp ((ao 0xed10b10b01 18833716883730) h1 h)) h3
 have h:=FI.pack (s:=neg) uJ;rw[KJ hd uJ,KI (n2:=W) (d2:=D) hd hD hW]at h;unfold ofFrac;exact h
end Fl
end
inductive AV where|none|bool (b:Bool)|int (i:Int)|aG (s:Bool) (M:Nat)|str (s:Str)|tup (xs:List AV)|lst (xs:List AV)|bU (xs:List AV)|own (xs:List AV)|jb (v:aa)
noncomputable def AV.ctorIdx(a:AV):Nat:=a.casesOn 0 (λJ=>1) (λJ=>2) (λJ J=>3) (λJ=>4) (λJ=>5) (λJ=>6) (λJ=>7) (λJ=>8) λJ=>9
noncomputable def eG(b:Addr):Bool:=b==47||b==54
def NF(b:Addr)(o:Obj):Prop:=∀vs,o.data=.fields vs->eG b=false
def Kp(h h':Heap):Prop:=∀b o,NF b o->h.get? b=some o->h'.get? b=some o
abbrev oB(h h':Heap):Prop:=∀b o,h.get? b=some o->h'.get? b=some o
def gz(h:Heap)(p:Addr)(q:Str):Prop:=∃o vs,h.get? p=some o/\o.data=.fields vs/\(TriplesOk vs.toList/\o.cls=.none/\o.dict=none/\o.slots=#[])/\∀pos c,codeAmong pos vs.toList=some c->h.CodeRec c q/\∀a,c=.ref a->eG a=false
structure gL(h:Heap):Prop where
 one:gz h 47 "_int2digits.<locals>.inner"
 two:gz h 54 "_digits2int.<locals>.inner"
noncomputable def gA(vs:List aa)(n:Nat):Obj:=⟨.type "tuple",none,.seq vs.toArray n,#[]⟩
noncomputable def cM(vs:List aa)(n:Nat):Obj:=⟨.type "list",none,.seq vs.toArray n,#[]⟩
structure aI(h h':Heap):Prop where
 sz:h.objs.size<=h'.objs.size
 kp:Kp h h'
 tb:gL h->gL h'
theorem aI.refl(h:Heap):aI h h:=⟨aQ _,λJ J J e=>e,id⟩
theorem aI.trans(x:aI h h')(y:aI h' cX):aI h cX:=⟨az x.sz y.sz,λb o n e=>y.kp b o n (x.kp b o n e),λt=>y.tb (x.tb t)⟩
theorem gz.keep(hk:oB h h'):gz h p q->gz h' p q:=λ⟨o,vs,g,d,t,r⟩=>⟨o,vs,hk _ _ g,d,t,λpos c e=>⟨(r pos c e).1.keeps hk,(r pos c e).2⟩⟩
theorem aI.of(z:h.objs.size<=h'.objs.size)(hk:oB h h'):aI h h':=⟨z,λb o J e=>hk b o e,λx=>⟨x.one.keep hk,x.two.keep hk⟩⟩
theorem aI.push(h:Heap)(o:Obj):aI h (h.push o):=.of (gq h o▸jt _) λJ J e=>b7 o e
inductive At(h:Heap)(o:List aa->Nat->Obj)(P:Addr->Prop)(R:List aa->Prop):aa->Prop
 |mk (a:Addr) (vs:List aa) (n:Nat) (g:h.get? a=some (o vs n)) (p:P a) (r:R vs):At h o P R (.ref a)
inductive uK(i:Int):aa->Prop
 |mk (t:Tok):uK i (.int i t)
inductive DT(s:Bool)(M:Nat):aa->Prop
 |mk (b:UInt64) (t:Tok) (f:Fl.FI b s M):DT s M (.float b t)
inductive uL(s:Str):aa->Prop
 |mk (t:Tok):uL s (.str s t)
inductive nt(P:aa->Prop)(R:List aa->Prop):List aa->Prop
 |mk {v:aa} {r:List aa} (p:P v) (q:R r):nt P R (v::r)
mutual
noncomputable def VR(h:Heap)(ok:Addr->Prop):AV->Prop->aa->Prop|.none,_,v=>v=.none|.bool b,_,v=>v=.bool b|.int i,_,v=>uK i v|.aG s M,_,v=>DT s M v|.str s,_,v=>uL s v|.tup xs,_,v=>At h gA ok (ay h ok xs) v|.lst xs,_,v=>At h cM ok (ay h ok xs) v|.bU xs,ob,v=>ob/\At h cM (λJ=>True) (ay h ok xs) v|.own _,_,_=>False|.jb u,_,v=>v=u
noncomputable def ay(h:Heap)(ok:Addr->Prop):List AV->List aa->Prop|[],vs=>vs=[]|a::as,vs=>nt (VR h ok a False) (ay h ok as) vs
end
theorem At.imp(k:∀a vs n,P a->h.get? a=some (o vs n)->P' a/\h'.get? a=some (o vs n))(f:∀vs,R vs->R' vs):At h o P R v->At h' o P' R' v|⟨a,vs,n,g,p,r⟩=>⟨a,vs,n,(k a vs n p g).2,(k a vs n p g).1,f vs r⟩
theorem nt.imp(f:∀v,P v->P' v)(k:∀vs,R vs->R' vs):nt P R vs->nt P' R' vs|⟨p,q⟩=>⟨f _ p,k _ q⟩
inductive cJ:Obj->Prop
 |tup (vs n):cJ (gA vs n)|lst (vs n):cJ (cM vs n)
section
mutual
theorem VR.mono(hk:∀a o,ok a->cJ o->h.get? a=some o->zZ a/\h'.get? a=some o):∀(a:AV) {ob KP:Prop} (hb:ob->KP/\∀a o,cJ o->h.get? a=some o->h'.get? a=some o) {v:aa},VR h ok a ob v->VR h' zZ a KP v|.none,_,_,_,_,r|.bool _,_,_,_,_,r|.int _,_,_,_,_,r|.aG _ _,_,_,_,_,r|.str _,_,_,_,_,r|.own _,_,_,_,_,r|.jb _,_,_,_,_,r=>r|.tup xs,_,_,_,_,r=>At.imp (λa vs n p g=>hk a _ p (.tup vs n) g) (λJ=>ay.mono hk xs) r|.lst xs,_,_,_,_,r=>At.imp (λa vs n p g=>hk a _ p (.lst vs n) g) (λJ=>ay.mono hk xs) r|.bU xs,_,_,hb,_,r=>⟨(hb r.1).1,At.imp (λa vs n J g=>⟨trivial,(hb r.1).2 a _ (.lst vs n) g⟩) (λJ=>ay.mono hk xs) r.2⟩
theorem ay.mono(hk:∀a o,ok a->cJ o->h.get? a=some o->zZ a/\h'.get? a=some o):∀(as:List AV) {vs:List aa},ay h ok as vs->ay h' zZ as vs|[],_,r=>r|a::as,_,r=>nt.imp (λJ=>VR.mono hk a gY) (λJ=>ay.mono hk as) r
end
end
noncomputable abbrev Sg:=List (Str×AV)
section
abbrev ae{α:Type}(b:Bool)(x y:α):α:=@Bool.rec (λJ=>α) y x b
def DU:List Nat->List Nat->Bool:=λl=>@d6 Nat (λJ=>List Nat->Bool) (λr=>@d6 Nat (λJ=>Bool) true (λJ J J=>false) r) (λc J ih r=>@d6 Nat (λJ=>Bool) false (λd r J=>ae (aS c d) (ih r) false) r) l
def aA(x y:Str):Bool:=DU x.cps.toList y.cps.toList
def aj{α:Type}(x:Str)(l:List (Str×α)):Option α:=@d6 (Str×α) (λJ=>Option α) none (λp J ih=>ae (aA x p.1) (some p.2) ih) l
def bR(x:Str)(a:AV)(l:Sg):Sg:=@d6 (Str×AV) (λJ=>Sg) [(x,a)] (λp r ih=>ae (aA x p.1) ((x,a)::r) (p::ih)) l
end
theorem KQ:∀l r:List Nat,DU l r=true↔l=r
 |[],[]=>⟨λJ=>rfl,λJ=>rfl⟩|[],_::_=>⟨nofun,nofun⟩|_::_,[]=>⟨nofun,nofun⟩|c::l,d::r=>by
  show ae (aS c d) (DU l r) false=true↔_;cases q:aS c d with|false=>exact⟨nofun,λe=>absurd (ju e).1 (nZ q)⟩|true=>exact(KQ l r).trans ⟨λe=>by rw[fD q,e],λe=>(ju e).2⟩
theorem cN(x y:Str):aA x y=true↔x=y:=(KQ _ _).trans ⟨λe=>by cases x;cases y;exact congrArg Str.mk (Array.ext' e),λe=>e▸rfl⟩
theorem jZ(x:Str):aA x x=true:=(cN x x).mpr rfl
theorem rT(h:x≠y):aA x y=false:=by
 cases q:aA x y with|false=>rfl|true=>exact absurd ((cN x y).mp q) h
theorem z9(x:Str)(a:AV):∀l:Sg,aj x (bR x a l)=some a
 |[]=>by show ae (aA x x) _ _=_;rw[jZ]|(y,b)::l=>by
  show aj x (ae (aA x y) ((x,a)::l) ((y,b)::bR x a l))=_;cases q:aA x y with|true=>show ae (aA x x) _ _=_;rw[jZ]|false=>show ae (aA x y) _ _=_;rw[q];exact z9 x a l
theorem DV(dB:y≠x)(a:AV):∀l:Sg,aj y (bR x a l)=aj y l
 |[]=>by show ae (aA y x) _ _=_;rw[rT dB];rfl|(z,b)::l=>by
  show aj y (ae (aA x z) ((x,a)::l) ((z,b)::bR x a l))=_;cases q:aA x z with|true=>cases(cN x z).mp q;show ae (aA y x) _ _=ae (aA y x) _ _;rw[rT dB]|false=>show ae (aA y z) _ (aj y (bR x a l))=ae (aA y z) _ (aj y l);rw[DV dB a l]
noncomputable def cY(x:Str):Bool:=!(x==("__debug__":Str))&&!(x==("__classdict__":Str))
noncomputable def ik(d:Data):Bool:=@Data.casesOn (λJ=>Bool) d false (λJ=>false) (λJ J=>false) (λJ J=>true) (λJ J J=>false) (λJ J=>false) (λJ=>true) (λJ=>false) (λJ=>false) (λJ=>false) false
def hH(o:Obj):Prop:=ik o.data=true
structure Fc where
 prog:bF
 w:bj
 A:m7
 env:Env
 ok:Addr->Prop
 lo:Addr
 nw:Addr
 nx:Addr
 base:Heap
 mg:Str->Option aa
 mb:Str->Option aa
 pin:List (Str×aa)
 z:aF
@[reducible] noncomputable def Fc.st (C:Fc) (h:Heap) (tk:Nat):aF:=⟨h,C.z.gens,C.z.drawn,tk,C.z.os⟩
abbrev aD:aa->aF->Prop:=λJ J=>False
inductive Fc.Var(C:Fc)(h:Heap)(x:Str)(v:aa):Prop
 |loc (k:C.env.kindOf x=some .local) (m:Str->Option aa) (n:h.Ns C.env.locals m) (e:m x=some v)|aN (k:C.env.kindOf x=some .cell∨C.env.kindOf x=some .free) (c:Addr) (l:C.env.cells.lookup x=some c) (e:h.IsCell c (some v))
def dC(ad:Str->Addr)(σ:Sg)(b:Addr):Prop:=∃x xs,aj x σ=some (.own xs)/\ad x=b
def Fc.aJ(C:Fc)(ad:Str->Addr)(σ:Sg)(b:Addr):Prop:=C.ok b/\¬dC ad σ b
inductive Fc.VX(C:Fc)(ad:Str->Addr)(σ:Sg)(h:Heap)(x:Str):AV->aa->Prop
 |val {a:AV} {v:aa} (r:VR h (C.aJ ad σ) a False v):VX C ad σ h x a v|own {xs:List AV} {v:aa} (r:At h cM (λb=>b=ad x) (ay h (C.aJ ad σ) xs) v):VX C ad σ h x (.own xs) v|bU {xs:List AV} {v:aa} (r:At h cM (λb=>¬dC ad σ b) (ay h (C.aJ ad σ) xs) v):VX C ad σ h x (.bU xs) v
structure Fc.Ok(C:Fc):Prop where
 kind:C.env.scope.kind=.function
 glob:C.env.globals=mainGlobals
 blt:C.env.builtins=builtinsNs
 g:C.base.Ns mainGlobals C.mg
 b:C.base.Ns builtinsNs C.mb
 nolimit:C.base.NoLimit
 kH:∀x c,C.env.cells.lookup x=some c->c≠C.env.locals
 cells:∀x y c,C.env.cells.lookup x=some c->C.env.cells.lookup y=some c->x=y
 cell:∀x,C.env.kindOf x=some .cell∨C.env.kindOf x=some .free->∃c,C.env.cells.lookup x=some c
 pin:∀x v,aj x C.pin=some v->cY x=true
 new:∀a,C.nx<=a->C.ok a
 qk:∀b o,C.base.get? b=some o->hH o->b<C.nw
 oE:C.lo<=C.nx
 ql:C.nw<=C.nx
 size:C.base.objs.size<=C.lo
def Fc.Out(C:Fc)(b:Addr):Prop:=∀o,C.base.get? b=some o->¬NF b o
structure Rel(C:Fc)(ad:Str->Addr)(σ:Sg)(h:Heap):Prop where
 base:Kp C.base h
 tabs:gL h
 var:∀x a,aj x σ=some a->∃v,C.Var h x v/\C.VX ad σ h x a v
 loc:∃m,h.Ns C.env.locals m
 aN:∀x c,C.env.cells.lookup x=some c->∃v,h.IsCell c v
 own:∀x xs,aj x σ=some (.own xs)->C.Out (ad x)/\C.ok (ad x)
 inj:∀x y xs ys,aj x σ=some (.own xs)->aj y σ=some (.own ys)->ad x=ad y->x=y
 sz:C.nx<=h.objs.size
 pin:∀x v,aj x C.pin=some v->C.Var h x v
section
variable{C:Fc}{ad ad':Str->Addr}{h h':Heap}
theorem DW(hk:∀b o,¬dC ad σ b->cJ o->h.get? b=some o->¬dC ad' σ' b/\h'.get? b=some o)(b:Addr)(o:Obj)(k:C.aJ ad σ b)(s:cJ o)(e:h.get? b=some o):C.aJ ad' σ' b/\h'.get? b=some o:=⟨⟨k.1,(hk b o k.2 s e).1⟩,(hk b o k.2 s e).2⟩
theorem Fc.VX.mono(hk:∀b o,¬dC ad σ b->cJ o->h.get? b=some o->¬dC ad' σ' b/\h'.get? b=some o)(hm:∀xs b o,a=.own xs->b=ad x->cJ o->h.get? b=some o->b=ad' x/\h'.get? b=some o)(r:C.VX ad σ h x a v):C.VX ad' σ' h' x a v:=by
 cases r with|val r=>exact .val (r.mono (DW hk) _ gY)|own r=>exact .own (r.imp (λb vs n p g=>hm _ b _ rfl p (.lst vs n) g) λJ=>ay.mono (DW hk) _)|bU r=>exact .bU (r.imp (λb vs n p g=>hk b _ p (.lst vs n) g) λJ=>ay.mono (DW hk) _)
theorem NF.bX(s:cJ o):NF b o:=by cases s<;>exact nofun
theorem aI.bX(g:aI h h')(s:cJ o)(e:h.get? b=some o):h'.get? b=some o:=g.kp b o (NF.bX s) e
theorem aI.ns(g:aI h h'):h.Ns L m->h'.Ns L m:=λ⟨o,es,ep,a,b,r⟩=>⟨o,es,ep,g.kp L o (λvs e=>by rw[e]at b;cases b) a,b,r⟩
theorem aI.cell(g:aI h h'):h.IsCell c u->h'.IsCell c u:=λ⟨o,a,b⟩=>⟨o,g.kp c o (λvs e=>by rw[e]at b;cases b) a,b⟩
theorem Fc.Var.imp(hn:∀m,h.Ns C.env.locals m->h'.Ns C.env.locals m)(hc:∀c u,C.env.cells.lookup x=some c->h.IsCell c u->h'.IsCell c u):C.Var h x v->C.Var h' x v|.loc k m n e=>.loc k m (hn m n) e|.aN k c l e=>.aN k c l (hc c _ l e)
theorem Rel.grow(R:Rel C ad σ h)(g:aI h h'):Rel C ad σ h' where
 base b o n e:=g.kp b o n (R.base b o n e)
 tabs:=g.tb R.tabs
 var x a e:=let⟨v,w,r⟩:=R.var x a e;⟨v,w.imp (λJ=>g.ns) λJ J J=>g.cell,r.mono (λb o k s e=>⟨k,g.bX s e⟩) λJ b o J k s e=>⟨k,g.bX s e⟩⟩
 loc:=let⟨m,n⟩:=R.loc;⟨m,g.ns n⟩
 aN x c l:=let⟨v,e⟩:=R.aN x c l;⟨v,g.cell e⟩
 own:=R.own
 inj:=R.inj
 sz:=az R.sz g.sz
 pin x v e:=(R.pin x v e).imp (λJ=>g.ns) λJ J J=>g.cell
theorem VR.keep(g:aI h h'):VR h ok a ob v->VR h' ok a ob v:=VR.mono (λJ J k s e=>⟨k,g.bX s e⟩) a λq=>⟨q,λJ J=>g.bX⟩
theorem ay.keep(g:aI h h'):ay h ok as vs->ay h' ok as vs:=ay.mono (λJ J k s e=>⟨k,g.bX s e⟩) as
abbrev Fc.V(C:Fc)(ad:Str->Addr)(σ:Sg)(h:Heap)(a:AV)(v:aa):Prop:=VR h (C.aJ ad σ) a True v
def Aa(C:Fc)(ad:Str->Addr)(σ:Sg)(h:Heap)(K:AV->Prop)(Q:aa->aF->Prop):Prop:=∀v h' tk a,aI h h'->C.V ad σ h' a v->K a->Q v (C.st h' tk)
noncomputable abbrev M_(C:Fc):Model:=model C.prog C.w
def Tv(C:Fc)(ad:Str->Addr)(σ:Sg)(h:Heap)(t:Sem aa)(K:AV->Prop):Prop:=∀tk Q,Aa C ad σ h K Q->wpAny (M_ C) C.A t Q aD (C.st h tk)
def Ev(C:Fc)(σ:Sg)(e:ab)(K:AV->Prop):Prop:=∀ad h,Rel C ad σ h->Tv C ad σ h (eval e C.env) K
theorem Aa.after{K:AV->Prop}{Q:aa->aF->Prop}(k:Aa C ad σ h K Q)(g:aI h h'):Aa C ad σ h' K Q:=λv cX tk a g'=>k v cX tk a (g.trans g')
noncomputable def jz:AV->AV|.own xs=>.bU xs|a=>a
theorem Fc.VX.seen(r:C.VX ad σ h x a v):C.V ad σ h (jz a) v:=by
 cases r with
 |val r=>cases a with
  |own xs=>exact r.elim|bU xs=>exact r.1.elim|_=>exact r
 |own r=>exact⟨trivial,r.imp (λJ J J J g=>⟨trivial,g⟩) λJ=>id⟩|bU r=>exact⟨trivial,r.imp (λJ J J J g=>⟨trivial,g⟩) λJ=>id⟩
variable{K:AV->Prop}
theorem oG(O:C.Ok)(w:C.Var h x v)(hd:(x==("__classdict__":Str))=false)(q:Q v (C.st h tk)):wpAny (M_ C) C.A (loadName C.env x) Q aD (C.st h tk):=by
 cases w with
 |loc k m n e=>exact wpAny_loadName_local O.kind k n e q|aN k c l e=>cases k with
  |inl k=>exact wpAny_loadName_cell O.kind k l e q|inr k=>exact wpAny_loadName_free O.kind k l e q hd
theorem cY.d(e:cY x=true):(x==("__debug__":Str))=false:=by unfold cY at e;simp at e;simpa using e.1
theorem cY.c(e:cY x=true):(x==("__classdict__":Str))=false:=by unfold cY at e;simp at e;simpa using e.2
theorem Ev.uM(hm:behindInMarks op r=false)(hl:Ev C σ l λa=>Ev C σ r λb=>∀ad h v w,Rel C ad σ h->C.V ad σ h a v->C.V ad σ h b w->Tv C ad σ h (compareOp op v w) K):Ev C σ (.Compare l [op] [r] p) K:=λad h R tk Q q=>
 wpAny_Compare1 (hl ad h R tk _ λv h₁ bq a gB DX hr=>hr ad h₁ (R.grow gB) bq _ λw av bI b bx rU ho=>ho ad av v w ((R.grow gB).grow bx) (DX.keep bx) rU bI Q (q.after (gB.trans bx))) hm
end
abbrev fo{α:Type}(n:Nat)(k:Nat->α):α:=@rC (λJ=>α) (k 0) (λm J=>k (jT m)) n
section
variable{α:Type}
noncomputable def S:Nat:=2^1074
def b1(q lo:Nat)(k:Nat->α):α:=ae (bh (fF 2 (cL lo 1)) q) (k (cL lo 1)) (k lo)
def b2(q lo:Nat)(k:Nat->α):α:=ae (bh (fF 2 (cL lo 2)) q) (b1 q (cL lo 2) k) (b1 q lo k)
def b4(q lo:Nat)(k:Nat->α):α:=ae (bh (fF 2 (cL lo 4)) q) (b2 q (cL lo 4) k) (b2 q lo k)
def b8(q lo:Nat)(k:Nat->α):α:=ae (bh (fF 2 (cL lo 8)) q) (b4 q (cL lo 8) k) (b4 q lo k)
def Ab(q lo:Nat)(k:Nat->α):α:=ae (bh (fF 2 (cL lo 16)) q) (b8 q (cL lo 16) k) (b8 q lo k)
def Ac(q lo:Nat)(k:Nat->α):α:=ae (bh (fF 2 (cL lo 32)) q) (Ab q (cL lo 32) k) (Ab q lo k)
def DY(q lo:Nat)(k:Nat->α):α:=ae (bh (fF 2 (cL lo 64)) q) (Ac q (cL lo 64) k) (Ac q lo k)
def hh(W B P:Nat)(k:Nat->α):α:=
 ae (bh (jT B) (i5 2 (Nat.mod W B))) (fo (i5 (jT (pJ W B)) P) k) (ae (aS (i5 2 (Nat.mod W B)) B) (fo (i5 (cL (pJ W B) (Nat.mod (pJ W B) 2)) P) k) (fo (i5 (pJ W B) P) k))
def oH(f:α)(W D:Nat)(k:Nat->α):α:=
 fo W λW=>fo (pJ W D) λq=>ae (aS q 0) (ae (aS W 0) (k 0) f) (ae (bh (fF 2 1000) q) (ae (bh (fF 2 1128) q) f (DY q 1000 λz=>fo (fF 2 (m8 z 52)) λP=>fo (i5 D P) λB=>hh W B P k)) f)
def xf(s1 s2:Bool)(k:Bool->α):α:=ae s1 (ae s2 (k false) (k true)) (ae s2 (k true) (k false))
noncomputable abbrev kl(k:AV->α)(s:Bool)(M:Nat):α:=k (.aG s M)
def rV(f:α)(s1:Bool)(M1:Nat)(s2:Bool)(M2:Nat)(k:Bool->Nat->α):α:=
 xf s1 s2 λx=>ae x (ae (bh (jT M2) M1) (oH f (m8 M1 M2) 1 (k s1)) (oH f (m8 M2 M1) 1 (k s2))) (oH f (cL M1 M2) 1 (k s1))
def KR(f:α)(s1:Bool)(M1:Nat)(s2:Bool)(M2:Nat)(k:Bool->Nat->α):α:=ae s2 (rV f s1 M1 false M2 k) (rV f s1 M1 true M2 k)
def mulR(f:α)(s1:Bool)(M1:Nat)(s2:Bool)(M2:Nat)(k:Bool->Nat->α):α:=xf s1 s2 λx=>oH f (i5 M1 M2) S (k x)
def KS(f:α)(s1:Bool)(M1:Nat)(s2:Bool)(M2:Nat)(k:Bool->Nat->α):α:=ae (aS M2 0) f (xf s1 s2 λx=>oH f (i5 M1 S) M2 (k x))
def KT(f:α)(s:Bool)(M:Nat)(k:Bool->Nat->α):α:=oH f (Nat.mod M S) 1 λr=>ae (aS r 0) (k false 0) (ae s (rV f true r false S k) (k false r))
def fS(s1:Bool)(M1:Nat)(s2:Bool)(M2:Nat):Bool:=ae s1 (ae s2 (bh (jT M2) M1) (bh 1 (cL M1 M2))) (ae s2 false (bh (jT M1) M2))
def jc(s1:Bool)(M1:Nat)(s2:Bool)(M2:Nat):Bool:=ae (aS M1 M2) (xf s1 s2 λx=>ae x (aS M1 0) true) false
def uN(f:α)(i:Int)(k:Bool->Nat->α):α:=(@Int.casesOn (λJ=>α) i (λn=>ae (bh n (fF 2 52)) (fo (i5 n S) λM=>k false M) f) (λn=>ae (bh n (fF 2 51)) (fo (i5 (jT n) S) λM=>k true M) f))
def uO(f:α)(k:Bool->Nat->α)(x y:Int):α:=(@Int.casesOn (λJ=>α) x (λn=>(@Int.casesOn (λJ=>α) y (λd=>ae (aS d 0) f (oH f (i5 n S) d (k false))) (λJ=>f))) (λJ=>f))
def KU(fi:Int->(Int->α)->α)(s:Bool)(k:Int->α)(n:Nat):α:=ae s (fi (- (n:Int)) k) (fi (n:Int) k)
def nv(fi:Int->(Int->α)->α)(s:Bool)(M:Nat)(k:Int->α):α:=hh M S 1 (KU fi s k)
inductive DZ where|add|sub|mul|div|mod (u:Unit)
def xg(f:α)(op:DZ)(s1:Bool)(M1:Nat)(s2:Bool)(M2:Nat)(k:Bool->Nat->α):α:=(@DZ.casesOn (λJ=>α) op (rV f s1 M1 s2 M2 k) (KR f s1 M1 s2 M2 k) (mulR f s1 M1 s2 M2 k) (KS f s1 M1 s2 M2 k) (λJ=>(KT f s1 M1 k)))
end
structure Md(α:Type) where
 fail:α
 gd:(c:Prop)->Decidable c->α->α
 br:Bool->α->α->α
 op:{β:Type}->Option β->(β->α)->α
 fi:Int->(Int->α)->α
 fl:DZ->Bool->Nat->Bool->Nat->(Bool->Nat->α)->α
 i2:Int->(Bool->Nat->α)->α
 di:Int->Int->(Bool->Nat->α)->α
 rq:Bool->Nat->(Int->α)->α
def KW(d:Decidable c):Bool:=@Decidable.rec c (λJ=>Bool) (λJ=>false) (λJ=>true) d
abbrev opt{α β:Type}(f:α)(o:Option β)(k:β->α):α:=@Option.rec β (λJ=>α) f k o
def xh(i:Int)(k:Int->Bool):Bool:=@Int.rec (λJ=>Bool) (λn=>fo n λn=>k (jr n)) (λn=>fo n λn=>k (yT n)) i
def bM:Md Bool where
 fail:=false
 gd c d x:=ae (KW d) x false
 br c x y:=ae c x y
 op o k:=opt false o k
 fi:=xh
 fl:=xg false
 i2:=uN false
 di x y k:=uO false k x y
 rq:=nv xh
structure Md.Ok{α:Type}(m:Md α)(H:α->Prop):Prop where
 fail:¬H m.fail
 gd:∀{c d x},H (m.gd c d x)->c/\H x
 br:∀{c x y},H (m.br c x y)->(c=true->H x)/\(c=false->H y)
 op:∀{β:Type} {o:Option β} {k},H (m.op o k)->∃b,o=some b/\H (k b)
 fi:∀{i k},H (m.fi i k)->H (k i)
 fl:∀{op s1 M1 s2 M2 k},H (m.fl op s1 M1 s2 M2 k)->H (xg m.fail op s1 M1 s2 M2 k)
 i2:∀{i k},H (m.i2 i k)->H (uN m.fail i k)
 di:∀{x y k},H (m.di x y k)->H (uO m.fail k x y)
 rq:∃f:Int->(Int->α)->α,(∀{i k},H (f i k)->H (k i))/\∀{s M k},H (m.rq s M k)->H (nv f s M k)
theorem KX(h:xh i k=true):k i=true:=by cases i with|ofNat n=>cases n<;>exact h|negSucc n=>cases n<;>exact h
theorem Xn:bM.rq=nv xh:=⋯
theorem KY:bM.Ok (·=true) where
 fail:=nofun
 gd {c d x} h:=by cases d with|isTrue q=>exact⟨q,h⟩|isFalse q=>cases h
 br {c x y} h:=by cases c with|false=>exact⟨nofun,λJ=>h⟩|true=>exact⟨λJ=>h,nofun⟩
 op {β o k} h:=by cases o with|none=>cases h|some b=>exact⟨b,rfl,h⟩
 fi:=KX
 fl h:=h
 i2 h:=h
 di h:=h
 rq:=⟨xh,KX,λ{s M k} h=>Eq.mp (congrArg (λf:Bool->Nat->(Int->Bool)->Bool=>f s M k=true) Xn) h⟩
inductive Bi where|len|range|enumerate|zip|reversed|list|max|min|abs|round|int|bool|sum|ord|chr|isinstance|divmod (u:Unit)
noncomputable def Bi.val(b:Bi):aa:=(@Bi.casesOn (λJ=>aa) b (.builtin "len") (.type "range") (.type "enumerate") (.type "zip") (.type "reversed") (.type "list") (.builtin "max") (.builtin "min") (.builtin "abs") (.builtin "round") (.type "int") (.type "bool") (.builtin "sum") (.builtin "ord") (.builtin "chr") (.builtin "isinstance") (λJ=>(.builtin "divmod")))
inductive GV(α:Type) where|val (a:AV)|aG (b:UInt64)|fn (f:List AV->(AV->α)->α)|bi (b:Bi)
structure Cx(α:Type) where
 sc:List (Str×bG)
 st:List Str
 gl:List (Str×GV α)
 pn:List (Str×(List AV->(AV->α)->α))
 mu:List Str
 wf:Nat
 hn:Bool
 sn:List (Str×(List AV->Sg->(Sg->α)->α))
noncomputable def aR(a:AV):Option Int:=(by induction a using AV.casesOn with|int i=>exact some i|_=>exact none)
noncomputable def uP(a:AV):Option Bool:=(by induction a using AV.casesOn with|bool i=>exact some i|_=>exact none)
noncomputable def dU(a:AV):Option Str:=(by induction a using AV.casesOn with|str i=>exact some i|_=>exact none)
noncomputable def il(a:AV):Option (Bool×Nat):=(by induction a using AV.casesOn with|aG s M=>exact some (s,M)|_=>exact none)
noncomputable def gC(a:AV):Option (List AV):=(by induction a using AV.casesOn with|lst xs=>exact some xs|bU xs=>exact some xs|_=>exact none)
noncomputable def xi(a:AV):Option (List AV):=(by induction a using AV.casesOn with|tup xs=>exact some xs|lst xs=>exact some xs|bU xs=>exact some xs|_=>exact none)
noncomputable def xj(a:AV):Option (List AV):=(by induction a using AV.casesOn with|own xs=>exact some xs|_=>exact none)
noncomputable def fz(a:AV):Bool:=(by induction a using AV.casesOn with|bU J=>exact false|own J=>exact false|_=>exact true)
noncomputable def eH(a:AV):AV:=(@AV.casesOn (λJ=>AV) a (a) (λJ=>a) (λJ=>a) (λJ J=>a) (λJ=>a) (λJ=>a) (λJ=>a) (λJ=>a) (λxs=>.lst xs) (λJ=>a))
noncomputable def cP(e:ab):Option Str:=(by induction e using cv with|Name x J=>exact some x|_=>exact none)
noncomputable def ny(e:ab):Option (List ab):=(by induction e using cv with|Tuple es J J=>exact some es|_=>exact none)
noncomputable def xk(e:ab):Option (ab×List ab):=(by induction e using cv with|Call f as ks J=>exact(@bW _ (λJ=>Option (ab×List ab)) ks (some (f,as)) (λJ J=>none))|_=>exact none)
noncomputable def uQ(e:ab):Bool:=(by induction e using cv with|Call J J J J=>exact false|_=>exact true)
noncomputable def Ad(e:ab):Bool:=(by induction e using cv with|Starred J J=>exact false|_=>exact true)
def noStar(es:List ab):Bool:=@d6 ab (λJ=>Bool) true (λe J ih=>ae (Ad e) ih false) es
def oI(es:List ab):Bool:=ae (noStar es) (bh es.length 29) false
def uR(l:Nat)(e:ab):Option (ab×Str):=(by induction e using cv with|Attribute o n p=>exact ae (aS p.endLine l) (ae (uQ o) (some (o,n)) none) none|_=>exact none)
noncomputable def D0(e:ab):Option (ab×ab):=(by induction e using cv with|Subscript o n J=>exact some (o,n)|_=>exact none)
noncomputable def Ae(e:ab):Option Int:=(by induction e using cv with|Constant c J J=>exact(by induction c using CU with|int i=>exact some i|_=>exact none)|_=>exact none)
noncomputable def KZ(e:ab):Option Str:=(by induction e using cv with|Constant c J J=>exact(by induction c using CU with|str i=>exact some i|_=>exact none)|_=>exact none)
noncomputable def K0(e:ab):Option ab:=(by induction e using cv with|UnaryOp op e J=>exact(@CV (λJ=>Option ab) op none none none (some e))|_=>exact none)
section
variable{α:Type}(m:Md α)
def Af(b:UInt64)(k:AV->α):α:=
 fo b.toNat λt=>fo (pJ t (fF 2 52)) λe=>ae (aS t 0) (k (.aG false 0)) (ae (aS e 0) m.fail (ae (bh 2047 e) m.fail (fo (i5 (cL (Nat.mod t (fF 2 52)) (fF 2 52)) (fF 2 (m8 e 1))) λM=>k (.aG false M))))
noncomputable abbrev kI(k:AV->α)(i:Int):α:=k (.int i)
def ki(k:AV->α)(i:Int):α:=m.fi i (kI k)
def K1(op:cE)(k:AV->α)(p q:Bool×Nat):α:=(@tX (λJ=>α) op (m.fl .add p.1 p.2 q.1 q.2 (kl k)) (m.fl .sub p.1 p.2 q.1 q.2 (kl k)) (m.fl .mul p.1 p.2 q.1 q.2 (kl k)) m.fail (m.fl .div p.1 p.2 q.1 q.2 (kl k)) (ae (jc q.1 q.2 false S) (m.fl (.mod ()) p.1 p.2 q.1 q.2 (kl k)) m.fail) m.fail m.fail m.fail m.fail m.fail m.fail m.fail)
def binI(op:cE)(k:AV->α)(x y:Int):α:=(@tX (λJ=>α) op (ki m k (x+y)) (ki m k (x-y)) (m.gd (eE x y) (by unfold eE;infer_instance) (ki m k (x*y))) m.fail (m.di x y (kl k)) (m.gd (y≠0) inferInstance (ki m k (x.fmod y))) (m.gd (0<=y/\(bk x:Int)*y<=2^27) inferInstance (ki m k (x^y.toNat))) (m.gd (0<=y/\(bk x:Int)+y<=2^27) inferInstance (ki m k (x*2^y.toNat))) (m.gd (0<=y) inferInstance (ki m k (x.fdiv (2^y.toNat)))) (ki m k (n9 x y)) (ki m k (wI x y)) (ki m k (kC x y)) (m.gd (y≠0/\ij x y=false) inferInstance (ki m k (x.fdiv y))))
noncomputable def cZ(x:Str)(n:Int):Str:=⟨(cq n.toNat x.cps).foldl (·++·) #[]⟩
noncomputable def xl(x:Str):Str:=⟨((slicePicked x none none (some ((-1:Int),0))).filterMap (x.cps[·]?)).toArray⟩
noncomputable def kJ(k:AV->α)(xs ys:List AV):α:=m.gd (xs.length+ys.length<=100000) inferInstance (k (.own (xs++ys)))
noncomputable def K2(k:AV->α)(xs:List AV)(n:Int):α:=m.gd (n<2^63/\-2^63<=n/\xs.length*n.toNat<=2^24) inferInstance (k (.own (cq n.toNat xs).flatten))
def K4(op:cE)(b:AV)(k:AV->α)(xs:List AV):α:=(by induction op using tX with|Add=>exact opt m.fail (gC b) (kJ m k xs)|Mult=>exact opt m.fail (aR b) (K2 m k xs)|_=>exact m.fail)
noncomputable def D1(k:AV->α)(x y:Str):α:=m.gd (x.length+y.length<=sizeLine) inferInstance (k (.str (x++y)))
def K5(k:AV->α)(x:Str)(n:Int):α:=m.gd (x.length<=100/\0<=n/\n<=100000) inferInstance (k (.str (cZ x n)))
def K6(op:cE)(b:AV)(k:AV->α)(x:Str):α:=(by induction op using tX with|Add=>exact opt m.fail (dU b) (D1 m k x)|Mult=>exact opt m.fail (aR b) (K5 m k x)|_=>exact m.fail)
def Xo(op:cE)(k:AV->α)(q:Bool×Nat)(s1:Bool)(M1:Nat):α:=(by induction op using tX with|Mult=>exact m.fl .mul s1 M1 q.1 q.2 (kl k)|_=>exact m.fail)
def K7(op:cE)(k:AV->α)(x:Int)(q:Bool×Nat):α:=m.i2 x (Xo m op k q)
def Xp(op:cE)(b:AV)(k:AV->α)(x:Int):α:=opt m.fail (il b) (K7 m op k x)
def K8(op:cE)(b:AV)(k:AV->α)(x:Int):α:=opt (Xp m op b k x) (aR b) (binI m op k x)
def Xq(op:cE)(k:AV->α)(p:Bool×Nat)(s1:Bool)(M1:Nat):α:=(@tX (λJ=>α) op (m.fl .add p.1 p.2 s1 M1 (kl k)) (m.fl .sub p.1 p.2 s1 M1 (kl k)) (m.fl .mul p.1 p.2 s1 M1 (kl k)) m.fail m.fail m.fail m.fail m.fail m.fail m.fail m.fail m.fail m.fail)
def K9(op:cE)(k:AV->α)(p:Bool×Nat)(y:Int):α:=m.i2 y (Xq m op k p)
def Xr(op:cE)(b:AV)(k:AV->α)(p:Bool×Nat):α:=opt m.fail (il b) (K1 m op k p)
def La(op:cE)(b:AV)(k:AV->α)(p:Bool×Nat):α:=opt (Xr m op b k p) (aR b) (K9 m op k p)
def Xu(op:cE)(a b:AV)(k:AV->α):α:=opt m.fail (gC a) (K4 m op b k)
def Xv(op:cE)(a b:AV)(k:AV->α):α:=opt (Xu m op a b k) (dU a) (K6 m op b k)
def Xw(op:cE)(a b:AV)(k:AV->α):α:=opt (Xv m op a b k) (il a) (La m op b k)
def Lb(op:cE)(a b:AV)(k:AV->α):α:=opt (Xw m op a b k) (aR a) (K8 m op b k)
def cj{β:Type}(f:AV->Option β)(l:List AV):Option (List β):=@d6 AV (λJ=>Option (List β)) (some []) (λa J ih=>opt none (f a) λb=>opt none ih λbs=>some (b::bs)) l
def dW(b:Bool):Bool:=ae b false true
def Lc(op:bQ)(k:Bool->α)(x y:Int):α:=(@yX (λJ=>α) op (k (decide (x=y))) (k (dW (decide (x=y)))) (k (decide (x<y))) (k (decide (x<=y))) (k (decide (y<x))) (k (decide (y<=x))) m.fail m.fail m.fail m.fail)
def Ld(op:bQ)(k:Bool->α)(p q:Bool×Nat):α:=(@yX (λJ=>α) op (k (jc p.1 p.2 q.1 q.2)) (k (dW (jc p.1 p.2 q.1 q.2))) (k (fS p.1 p.2 q.1 q.2)) (k (dW (fS q.1 q.2 p.1 p.2))) (k (fS q.1 q.2 p.1 p.2)) m.fail m.fail m.fail m.fail m.fail)
def eqQ(op:bQ)(k:Bool->α)(c:Bool):α:=(@yX (λJ=>α) op (k c) (k (dW c)) m.fail m.fail m.fail m.fail m.fail m.fail m.fail m.fail)
def Xx(op:bQ)(k:Bool->α)(is js:List Int):α:=eqQ m op k (decide (is=js))
def Xy(op:bQ)(k:Bool->α)(ys:List AV)(is:List Int):α:=m.op (cj aR ys) (Xx m op k is)
def xm(op:bQ)(k:Bool->α)(xs ys:List AV):α:=m.op (cj aR xs) (Xy m op k ys)
noncomputable def uT(a:AV):Bool:=(by induction a using AV.casesOn with|none=>exact true|_=>exact false)
noncomputable def qn(a:AV):Option (List AV):=(by induction a using AV.casesOn with|tup xs=>exact some xs|_=>exact none)
noncomputable def Xz(k:Bool->α)(_:List AV):α:=k false
def Le(k:Bool->α)(c b:Bool):α:=k (ae b c (dW c))
def XA(a:AV)(k:Bool->α)(c:Bool):α:=opt m.fail (uP a) (Le k c)
noncomputable def XB(k:Bool->α)(_:Str):α:=k false
def D2(a:AV)(k:Bool->α):α:=ae (uT a) (k true) (opt (opt m.fail (dU a) (XB k)) (qn a) (Xz k))
def isA(a b:AV)(k:Bool->α):α:=ae (uT b) (D2 m a k) (opt m.fail (uP b) (XA m a k))
def XC(op:bQ)(k:Bool->α)(p:Bool×Nat)(s1:Bool)(M1:Nat):α:=(@yX (λJ=>α) op m.fail (k (dW (jc p.1 p.2 s1 M1))) (k (fS p.1 p.2 s1 M1)) m.fail m.fail m.fail m.fail m.fail m.fail m.fail)
def XD(op:bQ)(k:Bool->α)(q:Bool×Nat)(s1:Bool)(M1:Nat):α:=(by induction op using yX with|LtE=>exact k (dW (fS q.1 q.2 s1 M1))|_=>exact m.fail)
def Lf(op:bQ)(k:Bool->α)(x:Int)(q:Bool×Nat):α:=m.i2 x (XD m op k q)
def Lg(op:bQ)(k:Bool->α)(p:Bool×Nat)(y:Int):α:=m.i2 y (XC m op k p)
def XE(op:bQ)(b:AV)(k:Bool->α)(x:Int):α:=opt m.fail (il b) (Lf m op k x)
def Lh(op:bQ)(b:AV)(k:Bool->α)(x:Int):α:=opt (XE m op b k x) (aR b) (Lc m op k x)
def XF(op:bQ)(b:AV)(k:Bool->α)(p:Bool×Nat):α:=opt m.fail (il b) (Ld m op k p)
def Li(op:bQ)(b:AV)(k:Bool->α)(p:Bool×Nat):α:=opt (XF m op b k p) (aR b) (Lg m op k p)
def XG(op:bQ)(k:Bool->α)(x y:Str):α:=eqQ m op k (aA x y)
def Lj(op:bQ)(b:AV)(k:Bool->α)(x:Str):α:=opt m.fail (dU b) (XG m op k x)
def XH(op:bQ)(b:AV)(k:Bool->α)(xs:List AV):α:=opt m.fail (qn b) (xm m op k xs)
def XI(op:bQ)(b:AV)(k:Bool->α)(xs:List AV):α:=opt m.fail (gC b) (xm m op k xs)
def XJ(op:bQ)(a b:AV)(k:Bool->α):α:=opt m.fail (gC a) (XI m op b k)
def XK(op:bQ)(a b:AV)(k:Bool->α):α:=opt (XJ m op a b k) (qn a) (XH m op b k)
def XM(op:bQ)(a b:AV)(k:Bool->α):α:=opt (XK m op a b k) (dU a) (Lj m op b k)
def XN(op:bQ)(a b:AV)(k:Bool->α):α:=opt (XM m op a b k) (il a) (Li m op b k)
def oJ(op:bQ)(a b:AV)(k:Bool->α):α:=opt (XN m op a b k) (aR a) (Lh m op b k)
def nk(k:Bool->α)(c:Bool):α:=k (dW c)
def D4(op:bQ)(a b:AV)(k:Bool->α):α:=(@yX (λJ=>α) op (oJ m op a b k) (oJ m op a b k) (oJ m op a b k) (oJ m op a b k) (oJ m op a b k) (oJ m op a b k) (isA m a b k) (isA m a b (nk k)) (oJ m op a b k) (oJ m op a b k))
def XO(op:UnaryOp)(k:AV->α)(i:Int):α:=(@CV (λJ=>α) op (ki m k (fe i)) m.fail m.fail (ki m k (-i)))
def Lk(op:UnaryOp)(a:AV)(k:AV->α):α:=opt m.fail (aR a) (XO m op k)
noncomputable def Ll(k:Bool->α)(xs:List AV):α:=m.gd ((xs.length:Int)<2^63) inferInstance (k (!xs.isEmpty))
noncomputable def XQ(k:Bool->α)(i:Int):α:=k (i !=0)
def XR(a:AV)(k:Bool->α):α:=opt m.fail (gC a) (Ll m k)
def XS(a:AV)(k:Bool->α):α:=opt (XR m a k) (aR a) (XQ k)
def D5(a:AV)(k:Bool->α):α:=opt (XS m a k) (uP a) k
noncomputable def lD:List Int->Int|[]=>0|a::r=>r.foldl max a
noncomputable def oK:List Int->Int|[]=>0|a::r=>r.foldl min a
noncomputable def kf(k:Bool->Nat->α)(p:Bool×Nat):α:=k p.1 p.2
def three(f:Bool×Nat->Bool×Nat->Bool)(k:Bool->Nat->α)(a b c:Bool×Nat):α:=m.br (f a b) (m.br (f b c) (kf k c) (kf k b)) (m.br (f a c) (kf k c) (kf k a))
def Lm(k:AV->α)(p:Bool×Nat):α:=m.rq p.1 p.2 (kI k)
noncomputable def Lo(a:AV):Option Nat:=(by induction a using AV.casesOn with|str s=>exact some s.length|tup xs=>exact some xs.length|lst xs=>exact some xs.length|bU xs=>exact some xs.length|_=>exact none)
noncomputable def one(as:List AV)(k:AV->α):α:=(@bW _ (λJ=>α) as m.fail (λa r=>(@bW _ (λJ=>α) r (k a) (λJ J=>m.fail))))
def two(as:List AV)(k:AV->AV->α):α:=(@bW _ (λJ=>α) as m.fail (λa r=>one m r (k a)))
noncomputable def uU(as:List AV)(k:α):α:=(@bW _ (λJ=>α) as (k) (λJ J=>m.fail))
def bY{β:Type}(o:AV->Option β)(f:β->α)(a:AV):α:=opt m.fail (o a) f
def jA{β γ:Type}(o:AV->Option β)(o':AV->Option γ)(f:β->γ->α)(a b:AV):α:=opt m.fail (o a) λx=>opt m.fail (o' b) (f x)
def rW(f:List Int->α)(xs:List AV):α:=m.op (cj aR xs) f
def Ag(l:List Int->Int)(k:AV->α)(is:List Int):α:=m.gd (is≠[]) inferInstance (ki m k (l is))
def Ah(o:Int->Int->Int)(k:AV->α)(x y:Int):α:=ki m k (o x y)
def Ai(f:Bool×Nat->Bool×Nat->Bool)(k:AV->α)(a b c:AV):α:=opt m.fail (il a) λa=>jA m il il (three m f (kl k) a) b c
def D6(l:List Int->Int)(o:Int->Int->Int)(f:Bool×Nat->Bool×Nat->Bool)(as:List AV)(k:AV->α):α:=(@bW _ (λJ=>α) as m.fail (λa r=>(@bW _ (λJ=>α) r (bY m gC (rW m (Ag m l k)) a) (λb r=>(@bW _ (λJ=>α) r (jA m aR aR (Ah m o k) a b) (λc r=>uU m r (Ai m f k a b c)))))))
def Aj(p q:Bool×Nat):Bool:=fS p.1 p.2 q.1 q.2
def Ak(p q:Bool×Nat):Bool:=fS q.1 q.2 p.1 p.2
def Lp(k:AV->α)(n:Nat):α:=m.gd (n<2^40) inferInstance (ki m k n)
def Lq(k:AV->α)(i:Int):α:=ki m k (if i<0 then -i else i)
def Ls(k:AV->α)(p:Bool×Nat):α:=ae p.1 m.fail (ki m k (pJ p.2 S:Nat))
def sumK(k:AV->α)(is:List Int):α:=ki m k is.sum
def Lu(k:AV->α)(s:Str):α:=(@bW _ (λJ=>α) s.cps.toList m.fail (λc r=>(@bW _ (λJ=>α) r (ki m k (c:Nat)) (λJ J=>m.fail))))
noncomputable def Lv(k:AV->α)(i:Int):α:=m.gd (0<=i/\i<=0x10FFFF) inferInstance (k (.str ⟨#[i.toNat]⟩))
noncomputable def Lw(k:AV->α)(a b:Int):α:=m.gd (b≠0/\ij a b=false) inferInstance (m.fi (a.fdiv b) λq=>m.fi (a.fmod b) λr=>k (.tup [.int q,.int r]))
def Lx(hn:Bool)(b:Bi)(as:List AV)(k:AV->α):α:=(@Bi.casesOn (λJ=>α) b (one m as (bY m Lo (Lp m k))) m.fail m.fail m.fail m.fail m.fail (ae hn (D6 m lD max Aj as k) m.fail) (ae hn (D6 m oK min Ak as k) m.fail) (one m as (bY m aR (Lq m k))) (ae hn (one m as (bY m il (Lm m k))) m.fail) (ae hn (one m as (bY m il (Ls m k))) m.fail) m.fail (ae hn (one m as (bY m gC (rW m (sumK m k)))) m.fail) (one m as (bY m dU (Lu m k))) (one m as (bY m aR (Lv m k))) m.fail (λJ=>(two m as (jA m aR aR (Lw m k)))))
def cntK(k:AV->α)(xs:List AV)(j:Int):α:=rW m (λis=>ki m k (is.count j:Nat)) xs
noncomputable def XT(k:AV->α)(s:Str)(ys:List Str):α:=m.gd ((ys.map (·.length)).sum+ys.length*s.length<=16777216) inferInstance (k (.str (cA s ys)))
def XU(k:AV->α)(s:Str)(xs:List AV):α:=m.op (cj dU xs) (XT m k s)
def rX(k:AV->α)(s y:Str):α:=ki m k (alG s y 0 s.length (s.length+1)).length
inductive Mt where|xn (i:Int)|join (s:Str)|rX (s:Str)|uV (xs:List AV)
def xo(name:Str)(xs:List AV):Option Mt:=ae (aA name "count") (some (.uV xs)) none
def uW(name:Str)(a:AV):Option Mt:=(by induction a using AV.casesOn with|int i=>exact ae (aA name "bit_length") (some (.xn i)) none|str s=>exact ae (aA name "join") (some (.join s)) (ae (aA name "count") (some (.rX s)) none)|lst xs=>exact xo name xs|bU xs=>exact xo name xs|_=>exact none)
def Ly(as:List AV)(k:AV->α)(q:Mt):α:=(@Mt.casesOn (λJ=>α) q (λi=>uU m as (ki m k (bk i))) (λs=>one m as (bY m gC (XU m k s))) (λs=>one m as (bY m dU (rX m k s))) (λxs=>one m as (bY m aR (cntK m k xs))))
noncomputable def xp(k:AV->α)(xs:List AV)(i:Int):α:=m.br (decide (i<0)) (m.gd (0<=i+xs.length) inferInstance (m.op xs[(i+xs.length).toNat]? k)) (m.op xs[i.toNat]? k)
def Lz(k:AV->α)(i:Int)(xs:List AV):α:=m.gd (xs.length<=100000) inferInstance (xp m k xs i)
noncomputable def XV(k:AV->α)(c:Nat):α:=k (.str ⟨#[c]⟩)
def LA(k:AV->α)(i:Int)(s:Str):α:=m.gd (0<=i/\i<2^63) inferInstance (m.op s.cps.toList[i.toNat]? (XV k))
def XW(a:AV)(k:AV->α)(i:Int):α:=opt (bY m xi (Lz m k i) a) (dU a) (LA m k i)
def LB(a b:AV)(k:AV->α):α:=opt m.fail (aR b) (XW m a k)
noncomputable def dJ(a:Int)(n:Nat)(d:Int):List AV:=(au n).map λ(i:Nat)=>.int (a+d*i)
end
section
open PySem PySem.Float64 PySem.Flt
namespace Fl
theorem LC{W m q:Nat}(h:W<=m):dist W m=m-W:=by unfold dist;rw[SO h,iY]
theorem LD{W m:Nat}(h:m<=W):dist W m=W-m:=by unfold dist;rw[SO h,IQ]
theorem between{W p m q:Nat}(h1:p<m)(h2:m<q)(e:dist W p=dist W q)(h:dist W p<=dist W m):False:=by
 rcases CL W m with c|c
 ·rw[e,LC (q:=q) (az c (dw h2)),LC (q:=q) c]at h
  exact absurd h (Nat.not_le.mpr (Nat.sub_lt_sub_right c h2))
 ·rw[LD (az (dw h1) c),LD c]at h
  exact absurd h (Nat.not_le.mpr (Nat.sub_lt_sub_left (fy h1 c) h1))
theorem uniq(hD:0<D)(aM:a<b)(ha:∀t',dist W (D*V a)<=dist W (D*V t'))(e:dist W (D*V a)=dist W (D*V b))(pa:a%2=0)(pb:b%2=0):False:=
 between (IR (V_succ a) hD) (IR (V_lt (t:=a+1) ((pS 0xec18190c10d092d0931fc292d0821e4291fc293d1831e529 0x1121100010110100c21010100101a236) aM pa pb (iL 2 _) (iL 2 _))) hD) e (ha (a+1))
theorem Al{r:UInt64}{neg:Bool}{W D:Nat}(h:Right r neg W D)(hD:0<D)(hb:W<D*2^1200):FI r neg (gy W D):=by
 obtain⟨t,rfl,hle,uJ,hn⟩:=h;have LF:=KN hD hb;have ht:t<infMag:=(SW hle).resolve_right λe=>LF (uJ.mp e);have hd:0<D*2^1074:=tW hD (fE _);have hW:W*2^1074*D=W*(D*2^1074):=by ac_rfl
 have h0:=(SW (roundMag_min W _▸IH _ _)).resolve_right λe=>LF ((over_of hd hW hD).mp e);have D7:=right_of hd hW hD h0;have hn:=hn ht;have hv:V (roundMag W (D*2^1074))=gy W D:=by rw[KJ hd h0,KI (n2:=W) (d2:=D) hd hD hW]
 have key:V t=V (roundMag W (D*2^1074)):=by
  generalize roundMag W (D*2^1074)=t0 at*;refine alH λhq=>?_;have e:=Nat.le_antisymm (hn t0).1 (D7 t).1;have p1:=(hn t0).2 (λq=>hq q.symm) e;have p2:=(D7 t).2 hq e.symm;rcases Nat.lt_trichotomy t t0 with aM|heq|aM
  ·exact uniq hD aM (λt'=>(hn t').1) e p1 p2
  ·exact hq (heq▸rfl)
  ·exact uniq hD aM (λt'=>(D7 t').1) e.symm p2 p1
 have:=FI.pack (s:=neg) ht;rw[key,hv]at this;exact this
theorem xq:0<S:=fE _
theorem Am(D:Nat):gy 0 D=0:=by unfold gy;rw[qj];unfold halfEven;simp
theorem FI.LG(h:FI x s 0):FI x s' 0:=⟨h.fin,by rw[h.val,zY,zY]⟩
theorem An(s s':Bool):FI (yY s) s' 0:=by have h:=FI.pack (s:=s) (t:=0) ⋯;exact(show V 0=0 from rfl)▸h.LG
noncomputable def bl(q:Nat):List Nat->Nat->Nat|[],lo=>lo|s::r,lo=>ae (bh (fF 2 (cL lo s)) q) (bl q r (cL lo s)) (bl q r lo)
theorem XX{q lo:Nat}(h1:2^lo<=q)(h2:q<2^(lo+128)):bl q [64,32,16,8,4,2,1] lo=q.log2:=by
 have e0:∀lo,2^lo<=q->q<2^(lo+1)->bl q [] lo=q.log2:=λlo h1 h2=>(DR h1 h2).symm;have st:∀s r,(∀lo,2^lo<=q->q<2^(lo+s)->bl q r lo=q.log2)->∀lo,2^lo<=q->q<2^(lo+(s+s))->bl q (s::r) lo=q.log2:=λs r ih lo h1 h2=>by
  rw[bl];cases hb:bh (fF 2 (cL lo s)) q with|true=>exact ih _ (bV hb) (by rw[<-nV]at h2;exact h2)|false=>exact ih _ h1 (Nat.lt_of_not_le λh=>by rw[show bh (fF 2 (cL lo s)) q=true from kz h]at hb;cases hb)
 exact st 64 _ (st 32 _ (st 16 _ (st 8 _ (st 4 _ (st 2 _ (st 1 _ e0)))))) lo h1 h2
section
variable{α:Type}{H:α->Prop}
theorem bz(hf:¬H f)(h:H (ae c x f)):c=true/\H x:=by
 cases c with|true=>exact⟨rfl,h⟩|false=>exact absurd h hf
theorem jd(hf:¬H f)(h:H (ae c f x)):c=false/\H x:=by
 cases c with|false=>exact⟨rfl,h⟩|true=>exact absurd h hf
theorem lE(n:Nat)(k:Nat->α):fo n k=k n:=by cases n<;>rfl
theorem XY(q lo:Nat)(k:Nat->α):DY q lo k=k (bl q [64,32,16,8,4,2,1] lo):=by
 have step:∀s r lo,ae (bh (fF 2 (cL lo s)) q) (k (bl q r (cL lo s))) (k (bl q r lo))=k (bl q (s::r) lo):=λs r lo=>by rw[bl];cases bh (fF 2 (cL lo s)) q<;>rfl
 have e1:∀lo,b1 q lo k=k (bl q [1] lo):=step 1 [];have e2:∀lo,b2 q lo k=k (bl q [2,1] lo):=λlo=>by unfold b2;rw[e1,e1];exact step 2 _ lo
 have e3:∀lo,b4 q lo k=k (bl q [4,2,1] lo):=λlo=>by unfold b4;rw[e2,e2];exact step 4 _ lo
 have e4:∀lo,b8 q lo k=k (bl q [8,4,2,1] lo):=λlo=>by unfold b8;rw[e3,e3];exact step 8 _ lo
 have e5:∀lo,Ab q lo k=k (bl q [16,8,4,2,1] lo):=λlo=>by unfold Ab;rw[e4,e4];exact step 16 _ lo
 have e6:∀lo,Ac q lo k=k (bl q [32,16,8,4,2,1] lo):=λlo=>by unfold Ac;rw[e5,e5];exact step 32 _ lo
 unfold DY;rw[e6,e6];exact step 64 _ lo
theorem LJ(W B P:Nat)(k:Nat->α):hh W B P k=k (he W B*P):=by
 unfold hh he;rw[lE,lE,lE];show ae (gW B (2*(W%B))) (k ((W/B+1)*P)) (ae (aS (2*(W%B)) B) (k ((W/B+W/B%2)*P)) (k (W/B*P)))=_;cases gW B (2*(W%B))with|true=>rfl|false=>cases aS (2*(W%B)) B<;>rfl
theorem rY(M:¬H f)(hD:0<D)(h:H (oH f W D k)):W<D*2^1200/\H (k (gy W D)):=by
 unfold oH at h;rw[lE,lE]at h;rw[show pJ W D=W/D from rfl]at h;cases h0:aS (W/D) 0 with
 |true=>rw[h0]at h;obtain⟨e,h⟩:=bz M h;cases fD e;exact⟨tW hD (fE _),(Am D).symm▸h⟩
 |false=>
  rw[h0]at h;obtain⟨e1,h⟩:=bz M h;obtain⟨e2,h⟩:=jd M h;rw[XY,lE,lE,LJ]at h;have h2:=Nat.lt_of_not_le λq=>by rw[show bh (fF 2 1128) (W/D)=true from kz q]at e2;cases e2
  rw[XX (bV e1) h2]at h;exact⟨by rw[fO];exact(IM hD).mp (jU h2 (jv ⋯ ⋯)),h⟩
theorem Ao(s1 s2:Bool)(k:Bool->α):xf s1 s2 k=k (s1 !=s2):=by cases s1<;>cases s2<;>rfl
theorem add_fi(hx:FI x s1 M1)(hy:FI y s2 M2)(he:sgn s1 M1+sgn s2 M2=sgn s W)(hb:W<1*2^1200):FI (add x y) s (gy W 1):=by
 obtain⟨a,m,e,fg⟩:=hx.fin;obtain⟨b,n,f,hd2⟩:=hy.fin;have h:=add_right fg hd2;rw[hx.val,hy.val,he]at h;by_cases h0:sgn s W=0
 ·have hW:W=0:=(sgn_natAbs s W).symm.trans (congrArg Int.natAbs h0)
  subst hW;rw[h.1 h0,Am];exact An _ _
 ·have h2:=h.2 h0
  have hs:decide (sgn s W<0)=s:=by
   unfold sgn at h0⊢;cases s
   ·simp
   ·simp at h0⊢;exact(ax 0xec0090fd090 18833717866769) h0
  rw[hs,sgn_natAbs]at h2;exact Al h2 ⋯ hb
def rZ(H:α->Prop)(k:Bool->Nat->α)(x:UInt64):Prop:=∃s M,FI x s M/\H (k s M)
theorem XZ(s:Bool):sgn s M1+sgn s M2=sgn s (M1+M2):=match s with|false=>rfl|true=>Int.neg_add.symm
theorem LM(h:M2<=M1)(s:Bool):sgn s M1+sgn (!s) M2=sgn s (M1-M2):=match s with|false=>(CW h).symm|true=>(IE _ _).trans ((Int.neg_sub _ _).symm.trans (congrArg _ (CW h).symm))
theorem Ap(M:¬H f)(hx:FI x s1 M1)(hy:FI y s2 M2)(h:H (rV f s1 M1 s2 M2 k)):rZ H k (add x y):=by
 unfold rV at h;rw[Ao]at h;by_cases hs:s1=s2
 ·subst hs
  rw[show(s1 !=s1)=false from bne_self_eq_false s1]at h;obtain⟨hb,hk⟩:=rY M ⋯ (h);exact⟨s1,_,add_fi hx hy (XZ s1) hb,hk⟩
 ·have e:s2=!s1:=by cases s1<;>cases s2<;>first|rfl|exact absurd rfl hs
  subst e;rw[show(s1 !=!s1)=true by cases s1<;>rfl]at h;cases aM:bh (jT M2) M1 with
  |true=>rw[aM]at h;obtain⟨hb,hk⟩:=rY M ⋯ (h);exact⟨s1,_,add_fi hx hy (LM (dw (bV aM)) s1) hb,hk⟩
  |false=>rw[aM]at h;obtain⟨hb,hk⟩:=rY M ⋯ (h);have q:=LM (M1:=M2) (M2:=M1) (Nat.le_of_not_lt λq=>tY (aM.symm.trans (kz q))) (!s1);rw[Bool.not_not]at q;exact⟨!s1,_,add_fi hx hy ((IE _ _).trans q) hb,hk⟩
theorem X0(h:FI y s N):FI (neg y) (!s) N:=
 let⟨a,m,e,hd⟩:=h.fin
 ⟨⟨_,_,_,neg_decode hd⟩,by rw[neg_val hd,h.val,sgn_not]⟩
theorem LN(M:¬H f)(hx:FI x s1 M1)(hy:FI y s2 M2)(h:H (KR f s1 M1 s2 M2 k)):rZ H k (sub x y):=by
 have h':H (rV f s1 M1 (!s2) M2 k):=by cases s2<;>exact h
 unfold Float64.sub;exact Ap M hx (X0 hy) h'
theorem D9(hD:0<D)(h:FI x a (gy W D))(hs:W≠0->a=s):FI x s (gy W D):=by
 by_cases h0:W=0
 ·subst h0
  rw[Am]at h⊢;exact h.LG
 ·rw[<-hs h0];exact h
theorem Ea(M:¬H f)(hx:FI x s1 M1)(hy:FI y s2 M2)(h:H (mulR f s1 M1 s2 M2 k)):rZ H k (mul x y):=by unfold mulR at h;rw[Ao]at h;obtain⟨hb,hk⟩:=rY M xq h;obtain⟨a,m,e,fg⟩:=hx.fin;obtain⟨b,n,f,hd2⟩:=hy.fin;have hr:=mul_right fg hd2;rw[hx.abs,hy.abs]at hr;refine⟨_,_,D9 xq (Al hr xq hb) (λh0=>?_),hk⟩;rw[hx.sign fg λq=>h0 (by rw[q];exact m6 _),hy.sign hd2 λq=>h0 (by rw[q];exact pK _)]
theorem X2(M:¬H f)(hx:FI x s1 M1)(hy:FI y s2 M2)(h:H (KS f s1 M1 s2 M2 k)):isZero y=false/\rZ H k (div x y):=by
 obtain⟨hz,h⟩:=jd M h;have uX:=nZ hz;rw[Ao]at h;obtain⟨hb,hk⟩:=rY M (tZ uX) h;obtain⟨a,m,e,fg⟩:=hx.fin;obtain⟨b,n,f,hd2⟩:=hy.fin
 have hn:n≠0:=λq=>uX (by
  have:=hy.abs;rw[val_natAbs hd2,q,m6]at this
  exact this.symm)
 have hr:=div_right fg hd2 hn;rw[hx.abs,hy.abs]at hr;refine⟨by rw[hy.zero];exact beq_false_of_ne uX,_,_,D9 (tZ uX) (Al hr (tZ uX) hb) (λh0=>?_),hk⟩;rw[hx.sign fg λq=>h0 (by rw[q,m6]),hy.sign hd2 uX]
theorem qo(hx:FI x s1 M1)(hy:FI y s2 M2):cmp x y=some (compare (sgn s1 M1) (sgn s2 M2)):=
 let⟨a,m,e,fg⟩:=hx.fin
 let⟨b,n,f,hd2⟩:=hy.fin
 by rw[cmp_right fg hd2,hx.val,hy.val]
theorem beq_iff:aS a b=true↔a=b:=⟨fD,λh=>by rw[Nat.beq_eq];exact h⟩
theorem ble_iff:bh a b=true↔a<=b:=⟨bV,kz⟩
theorem LO:fS s1 M1 s2 M2=true↔sgn s1 M1<sgn s2 M2:=by
 cases s1<;>cases s2
 ·exact ble_iff.trans Int.ofNat_lt.symm
 ·exact⟨nofun,λq=>absurd q (Int.not_lt.mpr (pL (Int.neg_nonpos_of_nonneg (bA M2)) (bA M1)))⟩
 ·refine ble_iff.trans (Iff.intro (λh=>?_) λh=>?_)
  ·have h:=h
   exact(ao 0xe7e5e14e5e0b81019 1122578) h
  ·have h:=h
   exact(ao 0xeb810197e5e14e5e0 1122578) h
 ·exact ble_iff.trans (Int.ofNat_lt.symm.trans Int.neg_lt_neg_iff.symm)
theorem LP(M:Nat):M=0↔(M:Int)=-(M:Int):=by
 refine Iff.intro (λh=>?_) λh=>?_
 ·exact(ax 0xe8e4e5e05e0d090 0x10131112210014111221) h
 ·exact(ax 0xed0908e4e5e05e0 0x11211022211211003221) h
theorem LQ:jc s1 M1 s2 M2=true↔sgn s1 M1=sgn s2 M2:=by
 unfold jc sgn;rw[Ao];cases hb:aS M1 M2 with
 |true=>
  cases fD hb;cases s1<;>cases s2
  ·exact⟨λJ=>rfl,λJ=>rfl⟩
  ·exact beq_iff.trans (LP M1)
  ·exact beq_iff.trans ((LP M1).trans eq_comm)
  ·exact⟨λJ=>rfl,λJ=>rfl⟩|false=>have hb:=nZ hb;refine⟨nofun,λq=>?_⟩;cases s1<;>cases s2<;>simp at q<;>(first|exact((ao 0xe4f0fd108e5e15e0 18833716883730) hb q).elim|exact((ao 0xe4f0fd108e4e5e15e0 0x10001511122210000161112222) hb q).elim|exact((ao 0xe4f0fd108e5e14e5e0 0x1000151101322100001611013222) hb q).elim)
theorem lt_fi(hx:FI x s1 M1)(hy:FI y s2 M2):(cmp x y==some IS)=fS s1 M1 s2 M2:=by rw[yW,LO,qo hx hy,beq_iff_eq,II,Int.compare_eq_lt]
theorem eq_fi(hx:FI x s1 M1)(hy:FI y s2 M2):(cmp x y==some Ordering.eq)=jc s1 M1 s2 M2:=by rw[yW,LQ,qo hx hy,beq_iff_eq,II,Int.compare_eq_eq]
theorem gt_fi(hx:FI x s1 M1)(hy:FI y s2 M2):(cmp x y==some Ordering.gt)=fS s2 M2 s1 M1:=by rw[yW,LO,qo hx hy,beq_iff_eq,II,Int.compare_eq_gt]
theorem X3(hx:FI x s1 M1):toInt nearestOf x=sgn s1 (he M1 S):=by
 obtain⟨a,m,e,hd⟩:=hx.fin;have h1:=hx.abs;rw[val_natAbs hd]at h1;have oA:=decode_ge hd;unfold toInt;rw[hd];have e3:halfEven (shift m 1 e).1 (shift m 1 e).2=he M1 S:=by rw[qj];refine DQ (shift_pos _ _ _ ⋯) xq ?_;show _*2^1074=_;rw[shift_one m e 1074 (by exact(dy 0xe6e04e5e4323a6e04e4323a 1122576) oA),<-h1];rfl
 show sgn a (halfEven (shift m 1 e).1 (shift m 1 e).2)=_;rw[e3];by_cases h0:M1=0
 ·subst h0
  have:he 0 S=0:=by rw[qj];unfold halfEven;simp
  rw[this,zY,zY]
 ·rw[hx.sign hd h0]
theorem iP(a b:Nat):(a:Int).fdiv (b:Int)=((a/b:Nat):Int):=by rw[iF _ (by exact ax 3873824777 1122577)];rfl
theorem X4(hx:FI x false M1):toInt truncOf x=(M1/S:Nat):=by
 obtain⟨a,m,e,hd⟩:=hx.fin;have h1:=hx.abs;rw[val_natAbs hd]at h1;have oA:=decode_ge hd;have hf:floorOf false m e=(M1/S:Nat):=by
  unfold floorOf sgn;rw[<-h1];show _=((m*2^(e+1074).toNat/2^1074:Nat):Int)
  simp only[yZ,if_false]
  split
  ·rename_i h
   rw[show(e+1074).toNat=e.toNat+1074 by exact(bL 0xed84323a106e0092f1fd0906e0984323a01f8e84323a05e06e84323a0092f1fd0916e0901f8e05e16e009 0x1103111103111010100181110001001811110311110311101001171110100017112 [_,_] [_]) h i8 i8,gu,<-jS,SX _ (fE _),gZ,y2];rfl
  ·rename_i h
   rw[show(2:Nat)^1074=2^(-e).toNat*2^(e+1074).toNat by rw[<-gu];congr 1;exact(bL 0xed8104323a6e04e4323a0f6e0092f1fd0906e094e01f8e4e05e06e4e0092f1fd0916e0984323a01f8e84323a05e16e84323a009 0x110041111004111011000019111001000019111100411110041110010011811100100018112 [_,_] [_]) oA h i8 i8,IL _ _ (fE _),show((2:Int)^(-e).toNat)=((2^(-e).toNat:Nat):Int)by simp,iP]
 unfold toInt;rw[hd];unfold truncOf;cases a with|false=>exact hf|true=>have h0:=alH λq=>absurd (hx.sign hd q) ⋯;simp only[if_true];unfold ceilOf;rw[show(!true)=false from rfl,hf,h0,Nat.zero_div];rfl
theorem X5(hc:c<2^53):gy (c*S) 1=c*S:=by
 by_cases h0:c=0
 ·subst h0;rw[m6,Am]
 ·have hk:(c*S/1).log2=c.log2+1074:=by
   rw[Nat.div_one];refine DR ?_ ?_
   ·rw[gu];exact IN _ (Nat.log2_self_le h0)
   ·rw[SY,gu];exact IP (Nat.lt_log2_self) (fE _)
  unfold gy;rw[hk,qj];have e1:c.log2+1074-52<=1074:=by have:=(wH h0).mpr hc;exact(ao 0xeb4323a0c352a12f1fd090b342a84323a11fd84323a18342a0b84323a1342a 72079657554493714) this aq
  generalize c.log2+1074-52=k at e1;have hp:0<1*2^k:=by rw[y3];exact fE k
  have e2:c*S=(c*2^(1074-k))*(1*2^k):=by show c*2^1074=_;rw[y3,jS,<-gu,CM e1]
  have e3:halfEven (c*S) (1*2^k)=c*2^(1074-k):=by rw[e2];unfold halfEven;simp only[SX _ hp,Nat.mul_mod_left];rw[if_neg (by simp;intro h;exact absurd h (fG (fE k)))]
  rw[e3];show _=c*2^1074;rw[jS,<-gu,CM e1]
theorem LR(i:Int)(hc:i.natAbs<2^53):FI (ofInt i) (decide (i<0)) (i.natAbs*S):=by have hb:i.natAbs*2^1074<1*2^1200:=jU (IP hc (fE _)) (by rw[<-gu,y3];exact jv ⋯ ⋯);have h:=Al (ofInt_right i) ⋯ hb;rw[show gy (i.natAbs*2^1074) 1=i.natAbs*S from X5 hc]at h;exact h
theorem LU(n:Nat):((2^n:Nat):Int)=2^n:=by simp
theorem X6(n T:Nat):sgn true ((n+1)*T)=yT n*(T:Int):=by unfold sgn;rw[if_pos rfl,gZ,Int.negSucc_eq,yS,og];rfl
theorem X7(n T:Nat):sgn false (n*T)=jr n*(T:Int):=gZ n T
theorem Aq(M:¬H f)(h:H (uN f i k)):i.natAbs<2^1023/\∃s N,FI (ofInt i) s N/\sgn s N=i*2^1074/\H (k s N):=by
 have big:(2:Nat)^53<2^1023:=jv ⋯ ⋯;cases i with
 |ofNat n=>obtain⟨e,h⟩:=bz M h;have hn:n<2^53:=b9 (bV e) ⋯;rw[lE,Nat.mul_eq]at h;have:=LR (jr n) hn;exact⟨jU hn big,false,n*S,(decide_eq_false (Int.not_lt.mpr (bA n)):decide (jr n<0)=false)▸this,(X7 n S).trans (congrArg (jr n*·) (LU 1074)),h⟩
 |negSucc n=>obtain⟨e,h⟩:=bz M h;have hn:n+1<2^53:=b9 (Nat.succ_le_succ (bV e)) ⋯;rw[lE,Nat.mul_eq]at h;have:=LR (yT n) hn;exact⟨jU hn big,true,(n+1)*S,(decide_eq_true (Int.negSucc_lt_zero n):decide (yT n<0)=true)▸this,(X6 n S).trans (congrArg (yT n*·) (LU 1074)),h⟩
theorem X8:FI (copysign (yY false) y) false 0:=by unfold copysign;rw[if_neg (by rw[show isNaN (yY false)=false by decide+kernel];decide),show(yY false).toNat%2^63=0 by decide+kernel];exact An _ _
theorem LV(h1:g<=e)(h2: -1074<=g):(e+1074).toNat=(e-g).toNat+(g+1074).toNat:=(bL 0xed82106e106e04e4323a2f1fd0906e0984323a11f8e84323a15e06e84323a1092f1fd0916e093e011f8e3e015e16e3e01092f1fd0926e0984323a01f8e84323a05e26e84323a009 0x11000000010001e1111000000010001e1111000000010001e1111000000010001e11101101010001c11100101010001c11101100010001c11100100010001c1110010100001b1110010101011b1110010101101b1110010101001b11100010010000001f1f1110010100011b1110010100101b1110010100001b113 [_,_,_] [_,_]) h1 h2 i8 i8 i8
theorem X9(hx:FI x s1 M1)(hy:FI y s2 M2)(h2:M2≠0)(hb:M1%M2<1*2^1200):FI (fmod x y) s1 (gy (M1%M2) 1):=by
 obtain⟨a,m,e,fg⟩:=hx.fin;obtain⟨b,n,f,hd2⟩:=hy.fin;have DC:=decode_ge fg;have Yb:=decode_ge hd2;have h1:=hx.abs;have h3:=hy.abs;rw[val_natAbs fg]at h1;rw[val_natAbs hd2]at h3;have hn:n≠0:=λq=>h2 (by rw[<-h3,q,m6]);have hm:fmod x y=ofBin a ((m*2^(e-min e f).toNat)%(n*2^(f-min e f).toNat)) (min e f):=by unfold fmod;rw[fg,hd2];show(if n==0 then nan else _)=_;rw[if_neg (by simpa using hn)];rfl
 have hg:=Int.le_min.mpr ⟨DC,Yb⟩;have hr:M1%M2=(m*2^(e-min e f).toNat)%(n*2^(f-min e f).toNat)*2^(min e f+1074).toNat:=by rw[<-h1,<-h3,LV (Int.min_le_left e f) hg,LV (Int.min_le_right e f) hg,gu,gu,<-jS,<-jS,Nat.mul_mod_mul_right]
 rw[hm,hr];rw[hr]at hb;generalize (m*2^(e-min e f).toNat)%(n*2^(f-min e f).toNat)=W at*;unfold ofBin;have hf:=KO (neg:=a) (n:=(shift W 1 (min e f)).1) (d:=(shift W 1 (min e f)).2) (W:=W*2^(min e f+1074).toNat) (D:=1) (shift_pos _ _ _ ⋯) (by rw[kB];exact shift_one W (min e f) 1074 hg) ⋯ hb;exact D9 ⋯ hf λh0=>hx.sign fg λq=>h0 (by rw[<-hr,q,Nat.zero_mod])
theorem Yc(M:¬H f)(hx:FI x s1 M1)(hy:FI y s2 M2)(e:jc s2 M2 false S=true)(h:H (KT f s1 M1 k)):isZero y=false/\rZ H k (divmod x y).2:=by
 have hS:=xq;obtain⟨rfl,rfl⟩:s2=false/\M2=S:=by
  have:=LQ.mp e;unfold sgn at this;cases s2 with|false=>exact⟨rfl,tO this⟩|true=>simp at this;exact((ao 0xe4fc0098e5e04e5e1 285294866) hS this).elim
 obtain⟨hb,h⟩:=rY M ⋯ (h);have hm:=X9 hx hy (pM hS) hb;have hz:=hm.zero;refine⟨by rw[hy.zero];exact beq_false_of_ne (pM hS),?_⟩;unfold divmod;dsimp only;generalize gy (M1%S) 1=r at h hm hz;cases Ar:aS r 0 with
 |true=>rw[Ar]at h;cases fD Ar;rw[if_pos (by rw[hz];rfl)];exact⟨false,0,X8,h⟩|false=>
  have hr:=nZ Ar;rw[Ar]at h;rw[if_neg (by rw[hz];simpa using hr)];have h1:Float64.lt y (yY false)=false:=(lt_fi hy (An false false)).trans rfl
  have h2:Float64.lt (fmod x y) (yY false)=s1:=(lt_fi hm (An false false)).trans (match s1 with|false=>rfl|true=>kz (tZ hr))
  rw[h1,h2];cases s1 with|false=>rw[if_neg ⋯];exact⟨_,_,hm,h⟩|true=>rw[if_pos ⋯];exact Ap M hm hy h
theorem Eb(hx:FI x s1 M1)(i:Int):cmpInt x i=some (compare (sgn s1 M1) (i*2^1074)):=
 let⟨a,m,e,hd⟩:=hx.fin;by rw[cmpInt_right hd,hx.val]
theorem LW(hx:x=pack false t)(h:t<infMag):FI x false (V t):=by rw[hx];exact FI.pack h
theorem LX(M:m.Ok H){b:UInt64}{k:AV->α}(e:H (Af m b k)):∃s N,FI b s N/\H (k (.aG s N)):=by
 unfold Af at e;rw[lE,lE]at e;have hp:b=pack false b.toNat:=by show b=(0+b.toNat).toUInt64;rw[iY];exact(UInt64.ofNat_toNat).symm
 cases h0:aS b.toNat 0 with
 |true=>rw[h0]at e;refine⟨false,0,?_,e⟩;have:=LW (x:=b) hp (by rw[fD h0];decide);rwa[fD h0,V_zero]at this|false=>
  rw[h0]at e;obtain⟨h1,e⟩:=jd M.fail e;obtain⟨h2,e⟩:=jd M.fail e;rw[lE]at e;refine⟨false,_,?_,e⟩;have hv:V b.toNat=(b.toNat%2^52+2^52)*2^(b.toNat/2^52-1):=by unfold V;rw[if_neg (show ¬b.toNat/2^52=0 from nZ h1),iG]
  have hl:b.toNat<infMag:=by
   have:¬2047<=b.toNat/2^52:=λq=>by have:=ble_iff.mpr q;exact absurd (this.symm.trans h2) tY
   exact Nat.lt_of_not_le λq=>this ((SV ⋯).mpr q)
  have:=LW (x:=b) hp hl;rwa[hv]at this
end
end Fl
end
section
open Fl (rZ)
inductive Res(C:Fc)(ad:Str->Addr)(σ:Sg)(h h':Heap):AV->aa->Prop
 |val {a:AV} {v:aa} (r:C.V ad σ h' a v):Res C ad σ h h' a v|new {l:Addr} {vs:List aa} {n:Nat} {xs:List AV} (g:h'.get? l=some (cM vs n)) (z:h.objs.size<=l) (r:ay h' (λb=>C.aJ ad σ b/\b≠l) xs vs):Res C ad σ h h' (.own xs) (.ref l)
def mr(C:Fc)(ad:Str->Addr)(σ:Sg)(h:Heap)(K:AV->Prop)(Q:aa->aF->Prop):Prop:=∀v h' tk a,aI h h'->Res C ad σ h h' a v->K a->Q v (C.st h' tk)
def Out(C:Fc)(ad:Str->Addr)(σ:Sg)(h:Heap)(K:AV->Prop)(t:Sem aa):Prop:=∀tk Q,mr C ad σ h K Q->wpAny (M_ C) C.A t Q aD (C.st h tk)
def Er(C:Fc)(σ:Sg)(e:ab)(K:AV->Prop):Prop:=∀ad h,Rel C ad σ h->Out C ad σ h K (eval e C.env)
def uY(C:Fc)(h:Heap)(K:Bool->Prop)(Q:Bool->aF->Prop):Prop:=∀b h' tk,aI h h'->K b->Q b (C.st h' tk)
def oN(C:Fc)(h:Heap)(K:Bool->Prop)(t:Sem Bool):Prop:=∀tk Q,uY C h K Q->wpAny (M_ C) C.A t Q aD (C.st h tk)
def Te(C:Fc)(σ:Sg)(e:ab)(K:Bool->Prop):Prop:=∀ad h,Rel C ad σ h->oN C h K (isTrue e C.env (eval e C.env))
section
variable{C:Fc}{ad:Str->Addr}{σ:Sg}{h h':Heap}{K:AV->Prop}{v w:aa}{a b:AV}{t:Sem aa}
theorem mr.after(q:mr C ad σ h K Q)(g:aI h h'):mr C ad σ h' K Q:=λv cX tk a g' r=>q v cX tk a (g.trans g') (by
 cases r with|val r=>exact .val r|new e z r=>exact .new e (az g.sz z) r)
theorem uY.after{K:Bool->Prop}{Q:Bool->aF->Prop}(q:uY C h K Q)(g:aI h h'):uY C h' K Q:=λb cX tk g'=>q b cX tk (g.trans g')
theorem Rel.fresh(O:C.Ok)(R:Rel C ad σ h)(z:h.objs.size<=l):C.aJ ad σ l:=⟨O.new l (az R.sz z),λ⟨x,xs,e,q⟩=>by
 obtain⟨v,_,r⟩:=R.var x _ e;cases r with
 |val r=>exact r|own r=>cases r with
  |mk b vs n g p _=>exact absurd (bu g) (Nat.not_lt.mpr (by rw[p,q];exact z))⟩
theorem Res.seen(O:C.Ok)(R:Rel C ad σ h)(r:Res C ad σ h h' a v):C.V ad σ h' (eH a) v:=by
 cases r with
 |val r=>cases a with
  |own xs=>exact r.elim|_=>exact r
 |new e z r=>exact⟨_,_,_,e,R.fresh O z,ay.mono (λb o k s e=>⟨k.1,e⟩) _ r⟩
theorem Er.ev(O:C.Ok)(x:Er C σ e K)(hK:∀a,K a->K' (eH a)):Ev C σ e K':=λad h R tk Q q=>x ad h R tk Q λv h' ak a g r k=>q v h' ak _ g (r.seen O R) (hK a k)
theorem Out.tok{f:Tok->aa}(r:∀t,C.V ad σ h a (f t))(hk:K a)(w:∀tk Q,Q (f tk) (C.st h (tk+1))->wpAny (M_ C) C.A t Q aD (C.st h tk)):Out C ad σ h K t:=λtk Q q=>w tk Q (q _ h _ a (.refl h) (.val (r tk)) hk)
theorem Out.same(r:C.V ad σ h a v)(hk:K a)(w:∀tk Q,Q v (C.st h tk)->wpAny (M_ C) C.A t Q aD (C.st h tk)):Out C ad σ h K t:=λtk Q q=>w tk Q (q _ h _ a (.refl h) (.val r) hk)
variable{α:Type}{m:Md α}{H:α->Prop}{k:AV->α}
abbrev Hk(H:α->Prop)(k:AV->α):AV->Prop:=λa=>H (k a)
theorem Out.int(M:m.Ok H){i:Int}(hk:H (ki m k i))(w:∀tk Q,Q (.int i tk) (C.st h (tk+1))->wpAny (M_ C) C.A t Q aD (C.st h tk)):Out C ad σ h (Hk H k) t:=.tok (a:=.int i) (λt=>⟨t⟩) (M.fi hk) w
theorem Out.aG{x:UInt64}(hk:rZ H (kl k) x)(w:∀tk Q,Q (.float x tk) (C.st h (tk+1))->wpAny (M_ C) C.A t Q aD (C.st h tk)):Out C ad σ h (Hk H k) t:=
 let⟨s,N,f,hk⟩:=hk; .tok (a:=.aG s N) (λt=>⟨_,t,f⟩) hk w
theorem aW{β:Type}{f:α}{o:Option β}{k:β->α}{P:Prop}(hf:¬H f)(h:H (opt f o k))(g:∀b,o=some b->H (k b)->P):P:=by
 cases o with|none=>exact absurd h hf|some b=>exact g b rfl h
theorem dD{β:Type}{f:α}{o:Option β}{k:β->α}{P:Prop}(h:H (opt f o k))(n:H f->P)(g:∀b,o=some b->H (k b)->P):P:=by
 cases o with|none=>exact n h|some b=>exact g b rfl h
theorem ai{β:Type}{x:β}{P:Prop}(e:(none:Option β)=some x):P:=nomatch e
theorem mv{i}:aR a=some i->a=.int i:=(by induction a using AV.casesOn with|int x=>exact λe=>congrArg AV.int (aO e)|_=>exact λe=>ai e)
theorem uZ{i}:dU a=some i->a=.str i:=(by induction a using AV.casesOn with|str x=>exact λe=>congrArg AV.str (aO e)|_=>exact λe=>ai e)
theorem Yd{i}:uP a=some i->a=.bool i:=(by induction a using AV.casesOn with|bool x=>exact λe=>congrArg AV.bool (aO e)|_=>exact λe=>ai e)
theorem Ec{i}:qn a=some i->a=.tup i:=(by induction a using AV.casesOn with|tup x=>exact λe=>congrArg AV.tup (aO e)|_=>exact λe=>ai e)
theorem Ye:uT a=true->a=.none:=(by induction a using AV.casesOn with|none=>exact λJ=>rfl|_=>exact λe=>absurd e aL)
theorem Ed{p:Bool×Nat}:il a=some p->a=.aG p.1 p.2:=(by induction a using AV.casesOn with|aG x y=>exact λe=>aO e▸rfl|_=>exact λe=>ai e)
theorem Ee{i}:xj a=some i->a=.own i:=(by induction a using AV.casesOn with|own x=>exact λe=>congrArg AV.own (aO e)|_=>exact λe=>ai e)
theorem dK(e:aR a=some i)(r:C.V ad σ h a v):uK i v:=by rw[mv e]at r;exact r
theorem j0(e:il a=some p)(r:C.V ad σ h a v):DT p.1 p.2 v:=by rw[Ed e]at r;exact r
theorem j1(e:dU a=some x)(r:C.V ad σ h a v):uL x v:=by rw[uZ e]at r;exact r
theorem As(e:uP a=some x)(r:C.V ad σ h a v):v=.bool x:=by rw[Yd e]at r;exact r
theorem Au(e:qn a=some xs)(r:C.V ad σ h a v):At h gA (C.aJ ad σ) (ay h (C.aJ ad σ) xs) v:=by rw[Ec e]at r;exact r
open Fl in
theorem Yg(M:m.Ok H){op:cE}{x y:UInt64}{p q:Bool×Nat}{t u:Tok}(hx:FI x p.1 p.2)(hy:FI y q.1 q.2)(e:H (K1 m op k p q)):Out C ad σ h (Hk H k) (binaryOp op (.float x t) (.float y u)):=by
 cases op with
 |Add=>exact .aG (Ap M.fail hx hy (M.fl e)) λJ J q=>add_float q|Sub=>exact .aG (LN M.fail hx hy (M.fl e)) λJ J q=>sub_float q|Mult=>exact .aG (Ea M.fail hx hy (M.fl e)) λJ J q=>mul_float q|Div=>exact let⟨z,g⟩:=X2 M.fail hx hy (M.fl e); .aG g λJ J q=>AutoFloatOpsIf.truediv (by rw[if_neg (by rw[z];exact aL)];exact q)|Mod=>obtain⟨e1,e⟩:=bz M.fail e;exact let⟨z,g⟩:=Yc M.fail hx hy e1 (M.fl e); .aG g λJ J q=>AutoFloatOps.mod_1 (by rw[z];exact aL) q
 |_=>exact absurd e M.fail
theorem Yh(M:m.Ok H){x y:Int}{t u:Tok}(e:H (uO m.fail (kl k) x y)):Out C ad σ h (Hk H k) (binaryOp .Div (.int x t) (.int y u)):=by
 cases x with
 |negSucc n=>exact absurd e M.fail|ofNat n=>cases y with
  |negSucc n=>exact absurd e M.fail|ofNat d=>
   obtain⟨z,e⟩:=Fl.jd M.fail e;have hd:=nZ z;obtain⟨hb,e⟩:=Fl.rY M.fail (tZ hd) e;have f:Fl.FI (Float64.ofFrac (decide (jr n<0)!=decide (jr d<0)) n d) false (Fl.gy (i5 n S) d):=by rw[show decide (jr n<0)=false from decide_eq_false (Int.not_lt.mpr (bA n)),show decide (jr d<0)=false from decide_eq_false (Int.not_lt.mpr (bA d))];exact Fl.KO (tZ hd) rfl (tZ hd) hb
   exact .aG ⟨_,_,f,e⟩ λJ J q=>AutoIntOps.truediv_2 (λz=>hd (tO (beq_iff_eq.mp z))) (λz=>absurd (f.DS.symm.trans z) aL) q
theorem Yi(M:m.Ok H){op:cE}{x y:Int}{t u:Tok}(e:H (binI m op k x y)):Out C ad σ h (Hk H k) (binaryOp op (.int x t) (.int y u)):=by
 cases op with|Add=>exact .int M e λJ J q=>PySem.P.add_int q|Sub=>exact .int M e λJ J q=>PySem.P.sub_int q|Mult=>exact let⟨g,e⟩:=M.gd e; .int M e λJ J q=>PySem.P.mul_int q g|FloorDiv=>exact let⟨g,e⟩:=M.gd e; .int M e λJ J q=>floordiv_int g.1 q (.inl g.2)|Mod=>exact let⟨g,e⟩:=M.gd e; .int M e λJ J q=>mod_int' g q|Pow=>exact let⟨g,e⟩:=M.gd e; .int M e λJ J q=>pow_int g.1 g.2 q|LShift=>exact let⟨g,e⟩:=M.gd e; .int M e λJ J q=>lshift_int g.1 g.2 q|RShift=>exact let⟨g,e⟩:=M.gd e; .int M e λJ J q=>rshift_int g q|BitAnd=>exact .int M e λJ J q=>and_int q|BitOr=>exact .int M e λJ J q=>or_int q|BitXor=>exact .int M e λJ J q=>xor_int q|Div=>exact Yh M (M.di e)|_=>exact absurd e M.fail
theorem oP(b:Bool):dW b=!b:=by cases b<;>rfl
def jB(H:α->Prop)(k:Bool->α):AV->Prop:=λa=>∃b,a=.bool b/\H (k b)
theorem Out.ip{c:Bool}{k:Bool->α}(hk:H (k c))(w:∀tk Q,Q (.bool c) (C.st h tk)->wpAny (M_ C) C.A t Q aD (C.st h tk)):Out C ad σ h (jB H k) t:=.same (a:=.bool c) rfl ⟨c,rfl,hk⟩ w
theorem Yj(M:m.Ok H){op:bQ}{x y:Int}{k:Bool->α}{t u:Tok}(e:H (Lc m op k x y)):Out C ad σ h (jB H k) (compareOp op (.int x t) (.int y u)):=by
 cases op with|Eq=>exact .ip e λJ J q=>eq_int q|NotEq=>exact .ip e λJ J q=>ne_int (by rw[oP]at q;exact q)|Lt=>exact .ip e λJ J q=>lt_int q|LtE=>exact .ip e λJ J q=>le_int q|Gt=>exact .ip e λJ J q=>gt_int q|GtE=>exact .ip e λJ J q=>ge_int q|_=>exact absurd e M.fail
open Fl in
theorem Yk{a b:Int}:(some (compare a b)==some IS||some (compare a b)==some Ordering.eq)=!(some (compare b a)==some IS):=by
 rcases Int.lt_trichotomy a b with c|c|c
 ·rw[Int.compare_eq_lt.mpr c,Int.compare_eq_gt.mpr c];rfl
 ·rw[c,Int.compare_eq_eq.mpr rfl];rfl
 ·rw[Int.compare_eq_gt.mpr c,Int.compare_eq_lt.mpr c];rfl
open Fl in
theorem Yl(M:m.Ok H){op:bQ}{x y:UInt64}{p q:Bool×Nat}{k:Bool->α}{t u:Tok}(hx:FI x p.1 p.2)(hy:FI y q.1 q.2)(e:H (Ld m op k p q)):Out C ad σ h (jB H k) (compareOp op (.float x t) (.float y u)):=by
 cases op with|Eq=>exact .ip e λJ J q=>AutoFloatOps.eq_0 (by rw[eq_fi hx hy];exact q)|NotEq=>exact .ip e λJ J q=>AutoFloatOps.ne_0 (by rw[bne,eq_fi hx hy];rw[oP]at q;exact q)|Lt=>exact .ip e λJ J q=>AutoFloatOps.lt_0 (by rw[lt_fi hx hy];exact q)|Gt=>exact .ip e λJ J q=>AutoFloatOps.gt_0 (by rw[gt_fi hx hy];exact q)|LtE=>exact .ip e λJ J q=>AutoFloatOps.le_0 (by rw[qo hx hy,Yk,<-qo hy hx,lt_fi hy hx];rw[oP]at q;exact q)|_=>exact absurd e M.fail
end
end
section
open Fl (bz jd)
section
theorem ay.length:∀{as:List AV} {vs:List aa},ay h ok as vs->vs.length=as.length|[],_,r=>r▸rfl|_::_,_,⟨_,q⟩=>congrArg (·+1) (ay.length q)
theorem ay.append(r':ay h ok as' Av):∀{as:List AV} {vs:List aa},ay h ok as vs->ay h ok (as++as') (vs++Av)|[],_,r=>by cases r;exact r'|_::_,_,⟨p,q⟩=>⟨p,ay.append r' q⟩
theorem ay.snoc(r:ay h ok as vs)(q:VR h ok a False v):ay h ok (as++[a]) (vs++[v]):=ay.append (as':=[a]) ⟨q,rfl⟩ r
theorem ay.rev:∀{as:List AV} {vs:List aa},ay h ok as vs->ay h ok as.reverse vs.reverse|[],_,r=>by cases r;exact rfl|_::_,_,⟨p,q⟩=>by rw[IT,IT];exact(ay.rev q).snoc p
theorem ay.take:∀(n:Nat) {as:List AV} {vs:List aa},ay h ok as vs->ay h ok (as.take n) (vs.take n)|0,_,_,_=>rfl|_+1,[],_,r=>by cases r;exact rfl|n+1,_::_,_,⟨p,q⟩=>⟨p,ay.take n q⟩
theorem ay.drop:∀(n:Nat) {as:List AV} {vs:List aa},ay h ok as vs->ay h ok (as.drop n) (vs.drop n)|0,_,_,r=>r|_+1,[],_,r=>by cases r;exact rfl|n+1,_::_,_,⟨_,q⟩=>ay.drop n q
theorem ay.get:∀{as:List AV} {vs:List aa},ay h ok as vs->∀{i:Nat} {a:AV},as[i]?=some a->∃v,vs[i]?=some v/\VR h ok a False v|_::_,_,⟨p,_⟩,0,_,e=>⟨_,rfl,aO e▸p⟩|_::_,_,⟨_,q⟩,_+1,_,e=>ay.get q e
theorem ay.set(p':VR h ok a False v):∀(i:Nat) {as:List AV} {vs:List aa},ay h ok as vs->ay h ok (as.set i a) (vs.set i v)|_,[],_,r=>by cases r;exact rfl|0,_::_,_,⟨_,q⟩=>⟨p',q⟩|i+1,_::_,_,⟨p,q⟩=>⟨p,ay.set p' i q⟩
theorem ay.rep(r:ay h ok as vs):∀n,ay h ok (cq n as).flatten (cq n vs).flatten|0=>rfl|n+1=>by rw[oh,oh,rB,rB];exact ay.append (ay.rep r n) r
theorem LY{β:Type}{f:AV->Option β}{a:AV}{as:List AV}{is:List β}(e:cj f (a::as)=some is):∃i r,is=i::r/\f a=some i/\cj f as=some r:=by
 change opt none (f a) (λb=>opt none (cj f as) λbs=>some (b::bs))=some is at e;cases q:f a with
 |none=>rw[q]at e;cases e|some b=>cases q2:cj f as with
  |none=>rw[q,q2]at e;cases e|some r=>rw[q,q2]at e;cases e;exact⟨b,r,rfl,rfl,rfl⟩
theorem ay.ints:∀{as:List AV} {vs:List aa} {is:List Int},cj aR as=some is->ay h ok as vs->IntsAre vs is|[],_,_,e,r=>by cases e;cases r;exact .nil|_::_,_,_,e,⟨p,q⟩=>by obtain⟨i,r,rfl,e1,e2⟩:=LY e;cases mv e1;cases p;exact .cons _ _ (ay.ints e2 q)
theorem ay.strs:∀{as:List AV} {vs:List aa} {is:List Str},cj dU as=some is->ay h ok as vs->StrsAre vs is|[],_,_,e,r=>by cases e;cases r;exact .nil|_::_,_,_,e,⟨p,q⟩=>by obtain⟨i,r,rfl,e1,e2⟩:=LY e;cases uZ e1;cases p;exact .cons _ _ (ay.strs e2 q)
end
theorem fH{h:Heap}{l:Addr}{vs:List aa}{n:Nat}(g:h.get? l=some (cM vs n)):h.IsList l vs.toArray:=⟨_,g,rfl,n,rfl⟩
theorem nB(g:h.get? l=some (gA vs n)):IsTup h l vs.toArray:=⟨_,g,rfl,n,rfl⟩
theorem u0(g:h.get? l=some (cM vs n)):IsL h l vs.toArray n:=g
section
variable{C:Fc}{ad:Str->Addr}{K:AV->Prop}
abbrev Fc.L(C:Fc)(ad:Str->Addr)(σ:Sg)(h:Heap)(xs:List AV)(v:aa):Prop:=At h cM (λJ=>True) (ay h (C.aJ ad σ) xs) v
theorem At.any:At h o P R v->At h o (λJ=>True) R v:=At.imp (λJ J J J g=>⟨trivial,g⟩) λJ=>id
theorem lF:gC a=some xs->C.V ad σ h a v->C.L ad σ h xs v:=(by induction a using AV.casesOn with|lst xs=>exact λe r=>aO e▸At.any r|bU xs=>exact λe r=>aO e▸r.2|_=>exact λe J=>ai e)
theorem Ym:xi a=some xs->C.V ad σ h a v->C.L ad σ h xs v∨At h gA (λJ=>True) (ay h (C.aJ ad σ) xs) v:=(by induction a using AV.casesOn with|tup xs=>exact λe r=>.inr (aO e▸At.any r)|lst xs=>exact λe r=>.inl (aO e▸At.any r)|bU xs=>exact λe r=>.inl (aO e▸r.2)|_=>exact λe J=>ai e)
theorem Out.new(r:ay h (C.aJ ad σ) xs vs)(hk:K (.own xs))(w:∀tk Q,(∀h' ak l n,aI h h'->h.objs.size<=l->h'.get? l=some (cM vs n)->Q (.ref l) (C.st h' ak))->wpAny (M_ C) C.A t Q aD (C.st h tk)):Out C ad σ h K t:=λtk Q q=>
 w tk Q λh' ak l n g z e=>q _ h' ak _ g (.new e z (ay.mono (λb o k s x=>⟨⟨k,fG (fy (bu x) z)⟩,g.bX s x⟩) _ r)) hk
variable{α:Type}
theorem Yn(M:m.Ok H)(ra:C.L ad σ h xs v)(rb:C.L ad σ h ys w)(e:H (kJ m k xs ys)):Out C ad σ h (Hk H k) (binaryOp .Add v w):=by
 obtain⟨l,vs,n,g,_,r⟩:=ra;obtain⟨l',Av,n',g',_,r'⟩:=rb;obtain⟨z,e⟩:=M.gd e
 exact .new (ay.append r' r) e λtk Q q=>PySem.P.add_list (u0 g) (u0 g') (by
    rw[List.append_toArray];exact q _ _ _ 0 (.push h _) (aQ _) (cU _ rfl)) (by rw[dF,dF,r.length,r'.length];exact az z (show(100000:Nat)<=sizeLine from ⋯))
theorem Yo(M:m.Ok H)(ra:C.L ad σ h xs v)(e:H (K2 m k xs j)):Out C ad σ h (Hk H k) (binaryOp .Mult v (.int j u)):=by
 obtain⟨l,vs,n,g,_,r⟩:=ra;have hl:=r.length;obtain⟨⟨h1,h2,z⟩,e⟩:=M.gd e;refine .new (ay.rep r j.toNat) e λtk Q q=>?_
 ·refine wpAny_binaryOp_repeat_ref (T:="list") (U:="int") ⋯ ⟨_,g,rfl⟩ (λs'=>typeIs_int s' j u) noFill_list_mul F.fills_int_mul F.slot_int_rmul repeat_list F.slot_int_index.lookup
   (y4 F.slot_int_rmul (typeIs_int _ j u) F.entry_int_rmul (F.args_int_rmul_2 _ _) (int___rmul___int_list j u l vs.toArray n)
    ⟨g,rfl,⟨_,g,rfl⟩,y4 F.slot_list_mul ⟨_,g,rfl⟩ F.entry_list_mul (F.args_list_mul_2 _ _)
     (AutoListH.list___mul___list_int_3 l vs.toArray n j u (by simp[alI];exact(dy 0xe1f7e8000000000000000109e06e04e8000000000000000109e7e8000000000000000109e06e04e8000000000000000109e 18833716883728) h1 h2) (by rw[dF,hl];exact(aC 0xe0fc10b10000007a11fc892d7fffffffffffffff109e821e089 4806038607910947) z (iL 8 _)) (by rw[dF,hl];simp[Builtin.List.listTooLong,sizeLine];exact(ax 0xeb10000007a0b10000007a0 1122577) z))
     ⟨g,?_⟩⟩)
  have ea:(List.foldl (λx1 x2=>x1++x2) #[] (cq (if vs.toArray.isEmpty=true then 0 else j.toNat) vs.toArray))=(cq j.toNat vs).flatten.toArray:=by
   have key:∀(n:Nat) (acc:Array aa),List.foldl (λx1 x2=>x1++x2) acc (cq n vs.toArray)=acc++((cq n vs).flatten).toArray:=λn=>by
    induction n with|zero=>intro acc;simp|succ n ih=>intro acc;rw[oh,wJ,ih,oh,rB];simp[Array.append_assoc]
   cases vs with
   |nil=>
    have:∀n,(cq n ([]:List aa)).flatten=[]:=λn=>by induction n with|zero=>rfl|succ n ih=>rw[oh,rB,ih];rfl
    simp[this]
   |cons v vs=>rw[if_neg (by simp),key];simp
  rw[ea];exact q _ _ _ 0 (.push h _) (aQ _) (cU _ rfl)
theorem Yp(M:m.Ok H)(ra:C.L ad σ h xs v)(rb:C.V ad σ h b w)(e:H (K4 m op b k xs)):Out C ad σ h (Hk H k) (binaryOp op v w):=by
 cases op with|Add=>exact aW M.fail e λys ey e=>Yn M ra (lF ey rb) e|Mult=>exact aW M.fail e λj ej e=>by cases dK ej rb;exact Yo M ra e|_=>exact absurd e M.fail
theorem Out.Aw(hk:H (k (.str x)))(w:∀tk Q,(∀t' k,Q (.str x t') (C.st h k))->wpAny (M_ C) C.A t Q aD (C.st h tk)):Out C ad σ h (Hk H k) t:=λtk Q q=>w tk Q λt' k=>q _ h k (.str x) (.refl h) (.val ⟨t'⟩) hk
def LZ(C:Fc)(h:Heap)(op:bQ)(t:Sem aa)(c:Bool):Prop:=(op=.Eq->∀tk Q,Q (.bool c) (C.st h tk)->wpAny (M_ C) C.A t Q aD (C.st h tk))/\(op=.NotEq->∀tk Q,Q (.bool (!c)) (C.st h tk)->wpAny (M_ C) C.A t Q aD (C.st h tk))
theorem L0(M:m.Ok H)(e:H (eqQ m op kb c))(q:LZ C h op t c):Out C ad σ h (jB H kb) t:=by
 cases op with|Eq=>exact .ip e (q.1 rfl)|NotEq=>exact .ip e λtk Q x=>q.2 rfl tk Q (by rw[oP]at x;exact x)|_=>exact absurd e M.fail
theorem L1(M:m.Ok H)(ra:ay h (C.aJ ad σ) xs vs)(rb:ay h (C.aJ ad σ) ys ws)(e:H (xm m op kb xs ys))(w:∀is js,IntsAre vs is->IntsAre ws js->LZ C h op t (decide (is=js))):Out C ad σ h (jB H kb) t:=
 let⟨is,e1,e⟩:=M.op e;let⟨js,e2,e⟩:=M.op e;L0 M e (w is js (ra.ints e1) (rb.ints e2))
end
end
section
open Fl (bz jd)
section
variable{C:Fc}{ad:Str->Addr}{σ:Sg}{h h':Heap}{K:AV->Prop}{v w:aa}{a b:AV}{t:Sem aa}{xs ys:List AV}
variable{α:Type}{m:Md α}{H:α->Prop}{k:AV->α}{kb:Bool->α}
theorem Yq(M:m.Ok H){x y:Str}{t u:Tok}(e:H (D1 m k x y)):Out C ad σ h (Hk H k) (binaryOp .Add (.str x t) (.str y u)):=let⟨z,e⟩:=M.gd e; .Aw e λtk Q q=>add_str q z
theorem Yr(M:m.Ok H){x:Str}{n:Int}{t u:Tok}(e:H (K5 m k x n)):Out C ad σ h (Hk H k) (binaryOp .Mult (.str x t) (.int n u)):=by
 obtain⟨⟨hx,h0,hn⟩,e⟩:=M.gd e;refine .Aw e λtk Q q=>?_;have hz:sizeLine=16777216:=rfl;have hle:n.toNat*x.cps.size<=100000*100:=lV (by exact(bL 0xeb186a05a06e186a05a02f1fd0906e0901f8e05e06e009 72079657554493713 [_] [_]) hn i8) hx;refine PySem.P.mul_str (by rw[decide_eq_false (by exact(dy 0xe0f7e4e8000000000000000109e06e009 1122576) h0),decide_eq_false (by exact(dy 0xe0f6e08000000000000000109e6e186a05a0 1122576) hn)];rfl) (λh1 J h2=>?_) (λh1 J=>?_) ?_
 ·have:(2^63-1)/n≥9223372036854:=(Int.le_ediv_iff_mul_le (by exact(dy 0xe7e0090f7e190 1122576) h1)).mpr (by exact(dy 0xe6e3e198000000000000000109e1e08637bd05af6ba6e186a05a0 0x10131118637bd05af6bf20) hn)
  exact(bL 0xe4fb642a07e5e006e08637bd05af6ba 17903889 [_] [_]) hx h2 this
 ·unfold Builtin.Str.tooLong
  rw[fO]at hle;exact decide_eq_false (by rw[hz];exact Nat.not_lt.mpr (az hle ⋯))
 ·by_cases h1:n<1
  ·rw[if_pos h1]
   cases(show n=0 by exact(dy 0xe8e0906e0097e190 17674076758288) h0 h1);exact⟨⋯,q _ _⟩
  ·rw[if_neg h1]
   by_cases h2:(n==1||x.length==0)=true
   ·rw[if_pos h2]
    have e:cZ x n=x:=by
     rcases Bool.or_eq_true_iff.mp h2 with h2|h2
     ·cases beq_iff_eq.mp h2
      simp[cZ]
     ·have h4:x.cps=#[]:=SZ (beq_iff_eq.mp h2)
      obtain⟨c⟩:=x;cases h4;have:∀(k:Nat) (acc:Array Nat),(cq k (#[]:Array Nat)).foldl (·++·) acc=acc:=λk=>by
       induction k with|zero=>intro acc;rfl|succ k ih=>intro acc;rw[oh,wJ,ih];simp
      unfold cZ;rw[this]
    exact e▸q t _
   ·rw[if_neg h2]
    refine⟨?_,q _ _⟩;have:∀(k:Nat) (acc:Array Nat),((cq k x.cps).foldl (·++·) acc).size=acc.size+k*x.cps.size:=λk=>by
     induction k with|zero=>intro acc;simp|succ k ih=>intro acc;rw[oh,wJ,ih,IU,Nat.succ_mul];exact aC 0xed8812082810 4581298451
    show(cZ x n).cps.size<=_;unfold cZ;rw[this,hz];exact az (wK hle _) ⋯
theorem Yt(M:m.Ok H){op:cE}{x:Str}{t:Tok}(rb:C.V ad σ h b w)(e:H (K6 m op b k x)):Out C ad σ h (Hk H k) (binaryOp op (.str x t) w):=by
 cases op with|Add=>exact aW M.fail e λy ey e=>by cases j1 ey rb;exact Yq M e|Mult=>exact aW M.fail e λn ey e=>by cases dK ey rb;exact Yr M e|_=>exact absurd e M.fail
theorem Yu(M:m.Ok H){op:cE}{x:Int}{y:UInt64}{q:Bool×Nat}{t u:Tok}(f:Fl.FI y q.1 q.2)(e:H (K7 m op k x q)):Out C ad σ h (Hk H k) (binaryOp op (.int x t) (.float y u)):=by
 obtain⟨z,s1,N1,f1,_,e⟩:=Fl.Aq M.fail (M.i2 e);cases op with|Mult=>exact .aG (Fl.Ea M.fail f1 f (M.fl e)) λJ J q=>mul_if_fits z q|_=>exact absurd e M.fail
theorem Yv(M:m.Ok H){op:cE}{x:Int}{t:Tok}(rb:C.V ad σ h b w)(e:H (K8 m op b k x)):Out C ad σ h (Hk H k) (binaryOp op (.int x t) w):=
 dD e (λe=>aW M.fail e λq eb e=>by cases j0 eb rb with|mk y u f=>exact(Yu M f e:)) λy eb e=>by cases dK eb rb;exact(Yi M e:)
theorem Yw(M:m.Ok H){op:cE}{y:Int}{x:UInt64}{p:Bool×Nat}{t u:Tok}(f:Fl.FI x p.1 p.2)(e:H (K9 m op k p y)):Out C ad σ h (Hk H k) (binaryOp op (.float x t) (.int y u)):=by
 obtain⟨z,s1,N1,f1,_,e⟩:=Fl.Aq M.fail (M.i2 e);cases op with|Add=>exact .aG (Fl.Ap M.fail f f1 (M.fl e)) λJ J q=>add_fi_fits z q|Sub=>exact .aG (Fl.LN M.fail f f1 (M.fl e)) λJ J q=>sub_fi_fits z q|Mult=>exact .aG (Fl.Ea M.fail f f1 (M.fl e)) λJ J q=>mul_fi_fits z q|_=>exact absurd e M.fail
theorem Yx(M:m.Ok H){op:cE}{x:UInt64}{p:Bool×Nat}{t:Tok}(f:Fl.FI x p.1 p.2)(rb:C.V ad σ h b w)(e:H (La m op b k p)):Out C ad σ h (Hk H k) (binaryOp op (.float x t) w):=
 dD e (λe=>aW M.fail e λq eb e=>by cases j0 eb rb with|mk y u f1=>exact(Yg M f f1 e:)) λy eb e=>by cases dK eb rb;exact(Yw M f e:)
theorem Yy(M:m.Ok H){op:cE}(ra:C.V ad σ h a v)(rb:C.V ad σ h b w)(e:H (Lb m op a b k)):Out C ad σ h (Hk H k) (binaryOp op v w):=
 dD e (λe=>dD e (λe=>dD e (λe=>aW M.fail e λxs ea e=>Yp M (lF ea ra) rb e) λx ea e=>by cases j1 ea ra;exact Yt M rb e) λp ea e=>by cases j0 ea ra with|mk x t f=>exact Yx M f rb e) λx ea e=>by cases dK ea ra;exact Yv M rb e
theorem Yz(M:m.Ok H){op:UnaryOp}(ra:C.V ad σ h a v)(e:H (Lk m op a k)):Out C ad σ h (Hk H k) (unaryOp op v):=aW M.fail e λi ei e=>by
 cases dK ei ra;cases op with|USub=>exact .int M e λJ J q=>PySem.P.neg_int q|Invert=>exact .int M e λJ J q=>invert_int q|_=>exact absurd e M.fail
theorem YA(M:m.Ok H)(ra:C.L ad σ h xs v)(e:H (Ll m kb xs)):oN C h (λb=>H (kb b)) (truthy v):=λtk Q q=>by obtain⟨l,vs,n,g,_,r⟩:=ra;obtain⟨z,e⟩:=M.gd e;have hl:=r.length;refine wpAny_truthy_list (fH g) (by rw[dF,hl];exact z) (q _ h _ (.refl h) ?_);cases vs<;>cases xs<;>first|exact e|cases hl
theorem L2(M:m.Ok H)(ra:C.V ad σ h a v)(e:H (D5 m a kb)):oN C h (λb=>H (kb b)) (truthy v):=
 dD e (λe=>dD e (λe=>aW M.fail e λxs ea e=>YA M (lF ea ra) e) λi ea e=>by cases dK ea ra;exact λtk Q q=>truthy_int (q _ h tk (.refl h) e)) λb ea e=>by cases As ea ra;exact λtk Q q=>IV (q b h tk (.refl h) e)
theorem L3(e:uT a=true)(r:C.V ad σ h a v):v=.none:=by rw[Ye e]at r;exact r
theorem YB(M:m.Ok H)(ra:C.V ad σ h a v)(e:H (D2 m a kb)):plainIs v .none=true/\H (kb (v== .none)):=by
 unfold D2 at e;cases ha:uT a with|true=>rw[ha]at e;cases L3 ha ra;exact⟨rfl,e⟩|false=>rw[ha]at e;exact dD e (λe=>aW M.fail e λs ea e=>by cases j1 ea ra;exact⟨rfl,e⟩) λxs ea e=>by cases Au ea ra;exact⟨rfl,e⟩
theorem YC{b c:Bool}(e:H (Le kb c b)):plainIs (.bool b) (.bool c)=true/\H (kb (Value.bool b==Value.bool c)):=by cases b<;>cases c<;>exact⟨rfl,e⟩
theorem L4(M:m.Ok H)(ra:C.V ad σ h a v)(rb:C.V ad σ h b w)(e:H (isA m a b kb)):plainIs v w=true/\H (kb (v==w)):=by
 unfold isA at e;cases hb:uT b with|true=>rw[hb]at e;cases L3 hb rb;exact YB M ra e|false=>rw[hb]at e;exact aW M.fail e λc eb e=>aW M.fail e λb ea e=>by cases As eb rb;cases As ea ra;exact YC e
theorem L5{l:Addr}{us:List aa}{ns:List Int}(ht:IsTup h l us.toArray)(hi:IntsAre us ns):∃as,Reads h (.ref l) (.tuple (ns.map PyData.int)) as:=⟨_,reads_newDataT ht (ke_carried hi)⟩
theorem Ax(ns:List Int):SeqAt.shaped (.tuple (ns.map PyData.int))=true:=by simp[SeqAt.shaped,PyData.canLay0,PyData.depth,ke_canLayAll0,ke_depthAll]
theorem L6(ns ms:List Int):PySem.Spec.same (.tuple (ns.map PyData.int)) (.tuple (ms.map PyData.int))=decide (ns=ms):=by simp only[PySem.Spec.same];exact ke_sameAll ns ms
theorem YD(M:m.Ok H)(hu:C.A.units+64<cLine){op:bQ}(ra:C.L ad σ h xs v)(rb:C.L ad σ h ys w)(e:H (xm m op kb xs ys)):Out C ad σ h (jB H kb) (compareOp op v w):=by obtain⟨l,vs,n,g,_,r⟩:=ra;obtain⟨l',Av,n',g',_,r'⟩:=rb;exact L1 M r r' e λis js hi hj=>⟨λeo=>eo▸λtk Q q=>ke_eq_ints (fH g) (fH g') hi hj hu q,λeo=>eo▸λtk Q q=>ke_ne_ints (fH g) (fH g') hi hj hu q⟩
theorem YE(M:m.Ok H)(hu:C.A.units+64<cLine){op:bQ}{P P':Addr->Prop}(ra:At h gA P (ay h (C.aJ ad σ) xs) v)(rb:At h gA P' (ay h (C.aJ ad σ) ys) w)(e:H (xm m op kb xs ys)):Out C ad σ h (jB H kb) (compareOp op v w):=by
 obtain⟨l,vs,n,g,_,r⟩:=ra;obtain⟨l',Av,n',g',_,r'⟩:=rb;exact L1 M r r' e λis js hi hj=>
  let⟨as,ra⟩:=L5 (nB g) hi
  let⟨bs,rb⟩:=L5 (nB g') hj
  have hm:=noMix_ints is js
  ⟨λeo=>eo▸λtk Q q=>eq_dataH_same ra rb (Ax _) (Ax _) hu (by simp only[SeqAt.noMix];exact hm) (by rw[L6];exact q),λeo=>eo▸λtk Q q=>ne_dataH_same ra rb (Ax _) (Ax _) hu (by simp only[SeqAt.noMix];exact hm) (by rw[L6];exact q)⟩
theorem YF(a b:Int):(some (compare a b)==some Ordering.gt||some (compare a b)==some Ordering.eq)=!(some (compare a b)==some IS):=by cases compare a b<;>rfl
theorem L8(x y:Str):aA x y=(x==y):=by rw[yW,cN,beq_iff_eq]
theorem YG(M:m.Ok H){op:bQ}{x:Str}{t:Tok}(rb:C.V ad σ h b w)(e:H (Lj m op b kb x)):Out C ad σ h (jB H kb) (compareOp op (.str x t) w):=aW M.fail e λy eb e=>by cases j1 eb rb;exact L0 M e ⟨λo=>o▸λJ J q=>eq_str (by rw[<-L8];exact q),λo=>o▸λJ J q=>ne_str (by rw[bne,<-L8];exact q)⟩
open Fl in
theorem YH(M:m.Ok H){op:bQ}{y:Int}{x:UInt64}{p:Bool×Nat}{t u:Tok}(f:FI x p.1 p.2)(e:H (Lg m op kb p y)):Out C ad σ h (jB H kb) (compareOp op (.float x t) (.int y u)):=by
 obtain⟨z,s1,N1,f1,ev,e⟩:=Aq M.fail (M.i2 e);cases op with|Lt=>exact .ip e λJ J q=>PyProof.Rows.lt_fi (by rw[<-lt_fi f f1,qo f f1,ev]at q;rw[Eb f];exact q)|NotEq=>exact .ip e λJ J q=>PyProof.Rows.ne_fi (by rw[oP,<-eq_fi f f1,qo f f1,ev]at q;rw[Eb f];exact q)|_=>exact absurd e M.fail
open Fl in
theorem YI(M:m.Ok H){op:bQ}{x:Int}{y:UInt64}{p:Bool×Nat}{t u:Tok}(f:FI y p.1 p.2)(e:H (Lf m op kb x p)):Out C ad σ h (jB H kb) (compareOp op (.int x t) (.float y u)):=by
 obtain⟨z,s1,N1,f1,ev,e⟩:=Aq M.fail (M.i2 e);cases op with|LtE=>refine .ip e λJ J q=>PyProof.Rows.le_if ?_;rw[oP,<-lt_fi f f1,qo f f1,ev]at q;rw[Eb f];exact(YF (Float64.sgn _ _) (x*2^1074)).symm▸q|_=>exact absurd e M.fail
theorem YJ(M:m.Ok H){op:bQ}{x:UInt64}{p:Bool×Nat}{t:Tok}(f:Fl.FI x p.1 p.2)(rb:C.V ad σ h b w)(e:H (Li m op b kb p)):Out C ad σ h (jB H kb) (compareOp op (.float x t) w):=
 dD e (λe=>aW M.fail e λq eb e=>by cases j0 eb rb with|mk y u f1=>exact Yl M f f1 e) λy eb e=>by cases dK eb rb;exact YH M f e
theorem YK(M:m.Ok H){op:bQ}{x:Int}{t:Tok}(rb:C.V ad σ h b w)(e:H (Lh m op b kb x)):Out C ad σ h (jB H kb) (compareOp op (.int x t) w):=
 dD e (λe=>aW M.fail e λq eb e=>by cases j0 eb rb with|mk y u f=>exact YI M f e) λy eb e=>by cases dK eb rb;exact Yj M e
theorem YL(M:m.Ok H)(hu:C.A.units+64<cLine){op:bQ}(ra:C.V ad σ h a v)(rb:C.V ad σ h b w)(e:H (oJ m op a b kb)):Out C ad σ h (jB H kb) (compareOp op v w):=
 dD e (λe=>dD e (λe=>dD e (λe=>dD e (λe=>aW M.fail e λxs ea e=>aW M.fail e λys eb e=>YD M hu (lF ea ra) (lF eb rb) e) λxs ea e=>aW M.fail e λys eb e=>YE M hu (Au ea ra) (Au eb rb) e)
  λx ea e=>by cases j1 ea ra;exact YG M rb e) λp ea e=>by cases j0 ea ra with|mk x t f=>exact YJ M f rb e) λx ea e=>by cases dK ea ra;exact YK M rb e
theorem Ef(M:m.Ok H)(hu:C.A.units+64<cLine){op:bQ}(ra:C.V ad σ h a v)(rb:C.V ad σ h b w)(e:H (D4 m op a b kb)):Out C ad σ h (jB H kb) (compareOp op v w):=by
 cases op with|Is=>exact let⟨z,e⟩:=L4 M ra rb e; .ip e λJ J q=>wpAny_is_plain z q|IsNot=>exact let⟨z,e⟩:=L4 M ra rb e; .ip e λJ J q=>wpAny_isNot_plain z (by rw[oP]at q;exact q)|_=>exact YL M hu ra rb e
end
end
section
variable{ad:Str->Addr}{h h':Heap}{K:AV->Prop}
noncomputable def Fc.Vl(C:Fc)(ad:Str->Addr)(σ:Sg)(h:Heap):List AV->List aa->Prop|[],vs=>vs=[]|a::as,vs=>nt (C.V ad σ h a) (Fc.Vl C ad σ h as) vs
variable{α:Type}{m:Md α}
theorem qp(M:m.Ok H){g:AV->α}{P:Prop}(e:H (one m xs g))(q:∀a,xs=[a]->H (g a)->P):P:=by
 cases xs with
 |nil=>exact absurd e M.fail|cons a r=>cases r with
  |nil=>exact q a rfl e|cons _ _=>exact absurd e M.fail
theorem Ay(M:m.Ok H){g:α}{P:Prop}(e:H (uU m xs g))(q:xs=[]->H g->P):P:=by
 cases xs with|nil=>exact q rfl e|cons a r=>exact absurd e M.fail
abbrev de(C:Fc)(ad:Str->Addr)(σ:Sg)(h:Heap)(K:AV->Prop)(f:aa)(vs:List aa):Prop:=Out C ad σ h K (kA f vs)
theorem de.one(M:m.Ok H){g:AV->α}(r:C.Vl ad σ h as vs)(e:H (one m as g))(q:∀a v,C.V ad σ h a v->H (g a)->de C ad σ h K f [v]):de C ad σ h K f vs:=qp M e λa ea e=>by subst ea;obtain⟨p,rfl⟩:=r;exact q _ _ p e
theorem de.Az(M:m.Ok H){g:AV->α}(r:C.Vl ad σ h as vs)(e:H (Mine.Internal.one m as g))(q:∀a w,C.V ad σ h a w->H (g a)->de C ad σ h K f [v,w]):de C ad σ h K f (v::vs):=qp M e λa ea e=>by subst ea;obtain⟨p,rfl⟩:=r;exact q _ _ p e
theorem de.two(M:m.Ok H)(r:C.Vl ad σ h as vs)(e:H (two m as g))(q:∀a b v w,C.V ad σ h a v->C.V ad σ h b w->H (g a b)->de C ad σ h K f [v,w]):de C ad σ h K f vs:=by
 cases as with|nil=>exact absurd e M.fail|cons a as=>obtain⟨p,r⟩:=r;exact de.Az M r e λb w p' e=>q _ _ _ _ p p' e
theorem fh{β:Type}{o:AV->Option β}{g:β->α}{P:Prop}(M:m.Ok H)(e:H (bY m o g a))(q:∀x,o a=some x->H (g x)->P):P:=aW M.fail e q
theorem lG{β γ:Type}{o:AV->Option β}{o':AV->Option γ}{g:β->γ->α}{P:Prop}(M:m.Ok H)(e:H (jA m o o' g a b))(q:∀x y,o a=some x->o' b=some y->H (g x y)->P):P:=aW M.fail e λx ea e=>aW M.fail e λy eb e=>q x y ea eb e
theorem Out.L9(hk:H (kI k i))(w:∀tk Q,(∀t h' ak,aI h h'->Q (.int i t) (C.st h' ak))->wpAny (M_ C) C.A t Q aD (C.st h tk)):Out C ad σ h (Hk H k) t:=λtk Q q=>
 w tk Q λt h' ak g=>q _ h' ak (.int i) g (.val ⟨t⟩) hk
theorem Out.ints(M:m.Ok H)(hk:H (ki m k i))(w:∀tk Q,(∀t h' ak,aI h h'->Q (.int i t) (C.st h' ak))->wpAny (M_ C) C.A t Q aD (C.st h tk)):Out C ad σ h (Hk H k) t:=.L9 (M.fi hk) w
theorem YM(M:m.Ok H)(ra:C.V ad σ h a v)(e:H (bY m Lo (Lp m k) a)):de C ad σ h (Hk H k) (.builtin "len") [v]:=fh M e λn ea e=>by
 obtain⟨hn,e⟩:=M.gd e;have hb:(n:Int)<2^63:=(ax 0xe7e8000000000000000109e5e0c10000000000ba0 1122577) hn;cases a with
 |str s=>cases ea;cases ra;exact .ints M e λtk Q q=>PyProof.Rows.len_str (Int.not_le.mpr hb) (q _ _ _ (.refl h))|tup xs=>cases ea;obtain⟨l,vs,j,g,_,r⟩:=ra;have el:vs.toArray.size=xs.length:=r.length;exact .ints M e λtk Q q=>PyProof.Rows.len_tuple (nB g) (by rw[el];exact hb) (by rw[el];exact q _ _ _ (.refl h))
 |lst xs=>cases ea;obtain⟨l,vs,j,g,_,r⟩:=ra;have el:vs.toArray.size=xs.length:=r.length;exact .ints M e λtk Q q=>PyProof.Rows.len_list (fH g) (by rw[el];exact hb) (by rw[el];exact q _ _ _ (.refl h))
 |bU xs=>cases ea;obtain⟨_,l,vs,j,g,_,r⟩:=ra;have el:vs.toArray.size=xs.length:=r.length;exact .ints M e λtk Q q=>PyProof.Rows.len_list (fH g) (by rw[el];exact hb) (by rw[el];exact q _ _ _ (.refl h))
 |_=>cases ea
theorem YN(M:m.Ok H)(ra:C.V ad σ h a v)(e:H (bY m aR (Lq m k) a)):de C ad σ h (Hk H k) (.builtin "abs") [v]:=fh M e λi ea e=>by cases dK ea ra;exact .ints M e λtk Q q=>call_abs_int λu tk=>q _ _ _ (.refl h)
theorem YO(M:m.Ok H)(ra:C.V ad σ h a v)(e:H (bY m dU (Lu m k) a)):de C ad σ h (Hk H k) (.builtin "ord") [v]:=fh M e λs ea e=>by
 cases j1 ea ra;obtain⟨⟨l⟩⟩:=s;cases l with
 |nil=>exact absurd e M.fail|cons c r=>cases r with
  |nil=>exact .int M e λtk Q q=>PySem.P.ord_of_char q|cons _ _=>exact absurd e M.fail
theorem YP(M:m.Ok H)(ra:C.V ad σ h a v)(e:H (bY m aR (Lv m k) a)):de C ad σ h (Hk H k) (.builtin "chr") [v]:=fh M e λi ea e=>by cases dK ea ra;obtain⟨⟨h0,h1⟩,e⟩:=M.gd e;exact .tok (a:=.str ⟨#[i.toNat]⟩) (λt=>⟨t⟩) e λtk Q q=>PySem.P.chr_of_int (by rw[decide_eq_false (Int.not_lt.mpr h0),decide_eq_false (Int.not_lt.mpr h1)];rfl) q
theorem AA.no{c:Bool}{P:Prop}(e:c=false)(x:c=true):P:=absurd (e.symm.trans x) aL
theorem YQ{g:Int->(Int->α)->α}{s:Bool}{n:Nat}{k:Int->α}:KU g s k n=g (Float64.sgn s n) k:=by cases s<;>rfl
theorem YR(M:m.Ok H)(hn:C.A.handled=none)(ra:C.V ad σ h a v)(e:H (bY m il (Lm m k) a)):de C ad σ h (Hk H k) (.builtin "round") [v]:=fh M e λp ea e=>by
 cases j0 ea ra with|mk x t f=>obtain⟨g,hg,hq⟩:=M.rq;have e:=hq e;rw[nv,Fl.LJ,kB,YQ,<-Fl.X3 f]at e;have e:=hg e;exact .L9 e λtk Q q=>call_round_float hn (AA.no f.KM) (AA.no f.DS) λJ=>q _ _ _ (.refl h)
theorem YS(M:m.Ok H)(hn:C.A.handled=none)(ra:C.V ad σ h a v)(e:H (bY m il (Ls m k) a)):de C ad σ h (Hk H k) (.type "int") [v]:=fh M e λp ea e=>by
 cases j0 ea ra with|mk x t f=>obtain⟨ep,e⟩:=Fl.jd M.fail e;rw[ep]at f;exact .ints M e λtk Q q=>call_int_float3 hn (AA.no f.KM) (AA.no f.DS) λJ=>by rw[Fl.X4 f];exact q _ _ _ (.refl h)
theorem YT(M:m.Ok H)(O:C.Ok)(R:Rel C ad σ h)(ra:C.V ad σ h a v)(rb:C.V ad σ h b w)(e:H (jA m aR aR (Lw m k) a b)):de C ad σ h (Hk H k) (.builtin "divmod") [v,w]:=lG M e λi j ea eb e=>by cases dK ea ra;cases dK eb rb;obtain⟨⟨h0,h1⟩,e⟩:=M.gd e;exact λtk Q q=>divmod_int h0 (q _ _ _ (.tup [.int (i.fdiv j),.int (i.fmod j)]) (.push h _) (.val (At.mk _ [_,_] 0 (cU _ rfl) (R.fresh O (aQ _)) ⟨⟨_⟩,⟨_⟩,rfl⟩)) (M.fi (M.fi e))) (.inl h1)
theorem Eg{f:Int->Int->Int}{le:Int->Int->Prop}(tr:∀a b c,le a b->le b c->le a c)(rf:∀a,le a a)(hf:∀a b,(f a b=a∨f a b=b)/\le a (f a b)/\le b (f a b)):∀(r:List Int) (n:Int),(r.foldl f n=n∨r.foldl f n∈r)/\le n (r.foldl f n)/\∀a∈r,le a (r.foldl f n)
 |[],n=>⟨.inl rfl,rf n,nofun⟩|b::r,n=>by
  obtain⟨h1,h2,h3⟩:=Eg tr rf hf r (f n b);obtain⟨g1,g2,g3⟩:=hf n b;rw[wJ];refine⟨?_,tr _ _ _ g2 h2,λa ha=>?_⟩
  ·rcases h1 with h1|h1
   ·rw[h1]
    exact g1.imp id λq=>by rw[q];exact aK
   ·exact .inr (aY _ h1)
  ·rcases List.mem_cons.mp ha with rfl|ha
   ·exact tr _ _ _ g3 h2
   ·exact h3 a ha
theorem max_le:∀a b:Int,(max a b=a∨max a b=b)/\a<=max a b/\b<=max a b:=λa b=>⟨(CO b a).imp Int.max_eq_left IW,Int.le_max_left a b,Int.le_max_right a b⟩
theorem min_le:∀a b:Int,(min a b=a∨min a b=b)/\min a b<=a/\min a b<=b:=λa b=>⟨(CO a b).imp Int.min_eq_left Int.min_eq_right,Int.min_le_left a b,Int.min_le_right a b⟩
theorem YU{ns:List Int}{M:Int}(h1:M∈ns)(h2:∀a∈ns,a<=M):lD ns=M:=by
 cases ns with
 |nil=>cases h1|cons n r=>
  obtain⟨q1,q2,q3⟩:=Eg (le:=(·<=·)) (λa b c=>pL) wA max_le r n;refine Int.le_antisymm (q1.elim (λq=>pL (IF q) (h2 n aK)) λq=>h2 _ (aY _ q)) ?_;rcases List.mem_cons.mp h1 with rfl|q
  ·exact q2
  ·exact q3 M q
theorem YV{ns:List Int}{M:Int}(h1:M∈ns)(h2:∀a∈ns,M<=a):oK ns=M:=by
 cases ns with
 |nil=>cases h1|cons n r=>
  obtain⟨q1,q2,q3⟩:=Eg (f:=min) (le:=λa b=>b<=a) (λa b c p q=>pL q p) wA min_le r n;refine Int.le_antisymm ?_ (q1.elim (λq=>pL (h2 n aK) (IF q.symm)) λq=>h2 _ (aY _ q));rcases List.mem_cons.mp h1 with rfl|q
  ·exact q2
  ·exact q3 M q
theorem Eh(g:h.get? l=some (cM us n))(hi:IntsAre us ns):∃xs:Array (Int×Tok),h.IsList l (intItems xs)/\ns=xs.toList.map (·.1):=by obtain⟨xs,hx⟩:=hi.allInts.items;exact⟨xs,hx▸fH g,by rw[<-nums_intItems,<-hx];exact hi.numsOf.symm⟩
theorem YW(M:m.Ok H)(hn:C.A.handled=none)(ra:C.V ad σ h a v)(e:H (bY m gC (rW m (sumK m k)) a)):de C ad σ h (Hk H k) (.builtin "sum") [v]:=fh M e λxs ea e=>by obtain⟨is,ei,e⟩:=M.op e;obtain⟨l,vs,n,g,_,r⟩:=lF ea ra;obtain⟨xs,hl,rfl⟩:=Eh g (r.ints ei);refine .ints M e λtk Q q=>jY (sum_intListG hn hl λh' tk t' hk cO=>?_);rw[preSum_eq,CX (by rw[bB,lW];exact aQ _)];exact q _ _ _ (.of cO hk)
theorem Ma{xs:Array (Int×Tok)}(dB:xs.toList.map (·.1)≠[]):0<xs.size:=by have:=List.length_pos_iff.mpr dB;rwa[bB,lW]at this
theorem YX(M:m.Ok H)(hn:C.A.handled=none)(ra:C.V ad σ h a v)(e:H (bY m gC (rW m (Ag m lD k)) a)):de C ad σ h (Hk H k) (.builtin "max") [v]:=fh M e λxs ea e=>by
 obtain⟨is,ei,e⟩:=M.op e;obtain⟨dB,e⟩:=M.gd e;obtain⟨l,vs,n,g,_,r⟩:=lF ea ra;obtain⟨xs,hl,rfl⟩:=Eh g (r.ints ei);have cO:=Ma dB;refine .ints M e λtk Q q=>jY (max_intList hn hl cO λv h' tk hv hk hz=>?_);obtain⟨t,rfl⟩:=intItems_at hv;obtain⟨h1,h2⟩:=argBest_gt (numAt xs) (xs.size-1)
 rw[show lD (xs.toList.map (·.1))=numAt xs (argBest (λi j=>decide (numAt xs i>numAt xs j)) (xs.size-1))from YU (by rw[numAt_eq];exact getD_mem (by rw[bB,lW];exact b9 h1 (Nat.sub_one_lt_of_lt cO))) (λa ha=>by
  obtain⟨j,hj,rfl⟩:=mem_getD ha;rw[bB,lW]at hj
  rw[<-numAt_eq];exact h2 j (Nat.le_sub_one_of_lt hj))]at q
 exact q _ _ _ (.of hz hk)
theorem YY(M:m.Ok H)(hn:C.A.handled=none)(ra:C.V ad σ h a v)(e:H (bY m gC (rW m (Ag m oK k)) a)):de C ad σ h (Hk H k) (.builtin "min") [v]:=fh M e λxs ea e=>by
 obtain⟨is,ei,e⟩:=M.op e;obtain⟨dB,e⟩:=M.gd e;obtain⟨l,vs,n,g,_,r⟩:=lF ea ra;obtain⟨xs,hl,rfl⟩:=Eh g (r.ints ei);have cO:=Ma dB;refine .ints M e λtk Q q=>jY (min_intList hn hl cO λv h' tk hv hk hz=>?_);obtain⟨t,rfl⟩:=intItems_at hv;obtain⟨h1,h2⟩:=argBest_lt (numAt xs) (xs.size-1)
 rw[show oK (xs.toList.map (·.1))=numAt xs (argBest (λi j=>decide (numAt xs i<numAt xs j)) (xs.size-1))from YV (by rw[numAt_eq];exact getD_mem (by rw[bB,lW];exact b9 h1 (Nat.sub_one_lt_of_lt cO))) (λa ha=>by
  obtain⟨j,hj,rfl⟩:=mem_getD ha;rw[bB,lW]at hj
  rw[<-numAt_eq];exact h2 j (Nat.le_sub_one_of_lt hj))]at q
 exact q _ _ _ (.of hz hk)
theorem YZ(M:m.Ok H)(hn:C.A.handled=none)(ra:C.V ad σ h a v)(rb:C.V ad σ h b w)(e:H (jA m aR aR (Ah m max k) a b)):de C ad σ h (Hk H k) (.builtin "max") [v,w]:=lG M e λi j ea eb e=>by
 cases dK ea ra;cases dK eb rb;refine .ints M e λtk Q q=>jY (max_two_ints hn λh' tk hk hz=>?_);by_cases c:j>i
 ·rw[if_pos c];rw[IW (cb c)]at q;exact q _ _ _ (.of hz hk)
 ·rw[if_neg c];rw[Int.max_eq_left (Int.not_lt.mp c)]at q;exact q _ _ _ (.of hz hk)
theorem Y0(M:m.Ok H)(hn:C.A.handled=none)(ra:C.V ad σ h a v)(rb:C.V ad σ h b w)(e:H (jA m aR aR (Ah m min k) a b)):de C ad σ h (Hk H k) (.builtin "min") [v,w]:=lG M e λi j ea eb e=>by
 cases dK ea ra;cases dK eb rb;refine .ints M e λtk Q q=>jY (min_two_ints hn λh' tk hk hz=>?_);by_cases c:j<i
 ·rw[if_pos c];rw[Int.min_eq_right (cb c)]at q;exact q _ _ _ (.of hz hk)
 ·rw[if_neg c];rw[Int.min_eq_left (Int.not_lt.mp c)]at q;exact q _ _ _ (.of hz hk)
theorem Y1:argBest bt 2=ae (bt 1 0) (ae (bt 2 1) 2 1) (ae (bt 2 0) 2 0):=by cases h1:bt 1 0<;>cases h2:bt 2 1<;>cases h3:bt 2 0<;>simp[argBest,h1,h2,h3]
theorem Mb{prog:bF}{w:bj}{A:m7}{E:aa->aF->Prop}{s:aF}{Q:aa->aF->Prop}{op:bQ}{a b c:aa}{bt:Nat->Nat->Bool}(hh:A.handled=none)(hc:CmpOf prog w A.in1 op (λi v=>#[a,b,c][i]?=some v) bt) (h:∀v h' tk,#[a,b,c][argBest bt 2]?=some v->(∀d o,s.heap.get? d=some o->h'.get? d=some o)->Q v {s with heap:=h',toks:=tk}):wpAny (model prog w) A.in1 (pyIter (.ref s.heap.objs.size)) (λit lA=>∃I fp wr n P St bt,it=.ref I/\Walks prog w A.in1 I fp wr n P St/\St 0 lA.heap/\(∀b∈fp,b<lA.heap.objs.size)/\0<n/\CmpOf prog w A.in1 op P bt/\ ∀v h' tk,P (argBest bt (n-1)) v->(∀b o,b∉wr->lA.heap.get? b=some o->h'.get? b=some o)->Q v {lA with heap:=h',toks:=tk}) E {s with heap:=s.heap.push {cls:=.type "tuple",data:=.seq #[a,b,c]}}:=by
 have hT:(s.heap.push {cls:=.type "tuple",data:=.seq #[a,b,c]}).IsTuple s.heap.objs.size #[a,b,c]:=⟨_,cU _ rfl,rfl,0,rfl⟩
 have cO:(s.heap.push {cls:=.type "tuple",data:=.seq #[a,b,c]}).objs.size=s.heap.objs.size+1:=gq ..;have hl:s.heap.objs.size<s.heap.objs.size+1:=pN _;refine IX hT ⟨_,[_,s.heap.objs.size],[_],_,_,_,_,rfl,Walks.tuple (A:=A.in1) hh _ s.heap.objs.size (by rw[cO];exact fG hl) #[a,b,c],⟨⟨_,cU _ rfl,rfl,rfl⟩,hT.push _⟩,λd hd=>?_,CY _,hc,λv h' tk hP hk=>h v h' tk hP λd o e=>?_⟩
 ·show d<((s.heap.push _).push _).objs.size
  rw[gq,cO];rcases List.mem_cons.mp hd with rfl|hd
  ·rw[cO];exact pN _
  ·cases List.mem_singleton.mp hd;exact rD hl
 ·refine hk d o (λhm=>?_) (b7 _ (b7 _ e))
  have:=bu e;rw[List.mem_singleton.mp hm,cO]at this;exact rE _ (Nat.lt_of_succ_lt this)
theorem Mc(M:m.Ok H){G:Nat->Prop}{f:Bool×Nat->Bool×Nat->Bool}{bt:Nat->Nat->Bool}{p q r:Bool×Nat}(f1:bt 1 0=f p q)(f2:bt 2 1=f q r)(f3:bt 2 0=f p r)(e:H (three m f (kl k) p q r))(g0:H (k (.aG p.1 p.2))->G 0)(g1:H (k (.aG q.1 q.2))->G 1)(g2:H (k (.aG r.1 r.2))->G 2):G (argBest bt 2):=by
 obtain⟨t,e⟩:=M.br e;rw[Y1,f1,f2,f3];cases h1:f p q with
 |true=>
  obtain⟨t,e⟩:=M.br (t h1);cases h2:f q r with|true=>exact g2 (t h2)|false=>exact g1 (e h2)
 |false=>
  obtain⟨t,e⟩:=M.br (e h1);cases h2:f p r with|true=>exact g2 (t h2)|false=>exact g0 (e h2)
theorem Me{x y z:UInt64}{t u r:Tok}:∀v∈#[Value.float x t,.float y u,.float z r],NumV v:=λv hv=>by simp only[List.mem_toArray,t8,fc,or_false]at hv;rcases hv with rfl|rfl|rfl<;>exact .float _ _
theorem Out.u4{s:Bool}{N:Nat}{x:UInt64}{t:Tok}{tk:Nat}{Q:aa->aF->Prop}{h':Heap}(q:mr C ad σ h (Hk H k) Q)(f:Fl.FI x s N)(g:aI h h')(e:H (k (.aG s N))):Q (.float x t) (C.st h' tk):=q _ _ _ (.aG s N) g (.val ⟨_,t,f⟩) e
theorem Y2(M:m.Ok H)(hn:C.A.handled=none){c:AV}{u:aa}(ra:C.V ad σ h a v)(rb:C.V ad σ h b w)(rc:C.V ad σ h c u)(e:H (Ai m Aj k a b c)):de C ad σ h (Hk H k) (.builtin "max") [v,w,u]:=aW M.fail e λp ea e=>lG M e λq r eb ec e=>by
 cases j0 ea ra with
 |mk x t f=>cases j0 eb rb with
  |mk y t' f'=>cases j0 ec rc with
   |mk z Ei r9=>
    exact λtk Q qq=>jY (call_max_three (Mb (s:=C.st h tk) (Q:=λv s'=>h.objs.size<=s'.heap.objs.size->Q v s') hn (cmpOf_gt _ Me) λv h' tk hP hk hz=>Mc (G:=λi=>#[Value.float x t,.float y t',.float z Ei][i]?=some v->Q v (C.st h' tk)) M (Fl.lt_fi f f') (Fl.lt_fi f' r9) (Fl.lt_fi f r9) e
     (λe i=>by cases i;exact Out.u4 qq f (.of hz hk) e) (λe i=>by cases i;exact Out.u4 qq f' (.of hz hk) e) (λe i=>by cases i;exact Out.u4 qq r9 (.of hz hk) e) hP))
theorem Y3(M:m.Ok H)(hn:C.A.handled=none){c:AV}{u:aa}(ra:C.V ad σ h a v)(rb:C.V ad σ h b w)(rc:C.V ad σ h c u)(e:H (Ai m Ak k a b c)):de C ad σ h (Hk H k) (.builtin "min") [v,w,u]:=aW M.fail e λp ea e=>lG M e λq r eb ec e=>by
 cases j0 ea ra with
 |mk x t f=>cases j0 eb rb with
  |mk y t' f'=>cases j0 ec rc with
   |mk z Ei r9=>
    exact λtk Q qq=>jY (call_min_three (Mb (s:=C.st h tk) (Q:=λv s'=>h.objs.size<=s'.heap.objs.size->Q v s') hn (cmpOf_lt _ Me) λv h' tk hP hk hz=>Mc (G:=λi=>#[Value.float x t,.float y t',.float z Ei][i]?=some v->Q v (C.st h' tk)) M (Fl.lt_fi f' f) (Fl.lt_fi r9 f') (Fl.lt_fi r9 f) e
     (λe i=>by cases i;exact Out.u4 qq f (.of hz hk) e) (λe i=>by cases i;exact Out.u4 qq f' (.of hz hk) e) (λe i=>by cases i;exact Out.u4 qq r9 (.of hz hk) e) hP))
theorem Mf(M:m.Ok H){l:List Int->Int}{o:Int->Int->Int}{g:Bool×Nat->Bool×Nat->Bool}(r:C.Vl ad σ h as vs)(e:H (D6 m l o g as k)) (q1:∀a v,C.V ad σ h a v->H (bY m gC (rW m (Ag m l k)) a)->de C ad σ h (Hk H k) f [v]) (q2:∀a b v w,C.V ad σ h a v->C.V ad σ h b w->H (jA m aR aR (Ah m o k) a b)->de C ad σ h (Hk H k) f [v,w]) (q3:∀a b c v w u,C.V ad σ h a v->C.V ad σ h b w->C.V ad σ h c u->H (Ai m g k a b c)->de C ad σ h (Hk H k) f [v,w,u]):de C ad σ h (Hk H k) f vs:=by
 cases as with
 |nil=>exact absurd e M.fail|cons a as=>obtain⟨p,r⟩:=r;cases as with
  |nil=>cases r;exact q1 _ _ p e|cons b as=>obtain⟨p',r⟩:=r;cases as with
   |nil=>cases r;exact q2 _ _ _ _ p p' e|cons c as=>obtain⟨Y4,r⟩:=r;exact Ay M e λea e=>by subst ea;cases r;exact q3 _ _ _ _ _ _ p p' Y4 e
theorem Y5(M:m.Ok H)(O:C.Ok)(R:Rel C ad σ h){hn:Bool}(hh:hn=true->C.A.handled=none){b:Bi}(r:C.Vl ad σ h as vs)(e:H (Lx m hn b as k)):de C ad σ h (Hk H k) b.val vs:=by
 cases b with|len=>exact .one M r e λJ J=>YM M|abs=>exact .one M r e λJ J=>YN M|ord=>exact .one M r e λJ J=>YO M|chr=>exact .one M r e λJ J=>YP M|divmod=>exact .two M r e λJ J J J=>YT M O R|round=>exact let⟨x,e⟩:=Fl.bz M.fail e; .one M r e λJ J=>YR M (hh x)|int=>exact let⟨x,e⟩:=Fl.bz M.fail e; .one M r e λJ J=>YS M (hh x)|sum=>exact let⟨x,e⟩:=Fl.bz M.fail e; .one M r e λJ J=>YW M (hh x)|max=>exact let⟨x,e⟩:=Fl.bz M.fail e;Mf M r e (λJ J=>YX M (hh x)) (λJ J J J=>YZ M (hh x)) (λJ J J J J J=>Y2 M (hh x))|min=>exact let⟨x,e⟩:=Fl.bz M.fail e;Mf M r e (λJ J=>YY M (hh x)) (λJ J J J=>Y0 M (hh x)) (λJ J J J J J=>Y3 M (hh x))|_=>exact absurd e M.fail
end
section
variable{C:Fc}{ad:Str->Addr}
variable{α:Type}{m:Md α}{H:α->Prop}{k:AV->α}{kb:Bool->α}{as:List AV}{vs:List aa}{name:Str}{q:Mt}
noncomputable def Mt.V(C:Fc)(ad:Str->Addr)(σ:Sg)(h:Heap)(v:aa):Mt->Prop|.xn i=>uK i v|.join s=>uL s v|.rX s=>uL s v|.uV xs=>C.L ad σ h xs v
noncomputable def Mt.id:Mt->String|.xn i=>"int.bit_length"|.join s=>"str.join"|.rX s=>"str.count"|.uV xs=>"list.count"
noncomputable def Mt.ty:Mt->String|.xn i=>"int"|.join s=>"str"|.rX s=>"str"|.uV xs=>"list"
structure Mt.On(C:Fc)(ad:Str->Addr)(σ:Sg)(h:Heap)(name:Str)(v:aa)(q:Mt):Prop where
 pa:PlainAttrs q.ty
 sl:Slot q.ty name q.id
 ty:typeOf (.builtin q.id)=pure (.type "method_descriptor")
 is:∀tk,(C.st h tk).TypeIs v q.ty
 nd:∀b,v=.ref b->∃ob,h.get? b=some ob/\ob.dict=none
 vr:q.V C ad σ h v
theorem Mg(ra:C.L ad σ h xs v)(e:xo name xs=some q):q.On C ad σ h name v:=by
 cases hc:aA name "count" with|false=>unfold xo at e;rw[hc]at e;exact ai e|true=>unfold xo at e;rw[hc]at e;cases(cN _ _).mp hc;cases e;obtain⟨l,vs,n,g,_,r⟩:=ra;exact⟨F.plainAttrs_list,F.slot_list_count,F.type_list_count,λtk=>⟨_,g,rfl⟩,λb e=>by cases e;exact⟨_,g,rfl⟩,l,vs,n,g,trivial,r⟩
theorem Y6(ra:C.V ad σ h a v)(e:uW name a=some q):q.On C ad σ h name v:=by
 cases a with
 |int i=>
  cases hc:aA name "bit_length" with|false=>unfold uW at e;dsimp only at e;rw[hc]at e;exact ai e|true=>unfold uW at e;dsimp only at e;rw[hc]at e;cases(cN _ _).mp hc;cases e;obtain⟨t⟩:=ra;exact⟨F.plainAttrs_int,F.slot_int_bit_length,F.type_int_bit_length,λtk=>typeIs_int _ _ _,nofun,⟨t⟩⟩
 |str s=>
  obtain⟨t⟩:=ra;cases hc:aA name "join" with
  |true=>unfold uW at e;dsimp only at e;rw[hc]at e;cases(cN _ _).mp hc;cases e;exact⟨F.plainAttrs_str,F.slot_str_join,F.type_str_join,λtk=>rfl,nofun,⟨t⟩⟩|false=>
   unfold uW at e;dsimp only at e;rw[hc]at e;cases hd:aA name "count" with|true=>rw[hd]at e;cases(cN _ _).mp hd;cases e;exact⟨F.plainAttrs_str,F.slot_str_count,F.type_str_count,λtk=>rfl,nofun,⟨t⟩⟩|false=>rw[hd]at e;exact ai e
 |lst xs=>exact Mg (At.any ra) e|bU xs=>exact Mg ra.2 e|_=>exact ai e
theorem Mt.keep(g:aI h h'):q.V C ad σ h v->q.V C ad σ h' v:=by
 cases q with|uV xs=>exact At.imp (λa vs n J e=>⟨trivial,g.bX (.lst vs n) e⟩) λJ=>ay.keep g|_=>exact λx=>x
theorem Y7(M:m.Ok H)(hv:q.V C ad σ h v)(r:C.Vl ad σ h as vs)(e:H (Ly m as k q)):de C ad σ h (Hk H k) (.builtin q.id) (v::vs):=by
 cases q with
 |xn i=>obtain⟨t⟩:=hv;exact Ay M e λea e=>by subst ea;cases r;exact .int M e λtk Q q=>call_int_bit_length q
 |join s=>obtain⟨t⟩:=hv;exact .Az M r e λb w rb e=>fh M e λxs ea e=>by obtain⟨ys,ey,e⟩:=M.op e;obtain⟨z,e⟩:=M.gd e;obtain⟨l,us,n,g,_,r⟩:=lF ea rb;exact .Aw e λtk Q q=>join_list (fH g) (r.strs ey) z q
 |rX s=>obtain⟨t⟩:=hv;show de C ad σ h _ (.builtin "str.count") _;exact .Az M r e λb w rb e=>fh M e λy ea e=>by cases j1 ea rb;exact .int M e λtk Q q=>call_gives F.slot_str_count (typeIs_str _ _ _) F.entry_str_count (F.args_str_count_2 _ _) (gives_str_count s y _ _) q
 |uV xs=>obtain⟨l,us,n,g,_,r'⟩:=hv;exact .Az M r e λb w rb e=>fh M e λj ea e=>by cases dK ea rb;obtain⟨is,ei,e⟩:=M.op e;exact .int M e λtk Q q=>count_list_ints (fH g) (r'.ints ei) q
theorem VR.eH:VR h ok a False v->VR h ok a True v:=VR.mono (λJ J k J e=>⟨k,e⟩) a gY
variable{value slice:ab}{i:Int}{u:Tok}
theorem AB{x:List aa}{j:Nat}{y:aa}(e:x[j]?=some y):x.toArray[j]?=some y:=by rw[tQ];exact e
theorem Y8(M:m.Ok H)(ra:C.L ad σ h xs v∨At h gA (λJ=>True) (ay h (C.aJ ad σ) xs) v)(e:H (Lz m k i xs))(oQ:∀o i,subscripted slice false o i=operate [o,i] (getItem o i)):Out C ad σ h (Hk H k) (subscriptTail value slice v (.int i u)):=by
 obtain⟨z,e⟩:=M.gd e;obtain⟨e1,e2⟩:=M.br e;by_cases c:i<0
 ·obtain⟨h0,e⟩:=M.gd (e1 (decide_eq_true c))
  obtain⟨y,ey,e⟩:=M.op e;rcases ra with⟨l,vs,n,g,_,r⟩|⟨l,vs,n,g,_,r⟩
  ·obtain⟨x,ex,rx⟩:=r.get ey
   have hl:=r.length;exact .same rx.eH e λtk Q q=>tail_any (fH g).typeIs slot_list_getitem.lookup (wpAny_getItem_list_neg (x:=x) (fH g) c (by rw[dF,hl];exact(bL 0xe6e04e5e06e85e0009 1122577 [_] [_]) h0) ((bL 0xe6e04e8000000000000000109eb186a05a06e85e0009 17903889 [_] [_]) z h0) (by rw[dF,hl];exact AB ex) q) (oQ _ _)
  ·obtain⟨x,ex,rx⟩:=r.get ey
   have hl:=r.length;exact .same rx.eH e λtk Q q=>tail_any (nB g).typeIs slot_tuple_getitem.lookup (alJ (x:=x) (j:=(i+xs.length).toNat) (nB g) ((bL 0xe6e04e8000000000000000109eb186a05a06e85e0009 17903889 [_] [_]) z h0) ((dy 0xe7e8000000000000000109e07e090 1122576) c) (by rw[dF,hl];unfold seqIndex?;simp[c];exact(bL 0xe1f7e5e085e006e85e00097e0906e85e0009 18833716883729 [_] [_]) c h0) (AB ex) q) (oQ _ _)
 ·obtain⟨y,ey,e⟩:=M.op (e2 (decide_eq_false c))
  rcases ra with⟨l,vs,n,g,_,r⟩|⟨l,vs,n,g,_,r⟩
  ·obtain⟨x,ex,rx⟩:=r.get ey
   have hl:=r.length;have hj:=(List.getElem?_eq_some_iff.mp ey).1;exact .same rx.eH e λtk Q q=>tail_any (fH g).typeIs slot_list_getitem.lookup (wpAny_getItem_list (x:=x) (fH g) (Int.not_lt.mp c) ((bL 0xe7e8000000000000000109e0b186a05a0c012f1fd0916e0901f8e05e16e009 0x10014111001116112 [_,_] [_]) z hj i8) (AB ex) q) (oQ _ _)
  ·obtain⟨x,ex,rx⟩:=r.get ey
   have hl:=r.length;have hj:=(List.getElem?_eq_some_iff.mp ey).1;exact .same rx.eH e λtk Q q=>tail_any (nB g).typeIs slot_tuple_getitem.lookup (alJ (x:=x) (j:=i.toNat) (nB g) ((dy 0xe6e04e8000000000000000109e0f7e090 1122576) c) ((bL 0xe7e8000000000000000109e0b186a05a0c012f1fd0916e0901f8e05e16e009 0x10014111001116112 [_,_] [_]) z hj i8) (by rw[dF,hl];unfold seqIndex?;simp[c];exact(bL 0xe1f7e5e006e0090f7e090c012f1fd0916e0901f8e05e16e009 0x10110161110010161111211112112 [_,_] [_]) c hj i8) (AB ex) q) (oQ _ _)
theorem Y9(M:m.Ok H){s:Str}{t:Tok}(e:H (LA m k i s))(oQ:∀o i,subscripted slice false o i=operate [o,i] (getItem o i)):Out C ad σ h (Hk H k) (subscriptTail value slice (.str s t) (.int i u)):=by
 obtain⟨⟨h0,h1⟩,e⟩:=M.gd e;obtain⟨c,ec,e⟩:=M.op e;have hj:=(List.getElem?_eq_some_iff.mp ec).1
 exact .tok (a:=.str ⟨#[c]⟩) (λt=>⟨t⟩) e λtk Q q=>tail_any rfl F.slot_str_getitem.lookup (PyProof.Rows.getItem_str (by simp;exact(dy 0xe1f7e8000000000000000109e06e04e8000000000000000109e6e0097e8000000000000000109e0 17674076758288) h0 h1) (show(seqIndex? i s.length).bind _=_ by
  rw[show seqIndex? i s.length=some i.toNat by unfold seqIndex?;simp[Int.not_lt.mpr h0];exact(bL 0xe1f7e5e006e0096e009c012f1fd0916e0901f8e05e16e009 0x10110161110010161111211112112 [_,_] [_]) h0 hj i8];show s.cps[i.toNat]?=_
  rw[<-Array.getElem?_toList];exact ec) q) (oQ _ _)
theorem Za(M:m.Ok H)(ra:C.V ad σ h a v)(rb:C.V ad σ h b w)(e:H (LB m a b k))(oQ:∀o i,subscripted slice false o i=operate [o,i] (getItem o i)):Out C ad σ h (Hk H k) (subscriptTail value slice v w):=aW M.fail e λi eb e=>by cases dK eb rb;exact dD e (λe=>fh M e λxs ea e=>Y8 M (Ym ea ra) e oQ) λs ea e=>by cases j1 ea ra;exact Y9 M e oQ
end
structure It(α:Type) where
 E:Cx α->Sg->ab->(AV->α)->α
 T:Cx α->Sg->ab->(Bool->α)->α
 S:Cx α->Sg->List Stmt->(Sg->α)->(AV->α)->α
section
variable{α:Type}(m:Md α)(I:It α)(cx:Cx α)
def vk(k:AV->α)(a:AV):α:=k (eH a)
def vE(σ:Sg)(e:ab)(k:AV->α):α:=I.E cx σ e (vk k)
noncomputable def Mh(k:List AV->α)(a:AV)(as:List AV):α:=k (a::as)
def Mi(ih:(List AV->α)->α)(k:List AV->α)(a:AV):α:=ih (Mh k a)
def Zb(σ:Sg)(e:ab)(ih:(List AV->α)->α)(k:List AV->α):α:=vE I cx σ e (Mi ih k)
noncomputable def wY(k:List AV->α):α:=k []
def dX(σ:Sg)(es:List ab):(List AV->α)->α:=@d6 ab (λJ=>(List AV->α)->α) wY (λe J ih=>Zb I cx σ e ih) es
def Zc(σ:Sg)(r:ab)(f:AV->AV->α)(a:AV):α:=vE I cx σ r (f a)
def oR(σ:Sg)(l r:ab)(f:AV->AV->α):α:=vE I cx σ l (Zc I cx σ r f)
noncomputable def oS(x y:α)(b:Bool):α:=m.br b x y
def AC(σ:Sg)(es:List ab)(k:Bool->α):α:=@d6 ab (λJ=>α) (k true) (λe J ih=>I.T cx σ e (oS m ih (k false))) es
def Mj(σ:Sg)(es:List ab)(k:Bool->α):α:=@d6 ab (λJ=>α) (k false) (λe J ih=>I.T cx σ e (oS m (k true) ih)) es
def Zd(x:α)(k:AV->α)(a:AV):α:=opt m.fail (uP a) (oS m x (k (.bool false)))
def Ze(σ:Sg)(e:ab)(r:List ab)(x:α)(k:AV->α):α:=(@bW _ (λJ=>α) r (vE I cx σ e k) (λJ J=>vE I cx σ e (Zd m x k)))
def Mk(σ:Sg)(es:List ab)(k:AV->α):α:=@d6 ab (λJ=>α) m.fail (λe r ih=>Ze m I cx σ e r ih k) es
def Zf(x:Str)(k:GV α->α)(kd:bG):α:=(@CZ (λJ=>α) kd m.fail m.fail m.fail m.fail (opt m.fail (aj x cx.gl) k))
def glob(x:Str)(k:GV α->α):α:=opt m.fail (aj x cx.sc) (Zf m cx x k)
def Zg(k:AV->α)(g:GV α):α:=(@GV.casesOn _ (λJ=>α) g (λa=>k a) (λb=>Af m b k) (λJ=>m.fail) (λb=>k (.jb b.val)))
def Zh(k:AV->α)(a:AV):α:=k (jz a)
def Mm(σ:Sg)(x:Str)(k:AV->α):α:=opt (glob m cx x (Zg m k)) (aj x σ) (Zh k)
noncomputable def stK(kd:bG):Bool:=(@CZ (λJ=>Bool) kd true true false false false)
def AD(x:Str):Bool:=cx.st.any (aA x)
def Zi(p:Str×bG):Bool:=stK p.2
def gD(sc:List (Str×bG)):List Str:=(sc.filter Zi).map (·.1)
def Mn(c:Const)(k:AV->α):α:=(@CU (λJ=>α) c (k .none) (λb=>k (.bool b)) (λi=>k (.int i)) (λb=>Af m b k) (λJ J=>m.fail) (λs=>k (.str s)) (λJ=>m.fail) m.fail)
def Mo(op:cE)(k:AV->α)(a b:AV):α:=Lb m op a b k
def Zj(k:AV->α)(b:Bool):α:=k (.bool (dW b))
noncomputable def Mp(k:AV->α)(b:Bool):α:=k (.bool b)
def Zk(k:AV->α)(a:AV):α:=D5 m a (Zj k)
def Ej(op:UnaryOp)(k:AV->α)(a:AV):α:=Lk m op a k
def Mq(σ:Sg)(op:UnaryOp)(e:ab)(k:AV->α):α:=(@CV (λJ=>α) op (vE I cx σ e (Ej m op k)) (vE I cx σ e (Zk m k)) (vE I cx σ e (Ej m op k)) (vE I cx σ e (Ej m op k)))
def Mr(op:bQ)(k:Bool->α)(a b:AV):α:=D4 m op a b k
def uM(σ:Sg)(l:ab)(op:bQ)(e:ab)(k:Bool->α):α:=ae (behindInMarks op e) m.fail (oR I cx σ l e (Mr m op k))
def Zl(σ:Sg)(o2:bQ)(e2:ab)(k:Bool->α)(b:AV):α:=vE I cx σ e2 (Mr m o2 k b)
def Zm(σ:Sg)(o1 o2:bQ)(e2:ab)(k:Bool->α)(a b:AV):α:=D4 m o1 a b (oS m (Zl m I cx σ o2 e2 k b) (k false))
def Ms(σ:Sg)(l:ab)(o1:bQ)(e1:ab)(o2:bQ)(e2:ab)(k:Bool->α):α:=ae (behindInMarks o2 e2) m.fail (oR I cx σ l e1 (Zm m I cx σ o1 o2 e2 k))
def Mv(σ:Sg)(l:ab)(ops:List bQ)(es:List ab)(k:Bool->α):α:=(@bW _ (λJ=>α) ops m.fail (λo os=>(@bW _ (λJ=>α) os ((@bW _ (λJ=>α) es m.fail (λe r=>(@bW _ (λJ=>α) r (uM m I cx σ l o e k) (λJ J=>m.fail))))) (λJ J=>m.fail))))
def Zn(σ:Sg)(l:ab)(o:bQ)(e:ab)(os:List bQ)(es:List ab)(k:Bool->α):α:=(@bW _ (λJ=>α) os ((@bW _ (λJ=>α) es (uM m I cx σ l o e k) (λJ J=>m.fail))) (λo2 os=>(@bW _ (λJ=>α) os ((@bW _ (λJ=>α) es m.fail (λe2 r=>(@bW _ (λJ=>α) r (Ms m I cx σ l o e o2 e2 k) (λJ J=>m.fail))))) (λJ J=>m.fail))))
def Mw(σ:Sg)(l:ab)(ops:List bQ)(es:List ab)(k:Bool->α):α:=(@bW _ (λJ=>α) ops m.fail (λo os=>(@bW _ (λJ=>α) es m.fail (λe es=>Zn m I cx σ l o e os es k))))
def Zo(σ:Sg)(op:BoolOp)(es:List ab)(k:AV->α):α:=(@PySem.BoolOp.casesOn (λJ=>α) op (Mk m I cx σ es k) m.fail)
def Mx(σ:Sg)(op:BoolOp)(es:List ab)(k:Bool->α):α:=(@PySem.BoolOp.casesOn (λJ=>α) op (AC m I cx σ es k) (Mj m I cx σ es k))
def My(σ:Sg)(c x y:ab)(k:AV->α):α:=I.T cx σ c (oS m (I.E cx σ x k) (I.E cx σ y k))
def Zp(f:List AV->AV)(k:AV->α)(as:List AV):α:=ae (as.all fz) (m.gd (as.length<=10000) inferInstance (k (f as))) m.fail
def xr(σ:Sg)(es:List ab)(f:List AV->AV)(k:AV->α):α:=ae (noStar es) (dX I cx σ es (Zp m f k)) m.fail
def AE(k:AV->α)(a b:AV):α:=LB m a b k
noncomputable def l3{β:Type}(l:List β):Option (β×β×β):=(@bW _ (λJ=>Option (β×β×β)) l none (λa l=>(@bW _ (λJ=>Option (β×β×β)) l none (λb l=>(@bW _ (λJ=>Option (β×β×β)) l none (λc l=>(@bW _ (λJ=>Option (β×β×β)) l (some (a,b,c)) (λJ J=>none))))))))
def Mz(y:Option ab)(v:ab):Option (Str×Int):=opt none y λy=>opt none (KZ y) λs=>opt none (Ae v) λn=>some (s,n)
def MA(ks:List (Option ab)):List ab->Option (List (Str×Int)):=ks.rec (λvs=>vs.casesOn (some []) λJ J=>none) λy J r vs=>vs.casesOn none λv vs=>opt none (Mz y v) λq=>opt none (r vs) λd=>some (q::d)
def AF(e:ab):Option (List (Str×Int)):=(by induction e using cv with|Dict ks vs J=>exact ae (bh ks.length 15) (ae ks.isEmpty none (MA ks vs)) none|_=>exact none)
def AG(k:AV->α)(x:Str)(d:List (Str×Int)):α:=d.rec m.fail λp J r=>ae (aA x p.1) (k (.int p.2)) r
def MB(d:List (Str×Int)):Bool:=d.rec true λp d r=>ae (d.any λq=>aA p.1 q.1) false r
def Zq(d:List (Str×Int))(k:AV->α)(x:Str):α:=ae (MB d) (AG m k x d) m.fail
noncomputable def Zr(k:AV->α)(n:Int)(xs:List AV):α:=m.gd (0<=n/\xs.length<=10000000) inferInstance (k (.own (xs.take n.toNat)))
noncomputable def MC(k:AV->α)(xs:List AV):α:=m.gd (xs.length<=10000000) inferInstance (k (.own xs.reverse))
def MD(k:AV->α)(s:Str):α:=m.gd (s.length<=10000000) inferInstance (k (.str (xl s)))
def Zs(k:AV->α)(a:AV):α:=opt (bY m gC (MC m k) a) (dU a) (MD m k)
def ME(k:AV->α)(n:Int)(a:AV):α:=bY m gC (Zr m k n) a
noncomputable def qr(e:ab):Bool:=(by induction e using cv with|Slice J J J J=>exact true|_=>exact false)
def Ek(e:ab):Option Int:=(@cv (λJ=>Option Int) e (λJ J J=>none) (λJ J J=>none) (λJ J J J=>none) (λJ J J=>none) (λJ J J J=>none) (λJ J J J=>none) (λJ J J=>none) (λJ J J=>none) (λJ J J J=>none) (λJ J J J=>none) (λJ J J J J=>none) (λJ J J J=>none) (λJ J=>none) (λJ J=>none) (λJ J=>none) (λJ J J J=>none) (λJ J J J=>none) (λJ J J J=>none) (λJ J=>none) (λJ J J=>none) (λJ J J=>none) (λJ J J=>none) (λJ J=>none) (λJ J=>none) (λJ J=>none) (λJ J J=>none) (λa b c J=>(@y5 _ (λJ=>Option Int) a ((@y5 _ (λJ=>Option Int) c ((@y5 _ (λJ=>Option Int) b none (λe=>Ae e))) (λJ=>none))) (λJ=>none))))
def El(e:ab):Option ab:=(@cv (λJ=>Option ab) e (λJ J J=>none) (λJ J J=>none) (λJ J J J=>none) (λJ J J=>none) (λJ J J J=>none) (λJ J J J=>none) (λJ J J=>none) (λJ J J=>none) (λJ J J J=>none) (λJ J J J=>none) (λJ J J J J=>none) (λJ J J J=>none) (λJ J=>none) (λJ J=>none) (λJ J=>none) (λJ J J J=>none) (λJ J J J=>none) (λJ J J J=>none) (λJ J=>none) (λJ J J=>none) (λJ J J=>none) (λJ J J=>none) (λJ J=>none) (λJ J=>none) (λJ J=>none) (λJ J J=>none) (λa b c J=>(@y5 _ (λJ=>Option ab) a ((@y5 _ (λJ=>Option ab) b ((@y5 _ (λJ=>Option ab) c none (λe=>K0 e))) (λJ=>none))) (λJ=>none))))
def Zt(k:AV->α)(a:AV)(i:Int):α:=m.gd (i=1) inferInstance (Zs m k a)
def Zu(k:AV->α)(a:AV)(e:ab):α:=opt m.fail (Ae e) (Zt m k a)
def Zv(k:AV->α)(a:AV)(n:Int):α:=ME m k n a
def Zw(i:ab)(k:AV->α)(a:AV):α:=opt (opt m.fail (El i) (Zu m k (jz a))) (Ek i) (Zv m k (jz a))
def Em(σ:Sg)(i:ab)(k:AV->α)(x:Str):α:=opt m.fail (aj x σ) (Zw m i k)
def AH(σ:Sg)(i:ab)(k:AV->α)(d:List (Str×Int)):α:=vE I cx σ i (bY m dU (Zq m d k))
def AI(σ:Sg)(v i:ab)(k:AV->α):α:=ae (qr i) (opt m.fail (cP v) (Em m σ i k)) (opt (oR I cx σ v i (AE m k)) (AF v) (AH m I cx σ i k))
def Zx(x:Str)(xs:List AV):AV:=ae (cx.mu.any (aA x)) (.own xs) (.lst xs)
def hold(x:Str)(a:AV):AV:=opt a (xj a) (Zx cx x)
def En(x:Str)(a:AV):Bool:=(by induction a using AV.casesOn with|bU J=>exact false|own J=>exact cx.mu.any (aA x)|_=>exact true)
def Zy(as:List AV)(σ:Sg)(k:Sg->α):α:=uU m as (k σ)
def Zz(ih:List AV->Sg->(Sg->α)->α)(a:AV)(r:List AV)(σ:Sg)(k:Sg->α)(x:Str):α:=ae (AD cx x) (ae (En cx x a) (ih r (bR x a σ) k) m.fail) m.fail
def ZA(t:ab)(ih:List AV->Sg->(Sg->α)->α)(as:List AV)(σ:Sg)(k:Sg->α):α:=(@bW _ (λJ=>α) as m.fail (λa r=>opt m.fail (cP t) (Zz m cx ih a r σ k)))
def xt(ts:List ab):List AV->Sg->(Sg->α)->α:=@d6 ab (λJ=>List AV->Sg->(Sg->α)->α) (Zy m) (λt J ih=>ZA m cx t ih) ts
def MF(ts:List ab)(σ:Sg)(k:Sg->α)(as:List AV):α:=xt m cx ts as σ k
def ZB(ts:List ab)(σ:Sg)(k:Sg->α)(as:List AV):α:=ae cx.hn (xt m cx ts as σ k) m.fail
def Eo(a:AV)(σ:Sg)(k:Sg->α)(ts:List ab):α:=opt (opt m.fail (gC a) (ZB m cx ts σ k)) (qn a) (MF m cx ts σ k)
def MG(a:AV)(σ:Sg)(k:Sg->α)(x:Str):α:=ae (AD cx x) (ae (En cx x a) (k (bR x a σ)) m.fail) m.fail
def Ep(σ:Sg)(t:ab)(k:Sg->α)(a:AV):α:=opt (opt m.fail (cP t) (MG m cx a σ k)) (ny t) (Eo m cx a σ k)
noncomputable def qw(c:Nat):AV:=.str ⟨#[c]⟩
def ZD(k:List AV->α)(s:Str):α:=k (s.cps.toList.map qw)
def ZE(k:List AV->α)(a:AV):α:=opt (opt m.fail (xi a) k) (dU a) (ZD k)
def u5(k:List AV->α)(a b c:Int):α:=m.gd (wL a b c=true/\0<=iH a b c/\c≠0/\ij (b-a) c=false) inferInstance (k (dJ a (iH a b c).toNat c))
def ZF(k:List AV->α)(a:Int):α:=u5 m k 0 a 1
def ZG(k:List AV->α)(a b:Int):α:=u5 m k a b 1
def ZH(k:List AV->α)(a b d:Int):α:=u5 m k a b d
def ZI(k:List AV->α)(a b d:AV):α:=opt m.fail (aR a) λa=>jA m aR aR (ZH m k a) b d
def AJ(vs:List AV)(k:List AV->α):α:=(@bW _ (λJ=>α) vs m.fail (λa r=>(@bW _ (λJ=>α) r (bY m aR (ZF m k) a) (λb r=>(@bW _ (λJ=>α) r (jA m aR aR (ZG m k) a b) (λd r=>uU m r (ZI m k a b d)))))))
noncomputable def u6(i x:AV):AV:=.tup [i,x]
def u9(c:Nat)(x:AV):AV:=.tup [qw c,x]
def ZJ(k:List AV->α)(xs:List AV):α:=k (m9 u6 (dJ 0 xs.length 1) xs)
noncomputable def ZK(k:List AV->α)(xs:List AV):α:=k xs.reverse
def ZL(k:List AV->α)(s:Str)(ys:List AV):α:=m.gd (s.cps.size<=ys.length) inferInstance (k (m9 u9 s.cps.toList ys))
def isTup(e:ab):Bool:=opt false (ny e) λJ=>true
def ZM(bw:Bool)(tg:ab)(b:Bi)(k:List AV->α)(vs:List AV):α:=(@Bi.casesOn (λJ=>α) b m.fail (ae cx.hn (AJ m vs k) m.fail) (ae cx.hn (ae (isTup tg) (one m vs (bY m gC (ZJ k))) m.fail) m.fail) (ae cx.hn (ae bw (ae (isTup tg) (two m vs (jA m dU xi (ZL m k))) m.fail) m.fail) m.fail) (one m vs (bY m gC (ZK k))) m.fail m.fail m.fail m.fail m.fail m.fail m.fail m.fail m.fail m.fail m.fail (λJ=>(m.fail)))
noncomputable def isIt(b:Bi):Bool:=(@Bi.casesOn (λJ=>Bool) b false true true true true false false false false false false false false false false false (λJ=>(false)))
def sj(x y:Bool):Bool:=ae x true y
def MH(bw:Bool)(tg:ab)(b:Bi)(k:List AV->α)(vs:List AV):α:=ae (sj bw (vs.all fz)) (ZM m cx bw tg b k vs) m.fail
def MI(bw:Bool)(k:List AV->α)(a:AV):α:=ae cx.hn (ae (sj bw (fz a)) (ZE m k a) m.fail) m.fail
def sB(bw:Bool)(σ:Sg)(e:ab)(k:List AV->α):α:=vE I cx σ e (MI m cx bw k)
def Es(bw:Bool)(σ:Sg)(tg e:ab)(as:List ab)(k:List AV->α)(b:Bi):α:=ae (isIt b) (ae (oI as) (dX I cx σ as (MH m cx bw tg b k)) m.fail) (sB m I cx bw σ e k)
def Et(bw:Bool)(σ:Sg)(tg e:ab)(as:List ab)(k:List AV->α)(g:GV α):α:=(@GV.casesOn _ (λJ=>α) g (λJ=>sB m I cx bw σ e k) (λJ=>sB m I cx bw σ e k) (λJ=>sB m I cx bw σ e k) (λb=>Es m I cx bw σ tg e as k b))
def ZN(bw:Bool)(σ:Sg)(tg e:ab)(as:List ab)(k:List AV->α)(x:Str):α:=glob m cx x (Et m I cx bw σ tg e as k)
def ZO(bw:Bool)(σ:Sg)(tg e:ab)(k:List AV->α)(p:ab×List ab):α:=opt (sB m I cx bw σ e k) (cP p.1) (ZN m I cx bw σ tg e p.2 k)
noncomputable def MJ(e:ab):Bool:=(by induction e using cv with|Set J J J=>exact false|_=>exact true)
def Eu(bw:Bool)(σ:Sg)(tg e:ab)(k:List AV->α):α:=ae (MJ e) (opt (sB m I cx bw σ e k) (xk e) (ZO m I cx bw σ tg e k)) m.fail
def MK(ih:(List AV->α)->α)(k:List AV->α)(v:AV):α:=ae (fz v) (ih (Mh k v)) m.fail
def ZP(g:t9)(elt:ab)(ih:(List AV->α)->α)(k:List AV->α)(σ:Sg):α:=AC m I cx σ g.ifs (oS m (vE I cx σ elt (MK m ih k)) (ih k))
def ZQ(g:t9)(elt:ab)(σ:Sg)(a:AV)(ih:(List AV->α)->α)(k:List AV->α):α:=Ep m cx σ g.target (ZP m I cx g elt ih k) a
def AK(g:t9)(elt:ab)(σ:Sg)(xs:List AV):(List AV->α)->α:=@d6 AV (λJ=>(List AV->α)->α) wY (λa J ih=>ZQ m I cx g elt σ a ih) xs
noncomputable def sC(kd:bG):Bool:=(@CZ (λJ=>Bool) kd false false true false false)
noncomputable def xu(kd:bG):Bool:=(@CZ (λJ=>Bool) kd false true true false false)
def isFree(sc:List (Str×bG))(p:Str×AV):Bool:=opt false (aj p.1 sc) sC
def ML(p:Str×AV):Str×AV:=(p.1,jz p.2)
def iq(sc:List (Str×bG))(σ:Sg):Sg:=(σ.filter (isFree sc)).map ML
noncomputable def ZR(p:Str×bG)(kd:bG):Str×bG:=(@CZ (λJ=>Str×bG) kd (p) ((p.1,.cell)) (p) (p) (p))
def ir(sc:List (Str×bG))(p:Str×bG):Str×bG:=ae (sC p.2) (opt p (aj p.1 sc) (ZR p)) p
def sD(sc:List (Str×bG)):Cx α:=⟨sc.map (ir cx.sc),gD sc,cx.gl,[],[],cx.wf,cx.hn,[]⟩
def ZS(sc:List (Str×bG))(p:Str×bG):Bool:=ae (sC p.2) (opt false (aj p.1 sc) xu) true
def oU(l:List (Str×bG)):Bool:=@d6 (Str×bG) (λJ=>Bool) true (λp r ih=>opt ih (aj p.1 r) (λJ=>false)) l
def okN(p:Str×bG):Bool:=cY p.1
noncomputable def MM(sc:ig):Bool:=decide (sc.kind=.function)
def MN(sc:ig):Bool:=ae (MM sc) (ae (oU sc.names) (ae (sc.names.all (ZS cx.sc)) (sc.names.all okN) false) false) false
def ZT(σ:Sg)(elt:ab)(g:t9)(sc:ig)(k:List AV->α)(xs:List AV):α:=m.gd (xs.length<=100000) inferInstance (AK m I (sD cx sc.names) g elt (iq sc.names σ) xs k)
def AL(σ:Sg)(elt:ab)(gs:List t9)(sc:ig)(k:List AV->α):α:=(@bW _ (λJ=>α) gs m.fail (λg r=>(@bW _ (λJ=>α) r (ae (decide (g.is_async=0)) (ae cx.hn (ae (MN cx sc) (Eu m I cx true σ g.target g.iter (ZT m I cx σ elt g sc k)) m.fail) m.fail) m.fail) (λJ J=>m.fail))))
noncomputable def MO(k:AV->α)(b:Bi)(_:Int):α:=(@Bi.casesOn (λJ=>α) b m.fail m.fail m.fail m.fail m.fail m.fail m.fail m.fail m.fail m.fail (k (.bool true)) (k (.bool false)) m.fail m.fail m.fail m.fail (λJ=>(m.fail)))
def ZU(σ:Sg)(e:ab)(k:AV->α)(g:GV α):α:=(@GV.casesOn _ (λJ=>α) g (λJ=>m.fail) (λJ=>m.fail) (λJ=>m.fail) (λb=>vE I cx σ e (bY m aR (MO m k b))))
def MP(σ:Sg)(as:List ab)(k:AV->α):α:=(@bW _ (λJ=>α) as m.fail (λe r=>(@bW _ (λJ=>α) r m.fail (λt r=>(@bW _ (λJ=>α) r (opt m.fail (cP t) λx=>glob m cx x (ZU m I cx σ e k)) (λJ J=>m.fail))))))
def Ew(f:List AV->(AV->α)->α)(k:AV->α)(vs:List AV):α:=ae (vs.all fz) (f vs k) m.fail
def je(b:Bi)(k:AV->α)(vs:List AV):α:=Lx m cx.hn b vs k
noncomputable def Ex(k:AV->α)(xs:List AV):α:=k (.own xs)
noncomputable def MQ(k:AV->α)(xs:List AV):α:=m.gd (xs.length<=100000) inferInstance (k (.own xs))
def lstK(k:AV->α)(vs:List AV):α:=AJ m vs (MQ m k)
noncomputable def ZV(b:Bi):Bool:=(@Bi.casesOn (λJ=>Bool) b false true false false false false false false false false false false false false false false (λJ=>(false)))
def ZW(σ:Sg)(as:List ab)(k:AV->α)(b:Bi):α:=ae (ZV b) (ae (oI as) (dX I cx σ as (lstK m k)) m.fail) m.fail
def ZX(σ:Sg)(as:List ab)(k:AV->α)(g:GV α):α:=(@GV.casesOn _ (λJ=>α) g (λJ=>m.fail) (λJ=>m.fail) (λJ=>m.fail) (λb=>ZW m I cx σ as k b))
def ZY(σ:Sg)(as:List ab)(k:AV->α)(x:Str):α:=glob m cx x (ZX m I cx σ as k)
def ZZ(σ:Sg)(k:AV->α)(p:ab×List ab):α:=opt m.fail (cP p.1) (ZY m I cx σ p.2 k)
def MR(σ:Sg)(as:List ab)(k:AV->α):α:=(@bW _ (λJ=>α) as m.fail (λe r=>(@bW _ (λJ=>α) r (ae cx.hn (opt m.fail (xk e) (ZZ m I cx σ k)) m.fail) (λJ J=>m.fail))))
def Z0(σ:Sg)(as:List ab)(k:AV->α)(b:Bi):α:=(@Bi.casesOn (λJ=>α) b (dX I cx σ as (je m cx b k)) (dX I cx σ as (je m cx b k)) (dX I cx σ as (je m cx b k)) (dX I cx σ as (je m cx b k)) (dX I cx σ as (je m cx b k)) (MR m I cx σ as k) (dX I cx σ as (je m cx b k)) (dX I cx σ as (je m cx b k)) (dX I cx σ as (je m cx b k)) (dX I cx σ as (je m cx b k)) (dX I cx σ as (je m cx b k)) (dX I cx σ as (je m cx b k)) (dX I cx σ as (je m cx b k)) (dX I cx σ as (je m cx b k)) (dX I cx σ as (je m cx b k)) (MP m I cx σ as k) (λJ=>(dX I cx σ as (je m cx b k))))
def Z1(σ:Sg)(as:List ab)(k:AV->α)(g:GV α):α:=(@GV.casesOn _ (λJ=>α) g (λJ=>m.fail) (λJ=>m.fail) (λf=>dX I cx σ as (Ew m f k)) (λb=>Z0 m I cx σ as k b))
def Z2(σ:Sg)(as:List ab)(k:AV->α)(q:Mt):α:=dX I cx σ as λvs=>Ly m vs k q
def MS(σ:Sg)(as:List ab)(k:AV->α)(p:ab×Str):α:=vE I cx σ p.1 λa=>opt m.fail (uW p.2 a) (Z2 m I cx σ as k)
def Z3(σ:Sg)(as:List ab)(k:AV->α)(f:List AV->(AV->α)->α):α:=dX I cx σ as (Ew m f k)
def Z4(σ:Sg)(as:List ab)(k:AV->α)(x:Str):α:=opt (glob m cx x (Z1 m I cx σ as k)) (aj x cx.pn) (Z3 m I cx σ as k)
def MT(σ:Sg)(l:Nat)(f:ab)(as:List ab)(k:AV->α):α:=ae (oI as) (opt (opt m.fail (uR l f) (MS m I cx σ as k)) (cP f) (Z4 m I cx σ as k)) m.fail
def Ey(σ:Sg)(e:ab)(k:AV->α):α:=(by induction e using cv with|BoolOp op es J=>exact Zo m I cx σ op es k|BinOp l op r J=>exact oR I cx σ l r (Mo m op k)|UnaryOp op e J=>exact Mq m I cx σ op e k|IfExp c x y J=>exact My m I cx σ c x y k|ListComp elt gs sc J=>exact AL m I cx σ elt gs sc (Ex k)|Compare l ops es J=>exact Mv m I cx σ l ops es (Mp k)|Call f as ks p=>exact(@bW _ (λJ=>α) ks (MT m I cx σ p.line f as k) (λJ J=>m.fail))|Constant c J J=>exact Mn m c k|Subscript v i J=>exact AI m I cx σ v i k|Name x J=>exact Mm m cx σ x k|List es J=>exact xr m I cx σ es .own k|Tuple es J J=>exact xr m I cx σ es .tup k|_=>exact m.fail)
def Z5(k:Bool->α)(a:AV):α:=D5 m a k
def eI(σ:Sg)(e:ab)(k:Bool->α):α:=vE I cx σ e (Z5 m k)
def stepT(σ:Sg)(e:ab)(k:Bool->α):α:=(@cv (λJ=>α) e (λop es J=>Mx m I cx σ op es k) (λJ J J=>eI m I cx σ e k) (λJ J J J=>eI m I cx σ e k) (λop x J=>(@CV (λJ=>α) op (eI m I cx σ e k) (I.T cx σ x (nk k)) (eI m I cx σ e k) (eI m I cx σ e k))) (λJ J J J=>eI m I cx σ e k) (λJ J J J=>m.fail) (λJ J J=>eI m I cx σ e k) (λJ J J=>eI m I cx σ e k) (λJ J J J=>eI m I cx σ e k) (λJ J J J=>eI m I cx σ e k) (λJ J J J J=>eI m I cx σ e k) (λJ J J J=>eI m I cx σ e k) (λJ J=>eI m I cx σ e k) (λJ J=>eI m I cx σ e k) (λJ J=>eI m I cx σ e k) (λl ops es J=>Mw m I cx σ l ops es k) (λJ J J J=>eI m I cx σ e k) (λJ J J J=>eI m I cx σ e k) (λJ J=>eI m I cx σ e k) (λJ J J=>eI m I cx σ e k) (λJ J J=>eI m I cx σ e k) (λJ J J=>eI m I cx σ e k) (λJ J=>eI m I cx σ e k) (λJ J=>eI m I cx σ e k) (λJ J=>eI m I cx σ e k) (λJ J J=>eI m I cx σ e k) (λJ J J J=>eI m I cx σ e k))
def sE(xs:List Str)(p:Str×AV):Str×AV:=ae (xs.any (aA p.1)) (p.1,eH p.2) p
def AM(xs:List Str)(σ:Sg):Sg:=σ.map (sE xs)
noncomputable def MU(a:AV):Bool:=(by induction a using AV.casesOn with|own J=>exact true|_=>exact false)
def Ez(σ:Sg)(x:Str):Bool:=opt false (aj x σ) MU
def jC(xs:List Str)(σ:Sg):Sg:=ae (xs.any (Ez σ)) (AM xs σ) σ
def MV(e:ab):List Str:=opt [] (cP e) λx=>[x]
def namesOf(e:ab):List Str:=opt (MV e) (xk e) λp=>p.2.flatMap MV
def Z6(σ:Sg)(e:ab)(ih:(List AV->α)->α)(k:List AV->α):α:=I.E cx σ e (Mi ih k)
def MX(σ:Sg)(es:List ab):(List AV->α)->α:=@d6 ab (λJ=>(List AV->α)->α) wY (λe J ih=>Z6 I cx σ e ih) es
def xv(l:List ab):Bool:=@d6 ab (λJ=>Bool) true (λe r ih=>opt false (cP e) λx=>ae (r.any λy=>opt true (cP y) (aA x)) false ih) l
def AN(x:Str)(σ:Sg)(k:Sg->α)(a:AV):α:=MG m cx (hold cx x a) σ k x
def Z7(ts:List ab)(σ:Sg)(k:Sg->α)(a:AV):α:=Eo m cx a σ k ts
noncomputable def MY(e:ab):Bool:=constantsAlone 8 e
def MZ(σ:Sg)(ts:List ab)(k:Sg->α)(es:List ab):α:=ae (oI es) (ae (xv ts) (ae (bh ts.length 29) (ae (es.all MY) m.fail (MX I cx σ es (MF m cx ts σ k))) m.fail) m.fail) m.fail
def AO(σ:Sg)(e:ab)(k:Sg->α)(ts:List ab):α:=opt (vE I cx (jC (namesOf e) σ) e (Z7 m cx ts (jC (namesOf e) σ) k)) (ny e) (MZ m I cx σ ts k)
noncomputable def EA(kk:List AV->Nat->α)(xs:List AV)(j:Int):α:=m.gd (0<=j/\j<xs.length/\xs.length<=100000) inferInstance (kk xs j.toNat)
def Z8(σ:Sg)(i:ab)(kk:List AV->Nat->α)(xs:List AV):α:=vE I cx σ i (bY m aR (EA m kk xs))
def EB(x:Str)(σ:Sg)(i:ab)(kk:List AV->Nat->α):α:=opt m.fail (aj x σ) (bY m xj (Z8 m I cx σ i kk))
def EC(x:Str)(σ:Sg)(k:Sg->α)(a:AV)(xs:List AV)(j:Nat):α:=ae (fz a) (k (bR x (.own (xs.set j a)) σ)) m.fail
def Z9(x:Str)(σ:Sg)(i:ab)(k:Sg->α)(a:AV):α:=EB m I cx x σ i (EC m x σ k a)
def aaa(σ:Sg)(e i:ab)(k:Sg->α)(x:Str):α:=vE I cx σ e (Z9 m I cx x σ i k)
def M5(σ:Sg)(e:ab)(k:Sg->α)(p:ab×ab):α:=ae (qr p.2) m.fail (opt m.fail (cP p.1) (aaa m I cx σ e p.2 k))
def aab(σ:Sg)(e:ab)(k:Sg->α)(x:Str):α:=I.E cx (jC (namesOf e) σ) e (AN m cx x (jC (namesOf e) σ) k)
def ED(σ:Sg)(t e:ab)(k:Sg->α):α:=opt m.fail (cP t) (aab m I cx σ e k)
def aac(σ:Sg)(t e:ab)(k:Sg->α):α:=opt (opt (ED m I cx σ t e k) (D0 t) (M5 m I cx σ e k)) (ny t) (AO m I cx σ e k)
def aad(op:cE)(k:AV->α)(x y:Int):α:=(@tX (λJ=>α) op (binI m .Add k x y) (binI m .Sub k x y) m.fail m.fail m.fail m.fail m.fail (binI m .LShift k x y) (binI m .RShift k x y) m.fail m.fail m.fail m.fail)
def aae(op:cE)(k:AV->α)(x y:Str):α:=(by induction op using tX with|Add=>exact D1 m k x y|_=>exact m.fail)
def EE(op:cE)(a b:AV)(k:AV->α):α:=opt (jA m dU dU (aae m op k) a b) (aR a) λx=>bY m aR (aad m op k x) b
def aaf(x:Str)(σ:Sg)(k:Sg->α)(c:AV):α:=ae (AD cx x) (ae (fz c) (k (bR x c σ)) m.fail) m.fail
def aag(x:Str)(σ:Sg)(op:cE)(k:Sg->α)(a b:AV):α:=EE m op a b (aaf m cx x σ k)
def aah(x:Str)(σ:Sg)(op:cE)(e:ab)(k:Sg->α)(a:AV):α:=vE I cx σ e (aag m cx x σ op k a)
def M6(σ:Sg)(op:cE)(e:ab)(k:Sg->α)(x:Str):α:=opt m.fail (aj x σ) (aah m I cx x σ op e k)
def aai(x:Str)(σ:Sg)(k:Sg->α)(xs:List AV)(j:Nat)(c:AV):α:=EC m x σ k c xs j
def aaj(x:Str)(σ:Sg)(op:cE)(k:Sg->α)(xs:List AV)(j:Nat)(a b:AV):α:=EE m op a b (aai m x σ k xs j)
def aak(x:Str)(σ:Sg)(op:cE)(e:ab)(k:Sg->α)(xs:List AV)(j:Nat)(a:AV):α:=vE I cx σ e (aaj m x σ op k xs j a)
def aal(x:Str)(σ:Sg)(op:cE)(e:ab)(k:Sg->α)(xs:List AV)(j:Nat):α:=m.op xs[j]? (aak m I cx x σ op e k xs j)
def aam(σ:Sg)(op:cE)(e i:ab)(k:Sg->α)(x:Str):α:=EB m I cx x σ i (aal m I cx x σ op e k)
def M7(σ:Sg)(op:cE)(e:ab)(k:Sg->α)(p:ab×ab):α:=ae (qr p.2) m.fail (opt m.fail (cP p.1) (aam m I cx σ op e p.2 k))
def aan(σ:Sg)(t:ab)(op:cE)(e:ab)(k:Sg->α):α:=opt (opt m.fail (D0 t) (M7 m I cx σ op e k)) (cP t) (M6 m I cx σ op e k)
noncomputable def aao(kk:List AV->α)(xs:List AV)(a:AV):α:=kk (xs++[a])
noncomputable def aap(kk:List AV->α)(xs:List AV)(a:AV)(i:Int):α:=m.gd (0<=i/\i<2^63) inferInstance (kk (xs.take i.toNat++a::xs.drop i.toNat))
def aaq(kk:List AV->α)(xs:List AV)(b a:AV):α:=opt m.fail (aR b) (aap m kk xs a)
set_option genCtorIdx true in
inductive Mu where|app|ins|rev
def EF(name:Str):Option Mu:=ae (aA name "append") (some .app) (ae (aA name "insert") (some .ins) (ae (aA name "reverse") (some .rev) none))
def M8(q:Mu)(xs as:List AV)(kk:List AV->α):α:=(@Mu.casesOn (λJ=>α) q (one m as (aao kk xs)) (two m as (aaq m kk xs)) (uU m as (kk xs.reverse)))
def aar(x:Str)(σ:Sg)(k:Sg->α)(ys:List AV):α:=k (bR x (.own ys) σ)
def aas(q:Mu)(x:Str)(σ:Sg)(k:Sg->α)(xs vs:List AV):α:=ae (vs.all fz) (m.gd (xs.length<=10000000) inferInstance (M8 m q xs vs (aar x σ k))) m.fail
def aat(q:Mu)(x:Str)(σ:Sg)(as:List ab)(k:Sg->α)(xs:List AV):α:=dX I cx σ as (aas m q x σ k xs)
def aau(x:Str)(σ:Sg)(as:List ab)(k:Sg->α)(q:Mu):α:=opt m.fail (aj x σ) (bY m xj (aat m I cx q x σ as k))
def aav(σ:Sg)(as:List ab)(name:Str)(k:Sg->α)(x:Str):α:=opt m.fail (EF name) (aau m I cx x σ as k)
def aaw(σ:Sg)(as:List ab)(k:Sg->α)(q:ab×Str):α:=ae (oI as) (opt m.fail (cP q.1) (aav m I cx σ as q.2 k)) m.fail
def snK(σ:Sg)(k:Sg->α)(F:List AV->Sg->(Sg->α)->α)(vs:List AV):α:=ae (vs.all fz) (F vs σ k) m.fail
def snF(σ:Sg)(as:List ab)(k:Sg->α)(F:List AV->Sg->(Sg->α)->α):α:=dX I cx σ as (snK m σ k F)
def M9(σ:Sg)(as:List ab)(k:Sg->α)(x:Str):α:=ae (oI as) (opt m.fail (aj x cx.sn) (snF m I cx σ as k)) m.fail
def EG(σ:Sg)(e:ab)(k:Sg->α):α:=(by induction e using cv with|Call f as ks p=>exact(@bW _ (λJ=>α) ks (opt (opt m.fail (cP f) (M9 m I cx σ as k)) (uR p.line f) (aaw m I cx σ as k)) (λJ J=>m.fail))|_=>exact m.fail)
noncomputable def aaz(ih:Sg->(Sg->α)->α)(k:Sg->α)(σ:Sg):α:=ih σ k
def aaA(body:List Stmt)(kr:AV->α)(ih:Sg->(Sg->α)->α)(k:Sg->α)(σ:Sg):α:=I.S cx σ body (aaz ih k) kr
noncomputable def aaB(σ:Sg)(k:Sg->α):α:=k σ
def aaC(t:ab)(body:List Stmt)(kr:AV->α)(a:AV)(ih:Sg->(Sg->α)->α)(σ:Sg)(k:Sg->α):α:=Ep m cx σ t (aaA I cx body kr ih k) a
def forL(t:ab)(body:List Stmt)(kr:AV->α)(xs:List AV):Sg->(Sg->α)->α:=@d6 AV (λJ=>Sg->(Sg->α)->α) aaB (λa J ih=>aaC m I cx t body kr a ih) xs
def aaD(t:ab)(body:List Stmt)(kr:AV->α)(σ:Sg)(k:Sg->α)(xs:List AV):α:=forL m I cx t body kr xs σ k
def whB(body:List Stmt)(kr:AV->α)(k ih:Sg->α)(σ:Sg):Bool->α:=oS m (I.S cx σ body ih kr) (k σ)
def wh1(c:ab)(body:List Stmt)(kr:AV->α)(k ih:Sg->α)(σ:Sg):α:=I.T cx σ c (whB m I cx body kr k ih σ)
noncomputable def wh0(σ:Sg):α:=m.fail
def AP(c:ab)(body:List Stmt)(kr:AV->α)(k:Sg->α)(n:Nat):Sg->α:=@rC (λJ=>Sg->α) (wh0 m) (λJ ih=>wh1 m I cx c body kr k ih) n
def Na(kr:AV->α)(a:AV):α:=ae (fz a) (kr a) m.fail
def Nb(σ:Sg)(kr:AV->α)(e:ab):α:=vE I cx (jC (namesOf e) σ) e (Na m kr)
def aaH(σ:Sg)(e:ab)(k:Sg->α)(ts:List ab):α:=(@bW _ (λJ=>α) ts m.fail (λt r=>(@bW _ (λJ=>α) r (aac m I cx σ t e k) (λJ J=>m.fail))))
def Nc(σ:Sg)(t it:ab)(b o:List Stmt)(k:Sg->α)(kr:AV->α):α:=(@bW _ (λJ=>α) o (Eu m I cx false (jC (namesOf it) σ) t it (aaD m I cx t b kr (jC (namesOf it) σ) k)) (λJ J=>m.fail))
def Nd(σ:Sg)(c:ab)(b o:List Stmt)(k:Sg->α)(kr:AV->α):α:=(@bW _ (λJ=>α) o (AP m I cx c b kr k cx.wf σ) (λJ J=>m.fail))
def eJ(σ:Sg)(s:Stmt)(k:Sg->α)(kr:AV->α):α:=(by induction s using wM with|Return e J=>exact opt (kr .none) e (Nb m I cx σ kr)|Assign ts e J=>exact aaH m I cx σ e k ts|AugAssign t op e J=>exact aan m I cx σ t op e k|For t it b o J=>exact Nc m I cx σ t it b o k kr|While c b o J=>exact Nd m I cx σ c b o k kr|If c b o J=>exact I.T cx σ c (oS m (I.S cx σ b k kr) (I.S cx σ o k kr))|Expr e J=>exact EG m I cx σ e k|_=>exact m.fail)
noncomputable def EH(r:List Stmt)(k:Sg->α)(kr:AV->α)(σ:Sg):α:=I.S cx σ r k kr
def Nf(σ:Sg)(ss:List Stmt)(k:Sg->α)(kr:AV->α):α:=(@bW _ (λJ=>α) ss (k σ) (λs r=>eJ m I cx σ s (EH I cx r k kr) kr))
def bD(n:Nat):It α:=@rC (λJ=>It α) ⟨λJ J J J=>m.fail,λJ J J J=>m.fail,λJ J J J J=>m.fail⟩ (λJ I=>⟨λcx=>Ey m I cx,λcx=>stepT m I cx,λcx=>Nf m I cx⟩) n
end
def cB(A:m7)(h:Heap):Prop:=A.handled=none∨∃a o vs,A.handled=some (.ref a)/\h.get? a=some o/\o.data=.fields vs/\vs[2]?=some i6/\eG a=false
structure kK{α:Type}(H:α->Prop)(C:Fc)(fa:Addr)(f:List AV->(AV->α)->α):Prop where
 ob:∃o fd,C.base.get? fa=some o/\o.data=.func fd
 run:∀(ok:Addr->Prop) h as vs k tk (Q:aa->aF->Prop),Kp C.base h->gL h->(∀b,h.objs.size<=b->ok b)->ay h ok as vs->H (f as k)->(∀v h' ak a,aI h h'->VR h' ok a False v->H (k a)->Q v (C.st h' ak))->codeAny (M_ C) C.A (.call (.ref fa) ⟨vs,[]⟩) (λr s'=>∃v,r=.ok (.ret v)/\Q v s') (C.st h tk)
inductive fj{α:Type}(H:α->Prop)(C:Fc)(x:Str):GV α->Prop
 |val {a:AV} {v:aa} (e:C.mg x=some v) (r:∀h ok ob,VR h ok a ob v):fj H C x (.val a)|aG {b:UInt64} {t:Tok} (e:C.mg x=some (.float b t)):fj H C x (.aG b)|fn {f:List AV->(AV->α)->α} {fa:Addr} (e:C.mg x=some (.ref fa)) (r:kK H C fa f):fj H C x (.fn f)|bi {b:Bi} (e:C.mg x=none) (e':C.mb x=some b.val):fj H C x (.bi b)
structure Fits{α:Type}(H:α->Prop)(C:Fc)(cx:Cx α):Prop where
 ok:C.Ok
 hu:C.A.units+64<cLine
 hn:cx.hn=true->C.A.handled=none
 hm:cB C.A C.base
 kind:∀x kd,C.env.kindOf x=some kd↔aj x cx.sc=some kd
 name:∀x kd,aj x cx.sc=some kd->cY x=true
 glob:∀x g,aj x cx.gl=some g->fj H C x g
 pin:∀x f,aj x cx.pn=some f->∃fa,aj x C.pin=some (.ref fa)/\kK H C fa f
section
variable{ad:Str->Addr}{K:AV->Prop}
variable{α:Type}
structure It.Ok(I:It α)(H:α->Prop):Prop where
 E:∀{C:Fc} {cx:Cx α} {σ:Sg} {e:ab} {k:AV->α},Fits H C cx->H (I.E cx σ e k)->Er C σ e (Hk H k)
 T:∀{C:Fc} {cx:Cx α} {σ:Sg} {e:ab} {k:Bool->α},Fits H C cx->H (I.T cx σ e k)->Te C σ e λb=>H (k b)
theorem fW(Y:I.Ok H)(F:Fits H C cx)(x:H (vE I cx σ e k)):Ev C σ e (Hk H k):=(Y.E F x).ev F.ok λJ=>id
theorem AQ(Y:I.Ok H)(F:Fits H C cx)(x:H (oR I cx σ l r f)):Ev C σ l λa=>Ev C σ r λb=>H (f a b):=λad h R tk Q q=>fW Y F x ad h R tk Q λv h' ak a g ra e=>q v h' ak a g ra (fW Y F e)
theorem Kp.ns{h h':Heap}(g:Kp h h'){L:Addr}{m:Str->Option aa}:h.Ns L m->h'.Ns L m:=λ⟨o,es,ep,a,b,r⟩=>⟨o,es,ep,g L o (λvs e=>by rw[e]at b;cases b) a,b,r⟩
theorem Fits.var(F:Fits H C cx)(w:C.Var h x v):cY x=true:=by
 cases w with|loc k _ _ _=>exact F.name x _ ((F.kind x _).mp k)|aN k _ _ _=>rcases k with k|k<;>exact F.name x _ ((F.kind x _).mp k)
def Fc.Gv(C:Fc)(x:Str)(v:aa):Prop:=∀{ad:Str->Addr} {σ:Sg} {h:Heap} {tk:Nat} {Q:aa->aF->Prop} {p:Pos},Rel C ad σ h->Q v (C.st h tk)->wpAny (M_ C) C.A (eval (.Name x p) C.env) Q aD (C.st h tk)
theorem Fits.gv(F:Fits H C cx)(ek:aj x cx.sc=some .globalImplicit)(e:C.mg x=some v):C.Gv x v:=λR q=>
 IY F.ok.kind ((F.kind x _).mpr ek) (Calls.loadGlobal_global (by rw[F.ok.glob];exact R.base.ns F.ok.g) e q) (cY.d (F.name x _ ek))
theorem Fits.bv(F:Fits H C cx)(ek:aj x cx.sc=some .globalImplicit)(e:C.mg x=none)(e':C.mb x=some v):C.Gv x v:=λR q=>
 IY F.ok.kind ((F.kind x _).mpr ek) (S7 (by rw[F.ok.glob];exact R.base.ns F.ok.g) e (by rw[F.ok.blt];exact R.base.ns F.ok.b) e' q) (cY.d (F.name x _ ek))
theorem xw(M:m.Ok H)(F:Fits H C cx){x:Str}{kg:GV α->α}{P:Prop}(e:H (glob m cx x kg))(q:∀g,aj x cx.sc=some .globalImplicit->fj H C x g->H (kg g)->P):P:=aW M.fail e λkd ek e=>by
 cases kd with|globalImplicit=>exact aW M.fail e λg eg e=>q g ek (F.glob x g eg) e|_=>exact absurd e M.fail
theorem aaI(M:m.Ok H)(F:Fits H C cx){x:Str}(e:H (Mm m cx σ x k)):Er C σ (.Name x p) (Hk H k):=λad h R tk Q q=>dD e
 (λe=>xw M F e λg ek o e=>by
  cases o with
  |val ev r=>exact F.gv ek ev R (q _ h _ _ (.refl h) (.val (r h _ _)) e)|aG ev=>obtain⟨s,N,f,e⟩:=Fl.LX M e;exact F.gv ek ev R (q _ h _ (.aG s N) (.refl h) (.val ⟨_,_,f⟩) e)
  |fn _ _=>exact absurd e M.fail|bi e1 e2=>exact F.bv ek e1 e2 R (q _ h _ (.jb _) (.refl h) (.val rfl) e))
 λa ea e=>let⟨v,w,r⟩:=R.var x a ea;have o:=F.var w;ub (oG F.ok w (cY.c o) (q v h tk _ (.refl h) (.val r.seen) e)) (cY.d o)
theorem aaJ(M:m.Ok H)(e:H (Mn m c k)):Er C σ (.Constant c kk p) (Hk H k):=λad h R tk Q q=>by
 cases c with
 |int i=>exact C1 (q _ h _ (.int i) (.refl h) (.val ⟨_⟩) e)|str i=>exact wpAny_Constant_str (q _ h _ (.str i) (.refl h) (.val ⟨_⟩) e)|bool i=>exact wpAny_Constant_bool (q _ h _ (.bool i) (.refl h) (.val rfl) e)|none=>exact wpAny_Constant_none (q _ h _ .none (.refl h) (.val rfl) e)|float b=>obtain⟨s,N,f,e⟩:=Fl.LX M e;exact wpAny_Constant_float (q _ h _ (.aG s N) (.refl h) (.val ⟨_,_,f⟩) e)
 |_=>exact absurd e M.fail
theorem EI{Q:aa->aF->Prop}{tk:Nat}{f:aa->aa->Sem aa}(R:Rel C ad σ h)(x:Ev C σ l λa=>Ev C σ r λb=>∀h v w,Rel C ad σ h->C.V ad σ h a v->C.V ad σ h b w->Out C ad σ h K (f v w))(q:mr C ad σ h K Q):wpAny (M_ C) C.A (eval l C.env) (λv s=>wpAny (M_ C) C.A (eval r C.env) (λw s=>wpAny (M_ C) C.A (f v w) Q aD s) aD s) aD (C.st h tk):=
 x ad h R tk _ λv h₁ bq a gB DX hr=>hr ad h₁ (R.grow gB) bq _ λw av bI b bx rU ho=>ho av v w ((R.grow gB).grow bx) (DX.keep bx) rU bI Q (q.after (gB.trans bx))
theorem Ev.imp(x:Ev C σ e K)(q:∀a,K a->K' a):Ev C σ e K':=λad h R tk Q f=>x ad h R tk Q λv h' ak a g r k=>f v h' ak a g r (q a k)
theorem aaK(M:m.Ok H)(Y:I.Ok H)(F:Fits H C cx)(e:H (oR I cx σ l r (Mo m op k))):Er C σ (.BinOp l op r p) (Hk H k):=λad h R tk Q q=>
 wpAny_BinOp (EI R ((AQ Y F e).imp λa x=>x.imp λb e h v w J ra rb=>Yy M ra rb e) q)
theorem Ng(M:m.Ok H)(Y:I.Ok H)(F:Fits H C cx)(e:H (uM m I cx σ l op r kb)):behindInMarks op r=false/\Ev C σ l λa=>Ev C σ r λb=>∀ad h v w,C.V ad σ h a v->C.V ad σ h b w->Out C ad σ h (jB H kb) (compareOp op v w):=
 let⟨x,e⟩:=Fl.jd M.fail e;⟨x,(AQ Y F e).imp λa x=>x.imp λb e ad h v w ra rb=>Ef M F.hu ra rb e⟩
end
section
variable{C:Fc}{ad:Str->Addr}{K K':AV->Prop}
variable{α:Type}
theorem Out.imp(x:Out C ad σ h K t)(f:∀a,K a->K' a):Out C ad σ h K' t:=λtk Q q=>x tk Q λv h' ak a g r k=>q v h' ak a g r (f a k)
theorem aaL(M:m.Ok H)(Y:I.Ok H)(F:Fits H C cx)(x:H (Mq m I cx σ op e k)):Er C σ (.UnaryOp op e p) (Hk H k):=λad h R tk Q q=>by
 cases op with|Not=>exact wpAny_UnaryOp (fW Y F x ad h R tk _ λv h' ak a g ra e=>not_of (L2 M ra e ak _ λb cX mw g' e=>q _ cX mw (.bool (!b)) (g.trans g') (.val rfl) (by rw[<-oP];exact e)))|_=>exact wpAny_UnaryOp (fW Y F x ad h R tk _ λv h' ak a g ra e=>Yz M ra e ak Q (q.after g))
theorem aaM(M:m.Ok H)(Y:I.Ok H)(F:Fits H C cx)(x:H (Mv m I cx σ l ops es (Mp k))):Er C σ (.Compare l ops es p) (Hk H k):=by
 cases ops with
 |nil=>exact absurd x M.fail|cons o os=>cases os with
  |cons _ _=>exact absurd x M.fail|nil=>cases es with
   |nil=>exact absurd x M.fail|cons e r=>cases r with
    |cons _ _=>exact absurd x M.fail|nil=>exact let⟨hm,x⟩:=Ng M Y F x;λad h R tk Q q=>wpAny_Compare1 (EI R (x.imp λa x=>x.imp λb f h v w J ra rb=>(f ad h v w ra rb).imp λc ⟨b,ec,e⟩=>ec▸e) q) hm
theorem aaN(r:Res C ad σ h h' (.bool b') v):v=.bool b':=by cases r with|val r=>exact r
theorem oN.of(x:Out C ad σ h (λa=>∃b,a=.bool b/\f b) t)(q:uY C h f Q):wpAny (M_ C) C.A t (λc s=>wpAny (M_ C) C.A (truthy c) Q aD s) aD (C.st h tk):=
 x tk _ λv h' ak a g r ⟨b,ea,e⟩=>by subst ea;cases aaN r;exact IV (q b h' ak g e)
theorem aaO(M:m.Ok H)(Y:I.Ok H)(F:Fits H C cx)(x:H (uM m I cx σ l op r kb)):Te C σ (.Compare l [op] [r] p) λb=>H (kb b):=let⟨hm,x⟩:=Ng M Y F x;λad h R tk Q q=>
 wpAny_isTrue_Compare1 (x ad h R tk _ λv h₁ bq a gB ra x=>x ad h₁ (R.grow gB) bq _ λw av bI b bx rb x=>oN.of (x ad av v w (ra.keep bx) rb) (q.after (gB.trans bx))) hm
theorem aaP(M:m.Ok H)(Y:I.Ok H)(F:Fits H C cx)(x:H (Ms m I cx σ l o1 e1 o2 e2 kb)):Te C σ (.Compare l [o1,o2] [e1,e2] p) λb=>H (kb b):=let⟨hm,x⟩:=Fl.jd M.fail x;λad h R tk Q q=>
 isTrue_chain (AQ Y F x ad h R tk _ λv h₁ bq a gB ra x=>test_link (x ad h₁ (R.grow gB) bq _ λw av bI b bx rb x=>oN.of (Ef M F.hu (ra.keep bx) rb x) λc cF kL jD x=>by
  have G:=(gB.trans bx).trans jD;obtain⟨x1,x2⟩:=M.br x;cases c with|false=>exact q _ cF kL G (x2 rfl)|true=>exact test_last (fW Y F (x1 rfl) ad cF (R.grow G) kL _ λu j2 oV d mz rd x=>oN.of (Ef M F.hu (rb.keep (jD.trans mz)) rd x) (q.after (G.trans mz))))) hm
theorem aaQ(M:m.Ok H)(Y:I.Ok H)(F:Fits H C cx)(x:H (Mw m I cx σ l ops es kb)):Te C σ (.Compare l ops es p) λb=>H (kb b):=by
 cases ops with
 |nil=>exact absurd x M.fail|cons o os=>cases es with
  |nil=>exact absurd x M.fail|cons e es=>cases os with
   |nil=>cases es with
    |nil=>exact aaO M Y F x|cons _ _=>exact absurd x M.fail
   |cons o2 os=>cases os with
    |cons _ _=>exact absurd x M.fail|nil=>cases es with
     |nil=>exact absurd x M.fail|cons e2 es=>cases es with
      |nil=>exact aaP M Y F x|cons _ _=>exact absurd x M.fail
theorem Nh(M:m.Ok H)(Y:I.Ok H)(F:Fits H C cx):∀(es:List ab),H (AC m I cx σ es kb)->∀ad h,Rel C ad σ h->oN C h (λb=>H (kb b)) (allTrue .And es C.env)
 |[],x,ad,h,R,tk,Q,q=>wpAny_allTrue_And_nil (q true h tk (.refl h) x)|e::es,x,ad,h,R,tk,Q,q=>wpAny_allTrue_And_cons (Y.T F x ad h R tk _ λb h' ak g x=>by
  obtain⟨x1,x2⟩:=M.br x;cases b with|true=>exact Nh M Y F es (x1 rfl) ad h' (R.grow g) ak Q (q.after g)|false=>exact q _ h' ak g (x2 rfl))
theorem Ni(M:m.Ok H)(Y:I.Ok H)(F:Fits H C cx):∀(es:List ab),H (Mj m I cx σ es kb)->∀ad h,Rel C ad σ h->oN C h (λb=>H (kb b)) (allTrue .Or es C.env)
 |[],x,ad,h,R,tk,Q,q=>wpAny_allTrue_Or_nil (q false h tk (.refl h) x)|e::es,x,ad,h,R,tk,Q,q=>wpAny_allTrue_Or_cons (Y.T F x ad h R tk _ λb h' ak g x=>by
  obtain⟨x1,x2⟩:=M.br x;cases b with|false=>exact Ni M Y F es (x2 rfl) ad h' (R.grow g) ak Q (q.after g)|true=>exact q _ h' ak g (x1 rfl))
theorem aaR(M:m.Ok H)(Y:I.Ok H)(F:Fits H C cx)(x:H (Mx m I cx σ op es kb)):Te C σ (.BoolOp op es p) λb=>H (kb b):=λad h R tk Q q=>by
 cases op with|And=>exact wpAny_isTrue_BoolOp (Nh M Y F es x ad h R tk Q q)|Or=>exact wpAny_isTrue_BoolOp (Ni M Y F es x ad h R tk Q q)
theorem Nj(M:m.Ok H)(Y:I.Ok H)(F:Fits H C cx):∀(es:List ab),H (Mk m I cx σ es k)->∀ad h,Rel C ad σ h->Out C ad σ h (Hk H k) (boolOp p .And (evalEach es C.env))
 |[],x,_,_,_=>absurd x M.fail|[e],x,ad,h,R=>λtk Q q=>fW Y F x ad h R tk Q λv h' ak a g r e=>q v h' ak a g (.val r) e|e::y::es,x,ad,h,R=>λtk Q q=>by
  refine ar (fW Y F x ad h R tk _ λv h' ak a g r x=>?_);exact aW M.fail x λb eb x=>by
   cases As eb r;obtain⟨x1,x2⟩:=M.br x;refine ar (pO (ar (kD (IV ?_))));cases b with|true=>exact Nj M Y F (y::es) (x1 rfl) ad h' (R.grow g) ak Q (q.after g)|false=>exact aV (q _ h' ak (.bool false) g (.val rfl) (x2 rfl))
theorem aaS(M:m.Ok H)(Y:I.Ok H)(F:Fits H C cx)(x:H (My m I cx σ c l r k)):Er C σ (.IfExp c l r p) (Hk H k):=λad h R tk Q q=>
 wpAny_IfExp (Y.T F x ad h R tk _ λb h' ak g x=>by
  obtain⟨x1,x2⟩:=M.br x;cases b with|true=>exact Y.E F (x1 rfl) ad h' (R.grow g) ak Q (q.after g)|false=>exact Y.E F (x2 rfl) ad h' (R.grow g) ak Q (q.after g))
def Evl(C:Fc)(σ:Sg)(p:Pos)(es:List ab)(K:List AV->Prop):Prop:=∀ad h,Rel C ad σ h->∀tk (Q:List aa->aF->Prop),(∀vs h' ak as,aI h h'->C.Vl ad σ h' as vs->K as->Q vs (C.st h' ak))->wpAny (M_ C) C.A (spliced (backTo p (starEach es C.env))) Q aD (C.st h tk)
theorem Nk{b:Bool}(x:ae b (noStar es) false=true):b=true/\noStar es=true:=by
 cases b with|true=>exact⟨rfl,x⟩|false=>exact absurd x aL
theorem vc(x:noStar (e::es)=true):starEach (e::es) C.env=(false,eval e C.env)::starEach es C.env/\noStar es=true:=by obtain⟨x1,x2⟩:=Nk (b:=Ad e) x;refine⟨?_,x2⟩;cases e<;>first|rfl|exact absurd x1 aL
theorem fT:∀{es:List ab},noStar es=true->(backTo p (starEach es C.env)).any (·.1)=false/\(backTo p (starEach es C.env)).all (λx=>!x.1)=true|[],_=>⟨rfl,rfl⟩|e::es,x=>by obtain⟨e1,x⟩:=vc (C:=C) x;obtain⟨i1,i2⟩:=fT x;rw[e1];exact⟨i1,i2⟩
theorem mA(Y:I.Ok H)(F:Fits H C cx):∀(es:List ab) {kl:List AV->α},noStar es=true->H (dX I cx σ es kl)->Evl C σ p es λas=>H (kl as)|[],_,_,x,ad,h,R,tk,Q,q=>aV (q [] h tk [] (.refl h) rfl x)|e::es,kl,n,x,ad,h,R,tk,Q,q=>by obtain⟨e1,n⟩:=vc (C:=C) n;rw[e1];refine ar (fW Y F x ad h R tk _ λv h' ak a g ra x=>?_);exact ar (aV (ar (kD (mA Y F es n x ad h' (R.grow g) ak _ λvs cX mw as g' rs x=>aV (q _ cX mw (a::as) (g.trans g') ⟨ra.keep g',rs⟩ x)))))
theorem aaU(e:fz a=true)(r:C.V ad σ h a v):VR h (C.aJ ad σ) a False v:=by
 cases a with|bU xs=>exact absurd e aL|own xs=>exact absurd e aL|_=>exact r
theorem Vl.qx:∀{as:List AV} {vs:List aa},as.all fz=true->C.Vl ad σ h as vs->ay h (C.aJ ad σ) as vs|[],_,_,r=>r|a::as,_,e,⟨p,q⟩=>⟨aaU (Bool.and_eq_true_iff.mp e).1 p,Vl.qx (Bool.and_eq_true_iff.mp e).2 q⟩
theorem Nl(M:m.Ok H)(Y:I.Ok H)(F:Fits H C cx)(x:H (xr m I cx σ es f k))(R:Rel C ad σ h)(q:∀vs h' ak as,aI h h'->ay h' (C.aJ ad σ) as vs->vs.length<=sizeLine->H (k (f as))->Q vs (C.st h' ak)):wpAny (M_ C) C.A (spliced (backTo p (starEach es C.env))) Q aD (C.st h tk):=
 let⟨n,x⟩:=Fl.bz M.fail x;mA Y F es n x ad h R tk _ λvs h' ak as g rs x=>by obtain⟨n,x⟩:=Fl.bz M.fail x;obtain⟨z,x⟩:=M.gd x;have r:=Vl.qx n rs;exact q vs h' ak as g r (by rw[r.length];exact az z (show 10000<=sizeLine from ⋯)) x
theorem aaV(M:m.Ok H)(Y:I.Ok H)(F:Fits H C cx)(x:H (xr m I cx σ es .tup k)):Er C σ (.Tuple es kk p) (Hk H k):=λad h R tk Q q=>
 wpAny_Tuple (Nl M Y F x R λvs h' ak as g r z x=>⟨z,q _ _ _ (.tup as) (g.trans (.push _ _)) (.val ⟨_,vs,0,cU _ rfl,(R.grow g).fresh F.ok (aQ _),r.keep (.push _ _)⟩) x⟩)
theorem aaW(M:m.Ok H)(Y:I.Ok H)(F:Fits H C cx)(x:H (xr m I cx σ es .own k)):Er C σ (.List es p) (Hk H k):=λad h R tk Q q=>
 wpAny_List (Nl M Y F x R λvs h' ak as g r z x=>⟨z,q _ _ _ (.own as) (g.trans (.push _ _)) (.new (n:=0) (vs:=vs) (cU _ rfl) g.sz (ay.mono (λb o k s x=>⟨⟨k,fG (bu x)⟩,b7 _ x⟩) _ r)) x⟩)
end
section
variable{C:Fc}{ad:Str->Addr}
variable{α:Type}
theorem sF(x:oI es=true):noStar es=true/\es.length<=29:=by
 obtain⟨x1,x2⟩:noStar es=true/\bh es.length 29=true:=by
  unfold oI at x;cases n:noStar es with|true=>rw[n]at x;exact⟨rfl,x⟩|false=>rw[n]at x;exact absurd x aL
 exact⟨x1,bV x2⟩
theorem mB(ja:trees.any (·.1)=false) (h:wpAny M A (spliced trees) (λvs s'=>Q ⟨vs,[]⟩ s') E s):wpAny M A (evalArgs f true trees []) Q E s:=by
 cases trees with
 |nil=>unfold evalArgs;refine ar (kE h (λvs s' h'=>?_) λJ J x=>x);refine kD ?_;exact ar (aV (ar (aV (aV h'))))|cons t r=>
  obtain⟨b,x⟩:=t;cases b with|true=>simp at ja|false=>exact evalArgs_plain h
theorem aaX(b:Bi):(∃id,b.val=.builtin id)∨∃T,b.val=.type T:=by cases b<;>first|exact .inl ⟨_,rfl⟩|exact .inr ⟨_,rfl⟩
theorem EJ(b:Bi)(ja:trees.any (·.1)=false)(h:wpAny (M_ C) C.A (evalArgs b.val true trees []) (λa s'=>wpAny (M_ C) C.A (kA b.val ([]++a.pos) a.kw) Q aD s') aD s):wpAny (M_ C) C.A (callWith p b.val [] trees []) Q aD s:=by
 rcases aaX b with⟨id,e⟩|⟨T,e⟩
 ·rw[e]at h⊢;exact C2 ja h
 ·rw[e]at h⊢;exact alK ja h
theorem aaY(M:m.Ok H)(Y:I.Ok H)(F:Fits H C cx){b:Bi}(n:noStar es=true)(R:Rel C ad σ h){tk:Nat}{Q:aa->aF->Prop}(x:H (dX I cx σ es (je m cx b k)))(q:mr C ad σ h (Hk H k) Q):wpAny (M_ C) C.A (callWith p b.val [] (backTo p (starEach es C.env)) []) Q aD (C.st h tk):=
 EJ b (fT n).1 (mB (fT n).1 (mA Y F es n x ad h R tk _ λvs h' ak as g r x=>Y5 M F.ok (R.grow g) F.hn r x ak Q (q.after g)))
theorem Nm(M:m.Ok H)(Y:I.Ok H)(F:Fits H C cx)(n:noStar es=true)(R:Rel C ad σ h)(o:kK H C fa f)(x:H (dX I cx σ es (Ew m f k)))(q:mr C ad σ h (Hk H k) Q):wpAny (M_ C) C.A (callWith p (.ref fa) [] (backTo p (starEach es C.env)) []) Q aD (C.st h tk):=
 o.ob.elim λob z=>z.elim λfd z=>
 S8 (o:=ob) (fd:=fd) (mB (fT n).1 (mA Y F es n x ad h R tk _ λvs h' ak as g r x=>by
  obtain⟨y,x⟩:=Fl.bz M.fail x;have R':=R.grow g
  exact⟨⟨R'.base _ _ (λvs e=>by rw[z.2]at e;cases e) z.1,z.2⟩,wpAny_call (codeAny_mono (o.run (C.aJ ad σ) h' as vs k ak Q R'.base R'.tabs (λb=>R'.fresh F.ok) (Vl.qx y r) x λv cX mw a g' r e=>q v cX mw a (g.trans g') (.val (r.mono (λJ J k J e=>⟨k,e⟩) a gY)) e) λres s' ⟨v,e,q⟩=>by subst e;exact q)⟩))
theorem Np:uR n e=some q->∃p,e=.Attribute q.1 q.2 p/\aS p.endLine n=true/\uQ q.1=true:=λx=>by
 cases e with
 |Attribute o nm p=>
  cases c1:aS p.endLine n with
  |false=>unfold uR at x;dsimp only at x;rw[c1]at x;exact ai x|true=>cases c2:uQ o with
   |false=>unfold uR at x;dsimp only at x;rw[c1,c2]at x;exact ai x|true=>unfold uR at x;dsimp only at x;rw[c1,c2]at x;cases x;exact⟨p,rfl,c1,c2⟩
 |_=>exact ai x
theorem EK(n:uQ o=true):attributeBase o name C.env (eval o C.env)=eval o C.env:=by cases o<;>first|rfl|exact absurd n aL
theorem aaZ(M:m.Ok H)(Y:I.Ok H)(F:Fits H C cx)(hl:aS ap.endLine p.line=true)(hc:uQ o=true)(f:oI es=true)(x:H (MS m I cx σ es k (o,name))):Er C σ (.Call (.Attribute o name ap) es [] p) (Hk H k):=λad h R tk Q q=>by obtain⟨n,hf⟩:=sF f;refine wpAny_Call_method_late (EK hc) (by rw[(fT (C:=C) (p:=p) n).2];show(true&&true&&decide (es.length+0+0<30))=true;simp;exact jw hf) (beq_iff_eq.mpr (fD hl)) rfl (fW Y F x ad h R tk _ λv h' ak a g r x=>?_);exact aW M.fail x λqm eq x=>by have on:=Y6 r eq;exact⟨qm.ty,qm.id,on.pa,on.sl,on.ty,on.is ak,on.nd,C2 (fT n).1 (mB (fT n).1 (mA Y F es n x ad h' (R.grow g) ak _ λvs cX mw as g' rs x=>Y7 M (Mt.keep g' on.vr) rs x mw Q (q.after (g.trans g'))))⟩
end
section
variable{ad:Str->Addr}
variable{α:Type}
theorem Nq(n:qr r=false):∀o i,subscripted r false o i=operate [o,i] (getItem o i):=λo i=>by cases r<;>first|rfl|exact absurd n.symm aL
theorem aa0(M:m.Ok H)(Y:I.Ok H)(F:Fits H C cx)(n:qr r=false)(x:H (oR I cx σ l r (AE m k))):Er C σ (.Subscript l r p) (Hk H k):=λad h R tk Q q=>
 Subscript_ (EI (f:=subscriptTail l r) R ((AQ Y F x).imp λa x=>x.imp λb e h v w J ra rb=>Za M ra rb e (Nq n)) q)
theorem j3:cP e=some x->∃p,e=.Name x p:=(by induction e using cv with|Name y p=>exact λz=>⟨p,by cases z;rfl⟩|_=>exact λz=>ai z)
theorem EL:Ae e=some i->∃k p,e=.Constant (.int i) k p:=(by induction e using cv with|Constant c k p=>exact(by induction c using CU with|int j=>exact λz=>⟨k,p,by cases z;rfl⟩|_=>exact λz=>ai z)|_=>exact λz=>ai z)
theorem aa1:KZ e=some i->∃k p,e=.Constant (.str i) k p:=(by induction e using cv with|Constant c k p=>exact(by induction c using CU with|str j=>exact λz=>⟨k,p,by cases z;rfl⟩|_=>exact λz=>ai z)|_=>exact λz=>ai z)
theorem aa2:K0 e=some l->∃p,e=.UnaryOp .USub l p:=(by induction e using cv with|UnaryOp op x p=>exact(by induction op using CV with|USub=>exact λz=>⟨p,by cases z;rfl⟩|_=>exact λz=>ai z)|_=>exact λz=>ai z)
theorem aa3:Ek e=some i->∃k p p',e=.Slice none (some (.Constant (.int i) k p)) none p':=by
 induction e using cv with
 |Slice a b c p'=>
  intro z;cases a with
  |some _=>exact ai z|none=>cases c with
   |some _=>exact ai z|none=>cases b with
    |none=>exact ai z|some e=>exact let⟨k,p,q⟩:=EL z;⟨k,p,p',by rw[q]⟩
 |_=>exact λz=>ai z
theorem aa4:El e=some l->∃p p',e=.Slice none none (some (.UnaryOp .USub l p)) p':=by
 induction e using cv with
 |Slice a b c p'=>
  intro z;cases a with
  |some _=>exact ai z|none=>cases b with
   |some _=>exact ai z|none=>cases c with
    |none=>exact ai z|some e=>exact let⟨p,q⟩:=aa2 z;⟨p,p',by rw[q]⟩
 |_=>exact λz=>ai z
theorem aa5(items:Array aa)(n:Nat):slicePick items none (some (n:Int)) none=(items.toList.take n).toArray:=by
 have e:=kmk_pick_nat (lo:=none) (hi:=some (n:Int)) items (a:=0) (b:=min n items.size) (by
  simp only[sliceBounds,Option.getD_none];simp;rw[if_neg (Int.not_lt.mpr (bA n)),IW (Int.le_min.mpr ⟨bA _,bA _⟩)]
  exact(Lean.Omega.Int.ofNat_min ..).symm)
 rw[e,tR,IZ];congr 1;rw[<-lW,<-List.take_take,I0]
theorem EM(F:Fits H C cx)(R:Rel C ad σ h)(ea:aj x σ=some a)(q:∀v,C.V ad σ h (jz a) v->Q v (C.st h tk)):wpAny (M_ C) C.A (eval (.Name x p) C.env) Q aD (C.st h tk):=
 let⟨v,w,r⟩:=R.var x a ea;have o:=F.var w;ub (oG F.ok w (cY.c o) (q v r.seen)) (cY.d o)
theorem aa6(M:m.Ok H)(F:Fits H C cx)(ea:aj x σ=some a)(e:H (ME m k n (jz a))):Er C σ (.Subscript (.Name x np) (.Slice none (some (.Constant (.int n) kk p1)) none p2) p) (Hk H k):=λad h R tk Q q=>fh M e λxs ex e=>by obtain⟨⟨h0,hz⟩,e⟩:=M.gd e;obtain⟨n,rfl⟩:=pP h0;refine wpAny_Subscript_Slice (T:="list") slot_list_getitem.lookup (EM F R ea λv ra=>?_) (λJ J=>rfl);refine wpAny_Slice ?_;simp only[evalPart_none,evalPart_some];refine aV (C1 (aV ?_));obtain⟨l,vs,j,g,_,r⟩:=lF ex ra;have hl:=r.length;have g1:=aI.push h {cls:=.type "slice",data:=.fields #[.none,.int n tk,.none]};have gl:=g1.bX (.lst _ _) g;refine⟨⟨_,gl,rfl⟩,wpAny_getItem_list_slice (lo:=none) (hi:=some (n:Int)) (st:=none) (fH gl) (Heap.IsSliceOf.new ..) .none (.int _ _) .none ⋯ ?_ (by rw[dF,hl];exact az hz (show 10000000<=sizeLine from ⋯))⟩;rw[aa5];exact q _ _ _ (.own (xs.take n)) (g1.trans (.push _ _)) (.new (n:=0) (vs:=vs.take n) (cU _ rfl) g1.sz (ay.mono (λb o k s x=>⟨⟨k,fG (fy (bu x) g1.sz)⟩,b7 _ (g1.bX s x)⟩) _ (r.take n))) e
theorem Nr(q:∀t tk,Q (.int (-1) t) (C.st h tk)):wpAny (M_ C) C.A (eval (.UnaryOp .USub (.Constant (.int 1) kk p1) p2) C.env) Q aD (C.st h tk):=
 wpAny_UnaryOp (C1 (PySem.P.neg_int (q _ _)))
theorem aa7(M:m.Ok H)(F:Fits H C cx)(ea:aj x σ=some a)(ex:gC (jz a)=some xs)(e:H (MC m k xs)):Er C σ (.Subscript (.Name x np) (.Slice none none (some (.UnaryOp .USub (.Constant (.int 1) kk p1) p2)) p3) p) (Hk H k):=λad h R tk Q q=>by obtain⟨hz,e⟩:=M.gd e;refine wpAny_Subscript_Slice_step (T:="list") slot_list_getitem.lookup (EM F R ea λv ra=>?_) (λJ J=>rfl);refine wpAny_Slice ?_;simp only[evalPart_none,evalPart_some];refine aV (aV (Nr λtt tk=>?_));obtain⟨l,vs,j,g,_,r⟩:=lF ex ra;have hl:=r.length;have g1:=aI.push h {cls:=.type "slice",data:=.fields #[.none,.none,.int (-1) tt]};have gl:=g1.bX (.lst _ _) g;refine⟨⟨_,gl,rfl⟩,wpAny_getItem_list_slice (lo:=none) (hi:=none) (st:=some (-1)) (fH gl) (Heap.IsSliceOf.new ..) .none .none (.int _ _) ⋯ ?_ (by rw[dF,hl];exact az hz (show 10000000<=sizeLine from ⋯))⟩;rw[krv_pick];exact q _ _ _ (.own xs.reverse) (g1.trans (.push _ _)) (.new (n:=0) (vs:=vs.reverse) (cU _ rfl) g1.sz (ay.mono (λb o k s x=>⟨⟨k,fG (fy (bu x) g1.sz)⟩,b7 _ (g1.bX s x)⟩) _ r.rev)) e
theorem aa8(M:m.Ok H)(F:Fits H C cx)(ea:aj x σ=some a)(ex:dU (jz a)=some s)(e:H (MD m k s)):Er C σ (.Subscript (.Name x np) (.Slice none none (some (.UnaryOp .USub (.Constant (.int 1) kk p1) p2)) p3) p) (Hk H k):=λad h R tk Q q=>by obtain⟨hz,e⟩:=M.gd e;refine wpAny_Subscript_Slice_step (T:="str") PySem.F.slot_str_getitem.lookup (EM F R ea λv ra=>?_) (λJ J=>rfl);refine wpAny_Slice ?_;simp only[evalPart_none,evalPart_some];refine aV (aV (Nr λtt tk=>?_));cases j1 ex ra;refine⟨typeIs_str _ _ _,wpAny_getItem_str_slice (l:=none) (u:=none) (st:=some (-1,tt)) ⟨_,cU _ rfl,rfl,rfl⟩ (by rfl) ?_⟩;have hle:=Txt.sliceBy_le s none none (-1,tt) (show(-1:Int)≠0 from ⋯);exact post_val_or_str ⟨az hle (az hz (show 10000000<=sizeLine from ⋯)),λt' c=>q _ _ _ (.str (xl s)) (.push _ _) (.val ⟨_⟩) e⟩
theorem aa9(M:m.Ok H)(F:Fits H C cx)(e:H (Em m σ r k x)):Er C σ (.Subscript (.Name x np) r p) (Hk H k):=aW M.fail e λa ea e=>dD e
 (λe=>aW M.fail e λl el y=>by
  obtain⟨p1,p2,rfl⟩:=aa4 el;exact aW M.fail y λi ei z=>by
   obtain⟨kk,p3,rfl⟩:=EL ei;obtain⟨rfl,w⟩:=M.gd z
   exact dD w (λe=>fh M e λxs ex e=>aa7 M F ea ex e) λs ex e=>aa8 M F ea ex e)
 λn en y=>by obtain⟨kk,p1,p2,rfl⟩:=aa3 en;exact aa6 M F ea y
end
section
variable{C:Fc}{ad:Str->Addr}
variable{α:Type}{m:Md α}{H:α->Prop}{k:AV->α}{kb:Bool->α}{kl:List AV->α}{as:List AV}{vs:List aa}{cx:Cx α}{I:It α}{e l r:ab}{es:List ab}{p:Pos}
inductive lH:List (Option ab)->List ab->List (Str×Int)->Prop
 |nil:lH [] [] []|cons {s n c1 p1 c2 p2 ks vs d} (r:lH ks vs d):lH (some (.Constant (.str s) c1 p1)::ks) (.Constant (.int n) c2 p2::vs) ((s,n)::d)
inductive sG:List (Str×Int)->List (aa×aa)->List (Str×aa)->Prop
 |nil:sG [] [] []|cons {s n t t' d ws j4} (r:sG d ws j4):sG ((s,n)::d) ((.str s t,.int n t')::ws) ((s,.int n t')::j4)
theorem aba{y:Option ab}{q:Str×Int}{ks vs d}(x:Mz y e=some q)(r:lH ks vs d):lH (y::ks) (e::vs) (q::d):=by
 cases y with|none=>exact ai x|some y=>refine aW (H:=(·=some q)) (λe=>ai e) x λs es x=>aW (H:=(·=some q)) (λe=>ai e) x λn en x=>?_;cases x;obtain⟨c1,p1,rfl⟩:=aa1 es;obtain⟨c2,p2,rfl⟩:=EL en;exact .cons r
theorem abb(ks):∀vs {d},MA ks vs=some d->lH ks vs d:=by
 induction ks with
 |nil=>exact λvs d x=>match vs,x with|[],x=>by cases x;exact .nil|_::_,x=>ai x
 |cons y ks ih=>exact λvs d x=>match vs,x with
  |[],x=>ai x|v::vs,x=>aW (H:=(·=some d)) (λe=>ai e) x λq eq x=>aW (H:=(·=some d)) (λe=>ai e) x λr er x=>by cases x;exact aba eq (ih vs er)
theorem lH.all{ks vs d}(D:lH ks vs d):ks.all (·.isSome)=true/\ks.length=vs.length/\ks.length=d.length:=by
 induction D with|nil=>exact⟨rfl,rfl,rfl⟩|cons r ih=>exact⟨ih.1,congrArg _ ih.2.1,congrArg _ ih.2.2⟩
theorem lH.walk{ks vs d}(D:lH ks vs d){env}{p:Pos}{E}:∀{h tk} {Q:List (aa×aa)->aF->Prop},(∀ws j4 ak,sG d ws j4->Q ws (C.st h ak))->wpAny (M_ C) C.A (evalPairs (pairTrees ks vs env p)) Q E (C.st h tk):=by
 induction D with|nil=>exact λq=>pairTrees_nil_walk (q _ _ _ .nil)|cons r ih=>exact λq=>pairTrees_cons_walk (wpAny_Constant_str (C1 (ih λws j4 ak v=>q _ _ _ (.cons v))))
theorem sG.Nt(D:sG d ws j4):Carries (C3 C.prog C.w) ws j4/\j4.map (λx=>x.1)=d.map (λx=>x.1):=by
 induction D with|nil=>exact⟨trivial,rfl⟩|cons r ih=>exact⟨⟨by simp[C3,Value.isStrOf],rfl,ih.1⟩,congrArg _ ih.2⟩
theorem abc(d:List (Str×Int)):MB d=true->(d.map λx=>x.1).Nodup:=by
 induction d with|nil=>exact λ_=>.nil|cons p d ih=>intro x;obtain⟨a,b⟩:=Fl.jd (H:=(·=true)) aL x;refine List.nodup_cons.mpr ⟨λm=>?_,ih b⟩;obtain⟨q,m,e⟩:=List.mem_map.mp m;exact aL (a.symm.trans (List.any_eq_true.mpr ⟨q,m,(cN _ _).mpr e.symm⟩))
theorem abd(M:m.Ok H)(D:sG d ws j4):H (AG m k s d)->∃n t,valueAt j4 s=some (.int n t)/\H (k (.int n)):=by
 induction D with
 |nil=>exact λx=>absurd x M.fail|@cons s' n t t' d ws j4 r ih=>
  intro x;cases e:aA s s' with
  |true=>have x:H (ae (aA s s') (k (.int n)) (AG m k s d)):=x;rw[e]at x;exact⟨n,t',by simp[valueAt,(cN _ _).mp e],x⟩|false=>
   have x:H (ae (aA s s') (k (.int n)) (AG m k s d)):=x;rw[e]at x;obtain⟨n',t,f,x⟩:=ih x;refine⟨n',t,?_,x⟩;rw[<-f];have:s'≠s:=λq=>by rw[(cN _ _).mpr q.symm]at e;exact nomatch e
   simp[valueAt,this]
theorem abe(M:m.Ok H)(Y:I.Ok H)(F:Fits H C cx){ks vs d dp}(D:lH ks vs d)(ne:ks≠[])(le:ks.length<=15)(n:qr r=false)(x:H (AH m I cx σ r k d)):Er C σ (.Subscript (.Dict ks vs dp) r p) (Hk H k):=λad h R tk Q q=>by
 refine Subscript_ ?_;obtain⟨al,l1,l2⟩:=D.all;have D':=fW Y F x;refine wpAny_Dict_walk (knd:=C3 C.prog C.w) al l1 ne le (D.walk (h:=h.push _) λws j4 ak v=>⟨j4,v.Nt.1,Heap.DictOf.new h,λh₁ hd hs=>?_⟩);have g:aI h h₁:=.of (by rw[hs.1,gq];exact jt _) λb o e=>(hs.2 b (fG (bu e))).trans (b7 _ e);refine D' ad h₁ (R.grow g) _ _ λvb av bI b bx rb x=>fh M x λs es x=>?_;obtain⟨nd,x⟩:=Fl.bz M.fail x;rw[merged_nil_of_nodup _ (v.Nt (C:=C).2▸abc d nd)]at hd;obtain⟨o,e',ep,go,hex2,dd,kk,pp,nn⟩:=hd;have hm:av.DictOf (C3 C.prog C.w) h.objs.size j4:=⟨o,e',ep,bx.kp _ _ (λvs e=>by rw[dd]at e;cases e) go,hex2,dd,kk,pp,nn⟩
 obtain⟨i,t,hv,x⟩:=abd M v x;cases j1 es rb with|mk tb=>exact tail_any hm.mapOf.typeIs slot_dict_getitem.lookup (wpAny_getItem_of (by simp[C3,Value.isStrOf]) hm.mapOf hv (q _ _ _ (.int i) (g.trans bx) (.val ⟨_⟩) x)) (Nq n _ _)
theorem abf(x:AF e=some d):∃ks vs p,e=.Dict ks vs p/\lH ks vs d/\ks≠[]/\ks.length<=15:=by
 cases e with
 |Dict ks vs p=>obtain⟨a,x⟩:=Fl.bz (H:=(·=some d)) (λe=>ai e) x;obtain⟨b,x⟩:=Fl.jd (H:=(·=some d)) (λe=>ai e) x;exact⟨ks,vs,p,rfl,abb ks vs x,(λe=>by rw[e]at b;exact tY b),bV a⟩
 |_=>exact ai x
theorem abg(M:m.Ok H)(Y:I.Ok H)(F:Fits H C cx)(x:H (AI m I cx σ l r k)):Er C σ (.Subscript l r p) (Hk H k):=by
 cases n:qr r with
 |true=>
  have x:H (opt m.fail (cP l) (Em m σ r k)):=by unfold AI at x;rw[n]at x;exact x
  exact aW M.fail x λy ey x=>by obtain⟨np,rfl⟩:=j3 ey;exact aa9 M F x
 |false=>
  have x:H (opt (oR I cx σ l r (AE m k)) (AF l) (AH m I cx σ r k)):=by unfold AI at x;rw[n]at x;exact x
  refine dD (o:=AF l) (f:=oR I cx σ l r (AE m k)) (k:=AH m I cx σ r k) x (λx=>aa0 M Y F n x) λd ed y=>?_
  ·obtain⟨ks,vs,p,rfl,D,ne,le⟩:=abf ed
   exact abe M Y F D ne le n y
theorem abh(M:m.Ok H){i:Int}{u:Tok}{b:Bi}(e:H (MO m k b i)):de C ad σ h (Hk H k) (.builtin "isinstance") [.int i u,b.val]:=by
 cases b with|int=>exact λtk Q q=>call_isinstance_yes (typeIs_int _ _ _) PyProof.Rows.meta_int PySem.F.sub_int_int (q _ h _ (.bool true) (.refl h) (.val rfl) e)|bool=>exact λtk Q q=>call_isinstance_of (isinstance_nested_false_int ⋯ PyProof.Rows.meta_bool PySem.F.sub_int_bool (q _ h _ (.bool false) (.refl h) (.val rfl) e)) nofun|_=>exact absurd e M.fail
end
section
variable{ad:Str->Addr}
variable{α:Type}
theorem abi(M:m.Ok H)(Y:I.Ok H)(F:Fits H C cx)(n:noStar es=true)(R:Rel C ad σ h)(x:H (MP m I cx σ es k))(q:mr C ad σ h (Hk H k) Q):wpAny (M_ C) C.A (callWith p (.builtin "isinstance") [] (backTo p (starEach es C.env)) []) Q aD (C.st h tk):=by
 cases es with
 |nil=>exact absurd x M.fail|cons e es=>cases es with
  |nil=>exact absurd x M.fail|cons t es=>cases es with
   |cons _ _=>exact absurd x M.fail|nil=>
    exact aW M.fail x λy ey x=>xw M F x λg ek o x=>by
     obtain⟨np,rfl⟩:=j3 ey;cases o with|bi e1 e2=>refine C2 (fT n).1 (mB (fT n).1 ?_);rw[(vc n).1];refine uc (fW Y F x ad h R tk _ λv h' ak a g ra x=>uc (F.bv ek e1 e2 (R.grow g) (spliced_nil ?_)));exact fh M x λi ei x=>by cases dK ei ra;exact abh M x ak Q (q.after g)|_=>exact absurd x M.fail
end
def qy(b:Addr)(o:Obj):Prop:=NF b o/\ik o.data=false
theorem cJ.nm(s:cJ o):ik o.data=false:=by cases s<;>rfl
theorem cJ.mC(s:cJ o):qy b o:=⟨NF.bX s,s.nm⟩
theorem hH.bZ(n:hH o)(d:o.data=.fields vs):False:=aL ((congrArg ik d).symm.trans n)
def Fc.Kn(C:Fc)(b:Addr)(o:Obj):Prop:=b<C.nw∨b≠C.env.locals/\∀u,o.data≠ .cell u
structure bN(C:Fc)(ad:Str->Addr)(σ:Sg)(h:Heap)(ad':Str->Addr)(σ':Sg)(h':Heap):Prop where
 sz:h.objs.size<=h'.objs.size
 kp:∀b o,qy b o->¬dC ad σ b->h.get? b=some o->h'.get? b=some o
 nk:∀b o,hH o->C.Kn b o->h.get? b=some o->h'.get? b=some o
 mt:∀b,dC ad' σ' b->dC ad σ b∨h.objs.size<=b
theorem CodeRec.bZ{h h':Heap}(hk:∀b o vs,o.data=.fields vs->h.get? b=some o->h'.get? b=some o){c:aa}{q:Str}(r:h.CodeRec c q):h'.CodeRec c q:=r.elim λa r=>r.elim λo r=>r.elim λvs r=>r.elim λt r=>⟨a,o,vs,t,r.1,hk _ _ _ r.2.2.1 r.2.1,r.2.2⟩
theorem gz.bZ{h h':Heap}(hk:∀b o vs,o.data=.fields vs->h.get? b=some o->h'.get? b=some o){p:Addr}{q:Str}(r:gz h p q):gz h' p q:=r.elim λo r=>r.elim λvs r=>⟨o,vs,hk _ _ _ r.2.1 r.1,r.2.1,r.2.2.1,λpos c e=>⟨CodeRec.bZ hk (r.2.2.2 pos c e).1,(r.2.2.2 pos c e).2⟩⟩
theorem hH.nf(n:hH o)(b:Addr):NF b o:=λJ d=>(n.bZ d).elim
section
variable{C:Fc}{ad ad' Nu:Str->Addr}{h h' cX h₀ h₁:Heap}
theorem bN.refl:bN C ad σ h ad σ h:=⟨aQ _,λJ J J J e=>e,λJ J J J e=>e,λJ=>.inl⟩
theorem bN.qz(s:bN C ad σ h ad' σ' h'){b:Addr}{o:Obj}(k:¬dC ad σ b)(e:h.get? b=some o):¬dC ad' σ' b:=λq=>(s.mt b q).elim k λz=>absurd (bu e) (Nat.not_lt.mpr z)
theorem bN.trans(s:bN C ad σ h ad' σ' h')(t:bN C ad' σ' h' Nu abj cX):bN C ad σ h Nu abj cX:=⟨az s.sz t.sz,λb o p k e=>t.kp b o p (s.qz k e) (s.kp b o p k e),λb o n k e=>t.nk b o n k (s.nk b o n k e),λb q=>(t.mt b q).elim (s.mt b) λz=>.inr (az s.sz z)⟩
theorem aI.jE(g:aI h h'):bN C ad σ h ad σ h':=⟨g.sz,λb o p J e=>g.kp b o p.1 e,λb o n J e=>g.kp b o (n.nf b) e,λJ=>.inl⟩
def Fc.mD(C:Fc)(x:Str):Prop:=(C.env.kindOf x=some .local/\C.nw<=C.env.locals∨C.env.kindOf x=some .cell/\∀c,C.env.cells.lookup x=some c->C.nw<=c)/\aj x C.pin=none
theorem EN:h.Ns L m->∃o,h.get? L=some o/\hH o:=λr=>r.elim λo r=>r.elim λJ r=>r.elim λJ r=>⟨o,r.1,congrArg ik r.2.1⟩
theorem vd(hs:lX c h h')(ne:d≠c):h.IsCell d u->h'.IsCell d u:=λr=>r.elim λo r=>⟨o,(hs.2 d ne).trans r.1,r.2⟩
noncomputable abbrev Pl:=List (Str×AV×aa)
def fI(l:Pl)(y:Str):Option (AV×aa):=@d6 (Str×AV×aa) (λJ=>Option (AV×aa)) none (λp J ih=>opt (ae (aA y p.1) (some p.2) none) ih some) l
def putL(l:Pl):Sg->Sg:=@d6 (Str×AV×aa) (λJ=>Sg->Sg) id (λp J ih σ=>ih (bR p.1 p.2.1 σ)) l
theorem AR(p:Str×AV×aa)(l:Pl)(y:Str):(∃q,fI l y=some q/\fI (p::l) y=some q)∨(fI l y=none/\y=p.1/\fI (p::l) y=some p.2)∨(fI l y=none/\y≠p.1/\fI (p::l) y=none):=by
 have e:fI (p::l) y=opt (ae (aA y p.1) (some p.2) none) (fI l y) some:=rfl;cases z:fI l y with
 |some q=>exact .inl ⟨q,rfl,by rw[e,z]⟩|none=>
  rw[z]at e;by_cases c:y=p.1
  ·exact .inr (.inl ⟨rfl,c,by rw[e,c,jZ]⟩)
  ·exact .inr (.inr ⟨rfl,c,by rw[e,rT c]⟩)
structure abk(l:Pl)(y:Str)(C:Fc)(h h':Heap):Prop where
 got:∀q,fI l y=some q->C.Var h' y q.2
 old:fI l y=none->∀w,C.Var h y w->C.Var h' y w
structure Puts(C:Fc)(h h':Heap)(l:Pl):Prop where
 sz:h'.objs.size=h.objs.size
 kp:∀b o,(hH o->C.Kn b o)->h.get? b=some o->h'.get? b=some o
 var:∀y,abk l y C h h'
 loc:∃m,h'.Ns C.env.locals m
 aN:∀x c,C.env.cells.lookup x=some c->∃v,h'.IsCell c v
structure Fc.AS(C:Fc)(h:Heap):Prop where
 loc:∃m,h.Ns C.env.locals m
 aN:∀x c,C.env.cells.lookup x=some c->∃v,h.IsCell c v
theorem Puts.nil(n:C.AS h):Puts C h h []:=⟨rfl,λJ J J e=>e,λJ=>⟨λJ e=>ai e,λJ J w=>w⟩,n.loc,n.aN⟩
theorem Puts.cons(x:Puts C h h' [p])(y:Puts C h' cX l):Puts C h cX (p::l):=⟨y.sz.trans x.sz,λb o k e=>y.kp b o k (x.kp b o k e),λz=>by
 rcases AR p l z with⟨q,e1,e2⟩|⟨e1,e2,e3⟩|⟨e1,e2,e3⟩
 ·exact⟨λr e=>(y.var z).got r (e1.trans (e2.symm.trans e)),λe=>ai (e.symm.trans e2)⟩
 ·exact⟨λr e=>(y.var z).old e1 _ ((x.var z).got r ((show fI [p] z=some p.2 by rw[e2];show ae (aA p.1 p.1) _ _=_;rw[jZ]).trans (e3.symm.trans e))),λe=>ai (e.symm.trans e3)⟩
 ·exact⟨λr e=>ai (e3.symm.trans e),λJ w r=>(y.var z).old e1 w ((x.var z).old (show ae (aA z p.1) _ _=_ by rw[rT e2]) w r)⟩,y.loc,y.aN⟩
theorem SameBut.kp(hs:lX c h h')(ec:∃o,h.get? c=some o/\hH o/\¬C.Kn c o)(b:Addr)(o:Obj)(k:hH o->C.Kn b o)(e:h.get? b=some o):h'.get? b=some o:=(hs.2 b λz=>ec.elim λo' q=>by subst z;have e1:=aO (e.symm.trans q.1);subst e1;exact q.2.2 (k q.2.1)).trans e
theorem Puts.one(hs:lX c h h')(ec:∃o,h.get? c=some o/\hH o/\¬C.Kn c o)(vx:C.Var h' p.1 p.2.2)(var:∀y w,y≠p.1->C.Var h y w->C.Var h' y w)(loc:∃m,h'.Ns C.env.locals m)(aN:∀x c,C.env.cells.lookup x=some c->∃v,h'.IsCell c v):Puts C h h' [p]:=
 ⟨hs.1,SameBut.kp hs ec,λy=>by
  by_cases c:y=p.1
  ·have e:fI [p] y=some p.2:=by rw[c];show ae (aA p.1 p.1) _ _=_;rw[jZ]
   exact⟨λq z=>by rw[e]at z;cases z;exact c▸vx,λz=>ai (z.symm.trans e)⟩
  ·have e:fI [p] y=none:=by show ae (aA y p.1) _ _=_;rw[rT c]
   exact⟨λq z=>ai (e.symm.trans z),λJ w=>var y w c⟩,loc,aN⟩
theorem xy(O:C.Ok)(n:C.AS h)(hx:C.mD p.1)(q:∀h' ak,Puts C h h' [p]->Q () (C.st h' ak)):wpAny (M_ C) C.A (storeName C.env p.1 p.2.2) Q E (C.st h tk):=n.loc.elim λm hm=>hx.1.elim
 (λhk=>wpAny_storeName_local hk.1 hm (λh' hn hs=>q h' _ (.one hs ((EN hm).imp λo z=>⟨z.1,z.2,λk=>k.elim (λq=>absurd hk.2 (Nat.not_le.mpr q)) λq=>q.1 rfl⟩) (.loc hk.1 _ hn (if_pos rfl)) (λy w ne r=>by
   cases r with|loc k m' n e=>exact .loc k _ hn (by rw[if_neg ne,hm.eq_nsMap,<-n.eq_nsMap];exact e)|aN k c l e=>exact .aN k c l (vd hs (O.kH y c l) e)) ⟨_,hn⟩ λy c e=>(n.aN y c e).elim λv i=>⟨v,vd hs (O.kH y c e) i⟩)) (by rw[O.kind];rfl))
 λhk=>(O.cell p.1 (.inl hk.1)).elim λc l=>(n.aN p.1 c l).elim λal9 i=>wpAny_storeName_cell O.kind hk.1 l i λh' hn hs=>q h' _ (.one hs (i.imp λo z=>⟨z.1,show ik o.data=true from congrArg ik z.2,λk=>k.elim (λq=>absurd (hk.2 c l) (Nat.not_le.mpr q)) λq=>q.2 _ z.2⟩) (.aN (.inl hk.1) c l hn) (λy w ne r=>by
   cases r with|loc k m' n e=>exact .loc k m' (n.sameBut hs (O.kH _ c l).symm) e|aN k d l' e=>exact .aN k d l' (vd hs (λz=>ne (O.cells y _ c (z▸l') l)) e)) ⟨m,hm.sameBut hs (O.kH _ c l).symm⟩ λy d e=>by
   by_cases z:d=c
   ·exact⟨_,z▸hn⟩
   ·exact(n.aN y d e).elim λv i=>⟨v,vd hs z i⟩)
inductive Nv(C:Fc)(p:Str×AV×aa)(R:List (aa->Sem Unit)->Prop):List (aa->Sem Unit)->Prop
 |mk {t:aa->Sem Unit} {ts:List (aa->Sem Unit)} (o:C.mD p.1) (k:∀Q s,wpAny (M_ C) C.A (storeName C.env p.1 p.2.2) Q aD s->wpAny (M_ C) C.A (t p.2.2) Q aD s) (r:R ts):Nv C p R (t::ts)
def Fc.EO(C:Fc)(l:Pl):List (aa->Sem Unit)->Prop:=@d6 (Str×AV×aa) (λJ=>List (aa->Sem Unit)->Prop) (λts=>ts=[]) (λp J=>Nv C p) l
theorem Nw(O:C.Ok):∀(l:Pl) {ts:List (aa->Sem Unit)} {h:Heap} {tk:Nat} {Q:Unit->aF->Prop},C.EO l ts->C.AS h->(∀h' ak,Puts C h h' l->Q () (C.st h' ak))->wpAny (M_ C) C.A (assignInOrder ts (l.map λp=>p.2.2)) Q aD (C.st h tk):=by
 intro l
 induction l with
 |nil=>intro ts h tk Q S n q;cases S;exact aV (q _ _ (.nil n))|cons p l ih=>
  intro ts h tk Q S n q;cases S with|mk o k r=>exact ar (kD (k _ _ (xy O n o λh' ak P=>ih r ⟨P.loc,P.aN⟩ λcX mw P'=>q cX mw (P.cons P'))))
theorem abl(x y:Str)(a:AV)(l:Sg):aj y (bR x a l)=ae (aA y x) (some a) (aj y l):=by
 by_cases c:y=x
 ·rw[c,z9,jZ]
 ·rw[DV c,rT c]
theorem abm:∀(l:Pl) (σ:Sg),aj y (putL l σ)=opt (aj y σ) (fI l y) (λq=>some q.1):=by
 intro l
 induction l with
 |nil=>exact λJ=>rfl|cons p l ih=>
  intro σ;show aj y (putL l (bR p.1 p.2.1 σ))=_;rw[ih,abl];rcases AR p l y with⟨q,e1,e2⟩|⟨e1,e2,e3⟩|⟨e1,e2,e3⟩
  ·rw[e1,e2]
  ·rw[e1,e3,e2,jZ]
  ·rw[e1,e3,rT e2]
theorem sI:∀{l:Pl},fI l y=some q->(y,q)∈l:=by
 intro l
 induction l with
 |nil=>exact λe=>ai e|cons p l ih=>
  intro e;rcases AR p l y with⟨r,e1,e2⟩|⟨e1,e2,e3⟩|⟨e1,e2,e3⟩
  ·exact aY _ (ih (e1.trans (e2.symm.trans e)))
  ·rw[e3]at e;cases e;rw[e2];exact aK
  ·exact ai (e3.symm.trans e)
noncomputable def Nx(v:aa)(d:Addr):Addr:=match v with|.ref a=>a|_=>d
def qA(l:Pl)(ad:Str->Addr)(y:Str):Addr:=opt (ad y) (fI l y) λq=>Nx q.2 (ad y)
def AT(l:Pl)(b:Addr):Prop:=∃y xs,(y,AV.own xs,fx b)∈l
def Fc.oW(C:Fc)(ad:Str->Addr)(σ:Sg)(P:Addr->Prop)(b:Addr):Prop:=C.aJ ad σ b/\¬P b
inductive Itm(C:Fc)(ad:Str->Addr)(σ:Sg)(h₀ h:Heap)(P:Addr->Prop):AV->aa->Prop
 |val {a:AV} {v:aa} (f:fz a=true) (r:VR h (C.oW ad σ P) a False v):Itm C ad σ h₀ h P a v|new {xs:List AV} {b:Addr} (z:h₀.objs.size<=b) (r:At h cM (λc=>c=b) (ay h (C.oW ad σ P) xs) (.ref b)):Itm C ad σ h₀ h P (.own xs) (.ref b)
theorem Itm.grow(g:aI h₁ h')(i:Itm C ad σ h₀ h₁ P a v):Itm C ad σ h₀ h' P a v:=by
 cases i with|val f r=>exact .val f (r.keep g)|new z r=>exact .new z (r.imp (λb vs n p e=>⟨p,g.bX (.lst vs n) e⟩) λJ=>ay.keep g)
theorem xA(e:fz a=true):a≠ .own xs:=λq=>by rw[q]at e;cases e
theorem Rel.EP(R:Rel C ad σ h)(e:aj y σ=some (.own ys)):ad y<h.objs.size:=(R.var y _ e).elim λw r=>by
 cases r.2 with|val r=>exact r.elim|own r=>cases r with|mk b vs n g p _=>exact p▸bu g
theorem xB(O:C.Ok)(R:Rel C ad σ h₀)(g:aI h₀ h₁)(hP:∀b,AT l b->W b)(S:∀p∈l,aj p.1 C.pin=none)(hi:∀p∈l,Itm C ad σ h₀ h₁ W p.2.1 p.2.2)(hd:∀y z xs ys b,(y,AV.own xs,fx b)∈l->(z,AV.own ys,fx b)∈l->y=z)(P:Puts C h₁ h' l):bN C ad σ h₀ (qA l ad) (putL l σ) h'/\Rel C (qA l ad) (putL l σ) h':=by
 have pz:∀b,AT l b->h₀.objs.size<=b:=λb q=>q.elim λy q=>q.elim λxs q=>by
  have i:=hi _ q;cases i with|val f r=>exact absurd rfl (xA f)|new z r=>exact z
 have hl:∀y a,aj y (putL l σ)=some a->(∃v,(y,a,v)∈l/\C.Var h' y v/\qA l ad y=Nx v (ad y))∨(aj y σ=some a/\(∀w,C.Var h₁ y w->C.Var h' y w)/\qA l ad y=ad y):=λy a e=>by
  rw[abm]at e;unfold qA;cases z:fI l y with|some q=>rw[z]at e;exact .inl ⟨q.2,by cases e;exact sI z,(P.var y).got q z,rfl⟩|none=>rw[z]at e;exact .inr ⟨e,(P.var y).old z,rfl⟩
 have at_:∀y ys,aj y σ=some (.own ys)->ad y<h₀.objs.size:=λy ys=>R.EP;have nw:∀y ys v,(y,AV.own ys,v)∈l->∃b,v=.ref b/\AT l b:=λy ys v m=>by
  have i:=hi _ m;cases i with|val f r=>exact absurd rfl (xA f)|new z r=>exact⟨_,rfl,y,ys,m⟩
 have hm:∀b,dC (qA l ad) (putL l σ) b->dC ad σ b∨AT l b:=λb q=>q.elim λy q=>q.elim λys q=>(hl y _ q.1).elim
  (λr=>r.elim λv r=>(nw y ys v r.1).elim λc z=>.inr (by rw[<-q.2,r.2.2,z.1];exact z.2))
  λr=>.inl ⟨y,ys,r.1,r.2.2.symm.trans q.2⟩
 have kn:∀b o,qy b o->h₁.get? b=some o->h'.get? b=some o:=λb o p e=>P.kp b o (λn=>absurd (p.2.symm.trans n) aL) e;have T:bN C ad σ h₀ (qA l ad) (putL l σ) h':=⟨by rw[P.sz];exact g.sz,λb o p J e=>kn b o p (g.kp b o p.1 e),λb o n k e=>P.kp b o (λJ=>k) (g.kp b o (n.nf b) e),λb q=>(hm b q).imp id (pz b)⟩
 have up:∀b o,C.oW ad σ W b->cJ o->h₁.get? b=some o->C.aJ (qA l ad) (putL l σ) b/\h'.get? b=some o:=λb o k s e=>⟨⟨k.1.1,λq=>(hm b q).elim k.1.2 λz=>k.2 (hP b z)⟩,kn b o s.mC e⟩
 have fk:∀b o vs,o.data=.fields vs->h₁.get? b=some o->h'.get? b=some o:=λb o vs d e=>P.kp b o (λn=>(n.bZ d).elim) e;refine⟨T,λb o n e=>P.kp b o (λn=>.inl (O.qk b o e n)) (g.kp b o n (R.base b o n e)),⟨(g.tb R.tabs).one.bZ fk,(g.tb R.tabs).two.bZ fk⟩,λy a e=>?_,P.loc,P.aN,λy ys e=>?_,λy z ys zs e1 e2=>?_,by rw[P.sz];exact az R.sz g.sz,λy v e=>?_⟩
 ·rcases hl y a e with⟨v,m,w,ea⟩|⟨e,w,ea⟩
  ·refine⟨v,w,?_⟩
   have i:=hi _ m;dsimp only at i;cases i with|val f r=>exact .val (r.mono up a gY)|new z r=>exact .own (r.imp (λb vs n p e=>⟨by rw[ea];exact p,kn b _ (cJ.lst vs n).mC e⟩) λJ=>ay.mono up _)
  ·exact(R.var y a e).elim λu r=>⟨u,w u (r.1.imp (λJ=>g.ns) λJ J J=>g.cell),r.2.mono (λb o k s e=>⟨T.qz k e,T.kp b o s.mC k e⟩) λxs b o J eb s e=>⟨eb.trans ea.symm,kn b o s.mC (g.bX s e)⟩⟩
 ·rcases hl y _ e with⟨v,m,w,ea⟩|⟨f1,w,ea⟩
  ·obtain⟨b,ev,pe⟩:=nw y ys v m
   rw[ea,ev];exact⟨λo e=>absurd (bu e) (Nat.not_lt.mpr (az O.size (az O.oE (az R.sz (pz b pe))))),O.new b (az R.sz (pz b pe))⟩
  ·rw[ea];exact R.own y ys f1
 ·rcases hl y _ e1 with⟨v,m,w,ea⟩|⟨f1,w,ea⟩<;>rcases hl z _ e2 with⟨v',m',w',eb⟩|⟨f2,w',eb⟩<;>rw[ea,eb]
  ·obtain⟨b,ev,pe⟩:=nw y ys v m
   obtain⟨c,ec,pc⟩:=nw z zs v' m';rw[ev]at m⊢;rw[ec]at m'⊢;exact λq=>hd y z ys zs b m (by have q:b=c:=q;rw[q];exact m')
  ·obtain⟨b,ev,pe⟩:=nw y ys v m
   rw[ev];exact λq=>absurd (at_ z zs f2) (Nat.not_lt.mpr (q▸pz b pe))
  ·obtain⟨c,ec,pc⟩:=nw z zs v' m'
   rw[ec];exact λq=>absurd (at_ y ys f1) (Nat.not_lt.mpr (q▸pz c pc))
  ·exact R.inj y z ys zs f1 f2
 ·cases z:fI l y with|some q=>exact ai ((S _ (sI z)).symm.trans e)|none=>exact(P.var y).old z v ((R.pin y v e).imp (λJ=>g.ns) λJ J J=>g.cell)
end
theorem cB.imp(k:∀a o,A.handled=some (.ref a)->NF a o->h.get? a=some o->h'.get? a=some o)(x:cB A h):cB A h':=Or.imp id (λx=>Exists.elim x λa x=>x.elim λo x=>x.elim λvs x=>⟨a,o,vs,x.1,k a o x.1 (λus d=>x.2.2.2.2) x.2.1,x.2.2⟩) x
theorem cB.keep(k:Kp h h'):cB A h->cB A h':=cB.imp λa o J x=>k a o x
section
theorem abn:plainId "proto.unchain"=true:=by decide+kernel
theorem abo:entryFor table "proto.unchain"=some Builtin.«proto.unchain»:=entryFor_of_fast ⋯
theorem abp(g:s.heap.get? a=some o)(hd:o.data=.fields vs)(h2:vs[2]?=some i6)(h:Q .none s):wpAny (model prog w) A (runValue (.builtin "proto.unchain" ⟨[e,.ref a,.ref a,.bool false],[]⟩)) Q E s:=by refine wpAny_runValue (codeAny_builtin abo ?_);rw[Around.under_plainId abn];refine ar (iI g hd h2 ?_);rw[if_pos (by decide:(i6==i6)=true)];exact aV h
theorem abq(hA:cB A s.heap){e:Addr}{o:Obj}{vs:Array aa}{α:Type}{Q:α->aF->Prop}(he:s.heap.get? e=some o)(hd:o.data=.fields vs)(cO:2<vs.size)(dB:∀a,A.handled=some (.ref a)->a≠e) (h:∀h':Heap,lX e s.heap h'->(∃o',h'.get? e=some o'/\o'.cls=o.cls)->E (.ref e) {s with heap:=h'}):wpAny (model prog w) A (raiseNew (α:=α) (.ref e)) Q E s:=by
 rcases hA with hA|⟨a,oa,va,hA,ga,da,d2,_⟩
 ·simp only[raiseNew]
  refine ar (wpAny_handled ?_);rw[hA];exact ar (aV (wpAny_throw (h s.heap (Heap.SameBut.refl ..) ⟨o,he,rfl⟩)))
 ·simp only[raiseNew]
  refine ar (wpAny_handled ?_);rw[hA];have hae:=dB a hA;have hb:(fx a !=fx e)=true:=by simp only[bne_iff_ne,ne_eq,Value.ref.injEq];exact hae
  dsimp only;rw[if_pos hb];refine ar (kD (abp ga da d2 ?_));refine ar ?_;unfold updateField;refine ar (wpAny_load he ?_);rw[hd];dsimp only;rw[if_pos cO];refine wpAny_update he (wpAny_throw (h _ (ud ..) ⟨_,wN _ he (I3 (ue hd _)),S9 ..⟩))
theorem cB.lt(x:cB A h)(e:A.handled=some (.ref a)):a<h.objs.size:=Or.elim x (λx=>ai (x.symm.trans e)) λx=>Exists.elim x λb x=>x.elim λo x=>x.elim λvs x=>by have z:=x.1.symm.trans e;injection z with z;injection z with z;exact z▸bu x.2.1
theorem AU(hA:cB A s.heap){α:Type}{Q:α->aF->Prop}(h:∀h' e o,s.heap.objs.size<=h'.objs.size->oB s.heap h'->h'.get? e=some o->o.cls=.type "StopIteration"->E (.ref e) {s with heap:=h'}):wpAny (model prog w) A (newExc (.type "StopIteration") []>>=λe=>raiseNew (α:=α) e) Q E s:=by
 refine ar ?_;simp only[newExc,newTuple];refine ar (I4 ?_ (by size_fits));refine ar (m:=firstArgMember _ _) (wpAny_of_eq (a:=i6) (by first|rfl|(simp only[firstArgMember];rfl)) ?_);refine I4 ?_ (by size_fits);generalize ez:s.heap.push {cls:=.type "tuple",data:=.seq #[]}=h1;have z1:s.heap.objs.size<h1.objs.size:=by rw[<-ez,gq];exact pN _
 have k1:oB s.heap h1:=λb o e=>by rw[<-ez];exact b7 _ e
 refine abq (cB.keep (λb o J e=>b7 _ (k1 b o e)) hA) (cU _ rfl) rfl (bV rfl) (λa ha=>fG (jU (cB.lt hA ha) z1)) λh' rQ x=>x.elim λo' x=>?_;exact h h' _ o' (by rw[rQ.1,gq];exact C4 (dw z1)) (λb o e=>(rQ.2 b (fG (jU (bu e) z1))).trans (b7 _ (k1 b o e))) x.1 x.2
theorem next_tuple_end{it t:Addr}{i:Nat}{items:Array aa}{Q:Option aa->aF->Prop}(hh:cB A s.heap)(dB:∀a,A.handled=some (.ref a)->a≠it) (hit:s.heap.IsTupleIter it t i) (ht:s.heap.IsTuple t items) (hx:items[i]?=none) (hQ:∀h',s.heap.objs.size<=h'.objs.size->C5 it s.heap h'->Q none {s with heap:=h'}):wpAny (model prog w) A (pyNext (.ref it)) Q E s:=by
 obtain⟨o,ho,hc,hd⟩:=id hit;obtain⟨ol,hol,_,nl,sJ⟩:=ht;unfold pyNext
 refine ar (wpAny_attempt (y6 (name:=fU "__next__") hit.typeIs F.slot_tuple_iterator_next
  (y7 F.slot_tuple_iterator_next hit.typeIs F.entry_tuple_iterator_next ?_ (F.args_tuple_iterator_next_1 _))))
 show wpAny _ _ (field (.ref it) 0>>=_) _ _ s;refine ar (iI ho hd (x:=.ref t) rfl ?_);rw[if_neg (show ¬((fx t==i6)=true)from aL)];refine ar (iI ho hd (x:=.int i 0) rfl ?_);refine ar (uf hol sJ ?_);simp only[cw,hx];refine ar (rF (ar (C6 ho hd (bV rfl) ?_)));generalize eh:s.heap.update it (pH λvs=>vs.setIfInBounds 0 i6)=h1;have EQ:=eh▸ud ..;refine(AU (A:=A.in1) (cB.imp (λa o e J g=>(EQ.2 a (dB a e)).trans g) hh) λh' e o z k g c=>?_);refine ar (wpAny_isInstance (T:="StopIteration") (b:=true) ⟨o,g,c⟩ isSubtype_stop ?_);exact aV (hQ _ (EQ.1▸z) λb o hb e=>k b o ((EQ.2 b hb).trans e))
theorem Ny(hh:cB A s.heap)(ht:s.heap.IsTuple t items) (hQ:∀h',s.heap.objs.size<=h'.objs.size->C5 s.heap.objs.size s.heap h'->Q items.toList {s with heap:=h'}):wpAny (model prog w) A (unpackItems (.ref t) items.size none) Q E s:=by
 have aM:t≠s.heap.objs.size:=by obtain⟨o,ho,_⟩:=ht;exact fG (bu ho)
 unfold unpackItems;refine ar ?_
 ·unfold notIterableAtAll
  refine ar (wpAny_specialOf ht.typeIs F.slot_tuple_iter.lookup ?_);refine aV ?_;simp only[yZ,if_false];refine ar (kD (IX ht ?_));refine ar (kD (wpAny_draw_tuple aM items.size 0 _ _ ⟨_,cU _ rfl,rfl,rfl⟩ (ht.push _) (ax 246448137 69905) λh₁ abu iu=>?_));have abv:List.take items.size (List.drop 0 items.toList)=items.toList:=by rw[tR];exact CX (by simp)
  rw[abv];rw[if_neg (by simp)];have abw:=(ht.push _).extBut iu.extBut aM;have Nz:∀b o,b≠s.heap.objs.size->s.heap.get? b=some o->h₁.get? b=some o:=λb o hb e=>(iu.2 b hb).trans (b7 _ e);have dB:∀a,A.handled=some (.ref a)->a≠s.heap.objs.size:=λa ha=>fG (cB.lt hh ha);have abx:cB A h₁:=by
   rcases hh with hh|⟨b,ob,vb,e,g,r⟩
   ·exact .inl hh
   ·exact .inr ⟨b,ob,vb,e,Nz b _ (dB b e) g,r⟩
  refine ar (kD (next_tuple_end abx dB abu abw (by simp) λav hz ve=>?_));simp only[Option.isSome_none,yZ,if_false];refine aV (hQ av (az ?_ hz) λb o hb e=>ve b o hb (Nz b o hb e));have:=iu.1;rw[show({s with heap:=h₁}:aF).heap.objs.size=h₁.objs.size from rfl,this,gq];exact ax 246946048 69905
end
@[reducible] noncomputable def Fc.re (C:Fc) (env:Env) (ok:Addr->Prop) (nw nx:Addr) (pin:List (Str×aa)):Fc:=⟨C.prog,C.w,C.A,env,ok,C.lo,nw,nx,C.base,C.mg,C.mb,pin,C.z⟩
def Fc.abz(C:Fc)(n n':Addr)(b:Addr):Prop:=C.ok b/\b<n∨n'<=b
@[reducible] def Fc.cut (C:Fc) (n n':Addr):Fc:=C.re C.env (C.abz n n') C.nw n' C.pin
section
variable{C:Fc}{ad:Str->Addr}
variable{α:Type}
theorem kK.re(r:kK H C fa f):kK H (C.re env ok nw nx pin) fa f:=⟨r.ob,r.run⟩
theorem fj.re(r:fj H C x g):fj H (C.re env ok nw nx pin) x g:=by
 cases r with|val e r=>exact .val e r|aG e=>exact .aG e|fn e r=>exact .fn e r.re|bi e e'=>exact .bi e e'
theorem Fits.cut(F:Fits H C cx)(z:C.nx<=n'):Fits H (C.cut n n') cx where
 ok:={F.ok with new:=λa=>.inr,ql:=az F.ok.ql z,oE:=az F.ok.oE z}
 hu:=F.hu
 hn:=F.hn
 hm:=F.hm
 kind:=F.kind
 name:=F.name
 glob x g e:=(F.glob x g e).re
 pin x f e:=(F.pin x f e).elim λfa r=>⟨fa,r.1,r.2.re⟩
theorem Fc.Var.re{ok:Addr->Prop}{nw nx:Addr}{pin:List (Str×aa)}:C.Var h x v->(C.re C.env ok nw nx pin).Var h x v|.loc k m n e=>.loc k m n e|.aN k c l e=>.aN k c l e
theorem Rel.cut(R:Rel C ad σ h)(g:aI h h'):Rel (C.cut h.objs.size h'.objs.size) ad σ h':=
 have R':=R.grow g;have up:∀b o,C.aJ ad σ b->cJ o->h.get? b=some o->(C.cut h.objs.size h'.objs.size).aJ ad σ b/\h'.get? b=some o:=λb o k s e=>⟨⟨.inl ⟨k.1,bu e⟩,k.2⟩,g.bX s e⟩
 {base:=R'.base,tabs:=R'.tabs,loc:=R'.loc,aN:=R'.aN,own:=λx xs e=>⟨(R.own x xs e).1,.inl ⟨(R.own x xs e).2,R.EP e⟩⟩,inj:=R'.inj,sz:=aQ _,pin:=λx v e=>(R'.pin x v e).re,
  var:=λx a e=>(R.var x a e).elim λv r=>⟨v,(r.1.imp (λJ=>g.ns) λJ J J=>g.cell).re,by
   cases r.2 with|val r=>exact .val (r.mono up _ gY)|own r=>exact .own (r.imp (λb vs n p e=>⟨p,g.bX (.lst vs n) e⟩) λJ=>ay.mono up _)|bU r=>exact .bU (r.imp (λb vs n p e=>⟨p,g.bX (.lst vs n) e⟩) λJ=>ay.mono up _)⟩}
inductive ER(C:Fc)(ad:Str->Addr)(σ:Sg)(h₀ h:Heap)(P:Addr->Prop)(a:AV)(R:List Addr->List aa->Prop):List Addr->List aa->Prop
 |val {bs:List Addr} {v:aa} {vs:List aa} (r:VR h (C.oW ad σ P) a True v) (q:R bs vs):ER C ad σ h₀ h P a R bs (v::vs)|new {bs:List Addr} {b:Addr} {xs:List AV} {vs:List aa} (ea:a=.own xs) (z:h₀.objs.size<=b) (r:At h cM (λc=>c=b) (ay h (C.oW ad σ P) xs) (.ref b)) (n:b∉bs) (q:R bs vs):ER C ad σ h₀ h P a R (b::bs) (.ref b::vs)
def j5(C:Fc)(ad:Str->Addr)(σ:Sg)(h₀ h:Heap)(P:Addr->Prop)(as:List AV):List Addr->List aa->Prop:=@d6 AV (λJ=>List Addr->List aa->Prop) (λbs vs=>bs=[]/\vs=[]) (λa J=>ER C ad σ h₀ h P a) as
theorem j5.mono(z:abA.objs.size<=h₀.objs.size)(k:∀b o,C.oW ad σ P b->cJ o->h.get? b=some o->C'.oW ad σ P' b/\h'.get? b=some o)(kp:∀b o,cJ o->h.get? b=some o->h'.get? b=some o):∀(as:List AV) {bs:List Addr} {vs:List aa},j5 C ad σ h₀ h P as bs vs->j5 C' ad σ abA h' P' as bs vs:=by
 intro as
 induction as with
 |nil=>exact id|cons a as ih=>
  intro bs vs q;cases q with|val r q=>exact .val (r.mono k _ λJ=>⟨trivial,kp⟩) (ih q)|new ea y r n q=>exact .new ea (az z y) (r.imp (λb vs n p e=>⟨p,kp b _ (.lst vs n) e⟩) λJ=>ay.mono k _) n (ih q)
theorem j5.grow(g:aI h h')(q:j5 C ad σ h₀ h P as bs vs):j5 C ad σ h₀ h' P as bs vs:=q.mono (aQ _) (λb o k s e=>⟨k,g.bX s e⟩) (λb o s e=>g.bX s e) as
theorem j5.ge:∀(as:List AV) {bs:List Addr} {vs:List aa},j5 C ad σ h₀ h P as bs vs->∀b∈bs,h₀.objs.size<=b:=by
 intro as
 induction as with
 |nil=>exact λq b m=>absurd (q.1▸m) fc|cons a as ih=>
  intro bs vs q;cases q with|val r q=>exact ih q|new ea y r n q=>exact λb m=>(List.mem_cons.mp m).elim (λe=>e▸y) (ih q b)
theorem NA(Y:I.Ok H):∀(es:List ab) {C:Fc} {kl:List AV->α} (F:Fits H C cx),noStar es=true->H (MX I cx σ es kl)->∀h,Rel C ad σ h->∀tk (Q:List aa->aF->Prop),(∀vs h' ak as bs,aI h h'->j5 C ad σ h h' (·∈bs) as bs vs->H (kl as)->Q vs (C.st h' ak))->wpAny (M_ C) C.A (spliced (backTo p (starEach es C.env))) Q aD (C.st h tk)
 |[],C,kl,F,n,x,h,R,tk,Q,q=>aV (q [] h tk [] [] (.refl h) ⟨rfl,rfl⟩ x)|e::es,C,kl,F,n,x,h,R,tk,Q,q=>by
  rw[(vc n).1];refine uc (Y.E F x ad h R tk _ λv h₁ bq a g r x=>?_);have eK:=R.grow g;refine kE (NA Y es (F.cut eK.sz) (vc (C:=C) n).2 x h₁ (R.cut g) bq (λvs s=>Q (v::vs) s) λvs av bI as bs bx rs x=>?_) (λJ J x=>x) λJ J x=>x;have ge:=rs.ge as;have lt:∀b o,h₁.get? b=some o->b∉bs:=λb o e m=>absurd (bu e) (Nat.not_lt.mpr (ge b m));have cu:∀b,(C.cut h.objs.size h₁.objs.size).aJ ad σ b->C.aJ ad σ b:=λb k=>k.1.elim (λz=>⟨z.1,k.2⟩) λz=>eK.fresh F.ok z;cases r with|val r=>exact q _ av bI (a::as) bs (g.trans bx) (.val (r.mono (λb o k s e=>⟨⟨k,lt b o e⟩,bx.bX s e⟩) _ λJ=>⟨trivial,λb o s e=>bx.bX s e⟩) (rs.mono g.sz (λb o k s e=>⟨⟨cu b k.1,k.2⟩,e⟩) (λJ J J e=>e) as)) x|@new b us n xs e z rv=>have lb:=bu e;have nb:∀c,(C.cut h.objs.size h₁.objs.size).aJ ad σ c->c≠b:=λc k=>k.1.elim (λw q=>absurd (fy w.2 z) (q▸rE _)) λw q=>absurd lb (Nat.not_lt.mpr (q▸w));exact q _ av bI (.own xs::as) (b::bs) (g.trans bx) (.new rfl z ⟨b,us,n,bx.bX (.lst us n) e,rfl,rv.mono (λc o k s e=>⟨⟨k.1,λm=>(List.mem_cons.mp m).elim k.2 (lt c o e)⟩,bx.bX s e⟩) _⟩ (lt b _ e) (rs.mono g.sz (λc o k s e=>⟨⟨cu c k.1,λm=>(List.mem_cons.mp m).elim (nb c k.1) k.2⟩,e⟩) (λJ J J e=>e) as)) x
theorem sK(e:fz a=true)(r:VR h ok a True v):VR h ok a False v:=by
 cases a with|bU xs=>exact absurd e aL|own xs=>exact absurd e aL|_=>exact r
theorem ES(e:En cx x a=true)(n:∀xs,a≠ .own xs):fz a=true:=by
 cases a with|bU xs=>exact absurd e aL|own xs=>exact absurd rfl (n xs)|_=>rfl
structure sL(C:Fc)(ts:List ab)(l:Pl):Prop where
 st:C.EO l ((assignEach ts C.env).map (·.2))
 len:(assignEach ts C.env).length=l.length
 star:(assignEach ts C.env).findIdx? (·.1)=none
inductive ET(C:Fc)(ad:Str->Addr)(σ:Sg)(h₀ h:Heap)(P:Addr->Prop)(p:Str×AV×aa)(R:List Addr->Prop):List Addr->Prop
 |val {bs:List Addr} (f:fz p.2.1=true) (r:VR h (C.oW ad σ P) p.2.1 False p.2.2) (q:R bs):ET C ad σ h₀ h P p R bs|new {bs:List Addr} {b:Addr} {xs:List AV} (ea:p.2=(.own xs,.ref b)) (z:h₀.objs.size<=b) (r:At h cM (λc=>c=b) (ay h (C.oW ad σ P) xs) (.ref b)) (m:b∉bs) (q:R bs):ET C ad σ h₀ h P p R (b::bs)
def Sets(C:Fc)(ad:Str->Addr)(σ:Sg)(h₀ h:Heap)(P:Addr->Prop)(l:Pl):List Addr->Prop:=@d6 (Str×AV×aa) (λJ=>List Addr->Prop) (λbs=>bs=[]) (λp J=>ET C ad σ h₀ h P p) l
theorem Sets.NB:∀(l:Pl) {bs:List Addr},Sets C ad σ h₀ h P l bs->∀p∈l,Itm C ad σ h₀ h P p.2.1 p.2.2:=by
 intro l
 induction l with
 |nil=>exact λJ p m=>absurd m fc|cons q l ih=>
  intro bs S;cases S with|val f r s=>exact λp m=>(List.mem_cons.mp m).elim (λe=>e▸ .val f r) (ih s p)|new ea z r n s=>exact λp m=>(List.mem_cons.mp m).elim (λe=>by rw[e,ea];exact .new z r) (ih s p)
theorem hJ{p:Str×AV×aa}{y:Str}{ys:List AV}{c b:Addr}(e:(y,AV.own ys,fx c)=p)(ea:p.2=(.own xs,.ref b)):y=p.1/\c=b:=by subst e;cases ea;exact⟨rfl,rfl⟩
theorem EU{p:Str×AV×aa}{y:Str}{ys:List AV}{u:aa}(e:(y,AV.own ys,u)=p)(f:fz p.2.1=true){G:Prop}:G:=by subst e;exact absurd f aL
theorem Sets.own{y:Str}{ys:List AV}{c:Addr}:∀(l:Pl) {bs:List Addr},Sets C ad σ h₀ h P l bs->(y,AV.own ys,fx c)∈l->c∈bs:=by
 intro l
 induction l with
 |nil=>exact λJ m=>absurd m fc|cons q l ih=>
  intro bs S;cases S with|val f r s=>exact λm=>(List.mem_cons.mp m).elim (λe=>EU e f) (ih s)|new ea z r n s=>exact λm=>(List.mem_cons.mp m).elim (λe=>(hJ e ea).2▸aK) λm=>aY _ (ih s m)
theorem Sets.one{y z:Str}{ys zs:List AV}{c:Addr}:∀(l:Pl) {bs:List Addr},Sets C ad σ h₀ h P l bs->(y,AV.own ys,fx c)∈l->(z,AV.own zs,fx c)∈l->y=z:=by
 intro l
 induction l with
 |nil=>exact λJ m=>absurd m fc|cons q l ih=>
  intro bs S;cases S with|val f r s=>exact λm m'=>(List.mem_cons.mp m).elim (λe=>EU e f) λm=>(List.mem_cons.mp m').elim (λe=>EU e f) (ih s m)|new ea w r k s=>exact λm m'=>(List.mem_cons.mp m).elim (λe=>(List.mem_cons.mp m').elim (λe'=>(hJ e ea).1.trans (hJ e' ea).1.symm) λm'=>absurd (Sets.own l s m') ((hJ e ea).2▸k)) λm=>(List.mem_cons.mp m').elim (λe=>absurd (Sets.own l s m) ((hJ e ea).2▸k)) (ih s m)
structure AW(H:α->Prop)(C:Fc)(fa:Addr)(f:List AV->Sg->(Sg->α)->α):Prop where
 ob:∃o fd,C.base.get? fa=some o/\o.data=.func fd
 run:∀ad σ h as vs k tk (Q:aF->Prop),Rel C ad σ h->ay h (C.aJ ad σ) as vs->H (f as σ k)->(∀σ' h' ak,bN C ad σ h ad σ' h'->Rel C ad σ' h'->H (k σ')->Q (C.st h' ak))->codeAny (M_ C) C.A (.call (.ref fa) ⟨vs,[]⟩) (λr s'=>∃v,r=.ok (.ret v)/\Q s') (C.st h tk)
structure a7(H:α->Prop)(C:Fc)(cx:Cx α):Prop extends Fits H C cx where
 hO:∀x,AD cx x=true->C.mD x
 sN:∀x f,aj x cx.sn=some f->∃fa,aj x C.pin=some (.ref fa)/\AW H C fa f
theorem sL.cons{y:Str}{py:Pos}{v:aa}{l:Pl}(so:C.mD y)(T:sL C ts l):sL C (.Name y py::ts) ((y,a,v)::l):=⟨.mk so (λQ s=>wpAny_assign_Name) T.st,congrArg (·+1) T.len,by
 show List.findIdx? _ ((false,_)::assignEach ts C.env)=none
 rw[List.findIdx?_cons,T.star];rfl⟩
theorem xC(M:m.Ok H)(F:a7 H C cx){G:Prop}:∀{ts:List ab} {as:List AV} {vs:List aa} {bs:List Addr} {σ:Sg},H (xt m cx ts as σ ks)->j5 C ad σ₁ h₀ h P as bs vs->(∀l,H (ks (putL l σ))->sL C ts l->Sets C ad σ₁ h₀ h P l bs->l.map (λp=>p.2.2)=vs->ts.map cP=l.map (λp=>some p.1)->G)->G
 |[],[],_,_,σ,x,r,q=>q [] x ⟨rfl,rfl,rfl⟩ r.1 r.2.symm rfl|[],_::_,_,_,_,x,_,_=>absurd x M.fail|_::_,[],_,_,_,x,_,_=>absurd x M.fail|t::ts,a::as,vs,bs,σ,x,r,q=>aW M.fail x λy ey z1=>(Fl.bz M.fail z1).elim λsx z2=>(Fl.bz M.fail z2).elim λhx z3=>(j3 ey).elim λpy ep=>by
  subst ep;have so:=F.hO y sx;cases r with|val r rs=>exact have f:=ES hx λxs e=>(by subst e;exact r);xC M F (ts:=ts) (σ:=bR y a σ) z3 rs λl x T S e nn=>q ((y,a,_)::l) x (.cons so T) (.val f (sK f r) S) (congrArg (_::·) e) (congrArg (_::·) nn)|new ea z r n rs=>exact xC M F (ts:=ts) (σ:=bR y a σ) z3 rs λl x T S e nn=>q ((y,a,_)::l) x (.cons so T) (.new (by rw[ea]) z r n S) (congrArg (_::·) e) (congrArg (_::·) nn)
theorem sL.hO{l:Pl}(T:sL C ts l):∀p∈l,C.mD p.1:=by
 have S:=T.st;revert S;generalize (assignEach ts C.env).map (·.2)=us;clear T
 induction l generalizing us with
 |nil=>exact λJ p m=>absurd m fc|cons q l ih=>
  intro S;cases S with|mk o k r=>exact λp m=>(List.mem_cons.mp m).elim (λe=>e▸o) (ih _ r p)
end
section
variable{ad ad':Str->Addr}
variable{α:Type}
def mE(C:Fc)(ad:Str->Addr)(σ:Sg)(h:Heap)(K:Sg->Prop)(Q:Unit->aF->Prop):Prop:=∀ad' σ' h' tk,bN C ad σ h ad' σ' h'->Rel C ad' σ' h'->K σ'->Q () (C.st h' tk)
abbrev fJ(H:α->Prop)(k:Sg->α):Sg->Prop:=λσ=>H (k σ)
theorem run_set(M:m.Ok H)(F:a7 H C cx)(R:Rel C ad σ h₀)(g:aI h₀ h₁)(x:H (xt m cx ts as σ ks))(r:j5 C ad σ h₀ h₁ (·∈bs) as bs vs)(q:mE C ad σ h₀ (fJ H ks) Q):wpAny (M_ C) C.A (assignInOrder ((assignEach ts C.env).map (·.2)) vs) Q aD (C.st h₁ tk):=
 xC M F x r λl x T S e J=>e▸Nw F.ok l T.st ⟨(R.grow g).loc,(R.grow g).aN⟩ λh' ak P=>
  have z:=xB F.ok R g (W:=(·∈bs)) (λb w=>w.elim λy w=>w.elim λys w=>Sets.own l S w) (λp w=>(T.hO p w).2) (Sets.NB l S) (λy z ys zs b=>Sets.one l S) P
  q _ _ h' ak z.1 z.2 x
theorem EV(M:m.Ok H)(F:a7 H C cx)(x:H (xt m cx ts as σ ks))(r:j5 C ad σ h₀ h₁ P as bs vs):(assignEach ts C.env).length=vs.length/\(assignEach ts C.env).findIdx? (·.1)=none:=xC M F x r λl J T J e J=>⟨by rw[T.len,<-e,bB],T.star⟩
theorem NC(F:a7 H C cx)(R:Rel C ad σ h)(g:h.get? t=some (gA vs n))(T:(assignEach ts C.env).length=vs.length/\(assignEach ts C.env).findIdx? (·.1)=none)(q:∀h',aI h h'->wpAny (M_ C) C.A (assignInOrder ((assignEach ts C.env).map (·.2)) vs) Q aD (C.st h' tk)):wpAny (M_ C) C.A (wO (.Tuple ts kk p) C.env (.ref t)) Q aD (C.st h tk):=by rw[arm_assign_Tuple];refine ar (pO ?_);unfold unpack;rw[T.1,T.2];exact ar (kD (Ny (s:=C.st h tk) (items:=vs.toArray) (F.hm.keep R.base) ⟨_,g,rfl,n,rfl⟩ λh' z x=>q h' (.of z λb o e=>x b o (fG (bu e)) e)))
theorem abB(hn:C.A.handled=none)(g:h.get? t=some (cM vs n))(T:(assignEach ts C.env).length=vs.length/\(assignEach ts C.env).findIdx? (·.1)=none)(q:∀h',aI h h'->wpAny (M_ C) C.A (assignInOrder ((assignEach ts C.env).map (·.2)) vs) Q aD (C.st h' tk)):wpAny (M_ C) C.A (wO (.Tuple ts kk p) C.env (.ref t)) Q aD (C.st h tk):=by rw[arm_assign_Tuple];refine ar (pO ?_);unfold unpack;rw[T.1,T.2];exact ar (kD (jY (kun_itemsOf (s:=C.st h tk) (items:=vs.toArray) hn ⟨_,g,rfl,n,rfl⟩ λh' x z=>q h' (.of z λb o e=>x b o (fG (bu e)) e))))
theorem j5.vals:∀{as:List AV} {vs:List aa},ay h (C.aJ ad σ) as vs->j5 C ad σ h₀ h (·∈[]) as [] vs:=by
 intro as
 induction as with
 |nil=>exact λr=>⟨rfl,r⟩|cons a as ih=>
  intro vs r;cases r with|mk p q=>exact .val (p.mono (λb o k J e=>⟨⟨k,fc⟩,e⟩) a gY) (ih q)
theorem ND(M:m.Ok H)(F:a7 H C cx)(R:Rel C ad σ h₀)(g:aI h₀ h₁)(r:C.V ad σ h₁ a v)(x:H (Eo m cx a σ ks ts))(q:mE C ad σ h₀ (fJ H ks) Q):wpAny (M_ C) C.A (wO (.Tuple ts kk p) C.env v) Q aD (C.st h₁ tk):=dD x
 (λx=>aW M.fail x λxs ex x=>(Fl.bz M.fail x).elim λhn x=>by
  cases lF ex r with|mk t vs n gt _ rs=>exact abB (F.hn hn) gt (EV M F x (.vals (h₀:=h₀) rs)) λav bx=>run_set M F R (g.trans bx) x (.vals (rs.keep bx)) q)
 λxs ex x=>by
  cases Au ex r with|mk t vs n gt _ rs=>exact NC F (R.grow g) gt (EV M F x (.vals (h₀:=h₀) rs)) λav bx=>run_set M F R (g.trans bx) x (.vals (rs.keep bx)) q
def Fc.Kept(C:Fc)(h h':Heap):Prop:=∀b o,hH o->C.Kn b o->h.get? b=some o->h'.get? b=some o
theorem xD(F:a7 H C cx)(R:Rel C ad σ h₀)(g:aI h₀ h₁)(so:C.mD x)(i:Itm C ad σ h₀ h₁ (λb=>v=.ref b/\∃xs,a=.own xs) a v)(q:∀ad' h' ak,C.Kept h₁ h'->bN C ad σ h₀ ad' (bR x a σ) h'->Rel C ad' (bR x a σ) h'->Q () (C.st h' ak)):wpAny (M_ C) C.A (storeName C.env x v) Q aD (C.st h₁ tk):=
 xy F.ok ⟨(R.grow g).loc,(R.grow g).aN⟩ (p:=(x,a,v)) so λh' ak P=>
  have m:∀{p:Str×AV×aa},p∈[(x,a,v)]->p=(x,a,v):=λm=>(List.mem_cons.mp m).elim id λm=>absurd m fc;have z:=xB F.ok R g (l:=[(x,a,v)]) (W:=λb=>v=.ref b/\∃xs,a=.own xs) (λb w=>w.elim λy w=>w.elim λys w=>have e:=(y8 (m w)).2;And.intro (y8 e).2.symm ⟨ys,(y8 e).1.symm⟩) (λp w=>by rw[m w];exact so.2) (λp w=>by rw[m w];exact i) (λy z ys zs b w w'=>(y8 (m w)).1.trans (y8 (m w')).1.symm) P
  q _ h' ak (λb o J k e=>P.kp b o (λJ=>k) e) z.1 z.2
theorem AX(f:fz a=true)(r:VR h₁ (C.aJ ad σ) a False v):Itm C ad σ h₀ h₁ (λb=>v=.ref b/\∃xs,a=.own xs) a v:=.val f (r.mono (λb o k J e=>⟨⟨k,λz=>z.2.elim λxs z=>xA f z⟩,e⟩) a gY)
theorem tup_is:ny e=some ts->∃kk p,e=.Tuple ts kk p:=(by induction e using cv with|Tuple NE kk p=>exact λz=>⟨kk,p,aO z▸rfl⟩|_=>exact λz=>ai z)
theorem abC:(∀xs,a≠ .own xs)->hold cx x a=a:=(by induction a using AV.casesOn with|own xs=>exact λn=>absurd rfl (n xs)|_=>exact λJ=>rfl)
theorem NG(M:m.Ok H)(F:a7 H C cx)(R:Rel C ad σ h)(r:VR h (C.aJ ad σ) a False v)(x:H (Ep m cx σ t ks a))(q:mE C ad σ h (fJ H ks) Q):wpAny (M_ C) C.A (wO t C.env v) Q aD (C.st h tk):=dD x
 (λx=>aW M.fail x λy ey x=>(Fl.bz M.fail x).elim λsx x=>(Fl.bz M.fail x).elim λhx z0=>(j3 ey).elim λpy et=>by
  subst et
  exact wpAny_assign_Name (xD F R (.refl h) (F.hO _ sx) (AX (ES hx λxs e=>by subst e;exact r) r) λad' h' ak J s R'=>q ad' _ h' ak s R' z0))
 λts et x=>(tup_is et).elim λkk z=>z.elim λp z=>by rw[z];exact ND M F R (.refl h) (r.mono (λJ J k J e=>⟨k,e⟩) a gY) x q
theorem EW(M:m.Ok H)(F:a7 H C cx)(R:Rel C ad σ h₀)(g:aI h₀ h₁)(r:Res C ad σ h₀ h₁ a v)(x:H (AN m cx y σ ks a))(q:∀ad' σ' h' ak,C.Kept h₁ h'->bN C ad σ h₀ ad' σ' h'->Rel C ad' σ' h'->fJ H ks σ'->Q () (C.st h' ak)):wpAny (M_ C) C.A (storeName C.env y v) Q aD (C.st h₁ tk):=by
 obtain⟨sx,x⟩:=Fl.bz M.fail x;obtain⟨hx,x⟩:=Fl.bz M.fail x;have so:=F.hO _ sx;cases r with
 |val r=>
  have n:∀xs,a≠ .own xs:=λxs e=>by subst e;exact r
  rw[abC n]at hx x;have f:=ES hx n;exact xD F R g so (AX f (sK f r)) λad' h' ak k s R'=>q ad' _ h' ak k s R' x|@new l us n xs e z rv=>
  cases c:cx.mu.any (aA y)with
  |true=>
   have eh:hold cx y (.own xs)=.own xs:=by show ae (cx.mu.any (aA y)) _ _=_;rw[c]
   rw[eh]at x;exact xD F R g so (.new z ⟨l,us,n,e,rfl,rv.mono (λb o k J e=>⟨⟨k.1,λw=>k.2 (by have w:=w.1;injection w with w;exact w.symm)⟩,e⟩) _⟩) λad' h' ak k s R'=>q ad' _ h' ak k s R' x|false=>
   have eh:hold cx y (.own xs)=.lst xs:=by show ae (cx.mu.any (aA y)) _ _=_;rw[c]
   rw[eh]at x;exact xD F R g so (AX (a:=.lst xs) rfl ⟨l,us,n,e,R.fresh F.ok z,rv.mono (λb o k J e=>⟨k.1,e⟩) _⟩) λad' h' ak k s R'=>q ad' _ h' ak k s R' x
end
section
variable{C:Fc}{ad ad':Str->Addr}{K K':Sg->Prop}
variable{α:Type}
structure lI(C:Fc)(ad:Str->Addr)(σ:Sg)(h:Heap)(K:Sg->Prop)(Kr:AV->Prop)(Q:Flow->aF->Prop):Prop where
 n:mE C ad σ h K λJ s=>Q .next s
 r:∀a v ad' σ' h' tk,bN C ad σ h ad' σ' h'->Rel C ad' σ' h'->VR h' (C.aJ ad' σ') a False v->Kr a->Q (.ret v) (C.st h' tk)
def X1(C:Fc)(σ:Sg)(s:Stmt)(K:Sg->Prop)(Kr:AV->Prop):Prop:=∀ad h,Rel C ad σ h->∀tk Q,lI C ad σ h K Kr Q->wpAny (M_ C) C.A (exec s C.env) Q aD (C.st h tk)
def Xs(C:Fc)(σ:Sg)(ss:List Stmt)(K:Sg->Prop)(Kr:AV->Prop):Prop:=∀ad h,Rel C ad σ h->∀tk Q,lI C ad σ h K Kr Q->wpAny (M_ C) C.A (execs ss C.env) Q aD (C.st h tk)
def Cu(C:Fc)(σ:Sg)(e:ab)(elt:ab)(gs:List t9)(sc:ig)(K:AV->Prop):Prop:=∀ad h,Rel C ad σ h->∀(use:aa->Sem Unit) tk (Q:aa->aF->Prop),(∀v h' ak a L m,aI h h'->Res C ad σ h h' a v->K a->h.objs.size<=L->h'.Ns L m->wpAny (M_ C) C.A (use v) (λJ s=>∃m,s.heap.Ns L m/\∀cX,lX L s.heap cX->Q .none {s with heap:=cX}) aD (C.st h' ak))->
 wpAny (M_ C) C.A (comprehension e sc C.env (firstIterPos gs e.pos) (newList []) (firstAsync gs) (firstIter gs C.env) (some use)) Q aD (C.st h tk)
noncomputable def xE(e:ab):Bool:=(by induction e using cv with|ListComp J J J J=>exact false|SetComp J J J J=>exact false|DictComp J J J J J=>exact false|_=>exact true)
structure It.iw(I:It α)(H:α->Prop):Prop extends It.Ok I H where
 S:∀{C:Fc} {cx:Cx α} {σ:Sg} {ss:List Stmt} {k:Sg->α} {kr:AV->α},a7 H C cx->H (I.S cx σ ss k kr)->Xs C σ ss (fJ H k) (Hk H kr)
 X:∀{C:Fc} {cx:Cx α} {σ:Sg} {e:ab} {k:AV->α},Fits H C cx->H (I.E cx σ e k)->xE e=false->∃elt gs sc p,e=.ListComp elt gs sc p/\Cu C σ e elt gs sc (Hk H k)
theorem mE.after(q:mE C ad σ h K Q)(s:bN C ad σ h ad' σ' h'):mE C ad' σ' h' K Q:=λa z i tk s'=>q a z i tk (s.trans s')
theorem lI.after(q:lI C ad σ h K Kr Q)(s:bN C ad σ h ad' σ' h'):lI C ad' σ' h' K Kr Q:=⟨q.n.after s,λa v b z i tk s'=>q.r a v b z i tk (s.trans s')⟩
theorem abE:∀{σ:Sg} {y:Str} {b:AV},aj y (AM ns σ)=some b->∃a,aj y σ=some a/\(b=a∨b=eH a):=by
 intro σ
 induction σ with
 |nil=>exact λe=>ai e|cons q σ ih=>
  intro y b e;have k:(sE ns q).1=q.1/\((sE ns q).2=q.2∨(sE ns q).2=eH q.2):=by
   unfold sE;cases ns.any (aA q.1)with|true=>exact⟨rfl,.inr rfl⟩|false=>exact⟨rfl,.inl rfl⟩
  have e:ae (aA y (sE ns q).1) (some (sE ns q).2) (aj y (AM ns σ))=some b:=e;rw[k.1]at e;show ∃a,ae (aA y q.1) (some q.2) (aj y σ)=some a/\_;cases c:aA y q.1 with|true=>rw[c]at e;exact⟨_,rfl,aO e▸k.2⟩|false=>rw[c]at e;exact ih e
theorem EY(e:aj y (jC ns σ)=some b):∃a,aj y σ=some a/\(b=a∨b=eH a):=by
 have e:aj y (ae (ns.any (Ez σ)) (AM ns σ) σ)=some b:=e;cases c:ns.any (Ez σ)with|true=>rw[c]at e;exact abE e|false=>rw[c]at e;exact⟨b,e,.inl rfl⟩
theorem xF:eH a≠ .own xs:=(by induction a using AV.casesOn with|own ys=>exact λe=>AV.noConfusion e|_=>exact λe=>AV.noConfusion e)
theorem NH:(∀xs,a≠ .own xs)->eH a=a:=(by induction a using AV.casesOn with|own xs=>exact λn=>absurd rfl (n xs)|_=>exact λJ=>rfl)
theorem EZ{ns:List Str}{b:Addr}(q:dC ad (jC ns σ) b):dC ad σ b:=q.elim λy q=>q.elim λys q=>(EY q.1).elim λa z=>z.2.elim (λe=>⟨y,ys,e▸z.1,q.2⟩) λe=>absurd e.symm xF
theorem AY(q:aj y (jC ns σ)=some (.own ys)):aj y σ=some (.own ys):=(EY q).elim λa z=>z.2.elim (λe=>e▸z.1) λe=>absurd e.symm xF
theorem Rel.fX(R:Rel C ad σ h):Rel C ad (jC ns σ) h where
 base:=R.base
 tabs:=R.tabs
 loc:=R.loc
 aN:=R.aN
 own x xs e:=R.own x xs (AY e)
 inj x y xs ys e e':=R.inj x y xs ys (AY e) (AY e')
 sz:=R.sz
 pin:=R.pin
 var y b e:=(EY e).elim λa z=>(R.var y a z.1).elim λv r=>⟨v,r.1,by
  have up:=r.2.mono (ad':=ad) (σ':=jC ns σ) (h':=h) (λb o k s e=>⟨λq=>k (EZ q),e⟩) λxs b o J eb s e=>⟨eb,e⟩
  rcases z.2 with eb|eb
  ·rw[eb];exact up
  ·cases up with
   |val r=>rw[eb,NH λxs e=>by subst e;exact r];exact .val r|bU r=>rw[eb];exact .bU r|own r'=>
    subst eb;cases r' with
    |mk c vs n g p r'=>exact .val ⟨c,vs,n,g,⟨p▸(R.own y _ z.1).2,λq=>q.elim λw q=>q.elim λws q=>by
      have:=R.inj w y ws _ (AY q.1) z.1 (q.2.trans p)
      rw[this,e]at q;exact absurd (aO q.1) xF⟩,r'⟩⟩
theorem bN.fX(s:bN C ad (jC ns σ) h ad' σ' h'):bN C ad σ h ad' σ' h':=⟨s.sz,λb o p k=>s.kp b o p λq=>k (EZ q),s.nk,λb q=>(s.mt b q).imp EZ id⟩
theorem mE.fX{ns:List Str}{Q:Unit->aF->Prop}(q:mE C ad σ h K Q):mE C ad (jC ns σ) h K Q:=λa z i tk s=>q a z i tk s.fX
theorem abF{o:Option ab}{n:Nat}{env:Env}:xE e=true->swapsWith e (some t) n env=pure false:=(by induction e using cv with|ListComp J J J J=>exact λn=>absurd n aL|SetComp J J J J=>exact λn=>absurd n aL|DictComp J J J J J=>exact λn=>absurd n aL|_=>exact λJ=>rfl)
theorem abG(M:m.Ok H)(Y:I.Ok H)(F:a7 H C cx)(nc:xE e=true)(x:H (ED m I cx σ t e ks)):X1 C σ (.Assign [t] e p) (fJ H ks) Kr:=aW M.fail x λy ey x=>(j3 ey).elim λpy et=>et▸λad h R tk Q q=>
 wpAny_Assign_Name (Y.E F.toFits x ad h R.fX tk _ λv h₁ bq a g r x=>EW M F R.fX g r x λa z i tk J s=>q.n a z i tk s.fX) (abF (o:=none) nc)
theorem abH:∀{ts:List ab} {l:Pl},xv ts=true->ts.map cP=l.map (λp=>some p.1)->∀{y:Str} {q r:AV×aa},(y,q)∈l->(y,r)∈l->q=r:=by
 intro ts
 induction ts with
 |nil=>
  intro l _ e;cases l with|nil=>exact λm=>absurd m fc|cons q l=>cases e
 |cons t ts ih=>
  intro l n e;cases l with
  |nil=>cases e|cons p l=>
   have e1:=(ju e).1;have e2:ts.map cP=l.map (λp=>some p.1):=(ju e).2;have n:opt false (cP t) (λx=>ae (ts.any λy=>opt true (cP y) (aA x)) false (xv ts))=true:=n;rw[e1]at n;have n:ae (ts.any λy=>opt true (cP y) (aA p.1)) false (xv ts)=true:=n;cases c:ts.any λy=>opt true (cP y) (aA p.1)with
   |true=>rw[c]at n;exact(aL n).elim|false=>
    rw[c]at n;have ne:∀{q:AV×aa},(p.1,q)∉l:=λ{q} m=>by have m2:=e2▸List.mem_map.mpr ⟨_,m,rfl⟩;obtain⟨u,m3,m4⟩:=List.mem_map.mp m2;have:(ts.any λy=>opt true (cP y) (aA p.1))=true:=List.any_eq_true.mpr ⟨u,m3,by rw[m4];exact jZ _⟩;exact absurd (c.symm.trans this) aL
    intro y q r m m';rcases List.mem_cons.mp m with z|m1<;>rcases List.mem_cons.mp m' with z'|NI
    ·exact(congrArg Prod.snd z).trans (congrArg Prod.snd z').symm
    ·exact absurd NI (by rw[show y=p.1 from congrArg Prod.fst z];exact ne)
    ·exact absurd m1 (by rw[show y=p.1 from congrArg Prod.fst z'];exact ne)
    ·exact ih n e2 m1 NI
theorem NJ{l:Pl}{y:Str}{q:AV×aa}(f:∀{r:AV×aa},(y,r)∈l->q=r):(y,q)∈l->fI l y=some q:=by
 induction l with
 |nil=>exact λm=>absurd m fc|cons p l ih=>
  intro m;rcases AR p l y with⟨r,e1,e2⟩|⟨e1,e2,e3⟩|⟨e1,e2,e3⟩
  ·rw[e2,f (aY _ (sI e1))]
  ·rw[e3,f (r:=p.2) (by rw[e2];exact aK)]
  ·exact absurd (e1.symm.trans (ih (λm=>f (aY _ m)) ((List.mem_cons.mp m).resolve_left λz=>e2 (congrArg Prod.fst z)))) nofun
theorem NK{l:Pl}(f:∀{y:Str} {q r:AV×aa},(y,q)∈l->(y,r)∈l->q=r)(y:Str):fI l.reverse y=fI l y:=by
 cases e:fI l y with
 |some q=>exact NJ (λm=>f (sI e) (List.mem_reverse.mp m)) (List.mem_reverse.mpr (sI e))|none=>cases e':fI l.reverse y with
  |none=>rfl|some q=>exact ai (e.symm.trans (NJ (λm=>f (List.mem_reverse.mp (sI e')) m) (List.mem_reverse.mp (sI e'))))
theorem abI:∀{l:Pl},(∀p∈l,C.mD p.1)->C.EO l (l.map λp=>bindName C.env p.1):=by
 intro l
 induction l with|nil=>exact λJ=>rfl|cons p l ih=>exact λf=>.mk (f p aK) (λQ s=>wpAny_bindName) (ih λp m=>f p (aY _ m))
theorem abJ(k:∀t x,f t=some x->cP t=some x):∀{ts:List ab} {l:Pl},ts.map cP=l.map (λp=>some p.1)->(ts.filterMap f).length=ts.length->ts.filterMap f=l.map (·.1):=by
 intro ts
 induction ts with
 |nil=>
  intro l e _;cases l with|nil=>rfl|cons _ _=>cases e
 |cons t ts ih=>
  intro l e n;cases l with
  |nil=>cases e|cons p l=>
   cases z:f t with|none=>rw[List.filterMap_cons_none z]at n;exact absurd n (fG (jw (List.length_filterMap_le f ts)))|some x=>rw[List.filterMap_cons_some z]at n⊢;rw[ih (ju e).2 (Nat.succ.inj n),aO ((k t x z).symm.trans (ju e).1)];rfl
noncomputable def E0(e:ab):Bool:=PySem.swappedStores.match_5 (λJ=>Bool) e (λJ J=>true) λJ=>false
theorem abK:Ad e=true->E0 e=false:=(by induction e using cv with|Starred J J=>exact λn=>absurd n aL|_=>exact λJ=>rfl)
theorem abL:∀{es:List ab},noStar es=true->es.any E0=false:=by
 intro es
 induction es with|nil=>exact λJ=>rfl|cons e es ih=>intro n;obtain⟨n1,n2⟩:=Nk (b:=Ad e) n;rw[List.any_cons,ih n2,abK n1];rfl
noncomputable def E1(env:Env)(n:Nat)(t:ab):Option Str:=PySem.swappedStores.match_8 (λJ=>Option Str) t (λid pos=>if env.kindOf id==some .local&&pos.line==n then some id else none) λJ=>none
theorem abM:E1 env n t=some x->cP t=some x:=by
 induction t using cv with
 |Name id pos=>
  intro z;have z:(if(env.kindOf id==some .local&&pos.line==n)=true then some id else none)=some x:=z;by_cases c:(env.kindOf id==some .local&&pos.line==n)=true
  ·rw[if_pos c]at z;exact z
  ·rw[if_neg c]at z;exact ai z|_=>exact λz=>ai z
theorem abN{l:Pl}{kk k2:Nat}{p2:Pos}(e:ts.map cP=l.map (λp=>some p.1))(n:noStar es=true)(c:es.all MY=false)(G:Prop)(g1:swappedStores [.Tuple ts kk p] (.Tuple es k2 p2) C.env=pure none->G)(g2:swappedStores [.Tuple ts kk p] (.Tuple es k2 p2) C.env=pure (some (l.map (·.1)))->G):G:=by
 generalize en:ts.filterMap (E1 C.env ((ts.head?.map (·.pos.line)).getD 0))=names
 have eq:swappedStores [.Tuple ts kk p] (.Tuple es k2 p2) C.env=(if(!(ts.length==2||ts.length==3)||es.length !=ts.length||C.env.blockKind != .function)=true then pure none
   else if es.any E0=true then pure none
   else if(names.length !=ts.length||names.eraseDups.length !=names.length)=true then pure none
   else if es.all (foldedForSure 8)=true then pure none
   else if es.all (constantsAlone 8)=true then(unsupported (α:=Unit) "assign.tuple-of-constant-expressions:order-of-the-stores">>=λJ=>pure (some names))else pure (some names)):=by rw[<-en];rfl
 rw[abL n,show es.all (constantsAlone 8)=false from c,if_neg aL,if_neg aL]at eq;have hl:(names.length !=ts.length||names.eraseDups.length !=names.length)=true∨names.length=ts.length:=by
  cases z:names.length !=ts.length with|true=>exact .inl rfl|false=>exact .inr (bne_eq_false_iff_eq.mp z)
 rcases hl with hl|hl
 ·rw[if_pos hl,ite_self]at eq
  exact g1 eq
 ·rw[<-en,abJ (λt x=>abM) e (en▸hl)]at eq
  revert eq;generalize (!(ts.length==2||ts.length==3)||es.length !=ts.length||C.env.blockKind != .function)=c1;generalize ((l.map (·.1)).length !=ts.length||(l.map (·.1)).eraseDups.length !=(l.map (·.1)).length)=c2;generalize es.all (foldedForSure 8)=c3;cases c1<;>cases c2<;>cases c3<;>first|exact g1|exact g2
end
section
variable{ad ad':Str->Addr}
variable{α:Type}
theorem abO:swapsWith e (some (.Tuple ts kk p2)) n env=pure false:=(by induction e using cv with|_=>exact rfl)
theorem abP:swapsWith e (some (.Subscript l r p2)) n env=pure false:=(by induction e using cv with|_=>exact rfl)
theorem abQ(n:ny e=none):swappedStores [.Tuple ts kk p2] e env=pure none:=((by induction e using cv with|Tuple J J J=>exact λn=>ai n.symm|_=>exact λJ=>rfl):ny e=none->swappedStores [.Tuple ts kk p2] e env=pure none) n
theorem Puts.rev{l:Pl}(f:∀{y:Str} {q r:AV×aa},(y,q)∈l->(y,r)∈l->q=r)(P:Puts C h h' l.reverse):Puts C h h' l:=⟨P.sz,P.kp,λy=>⟨λq e=>(P.var y).got q ((NK f y).trans e),λe=>(P.var y).old ((NK f y).trans e)⟩,P.loc,P.aN⟩
theorem abR(F:a7 H C cx)(R:Rel C ad σ h₀)(g:aI h₀ h₁){l:Pl}{P:Addr->Prop}(nd:xv ts=true)(n:ts.map cP=l.map (λp=>some p.1))(T:sL C ts l)(S:Sets C ad σ h₀ av (·∈bs) l bs)(bx:aI av h₁){Q:Unit->aF->Prop}(q:∀ad' h' ak,bN C ad σ h₀ ad' (putL l σ) h'->Rel C ad' (putL l σ) h'->Q () (C.st h' ak)):wpAny (M_ C) C.A (assignInOrder ((l.map (·.1)).reverse.map λn=>bindName C.env n) (l.map (λp=>p.2.2)).reverse) Q aD (C.st h₁ tk):=by
 have b:=abI (C:=C) (l:=l.reverse) λp m=>T.hO p (List.mem_reverse.mp m);rw[<-List.map_reverse,<-List.map_reverse,oj];exact Nw F.ok l.reverse b ⟨(R.grow g).loc,(R.grow g).aN⟩ λh' ak P=>
  have z:=xB F.ok R g (W:=(·∈bs)) (λb w=>w.elim λy w=>w.elim λys w=>Sets.own l S w) (λp w=>(T.hO p w).2) (λp m=>(Sets.NB l S p m).grow bx) (λy z ys zs b=>Sets.one l S) (P.rev (abH nd n))
  q _ h' ak z.1 z.2
theorem abS(M:m.Ok H)(Y:I.Ok H)(F:a7 H C cx){kk k2:Nat}{p2 p3:Pos}(x:H (MZ m I cx σ ts ks es)):X1 C σ (.Assign [.Tuple ts kk p2] (.Tuple es k2 p3) p) (fJ H ks) Kr:=(Fl.bz M.fail x).elim λfw x=>(Fl.bz M.fail x).elim λnd x=>(Fl.bz M.fail x).elim λlt x=>(Fl.jd M.fail x).elim λnc x=>λad h R tk Q q=>by
 have ns:=(sF fw).1;rw[exec_Assign_arm];refine ar (pO ?_);rw[show swapsWithSole [.Tuple ts kk p2] (.Tuple es k2 p3) p.line C.env=pure false from rfl];refine ar (aV ?_);rw[if_neg aL];refine ar (wpAny_Tuple (NA Y es F.toFits ns x h R tk _ λvs h₁ bq as bs g r x=>?_));refine xC M F x r λl x' T S e n=>?_;have lv:vs.length=l.length:=by rw[<-e,bB]
 have gB:=aI.push h₁ (gA vs 0);have bx:=g.trans gB;have gt:(h₁.push (gA vs 0)).get? h₁.objs.size=some (gA vs 0):=cU _ rfl
 refine⟨by
  rw[lv,<-bB (f:=λp:Str×AV×aa=>some p.1),<-n,bB]
  exact az (bV lt) (show 29<=sizeLine from ⋯),abN (C:=C) (kk:=kk) (k2:=k2) (p:=p2) (p2:=p3) n ns nc _ (λeq=>?_) λeq=>?_⟩
 ·rw[eq]
  refine ar (aV ?_);show wpAny _ _ (wO (.Tuple ts kk p2) C.env (.ref h₁.objs.size)>>=λJ=>pure Flow.next) _ _ (C.st (h₁.push (gA vs 0)) bq);refine ar ?_;refine NC (h:=h₁.push (gA vs 0)) (tk:=bq) (vs:=vs) (n:=0) F (R.grow bx) gt (EV M F x (r.grow gB)) λcF jD=>?_;exact run_set M F R (bx.trans jD) x ((r.grow gB).grow jD) λad' σ' h' ak s R' k=>aV (q.n ad' σ' h' ak s R' k)
 ·rw[eq]
  refine ar (aV ?_);unfold assignStores;dsimp only;refine ar (rF ?_);rw[show(l.map (·.1)).length=vs.toArray.size by rw[bB,dF,lv]];refine ar (Ny (items:=vs.toArray) (F.hm.keep (R.grow bx).base) ⟨_,gt,rfl,0,rfl⟩ λh' z y=>?_);rw[show vs.toArray.toList=l.map (λp=>p.2.2)from e.symm];have jD:aI (h₁.push (gA vs 0)) h':=.of z λb o e=>y b o (fG (bu e)) e;refine ar ?_;exact abR (h₁:=h') (tk:=bq) (P:=λJ=>True) F R (bx.trans jD) nd n T S (gB.trans jD) λad' h' ak s R'=>aV (q.n ad' _ h' ak s R' x')
end
section
variable{ad ad':Str->Addr}{h h' h₀ h₁ av:Heap}
variable{α:Type}
theorem abT(M:m.Ok H)(Y:I.Ok H)(F:a7 H C cx)(x:H (AO m I cx σ e ks ts)):X1 C σ (.Assign [.Tuple ts kk p2] e p) (fJ H ks) Kr:=by
 cases z:ny e with|none=>unfold AO at x;rw[z]at x;exact λad h R tk Q q=>wpAny_Assign_stores (targets:=[.Tuple ts kk p2]) (fW Y F.toFits x ad h R.fX tk _ λv h₁ bq a g r x=>ND (kk:=kk) (p:=p2) M F R.fX g r x q.n.fX) (show swapsWith e (some (.Tuple ts kk p2)) p.line C.env=pure false from abO) (abQ z)|some es=>unfold AO at x;rw[z]at x;exact(tup_is z).elim λk2 z=>z.elim λp3 z=>z▸abS M Y F x
theorem Rel.hJ(R:Rel C ad σ h)(e:aj y σ=some (.own xs)):C.Var h y (.ref (ad y))/\∃vs n,h.get? (ad y)=some (cM vs n)/\ay h (C.aJ ad σ) xs vs:=(R.var y _ e).elim λv r=>by
 cases r.2 with|val r=>exact r.elim|own r'=>cases r' with|mk c vs n g p q=>exact⟨p▸r.1,vs,n,p▸g,q⟩
theorem sO(k:∀b o,hH o->h.get? b=some o->h'.get? b=some o){L:Addr}{m:Str->Option aa}(r:h.Ns L m):h'.Ns L m:=r.elim λo r=>r.elim λes r=>r.elim λep r=>⟨o,es,ep,k _ _ (congrArg ik r.2.1) r.1,r.2⟩
theorem sP(k:∀b o,hH o->h.get? b=some o->h'.get? b=some o)(r:h.IsCell c u):h'.IsCell c u:=r.elim λo r=>⟨o,k _ _ (congrArg ik r.2) r.1,r.2⟩
theorem qB(e:aj y (bR x a σ)=some b):(y=x/\b=a)∨(y≠x/\aj y σ=some b):=by
 by_cases z:y=x
 ·rw[z,z9]at e;exact .inl ⟨z,(aO e).symm⟩
 ·rw[DV z]at e;exact .inr ⟨z,e⟩
theorem NL(R:Rel C ad σ h)(e:aj y σ=some (.own xs))(hz:h.objs.size<=h'.objs.size)(hs:∀b o,b≠ad y->NF b o->h.get? b=some o->h'.get? b=some o)(ht:gL h')(hl:h'.get? (ad y)=some (cM ws n'))(r:ay h (C.aJ ad σ) ys ws):bN C ad σ h ad (bR y (.own ys) σ) h'/\Rel C ad (bR y (.own ys) σ) h':=(R.hJ e).2.elim λvs z=>z.elim λn z=>
 have mu:∀b,dC ad (bR y (.own ys) σ) b->dC ad σ b:=λb q=>q.elim λw q=>q.elim λzs q=>(qB q.1).elim (λk=>⟨y,xs,e,k.1▸q.2⟩) λk=>⟨w,zs,k.2,q.2⟩
 have kn:∀b o,¬dC ad σ b->NF b o->h.get? b=some o->h'.get? b=some o:=λb o k=>hs b o λq=>k ⟨y,xs,e,q.symm⟩;have nk:∀b o,hH o->h.get? b=some o->h'.get? b=some o:=λb o k g=>hs b o (λq=>aL (show ik (cM vs n).data=true from aO ((q▸g).symm.trans z.1)▸k)) (k.nf b) g;have up:∀b o,C.aJ ad σ b->cJ o->h.get? b=some o->C.aJ ad (bR y (.own ys) σ) b/\h'.get? b=some o:=λb o k s g=>⟨⟨k.1,λq=>k.2 (mu b q)⟩,kn b o k.2 (NF.bX s) g⟩
 ⟨⟨hz,λb o p k=>kn b o k p.1,λb o n J=>nk b o n,λb q=>.inl (mu b q)⟩,
  λb o n g=>hs b o (λq=>(R.own y xs e).1 o (q▸g) (q▸n)) n (R.base b o n g),ht,
  λx a ea=>(qB ea).elim (λk=>by
   rw[k.1,k.2]
   exact⟨_,(R.hJ e).1.imp (λJ=>sO nk) λJ J J=>sP nk,.own ⟨_,ws,n',hl,rfl,r.mono up _⟩⟩) λk=>(R.var x a k.2).elim λv r=>⟨v,r.1.imp (λJ=>sO nk) λJ J J=>sP nk,r.2.mono (λb o m s g=>⟨λq=>m (mu b q),kn b o m (NF.bX s) g⟩) λzs b o ez eb s g=>⟨eb,hs b o (λq=>k.1 (R.inj x y zs xs (ez▸k.2) e (eb.symm.trans q))) (NF.bX s) g⟩⟩,
  R.loc.elim λm r=>⟨m,sO nk r⟩,λx c l=>(R.aN x c l).elim λv r=>⟨v,sP nk r⟩,
  λx zs ez=>(qB ez).elim (λk=>k.1▸R.own y xs e) λk=>R.own x zs k.2,
  λx w zs us e1 e2 q=>(qB e1).elim (λk=>(qB e2).elim (λk'=>k.1.trans k'.1.symm) λk'=>k.1▸R.inj y w xs us e k'.2 (k.1▸q)) λk=>(qB e2).elim (λk'=>k'.1▸R.inj x y zs xs k.2 e (k'.1▸q)) λk'=>R.inj x w zs us k.2 k'.2 q,
  az R.sz hz,λx v e=>(R.pin x v e).imp (λJ=>sO nk) λJ J J=>sP nk⟩
theorem NM(R:Rel C ad σ h)(e:aj y σ=some (.own xs))(hs:lX (ad y) h h')(hl:h'.get? (ad y)=some (cM ws n'))(r:ay h (C.aJ ad σ) ys ws):bN C ad σ h ad (bR y (.own ys) σ) h'/\Rel C ad (bR y (.own ys) σ) h':=(R.hJ e).2.elim λvs z=>z.elim λn z=>
 have fk:∀b o us,o.data=.fields us->h.get? b=some o->h'.get? b=some o:=λb o us d g=>(hs.2 b λq=>by have q:=aO ((q▸g:h.get? (ad y)=some o).symm.trans z.1);rw[q]at d;exact iJ d).trans g
 NL R e (i7 hs.1.symm) (λb o k J g=>(hs.2 b k).trans g) ⟨R.tabs.one.bZ fk,R.tabs.two.bZ fk⟩ hl r
end
noncomputable def Mu.id(q:Mu):String:=q.casesOn "list.append" "list.insert" "list.reverse"
theorem Mu.of(e:EF name=some q):Slot "list" name q.id/\typeOf (.builtin q.id)=pure (.type "method_descriptor"):=by
 unfold EF at e;cases c1:aA name "append" with
 |true=>rw[c1]at e;cases e;rw[(cN _ _).mp c1];exact⟨PySem.slot_list_append,F.type_list_append⟩|false=>cases c2:aA name "insert" with
  |true=>rw[c1,c2]at e;cases e;rw[(cN _ _).mp c2];exact⟨F.slot_list_insert,F.type_list_insert⟩|false=>cases c3:aA name "reverse" with
   |true=>rw[c1,c2,c3]at e;cases e;rw[(cN _ _).mp c3];exact⟨F.slot_list_reverse,F.type_list_reverse⟩|false=>rw[c1,c2,c3]at e;exact ai e
section
variable{C:Fc}{ad ad':Str->Addr}{σ σ':Sg}{h h' h₀ h₁ av:Heap}{K K':Sg->Prop}{Kr:AV->Prop}{v w:aa}{a b:AV}{xs ys:List AV}
variable{α:Type}{m:Md α}{H:α->Prop}{ks:Sg->α}{kr k:AV->α}{as:List AV}{vs:List aa}{bs:List Addr}{cx:Cx α}{I:It α}{e l r t i:ab}{es ts:List ab}{p:Pos}{x y:Str}{tk:Nat}{s:Stmt}{ss:List Stmt}
theorem Rel.nm(F:a7 H C cx)(R:Rel C ad σ h)(e:aj y σ=some (.own xs))(q:Q (.ref (ad y)) (C.st h tk)):wpAny (M_ C) C.A (eval (.Name y np) C.env) Q aD (C.st h tk):=
 have w:=(R.hJ e).1;have o:=F.var w;ub (oG F.ok w (cY.c o) q) (cY.d o)
theorem NN(M:m.Ok H){kk:List AV->Nat->α}{P:Prop}(x:H (EB m I cx y σ i kk))(q:∀xs,aj y σ=some (.own xs)->H (vE I cx σ i (bY m aR (EA m kk xs)))->P):P:=aW M.fail x λa ea x=>fh M x λxs ex x=>q xs (Ee ex▸ea) x
theorem NO(M:m.Ok H){kk:List AV->Nat->α}(r:C.V ad σ h a v)(x:H (bY m aR (EA m kk xs) a)){P:Prop}(q:∀j t,v=.int j t->0<=j/\j<xs.length/\xs.length<=100000->H (kk xs j.toNat)->P):P:=fh M x λj ej x=>by obtain⟨t⟩:=dK ej r;exact(M.gd x).elim λz x=>q j t rfl z x
theorem NP(M:m.Ok H)(O:C.Ok)(R:Rel C ad σ h)(ey:aj y σ=some (.own xs))(r:C.V ad σ h a v){j:Int}{t:Tok}(z:0<=j/\j<xs.length/\xs.length<=100000)(x:H (EC m y σ ks a xs j.toNat)){Q:Unit->aF->Prop}(q:mE C ad σ h (fJ H ks) Q):wpAny (M_ C) C.A (setItem (.ref (ad y)) (.int j t) v) Q aD (C.st h tk):=
 (Fl.bz M.fail x).elim λf x=>(R.hJ ey).2.elim λvs u=>u.elim λn u=>by
  have lv:=u.2.length;have jl:j.toNat<vs.length:=by rw[lv];exact(Int.toNat_lt z.1).mpr z.2.1
  refine ki_setAt (items:=vs.toArray) (n:=n) u.1 z.1 (IK z.2.1 (C7 (Int.ofNat_le.mpr z.2.2) ⋯)) (by rw[dF,lv];exact z.2.1) ?_;have hu:=IsL.update (u0 u.1) (λxs=>xs.setIfInBounds j.toNat v);rw[List.setIfInBounds_toArray]at hu;exact have d:=NM R ey (ud ..) hu (ay.set (sK f r) j.toNat u.2);q ad _ _ tk d.1 d.2 x
theorem abU(M:m.Ok H)(Y:I.Ok H)(F:a7 H C cx){o:ab}{p2:Pos}(x:H (M5 m I cx σ e ks (o,i))):X1 C σ (.Assign [.Subscript o i p2] e p) (fJ H ks) Kr:=(Fl.jd M.fail x).elim λns x=>aW M.fail x λy ey x=>(j3 (e:=o) ey).elim λnp eo=>eo▸λad h R tk Q q=>
 wpAny_Assign_Subscript (fW Y F.toFits x ad h R tk _ λv h₁ bq a g r x=>NN M x λxs ey x=>Rel.nm F (R.grow g) ey (fW Y F.toFits x ad h₁ (R.grow g) bq _ λw av bI b bx rU x=>NO M rU x λj t ew z x=>
  ew▸NP M F.ok ((R.grow g).grow bx) ey (r.keep bx) z x (q.n.after (g.trans bx).jE))) abP
theorem NQ(M:m.Ok H)(ra:∀i,aR a=some i->uK i v)(rs:∀i,dU a=some i->uL i v)(rb:C.V ad σ h b w)(x:H (EE m op a b k)):Out C ad σ h (Hk H k) (inplaceOp op v w):=dD x
 (λx=>lG M x λs t ea eb x=>by
  cases rs s ea;cases j1 eb rb;cases op with|Add=>exact let⟨z,x⟩:=M.gd x; .Aw x λtk Q q=>PyProof.Rows.iadd_str q z|_=>exact absurd x M.fail)
 λi ea x=>fh M x λj eb x=>by
  cases ra i ea;cases dK eb rb;cases op with|Add=>exact .int M x λJ J q=>PySem.P.iadd_int q|Sub=>exact .int M x λJ J q=>PySem.P.isub_int q|LShift=>exact let⟨g,e⟩:=M.gd x; .int M e λJ J q=>PyProof.Rows.ilshift_int g.1 g.2 q|RShift=>exact let⟨g,e⟩:=M.gd x; .int M e λJ J q=>PyProof.Rows.irshift_int g q|_=>exact absurd x M.fail
theorem NR(r:Res C ad σ h h' a v)(f:fz a=true):VR h' (C.aJ ad σ) a False v:=by
 cases r with|val r=>exact sK f r|new _ _ _=>exact absurd f aL
theorem abV(M:m.Ok H)(Y:I.Ok H)(F:a7 H C cx)(x:H (M6 m I cx σ op e ks y)):X1 C σ (.AugAssign (.Name y np) op e p) (fJ H ks) Kr:=aW M.fail x λa ea x=>λad h R tk Q q=>(R.var y a ea).elim λv w=>
 wpAny_AugAssign_Name (oG F.ok w.1 (cY.c (F.var w.1)) (fW Y F.toFits x ad h R tk _ λu h₁ bq b g r x=>by
  have rv:=(w.2.mono (ad':=ad) (σ':=σ) (h':=h₁) (λb o k s e=>⟨k,g.bX s e⟩) λJ b o J k s e=>⟨k,g.bX s e⟩)
  refine NQ M (λi ei=>by rw[mv ei]at rv;cases rv with|val r=>exact r) (λi ei=>by rw[uZ ei]at rv;cases rv with|val r=>exact r) r x bq _ λc av bI d bx rc x=>?_
  exact(Fl.bz M.fail x).elim λso x=>(Fl.bz M.fail x).elim λf x=>xD F R (g.trans bx) (F.hO _ so) (AX f (NR rc f)) λad' h' ak J s R'=>q.n ad' _ h' ak s R' x))
theorem abW:qr i=false->augStore i ov iv new=(do holding [new,ov,iv] (setItem ov iv new);release [new,ov,iv] [];pure .next):=(by induction i using cv with|Slice J J J J=>exact λn=>absurd n.symm aL|_=>exact λJ=>rfl)
theorem abX(M:m.Ok H)(R:Rel C ad σ h)(ey:aj y σ=some (.own xs)){j:Int}{t:Tok}(z:0<=j/\j<xs.length/\xs.length<=100000){kk:AV->α}(x:H (m.op xs[j.toNat]? kk)){Q:aa->aF->Prop}(q:∀u a,VR h (C.aJ ad σ) a False u->H (kk a)->Q u (C.st h tk)):wpAny (M_ C) C.A (getItem (.ref (ad y)) (.int j t)) Q aD (C.st h tk):=
 (R.hJ ey).2.elim λvs w=>w.elim λn w=>(M.op x).elim λc x=>(w.2.get x.1).elim λu e=>
  wpAny_getItem_list (x:=u) ⟨_,w.1,rfl,n,rfl⟩ z.1 (IK z.2.1 (C7 (Int.ofNat_le.mpr z.2.2) ⋯)) (tQ▸e.1) (q u c e.2 x.2)
theorem abY(M:m.Ok H)(Y:I.Ok H)(F:a7 H C cx){op:cE}{o:ab}{p2:Pos}(x:H (M7 m I cx σ op e ks (o,i))):X1 C σ (.AugAssign (.Subscript o i p2) op e p) (fJ H ks) Kr:=(Fl.jd M.fail x).elim λns x=>aW M.fail x λy ey x=>(j3 (e:=o) ey).elim λnp eo=>eo▸λad h R tk Q q=>NN M x λxs ey x=>
 wpAny_AugAssign_SubscriptAny (Rel.nm F R ey (fW Y F.toFits x ad h R tk _ λw h₁ bq b g r x=>NO M r x λj t ew z x=>ew▸abX M (R.grow g) ey z x λu c ru x=>fW Y F.toFits x ad h₁ (R.grow g) bq _ λv av bI a bx rU x=>
  have ru:=ru.keep bx
  NQ M (λi ei=>dK ei (ru.mono (λJ J k J e=>⟨k,e⟩) _ gY)) (λi ei=>j1 ei (ru.mono (λJ J k J e=>⟨k,e⟩) _ gY)) rU x bI _ λd cF kL f jD rd x=>
  NP M F.ok (((R.grow g).grow bx).grow jD) ey ((NR rd (Fl.bz M.fail x).1).mono (λJ J k J e=>⟨k,e⟩) _ gY) z x (q.n.after ((g.trans bx).trans jD).jE))) (λJ J J=>abW ns)
def abZ(C:Fc)(h:Heap)(l:Addr)(q:Mu)(R:List aa->Prop)(us:List aa):Prop:=∀tk (Q:aa->aF->Prop),(∀h' ws n,lX l h h'->h'.get? l=some (cM ws n)->R ws->Q .none (C.st h' tk))->wpAny (M_ C) C.A (kA (.builtin q.id) (.ref l::us)) Q aD (C.st h tk)
theorem NS(r:ay h (C.aJ ad σ) [a] vs):∃v,vs=[v]/\VR h (C.aJ ad σ) a False v:=by
 cases r with|mk p q=>cases q;exact⟨_,rfl,p⟩
theorem ab0(r:ay h (C.aJ ad σ) [a,b] vs):∃v w,vs=[v,w]/\VR h (C.aJ ad σ) a False v/\VR h (C.aJ ad σ) b False w:=by
 cases r with|mk p q=>exact(NS q).elim λw z=>⟨_,w,by rw[z.1],p,z.2⟩
theorem xG(M:m.Ok H){g:AV->AV->α}{P:Prop}(e:H (two m as g))(q:∀a b,as=[a,b]->H (g a b)->P):P:=by
 cases as with|nil=>exact absurd e M.fail|cons a as=>exact qp M e λb ea e=>q a b (by rw[ea]) e
theorem ab1{ws:List aa}{u:aa}{j:Int}(h0:0<=j):(have k:=if j<0 then(j+((ws.toArray.size:Nat):Int)).toNat else min j.toNat ws.toArray.size;(ws.toArray.extract 0 k).push u++ws.toArray.extract k)=(ws.take j.toNat++u::ws.drop j.toNat).toArray:=by
 dsimp only;rw[if_neg (Int.not_lt.mpr h0)];apply Array.ext';simp only[dF,List.extract_toArray,Ta,List.append_toArray];by_cases hi:j.toNat<=ws.length
 ·rw[CN hi];simp[List.extract];exact CX (by rw[wP];exact aQ _)
 ·have hi:=Nat.le_of_not_le hi
  rw[Nat.min_eq_right hi];simp[List.extract,CX hi,ug hi]
theorem ab2(M:m.Ok H){l:Addr}{ws:List aa}{n:Nat}(gl:h.get? l=some (cM ws n))(nC:ay h (C.aJ ad σ) xs ws)(z:xs.length<=10000000){q:Mu}{kk:List AV->α}(r:ay h (C.aJ ad σ) as vs)(x:H (M8 m q xs as kk)):abZ C h l q (λus=>∃ys,ay h (C.aJ ad σ) ys us/\H (kk ys)) vs:=by
 have hz:ws.toArray.size<=sizeLine:=by rw[dF,nC.length];exact az z (show 10000000<=sizeLine from ⋯)
 intro tk Q k;cases q with
 |app=>refine qp M x λa ea x=>?_;subst ea;obtain⟨v,ev,rv⟩:=NS r;subst ev;have hu:=IsL.update (u0 gl) (λxs=>xs.push v);rw[Ta]at hu;exact y4 PySem.slot_list_append ⟨_,gl,rfl⟩ PySem.entry_list_append (PySem.args_list_append _ _) (PySem.list_append l ws.toArray n v hz) ⟨gl,k _ _ _ (ud ..) hu ⟨_,nC.snoc rv,x⟩⟩
 |ins=>refine xG M x λb a ea x=>aW M.fail x λj ej x1=>?_;subst ea;obtain⟨u,v,ev,ru,rv⟩:=ab0 r;subst ev;rw[mv ej]at ru;obtain⟨t⟩:=ru;obtain⟨zj,x⟩:=M.gd x1;have hu:=IsL.update (u0 gl) (λxs=>have k:=if j<0 then(j+((xs.size:Nat):Int)).toNat else min j.toNat xs.size;(xs.extract 0 k).push v++xs.extract k);dsimp only at hu;rw[show _=_ from ab1 (ws:=ws) (u:=v) zj.1]at hu;exact y4 F.slot_list_insert ⟨_,gl,rfl⟩ F.entry_list_insert (F.args_list_insert_3 _ _ _) (AutoListH.list_insert_list_int_val_1 l ws.toArray n j t v (by simp[alI];exact(dy 0xe1f7e8000000000000000109e06e04e8000000000000000109e1f7e8000000000000000109e06e009 17674076758288) zj) hz) ⟨gl,k _ _ _ (ud ..) hu ⟨_,ay.append (as':=a::xs.drop j.toNat) ⟨rv,nC.drop _⟩ (nC.take _),x⟩⟩
 |rev=>refine Ay M x λea x=>?_;subst ea;cases r;have hu:=IsL.update (u0 gl) (λxs=>xs.reverse);rw[List.reverse_toArray]at hu;exact y4 F.slot_list_reverse ⟨_,gl,rfl⟩ F.entry_list_reverse (F.args_list_reverse_1 _) (AutoListH.list_reverse_list_0 l ws.toArray n hz) ⟨gl,k _ _ _ (ud ..) hu ⟨_,nC.rev,x⟩⟩
theorem ab3(M:m.Ok H)(Y:I.Ok H)(F:a7 H C cx)(x:H (opt m.fail (cP f) (M9 m I cx σ es ks))):X1 C σ (.Expr (.Call f es [] p2) p) (fJ H ks) Kr:=aW M.fail x λy ey x=>(Fl.bz M.fail x).elim λfw x=>aW M.fail x λg eg x ad h R tk Q qq=>by obtain⟨np,en⟩:=j3 ey;obtain⟨fa,ef,o⟩:=F.sN y g eg;obtain⟨ob,fd,z⟩:=o.ob;have n:=(sF fw).1;have ok:=F.ok.pin y _ ef;rw[en];refine wpAny_Expr_any (C8 (ub (oG F.ok (R.pin y _ ef) (cY.c ok) (S8 (o:=ob) (fd:=fd) (mB (fT n).1 (mA Y F.toFits es n x ad h R tk _ λvs h' ak as g r x=>?_)))) (cY.d ok))) (by unfold interactive;rw[F.ok.kind];rfl) rfl;obtain⟨f,x⟩:=Fl.bz M.fail x;have R':=R.grow g;exact⟨⟨R'.base _ _ (λvs e=>by rw[z.2]at e;cases e) z.1,z.2⟩,wpAny_call (codeAny_mono (o.run ad σ h' as vs ks ak _ R' (Vl.qx f r) x λσ' cX mw s R'' x=>qq.n ad σ' cX mw (g.jE.trans s) R'' x) λres s' w=>w.elim λv w=>w.1▸w.2)⟩
theorem ab5(M:m.Ok H)(Y:I.Ok H)(F:a7 H C cx)(x:H (EG m I cx σ e ks)):X1 C σ (.Expr e p) (fJ H ks) Kr:=by
 revert x
 exact(@cv (λe=>H (EG m I cx σ e ks)->X1 C σ (.Expr e p) (fJ H ks) Kr) e (λJ J J=>λx=>absurd x M.fail) (λJ J J=>λx=>absurd x M.fail) (λJ J J J=>λx=>absurd x M.fail) (λJ J J=>λx=>absurd x M.fail) (λJ J J J=>λx=>absurd x M.fail) (λJ J J J=>λx=>absurd x M.fail) (λJ J J=>λx=>absurd x M.fail) (λJ J J=>λx=>absurd x M.fail) (λJ J J J=>λx=>absurd x M.fail) (λJ J J J=>λx=>absurd x M.fail) (λJ J J J J=>λx=>absurd x M.fail) (λJ J J J=>λx=>absurd x M.fail) (λJ J=>λx=>absurd x M.fail) (λJ J=>λx=>absurd x M.fail) (λJ J=>λx=>absurd x M.fail) (λJ J J J=>λx=>absurd x M.fail) (λf as kws p2=>(λx=>by
  cases kws with
  |cons _ _=>exact absurd x M.fail|nil=>
   refine dD x (λx=>ab3 M Y F x) λq eq x=>(Fl.bz M.fail x).elim λfw x=>aW M.fail x λy ey x=>aW M.fail x λu eu x=>aW M.fail x λc ec x=>fh M x λxs ex z1=>λad h R tk Q qq=>?_;obtain⟨ap,ef,hl,hc⟩:=Np eq;obtain⟨np,eo⟩:=j3 ey;rw[eo]at ef hc;subst ef;have ey:=Ee ex▸ec;have mo:=Mu.of eu;obtain⟨n,hf⟩:=sF fw;refine wpAny_Expr_any (wpAny_Call_method (T:="list") (EK hc) (by rw[(fT (C:=C) (p:=p2) n).2];show(true&&true&&decide (as.length+0+0<30))=true;simp;exact jw hf) (beq_iff_eq.mpr (fD hl)) PySem.F.plainAttrs_list mo.1 mo.2 (Rel.nm F R ey ?_)) (by unfold interactive;rw[F.ok.kind];rfl) rfl;obtain⟨ws,k,gl,rs⟩:=(R.hJ ey).2;refine⟨⟨_,gl,rfl⟩,λb q=>by injection q with q;exact q▸⟨_,gl,rfl⟩,C2 (fT n).1 (mB (fT n).1 (mA Y F.toFits as n z1 ad h R tk _ λus h₁ bq bs g r x=>?_))⟩;refine(Fl.bz M.fail x).elim λf x=>(M.gd x).elim λz x=>((R.grow g).hJ ey).2.elim λws w=>w.elim λk w=>ab2 M w.1 w.2 z (Vl.qx f r) x bq _ λh' us' k' sb gl' ru=>ru.elim λys ru=>?_;have d:=NM (R.grow g) ey sb gl' ru.1
   exact qq.n ad _ h' bq (g.jE.trans d.1) d.2 ru.2)) (λJ J J J=>λx=>absurd x M.fail) (λJ J=>λx=>absurd x M.fail) (λJ J J=>λx=>absurd x M.fail) (λJ J J=>λx=>absurd x M.fail) (λJ J J=>λx=>absurd x M.fail) (λJ J=>λx=>absurd x M.fail) (λJ J=>λx=>absurd x M.fail) (λJ J=>λx=>absurd x M.fail) (λJ J J=>λx=>absurd x M.fail) (λJ J J J=>λx=>absurd x M.fail))
end
structure Wr(o:Obj):Prop where
 cls:o.cls≠ .none
 nm:ik o.data=false
 code:∀vs,o.data=.fields vs->∀q t,vs[1]?≠some (.str q t)
section
variable{ad ad':Str->Addr}{W:Addr->Prop}
theorem gz.at_(T:gz h p q)(g:h.get? p=some o):o.cls=.none:=T.elim λo' z=>z.elim λvs z=>aO (z.1.symm.trans g)▸z.2.2.1.2.1
theorem gL.ext(T:gL h){b:Addr}{o:Obj}(g:h.get? b=some o)(c:o.cls≠ .none):eG b=false:=by unfold eG;rw[show(b==47)=false from beq_eq_false_iff_ne.mpr λq=>c ((q▸T.one).at_ g),show(b==54)=false from beq_eq_false_iff_ne.mpr λq=>c ((q▸T.two).at_ g)];rfl
theorem Wr.mC(T:gL h){b:Addr}{o:Obj}(g:h.get? b=some o)(w:Wr o):qy b o:=⟨λJ J=>T.ext g w.cls,w.nm⟩
structure gN(C:Fc)(b:Addr)(o:Obj):Prop extends Wr o where
 lst:o.cls≠ .type "list"
 bX:C.ok b->¬cJ o
structure AZ(C:Fc)(W:Addr->Prop)(ad:Str->Addr)(σ:Sg)(h h':Heap):Prop where
 rel:Rel C ad σ h'
 sz:h.objs.size<=h'.objs.size
 kp:∀b o,¬W b->h.get? b=some o->h'.get? b=some o
theorem gz.turn(hk:∀b o,¬W b->h.get? b=some o->h'.get? b=some o)(hw:∀b,W b->∃o,h.get? b=some o/\Wr o)(T:gz h p q):gz h' p q:=T.elim λo z=>z.elim λvs z=>
 ⟨o,vs,hk p o (λw=>(hw p w).elim λo' w=>w.2.cls (T.at_ w.1)) z.1,z.2.1,z.2.2.1,λpos c e=>⟨(z.2.2.2 pos c e).1.elim λa r=>r.elim λo r=>r.elim λws r=>r.elim λt r=>⟨a,o,ws,t,r.1,hk a o (λw=>(hw a w).elim λo' w=>by
  have e1:=aO (w.1.symm.trans r.2.1);subst e1
  exact w.2.code _ r.2.2.1 _ _ r.2.2.2) r.2.1,r.2.2⟩,(z.2.2.2 pos c e).2⟩⟩
theorem Rel.turn(O:C.Ok)(R:Rel C ad σ h)(hz:h.objs.size<=h'.objs.size)(hw:∀b,W b->C.lo<=b/\¬dC ad σ b/\∃o,h.get? b=some o/\gN C b o)(hk:∀b o,¬W b->h.get? b=some o->h'.get? b=some o):AZ C W ad σ h h'/\∀b o,C.aJ ad σ b->cJ o->h.get? b=some o->h'.get? b=some o:=
 have E2:∀b,W b->∃o,h.get? b=some o/\Wr o:=λb w=>(hw b w).2.2.imp λo w=>⟨w.1,w.2.toWr⟩
 have nk:∀b o,hH o->h.get? b=some o->h'.get? b=some o:=λb o n e=>hk b o (λw=>(E2 b w).elim λo' w=>aL (w.2.nm.symm.trans (aO (e.symm.trans w.1)▸n))) e;have sk:∀b o,C.aJ ad σ b->cJ o->h.get? b=some o->h'.get? b=some o:=λb o k s e=>hk b o (λw=>(hw b w).2.2.elim λo' w=>w.2.bX k.1 (aO (e.symm.trans w.1)▸s)) e;have up:∀b o,C.aJ ad σ b->cJ o->h.get? b=some o->C.aJ ad σ b/\h'.get? b=some o:=λb o k s e=>⟨k,sk b o k s e⟩
 ⟨⟨⟨λb o n e=>hk b o (λw=>absurd (fy (bu e) (az O.size (hw b w).1)) (rE _)) (R.base b o n e),⟨R.tabs.one.turn hk E2,R.tabs.two.turn hk E2⟩,
  λx a e=>(R.var x a e).elim λv r=>⟨v,r.1.imp (λJ=>sO nk) λJ J J=>sP nk,by
   cases r.2 with|val r=>exact .val (r.mono up _ gY)|own r=>exact .own (r.imp (λb vs n p g=>⟨p,hk b _ (λw=>(hw b w).2.1 ⟨x,_,e,p.symm⟩) g⟩) λJ=>ay.mono up _)|bU r=>exact .bU (r.imp (λb vs n p g=>⟨p,hk b _ (λw=>(hw b w).2.2.elim λo' w=>w.2.lst (aO (w.1.symm.trans g)▸rfl)) g⟩) λJ=>ay.mono up _)⟩,
  R.loc.elim λm r=>⟨m,sO nk r⟩,λx c l=>(R.aN x c l).elim λv r=>⟨v,sP nk r⟩,R.own,R.inj,az R.sz hz,λx v e=>(R.pin x v e).imp (λJ=>sO nk) λJ J J=>sP nk⟩,hz,hk⟩,sk⟩
structure Wk(C:Fc)(tg:ab)(I:Addr)(fp wr:List Addr)(n:Nat)(P:Addr->Nat->aa->Heap->Prop)(St:Nat->Heap->Prop):Prop where
 A1:∀i h,St i h->∀b∈wr,∃o,h.get? b=some o/\gN C b o
 frame:∀i h h',St i h->(∀b∈fp,∀o,h.get? b=some o->h'.get? b=some o)->St i h'
 item:∀i h tk (Q:Option aa->aF->Prop),i<n->St i h->(∀v h₁ bq,(∀Q':Unit->aF->Prop,(∀av,P h.objs.size i v av->St (i+1) av->(∀b o,b∉wr->h.get? b=some o->av.get? b=some o)->Q' () (C.st av bq))->wpAny (M_ C) C.A (letOwnedTupleGo tg (.ref I) v) Q' aD (C.st h₁ bq))->Q (some v) (C.st h₁ bq))->wpAny (M_ C) C.A (pyNext (.ref I)) Q aD (C.st h tk)
 done:∀h tk (Q:Option aa->aF->Prop),St n h->cB C.A h->(∀h' ak,(∀b o,b∉wr->h.get? b=some o->h'.get? b=some o)->Q none (C.st h' ak))->wpAny (M_ C) C.A (pyNext (.ref I)) Q aD (C.st h tk)
 self:∀i h tk (Q:aa->aF->Prop),St i h->Q (.ref I) (C.st h tk)->wpAny (M_ C) C.A (pyIter (.ref I)) Q aD (C.st h tk)
theorem Wk.of{I:Addr}{fp wr:List Addr}{n:Nat}{P:Nat->aa->Prop}{St:Nat->Heap->Prop}(K:Walks C.prog C.w C.A I fp wr n P St)(hi:∀i h,St i h->∀b∈wr,∃o,h.get? b=some o/\gN C b o)(hg:∀i v h tk (Q:Unit->aF->Prop),St i h->Q () (C.st h tk)->wpAny (M_ C) C.A (letOwnedTupleGo tg (.ref I) v) Q aD (C.st h tk)):Wk C tg I fp wr n (λJ i v J=>P i v) St:=
 ⟨hi,K.frame,λi h tk Q l st q=>K.item i _ _ _ l st λv h' ak p kM k=>q v h' ak λQ' q'=>hg (i+1) v h' ak Q' kM (q' h' p kM k),λh tk Q st J q=>K.done _ _ _ st q,λi h tk Q st q=>K.self i _ _ _ st q⟩
structure qC(C:Fc)(Z:Addr)(ad:Str->Addr)(σ:Sg)(h:Heap)(ad':Str->Addr)(σ':Sg)(h':Heap):Prop where
 sz:h.objs.size<=h'.objs.size
 kp:∀b o,qy b o->¬dC ad σ b->b<Z∨C.ok b->h.get? b=some o->h'.get? b=some o
 mt:∀b,dC ad' σ' b->dC ad σ b∨h.objs.size<=b
theorem bN.E3(s:bN C ad σ h ad' σ' h'):qC C Z ad σ h ad' σ' h':=⟨s.sz,λb o p k J=>s.kp b o p k,s.mt⟩
theorem qC.qz{Z:Addr}(s:qC C Z ad σ h ad' σ' h'){b:Addr}{o:Obj}(k:¬dC ad σ b)(e:h.get? b=some o):¬dC ad' σ' b:=λq=>(s.mt b q).elim k λz=>absurd (bu e) (Nat.not_lt.mpr z)
theorem qC.qx(s:qC C Z ad σ h ad' σ' h')(r:ay h (C.aJ ad σ) as vs):ay h' (C.aJ ad' σ') as vs:=r.mono (λb o k p e=>⟨⟨k.1,s.qz k.2 e⟩,s.kp b o p.mC k.2 (.inr k.1) e⟩) as
def ab7(C:Fc)(tg:ab)(Z:Addr)(W:Addr->Prop)(it:aa)(x:AV)(ih:(Str->Addr)->Sg->Heap->Prop)(ad:Str->Addr)(σ:Sg)(h:Heap):Prop:=∀ad' σ' h' tk (Q:Option aa->aF->Prop),qC C Z ad σ h ad' σ' h'->Rel C ad' σ' h'->(∀v h₁ bq,(∀Q':Unit->aF->Prop,(∀av,AZ C W ad' σ' h' av->VR av (C.aJ ad' σ') x False v->ih ad' σ' av->Q' () (C.st av bq))->wpAny (M_ C) C.A (letOwnedTupleGo tg it v) Q' aD (C.st h₁ bq))->Q (some v) (C.st h₁ bq))->wpAny (M_ C) C.A (pyNext it) Q aD (C.st h' tk)
def ab8(C:Fc)(Z:Addr)(W:Addr->Prop)(it:aa)(ad:Str->Addr)(σ:Sg)(h:Heap):Prop:=∀ad' σ' h' tk (Q:Option aa->aF->Prop),qC C Z ad σ h ad' σ' h'->Rel C ad' σ' h'->(∀av bI,AZ C W ad' σ' h' av->Q none (C.st av bI))->wpAny (M_ C) C.A (pyNext it) Q aD (C.st h' tk)
def vf(C:Fc)(tg:ab)(Z:Addr)(W:Addr->Prop)(it:aa)(xs:List AV):(Str->Addr)->Sg->Heap->Prop:=@d6 AV (λJ=>(Str->Addr)->Sg->Heap->Prop) (ab8 C Z W it) (λx J ih=>ab7 C tg Z W it x ih) xs
def vg(P:Addr->Nat->aa->Heap->Prop)(ys:List AV)(us:List aa)(xs:List AV):Prop:=∀(ok:Addr->Prop) h j v x z,xs[j]?=some x->P z j v h->(∀b,z<=b->ok b)->ay h ok ys us->VR h ok x False v
theorem vf.of{I Z:Addr}{fp wr:List Addr}{n:Nat}{P:Addr->Nat->aa->Heap->Prop}{St:Nat->Heap->Prop}{zs:List AV}(O:C.Ok)(hm:cB C.A C.base)(K:Wk C tg I fp wr n P St)(hw:∀b∈wr,C.lo<=b/\b∈fp)(hz:∀b∈fp,b<Z)(hP:vg P ys us zs):∀(xs:List AV) i {ad:Str->Addr} {σ:Sg} {h:Heap},xs=zs.drop i->i+xs.length=n->St i h->(∀b∈fp,∃o,h.get? b=some o/\Wr o/\¬dC ad σ b)->ay h (C.aJ ad σ) ys us->Rel C ad σ h->vf C tg Z (·∈wr) (.ref I) xs ad σ h:=by
 intro xs
 induction xs with
 |nil=>intro i ad σ h ex en st hf rv R ad' σ' h' tk Q s R' q;have kM:St n h':=en▸K.frame i h h' st λb m o e=>(hf b m).elim λo' w=>s.kp b o (aO (w.1.symm.trans e)▸w.2.1.mC R.tabs w.1) w.2.2 (.inl (hz b m)) e;exact jY (K.done h' tk _ kM (hm.keep R'.base) λav bI k z=>q av bI (R'.turn O z (λb m=>⟨(hw b m).1,(hf b (hw b m).2).elim λo w=>s.qz w.2.2 w.1,K.A1 n h' kM b m⟩) k).1)|cons x xs ih=>
  intro i ad σ h ex en st hf rv R ad' σ' h' tk Q s R' q;have kf:∀b∈fp,∀o,h.get? b=some o->h'.get? b=some o:=λb m o e=>(hf b m).elim λo' w=>s.kp b o (aO (w.1.symm.trans e)▸w.2.1.mC R.tabs w.1) w.2.2 (.inl (hz b m)) e;have kM:=K.frame i h h' st kf;have hx:zs[i]?=some x:=by rw[<-IQ i,<-List.getElem?_drop,<-ex];rfl
  refine jY (K.item i h' tk _ (by rw[<-en];exact Nat.lt_add_of_pos_right (CY _)) kM λv h₁ bq go z1=>q v h₁ bq λQ' q'=>jY (go _ λav hp NT k z2=>?_));have T:=R'.turn O (az z1 z2) (λb m=>⟨(hw b m).1,(hf b (hw b m).2).elim λo w=>s.qz w.2.2 w.1,K.A1 i h' kM b m⟩) k;have NU:=(s.qx rv).mono (λb o m p e=>⟨m,T.2 b o m p e⟩) _;refine q' av T.1 (hP _ av i v x _ hx hp (λb z=>R'.fresh O z) NU) (ih (i+1) (by rw[<-I5,<-ex];rfl) (by rw[<-en,bP,nV,iG 1]) NT (λb m=>?_) NU T.1.rel);by_cases w:b∈wr
  ·exact(K.A1 (i+1) av NT b w).elim λo z=>⟨o,z.1,z.2.toWr,(hf b m).elim λo w=>s.qz w.2.2 w.1⟩
  ·exact(hf b m).elim λo z=>⟨o,k b o w (kf b m o z.1),z.2.1,s.qz z.2.2 z.1⟩
end
section
variable{ad ad':Str->Addr}{h h' h₀ h₁ av:Heap}
def iQ(C:Fc)(ad:Str->Addr)(σ:Sg)(h:Heap)(tg:ab)(bw:Bool)(av:Heap)(it:aa)(xs:List AV):Prop:=∃(B:Addr) (W:Addr->Prop),h.objs.size<=B/\(∀b,W b->B<=b/\b<av.objs.size)/\∀env ok nw nx pin oX oY cF,(C.re env ok nw nx pin).Ok->oB av cF->(∀b,C.aJ ad σ b->b<B->b<av.objs.size->(C.re env ok nw nx pin).aJ oX oY b)->(∀b,b<av.objs.size->(B<=b∨C.aJ ad σ b∨bw=true)->¬dC oX oY b)->(bw=true->∀b,W b->¬ok b)->Rel (C.re env ok nw nx pin) oX oY cF->
 vf (C.re env ok nw nx pin) tg av.objs.size W it xs oX oY cF/\∀tk (Q:aa->aF->Prop),Q it (C.st cF tk)->wpAny (M_ C) C.A (pyIter it) Q aD (C.st cF tk)
theorem iQ.of{I:Addr}{fp wr:List Addr}{n:Nat}{P:Addr->Nat->aa->Heap->Prop}{St:Nat->Heap->Prop}(hm:cB C.A C.base)(lo:C.lo<=h₁.objs.size)(z:h.objs.size<=h₁.objs.size)(k:oB h₁ av)(hw:∀b∈wr,(h₁.objs.size<=b/\b<av.objs.size)/\b∈fp)(hf:∀b∈fp,(∃o,av.get? b=some o/\Wr o)/\(h₁.objs.size<=b∨C.aJ ad σ b∨bw=true))(st:St 0 av)(hn:xs.length=n)(rv:ay h₁ (C.aJ ad σ) ys us) (K:∀env ok nw nx pin,(bw=true->∀b∈wr,¬ok b)->Wk (C.re env ok nw nx pin) tg I fp wr n P St) (hP:vg P ys us xs):iQ C ad σ h tg bw av (.ref I) xs:=
 ⟨h₁.objs.size,(·∈wr),z,λb m=>(hw b m).1,λenv ok nw nx pin oX oY cF O k3 ob mu zp R=>
  have K:=K env ok nw nx pin zp;have kM:=K.frame 0 av cF st λb J o=>k3 b o
  ⟨vf.of O hm K (λb m=>⟨az lo (hw b m).1.1,(hw b m).2⟩) (λb m=>(hf b m).1.elim λo w=>bu w.1) hP xs 0 rfl (by rw[iY,hn]) kM (λb m=>(hf b m).1.elim λo w=>⟨o,k3 b o w.1,w.2,mu b (bu w.1) (hf b m).2⟩) (rv.mono (λb o m J e=>⟨ob b m (bu e) (bu (k b o e)),k3 b o (k b o e)⟩) _) R,λtk Q q=>K.self 0 cF tk Q kM q⟩⟩
theorem Wr.seq(s:cJ o):Wr o:=by cases s<;>exact⟨nofun,rfl,nofun⟩
theorem Wr.bZ{o:Obj}{n:String}{vs:Array aa}(c:o.cls=.type n)(d:o.data=.fields vs)(k:∀q t,vs[1]?≠some (.str q t)):Wr o:=⟨λe=>iK (c.symm.trans e),congrArg ik d,λus e=>Data.fields.inj (d.symm.trans e)▸k⟩
theorem cJ.bZ{o:Obj}{vs:Array aa}(s:cJ o)(d:o.data=.fields vs):False:=by cases s<;>exact iJ d
theorem gN.bZ{o:Obj}{b:Addr}{n:String}{vs:Array aa}(c:o.cls=.type n)(d:o.data=.fields vs)(k:∀q t,vs[1]?≠some (.str q t))(nl:n≠"list"):gN C b o:=⟨.bZ c d k,λe=>nl (by injection c.symm.trans e),λJ s=>s.bZ d⟩
theorem gN.two{I:Addr}{n:String}{x:aa}{i:Int}{t:Tok}(g:∃o,h.get? I=some o/\o.cls=.type n/\o.data=.fields #[x,.int i t])(nl:n≠"list"):∀b∈[I],∃o,h.get? b=some o/\gN C b o:=λb m=>g.elim λo g=>⟨o,List.mem_singleton.mp m▸g.1,.bZ g.2.1 g.2.2 (λJ J e=>iK (aO e)) nl⟩
theorem ab9:vg (λJ i v J=>vs.toArray[i]?=some v) xs vs xs:=λok h j v x z hx hp J rv=>(rv.get hx).elim λu r=>by have hp:vs.toArray[j]?=some v:=hp;rw[tQ,r.1]at hp;exact aO hp▸r.2
theorem xH(o:Obj)(f:o.isFreed=false)(wo:Wr o):∀b∈[h₁.objs.size],(h₁.objs.size<=b/\b<(h₁.push o).objs.size)/\(h₁.push o).get? b=some o:=λb m=>by rw[List.mem_singleton.mp m,gq];exact⟨⟨aQ _,pN _⟩,cU _ f⟩
theorem NV{I l:Addr}{n:Nat}{oi ol:Obj}{St:Nat->Heap->Prop}(hm:cB C.A C.base)(lo:C.lo<=h₁.objs.size)(z:h.objs.size<=h₁.objs.size)(gl:h₁.get? l=some ol)(so:cJ ol)(oZ:C.aJ ad σ l∨bw=true)(rv:ay h₁ (C.aJ ad σ) xs vs)(fi:oi.isFreed=false)(wi:Wr oi)(st:St 0 (h₁.push oi))(K:∀env ok nw nx pin,Wk (C.re env ok nw nx pin) tg h₁.objs.size [h₁.objs.size,l] [h₁.objs.size] vs.toArray.size (λJ i v J=>vs.toArray[i]?=some v) St):iQ C ad σ h tg bw (h₁.push oi) (.ref h₁.objs.size) xs:=
 .of hm lo z (λb o=>b7 _) (λb m=>⟨(xH oi fi wi b m).1,List.mem_singleton.mp m▸aK⟩) (λb m=>(List.mem_cons.mp m).elim (λe=>⟨⟨oi,e▸cU _ fi,wi⟩,.inl (e▸aQ _)⟩) λm=>List.mem_singleton.mp m▸⟨⟨ol,b7 _ gl,.seq so⟩,.inr oZ⟩) st (by rw[dF,rv.length]) rv (λenv ok nw nx pin J=>K env ok nw nx pin) ab9
theorem src_list{l:Addr}{n:Nat}(hh:C.A.handled=none)(hm:cB C.A C.base)(lo:C.lo<=h₁.objs.size)(z:h.objs.size<=h₁.objs.size)(gl:h₁.get? l=some (cM vs n))(oZ:C.aJ ad σ l∨bw=true)(rv:ay h₁ (C.aJ ad σ) xs vs):iQ C ad σ h tg bw (h₁.push {cls:=.type "list_iterator",data:=.fields #[.ref l,.int 0 0]}) (.ref h₁.objs.size) xs:=
 NV (n:=n) (I:=l) hm lo z gl (.lst vs n) oZ rv rfl (.bZ rfl rfl λJ J e=>iK (aO e)) ⟨⟨_,cU _ rfl,rfl,rfl⟩,Heap.IsList.at (fH gl) λo e=>b7 _ e⟩ λenv ok nw nx pin=>.of (Walks.list hh _ l (fG (bu gl)) vs.toArray) (λi h st=>gN.two st.1 ⋯) λi v h tk Q st q=>letGo_listiter st.1 q
theorem aca{l:Addr}{n:Nat}(hh:C.A.handled=none)(hm:cB C.A C.base)(lo:C.lo<=h₁.objs.size)(z:h.objs.size<=h₁.objs.size)(gl:h₁.get? l=some (gA vs n))(oZ:C.aJ ad σ l∨bw=true)(rv:ay h₁ (C.aJ ad σ) xs vs):iQ C ad σ h tg bw (h₁.push {cls:=.type "tuple_iterator",data:=.fields #[.ref l,.int 0 0]}) (.ref h₁.objs.size) xs:=
 NV (n:=n) (I:=l) hm lo z gl (.tup vs n) oZ rv rfl (.bZ rfl rfl λJ J e=>iK (aO e)) ⟨⟨_,cU _ rfl,rfl,rfl⟩,Heap.IsTuple.at (nB gl) λo e=>b7 _ e⟩ λenv ok nw nx pin=>.of (Walks.tuple hh _ l (fG (bu gl)) vs.toArray) (λi h st=>gN.two st.1 ⋯) λi v h tk Q st q=>letGo_tupleiter st.1 q
theorem A2(g:h.get? I=some o)(c:o.cls=.type n)(nn:["enumerate","zip","dict_itemiterator","dict_reverseitemiterator","odict_iterator","itertools.zip_longest","itertools.pairwise"].contains n=false)(q:Q () (C.st h tk)):wpAny (M_ C) C.A (letOwnedTupleGo tg (.ref I) v) Q aD (C.st h tk):=by
 have key:wpAny (M_ C) C.A (do
   let (.ref r,.ref a):=(fx I,v)|return
   let o <-load r
   match o.cls,o.data with
   |.type n,.fields vs=>
    if ["enumerate","zip","dict_itemiterator","dict_reverseitemiterator","odict_iterator","itertools.zip_longest","itertools.pairwise"].contains n&&vs[0]?==some (rawInt a)then
     rule "for.unpacks-the-owned-tuple"
     updateField r 0 .none|_,_=>pure ()) Q aD (C.st h tk):=by
  cases v with
  |ref a=>
   refine ar (wpAny_load g ?_);rw[c];cases o.data with|fields vs=>dsimp only;rw[nn,Bool.false_and,if_neg aL];exact aV q|_=>exact aV q
  |_=>exact aV q
 unfold letOwnedTupleGo;cases tg<;>first|exact aV q|exact key
end
section
variable{C:Fc}{ad ad':Str->Addr}{h h' h₀ h₁ av:Heap}
theorem E4{oi:Obj}{n:Nat}{P:Nat->aa->Prop}{St:Nat->Heap->Prop}(hm:cB C.A C.base)(lo:C.lo<=h₁.objs.size)(z:h.objs.size<=h₁.objs.size)(fi:oi.isFreed=false)(wi:Wr oi)(st:St 0 (h₁.push oi))(hn:xs.length=n)(K:∀env ok nw nx pin,Wk (C.re env ok nw nx pin) tg h₁.objs.size [h₁.objs.size] [h₁.objs.size] n (λJ i v J=>P i v) St)(hP:∀j v x,xs[j]?=some x->P j v->∀h ok,VR h ok x False v):iQ C ad σ h tg bw (h₁.push oi) (.ref h₁.objs.size) xs:=
 .of (ys:=[]) (us:=[]) hm lo z (λb o=>b7 _) (λb m=>⟨(xH oi fi wi b m).1,m⟩) (λb m=>⟨⟨oi,(xH oi fi wi b m).2,wi⟩,.inl (xH oi fi wi b m).1.1⟩) st hn rfl (λenv ok nw nx pin J=>K env ok nw nx pin) λok h j v x z hx hp J J=>hP j v x hx hp h ok
theorem sign_is:∀j v x,(s.cps.toList.map qw)[j]?=some x->SignAt s j v->∀h ok,VR h ok x False v:=λj v x e ⟨c,u,hc,ev⟩ h ok=>by rw[C9,show s.cps.toList[j]?=some c by simpa using hc]at e;cases e;exact ev▸⟨u⟩
theorem acb{s:Str}{t:Tok}(hh:C.A.handled=none)(hm:cB C.A C.base)(lo:C.lo<=h₁.objs.size)(z:h.objs.size<=h₁.objs.size){Q:aa->aF->Prop}(q:∀av,aI h₁ av->iQ C ad σ h tg bw av (.ref h₁.objs.size) (s.cps.toList.map qw)->Q (.ref h₁.objs.size) (C.st av tk)):wpAny (M_ C) C.A (pyIter (.str s t)) Q aD (C.st h₁ tk):=by
 have hn:(s.cps.toList.map qw).length=s.cps.size:=by rw[bB,lW]
 cases hx:s.cps.all (·<128)with|true=>exact wpAny_pyIter_ascii hx (q _ (.push _ _) (E4 hm lo z rfl (.bZ rfl rfl λJ J e=>iK (aO e)) ⟨_,cU _ rfl,rfl,rfl⟩ hn (λenv ok nw nx pin=>.of (Walks.strAscii hh _ s t) (λi h st=>gN.two st ⋯) λi v h tk Q st q=>let⟨o,g,c,_⟩:=st;A2 (tg:=tg) g c ⋯ q) sign_is))|false=>exact wpAny_pyIter_wide hx (q _ (.push _ _) (E4 hm lo z rfl (.bZ rfl rfl λJ J e=>iK (aO e)) ⟨_,cU _ rfl,rfl,rfl⟩ hn (λenv ok nw nx pin=>.of (Walks.strWide hh _ s t) (λi h st=>gN.two st ⋯) λi v h tk Q st q=>let⟨o,g,c,_⟩:=st;A2 (tg:=tg) g c ⋯ q) sign_is))
theorem src_range{r:Addr}{a c b:Int}{t u v:Tok}{n:Nat}(hh:C.A.handled=none)(hm:cB C.A C.base)(lo:C.lo<=h₁.objs.size)(z:h.objs.size<=h₁.objs.size)(hr:IsRange h₁ r a b c t u v)(hs:wL a b c=true)(hz:iH a b c=n){Q:aa->aF->Prop}(q:∀av it,aI h₁ av->iQ C ad σ h tg bw av it (dJ a n c)->Q it (C.st av tk)):wpAny (M_ C) C.A (pyIter (.ref r)) Q aD (C.st h₁ tk):=by
 refine wpAny_pyIter_range hr hs ?_;rw[hz];refine q _ _ (.push _ _) (E4 hm lo z rfl (.bZ rfl rfl λJ J e=>iK (aO e)) ?_ (by unfold dJ;rw[bB,gH]) (λenv ok nw nx pin=>.of (Walks.range hh _ a c n) (λi h st b m=>⟨_,List.mem_singleton.mp m▸st,.bZ rfl rfl (λJ J e=>iK (aO e)) ⋯⟩) λi v h tk Q st q=>A2 (tg:=tg) st rfl ⋯ q) λj v x e p h ok=>?_)
 ·show IsRangeIter _ _ (a+((0:Nat):Int)*c) ((n:Int)-((0:Nat):Int)) c
  rw[Int.ofNat_zero,Int.zero_mul,wz,Int.sub_zero];exact cU _ rfl
 ·obtain⟨t,ev⟩:=p
  have hi:j<n:=by have:=(List.getElem?_eq_some_iff.mp e).1;unfold dJ at this;rwa[bB,gH]at this
  unfold dJ at e;rw[C9,Tb hi]at e;cases e;rw[ev,ie];exact⟨t⟩
variable{α:Type}{m:Md α}{H:α->Prop}{kl:List AV->α}{cx:Cx α}
def Sr(C:Fc)(ad:Str->Addr)(σ:Sg)(h:Heap)(tg:ab)(bw:Bool)(K:List AV->Prop)(tk:Nat)(Q:aa->aF->Prop)(h₁:Heap)(t:Sem aa):Prop:=(∀it av bI xs,aI h₁ av->iQ C ad σ h tg bw av it xs->K xs->Q it (C.st av bI))->wpAny (M_ C) C.A t (λx s₁=>wpAny (M_ C) C.A (pyIter x) Q aD s₁) aD (C.st h₁ tk)
theorem acd(M:m.Ok H)(hh:C.A.handled=none)(hm:cB C.A C.base)(lo:C.lo<=h₁.objs.size)(z:h.objs.size<=h₁.objs.size){a b c:Int}{t u v:Tok}{Q:aa->aF->Prop}(x:H (u5 m kl a b c))(q:∀it av bI xs,aI h₁ av->iQ C ad σ h tg bw av it xs->H (kl xs)->Q it (C.st av bI)):wpAny (M_ C) C.A (pyIter (.ref h₁.objs.size)) Q aD (C.st (h₁.push {cls:=.type "range",data:=.fields #[.int a t,.int b u,.int c v]}) tk):=(M.gd x).elim λg x=>
 src_range hh hm (by rw[gq];exact C4 lo) (by rw[gq];exact C4 z) (IsRange.new ..) g.1 (rz g.2.1).symm λav it g s=>q it av _ _ ((aI.push _ _).trans g) s x
theorem NW(M:m.Ok H)(r:C.Vl ad σ h₁ as vs)(x:H (AJ m as kl))(q:∀a b c t u v ak,H (u5 m kl a b c)->Q (.ref h₁.objs.size) (C.st (h₁.push {cls:=.type "range",data:=.fields #[.int a t,.int b u,.int c v]}) ak)):wpAny (M_ C) C.A (kA (.type "range") vs) Q aD (C.st h₁ tk):=by
 cases as with
 |nil=>exact absurd x M.fail|cons a as=>cases as with
  |nil=>refine fh M x λi ei x=>?_;obtain⟨p,rfl⟩:=r;obtain⟨t⟩:=dK ei p;exact call_range_1 (q _ _ _ _ _ _ _ x)
  |cons b as=>cases as with
   |nil=>refine lG M x λi j ei ej x=>?_;obtain⟨p,p2,rfl⟩:=r;obtain⟨t⟩:=dK ei p;obtain⟨u⟩:=dK ej p2;exact call_range_2 (q _ _ _ _ _ _ _ x)
   |cons d as=>refine Ay M x λen x=>aW M.fail x λi ei x=>lG M x λj k ej ek x1=>?_;subst en;obtain⟨p,p2,p3,rfl⟩:=r;obtain⟨t⟩:=dK ei p;obtain⟨u⟩:=dK ej p2;obtain⟨w⟩:=dK ek p3;have g:=(M.gd x1).1;exact call_range_3 g.2.2.1 (q _ _ _ _ _ _ _ x1) (.inl g.2.2.2)
theorem ace(M:m.Ok H)(hh:C.A.handled=none)(hm:cB C.A C.base)(lo:C.lo<=h₁.objs.size)(z:h.objs.size<=h₁.objs.size)(r:C.Vl ad σ h₁ as vs)(x:H (AJ m as kl)):Sr C ad σ h tg bw (λxs=>H (kl xs)) tk Q h₁ (kA (.type "range") vs):=λq=>NW M r x λa b c t u v ak x=>acd M hh hm lo z x q
end
section
theorem acf(hh:cB A s.heap)(hit:s.heap.IsRevIter it l (-1)) (hQ:∀h',(∀b o,s.heap.get? b=some o->h'.get? b=some o)->Q none {s with heap:=h'}):wpAny (model prog w) A (pyNext (.ref it)) Q E s:=by obtain⟨o,ho,hc,hd⟩:=id hit;unfold pyNext;refine ar (wpAny_attempt (y6 (name:=fU "__next__") hit.typeIs PySem.F.slot_lri_next (y7 PySem.F.slot_lri_next hit.typeIs PySem.F.entry_lri_next ?_ (PySem.F.args_lri_next_1 _))));show wpAny _ _ (field (.ref it) 1>>=_) _ _ s;refine ar (iI ho hd (x:=.int (-1) 0) rfl ?_);show wpAny _ _ (if(-1:Int)<0 then _ else _) _ _ s;rw[if_pos ⋯];refine ar (rF ?_);refine ar (AU (A:=A.in1) hh λh' e o z k g c=>?_);refine ar (wpAny_isInstance (T:="StopIteration") (b:=true) ⟨o,g,c⟩ isSubtype_stop ?_);exact aV (hQ _ k)
end
section
variable{ad ad':Str->Addr}{vs us:List aa}
noncomputable def lJ(n i:Nat):Int:=(n:Int)-1-i
theorem acg(h:i<n):lJ n i=((n-1-i:Nat):Int)/\n-1-i<n:=by unfold lJ;exact(a9 0xe1fc028e5e23e5e13e195e0c012f1fd093b1901fd08193b0192f1fd092b131fd3812b31 0x10001000011b1120001001011b11100010171110001001001b1110010000101b11100101018111011000181110010001811100001171110001001011b11100001171110010017114) h aq aq
theorem ach:lJ n i-1=lJ n (i+1):=by unfold lJ;exact ao 0xe8e3e5e81913e195e03e193e5e13e195e0 4581298450
theorem aci:lJ n n=-1:=by unfold lJ;exact ax 0xe8e4e193e5e03e195e0 4581298449
theorem Wk.rev(ne:l≠I):Wk C tg I [I,l] [I] vs.length (λJ i v J=>vs.reverse[i]?=some v) (λi h=>h.IsRevIter I l (lJ vs.length i)/\h.IsList l vs.toArray):=
 ⟨λi h st=>gN.two st.1 ⋯,λi h h' st k=>⟨st.1.at λo=>k I aK o,st.2.at λo=>k l (aY _ aK) o⟩,
  λi h tk Q hi st q=>by
  have e:=acg hi;have NX:=st.1;rw[e.1]at NX;have hx:vs.toArray[vs.length-1-i]?=some (vs[vs.length-1-i]'e.2):=by rw[tQ];exact rG e.2
  refine wpAny_pyNext_rev_item NX st.2 hx λh' hit hs=>?_;rw[<-e.1,ach]at hit;refine q _ h' tk λQ' q'=>?_;obtain⟨o,g,c,_⟩:=id hit;exact A2 (tg:=tg) g c ⋯ (q' h' (by rw[List.getElem?_reverse hi];exact rG e.2) ⟨hit,st.2.extBut hs.extBut ne⟩ λb o m g=>hs.extBut b o (λz=>m (z▸aK)) g),
  λh tk Q st hh q=>acf hh (aci▸st.1) λh' k=>q h' tk λb o J=>k b o,λi h tk Q st q=>wpAny_pyIter_revIter st.1 q⟩
theorem acj:vg (λJ i v J=>vs.reverse[i]?=some v) xs vs xs.reverse:=λok h j v x z hx hp J rv=>(rv.rev.get hx).elim λu r=>aO (hp.symm.trans r.1)▸r.2
theorem ack(hm:cB C.A C.base)(lo:C.lo<=h₁.objs.size)(z:h.objs.size<=h₁.objs.size)(gl:h₁.get? l=some (cM vs n))(oZ:C.aJ ad σ l∨bw=true)(rv:ay h₁ (C.aJ ad σ) xs vs):iQ C ad σ h tg bw (h₁.push (revObj l (lJ vs.length 0))) (.ref h₁.objs.size) xs.reverse:=
 .of (I:=h₁.objs.size) (fp:=[h₁.objs.size,l]) (wr:=[h₁.objs.size]) hm lo z (λb o=>b7 _) (λb m=>⟨(xH (revObj l (lJ vs.length 0)) rfl (.bZ rfl rfl λJ J e=>iK (aO e)) b m).1,List.mem_singleton.mp m▸aK⟩)
  (λb m=>(List.mem_cons.mp m).elim (λe=>⟨⟨_,e▸cU _ rfl,.bZ rfl rfl λJ J e=>iK (aO e)⟩,.inl (e▸aQ _)⟩) λm=>by rw[List.mem_singleton.mp m];exact⟨⟨_,b7 _ gl,.seq (.lst vs n)⟩,.inr oZ⟩)
  ⟨⟨_,cU _ rfl,rfl,rfl⟩,Heap.IsList.at (fH gl) λo e=>b7 _ e⟩ (by rw[Tc,rv.length]) rv (λenv ok nw nx pin J=>.rev (fG (bu gl))) acj
def NY(vs:List aa)(z:Addr)(i:Nat)(v:aa)(h:Heap):Prop:=∃T t x,v=.ref T/\z<=T/\vs[i]?=some x/\h.get? T=some (gA [.int i t,x] 0)
theorem acm{e it l:Addr}{i:Nat}(st:(∃old,IsEnum h e it i old)/\h.IsListIter it l i):∀b∈[e,it],∃o,h.get? b=some o/\gN C b o:=λb m=>(List.mem_cons.mp m).elim (λq=>st.1.elim λold g=>⟨_,q▸g,.bZ rfl rfl (λJ J e=>iK (aO e)) ⋯⟩) (gN.two st.2 ⋯ b)
theorem Wk.enum(hh:C.A.handled=none)(NZ:e≠it)(hle:l≠e)(hli:l≠it):Wk C (.Tuple ts kk p) e [e,it,l] [e,it] vs.length (NY vs) (λi h=>((∃old,IsEnum h e it i old)/\h.IsListIter it l i)/\h.IsList l vs.toArray):=
 ⟨λi h st=>acm st.1,λi h h' st k=>⟨⟨st.1.1.imp λold=>k e aK _,st.1.2.at λo=>k it (aY _ aK) o⟩,st.2.at λo=>k l (aY _ (aY _ aK)) o⟩,
  λi h tk Q hi st q=>st.1.1.elim λold he=>wpAny_pyNext_enum_item he st.1.2 st.2 (x:=vs[i]) (by rw[tQ];exact rG hi) NZ λh' ho hit hT hz hk=>q _ h' _ λQ' q'=>
  wpAny_letOwnedTupleGo_enum ho λav ve kN=>q' av ⟨_,tk,_,rfl,aQ _,rG hi,kN.extBut _ _ (pM (bu he)) hT⟩
   ⟨⟨⟨_,by simpa using ve⟩,hit.extBut kN.extBut NZ.symm⟩,(st.2.at λo x=>hk l o hle hli x).extBut kN.extBut hle⟩ λb o m g=>kN.extBut b o (λz=>m (z▸aK)) (hk b o (λz=>m (z▸aK)) (λz=>m (z▸aY _ aK)) g),
  λh tk Q st J q=>st.1.1.elim λold he=>wpAny_pyNext_enum_end hh he st.1.2 st.2 (by rw[tQ];exact List.getElem?_eq_none (aQ _)) λh' k=>q h' tk λb o m g=>k b o (λz=>m (z▸aY _ aK)) g,λi h tk Q st q=>st.1.1.elim λold he=>wpAny_pyIter_enum he q⟩
theorem aco:∀(xs:List AV) (a:Int) (j:Nat) {x:AV},(m9 u6 (dJ a xs.length 1) xs)[j]?=some x->∃y,xs[j]?=some y/\x=.tup [.int (a+j),y]:=λxs a j x e=>by
 rw[List.getElem?_zipWith]at e;cases e1:xs[j]? with|none=>rw[e1]at e;cases z:(dJ a xs.length 1)[j]?<;>(rw[z]at e;cases e)|some y=>have hj:=(List.getElem?_eq_some_iff.mp e1).1;unfold dJ at e;rw[e1,C9,Tb hj]at e;cases e;exact⟨y,rfl,by show AV.tup [.int (a+1*j),y]=_;rw[lU]⟩
theorem acp:vg (NY vs) xs vs (m9 u6 (dJ 0 xs.length 1) xs):=λok h j v x z hx hp hk rv=>(aco xs 0 j hx).elim λy e=>(rv.get e.1).elim λu r=>hp.elim λT g=>g.elim λt g=>g.elim λx' g=>by rw[e.2,g.1];have ex:=aO (r.1.symm.trans g.2.2.1);exact⟨T,_,0,g.2.2.2,hk T g.2.1,⟨by rw[CJ];exact⟨t⟩,ex▸r.2,rfl⟩⟩
theorem acq(hh:C.A.handled=none)(hm:cB C.A C.base)(lo:C.lo<=h₁.objs.size)(z:h.objs.size<=h₁.objs.size)(gl:h₁.get? l=some (cM vs n))(oZ:C.aJ ad σ l∨bw=true)(rv:ay h₁ (C.aJ ad σ) xs vs)(q:∀av it,aI h₁ av->iQ C ad σ h (.Tuple ts kk p) bw av it (m9 u6 (dJ 0 xs.length 1) xs)->Q it (C.st av tk)):wpAny (M_ C) C.A (kA (.type "enumerate") [.ref l]) (λx s₁=>wpAny (M_ C) C.A (pyIter x) Q aD s₁) aD (C.st h₁ tk):=
 call_enumerate_list (fH gl) λh' hE hI hz hk=>wpAny_pyIter_enum hE (q h' _ (.of (by rw[hz];exact lY _ _) hk) (by
  have hl:=bu gl;have up:h₁.objs.size<h'.objs.size/\h₁.objs.size+1<h'.objs.size:=by rw[hz];exact⟨Nat.lt_add_of_pos_right ⋯,pN _⟩
  refine .of (fp:=[h₁.objs.size+1,h₁.objs.size,l]) (wr:=[h₁.objs.size+1,h₁.objs.size]) hm lo z hk (λb m=>?_) (λb m=>?_) ⟨⟨⟨_,hE⟩,hI⟩,Heap.IsList.at (fH gl) λo=>hk l o⟩ (by unfold dJ;rw[Td,bB,gH,Nat.min_self,rv.length]) rv (λenv ok nw nx pin J=>.enum hh (Nat.succ_ne_self _) (fG (rD hl)) (fG hl)) acp
  ·rcases List.mem_cons.mp m with e|m
   ·rw[e];exact⟨⟨jt _,up.2⟩,aK⟩
   ·rw[List.mem_singleton.mp m];exact⟨⟨aQ _,up.1⟩,aY _ aK⟩
  ·rcases List.mem_cons.mp m with e|m
   ·exact⟨⟨_,e▸hE,.bZ rfl rfl λJ J e=>iK (aO e)⟩,.inl (e▸jt _)⟩
   ·rcases List.mem_cons.mp m with e|m
    ·exact⟨hI.elim λo g=>⟨o,e▸g.1,.bZ g.2.1 g.2.2 λJ J e=>iK (aO e)⟩,.inl (e▸aQ _)⟩
    ·rw[List.mem_singleton.mp m];exact⟨⟨_,hk _ _ gl,.seq (.lst vs n)⟩,.inr oZ⟩))
end
theorem acr{α:Type}(M:Model)(Γ:Ctx)(t:Sem α):∀(p:Pos) (s:aF),Sem.wp M Γ t (λJ J J=>False) (λJ J J=>False) p s->False:=by
 induction t with
 |pure a=>intro p s h;exact h|raise e=>intro p s h;exact h|unsupported _=>intro p s h;exact h|finish _=>intro p s h;exact h|rule _ k ih=>intro p s h;exact ih () p s h|«at» p' k ih=>intro p s h;exact ih () p' s h|load a _ k ih=>intro p s h;obtain⟨o,ho,h⟩:=h;exact ih o p s h
 |update a _ f k ih=>intro p s h;exact ih () p _ h.2|loadIfAlive a k ih=>intro p s h;exact ih _ p s h|point _ k ih=>intro p s h;exact ih () p s h|register _ _=>intro p s h;exact h|alloc o k ih=>intro p s h;exact ih _ p _ h|fresh k ih=>intro p s h;exact ih _ p _ h|ask k ih=>intro p s h;exact ih _ p s h|choose src m k ih=>intro p s h;exact ih _ p _ h.2|os q _ k ih=>intro p s h;exact ih _ p _ h|call c hd _ _ k ih=>intro p s h;obtain⟨r,s',hr,h⟩:=h;exact ih r p s' h
 |handled own k ih=>intro p s h;exact ih _ p s h|genState g k ih=>intro p s h;obtain⟨st,hs,h⟩:=h;exact ih _ p s h
 |newGen c k ih=>intro p s h;exact ih _ p _ h|resume g r _ k ih=>intro p s h;obtain⟨res,s',hw,h⟩:=h;exact ih res p s' h
 |yield _ _ _ _=>intro p s h;exact h|stack k ih=>intro p s h;exact ih _ p s h|fork _ _=>intro p s h;exact h|thread k ih=>intro p s h;exact ih _ p s h|await _ _ _ _ _=>intro p s h;exact h
section
variable{prog:bF}{w:bj}{A:m7}{E:aa->aF->Prop}{s:aF}
theorem E8(h:wpAny (model prog w) A (pyNext it) (λr s'=>∃v,r=some v/\Q v s') (λJ J=>False) s):wpAny (model prog w) A (uh it) Q E s:=by
 intro Γ p DP;have h:=h Γ p DP;unfold pyNext at h;rw[Sem.wp_bind',Sem.wp_attempt]at h;unfold uh;rw[Sem.wp_bind'];refine Sem.wp_mono _ _ _ (λr p' s' h'=>?_) (λe p' s' h'=>?_) _ _ h
 ·cases r with|none=>exact h'.elim|some v=>obtain⟨v',ev,hq⟩:=h';cases ev;exact hq
 ·exfalso
  have h':Sem.wp _ _ (isInstance e (.type "StopIteration")>>=λb=>if b=true then pure none else throw e) _ _ p' s':=h';rw[Sem.wp_bind']at h';refine acr _ _ _ _ _ (Sem.wp_mono _ _ _ (λb p2 s2 h2=>?_) (λJ J J x=>x) _ _ h');cases b with
  |true=>obtain⟨v,ev,_⟩:=h2;cases ev
  |false=>exact h2
theorem acs(mF:ty="str_ascii_iterator"∨ty="str_iterator")(hh:A.handled=none)(hit:s.heap.IsStrIter it ty x t i)(hx:x.cps[i]?=none) (hE:∀h' e,C5 it s.heap h'->(∃o,h'.get? e=some o/\o.cls=.type "StopIteration")->E (.ref e) {s with heap:=h'}):wpAny (model prog w) A (uh (.ref it)) Q E s:=by
 obtain⟨o,ho,hc,hd⟩:=id hit;unfold uh;rcases mF with rfl|rfl
 ·refine ar (y6 (name:=fU "__next__") hit.typeIs F.slot_str_ascii_iterator_next (y7 F.slot_str_ascii_iterator_next hit.typeIs F.entry_str_ascii_iterator_next ?_ (F.args_str_ascii_iterator_next_1 _)))
  show wpAny _ _ (field (.ref it) 0>>=_) _ _ s;refine ar (iI ho hd (x:=.str x t) rfl ?_);show wpAny _ _ (field (.ref it) 1>>=_) _ _ s;refine ar (iI ho hd (x:=.int i 0) rfl ?_);simp only[cw,hx];refine ar (rF (ar (C6 ho hd (by simp) (ar (wpAny_letGo ?_)))));exact AU (A:=A.in1) (.inl hh) λh' e o z k g c=>hE h' e (λd p ne q=>k _ _ ((ud ..).extBut _ _ ne q)) ⟨o,g,c⟩
 ·refine ar (y6 (name:=fU "__next__") hit.typeIs F.slot_str_iterator_next (y7 F.slot_str_iterator_next hit.typeIs F.entry_str_iterator_next ?_ (F.args_str_iterator_next_1 _)))
  show wpAny _ _ (field (.ref it) 0>>=_) _ _ s;refine ar (iI ho hd (x:=.str x t) rfl ?_);show wpAny _ _ (field (.ref it) 1>>=_) _ _ s;refine ar (iI ho hd (x:=.int i 0) rfl ?_);simp only[cw,hx];refine ar (rF (ar (C6 ho hd (by simp) (ar (wpAny_letGo ?_)))));exact AU (A:=A.in1) (.inl hh) λh' e o z k g c=>hE h' e (λd p ne q=>k _ _ ((ud ..).extBut _ _ ne q)) ⟨o,g,c⟩
structure A3(z TI TO i1 i2:Addr)(fp:List Addr):Prop where
 TIz:TI≠z
 TOz:TO≠z
 i1z:i1≠z
 i2z:i2≠z
 TITO:TI≠TO
 TIi1:TI≠i1
 TIi2:TI≠i2
 TOi1:TO≠i1
 TOi2:TO≠i2
 i12:i1≠i2
 fz:z∉fp
 E9:TO∉fp
 N0:i1∉fp
def vh(ty:String):Prop:=ty="str_ascii_iterator"∨ty="str_iterator"
theorem acu(mF:vh ty)(hit:s.heap.IsStrIter it ty x t i)(hx:x.cps[i]?=some c) (hQ:∀h',h'.IsStrIter it ty x t (i+1)->lX it s.heap h'->Q (.str ⟨#[c]⟩ s.toks) {s with heap:=h',toks:=s.toks+1}):wpAny (model prog w) A (uh (.ref it)) Q E s:=by
 rcases mF with rfl|rfl
 ·exact E8 (wpAny_pyNext_ascii_item hit hx λh' a b=>⟨_,rfl,hQ h' a b⟩)
 ·exact E8 (wpAny_pyNext_wide_item hit hx λh' a b=>⟨_,rfl,hQ h' a b⟩)
theorem acv{z TI TO i1 i2:Addr}{fp:List Addr}{k n c:Nat}{x:Str}{t:Tok}{ty:String}{a b:aa}{P2:Nat->aa->Prop}{xI:Nat->Heap->Prop}{Q:aa->aF->Prop}(D:A3 z TI TO i1 i2 fp)(mF:vh ty)(hh:A.handled=none) (W:Walks prog w A i2 fp [i2] n P2 xI) (hk:k<n) (hz:IsZip s.heap z TI TO .none) (vi:kF s.heap TI (.ref i1) (.ref i2)) (xJ:kF s.heap TO a b) (h1:s.heap.IsStrIter i1 ty x t k) (hx:x.cps[k]?=some c) (h2:xI k s.heap) (hQ:∀h' tk T u v,P2 k v->s.heap.objs.size<=T->IsZip h' z TI TO (rawInt T)->kF h' TO (.str ⟨#[c]⟩ u) v->h'.IsStrIter i1 ty x t (k+1)->xI (k+1) h'->kF h' T (.str ⟨#[c]⟩ u) v-> (∀e o,e≠z->e≠TO->e≠i1->e≠i2->s.heap.get? e=some o->h'.get? e=some o)->Q (.ref T) {s with heap:=h',toks:=tk}):wpAny (model prog w) A (Builtin.«zip.__next__» ⟨[.ref z],[]⟩) (λfin s'=>∃v,fin=.done (.ret v)/\Q v s') E s:=by
 show wpAny _ _ (field (.ref z) 2>>=_) _ _ _;refine ar (iI hz rfl (x:=.bool false) rfl ?_);show wpAny _ _ (field (.ref z) 3>>=_) _ _ _;refine ar (iI hz rfl (x:=.ref TI) rfl ?_);refine ar (uf vi rfl ?_);show wpAny _ _ (I7 (.ref z)>>=_) _ _ _;refine ar ?_;unfold I7;refine ar (iI hz rfl (x:=.none) rfl (aV ?_));simp only[if_true];refine ar (rF ?_);refine ar (iI hz rfl (x:=.ref TO) rfl ?_);refine ar (Da hz (by simp) λh₁ sQ iu=>?_);replace sQ:IsZip h₁ z TI TO .ellipsis:=sQ;refine ar ?_;simp only[List.zipIdx_cons,List.zipIdx_nil,pF,wE];refine ar (ar (wpAny_onRaise ?_));show wpAny _ _ (uh (.ref i1)>>=_) _ _ _;refine ar (acu mF (h1.extBut iu.extBut D.i1z) hx λav acw kN=>aV ?_);have Oa:kF av TO a b:=kN.extBut _ _ D.TOi1 (iu.extBut _ _ D.TOz xJ);refine ar (uf Oa rfl ?_);refine ar (wpAny_updateSeq_pair Oa λcF Fa qD=>?_);replace Fa:kF cF TO (.str ⟨#[c]⟩ s.toks) b:=Fa;refine ar (wpAny_letGo (aV ?_));refine ar (ar (wpAny_onRaise ?_));show wpAny _ _ (uh (.ref i2)>>=_) _ _ _;have acx:xI k cF:=W.frame k _ _ h2 λe he o g=>qD.extBut _ _ (λq=>D.E9 (q▸he)) (kN.extBut _ _ (λq=>D.N0 (q▸he)) (iu.extBut _ _ (λq=>D.fz (q▸he)) g));refine ar (E8 (jY (W.item k _ _ _ hk acx λv j2 oV hv acy acz=>λOb=>⟨v,rfl,aV ?_⟩)));have A4:∀e o,e≠i2->cF.get? e=some o->j2.get? e=some o:=λe o ne g=>acz e o (λq=>ne (List.mem_singleton.mp q)) g;have Oc:kF j2 TO (.str ⟨#[c]⟩ s.toks) b:=A4 _ _ D.TOi2 Fa;refine ar (uf Oc rfl ?_);refine ar (wpAny_updateSeq_pair Oc λjf A5 xK=>?_);replace A5:kF jf TO (.str ⟨#[c]⟩ s.toks) v:=A5;refine ar (wpAny_letGo (aV (aV ?_)));refine ar (uf A5 rfl ?_);refine ar (wpAny_newTuple ?_);have cO:s.heap.objs.size<=jf.objs.size:=by have e1:h₁.objs.size=s.heap.objs.size:=iu.1;have e2:av.objs.size=h₁.objs.size:=kN.1;have e3:cF.objs.size=av.objs.size:=qD.1;have e5:jf.objs.size=j2.objs.size:=xK.1;have e4:cF.objs.size<=j2.objs.size:=Ob;exact(pS 0xeb10b32d04d45d52d31 4521260802482454) Ob e1 e2 e3 e5
 have Od:IsZip jf z TI TO .ellipsis:=xK.extBut _ _ D.TOz.symm (A4 _ _ D.i2z.symm (qD.extBut _ _ D.TOz.symm (kN.extBut _ _ D.i1z.symm sQ)));have acA:∀e o,e≠z->e≠TO->e≠i1->e≠i2->s.heap.get? e=some o->jf.get? e=some o:=λe o c1 c2 c3 c4 g=>
  xK.extBut _ _ c2 (A4 _ _ c4 (qD.extBut _ _ c2 (kN.extBut _ _ c3 (iu.extBut _ _ c1 g))))
 have acB:jf.IsStrIter i1 ty x t (k+1):=by obtain⟨o,g,r⟩:=acw;exact⟨o,xK.extBut _ _ D.TOi1.symm (A4 _ _ D.i12 (qD.extBut _ _ D.TOi1.symm g)),r⟩
 have acC:xI (k+1) jf:=W.frame (k+1) _ _ acy λe he o g=>xK.extBut _ _ (λq=>D.E9 (q▸he)) g;have Oe:z<jf.objs.size:=bu Od;show wpAny _ _ (alL (.ref z) (.ref jf.objs.size)>>=_) _ _ _;refine ar ?_;unfold alL;have acD:IsZip (jf.push {cls:=.type "tuple",data:=.seq #[.str ⟨#[c]⟩ s.toks,v]}) z TI TO .ellipsis:=b7 _ Od;refine ar (Da acD (by simp) λacE Fb Of=>?_);replace Fb:IsZip acE z TI TO (rawInt jf.objs.size):=Fb;refine Da Fb (by simp) λxL Fd Og=>?_;replace Fd:IsZip xL z TI TO (rawInt jf.objs.size):=Fd;have up:∀e o,e≠z->jf.get? e=some o->xL.get? e=some o:=λe o c1 g=>Og.extBut _ _ c1 (Of.extBut _ _ c1 (b7 _ g));have acF:kF xL jf.objs.size (.str ⟨#[c]⟩ s.toks) v:=Og.extBut _ _ (pM Oe) (Of.extBut _ _ (pM Oe) (cU _ rfl));refine aV ⟨_,rfl,?_⟩;have acG:xL.IsStrIter i1 ty x t (k+1):=by obtain⟨o,g,r⟩:=acB;exact⟨o,up _ _ D.i1z g,r⟩
 exact hQ xL oV jf.objs.size s.toks v hv cO Fd (up _ _ D.TOz A5) acG (W.frame (k+1) _ _ acC λe he o g=>up _ _ (λq=>D.fz (q▸he)) g) acF λe o c1 c2 c3 c4 g=>up e o c1 (acA e o c1 c2 c3 c4 g)
theorem acH(D:A3 z TI TO i1 i2 fp)(mF:vh ty)(hh:A.handled=none) (hz:IsZip s.heap z TI TO .none) (vi:kF s.heap TI (.ref i1) (.ref i2)) (xJ:kF s.heap TO a b) (h1:s.heap.IsStrIter i1 ty x t k) (hx:x.cps[k]?=none) (hE:∀h' e,(∀c o,c≠z->c≠i1->s.heap.get? c=some o->h'.get? c=some o)->(∃o,h'.get? e=some o/\o.cls=.type "StopIteration")->E (.ref e) {s with heap:=h'}):wpAny (model prog w) A (Builtin.«zip.__next__» ⟨[.ref z],[]⟩) Q E s:=by
 show wpAny _ _ (field (.ref z) 2>>=_) _ _ _;refine ar (iI hz rfl (x:=.bool false) rfl ?_);show wpAny _ _ (field (.ref z) 3>>=_) _ _ _;refine ar (iI hz rfl (x:=.ref TI) rfl ?_);refine ar (uf vi rfl ?_);show wpAny _ _ (I7 (.ref z)>>=_) _ _ _;refine ar ?_;unfold I7;refine ar (iI hz rfl (x:=.none) rfl (aV ?_));simp only[if_true];refine ar (rF ?_);refine ar (iI hz rfl (x:=.ref TO) rfl ?_);refine ar (Da hz (by simp) λh₁ sQ iu=>?_);replace sQ:IsZip h₁ z TI TO .ellipsis:=sQ;refine ar ?_;simp only[List.zipIdx_cons,List.zipIdx_nil,pF,wE];refine ar (ar (wpAny_onRaise ?_));show wpAny _ _ (uh (.ref i1)>>=_) _ _ _;refine ar (acs mF hh (h1.extBut iu.extBut D.i1z) hx λav e kN he=>?_);obtain⟨oe,Ff,Fg⟩:=he;have Oh:IsZip av z TI TO .ellipsis:=kN _ _ D.i1z.symm sQ;have hez:e≠z:=λx=>by subst x;rw[Oh]at Ff;cases Ff;simp at Fg
 exact Da Oh (by simp) λcF J qD=>hE cF e (λc o c1 c3 x=>qD.extBut _ _ c1 (kN _ _ c3 (iu.extBut _ _ c1 x))) ⟨oe,qD.extBut _ _ hez Ff,Fg⟩
end
theorem acJ(x:Str):vh (strIterType x):=by
 unfold strIterType vh
 split<;>simp
noncomputable abbrev xM(h:Heap)(x:Str)(t:Tok):Heap:=h.push {cls:=.type (strIterType x),data:=.fields #[.str x t,.int 0 0]}
abbrev A6(h:Heap)(x:Str)(t:Tok)(ty:String)(l2:Addr):Heap:=(xM h x t).push {cls:=.type ty,data:=.fields #[.ref l2,.int 0 0]}
abbrev A7(h:Heap)(x:Str)(t:Tok)(ty:String)(l2:Addr):Heap:=(A6 h x t ty l2).push {cls:=.type "tuple",data:=.seq #[.ref h.objs.size,.ref (xM h x t).objs.size]}
abbrev qE(h:Heap)(x:Str)(t:Tok)(ty:String)(l2:Addr):Heap:=(A7 h x t ty l2).push {cls:=.type "tuple",data:=.seq #[.none,.none]}
abbrev mG(h:Heap)(x:Str)(t:Tok)(ty:String)(l2:Addr):Heap:=(qE h x t ty l2).push {cls:=.type "zip",data:=.fields #[.none,.bool false,.bool false,.ref (A6 h x t ty l2).objs.size,.ref (A7 h x t ty l2).objs.size]}
theorem Oi(x:Str)(t:Tok)(l2:Addr)(ty:String)(Pr:aF->Prop)(hI:∀(prog:bF) (w:bj) (A:m7) (E:aa->aF->Prop) (Q:aa->aF->Prop) (s:aF),Pr s->Q (.ref s.heap.objs.size) {s with heap:=s.heap.push {cls:=.type ty,data:=.fields #[.ref l2,.int 0 0]}}->wpAny (model prog w) A (pyIter (.ref l2)) Q E s):Meets (Builtin.«zip.__new__» ⟨[.type "zip",.str x t,.ref l2],[]⟩) (λJ R s=>Pr {s with heap:=xM s.heap x t}/\ R (.ok (.ret (.ref (qE s.heap x t ty l2).objs.size))) {s with heap:=mG s.heap x t ty l2}):=
 .of_wp λprog w A R s h=>by
  obtain⟨hp,g,d,tk,os⟩:=s;obtain⟨hl2,h⟩:=h;have JV:=sub_zip;have hL2:=λA E Q q=>hI prog w A E Q _ hl2 q
  iterate 22 wp_step
  with_reducible apply wpAny_pyIter_strU
  iterate 6 wp_step
  with_reducible apply hL2 _ _ _
  repeat wp_step
  exact⟨_,rfl,h⟩
theorem acM(x:Str)(t:Tok)(l2:Addr)(ys:Array aa):Meets (Builtin.«zip.__new__» ⟨[.type "zip",.str x t,.ref l2],[]⟩) (λJ R s=>s.heap.IsList l2 ys/\ R (.ok (.ret (.ref (qE s.heap x t "list_iterator" l2).objs.size))) {s with heap:=mG s.heap x t "list_iterator" l2}):=
 (Oi x t l2 "list_iterator" (λs=>s.heap.IsList l2 ys) λprog w A E Q s h q=>wpAny_pyIter_list h q).of_imp λ_ R s ⟨h,r⟩=>⟨Heap.IsList.push h _,r⟩
theorem acN(x:Str)(t:Tok)(l2:Addr)(ys:Array aa):Meets (Builtin.«zip.__new__» ⟨[.type "zip",.str x t,.ref l2],[]⟩) (λJ R s=>s.heap.IsTuple l2 ys/\ R (.ok (.ret (.ref (qE s.heap x t "tuple_iterator" l2).objs.size))) {s with heap:=mG s.heap x t "tuple_iterator" l2}):=
 (Oi x t l2 "tuple_iterator" (λs=>s.heap.IsTuple l2 ys) λprog w A E Q s h q=>IX h q).of_imp λ_ R s ⟨h,r⟩=>⟨Heap.IsTuple.push h _,r⟩
section
variable{prog:bF}{w:bj}{A:m7}{E:aa->aF->Prop}{s:aF}
theorem acO(hM:Meets (Builtin.«zip.__new__» ⟨[.type "zip",.str x t,.ref l2],[]⟩) (λJ R jg=>jg=s/\ R (.ok (.ret (.ref (qE jg.heap x t ty l2).objs.size))) {jg with heap:=mG jg.heap x t ty l2})) (h:∀h',IsZip h' (s.heap.objs.size+4) (s.heap.objs.size+2) (s.heap.objs.size+3) .none->kF h' (s.heap.objs.size+2) (.ref s.heap.objs.size) (.ref (s.heap.objs.size+1))-> kF h' (s.heap.objs.size+3) .none .none->h'.IsStrIter s.heap.objs.size (strIterType x) x t 0->(h'.get? (s.heap.objs.size+1)=some {cls:=.type ty,data:=.fields #[.ref l2,.int 0 0]})->h'.objs.size=s.heap.objs.size+5-> (∀c o,s.heap.get? c=some o->h'.get? c=some o)->Q (.ref (s.heap.objs.size+4)) {s with heap:=h'}):wpAny (model prog w) A (kA (.type "zip") [.str x t,.ref l2]) Q E s:=by
 refine callType_new F.called_zip ⋯ (F.typeCall_zip_2 _ _) (F.newCall_zip_2 _ _) (λobj=>F.args_object_init_3 obj _ _) F.entry_zip_new hM ⟨rfl,?_⟩;have z1:(xM s.heap x t).objs.size=s.heap.objs.size+1:=gq ..;have z2:(A6 s.heap x t ty l2).objs.size=s.heap.objs.size+2:=by rw[gq,z1]
 have z3:(A7 s.heap x t ty l2).objs.size=s.heap.objs.size+3:=by rw[gq,z2]
 have z4:(qE s.heap x t ty l2).objs.size=s.heap.objs.size+4:=by rw[gq,z3]
 have z5:(mG s.heap x t ty l2).objs.size=s.heap.objs.size+5:=by rw[gq,z4]
 have g5:(mG s.heap x t ty l2).get? (qE s.heap x t ty l2).objs.size=some _:=cU _ rfl;have g4:(mG s.heap x t ty l2).get? (A7 s.heap x t ty l2).objs.size=some _:=b7 _ (cU _ rfl);have g3:(mG s.heap x t ty l2).get? (A6 s.heap x t ty l2).objs.size=some _:=b7 _ (b7 _ (cU _ rfl));have g2:(mG s.heap x t ty l2).get? (xM s.heap x t).objs.size=some _:=b7 _ (b7 _ (b7 _ (cU _ rfl)));have g1:(mG s.heap x t ty l2).get? s.heap.objs.size=some _:=b7 _ (b7 _ (b7 _ (b7 _ (cU _ rfl))));show _/\_;rw[z2,z3,z4]at g5;rw[z1,z2]at g3;rw[z3]at g4;rw[z1]at g2;rw[z4]
 exact⟨⟨_,g5,rfl⟩,h _ g5 g3 g4 ⟨_,g1,rfl,rfl⟩ g2 z5 λc o x=>
  b7 _ (b7 _ (b7 _ (b7 _ (b7 _ x))))⟩
end
section
variable{ad ad':Str->Addr}
def Oj(s:Str)(P:Nat->aa->Prop)(z:Addr)(i:Nat)(v:aa)(h:Heap):Prop:=∃T c u w,v=.ref T/\z<=T/\s.cps[i]?=some c/\P i w/\h.get? T=some (gA [.str ⟨#[c]⟩ u,w] 0)
structure xN(s:Str)(t:Tok)(ty:String)(z TI TO i1 i2:Addr)(f:aa)(S:Heap->Prop)(k:Nat)(h:Heap):Prop where
 z:IsZip h z TI TO f
 ti:kF h TI (.ref i1) (.ref i2)
 to:∃a b,kF h TO a b
 i1:h.IsStrIter i1 ty s t k
 i2:S h
theorem xN.keep{s:Str}{t:Tok}{ty:String}{z TI TO i1 i2:Addr}{f:aa}{S:Heap->Prop}{k:Nat}(x:xN s t ty z TI TO i1 i2 f S k h)(hk:∀b∈[z,TI,TO,i1],∀o,h.get? b=some o->h'.get? b=some o)(k2:S h->S h'):xN s t ty z TI TO i1 i2 f S k h':=
 ⟨hk z aK _ x.z,hk TI (aY _ aK) _ x.ti,x.to.imp λa q=>q.imp λb q=>hk TO (aY _ (aY _ aK)) _ q,x.i1.imp λo q=>⟨hk i1 (aY _ (aY _ (aY _ aK))) _ q.1,q.2⟩,k2 x.i2⟩
theorem gN.tup{b:Addr}{n:Nat}(no:¬C.ok b):gN C b (gA vs n):=⟨.seq (.tup vs n),λe=>absurd (Value.type.inj e) ⋯,λq=>absurd q no⟩
theorem Wk.zip{s:Str}{t:Tok}{ty:String}{z TI TO i1 i2 l2:Addr}{n2:Nat}{P2:Nat->aa->Prop}{S2:Nat->Heap->Prop}{ts:List ab}{kk:Nat}{p:Pos}(hh:C.A.handled=none)(D:A3 z TI TO i1 i2 [i2,l2])(mF:vh ty)(no:¬C.ok TO)(Fi:∀i h,S2 i h->∃o,h.get? i2=some o/\gN C i2 o)(K:Walks C.prog C.w C.A.in1 i2 [i2,l2] [i2] n2 P2 S2)(hn:s.cps.size<=n2):Wk C (.Tuple ts kk p) z [z,TI,TO,i1,i2,l2] [z,i1,i2,TO] s.cps.size (Oj s P2) (λk=>xN s t ty z TI TO i1 i2 .none (S2 k) k) where
 A1 i h st b m:=by
  rcases List.mem_cons.mp m with e|m
  ·exact⟨_,e▸st.z,.bZ rfl rfl (λJ J e=>iK (aO e)) ⋯⟩
  ·rcases List.mem_cons.mp m with e|m
   ·exact st.i1.elim λo g=>⟨o,e▸g.1,.bZ g.2.1 g.2.2 (λJ J e=>iK (aO e)) (by rcases mF with e|e<;>rw[e]<;>decide)⟩
   ·rcases List.mem_cons.mp m with e|m
    ·exact e▸Fi i h st.i2
    ·exact st.to.elim λa g=>g.elim λc g=>by rw[List.mem_singleton.mp m];exact⟨gA [a,c] 0,g,.tup no⟩
 frame i h h' st k:=st.keep (λb m=>k b (by simp only[t8,fc,or_false]at m⊢;rcases m with m|m|m|m<;>simp[m])) λq=>K.frame i h h' q λb m=>k b (aY _ (aY _ (aY _ (aY _ m))))
 item i h tk Q hi st q:=by
  obtain⟨hz,h2,⟨a,b,h3⟩,h4,h5⟩:=st;have hT:(C.st h tk).TypeIs (.ref z) "zip":=⟨_,hz,rfl⟩
  unfold pyNext;refine ar (wpAny_attempt (y6 (name:=fU "__next__") hT I8 (y7 I8 hT F.entry_zip_next ?_ (F.args_zip_next_1 _))));refine acv (A:=C.A.in1) D mF hh K (fy hi hn) hz h2 h3 h4 (Array.getElem?_eq_getElem hi) h5 λh' ak T u v hv hT Fj acP h1' kM Fk hk=>aV (q _ h' ak λQ' q'=>?_);have nz:T≠z:=λe=>absurd (bu hz) (by rw[<-e];exact Nat.not_lt.mpr hT);refine wpAny_letOwnedTupleGo_zip Fj λcX acR hs=>q' cX ⟨T,_,u,v,rfl,hT,Array.getElem?_eq_getElem hi,hv,hs.extBut _ _ nz Fk⟩ ⟨acR,hs.extBut _ _ D.TIz (hk _ _ D.TIz D.TITO D.TIi1 D.TIi2 h2),⟨_,_,hs.extBut _ _ D.TOz acP⟩,h1'.extBut hs.extBut D.i1z,K.frame _ _ _ kM λc m o e=>hs.extBut c o (λq=>D.fz (q▸m)) e⟩ λb o m e=>?_;refine hs.extBut b o (λq=>m (q▸aK)) (hk b o (λq=>m (q▸aK)) (λq=>m ?_) (λq=>m ?_) (λq=>m ?_) e)
  ·rw[q];simp
  ·rw[q];simp
  ·rw[q];simp
 done h tk Q st _ q:=by
  obtain⟨hz,h2,⟨a,b,h3⟩,h4,h5⟩:=st;have hT:(C.st h tk).TypeIs (.ref z) "zip":=⟨_,hz,rfl⟩
  unfold pyNext;refine ar (wpAny_attempt (y6 (name:=fU "__next__") hT I8 (y7 I8 hT F.entry_zip_next (acH (A:=C.A.in1) D mF hh hz h2 h3 h4 (Array.getElem?_eq_none (aQ _)) λh' e hk he=>?_) (F.args_zip_next_1 _))));obtain⟨o,ho,hc⟩:=he;refine ar (wpAny_isInstance (T:="StopIteration") (b:=true) ⟨o,ho,hc⟩ isSubtype_stop ?_);exact aV (q h' tk λc o m e=>hk c o (λq=>m (q▸aK)) (λq=>m (q▸aY _ aK)) e)
 self i h tk Q st q:=wpAny_pyIter_zip st.z q
theorem acS{s:Str}{n2:Nat}:vg (Oj s λi v=>vs.toArray[i]?=some v) xs vs (m9 u9 s.cps.toList xs):=λok h j v x z hx hp hk rv=>by
 obtain⟨T,c,u,w,ev,zT,hc,hw,g⟩:=hp;rw[List.getElem?_zipWith]at hx;rw[show s.cps.toList[j]?=some c by simpa using hc]at hx;cases e:xs[j]? with|none=>rw[e]at hx;cases hx|some y=>rw[e]at hx;cases hx;have hw:=hw;rw[tQ]at hw;exact(rv.get e).elim λw' r=>ev▸⟨T,_,0,g,hk T zT,⟨⟨u⟩,(aO (hw.symm.trans r.1))▸r.2,rfl⟩⟩
theorem Ol{s:Str}{t:Tok}{l:Addr}{ol:Obj}{ty:String}{S2:Nat->Heap->Prop}{ts:List ab}{kk:Nat}{p:Pos}(hh:C.A.handled=none)(hm:cB C.A C.base)(lo:C.lo<=h₁.objs.size)(z:h.objs.size<=h₁.objs.size)(gl:h₁.get? l=some ol)(so:cJ ol)(rv:ay h₁ (C.aJ ad σ) xs vs)(hn:s.cps.size<=xs.length) (K:Walks C.prog C.w C.A.in1 (h₁.objs.size+1) [h₁.objs.size+1,l] [h₁.objs.size+1] xs.length (λi v=>vs.toArray[i]?=some v) S2) (Fi:∀C':Fc,∀i h,S2 i h->∃o,h.get? (h₁.objs.size+1)=some o/\gN C' (h₁.objs.size+1) o) (st:∀h':Heap,h'.get? (h₁.objs.size+1)=some {cls:=.type ty,data:=.fields #[.ref l,.int 0 0]}->h'.get? l=some ol->S2 0 h') (hM:Meets (Builtin.«zip.__new__» ⟨[.type "zip",.str s t,.ref l],[]⟩) (λJ R jg=>jg=C.st h₁ tk/\R (.ok (.ret (.ref (qE jg.heap s t ty l).objs.size))) {jg with heap:=mG jg.heap s t ty l})) {Q:aa->aF->Prop} (q:∀av it,aI h₁ av->iQ C ad σ h (.Tuple ts kk p) true av it (m9 u9 s.cps.toList xs)->Q it (C.st av tk)):wpAny (M_ C) C.A (kA (.type "zip") [.str s t,.ref l]) (λx s₁=>wpAny (M_ C) C.A (pyIter x) Q aD s₁) aD (C.st h₁ tk):=by
 refine acO hM λh' hz vi xJ h1 h2 cO hk=>wpAny_pyIter_zip (show IsZip (C.st h' tk).heap _ _ _ .none from hz) (q h' _ (.of (by rw[cO];exact lY _ _) hk) ?_);have hl:=bu gl;have lt:∀{i j:Nat},i≠j->h₁.objs.size+i≠h₁.objs.size+j:=λh e=>h (Nat.add_left_cancel e);have l0:∀{j:Nat},0≠j->h₁.objs.size≠h₁.objs.size+j:=λ{j} h=>lt (i:=0) (j:=j) h;have nl:∀j:Nat,l≠h₁.objs.size+j:=λj=>fG (fy hl (lY _ _))
 have D:A3 (h₁.objs.size+4) (h₁.objs.size+2) (h₁.objs.size+3) h₁.objs.size (h₁.objs.size+1) [h₁.objs.size+1,l]:={
  TIz:=lt ⋯,TOz:=lt ⋯,i1z:=l0 ⋯,i2z:=lt ⋯,TITO:=lt ⋯,TIi1:=(l0 ⋯).symm,TIi2:=lt ⋯,TOi1:=(l0 ⋯).symm,TOi2:=lt ⋯,i12:=l0 ⋯,
  fz:=λq=>(List.mem_cons.mp q).elim (λq=>lt (i:=4) (j:=1) ⋯ q) λq=>nl 4 (List.mem_singleton.mp q).symm,
  E9:=λq=>(List.mem_cons.mp q).elim (λq=>lt (i:=3) (j:=1) ⋯ q) λq=>nl 3 (List.mem_singleton.mp q).symm,
  N0:=λq=>(List.mem_cons.mp q).elim (λq=>l0 (j:=1) ⋯ q) λq=>nl 0 (List.mem_singleton.mp q).symm}
 have rg:∀j,j<5->h₁.objs.size<=h₁.objs.size+j/\h₁.objs.size+j<h'.objs.size:=λj c=>⟨lY _ _,by rw[show h'.objs.size=h₁.objs.size+5 from cO];exact Nat.add_lt_add_left c _⟩
 refine .of (fp:=[h₁.objs.size+4,h₁.objs.size+2,h₁.objs.size+3,h₁.objs.size,h₁.objs.size+1,l]) (wr:=[h₁.objs.size+4,h₁.objs.size,h₁.objs.size+1,h₁.objs.size+3]) (n:=s.cps.size) hm lo z hk (λb m=>?_) (λb m=>?_) (St:=λk=>xN s t (strIterType s) (h₁.objs.size+4) (h₁.objs.size+2) (h₁.objs.size+3) h₁.objs.size (h₁.objs.size+1) .none (S2 k) k) ⟨hz,vi,⟨_,_,xJ⟩,h1,st h' h2 (hk _ _ gl)⟩ (by rw[Td,lW,CN hn]) rv
  (λenv ok nw nx pin zp=>.zip hh D (acJ s) (zp rfl _ (by simp)) (Fi _) K hn) (acS (n2:=0))
 ·simp only[t8,fc,or_false]at m⊢
  rcases m with rfl|rfl|rfl|rfl
  ·exact⟨rg 4 ⋯,.inl rfl⟩
  ·exact⟨rg 0 ⋯,.inr (.inr (.inr (.inl rfl)))⟩
  ·exact⟨rg 1 ⋯,.inr (.inr (.inr (.inr (.inl rfl))))⟩
  ·exact⟨rg 3 ⋯,.inr (.inr (.inl rfl))⟩
 ·simp only[t8,fc,or_false]at m
  rcases m with rfl|rfl|rfl|rfl|rfl|rfl
  ·exact⟨⟨_,hz,.bZ rfl rfl λJ J e=>iK (aO e)⟩,.inl (rg 4 ⋯).1⟩
  ·exact⟨⟨_,vi,.seq (.tup [_,_] 0)⟩,.inl (rg 2 ⋯).1⟩
  ·exact⟨⟨_,xJ,.seq (.tup [_,_] 0)⟩,.inl (rg 3 ⋯).1⟩
  ·exact⟨h1.imp λo g=>⟨g.1,.bZ g.2.1 g.2.2 λJ J e=>iK (aO e)⟩,.inl (aQ _)⟩
  ·exact⟨⟨_,h2,.bZ rfl rfl λJ J e=>iK (aO e)⟩,.inl (rg 1 ⋯).1⟩
  ·exact⟨⟨_,hk _ _ gl,.seq so⟩,.inr (.inr rfl)⟩
end
section
variable{C:Fc}{ad ad':Str->Addr}{σ σ':Sg}
variable{α:Type}{m:Md α}{H:α->Prop}{kl:List AV->α}{as:List AV}{cx:Cx α}{I:It α}{e l r:ab}{es:List ab}{p:Pos}
inductive Fn(C:Fc)(ad:Str->Addr)(σ:Sg)(h:Heap)(bw:Bool)(xs:List AV):aa->Prop
 |lst {l:Addr} {vs:List aa} {n:Nat} (g:h.get? l=some (cM vs n)) (k:C.aJ ad σ l∨bw=true) (r:ay h (C.aJ ad σ) xs vs):Fn C ad σ h bw xs (.ref l)|tup {l:Addr} {vs:List aa} {n:Nat} (g:h.get? l=some (gA vs n)) (k:C.aJ ad σ l∨bw=true) (r:ay h (C.aJ ad σ) xs vs):Fn C ad σ h bw xs (.ref l)
theorem Oo(e:sj bw false=true):bw=true:=by cases bw with|true=>rfl|false=>exact absurd e aL
theorem Oq:xi a=some xs->C.V ad σ h a v->sj bw (fz a)=true->Fn C ad σ h bw xs v:=(by induction a using AV.casesOn with|tup ys=>exact(λe r f=>by cases r with|mk l vs n g k r=>exact .tup g (.inl k) (aO e▸r))|lst ys=>exact(λe r f=>by cases r with|mk l vs n g k r=>exact .lst g (.inl k) (aO e▸r))|bU ys=>exact(λe r f=>by cases r.2 with|mk l vs n g k rr=>exact .lst g (.inr (Oo f)) (aO e▸rr))|_=>exact λe J J=>ai e)
theorem Os(e:gC a=some xs)(r:C.V ad σ h a v)(f:sj bw (fz a)=true):∃l vs n,v=.ref l/\h.get? l=some (cM vs n)/\(C.aJ ad σ l∨bw=true)/\ay h (C.aJ ad σ) xs vs:=by revert e r f;exact(by induction a using AV.casesOn with|lst ys=>exact(λe r f=>by cases r with|mk l vs n g k r=>exact⟨l,vs,n,rfl,g,.inl k,aO e▸r⟩)|bU ys=>exact(λe r f=>by cases r.2 with|mk l vs n g k rr=>exact⟨l,vs,n,rfl,g,.inr (Oo f),aO e▸rr⟩)|_=>exact λe J J=>ai e)
theorem Rel.low(O:C.Ok)(R:Rel C ad σ h):C.lo<=h.objs.size:=az O.oE R.sz
theorem acT(M:m.Ok H)(F:Fits H C cx)(R:Rel C ad σ h)(g:aI h h₁)(r:C.V ad σ h₁ a v)(x:H (MI m cx bw kl a))(q:∀it av bI xs,aI h av->iQ C ad σ h tg bw av it xs->H (kl xs)->Q it (C.st av bI)):wpAny (M_ C) C.A (pyIter v) Q aD (C.st h₁ tk):=(Fl.bz M.fail x).elim λhn x=>(Fl.bz M.fail x).elim λf x=>
 have hh:=F.hn hn;have eK:=R.grow g;have hm:=F.hm
 dD x (λx=>aW M.fail x λxs ex x=>by
  cases Oq ex r f with|lst gl k rv=>exact wpAny_pyIter_list (fH gl) (q _ _ _ xs (g.trans (.push _ _)) (src_list hh hm (eK.low F.ok) g.sz gl k rv) x)|tup gl k rv=>exact IX (nB gl) (q _ _ _ xs (g.trans (.push _ _)) (aca hh hm (eK.low F.ok) g.sz gl k rv) x))
 λs es x=>by obtain⟨t⟩:=j1 es r;exact acb hh hm (eK.low F.ok) g.sz λav bx s=>q _ av _ _ (g.trans bx) s x
theorem acU:∀{as:List AV},sj bw (as.all fz)=true->∀a∈as,sj bw (fz a)=true:=λ{as} e a m=>by
 cases bw with|true=>rfl|false=>exact List.all_eq_true.mp e a m
theorem acV(M:m.Ok H)(F:Fits H C cx)(R:Rel C ad σ h)(g:aI h h₁)(r:C.Vl ad σ h₁ as vs){b:Bi}(x:H (MH m cx bw tg b kl as)){Q:aa->aF->Prop}(q:∀it av bI xs,aI h av->iQ C ad σ h tg bw av it xs->H (kl xs)->Q it (C.st av bI)):wpAny (M_ C) C.A (kA b.val vs) (λx s₁=>wpAny (M_ C) C.A (pyIter x) Q aD s₁) aD (C.st h₁ tk):=(Fl.bz M.fail x).elim λf x=>by
 have eK:=R.grow g;have lo:=eK.low F.ok;have af:=acU f;cases b with
 |range=>exact(Fl.bz M.fail x).elim λhn x=>ace M (F.hn hn) F.hm lo g.sz r x λit av bI xs bx=>q it av bI xs (g.trans bx)|enumerate=>
  refine(Fl.bz M.fail x).elim λhn x=>(Fl.bz M.fail x).elim λht x=>qp M x λa ea x=>fh M x λxs ex z=>?_;subst ea;obtain⟨r,rfl⟩:=r;obtain⟨l,vs,n,rfl,gl,k,rv⟩:=Os ex r (af a aK);cases et:ny tg with|none=>unfold isTup at ht;rw[et]at ht;exact absurd ht aL|some ts=>obtain⟨kk,p,rfl⟩:=tup_is et;exact acq (F.hn hn) F.hm lo g.sz gl k rv λav it bx s=>q it av _ _ (g.trans bx) s z
 |reversed=>
  refine qp M x λa ea x=>fh M x λxs ex z=>?_;subst ea;obtain⟨r,rfl⟩:=r;obtain⟨l,vs,n,rfl,gl,k,rv⟩:=Os ex r (af a aK);refine call_reversed_list (items:=vs.toArray) (fH gl) ?_;have e:((vs.toArray.size:Nat):Int)-1=lJ vs.length 0:=by unfold lJ;rw[dF];exact(Int.sub_zero _).symm
  rw[e];exact wpAny_pyIter_revIter ⟨_,cU _ rfl,rfl,rfl⟩ (q _ _ tk _ (g.trans (.push _ _)) (ack F.hm lo g.sz gl k rv) z)
 |zip=>
  refine(Fl.bz M.fail x).elim λhn x=>(Fl.bz M.fail x).elim λhb x=>(Fl.bz M.fail x).elim λht x=>xG M x λa b ea x=>lG M x λs xs es ex x=>(M.gd x).elim λhz z=>?_;subst ea;subst hb;obtain⟨r1,r2,rfl⟩:=r;obtain⟨t⟩:=j1 es r1;cases et:ny tg with
  |none=>unfold isTup at ht;rw[et]at ht;exact absurd ht aL|some ts=>
   obtain⟨kk,p,rfl⟩:=tup_is et;have fin:=λav it bx s=>q it av tk _ (g.trans bx) s z;have hh:=F.hn hn;cases Oq ex r2 (af b (aY _ aK))with|@lst l vs n gl k rv=>have K:=Walks.list (prog:=C.prog) (w:=C.w) (A:=C.A.in1) hh (h₁.objs.size+1) l (fG (rD (bu gl))) vs.toArray;rw[show vs.toArray.size=xs.length from by rw[dF];exact rv.length]at K;exact Ol hh F.hm lo g.sz gl (.lst vs n) rv hz K (λC' i h st=>gN.two st.1 ⋯ _ aK) (λh' e1 e2=>⟨⟨_,e1,rfl,rfl⟩,⟨_,e2,rfl,n,rfl⟩⟩) ((acM s t l vs.toArray).of_imp λJ R jg z=>⟨by rw[z.1];exact fH gl,z.2⟩) fin|@tup l vs n gl k rv=>have K:=Walks.tuple (prog:=C.prog) (w:=C.w) (A:=C.A.in1) hh (h₁.objs.size+1) l (fG (rD (bu gl))) vs.toArray;rw[show vs.toArray.size=xs.length from by rw[dF];exact rv.length]at K;exact Ol hh F.hm lo g.sz gl (.tup vs n) rv hz K (λC' i h st=>gN.two st.1 ⋯ _ aK) (λh' e1 e2=>⟨⟨_,e1,rfl,rfl⟩,⟨_,e2,rfl,n,rfl⟩⟩) ((acN s t l vs.toArray).of_imp λJ R jg z=>⟨by rw[z.1];exact nB gl,z.2⟩) fin
 |_=>exact absurd x M.fail
theorem Ot:xk e=some q->∃p,e=.Call q.1 q.2 [] p:=by
 induction e using cv with
 |Call f as ks p=>
  intro z;cases ks with|nil=>cases z;exact⟨p,rfl⟩|cons _ _=>exact ai z
 |_=>exact λz=>ai z
theorem Ou(M:m.Ok H)(Y:I.Ok H)(F:Fits H C cx)(x:H (Eu m I cx bw σ tg e kl))(R:Rel C ad σ h)(q:∀it av bI xs,aI h av->iQ C ad σ h tg bw av it xs->H (kl xs)->Q it (C.st av bI)):wpAny (M_ C) C.A (eval e C.env) (λx s₁=>wpAny (M_ C) C.A (pyIter x) Q aD s₁) aD (C.st h tk):=(Fl.bz M.fail x).elim λJ x=>
 have pl:H (sB m I cx bw σ e kl)->wpAny (M_ C) C.A (eval e C.env) (λx s₁=>wpAny (M_ C) C.A (pyIter x) Q aD s₁) aD (C.st h tk):=λx=>fW Y F x ad h R tk _ λv h₁ bq a g r x=>acT M F R g r x q
 dD x pl λc ec x=>dD x pl λy ey x=>xw M F x λg ek o x=>by
  cases o with
  |@bi b e1 e2=>
   cases hb:isIt b with|false=>unfold Et Es at x;dsimp only at x;rw[hb]at x;exact pl x|true=>unfold Et Es at x;dsimp only at x;rw[hb]at x;obtain⟨fw,x1⟩:=Fl.bz M.fail x;obtain⟨p,ee⟩:=Ot ec;obtain⟨np,en⟩:=j3 ey;rw[ee,en];have n:=(sF fw).1;exact C8 (F.bv ek e1 e2 R (EJ b (fT n).1 (mB (fT n).1 (mA Y F c.2 n x1 ad h R tk _ λvs h₁ bq as g r x=>acV M F R g r x q))))
  |_=>exact pl x
end
theorem acX(x y:Str):aA x y=(x==y):=by
 cases c:aA x y with|true=>rw[(cN x y).mp c];exact(beq_self_eq_true y).symm|false=>exact(beq_eq_false_iff_ne.mpr λz=>aL (c.symm.trans ((cN x y).mpr z))).symm
theorem eN{α:Type}(x:Str)(l:List (Str×α)):l.lookup x=aj x l:=by
 induction l with|nil=>rfl|cons p l ih=>show l.lookup x|>λJ=>List.lookup x (p::l)=ae (aA x p.1) (some p.2) (aj x l);rw[List.lookup_cons,<-acX,ih];cases aA x p.1<;>rfl
theorem fm(e:aj x l=some k):(x,k)∈l:=ng ((eN x l).trans e)
theorem nE{x:Str}{k:bG}{l:List (Str×bG)}:oU l=true->(x,k)∈l->aj x l=some k:=by
 induction l with
 |nil=>exact λJ m=>absurd m fc|cons p l ih=>
  intro n m;have n:opt (oU l) (aj p.1 l) (λJ=>false)=true:=n;cases z:aj p.1 l with
  |some q=>rw[z]at n;exact absurd n aL|none=>
   rw[z]at n;show ae (aA x p.1) (some p.2) (aj x l)=_;rcases List.mem_cons.mp m with e|m
   ·rw[<-e,jZ]
   ·rw[ih n m]
    cases c:aA x p.1 with|false=>rfl|true=>exact ai (z.symm.trans ((cN x p.1).mp c▸ih n m))
theorem nF{α:Type}{x:Str}{c:α}{l:List (Str×α)}:(x,c)∈l->∃d,aj x l=some d:=by
 induction l with
 |nil=>exact λm=>absurd m fc|cons p l ih=>
  intro m;show ∃d,ae (aA x p.1) (some p.2) (aj x l)=some d;cases z:aA x p.1 with|true=>exact⟨_,rfl⟩|false=>exact(List.mem_cons.mp m).elim (λe=>absurd (z.symm.trans (by rw[<-e];exact jZ x)) aL) ih
noncomputable def dM(cells:List (Str×Addr)):List (Str×bG)->List (Str×Addr)->List (Str×Addr)|[],cs=>cs|(n,k)::r,cs=>bif k== .free then dM cells r ((n,(cells.lookup n).getD 0)::cs)else dM cells r cs
theorem Ov(h:∀n,(n,fA)∈scope.names->(env.cells.lookup n).isSome=true):closureFor scope env=pure (dM env.cells scope.names []):=by
 have key:∀(l:List (Str×bG)) (cs:List (Str×Addr)),(∀n,(n,fA)∈l->(env.cells.lookup n).isSome=true)->
   (forIn l cs λ(x:Str×bG) cs=>(do if x.2== .free then(do let c <-cellOf env x.1;pure (iZ ((x.1,c)::cs)))else pure (iZ cs):Sem (ForInStep (List (Str×Addr)))))=pure (dM env.cells l cs):=by
  intro l
  induction l with
  |nil=>intro cs _;rfl|cons x l ih=>
   intro cs hl;obtain⟨n,k⟩:=x;rw[pF];have hr:∀n,(n,fA)∈l->(env.cells.lookup n).isSome=true:=λn hn=>hl n (.tail _ hn);cases hk:k==fA with
   |true=>
    have:k=fA:=by simpa using hk
    subst this;obtain⟨a,ha⟩:=Option.isSome_iff_exists.mp (hl n (.head _));simp only[dM,cellOf,ha,beq_self_eq_true,if_true,pure_bind,cond_true,Option.getD_some];exact ih _ hr
   |false=>simp only[dM,hk,yZ,if_false,pure_bind,cond_false];exact ih _ hr
 have:=key scope.names [] h;simp only[closureFor];refine Eq.trans ?_ (congrArg (λx=>x>>=pure) this |>.trans (by simp));rfl
theorem Ow{x:Str}{c:Addr}:∀{names:List (Str×bG)} {n:Nat} {acc:List (Str×Addr)},(x,c)∈cellsFrom n names acc->(x,c)∈acc∨((x,lx)∈names/\n<=c):=by
 intro names
 induction names with
 |nil=>exact λh=>.inl h|cons p r ih=>
  intro n acc h;unfold cellsFrom at h;by_cases hk:(p.2==lx)=true
  ·rw[if_pos hk]at h
   rcases ih h with h|h
   ·rcases List.mem_cons.mp h with e|h
    ·cases e;exact .inr ⟨beq_iff_eq.mp hk▸aK,aQ _⟩
    ·exact .inl h
   ·exact .inr ⟨aY _ h.1,Tf h.2⟩
  ·rw[if_neg hk]at h
   exact(ih h).imp id λh=>⟨aY _ h.1,h.2⟩
theorem Ox{p:Str×Addr}:∀{names:List (Str×bG)} {n:Nat} {acc:List (Str×Addr)},p∈acc->p∈cellsFrom n names acc:=by
 intro names
 induction names with
 |nil=>exact λh=>h|cons q r ih=>
  intro n acc h;unfold cellsFrom;by_cases hk:(q.2==lx)=true
  ·rw[if_pos hk];exact ih (aY _ h)
  ·rw[if_neg hk];exact ih h
theorem vj{x:Str}:∀{names:List (Str×bG)} {n:Nat} {acc:List (Str×Addr)},(x,lx)∈names->∃c,(x,c)∈cellsFrom n names acc:=by
 intro names
 induction names with
 |nil=>exact λh=>absurd h fc|cons q r ih=>
  intro n acc h;unfold cellsFrom;rcases List.mem_cons.mp h with e|h
  ·rw[if_pos (by rw[<-e];rfl),<-e];exact⟨n,Ox aK⟩
  ·by_cases hk:(q.2==lx)=true
   ·rw[if_pos hk];exact ih h
   ·rw[if_neg hk];exact ih h
theorem acY{n₀:Nat}:∀{names:List (Str×bG)} {n:Nat} {acc:List (Str×Addr)},n₀<=n->(∀p∈acc,p.2<n)->(∀p∈acc,∀q∈acc,n₀<=p.2->p.2=q.2->p.1=q.1)-> ∀p∈cellsFrom n names acc,∀q∈cellsFrom n names acc,n₀<=p.2->p.2=q.2->p.1=q.1:=by
 intro names
 induction names with
 |nil=>exact λJ J h=>h|cons y r ih=>
  intro n acc hn hl h;unfold cellsFrom;by_cases hk:(y.2==lx)=true
  ·rw[if_pos hk]
   refine ih (C4 hn) (λp hp=>(List.mem_cons.mp hp).elim (λe=>e▸pN _) λhp=>rD (hl p hp)) λp hp q hq h0 e=>?_;rcases List.mem_cons.mp hp with e1|hp<;>rcases List.mem_cons.mp hq with e2|hq
   ·rw[e1,e2]
   ·exact absurd (hl q hq) (by rw[<-e,e1];exact rE _)
   ·exact absurd (hl p hp) (by rw[e,e2];exact rE _)
   ·exact h p hp q hq h0 e
  ·rw[if_neg hk];exact ih hn hl h
theorem acZ:∀{names:List (Str×bG)} {h:Heap} {acc:List (Str×Addr)} {x:Str} {c:Addr},(x,c)∈cellsFrom h.objs.size names acc->(x,c)∈acc∨(pushCells h names).IsCell c none:=by
 intro names
 induction names with
 |nil=>exact λh=>.inl h|cons p r ih=>
  intro h acc x c hm;unfold cellsFrom at hm;unfold pushCells;by_cases hk:(p.2==lx)=true
  ·rw[if_pos hk]at hm⊢
   rw[<-gq h {cls:=.type "cell",data:=.cell none}]at hm;rcases ih hm with hm|hm
   ·rcases List.mem_cons.mp hm with e|hm
    ·cases e;exact .inr ⟨_,pushCells_keeps r _ _ _ (cU _ rfl),rfl⟩
    ·exact .inl hm
   ·exact .inr hm
  ·rw[if_neg hk]at hm⊢;exact ih hm
theorem A8{cells:List (Str×Addr)}{x:Str}{c:Addr}:∀{names:List (Str×bG)} {cs:List (Str×Addr)},(x,c)∈dM cells names cs->(x,c)∈cs∨((x,fA)∈names/\c=(cells.lookup x).getD 0):=by
 intro names
 induction names with
 |nil=>exact λh=>.inl h|cons p r ih=>
  intro cs h;unfold dM at h;cases hk:p.2==fA with
  |true=>
   rw[hk,cond_true]at h;rcases ih h with h|h
   ·rcases List.mem_cons.mp h with e|h
    ·cases e;exact .inr ⟨beq_iff_eq.mp hk▸aK,rfl⟩
    ·exact .inl h
   ·exact .inr ⟨aY _ h.1,h.2⟩
  |false=>rw[hk,cond_false]at h;exact(ih h).imp id λh=>⟨aY _ h.1,h.2⟩
theorem ac0:∀{names:List (Str×bG)} {cs:List (Str×Addr)},p∈cs->p∈dM cells names cs:=by
 intro names
 induction names with
 |nil=>exact λh=>h|cons q r ih=>
  intro cs h;unfold dM;cases q.2==fA with|true=>rw[cond_true];exact ih (aY _ h)|false=>rw[cond_false];exact ih h
theorem Fp{cells:List (Str×Addr)}{x:Str}:∀{names:List (Str×bG)} {cs:List (Str×Addr)},(x,fA)∈names->∃c,(x,c)∈dM cells names cs:=by
 intro names
 induction names with
 |nil=>exact λh=>absurd h fc|cons q r ih=>
  intro cs h;unfold dM;rcases List.mem_cons.mp h with e|h
  ·rw[<-e];exact⟨_,ac0 aK⟩
  ·cases q.2==fA with|true=>rw[cond_true];exact ih h|false=>rw[cond_false];exact ih h
structure Oy(names:List (Str×bG))(cl:List (Str×Addr))(n:Addr)(cs:List (Str×Addr)):Prop where
 mem:∀{x c},cs.lookup x=some c->((x,lx)∈names/\n<=c)∨((x,fA)∈names/\cl.lookup x=some c)
 own:∀{x},(x,lx)∈names->∃c,cs.lookup x=some c/\n<=c
 lK:∀{x},(x,fA)∈names->∃c,cs.lookup x=some c/\cl.lookup x=some c
 inj:∀{x y c},cs.lookup x=some c->cs.lookup y=some c->n<=c->x=y
theorem ac1{names:List (Str×bG)}{cells:List (Str×Addr)}{n:Addr}(nd:oU names=true)(hc:∀x,(x,fA)∈names->∃c,cells.lookup x=some c)(lo:∀x c,cells.lookup x=some c->c<n):Oy names cells n (cellsFrom n names (dM cells names [])):=by
 have fr:∀{x c},(x,c)∈dM cells names []->(x,fA)∈names/\cells.lookup x=some c:=λ{x c} m=>by
  rcases A8 m with m|⟨m,e⟩
  ·exact absurd m fc
  ·obtain⟨c',e'⟩:=hc x m
   rw[e']at e;exact⟨m,by rw[e',e];rfl⟩
 have mm:∀{x c},(cellsFrom n names (dM cells names [])).lookup x=some c->((x,lx)∈names/\n<=c)∨((x,fA)∈names/\cells.lookup x=some c):=λ{x c} e=>(Ow (ng e)).elim (λm=>.inr (fr m)) .inl;have some:∀{x c},(x,c)∈cellsFrom n names (dM cells names [])->∃c,(cellsFrom n names (dM cells names [])).lookup x=some c:=λ{x c} m=>by rw[eN];exact nF m
 have ne:∀{x:Str},(x,lx)∈names->(x,fA)∈names->False:=λm m'=>by cases(nE nd m).symm.trans (nE nd m')
 exact⟨mm,λ{x} m=>(vj (n:=n) (acc:=dM cells names []) m).elim λc m'=>(some m').elim λd e=>⟨d,e,(mm e).elim (λz=>z.2) λz=>(ne m z.1).elim⟩,
  λ{x} m=>(Fp (cells:=cells) (cs:=[]) m).elim λc m'=>(some (Ox m')).elim λd e=>⟨d,e,(mm e).elim (λz=>(ne z.1 m).elim) λz=>z.2⟩,
  λ{x y c} e1 e2 h=>acY (n₀:=n) (aQ _) (λp hp=>lo p.1 p.2 (fr hp).2) (λp hp q hq h0 e=>absurd (lo p.1 p.2 (fr hp).2) (Nat.not_lt.mpr h0)) (x,c) (ng e1) (y,c) (ng e2) h rfl⟩
theorem ac2 (h:Q {scope:=scope,locals:=s.heap.objs.size,globals:=env.globals,cells:=cellsFrom (s.heap.objs.size+1) scope.names cl,qual:=env.qual,func:=none,code:=env.code,frame:=env.frame,builtins:=env.builtins} {s with heap:=pushCells (s.heap.push {cls:=.type "dict",data:=.dict #[]}) scope.names}):wpAny M A (newFunctionEnv scope env.globals cl [] env.qual none .none (some env)) Q E s:=by simp only[newFunctionEnv,Option.isSome_some,if_true];refine ar (wpAny_alloc ?_);refine ar (wpAny_layCells _ (λname kind cells=>by cases hkc:kind==lx<;>simp[hkc]) _ _ _ _ ?_);rw[show({s with heap:=s.heap.push {cls:=.type "dict",data:=.dict #[]}}:aF).heap.objs.size=s.heap.objs.size+1 from gq ..];rw[wE];exact ar (aV (aV h))
section
variable{ad ad':Str->Addr}
variable{α:Type}
structure nG(C:Fc)(cx:Cx α)(sc:ig):Prop where
 kind:sc.kind=.function
 nd:oU sc.names=true
 lK:∀x,(x,fA)∈sc.names->∃kd,aj x cx.sc=some kd/\xu kd=true
 vm:∀p∈sc.names,cY p.1=true
theorem nG.of(e:MN cx sc=true):nG C cx sc:=by
 have F:∀{c x:Bool},ae c x false=true->c=true/\x=true:=λ{c x} e=>by
  cases c with|true=>exact⟨rfl,e⟩|false=>exact absurd e aL
 obtain⟨e1,e⟩:=F e;obtain⟨e2,e⟩:=F e;obtain⟨e3,e4⟩:=F e;refine⟨of_decide_eq_true e1,e2,λx m=>?_,λp m=>List.all_eq_true.mp e4 p m⟩;have c:opt false (aj x cx.sc) xu=true:=List.all_eq_true.mp e3 _ m;cases z:aj x cx.sc with|none=>rw[z]at c;exact absurd c aL|some kd=>rw[z]at c;exact⟨kd,rfl,c⟩
theorem A9(e:xu kd=true):kd=.cell∨kd=.free:=by cases kd<;>first|exact .inl rfl|exact .inr rfl|exact absurd e aL
def mH(C:Fc)(sc:ig)(L:Addr):Env:=compEnvC sc (cellsFrom (L+1) sc.names (dM C.env.cells sc.names [])) L C.env
def Fc.sR(C:Fc)(ad:Str->Addr)(σ:Sg)(B n D:Addr)(b:Addr):Prop:=C.aJ ad σ b/\b<B∨n<=b/\b≠D
@[reducible] def Fc.cmp (C:Fc) (ad:Str->Addr) (σ:Sg) (sc:ig) (L B n D nx:Addr):Fc:=C.re (mH C sc L) (C.sR ad σ B n D) n nx []
theorem Ba:∀{l:List (Str×bG)},aj x (l.map (ir s))=some k->∃k0,aj x l=some k0/\(k=k0∨(k0=.free/\k=.cell/\aj x s=some .cell)):=by
 intro l
 induction l with
 |nil=>exact λe=>ai e|cons p l ih=>
  intro e;have k1:(ir s p).1=p.1/\((ir s p).2=p.2∨(p.2=.free/\(ir s p).2=.cell/\aj p.1 s=some .cell)):=by
   unfold ir;obtain⟨n,kd⟩:=p;cases kd with
   |free=>
    dsimp only;cases z:aj n s with
    |none=>exact⟨rfl,.inl rfl⟩|some q=>cases q with
     |cell=>exact⟨rfl,.inr ⟨rfl,rfl,rfl⟩⟩|_=>exact⟨rfl,.inl rfl⟩
   |_=>exact⟨rfl,.inl rfl⟩
  have e:ae (aA x (ir s p).1) (some (ir s p).2) (aj x (l.map (ir s)))=some k:=e;rw[k1.1]at e;show ∃k0,ae (aA x p.1) (some p.2) (aj x l)=some k0/\_;cases c:aA x p.1 with|true=>rw[c]at e;refine⟨_,rfl,?_⟩;rw[<-aO e,(cN x p.1).mp c];exact k1.2|false=>rw[c]at e;exact ih e
theorem ac4(F:Fits H C cx)(p:Str×bG):(if(p.2==fA&&C.env.scope.kind== .function&&C.env.kindOf p.1==some .cell)=true then(p.1,lx)else(p.1,p.2))=ir cx.sc p:=by
 unfold ir;obtain⟨n,kd⟩:=p;dsimp only;have ks:(C.env.scope.kind== .function)=true:=by rw[F.ok.kind];rfl
 rw[ks];cases kd with
 |free=>
  cases z:aj n cx.sc with|none=>exact if_neg λq=>ai (z.symm.trans ((F.kind n _).mp (beq_iff_eq.mp q)))|some q=>rw[(F.kind n q).mpr z];cases q<;>rfl
 |_=>rfl
theorem xO(F:Fits H C cx)(x:Str)(kd:bG):(mH C sc L).kindOf x=some kd↔aj x (sc.names.map (ir cx.sc))=some kd:=by rw[<-eN];show(relabel sc C.env).names.lookup x=some kd↔_;rw[show(relabel sc C.env).names=sc.names.map (ir cx.sc)from rH λp J=>ac4 F p]
theorem Oz(F:Fits H C cx)(S:nG C cx sc)(R:Rel C ad σ h)(hL:h.objs.size<=L):Oy sc.names C.env.cells (L+1) (mH C sc L).cells:=ac1 S.nd (λx m=>(S.lK x m).elim λkd z=>F.ok.cell x ((A9 z.2).imp (λe=>(F.kind x _).mpr (z.1.trans (congrArg some e))) λe=>(F.kind x _).mpr (z.1.trans (congrArg some e)))) λx c e=>(R.aN x c e).elim λv i=>i.elim λo g=>rD (fy (bu g.1) hL)
theorem ac5(F:Fits H C cx)(S:nG C cx sc)(R:Rel C ad σ h)(hB:B<=n)(hn:h.objs.size<=n)(hL:n<=L)(hx:n<=nx)(hD:D<nx):a7 H (C.cmp ad σ sc L B n D nx) (sD cx sc.names):=by
 have Z:=Oz F S R (az hn hL);have xd:=R.low F.ok;have old:∀x c,C.env.cells.lookup x=some c->c<h.objs.size:=λx c e=>(R.aN x c e).elim λv i=>i.elim λo g=>bu g.1;have kr:∀{x k},(mH C sc L).kindOf x=some k->∃k0,aj x sc.names=some k0/\(k=k0∨(k0=.free/\k=.cell/\aj x cx.sc=some .cell)):=λ{x k} e=>Ba ((xO F x k).mp e);refine {ok:={kind:=S.kind,glob:=F.ok.glob,blt:=F.ok.blt,g:=F.ok.g,b:=F.ok.b,nolimit:=F.ok.nolimit,kH:=λx c e=>?_,cells:=λx y c e1 e2=>?_,cell:=λx k=>?_,pin:=λx v e=>ai e,new:=λa z=>.inr ⟨az hx z,λq=>absurd (q▸hD) (Nat.not_lt.mpr z)⟩,qk:=λb o e J=>fy (bu e) (az F.ok.size (az xd hn)),oE:=az xd (az hn hx),ql:=hx,size:=F.ok.size},hu:=F.hu,hn:=F.hn,hm:=F.hm,kind:=xO F,name:=λx kd e=>?_,glob:=λx g e=>(F.glob x g e).re,pin:=λx f e=>ai e,sN:=λx f e=>ai e,hO:=λx e=>?_}
 ·exact(Z.mem e).elim (λz q=>absurd z.2 (q▸Nat.not_succ_le_self _)) λz q=>absurd (old x c z.2) (Nat.not_lt.mpr (q▸az hn hL))
 ·rcases Z.mem e1 with z|z
  ·exact Z.inj e1 e2 z.2
  ·rcases Z.mem e2 with z'|z'
   ·exact(Z.inj e2 e1 z'.2).symm
   ·exact F.ok.cells x y c z.2 z'.2
 ·have:∃k,(mH C sc L).kindOf x=some k/\xu k=true:=k.elim (λe=>⟨_,e,rfl⟩) λe=>⟨_,e,rfl⟩
  obtain⟨k,e,c⟩:=this;obtain⟨k0,e0,z⟩:=kr e;have m:=fm e0;rcases z with z|z
  ·rcases A9 c with q|q
   ·exact(Z.own (by rw[<-q,z];exact m)).imp λJ z=>z.1
   ·exact(Z.lK (by rw[<-q,z];exact m)).imp λJ z=>z.1
  ·exact(Z.lK (by rw[<-z.1];exact m)).imp λJ z=>z.1
 ·exact(Ba e).elim λk0 z=>S.vm _ (fm z.1)
 ·have e:=e
  obtain⟨y,my,ey⟩:=List.any_eq_true.mp e;obtain⟨q,mq,eq⟩:=List.mem_map.mp my;have mq:=List.mem_filter.mp mq;rw[(cN x y).mp ey,<-eq];obtain⟨z,kd⟩:=q;have c:=mq.2;have lk:∀{k0:bG},(z,k0)∈sc.names->k0≠ .free->(mH C sc L).kindOf z=some k0:=λ{k0} m nf=>by
   have e0:=nE S.nd m;refine(xO F z k0).mpr ?_;obtain⟨d,ed⟩:=nF (l:=sc.names.map (ir cx.sc)) (List.mem_map.mpr ⟨(z,k0),m,show ir cx.sc (z,k0)=(z,k0)from by cases k0<;>first|rfl|exact absurd rfl nf⟩);obtain⟨k1,e1,w⟩:=Ba ed;have:=aO (e1.symm.trans e0);rcases w with w|w
   ·rw[ed,w,this]
   ·exact absurd (this.symm.trans w.1) nf
  refine⟨?_,rfl⟩;cases kd with|«local»=>exact .inl ⟨lk mq.1 ⋯,hL⟩|cell=>exact .inr ⟨lk mq.1 ⋯,λc e=>(Z.mem e).elim (λz=>az hL (Tf z.2)) λz=>by cases(nE S.nd mq.1).symm.trans (nE S.nd z.1)⟩|_=>exact absurd c aL
end
section
variable{C:Fc}{ad ad':Str->Addr}
variable{α:Type}
theorem ac6:jz a≠ .own xs:=(@AV.casesOn (λa=>jz a≠ .own xs) a (λe=>AV.noConfusion e) (λJ=>λe=>AV.noConfusion e) (λJ=>λe=>AV.noConfusion e) (λJ J=>λe=>AV.noConfusion e) (λJ=>λe=>AV.noConfusion e) (λJ=>λe=>AV.noConfusion e) (λJ=>λe=>AV.noConfusion e) (λJ=>λe=>AV.noConfusion e) (λys=>λe=>AV.noConfusion e) (λJ=>λe=>AV.noConfusion e))
theorem OA{l:List (Str×bG)}:∀{σ:Sg},aj x (iq l σ)=some a->∃a0,aj x σ=some a0/\a=jz a0/\aj x l=some .free:=by
 intro σ
 induction σ with
 |nil=>exact λe=>ai e|cons p σ ih=>
  intro e;have e:aj x (((p::σ).filter (isFree l)).map ML)=some a:=e;show ∃a0,ae (aA x p.1) (some p.2) (aj x σ)=some a0/\_;cases c:isFree l p with
  |true=>
   rw[List.filter_cons_of_pos c]at e;have e:ae (aA x p.1) (some (jz p.2)) (aj x (iq l σ))=some a:=e;cases q:aA x p.1 with
   |false=>rw[q]at e;exact ih e|true=>
    rw[q]at e;refine⟨_,rfl,(aO e).symm,?_⟩;rw[(cN x p.1).mp q];have c:opt false (aj p.1 l) sC=true:=c;cases z:aj p.1 l with|none=>rw[z]at c;exact absurd c aL|some k=>rw[z]at c;cases k<;>first|rfl|exact absurd c aL
  |false=>
   rw[List.filter_cons_of_neg (by rw[c];exact aL)]at e;obtain⟨a0,e1,e2,e3⟩:=ih e;cases q:aA x p.1 with|false=>exact⟨a0,e1,e2,e3⟩|true=>have c:opt false (aj p.1 l) sC=false:=c;rw[<-(cN x p.1).mp q,e3]at c;exact tY c
theorem Fq{l:List (Str×bG)}{ys:List AV}:aj x (iq l σ)≠some (.own ys):=λe=>(OA e).elim λa z=>ac6 z.2.1.symm
theorem sT{l:List (Str×bG)}{b:Addr}:¬dC ad (iq l σ) b:=λq=>q.elim λy q=>q.elim λys q=>Fq q.1
theorem Fs(F:Fits H C cx)(S:nG C cx sc)(R:Rel C ad σ h)(hB:h.objs.size<=B)(hL:h.objs.size<=L)(g:aI h h')(loc:∃m,h'.Ns L m)(aN:∀x c,(mH C sc L).cells.lookup x=some c->∃v,h'.IsCell c v)(sz:nx<=h'.objs.size):Rel (C.cmp ad σ sc L B n D nx) ad (iq sc.names σ) h' where
 base b o nf e:=g.kp b o nf (R.base b o nf e)
 tabs:=g.tb R.tabs
 loc:=loc
 aN:=aN
 sz:=sz
 own x xs e:=absurd e Fq
 inj x y xs ys e:=absurd e Fq
 pin x v e:=ai e
 var x a e:=by
  obtain⟨a0,e1,e2,e3⟩:=OA e;obtain⟨v,wv,r⟩:=R.var x a0 e1;obtain⟨kd,kx,kc⟩:=S.lK x (fm e3);have kx:=(F.kind x kd).mpr kx;obtain⟨c,c1,c2⟩:=(Oz F S R hL).lK (fm e3);obtain⟨k,ek⟩:=nF (l:=sc.names.map (ir cx.sc)) (List.mem_map.mpr ⟨_,fm e3,(Prod.eta _).symm⟩);have kk:(ir cx.sc (x,.free)).1=x:=by
   unfold ir;cases aj x cx.sc with|none=>rfl|some q=>cases q<;>rfl
  rw[kk]at ek;have kq:k=.cell∨k=.free:=by obtain⟨k0,f,z⟩:=Ba ek;rw[e3]at f;exact z.elim (λz=>.inr (z.trans (aO f).symm)) λz=>.inl z.2.1
  refine⟨v,.aN (kq.imp (λ(q:k=.cell)=>q▸(xO F x k).mpr ek) λ(q:k=.free)=>q▸(xO F x k).mpr ek) c c1 ?_,?_⟩
  ·cases wv with|loc k0 _ _ _=>have:=aO (kx.symm.trans k0);rw[this]at kc;exact absurd kc aL|aN _ d ld ed=>rw[aO (c2.symm.trans ld)];exact g.cell ed
  ·have up:∀b o,C.aJ ad σ b->cJ o->h.get? b=some o->(C.cmp ad σ sc L B n D nx).aJ ad (iq sc.names σ) b/\h'.get? b=some o:=λb o k s e=>⟨⟨.inl ⟨k,fy (bu e) hB⟩,sT⟩,g.bX s e⟩
   rw[e2];cases r with
   |val r=>
    have:jz a0=a0:=by revert r;exact(@AV.casesOn (λa0=>VR h (C.aJ ad σ) a0 False v->jz a0=a0) a0 (λJ=>rfl) (λJ=>λJ=>rfl) (λJ=>λJ=>rfl) (λJ J=>λJ=>rfl) (λJ=>λJ=>rfl) (λJ=>λJ=>rfl) (λJ=>λJ=>rfl) (λJ=>λJ=>rfl) (λys=>λr=>r.elim) (λJ=>λJ=>rfl))
    rw[this];exact .val (r.mono up _ gY)|own r=>exact .bU (r.imp (λb vs n p g'=>⟨sT,g.bX (.lst vs n) g'⟩) λJ=>ay.mono up _)|bU r=>exact .bU (r.imp (λb vs n p g'=>⟨sT,g.bX (.lst vs n) g'⟩) λJ=>ay.mono up _)
noncomputable def Fu(env:Env)(c:ab)(r:Bool):Sem (ForInStep Bool):=if r=true then do let ok <-isTrue c env (eval c env);pure (iZ ok)else pure (iZ r)
theorem ac7:∀{es:List ab},Q false s->wpAny (M_ C) A (forIn es false (Fu C.env)) Q aD s:=by
 intro es
 induction es with|nil=>exact λq=>aV q|cons e es ih=>intro q;rw[pF];exact ar (aV (ih q))
theorem ac8(M:m.Ok H)(Y:I.Ok H)(F:Fits H C cx):∀{es:List ab} {h:Heap} {tk:Nat},H (AC m I cx σ es kb)->Rel C ad σ h->uY C h (λb=>H (kb b)) Q->wpAny (M_ C) C.A (forIn es true (Fu C.env)) Q aD (C.st h tk):=by
 intro es
 induction es with
 |nil=>exact λx R q=>aV (q _ _ _ (.refl _) x)|cons e es ih=>
  intro h tk x R q;rw[pF];refine ar (ar (Y.T F x ad h R tk _ λb h₁ bq g x=>aV ?_));cases b with|true=>exact ih ((M.br x).1 rfl) (R.grow g) (q.after g)|false=>exact ac7 (q _ _ _ g ((M.br x).2 rfl))
structure o4(C:Fc)(ad:Str->Addr)(σ:Sg)(h:Heap)(sc:ig)(L B n D nx:Addr)(ys:List AV)(h':Heap):Prop where
 g:aI h h'
 loc:∃m,h'.Ns L m
 aN:∀x c,(mH C sc L).cells.lookup x=some c->∃v,h'.IsCell c v
 sz:nx<=h'.objs.size
 lst:∃vs k,h'.get? D=some (cM vs k)/\ay h' (C.sR ad σ B n D) ys vs
structure Ord(h:Heap)(B n D L nx Z:Addr)(W:Addr->Prop):Prop where
 hB:h.objs.size<=B
 w:∀b,W b->B<=b/\b<Z
 z:Z<=D
 bd:B<=D
 d:D<n
 l:n<=L
 x:n<=nx
theorem Ord.nw(O:Ord h B n D L nx Z W){b:Addr}(k:C.sR ad σ B n D b):¬W b:=λw=>k.elim (λk=>absurd (O.w b w).1 (Nat.not_le.mpr k.2)) λk=>absurd (fy (O.w b w).2 (az O.z (dw O.d))) (Nat.not_lt.mpr k.1)
theorem Ord.nd(O:Ord h B n D L nx Z W){b:Addr}(k:C.sR ad σ B n D b):b≠D:=λq=>k.elim (λk=>absurd O.bd (Nat.not_le.mpr (q▸k.2))) λk=>k.2 q
theorem Ord.wd(O:Ord h B n D L nx Z W):¬W D:=λw=>absurd (O.w D w).2 (Nat.not_lt.mpr O.z)
theorem Ord.ho(O:Ord h B n D L nx Z W){b:Addr}{o:Obj}(e:h.get? b=some o):b<n/\¬W b:=⟨fy (bu e) (az (az O.hB O.bd) (dw O.d)),λw=>absurd (bu e) (Nat.not_lt.mpr (az O.hB (O.w b w).1))⟩
theorem o4.step(O:Ord h B n D L nx Z W)(c:o4 C ad σ h sc L B n D nx ys h₁)(z:h₁.objs.size<=av.objs.size)(k:∀b o,NF b o->(hH o->b<n)->¬W b->h₁.get? b=some o->av.get? b=some o)(R:Rel (C.cmp ad σ sc L B n D nx) ad' σ' av):o4 C ad σ h sc L B n D nx ys av:=
 ⟨⟨az c.g.sz z,λb o f e=>k b o f (λJ=>(O.ho e).1) (O.ho e).2 (c.g.kp b o f e),λJ=>R.tabs⟩,R.loc,R.aN,R.sz,c.lst.elim λvs y=>y.elim λi y=>⟨vs,i,k D _ (NF.bX (.lst vs i)) (λq=>absurd q aL) O.wd y.1,y.2.mono (λb o q s e=>⟨q,k b o (NF.bX s) (λq=>absurd (s.nm.symm.trans q) aL) (O.nw q) e⟩) _⟩⟩
end
section
variable{ad ad':Str->Addr}
variable{α:Type}{m:Md α}{kl:List AV->α}
theorem aI.new(g:aI h h₁)(hs:lX D h₁ av)(z:h.objs.size<=D)(n:∀o vs,h₁.get? D=some o->o.data≠ .fields vs):aI h av:=
 have fk:∀b o vs,o.data=.fields vs->h₁.get? b=some o->av.get? b=some o:=λb o vs d e=>(hs.2 b λq=>n o vs (q▸e) d).trans e
 ⟨az g.sz (i7 hs.1.symm),λb o f e=>(hs.2 b λq=>absurd (bu e) (Nat.not_lt.mpr (q▸z))).trans (g.kp b o f e),λt=>⟨(g.tb t).one.bZ fk,(g.tb t).two.bZ fk⟩⟩
theorem o4.app(O:Ord h B n D L nx Z W)(c:o4 C ad σ h sc L B n D nx ys h₁)(hl:h₁.get? D=some (cM vs tk))(rv:ay h₁ (C.sR ad σ B n D) ys vs)(hs:lX D h₁ av)(hl':av.get? D=some (cM (vs++[v]) k'))(r:VR h₁ ((C.cmp ad σ sc L B n D nx).aJ ad' σ') a False v):o4 C ad σ h sc L B n D nx (ys++[a]) av:=
 have up:∀b o,C.sR ad σ B n D b->cJ o->h₁.get? b=some o->C.sR ad σ B n D b/\av.get? b=some o:=λb o k J e=>⟨k,(hs.2 b (O.nd k)).trans e⟩
 ⟨c.g.new hs (az O.hB O.bd) λo vs e=>by rw[hl]at e;cases e;exact iJ,
  c.loc.imp λm k=>k.sameBut hs λq=>k.elim λo k=>k.elim λes k=>k.elim λep k=>by rw[q,hl]at k;exact iJ ((congrArg Obj.data (aO k.1)).trans k.2.1),
  λx d e=>(c.aN x d e).imp λu i=>vd hs (λq=>i.elim λo k=>by rw[q,hl]at k;exact iJ ((congrArg Obj.data (aO k.1)).trans k.2)) i,
  az c.sz (i7 hs.1.symm),_,_,hl',(rv.mono up _).snoc (r.mono (λb o k s e=>up b o k.1 s e) a gY)⟩
noncomputable def ada(C:Fc)(A:m7)(env:Env)(elt tg:ab)(ifs:List ab)(it acc:aa)(N:aF->Prop)(Y:aF->Prop):Option aa->aF->Prop|none,s=>N s|some v,s=>wpAny (M_ C) A (letOwnedTupleGo tg it v) (λJ s=>wpAny (M_ C) A (wO tg env v) (λJ s=>wpAny (M_ C) A (forIn ifs true (Fu env)) (λok s=>if ok=true then wpAny (M_ C) A (eval elt env) (λx s=>wpAny (M_ C) A (kA (.builtin "list.append") [acc,x]) (λJ=>Y) aD s) aD s else Y s) aD s) aD s) aD s
theorem OB(t:wpAny (M_ C) A (pyNext it) (ada C A env elt tg ifs it acc (R (.ok .next)) (codeAny (M_ C) A (.compLoop (.ListComp elt [⟨tg,iter,ifs,0⟩] sc p) 0 it acc env) R)) aD s):codeAny (M_ C) A (.compLoop (.ListComp elt [⟨tg,iter,ifs,0⟩] sc p) 0 it acc env) R s:=by
 refine codeAny_of_tree ?_;refine wpAny_noted ?_;rw[compTurn_list];refine ar (pO (ar (kE t (λr s₁ k=>?_) λJ J q=>q.elim)));cases r with
 |none=>exact aV k|some v=>
  refine ar (kE k (λJ s k=>ar (kE k (λJ s k=>ar (kE k (λok s k=>?_) λJ J q=>q.elim)) λJ J q=>q.elim)) λJ J q=>q.elim);cases ok with|false=>exact aV ⟨rfl,k⟩|true=>exact ar (ar (kE k (λx s k=>ar (kE k (λJ s k=>aV (aV ⟨rfl,k⟩)) λJ J q=>q.elim)) λJ J q=>q.elim))
theorem adb(M:m.Ok H)(Y:I.iw H)(F:Fits H C cx)(S:nG C cx sc)(R:Rel C ad σ h)(O:Ord h B n D L nx Z W)(F':a7 H (C.cmp ad σ sc L B n D nx) (sD cx sc.names))(fin:∀zs h' ak,o4 C ad σ h sc L B n D nx zs h'->H (kl zs)->RR (.ok .next) (C.st h' ak)):∀(xs:List AV) {ys:List AV} {h₀ h₁:Heap} {tk:Nat} {k:List AV->α},vf (C.cmp ad σ sc L B n D nx) tg Z W it xs ad (iq sc.names σ) h₀->qC (C.cmp ad σ sc L B n D nx) Z ad (iq sc.names σ) h₀ ad (iq sc.names σ) h₁->o4 C ad σ h sc L B n D nx ys h₁->ys.length+xs.length<=100000->(∀as,H (k as)->H (kl (ys++as)))->H (AK m I (sD cx sc.names) ⟨tg,iter,ifs,0⟩ elt (iq sc.names σ) xs k)-> codeAny (M_ C) C.A (.compLoop (.ListComp elt [⟨tg,iter,ifs,0⟩] sc p) 0 it (.ref D) (mH C sc L)) RR (C.st h₁ tk):=by
 intro xs
 induction xs with
 |nil=>intro ys h₀ h₁ tk k It K c _ hk x;have eK:=Fs F S R O.hB (az (az O.hB O.bd) (az (dw O.d) O.l)) c.g c.loc c.aN c.sz (B:=B) (n:=n) (D:=D);refine OB (It ad _ h₁ tk _ K eK λav bI T=>fin ys av bI (c.step O T.sz (λb o J J w e=>T.kp b o w e) T.rel) ?_);have:=hk [] x;rwa[m5]at this|cons a xs ih=>
  intro ys h₀ h₁ tk k It K c hz hk x;have eK:=Fs F S R O.hB (az (az O.hB O.bd) (az (dw O.d) O.l)) c.g c.loc c.aN c.sz (B:=B) (n:=n) (D:=D);refine OB (It ad _ h₁ tk _ K eK λv h' ak go=>go _ λav T rv Bb=>NG M F' T.rel rv x λFv ade cF kL s jh z=>ac8 M Y.toOk F'.toFits z jh λok j2 oV mz z=>?_);have c₂:=c.step O T.sz (λb o J J w e=>T.kp b o w e) T.rel
  have OD:=(c₂.step O s.sz (λb o f nm J e=>by
   cases q:ik o.data with|true=>exact s.nk b o q (.inl (nm q)) e|false=>exact s.kp b o ⟨f,q⟩ sT e) jh).step O mz.sz (λb o f J J e=>mz.kp b o f e) (jh.grow mz)
  have OG:∀b o,qy b o->av.get? b=some o->j2.get? b=some o:=λb o p e=>mz.kp b o p.1 (s.kp b o p sT e);cases ok with
  |false=>exact ih Bb ⟨az s.sz mz.sz,λb o p J J e=>OG b o p e,λb=>.inl⟩ OD (az (wK (jt _) _) hz) hk ((M.br z).2 rfl)|true=>
   refine fW Y.toOk F'.toFits ((M.br z).1 rfl) Fv j2 (jh.grow mz) oV _ λu jf amu b xP rb z=>(Fl.bz M.fail z).elim λfb z=>?_;have OH:=OD.step O xP.sz (λb o f J J e=>xP.kp b o f e) ((jh.grow mz).grow xP);obtain⟨vs,i,gl,rl⟩:=OH.lst;refine wpAny_list_append_plain (items:=vs.toArray) ⟨i,gl⟩ (λamv hl hs=>?_) ?_
   ·obtain⟨j,hl⟩:=hl
    rw[Ta]at hl;exact ih Bb ⟨az (az s.sz mz.sz) (az xP.sz (i7 hs.1.symm)),λb o p J q e=>(hs.2 b (q.elim (λq=>fG (fy q O.z)) O.nd)).trans (xP.kp b o p.1 (OG b o p e)),λb=>.inl⟩ (OH.app O gl rl hs hl (sK fb rb))
     (by rw[dG,nV,iG [b].length];exact hz) (λas y=>by rw[i4];exact hk _ y) z
   ·rw[dF,rl.length]
    exact az (az (lY _ _) hz) (show(100000:Nat)<=16777216 from ⋯)
end
section
variable{ad ad':Str->Addr}{h h' h₀ h₁ av cF:Heap}
variable{α:Type}{m:Md α}{H:α->Prop}{kl:List AV->α}
theorem adf:∀{names:List (Str×bG)} {h:Heap},aI h (pushCells h names):=by
 intro names
 induction names with
 |nil=>exact λ{h}=>.refl h|cons q r ih=>
  intro h;unfold pushCells;cases q.2==lx with|true=>exact(aI.push _ _).trans ih|false=>exact ih
structure Made(C:Fc)(ad:Str->Addr)(σ:Sg)(h:Heap)(L D:Addr)(ys:List AV)(h':Heap):Prop where
 g:aI h h'
 z:h.objs.size<=L
 loc:∃m,h'.Ns L m
 res:∃vs k,h'.get? D=some (cM vs k)/\h.objs.size<=D/\ay h' (λb=>C.aJ ad σ b/\b≠D) ys vs
theorem Made.val(k:Made C ad σ h L D ys h'):Res C ad σ h h' (.own ys) (.ref D):=k.res.elim λvs z=>z.elim λi z=>.new z.1 z.2.1 z.2.2
theorem Fw{m:Str->Option aa}{b:Addr}{o:Obj}(n:h.Ns L m)(e:h.get? b=some o)(k:qy b o∨∃u,o.data=.cell u):b≠L:=λq=>n.elim λo' n=>n.elim λes n=>n.elim λep n=>by
 subst q;have e1:=aO (e.symm.trans n.1);subst e1;rcases k with k|k
 ·have:=k.2;rw[n.2.1]at this;exact tY this
 ·exact k.elim λu k=>iJ (n.2.1.symm.trans k)
theorem Made.go(k:Made C ad σ h L D ys h')(hs:lX L h' h₁):aI h h₁/\Res C ad σ h h₁ (.own ys) (.ref D):=k.loc.elim λm n=>
 have nl:∀b o',cJ o'->h'.get? b=some o'->h₁.get? b=some o':=λb o' s e=>(hs.2 b (Fw n e (.inl s.mC))).trans e
 ⟨k.g.new hs k.z λo' vs e d=>n.elim λo n=>n.elim λes n=>n.elim λep n=>by rw[n.1]at e;cases e;exact iJ (n.2.1.symm.trans d),k.res.elim λvs z=>z.elim λi z=>.new (nl D _ (.lst vs i) z.1) z.2.1 (z.2.2.mono (λb o' q s e=>⟨q,nl b o' s e⟩) _)⟩
theorem Rel.but(O:C.Ok)(R:Rel C ad' σ' h'){m:Str->Option aa}(n:h'.Ns L m)(hs:lX L h' h₁)(ne:L≠C.env.locals)(lo:C.lo<=L):Rel C ad' σ' h₁:=
 have kp:∀b o,qy b o->h'.get? b=some o->h₁.get? b=some o:=λb o p e=>(hs.2 b (Fw n e (.inl p))).trans e;have kn:∀m,h'.Ns C.env.locals m->h₁.Ns C.env.locals m:=λm k=>k.sameBut hs ne.symm;have kc:∀c u,h'.IsCell c u->h₁.IsCell c u:=λc u i=>vd hs (i.elim λo k=>Fw n k.1 (.inr ⟨_,k.2⟩)) i
 have fk:∀b o vs,o.data=.fields vs->h'.get? b=some o->h₁.get? b=some o:=λb o vs d e=>(hs.2 b λq=>n.elim λo' n=>n.elim λes n=>n.elim λep n=>by
  subst q;have e1:=aO (e.symm.trans n.1);subst e1
  exact iJ (n.2.1.symm.trans d)).trans e
 ⟨λb o nf e=>(hs.2 b λq=>absurd (fy (bu e) (az O.size lo)) (q▸rE _)).trans (R.base b o nf e),⟨R.tabs.one.bZ fk,R.tabs.two.bZ fk⟩,
  λx a e=>(R.var x a e).imp λv r=>⟨r.1.imp kn λc u J=>kc c u,r.2.mono (λb o k s e=>⟨k,kp b o s.mC e⟩) λJ b o J k s e=>⟨k,kp b o s.mC e⟩⟩,
  R.loc.imp λm=>kn m,λx c l=>(R.aN x c l).imp λv=>kc c _,R.own,R.inj,az R.sz (i7 hs.1.symm),λx v e=>(R.pin x v e).imp kn λc u J=>kc c u⟩
theorem bN.but(s:bN C ad σ h ad' σ' h'){m:Str->Option aa}(n:h'.Ns L m)(hs:lX L h' h₁)(z:h.objs.size<=L):bN C ad σ h ad' σ' h₁:=
 have ne:∀{b o},h.get? b=some o->b≠L:=λ{b o} e q=>absurd (bu e) (Nat.not_lt.mpr (q▸z))
 ⟨az s.sz (i7 hs.1.symm),λb o p k e=>(hs.2 b (ne e)).trans (s.kp b o p k e),λb o k l e=>(hs.2 b (ne e)).trans (s.nk b o k l e),s.mt⟩
theorem adg(M:m.Ok H)(Y:I.iw H)(F:Fits H C cx)(S:nG C cx sc)(R:Rel C ad σ h)(g:aI h av){elt tg iter:ab}{ifs:List ab}{it:aa}(hs:iQ C ad σ h tg true av it xs)(hx:xs.length<=100000)(x:H (AK m I (sD cx sc.names) ⟨tg,iter,ifs,0⟩ elt (iq sc.names σ) xs kl)){RR:aa->Addr->Result->aF->Prop}(fin:∀L D zs h' ak,Made C ad σ h L D zs h'->H (kl zs)->RR (.ref D) L (.ok .next) (C.st h' ak)):wpAny (M_ C) C.A (newList []) (λacc xQ=>wpAny (M_ C) C.A (newFunctionEnv sc C.env.globals (dM C.env.cells sc.names []) [] C.env.qual none .none (some C.env)) (λOI vn=>codeAny (M_ C) C.A (.compStart (.ListComp elt [⟨tg,iter,ifs,0⟩] sc p) 0 it acc {OI with scope:=relabel sc C.env}) (RR acc OI.locals) vn) aD xQ) aD (C.st av tk):=by
 refine wpAny_newList (ac2 ?_);generalize e1:av.push {cls:=.type "list",data:=.seq ([]:List aa).toArray}=h3;have z3:h3.objs.size=av.objs.size+1:=e1▸gq ..;have g3:aI av h3:=e1▸ .push _ _;have l3:h3.get? av.objs.size=some (cM [] 0):=e1▸cU _ rfl;have g4:aI h3 (pushCells (h3.push {cls:=.type "dict",data:=.dict #[]}) sc.names):=(aI.push _ _).trans adf;have n4:(pushCells (h3.push {cls:=.type "dict",data:=.dict #[]}) sc.names).Ns h3.objs.size (λJ=>none):=(Heap.Ns.new h3 (.type "dict")).keeps (pushCells_keeps _ _);have c4:∀{x c},(x,c)∈cellsFrom (h3.objs.size+1) sc.names (dM C.env.cells sc.names [])->(x,c)∈dM C.env.cells sc.names []∨(pushCells (h3.push {cls:=.type "dict",data:=.dict #[]}) sc.names).IsCell c none:=λm=>acZ (by rw[gq];exact m);have k4:oB av (pushCells (h3.push {cls:=.type "dict",data:=.dict #[]}) sc.names):=λb o e=>pushCells_keeps _ _ b o (b7 _ (e1▸b7 _ e));generalize e4:pushCells (h3.push {cls:=.type "dict",data:=.dict #[]}) sc.names=h4 at g4 n4 c4 k4;have z4:h3.objs.size<h4.objs.size:=n4.elim λo n=>n.elim λJ n=>n.elim λJ n=>bu n.1;show codeAny _ _ (.compStart _ 0 _ _ (mH C sc h3.objs.size)) (RR (.ref av.objs.size) h3.objs.size) (C.st h4 tk);obtain⟨B,W,hb,hw,hs⟩:=hs;have O:Ord h (Nat.min B av.objs.size) h3.objs.size av.objs.size h3.objs.size h4.objs.size av.objs.size W:=⟨Nat.le_min.mpr ⟨hb,g.sz⟩,λb w=>⟨az (IH _ _) (hw b w).1,(hw b w).2⟩,aQ _,Nat.min_le_right _ _,by rw[z3];exact pN _,aQ _,dw z4⟩
 have g':=g.trans (g3.trans g4);have hL:=az g.sz g3.sz
 have aN:∀x c,(mH C sc h3.objs.size).cells.lookup x=some c->∃v,h4.IsCell c v:=λx c e=>(c4 (ng e)).elim (λm=>(A8 m).elim (λm=>absurd m fc) λm=>by
  obtain⟨kd,k1,k2⟩:=S.lK x m.1;obtain⟨d,ed⟩:=F.ok.cell x ((A9 k2).imp (λe=>(F.kind x _).mpr (k1.trans (congrArg some e))) λe=>(F.kind x _).mpr (k1.trans (congrArg some e)));rw[m.2,ed]
  exact(R.aN x d ed).imp λv=>g'.cell) λi=>⟨_,i⟩
 have c:o4 C ad σ h sc h3.objs.size (Nat.min B av.objs.size) h3.objs.size av.objs.size h4.objs.size [] h4:=⟨g',⟨_,n4⟩,aN,aQ _,[],0,g4.bX (.lst [] 0) l3,rfl⟩
 have F':=ac5 F S R (az O.bd (dw O.d)) hL (aQ _) (dw z4) (jU O.d z4);have R':=Fs F S R O.hB hL c.g c.loc c.aN c.sz (n:=h3.objs.size) (D:=av.objs.size);obtain⟨It,self⟩:=hs _ _ _ _ _ ad (iq sc.names σ) h4 F'.ok k4 (λb k l1 l2=>⟨.inl ⟨k,Nat.lt_min.mpr ⟨l1,l2⟩⟩,sT⟩) (λJ J J=>sT) (λJ b w k=>O.nw k w) R';have loop:=adb (p:=p) M Y F S R O F' (RR:=RR (.ref av.objs.size) h3.objs.size) (λzs h' ak c z=>fin _ _ zs h' ak ⟨c.g,hL,c.loc,c.lst.imp λvs y=>y.imp λi y=>⟨y.1,g.sz,y.2.mono (λb o k s e=>⟨⟨k.elim (λk=>k.1) λk=>R.fresh F.ok (az hL k.1),O.nd k⟩,e⟩) _⟩⟩ z) xs (tk:=tk) It (bN.refl).E3 c (by rw[wF,iY];exact hx) (λas z=>z) x;exact codeAny_compStart_list loop (kE (self tk _ loop) (λJ J q=>q) λJ J q=>q.elim)
end
section
variable{ad ad':Str->Addr}
variable{α:Type}{m:Md α}{H:α->Prop}{kl:List AV->α}
theorem OJ{x:aa}{env:Env}:MJ e=true->foldedSetIterable e env x=pure x:=(by induction e using cv with|Set J J J=>exact λn=>absurd n aL|_=>exact λJ=>rfl)
theorem adh(S:nG C cx sc):∀x∈sc.names,x.2=NameKind.local->sc.names.lookup x.1=some .local:=λx m e=>by rw[eN];exact e▸nE S.nd m
theorem adi(F:Fits H C cx)(S:nG C cx sc):∀n,(n,fA)∈sc.names->(C.env.cells.lookup n).isSome=true:=λn q=>by obtain⟨kd,k1,k2⟩:=S.lK n q;obtain⟨d,ed⟩:=F.ok.cell n ((A9 k2).imp (λe=>(F.kind n _).mpr (k1.trans (congrArg some e))) λe=>(F.kind n _).mpr (k1.trans (congrArg some e)));rw[ed];rfl
theorem OK(M:m.Ok H)(Y:I.iw H)(F:Fits H C cx)(R:Rel C ad σ h){elt:ab}{gs:List t9}(x:H (AL m I cx σ elt gs sc kl)){use:Option (aa->Sem Unit)}{Q:aa->aF->Prop}(fin:∀L D zs h' ak,Made C ad σ h L D zs h'->H (kl zs)->compPost (M_ C) C.A aD use Q (.ref D) L (.ok .next) (C.st h' ak)):wpAny (M_ C) C.A (comprehension (.ListComp elt gs sc p) sc C.env (firstIterPos gs p) (newList []) (firstAsync gs) (firstIter gs C.env) use) Q aD (C.st h tk):=by
 cases gs with
 |nil=>exact absurd x M.fail|cons g r=>
  cases r with|cons _ _=>exact absurd x M.fail|nil=>obtain⟨tg,iter,ifs,isa⟩:=g;obtain⟨ea,x⟩:=Fl.bz M.fail x;obtain⟨_,x⟩:=Fl.bz M.fail x;obtain⟨es,x⟩:=Fl.bz M.fail x;have ea:=of_decide_eq_true ea;subst ea;have S:=nG.of (C:=C) es;have ns:=(Fl.bz M.fail x).1;exact wpAny_comprehension_free (use:=use) rfl (λx=>OJ ns) (Ov (adi F S)) S.kind (adh S) (Ou M Y.toOk F x R λit av bI xs g hs x=>(M.gd x).elim λhx x=>adg (RR:=λacc Cd r s'=>compPost (M_ C) C.A aD use Q acc Cd r s') M Y F S R g hs hx x fin)
theorem adj(M:m.Ok H)(Y:I.iw H)(F:Fits H C cx)(x:H (AL m I cx σ elt gs sc (Ex k))):Er C σ (.ListComp elt gs sc p) (Hk H k):=λad h R tk Q q=>by rw[eval_ListComp];exact OK M Y F R (use:=none) x λL D zs h' ak d z=>d.loc.elim λm n=>⟨m,n,λcX s=>q _ cX ak _ (d.go s).1 (d.go s).2 z⟩
theorem adk(M:m.Ok H)(Y:I.iw H)(F:Fits H C cx)(x:H (AL m I cx σ elt gs sc (Ex k))):Cu C σ (.ListComp elt gs sc p) elt gs sc (Hk H k):=λad h R use tk Q q=>
 OK M Y F R (use:=some use) x λL D zs h' ak d z=>d.loc.elim λm n=>q _ h' ak _ L m d.g d.val z d.z n
theorem adl(M:m.Ok H)(Y:I.iw H)(F:a7 H C cx)(x:H (ED m I cx σ t e ks)):X1 C σ (.Assign [t] e p) (fJ H ks) Kr:=by
 cases nc:xE e with
 |true=>exact abG M Y.toOk F nc x|false=>
  refine aW M.fail x λy ey x=>(j3 ey).elim λpy et=>et▸λad h R tk Q q=>?_;obtain⟨elt,gs,sc,pe,ee,cu⟩:=Y.X F.toFits x nc;obtain⟨b,eb⟩:∃b,swapsWith e (some (.Name y py)) p.line C.env=pure b:=by rw[ee];exact⟨_,rfl⟩
  cases b with
  |false=>exact wpAny_Assign_Name (Y.E F.toFits x ad h R.fX tk _ λv h₁ bq a g r x=>EW M F R.fX g r x λa z i tk J s=>q.n a z i tk s.fX) eb|true=>
   rw[exec_Assign_Name_used _ _ _ _ eb,ee];refine ar (pO (ar ?_));refine ar (kE ((ee▸cu) ad h R.fX (wO (PySem.Expr.Name y py) C.env) tk (λJ s=>Q .next s) λv h₁ bq a L m g r x hz n=>wpAny_assign_Name (EW M F R.fX g r x λad' σ' av bI kk s R' z=>?_)) (λJ J q=>aV (aV q)) λJ J q=>q);have ne:L≠C.env.locals:=λw=>R.loc.elim λm' n'=>n'.elim λo n'=>n'.elim λJ n'=>n'.elim λJ n'=>absurd (bu n'.1) (Nat.not_lt.mpr (w▸hz));have Fx:av.Ns L m:=n.elim λo n=>n.elim λes n=>n.elim λep n=>⟨o,es,ep,kk L o (show ik o.data=true by rw[n.2.1];rfl) (.inr ⟨ne,λu q=>iJ (n.2.1.symm.trans q)⟩) n.1,n.2⟩
   exact⟨m,Fx,λcF hs=>q.n.fX ad' σ' cF bI (s.but Fx hs hz) (R'.but F.ok Fx hs ne (az (R.low F.ok) hz)) z⟩
end
section
variable{ad ad':Str->Addr}
variable{α:Type}
theorem adn{l:List aa}{i d:Int}{ok:Addr->Prop}:∀{n:Nat},(∀j,j<n->∃t,l[j]?=some (.int (i+j*d) t))->ay h ok (dJ i n d) (l.take n):=by
 intro n
 induction n with|zero=>exact λJ=>rfl|succ n ih=>intro q;obtain⟨t,et⟩:=q n (pN n);rw[List.take_add_one,et,show dJ i (n+1) d=dJ i n d++[.int (i+d*n)]by unfold dJ;rw[I9,nW];rfl];exact(ih λj l=>q j (rD l)).snoc (by rw[ie];exact⟨t⟩)
theorem ado(M:m.Ok H)(hh:C.A.handled=none){i j d:Int}{t u v:Tok}(x:H (u5 m (MQ m k) i j d)){Q:aa->aF->Prop}(q:mr C ad σ h (Hk H k) Q):wpAny (M_ C) C.A (kA (.type "list") [.ref h.objs.size]) Q aD (C.st (h.push {cls:=.type "range",data:=.fields #[.int i t,.int j u,.int d v]}) tk):=(M.gd x).elim λg x=>(M.gd x).elim λz x=>
 jY (call_list_range (n:=(iH i j d).toNat) hh (IsRange.new ..) g.1 (rz g.2.1).symm (by
   unfold dJ at z;rw[bB,gH]at z
   exact az z ⋯) λh' tk acc c hk hD hI cO=>q _ h' tk _ ((aI.push _ _).trans (.of cO hk)) (.new (l:=(h.push {cls:=.type "range",data:=.fields #[.int i t,.int j u,.int d v]}).objs.size) (vs:=acc.toList) (n:=c) (by rw[hD];unfold cM;rw[Array.toArray_toList]) (by rw[gq];exact jt _) (by
   have e:acc.toList.length=(iH i j d).toNat:=by rw[lW];exact hI.1
   rw[<-I0 (l:=acc.toList),e];exact adn λj hj=>by
    have hj:j<acc.toList.length:=by rw[e];exact hj
    obtain⟨t,et⟩:=hI.2 j _ (show acc[j]?=some acc.toList[j]by rw[<-Array.getElem?_toList];exact rG hj)
    exact⟨t,by rw[rG hj,et]⟩)) x)
theorem adp(M:m.Ok H)(Y:I.Ok H)(F:Fits H C cx)(n:noStar es=true)(R:Rel C ad σ h)(x:H (MR m I cx σ es k))(q:mr C ad σ h (Hk H k) Q):wpAny (M_ C) C.A (callWith p (.type "list") [] (backTo p (starEach es C.env)) []) Q aD (C.st h tk):=by
 cases es with
 |nil=>exact absurd x M.fail|cons e es=>cases es with
  |cons _ _=>exact absurd x M.fail|nil=>
   refine(Fl.bz M.fail x).elim λhn x=>aW M.fail x λc ec x=>aW M.fail x λy ey x=>xw M F x λg ek o x=>?_;cases o with
   |@bi b e1 e2=>
    cases b with
    |range=>obtain⟨fw,x1⟩:=Fl.bz M.fail x;obtain⟨p1,ee⟩:=Ot ec;obtain⟨np,en⟩:=j3 ey;have n1:=(sF fw).1;refine alK (fT n).1 (mB (fT n).1 ?_);rw[(vc n).1];refine uc ?_;rw[ee,en];exact C8 (F.bv ek e1 e2 R (EJ .range (fT n1).1 (mB (fT n1).1 (mA Y F c.2 n1 x1 ad h R tk _ λvs h₁ bq as g r x=>NW M r x λi j d t u v ak x=>spliced_nil (ado M (F.hn hn) x (q.after g))))))
    |_=>exact absurd x M.fail
   |_=>exact absurd x M.fail
theorem adq(M:m.Ok H)(Y:I.Ok H)(F:Fits H C cx)(x:H (MT m I cx σ p.line f es k)):Er C σ (.Call f es [] p) (Hk H k):=(Fl.bz M.fail x).elim λfw x=>dD x
 (λx=>aW M.fail x λq eq x=>(Np eq).elim λap z=>by rw[z.1];exact aaZ M Y F z.2.1 z.2.2 fw x)
 λy ey x=>(j3 ey).elim λnp en=>by
  rw[en];intro ad h R tk Q q;have n:=(sF fw).1;refine C8 ?_;refine dD x (λx=>xw M F x λg ek o x=>?_) λg eg x=>?_
  ·cases o with
   |fn e1 o=>exact F.gv ek e1 R (Nm M Y F n R o x q)|@bi b e1 e2=>
    refine F.bv ek e1 e2 R ?_;cases b with|isinstance=>exact abi M Y F n R x q|list=>exact adp M Y F n R x q|_=>exact aaY M Y F n R x q
   |_=>exact absurd x M.fail
  ·obtain⟨fa,ef,o⟩:=F.pin y g eg
   exact ub (oG F.ok (R.pin y _ ef) (cY.c (F.ok.pin y _ ef)) (Nm M Y F n R o x q)) (cY.d (F.ok.pin y _ ef))
end
section
variable{α:Type}
theorem ads(M:m.Ok H)(Y:I.iw H)(F:Fits H C cx)(x:H (Ey m I cx σ e k)):Er C σ e (Hk H k):=by
 cases e with
 |Name y p=>exact aaI M F x|Constant c kk p=>exact aaJ M x|BinOp l op r p=>exact aaK M Y.toOk F x|UnaryOp op e p=>exact aaL M Y.toOk F x|Compare l ops es p=>exact aaM M Y.toOk F x|BoolOp op es p=>cases op with
  |And=>exact Nj M Y.toOk F es x|Or=>exact absurd x M.fail
 |IfExp c l r p=>exact aaS M Y.toOk F x|Tuple es kk p=>exact aaV M Y.toOk F x|List es p=>exact aaW M Y.toOk F x|ListComp elt gs sc p=>exact adj M Y F x|Subscript l r p=>exact abg M Y.toOk F x|Call f as ks p=>cases ks with
  |nil=>exact adq M Y.toOk F x|cons _ _=>exact absurd x M.fail
 |_=>exact absurd x M.fail
theorem adt(M:m.Ok H)(Y:I.iw H)(F:Fits H C cx)(x:H (Ey m I cx σ e k))(n:xE e=false):∃elt gs sc p,e=.ListComp elt gs sc p/\Cu C σ e elt gs sc (Hk H k):=by
 cases e with|ListComp elt gs sc p=>exact⟨elt,gs,sc,p,rfl,adk M Y F x⟩|SetComp _ _ _ _=>exact absurd x M.fail|DictComp _ _ _ _ _=>exact absurd x M.fail|_=>exact absurd n.symm aL
theorem OL(M:m.Ok H)(Y:I.Ok H)(F:Fits H C cx)(i:isTrue e C.env (eval e C.env)=(do let v <-eval e C.env;standAt e.pos;holding [v] (truthy v)))(x:H (eI m I cx σ e kb)):Te C σ e λb=>H (kb b):=λad h R tk Q q=>by rw[i];exact ar (fW Y F x ad h R tk _ λv h' ak a g r x=>ar (pO (kD (L2 M r x ak Q (q.after g)))))
theorem adu(M:m.Ok H)(Y:I.iw H)(F:Fits H C cx)(x:H (stepT m I cx σ e kb)):Te C σ e λb=>H (kb b):=by
 cases e with
 |UnaryOp op e p=>cases op with
  |Not=>exact λad h R tk Q q=>ar (Y.T F x ad h R tk _ λb h' ak g x=>aV (q _ _ _ g (oP b▸x)))|_=>exact OL M Y.toOk F rfl x
 |Compare l ops es p=>exact aaQ M Y.toOk F x|BoolOp op es p=>exact aaR M Y.toOk F x|IfExp _ _ _ _=>exact absurd x M.fail|_=>exact OL M Y.toOk F rfl x
end
section
variable{ad ad' vo:Str->Addr}
variable{α:Type}{m:Md α}{H:α->Prop}{cx:Cx α}{I:It α}{e l r t f c it:ab}{es:List ab}{p:Pos}{k:AV->α}{kb:Bool->α}{ks:Sg->α}{bs os ss:List Stmt}
theorem bN.turn(s:bN C vo xR h₀ ad σ h)(T:AZ C W ad σ h h')(hw:∀b,W b->h₀.objs.size<=b):bN C vo xR h₀ ad σ h':=
 have nw:∀{b o},h₀.get? b=some o->¬W b:=λ{b o} e w=>absurd (bu e) (Nat.not_lt.mpr (hw b w))
 ⟨az s.sz T.sz,λb o p k e=>T.kp b o (nw e) (s.kp b o p k e),λb o n k e=>T.kp b o (nw e) (s.nk b o n k e),s.mt⟩
theorem j6{β:Type}{A:m7}{t:Sem β}{Q:β->aF->Prop}{E:aa->aF->Prop}{s:aF}(k:wpAny (M_ C) A t Q aD s):wpAny (M_ C) A t Q E s:=kE k (λJ J q=>q) λJ J q=>q.elim
def OM(C:Fc)(Q:Flow->aF->Prop)(r:Result)(s':aF):Prop:=match r with|.ok f=>Q f s'|.error e=>cameBackBy (M_ C) C.A C.env aD e s'
structure Fo(C:Fc)(H:α->Prop)(cx:Cx α)(t:ab)(Z:Addr)(W:Addr->Prop)(it:aa)(mI:Str->Addr)(mJ:Sg)(hS:Heap)(K:List AV->Sg->Prop)(n:Nat)(s:aF):Prop where
 ex:∃xs vo xR h₀ ad σ h tk,n=List.length xs/\s=C.st h tk/\vf C t Z W it xs vo xR h₀/\bN C vo xR h₀ ad σ h/\bN C mI mJ hS ad σ h/\Rel C ad σ h/\K xs σ
theorem adv(M:m.Ok H)(Y:I.iw H)(F:a7 H C cx){mI:Str->Addr}{mJ:Sg}{hS:Heap}{it:aa}(hw:∀b,W b->hS.objs.size<=b){Q:Flow->aF->Prop}(q:lI C mI mJ hS (fJ H ks) (Hk H kr) Q){s:aF}{n:Nat}(j:Fo C H cx t Z W it mI mJ hS (λxs σ=>H (forL m I cx t bs kr xs σ ks)) n s):codeAny (M_ C) C.A (.forLoop t it bs [] C.env) (OM C Q) s:=by
 refine codeAny_forLoop_any (Fo C H cx t Z W it mI mJ hS λxs σ=>H (forL m I cx t bs kr xs σ ks)) (λn s j=>?_) n j;obtain⟨xs,vo,xR,h₀,ad,σ,h,tk,en,es,It,jg,sS,R,x⟩:=j.ex;subst en;subst es;cases xs with|nil=>exact j6 (It ad σ h tk _ jg.E3 R λav bI T=>j6 (Db (q.n ad σ av bI (sS.turn T hw) T.rel x)))|cons a xs=>exact j6 (It ad σ h tk _ jg.E3 R λv h₁ bq go=>j6 (go _ λav T rv Bb=>j6 (NG M F T.rel rv x λFv ade cF kL xQ jh x=>j6 (Y.S F x Fv cF jh kL _ ⟨λo5 Fy j2 oV vn iR x=>⟨xs.length,pN _,xs,ad,σ,av,o5,Fy,j2,oV,rfl,rfl,Bb,xQ.trans vn,((sS.turn T hw).trans xQ).trans vn,iR,x⟩,λa v o5 Fy j2 oV vn iR r x=>q.r a v o5 Fy j2 oV (((sS.turn T hw).trans xQ).trans vn) iR r x⟩))))
theorem adw(M:m.Ok H)(Y:I.iw H)(F:a7 H C cx)(x:H (Nc m I cx σ t e bs os ks kr)):X1 C σ (.For t e bs os p) (fJ H ks) (Hk H kr):=λad h R tk Q q=>by
 cases os with|cons _ _=>exact absurd x M.fail|nil=>refine wpAny_For (Ou M Y.toOk F.toFits x R.fX λit av bI xs g hs x=>?_) (λx'=>OJ (Fl.bz M.fail x).1);obtain⟨B,W,hb,hw,hs⟩:=hs;have ji:=(R.fX (ns:=namesOf e)).grow g;have It:=(hs C.env C.ok C.nw C.nx C.pin ad (jC (namesOf e) σ) av F.ok (λJ J e=>e) (λb k J J=>k) (λb J k q=>k.elim (λk=>q.elim λy q=>q.elim λys q=>absurd (fy ((R.fX (ns:=namesOf e)).EP q.1) (az hb k)) (q.2▸rE _)) λk=>k.elim (λk=>k.2 q) λk=>aL k) (λk=>absurd k aL) ji).1;exact adv M Y F (λb w=>az hb (hw b w).1) (q.after bN.refl.fX) ⟨xs,ad,_,av,ad,_,av,bI,rfl,rfl,It,.refl,g.jE,ji,x⟩
structure Wh(C:Fc)(H:α->Prop)(mI:Str->Addr)(mJ:Sg)(hS:Heap)(K:Nat->Sg->Prop)(n:Nat)(s:aF):Prop where
 ex:∃ad σ h tk,s=C.st h tk/\bN C mI mJ hS ad σ h/\Rel C ad σ h/\K n σ
theorem adx(M:m.Ok H)(Y:I.iw H)(F:a7 H C cx){mI:Str->Addr}{mJ:Sg}{hS:Heap}{Q:Flow->aF->Prop}(q:lI C mI mJ hS (fJ H ks) (Hk H kr) Q){s:aF}{n:Nat}(j:Wh C H mI mJ hS (λn σ=>H (AP m I cx c bs kr ks n σ)) n s):codeAny (M_ C) C.A (.whileLoop c bs [] C.env) (OM C Q) s:=by
 refine codeAny_whileLoop (Wh C H mI mJ hS λn σ=>H (AP m I cx c bs kr ks n σ)) (λn s j=>?_) n j;obtain⟨ad,σ,h,tk,es,sS,R,x⟩:=j.ex;subst es;cases n with
 |zero=>exact absurd x M.fail|succ n=>
  refine j6 (Y.T F.toFits x ad h R tk _ λb h₁ bq g x=>?_);cases b with|true=>exact j6 (Y.S F ((M.br x).1 rfl) ad h₁ (R.grow g) bq _ ⟨λoX oY av bI lA ji x=>⟨n,pN _,oX,oY,av,bI,rfl,(sS.trans g.jE).trans lA,ji,x⟩,λa v oX oY av bI lA ji r x=>q.r a v oX oY av bI ((sS.trans g.jE).trans lA) ji r x⟩)|false=>exact j6 (Db (q.n ad σ h₁ bq (sS.trans g.jE) (R.grow g) ((M.br x).2 rfl)))
theorem ady(M:m.Ok H)(Y:I.iw H)(F:a7 H C cx)(x:H (Nd m I cx σ c bs os ks kr)):X1 C σ (.While c bs os p) (fJ H ks) (Hk H kr):=λad h R tk Q q=>by
 cases os with|cons _ _=>exact absurd x M.fail|nil=>exact wpAny_While (adx M Y F q ⟨ad,σ,h,tk,rfl,.refl,R,x⟩)
theorem adz(M:m.Ok H)(Y:I.iw H)(F:a7 H C cx)(x:H (I.T cx σ c (oS m (I.S cx σ bs ks kr) (I.S cx σ os ks kr)))):X1 C σ (.If c bs os p) (fJ H ks) (Hk H kr):=λad h R tk Q q=>
 wpAny_If (Y.T F.toFits x ad h R tk _ λb h₁ bq g x=>by
  cases b with|true=>exact Y.S F ((M.br x).1 rfl) ad h₁ (R.grow g) bq Q (q.after g.jE)|false=>exact Y.S F ((M.br x).2 rfl) ad h₁ (R.grow g) bq Q (q.after g.jE))
theorem adA(M:m.Ok H)(Y:I.iw H)(F:a7 H C cx)(x:H (opt (kr .none) o (Nb m I cx σ kr))):X1 C σ (.Return o p) (fJ H ks) (Hk H kr):=λad h R tk Q q=>by
 cases o with|none=>exact wpAny_Return_none (q.r .none .none ad σ h tk .refl R rfl x)|some e=>exact wpAny_Return_some (fW Y.toOk F.toFits x ad h R.fX tk _ λv h' ak a g r x=>(Fl.bz M.fail x).elim λf x=>q.r a v ad _ h' ak g.jE.fX (R.fX.grow g) (sK f r) x)
theorem ON:D0 e=some q->∃p,e=.Subscript q.1 q.2 p:=(by induction e using cv with|Subscript o i p=>exact(λz=>⟨p,by cases z;rfl⟩)|_=>exact λz=>ai z)
theorem vp(M:m.Ok H)(Y:I.iw H)(F:a7 H C cx)(x:H (eJ m I cx σ s ks kr)):X1 C σ s (fJ H ks) (Hk H kr):=by
 cases s with
 |Assign ts e p=>
  cases ts with
  |nil=>exact absurd x M.fail|cons t r=>cases r with
   |cons _ _=>exact absurd x M.fail|nil=>exact dD x (λx=>dD x (λx=>adl M Y F x) λq eq x=>(ON eq).elim λp z=>by rw[z];exact abU M Y.toOk F x) λts et x=>(tup_is et).elim λkk z=>z.elim λp z=>by rw[z];exact abT M Y.toOk F x
 |AugAssign t op e p=>exact dD x (λx=>aW M.fail x λq eq x=>(ON eq).elim λp z=>by rw[z];exact abY M Y.toOk F x) λy ey x=>(j3 ey).elim λp z=>by rw[z];exact abV M Y.toOk F x|If c b o p=>exact adz M Y F x|Return o p=>exact adA M Y F x|For t e b o p=>exact adw M Y F x|While c b o p=>exact ady M Y F x|Expr e p=>exact ab5 M Y.toOk F x|_=>exact absurd x M.fail
theorem adB(M:m.Ok H)(Y:I.iw H)(F:a7 H C cx)(x:H (Nf m I cx σ ss ks kr)):Xs C σ ss (fJ H ks) (Hk H kr):=λad h R tk Q q=>by
 cases ss with|nil=>exact Db (q.n ad σ h tk .refl R x)|cons s r=>exact lZ (vp M Y F x ad h R tk _ ⟨λad' σ' h' ak st R' x=>Y.S F x ad' h' R' ak Q (q.after st),λa v ad' σ' h' ak st R' rv x=>q.r a v ad' σ' h' ak st R' rv x⟩)
theorem j7(M:m.Ok H):∀n,It.iw (bD m n) H:=by
 intro n
 induction n with|zero=>exact {E:=λJ x=>absurd x M.fail,T:=λJ x=>absurd x M.fail,S:=λJ x=>absurd x M.fail,X:=λJ x=>absurd x M.fail}|succ n ih=>exact {E:=λF x=>ads M ih F x,T:=λF x=>adu M ih F x,S:=λF x=>adB M ih F x,X:=λF x n=>adt M ih F x n}
end
section
variable{ad:Str->Addr}{α:Type}
theorem OO{kindOf:Str->Option bG}:∀{xs:List Str} {vs:List aa} {m:Str->Option aa},x∉xs->bindL kindOf (xs.zip vs) m x=m x/\bindC kindOf (xs.zip vs) m x=m x:=by
 intro xs
 induction xs with
 |nil=>exact λJ=>⟨rfl,rfl⟩|cons y xs ih=>
  intro vs m n;cases vs with
  |nil=>exact⟨rfl,rfl⟩|cons v vs=>
   have ne:x≠y:=λq=>n (q▸aK);have nx:x∉xs:=λq=>n (aY _ q);refine⟨(ih nx).1.trans ?_,(ih nx).2.trans ?_⟩
   ·by_cases c:kindOf y=some .local
    ·rw[if_pos c,if_neg ne]
    ·rw[if_neg c]
   ·by_cases c:kindOf y=some .local
    ·rw[if_pos c]
    ·rw[if_neg c,if_neg ne]
theorem OP{kindOf:Str->Option bG}:∀{xs:List Str} {as:List AV} {vs:List aa} {m m':Str->Option aa},xs.Nodup->ay h ok as vs->aj x (xs.zip as)=some a->∃v,VR h ok a False v/\(kindOf x=some .local->bindL kindOf (xs.zip vs) m x=some v)/\(kindOf x≠some .local->bindC kindOf (xs.zip vs) m' x=some v):=by
 intro xs
 induction xs with
 |nil=>exact λJ J e=>ai e|cons y xs ih=>
  intro as vs m m' nd r e;cases as with
  |nil=>exact ai e|cons b as=>
   cases r with
   |@mk v vs r1 r2=>
    have e:ae (aA x y) (some b) (aj x (xs.zip as))=some a:=e;cases c:aA x y with
    |true=>
     rw[c]at e;have vq:=(cN x y).mp c;have nx:=vq▸(List.nodup_cons.mp nd).1;refine⟨v,aO e▸r1,λk=>(OO nx).1.trans ?_,λk=>(OO nx).2.trans ?_⟩
     ·rw[<-vq,if_pos k,if_pos rfl]
     ·rw[<-vq,if_neg k,if_pos rfl]|false=>rw[c]at e;exact ih (List.nodup_cons.mp nd).2 r2 e
structure Rm(prog:bF)(wd:bj)(base:Heap)(mg mb:Str->Option aa)(d:Nat)(hn:Bool)(C:Fc):Prop where
 p:C.prog=prog
 w:C.w=wd
 k:Kp base C.base
 dp:C.A.depth+d<recursionLimit
 u:C.A.units+3*d+64<cLine
 n:hn=true->C.A.handled=none
 m:cB C.A C.base
 g:C.mg=mg
 b:C.mb=mb
def aZ{α:Type}(H:α->Prop)(prog:bF)(wd:bj)(base:Heap)(mg mb:Str->Option aa)(fa:Addr)(d:Nat)(hn:Bool)(F:List AV->(AV->α)->α):Prop:=∀C,Rm prog wd base mg mb d hn C->kK H C fa F
structure ck(base:Heap)(mg mb:Str->Option aa):Prop where
 lim:base.NoLimit
 g:base.Ns mainGlobals mg
 b:base.Ns builtinsNs mb
structure jj(sc:ig)(xs:List Str):Prop where
 kind:sc.kind=.function
 co:sc.isCoroutine=false
 gen:sc.isGenerator=false
 nd:oU sc.names=true
 lK:∀x,(x,fA)∉sc.names
 vm:∀p∈sc.names,cY p.1=true
 par:∀x∈xs,aj x sc.names=some .local∨aj x sc.names=some .cell
 nx:xs.Nodup
@[reducible] noncomputable def dN (C:Fc) (ok:Addr->Prop) (h:Heap) (fa:Addr) (name:Str) (sc:ig) (cd:aa):Fc:=⟨C.prog,C.w,C.A.deeper (envOfC name sc h.objs.size fa cd),envOfC name sc h.objs.size fa cd,ok,h.objs.size,h.objs.size,h.objs.size,h,C.mg,C.mb,[],C.z⟩
theorem OQ(S:jj sc xs)(B:ck h C.mg C.mb)(ho:∀b,h.objs.size<=b->ok b)(X:Cl h.objs.size (cellsFrom (h.objs.size+1) sc.names []) h₁ cm):(dN C ok h fa name sc cd).Ok where
 kind:=S.kind
 glob:=rfl
 blt:=rfl
 g:=B.g
 b:=B.b
 nolimit:=B.lim
 kH x c e:=pM (X.above x c (ng e))
 cells x y c e e':=name_of_addr X.apart (ng e) (ng e')
 cell x k:=by have m:=k.elim (λk=>fm ((eN _ _).symm.trans k)) λk=>absurd (fm ((eN _ _).symm.trans k)) (S.lK x);obtain⟨c,m⟩:=vj (n:=h.objs.size+1) (acc:=[]) m;rw[eN];exact nF m
 pin x v e:=ai e
 new:=ho
 qk:=λb o e J=>bu e
 oE:=aQ _
 ql:=aQ _
 size:=aQ _
theorem OR(S:jj sc xs)(T:gL h)(r:ay h ok as vs)(ho:∀b,h.objs.size<=b->ok b)(jF:Fr h h.objs.size h₁ (bindL (envOfC name sc h.objs.size fa cd).kindOf (xs.zip vs) λJ=>none))(X:Cl h.objs.size (cellsFrom (h.objs.size+1) sc.names []) h₁ (bindC (envOfC name sc h.objs.size fa cd).kindOf (xs.zip vs) λJ=>none)):Rel (dN C ok h fa name sc cd) ad (xs.zip as) h₁/\∀x ys,aj x (xs.zip as)≠some (.own ys):=by
 have z:h.objs.size<=h₁.objs.size:=jF.ns.elim λo n=>n.elim λJ n=>n.elim λJ n=>dw (bu n.1);have G:aI h h₁:=.of z jF.keep;have no:∀x ys,aj x (xs.zip as)≠some (.own ys):=λx ys e=>(OP (kindOf:=λJ=>none) (m:=λJ=>none) (m':=λJ=>none) S.nx r e).elim λv q=>q.1;have nm:∀b,¬dC ad (xs.zip as) b:=λb q=>q.elim λx q=>q.elim λys q=>no x ys q.1;refine⟨{base:=G.kp,tabs:=G.tb T,var:=λx a e=>?_,loc:=⟨_,jF.ns⟩,aN:=λx c e=>⟨_,X.cell x c e⟩,own:=λx ys e=>absurd e (no x ys),inj:=λx y xs ys e=>absurd e (no x xs),sz:=z,pin:=λx v e=>ai e},no⟩;obtain⟨v,q,l,c⟩:=OP (kindOf:=(envOfC name sc h.objs.size fa cd).kindOf) (m:=λJ=>none) (m':=λJ=>none) S.nx r e;have mx:x∈xs:=by obtain⟨p,m,ep⟩:=List.mem_map.mp (List.mem_map.mpr ⟨_,fm e,rfl⟩:x∈(xs.zip as).map (·.1));exact ep▸(wQ m).1
 refine⟨v,?_,.val (q.mono (λb o k s e=>⟨⟨k,nm b⟩,G.bX s e⟩) _ gY)⟩;have kd:∀k,aj x sc.names=some k->(envOfC name sc h.objs.size fa cd).kindOf x=some k:=λk e=>(eN _ _).trans e;rcases S.par x mx with k|k
 ·exact .loc (kd _ k) _ jF.ns (l (kd _ k))
 ·have nl:(envOfC name sc h.objs.size fa cd).kindOf x≠some .local:=λq=>wR (aO ((kd _ k).symm.trans q))
  obtain⟨d,m⟩:=vj (n:=h.objs.size+1) (acc:=[]) (fm k);obtain⟨d,ed⟩:∃d,(cellsFrom (h.objs.size+1) sc.names []).lookup x=some d:=by rw[eN];exact nF m
  exact .aN (.inl (kd _ k)) d ed (c nl▸X.cell x d ed)
theorem Rm.frame(hd:Rm prog wd base mg mb (d+1) hn C)(k:Kp C.base h):Rm prog wd base mg mb d hn (dN C ok h fa name sc cd):=⟨hd.p,hd.w,λb o n e=>k b o n (hd.k b o n e),by show C.A.depth+1+d<_;have:=hd.dp;exact(aC 0xec2818190c2881910 1122579) this,by show C.A.units+3+3*d+64<_;have:=hd.u;exact(aC 0xec28402a81e1398390c28402a81e8191390 1122579) this,hd.n,hd.m.keep k,hd.g,hd.b⟩
theorem adC(S:jj sc xs)(O:(dN C ok h fa name sc cd).Ok)(R:Rm prog wd base mg mb d hn (dN C ok h fa name sc cd))(G:∀x g,aj x gl=some g->fj H (dN C ok h fa name sc cd) x g):a7 H (dN C ok h fa name sc cd) ⟨sc.names,gD sc.names,gl,[],mu,wf,hn,[]⟩ where
 ok:=O
 hu:=b9 (Dc (lY _ _) _) R.u
 hn:=R.n
 hm:=R.m
 kind x kd:=by rw[<-eN];exact Iff.rfl
 name x kd e:=S.vm _ (fm e)
 glob:=G
 pin x f e:=ai e
 sN x f e:=ai e
 hO x e:=by
  have e:=e;obtain⟨y,my,ey⟩:=List.any_eq_true.mp e;obtain⟨q,mq,eq⟩:=List.mem_map.mp my;have mq:=List.mem_filter.mp mq;rw[(cN x y).mp ey,<-eq];obtain⟨z,kd⟩:=q;have c:=mq.2;have lk:=(eN _ _).trans (nE S.nd mq.1);refine⟨?_,rfl⟩;cases kd with|«local»=>exact .inl ⟨lk,aQ _⟩|cell=>exact .inr ⟨lk,λc e=>(Ow (ng e)).elim (λm=>absurd m fc) λm=>Tf m.2⟩|_=>exact absurd c aL
theorem kK.of(Bc:base.get? fa=some o)(hd:o.data=.func (docDef name params body sc pm cd doc))(FA:∀c,cd=.ref c->eG c=false)(FB:base.CodeRec cd name)(B:ck base mg mb)(S:jj sc xs) (xS:∀vs:List aa,vs.length=xs.length->bindArgs (docDef name params body sc pm cd doc) ⟨vs,[]⟩=pure (xs.zip vs)) {gl:List (Str×GV α)} {mu:List Str} {wf:Nat} (R:Rm prog wd base mg mb (d+1) hn C) (G:∀C,Rm prog wd base mg mb d hn C->∀x g,aj x gl=some g->fj H C x g) (hF:∀as k,H (F as k)->as.length=xs.length/\∀ok h,a7 H (dN C ok h fa name sc cd) ⟨sc.names,gD sc.names,gl,[],mu,wf,hn,[]⟩->Rm prog wd base mg mb d hn (dN C ok h fa name sc cd)->Xs (dN C ok h fa name sc cd) (xs.zip as) body (λJ=>H (k .none)) (λa=>H (k a))):kK H C fa F:=⟨⟨o,_,R.k fa o (λvs e=>iJ (hd.symm.trans e)) Bc,hd⟩,λok h as vs k tk Q kp T ho r x q=>by
 have kb:Kp base h:=λb o n e=>kp b o n (R.k b o n e);have B':ck h C.mg C.mb:=⟨B.lim.elim λmc n=>⟨mc,Kp.ns kb n.1,n.2⟩,R.g▸Kp.ns kb B.g,R.b▸Kp.ns kb B.b⟩
 obtain⟨hl,hX⟩:=hF as k x;have FC:vs.length=xs.length:=by rw[r.length,hl]
 have lo:∀x k,aj x sc.names=some k->sc.names.lookup x=some k:=λx k e=>(eN _ _).trans e;refine call_cells_ret (binds:=xs.zip vs) (b9 (lY _ _) R.dp) (kb fa o (λvs e=>iJ (hd.symm.trans e)) Bc) hd B'.lim (FB.elim λc z=>z.elim λoc z=>z.elim λws z=>z.elim λt z=>⟨c,oc,ws,t,z.1,kb _ _ (λus d=>FA c z.1) z.2.1,z.2.2⟩) (xS vs FC) (λp m=>?_) (λh₁ bq jF X=>?_) S.co S.gen S.kind
 ·refine(S.par p.1 (wQ m).1).imp (lo _ _) λk=>⟨lo _ _ k,?_⟩
  obtain⟨c,m⟩:=vj (n:=h.objs.size+1) (acc:=[]) (fm k);rw[eN];obtain⟨d,ed⟩:=nF m;rw[ed];rfl
 ·have O:(dN C ok h fa name sc cd).Ok:=OQ S B' ho X
  have R':Rm prog wd base mg mb d hn (dN C ok h fa name sc cd):=R.frame kp;obtain⟨L,no⟩:=OR (C:=C) (fa:=fa) (name:=name) (cd:=cd) (ad:=λJ=>0) S T r ho jF X
  have gr:∀{ad' σ' h'},bN (dN C ok h fa name sc cd) (λJ=>0) (xs.zip as) h₁ ad' σ' h'->Rel (dN C ok h fa name sc cd) ad' σ' h'->aI h h':=λ{ad' σ' h'} s R=>⟨az L.sz s.sz,λb o n e=>by
   cases z:ik o.data with|true=>exact s.nk b o z (.inl (bu e)) (jF.keep b o e)|false=>exact s.kp b o ⟨n,z⟩ (λq=>q.elim λy q=>q.elim λys q=>no y ys q.1) (jF.keep b o e),λJ=>R.tabs⟩
  exact hX ok h (adC S O R' (G _ R')) R' _ h₁ L bq _ ⟨λad' σ' h' ak s R z=>⟨_,rfl,q .none h' ak .none (gr s R) rfl z⟩,λa v ad' σ' h' ak s R rv z=>⟨_,rfl,q v h' ak a (gr s R) (rv.mono (λb o k J e=>⟨k.1,e⟩) a gY) z⟩⟩⟩
theorem aZ.of(Bc:base.get? fa=some o)(hd:o.data=.func (docDef name params body sc pm cd doc))(FA:∀c,cd=.ref c->eG c=false)(FB:base.CodeRec cd name)(B:ck base mg mb)(S:jj sc xs) (xS:∀vs:List aa,vs.length=xs.length->bindArgs (docDef name params body sc pm cd doc) ⟨vs,[]⟩=pure (xs.zip vs)) {gl:List (Str×GV α)} {mu:List Str} {wf:Nat} (G:∀C,Rm prog wd base mg mb d hn C->∀x g,aj x gl=some g->fj H C x g) (hF:∀as k,H (F as k)->as.length=xs.length/\∀C ok h,a7 H (dN C ok h fa name sc cd) ⟨sc.names,gD sc.names,gl,[],mu,wf,hn,[]⟩->Rm prog wd base mg mb d hn (dN C ok h fa name sc cd)->Xs (dN C ok h fa name sc cd) (xs.zip as) body (λJ=>H (k .none)) (λa=>H (k a))):aZ H prog wd base mg mb fa (d+1) hn F:=λC R=>.of Bc hd FA FB B S xS R G λas k x=>⟨(hF as k x).1,λok h=>(hF as k x).2 C ok h⟩
end
noncomputable abbrev Way:=List Bool
def Bd(i:Int)(k:Int->Way->Prop):Way->Prop:=k i
def oM:Md (Way->Prop) where
 fail _:=False
 gd c _ x o:=c/\x o
 br c x y o:=@d6 Bool (λJ=>Prop) False (λb r J=>ae b (c=true/\x r) (c=false/\y r)) o
 op p k o:=∃b,p=some b/\k b o
 fi i k:=k i
 fl:=xg λJ=>False
 i2:=uN λJ=>False
 di x y k:=uO (λJ=>False) k x y
 rq:=nv Bd
def Hw(f:Way->Prop):Prop:=∃o,f o
theorem adD(s:Bool)(M:Nat)(k:Int->Way->Prop):oM.rq s M k=nv Bd s M k:=⋯
theorem adE(h:Hw (oM.rq s M k)):Hw (nv Bd s M k):=Eq.mp (congrArg Hw (adD s M k)) h
theorem eO:oM.Ok Hw where
 fail h:=h.elim λJ=>id
 gd h:=h.elim λo h=>⟨h.1,o,h.2⟩
 br h:=h.elim λo h=>by
  cases o with
  |nil=>exact h.elim|cons b r=>cases b with
   |true=>exact⟨λJ=>⟨r,h.2⟩,λe=>absurd (e.symm.trans h.1) aL⟩|false=>exact⟨λe=>absurd (h.1.symm.trans e) aL,λJ=>⟨r,h.2⟩⟩
 op h:=h.elim λo h=>h.elim λb h=>⟨b,h.1,o,h.2⟩
 fi h:=h
 fl h:=h
 i2 h:=h
 di h:=h
 rq:=⟨Bd,λh=>h,adE⟩
noncomputable def nameOf:Stmt->Str|.FunctionDef n _ _ _ _ _ _ _ _ _=>n|_=>""
noncomputable def mK:Stmt->Arguments|.FunctionDef _ a _ _ _ _ _ _ _ _=>a|_=>default
noncomputable def bodyOf:Stmt->List Stmt|.FunctionDef _ _ b _ _ _ _ _ _ _=>b|_=>[]
noncomputable def aE:Stmt->ig|.FunctionDef _ _ _ _ _ _ sc _ _ _=>sc|_=>default
structure eP(base:Heap)(f:Addr)(st:Stmt)(o:Obj)(pm cd doc:aa):Prop where
 at_:base.get? f=some o
 fn:o.data=.func (docDef (nameOf st) (mK st) (bodyOf st) (aE st) pm cd doc)
 code:base.CodeRec cd (nameOf st)
 ext:∀c,cd=.ref c->eG c=false
def sU(xs:List Str)(x:Str):Bool:=xs.any (aA x)
def FD(xs:List Str):Bool:=@d6 Str (λJ=>Bool) true (λx r ih=>ae (sU r x) false ih) xs
def nFr(p:Str×bG):Bool:=ae (sC p.2) false true
def adG(sc:List (Str×bG))(x:Str):Bool:=opt false (aj x sc) stK
def FE(sc:ig)(xs:List Str):Bool:=ae (MM sc) (ae sc.isCoroutine false (ae sc.isGenerator false (ae (oU sc.names) (ae (sc.names.all nFr) (ae (sc.names.all okN) (ae (xs.all (adG sc.names)) (FD xs) false) false) false) false))) false
theorem adH:∀{xs:List Str},FD xs=true->xs.Nodup:=by
 intro xs
 induction xs with
 |nil=>exact λJ=>List.nodup_nil|cons x r ih=>
  intro e;have e:ae (sU r x) false (FD r)=true:=e;cases c:sU r x with|true=>rw[c]at e;exact absurd e aL|false=>rw[c]at e;exact List.nodup_cons.mpr ⟨λm=>aL (c.symm.trans (List.any_eq_true.mpr ⟨x,m,jZ x⟩)),ih e⟩
theorem jj.of(e:FE sc xs=true):jj sc xs:=by
 have F:∀{c x:Bool},ae c x false=true->c=true/\x=true:=λ{c x} e=>by
  cases c with|true=>exact⟨rfl,e⟩|false=>exact absurd e aL
 have N:∀{c x:Bool},ae c false x=true->c=false/\x=true:=λ{c x} e=>by
  cases c with|false=>exact⟨rfl,e⟩|true=>exact absurd e aL
 obtain⟨e1,e⟩:=F e;obtain⟨e2,e⟩:=N e;obtain⟨e3,e⟩:=N e;obtain⟨e4,e⟩:=F e;obtain⟨e5,e⟩:=F e;obtain⟨e6,e⟩:=F e;obtain⟨e7,e8⟩:=F e;refine⟨of_decide_eq_true e1,e2,e3,e4,λx m=>absurd (List.all_eq_true.mp e5 _ m) aL,λp m=>List.all_eq_true.mp e6 p m,λx m=>?_,adH e8⟩;have c:opt false (aj x sc.names) stK=true:=List.all_eq_true.mp e7 _ m;cases z:aj x sc.names with
 |none=>rw[z]at c;exact absurd c aL|some k=>
  rw[z]at c;cases k with|«local»=>exact .inl rfl|cell=>exact .inr rfl|_=>exact absurd c aL
section
variable{α:Type}{st:Stmt}
def dY(m:Md α)(n:Nat)(st:Stmt)(gl:List (Str×GV α))(mu:List Str)(wf:Nat)(hn:Bool)(xs:List Str)(as:List AV)(k:AV->α):α:=(bD m n).S ⟨(aE st).names,gD (aE st).names,gl,[],mu,wf,hn,[]⟩ (xs.zip as) (bodyOf st) (λJ=>k .none) k
theorem aZ.run(M:m.Ok H)(n:Nat)(D:eP base fa st o pm cd doc)(B:ck base mg mb)(S:FE (aE st) xs=true) (xS:∀vs:List aa,vs.length=xs.length->bindArgs (docDef (nameOf st) (mK st) (bodyOf st) (aE st) pm cd doc) ⟨vs,[]⟩=pure (xs.zip vs)) (G:∀C,Rm prog wd base mg mb d hn C->∀x g,aj x gl=some g->fj H C x g) (hF:∀as k,H (F as k)->as.length=xs.length/\H (dY m n st gl mu wf hn xs as k)):aZ H prog wd base mg mb fa (d+1) hn F:=
 aZ.of D.at_ D.fn D.ext D.code B (jj.of S) xS G λas k x=>⟨(hF as k x).1,λC ok h Ft R=>(j7 M n).S Ft (hF as k x).2⟩
end
section
noncomputable def FH(e:ab):List ab:=(by induction e using cv with|BoolOp J es J=>exact es|BinOp l J r J=>exact [l,r]|UnaryOp J x J=>exact [x]|IfExp c x y J=>exact [c,x,y]|ListComp x J J J=>exact [x]|Compare l J es J=>exact l::es|Call f as J J=>exact f::as|Attribute o J J=>exact [o]|Subscript v i J=>exact [v,i]|List es J=>exact es|Tuple es J J=>exact es|_=>exact [])
def sV(e:ab)(p:List Nat):ab:=@d6 Nat (λJ=>ab->ab) id (λi J ih e=>ih ((FH e).getD i default)) p e
noncomputable def coG(e:ab):List t9:=(by induction e using cv with|ListComp J gs J J=>exact gs|_=>exact [])
noncomputable def sW(e:ab):ig:=(by induction e using cv with|ListComp J J sc J=>exact sc|_=>exact default)
def stE(s:Stmt):List ab:=(by induction s using wM with|Return e J=>exact opt [] e λe=>[e]|Assign ts e J=>exact e::ts|AugAssign t J e J=>exact [e,t]|For t it J J J=>exact [it,t]|While c J J J=>exact [c]|If c J J J=>exact [c]|Expr e J=>exact [e]|_=>exact [])
def jk(s:Stmt)(i:Nat):ab:=(stE s).getD i default
noncomputable def fY(s:Stmt):List Stmt:=(by induction s using wM with|FunctionDef J J b J J J J J J J=>exact b|For J J b J J=>exact b|While J b J J=>exact b|If J b J J=>exact b|_=>exact [])
noncomputable def posOf(s:Stmt):Pos:=(by induction s using wM with|FunctionDef J J J J J J J J J p=>exact p|Return J p=>exact p|If J J J p=>exact p|_=>exact default)
def runC{α:Type}(m:Md α)(n:Nat)(cx:Cx α)(e:ab)(σ:Sg)(xs:List AV)(k:List AV->α):α:=AK m (bD m n) (sD cx (sW e).names) ((coG e).headD default) (sV e [0]) σ xs k
end
theorem Be{fd:nX}{ys:List Str}{vs:List aa}(h:vs.length=3)(k:∀a b c,bindArgs fd {pos:=[a,b,c]}=pure (ys.zip [a,b,c])):bindArgs fd {pos:=vs}=pure (ys.zip vs):=by
 cases vs with|nil=>cases h|cons a vs=>
 cases vs with|nil=>cases h|cons b vs=>
 cases vs with|nil=>cases h|cons c vs=>
 cases vs with|nil=>exact k a b c|cons _ _=>exact absurd h (by simp)
noncomputable def aw(n:Nat):Stmt:=PySem.Challenge.pw_wb0098_01.main.body.getD n (.Pass default)
section
variable{α:Type}
theorem FJ:∀{as:List AV} {is:List Int},cj aR as=some is->as=is.map .int:=by
 intro as
 induction as with
 |nil=>intro is e;cases e;rfl|cons a as ih=>
  intro is e;have e:opt none (aR a) (λb=>opt none (cj aR as) λbs=>some (b::bs))=some is:=e;cases c:aR a with
  |none=>rw[c]at e;exact ai e|some i=>
   rw[c]at e;have e:=e;cases c2:cj aR as with|none=>rw[c2]at e;exact ai e|some bs=>rw[c2]at e;cases e;rw[ih c2,mv c];rfl
def gO(P:List Int->Prop)(Q R:List Int->Int)(as:List AV)(k:AV->Way->Prop)(o:Way):Prop:=opt False (cj aR as) λis=>P is/\∀q r,q=Q is/\r=R is->k (.tup [.int q,.int r]) o
theorem vt(x:Hw (gO P Q R as k)):∃is,as=is.map .int/\P is/\Hw (k (.tup [.int (Q is),.int (R is)])):=x.elim λo x=>by
 have x:opt False (cj aR as) (λis=>P is/\∀q r,q=Q is/\r=R is->k (.tup [.int q,.int r]) o):=x;cases c:cj aR as with|none=>rw[c]at x;exact x.elim|some is=>rw[c]at x;exact⟨is,FJ c,x.1,o,x.2 _ _ ⟨rfl,rfl⟩⟩
theorem adM(h:is.length=3):∃a b c,is=[a,b,c]:=by
 cases is with|nil=>cases h|cons a is=>
 cases is with|nil=>cases h|cons b is=>
 cases is with|nil=>cases h|cons c is=>
 cases is with|nil=>exact⟨a,b,c,rfl⟩|cons _ _=>exact absurd h (by simp)
def Gs(H:α->Prop)(C:Fc)(gl:List (Str×GV α)):Prop:=∀x g,aj x gl=some g->fj H C x g
theorem Gs.nil:Gs H C []:=λJ J e=>ai e
theorem Gs.cons(a:fj H C x g)(r:Gs H C gl):Gs H C ((x,g)::gl):=λy g' e=>by
 have e:ae (aA y x) (some g) (aj y gl)=some g':=e;cases c:aA y x with|true=>rw[c]at e;rw[(cN y x).mp c,<-aO e];exact a|false=>rw[c]at e;exact r y g' e
theorem fj.int(e:C.mg x=some (.int i t)):fj H C x (.val (.int i)):=.val e λJ J J=>⟨t⟩
noncomputable def FK{α:Type}:List (Str×GV α):=[("divmod",.bi (.divmod ())),("_DIV_LIMIT",.val (.int 4000))]
def Bf(is:List Int):Prop:=is.length=3/\(((bk (is.getD 0 0):Nat):Int)-is.getD 2 0<=4000)/\is.getD 1 0≠0/\ij (is.getD 0 0) (is.getD 1 0)=false
noncomputable def cQ(is:List Int):Int:=(is.getD 0 0).fdiv (is.getD 1 0)
noncomputable def cR(is:List Int):Int:=(is.getD 0 0).fmod (is.getD 1 0)
theorem r20(a b n:Int)(k:AV->Way->Prop)(o:Way):dY oM 40 (aw 3) FK [] 5 false ["a","b","n"] [.int a,.int b,.int n] k (true::o)=(decide (((bk a:Nat):Int)-n<=4000)=true/\(b≠0/\ij a b=false)/\k (.tup [.int (a.fdiv b),.int (a.fmod b)]) o):=⋯
theorem adO(D:eP base 38 (aw 3) o pm cd doc)(B:ck base mg mb)(g1:mg "divmod"=none/\mb "divmod"=some (.builtin "divmod"))(g2:∃t,mg "_DIV_LIMIT"=some (.int 4000 t)):aZ Hw prog wd base mg mb 38 (d+1) false (gO Bf cQ cR):=
 .run eO 40 (xs:=["a","b","n"]) D B ⋯ (λvs h=>Be h λJ J J=>rfl) (gl:=FK) (λC R=>g2.elim λt g2=>Gs.cons (.bi (R.g▸g1.1) (R.b▸g1.2)) (Gs.cons (fj.int (R.g▸g2)) Gs.nil)) λas k x=>by obtain⟨is,rfl,⟨h1,h2,h3⟩,o,hk⟩:=vt x;obtain⟨a,b,c,rfl⟩:=adM h1;exact⟨rfl,true::o,(r20 a b c k o).mpr ⟨decide_eq_true h2,h3,hk⟩⟩
end
theorem bitNot_bitNot(x:Int):fe (fe x)=x:=by unfold fe;exact dy 0xe8e03e194e3e194e0 4581298448
theorem OS(hx:0<=x)(hy:0<=y):n9 x y=((x.toNat|||y.toNat:Nat):Int):=by unfold n9;rw[PyProof.Rows.bitAnd_nn (by unfold fe;exact(dy 0xe0f6e3e194e0096e009 1122576) hx) (by unfold fe;exact(dy 0xe0f6e3e194e0096e009 1122576) hy)];simp only[bitNot_bitNot]
theorem OT(hr:0<=r)(ha:0<=a)(h:a<2^n):n9 (r*2^n) a=r*2^n+a:=by
 obtain⟨r,rfl⟩:=pP hr;obtain⟨a,rfl⟩:=pP ha;have e:((r:Int)*2^n)=((r*2^n:Nat):Int):=by push_cast;rfl
 rw[e,OS (bA _) (bA _)];have h':a<2^n:=by exact_mod_cast h
 simp only[cw];rw[fO,<-Nat.two_pow_add_eq_or_of_lt h']
 push_cast;rfl
theorem Bg(hx:0<=x):kC x (2^n-1)=x%2^n:=by
 obtain⟨x,rfl⟩:=pP hx;have hp:=fE n;have e:((2:Int)^n-1)=((2^n-1:Nat):Int):=by rw[CW hp];push_cast;rfl
 rw[e,alM (bA _) (bA _)];simp only[cw,Nat.and_two_pow_sub_one_eq_mod]
 push_cast;rfl
theorem Bh{A q b r:Int}(hb:0<b)(e:A=q*b+r)(h0:0<=r)(h1:r<b):A.fdiv b=q/\A.fmod b=r:=by rw[iF A (cb hb),wS A (cb hb)];have:=(Int.ediv_emod_unique hb).mpr ⟨(by rw[e,ie];exact cy 62520301584 4581298448:r+b*q=A),h0,h1⟩;exact this
theorem bits_le(h:a.natAbs<2^k):bk a<=k:=by
 unfold bk
 split
 ·exact fP _
 ·rename_i h0
  have h0':a.natAbs≠0:=by simpa using h0
  exact(wH h0').mpr h
theorem y9{b:Int}{k:Nat}(h0:b≠0)(h:b.natAbs<2^k):b.natAbs.log2<k:=(wH ((bL 0xe0fd0900f8e0902f1f8e4e05e06e0901f8e05e06e009 0x110041110010161110010161111004111 [_] [_]) h0 g7)).mpr h
theorem mL{a:Int}{k:Nat}(h0:0<=a)(h:a<2^k):a.natAbs<2^k:=by obtain⟨a,rfl⟩:=pP h0;simpa using(by exact_mod_cast h:a<2^k)
theorem lL(ha:a.natAbs<2^i)(hb:b.natAbs<2^j)(h:i+j<=100000000):eE a b:=by
 unfold eE;have h1:=bits_le ha;have h2:=bits_le hb;have:Builtin.Int.intTooBig ((bk a:Int)+bk b)=false:=by
  unfold Builtin.Int.intTooBig;have hl:bitsLine=2^27:=by rfl
  simp[hl];exact(a9 0xe6e80000007a85e15e0b5f5e1007a832b20b31 286343444) h h1 h2
 intro q;simp[this]at q
theorem two_pow_pos(n:Nat):(0:Int)<2^n:=Int.pow_pos ⋯
theorem vu(h:i<=j):(2:Int)^i<=2^j:=by exact_mod_cast nh ⋯ h
theorem OU(h:i<j):(2:Int)^i<2^j:=by exact_mod_cast jv ⋯ h
theorem OV{aU a3 b1 b2 q r T:Int}(e:aU=q*b1+r):aU*T+a3=q*(b1*T+b2)+(r*T+a3-q*b2):=by rw[e,rn,Int.mul_add,rp];exact rI 0xe8e83e382183082810 4581298448
theorem OW(h:Nat):(2:Int)^(2*h)=2^h*2^h:=by rw[Nat.two_mul,Dd]
theorem OX{a:Int}{h:Nat}:a/2^(2*h)*2^h+a/2^h%2^h=a/2^h:=by
 have hT:=two_pow_pos h;have e:a/2^(2*h)=a/2^h/2^h:=by rw[OW,Int.ediv_ediv_of_nonneg (cb hT)]
 rw[e];have:=wC (a/2^h) (2^h);rw[ie]at this;exact this
theorem Bj{a b T:Int}(hT:0<T)(h:a<b*T):a/T<b:=Int.ediv_lt_of_lt_mul hT h
theorem adQ{a b:Int}{h:Nat}(ha:0<=a)(hb:0<b)(q1 r1 q2 r2:Int)(e1:(a/2^h).fdiv b=q1)(f1:(a/2^h).fmod b=r1)(e2:(r1*2^h+a%2^h).fdiv b=q2)(f2:(r1*2^h+a%2^h).fmod b=r2):a=(q1*2^h+q2)*b+r2/\0<=r2/\r2<b/\0<=q1/\0<=q2/\q2<2^h/\0<=r1/\r1<b:=by
 have hT:=two_pow_pos h;rw[iF _ (cb hb)]at e1 e2;rw[wS _ (cb hb)]at f1 f2;have d0:=wC a (2^h);have d1:=wC (a/2^h) b;have d2:=wC (r1*2^h+a%2^h) b;rw[e1,f1]at d1;rw[e2,f2]at d2;have g1:0<=r1:=by rw[<-f1];exact rt _ (by exact(dy 0xe0f8e0907e009 16855312) hb)
 have g2:r1<b:=by rw[<-f1];exact ry _ hb
 have g3:0<=r2:=by rw[<-f2];exact rt _ (by exact(dy 0xe0f8e0907e009 16855312) hb)
 have g4:r2<b:=by rw[<-f2];exact ry _ hb
 have m0:=rt a (tP hT);have m1:=ry a hT;have Bk:0<=q1:=by rw[<-e1];exact wB (wB ha (cb hT)) (cb hb)
 have hA:0<=r1*2^h+a%2^h:=by have:=IG g1 (cb hT);exact(cy 0xe6e810096e1096e009 17903888) m0 this
 have hq2:0<=q2:=by rw[<-e2];exact wB hA (cb hb)
 have adT:q2<2^h:=by rw[<-e2];refine Bj hb ?_;have:=ui (show r1+1<=b by exact(cy 0xe6e181907e10 1122576) g2) (cb hT);rw[rn]at this;rw[ie (2^h) b];exact(rI 0xe7e28107e316e281e3190 17903888) m1 this
 refine⟨?_,g3,g4,Bk,hq2,adT,g1,g2⟩;have:a=2^h*(b*q1+r1)+a%2^h:=by rw[d1];exact(nj 0xe8e82108e0821 17674076758288) d0
 rw[Int.mul_add]at this;rw[rn];have k1:q1*2^h*b=2^h*(b*q1):=by rw[ie (q1*2^h) b,<-rp,ie (b*q1)]
 have k2:q2*b=b*q2:=ie _ _;have k3:2^h*r1=r1*2^h:=ie _ _;exact(bL 0xe8e8382108e8658348e868877708e7718e428e587 0x1101001101a1110010110011b110 [] [_,_,_,_,_,_,_,_,_]) d2 this k1 k2 k3
section
variable{α:Type}
def xT:List (Str×GV (Way->Prop)):=[("_div2n1n",.fn (gO Bf cQ cR))]
def OY(wf:Nat):Cx (Way->Prop):=⟨(aE (aw 4)).names,gD (aE (aw 4)).names,xT,[],[],wf,false,[]⟩
def W4(wf:Nat)(k:AV->Way->Prop)(n:Nat)(σ:Sg):Way->Prop:=AP oM (bD oM 37) (OY wf) (jk ((bodyOf (aw 4)).getD 2 (.Pass default)) 0) (fY ((bodyOf (aw 4)).getD 2 (.Pass default))) k (EH (bD oM 37) (OY wf) ((bodyOf (aw 4)).drop 3) (λJ=>k .none) k) n σ
noncomputable def s4(aU a3 b b1 b2 n q r:Int):Sg:=[("a12",.int aU),("a3",.int a3),("b",.int b),("b1",.int b1),("b2",.int b2),("n",.int n),("q",.int q),("r",.int r)]
theorem w1(aU a3 b b1 b2 n q r:Int)(wf j:Nat)(o:Way):W4 wf k (j+1) (s4 aU a3 b b1 b2 n q r) (true::o)=(decide (r<0)=true/\W4 wf k j (s4 aU a3 b b1 b2 n (q-1) (r+b)) o):=⋯
theorem w2(aU a3 b b1 b2 n q r:Int)(wf j:Nat)(o:Way):W4 wf k (j+1) (s4 aU a3 b b1 b2 n q r) (false::o)=(decide (r<0)=false/\[AV.int q,.int r].length<=10000/\k (.tup [.int q,.int r]) o):=⋯
theorem r3a(wf:Nat)(aU a3 b b1 b2 n:Int)(o:Way):dY oM 40 (aw 4) xT [] wf false ["a12","a3","b","b1","b2","n"] [.int aU,.int a3,.int b,.int b1,.int b2,.int n] k (true::o)=(0<=n/\decide (Int.fdiv aU (2^n.toNat)=b1)=true/\(0<=n/\((bk 1:Nat):Int)+n<=2^27)/\(0<=n/\((bk b1:Nat):Int)+n<=2^27)/\(0<=n/\((bk (aU-b1*2^n.toNat+b1):Nat):Int)+n<=2^27)/\eE (1*2^n.toNat-1) b2/\ W4 wf k wf (s4 aU a3 b b1 b2 n (1*2^n.toNat-1) (n9 ((aU-b1*2^n.toNat+b1)*2^n.toNat) a3-(1*2^n.toNat-1)*b2)) o):=⋯
theorem r3b(wf:Nat)(aU a3 b b1 b2 n:Int)(o:Way):dY oM 40 (aw 4) xT [] wf false ["a12","a3","b","b1","b2","n"] [.int aU,.int a3,.int b,.int b1,.int b2,.int n] k (false::o)=(0<=n/\decide (Int.fdiv aU (2^n.toNat)=b1)=false/\Bf [aU,b1,n]/\∀q r,q=cQ [aU,b1,n]/\r=cR [aU,b1,n]->(0<=n/\((bk r:Nat):Int)+n<=2^27)/\eE q b2/\ W4 wf k wf (s4 aU a3 b b1 b2 n q (n9 (r*2^n.toNat) a3-q*b2)) o):=⋯
theorem adW(wf:Nat){aU a3 b b1 b2 n A:Int}(zb:0<b):∀(j:Nat) (q r:Int),(-r).toNat<j->r<b->A=q*b+r->Hw (k (.tup [.int (A.fdiv b),.int (A.fmod b)]))->Hw (W4 wf k j (s4 aU a3 b b1 b2 n q r)):=by
 intro j
 induction j with
 |zero=>exact λq r h=>absurd h (De _)|succ j ih=>
  intro q r hj hr e hk;by_cases hn:r<0
  ·obtain⟨o,x⟩:=ih (q-1) (r+b) ((bL 0xec107e009c819127e0912f1fd0906e094e8011f8e4e8015e06e4e801092f1fd0926e094e11f8e4e15e26e4e109 0x100010008111000101101a11100010008111000100111a113 [_,_,_] [_,_]) zb hj hn i8 i8) ((cy 0xe7e18107e090 1122576) hn) (by rw[e,Df];exact nj 0xe8e88213e1e2190810 4581298448) hk
   exact⟨true::o,(w1 aU a3 b b1 b2 n q r wf j o).mpr ⟨decide_eq_true hn,x⟩⟩
  ·obtain⟨o,x⟩:=hk
   have hd:=Bh zb e ((dy 0xe6e0090f7e090 1122576) hn) hr;rw[hd.1,hd.2]at x;exact⟨false::o,(w2 aU a3 b b1 b2 n q r wf j o).mpr ⟨decide_eq_false hn,(by decide:(2:Nat)<=10000),x⟩⟩
noncomputable def big:Int:=2^10000
theorem Bl(h:i<10000):(2:Int)^i<big:=OU h
theorem adX{q b Q B:Int}(h0:0<=q)(h1:q<Q)(h2:b<=B)(h3:0<B):q*b<Q*B:=C7 (Int.mul_le_mul_of_nonneg_left h2 h0) (Int.mul_lt_mul_of_pos_right h1 h3)
theorem adY(h0:0<=u)(h1:0<=a)(h2:v<X): -(u+a-v)<X:=(rI 0xe7e34e3e28106e0096e1097e32 286343440) h0 h1 h2
theorem adZ{x X:Int}{wf Z:Nat}(h0:0<X)(h: -x<X)(hx:X<(Z:Int))(hw:Z<=wf):(-x).toNat<wf:=(bL 0xec107e0097e04e17e5e20b122f1fd0906e094e11f8e4e15e06e4e109 0x101101171110111017113 [_,_,_] [_,_]) h0 h hx hw i8
structure D3(aU a3 b b1 b2:Int)(m:Nat):Prop where
 hm:m<=4000
 eb:b=b1*2^m+b2
 b2:0<=b2/\b2<2^m
 a3:0<=a3/\a3<2^m
 b1:0<b1/\b1<2^m
 a:0<=aU/\aU<b
theorem D3.zb{aU a3 b b1 b2:Int}{m:Nat}(h:D3 aU a3 b b1 b2 m):0<b:=by have i0:=Int.mul_pos h.b1.1 (two_pow_pos m);have i1:=h.eb;have i2:=h.b2;exact(rI 0xe7e0097e1098e82101f7e326e209 4564537616) i0 i1 i2
theorem D3.bb{aU a3 b b1 b2:Int}{m:Nat}(h:D3 aU a3 b b1 b2 m):b<2^8000:=by
 have hT:=two_pow_pos m;have i0:=ui (by have:=h.b1;exact(cy 0xe6e181901f7e107e009 16855312) this) (cb hT);rw[rn]at i0;have p:(2:Int)^m*2^m<=2^8000:=by rw[<-Dd];exact vu (by have:=h.hm;exact(ax 0xeb1f404a800bfa03a0 69039362593) this)
 have i1:=h.eb;have i2:=h.b2;exact(Jm 0xe7e106e481e31926e148e85201f7e356e509 1099797983504) i0 p i1 i2
theorem D3.tail(wf:Nat)(hw:2^20000<=wf){aU a3 b b1 b2 q r:Int}{m:Nat}(h:D3 aU a3 b b1 b2 m)(e:aU=q*b1+r)(r0:0<=r)(r1:r<big)(q0:0<=q)(q1:q<big)(lt:r*2^m+a3-q*b2<b)(hk:Hw (k (.tup [.int ((aU*2^m+a3).fdiv b),.int ((aU*2^m+a3).fmod b)]))):(0<=(m:Int)/\((bk r:Nat):Int)+m<=2^27)/\eE q b2/\Hw (W4 wf k wf (s4 aU a3 b b1 b2 m q (n9 (r*2^((m:Int)).toNat) a3-q*b2))):=by
 have hm:=h.hm;refine⟨⟨bA m,?_⟩,lL (mL (k:=10000) q0 q1) (mL h.b2.1 (Dg h.b2.2 (vu hm))) ⋯,?_⟩
 ·have:=bits_le (mL (k:=10000) r0 r1)
  have qF:(2:Int)^27=134217728:=rfl;exact(bL 0xe6e085e15e0bfa03a1b27104a08e80000007a0 4312879378 [_,_] [_]) hm this qF
 ·rw[cw,OT r0 h.a3.1 h.a3.2]
  refine adW wf h.zb wf q _ ?_ lt (h.eb▸OV e) hk;have g:q*b2<2^10000*2^4000:=adX q0 q1 (cb (Dg h.b2.2 (vu hm))) (two_pow_pos 4000);rw[<-Dd]at g;exact adZ (two_pow_pos _) (adY (IG r0 (cb (two_pow_pos m))) h.a3.1 g) (by rw[y2];exact OU ⋯) hw
def P3(is:List Int):Prop:=∃aU a3 b b1 b2 m,is=[aU,a3,b,b1,b2,((m:Nat):Int)]/\D3 aU a3 b b1 b2 m
noncomputable def Q3(is:List Int):Int:=(is.getD 0 0*2^(is.getD 5 0).toNat+is.getD 1 0).fdiv (is.getD 2 0)
noncomputable def R3(is:List Int):Int:=(is.getD 0 0*2^(is.getD 5 0).toNat+is.getD 1 0).fmod (is.getD 2 0)
theorem ad0{fd:nX}{ys:List Str}{vs:List aa}(h:vs.length=6)(k:∀a b c d e f,bindArgs fd {pos:=[a,b,c,d,e,f]}=pure (ys.zip [a,b,c,d,e,f])):bindArgs fd {pos:=vs}=pure (ys.zip vs):=by
 cases vs with|nil=>cases h|cons a vs=>
 cases vs with|nil=>cases h|cons b vs=>
 cases vs with|nil=>cases h|cons c vs=>
 cases vs with|nil=>cases h|cons d vs=>
 cases vs with|nil=>cases h|cons e vs=>
 cases vs with|nil=>cases h|cons f vs=>
 cases vs with|nil=>exact k a b c d e f|cons _ _=>exact absurd h (by simp)
theorem D3.run{wf:Nat}(hw:2^20000<=wf){aU a3 b b1 b2:Int}{m:Nat}(h:D3 aU a3 b b1 b2 m)(hk:Hw (k (.tup [.int ((aU*2^m+a3).fdiv b),.int ((aU*2^m+a3).fmod b)]))):Hw (dY oM 40 (aw 4) xT [] wf false ["a12","a3","b","b1","b2","n"] [.int aU,.int a3,.int b,.int b1,.int b2,.int m] k):=by
 have hT:=two_pow_pos m;have hm:=h.hm;have b8:=IK h.bb (Bl ⋯);have fit:∀x:Int,0<=x->x<big->((bk x:Nat):Int)+(m:Int)<=2^27:=λx h0 h1=>by have:=bits_le (mL (k:=10000) h0 h1);have qF:(2:Int)^27=134217728:=rfl;exact(bL 0xe6e085e15e0bfa03a1b27104a08e80000007a0 4312879378 [_,_] [_]) hm this qF
 have fZ:=h.b1;have ha:=h.a;have p4:=Bl (by exact(ax 0xec27104a0bfa03a0 1122577) hm);have p5:(2:Int)^m*2<big:=by rw[<-Int.pow_succ];exact Bl (by omega)
 by_cases c:Int.fdiv aU (2^((m:Int)).toNat)=b1
 ·have hb':aU/2^m=b1:=by rwa[cw,iF _ (cb hT)]at c
  have FL:=wC aU (2^m);rw[hb',ie]at FL;have ad2:=rt aU (tP hT);have ad3:=ry aU hT;have ze:aU=(1*2^((m:Int)).toNat-1)*b1+(aU-b1*2^((m:Int)).toNat+b1):=by rw[cw,lU,Df,ie (2^m) b1];exact nj 0xe8e8823e103e1e21910 4581298448
  have z0:0<=aU-b1*2^((m:Int)).toNat+b1:=by rw[cw];exact(zf 0xe6e823e10091f7e327e2098e08416e409 68989051152) fZ FL ad2
  have z1:aU-b1*2^((m:Int)).toNat+b1<big:=by rw[cw];exact(Jm 0xe7e3823e101f7e427e2097e32e2948e08517e45 1168516411664) fZ p5 FL ad3
  have lt:(aU-b1*2^((m:Int)).toNat+b1)*2^m+a3-(1*2^((m:Int)).toNat-1)*b2<b:=by
   have zA:=OV (a3:=a3) (b2:=b2) (T:=2^m) ze;rw[<-h.eb]at zA;have h1:aU*2^m+a3<b*2^m:=by have i0:=ui (show aU+1<=b by exact(cy 0xe6e181901f7e106e009 16855312) ha) (cb hT);rw[rn]at i0;have i3:=h.a3;exact(rI 0xe7e28106e281e31901f7e316e109 269566224) i0 i3
   rw[zA,cw,lU,Df (2^m) 1 b,ie (2^m) b]at h1;rw[cw,lU];exact(zf 0xe7e33e28107e483e28103e1e3194 1122576) h1
  obtain⟨t1,t2,o,t3⟩:=h.tail wf hw ze z0 z1 (by rw[cw];exact(dy 0xe6e3e191e019097e009 1122576) hT) (by rw[cw];exact(cy 0xe7e13e191e0197e10 1122576) p4) lt hk;exact⟨true::o,(r3a wf aU a3 b b1 b2 m o).mpr ⟨bA m,decide_eq_true c,⟨bA m,fit 1 ⋯ (Bl (i:=0) ⋯)⟩,⟨bA m,fit b1 ((cy 0xe6e0091f7e107e009 1122576) fZ) ((nj 0xe7e101f7e207e0097e12 285294864) fZ p4)⟩,t1,t2,t3⟩⟩
 ·have z0:0<=aU.fmod b1:=by rw[wS _ (cb fZ.1)];exact rt _ ((cy 0xe0f8e0901f7e107e009 16855312) fZ)
  have z1:aU.fmod b1<b1:=by rw[wS _ (cb fZ.1)];exact ry _ fZ.1
  have q0:0<=aU.fdiv b1:=by rw[iF _ (cb fZ.1)];exact wB ha.1 (cb fZ.1)
  have q1:aU.fdiv b1<big:=by have:aU/b1<=aU:=Int.ediv_le_self _ ha.1;rw[iF _ (cb fZ.1)];exact(rI 0xe7e107e121f7e236e3096e30 4564537616) b8 ha this
  have ze:aU=aU.fdiv b1*b1+aU.fmod b1:=by have:=Ja aU b1;rw[ie]at this;exact this.symm
  have lt:aU.fmod b1*2^m+a3-aU.fdiv b1*b2<b:=by have h1:=ui (by exact(cy 0xe6e181907e10 1122576) z1) (cb hT);rw[rn]at h1;have h2:=IG q0 h.b2.1;have i1:=h.a3;have i2:=h.b2;have i3:=h.eb;exact(bL 0xe7e33e28106e581e41906e2091f7e416e1091f7e466e6098e8653 281548009083152 [] [_,_,_,_,_,_,_]) h1 h2 i1 i2 i3
  obtain⟨t1,t2,o,t3⟩:=h.tail wf hw ze z0 ((rI 0xe7e101f7e327e2097e137e20 4580266256) fZ p4 z1) q0 q1 lt hk;refine⟨false::o,(r3b wf aU a3 b b1 b2 m o).mpr ⟨bA m,decide_eq_false c,⟨rfl,?_,by show b1≠0;exact(cy 0xe0f8e0901f7e107e009 16855312) fZ,Dh (show b1.natAbs.log2<9000 from y9 ((cy 0xe0f8e0901f7e107e009 16855312) fZ) (mL ((cy 0xe6e0091f7e107e009 1122576) fZ) (Dg fZ.2 (vu ((ax 0xeb23284a0bfa03a0 1122577) hm)))))⟩,λq r e=>by rw[e.1,e.2];exact⟨t1,t2,t3⟩⟩⟩;have bb:aU<2^(m+m):=by have i0:(b1+1)*2^m<=2^m*2^m:=ui (by exact(cy 0xe6e181901f7e107e009 16855312) fZ) (cb hT);rw[rn,<-Dd]at i0;have i1:=h.eb;have i2:=h.b2;exact(Jm 0xe7e101f7e206e0096e181e41938e85321f7e456e509 17596766322960) ha i0 i1 i2
  have:=bits_le (mL ha.1 bb);exact(ao 0xe6efa03a3e5e15e0bfa03a1b8110 17903890) hm this
theorem ad4(D:eP base 45 (aw 4) o pm cd doc)(B:ck base mg mb)(g1:mg "_div2n1n"=some (.ref 38))(c:∀d,aZ Hw prog wd base mg mb 38 (d+1) false (gO Bf cQ cR)):aZ Hw prog wd base mg mb 45 (d+2) false (gO P3 Q3 R3):=
 .run eO 40 (xs:=["a12","a3","b","b1","b2","n"]) (gl:=xT) (mu:=[]) (wf:=2^20000) D B ⋯ (λvs h=>ad0 h λJ J J J J J=>rfl) (λC R=>Gs.cons (.fn (R.g▸g1) (c _ C R)) Gs.nil) λas k x=>by obtain⟨is,rfl,⟨aU,a3,b,b1,b2,m,rfl,h⟩,hk⟩:=vt x;exact⟨rfl,h.run (aQ _) hk⟩
end
section
def sX:List (Str×GV (Way->Prop)):=("_div3n2n",.fn (gO P3 Q3 R3))::FK
def S3(k:AV->Way->Prop)(a b n pad:Int):Way->Prop:=(bD oM 37).S ⟨(aE (aw 3)).names,gD (aE (aw 3)).names,sX,[],[],5,false,[]⟩ [("a",.int a),("b",.int b),("n",.int n),("pad",.int pad)] ((bodyOf (aw 3)).drop 3) (λJ=>k .none) k
theorem ad5(a b n:Int)(o:Way):dY oM 40 (aw 3) sX [] 5 false ["a","b","n"] [.int a,.int b,.int n] k (false::true::o)=(decide (((bk a:Nat):Int)-n<=4000)=false/\(kC n 1!=0)=true/\((0:Int)<=1/\((bk a:Nat):Int)+1<=2^27)/\((0:Int)<=1/\((bk b:Nat):Int)+1<=2^27)/\S3 k (a*2^(1:Int).toNat) (b*2^(1:Int).toNat) (n+1) (kC n 1) o):=⋯
theorem ad6(a b n:Int)(k:AV->Way->Prop)(o:Way):dY oM 40 (aw 3) sX [] 5 false ["a","b","n"] [.int a,.int b,.int n] k (true::o)=(decide (((bk a:Nat):Int)-n<=4000)=true/\(b≠0/\ij a b=false)/\k (.tup [.int (a.fdiv b),.int (a.fmod b)]) o):=⋯
theorem ad7(a b n:Int)(o:Way):dY oM 40 (aw 3) sX [] 5 false ["a","b","n"] [.int a,.int b,.int n] k (false::false::o)=(decide (((bk a:Nat):Int)-n<=4000)=false/\(kC n 1!=0)=false/\S3 k a b n (kC n 1) o):=⋯
def OZ(k:AV->Way->Prop)(a b n pad h mask b1 b2:Int):Way->Prop:=(bD oM 34).S ⟨(aE (aw 3)).names,gD (aE (aw 3)).names,sX,[],[],5,false,[]⟩ [("a",.int a),("b",.int b),("n",.int n),("pad",.int pad),("half_n",.int h),("mask",.int mask),("b1",.int b1),("b2",.int b2)] ((bodyOf (aw 3)).drop 6) (λJ=>k .none) k
theorem ad8(a b n pad:Int)(o:Way):S3 k a b n pad o=((0:Int)<=1/\(0<=n.fdiv (2^(1:Int).toNat)/\((bk 1:Nat):Int)+n.fdiv (2^(1:Int).toNat)<=2^27)/\0<=n.fdiv (2^(1:Int).toNat)/\OZ k a b n pad (n.fdiv (2^(1:Int).toNat)) (1*2^(n.fdiv (2^(1:Int).toNat)).toNat-1) (b.fdiv (2^(n.fdiv (2^(1:Int).toNat)).toNat)) (kC b (1*2^(n.fdiv (2^(1:Int).toNat)).toNat-1)) o):=⋯
theorem ad9(a b n pad h mask b1 b2:Int)(o:Way)(p:Bool):OZ k a b n pad h mask b1 b2 (p::o)=(0<=n/\0<=h/\P3 [a.fdiv (2^n.toNat),kC (a.fdiv (2^h.toNat)) mask,b,b1,b2,h]/\∀q1 r1,q1=Q3 [a.fdiv (2^n.toNat),kC (a.fdiv (2^h.toNat)) mask,b,b1,b2,h]/\r1=R3 [a.fdiv (2^n.toNat),kC (a.fdiv (2^h.toNat)) mask,b,b1,b2,h]-> P3 [r1,kC a mask,b,b1,b2,h]/\∀q2 r2,q2=Q3 [r1,kC a mask,b,b1,b2,h]/\r2=R3 [r1,kC a mask,b,b1,b2,h]-> ae p ((pad !=0)=true/\(0:Int)<=1/\(0<=h/\((bk q1:Nat):Int)+h<=2^27)/\[AV.int (n9 (q1*2^h.toNat) q2),.int (r2.fdiv (2^(1:Int).toNat))].length<=10000/\k (.tup [.int (n9 (q1*2^h.toNat) q2),.int (r2.fdiv (2^(1:Int).toNat))]) o) ((pad !=0)=false/\(0<=h/\((bk q1:Nat):Int)+h<=2^27)/\[AV.int (n9 (q1*2^h.toNat) q2),.int r2].length<=10000/\k (.tup [.int (n9 (q1*2^h.toNat) q2),.int r2]) o)):=⋯
theorem O0{a b:Int}{h p:Nat}(hp:p<=1)(ha:0<=a)(aM:a<b*2^(2*h))(hb:0<b)(fZ:b<2^(2*h))(FM:2^(2*h)<=2*b)(Bm:h<=4000)(h1:1<=h)(hP:∀Q r,a=Q*b+r->0<=r->r<b->Hw (k (.tup [.int Q,.int (if p=0 then r else r.fdiv 2)]))):Hw (S3 k a b ((2*h:Nat):Int) (p:Int)):=by
 have hT:=two_pow_pos h;have eh:((2*h:Nat):Int).fdiv (2^(1:Int).toNat)=(h:Int):=by rw[iF _ ⋯];show((2*h:Nat):Int)/2=h;exact(bL 0xe8e5e001f1f7e2916e1098e5e1e029811e029 0x112110104221121101005221 [_] [_,_]) (Jn 2 _)
 have em:(1*2^((h:Int)).toNat-1:Int)=2^h-1:=by rw[cw,lU]
 have fit:∀(x:Int) (i:Nat),i<=20000->0<=x->x<2^i->((bk x:Nat):Int)+(h:Int)<=2^27:=λx i hi h0 h1=>by have:=bits_le (mL h0 h1);have qF:(2:Int)^27=134217728:=rfl;exact(bL 0xe6e085e15e0bfa03a1b4e204a2b208e80000007a0 69005828371 [_,_,_] [_]) Bm hi this qF
 have O5:=OW h;have h2:(2:Int)<=2^h:=by have:=vu h1;simpa using this
 have O6:=wC b (2^h);have FN:=rt b (tP hT);have aea:=ry b hT;have aeb:2^h<=b:=by have:=ui h2 (cb hT);exact(rI 0xe6e106e1e12928e326e31e029 301339469959712) FM O5 this
 have hbp:0<b/2^h:=by have:=Int.ediv_le_ediv hT aeb;rw[Int.ediv_self (tP hT)]at this;exact(dy 0xe7e0096e019 1122576) this
 have Bn:=Bj hT (by exact(nj 0xe7e107e208e12 17903888) fZ O5);have eb:b=b/2^h*2^h+b%2^h:=by rw[ie]at O6;exact(nj 0xe8e82108e0821 17674076758288) O6
 have D:∀x y:Int,0<=x->x<b->0<=y->y<2^h->D3 x y b (b/2^h) (b%2^h) h:=λx y x0 x1 y0 y1=>⟨Bm,eb,⟨FN,aea⟩,⟨y0,y1⟩,⟨hbp,Bn⟩,⟨x0,x1⟩⟩
 obtain⟨z1,z2,z3,z4,z5,z6,z7,z8⟩:=adQ ha hb _ _ _ _ rfl rfl rfl rfl;have Bk:(a/2^h).fdiv b<2^(2*h):=by rw[iF _ (cb hb)];refine Bj hb ?_;rw[ie];exact C7 (Int.ediv_le_self _ ha) aM
 have key:=hP _ _ z1 z2 z3;obtain⟨o,key⟩:=key;have eA:a.fdiv (2^(((2*h:Nat):Int)).toNat)=a/2^(2*h):=by rw[cw,iF _ (cb (two_pow_pos _))]
 have eB:kC (a.fdiv (2^((h:Int)).toNat)) (2^h-1)=a/2^h%2^h:=by rw[cw,iF _ (cb hT),Bg (wB ha (cb hT))]
 have eC:b.fdiv (2^((h:Int)).toNat)=b/2^h:=by rw[cw,iF _ (cb hT)]
 have e3:Q3 [a/2^(2*h),a/2^h%2^h,b,b/2^h,b%2^h,(h:Int)]=(a/2^h).fdiv b:=by show(a/2^(2*h)*2^((h:Int)).toNat+a/2^h%2^h).fdiv b=_;rw[cw,OX]
 have e4:R3 [a/2^(2*h),a/2^h%2^h,b,b/2^h,b%2^h,(h:Int)]=(a/2^h).fmod b:=by show(a/2^(2*h)*2^((h:Int)).toNat+a/2^h%2^h).fmod b=_;rw[cw,OX]
 refine⟨(!(p==0))::o,?_⟩;rw[ad8,eh,em,eC,Bg (cb hb),ad9,eA,eB];refine⟨⋯,⟨bA h,fit 1 1 ⋯ ⋯ ⋯⟩,bA h,bA _,bA h,⟨_,_,_,_,_,h,rfl,D _ _ (wB ha (cb (two_pow_pos _))) (Bj (two_pow_pos _) aM) (rt _ (tP hT)) (ry _ hT)⟩,λq1 r1 e=>?_⟩;rw[e3,e4]at e;rw[e.1,e.2,Bg ha];refine⟨⟨_,_,_,_,_,h,rfl,D _ _ z7 z8 (rt _ (tP hT)) (ry _ hT)⟩,λq2 r2 e=>?_⟩;have e5:q2=((a/2^h).fmod b*2^h+a%2^h).fdiv b:=e.1;have e6:r2=((a/2^h).fmod b*2^h+a%2^h).fmod b:=e.2;rw[e5,e6,cw,OT z4 z5 z6];by_cases c:p=0
 ·rw[if_pos c]at key
  rw[c];exact⟨rfl,⟨bA h,fit _ (2*h) (by exact(ax 0xeb4e204a1e029bfa03a0 69039362593) Bm) z4 Bk⟩,bV rfl,key⟩
 ·rw[if_neg c]at key
  have c1:p=1:=(ax 0xed190b1900fd090 0x112111121110131111004111) hp c;rw[c1];exact⟨rfl,⋯,⟨bA h,fit _ (2*h) (by exact(ax 0xeb4e204a1e029bfa03a0 69039362593) Bm) z4 Bk⟩,bV rfl,key⟩
structure FP(a b:Int)(m:Nat):Prop where
 hm:m<=7998
 ha:0<=a/\a<b*2^m
 hb:0<b/\b<2^m
 n:2^m<=2*b
def Bo(is:List Int):Prop:=∃a b m,is=[a,b,((m:Nat):Int)]/\FP a b m
theorem FP.run(h:FP a b m)(hk:Hw (k (.tup [.int (a.fdiv b),.int (a.fmod b)]))):Hw (dY oM 40 (aw 3) sX [] 5 false ["a","b","n"] [.int a,.int b,.int m] k):=by
 have hm:=h.hm;have ha:=h.ha;have hb:=h.hb;have hn:=h.n
 have ba:=bits_le (mL ha.1 (by
  rw[Dd]
  exact Dg ha.2 (ui (cb hb.2) (cb (two_pow_pos m)))))
 have bb:=bits_le (mL (cb hb.1) hb.2);by_cases c:((bk a:Nat):Int)-(m:Int)<=4000
 ·obtain⟨o,hk⟩:=hk
  exact⟨true::o,(ad6 a b m k o).mpr ⟨decide_eq_true c,⟨by exact(cy 0xe0f8e0901f7e107e009 16855312) hb,Dh (y9 ((cy 0xe0f8e0901f7e107e009 16855312) hb) (mL (cb hb.1) (Dg hb.2 (vu (show m<=9000 by exact(ax 0xeb23284a0b1f3e4a0 1122577) hm)))))⟩,hk⟩⟩
 ·have f9:4000<m:=(ao 0xec0fa03ab80010f6efa03a3e5e05e1 17903890) ba c
  have ep:kC (m:Int) 1=((m%2:Nat):Int):=by have:=Bg (x:=(m:Int)) (n:=1) (bA m);rw[show((2:Int)^1-1)=1 from rfl,show(2:Int)^1=2 from rfl]at this;rw[this];exact(bL 0xe8e5e001f1f7e2906e0098e5e1801e1291fc290d1801e229 0x1121100001101000c210000117231121110010100921001016233 [_,_,_] [_,_]) (Jn 2 _) (iL 2 _)
  have qF:(2:Int)^27=134217728:=rfl;by_cases c2:m%2=0
  ·have e2:2*(m/2)=m:=(aC 0xed11e029d0921fc292d1821e029 0x1101411100115113) c2 (iL 2 _)
   have x:Hw (S3 k a b ((2*(m/2):Nat):Int) ((0:Nat):Int)):=O0 ⋯ ha.1 (by rw[e2];exact ha.2) hb.1 (by rw[e2];exact hb.2) (by rw[e2];exact hn) (by exact(ao 0xebfa03a0b1f3e4a1d11e029 1177107313186) hm e2) (by exact(ao 0xeb019c1fa03ad11e029 18833701093922) f9 e2) λQ r e r0 r1=>by have hd:=Bh hb.1 e r0 r1;rw[hd.1,hd.2]at hk;exact hk
   rw[e2]at x;obtain⟨o,x⟩:=x;refine⟨false::false::o,(ad7 a b m o).mpr ⟨decide_eq_false c,?_,?_⟩⟩
   ·rw[ep,c2];rfl
   ·rw[ep,c2];exact x
  ·have c1:m%2=1:=(aC 0xed1900fd0901fc290d2801e129 0x100015111000151111211100000108113) c2 (iL 2 _)
   have e2:2*(m/2+1)=m+1:=(aC 0xed81911e819029d1921fc292d1821e029 0x1101411100115113) c1 (iL 2 _);have ew:(2:Int)^(m+1)=2^m*2:=Int.pow_succ ..;have x:Hw (S3 k (a*2) (b*2) ((2*(m/2+1):Nat):Int) ((1:Nat):Int)):=O0 ⋯ (by exact(cy 0xe6e2e290091f7e106e009 69039362592) ha) (by rw[e2,ew,rp,ie 2,rp];exact(by rw[<-rp,<-rp];exact(cy 0xe7e2e292e2912e2901f7e106e009 2268079395360) ha)) (by exact(cy 0xe7e2e290091f7e107e009 69039362592) hb) (by rw[e2,ew];exact(cy 0xe7e2e2912e2901f7e107e009 1099848290848) hb) (by rw[e2,ew];exact(cy 0xe6e1e2e291292e2906e1e1290 69039362592) hn) (by exact(ao 0xebfa03a8190b1f3e4a1d81911e819029 1177107313186) hm e2) (by exact ax 3951136793 1122577) λQ r e r0 r1=>by
    have e':r=r.fdiv 2*2:=by
     have:a*2-Q*(b*2)=r:=by exact(nj 0xe8e23e12e2908e8212e290 18833716883728) e
     rw[<-rp,<-Df]at this;rw[<-this,Int.mul_fdiv_cancel _ ⋯]
    have hd:=Bh hb.1 (show a=Q*b+r.fdiv 2 by have:Q*(b*2)=Q*b*2:=(rp ..).symm;exact(zf 0xe8e82108e8432e2908e2e29248e2e2913 0x1121101010622112110101007220) e e' this) (by exact(cy 0xe6e0096e1098e2e2901 1177107313184) r0 e') (by exact(nj 0xe7e107e2e29128e2e2902 18833701093920) r1 e');rw[hd.1,hd.2]at hk;exact hk
   rw[e2]at x;obtain⟨o,x⟩:=x;refine⟨false::true::o,(ad5 a b m o).mpr ⟨decide_eq_false c,?_,⟨⋯,by exact(bL 0xe6e08195e0b1f3e4a1b81108e80000007a0 4524563379606050 [_,_] [_]) hm ba qF⟩,⟨⋯,by exact(bL 0xe6e08195e0b1f3e4a1b108e80000007a0 4312879378 [_,_] [_]) hm bb qF⟩,?_⟩⟩
   ·rw[ep,c1];rfl
   ·rw[ep,c1];exact x
theorem aed(D:eP base 38 (aw 3) o pm cd doc)(B:ck base mg mb)(g1:mg "divmod"=none/\mb "divmod"=some (.builtin "divmod"))(g2:∃t,mg "_DIV_LIMIT"=some (.int 4000 t))(g3:mg "_div3n2n"=some (.ref 45))(c:∀d,aZ Hw prog wd base mg mb 45 (d+2) false (gO P3 Q3 R3)):aZ Hw prog wd base mg mb 38 (d+3) false (gO Bo cQ cR):=
 .run eO 40 (xs:=["a","b","n"]) (gl:=sX) (mu:=[]) (wf:=5) D B ⋯ (λvs h=>Be h λJ J J=>rfl) (λC R=>Gs.cons (.fn (R.g▸g3) (c _ C R)) (g2.elim λt g2=>Gs.cons (.bi (R.g▸g1.1) (R.b▸g1.2)) (Gs.cons (fj.int (R.g▸g2)) Gs.nil))) λas k x=>by obtain⟨is,rfl,⟨a,b,m,rfl,h⟩,hk⟩:=vt x;exact⟨rfl,h.run hk⟩
end
section
theorem o6{fd:nX}{ys:List Str}{vs:List aa}(h:vs.length=2)(k:∀a b,bindArgs fd {pos:=[a,b]}=pure (ys.zip [a,b])):bindArgs fd {pos:=vs}=pure (ys.zip vs):=by
 cases vs with|nil=>cases h|cons a vs=>
 cases vs with|nil=>cases h|cons b vs=>
 cases vs with|nil=>exact k a b|cons _ _=>exact absurd h (by simp)
structure DI(sa sb:Bool)(a b:Int):Prop where
 b0:b≠0
 ha:a.natAbs<2^90000
 hb:b.natAbs<2^7998
 na:sa=false->0<=a
 nb:sb=false->0<=b
def PI(sa sb:Bool)(is:List Int):Prop:=∃a b,is=[a,b]/\DI sa sb a b
def xU(sa:Bool):List (Str×GV (Way->Prop)):=[("int_divmod",.fn (gO (PI sa false) cQ cR)),("_divmod_pos",.fn (gO (PI false false) cQ cR))]
theorem ri0(sa:Bool)(a b:Int)(o:Way):dY oM 40 (aw 8) (xU sa) [] 5 false ["a","b"] [.int a,.int b] k (false::false::false::o)=(decide (b=0)=false/\decide (b<0)=false/\decide (a<0)=false/\PI false false [a,b]/\∀q r,q=cQ [a,b]/\r=cR [a,b]->k (.tup [.int q,.int r]) o):=⋯
theorem ri1(sa:Bool)(a b:Int)(o:Way):dY oM 40 (aw 8) (xU sa) [] 5 false ["a","b"] [.int a,.int b] k (false::false::true::o)=(decide (b=0)=false/\decide (b<0)=false/\decide (a<0)=true/\PI sa false [fe a,b]/\∀q r,q=cQ [fe a,b]/\r=cR [fe a,b]->[AV.int (fe q),.int (b+fe r)].length<=10000/\k (.tup [.int (fe q),.int (b+fe r)]) o):=⋯
theorem ri2(sa:Bool)(a b:Int)(o:Way):dY oM 40 (aw 8) (xU sa) [] 5 false ["a","b"] [.int a,.int b] k (false::true::o)=(decide (b=0)=false/\decide (b<0)=true/\PI sa false [-a,-b]/\∀q r,q=cQ [-a,-b]/\r=cR [-a,-b]->[AV.int q,.int (-r)].length<=10000/\k (.tup [.int q,.int (-r)]) o):=⋯
def FQ:List (Str×GV (Way->Prop)):=[("_divmod_pos",.fn (gO (PI false false) cQ cR))]
theorem aeh(a b:Int)(o:Way):dY oM 40 (aw 8) FQ [] 5 false ["a","b"] [.int a,.int b] k (false::false::false::o)=(decide (b=0)=false/\decide (b<0)=false/\decide (a<0)=false/\PI false false [a,b]/\∀q r,q=cQ [a,b]/\r=cR [a,b]->k (.tup [.int q,.int r]) o):=⋯
theorem DI.uI(h:DI false false a b)(hk:Hw (k (.tup [.int (a.fdiv b),.int (a.fmod b)]))):Hw (dY oM 40 (aw 8) FQ [] 5 false ["a","b"] [.int a,.int b] k):=by obtain⟨o,hk⟩:=hk;exact⟨_,(aeh a b o).mpr ⟨decide_eq_false h.b0,decide_eq_false (Int.not_lt.mpr (h.nb rfl)),decide_eq_false (Int.not_lt.mpr (h.na rfl)),⟨a,b,rfl,h⟩,λq r e=>by rw[e.1,e.2];exact hk⟩⟩
theorem aei(hb:0<b):a.fdiv b=fe ((fe a).fdiv b)/\a.fmod b=b+fe ((fe a).fmod b):=by
 have q0:=Int.fmod_nonneg_of_pos (fe a) hb;have q1:=Int.fmod_lt_of_pos (fe a) hb;have q2:=Ja (fe a) b;generalize (fe a).fdiv b=q at q2⊢;generalize (fe a).fmod b=r at q0 q1 q2⊢;refine Bh hb ?_ (by unfold fe;exact(cy 0xe6e83e194e10097e01 1122576) q1) (by unfold fe;exact(cy 0xe7e083e194e106e109 1122576) q0);unfold fe at q2⊢;have:(-q-1)*b=-(b*q)-b:=by rw[Df,yS,lU,ie q b]
 exact(zf 0xe8e883e194e32108e3e194e08348e3e24e41 0x1001151111014110) q2 this
theorem aej(hb:b<0):a.fdiv b=(-a).fdiv (-b)/\a.fmod b=-((-a).fmod (-b)):=by refine⟨(Int.neg_fdiv_neg a b).symm,?_⟩;have e1:=Ja a b;have e2:=Ja (-a) (-b);rw[Int.neg_fdiv_neg,yS]at e2;exact(rI 0xe8e4e108e38028e4e3814e2 0x1011411101015110) e1 e2
theorem DI.run(h:DI true sb a b)(hs:sb=true->sa=true)(hk:Hw (k (.tup [.int (a.fdiv b),.int (a.fmod b)]))):Hw (dY oM 40 (aw 8) (xU sa) [] 5 false ["a","b"] [.int a,.int b] k):=by
 obtain⟨o,hk⟩:=hk;by_cases c:b<0
 ·have hb:sb=true:=by
   cases sb with|true=>rfl|false=>exact absurd (h.nb rfl) (Int.not_le.mpr c)
  have e:=aej (a:=a) c;rw[e.1,e.2]at hk;exact⟨_,(ri2 sa a b o).mpr ⟨decide_eq_false h.b0,decide_eq_true c,⟨_,_,rfl,⟨λq=>h.b0 (Int.neg_eq_zero.mp q),by rw[Jb];exact h.ha,by rw[Jb];exact h.hb,λq=>absurd ((hs hb).symm.trans q) tY,λJ=>by exact(dy 0xe6e4e0097e090 1122576) c⟩⟩,λq r e=>by rw[e.1,e.2];exact⟨bV rfl,hk⟩⟩⟩
 ·have hb:0<b:=by have:=h.b0;exact(dy 0xe7e0090f7e0900f8e090 282785228009744) c this
  by_cases c2:a<0
  ·have e:=aei (a:=a) hb
   rw[e.1,e.2]at hk;have ea:(fe a).natAbs<=a.natAbs:=by unfold fe;exact(bL 0xeb107e0902f1f8e4e3e194e05e06e093e194e01f8e3e194e05e06e3e194e0092f1f8e4e05e16e0901f8e05e16e009 0x100001011911100001011911100010018111000106112 [_,_] [_]) c2 g7 g7
   exact⟨_,(ri1 sa a b o).mpr ⟨decide_eq_false h.b0,decide_eq_false c,decide_eq_true c2,⟨_,_,rfl,⟨h.b0,b9 ea h.ha,h.hb,λJ=>by unfold fe;exact(dy 0xe6e3e194e0097e090 1122576) c2,λJ=>cb hb⟩⟩,λq r e=>by rw[e.1,e.2];exact⟨bV rfl,hk⟩⟩⟩
  ·exact⟨_,(ri0 sa a b o).mpr ⟨decide_eq_false h.b0,decide_eq_false c,decide_eq_false c2,⟨_,_,rfl,⟨h.b0,h.ha,h.hb,λJ=>Int.not_lt.mp c2,λJ=>cb hb⟩⟩,λq r e=>by rw[e.1,e.2];exact hk⟩⟩
section
variable(D:eP base 73 (aw 8) o pm cd doc)(B:ck base mg mb)(g1:mg "_divmod_pos"=some (.ref 66))(g2:mg "int_divmod"=some (.ref 73))(c:∀d,aZ Hw prog wd base mg mb 66 (d+23) false (gO (PI false false) cQ cR))
include D B g1 c
theorem aek:aZ Hw prog wd base mg mb 73 (d+24) false (gO (PI false false) cQ cR):=
 .run eO 40 (xs:=["a","b"]) (gl:=FQ) (mu:=[]) (wf:=5) D B ⋯ (λvs h=>o6 h λJ J=>rfl) (λC R=>Gs.cons (.fn (R.g▸g1) (c _ C R)) Gs.nil) λas k x=>by obtain⟨is,rfl,⟨a,b,rfl,h⟩,hk⟩:=vt x;exact⟨rfl,h.uI hk⟩
include g2
theorem O7(hs:sb=true->sa=true)(c2:aZ Hw prog wd base mg mb 73 (d+24+e) false (gO (PI sa false) cQ cR)):aZ Hw prog wd base mg mb 73 (d+24+e+1) false (gO (PI true sb) cQ cR):=
 .run eO 40 (xs:=["a","b"]) (gl:=xU sa) (mu:=[]) (wf:=5) D B ⋯ (λvs h=>o6 h λJ J=>rfl) (λC R=>Gs.cons (.fn (R.g▸g2) (c2 C R)) (Gs.cons (.fn (R.g▸g1) (c (d+1+e) C (by rw[show d+1+e+23=d+24+e by exact ao 0xed818182a08172a818190 4581298450];exact R))) Gs.nil)) λas k x=>by obtain⟨is,rfl,⟨a,b,rfl,h⟩,hk⟩:=vt x;exact⟨rfl,h.run hs hk⟩
theorem ael:aZ Hw prog wd base mg mb 73 (d+26) false (gO (PI true true) cQ cR):=O7 D B g1 g2 c (e:=1) (λJ=>rfl) (O7 D B g1 g2 c (e:=0) (λq=>absurd q tY) (aek D B g1 c))
end
end
theorem aem(A r:Nat):(A|||r)&&&A=A:=by apply Nat.eq_of_testBit_eq;intro i;rw[Nat.testBit_and,Nat.testBit_or];cases A.testBit i<;>simp
theorem aen(hx:0<=x):wI x (x/2^n*2^n)=x%2^n:=by
 obtain⟨x,rfl⟩:=pP hx;have e:((x:Int)/2^n*2^n)=((x/2^n*2^n:Nat):Int):=by push_cast;rfl
 have em:((x:Int)%2^n)=((x%2^n:Nat):Int):=by push_cast;rfl
 unfold wI;rw[e,em,OS (bA _) (bA _),alM (bA _) (bA _)];simp only[cw];have hr:x%2^n<2^n:=dr _ (fE n);have hd:=yU x (2^n);have hA:x=(2^n*(x/2^n))|||(x%2^n):=by rw[<-Nat.two_pow_add_eq_or_of_lt hr,hd]
 have h1:x|||(x/2^n*2^n)=x:=by
  rw[fO (x/2^n)]
  conv=>lhs;lhs;rw[hA]
  rw[Nat.or_assoc,Nat.or_comm (x%2^n),<-Nat.or_assoc,Nat.or_self,<-hA]
 have h2:x&&&(x/2^n*2^n)=x/2^n*2^n:=by
  rw[fO (x/2^n)]
  conv=>lhs;lhs;rw[hA]
  exact aem _ _
 rw[h1,h2,fO];exact(aC 0xe8e5e23e5e15e0d0821 17674076758291) hd
noncomputable def d7(n:Nat)(x:Nat):Nat->List Nat|0=>[]|k+1=>x%2^n::d7 n (x/2^n) k
noncomputable def valN(n:Nat):List Nat->Nat|[]=>0|d::ds=>d+2^n*valN n ds
theorem Bp(n:Nat):∀(x k:Nat),(d7 n x k).length=k|_,0=>rfl|x,k+1=>by simp[d7,Bp n (x/2^n) k]
theorem O8(n:Nat):∀(j x k:Nat),d7 n x (j+k)=d7 n (x%2^(n*j)) j++d7 n (x/2^(n*j)) k
 |0,x,k=>by simp[d7]|j+1,x,k=>by
  have e1:j+1+k=(j+k)+1:=ao 0xed819810818190 4581298450;rw[e1];simp only[d7,tT];rw[O8 n j (x/2^n) k];have e2:n*(j+1)=n+n*j:=by rw[jx];exact ao 0xed80182e1910 4581298450
  rw[e2,gu];congr 1
  ·rw[Nat.mod_mul_right_mod]
  ·congr 1
   ·congr 1
    rw[Nat.mod_mul_right_div_self]
   ·rw[Nat.div_div_eq_div_mul]
theorem O9(n:Nat):∀xs ys:List Nat,valN n (xs++ys)=valN n xs+2^(n*xs.length)*valN n ys|[],ys=>by simp[valN]|d::ds,ys=>by simp only[tT,valN,bP];rw[O9 n ds ys,jx,jx,gu,kB,fO (2^(n*ds.length)) (2^n),jS];exact aC 0xed8281088210 4581298451
theorem Pa(n:Nat):∀(k x:Nat),x<2^(n*k)->valN n (d7 n x k)=x
 |0,x,h=>by simp at h;simp[d7,valN,h]|k+1,x,h=>by
  simp only[d7,valN];have e2:n*(k+1)=n+n*k:=by rw[jx];exact ao 0xed80182e1910 4581298450
  rw[e2,gu]at h;rw[Pa n k (x/2^n) (Th h),iG];exact yU x (2^n)
theorem Pb(n:Nat):∀(k x:Nat),∀d∈d7 n x k,d<2^n
 |0,_,d,h=>by cases h|k+1,x,d,h=>by
  rcases List.mem_cons.mp h with rfl|h
  ·exact dr _ (fE n)
  ·exact Pb n k _ d h
noncomputable def dZ(n b:Nat):List Nat->List Nat×Nat|[]=>([],0)|d::ds=>(((dZ n b ds).2*2^n+d)/b::(dZ n b ds).1,((dZ n b ds).2*2^n+d)%b)
theorem FR(n b:Nat):∀ds,(dZ n b ds).1.length=ds.length|[]=>rfl|d::ds=>by simp[dZ,FR n b ds]
theorem FT(n b:Nat)(hb:0<b):∀ds,(dZ n b ds).2<b|[]=>hb|d::ds=>dr _ hb
theorem Pc(n b:Nat)(hb:0<b):∀ds,valN n ds=valN n (dZ n b ds).1*b+(dZ n b ds).2
 |[]=>by simp[dZ,valN]|d::ds=>by
  simp only[dZ,valN];have ih:=Pc n b hb ds;have hd:=yU ((dZ n b ds).2*2^n+d) b;rw[ih,jx,wT];have e:2^n*(valN n (dZ n b ds).1*b)=2^n*valN n (dZ n b ds).1*b:=by rw[jS]
  have e2:2^n*(dZ n b ds).2=(dZ n b ds).2*2^n:=fO _ _;have e3:b*(((dZ n b ds).2*2^n+d)/b)=((dZ n b ds).2*2^n+d)/b*b:=fO _ _;exact(Om.n8 0xed8584388210d8077856d41d772d36 0x101011018111010100119118) hd e e2 e3
theorem Pd(n b:Nat)(hb:0<b):∀ds,(∀d∈ds,d<2^n)->∀q∈(dZ n b ds).1,q<2^n
 |[],_,q,h=>by cases h|d::ds,hd,q,h=>by
  rcases List.mem_cons.mp h with rfl|h
  ·refine Th ?_
   have h1:=FT n b hb ds;have h2:=hd d aK;have:=IN (2^n) (show(dZ n b ds).2+1<=b by exact(ao 0xeb18190c10 1122578) h1);rw[wT]at this;exact(a9 0xec2810c31b281e3190 17903892) h2 this
  ·exact Pd n b hb ds (λd h=>hd d (aY _ h)) q h
theorem Pe(a:Nat):a<2^bk (a:Int):=by
 unfold bk;by_cases h:a=0
 ·subst h;decide
 ·rw[if_neg (by simpa using h)]
  simpa using Nat.lt_log2_self (n:=a)
noncomputable def cK(n a:Nat):Nat:=(bk (a:Int)+n-1)/n
theorem Pf(hn:1<=n):a<2^(n*cK n a):=by refine fy (Pe a) (nh ⋯ ?_);unfold cK;have h1:=yU (bk (a:Int)+n-1) n;have h2:=dr (bk (a:Int)+n-1) (show 0<n by exact(ax 63351402521 1122577) hn);exact(cV 0xeb10d3821c422f1fd093b198401fd8408193b84019 0x11000011001b1110011017115) h1 h2 aq
theorem Pg{n a:Nat}(vw:1<=n)(hn:n<=2^20)(ha:bk (a:Int)<=90000):cK n a<=90000:=by
 unfold cK;refine az ?_ ha;by_cases h0:bk (a:Int)=0
 ·have h2:(0+n-1)/n=0:=Jc (by exact(ao 0xec10b1192f1fd090b1981091fd81098190b810919 72361132530155794) vw aq)
  rw[h0,h2];exact fP _
 ·refine Nat.div_le_of_le_mul ?_
  obtain⟨u,hu⟩:∃u,n=u+1:=⟨n-1,by exact(ao 0xed81910b0192f1fd091b1901fd08191b019 0x1010151110001511101141110014112) vw aq⟩
  obtain⟨v,hv⟩:∃v,bk (a:Int)=v+1:=⟨bk (a:Int)-1,by exact(ao 0xed819100fd0902f1fd091b1901fd08191b019 0x10101511100015111000010711100001071110114111001411100001071110000107112) h0 aq⟩
  have e:(u+1)*(v+1)=u*v+u+v+1:=by rw[wT,jx,y3,kB];exact aC 0xed8198281088192810 4581298451
  rw[hu,hv,e];exact(a9 0xeb8198382102f1fd090b198819281931fd8819281938190b88192819319 0x11001061110001017114) aq
noncomputable abbrev nA(ds:List Nat):List AV:=ds.map λ(d:Nat)=>AV.int (d:Int)
def F5(as:List AV)(k:AV->Way->Prop)(o:Way):Prop:=∃a n:Nat,as=[.int a,.int n]/\(1<=n/\n<=2^20/\bk (a:Int)<=90000)/\∀l,l=nA (d7 n a (cK n a))->k (.lst l) o
def F6(as:List AV)(k:AV->Way->Prop)(o:Way):Prop:=∃(ds:List Nat) (n:Nat),as=[.lst (nA ds),.int n]/\((∀d∈ds,d<2^n)/\n*ds.length<=2^26/\ds.length<=90000/\n<=2^26)/\k (.int (valN n ds:Nat)) o
section
def xV:List (Str×GV (Way->Prop)):=[("_int2digits",.fn F5),("_div2n1n",.fn (gO Bo cQ cR)),("reversed",.bi .reversed),("_digits2int",.fn F6)]
def L7(k:AV->Way->Prop)(xs:List AV)(σ:Sg):Way->Prop:=
 forL oM (bD oM 35) ⟨(aE (aw 7)).names,gD (aE (aw 7)).names,xV,[],["q_digits"],5,false,[]⟩ (jk ((bodyOf (aw 7)).getD 4 (.Pass default)) 1) (fY ((bodyOf (aw 7)).getD 4 (.Pass default))) k xs σ (EH (bD oM 35) ⟨(aE (aw 7)).names,gD (aE (aw 7)).names,xV,[],["q_digits"],5,false,[]⟩ ((bodyOf (aw 7)).drop 5) (λJ=>k .none) k)
noncomputable def s7(a b n r:Int)(ds:List AV)(qs:List AV)(e:Sg):Sg:=("a",.int a)::("b",.int b)::("n",.int n)::("a_digits",.lst ds)::("r",.int r)::("q_digits",.own qs)::e
theorem r7:dY oM 40 (aw 7) xV ["q_digits"] 5 false ["a","b"] [.int a,.int b] k o=(∃a' n':Nat,[AV.int a,.int ((bk b:Nat):Int)]=[.int a',.int n']/\(1<=n'/\n'<=2^20/\bk (a':Int)<=90000)/\∀l,l=nA (d7 n' a' (cK n' a'))->([]:List AV).length<=10000/\L7 k l.reverse (s7 a b ((bk b:Nat):Int) 0 l [] []) o):=⋯
def T7(b n r x:Int)(qs:List AV)(g:Int->Int->Prop):Prop:=(0<=n/\((bk r:Nat):Int)+n<=2^27)/\Bo [r*2^n.toNat+x,b,n]/\∀q r',q=cQ [r*2^n.toNat+x,b,n]/\r'=cR [r*2^n.toNat+x,b,n]->qs.length<=10000000/\g q r'
noncomputable def e7(x q:Int):Sg:=[("a_digit",.int x),("q_digit",.int q)]
theorem l7a:L7 k (.int x::xs) (s7 a b n r ds qs []) o=T7 b n r x qs λq r'=>L7 k xs (s7 a b n r' ds (qs++[.int q]) (e7 x q)) o:=⋯
theorem l7b:L7 k (.int x::xs) (s7 a b n r ds qs (e7 y z)) o=T7 b n r x qs λq r'=>L7 k xs (s7 a b n r' ds (qs++[.int q]) (e7 x q)) o:=⋯
def E7(k:AV->Way->Prop)(n r:Int)(qs:List AV)(o:Way):Prop:=qs.length<=10000000/\∃(is:List Nat) (m:Nat),[AV.lst qs.reverse,.int n]=[.lst (nA is),.int m]/\((∀d∈is,d<2^m)/\m*is.length<=2^26/\is.length<=90000/\m<=2^26)/\2<=10000/\k (.tup [.int (valN m is:Nat),.int r]) o
theorem l7c:L7 k [] (s7 a b n r ds qs []) o=E7 k n r qs o:=⋯
theorem l7d:L7 k [] (s7 a b n r ds qs (e7 y z)) o=E7 k n r qs o:=⋯
end
section
variable{a n b:Nat}
theorem aes(hb:0<b)(hn:n<=7998)(fZ:b<2^n)(FM:2^n<=2*b)(hd:∀d∈ds,d<2^n)(hl:ds.length<=90000)(hx:E7 k n (dZ n b ds).2 (nA (dZ n b ds).1).reverse o):∀j e,(e=[]∨∃x y,e=e7 x y)->j<=ds.length->L7 k (nA (ds.take j)).reverse (s7 a b n (dZ n b (ds.drop j)).2 l (nA (dZ n b (ds.drop j)).1).reverse e) o:=by
 intro j
 induction j with
 |zero=>
  intro e he _;rw[tR];rcases he with rfl|⟨x,y,rfl⟩
  ·exact l7c.mpr hx
  ·exact l7d.mpr hx
 |succ j ih=>
  intro e he hj;have hj:=hj;have e1:(nA (ds.take (j+1))).reverse=.int (ds[j]:Nat)::(nA (ds.take j)).reverse:=by rw[nA,List.take_succ_eq_append_getElem hj,nW,List.reverse_append];rfl
  have e2:=pG hj;have Ph:=hd _ (SQ hj);generalize ds[j]=x at e1 e2 Ph;have hr:=FT n b hb (ds.drop (j+1));have hq:(dZ n b (ds.drop (j+1))).1.length<=90000:=by rw[FR,wP];exact(aC 0xeb15f905a0b15f905a12f1fd090b819211fd1881920b18192 0x10014111010116113) hl aq
  have ih:=λy z=>ih (e7 y z) (.inr ⟨y,z,rfl⟩) (dw hj);rw[e2]at ih;simp only[dZ]at ih;rw[e1];generalize (dZ n b (ds.drop (j+1))).2=r at hr ih⊢;generalize (dZ n b (ds.drop (j+1))).1=qs at hq ih⊢;have aM:r*2^n+x<b*2^n:=by have:=IN (2^n) (show r+1<=b from hr);rw[wT]at this;exact(a9 0xec2810c31b281e3190 17903892) Ph this
  have e1:((r:Nat):Int)*2^(n:Int).toNat+((x:Nat):Int)=((r*2^n+x:Nat):Int):=by rw[cw];push_cast;rfl
  have T:T7 b n r x (nA qs).reverse λq r'=>L7 k (nA (ds.take j)).reverse (s7 a b n r' l ((nA qs).reverse++[.int q]) (e7 x q)) o:=by
   refine⟨⟨bA n,?_⟩,⟨_,_,n,rfl,hn,⟨by rw[e1];exact bA _,by rw[e1];exact_mod_cast aM⟩,⟨by exact_mod_cast hb,by exact_mod_cast fZ⟩,by exact_mod_cast FM⟩,λq r' e=>?_⟩
   ·have h1:=bits_le (a:=((r:Nat):Int)) (k:=n) (by rw[fQ];exact(aC 0xec10c12c20 17903891) fZ hr)
    have xW:(2:Int)^27=134217728:=rfl;exact(bL 0xe6e085e15e0b1f3e4a1b108e80000007a0 4524563379606050 [_,_] [_]) hn h1 xW
   ·have eq:q=((r*2^n+x:Nat):Int).fdiv b:=by rw[<-e1];exact e.1
    have er:r'=((r*2^n+x:Nat):Int).fmod b:=by rw[<-e1];exact e.2
    rw[iF _ (bA b)]at eq;rw[wS _ (bA b)]at er;refine⟨by rw[Tc,bB];exact(ax 0xeb9896806a0b15f905a0 1122577) hq,?_⟩;rw[eq,er];have:=ih (x:Int) (((r*2^n+x:Nat):Int)/b);rwa[show(nA ((r*2^n+x)/b::qs)).reverse=(nA qs).reverse++[.int (((r*2^n+x:Nat):Int)/b)]from IT ..]at this
  rcases he with rfl|⟨y,z,rfl⟩
  ·exact l7a.mpr T
  ·exact l7b.mpr T
theorem aet(h:0<b):2^bk (b:Int)<=2*b:=by unfold bk;rw[if_neg (by simp;exact(ax 0xe0fd090c009 16855313) h),jy];have:=Nat.log2_self_le (n:=b) ((ax 0xe0fd090c009 16855313) h);simp only[fQ];exact(ao 0xeb1e1292e290b10 69039362594) this
theorem aeu(h0:0<b)(hb:b<2^7998)(ha:a<2^90000)(hk:k (.tup [.int (a/b:Nat),.int (a%b:Nat)]) o):dY oM 40 (aw 7) xV ["q_digits"] 5 false ["a","b"] [.int a,.int b] k o:=by
 have xX:=Pe b;have Bn:=aet h0;have vy:bk (b:Int)<=7998:=bits_le (by rw[fQ];exact hb);have FU:bk (a:Int)<=90000:=bits_le (by rw[fQ];exact ha);rw[r7];generalize bk (b:Int)=n at xX Bn vy⊢;have vw:1<=n:=by
  rcases Di n with h|h
  ·rw[h]at xX;simp at xX;exact((ax 0xe4fc009d090 1122577) h0 xX).elim
  ·exact h
 refine⟨a,n,rfl,⟨vw,by exact(ax 0xeb1000006a0b1f3e4a0 1122577) vy,by exact(ax 0xeb15f905a0b15f905a0 1122577) FU⟩,λl el=>⟨fP _,?_⟩⟩;have FW:=Pg (a:=a) vw (by exact(ax 0xeb1000006a0b1f3e4a0 1122577) vy) (by exact(ax 0xeb15f905a0b15f905a0 1122577) FU);have FX:n*cK n a<=bk (a:Int)+n-1:=Nat.mul_div_le _ _;have FY:=Pf (a:=a) vw;have sJ:=Bp n a (cK n a);have Bq:=Pb n (cK n a) a;have Pi:=Pa n (cK n a) a FY;generalize d7 n a (cK n a)=ds at sJ Bq Pi el;subst el;have hq:=FR n b ds;have hr:=FT n b h0 ds;have hv:=Pc n b h0 ds;have hqd:=Pd n b h0 ds Bq
 have:=aes (a:=a) (l:=nA ds) (k:=k) (o:=o) h0 vy xX Bn Bq ((ao 0xeb15f905a0b15f905a1d10 17903890) FW sJ) ⟨by rw[Tc,bB];exact(aC 0xeb9896806a0b15f905a1d12d20 4312879379) FW sJ hq,_,n,by rw[List.reverse_reverse],⟨hqd,by rw[hq,sJ];exact(a9 0xeb40000007a0b15f905a1b1f3e4a2b302f1fd093b198211fd8218193b82119 0x1010016111011116114) FU vy FX aq,by exact(aC 0xeb15f905a0b15f905a1d12d20 4312879379) FW sJ hq,by exact(ax 0xeb40000007a0b1f3e4a0 1122577) vy⟩,⋯,by
  rw[Pi]at hv;generalize (dZ n b ds).2=r at hr hv⊢;generalize (dZ n b ds).1=qs at hv⊢;rw[show valN n qs=a/b by rw[hv,fO,Nat.mul_add_div h0,Jc hr,IQ],show r=a%b by rw[hv,fO,Nat.mul_add_mod,Nat.mod_eq_of_lt hr]]
  exact hk⟩ ds.length [] (.inl rfl) (aQ _)
 rw[List.drop_length,I0]at this;exact this
end
section
theorem aew(D:eP base 66 (aw 7) o pm cd doc)(B:ck base mg mb)(g1:mg "_int2digits"=some (.ref 52))(g2:mg "_div2n1n"=some (.ref 38))(g3:mg "_digits2int"=some (.ref 59))(g4:mg "reversed"=none/\mb "reversed"=some (.type "reversed")) (c1:∀d,aZ Hw prog wd base mg mb 52 (d+22) false F5) (c2:∀d,aZ Hw prog wd base mg mb 38 (d+3) false (gO Bo cQ cR)) (c3:∀d,aZ Hw prog wd base mg mb 59 (d+22) false F6):aZ Hw prog wd base mg mb 66 (d+23) false (gO (PI false false) cQ cR):=
 .run eO 40 (xs:=["a","b"]) (gl:=xV) (mu:=["q_digits"]) (wf:=5) D B ⋯ (λvs h=>o6 h λJ J=>rfl) (λC R=>Gs.cons (.fn (R.g▸g1) (c1 _ C R)) (Gs.cons (.fn (R.g▸g2) (c2 (d+19) C R)) (Gs.cons (.bi (R.g▸g4.1) (R.b▸g4.2)) (Gs.cons (.fn (R.g▸g3) (c3 _ C R)) Gs.nil)))) λas k x=>by
  obtain⟨is,rfl,⟨a,b,rfl,h⟩,o,hk⟩:=vt x;obtain⟨a,rfl⟩:=pP (h.na rfl);obtain⟨b,rfl⟩:=pP (h.nb rfl);refine⟨rfl,o,aeu (by have:=h.b0;exact(ax 0xec0090f8e095e0 18833717866769) this) (by have:=h.hb;rwa[fQ]at this) (by have:=h.ha;rwa[fQ]at this) ?_⟩;have e1:cQ [(a:Int),b]=((a/b:Nat):Int):=by show Int.fdiv (a:Int) (b:Int)=_;rw[iF _ (bA b)];rfl
  have e2:cR [(a:Int),b]=((a%b:Nat):Int):=by show Int.fmod (a:Int) (b:Int)=_;rw[wS _ (bA b)];rfl
  rw[e1,e2]at hk;exact hk
end
inductive nH(h:Heap)(c P:Addr):Prop
 |mk (o:Obj) (vs:Array aa) (file:Str) (tf:Tok) (flags:Int) (tg:Tok) (xY:Bool) (text:Int) (tt:Tok) (g:h.get? c=some o) (r1:o.data=.fields vs) (r2:vs.getD 11 .none=.ref P) (r3:vs.getD 18 .none=.str file tf)
  (r4:vs.getD 7 .none=.int flags tg) (r5:vs.getD 9 .none=.bool xY) (r6:vs.getD 10 .none=.int text tt) (r7:c≠P/\o.cls=.type "code"/\vs[11]?=some (.ref P)) (r8:eG c=false)
theorem FZ{o:Obj}{vs:Array aa}{b:Addr}{i:Nat}{v:aa}(d:o.data=.fields vs)(e:vs[i]?=some v)(x:eG b=false):NF b o:=λus d'=>x
theorem nH.keep{h h':Heap}{c P:Addr}(hk:Kp h h'):nH h c P->nH h' c P|⟨o,vs,file,tf,flags,tg,xY,text,tt,g,r1,r2,r3,r4,r5,r6,r7,r8⟩=>⟨o,vs,file,tf,flags,tg,xY,text,tt,hk _ _ (FZ r1 r7.2.2 r8) g,r1,r2,r3,r4,r5,r6,r7,r8⟩
theorem aex(l:List aa)(h:TriplesOk l)(e:codeAmong pos (l++[rawInt a,rawInt b,c])=some d):codeAmong pos l=some d∨d=c:=by
 fun_induction TriplesOk l with
 |case1=>
  simp only[wG,rawInt,codeAmong]at e
  split at e
  ·exact .inr (aO e).symm
  ·cases e|case2 a t b u x rest ih=>
  simp only[tT,codeAmong]at e⊢
  split at e
  ·rename_i hc;rw[if_pos hc];exact .inl e
  ·rename_i hc;rw[if_neg hc];exact ih h e|case3 l h1 h2=>exact h.elim
inductive Tab:Addr->Str->Prop
 |one:Tab 47 "_int2digits.<locals>.inner"|two:Tab 54 "_digits2int.<locals>.inner"
theorem Tab.ok(t:Tab P q)(i:gL h):gz h P q:=by
 cases t
 ·exact i.one
 ·exact i.two
theorem Tab.ex(t:Tab P q):eG P=true:=by cases t<;>rfl
theorem gz.ne(t:gz h p q)(z:h.objs.size<=a):a≠p:=t.elim λo r=>r.elim λvs r=>λe=>absurd (bu r.1) (Nat.not_lt.mpr (e▸z))
theorem gL.fresh(x:gL h)(z:h.objs.size<=a):eG a=false:=by unfold eG;rw[show(a==47)=false from beq_eq_false_iff_ne.mpr (x.one.ne z),show(a==54)=false from beq_eq_false_iff_ne.mpr (x.two.ne z)];rfl
theorem gz.other(hP:eG P=true)(hp:p≠P)(hk:C5 P h h'):gz h p q->gz h' p q:=λ⟨o,vs,g,d,t,r⟩=>⟨o,vs,hk p o hp g,d,t,λpos c e=>(r pos c e).1.elim λa z=>⟨⟨a,z.elim λoc z=>z.elim λws z=>z.elim λt z=>⟨oc,ws,t,z.1,hk a oc (λq=>aL (((r pos c e).2 a z.1).symm.trans (q▸hP))) z.2.1,z.2.2⟩⟩,(r pos c e).2⟩⟩
theorem Tab.add(t:Tab P q)(i:gL h)(hk:C5 P h h')(hn:gz h' P q):gL h':=by
 cases t
 ·exact⟨hn,i.two.other rfl ⋯ hk⟩
 ·exact⟨i.one.other rfl ⋯ hk,hn⟩
theorem Kp.code{h h':Heap}(hk:Kp h h'){cd:aa}{q:Str}(hx:∀a,cd=.ref a->eG a=false):h.CodeRec cd q->h'.CodeRec cd q|⟨c,oc,ws,t,e1,g1,d1,r1⟩=>⟨c,oc,ws,t,e1,hk _ _ (FZ d1 r1 (hx c e1)) g1,d1,r1⟩
section
theorem aey(hc:env.code=.ref c)(gg:nH s.heap c P)(t:Tab P qualname)(i:gL s.heap) (hQ:∀cd h' tk,aI s.heap h'->h'.CodeRec cd qualname->(∀a,cd=.ref a->eG a=false)->Q cd {s with heap:=h',toks:=tk}):wpAny M A (functionCode env pos firstLine name qualname p scope body) Q E s:=by
 obtain⟨o,vs,file,tf,flags,tg,xY,text,tt,ho,hd,Pj,h2,h7,h9,F0,⟨dB,hcl,aeA⟩,hx⟩:=gg;obtain⟨op,ps,jm,Br,⟨Pk,hpo⟩,nI⟩:=t.ok i;cases hf:codeAmong pos ps.toList with
 |some cd=>unfold functionCode codeAt;rw[hc,if_neg (show ¬((fx c==i6)=true)from aL)];refine ar (wpAny_fieldsOf ho hd ?_);rw[Pj];refine ar (wpAny_fieldsOf jm Br ?_);rw[hf];exact aV (hQ cd s.heap s.toks (.refl _) (nI pos cd hf).1 (nI pos cd hf).2)|none=>
  have o7:s.heap.IsCode c P ps:=⟨o,vs,file,tf,flags,tg,xY,text,tt,op,ho,hd,Pj,h2,h7,h9,F0,jm,Br,Pk,dB⟩
  have aeC:s.heap.TableAt c P ps:=⟨⟨o,vs,ho,hcl,hd,aeA⟩,by
   obtain⟨oc,od,odt,os⟩:=op;obtain⟨h1,h2,h3⟩:=hpo;cases h1;cases h2;cases h3;cases Br
   exact jm⟩
  refine wpAny_functionCodeX hc o7 aeC hf λc' h' tk Bt oA aM aeD Bu hta htb=>?_;have fr:=i.fresh oA
  have kp:Kp s.heap h':=λb o q e=>Bt b o (λz=>by
   have e:=aO (((z▸e:s.heap.get? P=some o)).symm.trans jm);have q:=(q ps (e▸Br))
   rw[z,t.ex]at q
   exact aL q.symm) e
  refine hQ (.ref c') h' tk ⟨dw (b9 oA aM),kp,λJ=>t.add i Bt ?_⟩ Bu (λa e=>by cases e;exact fr);obtain⟨_,_,_,_,_,_,_,_,_,op',_,_,_,_,_,_,_,amN,amO,aeF,_⟩:=aeD;refine⟨_,_,hta.2,rfl,⟨aeF,rfl,rfl,rfl⟩,λpos' d e=>?_⟩;rw[show(ps++#[rawInt pos.line,rawInt pos.col,fx c']).toList=ps.toList++[rawInt pos.line,rawInt pos.col,.ref c']by simp]at e;rcases aex _ Pk e with e|rfl
  ·exact⟨kp.code (nI pos' d e).2 (nI pos' d e).1,(nI pos' d e).2⟩
  ·exact⟨Bu,λa e=>by cases e;exact fr⟩
end
def d3(st:Stmt)(qual:Str)(cl:List (Str×Addr))(ct cd pm:aa):nX:=
 {name:=nameOf st,qualname:=qual,params:=mK st,body:=.stmts (bodyOf st),scope:=aE st,globals:=mainGlobals,closure:=cl,closureTuple:=ct,code:=cd,builtins:=builtinsNs,
  defaults:=.none,kwdefaults:=.none,annotations:=none,pyModule:=pm,doc:=.none}
structure qG(h:Heap)(f:Addr)(st:Stmt)(qual:Str)(cl:List (Str×Addr))(ct cd pm:aa):Prop where
 here:h.get? f=some {cls:=.type "function",data:=.func (d3 st qual cl ct cd pm)}
 code:h.CodeRec cd qual
 exc:∀a,cd=.ref a->eG a=false
theorem qG.keep{h h':Heap}{f:Addr}{st:Stmt}{qual:Str}{cl:List (Str×Addr)}{ct cd pm:aa}(k:Kp h h')(x:qG h f st qual cl ct cd pm):qG h' f st qual cl ct cd pm:=⟨k _ _ nofun x.here,k.code x.exc x.code,x.exc⟩
def o9(base:Heap)(mg:Str->Option aa):Prop:=∃bm o,mg "__builtins__"=some (.ref bm)/\bm≠builtinsNs/\base.get? bm=some o/\o.cls=.type "module"/\o.dict=some builtinsNs/\o.data=.plain
structure Bv(C:Fc)(st:Stmt)(pos:Pos)(qual:Str):Prop where
 s:st=.FunctionDef (nameOf st) (mK st) (bodyOf st) [] none [] (aE st) none (nameOf st) pos
 df:defaultsOf (mK st) C.env=([],[])
 an:annTrees (mK st) none C.env=[]
 kw:(mK st).kwonlyargs=[]
 doc:docOf (bodyOf st)=none
 cl:∀n,(n,fA)∈(aE st).names->(C.env.cells.lookup n).isSome=true
 q:qualnameIn C.env (nameOf st) (nameOf st)=qual
section
variable{ad:Str->Addr}
theorem Rel.F7(R:Rel C ad σ h):C.AS h:=⟨R.loc,R.aN⟩
theorem aeG{st:Stmt}{qual:Str}{pos:Pos}{c P:Addr}{Q:Flow->aF->Prop}{E:aa->aF->Prop}(O:C.Ok)(R:Rel C ad σ h)(F8:C.env.code=.ref c)(gg:nH C.base c P)(t:Tab P qual)(hB:o9 C.base C.mg)(T:Bv C st pos qual)(hx:C.mD (nameOf st)) (q:∀ad' h' ak f ct cd pm,bN C ad σ h ad' (bR (nameOf st) (.jb (.ref f)) σ) h'->Rel C ad' (bR (nameOf st) (.jb (.ref f)) σ) h'->qG h' f st qual (dM C.env.cells (aE st).names []) ct cd pm->C.Var h' (nameOf st) (.ref f)->Q .next (C.st h' ak)):wpAny (M_ C) C.A (exec st C.env) Q E (C.st h tk):=by
 have e:=congrArg (λx=>exec x C.env) T.s;rw[e,exec_def,T.df,T.an,T.q];have hc:=Ov (scope:=aE st) (env:=C.env) T.cl;refine ar (pO (ar (kD ?_)));refine ar (aV (ar (kD (aV (kD (ar (aV ?_)))))));simp only[makeFunction,T.kw,List.zip_nil_left,List.filterMap_nil,List.isEmpty_nil,if_true,pure_bind,hc,T.doc];generalize amP:dM C.env.cells (aE st).names []=cl at q⊢
 have mid:∀ct h₁ bq,aI h h₁->wpAny (M_ C) C.A (do
   let code <-functionCode C.env pos pos.line (nameOf st) qual (mK st) (aE st) (.stmts (bodyOf st))
   let blt <-builtinsFor C.env.globals C.env.builtins
   let pm <-nsGet C.env.globals "__name__"
   newObj (.type "function") (.func {d3 st qual cl ct code (pm.getD .none)with globals:=C.env.globals,builtins:=blt}))
   (λv s'=>wpAny (M_ C) C.A (do standAt pos;bindName C.env (nameOf st) v;pure Flow.next) Q E s') E (C.st h₁ bq):=by
  intro ct h₁ bq gB;have eK:=R.grow gB;refine ar (aey (s:=C.st h₁ bq) F8 (gg.keep eK.base) t eK.tabs λcd av bI bx Bu Pm=>?_);have ji:=eK.grow bx;obtain⟨bm,o,FN,aeH,hbo,aeJ,aeK,Pn⟩:=hB;have hg:av.Ns C.env.globals C.mg:=by rw[O.glob];exact ji.base.ns O.g
  refine ar (wpAny_builtinsFor hg FN aeH (ji.base _ _ (λvs d=>by rw[Pn]at d;cases d) hbo) aeJ aeK Pn ?_);refine ar (wpAny_nsGet hg ?_);refine I4 ?_ (by size_fits);rw[O.glob];have fin:∀cF kL,aI av cF->cF.get? av.objs.size=some {cls:=.type "function",data:=.func (d3 st qual cl ct cd ((C.mg "__name__").getD .none))}->wpAny (M_ C) C.A (do standAt pos;bindName C.env (nameOf st) (.ref av.objs.size);pure Flow.next) Q E (C.st cF kL):=λcF kL jD hpu=>by have jh:=ji.grow jD;refine ar (pO (ar (wpAny_bindName (xy (p:=(nameOf st,.jb (.ref av.objs.size),.ref av.objs.size)) O jh.F7 hx λh' ak P=>aV ?_))));have d:=xB (W:=λJ=>False) O R ((gB.trans bx).trans jD) (λb z=>z.elim λy z=>z.elim λxs m=>by cases List.mem_singleton.mp m) (λp m=>by rw[List.mem_singleton.mp m];exact hx.2) (λp m=>by rw[List.mem_singleton.mp m];exact .val rfl rfl) (λy z xs ys b m=>by cases List.mem_singleton.mp m) P;exact q _ h' ak _ ct cd _ d.1 d.2 ⟨P.kp _ _ (λn=>absurd n aL) hpu,CodeRec.bZ (λb o vs d e=>P.kp b o (λn=>(n.bZ d).elim) e) (jD.kp.code Pm Bu),Pm⟩ ((P.var _).got _ (show ae (aA (nameOf st) (nameOf st)) _ _=_ by rw[jZ]))
  exact fin _ _ (.push ..) (cU _ rfl)
 cases Fg:cl.isEmpty with|true=>have:=mid .none h tk (aI.refl h);rw[if_pos rfl];exact this|false=>rw[if_neg ⋯];exact ar (wpAny_newTextTuple (mid _ _ _ (aI.push ..)))
end
section
variable{ad:Str->Addr}{ok:Addr->Prop}{α:Type}
theorem Bw{α:Type}{x:Str}{a:α}{l':List (Str×α)}:∀{l:List (Str×α)},aj x (l++l')=some a->aj x l=some a∨aj x l'=some a
 |[],e=>.inr e|(y,b)::l,e=>by
  have e:ae (aA x y) (some b) (aj x (l++l'))=some a:=e;show ae (aA x y) (some b) (aj x l)=some a∨_;cases c:aA x y with|true=>rw[c]at e;exact .inl e|false=>rw[c]at e;exact Bw e
theorem Pp:∀{xs:List Str} {as:List AV} {vs:List aa},xs.Nodup->ay h ok as vs->aj x (xs.zip as)=some a->∃v,VR h ok a False v/\aj x (xs.zip vs).reverse=some v/\x∈xs
 |[],_,_,_,_,e=>ai e|_::_,[],_,_,_,e=>ai e|y::xs,b::as,_,nd,⟨r1,r2⟩,e=>by
  rename_i v vs
  have e:ae (aA x y) (some b) (aj x (xs.zip as))=some a:=e;rw[List.zip_cons_cons,IT,<-eN,List.lookup_append];cases c:aA x y with
  |true=>
   rw[c]at e;have vq:=(cN x y).mp c;have nx:=vq▸(List.nodup_cons.mp nd).1;refine⟨v,aO e▸r1,?_,vq▸aK⟩;cases z:(xs.zip vs).reverse.lookup x with|some u=>exact absurd (wQ (List.mem_reverse.mp (ng z))).1 nx|none=>rw[eN];show(none.or (ae (aA x y) (some v) none))=_;rw[c];rfl
  |false=>rw[c]at e;obtain⟨u,q1,q2,q3⟩:=Pp (List.nodup_cons.mp nd).2 r2 e;exact⟨u,q1,by rw[eN,q2];rfl,aY _ q3⟩
structure kO(sc:ig)(xs:List Str)(cl:List (Str×Addr)):Prop where
 kind:sc.kind=.function
 co:sc.isCoroutine=false
 gen:sc.isGenerator=false
 nd:oU sc.names=true
 nc:∀p∈sc.names,p.2≠ .cell
 vm:∀p∈sc.names,cY p.1=true
 par:∀x∈xs,aj x sc.names=some .local
 nx:xs.Nodup
 lK:∀x,aj x sc.names=some .free->∃c,cl.lookup x=some c
structure jG(B:Heap)(f:Addr)(st:Stmt)(qual:Str)(cl:List (Str×Addr))(fv:Sg)(pin:List (Str×aa)):Prop where
 fo:∃ct cd pm,qG B f st qual cl ct cd pm
 aN:∀x c,cl.lookup x=some c->∃v,B.IsCell c (some v)
 ap:∀x y c,cl.lookup x=some c->cl.lookup y=some c->x=y
 fv:∀x a,aj x fv=some a->aj x (aE st).names=some .free/\∃c v,cl.lookup x=some c/\B.IsCell c (some v)/\VR B (λJ=>True) a False v
 pin:∀x v,aj x pin=some v->aj x (aE st).names=some .free/\∃c,cl.lookup x=some c/\B.IsCell c (some v)
theorem Kp.cell(k:Kp h h'):h.IsCell c u->h'.IsCell c u:=λ⟨o,a,b⟩=>⟨o,k c o (λvs e=>by rw[e]at b;cases b) a,b⟩
theorem Kp.bX(k:Kp h h'):∀b o,ok b->cJ o->h.get? b=some o->ok b/\h'.get? b=some o:=λb o q s e=>⟨q,k b o (NF.bX s) e⟩
theorem Kp.trans(k:Kp h h')(k':Kp h' cX):Kp h cX:=λb o n e=>k' b o n (k b o n e)
variable{st:Stmt}{qual:Str}{cl:List (Str×Addr)}{fv:Sg}{pin:List (Str×aa)}{C:Fc}{fd:nX}{ct cd pm:aa}{base':Heap}
theorem jG.keep(k:Kp h h')(X:jG h f st qual cl fv pin):jG h' f st qual cl fv pin:=⟨X.fo.imp λct z=>z.imp λcd z=>z.imp λpm z=>z.keep k,λx c e=>(X.aN x c e).imp λv z=>k.cell z,X.ap,λx a e=>⟨(X.fv x a e).1,(X.fv x a e).2.imp λc z=>z.imp λv z=>⟨z.1,k.cell z.2.1,z.2.2.mono k.bX a gY⟩⟩,λx v e=>⟨(X.pin x v e).1,(X.pin x v e).2.imp λc z=>⟨z.1,k.cell z.2⟩⟩⟩
@[reducible] noncomputable def hV (C:Fc) (h base':Heap) (f:Addr) (fd:nX) (pin:List (Str×aa)):Fc:=⟨C.prog,C.w,C.A.deeper (callEnv fd h.objs.size f),callEnv fd h.objs.size f,λJ=>True,h.objs.size,h.objs.size,h.objs.size,base',C.mg,C.mb,pin,C.z⟩
theorem kO.kindOf(S:kO (aE st) xs cl):(callEnv (d3 st qual cl ct cd pm) L f).kindOf x=some k↔aj x (aE st).names=some k:=by rw[<-eN];exact Iff.rfl
theorem kO.Pq(S:kO (aE st) xs cl)(e:aj x (aE st).names=some .cell):False:=S.nc _ (fm e) rfl
theorem Ps(S:kO (aE st) xs cl)(X:jG h f st qual cl [] [])(B:ck base' C.mg C.mb)(hp:∀x v,aj x pin=some v->aj x (aE st).names=some .free)(z:base'.objs.size<=h.objs.size):(hV C h base' f (d3 st qual cl ct cd pm) pin).Ok where
 kind:=S.kind
 glob:=rfl
 blt:=rfl
 g:=B.g
 b:=B.b
 nolimit:=B.lim
 kH x c e:=(X.aN x c e).elim λv z=>z.elim λo z=>fG (bu z.1)
 cells:=X.ap
 cell x k:=k.elim (λk=>(S.Pq (S.kindOf.mp k)).elim) λk=>S.lK x (S.kindOf.mp k)
 pin x v e:=S.vm _ (fm (hp x v e))
 new _ _:=trivial
 qk:=λb o e J=>fy (bu e) z
 oE:=aQ _
 ql:=aQ _
 size:=z
theorem Pt(S:kO (aE st) xs cl)(T:gL h)(kb:Kp base' h){is:List Int}(r:ay h ok (is.map .int) vs)(X:jG h f st qual cl [] pin) (FV:∀x a,aj x fv=some a->aj x (aE st).names=some .free/\∃c v,cl.lookup x=some c/\h.IsCell c (some v)/\(hV C h base' f (d3 st qual cl ct cd pm) pin).VX ad (xs.zip (is.map AV.int)++fv) h x a v) (ow:∀x ys,aj x fv=some (.own ys)->(hV C h base' f (d3 st qual cl ct cd pm) pin).Out (ad x)) (inj:∀x y us ws,aj x fv=some (.own us)->aj y fv=some (.own ws)->ad x=ad y->x=y) (hn:h₁.Ns h.objs.size λx=>(xs.zip vs).reverse.lookup x) (hk:oB h h₁):Rel (hV C h base' f (d3 st qual cl ct cd pm) pin) ad (xs.zip (is.map AV.int)++fv) h₁:=by
 have vz:∀{x a},aj x (xs.zip (is.map AV.int))=some a->∃i,a=.int i:=λ{x a} e=>by obtain⟨i,_,e⟩:=List.mem_map.mp (wQ (fm e)).2;exact⟨i,e.symm⟩
 have own:∀{x ys},aj x (xs.zip (is.map AV.int)++fv)=some (.own ys)->aj x fv=some (.own ys):=λ{x ys} e=>(Bw e).elim (λe=>(vz e).elim λi z=>AV.noConfusion z) id;have z:=EN hn
 exact {base:=λb o n e=>hk b o (kb b o n e),tabs:=⟨T.one.keep hk,T.two.keep hk⟩,loc:=⟨_,hn⟩,aN:=λx c e=>(X.aN x c e).elim λv z=>⟨_,z.keeps hk⟩,own:=λx ys e=>⟨ow x ys (own e),trivial⟩,inj:=λx y us ws e e'=>inj x y us ws (own e) (own e'),sz:=z.elim λo z=>dw (bu z.1),pin:=λx v e=>(X.pin x v e).2.elim λc z=>.aN (.inr (S.kindOf.mpr (X.pin x v e).1)) c z.1 (z.2.keeps hk),var:=λx a e=>(Bw e).elim (λe=>by
   obtain⟨v,q,l,mx⟩:=Pp S.nx r e;obtain⟨i,rfl⟩:=vz e
   exact⟨v,.loc (S.kindOf.mpr (S.par x mx)) _ hn ((eN _ _).trans l),.val q⟩) λe=>(FV x a e).2.elim λc z=>z.elim λv z=>⟨v,.aN (.inr (S.kindOf.mpr (FV x a e).1)) c z.1 (z.2.1.keeps hk),z.2.2.mono (λb o k s g=>⟨k,hk b o g⟩) λus b o J eb s g=>⟨eb,hk b o g⟩⟩}
variable{gl:List (Str×GV α)}{pn:List (Str×(List AV->(AV->α)->α))}{sn:List (Str×(List AV->Sg->(Sg->α)->α))}{mu:List Str}{wf:Nat}{n:Nat}
theorem Pu(S:kO (aE st) xs cl)(O:(hV C h base' f (d3 st qual cl ct cd pm) pin).Ok)(hp:∀x v,aj x pin=some v->aj x (aE st).names=some .free)(R:Rm prog wd base mg mb d hn (hV C h base' f (d3 st qual cl ct cd pm) pin)) (G:∀x g,aj x gl=some g->fj H (hV C h base' f (d3 st qual cl ct cd pm) pin) x g) (P:∀x g,aj x pn=some g->aj x pin=some (.ref f)/\kK H (hV C h base' f (d3 st qual cl ct cd pm) pin) f g) (Q:∀x g,aj x sn=some g->aj x pin=some (.ref f)/\AW H (hV C h base' f (d3 st qual cl ct cd pm) pin) f g):a7 H (hV C h base' f (d3 st qual cl ct cd pm) pin) ⟨(aE st).names,gD (aE st).names,gl,pn,mu,wf,hn,sn⟩ where
 ok:=O
 hu:=b9 (Dc (lY _ _) _) R.u
 hn:=R.n
 hm:=R.m
 kind x kd:=S.kindOf
 name x kd e:=S.vm _ (fm e)
 glob:=G
 pin x g e:=⟨f,P x g e⟩
 sN x g e:=⟨f,Q x g e⟩
 hO x e:=by
  have e:=e;obtain⟨y,my,ey⟩:=List.any_eq_true.mp e;obtain⟨⟨z,kd⟩,mq,eq⟩:=List.mem_map.mp my;have mq:=List.mem_filter.mp mq;rw[(cN x y).mp ey,<-eq];have c:=mq.2;have lk:=nE S.nd mq.1;cases kd with
  |«local»=>exact⟨.inl ⟨S.kindOf.mpr lk,aQ _⟩,by
    cases w:aj z pin with|none=>rfl|some v=>exact wR (aO (lk.symm.trans (hp z v w)))⟩|cell=>exact(S.Pq lk).elim|_=>exact absurd c aL
theorem Rm.inner(R:Rm prog wd base mg mb (d+1) hn C)(k:Kp base base')(m:cB C.A base'):Rm prog wd base mg mb d hn (hV C h base' f fd pin):=⟨R.p,R.w,k,by show C.A.depth+1+d<_;have:=R.dp;exact(aC 0xec2818190c2881910 1122579) this,by show C.A.units+3+3*d+64<_;have:=R.u;exact(aC 0xec28402a81e1398390c28402a81e8191390 1122579) this,R.n,m,R.g,R.b⟩
theorem ck.keep(B:ck h mg mb)(k:Kp h h'):ck h' mg mb:=⟨B.lim.elim λmc n=>⟨mc,Kp.ns k n.1,n.2⟩,Kp.ns k B.g,Kp.ns k B.b⟩
theorem Pv(S:kO (aE st) xs cl)(aeM:C.A.depth<recursionLimit)(FO:qG h f st qual cl ct cd pm)(L:h.NoLimit)(hl:vs.length=xs.length) (hb:∀ct cd pm (vs:List aa),vs.length=xs.length->bindArgs (d3 st qual cl ct cd pm) ⟨vs,[]⟩=pure (xs.zip vs)) (q:∀h₁ tk,h₁.Ns h.objs.size (λx=>(xs.zip vs).reverse.lookup x)->oB h h₁->wpAny (M_ C) (hV C h base' f (d3 st qual cl ct cd pm) pin).A (execs (bodyOf st) (hV C h base' f (d3 st qual cl ct cd pm) pin).env) (λfl s'=>R (.ok (.ret (match fl with|.ret v=>v|_=>.none))) s') aD (C.st h₁ tk)):codeAny (M_ C) C.A (.call (.ref f) ⟨vs,[]⟩) R (C.st h tk):=
 codeAny_call_plain (fd:=d3 st qual cl ct cd pm) aeM FO.here rfl L FO.code rfl (hb ct cd pm vs hl) S.nc (λx m=>(eN _ _).trans (S.par x.1 (wQ m).1)) (λh₀ hn hk=>kE (q h₀ _ hn hk) (λJ J x=>x) λJ J x=>x.elim) S.co S.gen S.kind
theorem aZ.inner(M:m.Ok H)(n:Nat)(S:kO (aE st) xs cl)(X:jG base f st qual cl fv pin)(B:ck base mg mb) (hb:∀ct cd pm (vs:List aa),vs.length=xs.length->bindArgs (d3 st qual cl ct cd pm) ⟨vs,[]⟩=pure (xs.zip vs)) (G:∀C,Rm prog wd base mg mb d hn C->∀x g,aj x gl=some g->fj H C x g) (P:∀x g,aj x pn=some g->aj x pin=some (.ref f)/\aZ H prog wd base mg mb f d hn g) (hF:∀as k,H (F as k)->∃is:List Int,as=is.map .int/\is.length=xs.length/\H ((bD m n).S ⟨(aE st).names,gD (aE st).names,gl,pn,[],wf,hn,[]⟩ (xs.zip (is.map .int)++fv) (bodyOf st) (λJ=>m.fail) (bY m aR (kI k)))):aZ H prog wd base mg mb f (d+1) hn F:=λC R=>⟨X.fo.elim λct z=>z.elim λcd z=>z.elim λpm z=>⟨_,_,R.k _ _ (λJ e=>iJ e) z.here,rfl⟩,λok h as vs k tk Q kp T ho r x q=>by
 have kb:Kp base h:=R.k.trans kp;have X':=X.keep kb;obtain⟨ct,cd,pm,FO⟩:=X'.fo;obtain⟨is,rfl,hl,hx⟩:=hF as k x;have B':=B.keep kb;have hp:=λx v e=>(X'.pin x v e).1;have O:(hV C h h f (d3 st qual cl ct cd pm) pin).Ok:=Ps S ⟨X'.fo,X'.aN,X'.ap,λJ J e=>ai e,λJ J e=>ai e⟩ (R.g▸R.b▸B') hp (aQ _);have Ri:Rm prog wd base mg mb d hn (hV C h h f (d3 st qual cl ct cd pm) pin):=R.inner kb (R.m.keep kp);have no:∀x ys,aj x fv≠some (.own ys):=λx ys e=>(X'.fv x _ e).2.elim λc z=>z.elim λv z=>z.2.2.elim
 have nm:∀b,¬dC (λJ=>0) (xs.zip (is.map AV.int)++fv) b:=λb z=>z.elim λx z=>z.elim λys z=>(Bw z.1).elim (λe=>by
  obtain⟨i,_,e⟩:=List.mem_map.mp (wQ (fm e)).2
  exact AV.noConfusion e) (no x ys)
 refine Pv (C:=C) (base':=h) (pin:=pin) S (b9 (lY _ _) R.dp) FO B'.lim (by rw[r.length,bB,hl]) hb λh₁ bq hn hk=>?_;have L:=Pt (C:=C) (ct:=ct) (cd:=cd) (pm:=pm) (base':=h) (ad:=λJ=>0) (fv:=fv) S T (λJ J J e=>e) r ⟨X'.fo,X'.aN,X'.ap,λJ J e=>ai e,X'.pin⟩ (λx a e=>⟨(X'.fv x a e).1,(X'.fv x a e).2.imp λc z=>z.imp λv z=>⟨z.1,z.2.1,.val (z.2.2.mono (λb o J J e=>⟨⟨trivial,nm b⟩,e⟩) a gY)⟩⟩) (λx ys e=>absurd e (no x ys)) (λx y us J e=>absurd e (no x us)) hn hk;have Ft:=Pu (mu:=[]) (wf:=wf) (sn:=[]) S O hp Ri (G _ Ri) (λx g e=>⟨(P x g e).1,(P x g e).2 _ Ri⟩) (λx g e=>ai e);refine(j7 M n).S Ft hx _ h₁ L bq _ ⟨λad' σ' h' ak s R z=>absurd z M.fail,λa v ad' σ' h' ak s R' rv z=>aW M.fail z λi ei z=>⟨v,rfl,q v h' ak (.int i) ⟨az L.sz s.sz,λb o nf e=>?_,λJ=>R'.tabs⟩ (by rw[mv ei]at rv;exact rv) z⟩⟩;cases c:ik o.data with|true=>exact s.nk b o c (.inl (bu e)) (hk b o e)|false=>exact s.kp b o ⟨nf,c⟩ (nm b) (hk b o e)⟩
end
@[reducible] noncomputable def Fc.on (C:Fc) (B:Heap) (z:Addr) (pin:List (Str×aa)):Fc:=⟨C.prog,C.w,C.A,C.env,C.ok,z,z,z,B,C.mg,C.mb,pin,C.z⟩
structure On(C:Fc)(B:Heap)(z:Addr):Prop where
 lk:Kp C.base B
 sz:B.objs.size<=z
 nx:C.nx<=z
 nw:C.nw<=z
 pin:C.pin=[]
section
variable{C:Fc}{ad:Str->Addr}{z:Addr}{pin:List (Str×aa)}{K:Sg->Prop}
variable{α:Type}
theorem Fc.Var.on:(C.on B z pin).Var h x v->C.Var h x v|.loc k m n e=>.loc k m n e|.aN k c l e=>.aN k c l e
theorem Fc.Var.to:C.Var h x v->(C.on B z pin).Var h x v|.loc k m n e=>.loc k m n e|.aN k c l e=>.aN k c l e
theorem Fc.VX.on:(C.on B z pin).VX ad σ h x a v->C.VX ad σ h x a v|.val r=>.val r|.own r=>.own r|.bU r=>.bU r
theorem Fc.VX.to:C.VX ad σ h x a v->(C.on B z pin).VX ad σ h x a v|.val r=>.val r|.own r=>.own r|.bU r=>.bU r
theorem Rel.on(G:On C B z)(R:Rel (C.on B z pin) ad σ h):Rel C ad σ h:=⟨G.lk.trans R.base,R.tabs,λx a e=>(R.var x a e).imp λv r=>⟨r.1.on,r.2.on⟩,R.loc,R.aN,λx xs e=>⟨λo g n=>(R.own x xs e).1 o (G.lk _ o n g) n,(R.own x xs e).2⟩,R.inj,az G.nx R.sz,λx v e=>by rw[G.pin]at e;exact ai e⟩
theorem Rel.to(R:Rel C ad σ h)(kb:Kp B h)(hz:z<=h.objs.size)(ow:∀x xs,aj x σ=some (.own xs)->(C.on B z pin).Out (ad x))(hp:∀x v,aj x pin=some v->C.Var h x v):Rel (C.on B z pin) ad σ h:=⟨kb,R.tabs,λx a e=>(R.var x a e).imp λv r=>⟨r.1.to,r.2.to⟩,R.loc,R.aN,λx xs e=>⟨ow x xs e,(R.own x xs e).2⟩,R.inj,hz,λx v e=>(hp x v e).to⟩
theorem bN.on(G:On C B z)(s:bN (C.on B z pin) ad σ h ad' σ' h'):bN C ad σ h ad' σ' h':=⟨s.sz,s.kp,λb o n k e=>s.nk b o n (k.imp (λk=>fy k G.nw) id) e,s.mt⟩
theorem lI.on(G:On C B z)(q:lI C ad σ h K Kr Q):lI (C.on B z pin) ad σ h K Kr Q:=⟨λad' σ' h' tk s R=>q.n ad' σ' h' tk (s.on G) (R.on G),λa v ad' σ' h' tk s R=>q.r a v ad' σ' h' tk (s.on G) (R.on G)⟩
theorem On.ok(G:On C B z)(O:C.Ok)(hp:∀x v,aj x pin=some v->cY x=true):(C.on B z pin).Ok where
 kind:=O.kind
 glob:=O.glob
 blt:=O.blt
 g:=Kp.ns G.lk O.g
 b:=Kp.ns G.lk O.b
 nolimit:=O.nolimit.elim λmc n=>⟨mc,Kp.ns G.lk n.1,n.2⟩
 kH:=O.kH
 cells:=O.cells
 cell:=O.cell
 pin:=hp
 new a k:=O.new a (az G.nx k)
 qk:=λb o e J=>fy (bu e) G.sz
 oE:=aQ _
 ql:=aQ _
 size:=G.sz
theorem Rm.on(G:On C B z)(R:Rm prog wd base mg mb d hn C):Rm prog wd B mg mb d hn (C.on B z pin):=⟨R.p,R.w,λJ J J e=>e,R.dp,R.u,R.n,R.m.keep G.lk,R.g,R.b⟩
theorem a7.on(G:On C B z)(F:a7 H C cx)(hp:∀x v,aj x pin=some v->cY x=true) (Gl:∀x g,aj x gl=some g->fj H (C.on B z pin) x g) (P:∀x g,aj x pn=some g->∃f,aj x pin=some (.ref f)/\kK H (C.on B z pin) f g) (Q:∀x g,aj x sn=some g->∃f,aj x pin=some (.ref f)/\AW H (C.on B z pin) f g):a7 H (C.on B z pin) ⟨cx.sc,[],gl,pn,cx.mu,cx.wf,cx.hn,sn⟩ where
 ok:=G.ok F.ok hp
 hu:=F.hu
 hn:=F.hn
 hm:=F.hm.keep G.lk
 kind:=F.kind
 name:=F.name
 glob:=Gl
 pin:=P
 sN:=Q
 hO x e:=absurd e aL
theorem jG.of{f:Addr}{st:Stmt}{qual:Str}{fv:Sg}{ct cd pm:aa}(O:C.Ok)(R:Rel C ad σ h)(FO:qG h f st qual (dM C.env.cells (aE st).names []) ct cd pm)(nd:oU (aE st).names=true) (hf:∀x,(x,fA)∈(aE st).names->C.env.kindOf x=some .cell/\∃a,aj x σ=some a) (hv:∀x a,aj x fv=some a->(x,fA)∈(aE st).names/\aj x σ=some a/\fz a=true) (hp:∀x v,aj x pin=some v->(x,fA)∈(aE st).names/\C.Var h x v):jG h f st qual (dM C.env.cells (aE st).names []) fv pin:=by
 have key:∀{x v},(x,fA)∈(aE st).names->C.Var h x v->∃c,(dM C.env.cells (aE st).names []).lookup x=some c/\C.env.cells.lookup x=some c/\h.IsCell c (some v):=λ{x v} m w=>by
  have k:=(hf x m).1;cases w with
  |loc k' _ _ _=>exact wR (aO (k.symm.trans k'))|aN _ c l e=>
   obtain⟨d,md⟩:=Fp (cells:=C.env.cells) (cs:=[]) m;obtain⟨d,ed⟩:=nF md;have Pw:=(eN _ _).trans ed;rcases A8 (ng Pw)with z|z
   ·exact absurd z fc
   ·have z:d=c:=by rw[z.2,l];rfl
    exact⟨c,z▸Pw,l,e⟩
 have of:∀{x c},(dM C.env.cells (aE st).names []).lookup x=some c->(x,fA)∈(aE st).names/\C.env.cells.lookup x=some c/\∃v,h.IsCell c (some v):=λ{x c} e=>by
  rcases A8 (ng e)with z|z
  ·exact absurd z fc
  ·obtain⟨a,ea⟩:=(hf x z.1).2
   obtain⟨v,w,_⟩:=R.var x a ea;obtain⟨d,e1,e2,e3⟩:=key z.1 w;cases aO (e1.symm.trans e);exact⟨z.1,e2,v,e3⟩
 refine⟨⟨ct,cd,pm,FO⟩,λx c e=>(of e).2.2,λx y c e e'=>O.cells x y c (of e).2.1 (of e').2.1,λx a e=>⟨nE nd (hv x a e).1,?_⟩,λx v e=>⟨nE nd (hp x v e).1,(key (hp x v e).1 (hp x v e).2).imp λc z=>⟨z.1,z.2.2⟩⟩⟩;obtain⟨m,es,f⟩:=hv x a e;obtain⟨v,w,r⟩:=R.var x a es;obtain⟨c,e1,_,e3⟩:=key m w;refine⟨c,v,e1,e3,?_⟩;cases r with|val r=>exact r.mono (λJ J J J e=>⟨trivial,e⟩) a gY|_=>exact absurd f aL
theorem Xs.def_{st:Stmt}{rest:List Stmt}{qual:Str}{pos:Pos}{c P:Addr}(O:C.Ok)(F8:C.env.code=.ref c)(gg:nH C.base c P)(t:Tab P qual)(hB:o9 C.base C.mg)(T:Bv C st pos qual)(hx:C.mD (nameOf st)) (q:∀ad h f ct cd pm,Rel C ad (bR (nameOf st) (.jb (.ref f)) σ) h->qG h f st qual (dM C.env.cells (aE st).names []) ct cd pm->C.Var h (nameOf st) (.ref f)->∃B pin,On C B h.objs.size/\Rel (C.on B h.objs.size pin) ad (bR (nameOf st) (.jb (.ref f)) σ) h/\Xs (C.on B h.objs.size pin) (bR (nameOf st) (.jb (.ref f)) σ) rest K Kr):Xs C σ (st::rest) K Kr:=λad h R tk Q qq=>
 lZ (aeG O R F8 gg t hB T hx λad' h' ak f ct cd pm s R' FO w=>(q ad' h' f ct cd pm R' FO w).elim λB y=>y.elim λpin y=>y.2.2 ad' h' y.2.1 ak Q ((qq.after s).on y.1))
end
def d8(n k:Nat):Stmt:=(bodyOf (aw n)).getD k (.Pass default)
section
def vA(P:List Int->Prop)(V:List Int->Int)(as:List AV)(k:AV->Way->Prop)(o:Way):Prop:=opt False (cj aR as) λis=>P is/\∀q,q=V is->k (.int q) o
theorem Px(x:Hw (vA P V as k)):∃is,as=is.map .int/\P is/\Hw (k (.int (V is))):=x.elim λo x=>by
 have x:opt False (cj aR as) (λis=>P is/\∀q,q=V is->k (.int q) o):=x;cases c:cj aR as with|none=>rw[c]at x;exact x.elim|some is=>rw[c]at x;exact⟨is,FJ c,x.1,o,x.2 _ rfl⟩
def I6(P:List Int->Prop)(V:List Int->Int)(ds:List AV)(n L R:Int)(k:AV->Way->Prop):Way->Prop:=
 (bD oM 40).S ⟨(aE (d8 6 0)).names,gD (aE (d8 6 0)).names,[],[("inner",vA P V)],[],5,false,[]⟩ ((["L","R"]:List Str).zip ([L,R].map AV.int)++([("n",.int n),("digits",.lst ds)]:Sg)) (bodyOf (d8 6 0)) (λJ=>oM.fail) (bY oM aR (kI k))
theorem i6a:I6 P V ds n L R k (true::false::o)=(decide (L+1=R)=true/\ds.length<=100000/\decide (L<0)=false/\∃b,ds[L.toNat]?=some b/\vk (Na oM (bY oM aR (kI k))) b o):=⋯
noncomputable def mid(L R:Int):Int:=(L+R).fdiv (2^(1:Int).toNat)
theorem i6b:I6 P V ds n L R k (false::o)=(decide (L+1=R)=false/\0<=(1:Int)/\eE (mid L R-L) n/\P [mid L R,R]/\∀q,q=V [mid L R,R]->(0<=(mid L R-L)*n/\((bk q:Nat):Int)+(mid L R-L)*n<=2^27)/\P [L,mid L R]/\∀q',q'=V [L,mid L R]->k (.int (q*2^((mid L R-L)*n).toNat+q')) o):=⋯
theorem Py(L R:Nat):mid L R=(((L+R)/2:Nat):Int):=by exact iF _ ⋯
end
theorem Pz(n:Nat):∀ds:List Nat,(∀d∈ds,d<2^n)->valN n ds<2^(n*ds.length)|[],_=>Nat.lt_of_lt_of_eq Nat.zero_lt_one (by rw[wF,pK])|d::ds,h=>by have h1:=h d aK;have h2:=nY (2^n) (show valN n ds+1<=_ from Pz n ds λe he=>h e (aY _ he));rw[jx]at h2;rw[bP,jx,iG (n*_),kB,gu];exact(a9 0xec2810c30b282e1931 17903892) h1 h2
def lM(n:Nat)(ds:List Nat)(L R:Nat):Nat:=valN n ((ds.drop L).take (R-L))
theorem aeQ(h:L<ds.length):lM n ds L (L+1)=ds[L]:=by unfold lM;rw[Ti,pG h];rfl
theorem aeR(h1:L<=M)(h2:M<=R)(h3:R<=ds.length):lM n ds L R=lM n ds M R*2^((M-L)*n)+lM n ds L M:=by unfold lM;rw[show R-L=(M-L)+(R-M)by exact(pS 0xed8210b43b542f1fd090b351fd5830b532f1fd091b341fd4831b432f1fd092b451fd5842b54 0x11000000000010001112f1111000000000010001112f1111000000000010001112f1111000000000010001112f11101101010001c11100101010001c11101100010001c11100100010001c1110010100001b1110010101011b1110010101101b1110010101001b11100000010010000001122f1110010100011b1110010100101b1110010100001b116) h1 h2 aq aq aq,List.take_add,I5,show L+(M-L)=M by exact(aC 0xed2810b202f1fd091b021fd2801b20 0x1011411100141110101511100015113) h1 aq,O9,show((ds.drop L).take (M-L)).length=M-L by rw[wU,wP];exact(wV 0xed10b32b432f1fd091b521fd2851b252f1fd096b541fd4856b451f2fd60d101fb60b10 0x1000000001a111000000001a111000000001a111000000001a111000000001a111000000001a111000000001a111000000001a1110000000000000010001142f1110000000000000010001142f1110000000000000010001142f1110000000000000010001142f1110000000000001010111142f1110000000000001010111142f111000100010111d111000000000001d117) h2 h3 aq aq pR,fO n,fO (2^_),iG]
theorem aeS(hd:∀d∈ds,d<2^n):lM n ds L R<2^(n*ds.length):=
 fy (Pz n _ λe he=>hd e (Tj (Tk he))) (nh ⋯ (nY n (by rw[wU,wP];exact(cV 0xeb102f1fd093b211fd1823b121f2fd30d401fb30b40 0x100000100101c11100000100101c1110000100101b1110000100101b115) aq pR)))
def By(ds:List Nat)(d:Nat)(is:List Int):Prop:=∃L R:Nat,is=[(L:Int),(R:Int)]/\L<R/\R<=ds.length/\2*(R-L)<=2^d
def Bz(n:Nat)(ds:List Nat)(is:List Int):Int:=(lM n ds (is.getD 0 0).toNat (is.getD 1 0).toNat:Nat)
section
variable{k:AV->Way->Prop}{o:Way}
theorem aeT(hd:∀d∈ds,d<2^n)(hn:n*ds.length<=2^26)(hl:ds.length<=90000)(h1:L<R)(h2:R<=ds.length)(h3:2*(R-L)<=2^(d+1))(hk:k (.int (lM n ds L R:Nat)) o):Hw (I6 (By ds d) (Bz n ds) (nA ds) n L R k):=by
 by_cases c:L+1=R
 ·subst c
  refine⟨true::false::o,i6a.mpr ⟨decide_eq_true (by rfl),by rw[bB];exact(ax 0xeb186a05a0b15f905a0 1122577) hl,decide_eq_false (Int.not_lt.mpr (bA L)),.int (ds[L]:Nat),?_,?_⟩⟩
  ·show(ds.map _)[L]?=_
   rw[C9,rG (h2)];rfl
  ·rw[aeQ h2]at hk
   exact hk
 ·have f9:L<(L+R)/2:=(a9 0xec10c200fd281901fc293d820831e129 0x11031111211101006224) h1 c (iL 2 _)
  have gP:(L+R)/2<R:=(a9 0xec10c121fc293d812831e029 4821427225125412) h1 (iL 2 _);obtain⟨e,rfl⟩:∃e,d=e+1:=by
   cases d with|zero=>exact absurd h3 (by have e:(2:Nat)^(0+1)=2:=rfl;exact(a9 0xe0fb291e029c21c322f1fd090b131fd3810b31 0x111041110011017111224) f9 gP aq)|succ e=>exact⟨e,rfl⟩
  have fg:2*((L+R)/2-L)<=2^(e+1):=by rw[jy,jy]at h3;rw[jy];exact(wV 0xeb2e2911e029b2e292e2911e2291fc294d865841e3292f1fd090b531fd3850b352f1fd092b561fd6852b65 0x100000000010000001122f11122100000000010000001122f111221000000000100000011132f1100001000001000f1f211231000000101a11001000000010001102f21003211247) h3 (iL 2 _) aq aq
  have hd2:2*(R-(L+R)/2)<=2^(e+1):=by rw[jy,jy]at h3;rw[jy];exact(wV 0xeb2e2911e029b2e292e2911e2291fc294d865841e3292f1fd090b361fd6830b632f1fd092b561fd6852b65 0x100000000010000001122f11122100000000010000001122f111221000000000100000011132f11000110000a211231000000101a11000001100001d21003211247) h3 (iL 2 _) aq aq
  refine⟨false::o,i6b.mpr ?_⟩;rw[Py];generalize (L+R)/2=M at f9 gP fg hd2⊢;have hs:(M-L)*n<=2^26:=az (by rw[fO];exact nY n (by exact(cV 0xeb10b12c232f1fd090b431fd3840b34 0x1000010001a1110101117115) h2 gP aq)) hn;have F9:n<=2^26:=az (Tl n (by exact(aC 0xec009c212f1fd090b121fd2810b21 76615142750638355) f9 aq)) hs;have eS:((M:Int)-L)*n=(((M-L)*n:Nat):Int):=by rw[gZ,CW (dw f9)]
  rw[eS];refine⟨decide_eq_false ((aC 0xe0f8e5e18195e0c20c12 286277907) f9 gP),⋯,lL (i:=27) (j:=27) ((cV 0xec80000007a0b15f905a1b12c43c242f1f8e4e3e5e35e45e06e093e5e35e41f8e3e5e35e45e06e3e5e35e409 0x1010006111001010111a115) hl h2 f9 gP g7) ((ao 0xec80000007a0b40000007a12f1f8e4e5e15e06e095e11f8e5e15e06e5e109 0x10100161110114112) F9 g7) ⋯,⟨M,R,rfl,gP,h2,hd2⟩,λq e=>⟨⟨bA _,?_⟩,⟨L,M,rfl,f9,by exact(aC 0xeb10b12c20 17903891) h2 gP,fg⟩,λq' e'=>?_⟩⟩
  ·have e:q=(lM n ds M R:Nat):=e
   have:=bits_le (a:=q) (k:=n*ds.length) (by rw[e,fQ];exact aeS hd);have xW:(2:Int)^27=134217728:=rfl;exact(bL 0xe6e085e15e0b40000007a2b40000007a1b208e80000007a0 69005828371 [_,_,_] [_]) hn hs this xW
  ·have e:=e
   have e':=e';rw[aeR (dw f9) (dw gP) h2]at hk;rw[e,e',cw]
   push_cast at hk
   exact hk
end
section
variable{prog:bF}{wd:bj}{B base:Heap}{mg mb:Str->Option aa}{f:Addr}{qual:Str}{cl:List (Str×Addr)}
theorem aeU{st:Stmt}{ys:List Str}(h:∀ct cd pm (a b:aa),bindArgs (d3 st qual cl ct cd pm) {pos:=[a,b]}=pure (ys.zip [a,b])):∀ct cd pm (vs:List aa),vs.length=2->bindArgs (d3 st qual cl ct cd pm) {pos:=vs}=pure (ys.zip vs):=λct cd pm vs hl=>o6 hl (h ct cd pm)
theorem aeV(e:∀x,aj x (aE (d8 6 0)).names=some .free->∃c,cl.lookup x=some c):kO (aE (d8 6 0)) ["L","R"] cl:=⟨⋯,⋯,⋯,⋯,by decide+kernel,by decide+kernel,by decide+kernel,by decide+kernel,e⟩
theorem aeW{ds:List Nat}{n:Nat}(hd:∀d∈ds,d<2^n)(hn:n*ds.length<=2^26)(hl:ds.length<=90000)(S:kO (aE (d8 6 0)) ["L","R"] cl)(X:jG B f (d8 6 0) qual cl [("n",.int n),("digits",.lst (nA ds))] [("inner",.ref f)])(Bs:ck B mg mb):∀d,aZ Hw prog wd B mg mb f d false (vA (By ds d) (Bz n ds)):=by
 intro d
 induction d with
 |zero=>
  exact λC R=>⟨X.fo.elim λct z=>z.elim λcd z=>z.elim λpm z=>⟨_,_,R.k _ _ (λJ e=>iJ e) z.here,rfl⟩,λok h as vs k tk Q kp T ho r x q=>by
   obtain⟨is,rfl,⟨L,R,rfl,h1,h2,h3⟩,hk⟩:=Px x
   exact absurd h3 (by have e:(2:Nat)^0=1:=rfl;exact(aC 0xe0fb191e029c212f1fd090b121fd2810b21 0x1103111001016111223) h1 aq)⟩|succ d ih=>
  exact .inner eO 40 (gl:=[]) (pn:=[("inner",vA (By ds d) (Bz n ds))]) (wf:=5) S X Bs (aeU λJ J J J J=>rfl) (λJ J J J e=>ai e) (λx g e=>by
   have e:ae (aA x "inner") (some _) none=some g:=e;cases c:aA x "inner" with|false=>rw[c]at e;exact ai e|true=>rw[c]at e;cases e;rw[(cN _ _).mp c];exact⟨rfl,ih⟩) λas k x=>by obtain⟨is,rfl,⟨L,R,rfl,h1,h2,h3⟩,o,hk⟩:=Px x;exact⟨[(L:Int),(R:Int)],rfl,rfl,aeT hd hn hl h1 h2 h3 hk⟩
end
noncomputable def kCe(kd:bG):Bool:=decide (kd=.cell)
def aeY(so:List (Str×bG))(ks:List Str)(p:Str×bG):Bool:=ae (sC p.2) (ae (sU ks p.1) (opt false (aj p.1 so) kCe) false) true
theorem Ga{x:Str}:∀{σ:Sg},sU (σ.map (·.1)) x=true->∃a,aj x σ=some a
 |[],e=>absurd e aL|(y,b)::σ,e=>by
  show ∃a,ae (aA x y) (some b) (aj x σ)=some a;cases c:aA x y with|true=>exact⟨b,rfl⟩|false=>have e:(aA x y||sU (σ.map (·.1)) x)=true:=e;rw[c]at e;exact Ga e
theorem BA{si so:List (Str×bG)}{ks:List Str}(e:si.all (aeY so ks)=true){x:Str}(m:(x,fA)∈si):aj x so=some .cell/\sU ks x=true:=by
 have c:=List.all_eq_true.mp e _ m;obtain⟨c1,c⟩:=Fl.bz (H:=(·=true)) aL c;refine⟨?_,c1⟩;cases z:aj x so with|none=>rw[z]at c;exact absurd c aL|some k=>rw[z]at c;rw[of_decide_eq_true (c:decide (k=.cell)=true)]
theorem PA{si:List (Str×bG)}{cells:List (Str×Addr)}{x:Str}(e:aj x si=some .free):∃c,(dM cells si []).lookup x=some c:=by obtain⟨c,m⟩:=Fp (cells:=cells) (cs:=[]) (fm e);rw[eN];exact nF m
def aeZ(p:Str×AV):Bool:=ae (MU p.2) false true
theorem PB{σ:Sg}(e:σ.all aeZ=true){x:Str}{xs:List AV}:aj x σ≠some (.own xs):=λq=>aL (List.all_eq_true.mp e _ (fm q))
section
variable{prog:bF}{wd:bj}{base:Heap}{mg mb:Str->Option aa}{o:Obj}{pm cd doc:aa}{C:Fc}{d e:Nat}{hn:Bool}{h:Heap}{ok:Addr->Prop}{fa:Addr}{name:Str}{sc:ig}
theorem Rm.le(R:Rm prog wd base mg mb (e+d) hn C):Rm prog wd base mg mb d hn C:=⟨R.p,R.w,R.k,b9 (wK (Dj d e) _) R.dp,b9 (Dc (wK (nY 3 (Dj d e)) _) _) R.u,R.n,R.m,R.g,R.b⟩
theorem PC(m:aj x sc.names=some .cell)(n:Nat):((cellsFrom n sc.names []).lookup x).isSome=true:=by obtain⟨c,m⟩:=vj (n:=n) (acc:=[]) (fm m);obtain⟨d,e⟩:=nF m;rw[eN,e];rfl
theorem o9.keep{h h':Heap}(k:Kp h h'):o9 h mg->o9 h' mg:=λ⟨bm,o,h1,h2,h3,h4,h5,h6⟩=>⟨bm,o,h1,h2,k _ _ (λvs e=>by rw[h6]at e;cases e) h3,h4,h5,h6⟩
theorem xZ{α:Type}{x y y':Str}{a a' b:α}(e:aj x [(y,a),(y',a')]=some b):x=y/\b=a∨x=y'/\b=a':=by
 have e:ae (aA x y) (some a) (ae (aA x y') (some a') none)=some b:=e;cases c:aA x y with
 |true=>rw[c]at e;exact .inl ⟨(cN _ _).mp c,(aO e).symm⟩|false=>cases c':aA x y' with
  |true=>rw[c,c']at e;exact .inr ⟨(cN _ _).mp c',(aO e).symm⟩|false=>rw[c,c']at e;exact ai e
theorem vB{α:Type}{x y:Str}{a b:α}(e:aj x [(y,a)]=some b):x=y/\b=a:=by
 have e:ae (aA x y) (some a) none=some b:=e;cases c:aA x y with|false=>rw[c]at e;exact ai e|true=>rw[c]at e;exact⟨(cN _ _).mp c,(aO e).symm⟩
end
section
variable{k:AV->Way->Prop}{o:Way}{ds:List AV}{n:Int}{P:List Int->Prop}{V:List Int->Int}{u:aa}
noncomputable def Gb:List (Str×GV (Way->Prop)):=[("len",.bi .len)]
def J6(P:List Int->Prop)(V:List Int->Int)(ds:List AV)(n:Int)(u:aa)(k:AV->Way->Prop):Way->Prop:=
 (bD oM 40).S ⟨(aE (aw 6)).names,[],Gb,[("inner",vA P V)],[],5,false,[]⟩ (bR "inner" (.jb u) ((["digits","n"]:List Str).zip [.lst ds,.int n])) ((bodyOf (aw 6)).drop 1) (λJ=>k .none) k
theorem j6a:J6 P V ds n u k (true::o)=(((ds.length:Nat):Int)<2^63/\(!ds.isEmpty)=true/\ds.length<2^40/\P [0,((ds.length:Nat):Int)]/\∀q,q=V [0,((ds.length:Nat):Int)]->k (.int q) o):=⋯
theorem j6b:J6 P V ds n u k (false::o)=(((ds.length:Nat):Int)<2^63/\(!ds.isEmpty)=false/\k (.int 0) o):=⋯
end
section
variable{prog:bF}{wd:bj}{base:Heap}{mg mb:Str->Option aa}{o:Obj}{pm doc:aa}{d:Nat}
theorem ae2{L fa:Addr}{C:Fc}(he:C.env=envOfC (nameOf (aw 6)) (aE (aw 6)) L fa (.ref 58)):Bv C (d8 6 0) (posOf (d8 6 0)) "_digits2int.<locals>.inner" where
 s:=⋯
 df:=⋯
 an:=⋯
 kw:=⋯
 doc:=⋯
 cl n m:=by rw[he];exact PC (BA (ks:=["digits","n","inner"]) ⋯ m).1 _
 q:=by rw[he];exact⋯
theorem ae3(D:eP base 59 (aw 6) o pm (.ref 58) doc)(B:ck base mg mb)(gg:nH base 58 54)(hB:o9 base mg)(g:mg "len"=none/\mb "len"=some (.builtin "len")):aZ Hw prog wd base mg mb 59 (d+22) false F6:=
 aZ.of D.at_ D.fn D.ext D.code B (jj.of ⋯) (λvs h=>o6 h λJ J=>rfl) (gl:=Gb) (mu:=[]) (wf:=5) (xs:=["digits","n"]) (λC R=>Gs.cons (.bi (R.g▸g.1) (R.b▸g.2)) Gs.nil) λas k x=>by
  obtain⟨o,ds,n,rfl,⟨hd,hn,hl,BB⟩,hk⟩:=x;refine⟨rfl,λC ok h Ft R=>?_⟩;rw[show bodyOf (aw 6)=d8 6 0::(bodyOf (aw 6)).drop 1 from ⋯];refine Xs.def_ Ft.ok rfl (gg.keep R.k) .two (R.g▸hB.keep R.k) (ae2 rfl) (Ft.hO _ ⋯) λad h' f ct cd pm R' FO w=>?_;have G:On (dN C ok h 59 (nameOf (aw 6)) (aE (aw 6)) (.ref 58)) h' h'.objs.size:=⟨R'.base,aQ _,R'.sz,R'.sz,rfl⟩
  have pn:∀x v,aj x ([("inner",.ref f)]:List (Str×aa))=some v->x="inner"/\v=.ref f:=λx v e=>vB e
  have X:=jG.of (fv:=[("n",.int n),("digits",.lst (nA ds))]) (pin:=[("inner",.ref f)]) Ft.ok R' FO ⋯ (λx m=>have z:=BA (so:=(aE (aw 6)).names) (ks:=["digits","n","inner"]) ⋯ m;⟨(eN _ _).trans z.1,Ga z.2⟩) (λx a e=>by
   rcases xZ e with⟨rfl,rfl⟩|⟨rfl,rfl⟩
   ·exact⟨fm ⋯,⋯,rfl⟩
   ·exact⟨fm ⋯,⋯,rfl⟩) (λx v e=>by obtain⟨rfl,rfl⟩:=pn x v e;exact⟨fm ⋯,w⟩)
  have Bs:=(B.keep R.k).keep R'.base;have R2:=(R.on G (pin:=[("inner",.ref f)])).le (e:=d) (d:=21);have c:=aeW (prog:=prog) (wd:=wd) (mg:=mg) (mb:=mb) hd hn hl (aeV λx e=>PA e) X Bs 21;refine⟨h',[("inner",.ref f)],G,R'.to (λJ J J e=>e) (aQ _) (λx xs e=>absurd e (PB ⋯)) (λx v e=>by obtain⟨rfl,rfl⟩:=pn x v e;exact w),?_⟩;refine(j7 eO 40).S (Ft.on G (gl:=Gb) (pn:=[("inner",vA (By ds 21) (Bz n ds))]) (sn:=[]) (λx v e=>by obtain⟨rfl,rfl⟩:=pn x v e;decide) (Gs.cons (.bi (R2.g▸g.1) (R2.b▸g.2)) Gs.nil) (λx F e=>by obtain⟨rfl,rfl⟩:=vB e;exact⟨f,rfl,c _ R2⟩) (λx F e=>ai e)) ?_;have PD:(((nA ds).length:Nat):Int)<2^63:=by rw[bB];have:(2:Int)^63=9223372036854775808:=rfl;exact(bL 0xe7e05e0b15f905a08e8000000000000000109e0 269566225 [_] [_]) hl this
  cases ds with
  |nil=>exact⟨false::o,j6b.mpr ⟨PD,rfl,hk⟩⟩|cons q ds=>exact⟨true::o,j6a.mpr ⟨PD,rfl,by rw[bB];exact(ax 0xec10000000000ba0b15f905a0 1122577) hl,⟨0,(nA (q::ds)).length,rfl,by rw[bB];exact CY _,by rw[bB];exact aQ _,by rw[bB];exact(ao 0xeb2000006a1e029b15f905a12f1fd090b0911fd18090b109 0x10001511122101015111222) hl aq⟩,λv e=>by
    have e:v=(lM n (q::ds) 0 (nA (q::ds)).length:Nat):=e;rw[e,bB];unfold lM;rw[tR,IZ,I0]
    exact hk⟩⟩
end
section
def vC(y:Str)(P:List AV->List AV->Prop)(W:List AV->List AV->List AV)(as:List AV)(σ:Sg)(k:Sg->Way->Prop)(o:Way):Prop:=opt False (opt none (aj y σ) xj) λxs=>P as xs/\∀ys,ys=W as xs->k (bR y (.own ys) σ) o
def BC(P:List AV->List AV->Prop)(W:List AV->List AV->List AV):Cx (Way->Prop):=⟨(aE (d8 5 1)).names,gD (aE (d8 5 1)).names,[],[],[],5,false,[("inner",vC "a_digits" P W)]⟩
noncomputable def s5(x L R n:Int)(xs:List AV):Sg:=(["x","L","R"]:List Str).zip ([x,L,R].map AV.int)++([("n",.int n),("a_digits",.own xs)]:Sg)
def vD(i:Nat):Stmt:=(bodyOf (d8 5 1)).getD i (.Pass default)
theorem t5:(bD oM 39).T (BC P W) (s5 x L R n xs) (jk (vD 0) 0) kb o=kb (decide (L+1=R)) o:=⋯
theorem a5:eJ oM (bD oM 39) (BC P W) (s5 x L R n xs) ((fY (vD 0)).getD 0 (.Pass default)) ks kr o=((0<=L/\L<xs.length/\xs.length<=100000)/\ks (bR "a_digits" (.own (xs.set L.toNat (.int x))) (s5 x L R n xs)) o):=⋯
noncomputable def e5(M S U D:Int)(σ:Sg):Sg:=σ++([("mid",.int M),("shift",.int S),("upper",.int U),("lower",.int D)]:Sg)
theorem b5:(bD oM 40).S (BC P W) (s5 x L R n xs) ((bodyOf (d8 5 1)).drop 1) ks kr o=(0<=(1:Int)/\eE (mid L R-L) n/\0<=(mid L R-L)*n/\(0<=(mid L R-L)*n/\((bk (x.fdiv (2^((mid L R-L)*n).toNat)):Nat):Int)+(mid L R-L)*n<=2^27)/\ P [.int (wI x (x.fdiv (2^((mid L R-L)*n).toNat)*2^((mid L R-L)*n).toNat)),.int L,.int (mid L R)] xs/\∀ys,ys=W [.int (wI x (x.fdiv (2^((mid L R-L)*n).toNat)*2^((mid L R-L)*n).toNat)),.int L,.int (mid L R)] xs-> P [.int (x.fdiv (2^((mid L R-L)*n).toNat)),.int (mid L R),.int R] ys/\∀zs,zs=W [.int (x.fdiv (2^((mid L R-L)*n).toNat)),.int (mid L R),.int R] ys-> ks (e5 (mid L R) ((mid L R-L)*n) (x.fdiv (2^((mid L R-L)*n).toNat)) (wI x (x.fdiv (2^((mid L R-L)*n).toNat)*2^((mid L R-L)*n).toNat)) (s5 x L R n zs)) o):=⋯
end
def Gc(as:List AV)(i:Nat):Nat:=(opt (0:Int) (opt none as[i]? aR) id).toNat
def P5(n m d:Nat)(as xs:List AV):Prop:=∃(x L R:Nat) (is:List Nat),as=[.int x,.int L,.int R]/\xs=nA is/\is.length=m/\L<R/\R<=m/\2*(R-L)<=2^d/\x<2^(n*(R-L))
def hZ(n x L R:Nat)(xs:List AV):List AV:=xs.take L++(nA (d7 n x (R-L))++xs.drop R)
def W5(n:Nat)(as xs:List AV):List AV:=hZ n (Gc as 0) (Gc as 1) (Gc as 2) xs
theorem ya(n x L R:Nat)(xs:List AV):W5 n [.int x,.int L,.int R] xs=hZ n x L R xs:=rfl
theorem ae4(h1:L<=R)(h2:R<=xs.length):(hZ n x L R xs).length=xs.length:=by unfold hZ;rw[dG,dG,bB,Bp,wU,wP,CN (az h1 h2),<-nV,za h1,za h2]
theorem ae5(hx:x<2^n)(h:L<xs.length):hZ n x L (L+1) xs=xs.set L (.int x):=by unfold hZ;rw[Ti,List.set_eq_take_append_cons_drop,if_pos h];show xs.take L++(AV.int ((x%2^n:Nat):Int)::xs.drop (L+1))=_;rw[Nat.mod_eq_of_lt hx]
theorem ae6(h1:L<=M)(h2:M<=R)(h3:R<=xs.length):hZ n (x/2^((M-L)*n)) M R (hZ n (x%2^((M-L)*n)) L M xs)=hZ n x L R xs:=by
 have z:(xs.take L++nA (d7 n (x%2^((M-L)*n)) (M-L))).length=M:=by rw[dG,bB,Bp,wU,CN (az h1 (az h2 h3)),za h1]
 have e:d7 n x (R-L)=d7 n (x%2^((M-L)*n)) (M-L)++d7 n (x/2^((M-L)*n)) (R-M):=by rw[fO (M-L),<-O8,show M-L+(R-M)=R-L by exact(pS 0xed2810b43b542f1fd090b341fd4830b432f1fd091b451fd5841b542f1fd092b351fd5832b53 0x1000000010010001102f111000000010010001102f11101010010011c11100010010011c11101010010101c11100010010101c11101010010001c11100010010001c1110100100001b1110101101001b1110000010000100001112f1110100101001b11100000010100000001122f1110101100001b11110000010000000001122f1110100100001b116) h1 h2 aq aq aq]
 unfold hZ;rw[e,<-i4 (xs.take L),List.take_append_of_le_length (i7 z.symm),CX (i7 z),List.drop_append,ug (az (i7 z) h2),z,wG,I5,za h2,show ∀a b,nA (a++b)=nA a++nA b from λJ J=>nW ..];simp only[i4]
section
variable{n m d x L R:Nat}
theorem ae7(hm:m<=90000)(hn:n*m<=2^26)(hi:is.length=m)(h1:L<R)(hc:L+1≠R)(h2:R<=m)(h3:2*(R-L)<=2^(d+1))(hx:x<2^(n*(R-L)))(hk:∀M S U D,ks (e5 M S U D (s5 x L R n (hZ n x L R (nA is)))) o):(bD oM 40).S (BC (P5 n m d) (W5 n)) (s5 x L R n (nA is)) ((bodyOf (d8 5 1)).drop 1) ks (λJ=>oM.fail) o:=by
 rw[b5,Py];have f9:L<(L+R)/2:=by exact(a9 0xec10c200fd281901fc293d820831e129 0x11031111211101006224) h1 hc (iL 2 _)
 have gP:(L+R)/2<R:=by exact(a9 0xec10c121fc293d812831e029 4821427225125412) h1 (iL 2 _)
 obtain⟨e,rfl⟩:∃e,d=e+1:=by
  cases d with|zero=>exact absurd h3 (by have e:(2:Nat)^(0+1)=2:=rfl;exact(a9 0xe0fb291e029c21c322f1fd090b131fd3810b31 0x111041110011017111224) f9 gP aq)|succ e=>exact⟨e,rfl⟩
 have fg:2*((L+R)/2-L)<=2^(e+1):=by rw[jy,jy]at h3;rw[jy];exact(wV 0xeb2e2911e029b2e292e2911e2291fc294d865841e3292f1fd090b531fd3850b352f1fd092b561fd6852b65 0x100000000010000001122f11122100000000010000001122f111221000000000100000011132f1100001000001000f1f211231000000101a11001000000010001102f21003211247) h3 (iL 2 _) aq aq
 have hd2:2*(R-(L+R)/2)<=2^(e+1):=by rw[jy,jy]at h3;rw[jy];exact(wV 0xeb2e2911e029b2e292e2911e2291fc294d865841e3292f1fd090b361fd6830b632f1fd092b561fd6852b65 0x100000000010000001122f11122100000000010000001122f111221000000000100000011132f11000110000a211231000000101a11000001100001d21003211247) h3 (iL 2 _) aq aq
 generalize (L+R)/2=M at f9 gP fg hd2⊢;have hs:(M-L)*n<=2^26:=az (by rw[fO];exact nY n (by exact(cV 0xeb10b12c232f1fd090b431fd3840b34 0x1000010001a1110101117115) h2 gP aq)) hn;have F9:n<=2^26:=az (Tl n (by exact(aC 0xec009c212f1fd090b121fd2810b21 76615142750638355) f9 aq)) hs;have hsR:n*(R-L)<=2^26:=az (nY n (by exact(a9 0xeb10b122f1fd090b321fd2830b23 0x100010018111010116114) h2 aq)) hn;have eS:((M:Int)-L)*n=(((M-L)*n:Nat):Int):=by rw[gZ,CW (dw f9)]
 have eU:(x:Int).fdiv (2^(((M-L)*n:Nat):Int).toNat)=((x/2^((M-L)*n):Nat):Int):=by rw[cw,iF _ (cb (two_pow_pos _))];push_cast;rfl
 have eL:wI (x:Int) (((x/2^((M-L)*n):Nat):Int)*2^(((M-L)*n:Nat):Int).toNat)=((x%2^((M-L)*n):Nat):Int):=by
  rw[cw];have:=aen (x:=(x:Int)) (n:=(M-L)*n) (bA x)
  push_cast
  exact this
 rw[eS,eU,eL];have aM:x/2^((M-L)*n)<2^(n*(R-M)):=Th (by rw[<-gu,fO (M-L),<-jx,show M-L+(R-M)=R-L by exact(pS 0xed2810c43c542f1fd090b341fd4830b432f1fd091b451fd5841b542f1fd092b351fd5832b53 0x1010411101041110104111010411100010071110001007111000000110a11100010010001c11101041110104111010411101041110001007111000100711110000010000000001122f1110100100001b116) f9 gP aq aq aq];exact hx);have hU:bk ((x/2^((M-L)*n):Nat):Int)<=n*(R-L):=bits_le (by rw[fQ];exact b9 (Nat.div_le_self _ _) hx);refine⟨⋯,lL (i:=27) (j:=27) ((cV 0xec80000007a0b15f905a1b12c43c242f1f8e4e3e5e35e45e06e093e5e35e41f8e3e5e35e45e06e3e5e35e409 0x1010006111001010111a115) hm h2 f9 gP g7) ((ao 0xec80000007a0b40000007a12f1f8e4e5e15e06e095e11f8e5e15e06e5e109 0x10100161110114112) F9 g7) ⋯,bA _,⟨bA _,?_⟩,⟨_,L,M,is,rfl,rfl,hi,f9,by exact(aC 0xeb10b12c20 17903891) h2 gP,fg,by rw[fO n];exact dr _ (fE _)⟩,λys ey=>⟨⟨_,M,R,is.take L++(d7 n (x%2^((M-L)*n)) (M-L)++is.drop M),rfl,?_,?_,gP,h2,hd2,aM⟩,λzs ez=>?_⟩⟩
 ·have xW:(2:Int)^27=134217728:=rfl
  exact(bL 0xe6e085e15e0b40000007a1b40000007a2b208e80000007a0 69005828371 [_,_,_] [_]) hs hsR hU xW
 ·rw[ey,ya];unfold hZ;simp[nA]
 ·have:=ae4 (n:=n) (x:=x%2^((M-L)*n)) (xs:=nA is) (dw f9) (by rw[bB,hi];exact(aC 0xeb10b12c20 17903891) h2 gP)
  rw[bB,hi]at this;rw[<-this];unfold hZ;simp[nA]
 ·rw[ez,ey,ya,ya,ae6 (dw f9) (dw gP) (by rw[bB,hi];exact h2)]
  exact hk _ _ _ _
end
theorem PE(n x L R:Nat)(is:List Nat):hZ n x L R (nA is)=nA (is.take L++(d7 n x (R-L)++is.drop R)):=by unfold hZ;simp[nA]
theorem Gd:∀{is:List Nat} {vs:List aa},ay h ok (nA is) vs->ay h' zZ (nA is) vs|[],_,r=>r|_::_,_,⟨p,q⟩=>⟨p,Gd q⟩
theorem PF(x:Hw (vC y P W as σ k)):∃xs,aj y σ=some (.own xs)/\P as xs/\Hw (k (bR y (.own (W as xs)) σ)):=x.elim λo x=>aW (H:=id) id x λxs ex x=>aW (H:=(·=some xs)) (λe=>ai e) ex λa ea ex=>⟨xs,Ee ex▸ea,x.1,o,x.2 _ rfl⟩
noncomputable def jn:Obj:={cls:=.none,data:=.freed}
theorem PG(h:Heap)(l:Addr):(h.update l λJ=>jn).get? l=none:=by obtain⟨os,lf⟩:=h;show(match(os.modify l λJ=>jn)[l]? with|some ⟨_,_,.freed,_⟩=>none|o=>o)=none;rw[Array.getElem?_modify,if_pos rfl];cases os[l]?<;>rfl
section
variable{C:Fc}{h h' h₁:Heap}{x:Str}{v w:aa}{ad:Str->Addr}
theorem Fc.Var.uniq:C.Var h x v->C.Var h x w->v=w|.loc k m n e,.loc k' m' n' e'=>aO (e.symm.trans ((congrFun (n.eq_nsMap.trans n'.eq_nsMap.symm) x).trans e'))|.loc k m n e,.aN k' c l e'=>k'.elim (λq=>wR (aO (k.symm.trans q))) λq=>wR (aO (k.symm.trans q))|.aN k' c l e',.loc k m n e=>k'.elim (λq=>wR (aO (k.symm.trans q))) λq=>wR (aO (k.symm.trans q))|.aN k c l e,.aN k' c' l' e'=>by cases aO (l.symm.trans l');obtain⟨o,g,d⟩:=e;obtain⟨o',g',d'⟩:=e';cases aO (g.symm.trans g');exact aO (Data.cell.inj (d.symm.trans d'))
end
section
variable{prog:bF}{wd:bj}{B:Heap}{mg mb:Str->Option aa}{f l:Addr}{qual:Str}{cl:List (Str×Addr)}{n m:Nat}
theorem ae9{st:Stmt}{ys:List Str}(h:∀ct cd pm (a b c:aa),bindArgs (d3 st qual cl ct cd pm) {pos:=[a,b,c]}=pure (ys.zip [a,b,c])):∀ct cd pm (vs:List aa),vs.length=3->bindArgs (d3 st qual cl ct cd pm) {pos:=vs}=pure (ys.zip vs):=λct cd pm vs hl=>Be hl (h ct cd pm)
theorem afa(e:∀x,aj x (aE (d8 5 1)).names=some .free->∃c,cl.lookup x=some c):kO (aE (d8 5 1)) ["x","L","R"] cl:=⟨⋯,⋯,⋯,⋯,by decide+kernel,by decide+kernel,by decide+kernel,by decide+kernel,e⟩
theorem afb(S:kO (aE (d8 5 1)) ["x","L","R"] cl)(X:jG B f (d8 5 1) qual cl [("n",.int n)] [("inner",.ref f),("a_digits",.ref l)])(Bs:ck B mg mb)(hm:m<=90000)(hn:n*m<=2^26):∀d C,Rm prog wd B mg mb d false C->aj "a_digits" C.pin=some (.ref l)->AW Hw C f (vC "a_digits" (P5 n m d) (W5 n)):=by
 intro d
 induction d with
 |zero=>
  exact λC R hp=>⟨X.fo.elim λct z=>z.elim λcd z=>z.elim λpm z=>⟨_,_,R.k _ _ (λJ e=>iJ e) z.here,rfl⟩,λad σ h as vs k tk Q Re r x q=>by
   obtain⟨xs,ea,⟨x,L,R,is,rfl,rfl,hi,h1,h2,h3,hx⟩,hk⟩:=PF x
   exact absurd h3 (by have e:(2:Nat)^0=1:=rfl;exact(aC 0xe0fb191e029c212f1fd090b121fd2810b21 0x1103111001016111223) h1 aq)⟩|succ d ih=>
  refine λC Rc hp=>⟨X.fo.elim λct z=>z.elim λcd z=>z.elim λpm z=>⟨_,_,Rc.k _ _ (λJ e=>iJ e) z.here,rfl⟩,λad σ h as vs k tk Q Re r xx q=>?_⟩
  obtain⟨xs,ea,⟨x,L,R,is,rfl,rfl,hi,h1,h2,h3,hx⟩,hk⟩:=PF xx;rw[ya]at hk;have hl:=Value.ref.inj ((Re.hJ ea).1.uniq (Re.pin _ _ hp));obtain⟨us,cnt,gl,ru⟩:=(Re.hJ ea).2;have ou:=(Re.own _ _ ea).1;rw[hl]at gl ou;have gb:=PG h l;have kb1:Kp C.base (h.update l λJ=>jn):=λb o nf e=>(jV h _ λq:l=b=>by subst q;exact ou o e nf).trans (Re.base b o nf e);have kb2:Kp (h.update l λJ=>jn) h:=λb o nf e=>by
   by_cases c:l=b
   ·subst c
    exact ai (gb.symm.trans e)
   ·rw[<-jV h (λJ=>jn) c];exact e
  have zb:(h.update l λJ=>jn).objs.size<=h.objs.size:=i7 (tV ..);generalize h.update l (λJ=>jn)=B' at gb kb1 kb2 zb;have X':=X.keep (Rc.k.trans kb1);have mM:=X'.keep kb2;obtain⟨ct,cd,pm,FO⟩:=mM.fo;have B2:=Bs.keep (Rc.k.trans kb1);have PH:=λx v e=>(mM.pin x v e).1;have O:(hV C h B' f (d3 (d8 5 1) qual cl ct cd pm) [("inner",.ref f),("a_digits",.ref l)]).Ok:=Ps S ⟨mM.fo,mM.aN,mM.ap,λJ J e=>ai e,λJ J e=>ai e⟩ (Rc.g▸Rc.b▸B2) PH zb;have Ri:Rm prog wd B mg mb d false (hV C h B' f (d3 (d8 5 1) qual cl ct cd pm) [("inner",.ref f),("a_digits",.ref l)]):=Rc.inner (Rc.k.trans kb1) (Rc.m.keep kb1);refine Pv (C:=C) (base':=B') (pin:=[("inner",.ref f),("a_digits",.ref l)]) S (b9 (lY _ _) Rc.dp) FO (B2.keep kb2).lim (by rw[r.length];rfl) (ae9 λJ J J J J J=>rfl) λh₁ bq Ge jH=>?_
  have Lr:=Pt (C:=C) (ct:=ct) (cd:=cd) (pm:=pm) (base':=B') (ad:=λJ=>l) (is:=[(x:Int),L,R]) (fv:=[("n",.int n),("a_digits",.own (nA is))]) S Re.tabs kb2 r ⟨mM.fo,mM.aN,mM.ap,λJ J e=>ai e,mM.pin⟩ (λy a e=>by
   rcases xZ e with⟨rfl,rfl⟩|⟨rfl,rfl⟩
   ·obtain⟨e1,c,v,e2,e3,e4⟩:=mM.fv "n" _ rfl
    exact⟨e1,c,v,e2,e3,.val e4⟩
   ·obtain⟨e1,c,e2,e3⟩:=mM.pin "a_digits" _ rfl
    exact⟨e1,c,_,e2,e3,.own ⟨l,us,cnt,gl,rfl,Gd ru⟩⟩) (λy ys e o g=>ai (gb.symm.trans g)) (λy z ys zs e e' J=>by
   rcases xZ e with⟨_,e2⟩|⟨e1,_⟩
   ·exact AV.noConfusion e2
   ·rcases xZ e' with⟨_,e2⟩|⟨e3,_⟩
    ·exact AV.noConfusion e2
    ·exact e1.trans e3.symm) Ge jH
  have Ft:=Pu (H:=Hw) (gl:=[]) (pn:=[]) (mu:=[]) (wf:=5) (sn:=[("inner",vC "a_digits" (P5 n m d) (W5 n))]) S O PH Ri (λJ J e=>ai e) (λJ J e=>ai e) (λy g e=>by obtain⟨rfl,rfl⟩:=vB e;exact⟨rfl,ih _ Ri rfl⟩);have fin:∀ad' σ' h' ak,bN (hV C h B' f (d3 (d8 5 1) qual cl ct cd pm) [("inner",.ref f),("a_digits",.ref l)]) (λJ=>l) (s5 x L R n (nA is)) h₁ ad' σ' h'->Rel (hV C h B' f (d3 (d8 5 1) qual cl ct cd pm) [("inner",.ref f),("a_digits",.ref l)]) ad' σ' h'->aj "a_digits" σ'=some (.own (hZ n x L R (nA is)))->Q (C.st h' ak):=λad' σ' h' ak s R' e'=>by
   obtain⟨w,ws,cn,gw,nC⟩:=R'.hJ e';have el:=Value.ref.inj (w.uniq (R'.pin _ _ rfl));rw[el,<-hl]at gw;rw[PE]at nC;have d:=NL Re ea (az Lr.sz s.sz) (λb o ne nf e=>?_) R'.tabs gw (Gd nC)
   ·rw[<-PE]at d
    exact q _ h' ak d.1 d.2 hk
   ·cases c:ik o.data with|true=>exact s.nk b o c (.inl (bu e)) (jH b o e)|false=>exact s.kp b o ⟨nf,c⟩ (λz=>z.elim λy z=>z.elim λys z=>ne (hl.trans z.2).symm) (jH b o e)
  rw[show bodyOf (d8 5 1)=.If (jk (vD 0) 0) [(fY (vD 0)).getD 0 (.Pass default),.Return none (posOf ((fY (vD 0)).getD 1 (.Pass default)))] [] (posOf (vD 0))::(bodyOf (d8 5 1)).drop 1 from ⋯];refine lZ (wpAny_If ((j7 eO 39).T Ft.toFits (k:=λb J=>b=decide ((L:Int)+1=R)) ⟨[],t5.mpr rfl⟩ _ h₁ Lr bq _ λb av bI g eb=>?_));obtain⟨_,eb⟩:=eb;have R2:=Lr.grow g;by_cases c:(L:Int)+1=R
  ·rw[decide_eq_true c]at eb
   subst eb;have c':L+1=R:=by exact_mod_cast c
   subst c';rw[if_pos rfl];refine lZ (vp eO (j7 eO 39) Ft (ks:=λσ' J=>aj "a_digits" σ'=some (.own (hZ n x L (L+1) (nA is)))) (kr:=λJ=>oM.fail) ⟨[],a5.mpr ⟨⟨bA L,by rw[bB,hi];exact(ao 0xe7e5e15e0b18190 1122578) h2,by rw[bB,hi];exact(ax 0xeb186a05a0b15f905a0 1122577) hm⟩,?_⟩⟩ _ av R2 bI _ ⟨λad' σ' h' ak s R' z=>lZ (wpAny_Return_none ⟨.none,rfl,z.elim λJ z=>fin ad' σ' h' ak (g.jE.trans s) R' z⟩),λa v ad' σ' h' ak s R' rv z=>absurd z eO.fail⟩);rw[z9,ae5 (by rwa[Ti,kB]at hx) (by rw[bB,hi];exact h2)];rfl
  ·rw[decide_eq_false c]at eb
   subst eb;rw[if_neg aL];exact Db ((j7 eO 40).S Ft (k:=λσ' J=>aj "a_digits" σ'=some (.own (hZ n x L R (nA is)))) (kr:=λJ=>oM.fail) ⟨[],ae7 hm hn hi h1 (λq=>c (by exact_mod_cast q)) h2 h3 hx λM S U D=>by rfl⟩ _ av R2 bI _ ⟨λad' σ' h' ak s R' z=>⟨.none,rfl,z.elim λJ z=>fin ad' σ' h' ak (g.jE.trans s) R' z⟩,λa v ad' σ' h' ak s R' rv z=>absurd z eO.fail⟩)
end
section
noncomputable def BD:List (Str×GV (Way->Prop)):=[("len",.bi .len)]
noncomputable def vF(a n:Int):Sg:=(["a","n"]:List Str).zip [.int a,.int n]
noncomputable def nD(a n:Int):Int:=(((bk a:Nat):Int)+n-1).fdiv n
theorem r50:eJ oM (bD oM 39) ⟨(aE (aw 5)).names,gD (aE (aw 5)).names,BD,[],["a_digits"],5,false,[]⟩ (vF a n) ((bodyOf (aw 5)).getD 0 (.Pass default)) ks kr o=(1<=10000/\(n≠0/\ij (((bk a:Nat):Int)+n-1) n=false)/\(nD a n<2^63/\ -2^63<=nD a n/\1*(nD a n).toNat<=2^24)/\ks (bR "a_digits" (.own (cq (nD a n).toNat [AV.int 0]).flatten) (vF a n)) o):=⋯
def J5(P:List AV->List AV->Prop)(W:List AV->List AV->List AV)(a n:Int)(xs:List AV)(u:aa)(k:AV->Way->Prop):Way->Prop:=
 (bD oM 40).S ⟨(aE (aw 5)).names,[],BD,[],["a_digits"],5,false,[("inner",vC "a_digits" P W)]⟩ (bR "inner" (.jb u) (bR "a_digits" (.own xs) (vF a n))) ((bodyOf (aw 5)).drop 2) (λJ=>k .none) k
theorem j5a:J5 P W a n xs u k (true::o)=((a !=0)=true/\xs.length<2^40/\P [.int a,.int 0,.int ((xs.length:Nat):Int)] xs/\∀ys,ys=W [.int a,.int 0,.int ((xs.length:Nat):Int)] xs->k (.lst ys) o):=⋯
theorem j5b:J5 P W a n xs u k (false::o)=((a !=0)=false/\k (.lst xs) o):=⋯
end
section
variable{h:Heap}{f l:Addr}{st:Stmt}{fv:Sg}{pin:List (Str×aa)}{cnt:Nat}
theorem jG.gap(X:jG h f st qual cl fv pin)(g:h.get? l=some (cM us cnt))(hf:∀x a,aj x fv=some a->∃i,a=.int i):jG (h.update l λJ=>jn) f st qual cl fv pin:=by
 have k:∀b o,o≠cM us cnt->h.get? b=some o->(h.update l λJ=>jn).get? b=some o:=λb o ne e=>(jV h _ λq:l=b=>ne (aO (e.symm.trans (q▸g)))).trans e;have kc:∀{c u},h.IsCell c u->(h.update l λJ=>jn).IsCell c u:=λ⟨o,e,d⟩=>⟨o,k _ o (λq=>by rw[q]at d;exact iJ d) e,d⟩
 exact⟨X.fo.imp λct z=>z.imp λcd z=>z.imp λpm z=>⟨k _ _ (λq=>iJ (congrArg Obj.data q)) z.here,CodeRec.bZ (λb o vs d e=>k b o (λq=>by rw[q]at d;exact iJ d) e) z.code,z.exc⟩,λx c e=>(X.aN x c e).imp λv z=>kc z,X.ap,λx a e=>⟨(X.fv x a e).1,(X.fv x a e).2.imp λc z=>z.imp λv z=>⟨z.1,kc z.2.1,by obtain⟨i,rfl⟩:=hf x a e;exact z.2.2⟩⟩,λx v e=>⟨(X.pin x v e).1,(X.pin x v e).2.imp λc z=>⟨z.1,kc z.2⟩⟩⟩
end
theorem PJ:∀m:Nat,(cq m [AV.int 0]).flatten=nA (cq m 0)|0=>rfl|m+1=>congrArg (AV.int 0::·) (PJ m)
section
variable{k:AV->Way->Prop}{o:Way}{a n:Nat}{u:aa}
theorem aff(h:1<=n):nD a n=(cK n a:Nat):=by unfold nD cK;rw[iF _ (bA n),Int.natCast_ediv];congr 1;exact(aC 0xe8e5e23e1985e15e0b1192f1fd092b198101fd8108192b81019 0x10101511100015111000101181110014113) h aq
theorem afg(hn:1<=n)(hm:cK n a<=90000)(ha:a<2^(n*cK n a))(hk:k (.lst (nA (d7 n a (cK n a)))) o):Hw (J5 (P5 n (cK n a) 21) (W5 n) a n (nA (cq (cK n a) 0)) u k):=by
 have hl:(nA (cq (cK n a) 0)).length=cK n a:=by rw[bB,Tm]
 by_cases c:a=0
 ·subst c
  have e:cK n 0=0:=Jc (by show 0+n-1<n;exact(ao 0xec10b1192f1fd090b1981091fd81098190b810919 72361132530155794) hn aq);rw[e]at hk⊢;exact⟨false::o,j5b.mpr ⟨rfl,hk⟩⟩
 ·have h0:0<cK n a:=tZ λq=>by rw[q,pK]at ha;exact c (Nat.lt_one_iff.mp ha)
  refine⟨true::o,j5a.mpr ⟨bne_iff_ne.mpr ((ax 0xe0f8e095e00fd090 282785228009745) c),by rw[hl];exact(ax 0xec10000000000ba0b15f905a0 1122577) hm,?_⟩⟩;rw[hl];refine⟨⟨a,0,_,_,rfl,rfl,Tm,h0,aQ _,by exact(ao 0xeb2000006a1e029b15f905a12f1fd090b0911fd18090b109 0x10001511122101015111222) hm aq,ha⟩,λys e=>?_⟩;rw[e,show W5 n [.int a,.int 0,.int ((cK n a:Nat):Int)] _=_ from ya n a 0 _ _];unfold hZ;rw[ug (i7 hl),m5];exact hk
end
section
variable{prog:bF}{wd:bj}{base:Heap}{mg mb:Str->Option aa}{o:Obj}{pm doc:aa}{d:Nat}
theorem afh(he:C.env=envOfC (nameOf (aw 5)) (aE (aw 5)) L fa (.ref 51)):Bv C (d8 5 1) (posOf (d8 5 1)) "_int2digits.<locals>.inner" where
 s:=⋯
 df:=⋯
 an:=⋯
 kw:=⋯
 doc:=⋯
 cl n m:=by rw[he];exact PC (BA (ks:=["a_digits","n","inner"]) ⋯ m).1 _
 q:=by rw[he];exact⋯
theorem afi(D:eP base 52 (aw 5) o pm (.ref 51) doc)(B:ck base mg mb)(gg:nH base 51 47)(hB:o9 base mg)(g:mg "len"=none/\mb "len"=some (.builtin "len")):aZ Hw prog wd base mg mb 52 (d+22) false F5:=
 aZ.of D.at_ D.fn D.ext D.code B (jj.of ⋯) (λvs h=>o6 h λJ J=>rfl) (gl:=BD) (mu:=["a_digits"]) (wf:=5) (xs:=["a","n"]) (λC R=>Gs.cons (.bi (R.g▸g.1) (R.b▸g.2)) Gs.nil) λas k x=>by
  obtain⟨o,a,n,rfl,⟨hn,BB,ha⟩,hk⟩:=x;have hk:=hk _ rfl;have hm:=Pg hn BB ha;have FY:=Pf (a:=a) hn;have FX:n*cK n a<=2^26:=by have h1:n*cK n a<=bk (a:Int)+n-1:=Nat.mul_div_le _ _;exact(a9 0xeb40000007a0b1000006a1b15f905a2b302f1fd093b198121fd8128193b81219 0x1010016111011116114) BB ha h1 aq
  refine⟨rfl,λC ok h Ft R=>?_⟩;rw[show bodyOf (aw 5)=(bodyOf (aw 5)).getD 0 (.Pass default)::d8 5 1::(bodyOf (aw 5)).drop 2 from ⋯];refine λad h₀ R₀ tk Q q=>lZ (vp eO (j7 eO 39) Ft (ks:=λσ' J=>σ'=bR "a_digits" (.own (nA (cq (cK n a) 0))) (vF a n)) (kr:=λJ=>oM.fail) ⟨[],r50.mpr ?_⟩ ad h₀ R₀ tk _ ⟨λafj σ₁ h₁ bq s₁ eK z=>?_,λa v ad' σ' h' ak s R' rv z=>absurd z eO.fail⟩)
  ·rw[aff hn,PJ,cw]
   have PK:(2:Int)^63=9223372036854775808:=rfl;exact⟨⋯,⟨by exact(ax 0xe0f8e095e0b019 16855313) hn,Dh (y9 (k:=9000) (by exact(ax 0xe0f8e095e0b019 16855313) hn) (by rw[fQ];exact b9 BB (jv ⋯ ⋯)))⟩,⟨by exact(bL 0xe7e05e0b15f905a08e8000000000000000109e0 269566225 [_] [_]) hm PK,by exact(bL 0xe6e5e04e08e8000000000000000109e0 285294865 [_] [_]) PK,by exact(ax 0xeb10000007a1e019b15f905a0 1122577) hm⟩,rfl⟩
  obtain⟨_,rfl⟩:=z;refine Xs.def_ Ft.ok rfl (gg.keep R.k) .one (R.g▸hB.keep R.k) (afh rfl) (Ft.hO _ ⋯) (λad h' f ct cd pm R' FO w=>?_) afj h₁ eK bq Q (q.after s₁);have ea:aj "a_digits" (bR "inner" (.jb (.ref f)) (bR "a_digits" (.own (nA (cq (cK n a) 0))) (vF a n)))=some (.own (nA (cq (cK n a) 0))):=⋯
  have eo:∀x xs,aj x (bR "inner" (.jb (.ref f)) (bR "a_digits" (.own (nA (cq (cK n a) 0))) (vF a n)))=some (.own xs)->x="a_digits":=λx xs e=>by
   rcases qB e with⟨_,e⟩|⟨_,e⟩
   ·exact AV.noConfusion e
   ·rcases qB e with⟨e,_⟩|⟨_,e⟩
    ·exact e
    ·exact absurd e (PB ⋯)
  obtain⟨us,cnt,gl,ru⟩:=(R'.hJ ea).2;have wa:=(R'.hJ ea).1;have ou:=(R'.own _ _ ea).1;generalize hl:ad "a_digits"=l at gl wa ou;have pn:∀x v,aj x ([("inner",.ref f),("a_digits",.ref l)]:List (Str×aa))=some v->x="inner"/\v=.ref f∨x="a_digits"/\v=.ref l:=λx v e=>xZ e
  have X:=jG.of (fv:=[("n",.int n)]) (pin:=[("inner",.ref f),("a_digits",.ref l)]) Ft.ok R' FO ⋯ (λx m=>have z:=BA (so:=(aE (aw 5)).names) (ks:=["a","n","a_digits","inner"]) ⋯ m;⟨(eN _ _).trans z.1,Ga z.2⟩) (λx a e=>by
   obtain⟨rfl,rfl⟩:=vB e;exact⟨fm ⋯,⋯,rfl⟩) (λx v e=>by
   rcases pn x v e with⟨rfl,rfl⟩|⟨rfl,rfl⟩
   ·exact⟨fm ⋯,w⟩
   ·exact⟨fm ⋯,wa⟩)
  have X':=X.gap gl λx a e=>⟨n,(vB e).2⟩
  have gb:(h'.update l λJ=>jn).get? l=none:=PG h' l;have kb1:Kp (dN C ok h 52 (nameOf (aw 5)) (aE (aw 5)) (.ref 51)).base (h'.update l λJ=>jn):=λb o nf e=>(jV h' _ λq:l=b=>by subst q;exact ou o e nf).trans (R'.base b o nf e);have kb2:Kp (h'.update l λJ=>jn) h':=λb o nf e=>by
   by_cases c:l=b
   ·subst c
    exact ai (gb.symm.trans e)
   ·rw[<-jV h' (λJ=>jn) c];exact e
  have zb:(h'.update l λJ=>jn).objs.size<=h'.objs.size:=i7 (tV ..);generalize h'.update l (λJ=>jn)=B' at X' gb kb1 kb2 zb;have G:On (dN C ok h 52 (nameOf (aw 5)) (aE (aw 5)) (.ref 51)) B' h'.objs.size:=⟨kb1,zb,R'.sz,R'.sz,rfl⟩
  have R2:=(R.on G (pin:=[("inner",.ref f),("a_digits",.ref l)])).le (e:=d) (d:=21);have c:=afb (prog:=prog) (wd:=wd) (mg:=mg) (mb:=mb) (afa λx e=>PA e) X' ((B.keep R.k).keep kb1) hm FX 21 _ R2 rfl
  refine⟨B',[("inner",.ref f),("a_digits",.ref l)],G,R'.to kb2 (aQ _) (λx xs e o g=>by rw[eo x xs e,hl]at g;exact ai (gb.symm.trans g)) (λx v e=>by
   rcases pn x v e with⟨rfl,rfl⟩|⟨rfl,rfl⟩
   ·exact w
   ·exact wa),?_⟩
  exact(j7 eO 40).S (Ft.on G (gl:=BD) (pn:=[]) (sn:=[("inner",vC "a_digits" (P5 n (cK n a) 21) (W5 n))]) (λx v e=>by rcases pn x v e with⟨rfl,rfl⟩|⟨rfl,rfl⟩<;>decide) (Gs.cons (.bi (R2.g▸g.1) (R2.b▸g.2)) Gs.nil) (λx F e=>ai e) (λx F e=>by obtain⟨rfl,rfl⟩:=vB e;exact⟨f,rfl,c⟩)) (afg hn hm FY hk)
end
section
section
variable{α:Type}(m:Md α)
noncomputable def lit(t:Nat):Nat:=i5 (cL (Nat.mod t (fF 2 52)) (fF 2 52)) (fF 2 (m8 (pJ t (fF 2 52)) 1))
noncomputable abbrev K3(α:Type):=Bool->Nat->Bool->Nat->Bool->Nat->α
noncomputable def sY(k:AV->α):K3 α:=λs1 a s2 b s3 c=>m.gd ([AV.aG s1 a,.aG s2 b,.aG s3 c].length<=10000) inferInstance (k (.tup [.aG s1 a,.aG s2 b,.aG s3 c]))
def yb(sr:Bool)(r:Nat)(sg:Bool)(g:Nat)(sb:Bool)(b:Nat)(k:K3 α):α:=
 m.fl .mul false (lit 4599075939470750515) sr r λs1 x1=>m.fl .mul false (lit 4603489467105573601) sg g λs2 x2=>m.fl .add s1 x1 s2 x2 λs3 x3=>m.fl .mul false (lit 4592590756007337001) sb b λs4 x4=>m.fl .add s3 x3 s4 x4 λsy y=>
 m.fl .sub sr r sy y λs5 x5=>m.fl .mul false (lit 4604840546993784750) s5 x5 λs7 p=>m.fl .sub sb b sy y λs6 x6=>m.fl .mul false (lit 4598535507515466056) s6 x6 λs8 q=>m.fl .sub s7 p s8 q λsi i=>
 m.fl .sub sr r sy y λs5 x5=>m.fl .mul false (lit 4602318531202457272) s5 x5 λs7 p=>m.fl .sub sb b sy y λs6 x6=>m.fl .mul false (lit 4601057523306793533) s6 x6 λs8 q=>m.fl .add s7 p s8 q λsq q=>k sy y si i sq q
def pd:Nat:=lit 4607182418800017408
def up1(s:Bool)(x:Nat)(k:Bool->Nat->α):α:=m.br (fS false pd s x) (k false pd) (k s x)
def Gf(s:Bool)(x:Nat)(k:Bool->Nat->α):α:=m.br (fS s x false 0) (k false 0) (k s x)
def yc(sy:Bool)(y:Nat)(si:Bool)(i:Nat)(sq:Bool)(q:Nat)(k:K3 α):α:=
 m.fl .mul false (lit 4606703976345377586) si i λs1 a=>m.fl .add sy y s1 a λs2 b=>m.fl .mul false (lit 4603791717925830846) sq q λs3 c=>m.fl .add s2 b s3 c λsr r=>
 m.fl .mul false (lit 4598621754083818298) si i λs1 a=>m.fl .sub sy y s1 a λs2 b=>m.fl .mul false (lit 4603901015759978483) sq q λs3 c=>m.fl .sub s2 b s3 c λsg g=>
 m.fl .mul false (lit 4607671262177584182) si i λs1 a=>m.fl .sub sy y s1 a λs2 b=>m.fl .mul false (lit 4610375502138591871) sq q λs3 c=>m.fl .add s2 b s3 c λsb b=>
 Gf m sr r λsr r=>Gf m sg g λsg g=>Gf m sb b λsb b=>up1 m sr r λsr r=>up1 m sg g λsg g=>up1 m sb b λsb b=>k sr r sg g sb b
def Gg(s:Bool)(h:Nat)(k:Bool->Nat->α):α:=m.fl .div s h false (lit 4618441417868443648) λs h=>m.fl (.mod ()) s h false pd k
def Gh(sr:Bool)(r:Nat)(sg:Bool)(g:Nat)(sb:Bool)(b:Nat)(sx:Bool)(x:Nat)(sd:Bool)(d:Nat)(k:Bool->Nat->α):α:=
 m.fl .sub sx x sr r λs1 a=>m.fl .div s1 a sd d λs1 rc=>m.fl .sub sx x sg g λs2 a=>m.fl .div s2 a sd d λs2 gc=>m.fl .sub sx x sb b λs3 a=>m.fl .div s3 a sd d λs3 bc=>
 m.br (jc sr r sx x) (m.fl .sub s3 bc s2 gc λs h=>Gg m s h k) (m.br (jc sg g sx x) (m.fl .add false (lit 4611686018427387904) s1 rc λs h=>m.fl .sub s h s3 bc λs h=>Gg m s h k) (m.fl .add false (lit 4616189618054758400) s2 gc λs h=>m.fl .sub s h s1 rc λs h=>Gg m s h k))
def yd(sr:Bool)(r:Nat)(sg:Bool)(g:Nat)(sb:Bool)(b:Nat)(k:K3 α):α:=
 three m Aj (λsx x=>three m Ak (λsn n=>m.fl .sub sx x sn n λsd d=>m.br (jc sn n sx x) (k false 0 false 0 sx x) (m.fl .div sd d sx x λss s=>Gh m sr r sg g sb b sx x sd d λsh h=>k sh h ss s sx x)) (sr,r) (sg,g) (sb,b)) (sr,r) (sg,g) (sb,b)
def ye(sr:Bool)(r:Nat)(sg:Bool)(g:Nat)(sb:Bool)(b:Nat)(k:K3 α):α:=
 three m Aj (λsx x=>three m Ak (λsn n=>m.fl .add sx x sn n λsu u=>m.fl .sub sx x sn n λsd d=>m.fl .div su u false (lit 4611686018427387904) λsl l=>m.br (jc sn n sx x) (k false 0 sl l false 0)
  (m.br (dW (fS false (lit 4602678819172646912) sl l)) (m.fl .div sd d su u λss s=>Gh m sr r sg g sb b sx x sd d λsh h=>k sh h sl l ss s) (m.fl .sub false (lit 4611686018427387904) sx x λs1 a=>m.fl .sub s1 a sn n λs2 c=>m.fl .div sd d s2 c λss s=>Gh m sr r sg g sb b sx x sd d λsh h=>k sh h sl l ss s))) (sr,r) (sg,g) (sb,b)) (sr,r) (sg,g) (sb,b)
def yf:Nat:=lit 4599676419421066581
def BE:Nat:=lit 4595172819793696085
def PL:Nat:=lit 4604180019048437077
def vR(s1:Bool)(m1:Nat)(s2:Bool)(m2:Nat)(sh:Bool)(h:Nat)(k:Bool->Nat->α):α:=
 m.fl (.mod ()) sh h false pd λsh h=>m.br (fS sh h false BE) (m.fl .sub s2 m2 s1 m1 λs3 a=>m.fl .mul s3 a sh h λs4 b=>m.fl .mul s4 b false (lit 4618441417868443648) λs5 c=>m.fl .add s1 m1 s5 c k)
 (m.br (fS sh h false (lit 4602678819172646912)) (k s2 m2) (m.br (fS sh h false PL) (m.fl .sub s2 m2 s1 m1 λs3 a=>m.fl .sub false PL sh h λs6 e=>m.fl .mul s3 a s6 e λs4 b=>m.fl .mul s4 b false (lit 4618441417868443648) λs5 c=>m.fl .add s1 m1 s5 c k) (k s1 m1)))
def PM(sh:Bool)(h:Nat)(sl:Bool)(l:Nat)(k:K3 α)(s2:Bool)(m2:Nat):α:=
 m.fl .mul false (lit 4611686018427387904) sl l λs3 a=>m.fl .sub s3 a s2 m2 λs1 m1=>m.fl .add sh h false yf λs4 b=>vR m s1 m1 s2 m2 s4 b λsr r=>vR m s1 m1 s2 m2 sh h λsg g=>m.fl .sub sh h false yf λs5 c=>vR m s1 m1 s2 m2 s5 c λsb b=>k sr r sg g sb b
def yg(sh:Bool)(h:Nat)(sl:Bool)(l:Nat)(ss:Bool)(s:Nat)(k:K3 α):α:=
 m.br (jc ss s false 0) (k sl l sl l sl l) (m.br (dW (fS false (lit 4602678819172646912) sl l)) (m.fl .add false pd ss s λs1 a=>m.fl .mul sl l s1 a λs2 m2=>PM m sh h sl l k s2 m2)
  (m.fl .add sl l ss s λs1 a=>m.fl .mul sl l ss s λs3 b=>m.fl .sub s1 a s3 b λs2 m2=>PM m sh h sl l k s2 m2))
def yh(sh:Bool)(h:Nat)(ss:Bool)(s:Nat)(sv:Bool)(v:Nat)(k:K3 α):α:=
 m.br (jc ss s false 0) (k sv v sv v sv v) (m.fl .mul sh h false (lit 4618441417868443648) λs6 x=>ae s6 m.fail (m.fi ((pJ x S:Nat):Int) λi=>
  m.fl .mul sh h false (lit 4618441417868443648) λs7 y=>m.i2 i λsi j=>m.fl .sub s7 y si j λsf f=>
  m.fl .sub false pd ss s λs1 a=>m.fl .mul sv v s1 a λsp p=>m.fl .mul ss s sf f λs1 a=>m.fl .sub false pd s1 a λs2 b=>m.fl .mul sv v s2 b λsq q=>
  m.fl .sub false pd sf f λs1 a=>m.fl .mul ss s s1 a λs2 b=>m.fl .sub false pd s2 b λs3 c=>m.fl .mul sv v s3 c λst t=>
  m.gd ((6:Int)≠0) inferInstance (m.fi (i.fmod 6) λi=>m.br (decide (i=0)) (k sv v st t sp p) (m.br (decide (i=1)) (k sq q sv v sp p) (m.br (decide (i=2)) (k sp p sv v st t) (m.br (decide (i=3)) (k sp p sq q sv v) (m.br (decide (i=4)) (k st t sp p sv v) (m.br (decide (i=5)) (k sv v sp p sq q) m.fail))))))))
def kT(k:AV->α)(a:AV):α:=opt m.fail (qn a) λxs=>k (.tup xs)
end
section
variable{α:Type}(m:Md α)(k:AV->α)(s1:Bool)(a:Nat)(s2:Bool)(b:Nat)(s3:Bool)(c:Nat)
noncomputable def Gi{α:Type}:List (Str×GV α):=[("max",.bi .max),("min",.bi .min)]
noncomputable def glV{α:Type}:List (Str×GV α):=[("ONE_SIXTH",.aG 4595172819793696085),("TWO_THIRD",.aG 4604180019048437077)]
noncomputable def PN{α:Type}:List (Str×GV α):=[("int",.bi .int)]
def sZ(f:Bool->Nat->Bool->Nat->Bool->Nat->α)(as:List AV):α:=opt m.fail (cj il as) λps=>opt m.fail (l3 ps) λp=>f p.1.1 p.1.2 p.2.1.1 p.2.1.2 p.2.2.1 p.2.2.2
def glH{α:Type}(m:Md α):List (Str×GV α):=[("_v",.fn λas k=>sZ m (λs1 a s2 b s3 c=>vR m s1 a s2 b s3 c (kl k)) as),("ONE_THIRD",.aG 4599676419421066581)]
theorem r13:dY m 40 (aw 13) [] [] 5 true ["r","g","b"] [.aG s1 a,.aG s2 b,.aG s3 c] k=yb m s1 a s2 b s3 c (sY m k):=⋯
theorem r18:dY m 40 (aw 18) Gi [] 5 true ["r","g","b"] [.aG s1 a,.aG s2 b,.aG s3 c] k=yd m s1 a s2 b s3 c (sY m k):=⋯
theorem r15:dY m 40 (aw 15) Gi [] 5 true ["r","g","b"] [.aG s1 a,.aG s2 b,.aG s3 c] k=ye m s1 a s2 b s3 c (sY m k):=⋯
theorem r17:dY m 40 (aw 17) glV [] 5 true ["m1","m2","hue"] [.aG s1 a,.aG s2 b,.aG s3 c] k=vR m s1 a s2 b s3 c (kl k):=⋯
theorem r16:dY m 40 (aw 16) (glH m) [] 5 true ["h","l","s"] [.aG s1 a,.aG s2 b,.aG s3 c] k=yg m s1 a s2 b s3 c (sY m k):=⋯
theorem r19:dY m 40 (aw 19) PN [] 5 true ["h","s","v"] [.aG s1 a,.aG s2 b,.aG s3 c] (kT m k)=yh m s1 a s2 b s3 c (sY m k):=⋯
theorem r14:dY m 40 (aw 14) [] [] 5 true ["y","i","q"] [.aG s1 a,.aG s2 b,.aG s3 c] k=yc m s1 a s2 b s3 c (sY m k):=⋯
end
end
section
def gM(q:Md Bool):Md Bool:={bM with fi:=q.fi,fl:=q.fl,i2:=q.i2,di:=q.di,rq:=q.rq}
def f3{α:Type}(m:Md α)(f:Bool->Nat->Bool->Nat->Bool->Nat->K3 α->α)(as:List AV)(k:AV->α):α:=sZ m (λs1 a s2 b s3 c=>f s1 a s2 b s3 c (sY m k)) as
def Gj{α:Type}(m:Md α):List (Str×GV α):=[("rgb_to_yiq",.fn (f3 m (yb m))),("rgb_to_hsv",.fn (f3 m (yd m))),("rgb_to_hls",.fn (f3 m (ye m))),("hsv_to_rgb",.fn (f3 m (yh m))),("hls_to_rgb",.fn (f3 m (yg m))),("yiq_to_rgb",.fn (f3 m (yc m))),("max",.bi .max),("min",.bi .min),("round",.bi .round),("abs",.bi .abs)]
section
variable(q:Md Bool)
def mi(x y:Int)(k:Int->Bool):Bool:=binI (gM q) .Mult (λa=>opt false (aR a) k) x y
noncomputable def ti(s:Bool)(x:Nat)(c:Int)(k:Bool->Nat->Bool):Bool:=q.i2 c λs1 y=>q.fl .mul s x s1 y k
noncomputable def it(c:Int)(s:Bool)(x:Nat)(k:Bool->Nat->Bool):Bool:=q.i2 c λs1 y=>q.fl .mul s1 y s x k
def ri(s:Bool)(x:Nat)(c:Int)(k:Int->Bool):Bool:=ti q s x c λs x=>q.rq s x k
def ne(is js:List Int)(k:AV->Bool)(x:Bool):Bool:=ae (dW (decide (is=js))) (k .none) x
noncomputable def Gk(sp:Int)(mn:Int)(l:Int)(k:Int->Bool):Bool:=q.fi mn λa=>q.fi (max 0 l) λx=>q.fi (min sp x) λy=>q.fi (a+y) k
def Gm(ps:List Int)(k:AV->Bool)(s1:Bool)(a:Nat)(s2:Bool)(b:Nat)(s3:Bool)(c:Nat)(x:Bool):Bool:=it q 32 s1 a λs1 a=>q.rq s1 a λa=>it q 32 s2 b λs2 b=>q.rq s2 b λb=>it q 32 s3 c λs3 c=>q.rq s3 c λc=>ne [a,b,c] ps k x
noncomputable def Gn(y:Int):Int:=if y<0 then -y else y
def PO(r g b t:Int)(sy:Bool)(y:Nat)(si:Bool)(i:Nat)(sw:Bool)(w:Nat)(sh:Bool)(h:Nat)(ss:Bool)(s:Nat)(sv:Bool)(v:Nat)(sl:Bool)(l:Nat)(sd:Bool)(d:Nat)(mx bo sp un pl:Int)(k:AV->Bool):Bool:=
 ti q ss s mx λs1 a=>ri q s1 a un λa1=>q.fi (64-bo) λx=>q.fi (min bo x) λx=>ti q sd d x λs1 a=>ri q s1 a un λa2=>mi q sp un λx=>mi q sp un λx'=>ne [a1,a2] [x,x'] k
 (q.i2 t λs1 a=>q.fl .add sh h s1 a λs1 a=>yh (gM q) s1 a ss s sv v λr1 r2 g1 g2 b1 b2=>q.i2 1 λs1 a=>q.fl .add sh h s1 a λs1 a=>q.i2 t λs2 c=>q.fl .sub s1 a s2 c λs1 a=>yg (gM q) s1 a sl l sd d λr3 r4 g3 g4 b3 b4=>
  yc (gM q) sy y si i sw w λr5 r6 g5 g6 b5 b6=>Gm q [r,g,b] k r1 r2 g1 g2 b1 b2 (Gm q [r,g,b] k r3 r4 g3 g4 b3 b4 (Gm q [r,g,b] k r5 r6 g5 g6 b5 b6 (k (.tup [.aG sy y,.int pl,.int sp])))))
def PP(r g b t:Int)(k:AV->Bool):Bool:=
 q.di r 32 λs1 R=>q.di g 32 λs2 G=>q.di b 32 λs3 B=>yb (gM q) s1 R s2 G s3 B λsy y si i sw w=>yd (gM q) s1 R s2 G s3 B λsh h ss s sv v=>ye (gM q) s1 R s2 G s3 B λsa ag sl l sd d=>
 q.fi (lD [r,g,b]) λmx=>q.fi (lD [r,g,b]) λx=>q.fi (oK [r,g,b]) λy'=>q.fi (x+y') λbo=>q.fi (lD [r,g,b]) λx=>q.fi (oK [r,g,b]) λy'=>q.fi (x-y') λsp=>q.fi (2^(20:Int).toNat) λun=>
 mi q 30 r λx=>mi q 59 g λy'=>q.fi (x+y') λz=>mi q 11 b λu=>q.fi (z+u) λbr=>mi q 100 r λx=>q.fi (x-br) λrd=>mi q 100 b λx=>q.fi (x-br) λbl=>
 it q 6 sh h λs1 a=>ri q s1 a sp λpl=>
 mi q 3 sp λx=>q.fi (pl-x) λx=>q.fi (Gn x) λx=>q.fi (x-sp) λl1=>mi q 2 sp λu=>mi q 2 sp λx=>q.fi (pl-x) λx=>q.fi (Gn x) λx=>q.fi (u-x) λl2=>mi q 2 sp λu=>mi q 4 sp λx=>q.fi (pl-x) λx=>q.fi (Gn x) λx=>q.fi (u-x) λl3=>
 Gk q sp (oK [r,g,b]) l1 λo1=>Gk q sp (oK [r,g,b]) l2 λo2=>Gk q sp (oK [r,g,b]) l3 λo3=>
 ri q sy y 3200 λt1=>ri q si i 320000 λt2=>ri q sw w 320000 λt3=>ri q sv v 32 λt4=>ri q sl l 64 λt5=>
 mi q 74 rd λx=>mi q 27 bl λu=>q.fi (x-u) λu2=>mi q 48 rd λx=>mi q 41 bl λu=>q.fi (x+u) λu3=>
 ne [t1,t2,t3,t4,t5] [br,u2,u3,mx,bo] k (ne [o1,o2,o3] [r,g,b] k (ae (dW (jc sa ag sh h)) (k .none) (q.i2 0 λs1 a=>ae (dW (fS sh h s1 a)) (q.i2 1 λs1 a=>ae (dW (fS sh h s1 a)) (k .none)
  (ae (decide (sp=0)) (q.i2 0 λs1 a=>ae (dW (jc sh h s1 a)) (k .none) (PO q r g b t sy y si i sw w sh h ss s sv v sl l sd d mx bo sp un pl k)) (PO q r g b t sy y si i sw w sh h ss s sv v sl l sd d mx bo sp un pl k))) (k .none))))
theorem r33(r g b t:Int)(k:AV->Bool):dY (gM q) 60 (aw 33) (Gj (gM q)) [] 5 true ["parts","turns"] [.lst [.int r,.int g,.int b],.int t] k=PP q r g b t k:=⋯
end
end
section
def nM:Md Nat where
 fail:=0
 gd c d x:=ae (KW d) x 0
 br c x y:=ae c x y
 op o k:=opt 0 o k
 fi i k:=k i
 fl:=xg 0
 i2:=uN 0
 di x y k:=uO 0 k x y
 rq:=nv λi k=>k i
def nJ(r g b:Nat):Nat:=nM.di (.ofNat r) 32 λsr r=>nM.di (.ofNat g) 32 λsg g=>nM.di (.ofNat b) 32 λsb b=>nM.fl .mul false (lit 4599075939470750515) sr r λs1 x1=>nM.fl .mul false (lit 4603489467105573601) sg g λs2 x2=>nM.fl .add s1 x1 s2 x2 λs3 x3=>nM.fl .mul false (lit 4592590756007337001) sb b λs4 x4=>nM.fl .add s3 x3 s4 x4 λsy y=>y
noncomputable def BF(x y:Nat):Nat:=cL x (m8 y x)
noncomputable def PQ(x y:Nat):Nat:=m8 x (m8 x y)
def ia(r g b:Nat):Nat:=m8 (BF (BF r g) b) (PQ (PQ r g) b)
def nK(r g b:Nat):Nat:=fo (ia r g b) λs=>fo (BF (BF r g) b) λmx=>ae (aS s 0) 0 (ae (aS r mx) (Nat.mod (m8 (cL (i5 6 s) g) b) (i5 6 s)) (ae (aS g mx) (m8 (cL (i5 2 s) b) r) (m8 (cL (i5 4 s) r) g)))
def vz(p:Nat)(a:AV):Bool:=opt false (aR a) λi=>decide (i=(p:Int))
def isF(p:Nat)(a:AV):Bool:=opt false (il a) λq=>ae q.1 false (aS q.2 p)
def BG(L p s:Nat)(a:AV):Bool:=opt false (qn a) λxs=>opt false (l3 xs) λt=>ae (isF L t.1) (ae (vz p t.2.1) (vz s t.2.2) false) false
def BH(r g b t:Nat):Bool:=PP bM (.ofNat r) (.ofNat g) (.ofNat b) (.ofNat t) (BG (nJ r g b) (nK r g b) (ia r g b))
def bt(a r:Bool):Bool:=ae a r false
def Gp(r g b:Nat):Bool:=bt (BH r g b 0) (bt (BH r g b 1) (BH r g b 2))
noncomputable def aP(x y z s n:Nat):Bool:=@rC (λJ=>Bool) true (λw ih=>bt (Gp (cL (cL s w) x) (cL (cL s w) y) (cL (cL s w) z)) ih) n
theorem afv:gM bM=bM:=⋯
end
section
variable{α β:Type}
theorem aZ.map(c:aZ H prog wd base mg mb fa d hn F)(f:∀as k,H' (F' as k)->∃k',H (F as k')/\∀a,H (k' a)->H' (k a)):aZ H' prog wd base mg mb fa d hn F':=λC R=>⟨(c C R).ob,λok h as vs k tk Q kp T ho r x q=>(f as k x).elim λk' z=>(c C R).run ok h as vs k' tk Q kp T ho r z.1 λv h' ak a g rv e=>q v h' ak a g rv (z.2 a e)⟩
abbrev Tr(b:Bool):Prop:=b=true
theorem mO:¬Tr false:=aL
theorem PR:∀{as:List AV} {ps:List (Bool×Nat)},cj il as=some ps->as=ps.map λp=>.aG p.1 p.2|[],ps,e=>by cases e;rfl|a::as,ps,e=>aW (H:=(·=some ps)) (λe=>ai e) e λp ep e=>aW (H:=(·=some ps)) (λe=>ai e) e λbs eb e=>by cases e;rw[Ed ep,PR eb];rfl
theorem Gq{β:Type}{l:List β}{q:β×β×β}(x:l3 l=some q):l=[q.1,q.2.1,q.2.2]:=by
 match l with|[a,b,c]=>cases x;rfl|[]=>exact ai x|[_]=>exact ai x|[_,_]=>exact ai x|_::_::_::_::_=>exact ai x
theorem PU{f:Bool->Nat->Bool->Nat->Bool->Nat->Bool}{as:List AV}(x:Tr (sZ bM f as)):∃s1 a s2 b s3 c,as=[.aG s1 a,.aG s2 b,.aG s3 c]/\Tr (f s1 a s2 b s3 c):=aW mO x λps e x=>aW mO x λt e' x=>⟨_,_,_,_,_,_,by rw[PR e,Gq e'];rfl,x⟩
theorem s9{j:Nat}{gl:List (Str×GV Bool)}{F:List AV->(AV->Bool)->Bool}{f:(AV->Bool)->Bool->Nat->Bool->Nat->Bool->Nat->Bool}(D:eP base fa (aw j) o pm cd doc)(B:ck base mg mb)(S:FE (aE (aw j)) xs=true)(hx:xs.length=3) (hb:∀a b c:aa,bindArgs (docDef (nameOf (aw j)) (mK (aw j)) (bodyOf (aw j)) (aE (aw j)) pm cd doc) ⟨[a,b,c],[]⟩=pure (xs.zip [a,b,c])) (G:∀C,Rm prog wd base mg mb d true C->Gs Tr C gl) (hF:∀as k,F as k=sZ bM (f k) as) (r:∀k s1 a s2 b s3 c,Tr (f k s1 a s2 b s3 c)->Tr (dY bM 40 (aw j) gl [] 5 true xs [.aG s1 a,.aG s2 b,.aG s3 c] k)):aZ Tr prog wd base mg mb fa (d+1) true F:=
 .run KY 40 D B S (λvs h=>Be (h.trans hx) hb) G λas k x=>by rw[hF]at x;obtain⟨s1,a,s2,b,s3,c,rfl,x⟩:=PU x;exact⟨hx.symm,r k s1 a s2 b s3 c x⟩
end
section
theorem afw(D:eP base 80 (aw 13) o pm cd doc)(B:ck base mg mb):aZ Tr prog wd base mg mb 80 (d+1) true (f3 bM (yb bM)):=s9 (xs:=["r","g","b"]) D B ⋯ rfl (λJ J J=>rfl) (λJ J=>Gs.nil) (λJ J=>rfl) λk J J J J J J x=>(r13 bM k ..).trans x
theorem afx(D:eP base 87 (aw 14) o pm cd doc)(B:ck base mg mb):aZ Tr prog wd base mg mb 87 (d+1) true (f3 bM (yc bM)):=s9 (xs:=["y","i","q"]) D B ⋯ rfl (λJ J J=>rfl) (λJ J=>Gs.nil) (λJ J=>rfl) λk J J J J J J x=>(r14 bM k ..).trans x
theorem PV(R:Rm prog wd base mg mb d true C)(g1:mg "max"=none/\mb "max"=some (.builtin "max"))(g2:mg "min"=none/\mb "min"=some (.builtin "min")):Gs Tr C Gi:=Gs.cons (.bi (R.g▸g1.1) (R.b▸g1.2)) (Gs.cons (.bi (R.g▸g2.1) (R.b▸g2.2)) Gs.nil)
theorem afy(D:eP base 94 (aw 15) o pm cd doc)(B:ck base mg mb)(g1:mg "max"=none/\mb "max"=some (.builtin "max"))(g2:mg "min"=none/\mb "min"=some (.builtin "min")):aZ Tr prog wd base mg mb 94 (d+1) true (f3 bM (ye bM)):=s9 (xs:=["r","g","b"]) D B ⋯ rfl (λJ J J=>rfl) (λJ R=>PV R g1 g2) (λJ J=>rfl) λk J J J J J J x=>(r15 bM k ..).trans x
theorem afz(D:eP base 115 (aw 18) o pm cd doc)(B:ck base mg mb)(g1:mg "max"=none/\mb "max"=some (.builtin "max"))(g2:mg "min"=none/\mb "min"=some (.builtin "min")):aZ Tr prog wd base mg mb 115 (d+1) true (f3 bM (yd bM)):=s9 (xs:=["r","g","b"]) D B ⋯ rfl (λJ J J=>rfl) (λJ R=>PV R g1 g2) (λJ J=>rfl) λk J J J J J J x=>(r18 bM k ..).trans x
theorem c_v(D:eP base 108 (aw 17) o pm cd doc)(B:ck base mg mb)(g1:∃t,mg "ONE_SIXTH"=some (.float 4595172819793696085 t))(g2:∃t,mg "TWO_THIRD"=some (.float 4604180019048437077 t)):aZ Tr prog wd base mg mb 108 (d+1) true (λas k=>sZ bM (λs1 a s2 b s3 c=>vR bM s1 a s2 b s3 c (kl k)) as):=
 s9 (xs:=["m1","m2","hue"]) D B ⋯ rfl (λJ J J=>rfl) (λJ R=>g1.elim λt g1=>g2.elim λu g2=>Gs.cons (.aG (R.g▸g1)) (Gs.cons (.aG (R.g▸g2)) Gs.nil)) (λJ J=>rfl) λk J J J J J J x=>(r17 bM k ..).trans x
theorem afB(D:eP base 101 (aw 16) o pm cd doc)(B:ck base mg mb)(g1:mg "_v"=some (.ref 108))(g2:∃t,mg "ONE_THIRD"=some (.float 4599676419421066581 t))(c:∀d,aZ Tr prog wd base mg mb 108 (d+1) true (λas k=>sZ bM (λs1 a s2 b s3 c=>vR bM s1 a s2 b s3 c (kl k)) as)):aZ Tr prog wd base mg mb 101 (d+2) true (f3 bM (yg bM)):=
 s9 (xs:=["h","l","s"]) D B ⋯ rfl (λJ J J=>rfl) (λC R=>g2.elim λt g2=>Gs.cons (.fn (R.g▸g1) (c d C R)) (Gs.cons (.aG (R.g▸g2)) Gs.nil)) (λJ J=>rfl) λk J J J J J J x=>(r16 bM k ..).trans x
theorem afC(D:eP base 122 (aw 19) o pm cd doc)(B:ck base mg mb)(g1:mg "int"=none/\mb "int"=some (.type "int")):aZ Tr prog wd base mg mb 122 (d+1) true (f3 bM (yh bM)):=
 aZ.map (F:=λas k=>sZ bM (λs1 a s2 b s3 c=>dY bM 40 (aw 19) PN [] 5 true ["h","s","v"] [.aG s1 a,.aG s2 b,.aG s3 c] k) as) (s9 (xs:=["h","s","v"]) D B ⋯ rfl (λJ J J=>rfl) (λC R=>Gs.cons (.bi (R.g▸g1.1) (R.b▸g1.2)) Gs.nil) (λJ J=>rfl) λk J J J J J J x=>x) λas k x=>by obtain⟨s1,a,s2,b,s3,c,rfl,x⟩:=PU x;exact⟨kT bM k,(r19 bM k s1 a s2 b s3 c).trans x,λa e=>aW mO e λxs ex e=>by rw[Ec ex];exact e⟩
end
theorem afD(x:Tr (BG L p s a)):a=.tup [.aG false L,.int p,.int s]:=aW mO x λxs ex x=>aW mO x λt et x=>by
 obtain⟨x1,x⟩:=Fl.bz mO x;obtain⟨x2,x3⟩:=Fl.bz mO x;have i:∀{p:Nat} {a:AV},Tr (vz p a)->a=.int p:=λ{p a} x=>aW mO x λi ei x=>by rw[mv ei,of_decide_eq_true x]
 have f:t.1=.aG false L:=aW mO x1 λq eq x=>by obtain⟨z,x⟩:=Fl.jd mO x;rw[Ed eq,z,fD x]
 rw[Ec ex,Gq et,f,i x2,i x3]
structure GlS(mg mb:Str->Option aa):Prop where
 a1:mg "rgb_to_yiq"=some (.ref 80)
 a2:mg "rgb_to_hsv"=some (.ref 115)
 a3:mg "rgb_to_hls"=some (.ref 94)
 a4:mg "hsv_to_rgb"=some (.ref 122)
 a5:mg "hls_to_rgb"=some (.ref 101)
 a6:mg "yiq_to_rgb"=some (.ref 87)
 b1:mg "max"=none/\mb "max"=some (.builtin "max")
 b2:mg "min"=none/\mb "min"=some (.builtin "min")
 b3:mg "round"=none/\mb "round"=some (.builtin "round")
 b4:mg "abs"=none/\mb "abs"=some (.builtin "abs")
def kP(r g b:Nat):Prop:=∀t,t<=2->BH r g b t=true
def PW(as:List AV)(k:AV->Way->Prop)(o:Way):Prop:=∃r g b t:Nat,as=[.lst [.int r,.int g,.int b],.int t]/\(kP r g b/\t<=2)/\k (.tup [.aG false (nJ r g b),.int (nK r g b:Nat),.int (ia r g b:Nat)]) o
def afF(as:List AV)(k:AV->Bool):Bool:=ae (aS as.length 2) (dY bM 60 (aw 33) (Gj bM) [] 5 true ["parts","turns"] as k) false
section
theorem afG(D:eP base 218 (aw 33) o pm cd doc)(B:ck base mg mb)(G:GlS mg mb)(c1:∀d,aZ Tr prog wd base mg mb 80 (d+1) true (f3 bM (yb bM)))(c2:∀d,aZ Tr prog wd base mg mb 115 (d+1) true (f3 bM (yd bM)))(c3:∀d,aZ Tr prog wd base mg mb 94 (d+1) true (f3 bM (ye bM))) (c4:∀d,aZ Tr prog wd base mg mb 122 (d+1) true (f3 bM (yh bM))) (c5:∀d,aZ Tr prog wd base mg mb 101 (d+2) true (f3 bM (yg bM))) (c6:∀d,aZ Tr prog wd base mg mb 87 (d+1) true (f3 bM (yc bM))):aZ Hw prog wd base mg mb 218 (d+3) true PW:=
 aZ.map (F:=afF) (.run KY 60 (xs:=["parts","turns"]) (gl:=Gj bM) (mu:=[]) (wf:=5) D B ⋯ (λvs h=>o6 h λJ J=>rfl) (λC R=>Gs.cons (.fn (R.g▸G.a1) (c1 _ C R)) (Gs.cons (.fn (R.g▸G.a2) (c2 _ C R)) (Gs.cons (.fn (R.g▸G.a3) (c3 _ C R)) (Gs.cons (.fn (R.g▸G.a4) (c4 _ C R)) (Gs.cons (.fn (R.g▸G.a5) (c5 _ C R)) (Gs.cons (.fn (R.g▸G.a6) (c6 _ C R))
  (Gs.cons (.bi (R.g▸G.b1.1) (R.b▸G.b1.2)) (Gs.cons (.bi (R.g▸G.b2.1) (R.b▸G.b2.2)) (Gs.cons (.bi (R.g▸G.b3.1) (R.b▸G.b3.2)) (Gs.cons (.bi (R.g▸G.b4.1) (R.b▸G.b4.2)) Gs.nil)))))))))) λas k x=>by
   obtain⟨z,x⟩:=Fl.bz mO x
   exact⟨fD z,x⟩) λas k x=>by
  obtain⟨o,r,g,b,t,rfl,⟨L,ht⟩,hk⟩:=x;refine⟨BG (nJ r g b) (nK r g b) (ia r g b),?_,λa e=>⟨o,by rw[afD e];exact hk⟩⟩;have e:=r33 bM r g b t (BG (nJ r g b) (nK r g b) (ia r g b));rw[afv]at e;exact e.trans (L t ht)
end
theorem Gr(h:bt a r=true):a=true/\r=true:=by
 cases a
 ·cases h
 ·exact⟨rfl,h⟩
theorem afH(h:Gp r g b=true):kP r g b:=by
 obtain⟨g0,h⟩:=Gr h;obtain⟨g1,g2⟩:=Gr h;intro t ht;rcases Nat.le_succ_iff.mp ht with h|rfl
 ·rcases Nat.le_succ_iff.mp h with h|rfl
  ·rw[Nat.le_zero.mp h];exact g0
  ·exact g1
 ·exact g2
theorem afI(x y z s n:Nat):aP x y z s (n+1)=bt (Gp (s+n+x) (s+n+y) (s+n+z)) (aP x y z s n):=⋯
theorem Gu:∀n,aP x y z s n=true->∀w,w<n->kP (s+w+x) (s+w+y) (s+w+z)
 |0,_,w,h=>absurd h (De w)|n+1,h,w,hw=>by
  rw[afI]at h;obtain⟨a,r⟩:=Gr h;rcases SW (Jd hw)with q|q
  ·exact Gu n r w q
  ·rw[q];exact afH a
def vG(d:Nat×Nat×Nat):Prop:=∀w,w<17->kP (w+d.1) (w+d.2.1) (w+d.2.2)
theorem dc(h:aP x y z 0 8=true)(g:aP x y z 8 9=true)(t:∀d∈l,vG d):∀d∈(x,y,z)::l,vG d:=List.forall_mem_cons.mpr ⟨λw hw=>(CT w 8).elim (λq=>by have:=Gu 8 h w q;rwa[iY]at this) λq=>by have:=Gu 9 g (w-8) (Nat.sub_lt_left_of_lt_add q hw);rwa[za q]at this,t⟩
namespace Re
open PySem.Sre
noncomputable def dO:Nat->M->M|0,m=>m|n+1,m=>dO n m.step
theorem afJ{m:M}(h:m.outcome.isSome=true):m.step=m:=by unfold M.step;rw[if_pos h]
theorem yi{m:M}(h:m.outcome.isSome=true):∀n,dO n m=m|0=>rfl|n+1=>by rw[dO,afJ h,yi h n]
theorem yj(m:M):∀a b,dO (a+b) m=dO b (dO a m)|0,b=>by rw[iY];rfl|a+1,b=>by rw[show a+1+b=(a+b)+1 by exact ao 0xed819810818190 4581298450];show dO (a+b) m.step=_;rw[yj m.step a b];rfl
theorem PX:∀n (m:M),M.runFor n m=dO n m
 |0,m=>rfl|n+1,m=>by
  unfold M.runFor;by_cases h:m.outcome.isSome=true
  ·rw[if_pos h,yi h]
  ·rw[if_neg h,PX n];rfl
theorem drive{Md:Model}{A:m7}{E:aa->aF->Prop}{s:aF}{Q:M->aF->Prop}:∀(turns n:Nat) (m:M),n<4*turns->(dO n m).outcome.isSome=true->Q (dO n m) s->wpAny Md A (Tn turns m) Q E s
 |0,n,m,hn,ho,hq=>by exact absurd hn (ax 235913360 1122577)|turns+1,n,m,hn,ho,hq=>by
  unfold Tn;simp only[PX,show Builtin.Re.reTurnSteps=4 from rfl];by_cases h:(dO 4 m).outcome.isSome=true
  ·rw[if_pos h]
   have e:dO n m=dO 4 m:=by
    rcases CL n 4 with q|q
    ·obtain⟨k,ek⟩:=Je q
     rw[ek,yj,yi ho]
    ·obtain⟨k,rfl⟩:=Je q
     rw[yj,yi h]
   rw[e]at hq;exact aV hq
  ·rw[if_neg h]
   refine ar (rF ?_);have q:4<=n:=by
    rcases CL 4 n with q|q
    ·exact q
    ·obtain⟨k,e⟩:=Je q
     rw[e,yj,yi ho]at h;exact absurd ho h
   obtain⟨k,rfl⟩:=Je q;rw[yj]at ho hq;exact drive turns k (dO 4 m) ((ao 0xec1e1490c1e8191498049 1122578) hn) ho hq
def Ends(m:M)(B:Nat)(r:Option (Nat×Nat)):Prop:=∃n,n<=B/\match r with|some (b,e)=>∃m',dO n m=m'/\m'.outcome=some .matched/\m'.start=b/\m'.handed=e|none=>(dO n m).outcome=some .failed
theorem afK{Md:Model}{A:m7}{E:aa->aF->Prop}{s:aF}{Q:Option M->aF->Prop}{m:M}{B:Nat}{r:Option (Nat×Nat)}(h:Ends m B r)(hB:B<4*2^64) (hq:match r with|some (b,e)=>∀m':M,m'.start=b->m'.handed=e->Q (some m') s|none=>Q none s):wpAny Md A (Builtin.Re.reRunToEnd m) Q E s:=by
 obtain⟨n,hn,hr⟩:=h;unfold Builtin.Re.reRunToEnd
 have main:∀m':M,dO n m=m'->(∃o,m'.outcome=some o/\(o=.matched∨o=.failed))->(m'.outcome=some .matched->Q (some m') s)->(m'.outcome=some .failed->Q none s)->wpAny Md A (do
   let m <-Tn (2^64) m
   for i in au Sre.names.size do
    if m.seen.has i then rule (Sre.names.getD i "")
   match m.outcome with|some .matched=>pure (some m)|some .failed=>pure none|some (.stuck why)=>unsupported s!"_sre:{why}"|none=>unsupported "internal:sre:no-outcome") Q E s:=by
  intro m' em ⟨o,eo,ho⟩ h1 h2;refine ar (drive (2^64) n m ((ao 0xec40000000000000000119e0c40000000000000000119e1b10 17903890) hB hn) (by rw[em,eo];rfl) ?_);rw[em];refine ar (wpAny_forIn_list (s:=s) _ (λJ J s'=>s'=s) _ (λi rest b s' e=>?_) (λb s' e=>?_) _ _ rfl)
  ·split
   ·exact ar (rF (aV e))
   ·exact aV e
  ·subst e
   rcases ho with rfl|rfl
   ·rw[eo];exact aV (h1 eo)
   ·rw[eo];exact aV (h2 eo)
 cases r with|none=>exact main _ rfl ⟨_,hr,.inr rfl⟩ (λe=>by rw[hr]at e;cases e) λJ=>hq|some p=>obtain⟨m',e1,e2,e3,e4⟩:=hr;exact main m' e1 ⟨_,e2,.inl rfl⟩ (λJ=>hq m' e3 e4) λe=>by rw[e2]at e;cases e
end Re
namespace Re
open PySem.Sre
noncomputable abbrev ib:Array Nat:=#[14,4,0,1,1,6,1,16,46,1]
noncomputable abbrev cC:Array Nat:=#[14,9,4,1,2,16,10,16,13,0,7,7,16,13,16,10,15,18,5,16,10,15,13,11,16,13,5,5,0,16,10,1,15,2,0,1]
noncomputable def bp(code:Array Nat)(x:Array Nat)(s0 s:Nat)(o:Bool)(fr:List Sre.Frame)(wt:Nat)(pc pos hd:Nat)(seen:jW)(ans:Option Bool):M:=
 {code:=code,text:=x,lim:=x.size,start:=s,lastStart:=x.size,pc:=pc,pos:=pos,handed:=hd,outermost:=o,marks:=#[],lastmark:=-1,lastindex:=-1,frames:=fr,weight:=wt,seen:=seen,answer:=ans}
noncomputable def fB(pc s:Nat)(o:Bool):Sre.Frame:={wait:=.nextStart,pc:=pc,pos:=s,outermost:=o}
section
variable{seen:jW}
theorem Gw{code:Array Nat}(mP:pc<code.size):(bp code x 0 s o fr wt pc pos hd seen none).step=(bp code x 0 s o fr wt pc pos hd seen none).exec:=by show(if pc<code.size then(bp code x 0 s o fr wt pc pos hd seen none).exec else(bp code x 0 s o fr wt pc pos hd seen none).stick "code:ran-off")=_;rw[if_pos mP]
theorem Gx{code:Array Nat}(jm:ops[code.getD pc 0]?=some .LITERAL)(mP:pc<code.size):(bp code x 0 s o fr wt pc pos hd seen none).step=if pos<x.size/\x.getD pos 0=code.getD (pc+1) 0 then bp code x 0 s o fr wt (pc+2) (pos+1) hd (seen.add (code.getD pc 0)) none else bp code x 0 s o fr wt pc pos hd (seen.add (code.getD pc 0)) (some false):=by
 have hw:(bp code x 0 s o fr wt pc pos hd seen none).word 0=code.getD pc 0:=rfl;rw[Gw mP];unfold M.exec;rw[hw,jm];by_cases h1:pos<x.size
 ·have h2:¬(pos≥x.size):=(ao 60392803329 1122578) h1
  show(if pos≥x.size then _ else _)=_;rw[if_neg h2];have ha:accepts code pc (x.getD pos 0) (seen.add (code.getD pc 0))=.ok (x.getD pos 0==code.getD (pc+1) 0,seen.add (code.getD pc 0)):=by unfold accepts;rw[jm]
  by_cases h3:x.getD pos 0=code.getD (pc+1) 0
  ·rw[if_pos ⟨h1,h3⟩]
   show(match accepts code pc (x.getD pos 0) (seen.add (code.getD pc 0))with|.error why=>_|.ok (false,seen)=>_|.ok (true,seen)=>_)=_;rw[ha,h3,beq_self_eq_true];show bp code x 0 s o fr wt (pc+itemWidth code pc) (pos+1) hd (seen.add (code.getD pc 0)) none=_;have:itemWidth code pc=2:=by unfold itemWidth;rw[jm]
   rw[this]
  ·rw[if_neg (λq=>h3 q.2)]
   show(match accepts code pc (x.getD pos 0) (seen.add (code.getD pc 0))with|.error why=>_|.ok (false,seen)=>_|.ok (true,seen)=>_)=_;rw[ha,beq_eq_false_iff_ne.mpr h3];rfl
 ·rw[if_neg (λq=>h1 q.1)]
  show(if pos≥x.size then _ else _)=_;rw[if_pos (by exact(ao 63099173889 1122578) h1)];rfl
theorem PY:(bp ib x 0 s o fr wt 5 pos hd seen none).step=if(pos=0∨x.getD (pos-1) 0=10)then bp ib x 0 s o fr wt 7 pos hd ((seen.add 6).add 44) none else bp ib x 0 s o fr wt 5 pos hd ((seen.add 6).add 44) (some false):=by
 have:(bp ib x 0 s o fr wt 5 pos hd seen none).step=if(pos==0||x.getD (pos-1) 0==10)=true then bp ib x 0 s o fr wt 7 pos hd ((seen.add 6).add 44) none else bp ib x 0 s o fr wt 5 pos hd ((seen.add 6).add 44) (some false):=rfl;rw[this];by_cases h:pos=0∨x.getD (pos-1) 0=10
 ·rw[if_pos h,if_pos (by rcases h with h|h<;>simp[h])]
 ·rw[if_neg h,if_neg (by simpa using h)]
theorem PZ{code:Array Nat}(jm:ops[code.getD pc 0]?=some .SUCCESS)(mP:pc<code.size):(bp code x 0 s o fr wt pc pos hd seen none).step=bp code x 0 s o fr wt pc pos pos (seen.add (code.getD pc 0)) (some true):=by have hw:(bp code x 0 s o fr wt pc pos hd seen none).word 0=code.getD pc 0:=rfl;rw[Gw mP];unfold M.exec;rw[hw,jm];show(if(o&&((false&&_)||(false&&_)))=true then _ else _)=_;rw[if_neg (by simp)];rfl
theorem afM{code:Array Nat}(jm:ops[code.getD pc 0]?=some .JUMP)(mP:pc<code.size):(bp code x 0 s o fr wt pc pos hd seen none).step=bp code x 0 s o fr wt (pc+1+code.getD (pc+1) 0) pos hd (seen.add (code.getD pc 0)) none:=by have hw:(bp code x 0 s o fr wt pc pos hd seen none).word 0=code.getD pc 0:=rfl;rw[Gw mP];unfold M.exec;rw[hw,jm];rfl
theorem afN{code:Array Nat}{p0:Nat}:∃m',dO 2 (bp code x 0 s o [fB p0 s o] wt pc pos hd seen (some true))=m'/\m'.outcome=some .matched/\m'.start=s/\m'.handed=hd:=⟨_,rfl,rfl,rfl,rfl⟩
theorem Gy:(bp ib x 0 s o [fB p0 s o] 1 pc pos hd seen (some false)).step=if s<x.size then bp ib x 0 (s+1) false [fB p0 (s+1) false] 1 p0 (s+1) (s+1) seen none else bp ib x 0 s o [] 0 p0 s hd seen (some false):=rfl
theorem Ends.step(h:Ends m.step B r):Ends m (B+1) r:=let⟨n,hn,hr⟩:=h;⟨n+1,by exact(ao 0xeb81918190b10 1122578) hn,by cases r<;>exact hr⟩
theorem Ends.mono(h:Ends m B r)(hB:B<=B'):Ends m B' r:=let⟨n,hn,hr⟩:=h;⟨n,by exact(aC 0xeb10b12b20 17903891) hB hn,hr⟩
theorem Ends.yes{code:Array Nat}{p0:Nat}:Ends (bp code x 0 s o [fB p0 s o] wt pc pos hd seen (some true)) 2 (some (s,hd)):=⟨2,aQ _,afN⟩
theorem Ends.no{code:Array Nat}:Ends (bp code x 0 s o [] wt pc pos hd seen (some false)) 1 none:=⟨1,aQ _,rfl⟩
noncomputable def kQ(x:Array Nat):Nat->Nat->Option Nat|0,_=>none|k+1,s=>if s<x.size/\x.getD s 0=46/\(s=0∨x.getD (s-1) 0=10)then some s else kQ x k (s+1)
theorem BI:∀k s,x.size<=s->kQ x k s=none|0,_,_=>rfl|k+1,s,h=>by unfold kQ;rw[if_neg (λq=>absurd q.1 (Nat.not_lt.mpr h)),BI k (s+1) ((ao 0xeb81910b10 1122578) h)]
theorem afO:∀k s o seen,s<=x.size->x.size-s=k->Ends (bp ib x 0 s o [fB 5 s o] 1 5 s s seen none) (8*(k+1)) ((kQ x (k+1) s).map λb=>(b,b+1)):=by
 intro k
 induction k with
 |zero=>
  intro s o seen hs hk;have e:s=x.size:=(aC 0xed10b10d0922f1fd092b011fd1802b10 0x11211112111000151110001017113) hs hk aq;rw[BI _ _ (by exact(ao 246484225 16855314) e)];refine Ends.mono ?_ (show 5<=8*(0+1)by exact dS 15436121 69904);refine Ends.step ?_;rw[PY];by_cases h:s=0∨x.getD (s-1) 0=10
  ·rw[if_pos h]
   refine Ends.step ?_;rw[Gx rfl ⋯,if_neg (λq=>by exact(a9 0xe4fd101fd32c10 17838356) e q)];refine Ends.step ?_;rw[Gy,if_neg (by exact(ao 60393852176 16855314) e)];exact Ends.no.mono (dS 15411481 69904)
  ·rw[if_neg h]
   refine Ends.step ?_;rw[Gy,if_neg (by exact(ao 60393852176 16855314) e)];exact Ends.no.mono (dS 15415577 69904)|succ k ih=>
  intro s o seen hs hk;have aM:s<x.size:=(a9 0xec10d819322f1fd092b011fd1802b10 0x101010071110101017114) hk aq;have next:∀pc pos hd seen,Ends (bp ib x 0 s o [fB 5 s o] 1 pc pos hd seen (some false)) (8*(k+1)+1) ((kQ x (k+1) (s+1)).map λb=>(b,b+1)):=λpc pos hd seen=>by refine Ends.step ?_;rw[Gy,if_pos aM];exact ih (s+1) false seen ((ao 0xeb18190c10 1122578) aM) ((cV 0xed10d819122f1fd090b819341fd4881930b481932f1fd092b341fd4832b43 0x1000000010001d111000000010001d11100100071110001001191110100101811101011018111001000711101001018115) hk aq aq)
  unfold kQ;refine Ends.mono (B:=8*(k+1)+1+1+1+1+1) ?_ (ax 0xeb1e8198190898198198198198191e819089 69905);refine Ends.step ?_;rw[PY];by_cases h:s=0∨x.getD (s-1) 0=10
  ·rw[if_pos h]
   refine Ends.step ?_;rw[Gx rfl ⋯];by_cases h2:x.getD s 0=46
   ·rw[if_pos ⟨aM,h2⟩,if_pos ⟨aM,h2,h⟩]
    refine Ends.step ?_;rw[PZ rfl ⋯];exact Ends.yes.mono (ax 0xeb8291e81908929 69039364129)
   ·rw[if_neg (λq=>h2 q.2),if_neg (λq=>h2 q.2.1)]
    exact(next _ _ _ _).mono (ax 0xeb8391e8190898191e819089 69905)
  ·rw[if_neg h,if_neg (λq=>h q.2.2)]
   exact(next _ _ _ _).mono (ax 0xeb8491e8190898191e819089 69905)
theorem afP(s:Nat)(hs:s<=x.size):Ends (Dk ib x 0 s x.size false) (8*(x.size+1)+1) ((kQ x (x.size-s+1) s).map λb=>(b,b+1)):=by
 have e:Dk ib x 0 s x.size false=if(decide (s>x.size)||decide (x.size-s<1))=true then {bp ib x 0 s true [] 0 5 s s (({}:jW).add 14) (some false)with lastStart:=0}else bp ib x 0 s true [fB 5 s true] 1 5 s s (({}:jW).add 14) none:=rfl;rw[e];by_cases h:s<x.size
 ·rw[if_neg (by simp;exact(aC 0xe1f0fd092b10c102f1fd092b011fd1802b10 0x110041110010161111211112113) h aq)]
  exact(afO (x.size-s) s true _ hs rfl).mono ((aC 0xeb8191e8191891e8190892f1fd090b211fd1820b12 0x10010017111821010016111823) aq)
 ·rw[if_pos (by simp;exact(aC 0xe2fd092c100fc012f1fd092b101fd0812b01 0x1001051110110511100001071110000107113) h aq),BI _ _ (by exact(ao 63099173889 1122578) h)]
  exact⟨1,by exact ax 0xeb8191e81908919 69039364129,rfl⟩
end
end Re
namespace Re
open PySem.Sre
noncomputable def kR(p s:Nat)(o:Bool):Sre.Frame:={wait:=.nextBranch,pc:=p,pos:=s,outermost:=o}
noncomputable def Gz(pos:Nat)(o:Bool):Sre.Frame:={wait:=.lookNot,pc:=26,pos:=pos,outermost:=o}
section
variable{seen:jW}
theorem vH{code:Array Nat}{c q:Nat}(jm:ops[code.getD pc 0]?=some .LITERAL)(mP:pc<code.size)(hc:code.getD (pc+1) 0=c)(hq:pc+2=q):(bp code x 0 s o fr wt pc pos hd seen none).step=if pos<x.size/\x.getD pos 0=c then bp code x 0 s o fr wt q (pos+1) hd (seen.add (code.getD pc 0)) none else bp code x 0 s o fr wt pc pos hd (seen.add (code.getD pc 0)) (some false):=by rw[Gx jm mP,hc,hq]
theorem GA{code:Array Nat}{q:Nat}(jm:ops[code.getD pc 0]?=some .JUMP)(mP:pc<code.size)(hq:pc+1+code.getD (pc+1) 0=q):(bp code x 0 s o fr wt pc pos hd seen none).step=bp code x 0 s o fr wt q pos hd (seen.add (code.getD pc 0)) none:=by rw[afM jm mP,hq]
theorem afQ:(bp cC x 0 s o [fB 10 s o] 1 10 s hd seen none).step=bp cC x 0 s o [kR 11 s o,fB 10 s o] 2 12 s s (seen.add 7) none:=rfl
theorem P0:(bp cC x 0 s o [kR 11 s o,fB 10 s o] 2 pc pos hd seen (some false)).step=bp cC x 0 s o [kR 18 s o,fB 10 s o] 2 19 s s seen none:=rfl
theorem afR:(bp cC x 0 s o [kR 18 s o,fB 10 s o] 2 pc pos hd seen (some false)).step=bp cC x 0 s o [kR 23 s o,fB 10 s o] 2 24 s s seen none:=rfl
theorem afS:(bp cC x 0 s o [kR p s o,fB 10 s o] 2 pc pos hd seen (some true)).step=bp cC x 0 s o [fB 10 s o] 1 p s hd seen (some true):=rfl
theorem afT:(bp cC x 0 s o [kR 23 s o,fB 10 s o] 2 26 pos hd seen none).step=bp cC x 0 s false [Gz pos o,kR 23 s o,fB 10 s o] 3 29 pos pos (seen.add 5) none:=by show(if pos<0 then {bp cC x 0 s o [kR 23 s o,fB 10 s o] 2 26 pos hd (seen.add 5) none with pc:=32}else bp cC x 0 s false [Gz pos o,kR 23 s o,fB 10 s o] 3 29 pos pos (seen.add 5) none)=_;rw[if_neg (De _)]
theorem afU:(bp cC x 0 s false [Gz p2 o,kR 23 s o,fB 10 s o] 3 pc pos hd seen (some false)).step=bp cC x 0 s o [kR 23 s o,fB 10 s o] 2 32 p2 hd seen none:=rfl
noncomputable def gh(x:Array Nat)(s:Nat):Nat:=if x.getD s 0=13/\s+1<x.size/\x.getD (s+1) 0=10 then s+2 else s+1
theorem GB:Ends (bp cC x 0 s o [kR p s o,fB 10 s o] 2 35 pos hd seen none) 5 (some (s,pos)):=by refine Ends.step ?_;rw[PZ rfl ⋯];refine Ends.step ?_;rw[afS];exact Ends.yes.mono (dS 15415593 69904)
theorem afV(aM:s<x.size)(hc:x.getD s 0=10∨x.getD s 0=13):Ends (bp cC x 0 s o [fB 10 s o] 1 10 s s seen none) 30 (some (s,gh x s)):=by
 refine Ends.mono (B:=29+1) (Ends.step ?_) (dS 0xeb1e2a1e2a 69904);rw[afQ];refine Ends.mono (B:=28+1) (Ends.step ?_) (dS 0xeb1d2a1d2a 69904);rw[vH (c:=13) (q:=14) rfl ⋯ rfl rfl];rcases hc with hc|hc
 ·have P1:¬(x.getD s 0=13):=(ax 0xe0fdd90da90 17838353) hc
  rw[if_neg (λq=>P1 q.2)];refine Ends.mono (B:=27+1) (Ends.step ?_) (dS 0xeb1c2a1c2a 69904);rw[P0];refine Ends.mono (B:=26+1) (Ends.step ?_) (dS 0xeb1b2a1b2a 69904);rw[vH (c:=10) (q:=21) rfl ⋯ rfl rfl,if_pos ⟨aM,hc⟩];refine Ends.mono (B:=25+1) (Ends.step ?_) (dS 0xeb1a2a1a2a 69904);rw[GA (q:=35) rfl ⋯ rfl];have e:gh x s=s+1:=by unfold gh;rw[if_neg (λq=>P1 q.1)]
  rw[e];exact GB.mono (dS 3944295001 69904)
 ·rw[if_pos ⟨aM,hc⟩]
  refine Ends.mono (B:=27+1) (Ends.step ?_) (dS 0xeb1c2a1c2a 69904);rw[vH (c:=10) (q:=16) rfl ⋯ rfl rfl];by_cases h2:s+1<x.size/\x.getD (s+1) 0=10
  ·rw[if_pos h2]
   refine Ends.mono (B:=25+1) (Ends.step ?_) (dS 0xeb1b2a1a2a 69904);rw[GA (q:=35) rfl ⋯ rfl];have e:gh x s=s+2:=by unfold gh;rw[if_pos ⟨hc,h2⟩]
   rw[e];exact GB.mono (dS 3944295001 69904)
  ·rw[if_neg h2]
   have F0:¬(x.getD s 0=10):=(ax 0xe0fda90dd90 268517649) hc;refine Ends.mono (B:=25+1) (Ends.step ?_) (dS 0xeb1b2a1a2a 69904);rw[P0];refine Ends.mono (B:=24+1) (Ends.step ?_) (dS 0xeb192a192a 69904);rw[vH (c:=10) (q:=21) rfl ⋯ rfl rfl,if_neg (λq=>F0 q.2)];refine Ends.mono (B:=23+1) (Ends.step ?_) (dS 0xeb182a182a 69904);rw[afR];refine Ends.mono (B:=22+1) (Ends.step ?_) (dS 0xeb172a172a 69904);rw[vH (c:=13) (q:=26) rfl ⋯ rfl rfl,if_pos ⟨aM,hc⟩];refine Ends.mono (B:=21+1) (Ends.step ?_) (dS 0xeb162a162a 69904);rw[afT];refine Ends.mono (B:=20+1) (Ends.step ?_) (dS 0xeb152a152a 69904);rw[vH (c:=10) (q:=31) rfl ⋯ rfl rfl,if_neg h2];refine Ends.mono (B:=19+1) (Ends.step ?_) (dS 0xeb142a142a 69904);rw[afU];refine Ends.mono (B:=18+1) (Ends.step ?_) (dS 0xeb132a132a 69904);rw[GA (q:=35) rfl ⋯ rfl];have e:gh x s=s+1:=by unfold gh;rw[if_neg (λq=>h2 q.2)]
   rw[e];exact GB.mono (dS 3943836249 69904)
noncomputable def jo(x:Array Nat):Nat->Nat->Option Nat|0,_=>none|k+1,s=>if s<x.size then(if x.getD s 0=10∨x.getD s 0=13 then some s else jo x k (s+1))else none
theorem GC:∀k s s',jo x k s=some s'->s<=s'/\s'<x.size/\(x.getD s' 0=10∨x.getD s' 0=13)
 |0,_,_,e=>by cases e|k+1,s,s',e=>by
  unfold jo at e;by_cases h:s<x.size
  ·rw[if_pos h]at e
   by_cases h2:x.getD s 0=10∨x.getD s 0=13
   ·rw[if_pos h2]at e;cases e;exact⟨aQ _,h,h2⟩
   ·rw[if_neg h2]at e
    obtain⟨q1,q2,q3⟩:=GC k (s+1) s' e;exact⟨by exact(ao 0xeb10b18190 1122578) q1,q2,q3⟩
  ·rw[if_neg h]at e;cases e
theorem afW(c:Nat)(seen:jW):∃jI,inSet cC c 36 5 true seen=.ok (decide (c=10∨c=13),jI):=by
 have e:inSet cC c 36 5 true seen=if(c==10)=true then .ok (true,seen.add 16)else if(c==13)=true then .ok (true,(seen.add 16).add 16)else .ok (false,((seen.add 16).add 16).add 0):=rfl;rw[e];by_cases h:c=10
 ·exact⟨_,by rw[if_pos (by simp[h])];simp[h];rfl⟩
 ·by_cases h2:c=13
  ·exact⟨_,by rw[if_neg (by simp[h]),if_pos (by simp[h2])];simp[h2];rfl⟩
  ·exact⟨_,by rw[if_neg (by simp[h]),if_neg (by simp[h2])];simp[h,h2];rfl⟩
theorem P4(m:M)(hc:m.code=cC)(ht:m.text=x)(hl:m.lim=x.size):∀k s seen,∃jI,M.admitted m k s seen=.ok (jo x k s,jI)
 |0,_,seen=>⟨seen,rfl⟩|k+1,s,seen=>by
  unfold M.admitted jo;rw[hl];by_cases h:s<x.size
  ·rw[if_neg (by exact(ao 60392803329 1122578) h),if_pos h,hc,ht]
   obtain⟨jI,e⟩:=afW (x.getD s 0) seen;rw[show(cC:Array Nat).size=36 from rfl,e];by_cases h2:x.getD s 0=10∨x.getD s 0=13
   ·rw[if_pos h2,decide_eq_true h2];exact⟨jI,rfl⟩
   ·rw[if_neg h2,decide_eq_false h2]
    exact P4 m hc ht hl k (s+1) jI
  ·rw[if_pos (by exact(ao 63099173889 1122578) h),if_neg h];exact⟨seen,rfl⟩
theorem afX(s:Nat)(hs:s<=x.size):Ends (Dk cC x 0 s x.size false) 40 ((jo x (x.size+1-s) s).map λb=>(b,gh x b)):=by
 have e:Dk cC x 0 s x.size false=if(decide (s>x.size)||decide (x.size-s<1))=true then {bp cC x 0 s true [] 0 10 s s (({}:jW).add 14) (some false)with lastStart:=0}else
   M.attemptFrom (bp cC x 0 s true [] 0 10 s s (({}:jW).add 14) none) s true:=rfl
 rw[e];by_cases h:s<x.size
 ·rw[if_neg (by simp;exact(aC 0xe1f0fd092b10c102f1fd092b011fd1802b10 0x110041110010161111211112113) h aq)]
  obtain⟨jI,ea⟩:∃jI,M.admitted (bp cC x 0 s true [] 0 10 s s (({}:jW).add 14) none) (x.size+1-s) s (({}:jW).add 14)=.ok (jo x (x.size+1-s) s,jI):=P4 (bp cC x 0 s true [] 0 10 s s (({}:jW).add 14) none) rfl rfl rfl (x.size+1-s) s (({}:jW).add 14)
  have e2:M.attemptFrom (bp cC x 0 s true [] 0 10 s s (({}:jW).add 14) none) s true=(match M.admitted (bp cC x 0 s true [] 0 10 s s (({}:jW).add 14) none) (x.size+1-s) s (({}:jW).add 14)with|.ok (some s',jI)=>bp cC x 0 s' true [fB 10 s' true] 1 10 s' s' jI none|.ok (none,jI)=>bp cC x 0 s true [] 0 10 s s jI (some false)|.error why=>(bp cC x 0 s true [] 0 10 s s (({}:jW).add 14) none).stick why):=rfl
  rw[e2,ea];cases q:jo x (x.size+1-s) s with|none=>exact Ends.mono (B:=1) (B':=40) (r:=none) (m:=bp cC x 0 s true [] 0 10 s s jI (some false)) Ends.no (dS 3945277977 69904)|some s'=>obtain⟨q1,q2,q3⟩:=GC _ _ _ q;exact Ends.mono (B:=30) (B':=40) (r:=some (s',gh x s')) (m:=bp cC x 0 s' true [fB 10 s' true] 1 10 s' s' jI none) (afV q2 q3) (dS 0xeb282a1e2a 69904)
 ·rw[if_pos (by simp;exact(aC 0xe2fd092c100fc012f1fd092b101fd0812b01 0x1001051110110511100001071110000107113) h aq)]
  have:jo x (x.size+1-s) s=none:=by rw[show x.size+1-s=0+1 by exact(aC 0xed190b210fc212f1fd090b181921fd8192810b81921 0x10104111010151110104111000116113) hs h aq];unfold jo;rw[if_neg h]
  rw[this];exact⟨1,by exact dS 3945277977 69904,rfl⟩
end
end Re
namespace Re
theorem P6:Slot "re.Pattern" "sub" "re.Pattern.sub":=
 .of (owner:="re.Pattern") (n:="sub") (by rw[Jf,Jg];exact⋯) (by decide+kernel) (by decide+kernel) (by decide+kernel)
  (by first|exact .inl (by decide+kernel)|exact .inr (by decide+kernel)) (by rw[isSubtype_type];exact⋯)
theorem afY:entryFor table "re.Pattern.sub"=some Builtin.«re.Pattern.sub»:=entryFor_of_tree ⋯
theorem afZ:entryFor table "re.Pattern.sub.loop"=some Builtin.«re.Pattern.sub.loop»:=entryFor_of_tree ⋯
theorem af0(a b c:aa):argsOk "re.Pattern.sub" ⟨[a,b,c],[]⟩:=by unfold argsOk;exact⋯
theorem GD:plainId "re.Pattern.sub.loop"=true:=by decide+kernel
theorem af1:typeOf (.builtin "re.Pattern.sub")=pure (.type "method_descriptor"):=by show builtinType _=_;rw[builtinType_eq_fast];exact⋯
theorem af2:PlainAttrs "re.Pattern":=
 ⟨⟨"object.__getattribute__",by rw[Jf,Jg];exact⋯,by decide+kernel⟩,by rw[Jf,Jg];exact⋯⟩
theorem af3:typeLookup (.type "str") "__call__"=pure none:=by rw[Jf,Jg];exact⋯
structure ic(h:Heap)(p ct:Addr)(code:Array Nat):Prop where
 pat:∃o v0 v1 v3 v4 t2 t6,h.get? p=some o/\o.cls=.type "re.Pattern"/\o.dict=none/\o.data=.fields #[v0,v1,.int 0 t2,v3,v4,.ref ct,.int 0 t6]
 code:∃o vs n,h.get? ct=some o/\o.data=.seq vs n/\(vs.map To).map (·.toNat)=code
theorem ic.keep{h h':Heap}{p ct:Addr}{code:Array Nat}(x:ic h p ct code)(hk:∀b o,(b=p∨b=ct)->h.get? b=some o->h'.get? b=some o):ic h' p ct code:=
 ⟨let⟨o,v0,v1,v3,v4,t2,t6,g,r⟩:=x.pat;⟨o,v0,v1,v3,v4,t2,t6,hk _ _ (.inl rfl) g,r⟩,let⟨o,vs,n,g,r⟩:=x.code;⟨o,vs,n,hk _ _ (.inr rfl) g,r⟩⟩
theorem strs_snoc:∀{vs:List aa} {ys:List Str} {y:Str} {t:Tok},StrsAre vs ys->StrsAre (vs++[.str y t]) (ys++[y])|_,_,y,t,.nil=>.cons y t .nil|_,_,_,_,.cons z u r=>.cons z u (strs_snoc r)
structure mQ(code:Array Nat)(x:Array Nat)(f:Nat->Option (Nat×Nat)):Prop where
 ends:∀s,s<=x.size->Ends (Dk code x 0 s x.size false) 100000000 (f s)
 ok:∀s b e,s<=x.size->f s=some (b,e)->s<=b/\b<e/\e<=x.size
noncomputable def pieces(x:Array Nat)(r:Str)(f:Nat->Option (Nat×Nat)):Nat->Nat->List Str
 |0,_=>[]|k+1,p=>match f p with
  |some (b,e)=>(if p<b then [⟨x.extract p b⟩]else [])++r::pieces x r f k e|none=>if p<x.size then [⟨x.extract p x.size⟩]else []
section
variable{prog:bF}{w:bj}{A:m7}{s:aF}{p ct:Addr}{code:Array Nat}
theorem whole(P:ic s.heap p ct code)(h:Q {pattern:=.ref p,string:=.str x u,code:=code,text:=x.cps,kind:=0,groups:=0,pos:=0,lim:=x.cps.size} s):wpAny (model prog w) A (alN (.ref p) (.str x u)) Q E s:=by obtain⟨o,v0,v1,v3,v4,t2,t6,gp,hc,Bq,hd⟩:=P.pat;obtain⟨o',vs,n,gc,vI,ec⟩:=P.code;unfold alN;refine ar (wpAny_fieldsOf gp hd ?_);refine ar (wpAny_of_eq (a:=(x.cps,0)) rfl ?_);show wpAny _ _ (Builtin.Re.reRawItems (.ref ct)>>=_) _ _ _;unfold Builtin.Re.reRawItems;refine ar (ar (uf gc vI (aV ?_)));refine aV ?_;show Q {pattern:=.ref p,string:=.str x u,code:=(vs.map To).map (·.toNat),text:=x.cps,kind:=0,groups:=0,pos:=0,lim:=x.cps.size} s;rw[ec];exact h
theorem GE(hy:(y.extract b e).size<=16777216)(h:Q (.str ⟨y.extract b e⟩ s.toks) {s with toks:=s.toks+1}):wpAny (model prog w) A (Builtin.Re.reSlice y 0 b e) Q E s:=by exact wpAny_mkStr h (by have:sizeLine=16777216:=rfl;rw[this];exact hy)
theorem loop(F:mQ code x.cps f)(hx:x.cps.size<=1000000)(hpL:p≠L)(hcL:ct≠L)(o7:∀ys:List Str,ys=pieces x.cps r f (x.cps.size+1) 0->(ys.map (·.length)).sum<=16777216):∀(k pos:Nat) (n:Nat) (acc:List aa) (ys:List Str) (c:Nat) (s:aF),x.cps.size-pos<k->pos<=x.cps.size->acc.length<=2*pos->StrsAre acc ys->ys++pieces x.cps r f k pos=pieces x.cps r f (x.cps.size+1) 0-> ic s.heap p ct code->s.heap.get? L=some {cls:=.type "list",data:=.seq acc.toArray c}-> (∀h' tk t',(∀b o,b≠L->s.heap.get? b=some o->h'.get? b=some o)->R (.ok (.ret (.str (cA "" (pieces x.cps r f (x.cps.size+1) 0)) t'))) {s with heap:=h',toks:=tk})-> codeAny (model prog w) A (.builtin "re.Pattern.sub.loop" ⟨[.ref p,.str x u,.str r t,rawInt 0,rawInt 0,rawInt n,rawInt pos,rawInt pos,.bool false,.ref L,.bool false],[]⟩) R s:=by
 intro k
 induction k with
 |zero=>intro pos n acc ys c s hk;exact((ax 240107664 1122577) hk).elim|succ k ih=>
  intro pos n acc ys c s hk hp vJ hS hY P hL hR;refine codeAny_builtin afZ ?_;rw[Around.under_plainId GD _];refine ar (whole P ?_);refine ar (wpAny_of_eq (a:=()) rfl ?_);refine ar (afK (F.ends pos hp) ⋯ ?_)
  have hu:pieces x.cps r f (k+1) pos=(match f pos with|some (b,e)=>(if pos<b then [⟨x.cps.extract pos b⟩]else [])++r::pieces x.cps r f k e|none=>if pos<x.cps.size then [⟨x.cps.extract pos x.cps.size⟩]else []):=rfl
  rw[hu]at hY;cases hf:f pos with
  |none=>
   rw[hf]at hY;dsimp only at hY⊢;have fin:∀(mR:List aa) (qH:List Str) (c':Nat) (h1:Heap) (tk:Nat),mR.length<=16777216->StrsAre mR qH->qH=pieces x.cps r f (x.cps.size+1) 0->h1.get? L=some {cls:=.type "list",data:=.seq mR.toArray c'}->(∀b o,b≠L->s.heap.get? b=some o->h1.get? b=some o)->
     wpAny (model prog w) A.in1 (do
      let P8 <-Builtin.Re.reSlice x.cps 0 0 0
      let text <-if((<-seqItems? (.ref L)).getD #[]).isEmpty then pure P8 else kA (.builtin "str.join") [P8,.ref L]
      PySem.ret text) (λfin s'=>match fin with|Fin.done f=>R (.ok f) s'|.again c'=>c'.quiet=true/\codeAny (model prog w) A c' R s') (λe s'=>R (.error e) s') {s with heap:=h1,toks:=tk}:=by
    intro mR qH c' h1 tk hl GG yk g1 yl;refine ar (GE (by simp) ?_);refine ar (uf g1 rfl ?_);show wpAny _ _ (if(mR.toArray.isEmpty)=true then _ else _) _ _ _;cases GG with
    |nil=>
     rw[if_pos (show((#[]:Array aa).isEmpty=true)from rfl)];refine ar (aV (aV ?_));have e:cA "" (pieces x.cps r f (x.cps.size+1) 0)=⟨x.cps.extract 0 0⟩:=by rw[<-yk];simp;rfl
     have:=hR h1 (tk+1) tk yl;rw[e]at this;exact this|cons y t0 af4=>
     rw[if_neg (by simp)];refine ar (join_list (fH (n:=c') g1) (StrsAre.cons y t0 af4) ?_ λt' kk=>?_)
     ·have:=o7 _ yk
      have e:(⟨x.cps.extract 0 0⟩:Str).length=0:=by show(x.cps.extract 0 0).size=0;simp
      rw[e,pK,IQ];exact this
     ·refine aV ?_
      have:=hR h1 kk t' yl;have e:(⟨x.cps.extract 0 0⟩:Str)="":=by
       have:x.cps.extract 0 0=#[]:=by simp
       rw[this];rfl
      rw[e,yk];exact this
   simp only[cw];have cO:acc.length<=16777216:=(aC 0xeb10000007a0bf42405a1b12b1e2290 4786453557101091) hx hp vJ;by_cases aM:pos<x.cps.size
   ·rw[if_pos aM]at hY⊢
    refine ar (GE (by rw[Jh];exact(a9 0xeb10000007a0bf42405a11f2fd12d121fb12b122f1fd090b321fd2830b23 0x100000018111010000111a11100000018111010000111a114) hx pR aq) ?_);refine ar (wpAny_updateSeq (s:={s with toks:=s.toks+1}) hL rfl ?_ (by have:sizeLine=16777216:=rfl;rw[dF];exact(ao 0xeb10b10000007a0d10000007a1 269566226) cO this) (by have:sizeLine=16777216:=rfl;rw[Array.size_push,dF];exact(ao 0xeb81918190b10000007a0d10000007a1 269566226) cO this));have g:=wN (zc λy=>y.push (.str ⟨x.cps.extract pos x.cps.size⟩ s.toks)) hL rfl;refine fin (acc++[.str ⟨x.cps.extract pos x.cps.size⟩ s.toks]) (ys++[⟨x.cps.extract pos x.cps.size⟩]) (c+1) _ (s.toks+1) (by rw[dG,Ji];exact(aC 0xeb10000007a8190bf42405a1b1e2290c12 4521282293019171) hx vJ aM) (strs_snoc hS) hY ?_ (λb o hb e=>(jV _ _ (pQ hb)).trans e);rw[g];unfold zc;simp
   ·rw[if_neg aM]at hY⊢
    exact fin acc ys c s.heap s.toks cO hS (by rw[<-hY,m5]) hL (λb o hb e=>e)
  |some be=>
   obtain⟨b,e⟩:=be;rw[hf]at hY;dsimp only at hY⊢;intro m' em1 em2;obtain⟨q1,q2,q3⟩:=F.ok pos b e hp hf;simp only[cw,em1,em2];have he:(e==b)=false:=beq_eq_false_iff_ne.mpr (by exact(ao 60394900481 16855314) q2);have hn:rawInt ((n:Int)+1)=rawInt ((n+1:Nat):Int):=by push_cast;rfl
   have last:∀(mR:List aa) (qH:List Str) (c':Nat) (h1:Heap) (tk:Nat),mR.length<=2*pos+1->StrsAre mR qH->qH++r::pieces x.cps r f k e=pieces x.cps r f (x.cps.size+1) 0->h1.get? L=some {cls:=.type "list",data:=.seq mR.toArray c'}->(∀b o,b≠L->s.heap.get? b=some o->h1.get? b=some o)->
     wpAny (model prog w) A.in1 (do
      let item <-pure (Value.str r t)
      updateSeq L λy=>y.push item
      again (Code.builtin "re.Pattern.sub.loop" {pos:=[fx p,Value.str x u,Value.str r t,rawInt 0,rawInt 0,rawInt ((n:Int)+1),rawInt (e:Int),rawInt (e:Int),Value.bool (e==b),fx L,Value.bool false]}))
      (λfin s'=>match fin with|Fin.done f=>R (.ok f) s'|Fin.again c'=>c'.quiet=true/\codeAny (model prog w) A c' R s') (λe s'=>R (.error e) s') {s with heap:=h1,toks:=tk}:=by
    intro mR qH c' h1 tk hl GG yk g1 yl;refine ar (aV ?_);refine ar (wpAny_updateSeq (s:={s with heap:=h1,toks:=tk}) g1 rfl ?_ (by have:sizeLine=16777216:=rfl;rw[dF];exact(a9 0xeb10bf42405a2b23b8191e3290d10000007a1 0x1101411010016224) hx hp hl this) (by have:sizeLine=16777216:=rfl;rw[Array.size_push,dF];exact(a9 0xeb81918190bf42405a2b23b8191e3290d10000007a1 0x1101411010016224) hx hp hl this));have g:=wN (zc λy=>y.push (.str r t)) g1 rfl;refine aV ⟨plainId_quiet GD _,?_⟩;rw[he,hn];refine ih e (n+1) (mR++[.str r t]) (qH++[r]) (c'+1) _ ((wV 0xec10c81912b43c54b652f1fd090b561fd6850b652f1fd092b361fd6832b63 0x10001110091110001011111b1110001110091110001001111b117) hk q1 q2 q3 aq aq) q3 (by rw[dG,Ji];exact(a9 0xeb1e1298190b32c13b8191e2290 4786453557101092) q1 q2 hl) (strs_snoc GG) (by rw[i4];exact yk) (P.keep λb o hb e=>?_) ?_ (λh' ak t' jH=>hR h' ak t' λb o hb e=>jH b o hb ((jV _ _ (pQ hb)).trans (yl b o hb e)))
    ·have BJ:b≠L:=by rcases hb with rfl|rfl<;>assumption
     exact(jV _ _ (pQ BJ)).trans (yl b o BJ e)
    ·show(h1.update L _).get? L=_
     rw[g];unfold zc;simp
   by_cases aM:pos<b
   ·rw[if_pos aM]at hY⊢
    refine ar (GE (by rw[Jh];exact(cV 0xeb10000007a0bf42405a11f2fd12d321fb12b322f1fd090b421fd2840b24 0x100000018111010001011a11100000018111010001011a115) hx pR aq) ?_);refine ar (wpAny_updateSeq (s:={s with toks:=s.toks+1}) hL rfl ?_ (by have:sizeLine=16777216:=rfl;rw[dF];exact(a9 0xeb10bf42405a2b23b1e3290d10000007a1 0x1101411010016224) hx hp vJ this) (by have:sizeLine=16777216:=rfl;rw[Array.size_push,dF];exact(a9 0xeb81918190bf42405a2b23b1e3290d10000007a1 0x1101411010016224) hx hp vJ this));have g:=wN (zc λy=>y.push (.str ⟨x.cps.extract pos b⟩ s.toks)) hL rfl;refine last (acc++[.str ⟨x.cps.extract pos b⟩ s.toks]) (ys++[⟨x.cps.extract pos b⟩]) (c+1) _ (s.toks+1) (by rw[dG,Ji];exact(ao 0xeb8191e1298190b1e1290 1122578) vJ) (strs_snoc hS) (by rw[i4];exact hY) ?_ (λb o hb e=>(jV _ _ (pQ hb)).trans e);rw[g];unfold zc;simp
   ·rw[if_neg aM]at hY⊢
    exact last acc ys c s.heap s.toks ((ao 0xeb8191e1290b1e1290 1122578) vJ) hS (by simpa using hY) hL (λb o hb e=>e)
end
end Re
namespace Re
section
variable{code:Array Nat}
theorem named(a b:aa):Builtin.Re.reNamed "re.Pattern.sub" "sub" ["repl","string","count"] 2 [a,b] []=pure [some a,some b,none]:=rfl
theorem af7(F:mQ code x.cps f)(hx:x.cps.size<=1000000)(hr:r.cps.contains 92=false)(o7:∀ys:List Str,ys=pieces x.cps r f (x.cps.size+1) 0->(ys.map (·.length)).sum<=16777216):Meets (Builtin.«re.Pattern.sub» ⟨[.ref p,.str r t,.str x u],[]⟩) (λJ R s=>ic s.heap p ct code/\∀h' tk t',(∀b o,s.heap.get? b=some o->h'.get? b=some o)->R (.ok (.ret (.str (cA "" (pieces x.cps r f (x.cps.size+1) 0)) t'))) {s with heap:=h',toks:=tk}):=by intro prog w A R s ⟨P,hR⟩;show wpAny _ _ (Builtin.Re.reNamed "re.Pattern.sub" "sub" ["repl","string","count"] 2 [.str r t,.str x u] []>>=_) _ _ _;rw[named];refine ar (aV ?_);refine ar (aV ?_);refine ar (wpAny_specialOf (T:="str") (typeIs_str _ _ _) af3 ?_);simp only[Option.isSome_none,yZ,if_false];refine ar (wpAny_of_eq (a:=some r) rfl ?_);refine ar (aV ?_);rw[hr];simp only[Bool.not_false,if_true];refine ar (aV ?_);refine ar (kD (whole P ?_));simp only[show((0:Int)==1)=false from rfl,yZ,if_false];refine ar (wpAny_newList ?_);refine aV ⟨plainId_quiet GD _,?_⟩;have aM:∀{b o},s.heap.get? b=some o->b≠s.heap.objs.size:=λe=>fG (bu e);have hp:=let⟨_,_,_,_,_,_,_,g,_⟩:=P.pat;aM g;have hc:=let⟨_,_,_,g,_⟩:=P.code;aM g;refine loop (s:={s with heap:=s.heap.push {cls:=.type "list",data:=.seq #[]}}) (n:=0) (acc:=[]) (ys:=[]) (c:=0) F hx hp hc o7 (x.cps.size+1) 0 ((ao 0xec819102f1fd090b0911fd18090b109 72340516703908114) aq) (fP _) (aQ _) .nil rfl (P.keep λb o J e=>b7 _ e) (cU _ rfl) λh' tk t' hk=>?_;exact hR h' tk t' λb o e=>hk b o (aM e) (b7 _ e)
end
noncomputable def q1:Bool->List Nat->List Nat|_,[]=>[]|b,c::l=>if b=true/\c=46 then 46::46::q1 false l else c::q1 (decide (c=10)) l
noncomputable def q2:List Nat->List Nat|[]=>[]|[c]=>if c=10∨c=13 then [13,10]else [c]|c::d::l=>if c=13/\d=10 then 13::10::q2 l else if c=10∨c=13 then 13::10::q2 (d::l)else c::q2 (d::l)
theorem qI(c d:Nat)(l:List Nat):q2 (c::d::l)=if c=13/\d=10 then 13::10::q2 l else if c=10∨c=13 then 13::10::q2 (d::l)else c::q2 (d::l):=by rw[q2]
noncomputable def cat(ys:List Str):List Nat:=(ys.map (·.cps.toList)).flatten
theorem qJ(y:Str)(ys:List Str):cat (y::ys)=y.cps.toList++cat ys:=by simp[cat]
theorem P9(ys zs:List Str):cat (ys++zs)=cat ys++cat zs:=by simp[cat]
theorem ext_cons{x:Array Nat}{p b:Nat}(h:p<b)(hb:b<=x.size):(x.extract p b).toList=x.getD p 0::(x.extract (p+1) b).toList:=by have hp:p<x.size:=(aC 0xec10c20b12 17903891) h hb;rw[Array.toList_extract,Array.toList_extract];simp only[List.extract];rw[show(List.drop p x.toList)=x.toList[p]::List.drop (p+1) x.toList from(pG (by simpa using hp)),show b-p=(b-(p+1))+1 by exact(a9 0xed81910c322f1fd090b231fd3820b322f1fd091b819231fd3881921b38192 0x1103111103111010100181110001001811110311110311101001171110100017114) h aq aq,List.take_succ_cons];congr 1;simp[Array.getD,hp]
theorem Qa{x:Array Nat}{r:Str}{f:Nat->Option (Nat×Nat)}{k p:Nat}(hp:p<x.size)(e:f p=f (p+1))(o7:∀b e,f (p+1)=some (b,e)->p+1<=b/\b<=x.size):cat (pieces x r f (k+1) p)=x.getD p 0::cat (pieces x r f (k+1) (p+1)):=by
 have u1:∀p,pieces x r f (k+1) p=(match f p with|some (b,e)=>(if p<b then [⟨x.extract p b⟩]else [])++r::pieces x r f k e|none=>if p<x.size then [⟨x.extract p x.size⟩]else []):=λJ=>rfl
 rw[u1 p,u1 (p+1),e];cases h:f (p+1)with
 |none=>
  dsimp only;rw[if_pos hp,qJ,ext_cons hp (aQ _)];by_cases h2:p+1<x.size
  ·rw[if_pos h2,qJ];rfl
  ·rw[if_neg h2]
   have:x.extract (p+1) x.size=#[]:=by apply SZ;rw[Jh];exact(a9 0xed0900fc281911f2fd23d231fb23b232f1fd090b819131fd3881910b38191 0x100000018111000011181110000001811100001118111000000000001d111000000000001d111000000000001d111000000000001d114) h2 pR aq
   rw[this];rfl|some be=>
  obtain⟨b,e'⟩:=be;obtain⟨h1,h3⟩:=o7 b e' h;dsimp only;rw[if_pos (by exact(ao 0xec10b18190 1122578) h1),P9,qJ,ext_cons (show p<b by exact(ao 0xec10b18190 1122578) h1) h3];by_cases h2:p+1<b
  ·rw[if_pos h2,P9,qJ];simp[cat]
  ·rw[if_neg h2]
   have:x.extract (p+1) b=#[]:=by apply SZ;rw[Jh];exact(cV 0xed0900fc281911f2fd43d231fb43b232f1fd090b819131fd3881910b38191 0x1000000181110000111811100000018111000011181110000000000001e1110000000000001e1110000000000001e1110000000000001e115) h2 pR aq
   rw[this];simp[cat]
theorem Qb(h:f p=some (p,e)):pieces x r f (k+1) p=r::pieces x r f k e:=by
 have u1:pieces x r f (k+1) p=(match f p with|some (b,e)=>(if p<b then [⟨x.extract p b⟩]else [])++r::pieces x r f k e|none=>if p<x.size then [⟨x.extract p x.size⟩]else []):=rfl
 rw[u1,h];simp
theorem Qc(h:f x.size=none):pieces x r f (k+1) x.size=[]:=by
 have u1:pieces x r f (k+1) x.size=(match f x.size with|some (b,e)=>(if x.size<b then [⟨x.extract x.size b⟩]else [])++r::pieces x r f k e|none=>if x.size<x.size then [⟨x.extract x.size x.size⟩]else []):=rfl
 rw[u1,h];simp
theorem vK{x:Array Nat}{p:Nat}(hp:p<x.size):x.toList.drop p=x.getD p 0::x.toList.drop (p+1):=by rw[pG (by simpa using hp)];congr 1;simp[Array.getD,hp]
def f1(x:Array Nat)(s:Nat):Option (Nat×Nat):=(kQ x (x.size-s+1) s).map λb=>(b,b+1)
def f2(x:Array Nat)(s:Nat):Option (Nat×Nat):=(jo x (x.size+1-s) s).map λb=>(b,gh x b)
theorem Qd:∀k s b,kQ x k s=some b->s<=b/\b<x.size/\x.getD b 0=46/\(b=0∨x.getD (b-1) 0=10)
 |0,_,_,e=>by cases e|k+1,s,b,e=>by
  unfold kQ at e;by_cases h:s<x.size/\x.getD s 0=46/\(s=0∨x.getD (s-1) 0=10)
  ·rw[if_pos h]at e;cases e;exact⟨aQ _,h.1,h.2.1,h.2.2⟩
  ·rw[if_neg h]at e
   obtain⟨q1,q2⟩:=Qd k (s+1) b e;exact⟨by exact(ao 0xeb10b18190 1122578) q1,q2⟩
theorem mQ.one(x:Array Nat)(hx:x.size<=1000000):mQ ib x (f1 x) where
 ends:=λs hs=>(afP s hs).mono ((ax 0xeb5f5e1007a8191e819089bf42405a0 69039364129) hx)
 ok:=λs b e hs h=>by unfold f1 at h;obtain⟨b',h1,h2⟩:=Option.map_eq_some_iff.mp h;cases h2;obtain⟨q1,q2,_⟩:=Qd _ _ _ h1;exact(aC 0xe1f1fb28191c81911b10b10c21 0x1013111111112113) q1 q2
theorem Qe(h:b<x.size):b<gh x b/\gh x b<=x.size:=by
 unfold gh;by_cases q:x.getD b 0=13/\b+1<x.size/\x.getD (b+1) 0=10
 ·rw[if_pos q];exact(a9 0xe1fb18290c829001f1fda93c18190dd92 17597572649236) q
 ·rw[if_neg q];exact(ao 0xe1fb18190c81900c10 73569210642) h
theorem mQ.two(x:Array Nat):mQ cC x (f2 x) where
 ends:=λs hs=>(afX s hs).mono (dS 0xeb5f5e1007a282a 69904)
 ok:=λs b e hs h=>by unfold f2 at h;obtain⟨b',h1,h2⟩:=Option.map_eq_some_iff.mp h;cases h2;obtain⟨q1,q2,_⟩:=GC _ _ _ h1;have:=Qe q2;exact(a9 0xe1f1fb32c21b10b101fb32c21 0x1001411101311112114) q1 this
theorem Qf(x:Array Nat)(hx:x.size<=1000000):∀n p k,x.size-p=n->n<k->p<=x.size->cat (pieces x ".." (f1 x) k p)=q1 (decide (p=0∨x.getD (p-1) 0=10)) (x.toList.drop p):=by
 intro n
 induction n with
 |zero=>
  intro p k hn hk hp;have e:p=x.size:=(aC 0xed10d092b102f1fd092b011fd1802b10 0x100141110014111000151110000117113) hn hp aq;subst e;obtain⟨k,rfl⟩:∃k',k=k'+1:=⟨k-1,by exact(ao 0xed81910c0092f1fd091b1901fd08191b019 0x1010151110001511101141110014112) hk aq⟩
  rw[Qc (by unfold f1;rw[BI _ _ (aQ _)];rfl),yV (by simp)];rfl
 |succ n ih=>
  intro p k hn hk hp;have aM:p<x.size:=(a9 0xec10d819322f1fd092b011fd1802b10 0x101010071110101017114) hn aq;obtain⟨k,rfl⟩:∃k',k=k'+1:=⟨k-1,by exact(aC 0xed81910c081922f1fd091b1901fd08191b019 0x1001106111000151110101161110014113) hk aq⟩
  rw[vK aM];unfold q1;by_cases hc:x.getD p 0=46/\(p=0∨x.getD (p-1) 0=10)
  ·rw[if_pos ⟨decide_eq_true hc.2,hc.1⟩,Qb (e:=p+1) (by unfold f1 kQ;rw[if_pos ⟨aM,hc⟩];rfl),qJ,ih (p+1) k ((cV 0xed10d819122f1fd090b819341fd4881930b481932f1fd092b341fd4832b43 0x1000000010001d111000000010001d11100100071110001001191110100101811101011018111001000711101001018115) hn aq aq) ((ao 0xec10c81918190 1122578) hk) ((ao 0xeb18190c10 1122578) aM)]
   rw[show decide (p+1=0∨x.getD (p+1-1) 0=10)=false from decide_eq_false (by rw[Jj,hc.1];exact ax 0xe0f2fda92e2ad098190 1172811362577)];rfl
  ·have e:f1 x p=f1 x (p+1):=by
    unfold f1;rw[show x.size-p+1=(x.size-(p+1)+1)+1 by exact(a9 0xed81981918190c322f1fd090b231fd3820b322f1fd091b819231fd3881921b38192 0x1103111103111010100181110001001811110311110311101001171110100017114) aM aq aq];rw[show kQ x (x.size-(p+1)+1+1) p=if p<x.size/\x.getD p 0=46/\(p=0∨x.getD (p-1) 0=10)then some p else kQ x (x.size-(p+1)+1) (p+1)from rfl,if_neg (λq=>hc q.2)]
   rw[if_neg (λq=>hc ⟨q.2,of_decide_eq_true q.1⟩),Qa aM e (λb e' h=>by
    have:=(mQ.one x hx).ok (p+1) b e' ((ao 0xeb18190c10 1122578) aM) h;exact(a9 0xe1fb21b181901f1fb23c31b18190 299153348436244) this),ih (p+1) (k+1) ((cV 0xed10d819122f1fd090b819341fd4881930b481932f1fd092b341fd4832b43 0x1000000010001d111000000010001d11100100071110001001191110100101811101011018111001000711101001018115) hn aq aq) ((ao 0xec81910c81918190 1122578) hk) ((ao 0xeb18190c10 1122578) aM),Jj]
   congr 2;exact decide_eq_decide.mpr ⟨λq=>by exact(ao 0xeda902fda90d098191 0x11211101041110131110104112) q,λq=>.inr q⟩
theorem Qg(x:Array Nat):∀n p k,x.size-p<=n->x.size-p<k->p<=x.size->cat (pieces x "\r\n" (f2 x) k p)=q2 (x.toList.drop p):=by
 intro n
 induction n with
 |zero=>
  intro p k hn hk hp;have e:p=x.size:=(aC 0xed10b092b102f1fd092b011fd1802b10 0x10131110131110014111000116113) hn hp aq;subst e;obtain⟨k,rfl⟩:∃k',k=k'+1:=⟨k-1,by exact(aC 0xed81910c022f1fd091b1901fd08191b019 0x101015111000151110101161110014113) hk aq⟩
  rw[Qc (by unfold f2;rw[show x.size+1-x.size=0+1 by exact(ao 0xed1902f1fd090b181911fd8191810b81911 0x102111013111021110014112) aq];unfold jo;rw[if_neg (rE _)];rfl),yV (by simp)];rfl
 |succ n ih=>
  intro p k hn hk hp;rcases CT p x.size with aM|oA
  ·obtain⟨k,rfl⟩:∃k',k=k'+1:=⟨k-1,by exact(aC 0xed81910c022f1fd091b1901fd08191b019 0x101015111000151110101161110014113) hk aq⟩
   have ua:jo x (x.size+1-p) p=if x.getD p 0=10∨x.getD p 0=13 then some p else jo x (x.size+1-(p+1)) (p+1):=by rw[show x.size+1-p=(x.size+1-(p+1))+1 by exact(a9 0xed81910c322f1fd090b281931fd8193820b819322f1fd091b819281931fd8193881921b81938192 0x1103111103111000106111000100181111031111031110001061110100017114) aM aq aq];have:jo x (x.size+1-(p+1)+1) p=if p<x.size then(if x.getD p 0=10∨x.getD p 0=13 then some p else jo x (x.size+1-(p+1)) (p+1))else none:=rfl;rw[this,if_pos aM]
   by_cases hc:x.getD p 0=10∨x.getD p 0=13
   ·have hf:f2 x p=some (p,gh x p):=by unfold f2;rw[ua,if_pos hc];rfl
    obtain⟨e1,e2⟩:=Qe aM;rw[Qb hf,qJ,ih (gh x p) k ((pS 0xeb10b81912c432f1fd090b451fd5840b542f1fd092b351fd5832b53 0x10000000010001e1110000000010001e1110011007111000101119116) hn e1 aq aq) ((pS 0xec10c32c81914c522f1fd090b531fd3850b352f1fd094b231fd3824b32 0x100000108111000100111a11100000108111000101101a116) aM hk e1 aq aq) e2,vK aM];show 13::10::q2 (x.toList.drop (gh x p))=_;rcases CT (p+1) x.size with h2|h2
    ·rw[vK h2]
     rw[qI];by_cases h3:x.getD p 0=13/\x.getD (p+1) 0=10
     ·rw[if_pos h3]
      have:gh x p=p+2:=by unfold gh;rw[if_pos ⟨h3.1,h2,h3.2⟩]
      rw[this]
     ·rw[if_neg h3,if_pos hc,<-vK h2]
      have:gh x p=p+1:=by unfold gh;rw[if_neg (λq=>h3 ⟨q.1,q.2.2⟩)]
      rw[this]
    ·rw[yV (show x.toList.length<=p+1 by simpa using h2)]
     have:gh x p=p+1:=by unfold gh;rw[if_neg (λq=>by exact(a9 0xe4fb819101f1fda93c08191dd92 268517652) h2 q)]
     rw[this,yV (show x.toList.length<=p+1 by simpa using h2)];show _=if x.getD p 0=10∨x.getD p 0=13 then [13,10]else [x.getD p 0];rw[if_pos hc];rfl
   ·have e:f2 x p=f2 x (p+1):=by unfold f2;rw[ua,if_neg hc]
    rw[Qa aM e (λb e' h=>by have:=(mQ.two x).ok (p+1) b e' ((ao 0xeb18190c10 1122578) aM) h;exact(a9 0xe1fb21b181901f1fb23c31b18190 299153348436244) this),ih (p+1) (k+1) ((cV 0xeb10b819122f1fd090b819341fd4881930b481932f1fd092b341fd4832b43 0x100000001001c11100000001001c11100100611100010118115) hn aq aq) ((cV 0xec81910c819122f1fd090b819341fd4881930b481932f1fd092b341fd4832b43 0x100000001001c11100000001001c11100100611100010118115) hk aq aq) ((ao 0xeb18190c10 1122578) aM),vK aM];rcases CT (p+1) x.size with h2|h2
    ·rw[vK h2]
     rw[qI,if_neg (λq=>hc (.inr q.1)),if_neg hc]
    ·rw[yV (show x.toList.length<=p+1 by simpa using h2)]
     show _=if x.getD p 0=10∨x.getD p 0=13 then [13,10]else [x.getD p 0];rw[if_neg hc];rfl
  ·exact ih p k ((a9 0xeb10b322f1fd090b321fd2830b23 0x10001001811100010118114) oA aq) hk hp
end Re
namespace Re
theorem ym:∀ys:List Str,cA "" ys=⟨(cat ys).toArray⟩:=by
 intro ys;show Builtin.Str.glued "" ys=_;rw[alO]
 induction ys with
 |nil=>rfl|cons y ys ih=>
  cases ys with|nil=>show y=_;simp[cat]|cons z zs=>show y++""++Str.join "" (z::zs)=_;rw[ih,show cat (y::z::zs)=y.cps.toList++cat (z::zs)from qJ _ _];show(⟨(y.cps++#[])++(cat (z::zs)).toArray⟩:Str)=_;simp
def quote(x:Str):Str:=⟨(q1 true (q2 x.cps.toList)).toArray⟩
theorem af8(x:Str)(hx:x.cps.size<=1000000):cA "" (pieces x.cps ".." (f1 x.cps) (x.cps.size+1) 0)=⟨(q1 true x.cps.toList).toArray⟩:=by rw[ym,Qf x.cps hx x.cps.size 0 (x.cps.size+1) ((ao 0xed102f1fd090b0911fd18090b109 0x10101511101311101141110014112) aq) (ax 247994624 69905) (fP _)];rfl
theorem af9(x:Str):cA "" (pieces x.cps "\r\n" (f2 x.cps) (x.cps.size+1) 0)=⟨(q2 x.cps.toList).toArray⟩:=by rw[ym,Qg x.cps x.cps.size 0 (x.cps.size+1) ((ao 0xeb102f1fd090b0911fd18090b109 72340516703908114) aq) ((ao 0xec819102f1fd090b0911fd18090b109 72340516703908114) aq) (fP _)];rfl
theorem len_cat:∀ys:List Str,(ys.map (·.length)).sum=(cat ys).length|[]=>rfl|y::ys=>by rw[gm,ni,qJ,dG,len_cat ys];rfl
theorem GH:∀l b,(q1 b l).length<=2*l.length
 |[],b=>by simp[q1]|c::l,b=>by
  unfold q1
  split
  ·have:=GH l false
   simp only[bP];exact(ao 0xeb1e8191298198190b1e1290 1122578) this
  ·have:=GH l (decide (c=10))
   simp only[bP];exact(ao 0xeb1e8191298190b1e1290 1122578) this
theorem GI:∀n (l:List Nat),l.length<=n->(q2 l).length<=2*l.length
 |_,[],_=>by simp[q2]|n,[c],_=>by
  show(if c=10∨c=13 then [13,10]else [c]).length<=_
  split<;>simp|0,c::d::l,h=>by simp at h|n+1,c::d::l,h=>by
  rw[qI];simp only[bP]at h
  split
  ·have:=GI n l ((ao 0xeb10b81918198190 1122578) h)
   simp only[bP];exact(ao 0xeb1e8198191298198190b1e1290 1122578) this
  ·have:=GI n (d::l) (by simp;exact(ao 0xeb18190b81918198190 1122578) h)
   simp only[bP]at this
   split<;>(simp only[bP];(first|exact(ao 0xeb1e8198191298198190b1e8191290 1122578) this|exact(ao 0xeb1e8198191298190b1e8191290 1122578) this))
end Re
theorem yn{fd:nX}{ys:List Str}{vs:List aa}(h:vs.length=1)(k:∀a,bindArgs fd {pos:=[a]}=pure (ys.zip [a])):bindArgs fd {pos:=vs}=pure (ys.zip vs):=by
 cases vs with|nil=>cases h|cons a vs=>
 cases vs with|nil=>exact k a|cons _ _=>exact absurd h (by simp)
section
variable{C:Fc}{ad:Str->Addr}{σ:Sg}{h:Heap}{K:AV->Prop}
theorem Ev.ret(E:Ev C σ e K)(k:∀a,K a->fz a=true/\Kr a):Xs C σ [.Return (some e) p] Ks Kr:=λad h R tk Q q=>
 lZ (wpAny_Return_some (E ad h R tk _ λv h' ak a g r z=>q.r a v ad σ h' ak g.jE (R.grow g) (sK (k a z).1 r) (k a z).2))
theorem Ev.gv(G:C.Gv x v):Ev C σ (.Name x p) λb=>b=.jb v:=λad h R tk Q q=>G R (q v h tk (.jb v) (.refl h) rfl rfl)
theorem GJ{T id:String}{name:Str}{o:ab}{ap pos:Pos}{es:List ab}{Q:aa->aF->Prop}(n:noStar es=true)(hf:es.length<=29)(hl:(ap.endLine==pos.line)=true)(hc:uQ o=true)(pa:PlainAttrs T)(slot:Slot T name id)(ty:typeOf (.builtin id)=pure (.type "method_descriptor")) (q:wpAny (M_ C) C.A (eval o C.env) (λov s₁=>s₁.TypeIs ov T/\(∀a,ov=.ref a->∃ob,s₁.heap.get? a=some ob/\ob.dict=none)/\wpAny (M_ C) C.A (spliced (backTo pos (starEach es C.env))) (λvs s=>wpAny (M_ C) C.A (kA (.builtin id) (ov::vs)) Q aD s) aD s₁) aD (C.st h tk)):wpAny (M_ C) C.A (eval (.Call (.Attribute o name ap) es [] pos) C.env) Q aD (C.st h tk):=
 wpAny_Call_method (EK hc) (by rw[(fT (C:=C) (p:=pos) n).2];show(true&&true&&decide (es.length+0+0<30))=true;simp;exact jw hf) hl pa slot ty (kE q (λov s₁ z=>⟨z.1,z.2.1,C2 (fT n).1 (mB (fT n).1 z.2.2)⟩) λJ J x=>x)
end
structure Qh(base:Heap):Prop where
 one:Re.ic base 127 126 Re.ib
 two:Re.ic base 132 131 Re.cC
theorem ic.kp{h h':Heap}{p ct:Addr}{code:Array Nat}(k:Kp h h')(hx:eG p=false)(T:Re.ic h p ct code):Re.ic h' p ct code:=⟨let⟨o,v0,v1,v3,v4,t2,t6,g,c,d,e⟩:=T.pat;⟨o,v0,v1,v3,v4,t2,t6,k p o (FZ (i:=0) e rfl hx) g,c,d,e⟩,let⟨o,vs,n,g,d,r⟩:=T.code;⟨o,vs,n,k ct o (λus e=>by rw[d]at e;cases e) g,d,r⟩⟩
section
variable{C:Fc}{ad:Str->Addr}{σ:Sg}{h:Heap}{tk:Nat}{x:Str}{es:List ab}
theorem Qi{p ct:Addr}{code:Array Nat}{np ap pos:Pos}{r y:Str}{f:Nat->Option (Nat×Nat)}(R:Rel C ad σ h)(G:C.Gv x (.ref p))(T:Re.ic C.base p ct code)(hx:eG p=false)(n:noStar es=true)(hf:es.length<=29)(hl:(ap.endLine==pos.line)=true) (hF:Re.mQ code y.cps f) (hy:y.cps.size<=1000000) (hr:r.cps.contains 92=false) (o7:∀ys:List Str,ys=Re.pieces y.cps r f (y.cps.size+1) 0->(ys.map (·.length)).sum<=16777216) (ha:∀tk (Q:List aa->aF->Prop),(∀h' ak t u,aI h h'->Q [.str r t,.str y u] (C.st h' ak))->wpAny (M_ C) C.A (spliced (backTo pos (starEach es C.env))) Q aD (C.st h tk)) {Q:aa->aF->Prop} (q:∀h' ak t,aI h h'->Q (.str (cA "" (Re.pieces y.cps r f (y.cps.size+1) 0)) t) (C.st h' ak)):wpAny (M_ C) C.A (eval (.Call (.Attribute (.Name x np) "sub" ap) es [] pos) C.env) Q aD (C.st h tk):=by refine GJ n hf hl rfl Re.af2 Re.P6 Re.af1 (G R ?_);have T':=ic.kp R.base hx T;obtain⟨o,v0,v1,v3,v4,t2,t6,g,hc,hd,_⟩:=T'.pat;refine⟨⟨o,g,hc⟩,λb e=>by cases e;exact⟨o,g,hd⟩,ha tk _ λav bI t u bx=>?_⟩;have Qj:=ic.kp bx.kp hx T';obtain⟨o,v0,v1,v3,v4,t2,t6,g',hc,hd,_⟩:=Qj.pat;exact jY (y4 Re.P6 ⟨o,g',hc⟩ Re.afY (Re.af0 _ _ _) (Re.af7 (ct:=ct) (code:=code) hF hy hr o7) ⟨Qj,λh' tk t' hk=>λcO=>q h' tk t' (bx.trans (aI.of cO hk))⟩)
end
def Qk(as:List AV)(k:AV->Way->Prop)(o:Way):Prop:=∃x:Str,as=[.str x]/\x.length<=400000/\k (.str (Re.quote x)) o
theorem b24:∃a b c d e f g1 g2 h i j,bodyOf (aw 24)=[.Return (some (.Call (.Attribute (.Name "_twin_re_1" a) "sub" b) [.Constant (.str "..") c d,.Call (.Attribute (.Name "_twin_re_2" e) "sub" f) [.Name "CRLF" g1,.Name "data" g2] [] h] [] i)) j]/\(b.endLine==i.line)=true/\(f.endLine==h.line)=true:=⟨_,_,_,_,_,_,_,_,_,_,_,rfl,by decide+kernel,by decide+kernel⟩
section
variable{prog:bF}{wd:bj}{base:Heap}{mg mb:Str->Option aa}{o:Obj}{pm cd doc:aa}{d:Nat}
theorem agc(D:eP base 139 (aw 24) o pm cd doc)(B:ck base mg mb)(T:Qh base)(g1:mg "_twin_re_1"=some (.ref 127))(g2:mg "_twin_re_2"=some (.ref 132))(g3:∃t,mg "CRLF"=some (.str "\r\n" t)):aZ Hw prog wd base mg mb 139 (d+1) true Qk:=
 aZ.of D.at_ D.fn D.ext D.code B (jj.of ⋯) (λvs h=>yn h λJ=>rfl) (gl:=[]) (mu:=[]) (wf:=5) (xs:=["data"]) (λC R=>Gs.nil) λas k x=>by
  obtain⟨o,x,rfl,hx,hk⟩:=x;refine⟨rfl,λC ok h Ft R=>?_⟩;obtain⟨a,b,c,d',e,f,p1,p2,h2,i,j,eb,l1,l2⟩:=b24;rw[eb];have G1:(dN C ok h 139 (nameOf (aw 24)) (aE (aw 24)) cd).Gv "_twin_re_1" (.ref 127):=λR' q=>Ft.gv ⋯ (R.g▸g1) R' q;have G2:(dN C ok h 139 (nameOf (aw 24)) (aE (aw 24)) cd).Gv "_twin_re_2" (.ref 132):=λR' q=>Ft.gv ⋯ (R.g▸g2) R' q;obtain⟨t3,g3⟩:=g3;have G3:(dN C ok h 139 (nameOf (aw 24)) (aE (aw 24)) cd).Gv "CRLF" (.str "\r\n" t3):=λR' q=>Ft.gv ⋯ (R.g▸g3) R' q;have BK:x.cps.size<=400000:=hx;have n2:=Re.GI x.cps.size x.cps.toList (by simp);have n1:=Re.GH (Re.q2 x.cps.toList) true;have n3:x.cps.toList.length=x.cps.size:=lW;have vL:(⟨(Re.q2 x.cps.toList).toArray⟩:Str).cps.size<=1000000:=by rw[dF];exact(aC 0xebf42405a0b61a805a1b1e2290d12 4521282293019171) BK n2 n3
  refine Ev.ret (K:=λa=>a=.str (Re.quote x)) (λad h₀ R₀ tk Q q=>?_) λa e=>by rw[e];exact⟨rfl,o,hk⟩
  refine Qi (r:="..") (y:=⟨(Re.q2 x.cps.toList).toArray⟩) (f:=Re.f1 _) R₀ G1 (ic.kp R.k rfl T.one) rfl rfl (bV rfl) l1 (Re.mQ.one _ vL) vL (by decide+kernel) (λys e=>?_) (λbq amW agd=>?_) (λh' ak t g=>q _ h' ak (.str (Re.quote x)) g (by rw[Re.af8 _ vL];exact⟨t⟩) rfl)
  ·rw[Re.len_cat,e,Re.Qf _ vL _ 0 _ rfl (by exact(ao 0xec819102f1fd090b0911fd18090b109 72340516703908114) aq) (fP _),tR]
   exact az n1 ((aC 0xeb10000007a1e029b61a805a1b1e2290d12 0x1010016110014211233) BK n2 n3)
  ·refine uc ?_
   refine wpAny_Constant_str (k:=c) (pos:=d') ?_;refine uc ?_;refine Qi (r:="\r\n") (y:=x) (f:=Re.f2 x.cps) R₀ G2 (ic.kp R.k rfl T.two) rfl rfl (bV rfl) l2 (Re.mQ.two x.cps) ((ax 0xebf42405a0b61a805a0 1122577) BK) (by decide+kernel) (λys e=>?_) (λbI amX age=>?_) (λh' ak t g=>spliced_nil (by rw[Re.af9];exact agd h' ak _ _ g))
   ·rw[Re.len_cat,e,Re.Qg x.cps x.cps.size 0 _ (by exact(ao 0xeb102f1fd090b0911fd18090b109 72340516703908114) aq) (by exact(ao 0xec819102f1fd090b0911fd18090b109 72340516703908114) aq) (fP _),tR]
    exact(aC 0xeb10000007a0b61a805a1b1e2290d12 4521282293019171) BK n2 n3
   ·refine uc ?_
    refine G3 R₀ ?_;refine uc ?_;obtain⟨v,w,r⟩:=R₀.var "data" (.str x) rfl;have on:=Ft.toFits.var w;refine ub (oG Ft.ok w (cY.c on) ?_) (cY.d on);cases r with|val r=>obtain⟨u⟩:=r;exact spliced_nil (age h₀ _ _ _ (.refl h₀))
end
noncomputable def pf:List Int:=[173,847,6150,6155,6156,6157,8203,8204,8205,8288,65279,65024,65025,65026,65027,65028,65029,65030,65031,65032,65033,65034,65035,65036,65037,65038,65039]
def Ql(prog:bF)(w:bj)(base:Heap):Prop:=∃n,base.SetOf (intKind prog w) 147 (λk=>decide (k∈pf)) n
def GK(as:List AV)(k:AV->Way->Prop)(o:Way):Prop:=∃c:Nat,as=[.str ⟨#[c]⟩]/\k (.bool (decide ((c:Int)∈pf))) o
theorem b27:∃a b c p1 p2 p3,bodyOf (aw 27)=[.Return (some (.Compare (.Call (.Name "ord" a) [.Name "code" b] [] c) [.In] [.Name "b1_set" p1] p2)) p3]:=⟨_,_,_,_,_,_,rfl⟩
noncomputable def GL:List (Str×GV (Way->Prop)):=[("ord",.bi .ord)]
def BL(j:Nat):Cx (Way->Prop):=⟨(aE (aw j)).names,gD (aE (aw j)).names,GL,[],[],5,true,[]⟩
theorem o27(a b p:Pos):vE (bD oM 5) (BL 27) [("code",.str ⟨#[c]⟩)] (.Call (.Name "ord" a) [.Name "code" b] [] p) k o=k (.int (c:Nat)) o:=⋯
theorem o29(a b p:Pos):dX (bD oM 5) (BL 29) [("code",.str ⟨#[c]⟩)] [.Call (.Name "ord" a) [.Name "code" b] [] p] k o=k [.int (c:Nat)] o:=⋯
theorem Qm{prog:bF}{w:bj}{h h':Heap}{a:Addr}{S:Int->Bool}{n:Nat}(hk:Kp h h')(x:h.SetOf (intKind prog w) a S n):h'.SetOf (intKind prog w) a S n:=
 let⟨o,es,ep,t,g,r⟩:=x;⟨o,es,ep,t,hk a o (λvs e=>by rw[r.2.1]at e;cases e) g,r⟩
theorem GM(hk:Kp h h')(x:h.MapOf (intKind prog w) a f):h'.MapOf (intKind prog w) a f:=
 let⟨o,es,ep,g,r⟩:=x;⟨o,es,ep,hk a o (λvs e=>by rw[r.2.1]at e;cases e) g,r⟩
section
theorem agi(D:eP base 157 (aw 27) o pm cd doc)(B:ck base mg mb)(T:Ql prog wd base)(g1:mg "ord"=none/\mb "ord"=some (.builtin "ord"))(g2:mg "b1_set"=some (.ref 147)):aZ Hw prog wd base mg mb 157 (d+1) true GK:=
 aZ.of D.at_ D.fn D.ext D.code B (jj.of ⋯) (λvs h=>yn h λJ=>rfl) (gl:=GL) (mu:=[]) (wf:=5) (xs:=["code"]) (λC R=>Gs.cons (.bi (R.g▸g1.1) (R.b▸g1.2)) Gs.nil) λas k x=>by
  obtain⟨o,c,rfl,hk⟩:=x;refine⟨rfl,λC ok h Ft R=>?_⟩;obtain⟨a,b,c',p1,p2,p3,eb⟩:=b27;rw[eb];have G2:(dN C ok h 157 (nameOf (aw 27)) (aE (aw 27)) cd).Gv "b1_set" (.ref 147):=λR' q=>Ft.gv ⋯ (R.g▸g2) R' q;obtain⟨n,hS⟩:=T;refine Ev.ret (K:=λa=>a=.bool (decide ((c:Int)∈pf))) (Ev.uM rfl λad h₀ R₀ tk Q q=>fW (j7 eO 5).toOk Ft.toFits (k:=λa J=>a=.int (c:Nat)) ⟨[],(o27 a b c').mpr rfl⟩ ad h₀ R₀ tk Q λv h' ak a g r z=>q v h' ak a g r ?_) λa e=>by rw[e];exact⟨rfl,o,hk⟩
  obtain⟨_,rfl⟩:=z;exact λad h eK tk Q q=>Ev.gv G2 ad h eK tk Q λv h' ak b g r z=>q v h' ak b g r λad h v w ji rv nC tk Q q=>by subst z;cases nC;obtain⟨t⟩:=rv;exact wpAny_inSet_of (knd:=intKind C.prog C.w) (k:=(c:Int)) (S:=λk=>decide (k∈pf)) (by simp[intKind,Dl]) rfl (by have:=R.p;have:=R.w;subst_vars;exact Qm (R.k.trans ji.base) hS) (q _ _ _ (.bool _) (.refl _) rfl rfl)
end
noncomputable def ix:List (Nat×Option Str):=List.append [(107,none),(109,none),(98,none),(75,none),(77,none),(66,none),(13262,some "km"),(13189,some "kb"),(13190,some "mb")]
 (([0,1,2,4,5,6,7,8,9,10,11,12]:List Nat).flatMap λi=>([(119711+52*i+107,some "k"),(119711+52*i+109,some "m"),(119711+52*i+98,some "b")]:List (Nat×Option Str)))
noncomputable def BM(c:Nat):Option Str->Str|some x=>x|none=>Txt.lower ⟨#[c]⟩
theorem agj:∀p∈ix,p.2=none->(Txt.lower ⟨#[p.1]⟩).length<=16777216:=by decide+kernel
inductive GN(f:Int->Option aa)(c:Nat):Option Str->Prop
 |some (x:Str) (t:Tok) (e:f c=some (.str x t)):GN f c (some x)|none (e:f c=none):GN f c none
def Qn(prog:bF)(w:bj)(base:Heap):Prop:=∃f:Int->Option aa,base.MapOf (intKind prog w) 158 f/\∀p∈ix,GN f p.1 p.2
def GO(as:List AV)(k:AV->Way->Prop)(o:Way):Prop:=∃c r,as=[.str ⟨#[c]⟩]/\(c,r)∈ix/\k (.str (BM c r)) o
def GP:Stmt:=(bodyOf (aw 29)).getD 1 (.Pass default)
theorem b29:∃a b c d e g p1 p2 f h i j l,bodyOf (aw 29)=[.Assign [.Name "r" a] (.Call (.Attribute (.Name "b3_exceptions" b) "get" c) [.Call (.Name "ord" p1) [.Name "code" p2] [] d] [] e) f,GP,.Return (some (.Call (.Attribute (.Name "code" h) "lower" i) [] [] j)) l]/\(c.endLine==e.line)=true/\(i.endLine==j.line)=true/\g=c:=⟨_,_,_,_,_,_,_,_,_,_,_,_,_,rfl,by decide+kernel,by decide+kernel,rfl⟩
def BN(s:Str)(a:AV):Sg:=bR "r" a [("code",.str s)]
theorem agl:eJ oM (bD oM 10) (BL 29) (BN s (.str x)) GP ks kr (true::o)=(dW false=true/\kr (.str x) o):=⋯
theorem agm:eJ oM (bD oM 10) (BL 29) (BN s .none) GP ks kr (false::o)=(dW true=false/\ks (BN s .none) o):=⋯
section
variable{C:Fc}{ad:Str->Addr}{σ:Sg}{h h₁ h':Heap}{K:AV->Prop}{Kr:AV->Prop}
theorem Qo(O:C.Ok)(R:Rel C ad σ h)(g:aI h h₁)(hx:C.mD x)(f:fz a=true)(r:VR h₁ (C.aJ ad σ) a False v)(P:Puts C h₁ h' [(x,a,v)]):∃ad',bN C ad σ h ad' (bR x a σ) h'/\Rel C ad' (bR x a σ) h':=
 ⟨_,xB (W:=λJ=>False) O R g (λb z=>z.elim λy z=>z.elim λxs m=>by cases List.mem_singleton.mp m;exact absurd rfl (xA f)) (λp m=>by rw[List.mem_singleton.mp m];exact hx.2) (λp m=>by rw[List.mem_singleton.mp m];exact .val f (r.mono (λb o k J e=>⟨⟨k,id⟩,e⟩) a gY)) (λy z xs ys b m=>by cases List.mem_singleton.mp m;exact absurd rfl (xA f)) P⟩
end
section
variable{prog:bF}{wd:bj}{base:Heap}{mg mb:Str->Option aa}{o:Obj}{pm cd doc:aa}{d:Nat}
theorem agn(D:eP base 203 (aw 29) o pm cd doc)(B:ck base mg mb)(T:Qn prog wd base)(g1:mg "ord"=none/\mb "ord"=some (.builtin "ord"))(g2:mg "b3_exceptions"=some (.ref 158)):aZ Hw prog wd base mg mb 203 (d+1) true GO:=
 aZ.of D.at_ D.fn D.ext D.code B (jj.of ⋯) (λvs h=>yn h λJ=>rfl) (gl:=GL) (mu:=[]) (wf:=5) (xs:=["code"]) (λC R=>Gs.cons (.bi (R.g▸g1.1) (R.b▸g1.2)) Gs.nil) λas k x=>by
  obtain⟨o,c,r,rfl,hm,hk⟩:=x;refine⟨rfl,λC ok h Ft R ad h₀ R₀ tk Q q=>?_⟩;obtain⟨p1,p2,l1,p4,l2,_,q1,q2,p5,p6,l3,l4,p7,eb,e1,e2,_⟩:=b29;rw[eb];have G2:(dN C ok h 203 (nameOf (aw 29)) (aE (aw 29)) cd).Gv "b3_exceptions" (.ref 158):=λR' q=>Ft.gv ⋯ (R.g▸g2) R' q;obtain⟨f,hM,hf⟩:=T;have hf:=hf _ hm;have hp:=R.p;have hw:=R.w;have BO:(dN C ok h 203 (nameOf (aw 29)) (aE (aw 29)) cd).mD "r":=Ft.hO _ ⋯;refine lZ (wpAny_Assign_Name ?_);refine GJ (T:="dict") rfl (bV rfl) e1 rfl PySem.F.plainAttrs_dict PySem.F.slot_dict_get PySem.F.type_dict_get (G2 R₀ ?_);have ago:=GM (R.k.trans R₀.base) hM;obtain⟨od,es',ep,go,hex,_⟩:=id ago;refine⟨⟨od,go,hex.1⟩,λb e=>by cases e;exact⟨od,go,hex.2.1⟩,mA (j7 eO 5).toOk Ft.toFits _ rfl (kl:=λas J=>as=[.int (c:Nat)]) ⟨[],(o29 q1 q2 p4).mpr rfl⟩ ad h₀ R₀ tk _ λvs av bI as g rs z=>?_⟩;obtain⟨_,rfl⟩:=z;obtain⟨⟨t⟩,rfl⟩:=rs;have ji:=R₀.grow g;have Qp:=GM (R.k.trans ji.base) hM;subst hp;subst hw;refine call_meetsIn PySem.F.slot_dict_get Qp.typeIs PySem.F.entry_dict_get (PySem.F.args_dict_get_2 _ _) (meets_dict_get (intKind C.prog C.w) (k:=(c:Int)) 158 (by simp[intKind,Dl]) ⋯) ⟨f,Qp,?_⟩;cases hf with
  |some y t e=>rw[e];refine xy (p:=("r",.str y,.str y t)) Ft.ok ji.F7 BO λcF kL P=>?_;obtain⟨ad',s,jh⟩:=Qo (a:=.str y) Ft.ok R₀ g BO rfl ⟨t⟩ P;exact lZ (vp eO (j7 eO 10) Ft (ks:=λJ J=>False) (kr:=k) ⟨true::o,agl.mpr ⟨rfl,hk⟩⟩ ad' cF jh kL _ ⟨λad' σ' h' ak s R' z=>absurd z λz=>z.elim λJ z=>z,λa v o5 σ' h' ak s' R' rv z=>q.r a v o5 σ' h' ak (s.trans s') R' rv z⟩)
  |none e=>
   rw[e];refine xy (p:=("r",.none,.none)) Ft.ok ji.F7 BO λcF kL P=>?_;obtain⟨ad',s,jh⟩:=Qo (a:=.none) Ft.ok R₀ g BO rfl rfl P;refine lZ (vp eO (j7 eO 10) Ft (ks:=λσ' J=>σ'=BN ⟨#[c]⟩ .none) (kr:=k) ⟨[false],agm.mpr ⟨rfl,rfl⟩⟩ ad' cF jh kL _ ⟨λo5 σ' j2 oV s' iR z=>?_,λa v o5 σ' h' ak s' R' rv z=>q.r a v o5 σ' h' ak (s.trans s') R' rv z⟩);obtain⟨_,rfl⟩:=z;refine lZ (wpAny_Return_some ?_);refine GJ (T:="str") rfl (bV rfl) e2 rfl PySem.F.plainAttrs_str PySem.F.slot_str_lower PySem.F.type_str_lower ?_;obtain⟨v,w,r⟩:=iR.var "code" (.str ⟨#[c]⟩) rfl;have on:=Ft.toFits.var w;refine ub (oG Ft.ok w (cY.c on) ?_) (cY.d on);cases r with|val r=>obtain⟨u⟩:=r;have hs:=agj (c,none) hm rfl;have agp:=decide_eq_false (Nat.not_lt.mpr hs);exact⟨typeIs_str _ _ _,λb e=>iK e,aV (call_gives F.slot_str_lower (typeIs_str _ _ _) F.entry_str_lower (F.args_str_lower_1 _) (gives_str_lower ⟨#[c]⟩ _ agp) ⟨hs,q.r (.str (Txt.lower ⟨#[c]⟩)) _ o5 _ j2 _ (s.trans s') iR ⟨_⟩ ⟨o,hk⟩⟩)⟩
end
def eQ(c:Nat):Bool:=decide ((c:Int)∈pf)
def mp(c:Nat):Str:=match ix.lookup c with|some r=>BM c r|none=>""
def lN(x:Str):Str:=cA "" ((x.cps.toList.filter λc=>!eQ c).map mp)
def Qq(as:List AV)(k:AV->Way->Prop)(o:Way):Prop:=∃x:Str,as=[.str x]/\(x.length<=100/\∀c∈x.cps.toList,eQ c=false->(ix.lookup c).isSome=true/\(mp c).length<=100)/\k (.str (lN x)) o
section
def GQ(i:Nat):Stmt:=(bodyOf (aw 32)).getD i (.Pass default)
noncomputable def GR:List (Str×GV (Way->Prop)):=[("in_table_b1",.fn GK),("map_table_b3",.fn GO),("zip",.bi .zip)]
def BP:Cx (Way->Prop):=⟨(aE (aw 32)).names,gD (aE (aw 32)).names,GR,[],[],5,true,[]⟩
noncomputable abbrev BQ:=runC oM 38 BP (jk (GQ 0) 0) []
noncomputable abbrev tc:=runC oM 36 BP (sV (jk (GQ 1) 0) [0]) []
noncomputable abbrev td:=runC oM 35 BP (sV (jk (GQ 2) 0) [1]) []
def qK(n j:Nat)(x:Str)(hs:List AV)(k:AV->Way->Prop):Way->Prop:=(bD oM n).S BP [("text",.str x),("held",.lst hs)] ((bodyOf (aw 32)).drop j) (λJ=>k .none) k
section
variable{x:Str}{k:AV->Way->Prop}{kl:List AV->Way->Prop}{o:Way}{hs xs:List AV}{c:Nat}
theorem r32:dY oM 40 (aw 32) GR [] 5 true ["text"] [.str x] k o=((x.cps.toList.map qw).length<=100000/\BQ (x.cps.toList.map qw) (λhs=>qK 39 1 x hs k) o):=⋯
theorem ags:qK 39 1 x hs k o=(hs.length<=100000/\tc hs (λzs=>oM.gd (([]:List AV).length<=10000) inferInstance (oM.op (cj aR zs) λis=>oM.op (cj aR []) λjs=>oM.br (dW (decide (is=js))) (k (.str "")) (qK 38 2 x hs k))) o):=⋯
theorem agt:qK 38 2 x hs k o=(x.cps.size<=hs.length/\(m9 u9 x.cps.toList hs).length<=100000/\td (m9 u9 x.cps.toList hs) (λys=>oM.op (cj dU ys) λss=>oM.gd ((ss.map (·.length)).sum+ss.length*("":Str).length<=16777216) inferInstance (k (.str (cA "" ss)))) o):=⋯
theorem agu:BQ (.str ⟨#[c]⟩::xs) kl (true::o)=(true=true/\∃c':Nat,[AV.str ⟨#[c]⟩]=[.str ⟨#[c']⟩]/\BQ xs (λvs=>kl (.bool (decide ((c':Int)∈pf))::vs)) o):=⋯
theorem agv:tc (.bool true::xs) kl (false::false::false::o)=(dW true=false/\false=false/\false=false/\tc xs kl o):=⋯
theorem agw:tc (.bool false::xs) kl (true::false::false::false::o)=(dW false=true/\dW true=false/\false=false/\false=false/\tc xs kl o):=⋯
theorem agx:td (.tup [.str ⟨#[c]⟩,.bool true]::xs) kl (false::false::o)=(dW true=false/\false=false/\td xs kl o):=⋯
theorem agy:td (.tup [.str ⟨#[c]⟩,.bool false]::xs) kl (true::true::o)=(dW false=true/\true=true/\∃c' r,[AV.str ⟨#[c]⟩]=[.str ⟨#[c']⟩]/\(c',r)∈ix/\td xs (λvs=>kl (.str (BM c' r)::vs)) o):=⋯
theorem Qr:∀{l:List Nat} {kl:List AV->Way->Prop},Hw (kl (l.map λc=>.bool (eQ c)))->Hw (BQ (l.map qw) kl)|[],_,h=>h|c::l,kl,h=>(Qr (l:=l) (kl:=λvs=>kl (.bool (eQ c)::vs)) h).elim λo h=>⟨true::o,agu.mpr ⟨rfl,c,rfl,h⟩⟩
theorem Qs:∀{l:List Nat} {kl:List AV->Way->Prop},Hw (kl [])->Hw (tc (l.map λc=>.bool (eQ c)) kl)
 |[],_,h=>h|c::l,kl,h=>(Qs (l:=l) h).elim λo h=>by
  show Hw (tc (.bool (eQ c)::_) kl);cases eQ c with|true=>exact⟨_,agv.mpr ⟨rfl,rfl,rfl,h⟩⟩|false=>exact⟨_,agw.mpr ⟨rfl,rfl,rfl,rfl,h⟩⟩
theorem lookup_mem:∀{l:List (Nat×Option Str)},l.lookup c=some r->(c,r)∈l
 |[],h=>ai h|(a,b)::l,h=>by
  rw[List.lookup_cons]at h;by_cases q:c==a
  ·rw[q]at h;cases h;rw[eq_of_beq q];exact aK
  ·rw[Bool.not_eq_true _ |>.mp q]at h
   exact aY _ (lookup_mem h)
theorem agz(h:ix.lookup c=some r):BM c r=mp c:=by unfold mp;rw[h]
theorem GS:∀{l:List Nat} {kl:List AV->Way->Prop},(∀c∈l,eQ c=false->(ix.lookup c).isSome=true)->Hw (kl (((l.filter λc=>!eQ c).map mp).map .str))->Hw (td (m9 u9 l (l.map λc=>.bool (eQ c))) kl)
 |[],_,_,h=>h|c::l,kl,hc,h=>by
  have hl:=λc h=>hc c (aY _ h);have hc:=hc c aK;rw[List.filter_cons]at h;show Hw (td (.tup [.str ⟨#[c]⟩,.bool (eQ c)]::_) kl);cases e:eQ c with|true=>rw[e]at h;exact(GS hl h).elim λo h=>⟨_,agx.mpr ⟨rfl,rfl,h⟩⟩|false=>rw[e]at h;obtain⟨r,er⟩:=Option.isSome_iff_exists.mp (hc e);exact(GS (kl:=λvs=>kl (.str (mp c)::vs)) hl h).elim λo h=>⟨_,agy.mpr ⟨rfl,rfl,c,r,rfl,lookup_mem er,by rw[agz er];exact h⟩⟩
theorem GT:∀ss:List Str,cj dU (ss.map .str)=some ss|[]=>rfl|s::ss=>by show opt none (cj dU (ss.map .str)) (λbs=>some (s::bs))=_;rw[GT ss]
theorem Qt{f:Nat->Str}{B:Nat}:∀{l:List Nat},(∀c∈l,(f c).length<=B)->((l.map f).map (·.length)).sum<=B*l.length|[],_=>fP _|c::r,h=>by rw[gm,gm,ni,bP,jx,kB,iG];exact Nat.add_le_add (Qt λc hc=>h c (aY _ hc)) (h c aK)
end
section
variable{prog:bF}{wd:bj}{base:Heap}{mg mb:Str->Option aa}{o:Obj}{pm cd doc:aa}{d:Nat}
theorem agA(D:eP base 213 (aw 32) o pm cd doc)(B:ck base mg mb)(g1:mg "in_table_b1"=some (.ref 157))(g2:mg "map_table_b3"=some (.ref 203))(g3:mg "zip"=none/\mb "zip"=some (.type "zip"))(c1:∀d,aZ Hw prog wd base mg mb 157 (d+1) true GK)(c2:∀d,aZ Hw prog wd base mg mb 203 (d+1) true GO):aZ Hw prog wd base mg mb 213 (d+2) true Qq:=
 .run eO 40 (xs:=["text"]) (gl:=GR) (mu:=[]) (wf:=5) D B ⋯ (λvs h=>yn h λJ=>rfl) (λC R=>Gs.cons (.fn (R.g▸g1) (c1 _ C R)) (Gs.cons (.fn (R.g▸g2) (c2 _ C R)) (Gs.cons (.bi (R.g▸g3.1) (R.b▸g3.2)) Gs.nil))) λas k x=>by
  obtain⟨o,x,rfl,⟨hx,hc⟩,hk⟩:=x;have hl:x.cps.toList.length<=100:=hx;have hf:(x.cps.toList.filter λc=>!eQ c).length<=100:=az (List.length_filter_le _ _) hl;refine⟨rfl,?_⟩;have h3:Hw (qK 38 2 x (x.cps.toList.map λc=>.bool (eQ c)) k):=by
   have:=GS (l:=x.cps.toList) (kl:=λys=>oM.op (cj dU ys) λss=>oM.gd ((ss.map (·.length)).sum+ss.length*("":Str).length<=16777216) inferInstance (k (.str (cA "" ss)))) (λc h e=>(hc c h e).1) ⟨o,_,GT _,az (Nat.add_le_add (Qt (B:=100) λc h=>by
    have h:=List.mem_filter.mp h
    exact(hc c h.1 (by simpa using h.2)).2) (i7 (pK _))) (az (nY 100 hf) ⋯),hk⟩
   exact this.elim λo h=>⟨o,agt.mpr ⟨by rw[bB];exact aQ _,by rw[Td,bB,Nat.min_self];exact az hl ⋯,h⟩⟩
  have h2:Hw (qK 39 1 x (x.cps.toList.map λc=>.bool (eQ c)) k):=by have:=Qs (l:=x.cps.toList) (kl:=λzs=>oM.gd (([]:List AV).length<=10000) inferInstance (oM.op (cj aR zs) λis=>oM.op (cj aR []) λjs=>oM.br (dW (decide (is=js))) (k (.str "")) (qK 38 2 x (x.cps.toList.map λc=>.bool (eQ c)) k))) (h3.elim λo h=>⟨false::o,fP _,[],rfl,[],rfl,rfl,h⟩);exact this.elim λo h=>⟨o,ags.mpr ⟨by rw[bB];exact az hl ⋯,h⟩⟩
  exact(Qr (l:=x.cps.toList) (kl:=λhs=>qK 39 1 x hs k) h2).elim λo h=>⟨o,r32.mpr ⟨by rw[bB];exact az hl ⋯,h⟩⟩
end
end
section
def te(d:Decidable c)(x:Prop):Prop:=@Decidable.rec c (λJ=>Prop) (λJ=>False) (λJ=>x) d
def GU(i:Int)(k:Int->Prop):Prop:=k i
def eM:Md Prop where
 fail:=False
 gd _ d x:=te d x
 br c x y:=ae c x y
 op o k:=opt False o k
 fi i k:=k i
 fl:=xg False
 i2:=uN False
 di x y k:=uO False k x y
 rq:=nv GU
end
theorem agB{c:Prop}{d:Decidable c}{x:Prop}(h:te d x):c/\x:=by
 cases d with|isTrue q=>exact⟨q,h⟩|isFalse q=>exact h.elim
theorem lO{c:Prop}{d:Decidable c}{x:Prop}(q:c)(h:x):te d x:=by
 cases d with|isTrue _=>exact h|isFalse n=>exact absurd q n
theorem agC(s:Bool)(M:Nat)(k:Int->Prop):eM.rq s M k=nv GU s M k:=⋯
theorem kS:eM.Ok id where
 fail:=id
 gd h:=agB h
 br {c x y} h:=by cases c with|false=>exact⟨nofun,λJ=>h⟩|true=>exact⟨λJ=>h,nofun⟩
 op {β o k} h:=by cases o with|none=>exact h.elim|some b=>exact⟨b,rfl,h⟩
 fi h:=h
 fl h:=h
 i2 h:=h
 di h:=h
 rq:=⟨GU,λh=>h,λ{s M k} h=>Eq.mp (agC s M k) h⟩
noncomputable def jq:List Str:=["k","m","b","km","kb","mb"]
noncomputable def GW:List Int:=[0,-32]++(((au 13).filter λ(i:Nat)=>i !=3).map λ(i:Nat)=>(119711+52*(i:Int):Int))
def tm(c:Nat)(f:Int):Str:=⟨#[((c:Int)+GW.getD f.toNat 0).toNat]⟩
noncomputable def pg:List Int:=[173,847,6150,6155,6156,6157,8203,8204,8205,8288,65279]++((au 16).map λ(i:Nat)=>((65024+i:Nat):Int))
noncomputable def GY(x:Str):Int:=if x="km" then 13262 else if x="kb" then 13189 else 13190
def BR(x:Str)(n:Nat):List Str:=(x.cps.toList.zip [((n/84%14:Nat):Int),((n/1176%14:Nat):Int)]).map λp=>tm p.1 p.2
def kU(x:Str)(n:Nat):List Str×Str:=
 let ss:=BR x n
 if x.length=2/\n/28%3=0 then([⟨#[(GY x).toNat]⟩],x)
 else if x.length=2/\n/28%3=1 then(ss.reverse,xl x)
 else(ss,x)
def tp(h:Nat)(ss:List Str):List Str:=
 if h=0 then ss else ss.take (h%2*ss.length)++⟨#[(pg.getD (h-1) 0).toNat]⟩::ss.drop (h%2*ss.length)
def qL(x:Str)(n:Nat):Str:=cA "" (tp (n%28) (kU x n).1)
def qM(x:Str)(n:Nat):Str:=(kU x n).2
def Qu(as:List AV)(k:AV->Way->Prop)(o:Way):Prop:=∃(x:Str) (n:Nat),as=[.str x,.int n]/\(x∈jq/\n<2^300)/\k (.tup [.str (qL x n),.str (qM x n)]) o
section
noncomputable def yo{α:Type}:List (Str×GV α):=[("range",.bi .range),("zip",.bi .zip),("chr",.bi .chr),("ord",.bi .ord),("len",.bi .len),("list",.bi .list)]
def yp:Cx Prop:=⟨(aE (aw 31)).names,gD (aE (aw 31)).names,yo,[],["signs"],5,true,[]⟩
def jJ(j:Nat):Stmt:=(bodyOf (aw 31)).getD j (.Pass default)
noncomputable def vM(x:Str)(n h w f s:Int):Sg:=[("letters",.str x),("number",.int n),("held",.int h),("way",.int w),("first",.int f),("second",.int s)]
def uE:Cx (Way->Prop):=⟨(aE (aw 31)).names,gD (aE (aw 31)).names,yo,[],["signs"],5,true,[]⟩
noncomputable def sA(ss:List Str):List AV:=ss.map .str
def GZ(x:Str)(n h w f s:Int):Sg:=vM x n h w f s++([("forms",.lst (GW.map .int))]:Sg)
def yq(x:Str)(n h w f s:Int)(ss:List Str):Sg:=GZ x n h w f s++([("signs",.own (sA ss))]:Sg)
def yr(x:Str)(n h w f s:Int)(ss:List Str):Sg:=yq x n h w f s ss++([("table",.lst (pg.map .int))]:Sg)
def G0(x:Str)(f s:Nat):List Str:=(x.cps.toList.zip [(f:Int),(s:Int)]).map λp=>tm p.1 p.2
def tq(x:Str)(w:Nat)(ss:List Str):List Str×Str:=ae (aS x.length 2) (ae (aS w 0) ([⟨#[(GY x).toNat]⟩],x) (ae (aS w 1) (ss.reverse,xl x) (ss,x))) (ss,x)
section
theorem a31{ks:Sg->Way->Prop}{kr:AV->Way->Prop}{o:Way}:eJ oM (bD oM 30) uE [("letters",.str x),("number",.int n)] (jJ 0) ks kr o=((28:Int)≠0/\((28:Int)≠0/\ij n 28=false)/\(3:Int)≠0/\((84:Int)≠0/\ij n 84=false)/\(14:Int)≠0/\((1176:Int)≠0/\ij n 1176=false)/\(14:Int)≠0/\ks (vM x n (n.fmod 28) ((n.fdiv 28).fmod 3) ((n.fdiv 84).fmod 14) ((n.fdiv 1176).fmod 14)) o):=⋯
theorem b31:eJ eM (bD eM 30) yp (vM x n h w f s) (jJ 1) ks kr=ks (GZ x n h w f s):=⋯
theorem d31:(jq.map λx=>(au 14).map λ(f:Nat)=>(au 14).map λ(s:Nat)=>eJ eM (bD eM 30) yp (GZ x n h w f s) (jJ 2) ks kr)=jq.map λx=>(au 14).map λ(f:Nat)=>(au 14).map λ(s:Nat)=>ks (yq x n h w f s (G0 x f s)):=⋯
noncomputable def tv(x:Str)(u v:Nat):List Str:=(x.cps.toList.zip [u,v]).map λp=>⟨#[p.2]⟩
theorem f31:(jq.map λx=>(au 3).map λ(w:Nat)=>eJ eM (bD eM 30) yp (yq x n h w f s (tv x u v)) (jJ 3) ks kr)=jq.map λx=>(au 3).map λ(w:Nat)=>ks (yq (tq x w (tv x u v)).2 n h w f s (tq x w (tv x u v)).1):=⋯
theorem g31:eJ eM (bD eM 30) yp (yq x n h w f s ss) (jJ 4) ks kr=ks (yr x n h w f s ss):=⋯
theorem h31:([[⟨#[u]⟩],[⟨#[u]⟩,⟨#[v]⟩]].map λss=>(au 28).map λ(h:Nat)=>eJ eM (bD eM 30) yp (yr x n h w f s ss) (jJ 5) ks kr)=[[⟨#[u]⟩],[⟨#[u]⟩,⟨#[v]⟩]].map λss=>(au 28).map λ(h:Nat)=>ks (yr x n h w f s (tp h ss)):=⋯
theorem i31{ks:Sg->Way->Prop}{kr:AV->Way->Prop}{o:Way}:eJ oM (bD oM 30) uE (yr x n h w f s ss) (jJ 6) ks kr o=oM.op (cj dU (sA ss)) (λss=>oM.gd ((ss.map (·.length)).sum+ss.length*("":Str).length<=16777216) inferInstance (oM.gd ([AV.str (cA "" ss),.str x].length<=10000) inferInstance (kr (.tup [.str (cA "" ss),.str x])))) o:=⋯
end
end
section
variable{α β:Type}{m:Md α}{K:Sg->Prop}
theorem Xs.st(M:m.Ok H)(n:Nat)(F:a7 H C cx)(x:H (eJ m (bD m n) cx σ s ks kr))(hr:∀a,H (kr a)->Kr a)(hk:∀σ',H (ks σ')->Xs C σ' r K Kr):Xs C σ (s::r) K Kr:=λad h R tk Q q=>
 lZ (vp M (j7 M n) F x ad h R tk _ ⟨λad' σ' h' ak s R' z=>hk σ' z ad' h' R' ak Q (q.after s),λa v ad' σ' h' ak s R' rv z=>q.r a v ad' σ' h' ak s R' rv (hr a z)⟩)
structure Ys(C:Fc)(σ:Sg)(r:List Stmt)(K:Sg->Prop)(Kr:AV->Prop):Prop where
 x:Xs C σ r K Kr
theorem Ys.st(M:m.Ok H)(n:Nat)(F:a7 H C cx)(x:H (eJ m (bD m n) cx σ s ks kr))(hr:∀a,H (kr a)->Kr a)(hk:∀σ',H (ks σ')->Ys C σ' r K Kr):Ys C σ (s::r) K Kr:=⟨.st M n F x hr λσ' z=>(hk σ' z).x⟩
theorem Ys.o{cx:Cx (Way->Prop)}(F:a7 Hw C cx)(o:Way)(x:eJ oM (bD oM 30) cx σ s (λσ' J=>σ'=σ₁) k o)(hk:Ys C σ₁ r K λa=>Hw (k a)):Ys C σ (s::r) K λa=>Hw (k a):=.st eO 30 F ⟨o,x⟩ (λJ=>id) λσ' z=>z.elim λJ z=>z▸hk
theorem Ys.e{cx:Cx Prop}(F:a7 id C cx)(x:eJ eM (bD eM 30) cx σ s (λσ'=>σ'=σ₁) Kr)(hk:Ys C σ₁ r K Kr):Ys C σ (s::r) K Kr:=.st kS 30 F x (λJ=>id) λσ' z=>(z)▸hk
theorem a7.re{sc:List (Str×bG)}{st mu:List Str}{wf:Nat}{hn:Bool}{gl:List (Str×GV α)}{gl':List (Str×GV β)}(F:a7 H C ⟨sc,st,gl,[],mu,wf,hn,[]⟩)(G:∀x g,aj x gl'=some g->fj H' C x g):a7 H' C ⟨sc,st,gl',[],mu,wf,hn,[]⟩ where
 ok:=F.ok
 hu:=F.hu
 hn:=F.hn
 hm:=F.hm
 kind:=F.kind
 name:=F.name
 glob:=G
 pin _ _ e:=ai e
 sN _ _ e:=ai e
 hO:=F.hO
end
theorem bJ{α β:Type}{F G:α->β}{l:List α}(h:l.map F=l.map G){a:α}(m:a∈l):F a=G a:=List.map_inj_left.mp h a m
def mapR{α β:Type}(l:List α)(f:α->β):List β:=@d6 α (λJ=>List β) [] (λa J ih=>f a::ih) l
theorem Qv{α β:Type}(f:α->β):∀l:List α,mapR l f=l.map f|[]=>rfl|a::l=>congrArg (List.cons (f a)) (Qv f l)
theorem aX{α β:Type}{F G:α->β}{l:List α}(h:l.map F=mapR l G){a:α}(m:a∈l):F a=G a:=bJ (h.trans (Qv G l)) m
theorem six{P:Nat->Prop}(a:P 0)(b:P 1)(c:P 2)(d:P 3)(e:P 4)(f:P 5){s:Nat}(h:s<6):P s:=match s,h with|0,_=>a|1,_=>b|2,_=>c|3,_=>d|4,_=>e|5,_=>f
theorem G4{P:Nat->Prop}(a:P 0)(b:P 1)(c:P 2)(d:∀k,P (k+3)):∀k,P k|0=>a|1=>b|2=>c|k+3=>d k
theorem BU{P:Nat->Prop}(a:P 0)(b:P 1)(c:P 2){k:Nat}(h:k<3):P k:=G4 (P:=λk=>k<3->P k) (λJ=>a) (λJ=>b) (λJ=>c) (λk h=>absurd h (Nat.not_lt.mpr (Dj 3 k))) k h
theorem iP(a b:Nat):(a:Int).fdiv b=((a/b:Nat):Int):=by rw[iF _ (bA b)];rfl
theorem gQ(a b:Nat):(a:Int).fmod b=((a%b:Nat):Int):=by rw[wS _ (bA b)];rfl
theorem agK{x:Str}(hx:x∈jq)(f s:Nat):∃u v,G0 x f s=tv x u v:=by
 simp only[jq,t8,fc,or_false]at hx;rcases hx with rfl|rfl|rfl|rfl|rfl|rfl
 ·exact⟨_,0,rfl⟩
 ·exact⟨_,0,rfl⟩
 ·exact⟨_,0,rfl⟩
 ·exact⟨_,_,rfl⟩
 ·exact⟨_,_,rfl⟩
 ·exact⟨_,_,rfl⟩
theorem agL(x:Str)(n:Nat):kU x n=tq x (n/28%3) (BR x n):=by
 unfold kU tq;dsimp only;cases a:aS x.length 2 with
 |false=>rw[if_neg λq=>nZ a q.1,if_neg λq=>nZ a q.1]|true=>cases b:aS (n/28%3) 0 with
  |true=>rw[if_pos ⟨fD a,fD b⟩]|false=>
   rw[if_neg λq=>nZ b q.2];cases c:aS (n/28%3) 1 with|true=>rw[if_pos ⟨fD a,fD c⟩]|false=>rw[if_neg λq=>nZ c q.2]
theorem agM{x:Str}(hx:x∈jq){w:Nat}(hw:w<3)(u v:Nat):∃u' v':Nat,(tq x w (tv x u v)).1∈([[⟨#[u']⟩],[⟨#[u']⟩,⟨#[v']⟩]]:List (List Str)):=by
 have one:∀{u v:Nat},([⟨#[u]⟩]:List Str)∈([[⟨#[u]⟩],[⟨#[u]⟩,⟨#[v]⟩]]:List (List Str)):=aK
 have two:∀{u v:Nat},([⟨#[u]⟩,⟨#[v]⟩]:List Str)∈([[⟨#[u]⟩],[⟨#[u]⟩,⟨#[v]⟩]]:List (List Str)):=aY _ aK
 simp only[jq,t8,fc,or_false]at hx;rcases hx with rfl|rfl|rfl|rfl|rfl|rfl
 ·exact⟨u,0,one⟩
 ·exact⟨u,0,one⟩
 ·exact⟨u,0,one⟩
 all_goals exact match w,hw with|0,_=>⟨_,0,one⟩|1,_=>⟨v,u,two⟩|2,_=>⟨u,v,two⟩
theorem agN{h u v:Nat}{ss:List Str}(m:ss∈([[⟨#[u]⟩],[⟨#[u]⟩,⟨#[v]⟩]]:List (List Str))):(tp h ss).length<=3/\∀s∈tp h ss,s.length=1:=by
 have l:ss.length<=2/\∀s∈ss,s.length=1:=by
  simp only[t8,fc,or_false]at m;rcases m with rfl|rfl
  ·exact⟨bV rfl,λs m=>by rw[List.mem_singleton.mp m];rfl⟩
  ·exact⟨bV rfl,λs m=>by rcases List.mem_cons.mp m with rfl|m;rfl;rw[List.mem_singleton.mp m];rfl⟩
 unfold tp;by_cases c:h=0
 ·rw[if_pos c];exact⟨C4 l.1,l.2⟩
 ·rw[if_neg c]
  refine⟨?_,λs m=>?_⟩
  ·rw[dG,bP,wU,wP];have:=l.1;exact(a9 0xeb39881910b2921f2fd20d301fb20b302f1fd091b321fd2831b23 0x100010118111000011181110001011811100001118114) this pR aq
  ·rcases List.mem_append.mp m with m|m
   ·exact l.2 s (Tk m)
   ·rcases List.mem_cons.mp m with rfl|m
    ·rfl
    ·exact l.2 s (Tj m)
theorem Qw:∀{l:List Str},(∀c∈l,c.length=1)->(l.map (·.length)).sum=l.length|[],_=>rfl|c::r,h=>by rw[gm,ni,bP,h c aK,Qw λc hc=>h c (aY _ hc),iG]
section
variable{prog:bF}{wd:bj}{base:Heap}{mg mb:Str->Option aa}{o:Obj}{pm cd doc:aa}{d:Nat}
structure Qx(mg mb:Str->Option aa):Prop where
 a:mg "range"=none/\mb "range"=some (.type "range")
 b:mg "zip"=none/\mb "zip"=some (.type "zip")
 c:mg "chr"=none/\mb "chr"=some (.builtin "chr")
 d:mg "ord"=none/\mb "ord"=some (.builtin "ord")
 e:mg "len"=none/\mb "len"=some (.builtin "len")
 f:mg "list"=none/\mb "list"=some (.type "list")
theorem Qy{α:Type}{H:α->Prop}{C:Fc}{hn:Bool}(R:Rm prog wd base mg mb d hn C)(G:Qx mg mb):Gs H C yo:=Gs.cons (.bi (R.g▸G.a.1) (R.b▸G.a.2)) (Gs.cons (.bi (R.g▸G.b.1) (R.b▸G.b.2)) (Gs.cons (.bi (R.g▸G.c.1) (R.b▸G.c.2)) (Gs.cons (.bi (R.g▸G.d.1) (R.b▸G.d.2)) (Gs.cons (.bi (R.g▸G.e.1) (R.b▸G.e.2)) (Gs.cons (.bi (R.g▸G.f.1) (R.b▸G.f.2)) Gs.nil)))))
theorem G5(a b:Int)(h0:0<b)(h:b<2^20):b≠0/\ij a b=false:=⟨λq=>absurd (q▸h0) (Int.lt_irrefl 0),Dh (y9 (k:=9000) (λq=>absurd (q▸h0) (Int.lt_irrefl 0)) (jU (mL (cb h0) h) (jv ⋯ ⋯)))⟩
theorem agO(D:eP base 208 (aw 31) o pm cd doc)(B:ck base mg mb)(G:Qx mg mb):aZ Hw prog wd base mg mb 208 (d+1) true Qu:=
 aZ.of D.at_ D.fn D.ext D.code B (jj.of ⋯) (λvs h=>o6 h λJ J=>rfl) (gl:=yo) (mu:=["signs"]) (wf:=5) (xs:=["letters","number"]) (λC R=>Qy R G) λas k x=>by
  obtain⟨o,x,n,rfl,⟨hx,hn⟩,hk⟩:=x;refine⟨rfl,λC ok h Ft R=>?_⟩;have Fe:=Ft.re (gl':=yo) (Qy (H:=id) R G);rw[show bodyOf (aw 31)=[jJ 0,jJ 1,jJ 2,jJ 3,jJ 4,jJ 5,jJ 6]by exact⋯];have Qz:n%28<28:=dr _ ⋯;have h3:n/28%3<3:=dr _ ⋯;have QA:n/84%14<14:=dr _ ⋯;have QB:n/1176%14<14:=dr _ ⋯;have e0:eJ oM (bD oM 30) uE [("letters",.str x),("number",.int n)] (jJ 0) (λσ' J=>σ'=vM x n ((n%28:Nat):Int) ((n/28%3:Nat):Int) ((n/84%14:Nat):Int) ((n/1176%14:Nat):Int)) k []:=by
   rw[a31];have z:vM x n ((n:Int).fmod 28) (((n:Int).fdiv 28).fmod 3) (((n:Int).fdiv 84).fmod 14) (((n:Int).fdiv 1176).fmod 14)=vM x n ((n%28:Nat):Int) ((n/28%3:Nat):Int) ((n/84%14:Nat):Int) ((n/1176%14:Nat):Int):=by rw[show(28:Int)=((28:Nat):Int)from rfl,show(3:Int)=((3:Nat):Int)from rfl,show(84:Int)=((84:Nat):Int)from rfl,show(14:Int)=((14:Nat):Int)from rfl,show(1176:Int)=((1176:Nat):Int)from rfl,gQ,iP,iP,iP,gQ,gQ,gQ]
   exact⟨⋯,G5 _ 28 ⋯ ⋯,⋯,G5 _ 84 ⋯ ⋯,⋯,G5 _ 1176 ⋯ ⋯,⋯,z⟩
  refine Ys.x ?_;refine Ys.o Ft [] e0 ?_;clear e0;have et:=agL x n;have eg:BR x n=G0 x (n/84%14) (n/1176%14):=rfl;generalize hS:(n%28)=hd at Qz;unfold qL qM at hk;rw[et,hS,eg]at hk;generalize n/28%3=w at h3 hk⊢;generalize n/84%14=f at QA hk⊢;generalize n/1176%14=s at QB hk⊢;refine Ys.e Fe (b31.mpr rfl) ?_;refine Ys.e Fe ((bJ (bJ (bJ d31 hx) (List.mem_range.mpr QA)) (List.mem_range.mpr QB)).mpr rfl) ?_;obtain⟨u,v,e⟩:=agK hx f s;rw[e]at hk⊢;refine Ys.e Fe ((bJ (bJ f31 hx) (List.mem_range.mpr h3)).mpr rfl) ?_;obtain⟨u',v',m⟩:=agM hx h3 u v;generalize (tq x w (tv x u v)).1=ss at m hk⊢;generalize (tq x w (tv x u v)).2=y at hk⊢;refine Ys.e (σ₁:=yr y n hd w f s ss) Fe (g31.mpr rfl) ?_;refine Ys.e Fe ((bJ (bJ h31 m) (List.mem_range.mpr Qz)).mpr rfl) ?_;obtain⟨l3,l1⟩:=agN (h:=hd) m;exact .st eO 30 Ft (ks:=λJ J=>False) ⟨o,i31.mpr ⟨_,GT _,by rw[Qw l1];exact az (Nat.add_le_add l3 (i7 (pK _))) ⋯,bV rfl,hk⟩⟩ (λJ=>id) λσ' z=>z.elim λJ z=>z.elim
end
section
open Hd
section
def bE(P:cc)(a:Nat):Obj:=((zQ P).get a).getD default
noncomputable def BV(o:Obj):Option nX×Array aa×Array fN×Nat:=@Data.casesOn (λJ=>Option nX×Array aa×Array fN×Nat) o.data (none,#[],#[],0) (λJ=>(none,#[],#[],0)) (λvs n=>(none,vs,#[],n)) (λes n=>(none,#[],es,n)) (λJ J J=>(none,#[],#[],0)) (λJ J=>(none,#[],#[],0)) (λJ=>(none,#[],#[],0)) (λfd=>(some fd,#[],#[],0)) (λJ=>(none,#[],#[],0)) (λvs=>(none,vs,#[],0)) (none,#[],#[],0)
def QC(o:Obj):nX:=(BV o).1.getD (docDef "" default [] default .none .none .none)
def j8(o:Obj):Array aa:=(BV o).2.1
def jK(o:Obj):Array fN:=(BV o).2.2.1
def G6(o:Obj):Nat:=(BV o).2.2.2
end
noncomputable def lP(v:aa):Tok:=match v with|.str _ t=>t|.int _ t=>t|.float _ t=>t|_=>0
noncomputable def mS:List (Nat×Nat):=[(38,3),(45,4),(52,5),(59,6),(66,7),(73,8),(80,13),(87,14),(94,15),(101,16),(108,17),(115,18),(122,19),(139,24),(157,27),(203,29),(208,31),(213,32),(218,33),(223,34)]
def lQ:List Nat:=[3,47,54,126,127,131,132,147,158]++(mS.map (·.1)++mS.map λq=>q.1-1)
section
variable(P:cc)
theorem agQ:(lQ.map λa=>(zQ P).get a)=mapR lQ λa=>some (bE P a):=⋯
theorem agR:(lQ.map λa=>alive (bE P a))=mapR lQ λa=>some (bE P a):=⋯
theorem agS:∀a∈lQ,a<224:=⋯
theorem ob(h:a∈lQ):(H1 P).get? a=some (bE P a):=(abs_get (agS a h) (aX (agQ P) h)).trans (aX (agR P) h)
theorem agT:(mS.map λq=>(bE P q.1).data)=mapR mS λq=>.func (docDef (nameOf (aw q.2)) (mK (aw q.2)) (bodyOf (aw q.2)) (aE (aw q.2)) (QC (bE P q.1)).pyModule (.ref (q.1-1)) (QC (bE P q.1)).doc):=⋯
theorem agU:(mS.map λq=>(bE P (q.1-1)).data)=mapR mS λq=>.fields (j8 (bE P (q.1-1))):=⋯
theorem agV:(mS.map λq=>(j8 (bE P (q.1-1)))[1]?)=mapR mS λq=>some (.str (nameOf (aw q.2)) (lP ((j8 (bE P (q.1-1))).getD 1 .none))):=⋯
theorem agW:∀q∈mS,eG (q.1-1)=false:=⋯
theorem QD:∀q∈mS,q.1∈lQ/\q.1-1∈lQ:=⋯
theorem da(hk:∀b o,(H1 P).get? b=some o->h.get? b=some o)(m:(a,j)∈mS):∃o pm doc,eP h a (aw j) o pm (.ref (a-1)) doc:=
 ⟨bE P a,_,_,hk _ _ (ob P (QD _ m).1),aX (agT P) m,⟨a-1,_,_,_,rfl,hk _ _ (ob P (QD _ m).2),aX (agU P) m,aX (agV P) m⟩,λc e=>by cases e;exact agW _ m⟩
end
end
section
open Hd
section
variable(P:cc)
theorem G7:([47,54].map λa=>bE P a)=mapR [47,54] λJ=>⟨.none,none,.fields #[],#[]⟩:=⋯
theorem QE:gL (H1 P):=
 ⟨⟨_,#[],(ob P (a:=47) ⋯).trans (congrArg some (aX (G7 P) ⋯)),rfl,⟨trivial,rfl,rfl,rfl⟩,λpos c e=>by cases e⟩,⟨_,#[],(ob P (a:=54) ⋯).trans (congrArg some (aX (G7 P) ⋯)),rfl,⟨trivial,rfl,rfl,rfl⟩,λpos c e=>by cases e⟩⟩
noncomputable def jL(v:aa):Str×Int×Bool:=@Value.casesOn (λJ=>Str×Int×Bool) v ("",0,false) ("",0,false) ("",0,false) (λb=>("",0,b)) (λi J=>("",i,false)) (λJ J=>("",0,false)) (λx J=>(x,0,false)) (λJ J=>("",0,false)) (λJ=>("",0,false)) (λJ=>("",0,false)) (λJ=>("",0,false))
def mT(q:Nat×Nat)(i:Nat):aa:=(j8 (bE P q.1)).getD i .none
noncomputable def nL:List (Nat×Nat):=[(51,47),(58,54)]
theorem agX:(nL.map λq=>(bE P q.1).data)=mapR nL λq=>.fields (j8 (bE P q.1)):=⋯
theorem agY:(nL.map λq=>(j8 (bE P q.1))[11]?)=mapR nL λq=>some (.ref q.2):=⋯
theorem agZ:(nL.map λq=>(bE P q.1).cls)=mapR nL λq=>.type "code":=⋯
theorem ag0:(nL.map λq=>[mT P q 18,mT P q 7,mT P q 9,mT P q 10])=mapR nL λq=>[.str (jL (mT P q 18)).1 (lP (mT P q 18)),.int (jL (mT P q 7)).2.1 (lP (mT P q 7)),.bool (jL (mT P q 9)).2.2,.int (jL (mT P q 10)).2.1 (lP (mT P q 10))]:=⋯
theorem ag1:∀q∈nL,q.1∈lQ/\q.1≠q.2/\eG q.1=false:=⋯
theorem csAt{h:Heap}(hk:∀b o,(H1 P).get? b=some o->h.get? b=some o){c p:Nat}(m:(c,p)∈nL):nH h c p:=by obtain⟨n1,n2,n3⟩:=ag1 _ m;have b:=aX (ag0 P) m;obtain⟨b1,b⟩:=ju b;obtain⟨b2,b⟩:=ju b;obtain⟨b3,b⟩:=ju b;have t:=aX (agY P) m;exact .mk _ _ _ _ _ _ _ _ _ (hk _ _ (ob P n1)) (aX (agX P) m) (by rw[Array.getD_eq_getD_getElem?];exact congrArg (Option.getD · .none) t) b1 b2 b3 (ju b).1 ⟨n2,aX (agZ P) m,t⟩ n3
def qN:List (Nat×Nat×Array Nat):=[(127,126,Re.ib),(132,131,Re.cC)]
theorem ag2:(qN.map λq=>bE P q.1)=mapR qN λq=>⟨.type "re.Pattern",none,.fields #[(j8 (bE P q.1)).getD 0 .none,(j8 (bE P q.1)).getD 1 .none,.int 0 (lP ((j8 (bE P q.1)).getD 2 .none)),(j8 (bE P q.1)).getD 3 .none,(j8 (bE P q.1)).getD 4 .none,.ref q.2.1,.int 0 (lP ((j8 (bE P q.1)).getD 6 .none))],(bE P q.1).slots⟩:=⋯
theorem ag3:(qN.map λq=>(bE P q.2.1).data)=mapR qN λq=>.seq (j8 (bE P q.2.1)) (G6 (bE P q.2.1)):=⋯
theorem ag4:(qN.map λq=>((j8 (bE P q.2.1)).map To).map (·.toNat))=mapR qN λq=>q.2.2:=⋯
theorem QF:∀q∈qN,q.1∈lQ/\q.2.1∈lQ:=⋯
theorem pt{q:Nat×Nat×Array Nat}(m:q∈qN):Re.ic (H1 P) q.1 q.2.1 q.2.2:=by have e:=aX (ag2 P) m;exact⟨⟨_,_,_,_,_,_,_,ob P (QF _ m).1,congrArg Obj.cls e,congrArg Obj.dict e,congrArg Obj.data e⟩,⟨_,_,_,ob P (QF _ m).2,aX (ag3 P) m,aX (ag4 P) m⟩⟩
theorem pats:Qh (H1 P):=⟨pt P (q:=(127,126,Re.ib)) aK,pt P (q:=(132,131,Re.cC)) (aY _ aK)⟩
noncomputable def yt(o:Obj):Array (Int×aa)×Nat×SetTable:=@Data.casesOn (λJ=>Array (Int×aa)×Nat×SetTable) o.data (#[],0,default) (λJ=>(#[],0,default)) (λJ J=>(#[],0,default)) (λJ J=>(#[],0,default)) (λes p t=>(es,p,t)) (λJ J=>(#[],0,default)) (λJ=>(#[],0,default)) (λJ=>(#[],0,default)) (λJ=>(#[],0,default)) (λJ=>(#[],0,default)) (#[],0,default)
abbrev yu:List (Int×aa):=(yt (bE P 147)).1.toList
theorem QG:((yu P).map λe=>e)=mapR (yu P) λe=>(hashInt (jL e.2).2.1,.int (jL e.2).2.1 (lP e.2)):=⋯
theorem ag5:((yu P).map λe=>pf.contains (jL e.2).2.1)=mapR (yu P) λJ=>true:=⋯
theorem ag6:(pf.map λk=>(yu P).any λe=>Dl k e.2)=mapR pf λJ=>true:=⋯
theorem ag7{prog:bF}{w:bj}:Ql prog w (H1 P):=by
 refine⟨27,bE P 147,(yt (bE P 147)).1,(yt (bE P 147)).2.1,(yt (bE P 147)).2.2,ob P ⋯,⟨⋯,⋯,⋯⟩,⋯,λe he=>?_,λk=>⟨λhk=>?_,λ⟨e,he,q⟩=>?_⟩,?_,⋯,⋯⟩
 ·rw[show e=(hashInt (jL e.2).2.1,.int (jL e.2).2.1 (lP e.2))from aX (QG P) he]
  exact⟨⟨_,beq_self_eq_true _,rfl⟩,rfl⟩
 ·obtain⟨e,he,q⟩:=List.any_eq_true.mp (aX (ag6 P) (of_decide_eq_true hk))
  exact⟨e,he,q⟩
 ·rw[show e=(hashInt (jL e.2).2.1,.int (jL e.2).2.1 (lP e.2))from aX (QG P) he]at q
  have c:=aX (ag5 P) he;rw[show(jL e.2).2.1=k from eq_of_beq q]at c;exact decide_eq_true (List.contains_iff_mem.mp c)
 ·have h:(yt (bE P 147)).1.size=27:=⋯
  rw[h];decide
abbrev QH:List fN:=(jK (bE P 158)).toList
theorem ag8:((QH P).map λe=>(e.key,e.hash))=mapR (QH P) λe=>(.int (jL e.key).2.1 (lP e.key),hashInt (jL e.key).2.1):=⋯
theorem fb_l{es:Array fN}{k:Int}:findBy Dl es k=(es.toList.find? λe=>Dl k e.key).map (·.val):=by unfold findBy;rw[Array.find?_toList]
noncomputable abbrev b3F(p:Nat×Option Str):Option aa:=((QH P).find? λe=>Dl p.1 e.key).map (·.val)
theorem ag9:(ix.map λp=>b3F P p)=mapR ix λp=>p.2.map λx=>.str x (lP ((b3F P p).getD .none)):=⋯
theorem aha{prog:bF}{w:bj}:Qn prog w (H1 P):=by
 refine⟨λk=>findBy (intKind prog w).is (jK (bE P 158)) k,⟨bE P 158,jK (bE P 158),G6 (bE P 158),ob P ⋯,⟨⋯,⋯,⋯⟩,⋯,λe he=>?_,λJ=>rfl⟩,λp hp=>?_⟩
 ·obtain⟨k,h⟩:=y8 (aX (ag8 P) (Array.mem_toList_iff.mpr he))
  exact⟨(jL e.key).2.1,by rw[k];exact beq_self_eq_true _,h⟩
 ·have q:=fb_l.trans (aX (ag9 P) hp)
  cases e:p.2 with|none=>rw[e]at q;exact .none q|some x=>rw[e]at q;exact .some x _ q
end
theorem prom:fR.row.toRowW.promised:=⟨[.list [.int 3,.int 1]],by decide+kernel,by decide+kernel⟩
end
def iy(σ₁ σ:Sg):Prop:=∀y b,aj y σ₁=some b->∃a,aj y σ=some a/\(b=a∨b=eH a)
section
variable{ad ad':Str->Addr}{K:Sg->Prop}
theorem iy.nil:iy [] σ:=λJ J e=>ai e
theorem iy.cons(w:iy σ₁ σ)(e:aj x σ=some a):iy ((x,a)::σ₁) σ:=λy b q=>by
 have q:ae (aA y x) (some a) (aj y σ₁)=some b:=q;cases c:aA y x with|true=>rw[c]at q;rw[(cN _ _).mp c];exact⟨a,e,.inl (aO q).symm⟩|false=>rw[c]at q;exact w y b q
theorem iy.eH(w:iy σ₁ σ)(e:aj x σ=some (.own xs)):iy ((x,.lst xs)::σ₁) σ:=λy b q=>by
 have q:ae (aA y x) (some (.lst xs)) (aj y σ₁)=some b:=q;cases c:aA y x with|true=>rw[c]at q;rw[(cN _ _).mp c];exact⟨_,e,.inr (aO q).symm⟩|false=>rw[c]at q;exact w y b q
theorem iy.own(w:iy σ₁ σ)(q:aj x σ₁=some (.own ys)):aj x σ=some (.own ys):=(w _ _ q).elim λa z=>z.2.elim (λe=>e▸z.1) λe=>absurd e.symm xF
theorem iy.mut(w:iy σ₁ σ)(q:dC ad σ₁ b):dC ad σ b:=q.elim λy q=>q.elim λys q=>⟨y,ys,w.own q.1,q.2⟩
theorem Rel.kW(w:iy σ₁ σ)(R:Rel C ad σ h):Rel C ad σ₁ h where
 base:=R.base
 tabs:=R.tabs
 loc:=R.loc
 aN:=R.aN
 own x xs e:=R.own x xs (w.own e)
 inj x y xs ys e e':=R.inj x y xs ys (w.own e) (w.own e')
 sz:=R.sz
 pin:=R.pin
 var y b e:=(w y b e).elim λa z=>(R.var y a z.1).elim λv r=>⟨v,r.1,by
  have up:=r.2.mono (ad':=ad) (σ':=σ₁) (h':=h) (λb o k s e=>⟨λq=>k (w.mut q),e⟩) λxs b o J eb s e=>⟨eb,e⟩
  rcases z.2 with eb|eb
  ·rw[eb];exact up
  ·cases up with
   |val r=>rw[eb,NH λxs e=>by subst e;exact r];exact .val r|bU r=>rw[eb];exact .bU r|own r'=>
    subst eb;cases r' with
    |mk c vs n g p r'=>exact .val ⟨c,vs,n,g,⟨p▸(R.own y _ z.1).2,λq=>q.elim λw' q=>q.elim λws q=>by
      have:=R.inj w' y ws _ (w.own q.1) z.1 (q.2.trans p)
      rw[this,e]at q;exact absurd (aO q.1) xF⟩,r'⟩⟩
theorem bN.kW(w:iy σ₁ σ):bN C ad σ h ad σ₁ h:=⟨aQ _,λb o p k e=>e,λJ J J J e=>e,λb q=>.inl (w.mut q)⟩
theorem Ys.kW(w:iy σ₁ σ)(z:Ys C σ₁ r K Kr):Ys C σ r K Kr:=⟨λad h R tk Q q=>z.x ad h (R.kW w) tk Q (q.after (bN.kW w))⟩
end
section
variable{K:Sg->Prop}
theorem Ys.g(F:a7 id C cx)(x:eJ eM (bD eM 30) cx σ s (λσ'=>Ys C σ' r K Kr) Kr):Ys C σ (s::r) K Kr:=.st kS 30 F x (λJ=>id) λJ=>id
end
section
def G8(as:List AV)(k:AV->Prop):Prop:=two eM as (jA eM dU aR λx i=>(x∈jq/\0<=i/\i.toNat<2^300)/\k (.tup [.str (qL x i.toNat),.str (qM x i.toNat)]))
def G9(as:List AV)(k:AV->Prop):Prop:=one eM as (bY eM dU λx=>(x.length<=100/\∀c∈x.cps.toList,eQ c=false->(ix.lookup c).isSome=true/\(mp c).length<=100)/\k (.str (lN x)))
def Ha(as:List AV)(k:AV->Prop):Prop:=one eM as (bY eM dU λx=>x.length<=400000/\k (.str (Re.quote x)))
def vN(as:List AV)(k:AV->Prop):Prop:=two eM as λa b=>jA eM gC aR (λxs t=>opt False (cj aR xs) λis=>opt False (l3 is) λp=>(a=.lst xs/\(0<=p.1/\0<=p.2.1/\0<=p.2.2/\0<=t)/\kP p.1.toNat p.2.1.toNat p.2.2.toNat/\t.toNat<=2)/\k (.tup [.aG false (nJ p.1.toNat p.2.1.toNat p.2.2.toNat),.int (nK p.1.toNat p.2.1.toNat p.2.2.toNat:Nat),.int (ia p.1.toNat p.2.1.toNat p.2.2.toNat:Nat)])) a b
def vO(as:List AV)(k:AV->Prop):Prop:=opt False (cj aR as) λis=>PI true true is/\∀q r,q=cQ is/\r=cR is->k (.tup [.int q,.int r])
def E5(as:List AV)(k:AV->Prop):Prop:=two eM as (jA eM aR aR λa n=>(0<=a/\1<=n/\n<=2^20/\bk a<=90000)/\∀l,l=nA (d7 n.toNat a.toNat (cK n.toNat a.toNat))->k (.lst l))
def E6(as:List AV)(k:AV->Prop):Prop:=∃(ds:List Nat) (n:Nat),as=[.lst (nA ds),.int n]/\((∀d∈ds,d<2^n)/\n*ds.length<=2^26/\ds.length<=90000/\n<=2^26)/\k (.int (valN n ds:Nat))
section
theorem ahb(x:G8 as k):Hw (Qu as λa J=>k a):=xG kS (H:=id) x λa b e x=>lG (H:=id) kS x λs i es ei x=>⟨[],s,i.toNat,by rw[e,uZ es,mv ei,rz x.1.2.1],⟨x.1.1,x.1.2.2⟩,x.2⟩
theorem ahc(x:G9 as k):Hw (Qq as λa J=>k a):=qp kS (H:=id) x λa e x=>fh (H:=id) kS x λs es x=>⟨[],s,by rw[e,uZ es],x.1,x.2⟩
theorem ahd(x:Ha as k):Hw (Qk as λa J=>k a):=qp kS (H:=id) x λa e x=>fh (H:=id) kS x λs es x=>⟨[],s,by rw[e,uZ es],x.1,x.2⟩
theorem ahe(x:vN as k):Hw (PW as λa J=>k a):=xG kS (H:=id) x λa b e x=>lG (H:=id) kS x λxs t J et x=>aW (H:=id) id x λis ei x=>aW (H:=id) id x λp ep x=>⟨[],p.1.toNat,p.2.1.toNat,p.2.2.toNat,t.toNat,by
 rw[e,x.1.1,mv et,FJ ei,Gq ep,rz x.1.2.1.1,rz x.1.2.1.2.1,rz x.1.2.1.2.2.1,rz x.1.2.1.2.2.2];rfl,⟨x.1.2.2.1,x.1.2.2.2⟩,x.2⟩
theorem ahf(x:vO as k):Hw (gO (PI true true) cQ cR as λa J=>k a):=⟨[],x⟩
theorem ahg(x:E5 as k):Hw (F5 as λa J=>k a):=xG kS (H:=id) x λa b e x=>lG (H:=id) kS x λu n eu en x=>by obtain⟨u,rfl⟩:=pP x.1.1;obtain⟨n,rfl⟩:=pP (pL ⋯ x.1.2.1);exact⟨[],u,n,by rw[e,mv eu,mv en],⟨Int.ofNat_le.mp x.1.2.1,Int.ofNat_le.mp (pL x.1.2.2.1 ⋯),x.1.2.2.2⟩,x.2⟩
theorem ahh(x:E6 as k):Hw (F6 as λa J=>k a):=let⟨ds,n,e,c,h⟩:=x;⟨[],ds,n,e,c,h⟩
end
theorem aZ.e(c:aZ Hw prog wd base mg mb fa d hn F)(f:∀as k,F' as k->Hw (F as λa J=>k a)):aZ id prog wd base mg mb fa d hn F':=c.map λas k x=>⟨λa J=>k a,f as k x,λa z=>z.elim λJ z=>z⟩
noncomputable def glQ{α:Type}:List (Str×GV α):=[("range",.bi .range),("enumerate",.bi .enumerate),("len",.bi .len),("sum",.bi .sum),("min",.bi .min),("max",.bi .max),("isinstance",.bi .isinstance),("bool",.bi .bool),("int",.bi .int)]
def Hb:List (Str×GV Prop):=glQ++([("_law_typed",.fn G8),("_law_prepared",.fn G9),("_law_seen",.fn vN),("quotedata",.fn Ha),("int_divmod",.fn vO),("_int2digits",.fn E5),("_digits2int",.fn E6)]:List (Str×GV Prop))
def aH(j:Nat):Stmt:=(bodyOf (aw 34)).getD j (.Pass default)
noncomputable def Hc:List Str:=["told","text","tails","needs","lumas","mixed","gaps","rows","majors","products","longer","heads"]
def bS:Cx Prop:=⟨(aE (aw 34)).names,gD (aE (aw 34)).names,Hb,[],Hc,5,true,[]⟩
abbrev dP(j:Nat)(σ:Sg)(ks:Sg->Prop)(kr:AV->Prop):Prop:=eJ eM (bD eM 30) bS σ (aH j) ks kr
end
section
abbrev LE(j:Nat)(kr:AV->Prop)(xs:List AV)(σ:Sg)(ks:Sg->Prop):Prop:=forL eM (bD eM 30) bS (jk (aH j) 1) (fY (aH j)) kr xs σ ks
noncomputable def tA(f:Nat->Int):List AV:=[.int (f 0),.int (f 1),.int (f 2),.int (f 3),.int (f 4),.int (f 5)]
def s1(ns:List Int)(f:Nat->Int)(e:Sg):Sg:=("script",.lst (ns.map .int))::("told",.own (tA f))::e
noncomputable def e1(p x:Int):Sg:=[("place",.int p),("one",.int x)]
def He(f:Nat->Int)(p:Nat)(x:Int)(i:Nat):Int:=ae (aS i (p%6)) (f i+x.fmod (10^30)) (f i)
noncomputable def QI(i:Nat):Int:=[30,9212,19,9932834786550190891710444,829,58].getD i 0
section
theorem q0:dP 0 [("script",.lst (ns.map .int))] ks kr=ks (s1 ns QI []):=⋯
theorem q1:dP 1 (s1 ns f []) ks kr=te (c:=(0:Int)<=60/\(ns.map AV.int).length<=10000000) inferInstance (LE 1 kr (m9 u6 (dJ 0 ((ns.map AV.int).take 60).length 1) ((ns.map AV.int).take 60)) (s1 ns f []) ks):=⋯
theorem t1:((au 60).map λ(p:Nat)=>[[],e1 y z].map λe=>LE 1 kr (.tup [.int p,.int x]::xs) (s1 ns f e) ks)=(au 60).map λ(p:Nat)=>[[],e1 y z].map λJ=>LE 1 kr xs (s1 ns (He f p x) (e1 p x)) ks:=⋯
end
end
noncomputable def BW:Nat->List AV->List AV|_,[]=>[]|p,x::xs=>.tup [.int (p:Int),x]::BW (p+1) xs
theorem Hf(a:Int)(n:Nat):dJ a (n+1) 1=.int a::dJ (a+1) n 1:=by show(au (n+1)).map _=_::(au n).map _;rw[List.range_succ_eq_map,gm,oj];exact congr (congrArg List.cons (congrArg AV.int (wz a))) (rH λi J=>congrArg AV.int (by show a+1*((i+1:Nat):Int)=a+1+1*(i:Int);rw[lU,lU,Int.natCast_succ,Int.add_assoc,IE 1]))
theorem QJ:∀(xs:List AV) (p:Nat),m9 u6 (dJ (p:Int) xs.length 1) xs=BW p xs|[],_=>by rw[List.zipWith_nil_right];rfl|x::xs,p=>by rw[bP,Hf,List.zipWith_cons_cons];exact congrArg (List.cons _) (QJ xs (p+1))
noncomputable def Hg:Int:=9932834786550190891710444
section
variable{kr:AV->Prop}
theorem QK(hk:∀f e,(∀i,0<=f i/\f i<=Hg+60*10^30)->ks (s1 ns f e)):∀(xs:List Int) (p:Nat) (f:Nat->Int) (e:Sg),(e=[]∨∃y z,e=e1 y z)->p+xs.length<=60->(∀i,0<=f i/\f i<=Hg+p*10^30)->LE 1 kr (BW p (xs.map .int)) (s1 ns f e) ks
 |[],p,f,e,_,hp,hf=>hk f e λi=>⟨(hf i).1,pL (hf i).2 (Int.add_le_add_left (ui (Int.ofNat_le.mpr hp) ⋯) _)⟩|x::xs,p,f,e,he,hp,hf=>by
  have hp:p+1+xs.length<=60:=by rw[bP]at hp;exact(ao 0xeb3c2a818190b3c2a881910 1122578) hp
  have ih:=QK hk xs (p+1) (He f p x) (e1 p x) (.inr ⟨_,_,rfl⟩) hp λi=>by
   have h0:=Int.fmod_nonneg_of_pos x (show(0:Int)<10^30 from ⋯);have h1:=Int.fmod_lt_of_pos x (show(0:Int)<10^30 from ⋯);have:=hf i;have e:(((p+1:Nat):Int))*10^30=p*10^30+10^30:=by rw[Int.natCast_succ,rn,lU]
   rw[e];unfold He;generalize x.fmod (10^30)=w at h0 h1⊢;generalize (p:Int)*10^30=v at this⊢;cases aS i (p%6)with|true=>show 0<=f i+w/\f i+w<=_;exact(zf 0xe1f6e884328106e810096e1097e411f6e83206e009 0x1010151110114110) h0 h1 this|false=>show 0<=f i/\f i<=_;exact(zf 0xe1f6e8832106e0096e4097e341f6e82106e009 0x1011151110014110) h0 h1 this
  have T:=λy z=>bJ (t1 (ns:=ns) (f:=f) (x:=x) (y:=y) (z:=z) (xs:=BW (p+1) (xs.map .int)) (ks:=ks) (kr:=kr)) (a:=p) (List.mem_range.mpr ((ao 0xec3c2a0b3c2a818190 17903890) hp));rcases he with rfl|⟨y,z,rfl⟩
  ·exact(ju (T 0 0)).1.mpr ih
  ·exact(ju (ju (T y z)).2).1.mpr ih
end
section
variable{C:Fc}{r:List Stmt}{K:Sg->Prop}{ns:List Int}
theorem ahj(F:a7 id C bS)(tx:ns.length<=1000)(hk:∀f:Nat->Nat,(∀i,f i<2^110)->Ys C [("told",.lst (tA λi=>f i))] r K Kr):Ys C [("script",.lst (ns.map .int))] (aH 0::aH 1::r) K Kr:=by
 refine Ys.g F (q0.mpr (Ys.g F (q1.mpr (lO ⟨⋯,by rw[bB];exact az tx ⋯⟩ ?_))));rw[<-List.map_take];rw[show(0:Int)=((0:Nat):Int)from rfl,QJ];refine QK (λf e hf=>?_) (ns.take 60) 0 QI [] (.inl rfl) ?_ ?_
 ·refine Ys.kW (σ₁:=[("told",.lst (tA f))]) (.eH .nil ⋯) ?_
  obtain⟨g,rfl⟩:∃g:Nat->Nat,f=λi=>(g i:Int):=⟨λi=>(f i).toNat,funext λi=>(rz (hf i).1).symm⟩
  exact hk g λi=>Int.ofNat_lt.mp (C7 (hf i).2 ⋯)
 ·rw[wU,iY];exact IH _ _
 ·intro i
  match i with|0|1|2|3|4|5=>exact⟨⋯,⋯⟩|n+6=>exact⟨wA 0,show(0:Int)<=Hg+((0:Nat):Int)*10^30 from ⋯⟩
end
section
abbrev gI(c:Prop)[d:Decidable c](x:Prop):Prop:=te d x
abbrev Hh(b:Int)(i:Nat)(x:Int->Prop):Prop:=gI ((0:Int)<=0+1*(i:Int)/\(bk b:Int)*(0+1*(i:Int))<=2^27) (x (b^((0:Int)+1*(i:Int)).toNat))
abbrev vP(t:List AV)(a b c:Int)(i:Nat)(x:Int->Prop):Prop:=gI (t.length<=100000) (Hh b i λy=>gI (y≠0/\ij a y=false) (gI (c≠0) (x ((a.fdiv y).fmod c))))
abbrev BX(n:Int)(x:Prop):Prop:=gI (wL 0 n 1=true/\0<=iH 0 n 1/\(1:Int)≠0/\ij (n-0) 1=false) x
noncomputable def ph:AV:=.tup [.str "k",.str "m",.str "b",.str "km",.str "kb",.str "mb"]
noncomputable def cp(T:List Nat):List AV:=T.map λ(n:Nat)=>.int n
def cz(s:Nat):Str:=jq.getD s ""
def pj(T:List Nat)(s:Nat):List Nat:=ae (bh (((T++[s]).map λs=>(cz s).length).sum) 4) (T++[s]) T
def s3(t:AV)(T:List Nat)(e:Sg):Sg:=("told",t)::("names",ph)::("text",.own (cp T))::e
section
variable{xs:List AV}{a b c d e g:Int}{t:AV}{ks:Sg->Prop}{kr:AV->Prop}
theorem q2:dP 2 [("told",t)] ks kr=ks (s3 t [] []):=⋯
theorem q3(t:List AV)(ht:t=[.int a,.int b,.int c,.int d,.int e,.int g]):dP 3 (s3 (.lst t) [] []) ks kr=BX 4 (gI ((dJ 0 (iH 0 4 1).toNat 1).length<=100000) (vP t a 6 6 0 λx=>vP t a 6 6 1 λy=>vP t a 6 6 2 λz=>vP t a 6 6 3 λw=>LE 3 kr [.int x,.int y,.int z,.int w] (s3 (.lst t) [] []) ks)):=by subst ht;exact⋯
theorem t3a:((au 6).map λx=>LE 3 kr (.int (x:Nat)::xs) (s3 t [] []) ks)=(au 6).map λx=>LE 3 kr xs (s3 t (pj [] x) [("sign",.int x)]) ks:=⋯
theorem t3b:((au 6).map λx=>(au 6).map λy=>LE 3 kr (.int (y:Nat)::xs) (s3 t (pj [] x) [("sign",.int x)]) ks)=(au 6).map λx=>(au 6).map λy=>LE 3 kr xs (s3 t (pj (pj [] x) y) [("sign",.int y)]) ks:=⋯
theorem t3c:((au 6).map λx=>(au 6).map λy=>(au 6).map λz=>LE 3 kr (.int (z:Nat)::xs) (s3 t (pj (pj [] x) y) [("sign",.int y)]) ks)=(au 6).map λx=>(au 6).map λy=>(au 6).map λz=>LE 3 kr xs (s3 t (pj (pj (pj [] x) y) z) [("sign",.int z)]) ks:=⋯
theorem t3d:((au 6).map λx=>(au 6).map λy=>(au 6).map λz=>(au 6).map λw=>LE 3 kr [.int (w:Nat)] (s3 t (pj (pj (pj [] x) y) z) [("sign",.int z)]) ks)=(au 6).map λx=>(au 6).map λy=>(au 6).map λz=>(au 6).map λw=>ks (s3 t (pj (pj (pj (pj [] x) y) z) w) [("sign",.int w)]):=⋯
end
end
theorem nN(a b:Nat)(h0:0<b)(h:b<2^8000):(b:Int)≠0/\ij a b=false:=⟨λq=>absurd (tO q) (pM h0),Dh (y9 (k:=9000) (λq=>absurd (tO q) (pM h0)) (jU h (jv ⋯ ⋯)))⟩
theorem ahk{b i:Nat}{x:Int->Prop}(hb:(bk (b:Int):Int)*(i:Int)<=2^27)(h:x ((b^i:Nat):Int)):Hh b i x:=by
 have e:(0:Int)+1*(i:Int)=i:=by rw[CJ,lU]
 unfold Hh gI;refine lO ?_ ?_
 ·rw[e];exact⟨bA i,hb⟩
 ·rw[e];exact h
theorem ahl{t:List AV}{a b c i:Nat}{x:Int->Prop}(ht:t.length<=100000)(h0:0<b)(hb:(bk (b:Int):Int)*(i:Int)<=2^27)(hp:b^i<2^8000)(hc:0<c)(h:x ((a/b^i%c:Nat):Int)):vP t a b c i x:=
 lO ht (ahk hb (lO (nN a _ (Dm h0) hp) (lO (λq=>absurd (tO q) (pM hc)) (by rw[iP,gQ];exact h))))
structure dh(T:List Nat):Prop where
 ne:T≠[]
 lt:∀s∈T,s<6
 sum:(T.map λs=>(cz s).length).sum<5
def Hi(T:List Nat):Bool:=ae T.isEmpty false (ae (T.all (bh · 5)) (bh (T.map λs=>(cz s).length).sum 4) false)
theorem ahm(h:Hi T=true):dh T:=by
 unfold Hi at h;cases a:T.isEmpty with
 |true=>rw[a]at h;exact absurd h aL|false=>
  rw[a]at h;cases b:T.all (bh · 5)with|false=>rw[b]at h;exact absurd h aL|true=>rw[b]at h;exact⟨λq=>by(rw[q]at a;cases a),λs m=>jw (bV (List.all_eq_true.mp b s m)),jw (bV h)⟩
theorem ahn:((au 6).map λx=>(au 6).map λy=>(au 6).map λz=>(au 6).map λw=>Hi (pj (pj (pj (pj [] x) y) z) w))=(au 6).map λJ=>(au 6).map λJ=>(au 6).map λJ=>(au 6).map λJ=>true:=⋯
section
variable{C:Fc}{r:List Stmt}{K:Sg->Prop}{Kr:AV->Prop}{f:Nat->Nat}
abbrev tN(f:Nat->Nat):AV:=.lst (tA λi=>f i)
theorem aho(F:a7 id C bS)(hk:∀T,dh T->Ys C [("told",tN f),("names",ph),("text",.lst (cp T))] r K Kr):Ys C [("told",tN f)] (aH 2::aH 3::r) K Kr:=by have d:∀{x:Int->Prop} (i:Nat),i<=3->x ((f 0/6^i%6:Nat):Int)->vP (tA λi=>f i) (f 0) 6 6 i x:=λ{x} i hi h=>ahl (b:=6) (c:=6) (bV rfl) ⋯ ((by decide:∀i,i<4->(bk ((6:Nat):Int):Int)*((i:Nat):Int)<=2^27) i (jw hi)) (b9 (nh ⋯ hi) ⋯) ⋯ h;refine Ys.g F (q2.mpr (Ys.g F ((q3 (tA λi=>f i) rfl).mpr ?_)));refine lO ⋯ (lO ⋯ (d 0 ⋯ (d 1 ⋯ (d 2 ⋯ (d 3 ⋯ ?_)))));have h6:∀i,f 0/6^i%6∈au 6:=λi=>List.mem_range.mpr (dr _ ⋯);refine(bJ t3a (h6 0)).mpr ?_;refine(bJ (bJ t3b (h6 0)) (h6 1)).mpr ?_;refine(bJ (bJ (bJ t3c (h6 0)) (h6 1)) (h6 2)).mpr ?_;rw[bJ (bJ (bJ (bJ t3d (h6 0)) (h6 1)) (h6 2)) (h6 3)];have ok:=ahm (bJ (bJ (bJ (bJ ahn (h6 0)) (h6 1)) (h6 2)) (h6 3));generalize pj _ _=T at ok⊢;exact .kW (.cons (.cons (.eH .nil ⋯) ⋯) ⋯) (hk T ok)
end
section
noncomputable def Hj:List AV:=[.tup [.int 0,.int 1,.int 2],.tup [.int 0,.int 2,.int 1],.tup [.int 1,.int 0,.int 2],.tup [.int 1,.int 2,.int 0],.tup [.int 2,.int 0,.int 1],.tup [.int 2,.int 1,.int 0]]
def Hl(t:AV)(T:AV):Sg:=[("told",t),("names",ph),("text",T)]
def QL(t:AV)(T:AV)(tr:AV):Sg:=[("told",t),("names",ph),("text",T),("trio",tr)]
def yv(t:AV)(T:AV)(tr:AV)(wh st tu wd:Int):Sg:=[("told",t),("names",ph),("text",T),("trio",tr),("white",.int wh),("step",.int st),("turns",.int tu),("wide",.int wd)]
section
abbrev iS(a b:Int)(x:Int->Prop):Prop:=gI (b≠0/\ij a b=false) (x (a.fdiv b))
abbrev eV(x y:Int)(p:Prop):Prop:=@gI (eE x y) (by unfold eE;infer_instance) p
theorem q4(t:List AV)(ht:t=[.int a,.int b,.int c,.int d,.int e,.int g]):dP 4 (Hl (.lst t) T) ks kr=xp eM (AN eM bS "trio" (Hl (.lst t) T) ks) Hj (b.fmod 6):=by subst ht;exact⋯
theorem q5(t:List AV)(ht:t=[.int a,.int b,.int c,.int d,.int e,.int g]):dP 5 (QL (.lst t) T tr) ks kr=iS b 6 λx=>iS b 102 λy=>iS b 408 λz=>iS b 1224 λw=>iS b 48960 λv=>gI ((7:Int)≠0/\ij (v.fmod 8) 7=false) (eV ((v.fmod 8).fdiv 7) 450 (ks (yv (.lst t) T tr (x.fmod 17) (y.fmod 4+1) (z.fmod 3) (w.fmod 40+2+(v.fmod 8).fdiv 7*450)))):=by subst ht;exact⋯
end
end
theorem Ys.q{C:Fc}{σ:Sg}{r:List Stmt}{K:Sg->Prop}{Kr:AV->Prop}(j:Nat)(F:a7 id C bS){p:Prop}(e:dP j σ (λσ'=>Ys C σ' r K Kr) Kr=p)(h:p):Ys C σ (aH j::r) K Kr:=Ys.g F (Eq.mpr e h)
theorem Hm{k:AV->Prop}{xs:List AV}{i:Nat}{a:AV}(e:xs[i]?=some a)(h:k a):xp eM k xs (i:Int):=by show ae (decide ((i:Int)<0)) (te (c:=0<=(i:Int)+xs.length) inferInstance (opt False xs[((i:Int)+xs.length).toNat]? k)) (opt False xs[((i:Int)).toNat]? k);rw[decide_eq_false (Int.not_lt.mpr (bA i)),cw,e];exact h
theorem yw{a b:Nat}{x:Int->Prop}(h0:0<b)(hb:b<2^8000)(h:x ((a/b:Nat):Int)):iS a b x:=lO (nN a b h0 hb) (by rw[iP];exact h)
noncomputable def bT(k:Nat):List Nat:=[[0,1,2],[0,2,1],[1,0,2],[1,2,0],[2,0,1],[2,1,0]].getD k []
structure vQ(pr wh st tu wd:Nat):Prop where
 pr:pr<6
 wh:wh<17
 st:1<=st/\st<=4
 tu:tu<3
 wd:(2<=wd/\wd<=41)∨(452<=wd/\wd<=491)
theorem ahp(h:k<6):Hj[k]?=some (.tup (cp (bT k))):=
 six (P:=λk=>Hj[k]?=some (.tup (cp (bT k)))) rfl rfl rfl rfl rfl rfl h
section
variable{K:Sg->Prop}
theorem ahq(F:a7 id C bS)(hk:∀pr wh st tu wd,vQ pr wh st tu wd->Ys C (yv (tN f) T (.tup (cp (bT pr))) wh st tu wd) r K Kr):Ys C (Hl (tN f) T) (aH 4::aH 5::r) K Kr:=by
 refine Ys.q 4 F (q4 (tA λi=>f i) rfl) ?_;dsimp only;have h6:f 1%6<6:=dr _ ⋯;rw[show(6:Int)=((6:Nat):Int)from rfl,gQ];refine Hm (ahp h6) ?_;show Ys C (QL (tN f) T _) _ K Kr;refine Ys.q 5 F (q5 (tA λi=>f i) rfl) ?_;dsimp only;refine yw (b:=6) ⋯ ⋯ (yw (b:=102) ⋯ ⋯ (yw (b:=408) ⋯ ⋯ (yw (b:=1224) ⋯ ⋯ (yw (b:=48960) ⋯ ⋯ ?_))));have h8:f 1/48960%8<8:=dr _ ⋯;rw[show(8:Int)=((8:Nat):Int)from rfl,gQ];generalize f 1/48960%8=v at h8⊢;refine lO (nN v 7 ⋯ ⋯) ?_;rw[show(7:Int)=((7:Nat):Int)from rfl,iP];have h1:v/7<=1:=(aC 0xeb190c8911fc792d1821e079 4821427225126691) h8 (iL 7 _);generalize v/7=u at h1⊢;refine lO ?_ ?_
 ·exact lL (i:=1) (j:=9) (by rw[fQ];exact b9 h1 ⋯) ⋯ ⋯
 ·have:=hk (f 1%6) (f 1/6%17) (f 1/102%4+1) (f 1/408%3) (f 1/1224%40+2+u*450) ⟨h6,dr _ ⋯,⟨by exact ax 3951136793 1122577,by exact(aC 0xeb4981901fc490d2801e149 268517651) (iL 4 _)⟩,dr _ ⋯,by exact(a9 0xe2f1fb1eb3a82e1c23a18290b82e1c23a182901c43a1fb292a82e1c23a18290b82e1c23a1829029b1911fc282a0d3801e2282a 0x10014110001061c23f2112110000000100b1c23f10000161c23f3112111000000001a11000000001a1c23f24) h1 (iL 40 _)⟩
  show Ys C (yv (tN f) T (.tup (cp (bT (f 1%6)))) (((f 1/6:Nat):Int).fmod ((17:Nat):Int)) (((f 1/102:Nat):Int).fmod ((4:Nat):Int)+1) (((f 1/408:Nat):Int).fmod ((3:Nat):Int)) (((f 1/1224:Nat):Int).fmod ((40:Nat):Int)+2+u*450)) r K Kr;rw[gQ,gQ,gQ,gQ];exact this
end
section
def cD(t T tr:AV)(wh st tu wd:Int)(ta ne lu mi:List AV)(e:Sg):Sg:=("told",t)::("names",ph)::("text",T)::("trio",tr)::("white",.int wh)::("step",.int st)::("turns",.int tu)::("wide",.int wd)::("tails",.own ta)::("needs",.own ne)::("lumas",.own lu)::("mixed",.own mi)::e
noncomputable def eX(s:Int)(ty du le:Str)(z:Sg):Sg:=("sign",.int s)::("typed",.str ty)::("due",.str du)::("letters",.str le)::z
noncomputable def dQ(a:AV):Sg:=[("seen",a)]
abbrev P7(j:Nat)(σ:Sg)(k:Sg->Prop)(kr:AV->Prop):Prop:=(bD eM (30-j)).S bS σ ((fY (aH 7)).drop j) k kr
abbrev B7(j:Nat)(σ:Sg)(k:Sg->Prop)(kr:AV->Prop):Prop:=eJ eM (bD eM (29-j)) bS σ ((fY (aH 7)).getD j (.Pass default)) k kr
noncomputable def cG(s:Nat):List Nat:=[[1,0,0],[0,1,0],[0,0,1],[1,1,0],[1,0,1],[0,1,1]].getD s []
def iz(i:Nat):List AV:=(au i).map λs=>.lst (cp (cG s))
noncomputable def lR(x y:Str):Nat:=(alG x y 0 x.length (x.length+1)).length
def Hn(x:Str):Prop:=x.length<=100/\∀c∈x.cps.toList,eQ c=false->(ix.lookup c).isSome=true/\(mp c).length<=100
section
variable{a b c d e g wh st tu wd s' p q:Int}{ta ne lu mi xs:List AV}
theorem q6:dP 6 (yv t T tr wh st tu wd) ks kr=ks (cD t T tr wh st tu wd [] [] [] [] []):=⋯
theorem q7:dP 7 (cD t T tr wh st tu wd [] [] [] [] []) ks kr=LE 7 kr [.int 0,.int 1,.int 2,.int 3,.int 4,.int 5] (cD t T tr wh st tu wd [] [] [] [] []) ks:=⋯
theorem n7:((au 8).map λj=>P7 j σ ks kr)=(au 8).map λj=>B7 j σ (λσ'=>P7 (j+1) σ' ks kr) kr:=⋯
theorem n7e:P7 8 σ ks kr=ks σ:=⋯
theorem t7:([([]:Sg),eX s' ty du le (dQ z')].map λe=>LE 7 kr (.int p::xs) (cD t T tr wh st tu wd ta ne lu mi e) ks)=[([("sign",.int p)]:Sg),eX p ty du le (dQ z')].map λe=>P7 0 (cD t T tr wh st tu wd ta ne lu mi e) (λσ=>LE 7 kr xs σ ks) kr:=⋯
theorem QM(t:List AV)(ht:t=[.int a,.int b,.int c,.int d,.int e,.int g]):((au 6).map λ(s:Nat)=>[([("sign",.int s)]:Sg),eX s ty du le (dQ z')].map λe=>B7 0 (cD (.lst t) T tr wh st tu wd ta ne lu mi e) ks kr)=(au 6).map λ(s:Nat)=>[([]:Sg),("letters",.str le)::dQ z'].map λz=>iS d (16464^s) λi=>(cz s∈jq/\0<=i/\i.toNat<2^300)/\ks (cD (.lst t) T tr wh st tu wd ta ne lu mi (("sign",.int s)::("typed",.str (qL (cz s) i.toNat))::("due",.str (qM (cz s) i.toNat))::z)):=by subst ht;exact⋯
theorem QN:([([]:Sg),("letters",.str le)::dQ z'].map λz=>B7 1 (cD t T tr wh st tu wd ta ne lu mi (("sign",.int p)::("typed",.str x)::("due",.str y)::z)) ks kr)=[([]:Sg),dQ z'].map λz=>(Hn x/\ks (cD t T tr wh st tu wd ta ne lu mi (eX p x y (lN x) z))):=⋯
theorem QO:([([]:Sg),dQ z'].map λz=>B7 2 (cD t T tr wh st tu wd ta ne lu mi (eX s' ty du x z)) ks kr)=[([]:Sg),dQ z'].map λz=>gI (ne.length<=10000000) (ks (cD t T tr wh st tu wd ta (ne++[.lst [.int (lR x ⟨#[107]⟩),.int (lR x ⟨#[109]⟩),.int (lR x ⟨#[98]⟩)]]) lu mi (eX s' ty du x z))):=⋯
def yx(wh st:Int)(pr s k:Nat):Int:=wh+st*((cG s).getD ((bT pr).getD k 0) 0:Nat)
theorem t7d:((au 6).map λ(r:Nat)=>(au 6).map λ(s:Nat)=>[([]:Sg),dQ z'].map λz=>B7 3 (cD t T (.tup (cp (bT r))) wh st tu wd ta (iz (s+1)) lu mi (eX s ty du x z)) ks kr)=(au 6).map λ(r:Nat)=>(au 6).map λ(s:Nat)=>[([]:Sg),dQ z'].map λJ=>eV st ((cG s).getD ((bT r).getD 0 0) 0:Nat) (eV st ((cG s).getD ((bT r).getD 1 0) 0:Nat) (eV st ((cG s).getD ((bT r).getD 2 0) 0:Nat) (vN [.lst [.int (yx wh st r s 0),.int (yx wh st r s 1),.int (yx wh st r s 2)],.int tu] λa=>ks (cD t T (.tup (cp (bT r))) wh st tu wd ta (iz (s+1)) lu mi (eX s ty du x (dQ (eH a))))))):=⋯
theorem t7e:B7 4 (cD t T tr wh st tu wd ta ne lu mi (eX s' ty y x (dQ (.tup [.aG false L,.int p,.int q])))) ks kr=ae (dW (aA x y)) (kr (.bool false)) (ks (cD t T tr wh st tu wd ta ne lu mi (eX s' ty y x (dQ (.tup [.aG false L,.int p,.int q]))))):=⋯
theorem t7f:B7 5 (cD t T tr wh st tu wd ta ne lu mi (eX s' ty y x (dQ z'))) ks kr=gI (ta.length<=10000000) (ks (cD t T tr wh st tu wd (ta++[.str ty]) ne lu mi (eX s' ty y x (dQ z')))):=⋯
theorem t7g:B7 6 (cD t T tr wh st tu wd ta ne lu mi (eX s' ty y x (dQ (.tup [.aG false L,.int p,.int q])))) ks kr=gI (lu.length<=10000000) (ks (cD t T tr wh st tu wd ta ne (lu++[.aG false L]) mi (eX s' ty y x (dQ (.tup [.aG false L,.int p,.int q]))))):=⋯
theorem t7h:B7 7 (cD t T tr wh st tu wd ta ne lu mi (eX s' ty y x (dQ (.tup [.aG false L,.int p,.int q])))) ks kr=iS p q λi=>gI (mi.length<=10000000) (ks (cD t T tr wh st tu wd ta ne lu (mi++[.int (i.fmod 2)]) (eX s' ty y x (dQ (.tup [.aG false L,.int p,.int q]))))):=⋯
end
end
structure Bx(p:Prop):Prop where
 x:p
theorem Bx.of{a b:Prop}(e:a=b)(h:Bx b):Bx a:=e▸h
theorem Bx.g{c:Prop}{d:Decidable c}{x:Prop}(q:c)(h:Bx x):Bx (te d x):=⟨lO q h.x⟩
theorem Bx.a{c x:Prop}(q:c)(h:Bx x):Bx (c/\x):=⟨q,h.x⟩
def bf(d s:Nat):Str:=qL (cz s) (d/16464^s)
noncomputable def gi(s:Nat):Nat:=[0,0,0,1,1,1].getD s 0
def bH(wh st pr s k:Nat):Nat:=wh+st*(cG s).getD ((bT pr).getD k 0) 0
def nO(pr wh st s:Nat):Nat:=nJ (bH wh st pr s 0) (bH wh st pr s 1) (bH wh st pr s 2)
structure BY(d pr wh st s:Nat):Prop where
 ok:Hn (bf d s)
 pk:qM (cz s) (d/16464^s)=lN (bf d s)
 cnt:lR (lN (bf d s)) ⟨#[107]⟩=(cG s).getD 0 0/\lR (lN (bf d s)) ⟨#[109]⟩=(cG s).getD 1 0/\lR (lN (bf d s)) ⟨#[98]⟩=(cG s).getD 2 0
 li:kP (bH wh st pr s 0) (bH wh st pr s 1) (bH wh st pr s 2)
 QP:0<ia (bH wh st pr s 0) (bH wh st pr s 1) (bH wh st pr s 2)/\ia (bH wh st pr s 0) (bH wh st pr s 1) (bH wh st pr s 2)<2^8000
 mix:nK (bH wh st pr s 0) (bH wh st pr s 1) (bH wh st pr s 2)/ia (bH wh st pr s 0) (bH wh st pr s 1) (bH wh st pr s 2)%2=gi s
theorem gE{α:Type}{a b c d:α}(h:[a,b]=[c,d]):a=c:=(ju h).1
theorem gj{α:Type}{a b c d:α}(h:[a,b]=[c,d]):b=d:=(ju (ju h).2).1
def yy(d i:Nat):List AV:=(au i).map λs=>.str (bf d s)
def yz(pr wh st i:Nat):List AV:=(au i).map λs=>.aG false (nO pr wh st s)
def fC(i:Nat):List AV:=(au i).map λs=>.int (gi s:Nat)
theorem BZ{α:Type}(f:Nat->α)(i:Nat):(au i).map f++[f i]=(au (i+1)).map f:=by rw[I9,nW];rfl
theorem ahx(hs:s<6):iz s++[.lst [.int ((cG s).getD 0 0:Nat),.int ((cG s).getD 1 0:Nat),.int ((cG s).getD 2 0:Nat)]]=iz (s+1):=
 six (P:=λs=>iz s++[.lst [.int ((cG s).getD 0 0:Nat),.int ((cG s).getD 1 0:Nat),.int ((cG s).getD 2 0:Nat)]]=iz (s+1)) rfl rfl rfl rfl rfl rfl hs
section
variable{pr wh st tu s:Nat}
theorem qO(h:j<8)(x:Bx (B7 j σ (λσ'=>P7 (j+1) σ' ks kr) kr)):Bx (P7 j σ ks kr):=⟨Eq.mpr (bJ n7 (List.mem_range.mpr h)) x.x⟩
abbrev tr(pr:Nat):AV:=.tup (cp (bT pr))
theorem u7c(t tr:AV)(wh st tu wd:Int)(ta ne lu mi:List AV)(s':Int)(ty du x:Str){z:Sg}(hz:z=[]∨∃a,z=dQ a)(hn:ne.length<=10000000)(h:Bx (ks (cD t T tr wh st tu wd ta (ne++[.lst [.int (lR x ⟨#[107]⟩),.int (lR x ⟨#[109]⟩),.int (lR x ⟨#[98]⟩)]]) lu mi (eX s' ty du x z)))):Bx (B7 2 (cD t T tr wh st tu wd ta ne lu mi (eX s' ty du x z)) ks kr):=by
 rcases hz with rfl|⟨a,rfl⟩
 ·exact .of (gE (QO (z':=.none))) (.g hn h)
 ·exact .of (gj (QO (z':=a))) (.g hn h)
noncomputable abbrev eS(p:Int):Sg:=[("sign",.int p)]
abbrev zL(le:Str)(a:AV):Sg:=("letters",.str le)::dQ a
noncomputable abbrev eT(p:Int)(x y:Str)(z:Sg):Sg:=("sign",.int p)::("typed",.str x)::("due",.str y)::z
inductive Fm(s':Int):Sg->Prop
 |one:Fm s' []|two (ty du le:Str) (a:AV):Fm s' (eX s' ty du le (dQ a))
theorem u7{e:Sg}{s':Int}(he:Fm s' e)(t tr:AV)(wh st tu wd:Int)(ta ne lu mi:List AV)(p:Int)(h:∀e,(e=eS p∨∃ty du le a,e=eX p ty du le (dQ a))->Bx (P7 0 (cD t T tr wh st tu wd ta ne lu mi e) (λσ=>LE 7 kr xs σ ks) kr)):Bx (LE 7 kr (.int p::xs) (cD t T tr wh st tu wd ta ne lu mi e) ks):=by
 cases he with|one=>exact .of (gE (t7 (s':=0) (ty:="") (du:="") (le:="") (z':=.none))) (h _ (.inl rfl))|two ty du le a=>exact .of (gj t7) (h _ (.inr ⟨_,_,_,_,rfl⟩))
theorem u7a{e:Sg}(hs:s<6)(he:e=eS s∨∃ty du le a,e=eX s ty du le (dQ a))(tr:AV)(wh st tu wd:Int)(ta ne lu mi:List AV)(hd:f 3<2^110) (h:∀z,(z=[]∨∃le a,z=zL le a)->Bx (ks (cD (tN f) T tr wh st tu wd ta ne lu mi (eT s (bf (f 3) s) (qM (cz s) (f 3/16464^s)) z)))):Bx (B7 0 (cD (tN f) T tr wh st tu wd ta ne lu mi e) ks kr):=by
 have m:=List.mem_range.mpr hs;have hn:cz s∈jq:=(by decide:∀s,s<6->cz s∈jq) s hs;have pw:((16464:Int)^s)=((16464^s:Nat):Int):=by rw[y2];rfl
 have p8:16464^s<2^8000:=b9 (nh ⋯ (dw hs)) ⋯;have i3:f 3/16464^s<2^300:=b9 (Nat.div_le_self _ _) (jU hd (jv ⋯ ⋯));have fin:∀z,(z=[]∨∃le a,z=zL le a)->Bx (iS (f 3:Int) (16464^s) λi=>(cz s∈jq/\0<=i/\i.toNat<2^300)/\ks (cD (tN f) T tr wh st tu wd ta ne lu mi (eT s (qL (cz s) i.toNat) (qM (cz s) i.toNat) z))):=λz hz=>by rw[pw];refine .g (nN _ _ (Dm ⋯) p8) ?_;rw[iP];exact Bx.a (c:=cz s∈jq/\0<=((f 3/16464^s:Nat):Int)/\((f 3/16464^s:Nat):Int).toNat<2^300) ⟨hn,bA _,i3⟩ (h z hz)
 rcases he with rfl|⟨ty,du,le,a,rfl⟩
 ·exact .of (gE (bJ (QM (ty:="") (du:="") (le:="") (z':=.none) (tA λi=>f i) rfl) m)) (fin _ (.inl rfl))
 ·exact .of (gj (bJ (QM (ty:=ty) (du:=du) (le:=le) (z':=a) (tA λi=>f i) rfl) m)) (fin _ (.inr ⟨le,a,rfl⟩))
theorem u7b{z:Sg}(hz:z=[]∨∃le a,z=zL le a)(t tr:AV)(wh st tu wd:Int)(ta ne lu mi:List AV)(p:Int)(x y:Str)(ok:Hn x)(h:∀z,(z=[]∨∃a,z=dQ a)->Bx (ks (cD t T tr wh st tu wd ta ne lu mi (eX p x y (lN x) z)))):Bx (B7 1 (cD t T tr wh st tu wd ta ne lu mi (eT p x y z)) ks kr):=by
 rcases hz with rfl|⟨le,a,rfl⟩
 ·exact .of (gE (QN (le:="") (z':=.none))) (.a ok (h _ (.inl rfl)))
 ·exact .of (gj (QN (le:=le) (z':=a))) (.a ok (h _ (.inr ⟨a,rfl⟩)))
end
section
variable{f:Nat->Nat}{T:AV}{pr wh st tu s:Nat}{xs ta lu mi:List AV}
theorem ahB(r g b t:Int):vN [.lst [.int r,.int g,.int b],.int t] k=(((AV.lst [.int r,.int g,.int b])=.lst [.int r,.int g,.int b]/\(0<=r/\0<=g/\0<=b/\0<=t)/\kP r.toNat g.toNat b.toNat/\t.toNat<=2)/\k (.tup [.aG false (nJ r.toNat g.toNat b.toNat),.int (nK r.toNat g.toNat b.toNat:Nat),.int (ia r.toNat g.toNat b.toNat:Nat)])):=⋯
theorem ahC{r g b t:Nat}(l:kP r g b)(ht:t<=2)(h:Bx (k (.tup [.aG false (nJ r g b),.int (nK r g b:Nat),.int (ia r g b:Nat)]))):Bx (vN [.lst [.int r,.int g,.int b],.int t] k):=
 .of (ahB r g b t) (.a ⟨rfl,⟨bA _,bA _,bA _,bA _⟩,l,ht⟩ h)
theorem Ho(k:Nat):yx wh st pr s k=(bH wh st pr s k:Nat):=by unfold yx bH;rw[og,gZ]
theorem B0(hs:s<6)(k:Nat):(cG s).getD k 0<=1:=
 G4 (P:=λk=>∀s,s<6->(cG s).getD k 0<=1) ⋯ ⋯ ⋯ (λk s h=>six (P:=λs=>(cG s).getD (k+3) 0<=1) (fP _) (fP _) (fP _) (fP _) (fP _) (fP _) h) k s hs
abbrev vS(pr wh st s:Nat):AV:=.tup [.aG false (nO pr wh st s),.int (nK (bH wh st pr s 0) (bH wh st pr s 1) (bH wh st pr s 2):Nat),.int (ia (bH wh st pr s 0) (bH wh st pr s 1) (bH wh st pr s 2):Nat)]
theorem u7d{z:Sg}(hp:pr<6)(hs:s<6)(gg:st<=4)(hz:z=[]∨∃a,z=dQ a)(t:AV)(ht:tu<=2)(l:kP (bH wh st pr s 0) (bH wh st pr s 1) (bH wh st pr s 2)) (h:Bx (ks (cD t T (tr pr) wh st tu wd ta (iz (s+1)) lu mi (eX s ty y x (dQ (vS pr wh st s)))))):Bx (B7 3 (cD t T (tr pr) wh st tu wd ta (iz (s+1)) lu mi (eX s ty y x z)) ks kr):=by
 have ml:∀k,eE (st:Int) ((cG s).getD ((bT pr).getD k 0) 0:Nat):=λk=>lL (i:=3) (j:=1) (by rw[fQ];exact b9 gg ⋯) (by rw[fQ];exact b9 (B0 hs _) ⋯) ⋯;have fin:=Bx.g (d:=by unfold eE;infer_instance) (ml 0) (.g (d:=by unfold eE;infer_instance) (ml 1) (.g (d:=by unfold eE;infer_instance) (ml 2) (ahC l ht (k:=λa=>ks (cD t T (tr pr) wh st tu wd ta (iz (s+1)) lu mi (eX s ty y x (dQ (eH a))))) h)));rw[<-Ho,<-Ho,<-Ho]at fin;have q:=λz'=>bJ (bJ (t7d (t:=t) (T:=T) (wh:=wh) (st:=st) (tu:=tu) (wd:=wd) (ta:=ta) (lu:=lu) (mi:=mi) (ty:=ty) (du:=y) (x:=x) (z':=z') (ks:=ks) (kr:=kr)) (List.mem_range.mpr hp)) (List.mem_range.mpr hs);rcases hz with rfl|⟨a,rfl⟩
 ·exact .of (gE (q .none)) fin
 ·exact .of (gj (q a)) fin
theorem u7e(t tr ne':AV){wh st tu p q s':Int}{ne:List AV}(h:Bx (ks (cD t T tr wh st tu wd ta ne lu mi (eX s' ty x x (dQ (.tup [.aG false L,.int p,.int q])))))):Bx (B7 4 (cD t T tr wh st tu wd ta ne lu mi (eX s' ty x x (dQ (.tup [.aG false L,.int p,.int q])))) ks kr):=.of t7e (by rw[jZ];exact h)
end
section
variable{f:Nat->Nat}{T:AV}{pr wh st tu s:Nat}{wd:Int}{xs:List AV}{ks:Sg->Prop}{kr:AV->Prop}
theorem ahF(d s:Nat):yy d s++[.str (bf d s)]=yy d (s+1):=BZ _ _
theorem ahG(pr wh st s:Nat):yz pr wh st s++[.aG false (nO pr wh st s)]=yz pr wh st (s+1):=BZ _ _
theorem ahH(s:Nat):fC s++[.int (gi s:Nat)]=fC (s+1):=BZ _ _
theorem vT(hp:pr<6)(hs:s<6)(gg:st<=4)(ht:tu<=2)(hd:f 3<2^110)(O:BY (f 3) pr wh st s){e:Sg}{s':Int}(he:Fm s' e) (h:∀e,Fm s e->Bx (LE 7 kr xs (cD (tN f) T (tr pr) wh st tu wd (yy (f 3) (s+1)) (iz (s+1)) (yz pr wh st (s+1)) (fC (s+1)) e) ks)):Bx (LE 7 kr (.int s::xs) (cD (tN f) T (tr pr) wh st tu wd (yy (f 3) s) (iz s) (yz pr wh st s) (fC s) e) ks):=by
 have hl:∀(g:Nat->AV),((au s).map g).length<=10000000:=λg=>by rw[bB,gH];exact az (dw hs) ⋯
 refine u7 he _ _ _ _ _ _ _ _ _ _ _ λe he=>qO ⋯ ?_;refine u7a hs he _ _ _ _ _ _ _ _ _ hd λz hz=>qO ⋯ ?_;refine u7b hz _ _ _ _ _ _ _ _ _ _ _ _ _ O.ok λz hz=>qO ⋯ ?_;refine u7c _ _ _ _ _ _ _ _ _ _ _ _ _ _ hz (hl _) ?_;rw[O.cnt.1,O.cnt.2.1,O.cnt.2.2,ahx hs,O.pk];refine qO ⋯ (u7d hp hs gg hz _ ht O.li (qO ⋯ (u7e _ _ .none (qO ⋯ ?_))));refine .of t7f (.g (hl _) (qO ⋯ ?_));refine .of t7g (.g (hl _) (qO ⋯ ?_));refine .of t7h (.g (nN _ _ O.QP.1 O.QP.2) (.g (hl _) ?_));rw[iP,show(2:Int)=((2:Nat):Int)from rfl,gQ,O.mix,ahF,ahG,ahH];refine .of n7e ?_;exact h _ (.two _ _ _ _)
end
section
variable{C:Fc}{r:List Stmt}{K:Sg->Prop}{Kr:AV->Prop}{f:Nat->Nat}{T:AV}{pr wh st tu:Nat}{wd:Int}
def Hp(t T tr:AV)(wh st tu wd:Int)(ta ne lu mi:List AV):Sg:=[("told",t),("names",ph),("text",T),("trio",tr),("white",.int wh),("step",.int st),("turns",.int tu),("wide",.int wd),("tails",.lst ta),("needs",.lst ne),("lumas",.lst lu),("mixed",.lst mi)]
theorem ahI(F:a7 id C bS)(hp:pr<6)(gg:st<=4)(ht:tu<=2)(hd:f 3<2^110)(O:∀s,s<6->BY (f 3) pr wh st s)(hk:Ys C (Hp (tN f) T (tr pr) wh st tu wd (yy (f 3) 6) (iz 6) (yz pr wh st 6) (fC 6)) r K Kr):Ys C (yv (tN f) T (tr pr) wh st tu wd) (aH 6::aH 7::r) K Kr:=by refine Ys.q 6 F q6 (Ys.q 7 F q7 (Bx.x ?_));refine vT (s:=0) (s':=0) hp ⋯ gg ht hd (O 0 ⋯) .one λe he=>?_;refine vT (s:=1) hp ⋯ gg ht hd (O 1 ⋯) he λe he=>?_;refine vT (s:=2) hp ⋯ gg ht hd (O 2 ⋯) he λe he=>?_;refine vT (s:=3) hp ⋯ gg ht hd (O 3 ⋯) he λe he=>?_;refine vT (s:=4) hp ⋯ gg ht hd (O 4 ⋯) he λe he=>?_;refine vT (s:=5) hp ⋯ gg ht hd (O 5 ⋯) he λe he=>?_;refine⟨Ys.kW ?_ hk⟩;exact .cons (.cons (.cons (.cons (.cons (.cons (.cons (.cons (.eH (.eH (.eH (.eH .nil ⋯) ⋯) ⋯) ⋯) ⋯) ⋯) ⋯) ⋯) ⋯) ⋯) ⋯) ⋯
end
def LL(k n:Nat):List (List Nat):=n.rec [[]] λJ r=>(au k).flatMap λa=>r.map (a::·)
theorem QQ(k)(T:List Nat):(∀s∈T,s<k)->T∈LL k T.length:=by
 induction T with|nil=>exact λJ=>.head _|cons a T ih=>exact λh=>List.mem_flatMap.mpr ⟨a,List.mem_range.mpr (h a (.head _)),List.mem_map.mpr ⟨T,ih λs m=>h s (.tail _ m),rfl⟩⟩
def TL:List (List Nat):=LL 6 1++(LL 6 2++(LL 6 3++LL 3 4))
theorem Hq(h:s<6):1<=(cz s).length/\(3<=s->2<=(cz s).length):=
 (by decide:∀s,s<6->1<=(cz s).length/\(3<=s->2<=(cz s).length)) s h
theorem ahJ(T:List Nat):(∀s∈T,s<6)->T.length<=(T.map λs=>(cz s).length).sum/\((T.map λs=>(cz s).length).sum<=T.length->∀s∈T,s<3):=by
 induction T with|nil=>exact λJ=>⟨aQ 0,λJ s m=>nomatch m⟩|cons a T ih=>intro h;have⟨i,j⟩:=ih λs m=>h s (.tail _ m);have⟨p,q⟩:=Hq (h a (.head _));rw[gm,ni,bP];generalize (T.map λs=>(cz s).length).sum=S at*;exact⟨by exact(aC 0xeb8218190b119b20 17903891) p i,λl=>List.forall_mem_cons.mpr ⟨by exact(a9 0xec3903fb129b039b32b8192831 300184140587284) q i l,j ((aC 0xeb10b219b8191802 17903891) p l)⟩⟩
theorem qP(h:dh T):T∈TL:=by
 have⟨i,j⟩:=ahJ T h.lt;have sm:=Jd h.sum;have ne:=h.ne;have m:=QQ 6 T h.lt;have m':=λx=>QQ 3 T (j x);generalize T.length=n at*
 match n with|0=>exact absurd (List.mem_singleton.mp m) ne|1=>exact CS _ m|2=>exact tU _ (CS _ m)|3=>exact tU _ (tU _ (CS _ m))|4=>exact tU _ (tU _ (tU _ (m' sm)))|n+5=>exact absurd (az i sm) (Nat.not_le_of_lt (bV rfl:4<n+5))
def gR(T:List Nat):List Nat:=(au 3).map λk=>(T.map λs=>(cG s).getD k 0).sum
section
def gk(t T tr:AV)(wh st tu wd:Int)(ta ne lu mi:List AV)(ct:AV):Sg:=[("told",t),("names",ph),("text",T),("trio",tr),("white",.int wh),("step",.int st),("turns",.int tu),("wide",.int wd),("tails",.lst ta),("needs",.lst ne),("lumas",.lst lu),("mixed",.lst mi),("counts",ct)]
section
variable{t T tr:AV}{wh st tu wd:Int}{ta ne lu mi:List AV}
theorem q8:(TL.map λT=>dP 8 (Hp t (.lst (cp T)) tr wh st tu wd ta (iz 6) lu mi) ks kr)=TL.map λT=>ks (gk t (.lst (cp T)) tr wh st tu wd ta (iz 6) lu mi (.lst (cp (gR T)))):=⋯
end
end
def j9(wh st:Int)(c:List Int)(r k:Nat):Int:=wh+st*c.getD ((bT r).getD k 0) 0
section
section
variable{t T:AV}{wh st tu wd:Int}{ta ne lu mi:List AV}{ks:Sg->Prop}{kr:AV->Prop}{c₀ c₁ c₂:Int}
theorem q9:((au 6).map λr=>dP 9 (gk t T (.tup (cp (bT r))) wh st tu wd ta ne lu mi (.lst [.int c₀,.int c₁,.int c₂])) ks kr)=(au 6).map λr=>eV st ([c₀,c₁,c₂].getD ((bT r).getD 0 0) 0) (eV st ([c₀,c₁,c₂].getD ((bT r).getD 1 0) 0) (eV st ([c₀,c₁,c₂].getD ((bT r).getD 2 0) 0) (((AV.lst [.int (j9 wh st [c₀,c₁,c₂] r 0),.int (j9 wh st [c₀,c₁,c₂] r 1),.int (j9 wh st [c₀,c₁,c₂] r 2)])=.lst [.int (j9 wh st [c₀,c₁,c₂] r 0),.int (j9 wh st [c₀,c₁,c₂] r 1),.int (j9 wh st [c₀,c₁,c₂] r 2)]/\(0<=j9 wh st [c₀,c₁,c₂] r 0/\0<=j9 wh st [c₀,c₁,c₂] r 1/\0<=j9 wh st [c₀,c₁,c₂] r 2/\0<=tu)/\kP (j9 wh st [c₀,c₁,c₂] r 0).toNat (j9 wh st [c₀,c₁,c₂] r 1).toNat (j9 wh st [c₀,c₁,c₂] r 2).toNat/\tu.toNat<=2)/\ks (gk t T (.tup (cp (bT r))) wh st tu wd ta ne lu mi (.lst [.int c₀,.int c₁,.int c₂]))))):=⋯
end
end
def qQ(wh st pr:Nat)(v:List Nat)(k:Nat):Nat:=wh+st*v.getD ((bT pr).getD k 0) 0
section
variable{C:Fc}{r:List Stmt}{K:Sg->Prop}{Kr:AV->Prop}{t:AV}{wh st tu pr:Nat}{wd:Int}{ta lu mi:List AV}{T:List Nat}
theorem ahK(F:a7 id C bS)(hT:dh T)(hp:pr<6)(gg:st<=4)(ht:tu<=2)(hc:∀k,(gR T).getD k 0<=4)(O:kP (qQ wh st pr (gR T) 0) (qQ wh st pr (gR T) 1) (qQ wh st pr (gR T) 2))(hk:Ys C (gk t (.lst (cp T)) (tr pr) wh st tu wd ta (iz 6) lu mi (.lst (cp (gR T)))) r K Kr):Ys C (Hp t (.lst (cp T)) (tr pr) wh st tu wd ta (iz 6) lu mi) (aH 8::aH 9::r) K Kr:=by
 refine Ys.q 8 F (bJ q8 (qP hT)) ?_;obtain⟨a,b,c,e⟩:∃a b c,gR T=[a,b,c]:=⟨_,_,_,rfl⟩
 rw[e]at hc O hk⊢;have is:∀k,j9 (wh:Int) (st:Int) [(a:Int),(b:Int),(c:Int)] pr k=(qQ wh st pr [a,b,c] k:Nat):=λk=>by
  unfold j9 qQ;rw[og,gZ]
  match(bT pr).getD k 0 with|0|1|2=>rfl|n+3=>rfl
 have ml:∀k,eE (st:Int) ([(a:Int),(b:Int),(c:Int)].getD k 0):=λk=>by
  have:[(a:Int),(b:Int),(c:Int)].getD k 0=(([a,b,c].getD k 0:Nat):Int):=match k with|0|1|2=>rfl|n+3=>rfl
  rw[this];exact lL (i:=3) (j:=3) (by rw[fQ];exact b9 gg ⋯) (by rw[fQ];exact b9 (hc _) ⋯) ⋯
 refine Ys.q 9 F (bJ q9 (List.mem_range.mpr hp)) (Bx.x (.g (d:=by unfold eE;infer_instance) (ml _) (.g (d:=by unfold eE;infer_instance) (ml _) (.g (d:=by unfold eE;infer_instance) (ml _) (.a ?_ ⟨hk⟩)))));rw[is,is,is];exact⟨rfl,⟨bA _,bA _,bA _,bA _⟩,O,ht⟩
end
def dE(pr s:Nat):Nat:=2*(cG s).getD ((bT pr).getD 0 0) 0+4*(cG s).getD ((bT pr).getD 1 0) 0+(cG s).getD ((bT pr).getD 2 0) 0
section
noncomputable def iA(L:Nat->Nat):List AV:=[.aG false (L 0),.aG false (L 1),.aG false (L 2),.aG false (L 3),.aG false (L 4),.aG false (L 5)]
abbrev yA:ab:=jk (aH 10) 0
abbrev QR:ab:=sV yA [0]
def nP(L:Nat->Nat)(up low:Nat):Nat:=ae (fS false (L up) false (L low)) 1 (ae (aS up low) (ae (aS (gi up) 0) 1 2) 2)
abbrev qR(up:Nat)(σ:Sg)(xs:List AV)(k:List AV->Prop):Prop:=runC eM 28 (sD bS (sW yA).names) QR (iq (sW QR).names (bR "up" (.int up) (iq (sW yA).names σ))) xs k
section
variable{t T ct tr:AV}{wh st tu wd:Int}{ta ne xs:List AV}
theorem t10:((au 6).map λup=>(au 6).map λ(low:Nat)=>qR up (gk t T tr wh st tu wd ta ne (iA L) (fC 6) ct) (.int low::xs) k)=(au 6).map λup=>(au 6).map λ(low:Nat)=>ae (fS false (L up) false (L low)) (qR up (gk t T tr wh st tu wd ta ne (iA L) (fC 6) ct) xs λvs=>k (.int 1::vs)) (qR up (gk t T tr wh st tu wd ta ne (iA L) (fC 6) ct) xs λvs=>k (.int (ae (aS up low) (ae (aS (gi up) 0) 1 2) 2:Nat)::vs)):=⋯
end
end
section
noncomputable abbrev B1:List AV:=[.int 0,.int 1,.int 2,.int 3,.int 4,.int 5]
abbrev vU(σ:Sg)(xs:List AV)(k:List AV->Prop):Prop:=runC eM 29 bS yA (iq (sW yA).names σ) xs k
section
variable{t T ct tr:AV}{wh st tu wd:Int}{ta ne xs:List AV}
theorem u10:dP 10 (gk t T tr wh st tu wd ta ne (iA L) (fC 6) ct) ks kr=vU (gk t T tr wh st tu wd ta ne (iA L) (fC 6) ct) B1 (λvs=>ks (gk t T tr wh st tu wd ta ne (iA L) (fC 6) ct++([("gaps",.own vs)]:Sg))):=⋯
theorem v10:((au 6).map λ(up:Nat)=>vU (gk t T tr wh st tu wd ta ne (iA L) (fC 6) ct) (.int up::xs) k)=(au 6).map λup=>qR up (gk t T tr wh st tu wd ta ne (iA L) (fC 6) ct) B1 (λvs=>vU (gk t T tr wh st tu wd ta ne (iA L) (fC 6) ct) xs λws=>k (.lst vs::ws)):=⋯
end
end
section
variable{t T ct tr:AV}{wh st tu wd:Int}{ta ne xs:List AV}{k:List AV->Prop}{L:Nat->Nat}{ks:Sg->Prop}{kr:AV->Prop}{up low:Nat}
theorem vV(hu:up<6)(hl:low<6)(h:Bx (qR up (gk t T tr wh st tu wd ta ne (iA L) (fC 6) ct) xs λvs=>k (.int (nP L up low:Nat)::vs))):Bx (qR up (gk t T tr wh st tu wd ta ne (iA L) (fC 6) ct) (.int low::xs) k):=by
 refine .of (bJ (bJ t10 (List.mem_range.mpr hu)) (List.mem_range.mpr hl)) ?_;unfold nP at h;cases e:fS false (L up) false (L low)with|true=>rw[e]at h;exact h|false=>rw[e]at h;exact h
theorem ahN(h:Bx (k [])):Bx (qR up (gk t T tr wh st tu wd ta ne (iA L) (fC 6) ct) [] k):=h
def Hr(L:Nat->Nat):List AV:=(au 6).map λup=>.lst ((au 6).map λlow=>.int (nP L up low:Nat))
theorem ahO(hu:up<6)(h:Bx (k ((au 6).map λlow=>.int (nP L up low:Nat)))):Bx (qR up (gk t T tr wh st tu wd ta ne (iA L) (fC 6) ct) B1 k):=
 vV (low:=0) hu ⋯ (vV (low:=1) hu ⋯ (vV (low:=2) hu ⋯ (vV (low:=3) hu ⋯ (vV (low:=4) hu ⋯ (vV (low:=5) hu ⋯ (ahN h))))))
end
section
variable{t T ct tr:AV}{wh st tu wd:Int}{ta ne xs:List AV}{k:List AV->Prop}{L:Nat->Nat}{up:Nat}
theorem vW(hu:up<6)(h:Bx (vU (gk t T tr wh st tu wd ta ne (iA L) (fC 6) ct) xs λws=>k (.lst ((au 6).map λlow=>.int (nP L up low:Nat))::ws))):Bx (vU (gk t T tr wh st tu wd ta ne (iA L) (fC 6) ct) (.int up::xs) k):=
 .of (bJ v10 (List.mem_range.mpr hu)) (ahO hu h)
theorem ahP(h:Bx (k (Hr L))):Bx (vU (gk t T tr wh st tu wd ta ne (iA L) (fC 6) ct) B1 k):=
 vW (up:=0) ⋯ (vW (up:=1) ⋯ (vW (up:=2) ⋯ (vW (up:=3) ⋯ (vW (up:=4) ⋯ (vW (up:=5) ⋯ h)))))
end
section
variable{C:Fc}{r:List Stmt}{K:Sg->Prop}{Kr:AV->Prop}{t T ct tr:AV}{wh st tu wd:Int}{ta ne:List AV}{L:Nat->Nat}
theorem ahQ(F:a7 id C bS)(hk:Ys C (gk t T tr wh st tu wd ta ne (iA L) (fC 6) ct++([("gaps",.own (Hr L))]:Sg)) r K Kr):Ys C (gk t T tr wh st tu wd ta ne (iA L) (fC 6) ct) (aH 10::r) K Kr:=Ys.q 10 F u10 (ahP ⟨hk⟩).x
end
section
def iB(t T tr:AV)(wd:Int)(ta:List AV)(ct:AV)(ga:List AV)(e:Sg):Sg:=("told",t)::("names",ph)::("text",T)::("trio",tr)::("wide",.int wd)::("tails",.lst ta)::("needs",.lst (iz 6))::("mixed",.lst (fC 6))::("counts",ct)::("gaps",.own ga)::e
abbrev OC(j:Nat)(σ:Sg)(xs:List AV)(k:List AV->Prop):Prop:=runC eM 29 bS (jk (aH j) 0) (iq (sW (jk (aH j) 0)).names σ) xs k
noncomputable def Hs:List AV:=[.str "\n",.str "\r",.str "\r\n"]
noncomputable def B3(n:Nat):List AV:=(au n).map λ(p:Nat)=>.int p
noncomputable def eY(n:Nat)(z:Nat->Str):List AV:=(au n).map λs=>.str (z s)
noncomputable def ahR(n:Nat)(z:Nat->Nat):List AV:=(au n).map λs=>.int (z s:Nat)
section
variable{a b c d e g wd:Int}{t T tr ct en mo:AV}{ta ga xs:List AV}{ks:Sg->Prop}{kr:AV->Prop}{l ti:Str}
theorem u11:dP 11 (iB t T tr wd ta ct ga []) ks kr=OC 11 (iB t T tr wd ta ct ga []) (B3 5) (λvs=>ks (iB t T tr wd ta ct ga [("ends",.lst vs)])):=⋯
theorem t11(t:List AV)(ht:t=[.int a,.int b,.int c,.int d,.int e,.int g]):((au 5).map λ(p:Nat)=>OC 11 (iB (.lst t) T tr wd ta ct ga []) (.int p::xs) k)=(au 5).map λ(p:Nat)=>iS e (3^p) λy=>xp eM (vk (MK eM (OC 11 (iB (.lst t) T tr wd ta ct ga []) xs) k)) Hs (y.fmod 3):=by subst ht;exact⋯
theorem u12:dP 12 (iB t T tr wd ta ct ga [("ends",en)]) ks kr=OC 12 (iB t T tr wd ta ct ga [("ends",en)]) (B3 4) (λvs=>ks (iB t T tr wd ta ct ga [("ends",en),("more",.lst vs)])):=⋯
theorem t12(t:List AV)(ht:t=[.int a,.int b,.int c,.int d,.int e,.int g]):((au 4).map λ(p:Nat)=>OC 12 (iB (.lst t) T tr wd ta ct ga [("ends",en)]) (.int p::xs) k)=(au 4).map λ(p:Nat)=>iS c (3^p) λy=>OC 12 (iB (.lst t) T tr wd ta ct ga [("ends",en)]) xs λvs=>k (.int (y.fmod 3)::vs):=by subst ht;exact⋯
theorem pU(t:List AV)(ht:t=[.int a,.int b,.int c,.int d,.int e,.int g]):(TL.map λT=>dP 13 (iB (.lst t) (.lst (cp T)) tr wd (eY 6 y) ct ga [("ends",en),("more",mo)]) ks kr)=TL.map λT=>iS e 243 λx=>gI (gJ "."<=100/\0<=x.fmod 2/\x.fmod 2<=100000) (gI (((T.map y).map λx=>gJ x).sum+(T.map y).length*gJ "."<=16777216) (ks (iB (.lst t) (.lst (cp T)) tr wd (eY 6 y) ct ga [("ends",en),("more",mo),("lead",.str (cZ "." (x.fmod 2))),("title",.str (cA "." (T.map y)))]))):=by subst ht;exact⋯
theorem pV:dP 14 (iB t T tr wd ta ct ga [("ends",.lst (eY 5 z)),("more",mo),("lead",.str l),("title",.str ti)]) ks kr=gI (l.length+ti.length<=sizeLine) (gI ((z 4).length<=100/\(0:Int)<=2/\(2:Int)<=100000) (gI ((l++ti).length+(cZ (z 4) 2).length<=sizeLine) (ks (iB t T tr wd ta ct ga [("ends",.lst (eY 5 z)),("more",mo),("lead",.str l),("title",.str ti),("mail",.str (l++ti++cZ (z 4) 2)),("rows",.own []),("number",.int 0)])))):=⋯
end
end
theorem yB{α:Type}{O:List AV->(List AV->Prop)->Prop}{g f:α->AV}(h0:∀k,O [] k=k []):∀(l:List α) (k:List AV->Prop),(∀a∈l,∀xs k,Bx (O xs λvs=>k (f a::vs))->Bx (O (g a::xs) k))->Bx (k (l.map f))->Bx (O (l.map g) k)|[],k,_,h=>.of (h0 k) h|a::r,k,ht,h=>ht a aK _ _ (yB h0 r _ (λb m=>ht b (aY _ m)) h)
noncomputable def gF(e k:Nat):Str:=[("\n":Str),"\r","\r\n"].getD (e/3^k%3) ""
noncomputable def ka(c k:Nat):Nat:=c/3^k%3
def kX(e:Nat):Str:=cZ "." ((e/243%2:Nat):Int)
def iC(d:Nat)(T:List Nat):Str:=cA "." (T.map (bf d))
def tB(d e:Nat)(T:List Nat):Str:=kX e++iC d T++cZ (gF e 4) 2
theorem ahW(h:k<3):Hs[k]?=some (.str ([("\n":Str),"\r","\r\n"].getD k "")):=
 BU (P:=λk=>Hs[k]?=some (.str ([("\n":Str),"\r","\r\n"].getD k ""))) rfl rfl rfl h
section
variable{C:Fc}{r:List Stmt}{K:Sg->Prop}{Kr:AV->Prop}{f:Nat->Nat}{T:List Nat}{tr ct:AV}{wd:Int}{ga:List AV}
theorem ahX(F:a7 id C bS)(hT:dh T)(h1:((T.map (bf (f 3))).map λx=>gJ x).sum+(T.map (bf (f 3))).length*gJ "."<=16777216)(h2:(kX (f 4)).length+(iC (f 3) T).length<=10000)(h3:∀k,(gF (f 4) k).length<=100)(h4:(kX (f 4)++iC (f 3) T).length+(cZ (gF (f 4) 4) 2).length<=sizeLine) (hk:Ys C (iB (tN f) (.lst (cp T)) tr wd (eY 6 (bf (f 3))) ct ga [("ends",.lst (eY 5 (gF (f 4)))),("more",.lst (ahR 4 (ka (f 2)))),("lead",.str (kX (f 4))),("title",.str (iC (f 3) T)),("mail",.str (tB (f 3) (f 4) T)),("rows",.own []),("number",.int 0)]) r K Kr):Ys C (iB (tN f) (.lst (cp T)) tr wd (eY 6 (bf (f 3))) ct ga []) (aH 11::aH 12::aH 13::aH 14::r) K Kr:=by
 have p3:∀p,p<5->((3:Int)^p)=((3^p:Nat):Int)/\3^p<2^8000:=λp hp=>⟨by rw[y2];rfl,b9 (nh ⋯ (dw hp)) ⋯⟩
 refine Ys.q 11 F u11 (Bx.x (yB (f:=λs=>.str (gF (f 4) s)) (λJ=>rfl) _ _ (λp hp xs k h=>?_) ⟨?_⟩))
 ·have hp:=List.mem_range.mp hp
  refine .of (bJ (t11 (tA λi=>f i) rfl) (List.mem_range.mpr hp)) ?_;rw[(p3 p hp).1];refine .g (nN _ _ (Dm ⋯) (p3 p hp).2) ?_;rw[iP,show(3:Int)=((3:Nat):Int)from rfl];dsimp only;rw[gQ];exact⟨Hm (ahW (dr _ ⋯)) h.x⟩
 refine Ys.q 12 F u12 (Bx.x (yB (f:=λs=>.int (ka (f 2) s:Nat)) (λJ=>rfl) _ _ (λp hp xs k h=>?_) ⟨?_⟩))
 ·have hp:=List.mem_range.mp hp
  refine .of (bJ (t12 (tA λi=>f i) rfl) (List.mem_range.mpr hp)) ?_;rw[(p3 p (rD hp)).1];refine .g (nN _ _ (Dm ⋯) (p3 p (rD hp)).2) ?_;rw[iP,show(3:Int)=((3:Nat):Int)from rfl];dsimp only;rw[gQ];exact h
 refine Ys.q 13 F (bJ (pU (y:=bf (f 3)) (tA λi=>f i) rfl) (qP hT)) (Bx.x (.g (nN (f 4) 243 ⋯ ⋯) ?_));rw[show(243:Int)=((243:Nat):Int)from rfl,iP,show(2:Int)=((2:Nat):Int)from rfl];dsimp only;rw[gQ];have vL:f 4/243%2<2:=dr _ ⋯;refine .g ⟨⋯,bA _,by exact(ax 0xe6e186a05a5e0c290 1122577) vL⟩ (.g h1 ⟨?_⟩);exact Ys.q 14 F pV (Bx.x (.g (az h2 ⋯) (.g ⟨h3 4,⋯,⋯⟩ (.g h4 ⟨hk⟩))))
end
section
def cH(t T tr:AV)(wd:Int)(ta:List AV)(ct:AV)(ga:List AV)(en mo:AV)(le ti M:Str)(ro:List AV)(nu:Int)(e:Sg):Sg:=iB t T tr wd ta ct ga (("ends",en)::("more",mo)::("lead",.str le)::("title",.str ti)::("mail",.str M)::("rows",.own ro)::("number",.int nu)::e)
noncomputable def iT(i s:Int)(z:Sg):Sg:=("spot",.int i)::("sign",.int s)::z
noncomputable def ke(j:Int):Sg:=[("turn",.int j)]
noncomputable def tC(G:Nat->Nat->Int):List AV:=(au 6).map λup=>.lst ((au 6).map λlow=>.int (G up low))
noncomputable def fK(n:Nat)(z:Nat->Int):List AV:=(au n).map λs=>.int (z s)
noncomputable def enT(T:List Nat):List AV:=(au T.length).map λi=>.tup [.int (i:Nat),.int (T.getD i 0:Nat)]
abbrev Ht(j:Nat):Stmt:=(fY (aH 15)).getD j (.Pass default)
abbrev nQ(j:Nat)(σ:Sg)(k:Sg->Prop)(kr:AV->Prop):Prop:=(bD eM (30-j)).S bS σ ((fY (aH 15)).drop j) k kr
abbrev B4(j:Nat)(σ:Sg)(k:Sg->Prop)(kr:AV->Prop):Prop:=eJ eM (bD eM (29-j)) bS σ (Ht j) k kr
abbrev LI(kr:AV->Prop)(xs:List AV)(σ:Sg)(ks:Sg->Prop):Prop:=forL eM (bD eM 28) bS (jk (Ht 1) 1) (fY (Ht 1)) kr xs σ ks
def vX(G:Nat->Nat->Int)(T:List Nat)(i:Nat):Int:=ae (gW (i+1) T.length) (G (T.getD i 0) (T.getD (i+1) 0)) (1+(gi (T.getD i 0):Nat))
section
variable{wd nu i s j:Int}{t T tr ct en mo:AV}{ta ga ro xs:List AV}{ks:Sg->Prop}{kr:AV->Prop}{y w:Nat->Str}{le ti M:Str}{m:Nat->Int}
theorem pW:(TL.map λT=>dP 15 (cH t (.lst (cp T)) tr wd ta ct ga en mo le ti M ro nu []) ks kr)=TL.map λT=>LE 15 kr (enT T) (cH t (.lst (cp T)) tr wd ta ct ga en mo le ti M ro nu []) ks:=⋯
theorem QS:([[],iT i' s' (ke j)].map λe=>LE 15 kr (.tup [.int i,.int s]::xs) (cH t T tr wd ta ct ga en mo le ti M ro nu e) ks)=[[],ke j].map λz=>nQ 0 (cH t T tr wd ta ct ga en mo le ti M ro nu (iT i s z)) (λσ=>LE 15 kr xs σ ks) kr:=⋯
theorem n15:((au 2).map λj=>nQ j σ ks kr)=(au 2).map λj=>B4 j σ (λσ'=>nQ (j+1) σ' ks kr) kr:=⋯
theorem ah0:nQ 2 σ ks kr=ks σ:=⋯
theorem QT:((au 4).map λ(i:Nat)=>(au 6).map λ(s:Nat)=>[[],ke j].map λz=>B4 0 (cH t T tr wd (eY 6 y) ct ga (.lst (eY 5 w)) mo le ti M ro nu (iT i s z)) ks kr)
  =(au 4).map λ(i:Nat)=>(au 6).map λ(s:Nat)=>[[],ke j].map λz=>gI (gJ "."+(y s).length<=sizeLine) (gI (("."++y s).length+(w i).length<=sizeLine) (gI (M.length+("."++y s++w i).length<=sizeLine) (ks (cH t T tr wd (eY 6 y) ct ga (.lst (eY 5 w)) mo le ti (M++("."++y s++w i)) ro nu (iT i s z))))):=⋯
theorem QU:(TL.map λT=>(au T.length).map λ(i:Nat)=>[[],ke j].map λz=>B4 1 (cH t (.lst (cp T)) tr wd ta ct (tC G) en (.lst (fK 4 m)) le ti M ro nu (iT i (T.getD i 0:Nat) z)) ks kr)
  =TL.map λT=>(au T.length).map λ(i:Nat)=>[[],ke j].map λz=>BX (m i+vX G T i) (LI kr (dJ 0 (iH 0 (m i+vX G T i) 1).toNat 1) (cH t (.lst (cp T)) tr wd ta ct (tC G) en (.lst (fK 4 m)) le ti M ro nu (iT i (T.getD i 0:Nat) z)) ks):=⋯
theorem QV:([[],ke j].map λz=>LI kr (.int j'::xs) (cH t T tr wd ta ct ga en mo le ti M ro nu (iT i s z)) ks)=[[],ke j].map λz=>(M.length<=400000/\LI kr xs (cH t T tr wd ta ct ga en mo le ti (Re.quote M) ro nu (iT i s (ke j'))) ks):=⋯
end
end
theorem iy.app(e:Sg):∀(σ:Sg),iy σ (σ++e)
 |[]=>.nil|(x,a)::σ=>λy b q=>by
  have q:ae (aA y x) (some a) (aj y σ)=some b:=q;show ∃a',ae (aA y x) (some a) (aj y (σ++e))=some a'/\_;cases c:aA y x with|true=>rw[c]at q;exact⟨b,q,.inl rfl⟩|false=>rw[c]at q;exact iy.app e σ y b q
noncomputable def iU:Nat->Str->Str|0,m=>m|n+1,m=>Re.quote (iU n m)
theorem yC:∀n m,iU n (Re.quote m)=iU (n+1) m|0,m=>rfl|n+1,m=>congrArg Re.quote (yC n m)
def iV(G:Nat->Nat->Nat)(T:List Nat)(i:Nat):Nat:=ae (gW (i+1) T.length) (G (T.getD i 0) (T.getD (i+1) 0)) (1+gi (T.getD i 0))
def dR(G:Nat->Nat->Nat)(c:Nat)(T:List Nat)(i:Nat):Nat:=ka c i+iV G T i
def rowAt(d e:Nat)(T:List Nat)(i:Nat):Str:="."++bf d (T.getD i 0)++gF e i
noncomputable def cS(G:Nat->Nat->Nat)(c d e:Nat)(T:List Nat):Nat->Str|0=>tB d e T|i+1=>iU (dR G c T i) (cS G c d e T i++rowAt d e T i)
theorem getD_mem{T:List Nat}{i:Nat}(h:i<T.length):T.getD i 0∈T:=by rw[Tp,rG h];exact SQ h
theorem dh.len(h:dh T):T.length<=4:=by
 have k:∀T:List Nat,(∀s∈T,s<6)->T.length<=(T.map λs=>(cz s).length).sum:=λT=>by
  induction T with|nil=>exact λJ=>aQ _|cons s r ih=>intro h;have h1:=(Hq (h s aK)).1;have h2:=ih λx m=>h x (aY _ m);rw[gm,ni,bP];exact(aC 0xeb8218190b119b20 17903891) h1 h2
 exact Jd (b9 (k T h.lt) h.sum)
abbrev Fz(z:Sg):Prop:=z=[]∨∃j,z=ke j
def B5(e:Sg):Prop:=e=[]∨∃i s j,e=iT i s (ke j)
section
abbrev qS(G:Nat->Nat->Nat):List AV:=tC λa b=>(G a b:Int)
abbrev jM(f:Nat->Nat)(T:List Nat)(tr:AV)(wd:Int)(ct:AV)(G:Nat->Nat->Nat)(M:Str)(e:Sg):Sg:=cH (tN f) (.lst (cp T)) tr wd (eY 6 (bf (f 3))) ct (qS G) (.lst (eY 5 (gF (f 4)))) (.lst (fK 4 λi=>(ka (f 2) i:Int))) (kX (f 4)) (iC (f 3) T) M [] 0 e
end
section
variable{tr ct:AV}
theorem li:∀(n:Nat) (a j:Int) (M:Str),(∀j,j<n->(iU j M).length<=400000)->(∀j,Bx (ks (jM f T tr wd ct G (iU n M) (iT i s (ke j)))))->Bx (LI kr (dJ a n 1) (jM f T tr wd ct G M (iT i s (ke j))) ks)
 |0,a,j,M,_,h=>h j|n+1,a,j,M,hl,h=>by
  rw[Hf];refine .of (gj QV) (.a (hl 0 (CY n)) (li n _ _ _ (λj hj=>?_) λj=>?_))
  ·rw[yC];exact hl (j+1) (Nat.succ_lt_succ hj)
  ·rw[yC];exact h j
theorem li1(hz:Fz z)(hl:∀j,j<n+1->(iU j M).length<=400000)(h:∀j,Bx (ks (jM f T tr wd ct G (iU (n+1) M) (iT i s (ke j))))):Bx (LI kr (dJ a (n+1) 1) (jM f T tr wd ct G M (iT i s z)) ks):=by
 rcases hz with rfl|⟨j,rfl⟩
 ·rw[Hf]
  refine .of (gE (QV (j:=0))) (.a (hl 0 (CY n)) (li n _ _ _ (λj hj=>?_) λj=>?_))
  ·rw[yC];exact hl (j+1) (Nat.succ_lt_succ hj)
  ·rw[yC];exact h j
 ·exact li (n+1) a j M hl h
end
theorem rg4(n:Nat)(h:n<=4):(wL 0 (n:Int) 1=true/\0<=iH 0 (n:Int) 1/\(1:Int)≠0/\ij ((n:Int)-0) 1=false)/\(iH 0 (n:Int) 1).toNat=n:=
 (show ∀n,n<5->(wL 0 ((n:Nat):Int) 1=true/\0<=iH 0 (n:Int) 1/\(1:Int)≠0/\ij ((n:Int)-0) 1=false)/\(iH 0 (n:Int) 1).toNat=n by decide+kernel) n (jw h)
section
variable{f:Nat->Nat}{T:List Nat}{tr ct:AV}{wd:Int}{G:Nat->Nat->Nat}
theorem QW(h:j<2)(x:Bx (B4 j σ (λσ'=>nQ (j+1) σ' ks kr) kr)):Bx (nQ j σ ks kr):=.of (bJ n15 (List.mem_range.mpr h)) x
theorem ah3(G:Nat->Nat->Nat)(T:List Nat)(i:Nat):vX (λa b=>(G a b:Int)) T i=(iV G T i:Nat):=by
 unfold vX iV;cases gW (i+1) T.length with|true=>rfl|false=>show(1:Int)+_=((1+_:Nat):Int);rw[og];rfl
theorem ah4(hT:dh T){i:Nat}(hi:i<T.length)(hg:1<=iV G T i/\iV G T i<=2) (hl:(cS G (f 2) (f 3) (f 4) T i).length<=200000/\(∀s,s<6->(bf (f 3) s).length<=100)/\(∀k,(gF (f 4) k).length<=100)/\∀j,j<dR G (f 2) T i->(iU j (cS G (f 2) (f 3) (f 4) T i++rowAt (f 3) (f 4) T i)).length<=400000) {e:Sg} (he:B5 e) (h:∀e,B5 e->Bx (LE 15 kr xs (jM f T tr wd ct G (cS G (f 2) (f 3) (f 4) T (i+1)) e) ks)):Bx (LE 15 kr (.tup [.int (i:Nat),.int (T.getD i 0:Nat)]::xs) (jM f T tr wd ct G (cS G (f 2) (f 3) (f 4) T i) e) ks):=by
 have h6:=hT.lt _ (getD_mem hi);have h4:i<4:=fy hi hT.len;have key:∀z,Fz z->Bx (nQ 0 (jM f T tr wd ct G (cS G (f 2) (f 3) (f 4) T i) (iT i (T.getD i 0:Nat) z)) (λσ=>LE 15 kr xs σ ks) kr):=λz hz=>by
  have b:Bx (nQ 1 (jM f T tr wd ct G (cS G (f 2) (f 3) (f 4) T i++rowAt (f 3) (f 4) T i) (iT i (T.getD i 0:Nat) z)) (λσ=>LE 15 kr xs σ ks) kr):=by
   refine QW ⋯ ?_;have m3:ka (f 2) i<3:=dr _ ⋯;have fin:Bx (BX (((ka (f 2) i:Nat):Int)+vX (λa b=>(G a b:Int)) T i) (LI kr (dJ 0 (iH 0 (((ka (f 2) i:Nat):Int)+vX (λa b=>(G a b:Int)) T i) 1).toNat 1) (jM f T tr wd ct G (cS G (f 2) (f 3) (f 4) T i++rowAt (f 3) (f 4) T i) (iT i (T.getD i 0:Nat) z)) λσ=>nQ 2 σ (λσ=>LE 15 kr xs σ ks) kr)):=by
    rw[ah3,<-og];have tt:dR G (f 2) T i<=4:=by unfold dR;exact(ao 0xeb498101fb291b119c390 285294866) hg m3
    have t1:1<=dR G (f 2) T i:=by unfold dR;exact(ao 0xeb810191fb291b119 4296102162) hg
    have em:cS G (f 2) (f 3) (f 4) T (i+1)=iU (dR G (f 2) T i) (cS G (f 2) (f 3) (f 4) T i++rowAt (f 3) (f 4) T i):=rfl;rw[em]at h;have hq:=hl.2.2.2;rw[show ka (f 2) i+iV G T i=dR G (f 2) T i from rfl];generalize dR G (f 2) T i=n at tt t1 h hq⊢;have fin:∀n:Nat,(∀j,j<n+1->(iU j (cS G (f 2) (f 3) (f 4) T i++rowAt (f 3) (f 4) T i)).length<=400000)->(∀e,B5 e->Bx (LE 15 kr xs (jM f T tr wd ct G (iU (n+1) (cS G (f 2) (f 3) (f 4) T i++rowAt (f 3) (f 4) T i)) e) ks))->Bx (LI kr (dJ 0 (n+1) 1) (jM f T tr wd ct G (cS G (f 2) (f 3) (f 4) T i++rowAt (f 3) (f 4) T i) (iT i (T.getD i 0:Nat) z)) λσ=>nQ 2 σ (λσ=>LE 15 kr xs σ ks) kr):=λn hq h=>
     li1 hz hq λj=>.of ah0 (h _ (.inr ⟨_,_,_,rfl⟩))
    obtain⟨n,rfl⟩:∃m,n=m+1:=⟨n-1,by exact(ao 0xed81910b0192f1fd091b1901fd08191b019 0x1010151110001511101141110014112) t1 aq⟩
    obtain⟨g1,g2⟩:=rg4 (n+1) tt;refine .g g1 ?_;rw[g2];exact fin n hq h
   rcases hz with rfl|⟨j,rfl⟩
   ·exact .of (gE (bJ (bJ (QU (j:=0)) (qP hT)) (List.mem_range.mpr hi))) fin
   ·exact .of (gj (bJ (bJ QU (qP hT)) (List.mem_range.mpr hi))) fin
  have l1:gJ "."=1:=rfl;have la:∀x y:Str,(x++y).length=x.length+y.length:=λx y=>IU;have ht:=hl.2.1 _ h6;have hw:=hl.2.2.1 i;have sl:sizeLine=16777216:=rfl;have l0:=hl.1;have fin:=Bx.g (d:=inferInstance) (c:=gJ "."+(bf (f 3) (T.getD i 0)).length<=sizeLine) ((aC 0xeb2810d190b642a1d10000007a2 68989051155) l1 ht sl) (.g (d:=inferInstance) (c:=("."++bf (f 3) (T.getD i 0)).length+(gF (f 4) i).length<=sizeLine) (by rw[la];exact(a9 0xeb382810d190b642a1b642a2d10000007a3 1104076173588) l1 ht hw sl) (.g (d:=inferInstance) (c:=(cS G (f 2) (f 3) (f 4) T i).length+("."++bf (f 3) (T.getD i 0)++gF (f 4) i).length<=sizeLine) (by rw[la,la];exact(cV 0xeb48838210d191b642a2b642a3d10000007a4b30d405a0 18696262222101) l1 ht hw sl l0) b));refine QW ⋯ ?_;rcases hz with rfl|⟨j,rfl⟩
  ·exact .of (gE (bJ (bJ (QT (j:=0)) (List.mem_range.mpr h4)) (List.mem_range.mpr h6))) fin
  ·exact .of (gj (bJ (bJ QT (List.mem_range.mpr h4)) (List.mem_range.mpr h6))) fin
 rcases he with rfl|⟨i',s',j,rfl⟩
 ·exact .of (gE (QS (j:=0) (i':=0) (s':=0))) (key _ (.inl rfl))
 ·exact .of (gj QS) (key _ (.inr ⟨_,rfl⟩))
end
section
variable{C:Fc}{r:List Stmt}{K:Sg->Prop}{Kr:AV->Prop}{f:Nat->Nat}{T:List Nat}{tr ct:AV}{wd:Int}{G:Nat->Nat->Nat}
theorem ah5(F:a7 id C bS)(hT:dh T)(hg:∀i,i<T.length->1<=iV G T i/\iV G T i<=2) (hl:∀i,i<T.length->(cS G (f 2) (f 3) (f 4) T i).length<=200000/\(∀s,s<6->(bf (f 3) s).length<=100)/\(∀k,(gF (f 4) k).length<=100)/\∀j,j<dR G (f 2) T i->(iU j (cS G (f 2) (f 3) (f 4) T i++rowAt (f 3) (f 4) T i)).length<=400000) (hk:Ys C (jM f T tr wd ct G (cS G (f 2) (f 3) (f 4) T T.length) []) r K Kr):Ys C (jM f T tr wd ct G (tB (f 3) (f 4) T) []) (aH 15::r) K Kr:=by
 refine Ys.q 15 F (bJ pW (qP hT)) (Bx.x ?_);have key:∀k i,i+k=T.length->∀e,B5 e->Bx (LE 15 Kr (((au T.length).drop i).map λi=>.tup [.int (i:Nat),.int (T.getD i 0:Nat)]) (jM f T tr wd ct G (cS G (f 2) (f 3) (f 4) T i) e) λσ=>Ys C σ r K Kr):=λk=>by
  induction k with|zero=>intro i hi e he;rw[ug (by rw[gH];exact(ao 0xeb10d08091 16855314) hi),show i=T.length by exact(ao 0xed10d18090 18833716883730) hi];exact⟨Ys.kW (.app e (jM f T tr wd ct G (cS G (f 2) (f 3) (f 4) T T.length) [])) hk⟩|succ k ih=>intro i hi e he;rw[pG (by rw[gH];exact(aC 0xec10d1881920 269566227) hi),zd];exact ah4 hT ((aC 0xec10d1881920 269566227) hi) (hg i ((aC 0xec10d1881920 269566227) hi)) (hl i ((aC 0xec10d1881920 269566227) hi)) he λe he=>ih (i+1) ((aC 0xed2818190d2881910 18833716883731) hi) e he
 exact key T.length 0 (iY _) [] (.inl rfl)
end
noncomputable def jN(s:Nat):Nat:=[0,0,0,1,1,1].getD s 0
section
noncomputable def z1(dt:Int):Sg:=[("dots",.int dt)]
noncomputable def z2(rk:Int)(z:Sg):Sg:=("rank",.int rk)::z
noncomputable def z3(s tw:Int)(z:Sg):Sg:=("sign",.int s)::("two",.int tw)::z
noncomputable def z4(i:Int)(z:Sg):Sg:=("spot",.int i)::z
abbrev s16(j:Nat):Stmt:=(fY (aH 16)).getD j (.Pass default)
abbrev qT(j:Nat)(σ:Sg)(k:Sg->Prop)(kr:AV->Prop):Prop:=(bD eM (30-j)).S bS σ ((fY (aH 16)).drop j) k kr
abbrev mU(j:Nat)(σ:Sg)(k:Sg->Prop)(kr:AV->Prop):Prop:=eJ eM (bD eM (29-j)) bS σ (s16 j) k kr
noncomputable def dnT(T:List Nat):List AV:=(au T.length).map λi=>.int (T.length-1-i:Nat)
section
variable{wd nu i s tw rk dt s' tw' rk' dt' i':Int}{t T tr ct en mo:AV}{ta ga ro xs:List AV}{ks:Sg->Prop}{kr:AV->Prop}{y:Nat->Str}{le ti M:Str}{m:Nat->Int}
theorem pX:(TL.map λT=>dP 16 (cH t (.lst (cp T)) tr wd ta ct ga en mo le ti M ro nu []) ks kr)=TL.map λT=>LE 16 kr (dnT T) (cH t (.lst (cp T)) tr wd ta ct ga en mo le ti M ro nu []) ks:=⋯
theorem QX:([[],z4 i' (z3 s' tw' (z2 rk' (z1 dt')))].map λe=>LE 16 kr (.int i::xs) (cH t T tr wd ta ct ga en mo le ti M ro nu e) ks)=[[],z3 s' tw' (z2 rk' (z1 dt'))].map λz=>qT 0 (cH t T tr wd ta ct ga en mo le ti M ro nu (z4 i z)) (λσ=>LE 16 kr xs σ ks) kr:=⋯
theorem n16:((au 5).map λj=>qT j σ ks kr)=(au 5).map λj=>mU j σ (λσ'=>qT (j+1) σ' ks kr) kr:=⋯
theorem ah9:qT 5 σ ks kr=ks σ:=⋯
theorem QY:(TL.map λT=>(au T.length).map λ(i:Nat)=>[[],z3 s' tw' (z2 rk' (z1 dt'))].map λz=>mU 0 (cH t (.lst (cp T)) tr wd ta ct ga en mo le ti M ro nu (z4 i z)) ks kr)
  =mapR TL λT=>mapR (au T.length) λ(i:Nat)=>mapR [[],z2 rk' (z1 dt')] λz=>ks (cH t (.lst (cp T)) tr wd ta ct ga en mo le ti M ro nu (z4 i (z3 (T.getD i 0:Nat) (jN (T.getD i 0):Nat) z))):=⋯
theorem QZ:((au 6).map λr=>(au 6).map λ(s:Nat)=>[[],z2 rk' (z1 dt')].map λz=>mU 1 (cH t T (.tup (cp (bT r))) wd ta ct ga en mo le ti M ro nu (z4 i (z3 s tw z))) ks kr)
  =mapR (au 6) λr=>mapR (au 6) λ(s:Nat)=>mapR [[],z1 dt'] λz=>ks (cH t T (.tup (cp (bT r))) wd ta ct ga en mo le ti M ro nu (z4 i (z3 s tw (z2 (dE r s:Nat) z)))):=⋯
theorem Q0:((au 4).map λ(i:Nat)=>[[],z1 dt'].map λz=>mU 2 (cH t T tr wd ta ct ga en (.lst (fK 4 m)) le ti M (eY 0 ρ) nu (z4 i (z3 s tw (z2 rk z)))) ks kr)=(au 4).map λ(i:Nat)=>[[],z1 dt'].map λJ=>eV 2 tw (PI true true [-rk-(2+2*tw),6]/\∀q r,q=cQ [-rk-(2+2*tw),6]/\r=cR [-rk-(2+2*tw),6]->ks (cH t T tr wd ta ct ga en (.lst (fK 4 m)) le ti M (eY 0 ρ) nu (z4 i (z3 s tw (z2 rk (z1 (m i-q))))))):=⋯
theorem Q1:((au 4).map λ(i:Nat)=>(au 3).map λn=>[[],z1 dt'].map λz=>mU 2 (cH t T tr wd ta ct ga en (.lst (fK 4 m)) le ti M (eY (n+1) ρ) nu (z4 i (z3 s tw (z2 rk z)))) ks kr)=mapR (au 4) λ(i:Nat)=>mapR (au 3) λn=>mapR [[],z1 dt'] λJ=>(PI true true [-rk-(nu+6+tw),6]/\∀q r,q=cQ [-rk-(nu+6+tw),6]/\r=cR [-rk-(nu+6+tw),6]->ks (cH t T tr wd ta ct ga en (.lst (fK 4 m)) le ti M (eY (n+1) ρ) nu (z4 i (z3 s tw (z2 rk (z1 (m i-q))))))):=⋯
theorem aia:mU 3 (cH t T tr wd ta ct ga en mo le ti M ro nu (z4 i (z3 s tw (z2 rk (z1 dt))))) ks kr=eV 6 dt (ks (cH t T tr wd ta ct ga en mo le ti M ro (6*dt-rk) (z4 i (z3 s tw (z2 rk (z1 dt)))))):=⋯
theorem aib:((au 6).map λ(s:Nat)=>mU 4 (cH t T tr wd (eY 6 y) ct ga en mo le ti M ro nu (z4 i (z3 s tw (z2 rk (z1 dt))))) ks kr)=(au 6).map λ(s:Nat)=>gI (gJ "."<=100/\0<=dt+1/\dt+1<=100000) (gI ((cZ "." (dt+1)).length+(y s).length<=sizeLine) (gI ((cZ "." (dt+1)++y s).length+gJ "\r\n"<=sizeLine) (gI (ro.length<=10000000) (ks (cH t T tr wd (eY 6 y) ct ga en mo le ti M (.str (cZ "." (dt+1)++y s++"\r\n")::ro) nu (z4 i (z3 s tw (z2 rk (z1 dt))))))))):=⋯
end
end
section
noncomputable def dj(T:List Nat)(k:Nat):Nat:=T.getD (T.length-1-k) 0
def yD(T:List Nat)(k:Nat)(num:Int):Int:=@rC (λJ=>Int) (2+2*(jN (dj T k):Nat)) (λJ J=>num+6+(jN (dj T k):Nat)) k
def Q2(pr c:Nat)(T:List Nat)(k:Nat)(num:Int):Int:=(ka c (T.length-1-k):Nat)-(-((dE pr (dj T k):Nat):Int)-yD T k num).fdiv 6
noncomputable def mV(pr c:Nat)(T:List Nat):Nat->Int|0=>0|k+1=>6*Q2 pr c T k (mV pr c T k)-(dE pr (dj T k):Nat)
def iW(pr c:Nat)(T:List Nat)(k:Nat):Int:=Q2 pr c T k (mV pr c T k)
noncomputable def iX(pr c d:Nat)(T:List Nat):Nat->List Str|0=>[]|k+1=>(cZ "." (iW pr c T k+1)++bf d (dj T k)++"\r\n")::iX pr c d T k
noncomputable abbrev vY(xs:List Str):List AV:=xs.map AV.str
theorem Hu:∀rs:List Str,vY rs=eY rs.length λi=>rs.getD i ""|[]=>rfl|r::rs=>by unfold eY;rw[bP,List.range_succ_eq_map,gm,oj];exact congrArg (List.cons _) (Hu rs)
theorem B6(pr c d:Nat)(T:List Nat):∀k,(iX pr c d T k).length=k|0=>rfl|k+1=>by rw[iX,bP,B6 pr c d T k]
abbrev vZ(f:Nat->Nat)(T:List Nat)(pr:Nat)(wd:Int)(ct:AV)(ga:List AV)(en:AV)(le ti M:Str)(rs:List Str)(nu:Int)(e:Sg):Sg:=cH (tN f) (.lst (cp T)) (tr pr) wd (eY 6 (bf (f 3))) ct ga en (.lst (fK 4 λi=>(ka (f 2) i:Int))) le ti M (vY rs) nu e
end
section
variable{le ti M:Str}
theorem yE(h:j<5)(x:Bx (mU j σ (λσ'=>qT (j+1) σ' ks kr) kr)):Bx (qT j σ ks kr):=.of (bJ n16 (List.mem_range.mpr h)) x
theorem aic{i:Nat}{nu:Int}{ro:List AV}{t tr mo:AV}{ta:List AV}{z:Sg}(hT:dh T)(hi:i<T.length)(hz:z=[]∨∃s tw rk dt,z=z3 s tw (z2 rk (z1 dt)))(h:∀z,(z=[]∨∃rk dt,z=z2 rk (z1 dt))->Bx (ks (cH t (.lst (cp T)) tr wd ta ct ga en mo le ti M ro nu (z4 i (z3 (T.getD i 0:Nat) (jN (T.getD i 0):Nat) z))))):Bx (mU 0 (cH t (.lst (cp T)) tr wd ta ct ga en mo le ti M ro nu (z4 i z)) ks kr):=by
 rcases hz with rfl|⟨s,tw,rk,dt,rfl⟩
 ·exact .of (gE (aX (aX (QY (s':=0) (tw':=0) (rk':=0) (dt':=0)) (qP hT)) (List.mem_range.mpr hi))) (h _ (.inl rfl))
 ·exact .of (gj (aX (aX QY (qP hT)) (List.mem_range.mpr hi))) (h _ (.inr ⟨_,_,rfl⟩))
theorem aid{s:Nat}{i tw nu:Int}{ro:List AV}{t T mo:AV}{ta:List AV}{z:Sg}(hp:pr<6)(hs:s<6)(hz:z=[]∨∃rk dt,z=z2 rk (z1 dt))(h:∀z,(z=[]∨∃dt,z=z1 dt)->Bx (ks (cH t T (tr pr) wd ta ct ga en mo le ti M ro nu (z4 i (z3 s tw (z2 (dE pr s:Nat) z)))))):Bx (mU 1 (cH t T (tr pr) wd ta ct ga en mo le ti M ro nu (z4 i (z3 s tw z))) ks kr):=by
 rcases hz with rfl|⟨rk,dt,rfl⟩
 ·exact .of (gE (aX (aX (QZ (rk':=0) (dt':=0)) (List.mem_range.mpr hp)) (List.mem_range.mpr hs))) (h _ (.inl rfl))
 ·exact .of (gj (aX (aX QZ (List.mem_range.mpr hp)) (List.mem_range.mpr hs))) (h _ (.inr ⟨_,rfl⟩))
theorem Q4{a b:Int}(h:DI true true a b){k:Int->Prop}(x:Bx (k (a.fdiv b))):Bx (PI true true [a,b]/\∀q r,q=cQ [a,b]/\r=cR [a,b]->k q):=⟨⟨a,b,rfl,h⟩,λq r e=>e.1▸x.x⟩
theorem aie{k i:Nat}{s rk nu:Int}{tw:Nat}{t T tr:AV}{ta:List AV}{m:Nat->Int}{rs:List Str}{z:Sg}(hi:i<4)(hk:rs.length=k)(hk4:k<4)(hz:z=[]∨∃dt,z=z1 dt)(ht:tw<=1){v:Int}(hv:v=@rC (λJ=>Int) (2+2*(tw:Int)) (λJ J=>nu+6+tw) k)(hd:DI true true (-rk-v) 6) (h:Bx (ks (cH t T tr wd ta ct ga en (.lst (fK 4 m)) le ti M (vY rs) nu (z4 i (z3 s tw (z2 rk (z1 (m i-(-rk-v).fdiv 6)))))))):Bx (mU 2 (cH t T tr wd ta ct ga en (.lst (fK 4 m)) le ti M (vY rs) nu (z4 i (z3 s tw (z2 rk z)))) ks kr):=by
 rw[Hu,hk]at h⊢;have hm:eE 2 (tw:Int):=lL (i:=2) (j:=1) ⋯ (by rw[fQ];exact b9 ht ⋯) ⋯;have hi:=List.mem_range.mpr hi
 match k,hk4 with
 |0,_=>
  have hv:=hv;subst hv;have fin:=Bx.g (d:=by unfold eE;infer_instance) hm (Q4 (k:=λq=>ks (cH t T tr wd ta ct ga en (.lst (fK 4 m)) le ti M (eY 0 λi=>rs.getD i "") nu (z4 i (z3 s tw (z2 rk (z1 (m i-q))))))) hd h);rcases hz with rfl|⟨dt,rfl⟩
  ·exact .of (gE (bJ (Q0 (dt':=0)) hi)) fin
  ·exact .of (gj (bJ Q0 hi)) fin
 |n+1,h4=>
  have hv:=hv;subst hv;have fin:=Q4 (k:=λq=>ks (cH t T tr wd ta ct ga en (.lst (fK 4 m)) le ti M (eY (n+1) λi=>rs.getD i "") nu (z4 i (z3 s tw (z2 rk (z1 (m i-q))))))) hd h;have hn:=List.mem_range.mpr (Nat.lt_of_succ_lt_succ h4);rcases hz with rfl|⟨dt,rfl⟩
  ·exact .of (gE (aX (aX (Q1 (dt':=0)) hi) hn)) fin
  ·exact .of (gj (aX (aX Q1 hi) hn)) fin
end
section
variable{f:Nat->Nat}{le ti M:Str}
def Hv(pr c:Nat)(T:List Nat)(k:Nat)(e:Sg):Prop:=(k=0/\e=[])∨∃j i s tw rk,k=j+1/\e=z4 i (z3 s tw (z2 rk (z1 (iW pr c T j))))
structure B8(pr c d:Nat)(T:List Nat):Prop where
 Hx:∀k,k<T.length->0<=iW pr c T k+1/\iW pr c T k+1<=100000
 nums:∀k,k<=T.length->(mV pr c T k).natAbs<=10000000
 len:∀s,s<6->(bf d s).length<=100
theorem la(x y:Str):(x++y).length=x.length+y.length:=IU
theorem Q5{α:Type}(xs:List α):∀(n:Nat) (acc:Array α),List.foldl (λx1 x2=>x1++x2) acc (cq n xs.toArray)=acc++((cq n xs).flatten).toArray|0,acc=>by simp|n+1,acc=>by rw[oh,wJ,Q5 xs n,oh,rB];simp[Array.append_assoc]
theorem Q6(x:Str)(n:Int):cZ x n=⟨((cq n.toNat x.cps.toList).flatten).toArray⟩:=by unfold cZ;have h:=Q5 x.cps.toList n.toNat #[];rw[Array.toArray_toList]at h;rw[h,Array.empty_append]
theorem Q7{α:Type}(l:List α):∀n,((cq n l).flatten).length=n*l.length|0=>by rw[m6];rfl|n+1=>by rw[oh,rB,dG,Q7 l n,Nat.succ_mul,iG]
theorem B9(x:Str)(n:Int):(cZ x n).length=n.toNat*x.length:=by rw[Q6];show(List.toArray _).size=_;rw[dF,Q7,lW];rfl
theorem Q8(pr:Nat)(hs:s<6):dE pr s<=7:=by unfold dE;have i0:=B0 hs ((bT pr).getD 0 0);have i1:=B0 hs ((bT pr).getD 1 0);have i2:=B0 hs ((bT pr).getD 2 0);exact(aC 0xeb798281e1491e029b190b191b192 0x10001511013210014233) i0 i1 i2
theorem Q9(hs:s<6):jN s<=1:=
 (by decide:∀s,s<6->jN s<=1) s hs
theorem aih(hs:dj T k<6)(hn:num.natAbs<=10000000):(yD T k num).natAbs<=10000010:=by
 have h:=Q9 hs;cases k with|zero=>show(2+2*((jN (dj T 0):Nat):Int)).natAbs<=_;exact(ao 0xeb98968a6a0b1912f1f8e4e81e5e129295e06e0981e5e129291f8e81e5e129295e06e81e5e1292909 0x1000001711003221013110014222) h g7|succ k=>show(num+6+((jN (dj T (k+1)):Nat):Int)).natAbs<=_;exact(bL 0xeb98968a6a0b9896806a1b1922f1f8e4e85e286905e06e0985e286901f8e85e286905e06e85e28690092f1f8e4e05e16e0901f8e05e16e009 0x1100010011a111001010001a1110101017111000101119113 [_,_,_] [_]) hn h g7 g7
theorem aii(hT:dh T)(hp:pr<6)(O:B8 pr (f 2) (f 3) T)(hk:k<T.length)(he:Hv pr (f 2) T k e) (h:∀e,Hv pr (f 2) T (k+1) e->Bx (LE 16 kr xs (vZ f T pr wd ct ga en le ti M (iX pr (f 2) (f 3) T (k+1)) (mV pr (f 2) T (k+1)) e) ks)):Bx (LE 16 kr (.int (T.length-1-k:Nat)::xs) (vZ f T pr wd ct ga en le ti M (iX pr (f 2) (f 3) T k) (mV pr (f 2) T k) e) ks):=by
 have hi:T.length-1-k<T.length:=by exact(a9 0xec10c122f1fd093b1911fd18193b1192f1fd090b231fd3820b32 0x1001000011a112001001011a1110001017111001001001a114) hk aq aq
 have h4:=hT.len;have h6:dj T k<6:=hT.lt _ (getD_mem hi);have rk:=Q8 pr h6;have key:∀z,(z=[]∨∃s tw rk dt,z=z3 s tw (z2 rk (z1 dt)))->Bx (qT 0 (vZ f T pr wd ct ga en le ti M (iX pr (f 2) (f 3) T k) (mV pr (f 2) T k) (z4 (T.length-1-k:Nat) z)) (λσ=>LE 16 kr xs σ ks) kr):=λz hz=>by
  have hn:=O.nums k (dw hk);have du:=aih h6 hn;have hd:=O.Hx k hk;have ht:=O.len _ h6;refine yE ⋯ (aic hT hi hz λz hz=>yE ⋯ (aid hp h6 hz λz hz=>yE ⋯ ?_));refine aie (k:=k) (by exact(ao 0xec490c10b491 17903890) hi h4) (B6 ..) (by exact(ao 0xec490c10b491 17903890) hk h4) hz (Q9 h6) (v:=yD T k (mV pr (f 2) T k)) rfl ⟨⋯,?_,⋯,λh=>(nomatch h),λh=>(nomatch h)⟩ ?_
  ·have e:∀x:Int,x.natAbs<=2^30->x.natAbs<2^90000:=λx h=>b9 h (jv ⋯ ⋯)
   refine e _ ?_;show(-((dE pr (dj T k):Nat):Int)-yD T k (mV pr (f 2) T k)).natAbs<=_;exact(bL 0xeb400000008a0b791b98968a6a22f1f8e4e3e04e5e15e06e093e04e5e11f8e3e04e5e15e06e3e04e5e1092f1f8e4e05e26e0901f8e05e26e009 0x101001171110001011191110100010101b1110001010001b113 [_,_,_] [_]) rk du g7 g7
  ·have ed:((ka (f 2) (T.length-1-k):Nat):Int)-(-((dE pr (dj T k):Nat):Int)-yD T k (mV pr (f 2) T k)).fdiv 6=iW pr (f 2) T k:=rfl
   show Bx (qT 3 (vZ f T pr wd ct ga en le ti M (iX pr (f 2) (f 3) T k) (mV pr (f 2) T k) (z4 (T.length-1-k:Nat) (z3 (dj T k:Nat) (jN (dj T k):Nat) (z2 (dE pr (dj T k):Nat) (z1 (iW pr (f 2) T k)))))) (λσ=>LE 16 kr xs σ ks) kr);refine yE ⋯ (.of aia ?_);refine .g (d:=by unfold eE;infer_instance) (lL (i:=3) (j:=30) ?_ ?_ ⋯) ?_
   ·decide
   ·have:(2:Nat)^30=1073741824:=rfl
    exact(bL 0xec400000008a01f6e186a05a81906e8190092f1f8e4e05e06e0901f8e05e06e009 0x10011511101015111 [_] [_]) hd g7
   ·refine yE ⋯ ?_
    have l1:gJ "."=1:=rfl;have l2:gJ "\r\n"=2:=rfl;have sl:sizeLine=16777216:=rfl;have lt:(cZ "." (iW pr (f 2) T k+1)).length<=100000:=by rw[B9,l1,kB];exact(bL 0xeb186a05a01f6e186a05a81906e8190092f1fd0906e0981901f8e81905e06e819009 0x10001511101015111 [_] [_]) hd i8
    refine .of (bJ aib (List.mem_range.mpr h6)) ?_;refine .g ⟨⋯,hd⟩ (.g ((aC 0xeb2810b642a1d10000007a2b186a05a0 4564537619) ht sl lt) (.g (by rw[la];exact(a9 0xeb382810b642a1d292d10000007a3b186a05a0 1168249024788) ht l2 sl lt) (.g ?_ (.of ah9 ?_))))
    ·rw[bB,B6];exact(ao 0xeb9896806a0c10b491 17903890) hk h4
    ·exact h _ (.inr ⟨k,_,_,_,_,rfl,rfl⟩)
 rcases he with⟨rfl,rfl⟩|⟨j,i',s',tw',rk',rfl,rfl⟩
 ·exact .of (gE (QX (i':=0) (s':=0) (tw':=0) (rk':=0) (dt':=0))) (key _ (.inl rfl))
 ·exact .of (gj QX) (key _ (.inr ⟨_,_,_,_,rfl⟩))
end
section
def v5(t:AV)(wd:Int)(ct:AV)(ga:List AV)(e:Sg):Sg:=("told",t)::("wide",.int wd)::("needs",.lst (iz 6))::("mixed",.lst (fC 6))::("counts",ct)::("gaps",.own ga)::e
def Ca(t:AV)(wd:Int)(ct:AV)(ga:List AV)(le ti M:Str)(ro:List AV)(dt:Int):Sg:=v5 t wd ct ga [("lead",.str le),("title",.str ti),("mail",.str M),("rows",.lst ro),("dots",.int dt)]
section
variable{dt wd:Int}{t ct:AV}{ga:List AV}{le ti M:Str}{ks:Sg->Prop}{kr:AV->Prop}{ρ:Nat->Str}
theorem pY:((au 5).map λn=>dP 17 (Ca t wd ct ga le ti M (eY n ρ) dt) ks kr)=mapR (au 5) λn=>gI (le.length<=100/\0<=dt+1/\dt+1<=100000) (gI ((cZ le (dt+1)).length+ti.length<=sizeLine) (gI ((cZ le (dt+1)++ti).length+gJ "\r\n\r\n"<=sizeLine) (gI ((((au n).map ρ).map λx=>gJ x).sum+((au n).map ρ).length*gJ ""<=16777216) (gI ((cZ le (dt+1)++ti++"\r\n\r\n").length+(cA "" ((au n).map ρ)).length<=sizeLine) (ae (dW (aA M (cZ le (dt+1)++ti++"\r\n\r\n"++cA "" ((au n).map ρ)))) (kr (.bool false)) (ks (Ca t wd ct ga le ti M (eY n ρ) dt))))))):=⋯
end
end
section
variable{C:Fc}{r:List Stmt}{K:Sg->Prop}{Kr:AV->Prop}{f:Nat->Nat}{T:List Nat}{ct en:AV}{wd:Int}{ga:List AV}{le ti M:Str}{pr:Nat}
theorem aij(F:a7 id C bS)(hT:dh T)(hp:pr<6)(O:B8 pr (f 2) (f 3) T)(hk:Ys C (Ca (tN f) wd ct ga le ti M (vY (iX pr (f 2) (f 3) T T.length)) (iW pr (f 2) T (T.length-1))) r K Kr):Ys C (vZ f T pr wd ct ga en le ti M [] 0 []) (aH 16::r) K Kr:=by
 refine Ys.q 16 F (bJ pX (qP hT)) (Bx.x ?_);have tD:=List.length_pos_iff.mpr hT.ne;have key:∀n k,k+n=T.length->∀e,Hv pr (f 2) T k e->Bx (LE 16 Kr (((au T.length).drop k).map λi=>.int (T.length-1-i:Nat)) (vZ f T pr wd ct ga en le ti M (iX pr (f 2) (f 3) T k) (mV pr (f 2) T k) e) λσ=>Ys C σ r K Kr):=λn=>by
  induction n with
  |zero=>
   intro k jH e he;rw[ug (by rw[gH];exact(ao 0xeb10d08091 16855314) jH),show k=T.length by exact(ao 0xed10d18090 18833716883730) jH];rcases he with⟨rfl,_⟩|⟨j,i,s,tw,rk,rfl,rfl⟩
   ·exact((ax 0xe4fc009d009 16855313) tD jH).elim
   ·rw[show T.length-1=j by exact(aC 0xed10d280981912f1fd090b1921fd28190b219 0x10010001811101015111010116111000116113) jH aq]at hk
    rw[show T.length=j+1 by exact(ao 0xed81910d08098191 17674076758290) jH]at hk⊢;refine⟨Ys.kW ?_ hk⟩;exact .cons (.cons (.cons (.cons (.cons (.cons (.cons (.cons (.cons (.eH (.cons .nil ⋯) ⋯) ⋯) ⋯) ⋯) ⋯) ⋯) ⋯) ⋯) ⋯) ⋯
  |succ n ih=>intro k jH e he;rw[pG (by rw[gH];exact(aC 0xec10d1881920 269566227) jH),zd];exact aii hT hp O ((aC 0xec10d1881920 269566227) jH) he λe he=>ih (k+1) ((aC 0xed2818190d2881910 18833716883731) jH) e he
 exact key T.length 0 (iY _) [] (.inl ⟨rfl,rfl⟩)
structure Ra(le ti M:Str)(rs:List Str)(dt:Int):Prop where
 n:rs.length<5
 d:0<=dt+1/\dt+1<=100000
 ll:le.length<=1
 lt:ti.length<=1000
 lr:(rs.map λx=>gJ x).sum<=1000000
 ro:(cA "" rs).length<=1000000
 is:M=cZ le (dt+1)++ti++"\r\n\r\n"++cA "" rs
theorem aik(F:a7 id C bS)(O:Ra le ti M rs dt)(hk:Ys C (v5 (tN f) wd ct ga []) r K Kr):Ys C (Ca (tN f) wd ct ga le ti M (vY rs) dt) (aH 17::r) K Kr:=by
 have em:(au rs.length).map (λi=>rs.getD i "")=rs:=by refine List.ext_getElem (by rw[bB,gH]) λi h1 h2=>?_;rw[List.getElem_map,zd,Tp,rG h2];rfl
 rw[Hu];refine Ys.q 17 F (aX pY (List.mem_range.mpr O.n)) (Bx.x ?_);rw[em];have l4:gJ "\r\n\r\n"=4:=rfl;have l0:gJ ""=0:=rfl;have sl:sizeLine=16777216:=rfl;have lt:(cZ le (dt+1)).length<=100000:=by rw[B9];have:=O.d;exact az (lV (show(dt+1).toNat<=100000 by exact(bL 0xeb186a05a01f6e186a05a81906e8190092f1fd0906e0981901f8e81905e06e819009 0x10001511101015111 [_] [_]) this i8) O.ll) ⋯
 have ht:=O.lt;have h1:=O.lr;have h2:=O.ro;have h3:=O.ll;refine .g ⟨az h3 ⋯,O.d⟩ (.g ((aC 0xeb2810d10000007a2b186a05a0b3e83a1 4580266259) sl lt ht) (.g (by rw[la];exact(a9 0xeb382810d492d10000007a3b186a05a0b3e83a1 1172527214868) l4 sl lt ht) (.g (by rw[l0];exact(ao 0xeb10000007a82e0910bf42405a0 1122578) h1) (.g (by rw[la,la];exact(cV 0xeb48382810d492d10000007a4b186a05a0b3e83a1bf42405a3 18764713263381) l4 sl lt ht h2) ?_))));rw[<-O.is,jZ];exact⟨.kW (.app _ _) hk⟩
end
section
def dn(t:AV)(wd:Int)(ct:AV)(ga:List AV)(sz:Int)(he:AV)(mj pr:List AV)(e:Sg):Sg:=v5 t wd ct ga (("size",.int sz)::("heads",he)::("majors",.own mj)::("products",.own pr)::e)
noncomputable def v7:List AV:=[.lst [.int 1,.int 1,.int 1,.int 1,.int 1,.int 1]]
def nd(s k:Nat):Nat:=(cG s).getD k 0
structure mW where
 a:Nat
 b:Nat
 c:Nat
 last:Nat
 kh:Nat
noncomputable def fg(l:List AV)(x m:Int):AV:=.tup [.lst l,.int x,.int m]
noncomputable def eZ(a b c:Int):AV:=.lst [.int a,.int b,.int c]
noncomputable def yF(n:Int):Sg:=[("signs",.int n)]
noncomputable def iD(n:Int)(lo:List AV)(z:Sg):Sg:=("signs",.int n)::("longer",.own lo)::z
noncomputable def qU(n:Int)(lo:List AV)(z:Sg):Sg:=("signs",.int n)::("longer",.lst lo)::z
noncomputable def dq(l:AV)(x m:Int)(z:Sg):Sg:=("left",l)::("last",.int x)::("major",.int m)::z
noncomputable def d9(s:Int)(z:Sg):Sg:=("sign",.int s)::z
noncomputable def eD(l:AV)(z:Sg):Sg:=("lacks",l)::z
noncomputable def d4(g:Int):Sg:=[("grown",.int g)]
abbrev Cb(j:Nat):Stmt:=(fY (aH 20)).getD j (.Pass default)
abbrev PT(j:Nat)(σ:Sg)(k:Sg->Prop)(kr:AV->Prop):Prop:=(bD eM (30-j)).S bS σ ((fY (aH 20)).drop j) k kr
abbrev BT(j:Nat)(σ:Sg)(k:Sg->Prop)(kr:AV->Prop):Prop:=eJ eM (bD eM (29-j)) bS σ (Cb j) k kr
abbrev LH(kr:AV->Prop)(xs:List AV)(σ:Sg)(ks:Sg->Prop):Prop:=forL eM (bD eM 27) bS (jk (Cb 2) 1) (fY (Cb 2)) kr xs σ ks
abbrev sH:Stmt:=(fY (Cb 2)).getD 0 (.Pass default)
abbrev LS(kr:AV->Prop)(xs:List AV)(σ:Sg)(ks:Sg->Prop):Prop:=forL eM (bD eM 26) bS (jk sH 1) (fY sH) kr xs σ ks
abbrev sS(j:Nat):Stmt:=(fY sH).getD j (.Pass default)
abbrev PS(j:Nat)(σ:Sg)(k:Sg->Prop)(kr:AV->Prop):Prop:=(bD eM (26-j)).S bS σ ((fY sH).drop j) k kr
abbrev BS(j:Nat)(σ:Sg)(k:Sg->Prop)(kr:AV->Prop):Prop:=eJ eM (bD eM (25-j)) bS σ (sS j) k kr
def v8(G:Nat->Nat->Int)(last s:Nat):Int:=ae (aS last 6) 1 (G last s)
section
variable{ga mj pr lo xs hs l:List AV}
theorem pZ:dP 18 (v5 t wd (eZ a b c) ga []) ks kr=ks (dn t wd (eZ a b c) ga ([a,b,c].sum) (.own [fg [.int a,.int b,.int c] 6 0]) [] [.int 1] []):=⋯
theorem p9:dP 19 (dn t wd ct ga sz he mj pr []) ks kr=gI (ga.length<=10000000) (ks (dn t wd ct (ga++v7) sz he mj pr [])):=⋯
theorem qa:((au 5).map λ(z:Nat)=>dP 20 (dn t wd ct ga (z:Nat) he mj pr []) ks kr)=mapR (au 5) λ(z:Nat)=>LE 20 kr ((au z).map λi=>.int (i+1:Nat)) (dn t wd ct ga (z:Nat) he mj pr []) ks:=⋯
theorem Rb:([[],qU x' lo (dq l' m' s' (d9 g (eD k' (d4 g'))))].map λe=>LE 20 kr (.int n::xs) (dn t wd ct ga sz he mj pr e) ks)=[yF n,qU n lo (dq l' m' s' (d9 g (eD k' (d4 g'))))].map λe=>PT 0 (dn t wd ct ga sz he mj pr e) (λσ=>LE 20 kr xs σ ks) kr:=⋯
theorem n20:((au 4).map λj=>PT j σ ks kr)=mapR (au 4) λj=>BT j σ (λσ'=>PT (j+1) σ' ks kr) kr:=⋯
theorem aim:PT 4 σ ks kr=ks σ:=⋯
theorem nS:((au 3).map λj=>PS j σ ks kr)=mapR (au 3) λj=>BS j σ (λσ'=>PS (j+1) σ' ks kr) kr:=⋯
theorem Hy:PS 3 σ ks kr=ks σ:=⋯
theorem Rd:((au 4).map λn=>[yF (n+1:Nat),qU (n+1:Nat) lo (dq l' m' s' (d9 g (eD k' (d4 g'))))].map λe=>BT 0 (dn t wd ct ga sz he mj (fK (n+1) p) e) ks kr)=mapR (au 4) λn=>mapR [yF (n+1:Nat),qU (n+1:Nat) lo (dq l' m' s' (d9 g (eD k' (d4 g'))))] λe=>eV wd (n+1:Nat) (gI ((0:Int)<=wd*(n+1:Nat)/\(bk 2:Int)*(wd*(n+1:Nat))<=2^27) (eV (p n) (2^(wd*((n+1:Nat):Int)).toNat-1) (ks (dn t wd ct ga sz he mj (fK (n+1) p++[.int (p n*(2^(wd*((n+1:Nat):Int)).toNat-1))]) e)))):=⋯
theorem Rf:([yF n,qU n lo (dq l' m' s' (d9 g (eD k' (d4 g'))))].map λe=>BT 1 (dn t wd ct ga sz he mj pr e) ks kr)=[[],dq l' m' s' (d9 g (eD k' (d4 g')))].map λz=>ks (dn t wd ct ga sz he mj pr (iD n [] z)):=⋯
theorem Cc:([[],dq l' m' s' (d9 g (eD k' (d4 g')))].map λz=>[AV.own hs,AV.lst hs].map λhe=>BT 2 (dn t wd ct ga sz he mj pr (iD n [] z)) ks kr)=mapR [[],dq l' m' s' (d9 g (eD k' (d4 g')))] λz=>mapR [AV.own hs,AV.lst hs] λJ=>LH kr hs (dn t wd ct ga sz (.lst hs) mj pr (iD n [] z)) ks:=⋯
theorem ain:([[],dq l' m' s' (d9 g (eD k' (d4 g')))].map λz=>BT 3 (dn t wd ct ga sz he mj pr (iD n lo z)) ks kr)=[[],dq l' m' s' (d9 g (eD k' (d4 g')))].map λz=>ks (dn t wd ct ga sz (.lst lo) mj pr (qU n lo z)):=⋯
theorem tH:([[],dq l' m' s' (d9 g (eD k' (d4 g')))].map λz=>LH kr (fg l x m::xs) (dn t wd ct ga sz he mj pr (iD n lo z)) ks)=[[],d9 g (eD k' (d4 g'))].map λz=>LS kr (B3 6) (dn t wd ct ga sz he mj pr (iD n lo (dq (.lst l) x m z))) λσ=>LH kr xs σ ks:=⋯
theorem tS:([[],d9 g (eD k' (d4 g'))].map λz=>LS kr (.int s::xs) (dn t wd ct ga sz he mj pr (iD n lo (dq l' x m z))) ks)=[[],eD k' (d4 g')].map λz=>PS 0 (dn t wd ct ga sz he mj pr (iD n lo (dq l' x m (d9 s z)))) (λσ=>LS kr xs σ ks) kr:=⋯
theorem Rg:((au 6).map λ(s:Nat)=>[[],eD k' (d4 g')].map λz=>BS 0 (dn t wd ct ga sz he mj pr (iD n lo (dq (eZ a b c) x m (d9 s z)))) ks kr)=mapR (au 6) λ(s:Nat)=>mapR [[],d4 g'] λz=>ks (dn t wd ct ga sz he mj pr (iD n lo (dq (eZ a b c) x m (d9 s (eD (eZ (a-(nd s 0:Nat)) (b-(nd s 1:Nat)) (c-(nd s 2:Nat))) z))))):=⋯
theorem Rj:((au 6).map λ(s:Nat)=>(au 7).map λ(x:Nat)=>[[],d4 g'].map λz=>BS 1 (dn t wd ct (tC G++v7) sz he mj pr (iD n lo (dq l' x m (d9 s (eD k' z))))) ks kr)=mapR (au 6) λ(s:Nat)=>mapR (au 7) λ(x:Nat)=>mapR [[],d4 g'] λz=>eV (v8 G x s-1) (n-1) (ks (dn t wd ct (tC G++v7) sz he mj pr (iD n lo (dq l' x m (d9 s (eD k' (d4 (m+(v8 G x s-1)*(n-1))))))))):=⋯
end
noncomputable def LK:List (Nat×Nat×Nat):=((au 5).flatMap λa=>(au 5).flatMap λb=>(au 5).map λc=>(a,b,c)).filter λd=>bh (d.1+d.2.1+d.2.2) 4
def Ce(a b c s:Nat):Bool:=ae (bh (nd s 0) a) (ae (bh (nd s 1) b) (bh (nd s 2) c) false) false
def Cf(a b c s:Nat):Bool:=aS (a+b+c) (nd s 0+nd s 1+nd s 2)
section
variable{wd sz n x m s g a b c x' m' s' g':Int}{t ct he l' k':AV}{ga mj pr lo xs hs l:List AV}{ks:Sg->Prop}
theorem tSc:(LK.map λd=>(au 6).map λ(s:Nat)=>BS 2 (dn t wd ct ga sz he mj pr (iD n lo (dq l' x m (d9 s (eD (eZ ((d.1:Int)-(nd s 0:Nat)) ((d.2.1:Int)-(nd s 1:Nat)) ((d.2.2:Int)-(nd s 2:Nat))) (d4 g)))))) ks kr)=mapR LK λd=>mapR (au 6) λ(s:Nat)=>ae (Ce d.1 d.2.1 d.2.2 s) (ae (Cf d.1 d.2.1 d.2.2 s) (eV n (gi s:Nat) (gI (mj.length<=10000000) (ks (dn t wd ct ga sz he (mj++[.tup [.int n,.int (g+n*(gi s:Nat))]]) pr (iD n lo (dq l' x m (d9 s (eD (eZ ((d.1:Int)-(nd s 0:Nat)) ((d.2.1:Int)-(nd s 1:Nat)) ((d.2.2:Int)-(nd s 2:Nat))) (d4 g))))))))) (gI (lo.length<=10000000) (ks (dn t wd ct ga sz he mj pr (iD n (lo++[fg [.int (d.1-nd s 0:Nat),.int (d.2.1-nd s 1:Nat),.int (d.2.2-nd s 2:Nat)] s g]) (dq l' x m (d9 s (eD (eZ ((d.1:Int)-(nd s 0:Nat)) ((d.2.1:Int)-(nd s 1:Nat)) ((d.2.2:Int)-(nd s 2:Nat))) (d4 g))))))))) (ks (dn t wd ct ga sz he mj pr (iD n lo (dq l' x m (d9 s (eD (eZ ((d.1:Int)-(nd s 0:Nat)) ((d.2.1:Int)-(nd s 1:Nat)) ((d.2.2:Int)-(nd s 2:Nat))) (d4 g))))))):=⋯
end
end
section
noncomputable abbrev Acc:=List (Nat×Nat)×List mW
def tE(G:Nat->Nat->Nat)(last s:Nat):Nat:=ae (aS last 6) 1 (G last s)
def pq(G:Nat->Nat->Nat)(n:Nat)(h:mW)(s:Nat):Nat:=h.kh+(tE G h.last s-1)*(n-1)
noncomputable def dO(G:Nat->Nat->Nat)(n:Nat)(h:mW)(acc:Acc)(s:Nat):Acc:=
 ae (Ce h.a h.b h.c s) (ae (Cf h.a h.b h.c s) (acc.1++[(n,pq G n h s+n*gi s)],acc.2) (acc.1,acc.2++[⟨h.a-nd s 0,h.b-nd s 1,h.c-nd s 2,s,pq G n h s⟩])) acc
def Cg(G:Nat->Nat->Nat)(n:Nat)(acc:Acc)(h:mW):Acc:=(au 6).foldl (dO G n h) acc
noncomputable def d5(G:Nat->Nat->Nat)(a b c:Nat):Nat->Acc|0=>([],[⟨a,b,c,6,0⟩])|i+1=>(d5 G a b c i).2.foldl (Cg G (i+1)) ((d5 G a b c i).1,[])
noncomputable def kj(ms:List (Nat×Nat)):List AV:=ms.map λm=>.tup [.int (m.1:Nat),.int (m.2:Nat)]
def hd2(h:mW):AV:=fg [.int h.a,.int h.b,.int h.c] h.last h.kh
def km(hs:List mW):List AV:=hs.map hd2
structure v9(h:mW):Prop where
 sm:h.a+h.b+h.c<=4
 la:h.last<=6
 mj:h.kh<=100
abbrev ko(f:Nat->Nat)(wd:Int)(ct:AV)(G:Nat->Nat->Nat)(sz:Int)(he:AV)(acc:Acc)(pr:List AV)(n:Nat)(z:Sg):Sg:=dn (tN f) wd ct (qS G++v7) sz he (kj acc.1) pr (iD n (km acc.2) z)
end
theorem Hz(h:a+b+c<=4):(a,b,c)∈LK:=List.mem_filter.mpr ⟨List.mem_flatMap.mpr ⟨a,List.mem_range.mpr ((aC 0xec590b4982810 286343443) h),List.mem_flatMap.mpr ⟨b,List.mem_range.mpr ((aC 0xec590b4982801 286343443) h),List.mem_map.mpr ⟨c,List.mem_range.mpr ((aC 0xec590b4980821 286343443) h),rfl⟩⟩⟩,kz h⟩
theorem HA(G:Nat->Nat->Nat)(n:Nat)(h:mW)(acc:Acc)(s:Nat):(dO G n h acc s).1.length<=acc.1.length+1/\(dO G n h acc s).2.length<=acc.2.length+1:=by
 unfold dO;cases Ce h.a h.b h.c s with
 |false=>exact⟨jt _,jt _⟩|true=>cases Cf h.a h.b h.c s with
  |true=>exact⟨i7 dG,jt _⟩|false=>exact⟨jt _,i7 dG⟩
theorem Rk(G:Nat->Nat->Nat)(n:Nat)(h:mW):∀(l:List Nat) (acc:Acc),(l.foldl (dO G n h) acc).1.length<=acc.1.length+l.length/\(l.foldl (dO G n h) acc).2.length<=acc.2.length+l.length|[],acc=>⟨aQ _,aQ _⟩|s::l,acc=>by have h1:=HA G n h acc s;have h2:=Rk G n h l (dO G n h acc s);rw[wJ,bP];exact(wV 0xe1fb8819243b88192101fb81946b819151fb8263b8250 0x1010151110114117) h1 h2
section
theorem HB(h:j<3)(x:Bx (BS j σ (λσ'=>PS (j+1) σ' ks kr) kr)):Bx (PS j σ ks kr):=.of (aX nS (List.mem_range.mpr h)) x
def FF(z:Sg):Prop:=∃s l g,z=d9 s (eD l (d4 g))
def FS(z:Sg):Prop:=z=[]∨FF z
theorem uS(hG:∀x s,x<6->s<6->1<=G x s/\G x s<=2)(hn:1<=n/\n<=4)(O:v9 h)(h1:acc.1.length<=1000000)(h2:acc.2.length<=1000000)(hs:s<6)(hz:FS z) (H:∀z,FF z->Bx (LS kr xs (ko f wd ct G sz he (dO G n h acc s) pr n (dq (eZ h.a h.b h.c) h.last h.kh z)) ks)):Bx (LS kr (.int s::xs) (ko f wd ct G sz he acc pr n (dq (eZ h.a h.b h.c) h.last h.kh z)) ks):=by
 have ms:=List.mem_range.mpr hs;have Rl:1<=tE G h.last s/\tE G h.last s<=2:=by
  unfold tE;cases e:aS h.last 6 with|true=>exact⟨aQ 1,jt 1⟩|false=>exact hG _ _ (by have i0:=O.la;have i1:=nZ e;exact(ax 0xec690b6900fd690 299277901443345) i0 i1) hs
 have ev:v8 (λa b=>(G a b:Int)) h.last s=(tE G h.last s:Nat):=by unfold v8 tE;cases aS h.last 6<;>rfl
 have eg:(h.kh:Int)+((tE G h.last s:Nat)-1)*((n:Int)-1)=(pq G n h s:Nat):=by unfold pq;rw[og,gZ,Int.natCast_sub Rl.1,Int.natCast_sub hn.1];rfl
 have mx:=(by decide:∀s,s<6->gi s<=1) s hs;have c:∀l g,g=(pq G n h s:Int)->l=eZ ((h.a:Int)-(nd s 0:Nat)) ((h.b:Int)-(nd s 1:Nat)) ((h.c:Int)-(nd s 2:Nat))->Bx (PS 2 (ko f wd ct G sz he acc pr n (dq (eZ h.a h.b h.c) h.last h.kh (d9 s (eD l (d4 g))))) (λσ=>LS kr xs σ ks) kr):=λl g e1 e2=>by
  subst e1 e2;refine HB ⋯ (.of (aX (aX tSc (Hz O.sm)) ms) ?_);have H:=λs' l g=>H (d9 s' (eD l (d4 g))) ⟨_,_,_,rfl⟩;unfold dO at H;cases e1:Ce h.a h.b h.c s with
  |false=>rw[e1]at H;exact .of Hy (H _ _ _)|true=>
   rw[e1]at H;cases e2:Cf h.a h.b h.c s with
   |true=>
    rw[e2]at H;refine .g (d:=by unfold eE;infer_instance) (lL (a:=(n:Int)) (b:=(gi s:Nat)) (i:=3) (j:=1) ((ao 0xec8901fb491b1192f1f8e4e5e15e06e095e11f8e5e15e06e5e109 0x1010411101015112) hn g7) ((ao 0xec290b1912f1f8e4e5e15e06e095e11f8e5e15e06e5e109 0x10100161110114112) mx g7) ⋯) (.g ?_ (.of Hy ?_))
    ·show(acc.1.map _).length<=_;rw[bB];exact(ax 0xeb9896806a0bf42405a0 1122577) h1
    ·rw[<-gZ,<-og]
     have e:kj acc.1++[.tup [.int (n:Nat),.int (pq G n h s+n*gi s:Nat)]]=kj (acc.1++[(n,pq G n h s+n*gi s)]):=by(first|unfold kj|unfold km);rw[nW];rfl
     rw[e];exact H _ _ _|false=>
    rw[e2]at H;refine .g ?_ (.of Hy ?_)
    ·show(acc.2.map _).length<=_;rw[bB];exact(ax 0xeb9896806a0bf42405a0 1122577) h2
    ·have e:km acc.2++[fg [.int (h.a-nd s 0:Nat),.int (h.b-nd s 1:Nat),.int (h.c-nd s 2:Nat)] s (pq G n h s:Nat)]=km (acc.2++[⟨h.a-nd s 0,h.b-nd s 1,h.c-nd s 2,s,pq G n h s⟩]):=by(first|unfold kj|unfold km);rw[nW];rfl
     rw[e];exact H _ _ _
 have b:∀z,(z=[]∨∃g,z=d4 g)->Bx (PS 1 (ko f wd ct G sz he acc pr n (dq (eZ h.a h.b h.c) h.last h.kh (d9 s (eD (eZ ((h.a:Int)-(nd s 0:Nat)) ((h.b:Int)-(nd s 1:Nat)) ((h.c:Int)-(nd s 2:Nat))) z)))) (λσ=>LS kr xs σ ks) kr):=λz hz=>by
  refine HB ⋯ ?_;have mx:=List.mem_range.mpr (jw O.la);have fin:=Bx.g (d:=by unfold eE;infer_instance) (lL (a:=v8 (λa b=>(G a b:Int)) h.last s-1) (b:=(n:Int)-1) (i:=1) (j:=3) (by rw[ev];exact(ao 0xec2901fb291b1192f1f8e4e3e195e15e06e093e195e11f8e3e195e15e06e3e195e109 0x10011511101015112) Rl g7) ((ao 0xec8901fb491b1192f1f8e4e3e195e15e06e093e195e11f8e3e195e15e06e3e195e109 0x10011511101015112) hn g7) ⋯) (c (eZ ((h.a:Int)-(nd s 0:Nat)) ((h.b:Int)-(nd s 1:Nat)) ((h.c:Int)-(nd s 2:Nat))) ((h.kh:Int)+(v8 (λa b=>(G a b:Int)) h.last s-1)*((n:Int)-1)) (by rw[ev];exact eg) rfl);rcases hz with rfl|⟨g,rfl⟩
  ·exact .of (gE (aX (aX (Rj (g':=0)) ms) mx)) fin
  ·exact .of (gj (aX (aX Rj ms) mx)) fin
 have a:∀z,(z=[]∨∃l g,z=eD l (d4 g))->Bx (PS 0 (ko f wd ct G sz he acc pr n (dq (eZ h.a h.b h.c) h.last h.kh (d9 s z))) (λσ=>LS kr xs σ ks) kr):=λz hz=>by
  refine HB ⋯ ?_;rcases hz with rfl|⟨l,g,rfl⟩
  ·exact .of (gE (aX (Rg (k':=.none) (g':=0)) ms)) (b _ (.inl rfl))
  ·exact .of (gj (aX Rg ms)) (b _ (.inr ⟨_,rfl⟩))
 rcases hz with rfl|⟨s',l,g,rfl⟩
 ·exact .of (gE (tS (g:=0) (k':=.none) (g':=0))) (a _ (.inl rfl))
 ·exact .of (gj tS) (a _ (.inr ⟨_,_,rfl⟩))
theorem Ro(hG:∀x s,x<6->s<6->1<=G x s/\G x s<=2)(hn:1<=n/\n<=4)(O:v9 h):∀(l:List Nat),(∀s∈l,s<6)->∀(acc:Acc),acc.1.length+l.length<=1000000->acc.2.length+l.length<=1000000->∀z,FF z-> (∀z,FF z->Bx (ks (ko f wd ct G sz he (l.foldl (dO G n h) acc) pr n (dq (eZ h.a h.b h.c) h.last h.kh z))))->Bx (LS kr (l.map λ(s:Nat)=>.int s) (ko f wd ct G sz he acc pr n (dq (eZ h.a h.b h.c) h.last h.kh z)) ks)|[],_,acc,_,_,z,hz,H=>H z hz|s::l,hl,acc,h1,h2,z,hz,H=>by rw[bP]at h1 h2;have sl:=HA G n h acc s;exact uS hG hn O ((ao 0xebf42405a0bf42405a881910 17903890) h1) ((ao 0xebf42405a0bf42405a881910 17903890) h2) (hl s aK) (.inr hz) λz hz=>Ro hG hn O l (λx m=>hl x (aY _ m)) _ ((cV 0xebf42405a810bf42405a8819121fb81943b81920 17903893) h1 sl) ((cV 0xebf42405a810bf42405a8819121fb81920b81943 269566229) h2 sl) z hz H
def FG(z:Sg):Prop:=∃l x m w,z=dq l x m w/\FF w
theorem uH1(hG:∀x s,x<6->s<6->1<=G x s/\G x s<=2)(hn:1<=n/\n<=4)(O:v9 h)(h1:acc.1.length<=900000)(h2:acc.2.length<=900000)(hz:z=[]∨FG z)(H:∀z,FG z->Bx (LH kr xs (ko f wd ct G sz he (Cg G n acc h) pr n z) ks)):Bx (LH kr (hd2 h::xs) (ko f wd ct G sz he acc pr n z) ks):=by
 have fin:∀w,FS w->Bx (LS kr (B3 6) (ko f wd ct G sz he acc pr n (dq (eZ h.a h.b h.c) h.last h.kh w)) λσ=>LH kr xs σ ks):=λw hw=>by have s0:=HA G n h acc 0;refine uS (s:=0) hG hn O ((ax 0xebf42405a0bdbba05a0 1122577) h1) ((ax 0xebf42405a0bdbba05a0 1122577) h2) ⋯ hw λw hw=>?_;refine Ro hG hn O [1,2,3,4,5] ⋯ (dO G n h acc 0) (by show _+5<=_;exact(a9 0xebf42405a8590bdbba05a11fb81932b81910 17903892) h1 s0) (by show _+5<=_;exact(a9 0xebf42405a8590bdbba05a11fb81910b81932 269566228) h2 s0) w hw λw hw=>?_;exact H _ ⟨_,_,_,_,rfl,hw⟩
 rcases hz with rfl|⟨l,x,m,w,rfl,s,k,g,rfl⟩
 ·exact .of (gE (tH (l':=.none) (m':=0) (s':=0) (g:=0) (k':=.none) (g':=0))) (fin _ (.inl rfl))
 ·exact .of (gj tH) (fin _ (.inr ⟨_,_,_,rfl⟩))
theorem uH(hG:∀x s,x<6->s<6->1<=G x s/\G x s<=2)(hn:1<=n/\n<=4):∀(hs:List mW),(∀h∈hs,v9 h)->∀(acc:Acc),acc.1.length+6*hs.length<=900000->acc.2.length+6*hs.length<=900000->∀z,((z=[]/\hs≠[])∨FG z)-> (∀z,FG z->Bx (ks (ko f wd ct G sz he (hs.foldl (Cg G n) acc) pr n z)))->Bx (LH kr (km hs) (ko f wd ct G sz he acc pr n z) ks)|[],_,acc,_,_,z,hz,H=>H z (hz.elim (λq=>absurd rfl q.2) id)|h::hs,hl,acc,h1,h2,z,hz,H=>by rw[bP]at h1 h2;have sl:=Rk G n h (au 6) acc;refine uH1 hG hn (hl h aK) ((ao 0xebdbba05a0bdbba05a81e8191690 17597572654626) h1) ((ao 0xebdbba05a0bdbba05a81e8191690 17597572654626) h2) (hz.elim (λq=>.inl q.1) .inr) λz hz=>?_;exact uH hG hn hs (λx m=>hl x (aY _ m)) (Cg G n acc h) ((cV 0xebdbba05a81e1690bdbba05a81e81916921fb86943b86920 17903893) h1 sl) ((cV 0xebdbba05a81e1690bdbba05a81e81916921fb86920b86943 269566229) h2 sl) z (.inr hz) H
end
theorem Bx.m{x y:Int}{p:Prop}(i j:Nat)(hx:x.natAbs<2^i)(hy:y.natAbs<2^j)(h:i+j<=100000000)(hp:Bx p):Bx (eV x y p):=.g (d:=by unfold eE;infer_instance) (lL hx hy h) hp
section
noncomputable def bK(wd:Nat):Nat->Nat|0=>1|i+1=>bK wd i*(2^(wd*(i+1))-1)
def ku(wd n:Nat):List AV:=fK n λi=>(bK wd i:Int)
structure HC(G:Nat->Nat->Nat)(a b c wd:Nat):Prop where
 hG:∀x s,x<6->s<6->1<=G x s/\G x s<=2
 n:1<=a+b+c/\a+b+c<=4
 hw:wd<=500
 len:∀i,i<a+b+c->(d5 G a b c i).1.length<=2000/\(d5 G a b c i).2.length<=2000
 yG:∀i,i<a+b+c->∀h∈(d5 G a b c i).2,v9 h
 pos:∀i,i<=a+b+c->bK wd i<2^6000
noncomputable def bO(t:AV)(wd:Int)(ct:AV)(sz:Int)(mj pr:List AV)(e:Sg):Sg:=("told",t)::("wide",.int wd)::("counts",ct)::("size",.int sz)::("majors",.lst mj)::("products",.lst pr)::e
end
section
theorem wc(h:j<4)(x:Bx (BT j σ (λσ'=>PT (j+1) σ' ks kr) kr)):Bx (PT j σ ks kr):=.of (aX n20 (List.mem_range.mpr h)) x
abbrev HD(f:Nat->Nat)(wd:Nat)(ct:AV)(G:Nat->Nat->Nat)(sz:Int)(he:AV)(acc:Acc)(pr:List AV)(e:Sg):Sg:=dn (tN f) wd ct (qS G++v7) sz he (kj acc.1) pr e
theorem aiq(wd n:Nat):ku wd n++[.int (bK wd n:Nat)]=ku wd (n+1):=BZ (λi=>AV.int (bK wd i:Nat)) n
theorem Rp{i:Nat}{he:AV}{mj:List AV}{ga:List AV}(hi:i<4)(hw:wd<=500)(hp:bK wd i<2^6000){e:Sg}(hf:e=yF (i+1:Nat)∨∃lo z,e=qU (i+1:Nat) lo z/\FG z)(H:Bx (ks (dn (tN f) wd ct ga sz he mj (ku wd (i+2)) e))):Bx (BT 0 (dn (tN f) wd ct ga sz he mj (ku wd (i+1)) e) ks kr):=by
 have m4:=List.mem_range.mpr hi;have Rq:=lV hw hi;have ex:(2:Int)^((wd:Int)*((i+1:Nat):Int)).toNat-1=((2^(wd*(i+1))-1:Nat):Int):=by rw[<-gZ,cw,Int.natCast_sub (fE _),y2];rfl
 have ep:ku wd (i+1)++[.int ((bK wd i:Nat)*(2^((wd:Int)*((i+1:Nat):Int)).toNat-1))]=ku wd (i+2):=by rw[ex,<-gZ];exact aiq wd (i+1)
 have Rr:∀k,Bx k->Bx (eV (wd:Int) (i+1:Nat) (gI ((0:Int)<=(wd:Int)*(i+1:Nat)/\(bk 2:Int)*((wd:Int)*(i+1:Nat))<=2^27) (eV (bK wd i:Nat) (2^((wd:Int)*((i+1:Nat):Int)).toNat-1) k))):=λk hk=>by
  have b2:(bk 2:Int)=2:=⋯
  refine .m 10 3 ((ao 0xec4003a0b1f43a12f1f8e4e5e15e06e095e11f8e5e15e06e5e109 0x10100161110114112) hw g7) ((ao 0xec890c4912f1f8e4e5e81915e06e095e81911f8e5e81915e06e5e819109 0x10010061110114112) hi g7) ⋯ (.g ?_ (.m 6000 2001 ?_ ?_ ⋯ hk))
  ·constructor
   ·rw[<-gZ];exact bA _
   ·rw[b2,<-gZ];have:(2:Int)^27=134217728:=rfl;exact(bL 0xe6e01e5e029b7d03a08e80000007a0 282785210253857 [_] [_]) Rq this
  ·rw[fQ];exact hp
  ·rw[ex,fQ];exact b9 (Nat.sub_le _ _) (jv ⋯ ((ax 0xec7d13a0b7d03a0 1122577) Rq))
 rw[<-ep]at H;rcases hf with rfl|⟨lo,z,rfl,l,y,m,w,rfl,s,k,g,rfl⟩
 ·exact .of (aX (aX (Rd (lo:=[]) (l':=.none) (m':=0) (s':=0) (g:=0) (k':=.none) (g':=0)) m4) aK) (Rr _ H)
 ·exact .of (aX (aX (Rd) m4) (aY _ aK)) (Rr _ H)
def HE(i:Nat)(hs:List AV)(he:AV)(e:Sg):Prop:=(i=0/\he=.own hs/\e=[])∨(he=.lst hs/\∃x lo z,e=qU x lo z/\FG z)
theorem air(O:HC G a b c wd)(hi:i<a+b+c)(hf:HE i (km (d5 G a b c i).2) he e) (H:∀he e,HE (i+1) (km (d5 G a b c (i+1)).2) he e->Bx (LE 20 kr xs (HD f wd ct G sz he (d5 G a b c (i+1)) (ku wd (i+2)) e) ks)):Bx (LE 20 kr (.int (i+1:Nat)::xs) (HD f wd ct G sz he (d5 G a b c i) (ku wd (i+1)) e) ks):=by
 have hn:1<=i+1/\i+1<=4:=by have:=O.n;exact(a9 0xe1fb498190b819019c8382101fb4983821b8382119 0x1011411100000018114) hi this
 obtain⟨l1,l2⟩:=O.len i hi;have hw:=O.hw;have st3:∀z,FG z->Bx (PT 3 (ko f wd ct G sz (.lst (km (d5 G a b c i).2)) (d5 G a b c (i+1)) (ku wd (i+2)) (i+1) z) (λσ=>LE 20 kr xs σ ks) kr):=λz hz=>by obtain⟨l,x,m,w,rfl,s,k,g,rfl⟩:=hz;refine wc ⋯ (.of (gj ain) (.of aim ?_));exact H _ _ (.inr ⟨rfl,_,_,_,rfl,_,_,_,_,rfl,_,_,_,rfl⟩)
 have Rs:∀he z,(he=.own (km (d5 G a b c i).2)∨he=.lst (km (d5 G a b c i).2))->((z=[]/\(d5 G a b c i).2≠[])∨FG z)->Bx (PT 2 (dn (tN f) wd ct (qS G++v7) sz he (kj (d5 G a b c i).1) (ku wd (i+2)) (iD (i+1:Nat) [] z)) (λσ=>LE 20 kr xs σ ks) kr):=λhe z nq hz=>by
  refine wc ⋯ ?_;have fin:Bx (LH kr (km (d5 G a b c i).2) (ko f wd ct G sz (.lst (km (d5 G a b c i).2)) ((d5 G a b c i).1,[]) (ku wd (i+2)) (i+1) z) λσ=>PT 3 σ (λσ=>LE 20 kr xs σ ks) kr):=
   uH O.hG hn _ (O.yG i hi) ((d5 G a b c i).1,[]) (by show(d5 G a b c i).1.length+_<=_;exact(ao 0xebdbba05a81e1690b7d03a0b7d03a1 17597572654626) l1 l2) (by show 0+_<=_;exact(ax 0xebdbba05a81e06909b7d03a0 69039363617) l2) z hz st3
  have Fj:z=[]∨FG z:=hz.elim (λq=>.inl q.1) .inr;rcases Fj with rfl|⟨l,x,m,w,rfl,s,k,g,rfl⟩<;>rcases nq with rfl|rfl
  ·exact .of (aX (aX (Cc (l':=.none) (m':=0) (s':=0) (g:=0) (k':=.none) (g':=0)) aK) aK) fin
  ·exact .of (aX (aX (Cc (l':=.none) (m':=0) (s':=0) (g:=0) (k':=.none) (g':=0)) aK) (aY _ aK)) fin
  ·exact .of (aX (aX Cc (aY _ aK)) aK) fin
  ·exact .of (aX (aX Cc (aY _ aK)) (aY _ aK)) fin
 have dB:i=0->(d5 G a b c i).2≠[]:=λq=>by subst q;exact List.cons_ne_nil _ _
 have hp:=O.pos i (dw hi);rcases hf with⟨h0,rfl,rfl⟩|⟨rfl,x,lo,z,rfl,hz⟩
 ·refine .of (gE (Rb (x':=0) (lo:=[]) (l':=.none) (m':=0) (s':=0) (g:=0) (k':=.none) (g':=0))) (wc ⋯ (Rp ((ax 0xec4901fb498190b819019 16855313) hn) hw hp (.inl rfl) ?_))
  exact wc ⋯ (.of (gE (Rf (lo:=[]) (l':=.none) (m':=0) (s':=0) (g:=0) (k':=.none) (g':=0))) (Rs _ _ (.inl rfl) (.inl ⟨rfl,dB h0⟩)))
 ·obtain⟨l,y,m,w,rfl,s,k,g,rfl⟩:=hz
  have hz:FG (dq l y m (d9 s (eD k (d4 g)))):=⟨_,_,_,_,rfl,_,_,_,rfl⟩
  refine .of (gj Rb) (wc ⋯ (Rp ((ax 0xec4901fb498190b819019 16855313) hn) hw hp (.inr ⟨_,_,rfl,hz⟩) ?_));exact wc ⋯ (.of (gj Rf) (Rs _ _ (.inr rfl) (.inr hz)))
end
section
variable{K:Sg->Prop}
theorem ait(F:a7 id C bS)(O:HC G a b c wd)(hk:Ys C (bO (tN f) wd (eZ a b c) (a+b+c:Nat) (kj (d5 G a b c (a+b+c)).1) (ku wd (a+b+c+1)) []) r K Kr):Ys C (v5 (tN f) wd (eZ a b c) (qS G) []) (aH 18::aH 19::aH 20::r) K Kr:=by
 refine Ys.q 18 F pZ (Ys.q 19 F p9 (lO (by show(tC _).length<=_;unfold tC;rw[bB,gH];decide) ?_));have es:[(a:Int),(b:Int),(c:Int)].sum=((a+b+c:Nat):Int):=by simp only[ni,List.sum_nil];exact aC 0xe8e5e82810888095e25e15e0 4581298451
 rw[es];refine Ys.q 20 F (aX qa (List.mem_range.mpr (jw O.n.2))) (Bx.x ?_);have key:∀n i,i+n=a+b+c->∀he e,HE i (km (d5 G a b c i).2) he e->Bx (LE 20 Kr (((au (a+b+c)).drop i).map λi=>.int (i+1:Nat)) (HD f wd (eZ a b c) G (a+b+c:Nat) he (d5 G a b c i) (ku wd (i+1)) e) λσ=>Ys C σ r K Kr):=λn=>by
  induction n with|zero=>intro i hi he e hf;rw[ug (by rw[gH];exact(a9 0xeb382810d828108093 16855316) hi),show i=a+b+c by exact(a9 0xed838210d838218090 18833716883732) hi];refine⟨Ys.kW ?_ hk⟩;exact .cons (.cons (.cons (.cons (.eH (.eH .nil ⋯) ⋯) ⋯) ⋯) ⋯) ⋯|succ n ih=>intro i hi he e hf;rw[pG (by rw[gH];exact(cV 0xec838210d83821881940 269566229) hi),zd];exact air O ((cV 0xec838210d83821881940 269566229) hi) hf λhe e hf=>ih (i+1) ((cV 0xed84832818190d84832881910 18833716883733) hi) he e hf
 exact key (a+b+c) 0 (iY _) _ [] (.inl ⟨rfl,rfl,rfl⟩)
end
section
noncomputable def gS(wh th:Int)(e:Sg):Sg:=("whole",.int wh)::("three",.int th)::e
noncomputable def kY(up:Int)(e:Sg):Sg:=("upper",.int up)::e
noncomputable def qV(re:Int)(e:Sg):Sg:=("rest",.int re)::e
noncomputable def yH(lo to:Int)(e:Sg):Sg:=("lone",.int lo)::("torn",.int to)::e
abbrev Rt:ab:=sV (sV (jk (aH 22) 0) [0]) [1]
abbrev HF(σ:Sg)(xs:List AV)(k:List AV->Prop):Prop:=runC eM 27 bS Rt (iq (sW Rt).names σ) xs k
abbrev HG(x y:Int)(p:Prop):Prop:=gI ((0:Int)<=y/\(bk x:Int)*y<=2^27) p
section
theorem ur(t:List AV)(ht:t=[.int a,.int b,.int c,.int d,.int e,.int g]):(LK.map λl=>dP 21 (bO (.lst t) wd (eZ l.1 l.2.1 l.2.2) (l.1+l.2.1+l.2.2:Nat) mj (fK (l.1+l.2.1+l.2.2+1) p) []) ks kr)=mapR LK λl=>iS e 486 λu=>eV (p (l.1+l.2.1+l.2.2)) (1+u.fmod 2) (eV (p l.1) (p l.2.1) (eV (p l.1*p l.2.1) (p l.2.2) (ks (bO (.lst t) wd (eZ l.1 l.2.1 l.2.2) (l.1+l.2.1+l.2.2:Nat) mj (fK (l.1+l.2.1+l.2.2+1) p) (gS (p (l.1+l.2.1+l.2.2)*(1+u.fmod 2)) (p l.1*p l.2.1*p l.2.2) []))))):=by subst ht;exact⋯
theorem u22:dP 22 (bO t wd ct sz mj pr (gS wh th [])) ks kr=gI (mj.length<=100000) (HF (bO t wd ct sz mj pr (gS wh th [])) mj λvs=>opt False (cj aR vs) λis=>eV is.sum th (ks (bO t wd ct sz mj pr (gS wh th (kY (is.sum*th) []))))):=⋯
theorem t22:((au 5).map λn=>(au (n+1)).map λ(s:Nat)=>HF (bO t wd ct sz mj (fK (n+1) p) (gS wh th [])) (.tup [.int (s:Nat),.int m]::xs) k)=mapR (au 5) λn=>mapR (au (n+1)) λ(s:Nat)=>iS wh (p s) λq=>eV wd (19-m) (HG 2 (wd*(19-m)) (eV q (2^(wd*(19-m)).toNat) (HF (bO t wd ct sz mj (fK (n+1) p) (gS wh th [])) xs λvs=>k (.int (q*2^(wd*(19-m)).toNat)::vs)))):=⋯
theorem uu(t:List AV)(ht:t=[.int a,.int b,.int c,.int d,.int e,.int g]):dP 23 (bO (.lst t) wd ct sz mj pr (gS wh th (kY up []))) ks kr=iS g 3 λu=>gI (wh≠0) (iS g 3 λu'=>gI (wh≠0) (xp eM (AN eM bS "rest" (bO (.lst t) wd ct sz mj pr (gS wh th (kY up []))) ks) [.int 0,.int (u.fmod wh),.int (wh-1-u'.fmod wh)] (g.fmod 3))):=by subst ht;exact⋯
theorem ot:dP 24 (bO t wd ct sz mj pr (gS wh th (kY up (qV re [])))) ks kr=eV 19 wd (HG 2 (19*wd) (ae (re !=0) (ks (bO t wd ct sz mj pr (gS wh th (kY up (qV re (yH (2^(19*wd).toNat) 1 [])))))) (ks (bO t wd ct sz mj pr (gS wh th (kY up (qV re (yH (2^(19*wd).toNat) 0 [])))))))):=⋯
end
end
def gU(wd e n:Nat):Nat:=bK wd n*(1+e/486%2)
def fL(wd a b c:Nat):Nat:=bK wd a*bK wd b*bK wd c
def Ch(wd W:Nat)(m:Nat×Nat):Nat:=W/bK wd m.1*2^(wd*(19-m.2))
def pv(wd W:Nat)(ms:List (Nat×Nat)):Nat:=(ms.map (Ch wd W)).sum
noncomputable def px(W g:Nat):Nat:=[0,g/3%W,W-1-g/3%W].getD (g%3) 0
noncomputable def tF(R:Nat):Nat:=if R=0 then 0 else 1
structure we(a b c wd W:Nat)(ms:List (Nat×Nat)):Prop where
 n4:a+b+c<=4
 hw:wd<=500
 pos:∀i,i<=a+b+c->0<bK wd i/\bK wd i<2^6000
 hW:0<W/\W<2^6001
 len:ms.length<=2000
 aiw:∀m∈ms,m.1<=a+b+c/\m.2<=19
 sum:pv wd W ms<2^20000
theorem yI:∀is:List Int,cj aR (is.map .int)=some is|[]=>rfl|i::is=>by show opt none (some i) (λb=>opt none (cj aR (is.map .int)) λbs=>some (b::bs))=_;rw[yI is]
theorem HH(hx:x<2^i)(hy:y<2^j):x*y<2^(i+j):=by rw[gu];exact b9 (lV (dw hx) (aQ y)) (IR hy (fE i))
theorem Bx.mN{x y:Nat}{p:Prop}(i j:Nat)(hx:x<2^i)(hy:y<2^j)(h:i+j<=100000000)(hp:Bx p):Bx (eV x y p):=.m i j hx hy h hp
theorem Bx.dv{a b:Nat}{x:Int->Prop}(h0:0<b)(hb:b<2^8000)(h:Bx (x ((a/b:Nat):Int))):Bx (iS a b x):=.g (nN a b h0 hb) (by rw[iP];exact h)
theorem Bx.pw{y:Nat}{p:Prop}(hy:y<=1000000)(hp:Bx p):Bx (HG 2 y p):=.g ⟨bA _,by
 have b2:(bk 2:Int)=2:=⋯
 have:(2:Int)^27=134217728:=rfl
 rw[b2];exact(bL 0xe6e01e5e029bf42405a08e80000007a0 282785210253857 [_] [_]) hy this⟩ hp
theorem Ru(y:Nat):(2:Int)^y=((2^y:Nat):Int):=by rw[y2];rfl
section
variable{K:Sg->Prop}
abbrev nR(f:Nat->Nat)(wd a b c:Nat)(ms:List (Nat×Nat))(e:Sg):Sg:=bO (tN f) wd (eZ a b c) (a+b+c:Nat) (kj ms) (ku wd (a+b+c+1)) e
abbrev vE4(f:Nat->Nat)(wd a b c:Nat)(W:Nat)(ms:List (Nat×Nat))(e:Sg):Sg:=gS W (fL wd a b c) (kY (pv wd W ms*fL wd a b c:Nat) (qV (px W (f 5)) (yH (2^(19*wd):Nat) (tF (px W (f 5))) e)))
theorem aiy(F:a7 id C bS)(O:we a b c wd (gU wd (f 4) (a+b+c)) ms)(hk:Ys C (nR f wd a b c ms (gS (gU wd (f 4) (a+b+c):Nat) (fL wd a b c:Nat) [])) r K Kr):Ys C (nR f wd a b c ms []) (aH 21::r) K Kr:=by have pa:=O.pos a (by exact aC 3951198464 17903891);have pb:=O.pos b (by exact aC 3951198224 17903891);have pc:=O.pos c (aC 3951067664 17903891);have pn:=O.pos _ (aQ _);have h2:f 4/486%2<2:=dr _ ⋯;have q:=λks kr=>aX (ur (p:=λi=>(bK wd i:Int)) (wd:=wd) (mj:=kj ms) (ks:=ks) (kr:=kr) (tA λi=>f i) rfl) (Hz O.n4);dsimp only at q;refine Ys.q 21 F (q _ _) (Bx.x ?_);refine .g (nN (f 4) 486 ⋯ ⋯) ?_;rw[show(486:Int)=((486:Nat):Int)from rfl,iP];dsimp only;rw[show(2:Int)=((2:Nat):Int)from rfl,gQ];have e1:(1:Int)+((f 4/486%2:Nat):Int)=((1+f 4/486%2:Nat):Int):=(og 1 _).symm;rw[e1,<-gZ,<-gZ,<-gZ];refine .mN 6000 2 pn.2 ((ax 0xec498019c290 1122577) h2) ⋯ (.mN 6000 6000 pa.2 pb.2 ⋯ (.mN 12000 6000 (HH pa.2 pb.2) pc.2 ⋯ ⟨hk⟩))
theorem aiz{W:Nat}(F:a7 id C bS)(O:we a b c wd W ms)(hk:Ys C (nR f wd a b c ms (gS W (fL wd a b c:Nat) (kY (pv wd W ms*fL wd a b c:Nat) []))) r K Kr):Ys C (nR f wd a b c ms (gS W (fL wd a b c:Nat) [])) (aH 22::r) K Kr:=by
 have pa:=O.pos a (aC 3951198464 17903891);have pb:=O.pos b (aC 3951198224 17903891);have pc:=O.pos c (aC 3951067664 17903891);have hT:=HH (HH pa.2 pb.2) pc.2;refine Ys.q 22 F u22 (Bx.x (.g ?_ ?_))
 ·unfold kj;rw[bB];exact az O.len ⋯
 refine yB (f:=λm=>.int (Ch wd W m:Nat)) (λJ=>rfl) ms _ (λm hm xs k h=>?_) ?_
 ·obtain⟨m1,m2⟩:=O.aiw m hm
  have ps:=O.pos _ m1;refine .of (aX (aX (t22 (p:=λi=>(bK wd i:Int))) (List.mem_range.mpr (jw O.n4))) (List.mem_range.mpr (jw m1))) ?_;refine .dv ps.1 (jU ps.2 (jv ⋯ ⋯)) ?_;have hw:=O.hw;have hx:wd*(19-m.2)<=500*19:=lV O.hw (Nat.sub_le _ _);rw[show(19:Int)-(m.2:Int)=((19-m.2:Nat):Int)by exact(ao 0xe8e5e13e5e0132ab132a02f1fd091b0132a1fd132a801b132a0 0x1010151110001511101141110014112) m2 aq];refine .mN 10 5 ((ax 0xec4003a0b1f43a0 1122577) hw) ((ao 0xec202a02f1fd090b1132a1fd132a810b132a1 72393018115707154) aq) ⋯ ?_;rw[<-gZ,cw,Ru];refine .pw ((ax 0xebf42405a0b251c4a0 1122577) hx) (.mN 6001 9501 ?_ ?_ ⋯ ?_)
  ·exact b9 (Nat.div_le_self _ _) O.hW.2
  ·exact jv ⋯ ((ax 0xec251d4a0b251c4a0 1122577) hx)
  ·rw[<-gZ];exact h
 have es:ms.map (λm=>AV.int (Ch wd W m:Nat))=((ms.map (Ch wd W)).map λn:Nat=>(n:Int)).map .int:=by rw[oj,oj];rfl
 have eS:∀l:List Nat,(l.map λn:Nat=>(n:Int)).sum=(l.sum:Nat):=λl=>by
  induction l with|nil=>rfl|cons x l ih=>rw[gm,ni,ni,ih,og]
 rw[es,yI];show Bx (eV _ _ _);rw[eS];refine .mN 20000 18000 O.sum hT ⋯ ⟨?_⟩;rw[<-gZ];exact hk
theorem aiA{W:Nat}{up:Int}(F:a7 id C bS)(O:we a b c wd W ms)(hk:Ys C (nR f wd a b c ms (gS W (fL wd a b c:Nat) (kY up (qV (px W (f 5):Nat) [])))) r K Kr):Ys C (nR f wd a b c ms (gS W (fL wd a b c:Nat) (kY up []))) (aH 23::r) K Kr:=by
 refine Ys.q 23 F (uu (tA λi=>f i) rfl) (Bx.x ?_);have jO:((W:Nat):Int)≠0:=by have:=O.hW.1;exact(ax 0xe0f8e095e0c009 16855313) this
 refine .dv (a:=f 5) (b:=3) ⋯ ⋯ (.g jO (.dv (a:=f 5) (b:=3) ⋯ ⋯ (.g jO ?_)));rw[show(3:Int)=((3:Nat):Int)from rfl,gQ,gQ];have hm:f 5/3%W<W:=dr _ O.hW.1;have e3:((W:Nat):Int)-1-((f 5/3%W:Nat):Int)=((W-1-f 5/3%W:Nat):Int):=by exact(a9 0xe8e5e23e5e13e195e0c012f1fd093b1901fd08193b0192f1fd092b131fd3812b31 0x11000000101b1111000000101b111011000181110010001811100001171110001001011b11100001171110010017114) hm aq aq
 have h3:f 5%3<3:=dr _ ⋯;have er:([.int 0,.int ((f 5/3%W:Nat):Int),.int ((W:Nat)-1-((f 5/3%W:Nat):Int))]:List AV)[f 5%3]?=some (.int (px W (f 5):Nat)):=by
  rw[e3];unfold px
  match f 5%3,h3 with|0,_|1,_|2,_=>rfl
 exact⟨Hm er hk⟩
theorem aiB{W up re:Nat}(F:a7 id C bS)(O:we a b c wd W ms)(hk:Ys C (nR f wd a b c ms (gS W (fL wd a b c:Nat) (kY up (qV re (yH (2^(19*wd):Nat) (tF re:Nat) []))))) r K Kr):Ys C (nR f wd a b c ms (gS W (fL wd a b c:Nat) (kY up (qV re [])))) (aH 24::r) K Kr:=by
 have hw:=O.hw;refine Ys.q 24 F ot (Bx.x (.mN (x:=19) 5 10 ⋯ ((ax 0xec4003a0b1f43a0 1122577) hw) ⋯ ?_));rw[show(19:Int)=((19:Nat):Int)from rfl,<-gZ,cw,Ru];refine .pw ((ax 0xebf42405a1e0132ab1f43a0 282785228205857) hw) ?_;cases re with|zero=>exact⟨hk⟩|succ re=>exact⟨hk⟩
theorem aiC(F:a7 id C bS)(O:we a b c wd (gU wd (f 4) (a+b+c)) ms)(hk:Ys C (nR f wd a b c ms (vE4 f wd a b c (gU wd (f 4) (a+b+c)) ms [])) r K Kr):Ys C (nR f wd a b c ms []) (aH 21::aH 22::aH 23::aH 24::r) K Kr:=aiy F O (aiz F O (aiA F O (aiB F O hk)))
end
section
noncomputable def qW(x y u v:Int)(z:Sg):Sg:=("one",.int x)::("two",.int y)::("due",.tup [.int u,.int v])::z
noncomputable def pA(q r:Int):Sg:=[("pair",.tup [.int q,.int r])]
noncomputable def qd(x y u v:Int):AV:=.tup [.int x,.int y,.tup [.int u,.int v]]
abbrev tG(j:Nat)(σ:Sg)(k:Sg->Prop)(kr:AV->Prop):Prop:=(bD eM (30-j)).S bS σ ((fY (aH 25)).drop j) k kr
abbrev Ci(j:Nat)(σ:Sg)(k:Sg->Prop)(kr:AV->Prop):Prop:=eJ eM (bD eM (29-j)) bS σ ((fY (aH 25)).getD j (.Pass default)) k kr
def cT(wh th up re lo to:Int)(e:Sg):Sg:=gS wh th (kY up (qV re (yH lo to e)))
section
variable{wd wh th up re lo to sz x y u v x' y' u' v' q r q' r':Int}{mj pr xs:List AV}{t ct:AV}
theorem uv:dP 25 (bO t wd ct sz mj pr (cT wh th up re lo to [])) ks kr=eV wh to (eV wh to (LE 25 kr [qd (up+re) wh lo re,qd (-up-re) (-wh) lo (-re),qd (-up-re) wh (-lo-to) (wh*to-re),qd (up+re) (-wh) (-lo-to) (re-wh*to)] (bO t wd ct sz mj pr (cT wh th up re lo to [])) ks)):=⋯
theorem Rv:([[],qW x' y' u' v' (pA q' r')].map λe=>LE 25 kr (qd x y u v::xs) (bO t wd ct sz mj pr (cT wh th up re lo to e)) ks)=[[],pA q' r'].map λz=>tG 0 (bO t wd ct sz mj pr (cT wh th up re lo to (qW x y u v z))) (λσ=>LE 25 kr xs σ ks) kr:=⋯
theorem n25:((au 2).map λj=>tG j σ ks kr)=mapR (au 2) λj=>Ci j σ (λσ'=>tG (j+1) σ' ks kr) kr:=⋯
theorem aiE:tG 2 σ ks kr=ks σ:=⋯
theorem Rw:([[],pA q' r'].map λz=>Ci 0 (bO t wd ct sz mj pr (cT wh th up re lo to (qW x y u v z))) ks kr)=mapR [[],pA q' r'] λJ=>PI true true [x,y]/\∀q r,q=cQ [x,y]/\r=cR [x,y]->ks (bO t wd ct sz mj pr (cT wh th up re lo to (qW x y u v (pA q r)))):=⋯
theorem aiF:Ci 1 (bO t wd ct sz mj pr (cT wh th up re lo to (qW x y u v (pA q r)))) ks kr=ae (dW (decide ([q,r]=[u,v]))) (kr (.bool false)) (ks (bO t wd ct sz mj pr (cT wh th up re lo to (qW x y u v (pA q r))))):=⋯
end
end
structure kZ(x y u v:Int):Prop where
 d:DI true true x y
 q:x.fdiv y=u
 r:x.fmod y=v
def Rx(e:Sg):Prop:=e=[]∨∃x y u v q r,e=qW x y u v (pA q r)
section
variable{wd wh th up re lo to sz x y u v:Int}{mj pr xs:List AV}{t ct:AV}{ks:Sg->Prop}{kr:AV->Prop}{σ:Sg}
theorem HI(h:j<2)(x:Bx (Ci j σ (λσ'=>tG (j+1) σ' ks kr) kr)):Bx (tG j σ ks kr):=.of (aX n25 (List.mem_range.mpr h)) x
theorem Cj(O:kZ x y u v)(he:Rx e)(H:∀e,Rx e->Bx (LE 25 kr xs (bO t wd ct sz mj pr (cT wh th up re lo to e)) ks)):Bx (LE 25 kr (qd x y u v::xs) (bO t wd ct sz mj pr (cT wh th up re lo to e)) ks):=by
 have b:Bx (PI true true [x,y]/\∀q r,q=cQ [x,y]/\r=cR [x,y]->tG 1 (bO t wd ct sz mj pr (cT wh th up re lo to (qW x y u v (pA q r)))) (λσ=>LE 25 kr xs σ ks) kr):=⟨⟨x,y,rfl,O.d⟩,λq r e=>by
  obtain⟨rfl,rfl⟩:=e;refine(HI ⋯ (.of aiF ?_)).x;rw[show cQ [x,y]=u from O.q,show cR [x,y]=v from O.r,decide_eq_true rfl]
  exact .of aiE (H _ (.inr ⟨_,_,_,_,_,_,rfl⟩))⟩
 rcases he with rfl|⟨x',y',u',v',q',r',rfl⟩
 ·exact .of (gE (Rv (x':=0) (y':=0) (u':=0) (v':=0) (q':=0) (r':=0))) (HI ⋯ (.of (aX (Rw (q':=0) (r':=0)) aK) b))
 ·exact .of (gj Rv) (HI ⋯ (.of (aX Rw (aY _ aK)) b))
end
section
variable{C:Fc}{r:List Stmt}{K:Sg->Prop}{Kr:AV->Prop}{wd wh th up re lo to sz:Int}{mj pr:List AV}{t ct:AV}
theorem aiG(F:a7 id C bS)(m:eE wh to)(O1:kZ (up+re) wh lo re)(O2:kZ (-up-re) (-wh) lo (-re))(O3:kZ (-up-re) wh (-lo-to) (wh*to-re))(O4:kZ (up+re) (-wh) (-lo-to) (re-wh*to))(hk:Ys C (bO t wd ct sz mj pr (cT wh th up re lo to [])) r K Kr):Ys C (bO t wd ct sz mj pr (cT wh th up re lo to [])) (aH 25::r) K Kr:=by refine .q 25 F uv (Bx.x (.g (d:=by unfold eE;infer_instance) m (.g (d:=by unfold eE;infer_instance) m ?_)));refine Cj O1 (.inl rfl) λe he=>Cj O2 he λe he=>Cj O3 he λe he=>Cj O4 he λe he=>?_;exact Bx.mk (p:=Ys C (bO t wd ct sz mj pr (cT wh th up re lo to [])++e) r K Kr) (Ys.kW (.app e _) hk)
end
section
noncomputable def jP(Q No:Int)(e:Sg):Sg:=("quotient",.int Q)::("nothing",.int No)::e
noncomputable def tI(pl:List AV)(e:Sg):Sg:=("plain",.lst pl)::e
noncomputable def Ry(dg:List AV):Sg:=[("digits",.lst dg)]
section
variable{wd wh th up re lo to sz x y u v x' y' u' v' q r q' r' Q s m j No:Int}
theorem u27:dP 27 (bO t wd ct sz mj pr (cT wh th up re lo to (jP Q No []))) ks kr=gI (mj.length<=100000) (OC 27 (bO t wd ct sz mj pr (cT wh th up re lo to (jP Q No []))) mj λvs=>ks (bO t wd ct sz mj pr (cT wh th up re lo to (jP Q No (tI vs []))))):=⋯
theorem t27:OC 27 (bO t wd ct sz mj pr (cT wh th up re lo to (jP Q No []))) (.tup [.int s,.int m]::xs) k=ae (decide (s=sz)) (OC 27 (bO t wd ct sz mj pr (cT wh th up re lo to (jP Q No []))) xs λvs=>k (.int m::vs)) (OC 27 (bO t wd ct sz mj pr (cT wh th up re lo to (jP Q No []))) xs k):=⋯
theorem u28:dP 28 (bO t wd ct sz mj pr (cT wh th up re lo to (jP Q No (tI pl [])))) ks kr=opt False (cj aR pl) λis=>gI (is≠[]) (BX (lD is+1) (gI ((dJ 0 (iH 0 (lD is+1) 1).toNat 1).length<=100000) (OC 28 (bO t wd ct sz mj pr (cT wh th up re lo to (jP Q No (tI pl [])))) (dJ 0 (iH 0 (lD is+1) 1).toNat 1) λvs=>ks (bO t wd ct sz mj pr (cT wh th up re lo to (jP Q No (tI pl (Ry vs)))))))):=⋯
theorem t28:OC 28 (bO t wd ct sz mj pr (cT wh th up re lo to (jP Q No (tI pl [])))) (.int j::xs) k=opt False (cj aR pl) λis=>OC 28 (bO t wd ct sz mj pr (cT wh th up re lo to (jP Q No (tI pl [])))) xs λvs=>k (.int (is.count j:Nat)::vs):=⋯
theorem qc:dP 29 (bO t wd ct sz mj pr (cT wh th up re lo to (jP Q 0 (tI pl (Ry dg))))) ks kr=(PI true true [0,wh]/\∀q r,q=cQ [0,wh]/\r=cR [0,wh]->ae (decide ([q,r]=[0,0])) ((0<=Q/\1<=wd/\wd<=2^20/\bk Q<=90000)/\∀l,l=nA (d7 wd.toNat Q.toNat (cK wd.toNat Q.toNat))->opt False (cj aR l) λis=>opt False (cj aR dg) λjs=>ae (decide (is=js)) (∃(ds:List Nat) (n:Nat),[.lst dg,.int wd]=[AV.lst (nA ds),.int n]/\((∀d∈ds,d<2^n)/\n*ds.length<=2^26/\ds.length<=90000/\n<=2^26)/\kr (.bool (decide ((valN n ds:Int)=Q)))) (kr (.bool false))) (kr (.bool false))):=⋯
end
end
structure tJ(h₀:Heap)(L:Addr)(e:Addr)(fl:aa)(h:Heap):Prop where
 keep:∀b o,b≠L->h₀.get? b=some o->h.get? b=some o
 slot:∀o,h₀.get? L=some o->∃sl,h.get? L=some {o with slots:=sl}
 new:h₀.get? e=none
 size:h₀.objs.size<=h.objs.size
 there:∃oe vs T oT ts,h.get? e=some oe/\oe.cls=.type "ZeroDivisionError"/\oe.data=.fields vs/\vs[1]?=some (.ref T)/\vs[2]?=some .none/\h₀.get? T=none/\T≠e/\h.get? T=some oT/\oT.data=.fields ts/\ts[3]?=some fl
section
variable{A:m7}
theorem HJ(b:Addr):({}:Heap).get? b=none:=by
 cases e:({}:Heap).get? b with|none=>rfl|some o=>exact absurd (bu e) (De _)
theorem Rz (mX:A.frames=some (env::outer)) (hl:s.heap.FunFrames {} (env::outer)) (hf:env.frame=some L) (he:s.heap.get? e=some oe) (hd:oe.data=.fields vs) (cO:1<vs.size) (h:∀h' T oT ts,(∀b o,b∉(env::outer).filterMap (·.frame)->b≠e->s.heap.get? b=some o->h'.get? b=some o)->(∀b o,b≠e->s.heap.get? b=some o->∃sl,h'.get? b=some {o with slots:=sl})->s.heap.objs.size<=T->s.heap.objs.size<=h'.objs.size-> h'.get? e=some (oe.mapFields (·.setIfInBounds 1 (.ref T)))->h'.get? T=some oT->oT.data=.fields ts->ts[3]?=some (rawInt L)->T≠e->Q () {s with heap:=h'}):wpAny M A (do let a <-frameOf env;let pl <-entryPlaceOf L anx;let b <-EntryCells.newEntry head a .none (rawInt L) .none pl;setField (.ref e) 1 b) Q E s:=by
 have aiL:e∉(env::outer).filterMap (·.frame):=λhm=>by obtain⟨_,o,ho,hnf⟩:=hl.mem hm;rw[he]at ho;injection ho with ho;subst ho;exact hnf vs hd
 refine ar (wpAny_frameOf_fun mX hl hf λh₁ iu=>?_);refine ar (wpAny_entryPlaceOf λpl ja=>?_);unfold EntryCells.newEntry newFields;refine ar (I4 ?_ (ja.sizeOk5 _ _ _ _ _));have RA:=(iu.2.1 e aiL).trans he;have ve:=b7 (h:=h₁) {cls:=.type "traceback",dict:=none,data:=.fields ([head,.ref L,.none,rawInt L,.none]++(if pl.isEmpty then cq 6 i6 else pl)).toArray} RA;refine C6 ve hd cO ?_;have tK:=pM (bu RA);have aiN:=ue hd (·.setIfInBounds 1 (fx h₁.objs.size));have aiO:=wN (pH (·.setIfInBounds 1 (fx h₁.objs.size))) ve (I3 aiN)
 have aiP:=(jV (h₁.push {cls:=.type "traceback",dict:=none,data:=.fields ([head,.ref L,.none,rawInt L,.none]++(if pl.isEmpty then cq 6 i6 else pl)).toArray})
  (pH (·.setIfInBounds 1 (fx h₁.objs.size))) (pQ tK)).trans (cU h₁ rfl)
 have keep:∀b o,b≠e->h₁.get? b=some o->
   ((h₁.push {cls:=.type "traceback",dict:=none,data:=.fields ([head,.ref L,.none,rawInt L,.none]++(if pl.isEmpty then cq 6 i6 else pl)).toArray}).update e (pH (·.setIfInBounds 1 (fx h₁.objs.size)))).get? b=some o:=
  λb o lg hb=>by rw[jV _ _ (pQ lg)];exact b7 _ hb
 refine h _ h₁.objs.size _ _ (λb o hb lg g=>keep b o lg ((iu.2.1 b hb).trans g)) (λb o lg g=>?_) (i7 iu.1.symm) ?_ aiO aiP rfl (by first|(simp;done)|(rcases ja with rfl|⟨_,_,_,_,_,_,_,rfl⟩<;>simp)) tK
 ·obtain⟨sl,g'⟩:=iu.2.2 b o g
  exact⟨sl,keep b _ lg g'⟩
 ·rw[tV,gq,iu.1]
  exact jt _
theorem aiQ(mX:A.frames=some [env,env₀])(hf:env.frame=some L')(RB:env₀.frame=some L) (hk:env.scope.kind≠ .module) (aiR:env₀.scope.kind≠ .module) (hn:s.heap.Ns L' m) (HK:s.heap.Ns L m₀) (hL':h₀.get? L'=none) (RC:∀b o,h₀.get? b=some o->s.heap.get? b=some o) (cO:h₀.objs.size<=s.heap.objs.size) (HN:h₀.get? e=none) (hex:∃ob t,s.heap.get? e=some ob/\ob.cls=.type "ZeroDivisionError"/\ob.data=.fields #[t,.none,.none,.none,.bool false,.none]) (hQ:∀h',tJ h₀ L e .none h'->Q () {s with heap:=h'}):wpAny M A (PySem.leaving env (.ref e)) Q E s:=by
 obtain⟨ob,t,he,hc,hd⟩:=hex;have hl:s.heap.FunFrames {} [env,env₀]:=Tq hk hf hn (HJ _) (Tq aiR RB HK (HJ _) trivial);unfold PySem.leaving noteFrame;simp only[hf];refine ar (ar (iI he hd (x:=.none) rfl ?_));rw[if_neg ⋯];refine Rz mX hl hf he hd (by simp) λh' T oT ts h1 h2 h3 h4 h5 h6 h7 h8 h9=>?_;have vI:(ob.mapFields (·.setIfInBounds 1 (.ref T))).data=.fields #[t,.ref T,.none,.none,.bool false,.none]:=by rw[ue hd];rfl
 refine wpAny_setFlight_none h5 vI rfl h6 h7 (Array.getElem?_eq_some_iff.mp h8).1 ?_;have hT:h₀.get? T=none:=by
  cases q:h₀.get? T with|none=>rfl|some o=>exact absurd (fy (bu q) cO) (Nat.not_lt.mpr h3)
 have qX:∀b,b≠T->(h'.update T (pH (·.setIfInBounds 3 .none))).get? b=h'.get? b:=λb hb=>jV _ _ (pQ hb);have HO:[env,env₀].filterMap (·.frame)=[L',L]:=by simp[hf,RB]
 rw[HO]at h1;refine hQ _ ⟨λb o hb g=>?_,λo g=>?_,HN,?_,?_⟩
 ·have lg:b≠e:=λq=>by rw[q,HN]at g;cases g
  have yJ:b≠T:=λq=>by rw[q,hT]at g;cases g
  have BJ:b≠L':=λq=>by rw[q,hL']at g;cases g
  rw[qX b yJ]
  exact h1 b o (λq=>by
   rcases List.mem_cons.mp q with q|q
   ·exact BJ q
   ·exact hb (List.mem_singleton.mp q)) lg (RC b o g)
 ·have lg:L≠e:=λq=>by rw[q,HN]at g;cases g
  have yJ:L≠T:=λq=>by rw[q,hT]at g;cases g
  rw[qX L yJ];exact h2 L o lg (RC L o g)
 ·rw[tV];exact az cO h4
 ·refine⟨_,_,T,_,_,(qX e h9.symm).trans h5,(by rw[S9];exact hc),vI,rfl,rfl,hT,h9,wN _ h6 (I3 (ue h7 _)),ue h7 _,?_⟩
  rw[Jk (Array.getElem?_eq_some_iff.mp h8).1]
theorem RD(F:tJ h₀ L e fl s.heap)(hQ:∀h',tJ h₀ L e .none h'->Q () {s with heap:=h'}):wpAny M A (setFlight (.ref e) none) Q E s:=by
 obtain⟨oe,vs,T,oT,ts,he,hc,hd,h1,h2,hT,tK,gT,dT,h3⟩:=F.there;refine wpAny_setFlight_none he hd h1 gT dT (Array.getElem?_eq_some_iff.mp h3).1 (hQ _ ⟨λb o hb g=>?_,λo g=>?_,F.new,?_,?_⟩)
 ·rw[jV _ _ (λq=>by rw[<-q,hT]at g;cases g)]
  exact F.keep b o hb g
 ·rw[jV _ _ (λq=>by rw[<-q,hT]at g;cases g)]
  exact F.slot o g
 ·rw[tV];exact F.size
 ·refine⟨oe,vs,T,_,_,(jV _ _ tK).trans he,hc,hd,h1,h2,hT,tK,wN _ gT (I3 (ue dT _)),ue dT _,?_⟩
  rw[Jk (Array.getElem?_eq_some_iff.mp h3).1]
theorem aiT(mX:A.frames=some [env])(hf:env.frame=some L)(hk:env.scope.kind≠ .module)(hn:h₀.Ns L m) (F:tJ h₀ L e .none s.heap) (hQ:∀h',tJ h₀ L e (rawInt L) h'->Q () {s with heap:=h'}):wpAny M A (noteFrame (.ref e) env) Q E s:=by
 obtain⟨oe,vs,T,oT,ts,he,hc,hd,h1,h2,hT,tK,gT,dT,h3⟩:=F.there;have Ge:s.heap.Ns L m:=by obtain⟨o,es,ep,g,r⟩:=hn;obtain⟨sl,g'⟩:=F.slot o g;exact⟨_,es,ep,g',r⟩
 have RE:L≠T:=λq=>by obtain⟨o,es,ep,g,r⟩:=hn;rw[q,hT]at g;cases g
 unfold noteFrame;simp only[hf];refine ar (iI he hd h1 ?_);rw[if_pos (show(fx T !=i6)=true from by simp)];refine ar (iI gT dT h3 ?_);rw[if_neg (show ¬((i6==rawInt L)=true)from by simp[rawInt])];refine ar (C6 gT dT (Array.getElem?_eq_some_iff.mp h3).1 ?_);have qX:∀b,b≠T->(s.heap.update T (pH (·.setIfInBounds 3 i6))).get? b=s.heap.get? b:=λb hb=>jV _ _ (pQ hb);have nq:=(qX e tK.symm).trans he
 have hl:(s.heap.update T (pH (·.setIfInBounds 3 i6))).FunFrames {} [env]:=Tq hk hf (m:=m) (by
  obtain⟨o,es,ep,g,r⟩:=Ge
  exact⟨o,es,ep,(qX L RE).trans g,r⟩) (HJ _) trivial
 refine Rz (s:={s with heap:=s.heap.update T (pH (·.setIfInBounds 3 i6))}) mX hl hf nq hd (Array.getElem?_eq_some_iff.mp h1).1 λh' T' oT' NE k1 k2 k3 k4 k5 k6 k7 k8 k9=>?_;have RF:(s.heap.update T (pH (·.setIfInBounds 3 i6))).objs.size=s.heap.objs.size:=tV ..;have HO:[env].filterMap (·.frame)=[L]:=by simp[hf]
 rw[HO]at k1;have vI:(oe.mapFields (·.setIfInBounds 1 (.ref T'))).data=.fields (vs.setIfInBounds 1 (.ref T')):=ue hd _;have Fk:h₀.get? T'=none:=by
  cases q:h₀.get? T' with
  |none=>rfl|some o=>
   have:=fy (bu q) F.size;have k3':s.heap.objs.size<=T':=by rw[<-RF];exact k3
   exact absurd this (Nat.not_lt.mpr k3')
 refine hQ h' ⟨λb o hb g=>?_,λo g=>?_,F.new,?_,?_⟩
 ·have lg:b≠e:=λq=>by rw[q,F.new]at g;cases g
  have yJ:b≠T:=λq=>by rw[q,hT]at g;cases g
  exact k1 b o (λq=>hb (List.mem_singleton.mp q)) lg ((qX b yJ).trans (F.keep b o hb g))
 ·have lg:L≠e:=λq=>by rw[q,F.new]at g;cases g
  obtain⟨sl,g'⟩:=F.slot o g;obtain⟨sl',g''⟩:=k2 L _ lg ((qX L RE).trans g');exact⟨sl',g''⟩
 ·refine az F.size ?_
  have:=k4;rw[RF]at this;exact this
 ·refine⟨_,_,T',oT',NE,k5,(by rw[S9];exact hc),vI,?_,?_,Fk,k9,k6,k7,k8⟩
  ·rw[Jk (Array.getElem?_eq_some_iff.mp h1).1]
  ·rw[Ts ⋯];exact h2
end
section
variable{C:Fc}{ad:Str->Addr}{σ:Sg}{h h' h₀ B:Heap}{e z:Addr}{fl:aa}{K:Sg->Prop}{Kr:AV->Prop}{α:Type}
theorem Rel.RG(O:C.Ok)(hL:C.nw<=C.env.locals)(R:Rel C ad σ h)(F:tJ h C.env.locals e fl h'):Rel C ad σ h'/\bN C ad σ h ad σ h':=by
 obtain⟨m,hn⟩:=R.loc;have RH:∀o,h.get? C.env.locals=some o->hH o:=λo g=>(EN hn).elim λo' z=>aO (g.symm.trans z.1)▸z.2;have ne:∀b o,ik o.data=false->h.get? b=some o->b≠C.env.locals:=λb o n g q=>aL (n.symm.trans (RH o (q▸g)));have sk:∀b o,cJ o->h.get? b=some o->h'.get? b=some o:=λb o s g=>F.keep b o (ne b o s.nm g) g;have fk:∀b o vs,o.data=.fields vs->h.get? b=some o->h'.get? b=some o:=λb o vs d g=>F.keep b o (ne b o (by rw[d];rfl) g) g
 have kv:∀{x v},C.Var h x v->C.Var h' x v:=λw=>w.imp (λm n=>by
  obtain⟨o,es,ep,g,r⟩:=n;obtain⟨sl,g'⟩:=F.slot o g
  exact⟨_,es,ep,g',r⟩) λc u l i=>i.elim λo z=>⟨o,F.keep c o (O.kH _ c l) z.1,z.2⟩
 refine⟨⟨λb o n g=>F.keep b o (λq=>?_) (R.base b o n g),⟨R.tabs.one.bZ fk,R.tabs.two.bZ fk⟩,λx a q=>(R.var x a q).imp λv r=>⟨kv r.1,r.2.mono (λb o k s g=>⟨k,sk b o s g⟩) λJ b o J p s g=>⟨p,sk b o s g⟩⟩,?_,λx c l=>(R.aN x c l).imp λv i=>i.elim λo z=>⟨o,F.keep c o (O.kH _ c l) z.1,z.2⟩,R.own,R.inj,az R.sz F.size,λx v q=>kv (R.pin x v q)⟩,⟨F.size,λb o p J g=>F.keep b o (ne b o p.2 g) g,λb o n k g=>F.keep b o (λq=>?_) g,λb q=>.inl q⟩⟩
 ·have g2:=R.base b o n g
  subst q;exact absurd (O.qk _ o g (RH o g2)) (Nat.not_lt.mpr hL)
 ·obtain⟨o,es,ep,g,r⟩:=hn
  obtain⟨sl,g'⟩:=F.slot o g;exact⟨m,_,es,ep,g',r⟩
 ·rcases k with k|k
  ·exact absurd (q▸k) (Nat.not_lt.mpr hL)
  ·exact k.1 q
@[reducible] noncomputable def Fc.hd (C:Fc) (B:Heap) (z e:Addr):Fc:=⟨C.prog,C.w,C.A.mark (some (.ref e)),C.env,C.ok,z,C.nw,z,B,C.mg,C.mb,[],C.z⟩
structure gV(C:Fc)(B:Heap)(z e:Addr):Prop where
 lk:Kp C.base B
 sz:B.objs.size<=z
 nx:C.nx<=z
 pin:C.pin=[]
 nm:∀b o,B.get? b=some o->hH o->b<C.nw
 ex:∃oe fs,B.get? e=some oe/\oe.data=.fields fs/\fs[2]?=some i6/\eG e=false
theorem gV.var:(C.hd B z e).Var h x v->C.Var h x v|.loc k m n q=>.loc k m n q|.aN k c l q=>.aN k c l q
theorem gV.aiY:C.Var h x v->(C.hd B z e).Var h x v|.loc k m n q=>.loc k m n q|.aN k c l q=>.aN k c l q
theorem gV.vx:(C.hd B z e).VX ad σ h x a v->C.VX ad σ h x a v|.val r=>.val r|.own r=>.own r|.bU r=>.bU r
theorem gV.vxt:C.VX ad σ h x a v->(C.hd B z e).VX ad σ h x a v|.val r=>.val r|.own r=>.own r|.bU r=>.bU r
theorem gV.rel(G:gV C B z e)(R:Rel (C.hd B z e) ad σ h):Rel C ad σ h:=⟨G.lk.trans R.base,R.tabs,λx a q=>(R.var x a q).imp λv r=>⟨gV.var r.1,gV.vx r.2⟩,R.loc,R.aN,λx xs q=>⟨λo g n=>(R.own x xs q).1 o (G.lk _ o n g) n,(R.own x xs q).2⟩,R.inj,az G.nx R.sz,λx v q=>by rw[G.pin]at q;exact ai q⟩
theorem gV.pst(G:gV C B z e)(q:lI C ad σ h K Kr Q):lI (C.hd B z e) ad σ h K Kr Q:=⟨λad' σ' h' tk s R=>q.n ad' σ' h' tk ⟨s.sz,s.kp,s.nk,s.mt⟩ (G.rel R),λa v ad' σ' h' tk s R=>q.r a v ad' σ' h' tk ⟨s.sz,s.kp,s.nk,s.mt⟩ (G.rel R)⟩
theorem gV.ok(G:gV C B z e)(O:C.Ok):(C.hd B z e).Ok where
 kind:=O.kind
 glob:=O.glob
 blt:=O.blt
 g:=Kp.ns G.lk O.g
 b:=Kp.ns G.lk O.b
 nolimit:=O.nolimit.elim λmc n=>⟨mc,Kp.ns G.lk n.1,n.2⟩
 kH:=O.kH
 cells:=O.cells
 cell:=O.cell
 pin x v q:=ai q
 new a k:=O.new a (az G.nx k)
 qk:=G.nm
 oE:=aQ _
 ql:=az O.ql G.nx
 size:=G.sz
theorem gV.hm(G:gV C B z e):cB (C.hd B z e).A B:=G.ex.elim λoe q=>q.elim λfs q=>.inr ⟨e,oe,fs,by show(some (fx e)).or C.A.handled=_;rfl,q.1,q.2.1,q.2.2.1,q.2.2.2⟩
theorem gV.fits{sc:List (Str×bG)}{st mu:List Str}{wf:Nat}{hn:Bool}{gl gl':List (Str×GV α)}{sn:List (Str×(List AV->Sg->(Sg->α)->α))}(G:gV C B z e)(F:a7 H C ⟨sc,st,gl,[],mu,wf,hn,sn⟩)(g:∀x g,aj x gl'=some g->fj H (C.hd B z e) x g):a7 H (C.hd B z e) ⟨sc,st,gl',[],mu,wf,false,[]⟩ where
 ok:=G.ok F.ok
 hu:=F.hu
 hn q:=absurd q aL
 hm:=G.hm
 kind:=F.kind
 name:=F.name
 glob:=g
 pin x f q:=ai q
 sN x f q:=ai q
 hO x q:=⟨(F.hO x q).1,rfl⟩
theorem ground(h:Heap)(e:Nat)(o:Obj)(ho:o.data≠ .freed):∃B:Heap,(∀z,h.objs.size<=z->e<z->B.objs.size<=z)/\B.get? e=some o/\∀b,b≠e->B.get? b=h.get? b:=by
 have gf:∀(B:Heap) b o',B.objs[b]?=some o'->o'.data≠ .freed->B.get? b=some o':=λB b o' q n=>by unfold Heap.get?;rw[q];obtain⟨c,d,dt,sl⟩:=o';cases dt<;>first|rfl|exact absurd rfl n
 have gn:∀(B:Heap) b,(B.objs[b]?=none∨∃o',B.objs[b]?=some o'/\o'.data=.freed)->B.get? b=none:=λB b q=>by
  unfold Heap.get?;rcases q with q|⟨o',q,d⟩
  ·rw[q]
  ·rw[q]
   obtain⟨c,d',dt,sl⟩:=o';cases d;rfl
 have ge:∀(B B':Heap) b,B.objs[b]?=B'.objs[b]?->B.get? b=B'.get? b:=λB B' b q=>by unfold Heap.get?;rw[q]
 let F:Obj:=⟨.none,none,.freed,#[]⟩
 let X:Array Obj:=h.objs++Array.replicate (e+1-h.objs.size) F
 have sz:X.size=h.objs.size+(e+1-h.objs.size):=by show(h.objs++Array.replicate (e+1-h.objs.size) F).size=_;rw[IU,Array.size_replicate]
 refine⟨⟨X.setIfInBounds e o,h.life⟩,λz h1 h2=>?_,gf _ _ _ ?_ ho,λb hb=>?_⟩
 ·show(X.setIfInBounds e o).size<=_;rw[Array.size_setIfInBounds,sz];exact(a9 0xeb2810b20c232f1fd091b081931fd8193801b81930 0x10011511101015114) h1 h2 aq
 ·show(X.setIfInBounds e o)[e]?=_;rw[Jk (by rw[sz];exact(aC 0xec82102f1fd092b181901fd8190812b81901 72361132530155795) aq)]
 ·by_cases c:b<h.objs.size
  ·refine ge _ _ b ?_
   rw[Ts (pQ hb)];rw[Array.getElem?_append,if_pos c]
  ·rw[gn h b (.inl (Array.getElem?_eq_none (Nat.le_of_not_lt c)))]
   refine gn _ b ?_;rw[Ts (pQ hb)];rw[Array.getElem?_append,if_neg c,Array.getElem?_replicate]
   split
   ·exact .inr ⟨F,rfl,rfl⟩
   ·exact .inl rfl
def RI(C:Fc)(σ:Sg)(x:ab):Prop:=∀ad h,Rel C ad σ h->∀tk,wpAny (M_ C) C.A (eval x C.env) (λJ J=>False) (λe' s'=>∃e0 h₁ h' ak,e'=.ref e0/\aI h h₁/\s'=C.st h' ak/\tJ h₁ C.env.locals e0 .none h') (C.st h tk)
theorem ai1(T:gL h)(n:h.get? e=none):eG e=false:=by
 cases q:eG e with
 |false=>rfl|true=>
  have:e=47∨e=54:=by
   unfold eG at q;rcases Bool.or_eq_true_iff.mp q with q|q
   ·exact .inl (beq_iff_eq.mp q)
   ·exact .inr (beq_iff_eq.mp q)
  rcases this with rfl|rfl
  ·obtain⟨o,_,g,_⟩:=T.one
   rw[n]at g;cases g
  ·obtain⟨o,_,g,_⟩:=T.two
   rw[n]at g;cases g
theorem X1.ai2(O:C.Ok)(hL:C.nw<=C.env.locals)(hp0:C.pin=[])(mX:C.A.frames=some [C.env])(HP:C.env.frame=some C.env.locals) (ek:C.env.kindOf "ZeroDivisionError"=some .globalImplicit) (eg:C.mg "ZeroDivisionError"=none) (eb:C.mb "ZeroDivisionError"=some (.type "ZeroDivisionError")) (hsw:swapsWith x none pe.line C.env=pure false) (hr:RI C σ x) (hk:∀B z e,gV C B z e->Xs (C.hd B z e) σ (ai5::ai6) K Kr):X1 C σ (.Try (.Expr x pe::rest) [.ExceptHandler (some (.Name "ZeroDivisionError" np)) none (ai5::ai6) hp] [] [] pos) K Kr:=λad h R tk Q q=>by
 have hi:interactive C.env=false:=by unfold interactive;rw[O.kind];rfl
 refine wpAny_Try_except ?_;refine ar ?_;rw[exec_Expr (hi:=hi) (hs:=hsw)];refine ar (pO (ar (kE (hr ad h R tk) (λJ J q=>q.elim) λe' s' ⟨e0,h₁,h',ak,ee,g,es,F⟩=>?_)));subst ee es;have eK:=R.grow g;obtain⟨m,hn⟩:=eK.loc;have hkd:C.env.scope.kind≠ .module:=by rw[O.kind];decide
 refine aiT (s:=C.st h' ak) mX HP hkd hn F λh2 F2=>?_;refine RD (s:=C.st h2 ak) F2 λh3 F3=>?_;refine wpAny_handleBy_builtin (X:="ZeroDivisionError") (T:="ZeroDivisionError") (b:=true) PySem.F.isExc_ZeroDivisionError PySem.F.notTuple_ZeroDivisionError alP ?_;obtain⟨jh,anz⟩:=eK.RG O hL F3;refine IY O.kind ek (S7 (by rw[O.glob];exact jh.base.ns O.g) eg (by rw[O.blt];exact jh.base.ns O.b) eb ⟨rfl,?_,?_⟩) ⋯
 ·obtain⟨oe',_,_,_,_,nq,hc',_⟩:=F3.there
  exact⟨oe',nq,hc'⟩
 ·rw[if_pos rfl]
  refine RD (s:=C.st h3 ak) F3 λh4 F4=>?_;obtain⟨iR,aja⟩:=eK.RG O hL F4;obtain⟨oe,vs,T,oT,ts,he,hc,hd,k1,k2,_⟩:=F4.there;have z4:=bu he;obtain⟨B,b1,b2,b3⟩:=ground C.base e0 oe (by rw[hd];exact λq=>nomatch q);have G:gV C B h4.objs.size e0:=⟨λb o n g=>(b3 b λq=>by have:=eK.base b o n g;rw[q,F4.new]at this;exact ai this).trans g,b1 _ (az O.size (iR.low O)) z4,iR.sz,hp0,λb o g n=>?_,⟨oe,vs,b2,hd,k2,ai1 eK.tabs F4.new⟩⟩
  ·refine j6 (hk B _ e0 G ad h4 ⟨λb o n g=>?_,iR.tabs,λx a q=>(iR.var x a q).imp λv r=>⟨gV.aiY r.1,gV.vxt r.2⟩,iR.loc,iR.aN,λx xs q=>⟨λo g n=>?_,(iR.own x xs q).2⟩,iR.inj,aQ _,λx v q=>ai q⟩ ak Q (G.pst ((q.after g.jE).after aja)))
   ·by_cases c:b=e0
    ·subst c
     cases b2.symm.trans g;exact he
    ·exact iR.base b o n ((b3 b c).symm.trans g)
   ·by_cases c:ad x=e0
    ·obtain⟨v,_,r⟩:=eK.var x _ q
     cases r with
     |val r=>exact r|own r=>cases r with
      |mk b ws n' g' p _=>rw[show b=e0 from p.trans c,F4.new]at g';exact ai g'
    ·exact(iR.own x xs q).1 o ((b3 _ c).symm.trans g) n
  ·by_cases c:b=e0
   ·subst c
    cases b2.symm.trans g;exact(n.bZ hd).elim
   ·exact O.qk b o ((b3 b c).symm.trans g) n
end
theorem HQ{h h':Heap}{L:Addr}{m:Str->Option aa}(hk:∀b o,h.get? b=some o->h'.get? b=some o):h.Ns L m->h'.Ns L m:=λ⟨o,es,ep,g,r⟩=>⟨o,es,ep,hk _ _ g,r⟩
section
theorem ajb(Y:I.Ok id)(F:a7 id C cx)(wg:Rm prog wd base mg mb (d+1) hn C)(D:eP base 73 (aw 8) o pm cd doc)(B:ck base mg mb)(g1:mg "ZeroDivisionError"=none)(g2:mb "ZeroDivisionError"=some (.type "ZeroDivisionError"))(hh:C.A.handled=none)(mX:C.A.frames=some [C.env])(HP:C.env.frame=some C.env.locals) (ek:aj x cx.sc=some .globalImplicit) (eg:C.mg x=some (.ref 73)) (n:noStar es=true) (h:dX I cx σ es λas=>∃a:Int,as=[.int a,.int 0]):RI C σ (.Call (.Name x np) es [] p):=λad h₀ R tk=>by
 have S:jj (aE (aw 8)) ["a","b"]:=.of ⋯;refine C8 (j6 (F.toFits.gv ek eg R (S8 (o:=o) (fd:=docDef (nameOf (aw 8)) (mK (aw 8)) (bodyOf (aw 8)) (aE (aw 8)) pm cd doc) (mB (fT n).1 (j6 (mA Y F.toFits es n h ad h₀ R tk _ λvs h' ak as g r x=>?_))))));obtain⟨a,rfl⟩:=x;have R':=R.grow g;have kb:Kp base h':=λb o n e=>R'.base b o n (wg.k b o n e);have nf:NF 73 o:=λvs e=>iJ (D.fn.symm.trans e);refine⟨⟨kb 73 o nf D.at_,D.fn⟩,?_⟩;have B':ck h' C.mg C.mb:=⟨B.lim.elim λmc n=>⟨mc,Kp.ns kb n.1,n.2⟩,wg.g▸Kp.ns kb B.g,wg.b▸Kp.ns kb B.b⟩
 have rv:=Vl.qx (show [AV.int a,AV.int 0].all fz=true from rfl) r;have FC:=rv.length;have lo:∀x k,aj x (aE (aw 8)).names=some k->(aE (aw 8)).names.lookup x=some k:=λx k e=>(eN _ _).trans e;have ho:∀b,h'.objs.size<=b->C.aJ ad σ b:=λb=>R'.fresh F.ok;refine wpAny_call (call_cells (binds:=(["a","b"]:List Str).zip vs) (scope:=aE (aw 8)) (body:=bodyOf (aw 8)) (b9 (lY _ _) wg.dp) (kb 73 o nf D.at_) D.fn B'.lim (D.code.elim λc z=>z.elim λoc z=>z.elim λws z=>z.elim λt z=>⟨c,oc,ws,t,z.1,kb _ _ (λus dd=>D.ext c z.1) z.2.1,z.2.2⟩) ?_ (λy hy=>?_) (λh₁ bq jF X=>?_) S.co S.gen S.kind)
 ·exact o6 FC λJ J=>rfl
 ·refine(S.par y.1 (wQ hy).1).imp (lo _ _) λk=>⟨lo _ _ k,?_⟩
  obtain⟨c,m⟩:=vj (n:=h'.objs.size+1) (acc:=[]) (fm k);rw[eN];obtain⟨d,ed⟩:=nF m;rw[ed];rfl
 ·have O':(dN C (C.aJ ad σ) h' 73 (nameOf (aw 8)) (aE (aw 8)) cd).Ok:=OQ S B' ho X
  obtain⟨L,no⟩:=OR (C:=C) (fa:=73) (name:=nameOf (aw 8)) (cd:=cd) (ad:=λJ=>0) S R'.tabs rv ho jF X;obtain⟨vb,wb,rb⟩:=L.var "b" (.int 0) ⋯;obtain⟨tb,rfl⟩:∃tb,vb=.int 0 tb:=by cases rb with|val r=>cases r with|mk t=>exact⟨t,rfl⟩
  have hx:∀x k,(dN C (C.aJ ad σ) h' 73 (nameOf (aw 8)) (aE (aw 8)) cd).env.kindOf x=k↔aj x (aE (aw 8)).names=k:=λx k=>by rw[<-eN];exact Iff.rfl
  refine ar (wpAny_If (wpAny_isTrue_Compare1 (ub (j6 (oG O' wb ⋯ (j6 (C1 (PyProof.Rows.eq_int (IV ?_)))))) ⋯) rfl));rw[if_pos (show((0:Int)==0)=true from rfl)];refine ar (Raise_classB hh excClass_ZeroDivisionError alP (IY O'.kind ((hx _ _).mpr ⋯) (S7 (L.base.ns O'.g) (by show C.mg _=none;rw[wg.g];exact g1) (L.base.ns O'.b) (by show C.mb _=_;rw[wg.b];exact g2) ⟨rfl,rfl⟩) ⋯) λh2 e hx=>?_);obtain⟨m₀,HK⟩:=R'.loc;obtain⟨ob,tt,he,hc,hd2⟩:=hx.there;have cO:=dw (HQ hx.keeps jF.ns).lt;refine aiQ (s:=C.st h2 (bq+1)) (env:=(dN C (C.aJ ad σ) h' 73 (nameOf (aw 8)) (aE (aw 8)) cd).env) (env₀:=C.env) (h₀:=h') (L':=h'.objs.size) (L:=C.env.locals) (m₀:=m₀) ?_ rfl HP (by rw[O'.kind];decide) (by rw[F.ok.kind];decide) (HQ hx.keeps jF.ns) (HQ (λb o e=>hx.keeps b o (jF.keep b o e)) HK) ?_ (λb o g=>hx.keeps b o (jF.keep b o g)) cO ?_ ⟨ob,tt,he,hc,hd2⟩ λh3 F2=>?_
  ·show C.A.frames.map _=_
   rw[mX];rfl
  ·exact Heap.get?_none_of_le (aQ _)
  ·cases q:h'.get? e with|none=>rfl|some o=>have:=jF.keep e o q;rw[hx.new]at this;cases this
  ·exact⟨e,h',h3,_,rfl,g,rfl,F2⟩
end
section
noncomputable def HR(s:Stmt):List Stmt:=(@wM (λJ=>List Stmt) s (λJ J J J J J J J J J=>[]) (λJ J J J J J J J J J=>[]) (λJ J J J J J J J J J J=>[]) (λJ J=>[]) (λJ J=>[]) (λJ J J=>[]) (λJ J J J J J J=>[]) (λJ J J J=>[]) (λJ J J J J=>[]) (λJ J J J J=>[]) (λJ J J J J=>[]) (λJ J J J=>[]) (λJ J J J=>[]) (λJ J J=>[]) (λJ J J=>[]) (λJ J J=>[]) (λJ J J=>[]) (λb h o f p=>b) (λJ J J J J=>[]) (λJ J J=>[]) (λJ J=>[]) (λJ J J J=>[]) (λJ J=>[]) (λJ J=>[]) (λJ J=>[]) (λJ=>[]) (λJ=>[]) (λJ=>[]))
noncomputable def trH(s:Stmt):List uj:=(@wM (λJ=>List uj) s (λJ J J J J J J J J J=>[]) (λJ J J J J J J J J J=>[]) (λJ J J J J J J J J J J=>[]) (λJ J=>[]) (λJ J=>[]) (λJ J J=>[]) (λJ J J J J J J=>[]) (λJ J J J=>[]) (λJ J J J J=>[]) (λJ J J J J=>[]) (λJ J J J J=>[]) (λJ J J J=>[]) (λJ J J J=>[]) (λJ J J=>[]) (λJ J J=>[]) (λJ J J=>[]) (λJ J J=>[]) (λb h o f p=>h) (λJ J J J J=>[]) (λJ J J=>[]) (λJ J=>[]) (λJ J J J=>[]) (λJ J=>[]) (λJ J=>[]) (λJ J=>[]) (λJ=>[]) (λJ=>[]) (λJ=>[]))
noncomputable def RJ(s:Stmt):Pos:=(@wM (λJ=>Pos) s (λJ J J J J J J J J J=>default) (λJ J J J J J J J J J=>default) (λJ J J J J J J J J J J=>default) (λJ J=>default) (λJ J=>default) (λJ J J=>default) (λJ J J J J J J=>default) (λJ J J J=>default) (λJ J J J J=>default) (λJ J J J J=>default) (λJ J J J J=>default) (λJ J J J=>default) (λJ J J J=>default) (λJ J J=>default) (λJ J J=>default) (λJ J J=>default) (λJ J J=>default) (λb h o f p=>p) (λJ J J J J=>default) (λJ J J=>default) (λJ J=>default) (λJ J J J=>default) (λJ J=>default) (λJ J=>default) (λe p=>p) (λJ=>default) (λJ=>default) (λJ=>default))
def hdN(h:uj):Pos:=@Tt (λJ=>Pos) h λt J J J=>opt default t λe=>e.pos
noncomputable def hdS(h:uj):List Stmt:=@Tt (λJ=>List Stmt) h λJ J b J=>b
noncomputable def hdP(h:uj):Pos:=@Tt (λJ=>Pos) h λJ J J p=>p
abbrev Ck:ab:=jk ((HR (aH 26)).getD 0 (.Pass default)) 0
abbrev HS:uj:=(trH (aH 26)).headD default
abbrev HT:Stmt:=(hdS HS).getD 0 (.Pass default)
noncomputable def ajg:List (Str×GV Prop):=[("int_divmod",.fn vO)]
def RK:Cx Prop:=⟨(aE (aw 34)).names,gD (aE (aw 34)).names,ajg,[],Hc,5,false,[]⟩
theorem e26:aH 26=.Try (.Expr (.Call (.Name "int_divmod" (sV Ck [0]).pos) ((FH Ck).drop 1) [] Ck.pos) (RJ ((HR (aH 26)).getD 0 (.Pass default)))::(HR (aH 26)).drop 1) [.ExceptHandler (some (.Name "ZeroDivisionError" (hdN HS))) none [HT] (hdP HS)] [] [] (RJ (aH 26)):=⋯
section
variable{wd wh th up re lo to sz:Int}
theorem a26:dX (bD eM 29) bS (bO t wd ct sz mj pr (cT wh th up re lo to [])) ((FH Ck).drop 1) (λas=>∃a:Int,as=[.int a,.int 0])=∃a:Int,[.int up,.int 0]=[AV.int a,.int 0]:=⋯
theorem lz:((au 5).map λ(n:Nat)=>eJ eM (bD eM 30) RK (bO t wd ct (n:Nat) mj (fK (n+1) p) (cT wh th up re lo to [])) HT ks kr)=mapR (au 5) λ(n:Nat)=>PI true true [p n,th]/\∀q r,q=cQ [p n,th]/\r=cR [p n,th]->ks (bO t wd ct (n:Nat) mj (fK (n+1) p) (cT wh th up re lo to (jP q r []))):=⋯
end
structure Cm(prog:bF)(wd:bj)(base:Heap)(mg mb:Str->Option aa)(C:Fc):Prop where
 F:a7 id C bS
 R:Rm prog wd base mg mb 40 true C
 nw:C.nw<=C.env.locals
 pin:C.pin=[]
 fr:C.A.frames=some [C.env]
 fl:C.env.frame=some C.env.locals
 ze:mg "ZeroDivisionError"=none/\mb "ZeroDivisionError"=some (.type "ZeroDivisionError")
 im:mg "int_divmod"=some (.ref 73)
 D:∃o pm cd doc,eP base 73 (aw 8) o pm cd doc
 B:ck base mg mb
 c:aZ id prog wd base mg mb 73 26 false vO
theorem Rm.low(R:Rm prog wd base mg mb d hn C)(h:d'<=d):Rm prog wd base mg mb d' hn C:=⟨R.p,R.w,R.k,b9 (wK h _) R.dp,b9 (Dc (wK (nY 3 h) _) _) R.u,R.n,R.m,R.g,R.b⟩
section
variable{prog:bF}{wd:bj}{base:Heap}{mg mb:Str->Option aa}{K:Sg->Prop}{wi wh th up re lo to:Int}
theorem ajj(L:Cm prog wd base mg mb C)(hn:n<5)(O:DI true true (p n) th)(hk:Ys C (bO t wi ct (n:Nat) mj (fK (n+1) p) (cT wh th up re lo to (jP ((p n).fdiv th) ((p n).fmod th) []))) r K Kr):Ys C (bO t wi ct (n:Nat) mj (fK (n+1) p) (cT wh th up re lo to [])) (aH 26::r) K Kr:=by
 have ek:∀x,aj x bS.sc=some .globalImplicit->C.env.kindOf x=some .globalImplicit:=λx e=>(L.F.kind x _).mpr e;have X:X1 C (bO t wi ct (n:Nat) mj (fK (n+1) p) (cT wh th up re lo to [])) (aH 26) (λσ=>Ys C σ r K Kr) Kr:=by
  rw[e26];obtain⟨o,pm,cd,doc,D⟩:=L.D;refine X1.ai2 L.F.ok L.nw L.pin L.fr L.fl (ek _ ⋯) (by rw[L.R.g];exact L.ze.1) (by rw[L.R.b];exact L.ze.2) rfl
   (ajb (j7 kS 29).toOk L.F (L.R.low (show 0+1<=40 from ⋯)) D L.B L.ze.1 L.ze.2 (L.R.n rfl) L.fr L.fl ⋯ (by rw[L.R.g];exact L.im) ⋯ (Eq.mpr a26 ⟨up,rfl⟩)) λB z e G=>?_
  have Rh:Rm prog wd base mg mb 26 false (C.hd B z e):=⟨L.R.p,L.R.w,L.R.k.trans G.lk,(L.R.low (show 26<=40 from ⋯)).dp,(L.R.low (show 26<=40 from ⋯)).u,λq=>absurd q aL,G.hm,L.R.g,L.R.b⟩
  have Fh:a7 id (C.hd B z e) RK:=G.fits L.F λx g q=>by
   have q:ae (aA x "int_divmod") (some (.fn vO)) none=some g:=q;cases c:aA x "int_divmod" with|false=>rw[c]at q;exact ai q|true=>rw[c]at q;cases q;rw[(cN _ _).mp c];exact .fn (by show C.mg _=_;rw[L.R.g];exact L.im) (L.c _ Rh)
  refine(Ys.g Fh (Eq.mpr (aX (lz (p:=p)) (List.mem_range.mpr hn)) ⟨⟨_,_,rfl,O⟩,λq r' e=>?_⟩):Ys _ _ [HT] _ _).x;obtain⟨rfl,rfl⟩:=e;exact⟨λad h R tk Q q=>Db (q.n ad _ h tk .refl R hk)⟩
 exact⟨λad h R tk Q q=>lZ (X ad h R tk _ ⟨λad' σ' h' ak s R' z=>z.x ad' h' R' ak Q (q.after s),λa v ad' σ' h' ak s R' rv z=>q.r a v ad' σ' h' ak s R' rv z⟩)⟩
end
end
section
open Hd
section
noncomputable def allB:List Bi:=[.len,.range,.enumerate,.zip,.reversed,.list,.max,.min,.abs,.round,.int,.bool,.sum,.ord,.chr,.isinstance,.divmod ()]
noncomputable def wj(b:Bi):Str:=@Bi.casesOn (λJ=>Str) b "len" "range" "enumerate" "zip" "reversed" "list" "max" "min" "abs" "round" "int" "bool" "sum" "ord" "chr" "isinstance" (λJ=>"divmod")
noncomputable def RL(b:Bi):Nat:=@Bi.casesOn (λJ=>Nat) b 0 1 2 3 4 5 6 7 8 9 10 11 12 13 14 15 (λJ=>16)
noncomputable def yK:List (Str×Nat):=[("_div2n1n",38),("_div3n2n",45),("_int2digits",52),("_digits2int",59),("_divmod_pos",66),("int_divmod",73),("rgb_to_yiq",80),("yiq_to_rgb",87),("rgb_to_hls",94),("hls_to_rgb",101),("_v",108),("rgb_to_hsv",115),("hsv_to_rgb",122),("_twin_re_1",127),("_twin_re_2",132),("quotedata",139),("b1_set",147),("in_table_b1",157),("b3_exceptions",158),("map_table_b3",203),("_law_typed",208),("_law_prepared",213),("_law_seen",218),("law",223)]
end
section
variable(P:cc)
theorem ajl:(bE P 3).data=.dict (jK (bE P 3)) (G6 (bE P 3)):=⋯
theorem ajm:(allB.map λb=>nsFind (jK (bE P 3)) (wj b))=mapR allB λJ=>none:=⋯
theorem ajn:(allB.map λb=>bootBuiltins (wj b))=mapR allB λb=>some b.val:=⋯
theorem ajo:(allB.map λb=>aA (wj b) "__name__")=mapR allB λJ=>false:=⋯
theorem HU(b:Bi):b∈allB:=List.mem_of_getElem? (i:=RL b) (@Bi.casesOn (λb=>allB[RL b]?=some b) b rfl rfl rfl rfl rfl rfl rfl rfl rfl rfl rfl rfl rfl rfl rfl rfl (λJ=>rfl))
theorem ajp:(yK.map λq=>nsFind (jK (bE P 3)) q.1)=mapR yK λq=>some (.ref q.2):=⋯
end
section
variable{h:Heap}
theorem pB(hk:∀b o,(H1 P).get? b=some o->h.get? b=some o)(g:h.Ns mainGlobals mg)(x:Str):mg x=nsFind (jK (bE P 3)) x:=by obtain⟨o,es,ep,ho,hd,_,hm⟩:=g;cases(hk 3 _ (ob P (a:=3) ⋯)).symm.trans ho;rw[ajl]at hd;cases hd;exact(hm x).symm
structure GX(mg mb:Str->Option aa):Prop where
 b:∀b:Bi,mg (wj b)=none/\mb (wj b)=some b.val
 r:∀q∈yK,mg q.1=some (.ref q.2)
 ze:mg "ZeroDivisionError"=none/\mb "ZeroDivisionError"=some (.type "ZeroDivisionError")
 yf:∃t,mg "ONE_THIRD"=some (.float 4599676419421066581 t)
 BE:∃t,mg "ONE_SIXTH"=some (.float 4595172819793696085 t)
 two:∃t,mg "TWO_THIRD"=some (.float 4604180019048437077 t)
 lim:∃t,mg "_DIV_LIMIT"=some (.int 4000 t)
 crlf:∃t,mg "CRLF"=some (.str "\r\n" t)
def yL(v:Option aa):Tok:=lP (v.getD .none)
theorem ajq(hk:∀b o,(H1 P).get? b=some o->h.get? b=some o)(g:h.Ns mainGlobals mg)(b:∀x:Str,x≠"__name__"->mb x=bootBuiltins x):GX mg mb where
 b i:=⟨(pB hk g _).trans (aX (ajm P) (HU i)),(b _ λq=>aL ((aX ajo (HU i)).symm.trans ((cN _ _).mpr q))).trans (aX ajn (HU i))⟩
 r q m:=(pB hk g _).trans (aX (ajp P) m)
 ze:=⟨(pB hk g _).trans ⋯,(b _ ⋯).trans ⋯⟩
 yf:=⟨yL (nsFind (jK (bE P 3)) "ONE_THIRD"),(pB hk g _).trans ⋯⟩
 BE:=⟨yL (nsFind (jK (bE P 3)) "ONE_SIXTH"),(pB hk g _).trans ⋯⟩
 two:=⟨yL (nsFind (jK (bE P 3)) "TWO_THIRD"),(pB hk g _).trans ⋯⟩
 lim:=⟨yL (nsFind (jK (bE P 3)) "_DIV_LIMIT"),(pB hk g _).trans ⋯⟩
 crlf:=⟨yL (nsFind (jK (bE P 3)) "CRLF"),(pB hk g _).trans ⋯⟩
end
end
def jQ(n:Nat)(ms:List (Nat×Nat)):List Int:=@d6 (Nat×Nat) (λJ=>List Int) [] (λm J ih=>ae (aS m.1 n) ((m.2:Int)::ih) ih) ms
def pC(n M:Nat)(ms:List (Nat×Nat)):List Nat:=(au (M+1)).map λ(k:Nat)=>(jQ n ms).count (k:Int)
structure HV(n wd W Q M:Nat)(ms:List (Nat×Nat)):Prop where
 ml:ms.length<=2000
 ne:jQ n ms≠[]
 m:lD (jQ n ms)=(M:Nat)/\M<=6
 w:0<W/\W<2^7998
 wb:1<=wd/\wd<=500
 qb:bk (Q:Int)<=90000
 dg:d7 wd Q (cK wd Q)=pC n M ms
 vl:valN wd (pC n M ms)=Q
 lt:∀d∈pC n M ms,d<2^wd
theorem rg7(n:Nat)(h:n<=7):(wL 0 (n:Int) 1=true/\0<=iH 0 (n:Int) 1/\(1:Int)≠0/\ij ((n:Int)-0) 1=false)/\(iH 0 (n:Int) 1).toNat=n:=
 (show ∀n,n<8->(wL 0 ((n:Nat):Int) 1=true/\0<=iH 0 (n:Int) 1/\(1:Int)≠0/\ij ((n:Int)-0) 1=false)/\(iH 0 (n:Int) 1).toNat=n by decide+kernel) n (jw h)
theorem RM(ds:List Nat):nA ds=(ds.map λn:Nat=>(n:Int)).map .int:=by unfold nA;rw[oj];rfl
section
variable{K:Sg->Prop}{th up re lo to:Int}
abbrev RN(t:AV)(wd:Nat)(ct:AV)(N:Nat)(ms:List (Nat×Nat))(pr:List AV)(W:Nat)(th up re lo to:Int)(Q:Nat)(e:Sg):Sg:=bO t wd ct N (kj ms) pr (cT W th up re lo to (jP Q 0 e))
theorem HW:∀(l:List (Nat×Nat)) (k:List AV->Prop),Bx (k ((jQ N l).map .int))->Bx (OC 27 (RN t wd ct N ms pr W th up re lo to Q []) (kj l) k)
 |[],k,h=>h|m::l,k,h=>by
  refine .of t27 ?_;have e:decide (((m.1:Nat):Int)=((N:Nat):Int))=aS m.1 N:=by rw[yW,decide_eq_true_iff];exact⟨λq=>by rw[tO q];exact Nat.beq_refl N,λq=>by rw[fD q]⟩
  rw[e];have h:Bx (k ((ae (aS m.1 N) ((m.2:Int)::jQ N l) (jQ N l)).map .int)):=h;cases c:aS m.1 N with|true=>rw[c]at h;exact HW l _ h|false=>rw[c]at h;exact HW l _ h
theorem ajs(F:a7 id C bS)(O:HV N wd W Q M ms)(hP:Kr (.bool true)):Ys C (RN t wd ct N ms pr W th up re lo to Q []) (aH 27::aH 28::aH 29::r) K Kr:=by
 refine Ys.q 27 F u27 (Bx.x (.g ?_ (HW ms _ ⟨?_⟩)))
 ·unfold kj;rw[bB];exact az O.ml ⋯
 refine Ys.q 28 F u28 (Bx.x ?_);rw[yI];obtain⟨g1,g2⟩:=rg7 (M+1) (Nat.succ_le_succ O.m.2);refine .g O.ne ?_;rw[O.m.1,show((M:Nat):Int)+1=((M+1:Nat):Int)from rfl];refine .g g1 (.g ?_ ?_)
 ·rw[g2];unfold dJ;rw[bB,gH];have:=O.m.2;exact(ax 0xeb186a05a8190b690 1122577) this
 rw[g2];refine yB (g:=λi:Nat=>.int (0+1*(i:Int))) (f:=λi:Nat=>.int ((jQ N ms).count (0+1*(i:Int)):Nat)) (λJ=>rfl) (au (M+1)) _ (λi J xs k h=>.of t28 (by rw[yI];exact h)) ⟨?_⟩;have ed:((au (M+1)).map λi:Nat=>AV.int ((jQ N ms).count (0+1*(i:Int)):Nat))=nA (pC N M ms):=by unfold nA pC;rw[oj];refine rH λi J=>?_;show AV.int _=AV.int _;rw[lU,CJ]
 rw[ed];refine Ys.q 29 F qc ⟨⟨0,W,rfl,⟨(by have:=O.w.1;exact(ax 0xe0f8e095e0c009 16855313) this),Dm ⋯,(by rw[fQ];exact O.w.2),(λq=>nomatch q),(λq=>nomatch q)⟩⟩,λq r' e=>?_⟩;obtain⟨rfl,rfl⟩:=e;have e0:cQ [0,(W:Int)]=0:=by show(0:Int).fdiv (W:Int)=0;rw[show(0:Int)=((0:Nat):Int)from rfl,iP,Nat.zero_div]
 have e1:cR [0,(W:Int)]=0:=by show(0:Int).fmod (W:Int)=0;rw[show(0:Int)=((0:Nat):Int)from rfl,gQ,Nat.zero_mod]
 rw[e0,e1];have hw:=O.wb;refine⟨⟨bA _,by exact(ax 0xe6e5e0191fb1f43a0b019 1122577) hw,by have:(2:Int)^20=1048576:=rfl;exact(bL 0xe6e05e01fb1f43a0b0198e1000006a0 4311830801 [_] [_]) hw this,O.qb⟩,λl e=>?_⟩;subst e;rw[cw,cw,O.dg,RM,yI];show ae (decide (_=_)) _ _;rw[decide_eq_true rfl];refine⟨pC N M ms,wd,by rw[RM],⟨O.lt,?_,?_,?_⟩,?_⟩
 ·unfold pC;rw[bB,gH];exact az (lV hw.2 (Nat.succ_le_succ O.m.2)) ⋯
 ·unfold pC;rw[bB,gH];have:=O.m.2;exact(ax 0xeb15f905a8190b690 1122577) this
 ·exact az hw.2 ⋯
 ·rw[O.vl,decide_eq_true rfl];exact hP
end
def a8(pr up low:Nat):Nat:=ae (gW (dE pr up) (dE pr low)) 1 (ae (aS up low) (ae (aS (gi up) 0) 1 2) 2)
abbrev fM(pr a b c:Nat):List (Nat×Nat):=(d5 (a8 pr) a b c (a+b+c)).1
structure HX(f:Nat->Nat)(T:List Nat)(pr wh st tu wd a b c Q M:Nat):Prop where
 sg:∀s,s<6->BY (f 3) pr wh st s
 cn:∀k,(gR T).getD k 0<=4
 li:kP (qQ wh st pr (gR T) 0) (qQ wh st pr (gR T) 1) (qQ wh st pr (gR T) 2)
 ga:∀up,up<6->∀low,low<6->nP (nO pr wh st) up low=a8 pr up low
 t1:((T.map (bf (f 3))).map λx=>gJ x).sum+(T.map (bf (f 3))).length*gJ "."<=16777216
 t2:(kX (f 4)).length+(iC (f 3) T).length<=10000
 t3:∀k,(gF (f 4) k).length<=100
 t4:(kX (f 4)++iC (f 3) T).length+(cZ (gF (f 4) 4) 2).length<=sizeLine
 gp:∀i,i<T.length->1<=iV (a8 pr) T i/\iV (a8 pr) T i<=2
 qu:∀i,i<T.length->(cS (a8 pr) (f 2) (f 3) (f 4) T i).length<=200000/\(∀s,s<6->(bf (f 3) s).length<=100)/\(∀k,(gF (f 4) k).length<=100)/\∀j,j<dR (a8 pr) (f 2) T i->(iU j (cS (a8 pr) (f 2) (f 3) (f 4) T i++rowAt (f 3) (f 4) T i)).length<=400000
 dt:B8 pr (f 2) (f 3) T
 ml:Ra (kX (f 4)) (iC (f 3) T) (cS (a8 pr) (f 2) (f 3) (f 4) T T.length) (iX pr (f 2) (f 3) T T.length) (iW pr (f 2) T (T.length-1))
 ct:gR T=[a,b,c]
 lp:HC (a8 pr) a b c wd
 bg:we a b c wd (gU wd (f 4) (a+b+c)) (fM pr a b c)
 mo:eE (gU wd (f 4) (a+b+c):Nat) (tF (px (gU wd (f 4) (a+b+c)) (f 5)):Nat)
 qd:∀U W R L t:Int,U=(pv wd (gU wd (f 4) (a+b+c)) (fM pr a b c)*fL wd a b c:Nat)->W=(gU wd (f 4) (a+b+c):Nat)->R=(px (gU wd (f 4) (a+b+c)) (f 5):Nat)->L=(2^(19*wd):Nat)->t=(tF (px (gU wd (f 4) (a+b+c)) (f 5)):Nat)->kZ (U+R) W L R/\kZ (-U-R) (-W) L (-R)/\kZ (-U-R) W (-L-t) (W*t-R)/\kZ (U+R) (-W) (-L-t) (R-W*t)
 di:DI true true (bK wd (a+b+c):Nat) (fL wd a b c:Nat)
 qt:bK wd (a+b+c)=Q*fL wd a b c
 en:HV (a+b+c) wd (gU wd (f 4) (a+b+c)) Q M (fM pr a b c)
theorem ajt:bodyOf (aw 34)=aH 0::aH 1::aH 2::aH 3::aH 4::aH 5::aH 6::aH 7::aH 8::aH 9::aH 10::aH 11::aH 12::aH 13::aH 14::aH 15::aH 16::aH 17::aH 18::aH 19::aH 20::aH 21::aH 22::aH 23::aH 24::aH 25::aH 26::aH 27::aH 28::aH 29::[]:=⋯
section
variable{K:Sg->Prop}
theorem aju{pr wh st:Nat}(h:∀up,up<6->∀low,low<6->nP (nO pr wh st) up low=a8 pr up low):Hr (nO pr wh st)=qS (a8 pr):=
 rH λup hu=>congrArg AV.lst (rH λlow hl=>congrArg AV.int (congrArg jr (h up (List.mem_range.mp hu) low (List.mem_range.mp hl))))
theorem ajv(L:Cm prog wo base mg mb C){f:Nat->Nat}{T:List Nat}{pr wh st tu wd a b c Q M:Nat}(hT:dh T)(D:vQ pr wh st tu wd)(O:HX f T pr wh st tu wd a b c Q M)(hP:Kr (.bool true)):Ys C (v5 (tN f) wd (eZ a b c) (qS (a8 pr)) []) (aH 18::aH 19::aH 20::aH 21::aH 22::aH 23::aH 24::aH 25::aH 26::aH 27::aH 28::aH 29::[]) K Kr:=by
 refine ait L.F O.lp (aiC L.F O.bg ?_);obtain⟨q1,q2,q3,q4⟩:=O.qd _ _ _ _ _ rfl rfl rfl rfl rfl;refine aiG L.F O.mo q1 q2 q3 q4 (ajj L (jw O.lp.n.2) (p:=λi=>(bK wd i:Int)) O.di ?_);have th0:0<fL wd a b c:=by have:=O.di.b0;exact(ax 0xec0090f8e095e0 18833717866769) this
 rw[iP,gQ,O.qt,SX _ th0,Nat.mul_mod_left];exact ajs L.F O.en hP
theorem ajx(L:Cm prog wo base mg mb C)(ns:List Int)(tx:ns.length<=1000)(hp:∀(f:Nat->Nat) T pr wh st tu wd,(∀i,f i<2^110)->dh T->vQ pr wh st tu wd->∃a b c Q M,HX f T pr wh st tu wd a b c Q M)(hP:Kr (.bool true)):Ys C [("script",.lst (ns.map .int))] (bodyOf (aw 34)) K Kr:=by rw[ajt];refine ahj L.F tx λf hf=>aho L.F λT hT=>ahq L.F λpr wh st tu wd D=>?_;obtain⟨a,b,c,Q,M,O⟩:=hp f T pr wh st tu wd hf hT D;have ht:=Jd D.tu;refine ahI L.F D.pr D.st.2 ht (hf 3) O.sg (ahK L.F hT D.pr D.st.2 ht O.cn O.li ?_);refine ahQ (L:=nO pr wh st) L.F ?_;rw[aju O.ga];refine Ys.kW (σ₁:=iB (tN f) (.lst (cp T)) (tr pr) wd (eY 6 (bf (f 3))) (.lst (cp (gR T))) (qS (a8 pr)) []) (.cons (.cons (.cons (.cons (.cons (.cons (.cons (.cons (.cons (.cons .nil ⋯) ⋯) ⋯) ⋯) ⋯) ⋯) ⋯) ⋯) ⋯) ⋯) ?_;refine ahX L.F hT O.t1 O.t2 O.t3 O.t4 ?_;refine ah5 (f:=f) (T:=T) (tr:=tr pr) (ct:=.lst (cp (gR T))) (wd:=wd) (G:=a8 pr) L.F hT O.gp O.qu ?_;refine aij (f:=f) (T:=T) (pr:=pr) L.F hT D.pr O.dt (aik L.F O.ml ?_);rw[O.ct];exact ajv L hT D O hP
end
def yM(w st q:Nat):Nat:=nJ (w+st*(q/2%2)) (w+st*(q/4%2)) (w+st*(q%2))
def HY(w st q:Nat)(k:Nat->Bool):Bool:=fo (w+st*(q/2%2)) λr=>fo (w+st*(q/4%2)) λg=>fo (w+st*(q%2)) λb=>fo (nJ r g b) k
def HZ(F:Nat->(Nat->Bool)->Bool):Nat->Nat->Bool:=@rC (λJ=>Nat->Bool) (λJ=>true) λn ih m=>F (6-n) λm'=>ae (bh (jT m) m') (ih m') false
def H2(F:Nat->(Nat->Bool)->Bool):Bool:=F 1 λm=>HZ F 5 m
abbrev chP(v:Nat):Prop:=((au 4).map λw=>(au 4).map λs=>H2 (HY (4*v+w) (s+1)))=mapR (au 4) λJ=>mapR (au 4) λJ=>true
theorem chz0:chP 0:=⋯
theorem chz1:chP 1:=⋯
theorem chz2:chP 2:=⋯
theorem chz3:chP 3:=⋯
theorem chz4:chP 4:=⋯
theorem ajz:∀v,v<5->chP v|0,_=>chz0|1,_=>chz1|2,_=>chz2|3,_=>chz3|4,_=>chz4|n+5,h=>absurd h (Nat.not_lt.mpr (Dj 5 n))
theorem Cn{α:Type}(n:Nat)(k:Nat->α):fo n k=k n:=by cases n<;>rfl
theorem ajA(w st q:Nat)(k:Nat->Bool):HY w st q k=k (yM w st q):=by unfold HY;rw[Cn,Cn,Cn,Cn];rfl
def nT(Q:Nat->Nat):Nat->Nat->Bool:=@rC (λJ=>Nat->Bool) (λJ=>true) λn ih m=>ae (bh (jT m) (Q (6-n))) (ih (Q (6-n))) false
theorem RO(hF:∀q k,F q k=k (Q q)):∀n m,HZ F n m=nT Q n m|0,m=>rfl|n+1,m=>by show F (6-n) (λm'=>ae (bh (jT m) m') (HZ F n m') false)=ae (bh (jT m) (Q (6-n))) (nT Q n (Q (6-n))) false;rw[hF,RO hF n]
theorem ajB(hF:∀q k,F q k=k (Q q))(h:H2 F=true):nT Q 5 (Q 1)=true:=by unfold H2 at h;rw[hF,RO hF]at h;exact h
theorem ajC{w st:Nat}(hw:w<17)(h1:1<=st)(h4:st<=4):nT (yM w st) 5 (yM w st 1)=true:=by have c:=aX (aX (ajz (w/4) (Th (jU hw ⋯))) (List.mem_range.mpr (dr w ⋯))) (List.mem_range.mpr (show st-1<4 by exact(ao 0xec490b4912f1fd090b1911fd18190b119 72079657554493714) h4 aq));rw[yU,show st-1+1=st by exact(ao 0xed18190b1192f1fd090b1911fd18190b119 0x1011411100141110101511100015112) h1 aq]at c;exact ajB (ajA w st) c
section
variable{Q L:Nat->Nat}
theorem RP:∀n m,nT Q n m=true->5≥n->∀i,i<n->(i=0->m<Q (7-n))/\(0<i->Q (6-n+i)<Q (7-n+i))
 |0,_,_,_,i,h=>absurd h (De i)|n+1,m,h,hn,i,hi=>by
  have h:ae (bh (jT m) (Q (6-n))) (nT Q n (Q (6-n))) false=true:=h;cases a:bh (jT m) (Q (6-n))with
  |false=>rw[a]at h;exact absurd h aL|true=>
   rw[a]at h;refine⟨λq=>by rw[show 7-(n+1)=6-n by exact(aC 0xed102f1fd090b8192791fd79881920b7981922f1fd091b2691fd69821b692 0x100000101911100000101911101010171110001017111010016111010116111000100001a111010016113) aq aq];exact bV a,λq=>?_⟩;have ih:=RP n _ h (by exact(ax 0xeb590b598190 1122577) hn) (i-1) (by exact(aC 0xec10c81912c2092f1fd090b1921fd28190b219 0x10111511100115113) hi q aq);by_cases c:i=1
   ·subst c
    have:=ih.1 rfl;rw[show 6-(n+1)+1=6-n by exact(aC 0xed18190b5981922f1fd090b8192691fd69881920b6981922f1fd091b2691fd69821b692 0x1103111103111000106111000100181111031111031110001061110100017113) hn aq aq,show 7-(n+1)+1=7-n by exact(aC 0xed18190b5981922f1fd090b8192791fd79881920b7981922f1fd091b2791fd79821b792 0x1103111103111000106111000100181111031111031110001061110100017113) hn aq aq];exact this
   ·have:=ih.2 (by exact(ao 0xec009c1090fd1912f1fd090b1911fd18190b119 0x11004111001016111103111103112) q c aq)
    rw[show 6-(n+1)+i=6-n+(i-1)by exact(cV 0xed832810b598194c1092f1fd090b8194691fd69881940b6981942f1fd092b4691fd69842b6942f1fd093b1911fd18193b119 0x101041110104111010411101041110000107111000010711101100010001c11100100010001c1110104111010411101041110104111000010711100001071110010100101b1110010100001b115) hn q aq aq aq,show 7-(n+1)+i=7-n+(i-1)by exact(cV 0xed832810b598194c1092f1fd090b8194791fd79881940b7981942f1fd092b4791fd79842b7942f1fd093b1911fd18193b119 0x101041110104111010411101041110000107111000010711101100010001c11100100010001c1110104111010411101041110104111000010711100001071110010100101b1110010100001b115) hn q aq aq aq];exact this
theorem RQ(c:nT Q 5 (Q 1)=true)(q1:1<=q)(q5:q<=5):Q q<Q (q+1):=by
 have k:=RP 5 _ c (aQ 5) (q-1) (by exact(ao 0xec590b5912f1fd090b1911fd18190b119 72079657554493714) q5 aq);by_cases e:q=1
 ·subst e;exact k.1 rfl
 ·have:=k.2 (by exact(ao 0xec009b1190fd1912f1fd090b1911fd18190b119 0x11004111001016111103111103112) q1 e aq)
  rw[show 6-5+(q-1)=q by exact(ao 0xed18019b1192f1fd090b1911fd18190b119 0x1011411100141110101511100015112) q1 aq,show 7-5+(q-1)=q+1 by exact(ao 0xed81918029b1192f1fd090b1911fd18190b119 0x1011411100141110101511100015112) q1 aq]at this;exact this
theorem RS(c:nT Q 5 (Q 1)=true)(hp:1<=p):∀n,p+n+1<=6->Q p<Q (p+n+1)|0,h=>RQ c hp (by exact(ax 0xeb590b698198090 1122577) h)|n+1,h=>jU (RS c hp n (by exact(ao 0xeb69819810b69819881910 1122578) h)) (RQ c (by exact ao 0xeb81981019 17903890) (by exact(ao 0xeb59819810b69819881910 1122578) h))
theorem ajD(c:nT Q 5 (Q 1)=true)(hp:1<=p/\p<=6)(hq:1<=q/\q<=6):gW (Q p) (Q q)=gW p q:=by
 have lt:∀p q,1<=p->q<=6->p<q->Q p<Q q:=λp q hp hq h=>by have:=RS c hp (q-p-1) (by exact(a9 0xeb69819810b692c202f1fd093b021fd2803b202f1fd091b1931fd38191b319 0x1100411110041110000111811100100118114) hq h aq aq);rw[show p+(q-p-1)+1=q by exact(a9 0xed2819810c202f1fd093b021fd2803b202f1fd091b1931fd38191b319 0x1103111103111000011711100100171111031111031110110001811100100018114) h aq aq]at this;exact this
 have no:∀a b:Nat,b<=a->gW a b=false:=λa b h=>Bool.eq_false_iff.mpr λz=>absurd (bV z) (Nat.not_lt.mpr h);rcases Nat.lt_trichotomy p q with h|h|h
 ·rw[show gW p q=true from kz h];exact kz (lt p q hp.1 hq.2 h)
 ·subst h;rw[no _ _ (aQ _),no _ _ (aQ _)]
 ·rw[no _ _ (dw h),no _ _ (dw (lt q p hq.1 hp.2 h))]
theorem ajE(c:nT Q 5 (Q 1)=true){up low:Nat}{R:Nat->Nat}(hu:L up=Q (R up))(hl:L low=Q (R low))(ru:1<=R up/\R up<=6)(rl:1<=R low/\R low<=6):nP L up low=ae (gW (R up) (R low)) 1 (ae (aS up low) (ae (aS (gi up) 0) 1 2) 2):=by have e:fS false (L up) false (L low)=gW (L up) (L low):=rfl;unfold nP;rw[e,hu,hl,ajD c ru rl]
end
theorem H3:∀pr,pr<6->∀s,s<6->(cG s).getD ((bT pr).getD 0 0) 0=dE pr s/2%2/\(cG s).getD ((bT pr).getD 1 0) 0=dE pr s/4%2/\(cG s).getD ((bT pr).getD 2 0) 0=dE pr s%2/\1<=dE pr s/\dE pr s<=6:=by decide+kernel
theorem RT{pr wh st s:Nat}(hp:pr<6)(hs:s<6):nO pr wh st s=yM wh st (dE pr s):=by obtain⟨a,b,c,_⟩:=H3 pr hp s hs;unfold nO yM bH;rw[a,b,c]
theorem ajF{pr wh st tu wd:Nat}(D:vQ pr wh st tu wd)(up:Nat)(hu:up<6)(low:Nat)(hl:low<6):nP (nO pr wh st) up low=a8 pr up low:=
 ajE (R:=dE pr) (ajC D.wh D.st.1 D.st.2) (RT D.pr hu) (RT D.pr hl) (H3 pr D.pr up hu).2.2.2 (H3 pr D.pr low hl).2.2.2
theorem RU(pr x s:Nat):1<=a8 pr x s/\a8 pr x s<=2:=by
 unfold a8;cases gW (dE pr x) (dE pr s)with
 |true=>exact⟨aQ 1,jt 1⟩|false=>cases aS x s with
  |false=>exact⟨jt 1,aQ 2⟩|true=>cases aS (gi x) 0 with
   |true=>exact⟨aQ 1,jt 1⟩|false=>exact⟨jt 1,aQ 2⟩
section
namespace Po
def ev(y:Nat)(l:List Nat):Nat:=l.rec 0 λa J r=>a+y*r
noncomputable def kJ(p:List Nat):List Nat->List Nat:=p.rec id λa p r q=>q.casesOn (a::p) λb q=>(a+b)::r q
noncomputable def Co(c:Nat)(l:List Nat):List Nat:=l.map (c*·)
def mulL(p q:List Nat):List Nat:=p.rec [] λa J r=>kJ (Co a q) (0::r)
theorem me(y:Nat)(p):∀q,ev y (kJ p q)=ev y p+ev y q:=by
 induction p with
 |nil=>exact λq=>(iY _).symm|cons a p ih=>
  intro q;cases q with
  |nil=>rfl|cons b q=>
   show a+b+y*ev y (kJ p q)=a+y*ev y p+(b+y*ev y q)
   rw[ih,jx];exact a9 0xed88318208832810 4581298452
theorem ajH(y c:Nat)(p):ev y (Co c p)=c*ev y p:=by
 induction p with|nil=>rfl|cons a p ih=>show c*a+y*ev y (Co c p)=c*(a+y*ev y p);rw[ih,jx,Nat.mul_left_comm]
theorem lh(y:Nat)(p q):ev y (mulL p q)=ev y p*ev y q:=by
 induction p with|nil=>exact(m6 _).symm|cons a p ih=>show ev y (kJ (Co a q) (0::mulL p q))=(a+y*ev y p)*ev y q;rw[me,ajH];show a*ev y q+(0+y*ev y (mulL p q))=_;rw[ih,wT,iY,jS]
def wk(t:Nat):List Nat:=t.rec [1] λJ r=>mulL [1,1] r
theorem H4(y:Nat):ev y [1,1]=1+y:=congrArg (1+·) (kB y)
theorem RV(y t:Nat):ev y (wk t)=(1+y)^t:=by
 induction t with|zero=>rfl|succ t ih=>show ev y (mulL [1,1] (wk t))=_;rw[lh,ih,jy,fO,H4]
def dL(t:Nat):List Nat:=t.rec [] λJ r=>kJ (mulL [1,1] r) [0,1]
theorem ajI(y t:Nat):ev y (dL t)+1=(1+y)^t:=by
 induction t with|zero=>rfl|succ t ih=>have e2:ev y [0,1]=y:=(iY _).trans (kB y);show ev y (kJ (mulL [1,1] (dL t)) [0,1])+1=_;rw[me,lh,H4,e2,jy,<-ih,wT,y3,fO (ev y (dL t)+1) (1+y),wT,y3,jx,kB];exact aC 0xed8821819081982810 4581298451
def pD(i:Nat):List Nat:=i.rec [1] λi r=>mulL r (dL (i+1))
theorem RW(h:1+y=2^wd)(t:Nat):ev y (dL t)=2^(wd*t)-1:=by rw[Nat.pow_mul,<-h,<-ajI,Jj]
theorem qY(h:1+y=2^wd)(n):ev y (pD n)=bK wd n:=by
 induction n with|zero=>rfl|succ i ih=>show ev y (mulL (pD i) (dL (i+1)))=bK wd i*(2^(wd*(i+1))-1);rw[lh,ih,RW h]
def rL(n k:Nat):List Nat:=k.rec [1] λk r=>mulL r (dL (n+k+1))
theorem ajJ(h:1+y=2^wd)(n k:Nat):bK wd n*ev y (rL n k)=bK wd (n+k):=by
 induction k with|zero=>exact kB _|succ k ih=>show bK wd n*ev y (mulL (rL n k) (dL (n+k+1)))=bK wd (n+k)*(2^(wd*(n+k+1))-1);rw[lh,<-jS,ih,RW h]
noncomputable def H5(l:List Nat):Bool:=l.all λa=>aS a 0
theorem RX(y:Nat)(l:List Nat):H5 l=true->ev y l=0:=by
 induction l with|nil=>exact λJ=>rfl|cons a r ih=>intro h;obtain⟨h1,h2⟩:=(nU _ _).mp h;show a+y*ev y r=0;rw[fD h1,ih h2,pK]
def eqZ(p:List Nat):List Nat->Bool:=p.rec H5 λa p r q=>q.casesOn (H5 (a::p)) λb q=>aS a b&&r q
theorem RY(y:Nat):∀{q},eqZ p q=true->ev y p=ev y q:=by
 induction p with
 |nil=>exact λh=>(RX y _ h).symm|cons a p ih=>
  intro q;cases q with|nil=>exact λh=>RX y _ h|cons b q=>intro h;obtain⟨h1,h2⟩:=(nU _ _).mp h;show a+y*ev y p=b+y*ev y q;rw[fD h1,ih h2]
def Cp(N:Nat)(l:List (Nat×Nat)):List Nat:=l.rec [] λm J r=>kJ (mulL (rL m.1 (N-m.1)) (wk (6-m.2))) r
def hL(l:List Nat):List Nat:=l.rec [] λd J r=>kJ [d] (mulL [1,1] r)
theorem ajK(h:1+y=2^wd)(ds):ev y (hL ds)=valN wd ds:=by
 induction ds with|nil=>rfl|cons d r ih=>show ev y (kJ [d] (mulL [1,1] (hL r)))=d+2^wd*valN wd r;rw[me,lh,ih,<-h,H4];rfl
theorem ajL(h:1+y=2^wd)(hP:∀n,n<=N->0<bK wd n)(ms:List (Nat×Nat)):(∀m∈ms,m.1<=N/\m.2<=6)-> pv wd (bK wd N*f) ms=f*2^(wd*13)*ev y (Cp N ms):=by
 induction ms with
 |nil=>exact λJ=>rfl|cons m r ih=>
  intro hm;have ih:=ih λx hx=>hm x (aY _ hx);obtain⟨h1,h2⟩:=hm m aK;have e1:=ajJ h m.1 (N-m.1);rw[za h1]at e1;have e2:bK wd N*f/bK wd m.1=ev y (rL m.1 (N-m.1))*f:=by rw[<-e1,jS];exact Nat.mul_div_cancel_left _ (hP m.1 h1)
  have e3:wd*(19-m.2)=wd*13+wd*(6-m.2):=by rw[<-jx,<-Nat.add_sub_assoc h2]
  show bK wd N*f/bK wd m.1*2^(wd*(19-m.2))+pv wd (bK wd N*f) r=f*2^(wd*13)*ev y (kJ (mulL (rL m.1 (N-m.1)) (wk (6-m.2))) (Cp N r));rw[ih,me,lh,RV,h,jx,e2,e3,gu,Nat.pow_mul 2 wd (6-m.2)];congr 1
  ac_rfl
end Po
open Po
noncomputable def pE(N k:Nat)(ms:List (Nat×Nat)):Nat:=match ms with|[]=>0|m::r=>bif aS m.1 N&&aS m.2 k then pE N k r+1 else pE N k r
noncomputable def ky(N:Nat)(ms:List (Nat×Nat)):Nat:=match ms with|[]=>0|m::r=>bif aS m.1 N then Nat.max m.2 (ky N r)else ky N r
def iE(N:Nat)(ms:List (Nat×Nat)):List Nat:=(au (ky N ms+1)).map λk=>pE N k ms
def qZ(a b c:Nat):List Nat:=mulL (mulL (pD a) (pD b)) (pD c)
structure yN(pr a b c:Nat):Prop where
 Cq:∀m∈fM pr a b c,m.1<=a+b+c/\m.2<=6
 sum:eqZ (mulL (Cp (a+b+c) (fM pr a b c)) (qZ a b c)) (mulL (wk 6) (pD (a+b+c)))=true
 quo:eqZ (mulL (hL (iE (a+b+c) (fM pr a b c))) (qZ a b c)) (pD (a+b+c))=true
 lt:∀d∈iE (a+b+c) (fM pr a b c),d<=3
 last:1<=(iE (a+b+c) (fM pr a b c)).getD ((iE (a+b+c) (fM pr a b c)).length-1) 0
 len:(fM pr a b c).length<=2000
 yG:∀i,i<a+b+c->(d5 (a8 pr) a b c i).1.length<=2000/\(d5 (a8 pr) a b c i).2.length<=2000/\∀h∈(d5 (a8 pr) a b c i).2,v9 h
def tL(n:Nat)(k:Nat->Bool):Bool:=rC (k 0) (λm J=>k (jT m)) n
theorem H6(n:Nat)(k:Nat->Bool):tL n k=k n:=by cases n<;>rfl
def H7(l:List (Nat×Nat)):(List (Nat×Nat)->Bool)->Bool:=d6 (λk=>k []) (λh J ih k=>tL h.1 λx=>tL h.2 λy=>ih λt=>k ((x,y)::t)) l
theorem RZ:∀(l:List (Nat×Nat)) (k:List (Nat×Nat)->Bool),H7 l k=k l|[],_=>rfl|h::t,k=>by show tL h.1 (λx=>tL h.2 λy=>H7 t λt=>k ((x,y)::t))=_;rw[H6,H6,RZ t]
def H8(l:List Nat):(List Nat->Bool)->Bool:=d6 (λk=>k []) (λh J ih k=>tL h λx=>ih λt=>k (x::t)) l
theorem R0:∀(l:List Nat) (k:List Nat->Bool),H8 l k=k l|[],_=>rfl|h::t,k=>by show tL h (λx=>H8 t λt=>k (x::t))=_;rw[H6,R0 t]
noncomputable def hdB(h:mW):Bool:=bh (h.a+h.b+h.c) 4&&(bh h.last 6&&bh h.kh 100)
def ajO(x:Acc):Bool:=bh x.1.length 2000&&(bh x.2.length 2000&&x.2.all hdB)
def H9(pr a b c:Nat):Bool:=H7 (fM pr a b c) λms=>H8 (iE (a+b+c) ms) λds=>
 (ms.all λm=>bh m.1 (a+b+c)&&bh m.2 6)&&(eqZ (mulL (Cp (a+b+c) ms) (qZ a b c)) (mulL (wk 6) (pD (a+b+c)))&&
 (eqZ (mulL (hL ds) (qZ a b c)) (pD (a+b+c))&&((ds.all λd=>bh d 3)&&(bh 1 (ds.getD (ds.length-1) 0)&&(bh ms.length 2000&&(au (a+b+c)).all λi=>ajO (d5 (a8 pr) a b c i))))))
theorem mY(h:(x&&y)=true):x=true/\y=true:=(nU _ _).mp h
theorem ajP(h:H9 pr a b c=true):yN pr a b c:=by
 unfold H9 at h;rw[RZ,R0]at h;obtain⟨h1,h⟩:=mY h;obtain⟨h2,h⟩:=mY h;obtain⟨h3,h⟩:=mY h;obtain⟨h4,h⟩:=mY h;obtain⟨h5,h⟩:=mY h;obtain⟨h6,h⟩:=mY h;refine⟨λm hm=>?_,h2,h3,λd hd=>bV (List.all_eq_true.mp h4 d hd),bV h5,bV h6,λi hi=>?_⟩
 ·obtain⟨a,b⟩:=mY (List.all_eq_true.mp h1 m hm)
  exact⟨bV a,bV b⟩
 ·obtain⟨a,h⟩:=mY (List.all_eq_true.mp h i (List.mem_range.mpr hi))
  obtain⟨b,h⟩:=mY h;refine⟨bV a,bV b,λx hx=>?_⟩;obtain⟨p,q⟩:=mY (List.all_eq_true.mp h x hx);obtain⟨q,r⟩:=mY q;exact⟨bV p,bV q,bV r⟩
def R1:List (Nat×Nat×Nat):=LK.filter λd=>bh 1 (d.1+d.2.1+d.2.2)
theorem ajQ:(R1.map λd=>(au 6).map λp=>H9 p d.1 d.2.1 d.2.2)=mapR R1 λJ=>mapR (au 6) λJ=>true:=⋯
theorem ajR(a b c pr:Nat)(h1:a+b+c<=4)(h2:0<a+b+c)(h3:pr<6):yN pr a b c:=
 ajP (aX (aX ajQ (List.mem_filter.mpr ⟨Hz h1,kz h2⟩)) (List.mem_range.mpr h3))
end
section
open Po
noncomputable def rh:Nat->Nat|0=>0|i+1=>rh i+(i+1)
theorem R4(wd:Nat):∀i,bK wd i<=2^(wd*rh i)
 |0=>by simp[bK,rh]|i+1=>by
  have e:2^(wd*rh (i+1))=2^(wd*rh i)*2^(wd*(i+1)):=by rw[rh,jx wd (rh i) (i+1),gu]
  rw[bK,e];exact lV (R4 wd i) (Nat.sub_le _ _)
theorem Ia(h:1<=wd):∀i,0<bK wd i|0=>Nat.one_pos|i+1=>by rw[bK];refine tW (Ia h i) (Nat.sub_pos_of_lt ?_);have:0<wd*(i+1):=tW h (by exact ax 3967913993 1122577);exact Nat.one_lt_two_pow ((ax 0xe0fd090c009 16855313) this)
theorem R5(h1:1<=wd)(h2:wd<=500)(hi:i<=4):0<bK wd i/\bK wd i<2^6000:=by refine⟨Ia h1 i,b9 (R4 wd i) (jv ⋯ ?_)⟩;have ht:=(by decide:∀i,i<5->rh i<=10) i (jw hi);have:=lV h2 ht;exact(ax 0xec17704a0b13884a0 1122577) this
theorem up_eq(h:yN pr a b c)(hw:1<=wd):pv wd (bK wd (a+b+c)*f) (fM pr a b c)*fL wd a b c=2^(19*wd)*(bK wd (a+b+c)*f):=by
 have hy:1+(2^wd-1)=2^wd:=by have:=fE wd;exact(ao 0xed18019c1092f1fd090b1911fd18190b119 0x1011411100141110101511100015112) this aq
 rw[ajL hy (λn J=>Ia hw n) (fM pr a b c) h.Cq];have e:=RY (2^wd-1) h.sum;rw[lh,lh,RV,hy,qY hy]at e;have e3:ev (2^wd-1) (qZ a b c)=fL wd a b c:=by unfold qZ;rw[lh,lh,qY hy,qY hy,qY hy];rfl
 rw[e3]at e;rw[jS,e,show 19*wd=wd*13+wd*6 by exact ax 0xed82e6902ed901e0132a 4581298449,gu,Nat.pow_mul 2 wd 6]
 ac_rfl
theorem R6(h:yN pr a b c):bK wd (a+b+c)=valN wd (iE (a+b+c) (fM pr a b c))*fL wd a b c:=by
 have hy:1+(2^wd-1)=2^wd:=by have:=fE wd;exact(ao 0xed18019c1092f1fd090b1911fd18190b119 0x1011411100141110101511100015112) this aq
 have e:=RY (2^wd-1) h.quo;have e3:ev (2^wd-1) (qZ a b c)=fL wd a b c:=by unfold qZ;rw[lh,lh,qY hy,qY hy,qY hy];rfl
 rw[lh,ajK hy,e3,qY hy]at e;exact e.symm
theorem ajS(hU:Un=Ln*Wn)(hR:Rn<Wn)(ht:tn=tF Rn)(hW:Wn<2^7998)(R7:Un+Rn<2^90000)(U W R L t:Int)(eU:U=(Un:Nat))(eW:W=(Wn:Nat))(eR:R=(Rn:Nat))(eL:L=(Ln:Nat))(et:t=(tn:Nat)):kZ (U+R) W L R/\kZ (-U-R) (-W) L (-R)/\kZ (-U-R) W (-L-t) (W*t-R)/\kZ (U+R) (-W) (-L-t) (R-W*t):=by
 have jO:0<W:=by exact(bL 0xe7e009c108e5e10 68989051154 [_,_] [_]) hR eW
 have Cr:U=L*W:=by rw[eU,eL,eW,hU,gZ]
 have wm:(R=0/\t=0)∨(0<R/\t=1):=by
  unfold tF at ht;by_cases h:Rn=0
  ·rw[if_pos h]at ht;exact .inl ⟨by exact(bL 0xe8e0908e5e00d090 0x1011411101015111 [_] [_]) eR h,by exact(bL 0xe8e090d0908e5e00 0x1011411101015111 [_] [_]) ht et⟩
  ·rw[if_neg h]at ht;exact .inr ⟨by exact(bL 0xe7e0098e5e000fd090 0x1101411110005111 [_] [_]) eR h,by exact(bL 0xe8e190d1908e5e00 0x1011411101015111 [_] [_]) ht et⟩
 have rj:0<=R/\R<W:=(bL 0xe1f7e106e009c108e5e118e5e00 0x11011511101000018112 [_,_] [_,_]) hR eW eR;have b1:(U+R).natAbs<2^90000:=by rw[eU,eR,<-og,fQ];exact R7
 have b2:(-U-R).natAbs<2^90000:=by rw[show -U-R=-(U+R)by exact cy 0xe8e4e8103e14e0 4581298448,Jb];exact b1
 have w1:W.natAbs<2^7998:=by rw[eW,fQ];exact hW
 have w2:(-W).natAbs<2^7998:=by rw[Jb];exact w1
 have c1:W*L=L*W:=ie _ _;clear hU hR ht hW R7 eU eW eR eL et;have dk:∀{x y:Int},x.natAbs<2^90000->y≠0->y.natAbs<2^7998->DI true true x y:=λhx h0 hy=>⟨h0,hx,hy,(λq=>nomatch q),(λq=>nomatch q)⟩
 have q1:=(Int.fdiv_fmod_unique (a:=U+R) (b:=W) (q:=L) (r:=R) jO).mpr ⟨by rw[c1,Cr];exact cy 62520301584 4581298448,by exact(cy 0xe6e0091f7e106e009 1122576) rj,by exact(cy 0xe7e101f7e106e009 16855312) rj⟩;have q2:=(Int.fdiv_fmod_unique' (a:=-U-R) (b:=-W) (q:=L) (r:=-R) ((dy 0xe7e094e07e009 1122576) jO)).mpr ⟨by rw[yS,c1,Cr];exact cy 0xe8e3e04e184e14e0 4581298448,by exact(cy 0xe7e4e14e01f7e016e109 16855312) rj,by exact(cy 0xe6e094e01f7e106e009 1122576) rj⟩
 have q3:=(Int.fdiv_fmod_unique (a:=-U-R) (b:=W) (q:=-L-t) (r:=W*t-R) jO).mpr (by
  rcases wm with⟨r0,t0⟩|⟨r0,t0⟩<;>subst t0<;>refine⟨by rw[Int.mul_sub,Int.mul_neg,c1,Cr];(first|exact nj 0xe8e3e14e283e2e0904e23e12e090 4581298448|exact nj 0xe8e3e14e283e2e1904e23e12e190 4581298448),by(first|exact(cy 0xe6e3e12e090098e091 1122576) r0|exact(cy 0xe6e3e12e190091f7e016e109 16855312) rj),by(first|exact(cy 0xe7e03e12e0901f7e016e109 17674075714080) rj|exact(cy 0xe7e03e12e1907e109 1122576) r0)⟩)
 have q4:=(Int.fdiv_fmod_unique' (a:=U+R) (b:=-W) (q:=-L-t) (r:=R-W*t) ((dy 0xe7e094e07e009 1122576) jO)).mpr (by
  rcases wm with⟨r0,t0⟩|⟨r0,t0⟩<;>subst t0<;>refine⟨by rw[yS,Int.mul_sub,Int.mul_neg,c1,Cr];(first|exact nj 0xe8e80284e3e2e0914e23e2e0910 4581298448|exact nj 0xe8e80284e3e2e1914e23e2e1910 4581298448),by(first|exact(cy 0xe7e3e2e09014e01f7e016e109 17674075714080) rj|exact(cy 0xe7e3e2e19014e07e109 1122576) r0),by(first|exact(cy 0xe6e093e2e09108e090 1122576) r0|exact(cy 0xe6e093e2e19101f7e106e009 16855312) rj)⟩)
 exact⟨⟨dk b1 ((dy 0xe0f8e0907e009 16855312) jO) w1,q1.1,q1.2⟩,⟨dk b2 ((dy 0xe0f8e094e07e009 17838352) jO) w2,q2.1,q2.2⟩,⟨dk b2 ((dy 0xe0f8e0907e009 16855312) jO) w1,q3.1,q3.2⟩,⟨dk b1 ((dy 0xe0f8e094e07e009 17838352) jO) w2,q4.1,q4.2⟩⟩
theorem ajT(g:Nat)(hW:0<W):px W g<W:=by have h3:g%3<3:=dr _ ⋯;have hm:g/3%W<W:=dr _ hW;exact BU (P:=λk=>[0,g/3%W,W-1-g/3%W].getD k 0<W) hW hm (b9 (Nat.sub_le _ _) (Nat.sub_lt hW Nat.one_pos)) h3
end
section
open Po
theorem R8(n:Nat):∀ds:List Nat,(∀d∈ds,d<2^n)->d7 n (valN n ds) ds.length=ds|[],_=>rfl|d::r,h=>by have ih:=R8 n r λx hx=>h x (aY _ hx);have hd:=h d aK;have hp:=fE n;rw[valN,bP,d7,Nat.add_mul_mod_self_left,Nat.mod_eq_of_lt hd,Nat.add_mul_div_left _ _ hp,Jc hd,iY,ih]
theorem R9(n:Nat):∀ds:List Nat,(∀d∈ds,d<2^n)->valN n ds<2^(n*ds.length)|[],_=>by simp[valN]|d::r,h=>by have ih:=R9 n r λx hx=>h x (aY _ hx);have hd:=h d aK;rw[valN,bP,Jl,iG (n*r.length) n,gu];have:2^n*(valN n r+1)<=2^n*2^(n*r.length):=nY _ ih;rw[jx,kB]at this;exact(a9 0xec2810c30b2831 17903892) hd this
theorem Sa(n:Nat):∀ds:List Nat,1<=ds.getD (ds.length-1) 0->2^(n*(ds.length-1))<=valN n ds/\ds≠[]
 |[],h=>absurd h (by simp)|[d],h=>by refine⟨?_,by simp⟩;have:=h;simp[valN];exact this|d::e::r,h=>by
  have h':=h;have ih:=(Sa n (e::r) h').1;refine⟨?_,by simp⟩;rw[valN];have e1:(d::e::r).length-1=(e::r).length-1+1:=by simp
  rw[e1,Jl,iG,gu];have:=nY (2^n) ih;exact(aC 63218715424 269566227) this
theorem Sb{a:Nat}(h:a≠0):bk (a:Int)=a.log2+1:=by unfold bk;rw[if_neg (by simpa using h),fQ]
theorem ajU{n:Nat}(hn:1<=n){ds:List Nat}(h:∀d∈ds,d<2^n)(hl:1<=ds.getD (ds.length-1) 0):cK n (valN n ds)=ds.length:=by
 obtain⟨h1,h2⟩:=Sa n ds hl;have h3:=R9 n ds h;have h0:valN n ds≠0:=by have:=fE (n*(ds.length-1));exact(ao 0xe0fd090b01c109 285294866) h1 this
 unfold cK;rw[Sb h0];have a1:=(Nat.le_log2 h0).mpr h1;have a2:=(wH h0).mpr h3;have hlen:=List.length_pos_iff.mpr h2;generalize (valN n ds).log2=l at*;obtain⟨k,hk⟩:∃k,ds.length=k+1:=⟨ds.length-1,by exact(ao 0xed81910b0192f1fd091b1901fd08191b019 0x1010151110001511101141110014112) hlen aq⟩
 rw[hk,show k+1-1=k by exact(ao 0xed102f1fd090b1981911fd81918190b819119 0x10101511101311101141110014112) aq]at a1;rw[hk]at a2⊢;rw[show l+1+n-1=l+n by exact(aC 0xed82102f1fd090b198281911fd8281918190b82819119 0x110101611101311101141110014113) aq,Nat.add_div_right _ (by exact(ax 63351402521 1122577) hn)];congr 1;refine Nat.div_eq_of_lt_le ?_ ?_
 ·rw[fO];exact a1
 ·rw[fO];exact a2
theorem beq_iff:aS a b=true↔a=b:=⟨fD,λh=>h▸Nat.beq_refl a⟩
theorem count_cnt(N k:Nat):∀ms:List (Nat×Nat),(jQ N ms).count (k:Int)=pE N k ms
 |[]=>rfl|m::r=>by
  have ih:=count_cnt N k r;show(ae (aS m.1 N) ((m.2:Int)::jQ N r) (jQ N r)).count (k:Int)=_;rw[pE];cases aS m.1 N with
  |false=>exact ih|true=>
   rw[List.count_cons,ih,Bool.true_and];cases h:aS m.2 k with|true=>rw[cond_true,beq_iff.mp h,if_pos (beq_self_eq_true _)]|false=>rw[cond_false,if_neg (λq=>by rw[tO (eq_of_beq q),Nat.beq_refl]at h;cases h)];rfl
theorem foldl_max:∀(r:List Int) (n:Int),(r.foldl max n=n∨r.foldl max n∈r)/\n<=r.foldl max n/\∀x∈r,x<=r.foldl max n
 |[],n=>⟨.inl rfl,wA _,λx h=>(nomatch h)⟩|a::r,n=>by
  obtain⟨h1,h2,h3⟩:=foldl_max r (max n a);rw[wJ];refine⟨?_,pL (Int.le_max_left n a) h2,λx hx=>?_⟩
  ·rcases h1 with h|h
   ·rcases CO n a with q|q
    ·exact .inr (by rw[h,IW q];exact aK)
    ·exact .inl (by rw[h,Int.max_eq_left q])
   ·exact .inr (aY _ h)
  ·rcases List.mem_cons.mp hx with rfl|hx
   ·exact pL (Int.le_max_right n _) h2
   ·exact h3 x hx
theorem Sc(N:Nat):∀{ms:List (Nat×Nat)} {m:Nat×Nat},m∈ms->m.1=N->m.2<=ky N ms
 |x::r,m,h,e=>by
  rw[ky];rcases List.mem_cons.mp h with rfl|h
  ·rw[beq_iff.mpr e,cond_true]
   exact Nat.le_max_left _ _
  ·have:=Sc N h e
   cases aS x.1 N with|true=>exact az this (Nat.le_max_right _ _)|false=>exact this
theorem Sd(N:Nat):∀{ms:List (Nat×Nat)},(∀m∈ms,m.2<=B)->ky N ms<=B
 |[],_=>fP _|x::r,h=>by
  rw[ky];have h1:=Sd N (ms:=r) λm hm=>h m (aY _ hm);have h2:=h x aK;cases aS x.1 N with|true=>exact Nat.max_le.mpr ⟨h2,h1⟩|false=>exact h1
theorem Se:∀{ms:List (Nat×Nat)},1<=pE N k ms->(N,k)∈ms
 |[],h=>absurd h (by simp[pE])|m::r,h=>by
  rw[pE]at h;by_cases h1:m.1=N/\m.2=k
  ·rw[<-h1.1,<-h1.2];exact aK
  ·have:(aS m.1 N&&aS m.2 k)=false:=by
    rw[SU];intro q;obtain⟨q1,q2⟩:=(nU _ _).mp q;exact h1 ⟨fD q1,fD q2⟩
   rw[this,cond_false]at h;exact aY _ (Se h)
theorem ajV(h1:M∈l)(h2:∀x∈l,x<=M):lD l=M:=by
 cases l with
 |nil=>cases h1|cons n r=>
  obtain⟨a,b,c⟩:=foldl_max r n;have u1:M<=r.foldl max n:=by
   rcases List.mem_cons.mp h1 with rfl|h
   ·exact b
   ·exact c M h
  have u2:r.foldl max n<=M:=by
   rcases a with a|a
   ·rw[a];exact h2 n aK
   ·exact h2 _ (aY _ a)
  exact(cy 0xe8e106e016e10 17674076758288) u1 u2
theorem Ib:∀{ms:List (Nat×Nat)} {x:Int},x∈jQ N ms↔∃m∈ms,m.1=N/\x=(m.2:Nat)
 |[],x=>⟨λh=>(nomatch h),λ⟨m,h,_⟩=>(nomatch h)⟩|m::r,x=>by
  have ih:=Ib (N:=N) (ms:=r) (x:=x);show x∈ae (aS m.1 N) ((m.2:Int)::jQ N r) (jQ N r)↔_;constructor
  ·intro h
   cases c:aS m.1 N with
   |true=>
    rw[c]at h;rcases List.mem_cons.mp h with h|h
    ·exact⟨m,aK,beq_iff.mp c,h⟩
    ·exact(ih.mp h).imp λm h=>⟨aY _ h.1,h.2⟩
   |false=>rw[c]at h;exact(ih.mp h).imp λm h=>⟨aY _ h.1,h.2⟩
  ·rintro⟨m',hm,e1,e2⟩
   rcases List.mem_cons.mp hm with rfl|hm
   ·rw[beq_iff.mpr e1,e2];exact aK
   ·have:=ih.mpr ⟨m',hm,e1,e2⟩
    cases aS m.1 N with|true=>exact aY _ this|false=>exact this
theorem ajW{pr a b c wd W:Nat}(h:yN pr a b c)(h4:a+b+c<=4)(hw:2<=wd/\wd<=500)(hW:0<W/\W<2^7998):HV (a+b+c) wd W (valN wd (iE (a+b+c) (fM pr a b c))) (ky (a+b+c) (fM pr a b c)) (fM pr a b c):=by
 have hP:=R5 (wd:=wd) (by exact(ax 0xeb0191fb1f43a0b029 1122577) hw) hw.2 h4;have hq:=R6 (wd:=wd) h;generalize hms:fM pr a b c=ms at*;have hr:=h.Cq;have hl:=h.len;have aM:=h.lt;have Ic:=h.last;rw[hms]at hr hl aM Ic;have aM:∀d∈iE (a+b+c) ms,d<2^wd:=λd hd=>by have h1:=aM d hd;have h2:2^2<=2^wd:=nh ⋯ hw.1;exact(ao 0xec10b390b149 17903890) h1 h2
 have Ie:pC (a+b+c) (ky (a+b+c) ms) ms=iE (a+b+c) ms:=rH λk J=>count_cnt _ _ _;have e1:(iE (a+b+c) ms).length=ky (a+b+c) ms+1:=by unfold iE;rw[bB,gH]
 have ajY:(a+b+c,ky (a+b+c) ms)∈ms:=by
  refine Se ?_;have e2:(iE (a+b+c) ms).getD ((iE (a+b+c) ms).length-1) 0=pE (a+b+c) (ky (a+b+c) ms) ms:=by rw[e1,Jj];unfold iE;rw[Tp,C9,Tb (by exact ax 247994624 69905)];rfl
  exact(ao 0xeb019b119d01 17903890) Ic e2
 have ja:=Ib.mpr ⟨_,ajY,rfl,rfl⟩;have hub:∀x∈jQ (a+b+c) ms,x<=((ky (a+b+c) ms:Nat):Int):=λx hx=>by obtain⟨m,f9,gP,rfl⟩:=Ib.mp hx;have:=Sc (a+b+c) f9 gP;exact(ao 0xe6e5e15e0b10 1122578) this
 generalize hd:iE (a+b+c) ms=ds at*;have Cs:valN wd ds≠0:=λq=>by rw[q,m6]at hq;exact(ao 0xe4f1fc10c009d090 16855314) hP hq
 have Ct:0<fL wd a b c:=by
  rcases Di (fL wd a b c)with q|q
  ·rw[q,pK]at hq;exact((ao 0xe4f1fc10c009d090 16855314) hP hq).elim
  ·exact q
 have aj0:valN wd ds<=bK wd (a+b+c):=by rw[hq];exact Nat.le_mul_of_pos_right _ Ct
 have hmx:=Sd (a+b+c) (B:=6) λm hm=>(hr m hm).2;refine⟨hl,(λq=>by rw[q]at ja;cases ja),⟨ajV ja hub,hmx⟩,hW,⟨((ax 0xeb0191fb1f43a0b029 1122577) hw),hw.2⟩,?_,?_,(by rw[Ie]),(by rw[Ie];exact aM)⟩
 ·rw[Sb Cs]
  have h1:=b9 aj0 hP.2;have h2:=(wH Cs).mpr h1;exact(ax 0xeb15f905a8190c17704a0 1122577) h2
 ·rw[Ie,ajU (by exact(ax 0xeb0191fb1f43a0b029 1122577) hw) aM Ic]
  exact R8 wd ds aM
end
noncomputable def rm:List (Nat×Nat×Nat):=[(0,0,1),(0,0,2),(0,0,3),(0,0,4),(0,0,6),(0,0,8),(0,0,9),(0,0,12),(0,0,16),(0,1,0),(0,1,1),(0,1,2),(0,1,3),(0,2,0),(0,2,1),(0,2,2),(0,2,4),(0,2,6),(0,3,0),(0,3,1),(0,3,3),(0,3,6),(0,3,9),(0,4,0),(0,4,2),(0,4,4),(0,4,8),(0,4,12),(0,6,0),(0,6,2),(0,6,3),(0,6,6),(0,8,0),(0,8,4),(0,8,8),(0,9,0),(0,9,3),(0,12,0),(0,12,4),(0,16,0),(1,0,0),(1,0,1),(1,0,2),(1,0,3),(1,1,0),(1,1,1),(1,1,2),(1,2,0),(1,2,1),(1,3,0),(2,0,0),(2,0,1),(2,0,2),(2,0,4),(2,0,6),(2,1,0),(2,1,1),(2,2,0),(2,2,2),(2,2,4),(2,4,0),(2,4,2),(2,6,0),(3,0,0),(3,0,1),(3,0,3),(3,0,6),(3,0,9),(3,1,0),(3,3,0),(3,3,3),(3,3,6),(3,6,0),(3,6,3),(3,9,0),(4,0,0),(4,0,2),(4,0,4),(4,0,8),(4,0,12),(4,2,0),(4,2,2),(4,4,0),(4,4,4),(4,4,8),(4,8,0),(4,8,4),(4,12,0),(6,0,0),(6,0,2),(6,0,3),(6,0,6),(6,2,0),(6,3,0),(6,3,3),(6,6,0),(8,0,0),(8,0,4),(8,0,8),(8,4,0),(8,4,4),(8,8,0),(9,0,0),(9,0,3),(9,3,0),(12,0,0),(12,0,4),(12,4,0),(16,0,0)]
noncomputable def Cv(n:Nat)(k:Nat->Bool):Bool:=n.rec (k 0) λm J=>k (jT m)
theorem Ig(n:Nat)(k:Nat->Bool):Cv n k=k n:=by cases n<;>rfl
noncomputable def cx(s l n:Nat):Bool:=((rm.drop n).take 1).all λd=>Cv d.1 λa=>Cv d.2.1 λb=>Cv d.2.2 λc=>aP a b c s l
abbrev cyA(n:Nat):Prop:=cx 0 8 n=true
abbrev cyB(n:Nat):Prop:=cx 8 9 n=true
theorem cn{n:Nat}(h:cyA n)(g:cyB n)(t:∀d∈rm.drop (n+1),vG d):∀d∈rm.drop n,vG d:=λd m=>by
 rw[<-List.take_append_drop 1 (rm.drop n),I5]at m
 exact(List.mem_append.mp m).elim (λm=>by
  have q:=List.all_eq_true.mp h d m;have r:=List.all_eq_true.mp g d m;rw[Ig,Ig,Ig]at q r
  exact dc (l:=[]) q r (λx m=>nomatch m) d (.head _)) (t d)
theorem zx0:cyA 0:=⋯
theorem zy0:cyB 0:=⋯
theorem zx1:cyA 1:=⋯
theorem zy1:cyB 1:=⋯
theorem zx2:cyA 2:=⋯
theorem zy2:cyB 2:=⋯
theorem zx3:cyA 3:=⋯
theorem zy3:cyB 3:=⋯
theorem zx4:cyA 4:=⋯
theorem zy4:cyB 4:=⋯
theorem zx5:cyA 5:=⋯
theorem zy5:cyB 5:=⋯
theorem zx6:cyA 6:=⋯
theorem zy6:cyB 6:=⋯
theorem zx7:cyA 7:=⋯
theorem zy7:cyB 7:=⋯
theorem zx8:cyA 8:=⋯
theorem zy8:cyB 8:=⋯
theorem zx9:cyA 9:=⋯
theorem zy9:cyB 9:=⋯
theorem zx10:cyA 10:=⋯
theorem zy10:cyB 10:=⋯
theorem zx11:cyA 11:=⋯
theorem zy11:cyB 11:=⋯
theorem zx12:cyA 12:=⋯
theorem zy12:cyB 12:=⋯
theorem zx13:cyA 13:=⋯
theorem zy13:cyB 13:=⋯
theorem zx14:cyA 14:=⋯
theorem zy14:cyB 14:=⋯
theorem zx15:cyA 15:=⋯
theorem zy15:cyB 15:=⋯
theorem zx16:cyA 16:=⋯
theorem zy16:cyB 16:=⋯
theorem zx17:cyA 17:=⋯
theorem zy17:cyB 17:=⋯
theorem zx18:cyA 18:=⋯
theorem zy18:cyB 18:=⋯
theorem zx19:cyA 19:=⋯
theorem zy19:cyB 19:=⋯
theorem zx20:cyA 20:=⋯
theorem zy20:cyB 20:=⋯
theorem zx21:cyA 21:=⋯
theorem zy21:cyB 21:=⋯
theorem zx22:cyA 22:=⋯
theorem zy22:cyB 22:=⋯
theorem zx23:cyA 23:=⋯
theorem zy23:cyB 23:=⋯
theorem zx24:cyA 24:=⋯
theorem zy24:cyB 24:=⋯
theorem zx25:cyA 25:=⋯
theorem zy25:cyB 25:=⋯
theorem zx26:cyA 26:=⋯
theorem zy26:cyB 26:=⋯
theorem zx27:cyA 27:=⋯
theorem zy27:cyB 27:=⋯
theorem zx28:cyA 28:=⋯
theorem zy28:cyB 28:=⋯
theorem zx29:cyA 29:=⋯
theorem zy29:cyB 29:=⋯
theorem zx30:cyA 30:=⋯
theorem zy30:cyB 30:=⋯
theorem zx31:cyA 31:=⋯
theorem zy31:cyB 31:=⋯
theorem zx32:cyA 32:=⋯
theorem zy32:cyB 32:=⋯
theorem zx33:cyA 33:=⋯
theorem zy33:cyB 33:=⋯
theorem zx34:cyA 34:=⋯
theorem zy34:cyB 34:=⋯
theorem zx35:cyA 35:=⋯
theorem zy35:cyB 35:=⋯
theorem zx36:cyA 36:=⋯
theorem zy36:cyB 36:=⋯
theorem zx37:cyA 37:=⋯
theorem zy37:cyB 37:=⋯
theorem zx38:cyA 38:=⋯
theorem zy38:cyB 38:=⋯
theorem zx39:cyA 39:=⋯
theorem zy39:cyB 39:=⋯
theorem zx40:cyA 40:=⋯
theorem zy40:cyB 40:=⋯
theorem zx41:cyA 41:=⋯
theorem zy41:cyB 41:=⋯
theorem zx42:cyA 42:=⋯
theorem zy42:cyB 42:=⋯
theorem zx43:cyA 43:=⋯
theorem zy43:cyB 43:=⋯
theorem zx44:cyA 44:=⋯
theorem zy44:cyB 44:=⋯
theorem zx45:cyA 45:=⋯
theorem zy45:cyB 45:=⋯
theorem zx46:cyA 46:=⋯
theorem zy46:cyB 46:=⋯
theorem zx47:cyA 47:=⋯
theorem zy47:cyB 47:=⋯
theorem zx48:cyA 48:=⋯
theorem zy48:cyB 48:=⋯
theorem zx49:cyA 49:=⋯
theorem zy49:cyB 49:=⋯
theorem zx50:cyA 50:=⋯
theorem zy50:cyB 50:=⋯
theorem zx51:cyA 51:=⋯
theorem zy51:cyB 51:=⋯
theorem zx52:cyA 52:=⋯
theorem zy52:cyB 52:=⋯
theorem zx53:cyA 53:=⋯
theorem zy53:cyB 53:=⋯
theorem zx54:cyA 54:=⋯
theorem zy54:cyB 54:=⋯
theorem zx55:cyA 55:=⋯
theorem zy55:cyB 55:=⋯
theorem zx56:cyA 56:=⋯
theorem zy56:cyB 56:=⋯
theorem zx57:cyA 57:=⋯
theorem zy57:cyB 57:=⋯
theorem zx58:cyA 58:=⋯
theorem zy58:cyB 58:=⋯
theorem zx59:cyA 59:=⋯
theorem zy59:cyB 59:=⋯
theorem zx60:cyA 60:=⋯
theorem zy60:cyB 60:=⋯
theorem zx61:cyA 61:=⋯
theorem zy61:cyB 61:=⋯
theorem zx62:cyA 62:=⋯
theorem zy62:cyB 62:=⋯
theorem zx63:cyA 63:=⋯
theorem zy63:cyB 63:=⋯
theorem zx64:cyA 64:=⋯
theorem zy64:cyB 64:=⋯
theorem zx65:cyA 65:=⋯
theorem zy65:cyB 65:=⋯
theorem zx66:cyA 66:=⋯
theorem zy66:cyB 66:=⋯
theorem zx67:cyA 67:=⋯
theorem zy67:cyB 67:=⋯
theorem zx68:cyA 68:=⋯
theorem zy68:cyB 68:=⋯
theorem zx69:cyA 69:=⋯
theorem zy69:cyB 69:=⋯
theorem zx70:cyA 70:=⋯
theorem zy70:cyB 70:=⋯
theorem zx71:cyA 71:=⋯
theorem zy71:cyB 71:=⋯
theorem zx72:cyA 72:=⋯
theorem zy72:cyB 72:=⋯
theorem zx73:cyA 73:=⋯
theorem zy73:cyB 73:=⋯
theorem zx74:cyA 74:=⋯
theorem zy74:cyB 74:=⋯
theorem zx75:cyA 75:=⋯
theorem zy75:cyB 75:=⋯
theorem zx76:cyA 76:=⋯
theorem zy76:cyB 76:=⋯
theorem zx77:cyA 77:=⋯
theorem zy77:cyB 77:=⋯
theorem zx78:cyA 78:=⋯
theorem zy78:cyB 78:=⋯
theorem zx79:cyA 79:=⋯
theorem zy79:cyB 79:=⋯
theorem zx80:cyA 80:=⋯
theorem zy80:cyB 80:=⋯
theorem zx81:cyA 81:=⋯
theorem zy81:cyB 81:=⋯
theorem zx82:cyA 82:=⋯
theorem zy82:cyB 82:=⋯
theorem zx83:cyA 83:=⋯
theorem zy83:cyB 83:=⋯
theorem zx84:cyA 84:=⋯
theorem zy84:cyB 84:=⋯
theorem zx85:cyA 85:=⋯
theorem zy85:cyB 85:=⋯
theorem zx86:cyA 86:=⋯
theorem zy86:cyB 86:=⋯
theorem zx87:cyA 87:=⋯
theorem zy87:cyB 87:=⋯
theorem zx88:cyA 88:=⋯
theorem zy88:cyB 88:=⋯
theorem zx89:cyA 89:=⋯
theorem zy89:cyB 89:=⋯
theorem zx90:cyA 90:=⋯
theorem zy90:cyB 90:=⋯
theorem zx91:cyA 91:=⋯
theorem zy91:cyB 91:=⋯
theorem zx92:cyA 92:=⋯
theorem zy92:cyB 92:=⋯
theorem zx93:cyA 93:=⋯
theorem zy93:cyB 93:=⋯
theorem zx94:cyA 94:=⋯
theorem zy94:cyB 94:=⋯
theorem zx95:cyA 95:=⋯
theorem zy95:cyB 95:=⋯
theorem zx96:cyA 96:=⋯
theorem zy96:cyB 96:=⋯
theorem zx97:cyA 97:=⋯
theorem zy97:cyB 97:=⋯
theorem zx98:cyA 98:=⋯
theorem zy98:cyB 98:=⋯
theorem zx99:cyA 99:=⋯
theorem zy99:cyB 99:=⋯
theorem zx100:cyA 100:=⋯
theorem zy100:cyB 100:=⋯
theorem zx101:cyA 101:=⋯
theorem zy101:cyB 101:=⋯
theorem zx102:cyA 102:=⋯
theorem zy102:cyB 102:=⋯
theorem zx103:cyA 103:=⋯
theorem zy103:cyB 103:=⋯
theorem zx104:cyA 104:=⋯
theorem zy104:cyB 104:=⋯
theorem zx105:cyA 105:=⋯
theorem zy105:cyB 105:=⋯
theorem zx106:cyA 106:=⋯
theorem zy106:cyB 106:=⋯
theorem zx107:cyA 107:=⋯
theorem zy107:cyB 107:=⋯
theorem zx108:cyA 108:=⋯
theorem zy108:cyB 108:=⋯
theorem zx109:cyA 109:=⋯
theorem zy109:cyB 109:=⋯
theorem zx110:cyA 110:=⋯
theorem zy110:cyB 110:=⋯
theorem xe:rm.drop 111=[]:=⋯
theorem akm:∀d∈rm,vG d:=cn zx0 zy0<|cn zx1 zy1<|cn zx2 zy2<|cn zx3 zy3<|cn zx4 zy4<|cn zx5 zy5<|cn zx6 zy6<|cn zx7 zy7<|cn zx8 zy8<|cn zx9 zy9<|cn zx10 zy10<|cn zx11 zy11<|cn zx12 zy12<|cn zx13 zy13<|cn zx14 zy14<|cn zx15 zy15<|cn zx16 zy16<|cn zx17 zy17<|cn zx18 zy18<|cn zx19 zy19<|cn zx20 zy20<|cn zx21 zy21<|cn zx22 zy22<|cn zx23 zy23<|cn zx24 zy24<|cn zx25 zy25<|cn zx26 zy26<|cn zx27 zy27<|cn zx28 zy28<|cn zx29 zy29<|cn zx30 zy30<|cn zx31 zy31<|cn zx32 zy32<|cn zx33 zy33<|cn zx34 zy34<|cn zx35 zy35<|cn zx36 zy36<|cn zx37 zy37<|cn zx38 zy38<|cn zx39 zy39<|cn zx40 zy40<|cn zx41 zy41<|cn zx42 zy42<|cn zx43 zy43<|cn zx44 zy44<|cn zx45 zy45<|cn zx46 zy46<|cn zx47 zy47<|cn zx48 zy48<|cn zx49 zy49<|cn zx50 zy50<|cn zx51 zy51<|cn zx52 zy52<|cn zx53 zy53<|cn zx54 zy54<|cn zx55 zy55<|cn zx56 zy56<|cn zx57 zy57<|cn zx58 zy58<|cn zx59 zy59<|cn zx60 zy60<|cn zx61 zy61<|cn zx62 zy62<|cn zx63 zy63<|cn zx64 zy64<|cn zx65 zy65<|cn zx66 zy66<|cn zx67 zy67<|cn zx68 zy68<|cn zx69 zy69<|cn zx70 zy70<|cn zx71 zy71<|cn zx72 zy72<|cn zx73 zy73<|cn zx74 zy74<|cn zx75 zy75<|cn zx76 zy76<|cn zx77 zy77<|cn zx78 zy78<|cn zx79 zy79<|cn zx80 zy80<|cn zx81 zy81<|cn zx82 zy82<|cn zx83 zy83<|cn zx84 zy84<|cn zx85 zy85<|cn zx86 zy86<|cn zx87 zy87<|cn zx88 zy88<|cn zx89 zy89<|cn zx90 zy90<|cn zx91 zy91<|cn zx92 zy92<|cn zx93 zy93<|cn zx94 zy94<|cn zx95 zy95<|cn zx96 zy96<|cn zx97 zy97<|cn zx98 zy98<|cn zx99 zy99<|cn zx100 zy100<|cn zx101 zy101<|cn zx102 zy102<|cn zx103 zy103<|cn zx104 zy104<|cn zx105 zy105<|cn zx106 zy106<|cn zx107 zy107<|cn zx108 zy108<|cn zx109 zy109<|cn zx110 zy110<|by show ∀d∈rm.drop 111,vG d;rw[xe];exact λd m=>nomatch m
def inD(a b c s:Nat):Bool:=!(bh (a+b+c) 4&&bh 1 (a+b+c)&&bh 1 s)||rm.any λd=>aS d.1 (s*a)&&aS d.2.1 (s*b)&&aS d.2.2 (s*c)
theorem akn:((au 5).all λa=>(au 5).all λb=>(au 5).all λc=>(au 5).all λs=>inD a b c s)=true:=⋯
theorem Sf(a b c s w:Nat)(h1:a+b+c<=4)(h2:1<=a+b+c)(h3:1<=s)(h4:s<=4)(h5:w<17):kP (w+s*a) (w+s*b) (w+s*c):=by have r:∀{x},x<=a+b+c->x∈au 5:=λh=>List.mem_range.mpr (jw (az h h1));have h:=List.all_eq_true.mp (List.all_eq_true.mp (List.all_eq_true.mp (List.all_eq_true.mp akn a (r (by rw[nV];exact lY _ _))) b (r (by rw[SY];exact Dj _ _))) c (r (Dj _ _))) s (List.mem_range.mpr (jw h4));unfold inD at h;rw[kz h1,kz h2,kz h3]at h;have h:=h;obtain⟨d,hd,e⟩:=List.any_eq_true.mp h;obtain⟨e,e3⟩:=Bool.and_eq_true_iff.mp e;obtain⟨e1,e2⟩:=Bool.and_eq_true_iff.mp e;have g:=akm d hd w h5;rw[fD e1,fD e2,fD e3]at g;exact g
noncomputable def fu(c:Nat):Str:=⟨#[c]⟩
def lS(c i:Nat):Nat:=((c:Int)+GW.getD i 0).toNat
theorem Ih(c i:Nat):tm c (i:Int)=fu (lS c i):=by unfold tm fu lS;rw[cw]
def mZ(c:Nat)(y:Str):Bool:=!eQ c&&(ix.lookup c).isSome&&(mp c==y)
theorem Sh:∀i,i<14->mZ (lS 107 i) (fu 107)=true/\mZ (lS 109 i) (fu 109)=true/\mZ (lS 98 i) (fu 98)=true:=by decide+kernel
theorem ako:mZ 13262 ⟨#[107,109]⟩=true/\mZ 13189 ⟨#[107,98]⟩=true/\mZ 13190 ⟨#[109,98]⟩=true:=by decide+kernel
theorem akp:∀h,h<27->eQ (pg.getD h 0).toNat=true:=by decide+kernel
theorem Ii(h:mZ c y=true):eQ c=false/\(ix.lookup c).isSome=true/\mp c=y:=by unfold mZ at h;obtain⟨h1,h2⟩:=(nU _ _).mp h;obtain⟨h3,h4⟩:=(nU _ _).mp h1;exact⟨by simpa using h3,h4,by simpa using h2⟩
theorem join_ones(cs:List Nat):cA "" (cs.map fu)=⟨cs.toArray⟩:=by
 rw[Re.ym];congr 2;unfold Re.cat;rw[oj]
 induction cs with|nil=>rfl|cons c r ih=>rw[gm,rB,ih];rfl
theorem akq(cs:List Nat):lN (cA "" (cs.map fu))=cA "" ((cs.filter λc=>!eQ c).map mp):=by rw[join_ones];rfl
structure Typed(ss:List Str)(pk:Str)(cs:List Nat):Prop where
 ss:ss=cs.map fu
 len:cs.length<=2
 ok:∀c∈cs,eQ c=false/\(ix.lookup c).isSome=true/\(mp c).length<=2
 pk:cA "" (cs.map mp)=pk
theorem wq(h:mZ c y=true)(hy:y.length<=2)(e:cA "" [y]=y):Typed [fu c] y [c]:=by
 obtain⟨h1,h2,h3⟩:=Ii h;refine⟨rfl,by simp,λd hd=>?_,?_⟩
 ·rw[List.mem_singleton.mp hd]
  exact⟨h1,h2,by rw[h3];exact hy⟩
 ·show cA "" [mp c]=y
  rw[h3,e]
theorem wu(h:mZ c y=true)(g:mZ d z=true)(hy:y.length<=2)(hz:z.length<=2)(e:cA "" [y,z]=u):Typed [fu c,fu d] u [c,d]:=by
 obtain⟨h1,h2,h3⟩:=Ii h;obtain⟨g1,g2,g3⟩:=Ii g;refine⟨rfl,by simp,λf hf=>?_,?_⟩
 ·simp only[t8,fc,or_false]at hf
  rcases hf with rfl|rfl
  ·exact⟨h1,h2,by rw[h3];exact hy⟩
  ·exact⟨g1,g2,by rw[g3];exact hz⟩
 ·show cA "" [mp c,mp d]=u
  rw[h3,g3,e]
noncomputable def Cw(s:Nat):List Str:=([["k"],["m"],["b"],["km","mk"],["kb","bk"],["mb","bm"]]:List (List Str)).getD s []
theorem Ij(n:Nat):kU (fu c) n=([fu (lS c (n/84%14))],fu c):=by unfold kU;have hl:(fu c).length=1:=rfl;rw[if_neg (by rw[hl];exact ax 0xe0f1fd090d2919 1057041),if_neg (by rw[hl];exact ax 0xe0f1fd190d2919 1057041)];show([tm c ((n/84%14:Nat):Int)],_)=_;rw[Ih]
theorem Ik(n:Nat):kU ⟨#[c,d]⟩ n=if n/28%3=0 then([fu (GY ⟨#[c,d]⟩).toNat],⟨#[c,d]⟩)else if n/28%3=1 then([fu (lS d (n/1176%14)),fu (lS c (n/84%14))],xl ⟨#[c,d]⟩)else([fu (lS c (n/84%14)),fu (lS d (n/1176%14))],⟨#[c,d]⟩):=by
 unfold kU;have hl:(⟨#[c,d]⟩:Str).length=2:=rfl;have hs:BR ⟨#[c,d]⟩ n=[fu (lS c (n/84%14)),fu (lS d (n/1176%14))]:=by show [tm c ((n/84%14:Nat):Int),tm d ((n/1176%14:Nat):Int)]=_;rw[Ih,Ih]
 dsimp only;rw[hs];by_cases h0:n/28%3=0
 ·rw[if_pos ⟨hl,h0⟩,if_pos h0];rfl
 ·rw[if_neg (λq=>h0 q.2),if_neg h0]
  by_cases h1:n/28%3=1
  ·rw[if_pos ⟨hl,h1⟩,if_pos h1];rfl
  ·rw[if_neg (λq=>h1 q.2),if_neg h1]
theorem akr(hs:s<6)(n:Nat):∃cs,Typed (kU (cz s) n).1 (kU (cz s) n).2 cs/\(kU (cz s) n).2∈Cw s:=by
 have hi:n/84%14<14:=dr _ ⋯;have hj:n/1176%14<14:=dr _ ⋯;have f:=Sh _ hi;have g:=Sh _ hj;have o:=ako
 match s,hs with
 |0,_=>have e:=Ij (c:=107) n;have e':cz 0=fu 107:=rfl;rw[e',e];dsimp only;exact⟨_,wq f.1 ⋯ (by decide+kernel),by decide+kernel⟩|1,_=>have e:=Ij (c:=109) n;have e':cz 1=fu 109:=rfl;rw[e',e];dsimp only;exact⟨_,wq f.2.1 ⋯ (by decide+kernel),by decide+kernel⟩|2,_=>have e:=Ij (c:=98) n;have e':cz 2=fu 98:=rfl;rw[e',e];dsimp only;exact⟨_,wq f.2.2 ⋯ (by decide+kernel),by decide+kernel⟩|3,_=>
  have e:=Ik (c:=107) (d:=109) n;have e':cz 3=⟨#[107,109]⟩:=rfl;rw[e',e]
  split
  ·dsimp only
   exact⟨_,wq (c:=13262) o.1 ⋯ (by decide+kernel),by decide+kernel⟩
  ·split
   ·dsimp only
    exact⟨_,wu g.2.1 f.1 ⋯ ⋯ (by decide+kernel),by decide+kernel⟩
   ·dsimp only
    exact⟨_,wu f.1 g.2.1 ⋯ ⋯ (by decide+kernel),by decide+kernel⟩|4,_=>
  have e:=Ik (c:=107) (d:=98) n;have e':cz 4=⟨#[107,98]⟩:=rfl;rw[e',e]
  split
  ·dsimp only
   exact⟨_,wq (c:=13189) o.2.1 ⋯ (by decide+kernel),by decide+kernel⟩
  ·split
   ·dsimp only
    exact⟨_,wu g.2.2 f.1 ⋯ ⋯ (by decide+kernel),by decide+kernel⟩
   ·dsimp only
    exact⟨_,wu f.1 g.2.2 ⋯ ⋯ (by decide+kernel),by decide+kernel⟩|5,_=>
  have e:=Ik (c:=109) (d:=98) n;have e':cz 5=⟨#[109,98]⟩:=rfl;rw[e',e]
  split
  ·dsimp only
   exact⟨_,wq (c:=13190) o.2.2 ⋯ (by decide+kernel),by decide+kernel⟩
  ·split
   ·dsimp only
    exact⟨_,wu g.2.2 f.2.1 ⋯ ⋯ (by decide+kernel),by decide+kernel⟩
   ·dsimp only
    exact⟨_,wu f.2.1 g.2.2 ⋯ ⋯ (by decide+kernel),by decide+kernel⟩
theorem aks(h:Typed ss pk cs)(hk:k<28):∃ds:List Nat,tp k ss=ds.map fu/\(ds.filter λc=>!eQ c)=cs/\ds.length<=3/\∀c∈ds,c∈cs∨∃j,j<27/\c=(pg.getD j 0).toNat:=by
 have nI:(cs.filter λc=>!eQ c)=cs:=List.filter_eq_self.mpr λc hc=>by rw[(h.ok c hc).1];rfl
 unfold tp;by_cases h0:k=0
 ·rw[if_pos h0]
  exact⟨cs,h.ss,nI,by have:=h.len;exact(ax 63142146704 1122577) this,λc hc=>.inl hc⟩
 ·rw[if_neg h0]
  have hb:=akp (k-1) ((ao 0xec1b2a0c1c2a12f1fd090b1911fd18190b119 72079657554493714) hk aq);refine⟨cs.take (k%2*ss.length)++(pg.getD (k-1) 0).toNat::cs.drop (k%2*ss.length),?_,?_,?_,?_⟩
  ·rw[nW,gm,List.map_take,List.map_drop,<-h.ss]
   rfl
  ·rw[List.filter_append,List.filter_cons,hb]
   show _++(cs.drop _).filter _=_;rw[<-List.filter_append,List.take_append_drop,nI]
  ·have:=h.len
   rw[dG,bP,wU,wP];exact(a9 0xeb39881910b2921f2fd20d301fb20b302f1fd091b321fd2831b23 0x100010118111000011181110001011811100001118114) this pR aq
  ·intro c hc
   rcases List.mem_append.mp hc with hc|hc
   ·exact .inl (Tk hc)
   ·rcases List.mem_cons.mp hc with hc|hc
    ·exact .inr ⟨k-1,by exact(ao 0xec1b2a0c1c2a12f1fd090b1911fd18190b119 72079657554493714) hk aq,hc⟩
    ·exact .inl (Tj hc)
structure akt(d s:Nat):Prop where
 len:(bf d s).length<=100
 ok:∀c∈(bf d s).cps.toList,eQ c=false->(ix.lookup c).isSome=true/\(mp c).length<=100
 pk:lN (bf d s)=qM (cz s) (d/16464^s)
 mem:lN (bf d s)∈Cw s
 signs:∀c∈(bf d s).cps.toList,(∃j,j<27/\c=(pg.getD j 0).toNat)∨(eQ c=false/\(ix.lookup c).isSome=true)
 ne:(bf d s).cps.toList≠[]
theorem Cy(hs:s<6)(d:Nat):akt d s:=by
 generalize hn:d/16464^s=n;obtain⟨cs,h,hm⟩:=akr hs n;have hk:n%28<28:=dr _ ⋯;obtain⟨ds,e1,e2,e3,e4⟩:=aks h hk;have et:bf d s=⟨ds.toArray⟩:=by unfold bf qL;rw[hn,e1,join_ones]
 have ec:(bf d s).cps.toList=ds:=by rw[et]
 have ep:lN (bf d s)=(kU (cz s) n).2:=by unfold bf qL;rw[hn,e1,akq,e2,h.pk]
 refine⟨?_,λc hc hb=>?_,?_,?_,λc hc=>?_,?_⟩
 ·rw[et]
  show ds.toArray.size<=100;rw[dF];exact(ax 0xeb642a0b390 1122577) e3
 ·rw[ec]at hc
  have nI:c∈cs:=by rw[<-e2];exact List.mem_filter.mpr ⟨hc,by rw[hb];rfl⟩
  have:=h.ok c nI;exact⟨this.2.1,by omega⟩
 ·rw[ep,hn];rfl
 ·rw[ep];exact hm
 ·rw[ec]at hc
  rcases e4 c hc with q|q
  ·exact .inr ⟨(h.ok c q).1,(h.ok c q).2.1⟩
  ·exact .inl q
 ·rw[ec]
  intro q;subst q;have:=e2.symm;subst this;have h1:=h.pk;have h2:(kU (cz s) n).2="":=by rw[<-h1];rfl
  rw[h2]at hm;have:∀s,s<6->("":Str)∉Cw s:=by decide+kernel
  exact this s hs hm
theorem aku:∀s,s<6->∀y∈Cw s,lR y ⟨#[107]⟩=(cG s).getD 0 0/\lR y ⟨#[109]⟩=(cG s).getD 1 0/\lR y ⟨#[98]⟩=(cG s).getD 2 0:=by decide+kernel
def Si(pr wh st s:Nat):Bool:=ae (bh 1 (ia (bH wh st pr s 0) (bH wh st pr s 1) (bH wh st pr s 2))) (ae (bh (ia (bH wh st pr s 0) (bH wh st pr s 1) (bH wh st pr s 2)) 100) (aS (nK (bH wh st pr s 0) (bH wh st pr s 1) (bH wh st pr s 2)/ia (bH wh st pr s 0) (bH wh st pr s 1) (bH wh st pr s 2)%2) (gi s)) false) false
theorem akv:((au 6).map λpr=>(au 17).map λwh=>(au 4).map λst=>(au 6).map λs=>Si pr wh (st+1) s)=(au 6).map λJ=>(au 17).map λJ=>(au 4).map λJ=>(au 6).map λJ=>true:=⋯
theorem akw:∀pr,pr<6->∀s,s<6->1<=(cG s).getD ((bT pr).getD 0 0) 0+(cG s).getD ((bT pr).getD 1 0) 0+(cG s).getD ((bT pr).getD 2 0) 0/\(cG s).getD ((bT pr).getD 0 0) 0+(cG s).getD ((bT pr).getD 1 0) 0+(cG s).getD ((bT pr).getD 2 0) 0<=4:=by decide+kernel
theorem akx{pr wh st tu wd s:Nat}(D:vQ pr wh st tu wd)(hs:s<6)(d:Nat):BY d pr wh st s:=by
 have L:=Cy hs d;have m:=λ{a n:Nat} (h:a<n)=>List.mem_range.mpr h;have h1:=CM D.st.1;have c:=bJ (bJ (bJ (bJ akv (m D.pr)) (m D.wh)) (m (show st-1<4 by have:=D.st;exact(ao 0xec490d181901fb491b119 4296102162) h1 this))) (m hs);rw[h1]at c;unfold Si at c;obtain⟨n1,n2⟩:=akw pr D.pr s hs;refine⟨⟨L.len,L.ok⟩,L.pk.symm,aku s hs _ L.mem,Sf _ _ _ _ _ n2 n1 D.st.1 D.st.2 D.wh,?_,?_⟩
 ·cases a:bh 1 (ia (bH wh st pr s 0) (bH wh st pr s 1) (bH wh st pr s 2))with
  |false=>rw[a]at c;exact absurd c aL|true=>cases b:bh (ia (bH wh st pr s 0) (bH wh st pr s 1) (bH wh st pr s 2)) 100 with
   |false=>rw[a,b]at c;exact absurd c aL|true=>exact⟨bV a,b9 (bV b) (fy ⋯ (nh (n:=2) (i:=7) ⋯ ⋯))⟩
 ·cases a:bh 1 (ia (bH wh st pr s 0) (bH wh st pr s 1) (bH wh st pr s 2))with
  |false=>rw[a]at c;exact absurd c aL|true=>cases b:bh (ia (bH wh st pr s 0) (bH wh st pr s 1) (bH wh st pr s 2)) 100 with
   |false=>rw[a,b]at c;exact absurd c aL|true=>rw[a,b]at c;exact fD c
def e9(G:Nat->Nat->Nat)(c:Nat)(T:List Nat)(j n:Nat):Nat:=(((au n).drop j).map λm=>dR G c T m).sum
section
theorem Il(h:j<n):e9 G c T j n=dR G c T j+e9 G c T (j+1) n:=by unfold e9;rw[pG (by rw[gH];exact h),gm,ni,zd]
theorem Im(h:j<=n):e9 G c T j (n+1)=e9 G c T j n+dR G c T n:=by unfold e9;rw[I9,List.drop_append_of_le_length (by rw[gH];exact h),nW,List.sum_append_nat];rfl
theorem Cz(n:Nat):e9 G c T n n=0:=by unfold e9;rw[ug (by rw[gH];exact aQ _)];rfl
end
theorem aky(hs:s<6):gi s<=1:=
 (by decide:∀s,s<6->gi s<=1) s hs
section
variable{pr c:Nat}
theorem Sj(hT:dh T)(hi:i<T.length):1<=iV (a8 pr) T i/\iV (a8 pr) T i<=2:=by
 unfold iV;cases gW (i+1) T.length with|true=>exact RU ..|false=>have:=aky (hT.lt _ (getD_mem hi));exact⟨lY _ _,wK this 1⟩
theorem CA(hT:dh T)(hi:i<T.length):1<=dR (a8 pr) c T i/\dR (a8 pr) c T i<=4:=by have h1:ka c i<3:=dr _ ⋯;have h2:=Sj (pr:=pr) hT hi;unfold dR;exact(ao 0xe1fb49810b81019c3901fb291b119 0x10114111001016112) h1 h2
theorem wx(hT:dh T):∀(k j n:Nat),j+k=n->n<=T.length->e9 (a8 pr) c T j n<=4*k|0,j,n,h,hn=>by rw[show n=j by exact(ao 0xed10d08091 17674076758290) h,Cz];exact fP _|k+1,j,n,h,hn=>by rw[Il (by exact(aC 0xec10d1881920 269566227) h)];have h1:=wx hT k (j+1) n ((aC 0xed2818190d2881910 18833716883731) h) hn;have h2:=(CA (pr:=pr) (c:=c) hT (i:=j) ((a9 0xec10d3881920b13 68989051156) h hn)).2;exact(aC 0xeb1e819249810b1e2491b490 17903891) h1 h2
theorem akz:∀pr,pr<6->∀s,s<6->(-((dE pr s:Nat):Int)-(2+2*(jN s:Nat))).fdiv 6=-(1+gi s:Nat):=by decide+kernel
theorem akA:∀pr,pr<6->∀s,s<6->∀u,u<6->(-((dE pr s:Nat):Int)-(-((dE pr u:Nat):Int)+6+(jN s:Nat))).fdiv 6=-(a8 pr s u:Nat):=by decide+kernel
theorem akB(x U:Int):(x-6*U).fdiv 6=x.fdiv 6-U:=by rw[iF _ ⋯,iF _ ⋯];exact(Jm 0xe8e3e2101f1f7e6936e3098e3e1e2694831e0691f1f7e6956e5098e4851e169 0x11211010010109621121101101008620) (Jn 6 _) (Jn 6 _)
theorem yO(hp:pr<6)(hT:dh T):∀k,k<T.length->iW pr c T k=(e9 (a8 pr) c T (T.length-1-k) T.length:Nat)
 |0,hk=>by
  have hi:T.length-1-0<T.length:=(aC 0xec10c1092f1fd092b1911fd18192b1192f1fd090b0921fd28090b209 0x10000117111001011711100001171110010017113) hk aq aq;have h6:dj T 0<6:=hT.lt _ (getD_mem hi);rw[Il hi,show T.length-1-0+1=T.length by exact(aC 0xed18190c102f1fd092b1911fd18192b1192f1fd090b0921fd28090b209 0x1121111211112111121110000000101b1110000000101b1110110001811100100018113) hi aq aq,Cz];have e:iV (a8 pr) T (T.length-1-0)=1+gi (dj T 0):=by unfold iV;rw[show gW (T.length-1-0+1) T.length=false by rw[IZ,CM hk];exact Bool.eq_false_iff.mpr λq=>rE _ (bV q)];rfl
  unfold dR;rw[e];show(ka c (T.length-1-0):Int)-(-((dE pr (dj T 0):Nat):Int)-(2+2*(jN (dj T 0):Nat))).fdiv 6=_;rw[akz pr hp _ h6];exact ao 0xe8e5e8098811903e4e5e81195e0 4581298450|k+1,hk=>by
  have hi:T.length-1-(k+1)<T.length:=(a9 0xec10c181922f1fd093b1911fd18193b1192f1fd090b819231fd3881920b38192 0x1000000110a111000000110a1110001017111001001001a114) hk aq aq;have ej:T.length-1-(k+1)+1=T.length-1-k:=(cV 0xed18190c381922f1fd094b1931fd38194b3192f1fd090b819241fd4881920b481922f1fd091b241fd4821b42 0x10000000000110e1110000000000110e1110000000000110e1110000000000110e1110001001091110001010011b1110010000091110001000001b1110000000000110e1110000000000110e1110000000000110e1110000000000110e111010000001a111010100001a111001000009111010000001a115) hk aq aq aq;have hj:T.length-1-k<T.length:=(a9 0xec10c181922f1fd093b1911fd18193b1192f1fd090b231fd3820b32 0x1000000110a111000000110a1110001017111001001001a114) hk aq aq;have ih:=yO hp hT k ((ao 0xec10c18190 1122578) hk);have h6:dj T (k+1)<6:=hT.lt _ (getD_mem hi);have h7:dj T k<6:=hT.lt _ (getD_mem hj);rw[Il hi,ej,og,<-ih];have e:iV (a8 pr) T (T.length-1-(k+1))=a8 pr (dj T (k+1)) (dj T k):=by unfold iV;rw[ej,show gW (T.length-1-k) T.length=true from kz hj];rfl
  unfold dR;rw[e];show(ka c (T.length-1-(k+1)):Int)-(-((dE pr (dj T (k+1)):Nat):Int)-((6*iW pr c T k-(dE pr (dj T k):Nat))+6+(jN (dj T (k+1)):Nat))).fdiv 6=_;rw[show -((dE pr (dj T (k+1)):Nat):Int)-((6*iW pr c T k-(dE pr (dj T k):Nat))+6+(jN (dj T (k+1)):Nat))=(-((dE pr (dj T (k+1)):Nat):Int)-(-((dE pr (dj T k):Nat):Int)+6+(jN (dj T (k+1)):Nat)))-6*iW pr c T k by exact bL 0xe8e3e1e0693e85e28694e5e14e5e03e85e28693e5e11e0694e5e0 4581298451 [_,_,_] [_],akB,akA pr hp _ h6 _ h7];exact bL 0xe8e805e8103e3e04e5e15e0 4581298450 [_,_] [_]
theorem Sk(hp:pr<6)(hT:dh T)(hl:∀s,s<6->(bf d s).length<=100):B8 pr c d T where
 Hx k hk:=by have h1:=wx (pr:=pr) (c:=c) hT (k+1) (T.length-1-k) T.length ((a9 0xed2881910c212f1fd093b1921fd28193b2192f1fd090b131fd3810b31 0x100001171110001001011b1110000117111001001711110000000101c11110000000101c1110110001811100100018114) hk aq aq) (aQ _);have:=hT.len;rw[yO hp hT k hk];exact(aC 0xe1f6e186a05a8195e06e8195e009c21b1e8191490b492 0x101015110134210000017113) hk h1 this
 nums k hk:=by
  cases k with|zero=>exact fP _|succ k=>have h1:=wx (pr:=pr) (c:=c) hT (k+1) (T.length-1-k) T.length ((a9 0xed2881910b281912f1fd093b1921fd28193b2192f1fd090b131fd3810b31 0x100001171110001001011b1110000117111001001711110000000101c11110000000101c1110110001811100100018114) hk aq aq) (aQ _);have h6:=hT.lt _ (getD_mem (T:=T) (i:=T.length-1-k) (by exact(a9 0xec10b181922f1fd093b1911fd18193b1192f1fd090b231fd3820b32 0x1001000011a112001001011a1110001017111001001001a114) hk aq aq));have i0:=Q8 pr h6;have i1:=hT.len;show(6*iW pr c T k-(dE pr (dj T k):Nat)).natAbs<=_;rw[yO hp hT k (by exact(ao 0xec10b18190 1122578) hk)];exact(cV 0xeb9896806a0b28191b1e8191493b794b4922f1f8e4e3e5e41e5e3695e06e093e5e41e5e3691f8e3e5e41e5e3695e06e3e5e41e5e36909 0x10000000001b110010017621001001711001441010000019635) hk h1 i0 i1 g7
 len:=hl
end
theorem Sl(e k:Nat):(gF e k).length<=2:=by have h3:e/3^k%3<3:=dr _ ⋯;exact BU (P:=λj=>([("\n":Str),"\r","\r\n"].getD j "").length<=2) ⋯ ⋯ ⋯ h3
theorem akC(e:Nat):(kX e).length<=1:=by have h2:e/243%2<2:=dr _ ⋯;unfold kX;rw[B9,cw];exact(ax 0xeb192e190c290 1122577) h2
theorem Sm(ys:List Str):(Re.cat ys).length=(ys.map (·.length)).sum:=by
 induction ys with|nil=>rfl|cons y r ih=>show(y.cps.toList++Re.cat r).length=y.cps.size+(r.map (·.length)).sum;rw[dG,ih,lW]
namespace Ml
open Re (quote cat)
noncomputable def cl(s:Str):List Nat:=s.cps.toList
theorem akD(h:cl x=cl y):x=y:=by obtain⟨a⟩:=x;obtain⟨b⟩:=y;have h:a.toList=b.toList:=h;rw[Array.toList_inj.mp h]
theorem lj(x y:Str):cl (x++y)=cl x++cl y:=Array.toList_append ..
theorem Io(x:Str):x.length=(cl x).length:=rfl
theorem anO(x:Str):cl (quote x)=Re.q1 true (Re.q2 (cl x)):=rfl
noncomputable abbrev Row:=Nat×List Nat
noncomputable def L(r:Row):List Nat:=cq r.1 46++r.2
def canon(l:List Row):List Nat:=l.rec [] λr J c=>L r++(13::10::c)
theorem Ip(r:Row)(t:List Row)(l:List Nat):canon (r::t)++l=L r++(13::10::(canon t++l)):=i4 ..
def lq(r:Row):Prop:=(∀c∈r.2,c≠10/\c≠13)/\∀l,r.2≠46::l
noncomputable def bump(t:Nat)(r:Row):Row:=(r.1.casesOn 0 λk=>k+t+1,r.2)
theorem Iq(t:Nat)(B:List Nat)(h:k≠0):bump t (k,B)=(k+t,B):=by
 cases k with|zero=>exact absurd rfl h|succ k=>exact congrArg (·,B) (Nat.succ_add k t).symm
theorem akE(t:Nat)(h:lq r):lq (bump t r):=h
theorem akF(l:List Nat)(h:c≠10/\c≠13):Re.q2 (c::l)=c::Re.q2 l:=by
 cases l with|nil=>exact if_neg λx=>x.elim h.1 h.2|cons d l=>rw[Re.qI,if_neg λx=>h.2 x.1,if_neg λx=>x.elim h.1 h.2]
theorem Ir(B rest:List Nat):(∀c∈B,c≠10/\c≠13)->Re.q2 (B++rest)=B++Re.q2 rest:=by
 induction B with|nil=>exact λJ=>rfl|cons c B ih=>exact λh=>(akF _ (h c aK)).trans (congrArg _ (ih λd hd=>h d (aY _ hd)))
theorem CB(l:List Nat):Re.q2 (13::10::l)=13::10::Re.q2 l:=by rw[Re.qI,if_pos ⟨rfl,rfl⟩]
theorem Iu(h:lq r):∀c∈L r,c≠10/\c≠13:=λc hc=>by
 rcases List.mem_append.mp hc with hc|hc
 ·rw[SS hc];decide
 ·exact h.1 c hc
theorem Sn(rs:List Row)(rest:List Nat):(∀r∈rs,lq r)->Re.q2 (canon rs++rest)=canon rs++Re.q2 rest:=by
 induction rs with|nil=>exact λJ=>rfl|cons r t ih=>intro h;rw[Ip,Ip,Ir _ _ (Iu (h r aK)),CB,ih λx hx=>h x (aY _ hx)]
theorem Iv(c:Nat)(l:List Nat):Re.q1 false (c::l)=c::Re.q1 (decide (c=10)) l:=if_neg λh=>tY h.1
theorem So(l:List Nat)(h:c≠10):Re.q1 false (c::l)=c::Re.q1 false l:=(Iv c l).trans (decide_eq_false h▸rfl)
theorem Sp(B rest:List Nat):(∀c∈B,c≠10)->Re.q1 false (B++rest)=B++Re.q1 false rest:=by
 induction B with|nil=>exact λJ=>rfl|cons c B ih=>exact λh=>(So _ (h c aK)).trans (congrArg _ (ih λd hd=>h d (aY _ hd)))
theorem Sq(rest:List Nat):Re.q1 false (13::10::rest)=13::10::Re.q1 true rest:=(So _ ⋯).trans (congrArg _ (Iv 10 rest))
theorem akG(h:lq r)(rest:List Nat):Re.q1 true (L r++(13::10::rest))=L (bump 1 r)++(13::10::Re.q1 true rest):=by
 obtain⟨k,B⟩:=r;have hB:∀c∈B,c≠10:=λc hc=>(h.1 c hc).1;cases k with
 |zero=>
  cases B with|nil=>exact(if_neg ⋯).trans (congrArg _ (Iv 10 rest))|cons c B=>have h46:c≠46:=λq=>h.2 B (by rw[q]);exact(if_neg λh=>h46 h.2).trans (congrArg _ (decide_eq_false (hB c aK)▸(Sp B _ λd hd=>hB d (aY _ hd)).trans (congrArg _ (Sq rest))))
 |succ k=>have e:L (k+1,B)++(13::10::rest)=46::((cq k 46++B)++(13::10::rest)):=rfl;have e2:L (bump 1 (k+1,B))++(13::10::Re.q1 true rest)=46::46::((cq k 46++B)++(13::10::Re.q1 true rest)):=rfl;rw[e,e2];exact(if_pos ⟨rfl,rfl⟩).trans (congrArg (46::46::·) ((Sp _ _ λc hc=>(List.mem_append.mp hc).elim (λhc=>by rw[SS hc];decide) (hB c)).trans (congrArg _ (Sq rest))))
theorem Ss(rs:List Row):(∀r∈rs,lq r)->Re.q1 true (canon rs)=canon (rs.map (bump 1)):=by
 induction rs with|nil=>exact λJ=>rfl|cons r t ih=>exact λh=>(akG (h r aK) _).trans (congrArg (λx=>_++(13::10::x)) (ih λx hx=>h x (aY _ hx)))
theorem Su{rs:List Row}(t:Nat)(h:∀r∈rs,lq r):∀r∈rs.map (bump t),lq r:=λr hr=>by obtain⟨x,hx,rfl⟩:=List.mem_map.mp hr;exact akE t (h x hx)
theorem akI(t:Nat)(rs:List Row):(rs.map (bump t)).map (bump 1)=rs.map (bump (t+1)):=List.map_map.trans (rH λr J=>by
 obtain⟨k,B⟩:=r
 cases k<;>rfl)
theorem Iw{x:Str}{rs:List Row}(h:Re.q2 (cl x)=canon rs)(ok:∀r∈rs,lq r)(t):cl (iU (t+1) x)=canon (rs.map (bump (t+1))):=by
 induction t with|zero=>exact(congrArg _ h).trans (Ss rs ok)|succ t ih=>have e:=Sn (rs.map (bump (t+1))) [] (Su _ ok);rw[m5,show Re.q2 []=[]from rfl,m5]at e;show Re.q1 true (Re.q2 (cl (iU (t+1) x)))=_;rw[ih,e,Ss _ (Su _ ok),akI]
def CC(E:List Nat):Prop:=E=[10]∨E=[13]∨E=[13,10]
theorem CD(h:CC E)(hr:∀l,rest≠10::l):Re.q2 (E++rest)=13::10::Re.q2 rest:=by
 rcases h with rfl|rfl|rfl
 ·cases rest with|nil=>rfl|cons d l=>rw[tT,wG,Re.qI,if_neg (by exact ax 0xe0f1fda90dd9a9 1057041),if_pos (.inl rfl)]
 ·cases rest with|nil=>rfl|cons d l=>have:d≠10:=λq=>hr l (by rw[q]);rw[tT,wG,Re.qI,if_neg (by exact(ax 0xe0f1fda90dd9d90fda90 0x10100511110005111) this),if_pos (.inr rfl)]
 ·exact CB rest
theorem akJ(h:CC E)(hr:∀l,rest≠10::l):Re.q2 (E++(E++rest))=13::10::13::10::Re.q2 rest:=by
 rcases h with rfl|rfl|rfl
 ·show Re.q2 (10::10::rest)=_
  rw[Re.qI,if_neg (by exact dS 0xe0f1fda9a9dd9a9 1057040),if_pos (.inl rfl)];have:=CD (E:=[10]) (.inl rfl) hr;rw[show 10::rest=[10]++rest from rfl,this]
 ·rw[CD (.inr (.inl rfl)) (λl q=>by cases q),CD (.inr (.inl rfl)) hr]
 ·show Re.q2 (13::10::13::10::rest)=_
  rw[CB,CB]
theorem akK(rs ts:List Row):canon (rs++ts)=canon rs++canon ts:=by
 induction rs with|nil=>rfl|cons r t ih=>exact(congrArg (λx=>_++(13::10::x)) ih).trans (Ip ..).symm
theorem Ix(r:Row):(L r).length=r.1+r.2.length:=List.length_append.trans (congrArg (·+_) Tm)
theorem Iy(rs:List Row):(∀r∈rs,r.1+r.2.length<=B)->(canon rs).length<=(B+2)*rs.length:=by
 induction rs with|nil=>exact λJ=>fP _|cons r t ih=>intro h;have h1:=ih λx hx=>h x (aY _ hx);have h2:=h r aK;show(L r++(13::10::canon t)).length<=_;rw[dG,Ix,bP,bP,bP,Jl];exact(cV 0xeb88294388198192810b32b4810 17903893) h1 h2
theorem akL:∀j,j<27->(pg.getD j 0).toNat≠10/\(pg.getD j 0).toNat≠13/\(pg.getD j 0).toNat≠46:=by decide+kernel
theorem akM:∀p∈ix,p.1≠10/\p.1≠13/\p.1≠46:=by decide+kernel
theorem CE(hs:s<6)(d:Nat):∀c∈cl (bf d s),c≠10/\c≠13/\c≠46:=λc hc=>by
 rcases(Cy hs d).signs c hc with⟨j,hj,rfl⟩|⟨_,h⟩
 ·exact akL j hj
 ·exact akM _ (lookup_mem (Option.eq_some_of_isSome h))
theorem akN(hs:s<6)(d:Nat):cl (bf d s)≠[]:=(Cy hs d).ne
theorem yP(hs:s<6)(d:Nat):(cl (bf d s)).length<=100:=(Cy hs d).len
theorem CF(hs:s<6)(d k:Nat):lq (k,cl (bf d s)):=by
 refine⟨λc hc=>?_,λl q=>?_⟩
 ·have:=CE hs d c hc
  exact⟨this.1,this.2.1⟩
 ·have:=CE hs d 46 (by
   have q:cl (bf d s)=46::l:=q
   rw[q];exact aK)
  exact this.2.2 rfl
theorem tj(sep:Str)(xs:List Str):cA sep xs=Str.join sep xs:=by show Builtin.Str.glued sep xs=_;rw[alO]
theorem Sv(sep x:Str):cA sep [x]=x:=by rw[tj];rfl
theorem akO(sep:Str):cA sep []="":=by rw[tj];rfl
theorem Sw(x y:Str)(r:List Str):cl (cA "." (x::y::r))=cl x++46::cl (cA "." (y::r)):=by rw[tj,tj];show cl (x++"."++Str.join "." (y::r))=_;rw[lj,lj];exact i4 ..
theorem akP(xs:List Str):(∀x∈xs,∀c∈cl x,c≠10/\c≠13)->(∀x∈xs,(cl x).length<=100)->(∀c∈cl (cA "." xs),c≠10/\c≠13)/\(cl (cA "." xs)).length<=101*xs.length:=by
 induction xs with
 |nil=>rw[akO];exact λJ J=>⟨λc hc=>(nomatch hc),fP _⟩|cons x xs ih=>
  intro h hl;cases xs with|nil=>rw[Sv];exact⟨h x aK,az (hl x aK) (jt _)⟩|cons y r=>obtain⟨a,b⟩:=ih (λz hz=>h z (aY _ hz)) (λz hz=>hl z (aY _ hz));rw[Sw];refine⟨λc hc=>(List.mem_append.mp hc).elim (h x aK c) λhc=>(List.mem_cons.mp hc).elim (λe=>by rw[e];decide) (a c),?_⟩;have:=hl x aK;rw[dG,bP,bP,Jl];exact(aC 0xeb8652a1e2652a881910b1e2652a1b642a0 17903891) b this
theorem akQ(r:List Str)(hn:cl x≠[])(h:∀c∈cl x,c≠46):∀l,cl (cA "." (x::r))≠46::l:=λl q=>by
 have e:∃t,cl (cA "." (x::r))=cl x++t:=by
  cases r with|nil=>exact⟨[],by rw[Sv,m5]⟩|cons y r=>exact⟨_,Sw x y r⟩
 obtain⟨t,e⟩:=e;rw[e]at q;cases hx:cl x with|nil=>exact hn hx|cons c u=>rw[hx,tT]at q;have hc:=(ju q).1;exact h c (by rw[hx];exact aK) hc
theorem yQ(hT:dh T)(d k:Nat):lq (k,cl (iC d T))/\(cl (iC d T)).length<=404:=by
 have h1:∀x∈T.map (bf d),∀c∈cl x,c≠10/\c≠13:=λx hx c hc=>by obtain⟨s,hs,rfl⟩:=List.mem_map.mp hx;have:=CE (hT.lt s hs) d c hc;exact⟨this.1,this.2.1⟩
 have h2:∀x∈T.map (bf d),(cl x).length<=100:=λx hx=>by obtain⟨s,hs,rfl⟩:=List.mem_map.mp hx;exact yP (hT.lt s hs) d
 obtain⟨a,b⟩:=akP _ h1 h2;rw[bB]at b;have:=hT.len;refine⟨⟨a,?_⟩,by show(cl (cA "." (T.map (bf d)))).length<=404;exact(ao 0xeb1943a0b1e1652a0b491 72079657593548578) b this⟩;unfold iC;cases T with|nil=>exact absurd rfl hT.ne|cons s r=>have hs:=hT.lt s aK;exact akQ (r.map (bf d)) (akN hs d) λc hc=>(CE hs d c hc).2.2
theorem akR(c n:Nat):(cq n [c]).flatten=cq n c:=by
 induction n with|zero=>rfl|succ n ih=>exact congrArg (c::·) ih
theorem Iz(x:Str)(n:Int):cl (cZ x n)=(cq n.toNat (cl x)).flatten:=by rw[Q6];rfl
theorem Sx(n:Int):cl (cZ "." n)=cq n.toNat 46:=by rw[Iz];exact akR 46 _
noncomputable def gG(e:Nat):Nat:=e/243%2
theorem Sy(e:Nat):cl (kX e)=cq (gG e) 46:=by unfold kX;rw[Sx,cw];rfl
theorem Sz(e k:Nat):CC (cl (gF e k)):=by have h3:e/3^k%3<3:=dr _ ⋯;exact BU (P:=λj=>CC (cl ([("\n":Str),"\r","\r\n"].getD j ""))) (.inl rfl) (.inr (.inl rfl)) (.inr (.inr rfl)) h3
theorem SA(d e:Nat)(T:List Nat):cl (tB d e T)=L (gG e,cl (iC d T))++(cl (gF e 4)++cl (gF e 4)):=by unfold tB;rw[lj,lj,Sy,Iz];exact congrArg (_++·) (congrArg (_++·) (m5 _))
theorem IA(d e:Nat)(T:List Nat)(i:Nat):cl (rowAt d e T i)=L (1,cl (bf d (T.getD i 0)))++cl (gF e i):=by unfold rowAt;rw[lj,lj];rfl
def lT(pr c d e:Nat)(T:List Nat)(i:Nat):List Row:=i.rec [(gG e,cl (iC d T)),(0,[])] λi r=>(r++[(1,cl (bf d (T.getD i 0)))]).map (bump (dR (a8 pr) c T i))
theorem IB(pr c d e:Nat)(T:List Nat)(i):lT pr c d e T i=(if gG e=0 then 0 else gG e+e9 (a8 pr) c T 0 i,cl (iC d T))::(0,[])::(au i).map λj=>(1+e9 (a8 pr) c T j i,cl (bf d (T.getD j 0))):=by
 induction i with
 |zero=>
  rw[Cz];show [(gG e,_),_]=_;by_cases h:gG e=0
  ·rw[if_pos h,h];rfl
  ·rw[if_neg h];rfl|succ i ih=>
  have e1:bump (dR (a8 pr) c T i) (if gG e=0 then 0 else gG e+e9 (a8 pr) c T 0 i,cl (iC d T))=(if gG e=0 then 0 else gG e+e9 (a8 pr) c T 0 (i+1),cl (iC d T)):=by
   by_cases h:gG e=0
   ·rw[if_pos h,if_pos h];rfl
   ·rw[if_neg h,if_neg h,Im (fP i),Iq _ _ λz=>h (Nat.eq_zero_of_add_eq_zero_right z),nV]
  have e3:(au i).map (bump (dR (a8 pr) c T i)∘λj=>(1+e9 (a8 pr) c T j i,cl (bf d (T.getD j 0))))=(au i).map λj=>(1+e9 (a8 pr) c T j (i+1),cl (bf d (T.getD j 0))):=
   rH λj hj=>by rw[Im (dw (List.mem_range.mp hj)),<-nV];exact Iq _ _ λz=>Nat.succ_ne_zero _ ((iG _ 1).trans z)
  have e4:bump (dR (a8 pr) c T i) (1,cl (bf d (T.getD i 0)))=(1+e9 (a8 pr) c T i (i+1),cl (bf d (T.getD i 0))):=by rw[Im (aQ i),Cz,iY];exact Iq _ _ ⋯
  show(lT pr c d e T i++[(1,_)]).map (bump _)=_;rw[ih,I9,nW,nW,gm,gm,oj,e1,e3];exact congrArg (λx=>_::(0,[])::(_++[x])) e4
theorem SB(pr c d e:Nat)(hT:dh T)(hi:i<=T.length):∀r∈lT pr c d e T i,lq r:=by
 rw[IB];intro r hr;rcases List.mem_cons.mp hr with rfl|hr
 ·exact(yQ hT d _).1
 ·rcases List.mem_cons.mp hr with rfl|hr
  ·exact⟨λc hc=>(nomatch hc),λl q=>(nomatch q)⟩
  ·obtain⟨j,hj,rfl⟩:=List.mem_map.mp hr
   have hj:=List.mem_range.mp hj;exact CF (hT.lt _ (getD_mem ((aC 0xec10b12c20 17903891) hi hj))) d _
theorem IC(pr c d e:Nat)(hT:dh T)(hi:i<T.length):∀r∈lT pr c d e T i++[(1,cl (bf d (T.getD i 0)))],lq r:=λr hr=>by
 rcases List.mem_append.mp hr with hr|hr
 ·exact SB pr c d e hT ((ao 246483984 1122578) hi) r hr
 ·rw[List.mem_singleton.mp hr]
  exact CF (hT.lt _ (getD_mem hi)) d _
theorem SC(d e:Nat)(hT:dh T)(hi:i<T.length):Re.q2 (cl (rowAt d e T i))=canon [(1,cl (bf d (T.getD i 0)))]:=by have hk:=CF (hT.lt _ (getD_mem hi)) d 1;have h:=CD (rest:=[]) (Sz e i) (λl q=>by cases q);rw[m5]at h;rw[IA,Ir _ _ (Iu hk),h];rfl
theorem SD(hp:pr<6)(hT:dh T):∀i,i<T.length-> Re.q2 (cl (cS (a8 pr) c d e T i++rowAt d e T i))=canon (lT pr c d e T i++[(1,cl (bf d (T.getD i 0)))])/\(0<i->cl (cS (a8 pr) c d e T i)=canon (lT pr c d e T i)):=by
 intro i
 induction i with
 |zero=>
  intro hi;refine⟨?_,λq=>absurd q (dS 3774613769 69904)⟩;have ht:=(yQ hT d (gG e)).1;show Re.q2 (cl (tB d e T++rowAt d e T 0))=_;have hr:∀l,cl (rowAt d e T 0)≠10::l:=λl q=>by rw[IA]at q;cases q
  rw[lj,SA,i4,i4,Ir _ _ (Iu ht),akJ (Sz e 4) hr,SC d e hT hi];rfl|succ i ih=>
  intro hi;have h1:=(ih ((ao 0xec10c18190 1122578) hi)).1;have ht:=CA (pr:=pr) (c:=c) hT (i:=i) ((ao 0xec10c18190 1122578) hi);obtain⟨t,wm⟩:∃t,dR (a8 pr) c T i=t+1:=⟨dR (a8 pr) c T i-1,by exact(ao 0xed819101fb490b0192f1fd091b1901fd08191b019 0x10100161110000161110011511100015112) ht aq⟩
  have h2:cl (cS (a8 pr) c d e T (i+1))=canon (lT pr c d e T (i+1)):=by rw[cS];show _=canon (List.map (bump (dR (a8 pr) c T i)) _);rw[wm];exact Iw h1 (IC pr c d e hT (by exact(ao 0xec10c18190 1122578) hi)) t
  refine⟨?_,λJ=>h2⟩;rw[lj,h2,Sn _ _ (SB pr c d e hT (by exact(ao 0xeb18190c18190 1122578) hi)),SC d e hT hi,akK]
theorem akS(hp:pr<6)(hT:dh T):cl (cS (a8 pr) c d e T T.length)=canon (lT pr c d e T T.length):=by
 have tD:=List.length_pos_iff.mpr hT.ne;obtain⟨n,hn⟩:∃n,T.length=n+1:=⟨T.length-1,by exact(ao 0xed81910c0092f1fd091b1901fd08191b019 0x1010151110001511101141110014112) tD aq⟩
 have h1:=(SD (c:=c) (d:=d) (e:=e) hp hT n ((ao 0xec10d81901 16855314) hn)).1;have ht:=CA (pr:=pr) (c:=c) hT (i:=n) ((ao 0xec10d81901 16855314) hn);obtain⟨t,wm⟩:∃t,dR (a8 pr) c T n=t+1:=⟨dR (a8 pr) c T n-1,by exact(ao 0xed819101fb490b0192f1fd091b1901fd08191b019 0x10100161110000161110011511100015112) ht aq⟩
 rw[hn,cS];show _=canon (List.map (bump (dR (a8 pr) c T n)) _);rw[wm];exact Iw h1 (IC pr c d e hT (by exact(ao 0xec10d81901 16855314) hn)) t
theorem akT(c m n:Nat):(cq n (cq m c)).flatten=cq (n*m) c:=by
 induction n with|zero=>exact(congrArg (cq · c) (m6 m)).symm|succ n ih=>rw[oh,rB,ih,List.replicate_append_replicate,Nat.succ_mul,iG]
def CG(pr c d:Nat)(T:List Nat)(j:Nat):Str:=cZ "." (iW pr c T (T.length-1-j)+1)++bf d (T.getD j 0)++"\r\n"
theorem SE(pr c d:Nat)(T:List Nat):∀k,k<=T.length->iX pr c d T k=((au T.length).drop (T.length-k)).map (CG pr c d T)|0,_=>by rw[IZ,ug (by simp)];rfl|k+1,hk=>by rw[iX,SE pr c d T k ((ao 0xeb10b18190 1122578) hk),pG (i:=T.length-(k+1)) (by simp;exact(aC 0xec10b181922f1fd090b819211fd1881920b18192 0x1010116111010016113) hk aq),zd,gm];have e1:T.length-(k+1)=T.length-1-k:=(cV 0xed102f1fd090b819231fd3881920b381922f1fd094b1931fd38194b3192f1fd091b241fd4821b42 0x10000000000101e1110000000000101e1110000000000101e1110000000000101e1111000000010101e1111000000010101e111011000101a111001000101a111000010019111000100101001d11100001001911100101011911100000100000001f1f11101000100100001f1f11100000100000001f1f111001010019115) aq aq aq;have e2:T.length-(k+1)+1=T.length-k:=(a9 0xed18190b381922f1fd090b819231fd3881920b381922f1fd091b231fd3821b32 0x1000106111000101181110001061110001001811100010611101010171110001061110100017114) hk aq aq;rw[e2];congr 1;unfold CG;rw[e1,show T.length-1-(T.length-1-k)=k by exact(cV 0xed10b281912f1fd093b1921fd28193b2192f1fd094b131fd3814b312f1fd090b431fd3840b34 0x100001000000001f1f111010100001a11100001000000001f1f111010000001a11100001000000001f1f111010100001a11100001000000001f1f111010000001a111000000000000111102f111000000000000111102f111000000000000111102f111000000000000111102f1110101010011b1110001010011b1110101000001b1110001000001b115) hk aq aq aq];rfl
theorem akU(hp:pr<6)(hT:dh T)(hj:j<T.length):cl (CG pr c d T j)=L (1+e9 (a8 pr) c T j T.length,cl (bf d (T.getD j 0)))++[13,10]:=by unfold CG;rw[yO (c:=c) hp hT _ (by exact(a9 0xec10c122f1fd093b1911fd18193b1192f1fd090b231fd3820b32 0x1001000011a112001001011a1110001017111001001001a114) hj aq aq),show T.length-1-(T.length-1-j)=j by exact(cV 0xed10c212f1fd093b1921fd28193b2192f1fd094b131fd3814b312f1fd090b431fd3840b34 0x100001000000001f1f111010100001a11100001000000001f1f111010000001a11100001000000001f1f111010100001a11100001000000001f1f111010000001a111000000000000111102f111000000000000111102f111000000000000111102f111000000000000111102f1110101010011b1110001010011b1110101000001b1110001000001b115) hj aq aq aq,lj,lj,Sx];rw[show((e9 (a8 pr) c T j T.length:Nat):Int)+1=((1+e9 (a8 pr) c T j T.length:Nat):Int)by exact ax 0xe8e5e80198195e0 4581298449,cw];rfl
theorem akV(rs:List Row):canon rs=(rs.map λr=>L r++[13,10]).flatten:=by
 induction rs with|nil=>rfl|cons r t ih=>exact(congrArg (λx=>_++(13::10::x)) ih).trans (i4 (L r) [13,10] _).symm
theorem SF(hp:pr<6)(hT:dh T):Re.cat (iX pr c d T T.length)=canon ((au T.length).map λj=>(1+e9 (a8 pr) c T j T.length,cl (bf d (T.getD j 0)))):=by rw[SE pr c d T T.length (aQ _),Nat.sub_self,tR,akV,oj];unfold Re.cat;rw[oj];congr 1;refine rH λj hj=>?_;exact akU hp hT (List.mem_range.mp hj)
theorem akW(hp:pr<6)(hT:dh T):cS (a8 pr) c d e T T.length=cZ (kX e) (iW pr c T (T.length-1)+1)++iC d T++"\r\n\r\n"++cA "" (iX pr c d T T.length):=by
 have tD:0<T.length:=List.length_pos_iff.mpr hT.ne;refine akD ?_;rw[akS hp hT,IB,lj,lj,lj,Iz,Sy,Re.ym];have ed:iW pr c T (T.length-1)=(e9 (a8 pr) c T 0 T.length:Nat):=by rw[yO (c:=c) hp hT _ (by exact(ao 0xec10c1092f1fd090b1911fd18190b119 72361132530155794) tD aq),Nat.sub_self]
 rw[ed,show((e9 (a8 pr) c T 0 T.length:Nat):Int)+1=((e9 (a8 pr) c T 0 T.length+1:Nat):Int)by exact ax 0xe8e5e81908195e0 4581298449,cw,akT];have ec:cl (⟨(Re.cat (iX pr c d T T.length)).toArray⟩:Str)=Re.cat (iX pr c d T T.length):=rfl;rw[ec,SF hp hT,canon,canon];have ee:(if gG e=0 then 0 else gG e+e9 (a8 pr) c T 0 T.length)=(e9 (a8 pr) c T 0 T.length+1)*gG e:=by
  have h2:gG e<2:=dr _ ⋯;by_cases h:gG e=0
  ·rw[if_pos h,h,pK]
  ·have h1:gG e=1:=by exact(ax 0xed190c2900fd090 0x112111121110131111004111) h2 h
   rw[if_neg h,h1,kB,iG]
 rw[ee];show L (_,_)++13::10::([]++([]:List Nat)++13::10::_)=_++_++[13,10,13,10]++_;simp[L]
theorem akX(hp:pr<6)(hT:dh T)(hi:i<=T.length):(lT pr c d e T i).length<=6/\∀r∈lT pr c d e T i,r.1+r.2.length<=500:=by
 have hl:=hT.len;rw[IB];refine⟨?_,λr hr=>?_⟩
 ·rw[bP,bP,bB,gH];exact(ao 0xeb698198190b10b491 17903890) hi hl
 ·rcases List.mem_cons.mp hr with rfl|hr
  ·have h1:=wx (pr:=pr) (c:=c) hT i 0 i (ax 248545289 4581298449) hi
   have h2:=(yQ hT d 0).2;have h3:gG e<2:=dr _ ⋯
   split<;>(first|exact(ax 0xeb1f43a8009b1943a0 1122577) h2|exact(cV 0xeb1f43a82810b43b494b1e3491b1943a2c290 0x1101411110016425) hi hl h1 h2 h3)
  ·rcases List.mem_cons.mp hr with rfl|hr
   ·exact fP _
   ·obtain⟨j,hj,rfl⟩:=List.mem_map.mp hr
    have hj:=List.mem_range.mp hj;have h1:=wx (pr:=pr) (c:=c) hT (i-j) j i ((aC 0xed2810c202f1fd091b021fd2801b20 0x1103111001411110311100015113) hj aq) hi;have h2:=yP (hT.lt _ (getD_mem (T:=T) (i:=j) ((aC 0xec10b12c20 17903891) hi hj))) d;exact(pS 0xeb1f43a818019b32b493b1e4490b642a12f1fd094b521fd2854b25 0x1000000181110015421010001101a1110015426) hi hl h1 h2 aq
theorem SG(hp:pr<6)(hT:dh T):∀i,i<T.length->(cS (a8 pr) c d e T i).length<=200000/\∀j,j<=dR (a8 pr) c T i->(iU j (cS (a8 pr) c d e T i++rowAt d e T i)).length<=200000:=by
 intro i hi;obtain⟨h1,h2⟩:=SD (c:=c) (d:=d) (e:=e) hp hT i hi;obtain⟨d1,d2⟩:=akX (c:=c) (d:=d) (e:=e) hp hT (i:=i) ((ao 246483984 1122578) hi);have hE:∀k,(cl (gF e k)).length<=2:=λk=>Sl e k;have h0:(cS (a8 pr) c d e T i).length<=10000:=by
  rw[Io];rcases Di i with q|q
  ·subst q
   show(cl (tB d e T)).length<=_;have h3:gG e<2:=dr _ ⋯;have h4:=(yQ hT d 0).2;have h5:=hE 4;rw[SA,dG,dG,Ix];exact(aC 0xeb27104a8822810c290b1943a1b292 4503690108023331) h3 h4 h5
  ·rw[h2 q]
   have:=Iy _ d2;exact(ao 0xeb27104a0b691b1e11f63a0 0x1013110131f63f22) d1 this
 have SH:=yP (hT.lt _ (getD_mem hi)) d;have hr:(rowAt d e T i).length<=200:=by rw[Io,IA,dG,Ix];have:=hE i;exact(ao 0xebc82a818019b642a0b291 17903890) SH this
 refine⟨by exact(ax 0xeb30d405a0b27104a0 1122577) h0,λj hj=>?_⟩;have htl:=(CA (pr:=pr) (c:=c) hT hi).2;cases j with
 |zero=>show(cS (a8 pr) c d e T i++rowAt d e T i).length<=_;rw[la];exact(ao 0xeb30d405a810b27104a0bc82a1 17903890) h0 hr|succ t=>
  rw[Io,Iw h1 (IC pr c d e hT hi) t];have hd:∀r∈(lT pr c d e T i++[(1,cl (bf d (T.getD i 0)))]).map (bump (t+1)),r.1+r.2.length<=510:=λr hr=>by
   obtain⟨x,hx,rfl⟩:=List.mem_map.mp hr;have Bt:x.1+x.2.length<=500:=by
    rcases List.mem_append.mp hx with hx|hx
    ·exact d2 x hx
    ·rw[List.mem_singleton.mp hx]
     exact(ax 0xeb1f43a8019b642a0 1122577) SH
   have q:(bump (t+1) x).1<=x.1+(t+1):=by
    obtain⟨k,B⟩:=x;cases k with|zero=>exact fP _|succ k=>exact i7 (Nat.succ_add k (t+1)).symm
   exact az (Dc q _) ((a9 0xeb1fe3a82881910b493b38191b1f43a820 286343444) htl hj Bt)
  have:=Iy _ hd;rw[bB,dG,Ji]at this;exact(ao 0xeb30d405a0b691b1e81912003a0 0x1013110132003f22) d1 this
theorem akZ(hp:pr<6)(hT:dh T):((iX pr c d T T.length).map (·.length)).sum<=1000000:=by
 have hl:=hT.len;rw[<-Sm,SF hp hT];have hd:∀r∈(au T.length).map λj=>(1+e9 (a8 pr) c T j T.length,cl (bf d (T.getD j 0))),r.1+r.2.length<=500:=λr hr=>by obtain⟨j,hj,rfl⟩:=List.mem_map.mp hr;have hj:=List.mem_range.mp hj;have h1:=wx (pr:=pr) (c:=c) hT (T.length-j) j T.length ((aC 0xed2810c202f1fd091b021fd2801b20 0x1103111001411110311100015113) hj aq) (aQ _);have h2:=yP (hT.lt _ (getD_mem (T:=T) (i:=j) ((ao 247532560 1122578) hj))) d;exact(cV 0xeb1f43a818019b492b1e3490b642a12f1fd093b421fd2843b24 0x10000017111014421010001019111014425) hl h1 h2 aq
 have:=Iy _ hd;rw[bB,gH]at this;exact(ao 0xebf42405a0b491b1e11f63a0 0x1013110131f63f22) hl this
end Ml
section
open Ml Po
theorem ak0:∀s,s<6->nd s 0+nd s 1+nd s 2=(cz s).length:=by decide+kernel
theorem SI:∀{T:List Nat},(∀s∈T,s<6)->(T.map λs=>nd s 0).sum+(T.map λs=>nd s 1).sum+(T.map λs=>nd s 2).sum=(T.map λs=>(cz s).length).sum|[],_=>rfl|s::r,h=>by have h1:=SI (T:=r) λx hx=>h x (aY _ hx);have h2:=ak0 s (h s aK);simp only[gm,ni];exact(Om.n8 0xed877688548832810d7785831d684820 0x1011411101015118) h1 h2
theorem ak1(hp:pr<6)(v:List Nat):v.getD ((bT pr).getD 0 0) 0+v.getD ((bT pr).getD 1 0) 0+v.getD ((bT pr).getD 2 0) 0=v.getD 0 0+v.getD 1 0+v.getD 2 0:=by
 have k:∀x y z:Nat,x+z+y=x+y+z/\y+x+z=x+y+z/\y+z+x=x+y+z/\z+x+y=x+y+z/\z+y+x=x+y+z:=λx y z=>⟨SY x z y,congrArg (·+z) (iG y x),(iG (y+z) x).trans (nV x y z).symm,(nV z x y).trans (iG z (x+y)),(iG (z+y) x).trans ((congrArg (x+·) (iG z y)).trans (nV x y z).symm)⟩
 obtain⟨k1,k2,k3,k4,k5⟩:=k (v.getD 0 0) (v.getD 1 0) (v.getD 2 0);exact six (P:=λpr=>v.getD ((bT pr).getD 0 0) 0+v.getD ((bT pr).getD 1 0) 0+v.getD ((bT pr).getD 2 0) 0=v.getD 0 0+v.getD 1 0+v.getD 2 0) rfl k1 k2 k3 k4 k5 hp
theorem ak2(f:Nat->Nat)(T:List Nat)(pr wh st tu wd:Nat)(hf:∀i,f i<2^110)(hT:dh T)(D:vQ pr wh st tu wd):∃a b c Q M,HX f T pr wh st tu wd a b c Q M:=by
 obtain⟨a,b,c,ec⟩:∃a b c,gR T=[a,b,c]:=⟨_,_,_,rfl⟩
 have SJ:a+b+c=(T.map λs=>(cz s).length).sum:=by have h:=SI hT.lt;have e:[(T.map λs=>nd s 0).sum,(T.map λs=>nd s 1).sum,(T.map λs=>nd s 2).sum]=[a,b,c]:=ec;cases e;exact h
 have ak3:=hT.sum;have tD:0<T.length:=List.length_pos_iff.mpr hT.ne;have h0:0<a+b+c:=by
  rw[SJ];cases T with|nil=>exact absurd rfl hT.ne|cons s r=>rw[gm,ni];have:=(Hq (hT.lt s aK)).1;exact(ao 0xec81009b019 17903890) this
 have h4:a+b+c<=4:=by exact(a9 0xeb4982810d382810c593 269566228) SJ ak3
 have tM:2<=wd/\wd<=500:=by have:=D.wd;exact(ax 0xe1fb1f43a0b0292f1fb1eb3a0b01c43a1fb292a0b029 0x10131110131111211112111) this
 have K:=ajR a b c pr h4 h0 D.pr;have hP:∀i,i<=a+b+c->0<bK wd i/\bK wd i<2^6000:=λi hi=>R5 (by exact(ax 0xeb0191fb1f43a0b029 1122577) tM) tM.2 (by exact(a9 0xeb490b4983821b838210 17903892) h4 hi);have wy:=hP _ (aQ _);have jO:0<gU wd (f 4) (a+b+c):=tW wy.1 (by exact ax 3967817993 1122577);have yR:gU wd (f 4) (a+b+c)<2^6001:=by
  have h2:1+f 4/486%2<=2:=by exact(aC 0xeb2980191fc290d2801e129 268517651) (iL 2 _)
  have:=lV (aQ (bK wd (a+b+c))) h2;have h3:bK wd (a+b+c)*2<2^6000*2:=IP wy.2 ⋯;rw[<-jy]at h3;exact b9 this h3
 have SK:gU wd (f 4) (a+b+c)<2^7998:=jU yR (jv ⋯ ⋯);have hU:pv wd (gU wd (f 4) (a+b+c)) (fM pr a b c)*fL wd a b c=2^(19*wd)*gU wd (f 4) (a+b+c):=up_eq K (by exact(ax 0xeb0191fb1f43a0b029 1122577) tM);have hq:=R6 (wd:=wd) K;have Ct:0<fL wd a b c:=by
  rcases Di (fL wd a b c)with q|q
  ·rw[q,pK]at hq;exact((ao 0xe4f1fc10c009d090 16855314) wy hq).elim
  ·exact q
 have Cs:0<valN wd (iE (a+b+c) (fM pr a b c)):=by
  rcases Di (valN wd (iE (a+b+c) (fM pr a b c)))with q|q
  ·rw[q,m6]at hq;exact((ao 0xe4f1fc10c009d090 16855314) wy hq).elim
  ·exact q
 have ak4:fL wd a b c<=bK wd (a+b+c):=by rw[hq];exact Tl _ Cs
 have hr:=ajT (f 5) jO;have hL:2^(19*wd)<=2^9500:=nh ⋯ (by exact(ax 0xeb251c4a1e0132a1fb1f43a0b029 4504978598342433) tM);have hUL:pv wd (gU wd (f 4) (a+b+c)) (fM pr a b c)<=2^(19*wd)*gU wd (f 4) (a+b+c):=by rw[<-hU];exact Nat.le_mul_of_pos_right _ Ct
 have SL:2^(19*wd)*gU wd (f 4) (a+b+c)<2^15501:=b9 (lV hL (aQ _)) (fy (IR yR (fE 9500)) (by rw[<-gu];exact nh ⋯ ⋯));have sl:sizeLine=16777216:=rfl;have l1:gJ "."=1:=rfl;have tl:∀s,s<6->(bf (f 3) s).length<=100:=λs hs=>yP hs (f 3);have tt:(iC (f 3) T).length<=404:=(yQ hT (f 3) 0).2;have ll:=akC (f 4);have el:=Sl (f 4);have h5:=hT.len;have mt:∀k,(gR T).getD k 0<=4:=λk=>by rw[ec];exact G4 (P:=λk=>[a,b,c].getD k 0<=4) (by show a<=4;exact(aC 0xeb490b4982810 286343443) h4) (by show b<=4;exact(aC 0xeb490b4982801 286343443) h4) (by show c<=4;exact(aC 0xeb490b4980821 286343443) h4) (λJ=>fP _) k
 refine⟨a,b,c,valN wd (iE (a+b+c) (fM pr a b c)),ky (a+b+c) (fM pr a b c),{sg:=λs hs=>akx D hs (f 3),cn:=mt,li:=?_,ga:=ajF D,t1:=?_,t2:=by exact(ao 0xeb27104a810b1943a1b190 17903890) tt ll,t3:=λk=>az (el k) ⋯,t4:=?_,gp:=λi hi=>Sj hT hi,qu:=λi hi=>⟨(SG D.pr hT i hi).1,tl,λk=>az (el k) ⋯,λj hj=>az ((SG D.pr hT i hi).2 j (dw hj)) ⋯⟩,dt:=Sk D.pr hT tl,ml:=?_,ct:=ec,lp:=?_,bg:=?_,mo:=?_,qd:=ajS hU hr rfl SK ?_,di:=?_,qt:=hq,en:=ajW K h4 tM ⟨jO,SK⟩}⟩
 ·have e:=ak1 D.pr (gR T)
  have e2:(gR T).getD 0 0+(gR T).getD 1 0+(gR T).getD 2 0=a+b+c:=by rw[ec];rfl
  rw[e2]at e;exact Sf _ _ _ _ _ (by exact(pS 0xeb4982810b4985843d8584382810 17903894) h4 e) (by exact(pS 0xeb8281019c8584309d8584382810 269566230) h0 e) D.st.1 D.st.2 D.wh
 ·have k:∀l:List Nat,(∀s∈l,s<6)->((l.map (bf (f 3))).map λx=>gJ x).sum<=100*l.length:=λl=>by
   induction l with|nil=>exact λJ=>aQ _|cons s r ih=>intro h;have h1:=tl s (h s aK);have h2:=ih λx m=>h x (aY _ m);rw[gm,gm,ni,bP];exact(aC 0xeb1e8192642a810b642a0b1e2642a1 17903891) h1 h2
  have:=k T hT.lt;rw[l1,bB];exact(ao 0xeb10000007a82e1910b491b1e1642a0 72393014129274658) h5 this
 ·have h2:(cZ (gF (f 4) 4) 2).length<=4:=by rw[B9];have:=el 4;show 2*_<=4;exact(ax 0xeb491e029b290 69039362593) this
  rw[la];exact(a9 0xeb382810d10000007a3b1943a1b190b492 73299747092) sl tt ll h2
 ·have dk:=(Sk (c:=f 2) D.pr hT tl).Hx (T.length-1) (by exact(ao 0xec10c1092f1fd090b1911fd18190b119 72361132530155794) tD aq)
  have rs:=akZ (c:=f 2) (d:=f 3) D.pr hT;refine⟨by rw[B6];exact(ax 63444137104 1122577) h5,dk,ll,by exact(ax 0xeb3e83a0b1943a0 1122577) tt,rs,?_,akW D.pr hT⟩;rw[Re.ym];show(List.toArray _).size<=_;rw[dF,Sm];exact rs
 ·exact⟨λx s J J=>RU pr x s,⟨h0,h4⟩,tM.2,λi hi=>⟨(K.yG i hi).1,(K.yG i hi).2.1⟩,λi hi=>(K.yG i hi).2.2,λi hi=>(hP i hi).2⟩
 ·exact⟨h4,tM.2,hP,⟨jO,yR⟩,K.len,λm hm=>⟨(K.Cq m hm).1,az (K.Cq m hm).2 ⋯⟩,b9 hUL (jU SL (jv ⋯ ⋯))⟩
 ·refine lL (i:=6001) (j:=1) (by rw[fQ];exact yR) ?_ ⋯
  rw[fQ];unfold tF;split<;>decide
 ·rw[hU]
  have h3:2^6001<=2^15501:=nh ⋯ ⋯;refine fy (m:=2^15502) ?_ (nh ⋯ ⋯);rw[jy];exact(cV 0xec2e292810c43c31c20b24 4581314837) yR hr SL h3
 ·refine⟨by exact(ax 0xe0f8e095e0c009 16855313) Ct,?_,?_,(λq=>nomatch q),(λq=>nomatch q)⟩
  ·rw[fQ];exact jU wy.2 (jv ⋯ ⋯)
  ·rw[fQ];exact b9 ak4 (jU wy.2 (jv ⋯ ⋯))
end
section
open Hd
structure CH(prog:bF)(wd:bj)(base:Heap)(mg mb:Str->Option aa):Prop where
 ty:aZ id prog wd base mg mb 208 1 true G8
 pr:aZ id prog wd base mg mb 213 2 true G9
 se:aZ id prog wd base mg mb 218 3 true vN
 qu:aZ id prog wd base mg mb 139 1 true Ha
 im:aZ id prog wd base mg mb 73 26 false vO
 i2:aZ id prog wd base mg mb 52 22 false E5
 d2:aZ id prog wd base mg mb 59 22 false E6
section
theorem ak6(hk:∀b o,(H1 P).get? b=some o->h.get? b=some o)(B:ck h mg mb)(G:GX mg mb)(hB:o9 h mg):CH prog wd h mg mb:=by
 have kp:Kp (H1 P) h:=λb o J e=>hk b o e;obtain⟨_,_,_,SM⟩:=da P hk (a:=38) (j:=3) ⋯;obtain⟨_,_,_,d45⟩:=da P hk (a:=45) (j:=4) ⋯;obtain⟨_,_,_,d52⟩:=da P hk (a:=52) (j:=5) ⋯;obtain⟨_,_,_,d59⟩:=da P hk (a:=59) (j:=6) ⋯;obtain⟨_,_,_,d66⟩:=da P hk (a:=66) (j:=7) ⋯;obtain⟨_,_,_,d73⟩:=da P hk (a:=73) (j:=8) ⋯;obtain⟨_,_,_,d80⟩:=da P hk (a:=80) (j:=13) ⋯;obtain⟨_,_,_,d87⟩:=da P hk (a:=87) (j:=14) ⋯;obtain⟨_,_,_,d94⟩:=da P hk (a:=94) (j:=15) ⋯;obtain⟨_,_,_,alf⟩:=da P hk (a:=101) (j:=16) ⋯;obtain⟨_,_,_,alg⟩:=da P hk (a:=108) (j:=17) ⋯;obtain⟨_,_,_,alh⟩:=da P hk (a:=115) (j:=18) ⋯;obtain⟨_,_,_,ali⟩:=da P hk (a:=122) (j:=19) ⋯;obtain⟨_,_,_,alj⟩:=da P hk (a:=139) (j:=24) ⋯;obtain⟨_,_,_,alk⟩:=da P hk (a:=157) (j:=27) ⋯;obtain⟨_,_,_,alm⟩:=da P hk (a:=203) (j:=29) ⋯;obtain⟨_,_,_,aln⟩:=da P hk (a:=208) (j:=31) ⋯;obtain⟨_,_,_,alo⟩:=da P hk (a:=213) (j:=32) ⋯;obtain⟨_,_,_,alp⟩:=da P hk (a:=218) (j:=33) ⋯;have r:=λ(x:Str) (a:Nat) (m:(x,a)∈yK)=>G.r (x,a) m;have f0:=λd=>adO (prog:=prog) (wd:=wd) (d:=d) SM B (G.b (.divmod ())) G.lim;have f3:=λd=>ad4 (d:=d) d45 B (r "_div2n1n" 38 ⋯) f0;have f1:=λd=>aed (d:=d) SM B (G.b (.divmod ())) G.lim (r "_div3n2n" 45 ⋯) f3;have f5:=λd=>afi (prog:=prog) (wd:=wd) (d:=d) d52 B (csAt P hk ⋯) hB (G.b .len);have f6:=λd=>ae3 (prog:=prog) (wd:=wd) (d:=d) d59 B (csAt P hk ⋯) hB (G.b .len);have f7:=λd=>aew (d:=d) d66 B (r "_int2digits" 52 ⋯) (r "_div2n1n" 38 ⋯) (r "_digits2int" 59 ⋯) (G.b .reversed) f5 f1 f6;have f8:=ael (d:=0) d73 B (r "_divmod_pos" 66 ⋯) (r "int_divmod" 73 ⋯) f7;have fv:=λd=>c_v (prog:=prog) (wd:=wd) (d:=d) alg B G.BE G.two;have fs:=afG (prog:=prog) (wd:=wd) (d:=0) alp B ⟨r "rgb_to_yiq" 80 ⋯,r "rgb_to_hsv" 115 ⋯,r "rgb_to_hls" 94 ⋯,r "hsv_to_rgb" 122 ⋯,r "hls_to_rgb" 101 ⋯,r "yiq_to_rgb" 87 ⋯,G.b .max,G.b .min,G.b .round,G.b .abs⟩
  (λd=>afw d80 B) (λd=>afz alh B (G.b .max) (G.b .min)) (λd=>afy d94 B (G.b .max) (G.b .min)) (λd=>afC ali B (G.b .int)) (λd=>afB alf B (r "_v" 108 ⋯) G.yf fv) (λd=>afx d87 B)
 have fq:=agc (prog:=prog) (wd:=wd) (d:=0) alj B ⟨ic.kp kp ⋯ (pats P).one,ic.kp kp ⋯ (pats P).two⟩ (r "_twin_re_1" 127 ⋯) (r "_twin_re_2" 132 ⋯) G.crlf;have f12:=λd=>agi (prog:=prog) (wd:=wd) (d:=d) alk B (let⟨n,x⟩:=ag7 P;⟨n,Qm kp x⟩) (G.b .ord) (r "b1_set" 147 ⋯);have f13:=λd=>agn (prog:=prog) (wd:=wd) (d:=d) alm B (let⟨n,x,y⟩:=aha P;⟨n,GM kp x,y⟩) (G.b .ord) (r "b3_exceptions" 158 ⋯);have fp:=agA (d:=0) alo B (r "in_table_b1" 157 ⋯) (r "map_table_b3" 203 ⋯) (G.b .zip) f12 f13;have ft:=agO (prog:=prog) (wd:=wd) (d:=0) aln B ⟨G.b .range,G.b .zip,G.b .chr,G.b .ord,G.b .len,G.b .list⟩;exact⟨ft.e λJ J=>ahb,fp.e λJ J=>ahc,fs.e λJ J=>ahe,fq.e λJ J=>ahd,f8.e λJ J=>ahf,(f5 0).e λJ J=>ahg,(f6 0).e λJ J=>ahh⟩
end
section
theorem Rm.ID(R:Rm prog wd base mg mb d hn C):Rm prog wd base mg mb d false C:=⟨R.p,R.w,R.k,R.dp,R.u,λq=>absurd q aL,R.m,R.g,R.b⟩
theorem als(F:CH prog wd base mg mb)(G:GX mg mb)(R:Rm prog wd base mg mb 40 true C):Gs id C Hb:=by
 have b:=λ(i:Bi)=>fj.bi (H:=(id:Prop->Prop)) (C:=C) (x:=wj i) (b:=i) (by rw[R.g];exact(G.b i).1) (by rw[R.b];exact(G.b i).2);have r:=λ{x:Str} {a:Nat} {f:List AV->(AV->Prop)->Prop} (m:(x,a)∈yK) (c:kK id C a f)=>fj.fn (x:=x) (by rw[R.g];exact G.r _ m) c
 exact .cons (b .range) (.cons (b .enumerate) (.cons (b .len) (.cons (b .sum) (.cons (b .min) (.cons (b .max) (.cons (b .isinstance) (.cons (b .bool) (.cons (b .int)
  (.cons (r (a:=208) ⋯ (F.ty C (R.low ⋯))) (.cons (r (a:=213) ⋯ (F.pr C (R.low ⋯))) (.cons (r (a:=218) ⋯ (F.se C (R.low ⋯))) (.cons (r (a:=139) ⋯ (F.qu C (R.low ⋯))) (.cons (r (a:=73) ⋯ (F.im C (R.low ⋯).ID)) (.cons (r (a:=52) ⋯ (F.i2 C (R.low ⋯).ID)) (.cons (r (a:=59) ⋯ (F.d2 C (R.low ⋯).ID)) .nil)))))))))))))))
def alu(as:List AV)(k:AV->Prop):Prop:=∃ns:List Int,as=[.lst (ns.map .int)]/\ns.length<=1000/\k (.bool true)
theorem alv(F:CH prog wd base mg mb)(G:GX mg mb)(B:ck base mg mb)(D:eP base 223 (aw 34) o pm cd doc)(D8:eP base 73 (aw 8) o8 pm8 cd8 anV)(R:Rm prog wd base mg mb 41 true C)(mX:C.A.frames=some []):kK id C 223 alu:=
 .of D.at_ D.fn D.ext D.code B (jj.of ⋯) (λvs h=>yn h λJ=>rfl) (gl:=Hb) (mu:=Hc) (wf:=5) (xs:=["script"]) R (λC R=>als F G R) λas k x=>by
  obtain⟨ns,rfl,tx,hk⟩:=x;refine⟨rfl,λok h Ft R'=>?_⟩;have L:Cm prog wd base mg mb (dN C ok h 223 (nameOf (aw 34)) (aE (aw 34)) cd):=⟨Ft,R',aQ _,rfl,by show C.A.frames.map _=_;rw[mX];rfl,rfl,G.ze,G.r ("int_divmod",73) ⋯,⟨_,_,_,_,D8⟩,B,F.im⟩
  exact(ajx (K:=λJ=>k .none) (Kr:=k) L ns tx (λf T pr wh st tu wd hf hT D=>ak2 f T pr wh st tu wd hf hT D) hk).x
end
end
section
open Hd
theorem alw(hk:∀b o,(H1 P).get? b=some o->h.get? b=some o)(k:Kp h h')(t:gL h'):OldK h h':=by
 have key:∀(p:Nat) q,gz h' p q->h.get? p=some ⟨.none,none,.fields #[],#[]⟩->isCodeTable h p->∀o,h.get? p=some o->asItWas h h' p o/\∃o',h'.get? p=some o':=by
  rintro p q ⟨o',vs,g',d',⟨_,r1,r2,r3⟩,_⟩ g hc o e
  cases g.symm.trans e;obtain⟨c1,c2,c3,c4⟩:=o';cases d';cases r1;cases r2;cases r3;exact⟨.inr (.inl ⟨hc,rfl,#[],vs,rfl,by rw[g'];simp⟩),_,g'⟩
 have ct:∀c p,nH h c p->isCodeTable h p:=λc p ⟨o,vs,_,_,_,_,_,_,_,g,d,_,_,_,_,_,r,_⟩=>⟨c,o,vs,g,r.2.1,d,r.2.2⟩
 have tb:∀p,p∈[47,54]->h.get? p=some ⟨.none,none,.fields #[],#[]⟩:=λp m=>hk _ _ ((ob P ((by decide:∀p∈[47,54],p∈lQ) p m)).trans (congrArg some (aX (G7 P) m)));have all:∀b o,h.get? b=some o->asItWas h h' b o/\∃o',h'.get? b=some o':=by
  intro b o e;by_cases h1:b=47
  ·subst h1;exact key 47 _ t.one (tb 47 ⋯) (ct _ _ (csAt P hk (c:=51) ⋯)) o e
  ·by_cases h2:b=54
   ·subst h2;exact key 54 _ t.two (tb 54 ⋯) (ct _ _ (csAt P hk (c:=58) ⋯)) o e
   ·have x:NF b o:=λJ J=>by simp[eG,h1,h2]
    exact⟨.inl (k b o x e),o,k b o x e⟩
 exact⟨λb o e=>(all b o e).1,λb o e=>(all b o e).2⟩
def alx(P:cc)(h:Heap)(v:aa)(d:WData):Prop:=match d with|.int i=>uK i v|.list xs=>∃a vs,v=.ref a/\h.get? a=some {cls:=.type "list",data:=.seq vs.toArray}/\WellAll P h vs xs|_=>True
theorem SN(w:Well P h v d):alx P h v d:=by cases w<;>first|exact trivial|exact⟨_⟩|exact⟨_,_,rfl,‹_›,‹_›⟩
def aly(P:cc)(h:Heap)(vs:List aa)(ds:List WData):Prop:=match ds with|[]=>vs=[]|d::ds=>nt (λv=>Well P h v d) (λvs=>WellAll P h vs ds) vs
theorem CI(w:WellAll P h vs ds):aly P h vs ds:=by
 cases w with|nil=>rfl|cons x y=>exact⟨x,y⟩
theorem alz(ns:List Int):∀vs,WellAll P h vs (ns.map Dn)->ay h (λJ=>True) (ns.map AV.int) vs:=by
 induction ns with|nil=>exact λvs w=>CI w|cons n ns ih=>exact λvs w=>nt.imp (λv x=>SN (d:=.int n) x) (λvs y=>ih vs y) (CI w)
theorem pre_of(x:fR.row.toRowW.claim.pre args=true):∃ns:List Int,args=[.list (ns.map Dn)]/\ns.length<=63:=by
 obtain⟨h1,h2⟩:=pre_splitW x;obtain⟨d,r,rfl,e1,e2⟩:=hasAllW_cons h1;cases hasAllW_nil e2;obtain⟨xs,rfl,e3⟩:=hasW_list e1;obtain⟨ns,rfl⟩:=items_int e3;refine⟨ns,rfl,?_⟩;have h3:fR.row.toRowW.pre=WTm.and (.not (.lt (.lit (.int 63)) (.len (.arg 0)))) (.lit (.bool true)):=rfl;rw[h3]at h2;have h4:(match Num.less? (.int 63) (Dn ns.length)with|some b=>(!b)|none=>false)=true:=by
  simp only[WTm.holds,WTm.value,less?,List.getElem?_cons_zero,bB]at h2;revert h2;cases Num.less? (.int 63) (Dn ns.length)with|none=>intro h;simp at h|some b=>cases b<;>intro h<;>simp_all
 have h5:Num.less? (.int 63) (Dn ns.length)=some (decide ((63:Int)<ns.length)):=by rfl
 rw[h5]at h4;simp at h4;exact(ax 0xeb3f2a06e3f2a5e0 1122577) h4
@[reducible] noncomputable def C0 (prog:bF) (w:bj) (s:aF) (mg mb:Str->Option aa):Fc:=⟨prog,w,callerA,default,λJ=>True,s.heap.objs.size,s.heap.objs.size,s.heap.objs.size,s.heap,mg,mb,[],s⟩
theorem walk:WalkX qv oz (λJ J=>True) w8 w9 fR.row.toRowW nr [] (λf vs=>kA f vs):=by
 intro w jg s₁ mg mb G hY a o pm cd doc dV kV _ _ _ _ hmg alB args vals as L DM anY hrd alC an0;have hk:∀b o,(H1 w.params).get? b=some o->s₁.heap.get? b=some o:=λb o e=>L.keeps b o (by rw[show jg.heap=H1 w.params from congrArg Prod.fst hY];exact e);have ha:a=223:=by
  have e:=(pB hk G.T.g nr.name).symm.trans hmg;have e':nsFind (jK (bE w.params 3)) nr.name=some (.ref 223):=⋯
  rw[e']at e;cases e;rfl
 subst ha;obtain⟨ns,rfl,tx⟩:=pre_of DM;have hT:gL s₁.heap:=⟨(QE w.params).one.keep hk,(QE w.params).two.keep hk⟩
 have HM:ck s₁.heap mg mb:=⟨G.T.nolimit,G.T.g,G.T.b⟩
 have GX:=ajq hk G.T.g G.T.builtins;have hB:o9 s₁.heap mg:=let⟨bm,ob,h1,h2,h3,h4,h5,h6⟩:=G.T.bmain;⟨bm,ob,h1,h2,h3,h4,h5,h6⟩;have F:CH fR.row.toRowW.prog w s₁.heap mg mb:=ak6 hk HM GX hB;obtain⟨_,_,_,D⟩:=da w.params hk (a:=223) (j:=34) ⋯;obtain⟨_,_,_,D8⟩:=da w.params hk (a:=73) (j:=8) ⋯;have R:Rm fR.row.toRowW.prog w s₁.heap mg mb 41 true (C0 fR.row.toRowW.prog w s₁ mg mb):=⟨rfl,rfl,λJ J J e=>e,(show callerA.depth+41<recursionLimit from ⋯),(show callerA.units+3*41+64<cLine from ⋯),λJ=>rfl,.inl rfl,rfl,rfl⟩
 have X:=alv F GX HM D D8 R rfl;have hvr:ay s₁.heap (λJ=>True) [.lst (ns.map AV.int)] vals:=by
  exact nt.imp (λv x=>by
   obtain⟨a,vs,rfl,g,r⟩:=SN (d:=.list (ns.map .int)) x
   exact⟨a,vs,0,g,trivial,alz ns vs r⟩) (λvs y=>CI (ds:=[]) y) (CI alC)
 refine wpAny_call (codeAny_mono (X.run (λJ=>True) s₁.heap [.lst (ns.map AV.int)] vals (λa=>a=.bool true) s₁.toks (λv s'=>v=.bool true/\∃h' tk,s'=(C0 fR.row.toRowW.prog w s₁ mg mb).st h' tk/\aI s₁.heap h') (λJ J J e=>e) hT (λJ J=>trivial) hvr ⟨ns,rfl,az tx ⋯,rfl⟩ λv h' ak a g r e=>?_) λr s' h=>?_)
 ·have e:=e
  subst e;exact⟨r,h',ak,rfl,g⟩
 ·obtain⟨v,rfl,rfl,h',tk,rfl,g⟩:=h
  exact⟨.inl ⟨_,.bool true,[],rfl,λJ=>rfl,.bool true,postW_of (X:=true) rfl (by rw[show fR.row.toRowW.post=WTm.eq .res (.lit (.bool true))from rfl];simp[WTm.value,same]) rfl,λJ=>⟨.nil,λJ h=>by cases h⟩⟩,alw hk g.kp (g.tb hT),rfl,.of_eq alB⟩
theorem holds:fR.Holds:=Hd.head walk prom
end
end Mine.Internal
end
theorem PySem.Challenge.cw_wb0098_01_holds : PySem.Challenge.rw_wb0098_01.Holds :=
 Mine.Internal.holds
