import PyProof.Rows.All
import Wide.All
import OpenK.AllK
import Wide.FinOn
import PyProof.Rows.EqNone
import KE.KDictOf
import PyProof.StrWalks
import PyProof.AutoSeq1
import PyProof.EnumMake
import PyProof.StrCalls2
import PyProof.StrCalls6
import PyProof.FitsReplace
import PyProof.StrLawsIn
import PyProof.StrLawsNeg
import KE.KAnyBase
import KE.KEqDat
import PyProof.WalkInts
import PyProof.ListRange
import PyProof.Rows.ListMul
import PyProof.CallFns
import PyProof.TupleKey
import PyProof.EqAt
import PyProof.TupleOfSeq
import PyProof.Rows.SeqMore2
import PyProof.ListMulRoad
import Lean
import PySem.Challenge.RW_il0198_01
set_option Elab.async false
set_option compiler.extract_closed false
set_option maxHeartbeats 1000000
set_option genSizeOf false
set_option genInjectivity false
set_option bootstrap.genMatcherCode false
set_option maxRecDepth 100000
set_option linter.unusedVariables false
set_option linter.unusedSimpArgs false
set_option linter.unusedSectionVars false
namespace Mine.Internal
open PySem PySem.W PySem.Calls PyProof.Rows Builtin
open _root_.Option renaming some→EU,map_eq_some_iff→Ge
open _root_.PySem.Str renaming ofString→EW
open _root_.PySem renaming wpAny_bind→EX,wpAny_pure→E0,wpAny→E4,model→Fa,Around→Fb,builtinLookup_eq_fast→Fh,Expr→Fw,compareOp→Fx,wpAny_mono→FE,typeLookup_type→FF,World→FL,isSubtype_type→FN,wpAny_of_eq→FO,Str→FQ,Params→F1,codeAny_call_builtin→F2,entryFor_of_tree→F4,foldedSetIterable→F6,attributeBase→F7,codeAny_builtin→Gc,strIterType→Gl,compEnvC→Gm,wpAny_callSpecial?_slot→Go,typeLookup→Gq,plainId_quiet→Gs,wpAny_call_entry→Gw,wpAny_call→GC,interactive→GF,wpAny_newObj_type→GG,isSubtype→GI,wpAny_standAt→GJ,wpAny_load→GQ,wpAny_seqItems→GR,wpAny_updateSeq→GV,typeOf→GY,wpAny_typeOf→G1,keywordEach→G5,binaryOp→Ha,entryFor→Hb,specialOf→Hf,starEach→Hl,codeAny_mono→Hm,wpAny_field→Ho,swappedStores→Ht
open _root_.Nat renaming le_trans→EY,lt_of_lt_of_le→E1,lt_of_le_of_lt→E3,le_of_eq→E6,le_refl→Fe,ne_of_lt→Fi,add_le_add_left→Fj,le_of_ble_eq_true→Fp,lt_trans→Fs,le_add_right→Ft,le_of_lt→Fu,lt_irrefl→FC,le_of_lt_succ→FG,succ_le_succ→FH,mul_le_mul_left→FM,zero_le→FZ,not_lt→Ga,lt_of_le_of_ne→Gh,add_le_add→GB,le_antisymm→GH,lt_succ_of_lt→GO,le_succ_of_le→GP,sub_add_cancel→GX,add_comm→G7,lt_succ_self→G9,pos_of_ne_zero→Hd,le_add_left→Hi,add_le_add_right→Hj,lt_add_of_pos_right→Hs
open _root_.List renaming length_map→EZ,getElem?_eq_getElem→E2,getElem?_eq_some_iff→E5,length_append→E7,map_append→Ff,mem_cons_of_mem→Fk,all_eq_true→Fn,mem_cons_self→Fo,mem_map→Fq,getElem?_map→FA,getElem_mem→FB,length_set→FD,mem_cons→FI,getD_eq_getElem?_getD→FR,map_map→FS,length_eq_zero_iff→FT,take_succ_eq_append_getElem→FU,map_cons→FW,mem_singleton→FX,pairwise_iff_getElem→FY,replicate→F0,mem_append→F3,range→F8,getElem_map→F9,rel_of_pairwise_cons→Gf,getElem_of_mem→Gi,append_assoc→Gj,idxOf_lt_length_of_mem→Gk,take_length→Gp,getElem?_append_left→Gu,mem_append_right→GA,mem_filter→GD,mem_append_left→GK,pairwise_append→GL,filter_cons_of_pos→GM,length_filter_le→GS,mem_of_getElem?→G0,forIn_cons→G2,nodup_cons→G3,idxOf_cons→G4,toList_toArray→G6,getElem?_append_right→Hc,append_nil→Hh,length_cons→Hq,filter_cons_of_neg→Hr
open _root_.Ne renaming symm→E8
open _root_.PySem.Challenge renaming pw_il0198_01→E9,rw_il0198_01→Fm
open _root_.PySem.Txt renaming contains→Fc
open _root_.Bool renaming and_eq_true→Fd,not_eq_true'→Gb,false_eq_true→Gg
open _root_.Int renaming natCast_nonneg→Fg,ofNat_lt→FP,toNat_natCast→FV,lt_of_le_of_lt→Gn,ofNat_le→GN
open _root_.PySem.W renaming Looks→Fv,Dat→Fy,kqdOk→Gz
open _root_.PySem.F renaming plainAttrs_list→Fz,slot_list_append→Gx,type_list_append→Gy,slot_tuple_lt→G8
open _root_.PySem.Value renaming none→FK,ref→GU,type→Hk
open _root_.PySem.Obj renaming mapSeq→F5
open _root_.Lean renaming Syntax→Gv
open _root_.PySem.Builtin.List renaming listExtendWith→GZ
open _root_.PySem.StrLaws renaming occBody→He
open _root_.Array renaming toArray_toList→Hg
open _root_.PySem.Builtin.SmallTypes renaming nextOf→Hu
open _root_.PySem.PyData renaming strOk→Hv
noncomputable def wM(as:Array Nat)(p:Nat->Bool)(i:Nat)(j:Nat):Bool:=if i=0∧j=as.size then as.toList.any p else Array.any as p i j
theorem zl: @Array.any Nat=wM:=by
 funext as p i j;unfold wM;split
 ·rename_i h;obtain ⟨rfl,rfl⟩:=h;simp
 ·rfl
noncomputable def Box(_:Builtin):Type:=Unit
noncomputable def CC{b:Builtin}(_:Box b):Builtin:=b
noncomputable def zX(g:Array Nat->(Nat->Bool)->Nat->Nat->Bool)(h: @Array.any Nat=g):Builtin:=by
 have x:Box PySem.W.Fast.tw4202317264376624991:=()
 delta PySem.W.Fast.tw4202317264376624991 at x
 exact CC (h▸x)
theorem yY(g:Array Nat->(Nat->Bool)->Nat->Nat->Bool)(h: @Array.any Nat=g):PySem.W.Fast.tw4202317264376624991=zX g h:=by
 subst h;rfl
noncomputable def s6:Builtin:=zX wM zl
noncomputable def dA(id:String):Option Builtin:= @Bool.rec (λ_=>Option Builtin) (PySem.treeTable id) (EU s6) (Nat.beq (PySem.code id) (PySem.code "type.__new__"))
theorem wr:PySem.treeTable "type.__new__" =EU Builtin.«type.__new__»:=by kernel_rfl
theorem yk:Builtin.«type.__new__»=s6:=PySem.W.Fast.te4202317264376624991.trans (yY ..)
theorem i6:PySem.treeTable=dA:=by
 funext id;unfold dA
 cases h:Nat.beq (PySem.code id) (PySem.code "type.__new__") with
 |false=>rfl
 |true=>
  have:id="type.__new__" :=PySem.code_inj _ _ (Nat.eq_of_beq_eq_true h);subst this;show _=EU s6;rw[wr,yk]
section
section
variable (tb:String->Option Builtin) (p:Program) (w:FL) (n₀:Nat) (ann:Option Value)
noncomputable def qb:Nat->SharedT->Thread->Option SharedT
 |0,_,_=>none
 |n+1,s,t=>match through t with
  |true=>EU s
  |false=>match stepOk n₀ ann t with
   |false=>none
   |true=>match stepT (denote tb) p w s t with
    |some (s',t')=>qb n s' t'
    |none=>none
variable {tb p w n₀ ann}
theorem r8:∀{n:Nat} {s s':SharedT} {t:Thread},qb tb p w n₀ ann n s t=EU s'->topRun tb p w n₀ ann n s.abs t=EU s'.abs
 |0,_,_,_,h=>by cases h
 |n+1,s,s',t,h=>by
  unfold qb at h;unfold topRun
  cases he:through t with
  |true=>rw[he] at h;cases h;rfl
  |false=>
   rw[he] at h
   cases hk:stepOk n₀ ann t with
   |false=>rw[hk] at h;cases h
   |true=>
    rw[hk] at h
    cases hs:stepT (denote tb) p w s t with
    |none=>rw[hs] at h;cases h
    |some r=>obtain ⟨s₂,t₂⟩:=r;rw[hs] at h;rw[stepT_spec hs];exact r8 h
end
noncomputable def lP:List Obj->BT->Nat->Option BT
 | [],T,_=>EU T
 |o::l,T,n=>match ((T.ins n o).get n).isSome with
  |true=>lP l (T.ins n o) (n+1)
  |false=>none
theorem pJ{life:Life}:∀{l:List Obj} {T T':BT} {n:Nat} {os:Array Obj},lP l T n=EU T'->absHeap T n life=⟨os,life⟩->absHeap T' (n+l.length) life=⟨os++l.toArray,life⟩
 | [],T,T',n,os,h,e=>by
  cases h;simpa using e
 |o::l,T,T',n,os,h,e=>by
  unfold lP at h
  cases g:((T.ins n o).get n).isSome with
  |false=>rw[g] at h;cases h
  |true=>
   rw[g] at h
   have e2:absHeap (T.ins n o) (n+1) life=⟨os.push o,life⟩:=by
    rw[absHeap_ins g,e];rfl
   have:=pJ h e2;rw[show n+(o::l).length=n+1+l.length by simp;omega,this];congr 1;simp
noncomputable def fY(tb:String->Option Builtin)(p:Program)(w:FL):Nat->SharedT->Thread->Option SharedT
 |0,_,_=>none
 |n+1,s,t=>match t.atExitBegin with
  |some []=>EU s
  |some (_::_)=>none
  |none=>match stepT (denote tb) p w s t with
   |some (s',t')=>fY tb p w n s' t'
   |none=>none
theorem jT{tb:String->Option Builtin}{p:Program}{w:FL}:∀{n:Nat} {s s':SharedT} {t:Thread},fY tb p w n s t=EU s'->importEnds tb p w n s.abs t=EU s'.abs
 |0,_,_,_,h=>by cases h
 |n+1,s,s',t,h=>by
  unfold fY at h;unfold importEnds
  cases he:t.atExitBegin with
  |some l=>
   rw[he] at h
   cases l with
   |nil=>cases h;rfl
   |cons=>cases h
  |none=>
   rw[he] at h
   cases hs:stepT (denote tb) p w s t with
   |none=>rw[hs] at h;cases h
   |some r=>obtain ⟨s₂,t₂⟩:=r;rw[hs] at h;rw[stepT_spec hs];exact jT h
noncomputable def oG(tb:String->Option Builtin)(p:Program)(w:FL)(N:Nat):Option Shared:=
 match fY tb (opening p) w N ⟨.nil,0,{}, #[],{},1,(start (opening p)).1.os⟩ (start (opening p)).2 with
 |none=>none
 |some S=>fenceModules? p S.abs
theorem wz{tb:String->Option Builtin}{p:Program}{w:FL}{N:Nat}{s:Shared}(h:oG tb p w N=EU s):fencedOpening tb p w N=EU s:=by
 unfold oG at h;unfold fencedOpening
 cases e:fY tb (opening p) w N ⟨.nil,0,{}, #[],{},1,(start (opening p)).1.os⟩ (start (opening p)).2 with
 |none=>rw[e] at h;cases h
 |some S=>
  rw[e] at h;have z:=jT e;have y:importEnds tb (opening p) w N (start (opening p)).1 (start (opening p)).2=EU S.abs:=z;rw[y];exact h
noncomputable def kT(tb:String->Option Builtin)(p:Program)(w:FL)(N:Nat):Option (Shared×SharedT):=
 match oG tb p w N with
 |none=>none
 |some s₀=>match lP s₀.heap.objs.toList .nil 0 with
  |none=>none
  |some T=>match qb tb p w s₀.heap.objs.size (s₀.heap.nsMap mainGlobals "__annotations__") N ⟨T,s₀.heap.objs.size,s₀.heap.life,s₀.gens,s₀.drawn,s₀.toks,s₀.os⟩ (topStub p) with
   |none=>none
   |some S=>EU (s₀,S)
theorem LeftO.of_whole{p q:Program}{loose:List Str}{Xt:Shared->Bool}{α:Type}{Yf:Shared->α}{Ya:FL->α}{N:Nat}{g0:Bool}
 (h:∀w:FL,(kT dA p w N).map (λx=>((x.1.heap.isNs mainGlobals&&x.1.gens.size==0),
  (staticsOk (importedModules p.main.body) x.1.heap x.2.abs.heap&&namesBound p x.2.abs.heap&&gensDone x.2.abs&&laidKept x.1.heap x.2.abs.heap),
  openSeen q loose (importedModules p.main.body) Xt g0 x.2.abs,Yf x.2.abs))=EU (true,true,openGood q loose,Ya w)):LeftO p q loose Xt Yf Ya N g0:=λw=>by
 obtain ⟨⟨s₀,S⟩,e,e'⟩:=Ge.mp (h w);obtain ⟨l1,l2,l3,l4⟩:_∧_∧_∧_:=by simpa only[Prod.mk.injEq] using e'
 unfold kT at e;unfold openEnds;rw[i6]
 cases f:oG dA p w N with
 |none=>rw[f] at e;cases e
 |some s=>
  rw[f] at e;rw[wz f];dsimp only at e
  cases t:lP s.heap.objs.toList .nil 0 with
  |none=>rw[t] at e;cases e
  |some T=>
   rw[t] at e;dsimp only at e
   cases r:qb dA p w s.heap.objs.size (s.heap.nsMap mainGlobals "__annotations__") N ⟨T,s.heap.objs.size,s.heap.life,s.gens,s.drawn,s.toks,s.os⟩ (topStub p) with
   |none=>rw[r] at e;cases e
   |some S'=>
    rw[r] at e;cases e;have r':=r8 r
    have ha:(⟨T,s₀.heap.objs.size,s₀.heap.life,s₀.gens,s₀.drawn,s₀.toks,s₀.os⟩:SharedT).abs=s₀:=by
     have z:=pJ (life:=s₀.heap.life) t (os:= #[]) rfl;obtain ⟨⟨os,life⟩,gs,d,k,o⟩:=s₀;show Shared.mk (absHeap T os.size life) gs d k o=_;simp only[Nat.zero_add,Array.length_toList] at z;rw[z];simp
    rw[ha] at r'
    have t:topFrom dA p w N s₀=EU S.abs:=by
     unfold topFrom;rw[l1,r'];show (match staticsOk (importedModules p.main.body) s₀.heap S.abs.heap&&namesBound p S.abs.heap&&gensDone S.abs&&laidKept s₀.heap S.abs.heap with|true=>_|false=>_)=_;rw[l2]
    show (Option.bind (EU s₀) (topFrom dA p w N)).map _=_;rw[Option.bind_some,t];exact congrArg EU (Prod.ext l3 l4)
end
set_option maxHeartbeats 0
noncomputable def mr:Pos:=⟨0,0,0,0⟩
noncomputable def top(i:Nat):Stmt:=(E9.main.body[i]?).getD (.Pass mr)
noncomputable def yQ:Stmt->List Stmt
 | .ClassDef _ _ _ b _ _ _ _ _ _ _=>b
 |_=>[]
noncomputable def uf:Stmt->Arguments
 | .FunctionDef _ a _ _ _ _ _ _ _ _=>a
 |_=>⟨[],[],none,[],[],none,[]⟩
noncomputable def cu:Stmt->List Stmt
 | .FunctionDef _ _ b _ _ _ _ _ _ _=>b
 |_=>[]
noncomputable def b9:Stmt->Scope
 | .FunctionDef _ _ _ _ _ _ s _ _ _=>s
 |_=>{kind:= .function,names:=[],isGenerator:=false,isCoroutine:=false,more:=[]}
noncomputable def aH(i j:Nat):Stmt:=((yQ (top i))[j]?).getD (.Pass mr)
noncomputable def dD(st:Stmt)(name qual:Str)(dflt doc pm:Value)(an:Option Addr)(code:Value):FuncData:=
 {name,qualname:=qual,params:=uf st,body:= .stmts (cu st),scope:=b9 st,globals:=3,closure:=[],defaults:=dflt,kwdefaults:= .none,doc,pyModule:=pm,annotations:=an,code,closureTuple:= .none,builtins:=0}
noncomputable def mkF(st:Stmt)(name qual:Str)(dflt doc pm:Value)(an:Option Addr)(code:Value):Obj:=
 {cls:= .type "function",data:= .func (dD st name qual dflt doc pm an code)}
noncomputable def ent(P:F1)(k:Str)(t:Tok)(v:Value):DictEntry:=⟨PyData.keyHash P k,.str k t,v⟩
noncomputable def fx:List Addr:=[100,107,152,178,185,192,199,214,221,259,271,278,936,974]
noncomputable def tA:Value->Bool
 | .str k _=>k==("__doc__" :Str)
 |_=>false
noncomputable def erL:List DictEntry->List DictEntry
 | []=>[]
 |e::l=>match tA e.key with
  |true=>{e with val:= .none}::l
  |false=>e::erL l
noncomputable def erase:Obj->Obj
 |⟨c,d,.func f,s⟩=>⟨c,d,.func {f with doc:= .none},s⟩
 |⟨c,d,.dict es n,s⟩=>⟨c,d,.dict (erL es.toList).toArray n,s⟩
 |o=>o
noncomputable def fT(a:Addr)(o:Obj):Obj:=match fx.contains a with
 |true=>erase o
 |false=>o
noncomputable def lX(v:Value):List DictEntry->List DictEntry
 | []=>[]
 |e::l=>match tA e.key with
  |true=>{e with val:=v}::l
  |false=>e::lX v l
noncomputable def put(v:Value):Obj->Obj
 |⟨c,d,.func f,s⟩=>⟨c,d,.func {f with doc:=v},s⟩
 |⟨c,d,.dict es n,s⟩=>⟨c,d,.dict (lX v es.toList).toArray n,s⟩
 |o=>o
noncomputable def d6(a:Addr)(v:Value)(o:Obj):Obj:=match fx.contains a with
 |true=>put v o
 |false=>o
theorem qM:∀l:List DictEntry,∃v,l=lX v (erL l)
 | []=>⟨.none,rfl⟩
 |e::l=>by
  cases h:tA e.key with
  |true=>exact ⟨e.val,by simp only[erL,h,lX]⟩
  |false=>
   obtain ⟨v,hv⟩:=qM l;exact ⟨v,by simp only[erL,h,lX];rw[←hv]⟩
theorem ur(o:Obj):∃v,o=put v (erase o):=by
 obtain ⟨c,d,dt,s⟩:=o
 cases dt with
 |func f=>exact ⟨f.doc,rfl⟩
 |dict es n=>
  obtain ⟨v,hv⟩:=qM es.toList;refine ⟨v,?_⟩;show _=Obj.mk c d (.dict (lX v (erL es.toList).toArray.toList).toArray n) s;rw[G6,←hv,Hg]
 |_=>exact ⟨.none,rfl⟩
theorem wy(a:Addr)(o:Obj):∃v,o=d6 a v (fT a o):=by
 unfold d6 fT
 cases fx.contains a with
 |true=>exact ur o
 |false=>exact ⟨.none,rfl⟩
theorem tu{a:Addr}{o:Obj}(h:(fT a o).isFreed=false):o.isFreed=false:=by
 unfold fT at h
 cases hc:fx.contains a with
 |true=>
  rw[hc] at h;obtain ⟨c,d,dt,s⟩:=o;cases dt<;>first|rfl|cases h
 |false=>rw[hc] at h;exact h
noncomputable def K(P:F1):List (Addr×Obj):=[
 (0,boot_o_0 P),
 (1,{cls:=(.type "dict"),dict:=none,data:= .dict [ent P "builtins" 162 (.ref 4),ent P "__main__" 163 (.ref 5),ent P "_collections" 246 (.ref 13)].toArray 3,slots:=[].toArray}),
 (2,{cls:= .none,dict:=none,data:= .dict [ent P "\x69mport.loaded._collections" 185 (.bool true),ent P "class._frozen_importlib.BuiltinImporter" 187 (.ref 15),ent P "watched.\x69mport" 208 (.ref 19),ent P "class._frozen_importlib.ModuleSpec" 218 (.ref 23),ent P "sys.modules.booked-epoch" 247 (.int 3 0),ent P "sys.modules.landed._collections" 248 (.bool true),ent P "\x69mport.later-laid._collections" 263 (.bool true),ent P "watched.library" 265 (.ref 28),ent P "watched.library-objects" 0 (.str "\x0d" 0),ent P "watched.library-deep._collections" 266 (.str "\x04\x00\x00\x0c\x04\x00\x00\x0c\x04\x00\x00\x03\x04\x00\x00\x0c\x08\x04dict\x02" 0),ent P "type.__subclasses__.OSError.0" 749 (.int 316 0),ent P "type.__subclasses__.OSError.n" 750 (.int 1 0)].toArray 12,slots:=[].toArray}),
 (3,{cls:=(.type "dict"),dict:=none,data:= .dict [ent P "__name__" 165 (.str "law_il0198_01" 1575),ent P "__doc__" 166 .none,ent P "__package__" 167 .none,ent P "__loader__" 168 (.builtin "__main__.__loader__#opaque"),ent P "__spec__" 169 .none,ent P "__annotations__" 170 (.ref 6),ent P "__builtins__" 171 (.ref 4),ent P "__file__" 173 (.str "/claim/cut.py" 172),ent P "__cached__" 174 .none,ent P "deque" 272 (.type "collections.deque"),ent P "_wall" 285 (.ref 39),ent P "_tuplegetter" 344 (.ref 78),ent P "Match" 472 (.ref 153),ent P "_calculate_ratio" 480 (.ref 163),ent P "SequenceMatcher" 666 (.ref 260),ent P "heappush" 677 (.ref 271),ent P "heappop" 687 (.ref 278),ent P "_siftdown" 699 (.ref 285),ent P "_siftup" 712 (.ref 292),ent P "_whence" 722 (.ref 299),ent P "_index" 730 (.ref 306),ent P "UnsupportedOperation" 752 (.ref 316),ent P "IOBase" 784 (.ref 336),ent P "BufferedIOBase" 802 (.ref 351),ent P "TextIOBase" 820 (.ref 363),ent P "BytesIO" 1082 (.ref 593),ent P "StringIO" 1369 (.ref 840),ent P "_kind" 1380 (.ref 849),ent P "_fspath" 1389 (.ref 856),ent P "_check_arg_types" 1399 (.ref 863),ent P "isabs" 1406 (.ref 870),ent P "join" 1417 (.ref 877),ent P "dirname" 1427 (.ref 884),ent P "shlex" 1574 (.ref 975),ent P "_law_dressed" 1582 (.ref 984),ent P "_law_line" 1594 (.ref 991),ent P "_law_read" 1604 (.ref 998),ent P "_law_parted" 1614 (.ref 1005),ent P "law" 1620 (.ref 1010)].toArray 39,slots:=[].toArray}),
 (4,{cls:=(.type "module"),dict:=(EU 0),data:= .plain,slots:=[].toArray}),
 (100,mkF (aH 4 4) "__new__" "Match.__new__" .none .none (.str "cpy313.difflib" 286) none (.ref 99)),
 (107,mkF (aH 4 5) "_make" "Match._make" .none .none (.str "cpy313.difflib" 286) (EU 110) (.ref 106)),
 (109,{cls:=(.type "classmethod"),dict:=(EU 108),data:= .fields [(.ref 107),(.bool false)].toArray,slots:=[].toArray}),
 (152,{cls:=(.type "dict"),dict:=none,data:= .dict [ent P "__module__" 352 (.str "cpy313.difflib" 286),ent P "__firstlineno__" 356 (.int 24 355),ent P "__doc__" 358 .none,ent P "__slots__" 360 (.ref 91),ent P "_fields" 364 (.ref 92),ent P "_field_defaults" 365 (.ref 93),ent P "__new__" 376 (.ref 154),ent P "_make" 398 (.ref 109),ent P "_replace" 409 (.ref 118),ent P "__replace__" 410 (.ref 118),ent P "__repr__" 418 (.ref 125),ent P "_asdict" 425 (.ref 132),ent P "__getnewargs__" 433 (.ref 139),ent P "__match_args__" 437 (.ref 140),ent P "a" 447 (.ref 142),ent P "b" 457 (.ref 145),ent P "size" 467 (.ref 148),ent P "__static_attributes__" 468 (.ref 150)].toArray 2,slots:=[].toArray}),
 (153,{cls:=(.type "type"),dict:=none,data:= .cls {name:="Match",bases:=[(.type "tuple")],mro:=[(.ref 153),(.type "tuple"),(.type "object")],ns:=152,qualname:="Match",hasDict:=false,slotNames:=[],subclasses:=[],abstract:=false,collection:=none,hasDel:=false},slots:=[(EU (.ref 83)),none,(EU (.str "Match" 345)),(EU (.str "Match" 353)),(EU .none),(EU (.bool false))].toArray}),
 (154,{cls:=(.type "staticmethod"),dict:=none,data:= .fields [(.ref 100)].toArray,slots:=[].toArray}),
 (171,{cls:=(.type "tuple"),dict:=none,data:= .seq [.none,(.str "" 496),(.str "" 497),(.bool true)].toArray 0,slots:=[].toArray}),
 (178,mkF (aH 6 1) "__init__" "SequenceMatcher.__init__" (.ref 171) .none (.str "cpy313.difflib" 286) none (.ref 177)),
 (185,mkF (aH 6 2) "set_seqs" "SequenceMatcher.set_seqs" .none .none (.str "cpy313.difflib" 286) none (.ref 184)),
 (192,mkF (aH 6 3) "set_seq1" "SequenceMatcher.set_seq1" .none .none (.str "cpy313.difflib" 286) none (.ref 191)),
 (199,mkF (aH 6 4) "set_seq2" "SequenceMatcher.set_seq2" .none .none (.str "cpy313.difflib" 286) none (.ref 198)),
 (206,mkF (aH 6 5) "__chain_b" "SequenceMatcher.__chain_b" .none .none (.str "cpy313.difflib" 286) none (.ref 205)),
 (207,{cls:=(.type "tuple"),dict:=none,data:= .seq [(.int 0 556),.none,(.int 0 557),.none].toArray 0,slots:=[].toArray}),
 (214,mkF (aH 6 6) "find_longest_match" "SequenceMatcher.find_longest_match" (.ref 207) .none (.str "cpy313.difflib" 286) none (.ref 213)),
 (221,mkF (aH 6 7) "get_matching_blocks" "SequenceMatcher.get_matching_blocks" .none .none (.str "cpy313.difflib" 286) none (.ref 220)),
 (259,{cls:=(.type "dict"),dict:=none,data:= .dict [ent P "__module__" 488 (.str "cpy313.difflib" 286),ent P "__firstlineno__" 492 (.int 71 491),ent P "__doc__" 494 .none,ent P "__init__" 509 (.ref 178),ent P "set_seqs" 519 (.ref 185),ent P "set_seq1" 528 (.ref 192),ent P "set_seq2" 537 (.ref 199),ent P "_SequenceMatcher__chain_b" 555 (.ref 206),ent P "find_longest_match" 583 (.ref 214),ent P "get_matching_blocks" 610 (.ref 221),ent P "get_opcodes" 617 (.ref 228),ent P "get_grouped_opcodes" 626 (.ref 236),ent P "ratio" 635 (.ref 243),ent P "quick_ratio" 642 (.ref 250),ent P "real_quick_ratio" 649 (.ref 257),ent P "__static_attributes__" 660 (.ref 258),ent P "__dict__" 662 (.ref 261),ent P "__weakref__" 664 (.ref 262)].toArray 3,slots:=[].toArray}),
 (260,{cls:=(.type "type"),dict:=none,data:= .cls {name:="SequenceMatcher",bases:=[(.type "object")],mro:=[(.ref 260),(.type "object")],ns:=259,qualname:="SequenceMatcher",hasDict:=true,slotNames:=[],subclasses:=[],abstract:=false,collection:=none,hasDel:=false},slots:=[none,none,(EU (.str "SequenceMatcher" 481)),(EU (.str "SequenceMatcher" 489)),(EU (.builtin "object.__new__")),(EU (.bool true))].toArray}),
 (271,mkF (top 8) "heappush" "heappush" .none .none (.str "cpy313.heapq" 667) none (.ref 270)),
 (278,mkF (top 9) "heappop" "heappop" .none .none (.str "cpy313.heapq" 667) none (.ref 277)),
 (285,mkF (top 10) "_siftdown" "_siftdown" .none .none (.str "cpy313.heapq" 667) none (.ref 284)),
 (292,mkF (top 11) "_siftup" "_siftup" .none .none (.str "cpy313.heapq" 667) none (.ref 291)),
 (306,mkF (top 14) "_index" "_index" .none .none (.str "io" 713) none (.ref 305)),
 (333,mkF (aH 16 1) "__new__" "IOBase.__new__" .none .none (.str "io" 713) none (.ref 332)),
 (335,{cls:=(.type "dict"),dict:=none,data:= .dict [ent P "__module__" 760 (.str "io" 765),ent P "__firstlineno__" 764 (.int 473 763),ent P "__new__" 775 (.ref 337),ent P "__static_attributes__" 776 (.ref 334),ent P "__dict__" 779 (.ref 338),ent P "__weakref__" 781 (.ref 339),ent P "__doc__" 782 .none].toArray 4,slots:=[].toArray}),
 (336,{cls:=(.type "type"),dict:=none,data:= .cls {name:="IOBase",bases:=[(.type "object")],mro:=[(.ref 336),(.type "object")],ns:=335,qualname:="IOBase",hasDict:=true,slotNames:=[],subclasses:=[(.ref 351),(.ref 363)],abstract:=false,collection:=none,hasDel:=false},slots:=[none,none,(EU (.str "IOBase" 753)),(EU (.str "IOBase" 761)),(EU .none),(EU (.bool true))].toArray}),
 (337,{cls:=(.type "staticmethod"),dict:=none,data:= .fields [(.ref 333)].toArray,slots:=[].toArray}),
 (362,{cls:=(.type "dict"),dict:=none,data:= .dict [ent P "__module__" 810 (.str "io" 815),ent P "__firstlineno__" 814 (.int 482 813),ent P "__static_attributes__" 817 (.ref 361),ent P "__doc__" 818 .none].toArray 2,slots:=[].toArray}),
 (363,{cls:=(.type "type"),dict:=none,data:= .cls {name:="TextIOBase",bases:=[(.ref 336)],mro:=[(.ref 363),(.ref 336),(.type "object")],ns:=362,qualname:="TextIOBase",hasDict:=true,slotNames:=[],subclasses:=[(.ref 840)],abstract:=false,collection:=none,hasDel:=false},slots:=[(EU (.ref 354)),none,(EU (.str "TextIOBase" 803)),(EU (.str "TextIOBase" 811)),(EU .none),(EU (.bool true))].toArray}),
 (592,{cls:=(.type "dict"),dict:=none,data:= .dict [ent P "__module__" 828 (.str "_io" 833),ent P "__firstlineno__" 832 (.int 484 831),ent P "__init__" 842 (.ref 380),ent P "_BytesIO__check" 849 (.ref 387),ent P "_BytesIO__line" 860 (.ref 394),ent P "closed" 868 (.ref 402),ent P "close" 875 (.ref 409),ent P "__enter__" 882 (.ref 416),ent P "__exit__" 890 (.ref 423),ent P "readable" 897 (.ref 430),ent P "writable" 904 (.ref 437),ent P "seekable" 911 (.ref 444),ent P "isatty" 918 (.ref 451),ent P "flush" 925 (.ref 458),ent P "fileno" 932 (.ref 465),ent P "detach" 939 (.ref 472),ent P "getvalue" 946 (.ref 479),ent P "getbuffer" 953 (.ref 486),ent P "tell" 960 (.ref 493),ent P "seek" 970 (.ref 501),ent P "truncate" 978 (.ref 509),ent P "read" 990 (.ref 517),ent P "read1" 1000 (.ref 525),ent P "readinto" 1010 (.ref 532),ent P "readinto1" 1018 (.ref 539),ent P "readline" 1028 (.ref 547),ent P "readlines" 1036 (.ref 555),ent P "__iter__" 1043 (.ref 562),ent P "__next__" 1051 (.ref 569),ent P "write" 1061 (.ref 576),ent P "writelines" 1069 (.ref 583),ent P "__repr__" 1076 (.ref 590),ent P "__static_attributes__" 1079 (.ref 591),ent P "__doc__" 1080 .none].toArray 2,slots:=[].toArray}),
 (593,{cls:=(.type "type"),dict:=none,data:= .cls {name:="BytesIO",bases:=[(.ref 351)],mro:=[(.ref 593),(.ref 351),(.ref 336),(.type "object")],ns:=592,qualname:="BytesIO",hasDict:=true,slotNames:=[],subclasses:=[],abstract:=false,collection:=none,hasDel:=false},slots:=[(EU (.ref 366)),none,(EU (.str "BytesIO" 821)),(EU (.str "BytesIO" 829)),(EU .none),(EU (.bool true))].toArray}),
 (603,{cls:=(.type "tuple"),dict:=none,data:= .seq [(.str "" 1097),(.str "\n" 1098)].toArray 0,slots:=[].toArray}),
 (610,mkF (aH 20 1) "__init__" "StringIO.__init__" (.ref 603) .none (.str "io" 713) none (.ref 609)),
 (617,mkF (aH 20 2) "__translated" "StringIO.__translated" .none .none (.str "io" 713) none (.ref 616)),
 (624,mkF (aH 20 3) "__check" "StringIO.__check" .none .none (.str "io" 713) none (.ref 623)),
 (638,mkF (aH 20 5) "__line" "StringIO.__line" .none .none (.str "io" 713) none (.ref 637)),
 (646,{cls:=(.type "property"),dict:=none,data:= .fields [(.ref 645),.none,.none,.none,(.str "closed" 1153),(.bool false)].toArray,slots:=[].toArray}),
 (654,{cls:=(.type "property"),dict:=none,data:= .fields [(.ref 653),.none,.none,.none,(.str "line_buffering" 1161),(.bool false)].toArray,slots:=[].toArray}),
 (662,{cls:=(.type "property"),dict:=none,data:= .fields [(.ref 661),.none,.none,.none,(.str "newlines" 1169),(.bool false)].toArray,slots:=[].toArray}),
 (670,{cls:=(.type "property"),dict:=none,data:= .fields [(.ref 669),.none,.none,.none,(.str "encoding" 1177),(.bool false)].toArray,slots:=[].toArray}),
 (678,{cls:=(.type "property"),dict:=none,data:= .fields [(.ref 677),.none,.none,.none,(.str "errors" 1185),(.bool false)].toArray,slots:=[].toArray}),
 (779,{cls:=(.type "tuple"),dict:=none,data:= .seq [(.int (-1) 1290)].toArray 0,slots:=[].toArray}),
 (786,mkF (aH 20 25) "read" "StringIO.read" (.ref 779) .none (.str "io" 713) none (.ref 785)),
 (787,{cls:=(.type "tuple"),dict:=none,data:= .seq [(.int (-1) 1302)].toArray 0,slots:=[].toArray}),
 (794,mkF (aH 20 26) "readline" "StringIO.readline" (.ref 787) .none (.str "io" 713) none (.ref 793)),
 (839,{cls:=(.type "dict"),dict:=none,data:= .dict [ent P "__module__" 1090 (.str "_io" 1095),ent P "__firstlineno__" 1094 (.int 654 1093),ent P "__init__" 1107 (.ref 610),ent P "_StringIO__translated" 1116 (.ref 617),ent P "_StringIO__check" 1123 (.ref 624),ent P "_StringIO__check_dot" 1130 (.ref 631),ent P "_StringIO__line" 1145 (.ref 638),ent P "closed" 1153 (.ref 646),ent P "line_buffering" 1161 (.ref 654),ent P "newlines" 1169 (.ref 662),ent P "encoding" 1177 (.ref 670),ent P "errors" 1185 (.ref 678),ent P "close" 1192 (.ref 685),ent P "__enter__" 1199 (.ref 692),ent P "__exit__" 1207 (.ref 699),ent P "readable" 1214 (.ref 706),ent P "writable" 1221 (.ref 713),ent P "seekable" 1228 (.ref 720),ent P "isatty" 1235 (.ref 727),ent P "flush" 1242 (.ref 734),ent P "fileno" 1249 (.ref 741),ent P "detach" 1256 (.ref 748),ent P "getvalue" 1263 (.ref 755),ent P "tell" 1270 (.ref 762),ent P "seek" 1280 (.ref 770),ent P "truncate" 1288 (.ref 778),ent P "read" 1300 (.ref 786),ent P "readline" 1310 (.ref 794),ent P "readlines" 1320 (.ref 802),ent P "__iter__" 1327 (.ref 809),ent P "__next__" 1335 (.ref 816),ent P "write" 1347 (.ref 823),ent P "writelines" 1355 (.ref 830),ent P "__repr__" 1362 (.ref 837),ent P "__static_attributes__" 1366 (.ref 838),ent P "__doc__" 1367 .none].toArray 2,slots:=[].toArray}),
 (840,{cls:=(.type "type"),dict:=none,data:= .cls {name:="StringIO",bases:=[(.ref 363)],mro:=[(.ref 840),(.ref 363),(.ref 336),(.type "object")],ns:=839,qualname:="StringIO",hasDict:=true,slotNames:=[],subclasses:=[],abstract:=false,collection:=none,hasDel:=false},slots:=[(EU (.ref 596)),none,(EU (.str "StringIO" 1083)),(EU (.str "StringIO" 1091)),(EU .none),(EU (.bool true))].toArray}),
 (892,{cls:=(.type "tuple"),dict:=none,data:= .seq [.none,.none,(.bool false),(.bool false)].toArray 0,slots:=[].toArray}),
 (899,mkF (aH 29 1) "__init__" "shlex.__init__" (.ref 892) .none (.str "cpy313.shlex" 1428) none (.ref 898)),
 (906,mkF (aH 29 2) "punctuation_chars" "shlex.punctuation_chars" .none .none (.str "cpy313.shlex" 1428) none (.ref 905)),
 (907,{cls:=(.type "property"),dict:=none,data:= .fields [(.ref 906),.none,.none,.none,(.str "punctuation_chars" 1464),(.bool false)].toArray,slots:=[].toArray}),
 (936,mkF (aH 29 6) "get_token" "shlex.get_token" .none .none (.str "cpy313.shlex" 1428) none (.ref 935)),
 (943,mkF (aH 29 7) "read_token" "shlex.read_token" .none .none (.str "cpy313.shlex" 1428) none (.ref 942)),
 (974,{cls:=(.type "dict"),dict:=none,data:= .dict [ent P "__module__" 1437 (.str "cpy313.shlex" 1428),ent P "__firstlineno__" 1441 (.int 923 1440),ent P "__doc__" 1443 .none,ent P "__init__" 1456 (.ref 899),ent P "punctuation_chars" 1464 (.ref 907),ent P "push_token" 1472 (.ref 914),ent P "push_source" 1482 (.ref 922),ent P "pop_source" 1490 (.ref 929),ent P "get_token" 1503 (.ref 936),ent P "read_token" 1514 (.ref 943),ent P "sourcehook" 1523 (.ref 950),ent P "error_leader" 1532 (.ref 958),ent P "__iter__" 1539 (.ref 965),ent P "__next__" 1547 (.ref 972),ent P "__static_attributes__" 1568 (.ref 973),ent P "__dict__" 1570 (.ref 976),ent P "__weakref__" 1572 (.ref 977)].toArray 3,slots:=[].toArray}),
 (975,{cls:=(.type "type"),dict:=none,data:= .cls {name:="shlex",bases:=[(.type "object")],mro:=[(.ref 975),(.type "object")],ns:=974,qualname:="shlex",hasDict:=true,slotNames:=[],subclasses:=[],abstract:=false,collection:=none,hasDel:=false},slots:=[none,none,(EU (.str "shlex" 1430)),(EU (.str "shlex" 1438)),(EU (.builtin "object.__new__")),(EU (.bool true))].toArray}),
 (984,mkF (top 31) "_law_dressed" "_law_dressed" .none .none (.str "law_il0198_01" 1575) none (.ref 983)),
 (991,mkF (top 32) "_law_line" "_law_line" .none .none (.str "law_il0198_01" 1575) none (.ref 990)),
 (998,mkF (top 33) "_law_read" "_law_read" .none .none (.str "law_il0198_01" 1575) none (.ref 997)),
 (1005,mkF (top 34) "_law_parted" "_law_parted" .none .none (.str "law_il0198_01" 1575) none (.ref 1004)),
 (1007,{cls:= .none,dict:=none,data:= .fields [].toArray,slots:=[].toArray}),
 (1009,{cls:=(.type "code"),dict:=none,data:= .fields [(.str "law" 1615),(.str "law" 1616),(.str "/claim/cut.py" 1617),(.int 1207 0),(.int 1 0),(.int 0 0),(.int 0 0),(.int 3 0),(.ref 1006),(.bool true),(.int 273 0),(.ref 1007),.none,.none,.none,(.ref 1008),(.int 1618 0),(.int 1207 0),(.str "/claim/cut.py" 1619)].toArray,slots:=[].toArray}),
 (1010,mkF (top 35) "law" "law" .none .none (.str "law_il0198_01" 1575) none (.ref 1009))]
noncomputable def dw:List (Addr×Value):=[(99,(.str "Match.__new__" 367)),
 (106,(.str "Match._make" 378)),
 (177,(.str "SequenceMatcher.__init__" 499)),
 (184,(.str "SequenceMatcher.set_seqs" 511)),
 (191,(.str "SequenceMatcher.set_seq1" 521)),
 (198,(.str "SequenceMatcher.set_seq2" 530)),
 (205,(.str "SequenceMatcher.__chain_b" 539)),
 (213,(.str "SequenceMatcher.find_longest_match" 559)),
 (220,(.str "SequenceMatcher.get_matching_blocks" 585)),
 (270,(.str "heappush" 670)),
 (277,(.str "heappop" 679)),
 (284,(.str "_siftdown" 689)),
 (291,(.str "_siftup" 701)),
 (305,(.str "_index" 724)),
 (332,(.str "IOBase.__new__" 768)),
 (609,(.str "StringIO.__init__" 1100)),
 (616,(.str "StringIO.__translated" 1109)),
 (623,(.str "StringIO.__check" 1118)),
 (637,(.str "StringIO.__line" 1132)),
 (785,(.str "StringIO.read" 1292)),
 (793,(.str "StringIO.readline" 1304)),
 (898,(.str "shlex.__init__" 1446)),
 (905,(.str "shlex.punctuation_chars" 1458)),
 (935,(.str "shlex.get_token" 1492)),
 (942,(.str "shlex.read_token" 1505)),
 (983,(.str "_law_dressed" 1578)),
 (990,(.str "_law_line" 1584)),
 (997,(.str "_law_read" 1596)),
 (1004,(.str "_law_parted" 1606)),
 (1009,(.str "law" 1616))]
noncomputable def jB(o:Option Obj):Option Value:=match o with
 |some ⟨_,_,.fields vs,_⟩=>vs[1]?
 |_=>none
@[irreducible] noncomputable def W0(w:FL):Option (Shared×SharedT):=kT dA E9 w 14220
theorem xL(w:FL):W0 w=kT dA E9 w 14220:=by unfold W0;rfl
noncomputable def xoF(x:Option (Shared×SharedT))(i:Nat):Obj:=match x with
 |some x=>(x.2.tree.get i).getD default
 |none=>default
noncomputable def xo(w:FL)(i:Nat):Obj:=xoF (W0 w) i
noncomputable def tr(l:List (Addr×Obj))(f:Nat->Obj)(n:Nat):Heap:=⟨((F8 n).map λi=>match l.lookup i with|some o=>o|none=>f i).toArray,{}⟩
noncomputable def K0(P:F1):List (Addr×Obj):=(K P).filter λp=>!fx.contains p.1
noncomputable def H1(w:FL):Heap:=tr (K0 w.params) (xo w) 1011
theorem dM{l:List (Addr×Obj)}{a:Addr}{o:Obj}(h:l.lookup a=EU o):(a,o)∈l:=by
 induction l with
 |nil=>cases h
 |cons p r ih=>
  obtain ⟨b,x⟩:=p;simp only[List.lookup] at h;split at h
  ·rename_i q;cases h;rw[beq_iff_eq.mp q];exact .head _
  ·exact .tail _ (ih h)
theorem AE{T:BT}{l:List (Addr×Obj)}{f:Nat->Obj}{n:Nat}(hk:∀p∈l,T.get p.1=EU p.2)(hf:∀i,f i=(T.get i).getD default):absHeap T n {}=tr l f n:=by
 refine congrArg (λx:List Obj=>Heap.mk x.toArray {}) (?_:(F8 n).map (λi=>(T.get i).getD default)=(F8 n).map λi=>match l.lookup i with|some o=>o|none=>f i);refine List.map_congr_left λi _=>?_
 have key:∀y:Option Obj,l.lookup i=y->(T.get i).getD default=match y with|some o=>o|none=>f i:=by
  intro y hy
  cases y with
  |some o=>exact congrArg (λz:Option Obj=>z.getD default) (hk (i,o) (dM hy))
  |none=>exact (hf i).symm
 exact key _ rfl
theorem CY{w:FL}{s₀:Shared}{S:SharedT}(e:W0 w=EU (s₀,S))(i:Nat):xo w i=(S.tree.get i).getD default:=congrArg (λx=>xoF x i) e
theorem Cd{S:SharedT}{n:Nat}(hn:S.n=n)(hl:S.life={}):S.abs.heap=absHeap S.tree n {}:=by
 obtain ⟨T,n',life,gs,d,t,os⟩:=S;dsimp only at hn hl;subst hn hl;rfl
theorem Bl{w:FL}{s₀:Shared}{S:SharedT}(e:W0 w=EU (s₀,S))(hn:S.n=1011)(hl:S.life={})
 (hk:∀p∈K w.params,(S.tree.get p.1).map (fT p.1)=EU p.2):S.abs.heap=H1 w:=(Cd hn hl).trans (AE (λp hp=>by
 obtain ⟨hp,hd⟩:=GD.mp hp;have:=hk p hp;unfold fT at this;rw[Gb] at hd;simp only[hd] at this;simpa using this) (CY e))
noncomputable abbrev A7(q:Program)(loose:List Str):Prop:=∀(w:FL) (d:Drawn) (t:Nat) (os:OsState),
 (openSeen q loose (importedModules E9.main.body) (λ_=>true) true ⟨H1 w, #[],d,t,os⟩,namesBound E9 (H1 w))=(openGood q loose,true)
noncomputable def kAs:List Addr:=[0,1,2,3,4,100,107,109,152,153,154,171,178,185,192,199,206,207,214,221,259,260,271,278,285,292,306,333,335,336,337,362,363,592,593,603,610,617,624,638,646,654,662,670,678,779,786,787,794,839,840,892,899,906,907,936,943,974,975,984,991,998,1005,1007,1009,1010]
theorem uO(P:F1):kAs=(K P).map (·.1):=rfl
noncomputable def obs(s:Shared):List (Option Obj)×List (Option Value):=(kAs.map λa=>(s.heap.get? a).map (fT a),dw.map λp=>jB (s.heap.get? p.1))
noncomputable def mE(w:FL):List (Option Obj)×List (Option Value):=((K w.params).map λp=>EU p.2,dw.map λp=>EU p.2)
structure Says (w:FL) (h:Heap):Prop where
 k:∀p∈K w.params,∃v,h.get? p.1=EU (d6 p.1 v p.2)
 c:∀p∈dw,jB (h.get? p.1)=EU p.2
theorem yF(w:FL)(s:Shared)(e:obs s=mE w):Says w s.heap:=by
 obtain ⟨a,b⟩:=Prod.mk.inj e;rw[uO w.params,FS] at a
 exact ⟨λp hp=>by
  have:=List.map_inj_left.mp a p hp;obtain ⟨o,ho,hq⟩:=Ge.mp this;obtain ⟨v,hv⟩:=wy p.1 o
  exact ⟨v,by rw[ho,←hq,←hv]⟩,λp hp=>by
  have:=List.map_inj_left.mp b p hp;exact this⟩
theorem g6{o:Option Obj}{v:Value}(h:jB o=EU v):∃x,o=EU x:=by
 cases o with
 |none=>cases h
 |some x=>exact ⟨x,rfl⟩
theorem lK(w:FL)(h h':Heap)(x:Says w h)(k:∀b o,h.get? b=EU o->h'.get? b=EU o):Says w h':=
 ⟨λp hp=>by
  obtain ⟨v,hv⟩:=x.k p hp
  exact ⟨v,k _ _ hv⟩,λp hp=>by
  have:=x.c p hp;obtain ⟨o,ho⟩:=g6 this;rw[k _ _ ho,←ho];exact this⟩
theorem zi{q:Program}{loose:List Str}
 (A:∀w:FL,(W0 w).map (λx=>((x.1.heap.isNs mainGlobals&&x.1.gens.size==0),
  (staticsOk (importedModules E9.main.body) x.1.heap x.2.abs.heap&&laidKept x.1.heap x.2.abs.heap),
  x.2.n,x.2.life,x.2.gens,(K w.params).map (λp=>(x.2.tree.get p.1).map (fT p.1)),dw.map (λp=>jB (x.2.tree.get p.1))))=
  EU (true,true,1011,({}:Life),(#[]:Array GenState),(K w.params).map (λp=>EU p.2),dw.map (λp=>EU p.2)))
 (Lk:A7 q loose) (al:∀P,(K P).all (λp=>decide (p.1<1011)&& !p.2.isFreed)=true) (cl:dw.all (λp=>decide (p.1<1011))=true):
 LeftO E9 q loose (λ_=>true) obs mE 14220:=by
 refine LeftO.of_whole λw=>?_;rw[←xL w];obtain ⟨⟨s₀,S⟩,e,e'⟩:=Ge.mp (A w);rw[e];simp only[Prod.mk.injEq] at e';obtain ⟨l1,l2,l3,l4,l5,l6,l7⟩:=e';have hk:∀p∈K w.params,(S.tree.get p.1).map (fT p.1)=EU p.2:=λp hp=>List.map_inj_left.mp l6 p hp;have hc:∀p∈dw,jB (S.tree.get p.1)=EU p.2:=λp hp=>List.map_inj_left.mp l7 p hp;have hh:=Bl e l3 l4 hk
 have hs:S.abs=⟨H1 w, #[],S.drawn,S.toks,S.os⟩:=by
  rw[←hh,←l5];rfl
 obtain ⟨k1,k2⟩:=Prod.mk.inj (Lk w S.drawn S.toks S.os)
 have g:∀a o,a<1011->o.isFreed=false->S.tree.get a=EU o->S.abs.heap.get? a=EU o:=λa o h1 h2 h3=>by
  obtain ⟨T,n,life,gs,d,t,os⟩:=S;dsimp only at l3 h3;subst l3;show (absHeap T 1011 life).get? a=EU o;rw[abs_get h1 h3];obtain ⟨c,dd,dt,sl⟩:=o;cases dt<;>first|rfl|cases h2
 rw[Option.map_some];refine congrArg EU ?_;simp only[Prod.mk.injEq];refine ⟨l1,?_,?_,?_⟩
 ·simp only[Fd] at l2⊢;refine ⟨⟨⟨l2.1,?_⟩,?_⟩,l2.2⟩
  ·rw[hs];exact k2
  ·rw[hs];rfl
 ·rw[hs];exact k1
 ·unfold obs mE;simp only[Prod.mk.injEq];constructor
  ·rw[uO w.params,FS];refine List.map_congr_left λp hp=>?_;have z:=Fn.mp (al w.params) p hp;simp only[Fd,decide_eq_true_eq,Gb] at z;obtain ⟨o,ho,hq⟩:=Ge.mp (hk p hp);have hf:o.isFreed=false:=tu (a:=p.1) (by rw[hq];exact z.2);show (S.abs.heap.get? p.1).map (fT p.1)=EU p.2;rw[g _ _ z.1 hf ho,Option.map_some,hq]
  ·refine List.map_congr_left λp hp=>?_;have z:=Fn.mp cl p hp;simp only[decide_eq_true_eq] at z;have y:=hc p hp;obtain ⟨o,ho⟩:=g6 y;rw[ho] at y
   have hf:o.isFreed=false:=by
    obtain ⟨c,dd,dt,sl⟩:=o;cases dt<;>first|rfl|cases y
   rw[g _ _ z hf ho];exact y
set_option maxHeartbeats 0
noncomputable def q:Program:={E9 with main:={E9.main with body:=[top 35]}}
noncomputable def loose:List Str:=["deque","_wall","_tuplegetter","Match","_calculate_ratio","SequenceMatcher","heappush","heappop","_siftdown","_siftup","_whence","_index","UnsupportedOperation","IOBase","BufferedIOBase","TextIOBase","BytesIO","StringIO","_kind","_fspath","_check_arg_types","isabs","join","dirname","shlex","_law_dressed","_law_line","_law_read","_law_parted"]
noncomputable def C1:Stmt->Pos
 | .FunctionDef _ _ _ _ _ _ _ _ _ p=>p
 |_=>mr
noncomputable def sZ:PySem.DefRec:={name:="law",params:=uf (top 35),body:=cu (top 35),scope:=b9 (top 35),pos:=C1 (top 35)}
noncomputable def lookW(l:OpenLaw):Bool:=l.wellSaid
lay_quick lookW
theorem Db:PySem.W.Fast.tw3316332872946070370 Fm=true:=by kernel_rfl
theorem vS:Fm.wellSaid=true:=(congrFun PySem.W.Fast.te3316332872946070370 Fm).trans Db
theorem hd(left:LeftO E9 q loose (λ_=>true) obs mE 14220)
 (call:WalkO q loose (λ_ _=>True) Says Fm.row.toRowW sZ [] (λf vs=>PySem.call f vs)):Fm.Holds:=by
 refine holds_law vS λvS=>?_;refine PySem.W.holds_open (r:=Fm.row) (q:=q) (loose:=loose) (Xt:=λ_=>true) (XP:=λ_ _=>True) (Yf:=obs) (Ya:=mE) (YP:=Says) (d:=sZ) (kwd:=[]) (N:=14220)
  left yF lK (λ_ _=>trivial) (λ_ _ _ _ _=>trivial) (by rfl) (by rfl) (by rfl) (λs _=>recFacts_of (by rfl)) (by rfl) vS ?_ ⟨rfl,rfl,rfl,rfl,rfl,by decide+kernel⟩ ?hw call
 ·decide+kernel
 case hw=>w_witness2
set_option maxHeartbeats 0
noncomputable def je(id:String):Option Builtin:= @Bool.rec (λ_=>Option Builtin) (PySem.W.Fast.tw14364793385576792824 id) (EU s6) (Nat.beq (PySem.W.Fast.tw13482112738370960269 id) 29827186395103491166823348853)
theorem uU:PySem.treeTable=je:=by
 rw[i6];funext id;unfold dA je;rw[←PySem.W.Fast.te14364793385576792824,←PySem.W.Fast.te13482112738370960269];rfl
noncomputable def Bg(_:Str):Type:=Unit
noncomputable def tD:Stmt->Str
 | .ClassDef _ _ _ (.Expr (.Constant (.str d) _ _) _::_) _ _ _ _ _ _ _=>d
 |_=>EW ""
noncomputable def zY(d:Str):Stmt->Stmt
 | .ClassDef a1 a2 a3 (.Expr (.Constant (.str _) k p) p'::r) a5 a6 a7 a8 a9 a10 a11=> .ClassDef a1 a2 a3 (.Expr (.Constant (.str d) k p) p'::r) a5 a6 a7 a8 a9 a10 a11
 |s=>s
noncomputable def rQ(p:Program)(d:Str):Program:={p with main:={p.main with body:=p.main.body.set 6 (zY d (top 6))}}
noncomputable def Cn{l:List Char}(_:Bg (EW (String.ofList l))):List Char:=l
noncomputable def v8:List Char:=Cn (l:=_) (show Bg (tD (top 6)) from ())
theorem yJ:tD (top 6)=EW (String.ofList v8):=by kernel_rfl
theorem vB:E9=rQ E9 (tD (top 6)):=by kernel_rfl
noncomputable def pQ:Program:=rQ E9 ⟨(v8.map Char.toNat).toArray⟩
theorem CG:E9=pQ:=vB.trans (congrArg _ (yJ.trans (PySem.W.Fast.ofString_ofList v8)))
noncomputable def lhsA(p:Program)(k:F1->List (Addr×Obj))(cs:List (Addr×Value))(tb:String->Option Builtin)(w:FL):=(kT tb p w 14220).map (λx=>((x.1.heap.isNs mainGlobals&&x.1.gens.size==0),
 (staticsOk (importedModules p.main.body) x.1.heap x.2.abs.heap&&laidKept x.1.heap x.2.abs.heap),
 x.2.n,x.2.life,x.2.gens,(k w.params).map (λp=>(x.2.tree.get p.1).map (fT p.1)),cs.map (λp=>jB (x.2.tree.get p.1))))
noncomputable def rhsA(k:F1->List (Addr×Obj))(cs:List (Addr×Value))(w:FL):=EU (true,true,1011,({}:Life),(#[]:Array GenState),(k w.params).map (λp=>EU p.2),cs.map (λp=>EU p.2))
noncomputable def lhsL(p q:Program)(l:List Str)(k:F1->List (Addr×Obj))(f:Nat->Obj)(w:FL)(d:Drawn)(t:Nat)(os:OsState):=(openSeen q l (importedModules p.main.body) (λ_=>true) true ⟨tr (k w.params) f 1011, #[],d,t,os⟩,namesBound p (tr (k w.params) f 1011))
noncomputable def rhsL(q:Program)(l:List Str):=(openGood q l,true)
lay_quick lhsA rhsA lhsL rhsL
theorem Dq(w:FL):PySem.W.Fast.tw16477793538883602288 pQ K dw je w=PySem.W.Fast.tw17706074898408431132 K dw w:=by kernel_rfl
theorem Dl(f:Nat->Obj)(w:FL)(d:Drawn)(t:Nat)(os:OsState):PySem.W.Fast.tw17105402147046251774 E9 q loose K0 f w d t os=PySem.W.Fast.tw9993069677470219790 q loose:=by kernel_rfl
theorem eqA(w:FL):lhsA E9 K dw je w=rhsA K dw w:=by
 rw[PySem.W.Fast.te16477793538883602288,PySem.W.Fast.te17706074898408431132,congrArg PySem.W.Fast.tw16477793538883602288 CG];exact Dq w
theorem eqL(f:Nat->Obj)(w:FL)(d:Drawn)(t:Nat)(os:OsState):lhsL E9 q loose K0 f w d t os=rhsL q loose:=by
 rw[PySem.W.Fast.te17105402147046251774,PySem.W.Fast.te9993069677470219790];exact Dl f w d t os
theorem Bk:dA=je:=i6.symm.trans uU
theorem al(P:F1):(K P).all (λp=>decide (p.1<1011)&& !p.2.isFreed)=true:=by kernel_rfl
theorem cl:dw.all (λp=>decide (p.1<1011))=true:=by kernel_rfl
theorem left:LeftO E9 q loose (λ_=>true) obs mE 14220:=by
 refine zi (λw=>?_) (λw d t os=>eqL (xo w) w d t os) al cl;rw[xL,Bk];exact eqA w
theorem head(call:WalkO q loose (λ_ _=>True) Says Fm.row.toRowW sZ [] (λf vs=>PySem.call f vs)):Fm.Holds:=hd left call
def zNm(s:String):Lean.Name:=if s.front== '.' then ("Lean.Parser.Tactic" ++s).toName else if s.front== ',' then ("Lean.Parser.Term." ++s.drop 1).toName else s.toName
def zSt(as:Array Gv)(k:List (Lean.Name×Array Gv))(t:String):List (Lean.Name×Array Gv):=
 let d:=(t.drop 1).copy
 let c:=t.front
 if c== '(' then (zNm d, #[])::k
 else match k with
  |(n,a)::r=>if c== ')' then (match r with
   |(m,b)::r=>(m,b.push (.node .none n a))::r
   |_=>k)
   else (n,a.push (if c== '$' then as[d.toNat!]! else if c== '\'' then Lean.mkIdent d.toName else .atom .none (if c.val==34 then d else t)))::r
  |_=>k
def zTp(s:String)(as:Array Gv):Gv:=
 match (s.splitOn " ").foldl (zSt as) [(`x, #[])] with
 | [(_,a)]=>a[0]!
 |_=> .missing
def zTk:String:="a (.withReducible with_reducible (.tacticSeq (.tacticSeq1Indented (null (.assumption assumption ) ) ) ) )\nA (.assumption assumption )\nw (.withReducible with_reducible (.tacticSeq (.tacticSeq1Indented (null (.tacticRfl rfl ) ) ) ) )\nr (.withUnfoldingAll with_unfolding_all (.tacticSeq (.tacticSeq1Indented (null (.tacticRfl rfl ) ) ) ) )\nx (.withUnfoldingAll with_unfolding_all (.tacticSeq (.tacticSeq1Indented (null (.exact exact 'rfl ) ) ) ) )\nt (.withUnfoldingAll with_unfolding_all (.tacticSeq (.tacticSeq1Indented (null (.exact exact 'trivial ) ) ) ) )\nf (.withUnfoldingAll with_unfolding_all (.tacticSeq (.tacticSeq1Indented (null (.exact exact (,app 'Eq.refl (null 'false ) ) ) ) ) ) )\nk (tacticKernel_rfl kernel_rfl )\no (.omega omega (.optConfig (null ) ) )\nd (.first first (null (group | (.tacticSeq (.tacticSeq1Indented (null (.exact exact (,app 'of_decide_eq_true (null (,app 'Eq.refl (null 'true ) ) ) ) ) ) ) ) ) (group | (.tacticSeq (.tacticSeq1Indented (null (.decide decide (.optConfig (null (.configItem (.negConfigItem - 'kernel ) ) ) ) ) ) ) ) ) ) )\nh (.exact exact (,app (,dotIdent . 'head ) (null (,hole _ ) ) ) )\ni (.intro intro (null (,hole _ ) ) )\nj (.intro intro (null (,hole _ ) (,hole _ ) ) )\ny (.paren \"( (.tacticSeq (.tacticSeq1Indented (null (.intro intro (null 'hh ) ) ; (.cases cases (null (.elimTarget (null ) 'hh ) ) (null ) (null ) ) ) ) ) \") )\nb (.exact exact 'sbt )\nc (.exact exact 'sbnf )\nn (.paren \"( (.tacticSeq (.tacticSeq1Indented (null (.«tactic_<;>_» (.paren \"( (.tacticSeq (.tacticSeq1Indented (null (.withReducible with_reducible (.tacticSeq (.tacticSeq1Indented (null (.refine refine (,app 'ite_both (null (,byTactic by (.tacticSeq (.tacticSeq1Indented (null (.withReducible with_reducible (.tacticSeq (.tacticSeq1Indented (null (.assumption assumption ) ) ) ) ) ) ) ) ) (,syntheticHole ? _ ) (,syntheticHole ? _ ) ) ) ) ) ) ) ) ) ) ) \") ) <;> (.intro intro (null (,hole _ ) (,hole _ ) ) ) ) ) ) ) \") )\nz (.paren \"( (.tacticSeq (.tacticSeq1Indented (null (.tacticTry_ try (.tacticSeq (.tacticSeq1Indented (null (.simp simp (.optConfig (null ) ) (null ) (null only ) (null [ (null (.simpLemma (null ) (null ) 'str_length_append ) ) ] ) (null ) ) ) ) ) ) ; (.rwSeq rw (.optConfig (null ) ) (.rwRuleSeq [ (null (.rwRule (null ) 'sizeLine_eq ) ) ] ) (null ) ) ; (.omega omega (.optConfig (null ) ) ) ) ) ) \") )\n! (.fail fail (null ) )\n? (.paren \"( (.tacticSeq (.tacticSeq1Indented (null (.intro intro (null 'Q 'hq ) ) ; (.specialize specialize $0 ) ; (.exact exact 'hq ) ) ) ) \") )\n@ (.specialize specialize $0 )\n1 (.exact exact (,app 'of_decide_eq_true (null (,byTactic by (.tacticSeq (.tacticSeq1Indented (null (tacticKernel_rfl kernel_rfl ) ) ) ) ) ) ) )\n2 (.tacticRfl rfl )\n3 (.withUnfoldingAll with_unfolding_all (.tacticSeq (.tacticSeq1Indented (null (.tacticTrivial trivial ) ) ) ) )\n4 (.simp simp (.optConfig (null ) ) (null ) (null ) (null ) (null ) )"
def zLn(s k:String):String:=match (s.splitOn "\n").find? (·.startsWith k) with
 |some l=>(l.drop k.length).copy
 |none=>""
def tk(c:String):Gv:=
 let l:=zLn zTk (c++ " ")
 if l !="" then zTp l #[] else
 let e:=Gv.mkStrLit (if c.front== '?'||c.front== '@' then (c.drop 1).copy else c)
 zTp (zLn zTk (if c.front== '?' then "? " else "@ ")) #[e]
def sq:List String->Gv
 | []=>zTp "(.skip skip )" #[]
 |p::ps=>zTp "(.paren \"( (.tacticSeq (.tacticSeq1Indented (null (.paren \"( (.tacticSeq (.tacticSeq1Indented (null (.focus focus (.tacticSeq (.tacticSeq1Indented (null $0 ) ) ) ) ) ) ) \") ) ; $1 ) ) ) \") )" #[tk p,sq ps]
def al1:List String->Gv
 | []=>tk "!"
 |n::ps=>
  let d:=Lean.mkIdent (n.drop 1).copy.toName
  let i:=Lean.mkIdent n.toName
  if ps.isEmpty then (if n.length==1||n.front== '?'||n.front== '@' then tk n else zTp "(.withReducible with_reducible (.tacticSeq (.tacticSeq1Indented (null (.refine refine (,app $0 (null (,syntheticHole ? _ ) ) ) ) ) ) ) )" #[i])
  else if ps==["!"] then zTp "(.withReducible with_reducible (.tacticSeq (.tacticSeq1Indented (null (.exact exact (,app $0 (null (,ellipsis .. ) ) ) ) ) ) ) )" #[i]
  else if n.front== '=' then
   let l:=(ps.takeWhile (· !=">")).map λp=>zTp "(,byTactic by (.tacticSeq (.tacticSeq1Indented (null $0 ) ) ) )" #[tk p]
   zTp "(.paren \"( (.tacticSeq (.tacticSeq1Indented (null (.withReducible with_reducible (.tacticSeq (.tacticSeq1Indented (null (.refine refine (,app $0 $1 ) ) ) ) ) ) ; $2 ) ) ) \") )" #[d,Lean.mkNullNode (l.toArray.push (zTp "(,syntheticHole ? _ )" #[])),sq ((ps.dropWhile (· !=">")).drop 1)]
  else zTp (if n.front== ':' then "(.paren \"( (.tacticSeq (.tacticSeq1Indented (null (.paren \"( (.tacticSeq (.tacticSeq1Indented (null (.withReducible with_reducible (.tacticSeq (.tacticSeq1Indented (null (.refine refine (,app $0 (null (,syntheticHole ? _ ) ) ) ) ) ) ) ) ) ) ) \") ) ; $1 ) ) ) \") )" else if n.front== '~' then "(.paren \"( (.tacticSeq (.tacticSeq1Indented (null (.paren \"( (.tacticSeq (.tacticSeq1Indented (null (.apply apply $0 ) ) ) ) \") ) ; $1 ) ) ) \") )" else "(.paren \"( (.tacticSeq (.tacticSeq1Indented (null (.paren \"( (.tacticSeq (.tacticSeq1Indented (null (.withReducible with_reducible (.tacticSeq (.tacticSeq1Indented (null (.apply apply $0 ) ) ) ) ) ) ) ) \") ) ; $1 ) ) ) \") )") #[if n.front== ':'||n.front== '~' then d else i,sq ps]
def al2(l:List String):Gv:=zTp "(.first first $0 )" #[Lean.mkNullNode (l.toArray.map λs=>zTp "(group | (.tacticSeq (.tacticSeq1Indented (null $0 ) ) ) )" #[al1 (s.splitOn " ")])]
def wk(t:String)(s:Lean.TSyntax `str):Lean.MacroM (Lean.TSyntax `tactic):=
 match (t.splitOn "\n").find? λl=>l.startsWith (s.getString++ "|") with
 |none=>Lean.Macro.throwUnsupported
 |some l=>pure ⟨al2 ((l.splitOn "|").drop 1)⟩
def ifm(l r:Lean.Name)(h:Lean.TSyntax `term):Lean.MacroM (Lean.TSyntax `tactic):=
 pure ⟨zTp "(.paren \"( (.tacticSeq (.tacticSeq1Indented (null (.first first (null (group | (.tacticSeq (.tacticSeq1Indented (null (.withReducible with_reducible (.tacticSeq (.tacticSeq1Indented (null (.refine refine (,app $0 (null $2 (,syntheticHole ? _ ) ) ) ) ) ) ) ) ) ) ) ) (group | (.tacticSeq (.tacticSeq1Indented (null (.withReducible with_reducible (.tacticSeq (.tacticSeq1Indented (null (.refine refine (,app 'Eq.trans (null (,app $1 (null $2 ) ) (,syntheticHole ? _ ) ) ) ) ) ) ) ) ) ) ) ) (group | (.tacticSeq (.tacticSeq1Indented (null (.rewriteSeq rewrite (.optConfig (null ) ) (.rwRuleSeq [ (null (.rwRule (null ) (,app $1 (null $2 ) ) ) ) ] ) (null ) ) ) ) ) ) ) ) ; (.tacticTry_ try (.tacticSeq (.tacticSeq1Indented (null (.withReducible with_reducible (.tacticSeq (.tacticSeq1Indented (null (.tacticRfl rfl ) ) ) ) ) ) ) ) ) ) ) ) \") )" #[Lean.mkIdent l,Lean.mkIdent r,h]⟩
@[elab_as_elim] theorem rwl{α:Sort u}{a b:α}{p:α->Prop}(h:a=b)(x:p b):p a:=h▸x
@[elab_as_elim] theorem rwr{α:Sort u}{a b:α}{p:α->Prop}(h:a=b)(x:p a):p b:=h▸x
def rw1(s:Gv):Gv:=
 let w:=zTp "(.rewriteSeq rewrite (.optConfig (null ) ) (.rwRuleSeq [ (null $0 ) ] ) (null (.location at (.locationHyp (null (.locationType (patternIgnore (token.«⊢» ⊢ ) ) ) ) ) ) ) )" #[s]
 if (s.find? (·.isOfKind `Lean.Parser.Term.syntheticHole)).isSome then w else zTp "(.first first (null (group | (.tacticSeq (.tacticSeq1Indented (null (.withReducible with_reducible (.tacticSeq (.tacticSeq1Indented (null (.refine refine (,app $0 (null (,app $1 (null (,ellipsis .. ) ) ) (,syntheticHole ? _ ) ) ) ) ) ) ) ) ) ) ) ) (group | (.tacticSeq (.tacticSeq1Indented (null $2 ) ) ) ) ) )" #[Lean.mkIdent (if s[0].getNumArgs==0 then `rwl else `rwr),s[1],w]
def rwm(s:Gv):Lean.MacroM (Lean.TSyntax `tactic):=do
 unless s.getHeadInfo matches .original .. do Lean.Macro.throwUnsupported
 pure ⟨zTp "(.paren \"( (.tacticSeq (.tacticSeq1Indented (null (.paren \"( (.tacticSeq (.tacticSeq1Indented $0 ) ) \") ) ; (.tacticTry_ try (.tacticSeq (.tacticSeq1Indented (null (.withReducible with_reducible (.tacticSeq (.tacticSeq1Indented (null (.tacticRfl rfl ) ) ) ) ) ) ) ) ) ) ) ) \") )" #[Lean.mkNullNode (s.getSepArgs.foldl (λa r=>(a.push (rw1 r)).push (.atom .none ";")) #[])]⟩
def sbm(s:Gv):Lean.MacroM (Lean.TSyntax `term):=match (if s.getNumArgs==1 then s[0].isInterpolatedStrLit? else none) with
 |some c=>pure ⟨zTp "(,byTactic by (.tacticSeq (.tacticSeq1Indented (null $0 ) ) ) )" #[tk c]⟩
 |none=>Lean.Macro.throwUnsupported
def EC:String:="(.first first (null (group | (.tacticSeq (.tacticSeq1Indented (null (.exact exact (,app 'of_decide_eq_true (null (,app 'Eq.refl (null 'true ) ) ) ) ) ) ) ) ) (group | (.tacticSeq (.tacticSeq1Indented (null (.decide decide (.optConfig (null (.configItem (.negConfigItem - 'kernel ) ) ) ) ) ) ) ) ) ) )"
def Dy:String:="(.exact exact (,app 'of_decide_eq_true (null (,byTactic by (.tacticSeq (.tacticSeq1Indented (null (tacticKernel_rfl kernel_rfl ) ) ) ) ) ) ) )"
def csm(k:Gv)(s:String)(l:Array Gv):Lean.MacroM (Lean.TSyntax `tactic):=do
 unless k.getHeadInfo matches .original .. do Lean.Macro.throwUnsupported
 pure ⟨zTp s l⟩
def csA:String:="(.first first (null (group | (.tacticSeq (.tacticSeq1Indented (null (.paren \"( (.tacticSeq (.tacticSeq1Indented (null (.replace replace (,letDecl (,letIdDecl (,letId $0 ) (null ) (null ) := (,app 'Option.some.inj (null $0 ) ) ) ) ) ; (.subst subst (null $0 ) ) ) ) ) \") ) ) ) ) ) (group | (.tacticSeq (.tacticSeq1Indented (null (.cases cases (null (.elimTarget (null ) $0 ) ) (null ) (null ) ) ) ) ) ) ) )"
def csB:String:="(.first first (null (group | (.tacticSeq (.tacticSeq1Indented (null (.refine refine (,app 'rwl (null (,typeAscription (,hygienicLParen \"( (hygieneInfo '[anonymous] ) ) $1 : (null $0 ) \") ) (,syntheticHole ? _ ) ) ) ) ) ) ) ) (group | (.tacticSeq (.tacticSeq1Indented (null (.cases cases (null (.elimTarget (null ) (,show show $0 (,fromTerm from $1 ) ) ) ) (null ) (null ) ) ) ) ) ) ) )"
def wA:String:="ne|a|Ne.symm a|bV f|y\nlk|a|cD lk|DS f lk|lkI A A x\nnk|a|zd !|Ez f nk|A5 !\nsg|A|Sg.put_same !|zk ne sg\nat|Bv !|eH !|Ar !\nme|Bc !|wW !|BV !\nout|t|r|A\ntt|w|a|sE !|decide_eq_true o|uN ff\nff|w|a|Bo !|A2 !|Bn !|zR !|BU !|Bp !|decide_eq_false o|u9 tt\nt0|w|a|sE !|uN f0|b|Ec f\nf0|w|a|Bo !|A2 !|Bn !|zR !|BU !|Bp !|u9 t0|sbf f|c|EH !|decide_eq_false d\nlen1|wm len1|o|d\nlen|~mO len1\nev|y5 A A A x|zC a lk|zN !|zH !|yw !|yx !|BG ev ev eo|ye r ev ea|BJ r ev ev eo|Bw ev|vV t es r|?WEl|?WEg\nes|ya !|vU ev es\neo|CW !|CP !|CZ !|DZ !|Da !|CE !|Cw !|Dp !|EA !|Ey !|DB !|Ej !|ES !|By !\nea|?At\net|Bm r ev ev eo|A9 et|w8 ev r ?WT\ns|:hIf IF|:hTh TH|:hWE WE|:hAt At|:Dk Put|:hWA WA|:hWB WB|:hWT WT|:hW2 W2|:Ei S1|:hWS S|:hWC C|ac|ag|bY|fE|=xK r|xD|fI|fF|exI|=D0 A|=Eo A|@other\nIF|=ift t0|=aD f0\nTH|ae|cY|xt|t8\nWE|=EV.use ev|@WEl|=bh r|:hNm Nm|aq|aI|fJ|eJ|ar|=lN r|xW|xA|=cW t|=ca t|@WEg\nNm|=be A A A x|=ai a lk|@WEg\nAt|@Atl|=o3 a sg sg nk at k out\nPut|@Putl|=pn sg sg at k len\nWA|@WAl|:hWN WN|=j5 a|=iI a t r\nWN|=cG A A A x|=aJ a lk\nWB|=ET.use et|=aC r|gH|g8|vo|bW|Ce|=bZ r\nWT|ay|zx|B7|@WTg\nW2|tF|oM|tP|oS|eY|c0|fa|gV|hN|zV|sH|jZ|s4|vv|xx|=gP z\nS1|bl|=ah r r t|=qR r t|bd|lR|ja|mZ|vN|=iC a\nS|Bx a ev A A x r r|Aa ev|Cf et|aa|ak\nC|@WCl|@WCg\nWEl|!\nAtl|!\nPutl|!\nWAl|!\nWCl|!\nother|!\nWEg|!\nWTg|!\nWCg|!"
def wB:String:="WEg|=de a a|=aT a a t\nWTg|=oN o\nWCg|=u8 o"
def wC:String:="WEl|=fB a a|=rNc a a|=Eg a a|=DH a a\nAtl|=rSs a a|=zK a a|=rTk a a|=tY a a|=rWs a a|=C6 a a|=Ck a a|=Ek a a|=EK a a|=rPc a a a a|=rEq a a|=EE a a|=rIn a a|=rSn a a|=rLn a a > i\nPutl|wSs a j|wTk a j|wSn a j|wLn a j\nWAl|Ew a a j|Do a a j|wNc a a j\nother|=Dw a k|CR\nbr|False.elim a|n"
def wD:String:="mm|h|~List.Mem.tail mm\nAtl|=rSI a a nk k out\nPutl|=wSI a a k len > j\nother|=gSI a a k"
theorem g16{a b n k c:Nat}(h:a+16*(b+n)+16<c)(hk:k≤16*n):a+k+16*b+16<c:=E3 (Hj (by rw[Nat.mul_add,Nat.add_assoc,G7 k];exact Fj (Fj hk _) a) 16) h
theorem hl(a:Nat):(a-1)/2≤a:=EY (Nat.div_le_self _ _) (Nat.sub_le _ _)
theorem hlt{a:Nat}(h:0<a):(a-1)/2<a:=E3 (Nat.div_le_self _ _) (Nat.sub_lt h (by decide))
theorem hq{a b:Nat}(h1:0<a)(h2:(a-1)/2=b):a=2*b+1∨a=2*b+1+1:=by
 have h:=Nat.div_add_mod (a-1) 2;rw[h2] at h
 cases Nat.mod_two_eq_zero_or_one (a-1) with
 |inl e=>rw[e] at h;exact .inl ((GX h1).symm.trans (congrArg (·+1) h.symm))
 |inr e=>rw[e] at h;exact .inr ((GX h1).symm.trans (congrArg (·+1) h.symm))
theorem hq2{a b:Nat}(h1:0<a)(h2:(a-1)/2=b):2*b+1≤a:=(hq h1 h2).elim (λh=>E6 h.symm) λh=>Fu (E6 h.symm)
theorem nLL{a k m:Nat}(h:a≤k)(e:Nat.ble k m=true):a≤m:=EY h (Fp e)
theorem nTT{a k m:Nat}(h:a<k)(e:Nat.ble k m=true):a<m:=E1 h (Fp e)
theorem nLT{a k m:Nat}(h:a≤k)(e:Nat.ble (k+1) m=true):a<m:=E3 h (Fp e)
theorem nTL{a k m:Nat}(h:a<k)(e:Nat.ble k (m+1)=true):a≤m:=FG (E1 h (Fp e))
theorem jTT{a k:Nat}{m:Int}(h:a<k)(e:(k:Int)≤m):(a:Int)<m:=Int.lt_of_lt_of_le (FP.mpr h) e
theorem jLT{a k:Nat}{m:Int}(h:a≤k)(e:(k:Int)<m):(a:Int)<m:=Gn (GN.mpr h) e
theorem jLL{a k:Nat}{m:Int}(h:a≤k)(e:(k:Int)≤m):(a:Int)≤m:=Int.le_trans (GN.mpr h) e
theorem o0{a b:Nat}:Min.min a b≤a:=Nat.min_le_left _ _
theorem o1{a b:Nat}(h1:(↑a:Int)=(↑b:Int)):a=b:=Int.ofNat_inj.mp h1
theorem o2{a b:Nat}(h1:a=0):a≤b:=by lia
theorem o5{a b c:Nat}:a+(b+1)<a+(c+1)↔b+a<c+a:=by rw[Nat.add_lt_add_iff_left,Nat.add_lt_add_iff_right,Nat.add_lt_add_iff_right]
theorem o6{a b:Nat}(h1:a<b)(h2:0+b<a):False:=Nat.lt_asymm h1 (Nat.zero_add b▸h2)
theorem o7{a b:Nat}:0+a<a+(b+1):=by lia
theorem o8{a b:Int}{c d:Nat}(h1:a<b∨a=b∧(↑c:Int)<(↑d:Int))(h2:d<c):a<b:=h1.elim id λx=>absurd (FP.mp x.2) (Nat.lt_asymm h2)
theorem o9{a b:Int}{c d:Nat}(h1:a<b)(h2:b<a∨b=a∧(↑c:Int)<(↑d:Int)):False:=h2.elim (λx=>Int.lt_irrefl _ (Int.lt_trans h1 x)) λx=>Int.ne_of_lt h1 x.1.symm
theorem o10{a b:Nat}(h1:¬a=b):a<b↔a<b+1:=⟨λh=>GO h,λh=>Gh (FG h) h1⟩
theorem o11{a:Nat}:1≤1+a:=Ft _ _
theorem o12{a b:Nat}(h1:a<b+1)(h2:¬a=b):a<b:=Gh (FG h1) h2
theorem o13{a b:Nat}(h1:a<b):¬a=b:=Fi h1
theorem o14{a b:Nat}(h1:a≤b):a<1+b:=E3 h1 (Nat.lt_add_of_pos_left (by decide))
theorem o15{a b c:Nat}(h1:a<b+1)(h2:c<a):c<b:=E1 h2 (FG h1)
theorem o16{a b:Nat}(h1:¬a=b):¬a=b:=h1
theorem o17{a b c:Nat}(h1:a<b+1)(h2:c<a):¬c=b:=Fi (E1 h2 (FG h1))
theorem o18{a:Nat}(h1:a=0):1+a=1:=h1▸rfl
theorem o19{a:Int}{b:Nat}(h1:a.toNat<b):¬a.toNat=b:=Fi h1
theorem o20{a:Nat}:1+a=a+1:=by lia
theorem o21{a b:Nat}(h1:a<0):1≤b:=by lia
theorem o22{a:Nat}(h1:a<0):False:=Nat.not_lt_zero _ h1
theorem o23{a b c d:Nat}(h1:a≤1000)(h2:b≤1000)(h3:c=a)(h4:d=b):c+d≤2000:=by rw[h3,h4];exact GB h1 h2
theorem o27{a:Nat}:(Max.max 0 (Min.min 1 ((↑a:Int)+1))).toNat=1:=by rw[Int.min_eq_left (Int.le_add_of_nonneg_left (Fg a))];rfl
theorem o30{a:Nat}(h1:a≤100):a≤16777216:=nLL h1 rfl
theorem o31{a b c d:Nat}(h1:a+b≤1000)(h2:c=a)(h3:d=b):c+d≤16777216:=by rw[h2,h3];exact EY h1 (by decide)
theorem o33{a:Nat}:(↑a:Int).toNat=a:=rfl
theorem o34{a:Nat}(h1:a≤0):a=0:=Nat.eq_zero_of_le_zero h1
theorem o35{a b:Nat}(h1:a≤b+1)(h2:¬a=b+1):a≤b:=FG (Gh h1 h2)
theorem o37{a b:Nat}(h1:a≤b):a≤b+1:=GP h1
theorem o39{a b c:Nat}(h1:a=b)(h2:c<b):c<a:=E1 h2 (E6 (Eq.symm h1))
theorem o40{a b c:Nat}(h1:0<a)(h2:b=a)(h3:c≤b-1):c<a:=by subst h2;exact E3 h3 (Nat.sub_lt h1 (by decide))
theorem o41{a b c:Nat}(h1:a=b)(h2:c<b):c≤a-1:=by rw[h1];exact Nat.le_sub_one_of_lt h2
theorem o43{a:Nat}:a<2*a+1:=by lia
theorem o49{a b c:Nat}(h1:a=b)(h2:0<b)(h3:c≤a-1):c<b:=by subst h1;exact E3 h3 (Nat.sub_lt h2 (by decide))
theorem o51{a:Nat}(h1:a≤1000):a≤16777216:=nLL h1 rfl
theorem o54{a b c:Nat}(h1:a<b)(h2:b=c):a<c:=E1 h1 (E6 h2)
theorem o56{a b c:Nat}(h1:a-b=c+1):a-(b+1)=c:=by rw[Nat.sub_add_eq,h1];rfl
theorem o62{a b c:Nat}(h1:a<b)(h2:c<a):c<b:=Fs h2 h1
theorem o64{a b:Nat}(h1:1≤a)(h2:a≤b):¬b=0:=Nat.ne_of_gt (E1 h1 h2)
theorem o69{a:Nat}(h1:4≤a):0<a:=by lia
theorem o70{a b:Nat}(h1:4≤a)(h2:b=a):0<b:=h2▸E1 (by decide) h1
theorem o71{a b:Nat}(h1:a≤b):(↑a:Int)≤(↑b:Int):=GN.mpr h1
theorem o78{a:Nat}:1+(↑a:Int)=(↑a:Int)+1:=by lia
theorem o79{a:Nat}:1≤a+1:=Hi _ _
theorem o80{a b:Nat}(h1:a<b):a+1≤b:=h1
theorem o82{a b:Nat}(h1:¬a<b):b≤a:=Nat.le_of_not_lt h1
theorem o84{a b:Nat}(h1:a≤b):a≤b:=h1
theorem o85{a b:Nat}(h1:a+0=b):a=b:=h1
theorem o86{a b c:Nat}(h1:a+(b+1)=c):a<c:=h1▸Hs (Nat.succ_pos b)
theorem o88{a b c:Nat}(h1:a+(b+1)=c):a+1+b=c:=(Nat.add_right_comm a 1 b).trans h1
theorem o89{a:Nat}:0+a=a:=Nat.zero_add _
theorem o93{a:Nat}(h1:2≤a):¬0≥a:=by lia
theorem v6{a b:Nat}(h1:a<b):a≤b:=Fu h1
theorem AZ{a b:Nat}(h1:a<b):b-1+1=b:=GX (E3 (FZ a) h1)
theorem Eb{a b:Nat}(h1:a<b):a<a+(b-a):=Hs (Nat.sub_pos_of_lt h1)
theorem Dj{a b c:Nat}(h1:a≤b):c≤b->a≤b:=by lia
theorem Aj{a b c:Nat}(h1:a+4*(b+1)+1<c):a+1+4*b+1<c:=E3 (FH (EY (E6 (Nat.add_right_comm a 1 (4*b))) (Fj (Fj (by decide:1≤4) (4*b)) a))) h1
theorem AI{a b c:Nat}(h1:a<200)(h2:b<a)(h3:c≤b):c≤16777216:=nTL (Fs (E3 h3 h2) h1) rfl
theorem xl{a b:Nat}:a≤a+b:=Ft _ _
theorem mJ{a b c:Nat}(h1:a=b-c)(h2:c<b):b-(c+1)<a:=by rw[h1];exact Nat.sub_lt_sub_left h2 (G9 c)
theorem wp{a b:Nat}(h1:a≤b)(h2:¬a<b):a=b:=GH h1 (Nat.le_of_not_lt h2)
theorem tG{a:Nat}:¬(↑a:Int)<0:=by lia
theorem Ad{a:Nat}(h1:a<1000):¬(↑a:Int)≥2^63:=Int.not_le.mpr (jTT h1 (by decide))
theorem pC{a:Nat}(h1:a<1000):a≤16777216:=nTL h1 rfl
theorem zJ{a:Nat}: -2^62≤(↑a:Int):=Fg _
theorem Au{a:Nat}(h1:0<a):¬(a-1)/2=a:=Fi (hlt h1)
theorem xk:¬0<0:=FC _
theorem wI{a b:Nat}(h1:a<b):(a-1)/2<b:=E3 (hl a) h1
theorem EO{a b:Nat}(h1:a≤b+1):(a-1)/2≤b:=EY (Nat.div_le_self _ _) (Nat.sub_le_of_le_add h1)
theorem Et{a:Nat}(h1:¬a=0):¬a=(a-1)/2:=Nat.ne_of_gt (hlt (Hd h1))
theorem Ed{a b:Nat}(h1:¬(a-1)/2=(b-1)/2)(h2:(a-1)/2=b):0<b:=Hd λh=>h1 (by rw[h2,h])
theorem Eh{a b:Nat}(h1:¬a=0)(h2:(b-1)/2=(a-1)/2):¬(b-1)/2=a:=λh=>Fi (hlt (Hd h1)) (h2.symm.trans h)
theorem zS{a:Nat}(h1:0<(a-1)/2):¬((a-1)/2-1)/2=a:=Fi (E1 (hlt h1) (hl a))
theorem DK{a:Nat}(h1:0<(a-1)/2):¬(a-1)/2=a:=Fi (hlt (E1 h1 (hl a)))
theorem Ex{a b:Nat}(h1:0<(a-1)/2)(h2:(b-1)/2=(a-1)/2):¬(b-1)/2=a:=λh=>Fi (hlt (E1 h1 (hl a))) (h2.symm.trans h)
theorem zM{a b:Nat}(h1:0<a)(h2:(a-1)/2=b)(h3:a<b+1):False:=Nat.not_lt_of_le (h2▸hlt h1:b+1≤a) h3
theorem DF{a b:Nat}(h1:a≤0+b)(h2:b<a):False:=by lia
theorem z9{a b:Nat}(h1:a=2*b+1∨a=2*b+2):(a-1)/2=b:=h1.elim (λh=>by rw[h];exact Nat.mul_div_cancel_left b (by decide)) λh=>by rw[h];exact Nat.mul_add_div (by decide) b 1
theorem BI{a b c:Nat}(h1:0<a)(h2:(b-1)/2=a)(h3:(a-1)/2=c):¬b=c:=Nat.ne_of_gt (E1 (h3▸hlt h1) (h2▸hl b))
theorem AX{a b c:Nat}(h1:a≤2*b+1)(h2:0<c)(h3:(c-1)/2=b)(h4:c<a):False:=Nat.not_lt_of_le (EY h1 (hq2 h2 h3)) h4
theorem zG{a:Nat}(h1:¬a=0):(a-1)/2<a:=hlt (Hd h1)
theorem iN{a b c:Nat}(h1:a=b)(h2:c<a):c<b:=E1 h2 (E6 h1)
theorem xq{a b:Nat}(h1:a≤10)(h2:b<a):b<10:=E1 h2 h1
theorem zP{a b c:Nat}(h1:a<b+c):a<b+(c+1):=GO h1
theorem z7{a b:Nat}:a+b<a+(b+1):=Fe _
theorem AR{a b:Nat}(h1:a≤b)(h2:b<a+0):False:=by lia
theorem AF{a b c:Nat}(h1:a-(b+1)=c+1):a-(b+1+1)=c:=by rw[Nat.sub_add_eq a (b+1) 1,h1];rfl
theorem xc{a b:Nat}(h1:a≤10)(h2:b≤a):b≤10:=EY h2 h1
theorem fu{a:Nat}(h1:a≤10):a≤1000:=nLL h1 rfl
theorem dX{a:Nat}:0≤(↑a:Int):=Fg _
theorem fX{a b:Nat}(h1:a≤10)(h2:b<a):(↑b:Int)<2^63:=jTT (E1 h2 h1) (by decide)
theorem sM{a:Nat}(h1:a≤10):a≤400:=nLL h1 rfl
theorem Bi{a:Nat}(h1:a≤10):2*a-1≤20:=EY (Nat.sub_le _ _) (FM 2 h1)
theorem vR{a:Nat}(h1:a≤20):(↑a:Int)<2^63:=jLT h1 (by decide)
theorem wP{a:Nat}(h1:a≤20):a<200:=nLT h1 rfl
theorem wX{a:Nat}(h1:a≤10):a≤20:=nLL h1 rfl
theorem xi{a b:Nat}(h1:a≤10)(h2:b≤14*a):b<1000:=E3 (EY h2 (FM 14 h1)) (by decide)
theorem zI{a:Nat}(h1:a≤20):a≤16777216:=nLL h1 rfl
theorem Df{a:Nat}:¬a=a+2:=by lia
theorem Ev{a:Nat}:¬a+1=a+2:=by lia
theorem Dh{a:Nat}:¬a=a+1:=by lia
theorem EB{a:Nat}(h1:¬a=0):((↑a:Int)-1)/2=(↑((a-1)/2):Int):=by cases a with|zero=>exact absurd rfl h1|succ n=>exact congrArg (·/(2:Int)) (Int.add_sub_cancel (n:Int) 1)
theorem BA{a b c:Nat}(h1:a≤b)(h2:b+1≤c):a≤c:=Fu (E3 h1 h2)
theorem vO{a b c:Nat}(h1:a≤b)(h2:b<a+(c-a)):b<c:=(Nat.le_total a c).elim (λh=>by rwa [Nat.add_sub_cancel' h] at h2) λh=>absurd h1 (Nat.not_le_of_lt (by rwa [Nat.sub_eq_zero_of_le h] at h2))
theorem Ab{a b c:Nat}(h1:a+4*(b+1)+1<c):a+4*b+1<c:=E3 (FH (Fj (FM 4 (Nat.le_succ b)) a)) h1
theorem Dz{a:Nat}:1+(2*a+1)=2*(a+1):=by lia
theorem Em{a:Nat}(h1:¬a % 2=0):a=2*(a/2)+1:=by have h:=Nat.div_add_mod a 2;rw[(Nat.mod_two_eq_zero_or_one a).resolve_left h1] at h;exact h.symm
theorem ww{a b:Nat}(h1:2*a+1=2*b):False:=by lia
theorem EJ{a:Nat}(h1:a<a):False:=by lia
theorem zw{a b:Nat}:a≠b∧b≤a↔b+1≤a:=⟨λh=>Gh h.2 (E8 h.1),λh=>⟨Nat.ne_of_gt h,Fu h⟩⟩
theorem Dt{a b:Nat}(h1:a<b)(h2:b<a):b=a:=by lia
theorem Du{a b c d:Nat}(h1:a=b)(h2:b<a):c<d:=by lia
theorem wQ{a b:Nat}(h1:a≤10)(h2:b≤a):b≤1000:=nLL (EY h2 h1) rfl
theorem D8{a b c d:Nat}(h1:a≤2)(h2:b≤c+a+0+2*d):b≤c+2*(d+1):=EY h2 (EY (E6 (Nat.add_assoc c a (2*d))) (Fj (EY (Hj h1 (2*d)) (E6 (G7 2 (2*d)))) c))
theorem En{a b c:Nat}(h1:a≤1000)(h2:b≤0+2*a)(h3:c=16777216):¬b>c:=by rw[h3];exact Ga.mpr (EY h2 (EY (E6 (Nat.zero_add _)) (EY (FM 2 h1) (by decide))))
theorem AB{a b:Nat}(h1:a≤100)(h2:b≤a):b≤1000:=nLL (EY h2 h1) rfl
theorem DN{a:Nat}(h1:a≤10000):1+a≤16777216:=by lia
theorem Aq{a:Nat}(h1:a≤100):a≤1000:=nLL h1 rfl
theorem DD{a b c:Nat}(h1:a+(b+1)≤c):a<c:=E1 (Hs (Nat.succ_pos b)) h1
theorem DW{a b c:Nat}(h1:a+(b+1)≤c):a+1+b≤c:=EY (E6 (Nat.add_right_comm a 1 b)) h1
theorem DX{a b:Nat}:a+(b+1)=a+1+b:=by lia
theorem Ee{a:Nat}:0+a≤a:=by lia
theorem Ao{a:Nat}(h1:a≤10):2*a-1≤900:=EY (Nat.sub_le _ _) (EY (FM 2 h1) (by decide))
theorem Be{a:Nat}(h1:a≤10):(↑a:Int)<2^63:=jLT h1 (by decide)
theorem BS{a b:Nat}(h1:a<b):a-1<b:=E3 (Nat.sub_le _ _) h1
theorem EM{a b:Nat}(h1:a<b):¬(↑b:Int)=(↑a:Int):=by lia
theorem wv{a:Nat}(h1:a≤1000):a+1≤16777216:=EY (FH h1) (by decide)
theorem DM{a:Int}{b:Nat}:a+(↑b:Int)+1=a+(↑(b+1):Int):=by lia
theorem Ep{a:Nat}:(↑a:Int)≤(↑a:Int)+1:=by lia
theorem D6{a:Nat}:((↑a:Int)+1-(↑a:Int)).toNat=1:=by rw[Int.add_comm,Int.add_sub_cancel];rfl
theorem Ah{a:Nat}:a≤a+1:=Ft _ _
theorem DV{a:Nat}:Min.min (Max.max 0 (↑a:Int)).toNat a=a:=by rw[Int.max_eq_right (Fg a)];exact Nat.min_self a
theorem sU{a b c:Nat}(h1:a<1000)(h2:b=1)(h3:c≤a):c+b≤16777216:=h2▸EY (EY (FH h3) h1) (by decide)
theorem El{a:Nat}:(Max.max 0 (Min.min 6 (↑a:Int))).toNat=Min.min 6 a:=by cases Nat.le_total 6 a with|inl h=>rw[Int.min_eq_left (show (6:Int)≤a from GN.mpr h),Nat.min_eq_left h];rfl|inr h=>rw[Int.min_eq_right (show (a:Int)≤6 from GN.mpr h),Nat.min_eq_right h,Int.max_eq_right (Fg a)];rfl
theorem Es{a:Nat}(h1:a≤63):a≤16777216:=nLL h1 rfl
theorem DJ{a:Nat}:4+Min.min 6 a≤1000:=EY (Fj (Nat.min_le_left 6 a) 4) (by decide)
theorem Ef{a:Nat}:4+Min.min 6 a≤10:=Fj (Nat.min_le_left 6 a) 4
theorem EQ{a:Nat}:4≤4+a:=Ft _ _
theorem DQ{a:Nat}(h1:4≤a)(h2:0=a):False:=absurd (EY h1 (E6 (Eq.symm h2))) (by decide)
theorem Dn{a b:Nat}(h1:4≤a)(h2:b=a):4≤b:=EY h1 (E6 (Eq.symm h2))
theorem Dg{a b:Nat}(h1:a≤10)(h2:b=a):b≤10:=EY (E6 h2) h1
theorem AD{a:Nat}(h1:a<2^62):¬(↑a:Int)≥2^63:=Int.not_le.mpr (jTT h1 (by decide))
theorem BN{a b:Nat}(h1:a≤1000)(h2:b=1):a+b≤16777216:=h2▸EY (FH h1) (by decide)
theorem D9{a:Nat}:¬97+a=39:=by lia
theorem DI{a:Nat}:¬97+a=34:=by lia
theorem xe{a:Nat}(h1:a<3):a=0∨a=1∨a=2:=by
 cases a with
 |zero=>exact .inl rfl
 |succ n=>cases n with
  |zero=>exact .inr (.inl rfl)
  |succ m=>exact .inr (.inr (congrArg (·+2) (Nat.lt_one_iff.mp (Nat.lt_of_succ_lt_succ (Nat.lt_of_succ_lt_succ h1)))))
theorem D7{a b c:Nat}(h1:a=b)(h2:1≤c)(h3:c≤b):c-1<a:=by rw[h1];exact E1 (Nat.sub_lt h2 (by decide)) h3
theorem Ak{a b c:Nat}(h1:a=b)(h2:c-1<b):c-1<a:=E1 h2 (E6 (Eq.symm h1))
theorem zW{a:Nat}:((↑a:Int)-1).toNat=a-1:=Int.toNat_sub a 1
theorem DU{a:Nat}(h1:1≤a):0≤(↑a:Int)-1:=by lia
theorem DG{a:Nat}(h1:0<a):¬(↑a:Int)=0:=by lia
theorem A1{a:Nat}: -2^63≤(↑a:Int):=Fg _
theorem Dx{a b:Nat}(h1:(↑a:Int)<(↑b:Int)):a≤b:=by lia
theorem EG{a b c d:Nat}(h1:a+b=c+1)(h2:d+1=a):d+(b+1)=c+1:=by rw[←h1,←h2];exact (Nat.add_right_comm d 1 b).symm
theorem AY{a b:Nat}(h1:a<b):Min.min a b=a:=Nat.min_eq_left (Fu h1)
theorem zQ{a b c:Nat}(h1:a+16*(b+1)+16<c):a+1+16*b+16<c:=g16 h1 (by decide)
theorem DR{a b e f g:Nat}(h3:a≤e)(h5:e+1<b)(h4:f≤g+1):2*(b-(e+1))+f+1<2*(b-a)+g+1:=by lia
theorem DT{a b f d:Nat}(h:a<b)(h4:f≤d+1):f<2*(b-a)+d+1:=E3 h4 (Nat.succ_lt_succ (Nat.lt_add_of_pos_left (Nat.mul_pos (by decide) (Nat.sub_pos_of_lt h))))
theorem pwm{a b:Nat}(hk:a<10)(hm:b=59∨b=124)(h:97+a=b):False:=by lia
theorem rg0(t:Nat):(if (0:Int)<(t:Int) then (t:Int)-0 else 0)=(t:Int):=by
 cases t with
 |zero=>rfl
 |succ n=>rw[if_pos (show (0:Int)<((n+1:Nat):Int) from FP.mpr (Nat.succ_pos n)),Int.sub_zero]
theorem rg1(t:Nat):(if (1:Int)<1+(t:Int) then 1+(t:Int)-1 else 0)=(t:Int):=by
 cases t with
 |zero=>rfl
 |succ n=>rw[if_pos (Int.lt_add_of_pos_right 1 (show (0:Int)<((n+1:Nat):Int) from FP.mpr (Nat.succ_pos n))),Int.add_comm,Int.add_sub_cancel]
theorem EP{a b:Nat}(h:a≤b):(if (a:Int)<(b:Int) then (b:Int)-(a:Int) else 0)=((b-a:Nat):Int):=by
 split
 ·exact (Int.ofNat_sub h).symm
 ·rw[Nat.sub_eq_zero_of_le (Ga.mp λq=>‹¬_› (FP.mpr q))];rfl
@[elab_as_elim] theorem b7{γ:Type}{e:γ}{Q:Prop}{x:γ}{Z:γ->Prop}(h:x=e∧Q)(k:Q->Z e):Z x:=h.1▸k h.2
@[elab_as_elim] theorem p0{γ:Type}{e:γ}{Q R:Prop}{x:γ}{Z:γ->Prop}(h:Q∧R∧x=e)(k:Q->R->Z e):Z x:=h.2.2▸k h.1 h.2.1
theorem xa1{P Q:Prop}{Z:Prop}(h:P∧Q)(k:P->Q->Z):Z:=k h.1 h.2
theorem gU{α:Type}{P:Prop}{Q:α->Prop}{Z:Prop}(h:P∧∃x,Q x)(k:P->∀x,Q x->Z):Z:=h.2.elim λa h0=>k h.1 a h0
theorem jz{α β:Type}{P:Prop}{Q R:α->β->Prop}{Z:Prop}(h:P∧∃x,∃y,Q x y∧R x y)(k:P->∀x y,Q x y->R x y->Z):Z:=h.2.elim λa h0=>h0.elim λb h1=>k h.1 a b h1.1 h1.2
theorem xa2{P Q R:Prop}{Z:Prop}(h:P∧Q∧R)(k:P->Q->R->Z):Z:=k h.1 h.2.1 h.2.2
theorem xa3{P Q R S:Prop}{Z:Prop}(h:P∧Q∧R∧S)(k:P->Q->R->S->Z):Z:=k h.1 h.2.1 h.2.2.1 h.2.2.2
theorem xa4{P Q R S T:Prop}{Z:Prop}(h:P∧Q∧R∧S∧T)(k:P->Q->R->S->T->Z):Z:=k h.1 h.2.1 h.2.2.1 h.2.2.2.1 h.2.2.2.2
theorem xe1{α:Type}{P:α->Prop}{Z:Prop}(h:∃x,P x)(k:∀x,P x->Z):Z:=h.elim λa h0=>k a h0
theorem ad{α:Type}{P Q:α->Prop}{Z:Prop}(h:∃x,P x∧Q x)(k:∀x,P x->Q x->Z):Z:=h.elim λa h0=>k a h0.1 h0.2
theorem aV{α:Type}{P Q R:α->Prop}{Z:Prop}(h:∃x,P x∧Q x∧R x)(k:∀x,P x->Q x->R x->Z):Z:=h.elim λa h0=>k a h0.1 h0.2.1 h0.2.2
theorem gr{α β:Type}{P Q:α->Prop}{R S:α->β->Prop}{Z:Prop}(h:∃x,P x∧Q x∧∃y,R x y∧S x y)(k:∀x,P x->Q x->∀y,R x y->S x y->Z):Z:=h.elim λa h0=>h0.2.2.elim λb h1=>k a h0.1 h0.2.1 b h1.1 h1.2
theorem gu{α:Type}{P Q R S:α->Prop}{Z:Prop}(h:∃x,P x∧Q x∧R x∧S x)(k:∀x,P x->Q x->R x->S x->Z):Z:=h.elim λa h0=>k a h0.1 h0.2.1 h0.2.2.1 h0.2.2.2
theorem fy{α:Type}{P Q R S T:α->Prop}{Z:Prop}(h:∃x,P x∧Q x∧R x∧S x∧T x)(k:∀x,P x->Q x->R x->S x->T x->Z):Z:=h.elim λa h0=>k a h0.1 h0.2.1 h0.2.2.1 h0.2.2.2.1 h0.2.2.2.2
theorem xe2{α β:Type}{P:α->β->Prop}{Z:Prop}(h:∃x,∃y,P x y)(k:∀x y,P x y->Z):Z:=h.elim λa h0=>h0.elim λb h1=>k a b h1
theorem am{α β:Type}{P Q:α->β->Prop}{Z:Prop}(h:∃x,∃y,P x y∧Q x y)(k:∀x y,P x y->Q x y->Z):Z:=h.elim λa h0=>h0.elim λb h1=>k a b h1.1 h1.2
theorem bL{α β:Type}{P Q R:α->β->Prop}{Z:Prop}(h:∃x,∃y,P x y∧Q x y∧R x y)(k:∀x y,P x y->Q x y->R x y->Z):Z:=h.elim λa h0=>h0.elim λb h1=>k a b h1.1 h1.2.1 h1.2.2
theorem k7{α β:Type}{P Q R S:α->β->Prop}{Z:Prop}(h:∃x,∃y,P x y∧Q x y∧R x y∧S x y)(k:∀x y,P x y->Q x y->R x y->S x y->Z):Z:=h.elim λa h0=>h0.elim λb h1=>k a b h1.1 h1.2.1 h1.2.2.1 h1.2.2.2
theorem iR{α β γ:Type}{P Q R:α->β->Prop}{S T:α->β->γ->Prop}{Z:Prop}(h:∃x,∃y,P x y∧Q x y∧R x y∧∃z,S x y z∧T x y z)(k:∀x y,P x y->Q x y->R x y->∀z,S x y z->T x y z->Z):Z:=h.elim λa h0=>h0.elim λb h1=>h1.2.2.2.elim λc h2=>k a b h1.1 h1.2.1 h1.2.2.1 c h2.1 h2.2
theorem fv{α β:Type}{P Q R S T:α->β->Prop}{Z:Prop}(h:∃x,∃y,P x y∧Q x y∧R x y∧S x y∧T x y)(k:∀x y,P x y->Q x y->R x y->S x y->T x y->Z):Z:=h.elim λa h0=>h0.elim λb h1=>k a b h1.1 h1.2.1 h1.2.2.1 h1.2.2.2.1 h1.2.2.2.2
theorem ik{α β:Type}{P Q R S T U:α->β->Prop}{Z:Prop}(h:∃x,∃y,P x y∧Q x y∧R x y∧S x y∧T x y∧U x y)(k:∀x y,P x y->Q x y->R x y->S x y->T x y->U x y->Z):Z:=h.elim λa h0=>h0.elim λb h1=>k a b h1.1 h1.2.1 h1.2.2.1 h1.2.2.2.1 h1.2.2.2.2.1 h1.2.2.2.2.2
theorem go{α β γ:Type}{P Q:α->β->γ->Prop}{Z:Prop}(h:∃x,∃y,∃z,P x y z∧Q x y z)(k:∀x y z,P x y z->Q x y z->Z):Z:=h.elim λa h0=>h0.elim λb h1=>h1.elim λc h2=>k a b c h2.1 h2.2
theorem iu{α β γ:Type}{P Q R S:α->β->γ->Prop}{Z:Prop}(h:∃x,∃y,∃z,P x y z∧Q x y z∧R x y z∧S x y z)(k:∀x y z,P x y z->Q x y z->R x y z->S x y z->Z):Z:=h.elim λa h0=>h0.elim λb h1=>h1.elim λc h2=>k a b c h2.1 h2.2.1 h2.2.2.1 h2.2.2.2
theorem CK{α β γ:Type}{P Q R S T:α->β->γ->Prop}{Z:Prop}(h:∃x,∃y,∃z,P x y z∧Q x y z∧R x y z∧S x y z∧T x y z)(k:∀x y z,P x y z->Q x y z->R x y z->S x y z->T x y z->Z):Z:=h.elim λa h0=>h0.elim λb h1=>h1.elim λc h2=>k a b c h2.1 h2.2.1 h2.2.2.1 h2.2.2.2.1 h2.2.2.2.2
theorem C3{α β γ δ:Type}{P Q R S T U V:α->β->γ->δ->Prop}{Z:Prop}(h:∃x,∃y,∃z,∃u,P x y z u∧Q x y z u∧R x y z u∧S x y z u∧T x y z u∧U x y z u∧V x y z u)(k:∀x y z u,P x y z u->Q x y z u->R x y z u->S x y z u->T x y z u->U x y z u->V x y z u->Z):Z:=h.elim λa h0=>h0.elim λb h1=>h1.elim λc h2=>h2.elim λd h3=>k a b c d h3.1 h3.2.1 h3.2.2.1 h3.2.2.2.1 h3.2.2.2.2.1 h3.2.2.2.2.2.1 h3.2.2.2.2.2.2
theorem bz{α β γ δ:Type}{P Q:α->β->γ->δ->Prop}{Z:Prop}(h:∃x,∃y,∃z,∃u,P x y z u∧Q x y z u)(k:∀x y,∀z u,P x y z u->Q x y z u->Z):Z:=h.elim λa h0=>h0.elim λb h1=>h1.elim λc h2=>h2.elim λd h3=>k a b c d h3.1 h3.2
theorem gR{α:Type}{P:Prop}{Q R:α->Prop}(a:P)(x:α)(c:Q x)(d:R x):P∧∃x,Q x∧R x:=⟨a,x,c,d⟩
theorem jo{α β:Type}{P:Prop}{Q:α->β->Prop}(a:P)(x:α)(y:β)(d:Q x y):P∧∃x,∃y,Q x y:=⟨a,x,y,d⟩
theorem jm{α β:Type}{P:Prop}{Q R:α->β->Prop}(a:P)(x:α)(y:β)(d:Q x y)(e:R x y):P∧∃x,∃y,Q x y∧R x y:=⟨a,x,y,d,e⟩
theorem ia2{P Q R:Prop}(a:P)(b:Q)(c:R):P∧Q∧R:=⟨a,b,c⟩
theorem ia3{P Q R S:Prop}(a:P)(b:Q)(c:R)(d:S):P∧Q∧R∧S:=⟨a,b,c,d⟩
theorem ia4{P Q R S T:Prop}(a:P)(b:Q)(c:R)(d:S)(e:T):P∧Q∧R∧S∧T:=⟨a,b,c,d,e⟩
theorem ia6{P Q R S T U V:Prop}(a:P)(b:Q)(c:R)(d:S)(e:T)(f:U)(g:V):P∧Q∧R∧S∧T∧U∧V:=⟨a,b,c,d,e,f,g⟩
theorem af{α:Type}{P Q:α->Prop}(x:α)(b:P x)(c:Q x):∃x,P x∧Q x:=⟨x,b,c⟩
theorem dc{α β:Type}{P:α->Prop}{Q:α->β->Prop}(x:α)(b:P x)(y:β)(d:Q x y):∃x,P x∧∃y,Q x y:=⟨x,b,y,d⟩
theorem aR{α:Type}{P Q R:α->Prop}(x:α)(b:P x)(c:Q x)(d:R x):∃x,P x∧Q x∧R x:=⟨x,b,c,d⟩
theorem cj{α β:Type}{P Q:α->Prop}{R:α->β->Prop}(x:α)(b:P x)(c:Q x)(y:β)(e:R x y):∃x,P x∧Q x∧∃y,R x y:=⟨x,b,c,y,e⟩
theorem jg{α β:Type}{P Q:α->Prop}{R S:α->β->Prop}(x:α)(b:P x)(c:Q x)(y:β)(e:R x y)(f:S x y):∃x,P x∧Q x∧∃y,R x y∧S x y:=⟨x,b,c,y,e,f⟩
theorem cI{α:Type}{P Q R S:α->Prop}(x:α)(b:P x)(c:Q x)(d:R x)(e:S x):∃x,P x∧Q x∧R x∧S x:=⟨x,b,c,d,e⟩
theorem gv{α:Type}{P Q R S T:α->Prop}(x:α)(b:P x)(c:Q x)(d:R x)(e:S x)(f:T x):∃x,P x∧Q x∧R x∧S x∧T x:=⟨x,b,c,d,e,f⟩
theorem ie2{α β:Type}{P:α->β->Prop}(x:α)(y:β)(c:P x y):∃x,∃y,P x y:=⟨x,y,c⟩
theorem cy{α β:Type}{P Q:α->β->Prop}(x:α)(y:β)(c:P x y)(d:Q x y):∃x,∃y,P x y∧Q x y:=⟨x,y,c,d⟩
theorem cZ{α β:Type}{P Q R:α->β->Prop}(x:α)(y:β)(c:P x y)(d:Q x y)(e:R x y):∃x,∃y,P x y∧Q x y∧R x y:=⟨x,y,c,d,e⟩
theorem fA{α β:Type}{P Q R S:α->β->Prop}(x:α)(y:β)(c:P x y)(d:Q x y)(e:R x y)(f:S x y):∃x,∃y,P x y∧Q x y∧R x y∧S x y:=⟨x,y,c,d,e,f⟩
theorem ij{α β:Type}{P Q R S T:α->β->Prop}(x:α)(y:β)(c:P x y)(d:Q x y)(e:R x y)(f:S x y)(g:T x y):∃x,∃y,P x y∧Q x y∧R x y∧S x y∧T x y:=⟨x,y,c,d,e,f,g⟩
theorem ie3{α β γ:Type}{P:α->β->γ->Prop}(x:α)(y:β)(z:γ)(d:P x y z):∃x,∃y,∃z,P x y z:=⟨x,y,z,d⟩
theorem oP{α β γ:Type}{P Q:α->β->γ->Prop}(x:α)(y:β)(z:γ)(d:P x y z)(e:Q x y z):∃x,∃y,∃z,P x y z∧Q x y z:=⟨x,y,z,d,e⟩
theorem jG{α β γ:Type}{P Q R:α->β->γ->Prop}(x:α)(y:β)(z:γ)(d:P x y z)(e:Q x y z)(f:R x y z):∃x,∃y,∃z,P x y z∧Q x y z∧R x y z:=⟨x,y,z,d,e,f⟩
theorem kP{α β γ:Type}{P Q R S T:α->β->γ->Prop}(x:α)(y:β)(z:γ)(d:P x y z)(e:Q x y z)(f:R x y z)(g:S x y z)(h:T x y z):∃x,∃y,∃z,P x y z∧Q x y z∧R x y z∧S x y z∧T x y z:=⟨x,y,z,d,e,f,g,h⟩
theorem jA{α β γ δ:Type}{P Q R:α->β->γ->δ->Prop}(x:α)(y:β)(z:γ)(u:δ)(e:P x y z u)(f:Q x y z u)(g:R x y z u):∃x,∃y,∃z,∃u,P x y z u∧Q x y z u∧R x y z u:=⟨x,y,z,u,e,f,g⟩
theorem fb{α β γ δ:Type}{P Q R S T U:α->β->γ->δ->Prop}(x:α)(y:β)(z:γ)(u:δ)(e:P x y z u)(f:Q x y z u)(g:R x y z u)(h:S x y z u)(i:T x y z u)(j:U x y z u):∃x,∃y,∃z,∃u,P x y z u∧Q x y z u∧R x y z u∧S x y z u∧T x y z u∧U x y z u:=⟨x,y,z,u,e,f,g,h,i,j⟩
theorem aTL{a k m:Nat}(h:a<k)(hk:Nat.ble k (m+1)=true):a≤m:=FG (E1 h (Fp hk))
theorem aTT{a k m:Nat}(h:a<k)(hk:Nat.ble k m=true):a<m:=E1 h (Fp hk)
theorem Di{a k m c:Nat}(h:a<k)(hk:Nat.ble (k+c) m=true):a+c<m:=E1 (Nat.add_lt_add_right h c) (Fp hk)
theorem EN{a k m c:Nat}(h:a<k)(hk:Nat.ble (k+c) (m+1)=true):a+c≤m:=FG (E1 (Nat.add_lt_add_right h c) (Fp hk))
theorem iTT{a k:Nat}{m:Int}(h:a<k)(hk:decide ((k:Int)≤m)=true):(a:Int)<m:=Int.lt_of_lt_of_le (FP.mpr h) (of_decide_eq_true hk)
theorem iGe{a:Nat}{m:Int}(hk:decide (m≤0)=true):m≤(a:Int):=Int.le_trans (of_decide_eq_true hk) (Fg a)
theorem lz{a:Nat}(h:a<0){P:Prop}:P:=(Nat.not_lt_zero a h).elim
theorem p1{b:Nat}(h:1≤b):b-1<b:=Nat.sub_lt h (Nat.zero_lt_succ 0)
theorem p1'{a b:Nat}(h:a<b):b-1<b:=p1 (E3 (FZ _) h)
theorem cs{a b:Nat}(h:a≤b):(b:Int)-a=((b-a:Nat):Int):=(Int.ofNat_sub h).symm
theorem tp1{a b:Nat}(h:a<b):((b:Int)-1).toNat=b-1:=by exact zW
theorem tp0{a b:Nat}(h:a<b):0≤(b:Int)-1:=by exact Int.sub_nonneg_of_le (GN.mpr (E3 (FZ _) h))
theorem tpa(a b:Nat):((a:Int)+b).toNat=a+b:=FV (a+b)
theorem x1{a c:Nat}(h:a+1<c):(a:Int)+(1:Nat)<c:=by exact FP.mpr h
theorem ifT{c:Prop}[Decidable c]{A B:Prop}(h:c)(a:A):if c then A else B:=(if_pos h).mpr a
theorem ifF{c:Prop}[Decidable c]{A B:Prop}(h:¬c)(b:B):if c then A else B:=(if_neg h).mpr b
section
local macro_rules | `(tactic|rw[$rs,*])=>rwm (Lean.mkNullNode rs.elemsAndSeps)
local macro_rules | `(tactic|rw[if_pos $h])=>ifm `ifT `if_pos h
local macro_rules | `(tactic|rw[if_neg $h])=>ifm `ifF `if_neg h
local macro_rules | `(tactic|decide%$k)=>csm k EC #[]
local macro_rules | `(tactic|decide%$k+kernel)=>csm k Dy #[]
local macro_rules | `(s! $s)=>sbm s
local macro_rules | `(tactic|cases%$k $h:ident)=>csm k csA #[h]
local macro_rules | `(tactic|cases%$k (show $t from $e))=>csm k csB #[t,e]
section
inductive MV
 |k (v:Value)
 |i (n:Int)
 |s (x:Str)
 |t (c:Value) (vs:List MV)
 |r (a:Addr)
 |bm (f:String) (self:MV)
noncomputable abbrev Lo:=List (Str×Option MV)
inductive MO
 |lst (vs:List MV)
 |dS (f:Str->Option MV)
 |dI (f:Int->Option MV)
 |ins (c:Addr) (dx:Addr)
 |ns (m:List (Str×MV))
 |deq (vs:List MV)
 |set0
 |cel (v:Option MV)
 |fr (ρ:Lo)
 |itl (l:Addr) (i:Nat)
 |any (P:Obj->Prop)
 |hp (P:Heap->Obj->Prop)
noncomputable abbrev Sg:=Addr->Option MO
noncomputable def Sg.put(σ:Sg)(a:Addr)(o:MO):Sg:=λb=>if b=a then EU o else σ b
noncomputable def Sg.del(σ:Sg)(a:Addr):Sg:=λb=>if b=a then none else σ b
theorem Sg.put_same(σ:Sg)(a:Addr)(o:MO):σ.put a o a=EU o:=if_pos rfl
theorem Sg.put_ne(σ:Sg){a b:Addr}(o:MO)(h:b≠a):σ.put a o b=σ b:=if_neg h
noncomputable def imm(o:Obj):Bool:=match o.data,o.cls with
 | .dict ..,_=>false
 | .cell _,_=>false
 |_,.type c=>c=="tuple" ||c=="builtin_function_or_method"
 |_,.ref a=>a==153
 |_,_=>false
theorem qq{o:Obj}{v}(h:o.data= .cell v):imm o=false:=by unfold imm;rw[h]
theorem kx{o:Obj}{es n}(h:o.data= .dict es n):imm o=false:=by unfold imm;rw[h]
mutual
noncomputable def VR(h:Heap):MV->Value->Prop
 | .k v,x=>x=v
 | .i n,x=>∃t,x= .int n t
 | .s y,x=>∃t,x= .str y t
 | .t c vs,x=>∃a o items n,x= .ref a∧h.get? a=EU o∧imm o=true∧o.cls=c∧o.data= .seq items n∧VRs h vs items.toList
 | .r a,x=>x= .ref a
 | .bm f m,x=>∃a o y,x= .ref a∧h.get? a=EU o∧imm o=true∧o.cls= .type "builtin_function_or_method" ∧o.data= .fields #[.builtin f,y]∧VR h m y
noncomputable def VRs(h:Heap):List MV->List Value->Prop
 | [],xs=>xs=[]
 |m::ms,xs=>∃y ys,xs=y::ys∧VR h m y∧VRs h ms ys
end
noncomputable def Keep(h h':Heap):Prop:=∀b o,h.get? b=EU o->imm o=true->h'.get? b=EU o
theorem Keep.refl(h:Heap):Keep h h:=λ_ _ e _=>e
theorem Keep.trans{h₁ h₂ h₃:Heap}(x:Keep h₁ h₂)(y:Keep h₂ h₃):Keep h₁ h₃:=λb o e i=>y b o (x b o e i) i
mutual
theorem VR.keep{h h':Heap}(k:Keep h h'):∀{m:MV} {x:Value},VR h m x->VR h' m x
 | .k _,_,e=>e
 | .i _,_,e=>e
 | .s _,_,e=>e
 | .t _ _,_,h=>by
  refine bz h λa o items n e1 z1=>?_;refine xa4 z1 λe2 e3 e4 e5 e6=>?_;exact (fb a o items n e1 (k _ _ e2 e3) e3 e4 e5 (VRs.keep k e6))
 | .r _,_,e=>e
 | .bm _ _,_,h=>by
  refine iu h λa o y e1 e2 e3 z1=>?_;refine xa2 z1 λe4 e5 e6=>?_;exact (kP a o y e1 (k _ _ e2 e3) e3 e4 ⟨e5,VR.keep k e6⟩)
theorem VRs.keep{h h':Heap}(k:Keep h h'):∀{m:List MV} {x:List Value},VRs h m x->VRs h' m x
 | [],_,e=>e
 |_::_,_,h=>by
  refine bL h λy ys e1 e2 e3=>?_;exact (cZ y ys e1 (VR.keep k e2) (VRs.keep k e3))
end
theorem cH(h:Heap)(n:Int)(t:Tok):VR h (.i n) (.int n t):=⟨t,rfl⟩
theorem fq(h:Heap)(x:Str)(t:Tok):VR h (.s x) (.str x t):=⟨t,rfl⟩
theorem aZ(h:Heap)(v:Value):VR h (.k v) v:=rfl
theorem bO(h:Heap)(a:Addr):VR h (.r a) (.ref a):=rfl
theorem VRs.nil(h:Heap):VRs h [] []:=by unfold VRs;rfl
theorem VRs.cons{h:Heap}{m ms x xs}(a:VR h m x)(b:VRs h ms xs):VRs h (m::ms) (x::xs):=by unfold VRs;exact (cZ x xs rfl a b)
theorem gZ{h:Heap}{m:MV}{ms:List MV}{xs:List Value}{P:List Value->Prop}(r:VRs h (m::ms) xs)(k:∀v vs,VR h m v->VRs h ms vs->P (v::vs)):P xs:=by
 unfold VRs at r;refine bL r λv vs e a b=>?_;rw[e];exact k v vs a b
theorem fm{h:Heap}{xs:List Value}{P:List Value->Prop}(r:VRs h [] xs)(k:P []):P xs:=by
 unfold VRs at r;rw[r];exact k
theorem hX{h:Heap}{a:Addr}{ms:List MV}{xs:List Value}{P:List Value->Prop}(r:VRs h (.r a::ms) xs)(k:∀vs,VRs h ms vs->P (.ref a::vs)):P xs:=gZ r λv vs e r=>by
 rw[show v= .ref a from e];exact k vs r
theorem lp{h:Heap}{a:Int}{ms:List MV}{xs:List Value}{P:List Value->Prop}(r:VRs h (.i a::ms) xs)(k:∀t vs,VRs h ms vs->P (.int a t::vs)):P xs:=gZ r λv vs e r=>e.elim λt e=>by
 rw[e];exact k t vs r
theorem ju{h:Heap}{a:Str}{ms:List MV}{xs:List Value}{P:List Value->Prop}(r:VRs h (.s a::ms) xs)(k:∀t vs,VRs h ms vs->P (.str a t::vs)):P xs:=gZ r λv vs e r=>e.elim λt e=>by
 rw[e];exact k t vs r
@[elab_as_elim] theorem vZ{h:Heap}{a:Int}{xs:List Value}{P:List Value->Prop}(r:VRs h [.i a] xs)(k:∀t0,P [.int a t0]):P xs:=lp r λt0 _ r0=>fm (P:=λl=>P (.int a t0::l)) r0 (k t0)
@[elab_as_elim] theorem BZ{h:Heap}{a:Int}{b:Int}{xs:List Value}{P:List Value->Prop}(r:VRs h [.i a,.i b] xs)(k:∀t0 t1,P [.int a t0,.int b t1]):P xs:=lp r λt0 _ r0=>lp (P:=λl=>P (.int a t0::l)) r0 λt1 _ r1=>fm (P:=λl=>P (.int a t0:: .int b t1::l)) r1 (k t0 t1)
@[elab_as_elim] theorem Cm{h:Heap}{a:MV}{b:MV}{xs:List Value}{P:List Value->Prop}(r:VRs h [a,b] xs)(k:∀v0 v1,VR h a v0->VR h b v1->P [v0,v1]):P xs:=gZ r λv0 _ e0 r0=>gZ (P:=λl=>P (v0::l)) r0 λv1 _ e1 r1=>fm (P:=λl=>P (v0::v1::l)) r1 (k v0 v1 e0 e1)
@[elab_as_elim] theorem fS{h:Heap}{a:Addr}{xs:List Value}{P:List Value->Prop}(r:VRs h [.r a] xs)(k:P [.ref a]):P xs:=hX r λ_ r0=>fm (P:=λl=>P (.ref a::l)) r0 k
@[elab_as_elim] theorem tz{h:Heap}{a:Addr}{b:MV}{xs:List Value}{P:List Value->Prop}(r:VRs h [.r a,b] xs)(k:∀v1,VR h b v1->P [.ref a,v1]):P xs:=hX r λ_ r0=>gZ (P:=λl=>P (.ref a::l)) r0 λv1 _ e1 r1=>fm (P:=λl=>P (.ref a::v1::l)) r1 (k v1 e1)
@[elab_as_elim] theorem uo{h:Heap}{a:Addr}{b:MV}{c:MV}{xs:List Value}{P:List Value->Prop}(r:VRs h [.r a,b,c] xs)(k:∀v1 v2,VR h b v1->VR h c v2->P [.ref a,v1,v2]):P xs:=hX r λ_ r0=>gZ (P:=λl=>P (.ref a::l)) r0 λv1 _ e1 r1=>gZ (P:=λl=>P (.ref a::v1::l)) r1 λv2 _ e2 r2=>fm (P:=λl=>P (.ref a::v1::v2::l)) r2 (k v1 v2 e1 e2)
@[elab_as_elim] theorem Cc{h:Heap}{a:Addr}{b:Addr}{xs:List Value}{P:List Value->Prop}(r:VRs h [.r a,.r b] xs)(k:P [.ref a,.ref b]):P xs:=hX r λ_ r0=>hX (P:=λl=>P (.ref a::l)) r0 λ_ r1=>fm (P:=λl=>P (.ref a:: .ref b::l)) r1 k
@[elab_as_elim] theorem CV{h:Heap}{a:Addr}{b:Str}{xs:List Value}{P:List Value->Prop}(r:VRs h [.r a,.s b] xs)(k:∀t1,P [.ref a,.str b t1]):P xs:=hX r λ_ r0=>ju (P:=λl=>P (.ref a::l)) r0 λt1 _ r1=>fm (P:=λl=>P (.ref a:: .str b t1::l)) r1 (k t1)
@[elab_as_elim] theorem vT{h:Heap}{a:Str}{xs:List Value}{P:List Value->Prop}(r:VRs h [.s a] xs)(k:∀t0,P [.str a t0]):P xs:=ju r λt0 _ r0=>fm (P:=λl=>P (.str a t0::l)) r0 (k t0)
@[elab_as_elim] theorem CU{h:Heap}{a:Str}{b:MV}{xs:List Value}{P:List Value->Prop}(r:VRs h [.s a,b] xs)(k:∀t0 v1,VR h b v1->P [.str a t0,v1]):P xs:=ju r λt0 _ r0=>gZ (P:=λl=>P (.str a t0::l)) r0 λv1 _ e1 r1=>fm (P:=λl=>P (.str a t0::v1::l)) r1 (k t0 v1 e1)
@[elab_as_elim] theorem xO{h:Heap}{a:Str}{b:Addr}{xs:List Value}{P:List Value->Prop}(r:VRs h [.s a,.r b] xs)(k:∀t0,P [.str a t0,.ref b]):P xs:=ju r λt0 _ r0=>hX (P:=λl=>P (.str a t0::l)) r0 λ_ r1=>fm (P:=λl=>P (.str a t0:: .ref b::l)) r1 (k t0)
@[elab_as_elim] theorem yA{h:Heap}{a:Str}{b:Str}{c:Int}{d:Int}{xs:List Value}{P:List Value->Prop}(r:VRs h [.s a,.s b,.i c,.i d] xs)(k:∀t0 t1 t2 t3,P [.str a t0,.str b t1,.int c t2,.int d t3]):P xs:=ju r λt0 _ r0=>ju (P:=λl=>P (.str a t0::l)) r0 λt1 _ r1=>lp (P:=λl=>P (.str a t0:: .str b t1::l)) r1 λt2 _ r2=>lp (P:=λl=>P (.str a t0:: .str b t1:: .int c t2::l)) r2 λt3 _ r3=>fm (P:=λl=>P (.str a t0:: .str b t1:: .int c t2:: .int d t3::l)) r3 (k t0 t1 t2 t3)
theorem VRs.length{h:Heap}:∀{ms:List MV} {xs:List Value},VRs h ms xs->xs.length=ms.length
 | [],_,e=>by unfold VRs at e;rw[e];rfl
 |_::_,_,e=>by
  unfold VRs at e;refine am e λy ys z1 z2=>?_;clear e;subst z1;obtain ⟨_,e3⟩:=z2;simp[VRs.length e3]
theorem VRs.get{h:Heap}:∀{ms:List MV} {xs:List Value} {i:Nat} {m:MV},VRs h ms xs->ms[i]?=EU m->∃x,xs[i]?=EU x∧VR h m x
 | [],_,_,_,_,e=>by simp at e
 |m::ms,_,i,m',e,e'=>by
  unfold VRs at e;refine am e λy ys z1 z2=>?_;clear e;subst z1;refine xa1 z2 λe2 e3=>?_;clear z2
  cases i with
  |zero=>simp at e';subst e';exact (af y rfl e2)
  |succ i=>exact VRs.get (i:=i) e3 (by simpa using e')
theorem VRs.append{h:Heap}:∀{ms ms':List MV} {xs xs':List Value},VRs h ms xs->VRs h ms' xs'->VRs h (ms++ms') (xs++xs')
 | [],_,_,_,e,e'=>by unfold VRs at e;subst e;exact e'
 |_::_,_,_,_,e,e'=>by
  unfold VRs at e;refine am e λy ys z1 z2=>?_;clear e;subst z1;refine xa1 z2 λe2 e3=>?_;exact VRs.cons e2 (VRs.append e3 e')
noncomputable def lk:Lo->Str->Option (Option MV)
 | [],_=>none
 |(n,v)::l,x=>if x=n then EU v else lk l x
noncomputable def stL:Lo->Str->MV->Lo
 | [],_,_=>[]
 |(n,v)::l,x,m=>if x=n then (n,EU m)::l else (n,v)::stL l x m
theorem gM:∀(l:Lo) (x y:Str) (m:MV),lk (stL l x m) y=if y=x then (lk l x).map λ_=>EU m else lk l y
 | [],x,y,m=>by simp[stL,lk]
 |(n,v)::l,x,y,m=>by
  unfold stL;by_cases h:x=n
  ·subst h;rw[if_pos rfl];by_cases h2:y=x
   ·subst h2;simp[lk]
   ·simp[lk,h2]
  ·rw[if_neg h];by_cases h2:y=n
   ·subst h2;have:¬y=x:=λe=>h e.symm;simp[lk,this]
   ·simp only[lk,if_neg h2,gM l x y m,if_neg h]
noncomputable def FrR(h:Heap)(F:Addr)(ρ:Lo):Prop:=∃m,h.Ns F m∧(∀x v,lk ρ x=EU (EU v)->∃y,m x=EU y∧VR h v y)
noncomputable def nk:List (Str×MV)->Str->Option MV
 | [],_=>none
 |(n,v)::l,x=>if x=n then EU v else nk l x
noncomputable def NsR(h:Heap):List (Str×MV)->List DictEntry->Prop
 | [],es=>es=[]
 |(k,v)::m,es=>∃e es',es=e::es'∧(∃t,e.key= .str k t)∧VR h v e.val∧NsR h m es'
theorem NsR.keep{h h':Heap}(k:Keep h h'):∀{m:List (Str×MV)} {es:List DictEntry},NsR h m es->NsR h' m es
 | [],_,e=>e
 |(_,_)::_,_,h=>by
  refine k7 h λe es' e1 e2 e3 e4=>?_;exact (fA e es' e1 e2 (e3.keep k) (NsR.keep k e4))
noncomputable def OR(h:Heap)(a:Addr):MO->Prop
 | .ins c dx=>h.get? a=EU {cls:= .ref c,dict:=EU dx,data:= .plain}∧c≠153
 | .ns m=>∃es n,h.get? a=EU {cls:= .type "dict",data:= .dict es n}∧NsR h m es.toList
 | .lst vs=>∃items,h.PlainList a items∧VRs h vs items.toList
 | .fr ρ=>FrR h a ρ
 | .itl l i=>h.IsListIter a l i
 | .any P=>∃o,h.get? a=EU o∧imm o=false∧P o
 | .hp P=>∃o h₀,h.get? a=EU o∧imm o=false∧Keep h₀ h∧P h₀ o
 | .cel none=>h.IsCell a none
 | .cel (EU m)=>∃v,h.IsCell a (EU v)∧VR h m v
 |_=>False
theorem OR.notImm{h:Heap}{a:Addr}{m:MO}(x:OR h a m):∃o,h.get? a=EU o∧imm o=false:=by
 cases m with
 |lst vs=>refine ad x λitems z1 _=>?_;clear x;refine xe1 z1 λn e=>?_;clear z1;exact (af _ e rfl)
 |fr ρ=>refine ad x λm z1 _=>?_;clear x;refine go z1 λo es ep ho z2=>?_;clear z1;obtain ⟨hd,_⟩:=z2;exact (af o ho (kx hd))
 |itl l i=>refine aV x λo ho hc hd=>?_;clear x;exact (af o ho (by unfold imm;rw[hd,hc];rfl))
 |any P=>refine aV x λo ho hi _=>?_;clear x;exact (af o ho hi)
 |hp P=>refine bL x λo _ ho hi _=>?_;clear x;exact (af o ho hi)
 |ins c dx=>exact (af _ x.1 (by show (c==153)=false;simpa using x.2))
 |ns m=>refine am x λes n ho _=>?_;clear x;exact (af _ ho rfl)
 |cel v=>
  cases v with
  |none=>refine ad x λo ho hd=>?_;exact (af o ho (qq hd))
  |some m=>refine ad x λv z1 _=>?_;refine ad z1 λo ho hd=>?_;exact (af o ho (qq hd))
 |_=>exact x.elim
theorem Heap.Ns.same{h h':Heap}{a m}(x:h.Ns a m)(e:h'.get? a=h.get? a):h'.Ns a m:=by
 refine go x λo es ep ho r=>?_;exact (oP o es ep (e.trans ho) r)
theorem OR.keep{h h':Heap}{a:Addr}{m:MO}(x:OR h a m)(e:h'.get? a=h.get? a)(k:Keep h h'):OR h' a m:=by
 cases m with
 |lst vs=>refine ad x λitems z1 e6=>?_;clear x;obtain ⟨n,e1⟩:=z1;exact (af items ⟨n,e.trans e1⟩ (e6.keep k))
 |fr ρ=>
  refine ad x λm e1 e2=>?_;clear x;exact (af m (Heap.Ns.same e1 e) (λx v hx=>let ⟨y,a,b⟩:=e2 x v hx;⟨y,a,b.keep k⟩))
 |itl l i=>refine ad x λo ho r=>?_;clear x;exact (af o (e.trans ho) r)
 |any P=>refine ad x λo ho r=>?_;clear x;exact (af o (e.trans ho) r)
 |hp P=>refine k7 x λo h₀ ho r k0 p=>?_;clear x;exact (fA o h₀ (e.trans ho) r (k0.trans k) p)
 |ins c dx=>exact ⟨e.trans x.1,x.2⟩
 |ns m=>refine am x λes n ho r=>?_;clear x;exact (cy es n (e.trans ho) (r.keep k))
 |cel v=>
  cases v with
  |none=>refine ad x λo ho hd=>?_;exact (af o (e.trans ho) hd)
  |some m=>refine ad x λv z1 r=>?_;refine ad z1 λo ho hd=>?_;exact (af v ⟨o,e.trans ho,hd⟩ (r.keep k))
 |_=>exact x.elim
structure Cx where
 w:FL
 h0:Heap
 os:OsState
 last:∃o,h0.get? (h0.objs.size-1)=EU o
structure Inv (C:Cx) (σ:Sg) (s:Shared):Prop where
 old:∀b o,C.h0.get? b=EU o->s.heap.get? b=EU o
 rep:∀a m,σ a=EU m->C.h0.objs.size≤a∧OR s.heap a m
 gens:s.gens= #[]
 os:s.os=C.os
variable {C:Cx} {σ:Sg} {s:Shared}
theorem Inv.sz(I:Inv C σ s):C.h0.objs.size≤s.heap.objs.size:=by
 obtain ⟨o,ho⟩:=C.last;have z:C.h0.objs.size-1<s.heap.objs.size:=Heap.lt_size (I.old _ _ ho);exact Nat.le_of_pred_lt z
theorem Inv.toks(I:Inv C σ s)(t:Nat):Inv C σ {s with toks:=t}:=⟨I.old,I.rep,I.gens,I.os⟩
theorem Inv.grow(I:Inv C σ s){h':Heap}(k:∀b o,s.heap.get? b=EU o->h'.get? b=EU o)(t:Nat):Inv C σ {s with heap:=h',toks:=t}:=by
 refine ⟨λb o e=>k b o (I.old b o e),λa m e=>?_,I.gens,I.os⟩;refine xa1 (I.rep a m e) λh1 h2=>?_;refine ad h2.notImm λoo ho _=>?_;exact ⟨h1,h2.keep ((k _ _ ho).trans ho.symm) λb o e _=>k b o e⟩
theorem Inv.lt(I:Inv C σ s){a:Addr}{m:MO}(e:σ a=EU m):a<s.heap.objs.size:=by
 refine ad ((I.rep a m e).2.notImm) λo ho _=>?_;exact Heap.lt_size ho
theorem Inv.fresh(I:Inv C σ s):σ s.heap.objs.size=none:=by
 cases e:σ s.heap.objs.size with
 |none=>rfl
 |some m=>exact absurd (I.lt e) (FC _)
theorem Inv.ne(I:Inv C σ s){a:Addr}{m:MO}(e:σ a=EU m):a≠s.heap.objs.size:=Fi (I.lt e)
theorem keep_push(h:Heap)(o:Obj):Keep h (h.push o):=λ_ _ e _=>Heap.get?_push_of_some o e
theorem ue{h:Heap}{a:Addr}{o':Obj}(o:Obj)(e:h.get? a=EU o'):(h.push o).get? a=h.get? a:=(Heap.get?_push_of_some o e).trans e.symm
theorem Inv.push(I:Inv C σ s)(o:Obj):Inv C σ {s with heap:=s.heap.push o}:=by
 refine ⟨λb o' e=>Heap.get?_push_of_some o (I.old b o' e),λa m e=>?_,I.gens,I.os⟩
 ·refine xa1 (I.rep a m e) λh1 h2=>?_;refine ad h2.notImm λoo ho _=>?_;exact ⟨h1,h2.keep (ue o ho) (keep_push _ o)⟩
theorem Inv.own(I:Inv C σ s){a:Addr}{m:MO}(h1:C.h0.objs.size≤a)(h2:OR s.heap a m):Inv C (σ.put a m) s:=by
 refine ⟨I.old,λb n e=>?_,I.gens,I.os⟩;unfold Sg.put at e;split at e
 ·rename_i hb;subst hb;cases e;exact ⟨h1,h2⟩
 ·exact I.rep b n e
theorem Inv.del(I:Inv C σ s)(a:Addr):Inv C (σ.del a) s:=by
 refine ⟨I.old,λb n e=>?_,I.gens,I.os⟩;unfold Sg.del at e;split at e
 ·cases e
 ·exact I.rep b n e
theorem kC{h h':Heap}{a:Addr}{m:MO}(x:OR h a m)(sb:Heap.SameBut a h h'):Keep h h':=λb o e i=>by
 by_cases hb:b=a
 ·clear sb;subst hb;refine ad x.notImm λo' ho' hi=>?_;rw[e] at ho';cases ho';rw[i] at hi;cases hi
 ·rw[sb.2 b hb];exact e
theorem lL(I:Inv C σ s){a:Addr}{m:MO}(e:σ a=EU m){b:Addr}{o:Obj}(h:C.h0.get? b=EU o):b≠a:=by
 have:=Heap.lt_size h;have:=(I.rep a m e).1;exact Fi (E1 ‹_› this)
theorem Inv.upd(I:Inv C σ s){a:Addr}{m m':MO}{h':Heap}{t:Nat}(e:σ a=EU m)(sb:Heap.SameBut a s.heap h')(x:OR h' a m'):Inv C (σ.put a m') {s with heap:=h',toks:=t}:=by
 have k:=kC (I.rep a m e).2 sb;refine ⟨λb o hb=>by rw[sb.2 b (lL I e hb)];exact I.old b o hb,λb n hb=>?_,I.gens,I.os⟩
 ·unfold Sg.put at hb;split at hb
  ·rename_i hba;clear sb;subst hba;cases hb;exact ⟨(I.rep _ _ e).1,x⟩
  ·rename_i hba;refine xa1 (I.rep b n hb) λh1 h2=>?_;exact ⟨h1,h2.keep (sb.2 b hba) k⟩
end
section
structure St where
 σ:Sg
 ρ:Lo
structure Xc where
 C:Cx
 A:Fb
 env:Env
 gs:List (Str×Value)
noncomputable abbrev pgm:Program:=E9
noncomputable abbrev Xc.M(X:Xc):Model:=Fa pgm X.C.w
noncomputable def NoE:Value->Shared->Prop:=λ_ _=>False
noncomputable def tot(σ φ:Sg)(F:Addr)(ρ:Lo):Sg:=λa=>if a=F then EU (.fr ρ) else (σ a).or (φ a)
structure IF (X:Xc) (φ:Sg) (st:St) (s:Shared):Prop where
 inv:Inv X.C (tot st.σ φ X.env.locals st.ρ) s
 no:st.σ X.env.locals=none
 dis:∀a m,st.σ a=EU m->φ a=none
 loc:∀x v,lk st.ρ x=EU v->X.env.kindOf x=EU .local∧(x==("__debug__" :Str))=false
structure XOk (X:Xc):Prop where
 fn:X.env.scope.kind= .function
 hh:X.A.handled=none
 glo:∀x v,X.gs.lookup x=EU v->X.env.kindOf x=EU .globalImplicit∧(x==("__debug__" :Str))=false∧
  ∀s,(∀b o,X.C.h0.get? b=EU o->s.heap.get? b=EU o)->∀(E:Value->Shared->Prop) (Q:Value->Shared->Prop),Q v s->E4 X.M X.A (loadGlobal X.env x) Q E s
inductive Post (X:Xc) (φ:Sg) (s:Shared) (Q:MV->St->Prop) (v:Value) (s':Shared):Prop
 |i (m:MV) (st:St) (r:VR s'.heap m v) (I:IF X φ st s') (k:Keep s.heap s'.heap) (q:Q m st)
noncomputable def WV(X:Xc)(t:Sem Value)(st:St)(Q:MV->St->Prop):Prop:=∀φ s,IF X φ st s->E4 X.M X.A t (Post X φ s Q) NoE s
noncomputable def WE(X:Xc)(e:Fw)(st:St)(Q:MV->St->Prop):Prop:=WV X (eval e X.env) st Q
noncomputable def W1(X:Xc)(f:Value->Sem Value)(a:MV)(st:St)(Q:MV->St->Prop):Prop:=
 ∀φ s v,IF X φ st s->VR s.heap a v->E4 X.M X.A (f v) (Post X φ s Q) NoE s
noncomputable def W2(X:Xc)(f:Value->Value->Sem Value)(a b:MV)(st:St)(Q:MV->St->Prop):Prop:=
 ∀φ s v w,IF X φ st s->VR s.heap a v->VR s.heap b w->E4 X.M X.A (f v w) (Post X φ s Q) NoE s
inductive PostB (X:Xc) (φ:Sg) (s:Shared) (Q:Bool->St->Prop) (b:Bool) (s':Shared):Prop
 |i (st':St) (I:IF X φ st' s') (k:Keep s.heap s'.heap) (q:Q b st')
noncomputable def WB(X:Xc)(e:Fw)(st:St)(Q:Bool->St->Prop):Prop:=
 ∀φ s,IF X φ st s->E4 X.M X.A (isTrue e X.env (eval e X.env)) (PostB X φ s Q) NoE s
noncomputable def WT(X:Xc)(a:MV)(st:St)(Q:Bool->St->Prop):Prop:=
 ∀φ s v,IF X φ st s->VR s.heap a v->E4 X.M X.A (truthy v) (PostB X φ s Q) NoE s
variable {X:Xc} {st:St} {φ:Sg} {Q:MV->St->Prop}
theorem IF.toks{s:Shared}(I:IF X φ st s)(t:Nat):IF X φ st {s with toks:=t}:=⟨I.inv.toks t,I.no,I.dis,I.loc⟩
theorem IF.tot{s:Shared}(I:IF X φ st s){a:Addr}{m:MO}(e:st.σ a=EU m):tot st.σ φ X.env.locals st.ρ a=EU m:=by
 unfold Internal.tot;rw[if_neg (λh=>by rw[h,I.no] at e;cases e),e];rfl
theorem IF.own{s:Shared}(I:IF X φ st s){a:Addr}{m:MO}(e:st.σ a=EU m):OR s.heap a m:=(I.inv.rep a m (I.tot e)).2
theorem IF.upd{s:Shared}(I:IF X φ st s){a:Addr}{m m':MO}{h':Heap}{t:Nat}(e:st.σ a=EU m)(sb:Heap.SameBut a s.heap h')(x:OR h' a m'):
 IF X φ ⟨st.σ.put a m',st.ρ⟩ {s with heap:=h',toks:=t}:=by
 have ne:a≠X.env.locals:=λh=>by rw[h,I.no] at e;cases e
 have z:=I.inv.upd (t:=t) (I.tot e) sb x
 have q:(Internal.tot st.σ φ X.env.locals st.ρ).put a m'=Internal.tot (st.σ.put a m') φ X.env.locals st.ρ:=by
  funext b;unfold Sg.put Internal.tot;by_cases h1:b=a
  ·clear e sb x z;subst h1;simp[ne]
  ·simp[h1]
 rw[q] at z;refine ⟨z,?_,λb n hb=>?_,I.loc⟩
 ·show (if X.env.locals=a then EU m' else st.σ X.env.locals)=none;rw[if_neg (E8 ne)];exact I.no
 ·have hb:(if b=a then EU m' else st.σ b)=EU n:=hb;by_cases h1:b=a
  ·clear sb x ne z q hb;subst h1;exact I.dis _ _ e
  ·rw[if_neg h1] at hb;exact I.dis _ _ hb
theorem bB{σ φ:Sg}{F:Addr}{ρ:Lo}{a:Addr}(h:tot σ φ F ρ a=none):a≠F∧σ a=none∧φ a=none:=by
 unfold tot at h;split at h
 ·cases h
 ·rename_i ne
  cases h1:σ a with
  |some m=>rw[h1] at h;cases h
  |none=>rw[h1] at h;exact (ia2 ne rfl h)
theorem IF.new{s:Shared}(I:IF X φ st s){o:Obj}{m:MO}(x:OR (s.heap.push o) s.heap.objs.size m):st.σ s.heap.objs.size=none∧IF X φ ⟨st.σ.put s.heap.objs.size m,st.ρ⟩ {s with heap:=s.heap.push o}:=by
 refine xa2 (bB I.inv.fresh) λn1 n2 n3=>?_;have z:=(I.inv.push o).own (a:=s.heap.objs.size) (m:=m) I.inv.sz x
 have q:(Internal.tot st.σ φ X.env.locals st.ρ).put s.heap.objs.size m=Internal.tot (st.σ.put s.heap.objs.size m) φ X.env.locals st.ρ:=by
  funext b;unfold Sg.put Internal.tot;by_cases h1:b=s.heap.objs.size
  ·subst h1;simp[n1]
  ·simp[h1]
 rw[q] at z;refine ⟨n2,z,?_,λb n hb=>?_,I.loc⟩
 ·show (if X.env.locals=s.heap.objs.size then EU m else st.σ X.env.locals)=none;rw[if_neg (E8 n1)];exact I.no
 ·have hb:(if b=s.heap.objs.size then EU m else st.σ b)=EU n:=hb;by_cases h1:b=s.heap.objs.size
  ·clear hb;subst h1;exact n3
  ·rw[if_neg h1] at hb;exact I.dis _ _ hb
theorem IF.push{s:Shared}(I:IF X φ st s)(o:Obj):IF X φ st {s with heap:=s.heap.push o}:=⟨I.inv.push o,I.no,I.dis,I.loc⟩
theorem Post.mk{s s':Shared}{v:Value}{m:MV}{st':St}(a:VR s'.heap m v)(b:IF X φ st' s')(c:Keep s.heap s'.heap)(d:Q m st'):Post X φ s Q v s':=⟨m,st',a,b,c,d⟩
theorem Post.trans{s s₁ s₂:Shared}{v:Value}(k:Keep s.heap s₁.heap)(x:Post X φ s₁ Q v s₂):Post X φ s Q v s₂:=by
 obtain ⟨m,st',a,b,c,d⟩:=x;exact ⟨m,st',a,b,k.trans c,d⟩
theorem PostB.trans{QB:Bool->St->Prop}{s s₁ s₂:Shared}{b:Bool}(k:Keep s.heap s₁.heap)(x:PostB X φ s₁ QB b s₂):PostB X φ s QB b s₂:=by
 obtain ⟨st',b,c,d⟩:=x;exact ⟨st',b,k.trans c,d⟩
theorem ab{α:Type}{M:Model}{A:Fb}{t:Sem α}{s:Shared}{P R:α->Shared->Prop}(h:E4 M A t P NoE s)(f:∀v s',P v s'->R v s'):E4 M A t R NoE s:=
 FE h f (λ_ _ x=>x)
theorem w_f{α:Type}{M:Model}{A:Fb}{E:Value->Shared->Prop}{s:Shared}{c:Bool}{a b:Sem α}{Q:α->Shared->Prop}(hc:c=false)(h:E4 M A b Q E s):E4 M A (if c=true then a else b) Q E s:=by
 rw[hc];exact h
theorem w_t{α:Type}{M:Model}{A:Fb}{E:Value->Shared->Prop}{s:Shared}{c:Bool}{a b:Sem α}{Q:α->Shared->Prop}(hc:c=true)(h:E4 M A a Q E s):E4 M A (if c=true then a else b) Q E s:=by
 rw[hc];exact h
theorem aq{i:Int}{k pos}(h:Q (.i i) st):WE X (.Constant (.int i) k pos) st Q:=λφ s I=>
 wpAny_Constant_int (.mk (cH ..) (I.toks _) (.refl _) h)
theorem aI{x:Str}{k pos}(h:Q (.s x) st):WE X (.Constant (.str x) k pos) st Q:=λφ s I=>
 wpAny_Constant_str (.mk (fq ..) (I.toks _) (.refl _) h)
theorem fJ{k pos}(h:Q (.k .none) st):WE X (.Constant .none k pos) st Q:=λφ s I=>
 PySem.wpAny_Constant_none (.mk (aZ ..) I (.refl _) h)
theorem eJ{b:Bool}{k pos}(h:Q (.k (.bool b)) st):WE X (.Constant (.bool b) k pos) st Q:=λφ s I=>
 PySem.wpAny_Constant_bool (.mk (aZ ..) I (.refl _) h)
theorem ar{l r:Fw}{op pos}(h:WE X l st λa st₁=>WE X r st₁ λb st₂=>W2 X (Ha op) a b st₂ Q):WE X (.BinOp l op r pos) st Q:=λφ s I=>by
 refine wpAny_BinOp (ab (h φ s I) λv s₁ pp=>?_);obtain ⟨a,st₁,r1,I1,k1,h1⟩:=pp;refine ab (h1 φ s₁ I1) λw s₂ pp=>?_;obtain ⟨b,st₂,r2,I2,k2,h2⟩:=pp;exact ab (h2 φ s₂ v w I2 (r1.keep k2) r2) λu s₃ p=>p.trans (k1.trans k2)
theorem lN{l r:Fw}{op pos}(hm:behindInMarks op r=false)(h:WE X l st λa st₁=>WE X r st₁ λb st₂=>W2 X (Fx op) a b st₂ Q):WE X (.Compare l [op] [r] pos) st Q:=λφ s I=>by
 refine wpAny_Compare1 (ab (h φ s I) λv s₁ pp=>?_) hm;obtain ⟨a,st₁,r1,I1,k1,h1⟩:=pp;refine ab (h1 φ s₁ I1) λw s₂ pp=>?_;obtain ⟨b,st₂,r2,I2,k2,h2⟩:=pp;exact ab (h2 φ s₂ v w I2 (r1.keep k2) r2) λu s₃ p=>p.trans (k1.trans k2)
theorem xW{x:Fw}{op pos}(h:WE X x st λa st₁=>W1 X (unaryOp op) a st₁ Q):WE X (.UnaryOp op x pos) st Q:=λφ s I=>by
 refine PySem.wpAny_UnaryOp (ab (h φ s I) λv s₁ pp=>?_);obtain ⟨a,st₁,r1,I1,k1,h1⟩:=pp;exact ab (h1 φ s₁ v I1 r1) λu s₃ p=>p.trans k1
theorem IF.frame{s:Shared}(I:IF X φ st s):FrR s.heap X.env.locals st.ρ:=(I.inv.rep X.env.locals (.fr st.ρ) (if_pos rfl)).2
theorem gF(O:XOk X){x:Str}{pos m}(h:lk st.ρ x=EU (EU m))(hq:Q m st):WE X (.Name x pos) st Q:=λφ s I=>by
 refine ad I.frame λmm hn hv=>?_;refine ad (hv x m h) λy hy r=>?_;exact wpAny_Name (wpAny_loadName_local O.fn (I.loc x _ h).1 hn hy (.mk r I (.refl _) hq)) (I.loc x _ h).2
theorem de(O:XOk X){x:Str}{pos v}(h:X.gs.lookup x=EU v)(hq:Q (.k v) st):WE X (.Name x pos) st Q:=λφ s I=>by
 refine xa2 (O.glo x v h) λa b c=>?_;exact Name_function_global O.fn a (c s I.inv.old _ _ (.mk (aZ ..) I (.refl _) hq)) b
theorem IF.store{s:Shared}(I:IF X φ st s){x:Str}{m:MV}{v:Value}{h':Heap}{t:Nat}{mm:Str->Option Value}(r:VR s.heap m v)(hmm:∀x v,lk st.ρ x=EU (EU v)->∃y,mm x=EU y∧VR s.heap v y)
 (hn':h'.Ns X.env.locals (λy=>if y=x then EU v else mm y)) (sb:Heap.SameBut X.env.locals s.heap h'):IF X φ ⟨st.σ,stL st.ρ x m⟩ {s with heap:=h',toks:=t}∧Keep s.heap h':=by
 have e:Internal.tot st.σ φ X.env.locals st.ρ X.env.locals=EU (.fr st.ρ):=if_pos rfl;have k:=kC (I.inv.rep _ _ e).2 sb
 have z:OR h' X.env.locals (.fr (stL st.ρ x m)):=by
  refine (af _ hn' (λy u hy=>?_));rw[gM] at hy;by_cases hx:y=x
  ·rw[if_pos hx] at hy;rw[if_pos hx]
   cases hlk:lk st.ρ x with
   |none=>rw[hlk] at hy;cases hy
   |some q=>rw[hlk] at hy;cases hy;exact (af v rfl (r.keep k))
  ·rw[if_neg hx] at hy;rw[if_neg hx];refine ad (hmm y u hy) λw hw rw_=>?_;exact (af w hw (rw_.keep k))
 have w:=I.inv.upd (t:=t) e sb z
 have q:(Internal.tot st.σ φ X.env.locals st.ρ).put X.env.locals (.fr (stL st.ρ x m))=Internal.tot st.σ φ X.env.locals (stL st.ρ x m):=by
  funext b;unfold Sg.put Internal.tot;by_cases h1:b=X.env.locals
  ·simp[h1]
  ·simp[h1]
 rw[q] at w;refine ⟨⟨w,I.no,I.dis,λy u hy=>?_⟩,k⟩;have hy:lk (stL st.ρ x m) y=EU u:=hy;rw[gM] at hy;split at hy
 ·rename_i hx;subst hx
  cases hlk:lk st.ρ y with
  |none=>rw[hlk] at hy;cases hy
  |some q=>exact I.loc y q hlk
 ·exact I.loc y u hy
end
section
variable {X:Xc} {st:St} {φ:Sg}
theorem IF.grow{s:Shared}(I:IF X φ st s){h':Heap}(k:∀b o,s.heap.get? b=EU o->h'.get? b=EU o)(t:Nat):IF X φ st {s with heap:=h',toks:=t}:=⟨I.inv.grow k t,I.no,I.dis,I.loc⟩
theorem aB{h h':Heap}(k:∀b o,h.get? b=EU o->h'.get? b=EU o):Keep h h':=λb o e _=>k b o e
theorem mf{h h':Heap}(k:Heap.ExtBut h.objs.size h h'):∀b o,h.get? b=EU o->h'.get? b=EU o:=λb o e=>k b o (Fi (Heap.lt_size e)) e
inductive PostU (X:Xc) (φ:Sg) (s:Shared) (Q:St->Prop) (s':Shared):Prop
 |i (st':St) (I:IF X φ st' s') (k:Keep s.heap s'.heap) (q:Q st')
theorem PostU.trans{Q:St->Prop}{s s₁ s₂:Shared}(k:Keep s.heap s₁.heap)(x:PostU X φ s₁ Q s₂):PostU X φ s Q s₂:=by
 obtain ⟨st',b,c,d⟩:=x;exact ⟨st',b,k.trans c,d⟩
noncomputable def WA(X:Xc)(tgt:Fw)(m:MV)(st:St)(Q:St->Prop):Prop:=
 ∀φ s v,IF X φ st s->VR s.heap m v->E4 X.M X.A (assign tgt X.env v) (λ_=>PostU X φ s Q) NoE s
noncomputable def WAs(X:Xc):List Fw->List MV->St->(St->Prop)->Prop
 | [],[],st,Q=>Q st
 |t::ts,m::ms,st,Q=>WA X t m st λst'=>WAs X ts ms st' Q
 |_,_,_,_=>False
theorem gB(O:XOk X){x:Str}{m:MV}{u:Option MV}{s:Shared}{v:Value}{Q:St->Prop}(hl:lk st.ρ x=EU u)(hq:Q ⟨st.σ,stL st.ρ x m⟩)(I:IF X φ st s)(r:VR s.heap m v):
 E4 X.M X.A (storeName X.env x v) (λ_=>PostU X φ s Q) NoE s:=by
 refine ad I.frame λmm hn hv=>?_;refine wpAny_storeName_local (I.loc x _ hl).1 hn (λh' hn' sb=>?_) (by rw[O.fn];rfl);refine xa1 (I.store (t:=s.toks+1) r hv hn' sb) λI' k=>?_;exact ⟨_,I',k,hq⟩
theorem lU(O:XOk X){x:Str}{pos m u}{Q:St->Prop}(hl:lk st.ρ x=EU u)(hq:Q ⟨st.σ,stL st.ρ x m⟩):WA X (.Name x pos) m st Q:=λφ s v I r=>
 wpAny_assign_Name (gB O hl hq I r)
noncomputable def Starless:List Fw->Prop
 | []=>True
 | .Starred .. ::_=>False
 |_::l=>Starless l
theorem cf(env:Env):∀{ts:List Fw},Starless ts->assignEach ts env=ts.map λt=>(false,assign t env)
 | [],_=>rfl
 |t::ts,h=>by
  have ih:Starless ts->assignEach ts env=ts.map λt=>(false,assign t env):=cf env;cases t<;>first|exact h.elim|exact congrArg (List.cons _) (ih h)
theorem qg{Q:St->Prop}:∀{ts:List Fw} {ms:List MV} {st:St} {s:Shared} {vs:List Value},WAs X ts ms st Q->IF X φ st s->VRs s.heap ms vs->
 E4 X.M X.A (assignInOrder (ts.map λt=>assign t X.env) vs) (λ_=>PostU X φ s Q) NoE s
 | [],[],st,s,vs,h,I,r=>by
  unfold VRs at r;subst r;exact assignInOrder_nil ⟨st,I,.refl _,h⟩
 |t::ts,m::ms,st,s,vs,h,I,r=>by
  unfold VRs at r;refine am r λy ys z1 z2=>?_;clear r;subst z1;refine xa1 z2 λe2 e3=>?_;refine assignInOrder_cons (ab (h φ s y I e2) λ_ s₁ pp=>?_);obtain ⟨st₁,I₁,k₁,h₁⟩:=pp;exact ab (qg h₁ I₁ (e3.keep k₁)) λ_ s₂ p=>p.trans k₁
 | [],_::_,_,_,_,h,_,_=>h.elim
 |_::_,[],_,_,_,h,_,_=>h.elim
theorem iI(O:XOk X){ts:List Fw}{ms:List MV}{k pos}{Q:St->Prop}(hs:Starless ts)(hn:ts.length=ms.length)(h:WAs X ts ms st Q):WA X (.Tuple ts k pos) (.t (.type "tuple") ms) st Q:=λφ s v I r=>by
 refine bz r λa o items n z1 z2=>?_;clear r;subst z1;refine xa4 z2 λe2 e3 e4 e5 e6=>?_;have ea:=cf X.env hs;have len:=e6.length;refine assign_Tuple_tuple O.hh (cj o e2 e4 n e5) (by rw[ea];simp only[EZ,hn];rw[←len];simp) (by rw[ea];simp[List.findIdx?_eq_none_iff]) λh' he=>?_;rw[ea,FS];have k:=mf he;exact ab (qg (φ:=φ) h (I.grow k s.toks) (e6.keep (aB k))) λ_ s₂ p=>p.trans (aB k)
inductive Fl
 |next|brk|cont
 |ret (m:MV)
noncomputable def FlR(h:Heap):Fl->Flow->Prop
 | .next,f=>f= .next
 | .brk,f=>f= .brk
 | .cont,f=>f= .cont
 | .ret m,f=>∃v,f= .ret v∧VR h m v
inductive PostS (X:Xc) (φ:Sg) (s:Shared) (Q:Fl->St->Prop) (f:Flow) (s':Shared):Prop
 |i (fl:Fl) (st':St) (r:FlR s'.heap fl f) (I:IF X φ st' s') (k:Keep s.heap s'.heap) (q:Q fl st')
theorem PostS.trans{Q:Fl->St->Prop}{s s₁ s₂:Shared}{f:Flow}(k:Keep s.heap s₁.heap)(x:PostS X φ s₁ Q f s₂):PostS X φ s Q f s₂:=by
 obtain ⟨fl,st',a,b,c,d⟩:=x;exact ⟨fl,st',a,b,k.trans c,d⟩
noncomputable def WS1(X:Xc)(x:Stmt)(st:St)(Q:Fl->St->Prop):Prop:=∀φ s,IF X φ st s->E4 X.M X.A (exec x X.env) (PostS X φ s Q) NoE s
noncomputable def WS(X:Xc)(x:List Stmt)(st:St)(Q:Fl->St->Prop):Prop:=∀φ s,IF X φ st s->E4 X.M X.A (execs x X.env) (PostS X φ s Q) NoE s
variable {Q:Fl->St->Prop}
noncomputable def fo(X:Xc)(rest:List Stmt)(Q:Fl->St->Prop):Fl->St->Prop
 | .next,st=>WS X rest st Q
 |f,st=>Q f st
theorem ak(h:Q .next st):WS X [] st Q:=λφ s I=>wpAny_execs_nil ⟨.next,st,rfl,I,.refl _,h⟩
theorem aa{x:Stmt}{rest:List Stmt}(h:WS1 X x st (fo X rest Q)):WS X (x::rest) st Q:=λφ s I=>by
 refine wpAny_execs_cons (ab (h φ s I) λf s₁ pp=>?_);obtain ⟨fl,st₁,r,I₁,k,q⟩:=pp
 cases fl with
 |next=>cases (show f= .next from r);exact ab (q φ s₁ I₁) λf s₂ p=>p.trans k
 |brk=>cases (show f= .brk from r);exact ⟨.brk,st₁,rfl,I₁,k,q⟩
 |cont=>cases (show f= .cont from r);exact ⟨.cont,st₁,rfl,I₁,k,q⟩
 |ret m=>
  refine ad r λv z1 rv=>?_;clear r;subst z1;exact ⟨.ret m,st₁,(af v rfl rv),I₁,k,q⟩
theorem ah{t value:Fw}{pos}(hs:swapsWithSole [t] value pos.line X.env=pure false)(hw:Ht [t] value X.env=pure none)(ht:Starless [t])
 (h:WE X value st λm st₁=>WA X t m st₁ λst₂=>Q .next st₂):WS1 X (.Assign [t] value pos) st Q:=λφ s I=>by
 refine wpAny_Assign_stores (ab (h φ s I) λv s₁ pp=>?_) hs hw;obtain ⟨m,st₁,r,I₁,k,h₁⟩:=pp;rw[cf X.env ht];show E4 _ _ (assign t X.env v) _ _ _;exact ab (h₁ φ s₁ v I₁ r) λ_ s₂ ⟨st₂,I₂,k₂,q⟩=>⟨.next,st₂,rfl,I₂,k.trans k₂,q⟩
theorem vN{pos}(h:Q .next st):WS1 X (.Pass pos) st Q:=λφ s I=>wpAny_Pass ⟨.next,st,rfl,I,.refl _,h⟩
theorem mZ{pos}(h:Q .brk st):WS1 X (.Break pos) st Q:=λφ s I=>wpAny_Break ⟨.brk,st,rfl,I,.refl _,h⟩
theorem ja{pos}(h:Q .cont st):WS1 X (.Continue pos) st Q:=λφ s I=>wpAny_Continue ⟨.cont,st,rfl,I,.refl _,h⟩
theorem bd{e:Fw}{pos}(h:WE X e st λm st₁=>Q (.ret m) st₁):WS1 X (.Return (EU e) pos) st Q:=λφ s I=>
 wpAny_Return_some (ab (h φ s I) λv s₁ ⟨m,st₁,r,I₁,k,q⟩=>⟨.ret m,st₁,(af v rfl r),I₁,k,q⟩)
theorem lR{pos}(h:Q (.ret (.k .none)) st):WS1 X (.Return none pos) st Q:=λφ s I=>
 wpAny_Return_none ⟨.ret (.k .none),st,(af _ rfl (aZ ..)),I,.refl _,h⟩
theorem bl{test:Fw}{body orelse:List Stmt}{pos}(h:WB X test st λb st₁=>if b=true then WS X body st₁ Q else WS X orelse st₁ Q):WS1 X (.If test body orelse pos) st Q:=λφ s I=>by
 refine wpAny_If (ab (h φ s I) λb s₁ pp=>?_);obtain ⟨st₁,I₁,k,q⟩:=pp
 cases b with
 |true=>rw[if_pos rfl] at q⊢;exact ab (q φ s₁ I₁) λf s₂ p=>p.trans k
 |false=>rw[if_neg s!"d"] at q⊢;exact ab (q φ s₁ I₁) λf s₂ p=>p.trans k
noncomputable def MV.flat:MV->Prop
 | .k (.ref _)=>False
 | .k _=>True
 | .i _=>True
 | .s _=>True
 |_=>False
theorem aA{e:Fw}{pos}(hi:GF X.env=false)(hs:swapsWith e none pos.line X.env=pure false)(h:WE X e st λm st₁=>m.flat∧Q .next st₁):WS1 X (.Expr e pos) st Q:=λφ s I=>by
 refine wpAny_Expr (ab (h φ s I) λv s₁ pp=>?_) hi hs;obtain ⟨m,st₁,r,I₁,k,f,q⟩:=pp;have z:PostS X φ s Q .next s₁:=⟨.next,st₁,rfl,I₁,k,q⟩
 cases m with
 |k u=>cases ((show v=u from r));clear r;cases v<;>first|exact f.elim|exact z
 |i n=>refine xe1 r λt z1=>?_;clear r;subst z1;exact z
 |s x=>refine xe1 r λt z1=>?_;clear r;subst z1;exact z
 |_=>exact f.elim
@[reducible] def WhP(J:Nat->St->Prop)(n:Nat)(Q:Fl->St->Prop):Fl->St->Prop
 | .next,st=>∃m,m<n∧J m st
 | .cont,st=>∃m,m<n∧J m st
 | .brk,st=>Q .next st
 | .ret v,st=>Q (.ret v) st
theorem dg{test:Fw}{body orelse:List Stmt}{pos}(J:Nat->St->Prop)
 (turn:∀J':Nat->St->Prop,(∀n st,J n st->J' n st)->∀n st,J n st->WB X test st λb st₁=>if b=true then WS X body st₁ (WhP J' n Q) else WS X orelse st₁ Q) (n:Nat) (h:J n st):WS1 X (.While test body orelse pos) st Q:=λφ s I=>by
 refine wpAny_While ?_;refine codeAny_whileLoop (λn s'=>∃st',IF X φ st' s'∧Keep s.heap s'.heap∧J n st') (λn s₁ pp=>?_) n (aR st I (.refl _) h);refine aV pp λst₁ I₁ k₁ j₁=>?_;clear pp;refine FE (turn J (λ_ _ h=>h) n st₁ j₁ φ s₁ I₁) (λb s₂ pp=>?_) λ_ _ x=>x.elim;obtain ⟨st₂,I₂,k₂,q₂⟩:=pp
 cases b with
 |false=>
  rw[if_neg s!"d"] at q₂⊢;exact FE (q₂ φ s₂ I₂) (λf s₃ p=>p.trans (k₁.trans k₂)) λ_ _ x=>x.elim
 |true=>
  rw[if_pos rfl] at q₂⊢;refine FE (q₂ φ s₂ I₂) (λf s₃ pp=>?_) λ_ _ x=>x.elim;obtain ⟨fl,st₃,r,I₃,k₃,q₃⟩:=pp;have kk:=k₁.trans (k₂.trans k₃)
  cases fl with
  |next=>cases (show f= .next from r);refine ad q₃ λm hm j=>?_;clear q₃;exact (dc m hm st₃ ⟨I₃,kk,j⟩)
  |cont=>cases (show f= .cont from r);refine ad q₃ λm hm j=>?_;clear q₃;exact (dc m hm st₃ ⟨I₃,kk,j⟩)
  |brk=>cases (show f= .brk from r);exact ⟨.next,st₃,rfl,I₃,kk,q₃⟩
  |ret m=>refine ad r λv z1 rv=>?_;clear r;subst z1;exact ⟨.ret m,st₃,(af v rfl rv),I₃,kk,q₃⟩
end
section
variable {X:Xc} {st:St} {φ:Sg} {Q:MV->St->Prop} {QB:Bool->St->Prop}
section
variable {x y:Int}
theorem dW{f:Value->Value->Sem Value}{x y:Int}(h:∀φ s t u,IF X φ st s->E4 X.M X.A (f (.int x t) (.int y u)) (Post X φ s Q) NoE s):W2 X f (.i x) (.i y) st Q:=λφ s v w I e1 e2=>e1.elim λt e1=>e2.elim λu e2=>by
 rw[e1,e2];exact h φ s t u I
theorem jv{f:Value->Value->Sem Value}{x y:Str}(h:∀φ s t u,IF X φ st s->E4 X.M X.A (f (.str x t) (.str y u)) (Post X φ s Q) NoE s):W2 X f (.s x) (.s y) st Q:=λφ s v w I e1 e2=>e1.elim λt e1=>e2.elim λu e2=>by
 rw[e1,e2];exact h φ s t u I
theorem c0(h:Q (.i (x+y)) st):W2 X (Ha .Add) (.i x) (.i y) st Q:=dW λφ s t u I=>PyProof.Rows.add_int (.mk (cH ..) (I.toks _) (.refl _) h)
theorem fa(h:Q (.i (x-y)) st):W2 X (Ha .Sub) (.i x) (.i y) st Q:=dW λφ s t u I=>PyProof.Rows.sub_int (.mk (cH ..) (I.toks _) (.refl _) h)
theorem oE(hm:IntMulOk x y)(h:Q (.i (x*y)) st):W2 X (Ha .Mult) (.i x) (.i y) st Q:=dW λφ s t u I=>PyProof.Rows.mul_int (.mk (cH ..) (I.toks _) (.refl _) h) hm
theorem Dd(hb:y≠0)(h:Q (.i (x.fmod y)) st):W2 X (Ha .Mod) (.i x) (.i y) st Q:=dW λφ s t u I=>PyProof.Rows.mod_int hb (.mk (cH ..) (I.toks _) (.refl _) h)
theorem oI(hp:Builtin.divisionGoesByPylong x y=false)(hb:y≠0)(h:Q (.i (x.fdiv y)) st):W2 X (Ha .FloorDiv) (.i x) (.i y) st Q:=dW λφ s t u I=>PyProof.Rows.floordiv_int hb (.mk (cH ..) (I.toks _) (.refl _) h) (.inl hp)
theorem C5(hb:0≤y)(h:Q (.i (x.fdiv (2^y.toNat))) st):W2 X (Ha .RShift) (.i x) (.i y) st Q:=dW λφ s t u I=>PyProof.Rows.rshift_int hb (.mk (cH ..) (I.toks _) (.refl _) h)
theorem gV(h:Q (.k (.bool (decide (x<y)))) st):W2 X (Fx .Lt) (.i x) (.i y) st Q:=dW λφ s t u I=>PyProof.Rows.lt_int (.mk (aZ ..) I (.refl _) h)
theorem hN(h:Q (.k (.bool (decide (y<x)))) st):W2 X (Fx .Gt) (.i x) (.i y) st Q:=dW λφ s t u I=>PyProof.Rows.gt_int (.mk (aZ ..) I (.refl _) h)
theorem zV(h:Q (.k (.bool (decide (x≤y)))) st):W2 X (Fx .LtE) (.i x) (.i y) st Q:=dW λφ s t u I=>PyProof.Rows.le_int (.mk (aZ ..) I (.refl _) h)
theorem sH(h:Q (.k (.bool (decide (y≤x)))) st):W2 X (Fx .GtE) (.i x) (.i y) st Q:=dW λφ s t u I=>PyProof.Rows.ge_int (.mk (aZ ..) I (.refl _) h)
theorem jZ(h:Q (.k (.bool (x==y))) st):W2 X (Fx .Eq) (.i x) (.i y) st Q:=dW λφ s t u I=>PyProof.Rows.eq_int (.mk (aZ ..) I (.refl _) h)
theorem s4(h:Q (.k (.bool (x !=y))) st):W2 X (Fx .NotEq) (.i x) (.i y) st Q:=dW λφ s t u I=>PyProof.Rows.ne_int (.mk (aZ ..) I (.refl _) h)
theorem xD(h:Q (.i (-x)) st):W1 X (unaryOp .USub) (.i x) st Q:=λφ s v I ⟨t,e1⟩=>by
 subst e1;exact PyProof.Rows.neg_int (.mk (cH ..) (I.toks _) (.refl _) h)
end
section
variable {x y:Str}
theorem oM(h:Q (.k (.bool (x==y))) st):W2 X (Fx .Eq) (.s x) (.s y) st Q:=jv λφ s t u I=>PyProof.Rows.eq_str (.mk (aZ ..) I (.refl _) h)
theorem tP(h:Q (.k (.bool (x !=y))) st):W2 X (Fx .NotEq) (.s x) (.s y) st Q:=jv λφ s t u I=>PyProof.Rows.ne_str (.mk (aZ ..) I (.refl _) h)
theorem tF(h:Q (.k (.bool (Fc y x))) st):W2 X (Fx .In) (.s x) (.s y) st Q:=jv λφ s t u I=>PyProof.Rows.in_str (.mk (aZ ..) I (.refl _) h)
theorem cP(hl:x.length+y.length≤sizeLine)(h:Q (.s (x++y)) st):W2 X (Ha .Add) (.s x) (.s y) st Q:=jv λφ s t u I=>PyProof.Rows.add_str (λt' tk=> .mk (fq ..) (I.toks _) (.refl _) h) hl
end
noncomputable def MV.isNone:MV->Bool
 | .k .none=>true
 |_=>false
theorem nH{h:Heap}{m:MV}{v:Value}(r:VR h m v):(v== .none)=m.isNone:=by
 cases m with
 |k u=>cases ((show v=u from r));clear r;cases v<;>rfl
 |i n=>obtain ⟨t,rfl⟩:=r;rfl
 |s x=>obtain ⟨t,rfl⟩:=r;rfl
 |t c vs=>refine bz r λa o items n z1 _=>?_;clear r;subst z1;rfl
 |r a=>cases ((show v= .ref a from r));rfl
 |bm f m=>refine go r λa o y z1 _=>?_;clear r;subst z1;rfl
theorem oS{m:MV}(h:Q (.k (.bool m.isNone)) st):W2 X (Fx .Is) m (.k .none) st Q:=λφ s v w I r e2=>by
 cases (show w= .none from e2);refine is_none ?_;rw[nH r];exact .mk (aZ ..) I (.refl _) h
theorem eY{m:MV}(h:Q (.k (.bool (!m.isNone))) st):W2 X (Fx .IsNot) m (.k .none) st Q:=λφ s v w I r e2=>by
 cases (show w= .none from e2);refine isNot_none ?_;rw[nH r];exact .mk (aZ ..) I (.refl _) h
theorem ay{b:Bool}(h:QB b st):WT X (.k (.bool b)) st QB:=λφ s v I e=>by
 cases (show v= .bool b from e);exact wpAny_truthy_bool ⟨st,I,.refl _,h⟩
theorem zx(h:QB false st):WT X (.k .none) st QB:=λφ s v I e=>by
 cases (show v= .none from e);exact truthy_none ⟨st,I,.refl _,h⟩
theorem bZ{e:Fw}(he:isTrue e X.env (eval e X.env)=(do let v←eval e X.env;standAt e.pos;holding [v] (truthy v)))(h:WE X e st λm st₁=>WT X m st₁ QB):WB X e st QB:=λφ s I=>by
 refine isTrue_plain (ab (h φ s I) λv s₁ pp=>?_) he;obtain ⟨m,st₁,r,I₁,k,q⟩:=pp;exact ab (q φ s₁ v I₁ r) λb s₂ p=>p.trans k
theorem aC{l r:Fw}{op pos}(hm:behindInMarks op r=false)(h:WE X l st λa st₁=>WE X r st₁ λb st₂=>W2 X (Fx op) a b st₂ λc st₃=>WT X c st₃ QB):WB X (.Compare l [op] [r] pos) st QB:=λφ s I=>by
 refine wpAny_isTrue_Compare1 (ab (h φ s I) λv s₁ pp=>?_) hm;obtain ⟨a,st₁,r1,I1,k1,h1⟩:=pp;refine ab (h1 φ s₁ I1) λw s₂ pp=>?_;obtain ⟨b,st₂,r2,I2,k2,h2⟩:=pp;refine ab (h2 φ s₂ v w I2 (r1.keep k2) r2) λu s₃ pp=>?_;obtain ⟨c,st₃,r3,I3,k3,h3⟩:=pp;exact ab (h3 φ s₃ u I3 r3) λb s₄ p=>p.trans (k1.trans (k2.trans k3))
theorem gH{e:Fw}{pos}(h:WB X e st λb st₁=>QB (!b) st₁):WB X (.UnaryOp .Not e pos) st QB:=λφ s I=>
 isTrue_not (ab (h φ s I) λb s₁ ⟨st₁,I₁,k,q⟩=>⟨st₁,I₁,k,q⟩)
theorem g8{pos}(h:QB true st):WB X (.BoolOp .And [] pos) st QB:=λφ s I=>isTrue_and_nil ⟨st,I,.refl _,h⟩
theorem vo{pos}(h:QB false st):WB X (.BoolOp .Or [] pos) st QB:=λφ s I=>isTrue_or_nil ⟨st,I,.refl _,h⟩
theorem bW{e:Fw}{rest:List Fw}{pos}(h:WB X e st λb st₁=>if b=true then WB X (.BoolOp .And rest pos) st₁ QB else QB false st₁):WB X (.BoolOp .And (e::rest) pos) st QB:=λφ s I=>by
 refine isTrue_and (ab (h φ s I) λb s₁ pp=>?_);obtain ⟨st₁,I₁,k,q⟩:=pp
 cases b with
 |true=>
  rw[if_pos rfl] at q⊢;exact ab (q φ s₁ I₁) λb s₂ p=>p.trans k
 |false=>
  rw[if_neg s!"d"] at q⊢;exact ⟨st₁,I₁,k,q⟩
theorem Ce{e:Fw}{rest:List Fw}{pos}(h:WB X e st λb st₁=>if b=true then QB true st₁ else WB X (.BoolOp .Or rest pos) st₁ QB):WB X (.BoolOp .Or (e::rest) pos) st QB:=λφ s I=>by
 refine isTrue_or (ab (h φ s I) λb s₁ pp=>?_);obtain ⟨st₁,I₁,k,q⟩:=pp
 cases b with
 |true=>
  rw[if_pos rfl] at q⊢;exact ⟨st₁,I₁,k,q⟩
 |false=>
  rw[if_neg s!"d"] at q⊢;exact ab (q φ s₁ I₁) λb s₂ p=>p.trans k
theorem xA{test body orelse:Fw}{pos}(h:WB X test st λb st₁=>if b=true then WE X body st₁ Q else WE X orelse st₁ Q):WE X (.IfExp test body orelse pos) st Q:=λφ s I=>by
 refine IfExp_ (ab (h φ s I) λb s₁ pp=>?_);obtain ⟨st₁,I₁,k,q⟩:=pp
 cases b with
 |true=>rw[if_pos rfl] at q⊢;exact ab (q φ s₁ I₁) λf s₂ p=>p.trans k
 |false=>rw[if_neg s!"d"] at q⊢;exact ab (q φ s₁ I₁) λf s₂ p=>p.trans k
noncomputable def WEs(X:Xc):List Fw->St->(List MV->St->Prop)->Prop
 | [],st,Q=>Q [] st
 |e::es,st,Q=>WE X e st λm st₁=>WEs X es st₁ λms st₂=>Q (m::ms) st₂
theorem bf(env:Env):∀{ts:List Fw},Starless ts->Hl ts env=ts.map λt=>(false,eval t env)
 | [],_=>rfl
 |t::ts,h=>by
  have ih:Starless ts->Hl ts env=ts.map λt=>(false,eval t env):=bf env;cases t<;>first|exact h.elim|exact congrArg (List.cons _) (ih h)
theorem Starless.tail{t:Fw}{ts:List Fw}(h:Starless (t::ts)):Starless ts:=by
 cases t<;>first|exact h.elim|exact h
inductive PostL (X:Xc) (φ:Sg) (s:Shared) (Q:List MV->St->Prop) (vs:List Value) (s':Shared):Prop
 |i (ms:List MV) (st':St) (r:VRs s'.heap ms vs) (I:IF X φ st' s') (k:Keep s.heap s'.heap) (q:Q ms st')
theorem cr{Q:List MV->St->Prop}{pos:Pos}:∀{es:List Fw} {st:St} {s:Shared},Starless es->WEs X es st Q->IF X φ st s->
 E4 X.M X.A (spliced (backTo pos (Hl es X.env))) (PostL X φ s Q) NoE s
 | [],st,s,_,h,I=>wpAny_items_nil ⟨[],st,.nil _,I,.refl _,h⟩
 |e::es,st,s,hs,h,I=>by
  refine wpAny_items_cons (ab (h φ s I) λv s₁ ⟨m,st₁,r₁,I₁,k₁,h₁⟩=>?_) ?_
  ·refine ab (cr hs.tail h₁ I₁) λvs s₂ pp=>?_;obtain ⟨ms,st₂,r₂,I₂,k₂,q⟩:=pp;exact ⟨m::ms,st₂,.cons (r₁.keep k₂) r₂,I₂,k₁.trans k₂,q⟩
  ·rw[bf _ hs,bf _ hs.tail];rfl
theorem tJ{h:Heap}{ms:List MV}{vs:List Value}(r:VRs h ms vs):OR (h.push {cls:= .type "list",data:= .seq vs.toArray}) h.objs.size (.lst ms):=
 (af vs.toArray ⟨0,Heap.get?_push_size _ rfl⟩ (by rw[G6];exact r.keep (keep_push _ _)))
theorem ca{es:List Fw}{pos}(hs:Starless es)(h:WEs X es st λms st₁=>ms.length≤sizeLine∧∀a,st₁.σ a=none->Q (.r a) ⟨st₁.σ.put a (.lst ms),st₁.ρ⟩):WE X (.List es pos) st Q:=λφ s I=>by
 refine wpAny_List (ab (cr hs h I) λvs s₁ pp=>?_);obtain ⟨ms,st₁,r,I₁,k,hl,q⟩:=pp;refine ⟨by rw[r.length];exact hl,?_⟩;refine xa1 (I₁.new (tJ r)) λn I₂=>?_;exact .mk (bO ..) I₂ (k.trans (keep_push _ _)) (q _ n)
theorem rm{h:Heap}{ms:List MV}{vs:List Value}(r:VRs h ms vs):VR (h.push {cls:= .type "tuple",data:= .seq vs.toArray}) (.t (.type "tuple") ms) (.ref h.objs.size):=
 (fb _ _ vs.toArray 0 rfl (Heap.get?_push_size _ rfl) rfl rfl rfl (by rw[G6];exact r.keep (keep_push _ _)))
theorem cW{es:List Fw}{k pos}(hs:Starless es)(h:WEs X es st λms st₁=>ms.length≤sizeLine∧Q (.t (.type "tuple") ms) st₁):WE X (.Tuple es k pos) st Q:=λφ s I=>by
 refine wpAny_Tuple (ab (cr hs h I) λvs s₁ pp=>?_);obtain ⟨ms,st₁,r,I₁,k,hl,q⟩:=pp;refine ⟨by rw[r.length];exact hl,?_⟩;exact .mk (rm r) (I₁.push _) (k.trans (keep_push _ _)) q
end
section
variable {X:Xc} {st:St} {φ:Sg} {Q:MV->St->Prop} {QB:Bool->St->Prop}
theorem VRs.arr{h:Heap}{ms:List MV}{items:Array Value}{i:Nat}{m:MV}(r:VRs h ms items.toList)(e:ms[i]?=EU m):∃x,items[i]?=EU x∧VR h m x:=by
 refine ad (r.get e) λx a b=>?_;exact (af x (by rw[←Array.getElem?_toList];exact a) b)
theorem VRs.size{h:Heap}{ms:List MV}{items:Array Value}(r:VRs h ms items.toList):items.size=ms.length:=by
 have:=r.length;simpa using this
theorem aP{value slice:Fw}{pos}(h:WE X value st λa st₁=>WE X slice st₁ λb st₂=>W2 X (subscriptTail value slice) a b st₂ Q):WE X (.Subscript value slice pos) st Q:=λφ s I=>by
 refine Subscript_ (ab (h φ s I) λv s₁ pp=>?_);obtain ⟨a,st₁,r1,I1,k1,h1⟩:=pp;refine ab (h1 φ s₁ I1) λw s₂ pp=>?_;obtain ⟨b,st₂,r2,I2,k2,h2⟩:=pp;exact ab (h2 φ s₂ v w I2 (r1.keep k2) r2) λu s₃ p=>p.trans (k1.trans k2)
noncomputable def gX(value slice:Fw):Prop:=(∀o i,subscripted slice false o i=operate [o,i] (getItem o i))∧∀o r,letTemporaryGo value o r=pure ()
theorem aY{value slice:Fw}{l:Addr}{vs:List MV}{k:Int}{m:MV}(hp:gX value slice)(e:st.σ l=EU (.lst vs))(h0:0≤k)(hfit:k<2^63)(hx:vs[k.toNat]?=EU m)(hq:Q m st):
 W2 X (subscriptTail value slice) (.r l) (.i k) st Q:=λφ s v w I e1 ⟨u,e2⟩=>by
 cases (show v= .ref l from e1);subst e2;refine ad (I.own e) λitems pl r=>?_;refine ad (r.arr hx) λx hx' rx=>?_;exact item_list pl.isList h0 hfit hx' (.mk rx I (.refl _) hq) (hp.1 _ _) (λr=>hp.2 _ r)
theorem xN{value slice:Fw}{vs:List MV}{k:Int}{j:Nat}{m:MV}(hp:gX value slice)(hlo: -(2^63)≤k)(hfit:k<2^63)(hj:seqIndex? k vs.length=EU j)(hx:vs[j]?=EU m)(hq:Q m st):
 W2 X (subscriptTail value slice) (.t (.type "tuple") vs) (.i k) st Q:=λφ s v w I r1 r2=>by
 refine bz r1 λa o items n e1 z=>?_;refine xa4 z λe2 e3 e4 e5 r=>?_;obtain ⟨u,e6⟩:=r2;clear r1 z;subst e1 e6;refine ad (r.arr hx) λx hx' rx=>?_;rw[←r.size] at hj;have T:IsTup s.heap a items:=⟨o,e2,e4,n,e5⟩
 exact subscriptTail_builtin T.typeIs slot_tuple_getitem.lookup (getItem_tuple T hlo hfit hj hx' (.mk rx I (.refl _) hq)) (hp.1 _ _) (λr=>hp.2 _ r)
theorem eL{o i:Fw}{pos m}{QU:St->Prop}(hi:∀v ov iv:Value,(match i with| .Slice _ _ none _=>[iv,v,ov]|_=>[v,ov,iv])=[v,ov,iv])
 (h:WE X o st λa st₁=>WE X i st₁ λb st₂=>∀φ s v w u,IF X φ st₂ s->VR s.heap a v->VR s.heap b w->VR s.heap m u->E4 X.M X.A (setItem v w u) (λ_=>PostU X φ s QU) NoE s):
 WA X (.Subscript o i pos) m st QU:=λφ s u I r0=>by
 rw[arm_assign_Subscript];refine EX (wpAny_holding (ab (h φ s I) λv s₁ pp=>?_));obtain ⟨a,st₁,r1,I1,k1,h1⟩:=pp;refine EX (wpAny_holding (ab (h1 φ s₁ I1) λw s₂ pp=>?_));obtain ⟨b,st₂,r2,I2,k2,h2⟩:=pp;refine EX (GJ (EX (wpAny_holding (ab (h2 φ s₂ v w u I2 (r1.keep k2) r2 (r0.keep (k1.trans k2))) λ_ s₃ p=>?_))));have q:=p.trans (k1.trans k2);intro Γ p' _;rw[Sem.wp_release];exact q
theorem co{s:Shared}(I:IF X φ st s){a:Addr}{m:MO}{h':Heap}(e:st.σ a=EU m)(sb:Heap.SameBut a s.heap h'):Keep s.heap h':=kC (I.own e) sb
end
section
variable {X:Xc} {st:St} {φ:Sg} {Q:MV->St->Prop} {QB:Bool->St->Prop}
theorem bt{M:Model}{A:Fb}{s:Shared}{env:Env}{f:Value}{pos:Pos}{es:List Fw}(hs:Starless es){R:Args->Shared->Prop}
 (h:E4 M A (spliced (backTo pos (Hl es env))) (λvs s'=>R ⟨vs,[]⟩ s') NoE s):E4 M A (evalArgs f true (backTo pos (Hl es env)) []) R NoE s:=by
 cases es with
 |nil=>
  unfold evalArgs;show E4 M A (spliced (backTo pos (Hl [] env))>>=_) R NoE s;refine EX (ab h λvs s' hq=>?_);refine EX (E0 (wpAny_holding ?_));exact EX (E0 (EX (E0 (E0 hq))))
 |cons e es=>
  rw[bf env hs] at h⊢;exact evalArgs_plain h
noncomputable def WC(X:Xc)(f:Value)(args:List MV)(st:St)(Q:MV->St->Prop):Prop:=
 ∀φ s vs,IF X φ st s->VRs s.heap args vs->E4 X.M X.A (call f vs) (Post X φ s Q) NoE s
theorem bM{env:Env}{pos:Pos}{es:List Fw}(hs:Starless es):(backTo pos (Hl es env)).any (·.1)=false:=by
 rw[bf env hs];simp[backTo]
theorem aT(O:XOk X){x:Str}{p pos:Pos}{es:List Fw}{id:String}(hf:X.gs.lookup x=EU (.builtin id))(hs:Starless es)(h:WEs X es st λms st₁=>WC X (.builtin id) ms st₁ Q):
 WE X (.Call (.Name x p) es [] pos) st Q:=λφ s I=>by
 refine Call_Name rfl ?_;refine ab (de O hf (Q:=λm st'=>m= .k (.builtin id)∧st'=st) ⟨rfl,rfl⟩ φ s I) λv s₁ pp=>?_;obtain ⟨m,st₁,r,I₁,k,e1,e2⟩:=pp;clear I;subst e1 e2;cases (show v= .builtin id from r);refine callWith_builtin (bM hs) (bt hs (ab (cr hs h I₁) λvs s₂ pp=>?_));obtain ⟨ms,st₂,r₂,I₂,k₂,q⟩:=pp;exact ab (q φ s₂ vs I₂ r₂) λu s₃ z=>z.trans (k.trans k₂)
theorem bA(O:XOk X){x:Str}{p pos:Pos}{es:List Fw}{a:Addr}{o:Obj}{fd:FuncData}(hf:X.gs.lookup x=EU (.ref a))(ho:X.C.h0.get? a=EU o)(hd:o.data= .func fd)(hs:Starless es)
 (h:WEs X es st λms st₁=>WC X (.ref a) ms st₁ Q):WE X (.Call (.Name x p) es [] pos) st Q:=λφ s I=>by
 refine Call_Name rfl ?_;refine ab (de O hf (Q:=λm st'=>m= .k (.ref a)∧st'=st) ⟨rfl,rfl⟩ φ s I) λv s₁ pp=>?_;obtain ⟨m,st₁,r,I₁,k,e1,e2⟩:=pp;clear I;subst e1 e2;cases (show v= .ref a from r);refine callWith_function (o:=o) (fd:=fd) (bt hs (ab (cr hs h I₁) λvs s₂ ⟨ms,st₂,r₂,I₂,k₂,q⟩=>⟨⟨I₂.inv.old a o ho,hd⟩,?_⟩));exact ab (q φ s₂ vs I₂ r₂) λu s₃ z=>z.trans (k.trans k₂)
noncomputable def pG(X:Xc)(a:MV)(st:St)(T:String):Prop:=∀φ s v,IF X φ st s->VR s.heap a v->s.TypeIs v T∧∀b,v= .ref b->∃ob,s.heap.get? b=EU ob∧ob.dict=none
theorem bJ{l:Addr}{vs:List MV}(e:st.σ l=EU (.lst vs)):pG X (.r l) st "list" :=λφ s v I r=>by
 cases (show v= .ref l from r);refine ad (I.own e) λitems z1 _=>?_;refine xe1 z1 λn pl=>?_;clear z1;exact ⟨(af _ pl rfl),λb hb=>by cases hb;exact (af _ pl rfl)⟩
theorem hZ{x:Str}:pG X (.s x) st "str" :=λφ s v I ⟨t,e⟩=>by
 subst e;exact ⟨rfl,λb hb=>by cases hb⟩
theorem kE0(env:Env):G5 [] env=[]:=rfl
theorem kE1(n:Option Str)(e:Fw)(p:Pos)(ks:List Keyword)(env:Env):G5 (⟨n,e,p⟩::ks) env=(n,eval e env)::G5 ks env:=rfl
theorem bp{o:Fw}{name:Str}{apos pos:Pos}{es:List Fw}{T id:String}(hs:Starless es)
 (hbase:F7 o name X.env (eval o X.env)=eval o X.env) (hn:es.length<30) (hline:(apos.endLine==pos.line)=true)
 (pa:PlainAttrs T) (slot:Slot T name id) (hty:GY (.builtin id)=pure (.type "method_descriptor"))
 (h:WE X o st λa st₁=>pG X a st₁ T∧WEs X es st₁ λms st₂=>WC X (.builtin id) (a::ms) st₂ Q):
 WE X (.Call (.Attribute o name apos) es [] pos) st Q:=λφ s I=>by
 have few:((backTo pos (Hl es X.env)).all (λx=>!x.1)&&(backToKw pos (G5 [] X.env)).all (λx=>x.1.isSome)
  &&decide (es.length+([]:List Keyword).length+(if ([]:List Keyword).isEmpty then 0 else 1)<30))=true:=by
  rw[bf X.env hs];simp[backTo,backToKw,kE0,hn]
 refine wpAny_Call_method hbase few hline pa slot hty (ab (h φ s I) λv s₁ pp=>?_);obtain ⟨a,st₁,r,I₁,k,ht,q⟩:=pp;refine xa1 (ht φ s₁ v I₁ r) λt1 t2=>?_;refine (ia2 t1 t2 ?_);refine callWith_builtin (bM hs) (bt hs (ab (cr hs q I₁) λvs s₂ pp=>?_));obtain ⟨ms,st₂,r₂,I₂,k₂,q₂⟩:=pp;exact ab (q₂ φ s₂ (v::vs) I₂ (.cons (r.keep k₂) r₂)) λu s₃ z=>z.trans (k.trans k₂)
theorem VRs.snoc{h:Heap}{ms:List MV}{items:Array Value}{m:MV}{x:Value}(r:VRs h ms items.toList)(e:VR h m x):VRs h (ms++[m]) (items.push x).toList:=by
 rw[Array.toList_push];exact r.append (.cons e (.nil _))
theorem fN{l:Addr}{vs:List MV}{m:MV}(e:st.σ l=EU (.lst vs))(hsz:vs.length≤sizeLine)(hq:Q (.k .none) ⟨st.σ.put l (.lst (vs++[m])),st.ρ⟩):
 WC X (.builtin "list.append") [.r l,m] st Q:=λφ s us I r=>by
 refine tz r λx e2=>?_;refine ad (I.own e) λitems pl rr=>?_;refine wpAny_list_append_plain pl (λh' pl' sb=>?_) (by rw[rr.size];exact hsz);have k:=co I e sb;exact .mk (aZ ..) (I.upd (m':= .lst (vs++[m])) (t:=s.toks) e sb (af _ pl' ((rr.keep k).snoc (e2.keep k)))) k hq
theorem dy{l:Addr}{vs:List MV}(e:st.σ l=EU (.lst vs))(hfit:(vs.length:Int)<2^63)(hq:Q (.i vs.length) st):WC X (.builtin "len") [.r l] st Q:=λφ s us I r=>by
 refine fS r ?_;refine ad (I.own e) λitems pl rr=>?_;refine call_len_list pl.isList (by rw[rr.size];exact hfit) ?_;rw[rr.size];exact .mk (cH ..) (I.toks _) (.refl _) hq
end
noncomputable def joi(σ φ:Sg):Sg:=λa=>(σ a).or (φ a)
noncomputable def Dis(σ φ:Sg):Prop:=∀a m,σ a=EU m->φ a=none
theorem Inv.sub{C:Cx}{σ σ':Sg}{s:Shared}(I:Inv C σ s)(h:∀a m,σ' a=EU m->σ a=EU m):Inv C σ' s:=
 ⟨I.old,λa m e=>I.rep a m (h a m e),I.gens,I.os⟩
noncomputable def tg(C:Cx)(φ:Sg)(s:Shared)(Q:MV->Sg->Prop)(v:Value)(s':Shared):Prop:=
 ∃m σ',VR s'.heap m v∧Inv C (joi σ' φ) s'∧Dis σ' φ∧Keep s.heap s'.heap∧Q m σ'
noncomputable def Ct(C:Cx)(A:Fb)(f:Value)(args:List MV)(σ:Sg)(Q:MV->Sg->Prop):Prop:=
 ∀φ s vs,Inv C (joi σ φ) s->Dis σ φ->VRs s.heap args vs->E4 (Fa pgm C.w) A (call f vs) (tg C φ s Q) NoE s
theorem xG{X:Xc}{st:St}{f:Value}{args:List MV}{Q:MV->St->Prop}(h:Ct X.C X.A f args st.σ λm σ'=>Q m ⟨σ',st.ρ⟩):WC X f args st Q:=λφ s vs I r=>by
 let φ':Sg:=λa=>if a=X.env.locals then EU (.fr st.ρ) else φ a
 have e1:joi st.σ φ'=tot st.σ φ X.env.locals st.ρ:=by
  funext a;show (st.σ a).or (if a=X.env.locals then EU (.fr st.ρ) else φ a)=if a=X.env.locals then EU (.fr st.ρ) else (st.σ a).or (φ a)
  by_cases h:a=X.env.locals
  ·rw[if_pos h,if_pos h,h,I.no];rfl
  ·rw[if_neg h,if_neg h]
 have d1:Dis st.σ φ':=λa m e=>by
  show (if a=X.env.locals then EU (MO.fr st.ρ) else φ a)=none;rw[if_neg (λh=>by rw[h,I.no] at e;cases e)];exact I.dis a m e
 refine ab (h φ' s vs (by rw[e1];exact I.inv) d1 r) λv s' pp=>?_;refine fv pp λm σ' r' I' d' k q=>?_;clear pp
 have no:σ' X.env.locals=none:=by
  cases hh:σ' X.env.locals with
  |none=>rfl
  |some m=>
   have:=d' _ _ hh;have:(if X.env.locals=X.env.locals then EU (MO.fr st.ρ) else φ X.env.locals)=none:=this;rw[if_pos rfl] at this;cases this
 have e2:joi σ' φ'=tot σ' φ X.env.locals st.ρ:=by
  funext a;show (σ' a).or (if a=X.env.locals then EU (.fr st.ρ) else φ a)=if a=X.env.locals then EU (.fr st.ρ) else (σ' a).or (φ a)
  by_cases h:a=X.env.locals
  ·rw[if_pos h,if_pos h,h,no];rfl
  ·rw[if_neg h,if_neg h]
 refine ⟨m,⟨σ',st.ρ⟩,r',⟨by show Inv X.C (tot σ' φ X.env.locals st.ρ) s';rw[←e2];exact I',no,λa m e=>?_,I.loc⟩,k,q⟩;have:=d' a m e;have this:(if a=X.env.locals then EU (MO.fr st.ρ) else φ a)=none:=this;by_cases h:a=X.env.locals
 ·rw[if_pos h] at this;cases this
 ·rw[if_neg h] at this;exact this
noncomputable def BindOk(C:Cx)(fd:FuncData)(args:List MV)(ps:List (Str×MV)):Prop:=
 ∀s vs,(∀b o,C.h0.get? b=EU o->s.heap.get? b=EU o)->VRs s.heap args vs->∃binds:List (Str×Value),BindsTo s fd ⟨vs,[]⟩ binds∧(∀x∈binds,fd.scope.names.lookup x.1=EU .local)∧
  ∀x m,ps.lookup x=EU m->∃v,binds.reverse.lookup x=EU v∧VR s.heap m v
noncomputable def lo0(fd:FuncData)(ps:List (Str×MV)):Lo:=(fd.scope.names.filter λp=>p.2== .local).map λp=>(p.1,ps.lookup p.1)
theorem gN{f:Str->Option MV}:∀{l:List (Str×NameKind)} {x:Str} {v:Option MV},lk (l.map λp=>(p.1,f p.1)) x=EU v->v=f x∧∃k,(x,k)∈l
 | [],x,v,h=>by cases h
 |(n,k)::l,x,v,h=>by
  simp only[FW,lk] at h;split at h
  ·rename_i e;subst e;cases h;exact ⟨rfl,k,.head _⟩
  ·refine gU (gN h) λa k' b=>?_;exact ⟨a,k',.tail _ b⟩
noncomputable def RP(Q:MV->Sg->Prop):Fl->St->Prop
 | .ret m,st=>Q m st.σ
 |_,st=>Q (.k .none) st.σ
theorem D0{P Q:MV->Sg->Prop}{m:MV}{st:St}(h:∀m σ',P m σ'->Q m σ')(x:P m st.σ):RP Q (.ret m) st:=h _ _ x
theorem Eo{P Q:MV->Sg->Prop}{st:St}(h:∀m σ',P m σ'->Q m σ')(x:P (.k .none) st.σ):RP Q .next st:=h _ _ x
section
variable {X:Xc} {st:St} {φ:Sg} {Q:MV->St->Prop} {QB:Bool->St->Prop}
theorem fP(f:Array Value->Array Value)(its:Array Value)(n:Nat):
 ∃n',F5 f {cls:= .type "list",data:= .seq its n}={cls:= .type "list",data:= .seq (f its) n'}:=⟨_,by unfold F5;rfl⟩
theorem ot{prog:Program}{w:FL}{A:Fb}{E:Value->Shared->Prop}{s:Shared}{l:Addr}{items:Array Value}{k:Int}{t:Tok}{v:Value}{Q:Unit->Shared->Prop}(hl:s.heap.PlainList l items)
 (h0:0≤k) (hfit:k<2^63) (hn:k<items.size)
 (hQ:∀h',h'.PlainList l (items.setIfInBounds k.toNat v)->Heap.SameBut l s.heap h'->Q () {s with heap:=h'}):
 E4 (Fa prog w) A (setItem (.ref l) (.int k t) v) Q E s:=by
 refine xe1 hl λn ho=>?_;clear hl;have T:s.TypeIs (.ref l) "list" :=(af _ ho rfl)
 unfold setItem
 try with_reducible refine wpAny_holding ?_
 first|refine EX (E0 ?_)|skip
 refine EX (wpAny_sequenceKey T s!"d" ?_);refine EX (Go (name:=EW "__setitem__") T slot_list_setitem (Gw slot_list_setitem T entry_list_setitem ?_ (args_list_setitem _ _ _)));show E4 _ _ (Builtin.List.listSubscript? (.int k t)>>=_) _ _ s;refine EX (wpAny_listSubscript_int (fitsIndex_of h0 hfit) ?_);clear hfit;refine xe1 (Int.eq_ofNat_of_zero_le h0) λj z1=>?_;clear h0;subst z1;have hj:j<items.size:=by exact FP.mp hn
 refine xe1 (fP (·.setIfInBounds j v) items n) λn' hm=>?_
 have done:Q () {s with heap:=s.heap.update l (F5 (·.setIfInBounds j v))}:=
  hQ _ ⟨n',by rw[Heap.get?_update_self _ ho (by rw[hm];rfl),hm];rfl⟩ (Heap.SameBut.update ..)
 show E4 _ _ ((seqItemAt l j>>=λr=>pure (r.map (j,·)))>>=_) _ _ s;refine EX (EX (wpAny_seqItemAt ho rfl (E0 ?_)));rw[show items[j]?=EU items[j] from Array.getElem?_eq_getElem hj];show E4 _ _ (setSeqItemAt l j v>>=_) _ _ s;refine EX (wpAny_setSeqItemAt ho rfl ?_)
 first
  |exact EX (E0 (E0 (af (.none) rfl (E0 done))))
  |exact E0 ⟨.none,rfl,E0 done⟩
theorem VRs.set{h:Heap}:∀{ms:List MV} {xs:List Value} {i:Nat} {m:MV} {x:Value},VRs h ms xs->VR h m x->VRs h (ms.set i m) (xs.set i x)
 | [],_,i,m,x,r,e=>by unfold VRs at r;subst r;exact .nil _
 |a::ms,_,0,m,x,r,e=>by
  unfold VRs at r;refine am r λy ys z1 z2=>?_;clear r;subst z1;refine xa1 z2 λe2 e3=>?_;clear z2;exact .cons e e3
 |a::ms,_,i+1,m,x,r,e=>by
  unfold VRs at r;refine am r λy ys z1 z2=>?_;clear r;subst z1;refine xa1 z2 λe2 e3=>?_;exact .cons e2 (VRs.set e3 e)
theorem gL{l:Addr}{vs:List MV}{k:Int}{m:MV}{QU:St->Prop}(e:st.σ l=EU (.lst vs))(h0:0≤k)(hfit:k<2^63)(hn:k<vs.length)(hq:QU ⟨st.σ.put l (.lst (vs.set k.toNat m)),st.ρ⟩):
 ∀φ s v w u,IF X φ st s->VR s.heap (.r l) v->VR s.heap (.i k) w->VR s.heap m u->E4 X.M X.A (setItem v w u) (λ_=>PostU X φ s QU) NoE s:=λφ s v w u I r1 ⟨t,r2⟩ r3=>by
 cases (show v= .ref l from r1);subst r2;refine ad (I.own e) λitems pl rr=>?_;refine ot pl h0 hfit (by rw[rr.size];exact hn) λh' pl' sb=>?_;have k':=co I e sb;refine ⟨_,I.upd (m':= .lst (vs.set k.toNat m)) (t:=s.toks) e sb (af _ pl' ?_),k',hq⟩;rw[Array.toList_setIfInBounds];exact (rr.keep k').set (r3.keep k')
theorem sh(t u:Addr)(a b c d:Int)(ta tb tc td:Tok)(n m:Nat)(o o':Obj)(hc:o.cls= .type "tuple")(hc':o'.cls= .type "tuple")
 (hd:o.data= .seq #[.int a ta,.int b tb] n) (hd':o'.data= .seq #[.int c tc,.int d td] m):
 Meets (Builtin.«tuple.__lt__» ⟨[.ref t,.ref u],[]⟩)
  (λ_ R s=>s.heap.get? t=EU o∧s.heap.get? u=EU o'∧R (.ok (.ret (.bool (decide (a<c∨(a=c∧b<d)))))) s):=by
 intro prog w A R s h;obtain ⟨hp,g,dd,tk,os⟩:=s;refine xa2 h λhl hb h=>?_
 wp_walk using GQ hl,GQ hb
 rw[hc',FN]
 wp_walk using GQ hl,GQ hb
 rw[hd]
 wp_walk using GQ hl,GQ hb
 rw[hd'];refine E0 ?_;refine E0 ?_;refine EX ?_;show E4 _ _ (forIn [(Value.int a ta,Value.int c tc),(Value.int b tb,Value.int d td)] _ _) _ _ _;rw[G2];refine EX (EX (wpAny_eqBool_int ?_));by_cases h1:a=c
 ·subst h1;refine w_f (by rw[beq_self_eq_true];rfl) ?_;refine E0 ?_;dsimp only;rw[G2];refine EX (EX (wpAny_eqBool_int ?_));by_cases h2:b=d
  ·subst h2;refine w_f (by rw[beq_self_eq_true];rfl) ?_;refine E0 ?_;dsimp only;rw[List.forIn_nil]
   wp_walk
   show R (Except.ok (Flow.ret (.bool false))) _;simpa using h
  ·refine w_t (by rw[beq_eq_false_iff_ne.mpr h2];rfl) ?_;refine EX (EX (wpAny_rule (E0 (a:=()) (EX ?_))));show E4 _ _ (Fx .Lt (.int b tb) (.int d td)) _ _ _;refine wpAny_lt_int ?_
   wp_walk
   simpa using h
 ·refine w_t (by rw[beq_eq_false_iff_ne.mpr h1];rfl) ?_;refine EX (EX (wpAny_rule (E0 (a:=()) (EX ?_))));show E4 _ _ (Fx .Lt (.int a ta) (.int c tc)) _ _ _;refine wpAny_lt_int ?_
  wp_walk
  simpa[h1] using h
end
section
variable {X:Xc} {st:St} {φ:Sg} {Q:MV->St->Prop} {QB:Bool->St->Prop}
theorem dR{h:Heap}{a b:Int}{items:Array Value}(r:VRs h [.i a,.i b] items.toList):∃ta tb,items= #[.int a ta,.int b tb]:=by
 unfold VRs at r;refine bL r λy ys e z1 r=>?_;obtain ⟨ta,rfl⟩:=z1;unfold VRs at r;refine am r λz zs z1 z2=>?_;clear r;subst z1;obtain ⟨⟨tb,rfl⟩,r⟩:=z2;unfold VRs at r;subst r;exact (ie2 ta tb (by rw[←Hg (xs:=items),e]))
theorem xw{a b c d:Int}(hu:X.A.units<cLine)(h:Q (.k (.bool (decide (a<c∨(a=c∧b<d))))) st):
 W2 X (Fx .Lt) (.t (.type "tuple") [.i a,.i b]) (.t (.type "tuple") [.i c,.i d]) st Q:=λφ s v w I r1 r2=>by
 refine bz r1 λt o its n z1 z2=>?_;clear r1;subst z1;refine xa4 z2 λe2 e3 e4 e5 r=>?_;clear z2;refine bz r2 λu o' its' n' z1 z2=>?_;clear r2;subst z1;refine xa4 z2 λf2 f3 f4 f5 r'=>?_;clear z2;refine xe2 (dR r) λta tb z1=>?_;clear r;subst z1;refine xe2 (dR r') λtc td z1=>?_;clear r';subst z1;show E4 _ _ (richCompare .Lt (.ref t) (.ref u)) _ _ _;have T:s.TypeIs (.ref t) "tuple" :=(af o e2 e4)
 have U:s.TypeIs (.ref u) "tuple" :=(af o' f2 f4)
 refine wpAny_richCompare_same_or (op:= .Lt) (T:="tuple") T U G8 ?_ (.inr hu);refine call_meetsIn G8 T PySem.F.entry_tuple_lt (PySem.F.args_tuple_lt_2 _ _) ((sh t u a b c d ta tb tc td n n' o o' e4 f4 e5 f5).inModel pgm X.C.w) (ia2 e2 f2 ?_);exact ⟨s!"4",.mk (aZ ..) I (.refl _) h⟩
theorem xI{l:Addr}{vs:List MV}{m:MV}(e:st.σ l=EU (.lst (vs++[m])))(hsz:vs.length+1≤sizeLine)(hq:Q m ⟨st.σ.put l (.lst vs),st.ρ⟩):WC X (.builtin "list.pop") [.r l] st Q:=λφ s us I r=>by
 refine fS r ?_;refine ad (I.own e) λitems z1 rr=>?_;refine xe1 z1 λn pl=>?_;clear z1;have sz:=rr.size;simp only[E7,Hq,List.length_nil] at sz;refine ad (rr.arr (i:=items.size-1) (m:=m) (by rw[sz];simp)) λx hx rx=>?_;have T:s.TypeIs (.ref l) "list" :=(af _ pl rfl)
 refine call_meetsIn PySem.F.slot_list_pop T PySem.F.entry_list_pop (PySem.F.args_list_pop_1 _) ((MeetsSeq.list_pop_last l items n x hx (by exact sz▸hsz)).inModel pgm X.C.w) ⟨pl,?_⟩;have sb:Heap.SameBut l s.heap (s.heap.update l (F5 λxs=>xs.eraseIdxIfInBounds (items.size-1))):=Heap.SameBut.update ..;have k:=co I e sb;refine xe1 (fP (λxs=>xs.eraseIdxIfInBounds (items.size-1)) items n) λn' hm=>?_
 have er:(items.eraseIdxIfInBounds (items.size-1)).toList=items.toList.take vs.length:=by
  have h1:items.size-1<items.size:=by exact sz▸Fe _
  simp[Array.eraseIdxIfInBounds,h1];rw[List.eraseIdx_eq_take_drop_succ,sz];simp[sz]
 have rv:VRs s.heap vs (items.toList.take vs.length):=by
  have:∀(vs:List MV) (xs:List Value),VRs s.heap (vs++[m]) xs->VRs s.heap vs (xs.take vs.length):=by
   intro vs
   induction vs with
   |nil=>intro xs _;simp;exact .nil _
   |cons v vs ih=>
    intro xs h;rw[List.cons_append] at h;unfold VRs at h;refine am h λy ys z1 z2=>?_;clear h;subst z1;refine xa1 z2 λh1 h2=>?_;clear z2;exact .cons h1 (ih _ h2)
  exact this vs _ rr
 exact .mk (rx.keep k) (I.upd (m':= .lst vs) (t:=s.toks) e sb (af _ ⟨n',by rw[Heap.get?_update_self _ pl (by rw[hm];rfl),hm]⟩ (by rw[er];exact rv.keep k))) k hq
end
section
theorem c7{a b:String}:(EW a=EW b)↔a=b:=by
 constructor
 ·intro h;rw[Str.ofString_eq_toList,Str.ofString_eq_toList] at h
  have h1:(a.toList.map Char.toNat)=(b.toList.map Char.toNat):=by
   have:=congrArg (λs:Str=>s.cps.toList) h;simpa using this
  have inj:∀(x y:List Char),x.map Char.toNat=y.map Char.toNat->x=y:=by
   intro x
   induction x with
   |nil=>intro y h;cases y with
    |nil=>rfl
    |cons=>simp at h
   |cons c x ih=>intro y h;cases y with
    |nil=>simp at h
    |cons d y=>
     simp only[FW,List.cons.injEq] at h
     have:c=d:=by
      apply Char.ext;exact UInt32.toNat_inj.mp h.1
     rw[this,ih y h.2]
  exact String.toList_inj.mp (inj _ _ h1)
 ·rintro rfl;rfl
noncomputable abbrev LL:=List (String×Option MV)
noncomputable def fL:LL->String->Option (Option MV)
 | [],_=>none
 |(n,v)::l,x=>if x=n then EU v else fL l x
noncomputable def stS:LL->String->MV->LL
 | [],_,_=>[]
 |(n,v)::l,x,m=>if x=n then (n,EU m)::l else (n,v)::stS l x m
noncomputable def mkL(l:LL):Lo:=l.map λp=>(EW p.1,p.2)
theorem vE:∀{l:LL} {x:String},lk (mkL l) (EW x)=fL l x
 | [],_=>rfl
 |(n,v)::l,x=>by
  show (if EW x=EW n then _ else _)=if x=n then _ else _
  by_cases h:x=n
  ·rw[if_pos h,if_pos (c7.mpr h)]
  ·rw[if_neg h,if_neg λe=>h (c7.mp e)];exact vE
theorem rX:∀{l:LL} {x:String} {m:MV},stL (mkL l) (EW x) m=mkL (stS l x m)
 | [],_,_=>rfl
 |(n,v)::l,x,m=>by
  show (if EW x=EW n then _ else _)=mkL (if x=n then _ else _);by_cases h:x=n
  ·rw[if_pos h,if_pos (c7.mpr h)];rfl
  ·rw[if_neg h,if_neg λe=>h (c7.mp e)];exact congrArg (_::·) rX
theorem lkL{l:LL}{x:String}{r:Option (Option MV)}(h:fL l x=r):lk (mkL l) (EW x)=r:=vE.trans h
noncomputable def gI{α:Type}:List α->Nat->Option α
 | [],_=>none
 |a::_,0=>EU a
 |_::l,k+1=>gI l k
noncomputable def sI{α:Type}:List α->Nat->α->List α
 | [],_,_=>[]
 |_::l,0,x=>x::l
 |a::l,k+1,x=>a::sI l k x
noncomputable def zL:List String->List (Option MV)->Lo
 |n::ns,v::vs=>(EW n,v)::zL ns vs
 |_,_=>[]
theorem qd{α:Type}{x:α}:∀{l:List α} {k:Nat},gI l k=EU x->x∈l
 |a::l,0,h=>Option.some.inj h▸ .head l
 |_::l,k+1,h=> .tail _ (qd (l:=l) h)
theorem Ai{x n:String}{ns:List String}(e:EW x=EW n)(h:x∈ns):n∈ns:=by cases c7.mp e;exact h
theorem lkI{x:String}{u:Option MV}:∀{ns:List String} {vs:List (Option MV)} {k:Nat},ns.Nodup->gI ns k=EU x->gI vs k=EU u->lk (zL ns vs) (EW x)=EU u
 |n::ns,v::vs,0,_,h,g=>by cases h;cases g;exact if_pos rfl
 |n::ns,v::vs,k+1,hd,h,g=>(if_neg λe=>(G3.mp hd).1 (Ai e (qd (l:=ns) h))).trans (lkI (G3.mp hd).2 h g)
theorem stI{x:String}{m:MV}:∀{ns:List String} {vs:List (Option MV)} {k:Nat},ns.Nodup->gI ns k=EU x->stL (zL ns vs) (EW x) m=zL ns (sI vs k (EU m))
 |_::_,[],_,_,_=>rfl
 |n::ns,v::vs,0,_,h=>by cases h;exact if_pos rfl
 |n::ns,v::vs,k+1,hd,h=>(if_neg λe=>(G3.mp hd).1 (Ai e (qd (l:=ns) h))).trans (congrArg (_::·) (stI (G3.mp hd).2 h))
variable {X:Xc} {σ:Sg} {ns:List String} {vs:List (Option MV)} {k:Nat} {x:String}
theorem be(O:XOk X)(hd:ns.Nodup)(hn:gI ns k=EU x){pos m}{Q:MV->St->Prop}(hv:gI vs k=EU (EU m))(hq:Q m ⟨σ,zL ns vs⟩):WE X (.Name (EW x) pos) ⟨σ,zL ns vs⟩ Q:=gF O (lkI hd hn hv) hq
theorem cG(O:XOk X)(hd:ns.Nodup)(hn:gI ns k=EU x){pos m u}{Q:St->Prop}(hv:gI vs k=EU u)(hq:Q ⟨σ,zL ns (sI vs k (EU m))⟩):WA X (.Name (EW x) pos) m ⟨σ,zL ns vs⟩ Q:=lU O (lkI hd hn hv) (stI hd hn▸hq)
inductive Az {α:Type} (ns:List String) (f:α->List (Option MV)) (P:α->Sg->Prop):St->Prop
 |mk (a:α) {σ:Sg} (h:P a σ):Az ns f P ⟨σ,zL ns (f a)⟩
variable {X:Xc} {σ:Sg} {l:LL}
theorem av(O:XOk X){x:String}{pos m}{Q:MV->St->Prop}(h:fL l x=EU (EU m))(hq:Q m ⟨σ,mkL l⟩):WE X (.Name (EW x) pos) ⟨σ,mkL l⟩ Q:=gF O (lkL h) hq
theorem cO(O:XOk X){x:String}{pos m u}{Q:St->Prop}(h:fL l x=EU u)(hq:Q ⟨σ,mkL (stS l x m)⟩):WA X (.Name (EW x) pos) m ⟨σ,mkL l⟩ Q:=lU O (lkL h) (rX▸hq)
inductive At {α:Type} (f:α->LL) (P:α->Sg->Prop):St->Prop
 |mk (a:α) {σ:Sg} (h:P a σ):At f P ⟨σ,mkL (f a)⟩
theorem cE(σ:Sg)(l:Addr)(a b:MO):(σ.put l a).put l b=σ.put l b:=by
 funext c;unfold Sg.put;split<;>rfl
theorem cK{α:Type}{P:List α->Prop}(h:P [])(vs:List α)(e:vs.length=0):P vs:=FT.mp e▸h
theorem bk{α:Type}{P:List α->Prop}{n:Nat}(h:∀a (vs:List α),vs.length=n->P (a::vs)):∀vs:List α,vs.length=n+1->P vs
 |a::vs,e=>h a vs (Nat.succ.inj e)
end
section
noncomputable abbrev P2:=Int×Int
noncomputable def tp(p:P2):MV:= .t (.type "tuple") [.i p.1,.i p.2]
noncomputable def lt2(p q:P2):Prop:=p.1<q.1∨(p.1=q.1∧p.2<q.2)
instance (p q:P2):Decidable (lt2 p q):=by unfold lt2;exact inferInstance
noncomputable def sd(new:P2):Nat->Nat->List P2->List P2
 |0,pos,xs=>xs.set pos new
 |f+1,pos,xs=>if pos=0 then xs.set pos new else
  let par:=(xs[(pos-1)/2]?).getD (0,0)
  if lt2 new par then sd new f ((pos-1)/2) (xs.set pos par) else xs.set pos new
structure SJ (l:Addr) (xs:List P2) (pos:Nat) (σ:Sg) (new:P2) (n:Nat) (ys:List P2) (f:Nat) (σ':Sg):Prop where
 e:σ' l=EU (.lst (ys.map tp))
 o:∀b,b≠l->σ' b=σ b
 p:n<ys.length
 l':ys.length=xs.length
 f':n≤f
 t:sd new f n ys=sd new pos pos xs
theorem zz{n:Nat}(h:¬n=0):((n:Int)-1).fdiv (2^(1:Int).toNat)=(((n-1)/2:Nat):Int):=by
 rw[show ((2:Int)^(1:Int).toNat)=2 from rfl,Int.fdiv_eq_ediv_of_nonneg _ s!"d"];exact EB h
theorem dY{n:Nat}(h:¬n=0):(n-1)/2<n:=by exact zG h
theorem mlt{n:Nat}{ys:List P2}(h:n<ys.length):(n:Int)<((ys.map tp).length:Nat):=by rw[EZ];exact FP.mpr h
theorem mH{n:Nat}{ys:List P2}(h:n<ys.length):(ys.map tp)[(n:Int).toNat]?=EU (tp ys[n]):=by rw[FV,FA,E2 h];rfl
variable {l:Addr} {xs ys:List P2} {pos n f:Nat} {σ σ':Sg} {new:P2}
theorem SJ.z(h:SJ l xs pos σ new n ys f σ')(hx:xs.length<1000):(n:Int)<2^63:=iTT (Fs (h.l'▸h.p) hx) s!"d"
theorem SJ.put(h:SJ l xs pos σ new n ys f σ'){zs:List P2}(hs:zs=sd new f n ys):σ'.put l (.lst (zs.map tp))=σ.put l (.lst ((sd new pos pos xs).map tp)):=by
 subst hs;funext b;show (if b=l then EU _ else σ' b)=if b=l then EU _ else σ b
 rw[h.t];by_cases hb:b=l
 ·rw[if_pos hb,if_pos hb]
 ·rw[if_neg hb,if_neg hb];exact h.o b hb
theorem SJ.done(h:SJ l xs pos σ new n ys f σ')(hs:sd new f n ys=ys.set n new):σ'.put l (.lst ((ys.map tp).set ((n:Int).toNat) (tp new)))=σ.put l (.lst ((sd new pos pos xs).map tp)):=
 (congrArg (λz=>σ'.put l (.lst z)) List.map_set.symm).trans (h.put hs.symm)
theorem EL:sd new f 0 ys=ys.set 0 new:=by cases f<;>rfl
theorem AA(h0:¬n=0)(h:n<ys.length):sd new (f+1) n ys=if lt2 new (ys[(n-1)/2]'(Fs (dY h0) h)) then sd new f ((n-1)/2) (ys.set n (ys[(n-1)/2]'(Fs (dY h0) h))) else ys.set n new:=by
 simp only[sd,if_neg h0,E2 (Fs (dY h0) h),Option.getD_some]
theorem SJ.step(h:SJ l xs pos σ new n ys (f+1) σ')(h0:¬n=0)(hlt:lt2 new (ys[(n-1)/2]'(Fs (dY h0) h.p))):
 SJ l xs pos σ new ((n-1)/2) (ys.set n (ys[(n-1)/2]'(Fs (dY h0) h.p))) f (σ'.put l (.lst ((ys.map tp).set ((n:Int).toNat) (tp (ys[(n-1)/2]'(Fs (dY h0) h.p)))))):=by
 refine ⟨(if_pos rfl).trans (congrArg (λz=>EU (MO.lst z)) List.map_set.symm),λb hb=>(if_neg hb).trans (h.o b hb),?_,FD.trans h.l',?_,?_⟩
 ·rw[FD];exact Fs (dY h0) h.p
 ·exact FG (E1 (dY h0) h.f')
 ·rw[←h.t,AA h0 h.p,if_pos hlt]
theorem q6(X:Xc)(O:XOk X)(hu:X.A.units<cLine)(l:Addr)(xs:List P2)(pos:Nat)(σ:Sg)(hp:pos<xs.length)(hx:xs.length<1000)(e:σ l=EU (.lst (xs.map tp))){Q:Fl->St->Prop}(hq:∀ρ,Q .next ⟨σ.put l (.lst ((sd (xs[pos]) pos pos xs).map tp)),ρ⟩):
 WS X (cu (top 10)) ⟨σ,mkL [("heap",EU (.r l)),("startpos",EU (.i 0)),("pos",EU (.i pos)),("newitem",none),("parentpos",none),("parent",none)]⟩ Q:=by
 conv=>arg 2;whnf
 refine aa (ah s!"2" s!"2" trivial (aP (av O rfl (av O rfl (aY ⟨λ_ _=>s!"r",λ_ _=>s!"r"⟩ e (Fg _) (iTT (Fs hp hx) s!"d") (mH hp) (cO O rfl ?_))))));generalize xs[pos]=new at hq⊢;refine aa (dg (λn=>At (λa:List P2×Nat×Option MV×Option MV=>[("heap",EU (.r l)),("startpos",EU (.i 0)),("pos",EU (.i n)),("newitem",EU (tp new)),("parentpos",a.2.2.1),("parent",a.2.2.2)]) λa=>SJ l xs pos σ new n a.1 a.2.1) ?_ pos (.mk (xs,pos,none,none) ⟨e,λb _=>rfl,hp,rfl,Fe _,rfl⟩));rintro J hJ n _ ⟨⟨ys,f,u5,u6⟩,h⟩;dsimp only at h;refine aC s!"r" (av O rfl (av O rfl (hN (ay ?_))));by_cases h0:n=0
 ·subst h0;exact ifF s!"d" (ak (aa (ah s!"2" s!"2" trivial (av O rfl (eL (λ_ _ _=>rfl) (av O rfl (av O rfl (gL h.e (Fg _) (h.z hx) (mlt h.p) (ak (h.done EL▸hq _))))))))))
 obtain ⟨g,rfl⟩:∃g,f=g+1:=⟨f-1,(Nat.succ_pred_eq_of_pos (E1 (Hd h0) h.f')).symm⟩
 have hpp:=Fs (dY h0) h.p;refine ifT (decide_eq_true (FP.mpr (Hd h0))) (aa (ah s!"2" s!"2" trivial (ar (ar (av O rfl (aq (fa (aq (C5 s!"d" (cO O rfl ?_))))))))));rw[zz h0];refine aa (ah s!"2" s!"2" trivial (aP (av O rfl (av O rfl
  (aY ⟨λ_ _=>s!"r",λ_ _=>s!"r"⟩ h.e (Fg _) (iTT (Fs (h.l'▸hpp) hx) s!"d") (mH hpp) (cO O rfl ?_))))))
 refine aa (bl (aC s!"r" (av O rfl (av O rfl (xw hu (ay ?_))))));by_cases hlt:lt2 new (ys[(n-1)/2])
 ·refine ifT (decide_eq_true hlt) (aa (ah s!"2" s!"2" trivial (av O rfl (eL (λ_ _ _=>rfl) (av O rfl (av O rfl (gL h.e (Fg _) (h.z hx) (mlt h.p) ?_)))))));exact aa (ah s!"2" s!"2" trivial (av O rfl (cO O rfl (aa (ja (af _ (dY h0) (hJ _ _ (.mk (_,g,_,_) (h.step h0 hlt)))))))))
 ·refine ifF (λq=>hlt (of_decide_eq_true q)) (ak (aa (mZ (aa (ah s!"2" s!"2" trivial (av O rfl (eL (λ_ _ _=>rfl) (av O rfl (av O rfl (gL h.e (Fg _) (h.z hx) (mlt h.p) ?_))))))))));exact ak (h.done ((AA h0 h.p).trans (if_neg hlt))▸hq _)
end
structure Gd (C:Cx):Prop where
 says:Says C.w C.h0
 lim:C.h0.NoLimit
theorem Says.obj{w:FL}{h:Heap}(S:Says w h){a:Addr}{o:Obj}(e:(K w.params).lookup a=EU o)(hd:fx.contains a=false):h.get? a=EU o:=by
 obtain ⟨v,hv⟩:=S.k (a,o) (dM e);have:d6 a v o=o:=by unfold d6;rw[hd]
 rw[hv];exact congrArg EU this
theorem Says.fn{w:FL}{h:Heap}(S:Says w h){a:Addr}{st:Stmt}{n q:Str}{d pm cd:Value}{an:Option Addr}(e:(K w.params).lookup a=EU (mkF st n q d .none pm an cd)):
 ∃v,h.get? a=EU (mkF st n q d v pm an cd):=by
 refine xe1 (S.k (a,_) (dM e)) λv hv=>?_
 cases hd:fx.contains a with
 |true=>
  refine ⟨v,?_⟩;rw[hv];unfold d6;rw[hd];rfl
 |false=>
  refine ⟨.none,?_⟩;rw[hv];unfold d6;rw[hd]
theorem qV{l:List (Addr×Value)}{a:Addr}{o:Value}(h:l.lookup a=EU o):(a,o)∈l:=by
 induction l with
 |nil=>cases h
 |cons p r ih=>
  obtain ⟨b,x⟩:=p;simp only[List.lookup] at h;split at h
  ·rename_i q;cases h;rw[beq_iff_eq.mp q];exact .head _
  ·exact .tail _ (ih h)
theorem Says.code{w:FL}{h:Heap}(S:Says w h){c:Addr}{q:Str}{t:Tok}(e:dw.lookup c=EU (.str q t)):h.CodeRec (.ref c) q:=by
 have z:=S.c (c,_) (qV e);obtain ⟨o,ho⟩:=g6 z;rw[ho] at z;obtain ⟨cc,d,dt,sl⟩:=o
 cases dt with
 |fields vs=>exact (jA c _ vs t rfl ho ⟨rfl,z⟩)
 |_=>cases z
noncomputable def pz(o:Option Obj):List DictEntry:=match o with
 |some ⟨_,_,.dict es _,_⟩=>es.toList
 |_=>[]
noncomputable def du(l:List DictEntry)(x:Str):Option Value:=(l.find? λe=>e.key.isStr x).map (·.val)
noncomputable def ie(l:List DictEntry):Bool:=l.all λe=>match e.key with
 | .str _ _=>true
 |_=>false
theorem C2{h:Heap}{a:Addr}{o:Obj}(e:h.get? a=EU o){es:Array DictEntry}{n:Nat}(hd:o.data= .dict es n)(hk:ie es.toList=true):h.Ns a (du es.toList):=by
 refine (jG o es n e hd ⟨λen hen=>?_,λx=>?_⟩)
 ·have:=Fn.mp hk en (Array.mem_toList_iff.mpr hen)
  cases hke:en.key with
  |str s t=>exact (ie2 s t rfl)
  |_=>rw[hke] at this;cases this
 ·unfold nsFind findBy du;rw[←Array.find?_toList]
noncomputable def l3(P:F1):List DictEntry:=pz ((K P).lookup 3)
noncomputable def l0(P:F1):List DictEntry:=pz ((K P).lookup 0)
theorem g7{w:FL}{h:Heap}(S:Says w h){a:Addr}(hd:fx.contains a=false)(hs:(match (K w.params).lookup a with|some ⟨_,_,.dict es _,_⟩=>ie es.toList|_=>false)=true):
 h.Ns a (du (pz ((K w.params).lookup a))):=by
 cases e:(K w.params).lookup a with
 |none=>rw[e] at hs;cases hs
 |some o=>
  rw[e] at hs;obtain ⟨c,d,dt,sl⟩:=o
  cases dt with
  |dict es n=>exact C2 (S.obj e hd) rfl hs
  |_=>cases hs
theorem s3(P:F1):(match (K P).lookup 3 with|some ⟨_,_,.dict es _,_⟩=>ie es.toList|_=>false)=true:=s!"k"
theorem s0(P:F1):(match (K P).lookup 0 with|some ⟨_,_,.dict es _,_⟩=>ie es.toList|_=>false)=true:=s!"k"
noncomputable def g9(sc:Scope)(P:F1)(gs:List (Str×Value)):Bool:=gs.all λp=>sc.names.lookup p.1==EU .globalImplicit&& !(p.1==("__debug__" :Str))&&
 (du (l3 P) p.1==EU p.2||((du (l3 P) p.1).isNone&&du (l0 P) p.1==EU p.2))
theorem gz{l:List (Str×Value)}{a:Str}{o:Value}(h:l.lookup a=EU o):(a,o)∈l:=by
 induction l with
 |nil=>cases h
 |cons p r ih=>
  obtain ⟨b,x⟩:=p;simp only[List.lookup] at h;split at h
  ·rename_i q;cases h;rw[beq_iff_eq.mp q];exact .head _
  ·exact .tail _ (ih h)
theorem xok{C:Cx}(G:Gd C){A:Fb}(hh:A.handled=none){fd:FuncData}{L a:Addr}{gs:List (Str×Value)}(hk:fd.scope.kind= .function)(hg:fd.globals=3)(hb:fd.builtins=0)
 (ok:g9 fd.scope C.w.params gs=true):XOk ⟨C,A.deeper (callEnv fd L a),callEnv fd L a,gs⟩:=by
 refine ⟨hk,hh,λx v e=>?_⟩;have z:=Fn.mp ok (x,v) (gz e);simp only[Fd,Bool.or_eq_true,Gb,beq_iff_eq,Option.isNone_iff_eq_none] at z;refine xa1 z λz5 z3=>?_;clear z;refine xa1 z5 λz1 z2=>?_;clear z5;refine (ia2 z1 (by simpa using z2) (λs old E Q q=>?_))
 have n3:s.heap.Ns (callEnv fd L a).globals (du (l3 C.w.params)):=by
  show s.heap.Ns fd.globals _;rw[hg];exact (g7 G.says rfl (s3 _)).keeps old
 rcases z3 with z3|⟨z3,z4⟩
 ·exact loadGlobal_global n3 z3 q
 ·have n0:s.heap.Ns (callEnv fd L a).builtins (du (l0 C.w.params)):=by
   show s.heap.Ns fd.builtins _;rw[hb];exact (g7 G.says rfl (s0 _)).keeps old
  exact loadGlobal_builtin n3 z3 n0 z4 q
structure Rm (n:Nat) (A:Fb):Prop where
 hh:A.handled=none
 d:A.depth+4*n+1<recursionLimit
 u:A.units+16*n+16<cLine
theorem Rm.deeper{n:Nat}{A:Fb}(R:Rm (n+1) A)(env:Env):Rm n (A.deeper env):=by
 refine ⟨R.hh,?_,?_⟩
 ·have:=R.d;show A.depth+1+4*n+1<_;exact Aj this
 ·have:=R.u;show A.units+3+16*n+16<_;exact g16 this s!"d"
theorem aX{C:Cx}{fd:FuncData}{args:List MV}{ns:List Str}(hl:ns.length=args.length)(hloc:(ns.all λx=>fd.scope.names.lookup x==EU .local)=true)(hnd:ns.Nodup)
 (hb:∀vs:List Value,vs.length=args.length->bindArgs fd ⟨vs,[]⟩=pure (ns.zip vs)):BindOk C fd args (ns.zip args):=λs vs old r=>by
 have len:=r.length;refine (aR (ns.zip vs) (.of_eq (hb vs len)) (λx hx=>?_) (λx m hm=>?_))
 ·have:=Fn.mp hloc x.1 (List.of_mem_zip hx).1;simpa using this
 ·clear hb hloc
  have key:∀(ns:List Str) (args:List MV) (vs:List Value),ns.Nodup->ns.length=args.length->VRs s.heap args vs->(ns.zip args).lookup x=EU m->∃v,(x,v)∈ns.zip vs∧VR s.heap m v:=by
   intro ns
   induction ns with
   |nil=>intro args vs _ _ _ h;cases h
   |cons n ns ih=>
    intro args vs nd hl r h
    cases args with
    |nil=>cases hl
    |cons a as=>
     unfold VRs at r;refine am r λy ys z1 z2=>?_;clear r;subst z1;refine xa1 z2 λr1 r2=>?_;clear z2;simp only[List.zip_cons_cons,List.lookup] at h;split at h
     ·rename_i q;clear hl;cases h;rw[beq_iff_eq.mp q];exact (af y (.head _) r1)
     ·refine ad (ih as ys (G3.mp nd).2 (by simpa using hl) r2 h) λv hv rv=>?_;exact (af v (.tail _ hv) rv)
  refine ad (key ns args vs hnd hl r hm) λv hv rv=>?_;refine (af v ?_ rv)
  have uniq:∀(l:List (Str×Value)),(l.map (·.1)).Nodup->(x,v)∈l->l.lookup x=EU v:=by
   intro l
   induction l with
   |nil=>intro _ h;cases h
   |cons p l ih=>
    intro nd h;obtain ⟨b,y⟩:=p;simp only[List.lookup];rcases FI.mp h with h1|h1
    ·clear nd h;cases h1;simp
    ·have nb:x≠b:=λhb=>(G3.mp nd).1 (Fq.mpr (af _ h1 hb));rw[beq_eq_false_iff_ne.mpr nb];exact ih (G3.mp nd).2 h1
  refine uniq _ ?_ (List.mem_reverse.mpr hv);rw[List.map_reverse];show List.Pairwise _ _;rw[List.pairwise_reverse,List.map_fst_zip (by exact EY (E6 hl) (E6 (Eq.symm len)))];exact List.Pairwise.imp (λh=>E8 h) hnd
theorem Ct.mono{C:Cx}{A:Fb}{f:Value}{args:List MV}{σ:Sg}{Q Q':MV->Sg->Prop}(h:Ct C A f args σ Q)(k:∀m σ',Q m σ'->Q' m σ'):Ct C A f args σ Q':=λφ s vs I d r=>
 ab (h φ s vs I d r) λv s' y=>by
  obtain ⟨m,σ',a,b,c,e,q⟩:=y;exact ⟨m,σ',a,b,c,e,k m σ' q⟩
theorem wcE{X:Xc}{f:Value}{args:List MV}{σ τ:Sg}{ρ:Lo}{v:MV}{Q:MV->St->Prop}(h:Ct X.C X.A f args σ λm σ'=>m=v∧σ'=τ)(hq:Q v ⟨τ,ρ⟩):WC X f args ⟨σ,ρ⟩ Q:=xG (Ct.mono h λm σ' e=>by clear h;obtain ⟨rfl,rfl⟩:=e;exact hq)
theorem uK{X:Xc}{st:St}{QB:Bool->St->Prop}{l:Addr}{vs:List MV}(e:st.σ l=EU (.lst vs))(hfit:(vs.length:Int)<2^63)(h:QB (!vs.isEmpty) st):WT X (.r l) st QB:=λφ s v I r=>by
 cases (show v= .ref l from r);refine ad (I.own e) λitems pl rr=>?_
 have z:(!vs.isEmpty)=(items.size !=0):=by
  rw[rr.size];clear e hfit h rr;cases vs<;>simp
 rw[z] at h;refine wpAny_truthy_list pl.isList (by rw[rr.size];exact hfit) ?_;exact ⟨st,I.toks _,.refl _,h⟩
section
variable {X:Xc} {st:St} {φ:Sg}
theorem IF.hide{s:Shared}(I:IF X φ st s){a:Addr}{m:MO}(hn:st.σ a=none)(hF:a≠X.env.locals)(hz:X.C.h0.objs.size≤a)(x:OR s.heap a m):IF X (φ.put a m) st s:=by
 have q:Internal.tot st.σ (φ.put a m) X.env.locals st.ρ=(Internal.tot st.σ φ X.env.locals st.ρ).put a m:=by
  funext b;unfold Sg.put Internal.tot;by_cases h1:b=a
  ·clear hz x;subst h1;simp[hF,hn]
  ·simp[h1]
 refine ⟨by rw[q];exact I.inv.own hz x,I.no,λb n hb=>?_,I.loc⟩;show (if b=a then EU m else φ b)=none;rw[if_neg (λh=>by rw[h,hn] at hb;cases hb)];exact I.dis b n hb
theorem IF.unhide{s:Shared}{φ':Sg}(I:IF X φ' st s)(h:∀a m,φ a=EU m->φ' a=EU m):IF X φ st s:=by
 refine ⟨I.inv.sub λb n hb=>?_,I.no,λb n hb=>?_,I.loc⟩
 ·unfold Internal.tot at hb⊢;by_cases h1:b=X.env.locals
  ·rw[if_pos h1] at hb⊢;exact hb
  ·rw[if_neg h1] at hb⊢
   cases e:st.σ b with
   |some m=>rw[e] at hb;exact hb
   |none=>rw[e] at hb;exact h b n hb
 ·cases e:φ b with
  |none=>rfl
  |some m=>have:=h b m e;rw[I.dis b n hb] at this;cases this
theorem IF.move{s:Shared}{it:Addr}{m m':MO}{h':Heap}{t:Nat}(I:IF X (φ.put it m) st s)(nF:it≠X.env.locals)(ns:st.σ it=none)(ex:Heap.ExtBut it s.heap h')(x:OR h' it m'):
 IF X (φ.put it m') st {s with heap:=h',toks:=t}∧Keep s.heap h':=by
 have own:Internal.tot st.σ (φ.put it m) X.env.locals st.ρ it=EU m:=by
  unfold Internal.tot;rw[if_neg nF,ns];exact if_pos rfl
 have kk:Keep s.heap h':=λb o e im=>by
  refine ex b o (λhb=>?_) e;clear nF ns ex x;subst hb;refine ad ((I.inv.rep _ _ own).2.notImm) λo' ho' hi'=>?_;rw[e] at ho';cases ho';rw[im] at hi';cases hi'
 refine ⟨⟨⟨λb o hb=>ex b o (λh=>?_) (I.inv.old b o hb),λb n hb=>?_,I.inv.gens,I.inv.os⟩,I.no,λb n hb=>?_,I.loc⟩,kk⟩
 ·clear nF ns ex x;subst h;have:=Heap.lt_size hb;have:=(I.inv.rep _ _ own).1;exact absurd (E1 ‹_› this) (FC _)
 ·by_cases h1:b=it
  ·clear ex;subst h1
   have e:Internal.tot st.σ (φ.put b m') X.env.locals st.ρ b=EU m':=by
    unfold Internal.tot;rw[if_neg nF,ns];exact if_pos rfl
   rw[e] at hb;cases hb;exact ⟨(I.inv.rep _ _ own).1,x⟩
  ·have e:Internal.tot st.σ (φ.put it m') X.env.locals st.ρ b=Internal.tot st.σ (φ.put it m) X.env.locals st.ρ b:=by
    unfold Internal.tot Sg.put;simp[h1]
   rw[e] at hb;refine xa1 (I.inv.rep b n hb) λa1 a2=>?_;refine ad a2.notImm λo ho _=>?_;exact ⟨a1,a2.keep ((ex b o h1 ho).trans ho.symm) kk⟩
 ·have d:(if b=it then EU m else φ b)=none:=I.dis b n hb;show (if b=it then EU m' else φ b)=none;by_cases h1:b=it
  ·rw[if_pos h1] at d;cases d
  ·rw[if_neg h1] at d⊢;exact d
structure Steps (X:Xc) (mo:Nat->MO) (vs:List MV) (Cond:St->Prop):Prop where
 item:∀(i:Nat) (hi:i<vs.length) (φ:Sg) (st:St) (s:Shared) (it:Addr) (Qx:Option Value->Shared->Prop),IF X φ st s->Cond st->OR s.heap it (mo i)->
  (∀h' x t,OR h' it (mo (i+1))->Heap.ExtBut it s.heap h'->(Keep s.heap h'->VR h' vs[i] x)->Qx (EU x) {s with heap:=h',toks:=t})->E4 X.M X.A (pyNext (.ref it)) Qx NoE s
 done:∀(φ:Sg) (st:St) (s:Shared) (it:Addr) (Qx:Option Value->Shared->Prop),IF X φ st s->Cond st->OR s.heap it (mo vs.length)->
  (∀h' t,Heap.ExtBut it s.heap h'->Qx none {s with heap:=h',toks:=t})->E4 X.M X.A (pyNext (.ref it)) Qx NoE s
theorem IF.forget{s:Shared}{it:Addr}{m:MO}{h':Heap}{t:Nat}(I:IF X (φ.put it m) st s)(nF:it≠X.env.locals)(ns:st.σ it=none)(nφ:φ it=none)(ex:Heap.ExtBut it s.heap h'):
 IF X φ st {s with heap:=h',toks:=t}∧Keep s.heap h':=by
 have own:Internal.tot st.σ (φ.put it m) X.env.locals st.ρ it=EU m:=by
  unfold Internal.tot;rw[if_neg nF,ns];exact if_pos rfl
 have kk:Keep s.heap h':=λb o e im=>by
  refine ex b o (λhb=>?_) e;clear nF ns nφ ex;subst hb;refine ad ((I.inv.rep _ _ own).2.notImm) λo' ho' hi'=>?_;rw[e] at ho';cases ho';rw[im] at hi';cases hi'
 have I₃:IF X φ st s:=I.unhide λa n e=>by
  show (if a=it then EU _ else φ a)=EU n;rw[if_neg (λh=>by rw[h,nφ] at e;cases e)];exact e
 refine ⟨⟨⟨λb o hb=>ex b o (λh=>?_) (I.inv.old b o hb),λb n hb=>?_,I.inv.gens,I.inv.os⟩,I.no,I₃.dis,I.loc⟩,kk⟩
 ·clear nF ns nφ ex;subst h;have:=Heap.lt_size hb;have:=(I.inv.rep _ _ own).1;exact absurd (E1 ‹_› this) (FC _)
 ·refine xa1 (I₃.inv.rep b n hb) λa1 a2=>?_;refine ad a2.notImm λo ho _=>?_
  have nb:b≠it:=λh=>by
   clear I ex own;subst h;have hb:(if b=X.env.locals then EU (MO.fr st.ρ) else (st.σ b).or (φ b))=EU n:=hb;rw[if_neg nF,ns,nφ] at hb;cases hb
  exact ⟨a1,a2.keep ((ex b o nb ho).trans ho.symm) kk⟩
noncomputable def eV(X:Xc)(target:Fw)(mo:Nat->MO):Prop:=∀(i:Nat) (s:Shared) (it:Addr) (v:Value) (Q':Unit->Shared->Prop) (E':Value->Shared->Prop),OR s.heap it (mo i)->Q' () s->E4 X.M X.A (letOwnedTupleGo target (.ref it) v) Q' E' s
theorem dB{target:Fw}{mo:Nat->MO}(h:∀it v,letOwnedTupleGo target (.ref it) v=pure ()):eV X target mo:=λi s it v Q' E' _ hq=>by rw[h];exact E0 hq
theorem iy{elts:List Fw}{x1}{p:Pos}{l:Addr}:eV X (.Tuple elts x1 p) λi=> .itl l i:=λi s it v Q' E' h hq=>by
 cases v with
 |ref a=>exact wpAny_letOwnedTupleGo_listiter h hq
 |_=>exact E0 hq
@[reducible] def FoP(J:Nat->St->Prop)(i:Nat)(Q:Fl->St->Prop):Fl->St->Prop
 | .next,st=>J (i+1) st
 | .cont,st=>J (i+1) st
 | .brk,st=>Q .next st
 | .ret v,st=>Q (.ret v) st
theorem kD{target iter:Fw}{body orelse:List Stmt}{pos}{mo:Nat->MO}{vs:List MV}{Cond:St->Prop}{Q:Fl->St->Prop}(J:Nat->St->Prop)(S:Steps X mo vs Cond)
 (hs:∀x,F6 iter X.env x=pure x) (ht:eV X target mo)
 (h:WE X iter st λm st₁=>J 0 st₁∧∀φ s v,IF X φ st₁ s->VR s.heap m v->∀Qx:Value->Shared->Prop,
  (∀it h' t,(∀b o,s.heap.get? b=EU o->h'.get? b=EU o)->s.heap.objs.size≤it->OR h' it (mo 0)->Qx (.ref it) {s with heap:=h',toks:=t})->E4 X.M X.A (pyIter v) Qx NoE s)
 (cond:∀i st,J i st->Cond st)
 (turn:∀J':Nat->St->Prop,(∀i st,J i st->J' i st)->∀i (hi:i<vs.length) st,J i st->WA X target vs[i] st λst₂=>WS X body st₂ (FoP J' i Q))
 (fin:∀st,J vs.length st->WS X orelse st Q):WS1 X (.For target iter body orelse pos) st Q:=λφ s I=>by
 refine wpAny_For (ab (h φ s I) λx s₁ pp=>?_) hs;obtain ⟨m,st₁,r,I₁,k₁,j₁,hiter⟩:=pp;refine hiter φ s₁ x I₁ r _ λit h₁ t₁ keep₁ new₁ or₁=>?_
 have fr:∀b,s₁.heap.objs.size≤b->Internal.tot st₁.σ φ X.env.locals st₁.ρ b=none:=λb hb=>by
  cases e:Internal.tot st₁.σ φ X.env.locals st₁.ρ b with
  |none=>rfl
  |some m=>exact absurd (E1 (I₁.inv.lt e) hb) (FC _)
 refine xa2 (bB (fr it new₁)) λnF n2 n3=>?_;have I₂:IF X (φ.put it (mo 0)) st₁ {s₁ with heap:=h₁,toks:=t₁}:=(I₁.grow keep₁ t₁).hide n2 nF (EY I₁.inv.sz new₁) or₁
 have drop:∀(i:Nat) a m,φ a=EU m->(φ.put it (mo i)) a=EU m:=λi a m e=>by
  show (if a=it then EU _ else φ a)=EU m;rw[if_neg (λh=>by rw[h,n3] at e;cases e)];exact e
 refine codeAny_forLoop_any (λn s'=>∃i st',IF X (φ.put it (mo i)) st' s'∧Keep s.heap s'.heap∧J i st'∧i≤vs.length∧n=vs.length-i) (λn s₂ y=>?_) vs.length
  ⟨0,st₁,I₂,k₁.trans (aB keep₁),j₁,FZ _,rfl⟩
 refine fv y λi st₂ I₂ k₂ j₂ hi hn=>?_;have li:(φ.put it (mo i)) it=EU (mo i):=if_pos rfl
 have ns:st₂.σ it=none:=by
  cases e:st₂.σ it with
  |none=>rfl
  |some m=>have:=I₂.dis it m e;rw[li] at this;cases this
 have own:Internal.tot st₂.σ (φ.put it (mo i)) X.env.locals st₂.ρ it=EU (mo i):=by
  unfold Internal.tot;rw[if_neg nF,ns];exact li
 have ori:=(I₂.inv.rep _ _ own).2;by_cases hlt:i<vs.length
 ·refine FE (S.item i hlt _ st₂ s₂ it _ I₂ (cond i st₂ j₂) ori λh' x t or' ex rx=>?_) (λ_ _ z=>z) λ_ _ x=>x.elim;refine ht (i+1) _ it _ _ _ or' ?_;refine xa1 (I₂.move (t:=t) nF ns ex or') λI₃ kk=>?_;refine FE (turn J (λ_ _ h=>h) i hlt st₂ j₂ _ _ x I₃ (rx kk)) (λ_ s₄ pp=>?_) λ_ _ x=>x.elim;obtain ⟨st₄,I₄,k₄,q₄⟩:=pp;refine FE (q₄ _ s₄ I₄) (λf s₅ pp=>?_) λ_ _ x=>x.elim;obtain ⟨fl,st₅,rf,I₅,k₅,q₅⟩:=pp;have kt:=k₂.trans (kk.trans (k₄.trans k₅))
  cases fl with
  |next=>cases (show f= .next from rf);exact ⟨vs.length-(i+1),by exact mJ hn hlt,i+1,st₅,I₅,kt,q₅,by exact o80 hlt,rfl⟩
  |cont=>cases (show f= .cont from rf);exact ⟨vs.length-(i+1),by exact mJ hn hlt,i+1,st₅,I₅,kt,q₅,by exact o80 hlt,rfl⟩
  |brk=>cases (show f= .brk from rf);exact ⟨.next,st₅,rfl,I₅.unhide (drop _),kt,q₅⟩
  |ret m=>refine ad rf λv z1 rv=>?_;clear rf;subst z1;exact ⟨.ret m,st₅,⟨v,rfl,rv⟩,I₅.unhide (drop _),kt,q₅⟩
 ·have hin:i=vs.length:=by exact wp hi hlt
  clear hi hn li own hlt;subst hin;refine FE (S.done _ st₂ s₂ it _ I₂ (cond _ st₂ j₂) ori λh' t ex=>?_) (λ_ _ z=>z) λ_ _ x=>x.elim;refine xa1 (I₂.forget (t:=t) nF ns n3 ex) λI₃ kk=>?_;exact FE (fin st₂ j₂ φ _ I₃) (λf s₅ p=>p.trans (k₂.trans kk)) λ_ _ x=>x.elim
theorem fD{target iter:Fw}{body orelse:List Stmt}{pos}{mo:Nat->MO}{vs:List MV}{Cond:St->Prop}{Q:Fl->St->Prop}(J:Nat->St->Prop)(S:Steps X mo vs Cond)
 (hs:∀x,F6 iter X.env x=pure x) (ht:∀it v,letOwnedTupleGo target (.ref it) v=pure ())
 (h:WE X iter st λm st₁=>J 0 st₁∧∀φ s v,IF X φ st₁ s->VR s.heap m v->∀Qx:Value->Shared->Prop,
  (∀it h' t,(∀b o,s.heap.get? b=EU o->h'.get? b=EU o)->s.heap.objs.size≤it->OR h' it (mo 0)->Qx (.ref it) {s with heap:=h',toks:=t})->E4 X.M X.A (pyIter v) Qx NoE s)
 (cond:∀i st,J i st->Cond st)
 (turn:∀J':Nat->St->Prop,(∀i st,J i st->J' i st)->∀i (hi:i<vs.length) st,J i st->WA X target vs[i] st λst₂=>WS X body st₂ (FoP J' i Q))
 (fin:∀st,J vs.length st->WS X orelse st Q):WS1 X (.For target iter body orelse pos) st Q:=kD J S hs (dB ht) h cond turn fin
theorem ci(O:XOk X)(l:Addr)(vs:List MV):Steps X (λi=> .itl l i) vs λst=>st.σ l=EU (.lst vs) where
 item:=λi hi φ st s it Qx I e ori hq=>by
  refine ad (I.own e) λitems pl rr=>?_;obtain ⟨x,hx,rx⟩:=rr.arr (E2 hi);exact wpAny_pyNext_list_item ori pl.isList hx λh' hit' sb=>hq h' x s.toks hit' sb.extBut λkk=>rx.keep kk
 done:=λφ st s it Qx I e ori hq=>by
  refine ad (I.own e) λitems pl rr=>?_;exact wpAny_pyNext_list_end O.hh ori pl.isList (by rw[←rr.size];simp) λh' ex=>hq h' s.toks ex
theorem cB{l:Addr}{vs:List MV}(e:st.σ l=EU (.lst vs)):∀φ s v,IF X φ st s->VR s.heap (.r l) v->∀Qx:Value->Shared->Prop,
 (∀it h' t,(∀b o,s.heap.get? b=EU o->h'.get? b=EU o)->s.heap.objs.size≤it->OR h' it (.itl l 0)->Qx (.ref it) {s with heap:=h',toks:=t})->E4 X.M X.A (pyIter v) Qx NoE s:=λφ s v I r Qx hq=>by
 cases (show v= .ref l from r);refine ad (I.own e) λitems pl rr=>?_;exact wpAny_pyIter_list pl.isList (hq _ _ s.toks (λb o e=>Heap.get?_push_of_some _ e) (Fe _) (aR _ (Heap.get?_push_size _ rfl) rfl rfl))
end
section
variable {X:Xc} {st:St} {φ:Sg} {Q:MV->St->Prop}
theorem f7(O:XOk X){x:Str}{p pos:Pos}{e:Fw}{es:List Fw}{T:String}(hf:X.gs.lookup x=EU (.type T))(hs:Starless (e::es))(h:WEs X (e::es) st λms st₁=>WC X (.type T) ms st₁ Q):
 WE X (.Call (.Name x p) (e::es) [] pos) st Q:=λφ s I=>by
 refine Call_Name rfl ?_;refine ab (de O hf (Q:=λm st'=>m= .k (.type T)∧st'=st) ⟨rfl,rfl⟩ φ s I) λv s₁ pp=>?_;obtain ⟨m,st₁,r,I₁,k,e1,e2⟩:=pp;clear I;subst e1 e2;cases (show v= .type T from r);refine PySem.callWith_type (bM hs) (bt hs (ab (cr hs h I₁) λvs s₂ pp=>?_));obtain ⟨ms,st₂,r₂,I₂,k₂,q⟩:=pp;exact ab (q φ s₂ vs I₂ r₂) λu s₃ z=>z.trans (k.trans k₂)
noncomputable def rgO(a b:Int):MO:= .any λo=>∃t u v,o={cls:= .type "range",dict:=none,data:= .fields #[.int a t,.int b u,.int 1 v],slots:= #[]}
noncomputable def rgI(a n:Int):MO:= .any λo=>o={cls:= .type "range_iterator",dict:=none,data:= .fields #[rawInt a,rawInt n,rawInt 1],slots:= #[]}
theorem pi{n:Int}(hq:∀a,st.σ a=none->Q (.r a) ⟨st.σ.put a (rgO 0 n),st.ρ⟩):WC X (.type "range") [.i n] st Q:=λφ s us I r=>by
 refine vZ r λt=>?_;refine call_range_1 ?_;obtain ⟨nn,I₂⟩:=I.new (m:=rgO 0 n) (o:={cls:= .type "range",data:= .fields #[.int 0 s.toks,.int n t,.int 1 (s.toks+1)]}) (cj _ (Heap.get?_push_size _ rfl) rfl _ ⟨_,_,rfl⟩);exact .mk (bO ..) (I₂.toks _) (keep_push _ _) (hq _ nn)
theorem qh{a n:Int}(hq:∀b,st.σ b=none->Q (.r b) ⟨st.σ.put b (rgO a n),st.ρ⟩):WC X (.type "range") [.i a,.i n] st Q:=λφ s us I r=>by
 refine BZ r λt u=>?_;refine call_range_2 ?_;obtain ⟨nn,I₂⟩:=I.new (m:=rgO a n) (o:={cls:= .type "range",data:= .fields #[.int a t,.int n u,.int 1 s.toks]}) (cj _ (Heap.get?_push_size _ rfl) rfl _ ⟨_,_,rfl⟩);exact .mk (bO ..) (I₂.toks _) (keep_push _ _) (hq _ nn)
noncomputable def cX(a:Int)(n:Nat):List MV:=(F8 n).map λ(i:Nat)=>MV.i (a+(i:Int))
theorem gA(O:XOk X)(a:Int)(n:Nat):Steps X (λi=>rgI (a+i) (n-i)) (cX a n) λ_=>True where
 item:=λi hi φ st s it Qx I e ori hq=>by
  refine aV ori λo ho _ z1=>?_;clear ori;subst z1;have hi':i<n:=by simpa[cX] using hi
  refine wpAny_pyNext_range_item (x:=a+i) (left:=n-i) (step:=1) ho (by exact Int.sub_pos_of_lt (FP.mpr hi')) λh' hit' sb=>?_;refine hq h' _ _ (aR _ hit' rfl ?_) sb.extBut λkk=>?_
  ·rw[show a+(i:Int)+1=a+((i+1:Nat):Int) by exact DM,show (n:Int)-i-1=n-((i+1:Nat):Int) by exact Int.sub_sub _ _ _]
  ·simp only[cX,F9,List.getElem_range];exact cH ..
 done:=λφ st s it Qx I e ori hq=>by
  refine aV ori λo ho _ z1=>?_;clear ori;subst z1;refine wpAny_pyNext_range_end O.hh ho (by simp[cX]) λh' ex=>hq h' s.toks ex
theorem hO{r:Addr}{a b:Int}(ha: -(2^62)≤a)(ha':a<2^62)(hb: -(2^62)≤b)(hb':b<2^62)(n:Nat)(hn:(if a<b then b-a else 0)=(n:Int))(e:st.σ r=EU (rgO a b)):
 ∀φ s v,IF X φ st s->VR s.heap (.r r) v->∀Qx:Value->Shared->Prop,
  (∀it h' t,(∀b o,s.heap.get? b=EU o->h'.get? b=EU o)->s.heap.objs.size≤it->OR h' it (rgI (a+(0:Nat)) (n-(0:Nat)))->Qx (.ref it) {s with heap:=h',toks:=t})->E4 X.M X.A (pyIter v) Qx NoE s:=λφ s v I rr Qx hq=>by
 cases (show v= .ref r from rr);refine aV (I.own e) λo ho _ z1=>?_;refine xe2 z1 λt u z2=>?_;clear z1;obtain ⟨w,rfl⟩:=z2;refine wpAny_pyIter_range (a:=a) (b:=b) (c:=1) ho (small_one ha ha' hb hb') (hq _ _ s.toks (λb o e=>Heap.get?_push_of_some _ e) (Fe _) (aR _ (Heap.get?_push_size _ rfl) rfl ?_));rw[rangeSize_one,hn];simp
end
section
variable {X:Xc} {st:St} {φ:Sg} {Q:MV->St->Prop}
theorem y4(O:XOk X){x:Str}{pos c m}(hl:X.env.kindOf x=EU .cell)(hc:X.env.cells.lookup x=EU c)(hd:(x==("__debug__" :Str))=false)(e:st.σ c=EU (.cel (EU m)))(hq:Q m st):
 WE X (.Name x pos) st Q:=λφ s I=>by
 refine ad (I.own e) λv hv r=>?_;exact wpAny_Name (wpAny_loadName_cell O.fn hl hc hv (.mk r I (.refl _) hq)) hd
theorem yp(O:XOk X){x:Str}{pos c m u}{QU:St->Prop}(hl:X.env.kindOf x=EU .cell)(hc:X.env.cells.lookup x=EU c)(e:st.σ c=EU (.cel u))(hq:QU ⟨st.σ.put c (.cel (EU m)),st.ρ⟩):
 WA X (.Name x pos) m st QU:=λφ s v I r=>by
 have own:=I.own e
 have fin:∀h',h'.IsCell c (EU v)->Heap.SameBut c s.heap h'->PostU X φ s QU {s with heap:=h'}:=λh' hv sb=>by
  have k:=co I e sb;exact ⟨_,I.upd (m':= .cel (EU m)) (t:=s.toks) e sb (af v hv (r.keep k)),k,hq⟩
 cases u with
 |none=>exact wpAny_assign_Name (wpAny_storeName_cell O.fn hl hc own fin)
 |some w=>refine ad own λv' hv' _=>?_;exact wpAny_assign_Name (wpAny_storeName_cell O.fn hl hc hv' fin)
end
section
variable {X:Xc} {st:St} {φ:Sg} {Q:MV->St->Prop}
noncomputable abbrev Xi(X:Xc)(scope:Scope)(cl:List (Str×Addr))(C:Addr)(gs:List (Str×Value)):Xc:=⟨X.C,X.A,Gm scope cl C X.env,gs⟩
theorem IF.enter{s:Shared}{scope:Scope}{cl:List (Str×Addr)}{C:Addr}{gs:List (Str×Value)}{ρi:Lo}(I:IF X φ st s)(hC:Internal.tot st.σ φ X.env.locals st.ρ C=none)(hz:X.C.h0.objs.size≤C)(fr:FrR s.heap C ρi)
 (loc:∀x v,lk ρi x=EU v->(Gm scope cl C X.env).kindOf x=EU .local∧(x==("__debug__" :Str))=false):
 IF (Xi X scope cl C gs) (φ.put X.env.locals (.fr st.ρ)) ⟨st.σ,ρi⟩ s:=by
 refine xa2 (bB hC) λn1 n2 n3=>?_
 have q:Internal.tot st.σ (φ.put X.env.locals (.fr st.ρ)) C ρi=(Internal.tot st.σ φ X.env.locals st.ρ).put C (.fr ρi):=by
  funext b;unfold Sg.put Internal.tot;by_cases h1:b=C
  ·clear hC hz fr loc n1 n2 n3;subst h1;simp
  ·by_cases h2:b=X.env.locals
   ·subst h2;simp[h1,I.no]
   ·simp[h1,h2]
 refine ⟨?_,n2,λb n hb=>?_,loc⟩
 ·show Inv X.C (Internal.tot st.σ (φ.put X.env.locals (.fr st.ρ)) C ρi) s;rw[q];exact I.inv.own hz fr
 ·show (if b=X.env.locals then EU _ else φ b)=none;have hb:st.σ b=EU n:=hb;rw[if_neg (λh=>by rw[h,I.no] at hb;cases hb)];exact I.dis b n hb
theorem IF.leave{s:Shared}{scope:Scope}{cl:List (Str×Addr)}{C:Addr}{gs:List (Str×Value)}{φ':Sg}{st':St}{ρ:Lo}(I:IF (Xi X scope cl C gs) φ' st' s)(nF:X.env.locals≠C)(hF:φ' X.env.locals=EU (.fr ρ))(hC:φ C=none)
 (sub:∀a m,a≠X.env.locals->φ a=EU m->φ' a=EU m) (hl:∀x v,lk ρ x=EU v->X.env.kindOf x=EU .local∧(x==("__debug__" :Str))=false):IF X φ ⟨st'.σ,ρ⟩ s:=by
 have no:st'.σ X.env.locals=none:=by
  cases e:st'.σ X.env.locals with
  |none=>rfl
  |some m=>have:=I.dis _ m e;rw[hF] at this;cases this
 refine ⟨I.inv.sub λb n hb=>?_,no,λb n hb=>?_,hl⟩
 ·show (if b=C then EU (MO.fr st'.ρ) else (st'.σ b).or (φ' b))=EU n;have hb:(if b=X.env.locals then EU (MO.fr ρ) else (st'.σ b).or (φ b))=EU n:=hb;by_cases h1:b=X.env.locals
  ·subst h1;rw[if_pos rfl] at hb;rw[if_neg nF,no,hF];exact hb
  ·rw[if_neg h1] at hb
   have nC:b≠C:=λh=>by
    subst h;have:=I.no;have:st'.σ b=none:=this;rw[this,hC] at hb;cases hb
   rw[if_neg nC]
   cases e:st'.σ b with
   |some m=>rw[e] at hb;exact hb
   |none=>rw[e] at hb;exact sub b n h1 hb
 ·cases e:φ b with
  |none=>rfl
  |some m=>have:=sub b m (λh=>by subst h;have hb:st'.σ X.env.locals=EU n:=hb;rw[no] at hb;cases hb) e;rw[I.dis b n hb] at this;cases this
theorem IF.show_{s:Shared}{a:Addr}{m:MO}(I:IF X (φ.put a m) st s)(hn:st.σ a=none)(hF:a≠X.env.locals)(hφ:φ a=none):IF X φ ⟨st.σ.put a m,st.ρ⟩ s:=by
 have q:Internal.tot (st.σ.put a m) φ X.env.locals st.ρ=Internal.tot st.σ (φ.put a m) X.env.locals st.ρ:=by
  funext b;unfold Sg.put Internal.tot;by_cases h1:b=a
  ·clear I hφ;subst h1;simp[hF,hn]
  ·simp[h1]
 refine ⟨by show Inv X.C (Internal.tot (st.σ.put a m) φ X.env.locals st.ρ) s;rw[q];exact I.inv,?_,λb n hb=>?_,I.loc⟩
 ·show (if X.env.locals=a then EU m else st.σ X.env.locals)=none;rw[if_neg (E8 hF)];exact I.no
 ·have hb:(if b=a then EU m else st.σ b)=EU n:=hb;by_cases h1:b=a
  ·rw[h1];exact hφ
  ·rw[if_neg h1] at hb;have d:(if b=a then EU m else φ b)=none:=I.dis b n hb;rw[if_neg h1] at d;exact d
end
section
variable {X:Xc} {st:St} {φ:Sg} {Q:MV->St->Prop}
noncomputable def bP(X:Xc):List Fw->St->(Bool->St->Prop)->Prop
 | [],st,Q=>Q true st
 | [c],st,Q=>WB X c st Q
 |_,_,_=>False
theorem vD{ifs:List Fw}{QB:Bool->St->Prop}{s:Shared}(h:bP X ifs st QB)(I:IF X φ st s):
 E4 X.M X.A (forIn ifs true λc r=>if r=true then do let ok←isTrue c X.env (eval c X.env);pure (ForInStep.yield ok) else pure (ForInStep.yield r)) (PostB X φ s QB) NoE s:=by
 rcases ifs with _|⟨c,_|⟨d,l⟩⟩
 ·exact wpAny_tests_nil ⟨st,I,.refl _,h⟩
 ·exact wpAny_tests_one (h φ s I)
 ·exact h.elim
noncomputable def loC(scope:Scope):Lo:=(scope.names.filter λp=>p.2== .local).map λp=>(p.1,none)
theorem d8(σ:Sg){a b:Addr}(m n:MO)(h:a≠b):(σ.put a m).put b n=(σ.put b n).put a m:=by
 funext c;unfold Sg.put;by_cases h1:c=b
 ·subst h1;simp[E8 h]
 ·simp[h1]
theorem IF.leave'{s:Shared}{scope:Scope}{cl:List (Str×Addr)}{C:Addr}{gs:List (Str×Value)}{φ':Sg}{st':St}{ρ:Lo}(I:IF (Xi X scope cl C gs) φ' st' s)(nF:X.env.locals≠C)(hF:φ' X.env.locals=EU (.fr ρ))(hC:φ C=none)
 (sub:∀a m,a≠X.env.locals->φ a=EU m->φ' a=EU m) (hl:∀x v,lk ρ x=EU v->X.env.kindOf x=EU .local∧(x==("__debug__" :Str))=false):IF X (φ.put C (.fr st'.ρ)) ⟨st'.σ,ρ⟩ s:=
 (I.leave nF hF hC sub hl).hide I.no (E8 nF) (I.inv.rep C (.fr st'.ρ) (if_pos rfl)).1 (I.inv.rep C (.fr st'.ρ) (if_pos rfl)).2
theorem o4{prog:Program}{w:FL}{A:Fb}{R:Result->Shared->Prop}{s:Shared}{elt target iter:Fw}{ifs:List Fw}{scope:Scope}{pos:Pos}{it acc:Value}{env:Env}(I:Nat->Shared->Prop)
 (turn:∀n s,I n s->E4 (Fa prog w) A (pyNext it) (λr s₁=>match r with
  |none=>R (.ok .next) s₁
  |some v=>E4 (Fa prog w) A (letOwnedTupleGo target it v) (λ_ s₁'=>E4 (Fa prog w) A (assign target env v) (λ_ s₂=>
   E4 (Fa prog w) A (forIn ifs true λc r=>if r=true then do let ok←isTrue c env (eval c env);pure (ForInStep.yield ok) else pure (ForInStep.yield r)) (λok s₃=>
    if ok=true then E4 (Fa prog w) A (eval elt env) (λx s₄=>
     E4 (Fa prog w) A (call (.builtin "list.append") [acc,x]) (λ_ s₅=>∃m,m<n∧I m s₅) NoE s₄) NoE s₃
    else∃m,m<n∧I m s₃) NoE s₂) NoE s₁') NoE s₁) NoE s)
 (n:Nat) (h:I n s):codeAny (Fa prog w) A (.compLoop (.ListComp elt [⟨target,iter,ifs,0⟩] scope pos) 0 it acc env) R s:=by
 refine codeAny_loop rfl I (λn s hI=>?_) n h;show E4 _ A ((compTurn (.ListComp elt [⟨target,iter,ifs,0⟩] scope pos) 0 it acc env).onRaise (λx=>do noteFrame x env;theTreesLotGoes x)) _ _ s;refine wpAny_noted ?_;rw[compTurn_list];refine EX (GJ (EX (FE (turn n s hI) (λr s₁ h₁=>?_) λ_ _ z=>z.elim)))
 cases r with
 |none=>exact E0 h₁
 |some v=>
  refine EX (FE h₁ (λ_ s₁' h₁'=>?_) λ_ _ z=>z.elim);refine EX (FE h₁' (λ_ s₂ h₂=>EX (FE h₂ (λok s₃ h₃=>?_) λ_ _ z=>z.elim)) λ_ _ z=>z.elim)
  cases ok with
  |false=>exact E0 ⟨rfl,h₃⟩
  |true=>
   exact EX (EX (FE h₃ (λx s₄ h₄=>EX (FE h₄ (λ_ s₅ h₅=>E0 (E0 ⟨rfl,h₅⟩)) λ_ _ z=>z.elim)) λ_ _ z=>z.elim))
theorem vA{elt target iter:Fw}{ifs:List Fw}{scope:Scope}{pos:Pos}{cl:List (Str×Addr)}{gs:List (Str×Value)}{mo:Nat->MO}{vs:List MV}{Cond:St->Prop}{C it D:Addr}{ψ:Sg}{s:Shared}{st₀:St}
 {R:Result->Shared->Prop}
 (J:Nat->List MV->St->Prop) (S:Steps (Xi X scope cl C gs) mo vs Cond) (ht:eV (Xi X scope cl C gs) target mo) (sz:vs.length≤sizeLine)
 (nit:it≠C) (nD:D≠C) (nDi:it≠D) (ψi:ψ it=none) (ψD:ψ D=none)
 (I₀:IF (Xi X scope cl C gs) ((ψ.put D (.lst [])).put it (mo 0)) st₀ s) (j₀:J 0 [] st₀) (jl:∀i acc st,J i acc st->acc.length≤i)
 (cond:∀i acc st,J i acc st->Cond st)
 (turn:∀i (hi:i<vs.length) acc st,J i acc st->WA (Xi X scope cl C gs) target vs[i] st λst₂=>bP (Xi X scope cl C gs) ifs st₂ λok st₃=>
  if ok=true then WE (Xi X scope cl C gs) elt st₃ λm st₄=>J (i+1) (acc++[m]) st₄ else J (i+1) acc st₃)
 (fin:∀acc st' s',J vs.length acc st'->IF (Xi X scope cl C gs) (ψ.put D (.lst acc)) st' s'->Keep s.heap s'.heap->R (.ok .next) s'):
 codeAny (Fa pgm X.C.w) X.A (.compLoop (.ListComp elt [⟨target,iter,ifs,0⟩] scope pos) 0 (.ref it) (.ref D) (Gm scope cl C X.env)) R s:=by
 refine o4 (λn s'=>∃i acc st',IF (Xi X scope cl C gs) ((ψ.put D (.lst acc)).put it (mo i)) st' s'∧Keep s.heap s'.heap∧J i acc st'∧i≤vs.length∧n=vs.length-i) ?_ vs.length (kP 0 ([]) st₀ I₀ (.refl _) j₀ (FZ _) rfl);intro n s₂ zr1;refine iu zr1 λi acc st₂ I₂ k₂ j₂ z1=>?_;clear zr1;obtain ⟨hi,hn⟩:=z1;have li:((ψ.put D (.lst acc)).put it (mo i)) it=EU (mo i):=if_pos rfl
 have nsi:∀{st:St} {s:Shared} {i:Nat} {acc:List MV},IF (Xi X scope cl C gs) ((ψ.put D (.lst acc)).put it (mo i)) st s->st.σ it=none:=λ{st} {s} {i} {acc} I=>by
  cases e:st.σ it with
  |none=>rfl
  |some m=>have z:=I.dis it m e;have:((ψ.put D (.lst acc)).put it (mo i)) it=EU (mo i):=if_pos rfl;rw[this] at z;cases z
 have nsD:∀{st:St} {s:Shared} {i:Nat} {acc:List MV},IF (Xi X scope cl C gs) ((ψ.put D (.lst acc)).put it (mo i)) st s->st.σ D=none:=λ{st} {s} {i} {acc} I=>by
  cases e:st.σ D with
  |none=>rfl
  |some m=>
   have z:=I.dis D m e;have:((ψ.put D (.lst acc)).put it (mo i)) D=EU (.lst acc):=by unfold Sg.put;rw[if_neg (E8 nDi),if_pos rfl]
   rw[this] at z;cases z
 have own:Internal.tot st₂.σ ((ψ.put D (.lst acc)).put it (mo i)) C st₂.ρ it=EU (mo i):=by
  unfold Internal.tot;rw[if_neg nit,nsi I₂];exact li
 have ori:=(I₂.inv.rep _ _ own).2;have NE:∀{α:Type} {t:Sem α} {P:α->Shared->Prop} {E:Value->Shared->Prop} {s:Shared},E4 (Fa pgm X.C.w) X.A t P NoE s->E4 (Fa pgm X.C.w) X.A t P E s:=λh=>FE h (λ_ _ x=>x) λ_ _ x=>x.elim;by_cases hlt:i<vs.length
 ·refine NE (S.item i hlt _ st₂ s₂ it _ I₂ (cond i acc st₂ j₂) ori λh' x t or' ex rx=>?_);refine ht (i+1) _ it _ _ _ or' ?_;refine xa1 (I₂.move (t:=t) nit (nsi I₂) ex or') λI₃ kk=>?_;refine NE (ab (turn i hlt acc st₂ j₂ _ _ x I₃ (rx kk)) λ_ s₄ pp=>?_);obtain ⟨st₄,I₄,k₄,q₄⟩:=pp;refine NE (ab (vD q₄ I₄) λok s₅ pp=>?_);obtain ⟨st₅,I₅,k₅,q₅⟩:=pp;have kt:=k₂.trans (kk.trans (k₄.trans k₅))
  cases ok with
  |false=>
   rw[if_neg s!"d"] at q₅⊢;exact (dc (vs.length-(i+1)) (by exact mJ hn hlt) (i+1) ⟨acc,st₅,I₅,kt,q₅,by exact o80 hlt,rfl⟩)
  |true=>
   rw[if_pos rfl] at q₅⊢;refine NE (ab (q₅ _ s₅ I₅) λy s₆ pp=>?_);obtain ⟨m,st₆,r₆,I₆,k₆,q₆⟩:=pp;have I₆':=I₆;rw[d8 _ _ _ (E8 nDi)] at I₆'
   have ownD:Internal.tot st₆.σ (((ψ.put it (mo (i+1))).put D (.lst acc))) C st₆.ρ D=EU (.lst acc):=by
    unfold Internal.tot;rw[if_neg nD,nsD I₆];exact if_pos rfl
   refine ad ((I₆'.inv.rep _ _ ownD).2) λitems pl rr=>?_;refine wpAny_list_append_plain pl (λh₇ pl₇ sb₇=>?_) (by rw[rr.size];have:=jl _ _ _ q₆;simp at this;exact Fu (E1 (E3 this hlt) sz));have k₇:Keep s₆.heap h₇:=(I₆'.move (h':=h₇) (m':= .any λ_=>True) (t:=0) nD (nsD I₆) sb₇.extBut (by obtain ⟨n,pl₇⟩:=pl₇;exact (aR _ pl₇ rfl trivial))).2;refine xa1 (I₆'.move (h':=h₇) (m':= .lst (acc++[m])) (t:=s₆.toks) nD (nsD I₆) sb₇.extBut (af _ pl₇ ((rr.keep k₇).snoc (r₆.keep k₇)))) λI₇ _=>?_;rw[d8 _ _ _ nDi] at I₇;exact (dc (vs.length-(i+1)) (by exact mJ hn hlt) (i+1) ⟨acc++[m],st₆,I₇,kt.trans (k₆.trans k₇),q₆,by exact o80 hlt,rfl⟩)
 ·have hin:i=vs.length:=by exact wp hi hlt
  clear hi hn li own hlt;subst hin;refine NE (S.done _ st₂ s₂ it _ I₂ (cond _ acc st₂ j₂) ori λh' t ex=>?_);refine xa1 (I₂.forget (t:=t) nit (nsi I₂) (by unfold Sg.put;rw[if_neg nDi];exact ψi) ex) λI₃ kk=>?_;exact fin acc st₂ _ j₂ I₃ (k₂.trans kk)
noncomputable def c9(scope:Scope):Bool:=(scope.names.all λy=>!(y.2== .cell)&& !(y.1==("__debug__" :Str))&&(!(y.2== .local)||scope.names.lookup y.1==EU .local))&&scope.kind== .function
theorem jO{elt target iter:Fw}{ifs:List Fw}{scope:Scope}{pos pos':Pos}{cl:List (Str×Addr)}{gs:List (Str×Value)}{Ω:Type}{moW:Ω->Nat->MO}{vsW:Ω->List MV}{CondW:Ω->St->Prop}{use:Option (Value->Sem Unit)}{E:Value->Shared->Prop}
 (JW:Ω->Nat->List MV->St->Prop) (ρ₁:Lo) (PW:Ω->List MV->St->Prop)
 (SW:∀o C,Steps (Xi X scope cl C gs) (moW o) (vsW o) (CondW o))
 (selfW:∀(o:Ω) (C:Addr) (φ:Sg) (st:St) (s:Shared) (it:Addr) (Qx:Value->Shared->Prop),IF (Xi X scope cl C gs) φ st s->OR s.heap it (moW o 0)->Qx (.ref it) s->E4 X.M X.A (pyIter (.ref it)) Qx NoE s)
 (hs:∀x,F6 iter X.env x=pure x) (htW:∀o C,eV (Xi X scope cl C gs) target (moW o))
 (hclos:closureFor scope X.env=pure cl) (hsc:c9 scope=true) (szW:∀o,(vsW o).length≤sizeLine)
 {s:Shared} (I:IF X φ st s)
 (h:WE X iter st λm st₁=>∃o,st₁.ρ=ρ₁∧(∀φ s v,IF X φ st₁ s->VR s.heap m v->∀Qx:Value->Shared->Prop,
  (∀it h' t,(∀b o,s.heap.get? b=EU o->h'.get? b=EU o)->s.heap.objs.size≤it->OR h' it (moW o 0)->Qx (.ref it) {s with heap:=h',toks:=t})->E4 X.M X.A (pyIter v) Qx NoE s)∧
  JW o 0 [] ⟨st₁.σ,loC scope⟩∧∀acc st',JW o (vsW o).length acc st'->PW o acc st')
 (jlW:∀o i acc st,JW o i acc st->acc.length≤i)
 (condW:∀o i acc st,JW o i acc st->CondW o st)
 (turnW:∀o C i (hi:i<(vsW o).length) acc st,JW o i acc st->WA (Xi X scope cl C gs) target (vsW o)[i] st λst₂=>bP (Xi X scope cl C gs) ifs st₂ λok st₃=>
  if ok=true then WE (Xi X scope cl C gs) elt st₃ λm st₄=>JW o (i+1) (acc++[m]) st₄ else JW o (i+1) acc st₃)
 {QV:Value->Shared->Prop}
 (finW:∀o acc st' s' D C ρc,PW o acc st'->IF X ((φ.put D (.lst acc)).put C (.fr ρc)) ⟨st'.σ,ρ₁⟩ s'->Keep s.heap s'.heap->C≠X.env.locals->D≠X.env.locals->D≠C->φ C=none->φ D=none->st'.σ C=none->st'.σ D=none->
  compPost X.M X.A E use QV (.ref D) C (.ok .next) s'):
 E4 X.M X.A (comprehension (.ListComp elt [⟨target,iter,ifs,0⟩] scope pos) scope X.env pos' (newList []) false (eval iter X.env) use) QV E s:=by
 simp only[c9,Fd,Fn,Bool.or_eq_true,Gb,beq_iff_eq] at hsc;refine xa1 hsc λhsc hkind=>?_;have hcell:∀y∈scope.names,y.2≠ .cell:=λy hy e=>by have:=(hsc y hy).1.1;rw[e] at this;cases this
 have hdbg:∀y∈scope.names,(y.1==("__debug__" :Str))=false:=λy hy=>by simpa using (hsc y hy).1.2
 have hnames:∀y∈scope.names,y.2= .local->scope.names.lookup y.1=EU .local:=λy hy e=>by
  rcases (hsc y hy).2 with h|h
  ·rw[e] at h;cases h
  ·exact h
 have NE:∀{α:Type} {t:Sem α} {P:α->Shared->Prop} {E:Value->Shared->Prop} {s:Shared},E4 (Fa pgm X.C.w) X.A t P NoE s->E4 (Fa pgm X.C.w) X.A t P E s:=λh=>FE h (λ_ _ x=>x) λ_ _ x=>x.elim;refine wpAny_comprehension_free rfl hs hclos hkind hnames (NE (ab (h φ s I) λx s₁ pp=>?_));obtain ⟨m,st₁,r,I₁,k₁,o,eρ,hiter,j₁,hq⟩:=pp;have S:=SW o;have self:=selfW o;have ht:=htW o;have sz:=szW o;have jl:=jlW o;have cond:=condW o;have turn:=turnW o;have fin:=finW o;generalize moW o=mo at S self ht hiter;generalize vsW o=vs at S sz hq turn;generalize CondW o=Cond at S cond;generalize JW o=J at j₁ hq jl cond turn;generalize PW o=P at hq fin;refine NE (hiter φ s₁ x I₁ r _ λit h₁ t₁ keep₁ new₁ or₁=>?_);refine wpAny_newList ?_;refine wpAny_newFunctionEnv hcell (by intro y hy;simp at hy) (λh₂ hns₂ hsb₂=>?_) hkind;dsimp only at hns₂ hsb₂⊢;generalize hH2:h₁.push {cls:= .type "list",data:= .seq ([]:List Value).toArray}=H2 at hns₂ hsb₂⊢;generalize hC:H2.objs.size=C at hns₂ hsb₂⊢;generalize hD:h₁.objs.size=D;have sC:C=D+1:=by rw[←hC,←hH2,Heap.size_push,hD]
 have DC:D≠C:=by rw[sC];exact Fi (G9 _)
 have itD:it<D:=by
  refine ad or₁.notImm λo ho _=>?_;rw[←hD];exact Heap.lt_size ho
 have keep₂:∀b o,h₁.get? b=EU o->h₂.get? b=EU o:=λb o e=>by
  have lt:=Heap.lt_size e;refine hsb₂.extBut b o (λhb=>?_) (Heap.get?_push_of_some _ (hH2▸Heap.get?_push_of_some _ e));rw[hb,sC,←hD] at lt;exact absurd lt (Ga.mpr (Nat.le_succ _))
 have keepA:∀b o,s₁.heap.get? b=EU o->h₂.get? b=EU o:=λb o e=>keep₂ b o (keep₁ b o e)
 have fr:∀b,s₁.heap.objs.size≤b->Internal.tot st₁.σ φ X.env.locals st₁.ρ b=none:=λb hb=>by
  cases e:Internal.tot st₁.σ φ X.env.locals st₁.ρ b with
  |none=>rfl
  |some m=>exact absurd (E1 (I₁.inv.lt e) hb) (FC _)
 have itC:it≠C:=by rw[sC];exact Fi (GO itD)
 have itnD:it≠D:=Fi itD;have leD:s₁.heap.objs.size≤D:=EY new₁ (Fu itD);have leC:s₁.heap.objs.size≤C:=by rw[sC];exact GP leD
 refine xa2 (bB (fr C leC)) λc1 c2 c3=>?_;refine xa2 (bB (fr D leD)) λd1 d2 d3=>?_;refine xa2 (bB (fr it new₁)) λi1 i2 i3=>?_
 have frame:FrR h₂ C (loC scope):=⟨_,hns₂,λx v hx=>by
  refine xa1 (gN (f:=λ_=>(none:Option MV)) (l:=scope.names.filter λp=>p.2== .local) hx) λe _=>?_;cases e⟩
 have lloc:∀x v,lk (loC scope) x=EU v->(Gm scope cl C X.env).kindOf x=EU .local∧(x==("__debug__" :Str))=false:=λx v hx=>by
  refine gU (gN (f:=λ_=>(none:Option MV)) (l:=scope.names.filter λp=>p.2== .local) hx) λ_ k hmem=>?_;refine xa1 (GD.mp hmem) λh1 h2=>?_;have:k= .local:=by simpa using h2
  clear hmem h2;subst this;exact ⟨lookup_relabel_local (hnames _ h1 rfl),hdbg _ h1⟩
 have IA:IF X φ st₁ {s₁ with heap:=h₂,toks:=t₁+([]:List (Str×Value)).length}:=I₁.grow keepA _
 have IB:IF (Xi X scope cl C gs) (φ.put X.env.locals (.fr st₁.ρ)) ⟨st₁.σ,loC scope⟩ {s₁ with heap:=h₂,toks:=t₁+([]:List (Str×Value)).length}:=
  IA.enter (fr C leC) (EY I₁.inv.sz leC) frame lloc
 have ODh:OR h₂ D (.lst []):=(af (#[]) ⟨0,hsb₂.extBut D _ DC (Heap.get?_push_of_some _ (by rw[←hH2,←hD];exact Heap.get?_push_size _ rfl))⟩ (.nil _))
 have ICd:=IB.hide (a:=D) (m:= .lst []) d2 DC (EY I₁.inv.sz leD) ODh;refine ad or₁.notImm λoit hoit _=>?_;have IDd:=ICd.hide (a:=it) (m:=mo 0) i2 itC (EY I₁.inv.sz new₁) (or₁.keep ((keep₂ _ _ hoit).trans hoit.symm) (aB keep₂));have ψi:(φ.put X.env.locals (.fr st₁.ρ)) it=none:=by unfold Sg.put;rw[if_neg i1];exact i3
 have ψD:(φ.put X.env.locals (.fr st₁.ρ)) D=none:=by unfold Sg.put;rw[if_neg d1];exact d3
 have loop:=vA (X:=X) (elt:=elt) (target:=target) (iter:=iter) (ifs:=ifs) (pos:=pos) (R:=compPost X.M X.A E use QV (.ref D) C) J (S C) (ht C) sz itC DC itnD ψi ψD IDd j₁ jl cond (turn C) (λacc st' s' j I' k=>by
  have no:st'.σ X.env.locals=none:=by
   cases e:st'.σ X.env.locals with
   |none=>rfl
   |some m=>
    have z:=I'.dis _ m e;unfold Sg.put at z;rw[if_neg (E8 d1),if_pos rfl] at z;cases z
  have nD:st'.σ D=none:=by
   cases e:st'.σ D with
   |none=>rfl
   |some m=>have z:=I'.dis _ m e;unfold Sg.put at z;rw[if_pos rfl] at z;cases z
  refine fin acc st' s' D C st'.ρ (hq acc st' j) ?_ (k₁.trans ((aB keepA).trans k)) c1 d1 DC c3 d3 I'.no nD;have hl:=I₁.loc;rw[eρ] at hl I';refine I'.leave' (φ:=φ.put D (.lst acc)) (E8 c1) (by unfold Sg.put;rw[if_neg (E8 d1),if_pos rfl]) (by unfold Sg.put;rw[if_neg (E8 DC)];exact c3) (λa m hn e=>?_) hl;by_cases h1:a=D
  ·clear hD sC DC itD itnD leD d1 d2 d3 ODh ICd IDd ψD I' nD;subst h1;unfold Sg.put at e⊢;rw[if_pos rfl] at e⊢;exact e
  ·unfold Sg.put at e⊢;rw[if_neg h1] at e⊢;rw[if_neg hn];exact e)
 exact codeAny_compStart_list loop (NE (self C _ _ _ it _ IDd ((IDd.inv.rep it (mo 0) (by unfold Internal.tot;rw[if_neg (show it≠(Xi X scope cl C gs).env.locals from itC)];show (st₁.σ it).or _=_;rw[i2];exact if_pos rfl)).2) loop))
theorem kX{elt target iter:Fw}{ifs:List Fw}{scope:Scope}{pos pos':Pos}{cl:List (Str×Addr)}{gs:List (Str×Value)}{mo:Nat->MO}{vs:List MV}{Cond:St->Prop}{use:Option (Value->Sem Unit)}{E:Value->Shared->Prop}
 (J:Nat->List MV->St->Prop) (ρ₁:Lo) (P:List MV->St->Prop)
 (S:∀C,Steps (Xi X scope cl C gs) mo vs Cond)
 (self:∀(C:Addr) (φ:Sg) (st:St) (s:Shared) (it:Addr) (Qx:Value->Shared->Prop),IF (Xi X scope cl C gs) φ st s->OR s.heap it (mo 0)->Qx (.ref it) s->E4 X.M X.A (pyIter (.ref it)) Qx NoE s)
 (hs:∀x,F6 iter X.env x=pure x) (ht:∀C,eV (Xi X scope cl C gs) target mo)
 (hclos:closureFor scope X.env=pure cl) (hsc:c9 scope=true) (sz:vs.length≤sizeLine)
 {s:Shared} (I:IF X φ st s)
 (h:WE X iter st λm st₁=>st₁.ρ=ρ₁∧(∀φ s v,IF X φ st₁ s->VR s.heap m v->∀Qx:Value->Shared->Prop,
  (∀it h' t,(∀b o,s.heap.get? b=EU o->h'.get? b=EU o)->s.heap.objs.size≤it->OR h' it (mo 0)->Qx (.ref it) {s with heap:=h',toks:=t})->E4 X.M X.A (pyIter v) Qx NoE s)∧
  J 0 [] ⟨st₁.σ,loC scope⟩∧∀acc st',J vs.length acc st'->P acc st')
 (jl:∀i acc st,J i acc st->acc.length≤i)
 (cond:∀i acc st,J i acc st->Cond st)
 (turn:∀C i (hi:i<vs.length) acc st,J i acc st->WA (Xi X scope cl C gs) target vs[i] st λst₂=>bP (Xi X scope cl C gs) ifs st₂ λok st₃=>
  if ok=true then WE (Xi X scope cl C gs) elt st₃ λm st₄=>J (i+1) (acc++[m]) st₄ else J (i+1) acc st₃)
 {QV:Value->Shared->Prop}
 (fin:∀acc st' s' D C ρc,P acc st'->IF X ((φ.put D (.lst acc)).put C (.fr ρc)) ⟨st'.σ,ρ₁⟩ s'->Keep s.heap s'.heap->C≠X.env.locals->D≠X.env.locals->D≠C->φ C=none->φ D=none->st'.σ C=none->st'.σ D=none->
  compPost X.M X.A E use QV (.ref D) C (.ok .next) s'):
 E4 X.M X.A (comprehension (.ListComp elt [⟨target,iter,ifs,0⟩] scope pos) scope X.env pos' (newList []) false (eval iter X.env) use) QV E s:=
 jO (Ω:=Unit) (λ_=>J) ρ₁ (λ_=>P) (λ_=>S) (λ_=>self) hs (λ_=>ht) hclos hsc (λ_=>sz) I (λφ s I=>ab (h φ s I) λv s' p=>p.casesOn λm st r I k q=>⟨m,st,r,I,k,⟨(),q⟩⟩) (λ_=>jl) (λ_=>cond) (λ_=>turn) λ_=>fin
end
section
variable {X:Xc} {st:St} {φ:Sg}
noncomputable def qj(X:Xc)(m:MV)(st:St)(mo:Nat->MO):Prop:=∀φ s v,IF X φ st s->VR s.heap m v->∀Qx:Value->Shared->Prop,
 (∀it h' t,(∀b o,s.heap.get? b=EU o->h'.get? b=EU o)->s.heap.objs.size≤it->OR h' it (mo 0)->Qx (.ref it) {s with heap:=h',toks:=t})->E4 X.M X.A (pyIter v) Qx NoE s
noncomputable def i5(X:Xc)(mo:Nat->MO):Prop:=∀(φ:Sg) (st:St) (s:Shared) (it:Addr) (Qx:Value->Shared->Prop),IF X φ st s->OR s.heap it (mo 0)->Qx (.ref it) s->E4 X.M X.A (pyIter (.ref it)) Qx NoE s
theorem jD{Q:MV->St->Prop}{elt target iter:Fw}{ifs:List Fw}{scope:Scope}{pos:Pos}(cl:List (Str×Addr))(gs:List (Str×Value)){mo:Nat->MO}{vs:List MV}{Cond:St->Prop}
 (J:Nat->List MV->St->Prop)
 (S:∀C,Steps (Xi X scope cl C gs) mo vs Cond) (self:∀C,i5 (Xi X scope cl C gs) mo)
 (hs:∀x,F6 iter X.env x=pure x) (ht:∀C,eV (Xi X scope cl C gs) target mo)
 (hclos:closureFor scope X.env=pure cl) (hsc:c9 scope=true) (sz:vs.length≤sizeLine)
 (h:WE X iter st λm st₁=>st₁.ρ=st.ρ∧qj X m st₁ mo∧J 0 [] ⟨st₁.σ,loC scope⟩∧
  ∀acc st',J vs.length acc st'->∀D,st'.σ D=none->Q (.r D) ⟨st'.σ.put D (.lst acc),st.ρ⟩)
 (jl:∀i acc st,J i acc st->acc.length≤i) (cond:∀i acc st,J i acc st->Cond st)
 (turn:∀C i (hi:i<vs.length) acc st,J i acc st->WA (Xi X scope cl C gs) target vs[i] st λst₂=>bP (Xi X scope cl C gs) ifs st₂ λok st₃=>
  if ok=true then WE (Xi X scope cl C gs) elt st₃ λm st₄=>J (i+1) (acc++[m]) st₄ else J (i+1) acc st₃):
 WE X (.ListComp elt [⟨target,iter,ifs,0⟩] scope pos) st Q:=λφ s I=>by
 rw[eval_ListComp];refine kX (use:=none) J st.ρ _ S self hs ht hclos hsc sz I h jl cond turn λacc st' s' D C ρc hq I' k nC nD DC φC φD sC sD=>?_;refine ad ((I'.inv.rep C (.fr ρc) (by unfold tot Sg.put;rw[if_neg nC];show (st'.σ C).or _=_;rw[sC];exact if_pos rfl)).2) λm hn _=>?_;refine (af m hn (λh' sb=>?_));refine xa1 (I'.forget (t:=s'.toks) nC sC (by unfold Sg.put;rw[if_neg (E8 DC)];exact φC) sb.extBut) λI₂ k₂=>?_;exact .mk (bO ..) (I₂.show_ sD nD φD) (k.trans k₂) (hq D sD)
theorem k8{Q:Fl->St->Prop}{x:Str}{px:Pos}{elt target iter:Fw}{ifs:List Fw}{scope:Scope}{pos spos:Pos}(cl:List (Str×Addr))(gs:List (Str×Value)){mo:Nat->MO}{vs:List MV}{Cond:St->Prop}
 (J:Nat->List MV->St->Prop)
 (hsw:swapsWith (.ListComp elt [⟨target,iter,ifs,0⟩] scope pos) (EU (.Name x px)) spos.line X.env=pure true)
 (S:∀C,Steps (Xi X scope cl C gs) mo vs Cond) (self:∀C,i5 (Xi X scope cl C gs) mo)
 (hs:∀x,F6 iter X.env x=pure x) (ht:∀C,eV (Xi X scope cl C gs) target mo)
 (hclos:closureFor scope X.env=pure cl) (hsc:c9 scope=true) (sz:vs.length≤sizeLine)
 (h:WE X iter st λm st₁=>st₁.ρ=st.ρ∧qj X m st₁ mo∧J 0 [] ⟨st₁.σ,loC scope⟩∧
  ∀acc st',J vs.length acc st'->∀D,st'.σ D=none->WA X (.Name x px) (.r D) ⟨st'.σ.put D (.lst acc),st.ρ⟩ λst₂=>Q .next st₂)
 (jl:∀i acc st,J i acc st->acc.length≤i) (cond:∀i acc st,J i acc st->Cond st)
 (turn:∀C i (hi:i<vs.length) acc st,J i acc st->WA (Xi X scope cl C gs) target vs[i] st λst₂=>bP (Xi X scope cl C gs) ifs st₂ λok st₃=>
  if ok=true then WE (Xi X scope cl C gs) elt st₃ λm st₄=>J (i+1) (acc++[m]) st₄ else J (i+1) acc st₃):
 WS1 X (.Assign [.Name x px] (.ListComp elt [⟨target,iter,ifs,0⟩] scope pos) spos) st Q:=λφ s I=>by
 rw[exec_Assign_Name_used _ _ _ _ hsw];refine EX (GJ (EX ?_));show E4 X.M X.A (do let _←comprehension (.ListComp elt [⟨target,iter,ifs,0⟩] scope pos) scope X.env _ (newList []) false (eval iter X.env) (EU (assign (.Name x px) X.env))) _ _ s;refine EX (ab (kX (use:=EU (assign (.Name x px) X.env)) (QV:=λ_ s'=>PostU X φ s (λst₂=>Q .next st₂) s') J st.ρ _ S self hs ht hclos hsc sz I h jl cond turn λacc st' s' D C ρc hq I' k nC nD DC φC φD sC sD=>?_) λ_ s' ⟨st₂,I₂,k₂,q⟩=>E0 (E0 ⟨.next,st₂,rfl,I₂,k₂,q⟩));rw[d8 _ _ _ DC] at I';have I₂:=I'.show_ sD nD (by unfold Sg.put;rw[if_neg DC];exact φD);refine ab (hq D sD _ s' _ I₂ (bO ..)) λ_ s'' pp=>?_;obtain ⟨st₃,I₃,k₃,q₃⟩:=pp
 have sC3:st₃.σ C=none:=by
  cases e:st₃.σ C with
  |none=>rfl
  |some m=>have z:=I₃.dis _ m e;unfold Sg.put at z;rw[if_pos rfl] at z;cases z
 refine ad ((I₃.inv.rep C (.fr ρc) (by unfold tot Sg.put;rw[if_neg nC];show (st₃.σ C).or _=_;rw[sC3];exact if_pos rfl)).2) λm hn _=>?_;refine (af m hn (λh' sb=>?_));refine xa1 (I₃.forget (t:=s''.toks) nC sC3 φC sb.extBut) λI₄ k₄=>?_;exact ⟨st₃,I₄,k.trans (k₃.trans k₄),q₃⟩
theorem kY{C:Cx}(G:Gd C){X:Xc}(hC:X.C=C)(hh:X.A.handled=none)(hg:X.env.globals=3)(hb:X.env.builtins=0){scope:Scope}{cl:List (Str×Addr)}{F:Addr}{gs:List (Str×Value)}(hk:scope.kind= .function)
 (ok:g9 (relabel scope X.env) C.w.params gs=true):XOk (Xi X scope cl F gs):=by
 subst hC;refine ⟨hk,hh,λx v e=>?_⟩;have z:=Fn.mp ok (x,v) (gz e);simp only[Fd,Bool.or_eq_true,Gb,beq_iff_eq,Option.isNone_iff_eq_none] at z;refine xa1 z λz5 z3=>?_;clear z;refine xa1 z5 λz1 z2=>?_;clear z5;refine (ia2 z1 (by simpa using z2) (λs old E Q q=>?_))
 have n3:s.heap.Ns (Gm scope cl F X.env).globals (du (l3 X.C.w.params)):=by
  show s.heap.Ns X.env.globals _;rw[hg];exact (g7 G.says rfl (s3 _)).keeps old
 rcases z3 with z3|⟨z3,z4⟩
 ·exact loadGlobal_global n3 z3 q
 ·have n0:s.heap.Ns (Gm scope cl F X.env).builtins (du (l0 X.C.w.params)):=by
   show s.heap.Ns X.env.builtins _;rw[hb];exact (g7 G.says rfl (s0 _)).keeps old
  exact loadGlobal_builtin n3 z3 n0 z4 q
theorem fh(O:XOk X)(l:Addr):i5 X (λi=> .itl l i):=λφ st s it Qx I ori hq=>wpAny_pyIter_listiter ori hq
end
section
open Builtin.ObjectAttr
variable {X:Xc} {st:St} {φ:Sg} {Q:MV->St->Prop}
noncomputable def KD(P:F1)(dv:Addr->Value):Frag:=(K P).map λp=>(p.1,d6 p.1 (dv p.1) p.2)
theorem kN{f:Addr->Obj->Obj}:∀(l:List (Addr×Obj)) (a:Addr),(l.map λp=>(p.1,f p.1 p.2)).lookup a=(l.lookup a).map (f a)
 | [],a=>rfl
 |(b,o)::l,a=>by
  simp only[FW,List.lookup]
  cases h:a==b with
  |true=>rw[beq_iff_eq.mp h];rfl
  |false=>exact kN l a
theorem Says.kd{w:FL}{h:Heap}(S:Says w h):∃dv,(KD w.params dv).In h:=by
 have:∀a:Addr,∃v:Value,∀o,(K w.params).lookup a=EU o->h.get? a=EU (d6 a v o):=λa=>by
  cases e:(K w.params).lookup a with
  |none=>exact ⟨.none,λo h=>by cases h⟩
  |some o=>
   refine xe1 (S.k (a,o) (dM e)) λv hv=>?_;exact ⟨v,λo' h=>by cases h;exact hv⟩
 obtain ⟨dv,hdv⟩:=Classical.axiomOfChoice this;refine ⟨dv,λa o e=>?_⟩;unfold KD at e;rw[kN (f:=λa o=>d6 a (dv a) o)] at e;refine ad (Ge.mp e) λo' e1 e2=>?_;rw[hdv a o' e1,←e2]
structure Kn (X:Xc) where
 dv:Addr->Value
 k:(KD X.C.w.params dv).In X.C.h0
noncomputable def kn{X:Xc}(G:Gd X.C):Kn X:=⟨G.says.kd.choose,G.says.kd.choose_spec⟩
theorem IF.kin{s:Shared}(I:IF X φ st s)(N:Kn X):(KD X.C.w.params N.dv).In s.heap:=N.k.keeps I.inv.old
noncomputable def dk(K:Frag)(C:Addr):Bool:=findIn K (.ref C) "__getattribute__" ==EU (EU (.builtin "object.__getattribute__"))&&findIn K (.ref C) "__getattr__" ==EU none&&
 findIn K (.ref C) "__setattr__" ==EU (EU (.builtin "object.__setattr__"))&&plainOver K C&&(clsIn K C).any (·.hasDict)
theorem gg{K:Frag}{C:Addr}(h:dk K C=true):findIn K (.ref C) "__getattribute__" =EU (EU (.builtin "object.__getattribute__"))∧findIn K (.ref C) "__getattr__" =EU none∧
 findIn K (.ref C) "__setattr__" =EU (EU (.builtin "object.__setattr__"))∧plainOver K C=true∧(clsIn K C).any (·.hasDict)=true:=by
 simp only[dk,Fd,beq_iff_eq] at h;refine xa1 h λz1 e=>?_;refine xa1 z1 λz2 d=>?_;obtain ⟨⟨a,b⟩,c⟩:=z2;exact (ia4 a b c d e)
theorem NsR.find{h : Heap}{name : Str} : ∀ {m : List (Str × MV)} {es : List DictEntry}, NsR h m es ->
    match nk m name with
    | some v => ∃ e, es.find? (λe => e.key.isStr name) = EU e ∧ VR h v e.val
    | none => es.find? (λe => e.key.isStr name) = none
  | [], es, r => by cases (show es = [] from r); rfl
  | (k, v) :: m, es, r => by
    refine am r λe es' z1 z2 => ?_; clear r; subst z1; refine xa2 z2 λz3 e3 e4 => ?_; clear z2; obtain ⟨t, e2⟩ := z3
    have ih := NsR.find (name := name) e4
    have hk : e.key.isStr name = decide (name = k) := by
      rw [e2]; show (k == name) = _
      by_cases hx : name = k
      · clear e2; subst hx; simp
      · simp [hx, E8 hx]
    by_cases hx : name = k
    · have : nk ((k, v) :: m) name = EU v := by simp [nk, hx]
      rw [this]
      exact (af e (by rw [List.find?_cons, hk, decide_eq_true hx]) e3)
    · have : nk ((k, v) :: m) name = nk m name := by simp [nk, hx]
      rw [this]
      have q : (e :: es').find? (λe => e.key.isStr name) = es'.find? (λe => e.key.isStr name) := by rw [List.find?_cons, hk, decide_eq_false hx]
      rw [q]; exact ih
theorem NsR.noref{h:Heap}:∀{m:List (Str×MV)} {es:List DictEntry},NsR h m es->es.any (·.refKey)=false
 | [],es,r=>by cases (show es=[] from r);rfl
 |(k,v)::m,es,r=>by
  refine am r λe es' z1 z2=>?_;clear r;subst z1;refine xa2 z2 λz3 e3 e4=>?_;obtain ⟨t,e2⟩:=z3;rw[List.any_cons,NsR.noref e4,Bool.or_false];unfold DictEntry.refKey;rw[e2]
theorem jH{h:Heap}{x C dx:Addr}{ns:List (Str×MV)}(a:OR h x (.ins C dx))(b:OR h dx (.ns ns)):∃es n,InstAt h x {cls:= .ref C,dict:=EU dx,data:= .plain} C (EU {cls:= .type "dict",data:= .dict es n})∧
 NsR h ns es.toList∧h.get? dx=EU {cls:= .type "dict",data:= .dict es n}:=by
 refine am b λes n ho r=>?_;clear b;exact (cZ es n ⟨a.1,rfl,rfl,ho⟩ r ho)
noncomputable def MV.out:MV->Prop
 | .k v=>handedIn v=true
 |_=>True
theorem VR.out{h:Heap}{m:MV}{v:Value}(r:VR h m v)(o:m.out):handedIn v=true:=by
 cases m with
 |k u=>cases (show v=u from r);exact o
 |i n=>obtain ⟨t,rfl⟩:=r;rfl
 |s x=>obtain ⟨t,rfl⟩:=r;rfl
 |t c vs=>refine bz r λa o items n z1 _=>?_;clear r;subst z1;rfl
 |r a=>cases (show v= .ref a from r);rfl
 |bm f m=>refine go r λa o y z1 _=>?_;clear r;subst z1;rfl
theorem y9{o:Fw}{name:Str}{pos}(hb:F7 o name X.env (eval o X.env)=eval o X.env)
 (h:WE X o st λa st₁=>(∃x,a= .r x)∧W1 X (λv=>getAttr v name true) a st₁ Q):WE X (.Attribute o name pos) st Q:=λφ s I=>by
 rw[arm_eval_Attribute,hb];refine EX (ab (h φ s I) λv s₁ pp=>?_);obtain ⟨a,st₁,r,I₁,k,⟨x,hx⟩,q⟩:=pp;refine EX (GJ (EX (wpAny_holding (ab (q φ s₁ v I₁ r) λu s₂ p=>?_))));exact EX (wpAny_letTemporaryGo (E0 (p.trans k)))
theorem Cj(N:Kn X){x C dx:Addr}{ns:List (Str×MV)}{name:Str}{m:MV}(e1:st.σ x=EU (.ins C dx))(e2:st.σ dx=EU (.ns ns))(e3:nk ns name=EU m)(hm:m.out)(hC:dk (KD X.C.w.params N.dv) C=true)
 (hf:findIn (KD X.C.w.params N.dv) (.ref C) name=EU none) (hq:Q m st):W1 X (λv=>getAttr v name true) (.r x) st Q:=λφ s v I r=>by
 cases (show v= .ref x from r);refine bL (jH (I.own e1) (I.own e2)) λes n IA nr hd=>?_;have KI:=I.kin N;refine xa4 (gg hC) λc1 c2 c3 c4 c5=>?_;have z:=nr.find (name:=name);rw[e3] at z;refine ad z λe he rv=>?_;clear z;refine get_value (v:=e.val) KI IA c1 ?_ (rv.out hm) (.mk rv (I.toks _) (.refl _) hq);refine ad (any_some c5) λcd hcd hhd=>?_;unfold findObj;rw[hcd,hf];show (W.ownOf cd (EU _) name).bind _=_;unfold W.ownOf;rw[hhd];show (lookIn name {cls:= .type "dict",data:= .dict es n}).bind _=_;unfold lookIn;show (match es.toList.find? (λe:DictEntry=>e.key.isStr name) with|some e=>EU (EU e.val)|none=>_).bind _=_;rw[he];rfl
noncomputable def aN:List (Str×MV)->Str->MV->List (Str×MV)
 | [],k,m=>[(k,m)]
 |(n,v)::l,k,m=>if k=n then (n,m)::l else (n,v)::aN l k m
theorem lY:∀(l:List (Str×MV)) (x y:Str) (m:MV),nk (aN l x m) y=if y=x then EU m else nk l y
 | [],x,y,m=>by simp[aN,nk]
 |(n,v)::l,x,y,m=>by
  unfold aN;by_cases h:x=n
  ·subst h;rw[if_pos rfl];by_cases h2:y=x
   ·subst h2;simp[nk]
   ·simp[nk,h2]
  ·rw[if_neg h];by_cases h2:y=n
   ·subst h2;have:¬y=x:=λe=>h e.symm;simp[nk,this]
   ·simp only[nk,if_neg h2,lY l x y m]
theorem kF:∀(l:List (Str×MV)) (x:Str) (m:MV),(aN l x m).length≤l.length+1
 | [],x,m=>by simp[aN]
 |(n,v)::l,x,m=>by
  unfold aN;split
  ·simp
  ·have:=kF l x m;simp;exact this
theorem NsR.len{h:Heap}:∀{m:List (Str×MV)} {es:List DictEntry},NsR h m es->es.length=m.length
 | [],es,r=>by cases (show es=[] from r);rfl
 |(k,v)::m,es,r=>by
  refine am r λe es' z1 z2=>?_;clear r;subst z1;refine xa2 z2 λ_ _ e4=>?_;simp[NsR.len e4]
noncomputable def f9(name:Str)(hs:Int)(key v:Value):List DictEntry->List DictEntry
 | []=>[⟨hs,key,v⟩]
 |e::es=>if e.key.isStr name then {e with val:=v}::es else e::f9 name hs key v es
theorem tB(name:Str)(hs:Int)(key v:Value)(es:Array DictEntry)(n:Nat):∃n',Obj.putName name hs key v {cls:= .type "dict",data:= .dict es n}={cls:= .type "dict",data:= .dict (f9 name hs key v es.toList).toArray n'}:=by
 rw[Obj.putName_eq];unfold Obj.putNameByArray;dsimp only
 have key':∀l:List DictEntry,match l.findIdx? (λe=>e.key.isStr name) with
  |some i=>l.modify i (λe=>{e with val:=v})=f9 name hs key v l
  |none=>l++[⟨hs,key,v⟩]=f9 name hs key v l:=by
  intro l
  induction l with
  |nil=>simp[f9]
  |cons e l ih=>
   rw[List.findIdx?_cons]
   cases hk:e.key.isStr name with
   |true=>simp[f9,hk]
   |false=>
    simp only[f9,hk,Gg,if_false]
    cases hi:l.findIdx? (λe=>e.key.isStr name) with
    |none=>rw[hi] at ih;simpa using ih
    |some i=>rw[hi] at ih;simpa using ih
 obtain ⟨l⟩:=es;have z:=key' l;rw[show (Array.mk l).findIdx? (λe=>e.key.isStr name)=l.findIdx? (λe=>e.key.isStr name) from List.findIdx?_toArray ..]
 cases hi:l.findIdx? (λe=>e.key.isStr name) with
 |none=>
  rw[hi] at z;exact ⟨n+1,by show _=_;rw[←z];simp⟩
 |some i=>
  rw[hi] at z;refine ⟨n,?_⟩;show Obj.mk _ _ (.dict ((Array.mk l).modify i λe=>{e with val:=v}) n) _=_;rw[←z,←Array.toList_modify]
theorem NsR.put{h:Heap}{name:Str}{hs:Int}{t:Tok}{v:Value}{mv:MV}(r:VR h mv v):∀{m:List (Str×MV)} {es:List DictEntry},NsR h m es->NsR h (aN m name mv) (f9 name hs (.str name t) v es)
 | [],es,q=>by cases (show es=[] from q);exact (fA _ ([]) rfl ⟨t,rfl⟩ r rfl)
 |(k,w)::m,es,q=>by
  refine am q λe es' z1 z2=>?_;clear q;subst z1;refine xa2 z2 λz3 e3 e4=>?_;clear z2;obtain ⟨t',e2⟩:=z3
  have hk:e.key.isStr name=decide (name=k):=by
   rw[e2];show (k==name)=_;by_cases hx:name=k
   ·clear e2;subst hx;simp
   ·simp[hx,E8 hx]
  unfold aN f9;rw[hk];by_cases hx:name=k
  ·rw[if_pos hx,if_pos (decide_eq_true hx)];exact (fA _ _ rfl ⟨t',e2⟩ r e4)
  ·rw[if_neg hx,if_neg (by simp[hx])];exact (fA _ _ rfl ⟨t',e2⟩ e3 (NsR.put r e4))
theorem vy(N:Kn X){x C dx:Addr}{ns:List (Str×MV)}{name:Str}{m:MV}{QU:St->Prop}(e1:st.σ x=EU (.ins C dx))(e2:st.σ dx=EU (.ns ns))(hC:dk (KD X.C.w.params N.dv) C=true)
 (ht:takerIn (KD X.C.w.params N.dv) C name=EU none) (hz:ns.length<900) (hq:QU ⟨st.σ.put dx (.ns (aN ns name m)),st.ρ⟩) {φ:Sg} {s:Shared} {v:Value} (I:IF X φ st s) (r:VR s.heap m v):
 E4 X.M X.A (setAttr (.ref x) name v) (λ_=>PostU X φ s QU) NoE s:=by
 refine bL (jH (I.own e1) (I.own e2)) λes n IA nr D=>?_;have KI:=I.kin N;refine xa4 (gg hC) λc1 c2 c3 c4 c5=>?_;refine ad (any_some c5) λcd hc hd'=>?_;refine set_plain KI IA c3 ?_;have I':=I.toks (s.toks+1);refine osa_open (s:={s with toks:=s.toks+1}) KI IA c4 ht λb=>?_;have hx:=(I.own e1).1;refine xe1 (tB name (PyData.keyHash X.C.w.params name) (.str name (s.toks+1)) v es n) λn' hn'=>?_;have sb:Heap.SameBut dx s.heap (s.heap.update dx (Obj.putName name (PyData.keyHash X.C.w.params name) (.str name (s.toks+1)) v)):=Heap.SameBut.update ..
 have D':(s.heap.update dx (Obj.putName name (PyData.keyHash X.C.w.params name) (.str name (s.toks+1)) v)).get? dx=EU {cls:= .type "dict",data:= .dict (f9 name (PyData.keyHash X.C.w.params name) (.str name (s.toks+1)) v es.toList).toArray n'}:=by
  rw[Heap.get?_update_self _ D (by rw[hn'];rfl),hn']
 have k:=co I e2 sb;have NR:=(nr.keep k).put (name:=name) (hs:=PyData.keyHash X.C.w.params name) (t:=s.toks+1) (r.keep k)
 have lz:(f9 name (PyData.keyHash X.C.w.params name) (.str name (s.toks+1)) v es.toList).length≤1000:=by
  rw[NR.len];have:=kF ns name m;exact nLL (EY this hz) rfl
 refine EX (E0 (EX (EX (wpAny_loadPart hx (EX (Fv.here (s:={s with toks:=s.toks+1}) (looks_clsIn KI hc) ?_))))));rw[hd'];refine E0 (a:=EU dx) (EX (E0 (EX ?_)));unfold nsSet;refine EX (EX (wpAny_askSetting (E0 (EX (wpAny_mkText (EX (wpAny_loadPart D ?_)))))));dsimp only
 have c:(!es.any (·.key.isStr name)&&es.any (·.refKey))=false:=by
  rw[←Array.any_toList,←Array.any_toList,nr.noref,Bool.and_false]
 rw[aRefKeyMayBeTheName_at,c];refine wpAny_updatePart D ?_;refine EX (wpAny_lookBehind D' (pastItsLine_dict (by rw[List.size_toArray,sizeLine_eq];exact nLL lz rfl)) ?_);refine E0 ?_;exact ⟨_,I.upd (m':= .ns (aN ns name m)) (t:=s.toks+1+1) e2 sb (cy _ n' D' (by rw[G6];exact NR)),k,hq⟩
theorem yn(N:Kn X){o:Fw}{name:Str}{pos}{m:MV}{QU:St->Prop}(h:WE X o st λa st₁=>∃x C dx ns,a= .r x∧st₁.σ x=EU (.ins C dx)∧st₁.σ dx=EU (.ns ns)∧dk (KD X.C.w.params N.dv) C=true∧
 takerIn (KD X.C.w.params N.dv) C name=EU none∧ns.length<900∧QU ⟨st₁.σ.put dx (.ns (aN ns name m)),st₁.ρ⟩):WA X (.Attribute o name pos) m st QU:=λφ s v I r=>by
 rw[assign_Attribute];refine EX (wpAny_holding (ab (h φ s I) λov s₁ pp=>?_));obtain ⟨a,st₁,r₁,I₁,k,z⟩:=pp;refine bz z λx C dx ns e0 z=>?_;refine xa4 z λe1 e2 e3 e4 z=>?_;refine xa1 z λe5 q=>?_;refine EX (GJ (EX (wpAny_holding ?_)));subst e0;cases (show ov= .ref x from r₁);refine ab (vy N e1 e2 e3 e4 e5 q I₁ (r.keep k)) λ_ s₂ p=>?_;intro Γ p' _;rw[Sem.wp_release];exact p.trans k
end
section
open Builtin.ObjectAttr
noncomputable def wG(P:Value->Shared->Prop)(r:Result)(s':Shared):Prop:=match r with
 | .ok (.ret v)=>P v s'
 |_=>False
noncomputable def CtA(C:Cx)(A:Fb)(f:Value)(args:List MV)(kw:List (Str×MV))(σ:Sg)(Q:MV->Sg->Prop):Prop:=
 ∀φ s vs ks,Inv C (joi σ φ) s->Dis σ φ->VRs s.heap args vs->VRs s.heap (kw.map (·.2)) ks->codeAny (Fa pgm C.w) A (.call f ⟨vs,(kw.map (·.1)).zip ks⟩) (wG (tg C φ s Q)) s
theorem fC{M:Model}{A:Fb}{f:Value}{vs:List Value}{ks:List (Str×Value)}{s:Shared}{P:Value->Shared->Prop}(h:codeAny M A (.call f ⟨vs,ks⟩) (wG P) s):E4 M A (call f vs ks) P NoE s:=
 GC (Hm h λr s' z=>by
  rcases r with e|(v|_|_|_)<;>first|exact z|exact z.elim)
theorem CtA.ct{C:Cx}{A:Fb}{f:Value}{args:List MV}{σ:Sg}{Q:MV->Sg->Prop}(h:CtA C A f args [] σ Q):Ct C A f args σ Q:=λφ s vs I d r=>fC (h φ s vs [] I d r (.nil _))
theorem CtA.mono{C:Cx}{A:Fb}{f:Value}{args:List MV}{kw:List (Str×MV)}{σ:Sg}{Q Q':MV->Sg->Prop}(h:CtA C A f args kw σ Q)(k:∀m σ',Q m σ'->Q' m σ'):CtA C A f args kw σ Q':=λφ s vs ks I d r r'=>
 Hm (h φ s vs ks I d r r') λr s' z=>by
  rcases r with e|(v|_|_|_)<;>first|exact z.elim|skip
  refine fv z λm σ' a b c e q=>?_;exact (ij m σ' a b c e (k m σ' q))
noncomputable def d5(C:Cx)(fd:FuncData)(args:List MV)(kw:List (Str×MV))(ps:List (Str×MV)):Prop:=
 ∀(s:Shared) (vs ks:List Value),(∀b o,C.h0.get? b=EU o->s.heap.get? b=EU o)->VRs s.heap args vs->VRs s.heap (kw.map (·.2)) ks->∀(M:Model) (A:Fb) (E:Value->Shared->Prop) (Q:List (Str×Value)->Shared->Prop),
  (∀binds h' t,(∀b o,s.heap.get? b=EU o->h'.get? b=EU o)->(∀x∈binds,fd.scope.names.lookup x.1=EU .local)->(∀x m,ps.lookup x=EU m->∃v,binds.reverse.lookup x=EU v∧VR h' m v)->Q binds {s with heap:=h',toks:=t})->
  E4 M A (bindArgs fd ⟨vs,(kw.map (·.1)).zip ks⟩) Q E s
theorem BindOk.a{C:Cx}{fd:FuncData}{args:List MV}{ps:List (Str×MV)}(h:BindOk C fd args ps):d5 C fd args [] ps:=λs vs ks old r _ M A E Q hq=>by
 refine aV (h s vs old r) λbinds b1 b2 b3=>?_;show E4 M A (bindArgs fd ⟨vs,[]⟩) Q E s;exact b1 M A E Q (hq binds s.heap s.toks (λ_ _ e=>e) b2 b3)
theorem yS{C:Cx}{A:Fb}{a:Addr}{o:Obj}{fd:FuncData}{body:List Stmt}{args:List MV}{kw ps:List (Str×MV)}{σ:Sg}{Q:MV->Sg->Prop}
 (hroom:A.depth<recursionLimit) (ho:C.h0.get? a=EU o) (hdata:o.data= .func fd) (hlim:C.h0.NoLimit) (hcd:C.h0.CodeRec fd.code fd.qualname)
 (hbody:fd.body= .stmts body) (hcell:∀x∈fd.scope.names,x.2≠ .cell)
 (hdup:∀x k,(x,k)∈fd.scope.names->fd.scope.names.lookup x=EU k∧(x==("__debug__" :Str))=false)
 (hco:fd.scope.isCoroutine=false) (hgen:fd.scope.isGenerator=false) (hk:fd.scope.kind= .function)
 (hb:d5 C fd args kw ps)
 (gs:List (Str×Value)) (h:∀L,WS ⟨C,A.deeper (callEnv fd L a),callEnv fd L a,gs⟩ body ⟨σ,lo0 fd ps⟩ (RP Q)):CtA C A (.ref a) args kw σ Q:=λφ s vs ks I d r r'=>by
 refine codeAny_call_function hroom (I.old _ _ ho) hdata hco hgen hbody (hcd.keeps I.old) (hb s vs ks I.old r r' _ _ _ _ λbinds h₁ t₁ keep₁ hloc hbv=>?_);have I₁:Inv C (joi σ φ) {s with heap:=h₁,toks:=t₁}:=I.grow keep₁ _;refine wpAny_newFunctionEnv hcell hloc (λh₀ hns hsb=>?_) hk;have hkeep:∀b o,h₁.get? b=EU o->h₀.get? b=EU o:=λb o e=>hsb.extBut b o (Fi (Heap.lt_size e)) (Heap.get?_push_of_some _ e);refine ⟨(hlim.keeps I₁.old).fresh _ hsb,codeAny_func ?_⟩;have L0:=I₁.fresh
 have hL:σ h₁.objs.size=none∧φ h₁.objs.size=none:=by
  have z:(σ h₁.objs.size).or (φ h₁.objs.size)=none:=L0
  cases e:σ h₁.objs.size with
  |none=>rw[e] at z;exact ⟨rfl,z⟩
  |some m=>rw[e] at z;cases z
 have kk:Keep h₁ h₀:=aB hkeep;have I₀:Inv C (joi σ φ) {s with heap:=h₀,toks:=t₁+binds.length}:=I₁.grow hkeep _
 have fr:FrR h₀ h₁.objs.size (lo0 fd ps):=by
  refine (af _ hns (λx v hx=>?_));refine xa1 (gN (f:=λy=>ps.lookup y) (l:=fd.scope.names.filter λp=>p.2== .local) hx) λe _=>?_;refine ad (hbv x v e.symm) λu hu ru=>?_;exact (af u hu (ru.keep kk))
 have IFs:IF ⟨C,A.deeper (callEnv fd h₁.objs.size a),callEnv fd h₁.objs.size a,gs⟩ φ ⟨σ,lo0 fd ps⟩ {s with heap:=h₀,toks:=t₁+binds.length}:=by
  refine ⟨?_,hL.1,d,λx v hx=>?_⟩
  ·have z:=I₀.own (a:=h₁.objs.size) (m:= .fr (lo0 fd ps)) I₁.sz fr;have e:(joi σ φ).put h₁.objs.size (.fr (lo0 fd ps))=tot σ φ h₁.objs.size (lo0 fd ps):=rfl;rw[e] at z;exact z
  ·refine gU (gN (f:=λy=>ps.lookup y) (l:=fd.scope.names.filter λp=>p.2== .local) hx) λ_ k hmem=>?_;refine xa1 (GD.mp hmem) λh1 h2=>?_;refine xa1 (hdup x k h1) λh3 h4=>?_;have:k= .local:=by simpa using h2
   subst this;exact ⟨h3,h4⟩
 refine FE (h h₁.objs.size φ _ IFs) (λf s' pp=>?_) λ_ _ x=>x.elim;obtain ⟨fl,st',rf,I',k',q⟩:=pp;have k0:Keep s.heap h₁:=aB keep₁
 have fin:∀m v,VR s'.heap m v->Q m st'.σ->tg C φ s Q v s':=λm v rv hq=>
  ⟨m,st'.σ,rv,I'.inv.sub λb mm e=>by
   have e:(st'.σ b).or (φ b)=EU mm:=e;show (if b=h₁.objs.size then EU (MO.fr st'.ρ) else (st'.σ b).or (φ b))=EU mm
   have nn:b≠h₁.objs.size:=λhb=>by
    subst hb;have n1:st'.σ h₁.objs.size=none:=I'.no;rw[n1,hL.2] at e;cases e
   rw[if_neg nn];exact e,I'.dis,k0.trans (kk.trans k'),hq⟩
 cases fl with
 |next=>cases (show f= .next from rf);exact fin _ _ (aZ ..) q
 |brk=>cases (show f= .brk from rf);exact fin _ _ (aZ ..) q
 |cont=>cases (show f= .cont from rf);exact fin _ _ (aZ ..) q
 |ret m=>refine ad rf λv z1 rv=>?_;clear rf;subst z1;exact fin _ _ rv q
noncomputable def lo1(s:Stmt)(ps:List (Str×MV)):Lo:=((b9 s).names.filter λp=>p.2== .local).map λp=>(p.1,ps.lookup p.1)
theorem aW{C:Cx}(G:Gd C){A:Fb}{k:Nat}(R:Rm (k+1) A){a c:Addr}{x:Stmt}{n q:Str}{d pm:Value}{an:Option Addr}{t:Tok}{args:List MV}{kw ps:List (Str×MV)}{σ:Sg}{Q:MV->Sg->Prop}
 (e:(K C.w.params).lookup a=EU (mkF x n q d .none pm an (.ref c))) (ec:dw.lookup c=EU (.str q t))
 (hn:((b9 x).names.all λp=>!(p.2== .cell)&&(b9 x).names.lookup p.1==EU p.2&& !(p.1==("__debug__" :Str)))=true)
 (hs:(!(b9 x).isCoroutine&& !(b9 x).isGenerator&&(b9 x).kind== .function)=true)
 (gs:List (Str×Value)) (hg:g9 (b9 x) C.w.params gs=true)
 (hb:∀v,d5 C (dD x n q d v pm an (.ref c)) args kw ps)
 {ρ:Lo} (hL:lo1 x ps=ρ)
 (h:∀Q':MV->Sg->Prop,(∀m σ',Q m σ'->Q' m σ')->∀X:Xc,X.C=C->XOk X->Rm k X.A->GF X.env=false->X.gs=gs->(∃v L,X.env=callEnv (dD x n q d v pm an (.ref c)) L a)->WS X (cu x) ⟨σ,ρ⟩ (RP Q')):CtA C A (.ref a) args kw σ Q:=by
 obtain ⟨v,hv⟩:=G.says.fn e;simp only[Fd,Gb,beq_iff_eq] at hs;obtain ⟨⟨s1,s2⟩,s3⟩:=hs;have hn':=λp hp=>Fn.mp hn p hp;refine yS (fd:=dD x n q d v pm an (.ref c)) (ps:=ps) (by have:=R.d;exact E3 (EY (Ft _ _) (Ft _ 1)) this) hv rfl G.lim (G.says.code ec) rfl (λp hp hc=>?_) (λy k hy=>?_) s1 s2 s3 (hb v) gs λL=>?_
 ·have:=hn' p hp;simp[hc] at this
 ·have:=hn' (y,k) hy;simp only[Fd,Gb,beq_iff_eq] at this;exact ⟨this.1.2,by simpa using this.2⟩
 ·rw[show lo0 (dD x n q d v pm an (.ref c)) ps=ρ from hL];exact h Q (λ_ _ h=>h) _ rfl (xok G R.hh s3 rfl rfl hg) (R.deeper _) (by unfold GF;show ((b9 x).kind== .module&&_)=false;rw[s3];rfl) rfl (ie2 v L rfl)
variable {X:Xc} {st:St} {Q:MV->St->Prop}
noncomputable def WCk(X:Xc)(f:Value)(args:List MV)(kw:List (Str×MV))(st:St)(Q:MV->St->Prop):Prop:=
 ∀φ s vs ks,IF X φ st s->VRs s.heap args vs->VRs s.heap (kw.map (·.2)) ks->E4 X.M X.A (call f vs ((kw.map (·.1)).zip ks)) (Post X φ s Q) NoE s
theorem iU{f:Value}{args:List MV}{kw:List (Str×MV)}(h:CtA X.C X.A f args kw st.σ λm σ'=>Q m ⟨σ',st.ρ⟩):WCk X f args kw st Q:=λφ s vs ks I r r'=>by
 let φ':Sg:=λa=>if a=X.env.locals then EU (.fr st.ρ) else φ a
 have e1:joi st.σ φ'=tot st.σ φ X.env.locals st.ρ:=by
  funext a;show (st.σ a).or (if a=X.env.locals then EU (.fr st.ρ) else φ a)=if a=X.env.locals then EU (.fr st.ρ) else (st.σ a).or (φ a)
  by_cases h:a=X.env.locals
  ·rw[if_pos h,if_pos h,h,I.no];rfl
  ·rw[if_neg h,if_neg h]
 have d1:Dis st.σ φ':=λa m e=>by
  show (if a=X.env.locals then EU (MO.fr st.ρ) else φ a)=none;rw[if_neg (λh=>by rw[h,I.no] at e;cases e)];exact I.dis a m e
 refine ab (fC (h φ' s vs ks (by rw[e1];exact I.inv) d1 r r')) λv s' pp=>?_;refine fv pp λm σ' r' I' d' k q=>?_;clear pp
 have no:σ' X.env.locals=none:=by
  cases hh:σ' X.env.locals with
  |none=>rfl
  |some m=>
   have:=d' _ _ hh;have:(if X.env.locals=X.env.locals then EU (MO.fr st.ρ) else φ X.env.locals)=none:=this;rw[if_pos rfl] at this;cases this
 have e2:joi σ' φ'=tot σ' φ X.env.locals st.ρ:=by
  funext a;show (σ' a).or (if a=X.env.locals then EU (.fr st.ρ) else φ a)=if a=X.env.locals then EU (.fr st.ρ) else (σ' a).or (φ a)
  by_cases h:a=X.env.locals
  ·rw[if_pos h,if_pos h,h,no];rfl
  ·rw[if_neg h,if_neg h]
 refine ⟨m,⟨σ',st.ρ⟩,r',⟨by show Inv X.C (tot σ' φ X.env.locals st.ρ) s';rw[←e2];exact I',no,λa m e=>?_,I.loc⟩,k,q⟩;have:=d' a m e;have this:(if a=X.env.locals then EU (MO.fr st.ρ) else φ a)=none:=this;by_cases h:a=X.env.locals
 ·rw[if_pos h] at this;cases this
 ·rw[if_neg h] at this;exact this
inductive MethP (X:Xc) (N:Kn X) (name:Str) (es:List Fw) (st:St) (Q:MV->St->Prop):MV->Prop
 |mk (x C dx:Addr) (ns:List (Str×MV)) (f:Addr) (ob:Obj) (fd:FuncData) (e1:st.σ x=EU (.ins C dx)) (e2:st.σ dx=EU (.ns ns)) (e3:nk ns name=none) (e4:dk (KD X.C.w.params N.dv) C=true)
  (e5:findIn (KD X.C.w.params N.dv) (.ref C) name=EU (EU (.ref f))) (e6:typeIn (KD X.C.w.params N.dv) (.ref f)=EU (.type "function")) (e7:X.C.h0.get? f=EU ob) (e8:ob.data= .func fd)
  (q:WEs X es st λms st₂=>WC X (.ref f) (.r x::ms) st₂ Q):MethP X N name es st Q (.r x)
noncomputable abbrev lC(X:Xc)(N:Kn X)(a:MV)(name:Str)(es:List Fw)(st:St)(Q:MV->St->Prop):Prop:=MethP X N name es st Q a
theorem bK(N:Kn X){o:Fw}{name:Str}{apos pos:Pos}{es:List Fw}{pl:Sem Bool}
 (he:eval (.Call (.Attribute o name apos) es [] pos) X.env=(do
  let ov←eval o X.env
  standAt apos.atName
  let (f,first)←holding [ov] (getMethod ov name pl)
  callWith pos f first (backTo pos (Hl es X.env)) [])) (hs:Starless es)
 (h:WE X o st λa st₁=>lC X N a name es st₁ Q):WE X (.Call (.Attribute o name apos) es [] pos) st Q:=λφ s I=>by
 refine MethodCall_ ?_ he;refine ab (h φ s I) λv s₁ p=>?_;obtain ⟨_,st₁,r,I₁,k,x,C,dx,ns,f,ob,fd,e1,e2,e3,e4,e5,e6,e7,e8,q⟩:=p;cases (show v= .ref x from r);refine bL (jH (I₁.own e1) (I₁.own e2)) λes' n IA nr D=>?_;refine xa4 (gg e4) λc1 c2 c3 c4 c5=>?_;have z:=nr.find (name:=name);rw[e3] at z;refine method_fn (I₁.kin N) IA c1 c2 e5 e6 ?_ ?_
 ·show (lookIn name {cls:= .type "dict",data:= .dict es' n}).map _=_;unfold lookIn;show (match es'.toList.find? (λe:DictEntry=>e.key.isStr name) with|some e=>EU (EU e.val)|none=>if es'.toList.any (·.refKey) then none else EU none).map _=_;rw[z,nr.noref];rfl
 ·refine callWith_function (o:=ob) (fd:=fd) (bt hs (ab (cr hs q I₁) λvs s₂ p=>?_));obtain ⟨ms,st₂,r₂,I₂,k₂,q₂⟩:=p;exact ⟨⟨I₂.inv.old f ob e7,e8⟩,ab (q₂ φ s₂ (.ref x::vs) I₂ (.cons (bO ..) r₂)) λu s₃ p=>p.trans (k.trans k₂)⟩
end
theorem jQ{C:Cx}(G:Gd C){A:Fb}{k:Nat}(R:Rm (k+1) A){l:Addr}{xs:List P2}{pos:Nat}{σ:Sg}(hp:pos<xs.length)(hx:xs.length<1000)(e:σ l=EU (.lst (xs.map tp))):
 Ct C A (.ref 285) [.r l,.i 0,.i pos] σ λm σ'=>m= .k .none∧σ'=σ.put l (.lst ((sd (xs[pos]) pos pos xs).map tp)):=by
 refine CtA.ct (aW G R (a:=285) (c:=284) (x:=top 10) (n:="_siftdown") (q:="_siftdown") (d:= .none) (pm:= .str "cpy313.heapq" 667) (an:=none) (t:=689) (ps:=(["heap","startpos","pos"]:List Str).zip [.r l,.i 0,.i pos]) s!"k" s!"k" s!"k" s!"k" [] s!"k"
  (λv=>(aX rfl s!"k" s!"1" (bk λa=>bk λb=>bk λc=>cK s!"k")).a) (ρ:=mkL [("heap",EU (.r l)),("startpos",EU (.i 0)),("pos",EU (.i pos)),("newitem",none),("parentpos",none),("parent",none)]) s!"k" λQf hQf X hC O R' hi hg _=>?_)
 exact q6 X O (E3 (Ft _ (16*k+16)) (Nat.add_assoc .. ▸R'.u)) l xs pos σ hp hx e λ_=>hQf _ _ ⟨rfl,rfl⟩
theorem qZ{C:Cx}(G:Gd C){A:Fb}{k:Nat}(R:Rm (k+2) A){l:Addr}{xs:List P2}{p:P2}{σ:Sg}(hx:xs.length<900)(e:σ l=EU (.lst (xs.map tp))):
 Ct C A (.ref 271) [.r l,tp p] σ λm σ'=>m= .k .none∧σ'=σ.put l (.lst ((sd p xs.length xs.length (xs++[p])).map tp)):=by
 refine CtA.ct (aW G R (a:=271) (c:=270) (x:=top 8) (n:="heappush") (q:="heappush") (d:= .none) (pm:= .str "cpy313.heapq" 667) (an:=none) (t:=670)
  (ps:=(["heap","item"]:List Str).zip [.r l,tp p]) s!"k" s!"k" s!"k" s!"k" [("len",.builtin "len"),("_siftdown",.ref 285)] s!"k"
  (λv=>(aX rfl s!"k" s!"1" (bk λa=>bk λb=>cK s!"k")).a) (ρ:=mkL [("heap",EU (.r l)),("item",EU (tp p))]) s!"k" λQf hQf X hC O R' hi hg _=>?_)
 refine xe1 (G.says.fn (a:=285) (st:=top 10) (n:="_siftdown") (q:="_siftdown") (d:= .none) (pm:= .str "cpy313.heapq" 667) (an:=none) (cd:= .ref 284) s!"k") λv hv=>?_;subst hC;have gl:X.gs.lookup (EW "len")=EU (.builtin "len"):=hg▸s!"k";have gd:X.gs.lookup (EW "_siftdown")=EU (.ref 285):=hg▸s!"k";have z:(xs++[p]).length=xs.length+1:=E7;have em:((xs++[p]).map tp)=xs.map tp++[tp p]:=Ff;conv=>arg 2;whnf
 refine aa (aA hi s!"2" (aI ⟨trivial,?_⟩));refine aa (aA hi s!"2" (bp (T:="list") (id:="list.append") trivial s!"2" s!"d" s!"2" Fz Gx Gy
  (av O rfl ⟨bJ e,av O rfl (fN e (by rw[EZ,sizeLine_eq];exact aTL (m:=16777216) hx s!"d") ⟨trivial,?_⟩)⟩)))
 rw[←em];refine aa (aA hi s!"2" (bA O gd hv rfl trivial (av O rfl (aq (ar (aT O gl trivial (av O rfl (dy (Sg.put_same ..) ?_ (aq (fa ?_))))))))))
 ·rw[EZ,z];exact iTT (Nat.add_lt_add_right hx 1) s!"d"
 rw[show ((((xs++[p]).map tp).length:Int)-1)=(xs.length:Int) by rw[EZ,z];exact Int.add_sub_cancel (xs.length:Int) 1];refine wcE (jQ (l:=l) (xs:=xs++[p]) (pos:=xs.length) G R' (z▸G9 _) (z▸Di hx s!"d") (Sg.put_same ..)) ⟨trivial,ak (hQf _ _ ⟨rfl,?_⟩)⟩;show (σ.put l _).put l _=_;rw[cE,List.getElem_concat_length rfl]
section
noncomputable def suL:Nat->Nat->List P2->Nat×List P2
 |0,pos,ys=>(pos,ys)
 |f+1,pos,ys=>if 2*pos+1<ys.length then
  let c:=if 2*pos+1+1<ys.length∧¬lt2 ((ys[2*pos+1]?).getD (0,0)) ((ys[2*pos+1+1]?).getD (0,0)) then 2*pos+1+1 else 2*pos+1
  suL f c (ys.set pos ((ys[c]?).getD (0,0)))
  else (pos,ys)
noncomputable def su(new:P2)(xs:List P2):List P2:=sd new (suL xs.length 0 xs).1 (suL xs.length 0 xs).1 ((suL xs.length 0 xs).2.set (suL xs.length 0 xs).1 new)
theorem Rm.lt{n:Nat}{A:Fb}(R:Rm n A):A.units<cLine:=E3 (Ft _ (16*n+16)) (Nat.add_assoc .. ▸R.u)
theorem cq{value slice:Fw}(h1:∀o i,subscripted slice false o i=operate [o,i] (getItem o i))(h2:∀o r,letTemporaryGo value o r=pure ()):gX value slice:=⟨h1,h2⟩
theorem kf{X:Xc}{x:Stmt}{st:St}{Q Q':Fl->St->Prop}(h:WS1 X x st Q')(k:∀fl st',Q' fl st'->Q fl st'):WS1 X x st Q:=λφ s I=>
 ab (h φ s I) λf s' ⟨fl,st',a,b,c,d⟩=>⟨fl,st',a,b,c,k _ _ d⟩
noncomputable def chi(p:Nat)(ys:List P2):Nat:=if 2*p+1+1<ys.length∧¬lt2 ((ys[2*p+1]?).getD (0,0)) ((ys[2*p+1+1]?).getD (0,0)) then 2*p+1+1 else 2*p+1
theorem dE{p:Nat}{ys:List P2}(hc:2*p+1<ys.length):chi p ys<ys.length∧p<chi p ys:=by
 unfold chi;by_cases h:2*p+1+1<ys.length∧¬lt2 ((ys[2*p+1]?).getD (0,0)) ((ys[2*p+1+1]?).getD (0,0))
 ·rw[if_pos h];exact ⟨h.1,by exact GO (Nat.lt_succ_of_le (Nat.le_mul_of_pos_left _ s!"d"))⟩
 ·rw[if_neg h];exact ⟨hc,by exact o43⟩
theorem sr{p c m:Nat}(h:p<c)(hc:c<m):m-c<m-p:=by exact Nat.sub_lt_sub_left (Fs h hc) h
theorem Cz{g p:Nat}{ys:List P2}(hc:2*p+1<ys.length):suL (g+1) p ys=suL g (chi p ys) (ys.set p (ys[chi p ys]'(dE hc).1)):=by
 have e:suL (g+1) p ys=suL g (chi p ys) (ys.set p ((ys[chi p ys]?).getD (0,0))):=by simp only[suL,if_pos hc];rfl
 rw[e,E2 (dE hc).1];rfl
structure UJ (l:Addr) (xs:List P2) (σ:Sg) (p:Nat) (ys:List P2) (f:Nat) (σ':Sg):Prop where
 e:σ' l=EU (.lst (ys.map tp))
 o:∀b,b≠l->σ' b=σ b
 p':p<ys.length
 l':ys.length=xs.length
 f':ys.length-p≤f
 t:suL f p ys=suL xs.length 0 xs
variable {l:Addr} {xs ys:List P2} {p f:Nat} {σ σ':Sg}
theorem UJ.z(h:UJ l xs σ p ys f σ')(hx:xs.length<900){c:Nat}(hc:c<ys.length):(c:Int)<2^63:=iTT (Fs (h.l'▸hc) hx) s!"d"
theorem UJ.step(h:UJ l xs σ p ys (f+1) σ')(hc:2*p+1<ys.length):
 UJ l xs σ (chi p ys) (ys.set p (ys[chi p ys]'(dE hc).1)) f (σ'.put l (.lst ((ys.map tp).set ((p:Int).toNat) (tp (ys[chi p ys]'(dE hc).1))))):=by
 refine ⟨(if_pos rfl).trans (congrArg (λz=>EU (MO.lst z)) List.map_set.symm),λb hb=>(if_neg hb).trans (h.o b hb),?_,FD.trans h.l',?_,?_⟩
 ·rw[FD];exact (dE hc).1
 ·rw[FD];exact FG (E1 (sr (dE hc).2 (dE hc).1) h.f')
 ·rw[←h.t,Cz hc]
theorem vp(X:Xc)(G:Gd X.C)(O:XOk X){k:Nat}(R:Rm (k+1) X.A)(hi:GF X.env=false)(l:Addr)(xs:List P2)(σ:Sg)(hp:0<xs.length)(hx:xs.length<900)(e:σ l=EU (.lst (xs.map tp)))
 (gl:X.gs.lookup (EW "len")=EU (.builtin "len")) (gd:X.gs.lookup (EW "_siftdown")=EU (.ref 285)) {Q:Fl->St->Prop} (hq:∀ρ,Q .next ⟨σ.put l (.lst ((su xs[0] xs).map tp)),ρ⟩):
 WS X (cu (top 11)) ⟨σ,mkL [("heap",EU (.r l)),("pos",EU (.i 0)),("endpos",none),("startpos",none),("newitem",none),("childpos",none),("rightpos",none)]⟩ Q:=by
 have hu:X.A.units<cLine:=R.lt;refine xe1 (G.says.fn (a:=285) (st:=top 10) (n:="_siftdown") (q:="_siftdown") (d:= .none) (pm:= .str "cpy313.heapq" 667) (an:=none) (cd:= .ref 284) s!"k") λv hv=>?_;have PS:∀{a b:Str} {p q:Pos},gX (.Name a p) (.Name b q):=cq (λ_ _=>s!"r") (λ_ _=>s!"r");conv=>arg 2;whnf
 refine aa (ah s!"2" s!"2" trivial (aT O gl trivial (av O rfl (dy e (by rw[EZ];exact iTT hx s!"d") (cO O rfl ?_)))));rw[EZ];refine aa (ah s!"2" s!"2" trivial (av O rfl (cO O rfl (aa (ah s!"2" s!"2" trivial (aP (av O rfl (av O rfl (aY PS e s!"d" s!"d" (mH hp) (cO O rfl ?_))))))))));refine aa (ah s!"2" s!"2" trivial (ar (ar (aq (av O rfl (oE (IntMulOk.of_left s!"d") (aq (c0 (cO O rfl ?_)))))))));refine aa (dg (λn=>At (λa:List P2×Nat×Nat×Option MV=>[("heap",EU (.r l)),("pos",EU (.i a.2.1)),("endpos",EU (.i xs.length)),("startpos",EU (.i 0)),("newitem",EU (tp xs[0])),("childpos",EU (.i ((2*a.2.1+1:Nat):Int))),("rightpos",a.2.2.2)])
  λa σ'=>UJ l xs σ a.2.1 a.1 a.2.2.1 σ'∧n=a.1.length-a.2.1) ?_ xs.length (.mk (xs,0,xs.length,none) ⟨⟨e,λb _=>rfl,hp,rfl,Fe _,rfl⟩,rfl⟩))
 rintro J hJ n _ ⟨⟨ys,p,f,u⟩,h,hn⟩;rename_i σ';dsimp only at h hn⊢;subst hn;obtain ⟨g,rfl⟩:∃g,f=g+1:=⟨f-1,(Nat.succ_pred_eq_of_pos (E1 (Nat.sub_pos_of_lt h.p') h.f')).symm⟩
 refine aC s!"r" (av O rfl (av O rfl (gV (ay ?_))));have hl:=h.l';by_cases hc:2*p+1<ys.length
 ·refine ifT (decide_eq_true (FP.mpr (hl▸hc))) (aa (ah s!"2" s!"2" trivial (ar (av O rfl (aq (c0 (cO O rfl (aa (kf (Q':=λfl st'=>fl= .next∧
   At (λv:Option MV=>[("heap",EU (.r l)),("pos",EU (.i p)),("endpos",EU (.i xs.length)),("startpos",EU (.i 0)),("newitem",EU (tp xs[0])),("childpos",EU (.i (chi p ys:Int))),("rightpos",v)]) (λ_ σ1=>σ1=σ') st') ?_ ?_)))))))))
  ·refine bl (bW (aC s!"r" (av O rfl (av O rfl (gV (ay ?_))))));rw[show (((2*p+1:Nat):Int)+1)=((2*p+1+1:Nat):Int) from rfl];by_cases hr:2*p+1+1<ys.length
   ·refine ifT (decide_eq_true (FP.mpr (hl▸hr))) (bW (gH (aC s!"r" (aP (av O rfl (av O rfl (aY PS h.e (Fg _) (h.z hx hc) (mH hc)
     (aP (av O rfl (av O rfl (aY PS h.e (Fg _) (h.z hx hr) (mH hr) (xw hu (ay ?_)))))))))))))
    by_cases hlt:lt2 (ys[2*p+1]) (ys[2*p+1+1])
    ·have hcv:chi p ys=2*p+1:=if_neg (by rw[E2 hc,E2 hr];exact λq=>q.2 hlt);rw[hcv,show decide (ys[2*p+1].1<ys[2*p+1+1].1∨(ys[2*p+1].1=ys[2*p+1+1].1∧ys[2*p+1].2<ys[2*p+1+1].2))=true from decide_eq_true hlt];exact ak ⟨rfl,.mk _ rfl⟩
    ·have hcv:chi p ys=2*p+1+1:=if_pos ⟨hr,by rw[E2 hc,E2 hr];exact hlt⟩;rw[hcv,show decide (ys[2*p+1].1<ys[2*p+1+1].1∨(ys[2*p+1].1=ys[2*p+1+1].1∧ys[2*p+1].2<ys[2*p+1+1].2))=false from decide_eq_false hlt];exact g8 (aa (ah s!"2" s!"2" trivial (av O rfl (cO O rfl (ak ⟨rfl,.mk _ rfl⟩)))))
   ·have hcv:chi p ys=2*p+1:=if_neg (λh=>hr h.1);rw[hcv];exact ifF (λq=>hr (hl.symm▸FP.mp (of_decide_eq_true q))) (ak ⟨rfl,.mk _ rfl⟩)
  ·intro _ _ zr1;refine b7 zr1 λz2=>?_;clear zr1;obtain ⟨v',rfl⟩:=z2;refine aa (ah s!"2" s!"2" trivial (aP (av O rfl (av O rfl (aY PS h.e (Fg _) (h.z hx (dE hc).1) (mH (dE hc).1) (eL (λ_ _ _=>rfl) (av O rfl (av O rfl (gL h.e (Fg _) (h.z hx h.p') (mlt h.p') ?_)))))))));refine aa (ah s!"2" s!"2" trivial (av O rfl (cO O rfl (aa (ah s!"2" s!"2" trivial (ar (ar (aq (av O rfl (oE (IntMulOk.of_left s!"d") (aq (c0 (cO O rfl ?_)))))))))))));exact ak (af (ys.length-chi p ys) (sr (dE hc).2 (dE hc).1) (hJ _ _ (.mk (_,chi p ys,g,_) (And.intro (h.step hc) (congrArg (·-chi p ys) FD.symm)))))
 ·have tt:suL xs.length 0 xs=(p,ys):=by rw[←h.t];simp only[suL,if_neg hc]
  have hs:(ys.set p xs[0]).length=ys.length:=FD;refine ifF (λq=>hc (hl.symm▸FP.mp (of_decide_eq_true q))) (ak (aa (ah s!"2" s!"2" trivial (av O rfl (eL (λ_ _ _=>rfl) (av O rfl (av O rfl (gL h.e (Fg _) (h.z hx h.p') (mlt h.p') ?_))))))));rw[FV,←List.map_set];refine aa (aA hi s!"2" (bA O gd hv rfl trivial (av O rfl (av O rfl (av O rfl ?_)))));refine wcE (jQ (l:=l) (xs:=ys.set p xs[0]) (pos:=p) G R (hs▸h.p') (hs▸h.l'▸aTT hx s!"d") (Sg.put_same ..)) ⟨trivial,ak ?_⟩;rw[cE,List.getElem_set_self];have es:σ'.put l (.lst ((sd xs[0] p p (ys.set p xs[0])).map tp))=σ.put l (.lst ((su xs[0] xs).map tp)):=?_
  ·exact es▸hq _
  unfold su;rw[tt];funext b;show (if b=l then _ else σ' b)=if b=l then _ else σ b
  by_cases hb:b=l
  ·rw[if_pos hb,if_pos hb]
  ·rw[if_neg hb,if_neg hb];exact h.o b hb
end
theorem t6{C:Cx}(G:Gd C){A:Fb}{k:Nat}(R:Rm (k+2) A){l:Addr}{xs:List P2}{σ:Sg}(hp:0<xs.length)(hx:xs.length<900)(e:σ l=EU (.lst (xs.map tp))):
 Ct C A (.ref 292) [.r l,.i 0] σ λm σ'=>m= .k .none∧σ'=σ.put l (.lst ((su xs[0] xs).map tp)):=by
 refine CtA.ct (aW G R (a:=292) (c:=291) (x:=top 11) (n:="_siftup") (q:="_siftup") (d:= .none) (pm:= .str "cpy313.heapq" 667) (an:=none) (t:=701)
  (ps:=(["heap","pos"]:List Str).zip [.r l,.i 0]) s!"k" s!"k" s!"k" s!"k" [("len",.builtin "len"),("_siftdown",.ref 285)] s!"k"
  (λv=>(aX rfl s!"k" s!"1" (bk λa=>bk λb=>cK s!"k")).a) (ρ:=mkL [("heap",EU (.r l)),("pos",EU (.i 0)),("endpos",none),("startpos",none),("newitem",none),("childpos",none),("rightpos",none)]) s!"k" λQf hQf X hC O R' hi hg _=>?_)
 subst hC;exact vp X G O R' hi l xs σ hp hx e (hg▸s!"k") (hg▸s!"k") λ_=>hQf _ _ ⟨rfl,rfl⟩
noncomputable def dz(ys:List P2)(x:P2):P2×List P2:=match ys with
 | []=>(x,[])
 |y::_=>(y,su x (ys.set 0 x))
theorem tL{C:Cx}(G:Gd C){A:Fb}{k:Nat}(R:Rm (k+3) A){l:Addr}{ys:List P2}{x:P2}{σ:Sg}(hx:ys.length<900)(e:σ l=EU (.lst ((ys++[x]).map tp))):
 Ct C A (.ref 278) [.r l] σ λm σ'=>m=tp (dz ys x).1∧σ'=σ.put l (.lst ((dz ys x).2.map tp)):=by
 refine CtA.ct (aW G R (a:=278) (c:=277) (x:=top 9) (n:="heappop") (q:="heappop") (d:= .none) (pm:= .str "cpy313.heapq" 667) (an:=none) (t:=679)
  (ps:=(["heap"]:List Str).zip [.r l]) s!"k" s!"k" s!"k" s!"k" [("_siftup",.ref 292)] s!"k"
  (λv=>(aX rfl s!"k" s!"1" (bk λa=>cK s!"k")).a) (ρ:=mkL [("heap",EU (.r l)),("lastelt",none),("returnitem",none)]) s!"k" λQf hQf X hC O R' hi hg _=>?_)
 refine xe1 (G.says.fn (a:=292) (st:=top 11) (n:="_siftup") (q:="_siftup") (d:= .none) (pm:= .str "cpy313.heapq" 667) (an:=none) (cd:= .ref 291) s!"k") λv hv=>?_;subst hC;have gd:X.gs.lookup (EW "_siftup")=EU (.ref 292):=hg▸s!"k";have e1:σ l=EU (.lst (ys.map tp++[tp x])):=e.trans (congrArg (λz=>EU (MO.lst z)) Ff);have hm:(ys.map tp).length<900:=(EZ tp).symm▸hx;conv=>arg 2;whnf
 refine aa (aA hi s!"2" (aI ⟨trivial,aa (ah s!"2" s!"2" trivial (bp (T:="list") (id:="list.pop") trivial s!"2" s!"d" s!"2" Fz PySem.F.slot_list_pop PySem.F.type_list_pop
  (av O rfl ⟨bJ e1,xI e1 (by rw[sizeLine_eq];exact EN (m:=16777216) (c:=1) hm (.refl true)) (cO O rfl ?_)⟩)))⟩))
 have e2:(σ.put l (.lst (ys.map tp))) l=EU (.lst (ys.map tp)):=Sg.put_same ..;refine aa (bl (bZ s!"2" (av O rfl (uK e2 (iTT hm s!"d") ?_))))
 cases ys with
 |nil=>exact ifF s!"d" (ak (aa (bd (av O rfl (hQf _ _ ⟨rfl,rfl⟩)))))
 |cons y ys=>
  refine ifT rfl (aa (ah s!"2" s!"2" trivial (aP (av O rfl (aq (aY (cq (λ_ _=>s!"r") (λ_ _=>s!"r")) e2 s!"d" s!"d" (m:=tp y) rfl (cO O rfl ?_)))))));refine aa (ah s!"2" s!"2" trivial (av O rfl (eL (λ_ _ _=>rfl) (av O rfl (aq (gL e2 s!"d" s!"d" (FP.mpr (Nat.zero_lt_succ _)) ?_))))));refine aa (aA hi s!"2" (bA O gd hv rfl trivial (av O rfl (aq (wcE (t6 (l:=l) (xs:=(y::ys).set 0 x) G R' (Nat.zero_lt_succ _) (FD.symm▸hx) (Sg.put_same ..)) ?_)))));refine ⟨trivial,aa (bd (av O rfl (hQf _ _ ⟨rfl,?_⟩)))⟩;show ((σ.put l _).put l _).put l _=_;rw[cE,cE];rfl
section
open Builtin.ObjectAttr
theorem Rm.under{n:Nat}{A:Fb}(R:Rm (n+1) A)(C:Addr)(rest:List Value)(kw:List (Str×Value)):Rm n (A.under (.builtin "type.__call__" ⟨.ref C::rest,kw⟩)):=by
 refine ⟨R.hh,?_,?_⟩
 ·have:=R.d;show A.depth+1+4*n+1<_;exact Aj this
 ·have:=R.u;show A.units+1+16*n+16<_;exact zQ this
theorem Rm.in1{n:Nat}{A:Fb}(R:Rm (n+1) A):Rm n A.in1:=by
 refine ⟨R.hh,?_,?_⟩
 ·have:=R.d;show A.depth+4*n+1<_;exact Ab this
 ·have:=R.u;show A.units+1+16*n+16<_;exact zQ this
theorem Rm.le{n m:Nat}{A:Fb}(R:Rm n A)(h:m≤n):Rm m A:=by
 refine ⟨R.hh,?_,?_⟩
 ·have:=R.d;exact E3 (FH (Fj (FM 4 h) _)) this
 ·have:=R.u;exact E3 (Hj (Fj (FM 16 h) _) 16) this
variable {X:Xc} {st:St} {Q:MV->St->Prop}
noncomputable def WKs(X:Xc):List Keyword->St->(List (Str×MV)->St->Prop)->Prop
 | [],st,Q=>Q [] st
 |⟨EU n,e,_⟩::ks,st,Q=>WE X e st λm st₁=>WKs X ks st₁ λr st₂=>Q ((n,m)::r) st₂
 |⟨none,_,_⟩::_,_,_=>False
noncomputable def kO:List Keyword->Prop
 | []=>True
 |⟨EU _,_,_⟩::ks=>kO ks
 |⟨none,_,_⟩::_=>False
theorem iW{pos:Pos}{env:Env}:∀{ks:List Keyword},kO ks->(backToKw pos (G5 ks env)).all (·.1.isSome)=true∧(backToKw pos (G5 ks env)).any (·.1.isNone)=false
 | [],_=>⟨rfl,rfl⟩
 |⟨EU n,e,p⟩::ks,h=>by
  refine xa1 (iW (pos:=pos) (env:=env) (ks:=ks) h) λa b=>?_;unfold backToKw at a b⊢;simp only[kE1,FW,List.all_cons,List.any_cons,a,b,Option.isSome_some,Option.isNone_some,Bool.and_true,Bool.or_false,and_self]
theorem qO{pos:Pos}{φ:Sg}{Q:List (Str×MV)->St->Prop}:∀{ks:List Keyword} {st:St} {s:Shared},kO ks->WKs X ks st Q->IF X φ st s->
 E4 X.M X.A (evalAll ((backToKw pos (G5 ks X.env)).map (·.2))) (λvs s'=>∃r st',VRs s'.heap (r.map (·.2)) vs∧(backToKw pos (G5 ks X.env)).filterMap (·.1)=r.map (·.1)∧IF X φ st' s'∧Keep s.heap s'.heap∧Q r st') NoE s
 | [],st,s,_,h,I=>wpAny_evalAll_nil (ij ([]) st (.nil _) rfl I (.refl _) h)
 |⟨EU n,e,p⟩::ks,st,s,hn,h,I=>by
  refine wpAny_evalAll_cons (EX (ab (h φ s I) λv s₁ pp=>?_));obtain ⟨m,st₁,r₁,I₁,k₁,h₁⟩:=pp;refine EX (GJ (E0 ?_));refine ab (qO (pos:=pos) (ks:=ks) hn h₁ I₁) λvs s₂ pp=>?_;refine fv pp λr st₂ r₂ e₂ I₂ k₂ q=>?_;refine (ij ((n,m)::r) st₂ (.cons (r₁.keep k₂) r₂) ?_ I₂ (k₁.trans k₂) q);unfold backToKw at e₂⊢;simp only[kE1,FW,List.filterMap_cons,e₂]
 |⟨none,_,_⟩::_,_,_,hn,_,_=>hn.elim
theorem pI{φ:Sg}{s:Shared}{f:Value}{pos:Pos}{es:List Fw}{kws:List Keyword}(hs:Starless es)(hn:kO kws){R:Args->Shared->Prop}{Q:List MV->List (Str×MV)->St->Prop}
 (h:WEs X es st λms st₁=>WKs X kws st₁ λr st₂=>Q ms r st₂) (I:IF X φ st s)
 (hR:∀ms r st' s' vs ks,VRs s'.heap ms vs->VRs s'.heap (r.map (·.2)) ks->IF X φ st' s'->Keep s.heap s'.heap->Q ms r st'->R ⟨vs,(r.map (·.1)).zip ks⟩ s'):
 E4 X.M X.A (evalArgs f true (backTo pos (Hl es X.env)) (backToKw pos (G5 kws X.env))) R NoE s:=by
 refine xa1 (iW (pos:=pos) (env:=X.env) hn) λha _=>?_
 have core:E4 X.M X.A (spliced (backTo pos (Hl es X.env))) (λvs s₁=>E4 X.M X.A (evalAll ((backToKw pos (G5 kws X.env)).map (·.2))) (λks s₂=>R ⟨vs,((backToKw pos (G5 kws X.env)).filterMap (·.1)).zip ks⟩ s₂) NoE s₁) NoE s:=by
  refine ab (cr hs h I) λvs s₁ pp=>?_;obtain ⟨ms,st₁,r₁,I₁,k₁,h₁⟩:=pp;refine ab (qO (pos:=pos) hn h₁ I₁) λks s₂ pp=>?_;refine fv pp λr st₂ r₂ e₂ I₂ k₂ q=>?_;clear pp;rw[e₂];exact hR ms r st₂ s₂ vs ks (r₁.keep k₂) r₂ I₂ (k₁.trans k₂) q
 cases es with
 |nil=>
  have core':E4 X.M X.A (evalAll ((backToKw pos (G5 kws X.env)).map (·.2))) (λks s₂=>R ⟨[],((backToKw pos (G5 kws X.env)).filterMap (·.1)).zip ks⟩ s₂) NoE s:=by
   refine ab (qO (pos:=pos) hn h I) λks s₂ pp=>?_;refine fv pp λr st₂ r₂ e₂ I₂ k₂ q=>?_;rw[e₂];exact hR [] r st₂ s₂ [] ks (.nil _) r₂ I₂ k₂ q
  exact evalArgs_kw_nil ha core'
 |cons e es=>
  have es_eq:=bf X.env hs;rw[es_eq] at core⊢;exact evalArgs_kw ha core
theorem mn{M:Model}{A:Fb}{s:Shared}{Q:Value->Shared->Prop}{pos:Pos}{C:Addr}{oc:Value}{od:Option Addr}{cd:ClassData}{sl}{args:List (Bool×Sem Value)}{keywords:List (Option Str×Sem Value)}
 (ha:args.any (·.1)=false) (hk:keywords.any (·.1.isNone)=false)
 (h:E4 M A (evalArgs (.ref C) true args keywords) (λx s₁=>(s₁.heap.get? C=EU ⟨oc,od,.cls cd,sl⟩∧Fv M s₁.heap (Hf (.ref C) "__call__") (EU (.builtin "type.__call__")))∧E4 M A (call (.ref C) x.pos x.kw) Q NoE s₁) NoE s):
 E4 M A (callWith pos (.ref C) [] args keywords) Q NoE s:=by
 unfold callWith;refine EX (wpAny_holding (ab h λx s₁ pp=>?_));obtain ⟨⟨ho,hl⟩,hc⟩:=pp;refine EX (GJ ?_);rw[ha,hk];refine EX (m:=keeperOf (.ref C)) ?_;unfold keeperOf;refine EX (GQ ho ?_);refine EX (hl.here ?_);refine E0 ?_;refine EX (ab hc λr s₂ q=>?_);exact EX (wpAny_holding (wpAny_point (E0 q)))
noncomputable def eQ(K:Frag)(C:Addr):Bool:=(match K.lookup C with|some ⟨_,_,.cls _,_⟩=>true|_=>false)&&specialIn K (.ref C) "__call__" ==EU (EU (.builtin "type.__call__"))
theorem fW(O:XOk X)(N:Kn X){x:Str}{p pos:Pos}{es:List Fw}{kws:List Keyword}{C:Addr}(hf:X.gs.lookup x=EU (.ref C))(hs:Starless es)(hn:kO kws)(hc:eQ (KD X.C.w.params N.dv) C=true)
 (h:WEs X es st λms st₁=>WKs X kws st₁ λr st₂=>WCk X (.ref C) ms r st₂ Q):WE X (.Call (.Name x p) es kws pos) st Q:=λφ s I=>by
 refine wpAny_Call_Name_kw ?_;refine ab (de O hf (Q:=λm st'=>m= .k (.ref C)∧st'=st) ⟨rfl,rfl⟩ φ s I) λv s₁ pp=>?_;obtain ⟨m,st₁,r,I₁,k,e1,e2⟩:=pp;clear I;subst e1 e2;cases (show v= .ref C from r);simp only[eQ,Fd,beq_iff_eq] at hc;refine xa1 hc λc1 c2=>?_;clear hc;split at c1
 ·rename_i oc od cd sl ho;refine mn (oc:=oc) (od:=od) (cd:=cd) (sl:=sl) (bM hs) (iW hn).2 (pI hs hn h I₁ λms r st' s' vs ks r1 r2 I' k' q=>⟨⟨(I'.kin N) _ _ ho,looks_specialIn (I'.kin N) c2⟩,?_⟩);exact ab (q φ s' vs ks I' r1 r2) λu s₃ z=>z.trans (k.trans k')
 ·cases c1
theorem j9{C:Cx}{dv:Addr->Value}(hK:(KD C.w.params dv).In C.h0){A:Fb}{k:Nat}(R:Rm (k+1) A){cls init:Addr}{args:List MV}{kw:List (Str×MV)}{σ:Sg}{Q:MV->Sg->Prop}(h153:cls≠153)
 (hm:makesIn (KD C.w.params dv) cls=true) (hi:findIn (KD C.w.params dv) (.ref cls) "__init__" =EU (EU (.ref init))) (hf:typeIn (KD C.w.params dv) (.ref init)=EU (.type "function"))
 (h:∀A',Rm k A'->∀x dx,σ x=none->σ dx=none->x≠dx->CtA C A' (.ref init) (.r x::args) kw ((σ.put dx (.ns [])).put x (.ins cls dx)) λm σ'=>m= .k .none∧Q (.r x) σ'):CtA C A (.ref cls) args kw σ Q:=λφ s vs ks I d r r'=>by
 have KI:(KD C.w.params dv).In s.heap:=hK.keeps I.old;obtain ⟨hh,g,dd,t,os⟩:=s
 have fresh:∀b,hh.objs.size≤b->joi σ φ b=none:=λb hb=>by
  cases e:joi σ φ b with
  |none=>rfl
  |some m=>exact absurd (E1 (I.lt e) hb) (FC _)
 have fr2:∀b,hh.objs.size≤b->σ b=none∧φ b=none:=λb hb=>by
  have z:(σ b).or (φ b)=none:=fresh b hb
  cases e:σ b with
  |none=>rw[e] at z;exact ⟨rfl,z⟩
  |some m=>rw[e] at z;cases z
 refine xa1 (fr2 hh.objs.size (Fe _)) λd1 d2=>?_;refine xa1 (fr2 (hh.objs.size+1) (Nat.le_succ _)) λx1 x2=>?_;have xd:hh.objs.size+1≠hh.objs.size:=Nat.succ_ne_self _;refine make_core (makes_of KI hm) (looks_findIn KI hi) (λself=>bind_fn KI self hf) (.inl rfl) ?_;have H:=h _ (R.under cls vs ((kw.map (·.1)).zip ks)) (hh.objs.size+1) hh.objs.size x1 d1 xd;have I1:Inv C (joi σ φ) ⟨(hh.push emptyDict).push (instObj cls hh.objs.size),g,dd,t,os⟩:=(I.push emptyDict).push _;have od:OR ((hh.push emptyDict).push (instObj cls hh.objs.size)) hh.objs.size (.ns []):=(cy (#[]) 0 (Heap.get?_push_of_some _ (Heap.get?_push_size _ rfl)) rfl)
 have ox:OR ((hh.push emptyDict).push (instObj cls hh.objs.size)) (hh.objs.size+1) (.ins cls hh.objs.size):=⟨by
  have:=Heap.get?_push_size (hh.push emptyDict) (o:=instObj cls hh.objs.size) rfl;rwa [Heap.size_push] at this,h153⟩
 have I2:=(I1.own (a:=hh.objs.size) (m:= .ns []) I.sz od).own (a:=hh.objs.size+1) (m:= .ins cls hh.objs.size) (GP I.sz) ox
 have e:((joi σ φ).put hh.objs.size (.ns [])).put (hh.objs.size+1) (.ins cls hh.objs.size)=joi ((σ.put hh.objs.size (.ns [])).put (hh.objs.size+1) (.ins cls hh.objs.size)) φ:=by
  funext b;unfold joi Sg.put;by_cases h1:b=hh.objs.size+1
  ·simp[h1]
  ·by_cases h2:b=hh.objs.size
   ·clear h1;subst h2;simp
   ·simp[h1,h2]
 rw[e] at I2;have k0:Keep hh ((hh.push emptyDict).push (instObj cls hh.objs.size)):=λb o e _=>Heap.get?_push_of_some _ (Heap.get?_push_of_some _ e)
 have D:Dis ((σ.put hh.objs.size (.ns [])).put (hh.objs.size+1) (.ins cls hh.objs.size)) φ:=λa m ha=>by
  unfold Sg.put at ha;by_cases h1:a=hh.objs.size+1
  ·rw[h1];exact x2
  ·rw[if_neg h1] at ha;by_cases h2:a=hh.objs.size
   ·rw[h2];exact d2
   ·rw[if_neg h2] at ha;exact d a m ha
 have Z:=H φ _ (.ref (hh.objs.size+1)::vs) ks I2 D (.cons (bO ..) (r.keep k0)) (r'.keep k0);refine Hm Z λres s' z=>?_;rcases res with e|(v|_|_|_)<;>first|exact z.elim|skip
 refine ik z λm σ' r0 I' d' k' z1 q=>?_;clear z;subst z1;exact ⟨r0,_,σ',bO ..,I',d',k0.trans k',q⟩
end
section
variable {X:Xc} {st:St} {φ:Sg} {Q:MV->St->Prop}
theorem qR{t₁ t₂ value:Fw}{pos}{Q:Fl->St->Prop}(hw:Ht [t₁,t₂] value X.env=pure none)(ht:Starless [t₁,t₂])
 (h:WE X value st λm st₁=>WA X t₁ m st₁ λst₂=>WA X t₂ m st₂ λst₃=>Q .next st₃):WS1 X (.Assign [t₁,t₂] value pos) st Q:=λφ s I=>by
 refine wpAny_Assign_two (ab (h φ s I) λv s₁ pp=>?_) (by rw[cf X.env ht];rfl) hw;obtain ⟨m,st₁,r,I₁,k,h₁⟩:=pp;refine ab (h₁ φ s₁ v I₁ r) λ_ s₂ pp=>?_;obtain ⟨st₂,I₂,k₂,h₂⟩:=pp;exact ab (h₂ φ s₂ v I₂ (r.keep k₂)) λ_ s₃ ⟨st₃,I₃,k₃,q⟩=>⟨.next,st₃,rfl,I₃,k.trans (k₂.trans k₃),q⟩
noncomputable def WNs(X:Xc):List Str->List MV->St->(St->Prop)->Prop
 | [],[],st,Q=>Q st
 |x::xs,m::ms,st,Q=>(∃u,lk st.ρ x=EU u)∧WNs X xs ms ⟨st.σ,stL st.ρ x m⟩ Q
 |_,_,_,_=>False
theorem um(O:XOk X){Q:St->Prop}:∀{xs:List Str} {ms:List MV} {st:St} {s:Shared} {vs:List Value},WNs X xs ms st Q->IF X φ st s->VRs s.heap ms vs->
 E4 X.M X.A (assignInOrder (xs.map λn=>bindName X.env n) vs) (λ_=>PostU X φ s Q) NoE s
 | [],[],st,s,vs,h,I,r=>by
  unfold VRs at r;subst r;exact assignInOrder_nil ⟨st,I,.refl _,h⟩
 |x::xs,m::ms,st,s,vs,h,I,r=>by
  unfold VRs at r;refine am r λy ys z1 z2=>?_;clear r;subst z1;obtain ⟨e2,e3⟩:=z2;refine xa1 h λz1 h=>?_;obtain ⟨u,hu⟩:=z1;refine assignInOrder_cons (bindName_ (ab (gB (Q:=λst'=>st'=⟨st.σ,stL st.ρ x m⟩) O hu rfl I e2) λ_ s₁ pp=>?_));obtain ⟨st₁,I₁,k₁,h₁⟩:=pp;subst h₁;exact ab (um O h I₁ (e3.keep k₁)) λ_ s₂ p=>p.trans k₁
 | [],_::_,_,_,_,h,_,_=>h.elim
 |_::_,[],_,_,_,h,_,_=>h.elim
theorem VRs.rev{h:Heap}:∀{ms:List MV} {xs:List Value},VRs h ms xs->VRs h ms.reverse xs.reverse
 | [],xs,r=>by unfold VRs at r;subst r;exact .nil _
 |m::ms,xs,r=>by
  unfold VRs at r;refine am r λy ys z1 z2=>?_;clear r;subst z1;obtain ⟨e2,e3⟩:=z2;rw[List.reverse_cons,List.reverse_cons];exact e3.rev.append (.cons e2 (.nil _))
theorem iA(O:XOk X){elts k tpos value pos}{names:List Str}{Q:Fl->St->Prop}(hs:swapsWithSole [.Tuple elts k tpos] value pos.line X.env=pure false)(hw:Ht [.Tuple elts k tpos] value X.env=pure (EU names))
 (h:WE X value st λm st₁=>∃ms,m= .t (.type "tuple") ms∧names.length=ms.length∧WNs X names.reverse ms.reverse st₁ λst₂=>Q .next st₂):WS1 X (.Assign [.Tuple elts k tpos] value pos) st Q:=λφ s I=>by
 refine Assign_Tuple_swapped (ab (h φ s I) λv s₁ pp=>?_) hs hw;obtain ⟨m,st₁,r,I₁,k,ms,e,hl,h₁⟩:=pp;subst e;refine bz r λa o items n z1 z2=>?_;clear r;subst z1;refine xa4 z2 λe2 e3 e4 e5 e6=>?_;clear z2;have len:=e6.length;rw[show names.length=items.size by rw[hl,←len];simp];refine unpackItems_tuple O.hh (cj o e2 e4 n e5) λh' he=>?_;have k':=mf he;exact ab (um O h₁ (I₁.grow k' s₁.toks) (e6.rev.keep (aB k'))) λ_ s₂ ⟨st₂,I₂,k₂,q⟩=>⟨.next,st₂,rfl,I₂,k.trans ((aB k').trans k₂),q⟩
theorem fU(O:XOk X){x:Str}{pos' op value pos}{a:MV}{Q:Fl->St->Prop}(hl:lk st.ρ x=EU (EU a))
 (h:WE X value st λb st₁=>W2 X (inplaceOp op) a b st₁ λm st₂=>∃u,lk st₂.ρ x=EU u∧Q .next ⟨st₂.σ,stL st₂.ρ x m⟩):WS1 X (.AugAssign (.Name x pos') op value pos) st Q:=λφ s I=>by
 refine wpAny_AugAssign_Name ?_;refine ad I.frame λmm hn hv=>?_;refine ad (hv x a hl) λy hy r=>?_;refine wpAny_loadName_local O.fn (I.loc x _ hl).1 hn hy ?_;refine ab (h φ s I) λv s₁ pp=>?_;obtain ⟨b,st₁,r₁,I₁,k₁,h₁⟩:=pp;refine ab (h₁ φ s₁ y v I₁ (r.keep k₁) r₁) λw s₂ pp=>?_;obtain ⟨m,st₂,r₂,I₂,k₂,u,hu,q⟩:=pp;exact ab (gB (Q:=λst'=>Q .next st') O hu q I₂ r₂) λ_ s₃ ⟨st₃,I₃,k₃,q₃⟩=>⟨.next,st₃,rfl,I₃,k₁.trans (k₂.trans k₃),q₃⟩
theorem Post.imp{φ:Sg}{s s':Shared}{v:Value}{Q Q':MV->St->Prop}(p:Post X φ s Q v s')(h:∀m st,Q m st->Q' m st):Post X φ s Q' v s':=by
 obtain ⟨m,st,r,I,k,q⟩:=p;exact ⟨m,st,r,I,k,h _ _ q⟩
inductive AugI (ns:List String) (k:Nat) (Q:Fl->St->Prop) (m:MV):St->Prop
 |mk {vs:List (Option MV)} {σ:Sg} (u:Option MV) (g:gI vs k=EU u) (q:Q .next ⟨σ,zL ns (sI vs k (EU m))⟩):AugI ns k Q m ⟨σ,zL ns vs⟩
theorem vx(O:XOk X){ns:List String}{vs:List (Option MV)}{k:Nat}{x:String}{σ:Sg}(hd:ns.Nodup)(hn:gI ns k=EU x){pos' op value pos}{a:MV}{Q:Fl->St->Prop}(hv:gI vs k=EU (EU a))
 (h:WE X value ⟨σ,zL ns vs⟩ λb st₁=>W2 X (inplaceOp op) a b st₁ (AugI ns k Q)):WS1 X (.AugAssign (.Name (EW x) pos') op value pos) ⟨σ,zL ns vs⟩ Q:=
 fU O (lkI hd hn hv) λφ s I=>ab (h φ s I) λv s₁ p=>p.imp λb st₁ h φ s v w I r r'=>ab (h φ s v w I r r') λu s₂ p=>p.imp λm st₂ z=>by
  obtain ⟨u,g,q⟩:=z;exact (af u (lkI hd hn g) (stI hd hn▸q))
theorem xx{x y:Int}(h:Q (.i (x+y)) st):W2 X (inplaceOp .Add) (.i x) (.i y) st Q:=dW λφ s t u I=>PyProof.Rows.iadd_int (.mk (cH ..) (I.toks _) (.refl _) h)
theorem gP{x y:Str}(hl:x.length+y.length≤sizeLine)(h:Q (.s (x++y)) st):W2 X (inplaceOp .Add) (.s x) (.s y) st Q:=jv λφ s t u I=>SB.iadd (λt' k=> .mk (fq ..) (I.toks _) (.refl _) h) hl
noncomputable def WP(X:Xc):Option Fw->St->(Option Int->St->Prop)->Prop
 |none,st,Q=>Q none st
 |some e,st,Q=>WE X e st λm st₁=>∃n,m= .i n∧Q (EU n) st₁
theorem jt{p:Option Fw}{Q:Option Int->St->Prop}{s:Shared}(h:WP X p st Q)(I:IF X φ st s):
 E4 X.M X.A (evalPart p X.env) (λv s'=>∃l st',v=partValue l∧IF X φ st' s'∧Keep s.heap s'.heap∧Q (l.map (·.1)) st') NoE s:=by
 cases p with
 |none=>rw[evalPart_none];exact E0 (fA none st rfl I (.refl _) h)
 |some e=>
  rw[evalPart_some];refine ab (h φ s I) λv s₁ pp=>?_;obtain ⟨m,st₁,r,I₁,k,n,e,q⟩:=pp;subst e;refine xe1 r λt z1=>?_;clear r;subst z1;exact (fA (EU (n,t)) st₁ rfl I₁ k q)
theorem jC(l:Option (Int×Tok)):IsPart (partValue l) (l.map (·.1)):=by
 cases l with
 |none=>exact .none
 |some p=>exact .int ..
noncomputable def cut(x:Str)(l u:Option Int):Str:=Txt.slice x l u
theorem mi{x:Str}{t:Tok}{l u:Option (Int×Tok)}{Qx:Value->Shared->Prop}{s:Shared}(hl:x.length≤sizeLine)(h:∀t' k,Qx (.str (cut x (l.map (·.1)) (u.map (·.1))) t') {s with toks:=k}):(sliceMade x t l u none).post Qx s:=by
 unfold sliceMade cut Txt.slice at*;unfold slicePicked;dsimp only[Option.map_none,Option.getD_none] at*;split
 ·rename_i hc;have z:=h t s.toks;rw[if_pos hc] at z;exact z
 ·rename_i hc;have z:=h s.toks (s.toks+1);rw[if_neg hc] at z;refine ⟨?_,z⟩;have a:∀(l:List Nat),(l.filterMap (x.cps[·]?)).length≤l.length:=λl=>List.length_filterMap_le ..;have b:=sliceIndices_le (l.map (·.1)) (u.map (·.1)) x.length;have c:=a (Builtin.Str.strSliceIndices (l.map (·.1)) (u.map (·.1)) 1 x.length);show (List.filterMap _ _).length≤_;exact EY c (EY b hl)
noncomputable def eD(l:List MV)(lo hi:Option Int):List MV:=(l.drop (lo.elim 0 (clipAt l.length))).take (hi.elim l.length (clipAt l.length)-lo.elim 0 (clipAt l.length))
theorem VRs.drop{h:Heap}:∀{ms:List MV} {xs:List Value},VRs h ms xs->∀k,VRs h (ms.drop k) (xs.drop k)
 |_,_,r,0=>by simpa using r
 | [],xs,r,k+1=>by unfold VRs at r;subst r;exact .nil _
 |m::ms,xs,r,k+1=>by
  unfold VRs at r;refine am r λy ys z1 z2=>?_;clear r;subst z1;refine xa1 z2 λe2 e3=>?_;exact e3.drop k
theorem VRs.take{h:Heap}:∀{ms:List MV} {xs:List Value},VRs h ms xs->∀k,VRs h (ms.take k) (xs.take k)
 |_,_,r,0=>by simp;exact .nil _
 | [],xs,r,k+1=>by unfold VRs at r;subst r;exact .nil _
 |m::ms,xs,r,k+1=>by
  unfold VRs at r;refine am r λy ys z1 z2=>?_;clear r;subst z1;refine xa1 z2 λe2 e3=>?_;exact .cons e2 (e3.take k)
theorem lM{value:Fw}{lower upper:Option Fw}{p pos:Pos}(ht:∀o r,letTemporaryGo value o r=pure ())
 (h:WE X value st λa st₁=>∃l vs,a= .r l∧WP X lower st₁ λlo st₂=>WP X upper st₂ λhi st₃=>st₃.σ l=EU (.lst vs)∧vs.length≤sizeLine∧∀b,st₃.σ b=none->Q (.r b) ⟨st₃.σ.put b (.lst (eD vs lo hi)),st₃.ρ⟩):
 WE X (.Subscript value (.Slice lower upper none p) pos) st Q:=λφ s I=>by
 refine wpAny_Subscript_list_slice (ab (h φ s I) λv s₁ y1=>?_) ht;obtain ⟨a,st₁,r,I₁,k₁,l,vs,e0,h₁⟩:=y1;refine ab (jt h₁ I₁) λvl s₂ y2=>?_;obtain ⟨lo,st₂,e₂,I₂,k₂,h₂⟩:=y2;refine ab (jt h₂ I₂) λvu s₃ pp=>?_;refine ik pp λhi st₃ e₃ I₃ k₃ e hl q=>?_;clear pp;subst e0;cases (show v= .ref l from r);refine ad (I₃.own e) λitems pl rr=>?_;refine ⟨l,items,lo.map (·.1),hi.map (·.1),rfl,pl.isList,by rw[rr.size];exact hl,e₂▸jC lo,e₃▸jC hi,?_⟩;have I₄:=I₃.push {cls:= .type "slice",data:= .fields #[vl,vu,.none]}
 have nr:VRs (s₃.heap.push {cls:= .type "slice",data:= .fields #[vl,vu,.none]}) (eD vs (lo.map (·.1)) (hi.map (·.1))) (slicePick items (lo.map (·.1)) (hi.map (·.1)) none).toList:=by
  rw[slicePick_plain];have sz:=rr.size;rw[G6];unfold eD;rw[←sz];exact ((rr.keep (keep_push _ _)).drop _).take _
 obtain ⟨n,I₅⟩:=I₄.new (m:= .lst (eD vs (lo.map (·.1)) (hi.map (·.1)))) (o:={cls:= .type "list",data:= .seq (slicePick items (lo.map (·.1)) (hi.map (·.1)) none)}) ⟨_,⟨0,Heap.get?_push_size _ rfl⟩,nr.keep (keep_push _ _)⟩;rw[Heap.size_push] at n I₅;exact .mk (bO ..) I₅ (k₁.trans (k₂.trans (k₃.trans ((keep_push _ _).trans (keep_push _ _))))) (q _ n)
theorem pr{h:Heap}:∀{xs:List Str} {vs:List Value},VRs h (xs.map .s) vs->StrsAre vs xs
 | [],vs,r=>by simp[VRs] at r;subst r;exact .nil
 |x::xs,vs,r=>by
  simp only[FW] at r;unfold VRs at r;refine am r λy ys z1 z2=>?_;clear r;subst z1;obtain ⟨⟨t,rfl⟩,r⟩:=z2;exact .cons x t (pr r)
theorem C7{x:Str}{xs:List Str}(h:Q (.k (.bool (xs.any (·==x)))) st):W2 X (Fx .In) (.s x) (.t (.type "tuple") (xs.map .s)) st Q:=λφ s v w I y1 y2=>by
 obtain ⟨t,e1⟩:=y1;refine bz y2 λa o items n e2 z=>?_;refine xa4 z λe3 e4 e5 e6 r=>?_;clear y2 z;subst e1 e2;exact in_tuple_strs ⟨o,e3,e5,n,e6⟩ (pr r) (.mk (aZ ..) I (.refl _) h)
theorem vv{x y:Str}(h:Q (.k (.bool (!Txt.contains y x))) st):W2 X (Fx .NotIn) (.s x) (.s y) st Q:=jv λφ s t u I=>SB.notContains (.mk (aZ ..) I (.refl _) h)
theorem oN{x:Str}{QB:Bool->St->Prop}(hf:x.length<2^62)(h:QB (x.length !=0) st):WT X (.s x) st QB:=λφ s v I ⟨t,e⟩=>by
 subst e;refine PySem.P.truthy_str (by exact AD hf) ⟨st,I.toks _,.refl _,?_⟩
 have:((x.length:Int) !=0)=(x.length !=0):=by
  rw[Bool.eq_iff_iff];simp
 rw[this];exact h
theorem B7{x:Int}{QB:Bool->St->Prop}(h:QB (x !=0) st):WT X (.i x) st QB:=λφ s v I ⟨t,e⟩=>by
 subst e;exact PySem.P.truthy_int ⟨st,I,.refl _,h⟩
end
section
noncomputable def cC(K:Frag)(C:Addr)(names:List Str):Bool:=dk K C&&names.all λn=>findIn K (.ref C) n==EU none&&takerIn K C n==EU none
theorem fz{K:Frag}{C:Addr}{names:List Str}(h:cC K C names=true):dk K C=true:=(Bool.and_eq_true_iff.mp h).1
theorem h9{K:Frag}{C:Addr}{names:List Str}(h:cC K C names=true){n:Str}(hn:names.contains n=true):findIn K (.ref C) n=EU none∧takerIn K C n=EU none:=by
 have z:=Fn.mp (Bool.and_eq_true_iff.mp h).2 n (by simpa using hn);simpa using z
noncomputable def fG(K:Frag)(C:Addr)(l:List (Str×Addr)):Bool:=l.all λp=>findIn K (.ref C) p.1==EU (EU (.ref p.2))&&typeIn K (.ref p.2)==EU (.type "function")
theorem kI{K:Frag}{C:Addr}{l:List (Str×Addr)}(h:fG K C l=true){n:Str}{f:Addr}(hn:l.contains (n,f)=true):findIn K (.ref C) n=EU (EU (.ref f))∧typeIn K (.ref f)=EU (.type "function"):=by
 have z:=Fn.mp h (n,f) (by simpa using hn);simpa using z
noncomputable def Eu:List Str:=["isjunk","a","b","autojunk","matching_blocks","opcodes","fullbcount","b2j","bjunk","bpopular"]
theorem Bv(P:F1)(dv:Addr->Value):cC (KD P dv) 260 Eu=true:=s!"k"
noncomputable def DP:List (Str×Addr):=[("__init__",178),("set_seqs",185),("set_seq1",192),("set_seq2",199),("_SequenceMatcher__chain_b",206),("find_longest_match",214),("get_matching_blocks",221)]
theorem Bc(P:F1)(dv:Addr->Value):fG (KD P dv) 260 DP=true:=s!"k"
noncomputable def kz:List Str:=["instream","infile","posix","eof","commenters","wordchars","whitespace","whitespace_split","quotes","escape","escapedquotes","state","pushback","lineno","debug","token","filestack","source","_punctuation_chars","_pushback_chars"]
theorem eH(P:F1)(dv:Addr->Value):cC (KD P dv) 975 kz=true:=s!"k"
noncomputable def DL:List (Str×Addr):=[("__init__",899),("get_token",936),("read_token",943)]
theorem wW(P:F1)(dv:Addr->Value):fG (KD P dv) 975 DL=true:=s!"k"
noncomputable def Er:List Str:=["_StringIO__newline","_StringIO__buf","_StringIO__pos"]
theorem Ar(P:F1)(dv:Addr->Value):cC (KD P dv) 840 Er=true:=s!"k"
noncomputable def Ax:List (Str×Addr):=[("__init__",610),("_StringIO__translated",617),("_StringIO__check",624),("_StringIO__line",638),("read",786),("readline",794)]
theorem BV(P:F1)(dv:Addr->Value):fG (KD P dv) 840 Ax=true:=s!"k"
theorem cD{l:Lo}{x:Str}{m:MV}{u:Option MV}(h:lk l x=EU u):lk (stL l x m) x=EU (EU m):=by rw[gM,if_pos rfl,h];rfl
theorem bn{l:Lo}{x y:Str}{m:MV}{r:Option (Option MV)}(hn:y≠x)(h:lk l y=r):lk (stL l x m) y=r:=by rw[gM,if_neg hn];exact h
theorem zd{l:List (Str×MV)}{x:Str}{m:MV}:nk (aN l x m) x=EU m:=by rw[lY,if_pos rfl]
theorem zq{l:List (Str×MV)}{x y:Str}{m:MV}{r:Option MV}(hn:y≠x)(h:nk l y=r):nk (aN l x m) y=r:=by rw[lY,if_neg hn];exact h
theorem zk{σ:Sg}{a b:Addr}{m:MO}{r:Option MO}(hn:b≠a)(h:σ b=r):(σ.put a m) b=r:=by rw[Sg.put_ne _ _ hn];exact h
theorem bV{a b:String}(h:decide (a=b)=false):EW a≠EW b:=λe=>of_decide_eq_false h (c7.mp e)
theorem DS{l:Lo}{a b:String}{m:MV}{r:Option (Option MV)}(hn:decide (a=b)=false)(h:lk l (EW a)=r):lk (stL l (EW b) m) (EW a)=r:=bn (bV hn) h
theorem Ez{l:List (Str×MV)}{a b:String}{m:MV}{r:Option MV}(hn:decide (a=b)=false)(h:nk l (EW a)=r):nk (aN l (EW b) m) (EW a)=r:=zq (bV hn) h
theorem aj{σ:Sg}{a b:Addr}{m:MO}(h1:σ a=none)(h2:σ b=EU m):b≠a:=λe=>by subst e;rw[h1] at h2;cases h2
variable {X:Xc} {st:St} {Q:MV->St->Prop}
theorem ag{Q:List MV->St->Prop}(h:Q [] st):WEs X [] st Q:=h
theorem ac{e:Fw}{es:List Fw}{Q:List MV->St->Prop}(h:WE X e st λm st₁=>WEs X es st₁ λms st₂=>Q (m::ms) st₂):WEs X (e::es) st Q:=h
theorem fE{Q:St->Prop}(h:Q st):WAs X [] [] st Q:=h
theorem bY{t:Fw}{ts:List Fw}{m:MV}{ms:List MV}{Q:St->Prop}(h:WA X t m st λst'=>WAs X ts ms st' Q):WAs X (t::ts) (m::ms) st Q:=h
theorem gK{Q:List (Str×MV)->St->Prop}(h:Q [] st):WKs X [] st Q:=h
theorem kA{n:Str}{e:Fw}{p:Pos}{ks:List Keyword}{Q:List (Str×MV)->St->Prop}(h:WE X e st λm st₁=>WKs X ks st₁ λr st₂=>Q ((n,m)::r) st₂):WKs X (⟨EU n,e,p⟩::ks) st Q:=h
theorem ae{rest:List Stmt}{Q:Fl->St->Prop}(h:WS X rest st Q):fo X rest Q .next st:=h
theorem cY{rest:List Stmt}{Q:Fl->St->Prop}{m:MV}(h:Q (.ret m) st):fo X rest Q (.ret m) st:=h
theorem xt{rest:List Stmt}{Q:Fl->St->Prop}(h:Q .brk st):fo X rest Q .brk st:=h
theorem t8{rest:List Stmt}{Q:Fl->St->Prop}(h:Q .cont st):fo X rest Q .cont st:=h
theorem fI{Q:Option Int->St->Prop}(h:Q none st):WP X none st Q:=h
theorem fF{e:Fw}{Q:Option Int->St->Prop}(h:WE X e st λm st₁=>∃n,m= .i n∧Q (EU n) st₁):WP X (EU e) st Q:=h
noncomputable def AtR(X:Xc)(a:MV)(name:Str)(st:St)(Q:MV->St->Prop):Prop:=(∃y,a= .r y)∧W1 X (λv=>getAttr v name true) a st Q
theorem bh{o:Fw}{name:Str}{pos}(hb:F7 o name X.env (eval o X.env)=eval o X.env)
 (h:WE X o st λa st₁=>AtR X a name st₁ Q):WE X (.Attribute o name pos) st Q:=y9 hb h
theorem z0(N:Kn X){name:Str}{x C dx:Addr}{ns:List (Str×MV)}{m:MV}{names:List Str}
 (e1:st.σ x=EU (.ins C dx)) (e2:st.σ dx=EU (.ns ns)) (e3:nk ns name=EU m) (hA:cC (KD X.C.w.params N.dv) C names=true) (hn:names.contains name=true) (hm:m.out) (hq:Q m st):AtR X (.r x) name st Q:=
 ⟨⟨_,rfl⟩,Cj N e1 e2 e3 hm (fz hA) (h9 hA hn).1 hq⟩
noncomputable def dL(X:Xc)(N:Kn X)(a:MV)(name:Str)(m:MV)(st:St)(QU:St->Prop):Prop:=∃x C dx ns,a= .r x∧st.σ x=EU (.ins C dx)∧st.σ dx=EU (.ns ns)∧dk (KD X.C.w.params N.dv) C=true∧
 takerIn (KD X.C.w.params N.dv) C name=EU none∧ns.length<900∧QU ⟨st.σ.put dx (.ns (aN ns name m)),st.ρ⟩
theorem j5(N:Kn X){o:Fw}{name:Str}{pos}{m:MV}{QU:St->Prop}(h:WE X o st λa st₁=>dL X N a name m st₁ QU):WA X (.Attribute o name pos) m st QU:=yn N h
theorem AS{N:Kn X}{name:Str}{x C dx:Addr}{ns:List (Str×MV)}{m:MV}{names:List Str}{QU:St->Prop}
 (e1:st.σ x=EU (.ins C dx)) (e2:st.σ dx=EU (.ns ns)) (hA:cC (KD X.C.w.params N.dv) C names=true) (hn:names.contains name=true) (hz:ns.length<900) (hq:QU ⟨st.σ.put dx (.ns (aN ns name m)),st.ρ⟩):
 dL X N (.r x) name m st QU:=(fb _ _ _ _ rfl e1 e2 (fz hA) ((h9 hA hn).2) ⟨hz,hq⟩)
noncomputable def lQ(X:Xc)(N:Kn X)(a:MV)(name:Str)(st:St)(P:Addr->Addr->Addr->Prop):Prop:=∃x C dx,a= .r x∧st.σ x=EU (.ins C dx)∧dk (KD X.C.w.params N.dv) C=true∧takerIn (KD X.C.w.params N.dv) C name=EU none∧P x C dx
theorem iC(N:Kn X){o value:Fw}{name:Str}{tpos pos:Pos}{op:Operator}{Q:Fl->St->Prop}
 (h:WE X o st λa st₁=>lQ X N a name st₁ λx C dx=>AtR X (.r x) name st₁ λold st₂=>
  WE X value st₂ λb st₃=>W2 X (inplaceOp op) old b st₃ λm st₄=>dL X N (.r x) name m st₄ λst₅=>Q .next st₅):
 WS1 X (.AugAssign (.Attribute o name tpos) op value pos) st Q:=λφ s I=>by
 refine wpAny_AugAssign_AttributeAny (ab (h φ s I) λv s₁ hp=>?_);obtain ⟨a,st₁,r,I₁,k₁,z⟩:=hp;refine CK z λx C dx e0 e1 e3 e4 h₁=>?_;clear z;obtain ⟨_,h₁⟩:=h₁;subst e0;cases (show v= .ref x from r);refine ab (h₁ φ s₁ (.ref x) I₁ (bO ..)) λov s₂ hp=>?_;obtain ⟨old,st₂,r₂,I₂,k₂,h₂⟩:=hp;refine ab (h₂ φ s₂ I₂) λv s₃ hp=>?_;obtain ⟨b,st₃,r₃,I₃,k₃,h₃⟩:=hp;refine ab (h₃ φ s₃ ov v I₃ (r₂.keep k₃) r₃) λw s₄ hp=>?_;obtain ⟨m,st₄,r₄,I₄,k₄,z⟩:=hp;refine C3 z λy C' dx' ns f0 f1 f2 f3 f4 f5 q=>?_;clear z;cases f0;exact ab (vy (QU:=λst'=>Q .next st') N f1 f2 f3 f4 f5 q I₄ r₄) λ_ s₅ ⟨st₅,I₅,k₅,q₅⟩=>⟨.next,st₅,rfl,I₅,k₁.trans (k₂.trans (k₃.trans (k₄.trans k₅))),q₅⟩
theorem BM{N:Kn X}{name:Str}{x C dx:Addr}{names:List Str}{P:Addr->Addr->Addr->Prop}(e1:st.σ x=EU (.ins C dx))(hA:cC (KD X.C.w.params N.dv) C names=true)(hn:names.contains name=true)(h:P x C dx):lQ X N (.r x) name st P:=
 (kP _ _ _ rfl e1 (fz hA) ((h9 hA hn).2) h)
theorem yg{N:Kn X}{name:Str}{x C dx:Addr}{ns:List (Str×MV)}{names:List Str}{l:List (Str×Addr)}(f:Addr){es:List Fw}(e1:st.σ x=EU (.ins C dx))(e2:st.σ dx=EU (.ns ns))(e3:nk ns name=none)(hA:cC (KD X.C.w.params N.dv) C names=true)(hM:fG (KD X.C.w.params N.dv) C l=true)
 (hn:l.contains (name,f)=true) (hf:∃ob fd,X.C.h0.get? f=EU ob∧ob.data= .func fd)
 (h:WEs X es st λms st₂=>WC X (.ref f) (.r x::ms) st₂ Q):lC X N (.r x) name es st Q:=by
 refine am hf λob fd h1 h2=>?_;exact ⟨_,_,_,_,_,_,_,e1,e2,e3,fz hA,(kI hM hn).1,(kI hM hn).2,h1,h2,h⟩
end
section
noncomputable def HI:MV->Value->Prop
 | .r a,v=>v= .ref a
 | .i n,v=>∃t,v= .int n t
 | .k u,v=>v=u
 | .s x,v=>∃t,v= .str x t
 |_,_=>False
noncomputable def MV.hi:MV->Prop
 | .r _=>True
 | .i _=>True
 | .k _=>True
 | .s _=>True
 |_=>False
theorem HI.vr{h:Heap}{m:MV}{v:Value}(x:HI m v):VR h m v:=by
 cases m<;>first|exact x|exact x.elim
theorem VR.hi{h:Heap}{m:MV}{v:Value}(x:VR h m v)(y:m.hi):HI m v:=by
 cases m<;>first|exact x|exact y.elim
section
variable {w:FL} {K:Type} [DecidableEq K]
noncomputable def HIs:List (K×MV)->List (K×Value)->Prop
 | [],l=>l=[]
 |(k,m)::r,l=>∃v l',l=(k,v)::l'∧HI m v∧HIs r l'
noncomputable def bw(l:List (K×MV))(k:K):Option MV:=(l.find? λp=>p.1=k).map (·.2)
noncomputable def cJ(l:List (K×MV))(k:K)(m:MV):List (K×MV):=if l.any (λp=>p.1=k) then l.map (λp=>if p.1=k then (p.1,m) else p) else l++[(k,m)]
theorem HIs.at{k : K} : ∀ {l : List (K × MV)} {r : List (K × Value)}, HIs l r -> match bw l k with
    | some m => ∃ v, valueAt r k = EU v ∧ HI m v
    | none => valueAt r k = none
  | [], r, h => by cases (show r = [] from h); rfl
  | (k', m) :: l, r, h => by
    refine am h λv r' z1 z2 => ?_; clear h; subst z1; refine xa1 z2 λh1 h2 => ?_
    have ih := HIs.at (k := k) h2
    unfold bw valueAt at *
    by_cases e : k' = k
    · simp [e]; exact h1
    · simpa [e] using ih
theorem HIs.any{p:K->Bool}:∀{l:List (K×MV)} {r:List (K×Value)},HIs l r->r.any (λx=>p x.1)=l.any (λx=>p x.1)
 | [],r,h=>by cases (show r=[] from h);rfl
 |(k',m)::l,r,h=>by
  refine am h λv r' z1 z2=>?_;clear h;subst z1;refine xa1 z2 λh1 h2=>?_;simp only[List.any_cons,HIs.any h2]
theorem HIs.len:∀{l:List (K×MV)} {r:List (K×Value)},HIs l r->r.length=l.length
 | [],r,h=>by cases (show r=[] from h);rfl
 |(k',m)::l,r,h=>by
  refine am h λv r' z1 z2=>?_;clear h;subst z1;refine xa1 z2 λh1 h2=>?_;simp[HIs.len h2]
theorem HIs.upd{k:K}{m:MV}{v:Value}(e:HI m v):∀{l:List (K×MV)} {r:List (K×Value)},HIs l r->HIs (l.map λp=>if p.1=k then (p.1,m) else p) (r.map λp=>if p.1=k then (p.1,v) else p)
 | [],r,h=>by cases (show r=[] from h);rfl
 |(k',m')::l,r,h=>by
  refine am h λv' r' z1 z2=>?_;clear h;subst z1;refine xa1 z2 λh1 h2=>?_;clear z2;simp only[FW];by_cases q:k'=k
  ·rw[if_pos q,if_pos q];exact (cZ v _ rfl e (HIs.upd e h2))
  ·rw[if_neg q,if_neg q];exact (cZ v' _ rfl h1 (HIs.upd e h2))
theorem HIs.snoc{k:K}{m:MV}{v:Value}(e:HI m v):∀{l:List (K×MV)} {r:List (K×Value)},HIs l r->HIs (l++[(k,m)]) (r++[(k,v)])
 | [],r,h=>by cases (show r=[] from h);exact (cZ v ([]) rfl e rfl)
 |(k',m')::l,r,h=>by
  refine am h λv' r' z1 z2=>?_;clear h;subst z1;refine xa1 z2 λh1 h2=>?_;clear z2;exact (cZ v' _ rfl h1 (HIs.snoc e h2))
theorem HIs.put{k:K}{m:MV}{v:Value}(e:HI m v){l:List (K×MV)}{r:List (K×Value)}(h:HIs l r):HIs (cJ l k m) (stored r k v):=by
 unfold cJ stored;rw[h.any (p:=λx=>decide (x=k))];split
 ·exact h.upd e
 ·exact h.snoc e
noncomputable def dO(knd:KeyKind pgm w K)(l:List (K×MV)):MO:= .any λo=>∃kvs,o.IsDictOf knd kvs∧HIs l kvs
variable {knd:KeyKind pgm w K}
theorem kU{h:Heap}{d:Addr}{l:List (K×MV)}(x:OR h d (dO knd l)):∃kvs,h.DictOf knd d kvs∧HIs l kvs:=by
 refine gr x λo ho _ kvs a b=>?_;exact (af kvs (Heap.dictOf_iff.mpr ⟨o,ho,a⟩) b)
theorem tN{h:Heap}{d:Addr}{l:List (K×MV)}{kvs:List (K×Value)}(x:h.DictOf knd d kvs)(y:HIs l kvs):OR h d (dO knd l):=by
 refine ad (Heap.dictOf_iff.mp x) λo ho a=>?_;have a':=a;refine bL a' λes ep _ hd _=>?_;exact (jg o ho (kx hd) kvs a y)
end
section
variable {X:Xc} {K:Type} [DecidableEq K] {knd:KeyKind pgm X.C.w K} {st:St} {φ:Sg} {Q:MV->St->Prop}
theorem Says.sysNe{w:FL}{h:Heap}(S:Says w h){d:Addr}(hd:h.objs.size≤d):(d==sysModules)=false:=by
 have z:(K w.params).lookup 1010≠none:=by
  show _≠_;have:((K w.params).lookup 1010).isSome=true:=s!"k"
  intro e;rw[e] at this;cases this
 obtain ⟨o,ho⟩:=Option.ne_none_iff_exists'.mp z;obtain ⟨v,hv⟩:=S.k (1010,o) (dM ho);have:=Heap.lt_size hv;simp only[beq_eq_false_iff_ne];intro e;have e2:sysModules=1:=rfl;rw[e2] at e;have h1:d<1010:=by rw[e];decide
 exact absurd (E1 (E3 hd h1) (Fu this)) (FC _)
theorem IF.ge{s:Shared}(I:IF X φ st s){a:Addr}{m:MO}(e:st.σ a=EU m):X.C.h0.objs.size≤a:=(I.inv.rep a m (I.tot e)).1
theorem C8(G:Gd X.C){d:Addr}{l:List (K×MV)}{k:K}{mk m:MV}(hk:∀h v,VR h mk v->knd.is k v=true)(e:st.σ d=EU (dO knd l))(hq:Q ((bw l k).getD m) st):
 WC X (.builtin "dict.get") [.r d,mk,m] st Q:=λφ s us I r=>by
 refine uo r λz u e2 e3=>?_;refine ad (kU (I.own e)) λkvs hd hi=>?_;have ns:=G.says.sysNe (I.ge e);refine call_meetsIn PySem.F.slot_dict_get hd.typeIs PySem.F.entry_dict_get (PySem.F.args_dict_get_3 _ _ _) (meets_dict_get_default knd d (hk _ _ e2) ns u) (af _ hd.mapOf ?_);have a:=hi.at (k:=k)
 cases hm:bw l k with
 |none=>
  rw[hm] at a hq;dsimp only at a;rw[a];exact Post.mk e3 (I.toks _) (.refl _) hq
 |some m'=>
  rw[hm] at a hq;refine ad a λv h1 h2=>?_;rw[h1];exact Post.mk h2.vr (I.toks _) (.refl _) hq
theorem jf(G:Gd X.C){d:Addr}{l:List (K×MV)}{k:K}{mk m:MV}(hk:∀h v,VR h mk v->knd.is k v=true)(e:st.σ d=EU (dO knd l))(hm:m.hi)(hz:l.length≤sizeLine)
 (hq:match bw l k with
  |some m'=>Q m' st
  |none=>Q m ⟨st.σ.put d (dO knd (cJ l k m)),st.ρ⟩):WC X (.builtin "dict.setdefault") [.r d,mk,m] st Q:=λφ s us I r=>by
 refine uo r λz u e2 e3=>?_;refine ad (kU (I.own e)) λkvs hd hi=>?_;have ns:=G.says.sysNe (I.ge e);refine call_meetsIn PySem.F.slot_dict_setdefault hd.typeIs PySem.F.entry_dict_setdefault (PySem.F.args_dict_setdefault_3 _ _ _) (kt_meets_setdefault knd d (hk _ _ e2) ns u) (cI kvs hd (by rw[hi.len];exact hz) (λv hv=>?_) (λhv h' hd' sb=>?_))
 ·have a:=hi.at (k:=k)
  cases hm:bw l k with
  |none=>
   rw[hm] at a;dsimp only at a;rw[a] at hv;cases hv
  |some m'=>
   rw[hm] at a hq;refine ad a λv' h1 h2=>?_;clear a;rw[h1] at hv;clear h1;cases hv;exact Post.mk h2.vr (I.toks _) (.refl _) hq
 ·have a:=hi.at (k:=k)
  cases hm':bw l k with
  |none=>
   rw[hm'] at hq;have kk:=co I e sb;exact Post.mk (e3.keep kk) (I.upd (m':=dO knd (cJ l k m)) (t:=s.toks+1) e sb (tN hd' (hi.put (e3.hi hm)))) kk hq
  |some m'=>
   rw[hm'] at a;refine ad a λv' h1 h2=>?_;clear a;rw[h1] at hv;cases hv
theorem Al{d:Addr}{l:List (K×MV)}{k:K}{mk m:MV}{QU:St->Prop}(hk:∀h v,VR h mk v->knd.is k v=true)(e:st.σ d=EU (dO knd l))(hm:m.hi)(hz:l.length≤sizeLine)(hq:QU ⟨st.σ.put d (dO knd (cJ l k m)),st.ρ⟩):
 ∀φ s v w u,IF X φ st s->VR s.heap (.r d) v->VR s.heap mk w->VR s.heap m u->E4 X.M X.A (setItem v w u) (λ_=>PostU X φ s QU) NoE s:=λφ s v w u I r1 r2 r3=>by
 cases (show v= .ref d from r1);refine ad (kU (I.own e)) λkvs hd hi=>?_;refine wpAny_setItem_pairs (hk _ _ r2) hd (λh' hd' sb=>?_) (by rw[hi.len];exact hz);have kk:=co I e sb;exact ⟨_,I.upd (m':=dO knd (cJ l k m)) (t:=s.toks+1) e sb (tN hd' (hi.put (r3.hi hm))),kk,hq⟩
theorem qi{w:FL}{x:Str}:∀h v,VR h (.s x) v->(strKind pgm w).is x v=true:=λh v ⟨t,e⟩=>by subst e;exact strKind_is ..
theorem ve{w:FL}{x:Int}:∀h v,VR h (.i x) v->(intKind pgm w).is x v=true:=λh v ⟨t,e⟩=>by subst e;exact intKind_is ..
theorem ky{pos}(knd:KeyKind pgm X.C.w K)(hq:∀d,st.σ d=none->Q (.r d) ⟨st.σ.put d (dO knd []),st.ρ⟩):WE X (.Dict [] [] pos) st Q:=λφ s I=>by
 rw[eval_Dict_empty];refine EX (GJ ?_);unfold newDict;refine EX (wpAny_alloc (E0 ?_));refine xa1 (I.new (m:=dO knd []) (o:={cls:= .type "dict",data:= .dict #[]}) (tN (Heap.DictOf.new _) rfl)) λn I₂=>?_;exact .mk (bO ..) I₂ (keep_push _ _) (hq _ n)
end
end
section
open Builtin.ObjectAttr
set_option maxHeartbeats 1000000
theorem gY:Slot "method_descriptor" "__get__" "method_descriptor.__get__" :=
 .of (owner:="method_descriptor") (n:="__get__") (by rw[FF,Fh];kernel_rfl) s!"1" s!"1" s!"1"
  (by first|exact .inl (of_decide_eq_true (by kernel_rfl!))|exact .inr s!"1") (by rw[FN];kernel_rfl)
theorem rp:Hb table "method_descriptor.__get__" =EU Builtin.«method_descriptor.__get__»:=F4 s!"k"
theorem tO(a b c:Value):argsOk "method_descriptor.__get__" ⟨[a,b,c],[]⟩:=by unfold argsOk;kernel_rfl
theorem wl:Gq (.type "method_descriptor") "__set__" =pure none:=by rw[FF,Fh];kernel_rfl
theorem wT:Gq (.type "method_descriptor") "__delete__" =pure none:=by rw[FF,Fh];kernel_rfl
noncomputable abbrev xQ(id:String)(v:Value):Obj:={cls:= .type "builtin_function_or_method",data:= .fields #[.builtin id,v]}
theorem ze{M:Model}{h:Heap}{a:Addr}{T id:String}{name:Str}{o:Obj}(ho:h.get? a=EU o)(hc:o.cls= .type T)(hd:o.dict=none)(hn:notCls o=true)(fin:Gq (.type T) name=pure (EU (.builtin id)))
 (fty:GY (.builtin id)=pure (.type "method_descriptor")) (hname:(["__module__","__name__","__qualname__","__doc__","__annotations__"]:List Str).contains name=false):
 Fv M h (find (.ref a) (.type T) name) (.bind (.builtin "method_descriptor.__get__") (.builtin id)):=by
 have L1:Fv M h (Gq (.type T) name) (EU (.builtin id)):= .of_pure fin
 have L2:Fv M h (getOf (EU (.builtin id))) (EU (.builtin "method_descriptor.__get__")):=by
  show Fv M h (Hf _ _) _;unfold Hf;exact (Fv.of_pure fty).andThen (.of_pure gY.lookup)
 have sp1:Fv M h (Hf (.builtin id) "__set__") none:=(Fv.of_pure fty).andThen (f:=λt=>Gq t "__set__") (.of_pure wl);have sp2:Fv M h (Hf (.builtin id) "__delete__") none:=(Fv.of_pure fty).andThen (f:=λt=>Gq t "__delete__") (.of_pure wT)
 have tk:Fv M h (takesStores (.builtin id)) false:=by
  intro A Q E s k q;exact EX (sp1 A _ E s k (EX (sp2 A _ E s k (E0 q))))
 have L3:Fv M h (dataDescriptor? (EU (.builtin id)) (EU (.builtin "method_descriptor.__get__"))) none:=by
  intro A Q E s k q;exact EX (tk A _ E s k (E0 q))
 have L4:Fv M h (inOwnDict name (.ref a)) none:=by
  obtain ⟨oc,odi,oda,osl⟩:=o;dsimp only at hd hc;subst hd hc;intro A Q E s k q
  have body:E4 M A (instanceDict a false) (λx s'=>E4 M A (inDict name x) Q E s') E s:=by
   unfold instanceDict;refine EX (wpAny_loadPart (k _ _ ho) ?_);exact E0 (E0 q)
  refine EX (EX (wpAny_loadPart (k _ _ ho) ?_));clear ho;cases oda<;>first|exact body|cases hn
 have L5:Fv M h (copiedAttributeGuard name (.ref a)) ():=by
  intro A Q E s k q;unfold copiedAttributeGuard;show E4 M A (if (["__module__","__name__","__qualname__","__doc__","__annotations__"]:List Str).contains name=true then _ else _) Q E s;rw[hname,if_neg s!"d"];exact E0 q
 intro A Q E s k q;refine EX (L1 A _ E s k (EX (L2 A _ E s k (EX (L3 A _ E s k (EX (L4 A _ E s k (EX (L5 A _ E s k ?_)))))))));exact EX (wpAny_rule (E0 q))
structure BmOk (T ga id:String) (name:Str):Prop where
 slot:Slot T "__getattribute__" ga
 entry:Hb table ga=EU Builtin.«object.__getattribute__»
 args:∀a b,argsOk ga ⟨[a,b],[]⟩
 fin:Gq (.type T) name=pure (EU (.builtin id))
 fty:GY (.builtin id)=pure (.type "method_descriptor")
 hname:(["__module__","__name__","__qualname__","__doc__","__annotations__"]:List Str).contains name=false
 told:Manifest.toldItsClass.contains id=false
 sub:GI (.type T) (.type T)=pure true
 own:∀(M:Model) (A:Fb) (E:Value->Shared->Prop) (s:Shared) (a:Addr) (Q:Fin->Shared->Prop),s.TypeIs (.ref a) T->Q (.done (.ret (.ref s.heap.objs.size))) {s with heap:=s.heap.push (xQ id (.ref a))}->
  E4 M A (Builtin.«method_descriptor.__get__» ⟨[.builtin id,.ref a,.type T],[]⟩) Q E s
theorem kL{prog:Program}{w:FL}{A:Fb}{s:Shared}{a:Addr}{o:Obj}{T ga id:String}{name:Str}{Q:Value->Shared->Prop}(B:BmOk T ga id name)
 (ho:s.heap.get? a=EU o) (hc:o.cls= .type T) (hd:o.dict=none) (hn:notCls o=true)
 (h:Q (.ref s.heap.objs.size) {s with heap:=s.heap.push (xQ id (.ref a)),toks:=s.toks+1}):
 E4 (Fa prog w) A (getAttr (.ref a) name true) Q NoE s:=by
 have hT:∀t,({s with toks:=t}:Shared).TypeIs (.ref a) T:=λ_=>(af o ho hc)
 have ty:Fv (Fa prog w) s.heap (GY (.ref a)) (.type T):=by rw[←hc];exact (Fv.ld ho).andThen .now
 have F:=ze (M:=Fa prog w) (T:=T) ho hc hd hn B.fin B.fty B.hname;refine EX (wpAny_mkText (wpAny_holding (EX (ty _ _ _ _ (λ_ _ e=>e) (EX (FO B.slot.lookup ?_))))));dsimp only;rw[show onTheHeap (Hk T)=false from rfl,Bool.false_and,if_neg s!"d"];refine EX (E0 (EX (wpAny_attempt (wpAny_holding ?_))));unfold callGetattribute;rw[show (true&&onTheHeap (Value.builtin ga))=false from rfl,if_neg s!"d"];unfold boundAndCalled;rw[B.slot.bind];refine EX (E0 ?_);show E4 _ _ (call (.builtin ga) [.ref a,.str name s.toks]) _ _ _;refine GC (F2 B.slot.plain B.entry (B.slot.check _ _ _ _ _ _ _ _ (hT _) (B.args _ _) ?_));unfold Builtin.«object.__getattribute__»;refine EX (E0 (EX (E0 (EX (ty _ _ _ _ (λ_ _ e=>e) (EX (F _ _ _ _ (λ_ _ e=>e) ?_)))))));show E4 _ _ (holding _ (call (.builtin "method_descriptor.__get__") [.builtin id,.ref a,.type T])>>=_) _ _ _;refine EX (wpAny_holding (GC (F2 gY.plain rp (gY.check _ _ _ _ _ _ _ _ B.fty (tO _ _ _) ?_))));refine B.own _ _ _ _ _ _ (hT _) ?_;exact E0 (E0 h)
theorem gx:Hb table "set.__getattribute__" =EU Builtin.«object.__getattribute__»:=
 entryFor_alias (id':="object.__getattribute__") s!"k" s!"1" s!"1" s!"k"
theorem pM:GI (.type "dict") (.type "dict")=pure true:=by rw[FN];kernel_rfl
theorem sF:GI (.type "set") (.type "set")=pure true:=by rw[FN];kernel_rfl
theorem q8:BmOk "dict" "dict.__getattribute__" "dict.get" "get" :=by
 refine ⟨F.slot_dict_getattribute,am_entry_dict_getattribute,F.args_dict_getattribute_2,F.slot_dict_get.lookup,F.type_dict_get,s!"1",s!"1",pM,λM A E s a Q hT h=>?_⟩;obtain ⟨hp,g,d,tk,os⟩:=s;refine ad hT λo ho hc=>?_
 have ty:Fv M hp (isInstance (.ref a) (.type "dict")) true:=by
  refine Fv.andThen (a:= .type "dict") ?_ (.of_pure pM);rw[←hc];exact (Fv.ld ho).andThen .now
 have ty':Fv M hp (isInstance (.ref a) (.type (".".intercalate ("dict.get".cutAt '.').dropLast))) true:=by
  rw[show ".".intercalate ("dict.get".cutAt '.').dropLast="dict" by decide+kernel];exact ty
 unfold Builtin.«method_descriptor.__get__»;repeat lk
 exact h
theorem lu:BmOk "set" "set.__getattribute__" "set.__contains__" "__contains__" :=by
 refine ⟨F.slot_set_getattribute,gx,F.args_set_getattribute_2,F.slot_set_contains.lookup,F.type_set_contains,s!"1",s!"1",sF,λM A E s a Q hT h=>?_⟩;obtain ⟨hp,g,d,tk,os⟩:=s;refine ad hT λo ho hc=>?_
 have ty:Fv M hp (isInstance (.ref a) (.type "set")) true:=by
  refine Fv.andThen (a:= .type "set") ?_ (.of_pure sF);rw[←hc];exact (Fv.ld ho).andThen .now
 have ty':Fv M hp (isInstance (.ref a) (.type (".".intercalate ("set.__contains__".cutAt '.').dropLast))) true:=by
  rw[show ".".intercalate ("set.__contains__".cutAt '.').dropLast="set" by decide+kernel];exact ty
 unfold Builtin.«method_descriptor.__get__»;repeat lk
 exact h
theorem rY{prog:Program}{w:FL}{A:Fb}{s:Shared}{b a:Addr}{T id:String}{name:Str}{B:Builtin}{rest:List Value}{S:PySem.Spec}{Q:Value->Shared->Prop}{o:Obj}(ho:s.heap.get? b=EU o)(ocl:o.cls= .type "builtin_function_or_method")(oda:o.data= .fields #[.builtin id,.ref a])
 (hc:∀(M:Model) (A:Fb) (P:Unit->Shared->Prop) (E:Value->Shared->Prop),P () s->E4 M A (checkBoundCall id ⟨.ref a::rest,[]⟩) P E s) (slot:Slot T name id) (entry:Hb table id=EU B)
 (g:MeetsIn prog w (B ⟨.ref a::rest,[]⟩) S) (h:S A (wants Q NoE) s):E4 (Fa prog w) A (call (.ref b) rest) Q NoE s:=by
 obtain ⟨oc,od,odt,osl⟩:=o;dsimp only at ocl oda;subst ocl oda;refine GC (codeAny_of_tree ?_);show E4 _ _ (callAny (.ref b) ⟨rest,[]⟩) _ _ s;refine nd_load ho ?_;show E4 _ _ (checkBoundCall id ⟨.ref a::rest,[]⟩>>=_) _ _ s;refine EX (hc _ _ _ _ ?_);refine EX (E0 (a:=Fin.again (.builtin id ⟨.ref a::rest,[]⟩)) ?_);refine E0 ⟨Gs slot.plain _,?_⟩;refine Gc entry ?_;rw[Fb.under_plainId slot.plain];exact g A (wants Q NoE) s h
theorem qB{s:Shared}{a:Addr}{o:Obj}{id T:String}{sig:Manifest.Signature}{rest:List Value}(ho:s.heap.get? a=EU o)(hc:o.cls= .type T)(hn:notCls o=true)(hs:Manifest.signature? id=EU sig)
 (hk:builtinKind id=EU .method∨builtinKind id=EU .slot) (hv:Manifest.varargsMethods.contains id=false) (hm:GI (.type T) (.type "module")=pure false)
 (h1:Bind.checkArgs id sig ⟨.ref a::rest,[]⟩=pure ()) (h2:Bind.checkArgs id {sig with full:=s!"{Bind.lastOf T}.{Bind.lastOf id}"} ⟨.ref a::rest,[]⟩=pure ())
 (M:Model) (A:Fb) (P:Unit->Shared->Prop) (E:Value->Shared->Prop) (h:P () s):
 E4 M A (checkBoundCall id ⟨.ref a::rest,[]⟩) P E s:=by
 have ty:Fv M s.heap (GY (.ref a)) (.type T):=by rw[←hc];exact (Fv.ld ho).andThen .now
 have md:Fv M s.heap (isInstance (.ref a) (.type "module")) false:=ty.andThen (.of_pure hm)
 have nt:Fv M s.heap (isType (.ref a)) false:=by
  intro A Q E s k q;refine EX (wpAny_loadPart (k _ _ ho) ?_);obtain ⟨oc,odi,oda,osl⟩:=o;clear ho hc;cases oda<;>first|exact E0 q|cases hn
 unfold checkBoundCall;rw[hs];rcases hk with hk|hk
 ·rw[hk];refine EX (md.here ?_);rw[hv];refine EX (nt.here ?_);refine EX (ty.here ?_);dsimp only;rw[h2];exact E0 h
 ·rw[hk];show E4 M A (Bind.checkArgs id sig ⟨.ref a::rest,[]⟩) P E s;rw[h1];exact E0 h
theorem s9:GI (.type "dict") (.type "module")=pure false:=by rw[FN];kernel_rfl
theorem vH:GI (.type "set") (.type "module")=pure false:=by rw[FN];kernel_rfl
theorem za:Manifest.signature? "dict.get" =EU ⟨.positional,"dict.get","get",.self,[⟨"key",.posOnly,true⟩,⟨"default",.posOnly,false⟩]⟩:=by
 rw[signature?_of (id:="dict.get") (n:=['t','e','g']) (o:=['t','c','i','d']) s!"k" PySem.F.owner_dict];kernel_rfl
theorem wt:Manifest.signature? "set.__contains__" =EU ⟨.oneArg,"set.__contains__","__contains__",.self,[⟨"object",.posOnly,true⟩]⟩:=by
 rw[signature?_of (id:="set.__contains__") (n:=['_','_','s','n','i','a','t','n','o','c','_','_']) (o:=['t','e','s']) s!"k" PySem.F.owner_set];kernel_rfl
theorem ut{s:Shared}{a:Addr}{o:Obj}{x y:Value}(ho:s.heap.get? a=EU o)(hc:o.cls= .type "dict")(hn:notCls o=true)(M:Model)(A:Fb)(P:Unit->Shared->Prop)(E:Value->Shared->Prop)(h:P () s):
 E4 M A (checkBoundCall "dict.get" ⟨[.ref a,x,y],[]⟩) P E s:=
 qB ho hc hn za (.inl s!"1") s!"1" s9 s!"k" s!"k" M A P E h
theorem tV{s:Shared}{a:Addr}{o:Obj}{x:Value}(ho:s.heap.get? a=EU o)(hc:o.cls= .type "set")(hn:notCls o=true)(M:Model)(A:Fb)(P:Unit->Shared->Prop)(E:Value->Shared->Prop)(h:P () s):
 E4 M A (checkBoundCall "set.__contains__" ⟨[.ref a,x],[]⟩) P E s:=
 qB ho hc hn wt (.inl s!"1") s!"1" vH s!"k" s!"k" M A P E h
end
section
noncomputable def fp:MO:= .any λo=>∃led:Bool,o={cls:= .type "set",dict:=none,data:= .set #[] 0 (.fresh 0 0 led)}
theorem pU{w:FL}{h:Heap}{a:Addr}(x:OR h a fp):h.SetOf (strKind pgm w) a (λ_=>false) 0∧∃o,h.get? a=EU o∧o.cls= .type "set" ∧o.dict=none∧notCls o=true:=by
 refine aV x λo ho _ z1=>?_;clear x;refine xe1 z1 λled z2=>?_;clear z1;subst z2;exact (gR ⟨_, #[],0,_,ho,⟨rfl,rfl,rfl⟩,rfl,λe he=>by simp at he,λk=>s!"4",s!"d",s!"2",rfl⟩ _ ho ⟨rfl,rfl,rfl⟩)
theorem qr{w:FL}{K:Type}[DecidableEq K]{knd:KeyKind pgm w K}{l:List (K×MV)}{h:Heap}{a:Addr}(x:OR h a (dO knd l)):∃o,h.get? a=EU o∧o.cls= .type "dict" ∧o.dict=none∧notCls o=true:=by
 refine gr x λo ho _ kvs z1 _=>?_;refine bL z1 λes ep z2 hd _=>?_;obtain ⟨c1,c2,c3⟩:=z2;exact (cI o ho c1 c2 (by unfold notCls;rw[hd]))
section
variable {prog:Program} {w:FL}
theorem iY(a:Addr)(x:Str)(t:Tok):MeetsIn prog w (Builtin.«frozenset.__contains__» ⟨[.ref a,.str x t],[]⟩)
 (λ_ R s=>s.heap.SetOf (strKind prog w) a (λ_=>false) 0∧R (.ok (.ret (.bool false))) {s with toks:=s.toks+1}):=
 .of_wp λA R s ⟨hS,h⟩=>by
  unfold Builtin.«frozenset.__contains__» Builtin.Frozenset.oneOther;simp only[List.isEmpty_nil,bind_assoc];unfold Builtin.Frozenset.addrOf Builtin.Frozenset.withSetAsKey setContains;refine EX (E0 ?_)
  try dsimp only
  refine EX (E0 ?_)
  try dsimp only
  refine EX (wpAny_tryCatch ?_);refine wpAny_holding ?_;refine EX ((strKind prog w).pyHash (k:=x) (strKind_is ..) ?_);refine EX (wpAny_setFind_of (s:={s with toks:=s.toks+1}) (knd:=strKind prog w) (k:=x) (strKind_is ..) rfl hS λr hr=>?_);refine E0 ?_;show E4 _ _ (ret (Value.bool r.isSome)) _ _ _;rw[hr];exact E0 (af _ rfl h)
end
variable {X:Xc} {st:St} {φ:Sg} {Q:MV->St->Prop}
theorem Aw{K:Type}[DecidableEq K]{knd:KeyKind pgm X.C.w K}{d:Addr}{l:List (K×MV)}(e:st.σ d=EU (dO knd l))(hq:Q (.bm "dict.get" (.r d)) st):AtR X (.r d) "get" st Q:=
 ⟨⟨_,rfl⟩,λφ s v I r=>by
  cases (show v= .ref d from r);refine gu (qr (I.own e)) λo ho h1 h2 h3=>?_;refine kL q8 ho h1 h2 h3 ?_;exact Post.mk (m:= .bm "dict.get" (.r d)) (kP _ _ _ rfl (Heap.get?_push_size _ rfl) rfl rfl ⟨rfl,bO ..⟩) ((I.push _).toks _) (keep_push _ _) hq⟩
theorem rd{d:Addr}(e:st.σ d=EU fp)(hq:Q (.bm "set.__contains__" (.r d)) st):AtR X (.r d) "__contains__" st Q:=
 ⟨⟨_,rfl⟩,λφ s v I r=>by
  cases (show v= .ref d from r);refine gU (pU (w:=X.C.w) (I.own e)) λ_ o z1=>?_;refine xa3 z1 λho h1 h2 h3=>?_;clear z1;refine kL lu ho h1 h2 h3 ?_;exact Post.mk (m:= .bm "set.__contains__" (.r d)) (kP _ _ _ rfl (Heap.get?_push_size _ rfl) rfl rfl ⟨rfl,bO ..⟩) ((I.push _).toks _) (keep_push _ _) hq⟩
noncomputable def WBm(X:Xc)(id:String)(a:Addr)(args:List MV)(st:St)(Q:MV->St->Prop):Prop:=
 ∀φ s vs b o,IF X φ st s->VRs s.heap args vs->s.heap.get? b=EU o->o.cls= .type "builtin_function_or_method" ->o.data= .fields #[.builtin id,.ref a]->E4 X.M X.A (call (.ref b) vs) (Post X φ s Q) NoE s
theorem jP{M:Model}{A:Fb}{s:Shared}{Q:Value->Shared->Prop}{pos:Pos}{b:Addr}{id:String}{v:Value}{o:Obj}{args:List (Bool×Sem Value)}(ha:args.any (·.1)=false)(ocl:o.cls= .type "builtin_function_or_method")(oda:o.data= .fields #[.builtin id,v])
 (h:E4 M A (evalArgs (.ref b) true args []) (λx s₁=>s₁.heap.get? b=EU o∧E4 M A (call (.ref b) x.pos x.kw) Q NoE s₁) NoE s):
 E4 M A (callWith pos (.ref b) [] args []) Q NoE s:=by
 obtain ⟨oc,od,odt,osl⟩:=o;dsimp only at ocl oda;subst ocl oda;unfold callWith;refine EX (wpAny_holding (ab h λx s₁ ⟨ho,hc⟩=>EX (GJ ?_)));rw[ha];refine EX (m:=keeperOf (.ref b)) ?_;unfold keeperOf;refine EX (GQ ho ?_);refine E0 ?_;refine EX (ab hc λr s₂ q=>?_);exact EX (wpAny_holding (wpAny_point (E0 q)))
theorem fc(O:XOk X){x:Str}{p pos:Pos}{es:List Fw}{id:String}{a:Addr}(hl:lk st.ρ x=EU (EU (.bm id (.r a))))(hs:Starless es)(h:WEs X es st λms st₁=>WBm X id a ms st₁ Q):
 WE X (.Call (.Name x p) es [] pos) st Q:=λφ s I=>by
 refine Call_Name rfl ?_;refine ab (gF O hl (Q:=λm st'=>m= .bm id (.r a)∧st'=st) ⟨rfl,rfl⟩ φ s I) λv s₁ pp=>?_;obtain ⟨m,st₁,r,I₁,k,e1,e2⟩:=pp;clear hl I;subst e1 e2;refine go r λb o y z1 z2=>?_;clear r;subst z1;refine xa4 z2 λho hi hc hd ry=>?_;clear z2;cases ((show y= .ref a from ry));refine jP (o:=o) (bM hs) hc hd (bt hs (ab (cr hs h I₁) λvs s₂ ⟨ms,st₂,r₂,I₂,k₂,q⟩=>⟨k₂ b o ho hi,?_⟩));exact ab (q φ s₂ vs b o I₂ r₂ (k₂ b o ho hi) hc hd) λu s₃ z=>z.trans (k.trans k₂)
theorem AK(G:Gd X.C){K:Type}[DecidableEq K]{knd:KeyKind pgm X.C.w K}{d:Addr}{l:List (K×MV)}{k:K}{mk m:MV}(hk:∀h v,VR h mk v->knd.is k v=true)(e:st.σ d=EU (dO knd l))(hq:Q ((bw l k).getD m) st):
 WBm X "dict.get" d [mk,m] st Q:=λφ s us b o I r ho oc od=>by
 refine Cm r λz u e2 e3=>?_;refine ad (kU (I.own e)) λkvs hd hi=>?_;refine gu (qr (I.own e)) λo' ho' h1 h2 h3=>?_;have ns:=G.says.sysNe (I.ge e);refine rY ho oc od (λM A P E h=>ut ho' h1 h3 M A P E h) PySem.F.slot_dict_get PySem.F.entry_dict_get (meets_dict_get_default knd d (hk _ _ e2) ns u) (af _ hd.mapOf ?_);have a:=hi.at (k:=k)
 cases hm:bw l k with
 |none=>
  rw[hm] at a hq;dsimp only at a;rw[a];exact Post.mk e3 (I.toks _) (.refl _) hq
 |some m'=>
  rw[hm] at a hq;refine ad a λv h1 h2=>?_;rw[h1];exact Post.mk h2.vr (I.toks _) (.refl _) hq
theorem eZ{d:Addr}{x:Str}(e:st.σ d=EU fp)(hq:Q (.k (.bool false)) st):WBm X "set.__contains__" d [.s x] st Q:=λφ s us b o I r ho oc od=>by
 refine vT r λt=>?_;refine gU (pU (w:=X.C.w) (I.own e)) λhS o' z1=>?_;refine xa3 z1 λho' h1 h2 h3=>?_;exact rY ho oc od (λM A P E h=>tV ho' h1 h3 M A P E h) PySem.F.slot_set_contains entry_set_contains (iY d x t) ⟨hS,Post.mk (aZ ..) (I.toks _) (.refl _) hq⟩
theorem bQ(O:XOk X){x:Str}{p pos:Pos}{es:List Fw}{T:String}(hf:X.gs.lookup x=EU (.type T))(hs:Starless es)(h:WEs X es st λms st₁=>WC X (.type T) ms st₁ Q):
 WE X (.Call (.Name x p) es [] pos) st Q:=λφ s I=>by
 refine Call_Name rfl ?_;refine ab (de O hf (Q:=λm st'=>m= .k (.type T)∧st'=st) ⟨rfl,rfl⟩ φ s I) λv s₁ pp=>?_;obtain ⟨m,st₁,r,I₁,k,e1,e2⟩:=pp;clear I;subst e1 e2;cases (show v= .type T from r);refine PySem.callWith_type (bM hs) (bt hs (ab (cr hs h I₁) λvs s₂ pp=>?_));obtain ⟨ms,st₂,r₂,I₂,k₂,q⟩:=pp;exact ab (q φ s₂ vs I₂ r₂) λu s₃ z=>z.trans (k.trans k₂)
theorem uu(hq:∀a,st.σ a=none->Q (.r a) ⟨st.σ.put a fp,st.ρ⟩):WC X (.type "set") [] st Q:=λφ s us I r=>by
 unfold VRs at r;subst r;refine call_set_0 λled=>?_;obtain ⟨n,I₂⟩:=I.new (m:=fp) (o:={cls:= .type "set",dict:=none,data:= .set #[] 0 (.fresh 0 0 led)}) (cj _ (Heap.get?_push_size _ rfl) rfl led rfl);exact .mk (bO ..) I₂ (keep_push _ _) (hq _ n)
end
section
variable {X:Xc} {st:St} {φ:Sg}
theorem IF.upd2{s:Shared}(I:IF X φ st s){a b:Addr}{m n m' n':MO}{h':Heap}{t:Nat}(ea:st.σ a=EU m)(eb:st.σ b=EU n)(ne:a≠b)(k:∀c o,c≠a->c≠b->s.heap.get? c=EU o->h'.get? c=EU o)
 (xa:OR h' a m') (xb:OR h' b n'):IF X φ ⟨(st.σ.put a m').put b n',st.ρ⟩ {s with heap:=h',toks:=t}∧Keep s.heap h':=by
 have na:a≠X.env.locals:=λh=>by rw[h,I.no] at ea;cases ea
 have nb:b≠X.env.locals:=λh=>by rw[h,I.no] at eb;cases eb
 have kk:Keep s.heap h':=λc o e im=>by
  refine k c o (λhc=>?_) (λhc=>?_) e
  ·clear ne k xa na;subst hc;refine ad ((I.own ea).notImm) λo' ho' hi'=>?_;rw[e] at ho';cases ho';rw[im] at hi';cases hi'
  ·clear ne k xb nb;subst hc;refine ad ((I.own eb).notImm) λo' ho' hi'=>?_;rw[e] at ho';cases ho';rw[im] at hi';cases hi'
 refine ⟨⟨⟨λc o hc=>k c o (lL I.inv (I.tot ea) hc) (lL I.inv (I.tot eb) hc) (I.inv.old c o hc),λc x hc=>?_,I.inv.gens,I.inv.os⟩,?_,λc x hc=>?_,I.loc⟩,kk⟩
 ·by_cases h1:c=a
  ·clear k;subst h1
   have e:Internal.tot ((st.σ.put c m').put b n') φ X.env.locals st.ρ c=EU m':=by
    unfold Internal.tot;rw[if_neg na];unfold Sg.put;simp[ne]
   rw[show Internal.tot ({σ:=(st.σ.put c m').put b n',ρ:=st.ρ}:St).σ φ X.env.locals _ c=EU m' from e] at hc;cases hc;exact ⟨(I.inv.rep c m (I.tot ea)).1,xa⟩
  ·by_cases h2:c=b
   ·clear ne k;subst h2
    have e:Internal.tot ((st.σ.put a m').put c n') φ X.env.locals st.ρ c=EU n':=by
     unfold Internal.tot;rw[if_neg nb];unfold Sg.put;simp
    rw[show Internal.tot ({σ:=(st.σ.put a m').put c n',ρ:=st.ρ}:St).σ φ X.env.locals _ c=EU n' from e] at hc;cases hc;exact ⟨(I.inv.rep c n (I.tot eb)).1,xb⟩
   ·have e:Internal.tot ((st.σ.put a m').put b n') φ X.env.locals st.ρ c=Internal.tot st.σ φ X.env.locals st.ρ c:=by
     unfold Internal.tot Sg.put;simp[h1,h2]
    rw[show Internal.tot ({σ:=(st.σ.put a m').put b n',ρ:=st.ρ}:St).σ φ X.env.locals _ c=_ from e] at hc;refine xa1 (I.inv.rep c x hc) λz1 z2=>?_;refine ad z2.notImm λo ho _=>?_;exact ⟨z1,z2.keep ((k c o h1 h2 ho).trans ho.symm) kk⟩
 ·show ((st.σ.put a m').put b n') X.env.locals=none;unfold Sg.put;rw[if_neg (E8 nb),if_neg (E8 na)];exact I.no
 ·have hc:((st.σ.put a m').put b n') c=EU x:=hc;unfold Sg.put at hc;by_cases h2:c=b
  ·rw[h2];exact I.dis b n eb
  ·rw[if_neg h2] at hc;by_cases h1:c=a
   ·rw[h1];exact I.dis a m ea
   ·rw[if_neg h1] at hc;exact I.dis c x hc
noncomputable def enO(it:Addr)(i:Nat):MO:= .any λo=>∃old,o={cls:= .type "enumerate",dict:=none,data:= .fields #[.none,.bool false,.ref it,rawInt (i:Int),.none,old],slots:= #[]}
theorem vI{h:Heap}{e it:Addr}{i:Nat}{old:Value}(x:IsEnum h e it (i:Int) old):OR h e (enO it i):=(cj _ x rfl old rfl)
theorem rC{Q:MV->St->Prop}{l:Addr}{vs:List MV}(el:st.σ l=EU (.lst vs))(hq:∀it e,st.σ it=none->st.σ e=none->it≠e->Q (.r e) ⟨(st.σ.put it (.itl l 0)).put e (enO it 0),st.ρ⟩):WC X (.type "enumerate") [.r l] st Q:=λφ s us I r=>by
 refine fS r ?_;refine ad (I.own el) λitems z1 rr=>?_;refine xe1 z1 λn pl=>?_;clear z1;refine call_enumerate_1 pl λh' he hit hz hk=>?_;have I₁:IF X φ st {s with heap:=h',toks:=s.toks}:=I.grow hk s.toks
 have fr:∀b,s.heap.objs.size≤b->Internal.tot st.σ φ X.env.locals st.ρ b=none:=λb hb=>by
  cases e:Internal.tot st.σ φ X.env.locals st.ρ b with
  |none=>rfl
  |some m=>exact absurd (E1 (I.inv.lt e) hb) (FC _)
 refine xa2 (bB (fr s.heap.objs.size (Fe _))) λa1 a2 a3=>?_;refine xa2 (bB (fr (s.heap.objs.size+1) (Nat.le_succ _))) λb1 b2 b3=>?_;have ne:s.heap.objs.size≠s.heap.objs.size+1:=Fi (G9 _);have I₂:=I₁.hide a2 a1 I.inv.sz (m:= .itl l 0) hit;have I₃:=I₂.hide b2 b1 (GP I.inv.sz) (m:=enO s.heap.objs.size 0) (vI he);rw[d8 _ _ _ ne] at I₃;have I₄:=I₃.show_ a2 a1 (by unfold Sg.put;rw[if_neg ne];exact a3);have I₅:=I₄.show_ (by show (st.σ.put _ _) _=none;unfold Sg.put;rw[if_neg (E8 ne)];exact b2) b1 b3;exact .mk (bO ..) I₅ (aB hk) (hq _ _ a2 b2 ne)
inductive EnumP (X:Xc) (target:Fw) (body:List Stmt) (Q:Fl->St->Prop):MV->St->Prop
 |mk {st₁:St} (e it l:Addr) (vs:List MV) (J:Nat->St->Prop) (ne:e≠it) (j:J 0 st₁) (cond:∀i st,J i st->st.σ e=EU (enO it i)∧st.σ it=EU (.itl l i)∧st.σ l=EU (.lst vs))
  (turn:∀J':Nat->St->Prop,(∀i st,J i st->J' i st)->∀i (hi:i<vs.length) st,J i st->WA X target (.t (.type "tuple") [.i (i:Int),vs[i]]) ⟨(st.σ.put e (enO it (i+1))).put it (.itl l (i+1)),st.ρ⟩ λst₂=>WS X body st₂ (FoP J' i Q))
  (fin:∀st,J vs.length st->∀st',(∀a,a≠it->st'.σ a=st.σ a)->st'.ρ=st.ρ->st'.σ it=none->Q .next st'):EnumP X target body Q (.r e) st₁
theorem oW{target iter:Fw}{elts:List Fw}{x1:Nat}{tp:Pos}{body:List Stmt}{pos}{Q:Fl->St->Prop}(O:XOk X)(htg:target= .Tuple elts x1 tp)(hs:∀x,F6 iter X.env x=pure x)
 (h:WE X iter st (EnumP X target body Q)):WS1 X (.For target iter body [] pos) st Q:=λφ s I=>by
 subst htg;refine wpAny_For (ab (h φ s I) λx s₁ p=>?_) hs;obtain ⟨_,st₁,r,I₁,k₁,e,it,l,vs,J,ne,j₁,cond,turn,fin⟩:=p;cases (show x= .ref e from r);refine aV (I₁.own (cond 0 st₁ j₁).1) λoe hoe _ z1=>?_;refine xe1 z1 λold z2=>?_;clear z1;subst z2;refine wpAny_pyIter_enum hoe ?_;refine codeAny_forLoop_any (λn s'=>∃i st',IF X φ st' s'∧Keep s.heap s'.heap∧J i st'∧i≤vs.length∧n=vs.length-i) ?_ vs.length (ij 0 st₁ I₁ k₁ j₁ (FZ _) rfl);intro n s₂ zr1;refine fv zr1 λi st₂ I₂ k₂ j₂ hi hn=>?_;clear zr1;have NE:∀{α:Type} {t:Sem α} {P:α->Shared->Prop} {E:Value->Shared->Prop} {s:Shared},E4 (Fa pgm X.C.w) X.A t P NoE s->E4 (Fa pgm X.C.w) X.A t P E s:=λh=>FE h (λ_ _ x=>x) λ_ _ x=>x.elim;refine xa2 (cond i st₂ j₂) λc1 c2 c3=>?_;refine aV (I₂.own c1) λoe hoe _ z1=>?_;refine xe1 z1 λold z2=>?_;clear z1;subst z2;refine ad (I₂.own c3) λitems pl rr=>?_;have hit:=I₂.own c2;by_cases hlt:i<vs.length
 ·obtain ⟨x,hx,rx⟩:=rr.arr (E2 hlt);refine wpAny_pyNext_enum_item hoe hit pl.isList hx ne λh₁ heo hit₁ ht₁ hz₁ hk₁=>?_;refine wpAny_letOwnedTupleGo_enum heo λh₂ he₂ hs₂=>?_;replace hs₂:Heap.SameBut e h₁ h₂:=hs₂
  have he₂':IsEnum h₂ e it ((i+1:Nat):Int) x:=by
   have:((i+1:Nat):Int)=(i:Int)+1:=by push_cast;rfl
   rw[this];exact he₂
  have itne:it≠e:=E8 ne;have hit₂:h₂.IsListIter it l (i+1):=hit₁.extBut hs₂.extBut itne;refine xa1 (I₂.upd2 (h':=h₂) (t:=s₂.toks+1) (m':=enO it (i+1)) (n':= .itl l (i+1)) c1 c2 ne (λc o n1 n2 ho=>hs₂.extBut c o n1 (hk₁ c o n1 n2 ho)) (vI he₂') hit₂) λI₃ k₃=>?_;have szne:s₂.heap.objs.size≠e:=Nat.ne_of_gt (Heap.lt_size hoe);have tup:h₂.get? s₂.heap.objs.size=EU {cls:= .type "tuple",data:= .seq #[.int (i:Int) s₂.toks,x]}:=(hs₂.2 _ szne).trans ht₁
  have tv:VR h₂ (.t (.type "tuple") [.i (i:Int),vs[i]]) (.ref s₂.heap.objs.size):=
   (fb _ _ (#[.int (i:Int) s₂.toks,x]) 0 rfl tup rfl rfl rfl (.cons (cH ..) (.cons (rx.keep k₃) (.nil _))))
  refine NE (ab (turn J (λ_ _ h=>h) i hlt st₂ j₂ φ _ _ I₃ tv) λ_ s₄ pp=>?_);obtain ⟨st₄,I₄,k₄,q₄⟩:=pp;refine NE (ab (q₄ φ s₄ I₄) λf s₅ pp=>?_);obtain ⟨fl,st₅,rf,I₅,k₅,q₅⟩:=pp;have kt:=k₂.trans (k₃.trans (k₄.trans k₅))
  cases fl with
  |next=>cases (show f= .next from rf);exact (dc (vs.length-(i+1)) (by exact mJ hn hlt) (i+1) ⟨st₅,I₅,kt,q₅,by exact o80 hlt,rfl⟩)
  |cont=>cases (show f= .cont from rf);exact (dc (vs.length-(i+1)) (by exact mJ hn hlt) (i+1) ⟨st₅,I₅,kt,q₅,by exact o80 hlt,rfl⟩)
  |brk=>cases (show f= .brk from rf);exact ⟨.next,st₅,rfl,I₅,kt,q₅⟩
  |ret m=>refine ad rf λv z1 rv=>?_;clear rf;subst z1;exact ⟨.ret m,st₅,(af v rfl rv),I₅,kt,q₅⟩
 ·have hin:i=vs.length:=by exact wp hi hlt
  clear hi hn hlt;subst hin;refine wpAny_pyNext_enum_end O.hh hoe hit pl.isList (by rw[←rr.size];simp) λh₁ ex=>wpAny_execs_nil ?_;have itF:it≠X.env.locals:=λh=>by rw[h,I₂.no] at c2;cases c2
  have hI:IF X (φ.put it (.itl l vs.length)) ⟨st₂.σ.del it,st₂.ρ⟩ s₂:=by
   have q:Internal.tot (st₂.σ.del it) (φ.put it (.itl l vs.length)) X.env.locals st₂.ρ=Internal.tot st₂.σ φ X.env.locals st₂.ρ:=by
    funext b;unfold Sg.put Sg.del Internal.tot;by_cases h1:b=it
    ·clear ne cond turn fin hoe c1 hit ex;subst h1;simp[itF,c2]
    ·simp[h1]
   refine ⟨by show Inv X.C (Internal.tot (st₂.σ.del it) _ _ _) s₂;rw[q];exact I₂.inv,?_,λb n hb=>?_,I₂.loc⟩
   ·show (if X.env.locals=it then none else st₂.σ X.env.locals)=none;rw[if_neg (E8 itF)];exact I₂.no
   ·have hb:(if b=it then none else st₂.σ b)=EU n:=hb;show (if b=it then EU _ else φ b)=none;by_cases h1:b=it
    ·rw[if_pos h1] at hb;cases hb
    ·rw[if_neg h1] at hb⊢;exact I₂.dis b n hb
  refine xa1 (hI.forget (t:=s₂.toks) itF (by show (st₂.σ.del it) it=none;exact if_pos rfl) (I₂.dis it _ c2) ex) λI₃ kk=>?_;exact ⟨.next,_,rfl,I₃,k₂.trans kk,fin st₂ j₂ _ (λa ha=>if_neg ha) rfl (if_pos rfl)⟩
end
section
theorem ift{b:Bool}{A B:Prop}(hb:b=true)(h:A):if b=true then A else B:=by rw[if_pos hb];exact h
theorem aD{b:Bool}{A B:Prop}(hb:b=false)(h:B):if b=true then A else B:=by rw[if_neg (by rw[hb];decide)];exact h
theorem CT{l:List MV}(h:l.length≤1000):l.length≤sizeLine:=by rw[sizeLine_eq];exact o51 h
theorem xK{l:List MV}{B:Prop}(h:Nat.ble l.length 1000=true)(hb:B):l.length≤sizeLine∧B:=⟨CT (Fp h),hb⟩
theorem sE:(MV.k .none).isNone=true:=rfl
theorem Bo{a:Addr}:(MV.r a).isNone=false:=rfl
theorem A2{a:Int}:(MV.i a).isNone=false:=rfl
theorem Bn{a:Str}:(MV.s a).isNone=false:=rfl
theorem zR{c:Value}{a:List MV}:(MV.t c a).isNone=false:=rfl
theorem BU{f:String}{a:MV}:(MV.bm f a).isNone=false:=rfl
theorem Bp{b:Bool}:(MV.k (.bool b)).isNone=false:=rfl
theorem uN{b:Bool}(h:b=false):(!b)=true:=by rw[h];rfl
theorem u9{b:Bool}(h:b=true):(!b)=false:=by rw[h];rfl
theorem sbf{a b:String}(h:decide (a=b)=false):(EW a==EW b)=false:=beq_eq_false_iff_ne.mpr (bV h)
theorem sbt{a:Str}:(a==a)=true:=beq_self_eq_true a
theorem sbnf{a:Str}:(a !=a)=false:=s!"4"
theorem Ec{a b:String}(h:decide (a=b)=false):(EW a !=EW b)=true:=by simp only[bne,sbf h,Bool.not_false]
theorem EH(a:List MV):(!List.isEmpty ([]:List MV))=false:=rfl
theorem exI{a:Int}{Q:Int->Prop}(h:Q a):∃n,MV.i a= .i n∧Q n:=(af a rfl h)
theorem str_length_append(x y:Str):(x++y).length=x.length+y.length:=by
 show (x.cps++y.cps).size=_;rw[Array.size_append];rfl
theorem A5{x:Str}:nk [] x=none:=rfl
theorem mO{l:List (Str×MV)}{n:Nat}(h:l.length+0<n):l.length<n:=h
theorem wm{l:List (Str×MV)}{x:Str}{m:MV}{n k:Nat}(h:l.length+(k+1)<n):(aN l x m).length+k<n:=by have:=kF l x m;exact E3 (Hj this _) (by rw[Nat.add_assoc,G7 1];exact h)
theorem aK{σ:Sg}{a b c d:Addr}{l:List (Str×MV)}(h1:σ a=EU (.ins c d))(h2:σ b=EU (.ns l)):a≠b:=λe=>by subst e;rw[h1] at h2;cases h2
section
variable {X:Xc} {σ:Sg} {ρ:Lo} {Q:MV->St->Prop}
theorem ai(O:XOk X){x:Str}{pos m}(h:lk ρ x=EU (EU m))(hq:Q m ⟨σ,ρ⟩):WE X (.Name x pos) ⟨σ,ρ⟩ Q:=gF O h hq
theorem aJ(O:XOk X){x:Str}{pos m u}{Q:St->Prop}(hl:lk ρ x=EU u)(hq:Q ⟨σ,stL ρ x m⟩):WA X (.Name x pos) m ⟨σ,ρ⟩ Q:=lU O hl hq
theorem o3(N:Kn X){name:Str}{x C dx:Addr}{ns:List (Str×MV)}{m:MV}{names:List Str}
 (e1:σ x=EU (.ins C dx)) (e2:σ dx=EU (.ns ns)) (e3:nk ns name=EU m) (hA:cC (KD X.C.w.params N.dv) C names=true) (hn:names.contains name=true) (hm:m.out) (hq:Q m ⟨σ,ρ⟩):AtR X (.r x) name ⟨σ,ρ⟩ Q:=z0 N e1 e2 e3 hA hn hm hq
theorem pn{N:Kn X}{name:Str}{x C dx:Addr}{ns:List (Str×MV)}{m:MV}{names:List Str}{QU:St->Prop}
 (e1:σ x=EU (.ins C dx)) (e2:σ dx=EU (.ns ns)) (hA:cC (KD X.C.w.params N.dv) C names=true) (hn:names.contains name=true) (hz:ns.length<900) (hq:QU ⟨σ.put dx (.ns (aN ns name m)),ρ⟩):
 dL X N (.r x) name m ⟨σ,ρ⟩ QU:=AS e1 e2 hA hn hz hq
theorem z8{N:Kn X}{name:Str}{x C dx:Addr}{names:List Str}{P:Addr->Addr->Addr->Prop}(e1:σ x=EU (.ins C dx))(hA:cC (KD X.C.w.params N.dv) C names=true)(hn:names.contains name=true)(h:P x C dx):lQ X N (.r x) name ⟨σ,ρ⟩ P:=
 BM e1 hA hn h
theorem dK{N:Kn X}{name:Str}{x C dx:Addr}{ns:List (Str×MV)}{names:List Str}{l:List (Str×Addr)}(f:Addr){es:List Fw}(e1:σ x=EU (.ins C dx))(e2:σ dx=EU (.ns ns))(e3:nk ns name=none)(hA:cC (KD X.C.w.params N.dv) C names=true)(hM:fG (KD X.C.w.params N.dv) C l=true)
 (hn:l.contains (name,f)=true) (hf:∃ob fd,X.C.h0.get? f=EU ob∧ob.data= .func fd)
 (h:WEs X es ⟨σ,ρ⟩ λms st₂=>WC X (.ref f) (.r x::ms) st₂ Q):lC X N (.r x) name es ⟨σ,ρ⟩ Q:=yg f e1 e2 e3 hA hM hn hf h
theorem bx{f:Value}{args:List MV}(h:Ct X.C X.A f args σ λm σ'=>Q m ⟨σ',ρ⟩):WC X f args ⟨σ,ρ⟩ Q:=xG h
theorem Ds{K:Type}[DecidableEq K]{knd:KeyKind pgm X.C.w K}{d:Addr}{l:List (K×MV)}(e:σ d=EU (dO knd l))(hq:Q (.bm "dict.get" (.r d)) ⟨σ,ρ⟩):AtR X (.r d) "get" ⟨σ,ρ⟩ Q:=Aw e hq
theorem uH{d:Addr}(e:σ d=EU fp)(hq:Q (.bm "set.__contains__" (.r d)) ⟨σ,ρ⟩):AtR X (.r d) "__contains__" ⟨σ,ρ⟩ Q:=rd e hq
end
section
variable {X:Xc} {σ:Sg} {ρ:Lo}
noncomputable def EV(X:Xc)(σ:Sg)(ρ:Lo)(e:Fw)(m:MV):Prop:=∀Q:MV->St->Prop,Q m ⟨σ,ρ⟩->WE X e ⟨σ,ρ⟩ Q
noncomputable def EVs(X:Xc)(σ:Sg)(ρ:Lo)(es:List Fw)(ms:List MV):Prop:=∀Q:List MV->St->Prop,Q ms ⟨σ,ρ⟩->WEs X es ⟨σ,ρ⟩ Q
noncomputable def ET(X:Xc)(σ:Sg)(ρ:Lo)(e:Fw)(b:Bool):Prop:=∀QB:Bool->St->Prop,QB b ⟨σ,ρ⟩->WB X e ⟨σ,ρ⟩ QB
noncomputable def O2(X:Xc)(σ:Sg)(ρ:Lo)(f:Value->Value->Sem Value)(a b m:MV):Prop:=∀Q:MV->St->Prop,Q m ⟨σ,ρ⟩->W2 X f a b ⟨σ,ρ⟩ Q
theorem EV.use{e:Fw}{m:MV}{Q:MV->St->Prop}(h:EV X σ ρ e m)(hq:Q m ⟨σ,ρ⟩):WE X e ⟨σ,ρ⟩ Q:=h Q hq
theorem ET.use{e:Fw}{b:Bool}{QB:Bool->St->Prop}(h:ET X σ ρ e b)(hq:QB b ⟨σ,ρ⟩):WB X e ⟨σ,ρ⟩ QB:=h QB hq
theorem EVs.use{es:List Fw}{ms:List MV}{Q:List MV->St->Prop}(h:EVs X σ ρ es ms)(hq:Q ms ⟨σ,ρ⟩):WEs X es ⟨σ,ρ⟩ Q:=h Q hq
theorem y5(O:XOk X){ns:List String}{vs:List (Option MV)}{k:Nat}{x:String}{m:MV}{pos}(hd:ns.Nodup)(hn:gI ns k=EU x)(hv:gI vs k=EU (EU m)):EV X σ (zL ns vs) (.Name (EW x) pos) m:=λ_=>be O hd hn hv
theorem zC(O:XOk X){x:Str}{m:MV}{pos}(h:lk ρ x=EU (EU m)):EV X σ ρ (.Name x pos) m:=λ_=>ai O h
theorem zN{i:Int}{k pos}:EV X σ ρ (.Constant (.int i) k pos) (.i i):=λ_=>aq
theorem zH{i:Str}{k pos}:EV X σ ρ (.Constant (.str i) k pos) (.s i):=λ_=>aI
theorem yw{k pos}:EV X σ ρ (.Constant .none k pos) (.k .none):=λ_=>fJ
theorem yx{b:Bool}{k pos}:EV X σ ρ (.Constant (.bool b) k pos) (.k (.bool b)):=λ_=>eJ
theorem BG{l r:Fw}{op pos}{a b m:MV}(h1:EV X σ ρ l a)(h2:EV X σ ρ r b)(h:O2 X σ ρ (Ha op) a b m):EV X σ ρ (.BinOp l op r pos) m:=λQ hq=>ar (h1 _ (h2 _ (h Q hq)))
theorem BJ{l r:Fw}{op pos}{a b m:MV}(hm:behindInMarks op r=false)(h1:EV X σ ρ l a)(h2:EV X σ ρ r b)(h:O2 X σ ρ (Fx op) a b m):EV X σ ρ (.Compare l [op] [r] pos) m:=λQ hq=>lN hm (h1 _ (h2 _ (h Q hq)))
theorem Bw{e:Fw}{pos}{n:Int}(h:EV X σ ρ e (.i n)):EV X σ ρ (.UnaryOp .USub e pos) (.i (-n)):=λQ hq=>xW (h _ (xD hq))
theorem ye{o:Fw}{name:Str}{pos}{a m:MV}(hb:F7 o name X.env (eval o X.env)=eval o X.env)(h:EV X σ ρ o a)(ha:∀Q:MV->St->Prop,Q m ⟨σ,ρ⟩->AtR X a name ⟨σ,ρ⟩ Q):EV X σ ρ (.Attribute o name pos) m:=λQ hq=>bh hb (h _ (ha Q hq))
theorem ya:EVs X σ ρ [] []:=λ_=>ag
theorem vU{e:Fw}{es:List Fw}{m:MV}{ms:List MV}(h:EV X σ ρ e m)(hs:EVs X σ ρ es ms):EVs X σ ρ (e::es) (m::ms):=λ_ hq=>ac (h _ (hs _ hq))
theorem vV{es:List Fw}{k pos}{ms:List MV}(hs:Starless es)(h:EVs X σ ρ es ms)(hz:Nat.ble ms.length 1000=true):EV X σ ρ (.Tuple es k pos) (.t (.type "tuple") ms):=λQ hq=>cW hs (h _ (xK hz hq))
theorem CE{x y:Int}:O2 X σ ρ (Ha .Add) (.i x) (.i y) (.i (x+y)):=λ_=>c0
theorem Cw{x y:Int}:O2 X σ ρ (Ha .Sub) (.i x) (.i y) (.i (x-y)):=λ_=>fa
theorem Dp{x y:Int}:O2 X σ ρ (Fx .Lt) (.i x) (.i y) (.k (.bool (decide (x<y)))):=λ_=>gV
theorem EA{x y:Int}:O2 X σ ρ (Fx .Gt) (.i x) (.i y) (.k (.bool (decide (y<x)))):=λ_=>hN
theorem Ey{x y:Int}:O2 X σ ρ (Fx .LtE) (.i x) (.i y) (.k (.bool (decide (x≤y)))):=λ_=>zV
theorem DB{x y:Int}:O2 X σ ρ (Fx .GtE) (.i x) (.i y) (.k (.bool (decide (y≤x)))):=λ_=>sH
theorem Ej{x y:Int}:O2 X σ ρ (Fx .Eq) (.i x) (.i y) (.k (.bool (x==y))):=λ_=>jZ
theorem ES{x y:Int}:O2 X σ ρ (Fx .NotEq) (.i x) (.i y) (.k (.bool (x !=y))):=λ_=>s4
theorem CP{x y:Str}:O2 X σ ρ (Fx .Eq) (.s x) (.s y) (.k (.bool (x==y))):=λ_=>oM
theorem CZ{x y:Str}:O2 X σ ρ (Fx .NotEq) (.s x) (.s y) (.k (.bool (x !=y))):=λ_=>tP
theorem CW{x y:Str}:O2 X σ ρ (Fx .In) (.s x) (.s y) (.k (.bool (Fc y x))):=λ_=>tF
theorem By{x y:Str}:O2 X σ ρ (Fx .NotIn) (.s x) (.s y) (.k (.bool (!Txt.contains y x))):=λ_=>vv
theorem DZ{m:MV}:O2 X σ ρ (Fx .Is) m (.k .none) (.k (.bool m.isNone)):=λ_=>oS
theorem Da{m:MV}:O2 X σ ρ (Fx .IsNot) m (.k .none) (.k (.bool (!m.isNone))):=λ_=>eY
theorem Bm{l r:Fw}{op pos}{a b:MV}{c:Bool}(hm:behindInMarks op r=false)(h1:EV X σ ρ l a)(h2:EV X σ ρ r b)(h:O2 X σ ρ (Fx op) a b (.k (.bool c))):ET X σ ρ (.Compare l [op] [r] pos) c:=λQ hq=>aC hm (h1 _ (h2 _ (h _ (ay hq))))
theorem A9{e:Fw}{pos}{b:Bool}(h:ET X σ ρ e b):ET X σ ρ (.UnaryOp .Not e pos) (!b):=λQ hq=>gH (h _ hq)
theorem w8{e:Fw}{m:MV}{b:Bool}(h:EV X σ ρ e m)(he:isTrue e X.env (eval e X.env)=(do let v←eval e X.env;standAt e.pos;holding [v] (truthy v)))(ht:∀QB:Bool->St->Prop,QB b ⟨σ,ρ⟩->WT X m ⟨σ,ρ⟩ QB):ET X σ ρ e b:=λQ hq=>bZ he (h _ (ht _ hq))
theorem Bx(O:XOk X){ns:List String}{vs:List (Option MV)}{k:Nat}{x:String}{m:MV}{u:Option MV}{e:Fw}{p pos:Pos}{rest:List Stmt}{Q:Fl->St->Prop}(h:EV X σ (zL ns vs) e m)(hd:ns.Nodup)(hn:gI ns k=EU x)(hv:gI vs k=EU u)
 (hs:swapsWithSole [.Name (EW x) p] e pos.line X.env=pure false) (hw:Ht [.Name (EW x) p] e X.env=pure none) (hq:WS X rest ⟨σ,zL ns (sI vs k (EU m))⟩ Q):WS X (.Assign [.Name (EW x) p] e pos::rest) ⟨σ,zL ns vs⟩ Q:=
 aa (ah hs hw trivial (h _ (cG O hd hn hv hq)))
theorem Aa{e:Fw}{m:MV}{pos:Pos}{rest:List Stmt}{Q:Fl->St->Prop}(h:EV X σ ρ e m)(hq:Q (.ret m) ⟨σ,ρ⟩):WS X (.Return (EU e) pos::rest) ⟨σ,ρ⟩ Q:=aa (bd (h _ hq))
theorem Cf{test:Fw}{body orelse rest:List Stmt}{pos:Pos}{b:Bool}{Q:Fl->St->Prop}(h:ET X σ ρ test b)(hq:if b=true then WS X body ⟨σ,ρ⟩ (fo X rest Q) else WS X orelse ⟨σ,ρ⟩ (fo X rest Q)):WS X (.If test body orelse pos::rest) ⟨σ,ρ⟩ Q:=aa (bl (h _ hq))
end
theorem hWS{X:Xc}{x:List Stmt}{st:St}{Q:Fl->St->Prop}(h:WS X x st Q):WS X x st Q:=h
theorem Ei{X:Xc}{x:Stmt}{st:St}{Q:Fl->St->Prop}(h:WS1 X x st Q):WS1 X x st Q:=h
theorem hTh{X:Xc}{x:List Stmt}{f:Fl}{st:St}{Q:Fl->St->Prop}(h:fo X x Q f st):fo X x Q f st:=h
theorem hIf{b:Bool}{A B:Prop}(h:if b=true then A else B):if b=true then A else B:=h
theorem hWE{X:Xc}{e:Fw}{st:St}{Q:MV->St->Prop}(h:WE X e st Q):WE X e st Q:=h
theorem hAt{X:Xc}{a:MV}{n:Str}{st:St}{Q:MV->St->Prop}(h:AtR X a n st Q):AtR X a n st Q:=h
theorem Dk{X:Xc}{N:Kn X}{a m:MV}{n:Str}{st:St}{Q:St->Prop}(h:dL X N a n m st Q):dL X N a n m st Q:=h
theorem hWA{X:Xc}{e:Fw}{m:MV}{st:St}{Q:St->Prop}(h:WA X e m st Q):WA X e m st Q:=h
theorem hWB{X:Xc}{e:Fw}{st:St}{Q:Bool->St->Prop}(h:WB X e st Q):WB X e st Q:=h
theorem hWT{X:Xc}{e:MV}{st:St}{Q:Bool->St->Prop}(h:WT X e st Q):WT X e st Q:=h
theorem hW2{X:Xc}{f:Value->Value->Sem Value}{a b:MV}{st:St}{Q:MV->St->Prop}(h:W2 X f a b st Q):W2 X f a b st Q:=h
theorem hWC{X:Xc}{f:Value}{a:List MV}{st:St}{Q:MV->St->Prop}(h:WC X f a st Q):WC X f a st Q:=h
theorem hNm{X:Xc}{x:Str}{pos:Pos}{st:St}{Q:MV->St->Prop}(h:WE X (.Name x pos) st Q):WE X (.Name x pos) st Q:=h
theorem hWN{X:Xc}{x:Str}{pos:Pos}{m:MV}{st:St}{Q:St->Prop}(h:WA X (.Name x pos) m st Q):WA X (.Name x pos) m st Q:=h
end
section
local macro_rules | `(tactic|specialize $s:str)=>wk wA s
local macro_rules | `(tactic|walk_at $s:str)=> `(tactic|specialize $s:str)
section
variable {C:Cx}
noncomputable def sq1(ns:List (Str×MV))(la:Addr):=aN (aN (aN ns "a" (.r la)) "matching_blocks" (.k .none)) "opcodes" (.k .none)
noncomputable def dU:List String:=["self","a"]
theorem kh:dU.Nodup:=s!"1"
set_option maxHeartbeats 4000000 in
theorem pS(G:Gd C){A:Fb}{k:Nat}(R:Rm (k+1) A){x dx la:Addr}{ns:List (Str×MV)}{σ:Sg}(e1:σ x=EU (.ins 260 dx))(e2:σ dx=EU (.ns ns))(ha:nk ns "a" =EU (.k .none))(hz:ns.length<100):
 CtA C A (.ref 192) [.r x,.r la] [] σ λm σ'=>m= .k .none∧σ'=σ.put dx (.ns (sq1 ns la)):=by
 refine aW G R (a:=192) (c:=191) (x:=aH 6 3) (n:="set_seq1") (q:="SequenceMatcher.set_seq1") (d:= .none) (pm:=(.str "cpy313.difflib" 286)) (an:=none) (t:=521)
  (ps:=(["self","a"]:List Str).zip [.r x,.r la]) s!"k" s!"k" s!"k" s!"k" [] s!"k" (λv=>(aX rfl s!"k" s!"1" (bk λa0=>bk λa1=>cK s!"k")).a) (ρ:=zL dU [EU (.r x),EU (.r la)]) s!"k" λQf hQf X hC O R' hin hg hE=>?_
 subst hC
 have N:=kn G
 have hd:=kh
 have i_self:gI dU 0=EU "self" :=rfl
 have i_a:gI dU 1=EU "a" :=rfl
 clear hg hE
 conv=>arg 2;whnf
 refine aa (aA hin s!"2" (aI ⟨trivial,?_⟩))
 have nxd:=aK e1 e2
 repeat walk_at "s"
 exact ⟨rfl,(congrArg (λz=>Sg.put z dx _) (cE ..)).trans (cE ..)⟩
end
noncomputable def bC(ws:List Str)(x:Str):List Nat:=(ws.zipIdx.filter λp=>p.1=x).map (·.2)
noncomputable def iL(l:List Nat):List MV:=l.map λ(i:Nat)=> .i (i:Int)
theorem gf(ws:List Str)(y x:Str):bC (ws++[y]) x=bC ws x++if y=x then [ws.length] else []:=by
 unfold bC;rw[List.zipIdx_append,List.filter_append,Ff];by_cases h:y=x<;>simp[h]
theorem m7{ws:List Str}{x:Str}(h:x∉ws):bC ws x=[]:=by
 unfold bC;rw[List.map_eq_nil_iff,List.filter_eq_nil_iff];intro p hp;have:=List.fst_mem_of_mem_zipIdx hp;simp only[decide_eq_true_eq];intro e;subst e;exact h this
noncomputable def Ix(w:FL)(σ:Sg)(d:Addr)(F:Addr->Prop)(ws:List Str)(n:Nat):Prop:=∃l:List (Str×MV),σ d=EU (dO (strKind pgm w) l)∧l.length≤n∧
 (∀x m,bw l x=EU m->∃a,m= .r a∧F a∧x∈ws.take n∧σ a=EU (.lst (iL (bC (ws.take n) x))))∧(∀x,x∈ws.take n->∃a,bw l x=EU (.r a))∧∀x y a,bw l x=EU (.r a)->bw l y=EU (.r a)->x=y
theorem hV{K:Type}[DecidableEq K](l:List (K×MV))(k j:K)(m:MV):bw (cJ l k m) j=if j=k then EU m else bw l j:=by
 unfold bw cJ;by_cases h:l.any (λp=>decide (p.1=k))=true
 ·rw[if_pos h];by_cases hj:j=k
  ·subst hj;rw[if_pos rfl]
   induction l with
   |nil=>simp at h
   |cons p l ih=>
    by_cases hp:p.1=j
    ·simp[hp]
    ·have h':l.any (λp=>decide (p.1=j))=true:=by simpa[hp] using h
     have:=ih h';simpa[hp] using this
  ·rw[if_neg hj];clear h
   induction l with
   |nil=>rfl
   |cons p l ih=>
    by_cases hp:p.1=k
    ·have:¬k=j:=λe=>hj e.symm;simp only[FW,hp,if_true];simpa[this,hp] using ih
    ·by_cases hq:p.1=j
     ·simp[hp,hq,hj]
     ·simpa[hp,hq] using ih
 ·rw[if_neg h]
  have hn:l.find? (λp=>decide (p.1=k))=none:=by
   rw[List.find?_eq_none];intro p hp hq;exact h (List.any_eq_true.mpr (af p hp hq))
  rw[List.find?_append];by_cases hj:j=k
  ·clear h;subst hj;rw[hn,if_pos rfl];simp
  ·rw[if_neg hj];have:¬k=j:=λe=>hj e.symm;cases hf:l.find? (λp=>decide (p.1=j))<;>simp[this]
theorem vG{K:Type}[DecidableEq K](l:List (K×MV))(k:K)(m:MV):(cJ l k m).length≤l.length+1:=by
 unfold cJ;split<;>simp
theorem mS{α:Type}(l:List α)(n:Nat)(h:n<l.length):l.take (n+1)=l.take n++[l[n]]:=by rw[List.take_add_one,E2 h];rfl
theorem Ix.old{w:FL}{σ:Sg}{d a0 a:Addr}{F:Addr->Prop}{ws:List Str}{n:Nat}{l:List (Str×MV)}(h:n<ws.length)(hd:σ d=EU (dO (strKind pgm w) l))(hl:l.length≤n)
 (h1:∀x m,bw l x=EU m->∃a,m= .r a∧F a∧x∈ws.take n∧σ a=EU (.lst (iL (bC (ws.take n) x)))) (h2:∀x,x∈ws.take n->∃a,bw l x=EU (.r a)) (h3:∀x y a,bw l x=EU (.r a)->bw l y=EU (.r a)->x=y)
 (hx:bw l ws[n]=EU (.r a)) (n0:σ a0=none) (hda:d≠a):Ix w ((σ.put a0 (.lst [])).put a (.lst (iL (bC (ws.take n) ws[n])++[.i (n:Int)]))) d F ws (n+1):=by
 have tk:=mS ws n h;have len:(ws.take n).length=n:=by simp;exact AY h
 refine (gv l ?_ (by exact o37 hl) (λx m hm=>?_) (λx hx'=>?_) h3)
 ·rw[Sg.put_ne _ _ hda,Sg.put_ne _ _ (λe=>by subst e;rw[n0] at hd;cases hd)];exact hd
 ·refine ad (h1 x m hm) λb z1 z2=>?_;subst z1;refine xa2 z2 λhF hmem hb=>?_;clear z2;refine (cI b rfl hF (by rw[tk];exact GK _ hmem) ?_);by_cases e:x=ws[n]
  ·clear hmem;subst e;rw[hx] at hm;clear hF hb;cases hm;rw[Sg.put_same,tk,gf,if_pos rfl,len];simp[iL]
  ·have nb:b≠a:=λq=>by clear hda;subst q;exact e (h3 _ _ _ hm hx)
   rw[Sg.put_ne _ _ nb,Sg.put_ne _ _ (λq=>by subst q;rw[n0] at hb;cases hb),hb,tk,gf,if_neg (λq=>e q.symm),Hh]
 ·rw[tk] at hx';rcases F3.mp hx' with q|q
  ·exact h2 x q
  ·rw[FX.mp q];exact ⟨a,hx⟩
theorem Ix.new{w:FL}{σ:Sg}{d a0:Addr}{F:Addr->Prop}{ws:List Str}{n:Nat}{l:List (Str×MV)}(h:n<ws.length)(hd:σ d=EU (dO (strKind pgm w) l))(hl:l.length≤n)
 (h1:∀x m,bw l x=EU m->∃a,m= .r a∧F a∧x∈ws.take n∧σ a=EU (.lst (iL (bC (ws.take n) x)))) (h2:∀x,x∈ws.take n->∃a,bw l x=EU (.r a)) (h3:∀x y a,bw l x=EU (.r a)->bw l y=EU (.r a)->x=y)
 (hx:bw l ws[n]=none) (n0:σ a0=none) (hF0:F a0):Ix w (((σ.put a0 (.lst [])).put d (dO (strKind pgm w) (cJ l ws[n] (.r a0)))).put a0 (.lst ([]++[.i (n:Int)]))) d F ws (n+1):=by
 have tk:=mS ws n h;have len:(ws.take n).length=n:=by simp;exact AY h
 have da:d≠a0:=λe=>by clear hF0;subst e;rw[n0] at hd;cases hd
 have fresh:∀x,bw l x≠EU (.r a0):=λx e=>by
  refine gu (h1 x _ e) λb hb _ _ hb'=>?_;cases hb;rw[n0] at hb';cases hb'
 have notin:ws[n]∉ws.take n:=λhm=>by obtain ⟨b,hb⟩:=h2 _ hm;rw[hx] at hb;cases hb
 refine (gv (cJ l ws[n] (.r a0)) ?_ (by have:=vG l ws[n] (.r a0);exact EY this (FH hl)) (λx m hm=>?_) (λx hx'=>?_) (λx y b hx' hy=>?_))
 ·rw[Sg.put_ne _ _ da,Sg.put_same]
 ·rw[hV] at hm;by_cases e:x=ws[n]
  ·subst e;rw[if_pos rfl] at hm;cases hm;refine (cI a0 rfl hF0 (by rw[tk];exact GA _ (FX.mpr rfl)) ?_);rw[Sg.put_same,tk,gf,if_pos rfl,len,m7 notin];rfl
  ·rw[if_neg e] at hm;refine ad (h1 x m hm) λb z1 z2=>?_;subst z1;refine xa2 z2 λhF hmem hb=>?_;clear z2;refine (cI b rfl hF (by rw[tk];exact GK _ hmem) ?_);have nb:b≠a0:=λq=>by clear n0 hF0 da;subst q;exact fresh x hm
   have nd:b≠d:=λq=>by clear da;subst q;rw[hd] at hb;cases hb
   rw[Sg.put_ne _ _ nb,Sg.put_ne _ _ nd,Sg.put_ne _ _ nb,hb,tk,gf,if_neg (λq=>e q.symm),Hh]
 ·rw[tk] at hx';rw[hV];by_cases e:x=ws[n]
  ·exact ⟨a0,if_pos e⟩
  ·rw[if_neg e];rcases F3.mp hx' with q|q
   ·exact h2 x q
   ·exact absurd (FX.mp q) e
 ·rw[hV] at hx' hy;by_cases e:x=ws[n]
  ·by_cases e':y=ws[n]
   ·rw[e,e']
   ·rw[if_pos e] at hx';rw[if_neg e'] at hy;cases hx';exact absurd hy (fresh y)
  ·rw[if_neg e] at hx';by_cases e':y=ws[n]
   ·rw[if_pos e'] at hy;cases hy;exact absurd hx' (fresh x)
   ·rw[if_neg e'] at hy;exact h3 x y b hx' hy
theorem mP{X:Xc}{st:St}{K:Type}[DecidableEq K]{knd:KeyKind pgm X.C.w K}{d:Addr}{l:List (K×MV)}(e:st.σ d=EU (dO knd l)):pG X (.r d) st "dict" :=λφ s v I r=>by
 cases (show v= .ref d from r);refine gu (qr (I.own e)) λo ho h1 h2 h3=>?_;exact ⟨(af o ho h1),λb hb=>by cases hb;exact (af o ho h2)⟩
section
variable {C:Cx}
theorem wa(ws:List Str)(x:Str):(bC ws x).length≤ws.length:=by
 unfold bC;rw[EZ];exact EY (GS _ _) s!"4"
theorem Ix.frame{w:FL}{σ σ':Sg}{d:Addr}{F:Addr->Prop}{ws:List Str}{n:Nat}(h:Ix w σ d F ws n)(hd:σ' d=σ d)(hF:∀a m,F a->σ a=EU m->σ' a=EU m):Ix w σ' d F ws n:=by
 refine fy h λl a b c e f=>?_;refine (gv l (hd.trans a) b (λx m hm=>?_) e f);refine gu (c x m hm) λy h1 h2 h3 h4=>?_;exact (cI y h1 h2 h3 (hF y _ h2 h4))
structure Chained (w:FL) (σ:Sg) (dx lb:Addr) (ns:List (Str×MV)) (ws:List Str) (σ':Sg):Prop where
 ex:∃d js jp F,σ' dx=EU (.ns (aN (aN (aN ns "b2j" (.r d)) "bjunk" (.r js)) "bpopular" (.r jp)))∧Ix w σ' d F ws ws.length∧σ' js=EU fp
 keep:∀b m,b≠dx->σ b=EU m->σ' b=EU m
structure CJ (w:FL) (σ1:Sg) (e it lb d:Addr) (F:Addr->Prop) (ws:List Str) (i:Nat) (σ:Sg):Prop where
 c1:σ e=EU (enO it i)
 c2:σ it=EU (.itl lb i)
 ix:Ix w σ d F ws i
 old:∀b m,b≠d->σ1 b=EU m->σ b=EU m
noncomputable def ba:List String:=["self","b","b2j","i","elt","indices","junk","isjunk","popular","n","ntest","idxs"]
theorem n6:ba.Nodup:=s!"1"
set_option maxHeartbeats 4000000 in
theorem vL(G:Gd C){A:Fb}{k:Nat}(R:Rm (k+1) A){x dx lb:Addr}{ns:List (Str×MV)}{ws:List Str}{σ:Sg}(e1:σ x=EU (.ins 260 dx))(e2:σ dx=EU (.ns ns))(hz:ns.length<100)(eb:nk ns "b" =EU (.r lb))(elb:σ lb=EU (.lst (ws.map .s)))(ej:nk ns "isjunk" =EU (.k .none))(ea:nk ns "autojunk" =EU (.k (.bool true)))(hw:ws.length<200):
 CtA C A (.ref 206) [.r x] [] σ λm σ'=>m= .k .none∧Chained C.w σ dx lb ns ws σ':=by
 refine aW G R (a:=206) (c:=205) (x:=aH 6 5) (n:="__chain_b") (q:="SequenceMatcher.__chain_b") (d:= .none) (pm:=(.str "cpy313.difflib" 286)) (an:=none) (t:=539)
  (ps:=(["self"]:List Str).zip [.r x]) s!"k" s!"k" s!"k" s!"k" [("enumerate",.type "enumerate"),("set",.type "set"),("len",.builtin "len")] s!"k" (λv=>(aX rfl s!"k" s!"1" (bk λa0=>cK s!"k")).a) (ρ:=zL ba [EU (.r x),none,none,none,none,none,none,none,none,none,none,none]) s!"k" λQf hQf X hC O R' hin hg hE=>?_
 subst hC
 have N:=kn G
 have hd:=n6
 have i_self:gI ba 0=EU "self" :=rfl
 have i_b:gI ba 1=EU "b" :=rfl
 have i_b2j:gI ba 2=EU "b2j" :=rfl
 have i_i:gI ba 3=EU "i" :=rfl
 have i_elt:gI ba 4=EU "elt" :=rfl
 have i_indices:gI ba 5=EU "indices" :=rfl
 have i_junk:gI ba 6=EU "junk" :=rfl
 have i_isjunk:gI ba 7=EU "isjunk" :=rfl
 have i_popular:gI ba 8=EU "popular" :=rfl
 have i_n:gI ba 9=EU "n" :=rfl
 have i_ntest:gI ba 10=EU "ntest" :=rfl
 have i_idxs:gI ba 11=EU "idxs" :=rfl
 have g_enumerate:X.gs.lookup (EW "enumerate")=EU (.type "enumerate" :Value):=hg▸s!"k"
 have g_set:X.gs.lookup (EW "set")=EU (.type "set" :Value):=hg▸s!"k"
 have g_len:X.gs.lookup (EW "len")=EU (.builtin "len" :Value):=hg▸s!"k"
 clear hg hE
 conv=>arg 2;whnf
 have nxd:=aK e1 e2
 repeat walk_at "s"
 refine ky (strKind pgm X.C.w) λd nd=>?_
 have dd:dx≠d:=aj nd e2
 have dxx:x≠d:=aj nd e1
 have db:lb≠d:=aj nd elb
 have bdx:lb≠dx:=λh=>by clear e1 hQf nxd dd;subst h;rw[elb] at e2;cases e2
 repeat walk_at "s"
 dsimp only
 have s_x:((σ.put d (dO (strKind pgm X.C.w) [])).put dx (.ns (aN ns "b2j" (.r d)))) x=EU (.ins 260 dx):=s!"sg"
 have s_dx:((σ.put d (dO (strKind pgm X.C.w) [])).put dx (.ns (aN ns "b2j" (.r d)))) dx=EU (.ns (aN ns "b2j" (.r d))):=s!"sg"
 have s_d:((σ.put d (dO (strKind pgm X.C.w) [])).put dx (.ns (aN ns "b2j" (.r d)))) d=EU (dO (strKind pgm X.C.w) []):=s!"sg"
 have s_lb:((σ.put d (dO (strKind pgm X.C.w) [])).put dx (.ns (aN ns "b2j" (.r d)))) lb=EU (.lst (ws.map .s)):=s!"sg"
 have s_old:∀b m,b≠dx->σ b=EU m->((σ.put d (dO (strKind pgm X.C.w) [])).put dx (.ns (aN ns "b2j" (.r d)))) b=EU m:=λb m nb hb=>by
  rw[Sg.put_ne _ _ nb,Sg.put_ne _ _ (aj nd hb)];exact hb
 generalize (σ.put d (dO (strKind pgm X.C.w) [])).put dx (.ns (aN ns "b2j" (.r d)))=σ1 at s_x s_dx s_d s_lb s_old⊢
 refine oW O rfl (λ_=>s!"2") (bQ O g_enumerate trivial (ac (be O hd ‹_› rfl (ag (rC (st:=⟨σ1,_⟩) s_lb λit e n1 n2 nie=>?_)))))
 have d_it:d≠it:=aj n1 s_d
 have d_e:d≠e:=aj n2 s_d
 let F:Addr->Prop:=λa=>σ1 a=none∧a≠e∧a≠it
 refine ⟨e,it,lb,ws.map .s,λi=>Az ba (λu:Option MV×Option MV×Option MV=>[EU (.r x),EU (.r lb),EU (.r d),u.1,u.2.1,u.2.2,none,none,none,none,none,none]) λ_=>CJ X.C.w σ1 e it lb d F ws i,E8 nie,?_,?_,?_,?_⟩
 ·refine .mk (none,none,none) ⟨Sg.put_same ..,(Sg.put_ne _ _ nie).trans (Sg.put_same ..),(gv ([]) ?_ s!"4" (λx m hm=>by simp[bw] at hm) (λx hx=>by simp at hx) (λx y a hx=>by simp[bw] at hx)),λb m nb hb=>?_⟩
  ·exact (Sg.put_ne _ _ d_e).trans ((Sg.put_ne _ _ d_it).trans s_d)
  ·exact (Sg.put_ne _ _ (aj n2 hb)).trans ((Sg.put_ne _ _ (aj n1 hb)).trans hb)
 ·rintro i _ ⟨_,h⟩
  exact (ia2 h.c1 h.c2 (h.old lb _ db s_lb))
 ·rintro J hJ i hi _ ⟨u,h⟩
  rename_i σ2
  have hi':i<ws.length:=EZ MV.s▸hi
  rw[F9]
  dsimp only
  have a3':Ix X.C.w ((σ2.put e (enO it (i+1))).put it (.itl lb (i+1))) d F ws i:=h.ix.frame ((Sg.put_ne _ _ d_it).trans (Sg.put_ne _ _ d_e)) λa m hF hm=>(Sg.put_ne _ _ hF.2.2).trans ((Sg.put_ne _ _ hF.2.1).trans hm)
  have c1:((σ2.put e (enO it (i+1))).put it (.itl lb (i+1))) e=EU (enO it (i+1)):=(Sg.put_ne _ _ (E8 nie)).trans (Sg.put_same ..)
  have c2:((σ2.put e (enO it (i+1))).put it (.itl lb (i+1))) it=EU (.itl lb (i+1)):=Sg.put_same ..
  have c4:∀b m,b≠d->σ1 b=EU m->((σ2.put e (enO it (i+1))).put it (.itl lb (i+1))) b=EU m:=λb m nb hb=>
   (Sg.put_ne _ _ (aj n1 hb)).trans ((Sg.put_ne _ _ (aj n2 hb)).trans (h.old b m nb hb))
  generalize (σ2.put e (enO it (i+1))).put it (.itl lb (i+1))=σ3 at a3' c1 c2 c4⊢
  clear h
  refine iI O trivial rfl (bY (cG O hd ‹_› rfl (bY (cG O hd ‹_› rfl (fE ?_)))))
  refine fy a3' λl q1 q2 q3 q4 q5=>?_;clear a3'
  refine aa (ah s!"2" s!"2" trivial (bp (T:="dict") (id:="dict.setdefault") trivial s!"2" s!"d" s!"2" PySem.F.plainAttrs_dict PySem.F.slot_dict_setdefault PySem.F.type_dict_setdefault
   (be O hd ‹_› rfl ⟨mP q1,ac (be O hd ‹_› rfl (ac (ca trivial (ag ⟨s!"4",λa0 n0=>ag ?_⟩))))⟩)))
  have d_a0:d≠a0:=aj n0 q1
  have hF0:F a0:=by
   refine (ia2 ?_ (λh=>?_) (λh=>?_))
   ·cases hh:σ1 a0 with
    |none=>rfl
    |some m=>have:=c4 a0 m (E8 d_a0) hh;rw[show σ3 a0=none from n0] at this;cases this
   ·clear n2 nie d_e hJ q3;subst h;rw[show σ3 a0=none from n0] at c1;cases c1
   ·clear n1 nie d_it hJ c1 q3;subst h;rw[show σ3 a0=none from n0] at c2;cases c2
  cases hm:bw l ws[i] with
  |some m=>
   refine ad (q3 _ _ hm) λa z1 z2=>?_;subst z1;refine xa2 z2 λhFa hmem ha=>?_;clear z2
   have a_a0:a≠a0:=aj n0 ha
   have d_a:d≠a:=λh=>by clear hm hFa a_a0;subst h;rw[q1] at ha;cases ha
   refine jf (K:=Str) G (k:=ws[i]) qi (l:=l) (show (σ3.put a0 _) d=_ by rw[Sg.put_ne _ _ d_a0];exact q1) trivial (by rw[sizeLine_eq];exact AI hw hi' q2) ?_
   rw[hm]
   dsimp only
   refine cG O hd ‹_› rfl ?_
   have ea':(σ3.put a0 (.lst [])) a=EU (.lst (iL (bC (ws.take i) ws[i]))):=by rw[Sg.put_ne _ _ a_a0];exact ha
   refine aa (aA hin s!"2" (bp (T:="list") (id:="list.append") trivial s!"2" s!"d" s!"2" Fz Gx Gy
    (be O hd ‹_› rfl ⟨bJ ea',ac (be O hd ‹_› rfl (ag (fN (st:=⟨_,_⟩) ea' ?_ ⟨trivial,?_⟩)))⟩)))
   ·have:=wa (ws.take i) ws[i]
    have h2:(ws.take i).length≤i:=by rw[List.length_take];exact o0
    rw[sizeLine_eq];simp only[iL,EZ];exact nTL (Fs (E3 (EY this h2) hi') hw) rfl
   ·refine ak (hJ _ _ (.mk (_,_,_) ⟨?_,?_,?_,λb m nb hb=>?_⟩))
    ·show ((σ3.put a0 _).put a _) e=_
     rw[Sg.put_ne _ _ (E8 hFa.2.1),Sg.put_ne _ _ (E8 hF0.2.1)];exact c1
    ·show ((σ3.put a0 _).put a _) it=_
     rw[Sg.put_ne _ _ (E8 hFa.2.2),Sg.put_ne _ _ (E8 hF0.2.2)];exact c2
    ·exact Ix.old hi' q1 q2 q3 q4 q5 hm n0 d_a
    ·show ((σ3.put a0 _).put a _) b=_
     rw[Sg.put_ne _ _ (aj hFa.1 hb),Sg.put_ne _ _ (aj hF0.1 hb)];exact c4 b m nb hb
  |none=>
   refine jf (K:=Str) G (k:=ws[i]) qi (l:=l) (show (σ3.put a0 _) d=_ by rw[Sg.put_ne _ _ d_a0];exact q1) trivial (by rw[sizeLine_eq];exact AI hw hi' q2) ?_
   rw[hm]
   dsimp only
   refine cG O hd ‹_› rfl ?_
   have ea':((σ3.put a0 (.lst [])).put d (dO (strKind pgm X.C.w) (cJ l ws[i] (.r a0)))) a0=EU (.lst []):=by rw[Sg.put_ne _ _ (E8 d_a0),Sg.put_same]
   refine aa (aA hin s!"2" (bp (T:="list") (id:="list.append") trivial s!"2" s!"d" s!"2" Fz Gx Gy
    (be O hd ‹_› rfl ⟨bJ ea',ac (be O hd ‹_› rfl (ag (fN (st:=⟨_,_⟩) ea' s!"4" ⟨trivial,?_⟩)))⟩)))
   refine ak (hJ _ _ (.mk (_,_,_) ⟨?_,?_,?_,λb m nb hb=>?_⟩))
   ·show (((σ3.put a0 _).put d _).put a0 _) e=_
    rw[Sg.put_ne _ _ (E8 hF0.2.1),Sg.put_ne _ _ (E8 d_e),Sg.put_ne _ _ (E8 hF0.2.1)];exact c1
   ·show (((σ3.put a0 _).put d _).put a0 _) it=_
    rw[Sg.put_ne _ _ (E8 hF0.2.2),Sg.put_ne _ _ (E8 d_it),Sg.put_ne _ _ (E8 hF0.2.2)];exact c2
   ·exact Ix.new hi' q1 q2 q3 q4 q5 hm n0 hF0
   ·show (((σ3.put a0 _).put d _).put a0 _) b=_
    rw[Sg.put_ne _ _ (aj hF0.1 hb),Sg.put_ne _ _ nb,Sg.put_ne _ _ (aj hF0.1 hb)];exact c4 b m nb hb
 ·rintro _ ⟨u,h⟩ ⟨σ4,ρ4⟩ ho hr hit
  dsimp only at ho hr hit⊢
  subst hr
  have lw:(ws.map MV.s).length=ws.length:=EZ _
  have a3':Ix X.C.w σ4 d F ws ws.length:=(EZ MV.s▸h.ix).frame (ho d d_it) λa m hF hm=>(ho a hF.2.2).trans hm
  have a4':∀b m,b≠d->σ1 b=EU m->σ4 b=EU m:=λb m nb hb=>(ho b (aj n1 hb)).trans (h.old b m nb hb)
  have t_x:=a4' x _ dxx s_x
  have t_dx:=a4' dx _ dd s_dx
  have t_lb:=a4' lb _ db s_lb
  have keep4:∀b m,b≠dx->σ b=EU m->σ4 b=EU m:=λb m nb hb=>a4' b m (aj nd hb) (s_old b m nb hb)
  clear h ho
  refine ae ?_
  walk_at "s";walk_at "s"
  refine bQ O g_set trivial (ag (uu λjs nj=>?_))
  have dxj:dx≠js:=aj nj t_dx
  have xj:x≠js:=aj nj t_x
  have lbj:lb≠js:=aj nj t_lb
  have dj:d≠js:=by refine ad a3' λl q _=>?_;clear a3';exact aj nj q
  dsimp only
  repeat walk_at "s"
  refine bQ O g_set trivial (ag (uu λjp np=>?_))
  dsimp only
  have n_jp:∀{b:Addr} {m:MO},((σ4.put js fp).put dx (.ns (aN (aN ns "b2j" (.r d)) "bjunk" (.r js)))) b=EU m->b≠jp:=λh=>aj np h
  have dxp:dx≠jp:=n_jp s!"sg"
  have xp:x≠jp:=n_jp s!"sg"
  have jsp:js≠jp:=n_jp s!"sg"
  have lbp:lb≠jp:=n_jp s!"sg"
  repeat walk_at "s"
  refine aT O g_len trivial (ac (ai O (m:= .r lb) s!"lk" (ag (dy (st:=⟨_,_⟩) (vs:=ws.map .s) s!"sg" (by exact jTT (E3 (E6 lw) hw) s!"d") ?_))))
  repeat walk_at "s"
  refine aD s!"ff" ?_
  repeat walk_at "s"
  have fin:∀b m,b≠dx->σ4 b=EU m->((((σ4.put js fp).put dx (.ns (aN (aN ns "b2j" (.r d)) "bjunk" (.r js)))).put jp fp).put dx (.ns (aN (aN (aN ns "b2j" (.r d)) "bjunk" (.r js)) "bpopular" (.r jp)))) b=EU m:=λb m nb hb=>by
   have h1:b≠js:=aj nj hb
   have h2:b≠jp:=n_jp (m:=m) (by rw[Sg.put_ne _ _ nb,Sg.put_ne _ _ h1];exact hb)
   rw[Sg.put_ne _ _ nb,Sg.put_ne _ _ h2,Sg.put_ne _ _ nb,Sg.put_ne _ _ h1];exact hb
  refine ad a3' λl q1 q2=>?_;clear a3'
  refine ⟨rfl,⟨(jA d js jp F (Sg.put_same ..) (Ix.frame (σ:=σ4) ⟨l,q1,q2⟩ ((fin d _ (E8 dd) q1).trans q1.symm) λa m hF hm=>fin a m (λh=>by clear e1 e2 hQf nxd dd bdx s_x s_old t_x t_dx keep4 dxj np n_jp dxp fin;subst h;rw[hF.1] at s_dx;cases s_dx) hm) ?_),λb m nb hb=>fin b m nb (keep4 b m nb hb)⟩⟩
  walk_at "sg"
end
section
theorem VRs.c{h:Heap}{m:MV}{ms:List MV}{x:Value}{xs:List Value}(r:VRs h (m::ms) (x::xs)):VR h m x∧VRs h ms xs:=by
 unfold VRs at r;refine bL r λy ys e a b=>?_;clear r;cases e;exact ⟨a,b⟩
noncomputable def PR(h:Heap)(ps:List (Str×MV))(binds:List (Str×Value)):Prop:=∀x m,ps.lookup x=EU m->∃v,binds.reverse.lookup x=EU v∧VR h m v
theorem PR.nil{h:Heap}{binds:List (Str×Value)}:PR h [] binds:=λx m e=>by cases e
theorem PR.cons{h:Heap}{n:Str}{m:MV}{v:Value}{ps:List (Str×MV)}{binds:List (Str×Value)}(e:binds.reverse.lookup n=EU v)(r:VR h m v)(t:PR h ps binds):PR h ((n,m)::ps) binds:=λx m' e'=>by
 simp only[List.lookup] at e';split at e'
 ·rename_i q;cases e';rw[beq_iff_eq.mp q];exact (af v e r)
 ·exact t x m' e'
noncomputable def dT(l:List Value):Obj:={cls:= .type "tuple",dict:=none,data:= .seq l.toArray 0,slots:=[].toArray}
theorem f8{C:Cx}{fd:FuncData}{args:List MV}{kw ps:List (Str×MV)}{T:Addr}{o:Obj}{items:Array Value}{n:Nat}(hd:fd.defaults= .ref T)(ho:C.h0.get? T=EU o)(hs:o.data= .seq items n)
 (hb:∀vs ks:List Value,vs.length=args.length->ks.length=kw.length->∃k binds,bindArgs fd ⟨vs,(kw.map (·.1)).zip ks⟩=seqItems? fd.defaults>>=k∧k (EU items)=pure binds∧
  (binds.all λx=>fd.scope.names.lookup x.1==EU .local)=true∧∀h,VRs h args vs->VRs h (kw.map (·.2)) ks->PR h ps binds):d5 C fd args kw ps:=λs vs ks old r r' M A E Q hq=>by
 refine k7 (hb vs ks r.length (by rw[r'.length];simp)) λk binds e1 e2 e3 e4=>?_;have B:BindsTo s fd ⟨vs,(kw.map (·.1)).zip ks⟩ binds:=BindsTo.of_defaults hd (old _ _ ho) hs e1 e2;refine B M A E Q (hq binds s.heap s.toks (λ_ _ e=>e) (λx hx=>?_) (e4 _ r r'));have:=Fn.mp e3 x hx;simpa using this
theorem bu{C:Cx}(G:Gd C){a:Addr}(h:(match (K C.w.params).lookup a with|some ⟨_,_,.func _,_⟩=>true|_=>false)=true):∃ob fd,C.h0.get? a=EU ob∧ob.data= .func fd:=by
 cases e:(K C.w.params).lookup a with
 |none=>rw[e] at h;cases h
 |some o=>
  rw[e] at h;obtain ⟨c,d,dt,sl⟩:=o
  cases dt with
  |func fd=>
   refine xe1 (G.says.k (a,_) (dM e)) λv hv=>?_
   cases hd:fx.contains a with
   |true=>exact (cy _ ({fd with doc:=v}) hv (by unfold d6;rw[hd];rfl))
   |false=>exact (cy _ fd hv (by unfold d6;rw[hd]))
  |_=>cases h
variable {C:Cx}
noncomputable def sm0:List (Str×MV):=aN (aN (aN (aN [] "isjunk" (.k .none)) "a" (.k .none)) "b" (.k .none)) "autojunk" (.k (.bool true))
noncomputable def sq2(ns:List (Str×MV))(lb:Addr):=aN (aN (aN (aN ns "b" (.r lb)) "matching_blocks" (.k .none)) "opcodes" (.k .none)) "fullbcount" (.k .none)
noncomputable def smN(la lb:Addr):=sq2 (sq1 sm0 la) lb
noncomputable def dH:List String:=["self","b"]
theorem ku:dH.Nodup:=s!"1"
set_option maxHeartbeats 4000000 in
theorem pZ(G:Gd C){A:Fb}{k:Nat}(R:Rm (k+2) A){x dx lb:Addr}{ns:List (Str×MV)}{ws:List Str}{σ:Sg}(e1:σ x=EU (.ins 260 dx))(e2:σ dx=EU (.ns ns))(hz:ns.length<50)(eb:nk ns "b" =EU (.k .none))(elb:σ lb=EU (.lst (ws.map .s)))(ej:nk ns "isjunk" =EU (.k .none))(ea:nk ns "autojunk" =EU (.k (.bool true)))(ec:nk ns "_SequenceMatcher__chain_b" =none)(hw:ws.length<200):
 CtA C A (.ref 199) [.r x,.r lb] [] σ λm σ'=>m= .k .none∧Chained C.w (σ.put dx (.ns (sq2 ns lb))) dx lb (sq2 ns lb) ws σ':=by
 refine aW G R (a:=199) (c:=198) (x:=aH 6 4) (n:="set_seq2") (q:="SequenceMatcher.set_seq2") (d:= .none) (pm:=(.str "cpy313.difflib" 286)) (an:=none) (t:=530)
  (ps:=(["self","b"]:List Str).zip [.r x,.r lb]) s!"k" s!"k" s!"k" s!"k" [] s!"k" (λv=>(aX rfl s!"k" s!"1" (bk λa0=>bk λa1=>cK s!"k")).a) (ρ:=zL dH [EU (.r x),EU (.r lb)]) s!"k" λQf hQf X hC O R' hin hg hE=>?_
 subst hC
 have N:=kn G
 have hd:=ku
 have i_self:gI dH 0=EU "self" :=rfl
 have i_b:gI dH 1=EU "b" :=rfl
 clear hg hE
 conv=>arg 2;whnf
 refine aa (aA hin s!"2" (aI ⟨trivial,?_⟩))
 have nxd:=aK e1 e2
 have bdx:lb≠dx:=λh=>by clear e1 hQf nxd;subst h;rw[elb] at e2;cases e2
 repeat walk_at "s"
 refine aA hin s!"2" ?_
 refine bK N s!"2" trivial ?_
 repeat walk_at "s"
 simp only[cE]
 refine dK 206 s!"sg" s!"sg" s!"nk" s!"at" s!"me" s!"k" (bu G s!"k") (ag (bx (Ct.mono (CtA.ct (vL G R' (x:=x) (dx:=dx) (lb:=lb) (ws:=ws) (ns:=sq2 ns lb) s!"sg" (by exact Sg.put_same ..) (by unfold sq2;walk_at "len") (by unfold sq2;walk_at "nk") s!"sg" (by unfold sq2;walk_at "nk") (by unfold sq2;walk_at "nk") hw)) ?_)))
 intro m σ' zr1;refine b7 zr1 λh=>?_;clear zr1
 refine ⟨trivial,?_⟩
 repeat walk_at "s"
 exact ⟨by first|rfl|trivial,h⟩
noncomputable def df:List String:=["self","a","b"]
theorem j7:df.Nodup:=s!"1"
set_option maxHeartbeats 4000000 in
theorem qv(G:Gd C){A:Fb}{k:Nat}(R:Rm (k+3) A){x dx la lb:Addr}{ns:List (Str×MV)}{ws:List Str}{σ:Sg}(e1:σ x=EU (.ins 260 dx))(e2:σ dx=EU (.ns ns))(hz:ns.length<40)(ea0:nk ns "a" =EU (.k .none))(eb:nk ns "b" =EU (.k .none))(elb:σ lb=EU (.lst (ws.map .s)))(ej:nk ns "isjunk" =EU (.k .none))(ea:nk ns "autojunk" =EU (.k (.bool true)))(ec:nk ns "_SequenceMatcher__chain_b" =none)(ec1:nk ns "set_seq1" =none)(ec2:nk ns "set_seq2" =none)(hw:ws.length<200):
 CtA C A (.ref 185) [.r x,.r la,.r lb] [] σ λm σ'=>m= .k .none∧Chained C.w (σ.put dx (.ns (sq2 (sq1 ns la) lb))) dx lb (sq2 (sq1 ns la) lb) ws σ':=by
 refine aW G R (a:=185) (c:=184) (x:=aH 6 2) (n:="set_seqs") (q:="SequenceMatcher.set_seqs") (d:= .none) (pm:=(.str "cpy313.difflib" 286)) (an:=none) (t:=511)
  (ps:=(["self","a","b"]:List Str).zip [.r x,.r la,.r lb]) s!"k" s!"k" s!"k" s!"k" [] s!"k" (λv=>(aX rfl s!"k" s!"1" (bk λa0=>bk λa1=>bk λa2=>cK s!"k")).a) (ρ:=zL df [EU (.r x),EU (.r la),EU (.r lb)]) s!"k" λQf hQf X hC O R' hin hg hE=>?_
 subst hC
 have N:=kn G
 have hd:=j7
 have i_self:gI df 0=EU "self" :=rfl
 have i_a:gI df 1=EU "a" :=rfl
 have i_b:gI df 2=EU "b" :=rfl
 clear hg hE
 conv=>arg 2;whnf
 refine aa (aA hin s!"2" (aI ⟨trivial,?_⟩))
 have nxd:=aK e1 e2
 have bdx:lb≠dx:=λh=>by clear e1 hQf nxd;subst h;rw[elb] at e2;cases e2
 refine aa (aA hin s!"2" (bK N s!"2" trivial ?_))
 repeat walk_at "s"
 refine dK 192 s!"sg" s!"sg" s!"nk" s!"at" s!"me" s!"k" (bu G s!"k") (ac (ai O (m:= .r la) s!"lk" (ag (bx (Ct.mono (CtA.ct (pS G (R'.le (m:=k+1) (by exact Nat.le_succ _)) (x:=x) (dx:=dx) (la:=la) (ns:=ns) e1 e2 ea0 (by exact nTT hz rfl))) ?_)))))
 intro m σ' zr1;refine b7 zr1 λz2=>?_;clear zr1;subst z2
 refine ⟨trivial,?_⟩
 refine ae ?_
 refine aa (aA hin s!"2" (bK N s!"2" trivial ?_))
 repeat walk_at "s"
 refine dK 199 s!"sg" s!"sg" (by unfold sq1;walk_at "nk") s!"at" s!"me" s!"k" (bu G s!"k") (ac (ai O (m:= .r lb) s!"lk" (ag (bx (Ct.mono (CtA.ct (pZ G R' (x:=x) (dx:=dx) (lb:=lb) (ws:=ws) (ns:=sq1 ns la) s!"sg" s!"sg" (by unfold sq1;walk_at "len") (by unfold sq1;walk_at "nk") s!"sg" (by unfold sq1;walk_at "nk") (by unfold sq1;walk_at "nk") (by unfold sq1;walk_at "nk") hw)) ?_)))))
 intro m σ' zr1;refine b7 zr1 λh=>?_;clear zr1
 rw[cE] at h
 refine ⟨trivial,?_⟩
 repeat walk_at "s"
 exact ⟨by first|rfl|trivial,h⟩
theorem pH(G:Gd C){x la lb:Addr}(v:Value):d5 C (dD (aH 6 1) "__init__" "SequenceMatcher.__init__" (.ref 171) v (.str "cpy313.difflib" 286) none (.ref 177)) [.r x,.k .none,.r la,.r lb] [] ((["self","isjunk","a","b","autojunk"]:List Str).zip [.r x,.k .none,.r la,.r lb,.k (.bool true)]):=by
 refine f8 (T:=171) (o:=dT [.none,.str "" 496,.str "" 497,.bool true]) rfl (G.says.obj s!"k" rfl) rfl λvs ks hv hk=>?_
 obtain ⟨a0,a1,a2,a3,rfl⟩:∃a0 a1 a2 a3,vs=[a0,a1,a2,a3]:=by
  rcases vs with _|⟨a0,_|⟨a1,_|⟨a2,_|⟨a3,_|_⟩⟩⟩⟩<;>simp at hv
  exact ⟨a0,a1,a2,a3,rfl⟩
 have e_ks:ks=[]:=FT.mp hk;subst e_ks;refine ⟨_,[("self",a0),("isjunk",a1),("a",a2),("b",a3),("autojunk",.bool true)],s!"2",s!"k",s!"k",λh r q=>?_⟩;obtain ⟨r0,r⟩:=r.c;obtain ⟨r1,r⟩:=r.c;obtain ⟨r2,r⟩:=r.c;obtain ⟨r3,r⟩:=r.c;exact .cons (v:=a0) s!"k" r0 (.cons (v:=a1) s!"k" r1 (.cons (v:=a2) s!"k" r2 (.cons (v:=a3) s!"k" r3 (.cons (v:= .bool true) s!"k" rfl .nil))))
noncomputable def cp:List String:=["self","isjunk","a","b","autojunk"]
theorem kZ:cp.Nodup:=s!"1"
set_option maxHeartbeats 4000000 in
theorem q9(G:Gd C){A:Fb}{k:Nat}(R:Rm (k+4) A){x dx la lb:Addr}{ws:List Str}{σ:Sg}(e1:σ x=EU (.ins 260 dx))(e2:σ dx=EU (.ns []))(elb:σ lb=EU (.lst (ws.map .s)))(hw:ws.length<200):
 CtA C A (.ref 178) [.r x,.k .none,.r la,.r lb] [] σ λm σ'=>m= .k .none∧Chained C.w (σ.put dx (.ns (smN la lb))) dx lb (smN la lb) ws σ':=by
 refine aW G R (a:=178) (c:=177) (x:=aH 6 1) (n:="__init__") (q:="SequenceMatcher.__init__") (d:=(.ref 171)) (pm:=(.str "cpy313.difflib" 286)) (an:=none) (t:=499)
  (ps:=(["self","isjunk","a","b","autojunk"]:List Str).zip [.r x,.k .none,.r la,.r lb,.k (.bool true)]) s!"k" s!"k" s!"k" s!"k" [] s!"k" (λv=>pH G v) (ρ:=zL cp [EU (.r x),EU (.k .none),EU (.r la),EU (.r lb),EU (.k (.bool true))]) s!"k" λQf hQf X hC O R' hin hg hE=>?_
 subst hC
 have N:=kn G
 have hd:=kZ
 have i_self:gI cp 0=EU "self" :=rfl
 have i_isjunk:gI cp 1=EU "isjunk" :=rfl
 have i_a:gI cp 2=EU "a" :=rfl
 have i_b:gI cp 3=EU "b" :=rfl
 have i_autojunk:gI cp 4=EU "autojunk" :=rfl
 clear hg hE
 conv=>arg 2;whnf
 refine aa (aA hin s!"2" (aI ⟨trivial,?_⟩))
 have nxd:=aK e1 e2
 have bdx:lb≠dx:=λh=>by clear e1 hQf nxd;subst h;rw[elb] at e2;cases e2
 repeat walk_at "s"
 simp only[cE]
 refine aA hin s!"2" (bK N s!"2" trivial ?_)
 repeat walk_at "s"
 refine dK 185 s!"sg" s!"sg" s!"nk" s!"at" s!"me" s!"k" (bu G s!"k") (ac (ai O (m:= .r la) s!"lk" (ac (ai O (m:= .r lb) s!"lk" (ag (bx (Ct.mono (CtA.ct (qv G R' (x:=x) (dx:=dx) (la:=la) (lb:=lb) (ws:=ws) (ns:=sm0) s!"sg" (by exact Sg.put_same ..) (by unfold sm0;walk_at "len") (by unfold sm0;walk_at "nk") (by unfold sm0;walk_at "nk") s!"sg" (by unfold sm0;walk_at "nk") (by unfold sm0;walk_at "nk") (by unfold sm0;walk_at "nk") (by unfold sm0;walk_at "nk") (by unfold sm0;walk_at "nk") hw)) ?_)))))))
 intro m σ' zr1;refine b7 zr1 λh=>?_;clear zr1
 rw[cE] at h
 refine ⟨trivial,?_⟩
 repeat walk_at "s"
 exact ⟨by first|rfl|trivial,h⟩
end
section
variable {C:Cx}
structure SM (w:FL) (σ:Sg) (x la lb:Addr) (ws:List Str) (dx d js jp:Addr) (F:Addr->Prop) (ns:List (Str×MV)):Prop where
 i:σ x=EU (.ins 260 dx)
 n:σ dx=EU (.ns ns)
 ns:ns=aN (aN (aN (smN la lb) "b2j" (.r d)) "bjunk" (.r js)) "bpopular" (.r jp)
 ix:Ix w σ d F ws ws.length
 js:σ js=EU fp
theorem An(P:F1)(dv:Addr->Value):(makesIn (KD P dv) 260&&findIn (KD P dv) (.ref 260) "__init__" ==EU (EU (.ref 178))&&typeIn (KD P dv) (.ref 178)==EU (.type "function")&&eQ (KD P dv) 260)=true:=s!"k"
theorem BH(G:Gd C){A:Fb}{k:Nat}(R:Rm (k+5) A){la lb:Addr}{ws:List Str}{σ:Sg}(elb:σ lb=EU (.lst (ws.map .s)))(hw:ws.length<200):
 CtA C A (.ref 260) [.k .none,.r la,.r lb] [] σ λm σ'=>∃x dx d js jp F ns,m= .r x∧SM C.w σ' x la lb ws dx d js jp F ns∧(∀b m,σ b=EU m->σ' b=EU m):=by
 refine xe1 G.says.kd λdv hK=>?_;have M:=An C.w.params dv;simp only[Fd,beq_iff_eq] at M;refine xa1 M λz1 _=>?_;clear M;refine xa1 z1 λz2 m3=>?_;clear z1;obtain ⟨m1,m2⟩:=z2;refine j9 hK R s!"d" m1 m2 m3 λA' R' x dx hx hdx ne=>?_;refine CtA.mono (q9 G R' (x:=x) (dx:=dx) (la:=la) (lb:=lb) (ws:=ws) (Sg.put_same ..) (by rw[Sg.put_ne _ _ (E8 ne),Sg.put_same]) ?_ hw) ?_
 ·rw[Sg.put_ne _ _ (aj hx elb),Sg.put_ne _ _ (aj hdx elb)];exact elb
 ·intro m σ' zr1;refine b7 zr1 λh=>?_;clear zr1;refine bz h.ex λd js jp F h1 z1=>?_;refine xa1 z1 λh2 h3=>?_;clear z1;refine (jo rfl x dx ⟨d,js,jp,F,_,rfl,⟨h.keep x _ ne (by rw[Sg.put_ne _ _ ne,Sg.put_same]),h1,rfl,h2,h3⟩,λb m hb=>?_⟩);have b1:=aj hx hb;have b2:=aj hdx hb;exact h.keep b m b2 (by rw[Sg.put_ne _ _ b2,Sg.put_ne _ _ b1,Sg.put_ne _ _ b2];exact hb)
end
section
open Builtin.ObjectAttr
noncomputable def oF(K:Frag)(C p f:Addr):Bool:=(match K.lookup C with
 |some ⟨_,_,.cls cd,sl⟩=>!cd.mro.isEmpty&&sl.toList[4]?==EU (EU .none)&&cd.mro.contains (.ref C)
 |_=>false)&&specialIn K (.ref C) "__call__" ==EU (EU (.builtin "type.__call__"))&&instIn K (.ref C) (.type "type")==EU true&&readsIn K C (.type "type")&&
 recIn K p "staticmethod" ==EU [.ref f]
theorem zE(P:F1)(dv:Addr->Value):oF (KD P dv) 153 154 100=true:=s!"k"
theorem BE(P:F1)(dv:Addr->Value):oF (KD P dv) 840 337 333=true:=s!"k"
noncomputable def CFound.isGet(g a obj tp:Value):Option CFound->Bool
 |some (.get g' a' obj' tp')=>g'==g&&a'==a&&obj'==obj&&tp'==tp
 |_=>false
theorem j0{g a obj tp:Value}{x:Option CFound}(h:CFound.isGet g a obj tp x=true):x=EU (.get g a obj tp):=by
 unfold CFound.isGet at h;split at h
 ·simp only[Fd,beq_iff_eq] at h;refine xa1 h λz1 z2=>?_;clear h;refine xa1 z1 λz3 z4=>?_;clear z1;obtain ⟨rfl,rfl⟩:=z3;subst z4;subst z2;rfl
 ·cases h
theorem AV(P:F1)(dv:Addr->Value):CFound.isGet (.builtin "staticmethod.__get__") (.ref 154) .none (.ref 153) (findCls (KD P dv) (.ref 153) (.type "type") "__new__")=true:=s!"k"
theorem Bt(P:F1)(dv:Addr->Value):CFound.isGet (.builtin "staticmethod.__get__") (.ref 337) .none (.ref 840) (findCls (KD P dv) (.ref 840) (.type "type") "__new__")=true:=s!"k"
section
variable {prog:Program} {w:FL} {A:Fb} {K:Frag} {C p f:Addr} {R:Result->Shared->Prop} {s:Shared}
theorem BB{Q:Value->Shared->Prop}{E:Value->Shared->Prop}(X:K.In s.heap)(hr:readsIn K C (.type "type")=true)(e:findCls K (.ref C) (.type "type") "__new__" =EU (.get (.builtin "staticmethod.__get__") (.ref p) .none (.ref C)))
 (hp:recIn K p "staticmethod" =EU [.ref f]) (h:Q (.ref f) {s with toks:=s.toks+1}):E4 (Fa prog w) A (getAttr (.ref C) "__new__") Q E s:=by
 refine cls_bind X hr e (GC (sm_get (s:={s with toks:=s.toks+1}) X hp ?_));exact handed_on rfl h
theorem qk{rest:List Value}{kw:List (Str×Value)}(X:K.In s.heap)(hn:oF K C p f=true)(e:findCls K (.ref C) (.type "type") "__new__" =EU (.get (.builtin "staticmethod.__get__") (.ref p) .none (.ref C)))
 (h:codeAny (Fa prog w) (A.under (.builtin "type.__call__" ⟨.ref C::rest,kw⟩)) (.call (.ref f) ⟨.ref C::rest,kw⟩) (wG λobj s₁=>Fv (Fa prog w) s₁.heap (isInstance obj (.ref C)) true∧
  E4 (Fa prog w) (A.under (.builtin "type.__call__" ⟨.ref C::rest,kw⟩)) (callSpecial? obj "__init__" rest kw) (λr s₂=>r=EU .none∧R (.ok (.ret obj)) s₂) NoE s₁) {s with toks:=s.toks+1}):
 codeAny (Fa prog w) A (.call (.ref C) ⟨rest,kw⟩) R s:=by
 simp only[oF,Fd,beq_iff_eq] at hn;refine xa1 hn λz3 n5=>?_;clear hn;refine xa1 z3 λz4 n4=>?_;clear z3;obtain ⟨⟨n1,n2⟩,n3⟩:=z4;split at n1;rotate_left
 ·cases n1
 rename_i oc od cd sl ho;simp only[Fd,beq_iff_eq,Gb] at n1;refine xa1 n1 λz3 m3=>?_;clear n1;refine xa1 z3 λm1 m2=>?_;clear z3;have hc:clsIn K C=EU cd:=by unfold clsIn;rw[ho]
 have call:Fv (Fa prog w) s.heap (Hf (.ref C) "__call__") (EU (.builtin "type.__call__")):=looks_specialIn X n2;have typ:Fv (Fa prog w) s.heap (isInstance (.ref C) (.type "type")) true:=looks_instIn X n3;have hm:Fv (Fa prog w) s.heap (mroOf (.ref C)) cd.mro:=(looks_clsIn X hc).andThen .now
 have made:Fv (Fa prog w) s.heap (Bind.madeBy (.ref C)) none:=by
  obtain ⟨c,l,hl⟩:∃c l,cd.mro=c::l:=by cases q:cd.mro with|nil=>rw[q] at m1;cases m1|cons c l=>exact (ie2 c l rfl)
  intro A Q E s k q;unfold Bind.madeBy;refine EX (hm A _ E s k ?_);rw[hl,G2];refine EX (EX (EX (EX (wpAny_loadPart (k _ _ (X _ _ ho)) (E0 ?_)))));dsimp only;rw[←Array.getElem?_toList,m2];exact E0 (E0 (E0 q))
 refine codeAny_of_tree ?_;show E4 _ _ (callAny (.ref C) _) _ _ _;refine nd_load (X _ _ ho) ?_;show E4 _ _ (callAny.viaDunder (.ref C) _) _ _ _;unfold callAny.viaDunder;refine EX (call.at ?_);dsimp only;rw[tc_bind];refine EX (E0 (EX (E0 ?_)));refine E0 (a:=Fin.again (.call (.builtin "type.__call__") ⟨.ref C::rest,kw⟩)) (And.intro rfl ?_);refine codeAny_call_builtin_at (Code.quiet_builtin _ s!"1") entry_typeCall (check_slot tc_kind tc_split typ (tc_args _ _ _) ?_);unfold Builtin.«type.__call__»;clear call typ;obtain ⟨hh,g,dd,tk,os⟩:=s;refine w_f rfl ?_;refine EX (hm.here ?_);refine w_f m1 ?_;refine EX (made.here ?_);refine EX (BB X n4 e n5 ?_);refine EX (wpAny_holding (GC (Hm h λr s' z=>?_)));rcases r with e|(v|_|_|_)<;>first|exact z.elim|skip
 refine xa1 z λz1 z2=>?_;clear z;refine EX (z1.here ?_);refine w_f rfl ?_;refine EX (wpAny_holding (FE z2 (λr s₂ ⟨e,q⟩=>?_) λ_ _ x=>x.elim));subst e;exact E0 q
end
end
section
open Builtin.ObjectAttr
variable {prog:Program} {w:FL} {A:Fb} {s:Shared} {dv:Addr->Value}
theorem Dc(P:F1)(dv:Addr->Value)(S:Setting)(t:Addr):peek (KD P dv) S (checkBuiltinCall "tuple.__new__" ⟨[.ref 153,.ref t],[]⟩)=EU ():=s!"k"
theorem BY(P:F1)(dv:Addr->Value)(S:Setting):peek (KD P dv) S (isType (.ref 153))=EU true:=s!"k"
theorem jF(P:F1)(dv:Addr->Value)(S:Setting):peek (KD P dv) S (GI (.ref 153) (.type "tuple"))=EU true:=s!"k"
theorem Cg(P:F1)(dv:Addr->Value)(S:Setting):peek (KD P dv) S (Bind.madeHere "tuple.__new__" (.ref 153))=EU ():=s!"k"
theorem xS(P:F1)(dv:Addr->Value)(S:Setting):peek (KD P dv) S (Gq (.ref 153) "__init__")=EU (EU (.builtin "object.__init__")):=s!"k"
theorem CO(P:F1)(dv:Addr->Value)(S:Setting):peek (KD P dv) S (classHasDel 153)=EU false:=s!"k"
theorem wx:Hb table "tuple.__new__" =EU Builtin.«tuple.__new__»:=F4 s!"k"
theorem yT{t:Addr}{o:Obj}{items:Array Value}{n:Nat}{R:Fin->Shared->Prop}{E:Value->Shared->Prop}(X:(KD w.params dv).In s.heap)(hh:A.handled=none)(ho:s.heap.get? t=EU o)(hc:o.cls= .type "tuple")(hd:o.data= .seq items n)(hz:items.size≤100)
 (h:∀(h':Heap) (d:Addr),(∀b o,s.heap.get? b=EU o->h'.get? b=EU o)->R (.done (.ret (.ref h'.objs.size))) {s with heap:=h'.push {cls:= .ref 153,dict:=EU d,data:= .seq items}}):
 E4 (Fa prog w) A (Builtin.«tuple.__new__» ⟨[.ref 153,.ref t],[]⟩) R E s:=by
 obtain ⟨hp,g,dd,tk,os⟩:=s;have L1:=Fv.of_peek (M:=Fa prog w) X (BY w.params dv ⟨prog,w.params⟩);have L2:=Fv.of_peek (M:=Fa prog w) X (jF w.params dv ⟨prog,w.params⟩);have L3:=Fv.of_peek (M:=Fa prog w) X (Cg w.params dv ⟨prog,w.params⟩);have L4:=Fv.of_peek (M:=Fa prog w) X (xS w.params dv ⟨prog,w.params⟩);have L5:=Fv.of_peek (M:=Fa prog w) X (CO w.params dv ⟨prog,w.params⟩);unfold Builtin.«tuple.__new__»;repeat (first|(with_reducible refine wpAny_collect_seq t (.inr rfl) ho hc hd (λh' hk=>?_) (by rw[sizeLine_eq];exact o30 hz))|lk)
 rw[if_neg (by rw[sizeLine_eq];simp;exact o30 hz)]
 have L5':Fv (Fa prog w) ((h'.push {cls:= .type "dict",data:= .dict #[]}).push {cls:= .ref 153,dict:=EU h'.objs.size,data:= .seq items.toList.toArray}) (classHasDel 153) false:=
  L5.keeps λb o e=>Heap.get?_push_of_some _ (Heap.get?_push_of_some _ (hk _ _ e))
 clear L5;repeat (first|lk)
 simp only[Hg];exact h _ h'.objs.size λb o e=>Heap.get?_push_of_some _ (hk _ _ e)
theorem sA{t:Addr}{o:Obj}{items:Array Value}{n:Nat}{Q:Value->Shared->Prop}{E:Value->Shared->Prop}(X:(KD w.params dv).In s.heap)(hh:A.handled=none)(ho:s.heap.get? t=EU o)(hc:o.cls= .type "tuple")(hd:o.data= .seq items n)(hz:items.size≤100)
 (h:∀(h':Heap) (d:Addr),(∀b o,s.heap.get? b=EU o->h'.get? b=EU o)->Q (.ref h'.objs.size) {s with heap:=h'.push {cls:= .ref 153,dict:=EU d,data:= .seq items}}):
 E4 (Fa prog w) A (call (.builtin "tuple.__new__") [.ref 153,.ref t]) Q E s:=by
 have L0:=Fv.of_peek (M:=Fa prog w) X (Dc w.params dv ⟨prog,w.params⟩ t);refine GC (F2 s!"1" wx (L0.here ?_));exact yT (A:=A.in1) X hh ho hc hd hz λh' d hk=>h h' d hk
theorem CA:(match findCls [] (.type "tuple") (.type "type") "__new__" with|some (.val v)=>v== .builtin "tuple.__new__" |_=>false)=true:=s!"k"
theorem xF{Q:Value->Shared->Prop}{E:Value->Shared->Prop}(h:Q (.builtin "tuple.__new__") {s with toks:=s.toks+1}):E4 (Fa prog w) A (getAttr (.type "tuple") "__new__") Q E s:=by
 have X:Frag.In [] s.heap:=λa o e=>by cases e
 have e:findCls [] (.type "tuple") (.type "type") "__new__" =EU (.val (.builtin "tuple.__new__")):=by
  have z:=CA;split at z
  ·rename_i v hv;rw[hv,beq_iff_eq.mp z]
  ·cases z
 refine cls_open (hook:=none) X (.of_pure s!"k") (.of_pure s!"k") s!"k" (.of_pure s!"k") s!"k" e ?_;exact E0 (handed_on s!"k" h)
theorem iK{T:String}{name:Str}{pl:Sem Bool}{Q:Value×List Value->Shared->Prop}{E:Value->Shared->Prop}(hT:GY (.type T)=pure (.type "type"))(h:E4 (Fa prog w) A (getAttr (.type T) name) (λv=>Q (v,[])) E s):E4 (Fa prog w) A (getMethod (.type T) name pl) Q E s:=by
 have sp:Fv (Fa prog w) s.heap (Hf (.type T) "__getattribute__") (EU (.builtin "type.__getattribute__")):=Fv.andThen (a:= .type "type") (.of_pure hT) (.of_pure KF.slot_tga.lookup);unfold getMethod;refine EX (sp.here ?_);dsimp only;rw[if_pos canon_tga];exact EX (FE h (λ_ _ z=>E0 z) λ_ _ z=>z)
end
section
open Builtin.ObjectAttr
theorem pR:GY (.type "tuple")=pure (.type "type"):=s!"k"
variable {C:Cx}
noncomputable def bv:List String:=["_cls","a","b","size"]
theorem jM:bv.Nodup:=s!"1"
set_option maxHeartbeats 4000000 in
theorem nX(G:Gd C){A:Fb}{k:Nat}(R:Rm (k+1) A){a b c:Int}{σ:Sg}:
 CtA C A (.ref 100) [.k (.ref 153),.i a,.i b,.i c] [] σ λm σ'=>m= .t (.ref 153) [.i a,.i b,.i c]∧σ'=σ:=by
 refine aW G R (a:=100) (c:=99) (x:=aH 4 4) (n:="__new__") (q:="Match.__new__") (d:= .none) (pm:=(.str "cpy313.difflib" 286)) (an:=none) (t:=367)
  (ps:=(["_cls","a","b","size"]:List Str).zip [.k (.ref 153),.i a,.i b,.i c]) s!"k" s!"k" s!"k" s!"k" [("tuple",.type "tuple")] s!"k" (λv=>(aX rfl s!"k" s!"1" (bk λa0=>bk λa1=>bk λa2=>bk λa3=>cK s!"k")).a) (ρ:=zL bv [EU (.k (.ref 153)),EU (.i a),EU (.i b),EU (.i c)]) s!"k" λQf hQf X hC O R' hin hg hE=>?_
 subst hC
 have N:=kn G
 have hd:=jM
 have i_cls:gI bv 0=EU "_cls" :=rfl
 have i_a:gI bv 1=EU "a" :=rfl
 have i_b:gI bv 2=EU "b" :=rfl
 have i_size:gI bv 3=EU "size" :=rfl
 have g_tuple:X.gs.lookup (EW "tuple")=EU (.type "tuple" :Value):=hg▸s!"k"
 clear hg hE
 conv=>arg 2;whnf
 refine aa (aA hin s!"2" (aI ⟨trivial,?_⟩))
 refine aa (bd λφ s I=>?_)
 refine MethodCall_ ?_ s!"2"
 refine ab (de O g_tuple (Q:=λm st'=>m= .k (.type "tuple")∧st'=⟨σ,zL bv [EU (.k (.ref 153)),EU (.i a),EU (.i b),EU (.i c)]⟩) ⟨rfl,rfl⟩ φ s I) λv s₁ pp=>?_
 obtain ⟨m,st₁,r,I₁,k₁,e1,e2⟩:=pp
 subst e1 e2
 cases (show v= .type "tuple" from r)
 refine iK (prog:=pgm) (w:=X.C.w) (T:="tuple") pR ?_
 refine xF (prog:=pgm) (w:=X.C.w) ?_
 have I₂:=I₁.toks (s₁.toks+1)
 refine callWith_builtin s!"r" (bt s!"t" (ab (cr (st:=⟨σ,zL bv [EU (.k (.ref 153)),EU (.i a),EU (.i b),EU (.i c)]⟩) (Q:=λms st₁=>ms=[.k (.ref 153),.t (.type "tuple") [.i a,.i b,.i c]]∧st₁=⟨σ,zL bv [EU (.k (.ref 153)),EU (.i a),EU (.i b),EU (.i c)]⟩) s!"t" ?_ I₂) λvs s₂ ⟨ms,st₂,r₂,I₃,k₂,e1,e2⟩=>?_))
 ·repeat walk_at "s"
  exact ⟨rfl,rfl⟩
 subst e1 e2
 unfold VRs at r₂
 refine am r₂ λy ys z1 z2=>?_;clear r₂;subst z1;refine xa1 z2 λq1 r₂=>?_;clear z2
 unfold VRs at r₂
 refine am r₂ λz zs z1 z2=>?_;clear r₂;subst z1;refine xa1 z2 λz3 r₂=>?_;clear z2;obtain ⟨t,o,items,n,rfl,ho,himm,hc,hd,ri⟩:=z3
 unfold VRs at r₂
 subst r₂
 cases (show y= .ref 153 from q1)
 refine sA (I₃.kin N) O.hh ho hc hd (by rw[ri.size];simp) λh' d hk=>?_
 have I₄:=(I₃.grow hk s₂.toks).push {cls:= .ref 153,dict:=EU d,data:= .seq items}
 refine Post.mk (m:= .t (.ref 153) [.i a,.i b,.i c]) (fb _ _ items 0 rfl (Heap.get?_push_size _ rfl) rfl rfl rfl ((ri.keep (aB hk)).keep (keep_push _ _))) I₄ (k₁.trans (k₂.trans ((aB hk).trans (keep_push _ _)))) ?_
 repeat walk_at "s"
 exact ⟨rfl,rfl⟩
end
section
open Builtin.ObjectAttr
theorem Cv(P:F1)(dv:Addr->Value)(S:Setting):peek (KD P dv) S (Bind.madeBy (.ref 153))=EU none:=s!"k"
theorem Cy(P:F1)(dv:Addr->Value)(S:Setting):peek (KD P dv) S (GI (.ref 153) (.type "object"))=EU true:=s!"k"
theorem Cr(P:F1)(dv:Addr->Value)(S:Setting):peek (KD P dv) S (GI (.ref 153) (.ref 153))=EU true:=s!"k"
theorem vX(a b c d:Value):argsOk "object.__init__" ⟨[a,b,c,d],[]⟩:=by unfold argsOk;kernel_rfl
section
variable {prog:Program} {w:FL} {A:Fb} {s:Shared} {dv:Addr->Value}
theorem w5{x:Addr}{o:Obj}{a b c:Value}{Q:Option Value->Shared->Prop}(X:(KD w.params dv).In s.heap)(ho:s.heap.get? x=EU o)(hc:o.cls= .ref 153)(h:Q (EU .none) s):
 E4 (Fa prog w) A (callSpecial? (.ref x) "__init__" [a,b,c] []) Q NoE s:=by
 have ty:Fv (Fa prog w) s.heap (GY (.ref x)) (.ref 153):=by rw[←hc];exact (Fv.ld ho).andThen .now
 have L1:=Fv.of_peek (M:=Fa prog w) X (xS w.params dv ⟨prog,w.params⟩);have L2:=Fv.of_peek (M:=Fa prog w) X (Cv w.params dv ⟨prog,w.params⟩);have L3:=ty.andThen (f:=λt=>GI t (.type "object")) (Fv.of_peek (M:=Fa prog w) X (Cy w.params dv ⟨prog,w.params⟩));refine EX (EX (ty.here (L1.here (wpAny_holding ?_))));rw[oi_bind];refine EX (E0 (EX (GC ?_)));refine F2 oi_plain entry_oi (@check_slot (Fa prog w) _ _ _ "object.__init__" "object" "__init__" (.ref x) [a,b,c] [] _ oi_kind oi_split L3 (vX (.ref x) a b c) ?_);unfold Builtin.«object.__init__»;clear X ho L3;obtain ⟨hp,g,d,tk,os⟩:=s;repeat (first|lk)
 exact h
end
variable {C:Cx}
theorem uP(G:Gd C){A:Fb}{k:Nat}(R:Rm (k+2) A){a b c:Int}{σ:Sg}:
 CtA C A (.ref 153) [.i a,.i b,.i c] [] σ λm σ'=>m= .t (.ref 153) [.i a,.i b,.i c]∧σ'=σ:=λφ s vs ks I d r r'=>by
 refine xe1 G.says.kd λdv hK=>?_;have KI:(KD C.w.params dv).In s.heap:=hK.keeps I.old;refine qk KI (zE _ _) (j0 (AV _ _)) ?_;have r2:=r;unfold VRs at r2;refine am r2 λx1 vs1 z1 z2=>?_;clear r2;subst z1;refine xa1 z2 λz3 r2=>?_;clear z2;obtain ⟨t1,rfl⟩:=z3;unfold VRs at r2;refine am r2 λx2 vs2 z1 z2=>?_;clear r2;subst z1;refine xa1 z2 λz3 r2=>?_;clear z2;obtain ⟨t2,rfl⟩:=z3;unfold VRs at r2;refine am r2 λx3 vs3 z1 z2=>?_;clear r2;subst z1;refine xa1 z2 λz3 r2=>?_;clear z2;obtain ⟨t3,rfl⟩:=z3;unfold VRs at r2;subst r2;have e_ks:ks=[]:=by have:=r'.length;simpa using this
 clear r';subst e_ks;refine Hm (nX G (R.under 153 _ _) (a:=a) (b:=b) (c:=c) (σ:=σ) φ {s with toks:=s.toks+1} (.ref 153::_) [] (I.toks _) d (.cons (aZ ..) r) (.nil _)) λres s' z=>?_;rcases res with e|(v|_|_|_)<;>first|exact z.elim|skip
 refine ik z λm σ' rv I' d' k' z1 z2=>?_;clear z;subst z1;clear I d;subst z2;have rv':=rv;refine bz rv λy o items n z1 z2=>?_;clear rv;subst z1;refine xa4 z2 λho hi hc hd ri=>?_;clear z2;have KI':(KD C.w.params dv).In s'.heap:=hK.keeps I'.old;have ty:Fv (Fa pgm C.w) s'.heap (GY (.ref y)) (.ref 153):=by rw[←hc];exact (Fv.ld ho).andThen .now
 refine ⟨ty.andThen (f:=λt=>GI t (.ref 153)) (Fv.of_peek KI' (Cr _ _ ⟨pgm,C.w.params⟩)),w5 KI' ho hc ⟨rfl,?_⟩⟩;exact (ij _ σ' rv' I' d' k' ⟨rfl,rfl⟩)
end
section
noncomputable def hit(A B:List Str)(blo bhi i:Nat):Option Nat:=match A[i]? with
 |some x=>(bC B x).find? λj=>decide (blo≤j∧j<bhi)
 |none=>none
noncomputable def fhp(A B:List Str)(blo bhi alo:Nat):Nat->Option (Nat×Nat)
 |0=>none
 |t+1=>match fhp A B blo bhi alo t with
  |some r=>EU r
  |none=>(hit A B blo bhi (alo+t)).map λj=>(alo+t,j)
noncomputable def bN(A B:List Str)(blo bhi alo t:Nat):Nat×Nat×Nat:=match fhp A B blo bhi alo t with
 |some (i,j)=>(i,j,1)
 |none=>(alo,blo,0)
theorem d7{ws:List Str}{x:Str}{j:Nat}:j∈bC ws x↔ws[j]?=EU x:=by
 unfold bC;simp only[Fq,GD,decide_eq_true_eq];constructor
 ·intro zr1;refine ad zr1 λz1 z2 z3=>?_;clear zr1;obtain ⟨y,k⟩:=z1;obtain ⟨h1,h2⟩:=z2;subst z3;dsimp only at h2;subst h2;have:=List.mem_zipIdx h1;simp at this;refine xa1 this λa b=>?_;clear this;simp[b,a]
 ·intro h;obtain ⟨hl,e⟩:=E5.mp h;refine (af (x,j) ⟨?_,rfl⟩ rfl);rw[←e];exact List.mem_zipIdx_iff_getElem?.mpr (by simp[hl])
structure Rows (A B:List Str):Prop where
 uniq:∀x,x∈A->(bC B x).length≤1
 adj:∀i j:Nat,∀a b:Str,A[i]?=EU a->B[j]?=EU a->A[i+1]?=EU b->B[j+1]?≠EU b
theorem eI{A B:List Str}{blo bhi i j:Nat}(h:hit A B blo bhi i=EU j):(∃x,A[i]?=EU x∧B[j]?=EU x)∧blo≤j∧j<bhi:=by
 unfold hit at h;split at h
 ·rename_i x hx;have h1:=List.find?_some h;have h2:=List.mem_of_find?_eq_some h;simp only[decide_eq_true_eq] at h1;exact ⟨(af x hx (d7.mp h2)),h1⟩
 ·cases h
theorem eP{A B:List Str}{blo bhi alo:Nat}:∀{t:Nat} {i j:Nat},fhp A B blo bhi alo t=EU (i,j)->hit A B blo bhi i=EU j∧alo≤i∧i<alo+t
 |0,_,_,h=>by cases h
 |t+1,i,j,h=>by
  unfold fhp at h
  cases e:fhp A B blo bhi alo t with
  |some r=>
   rw[e] at h;cases h;refine xa2 (eP e) λa b c=>?_;exact (ia2 a b (by exact zP c))
  |none=>
   rw[e] at h;refine ad (Ge.mp h) λj' hj e2=>?_;clear h;cases e2;exact (ia2 hj (by exact xl) (by exact z7))
theorem kE{A B:List Str}{blo bhi alo:Nat}:∀{t:Nat},fhp A B blo bhi alo t=none->∀i,alo≤i->i<alo+t->hit A B blo bhi i=none
 |0,_,i,h1,h2=>by exact (AR h1 h2).elim
 |t+1,h,i,h1,h2=>by
  unfold fhp at h
  cases e:fhp A B blo bhi alo t with
  |some r=>rw[e] at h;cases h
  |none=>
   rw[e] at h;have h':(hit A B blo bhi (alo+t)).map (λj=>(alo+t,j))=none:=h;by_cases q:i<alo+t
   ·exact kE e i h1 q
   ·have:i=alo+t:=by exact GH (FG h2) (Ga.mp q)
    clear h1 h2 q;subst this;simpa using h'
noncomputable def Sw3(X:Xc)(m:MV)(x y z:Str)(st:St)(Q:Fl->St->Prop):Prop:=∃ms,m= .t (.type "tuple") ms∧ [x,y,z].length=ms.length∧WNs X [x,y,z].reverse ms.reverse st λst₂=>Q .next st₂
theorem jr{X:Xc}{st:St}(O:XOk X){elts k tpos value pos}{x y z:Str}{Q:Fl->St->Prop}(hs:swapsWithSole [.Tuple elts k tpos] value pos.line X.env=pure false)(hw:Ht [.Tuple elts k tpos] value X.env=pure (EU [x,y,z]))
 (h:WE X value st λm st₁=>Sw3 X m x y z st₁ Q):WS1 X (.Assign [.Tuple elts k tpos] value pos) st Q:=iA O hs hw h
theorem EF{X:Xc}{σ:Sg}{ρ:Lo}{x y z:Str}{a b c:MV}{u1 u2 u3:Option MV}{Q:Fl->St->Prop}(h1:lk ρ z=EU u1)(h2:lk (stL ρ z c) y=EU u2)(h3:lk (stL (stL ρ z c) y b) x=EU u3)(h:Q .next ⟨σ,stL (stL (stL ρ z c) y b) x a⟩):
 Sw3 X (.t (.type "tuple") [a,b,c]) x y z ⟨σ,ρ⟩ Q:=(aR _ rfl rfl ⟨⟨_,h1⟩,⟨_,h2⟩,⟨_,h3⟩,h⟩)
theorem oL{X:Xc}{σ:Sg}{ns:List String}{vs:List (Option MV)}{x y z:String}{i j k:Nat}{a b c:MV}{u1 u2 u3:Option MV}{Q:Fl->St->Prop}(hd:ns.Nodup)(hx:gI ns i=EU x)(hy:gI ns j=EU y)(hz:gI ns k=EU z)
 (g1:gI vs k=EU u1) (g2:gI (sI vs k (EU c)) j=EU u2) (g3:gI (sI (sI vs k (EU c)) j (EU b)) i=EU u3) (h:Q .next ⟨σ,zL ns (sI (sI (sI vs k (EU c)) j (EU b)) i (EU a))⟩):
 Sw3 X (.t (.type "tuple") [a,b,c]) (EW x) (EW y) (EW z) ⟨σ,zL ns vs⟩ Q:=by
 refine EF (lkI hd hz g1) (u2:=u2) (u3:=u3) ?_ ?_ ?_<;>rw[stI hd hz]
 ·exact lkI hd hy g2
 ·rw[stI hd hy];exact lkI hd hx g3
 ·rw[stI hd hy,stI hd hx];exact h
variable {C:Cx}
theorem SM.at{w:FL}{σ:Sg}{x la lb:Addr}{ws:List Str}{dx d js jp:Addr}{F:Addr->Prop}{ns:List (Str×MV)}(h:SM w σ x la lb ws dx d js jp F ns):
 nk ns "a" =EU (.r la)∧nk ns "b" =EU (.r lb)∧nk ns "b2j" =EU (.r d)∧nk ns "bjunk" =EU (.r js)∧nk ns "matching_blocks" =EU (.k .none)∧nk ns "find_longest_match" =none∧ns.length<20:=by
 rw[h.ns];unfold smN sq2 sq1 sm0;refine (ia6 ?_ ?_ ?_ ?_ ?_ ?_ ?_);all_goals first|walk_at "nk" |(apply mO;walk_at "len1")
end
theorem eU{X:Xc}{test:Fw}{body rest:List Stmt}{pos:Pos}{σ:Sg}{ρ:Lo}{Q:Fl->St->Prop}(h:WB X test ⟨σ,ρ⟩ λb st₁=>b=false∧st₁=⟨σ,ρ⟩)(hr:WS X rest ⟨σ,ρ⟩ Q):WS X (.While test body [] pos::rest) ⟨σ,ρ⟩ Q:=by
 refine aa (dg (λ_ st=>st=⟨σ,ρ⟩) (λJ hJ n st hst=>?_) 0 rfl);subst hst;intro φ s I;refine ab (h φ s I) λb s₁ pp=>?_;obtain ⟨st₁,I₁,k,hb,hs⟩:=pp;subst hb hs;refine ⟨_,I₁,k,?_⟩;show if false=true then _ else _
 rw[if_neg s!"d"];exact ak hr
structure IdxOk (vs:List MV) (k:Int) (m:MV):Prop where
 z:0≤k
 f:k<2^63
 x:vs[k.toNat]?=EU m
theorem vP{B:List Str}{b q:Nat}(h:b<q)(h2:q≤B.length)(h6:B.length<200):∃y,B[q-1]?=EU y∧IdxOk (B.map .s) ((q:Int)-1) (.s y):=by
 have hq:q-1<B.length:=E1 (p1' h) h2;refine (af (B[q-1]) (E2 hq) ⟨tp0 h,Int.lt_trans (Int.sub_lt_self _ s!"d") (iTT (E3 h2 h6) (.refl true)),?_⟩);rw[tp1 h,FA,E2 hq];rfl
theorem vM{B:List Str}{b q z:Nat}(h:q+z<b)(h2:b≤B.length)(h6:B.length<200):∃y,B[q+z]?=EU y∧IdxOk (B.map .s) ((q:Int)+z) (.s y):=by
 have hq:q+z<B.length:=E1 h h2;refine (af (B[q+z]) (E2 hq) ⟨Fg (q+z),iTT (a:=q+z) (Fs hq h6) (.refl true),?_⟩);rw[tpa,FA,E2 hq];rfl
theorem ltT{a b:Nat}(h:a<b):decide ((a:Int)<b)=true:=decide_eq_true (FP.mpr h)
theorem ltF{a b:Nat}(h:¬a<b):decide ((a:Int)<b)=false:=decide_eq_false λq=>h (FP.mp q)
theorem AM{x y:Str}(h:x≠y):(x==y)=false:=beq_eq_false_iff_ne.mpr h
theorem rl{X:Xc}(G:Gd X.C)(O:XOk X){k:Nat}(R:Rm (k+2) X.A)(g_Match:X.gs.lookup (EW "Match")=EU (.ref 153:Value)){la lb js:Addr}{As Bs:List Str}{alo ahi blo bhi p q z:Nat}{σ:Sg}{ρ:Lo}
 (ela:σ la=EU (.lst (As.map .s))) (elb:σ lb=EU (.lst (Bs.map .s))) (ejs:σ js=EU fp) (h2:ahi≤As.length) (h4:bhi≤Bs.length) (h5:As.length<200) (h6:Bs.length<200) (hp:p≤ahi) (hq:q≤bhi)
 (l_alo:lk ρ "alo" =EU (EU (.i (alo:Int)))) (l_ahi:lk ρ "ahi" =EU (EU (.i (ahi:Int)))) (l_blo:lk ρ "blo" =EU (EU (.i (blo:Int)))) (l_bhi:lk ρ "bhi" =EU (EU (.i (bhi:Int))))
 (l_a:lk ρ "a" =EU (EU (.r la))) (l_b:lk ρ "b" =EU (EU (.r lb))) (l_is:lk ρ "isbjunk" =EU (EU (.bm "set.__contains__" (.r js))))
 (l_bi:lk ρ "besti" =EU (EU (.i (p:Int)))) (l_bj:lk ρ "bestj" =EU (EU (.i (q:Int)))) (l_bs:lk ρ "bestsize" =EU (EU (.i (z:Int))))
 (cL:alo<p->blo<q->∀x y,As[p-1]?=EU x->Bs[q-1]?=EU y->x≠y) (cR:p+z<ahi->q+z<bhi->∀x y,As[p+z]?=EU x->Bs[q+z]?=EU y->x≠y) {Q:Fl->St->Prop} (hQ:Q (.ret (.t (.ref 153) [.i (p:Int),.i (q:Int),.i (z:Int)])) ⟨σ,ρ⟩):
 WS X ((cu (aH 6 6)).drop 8) ⟨σ,ρ⟩ Q:=by
 conv=>arg 2;whnf
 have N:=kn G
 refine eU ?_ ?_
 ·refine bW (aC s!"r" (ai O l_bi (ai O l_alo (hN (ay ?_)))))
  by_cases a1:alo<p
  rotate_left
  ·exact aD (ltF a1) ⟨rfl,rfl⟩
  refine ift (ltT a1) (bW (aC s!"r" (ai O l_bj (ai O l_blo (hN (ay ?_))))))
  by_cases a2:blo<q
  rotate_left
  ·exact aD (ltF a2) ⟨rfl,rfl⟩
  refine ad (vP a2 (EY hq h4) h6) λy y1 y2=>?_
  refine ad (vP a1 (EY hp h2) h5) λx x1 x2=>?_
  refine ift (ltT a2) (bW (gH (bZ s!"r" (fc (st:=⟨σ,ρ⟩) O l_is trivial (ac (aP (ai O l_b (ar (ai O l_bj (aq (fa (aY (st:=⟨σ,ρ⟩) (cq (λ_ _=>s!"r") (λ_ _=>s!"r")) elb y2.z y2.f y2.x (ag (eZ ejs (ay ?_)))))))))))))))
  refine ift rfl (bW (aC s!"r" (aP (ai O l_a (ar (ai O l_bi (aq (fa (aY (st:=⟨σ,ρ⟩) (cq (λ_ _=>s!"r") (λ_ _=>s!"r")) ela x2.z x2.f x2.x (aP (ai O l_b (ar (ai O l_bj (aq (fa (aY (st:=⟨σ,ρ⟩) (cq (λ_ _=>s!"r") (λ_ _=>s!"r")) elb y2.z y2.f y2.x (oM (ay ?_))))))))))))))))))
  exact aD (AM (cL a1 a2 x y x1 y1)) ⟨rfl,rfl⟩
 refine eU ?_ ?_
 ·refine bW (aC s!"r" (ar (ai O l_bi (ai O l_bs (c0 (ai O l_ahi (gV (ay ?_))))))))
  by_cases a1:p+z<ahi
  rotate_left
  ·exact aD (ltF (a:=p+z) a1) ⟨rfl,rfl⟩
  refine ift (ltT (a:=p+z) a1) (bW (aC s!"r" (ar (ai O l_bj (ai O l_bs (c0 (ai O l_bhi (gV (ay ?_)))))))))
  by_cases a2:q+z<bhi
  rotate_left
  ·exact aD (ltF (a:=q+z) a2) ⟨rfl,rfl⟩
  refine ad (vM a2 h4 h6) λy y1 y2=>?_
  refine ad (vM a1 h2 h5) λx x1 x2=>?_
  refine ift (ltT (a:=q+z) a2) (bW (gH (bZ s!"r" (fc (st:=⟨σ,ρ⟩) O l_is trivial (ac (aP (ai O l_b (ar (ai O l_bj (ai O l_bs (c0 (aY (st:=⟨σ,ρ⟩) (cq (λ_ _=>s!"r") (λ_ _=>s!"r")) elb y2.z y2.f y2.x (ag (eZ ejs (ay ?_)))))))))))))))
  refine ift rfl (bW (aC s!"r" (aP (ai O l_a (ar (ai O l_bi (ai O l_bs (c0 (aY (st:=⟨σ,ρ⟩) (cq (λ_ _=>s!"r") (λ_ _=>s!"r")) ela x2.z x2.f x2.x (aP (ai O l_b (ar (ai O l_bj (ai O l_bs (c0 (aY (st:=⟨σ,ρ⟩) (cq (λ_ _=>s!"r") (λ_ _=>s!"r")) elb y2.z y2.f y2.x (oM (ay ?_))))))))))))))))))
  exact aD (AM (cR a1 a2 x y x1 y1)) ⟨rfl,rfl⟩
 refine eU ?_ ?_
 ·refine bW (aC s!"r" (ai O l_bi (ai O l_alo (hN (ay ?_)))))
  by_cases a1:alo<p
  rotate_left
  ·exact aD (ltF a1) ⟨rfl,rfl⟩
  refine ift (ltT a1) (bW (aC s!"r" (ai O l_bj (ai O l_blo (hN (ay ?_))))))
  by_cases a2:blo<q
  rotate_left
  ·exact aD (ltF a2) ⟨rfl,rfl⟩
  refine ad (vP a2 (EY hq h4) h6) λy y1 y2=>?_
  refine ift (ltT a2) (bW (bZ s!"r" (fc (st:=⟨σ,ρ⟩) O l_is trivial (ac (aP (ai O l_b (ar (ai O l_bj (aq (fa (aY (st:=⟨σ,ρ⟩) (cq (λ_ _=>s!"r") (λ_ _=>s!"r")) elb y2.z y2.f y2.x (ag (eZ ejs (ay ?_))))))))))))))
  exact aD rfl ⟨rfl,rfl⟩
 refine eU ?_ ?_
 ·refine bW (aC s!"r" (ar (ai O l_bi (ai O l_bs (c0 (ai O l_ahi (gV (ay ?_))))))))
  by_cases a1:p+z<ahi
  rotate_left
  ·exact aD (ltF (a:=p+z) a1) ⟨rfl,rfl⟩
  refine ift (ltT (a:=p+z) a1) (bW (aC s!"r" (ar (ai O l_bj (ai O l_bs (c0 (ai O l_bhi (gV (ay ?_)))))))))
  by_cases a2:q+z<bhi
  rotate_left
  ·exact aD (ltF (a:=q+z) a2) ⟨rfl,rfl⟩
  refine ad (vM a2 h4 h6) λy y1 y2=>?_
  refine ift (ltT (a:=q+z) a2) (bW (bZ s!"r" (fc (st:=⟨σ,ρ⟩) O l_is trivial (ac (aP (ai O l_b (ar (ai O l_bj (ai O l_bs (c0 (aY (st:=⟨σ,ρ⟩) (cq (λ_ _=>s!"r") (λ_ _=>s!"r")) elb y2.z y2.f y2.x (ag (eZ ejs (ay ?_))))))))))))))
  exact aD rfl ⟨rfl,rfl⟩
 refine aa (bd (fW O N g_Match trivial trivial s!"k" ?_))
 repeat walk_at "s"
 refine gK (iU (st:=⟨σ,ρ⟩) (CtA.mono (uP G R) ?_))
 rintro m σ' ⟨rfl,rfl⟩
 exact hQ
section
variable {C:Cx}
noncomputable def Row1(A B:List Str)(alo t:Nat)(l:List (Int×MV)):Prop:=l.length≤1∧∀key m,bw l key=EU m->∃(j:Nat) (w:Str),key=(j:Int)∧0<t∧A[alo+t-1]?=EU w∧B[j]?=EU w
theorem jk{A B:List Str}{blo bhi alo t:Nat}(h:hit A B blo bhi (alo+t)=none∨(fhp A B blo bhi alo t).isSome=true):bN A B blo bhi alo (t+1)=bN A B blo bhi alo t:=by
 unfold bN;rw[show fhp A B blo bhi alo (t+1)=match fhp A B blo bhi alo t with|some r=>EU r|none=>(hit A B blo bhi (alo+t)).map λj=>(alo+t,j) from rfl]
 cases e:fhp A B blo bhi alo t with
 |some r=>rfl
 |none=>
  rcases h with h|h
  ·rw[h];rfl
  ·rw[e] at h;cases h
theorem wF{A B:List Str}{blo bhi alo t j:Nat}(h:hit A B blo bhi (alo+t)=EU j)(h0:fhp A B blo bhi alo t=none):bN A B blo bhi alo (t+1)=(alo+t,j,1):=by
 unfold bN;rw[show fhp A B blo bhi alo (t+1)=match fhp A B blo bhi alo t with|some r=>EU r|none=>(hit A B blo bhi (alo+t)).map λj=>(alo+t,j) from rfl,h0,h];rfl
theorem mT{A B:List Str}{blo bhi alo t:Nat}:(bN A B blo bhi alo t).2.2=if (fhp A B blo bhi alo t).isSome then 1 else 0:=by
 unfold bN;cases fhp A B blo bhi alo t<;>rfl
theorem tR{As Bs:List Str}{alo ahi blo bhi:Nat}{p:Nat×Nat×Nat}(hr:Rows As Bs)(h1:alo≤ahi)(h2:ahi≤As.length)(h3:blo≤bhi)(h4:bhi≤Bs.length)(hp:p=bN As Bs blo bhi alo (ahi-alo)):
 p.1≤ahi∧p.2.1≤bhi∧(alo<p.1->blo<p.2.1->∀x y,As[p.1-1]?=EU x->Bs[p.2.1-1]?=EU y->x≠y)∧(p.1+p.2.2<ahi->p.2.1+p.2.2<bhi->∀x y,As[p.1+p.2.2]?=EU x->Bs[p.2.1+p.2.2]?=EU y->x≠y):=by
 unfold bN at hp
 cases e:fhp As Bs blo bhi alo (ahi-alo) with
 |some r=>
  obtain ⟨i,j⟩:=r;rw[e] at hp;subst hp;refine xa2 (eP e) λf1 f2 f3=>?_;refine xa2 (eI f1) λz1 w3 w4=>?_;refine ad z1 λw w1 w2=>?_;clear z1;refine (ia3 (by dsimp only;exact Fu (Nat.add_sub_cancel' h1▸f3)) (by dsimp only;exact v6 w4) (λa b x y hx hy hxy=>?_) (λa b x y hx hy hxy=>?_))
  ·dsimp only at a b hx hy;subst hxy;exact hr.adj (i-1) (j-1) x w hx hy (by rw[show i-1+1=i by exact AZ a];exact w1) (by rw[show j-1+1=j by exact AZ b];exact w2)
  ·dsimp only at a b hx hy;subst hxy;exact hr.adj i j w x w1 w2 hx hy
 |none=>
  rw[e] at hp;subst hp;refine (ia3 h1 h3 (λa=>absurd a (FC _)) (λa b x y hx hy hxy=>?_));dsimp only[Nat.add_zero] at a b hx hy;subst hxy;have hn:=kE e alo (Fe _) (by exact Eb a);unfold hit at hn;rw[hx] at hn;have:=List.find?_eq_none.mp hn blo (d7.mpr hy);simp at this;exact FC _ (E1 b this)
theorem wR(G:Gd C){x:Addr}{alo ahi blo bhi:Nat}(v:Value):d5 C (dD (aH 6 6) "find_longest_match" "SequenceMatcher.find_longest_match" (.ref 207) v (.str "cpy313.difflib" 286) none (.ref 213)) [.r x,.i (alo:Int),.i (ahi:Int),.i (blo:Int),.i (bhi:Int)] [] ((["self","alo","ahi","blo","bhi"]:List Str).zip [.r x,.i (alo:Int),.i (ahi:Int),.i (blo:Int),.i (bhi:Int)]):=by
 refine f8 (T:=207) (o:=dT [.int 0 556,.none,.int 0 557,.none]) rfl (G.says.obj s!"k" rfl) rfl λvs ks hv hk=>?_
 obtain ⟨a0,a1,a2,a3,a4,rfl⟩:∃a0 a1 a2 a3 a4,vs=[a0,a1,a2,a3,a4]:=by
  rcases vs with _|⟨a0,_|⟨a1,_|⟨a2,_|⟨a3,_|⟨a4,_|_⟩⟩⟩⟩⟩<;>simp at hv
  exact ⟨a0,a1,a2,a3,a4,rfl⟩
 have e_ks:ks=[]:=FT.mp hk;subst e_ks;refine ⟨_,[("self",a0),("alo",a1),("ahi",a2),("blo",a3),("bhi",a4)],s!"2",s!"k",s!"k",λh r q=>?_⟩;obtain ⟨r0,r⟩:=r.c;obtain ⟨r1,r⟩:=r.c;obtain ⟨r2,r⟩:=r.c;obtain ⟨r3,r⟩:=r.c;obtain ⟨r4,r⟩:=r.c;exact .cons (v:=a0) s!"k" r0 (.cons (v:=a1) s!"k" r1 (.cons (v:=a2) s!"k" r2 (.cons (v:=a3) s!"k" r3 (.cons (v:=a4) s!"k" r4 .nil))))
noncomputable def bR:List String:=["self","alo","ahi","blo","bhi","a","b","b2j","isbjunk","besti","bestj","bestsize","j2len","nothing","i","j2lenget","newj2len","j","k"]
theorem zf:bR.Nodup:=s!"1"
noncomputable abbrev OM:=Option MV
noncomputable def flV(x la lb d js nl:Addr)(alo ahi blo bhi:Nat)(p:Nat×Nat×Nat)(j2:OM)(u:OM×OM×OM×OM×OM):List OM:=
 [EU (.r x),EU (.i alo),EU (.i ahi),EU (.i blo),EU (.i bhi),EU (.r la),EU (.r lb),EU (.r d),EU (.bm "set.__contains__" (.r js)),EU (.i p.1),EU (.i p.2.1),EU (.i p.2.2),j2,EU (.r nl),u.1,u.2.1,u.2.2.1,u.2.2.2.1,u.2.2.2.2]
structure FJ (w:FL) (σ1:Sg) (dj0:Addr) (As Bs:List Str) (alo t:Nat) (dj:Addr) (lj:List (Int×MV)) (σ:Sg):Prop where
 f:∀b m,σ1 b=EU m->b≠dj0->σ b=EU m
 e:σ dj=EU (dO (intKind pgm w) lj)
 r:Row1 As Bs alo t lj
theorem Row1.nil{As Bs:List Str}{alo t:Nat}:Row1 As Bs alo t []:=⟨FZ _,λ_ _ h=>by cases h⟩
set_option maxHeartbeats 4000000 in
theorem yh(G:Gd C){A:Fb}{k:Nat}(R:Rm (k+3) A){x la lb dx d js jp:Addr}{F:Addr->Prop}{ns:List (Str×MV)}{As Bs:List Str}{alo ahi blo bhi:Nat}{σ:Sg}(S:SM C.w σ x la lb Bs dx d js jp F ns)(ela:σ la=EU (.lst (As.map .s)))(elb:σ lb=EU (.lst (Bs.map .s)))(hr:Rows As Bs)(h1:alo≤ahi)(h2:ahi≤As.length)(h3:blo≤bhi)(h4:bhi≤Bs.length)(h5:As.length<200)(h6:Bs.length<200):
 CtA C A (.ref 214) [.r x,.i (alo:Int),.i (ahi:Int),.i (blo:Int),.i (bhi:Int)] [] σ λm σ'=>m= .t (.ref 153) [.i ((bN As Bs blo bhi alo (ahi-alo)).1:Int),.i ((bN As Bs blo bhi alo (ahi-alo)).2.1:Int),.i ((bN As Bs blo bhi alo (ahi-alo)).2.2:Int)]∧∀b m,σ b=EU m->σ' b=EU m:=by
 refine aW G R (a:=214) (c:=213) (x:=aH 6 6) (n:="find_longest_match") (q:="SequenceMatcher.find_longest_match") (d:=(.ref 207)) (pm:=(.str "cpy313.difflib" 286)) (an:=none) (t:=559)
  (ps:=(["self","alo","ahi","blo","bhi"]:List Str).zip [.r x,.i (alo:Int),.i (ahi:Int),.i (blo:Int),.i (bhi:Int)]) s!"k" s!"k" s!"k" s!"k" [("len",.builtin "len"),("range",.type "range"),("Match",.ref 153)] s!"k" (λv=>wR G v) (ρ:=zL bR [EU (.r x),EU (.i (alo:Int)),EU (.i (ahi:Int)),EU (.i (blo:Int)),EU (.i (bhi:Int)),none,none,none,none,none,none,none,none,none,none,none,none,none,none]) s!"k" λQf hQf X hC O R' hin hg hE=>?_
 subst hC
 have N:=kn G
 have hd:=zf
 have i_self:gI bR 0=EU "self" :=rfl
 have i_alo:gI bR 1=EU "alo" :=rfl
 have i_ahi:gI bR 2=EU "ahi" :=rfl
 have i_blo:gI bR 3=EU "blo" :=rfl
 have i_bhi:gI bR 4=EU "bhi" :=rfl
 have i_a:gI bR 5=EU "a" :=rfl
 have i_b:gI bR 6=EU "b" :=rfl
 have i_b2j:gI bR 7=EU "b2j" :=rfl
 have i_isbjunk:gI bR 8=EU "isbjunk" :=rfl
 have i_besti:gI bR 9=EU "besti" :=rfl
 have i_bestj:gI bR 10=EU "bestj" :=rfl
 have i_bestsize:gI bR 11=EU "bestsize" :=rfl
 have i_j2len:gI bR 12=EU "j2len" :=rfl
 have i_nothing:gI bR 13=EU "nothing" :=rfl
 have i_i:gI bR 14=EU "i" :=rfl
 have i_j2lenget:gI bR 15=EU "j2lenget" :=rfl
 have i_newj2len:gI bR 16=EU "newj2len" :=rfl
 have i_j:gI bR 17=EU "j" :=rfl
 have i_k:gI bR 18=EU "k" :=rfl
 have g_len:X.gs.lookup (EW "len")=EU (.builtin "len" :Value):=hg▸s!"k"
 have g_range:X.gs.lookup (EW "range")=EU (.type "range" :Value):=hg▸s!"k"
 have g_Match:X.gs.lookup (EW "Match")=EU (.ref 153:Value):=hg▸s!"k"
 clear hg
 conv=>arg 2;whnf
 refine xa4 S.at λn_a n_b n_d n_j z1=>?_;refine xa2 z1 λn_m _ n_l=>?_;clear z1
 have e1:=S.i
 have e2:=S.n
 have ejs:=S.js
 refine aa (aA hin s!"2" (aI ⟨trivial,?_⟩))
 repeat walk_at "s"
 refine uH s!"sg" ?_
 repeat walk_at "s"
 refine jr (x:="besti") (y:="bestj") (z:="bestsize") O s!"2" (by refine xe2 hE λ_ _ hE=>?_;rw[hE];kernel_rfl) ?_
 repeat walk_at "s"
 refine oL hd ‹_› ‹_› ‹_› rfl rfl rfl ?_
 repeat walk_at "s"
 refine ky (intKind pgm X.C.w) λdj0 nd0=>?_
 dsimp only
 repeat walk_at "s"
 refine λnl nnl=>?_
 dsimp only at nd0 nnl⊢
 repeat walk_at "s"
 have nd0':σ dj0=none:=nd0
 have hdj0:dj0≠nl:=aj nnl (Sg.put_same ..)
 have f0:∀b m,σ b=EU m->((σ.put dj0 (dO (intKind pgm X.C.w) [])).put nl (.lst [])) b=EU m:=λb m hb=>by
  have q:=aj nd0 hb
  rw[Sg.put_ne _ _ (aj nnl ((Sg.put_ne _ _ q).trans hb)),Sg.put_ne _ _ q];exact hb
 have s_dj:((σ.put dj0 (dO (intKind pgm X.C.w) [])).put nl (.lst [])) dj0=EU (dO (intKind pgm X.C.w) []):=s!"sg"
 have s_nl:((σ.put dj0 (dO (intKind pgm X.C.w) [])).put nl (.lst [])) nl=EU (.lst []):=s!"sg"
 generalize (σ.put dj0 (dO (intKind pgm X.C.w) [])).put nl (.lst [])=σ1 at f0 s_dj s_nl⊢
 clear nnl
 have g_la:=f0 _ _ ela
 have g_lb:=f0 _ _ elb
 have g_js:=f0 _ _ ejs
 have g_x:=f0 _ _ e1
 have g_dx:=f0 _ _ e2
 refine fy S.ix λl q1 q2 q3 q4 q5=>?_
 have g_d:=f0 _ _ q1
 refine fD (mo:=λi=>rgI ((alo:Int)+i) (((ahi-alo:Nat):Int)-i)) (vs:=cX alo (ahi-alo)) (Cond:=λ_=>True)
  (λt=>Az bR (λa:Addr×List (Int×MV)×OM×OM×OM×OM×OM=>flV x la lb d js nl alo ahi blo bhi (bN As Bs blo bhi alo t) (EU (.r a.1)) a.2.2) λa=>FJ X.C.w σ1 dj0 As Bs alo t a.1 a.2.1) (gA O alo (ahi-alo)) (λ_=>s!"2") (λ_ _=>s!"2")
  (bQ O g_range trivial (ac (be O hd ‹_› rfl (ac (be O hd ‹_› rfl (ag (qh (st:=⟨σ1,_⟩) λrb nb=>⟨.mk (dj0,[],none,none,none,none,none) ⟨λb m hb _=>(Sg.put_ne _ _ (aj nb hb)).trans hb,
   (Sg.put_ne _ _ (aj nb s_dj)).trans s_dj,.nil⟩,hO (iGe (.refl true)) (by exact jTT (E3 (EY h1 h2) h5) s!"d") (iGe (.refl true)) (by exact jTT (E3 h2 h5) s!"d") (ahi-alo) (EP (by exact h1)) (Sg.put_same ..)⟩)))))))
  (λ_ _ _=>trivial) ?_ ?_
 ·rintro J1 hJ1 t ht _ ⟨⟨dj,lj,ui,ujg,unj,uj,uk⟩,h⟩
  rename_i σ2
  obtain ⟨f2,edj,r1,r2⟩:=h
  have ht':t<ahi-alo:=by simpa[cX] using ht
  have hA:alo+t<As.length:=by exact E1 (Nat.add_lt_of_lt_sub' ht') h2
  have ei:(cX (alo:Int) (ahi-alo))[t]= .i ((alo+t:Nat):Int):=by simp only[cX,F9,List.getElem_range];congr 1
  rw[ei]
  refine cG O hd ‹_› rfl ?_
  refine aa (ah s!"2" s!"2" trivial (bh s!"2" (be O hd ‹_› rfl (Ds edj (cG O hd ‹_› rfl ?_)))))
  refine aa (ah s!"2" s!"2" trivial (ky (intKind pgm X.C.w) λdn nn=>?_))
  refine cG O hd ‹_› rfl ?_
  dsimp only at nn f2 edj⊢
  have la_dj:la≠dj0:=λh=>by clear nd0 nd0' hdj0 hJ1 f2;subst h;rw[g_la] at s_dj;cases s_dj
  have d_dj:d≠dj0:=λh=>by
   clear nd0 hdj0 s_dj hJ1 f2 la_dj;subst h
   have:σ d=none:=nd0'
   rw[q1] at this;cases this
  have keep2:∀b m,σ b=EU m->σ2 b=EU m:=λb m hb=>f2 b m (f0 b m hb) (λh=>by clear nd0 hdj0 s_dj hJ1 f2 la_dj d_dj;subst h;rw[nd0'] at hb;cases hb)
  have keep3:∀b m,σ2 b=EU m->(σ2.put dn (dO (intKind pgm X.C.w) [])) b=EU m:=λb m hb=>(Sg.put_ne _ _ (aj nn hb)).trans hb
  have s_nl3:=keep3 _ _ (f2 _ _ s_nl (E8 hdj0))
  have s_la3:=keep3 _ _ (keep2 _ _ ela)
  have s_d3:=keep3 _ _ (keep2 _ _ q1)
  have s_dj3:=keep3 _ _ edj
  have s_dn3:(σ2.put dn (dO (intKind pgm X.C.w) [])) dn=EU (dO (intKind pgm X.C.w) []):=Sg.put_same ..
  have f3:∀b m,σ1 b=EU m->b≠dj0->(σ2.put dn (dO (intKind pgm X.C.w) [])) b=EU m:=λb m hb nb=>keep3 b m (f2 b m hb nb)
  have o1:∀b m,σ1 b=EU m->b≠dj0->b≠dn:=λb m hb nb=>aj nn (f2 b m hb nb)
  have dj_dn:dj≠dn:=aj nn edj
  obtain ⟨w,hw⟩:∃w,w=As[alo+t]:=⟨_,rfl⟩
  have hw?:As[alo+t]?=EU w:=by rw[hw];exact E2 hA
  obtain ⟨lx,hlx,elx⟩:∃lx,(bw l w).getD (.r nl)= .r lx∧(σ2.put dn (dO (intKind pgm X.C.w) [])) lx=EU (.lst (iL (bC Bs w))):=by
   cases hm:bw l w with
   |none=>
    refine (af nl rfl ?_)
    rw[s_nl3,m7 λhmem=>?_]
    ·rfl
    ·obtain ⟨a,ha⟩:=q4 w (by rw[Gp];exact hmem)
     rw[hm] at ha;cases ha
   |some m=>
    refine ad (q3 w m hm) λax z1 z2=>?_;clear hm;subst z1;refine xa2 z2 λ_ _ hax=>?_;clear z2
    rw[Gp] at hax
    exact (af ax rfl (keep3 _ _ (keep2 _ _ hax)))
  have lx_dn:lx≠dn:=λh=>by clear nn keep3 s_nl3 s_la3 s_d3 s_dj3 f3 o1 dj_dn;subst h;rw[s_dn3] at elx;cases elx
  have hpl:(bC Bs w).length≤1:=hr.uniq w (by rw[hw];exact FB _)
  have hhit:hit As Bs blo bhi (alo+t)=(bC Bs w).find? λj=>decide (blo≤j∧j<bhi):=by unfold hit;rw[hw?]
  generalize hσ3:σ2.put dn (dO (intKind pgm X.C.w) [])=σ3 at keep3 s_nl3 s_la3 s_d3 s_dj3 s_dn3 f3 elx⊢
  let P:St->Prop:=Az bR (λa:OM×List (Int×MV)×OM×OM×OM×OM=>flV x la lb d js nl alo ahi blo bhi (bN As Bs blo bhi alo (t+1)) a.1 (a.2.2.1,a.2.2.2.1,EU (.r dn),a.2.2.2.2.1,a.2.2.2.2.2))
   λa σ=>σ lx=EU (.lst (iL (bC Bs w)))∧FJ X.C.w σ1 dj0 As Bs alo (t+1) dn a.2.1 σ
  refine aa (kf (Q':=λfl st=>fl= .next∧P st) ?_ ?_)
  rotate_left
  ·intro _ _ zr1;refine xa1 zr1 λz3 z4=>?_;clear zr1;subst z3;obtain ⟨⟨_,lj',_,_,_,_⟩,_,p⟩:=z4
   exact aa (ah s!"2" s!"2" trivial (be O hd ‹_› rfl (cG O hd ‹_› rfl (ak (hJ1 _ _ (.mk (dn,lj',_,_,_,_,_) p))))))
  generalize hst3:(St.mk σ3 _)=st3
  have P0:hit As Bs blo bhi (alo+t)=none->P st3:=λhn=>by
   subst hst3
   have eb:bN As Bs blo bhi alo (t+1)=bN As Bs blo bhi alo t:=jk (.inl hn)
   show Az _ _ _ _
   rw[eb]
   exact .mk (_,[],_,_,_,_) ⟨elx,f3,s_dn3,.nil⟩
  refine fD (mo:=λi=> .itl lx i) (vs:=iL (bC Bs w)) (Cond:=λst=>st.σ lx=EU (.lst (iL (bC Bs w)))) (λn st=>(n=0∧st=st3)∨(n=1∧P st)) (ci O lx _) (λ_=>s!"2") (λ_ _=>s!"2")
   ?_ (λi st h=>by rcases h with ⟨_,rfl⟩|⟨_,⟨_,h⟩⟩;exact hst3▸elx;exact h.1) ?_ ?_
  ·clear P0;subst hst3
   exact (bp (T:="dict") (id:="dict.get") trivial s!"2" s!"d" s!"2" PySem.F.plainAttrs_dict PySem.F.slot_dict_get PySem.F.type_dict_get (be O hd ‹_› rfl ⟨mP s_d3,ac (aP (be O hd ‹_› rfl (be O hd ‹_› rfl
    (aY (st:=⟨σ3,_⟩) (cq (λ_ _=>s!"r") (λ_ _=>s!"r")) s_la3 (Fg _) (iTT (Fs hA h5) (.refl true)) (m:= .s w) (by rw[FV,FA,hw?];rfl)
     (ac (be O hd ‹_› rfl (ag (C8 (st:=⟨σ3,_⟩) G qi s_d3 (by rw[hlx];exact ⟨.inl ⟨rfl,rfl⟩,cB elx⟩)))))))))⟩))
  ·intro J2 hJ2 n hn st hst
   have lw:(iL (bC Bs w)).length=(bC Bs w).length:=by simp[iL]
   have hn0:n=0:=by exact Nat.lt_one_iff.mp (E1 hn (lw▸hpl))
   subst hn0
   rcases hst with ⟨_,rfl⟩|⟨h0,_⟩
   rotate_left
   ·exact absurd (E6 (Eq.symm h0)) s!"d"
   obtain ⟨j,hj⟩:∃j,bC Bs w=[j]:=by
    cases hp:bC Bs w with
    |nil=>rw[lw,hp] at hn;simp at hn
    |cons j r=>
     rw[hp] at hpl
     cases r with
     |nil=>exact ⟨j,rfl⟩
     |cons _ _=>simp at hpl
   have hBj:Bs[j]?=EU w:=d7.mp (by rw[hj];simp)
   have hjl:j<Bs.length:=(E5.mp hBj).1
   have ev:(iL (bC Bs w))[0]= .i (j:Int):=by simp[iL,hj]
   rw[ev]
   clear P0;subst hst3
   refine cG O hd ‹_› rfl ?_
   refine aa (bl (aC s!"r" (be O hd ‹_› rfl (be O hd ‹_› rfl (gV (ay ?_))))))
   have PJ:hit As Bs blo bhi (alo+t)=none->P ⟨σ3,zL bR (flV x la lb d js nl alo ahi blo bhi (bN As Bs blo bhi alo t) (EU (.r dj)) (EU (.i ((alo+t:Nat):Int)),EU (.bm "dict.get" (.r dj)),EU (.r dn),EU (.i (j:Int)),uk))⟩:=λhn=>by
    have eb:bN As Bs blo bhi alo (t+1)=bN As Bs blo bhi alo t:=jk (.inl hn)
    show Az _ _ _ _
    rw[eb]
    exact .mk (_,[],_,_,_,_) ⟨elx,f3,s_dn3,.nil⟩
   by_cases c1:j<blo
   ·refine ift s!"tt" ?_
    repeat walk_at "s"
    exact hJ2 _ _ (.inr ⟨rfl,PJ (by rw[hhit,hj];simp;exact λz_h=>absurd c1 (Ga.mpr z_h))⟩)
   refine aD s!"ff" ?_
   repeat walk_at "s"
   by_cases c2:bhi≤j
   ·refine ift s!"tt" ?_
    repeat walk_at "s"
    exact ⟨rfl,PJ (by rw[hhit,hj];simp;exact Dj c2)⟩
   refine aD s!"ff" ?_
   repeat walk_at "s"
   have hh:hit As Bs blo bhi (alo+t)=EU j:=by rw[hhit,hj];simp;exact ⟨Ga.mp c1,Nat.not_le.mp c2⟩
   have hno:bw lj ((j:Int)-1)=none:=by
    cases hm:bw lj ((j:Int)-1) with
    |none=>rfl
    |some m=>
     refine k7 (r2 _ _ hm) λj' w' k1 k2 k3 k4=>?_
     have ej:j=j'+1:=by exact Int.ofNat_inj.mp (show (_:Int)=((_+1:Nat):Int) from Int.sub_eq_iff_eq_add.mp k1)
     exact absurd (ej▸hBj) (hr.adj (alo+t-1) j' w' w k3 k4 (by rw[show alo+t-1+1=alo+t by exact GX (EY k2 (Hi _ _))];exact hw?))
   refine fc (st:=⟨σ3,_⟩) O (id:="dict.get") (a:=dj) (lkI hd ‹_› rfl) trivial (ac (ar (be O hd ‹_› rfl (aq (fa (ac (aq (ag (AK G ve s_dj3 ?_)))))))))
   rw[hno]
   refine aq (c0 ?_)
   refine cG O hd ‹_› rfl ?_
   refine eL (λ_ _ _=>rfl) (be O hd ‹_› rfl (be O hd ‹_› rfl (Al ve s_dn3 trivial s!"4" ?_)))
   have f5:∀b m,b≠dn->σ3 b=EU m->(σ3.put dn (dO (intKind pgm X.C.w) (cJ [] (j:Int) (.i (0+1))))) b=EU m:=λb m nb hb=>(Sg.put_ne _ _ nb).trans hb
   have s_dn5:(σ3.put dn (dO (intKind pgm X.C.w) (cJ [] (j:Int) (.i (0+1))))) dn=EU (dO (intKind pgm X.C.w) (cJ [] (j:Int) (.i (0+1)))):=Sg.put_same ..
   have r5:Row1 As Bs alo (t+1) (cJ [] (j:Int) (.i (0+1))):=⟨by simp[cJ],λkey m hm=>by
    rw[hV] at hm
    by_cases q:key=(j:Int)
    ·exact (fA j w q (by exact Hi _ _) (by rw[show alo+(t+1)-1=alo+t by exact rfl];exact hw?) hBj)
    ·rw[if_neg q] at hm;simp[bw] at hm⟩
   refine aa (bl (aC s!"r" (be O hd ‹_› rfl (be O hd ‹_› rfl (hN (ay ?_))))))
   cases hf:fhp As Bs blo bhi alo t with
   |some rr=>
    have eb:bN As Bs blo bhi alo (t+1)=bN As Bs blo bhi alo t:=jk (.inr (by rw[hf];rfl))
    have b22:(bN As Bs blo bhi alo t).2.2=1:=by rw[mT,hf];rfl
    refine aD (by rw[b22];decide) ?_
    repeat walk_at "s"
    refine hJ2 _ _ (.inr ⟨rfl,?_⟩)
    show Az _ _ _ _
    rw[eb]
    exact .mk (_,_,_,_,_,_) ⟨f5 lx _ lx_dn elx,λb m hb nb=>f5 b m (o1 b m hb nb) (f3 b m hb nb),s_dn5,r5⟩
   |none=>
    have eb:bN As Bs blo bhi alo (t+1)=(alo+t,j,1):=wF hh hf
    have b22:(bN As Bs blo bhi alo t).2.2=0:=by rw[mT,hf];rfl
    refine ift (by rw[b22];decide) ?_
    repeat walk_at "s"
    refine jr (x:="besti") (y:="bestj") (z:="bestsize") O s!"2" (by refine xe2 hE λ_ _ hE=>?_;rw[hE];kernel_rfl) ?_
    repeat walk_at "s"
    refine oL hd ‹_› ‹_› ‹_› rfl rfl rfl ?_
    repeat walk_at "s"
    refine hJ2 _ _ (.inr ⟨rfl,?_⟩)
    show Az _ _ _ _
    rw[eb,show ((alo+t:Nat):Int)-(0+1)+1=((alo+t:Nat):Int) from Int.sub_add_cancel _ 1,show (j:Int)-(0+1)+1=(j:Int) from Int.sub_add_cancel _ 1]
    exact .mk (_,_,_,_,_,_) ⟨f5 lx _ lx_dn elx,λb m hb nb=>f5 b m (o1 b m hb nb) (f3 b m hb nb),s_dn5,r5⟩
  ·intro st hst
   have lw:(iL (bC Bs w)).length=(bC Bs w).length:=by simp[iL]
   rcases hst with ⟨h0,rfl⟩|⟨h0,h⟩
   ·rw[lw] at h0
    exact ak ⟨rfl,P0 (by rw[hhit,FT.mp h0];rfl)⟩
   ·exact ak ⟨rfl,h⟩
 ·rintro _ ⟨⟨dj,lj,u⟩,h⟩
  rename_i σ2
  have f2:=h.f
  dsimp only at f2⊢
  rw[show (cX (alo:Int) (ahi-alo)).length=ahi-alo by simp[cX]]
  have keep2:∀b m,σ b=EU m->σ2 b=EU m:=λb m hb=>f2 b m (f0 b m hb) (λh=>by clear nd0 hdj0 s_dj f2;subst h;rw[nd0'] at hb;cases hb)
  refine ak (ae ?_)
  generalize hp:bN As Bs blo bhi alo (ahi-alo)=p
  refine xa3 (tR hr h1 h2 h3 h4 hp.symm) λB1 B2 B3 B4=>?_
  exact rl G O R' g_Match (keep2 _ _ ela) (keep2 _ _ elb) (keep2 _ _ ejs) h2 h4 h5 h6 B1 B2 (lkI hd ‹_› rfl) (lkI hd ‹_› rfl) (lkI hd ‹_› rfl) (lkI hd ‹_› rfl) (lkI hd ‹_› rfl) (lkI hd ‹_› rfl) (lkI hd ‹_› rfl) (lkI hd ‹_› rfl) (lkI hd ‹_› rfl) (lkI hd ‹_› rfl) B3 B4 (hQf _ _ ⟨hp▸rfl,keep2⟩)
end
section
noncomputable def Sq(h:Heap)(t:Addr)(items:Array Value):Prop:=∃o n,h.get? t=EU o∧o.data= .seq items n
theorem Sq.extBut{h h':Heap}{t b:Addr}{items:Array Value}(x:Sq h t items)(e:Heap.ExtBut b h h')(ne:t≠b):Sq h' t items:=by
 refine am x λo n ho hd=>?_;exact (cy o n (e _ _ ne ho) hd)
theorem Sq.push{h:Heap}{t:Addr}{items:Array Value}(x:Sq h t items)(o:Obj):Sq (h.push o) t items:=by
 refine am x λo' n ho hd=>?_;exact (cy o' n (Heap.get?_push_of_some _ ho) hd)
section
variable {prog:Program} {w:FL} {A:Fb} {E:Value->Shared->Prop} {s:Shared} {dv:Addr->Value}
theorem i0{it t:Addr}{i:Nat}{items:Array Value}{x:Value}{Q:Option Value->Shared->Prop}(hit:IsTupIter s.heap it t i)(ht:Sq s.heap t items)(hx:items[i]?=EU x)
 (hQ:∀h',IsTupIter h' it t (i+1)->Heap.SameBut it s.heap h'->Q (EU x) {s with heap:=h'}):E4 (Fa prog w) A (pyNext (.ref it)) Q E s:=by
 refine aV (id hit) λo ho hc hd=>?_;refine am ht λol nl hol hdl=>?_;clear ht;unfold pyNext;refine EX (wpAny_attempt (Go (name:=EW "__next__") hit.typeIs slot_tupleiter_next
  (Gw slot_tupleiter_next hit.typeIs entry_tupleiter_next ?_ (args_tupleiter_next _))))
 show E4 _ _ (field (.ref it) 0>>=_) _ _ s;refine EX (Ho ho hd (x:= .ref t) rfl ?_);show E4 _ _ (if (GU t==FK)=true then _ else _) _ _ s;rw[if_neg (show¬((GU t==FK)=true) from Bool.false_ne_true)];show E4 _ _ (field (.ref it) 1>>=_) _ _ s;refine EX (Ho ho hd (x:= .int i 0) rfl ?_);show E4 _ _ (seqItems? (.ref t)>>=_) _ _ s;refine EX (GR hol hdl ?_);simp only[FV,hx];refine EX (wpAny_setField ho hd s!"4" (E0 (af x rfl (E0 (hQ _ ?_ (Heap.SameBut.update ..))))))
 exact ⟨_,Heap.get?_update_self _ ho (Obj.isFreed_of_fields (Obj.data_mapFields hd _)),(Obj.cls_mapFields ..).trans hc,by
  rw[Obj.data_mapFields hd];simp[rawInt]⟩
theorem jW{it t:Addr}{i:Nat}{items:Array Value}{Q:Option Value->Shared->Prop}(hh:A.handled=none)(hit:IsTupIter s.heap it t i)(ht:Sq s.heap t items)(hx:items[i]?=none)
 (hQ:∀h',Heap.ExtBut it s.heap h'->Q none {s with heap:=h'}):E4 (Fa prog w) A (pyNext (.ref it)) Q E s:=by
 refine aV (id hit) λo ho hc hd=>?_;refine am ht λol nl hol hdl=>?_;clear ht;unfold pyNext;refine EX (wpAny_attempt (Go (name:=EW "__next__") hit.typeIs slot_tupleiter_next
  (Gw slot_tupleiter_next hit.typeIs entry_tupleiter_next ?_ (args_tupleiter_next _))))
 show E4 _ _ (field (.ref it) 0>>=_) _ _ s;refine EX (Ho ho hd (x:= .ref t) rfl ?_);show E4 _ _ (if (GU t==FK)=true then _ else _) _ _ s;rw[if_neg (show¬((GU t==FK)=true) from Bool.false_ne_true)];show E4 _ _ (field (.ref it) 1>>=_) _ _ s;refine EX (Ho ho hd (x:= .int i 0) rfl ?_);show E4 _ _ (seqItems? (.ref t)>>=_) _ _ s;refine EX (GR hol hdl ?_);simp only[FV,hx];refine EX (wpAny_rule (EX (wpAny_setField ho hd s!"4" ?_)));show E4 _ _ (newExc (.type "StopIteration") []>>=_) _ _ _;refine EX ?_;simp only[newExc,newTuple];refine EX (GG ?_ (by size_fits));refine EX (m:=firstArgMember _ _) (FO (a:=FK) (by first|rfl|(simp only[firstArgMember];rfl)) ?_);refine GG ?_ (by size_fits);simp only[raiseNew];refine EX (wpAny_handled ?_)
 first|rw[show A.in1.handled=none from hh]|rw[hh]
 refine EX (E0 (wpAny_throw ?_));refine EX (wpAny_isInstance (T:="StopIteration") (b:=true) (af _ (Heap.get?_push_size _ rfl) rfl) isSubtype_stop ?_);exact E0 (hQ _ (((Heap.SameBut.update ..).extBut.push _).push _))
theorem sB{it t:Addr}{items:Array Value}(hne:t≠it):∀(n i:Nat) (s:Shared) (Q:List Value->Shared->Prop),IsTupIter s.heap it t i->Sq s.heap t items->i+n≤items.size->
 (∀h',IsTupIter h' it t (i+n)->Heap.SameBut it s.heap h'->Q ((items.toList.drop i).take n) {s with heap:=h'})->E4 (Fa prog w) A (draw (.ref it) n) Q E s
 |0,i,s,Q,hit,_,_,hQ=>by
  show E4 _ _ (pure []) Q E s;exact E0 (by simpa using hQ s.heap hit (Heap.SameBut.refl ..))
 |n+1,i,s,Q,hit,ht,hle,hQ=>by
  have hlt:i<items.size:=by exact DD hle
  show E4 _ _ (pyNext (.ref it)>>=_) Q E s;refine EX (i0 hit ht (x:=items[i]) (by simp[hlt]) λh₁ hit₁ hs₁=>?_);refine EX (wpAny_holding (sB hne n (i+1) _ _ hit₁ (ht.extBut hs₁.extBut hne) (by exact DW hle) λh₂ hit₂ hs₂=>E0 ?_));have hd:items.toList.drop i=items[i]::items.toList.drop (i+1):=by simp[List.drop_eq_getElem_cons,hlt]
  have:=hQ h₂ (by rw[show i+(n+1)=i+1+n by exact DX];exact hit₂) (hs₁.trans hs₂);rw[hd,List.take_succ_cons] at this;exact this
theorem xH(P:F1)(dv:Addr->Value)(S:Setting):peek (KD P dv) S (Gq (.ref 153) "__iter__")=EU (EU (.builtin "tuple.__iter__")):=s!"k"
theorem lG{t:Addr}{o:Obj}{Q:Value->Shared->Prop}(X:(KD w.params dv).In s.heap)(ho:s.heap.get? t=EU o)(hc:o.cls= .ref 153)
 (hQ:Q (.ref s.heap.objs.size) {s with heap:=s.heap.push {cls:= .type "tuple_iterator",data:= .fields #[.ref t,.int 0 0]}}):E4 (Fa prog w) A (pyIter (.ref t)) Q E s:=by
 have ty:Fv (Fa prog w) s.heap (GY (.ref t)) (.ref 153):=by rw[←hc];exact (Fv.ld ho).andThen .now
 have L1:=Fv.of_peek (M:=Fa prog w) X (xH w.params dv ⟨prog,w.params⟩);have L2:=ty.andThen (f:=λt=>GI t (.type "tuple")) (Fv.of_peek (M:=Fa prog w) X (jF w.params dv ⟨prog,w.params⟩));have SP:Fv (Fa prog w) s.heap (Hf (.ref t) "__iter__") (EU (.builtin "tuple.__iter__")):=ty.andThen L1
 have hcall:E4 (Fa prog w) A (call (.builtin "tuple.__iter__") [.ref t]) (λit s'=>it= .ref s.heap.objs.size∧s'={s with heap:=s.heap.push {cls:= .type "tuple_iterator",data:= .fields #[.ref t,.int 0 0]}}) E s:=by
  refine GC (F2 slot_tuple_iter.plain entry_tuple_iter (@check_slot (Fa prog w) _ _ _ "tuple.__iter__" "tuple" "__iter__" (.ref t) [] [] _ s!"1" s!"1" L2 (args_tuple_iter _) ?_));show E4 _ _ (do ret (←newFields "tuple_iterator" [.ref t,rawInt 0])) _ _ s;exact EX (GG (E0 ⟨rfl,rfl⟩))
 unfold pyIter;refine EX (SP.here ?_);show E4 _ _ (callSpecialIfBoundUnlessNone? _ "__iter__" _>>=_) Q E s;refine EX ?_;simp only[callSpecialIfBoundUnlessNone?,bindSpecialIfBound?];refine wpAny_holding (EX (EX (SP.here ?_)));simp only[slot_tuple_iter.bind];refine EX (wpAny_askSetting (wpAny_ite ?_));have fin:∀(refuse:Sem Value) (R:Option Value->Shared->Prop),R (EU (.ref s.heap.objs.size)) {s with heap:=s.heap.push {cls:= .type "tuple_iterator",data:= .fields #[.ref t,.int 0 0]}}->
  E4 (Fa prog w) A (if (Value.builtin "tuple.__iter__" ==FK)=true then (refuse>>=λv=>pure (EU v)) else (call (.builtin "tuple.__iter__") [.ref t]>>=λv=>pure (EU v))) R E s:=λrefuse R hr=>by
  simp only[builtin_beq_none,Gg,if_false];refine EX (FE hcall (λv s' h'=>?_) λ_ _ h'=>h');refine b7 h' λz2=>?_;clear h';subst z2;exact E0 hr
 have last:∀R:Shared->Prop,R {s with heap:=s.heap.push {cls:= .type "tuple_iterator",data:= .fields #[.ref t,.int 0 0]}}->True:=λ_ _=>trivial;split
 ·refine EX (E0 (E0 (fin _ _ ?_)));exact EX (wpAny_specialOf (T:="tuple_iterator") (af _ (Heap.get?_push_size _ rfl) rfl) slot_tupleiter_next.lookup (E0 hQ))
 ·refine wpAny_tryCatch (EX (E0 (E0 (fin _ _ ?_))));exact EX (wpAny_specialOf (T:="tuple_iterator") (af _ (Heap.get?_push_size _ rfl) rfl) slot_tupleiter_next.lookup (E0 hQ))
theorem jI{t:Addr}{o:Obj}{items:Array Value}{n:Nat}{Q:List Value->Shared->Prop}(X:(KD w.params dv).In s.heap)(hh:A.handled=none)(ho:s.heap.get? t=EU o)(hc:o.cls= .ref 153)(hd:o.data= .seq items n)
 (hQ:∀h',Heap.ExtBut s.heap.objs.size s.heap h'->Q items.toList {s with heap:=h'}):E4 (Fa prog w) A (unpackItems (.ref t) items.size none) Q E s:=by
 have hlt:t≠s.heap.objs.size:=Fi (Heap.lt_size ho);have ty:Fv (Fa prog w) s.heap (GY (.ref t)) (.ref 153):=by rw[←hc];exact (Fv.ld ho).andThen .now
 have L1:=Fv.of_peek (M:=Fa prog w) X (xH w.params dv ⟨prog,w.params⟩);have SP:Fv (Fa prog w) s.heap (Hf (.ref t) "__iter__") (EU (.builtin "tuple.__iter__")):=ty.andThen L1;have ht:Sq s.heap t items:=(cy o n ho hd)
 unfold unpackItems;refine EX ?_;unfold notIterableAtAll;refine EX (SP.here ?_);refine E0 ?_;simp only[Gg,if_false];refine EX (wpAny_holding (lG X ho hc ?_));refine EX (wpAny_holding (sB hlt items.size 0 _ _ (aR _ (Heap.get?_push_size _ rfl) rfl rfl) (ht.push _) (by exact Ee) λh₁ hit₁ hs₁=>?_))
 have hall:List.take items.size (List.drop 0 items.toList)=items.toList:=by
  rw[List.drop_zero];exact List.take_of_length_le s!"4"
 rw[hall];rw[if_neg s!"4"];have ht₁:Sq h₁ t items:=(ht.push _).extBut hs₁.extBut hlt;refine EX (wpAny_holding (jW hh hit₁ ht₁ s!"4" λh₂ he₂=>?_));simp only[Option.isSome_none,Gg,if_false];refine E0 (hQ h₂ λb o hb e=>he₂ b o hb (hs₁.extBut b o hb (Heap.get?_push_of_some _ e)))
end
theorem ka{X:Xc}{st:St}(O:XOk X)(N:Kn X){ts:List Fw}{ms:List MV}{k pos}{Q:St->Prop}(hs:Starless ts)(hn:ts.length=ms.length)(h:WAs X ts ms st Q):WA X (.Tuple ts k pos) (.t (.ref 153) ms) st Q:=λφ s v I r=>by
 refine bz r λa o items n z1 z2=>?_;clear r;subst z1;refine xa4 z2 λe2 e3 e4 e5 e6=>?_;have ea:=cf X.env hs;have len:=e6.length;have hl:(assignEach ts X.env).length=items.size:=by rw[ea];simp only[EZ,hn];rw[←len];simp
 rw[assign_Tuple];refine EX (GJ ?_);unfold unpack;rw[hl,show (assignEach ts X.env).findIdx? (·.1)=none by rw[ea];simp[List.findIdx?_eq_none_iff]];refine EX (wpAny_holding (jI (I.kin N) O.hh e2 e4 e5 λh' he=>?_));rw[ea,FS];have k:=mf he;exact ab (qg (φ:=φ) h (I.grow k s.toks) (e6.keep (aB k))) λ_ s₂ p=>p.trans (aB k)
end
section
section
variable {prog:Program} {w:FL} {A:Fb} {E:Value->Shared->Prop} {s:Shared} {dv:Addr->Value}
theorem yC(P:F1)(dv:Addr->Value)(S:Setting):peek (KD P dv) S (Gq (.ref 153) "__lt__")=EU (EU (.builtin "tuple.__lt__")):=s!"k"
theorem og{t u:Addr}{o o':Obj}{a b:Int}{ta tb:Tok}{xs ys:List Value}{n m:Nat}{R:Fin->Shared->Prop}(X:(KD w.params dv).In s.heap)(ho:s.heap.get? t=EU o)(ho':s.heap.get? u=EU o')(hc':o'.cls= .ref 153)
 (hd:o.data= .seq ((.int a ta)::xs).toArray n) (hd':o'.data= .seq ((.int b tb)::ys).toArray m) (ne:a≠b) (h:R (.done (.ret (.bool (decide (a<b))))) s):
 E4 (Fa prog w) A (Builtin.«tuple.__lt__» ⟨[.ref t,.ref u],[]⟩) R E s:=by
 obtain ⟨hp,g,dd,tk,os⟩:=s;have L2:=Fv.of_peek (M:=Fa prog w) X (jF w.params dv ⟨prog,w.params⟩)
 wp_walk using GQ ho,GQ ho'
 rw[hc'];refine L2.at ?_
 wp_walk using GQ ho,GQ ho'
 rw[hd]
 wp_walk using GQ ho,GQ ho'
 rw[hd'];refine E0 ?_;refine E0 ?_;refine EX ?_;show E4 _ _ (forIn ((Value.int a ta,Value.int b tb)::xs.zip ys) _ _) _ _ _;rw[G2];refine EX (EX (wpAny_eqBool_int ?_));have e:(a==b)=false:=by simpa using ne
 simp only[e,Bool.not_false,if_true];refine EX (EX (wpAny_rule (E0 (a:=()) (EX ?_))));show E4 _ _ (Fx .Lt (.int a ta) (.int b tb)) _ _ _;refine wpAny_lt_int ?_
 wp_walk
 exact h
theorem oh{t u:Addr}{o o':Obj}{a b:Int}{ta tb:Tok}{xs ys:List Value}{n m:Nat}{Q:Value->Shared->Prop}(X:(KD w.params dv).In s.heap)(ho:s.heap.get? t=EU o)(ho':s.heap.get? u=EU o')(hc:o.cls= .ref 153)(hc':o'.cls= .ref 153)
 (hd:o.data= .seq ((.int a ta)::xs).toArray n) (hd':o'.data= .seq ((.int b tb)::ys).toArray m) (ne:a≠b) (h:Q (.bool (decide (a<b))) s):
 E4 (Fa prog w) A (call (.builtin "tuple.__lt__") [.ref t,.ref u]) Q E s:=by
 have ty:Fv (Fa prog w) s.heap (GY (.ref t)) (.ref 153):=by rw[←hc];exact (Fv.ld ho).andThen .now
 have L2:=ty.andThen (f:=λt=>GI t (.type "tuple")) (Fv.of_peek (M:=Fa prog w) X (jF w.params dv ⟨prog,w.params⟩));refine GC (F2 G8.plain PySem.F.entry_tuple_lt (@check_slot (Fa prog w) _ _ _ "tuple.__lt__" "tuple" "__lt__" (.ref t) [.ref u] [] _ s!"1" s!"1" L2 (PySem.F.args_tuple_lt_2 _ _) ?_));exact og (A:=A.in1) X ho ho' hc' hd hd' ne h
theorem qU{t u:Addr}{o o':Obj}{a b:Int}{ta tb:Tok}{xs ys:List Value}{n m:Nat}{Q:Bool->Shared->Prop}(X:(KD w.params dv).In s.heap)(hu:A.units<cLine)(ho:s.heap.get? t=EU o)(ho':s.heap.get? u=EU o')(hc:o.cls= .ref 153)(hc':o'.cls= .ref 153)
 (hd:o.data= .seq ((.int a ta)::xs).toArray n) (hd':o'.data= .seq ((.int b tb)::ys).toArray m) (ne:a≠b) (h:Q (decide (a<b)) s):
 E4 (Fa prog w) A (oneLt' true (.ref t) (.ref u)) Q E s:=by
 have ty:Fv (Fa prog w) s.heap (GY (.ref t)) (.ref 153):=by rw[←hc];exact (Fv.ld ho).andThen .now
 have L1:=Fv.of_peek (M:=Fa prog w) X (yC w.params dv ⟨prog,w.params⟩);have SP:Fv (Fa prog w) s.heap (Hf (.ref t) "__lt__") (EU (.builtin "tuple.__lt__")):=ty.andThen L1;rw[oneLt'_eq];simp only[if_true];refine EX (wpAny_cRoomFor hu ?_);refine EX ?_;simp only[callSpecialIfBound?,bindSpecialIfBound?];refine wpAny_holding (EX (EX (SP.here ?_)));simp only[G8.bind];refine EX (wpAny_askSetting (wpAny_ite ?_))
 have fin:E4 (Fa prog w) A (call (.builtin "tuple.__lt__") ([.ref t]++[.ref u])>>=λv=>pure (EU v)) (λr s'=>E4 (Fa prog w) A (match r with
  |some .notImplemented|none=>do rule "list.sort.lt-declined";truthOfDropped (←richCompare .Lt (.ref t) (.ref u))
  |some r=>truthOfDropped r) Q E s') E s:=
  EX (oh X ho ho' hc hc' hd hd' ne (E0 (wpAny_truthy_bool h)))
 split
 ·exact EX (E0 (E0 fin))
 ·exact wpAny_tryCatch (EX (E0 (E0 fin)))
end
end
section
section
variable {prog:Program} {w:FL} {A:Fb} {E:Value->Shared->Prop} {s:Shared} {dv:Addr->Value}
theorem sG(v:Value):firstOfTuple' v=(do
 if (←GY v) != .type "tuple" then return none
 return (←Builtin.List.listItems v)[0]?):=rfl
theorem rP{M:Model}{β:Type}{f:Value->Sem β}{b:β}:∀{vs:List Value} {Q:List β->Shared->Prop},(∀v∈vs,∀Q:β->Shared->Prop,Q b s->E4 M A (f v) Q E s)->Q (vs.map λ_=>b) s->E4 M A (vs.mapM f) Q E s
 | [],Q,_,h=>by rw[List.mapM_nil];exact E0 h
 |v::vs,Q,hf,h=>by
  rw[List.mapM_cons];refine EX (hf v (.head _) _ ?_);exact EX (rP (λu hu=>hf u (.tail _ hu)) (E0 h))
theorem oY{M:Model}{β:Type}{f:Value->Sem β}{b:β}{vs:List Value}{Q:Array β->Shared->Prop}(hf:∀v∈vs,∀Q:β->Shared->Prop,Q b s->E4 M A (f v) Q E s)(h:Q (vs.map λ_=>b).toArray s):E4 M A (vs.toArray.mapM f) Q E s:=by
 rw[List.mapM_toArray,map_eq_pure_bind];exact EX (rP hf (E0 h))
theorem rF{M:Model}{c:Value}{v₁ v₂:Value}{vs:List Value}{Q:SortKind->Shared->Prop}(ht:∀v∈v₁::v₂::vs,∀Q:Value->Shared->Prop,Q c s->E4 M A (GY v) Q E s)(hc:(c != .type "tuple")=true)(hcc:(c==c)=true)(h:Q oneType' s):
 E4 M A (keyKind' (v₁::v₂::vs).toArray) Q E s:=by
 rw[keyKind'_eq];refine EX (oY (b:=none) (λv hv Q hq=>?_) ?_)
 ·rw[sG];refine EX (ht v hv _ ?_);rw[hc];exact E0 hq
 rw[if_neg s!"4",if_neg s!"4"];rw[oneTypeOnly'_eq];refine EX (EX (oY (b:=c) (λv hv Q hq=>ht v hv Q hq) ?_));have h0:(List.map (λ_=>c) (v₁::v₂::vs)).toArray[0]?=EU c:=s!"4"
 rw[h0]
 have hall:((List.map (λ_=>c) (v₁::v₂::vs)).toArray.all λx=>x==c)=true:=by
  simp only[List.all_toArray,List.all_map,Fn];intro _ _;exact hcc
 simp only[hall,if_true];exact E0 (E0 h)
theorem A8{α:Type}{c:Prop}[Decidable c]{a b:StateT SortSt Sem α}{st:SortSt}{Q:α->SortSt->Prop}(hc:¬c)(h:wpS (Fa prog w) A E s b Q st):wpS (Fa prog w) A E s (if c then a else b) Q st:=by rw[if_neg hc];exact h
theorem DA{α:Type}{c:Prop}[Decidable c]{a b:StateT SortSt Sem α}{st:SortSt}{Q:α->SortSt->Prop}(hc:c)(h:wpS (Fa prog w) A E s a Q st):wpS (Fa prog w) A E s (if c then a else b) Q st:=by rw[if_pos hc];exact h
theorem yu{a₀:Array Keyed}{st:SortSt}{Q:Unit->SortSt->Prop}(hk:kindOf st=oneType')(ha:arrOf st=a₀)(hp:pendingOf st= #[])(hf:failedOf st=none)(h2:2≤a₀.size)(h64:a₀.size<64)
 (hlt:∀i,1≤i->i<a₀.size->∃x y,a₀[i]?=EU x∧a₀[i-1]?=EU y∧∀(E:Value->Shared->Prop) (Q:Bool->Shared->Prop),Q false s->E4 (Fa prog w) A (oneLt' true x.1 y.1) Q E s)
 (h:∀st',arrOf st'=a₀->failedOf st'=none->Q () st'):wpS (Fa prog w) A E s sortRuns' Q st:=by
 have hltAt:∀{i:Nat} {Q:Option Bool->SortSt->Prop},1≤i->i<a₀.size->Q (EU false) st->wpS (Fa prog w) A E s (ltAt' i (i-1)) Q st:=λ{i} {Q} h1 h3 hq=>by
  refine bL (hlt i h1 h3) λz1 z2 e1 e2 e3=>?_;obtain ⟨x,p⟩:=z1;obtain ⟨y,q⟩:=z2;rw[ltAt'_eq];refine wpS_bind (wpS_get ?_);show wpS _ _ _ _ (do let x←elem' (arrOf st) i;let y←elem' (arrOf st) (i-1);lt' x y) Q st;rw[elem'_eq,elem'_eq,ha,e1,e2];refine wpS_bind (wpS_pure (wpS_bind (wpS_pure ?_)));rw[lt'_eq];refine wpS_bind (wpS_get ?_);rw[hk,keyLt'_oneType];refine wpS_bind (wpS_lift (wpAny_attempt (e3 _ _ ?_)));exact ⟨rfl,wpS_pure hq⟩
 have hcount:∀{x y:Nat} {Q:Option Nat->SortSt->Prop},x=0->y=a₀.size->Q (EU a₀.size) st->wpS (Fa prog w) A E s (countRun' x y) Q st:=λ{x y Q} e1 e2 hq=>by
  rw[e1,e2,countRun0_eq];unfold ascLoop;refine wpS_bind (wpS_mono (wpS_forRange (Q:=λ(c:Option (Option Nat)×Nat) st'=>st'=st∧c=(none,a₀.size)) (I:=λx c st'=>st'=st∧c=(none,x)) ?_ ?_ ⟨rfl,rfl⟩) ?_)
  ·intro x c st' hx1 hx2 zr1;refine xa1 zr1 λz3 z4=>?_;clear zr1;clear hk ha hp hf hq;subst z3;subst z4;refine wpS_bind (hltAt hx1 hx2 ?_);simp only[Gg,if_false];exact wpS_pure ⟨rfl,rfl⟩
  ·intro c st' zr1;refine xa1 zr1 λz3 z4=>?_;clear zr1;clear hk ha hp hf hltAt hq;subst z3;subst z4;exact ⟨rfl,by rw[show max 1 a₀.size=a₀.size by exact Nat.max_eq_right (Fu h2)]⟩
  ·intro c st' zr1;refine xa1 zr1 λz3 z4=>?_;clear zr1;clear hk ha hp hf hltAt;subst z3;subst z4;dsimp only;rw[if_pos s!"4"];exact wpS_pure hq
 rw[sortRuns'_eq];refine wpS_bind (wpS_get ?_)
 have hmr:minRun' a₀.size a₀.size 0=a₀.size:=by
  obtain ⟨f,hf⟩:∃f,a₀.size=f+1:=⟨a₀.size-1,by exact (GX (Fu h2)).symm⟩
  have:minRun' (f+1) a₀.size 0=a₀.size:=by rw[minRun'_succ,if_pos h64];rfl
  rwa [←hf] at this
 have hmr2:¬a₀.size<minRun' (arrOf st).size (arrOf st).size 0:=by rw[ha,hmr];exact FC _
 refine wpS_bind (wpS_mono (wpS_forRange
  (I:=λx c st'=>(x=0∧c=(none,0)∧st'=st)∨(1≤x∧c=(none,a₀.size)∧st'=setPending st #[(0,a₀.size,0)]))
  (Q:=λc st'=>c=(none,a₀.size)∧st'=setPending st #[(0,a₀.size,0)]) ?step ?fin (.inl (ia2 rfl rfl rfl))) ?post)
 case fin=>
  rintro c st' (⟨hx,_,_⟩|⟨_,hc,hD⟩)
  ·exact (Ga.mpr (E6 (ha▸hx)) (E1 (E1 s!"d" h2) (Nat.le_max_right 0 _))).elim
  ·exact ⟨hc,hD⟩
 case step=>
  rintro x c st' _ hx (⟨rfl,rfl,rfl⟩|⟨hx1,rfl,rfl⟩)
  ·refine A8 (by rw[ha];exact o93 h2) ?_;refine wpS_bind (hcount rfl (by rw[ha];rfl) ?_);refine A8 hmr2 ?_;refine wpS_bind (wpS_get ?_);have hb:(pendingOf st').back?=none:=by rw[hp];rfl
   rw[hb];refine wpS_bind (wpS_modify (wpS_pure (.inr ⟨s!"d",congrArg (Prod.mk none) (Nat.zero_add _),?_⟩)));rw[hp];rfl
  ·refine DA (by rw[ha];exact Fe _) ?_;exact wpS_pure ⟨rfl,rfl⟩
 case post=>
  intro c st' zr1;refine b7 zr1 λz4=>?_;clear zr1;subst z4;dsimp only;refine wpS_bind (wpS_mono (wpS_forRange (I:=λ_ c st''=>st''=setPending st #[(0,a₀.size,0)]∧c=(none,())) (Q:=λc st''=>st''=setPending st #[(0,a₀.size,0)]∧c=(none,())) ?_ (λ_ _ hh=>hh) ⟨rfl,rfl⟩) ?_)
  ·intro x c st'' _ _ zr1;refine b7 zr1 λz4=>?_;clear zr1;subst z4;refine wpS_bind (wpS_get ?_);rw[if_pos (show (pendingOf (setPending st #[(0,a₀.size,0)])).size≤1 from Fe 1)];exact wpS_pure ⟨rfl,rfl⟩
  ·intro c st'' zr1;refine b7 zr1 λz4=>?_;clear zr1;subst z4;exact wpS_pure (h _ ha hf)
theorem xe3{α β γ:Type}{P:α->β->γ->Prop}{Z:Prop}(h:∃x,∃y,∃z,P x y z)(k:∀x y z,P x y z->Z):Z:=h.elim λa h=>h.elim λb h=>h.elim λc h=>k a b c h
theorem Bj{α:Type}{l:List α}(h:¬l.toArray.size<2):∃a b r,l=a::b::r:=by
 cases l with
 |nil=>exact absurd (show 0<2 from Nat.zero_lt_two) h
 |cons a l=>cases l with
  |nil=>exact absurd (show 1<2 from Nat.one_lt_two) h
  |cons b r=>exact (ie3 a b r rfl)
theorem nL{c:Value}{a:Addr}{vs:List Value}{n:Nat}{P:Fin->Shared->Prop}(ho:s.heap.get? a=EU (seqObj "list" vs.toArray n))(hc:(c != .type "tuple")=true)(hcc:(c==c)=true)
 (ht:∀v∈vs,∀h':Heap,(∀b o,b≠a->s.heap.get? b=EU o->h'.get? b=EU o)->∀Q:Value->Shared->Prop,Q c {s with heap:=h'}->E4 (Fa prog w) A (GY v) Q E {s with heap:=h'}) (h64:vs.length<64)
 (hlt:∀i,1≤i->i<vs.length->∃x y,vs[i]?=EU x∧vs[i-1]?=EU y∧∀h':Heap,(∀b o,b≠a->s.heap.get? b=EU o->h'.get? b=EU o)->∀(E:Value->Shared->Prop) (Q:Bool->Shared->Prop),Q false {s with heap:=h'}->E4 (Fa prog w) A (oneLt' true x y) Q E {s with heap:=h'})
 (h:∀h' n',Heap.ExtBut a s.heap h'->h'.get? a=EU (seqObj "list" vs.toArray n')->P (.done (.ret .none)) {s with heap:=h'}):
 E4 (Fa prog w) A (Builtin.«list.sort» ⟨[.ref a],[]⟩) P E s:=by
 rw[list_sort_plain];have hal:a<s.heap.objs.size:=Heap.lt_size ho;refine EX (listItems_at ho rfl ?_);refine EX (listUpdate_at ho rfl ?_);obtain ⟨e1,ho1⟩:∃e1,(s.heap.update a (F5 λ_=> #[])).get? a=EU (seqObj "list" #[] e1):=⟨_,get?_update_seq ho (λ_=> #[])⟩
 refine EX (seqEpoch_at ho1 rfl ?_);refine EX (wpAny_newTuple ?_);refine EX (wpAny_newList ?_);refine wpAny_holding ?_;show E4 (Fa prog w) A _ P E {s with heap:=((s.heap.update a (F5 λ_=> #[])).push (seqObj "tuple" vs.toArray 0)).push (seqObj "list" #[] 0)};generalize hH:((s.heap.update a (F5 λ_=> #[])).push (seqObj "tuple" vs.toArray 0)).push (seqObj "list" #[] 0)=H
 have ho6:H.get? a=EU (seqObj "list" #[] e1):=by
  rw[←hH];exact Heap.get?_push_of_some _ (Heap.get?_push_of_some _ ho1)
 have old:∀b o,b≠a->s.heap.get? b=EU o->H.get? b=EU o:=λb o hb e=>by
  rw[←hH];exact Heap.get?_push_of_some _ (Heap.get?_push_of_some _ ((Heap.get?_update_other _ _ (E8 hb)).trans e))
 dsimp only;have hsz:vs.toArray.size=vs.length:=s!"4"
 have fin:∀(st':SortSt),arrOf st'=vs.toArray.zip vs.toArray->failedOf st'=none->E4 (Fa prog w) A (do
  let touched:=(←seqEpoch a) !=e1
  Builtin.List.listUpdate (.ref a) λ_=>(arrOf st').map (·.2)
  if let EU e:=failedOf st' then rule "list.sort.comparison-raised";throw e
  if touched then rule "list.sort.modified";raiseError "ValueError" "list modified during sort"
  ret .none) P E {s with heap:=H}:=λst' ea ef=>by
  have eq:(arrOf st').map (·.2)=vs.toArray:=by
   rw[ea];apply Array.ext';simp[List.map_snd_zip]
  refine EX (seqEpoch_at ho6 rfl ?_);refine EX (listUpdate_at ho6 rfl ?_ (hsz2:=by rw[eq,hsz,sizeLine_eq];exact nTL h64 rfl));rw[ef,eq];simp only[bne_self_eq_false,Gg,if_false];refine E0 (h _ _ (λb o hb e=>(Heap.get?_update_other _ _ (E8 hb)).trans (old b o hb e)) (get?_update_seq ho6 _))
 by_cases h2:vs.toArray.size<2
 ·rw[if_pos h2,if_pos h2];refine EX (E0 ?_);rw[StateT.run_pure];refine EX (E0 ?_);exact fin (SortSt.mk' general' (vs.toArray.zip vs.toArray) #[] 7 none) rfl rfl
 ·rw[if_neg h2,if_neg h2];refine xe3 (Bj h2) λv₁ v₂ rest e=>?_;clear ho h hH hsz h2;subst e;refine EX (rF (c:=c) (λv hv Q hq=>ht v hv H old Q hq) hc hcc ?_);have zs:((v₁::v₂::rest).toArray.zip (v₁::v₂::rest).toArray).size=(v₁::v₂::rest).length:=s!"4"
  refine EX (FE (yu (s:={s with heap:=H}) (st:=SortSt.mk' oneType' ((v₁::v₂::rest).toArray.zip (v₁::v₂::rest).toArray) #[] 7 none)
   (Q:=λ_ st'=>arrOf st'=(v₁::v₂::rest).toArray.zip (v₁::v₂::rest).toArray∧failedOf st'=none) rfl rfl rfl rfl (by rw[zs];simp) (by rw[zs];exact h64) (λi h1 h3=>?_) λst' a1 a2=>⟨a1,a2⟩) ?_ λ_ _ e=>e)
  ·rw[zs] at h3;refine bL (hlt i h1 h3) λx y e1 e2 e3=>?_;refine (cZ (x,x) (y,y) ?_ ?_ (λE Q hq=>e3 H old E Q hq))
   ·rw[Array.getElem?_zip_eq_some];exact ⟨by simpa using e1,by simpa using e1⟩
   ·rw[Array.getElem?_zip_eq_some];exact ⟨by simpa using e2,by simpa using e2⟩
  intro zr1 s' zr2;obtain ⟨⟨⟩,st'⟩:=zr1;refine b7 zr2 λz2=>?_;clear zr2;obtain ⟨e1,e2⟩:=z2;exact fin st' e1 e2
end
end
section
theorem nv:Manifest.owners.lookup (String.ofList ['p','a','m'].reverse)=EU Manifest.sig_map:=s!"k"
theorem nY:Slot "map" "__init__" "object.__init__" :=
 .of (owner:="object") (n:="__init__") (by rw[FF,Fh];kernel_rfl) s!"1" s!"1" s!"1"
  (by first|exact .inl (of_decide_eq_true (by kernel_rfl!))|exact .inr s!"1") (by rw[FN];kernel_rfl)
theorem iF:Slot "map" "__iter__" "map.__iter__" :=
 .of (owner:="map") (n:="__iter__") (by rw[FF,Fh];kernel_rfl) s!"1" s!"1" s!"1"
  (by first|exact .inl (of_decide_eq_true (by kernel_rfl!))|exact .inr s!"1") (by rw[FN];kernel_rfl)
theorem dh:Slot "map" "__next__" "map.__next__" :=
 .of (owner:="map") (n:="__next__") (by rw[FF,Fh];kernel_rfl) s!"1" s!"1" s!"1"
  (by first|exact .inl (of_decide_eq_true (by kernel_rfl!))|exact .inr s!"1") (by rw[FN];kernel_rfl)
theorem iB(a:Value):argsOk "map.__next__" ⟨[a],[]⟩:=by
 unfold argsOk;rw[signature?_of (id:="map.__next__") (n:=['_','_','t','x','e','n','_','_']) (o:=['p','a','m']) s!"k" nv];kernel_rfl
theorem oj(a:Value):argsOk "map.__iter__" ⟨[a],[]⟩:=by
 unfold argsOk;rw[signature?_of (id:="map.__iter__") (n:=['_','_','r','e','t','i','_','_']) (o:=['p','a','m']) s!"k" nv];kernel_rfl
theorem gJ:Hb table "map.__next__" =EU Builtin.«map.__next__»:=F4 s!"k"
theorem lV:Hb table "map.__iter__" =EU Builtin.«dict_keyiterator.__iter__»:=entryFor_alias (id':="dict_keyiterator.__iter__") s!"k" s!"1" s!"1" s!"k"
theorem rN:mroOf (.type "map")=pure [.type "map",.type "object"]:=by rw[mroOf_type];kernel_rfl
theorem mj:Gq (.type "map") "__new__" =pure (EU (.builtin "map.__new__")):=by rw[FF,Fh];kernel_rfl
theorem tU:TypeCalled "map" "map.__new__" "object.__init__" :=
 ⟨s!"1",s!"1",(ie2 _ _ rN),madeBy_type rN mj s!"1",s!"1",by rw[FN];kernel_rfl,nY⟩
theorem ma(a b:Value):checkTypeCall "map" ⟨[a,b],[]⟩=pure ():=s!"k"
theorem oB(a b:Value):checkBuiltinCall "map.__new__" ⟨[.type "map",a,b],[]⟩=pure ():=s!"k"
theorem ji(a b c:Value):argsOk "object.__init__" ⟨[a,b,c],[]⟩:=by unfold argsOk;kernel_rfl
theorem nW:Hb table "map.__new__" =EU Builtin.«map.__new__»:=F4 s!"k"
theorem sO:Gq (.type "map") "__len__" =pure none:=by rw[FF,Fh];kernel_rfl
theorem rj:Gq (.type "map") "__length_hint__" =pure none:=by rw[FF,Fh];kernel_rfl
noncomputable abbrev liO(l:Addr)(i:Nat):Obj:={cls:= .type "list_iterator",data:= .fields #[.ref l,.int i 0]}
noncomputable abbrev f6(t:Addr)(f:Value):Obj:={cls:= .type "map",data:= .fields #[.ref t,f]}
noncomputable abbrev gc(vs:List Value):Obj:={cls:= .type "tuple",data:= .seq vs.toArray}
section
variable {prog:Program} {w:FL}
theorem n9(l:Addr)(f:Value):Meets (Builtin.«map.__new__» ⟨[.type "map",f,.ref l],[]⟩)
 (λ_ R s=>(∃items n,s.heap.get? l=EU {cls:= .type "list",dict:=none,data:= .seq items n,slots:= #[]})∧R (.ok (.ret (.ref ((s.heap.push (liO l 0)).push (gc [.ref s.heap.objs.size])).objs.size))) {s with heap:=((s.heap.push (liO l 0)).push (gc [.ref s.heap.objs.size])).push (f6 (s.heap.push (liO l 0)).objs.size f)}):=
 .of_wp λprog w A R s ⟨⟨items,n,hl⟩,h⟩=>by
  unfold Builtin.«map.__new__» Builtin.SmallTypes.newClass Builtin.SmallTypes.iterAll Builtin.SmallTypes.refuseKeywords;have hsub:GI (.type "map") (.type "map")=pure true:=by rw[FN];kernel_rfl
  obtain ⟨hp,g,d,tk,os⟩:=s;dsimp only at hl;have il:hp.IsList l items:=⟨_,hl,rfl,n,rfl⟩
  have L:=Fv.of_pure (M:=Fa prog w) (h:=hp) hsub;repeat (first|(with_reducible refine wpAny_pyIter_list il ?_)|lk)
  exact ⟨_,rfl,h⟩
theorem sV{A:Fb}{E:Value->Shared->Prop}{s:Shared}{l:Addr}{items:Array Value}{n:Nat}{f:Value}{Q:Value->Shared->Prop}(hl:s.heap.get? l=EU {cls:= .type "list",dict:=none,data:= .seq items n,slots:= #[]})
 (h:∀it t m h',(∀b o,s.heap.get? b=EU o->h'.get? b=EU o)->s.heap.objs.size≤it->it≠m->t≠m->it≠t->s.heap.objs.size≤m->h'.get? it=EU (liO l 0)->h'.get? t=EU (gc [.ref it])->h'.get? m=EU (f6 t f)->Q (.ref m) {s with heap:=h'}):
 E4 (Fa prog w) A (call (.type "map") [f,.ref l]) Q E s:=by
 refine callType_new tU s!"d" (ma _ _) (oB _ _) (λobj=>ji obj _ _) nW (n9 l f) ⟨(ie2 items n hl),?_⟩;have z1:(s.heap.push (liO l 0)).objs.size=s.heap.objs.size+1:=Heap.size_push ..;have z2:((s.heap.push (liO l 0)).push (gc [.ref s.heap.objs.size])).objs.size=s.heap.objs.size+2:=by rw[Heap.size_push,z1]
 have gm:=Heap.get?_push_size ((s.heap.push (liO l 0)).push (gc [.ref s.heap.objs.size])) (o:=f6 (s.heap.push (liO l 0)).objs.size f) rfl;have gt:=Heap.get?_push_of_some (f6 (s.heap.push (liO l 0)).objs.size f) (Heap.get?_push_size (s.heap.push (liO l 0)) (o:=gc [.ref s.heap.objs.size]) rfl);have gi:=Heap.get?_push_of_some (f6 (s.heap.push (liO l 0)).objs.size f) (Heap.get?_push_of_some (gc [.ref s.heap.objs.size]) (Heap.get?_push_size s.heap (o:=liO l 0) rfl));refine ⟨(af _ gm rfl),?_⟩;rw[z2] at gm⊢;rw[z1] at gm gt gi⊢;exact h s.heap.objs.size (s.heap.objs.size+1) (s.heap.objs.size+2) _ (λb o e=>Heap.get?_push_of_some _ (Heap.get?_push_of_some _ (Heap.get?_push_of_some _ e))) (Fe _) (by exact Df) (by exact Ev) (by exact Dh) (by exact Ft _ _) gi gt gm
theorem vC{M:Model}{A:Fb}{E:Value->Shared->Prop}{s:Shared}{it l:Addr}{i:Nat}{items:Array Value}{n:Nat}{x:Value}{Q:Value->Shared->Prop}(hM:∃prog w,M=Fa prog w)(hl:s.heap.get? l=EU {cls:= .type "list",dict:=none,data:= .seq items n,slots:= #[]})
 (hit:s.heap.IsListIter it l i) (hx:items[i]?=EU x) (hQ:∀h',h'.IsListIter it l (i+1)->Heap.SameBut it s.heap h'->Q x {s with heap:=h'}):E4 M A (Hu (.ref it)) Q E s:=by
 refine xe2 hM λprog w z1=>?_;clear hM;subst z1;refine aV (id hit) λo ho hc hd=>?_;unfold Hu;refine EX (Go (name:=EW "__next__") hit.typeIs slot_listiter_next
  (Gw slot_listiter_next hit.typeIs entry_listiter_next ?_ (args_listiter_next _)))
 show E4 _ _ (field (.ref it) 0>>=_) _ _ s;refine EX (Ho ho hd (x:= .ref l) rfl ?_);show E4 _ _ (if (GU l==FK)=true then _ else _) _ _ s;rw[if_neg (show¬((GU l==FK)=true) from Bool.false_ne_true)];show E4 _ _ (field (.ref it) 1>>=_) _ _ s;refine EX (Ho ho hd (x:= .int i 0) rfl ?_);show E4 _ _ (seqItems? (.ref l)>>=_) _ _ s;refine EX (GR hl rfl ?_);simp only[FV,hx];refine EX (wpAny_setField ho hd s!"4" (E0 (af x rfl (E0 (hQ _ ?_ (Heap.SameBut.update ..))))))
 exact ⟨_,Heap.get?_update_self _ ho (Obj.isFreed_of_fields (Obj.data_mapFields hd _)),(Obj.cls_mapFields ..).trans hc,by
  rw[Obj.data_mapFields hd];simp[rawInt]⟩
theorem oz{M:Model}{A:Fb}{E:Value->Shared->Prop}{s:Shared}{it l:Addr}{i:Nat}{items:Array Value}{n:Nat}{Q:Value->Shared->Prop}(hM:∃prog w,M=Fa prog w)(hh:A.handled=none)(hl:s.heap.get? l=EU {cls:= .type "list",dict:=none,data:= .seq items n,slots:= #[]})
 (hit:s.heap.IsListIter it l i) (hx:items[i]?=none) (hQ:∀h' e oe,Heap.ExtBut it s.heap h'->h'.get? e=EU oe->oe.cls= .type "StopIteration" ->E (.ref e) {s with heap:=h'}):E4 M A (Hu (.ref it)) Q E s:=by
 refine xe2 hM λprog w z1=>?_;clear hM;subst z1;refine aV (id hit) λo ho hc hd=>?_;unfold Hu;refine EX (Go (name:=EW "__next__") hit.typeIs slot_listiter_next
  (Gw slot_listiter_next hit.typeIs entry_listiter_next ?_ (args_listiter_next _)))
 show E4 _ _ (field (.ref it) 0>>=_) _ _ s;refine EX (Ho ho hd (x:= .ref l) rfl ?_);show E4 _ _ (if (GU l==FK)=true then _ else _) _ _ s;rw[if_neg (show¬((GU l==FK)=true) from Bool.false_ne_true)];show E4 _ _ (field (.ref it) 1>>=_) _ _ s;refine EX (Ho ho hd (x:= .int i 0) rfl ?_);show E4 _ _ (seqItems? (.ref l)>>=_) _ _ s;refine EX (GR hl rfl ?_);simp only[FV,hx];refine EX (wpAny_rule (EX (wpAny_setField ho hd s!"4" ?_)));show E4 _ _ (newExc (.type "StopIteration") []>>=_) _ _ _;refine EX ?_;simp only[newExc,newTuple];refine EX (GG ?_ (by size_fits));refine EX (m:=firstArgMember _ _) (FO (a:=FK) (by first|rfl|(simp only[firstArgMember];rfl)) ?_);refine GG ?_ (by size_fits);simp only[raiseNew];refine EX (wpAny_handled ?_)
 first|rw[show A.in1.handled=none from hh]|rw[hh]
 refine EX (E0 (wpAny_throw ?_));exact hQ _ _ _ (((Heap.SameBut.update ..).extBut.push _).push _) (Heap.get?_push_size _ rfl) rfl
theorem nR{A:Fb}{E:Value->Shared->Prop}{s:Shared}{l it t m:Addr}{i:Nat}{items:Array Value}{n:Nat}{f x:Value}{Q:Option Value->Shared->Prop}(hl:s.heap.get? l=EU {cls:= .type "list",dict:=none,data:= .seq items n,slots:= #[]})
 (hi:s.heap.IsListIter it l i) (ht:s.heap.get? t=EU (gc [.ref it])) (hm:s.heap.get? m=EU (f6 t f)) (nm:m≠it) (hx:items[i]?=EU x)
 (h:∀h',h'.IsListIter it l (i+1)->Heap.SameBut it s.heap h'->E4 (Fa prog w) A.in1 (call f [x]) (λv s'=>Q (EU v) s') NoE {s with heap:=h'}):
 E4 (Fa prog w) A (pyNext (.ref m)) Q E s:=by
 have hT:s.TypeIs (.ref m) "map" :=(af _ hm rfl)
 unfold pyNext;refine EX (wpAny_attempt (Go (name:=EW "__next__") hT dh (Gw dh hT gJ ?_ (iB _))));show E4 _ _ (field (.ref m) 0>>=_) _ _ s;refine EX (Ho hm rfl (x:= .ref t) rfl ?_);refine EX (GR ht rfl ?_);refine EX ?_;show E4 _ _ (forIn [GU it].toArray _ _) _ _ s;rw[←Array.forIn_toList,G2];refine EX (EX (wpAny_holding (vC (ie2 prog w rfl) hl hi hx λh' hi' sb=>?_)));refine E0 (E0 ?_);have hm':h'.get? m=EU (f6 t f):=(sb.2 m nm).trans hm;refine EX (Ho hm' rfl (x:=f) rfl ?_);refine EX (wpAny_holding (FE (h h' hi' sb) (λv s' q=>?_) λ_ _ z=>z.elim));refine EX (wpAny_letGo ?_);exact E0 (af v rfl (E0 q))
theorem qf{A:Fb}{E:Value->Shared->Prop}{s:Shared}{l it t m:Addr}{i:Nat}{items:Array Value}{n:Nat}{f:Value}{Q:Option Value->Shared->Prop}(hh:A.handled=none)(hl:s.heap.get? l=EU {cls:= .type "list",dict:=none,data:= .seq items n,slots:= #[]})
 (hi:s.heap.IsListIter it l i) (ht:s.heap.get? t=EU (gc [.ref it])) (hm:s.heap.get? m=EU (f6 t f)) (hx:items[i]?=none)
 (h:∀h',Heap.ExtBut it s.heap h'->Q none {s with heap:=h'}):
 E4 (Fa prog w) A (pyNext (.ref m)) Q E s:=by
 have hT:s.TypeIs (.ref m) "map" :=(af _ hm rfl)
 unfold pyNext;refine EX (wpAny_attempt (Go (name:=EW "__next__") hT dh (Gw dh hT gJ ?_ (iB _))));show E4 _ _ (field (.ref m) 0>>=_) _ _ s;refine EX (Ho hm rfl (x:= .ref t) rfl ?_);refine EX (GR ht rfl ?_);refine EX ?_;show E4 _ _ (forIn [GU it].toArray _ _) _ _ s;rw[←Array.forIn_toList,G2];refine EX (EX (wpAny_holding (oz (ie2 prog w rfl) hh hl hi hx λh' e oe ex he hc=>?_)));refine EX (wpAny_isInstance (T:="StopIteration") (b:=true) (af _ he hc) isSubtype_stop ?_);exact E0 (h h' ex)
theorem j8{A:Fb}{S I:Addr}{res:Value}{n:Nat}{R:Result->Shared->Prop}(St:Nat->Shared->Prop)
 (item:∀i s,i<n->St i s->E4 (Fa prog w) A.in1 (pyNext (.ref I)) (λo s'=>∃v acc c,o=EU v∧s'.heap.get? S=EU {cls:= .type "list",dict:=none,data:= .seq acc c,slots:= #[]}∧acc.size≤1000∧
  ∀h' c',h'.get? S=EU {cls:= .type "list",dict:=none,data:= .seq (acc.push v) c',slots:= #[]}->Heap.SameBut S s'.heap h'->St (i+1) {s' with heap:=h'}) NoE s)
 (done:∀s,St n s->E4 (Fa prog w) A.in1 (pyNext (.ref I)) (λo s'=>o=none∧R (.ok (.ret res)) s') NoE s):∀k i s,i+k=n->St i s->
 codeAny (Fa prog w) A (.builtin "list.extend.loop" ⟨[.ref S,.ref I,res],[]⟩) R s
 |0,i,s,hk,hs=>by
  have hin:i=n:=by exact o85 hk
  clear item hk;subst hin;refine Gc F.entry_extend_loop ?_;rw[Fb.under_plainId F.plain_extend_loop _];show E4 _ A.in1 (pyNext (.ref I)>>=_) _ _ s;refine EX (FE (done s hs) (λo s' ⟨e,q⟩=>?_) λ_ _ z=>z.elim);subst e;exact E0 q
 |k+1,i,s,hk,hs=>by
  refine Gc F.entry_extend_loop ?_;rw[Fb.under_plainId F.plain_extend_loop _];show E4 _ A.in1 (pyNext (.ref I)>>=_) _ _ s;refine EX (FE (item i s (by exact o86 hk) hs) (λo s' pp=>?_) λ_ _ z=>z.elim);refine iu pp λv acc c e hS hz q=>?_;clear pp;subst e;show E4 _ A.in1 (updateSeq S (·.push v)>>=_) _ _ _;refine EX ?_;refine GV hS rfl (E0 ⟨Gs F.plain_extend_loop _,?_⟩) (by rw[sizeLine_eq];exact o51 hz) (by show (acc.push v).size≤_;rw[Array.size_push,sizeLine_eq];exact FH (EY hz s!"d"));exact j8 St item done k (i+1) _ (by exact o88 hk) (q _ _ (Heap.get?_update_self _ hS rfl) (Heap.SameBut.update ..))
end
end
section
open Builtin.ObjectAttr
theorem pg(P:F1)(dv:Addr->Value)(S:Setting):peek (KD P dv) S (Gq (.ref 153) "__len__")=EU (EU (.builtin "tuple.__len__")):=s!"k"
section
variable {prog:Program} {w:FL} {A:Fb} {E:Value->Shared->Prop} {s:Shared} {dv:Addr->Value}
theorem mV{t:Addr}{o:Obj}{items:Array Value}{n:Nat}{Q:Value->Shared->Prop}(X:(KD w.params dv).In s.heap)(ho:s.heap.get? t=EU o)(hc:o.cls= .ref 153)(hd:o.data= .seq items n)(hz:items.size<1000)
 (h:∀t' k,Q (.int items.size t') {s with toks:=k}):E4 (Fa prog w) A (call (.builtin "len") [.ref t]) Q E s:=by
 have ty:Fv (Fa prog w) s.heap (GY (.ref t)) (.ref 153):=by rw[←hc];exact (Fv.ld ho).andThen .now
 have L1:=Fv.of_peek (M:=Fa prog w) X (pg w.params dv ⟨prog,w.params⟩);have L2:=ty.andThen (f:=λt=>GI t (.type "tuple")) (Fv.of_peek (M:=Fa prog w) X (jF w.params dv ⟨prog,w.params⟩));refine call_function_entry kind_len plain_len entry_len (args_len1 _) ?_;unfold Builtin.«len»;refine EX (m:=oneArg "len" _) (E0 ?_);refine EX (m:=callSpecial? (.ref t) (EW "__len__")) ?_;refine EX (EX (ty.here (L1.here (wpAny_holding ?_))));rw[slot_tuple_len.bind];refine EX (E0 (EX (GC ?_)));refine F2 slot_tuple_len.plain entry_tuple_len (@check_slot (Fa prog w) _ _ _ "tuple.__len__" "tuple" "__len__" (.ref t) [] [] _ s!"1" s!"1" L2 (args_tuple_len _) ?_);show E4 _ _ (do retInt (←Builtin.Tuple.tupleItemsOf (.ref t)).size) _ _ s;refine EX ?_;unfold Builtin.Tuple.tupleItemsOf;refine EX (GR ho hd (E0 ?_));refine EX (wpAny_mkInt (E0 ?_));refine E0 ?_;refine EX (wpAny_holding (E0 ?_));refine EX (wpAny_letGo ?_);have e1:¬((items.size:Int)<0):=by exact tG
 have e2:¬((items.size:Int)≥2^63):=by exact Ad hz
 simp only[e1,e2,if_false];exact EX (wpAny_mkInt (E0 (af _ rfl (h _ _))))
end
theorem rn{X:Xc}(N:Kn X){st:St}{Q:MV->St->Prop}{ms:List MV}(hz:ms.length<1000)(hq:Q (.i ms.length) st):WC X (.builtin "len") [.t (.ref 153) ms] st Q:=λφ s us I r=>by
 unfold VRs at r;refine am r λy ys z1 z2=>?_;clear r;subst z1;refine xa1 z2 λz3 r=>?_;clear z2;obtain ⟨t,o,items,n,rfl,ho,himm,hc,hd,ri⟩:=z3;unfold VRs at r;subst r;refine mV (I.kin N) ho hc hd (by rw[ri.size];exact hz) λt' k=>?_;rw[ri.size];exact Post.mk (cH ..) (I.toks _) (.refl _) hq
variable {C:Cx}
noncomputable def cM:List String:=["cls","iterable","result"]
theorem pF:cM.Nodup:=s!"1"
set_option maxHeartbeats 4000000 in
theorem wi(G:Gd C){A:Fb}{k:Nat}(R:Rm (k+1) A){a b c:Int}{σ:Sg}:
 CtA C A (.ref 107) [.k (.ref 153),.t (.type "tuple") [.i a,.i b,.i c]] [] σ λm σ'=>m= .t (.ref 153) [.i a,.i b,.i c]∧σ'=σ:=by
 refine aW G R (a:=107) (c:=106) (x:=aH 4 5) (n:="_make") (q:="Match._make") (d:= .none) (pm:=(.str "cpy313.difflib" 286)) (an:=(EU 110)) (t:=378)
  (ps:=(["cls","iterable"]:List Str).zip [.k (.ref 153),.t (.type "tuple") [.i a,.i b,.i c]]) s!"k" s!"k" s!"k" s!"k" [("tuple",.type "tuple"),("len",.builtin "len")] s!"k" (λv=>(aX rfl s!"k" s!"1" (bk λa0=>bk λa1=>cK s!"k")).a) (ρ:=zL cM [EU (.k (.ref 153)),EU (.t (.type "tuple") [.i a,.i b,.i c]),none]) s!"k" λQf hQf X hC O R' hin hg hE=>?_
 subst hC
 have N:=kn G
 have hd:=pF
 have i_cls:gI cM 0=EU "cls" :=rfl
 have i_iterable:gI cM 1=EU "iterable" :=rfl
 have i_result:gI cM 2=EU "result" :=rfl
 have g_tuple:X.gs.lookup (EW "tuple")=EU (.type "tuple" :Value):=hg▸s!"k"
 have g_len:X.gs.lookup (EW "len")=EU (.builtin "len" :Value):=hg▸s!"k"
 clear hg hE
 conv=>arg 2;whnf
 refine aa (aA hin s!"2" (aI ⟨trivial,?_⟩))
 refine ae ?_
 refine aa (ah s!"r" s!"r" s!"t" ?_)
 refine λφ s I=>?_
 refine MethodCall_ ?_ s!"2"
 refine ab (de O g_tuple (Q:=λm st'=>m= .k (.type "tuple")∧st'=⟨σ,zL cM [EU (.k (.ref 153)),EU (.t (.type "tuple") [.i a,.i b,.i c]),none]⟩) ⟨rfl,rfl⟩ φ s I) λv s₁ pp=>?_
 obtain ⟨m,st₁,r,I₁,k₁,e1,e2⟩:=pp
 subst e1 e2
 cases (show v= .type "tuple" from r)
 refine iK (prog:=pgm) (w:=X.C.w) (T:="tuple") pR ?_
 refine xF (prog:=pgm) (w:=X.C.w) ?_
 have I₂:=I₁.toks (s₁.toks+1)
 refine callWith_builtin s!"r" (bt s!"t" (ab (cr (st:=⟨σ,zL cM [EU (.k (.ref 153)),EU (.t (.type "tuple") [.i a,.i b,.i c]),none]⟩) (Q:=λms st₁=>ms=[.k (.ref 153),.t (.type "tuple") [.i a,.i b,.i c]]∧st₁=⟨σ,zL cM [EU (.k (.ref 153)),EU (.t (.type "tuple") [.i a,.i b,.i c]),none]⟩) s!"t" ?_ I₂) λvs s₂ ⟨ms,st₂,r₂,I₃,k₂,e1,e2⟩=>?_))
 ·repeat walk_at "s"
  exact ⟨rfl,rfl⟩
 subst e1 e2
 unfold VRs at r₂
 refine am r₂ λy ys z1 z2=>?_;clear r₂;subst z1;refine xa1 z2 λq1 r₂=>?_;clear z2
 unfold VRs at r₂
 refine am r₂ λz zs z1 z2=>?_;clear r₂;subst z1;refine xa1 z2 λz3 r₂=>?_;clear z2;obtain ⟨t,o,items,n,rfl,ho,himm,hc,hd,ri⟩:=z3
 unfold VRs at r₂
 subst r₂
 cases (show y= .ref 153 from q1)
 refine sA (I₃.kin N) O.hh ho hc hd (by rw[ri.size];simp) λh' d hk=>?_
 have I₄:=(I₃.grow hk s₂.toks).push {cls:= .ref 153,dict:=EU d,data:= .seq items}
 refine Post.mk (m:= .t (.ref 153) [.i a,.i b,.i c]) (fb _ _ items 0 rfl (Heap.get?_push_size _ rfl) rfl rfl rfl ((ri.keep (aB hk)).keep (keep_push _ _))) I₄ (k₁.trans (k₂.trans ((aB hk).trans (keep_push _ _)))) ?_
 repeat walk_at "s"
 refine aT O g_len s!"t" ?_
 repeat walk_at "s"
 refine rn N s!"4" ?_
 repeat walk_at "s"
 refine aD s!"2" ?_
 repeat walk_at "s"
 exact ⟨rfl,rfl⟩
end
section
open Builtin.ObjectAttr
section
variable {prog:Program} {w:FL}
theorem n7{A:Fb}{s:Shared}{m t:Addr}{f:Value}{Q:Value->Shared->Prop}(hm:s.heap.get? m=EU (f6 t f))
 (h:∀S h' c,S=s.heap.objs.size->(∀b o,s.heap.get? b=EU o->h'.get? b=EU o)->h'.get? S=EU {cls:= .type "list",dict:=none,data:= .seq #[] c,slots:= #[]}->
  codeAny (Fa prog w) A.in1 (.builtin "list.extend.loop" ⟨[.ref S,.ref m,.none],[]⟩) (λr s'=>r= .ok (.ret .none)∧Q (.ref S) s') {s with heap:=h'}):
 E4 (Fa prog w) A (call (.type "list") [.ref m]) Q NoE s:=by
 refine callType_codes (Q₁:=λobj s₁=>obj= .ref s.heap.objs.size∧s₁={s with heap:=s.heap.push {cls:= .type "list",data:= .seq #[]}}) F.called_list (F.typeCall_list_1 _) F.entry_list_init
  (code_list_new _ ⟨rfl,rfl⟩) λobj s₁ h₁=>?_
 refine b7 h₁ λz2=>?_;clear h₁;subst z2;have hS:(s.heap.push {cls:= .type "list",data:= .seq #[]}).get? s.heap.objs.size=EU {cls:= .type "list",data:= .seq #[]}:=Heap.get?_push_size _ rfl;refine (ia2 ⟨_,hS,rfl⟩ (F.args_list_init_2 _ _) ?_);have nm:m≠s.heap.objs.size:=Fi (Heap.lt_size hm);have old0:∀b o,s.heap.get? b=EU o->(s.heap.push {cls:= .type "list",data:= .seq #[]}).get? b=EU o:=λb o e=>Heap.get?_push_of_some _ e;have hm0:=old0 _ _ hm;have lt0:∀b o,s.heap.get? b=EU o->b≠s.heap.objs.size:=λb o e=>Fi (Heap.lt_size e);generalize s.heap.objs.size=S at*;generalize s.heap.push {cls:= .type "list",data:= .seq #[]}=h0 at*;show E4 _ A.in1.in1 (do let old←Builtin.List.listItems (.ref S);Builtin.List.listUpdate (.ref S) (λ_=> #[]);letGo old.toList.reverse;GZ (.ref S) (.ref m) .none) _ _ _;refine EX ?_;unfold Builtin.List.listItems;refine EX (GR hS rfl (E0 ?_));show E4 _ A.in1.in1 (updateSeq S (λ_=> #[])>>=λ_=>letGo (#[]:Array Value).toList.reverse>>=λ_=>GZ (.ref S) (.ref m) .none) _ _ _;refine EX (GV hS rfl ?_);have hS₂:=Heap.get?_update_self (F5 (λ_=>(#[]:Array Value))) hS rfl
 have oth:∀b o,b≠S->h0.get? b=EU o->(h0.update S (F5 (λ_=>(#[]:Array Value)))).get? b=EU o:=
  λb o hb e=>(Heap.get?_update_other _ _ (E8 hb)).trans e
 have hm2:=oth _ _ nm hm0;generalize h0.update S (F5 (λ_=>(#[]:Array Value)))=h1 at*;refine EX (wpAny_letGo ?_);unfold GZ;have hT:∀(s:Shared),s.heap.get? m=EU (f6 t f)->s.TypeIs (.ref m) "map" :=λs e=>(af _ e rfl)
 refine EX (G1 (hT _ hm2) ?_);have q1:Builtin.List.listSameRef (.ref S) (.ref m)=false:=by simp[Builtin.List.listSameRef,E8 nm]
 have q2:(Hk "map" ==Hk "list")=false:=s!"d"
 have q3:(Hk "map" ==Hk "tuple")=false:=s!"d"
 simp only[q1,q2,q3,Bool.or_false,Gg,if_false];refine EX (wpAny_pyIter_slot (hT _ hm2) iF (Gw iF (hT _ hm2) lV (E0 (dc _ rfl ("map") ⟨_,hT _ hm2,dh.lookup,?_⟩)) (oj _)));refine EX (wpAny_holding ?_);unfold Builtin.List.listLengthHint;refine EX (wpAny_specialOf (hT _ hm2) sO ?_);show E4 _ _ (Hf (GU m) (EW "__length_hint__")>>=_) _ _ _;refine EX (wpAny_specialOf (hT _ hm2) rj ?_);refine E0 ?_
 show E4 _ _ (rule "list.extend.makes-room" >>=λ_=>Builtin.List.listTouch (.ref S)>>=λ_=>
  again (.builtin "list.extend.loop" ⟨[.ref S,.ref m,.none],[]⟩)) _ _ _
 refine EX (wpAny_rule ?_);refine EX ?_;show E4 _ _ (updateSeq S (·.push .none)>>=λ_=>updateSeq S (·.pop)) _ _ _;refine EX (GV hS₂ rfl ?_);have hS₃:=Heap.get?_update_self (F5 (·.push FK)) hS₂ rfl;refine GV (hz:=by seq_fits) hS₃ rfl ?_;have hS₄:=Heap.get?_update_self (F5 (·.pop)) hS₃ rfl;refine E0 ⟨Gs F.plain_extend_loop _,?_⟩;refine Hm (h S _ _ rfl (λb o e=>?_) hS₄) λr s' z=>?_
 ·have nb:=lt0 b o e;exact (Heap.get?_update_other _ _ (E8 nb)).trans ((Heap.get?_update_other _ _ (E8 nb)).trans (oth b o nb (old0 b o e)))
 ·refine b7 z λq=>?_;clear z;exact ⟨rfl,q⟩
end
noncomputable def bmO(f self:Value):MO:= .any λo=>o=methodObj f self
noncomputable def lE(it:Addr)(f:Value):MO:= .hp λh o=>∃t,o=f6 t f∧h.get? t=EU (gc [.ref it])
section
variable {X:Xc} {st:St} {φ:Sg} {Q:MV->St->Prop}
theorem IF.drop{s:Shared}{σ':Sg}(I:IF X φ st s)(h:∀a m,σ' a=EU m->st.σ a=EU m):IF X φ ⟨σ',st.ρ⟩ s:=by
 refine ⟨I.inv.sub λb n hb=>?_,?_,λb n hb=>I.dis b n (h b n hb),I.loc⟩
 ·have hb:(if b=X.env.locals then EU (MO.fr st.ρ) else (σ' b).or (φ b))=EU n:=hb;show (if b=X.env.locals then EU (MO.fr st.ρ) else (st.σ b).or (φ b))=EU n;by_cases h1:b=X.env.locals
  ·rw[if_pos h1] at hb⊢;exact hb
  ·rw[if_neg h1] at hb⊢
   cases e:σ' b with
   |some m=>rw[e] at hb;rw[h b m e];exact hb
   |none=>
    rw[e] at hb;have hb:φ b=EU n:=hb
    cases e2:st.σ b with
    |none=>exact hb
    |some m=>rw[I.dis b m e2] at hb;cases hb
 ·show σ' X.env.locals=none
  cases e:σ' X.env.locals with
  |none=>rfl
  |some m=>have z:=h _ _ e;rw[I.no] at z;cases z
theorem IF.leak{s:Shared}{it:Addr}{m:MO}{h':Heap}{t:Nat}(I:IF X φ st s)(e:st.σ it=EU m)(ex:Heap.ExtBut it s.heap h'):IF X φ ⟨st.σ.del it,st.ρ⟩ {s with heap:=h',toks:=t}∧Keep s.heap h':=by
 have itF:it≠X.env.locals:=λh=>by rw[h,I.no] at e;cases e
 have hI:IF X (φ.put it m) ⟨st.σ.del it,st.ρ⟩ s:=by
  have q:Internal.tot (st.σ.del it) (φ.put it m) X.env.locals st.ρ=Internal.tot st.σ φ X.env.locals st.ρ:=by
   funext b;unfold Sg.put Sg.del Internal.tot;by_cases h1:b=it
   ·clear ex;subst h1;simp[itF,e]
   ·simp[h1]
  refine ⟨by show Inv X.C (Internal.tot (st.σ.del it) _ _ _) s;rw[q];exact I.inv,?_,λb n hb=>?_,I.loc⟩
  ·show (if X.env.locals=it then none else st.σ X.env.locals)=none;rw[if_neg (E8 itF)];exact I.no
  ·have hb:(if b=it then none else st.σ b)=EU n:=hb;show (if b=it then EU _ else φ b)=none;by_cases h1:b=it
   ·rw[if_pos h1] at hb;cases hb
   ·rw[if_neg h1] at hb⊢;exact I.dis b n hb
 exact hI.forget (t:=t) itF (by show (st.σ.del it) it=none;exact if_pos rfl) (I.dis it _ e) ex
theorem uZ(O:XOk X)(N:Kn X){x name:Str}{p pos:Pos}{C P:Addr}{f:Value}{rest:List Value}(hf:X.gs.lookup x=EU (.ref C))(hb:F7 (.Name x p) name X.env (eval (.Name x p) X.env)=eval (.Name x p) X.env)
 (hr:readsIn (KD X.C.w.params N.dv) C (.type "type")=true) (e:findCls (KD X.C.w.params N.dv) (.ref C) (.type "type") name=EU (.get (.builtin "classmethod.__get__") (.ref P) .none (.ref C))) (hp:recIn (KD X.C.w.params N.dv) P "classmethod" =EU (f::rest))
 (hq:∀q,st.σ q=none->Q (.r q) ⟨st.σ.put q (bmO f (.ref C)),st.ρ⟩):WE X (.Attribute (.Name x p) name pos) st Q:=λφ s I=>by
 rw[arm_eval_Attribute,hb];refine EX (ab (de O hf (Q:=λm st'=>m= .k (.ref C)∧st'=st) ⟨rfl,rfl⟩ φ s I) λv s₁ ⟨m,st₁,r,I₁,k,e1,e2⟩=>EX (GJ (EX (wpAny_holding ?_))));clear I;subst e1 e2;cases (show v= .ref C from r);have KI:=I₁.kin N;refine cls_bind (s:=s₁) KI hr e (GC (cm_get (s:={s₁ with toks:=s₁.toks+1}) KI hp (handed_on rfl ?_)));refine EX (wpAny_letTemporaryGo (E0 ?_));obtain ⟨n,I₂⟩:=(I₁.toks (s₁.toks+1)).new (m:=bmO f (.ref C)) (o:=methodObj f (.ref C)) (aR _ (Heap.get?_push_size _ rfl) rfl rfl);exact Post.mk (bO ..) I₂ (k.trans (keep_push _ _)) (hq _ n)
theorem CL{q l:Addr}{vs:List MV}(el:st.σ l=EU (.lst vs))(hq:∀it m,st.σ it=none->st.σ m=none->it≠m->Q (.r m) ⟨(st.σ.put it (.itl l 0)).put m (lE it (.ref q)),st.ρ⟩):WC X (.type "map") [.r q,.r l] st Q:=λφ s us I r=>by
 refine tz r λz e2=>?_;cases (show z= .ref l from e2);refine ad (I.own el) λitems z1 rr=>?_;refine xe1 z1 λn pl=>?_;clear z1;refine sV pl λit t m h' old ge nim ntm nit gem gi gt gm=>?_;have I₁:IF X φ st {s with heap:=h',toks:=s.toks}:=I.grow old s.toks
 have fr:∀b,s.heap.objs.size≤b->Internal.tot st.σ φ X.env.locals st.ρ b=none:=λb hb=>by
  cases e:Internal.tot st.σ φ X.env.locals st.ρ b with
  |none=>rfl
  |some m=>exact absurd (E1 (I.inv.lt e) hb) (FC _)
 refine xa2 (bB (fr it ge)) λa1 a2 a3=>?_;refine xa2 (bB (fr m gem)) λb1 b2 b3=>?_;have I₂:=I₁.hide a2 a1 (EY I.inv.sz ge) (m:= .itl l 0) (aR _ gi rfl rfl);have I₃:=I₂.hide b2 b1 (EY I.inv.sz gem) (m:=lE it (.ref q)) (fA _ h' gm rfl (.refl _) ⟨t,rfl,gt⟩);rw[d8 _ _ _ nim] at I₃;have I₄:=I₃.show_ a2 a1 (by unfold Sg.put;rw[if_neg nim];exact a3);have I₅:=I₄.show_ (by show (st.σ.put _ _) _=none;unfold Sg.put;rw[if_neg (E8 nim)];exact b2) b1 b3;exact .mk (bO ..) I₅ (aB old) (hq _ _ a2 b2 nim)
theorem qK(φ:Sg):joi (λ_=>none) φ=φ:=by funext a;unfold joi;rfl
theorem uz(O:XOk X){k:Nat}(R:Rm (k+1) X.A){m it q l fn:Addr}{self:Value}{vs ws:List MV}{σ0:Sg}(e1:st.σ m=EU (lE it (.ref q)))(e2:st.σ it=EU (.itl l 0))(e3:st.σ q=EU (bmO (.ref fn) self))(e4:st.σ l=EU (.lst vs))
 (hlen:vs.length=ws.length) (hz:vs.length≤900)
 (hct:∀A',Rm k A'->∀i (h1:i<vs.length) (h2:i<ws.length),CtA X.C A' (.ref fn) [.k self,vs[i]] [] (λ_=>none) λm σ'=>m=ws[i]∧σ'=λ_=>none)
 (hsub:∀a m,σ0 a=EU m->a≠it∧st.σ a=EU m) (hq:∀b,st.σ b=none->Q (.r b) ⟨σ0.put b (.lst ws),st.ρ⟩):WC X (.type "list") [.r m] st Q:=λφ s us I r=>by
 refine fS r ?_;refine iR (I.own e1) λo h₀ ho _ kk t z1 ht0=>?_;subst z1;have ht:s.heap.get? t=EU (gc [.ref it]):=kk _ _ ht0 rfl;have nmi:m≠it:=λh=>by clear hsub ht0 ht;subst h;rw[e1] at e2;cases e2
 have nqi:q≠it:=λh=>by clear e1 hsub ht0 ht nmi;subst h;rw[e3] at e2;cases e2
 have nli:l≠it:=λh=>by clear e1 hsub ht0 ht nmi nqi;subst h;rw[e4] at e2;cases e2
 refine n7 ho λS h' c eS old hS=>?_;have fr:Internal.tot st.σ φ X.env.locals st.ρ S=none:=by rw[eS];exact I.inv.fresh
 refine xa2 (bB fr) λs1 s2 s3=>?_;have I₁:IF X φ st {s with heap:=h',toks:=s.toks}:=I.grow old s.toks;have I₂:=I₁.hide s2 s1 (by rw[eS];exact I.inv.sz) (m:= .lst []) (af (#[]) ⟨c,hS⟩ (.nil _));refine j8 (A:=X.A.in1) (n:=vs.length) (λi s'=>∃σi,IF X (φ.put S (.lst (ws.take i))) ⟨σi,st.ρ⟩ s'∧Keep s.heap s'.heap∧σi it=EU (.itl l i)∧∀a,a≠it->σi a=st.σ a) ?_ ?_ vs.length 0 _ (by exact o89) (cI st.σ I₂ (aB old) e2 (λ_ _=>rfl))
 ·intro i s' hi zr1;refine gu zr1 λσi Ii ki ei eo=>?_;clear zr1;refine ad (Ii.own (show σi l=EU (.lst vs) by rw[eo l nli];exact e4)) λitems z1 rr=>?_;refine xe1 z1 λn pl=>?_;clear z1;obtain ⟨x,hx,rx⟩:=rr.arr (E2 hi);refine iR (Ii.own (show σi m=EU (lE it (.ref q)) by rw[eo m nmi];exact e1)) λom hm0 hom _ km t' z1 ht'=>?_;subst z1;refine nR pl (Ii.own ei) (km _ _ ht' rfl) hom nmi hx λh1 hit1 sb1=>?_;have Ib:=Ii.upd (t:=s'.toks) ei sb1 (m':= .itl l (i+1)) hit1;have kb:=co Ii ei sb1;refine aV (Ib.own (show (σi.put it (.itl l (i+1))) q=EU (bmO (.ref fn) self) by rw[Sg.put_ne _ _ nqi,eo q nqi];exact e3)) λoq hoq _ z1=>?_;subst z1;have cc:=hct X.A.in1.in1.in1 ⟨R.hh,by have:=R.d;show X.A.depth+4*k+1<_;exact Ab this,by have:=R.u;show X.A.units+1+1+1+16*k+16<_;exact g16 (k:=3) this s!"d"⟩ i hi (by exact iN hlen hi)
   (Internal.tot (σi.put it (.itl l (i+1))) (φ.put S (.lst (ws.take i))) X.env.locals st.ρ) {s' with heap:=h1,toks:=s'.toks} [self,x] [] (by rw[qK];exact Ib.inv) (λa m h=>by cases h) (.cons (aZ ..) (.cons (rx.keep kb) (.nil _))) (.nil _)
  refine fC (method_call hoq (Hm cc λr s₂ z=>?_));rcases r with e|(_|_|_|v)<;>first|exact z.elim|skip
  refine ik z λmm σ' rv I' d' k' em eσ=>?_;clear z;clear d';subst em eσ;rw[qK] at I';have Ic:IF X (φ.put S (.lst (ws.take i))) ⟨σi.put it (.itl l (i+1)),st.ρ⟩ s₂:=⟨I',Ib.no,Ib.dis,Ib.loc⟩
  have sS:(σi.put it (.itl l (i+1))) S=none:=by
   cases e:(σi.put it (.itl l (i+1))) S with
   |none=>rfl
   |some m=>have z:=Ic.dis S m e;unfold Sg.put at z;rw[if_pos rfl] at z;cases z
  refine ad ((Ic.inv.rep S (.lst (ws.take i)) (by unfold Internal.tot;rw[if_neg s1];show ((σi.put it (.itl l (i+1))) S).or _=_;rw[sS];exact if_pos rfl)).2) λaccS z1 rS=>?_;refine xe1 z1 λcS hSS=>?_;clear z1;refine (jG v accS cS rfl hSS ⟨by rw[rS.size,List.length_take];exact EY (Nat.min_le_left _ _) (EY (Fu hi) (EY hz s!"d")),λh3 c' hS3 sb3=>?_⟩);have kS:Keep s₂.heap h3:=(Ic.move (h':=h3) (m':= .any λ_=>True) (t:=0) s1 sS sb3.extBut (aR _ hS3 rfl trivial)).2
  obtain ⟨Id,_⟩:=Ic.move (h':=h3) (t:=s₂.toks) (m':= .lst (ws.take (i+1))) s1 sS sb3.extBut ⟨_,⟨c',hS3⟩,by
   have hw:i<ws.length:=by exact iN hlen hi
   rw[←List.take_append_getElem hw];exact (rS.keep kS).snoc (rv.keep kS)⟩
  exact (cI _ Id (ki.trans (kb.trans (k'.trans kS))) (Sg.put_same ..) (λa ha=>by rw[Sg.put_ne _ _ ha];exact eo a ha))
 ·intro s' zr1;refine gu zr1 λσi Ii ki ei eo=>?_;clear zr1;refine ad (Ii.own (show σi l=EU (.lst vs) by rw[eo l nli];exact e4)) λitems z1 rr=>?_;refine xe1 z1 λn pl=>?_;clear z1;refine iR (Ii.own (show σi m=EU (lE it (.ref q)) by rw[eo m nmi];exact e1)) λom hm0 hom _ km t' z1 ht'=>?_;subst z1;refine qf O.hh pl (Ii.own ei) (km _ _ ht' rfl) hom (by rw[←rr.size];simp) λh1 ex=>(ia2 rfl rfl ?_)
  refine xa1 (Ii.leak (t:=s'.toks) ei ex) λIb kb=>?_
  have Ic:=Ib.drop (σ':=σ0) λa m ha=>by
   refine xa1 (hsub a m ha) λh1 h2=>?_;show (if a=it then none else σi a)=EU m;rw[if_neg h1,eo a h1];exact h2
  rw[hlen,Gp] at Ic
  have s0:σ0 S=none:=by
   cases e:σ0 S with
   |none=>rfl
   |some m=>have z:=(hsub S m e).2;rw[s2] at z;cases z
  exact Post.mk (bO ..) (Ic.show_ s0 s1 s3) (ki.trans kb) (hq S s2)
end
end
theorem qY{X:Xc}{st:St}{t₁ t₂ t₃ value:Fw}{pos}{Q:Fl->St->Prop}(hw:Ht [t₁,t₂,t₃] value X.env=pure none)(ht:Starless [t₁,t₂,t₃])
 (h:WE X value st λm st₁=>WA X t₁ m st₁ λst₂=>WA X t₂ m st₂ λst₃=>WA X t₃ m st₃ λst₄=>Q .next st₄):WS1 X (.Assign [t₁,t₂,t₃] value pos) st Q:=λφ s I=>by
 refine wpAny_Assign_three (ab (h φ s I) λv s₁ pp=>?_) (by rw[cf X.env ht];rfl) hw;obtain ⟨m,st₁,r,I₁,k,h₁⟩:=pp;refine ab (h₁ φ s₁ v I₁ r) λ_ s₂ pp=>?_;obtain ⟨st₂,I₂,k₂,h₂⟩:=pp;refine ab (h₂ φ s₂ v I₂ (r.keep k₂)) λ_ s₃ pp=>?_;obtain ⟨st₃,I₃,k₃,h₃⟩:=pp;exact ab (h₃ φ s₃ v I₃ ((r.keep k₂).keep k₃)) λ_ s₄ ⟨st₄,I₄,k₄,q⟩=>⟨.next,st₄,rfl,I₄,k.trans (k₂.trans (k₃.trans k₄)),q⟩
noncomputable def Sw2(X:Xc)(m:MV)(x y:Str)(st:St)(Q:Fl->St->Prop):Prop:=∃ms,m= .t (.type "tuple") ms∧ [x,y].length=ms.length∧WNs X [x,y].reverse ms.reverse st λst₂=>Q .next st₂
theorem yr{X:Xc}{st:St}(O:XOk X){elts k tpos value pos}{x y:Str}{Q:Fl->St->Prop}(hs:swapsWithSole [.Tuple elts k tpos] value pos.line X.env=pure false)(hw:Ht [.Tuple elts k tpos] value X.env=pure (EU [x,y]))
 (h:WE X value st λm st₁=>Sw2 X m x y st₁ Q):WS1 X (.Assign [.Tuple elts k tpos] value pos) st Q:=iA O hs hw h
theorem DY{X:Xc}{σ:Sg}{ρ:Lo}{x y:Str}{a b:MV}{u1 u2:Option MV}{Q:Fl->St->Prop}(h1:lk ρ y=EU u1)(h2:lk (stL ρ y b) x=EU u2)(h:Q .next ⟨σ,stL (stL ρ y b) x a⟩):
 Sw2 X (.t (.type "tuple") [a,b]) x y ⟨σ,ρ⟩ Q:=(aR _ rfl rfl ⟨⟨_,h1⟩,⟨_,h2⟩,h⟩)
theorem Cq{X:Xc}{σ:Sg}{ns:List String}{vs:List (Option MV)}{x y:String}{i j:Nat}{a b:MV}{u1 u2:Option MV}{Q:Fl->St->Prop}(hd:ns.Nodup)(hx:gI ns i=EU x)(hy:gI ns j=EU y)(g1:gI vs j=EU u1)(g2:gI (sI vs j (EU b)) i=EU u2)
 (h:Q .next ⟨σ,zL ns (sI (sI vs j (EU b)) i (EU a))⟩):Sw2 X (.t (.type "tuple") [a,b]) (EW x) (EW y) ⟨σ,zL ns vs⟩ Q:=
 DY (lkI hd hy g1) (stI hd hy▸lkI hd hx g2) (by rw[stI hd hy,stI hd hx];exact h)
noncomputable abbrev N3:=Nat×Nat×Nat
noncomputable def tM(p:N3):MV:= .t (.ref 153) [.i (p.1:Int),.i (p.2.1:Int),.i (p.2.2:Int)]
noncomputable def tT(p:N3):MV:= .t (.type "tuple") [.i (p.1:Int),.i (p.2.1:Int),.i (p.2.2:Int)]
theorem qC{σ:Sg}{a:Addr}{m:MO}(h:σ a=EU m):σ.put a m=σ:=by
 funext b;unfold Sg.put;split
 ·rename_i e;rw[e,h]
 ·rfl
theorem VRs.i3{h:Heap}{c:Value}{a b d:Int}{v:Value}(r:VR h (.t c [.i a,.i b,.i d]) v):∃t o ta tb td n,v= .ref t∧h.get? t=EU o∧imm o=true∧o.cls=c∧o.data= .seq [.int a ta,.int b tb,.int d td].toArray n:=by
 refine bz r λt o items n z1 z2=>?_;clear r;subst z1;refine xa4 z2 λho hi hc hd r=>?_;clear z2;unfold VRs at r;refine bL r λx1 r1 e1 z1 r=>?_;refine xe1 z1 λt1 z3=>?_;clear z1;subst z3;unfold VRs at r;refine bL r λx2 r2 e2 z1 r=>?_;refine xe1 z1 λt2 z3=>?_;clear z1;subst z3;unfold VRs at r;refine bL r λx3 r3 e3 z1 r=>?_;refine xe1 z1 λt3 z3=>?_;clear z1;subst z3;unfold VRs at r;subst r;clear r;subst e3;clear r;subst e2;refine (ie3 t o t1 ⟨t2,t3,n,rfl,ho,hi,hc,?_⟩);rw[hd];congr 1;apply Array.ext';rw[e1]
theorem yV{X:Xc}(N:Kn X)(hu:X.A.units+3<cLine){st:St}{Q:MV->St->Prop}{l:Addr}{ts:List N3}(e:st.σ l=EU (.lst (ts.map tM)))(hz:ts.length<64)(hs:ts.Pairwise λp q=>p.1<q.1)(hq:Q (.k .none) st):
 WC X (.builtin "list.sort") [.r l] st Q:=λφ s us I r=>by
 refine fS r ?_;refine ad (I.own e) λitems z1 rr=>?_;refine xe1 z1 λn pl=>?_;clear z1;have lz:items.toList.length=ts.length:=by rw[rr.length];simp
 have hT:s.TypeIs (.ref l) "list" :=(af _ pl rfl)
 have getM:∀i (hi:i<ts.length),∃t o ta tb td n,items.toList[i]?=EU (.ref t)∧s.heap.get? t=EU o∧imm o=true∧o.cls= .ref 153∧o.data= .seq [.int (ts[i].1:Int) ta,.int (ts[i].2.1:Int) tb,.int (ts[i].2.2:Int) td].toArray n:=λi hi=>by
  obtain ⟨x,hx,rx⟩:=rr.get (i:=i) (m:=tM ts[i]) (by rw[FA,E2 hi];rfl);refine xe2 (VRs.i3 rx) λt o z1=>?_;refine bz z1 λta tb td n z3 z4=>?_;clear z1;clear rx;subst z3;obtain ⟨h1,h2,h3,h4⟩:=z4;exact (ie3 t o ta ⟨tb,td,n,hx,h1,h2,h3,h4⟩)
 have ne_l:∀t o,s.heap.get? t=EU o->imm o=true->t≠l:=λt o ho hi h=>by
  clear e r hT;subst h;rw[pl] at ho;cases ho;cases hi
 have KI:=I.kin N;refine Gw slot_list_sort hT entry_list_sort (nL (c:= .ref 153) (vs:=items.toList) (n:=n) (by rw[Hg];exact pl) s!"d" s!"d" (λv hv h' old Q hq=>?_) (by rw[lz];exact hz) (λi h1 h2=>?_) λh' n' ex hl'=>(af _ rfl ?_)) (args_list_sort _)
 ·obtain ⟨i,hi⟩:=List.getElem?_of_mem hv;obtain ⟨t,o,ta,tb,td,n,h1,h2,h3,h4,h5⟩:=getM i (by have:=(E5.mp hi).1;exact iN lz this);rw[h1] at hi;clear hv h5;cases hi;have ho:=old t o (ne_l t o h2 h3) h2;have ty:Fv (Fa pgm X.C.w) h' (GY (.ref t)) (.ref 153):=by rw[←h4];exact (Fv.ld ho).andThen .now
  exact ty.here (s:={s with heap:=h'}) hq
 ·rw[lz] at h2;refine xe2 (getM i h2) λt o z1=>?_;refine bz z1 λta tb td n a1 z3=>?_;clear z1;obtain ⟨a2,a3,a4,a5⟩:=z3;refine xe2 (getM (i-1) (by exact BS h2)) λu o' z1=>?_;refine bz z1 λua ub ud n' b1 z3=>?_;clear z1;obtain ⟨b2,b3,b4,b5⟩:=z3;refine (cZ _ _ a1 b1 (λh' old E Q hq=>?_));have lt:ts[i-1].1<ts[i].1:=FY.mp hs (i-1) i (by exact BS h2) h2 (by exact Nat.sub_lt_of_pos_le (Nat.one_pos) h1);have KI':(KD X.C.w.params N.dv).In h':=λa o ek=>old a o (lL I.inv (I.tot e) (N.k a o ek)) (I.inv.old a o (N.k a o ek));refine qU (s:={s with heap:=h'}) KI' (by show X.A.units+1<cLine;exact E3 (Fj (by decide:1≤3) _) hu) (old _ _ (ne_l _ _ a2 a3) a2) (old _ _ (ne_l _ _ b2 b3) b2) a4 b4 a5 b5 (by exact EM lt) ?_;rw[decide_eq_false (by exact λz_h=>Nat.lt_asymm lt (FP.mp z_h))];exact hq
 ·have z:=hl';rw[Hg] at z
  obtain ⟨I',k'⟩:IF X φ st {s with heap:=h'}∧Keep s.heap h':=by
   have lF:l≠X.env.locals:=λh=>by rw[h,I.no] at e;cases e
   refine xa1 (I.leak (t:=s.toks) e ex) λIb kb=>?_;refine ⟨?_,kb⟩;have w:=Ib.inv.own (a:=l) (m:= .lst (ts.map tM)) (I.inv.rep _ _ (I.tot e)).1 (af items ⟨n',z⟩ (rr.keep kb))
   have q:(Internal.tot (st.σ.del l) φ X.env.locals st.ρ).put l (.lst (ts.map tM))=Internal.tot st.σ φ X.env.locals st.ρ:=by
    funext b;unfold Sg.put Sg.del Internal.tot;by_cases h1:b=l
    ·clear r pl hT ne_l ex hl' z Ib w;subst h1;simp[lF,e]
    ·simp[h1]
   rw[show Internal.tot ({σ:=st.σ.del l,ρ:=st.ρ}:St).σ φ X.env.locals ({σ:=st.σ.del l,ρ:=st.ρ}:St).ρ=Internal.tot (st.σ.del l) φ X.env.locals st.ρ from rfl,q] at w;exact ⟨w,I.no,I.dis,I.loc⟩
  exact Post.mk (aZ ..) I' k' hq
noncomputable def tQ(l:Addr)(m:MV)(st:St)(Q:Fl->St->Prop):Prop:=∃vs,st.σ l=EU (.lst vs)∧vs.length≤1000∧Q .next ⟨st.σ.put l (.lst (vs++[m])),st.ρ⟩
theorem jb{l:Addr}{m:MV}{vs:List MV}{σ:Sg}{ρ:Lo}{Q:Fl->St->Prop}(h:σ l=EU (.lst vs))(hz:vs.length≤1000)(hq:Q .next ⟨σ.put l (.lst (vs++[m])),ρ⟩):tQ l m ⟨σ,ρ⟩ Q:=(aR vs h hz hq)
theorem cz{X:Xc}(O:XOk X)(hin:GF X.env=false){x:Str}{p apos cpos pos:Pos}{e:Fw}{σ:Sg}{ρ:Lo}{l:Addr}{vs0:List MV}{Q:Fl->St->Prop}(hl:lk ρ x=EU (EU (.r l)))(h0:σ l=EU (.lst vs0))
 (hs:swapsWith (.Call (.Attribute (.Name x p) (EW "append") apos) [e] [] cpos) none pos.line X.env=pure false) (hb:F7 (.Name x p) (EW "append") X.env (eval (.Name x p) X.env)=eval (.Name x p) X.env) (hline:(apos.endLine==cpos.line)=true) (hst:Starless [e])
 (h:WE X e ⟨σ,ρ⟩ λm st₁=>tQ l m st₁ Q):WS1 X (.Expr (.Call (.Attribute (.Name x p) (EW "append") apos) [e] [] cpos) pos) ⟨σ,ρ⟩ Q:=by
 refine aA hin hs (bp (T:="list") (id:="list.append") hst hb s!"4" hline Fz Gx Gy (gF O hl ⟨bJ h0,?_⟩));refine λφ s I=>ab (h φ s I) λv s₁ y=>?_;obtain ⟨m,st₁,r,I₁,k,vs,e1,e2,q⟩:=y;refine ⟨m,st₁,r,I₁,k,?_⟩;exact fN e1 (by rw[sizeLine_eq];exact o51 e2) ⟨trivial,q⟩
noncomputable def CB(l:Addr)(st:St)(Q:MV->St->Prop):Prop:=∃vs m,st.σ l=EU (.lst (vs++[m]))∧vs.length≤1000∧Q m ⟨st.σ.put l (.lst vs),st.ρ⟩
theorem zZ{X:Xc}(O:XOk X){x:Str}{p apos cpos:Pos}{σ:Sg}{ρ:Lo}{l:Addr}{Q:MV->St->Prop}(hl:lk ρ x=EU (EU (.r l)))
 (hb:F7 (.Name x p) (EW "pop") X.env (eval (.Name x p) X.env)=eval (.Name x p) X.env) (hline:(apos.endLine==cpos.line)=true)
 (h:CB l ⟨σ,ρ⟩ Q):WE X (.Call (.Attribute (.Name x p) (EW "pop") apos) [] [] cpos) ⟨σ,ρ⟩ Q:=by
 refine bL h λvs m e1 e2 q=>?_;refine bp (T:="list") (id:="list.pop") trivial hb s!"d" hline Fz PySem.F.slot_list_pop PySem.F.type_list_pop (gF O hl ⟨bJ e1,?_⟩);exact xI e1 (by rw[sizeLine_eq];exact wv e2) q
noncomputable def dZ(A B:List Str):Nat->Nat->List (Nat×Nat)->Prop
 |a,b,[]=>fhp A B b B.length a (A.length-a)=none
 |a,b,p::l=>fhp A B b B.length a (A.length-a)=EU p∧dZ A B (p.1+1) (p.2+1) l
theorem ng{A B:List Str}{blo bhi alo:Nat}:∀{t i j:Nat},fhp A B blo bhi alo t=EU (i,j)->∀i',alo≤i'->i'<i->hit A B blo bhi i'=none
 |0,_,_,h=>by cases h
 |t+1,i,j,h=>by
  unfold fhp at h
  cases e:fhp A B blo bhi alo t with
  |some r=>
   rw[e] at h;cases h;exact ng e
  |none=>
   rw[e] at h;refine ad (Ge.mp h) λj' hj e2=>?_;clear h hj;cases e2;exact λi' h1 h2=>kE e i' h1 h2
theorem eX{A B:List Str}{blo bhi alo:Nat}:∀{t:Nat},(∀i,alo≤i->i<alo+t->hit A B blo bhi i=none)->fhp A B blo bhi alo t=none
 |0,_=>rfl
 |t+1,h=>by
  unfold fhp;rw[eX λi h1 h2=>h i h1 (by exact zP h2),h (alo+t) (by exact xl) (by exact z7)];rfl
theorem wc{A B:List Str}{blo bhi bhi' i:Nat}(hle:bhi'≤bhi)(h:hit A B blo bhi i=none):hit A B blo bhi' i=none:=by
 unfold hit at h⊢
 cases e:A[i]? with
 |none=>rfl
 |some x=>
  rw[e] at h;have h:(bC B x).find? _=none:=h;refine List.find?_eq_none.mpr λj hj=>?_;have:=List.find?_eq_none.mp h j hj;simp at this⊢;intro h1;have:=this h1;exact EY hle this
theorem uM{A B:List Str}{blo alo t i j:Nat}{bhi:Nat}(h:fhp A B blo bhi alo t=EU (i,j)):fhp A B blo j alo (i-alo)=none:=by
 refine xa2 (eP h) λh1 h2 h3=>?_;refine xa2 (eI h1) λ_ _ h5=>?_;refine eX λi' a b=>wc (Fu h5) (ng h i' a (by exact Nat.add_sub_cancel' h2▸b))
theorem gj{A B:List Str}:∀{l:List (Nat×Nat)} {a b:Nat},dZ A B a b l->∀p∈l,a≤p.1∧b≤p.2∧∃x,A[p.1]?=EU x∧B[p.2]?=EU x
 | [],_,_,_,_,hp=>by cases hp
 |q::l,a,b,h,p,hp=>by
  refine xa1 h λh1 h2=>?_;clear h;obtain ⟨i,j⟩:=q;refine xa2 (eP h1) λf1 f2 f3=>?_;refine xa2 (eI f1) λz1 w3 w4=>?_;refine ad z1 λx x1 x2=>?_;clear z1;rcases FI.mp hp with rfl|hp
  ·exact (ia2 f2 w3 ⟨x,x1,x2⟩)
  ·refine xa2 (gj h2 p hp) λy1 y2 y3=>?_;dsimp only at y1 y2;exact (ia2 (by exact BA f2 y1) (by exact BA w3 y2) y3)
theorem qo{A B:List Str}:∀{l:List (Nat×Nat)} {a b:Nat},dZ A B a b l->l.Pairwise λp q=>p.1<q.1
 | [],_,_,_=> .nil
 |q::l,a,b,h=>by
  refine .cons (λp hp=>?_) (qo h.2);have:=(gj h.2 p hp).1;exact this
theorem vF{A B:List Str}(hr:Rows A B){l:List (Nat×Nat)}(h:dZ A B 0 0 l){t:Nat}(ht:t+1<l.length)(e1:l[t].1+1=l[t+1].1)(e2:l[t].2+1=l[t+1].2):False:=by
 refine xa2 (gj h l[t] (FB _)) λ_ _ z1=>?_;refine ad z1 λx x1 x2=>?_;refine xa2 (gj h l[t+1] (FB _)) λ_ _ z1=>?_;refine ad z1 λy y1 y2=>?_;rw[←e1] at y1;rw[←e2] at y2;exact hr.adj _ _ x y x1 x2 y1 y2
theorem vd{A B:List Str}{a b:Nat}{l:List (Nat×Nat)}(h:dZ A B a b l)(he:A.length≤a∨B.length≤b):l=[]:=by
 cases l with
 |nil=>rfl
 |cons p l=>
  obtain ⟨i,j⟩:=p;refine xa2 (eP h.1) λf1 f2 f3=>?_;refine xa2 (eI f1) λ_ w3 w4=>?_;exact (he.elim (λz_h=>Nat.not_lt_of_le (EY z_h f2) (vO f2 f3)) λz_h=>Nat.not_lt_of_le (EY z_h w3) w4).elim
theorem A6{A B:List Str}{blo bhi alo ahi i j:Nat}(h:fhp A B blo bhi alo (ahi-alo)=EU (i,j)):alo≤i∧i<ahi∧blo≤j∧j<bhi:=by
 refine xa2 (eP h) λf1 f2 f3=>?_;refine xa2 (eI f1) λ_ w3 w4=>?_;exact (ia3 f2 (by exact vO f2 f3) w3 w4)
noncomputable abbrev N4:=Nat×Nat×Nat×Nat
noncomputable def xg(A B:List Str)(q:N4):Prop:=fhp A B q.2.2.1 q.2.2.2 q.1 (q.2.1-q.1)=none∧q.1≤q.2.1∧q.2.1≤A.length∧q.2.2.1≤q.2.2.2∧q.2.2.2≤B.length
noncomputable def h8(A B:List Str)(l:List (Nat×Nat))(n:Nat)(qs:List N4)(done:List (Nat×Nat)):Prop:=
 (∃D a b todo,qs=D++[(a,A.length,b,B.length)]∧(∀q∈D,xg A B q)∧done++todo=l∧dZ A B a b todo∧a≤A.length∧b≤B.length∧D.length≤a∧n=2*(A.length-a)+D.length+1)∨
 ((∀q∈qs,xg A B q)∧done=l∧qs.length≤A.length∧n=qs.length)
theorem sT{A B:List Str}{l:List (Nat×Nat)}{n:Nat}{qs:List N4}{alo ahi blo bhi:Nat}{done:List (Nat×Nat)}(h:h8 A B l n (qs++[(alo,ahi,blo,bhi)]) done):
 alo≤ahi∧ahi≤A.length∧blo≤bhi∧bhi≤B.length∧match fhp A B blo bhi alo (ahi-alo) with
  |none=>∃m,m<n∧h8 A B l m qs done
  |some (i,j)=>alo≤i∧i<ahi∧blo≤j∧j<bhi∧∃m,m<n∧h8 A B l m (qs++(if alo<i∧blo<j then [(alo,i,blo,j)] else [])++(if i+1<ahi∧j+1<bhi then [(i+1,ahi,j+1,bhi)] else [])) (done++[(i,j)]):=by
 rcases h with ⟨D,a,b,todo,e1,hD,e2,hc,ha,hb,hDl,hn⟩|⟨hD,e2,hl,hn⟩
 ·refine xa1 (List.append_inj' e1 rfl) λz1 e3=>?_;subst z1;simp only[List.cons.injEq,Prod.mk.injEq,and_true] at e3;refine xa1 e3 λz1 z2=>?_;clear e3;subst z1;refine xa1 z2 λz3 z4=>?_;clear z2;subst z3;clear e1;obtain ⟨rfl,rfl⟩:=z4;refine (ia4 ha (Fe _) hb (Fe _) ?_)
  cases todo with
  |nil=>
   rw[show fhp A B blo B.length alo (A.length-alo)=none from hc];exact (af qs.length (by rw[hn];exact Nat.lt_succ_of_le (Hi _ _)) (.inr ⟨hD,by simpa using e2,EY hDl ha,rfl⟩))
  |cons p todo=>
   obtain ⟨i,j⟩:=p;refine xa1 hc λh1 h2=>?_;clear hc;rw[h1];refine xa3 (A6 h1) λq1 q2 q3 q4=>?_;refine (ia4 q1 q2 q3 q4 ?_)
   have hdl:∀q∈qs++(if alo<i∧blo<j then [(alo,i,blo,j)] else []),xg A B q:=λq hq=>by
    rcases F3.mp hq with hq|hq
    ·exact hD q hq
    ·split at hq
     ·rw[FX.mp hq];exact (ia4 (uM h1) q1 (by dsimp only;exact v6 q2) q3 (by dsimp only;exact v6 q4))
     ·cases hq
   have hlen:(qs++(if alo<i∧blo<j then [(alo,i,blo,j)] else [])).length≤qs.length+1∧(qs++(if alo<i∧blo<j then [(alo,i,blo,j)] else [])).length≤i+1:=by
    have hl1:(if alo<i∧blo<j then [(alo,i,blo,j)] else []).length≤1:=by split;exact Fe 1;exact FZ 1
    exact ⟨by rw[E7];exact Fj hl1 _,by rw[E7];exact GB (EY hDl q1) hl1⟩
   dsimp only at h2;by_cases hh:i+1<A.length∧j+1<B.length
   ·rw[if_pos hh];refine (af _ ?_ (.inl ⟨_,i+1,j+1,todo,rfl,hdl,by rw[Gj];exact e2,h2,by exact Fu hh.1,by exact Fu hh.2,hlen.2,rfl⟩));rw[hn];exact DR q1 hh.1 hlen.1
   ·rw[if_neg hh,Hh];have:=vd h2 (by exact (Decidable.not_and_iff_or_not.mp hh).imp Ga.mp Ga.mp);clear h2;subst this;exact (af _ (by rw[hn];exact DT (E3 q1 q2) hlen.1) (.inr ⟨hdl,e2,by exact EY hlen.2 q2,rfl⟩))
 ·refine xa4 (hD (alo,ahi,blo,bhi) s!"4") λh1 h2 h3 h4 h5=>?_;dsimp only at h1 h2 h3 h4 h5;refine (ia4 h2 h3 h4 h5 ?_);rw[h1];simp only[E7,Hq,List.length_nil] at hl hn;exact (af qs.length (by exact hn▸Fe _) (.inr ⟨λq hq=>hD q (GK _ hq),e2,by exact Fu hl,rfl⟩))
theorem rk{A B:List Str}{l:List (Nat×Nat)}(h:dZ A B 0 0 l):h8 A B l (2*A.length+1) [(0,A.length,0,B.length)] []:=
 .inl (fb ([]) 0 0 l rfl (λq hq=>by simp at hq) rfl h (FZ _) ⟨FZ _,FZ _,rfl⟩)
theorem vz{A B:List Str}{l:List (Nat×Nat)}{n:Nat}{done:List (Nat×Nat)}(h:h8 A B l n [] done):done=l:=by
 rcases h with ⟨D,a,b,todo,e1,_⟩|⟨_,e,_⟩
 ·simp at e1
 ·exact e
theorem uE{A B:List Str}{l:List (Nat×Nat)}{n:Nat}{qs:List N4}{done:List (Nat×Nat)}(h:h8 A B l n qs done):qs.length≤A.length+1∧done.length≤l.length:=by
 rcases h with ⟨D,a,b,todo,e1,_,e2,_,h1,_,h3,_⟩|⟨_,e2,h3,_⟩
 ·subst e1;rw[←e2];exact ⟨by rw[E7];exact FH (EY h3 h1),s!"4"⟩
 ·rw[e2];exact ⟨by exact o37 h3,Fe _⟩
section
open Builtin.ObjectAttr
noncomputable def t1(p:Nat×Nat):N3:=(p.1,p.2,1)
noncomputable def Nm(ρ:Lo)(ns:List Str):Prop:=∀x∈ns,∃u,lk ρ x=EU u
theorem Nm.st{ρ:Lo}{ns:List Str}{x:Str}{m:MV}(h:Nm ρ ns):Nm (stL ρ x m) ns:=λy hy=>by
 refine xe1 (h y hy) λu hu=>?_;rw[gM];by_cases e:y=x
 ·subst e;rw[if_pos rfl,hu];exact ⟨_,rfl⟩
 ·rw[if_neg e];exact ⟨u,hu⟩
theorem Nm.nil{ρ:Lo}:Nm ρ []:=λx hx=>by simp at hx
theorem Nm.cons{ρ:Lo}{x:Str}{ns:List Str}{u:Option MV}(h:lk ρ x=EU u)(t:Nm ρ ns):Nm ρ (x::ns):=λy hy=>by
 rcases FI.mp hy with e|hy
 ·rw[e];exact ⟨u,h⟩
 ·exact t y hy
theorem dG{X:Xc}{x:Stmt}{rest:List Stmt}{st:St}{Q Q1:Fl->St->Prop}(h:WS1 X x st Q1)(k:∀fl st',Q1 fl st'->fo X rest Q fl st'):WS X (x::rest) st Q:=aa (kf h k)
theorem cU{X:Xc}{test:Fw}{body orelse:List Stmt}{pos:Pos}{st:St}{Q:Fl->St->Prop}(B:Bool)(h:WB X test st λb st₁=>b=B∧st₁=st)(k:if B=true then WS X body st Q else WS X orelse st Q):WS1 X (.If test body orelse pos) st Q:=
 bl λφ s I=>ab (h φ s I) λb s₁ ⟨st₁,I₁,k₁,e1,e2⟩=>by
  clear I h;subst e1 e2;exact ⟨_,I₁,k₁,k⟩
noncomputable def Mg(l:List (Nat×Nat)):Nat->N3->List (Nat×Nat)->Prop
 |0,cur,na=>cur=(0,0,0)∧na=[]
 |t+1,cur,na=>∃p,l[t]?=EU p∧cur=t1 p∧na=l.take t
theorem x7{As Bs:List Str}(hr:Rows As Bs){l:List (Nat×Nat)}(hc:dZ As Bs 0 0 l){t:Nat}{cur:N3}{na:List (Nat×Nat)}{q:Nat×Nat}(h:Mg l t cur na)(hq:l[t]?=EU q)(e1:cur.1+cur.2.2=q.1)(e2:cur.2.1+cur.2.2=q.2):Mg l (t+1) (cur.1,cur.2.1,cur.2.2+1) na:=by
 cases t with
 |zero=>
  refine xa1 h λz1 z2=>?_;clear h;subst z1;subst z2;exact (aR q hq (by obtain ⟨a,b⟩:=q;dsimp only at e1 e2;clear hq;subst e1 e2;rfl) rfl)
 |succ t=>
  refine aV h λp hp z1 z2=>?_;clear h;subst z1;subst z2;obtain ⟨h1,rfl⟩:=E5.mp hp;obtain ⟨h2,rfl⟩:=E5.mp hq;exact (vF hr hc h2 e1 e2).elim
theorem Bq{l:List (Nat×Nat)}{t:Nat}{cur:N3}{na:List (Nat×Nat)}{q:Nat×Nat}(h:Mg l t cur na)(hq:l[t]?=EU q):(cur.2.2=0->Mg l (t+1) (t1 q) na)∧(cur.2.2≠0->cur.2.2=1∧Mg l (t+1) (t1 q) (na++[(cur.1,cur.2.1)])):=by
 cases t with
 |zero=>
  refine xa1 h λz1 z2=>?_;clear h;subst z1;subst z2;exact ⟨λ_=>(aR q hq rfl rfl),λz=>absurd rfl z⟩
 |succ t=>
  refine aV h λp hp z1 z2=>?_;clear h;subst z1;subst z2;refine ⟨λz=>(by cases z),λ_=>⟨rfl,q,hq,rfl,?_⟩⟩;obtain ⟨h1,e⟩:=E5.mp hp;rw[←List.take_append_getElem h1,e];rfl
theorem Ap{l:List (Nat×Nat)}{cur:N3}{na:List (Nat×Nat)}(h:Mg l l.length cur na):(cur.2.2=0->na=l)∧(cur.2.2≠0->cur.2.2=1∧na++[(cur.1,cur.2.1)]=l):=by
 generalize hn:l.length=n at h
 cases n with
 |zero=>
  refine xa1 h λz1 z2=>?_;clear h;subst z1;subst z2;exact ⟨λ_=>(FT.mp hn).symm,λz=>absurd rfl z⟩
 |succ t=>
  refine aV h λp hp z1 z2=>?_;clear h;subst z1;subst z2;refine ⟨λz=>(by cases z),λ_=>⟨rfl,?_⟩⟩;obtain ⟨h1,e⟩:=E5.mp hp;have:l.take t++[l[t]]=l.take (t+1):=List.take_append_getElem h1;rw[e] at this;rw[show [((t1 p).1,(t1 p).2.1)]=[p] from rfl,this,←hn,Gp]
theorem vj{l:List (Nat×Nat)}{t:Nat}{cur:N3}{na:List (Nat×Nat)}(h:Mg l t cur na):na.length≤t:=by
 cases t with
 |zero=>rw[h.2];exact Fe _
 |succ t=>refine aV h λp _ _ z1=>?_;clear h;subst z1;rw[List.length_take];exact GP (Nat.min_le_left _ _)
theorem AU(P:F1)(dv:Addr->Value):(readsIn (KD P dv) 153 (.type "type")&&CFound.isGet (.builtin "classmethod.__get__") (.ref 109) .none (.ref 153) (findCls (KD P dv) (.ref 153) (.type "type") "_make")&&recIn (KD P dv) 109 "classmethod" ==EU [.ref 107,.bool false])=true:=s!"k"
noncomputable def aw:List String:=["self","la","lb","queue","matching_blocks","alo","ahi","blo","bhi","i","j","k","x","i1","j1","k1","non_adjacent","i2","j2","k2"]
theorem jn:aw.Nodup:=s!"1"
noncomputable abbrev OM7:=OM×OM×OM×OM×OM×OM×OM
noncomputable abbrev OM8:=OM×OM7
noncomputable def gmV(x lq lm:Addr)(n1 n2:Nat)(v:OM8)(u:OM7):List OM:=
 [EU (.r x),EU (.i n1),EU (.i n2),EU (.r lq),EU (.r lm),v.1,v.2.1,v.2.2.1,v.2.2.2.1,v.2.2.2.2.1,v.2.2.2.2.2.1,v.2.2.2.2.2.2.1,v.2.2.2.2.2.2.2,u.1,u.2.1,u.2.2.1,u.2.2.2.1,u.2.2.2.2.1,u.2.2.2.2.2.1,u.2.2.2.2.2.2]
structure GT (σ:Sg) (l:List (Nat×Nat)) (ln:Addr) (t:Nat) (cur:N3) (na:List (Nat×Nat)) (σ':Sg):Prop where
 m:Mg l t cur na
 n:σ' ln=EU (.lst (na.map λp=>tT (t1 p)))
 k:∀b m,σ b=EU m->σ' b=EU m
theorem GT.put{σ:Sg}{l:List (Nat×Nat)}{ln:Addr}{t t':Nat}{cur cur':N3}{na:List (Nat×Nat)}{σ':Sg}(h:GT σ l ln t cur na σ')(hn:σ ln=none)(h1:cur.2.2=1)(hm:Mg l t' cur' (na++[(cur.1,cur.2.1)])):
 GT σ l ln t' cur' (na++[(cur.1,cur.2.1)]) (σ'.put ln (.lst ((na.map λp=>tT (t1 p))++[.t (.type "tuple") [.i (cur.1:Int),.i (cur.2.1:Int),.i (cur.2.2:Int)]]))):=
 ⟨hm,by rw[h1,Ff];exact Sg.put_same ..,λb m hb=>(Sg.put_ne _ _ (aj hn hb)).trans (h.k b m hb)⟩
theorem eqN{a b:Nat}(h:a=b):((a:Int)==(b:Int))=true:=by rw[h];exact beq_self_eq_true _
theorem neN{a b:Nat}(h:¬a=b):((a:Int)==(b:Int))=false:=beq_eq_false_iff_ne.mpr λe=>h (Int.ofNat_inj.mp e)
theorem v9{α β:Type}{f:α->β}{l:List α}{n:Nat}(h:l.length<n)(hn:Nat.ble n 1001=true):(l.map f).length≤1000:=by rw[EZ];exact FG (E1 h (Fp hn))
structure GE (σ:Sg) (x dx ln:Addr) (ns:List (Str×MV)) (l:List MV) (σ3:Sg):Prop where
 n:σ3 ln=EU (.lst l)
 k:∀b m,σ b=EU m->σ3 b=EU m
theorem rD{X:Xc}(G:Gd X.C)(O:XOk X)(N:Kn X){k:Nat}(R:Rm (k+3) X.A)
 (g_list:X.gs.lookup (EW "list")=EU (.type "list" :Value)) (g_map:X.gs.lookup (EW "map")=EU (.type "map" :Value)) (g_Match:X.gs.lookup (EW "Match")=EU (.ref 153:Value))
 {σ:Sg} {vs:List OM} {ts:List N3} {ln:Addr} (e:σ ln=EU (.lst (ts.map tT))) (hv:gI vs 16=EU (EU (.r ln))) (hl:ts.length<80) {p1 p2 p4 p5 p6 p7 p8:Pos} {s1:F7 (.Name (EW "Match") p4) (EW "_make") X.env (eval (.Name (EW "Match") p4) X.env)=eval (.Name (EW "Match") p4) X.env} {Q:MV->St->Prop}
 (hq:∀br,σ br=none->Q (.r br) ⟨σ.put br (.lst (ts.map tM)),zL aw vs⟩):
 WE X (.Call (.Name (EW "list") p1) [.Call (.Name (EW "map") p2) [.Attribute (.Name (EW "Match") p4) (EW "_make") p5,.Name (EW "non_adjacent") p6] [] p7] [] p8) ⟨σ,zL aw vs⟩ Q:=by
 have M:=AU X.C.w.params N.dv;simp only[Fd,beq_iff_eq] at M;refine xa1 M λz1 M3=>?_;clear M;refine xa1 z1 λM1 M2=>?_;clear z1;refine bQ O g_list trivial (ac (bQ O g_map trivial (ac (uZ O N g_Match s1 M1 (j0 M2) M3 λbq nbq=>ac (be (k:=16) O jn rfl hv (ag (CL (st:=⟨_,_⟩) ((Sg.put_ne _ _ (aj nbq e)).trans e) λit mp n1 n2 nim=>?_)))))));dsimp only at nbq n1 n2⊢
 have f1:∀{c:Addr} {m:MO},σ c=EU m->c≠it∧∀o1 o2,(((σ.put bq (bmO (.ref 107) (.ref 153))).put it o1).put mp o2) c=EU m:=λ{c m} hc=>by
  have hc1:=(Sg.put_ne σ (bmO (.ref 107) (.ref 153)) (aj nbq hc)).trans hc;have c_it:=aj n1 hc1;have c_mp:=aj n2 hc1;exact ⟨c_it,λ_ _=>(Sg.put_ne _ _ c_mp).trans ((Sg.put_ne _ _ c_it).trans hc1)⟩
 refine ag (uz (σ0:=σ) (k:=k+1) (vs:=ts.map tT) (ws:=ts.map tM) O (R.le (Nat.le_succ _)) (Sg.put_same ..) ((Sg.put_ne _ _ nim).trans (Sg.put_same ..)) ((Sg.put_ne _ _ (aj n2 (Sg.put_same ..))).trans ((Sg.put_ne _ _ (aj n1 (Sg.put_same ..))).trans (Sg.put_same ..)))
  ((f1 e).2 _ _) (by rw[EZ,EZ]) (by rw[EZ];exact Fu (E1 hl s!"d")) (λA' R' i h1 h2=>?_) (λc m hc=>⟨(f1 hc).1,(f1 hc).2 _ _⟩) λbr nbr=>hq br ?_)
 ·simp only[F9];exact wi G R'
 ·cases hb:σ br with
  |none=>rfl
  |some m=>have h:=((f1 hb).2 _ _).symm.trans nbr;cases h
theorem qP{X:Xc}(G:Gd X.C)(O:XOk X)(N:Kn X)(hin:GF X.env=false){k:Nat}(R:Rm (k+3) X.A)(hE:∃v L,X.env=callEnv (dD (aH 6 7) "get_matching_blocks" "SequenceMatcher.get_matching_blocks" .none v (.str (EW "cpy313.difflib") 286) none (.ref 220)) L 221)
 (g_list:X.gs.lookup (EW "list")=EU (.type "list" :Value)) (g_map:X.gs.lookup (EW "map")=EU (.type "map" :Value)) (g_Match:X.gs.lookup (EW "Match")=EU (.ref 153:Value)) {x dx lq lm:Addr} {ns:List (Str×MV)} {As Bs:List Str} {l:List (Nat×Nat)} {σ:Sg} {v:OM8}
 (e1:σ x=EU (.ins 260 dx)) (e2:σ dx=EU (.ns ns)) (n_l:ns.length<20) (hr:Rows As Bs) (hc:dZ As Bs 0 0 l) (hl:l.length<60) (em:σ lm=EU (.lst (l.map λp=>tM (t1 p)))) {Q:Fl->St->Prop}
 (hQ:∀b σ' ρ',σ' b=EU (.lst ((l.map λp=>tM (t1 p))++[tM (As.length,Bs.length,0)]))->(∀c m,c≠dx->σ c=EU m->σ' c=EU m)->Q (.ret (.r b)) ⟨σ',ρ'⟩):
 WS X ((cu (aH 6 7)).drop 6) ⟨σ,zL aw (gmV x lq lm As.length Bs.length v (none,none,none,none,none,none,none))⟩ Q:=by
 conv=>arg 2;whnf
 have hd:=jn
 have i_self:gI aw 0=EU "self" :=rfl
 have i_la:gI aw 1=EU "la" :=rfl
 have i_lb:gI aw 2=EU "lb" :=rfl
 have i_queue:gI aw 3=EU "queue" :=rfl
 have i_matching_blocks:gI aw 4=EU "matching_blocks" :=rfl
 have i_alo:gI aw 5=EU "alo" :=rfl
 have i_ahi:gI aw 6=EU "ahi" :=rfl
 have i_blo:gI aw 7=EU "blo" :=rfl
 have i_bhi:gI aw 8=EU "bhi" :=rfl
 have i_i:gI aw 9=EU "i" :=rfl
 have i_j:gI aw 10=EU "j" :=rfl
 have i_k:gI aw 11=EU "k" :=rfl
 have i_x:gI aw 12=EU "x" :=rfl
 have i_i1:gI aw 13=EU "i1" :=rfl
 have i_j1:gI aw 14=EU "j1" :=rfl
 have i_k1:gI aw 15=EU "k1" :=rfl
 have i_non_adjacent:gI aw 16=EU "non_adjacent" :=rfl
 have i_i2:gI aw 17=EU "i2" :=rfl
 have i_j2:gI aw 18=EU "j2" :=rfl
 have i_k2:gI aw 19=EU "k2" :=rfl
 have nxd:=aK e1 e2
 refine aa (aA hin s!"2" (bp (T:="list") (id:="list.sort") trivial s!"2" s!"d" s!"2" Fz PySem.F.slot_list_sort PySem.F.type_list_sort
  (be O hd ‹_› rfl ⟨bJ em,ag (yV N (by have:=R.u;exact E3 (EY (Ft (_+3) (16*_)) (Ft _ 16)) (g16 (k:=3) this s!"d")) (ts:=l.map t1) (by rw[FS];exact em) (by simp;exact nTT hl rfl) (by rw[List.pairwise_map];exact qo hc) ⟨trivial,?_⟩)⟩)))
 repeat walk_at "s"
 refine qY s!"r" s!"t" ?_
 repeat walk_at "s"
 intro ln nn
 dsimp only at nn⊢
 repeat walk_at "s"
 refine kD (mo:=λi=> .itl lm i) (vs:=l.map λp=>tM (t1 p)) (Cond:=λst=>st.σ lm=EU (.lst (l.map λp=>tM (t1 p))))
  (λt=>Az aw (λu:N3×List (Nat×Nat)×OM×OM×OM=>gmV x lq lm As.length Bs.length v (EU (.i u.1.1),EU (.i u.1.2.1),EU (.i u.1.2.2),EU (.r ln),u.2.2.1,u.2.2.2.1,u.2.2.2.2)) λu=>GT σ l ln t u.1 u.2.1) (ci O lm _)
  (λ_=>s!"2") iy (be O hd ‹_› rfl ⟨.mk ((0,0,0),[],none,none,none) ⟨⟨rfl,rfl⟩,Sg.put_same ..,λb m hb=>(Sg.put_ne _ _ (aj nn hb)).trans hb⟩,cB ((Sg.put_ne _ _ (aj nn em)).trans em)⟩)
  (λt st h=>by obtain ⟨_,h⟩:=h;exact h.k _ _ em) ?_ ?_
 ·rintro J hJ t ht _ ⟨⟨cur,na,u2,v2,w2⟩,h⟩
  rename_i σ1
  dsimp only at h⊢
  have JM:∀(cur:N3) (na:List (Nat×Nat)) (u v' w:OM) (σ':Sg),GT σ l ln (t+1) cur na σ'->J (t+1) ⟨σ',zL aw (gmV x lq lm As.length Bs.length v (EU (.i cur.1),EU (.i cur.2.1),EU (.i cur.2.2),EU (.r ln),u,v',w))⟩:=λcur na u v' w σ' h=>hJ _ _ (.mk (cur,na,u,v',w) h)
  clear hJ
  have ht':t<l.length:=EZ (λp=>tM (t1 p))▸ht
  have hq:l[t]?=EU l[t]:=E2 ht'
  rw[F9]
  generalize l[t]=q at hq⊢
  replace JM:=λcur na σ'=>JM cur na (EU (.i (t1 q).1)) (EU (.i (t1 q).2.1)) (EU (.i (t1 q).2.2)) σ'
  refine xa1 (Bq h.m hq) λmz mo=>?_
  refine ka O N trivial rfl (bY (cG O hd ‹_› rfl (bY (cG O hd ‹_› rfl (bY (cG O hd ‹_› rfl (fE ?_)))))))
  by_cases c:cur.1+cur.2.2=q.1∧cur.2.1+cur.2.2=q.2
  ·have hj:=x7 hr hc h.m hq c.1 c.2
   refine aa (cU true ?_ (ifT rfl ?_))
   ·repeat walk_at "s"
    refine ift (eqN (a:=cur.1+cur.2.2) c.1) ?_
    repeat walk_at "s"
    refine ift (eqN (a:=cur.2.1+cur.2.2) c.2) ?_
    repeat walk_at "s"
    exact ⟨rfl,rfl⟩
   repeat walk_at "s"
   refine vx O hd ‹_› rfl (be O hd ‹_› rfl (xx (.mk _ rfl ?_)))
   repeat walk_at "s"
   exact JM (cur.1,cur.2.1,cur.2.2+1) na _ ⟨hj,h.n,h.k⟩
  ·refine aa (cU false ?_ (ifF s!"d" ?_))
   ·repeat walk_at "s"
    by_cases c1:cur.1+cur.2.2=q.1
    ·refine ift (eqN (a:=cur.1+cur.2.2) c1) ?_
     repeat walk_at "s"
     exact aD (neN (a:=cur.2.1+cur.2.2) λe=>c ⟨c1,e⟩) ⟨rfl,rfl⟩
    ·exact aD (neN (a:=cur.1+cur.2.2) c1) ⟨rfl,rfl⟩
   by_cases h0:cur.2.2=0
   ·have m0:=mz h0
    refine aa (cU false ?_ (ifF s!"d" ?_))
    ·repeat walk_at "s"
     exact ⟨by rw[h0];rfl,rfl⟩
    repeat walk_at "s"
    refine jr (x:="i1") (y:="j1") (z:="k1") O s!"2" (by refine xe2 hE λ_ _ hE=>?_;rw[hE];kernel_rfl) ?_
    repeat walk_at "s"
    refine oL hd ‹_› ‹_› ‹_› rfl rfl rfl ?_
    repeat walk_at "s"
    exact JM (t1 q) na _ ⟨m0,h.n,h.k⟩
   ·refine xa1 (mo h0) λk1' m1=>?_
    refine aa (cU true ?_ (ifT rfl ?_))
    ·repeat walk_at "s"
     exact ⟨by rw[k1'];rfl,rfl⟩
    repeat walk_at "s"
    refine cz O hin (l:=ln) (lkI hd ‹_› rfl) h.n s!"2" s!"2" s!"2" trivial ?_
    repeat walk_at "s"
    refine jb h.n (v9 (E3 (vj h.m) (Fs ht' hl)) rfl) ?_
    repeat walk_at "s"
    refine jr (x:="i1") (y:="j1") (z:="k1") O s!"2" (by refine xe2 hE λ_ _ hE=>?_;rw[hE];kernel_rfl) ?_
    repeat walk_at "s"
    refine oL hd ‹_› ‹_› ‹_› rfl rfl rfl ?_
    repeat walk_at "s"
    exact JM (t1 q) _ _ (h.put nn k1' m1)
 ·rintro _ ⟨⟨cur,na,u2,v2,w2⟩,h⟩
  rename_i σ1
  dsimp only at h⊢
  rw[EZ] at h
  refine xa1 (Ap h.m) λez eo=>?_
  refine ak (ae ?_)
  have fin:∀σ2:Sg,σ2 ln=EU (.lst (l.map λp=>tT (t1 p)))->(∀b m,σ b=EU m->σ2 b=EU m)->
   fo X ((cu (aH 6 7)).drop 11) Q .next ⟨σ2,zL aw (gmV x lq lm As.length Bs.length v (EU (.i cur.1),EU (.i cur.2.1),EU (.i cur.2.2),EU (.r ln),u2,v2,w2))⟩:=λσ2 g_n g_k=>by
   clear ez eo h em
   show WS X _ _ _
   conv=>arg 2;whnf
   refine aa ?_
   refine cz O hin (l:=ln) (lkI hd ‹_› rfl) g_n s!"2" s!"2" s!"2" trivial ?_
   repeat walk_at "s"
   refine jb g_n (v9 hl rfl) ?_
   have q_n:(σ2.put ln (.lst ((l.map λp=>tT (t1 p))++[.t (.type "tuple") [.i (As.length:Int),.i (Bs.length:Int),.i 0]]))) ln=EU (.lst ((l.map t1++[(As.length,Bs.length,0)]).map tT)):=by rw[Ff,FS];exact Sg.put_same ..
   have q_k:∀b m,σ b=EU m->(σ2.put ln (.lst ((l.map λp=>tT (t1 p))++[.t (.type "tuple") [.i (As.length:Int),.i (Bs.length:Int),.i 0]]))) b=EU m:=λb m hb=>(Sg.put_ne _ _ (aj nn hb)).trans (g_k b m hb)
   generalize σ2.put ln _=σ3 at q_n q_k⊢
   repeat walk_at "s"
   refine rD (s1:=s!"2") G O N R g_list g_map g_Match q_n rfl (by rw[E7,EZ];exact E1 (Nat.add_lt_add_right hl 1) s!"d") λbr nbr=>?_
   have hm3:∀{c:Addr} {m:MO},σ c=EU m->(σ3.put br (.lst ((l.map t1++[(As.length,Bs.length,0)]).map tM))) c=EU m:=λ{c m} hc=>(Sg.put_ne _ _ (aj nbr (q_k _ _ hc))).trans (q_k _ _ hc)
   have s_x:=hm3 e1
   have s_dx:=hm3 e2
   have b_dx:br≠dx:=E8 (aj nbr (q_k _ _ e2))
   have s_b:(σ3.put br (.lst ((l.map t1++[(As.length,Bs.length,0)]).map tM))) br=EU (.lst ((l.map λp=>tM (t1 p))++[tM (As.length,Bs.length,0)])):=by rw[Ff,FS];exact Sg.put_same ..
   generalize σ3.put br _=σ4 at s_x s_dx s_b hm3⊢
   repeat walk_at "s"
   exact hQ br _ _ ((Sg.put_ne _ _ b_dx).trans s_b) λc m hc hm=>(Sg.put_ne _ _ hc).trans (hm3 hm)
  by_cases h0:cur.2.2=0
  ·refine aa (cU false ?_ (ifF s!"d" ?_))
   ·repeat walk_at "s"
    exact ⟨by rw[h0];rfl,rfl⟩
   exact ak (fin σ1 (ez h0▸h.n) h.k)
  ·refine xa1 (eo h0) λk1' m1=>?_
   refine aa (cU true ?_ (ifT rfl ?_))
   ·repeat walk_at "s"
    exact ⟨by rw[k1'];rfl,rfl⟩
   refine aa ?_
   refine cz O hin (l:=ln) (lkI hd ‹_› rfl) h.n s!"2" s!"2" s!"2" trivial ?_
   repeat walk_at "s"
   refine jb h.n (v9 (E3 (vj h.m) hl) rfl) ?_
   refine ae (ak (fin _ ?_ λb m hb=>(Sg.put_ne _ _ (aj nn hb)).trans (h.k b m hb)))
   rw[Sg.put_same,←m1,Ff,k1'];rfl
end
section
open Builtin.ObjectAttr
theorem SM.keep{w:FL}{σ σ':Sg}{x la lb:Addr}{ws:List Str}{dx d js jp:Addr}{F:Addr->Prop}{ns:List (Str×MV)}(h:SM w σ x la lb ws dx d js jp F ns)(hk:∀b m,σ b=EU m->σ' b=EU m):SM w σ' x la lb ws dx d js jp F ns:=
 ⟨hk _ _ h.i,hk _ _ h.n,h.ns,h.ix.frame (by refine ad h.ix λl e _=>?_;rw[e];exact hk _ _ e) (λa m _ hm=>hk a m hm),hk _ _ h.js⟩
variable {C:Cx}
noncomputable def tq(q:N4):MV:= .t (.type "tuple") [.i (q.1:Int),.i (q.2.1:Int),.i (q.2.2.1:Int),.i (q.2.2.2:Int)]
structure GW (σ:Sg) (As Bs:List Str) (l:List (Nat×Nat)) (lq lm:Addr) (n:Nat) (qs:List N4) (done:List (Nat×Nat)) (σ':Sg):Prop where
 p:h8 As Bs l n qs done
 q:σ' lq=EU (.lst (qs.map tq))
 d:σ' lm=EU (.lst (done.map λp=>tM (t1 p)))
 k:∀b m,σ b=EU m->σ' b=EU m
theorem xY{a b:Nat}{p:Prop}[Decidable p](h:¬a<b):false=decide (a<b∧p):=(decide_eq_false λq=>h q.1).symm
theorem jR{X:Xc}(O:XOk X)(hin:GF X.env=false){σ:Sg}{vs:List OM}{lq:Addr}{qs:List N4}{test e:Fw}{rest:List Stmt}{p apos cpos pos pos':Pos}{Q:Fl->St->Prop}{c:Prop}[Decidable c](r:N4)(gq:σ lq=EU (.lst (qs.map tq)))(hv:gI vs 3=EU (EU (.r lq)))(hz:qs.length≤1000)
 (hs:swapsWith (.Call (.Attribute (.Name (EW "queue") p) (EW "append") apos) [e] [] cpos) none pos.line X.env=pure false) (hb:F7 (.Name (EW "queue") p) (EW "append") X.env (eval (.Name (EW "queue") p) X.env)=eval (.Name (EW "queue") p) X.env) (hline:(apos.endLine==cpos.line)=true) (hst:Starless [e])
 (ht:WB X test ⟨σ,zL aw vs⟩ λb st=>b=decide c∧st=⟨σ,zL aw vs⟩)
 (he:∀Q1:MV->St->Prop,Q1 (tq r) ⟨σ,zL aw vs⟩->WE X e ⟨σ,zL aw vs⟩ Q1)
 (hq:∀σ',σ' lq=EU (.lst ((qs++if c then [r] else []).map tq))->(∀b m,b≠lq->σ b=EU m->σ' b=EU m)->WS X rest ⟨σ',zL aw vs⟩ Q):
 WS X (.If test [.Expr (.Call (.Attribute (.Name (EW "queue") p) (EW "append") apos) [e] [] cpos) pos] [] pos'::rest) ⟨σ,zL aw vs⟩ Q:=by
 by_cases h:c
 ·refine aa (cU true (decide_eq_true h▸ht) (ifT rfl (aa (cz O hin (l:=lq) (lkI (k:=3) jn rfl hv) gq hs hb hline hst (he _ (jb gq (by rw[EZ];exact hz) (ae (ak (ae (hq _ ?_ λb m nb hb=>(Sg.put_ne _ _ nb).trans hb))))))))));rw[Sg.put_same,if_pos h,Ff];rfl
 ·refine aa (cU false (decide_eq_false h▸ht) (ifF s!"d" (ak (ae (hq _ ?_ λ_ _ _ hb=>hb)))));rw[if_neg h,Hh];exact gq
set_option maxHeartbeats 4000000 in
theorem zn(G:Gd C){A:Fb}{k:Nat}(R:Rm (k+4) A){x la lb dx d js jp:Addr}{F:Addr->Prop}{ns:List (Str×MV)}{As Bs:List Str}{l:List (Nat×Nat)}{σ:Sg}(S:SM C.w σ x la lb Bs dx d js jp F ns)(ela:σ la=EU (.lst (As.map .s)))(elb:σ lb=EU (.lst (Bs.map .s)))(hr:Rows As Bs)(h5:As.length<200)(h6:Bs.length<200)(hc:dZ As Bs 0 0 l)(hl:l.length<60):
 CtA C A (.ref 221) [.r x] [] σ λm σ'=>∃b,m= .r b∧σ' b=EU (.lst ((l.map λp=>tM (t1 p))++[tM (As.length,Bs.length,0)]))∧∀c m,c≠dx->σ c=EU m->σ' c=EU m:=by
 refine aW G R (a:=221) (c:=220) (x:=aH 6 7) (n:="get_matching_blocks") (q:="SequenceMatcher.get_matching_blocks") (d:= .none) (pm:=(.str "cpy313.difflib" 286)) (an:=none) (t:=585)
  (ps:=(["self"]:List Str).zip [.r x]) s!"k" s!"k" s!"k" s!"k" [("len",.builtin "len"),("list",.type "list"),("map",.type "map"),("Match",.ref 153)] s!"k" (λv=>(aX rfl s!"k" s!"1" (bk λa0=>cK s!"k")).a) (ρ:=zL aw [EU (.r x),none,none,none,none,none,none,none,none,none,none,none,none,none,none,none,none,none,none,none]) s!"k" λQf hQf X hC O R' hin hg hE=>?_
 subst hC
 have N:=kn G
 have hd:=jn
 have i_self:gI aw 0=EU "self" :=rfl
 have i_la:gI aw 1=EU "la" :=rfl
 have i_lb:gI aw 2=EU "lb" :=rfl
 have i_queue:gI aw 3=EU "queue" :=rfl
 have i_matching_blocks:gI aw 4=EU "matching_blocks" :=rfl
 have i_alo:gI aw 5=EU "alo" :=rfl
 have i_ahi:gI aw 6=EU "ahi" :=rfl
 have i_blo:gI aw 7=EU "blo" :=rfl
 have i_bhi:gI aw 8=EU "bhi" :=rfl
 have i_i:gI aw 9=EU "i" :=rfl
 have i_j:gI aw 10=EU "j" :=rfl
 have i_k:gI aw 11=EU "k" :=rfl
 have i_x:gI aw 12=EU "x" :=rfl
 have i_i1:gI aw 13=EU "i1" :=rfl
 have i_j1:gI aw 14=EU "j1" :=rfl
 have i_k1:gI aw 15=EU "k1" :=rfl
 have i_non_adjacent:gI aw 16=EU "non_adjacent" :=rfl
 have i_i2:gI aw 17=EU "i2" :=rfl
 have i_j2:gI aw 18=EU "j2" :=rfl
 have i_k2:gI aw 19=EU "k2" :=rfl
 have g_len:X.gs.lookup (EW "len")=EU (.builtin "len" :Value):=hg▸s!"k"
 have g_list:X.gs.lookup (EW "list")=EU (.type "list" :Value):=hg▸s!"k"
 have g_map:X.gs.lookup (EW "map")=EU (.type "map" :Value):=hg▸s!"k"
 have g_Match:X.gs.lookup (EW "Match")=EU (.ref 153:Value):=hg▸s!"k"
 clear hg
 conv=>arg 2;whnf
 refine xa4 S.at λn_a n_b n_d n_j z1=>?_;refine xa2 z1 λn_m n_f n_l=>?_;clear z1
 have e1:=S.i
 have e2:=S.n
 refine aa (aA hin s!"2" (aI ⟨trivial,?_⟩))
 repeat walk_at "s"
 refine yr (x:="la") (y:="lb") O s!"2" (by refine xe2 hE λ_ _ hE=>?_;rw[hE];kernel_rfl) ?_
 repeat walk_at "s"
 refine aT O g_len trivial ?_
 repeat walk_at "s"
 refine dy (st:=⟨_,_⟩) ela (EZ MV.s▸iTT h5 s!"d") ?_
 repeat walk_at "s"
 refine aT O g_len trivial ?_
 repeat walk_at "s"
 refine dy (st:=⟨_,_⟩) elb (EZ MV.s▸iTT h6 s!"d") ?_
 repeat walk_at "s"
 rw[EZ,EZ]
 refine Cq hd ‹_› ‹_› rfl rfl ?_
 repeat walk_at "s"
 intro lq nq
 dsimp only at nq⊢
 repeat walk_at "s"
 intro lm nm
 dsimp only at nm⊢
 repeat walk_at "s"
 have nqm:lq≠lm:=aj nm (Sg.put_same ..)
 have lm_n:σ lm=none:=by
  cases e:σ lm with
  |none=>rfl
  |some m=>rw[Sg.put_ne _ _ (aj nq e),e] at nm;cases nm
 refine dg (λn=>Az aw (λu:List N4×List (Nat×Nat)×OM8=>gmV x lq lm As.length Bs.length u.2.2 (none,none,none,none,none,none,none)) λu=>GW σ As Bs l lq lm n u.1 u.2.1) ?_ (2*As.length+1)
  (.mk (_,[],(none,none,none,none,none,none,none,none)) ⟨rk hc,(Sg.put_ne _ _ nqm).trans (Sg.put_same ..),Sg.put_same ..,λb m hb=>(Sg.put_ne _ _ (aj (m:=m) nm ((Sg.put_ne _ _ (aj nq hb)).trans hb))).trans ((Sg.put_ne _ _ (aj nq hb)).trans hb)⟩)
 clear nm
 rintro J hJ n _ ⟨⟨qs,done,v⟩,h⟩
 rename_i σ1
 dsimp only at h⊢
 refine xa1 (uE h.p) λpl1 pl2=>?_
 refine bZ s!"r" (be O hd ‹_› rfl (uK (st:=⟨_,_⟩) h.q (by rw[EZ];exact iTT (E3 pl1 (Nat.succ_lt_succ h5)) s!"d") ?_))
 rcases List.eq_nil_or_concat qs with rfl|⟨qs',⟨alo,ahi,blo,bhi⟩,rfl⟩
 ·have ed:=vz h.p
  clear hJ pl2;subst ed
  refine aD s!"2" (ak (ae (qP G O N hin R' hE g_list g_map g_Match (h.k _ _ e1) (h.k _ _ e2) n_l hr hc hl h.d λb σ' ρ' hb hk=>hQf _ _ (aR b rfl hb (λc m nc hm=>hk c m nc (h.k c m hm))))))
 ·rw[List.concat_eq_append] at h
  refine ift s!"4" ?_
  refine xa4 (sT h.p) λa1 a2 a3 a4 a5=>?_
  have f_q:=h.q
  rw[Ff] at f_q
  rw[List.concat_eq_append,E7] at pl1
  walk_at "s";walk_at "s"
  refine zZ O (lkI hd ‹_› rfl) s!"2" s!"2" (cZ _ _ f_q ?_ ?_)
  ·rw[EZ];exact EY (Nat.le_of_succ_le_succ (EY pl1 (Fu (Nat.succ_lt_succ h5)))) s!"d"
  show WA X _ (.t (.type "tuple") [.i (alo:Int),.i (ahi:Int),.i (blo:Int),.i (bhi:Int)]) _ _
  dsimp only
  repeat walk_at "s"
  have g_k:∀b m,σ b=EU m->(σ1.put lq (.lst (qs'.map tq))) b=EU m:=λb m hb=>(Sg.put_ne _ _ (aj nq hb)).trans (h.k b m hb)
  have g_q:(σ1.put lq (.lst (qs'.map tq))) lq=EU (.lst (qs'.map tq)):=Sg.put_same ..
  have g_m:=(Sg.put_ne σ1 (.lst (qs'.map tq)) (E8 nqm)).trans h.d
  generalize σ1.put lq (.lst (qs'.map tq))=σ2 at g_k g_q g_m⊢
  clear f_q h σ1
  refine bK N s!"2" trivial ?_
  repeat walk_at "s"
  refine dK 214 (g_k _ _ e1) (g_k _ _ e2) n_f s!"at" s!"me" s!"k" (bu G s!"k") (ac (be O (m:= .i (alo:Int)) hd ‹_› rfl (ac (be O (m:= .i (ahi:Int)) hd ‹_› rfl (ac (be O (m:= .i (blo:Int)) hd ‹_› rfl (ac (be O (m:= .i (bhi:Int)) hd ‹_› rfl (ag
   (bx (Ct.mono (CtA.ct (yh G R' (S.keep g_k) (g_k _ _ ela) (g_k _ _ elb) hr a1 a2 a3 a4 h5 h6)) ?_)))))))))))
  intro m σ3 zr1;refine b7 zr1 λg3=>?_;clear zr1
  have g3_k:∀b m,σ b=EU m->σ3 b=EU m:=λb m hb=>g3 b m (g_k b m hb)
  have g3_q:=g3 _ _ g_q
  have g3_m:=g3 _ _ g_m
  clear g3 g_k g_q g_m
  have JM:∀{n'} (_:n'<n) (qs:List N4) (done:List (Nat×Nat)) (i j k y:OM) (σ':Sg),GW σ As Bs l lq lm n' qs done σ'->∃m,m<n∧J m ⟨σ',zL aw (gmV x lq lm As.length Bs.length (EU (.i alo),EU (.i ahi),EU (.i blo),EU (.i bhi),i,j,k,y) (none,none,none,none,none,none,none))⟩:=
   λ{n'} hn qs done i j k y σ' h=>(af n' hn (hJ _ _ (.mk (qs,done,(_,_,_,_,i,j,k,y)) h)))
  clear hJ
  cases hf:fhp As Bs blo bhi alo (ahi-alo) with
  |none=>
   rw[hf] at a5
   refine ad a5 λn' hn' hp'=>?_;clear a5
   have hb:bN As Bs blo bhi alo (ahi-alo)=(alo,blo,0):=by unfold bN;rw[hf]
   rw[hb]
   refine ka O N trivial rfl ?_
   repeat walk_at "s"
   refine aD s!"2" ?_
   repeat walk_at "s"
   exact JM hn' qs' done _ _ _ _ σ3 ⟨hp',g3_q,g3_m,g3_k⟩
  |some p=>
   obtain ⟨i,j⟩:=p
   rw[hf] at a5
   refine xa4 a5 λb1 b2 b3 b4 z1=>?_;clear a5;refine ad z1 λn' hn' hp'=>?_;clear z1
   have hb:bN As Bs blo bhi alo (ahi-alo)=(i,j,1):=by unfold bN;rw[hf]
   rw[hb]
   refine ka O N trivial rfl ?_
   repeat walk_at "s"
   refine ift s!"2" ?_
   repeat walk_at "s"
   refine cz O hin (l:=lm) (lkI hd ‹_› rfl) g3_m s!"2" s!"2" s!"2" trivial ?_
   repeat walk_at "s"
   refine jb g3_m (by rw[EZ];exact EY pl2 (Fu (Fs hl s!"d"))) ?_
   have g4_m:(σ3.put lm (.lst ((done.map λp=>tM (t1 p))++[.t (.ref 153) [.i (i:Int),.i (j:Int),.i ((1:Nat):Int)]]))) lm=EU (.lst ((done++[(i,j)]).map λp=>tM (t1 p))):=by rw[Ff];exact Sg.put_same ..
   have g4_k:∀b m,b≠lm->σ3 b=EU m->(σ3.put lm (.lst ((done.map λp=>tM (t1 p))++[.t (.ref 153) [.i (i:Int),.i (j:Int),.i ((1:Nat):Int)]]))) b=EU m:=λb m nb hb=>(Sg.put_ne _ _ nb).trans hb
   generalize σ3.put lm _=σ4 at g4_m g4_k⊢
   have g4_q:=g4_k _ _ nqm g3_q
   replace g4_k:∀b m,σ b=EU m->σ4 b=EU m:=λb m hb=>g4_k b m (λh=>by clear nqm g3_m JM g4_m g4_k;subst h;rw[lm_n] at hb;cases hb) (g3_k b m hb)
   clear g3_k g3_q g3_m hb
   have lz:qs'.length≤201:=EY (Nat.le_of_succ_le_succ pl1) (Fu (E1 h5 s!"d"))
   refine ae (jR (c:=alo<i∧blo<j) O hin (alo,i,blo,j) g4_q rfl (EY lz s!"d") s!"2" s!"2" s!"2" trivial ?_ (λQ1 hQ1=>?_) λσ5 g5_q g5_k=>?_)
   ·repeat walk_at "s"
    by_cases c1:alo<i
    ·refine ift (ltT c1) ?_
     repeat walk_at "s"
     by_cases c2:blo<j
     ·refine ift (ltT c2) ?_
      repeat walk_at "s"
      exact ⟨(decide_eq_true ⟨c1,c2⟩).symm,rfl⟩
     ·exact aD (ltF c2) ⟨(decide_eq_false λh=>c2 h.2).symm,rfl⟩
    ·exact aD (ltF c1) ⟨xY c1,rfl⟩
   ·repeat walk_at "s"
    exact hQ1
   have lz5:(qs'++(if alo<i∧blo<j then [(alo,i,blo,j)] else [])).length≤1000:=by rw[E7];split<;>exact EY (Hj lz _) (Fp rfl)
   refine jR (c:=i+1<ahi∧j+1<bhi) O hin (i+1,ahi,j+1,bhi) g5_q rfl lz5 s!"2" s!"2" s!"2" trivial ?_ (λQ1 hQ1=>?_) λσ6 g6_q g6_k=>?_
   ·repeat walk_at "s"
    by_cases c1:i+1<ahi
    ·refine ift (ltT (a:=i+1) c1) ?_
     repeat walk_at "s"
     by_cases c2:j+1<bhi
     ·refine ift (ltT (a:=j+1) c2) ?_
      repeat walk_at "s"
      exact ⟨(decide_eq_true ⟨c1,c2⟩).symm,rfl⟩
     ·exact aD (ltF (a:=j+1) c2) ⟨(decide_eq_false λh=>c2 h.2).symm,rfl⟩
    ·exact aD (ltF (a:=i+1) c1) ⟨xY c1,rfl⟩
   ·repeat walk_at "s"
    exact hQ1
   have n_q:∀b m,σ b=EU m->b≠lq:=λb m hb=>aj nq hb
   refine ak (ae (ak ?_))
   exact JM hn' _ _ _ _ _ _ σ6 ⟨hp',g6_q,g6_k _ _ (E8 nqm) (g5_k _ _ (E8 nqm) g4_m),λb m hb=>g6_k b m (n_q b m hb) (g5_k b m (n_q b m hb) (g4_k b m hb))⟩
end
section
theorem eW:Manifest.owners.lookup (String.ofList ['e','u','q','e','d','.','s','n','o','i','t','c','e','l','l','o','c'].reverse)=EU Manifest.sig_collections_deque:=s!"k"
theorem pK:Slot "collections.deque" "__init__" "collections.deque.__init__" :=
 .of (owner:="collections.deque") (n:="__init__") (by rw[FF,Fh];kernel_rfl) s!"1" s!"1" s!"1"
  (by first|exact .inl (of_decide_eq_true (by kernel_rfl!))|exact .inr s!"1") (by rw[FN];kernel_rfl)
theorem gw:Slot "collections.deque" "__len__" "collections.deque.__len__" :=
 .of (owner:="collections.deque") (n:="__len__") (by rw[FF,Fh];kernel_rfl) s!"1" s!"1" s!"1"
  (by first|exact .inl (of_decide_eq_true (by kernel_rfl!))|exact .inr s!"1") (by rw[FN];kernel_rfl)
theorem jU:Slot "collections.deque" "pop" "collections.deque.pop" :=
 .of (owner:="collections.deque") (n:="pop") (by rw[FF,Fh];kernel_rfl) s!"1" s!"1" s!"1"
  (by first|exact .inl (of_decide_eq_true (by kernel_rfl!))|exact .inr s!"1") (by rw[FN];kernel_rfl)
theorem gS:Slot "collections.deque" "append" "collections.deque.append" :=
 .of (owner:="collections.deque") (n:="append") (by rw[FF,Fh];kernel_rfl) s!"1" s!"1" s!"1"
  (by first|exact .inl (of_decide_eq_true (by kernel_rfl!))|exact .inr s!"1") (by rw[FN];kernel_rfl)
theorem nK:Hb table "collections.deque.__init__" =EU Builtin.«collections.deque.__init__»:=F4 s!"k"
theorem qt:Hb table "collections.deque.__new__" =EU Builtin.«collections.deque.__new__»:=F4 s!"k"
theorem pq:Hb table "collections.deque.__len__" =EU Builtin.«collections.deque.__len__»:=F4 s!"k"
theorem qy:Hb table "collections.deque.pop" =EU Builtin.«collections.deque.pop»:=F4 s!"k"
theorem kJ:Hb table "collections.deque.append" =EU Builtin.«collections.deque.append»:=F4 s!"k"
theorem rG:GY (.builtin "collections.deque.pop")=pure (.type "method_descriptor"):=by show builtinType _=_;rw[builtinType_eq_fast];kernel_rfl
theorem l9:GY (.builtin "collections.deque.append")=pure (.type "method_descriptor"):=by show builtinType _=_;rw[builtinType_eq_fast];kernel_rfl
theorem fO:PlainAttrs "collections.deque" :=
 ⟨(af ("collections.deque.__getattribute__") (by rw[FF,Fh];kernel_rfl) s!"1"),by rw[FF,Fh];kernel_rfl⟩
theorem pd(a:Value):argsOk "collections.deque.__init__" ⟨[a],[]⟩:=by unfold argsOk;rw[signature?_of (id:="collections.deque.__init__") (n:=['_','_','t','i','n','i','_','_']) (o:=['e','u','q','e','d','.','s','n','o','i','t','c','e','l','l','o','c']) s!"k" eW];kernel_rfl
theorem q7(a:Value):argsOk "collections.deque.__len__" ⟨[a],[]⟩:=by unfold argsOk;rw[signature?_of (id:="collections.deque.__len__") (n:=['_','_','n','e','l','_','_']) (o:=['e','u','q','e','d','.','s','n','o','i','t','c','e','l','l','o','c']) s!"k" eW];kernel_rfl
theorem rB(a:Value):argsOk "collections.deque.pop" ⟨[a],[]⟩:=by unfold argsOk;rw[signature?_of (id:="collections.deque.pop") (n:=['p','o','p']) (o:=['e','u','q','e','d','.','s','n','o','i','t','c','e','l','l','o','c']) s!"k" eW];kernel_rfl
theorem mI(a b:Value):argsOk "collections.deque.append" ⟨[a,b],[]⟩:=by unfold argsOk;rw[signature?_of (id:="collections.deque.append") (n:=['d','n','e','p','p','a']) (o:=['e','u','q','e','d','.','s','n','o','i','t','c','e','l','l','o','c']) s!"k" eW];kernel_rfl
theorem nE:mroOf (.type "collections.deque")=pure [.type "collections.deque",.type "object"]:=by rw[mroOf_type];kernel_rfl
theorem oy:Gq (.type "collections.deque") "__new__" =pure (EU (.builtin "collections.deque.__new__")):=by rw[FF,Fh];kernel_rfl
theorem qJ:TypeCalled "collections.deque" "collections.deque.__new__" "collections.deque.__init__" :=
 ⟨s!"1",s!"1",(ie2 _ _ nE),madeBy_type nE oy s!"1",s!"1",by rw[FN];kernel_rfl,pK⟩
theorem qX:checkTypeCall "collections.deque" ⟨[],[]⟩=pure ():=s!"k"
theorem ti:checkBuiltinCall "collections.deque.__new__" ⟨[.type "collections.deque"],[]⟩=pure ():=s!"k"
theorem vt:Gq (.type "collections.deque") "__bool__" =pure none:=by rw[FF,Fh];kernel_rfl
noncomputable abbrev cQ(n:Int)(vs:List Value):Obj:={cls:= .type "collections.deque",data:= .fields (#[FK,.int n 0]++vs.toArray)}
section
variable {prog:Program} {w:FL}
theorem ql:Meets (Builtin.«collections.deque.__new__» ⟨[.type "collections.deque"],[]⟩)
 (λ_ R s=>R (.ok (.ret (.ref s.heap.objs.size))) {s with heap:=s.heap.push (cQ 0 [])}):=
 .of_wp λprog w A R s h=>by
  unfold Builtin.«collections.deque.__new__» Builtin.Deque.newArgs Builtin.Deque.new;have hsub:GI (.type "collections.deque") (.type Builtin.Deque.ty)=pure true:=by unfold Builtin.Deque.ty;rw[FN];kernel_rfl
  obtain ⟨hp,g,d,tk,os⟩:=s;have L:=Fv.of_pure (M:=Fa prog w) (h:=hp) hsub;repeat (first|lk)
  exact (af _ rfl h)
theorem nZ(a:Addr):Meets (Builtin.«collections.deque.__init__» ⟨[.ref a],[]⟩)
 (λ_ R s=>s.heap.get? a=EU (cQ 0 [])∧∀h' n,Heap.SameBut a s.heap h'->h'.get? a=EU (cQ n [])->R (.ok (.ret .none)) {s with heap:=h'}):=
 .of_wp λprog w A R s ⟨ho,h⟩=>by
  unfold Builtin.«collections.deque.__init__» Builtin.Deque.clear Builtin.Deque.items;obtain ⟨hp,g,d,tk,os⟩:=s;dsimp only at ho h;have sb:Heap.SameBut a hp (hp.update a (Obj.mapFields (·.setIfInBounds 0 .none))):=Heap.SameBut.update ..;have ho2:(hp.update a (Obj.mapFields (·.setIfInBounds 0 .none))).get? a=EU (cQ 0 []):=by rw[Heap.get?_update_self _ ho rfl];rfl
  repeat (first|(with_reducible refine wpAny_setField ho rfl s!"4" ?_)|lk)
  exact (af _ rfl (h _ 0 sb ho2))
theorem pv(a:Addr)(n:Int)(vs:List Value):Meets (Builtin.«collections.deque.__len__» ⟨[.ref a],[]⟩)
 (λ_ R s=>s.heap.get? a=EU (cQ n vs)∧∀t k,R (.ok (.ret (.int vs.length t))) {s with toks:=k}):=
 .of_wp λprog w A R s ⟨ho,h⟩=>by
  unfold Builtin.«collections.deque.__len__» Builtin.Deque.size;obtain ⟨hp,g,d,tk,os⟩:=s;dsimp only at ho h;repeat (first|lk)
  refine (af _ rfl ?_);rw[show (#[FK,Value.int n 0]++vs.toArray).size-2=vs.length by simp];exact h _ _
theorem oX(a:Addr)(n:Int)(x:Value):Meets (Builtin.«collections.deque.pop» ⟨[.ref a],[]⟩)
 (λ_ R s=>s.heap.get? a=EU (cQ n [x])∧∀h' n',Heap.SameBut a s.heap h'->h'.get? a=EU (cQ n' [])->R (.ok (.ret x)) {s with heap:=h'}):=
 .of_wp λprog w A R s ⟨ho,h⟩=>by
  unfold Builtin.«collections.deque.pop» Builtin.Deque.items Builtin.Deque.change;obtain ⟨hp,g,d,tk,os⟩:=s;dsimp only at ho h;repeat (first|(with_reducible refine wpAny_updateFields ho rfl ?_ (by simp[sizeLine_eq]))|lk)
  refine (af _ rfl (h _ (n+1) (Heap.SameBut.update ..) ?_));rw[Heap.get?_update_self _ ho rfl];rfl
theorem lr(a:Addr)(n:Int)(x:Value):Meets (Builtin.«collections.deque.append» ⟨[.ref a,x],[]⟩)
 (λ_ R s=>s.heap.get? a=EU (cQ n [])∧∀h' n',Heap.SameBut a s.heap h'->h'.get? a=EU (cQ n' [x])->R (.ok (.ret .none)) {s with heap:=h'}):=
 .of_wp λprog w A R s ⟨ho,h⟩=>by
  unfold Builtin.«collections.deque.append» Builtin.Deque.pushRight Builtin.Deque.items Builtin.Deque.change Builtin.Deque.maxlen;obtain ⟨hp,g,d,tk,os⟩:=s;dsimp only at ho h;repeat (first|(with_reducible refine wpAny_updateFields ho rfl ?_ (by simp[sizeLine_eq]))|lk)
  have ho2:(hp.update a (Obj.mapFields λvs=> #[vs.getD 0 FK,rawInt (if true=true then n+1 else n)]++(vs.extract 2).push x)).get? a=EU (cQ (n+1) [x]):=by rw[Heap.get?_update_self _ ho rfl];rfl
  have sb:Heap.SameBut a hp (hp.update a (Obj.mapFields λvs=> #[vs.getD 0 FK,rawInt (if true=true then n+1 else n)]++(vs.extract 2).push x)):=Heap.SameBut.update ..;dsimp only;generalize hp.update a (Obj.mapFields λvs=> #[vs.getD 0 FK,rawInt (if true=true then n+1 else n)]++(vs.extract 2).push x)=h2 at ho2 sb⊢;repeat (first|lk)
  exact (af _ rfl (h _ (n+1) sb ho2))
end
theorem tW{prog:Program}{w:FL}{A:Fb}{E:Value->Shared->Prop}{s:Shared}{Q:Value->Shared->Prop}(h:∀h' n,(∀b o,s.heap.get? b=EU o->h'.get? b=EU o)->h'.get? s.heap.objs.size=EU (cQ n [])->Q (.ref s.heap.objs.size) {s with heap:=h'}):
 E4 (Fa prog w) A (call (.type "collections.deque") []) Q E s:=by
 refine callType_meets qJ qX ti qt nK ql (Q₁:=λobj s₁=>obj= .ref s.heap.objs.size∧s₁={s with heap:=s.heap.push (cQ 0 [])}) ⟨rfl,rfl⟩ ?_;intro obj s₁ zr1;refine b7 zr1 λz2=>?_;clear zr1;subst z2;have g:(s.heap.push (cQ 0 [])).get? s.heap.objs.size=EU (cQ 0 []):=Heap.get?_push_size _ rfl;refine (ia2 ⟨_,g,rfl⟩ (pd _) ⟨_,nZ _,g,λh' n sb hg=>⟨rfl,h h' n (λb o e=>?_) hg⟩⟩);rw[sb.2 b (Fi (Heap.lt_size e))];exact Heap.get?_push_of_some _ e
noncomputable def DqV:Option Str->List Value->Prop
 |none,vs=>vs=[]
 |some x,vs=>∃t,vs=[.str x t]
noncomputable def dqO(l:Option Str):MO:= .any λo=>∃n vs,o=cQ n vs∧DqV l vs
section
variable {X:Xc} {st:St} {Q:MV->St->Prop}
theorem mF(hq:∀d,st.σ d=none->Q (.r d) ⟨st.σ.put d (dqO none),st.ρ⟩):WC X (.type "collections.deque") [] st Q:=λφ s us I r=>by
 unfold VRs at r;subst r;refine tW λh' n old hg=>?_;have I₁:=I.grow old s.toks;refine xa2 (bB I.inv.fresh) λa1 a2 a3=>?_;have I₂:=(I₁.hide a2 a1 I.inv.sz (m:=dqO none) (cj _ hg rfl n ⟨[],rfl,rfl⟩)).show_ a2 a1 a3;exact .mk (bO ..) I₂ (aB old) (hq _ a2)
theorem kH{φ:Sg}{s:Shared}{d:Addr}{l:Option Str}(I:IF X φ st s)(e:st.σ d=EU (dqO l)):∃n vs,s.heap.get? d=EU (cQ n vs)∧DqV l vs:=by
 refine aV (I.own e) λo ho _ z1=>?_;refine am z1 λn vs z2 h=>?_;clear z1;subst z2;exact (cy n vs ho h)
theorem ss{d:Addr}{l:Option Str}(e:st.σ d=EU (dqO l)):pG X (.r d) st "collections.deque" :=λφ s v I r=>by
 cases (show v= .ref d from r);refine am (kH I e) λn vs ho _=>?_;exact ⟨(af _ ho rfl),λb hb=>by cases hb;exact (af _ ho rfl)⟩
theorem x5{d:Addr}{x:Str}(e:st.σ d=EU (dqO (EU x)))(hq:Q (.s x) ⟨st.σ.put d (dqO none),st.ρ⟩):WC X (.builtin "collections.deque.pop") [.r d] st Q:=λφ s us I r=>by
 refine fS r ?_;refine am (kH I e) λn vs ho z1=>?_;refine xe1 z1 λt z3=>?_;clear z1;subst z3;refine call_meets jU (af _ ho rfl) qy (rB _) (oX d n _) ⟨ho,λh' n' sb hg=>?_⟩;exact Post.mk (fq ..) (I.upd (m':=dqO none) (t:=s.toks) e sb (cj _ hg rfl n' ⟨[],rfl,rfl⟩)) (co I e sb) hq
theorem sP{d:Addr}{x:Str}(e:st.σ d=EU (dqO none))(hq:Q (.k .none) ⟨st.σ.put d (dqO (EU x)),st.ρ⟩):WC X (.builtin "collections.deque.append") [.r d,.s x] st Q:=λφ s us I r=>by
 refine CV r λt=>?_;refine am (kH I e) λn vs ho h0=>?_;subst h0;refine call_meets gS (af _ ho rfl) kJ (mI _ _) (lr d n _) ⟨ho,λh' n' sb hg=>?_⟩;exact Post.mk (aZ ..) (I.upd (m':=dqO (EU x)) (t:=s.toks) e sb (cj _ hg rfl n' ⟨[_],rfl,t,rfl⟩)) (co I e sb) hq
end
section
variable {prog:Program} {w:FL} {A:Fb} {E:Value->Shared->Prop} {s:Shared}
theorem u7{d:Addr}{n:Int}{vs:List Value}{Q:Bool->Shared->Prop}(ho:s.heap.get? d=EU (cQ n vs))(hz:vs.length<1000)(h:∀k,Q (!vs.isEmpty) {s with toks:=k}):E4 (Fa prog w) A (truthy (.ref d)) Q E s:=by
 have hT:s.TypeIs (.ref d) "collections.deque" :=(af _ ho rfl)
 have key:E4 (Fa prog w) A (runValue (.builtin "len" ⟨[.ref d],[]⟩)) (λr s'=>∃t,r= .int vs.length t∧Q (!vs.isEmpty) s') E s:=by
  refine wpAny_runValue (Gc entry_len ?_);rw[Fb.under_plainId plain_len _];unfold Builtin.«len»;refine EX (m:=oneArg "len" _) (E0 ?_);refine EX (m:=callSpecial? (.ref d) (EW "__len__")) (Go (name:=EW "__len__") hT gw
   (call_meets gw hT pq (q7 _) (pv d n vs) ⟨ho,λt k=>?_⟩))
  refine EX (wpAny_holding (E0 ?_));refine EX (wpAny_letGo ?_);have e1:¬((vs.length:Int)<0):=by exact tG
  have e2:¬((vs.length:Int)≥2^63):=by exact Ad hz
  simp only[e1,e2,if_false];exact EX (wpAny_mkInt (E0 (af _ rfl (h _))))
 have e:((vs.length:Int) !=0)= !vs.isEmpty:=by clear ho hz h key;cases vs<;>simp;exact λz_h=>Nat.succ_ne_zero _ (Int.ofNat_inj.mp z_h)
 unfold truthy;refine EX (wpAny_callSpecial?_none (name:=EW "__bool__") hT vt ?_);refine EX (wpAny_specialOf (name:=EW "__len__") hT gw.lookup ?_);exact EX (FE key (λr s' h'=>by refine ad h' λt z1 hq=>?_;clear h';subst z1;exact E0 (e▸hq)) λ_ _ e=>e)
end
theorem wS{X:Xc}{st:St}{QB:Bool->St->Prop}{d:Addr}{l:Option Str}(e:st.σ d=EU (dqO l))(h:QB l.isSome st):WT X (.r d) st QB:=λφ s v I r=>by
 cases (show v= .ref d from r);refine am (kH I e) λn vs ho hv=>?_
 have z:(!vs.isEmpty)=l.isSome∧vs.length<1000:=by
  cases l with
  |none=>clear ho;cases (show vs=[] from hv);exact ⟨rfl,s!"4"⟩
  |some x=>refine xe1 hv λt z1=>?_;clear hv;clear ho;subst z1;exact ⟨rfl,s!"4"⟩
 refine u7 ho z.2 λk=>?_;rw[z.1];exact ⟨st,I.toks _,.refl _,h⟩
end
section
open Builtin.Str
section
variable {X:Xc} {st:St} {φ:Sg} {Q:MV->St->Prop}
theorem v7{n:Int}(hq:Q (.k (.type "int")) st):WC X (.type "type") [.i n] st Q:=λφ s us I r=>by
 refine vZ r λt=>?_;exact call_type_of (Tx:="int") (typeIs_int s n t) s!"d" (Post.mk (aZ ..) I (.refl _) hq)
theorem oZ{x:Str}(hq:Q (.k (.type "str")) st):WC X (.type "type") [.s x] st Q:=λφ s us I r=>by
 refine vT r λt=>?_;exact call_type_of (Tx:="str") rfl s!"d" (Post.mk (aZ ..) I (.refl _) hq)
theorem iM{a b:String}(hq:Q (.k (.bool (!(Hk a==Hk b)))) st):W2 X (Fx .IsNot) (.k (.type a)) (.k (.type b)) st Q:=λφ s v w I e1 e2=>by
 cases (show v= .type a from e1);cases (show w= .type b from e2);exact E0 (a:=Value.bool (!(Hk a==Hk b))) (Post.mk (aZ ..) I (.refl _) hq)
theorem zp{n:Int}(hq:Q (.i n) st):WC X (.type "int") [.i n] st Q:=λφ s us I r=>by
 refine vZ r λt=>?_;exact call_int_int (Post.mk (cH ..) I (.refl _) hq)
theorem te{x:Str}(hq:Q (.k (.bool true)) st):WC X (.builtin "isinstance") [.s x,.k (.type "str")] st Q:=λφ s us I r=>by
 refine CU r λt z e2=>?_;cases (show z= .type "str" from e2);exact call_isinstance (isinstance_true (Tx:="str") s!"k" (by rw[FN];kernel_rfl)) ⟨rfl,Post.mk (aZ ..) I (.refl _) hq⟩
noncomputable def fnd(x y:Str)(i j:Int):Int:=match occurrences x y (fromIndex x.length i) (min (fromIndex x.length j) x.length) 1 with|k::_=>(k:Int)| []=> -1
theorem rE(x y:Str)(i j:Int)(t u v v':Tok):Gives (Builtin.«str.find» ⟨[.str x t,.str y u,.int i v,.int j v'],[]⟩) (.int (fnd x y i j)):=by
 show Gives (match occurrences x y (fromIndex x.length i) (min (fromIndex x.length j) x.length) 1 with|k::_=>retInt k| []=>(do rule "str.find.not-found";retInt (-1))) _;unfold fnd
 cases occurrences x y (fromIndex x.length i) (min (fromIndex x.length j) x.length) 1 with
 |nil=>exact .rule (.of_eq rfl)
 |cons k _=>exact .of_eq rfl
theorem yM{x y:Str}{i j:Int}(hq:Q (.i (fnd x y i j)) st):WC X (.builtin "str.find") [.s x,.s y,.i i,.i j] st Q:=λφ s us I r=>by
 refine yA r λt1 t2 t3 t4=>?_;exact call_meets PySem.F.slot_str_find rfl PySem.F.entry_str_find (PySem.F.args_str_find_4 _ _ _ _) (rE x y i j t1 t2 t3 t4).meets (Post.mk (cH ..) (I.toks _) (.refl _) hq)
theorem bT{value:Fw}{lower upper:Option Fw}{p pos:Pos}(ht:∀x t r,letTemporaryGo value (.str x t) r=pure ())
 (h:WE X value st λa st₁=>∃x,a= .s x∧x.length≤sizeLine∧WP X lower st₁ λl st₂=>WP X upper st₂ λu st₃=>Q (.s (cut x l u)) st₃):
 WE X (.Subscript value (.Slice lower upper none p) pos) st Q:=λφ s I=>by
 rw[eval_Subscript];refine EX (ab (h φ s I) λv s₁ pp=>?_);obtain ⟨a,st₁,r,I₁,k₁,x,e,hl,h₁⟩:=pp;subst e;refine xe1 r λt z1=>?_;clear r;subst z1;refine EX (wpAny_holding (wpAny_Slice (ab (jt h₁ I₁) λvl s₂ y=>?_)));obtain ⟨l,st₂,e₂,I₂,k₂,h₂⟩:=y;refine ab (jt h₂ I₂) λvu s₃ pp=>?_;refine k7 pp λu st₃ e₃ I₃ k₃ q=>?_;clear pp;subst e₂ e₃;rw[evalPart_none];refine E0 ?_;refine EX (GJ ?_);have T:∀s':Shared,s'.TypeIs (.str x t) "str" :=λs'=>typeIs_str _ x t;have fin:E4 X.M X.A (operate [.ref s₃.heap.objs.size,.str x t] (getItem (.str x t) (.ref s₃.heap.objs.size))) (λr s₄=>E4 X.M X.A (letTemporaryGo value (.str x t) r>>=λ_=>pure r) (Post X φ s Q) NoE s₄) NoE
  {s₃ with heap:=s₃.heap.push {cls:= .type "slice",data:= .fields #[partValue l,partValue u,.none]}}:=
  wpAny_operating (FE (wpAny_getItem_str_slice (l:=l) (u:=u) (st:=none) ⟨_,Heap.get?_push_size _ rfl,rfl,rfl⟩ rfl (mi (Qx:=λr s₄=>Post X φ s Q r s₄) hl λt' k=>Post.mk (fq ..) ((I₃.push _).toks k) (k₁.trans (k₂.trans (k₃.trans (keep_push _ _)))) q))
   (λr s₄ h₄=>EX (FO (ht x t r) (E0 h₄))) λ_ _ z=>z)
 refine EX ?_;rw[getitemInPython_of_ne (by intro e;cases e)];refine EX (wpAny_specialOf (T _) F.slot_str_getitem.lookup ?_)
 first
  |exact E0 (EX fin)
  |exact EX (E0 (EX fin))
  |exact EX fin
theorem yO(N:Kn X){name:Str}{x C dx p fget:Addr}{ns:List (Str×MV)}{rest:List Value}{σ:Sg}{ρ:Lo}(e1:σ x=EU (.ins C dx))(e2:σ dx=EU (.ns ns))(hC:dk (KD X.C.w.params N.dv) C=true)
 (ha:findIn (KD X.C.w.params N.dv) (.ref C) name=EU (EU (.ref p))) (hg:specialIn (KD X.C.w.params N.dv) (.ref p) "__get__" =EU (EU (.builtin "property.__get__"))) (ht:takesIn (KD X.C.w.params N.dv) (.ref p)=EU true)
 (hp:recIn (KD X.C.w.params N.dv) p "property" =EU (.ref fget::rest)) (hct:CtA X.C X.A.in1 (.ref fget) [.r x] [] σ λm σ'=>m.out∧Q m ⟨σ',ρ⟩):AtR X (.r x) name ⟨σ,ρ⟩ Q:=
 ⟨⟨_,rfl⟩,λφ s v I r=>by
  cases (show v= .ref x from r);refine bL (jH (I.own e1) (I.own e2)) λes n IA nr D=>?_;have KI:=I.kin N;refine xa4 (gg hC) λc1 c2 c3 c4 c5=>?_;refine ad (any_some c5) λcd hcd hhd=>?_;refine get_bind (s:=s) KI IA c1 (findObj_data (by rw[hcd];rfl) ha hg ht) c2 ?_;refine GC (prop_get (s:={s with toks:=s.toks+1}) KI hp ?_)
  let φ':Sg:=λa=>if a=X.env.locals then EU (.fr ρ) else φ a
  have e1:joi σ φ'=tot σ φ X.env.locals ρ:=by
   funext a;show (σ a).or (if a=X.env.locals then EU (.fr ρ) else φ a)=if a=X.env.locals then EU (.fr ρ) else (σ a).or (φ a)
   by_cases h:a=X.env.locals
   ·rw[if_pos h,if_pos h,h,show σ X.env.locals=none from I.no];rfl
   ·rw[if_neg h,if_neg h]
  have d1:Dis σ φ':=λa m e=>by
   show (if a=X.env.locals then EU (MO.fr ρ) else φ a)=none;rw[if_neg (λh=>by rw[h,show σ X.env.locals=none from I.no] at e;cases e)];exact I.dis a m e
  refine Hm (hct φ' {s with toks:=s.toks+1} [.ref x] [] (by rw[e1];exact I.inv.toks _) d1 (.cons (bO ..) (.nil _)) (.nil _)) λr s' z=>?_;rcases r with e|(_|_|_|v)<;>first|exact z.elim|skip
  refine ik z λm σ' rv I' d' k' ho hq=>?_;clear z
  have no:σ' X.env.locals=none:=by
   cases hh:σ' X.env.locals with
   |none=>rfl
   |some m=>
    have:=d' _ _ hh;have:(if X.env.locals=X.env.locals then EU (MO.fr ρ) else φ X.env.locals)=none:=this;rw[if_pos rfl] at this;cases this
  have e2:joi σ' φ'=tot σ' φ X.env.locals ρ:=by
   funext a;show (σ' a).or (if a=X.env.locals then EU (.fr ρ) else φ a)=if a=X.env.locals then EU (.fr ρ) else (σ' a).or (φ a)
   by_cases h:a=X.env.locals
   ·rw[if_pos h,if_pos h,h,no];rfl
   ·rw[if_neg h,if_neg h]
  refine handed_on (rv.out ho) ⟨m,⟨σ',ρ⟩,rv,⟨by show Inv X.C (tot σ' φ X.env.locals ρ) s';rw[←e2];exact I',no,λa m e=>?_,I.loc⟩,k',hq⟩;have:=d' a m e;have this:(if a=X.env.locals then EU (MO.fr ρ) else φ a)=none:=this;by_cases h:a=X.env.locals
  ·rw[if_pos h] at this;cases this
  ·rw[if_neg h] at this;exact this⟩
end
end
section
variable {C:Cx}
noncomputable def cV:List String:=["n","what"]
theorem on:cV.Nodup:=s!"1"
set_option maxHeartbeats 4000000 in
theorem m6(G:Gd C){A:Fb}{k:Nat}(R:Rm (k+1) A){n:Int}{what:Str}{σ:Sg}(h1:n≤1099511627776)(h2: -1099511627776≤n):
 CtA C A (.ref 306) [.i n,.s what] [] σ λm σ'=>m= .i n∧σ'=σ:=by
 refine aW G R (a:=306) (c:=305) (x:=top 14) (n:="_index") (q:="_index") (d:= .none) (pm:=(.str "io" 713)) (an:=none) (t:=724)
  (ps:=(["n","what"]:List Str).zip [.i n,.s what]) s!"k" s!"k" s!"k" s!"k" [("type",.type "type"),("int",.type "int")] s!"k" (λv=>(aX rfl s!"k" s!"1" (bk λa0=>bk λa1=>cK s!"k")).a) (ρ:=zL cV [EU (.i n),EU (.s what)]) s!"k" λQf hQf X hC O R' hin hg hE=>?_
 subst hC
 have N:=kn G
 have hd:=on
 have i_n:gI cV 0=EU "n" :=rfl
 have i_what:gI cV 1=EU "what" :=rfl
 have g_type:X.gs.lookup (EW "type")=EU (.type "type" :Value):=hg▸s!"k"
 have g_int:X.gs.lookup (EW "int")=EU (.type "int" :Value):=hg▸s!"k"
 clear hg hE
 conv=>arg 2;whnf
 have l_n:lk (zL cV [EU (.i n),EU (.s what)]) "n" =EU (EU (.i n)):=lkI hd i_n rfl
 have l_what:lk (zL cV [EU (.i n),EU (.s what)]) "what" =EU (EU (.s what)):=lkI hd i_what rfl
 generalize zL cV [EU (.i n),EU (.s what)]=ρ at l_n l_what⊢
 clear hd i_n i_what
 refine aa (cU false ?_ ?_)
 ·repeat walk_at "s"
  refine bQ O g_type trivial ?_
  repeat walk_at "s"
  refine v7 ?_
  repeat walk_at "s"
  refine de O g_int ?_
  refine iM ?_
  repeat walk_at "s"
  refine aD s!"d" ?_
  exact ⟨rfl,rfl⟩
 rw[if_neg s!"d"]
 repeat walk_at "s"
 refine bQ O g_int trivial ?_
 repeat walk_at "s"
 refine zp ?_
 repeat walk_at "s"
 refine aD s!"ff" ?_
 repeat walk_at "s"
 refine aD s!"ff" ?_
 repeat walk_at "s"
 exact ⟨rfl,rfl⟩
theorem u8{X:Xc}{st:St}{Q:MV->St->Prop}{x:Str}(hf:x.length<2^62)(hq:Q (.i x.length) st):WC X (.builtin "len") [.s x] st Q:=λφ s us I r=>by
 refine vT r λt=>?_;exact len_str (by exact AD hf) (Post.mk (cH ..) (I.toks _) (.refl _) hq)
theorem dQ(x:Str)(l u:Option Int):(cut x l u).length≤x.length:=Txt.slice_le x l u
noncomputable def rd1(buf:Str)(pos:Nat):Str×Nat:=if pos<buf.length then (cut (cut buf (EU (pos:Int)) (EU ((pos:Int)+1))++ " ") none (EU (-1)),pos+1) else ("",pos)
noncomputable def bH(buf:Str)(pos:Nat):List (Str×MV):=[("_StringIO__newline",.s "\n"),("_StringIO__buf",.s buf),("_StringIO__pos",.i (pos:Int))]
theorem qW(b:Str)(p:Nat):nk (bH b p) "_StringIO__newline" =EU (.s "\n"):=s!"k"
theorem mD(b:Str)(p:Nat):nk (bH b p) "_StringIO__buf" =EU (.s b):=s!"k"
theorem sf(b:Str)(p:Nat):nk (bH b p) "_StringIO__pos" =EU (.i (p:Int)):=s!"k"
theorem ic(b:Str)(p q:Nat):aN (bH b p) "_StringIO__pos" (.i (q:Int))=bH b q:=s!"k"
theorem ib{b:Str}{p:Nat}{x:Str}(h1:x≠ "_StringIO__newline")(h2:x≠ "_StringIO__buf")(h3:x≠ "_StringIO__pos"):nk (bH b p) x=none:=by simp[nk,bH,h1,h2,h3]
noncomputable def cN:List String:=["self"]
theorem jN:cN.Nodup:=s!"1"
set_option maxHeartbeats 4000000 in
theorem iz(G:Gd C){A:Fb}{k:Nat}(R:Rm (k+1) A){io dio:Addr}{buf:Str}{pos:Nat}{σ:Sg}(e1:σ io=EU (.ins 840 dio))(e2:σ dio=EU (.ns (bH buf pos))):
 CtA C A (.ref 624) [.r io] [] σ λm σ'=>m= .k .none∧σ'=σ:=by
 refine aW G R (a:=624) (c:=623) (x:=aH 20 3) (n:="__check") (q:="StringIO.__check") (d:= .none) (pm:=(.str "io" 713)) (an:=none) (t:=1118)
  (ps:=(["self"]:List Str).zip [.r io]) s!"k" s!"k" s!"k" s!"k" [] s!"k" (λv=>(aX rfl s!"k" s!"1" (bk λa0=>cK s!"k")).a) (ρ:=zL cN [EU (.r io)]) s!"k" λQf hQf X hC O R' hin hg hE=>?_
 subst hC
 have N:=kn G
 have hd:=jN
 have i_self:gI cN 0=EU "self" :=rfl
 clear hg hE
 conv=>arg 2;whnf
 have l_self:lk (zL cN [EU (.r io)]) "self" =EU (EU (.r io)):=lkI hd i_self rfl
 generalize zL cN [EU (.r io)]=ρ at l_self⊢
 clear hd i_self
 have n1:=mD buf pos
 repeat walk_at "s"
 exact ⟨rfl,rfl⟩
theorem vK(G:Gd C){io:Addr}{n:Int}(v:Value):d5 C (dD (aH 20 25) "read" "StringIO.read" (.ref 779) v (.str "io" 713) none (.ref 785)) [.r io,.i n] [] ((["self","size"]:List Str).zip [.r io,.i n]):=by
 refine f8 (T:=779) (o:=dT [.int (-1) 1290]) rfl (G.says.obj s!"k" rfl) rfl λvs ks hv hk=>?_
 obtain ⟨a0,a1,rfl⟩:∃a0 a1,vs=[a0,a1]:=by
  rcases vs with _|⟨a0,_|⟨a1,_|_⟩⟩<;>simp at hv
  exact ⟨a0,a1,rfl⟩
 have e_ks:ks=[]:=FT.mp hk;subst e_ks;refine ⟨_,[("self",a0),("size",a1)],s!"2",s!"k",s!"k",λh r q=>?_⟩;obtain ⟨r0,r⟩:=r.c;obtain ⟨r1,r⟩:=r.c;exact .cons (v:=a0) s!"k" r0 (.cons (v:=a1) s!"k" r1 .nil)
noncomputable def bg:List String:=["self","size","start","stop"]
theorem kc:bg.Nodup:=s!"1"
set_option maxHeartbeats 4000000 in
theorem pX(G:Gd C){A:Fb}{k:Nat}(R:Rm (k+2) A){io dio:Addr}{buf:Str}{pos:Nat}{σ:Sg}(e1:σ io=EU (.ins 840 dio))(e2:σ dio=EU (.ns (bH buf pos)))(hb:buf.length<1000):
 CtA C A (.ref 786) [.r io,.i 1] [] σ λm σ'=>m= .s (rd1 buf pos).1∧σ'=σ.put dio (.ns (bH buf (rd1 buf pos).2)):=by
 refine aW G R (a:=786) (c:=785) (x:=aH 20 25) (n:="read") (q:="StringIO.read") (d:=(.ref 779)) (pm:=(.str "io" 713)) (an:=none) (t:=1292)
  (ps:=(["self","size"]:List Str).zip [.r io,.i 1]) s!"k" s!"k" s!"k" s!"k" [("_index",.ref 306),("len",.builtin "len")] s!"k" (λv=>vK G v) (ρ:=zL bg [EU (.r io),EU (.i 1),none,none]) s!"k" λQf hQf X hC O R' hin hg hE=>?_
 subst hC
 have N:=kn G
 have hd:=kc
 have i_self:gI bg 0=EU "self" :=rfl
 have i_size:gI bg 1=EU "size" :=rfl
 have i_start:gI bg 2=EU "start" :=rfl
 have i_stop:gI bg 3=EU "stop" :=rfl
 have g_index:X.gs.lookup (EW "_index")=EU (.ref 306:Value):=hg▸s!"k"
 have g_len:X.gs.lookup (EW "len")=EU (.builtin "len" :Value):=hg▸s!"k"
 clear hg hE
 conv=>arg 2;whnf
 have l_self:lk (zL bg [EU (.r io),EU (.i 1),none,none]) "self" =EU (EU (.r io)):=lkI hd i_self rfl
 have l_size:lk (zL bg [EU (.r io),EU (.i 1),none,none]) "size" =EU (EU (.i 1)):=lkI hd i_size rfl
 have l_start:lk (zL bg [EU (.r io),EU (.i 1),none,none]) "start" =EU (none):=lkI hd i_start rfl
 have l_stop:lk (zL bg [EU (.r io),EU (.i 1),none,none]) "stop" =EU (none):=lkI hd i_stop rfl
 generalize zL bg [EU (.r io),EU (.i 1),none,none]=ρ at l_self l_size l_start l_stop⊢
 clear hd i_self i_size i_start i_stop
 have n1:=mD buf pos
 have n2:=sf buf pos
 repeat walk_at "s"
 refine am (bu G (a:=306) s!"k") λoi fi hi1 hi2=>?_
 refine bA O g_index hi1 hi2 trivial ?_
 repeat walk_at "s"
 refine bx (Ct.mono (CtA.ct (m6 G R' s!"d" s!"d")) ?_)
 intro m σ' zr1;refine b7 zr1 λz2=>?_;clear zr1;subst z2
 repeat walk_at "s"
 refine aA hin s!"2" (bK N s!"2" trivial ?_)
 repeat walk_at "s"
 have nxd:=aK e1 e2
 refine dK 624 e1 e2 (ib s!"ne" s!"ne" s!"ne") s!"at" s!"me" s!"k" (bu G s!"k") (ag (bx (Ct.mono (CtA.ct (iz G R' e1 e2)) ?_)))
 intro m σ' zr1;refine b7 zr1 λz2=>?_;clear zr1;subst z2
 refine ⟨trivial,?_⟩
 repeat walk_at "s"
 refine aT O g_len trivial ?_
 repeat walk_at "s"
 refine u8 (st:=⟨_,_⟩) (by exact nTT hb rfl) ?_
 repeat walk_at "s"
 by_cases hp:pos<buf.length
 ·have hr:rd1 buf pos=(cut (cut buf (EU (pos:Int)) (EU ((pos:Int)+1))++ " ") none (EU (-1)),pos+1):=by unfold rd1;rw[if_pos hp]
  have hr1:=congrArg Prod.fst hr
  have hr2:=congrArg Prod.snd hr
  dsimp only at hr1 hr2
  refine aD s!"ff" ?_
  repeat walk_at "s"
  refine ift s!"tt" ?_
  repeat walk_at "s"
  have hz:(bH buf pos).length=3:=rfl
  have hcut:(cut buf (EU (pos:Int)) (EU ((pos:Int)+1))).length≤1000:=by have:=dQ buf (EU (pos:Int)) (EU ((pos:Int)+1));exact nTL (E3 this hb) rfl
  have h1:((" " :Str)).length=1:=s!"d"
  have hlen:(cut buf (EU (pos:Int)) (EU ((pos:Int)+1))++(" " :Str)).length=(cut buf (EU (pos:Int)) (EU ((pos:Int)+1))).length+1:=by rw[str_length_append,h1]
  by_cases c:pos+1<buf.length
  ·refine ift s!"tt" ?_
   repeat walk_at "s"
   refine bT (λ_ _ _=>s!"2") ?_
   repeat walk_at "s"
   refine bT (λ_ _ _=>s!"2") ?_
   repeat walk_at "s"
   refine (aR _ rfl (by rw[sizeLine_eq];exact pC hb) (fF ?_))
   repeat walk_at "s"
   refine cP (by rw[sizeLine_eq];exact BN hcut h1) (aR _ rfl (by rw[hlen,sizeLine_eq];exact wv hcut) (fI (fF ?_)))
   repeat walk_at "s"
   refine ⟨by rw[hr1],?_⟩
   rw[hr2]
   exact congrArg (λz=>σ'.put dio (.ns z)) (ic buf pos (pos+1))
  ·have hl:(buf.length:Int)=(pos:Int)+1:=by exact congrArg Int.ofNat (GH (Ga.mp c) hp)
   refine aD s!"ff" ?_
   rw[hl]
   repeat walk_at "s"
   refine bT (λ_ _ _=>s!"2") ?_
   repeat walk_at "s"
   refine bT (λ_ _ _=>s!"2") ?_
   repeat walk_at "s"
   refine (aR _ rfl (by rw[sizeLine_eq];exact pC hb) (fF ?_))
   repeat walk_at "s"
   refine cP (by rw[sizeLine_eq];exact BN hcut h1) (aR _ rfl (by rw[hlen,sizeLine_eq];exact wv hcut) (fI (fF ?_)))
   repeat walk_at "s"
   refine ⟨by rw[hr1],?_⟩
   rw[hr2]
   exact congrArg (λz=>σ'.put dio (.ns z)) (ic buf pos (pos+1))
 ·have hr:rd1 buf pos=(("" :Str),pos):=by unfold rd1;rw[if_neg hp]
  refine ift s!"tt" ?_
  repeat walk_at "s"
  exact ⟨by rw[hr],by rw[hr];exact (qC e2).symm⟩
end
section
local macro_rules | `(tactic|specialize $s:str)=>wk wB s
section
variable {C:Cx}
theorem exS{a:Str}{Q:Str->Prop}(hl:a.length≤sizeLine)(h:Q a):∃x,MV.s a= .s x∧x.length≤sizeLine∧Q x:=(aR a rfl hl h)
noncomputable def rdl(buf:Str)(pos:Nat):Nat:=if pos<buf.length then (if 0≤fnd buf "\n" (pos:Int) (buf.length:Int) then (fnd buf "\n" (pos:Int) (buf.length:Int)).toNat+1 else buf.length) else pos
theorem tC{x y:Str}{i j:Int}(h:0≤fnd x y i j):((fnd x y i j).toNat:Int)=fnd x y i j:=by exact Int.toNat_of_nonneg h
noncomputable def au:List String:=["self","limit","start","stop","cut","newline","i","j","end"]
theorem ko:au.Nodup:=s!"1"
set_option maxHeartbeats 4000000 in
theorem pj(G:Gd C){A:Fb}{k:Nat}(R:Rm (k+1) A){io dio:Addr}{buf:Str}{pos:Nat}{σ:Sg}(e1:σ io=EU (.ins 840 dio))(e2:σ dio=EU (.ns (bH buf pos)))(hb:buf.length<1000):
 CtA C A (.ref 638) [.r io,.i (-1)] [] σ λm σ'=>(∃x,m= .s x)∧σ'=σ.put dio (.ns (bH buf (rdl buf pos))):=by
 refine aW G R (a:=638) (c:=637) (x:=aH 20 5) (n:="__line") (q:="StringIO.__line") (d:= .none) (pm:=(.str "io" 713)) (an:=none) (t:=1132)
  (ps:=(["self","limit"]:List Str).zip [.r io,.i (-1)]) s!"k" s!"k" s!"k" s!"k" [("len",.builtin "len")] s!"k" (λv=>(aX rfl s!"k" s!"1" (bk λa0=>bk λa1=>cK s!"k")).a) (ρ:=zL au [EU (.r io),EU (.i (-1)),none,none,none,none,none,none,none]) s!"k" λQf hQf X hC O R' hin hg hE=>?_
 subst hC
 have N:=kn G
 have hd:=ko
 have i_self:gI au 0=EU "self" :=rfl
 have i_limit:gI au 1=EU "limit" :=rfl
 have i_start:gI au 2=EU "start" :=rfl
 have i_stop:gI au 3=EU "stop" :=rfl
 have i_cut:gI au 4=EU "cut" :=rfl
 have i_newline:gI au 5=EU "newline" :=rfl
 have i_i:gI au 6=EU "i" :=rfl
 have i_j:gI au 7=EU "j" :=rfl
 have i_end:gI au 8=EU "end" :=rfl
 have g_len:X.gs.lookup (EW "len")=EU (.builtin "len" :Value):=hg▸s!"k"
 clear hg hE
 conv=>arg 2;whnf
 have l_self:lk (zL au [EU (.r io),EU (.i (-1)),none,none,none,none,none,none,none]) "self" =EU (EU (.r io)):=lkI hd i_self rfl
 have l_limit:lk (zL au [EU (.r io),EU (.i (-1)),none,none,none,none,none,none,none]) "limit" =EU (EU (.i (-1))):=lkI hd i_limit rfl
 have l_start:lk (zL au [EU (.r io),EU (.i (-1)),none,none,none,none,none,none,none]) "start" =EU (none):=lkI hd i_start rfl
 have l_stop:lk (zL au [EU (.r io),EU (.i (-1)),none,none,none,none,none,none,none]) "stop" =EU (none):=lkI hd i_stop rfl
 have l_cut:lk (zL au [EU (.r io),EU (.i (-1)),none,none,none,none,none,none,none]) "cut" =EU (none):=lkI hd i_cut rfl
 have l_newline:lk (zL au [EU (.r io),EU (.i (-1)),none,none,none,none,none,none,none]) "newline" =EU (none):=lkI hd i_newline rfl
 have l_i:lk (zL au [EU (.r io),EU (.i (-1)),none,none,none,none,none,none,none]) "i" =EU (none):=lkI hd i_i rfl
 have l_j:lk (zL au [EU (.r io),EU (.i (-1)),none,none,none,none,none,none,none]) "j" =EU (none):=lkI hd i_j rfl
 have l_end:lk (zL au [EU (.r io),EU (.i (-1)),none,none,none,none,none,none,none]) "end" =EU (none):=lkI hd i_end rfl
 generalize zL au [EU (.r io),EU (.i (-1)),none,none,none,none,none,none,none]=ρ at l_self l_limit l_start l_stop l_cut l_newline l_i l_j l_end⊢
 clear hd i_self i_limit i_start i_stop i_cut i_newline i_i i_j i_end
 have n1:=mD buf pos
 have n2:=sf buf pos
 have n3:=qW buf pos
 have nxd:=aK e1 e2
 have hz:(bH buf pos).length=3:=rfl
 have h1:((" " :Str)).length=1:=s!"d"
 have h2:(("\n" :Str)).length=1:=s!"d"
 repeat walk_at "s"
 by_cases hp:pos<buf.length
 ·have hr:rdl buf pos=if 0≤fnd buf "\n" (pos:Int) (buf.length:Int) then (fnd buf "\n" (pos:Int) (buf.length:Int)).toNat+1 else buf.length:=by unfold rdl;rw[if_pos hp]
  refine aD s!"ff" ?_
  repeat walk_at "s"
  refine bp (T:="str") (id:="str.find") trivial s!"2" s!"d" s!"2" PySem.F.plainAttrs_str PySem.F.slot_str_find PySem.F.type_str_find ?_
  repeat walk_at "s"
  refine ⟨hZ,?_⟩
  repeat walk_at "s"
  refine yM (st:=⟨_,_⟩) ?_
  repeat walk_at "s"
  by_cases hi:0≤fnd buf "\n" (pos:Int) (buf.length:Int)
  ·rw[if_pos hi] at hr
   have hn:=tC hi
   refine ift s!"tt" ?_
   repeat walk_at "s"
   rw[show fnd buf (EW "\n") (pos:Int) (buf.length:Int)+(((EW "\n").length:Nat):Int)=(((fnd buf "\n" (pos:Int) (buf.length:Int)).toNat+1:Nat):Int) by rw[h2];exact hn▸rfl]
   repeat walk_at "s"
   refine bT (λ_ _ _=>s!"2") ?_
   repeat walk_at "s"
   refine bT (λ_ _ _=>s!"2") ?_
   repeat walk_at "s"
   refine exS (by rw[sizeLine_eq];exact pC hb) ?_
   repeat walk_at "s"
   refine cP (by have:=dQ buf (EU (pos:Int)) (EU (((fnd buf "\n" (pos:Int) (buf.length:Int)).toNat+1:Nat):Int));rw[sizeLine_eq];exact sU hb h1 this) (exS (by have:=dQ buf (EU (pos:Int)) (EU (((fnd buf "\n" (pos:Int) (buf.length:Int)).toNat+1:Nat):Int));rw[str_length_append,sizeLine_eq];exact sU hb h1 this) ?_)
   repeat walk_at "s"
   refine ⟨⟨_,rfl⟩,?_⟩
   rw[hr]
   exact congrArg (λz=>σ.put dio (.ns z)) (ic buf pos _)
  ·rw[if_neg hi] at hr
   refine aD s!"ff" ?_
   repeat walk_at "s"
   refine bT (λ_ _ _=>s!"2") ?_
   repeat walk_at "s"
   refine bT (λ_ _ _=>s!"2") ?_
   repeat walk_at "s"
   refine exS (by rw[sizeLine_eq];exact pC hb) ?_
   repeat walk_at "s"
   refine cP (by have:=dQ buf (EU (pos:Int)) (EU (buf.length:Int));rw[sizeLine_eq];exact sU hb h1 this) (exS (by have:=dQ buf (EU (pos:Int)) (EU (buf.length:Int));rw[str_length_append,sizeLine_eq];exact sU hb h1 this) ?_)
   repeat walk_at "s"
   refine ⟨⟨_,rfl⟩,?_⟩
   rw[hr]
   exact congrArg (λz=>σ.put dio (.ns z)) (ic buf pos _)
 ·have hr:rdl buf pos=pos:=by unfold rdl;rw[if_neg hp]
  refine ift s!"tt" ?_
  repeat walk_at "s"
  exact ⟨⟨_,rfl⟩,by rw[hr];exact (qC e2).symm⟩
theorem nT(G:Gd C){io:Addr}(v:Value):d5 C (dD (aH 20 26) "readline" "StringIO.readline" (.ref 787) v (.str "io" 713) none (.ref 793)) [.r io] [] ((["self","size"]:List Str).zip [.r io,.i (-1)]):=by
 refine f8 (T:=787) (o:=dT [.int (-1) 1302]) rfl (G.says.obj s!"k" rfl) rfl λvs ks hv hk=>?_
 obtain ⟨a0,rfl⟩:∃a0,vs=[a0]:=by
  rcases vs with _|⟨a0,_|_⟩<;>simp at hv
  exact ⟨a0,rfl⟩
 have e_ks:ks=[]:=FT.mp hk;subst e_ks;refine ⟨_,[("self",a0),("size",.int (-1) 1302)],s!"2",s!"k",s!"k",λh r q=>?_⟩;obtain ⟨r0,r⟩:=r.c;exact .cons (v:=a0) s!"k" r0 (.cons (v:= .int (-1) 1302) s!"k" (cH ..) .nil)
noncomputable def bD:List String:=["self","size"]
theorem g5:bD.Nodup:=s!"1"
set_option maxHeartbeats 4000000 in
theorem kq(G:Gd C){A:Fb}{k:Nat}(R:Rm (k+2) A){io dio:Addr}{buf:Str}{pos:Nat}{σ:Sg}(e1:σ io=EU (.ins 840 dio))(e2:σ dio=EU (.ns (bH buf pos)))(hb:buf.length<1000):
 CtA C A (.ref 794) [.r io] [] σ λm σ'=>(∃x,m= .s x)∧σ'=σ.put dio (.ns (bH buf (rdl buf pos))):=by
 refine aW G R (a:=794) (c:=793) (x:=aH 20 26) (n:="readline") (q:="StringIO.readline") (d:=(.ref 787)) (pm:=(.str "io" 713)) (an:=none) (t:=1304)
  (ps:=(["self","size"]:List Str).zip [.r io,.i (-1)]) s!"k" s!"k" s!"k" s!"k" [("_index",.ref 306)] s!"k" (λv=>nT G v) (ρ:=zL bD [EU (.r io),EU (.i (-1))]) s!"k" λQf hQf X hC O R' hin hg hE=>?_
 subst hC
 have N:=kn G
 have hd:=g5
 have i_self:gI bD 0=EU "self" :=rfl
 have i_size:gI bD 1=EU "size" :=rfl
 have g_index:X.gs.lookup (EW "_index")=EU (.ref 306:Value):=hg▸s!"k"
 clear hg hE
 conv=>arg 2;whnf
 have l_self:lk (zL bD [EU (.r io),EU (.i (-1))]) "self" =EU (EU (.r io)):=lkI hd i_self rfl
 have l_size:lk (zL bD [EU (.r io),EU (.i (-1))]) "size" =EU (EU (.i (-1))):=lkI hd i_size rfl
 generalize zL bD [EU (.r io),EU (.i (-1))]=ρ at l_self l_size⊢
 clear hd i_self i_size
 have nxd:=aK e1 e2
 repeat walk_at "s"
 refine am (bu G (a:=306) s!"k") λoi fi hi1 hi2=>?_
 refine bA O g_index hi1 hi2 trivial ?_
 repeat walk_at "s"
 refine bx (Ct.mono (CtA.ct (m6 G R' s!"d" s!"d")) ?_)
 intro m σ' zr1;refine b7 zr1 λz2=>?_;clear zr1;subst z2
 repeat walk_at "s"
 refine aA hin s!"2" (bK N s!"2" trivial ?_)
 repeat walk_at "s"
 refine dK 624 e1 e2 (ib s!"ne" s!"ne" s!"ne") s!"at" s!"me" s!"k" (bu G s!"k") (ag (bx (Ct.mono (CtA.ct (iz G R' e1 e2)) ?_)))
 intro m σ' zr1;refine b7 zr1 λz2=>?_;clear zr1;subst z2
 refine ⟨trivial,?_⟩
 repeat walk_at "s"
 refine bK N s!"2" trivial ?_
 repeat walk_at "s"
 refine dK 638 e1 e2 (ib s!"ne" s!"ne" s!"ne") s!"at" s!"me" s!"k" (bu G s!"k") ?_
 repeat walk_at "s"
 refine bx (Ct.mono (CtA.ct (pj G R' e1 e2 hb)) ?_)
 intro m σ' zr1;refine xa1 zr1 λz1 z2=>?_;clear zr1;obtain ⟨y,rfl⟩:=z1;subst z2
 repeat walk_at "s"
 exact ⟨⟨_,rfl⟩,rfl⟩
end
section
open Builtin.ObjectAttr
section
variable {prog:Program} {w:FL} {A:Fb} {s:Shared} {dv:Addr->Value}
theorem C9(P:F1)(dv:Addr->Value)(S:Setting):peek (KD P dv) S (checkBuiltinCall "object.__new__" ⟨[.ref 840],[]⟩)=EU ():=s!"k"
theorem CD(P:F1)(dv:Addr->Value)(S:Setting):peek (KD P dv) S (isType (.ref 840))=EU true:=s!"k"
theorem CM(P:F1)(dv:Addr->Value)(S:Setting):peek (KD P dv) S (Bind.madeHere "object.__new__" (.ref 840))=EU ():=s!"k"
theorem CH(P:F1)(dv:Addr->Value)(S:Setting):peek (KD P dv) S (classHasDel 840)=EU false:=s!"k"
theorem Ci(P:F1)(dv:Addr->Value):(match (KD P dv).lookup 840 with|some ⟨_,_,.cls cd,_⟩=>!cd.abstract&&cd.hasDict|_=>false)=true:=s!"k"
noncomputable def ncl(l:Option Obj):Bool:=match l with|some o=>(match o.cls with| .type t=>!(t=="tuple")|_=>true)|none=>false
theorem Bb(P:F1)(dv:Addr->Value):ncl ((KD P dv).lookup 593)=true:=s!"k"
theorem pY(P:F1)(dv:Addr->Value):ncl ((KD P dv).lookup 840)=true:=s!"k"
theorem v5:Hb table "object.__new__" =EU Builtin.«object.__new__»:=F4 s!"k"
theorem zc{R:Fin->Shared->Prop}{E:Value->Shared->Prop}(X:(KD w.params dv).In s.heap)
 (h:R (.done (.ret (.ref (s.heap.objs.size+1)))) {s with heap:=(s.heap.push emptyDict).push (instObj 840 s.heap.objs.size)}):
 E4 (Fa prog w) A (Builtin.«object.__new__» ⟨[.ref 840],[]⟩) R E s:=by
 obtain ⟨hp,g,dd,tk,os⟩:=s;have L1:=Fv.of_peek (M:=Fa prog w) X (CD w.params dv ⟨prog,w.params⟩);have L3:=Fv.of_peek (M:=Fa prog w) X (CM w.params dv ⟨prog,w.params⟩);have L5:=Fv.of_peek (M:=Fa prog w) X (CH w.params dv ⟨prog,w.params⟩);have c:=Ci w.params dv;split at c;rotate_left
 ·cases c
 rename_i oc od cd sl hcd;simp only[Fd,Gb] at c;refine xa1 c λc1 c2=>?_;have ho:=X _ _ hcd;unfold Builtin.«object.__new__»;repeat (first|lk)
 rw[c1];simp only[Gg,if_false]
 have L5':Fv (Fa prog w) ((hp.push {cls:= .type "dict",data:= .dict #[]}).push {cls:= .ref 840,dict:=EU hp.objs.size,data:= .plain}) (classHasDel 840) false:=
  L5.keeps λb o e=>Heap.get?_push_of_some _ (Heap.get?_push_of_some _ e)
 repeat (first|lk)
 rw[Heap.size_push];exact h
theorem yi{Q:Value->Shared->Prop}{E:Value->Shared->Prop}(X:(KD w.params dv).In s.heap)
 (h:Q (.ref (s.heap.objs.size+1)) {s with heap:=(s.heap.push emptyDict).push (instObj 840 s.heap.objs.size)}):E4 (Fa prog w) A (call (.builtin "object.__new__") [.ref 840]) Q E s:=by
 have L0:=Fv.of_peek (M:=Fa prog w) X (C9 w.params dv ⟨prog,w.params⟩);refine GC (F2 s!"1" v5 (L0.here ?_));exact zc (A:=A.in1) X h
theorem Co:(match findCls [] (.type "object") (.type "type") "__new__" with|some (.val v)=>v== .builtin "object.__new__" |_=>false)=true:=s!"k"
theorem CF{Q:Value->Shared->Prop}{E:Value->Shared->Prop}(h:Q (.builtin "object.__new__") {s with toks:=s.toks+1}):E4 (Fa prog w) A (getAttr (.type "object") "__new__") Q E s:=by
 have X:Frag.In [] s.heap:=λa o e=>by cases e
 have e:findCls [] (.type "object") (.type "type") "__new__" =EU (.val (.builtin "object.__new__")):=by
  have z:=Co;split at z
  ·rename_i v hv;rw[hv,beq_iff_eq.mp z]
  ·cases z
 refine cls_open (hook:=none) X (.of_pure s!"k") (.of_pure s!"k") s!"k" (.of_pure s!"k") s!"k" e ?_;exact E0 (handed_on s!"k" h)
end
theorem uC:GY (.type "object")=pure (.type "type"):=s!"k"
theorem uy{l:Option Obj}(h:ncl l=true):∃o,l=EU o∧o.cls≠ .type "tuple" :=by
 cases l with
 |none=>exact absurd h s!"d"
 |some o=>exact af o rfl λe=>by unfold ncl at h;dsimp only at h;rw[e] at h;exact absurd h s!"d"
theorem mQ{X:Xc}(N:Kn X){st:St}{Q:MV->St->Prop}{a b:Addr}(ha:ncl ((KD X.C.w.params N.dv).lookup a)=true)(hb:ncl ((KD X.C.w.params N.dv).lookup b)=true)
 (hq:Q (.k (.bool (!decide (a=b)))) st):W2 X (Fx .IsNot) (.k (.ref a)) (.k (.ref b)) st Q:=λφ s v w I e1 e2=>by
 refine rwl (e1:v= .ref a) ?_;refine rwl (e2:w= .ref b) ?_;by_cases h:a=b
 ·rw[decide_eq_true h] at hq;rw[h];exact wpAny_isNot_ref_self (.mk (aZ ..) I (.refl _) hq)
 ·rw[decide_eq_false h] at hq;refine ad (uy ha) λoa h1 h2=>?_;refine ad (uy hb) λob h3 _=>?_;exact wpAny_isNot_ref_other h (I.kin N _ _ h1) (I.kin N _ _ h3) h2 (.mk (aZ ..) I (.refl _) hq)
variable {C:Cx}
theorem tx(G:Gd C){x:MV}(v:Value):d5 C (dD (aH 16 1) "__new__" "IOBase.__new__" .none v (.str (EW "io") 713) none (.ref 332)) [.k (.ref 840),x] [] ((["cls"]:List Str).zip [.k (.ref 840)]):=λs vs ks old r r' M A E Q hq=>by
 have hv:=r.length;have hk:=r'.length
 obtain ⟨a0,a1,rfl⟩:∃a0 a1,vs=[a0,a1]:=by
  clear r;rcases vs with _|⟨a0,_|⟨a1,_|_⟩⟩<;>simp at hv
  exact (ie2 a0 a1 rfl)
 have e_ks:ks=[]:=FT.mp hk;clear r' hk;subst e_ks
 have e:bindArgs (dD (aH 16 1) "__new__" "IOBase.__new__" .none v (.str (EW "io") 713) none (.ref 332)) ⟨[a0,a1],[]⟩=(do
  let t←newTuple [a1]
  let d←alloc {cls:= .type "dict",data:= .dict #[]}
  pure [("cls",a0),("args",t),("kwargs",.ref d)]):=s!"k"
 show E4 M A (bindArgs _ ⟨[a0,a1],[]⟩) Q E s;rw[e];refine EX (wpAny_newTuple ?_);refine EX (wpAny_alloc ?_);refine E0 (hq _ _ s.toks (λb o e=>Heap.get?_push_of_some _ (Heap.get?_push_of_some _ e)) ?_ ?_)
 ·have:([((("cls" :Str),a0):Str×Value),("args",.ref s.heap.objs.size),("kwargs",.ref (s.heap.push {cls:= .type "tuple",data:= .seq [a1].toArray}).objs.size)].all λx=>(dD (aH 16 1) "__new__" "IOBase.__new__" .none v (.str (EW "io") 713) none (.ref 332)).scope.names.lookup x.1==EU .local)=true:=s!"k"
  intro x hx;simpa using Fn.mp this x hx
 ·refine xa1 r.c λr0 r=>?_;exact PR.cons (v:=a0) s!"k" (by clear r hv e;cases (show a0= .ref 840 from r0);rfl) .nil
noncomputable def bU:List String:=["cls","args","kwargs"]
theorem nN:bU.Nodup:=s!"1"
set_option maxHeartbeats 4000000 in
theorem uX(G:Gd C){A:Fb}{k:Nat}(R:Rm (k+1) A){y:MV}{σ:Sg}:
 CtA C A (.ref 333) [.k (.ref 840),y] [] σ λm σ'=>∃io dio,m= .r io∧σ io=none∧σ dio=none∧io≠dio∧σ'=(σ.put dio (.ns [])).put io (.ins 840 dio):=by
 refine aW G R (a:=333) (c:=332) (x:=aH 16 1) (n:="__new__") (q:="IOBase.__new__") (d:= .none) (pm:=(.str "io" 713)) (an:=none) (t:=768)
  (ps:=(["cls"]:List Str).zip [.k (.ref 840)]) s!"k" s!"k" s!"k" s!"k" [("BytesIO",.ref 593),("StringIO",.ref 840),("object",.type "object")] s!"k" (λv=>tx G v) (ρ:=zL bU [EU (.k (.ref 840)),none,none]) s!"k" λQf hQf X hC O R' hin hg hE=>?_
 subst hC
 have N:=kn G
 have hd:=nN
 have i_cls:gI bU 0=EU "cls" :=rfl
 have i_args:gI bU 1=EU "args" :=rfl
 have i_kwargs:gI bU 2=EU "kwargs" :=rfl
 have g_BytesIO:X.gs.lookup (EW "BytesIO")=EU (.ref 593:Value):=hg▸s!"k"
 have g_StringIO:X.gs.lookup (EW "StringIO")=EU (.ref 840:Value):=hg▸s!"k"
 have g_object:X.gs.lookup (EW "object")=EU (.type "object" :Value):=hg▸s!"k"
 clear hg hE
 conv=>arg 2;whnf
 repeat walk_at "s"
 refine mQ N (pY ..) (Bb ..) ?_
 repeat walk_at "s"
 try refine ift (b:=true) rfl ?_
 repeat walk_at "s"
 refine mQ N (pY ..) (pY ..) ?_
 repeat walk_at "s"
 refine aD s!"d" ?_
 refine ak (ae (aa (bd λφ s I=>?_)))
 refine MethodCall_ ?_ s!"2"
 refine ab (de O g_object (Q:=λm st'=>m= .k (.type "object")∧st'=⟨σ,zL bU [EU (.k (.ref 840)),none,none]⟩) ⟨rfl,rfl⟩ φ s I) λv s₁ pp=>?_
 obtain ⟨m,st₁,r,I₁,k₁,e1,e2⟩:=pp
 subst e1 e2
 cases (show v= .type "object" from r)
 refine iK (prog:=pgm) (w:=X.C.w) (T:="object") uC ?_
 refine CF (prog:=pgm) (w:=X.C.w) ?_
 have I₂:=I₁.toks (s₁.toks+1)
 refine callWith_builtin s!"r" (bt s!"t" (ab (cr (st:=⟨σ,zL bU [EU (.k (.ref 840)),none,none]⟩) (Q:=λms st₁=>ms=[.k (.ref 840)]∧st₁=⟨σ,zL bU [EU (.k (.ref 840)),none,none]⟩) s!"t" ?_ I₂) λvs s₂ ⟨ms,st₂,r₂,I₃,k₂,e1,e2⟩=>?_))
 ·repeat walk_at "s"
  exact ⟨rfl,rfl⟩
 subst e1 e2
 refine fS r₂ ?_
 refine yi (I₃.kin N) ?_
 have fr:∀b,s₂.heap.objs.size≤b->Internal.tot σ φ X.env.locals (zL bU [EU (.k (.ref 840)),none,none]) b=none:=λb hb=>by
  cases e:Internal.tot σ φ X.env.locals (zL bU [EU (.k (.ref 840)),none,none]) b with
  |none=>rfl
  |some m=>exact absurd (E1 (I₃.inv.lt e) hb) (FC _)
 refine xa2 (bB (fr s₂.heap.objs.size (Fe _))) λa1 a2 a3=>?_
 refine xa2 (bB (fr (s₂.heap.objs.size+1) (Nat.le_succ _))) λb1 b2 b3=>?_
 have ne:s₂.heap.objs.size+1≠s₂.heap.objs.size:=Nat.succ_ne_self _
 have old:∀b o,s₂.heap.get? b=EU o->((s₂.heap.push emptyDict).push (instObj 840 s₂.heap.objs.size)).get? b=EU o:=λb o e=>Heap.get?_push_of_some _ (Heap.get?_push_of_some _ e)
 have I₄:=I₃.grow old s₂.toks
 have I₅:=I₄.hide a2 a1 I₃.inv.sz (m:= .ns []) (cy (#[]) 0 (Heap.get?_push_of_some _ (Heap.get?_push_size _ rfl)) rfl)
 have I₆:=I₅.hide b2 b1 (GP I₃.inv.sz) (m:= .ins 840 s₂.heap.objs.size) ⟨by
  have:=Heap.get?_push_size (s₂.heap.push emptyDict) (o:=instObj 840 s₂.heap.objs.size) rfl
  rwa [Heap.size_push] at this,s!"d"⟩
 rw[d8 _ _ _ (E8 ne)] at I₆
 have I₇:=I₆.show_ a2 a1 (by unfold Sg.put;rw[if_neg (E8 ne)];exact a3)
 have I₈:=I₇.show_ (by show (σ.put _ _) _=none;unfold Sg.put;rw[if_neg ne];exact b2) b1 b3
 exact Post.mk (m:= .r (s₂.heap.objs.size+1)) (bO ..) I₈ (k₁.trans (k₂.trans (aB old))) (hQf _ _ (ij _ _ rfl b2 a2 ne rfl))
end
section
open Builtin.ObjectAttr
variable {C:Cx}
noncomputable def bX:List String:=["self","s","newline"]
theorem lS:bX.Nodup:=s!"1"
set_option maxHeartbeats 4000000 in
theorem tH(G:Gd C){A:Fb}{k:Nat}(R:Rm (k+1) A){io dio:Addr}{ns:List (Str×MV)}{x:Str}{σ:Sg}(e1:σ io=EU (.ins 840 dio))(e2:σ dio=EU (.ns ns))(n1:nk ns "_StringIO__newline" =EU (.s "\n")):
 CtA C A (.ref 617) [.r io,.s x] [] σ λm σ'=>m= .s x∧σ'=σ:=by
 refine aW G R (a:=617) (c:=616) (x:=aH 20 2) (n:="__translated") (q:="StringIO.__translated") (d:= .none) (pm:=(.str "io" 713)) (an:=none) (t:=1109)
  (ps:=(["self","s"]:List Str).zip [.r io,.s x]) s!"k" s!"k" s!"k" s!"k" [] s!"k" (λv=>(aX rfl s!"k" s!"1" (bk λa0=>bk λa1=>cK s!"k")).a) (ρ:=zL bX [EU (.r io),EU (.s x),none]) s!"k" λQf hQf X hC O R' hin hg hE=>?_
 subst hC
 have N:=kn G
 have hd:=lS
 have i_self:gI bX 0=EU "self" :=rfl
 have i_s:gI bX 1=EU "s" :=rfl
 have i_newline:gI bX 2=EU "newline" :=rfl
 clear hg hE
 conv=>arg 2;whnf
 have l_self:lk (zL bX [EU (.r io),EU (.s x),none]) "self" =EU (EU (.r io)):=lkI hd i_self rfl
 have l_s:lk (zL bX [EU (.r io),EU (.s x),none]) "s" =EU (EU (.s x)):=lkI hd i_s rfl
 have l_newline:lk (zL bX [EU (.r io),EU (.s x),none]) "newline" =EU (none):=lkI hd i_newline rfl
 generalize zL bX [EU (.r io),EU (.s x),none]=ρ at l_self l_s l_newline⊢
 clear hd i_self i_s i_newline
 repeat walk_at "s"
 exact ⟨rfl,rfl⟩
theorem nV(G:Gd C){io:Addr}{x:Str}(v:Value):d5 C (dD (aH 20 1) "__init__" "StringIO.__init__" (.ref 603) v (.str "io" 713) none (.ref 609)) [.r io,.s x] [] ((["self","initial_value","newline"]:List Str).zip [.r io,.s x,.s "\n"]):=by
 refine f8 (T:=603) (o:=dT [.str "" 1097,.str "\n" 1098]) rfl (G.says.obj s!"k" rfl) rfl λvs ks hv hk=>?_
 obtain ⟨a0,a1,rfl⟩:∃a0 a1,vs=[a0,a1]:=by
  rcases vs with _|⟨a0,_|⟨a1,_|_⟩⟩<;>simp at hv
  exact ⟨a0,a1,rfl⟩
 have e_ks:ks=[]:=FT.mp hk;subst e_ks;refine ⟨_,[("self",a0),("initial_value",a1),("newline",.str "\n" 1098)],s!"2",s!"k",s!"k",λh r q=>?_⟩;obtain ⟨r0,r⟩:=r.c;obtain ⟨r1,r⟩:=r.c;exact .cons (v:=a0) s!"k" r0 (.cons (v:=a1) s!"k" r1 (.cons (v:= .str "\n" 1098) s!"k" (fq ..) .nil))
noncomputable def bE:List String:=["self","initial_value","newline"]
theorem kl:bE.Nodup:=s!"1"
set_option maxHeartbeats 4000000 in
theorem pf(G:Gd C){A:Fb}{k:Nat}(R:Rm (k+2) A){io dio:Addr}{x:Str}{σ:Sg}(e1:σ io=EU (.ins 840 dio))(e2:σ dio=EU (.ns [])):
 CtA C A (.ref 610) [.r io,.s x] [] σ λm σ'=>m= .k .none∧σ'=σ.put dio (.ns (bH x 0)):=by
 refine aW G R (a:=610) (c:=609) (x:=aH 20 1) (n:="__init__") (q:="StringIO.__init__") (d:=(.ref 603)) (pm:=(.str "io" 713)) (an:=none) (t:=1100)
  (ps:=(["self","initial_value","newline"]:List Str).zip [.r io,.s x,.s "\n"]) s!"k" s!"k" s!"k" s!"k" [("type",.type "type"),("str",.type "str")] s!"k" (λv=>nV G v) (ρ:=zL bE [EU (.r io),EU (.s x),EU (.s "\n")]) s!"k" λQf hQf X hC O R' hin hg hE=>?_
 subst hC
 have N:=kn G
 have hd:=kl
 have i_self:gI bE 0=EU "self" :=rfl
 have i_initial_value:gI bE 1=EU "initial_value" :=rfl
 have i_newline:gI bE 2=EU "newline" :=rfl
 have g_type:X.gs.lookup (EW "type")=EU (.type "type" :Value):=hg▸s!"k"
 have g_str:X.gs.lookup (EW "str")=EU (.type "str" :Value):=hg▸s!"k"
 clear hg hE
 conv=>arg 2;whnf
 have l_self:lk (zL bE [EU (.r io),EU (.s x),EU (.s "\n")]) "self" =EU (EU (.r io)):=lkI hd i_self rfl
 have l_initial_value:lk (zL bE [EU (.r io),EU (.s x),EU (.s "\n")]) "initial_value" =EU (EU (.s x)):=lkI hd i_initial_value rfl
 have l_newline:lk (zL bE [EU (.r io),EU (.s x),EU (.s "\n")]) "newline" =EU (EU (.s "\n")):=lkI hd i_newline rfl
 generalize zL bE [EU (.r io),EU (.s x),EU (.s "\n")]=ρ at l_self l_initial_value l_newline⊢
 clear hd i_self i_initial_value i_newline
 have nxd:=aK e1 e2
 repeat walk_at "s"
 refine bQ O g_type trivial ?_
 repeat walk_at "s"
 refine oZ ?_
 repeat walk_at "s"
 refine iM ?_
 repeat walk_at "s"
 refine aD s!"d" ?_
 repeat walk_at "s"
 refine bQ O g_type trivial ?_
 repeat walk_at "s"
 refine oZ ?_
 repeat walk_at "s"
 refine iM ?_
 repeat walk_at "s"
 refine aD s!"d" ?_
 repeat walk_at "s"
 simp only[cE]
 refine bK N s!"2" trivial ?_
 repeat walk_at "s"
 refine dK 617 s!"sg" (Sg.put_same ..) s!"nk" s!"at" s!"me" s!"k" (bu G s!"k") ?_
 repeat walk_at "s"
 refine bx (Ct.mono (CtA.ct (tH G R' s!"sg" (Sg.put_same ..) s!"nk")) ?_)
 intro m σ' zr1;refine xa1 zr1 λz1 z2=>?_;clear zr1;subst z1;subst z2
 repeat walk_at "s"
 simp only[cE]
 refine ⟨by first|rfl|trivial,?_⟩
 exact congrArg (λz=>σ.put dio (.ns z)) s!"k"
theorem B5(P:F1)(dv:Addr->Value)(S:Setting):peek (KD P dv) S (Gq (.ref 840) "__init__")=EU (EU (.ref 610)):=s!"k"
theorem C0(P:F1)(dv:Addr->Value)(S:Setting):peek (KD P dv) S (GI (.ref 840) (.ref 840))=EU true:=s!"k"
theorem CX(P:F1)(dv:Addr->Value):typeIn (KD P dv) (.ref 610)=EU (.type "function"):=s!"k"
theorem qI(G:Gd C){A:Fb}{k:Nat}(R:Rm (k+3) A){x:Str}{σ:Sg}:
 CtA C A (.ref 840) [.s x] [] σ λm σ'=>∃io dio,m= .r io∧σ io=none∧σ dio=none∧io≠dio∧σ'=(σ.put dio (.ns (bH x 0))).put io (.ins 840 dio):=λφ s vs ks I d r r'=>by
 refine xe1 G.says.kd λdv hK=>?_;have KI:(KD C.w.params dv).In s.heap:=hK.keeps I.old;refine qk KI (BE _ _) (j0 (Bt _ _)) ?_;have e_ks:ks=[]:=by have:=r'.length;simpa using this
 clear r';subst e_ks;refine Hm (uX G (R.under 840 _ _) (y:= .s x) (σ:=σ) φ {s with toks:=s.toks+1} (.ref 840::vs) [] (I.toks _) d (.cons (aZ ..) r) (.nil _)) λres s' z=>?_;rcases res with e|(_|_|_|v)<;>first|exact z.elim|skip
 refine fv z λm σ' rv I' d' k' z1=>?_;clear z;refine am z1 λio dio z3 z4=>?_;clear z1;subst z3;obtain ⟨h1,h2,h3,rfl⟩:=z4;cases (show v= .ref io from rv);have KI':(KD C.w.params dv).In s'.heap:=hK.keeps I'.old;have own:joi ((σ.put dio (.ns [])).put io (.ins 840 dio)) φ io=EU (.ins 840 dio):=by show (((σ.put dio (.ns [])).put io (.ins 840 dio)) io).or _=_;rw[Sg.put_same];rfl
 have ho:=(I'.rep io _ own).2.1;have ty:Fv (Fa pgm C.w) s'.heap (GY (.ref io)) (.ref 840):=(Fv.ld ho).andThen .now;refine ⟨ty.andThen (f:=λt=>GI t (.ref 840)) (Fv.of_peek KI' (C0 _ _ ⟨pgm,C.w.params⟩)),?_⟩;have L1:=Fv.of_peek (M:=Fa pgm C.w) KI' (B5 C.w.params dv ⟨pgm,C.w.params⟩);have L2:=bind_fn (M:=Fa pgm C.w) KI' (.ref io) (CX C.w.params dv);refine EX (EX (ty.here (L1.here (wpAny_holding ?_))));refine EX (L2.here (EX ?_));refine fC (Hm (pf G (R.under 840 _ _) (io:=io) (dio:=dio) (x:=x) (Sg.put_same ..) (by rw[Sg.put_ne _ _ (E8 h3),Sg.put_same]) φ s' (.ref io::vs) [] I' d' (.cons (bO ..) (r.keep k')) (.nil _)) λres s₂ z=>?_);rcases res with e|(_|_|_|v)<;>first|exact z.elim|skip
 refine ik z λm σ₂ rv I₂ d₂ k₂ z1 z2=>?_;clear z;subst z1;subst z2;cases (show v= .none from rv);refine E0 ⟨rfl,.r io,_,bO ..,I₂,d₂,k'.trans k₂,io,dio,rfl,h1,h2,h3,?_⟩;rw[d8 _ _ _ h3,cE]
end
section
open Builtin.ObjectAttr
noncomputable def stM:Option Str->MV
 |none=> .k .none
 |some s=> .s s
noncomputable def pcN:Option Addr->List (Str×MV)
 |none=>[]
 |some a=>[("_pushback_chars",.r a)]
noncomputable def shN(io pbk fs:Addr)(W Pc:Str)(pc:Option Addr)(st:MV)(ln:Int)(tok:Str):List (Str×MV):=
 ("instream",.r io)::("infile",.k .none)::("posix",.k (.bool true))::("eof",.k .none)::("commenters",.s "#")::("wordchars",.s W)::("whitespace",.s " \t\r\n")::("whitespace_split",.k (.bool false))::
 ("quotes",.s "'\"")::("escape",.s "\\")::("escapedquotes",.s "\"")::("state",st)::("pushback",.r pbk)::("lineno",.i ln)::("debug",.i 0)::("token",.s tok)::("filestack",.r fs)::("source",.k .none)::("_punctuation_chars",.s Pc)::pcN pc
section
variable {io pbk fs:Addr} {W Pc:Str} {pc:Option Addr} {st m:MV} {ln:Int} {tok:Str}
theorem qS:nk (shN io pbk fs W Pc pc st ln tok) "instream" =EU (.r io):=s!"k"
theorem wY:nk (shN io pbk fs W Pc pc st ln tok) "posix" =EU (.k (.bool true)):=s!"k"
theorem pP:nk (shN io pbk fs W Pc pc st ln tok) "eof" =EU (.k .none):=s!"k"
theorem nQ:nk (shN io pbk fs W Pc pc st ln tok) "commenters" =EU (.s "#"):=s!"k"
theorem ey:nk (shN io pbk fs W Pc pc st ln tok) "wordchars" =EU (.s W):=s!"k"
theorem nP:nk (shN io pbk fs W Pc pc st ln tok) "whitespace" =EU (.s " \t\r\n"):=s!"k"
theorem vc:nk (shN io pbk fs W Pc pc st ln tok) "whitespace_split" =EU (.k (.bool false)):=s!"k"
theorem uq:nk (shN io pbk fs W Pc pc st ln tok) "quotes" =EU (.s "'\""):=s!"k"
theorem ul:nk (shN io pbk fs W Pc pc st ln tok) "escape" =EU (.s "\\"):=s!"k"
theorem sY:nk (shN io pbk fs W Pc pc st ln tok) "escapedquotes" =EU (.s "\""):=s!"k"
theorem wo:nk (shN io pbk fs W Pc pc st ln tok) "state" =EU st:=s!"k"
theorem rI:nk (shN io pbk fs W Pc pc st ln tok) "pushback" =EU (.r pbk):=s!"k"
theorem t5:nk (shN io pbk fs W Pc pc st ln tok) "lineno" =EU (.i ln):=s!"k"
theorem pW:nk (shN io pbk fs W Pc pc st ln tok) "debug" =EU (.i 0):=s!"k"
theorem v4:nk (shN io pbk fs W Pc pc st ln tok) "token" =EU (.s tok):=s!"k"
theorem qz:nk (shN io pbk fs W Pc pc st ln tok) "filestack" =EU (.r fs):=s!"k"
theorem vg:nk (shN io pbk fs W Pc pc st ln tok) "source" =EU (.k .none):=s!"k"
theorem zT:nk (shN io pbk fs W Pc pc st ln tok) "_punctuation_chars" =EU (.s Pc):=s!"k"
theorem AJ{a:Addr}:nk (shN io pbk fs W Pc (EU a) st ln tok) "_pushback_chars" =EU (.r a):=s!"k"
theorem pN:aN (shN io pbk fs W Pc pc st ln tok) "state" m=shN io pbk fs W Pc pc m ln tok:=by cases pc<;>kernel_rfl
theorem oA{n:Int}:aN (shN io pbk fs W Pc pc st ln tok) "lineno" (.i n)=shN io pbk fs W Pc pc st n tok:=by cases pc<;>kernel_rfl
theorem qG{t:Str}:aN (shN io pbk fs W Pc pc st ln tok) "token" (.s t)=shN io pbk fs W Pc pc st ln t:=by cases pc<;>kernel_rfl
theorem gE:(shN io pbk fs W Pc pc st ln tok).length<30:=by cases pc<;>exact Fp s!"k"
end
structure LX (σ:Sg) (sx dsx io dio pbk fs:Addr) (W Pc:Str) (pc:Option Addr) (buf:Str) (st:Option Str) (tok:Str) (pos:Nat) (pb:Option Str):Prop where
 i:σ sx=EU (.ins 975 dsx)
 n:∃ln,σ dsx=EU (.ns (shN io pbk fs W Pc pc (stM st) ln tok))
 ii:σ io=EU (.ins 840 dio)
 ni:σ dio=EU (.ns (bH buf pos))
 p:σ pbk=EU (dqO none)
 f:σ fs=EU (dqO none)
 c:∀a,pc=EU a->σ a=EU (dqO pb)∧a≠pbk∧a≠fs
 cn:pc=none->pb=none
 hp:(Pc.length !=0)=pc.isSome
theorem eg{σ:Sg}{dsx dio io pbk fs:Addr}{W Pc:Str}{pc:Option Addr}{st:MV}{ln:Int}{tok buf:Str}{pos:Nat}(h1:σ dsx=EU (.ns (shN io pbk fs W Pc pc st ln tok)))(h2:σ dio=EU (.ns (bH buf pos))):dsx≠dio:=λe=>by
 subst e;rw[h1] at h2;have:=congrArg (λm:Option MO=>match m with|some (.ns l)=>l.length|_=>0) h2;clear h1 h2;cases pc<;>simp[shN,pcN,bH] at this
theorem bI{σ:Sg}{a b:Addr}{l:List (Str×MV)}{x:Option Str}(h1:σ a=EU (.ns l))(h2:σ b=EU (dqO x)):a≠b:=λe=>by subst e;rw[h1] at h2;cases h2
theorem m4{σ:Sg}{a b c d:Addr}{x:Option Str}(h1:σ a=EU (.ins c d))(h2:σ b=EU (dqO x)):a≠b:=λe=>by subst e;rw[h1] at h2;cases h2
theorem yb(P:F1)(dv:Addr->Value):(dk (KD P dv) 975&&findIn (KD P dv) (.ref 975) "punctuation_chars" ==EU (EU (.ref 907))&&specialIn (KD P dv) (.ref 907) "__get__" ==EU (EU (.builtin "property.__get__"))&&takesIn (KD P dv) (.ref 907)==EU true&&
 recIn (KD P dv) 907 "property" ==EU [.ref 906,.none,.none,.none,.str "punctuation_chars" 1464,.bool false])=true:=s!"k"
variable {C:Cx}
noncomputable def dC:List String:=["self"]
theorem mt:dC.Nodup:=s!"1"
set_option maxHeartbeats 4000000 in
theorem sR(G:Gd C){A:Fb}{k:Nat}(R:Rm (k+1) A){sx dsx:Addr}{ns:List (Str×MV)}{Pc:Str}{σ:Sg}(e1:σ sx=EU (.ins 975 dsx))(e2:σ dsx=EU (.ns ns))(n1:nk ns "_punctuation_chars" =EU (.s Pc)):
 CtA C A (.ref 906) [.r sx] [] σ λm σ'=>m= .s Pc∧σ'=σ:=by
 refine aW G R (a:=906) (c:=905) (x:=aH 29 2) (n:="punctuation_chars") (q:="shlex.punctuation_chars") (d:= .none) (pm:=(.str "cpy313.shlex" 1428)) (an:=none) (t:=1458)
  (ps:=(["self"]:List Str).zip [.r sx]) s!"k" s!"k" s!"k" s!"k" [] s!"k" (λv=>(aX rfl s!"k" s!"1" (bk λa0=>cK s!"k")).a) (ρ:=zL dC [EU (.r sx)]) s!"k" λQf hQf X hC O R' hin hg hE=>?_
 subst hC
 have N:=kn G
 have hd:=mt
 have i_self:gI dC 0=EU "self" :=rfl
 clear hg hE
 conv=>arg 2;whnf
 have l_self:lk (zL dC [EU (.r sx)]) "self" =EU (EU (.r sx)):=lkI hd i_self rfl
 generalize zL dC [EU (.r sx)]=ρ at l_self⊢
 clear hd i_self
 repeat walk_at "s"
 exact ⟨rfl,rfl⟩
theorem zo{X:Xc}(G:Gd X.C)(N:Kn X){k:Nat}(R:Rm (k+2) X.A){sx dsx:Addr}{ns:List (Str×MV)}{Pc:Str}{σ:Sg}{ρ:Lo}{Q:MV->St->Prop}(e1:σ sx=EU (.ins 975 dsx))(e2:σ dsx=EU (.ns ns))(n1:nk ns "_punctuation_chars" =EU (.s Pc))(hq:Q (.s Pc) ⟨σ,ρ⟩):AtR X (.r sx) "punctuation_chars" ⟨σ,ρ⟩ Q:=by
 have c:=yb X.C.w.params N.dv;simp only[Fd,beq_iff_eq] at c;obtain ⟨⟨⟨⟨c1,c2⟩,c3⟩,c4⟩,c5⟩:=c;exact yO N e1 e2 c1 c2 c3 c4 c5 (CtA.mono (sR G R.in1 e1 e2 n1) λm σ' h=>by clear e1 e2;obtain ⟨rfl,rfl⟩:=h;exact ⟨trivial,hq⟩)
end
section
open Builtin.ObjectAttr
structure LS where
 st:Option Str
 tok:Str
 pos:Nat
 pb:Option Str
 q:Bool
 esc:Str
structure LP where
 sx:Addr
 dsx:Addr
 io:Addr
 dio:Addr
 pbk:Addr
 fs:Addr
 W:Str
 Pc:Str
 pc:Option Addr
 buf:Str
 σ0:Sg
 hb:buf.length<1000
structure LJ (L:LP) (u:Option MV) (ls:LS) (st:St):Prop where
 x:LX st.σ L.sx L.dsx L.io L.dio L.pbk L.fs L.W L.Pc L.pc L.buf ls.st ls.tok ls.pos ls.pb
 fr:∀b m,b≠L.dsx->b≠L.dio->(∀a,L.pc=EU a->b≠a)->L.σ0 b=EU m->st.σ b=EU m
 self:lk st.ρ "self" =EU (EU (.r L.sx))
 qu:lk st.ρ "quoted" =EU (EU (.k (.bool ls.q)))
 es:lk st.ρ "escapedstate" =EU (EU (.s ls.esc))
 nc:lk st.ρ "nextchar" =EU u
 re:∃v,lk st.ρ "result" =EU v
variable {L:LP} {u:Option MV} {ls:LS} {σ:Sg} {ρ:Lo} {X:Xc}
theorem LJ.nxd(h:LJ L u ls ⟨σ,ρ⟩):L.sx≠L.dsx:=by obtain ⟨ln,hn⟩:=h.x.n;exact aK h.x.i hn
section
variable {Q:MV->St->Prop}
theorem fB(O:XOk X)(h:LJ L u ls ⟨σ,ρ⟩){pos}(hq:Q (.r L.sx) ⟨σ,ρ⟩):WE X (.Name "self" pos) ⟨σ,ρ⟩ Q:=ai O h.self hq
theorem rQu(O:XOk X)(h:LJ L u ls ⟨σ,ρ⟩){pos}(hq:Q (.k (.bool ls.q)) ⟨σ,ρ⟩):WE X (.Name "quoted" pos) ⟨σ,ρ⟩ Q:=ai O h.qu hq
theorem rEs(O:XOk X)(h:LJ L u ls ⟨σ,ρ⟩){pos}(hq:Q (.s ls.esc) ⟨σ,ρ⟩):WE X (.Name "escapedstate" pos) ⟨σ,ρ⟩ Q:=ai O h.es hq
theorem rNc(O:XOk X){c:Str}(h:LJ L (EU (.s c)) ls ⟨σ,ρ⟩){pos}(hq:Q (.s c) ⟨σ,ρ⟩):WE X (.Name "nextchar" pos) ⟨σ,ρ⟩ Q:=ai O h.nc hq
theorem rAt(N:Kn X)(h:LJ L u ls ⟨σ,ρ⟩){name:Str}{m:MV}(hn:∀ln,nk (shN L.io L.pbk L.fs L.W L.Pc L.pc (stM ls.st) ln ls.tok) name=EU m)(hc:kz.contains name=true)(hm:m.out)(hq:Q m ⟨σ,ρ⟩):AtR X (.r L.sx) name ⟨σ,ρ⟩ Q:=by
 obtain ⟨ln,e⟩:=h.x.n;exact o3 N h.x.i e (hn ln) (eH _ _) hc hm hq
theorem zK(N:Kn X)(h:LJ L u ls ⟨σ,ρ⟩)(hq:Q (.k (.bool true)) ⟨σ,ρ⟩):AtR X (.r L.sx) "posix" ⟨σ,ρ⟩ Q:=rAt N h (λ_=>wY) s!"k" rfl hq
theorem C6(N:Kn X)(h:LJ L u ls ⟨σ,ρ⟩)(hq:Q (.s "#") ⟨σ,ρ⟩):AtR X (.r L.sx) "commenters" ⟨σ,ρ⟩ Q:=rAt N h (λ_=>nQ) s!"k" trivial hq
theorem Ck(N:Kn X)(h:LJ L u ls ⟨σ,ρ⟩)(hq:Q (.s L.W) ⟨σ,ρ⟩):AtR X (.r L.sx) "wordchars" ⟨σ,ρ⟩ Q:=rAt N h (λ_=>ey) s!"k" trivial hq
theorem rWs(N:Kn X)(h:LJ L u ls ⟨σ,ρ⟩)(hq:Q (.s " \t\r\n") ⟨σ,ρ⟩):AtR X (.r L.sx) "whitespace" ⟨σ,ρ⟩ Q:=rAt N h (λ_=>nP) s!"k" trivial hq
theorem EE(N:Kn X)(h:LJ L u ls ⟨σ,ρ⟩)(hq:Q (.k (.bool false)) ⟨σ,ρ⟩):AtR X (.r L.sx) "whitespace_split" ⟨σ,ρ⟩ Q:=rAt N h (λ_=>vc) s!"k" rfl hq
theorem Ek (N:Kn X) (h:LJ L u ls ⟨σ,ρ⟩) (hq:Q (.s "'\"") ⟨σ,ρ⟩):AtR X (.r L.sx) "quotes" ⟨σ,ρ⟩ Q:=rAt N h (λ_=>uq) s!"k" trivial hq
theorem EK(N:Kn X)(h:LJ L u ls ⟨σ,ρ⟩)(hq:Q (.s "\\") ⟨σ,ρ⟩):AtR X (.r L.sx) "escape" ⟨σ,ρ⟩ Q:=rAt N h (λ_=>ul) s!"k" trivial hq
theorem rEq (N:Kn X) (h:LJ L u ls ⟨σ,ρ⟩) (hq:Q (.s "\"") ⟨σ,ρ⟩):AtR X (.r L.sx) "escapedquotes" ⟨σ,ρ⟩ Q:=rAt N h (λ_=>sY) s!"k" trivial hq
theorem va(N:Kn X)(h:LJ L u ls ⟨σ,ρ⟩){m:MV}(hm:stM ls.st=m)(hq:Q m ⟨σ,ρ⟩):AtR X (.r L.sx) "state" ⟨σ,ρ⟩ Q:=by
 subst hm;exact rAt N h (λ_=>wo) s!"k" (by cases ls.st<;>first|rfl|exact trivial) hq
theorem tY(N:Kn X)(h:LJ L u ls ⟨σ,ρ⟩)(hq:Q (.i 0) ⟨σ,ρ⟩):AtR X (.r L.sx) "debug" ⟨σ,ρ⟩ Q:=rAt N h (λ_=>pW) s!"k" trivial hq
theorem ED(N:Kn X)(h:LJ L u ls ⟨σ,ρ⟩)(hq:Q (.s ls.tok) ⟨σ,ρ⟩):AtR X (.r L.sx) "token" ⟨σ,ρ⟩ Q:=rAt N h (λ_=>v4) s!"k" trivial hq
theorem rIn(N:Kn X)(h:LJ L u ls ⟨σ,ρ⟩)(hq:Q (.r L.io) ⟨σ,ρ⟩):AtR X (.r L.sx) "instream" ⟨σ,ρ⟩ Q:=rAt (m:= .r L.io) N h (λ_=>qS) s!"k" trivial hq
theorem rPc(G:Gd X.C)(N:Kn X){k:Nat}(R:Rm (k+2) X.A)(h:LJ L u ls ⟨σ,ρ⟩)(hq:Q (.s L.Pc) ⟨σ,ρ⟩):AtR X (.r L.sx) "punctuation_chars" ⟨σ,ρ⟩ Q:=by
 obtain ⟨ln,e⟩:=h.x.n;exact zo G N R h.x.i e zT hq
theorem rLn(N:Kn X)(h:LJ L u ls ⟨σ,ρ⟩)(hq:∀ln,Q (.i ln) ⟨σ,ρ⟩):AtR X (.r L.sx) "lineno" ⟨σ,ρ⟩ Q:=by
 obtain ⟨ln,e⟩:=h.x.n;exact o3 N h.x.i e t5 (eH _ _) s!"k" trivial (hq ln)
theorem rPb(N:Kn X){a:Addr}(ha:L.pc=EU a)(h:LJ L u ls ⟨σ,ρ⟩)(hq:Q (.r a) ⟨σ,ρ⟩):AtR X (.r L.sx) "_pushback_chars" ⟨σ,ρ⟩ Q:=rAt (m:= .r a) N h (λ_=>by rw[ha];exact AJ) s!"k" trivial hq
end
theorem LJ.put(h:LJ L u ls ⟨σ,ρ⟩)(s:Option Str)(ln:Int)(t:Str):LJ L u ⟨s,t,ls.pos,ls.pb,ls.q,ls.esc⟩ ⟨σ.put L.dsx (.ns (shN L.io L.pbk L.fs L.W L.Pc L.pc (stM s) ln t)),ρ⟩:=by
 obtain ⟨x,fr,a,b,c,d,e⟩:=h;refine xe1 x.n λln0 hn=>?_
 refine ⟨⟨(Sg.put_ne _ _ (aK x.i hn)).trans x.i,⟨ln,Sg.put_same ..⟩,(Sg.put_ne _ _ (aK x.ii hn)).trans x.ii,(Sg.put_ne _ _ (E8 (eg hn x.ni))).trans x.ni,(Sg.put_ne _ _ (E8 (bI hn x.p))).trans x.p,(Sg.put_ne _ _ (E8 (bI hn x.f))).trans x.f,
  λa ha=>⟨(Sg.put_ne _ _ (E8 (bI hn (x.c a ha).1))).trans (x.c a ha).1,(x.c a ha).2⟩,x.cn,x.hp⟩,λb' m h1 h2 h3 hb=>(Sg.put_ne _ _ h1).trans (fr b' m h1 h2 h3 hb),a,b,c,d,e⟩
theorem LJ.putIo(h:LJ L u ls ⟨σ,ρ⟩)(p:Nat):LJ L u ⟨ls.st,ls.tok,p,ls.pb,ls.q,ls.esc⟩ ⟨σ.put L.dio (.ns (bH L.buf p)),ρ⟩:=by
 obtain ⟨x,fr,a,b,c,d,e⟩:=h;refine xe1 x.n λln0 hn=>?_
 refine ⟨⟨(Sg.put_ne _ _ (aK x.i x.ni)).trans x.i,⟨ln0,(Sg.put_ne _ _ (eg hn x.ni)).trans hn⟩,(Sg.put_ne _ _ (aK x.ii x.ni)).trans x.ii,Sg.put_same ..,(Sg.put_ne _ _ (E8 (bI x.ni x.p))).trans x.p,(Sg.put_ne _ _ (E8 (bI x.ni x.f))).trans x.f,
  λa ha=>⟨(Sg.put_ne _ _ (E8 (bI x.ni (x.c a ha).1))).trans (x.c a ha).1,(x.c a ha).2⟩,x.cn,x.hp⟩,λb' m h1 h2 h3 hb=>(Sg.put_ne _ _ h2).trans (fr b' m h1 h2 h3 hb),a,b,c,d,e⟩
theorem LJ.putPb(h:LJ L u ls ⟨σ,ρ⟩){a:Addr}(ha:L.pc=EU a)(x':Option Str):LJ L u ⟨ls.st,ls.tok,ls.pos,x',ls.q,ls.esc⟩ ⟨σ.put a (dqO x'),ρ⟩:=by
 obtain ⟨x,fr,a1,b,c,d,e⟩:=h;refine xe1 x.n λln0 hn=>?_;refine xa2 (x.c a ha) λc1 c2 c3=>?_
 refine ⟨⟨(Sg.put_ne _ _ (m4 x.i c1)).trans x.i,⟨ln0,(Sg.put_ne _ _ (bI hn c1)).trans hn⟩,(Sg.put_ne _ _ (m4 x.ii c1)).trans x.ii,(Sg.put_ne _ _ (bI x.ni c1)).trans x.ni,(Sg.put_ne _ _ (E8 c2)).trans x.p,(Sg.put_ne _ _ (E8 c3)).trans x.f,
  λa' ha'=>by rw[ha] at ha';cases ha';exact (ia2 (Sg.put_same ..) c2 c3),(λhn=>by rw[ha] at hn;cases hn),x.hp⟩,λb' m h1 h2 h3 hb=>(Sg.put_ne _ _ (h3 a ha)).trans (fr b' m h1 h2 h3 hb),a1,b,c,d,e⟩
section
variable {QU:St->Prop}
theorem vq(N:Kn X)(h:LJ L u ls ⟨σ,ρ⟩){m:MV}(s:Option Str)(hm:m=stM s)(hq:∀σ',LJ L u ⟨s,ls.tok,ls.pos,ls.pb,ls.q,ls.esc⟩ ⟨σ',ρ⟩->QU ⟨σ',ρ⟩):dL X N (.r L.sx) "state" m ⟨σ,ρ⟩ QU:=by
 subst hm;refine xe1 h.x.n λln e=>?_;refine pn h.x.i e (eH _ _) s!"k" (Fs gE s!"d") ?_;rw[pN];exact hq _ (h.put s ln ls.tok)
theorem Dv(N:Kn X)(h:LJ L u ls ⟨σ,ρ⟩){t:Str}(hq:∀σ',LJ L u ⟨ls.st,t,ls.pos,ls.pb,ls.q,ls.esc⟩ ⟨σ',ρ⟩->QU ⟨σ',ρ⟩):dL X N (.r L.sx) "token" (.s t) ⟨σ,ρ⟩ QU:=by
 refine xe1 h.x.n λln e=>?_;refine pn h.x.i e (eH _ _) s!"k" (Fs gE s!"d") ?_;rw[qG];exact hq _ (h.put ls.st ln t)
theorem wLn(N:Kn X)(h:LJ L u ls ⟨σ,ρ⟩){n:Int}(hq:∀σ',LJ L u ls ⟨σ',ρ⟩->QU ⟨σ',ρ⟩):dL X N (.r L.sx) "lineno" (.i n) ⟨σ,ρ⟩ QU:=by
 refine xe1 h.x.n λln e=>?_;refine pn h.x.i e (eH _ _) s!"k" (Fs gE s!"d") ?_;rw[oA];exact hq _ (h.put ls.st n ls.tok)
theorem Dw{N:Kn X}(h:LJ L u ls ⟨σ,ρ⟩){name:Str}{P:Addr->Addr->Addr->Prop}(hn:kz.contains name=true)(hq:P L.sx 975 L.dsx):lQ X N (.r L.sx) name ⟨σ,ρ⟩ P:=z8 h.x.i (eH _ _) hn hq
theorem wQu(O:XOk X)(h:LJ L u ls ⟨σ,ρ⟩){pos}{b:Bool}(hq:∀ρ',LJ L u ⟨ls.st,ls.tok,ls.pos,ls.pb,b,ls.esc⟩ ⟨σ,ρ'⟩->QU ⟨σ,ρ'⟩):WA X (.Name "quoted" pos) (.k (.bool b)) ⟨σ,ρ⟩ QU:=by
 refine aJ O h.qu (hq _ ?_);obtain ⟨x,fr,a,b,c,d,e,he⟩:=h;exact ⟨x,fr,s!"lk",s!"lk",s!"lk",s!"lk",e,s!"lk"⟩
theorem wEs(O:XOk X)(h:LJ L u ls ⟨σ,ρ⟩){pos}{t:Str}(hq:∀ρ',LJ L u ⟨ls.st,ls.tok,ls.pos,ls.pb,ls.q,t⟩ ⟨σ,ρ'⟩->QU ⟨σ,ρ'⟩):WA X (.Name "escapedstate" pos) (.s t) ⟨σ,ρ⟩ QU:=by
 refine aJ O h.es (hq _ ?_);obtain ⟨x,fr,a,b,c,d,e,he⟩:=h;exact ⟨x,fr,s!"lk",s!"lk",s!"lk",s!"lk",e,s!"lk"⟩
theorem wNc(O:XOk X)(h:LJ L u ls ⟨σ,ρ⟩){pos}{m:MV}(hq:∀ρ',LJ L (EU m) ls ⟨σ,ρ'⟩->QU ⟨σ,ρ'⟩):WA X (.Name "nextchar" pos) m ⟨σ,ρ⟩ QU:=by
 refine aJ O h.nc (hq _ ?_);obtain ⟨x,fr,a,b,c,d,e,he⟩:=h;exact ⟨x,fr,s!"lk",s!"lk",s!"lk",s!"lk",e,s!"lk"⟩
end
theorem ite_both{b:Bool}{A B HA HB:Prop}(H:if b=true then HA else HB)(h1:b=true->HA->A)(h2:b=false->HB->B):if b=true then A else B:=by
 cases b with
 |true=>rw[if_pos rfl] at H⊢;exact h1 rfl H
 |false=>rw[if_neg s!"d"] at H⊢;exact h2 rfl H
theorem Ae{b:Bool}{A B:Prop}(h1:A)(h2:B):if b=true then A else B:=by
 cases b with
 |true=>exact ifT rfl h1
 |false=>exact ifF s!"d" h2
theorem CR{st:St}{Q:MV->St->Prop}{x a b:Str}(h:Q (.k (.bool (([a,b]:List Str).any (·==x)))) st):W2 X (Fx .In) (.s x) (.t (.type "tuple") [.s a,.s b]) st Q:=C7 (xs:=[a,b]) h
noncomputable def b8(Kg Ks:LS->Prop)(ls:LS):Prop:=if (ls.tok.length !=0)=true then Ks ls else if ls.q=true then Ks ls else Kg ls
noncomputable def tSp(W Pc buf:Str)(Kg Ks:LS->Prop)(c:Str)(ls:LS):Prop:=
 if (!(c.length !=0))=true then Ks ⟨none,ls.tok,ls.pos,ls.pb,ls.q,ls.esc⟩
 else if Fc " \t\r\n" c=true then b8 Kg Ks ls
 else if Fc "#" c=true then Kg ⟨ls.st,ls.tok,rdl buf ls.pos,ls.pb,ls.q,ls.esc⟩
 else if Fc "\\" c=true then Kg ⟨EU c,ls.tok,ls.pos,ls.pb,ls.q,"a"⟩
 else if Fc W c=true then Kg ⟨EU "a",c,ls.pos,ls.pb,ls.q,ls.esc⟩
 else if Fc Pc c=true then Kg ⟨EU "c",c,ls.pos,ls.pb,ls.q,ls.esc⟩
 else if Fc "'\"" c=true then Kg ⟨EU c,ls.tok,ls.pos,ls.pb,ls.q,ls.esc⟩
 else b8 Kg Ks ⟨ls.st,c,ls.pos,ls.pb,ls.q,ls.esc⟩
noncomputable def tQu(Kg:LS->Prop)(c s:Str)(ls:LS):Prop:=
 if (!(c.length !=0))=true then False
 else if (c==s)=true then Kg ⟨EU "a",ls.tok,ls.pos,ls.pb,true,ls.esc⟩
 else if Fc "\\" c=true then
  if Fc "\"" s=true then Kg ⟨EU c,ls.tok,ls.pos,ls.pb,true,s⟩
  else Kg ⟨ls.st,ls.tok++c,ls.pos,ls.pb,true,ls.esc⟩
 else Kg ⟨ls.st,ls.tok++c,ls.pos,ls.pb,true,ls.esc⟩
noncomputable def tEs(Kg:LS->Prop)(c s:Str)(ls:LS):Prop:=
 if (!(c.length !=0))=true then False
 else if Fc "'\"" ls.esc=true then
  if (c !=s)=true then
   if (c !=ls.esc)=true then Kg ⟨EU ls.esc,ls.tok++s++c,ls.pos,ls.pb,ls.q,ls.esc⟩
   else Kg ⟨EU ls.esc,ls.tok++c,ls.pos,ls.pb,ls.q,ls.esc⟩
  else Kg ⟨EU ls.esc,ls.tok++c,ls.pos,ls.pb,ls.q,ls.esc⟩
 else Kg ⟨EU ls.esc,ls.tok++c,ls.pos,ls.pb,ls.q,ls.esc⟩
noncomputable def tWd(W Pc buf:Str)(Kg Ks:LS->Prop)(c s:Str)(ls:LS):Prop:=
 if (!(c.length !=0))=true then Ks ⟨none,ls.tok,ls.pos,ls.pb,ls.q,ls.esc⟩
 else if Fc " \t\r\n" c=true then b8 Kg Ks ⟨EU " ",ls.tok,ls.pos,ls.pb,ls.q,ls.esc⟩
 else if Fc "#" c=true then b8 Kg Ks ⟨EU " ",ls.tok,rdl buf ls.pos,ls.pb,ls.q,ls.esc⟩
 else if (s=="c")=true then
  if Fc Pc c=true then Kg ⟨ls.st,ls.tok++c,ls.pos,ls.pb,ls.q,ls.esc⟩
  else (ls.pb=none∧(Pc.length !=0)=true∧Ks ⟨EU " ",ls.tok,ls.pos,EU c,ls.q,ls.esc⟩)
 else if Fc "'\"" c=true then Kg ⟨EU c,ls.tok,ls.pos,ls.pb,ls.q,ls.esc⟩
 else if Fc "\\" c=true then Kg ⟨EU c,ls.tok,ls.pos,ls.pb,ls.q,"a"⟩
 else if Fc W c=true then Kg ⟨ls.st,ls.tok++c,ls.pos,ls.pb,ls.q,ls.esc⟩
 else if (Pc.length !=0)=true then (ls.pb=none∧(Pc.length !=0)=true∧b8 Kg Ks ⟨EU " ",ls.tok,ls.pos,EU c,ls.q,ls.esc⟩)
 else False
noncomputable def az(W Pc buf:Str)(Kg Ks:LS->Prop)(c:Str)(ls:LS):Prop:=match ls.st with
 |none=>Ks ⟨none,"",ls.pos,ls.pb,ls.q,ls.esc⟩
 |some s=>
  if (s==" ")=true then tSp W Pc buf Kg Ks c ls
  else if Fc "'\"" s=true then tQu Kg c s ls
  else if Fc "\\" s=true then tEs Kg c s ls
  else if (([("a" :Str),"c"]:List Str).any (·==s))=true then tWd W Pc buf Kg Ks c s ls
  else False
noncomputable def okS(ls:LS):Prop:=ls.tok.length≤500∧(∀c,ls.pb=EU c->c.length≤500)∧(∀s,ls.st=EU s->s.length≤500)∧ls.esc.length≤500
noncomputable def oQ(W Pc buf:Str)(Kg Ks:LS->Prop)(ls:LS):Prop:=okS ls∧
 if (Pc.length !=0)=true then
  match ls.pb with
  |some c=>az W Pc buf Kg Ks c ⟨ls.st,ls.tok,ls.pos,none,ls.q,ls.esc⟩
  |none=>az W Pc buf Kg Ks (rd1 buf ls.pos).1 ⟨ls.st,ls.tok,(rd1 buf ls.pos).2,ls.pb,ls.q,ls.esc⟩
 else az W Pc buf Kg Ks (rd1 buf ls.pos).1 ⟨ls.st,ls.tok,(rd1 buf ls.pos).2,ls.pb,ls.q,ls.esc⟩
noncomputable def ig(W Pc buf:Str)(Ks:LS->Prop):Nat->LS->Prop
 |0,_=>False
 |n+1,ls=>oQ W Pc buf (ig W Pc buf Ks n) Ks ls
end
section
open Builtin.ObjectAttr
section
variable {L:LP} {u:Option MV} {σ:Sg} {ρ:Lo} {X:Xc} {s t e c:Str} {st b:Option Str} {p:Nat} {q:Bool} {Q:MV->St->Prop} {QU:St->Prop}
theorem DH(O:XOk X)(h:LJ L u ⟨st,t,p,b,q,e⟩ ⟨σ,ρ⟩){pos}(hq:Q (.k (.bool q)) ⟨σ,ρ⟩):WE X (.Name "quoted" pos) ⟨σ,ρ⟩ Q:=rQu O h hq
theorem Eg(O:XOk X)(h:LJ L u ⟨st,t,p,b,q,e⟩ ⟨σ,ρ⟩){pos}(hq:Q (.s e) ⟨σ,ρ⟩):WE X (.Name "escapedstate" pos) ⟨σ,ρ⟩ Q:=rEs O h hq
theorem rSs(N:Kn X)(h:LJ L u ⟨EU s,t,p,b,q,e⟩ ⟨σ,ρ⟩)(hq:Q (.s s) ⟨σ,ρ⟩):AtR X (.r L.sx) "state" ⟨σ,ρ⟩ Q:=va N h rfl hq
theorem rSn(N:Kn X)(h:LJ L u ⟨none,t,p,b,q,e⟩ ⟨σ,ρ⟩)(hq:Q (.k .none) ⟨σ,ρ⟩):AtR X (.r L.sx) "state" ⟨σ,ρ⟩ Q:=va N h rfl hq
theorem rTk(N:Kn X)(h:LJ L u ⟨st,t,p,b,q,e⟩ ⟨σ,ρ⟩)(hq:Q (.s t) ⟨σ,ρ⟩):AtR X (.r L.sx) "token" ⟨σ,ρ⟩ Q:=ED N h hq
theorem wSs(N:Kn X)(h:LJ L u ⟨st,t,p,b,q,e⟩ ⟨σ,ρ⟩)(hq:∀σ',LJ L u ⟨EU c,t,p,b,q,e⟩ ⟨σ',ρ⟩->QU ⟨σ',ρ⟩):dL X N (.r L.sx) "state" (.s c) ⟨σ,ρ⟩ QU:=vq N h (EU c) rfl hq
theorem wSn(N:Kn X)(h:LJ L u ⟨st,t,p,b,q,e⟩ ⟨σ,ρ⟩)(hq:∀σ',LJ L u ⟨none,t,p,b,q,e⟩ ⟨σ',ρ⟩->QU ⟨σ',ρ⟩):dL X N (.r L.sx) "state" (.k .none) ⟨σ,ρ⟩ QU:=vq N h none rfl hq
theorem wTk(N:Kn X)(h:LJ L u ⟨st,t,p,b,q,e⟩ ⟨σ,ρ⟩)(hq:∀σ',LJ L u ⟨st,c,p,b,q,e⟩ ⟨σ',ρ⟩->QU ⟨σ',ρ⟩):dL X N (.r L.sx) "token" (.s c) ⟨σ,ρ⟩ QU:=Dv N h hq
theorem Ew(O:XOk X)(h:LJ L u ⟨st,t,p,b,q,e⟩ ⟨σ,ρ⟩){pos}{q':Bool}(hq:∀ρ',LJ L u ⟨st,t,p,b,q',e⟩ ⟨σ,ρ'⟩->QU ⟨σ,ρ'⟩):WA X (.Name "quoted" pos) (.k (.bool q')) ⟨σ,ρ⟩ QU:=wQu O h hq
theorem Do(O:XOk X)(h:LJ L u ⟨st,t,p,b,q,e⟩ ⟨σ,ρ⟩){pos}{e':Str}(hq:∀ρ',LJ L u ⟨st,t,p,b,q,e'⟩ ⟨σ,ρ'⟩->QU ⟨σ,ρ'⟩):WA X (.Name "escapedstate" pos) (.s e') ⟨σ,ρ⟩ QU:=wEs O h hq
theorem mIo(G:Gd X.C)(N:Kn X)(h:LJ L u ⟨st,t,p,b,q,e⟩ ⟨σ,ρ⟩){name:Str}{f:Addr}{es:List Fw}(h1:name≠ "_StringIO__newline")(h2:name≠ "_StringIO__buf")(h3:name≠ "_StringIO__pos")(hn:Ax.contains (name,f)=true)(hf:∃ob fd,X.C.h0.get? f=EU ob∧ob.data= .func fd)
 (hq:WEs X es ⟨σ,ρ⟩ λms st₂=>WC X (.ref f) (.r L.io::ms) st₂ Q):lC X N (.r L.io) name es ⟨σ,ρ⟩ Q:=
 dK f h.x.ii h.x.ni (ib h1 h2 h3) (Ar _ _) (BV _ _) hn hf hq
theorem B6(G:Gd X.C){k:Nat}(R:Rm (k+2) X.A)(h:LJ L u ⟨st,t,p,b,q,e⟩ ⟨σ,ρ⟩)(hq:∀σ',LJ L u ⟨st,t,(rd1 L.buf p).2,b,q,e⟩ ⟨σ',ρ⟩->Q (.s (rd1 L.buf p).1) ⟨σ',ρ⟩):WC X (.ref 786) [.r L.io,.i 1] ⟨σ,ρ⟩ Q:=by
 refine bx (Ct.mono (CtA.ct (pX G R h.x.ii h.x.ni L.hb)) ?_);rintro m σ' ⟨rfl,rfl⟩;exact hq _ (h.putIo _)
theorem uv(G:Gd X.C){k:Nat}(R:Rm (k+2) X.A)(h:LJ L u ⟨st,t,p,b,q,e⟩ ⟨σ,ρ⟩)(hq:∀σ' x,LJ L u ⟨st,t,rdl L.buf p,b,q,e⟩ ⟨σ',ρ⟩->Q (.s x) ⟨σ',ρ⟩):WC X (.ref 794) [.r L.io] ⟨σ,ρ⟩ Q:=by
 refine bx (Ct.mono (CtA.ct (kq G R h.x.ii h.x.ni L.hb)) ?_);rintro m σ' ⟨⟨x,rfl⟩,rfl⟩;exact hq _ _ (h.putIo _)
theorem nJ(G:Gd X.C)(O:XOk X)(N:Kn X)(hin:GF X.env=false){k:Nat}(R:Rm (k+2) X.A)(h:LJ L u ⟨st,t,p,b,q,e⟩ ⟨σ,ρ⟩){p1 p2 p3 p4 p5:Pos}{pl:Sem Bool}{QF:Fl->St->Prop}
 (hs:swapsWith (.Call (.Attribute (.Attribute (.Name "self" p1) "instream" p2) "readline" p3) [] [] p4) none p5.line X.env=pure false)
 (he:eval (.Call (.Attribute (.Attribute (.Name "self" p1) "instream" p2) "readline" p3) [] [] p4) X.env=(do
  let ov←eval (.Attribute (.Name "self" p1) "instream" p2) X.env
  standAt p3.atName
  let (f,first)←holding [ov] (getMethod ov "readline" pl)
  callWith p4 f first (backTo p4 (Hl [] X.env)) []))
 (hb:F7 (.Name "self" p1) "instream" X.env (eval (.Name "self" p1) X.env)=eval (.Name "self" p1) X.env)
 (hq:∀σ',LJ L u ⟨st,t,rdl L.buf p,b,q,e⟩ ⟨σ',ρ⟩->QF .next ⟨σ',ρ⟩):WS1 X (.Expr (.Call (.Attribute (.Attribute (.Name "self" p1) "instream" p2) "readline" p3) [] [] p4) p5) ⟨σ,ρ⟩ QF:=
 aA hin hs (bK N he trivial (bh hb (fB O h (rIn N h (mIo (f:=794) G N h (bV (Eq.refl false)) (bV (Eq.refl false)) (bV (Eq.refl false)) s!"k" (bu G s!"k")
  (ag (uv G R h λσ' x h'=>⟨trivial,hq σ' h'⟩)))))))
theorem yR(O:XOk X)(N:Kn X)(hin:GF X.env=false)(h:LJ L (EU (.s c)) ⟨st,t,p,b,q,e⟩ ⟨σ,ρ⟩)(hb0:b=none)(hp:(L.Pc.length !=0)=true){p1 p2 p3 p4 p5 p6:Pos}{QF:Fl->St->Prop}
 (hs:swapsWith (.Call (.Attribute (.Attribute (.Name "self" p1) "_pushback_chars" p2) "append" p3) [.Name "nextchar" p6] [] p4) none p5.line X.env=pure false)
 (hb2:F7 (.Attribute (.Name "self" p1) "_pushback_chars" p2) "append" X.env (eval (.Attribute (.Name "self" p1) "_pushback_chars" p2) X.env)=eval (.Attribute (.Name "self" p1) "_pushback_chars" p2) X.env)
 (hl:(p3.endLine==p4.line)=true)
 (hb:F7 (.Name "self" p1) "_pushback_chars" X.env (eval (.Name "self" p1) X.env)=eval (.Name "self" p1) X.env)
 (hq:∀σ',LJ L (EU (.s c)) ⟨st,t,p,EU c,q,e⟩ ⟨σ',ρ⟩->QF .next ⟨σ',ρ⟩):WS1 X (.Expr (.Call (.Attribute (.Attribute (.Name "self" p1) "_pushback_chars" p2) "append" p3) [.Name "nextchar" p6] [] p4) p5) ⟨σ,ρ⟩ QF:=by
 subst hb0;have z:=h.x.hp;rw[hp] at z;refine xe1 (Option.isSome_iff_exists.mp z.symm) λa ha=>?_;have e1:=(h.x.c a ha).1;refine aA hin hs (bp (T:="collections.deque") (id:="collections.deque.append") trivial hb2 s!"4" hl fO gS l9 (bh hb (fB O h (rPb N ha h ⟨ss e1,?_⟩))));refine ac (rNc O h (ag (sP (st:=⟨_,_⟩) e1 ⟨trivial,hq _ ?_⟩)));exact h.putPb ha (EU c)
end
noncomputable def T2Q(Kg Ks:LS->Prop)(L:LP):Fl->St->Prop
 | .next,st=>∃ls',Kg ls'∧∃u,LJ L u ls' st
 | .cont,st=>∃ls',Kg ls'∧∃u,LJ L u ls' st
 | .brk,st=>∃ls',Ks ls'∧∃u,LJ L u ls' st
 | .ret _,_=>False
theorem oK{Kg Ks:LS->Prop}{L:LP}{u:Option MV}{ls:LS}{st:St}(H:Kg ls)(h:LJ L u ls st):T2Q Kg Ks L .next st:=(dc _ H _ h)
theorem oD{Kg Ks:LS->Prop}{L:LP}{u:Option MV}{ls:LS}{st:St}(H:Kg ls)(h:LJ L u ls st):T2Q Kg Ks L .cont st:=(dc _ H _ h)
theorem lO{Kg Ks:LS->Prop}{L:LP}{u:Option MV}{ls:LS}{st:St}(H:Ks ls)(h:LJ L u ls st):T2Q Kg Ks L .brk st:=(dc _ H _ h)
local macro_rules | `(tactic|specialize $s:str)=>wk wC s
noncomputable def ifP:Stmt->List Stmt×List Stmt
 | .If _ b e _=>(b,e)
 | .While _ b e _=>(b,e)
 |_=>([],[])
noncomputable def rtB:List Stmt:=(ifP ((cu (aH 29 7)).getD 2 (.Pass mr))).1
noncomputable def elS(s:Stmt):Stmt:=(ifP s).2.getD 0 (.Pass mr)
noncomputable def ifB(s:Stmt):List Stmt:=(ifP s).1
noncomputable def chS:Stmt:=rtB.getD 3 (.Pass mr)
section
variable {X:Xc} {L:LP} {Kg Ks:LS->Prop} {st:Option Str} {s tok:Str} {pos:Nat} {pb:Option Str} {q:Bool} {esc c:Str} {σ:Sg} {ρ:Lo} {QF:Fl->St->Prop}
theorem qw(O:XOk X)(N:Kn X){u:Option MV}{ls:LS}(h:LJ L u ls ⟨σ,ρ⟩){p1 p2 p3 p4 p5:Pos}{k:Nat}{n:Int}{body rest:List Stmt}(hb:F7 (.Name "self" p1) "debug" X.env (eval (.Name "self" p1) X.env)=eval (.Name "self" p1) X.env)(hn:decide (n≤0)=false)
 (hq:WS X rest ⟨σ,ρ⟩ QF):WS X (.If (.Compare (.Attribute (.Name "self" p1) "debug" p2) [.GtE] [.Constant (.int n) k p4] p3) body [] p5::rest) ⟨σ,ρ⟩ QF:=
 aa (bl (aC rfl (bh hb (fB O h (tY N h (aq (sH (ay (aD hn (ak (ae hq)))))))))))
theorem qD(O:XOk X)(N:Kn X)(h:LJ L (EU (.s c)) ⟨st,tok,pos,pb,q,esc⟩ ⟨σ,ρ⟩)(z:tok.length+c.length≤sizeLine){p1 p2 p3 p4:Pos}{rest:List Stmt}
 (hq:∀σ',LJ L (EU (.s c)) ⟨st,tok++c,pos,pb,q,esc⟩ ⟨σ',ρ⟩->WS X rest ⟨σ',ρ⟩ QF):WS X (.AugAssign (.Attribute (.Name "self" p1) "token" p2) .Add (.Name "nextchar" p3) p4::rest) ⟨σ,ρ⟩ QF:=by
 repeat' first
  |walk_at "s"
  |with_reducible refine gP z ?_
 exact hq _ s!"a"
theorem vf(O:XOk X)(N:Kn X)(h:LJ L (EU (.s c)) ⟨st,tok,pos,pb,q,esc⟩ ⟨σ,ρ⟩)(ok1:tok.length≤1001){p1 p2 p3 p4 p5 p6 p7 p8 p9 p10:Pos}{rest:List Stmt}(H:b8 Kg Ks ⟨st,tok,pos,pb,q,esc⟩)(hB:Ks ⟨st,tok,pos,pb,q,esc⟩->QF .brk ⟨σ,ρ⟩)(hC:Kg ⟨st,tok,pos,pb,q,esc⟩->QF .cont ⟨σ,ρ⟩):
 WS X (.If (.BoolOp .Or [.Attribute (.Name "self" p1) "token" p2,.BoolOp .And [.Attribute (.Name "self" p3) "posix" p4,.Name "quoted" p5] p6] p7) [.Break p8] [.Continue p9] p10::rest) ⟨σ,ρ⟩ QF:=by
 unfold b8 at H;dsimp only at H;repeat' first
  |walk_at "s"
  |walk_at "br"
  |exact hB s!"a"
  |exact hC s!"a"
theorem sQ{a b n m:Nat}(ha:a≤n)(hb:b≤m)(h:Nat.ble (n+m) 16777216=true):a+b≤sizeLine:=by rw[sizeLine_eq];exact EY (GB ha hb) (Fp h)
set_option maxHeartbeats 4000000 in
theorem B9(G:Gd X.C)(O:XOk X)(N:Kn X)(hin:GF X.env=false){k:Nat}(R:Rm (k+2) X.A)(h:LJ L (EU (.s c)) ⟨EU s,tok,pos,pb,q,esc⟩ ⟨σ,ρ⟩)(ok1:tok.length≤1001)(ok2:c.length≤1001)
 (H:tSp L.W L.Pc L.buf Kg Ks c ⟨EU s,tok,pos,pb,q,esc⟩) (hQ:∀fl st,T2Q Kg Ks L fl st->QF fl st):WS X (ifB (elS chS)) ⟨σ,ρ⟩ QF:=by
 conv=>arg 2;whnf
 unfold tSp at H;dsimp only at H;repeat' first
  |((with_reducible refine qw O N s!"a" s!"r" s!"d" ?_))
  |((with_reducible refine vf O N s!"a" s!"A" s!"a" ?_ ?_)<;>intro _)
  |walk_at "s"
  |walk_at "br"
  |with_reducible exact hQ _ _ (oK s!"a" s!"a")
  |with_reducible exact hQ _ _ (oD s!"a" s!"a")
  |with_reducible exact hQ _ _ (lO s!"a" s!"a")
  |with_reducible refine nJ G O N hin R s!"a" s!"r" s!"r" s!"r" λ_ _=>?_
set_option maxHeartbeats 4000000 in
theorem CI(G:Gd X.C)(O:XOk X)(N:Kn X)(hin:GF X.env=false){k:Nat}(R:Rm (k+2) X.A)(h:LJ L (EU (.s c)) ⟨EU s,tok,pos,pb,q,esc⟩ ⟨σ,ρ⟩)(ok1:tok.length≤1001)(ok2:c.length≤1001)(ok5:L.Pc.length≤500)
 (H:tWd L.W L.Pc L.buf Kg Ks c s ⟨EU s,tok,pos,pb,q,esc⟩) (hQ:∀fl st,T2Q Kg Ks L fl st->QF fl st):WS X (ifB (elS (elS (elS (elS chS))))) ⟨σ,ρ⟩ QF:=by
 conv=>arg 2;whnf
 unfold tWd at H;dsimp only at H;repeat' first
  |((with_reducible refine qw O N s!"a" s!"r" s!"d" ?_))
  |((with_reducible refine vf O N s!"a" s!"A" s!"a" ?_ ?_)<;>intro _)
  |((with_reducible refine qD O N s!"a" (sQ s!"A" s!"A" s!"r") ?_);intro _ _)
  |walk_at "s"
  |walk_at "br"
  |with_reducible exact hQ _ _ (oK s!"a" s!"a")
  |with_reducible exact hQ _ _ (oD s!"a" s!"a")
  |with_reducible exact hQ _ _ (lO s!"a" s!"a")
  |with_reducible refine nJ G O N hin R s!"a" s!"r" s!"r" s!"r" λ_ _=>?_
  |((rename pb=none∧(L.Pc.length !=0)=true∧_=>HA);(refine xa2 HA λhn hp H'=>?_;clear HA);with_reducible refine yR O N hin s!"a" hn hp s!"r" s!"r" s!"r" s!"r" λ_ _=>?_)
set_option maxHeartbeats 4000000 in
theorem Cs(G:Gd X.C)(O:XOk X)(N:Kn X)(hin:GF X.env=false){k:Nat}(R:Rm (k+2) X.A)(h:LJ L (EU (.s c)) ⟨EU s,tok,pos,pb,q,esc⟩ ⟨σ,ρ⟩)(ok1:tok.length≤1001)(ok2:c.length≤1001)
 (H:tQu Kg c s ⟨EU s,tok,pos,pb,q,esc⟩) (hQ:∀fl st,T2Q Kg Ks L fl st->QF fl st):WS X (ifB (elS (elS chS))) ⟨σ,ρ⟩ QF:=by
 conv=>arg 2;whnf
 unfold tQu at H;dsimp only at H;repeat' first
  |((with_reducible refine qD O N s!"a" (sQ s!"A" s!"A" s!"r") ?_);intro _ _)
  |walk_at "s"
  |walk_at "br"
  |with_reducible exact hQ _ _ (oK s!"a" s!"a")
  |with_reducible exact hQ _ _ (oD s!"a" s!"a")
  |with_reducible exact hQ _ _ (lO s!"a" s!"a")
set_option maxHeartbeats 4000000 in
theorem B8(G:Gd X.C)(O:XOk X)(N:Kn X)(hin:GF X.env=false){k:Nat}(R:Rm (k+2) X.A)(h:LJ L (EU (.s c)) ⟨EU s,tok,pos,pb,q,esc⟩ ⟨σ,ρ⟩)(ok1:tok.length≤1001)(ok2:c.length≤1001)(ok3:esc.length≤500)(ok4:s.length≤500)
 (H:tEs Kg c s ⟨EU s,tok,pos,pb,q,esc⟩) (hQ:∀fl st,T2Q Kg Ks L fl st->QF fl st):WS X (ifB (elS (elS (elS chS)))) ⟨σ,ρ⟩ QF:=by
 conv=>arg 2;whnf
 unfold tEs at H;dsimp only at H;repeat' first
  |((with_reducible refine qD O N s!"a" (sQ s!"A" s!"A" s!"r") ?_);intro _ _)
  |walk_at "s"
  |walk_at "br"
  |with_reducible exact hQ _ _ (oK s!"a" s!"a")
  |with_reducible exact hQ _ _ (oD s!"a" s!"a")
  |with_reducible exact hQ _ _ (lO s!"a" s!"a")
end
theorem iq{X:Xc}{Q:Fl->St->Prop}{fl:Fl}{st:St}(h:Q fl st):fo X [] Q fl st:=by
 cases fl<;>first|exact h|exact ak h
set_option maxHeartbeats 8000000 in
theorem xn{X:Xc}(G:Gd X.C)(O:XOk X)(N:Kn X)(hin:GF X.env=false){k:Nat}(R:Rm (k+2) X.A){L:LP}{Kg Ks:LS->Prop}{st:Option Str}{tok:Str}{pos:Nat}{pb:Option Str}{q:Bool}{esc c:Str}{σ:Sg}{ρ:Lo}
 (h:LJ L (EU (.s c)) ⟨st,tok,pos,pb,q,esc⟩ ⟨σ,ρ⟩) (ok1:tok.length≤500) (ok2:c.length≤1001) (ok3:esc.length≤500) (ok4:∀s,st=EU s->s.length≤500) (ok5:L.Pc.length≤500) (H:az L.W L.Pc L.buf Kg Ks c ⟨st,tok,pos,pb,q,esc⟩):
 WS X (rtB.drop 1) ⟨σ,ρ⟩ (T2Q Kg Ks L):=by
 conv=>arg 2;whnf
 have ok1':tok.length≤1001:=EY ok1 s!"d"
 refine dG (Q1:=λfl st'=>fl= .next∧∃σ',st'=⟨σ',ρ⟩∧LJ L (EU (.s c)) ⟨st,tok,pos,pb,q,esc⟩ ⟨σ',ρ⟩) ?_ ?_
 ·refine bl ?_
  repeat walk_at "s"
  refine Ae ?_ ?_
  ·repeat walk_at "s"
   exact (gR rfl _ rfl s!"A")
  ·repeat walk_at "s"
   exact (gR rfl _ rfl h)
 ·intro fl st' zr1;refine b7 zr1 λz2=>?_;clear zr1;obtain ⟨σ',rfl,h'⟩:=z2
  clear h
  refine ae (qw O N h' s!"r" s!"d" ?_)
  cases st with
  |none=>
   have H':Ks ⟨none,"",pos,pb,q,esc⟩:=H
   repeat walk_at "s"
   exact lO H' s!"a"
  |some s=>
   have ok4':=ok4 s rfl
   unfold az at H
   dsimp only at H
   repeat' first
    |((have H1:tSp L.W L.Pc L.buf Kg Ks c ⟨EU s,tok,pos,pb,q,esc⟩:=s!"a");exact B9 G O N hin R h' ok1' ok2 H1 λ_ _ h=>by repeat' first|exact h|refine iq ?_)
    |((have H1:tQu Kg c s ⟨EU s,tok,pos,pb,q,esc⟩:=s!"a");exact Cs G O N hin R h' ok1' ok2 H1 λ_ _ h=>by repeat' first|exact h|refine iq ?_)
    |((have H1:tEs Kg c s ⟨EU s,tok,pos,pb,q,esc⟩:=s!"a");exact B8 G O N hin R h' ok1' ok2 ok3 ok4' H1 λ_ _ h=>by repeat' first|exact h|refine iq ?_)
    |((have H1:tWd L.W L.Pc L.buf Kg Ks c s ⟨EU s,tok,pos,pb,q,esc⟩:=s!"a");exact CI G O N hin R h' ok1' ok2 ok5 H1 λ_ _ h=>by repeat' first|exact h|refine iq ?_)
    |walk_at "s"
    |walk_at "br"
open Builtin.ObjectAttr
theorem yl{X:Xc}{x:List Stmt}{st:St}{Q Q':Fl->St->Prop}(h:WS X x st Q')(k:∀fl st',Q' fl st'->Q fl st'):WS X x st Q:=λφ s I=>
 ab (h φ s I) λf s' ⟨fl,st',a,b,c,d⟩=>⟨fl,st',a,b,c,k _ _ d⟩
theorem wRe{X:Xc}(O:XOk X){L:LP}{u:Option MV}{ls:LS}{σ:Sg}{ρ:Lo}(h:LJ L u ls ⟨σ,ρ⟩){pos}{m:MV}{QU:St->Prop}(hq:∀ρ',LJ L u ls ⟨σ,ρ'⟩->lk ρ' "result" =EU (EU m)->QU ⟨σ,ρ'⟩):WA X (.Name "result" pos) m ⟨σ,ρ⟩ QU:=by
 obtain ⟨v,hv⟩:=h.re;refine aJ O hv (hq _ ?_ (cD hv));obtain ⟨x,fr,a,b,c,d,e,he⟩:=h;exact ⟨x,fr,s!"lk",s!"lk",s!"lk",s!"lk",⟨_,s!"lk"⟩⟩
theorem Bz:(" " :Str).length=1:=s!"d"
theorem Af:("" :Str).length=0:=s!"d"
theorem si{L:LP}(p:Nat):(rd1 L.buf p).1.length≤1001:=by
 have hb:=L.hb;generalize L.buf=buf at hb;unfold rd1;by_cases h:p<buf.length
 ·rw[if_pos h];have e1:=dQ (cut buf (EU (p:Int)) (EU ((p:Int)+1))++ " ") none (EU (-1));have e2:=dQ buf (EU (p:Int)) (EU ((p:Int)+1));rw[str_length_append,Bz] at e1;generalize (cut (cut buf (EU (p:Int)) (EU ((p:Int)+1))++ " ") none (EU (-1)))=x at e1;dsimp only;exact EY e1 (FH (EY e2 (Fu hb)))
 ·rw[if_neg h];dsimp only;rw[Af];decide
theorem xT{X:Xc}(G:Gd X.C)(O:XOk X)(N:Kn X){k:Nat}(R:Rm (k+2) X.A){L:LP}{u:Option MV}{ls:LS}{σ:Sg}{ρ:Lo}(h:LJ L u ls ⟨σ,ρ⟩){p1 p2 p3 p4 p5 p6 p7:Pos}{QF:Fl->St->Prop}
 (hs:swapsWithSole [.Name "nextchar" p5] (.Call (.Attribute (.Attribute (.Name "self" p1) "instream" p2) "read" p3) [.Constant (.int 1) 0 p6] [] p4) p7.line X.env=pure false)
 (hw:Ht [.Name "nextchar" p5] (.Call (.Attribute (.Attribute (.Name "self" p1) "instream" p2) "read" p3) [.Constant (.int 1) 0 p6] [] p4) X.env=pure none)
 {pl:Sem Bool} (he:eval (.Call (.Attribute (.Attribute (.Name "self" p1) "instream" p2) "read" p3) [.Constant (.int 1) 0 p6] [] p4) X.env=(do
  let ov←eval (.Attribute (.Name "self" p1) "instream" p2) X.env
  standAt p3.atName
  let (f,first)←holding [ov] (getMethod ov "read" pl)
  callWith p4 f first (backTo p4 (Hl [.Constant (.int 1) 0 p6] X.env)) []))
 (hb:F7 (.Name "self" p1) "instream" X.env (eval (.Name "self" p1) X.env)=eval (.Name "self" p1) X.env)
 (hq:∀σ' ρ',LJ L (EU (.s (rd1 L.buf ls.pos).1)) ⟨ls.st,ls.tok,(rd1 L.buf ls.pos).2,ls.pb,ls.q,ls.esc⟩ ⟨σ',ρ'⟩->QF .next ⟨σ',ρ'⟩):
 WS1 X (.Assign [.Name "nextchar" p5] (.Call (.Attribute (.Attribute (.Name "self" p1) "instream" p2) "read" p3) [.Constant (.int 1) 0 p6] [] p4) p7) ⟨σ,ρ⟩ QF:=
 ah hs hw trivial (bK N he trivial (bh hb (fB O h (rIn N h (mIo (f:=786) G N h (bV (Eq.refl false)) (bV (Eq.refl false)) (bV (Eq.refl false)) s!"k" (bu G s!"k")
  (ac (aq (ag (B6 G R h λσ' h'=>wNc O h' λρ' h''=>hq σ' ρ' h'')))))))))
theorem EI{X:Xc}(O:XOk X)(N:Kn X){L:LP}{u:Option MV}{ls:LS}{σ:Sg}{ρ:Lo}{a:Addr}{c:Str}(ha:L.pc=EU a)(hc:ls.pb=EU c)(h:LJ L u ls ⟨σ,ρ⟩){p1 p2 p3 p4 p5 p7:Pos}{QF:Fl->St->Prop}
 (hs:swapsWithSole [.Name "nextchar" p5] (.Call (.Attribute (.Attribute (.Name "self" p1) "_pushback_chars" p2) "pop" p3) [] [] p4) p7.line X.env=pure false)
 (hw:Ht [.Name "nextchar" p5] (.Call (.Attribute (.Attribute (.Name "self" p1) "_pushback_chars" p2) "pop" p3) [] [] p4) X.env=pure none)
 (hb2:F7 (.Attribute (.Name "self" p1) "_pushback_chars" p2) "pop" X.env (eval (.Attribute (.Name "self" p1) "_pushback_chars" p2) X.env)=eval (.Attribute (.Name "self" p1) "_pushback_chars" p2) X.env)
 (hl:(p3.endLine==p4.line)=true)
 (hb:F7 (.Name "self" p1) "_pushback_chars" X.env (eval (.Name "self" p1) X.env)=eval (.Name "self" p1) X.env)
 (hq:∀σ' ρ',LJ L (EU (.s c)) ⟨ls.st,ls.tok,ls.pos,none,ls.q,ls.esc⟩ ⟨σ',ρ'⟩->QF .next ⟨σ',ρ'⟩):
 WS1 X (.Assign [.Name "nextchar" p5] (.Call (.Attribute (.Attribute (.Name "self" p1) "_pushback_chars" p2) "pop" p3) [] [] p4) p7) ⟨σ,ρ⟩ QF:=by
 have e1:=(h.x.c a ha).1;rw[hc] at e1;refine ah hs hw trivial (bp (T:="collections.deque") (id:="collections.deque.pop") trivial hb2 s!"4" hl fO jU rG (bh hb (fB O h (rPb N ha h ⟨ss e1,?_⟩))));exact ag (x5 (st:=⟨_,_⟩) e1 (wNc O (h.putPb ha none) λρ' h'=>hq _ ρ' h'))
theorem y7{X:Xc}(G:Gd X.C)(O:XOk X)(N:Kn X){k:Nat}(R:Rm (k+2) X.A){L:LP}{u:Option MV}{Kg Ks:LS->Prop}{st:Option Str}{tok:Str}{pos:Nat}{pb:Option Str}{q:Bool}{esc:Str}{σ:Sg}{ρ:Lo}
 (h:LJ L u ⟨st,tok,pos,pb,q,esc⟩ ⟨σ,ρ⟩) (hPl:L.Pc.length≤500) (H:oQ L.W L.Pc L.buf Kg Ks ⟨st,tok,pos,pb,q,esc⟩):
 WS1 X (match cu (aH 29 7) with|_::_::Stmt.While _ (b::_) _ _::_=>b|_=> .Pass default) ⟨σ,ρ⟩ λfl st'=>fl= .next∧∃c pos' pb' σ' ρ',st'=⟨σ',ρ'⟩∧LJ L (EU (.s c)) ⟨st,tok,pos',pb',q,esc⟩ ⟨σ',ρ'⟩∧az L.W L.Pc L.buf Kg Ks c ⟨st,tok,pos',pb',q,esc⟩∧c.length≤1001:=by
 conv=>arg 2;whnf
 refine xa1 H λok H=>?_;refine bl (bW (bZ s!"r" (bh s!"r" (fB O h (rPc G N R h (oN (E3 hPl s!"d") ?_))))))
 cases hP:(L.Pc.length !=0) with
 |false=>
  rw[if_neg (by rw[hP];decide)] at H;refine aD rfl (aD rfl (aa (xT G O N R h s!"r" s!"r" s!"r" s!"r" λσ' ρ' h'=>ae (ak (jo rfl _ _ ⟨_,_,_,rfl,h',H,si _⟩)))))
 |true=>
  rw[if_pos hP] at H;have z:=h.x.hp;rw[hP] at z;refine xe1 (Option.isSome_iff_exists.mp z.symm) λa ha=>?_;have e1:=(h.x.c a ha).1;refine ift rfl (bW (bZ s!"r" (bh s!"r" (fB O h (rPb N ha h (wS e1 ?_))))))
  cases pb with
  |none=>
   refine aD rfl (aD rfl (aa (xT G O N R h s!"r" s!"r" s!"r" s!"r" λσ' ρ' h'=>ae (ak (jo rfl _ _ ⟨_,_,_,rfl,h',H,si _⟩)))))
  |some c=>
   refine ift rfl (g8 (ift rfl (aa (EI O N ha rfl h s!"r" s!"r" s!"r" s!"r" s!"r" λσ' ρ' h'=>ae (ak (jo rfl _ _ ⟨_,_,_,rfl,h',H,EY (ok.2.1 c rfl) s!"d"⟩))))))
noncomputable def cw(ls:LS):MV:=if (!ls.q)=true then (if (ls.tok=="")=true then .k .none else .s ls.tok) else .s ls.tok
theorem uT{st:Option Str}{t:Str}{p:Nat}{b:Option Str}{e:Str}(h:(t=="")=true):cw ⟨st,t,p,b,false,e⟩= .k .none:=by
 show (if (t=="")=true then MV.k .none else MV.s t)=_;rw[if_pos h]
theorem zu{st:Option Str}{t:Str}{p:Nat}{b:Option Str}{e:Str}(h:(t=="")=false):cw ⟨st,t,p,b,false,e⟩= .s t:=by
 show (if (t=="")=true then MV.k .none else MV.s t)=_;rw[if_neg (by rw[h];decide)]
variable {C:Cx}
noncomputable def aO:List String:=["self","quoted","escapedstate","nextchar","result"]
theorem iO:aO.Nodup:=s!"1"
set_option maxHeartbeats 4000000 in
theorem lZ(G:Gd C){A:Fb}{k:Nat}(R:Rm (k+3) A){L:LP}{Ks:LS->Prop}{n:Nat}{st:Option Str}{tok:Str}{pos:Nat}{pb:Option Str}{σ:Sg}(hσ:L.σ0=σ)(hx:LX σ L.sx L.dsx L.io L.dio L.pbk L.fs L.W L.Pc L.pc L.buf st tok pos pb)(hP:L.Pc.length≤500)(HR:ig L.W L.Pc L.buf Ks n ⟨st,tok,pos,pb,false," "⟩):
 CtA C A (.ref 943) [.r L.sx] [] σ λm σ'=>∃ls',Ks ls'∧m=cw ls'∧LX σ' L.sx L.dsx L.io L.dio L.pbk L.fs L.W L.Pc L.pc L.buf ls'.st "" ls'.pos ls'.pb∧∀b m,b≠L.dsx->b≠L.dio->(∀a,L.pc=EU a->b≠a)->σ b=EU m->σ' b=EU m:=by
 refine aW G R (a:=943) (c:=942) (x:=aH 29 7) (n:="read_token") (q:="shlex.read_token") (d:= .none) (pm:=(.str "cpy313.shlex" 1428)) (an:=none) (t:=1505)
  (ps:=(["self"]:List Str).zip [.r L.sx]) s!"k" s!"k" s!"k" s!"k" [] s!"k" (λv=>(aX rfl s!"k" s!"1" (bk λa0=>cK s!"k")).a) (ρ:=zL aO [EU (.r L.sx),none,none,none,none]) s!"k" λQf hQf X hC O R' hin hg hE=>?_
 subst hC
 have N:=kn G
 have hd:=iO
 have i_self:gI aO 0=EU "self" :=rfl
 have i_quoted:gI aO 1=EU "quoted" :=rfl
 have i_escapedstate:gI aO 2=EU "escapedstate" :=rfl
 have i_nextchar:gI aO 3=EU "nextchar" :=rfl
 have i_result:gI aO 4=EU "result" :=rfl
 clear hg hE
 conv=>arg 2;whnf
 have l_self:lk (zL aO [EU (.r L.sx),none,none,none,none]) "self" =EU (EU (.r L.sx)):=lkI hd i_self rfl
 have l_quoted:lk (zL aO [EU (.r L.sx),none,none,none,none]) "quoted" =EU (none):=lkI hd i_quoted rfl
 have l_escapedstate:lk (zL aO [EU (.r L.sx),none,none,none,none]) "escapedstate" =EU (none):=lkI hd i_escapedstate rfl
 have l_nextchar:lk (zL aO [EU (.r L.sx),none,none,none,none]) "nextchar" =EU (none):=lkI hd i_nextchar rfl
 have l_result:lk (zL aO [EU (.r L.sx),none,none,none,none]) "result" =EU (none):=lkI hd i_result rfl
 generalize zL aO [EU (.r L.sx),none,none,none,none]=ρ at l_self l_quoted l_escapedstate l_nextchar l_result⊢
 clear hd i_self i_quoted i_escapedstate i_nextchar i_result
 subst hσ
 walk_at "s";walk_at "s";walk_at "s";walk_at "s";walk_at "s"
 walk_at "s";walk_at "s";walk_at "s";walk_at "s";walk_at "s"
 have h0:LJ L none ⟨st,tok,pos,pb,false," "⟩ ⟨L.σ0,stL (stL ρ "quoted" (.k (.bool false))) "escapedstate" (.s " ")⟩:=
  ⟨hx,λb m _ _ _ hb=>hb,s!"lk",s!"lk",s!"lk",s!"lk",⟨_,s!"lk"⟩⟩
 refine dG (Q1:=λfl st'=>fl= .next∧∃ls',Ks ls'∧∃u,LJ L u ls' st') ?_ ?_
 ·refine dg (λn st=>∃ls,ig L.W L.Pc L.buf Ks n ls∧∃u,LJ L u ls st) ?_ n (dc _ HR _ h0)
  intro J hJ n zr1 zr2;obtain ⟨σ,ρ⟩:=zr1;refine ad zr2 λls Hn z1=>?_;clear zr2;obtain ⟨u,h⟩:=z1
  refine bZ s!"r" (eJ (ay ?_))
  refine ift rfl ?_
  cases n with
  |zero=>exact Hn.elim
  |succ n=>
   obtain ⟨st,tok,pos,pb,q,esc⟩:=ls
   have ok:okS ⟨st,tok,pos,pb,q,esc⟩:=Hn.1
   refine dG (y7 G O N R' h hP Hn) ?_
   intro fl st' zr1;refine b7 zr1 λz2=>?_;clear zr1;obtain ⟨c,pos',pb',σ',ρ',rfl,h',H',hc⟩:=z2
   refine ae ?_
   refine yl (xn G O N hin R' h' ok.1 hc ok.2.2.2 ok.2.2.1 hP H') ?_
   intro fl st'' ht
   cases fl with
   |next=>refine ad ht λls' a b=>?_;clear ht;exact (af n (G9 n) (hJ _ _ ⟨ls',a,b⟩))
   |cont=>refine ad ht λls' a b=>?_;clear ht;exact (af n (G9 n) (hJ _ _ ⟨ls',a,b⟩))
   |brk=>refine ad ht λls' a b=>?_;clear ht;exact (gR rfl ls' a b)
   |ret v=>exact ht.elim
 ·intro fl zr1 zr2;obtain ⟨σ',ρ'⟩:=zr1;refine b7 zr2 λz2=>?_;clear zr2;obtain ⟨⟨st',tok',pos',pb',q',esc'⟩,HK,u,h⟩:=z2
  refine ae ?_
  refine aa (ah s!"r" s!"r" trivial (bh s!"r" (fB O h (rTk N h (wRe O h λρ1 h1 r1=>ae ?_)))))
  clear h
  repeat walk_at "s"
  cases hq:q' with
  |true=>
   refine aD rfl ?_
   subst hq
   repeat walk_at "s"
   exact (cI _ HK rfl (LJ.x s!"a":_) (LJ.fr s!"a"))
  |false=>
   refine ift rfl ?_
   subst hq
   repeat walk_at "s"
   cases ht:(tok'=="") with
   |false=>
    refine aD rfl ?_
    repeat walk_at "s"
    exact (cI _ HK ((zu ht).symm) (LJ.x s!"a":_) (LJ.fr s!"a"))
   |true=>
    refine ift rfl ?_
    walk_at "s";walk_at "s";walk_at "s";walk_at "s";walk_at "s"
    rename_i h2
    refine wRe O h2 λρ2 h3 r3=>?_
    clear r1 h1 h2
    repeat walk_at "s"
    exact (cI _ HK ((uT ht).symm) (LJ.x s!"a":_) (LJ.fr s!"a"))
end
section
open Builtin.ObjectAttr
theorem yG{X:Xc}{x:Str}{st:St}{Q:MV->St->Prop}(h:Q (.k (.bool false)) st):W2 X (Fx .Eq) (.s x) (.k .none) st Q:=λφ s v w I ⟨t,e1⟩ e2=>by
 cases (show w= .none from e2);subst e1;exact PySem.EqNone.eq_str_none (.mk (aZ ..) I (.refl _) h)
theorem yB{X:Xc}{st:St}{Q:MV->St->Prop}(h:Q (.k (.bool true)) st):W2 X (Fx .Eq) (.k .none) (.k .none) st Q:=λφ s v w I e1 e2=>by
 cases (show w= .none from e2);cases (show v= .none from e1);exact PySem.EqNone.eq_none_none (.mk (aZ ..) I (.refl _) h)
theorem rSx{X:Xc}(N:Kn X){σ:Sg}{ρ:Lo}{sx dsx io dio pbk fs:Addr}{W Pc:Str}{pc:Option Addr}{buf:Str}{st:Option Str}{tok:Str}{pos:Nat}{pb:Option Str}(hx:LX σ sx dsx io dio pbk fs W Pc pc buf st tok pos pb){name:Str}{m:MV}(hn:∀ln,nk (shN io pbk fs W Pc pc (stM st) ln tok) name=EU m)(hc:kz.contains name=true)(hm:m.out){Q:MV->St->Prop}(hq:Q m ⟨σ,ρ⟩):AtR X (.r sx) name ⟨σ,ρ⟩ Q:=by
 obtain ⟨ln,e⟩:=hx.n;exact o3 N hx.i e (hn ln) (eH _ _) hc hm hq
theorem uQ{io pbk fs:Addr}{W Pc:Str}{pc:Option Addr}{st:MV}{ln:Int}{tok:Str}:nk (shN io pbk fs W Pc pc st ln tok) "read_token" =none:=by cases pc<;>kernel_rfl
theorem yN(ls:LS):cw ls= .k .none∨∃t,cw ls= .s t:=by
 unfold cw;split
 ·split
  ·exact .inl rfl
  ·exact .inr ⟨_,rfl⟩
 ·exact .inr ⟨_,rfl⟩
variable {C:Cx}
noncomputable def aG:List String:=["self","tok","raw","spec","newfile","newstream"]
theorem jK:aG.Nodup:=s!"1"
set_option maxHeartbeats 4000000 in
theorem ou(G:Gd C){A:Fb}{k:Nat}(R:Rm (k+4) A){L:LP}{Ks:LS->Prop}{n:Nat}{st:Option Str}{tok:Str}{pos:Nat}{pb:Option Str}{σ:Sg}(hσ:L.σ0=σ)(hx:LX σ L.sx L.dsx L.io L.dio L.pbk L.fs L.W L.Pc L.pc L.buf st tok pos pb)(hP:L.Pc.length≤500)(HR:ig L.W L.Pc L.buf Ks n ⟨st,tok,pos,pb,false," "⟩):
 CtA C A (.ref 936) [.r L.sx] [] σ λm σ'=>∃ls',Ks ls'∧m=cw ls'∧LX σ' L.sx L.dsx L.io L.dio L.pbk L.fs L.W L.Pc L.pc L.buf ls'.st "" ls'.pos ls'.pb∧∀b m,b≠L.dsx->b≠L.dio->(∀a,L.pc=EU a->b≠a)->σ b=EU m->σ' b=EU m:=by
 refine aW G R (a:=936) (c:=935) (x:=aH 29 6) (n:="get_token") (q:="shlex.get_token") (d:= .none) (pm:=(.str "cpy313.shlex" 1428)) (an:=none) (t:=1492)
  (ps:=(["self"]:List Str).zip [.r L.sx]) s!"k" s!"k" s!"k" s!"k" [] s!"k" (λv=>(aX rfl s!"k" s!"1" (bk λa0=>cK s!"k")).a) (ρ:=zL aG [EU (.r L.sx),none,none,none,none,none]) s!"k" λQf hQf X hC O R' hin hg hE=>?_
 subst hC;have N:=kn G;have hd:=jK;have i_self:gI aG 0=EU "self" :=rfl;have i_tok:gI aG 1=EU "tok" :=rfl;have i_raw:gI aG 2=EU "raw" :=rfl;have i_spec:gI aG 3=EU "spec" :=rfl;have i_newfile:gI aG 4=EU "newfile" :=rfl;have i_newstream:gI aG 5=EU "newstream" :=rfl;clear hg hE;conv=>arg 2;whnf
 have l_self:lk (zL aG [EU (.r L.sx),none,none,none,none,none]) "self" =EU (EU (.r L.sx)):=lkI hd i_self rfl;have l_tok:lk (zL aG [EU (.r L.sx),none,none,none,none,none]) "tok" =EU (none):=lkI hd i_tok rfl;have l_raw:lk (zL aG [EU (.r L.sx),none,none,none,none,none]) "raw" =EU (none):=lkI hd i_raw rfl;have l_spec:lk (zL aG [EU (.r L.sx),none,none,none,none,none]) "spec" =EU (none):=lkI hd i_spec rfl;have l_newfile:lk (zL aG [EU (.r L.sx),none,none,none,none,none]) "newfile" =EU (none):=lkI hd i_newfile rfl;have l_newstream:lk (zL aG [EU (.r L.sx),none,none,none,none,none]) "newstream" =EU (none):=lkI hd i_newstream rfl;generalize zL aG [EU (.r L.sx),none,none,none,none,none]=ρ at l_self l_tok l_raw l_spec l_newfile l_newstream⊢;clear hd i_self i_tok i_raw i_spec i_newfile i_newstream;subst hσ;refine aa (aA hin s!"2" (aI ⟨trivial,?_⟩));refine ae (aa (bl (bZ s!"r" (bh s!"r" (ai O l_self (rSx N hx (λ_=>rI) s!"k" trivial (wS hx.p ?_)))))));refine aD rfl (ak (ae ?_));refine xe1 hx.n λln hn=>?_;refine aa (ah s!"r" s!"r" trivial (bK N s!"r" trivial (ai O l_self (dK 943 hx.i hn uQ (eH _ _) (wW _ _) s!"k" (bu G s!"k") (ag (bx (Ct.mono (CtA.ct (lZ G R' rfl hx hP HR)) ?_)))))));intro m σ' zr1;refine aV zr1 λls' HK z1 z2=>?_;clear zr1;subst z1;obtain ⟨hx',fr⟩:=z2;refine aJ O l_raw (ae ?_);have l_raw':=cD (m:=cw ls') l_raw;have l_self':lk (stL ρ "raw" (cw ls')) "self" =EU (EU (.r L.sx)):=s!"lk"
 generalize stL ρ "raw" (cw ls')=ρ1 at l_raw' l_self'⊢;clear l_raw l_self hx hn;refine aa (bl (aC s!"r" (bh s!"r" (ai O l_self' (rSx N hx' (λ_=>vg) s!"k" rfl (fJ (eY (ay ?_))))))));refine aD rfl (ak (ae ?_));rcases yN ls' with hr|⟨t,hr⟩
 ·refine aa (dg (λ_ st=>st=⟨σ',ρ1⟩) ?_ 0 rfl);rintro J hJ n st rfl;refine aC s!"r" (ai O l_raw' (bh s!"r" (ai O l_self' (rSx N hx' (λ_=>pP) s!"k" rfl ?_))));rw[hr];refine yB (ay (ift rfl ?_));refine aa (bl (gH (bZ s!"r" (bh s!"r" (ai O l_self' (rSx N hx' (λ_=>qz) s!"k" trivial (wS hx'.f ?_)))))));refine ift rfl (aa (bd (bh s!"r" (ai O l_self' (rSx N hx' (λ_=>pP) s!"k" rfl ?_)))));refine cY ?_;exact hQf _ _ (cI ls' HK hr.symm hx' fr)
 ·refine aa (dg (λ_ st=>st=⟨σ',ρ1⟩) ?_ 0 rfl);rintro J hJ n st rfl;refine aC s!"r" (ai O l_raw' (bh s!"r" (ai O l_self' (rSx N hx' (λ_=>pP) s!"k" rfl ?_))));rw[hr] at l_raw'⊢;refine yG (ay (aD rfl (ak (ae ?_))));refine aa (bl (aC s!"r" (bh s!"r" (ai O l_self' (rSx N hx' (λ_=>pW) s!"k" trivial (aq (sH (ay ?_))))))));refine aD s!"d" (ak (ae ?_));refine aa (bd (ai O l_raw' ?_));refine cY ?_;exact hQf _ _ (cI ls' HK hr.symm hx' fr)
end
section
open PySem.Builtin PySem.Builtin.Str
noncomputable def Kp(h h':Heap):Prop:=∀b o,h.get? b=EU o->h'.get? b=EU o
theorem Kp.refl(h:Heap):Kp h h:=λ_ _ e=>e
theorem Kp.trans{a b c:Heap}(x:Kp a b)(y:Kp b c):Kp a c:=λp o e=>y p o (x p o e)
section
variable {prog:Program} {w:FL} {A:Fb} {E:Value->Shared->Prop} {s:Shared} {d:Addr} {f:Int->Option Value}
theorem iH:GI (.type "KeyError") (.type "LookupError")=pure true:=by rw[FN];kernel_rfl
theorem ro{c:Nat}{Q:Mapped->Shared->Prop}(hd:(d==sysModules)=false)(hh:A.handled=none)(hm:∀t,({s with toks:=t}).heap.MapOf (intKind prog w) d f)(hf:f (c:Int)=none)
 (h:∀h' t,Kp s.heap h'->Q .keep {s with heap:=h',toks:=t}):E4 (Fa prog w) A (tableLookup (.ref d) c) Q E s:=by
 unfold tableLookup;refine EX (wpAny_attempt (EX (wpAny_mkInt ?_)));refine wpAny_getItem_missing_of (knd:=intKind prog w) (intKind_is ..) hd hh (hm (s.toks+1)) hf λh' e x=>?_;dsimp only;refine bL x.there λob t ho hc hdd=>?_;refine EX (wpAny_isInstance (T:="KeyError") (af ob ho hc) iH ?_);refine w_t rfl ?_;exact EX (wpAny_rule (E0 (h _ _ x.keeps)))
theorem rZ:∀(l:List Nat) (a:Array Nat),(l.map λc=>(⟨#[c]⟩:FQ)).foldl (λacc p=>acc++p.cps) a=a++l.toArray
 | [],a=>s!"4"
 |c::l,a=>by
  rw[FW,List.foldl_cons,rZ l];apply Array.ext';simp
theorem rt(x:FQ):(⟨(x.cps.toList.map λc=>(⟨#[c]⟩:FQ)).foldl (λacc p=>acc++p.cps) #[]⟩:FQ)=x:=by
 rw[rZ];simp
theorem lW{x:FQ}{t:Tok}{Q:Fin->Shared->Prop}(hd:(d==sysModules)=false)(hh:A.handled=none)(hm:∀h',Kp s.heap h'->h'.MapOf (intKind prog w) d f)(hf:∀c∈x.cps.toList,f (c:Int)=none)
 (hne:(x.length==0)=false) (hfast:(x.cps.all (·<128))=false) (hsz:x.length≤sizeLine)
 (h:∀h' t t',Kp s.heap h'->Q (.done (.ret (.str x t))) {s with heap:=h',toks:=t'}):E4 (Fa prog w) A (Builtin.«str.translate» ⟨[.str x t,.ref d],[]⟩) Q E s:=by
 refine EX (FO (a:=(Value.str x t,x,GU d)) rfl ?_);refine w_f (by simp only[hne,hfast]) ?_
 have szl:∀pre rest:List Nat,x.cps.toList=pre++rest->pre.length≤x.length:=λpre rest e=>by
  show pre.length≤x.cps.size;rw[←Array.length_toList,e,E7];exact xl
 have ntl:∀n,n≤x.length->tooLong n=false:=λn hn=>decide_eq_false (by exact Nat.not_lt_of_le (EY hn hsz));refine EX (FE (wpAny_forIn_array' _ (λrest b s'=>∃pre,x.cps.toList=pre++rest∧b=((pre.map λc=>(⟨#[c]⟩:FQ)).reverse,pre.length,false,[],false)∧∃h' t,Kp s.heap h'∧s'={s with heap:=h',toks:=t})
  (λb s'=>b=((x.cps.toList.map λc=>(⟨#[c]⟩:FQ)).reverse,x.length,false,[],false)∧∃h' t,Kp s.heap h'∧s'={s with heap:=h',toks:=t}) ?_ ?_ _ _ ⟨[],rfl,by rw[hfast];rfl,s.heap,s.toks,Kp.refl _,rfl⟩) ?_ λ_ _ z=>z)
 ·intro c rest b s' zr1;refine aV zr1 λpre e z1 z2=>?_;clear zr1;subst z1;obtain ⟨h',t,k,rfl⟩:=z2;dsimp only;refine w_f (ntl _ (szl _ _ e)) ?_;refine w_f rfl ?_;refine w_f rfl ?_;refine EX (ro (s:={s with heap:=h',toks:=t}) hd hh (λt'=>hm h' k) (hf c (by rw[e];simp)) λh2 t2 k2=>?_);dsimp only;refine E0 (cj (pre++[c]) (by rw[e,Gj];rfl) ?_ h2 ⟨t2,k.trans k2,rfl⟩);simp
 ·intro b s' zr1;refine aV zr1 λpre e z1 z2=>?_;clear zr1;subst z1;obtain ⟨h',t,k,rfl⟩:=z2;rw[Hh] at e;subst e;exact (jm (by rw[Array.length_toList];rfl) _ _ k rfl)
 ·intro b s' zr1;refine xa1 zr1 λz1 z2=>?_;clear zr1;subst z1;obtain ⟨h',t,k,rfl⟩:=z2;dsimp only;refine w_f (ntl _ (Fe _)) ?_;rw[List.reverse_reverse,rt];exact EX (wpAny_mkStr (E0 (h h' t (t+1) k)) hsz)
end
end
section
open PySem.Builtin PySem.Builtin.Dict
theorem lD:checkTypeCall "dict" ⟨[],[]⟩=pure ():=s!"k"
theorem mh:checkBuiltinCall "dict.__new__" ⟨[.type "dict"],[]⟩=pure ():=s!"k"
section
variable {prog:Program} {w:FL} {A:Fb} {E:Value->Shared->Prop} {s:Shared}
noncomputable abbrev d4:Obj:={cls:= .type "dict",data:= .dict #[]}
theorem mw{Q₁:Value->Shared->Prop}(h:Q₁ (.ref s.heap.objs.size) {s with heap:=s.heap.push d4}):
 codeAny (Fa prog w) A (.call (.builtin "dict.__new__") ⟨[.type "dict"],[]⟩) (wants Q₁ E) s:=by
 refine F2 F.kt_plain_dict_new F.kt_entry_dict_new (FO mh ?_);have hsub:=F.kt_sub_dict;have hmro:=F.kt_mro_dict;obtain ⟨hp,g,d,tk,os⟩:=s;unfold Builtin.«dict.__new__»
 wp_walk
 exact h
theorem tf{Q:Value->Shared->Prop}(h:Q (.ref s.heap.objs.size) {s with heap:=s.heap.push d4}):E4 (Fa prog w) A (call (.type "dict") []) Q E s:=by
 refine callType_codes (Q₁:=λobj s₁=>obj= .ref s.heap.objs.size∧s₁={s with heap:=s.heap.push d4}) F.kt_called_dict lD F.entry_dict_init (mw ⟨rfl,rfl⟩) ?_;intro obj s₁ zr1;refine b7 zr1 λz2=>?_;clear zr1;subst z2;have hnew:(s.heap.push d4).DictOf (strKind prog w) s.heap.objs.size []:=Heap.DictOf.new s.heap;refine (ia2 hnew.typeIs (F.args_dict_init_1 _) ?_);unfold Builtin.«dict.__init__»;refine EX ?_;unfold Builtin.Dict.selfAndRest;refine EX (wpAny_notOrdered_dict hnew.typeIs ?_);show E4 _ _ (pure (s.heap.objs.size,([]:List Value))) _ _ _;refine E0 ?_;show E4 _ _ (Builtin.Dict.addKeywords s.heap.objs.size []>>=_) _ _ _;exact EX (E0 (E0 ⟨rfl,h⟩))
noncomputable def FkD(x:FQ)(n:Nat)(kvs:List (FQ×Value)):Prop:=kvs.length≤n∧∀kv∈kvs,kv.2= .none∧∃c∈x.cps.toList,kv.1=⟨#[c]⟩
theorem FkD.put{x:FQ}{n:Nat}{kvs:List (FQ×Value)}(h:FkD x n kvs){c:Nat}(hc:c∈x.cps.toList):FkD x (n+1) (stored kvs ⟨#[c]⟩ .none):=by
 refine xa1 h λh1 h2=>?_;clear h;unfold stored;split
 ·refine ⟨by rw[EZ];exact o37 h1,λkv hkv=>?_⟩;rw[Fq] at hkv;refine ad hkv λy hy z1=>?_;clear hkv;subst z1;split
  ·exact ⟨rfl,(h2 y hy).2⟩
  ·exact h2 y hy
 ·refine ⟨by rw[E7];simp;exact o84 h1,λkv hkv=>?_⟩;rw[F3] at hkv;rcases hkv with hkv|hkv
  ·exact h2 kv hkv
  ·rw[FX] at hkv;subst hkv;exact (gR rfl c hc rfl)
theorem d0:plainId "dict.fromkeys.loop" =true:=s!"1"
theorem qF:plainId "dict.fromkeys" =true:=s!"1"
theorem iE:Hb table "dict.fromkeys.loop" =EU Builtin.«dict.fromkeys.loop»:=F4 s!"k"
theorem vY:Hb table "dict.fromkeys" =EU Builtin.«dict.fromkeys»:=F4 s!"k"
theorem sa{x:FQ}{I d:Addr}{St:Nat->Heap->Prop}(hx:x.length≤1000)(W:Walks prog w A.in1 I [I] [I] x.cps.size (SignAt x) St)(hdI:d≠I){R:Result->Shared->Prop}(h0:Heap)
 (hR:∀h' t kvs,h'.DictOf (strKind prog w) d kvs->FkD x x.cps.size kvs->(∀b o,b≠d->b≠I->h0.get? b=EU o->h'.get? b=EU o)->R (.ok (.ret (.ref d))) {s with heap:=h',toks:=t}):
 ∀k i h' t kvs,i+k=x.cps.size->St i h'->h'.DictOf (strKind prog w) d kvs->FkD x i kvs->(∀b o,b≠d->b≠I->h0.get? b=EU o->h'.get? b=EU o)->
 codeAny (Fa prog w) A (.builtin "dict.fromkeys.loop" ⟨[.ref d,.ref I,.none],[]⟩) R {s with heap:=h',toks:=t}
 |0,i,h',t,kvs,hk,hst,hd,hf,fr=>by
  have hin:i=x.cps.size:=by exact o85 hk
  clear hk;subst hin;refine Gc iE ?_;rw[Fb.under_plainId d0 _];show E4 _ A.in1 (pyNext (.ref I)>>=_) _ _ _;refine EX (W.done _ _ _ hst λh2 t2 fr2=>?_);exact E0 (hR h2 t2 kvs (by refine go hd λo es ep ho r=>?_;clear hd;exact (oP o es ep (fr2 d o (by simpa using hdI) ho) r)) hf λb o h1 h2' hb=>fr2 b o (by simpa using h2') (fr b o h1 h2' hb))
 |k+1,i,h',t,kvs,hk,hst,hd,hf,fr=>by
  refine Gc iE ?_;rw[Fb.under_plainId d0 _];show E4 _ A.in1 (pyNext (.ref I)>>=_) _ _ _;refine EX (W.item i _ _ _ (by exact o86 hk) hst λv h2 t2 hv hst2 fr2=>?_);refine am hv λc u hc z1=>?_;clear hv;subst z1;have hd2:h2.DictOf (strKind prog w) d kvs:=by refine go hd λo es ep ho r=>?_;clear hd;exact (oP o es ep (fr2 d o (by simpa using hdI) ho) r)
  dsimp only;refine EX (G1 hd2.typeIs ?_);refine w_t s!"d" ?_;refine EX (E0 (a:=d) ?_);refine EX (wpAny_holding ?_);refine wpAny_dictSet_pairs (knd:=strKind prog w) (k:=⟨#[c]⟩) (strKind_is ..) hd2 (λh3 hd3 sb=>?_) (by have:=hf.1;have:x.length=x.cps.size:=rfl;rw[sizeLine_eq];exact EY ‹_› (EY (Ft _ (_+1)) (EY (E6 (hk.trans this.symm)) (EY hx s!"d"))));refine E0 ⟨Gs d0 _,?_⟩
  have hm:c∈x.cps.toList:=by
   rw[Array.mem_toList_iff];exact Array.mem_of_getElem? hc
  refine sa hx W hdI h0 hR k (i+1) h3 _ _ (by exact o88 hk) (W.frame _ _ _ hst2 λb hb o ho=>?_) hd3 (hf.put hm) λb o h1 h2' hb=>?_
  ·rw[sb.2 b (by intro e;clear hR hd fr hd2 hd3 sb;subst e;simp at hb;exact hdI hb)];exact ho
  ·rw[sb.2 b h1];exact fr2 b o (by simpa using h2') (fr b o h1 h2' hb)
theorem yZ{x:FQ}{t:Tok}(hx:x.length≤1000)(hh:A.handled=none){R:Result->Shared->Prop}
 (hR:∀h' t kvs,h'.DictOf (strKind prog w) s.heap.objs.size kvs->FkD x x.cps.size kvs->Kp s.heap h'->R (.ok (.ret (.ref s.heap.objs.size))) {s with heap:=h',toks:=t}):
 codeAny (Fa prog w) A (.builtin "dict.fromkeys" ⟨[.type "dict",.str x t],[]⟩) R s:=by
 refine Gc vY ?_;rw[Fb.under_plainId qF _];unfold Builtin.«dict.fromkeys»;refine EX (FO (a:=true) s!"k" ?_);refine w_f rfl ?_;refine EX (FO (a:=true) F.kt_sub_dict ?_);refine w_f rfl ?_;refine w_f rfl ?_;refine EX (wpAny_rule (EX (E0 ?_)));refine EX (tf ?_);have hnew:(s.heap.push d4).DictOf (strKind prog w) s.heap.objs.size []:=Heap.DictOf.new s.heap;refine wpAny_holding ?_;refine EX (G1 (typeIs_str _ x t) ?_);refine EX (G1 hnew.typeIs ?_);refine w_f s!"d" ?_;refine EX (G1 hnew.typeIs ?_);refine w_f s!"d" ?_;refine EX (wpAny_pyIter_str λo St W st=>?_);have hI:(s.heap.push d4).objs.size=s.heap.objs.size+1:=Heap.size_push ..;have hdI:s.heap.objs.size≠(s.heap.push d4).objs.size:=by rw[hI];exact Fi (G9 _)
 refine E0 ⟨Gs d0 _,?_⟩;refine sa (d:=s.heap.objs.size) hx (W A.in1 hh) hdI s.heap (λh' t' kvs hd hf fr=>hR h' t' kvs hd hf λb ob hb=>?_) x.cps.size 0 _ _ [] (by exact o89) st (hnew.push o) ⟨Fe _,λ_ h=>nomatch h⟩ λb ob h1 h2 hb=>Heap.get?_push_of_some _ (Heap.get?_push_of_some _ hb);have:=Heap.lt_size hb;exact fr b ob (Fi this) (λe=>absurd (e.trans hI) (Fi (GO this))) hb
end
end
section
open PySem.Builtin PySem.Builtin.Dict
theorem qp:Slot "classmethod_descriptor" "__get__" "classmethod_descriptor.__get__" :=
 .of (owner:="classmethod_descriptor") (n:="__get__") (by rw[FF,Fh];kernel_rfl) s!"1" s!"1" s!"1"
  (by first|exact .inl (of_decide_eq_true (by kernel_rfl!))|exact .inr s!"1") (by rw[FN];kernel_rfl)
theorem nO:Hb table "classmethod_descriptor.__get__" =EU Builtin.«classmethod_descriptor.__get__»:=F4 s!"k"
theorem pE(a b c:Value):argsOk "classmethod_descriptor.__get__" ⟨[a,b,c],[]⟩:=by unfold argsOk;kernel_rfl
theorem yj:GY (.builtin "dict.fromkeys")=pure (.type "classmethod_descriptor"):=by show builtinType _=_;rw[builtinType_eq_fast];kernel_rfl
noncomputable def eO:Obj:={cls:= .type "builtin_function_or_method",data:= .fields #[.builtin "dict.fromkeys",.type "dict"]}
section
variable {prog:Program} {w:FL} {M:Model} {A:Fb} {E:Value->Shared->Prop} {s:Shared}
theorem rJ{P:Fin->Shared->Prop}(h:P (.done (.ret (.ref s.heap.objs.size))) {s with heap:=s.heap.push eO}):
 E4 M A (Builtin.«classmethod_descriptor.__get__» ⟨[.builtin "dict.fromkeys",.none,.type "dict"],[]⟩) P E s:=by
 unfold Builtin.«classmethod_descriptor.__get__»;refine EX (FO (a:=(.builtin "dict.fromkeys",none,EU (.type "dict"))) (by first|rfl|kernel_rfl) ?_);dsimp only;refine EX (FO (a:= .type "dict") rfl ?_);refine EX (FO (a:=true) s!"k" ?_);refine w_f rfl ?_;refine EX (FO (a:=true) (Eq.trans s!"k" F.kt_sub_dict) ?_);refine w_f rfl ?_;exact EX (GG (E0 h))
theorem AH:findCls [] (.type "dict") (.type "type") (FQ.ofString "fromkeys")=EU (.get (.builtin "classmethod_descriptor.__get__") (.builtin "dict.fromkeys") .none (.type "dict")):=s!"k"
theorem yv{pl:Sem Bool}{Q:Value×List Value->Shared->Prop}(h:Q (.ref s.heap.objs.size,[]) {s with heap:=s.heap.push eO,toks:=s.toks+1}):
 E4 (Fa prog w) A (getMethod (.type "dict") (FQ.ofString "fromkeys") pl) Q E s:=by
 have X:Frag.In [] s.heap:=λ_ _ e=>nomatch e;have hstub:opaqueClassAbove (.type "dict")=pure none:=by unfold opaqueClassAbove;dsimp only;rw[show Manifest.isStub "dict" =false by decide+kernel];rfl
 have ht:GY (.type "dict")=pure (.type "type"):=by first|rfl|kernel_rfl
 have L0:Fv (Fa prog w) s.heap (GY (.type "dict")) (.type "type"):=Fv.of_pure ht;have hg:findIn [] (.type "type") "__getattribute__" =EU (EU (.builtin "type.__getattribute__")):=type_tga;unfold getMethod Hf;refine EX (EX (L0.here ((looks_findIn X hg).here ?_)));dsimp only;rw[if_pos canon_tga];refine EX (FE (Q:=λv=>Q (v,[])) (E:=E) ?_ (λ_ _ z=>E0 z) λ_ _ z=>z);have LO:Fv (Fa prog w) s.heap (opaqueClassAbove (.type "dict")) none:=Fv.of_pure hstub;refine cls_open X LO L0 hg (looks_hook X (r:=none) s!"2") (by show subIn [] _ _=_;rfl) AH ?_;show E4 _ _ (holding [.builtin "dict.fromkeys"] (call (.builtin "classmethod_descriptor.__get__") [.builtin "dict.fromkeys",.none,.type "dict"])>>=λv=>ret v) _ _ _;exact EX (wpAny_holding (Gw qp yj nO (rJ (af _ rfl (E0 (E0 h)))) (pE _ _ _)))
theorem w7{x:FQ}{t:Tok}:checkBoundCall "dict.fromkeys" ⟨[.type "dict",.str x t],[]⟩=pure ():=s!"k"
theorem yq{x:FQ}{t:Tok}{u:Addr}(ho:s.heap.get? u=EU eO)(hx:x.length≤1000)(hh:A.handled=none){Q:Value->Shared->Prop}
 (h:∀h' t kvs,h'.DictOf (strKind prog w) s.heap.objs.size kvs->FkD x x.cps.size kvs->Kp s.heap h'->Q (.ref s.heap.objs.size) {s with heap:=h',toks:=t}):
 E4 (Fa prog w) A (call (.ref u) [.str x t]) Q E s:=by
 refine GC (codeAny_of_tree ?_);show E4 _ A.in1 (callAny (.ref u) ⟨[.str x t],[]⟩) _ _ s;refine EX (GQ ho ?_);refine w_t s!"d" ?_;refine EX (FO (a:=()) w7 ?_);refine EX (E0 (E0 ?_));exact ⟨Gs qF _,yZ hx hh h⟩
end
end
section
open PySem.Builtin PySem.Builtin.Dict PySem.Builtin.Object PySem.Builtin.ObjectAttr
theorem sv:GY (.builtin "str.maketrans")=pure (.type "builtin_function_or_method"):=by show builtinType _=_;rw[builtinType_eq_fast];kernel_rfl
theorem m5:Gq (.type "str") "maketrans" =pure (EU (.builtin "str.maketrans")):=by rw[FF,Fh];kernel_rfl
theorem we:Gq (.type "builtin_function_or_method") "__get__" =pure none:=by rw[FF,Fh];kernel_rfl
theorem rW:handedOut (.builtin "str.maketrans")=pure (.builtin "str.maketrans"):=by
 show (if (withoutEnding? "str.maketrans" "#data").isSome=true then typeDatum "str.maketrans" else pure (.builtin "str.maketrans"))=_;rw[if_neg s!"1"]
section
variable {prog:Program} {w:FL} {M:Model} {A:Fb} {E:Value->Shared->Prop} {s:Shared}
theorem zb{x:FQ}{t:Tok}{Q:Found->Shared->Prop}(h:Q (.value (.builtin "str.maketrans")) s):E4 M A (find (.str x t) (.type "str") "maketrans") Q E s:=by
 unfold find;refine EX (FO m5 (EX ?_));unfold getOf Hf;refine EX (FO sv (FO we ?_));refine EX (E0 ?_);dsimp only;unfold ownThenClass;refine EX (E0 ?_);dsimp only;refine EX (E0 ?_);exact EX (wpAny_rule (EX (FO rW (E0 h))))
theorem rA{x name:FQ}{t:Tok}{id:String}{Q:Value->Shared->Prop}(hn:handedOut (.builtin id)=pure (.builtin id))(hf:∀(A:Fb) (E:Value->Shared->Prop) (s:Shared) (Q:Found->Shared->Prop),Q (.value (.builtin id)) s->E4 (Fa prog w) A (find (.str x t) (.type "str") name) Q E s)(h:Q (.builtin id) {s with toks:=s.toks+1}):E4 (Fa prog w) A (getAttr (.str x t) name) Q E s:=by
 have hT:∀t',({s with toks:=t'}:Shared).TypeIs (.str x t) "str" :=λ_=>rfl;refine EX (wpAny_mkText (wpAny_holding (EX (G1 (hT _) (EX (FO F.slot_str_getattribute.lookup ?_))))));dsimp only;rw[show onTheHeap (Hk "str")=false from rfl,Bool.false_and,if_neg s!"d"];refine EX (E0 (EX (wpAny_attempt (wpAny_holding ?_))));unfold callGetattribute;rw[show (false&&onTheHeap (Value.builtin "object.__getattribute__"))=false from rfl,if_neg s!"d"];unfold boundAndCalled;rw[F.slot_str_getattribute.bind];refine EX (E0 ?_);show E4 _ _ (call (.builtin "object.__getattribute__") [.str x t,.str _ s.toks]) _ _ _;refine GC (F2 F.slot_str_getattribute.plain F.entry_object_getattribute (F.slot_str_getattribute.check _ _ _ _ _ _ _ _ (hT _) (F.args_object_getattribute_2 _ _) ?_));unfold Builtin.«object.__getattribute__»;refine EX (E0 (EX (E0 (EX (G1 (hT _) (EX (hf _ _ _ _ ?_)))))));refine E0 ?_;show E4 _ _ (handedOut (.builtin id)) _ _ _;rw[hn];exact E0 h
theorem s5{x:FQ}{t:Tok}{Q:Value->Shared->Prop}(h:Q (.builtin "str.maketrans") {s with toks:=s.toks+1}):E4 (Fa prog w) A (getAttr (.str x t) "maketrans") Q E s:=
 rA rW (λ_ _ _ _ q=>zb q) h
theorem yy{x:FQ}{t:Tok}{pl:Sem Bool}{Q:Value×List Value->Shared->Prop}(h:Q (.builtin "str.maketrans",[]) {s with toks:=s.toks+1}):E4 (Fa prog w) A (getMethod (.str x t) "maketrans" pl) Q E s:=by
 have hT:∀t',({s with toks:=t'}:Shared).TypeIs (.str x t) "str" :=λ_=>rfl;unfold getMethod Hf;refine EX (EX (G1 (hT _) (FO F.slot_str_getattribute.lookup ?_)));dsimp only;refine w_f s!"1" ?_;refine EX (EX (G1 (hT _) (FO (a:=none) (by rw[FF,Fh];kernel_rfl) ?_)));refine w_f rfl ?_;refine EX (EX (G1 (hT _) (FO m5 ?_)));dsimp only;refine EX (FO sv ?_);refine w_t s!"d" ?_;exact EX (s5 (E0 h))
end
end
section
open PySem.Builtin PySem.Builtin.Dict
section
variable {prog:Program} {w:FL} {A:Fb} {E:Value->Shared->Prop} {s:Shared}
theorem wO:plainId "str.maketrans" =true:=s!"1"
theorem wn:Hb table "str.maketrans" =EU Builtin.«str.maketrans»:=F4 s!"k"
theorem w0(d:Addr):checkBuiltinCall "str.maketrans" ⟨[.ref d],[]⟩=pure ():=s!"k"
noncomputable def TabD(x:FQ)(kvs:List (Int×Value)):Prop:=∀kv∈kvs,∃c∈x.cps.toList,kv.1=(c:Int)
theorem TabD.put{x:FQ}{kvs:List (Int×Value)}(h:TabD x kvs){c:Nat}{v:Value}(hc:c∈x.cps.toList):TabD x (stored kvs (c:Int) v):=by
 unfold stored;split
 ·intro kv hkv;rw[Fq] at hkv;refine ad hkv λy hy z1=>?_;clear hkv;subst z1;split
  ·exact h y hy
  ·exact h y hy
 ·intro kv hkv;rw[F3] at hkv;rcases hkv with hkv|hkv
  ·exact h kv hkv
  ·rw[FX] at hkv;subst hkv;exact (af c hc rfl)
theorem sW{K:Type}[DecidableEq K](kvs:List (K×Value))(k:K)(v:Value):(stored kvs k v).length≤kvs.length+1:=by
 unfold stored;split
 ·rw[EZ];exact Ah
 ·rw[E7];simp
theorem TabD.miss{x:FQ}{kvs:List (Int×Value)}(h:TabD x kvs){c:Nat}(hc:c∉x.cps.toList):valueAt kvs (c:Int)=none:=by
 unfold valueAt;rw[List.find?_eq_none.mpr]
 ·rfl
 ·intro kv hkv e;refine ad (h kv hkv) λc' h1 h2=>?_;have e:kv.1=(c:Int):=by simpa using e
  rw[h2] at e;have:c'=c:=by exact_mod_cast e
  clear e;subst this;exact hc h1
theorem zg{x:FQ}{d:Addr}{n:Nat}{kvs:List (FQ×Value)}(hn:n≤1000)(hd:s.heap.DictOf (strKind prog w) d kvs)(hf:FkD x n kvs)(hs:(d==sysModules)=false){Q:Fin->Shared->Prop}
 (h:∀h' t kvs2,h'.DictOf (intKind prog w) s.heap.objs.size kvs2->TabD x kvs2->Kp s.heap h'->Q (.done (.ret (.ref s.heap.objs.size))) {s with heap:=h',toks:=t}):
 E4 (Fa prog w) A (Builtin.«str.maketrans» ⟨[.ref d],[]⟩) Q E s:=by
 have ty:∀h':Heap,h'.DictOf (strKind prog w) d kvs->∀t,({s with heap:=h',toks:=t}:Shared).TypeIs (.ref d) "dict" :=λh' hd' t=>Heap.DictOf.typeIs (s:={s with heap:=h',toks:=t}) hd';have hd1:(s.heap.push d4).DictOf (strKind prog w) d kvs:=hd.push _;have ht1:(s.heap.push d4).DictOf (intKind prog w) s.heap.objs.size []:=Heap.DictOf.new s.heap;refine EX (E0 (EX (E0 (EX (E0 (EX (E0 (EX ?_))))))));refine GG (EX (wpAny_holding ?_));refine EX (G1 (ty _ hd1 _) (EX (E0 (EX (G1 (ty _ hd1 _) (w_f s!"d" ?_))))));refine iu hd1 λo es ep ho hc hdat z1=>?_;clear hd1;obtain ⟨hk,hp,hno⟩:=z1;refine EX (w_f hs (E0 (EX (wpAny_dictEntries ho hdat ?_))))
 have hT:d≠s.heap.objs.size:=by
  refine go hd λ_ _ _ hg _=>?_;clear hd;exact Fi (Heap.lt_size hg)
 refine EX (FE (wpAny_forIn_array' _ (λrest _ s'=>∃kr,Pairs (strKind prog w) rest kr∧(∀kv∈kr,kv∈kvs)∧∃h' t kvs2,h'.DictOf (intKind prog w) s.heap.objs.size kvs2∧TabD x kvs2∧kvs2.length+kr.length≤1000∧
  (∀b o,b≠s.heap.objs.size->(s.heap.push d4).get? b=EU o->h'.get? b=EU o)∧s'={s with heap:=h',toks:=t})
  (λ_ s'=>∃h' t kvs2,h'.DictOf (intKind prog w) s.heap.objs.size kvs2∧TabD x kvs2∧(∀b o,b≠s.heap.objs.size->(s.heap.push d4).get? b=EU o->h'.get? b=EU o)∧s'={s with heap:=h',toks:=t})
  ?_ ?_ _ _ (cj kvs hp (λ_ z=>z) (s.heap.push d4) ⟨s.toks,[],ht1,(λ_ z=>by cases z),(by have:=hf.1;show 0+kvs.length≤1000;exact EY (E6 (Nat.zero_add _)) (EY this hn)),λ_ _ _ z=>z,rfl⟩)) ?_ λ_ _ z=>z)
 ·intro e rest b s' zr1;refine aV zr1 λkr hp' hin z2=>?_;clear zr1;obtain ⟨h',t,kvs2,hd2,ht2,hl,fr,rfl⟩:=z2
  cases hp' with
  |cons hke hve hrest=>
   rename_i kv kr';refine gU (hf.2 kv (hin kv (Fo ..))) λhv c z1=>?_;refine xa1 z1 λhcm hkc=>?_;clear z1;refine xe1 (Value.isStrOf_shape hke) λtk hkey=>?_;refine EX (FO (a:=EU (⟨#[c]⟩:FQ)) (by rw[hkey,hkc];rfl) ?_);refine EX (wpAny_mkInt ?_);refine EX (wpAny_dictSet_pairs (knd:=intKind prog w) (k:=(c:Int)) (intKind_is ..) hd2 (λh3 hd3 sb=>?_) (by rw[sizeLine_eq];exact EY (EY (Ft _ _) hl) s!"d"));refine E0 (cj kr' hrest (λz hz=>hin z (Fk _ hz)) h3 ⟨_,_,hd3,ht2.put hcm,?_,λb' o' h1 h2=>?_,rfl⟩)
   ·have:=sW kvs2 (c:Int) e.val;rw[Hq] at hl;exact EY (Hj this _) (by rw[Nat.add_assoc,G7 1];exact hl)
   ·rw[sb.2 b' h1];exact fr b' o' h1 h2
 ·intro b s' zr1;refine aV zr1 λkr _ _ z2=>?_;clear zr1;obtain ⟨h',t,kvs2,hd2,ht2,_,fr,rfl⟩:=z2;exact (jG h' t kvs2 hd2 ht2 ⟨fr,rfl⟩)
 ·intro b s' zr1;refine iu zr1 λh' t kvs2 hd2 ht2 fr z2=>?_;clear zr1;subst z2;refine E0 (E0 (h h' t kvs2 hd2 ht2 λb' o' hb=>fr b' o' (Fi (Heap.lt_size hb)) (Heap.get?_push_of_some _ hb)))
theorem yo{x:FQ}{d:Addr}{n:Nat}{kvs:List (FQ×Value)}(hn:n≤1000)(hd:s.heap.DictOf (strKind prog w) d kvs)(hf:FkD x n kvs)(hs:(d==sysModules)=false){Q:Value->Shared->Prop}
 (h:∀h' t kvs2,h'.DictOf (intKind prog w) s.heap.objs.size kvs2->TabD x kvs2->Kp s.heap h'->Q (.ref s.heap.objs.size) {s with heap:=h',toks:=t}):
 E4 (Fa prog w) A (call (.builtin "str.maketrans") [.ref d]) Q E s:=
 GC (F2 wO wn (FO (w0 d) (zg hn hd hf hs h)))
end
noncomputable def fkO(w:FL)(x:FQ):MO:= .any λo=>∃kvs,o.IsDictOf (strKind pgm w) kvs∧FkD x x.cps.size kvs
noncomputable def mc(w:FL)(x:FQ):MO:= .any λo=>∃kvs,o.IsDictOf (intKind pgm w) kvs∧TabD x kvs
theorem jV{K:Type}[DecidableEq K]{w:FL}{knd:KeyKind pgm w K}{o:Obj}{kvs:List (K×Value)}(h:o.IsDictOf knd kvs):imm o=false:=by
 refine bL h λes ep _ hd _=>?_;exact kx hd
section
variable {X:Xc} {st:St} {Q:MV->St->Prop}
theorem sm{e:Fw}{Q':MV->St->Prop}(h:WE X e st Q')(k:∀m st',Q' m st'->Q m st'):WE X e st Q:=λφ s I=>ab (h φ s I) λv s' ⟨m,st',a,b,c,d⟩=>⟨m,st',a,b,c,k _ _ d⟩
theorem rq(O:XOk X){o e:Fw}{apos pos:Pos}{pl:Sem Bool}
 (he:eval (.Call (.Attribute o "fromkeys" apos) [e] [] pos) X.env=(do
  let ov←eval o X.env
  standAt apos.atName
  let (f,first)←holding [ov] (getMethod ov "fromkeys" pl)
  callWith pos f first (backTo pos (Hl [e] X.env)) [])) (hs:Starless [e])
 (h:WE X o st λa st₁=>a= .k (.type "dict")∧WE X e st₁ λm st₂=>∃x,m= .s x∧x.length≤1000∧∀d,st₂.σ d=none->Q (.r d) ⟨st₂.σ.put d (fkO X.C.w x),st₂.ρ⟩):
 WE X (.Call (.Attribute o "fromkeys" apos) [e] [] pos) st Q:=λφ s I=>by
 refine MethodCall_ ?_ he;refine ab (h φ s I) λv s₁ pp=>?_;obtain ⟨a,st₁,r,I₁,k,e0,q⟩:=pp;subst e0;cases (show v= .type "dict" from r);refine yv ?_;have I₂:IF X φ st₁ {s₁ with heap:=s₁.heap.push eO,toks:=s₁.toks+1}:=(I₁.push _).toks _;have hb:(s₁.heap.push eO).get? s₁.heap.objs.size=EU eO:=Heap.get?_push_size _ rfl;refine jP (o:=eO) (bM hs) rfl rfl (bt hs (ab (cr (Q:=λms st₂=>∃x,ms=[.s x]∧x.length≤1000∧∀d,st₂.σ d=none->Q (.r d) ⟨st₂.σ.put d (fkO X.C.w x),st₂.ρ⟩) hs
  (ac (sm q λm st₂ ⟨x,e1,e2,e3⟩=>ag (aR x (by rw[e1]) e2 e3))) I₂) λvs s₂ y=>?_))
 obtain ⟨ms,st₂,r₂,I₃,k₂,x,e1,e2,e3⟩:=y;refine ⟨k₂ _ _ hb rfl,?_⟩;subst e1;unfold VRs at r₂;refine am r₂ λy ys z1 z2=>?_;clear r₂;subst z1;refine xa1 z2 λz3 r₂=>?_;clear z2;obtain ⟨t,rfl⟩:=z3;unfold VRs at r₂;subst r₂;refine yq (k₂ _ _ hb rfl) e2 O.hh λh' t' kvs hd hf kp=>?_;have I₄:=I₃.grow kp t';refine xa2 (bB I₃.inv.fresh) λa1 a2 a3=>?_;refine ad (Heap.dictOf_iff.mp hd) λob ho hob=>?_;have I₅:=(I₄.hide a2 a1 I₃.inv.sz (m:=fkO X.C.w x) (jg ob ho (jV hob) kvs hob hf)).show_ a2 a1 a3;exact Post.mk (bO ..) I₅ ((k.trans (keep_push _ _)).trans (k₂.trans (aB kp))) (e3 _ a2)
theorem po(G:Gd X.C){o e:Fw}{apos pos:Pos}{pl:Sem Bool}
 (he:eval (.Call (.Attribute o "maketrans" apos) [e] [] pos) X.env=(do
  let ov←eval o X.env
  standAt apos.atName
  let (f,first)←holding [ov] (getMethod ov "maketrans" pl)
  callWith pos f first (backTo pos (Hl [e] X.env)) [])) (hs:Starless [e])
 (h:WE X o st λa st₁=>(∃y,a= .s y)∧WE X e st₁ λm st₂=>∃x d,m= .r d∧st₂.σ d=EU (fkO X.C.w x)∧x.length≤1000∧∀d',st₂.σ d'=none->Q (.r d') ⟨st₂.σ.put d' (mc X.C.w x),st₂.ρ⟩):
 WE X (.Call (.Attribute o "maketrans" apos) [e] [] pos) st Q:=λφ s I=>by
 refine MethodCall_ ?_ he;refine ab (h φ s I) λv s₁ pp=>?_;obtain ⟨a,st₁,r,I₁,k,⟨y,e0⟩,q⟩:=pp;subst e0;refine xe1 r λt0 z1=>?_;clear r;subst z1;refine yy ?_;refine callWith_builtin (bM hs) (bt hs (ab (cr (Q:=λms st₂=>∃x d,ms=[.r d]∧st₂.σ d=EU (fkO X.C.w x)∧x.length≤1000∧∀d',st₂.σ d'=none->Q (.r d') ⟨st₂.σ.put d' (mc X.C.w x),st₂.ρ⟩) hs
  (ac (sm q λm st₂ ⟨x,d,e1,e2⟩=>ag (cy x d (by rw[e1]) e2))) (I₁.toks _)) λvs s₂ y=>?_))
 obtain ⟨ms,st₂,r₂,I₃,k₂,x,d,e1,e2,e3,e4⟩:=y;subst e1;refine fS r₂ ?_;refine gr (I₃.own e2) λob ho _ kvs hob hf=>?_;refine yo (n:=x.cps.size) e3 (Heap.dictOf_iff.mpr (af ob ho hob)) hf (G.says.sysNe (I₃.ge e2)) λh' t' kvs2 hd2 ht2 kp=>?_;have I₄:=I₃.grow kp t';refine xa2 (bB I₃.inv.fresh) λa1 a2 a3=>?_;refine ad (Heap.dictOf_iff.mp hd2) λob2 ho2 hob2=>?_;have I₅:=(I₄.hide a2 a1 I₃.inv.sz (m:=mc X.C.w x) (jg ob2 ho2 (jV hob2) kvs2 hob2 ht2)).show_ a2 a1 a3;exact Post.mk (bO ..) I₅ (k.trans (k₂.trans (aB kp))) (e4 _ a2)
theorem qQ(G:Gd X.C)(O:XOk X){d:Addr}{x y:FQ}(e:st.σ d=EU (mc X.C.w y))(hne:(x.length==0)=false)(hfast:(x.cps.all (·<128))=false)(hsz:x.length≤sizeLine)(hxy:∀c∈x.cps.toList,c∉y.cps.toList)(hq:Q (.s x) st):
 WC X (.builtin "str.translate") [.s x,.r d] st Q:=λφ s us I r=>by
 refine xO r λt=>?_;refine gr (I.own e) λob ho _ kvs hob ht=>?_;refine Gw F.slot_str_translate (typeIs_str ..) F.entry_str_translate (lW (A:=X.A.in1) (f:=valueAt kvs) (G.says.sysNe (I.ge e)) O.hh (λh' kp=>(Heap.dictOf_iff.mpr (af ob (kp _ _ ho) hob)).mapOf) (λc hc=>ht.miss (hxy c hc)) hne hfast hsz λh' t1 t2 kp=>(af _ rfl ?_)) (F.args_str_translate_2 _ _);exact Post.mk (fq ..) (I.grow kp t2) (aB kp) hq
end
end
section
open Builtin.ObjectAttr
structure SI (σ0:Sg) (sx dsx:Addr) (F:List (Addr×MO)) (L:List (Str×MV)) (σ:Sg):Prop where
 i:σ sx=EU (.ins 975 dsx)
 n:σ dsx=EU (.ns L)
 fr:∀b m,b≠dsx->σ0 b=EU m->σ b=EU m
 ow:∀p∈F,p.1≠dsx∧σ p.1=EU p.2
variable {σ0:Sg} {sx dsx:Addr} {F:List (Addr×MO)} {L:List (Str×MV)} {σ:Sg} {ρ:Lo} {X:Xc}
theorem SI.nxd(h:SI σ0 sx dsx F L σ):sx≠dsx:=aK h.i h.n
theorem SI.put(h:SI σ0 sx dsx F L σ)(L':List (Str×MV)):SI σ0 sx dsx F L' (σ.put dsx (.ns L')):=
 ⟨(Sg.put_ne _ _ h.nxd).trans h.i,Sg.put_same ..,λb m hb e=>(Sg.put_ne _ _ hb).trans (h.fr b m hb e),λp hp=>⟨(h.ow p hp).1,(Sg.put_ne _ _ (h.ow p hp).1).trans (h.ow p hp).2⟩⟩
theorem SI.new(h:SI σ0 sx dsx F L σ){d:Addr}(hd:σ d=none)(m:MO):SI σ0 sx dsx ((d,m)::F) L (σ.put d m):=by
 have ne:∀b m',σ b=EU m'->b≠d:=λb m' e hb=>by subst hb;rw[hd] at e;cases e
 refine ⟨(Sg.put_ne _ _ (ne _ _ h.i)).trans h.i,(Sg.put_ne _ _ (ne _ _ h.n)).trans h.n,λb m' hb e=>(Sg.put_ne _ _ (ne _ _ (h.fr b m' hb e))).trans (h.fr b m' hb e),λp hp=>?_⟩;rcases FI.mp hp with rfl|hp
 ·exact ⟨λe=>ne _ _ h.n e.symm,Sg.put_same ..⟩
 ·exact ⟨(h.ow p hp).1,(Sg.put_ne _ _ (ne _ _ (h.ow p hp).2)).trans (h.ow p hp).2⟩
theorem SI.free(h:SI σ0 sx dsx F L σ){d:Addr}(hd:σ d=none):σ0 d=none:=by
 cases e:σ0 d with
 |none=>rfl
 |some m=>
  by_cases hb:d=dsx
  ·subst hb;rw[h.n] at hd;cases hd
  ·rw[h.fr d m hb e] at hd;cases hd
theorem SI.ne(h:SI σ0 sx dsx F L σ){d:Addr}(hd:σ d=none){p:Addr×MO}(hp:p∈F):d≠p.1:=λe=>by subst e;rw[(h.ow p hp).2] at hd;cases hd
theorem rSI(N:Kn X){name:Str}{m:MV}(h:SI σ0 sx dsx F L σ)(hn:nk L name=EU m)(hc:kz.contains name=true)(hm:m.out){Q:MV->St->Prop}(hq:Q m ⟨σ,ρ⟩):AtR X (.r sx) name ⟨σ,ρ⟩ Q:=
 o3 N h.i h.n hn (eH _ _) hc hm hq
theorem wSI(N:Kn X){name:Str}{m:MV}(h:SI σ0 sx dsx F L σ)(hc:kz.contains name=true)(hl:L.length<900){QU:St->Prop}(hq:∀σ',SI σ0 sx dsx F (aN L name m) σ'->QU ⟨σ',ρ⟩):dL X N (.r sx) name m ⟨σ,ρ⟩ QU:=
 pn h.i h.n (eH _ _) hc (E1 hl s!"d") (hq _ (h.put _))
theorem gSI(N:Kn X){name:Str}(h:SI σ0 sx dsx F L σ){P:Addr->Addr->Addr->Prop}(hn:kz.contains name=true)(hq:P sx 975 dsx):lQ X N (.r sx) name ⟨σ,ρ⟩ P:=z8 h.i (eH _ _) hn hq
theorem vW{st:St}{a b:Bool}{Q:MV->St->Prop}(h:Q (.k (.bool (a==b))) st):W2 X (Fx .Is) (.k (.bool a)) (.k (.bool b)) st Q:=λφ s v w I e1 e2=>by
 cases (show v= .bool a from e1);cases (show w= .bool b from e2);exact PyProof.Rows.is_bool (.mk (aZ ..) I (.refl _) h)
variable {C:Cx}
theorem uw(G:Gd C){sx:Addr}{x:Str}(v:Value):d5 C (dD (aH 29 1) "__init__" "shlex.__init__" (.ref 892) v (.str "cpy313.shlex" 1428) none (.ref 898)) [.r sx,.s x] [("posix",.k (.bool true)),("punctuation_chars",.k (.bool true))] ((["self","instream","infile","posix","punctuation_chars"]:List Str).zip [.r sx,.s x,.k .none,.k (.bool true),.k (.bool true)]):=by
 refine f8 (T:=892) (o:=dT [.none,.none,.bool false,.bool false]) rfl (G.says.obj s!"k" rfl) rfl λvs ks hv hk=>?_
 obtain ⟨a0,a1,rfl⟩:∃a0 a1,vs=[a0,a1]:=by
  rcases vs with _|⟨a0,_|⟨a1,_|_⟩⟩<;>simp at hv
  exact ⟨a0,a1,rfl⟩
 obtain ⟨b0,b1,rfl⟩:∃b0 b1,ks=[b0,b1]:=by
  rcases ks with _|⟨b0,_|⟨b1,_|_⟩⟩<;>simp at hk
  exact ⟨b0,b1,rfl⟩
 refine ⟨_,[("self",a0),("instream",a1),("infile",.none),("posix",b0),("punctuation_chars",b1)],s!"2",s!"k",s!"k",λh r q=>?_⟩;obtain ⟨r0,r⟩:=r.c;obtain ⟨r1,r⟩:=r.c;obtain ⟨q0,q⟩:=VRs.c q;obtain ⟨q1,q⟩:=VRs.c q;exact .cons (v:=a0) s!"k" r0 (.cons (v:=a1) s!"k" r1 (.cons (v:= .none) s!"k" rfl (.cons (v:=b0) s!"k" q0 (.cons (v:=b1) s!"k" q1 .nil))))
theorem ug(G:Gd C){sx:Addr}{x:Str}(v:Value):d5 C (dD (aH 29 1) "__init__" "shlex.__init__" (.ref 892) v (.str "cpy313.shlex" 1428) none (.ref 898)) [.r sx,.s x] [("posix",.k (.bool true))] ((["self","instream","infile","posix","punctuation_chars"]:List Str).zip [.r sx,.s x,.k .none,.k (.bool true),.k (.bool false)]):=by
 refine f8 (T:=892) (o:=dT [.none,.none,.bool false,.bool false]) rfl (G.says.obj s!"k" rfl) rfl λvs ks hv hk=>?_
 obtain ⟨a0,a1,rfl⟩:∃a0 a1,vs=[a0,a1]:=by
  rcases vs with _|⟨a0,_|⟨a1,_|_⟩⟩<;>simp at hv
  exact ⟨a0,a1,rfl⟩
 obtain ⟨b0,rfl⟩:∃b0,ks=[b0]:=by
  rcases ks with _|⟨b0,_|_⟩<;>simp at hk
  exact ⟨b0,rfl⟩
 refine ⟨_,[("self",a0),("instream",a1),("infile",.none),("posix",b0),("punctuation_chars",.bool false)],s!"2",s!"k",s!"k",λh r q=>?_⟩;obtain ⟨r0,r⟩:=r.c;obtain ⟨r1,r⟩:=r.c;obtain ⟨q0,q⟩:=VRs.c q;exact .cons (v:=a0) s!"k" r0 (.cons (v:=a1) s!"k" r1 (.cons (v:= .none) s!"k" rfl (.cons (v:=b0) s!"k" q0 (.cons (v:= .bool false) s!"k" rfl .nil))))
end
section
open Builtin.ObjectAttr
local macro_rules | `(tactic|specialize $s:str)=>wk wD s
noncomputable abbrev shW:Str:=EW "abcdfeghijklmnopqrstuvwxyzABCDEFGHIJKLMNOPQRSTUVWXYZ0123456789_" ++EW "ßàáâãäåæçèéêëìíîïðñòóôõöøùúûüýþÿÀÁÂÃÄÅÆÇÈÉÊËÌÍÎÏÐÑÒÓÔÕÖØÙÚÛÜÝÞ"
noncomputable abbrev eu:Str:=shW++EW "~-./*?="
theorem wh:∀c∈eu.cps.toList,c∉(EW "();<>|&").cps.toList:=s!"1"
noncomputable def shA(io pbk fs:Addr)(W:Str):List (Str×MV):=
 [("instream",.r io),("infile",.k .none),("posix",.k (.bool true)),("eof",.k .none),("commenters",.s "#"),("wordchars",.s W),("whitespace",.s " \t\r\n"),("whitespace_split",.k (.bool false)),
  ("quotes",.s "'\""),("escape",.s "\\"),("escapedquotes",.s "\""),("state",.s " "),("pushback",.r pbk),("lineno",.i 1),("debug",.i 0),("token",.s ""),("filestack",.r fs),("source",.k .none)]
section
variable {X:Xc} {σ0 σ:Sg} {sx dsx:Addr} {ρ:Lo}
set_option maxHeartbeats 4000000 in
theorem vJ(G:Gd X.C)(O:XOk X)(N:Kn X)(hin:GF X.env=false){k:Nat}(R:Rm (k+3) X.A){x:Str}{p:Bool}(h:SI σ0 sx dsx [] [] σ)
 (g_isinstance:X.gs.lookup (EW "isinstance")=EU (.builtin "isinstance")) (g_str:X.gs.lookup (EW "str")=EU (.type "str")) (g_StringIO:X.gs.lookup (EW "StringIO")=EU (.ref 840))
 (g_deque:X.gs.lookup (EW "deque")=EU (.type "collections.deque")) (g_dict:X.gs.lookup (EW "dict")=EU (.type "dict"))
 (l_self:lk ρ "self" =EU (EU (.r sx))) (l_instream:lk ρ "instream" =EU (EU (.s x))) (l_infile:lk ρ "infile" =EU (EU (.k .none))) (l_posix:lk ρ "posix" =EU (EU (.k (.bool true)))) (l_pc:lk ρ "punctuation_chars" =EU (EU (.k (.bool p)))) (l_t:lk ρ "t" =EU none)
 {QF:Fl->St->Prop} (hQ:∀σ' ρ' io dio pbk fs pc,LX σ' sx dsx io dio pbk fs (if p=true then eu else shW) (if p=true then "();<>|&" else "") pc x (EU " ") "" 0 none->σ0 io=none->σ0 dio=none->(∀a,pc=EU a->σ0 a=none)->(∀b m,b≠dsx->σ0 b=EU m->σ' b=EU m)->QF .next ⟨σ',ρ'⟩):WS X (cu (aH 29 1)) ⟨σ,ρ⟩ QF:=by
 conv=>arg 2;whnf
 refine aa (bl (bZ s!"r" (aT O g_isinstance trivial (ac (ai O l_instream (ac (de O g_str (ag (te (ay (ift rfl ?_)))))))))))
 refine aa (ah s!"r" s!"r" trivial (fW O N g_StringIO trivial trivial s!"k" (ac (ai O l_instream (ag ?_)))))
 refine gK (iU (CtA.mono (qI G R) ?_))
 intro m σ1 zr1;refine am zr1 λio dio z1 z2=>?_;clear zr1;subst z1;obtain ⟨f1,f2,f3,rfl⟩:=z2
 have f1':(σ.put dio (.ns (bH x 0))) io=none:=(Sg.put_ne _ _ f3).trans f1
 have u_io:=h.free f1
 have u_dio:=h.free f2
 have h1:=(h.new f2 (.ns (bH x 0))).new f1' (.ins 840 dio)
 refine aJ O l_instream (ae ?_)
 have m_self:lk (stL ρ "instream" (.r io)) "self" =EU (EU (.r sx)):=s!"lk"
 have m_instream:lk (stL ρ "instream" (.r io)) "instream" =EU (EU (.r io)):=s!"lk"
 have m_infile:lk (stL ρ "instream" (.r io)) "infile" =EU (EU (.k .none)):=s!"lk"
 have m_posix:lk (stL ρ "instream" (.r io)) "posix" =EU (EU (.k (.bool true))):=s!"lk"
 have m_pc:lk (stL ρ "instream" (.r io)) "punctuation_chars" =EU (EU (.k (.bool p))):=s!"lk"
 have m_t:lk (stL ρ "instream" (.r io)) "t" =EU none:=s!"lk"
 generalize stL ρ "instream" (.r io)=ρ1 at m_self m_instream m_infile m_posix m_pc m_t⊢
 generalize (σ.put dio (.ns (bH x 0))).put io (.ins 840 dio)=σ1 at h1⊢
 clear l_self l_instream l_infile l_posix l_pc l_t f1'
 repeat walk_at "s"
 refine gP (by rw[sizeLine_eq];decide+kernel) ?_
 repeat walk_at "s"
 refine bQ O g_deque trivial (ag (mF (st:=⟨_,_⟩) λpbk n_pbk=>?_))
 have h2:=SI.new s!"A" n_pbk (dqO none)
 clear n_pbk
 repeat walk_at "s"
 refine bQ O g_deque trivial (ag (mF (st:=⟨_,_⟩) λfs n_fs=>?_))
 have h3:=SI.new s!"A" n_fs (dqO none)
 repeat walk_at "s"
 rename_i hS
 have hS2:SI σ0 sx dsx [(fs,dqO none),(pbk,dqO none),(io,.ins 840 dio),(dio,.ns (bH x 0))] (shA io pbk fs shW) _:=Eq.mp (congrArg (λL=>SI σ0 sx dsx _ L _) s!"k") hS
 clear hS h1 h2 h3 n_fs f1 f2
 dsimp only
 cases p with
 |false=>
  refine ift rfl ?_
  refine aa (ah s!"r" s!"r" trivial (aI (aJ O m_pc (ae (ak (ae ?_))))))
  have n_self:lk (stL ρ1 "punctuation_chars" (.s "")) "self" =EU (EU (.r sx)):=s!"lk"
  have n_pc:lk (stL ρ1 "punctuation_chars" (.s "")) "punctuation_chars" =EU (EU (.s "")):=s!"lk"
  walk_at "s";walk_at "s";walk_at "s";walk_at "s"
  repeat walk_at "s"
  refine wSI N hS2 s!"k" (by show 18<900;decide) λσa ha=>?_
  repeat walk_at "s"
  refine oN s!"d" (aD s!"d" (ak (ae (ak ?_))))
  have ha2:SI σ0 sx dsx [(fs,dqO none),(pbk,dqO none),(io,.ins 840 dio),(dio,.ns (bH x 0))] (shN io pbk fs shW "" none (.s " ") 1 "") _:=Eq.mp (congrArg (λL=>SI σ0 sx dsx _ L _) s!"k") ha
  refine hQ _ _ io dio pbk fs none ⟨ha2.i,⟨1,ha2.n⟩,(ha2.ow (io,.ins 840 dio) s!"mm").2,(ha2.ow (dio,.ns (bH x 0)) s!"mm").2,(ha2.ow (pbk,dqO none) s!"mm").2,(ha2.ow (fs,dqO none) s!"mm").2,(λa h=>nomatch h),(λ_=>rfl),s!"d"⟩ u_io u_dio (λa h=>nomatch h) ha2.fr
 |true=>
  refine aD rfl ?_
  refine aa (bl (aC s!"r" (ai O m_pc (eJ (vW (ay (ift rfl ?_)))))))
  refine aa (ah s!"r" s!"r" trivial (aI (aJ O m_pc (ae (ak (ae (ak (ae ?_))))))))
  have n_self:lk (stL ρ1 "punctuation_chars" (.s "();<>|&")) "self" =EU (EU (.r sx)):=s!"lk"
  have n_t:lk (stL ρ1 "punctuation_chars" (.s "();<>|&")) "t" =EU none:=s!"lk"
  have n_pc:lk (stL ρ1 "punctuation_chars" (.s "();<>|&")) "punctuation_chars" =EU (EU (.s "();<>|&")):=s!"lk"
  repeat walk_at "s"
  refine wSI N hS2 s!"k" (by show 18<900;decide) λσa ha=>?_
  repeat walk_at "s"
  refine oN s!"d" (ift s!"d" ?_)
  repeat walk_at "s"
  refine bQ O g_deque trivial (ag (mF (st:=⟨_,_⟩) λpc n_pcs=>?_))
  have ha2:SI σ0 sx dsx [(fs,dqO none),(pbk,dqO none),(io,.ins 840 dio),(dio,.ns (bH x 0))] (shN io pbk fs shW "();<>|&" none (.s " ") 1 "") _:=Eq.mp (congrArg (λL=>SI σ0 sx dsx _ L _) s!"k") ha
  have h4:=ha2.new n_pcs (dqO none)
  have u1:=ha2.free n_pcs
  have u2:=ha2.ne n_pcs (p:=(fs,dqO none)) s!"mm"
  have u3:=ha2.ne n_pcs (p:=(pbk,dqO none)) s!"mm"
  clear n_pcs ha ha2 hS2
  dsimp only at u2 u3⊢
  refine j5 N (ai O n_self (wSI N h4 s!"k" (Fs gE s!"d") λσb hb=>?_))
  have hb2:SI σ0 sx dsx [(pc,dqO none),(fs,dqO none),(pbk,dqO none),(io,.ins 840 dio),(dio,.ns (bH x 0))] (shN io pbk fs shW "();<>|&" (EU pc) (.s " ") 1 "") _:=Eq.mp (congrArg (λL=>SI σ0 sx dsx _ L _) s!"k") hb
  clear hb h4
  refine ae ?_
  walk_at "s"
  refine iC N (ai O n_self (gSI N hb2 s!"k" (rSI N hb2 ey s!"k" trivial (aI (gP (by rw[sizeLine_eq];decide+kernel) (wSI N hb2 s!"k" (Fs gE s!"d") λσc hc=>?_))))))
  have hc2:SI σ0 sx dsx [(pc,dqO none),(fs,dqO none),(pbk,dqO none),(io,.ins 840 dio),(dio,.ns (bH x 0))] (shN io pbk fs eu "();<>|&" (EU pc) (.s " ") 1 "") _:=Eq.mp (congrArg (λL=>SI σ0 sx dsx _ L _) s!"k") hc
  clear hc hb2
  refine ae ?_
  refine aa (ah s!"r" s!"r" trivial (po G s!"r" trivial (bh s!"r" (ai O n_self (rSI N hc2 ey s!"k" trivial ⟨⟨_,rfl⟩,rq O s!"r" trivial (de O g_dict ⟨rfl,ai O n_pc (aR _ rfl s!"d" (λfk n_fk=>⟨_,fk,rfl,Sg.put_same ..,s!"d",λtb n_tb=>?_⟩))⟩)⟩)))))
  have h5:=(hc2.new n_fk (fkO X.C.w "();<>|&")).new n_tb (mc X.C.w "();<>|&")
  dsimp only
  refine aJ O n_t (ae ?_)
  have o_self:lk (stL (stL ρ1 "punctuation_chars" (.s "();<>|&")) "t" (.r tb)) "self" =EU (EU (.r sx)):=s!"lk"
  have o_t:lk (stL (stL ρ1 "punctuation_chars" (.s "();<>|&")) "t" (.r tb)) "t" =EU (EU (.r tb)):=s!"lk"
  refine aa (ah s!"r" s!"r" trivial (bp (T:="str") (id:="str.translate") trivial s!"r" s!"4" s!"r" F.plainAttrs_str F.slot_str_translate F.type_str_translate (bh s!"r" (ai O o_self (rSI N h5 ey s!"k" trivial ⟨hZ,ac (ai O o_t (ag (qQ G O (y:="();<>|&") (Sg.put_same ..) s!"1" s!"1" (by rw[sizeLine_eq];decide+kernel) wh ?_)))⟩)))))
  refine j5 N (ai O o_self (wSI N h5 s!"k" (Fs gE s!"d") λσd hd=>?_))
  have hd2:SI σ0 sx dsx [(tb,mc X.C.w "();<>|&"),(fk,fkO X.C.w "();<>|&"),(pc,dqO none),(fs,dqO none),(pbk,dqO none),(io,.ins 840 dio),(dio,.ns (bH x 0))] (shN io pbk fs eu "();<>|&" (EU pc) (.s " ") 1 "") _:=Eq.mp (congrArg (λL=>SI σ0 sx dsx _ L _) s!"k") hd
  refine ae (ak (ae (ak ?_)))
  refine hQ _ _ io dio pbk fs (EU pc) ⟨hd2.i,⟨1,hd2.n⟩,(hd2.ow (io,.ins 840 dio) s!"mm").2,(hd2.ow (dio,.ns (bH x 0)) s!"mm").2,(hd2.ow (pbk,dqO none) s!"mm").2,(hd2.ow (fs,dqO none) s!"mm").2,(λa h=>by cases h;exact (ia2 ((hd2.ow (pc,dqO none) s!"mm").2) u3 u2)),(λh=>nomatch h),(show ((EW "();<>|&").length !=0)=true by decide)⟩ u_io u_dio (λa h=>by cases h;exact u1) hd2.fr
end
end
section
theorem tE(P:F1)(dv:Addr->Value):(makesIn (KD P dv) 975&&findIn (KD P dv) (.ref 975) "__init__" ==EU (EU (.ref 899))&&typeIn (KD P dv) (.ref 899)==EU (.type "function")&&eQ (KD P dv) 975)=true:=s!"k"
variable {C:Cx}
noncomputable def oH(σ0:Sg)(σ':Sg)(m:MV)(W Pc:Str)(x:Str):Prop:=∃sx dsx io dio pbk fs pc,m= .r sx∧LX σ' sx dsx io dio pbk fs W Pc pc x (EU " ") "" 0 none∧σ0 sx=none∧σ0 dsx=none∧σ0 io=none∧σ0 dio=none∧(∀a,pc=EU a->σ0 a=none)∧∀b m,σ0 b=EU m->σ' b=EU m
noncomputable def aF:List String:=["self","instream","infile","posix","punctuation_chars","t"]
theorem jJ:aF.Nodup:=s!"1"
set_option maxHeartbeats 4000000 in
theorem n8(G:Gd C){A:Fb}{k:Nat}(R:Rm (k+4) A){sx dsx:Addr}{x:Str}{σ:Sg}(h:SI σ sx dsx [] [] σ):
 CtA C A (.ref 899) [.r sx,.s x] [("posix",.k (.bool true)),("punctuation_chars",.k (.bool true))] σ λm σ'=>m= .k .none∧∃io dio pbk fs pc,LX σ' sx dsx io dio pbk fs eu "();<>|&" pc x (EU " ") "" 0 none∧σ io=none∧σ dio=none∧(∀a,pc=EU a->σ a=none)∧∀b m,b≠dsx->σ b=EU m->σ' b=EU m:=by
 refine aW G R (a:=899) (c:=898) (x:=aH 29 1) (n:="__init__") (q:="shlex.__init__") (d:=(.ref 892)) (pm:=(.str "cpy313.shlex" 1428)) (an:=none) (t:=1446)
  (ps:=(["self","instream","infile","posix","punctuation_chars"]:List Str).zip [.r sx,.s x,.k .none,.k (.bool true),.k (.bool true)]) s!"k" s!"k" s!"k" s!"k" [("isinstance",.builtin "isinstance"),("str",.type "str"),("StringIO",.ref 840),("deque",.type "collections.deque"),("dict",.type "dict")] s!"k" (λv=>uw G v) (ρ:=zL aF [EU (.r sx),EU (.s x),EU (.k .none),EU (.k (.bool true)),EU (.k (.bool true)),none]) s!"k" λQf hQf X hC O R' hin hg hE=>?_
 subst hC;have N:=kn G;have hd:=jJ;have i_self:gI aF 0=EU "self" :=rfl;have i_instream:gI aF 1=EU "instream" :=rfl;have i_infile:gI aF 2=EU "infile" :=rfl;have i_posix:gI aF 3=EU "posix" :=rfl;have i_punctuation_chars:gI aF 4=EU "punctuation_chars" :=rfl;have i_t:gI aF 5=EU "t" :=rfl;have g_isinstance:X.gs.lookup (EW "isinstance")=EU (.builtin "isinstance" :Value):=hg▸s!"k";have g_str:X.gs.lookup (EW "str")=EU (.type "str" :Value):=hg▸s!"k";have g_StringIO:X.gs.lookup (EW "StringIO")=EU (.ref 840:Value):=hg▸s!"k";have g_deque:X.gs.lookup (EW "deque")=EU (.type "collections.deque" :Value):=hg▸s!"k";have g_dict:X.gs.lookup (EW "dict")=EU (.type "dict" :Value):=hg▸s!"k";clear hg hE;conv=>arg 2;whnf
 have l_self:lk (zL aF [EU (.r sx),EU (.s x),EU (.k .none),EU (.k (.bool true)),EU (.k (.bool true)),none]) "self" =EU (EU (.r sx)):=lkI hd i_self rfl;have l_instream:lk (zL aF [EU (.r sx),EU (.s x),EU (.k .none),EU (.k (.bool true)),EU (.k (.bool true)),none]) "instream" =EU (EU (.s x)):=lkI hd i_instream rfl;have l_infile:lk (zL aF [EU (.r sx),EU (.s x),EU (.k .none),EU (.k (.bool true)),EU (.k (.bool true)),none]) "infile" =EU (EU (.k .none)):=lkI hd i_infile rfl;have l_posix:lk (zL aF [EU (.r sx),EU (.s x),EU (.k .none),EU (.k (.bool true)),EU (.k (.bool true)),none]) "posix" =EU (EU (.k (.bool true))):=lkI hd i_posix rfl;have l_punctuation_chars:lk (zL aF [EU (.r sx),EU (.s x),EU (.k .none),EU (.k (.bool true)),EU (.k (.bool true)),none]) "punctuation_chars" =EU (EU (.k (.bool true))):=lkI hd i_punctuation_chars rfl;have l_t:lk (zL aF [EU (.r sx),EU (.s x),EU (.k .none),EU (.k (.bool true)),EU (.k (.bool true)),none]) "t" =EU (none):=lkI hd i_t rfl;generalize zL aF [EU (.r sx),EU (.s x),EU (.k .none),EU (.k (.bool true)),EU (.k (.bool true)),none]=ρ at l_self l_instream l_infile l_posix l_punctuation_chars l_t⊢;clear hd i_self i_instream i_infile i_posix i_punctuation_chars i_t;refine vJ G O N hin R' (p:=true) h g_isinstance g_str g_StringIO g_deque g_dict l_self l_instream l_infile l_posix l_punctuation_chars l_t λσ' ρ' io dio pbk fs pc a b c d e=>?_;exact hQf _ _ (jo rfl io dio ⟨pbk,fs,pc,a,b,c,d,e⟩)
noncomputable def aE:List String:=["self","instream","infile","posix","punctuation_chars","t"]
theorem jL:aE.Nodup:=s!"1"
set_option maxHeartbeats 4000000 in
theorem nU(G:Gd C){A:Fb}{k:Nat}(R:Rm (k+4) A){sx dsx:Addr}{x:Str}{σ:Sg}(h:SI σ sx dsx [] [] σ):
 CtA C A (.ref 899) [.r sx,.s x] [("posix",.k (.bool true))] σ λm σ'=>m= .k .none∧∃io dio pbk fs pc,LX σ' sx dsx io dio pbk fs shW "" pc x (EU " ") "" 0 none∧σ io=none∧σ dio=none∧(∀a,pc=EU a->σ a=none)∧∀b m,b≠dsx->σ b=EU m->σ' b=EU m:=by
 refine aW G R (a:=899) (c:=898) (x:=aH 29 1) (n:="__init__") (q:="shlex.__init__") (d:=(.ref 892)) (pm:=(.str "cpy313.shlex" 1428)) (an:=none) (t:=1446)
  (ps:=(["self","instream","infile","posix","punctuation_chars"]:List Str).zip [.r sx,.s x,.k .none,.k (.bool true),.k (.bool false)]) s!"k" s!"k" s!"k" s!"k" [("isinstance",.builtin "isinstance"),("str",.type "str"),("StringIO",.ref 840),("deque",.type "collections.deque"),("dict",.type "dict")] s!"k" (λv=>ug G v) (ρ:=zL aE [EU (.r sx),EU (.s x),EU (.k .none),EU (.k (.bool true)),EU (.k (.bool false)),none]) s!"k" λQf hQf X hC O R' hin hg hE=>?_
 subst hC;have N:=kn G;have hd:=jL;have i_self:gI aE 0=EU "self" :=rfl;have i_instream:gI aE 1=EU "instream" :=rfl;have i_infile:gI aE 2=EU "infile" :=rfl;have i_posix:gI aE 3=EU "posix" :=rfl;have i_punctuation_chars:gI aE 4=EU "punctuation_chars" :=rfl;have i_t:gI aE 5=EU "t" :=rfl;have g_isinstance:X.gs.lookup (EW "isinstance")=EU (.builtin "isinstance" :Value):=hg▸s!"k";have g_str:X.gs.lookup (EW "str")=EU (.type "str" :Value):=hg▸s!"k";have g_StringIO:X.gs.lookup (EW "StringIO")=EU (.ref 840:Value):=hg▸s!"k";have g_deque:X.gs.lookup (EW "deque")=EU (.type "collections.deque" :Value):=hg▸s!"k";have g_dict:X.gs.lookup (EW "dict")=EU (.type "dict" :Value):=hg▸s!"k";clear hg hE;conv=>arg 2;whnf
 have l_self:lk (zL aE [EU (.r sx),EU (.s x),EU (.k .none),EU (.k (.bool true)),EU (.k (.bool false)),none]) "self" =EU (EU (.r sx)):=lkI hd i_self rfl;have l_instream:lk (zL aE [EU (.r sx),EU (.s x),EU (.k .none),EU (.k (.bool true)),EU (.k (.bool false)),none]) "instream" =EU (EU (.s x)):=lkI hd i_instream rfl;have l_infile:lk (zL aE [EU (.r sx),EU (.s x),EU (.k .none),EU (.k (.bool true)),EU (.k (.bool false)),none]) "infile" =EU (EU (.k .none)):=lkI hd i_infile rfl;have l_posix:lk (zL aE [EU (.r sx),EU (.s x),EU (.k .none),EU (.k (.bool true)),EU (.k (.bool false)),none]) "posix" =EU (EU (.k (.bool true))):=lkI hd i_posix rfl;have l_punctuation_chars:lk (zL aE [EU (.r sx),EU (.s x),EU (.k .none),EU (.k (.bool true)),EU (.k (.bool false)),none]) "punctuation_chars" =EU (EU (.k (.bool false))):=lkI hd i_punctuation_chars rfl;have l_t:lk (zL aE [EU (.r sx),EU (.s x),EU (.k .none),EU (.k (.bool true)),EU (.k (.bool false)),none]) "t" =EU (none):=lkI hd i_t rfl;generalize zL aE [EU (.r sx),EU (.s x),EU (.k .none),EU (.k (.bool true)),EU (.k (.bool false)),none]=ρ at l_self l_instream l_infile l_posix l_punctuation_chars l_t⊢;clear hd i_self i_instream i_infile i_posix i_punctuation_chars i_t;refine vJ G O N hin R' (p:=false) h g_isinstance g_str g_StringIO g_deque g_dict l_self l_instream l_infile l_posix l_punctuation_chars l_t λσ' ρ' io dio pbk fs pc a b c d e=>?_;exact hQf _ _ (jo rfl io dio ⟨pbk,fs,pc,a,b,c,d,e⟩)
theorem SI.first{σ:Sg}{x dx:Addr}(hx:σ x=none)(hdx:σ dx=none)(ne:x≠dx):SI ((σ.put dx (.ns [])).put x (.ins 975 dx)) x dx [] [] ((σ.put dx (.ns [])).put x (.ins 975 dx)):=
 ⟨Sg.put_same ..,by rw[Sg.put_ne _ _ (E8 ne),Sg.put_same],λ_ _ _ h=>h,λ_ h=>by cases h⟩
theorem t7{σ σ':Sg}{x dx:Addr}{W Pc y:Str}(hx:σ x=none)(hdx:σ dx=none)(ne:x≠dx){m:MV}
 (h:m= .k .none∧∃io dio pbk fs pc,LX σ' x dx io dio pbk fs W Pc pc y (EU " ") "" 0 none∧((σ.put dx (.ns [])).put x (.ins 975 dx)) io=none∧((σ.put dx (.ns [])).put x (.ins 975 dx)) dio=none∧(∀a,pc=EU a->((σ.put dx (.ns [])).put x (.ins 975 dx)) a=none)∧∀b m,b≠dx->((σ.put dx (.ns [])).put x (.ins 975 dx)) b=EU m->σ' b=EU m):m= .k .none∧oH σ σ' (.r x) W Pc y:=by
 refine b7 h λz2=>?_;clear h;refine xe2 z2 λio dio z3=>?_;clear z2;obtain ⟨pbk,fs,pc,a,b,c,d,e⟩:=z3
 have old:∀b,((σ.put dx (.ns [])).put x (.ins 975 dx)) b=none->σ b=none:=λb hb=>by
  cases hs:σ b with
  |none=>rfl
  |some m=>
   have b1:=aj hx hs;have b2:=aj hdx hs;rw[Sg.put_ne _ _ b1,Sg.put_ne _ _ b2,hs] at hb;cases hb
 refine ⟨rfl,x,dx,io,dio,pbk,fs,pc,rfl,a,hx,hdx,old _ b,old _ c,λp hp=>old _ (d p hp),λp m hp=>?_⟩;have b1:=aj hx hp;have b2:=aj hdx hp;exact e p m b2 (by rw[Sg.put_ne _ _ b1,Sg.put_ne _ _ b2];exact hp)
theorem tK(G:Gd C){A:Fb}{k:Nat}(R:Rm (k+5) A){x:Str}{σ:Sg}:
 CtA C A (.ref 975) [.s x] [("posix",.k (.bool true)),("punctuation_chars",.k (.bool true))] σ λm σ'=>oH σ σ' m eu "();<>|&" x:=by
 refine xe1 G.says.kd λdv hK=>?_;have M:=tE C.w.params dv;simp only[Fd,beq_iff_eq] at M;refine xa1 M λz1 _=>?_;refine xa1 z1 λz2 m3=>?_;obtain ⟨m1,m2⟩:=z2;refine j9 hK R s!"d" m1 m2 m3 λA' R' x dx hx hdx ne=>?_;exact CtA.mono (n8 G R' (SI.first hx hdx ne)) λm σ' h=>t7 hx hdx ne h
theorem s8(G:Gd C){A:Fb}{k:Nat}(R:Rm (k+5) A){x:Str}{σ:Sg}:
 CtA C A (.ref 975) [.s x] [("posix",.k (.bool true))] σ λm σ'=>oH σ σ' m shW "" x:=by
 refine xe1 G.says.kd λdv hK=>?_;have M:=tE C.w.params dv;simp only[Fd,beq_iff_eq] at M;refine xa1 M λz1 _=>?_;refine xa1 z1 λz2 m3=>?_;obtain ⟨m1,m2⟩:=z2;refine j9 hK R s!"d" m1 m2 m3 λA' R' x dx hx hdx ne=>?_;exact CtA.mono (nU G R' (SI.first hx hdx ne)) λm σ' h=>t7 hx hdx ne h
end
section
open Builtin.ObjectAttr
noncomputable def Reads(W Pc buf:Str):List Str->Option Str->Nat->Option Str->Prop
 | [],st,pos,pb=>∃n,ig W Pc buf (λls=>cw ls= .k .none) n ⟨st,"",pos,pb,false," "⟩
 |t::ts,st,pos,pb=>∃n,ig W Pc buf (λls=>cw ls= .s t∧Reads W Pc buf ts ls.st ls.pos ls.pb) n ⟨st,"",pos,pb,false," "⟩
section
variable {σ σ':Sg} {sx dsx io dio pbk fs:Addr} {W Pc:Str} {pc:Option Addr} {buf:Str} {st:Option Str} {tok:Str} {pos:Nat} {pb:Option Str}
theorem LX.keep(h:LX σ sx dsx io dio pbk fs W Pc pc buf st tok pos pb)(k:∀b m,(∀vs,m≠ .lst vs)->σ b=EU m->σ' b=EU m):LX σ' sx dsx io dio pbk fs W Pc pc buf st tok pos pb:=by
 obtain ⟨a,⟨ln,b⟩,c,d,e,f,g,i,j⟩:=h
 exact ⟨k _ _ (λ_ h=>by cases h) a,⟨ln,k _ _ (λ_ h=>by cases h) b⟩,k _ _ (λ_ h=>by cases h) c,k _ _ (λ_ h=>by cases h) d,k _ _ (λ_ h=>by cases h) e,k _ _ (λ_ h=>by cases h) f,
  λx hx=>⟨k _ _ (λ_ h=>by cases h) (g x hx).1,(g x hx).2⟩,i,j⟩
theorem LX.list(h:LX σ sx dsx io dio pbk fs W Pc pc buf st tok pos pb){l:Addr}{vs:List MV}(hl:σ l=EU (.lst vs)):l≠dsx∧l≠dio∧∀a,pc=EU a->l≠a:=by
 obtain ⟨a,⟨ln,b⟩,c,d,e,f,g,i,j⟩:=h;refine (ia2 (λx=>?_) (λx=>?_) (λa ha x=>?_))
 ·clear a;subst x;rw[b] at hl;cases hl
 ·clear c;subst x;rw[d] at hl;cases hl
 ·subst x;rw[(g _ ha).1] at hl;cases hl
theorem wj{l:Addr}{vs:List MV}(hl:σ l=EU (.lst vs))(m':MO):∀b m,(∀vs,m≠ .lst vs)->σ b=EU m->(σ.put l m') b=EU m:=λb m hm hb=>by
 rw[Sg.put_ne _ _ (λe=>by subst e;rw[hl] at hb;cases hb;exact hm _ rfl)];exact hb
theorem dm{l:Addr}(hl:σ l=none)(m':MO):∀b m,σ b=EU m->(σ.put l m') b=EU m:=λb m hb=>by
 rw[Sg.put_ne _ _ (λe=>by subst e;rw[hl] at hb;cases hb)];exact hb
variable {X:Xc} {ρ:Lo} {Q:MV->St->Prop}
theorem ia(G:Gd X.C)(O:XOk X)(N:Kn X){k:Nat}(R:Rm (k+4) X.A)(hx:LX σ sx dsx io dio pbk fs W Pc pc buf st "" pos pb)(hbuf:buf.length<1000)(hP:Pc.length≤500){Ks:LS->Prop}{n:Nat}
 (HR:ig W Pc buf Ks n ⟨st,"",pos,pb,false," "⟩) {o:Fw} {apos pos':Pos} {pl:Sem Bool}
 (he:eval (.Call (.Attribute o "get_token" apos) [] [] pos') X.env=(do
  let ov←eval o X.env
  standAt apos.atName
  let (f,first)←holding [ov] (getMethod ov "get_token" pl)
  callWith pos' f first (backTo pos' (Hl [] X.env)) []))
 (ho:∀Q':MV->St->Prop,Q' (.r sx) ⟨σ,ρ⟩->WE X o ⟨σ,ρ⟩ Q')
 (hq:∀ls' σ',Ks ls'->LX σ' sx dsx io dio pbk fs W Pc pc buf ls'.st "" ls'.pos ls'.pb->(∀b m,b≠dsx->b≠dio->(∀a,pc=EU a->b≠a)->σ b=EU m->σ' b=EU m)->Q (cw ls') ⟨σ',ρ⟩):
 WE X (.Call (.Attribute o "get_token" apos) [] [] pos') ⟨σ,ρ⟩ Q:=by
 refine xe1 hx.n λln hn=>?_;have hno:∀ln,nk (shN io pbk fs W Pc pc (stM st) ln "") "get_token" =none:=λln=>by clear hx hq hn;cases pc<;>kernel_rfl
 refine bK N he trivial (ho _ (dK 936 hx.i hn (hno ln) (eH _ _) (wW _ _) s!"k" (bu G s!"k") (ag (bx (Ct.mono (CtA.ct (ou G R (L:=⟨sx,dsx,io,dio,pbk,fs,W,Pc,pc,buf,σ,hbuf⟩) rfl hx hP HR)) ?_)))));intro m σ' zr1;refine aV zr1 λls' HK z1 z2=>?_;clear zr1;subst z1;obtain ⟨hx',fr⟩:=z2;exact hq ls' σ' HK hx' fr
end
noncomputable def Nx(W Pc buf:Str):List Str->LS->Prop
 | [],ls=>cw ls= .k .none
 |t::ts,ls=>cw ls= .s t∧Reads W Pc buf ts ls.st ls.pos ls.pb
theorem Reads.run{W Pc buf:Str}{l:List Str}{st:Option Str}{pos:Nat}{pb:Option Str}(h:Reads W Pc buf l st pos pb):∃n,ig W Pc buf (Nx W Pc buf l) n ⟨st,"",pos,pb,false," "⟩:=by
 cases l<;>exact h
noncomputable def Cur(σ:Sg)(sx dsx io dio pbk fs:Addr)(W Pc:Str)(pc:Option Addr)(buf:Str)(toks dn:List Str)(m:MV)(n:Nat):Prop:=
 (m= .k .none∧dn=toks)∨∃t ts st pos pb,m= .s t∧toks=dn++t::ts∧n=ts.length+1∧Reads W Pc buf ts st pos pb∧LX σ sx dsx io dio pbk fs W Pc pc buf st "" pos pb
theorem Cur.of{σ:Sg}{sx dsx io dio pbk fs:Addr}{W Pc:Str}{pc:Option Addr}{buf:Str}{toks dn l:List Str}{ls:LS}(h:Nx W Pc buf l ls)(e:toks=dn++l)(hx:LX σ sx dsx io dio pbk fs W Pc pc buf ls.st "" ls.pos ls.pb):Cur σ sx dsx io dio pbk fs W Pc pc buf toks dn (cw ls) l.length:=by
 cases l with
 |nil=>exact .inl ⟨h,by rw[e,Hh]⟩
 |cons t ts=>exact .inr (ie3 t ts _ ⟨_,_,h.1,e,rfl,h.2,hx⟩)
variable {C:Cx}
noncomputable def bj:List String:=["line","lexer","tokens","token"]
theorem j6:bj.Nodup:=s!"1"
set_option maxHeartbeats 4000000 in
theorem iX(G:Gd C){A:Fb}{k:Nat}(R:Rm (k+6) A){x:Str}{toks:List Str}{σ:Sg}(hx:x.length<1000)(ht:toks.length≤900)(H:Reads eu "();<>|&" x toks (EU " ") 0 none):
 CtA C A (.ref 998) [.s x] [] σ λm σ'=>∃l,m= .r l∧σ l=none∧σ' l=EU (.lst (toks.map .s))∧∀b m,σ b=EU m->σ' b=EU m:=by
 refine aW G R (a:=998) (c:=997) (x:=top 33) (n:="_law_read") (q:="_law_read") (d:= .none) (pm:=(.str "law_il0198_01" 1575)) (an:=none) (t:=1596)
  (ps:=(["line"]:List Str).zip [.s x]) s!"k" s!"k" s!"k" s!"k" [("shlex",.ref 975)] s!"k" (λv=>(aX rfl s!"k" s!"1" (bk λa0=>cK s!"k")).a) (ρ:=zL bj [EU (.s x),none,none,none]) s!"k" λQf hQf X hC O R' hin hg hE=>?_
 subst hC;have N:=kn G;have hd:=j6;have i_line:gI bj 0=EU "line" :=rfl;have i_lexer:gI bj 1=EU "lexer" :=rfl;have i_tokens:gI bj 2=EU "tokens" :=rfl;have i_token:gI bj 3=EU "token" :=rfl;have g_shlex:X.gs.lookup (EW "shlex")=EU (.ref 975:Value):=hg▸s!"k";clear hg hE;conv=>arg 2;whnf
 have l_line:lk (zL bj [EU (.s x),none,none,none]) "line" =EU (EU (.s x)):=lkI hd i_line rfl;have l_lexer:lk (zL bj [EU (.s x),none,none,none]) "lexer" =EU (none):=lkI hd i_lexer rfl;have l_tokens:lk (zL bj [EU (.s x),none,none,none]) "tokens" =EU (none):=lkI hd i_tokens rfl;have l_token:lk (zL bj [EU (.s x),none,none,none]) "token" =EU (none):=lkI hd i_token rfl;generalize zL bj [EU (.s x),none,none,none]=ρ at l_line l_lexer l_tokens l_token⊢;clear hd i_line i_lexer i_tokens i_token
 have hc:eQ (KD X.C.w.params N.dv) 975=true:=by
  have M:=tE X.C.w.params N.dv;simp only[Fd] at M;exact M.2
 refine aa (ah s!"r" s!"r" trivial (fW O N g_shlex trivial s!"3" hc (ac (ai O l_line (ag (kA (eJ (kA (eJ (gK ?_))))))))));refine iU (CtA.mono (tK G R') ?_);intro m σ1 zr1;refine xe2 zr1 λsx dsx z1=>?_;clear zr1;obtain ⟨io,dio,pbk,fs,pc,rfl,lx,u1,u2,u3,u4,u5,fr⟩:=z1;dsimp only at u1 u2 u3 u4 u5 fr;refine aJ O l_lexer (ae ?_);have h_lexer:lk (stL ρ "lexer" (.r sx)) "lexer" =EU (EU (.r sx)):=s!"lk"
 have h_tokens:lk (stL ρ "lexer" (.r sx)) "tokens" =EU none:=s!"lk"
 have h_token:lk (stL ρ "lexer" (.r sx)) "token" =EU none:=s!"lk"
 generalize stL ρ "lexer" (.r sx)=ρ1 at h_lexer h_tokens h_token⊢;clear l_line l_lexer l_tokens l_token;refine aa (ah s!"r" s!"r" trivial (ca trivial (ag ⟨FZ _,λtl htl=>?_⟩)));dsimp only at htl⊢;refine aJ O h_tokens (ae ?_);have j_lexer:lk (stL ρ1 "tokens" (.r tl)) "lexer" =EU (EU (.r sx)):=s!"lk"
 have j_tokens:lk (stL ρ1 "tokens" (.r tl)) "tokens" =EU (EU (.r tl)):=s!"lk"
 have j_token:lk (stL ρ1 "tokens" (.r tl)) "token" =EU none:=s!"lk"
 generalize stL ρ1 "tokens" (.r tl)=ρ2 at j_lexer j_tokens j_token⊢;clear h_lexer h_tokens h_token;have lx2:=lx.keep (λb m _ hb=>dm htl (.lst []) b m hb);have tl2:(σ1.put tl (.lst [])) tl=EU (.lst (([]:List Str).map .s)):=Sg.put_same ..;have fr2:∀b m,σ b=EU m->(σ1.put tl (.lst [])) b=EU m:=λb m hb=>dm htl _ b m (fr b m hb)
 have tl0:σ tl=none:=by
  cases e:σ tl with
  |none=>rfl
  |some m=>rw[fr _ _ e] at htl;cases htl
 generalize σ1.put tl (.lst [])=σ2 at lx2 tl2 fr2⊢;have old:∀b m,σ b=EU m->b≠dsx∧b≠dio∧∀a,pc=EU a->b≠a:=λb m hb=>(ia2 (λe=>(by clear lx lx2;subst e;rw[u2] at hb;cases hb)) (λe=>(by clear lx lx2;subst e;rw[u4] at hb;cases hb)) (λa ha e=>(by subst e;rw[u5 _ ha] at hb;cases hb)))
 refine xe1 H.run λn0 hr=>?_;have hP:(EW "();<>|&").length≤500:=s!"d"
 refine aa (ah s!"r" s!"r" trivial (ia G O N R' lx2 hx hP hr s!"r" (λQ' q=>ai O j_lexer q) λls' σ3 hk lx3 fr3=>?_));refine aJ O j_token (ae ?_);have z:=lx2.list tl2;refine dG (Q1:=λfl st'=>fl= .next∧lk st'.ρ "tokens" =EU (EU (.r tl))∧st'.σ tl=EU (.lst (toks.map .s))∧∀b m,σ b=EU m->st'.σ b=EU m) ?_ ?_
 ·refine dg (λn st=>∃σ' ρ' m dn,st=⟨σ',ρ'⟩∧lk ρ' "lexer" =EU (EU (.r sx))∧lk ρ' "tokens" =EU (EU (.r tl))∧lk ρ' "token" =EU (EU m)∧σ' tl=EU (.lst (dn.map .s))∧(∀b m,σ b=EU m->σ' b=EU m)∧dn.length≤toks.length∧Cur σ' sx dsx io dio pbk fs eu "();<>|&" pc x toks dn m n) ?_ toks.length
   (fb σ3 _ (cw ls') ([]) rfl s!"lk" s!"lk" s!"lk" (fr3 _ _ z.1 z.2.1 z.2.2 tl2) ⟨λb m hb=>fr3 b m (old b m hb).1 (old b m hb).2.1 (old b m hb).2.2 (fr2 b m hb),FZ _,Cur.of hk rfl lx3⟩)
  intro J hJ n st' zr1;refine bz zr1 λσ' ρ' m dn z1 z2=>?_;clear zr1;subst z1;obtain ⟨i_lexer,i_tokens,i_token,ht',fr',hdn,hc'⟩:=z2;refine aC s!"r" (ai O i_token (fJ (eY (ay ?_))));rcases hc' with ⟨rfl,rfl⟩|⟨t,ts,st,pos,pb,rfl,e,en,hr',lx'⟩
  ·exact aD rfl (ak (ia3 rfl i_tokens ht' fr'))
  ·refine ift rfl ?_;have hlen:dn.length<1000:=by rw[e,E7] at ht;simp at ht;exact E3 (EY (Ft _ (_+1)) ht) s!"d"
   refine aa (cz O hin i_tokens ht' s!"r" s!"r" s!"r" trivial (ai O i_token (jb ht' (by rw[EZ];exact nTL hlen rfl) (ae ?_))));refine xe1 hr'.run λn1 hr1=>?_;have lx4:=lx'.keep (wj ht' (.lst (dn.map .s++[.s t])));have ht4:(σ'.put tl (.lst (dn.map .s++[.s t]))) tl=EU (.lst (dn.map .s++[.s t])):=Sg.put_same ..
   have fr4:∀b m,σ b=EU m->(σ'.put tl (.lst (dn.map .s++[.s t]))) b=EU m:=λb m hb=>by
    rw[Sg.put_ne _ _ (λe=>by clear htl j_tokens tl2 z hJ i_tokens ht' lx4 ht4;subst e;rw[tl0] at hb;cases hb)];exact fr' b m hb
   generalize σ'.put tl (.lst (dn.map .s++[.s t]))=σ4 at lx4 ht4 fr4⊢;have z4:=lx4.list ht4;refine aa (ah s!"r" s!"r" trivial (ia G O N R' lx4 hx hP hr1 s!"r" (λQ' q=>ai O i_lexer q) λls5 σ5 hk5 lx5 fr5=>?_));refine aJ O i_token (ae (ak (af ts.length (by exact en▸Fe _) (hJ _ _ ⟨σ5,_,cw ls5,dn++[t],rfl,s!"lk",s!"lk",s!"lk",?_,λb m hb=>fr5 b m (old b m hb).1 (old b m hb).2.1 (old b m hb).2.2 (fr4 b m hb),?_,Cur.of hk5 (by rw[e,Gj];rfl) lx5⟩))))
   ·rw[Ff];exact fr5 _ _ z4.1 z4.2.1 z4.2.2 ht4
   ·rw[e,E7,E7];simp
 ·intro fl zr1 zr2;obtain ⟨σ',ρ'⟩:=zr1;refine xa1 zr2 λz1 z2=>?_;clear zr2;subst z1;obtain ⟨i_tokens,ht',fr'⟩:=z2;refine ae (aa (bd (ai O i_tokens (cY ?_))));exact hQf _ _ (cI tl rfl tl0 ht' fr')
end
section
section
variable {X:Xc} {st:St} {Q:MV->St->Prop}
theorem VRs.append2{h:Heap}{ms ns:List MV}{xs ys:Array Value}(r:VRs h ms xs.toList)(r':VRs h ns ys.toList):VRs h (ms++ns) (xs++ys).toList:=by
 rw[Array.toList_append];exact r.append r'
theorem xr{l b:Addr}{vs ws:List MV}(e:st.σ l=EU (.lst vs))(e2:st.σ b=EU (.lst ws))(hv:vs.length≤1000)(hw:ws.length≤1000)(hq:Q (.k .none) ⟨st.σ.put l (.lst (vs++ws)),st.ρ⟩):WC X (.builtin "list.extend") [.r l,.r b] st Q:=λφ s us I r=>by
 refine Cc r ?_;refine ad (I.own e) λitems z3 rr=>?_;refine xe1 z3 λn pl=>?_;clear z3;refine ad (I.own e2) λitems2 z3 rr2=>?_;refine xe1 z3 λn2 pl2=>?_;clear z3;have z1:=rr.size;have z2:=rr2.size;have zs:items.size+items2.size≤2000:=by exact o23 hv hw z1 z2
 refine call_meets F.slot_list_extend (af _ pl rfl) F.entry_list_extend (F.args_list_extend_2 _ _) (PySem.AutoSeq1.list_extend_list_list_0 l items n b items2 n2 ?_ (by rw[sizeLine_eq];exact nLL (EY (E6 z1) hv) rfl) (by rw[sizeLine_eq];exact nLL zs rfl)) (ia2 pl pl2 ?_)
 ·intro hh;simp[Builtin.List.listTooLong] at hh;exact absurd hh.2 (Ga.mpr (EY zs (by rw[sizeLine_eq];decide)))
 ·have sb:Heap.SameBut l s.heap (s.heap.update l (F5 λx=>x++items2)):=Heap.SameBut.update ..;have k:=co I e sb;exact Post.mk (aZ ..) (I.upd (m':= .lst (vs++ws)) (t:=s.toks) e sb (af _ ⟨_,Heap.get?_update_self _ pl rfl⟩ ((rr.keep k).append2 (rr2.keep k)))) k hq
end
noncomputable def flat(mark:Str)(ws:List Str):List Str:=ws.flatMap λw=>[mark,w]
noncomputable def bb(ws:List Str)(mark:Str):List Str:=(flat mark ws).drop 1
theorem kg(mark:Str)(ws:List Str):(flat mark ws).length=2*ws.length:=by
 induction ws with
 |nil=>rfl
 |cons w ws ih=>show (mark::w::flat mark ws).length=_;simp[ih];exact rfl
theorem uD(mark:Str)(ws:List Str){i:Nat}(h:i<ws.length):flat mark (ws.take (i+1))=flat mark (ws.take i)++[mark,ws[i]]:=by
 unfold flat;rw[FU h,List.flatMap_append];rfl
theorem Dr(l:List MV):eD l (EU 1) none=l.drop 1:=by
 unfold eD
 cases l with
 |nil=>rfl
 |cons a l=>
  have:clipAt (a::l).length 1=1:=by
   unfold clipAt;simp;exact o27
  simp only[Option.elim];rw[this,List.take_of_length_le (by rw[List.length_drop];exact Fe _)]
variable {C:Cx}
noncomputable def aU:List String:=["words","mark","tokens","word"]
theorem jd:aU.Nodup:=s!"1"
set_option maxHeartbeats 4000000 in
theorem dP(G:Gd C){A:Fb}{k:Nat}(R:Rm (k+1) A){lw:Addr}{ws:List Str}{mark:Str}{σ:Sg}(e:σ lw=EU (.lst (ws.map .s)))(hw:ws.length≤400):
 CtA C A (.ref 1005) [.r lw,.s mark] [] σ λm σ'=>∃l,m= .r l∧σ l=none∧σ' l=EU (.lst ((bb ws mark).map .s))∧∀b m,σ b=EU m->σ' b=EU m:=by
 refine aW G R (a:=1005) (c:=1004) (x:=top 34) (n:="_law_parted") (q:="_law_parted") (d:= .none) (pm:=(.str "law_il0198_01" 1575)) (an:=none) (t:=1606)
  (ps:=(["words","mark"]:List Str).zip [.r lw,.s mark]) s!"k" s!"k" s!"k" s!"k" [] s!"k" (λv=>(aX rfl s!"k" s!"1" (bk λa0=>bk λa1=>cK s!"k")).a) (ρ:=zL aU [EU (.r lw),EU (.s mark),none,none]) s!"k" λQf hQf X hC O R' hin hg hE=>?_
 subst hC;have N:=kn G;have hd:=jd;have i_words:gI aU 0=EU "words" :=rfl;have i_mark:gI aU 1=EU "mark" :=rfl;have i_tokens:gI aU 2=EU "tokens" :=rfl;have i_word:gI aU 3=EU "word" :=rfl;clear hg hE;conv=>arg 2;whnf
 have l_words:lk (zL aU [EU (.r lw),EU (.s mark),none,none]) "words" =EU (EU (.r lw)):=lkI hd i_words rfl;have l_mark:lk (zL aU [EU (.r lw),EU (.s mark),none,none]) "mark" =EU (EU (.s mark)):=lkI hd i_mark rfl;have l_tokens:lk (zL aU [EU (.r lw),EU (.s mark),none,none]) "tokens" =EU (none):=lkI hd i_tokens rfl;have l_word:lk (zL aU [EU (.r lw),EU (.s mark),none,none]) "word" =EU (none):=lkI hd i_word rfl;generalize zL aU [EU (.r lw),EU (.s mark),none,none]=ρ at l_words l_mark l_tokens l_word⊢;clear hd i_words i_mark i_tokens i_word;refine aa (ah s!"r" s!"r" trivial (ca trivial (ag ⟨FZ _,λtl htl=>?_⟩)));dsimp only at htl⊢;refine aJ O l_tokens (ae ?_);have j_words:lk (stL ρ "tokens" (.r tl)) "words" =EU (EU (.r lw)):=s!"lk"
 have j_mark:lk (stL ρ "tokens" (.r tl)) "mark" =EU (EU (.s mark)):=s!"lk"
 have j_tokens:lk (stL ρ "tokens" (.r tl)) "tokens" =EU (EU (.r tl)):=s!"lk"
 have j_word:lk (stL ρ "tokens" (.r tl)) "word" =EU none:=s!"lk"
 generalize stL ρ "tokens" (.r tl)=ρ1 at j_words j_mark j_tokens j_word⊢;refine dG (Q1:=λfl st'=>fl= .next∧lk st'.ρ "tokens" =EU (EU (.r tl))∧st'.σ tl=EU (.lst ((flat mark ws).map .s))∧∀b m,σ b=EU m->st'.σ b=EU m) ?_ ?_
 ·refine fD (mo:=λi=> .itl lw i) (vs:=ws.map .s) (Cond:=λst=>st.σ lw=EU (.lst (ws.map .s))) (λi st=>∃u,lk st.ρ "mark" =EU (EU (.s mark))∧lk st.ρ "tokens" =EU (EU (.r tl))∧lk st.ρ "word" =EU u∧st.σ tl=EU (.lst ((flat mark (ws.take i)).map .s))∧∀b m,σ b=EU m->st.σ b=EU m)
   (ci O lw _) (λ_=>s!"2") (λ_ _=>s!"2") (ai O j_words ⟨(gv none j_mark j_tokens j_word (Sg.put_same ..) (λb m hb=>dm htl _ b m hb)),cB (dm htl _ _ _ e)⟩) (λi st h=>by refine fy h λu _ _ _ _ h=>?_;exact h _ _ e) ?_ ?_
  ·intro J hJ i hi zr1 zr2;obtain ⟨σ',ρ'⟩:=zr1;refine fy zr2 λu i_mark i_tokens i_word ht fr=>?_;clear zr2;have hi':i<ws.length:=by simpa using hi
   rw[F9];refine aJ O i_word ?_;refine aa (aA hin s!"r" (bp (T:="list") (id:="list.extend") trivial s!"r" s!"4" s!"r" Fz PySem.F.slot_list_extend PySem.F.type_list_extend
    (ai O (m:= .r tl) s!"lk" ⟨bJ ht,ac (ca trivial (ac (ai O (m:= .s mark) s!"lk" (ac (ai O (m:= .s ws[i]) s!"lk" (ag ⟨by rw[sizeLine_eq];show 2≤_;decide,λb hb=>ag ?_⟩))))))⟩)))
   dsimp only at hb⊢;have fl:=kg mark (ws.take i);rw[List.length_take] at fl;refine xr (st:=⟨_,_⟩) (dm hb _ _ _ ht) (Sg.put_same ..) (by rw[EZ];exact fl▸EY (FM 2 (EY (Nat.min_le_right _ _) hw)) s!"d") (by show 2≤1000;decide) ⟨trivial,ae (ak (hJ _ _ (gv _ s!"lk" s!"lk" s!"lk" ?_ (λb' m hb'=>?_))))⟩
   ·rw[uD _ _ hi',Ff];exact Sg.put_same ..
   ·have n1:b'≠tl:=λx=>by
     clear j_tokens hJ i_tokens ht;subst x;rw[hb'] at htl;cases htl
    exact (Sg.put_ne _ _ n1).trans (dm hb _ _ _ (fr b' m hb'))
  ·intro zr1 zr2;obtain ⟨σ',ρ'⟩:=zr1;refine fy zr2 λu i_mark i_tokens i_word ht fr=>?_;clear zr2;rw[EZ,Gp] at ht;exact ak (ia3 rfl i_tokens ht fr)
 ·intro fl zr1 zr2;obtain ⟨σ',ρ'⟩:=zr1;refine b7 zr2 λz2=>?_;clear zr2;obtain ⟨i_tokens,ht,fr⟩:=z2;refine ae (aa (bd (lM (λ_ _=>s!"r") (ai O i_tokens (cy tl _ rfl (aq ⟨1,rfl,ht,by rw[EZ,kg,sizeLine_eq];exact EY (FM 2 hw) s!"d",λb hb=>?_⟩))))));refine cY ?_;dsimp only at hb⊢;refine hQf _ _ (cI b rfl ?_ ?_ (λb' m hb'=>dm hb _ _ _ (fr b' m hb')))
  ·cases x:σ b with
   |none=>rfl
   |some m=>exact absurd ((fr _ _ x).symm.trans hb) (by intro h;cases h)
  ·rw[Dr,←List.map_drop];exact Sg.put_same ..
end
section
noncomputable def siO(x:Str)(i:Nat):MO:= .any λo=>o.cls= .type (Gl x)∧∃t,o.data= .fields #[.str x t,.int i 0]
theorem mC{h:Heap}{a:Addr}{x:Str}{i:Nat}(r:OR h a (siO x i)):∃t,h.IsStrIter a (Gl x) x t i:=by
 refine gu r λo ho _ hc z1=>?_;obtain ⟨t,hd⟩:=z1;exact ⟨t,o,ho,hc,hd⟩
theorem Bh{o:Obj}{x:Str}{f:Array Value}(h:o.cls= .type (Gl x))(hd:o.data= .fields f):imm o=false:=by
 unfold imm;rw[hd,h];show (Gl x=="tuple" ||strIterType x=="builtin_function_or_method")=false;unfold Gl;split<;>decide
theorem qm{h:Heap}{a:Addr}{x:Str}{i:Nat}{t:Tok}(r:h.IsStrIter a (Gl x) x t i):OR h a (siO x i):=by
 refine aV r λo ho hc hd=>?_;exact (cI o ho (Bh hc hd) hc ⟨t,hd⟩)
noncomputable def bS(x:Str):List Str:=x.cps.toList.map λc=>⟨#[c]⟩
section
variable {X:Xc} {st:St} {φ:Sg}
theorem uI(O:XOk X)(x:Str):Steps X (siO x) ((bS x).map .s) λ_=>True where
 item:=λi hi φ st s it Qx I _ ori hq=>by
  obtain ⟨t,hit⟩:=mC ori;have hi':i<x.cps.size:=by simpa[bS] using hi
  have hv:((bS x).map MV.s)[i]= .s ⟨#[x.cps[i]]⟩:=by simp[bS]
  have hx:x.cps[i]?=EU x.cps[i]:=Array.getElem?_eq_getElem hi';rw[hv] at hq
  cases ha:x.cps.all (·<128) with
  |true=>
   have e:Gl x="str_ascii_iterator" :=by unfold Gl;rw[if_pos ha]
   rw[e] at hit;exact wpAny_pyNext_ascii_item hit hx λh' hit' sb=>hq h' _ _ (qm (t:=t) (by rw[e];exact hit')) sb.extBut λ_=>fq ..
  |false=>
   have e:Gl x="str_iterator" :=by unfold Gl;rw[if_neg (by rw[ha];decide)]
   rw[e] at hit;exact wpAny_pyNext_wide_item hit hx λh' hit' sb=>hq h' _ _ (qm (t:=t) (by rw[e];exact hit')) sb.extBut λ_=>fq ..
 done:=λφ st s it Qx I _ ori hq=>by
  obtain ⟨t,hit⟩:=mC ori;have hn:((bS x).map MV.s).length=x.cps.size:=by simp[bS]
  rw[hn] at hit
  cases ha:x.cps.all (·<128) with
  |true=>
   have e:Gl x="str_ascii_iterator" :=by unfold Gl;rw[if_pos ha]
   rw[e] at hit;exact wpAny_pyNext_ascii_end O.hh hit s!"4" λh' ex=>hq h' s.toks ex
  |false=>
   have e:Gl x="str_iterator" :=by unfold Gl;rw[if_neg (by rw[ha];decide)]
   rw[e] at hit;exact wpAny_pyNext_wide_end O.hh hit s!"4" λh' ex=>hq h' s.toks ex
theorem wK{x:Str}:∀φ s v,IF X φ st s->VR s.heap (.s x) v->∀Qx:Value->Shared->Prop,
 (∀it h' t,(∀b o,s.heap.get? b=EU o->h'.get? b=EU o)->s.heap.objs.size≤it->OR h' it (siO x 0)->Qx (.ref it) {s with heap:=h',toks:=t})->E4 X.M X.A (pyIter v) Qx NoE s:=λφ s v I r Qx hq=>by
 obtain ⟨t,rfl⟩:=r;exact wpAny_pyIter_strU (hq _ _ s.toks (λb o e=>Heap.get?_push_of_some _ e) (Fe _) (qm (t:=t) (aR _ (Heap.get?_push_size _ rfl) rfl rfl)))
theorem xf(O:XOk X)(x:Str):i5 X (siO x):=λφ st s it Qx I ori hq=>by
 obtain ⟨t,hit⟩:=mC ori
 cases ha:x.cps.all (·<128) with
 |true=>
  have e:Gl x="str_ascii_iterator" :=by unfold Gl;rw[if_pos ha]
  rw[e] at hit;exact wpAny_pyIter_striter_ascii hit hq
 |false=>
  have e:Gl x="str_iterator" :=by unfold Gl;rw[if_neg (by rw[ha];decide)]
  rw[e] at hit;exact wpAny_pyIter_striter_wide hit hq
end
end
section
section
variable {X:Xc} {st:St} {Q:MV->St->Prop}
theorem pO{h:Heap}:∀{xs:List Str} {vs:List Value},VRs h (xs.map .s) vs->∃l:List (Str×Tok),l.map (·.1)=xs∧vs=strValues l
 | [],vs,r=>by
  have r:VRs h [] vs:=r;unfold VRs at r;subst r;exact (af ([]) rfl rfl)
 |x::xs,vs,r=>by
  have r1:VRs h (.s x::xs.map .s) vs:=r;unfold VRs at r1;refine am r1 λy ys z1 z2=>?_;clear r1;subst z1;refine xa1 z2 λz3 r2=>?_;clear z2;obtain ⟨t,rfl⟩:=z3;refine ad (pO r2) λl e1 z1=>?_;clear r2 r;subst z1;exact (af ((x,t)::l) (by rw[FW,e1]) rfl)
theorem uJ{l:Addr}{x:Str}{xs:List Str}(e:st.σ l=EU (.lst (xs.map .s)))(hok:JoinOk x xs=true)(hq:Q (.s (Txt.join x xs)) st):WC X (.builtin "str.join") [.s x,.r l] st Q:=λφ s us I r=>by
 refine xO r λt=>?_;refine ad (I.own e) λitems pl rr=>?_;refine ad (pO rr) λL e1 e2=>?_;refine SC.join (l:=L) (texts:=xs) (by rw[←e2];simpa using pl.isList) e1 hok λt' k=>?_;exact Post.mk (fq ..) (I.toks _) (.refl _) hq
end
end
section
section
variable {X:Xc} {st:St} {Q:MV->St->Prop}
theorem yI(O:XOk X){x:Str}{w a y z:Str}(hl:lk st.ρ x=EU (EU (.s w)))(hyz:(y==z)=false)(hb:w.length+(w.length+1)*z.length≤16777216)(ha:a.length+(Txt.replace w y z).length≤sizeLine){k1 k2 k3 p1 p2 p3 p4 p5 p6 p7}
 (hbase:F7 (.Name x p2) "replace" X.env (eval (.Name x p2) X.env)=eval (.Name x p2) X.env) (hline:(p3.endLine==p6.line)=true) (hq:Q (.s (a++Txt.replace w y z)) st):
 WE X (.BinOp (.Constant (.str a) k1 p1) .Add (.Call (.Attribute (.Name x p2) "replace" p3) [.Constant (.str y) k2 p4,.Constant (.str z) k3 p5] [] p6) p7) st Q:=λφ s I=>by
 refine wpAny_BinOp (wpAny_Constant_str ?_);have I₁:=I.toks (s.toks+1);refine ad I₁.frame λmm hn hv=>?_;refine ad (hv x (.s w) hl) λv hy z1=>?_;refine xe1 z1 λt z2=>?_;clear z1;subst z2;have hs:Starless [Fw.Constant (.str y) k2 p4,.Constant (.str z) k3 p5]:=trivial;refine wpAny_Call_method hbase (by rw[bf X.env hs];simp[backTo,backToKw,kE0]) hline F.plainAttrs_str F.slot_str_replace F.type_str_replace (wpAny_Name (wpAny_loadName_local O.fn (I₁.loc x _ hl).1 hn hy ?_) (I₁.loc x _ hl).2);refine (ia2 rfl (λb hb=>(by cases hb)) ?_);refine callWith_builtin (bM hs) (bt hs ?_);refine wpAny_items_cons (wpAny_Constant_str ?_) ?_
 ·refine wpAny_items_cons (wpAny_Constant_str (wpAny_items_nil ?_)) ?_
  ·refine SC.replace (t:=t) (Nat.succ_ne_zero _) (Nat.succ_ne_zero _) (Fi (G9 _)) hyz hb λt' k=>?_;refine PyProof.Rows.add_str (λt2 tk=> .mk (fq ..) (I.toks _) (.refl _) hq) ha
  ·rw[bf _ hs.tail];rfl
 ·rw[bf _ hs,bf _ hs.tail];rfl
end
end
section
section
variable {X:Xc} {st:St} {Q:MV->St->Prop}
theorem ao(O:XOk X){scope:Scope}{cl:List (Str×Addr)}(hsc:c9 scope=true)(C:Addr):XOk (Xi X scope cl C []):=by
 refine ⟨?_,O.hh,λx v h=>by cases h⟩;unfold c9 at hsc;rw[Fd] at hsc;exact beq_iff_eq.mp hsc.2
theorem pT(O:XOk X){elt iter:Fw}{scope:Scope}{pt pos:Pos}{x:Str}{f:Str->Str}
 (hclos:closureFor scope X.env=pure []) (hsc:c9 scope=true) (h0:lk (loC scope) "sign" =EU none) (sz:x.length≤1000)
 (hs:∀y,F6 iter X.env y=pure y)
 (hit:∀Q':MV->St->Prop,Q' (.s x) st->WE X iter st Q')
 (helt:∀C c st',c∈bS x->lk st'.ρ "sign" =EU (EU (.s c))->∀Q':MV->St->Prop,Q' (.s (f c)) st'->WE (Xi X scope [] C []) elt st' Q')
 (hq:∀D,st.σ D=none->Q (.r D) ⟨st.σ.put D (.lst (((bS x).map f).map .s)),st.ρ⟩):
 WE X (.ListComp elt [⟨.Name "sign" pt,iter,[],0⟩] scope pos) st Q:=by
 refine jD [] [] (mo:=siO x) (vs:=(bS x).map .s) (Cond:=λ_=>True) (λi acc st'=>st'.σ=st.σ∧(∃u,lk st'.ρ "sign" =EU u)∧acc=(((bS x).take i).map f).map .s)
  (λC=>uI (ao O hsc C) x) (λC=>xf (ao O hsc C) x) hs (λC=>dB λ_ _=>rfl) hclos hsc (by rw[EZ,sizeLine_eq];unfold bS;rw[EZ,Array.length_toList];exact EY sz s!"d") ?_ ?_ (λ_ _ _ _=>trivial) ?_
 ·refine hit _ (ia3 rfl wK ⟨rfl,⟨_,h0⟩,s!"4"⟩ ?_);intro acc st' zr1 D hD;refine xa2 zr1 λe1 _ e3=>?_;clear zr1;rw[EZ,Gp] at e3;rw[e1] at hD;rw[e1,e3];exact hq D hD
 ·intro i acc st' zr1;refine p0 zr1 λ_ _=>?_;clear zr1;simp;exact o0
 ·intro C i hi acc zr1 zr2;obtain ⟨σ',ρ'⟩:=zr1;refine xa2 zr2 λe1 z1 z2=>?_;clear zr2;obtain ⟨u,hu⟩:=z1;subst z2;have hi':i<(bS x).length:=by simpa using hi
  rw[F9];refine aJ (ao O hsc C) hu ?_;unfold bP;dsimp only;rw[if_pos rfl];refine helt C _ _ (FB hi') (cD hu) _ (ia2 e1 ⟨_,cD hu⟩ ?_);rw[FU hi',Ff,Ff];rfl
end
end
section
theorem tZ:(EW "").length=0:=s!"d"
theorem rM:∀(xs:List Str),(∀y∈xs,y.length≤2)->(xs.map (·.length)).sum≤2*xs.length
 | [],_=>Fe _
 |x::xs,h=>by
  have h1:=h x (Fo ..);have h2:=rM xs λy hy=>h y (Fk _ hy);rw[FW,List.sum_cons,Hq];exact EY (GB h1 h2) (E6 (G7 2 (2*_)))
theorem qL{xs:List Str}(h:∀y∈xs,y.length≤2):(Txt.join "" xs).length≤2*xs.length:=by
 unfold Txt.join;rw[size_glued,tZ,Nat.mul_zero];exact rM xs h
theorem oU:∀(xs:List Str) (a:Nat),(∀y∈xs,y.length≤2)->xs.foldl (λa (y:Str)=>a+y.length+(EW "").length) a≤a+2*xs.length
 | [],a,_=>Fe _
 |x::xs,a,h=>by
  have h1:=h x (Fo ..);have h2:=oU xs (a+x.length+(EW "").length) λy hy=>h y (Fk _ hy);rw[List.foldl_cons,Hq];rw[tZ] at h2⊢;exact D8 h1 h2
theorem nu{xs:List Str}(h:∀y∈xs,y.length≤2)(hl:xs.length≤1000):JoinOk "" xs=true:=by
 unfold JoinOk;rw[Gb,List.foldl_toArray];have:=oU xs 0 h;have e:=sizeLine_eq;exact decide_eq_false (by exact En hl this e)
theorem gp(x:Str):(bS x).length=x.length:=by unfold bS;rw[EZ];rfl
theorem fg{x c:Str}(h:c∈bS x):c.length=1:=by
 unfold bS at h;rw[Fq] at h;refine ad h λn _ z1=>?_;clear h;subst z1;rfl
noncomputable def bsl(c:Str):Str:=EW "\\" ++c
noncomputable def esq(c:Str):Str:=if Fc "\"\\" c=true then EW "\\" ++c else c
theorem sj{x:Str}:∀y∈(bS x).map bsl,y.length≤2:=λy hy=>by
 rw[Fq] at hy;refine ad hy λc hc z1=>?_;clear hy;subst z1;unfold bsl;rw[str_length_append,fg hc];decide
theorem rK{x:Str}:∀y∈(bS x).map esq,y.length≤2:=λy hy=>by
 rw[Fq] at hy;refine ad hy λc hc z1=>?_;clear hy;subst z1;unfold esq;split
 ·rw[str_length_append,fg hc];decide
 ·rw[fg hc];decide
noncomputable abbrev q1:Str:=EW "'"
noncomputable abbrev q5:Str:=EW "'\"'\"'"
noncomputable def cF(w:Str)(way:Int):Str:=
 if (way==0)=true then cut w none (EU 1)++Txt.join "" ((bS (cut w (EU 1) none)).map bsl)
 else if (way==1)=true then EW "'" ++Txt.replace w q1 q5++EW "'"
 else EW "\"" ++Txt.join "" ((bS w).map esq)++EW "\""
variable {C:Cx}
noncomputable def bG:List String:=["word","way"]
theorem iG:bG.Nodup:=s!"1"
set_option maxHeartbeats 4000000 in
theorem lv(G:Gd C){A:Fb}{k:Nat}(R:Rm (k+1) A){w:Str}{way:Int}{σ:Sg}(hw:w.length≤100)(hr:(Txt.replace w q1 q5).length≤10000):
 CtA C A (.ref 984) [.s w,.i way] [] σ λm σ'=>m= .s (cF w way)∧∀b m,σ b=EU m->σ' b=EU m:=by
 refine aW G R (a:=984) (c:=983) (x:=top 31) (n:="_law_dressed") (q:="_law_dressed") (d:= .none) (pm:=(.str "law_il0198_01" 1575)) (an:=none) (t:=1578)
  (ps:=(["word","way"]:List Str).zip [.s w,.i way]) s!"k" s!"k" s!"k" s!"k" [] s!"k" (λv=>(aX rfl s!"k" s!"1" (bk λa0=>bk λa1=>cK s!"k")).a) (ρ:=zL bG [EU (.s w),EU (.i way)]) s!"k" λQf hQf X hC O R' hin hg hE=>?_
 subst hC;have N:=kn G;have hd:=iG;have i_word:gI bG 0=EU "word" :=rfl;have i_way:gI bG 1=EU "way" :=rfl;clear hg hE;conv=>arg 2;whnf
 have l_word:lk (zL bG [EU (.s w),EU (.i way)]) "word" =EU (EU (.s w)):=lkI hd i_word rfl;have l_way:lk (zL bG [EU (.s w),EU (.i way)]) "way" =EU (EU (.i way)):=lkI hd i_way rfl;generalize zL bG [EU (.s w),EU (.i way)]=ρ at l_word l_way⊢;clear hd i_word i_way;refine aa (bl (aC s!"r" (ai O l_way (aq (jZ (ay ?_))))))
 cases h0:(way==0) with
 |true=>
  refine ift rfl (aa (bd (ar (bT (λ_ _ _=>s!"r") (ai O l_word (aR w rfl (by rw[sizeLine_eq];exact o30 hw) (aq ⟨1,rfl,?_⟩)))))));have c1:=dQ w none (EU 1);have c2:=dQ w (EU 1) none;have c3:(Txt.join "" ((bS (cut w (EU 1) none)).map bsl)).length≤2*((bS (cut w (EU 1) none)).map bsl).length:=qL sj;rw[EZ,gp] at c3;show WE X _ _ _;refine bp (T:="str") (id:="str.join") trivial s!"r" s!"4" s!"r" PySem.F.plainAttrs_str PySem.F.slot_str_join PySem.F.type_str_join (aI ⟨hZ,ac (pT O (f:=bsl) (x:=cut w (EU 1) none) s!"r" s!"k" s!"k" (by exact AB hw c2) (λ_=>s!"r")
   (λQ' q=>bT (λ_ _ _=>s!"r") (ai O l_word (aR w rfl (by rw[sizeLine_eq];exact o30 hw) (aq ⟨1,rfl,q⟩)))) (λC c st' hc hl Q' q=>ar (aI (ai (ao O s!"k" C) hl (cP (by rw[fg hc,sizeLine_eq];decide) q)))) λD hD=>ag (uJ (l:=D) (Sg.put_same ..) (nu sj (by rw[EZ,gp];exact AB hw c2)) (cP (by rw[sizeLine_eq];exact EY (GB (EY c1 hw) (EY c3 (FM 2 (EY c2 hw)))) s!"d") (cY ?_))))⟩)
  refine hQf _ _ ⟨?_,λb m hb=>dm hD _ _ _ hb⟩;unfold cF;rw[if_pos h0]
 |false=>
  refine aD rfl (ak (ae ?_));refine aa (bl (aC s!"r" (ai O l_way (aq (jZ (ay ?_))))))
  cases h1:(way==1) with
  |true=>
   refine ift rfl (aa (bd (ar (yI O l_word s!"1" (by show w.length+(w.length+1)*5≤_;exact EY (GB hw (Nat.mul_le_mul_right 5 (FH hw))) s!"d") ?_ s!"r" s!"r" (aI (cP ?_ (cY ?_)))))))
   ·rw[sizeLine_eq];have hr':(Txt.replace w (EW "'") (EW "'\"'\"'")).length≤10000:=hr;show 1+_≤_;exact DN hr'
   ·rw[str_length_append,sizeLine_eq];have hr':(Txt.replace w (EW "'") (EW "'\"'\"'")).length≤10000:=hr;show 1+_+1≤_;exact EY (FH (Fj hr' 1)) s!"d"
   ·refine hQf _ _ ⟨?_,λb m hb=>hb⟩;unfold cF;rw[if_neg (by rw[h0];decide),if_pos h1]
  |false=>
   refine aD rfl (ak (ae ?_));have c3:(Txt.join "" ((bS w).map esq)).length≤2*((bS w).map esq).length:=qL rK;rw[EZ,gp] at c3;refine aa (bd (ar (ar (aI (bp (T:="str") (id:="str.join") trivial s!"r" s!"4" s!"r" PySem.F.plainAttrs_str PySem.F.slot_str_join PySem.F.type_str_join (aI ⟨hZ,ac (pT O (f:=esq) (x:=w) s!"r" s!"k" s!"k" (by exact Aq hw) (λ_=>s!"r")
    (λQ' q=>ai O l_word q) (λC c st' hc hl Q' q=>?_) λD hD=>ag (uJ (l:=D) (Sg.put_same ..) (nu rK (by rw[EZ,gp];exact Aq hw)) (cP (by rw[sizeLine_eq];show 1+_≤_;exact EY (Fj (EY c3 (FM 2 hw)) 1) s!"d") (aI (cP (by rw[str_length_append,sizeLine_eq];show 1+_+1≤_;exact EY (FH (Fj (EY c3 (FM 2 hw)) 1)) s!"d") (cY ?_))))))⟩))))))
   ·refine xA (aC s!"r" (ai (ao O s!"k" C) hl (aI (tF (ay ?_)))));unfold esq at q
    cases hx:Fc (EW "\"\\") c with
    |true=>
     rw[if_pos hx] at q;exact ift rfl (ar (aI (ai (ao O s!"k" C) hl (cP (by rw[fg hc,sizeLine_eq];decide) q))))
    |false=>
     rw[if_neg (by rw[hx];decide)] at q;exact aD rfl (ai (ao O s!"k" C) hl q)
   ·refine hQf _ _ ⟨?_,λb m hb=>dm hD _ _ _ hb⟩;unfold cF;rw[if_neg (by rw[h0];decide),if_neg (by rw[h1];decide)]
end
theorem dJ(p:P2):¬lt2 p p:=by unfold lt2;exact λz_h=>z_h.elim (Int.lt_irrefl _) λz_x=>Int.lt_irrefl _ z_x.2
theorem iQ{p q r:P2}(h1:¬lt2 q p)(h2:¬lt2 r q):¬lt2 r p:=by unfold lt2 at*;exact λz_h=>have p1:_≤_:=Int.not_lt.mp λz_x=>h1 (.inl z_x);have p2:_≤_:=Int.not_lt.mp λz_x=>h2 (.inl z_x);z_h.elim (λz_x=>Int.not_lt.mpr (Int.le_trans p1 p2) z_x) λz_x=>have e1:_=_:=Int.le_antisymm (Int.le_trans p2 (Int.le_of_eq z_x.1)) p1;h1 (.inr ⟨e1,Gn (Int.not_lt.mp λz_z=>h2 (.inr ⟨z_x.1.trans e1.symm,z_z⟩)) z_x.2⟩)
theorem kR{p q:P2}(h:lt2 p q):¬lt2 q p:=by unfold lt2 at*;exact λz_h=>h.elim (λz_x=>z_h.elim (λz_y=>Int.lt_irrefl _ (Int.lt_trans z_x z_y)) λz_y=>Int.ne_of_lt z_x z_y.1.symm) λz_x=>z_h.elim (λz_y=>Int.ne_of_lt z_y z_x.1.symm) λz_y=>Int.lt_irrefl _ (Int.lt_trans z_x.2 z_y.2)
theorem m8{p q r:P2}(h1:lt2 p q)(h2:lt2 q r):lt2 p r:=by unfold lt2 at*;exact h1.elim (λz_x=> .inl (h2.elim (Int.lt_trans z_x) λz_y=>z_y.1▸z_x)) λz_x=>h2.elim (λz_y=> .inl (z_x.1▸z_y)) λz_y=> .inr ⟨z_x.1.trans z_y.1,Int.lt_trans z_x.2 z_y.2⟩
theorem kj{p q:P2}(h1:¬lt2 q p)(h2:¬lt2 p q):p=q:=by
 obtain ⟨a,b⟩:=p;obtain ⟨c,d⟩:=q;unfold lt2 at*;dsimp only at*;have:a=c:=by exact Int.le_antisymm (Int.not_lt.mp λz_x=>h1 (.inl z_x)) (Int.not_lt.mp λz_x=>h2 (.inl z_x))
 subst this;have:b=d:=by exact Int.le_antisymm (Int.not_lt.mp λz_x=>h1 (.inr ⟨rfl,z_x⟩)) (Int.not_lt.mp λz_x=>h2 (.inr ⟨rfl,z_x⟩))
 rw[this]
noncomputable def Hp(xs:List P2):Prop:=∀i a b,0<i->xs[(i-1)/2]?=EU a->xs[i]?=EU b->¬lt2 b a
structure Hole (xs:List P2) (pos:Nat) (new:P2):Prop where
 a:∀i a b,0<i->i≠pos->(i-1)/2≠pos->xs[(i-1)/2]?=EU a->xs[i]?=EU b->¬lt2 b a
 b:∀i b,0<i->(i-1)/2=pos->xs[i]?=EU b->¬lt2 b new
 c:∀i a b,0<i->0<pos->(i-1)/2=pos->xs[(pos-1)/2]?=EU a->xs[i]?=EU b->¬lt2 b a
theorem cv{xs:List P2}{i j:Nat}{v:P2}(h:i≠j):(xs.set j v)[i]?=xs[i]?:=by rw[List.getElem?_set_ne (E8 h)]
theorem fe{xs:List P2}{j:Nat}{v:P2}(h:j<xs.length):(xs.set j v)[j]?=EU v:=by rw[List.getElem?_set_self h]
theorem jh{xs:List P2}{pos:Nat}{new:P2}(hp:pos<xs.length)(H:Hole xs pos new)(h:∀a,0<pos->xs[(pos-1)/2]?=EU a->¬lt2 new a):Hp (xs.set pos new):=by
 intro i a b hi ha hb;by_cases h1:i=pos
 ·clear H;subst h1;rw[cv (by exact Au hi)] at ha;rw[fe hp] at hb;cases hb;exact h a hi ha
 ·rw[cv h1] at hb;by_cases h2:(i-1)/2=pos
  ·rw[h2,fe hp] at ha;cases ha;exact H.b i b hi h2 hb
  ·rw[cv h2] at ha;exact H.a i a b hi h1 h2 ha hb
theorem sX(new:P2):∀(f pos:Nat) (xs:List P2),pos≤f->pos<xs.length->Hole xs pos new->Hp (sd new f pos xs)∧(sd new f pos xs).Perm (xs.set pos new)
 |0,pos,xs,hf,hp,H=>by
  have:pos=0:=by exact o34 hf
  clear hf;subst this;exact ⟨jh hp H λa h=>absurd h (by exact xk),.refl _⟩
 |f+1,pos,xs,hf,hp,H=>by
  unfold sd;split
  ·rename_i h0;clear hf;subst h0;exact ⟨jh hp H λa h=>absurd h (by exact xk),.refl _⟩
  ·rename_i h0;have hq:(pos-1)/2<xs.length:=by exact wI hp
   have hx:xs[(pos-1)/2]?=EU xs[(pos-1)/2]:=E2 hq;dsimp only;rw[hx];dsimp only[Option.getD];generalize hpar:xs[(pos-1)/2]=par at hx⊢;split
   ·rename_i hlt;have IH:=sX new f ((pos-1)/2) (xs.set pos par) (by exact EO hf) (by rw[FD];exact hq) ?_
    ·refine ⟨IH.1,IH.2.trans ?_⟩;have z:=List.set_set_perm (as:=xs.set pos new) (i:=pos) (j:=(pos-1)/2) (by simpa using hp) (by simpa using hq);rw[List.getElem_set_ne (by exact Et h0),List.getElem_set_self,List.set_set,hpar] at z;exact z
    ·refine ⟨λi a b hi h1 h2 ha hb=>?_,λi b hi h2 hb=>?_,λi a b hi h3 h2 ha hb=>?_⟩
     ·have h4:i≠pos:=λe=>by clear hf hp H h0 hq hpar hx h1 ha hb;subst e;exact h2 rfl
      rw[cv h4] at hb;by_cases h5:(i-1)/2=pos
      ·rw[h5,fe hp] at ha;cases ha;exact H.c i _ b hi (by exact Ed h2 h5) h5 hx hb
      ·rw[cv h5] at ha;exact H.a i a b hi h4 h5 ha hb
     ·by_cases h4:i=pos
      ·clear hf H h0 hq hpar hx h2;subst h4;rw[fe hp] at hb;cases hb;exact kR hlt
      ·rw[cv h4] at hb;exact iQ (kR hlt) (H.a i _ b hi h4 (by exact Eh h0 h2) (by rw[h2];exact hx) hb)
     ·rw[cv (by exact zS h3)] at ha;have q1:=H.a ((pos-1)/2) a par h3 (by exact DK h3) (by exact zS h3) ha hx;by_cases h4:i=pos
      ·clear hf H h0 hq hpar hx h3 h2 ha;subst h4;rw[fe hp] at hb;cases hb;exact q1
      ·rw[cv h4] at hb;exact iQ q1 (H.a i _ b hi h4 (by exact Ex h3 h2) (by rw[h2];exact hx) hb)
   ·rename_i hlt;exact ⟨jh hp H λa _ ha=>by rw[hx] at ha;cases ha;exact hlt,.refl _⟩
theorem zj{xs:List P2}(p:P2)(h:Hp xs):Hp (sd p xs.length xs.length (xs++[p]))∧(sd p xs.length xs.length (xs++[p])).Perm (xs++[p]):=by
 have:=sX p xs.length xs.length (xs++[p]) (Fe _) s!"4" ⟨λi a b hi h1 h2 ha hb=>?_,λi b hi h2 hb=>?_,λi a b hi h3 h2 ha hb=>?_⟩
 ·refine ⟨this.1,this.2.trans ?_⟩;rw[List.set_append_right _ _ (Fe _)];simp
 ·have hb':=E5.mp hb;have:i<xs.length:=by have:=hb'.1;simp at this;exact Gh (FG this) h1
  rw[Gu this] at hb;rw[Gu (by exact wI this)] at ha;exact h i a b hi ha hb
 ·have:=(E5.mp hb).1;simp at this;exact (zM hi h2 this).elim
 ·have:=(E5.mp hb).1;simp at this;exact (zM hi h2 this).elim
structure HoleL (ys:List P2) (pos:Nat):Prop where
 a:∀i a b,0<i->i≠pos->(i-1)/2≠pos->ys[(i-1)/2]?=EU a->ys[i]?=EU b->¬lt2 b a
 c:∀i a b,0<i->0<pos->(i-1)/2=pos->ys[(pos-1)/2]?=EU a->ys[i]?=EU b->¬lt2 b a
theorem uh(x:P2):∀(f pos:Nat) (ys:List P2),ys.length≤f+pos->pos<ys.length->HoleL ys pos->
 let r:=suL f pos ys
 HoleL r.2 r.1∧r.1<r.2.length∧r.2.length≤2*r.1+1∧(r.2.set r.1 x).Perm (ys.set pos x)
 |0,pos,ys,hf,hp,H=>by exact (DF hf hp).elim
 |f+1,pos,ys,hf,hp,H=>by
  unfold suL;split
  ·rename_i h1;dsimp only;generalize hc:(if 2*pos+1+1<ys.length∧¬lt2 ((ys[2*pos+1]?).getD (0,0)) ((ys[2*pos+1+1]?).getD (0,0)) then 2*pos+1+1 else 2*pos+1)=c
   have hcl:c<ys.length∧(c=2*pos+1∨c=2*pos+2):=by
    subst hc;split
    ·rename_i hh;exact ⟨hh.1,.inr rfl⟩
    ·exact ⟨h1,.inl rfl⟩
   refine xa1 hcl λhcl hcc=>?_;have hx:ys[c]?=EU ys[c]:=E2 hcl
   have bN:∀i b,0<i->(i-1)/2=pos->ys[i]?=EU b->¬lt2 b ys[c]:=by
    intro i b hi h2 hb;have hil:=(E5.mp hb).1;by_cases e:i=c
    ·subst e;rw[hx] at hb;cases hb;exact dJ _
    ·have e1:ys[2*pos+1]?=EU ys[2*pos+1]:=E2 h1;rw[e1] at hc;dsimp only[Option.getD] at hc;by_cases h3:2*pos+1+1<ys.length
     ·have e2:ys[2*pos+1+1]?=EU ys[2*pos+1+1]:=E2 h3;rw[e2] at hc;dsimp only[Option.getD] at hc;by_cases h4:lt2 ys[2*pos+1] ys[2*pos+1+1]
      ·rw[if_neg (λhh=>hh.2 h4)] at hc;subst hc;have:i=2*pos+1+1:=by exact (hq hi h2).resolve_left e
       subst this;rw[e2] at hb;cases hb;exact kR h4
      ·rw[if_pos ⟨h3,h4⟩] at hc;subst hc;have:i=2*pos+1:=by exact (hq hi h2).resolve_right e
       subst this;rw[e1] at hb;cases hb;exact h4
     ·rw[if_neg (λhh=>h3 hh.1)] at hc;exact ((hq hi h2).elim (λz_h=>e (z_h.trans hc)) λz_h=>h3 (z_h▸hil)).elim
   rw[hx];dsimp only[Option.getD];have IH:=uh x f c (ys.set pos ys[c]) (by rw[FD];exact EY hf (by rw[Nat.add_assoc,G7 1];exact Fj (hcc.elim (λz_h=>z_h▸FH (Nat.le_mul_of_pos_left _ s!"d")) λz_h=>z_h▸GP (FH (Nat.le_mul_of_pos_left _ s!"d"))) _)) (by rw[FD];exact hcl) ?_
   ·refine (ia3 IH.1 IH.2.1 IH.2.2.1 (IH.2.2.2.trans ?_));have z:=List.set_set_perm (as:=ys.set pos x) (i:=pos) (j:=c) (by simpa using hp) (by simpa using hcl);rw[List.getElem_set_ne (by exact λz_e=>hcc.elim (λz_h=>Fi (Nat.lt_succ_of_le (Nat.le_mul_of_pos_left _ s!"d")) (z_e.trans z_h)) λz_h=>Fi (GO (Nat.lt_succ_of_le (Nat.le_mul_of_pos_left _ s!"d"))) (z_e.trans z_h)),List.getElem_set_self,List.set_set] at z;exact z
   ·refine ⟨λi a b hi h5 h2 ha hb=>?_,λi a b hi h3 h2 ha hb=>?_⟩
    ·by_cases h6:i=pos
     ·subst h6;rw[fe hp] at hb;cases hb;rw[cv (by exact Au hi)] at ha;exact H.c c a _ (by exact hcc.elim (λz_h=>z_h▸Nat.succ_pos _) λz_h=>z_h▸Nat.succ_pos _) hi (by exact z9 hcc) ha hx
     ·rw[cv h6] at hb;by_cases h7:(i-1)/2=pos
      ·rw[h7,fe hp] at ha;cases ha;exact bN i b hi h7 hb
      ·rw[cv h7] at ha;exact H.a i a b hi h6 h7 ha hb
    ·have e:(c-1)/2=pos:=by exact z9 hcc
     rw[e,fe hp] at ha;cases ha;rw[cv (by exact BI h3 h2 e)] at hb;exact H.a i _ b hi (by exact BI h3 h2 e) (by exact λz_h=>Nat.ne_of_gt (e▸hlt h3) (h2.symm.trans z_h)) (by rw[h2];exact hx) hb
  ·rename_i h1;exact (ia3 H hp (by show ys.length≤2*pos+1;exact Nat.le_of_not_lt h1) (.refl _))
theorem Cb{x:P2}{ys:List P2}(h0:0<ys.length)(h:∀i a b,0<i->(i-1)/2≠0->ys[(i-1)/2]?=EU a->ys[i]?=EU b->¬lt2 b a):Hp (su x ys)∧(su x ys).Perm (ys.set 0 x):=by
 have z:=uh x ys.length 0 ys (Fe _) h0 ⟨λi a b hi _ h2 ha hb=>h i a b hi h2 ha hb,λi a b _ h3=>absurd h3 (by exact xk)⟩;dsimp only at z;refine xa3 z λz1 z2 z3 z4=>?_;unfold su;have w:=sX x (suL ys.length 0 ys).1 (suL ys.length 0 ys).1 ((suL ys.length 0 ys).2.set (suL ys.length 0 ys).1 x) (Fe _) (by rw[FD];exact z2)
  ⟨λi a b hi h1 h2 ha hb=>by rw[cv h2] at ha;rw[cv h1] at hb;exact z1.a i a b hi h1 h2 ha hb,λi b hi h2 hb=>by
   have:=(E5.mp hb).1
   rw[FD] at this;exact (AX z3 hi h2 this).elim,λi a b hi h3 h2 ha hb=>by
   have:=(E5.mp hb).1;rw[FD] at this;exact (AX z3 hi h2 this).elim⟩
 refine ⟨w.1,w.2.trans ?_⟩;rw[List.set_set];exact z4
theorem yf{xs:List P2}(h:Hp xs){r:P2}(hr:xs[0]?=EU r):∀(i:Nat) (b:P2),xs[i]?=EU b->¬lt2 b r:=by
 intro i
 induction i using Nat.strongRecOn with
 |_ i ih=>
  intro b hb;by_cases h0:i=0
  ·clear ih;subst h0;rw[hr] at hb;cases hb;exact dJ _
  ·have hl:=(E5.mp hb).1;have e:xs[(i-1)/2]?=EU (xs[(i-1)/2]'(by exact wI hl)):=E2 _;exact iQ (ih ((i-1)/2) (by exact zG h0) _ e) (h i _ b (by exact Hd h0) e hb)
theorem zA{ys:List P2}{x:P2}(h:Hp (ys++[x])):(∀b∈ys++[x],¬lt2 b (dz ys x).1)∧Hp (dz ys x).2∧(ys++[x]).Perm ((dz ys x).1::(dz ys x).2):=by
 cases ys with
 |nil=>
  refine (ia2 (λb hb=>?_) (λi a b _ ha=>?_) (.refl _))
  ·simp at hb;clear h;subst hb;exact dJ _
  ·simp[dz] at ha
 |cons y ys=>
  refine ⟨λb hb=>?_,?_⟩
  ·obtain ⟨i,hi,e⟩:=Gi hb;exact yf h (r:=y) rfl i b (by rw[←e];exact E2 hi)
  ·have z:=Cb (x:=x) (ys:=(y::ys).set 0 x) s!"4" λi a b hi h2 ha hb=>by
    rw[cv h2] at ha;rw[cv (by exact Nat.ne_of_gt hi)] at hb;have l1:=(E5.mp ha).1;have l2:=(E5.mp hb).1;exact h i a b hi (by rw[Gu l1];exact ha) (by rw[Gu l2];exact hb)
   refine ⟨z.1,?_⟩;show ((y::ys)++[x]).Perm (y::su x ((y::ys).set 0 x));refine List.Perm.cons y ?_;refine .trans ?_ z.2.symm;rw[List.set_set];show (ys++[x]).Perm (x::ys);exact List.perm_append_comm
noncomputable abbrev PN:=Int×Nat
noncomputable def ip(p:PN):P2:=(p.1,(p.2:Int))
theorem uV{p q:PN}(h:ip p=ip q):p=q:=by
 obtain ⟨a,b⟩:=p;obtain ⟨c,d⟩:=q;unfold ip at h;simp at h;obtain ⟨rfl,h⟩:=h;have:b=d:=by exact o1 h
 rw[this]
noncomputable def Bf(l:List Nat)(k e:Nat):Prop:=l.idxOf k<l.idxOf e
structure OrdOk (n:Nat) (told ord:List Nat):Prop where
 nd:ord.Nodup
 mem:∀k,k∈ord↔k<n
 len:told.length=n
 pos:∀k,k<n->1≤told.getD k 0
 up:∀k e,k<n->e<k->Bf ord k e->told.getD e 0<told.getD k 0
 ex:∀k,k<n->told.getD k 0=1∨∃e,e<k∧Bf ord k e∧told.getD k 0=told.getD e 0+1
noncomputable def mxL(l:List Nat):Nat:=l.foldl max 0
theorem iV:∀(l:List Nat) (a:Nat),a≤l.foldl max a∧∀x∈l,x≤l.foldl max a
 | [],a=>⟨Fe _,λx h=>by cases h⟩
 |y::l,a=>by
  have ih:=iV l (max a y);refine ⟨EY (Nat.le_max_left ..) ih.1,λx hx=>?_⟩;rcases FI.mp hx with rfl|hx
  ·exact EY (Nat.le_max_right ..) ih.1
  ·exact ih.2 x hx
theorem iD:∀(l:List Nat) (a:Nat),l.foldl max a=a∨l.foldl max a∈l
 | [],a=> .inl rfl
 |y::l,a=>by
  rcases iD l (max a y) with h|h
  ·rw[List.foldl_cons,h];rcases Nat.le_total a y with h1|h1
   ·rw[Nat.max_eq_right h1];exact .inr (Fo ..)
   ·rw[Nat.max_eq_left h1];exact .inl rfl
  ·exact .inr (Fk _ h)
theorem iZ{l:List Nat}{x:Nat}(h:x∈l):x≤mxL l:=(iV l 0).2 x h
theorem gG{l:List Nat}(h:mxL l≠0):mxL l∈l:=(iD l 0).resolve_left h
theorem iS(p:PN):∀(l:List PN),l.Pairwise (λa b=>lt2 (ip a) (ip b))->(∀q∈l,q≠p)->∃L R,l=L++R∧(∀q∈L,lt2 (ip q) (ip p))∧(∀q∈R,lt2 (ip p) (ip q))
 | [],_,_=>(cZ ([]) ([]) rfl s!"4" s!"4")
 |a::l,h,hn=>by
  by_cases hap:lt2 (ip a) (ip p)
  ·refine bL (iS p l h.of_cons λq hq=>hn q (Fk _ hq)) λL R e h1 h2=>?_;refine (cZ (a::L) R (by rw[e];rfl) (λq hq=>?_) h2);rcases FI.mp hq with rfl|hq
   ·exact hap
   ·exact h1 q hq
  ·have hpa:lt2 (ip p) (ip a):=by
    by_cases h3:lt2 (ip p) (ip a)
    ·exact h3
    ·exact absurd (uV (kj h3 hap)) (hn a (Fo ..))
   refine (cZ ([]) (a::l) rfl s!"4" (λq hq=>?_));rcases FI.mp hq with rfl|hq
   ·exact hpa
   ·exact m8 hpa (Gf h hq)
theorem mA{A B:List Nat}{n a:Nat}(ha:a≠n):(A++n::B).idxOf a=if a∈A then A.idxOf a else A.length+(B.idxOf a+1):=by
 rw[List.idxOf_append];split
 ·rfl
 ·rw[G4,beq_false_of_ne (E8 ha),G7];rfl
theorem vn{A B:List Nat}{n a b:Nat}(ha:a≠n)(hb:b≠n):Bf (A++n::B) a b↔Bf (A++B) a b:=by
 unfold Bf;rw[mA ha,mA hb,List.idxOf_append,List.idxOf_append];by_cases h1:a∈A<;>by_cases h2:b∈A<;>simp only[h1,h2,if_true,if_false]
 ·have:=Gk h1;exact ⟨λ_=>E1 this (Hi ..),λ_=>E1 this (Ft ..)⟩
 ·have:=Gk h2;exact ⟨λz_h=>absurd (Fs z_h this) (Ga.mpr (Ft ..)),λz_h=>absurd (Fs z_h this) (Ga.mpr (Hi ..))⟩
 ·exact o5
theorem vi{A B:List Nat}{n e:Nat}(hn:n∉A)(he:e≠n)(nd:(A++B).Nodup)(hm:e∈A++B):Bf (A++n::B) n e↔e∈B:=by
 unfold Bf;rw[mA he,List.idxOf_append,if_neg hn,List.idxOf_cons_self];by_cases h1:e∈A
 ·rw[if_pos h1];have:=Gk h1;constructor
  ·intro;exact (o6 this ‹_›).elim
  ·intro h2;exact absurd rfl ((List.nodup_append.mp nd).2.2 e h1 e h2)
 ·rw[if_neg h1];constructor
  ·intro;exact (F3.mp hm).resolve_left h1
  ·intro;exact o7
structure S1 where
 told:List Nat
 heap:List P2
 ins:List PN
 gone:List Nat
structure J1 (n:Nat) (S:S1):Prop where
 hp:Hp S.heap
 pm:S.heap.Perm (S.ins.map ip)
 srt:∃srt:List PN,srt.Pairwise (λa b=>lt2 (ip a) (ip b))∧srt.Perm S.ins∧OrdOk n S.told (S.gone++srt.map (·.2))
noncomputable def newTold(S:S1)(r:Int):Nat:=1+mxL ((S.heap.filter λp=>decide (r<p.1)).map λp=>S.told.getD p.2.toNat 0)
theorem J1.push{n:Nat}{S:S1}(J:J1 n S)(r:Int):J1 (n+1) ⟨S.told++[newTold S r],sd (r,(n:Int)) S.heap.length S.heap.length (S.heap++[(r,(n:Int))]),S.ins++[(r,n)],S.gone⟩:=by
 obtain ⟨hp,pm,srt,so,sp,O⟩:=J;have z:=zj (r,(n:Int)) hp;refine ⟨z.1,z.2.trans ?_,?_⟩
 ·rw[Ff];exact pm.append_right _
 have hmem:∀q∈srt,q.2<n:=λq hq=>(O.mem q.2).mp (GA _ (Fq.mpr (af q hq rfl)));refine bL (iS (r,n) srt so λq hq h=>by have:=hmem q hq;rw[h] at this;exact FC _ this) λL R e hL hR=>?_;subst e
 have hnA:n∉S.gone++L.map (·.2):=λh=>by
  have:=(O.mem n).mp (by rw[Ff,←Gj];exact GK _ h);exact FC _ this
 have eo:S.gone++(L++R).map (·.2)=(S.gone++L.map (·.2))++R.map (·.2):=by rw[Ff,Gj]
 have eo':S.gone++(L++(r,n)::R).map (·.2)=(S.gone++L.map (·.2))++n::R.map (·.2):=by rw[Ff,Gj];rfl
 rw[eo] at O;refine (aR (L++(r,n)::R) ?_ ?_ ?_)
 ·refine xa2 (GL.mp so) λa b c=>?_;refine GL.mpr (ia2 a (List.pairwise_cons.mpr ⟨hR,b⟩) (λp hp q hq=>?_));rcases FI.mp hq with rfl|hq
  ·exact hL p hp
  ·exact c p hp q hq
 ·exact (List.perm_middle.trans (List.Perm.cons _ sp)).trans (List.perm_append_singleton _ _).symm
 ·rw[eo'];dsimp only;generalize hA:S.gone++L.map (·.2)=A at hnA O;have hnB:n∉R.map (·.2):=λh=>FC _ ((O.mem n).mp (GA _ h))
  have gl:∀k,k<n->(S.told++[newTold S r]).getD k 0=S.told.getD k 0:=λk hk=>by
   rw[FR,FR,Gu (by rw[O.len];exact hk)]
  have gn:(S.told++[newTold S r]).getD n 0=newTold S r:=by
   rw[FR,Hc (by rw[O.len];exact Fe _),O.len];simp
  have hv:∀e,e∈R.map (·.2)↔∃p∈S.heap,r<p.1∧p.2.toNat=e:=λe=>by
   constructor
   ·intro h;refine ad (Fq.mp h) λq hq z1=>?_;clear h;subst z1;have h3:=hR q hq;have h4:=hmem q (GA _ hq);refine (aR (ip q) (pm.mem_iff.mpr (Fq.mpr ⟨q,sp.mem_iff.mp (GA _ hq),rfl⟩)) ?_ (by unfold ip;simp));unfold lt2 ip at h3;unfold ip;dsimp only at h3⊢;exact o8 h3 h4
   ·intro zr1;refine aV zr1 λp h1 h2 z2=>?_;clear zr1;subst z2;refine ad (Fq.mp (pm.mem_iff.mp h1)) λq h3 z1=>?_;clear h1;subst z1;have h5:=sp.mem_iff.mpr h3;rcases F3.mp h5 with h5|h5
    ·have h6:=hL q h5;unfold lt2 ip at h6;unfold ip at h2;dsimp only at h6 h2;exact (o9 h2 h6).elim
    ·exact Fq.mpr (af q h5 (by unfold ip;simp))
  refine ⟨?_,λk=>?_,by rw[E7,O.len];rfl,λk hk=>?_,λk e hk he hb=>?_,λk hk=>?_⟩
  ·exact List.perm_middle.nodup_iff.mpr (G3.mpr ⟨λh=>(F3.mp h).elim hnA hnB,O.nd⟩)
  ·have:=O.mem k;rw[F3] at this⊢;rw[FI];by_cases hk:k=n
   ·clear z hL hR hmem eo' hnA O hnB gl gn this;subst hk;simp
   ·simp only[hk,false_or];rw[this];exact o10 hk
  ·by_cases h:k=n
   ·clear z hL hR hmem eo' hnA O hnB gl hk;subst h;rw[gn];unfold newTold;exact o11
   ·rw[gl k (by exact o12 hk h)];exact O.pos k (by exact o12 hk h)
  ·by_cases h:k=n
   ·clear z hL hR hmem eo' hnB hk;subst h;rw[gn,gl e he];have:=(vi hnA (by exact o13 he) O.nd ((O.mem e).mpr he)).mp hb;refine aV ((hv e).mp this) λp p1 p2 p3=>?_;have:S.told.getD e 0≤mxL ((S.heap.filter λp=>decide (r<p.1)).map λp=>S.told.getD p.2.toNat 0):=iZ (Fq.mpr (af p (GD.mpr ⟨p1,decide_eq_true p2⟩) (by rw[p3])));unfold newTold;exact o14 this
   ·rw[gl k (by exact o12 hk h),gl e (by exact o15 hk he)];exact O.up k e (by exact o12 hk h) he ((vn (by exact o16 h) (by exact o17 hk he)).mp hb)
  ·by_cases h:k=n
   ·clear z hL hR hmem eo' hnB hk;subst h;rw[gn];by_cases h0:mxL ((S.heap.filter λp=>decide (r<p.1)).map λp=>S.told.getD p.2.toNat 0)=0
    ·left;unfold newTold;exact o18 h0
    ·right;refine ad (Fq.mp (gG h0)) λp p1 p2=>?_;refine xa1 (GD.mp p1) λp1 p3=>?_;have hB:=(hv p.2.toNat).mpr (aR p p1 (of_decide_eq_true p3) rfl);have hlt:p.2.toNat<k:=(O.mem _).mp (GA _ hB);refine (aR p.2.toNat hlt ((vi hnA (by exact o19 hlt) O.nd (GA _ hB)).mpr hB) ?_);rw[gl _ hlt,p2];unfold newTold;exact o20
   ·rw[gl k (by exact o12 hk h)];rcases O.ex k (by exact o12 hk h) with h1|⟨e,he,hb,h2⟩
    ·exact .inl h1
    ·exact .inr (aR e he ((vn (by exact o16 h) (by exact o17 hk he)).mpr hb) (by rw[gl e (by exact o15 hk he)];exact h2))
theorem J1.pop{n:Nat}{S:S1}(J:J1 n S){p:PN}(hp:p∈S.ins)(hm:∀b∈S.ins,¬lt2 (ip b) (ip p)){ys:List P2}{x:P2}(e:S.heap=ys++[x]):
 (dz ys x).1=ip p∧J1 n ⟨S.told,(dz ys x).2,S.ins.erase p,S.gone++[p.2]⟩:=by
 obtain ⟨hH,pm,srt,so,sp,O⟩:=J;rw[e] at hH pm;refine xa2 (zA hH) λz1 z2 z3=>?_
 have e1:(dz ys x).1=ip p:=by
  have h1:(dz ys x).1∈S.ins.map ip:=pm.mem_iff.mp (z3.mem_iff.mpr (Fo ..));refine ad (Fq.mp h1) λq q1 q2=>?_;refine kj ?_ ?_
  ·exact z1 _ (pm.mem_iff.mpr (Fq.mpr (af p hp rfl)))
  ·rw[←q2];exact hm q q1
 refine ⟨e1,z2,?_,?_⟩
 ·rw[e1] at z3;have h2:(S.ins.map ip).Perm (ip p::(S.ins.erase p).map ip):=(List.perm_cons_erase hp).map ip;exact (List.perm_cons _).mp ((z3.symm.trans pm).trans h2)
 ·cases srt with
  |nil=>exact absurd (sp.mem_iff.mpr hp) s!"4"
  |cons q srt=>
   have:q=p:=by
    rcases FI.mp (sp.mem_iff.mpr hp) with h|h
    ·exact h.symm
    ·exact absurd (Gf so h) (hm q (sp.mem_iff.mp (Fo ..)))
   clear hm e1;subst this;refine (aR srt so.of_cons ((List.perm_cons _).mp (sp.trans (List.perm_cons_erase hp))) ?_);dsimp only;rw[Gj];exact O
theorem J1.start:J1 0 ⟨[],[],[],[]⟩:=⟨λi a b _ h=>by simp at h,.refl _,[],.nil,.refl _,⟨.nil,λk=>s!"4",rfl,λk h=>by exact o21 h,λk e h=>by exact (o22 h).elim,λk h=>by exact (o22 h).elim⟩⟩
theorem J1.done{n:Nat}{S:S1}(J:J1 n S)(e:S.ins=[]):OrdOk n S.told S.gone∧S.heap=[]:=by
 obtain ⟨hH,pm,srt,so,sp,O⟩:=J;rw[e] at pm sp;have:=sp.eq_nil;clear so sp;subst this;rw[List.map_nil,Hh] at O;exact ⟨O,pm.eq_nil⟩
section
theorem mR(m:Str):∀(ws:List Str) (i:Nat),(flat m ws)[2*i]?=if i<ws.length then EU m else none
 | [],i=>by simp[flat]
 |w::ws,0=>rfl
 |w::ws,i+1=>by
  show (m::w::flat m ws)[2*(i+1)]?=_;rw[show 2*(i+1)=2*i+1+1 by exact rfl,List.getElem?_cons_succ,List.getElem?_cons_succ,mR m ws i];simp
theorem oR(m:Str):∀(ws:List Str) (i:Nat),(flat m ws)[2*i+1]?=ws[i]?
 | [],i=>by simp[flat]
 |w::ws,0=>rfl
 |w::ws,i+1=>by
  show (m::w::flat m ws)[2*(i+1)+1]?=_;rw[show 2*(i+1)+1=2*i+1+1+1 by exact rfl,List.getElem?_cons_succ,List.getElem?_cons_succ,oR m ws i];simp
theorem gC(m:Str)(ws:List Str)(i:Nat):(bb ws m)[2*i]?=ws[i]?:=by
 unfold bb;rw[List.getElem?_drop,G7,oR]
theorem tj(m:Str)(ws:List Str)(i:Nat):(bb ws m)[2*i+1]?=if i+1<ws.length then EU m else none:=by
 unfold bb;rw[List.getElem?_drop,show 1+(2*i+1)=2*(i+1) by exact Dz,mR]
theorem eC(m:Str)(ws:List Str):(bb ws m).length=2*ws.length-1:=by
 unfold bb;rw[List.length_drop,kg]
theorem cA{m:Str}{ws:List Str}{i:Nat}{x:Str}(h:(bb ws m)[i]?=EU x):(∃j,i=2*j∧ws[j]?=EU x)∨(∃j,i=2*j+1∧x=m∧j+1<ws.length):=by
 rcases (show (∃j,i=2*j)∨∃j,i=2*j+1 by by_cases e:i % 2=0;exact .inl ⟨i/2,by exact (Nat.mul_div_cancel' (Nat.dvd_of_mod_eq_zero e)).symm⟩;exact .inr ⟨i/2,by exact Em e⟩) with ⟨j,rfl⟩|⟨j,rfl⟩
 ·exact .inl (af j rfl ((gC ..).symm.trans h))
 ·rw[tj] at h;split at h
  ·cases h;exact .inr (aR j rfl rfl s!"A")
  ·cases h
theorem xv{B:List Str}{x:Str}(h:∀i j:Nat,B[i]?=EU x->B[j]?=EU x->i=j):(bC B x).length≤1:=by
 have nd:(bC B x).Nodup:=by
  unfold bC;have s:((B.zipIdx.filter λp=>p.1=x).map (·.2)).Sublist (B.zipIdx.map (·.2)):=List.Sublist.map _ List.filter_sublist;refine List.Nodup.sublist s ?_;rw[List.zipIdx_map_snd];exact List.nodup_range'
 cases e:bC B x with
 |nil=>simp
 |cons a l=>
  cases l with
  |nil=>simp
  |cons b l=>
   rw[e] at nd;have h1:=h a b (d7.mp (by rw[e];simp)) (d7.mp (by rw[e];simp));clear e;subst h1;simp at nd
theorem AL{A B:List Str}{blo bhi i j:Nat}{x:Str}(hA:A[i]?=EU x)(hB:B[j]?=EU x)(hu:∀i j:Nat,B[i]?=EU x->B[j]?=EU x->i=j)(h1:blo≤j)(h2:j<bhi):hit A B blo bhi i=EU j:=by
 unfold hit;rw[hA];dsimp only
 cases e:(bC B x).find? λj=>decide (blo≤j∧j<bhi) with
 |none=>
  have:=List.find?_eq_none.mp e j (d7.mpr hB);simp at this;exact (Nat.not_lt_of_le (this h1) h2).elim
 |some k=>rw[hu k j (d7.mp (List.mem_of_find?_eq_some e)) hB]
theorem uA{A B:List Str}{blo bhi i:Nat}(h:∀j x,A[i]?=EU x->B[j]?=EU x->blo≤j->False):hit A B blo bhi i=none:=by
 cases e:hit A B blo bhi i with
 |none=>rfl
 |some j=>
  refine xa2 (eI e) λz1 h3 _=>?_;refine ad z1 λx h1 h2=>?_;exact (h j x h1 h2 h3).elim
theorem uG{A B:List Str}{blo bhi alo i j:Nat}(h:hit A B blo bhi i=EU j):∀{t:Nat},alo≤i->i<alo+t->(∀i',alo≤i'->i'<i->hit A B blo bhi i'=none)->fhp A B blo bhi alo t=EU (i,j)
 |0,h1,h2,_=>by exact (AR h1 h2).elim
 |t+1,h1,h2,h3=>by
  unfold fhp;by_cases e:i=alo+t
  ·clear h1 h2;subst e;rw[eX λi' a b=>h3 i' a b,h];rfl
  ·rw[uG h h1 (by exact Gh (FG h2) e) h3]
structure Wd (n:Nat) (W:Nat->Str) (m1 m2:Str):Prop where
 inj:∀a b,a<n->b<n->W a=W b->a=b
 n1:∀a,a<n->W a≠m1
 n2:∀a,a<n->W a≠m2
 ne:m1≠m2
section
variable {n:Nat} {told gone:List Nat} {W:Nat->Str} {m1 m2:Str} (O:OrdOk n told gone) (w:Wd n W m1 m2)
noncomputable def bc(told:List Nat)(n t:Nat):List Nat:=(F8 n).filter λk=>decide (t≤told.getD k 0)
noncomputable def bi(told gone:List Nat)(t:Nat):List Nat:=gone.filter λk=>decide (t≤told.getD k 0)
theorem gT{t k:Nat}:k∈bc told n t↔k<n∧t≤told.getD k 0:=by unfold bc;simp
include O in
theorem fK{t k:Nat}:k∈bi told gone t↔k<n∧t≤told.getD k 0:=by unfold bi;rw[GD,O.mem];simp
include O in
theorem pu{t:Nat}:(bi told gone t).Nodup:=O.nd.filter _
theorem mB{l:List Nat}{k:Nat}(h:k∈l):l[l.idxOf k]?=EU k:=by
 have:=Gk h;rw[E2 this];simp
theorem gD{l:List Nat}(nd:l.Nodup){i k:Nat}(h:l[i]?=EU k):l.idxOf k=i:=by
 obtain ⟨hl,e⟩:=E5.mp h;have h2:=Gk (show k∈l from e▸FB _);have h3:l[l.idxOf k]=k:=s!"4"
 have pw:=FY.mp nd;rcases Nat.lt_trichotomy (l.idxOf k) i with h|h|h
 ·exact absurd (h3.trans e.symm) (pw _ _ h2 hl h)
 ·exact h
 ·exact absurd (e.trans h3.symm) (pw _ _ hl h2 h)
theorem mN{p:Nat->Bool}:∀{l:List Nat},l.Nodup->∀{a b:Nat},a∈l->b∈l->p a=true->p b=true->(Bf (l.filter p) a b↔Bf l a b)
 | [],_,a,b,ha,_,_,_=>by cases ha
 |x::l,nd,a,b,ha,hb,pa,pb=>by
  obtain ⟨nx,nd⟩:=G3.mp nd;by_cases hab:a=b
  ·clear hb pb;subst hab;unfold Bf;simp
  by_cases h1:x=a
  ·clear ha;subst h1;have:b∈l:=(FI.mp hb).resolve_left (E8 hab);rw[GM pa];unfold Bf;rw[List.idxOf_cons_self,List.idxOf_cons_self,G4,G4,beq_false_of_ne hab];simp
  ·by_cases h2:x=b
   ·clear hb hab;subst h2;rw[GM pb];unfold Bf;rw[List.idxOf_cons_self,List.idxOf_cons_self];simp
   ·have ha':a∈l:=(FI.mp ha).resolve_left (E8 h1);have hb':b∈l:=(FI.mp hb).resolve_left (E8 h2);have ih:=mN nd ha' hb' pa pb;unfold Bf at ih⊢;by_cases hx:p x=true
    ·rw[GM hx,G4,G4,G4,G4,beq_false_of_ne h1,beq_false_of_ne h2];simpa using ih
    ·rw[Hr hx,G4 (xs:=l),G4 (xs:=l),beq_false_of_ne h1,beq_false_of_ne h2];simpa using ih
include O in
theorem uF{t a b:Nat}(ha:a∈bi told gone t)(hb:b∈bi told gone t):Bf (bi told gone t) a b↔Bf gone a b:=by
 have h1:=GD.mp ha;have h2:=GD.mp hb;exact mN O.nd h1.1 h2.1 h1.2 h2.2
noncomputable def fR(told:List Nat)(W:Nat->Str)(m1:Str)(n t:Nat):List Str:=bb ((bc told n t).map W) m1
noncomputable def eG(told gone:List Nat)(W:Nat->Str)(m2:Str)(t:Nat):List Str:=bb ((bi told gone t).map W) m2
theorem jc{W:Nat->Str}{l:List Nat}{i:Nat}{x:Str}(h:(l.map W)[i]?=EU x):∃k,l[i]?=EU k∧k∈l∧W k=x:=by
 rw[FA] at h;refine ad (Ge.mp h) λk h1 h2=>?_;exact (aR k h1 (G0 h1) h2)
include O w in
theorem iJ{t i j:Nat}{x:Str}(hx:x≠m2)(hi:(eG told gone W m2 t)[i]?=EU x)(hj:(eG told gone W m2 t)[j]?=EU x):i=j:=by
 rcases cA hi with ⟨i',rfl,h1⟩|⟨i',_,h,_⟩
 ·rcases cA hj with ⟨j',rfl,h2⟩|⟨j',_,h,_⟩
  ·refine aV (jc h1) λk a1 a2 a3=>?_;refine aV (jc h2) λk' b1 b2 b3=>?_;have:=w.inj k k' ((fK O).mp a2).1 ((fK O).mp b2).1 (a3.trans b3.symm);clear b2 b3;subst this;rw[←gD (pu O) a1,←gD (pu O) b1]
  ·exact absurd h hx
 ·exact absurd h hx
include w in
theorem qx{t i:Nat}{x:Str}(h:(fR told W m1 n t)[i]?=EU x):x≠m2:=by
 rcases cA h with ⟨j,_,h⟩|⟨j,_,rfl,_⟩
 ·refine aV (jc h) λk h1 h2 z1=>?_;clear h;subst z1;exact w.n2 k (gT.mp h2).1
 ·exact w.ne
include O w in
theorem y0(t:Nat):Rows (fR told W m1 n t) (eG told gone W m2 t) where
 uniq:=λx hx=>by
  refine xe1 (Gi hx) λi z1=>?_;obtain ⟨hi,e⟩:=z1;have:=qx w (E5.mpr ⟨hi,e⟩);exact xv λi j h1 h2=>iJ O w this h1 h2
 adj:=λi j a b h1 h2 h3 h4=>by
  rcases cA h2 with ⟨j',rfl,h⟩|⟨_,_,h,_⟩
  ·rcases cA h1 with ⟨i',rfl,h'⟩|⟨_,_,h',_⟩
   ·rcases cA h3 with ⟨_,e,_⟩|⟨_,_,e3,_⟩
    ·exact ww e
    ·rcases cA h4 with ⟨_,e,_⟩|⟨_,_,e4,_⟩
     ·exact ww e
     ·exact w.ne (e3.symm.trans e4)
   ·clear h1 h3;subst h';refine aV (jc h) λk _ k2 k3=>?_;exact w.n1 k ((fK O).mp k2).1 k3
  ·exact qx w h1 h
noncomputable def ce(told gone:List Nat)(n t:Nat)(l:List Nat):List (Nat×Nat):=(l.filter λk=>decide (told.getD k 0=t)).map λk=>(2*(bc told n t).idxOf k,2*(bi told gone t).idxOf k)
include O w in
theorem rO{t b i:Nat}:hit (fR told W m1 n t) (eG told gone W m2 t) b (eG told gone W m2 t).length (2*i+1)=none:=by
 refine uA λj x h1 h2 _=>?_;rcases cA h1 with ⟨_,e,_⟩|⟨_,_,rfl,_⟩
 ·exact ww e
 ·rcases cA h2 with ⟨_,_,h⟩|⟨_,_,h,_⟩
  ·refine aV (jc h) λk _ k2 k3=>?_;exact w.n1 k ((fK O).mp k2).1 k3
  ·exact w.ne h
include O in
theorem jE{t k:Nat}:k∈bc told n t↔k∈bi told gone t:=by rw[gT,fK O]
include O w in
theorem g4(t:Nat)(ht1:1≤t):∀(suf pre:List Nat) (a b:Nat),bc told n t=pre++suf->a≤2*pre.length->(∀i',a≤i'->i'<2*pre.length->hit (fR told W m1 n t) (eG told gone W m2 t) b (eG told gone W m2 t).length i'=none)->
 (∀k∈pre,2*(bi told gone t).idxOf k<b)->(b=0∨∃k∈pre,told.getD k 0=t∧b=2*(bi told gone t).idxOf k+1)->dZ (fR told W m1 n t) (eG told gone W m2 t) a b (ce told gone n t suf)
 | [],pre,a,b,e,ha,hno,_,_=>by
  show fhp _ _ _ _ _ _=none;refine eX λi h1 h2=>hno i h1 ?_;rw[Hh] at e;have:(fR told W m1 n t).length=2*pre.length-1:=by unfold fR;rw[eC,EZ,e]
  exact E1 (vO h1 h2) (EY (E6 this) (Nat.sub_le _ _))
 |k::suf,pre,a,b,e,ha,hno,hpre,hb=>by
  have hk:k∈bc told n t:=by rw[e];simp
  have hk':=(jE O).mp hk;have hkn:=(gT.mp hk)
  have hsort:(bc told n t).Pairwise (·<·):=List.Pairwise.filter _ List.pairwise_lt_range
  have hlt:∀x∈pre,x<k:=λx hx=>by
   rw[e] at hsort;exact (GL.mp hsort).2.2 x hx k (Fo ..)
  have hin:∀x,x<k->x∈bc told n t->x∈pre:=λx hx hc=>by
   rw[e] at hc hsort;rcases F3.mp hc with h|h
   ·exact h
   ·rcases FI.mp h with rfl|h
    ·exact (EJ hx).elim
    ·have:=Gf (GL.mp hsort).2.1 h;exact (FC _ (Fs hx this)).elim
  have eA:(fR told W m1 n t)[2*pre.length]?=EU (W k):=by
   unfold fR;rw[gC,FA,e,Hc (Fe _)];simp
  have eB:(eG told gone W m2 t)[2*(bi told gone t).idxOf k]?=EU (W k):=by
   unfold eG;rw[gC,FA,mB hk'];rfl
  have lA:=(E5.mp eA).1;have lB:=(E5.mp eB).1;have idx_pre:(bc told n t).idxOf k=pre.length:=gD (hsort.imp λh=>Fi h) (by rw[e,Hc (Fe _)];simp);by_cases ht:told.getD k 0=t
  ·have hbk:b≤2*(bi told gone t).idxOf k:=by
    rcases hb with rfl|⟨k0,h0,h1,rfl⟩
    ·exact FZ _
    ·have k0c:k0∈bc told n t:=by rw[e];exact GK _ h0
     have k0l:=(jE O).mp k0c
     have hne:(bi told gone t).idxOf k0≠(bi told gone t).idxOf k:=λh=>by
      have z:=mB k0l;rw[h,mB hk'] at z;clear h1 hno hpre k0c k0l h;cases z;exact FC _ (hlt _ h0)
     by_cases hh:Bf (bi told gone t) k k0
     ·have:=O.up k k0 hkn.1 (hlt _ h0) ((uF O hk' k0l).mp hh);exact absurd this (Ga.mpr (E6 (ht.trans h1.symm)))
     ·unfold Bf at hh;exact (Nat.mul_lt_mul_left s!"d").mpr (Gh (Ga.mp hh) hne)
   have hit0:=AL (blo:=b) (bhi:=(eG told gone W m2 t).length) eA eB (λi j h1 h2=>iJ O w (w.n2 k hkn.1) h1 h2) hbk lB
   have ed:ce told gone n t (k::suf)=(2*pre.length,2*(bi told gone t).idxOf k)::ce told gone n t suf:=by
    unfold ce;rw[GM (by simpa using ht),FW,idx_pre]
   rw[ed];refine ⟨uG hit0 ha (by exact E1 lA (Nat.sub_le_iff_le_add'.mp (Fe _))) hno,?_⟩;refine g4 t ht1 suf (pre++[k]) (2*pre.length+1) (2*(bi told gone t).idxOf k+1) (by rw[e,Gj];rfl) (by simp;exact Nat.le_succ _) (λi' h1 h2=>?_) (λx hx=>?_) (.inr (aR k s!"4" ht rfl))
   ·rw[E7,List.length_singleton] at h2;have:i'=2*pre.length+1:=by exact GH (FG h2) h1
    clear h1 h2;subst this;exact rO O w
   ·rcases F3.mp hx with hx|hx
    ·have:=hpre x hx;exact GO (E1 this hbk)
    ·rw[FX.mp hx];exact Fe _
  ·have hit0:hit (fR told W m1 n t) (eG told gone W m2 t) b (eG told gone W m2 t).length (2*pre.length)=none∧2*(bi told gone t).idxOf k<b:=by
    have:2*(bi told gone t).idxOf k<b:=by
     rcases O.ex k hkn.1 with h1|⟨e0,h1,h2,h3⟩
     ·have:=hkn.2;exact absurd (GH (by rw[h1];exact ht1) hkn.2) ht
     ·have e0c:e0∈bc told n t:=gT.mpr ⟨by exact Fs h1 hkn.1,by have:=hkn.2;exact FG (E1 (Gh hkn.2 (E8 ht)) (E6 h3))⟩;have e0l:=(jE O).mp e0c;have h4:=(uF O hk' e0l).mpr h2;have h5:=hpre e0 (hin e0 h1 e0c);unfold Bf at h4;exact E3 (FM 2 (Fu h4)) h5
    refine ⟨uA λj x h1 h2 h3=>?_,this⟩;rw[eA] at h1;cases h1;have:=iJ O w (w.n2 k hkn.1) h2 eB;exact FC _ (E1 (E3 (E6 this) ‹_›) h3)
   have ed:ce told gone n t (k::suf)=ce told gone n t suf:=by
    unfold ce;rw[Hr (by simpa using ht)]
   rw[ed];refine g4 t ht1 suf (pre++[k]) a b (by rw[e,Gj];rfl) (by simp;exact EY ha (FM 2 (Nat.le_succ _))) (λi' h1 h2=>?_) (λx hx=>?_) ?_
   ·rw[E7,List.length_singleton] at h2;by_cases h3:i'<2*pre.length
    ·exact hno i' h1 h3
    ·by_cases h4:i'=2*pre.length
     ·clear h1 h2 h3;subst h4;exact hit0.1
     ·have:i'=2*pre.length+1:=by exact GH (FG h2) (Gh (Ga.mp h3) (E8 h4))
      clear h1 h2 h3 h4;subst this;exact rO O w
   ·rcases F3.mp hx with hx|hx
    ·exact hpre x hx
    ·rw[FX.mp hx];exact hit0.2
   ·rcases hb with h|⟨k0,h0,h1,h2⟩
    ·exact .inl h
    ·exact .inr (aR k0 (GK _ h0) h1 h2)
include O w in
theorem rH{t:Nat}(ht:1≤t):dZ (fR told W m1 n t) (eG told gone W m2 t) 0 0 (ce told gone n t (bc told n t)):=
 g4 O w t ht (bc told n t) [] 0 0 rfl (FZ _) (λi' h1 h2=>by simp at h2) (λk h=>by simp at h) (.inl rfl)
noncomputable def eF(told:List Nat)(n t:Nat):List Nat:=(F8 n).filter λk=>decide (told.getD k 0=t)
theorem mL{t k:Nat}:k∈eF told n t↔k<n∧told.getD k 0=t:=by unfold eF;simp
theorem r9(t:Nat):(bc told n t).filter (λk=>decide (told.getD k 0=t))=eF told n t:=by
 unfold bc eF;rw[List.filter_filter];refine List.filter_congr λk _=>?_;rw[Bool.eq_iff_iff];simp only[Fd,decide_eq_true_eq];exact ⟨And.left,λz_h=>⟨z_h,E6 z_h.symm⟩⟩
theorem wf(t:Nat):(bc told n t).filter (λk=>decide (told.getD k 0≠t))=bc told n (t+1):=by
 unfold bc;rw[List.filter_filter];refine List.filter_congr λk _=>?_;rw[Bool.eq_iff_iff];simp only[Fd,decide_eq_true_eq];exact zw
theorem xu(t:Nat):(bi told gone t).filter (λk=>decide (told.getD k 0≠t))=bi told gone (t+1):=by
 unfold bi;rw[List.filter_filter];refine List.filter_congr λk _=>?_;rw[Bool.eq_iff_iff];simp only[Fd,decide_eq_true_eq];exact zw
include O in
theorem x9:bc told n 1=F8 n:=by
 unfold bc;refine List.filter_eq_self.mpr λk hk=>decide_eq_true (O.pos k (by simpa using hk))
include O in
theorem yt:bi told gone 1=gone:=by
 unfold bi;exact List.filter_eq_self.mpr λk hk=>decide_eq_true (O.pos k ((O.mem k).mp hk))
theorem mX:∀{a b:List Nat},a.Pairwise (·<·)->b.Pairwise (·<·)->(∀k,k∈a↔k∈b)->a=b
 | [],[],_,_,_=>rfl
 | [],x::b,_,_,h=>absurd ((h x).mpr s!"4") s!"4"
 |x::a,[],_,_,h=>absurd ((h x).mp s!"4") s!"4"
 |x::a,y::b,ha,hb,h=>by
  have h1:x=y:=by
   rcases FI.mp ((h x).mp s!"4") with e|e
   ·exact e
   ·rcases FI.mp ((h y).mpr s!"4") with e2|e2
    ·exact e2.symm
    ·have:=Gf hb e;have:=Gf ha e2;exact Dt ‹_› this
  subst h1;rw[mX ha.of_cons hb.of_cons λk=>?_];have:=h k;constructor
  ·intro hk;rcases FI.mp (this.mp (Fk _ hk)) with e|e
   ·clear hb h this;subst e;exact absurd (Gf ha hk) (FC _)
   ·exact e
  ·intro hk;rcases FI.mp (this.mpr (Fk _ hk)) with e|e
   ·clear ha h this;subst e;exact absurd (Gf hb hk) (FC _)
   ·exact e
include O in
theorem wg(t:Nat):gone.filter (λk=>decide (told.getD k 0=t))=eF told n t:=by
 refine mX ?_ (List.Pairwise.filter _ List.pairwise_lt_range) λk=>by rw[mL,GD,O.mem];simp
 have pw:gone.Pairwise λa b=>told.getD a 0=told.getD b 0->a<b:=by
  refine FY.mpr λi j hi hj hij e=>?_;have b1:gone.idxOf gone[i]=i:=gD O.nd (E2 hi);have b2:gone.idxOf gone[j]=j:=gD O.nd (E2 hj);by_cases h:gone[i]<gone[j]
  ·exact h
  ·have h0:gone[j]≠gone[i]:=λe=>by rw[e,b1] at b2;exact FC _ (E1 hij (E6 (Eq.symm b2)))
   have:=O.up gone[i] gone[j] ((O.mem _).mp (FB _)) (by exact Gh (Ga.mp h) h0) (by unfold Bf;exact E1 (E3 (E6 b1) hij) (E6 (Eq.symm b2)));exact Du e this
 refine List.pairwise_filter.mpr (pw.imp λh p q=>?_);exact h ((of_decide_eq_true p).trans (of_decide_eq_true q).symm)
end
end
section
theorem qn(x:Str)(l u:Option Int):cut x l u=StrLaws.sliceText x l u:=rfl
theorem eR(x:Str)(c:Nat):Fc x ⟨#[c]⟩=decide (c∈x.cps.toList):=StrLaws.found_one x c
theorem BL{x:Str}{i:Nat}{c:Nat}{l:List Nat}(h:x.cps.toList.drop i=c::l):cut x (EU (i:Int)) (EU ((i:Int)+1))=⟨#[c]⟩:=by
 have hl:i<x.cps.toList.length:=by
  rcases Nat.lt_or_ge i x.cps.toList.length with h1|h1
  ·exact h1
  ·rw[List.drop_of_length_le h1] at h;cases h
 rw[qn,StrLaws.sliceText_plain (ia2 (by exact dX) (by exact Ep) (by exact FP.mpr hl))];have e:((i:Int)).toNat=i:=by exact o33
 have e2:(((i:Int)+1)-(i:Int)).toNat=1:=by exact D6
 rw[e,e2,h];rfl
theorem Ay(c:Nat):cut ((⟨#[c]⟩:Str)++EW " ") none (EU (-1))=⟨#[c]⟩:=by
 have e:(⟨#[c]⟩:Str)++EW " " =⟨#[c,32]⟩:=by
  show (⟨#[c]++(EW " ").cps⟩:Str)=_;rw[show (EW " ").cps= #[32] by decide+kernel];rfl
 rw[e,qn,StrLaws.sliceText_to_neg s!"d" (by show-((2:Nat):Int)≤-1;decide)];rfl
theorem fQ{buf:Str}{pos x:Nat}{l:List Nat}(h:buf.cps.toList.drop pos=x::l):rd1 buf pos=(⟨#[x]⟩,pos+1)∧buf.cps.toList.drop (pos+1)=l∧pos+1≤buf.length:=by
 have hl:pos<buf.cps.toList.length:=by
  rcases Nat.lt_or_ge pos buf.cps.toList.length with h1|h1
  ·exact h1
  ·rw[List.drop_of_length_le h1] at h;cases h
 have hl':pos<buf.length:=by simpa[Str.length] using hl
 refine (ia2 ?_ ?_ hl')
 ·unfold rd1;rw[if_pos hl',BL h,Ay]
 ·rw[←List.drop_drop,h];rfl
theorem zt{buf:Str}{pos:Nat}(h:buf.cps.toList.drop pos=[]):rd1 buf pos=(EW "",pos):=by
 have hl:buf.cps.toList.length≤pos:=List.drop_eq_nil_iff.mp h;unfold rd1;rw[if_neg (by simp[Str.length] at hl⊢;exact o84 hl)]
noncomputable def cg(Pc buf:Str)(pos:Nat)(pb:Option Str)(l:List Nat):Prop:=match pb with
 |none=>buf.cps.toList.drop pos=l
 |some c=>(Pc.length !=0)=true∧∃x l',c=⟨#[x]⟩∧l=x::l'∧buf.cps.toList.drop pos=l'
noncomputable def gy(W Pc buf:Str)(Ks:LS->Prop)(ls:LS):Prop:=∃n,ig W Pc buf Ks n ls
section
variable {W Pc buf:Str} {Ks:LS->Prop} {st:Option Str} {tok:Str} {pos:Nat} {pb:Option Str} {q:Bool} {esc:Str} {x:Nat} {l:List Nat}
theorem yL(ok:okS ⟨st,tok,pos,pb,q,esc⟩)(h:cg Pc buf pos pb (x::l)){Kg:LS->Prop}
 (k:∀pos',cg Pc buf pos' none l->az W Pc buf Kg Ks ⟨#[x]⟩ ⟨st,tok,pos',none,q,esc⟩):oQ W Pc buf Kg Ks ⟨st,tok,pos,pb,q,esc⟩:=by
 refine ⟨ok,?_⟩
 cases pb with
 |none=>
  refine xa2 (fQ h) λe h2 _=>?_;dsimp only;rw[e,ite_self];exact k _ h2
 |some c=>
  refine jz h λhP y l' z1 z2=>?_;clear h;subst z1;refine xa1 z2 λe h2=>?_;clear z2;clear ok;cases e;rw[if_pos hP];exact k _ h2
theorem wZ(ok:okS ⟨st,tok,pos,none,q,esc⟩)(h:cg Pc buf pos none []){Kg:LS->Prop}
 (k:az W Pc buf Kg Ks "" ⟨st,tok,pos,none,q,esc⟩):oQ W Pc buf Kg Ks ⟨st,tok,pos,none,q,esc⟩:=by
 refine ⟨ok,?_⟩;dsimp only;rw[zt h,ite_self];exact k
theorem goE{st':Option Str}{tok':Str}{q':Bool}{esc':Str}(ok:okS ⟨st,tok,pos,pb,q,esc⟩)(h:cg Pc buf pos pb (x::l))
 (t:∀(Kg:LS->Prop) pos',az W Pc buf Kg Ks ⟨#[x]⟩ ⟨st,tok,pos',none,q,esc⟩=Kg ⟨st',tok',pos',none,q',esc'⟩)
 (k:∀pos',cg Pc buf pos' none l->gy W Pc buf Ks ⟨st',tok',pos',none,q',esc'⟩):gy W Pc buf Ks ⟨st,tok,pos,pb,q,esc⟩:=by
 have hx:∃pos',cg Pc buf pos' none l:=by
  cases pb with
  |none=>exact ⟨_,(fQ h).2.1⟩
  |some c=>refine jz h λ_ y l' _ z1=>?_;clear h;obtain ⟨e,h2⟩:=z1;cases e;exact ⟨_,h2⟩
 cases pb with
 |none=>
  refine xa2 (fQ h) λe h2 _=>?_;refine xe1 (k _ h2) λn hn=>?_;refine ⟨n+1,ok,?_⟩;dsimp only;rw[e,ite_self,t];exact hn
 |some c=>
  refine jz h λhP y l' z1 z2=>?_;clear h;subst z1;refine xa1 z2 λe h2=>?_;clear z2;cases e;refine xe1 (k _ h2) λn hn=>?_;refine ⟨n+1,ok,?_⟩;rw[if_pos hP];dsimp only;rw[t];exact hn
theorem CQ(ok:okS ⟨st,tok,pos,pb,q,esc⟩)(h:cg Pc buf pos pb (x::l))
 (k:∀pos',cg Pc buf pos' none l->az W Pc buf (λ_=>False) Ks ⟨#[x]⟩ ⟨st,tok,pos',none,q,esc⟩):gy W Pc buf Ks ⟨st,tok,pos,pb,q,esc⟩:=
 ⟨1,yL ok h k⟩
theorem wE(ok:okS ⟨st,tok,pos,none,q,esc⟩)(h:cg Pc buf pos none [])
 (k:az W Pc buf (λ_=>False) Ks "" ⟨st,tok,pos,none,q,esc⟩):gy W Pc buf Ks ⟨st,tok,pos,none,q,esc⟩:=⟨1,wZ ok h k⟩
end
theorem BC{buf:Str}{pos y:Nat}{l:List Nat}(h:buf.cps.toList.drop pos=y::10::l)(hy:y≠10):rdl buf pos=pos+2:=by
 have e0:buf.cps.toList[pos]?=EU y:=by
  have:(buf.cps.toList.drop pos)[0]?=EU y:=by rw[h];rfl
  rwa [List.getElem?_drop] at this
 have e1:buf.cps.toList[pos+1]?=EU 10:=by
  have:(buf.cps.toList.drop pos)[1]?=EU 10:=by rw[h];rfl
  rwa [List.getElem?_drop] at this
 have l1:pos+1<buf.length:=by
  have:=(E5.mp e1).1;simpa[Str.length] using this
 have hnl:EW "\n" =⟨#[10]⟩:=s!"1"
 have occ:Builtin.Str.occurrences buf ⟨#[10]⟩ pos buf.length 1=[pos+1]:=by
  rw[StrLaws.occ_eq]
  have r:List.range' pos (buf.length+1-pos)=pos::(pos+1)::List.range' (pos+2) (buf.length+1-pos-2):=by
   rw[show buf.length+1-pos=(buf.length+1-pos-2)+1+1 by exact (GX (m:=2) (Nat.le_sub_of_add_le (EY (E6 (G7 2 _)) (GP l1)))).symm,List.range'_succ,List.range'_succ];congr 3
  rw[r,G2];unfold He
  rw[if_neg (λhh=>by
   have:=(StrLaws.subAt_one buf 10 pos).mp ⟨hh.1.2,hh.2⟩;rw[e0] at this;clear h e0;cases this;exact hy rfl)]
  show (forIn ((pos+1)::List.range' (pos+2) (buf.length+1-pos-2)) ((#[]:Array Nat),pos) (He buf ⟨#[10]⟩ buf.length 1)).run.fst.toList=[pos+1];rw[G2];have z:=(StrLaws.subAt_one buf 10 (pos+1)).mpr e1
  have st:He buf ⟨#[10]⟩ buf.length 1 (pos+1) ((#[]:Array Nat),pos)=pure (ForInStep.yield (#[pos+1],pos+2)):=by
   unfold He;rw[if_pos ⟨⟨⟨by show 0<1;decide,by show pos≤pos+1;exact Ah⟩,z.1⟩,z.2⟩];rfl
  rw[st];show (forIn (List.range' (pos+2) (buf.length+1-pos-2)) (#[pos+1],pos+2) (He buf ⟨#[10]⟩ buf.length 1)).run.fst.toList=[pos+1]
  have stay:∀(ks:List Nat) (f:Nat),(forIn ks (#[pos+1],f) (He buf ⟨#[10]⟩ buf.length 1)).run.fst= #[pos+1]:=by
   intro ks
   induction ks with
   |nil=>intro f;rfl
   |cons a ks ih=>
    intro f;rw[G2]
    have:He buf ⟨#[10]⟩ buf.length 1 a (#[pos+1],f)=pure (ForInStep.yield (#[pos+1],f)):=by
     unfold He;rw[if_neg (λhh=>absurd hh.1.1.1 (by show¬(1<1);decide))]
    rw[this];exact ih f
  rw[stay]
 have f:fnd buf "\n" (pos:Int) (buf.length:Int)=((pos+1:Nat):Int):=by
  unfold fnd;rw[hnl];have a1:fromIndex buf.length (pos:Int)=pos:=by unfold fromIndex;rw[if_neg (by exact tG)];exact rfl
  have a2:min (fromIndex buf.length (buf.length:Int)) buf.length=buf.length:=by unfold fromIndex;rw[if_neg (by exact tG)];exact DV
  rw[a1,a2,occ]
 unfold rdl;rw[if_pos (by exact Fu l1),f,if_pos (by exact Fg _)];exact rfl
end
section
structure Cl (W Pc:Str) (x:Nat) (ws ha bs w p qu:Bool):Prop where
 ws:Fc (EW " \t\r\n") ⟨#[x]⟩=ws
 ha:Fc (EW "#") ⟨#[x]⟩=ha
 bs:Fc (EW "\\") ⟨#[x]⟩=bs
 w:Fc W ⟨#[x]⟩=w
 p:Fc Pc ⟨#[x]⟩=p
 qu:Fc (EW "'\"") ⟨#[x]⟩=qu
theorem bo(x:Nat):((⟨#[x]⟩:Str).length !=0)=true:=rfl
theorem rV:((EW "").length !=0)=false:=s!"1"
theorem gQ:(EW " " ==EW " ")=true:=s!"1"
theorem i8:(EW "a" ==EW " ")=false:=s!"1"
theorem pD:(EW "c" ==EW " ")=false:=s!"1"
theorem jw:Fc (EW "'\"") (EW "a")=false:=s!"1"
theorem tw:Fc (EW "'\"") (EW "c")=false:=s!"1"
theorem kQ:Fc (EW "\\") (EW "a")=false:=s!"1"
theorem s7:Fc (EW "\\") (EW "c")=false:=s!"1"
theorem kW:(EW "a" ==EW "c")=false:=s!"1"
theorem to:(EW "c" ==EW "c")=true:=s!"1"
theorem rR:((⟨#[39]⟩:Str)==EW " ")=false:=s!"1"
theorem l8:((⟨#[34]⟩:Str)==EW " ")=false:=s!"1"
theorem mq:((⟨#[92]⟩:Str)==EW " ")=false:=s!"1"
theorem uL:Fc (EW "'\"") ⟨#[39]⟩=true:=s!"1"
theorem i7:Fc (EW "'\"") ⟨#[34]⟩=true:=s!"1"
theorem oV:Fc (EW "'\"") ⟨#[92]⟩=false:=s!"1"
theorem lg:Fc (EW "\\") ⟨#[92]⟩=true:=s!"1"
theorem AP:Fc (EW "\"") ⟨#[39]⟩=false:=s!"1"
theorem BP:Fc (EW "\"") ⟨#[34]⟩=true:=s!"1"
section
variable {W Pc buf:Str} {Kg Ks:LS->Prop} {tok:Str} {pos:Nat} {q:Bool} {esc:Str} {x:Nat} {b1 b2 b3 b4 b5 b6:Bool}
theorem wJ(h:Cl W Pc x false false false true b5 b6):az W Pc buf Kg Ks ⟨#[x]⟩ ⟨EU (EW " "),tok,pos,none,q,esc⟩=Kg ⟨EU (EW "a"),⟨#[x]⟩,pos,none,q,esc⟩:=by
 simp[az,tSp,tQu,tEs,tWd,b8,gQ,bo,h.ws,h.ha,h.bs,h.w]
theorem rU(h:Cl W Pc x false false false false false true):az W Pc buf Kg Ks ⟨#[x]⟩ ⟨EU (EW " "),tok,pos,none,q,esc⟩=Kg ⟨EU ⟨#[x]⟩,tok,pos,none,q,esc⟩:=by
 simp[az,tSp,tQu,tEs,tWd,b8,gQ,bo,h.ws,h.ha,h.bs,h.w,h.p,h.qu]
theorem r6(h:Fc (EW " \t\r\n") ⟨#[x]⟩=true):az W Pc buf Kg Ks ⟨#[x]⟩ ⟨EU (EW " "),EW "",pos,none,false,esc⟩=Kg ⟨EU (EW " "),EW "",pos,none,false,esc⟩:=by
 simp[az,tSp,tQu,tEs,tWd,b8,gQ,bo,h,rV]
theorem A0(h:Cl W Pc x false true b3 b4 b5 b6):az W Pc buf Kg Ks ⟨#[x]⟩ ⟨EU (EW " "),tok,pos,none,q,esc⟩=Kg ⟨EU (EW " "),tok,rdl buf pos,none,q,esc⟩:=by
 simp[az,tSp,tQu,tEs,tWd,b8,gQ,bo,h.ws,h.ha]
theorem mM(h:Cl W Pc x false false false false true b6):az W Pc buf Kg Ks ⟨#[x]⟩ ⟨EU (EW " "),tok,pos,none,q,esc⟩=Kg ⟨EU (EW "c"),⟨#[x]⟩,pos,none,q,esc⟩:=by
 simp[az,tSp,tQu,tEs,tWd,b8,gQ,bo,h.ws,h.ha,h.bs,h.w,h.p]
theorem gk:az W Pc buf Kg Ks ⟨#[39]⟩ ⟨EU ⟨#[39]⟩,tok,pos,none,q,esc⟩=Kg ⟨EU (EW "a"),tok,pos,none,true,esc⟩:=by
 simp[az,tSp,tQu,tEs,tWd,b8,rR,uL,bo]
theorem gh:az W Pc buf Kg Ks ⟨#[34]⟩ ⟨EU ⟨#[34]⟩,tok,pos,none,q,esc⟩=Kg ⟨EU (EW "a"),tok,pos,none,true,esc⟩:=by
 simp[az,tSp,tQu,tEs,tWd,b8,l8,i7,bo]
theorem tX(hx:x≠39):az W Pc buf Kg Ks ⟨#[x]⟩ ⟨EU ⟨#[39]⟩,tok,pos,none,q,esc⟩=Kg ⟨EU ⟨#[39]⟩,tok++⟨#[x]⟩,pos,none,true,esc⟩:=by
 have e:((⟨#[x]⟩:Str)==⟨#[39]⟩)=false:=by rw[beq_eq_false_iff_ne];intro h;exact hx (by simpa using h)
 cases hb:Fc (EW "\\") ⟨#[x]⟩<;>simp[az,tSp,tQu,tEs,tWd,b8,rR,uL,bo,e,hb,AP]
theorem qa(hx:x≠34)(hb:Fc (EW "\\") ⟨#[x]⟩=false):az W Pc buf Kg Ks ⟨#[x]⟩ ⟨EU ⟨#[34]⟩,tok,pos,none,q,esc⟩=Kg ⟨EU ⟨#[34]⟩,tok++⟨#[x]⟩,pos,none,true,esc⟩:=by
 have e:((⟨#[x]⟩:Str)==⟨#[34]⟩)=false:=by rw[beq_eq_false_iff_ne];intro h;exact hx (by simpa using h)
 simp[az,tSp,tQu,tEs,tWd,b8,l8,i7,bo,e,hb]
theorem yP:az W Pc buf Kg Ks ⟨#[92]⟩ ⟨EU ⟨#[34]⟩,tok,pos,none,q,esc⟩=Kg ⟨EU ⟨#[92]⟩,tok,pos,none,true,⟨#[34]⟩⟩:=by
 have e:((⟨#[92]⟩:Str)==⟨#[34]⟩)=false:=s!"d"
 simp[az,tSp,tQu,tEs,tWd,b8,l8,i7,bo,e,lg,BP]
theorem AC(hx:x=34∨x=92):az W Pc buf Kg Ks ⟨#[x]⟩ ⟨EU ⟨#[92]⟩,tok,pos,none,q,⟨#[34]⟩⟩=Kg ⟨EU ⟨#[34]⟩,tok++⟨#[x]⟩,pos,none,q,⟨#[34]⟩⟩:=by
 rcases hx with rfl|rfl
 ·have e:((⟨#[34]⟩:Str) !=⟨#[92]⟩)=true:=s!"d"
  have e2:((⟨#[34]⟩:Str) !=⟨#[34]⟩)=false:=s!"d"
  simp[az,tSp,tQu,tEs,tWd,b8,mq,oV,lg,i7,bo,e,e2]
 ·have e:((⟨#[92]⟩:Str) !=⟨#[92]⟩)=false:=s!"d"
  simp[az,tSp,tQu,tEs,tWd,b8,mq,oV,lg,i7,bo,e]
theorem zv:az W Pc buf Kg Ks ⟨#[x]⟩ ⟨EU ⟨#[92]⟩,tok,pos,none,q,EW "a"⟩=Kg ⟨EU (EW "a"),tok++⟨#[x]⟩,pos,none,q,EW "a"⟩:=by
 simp[az,tSp,tQu,tEs,tWd,b8,mq,oV,lg,jw,bo]
theorem AQ(h:Cl W Pc x false false false b4 b5 true):az W Pc buf Kg Ks ⟨#[x]⟩ ⟨EU (EW "a"),tok,pos,none,q,esc⟩=Kg ⟨EU ⟨#[x]⟩,tok,pos,none,q,esc⟩:=by
 simp[az,tSp,tQu,tEs,tWd,b8,i8,jw,kQ,kW,bo,h.ws,h.ha,h.qu]
theorem Ea(h:Cl W Pc x false false true b4 b5 false):az W Pc buf Kg Ks ⟨#[x]⟩ ⟨EU (EW "a"),tok,pos,none,q,esc⟩=Kg ⟨EU ⟨#[x]⟩,tok,pos,none,q,EW "a"⟩:=by
 simp[az,tSp,tQu,tEs,tWd,b8,i8,jw,kQ,kW,bo,h.ws,h.ha,h.qu,h.bs]
theorem oO(ht:(tok.length !=0)=true)(h:Fc (EW " \t\r\n") ⟨#[x]⟩=true):az W Pc buf Kg Ks ⟨#[x]⟩ ⟨EU (EW "a"),tok,pos,none,q,esc⟩=Ks ⟨EU (EW " "),tok,pos,none,q,esc⟩:=by
 have ht':¬tok.length=0:=by simpa using ht
 simp[az,tSp,tQu,tEs,tWd,b8,i8,jw,kQ,kW,bo,h,ht']
theorem BW(ht:(tok.length !=0)=true)(hP:(Pc.length !=0)=true)(h:Cl W Pc x false false false false b5 false):az W Pc buf Kg Ks ⟨#[x]⟩ ⟨EU (EW "a"),tok,pos,none,q,esc⟩=Ks ⟨EU (EW " "),tok,pos,EU ⟨#[x]⟩,q,esc⟩:=by
 have ht':¬tok.length=0:=by simpa using ht
 have hP':¬Pc.length=0:=by simpa using hP
 simp[az,tSp,tQu,tEs,tWd,b8,i8,jw,kQ,kW,bo,h.ws,h.ha,h.bs,h.w,h.qu,ht',hP']
theorem CS(ht:(tok.length !=0)=true)(h:Fc (EW " \t\r\n") ⟨#[x]⟩=true):az W Pc buf Kg Ks ⟨#[x]⟩ ⟨EU (EW "c"),tok,pos,none,q,esc⟩=Ks ⟨EU (EW " "),tok,pos,none,q,esc⟩:=by
 have ht':¬tok.length=0:=by simpa using ht
 simp[az,tSp,tQu,tEs,tWd,b8,pD,tw,s7,to,bo,h,ht']
theorem y8(ht:(tok.length !=0)=true)(h:Cl W Pc x false true b3 b4 b5 b6):az W Pc buf Kg Ks ⟨#[x]⟩ ⟨EU (EW "c"),tok,pos,none,q,esc⟩=Ks ⟨EU (EW " "),tok,rdl buf pos,none,q,esc⟩:=by
 have ht':¬tok.length=0:=by simpa using ht
 simp[az,tSp,tQu,tEs,tWd,b8,pD,tw,s7,to,bo,h.ws,h.ha,ht']
theorem Dm(hP:(Pc.length !=0)=true)(h:Cl W Pc x false false b3 b4 false b6):az W Pc buf Kg Ks ⟨#[x]⟩ ⟨EU (EW "c"),tok,pos,none,q,esc⟩=Ks ⟨EU (EW " "),tok,pos,EU ⟨#[x]⟩,q,esc⟩:=by
 have hP':¬Pc.length=0:=by simpa using hP
 simp[az,tSp,tQu,tEs,tWd,b8,pD,tw,s7,to,bo,h.ws,h.ha,h.p,hP']
theorem uB:az W Pc buf Kg Ks (EW "") ⟨EU (EW "a"),tok,pos,none,q,esc⟩=Ks ⟨none,tok,pos,none,q,esc⟩:=by
 simp[az,tSp,tQu,tEs,tWd,b8,i8,jw,kQ,kW,rV]
theorem zD{c:Str}:az W Pc buf Kg Ks c ⟨none,tok,pos,none,q,esc⟩=Ks ⟨none,EW "",pos,none,q,esc⟩:=rfl
end
structure Lx (W Pc:Str):Prop where
 le:∀k,k<10->Cl W Pc (97+k) false false false true false false
 q1:Cl W Pc 39 false false false false false true
 q2:Cl W Pc 34 false false false false false true
noncomputable def inW(W:Str)(x:Nat):Bool:=decide (x∈W.cps.toList)
theorem CN {W Pc:Str} {x:Nat} {ws ha bs w p qu:Bool} (h: [inW (EW " \t\r\n") x,inW (EW "#") x,inW (EW "\\") x,inW W x,inW Pc x,inW (EW "'\"") x]=[ws,ha,bs,w,p,qu]):Cl W Pc x ws ha bs w p qu:=by
 simp only[List.cons.injEq,and_true] at h;refine xa4 h λh1 h2 h3 h4 z1=>?_;obtain ⟨h5,h6⟩:=z1;exact ⟨(eR _ _).trans h1,(eR _ _).trans h2,(eR _ _).trans h3,(eR _ _).trans h4,(eR _ _).trans h5,(eR _ _).trans h6⟩
noncomputable def clB(W Pc:Str)(x:Nat)(l:List Bool):Bool:=[inW (EW " \t\r\n") x,inW (EW "#") x,inW (EW "\\") x,inW W x,inW Pc x,inW (EW "'\"") x]==l
theorem qH{W Pc:Str}{x:Nat}{ws ha bs w p qu:Bool}(h:clB W Pc x [ws,ha,bs,w,p,qu]=true):Cl W Pc x ws ha bs w p qu:=CN (beq_iff_eq.mp h)
noncomputable abbrev Pc2:Str:=EW "();<>|&"
theorem xz{W Pc:Str}(h:((F8 10).all (λk=>clB W Pc (97+k) [false,false,false,true,false,false])&&clB W Pc 39 [false,false,false,false,false,true]&&clB W Pc 34 [false,false,false,false,false,true])=true):Lx W Pc:=by
 rw[Fd,Fd,Fn] at h;obtain ⟨⟨h1,h2⟩,h3⟩:=h;exact ⟨λk hk=>qH (h1 k (by simpa using hk)),qH h2,qH h3⟩
theorem lx2:Lx eu Pc2:=xz s!"k"
theorem lx1:Lx shW (EW ""):=xz s!"k"
theorem Ch:Cl eu Pc2 59 false false false false true false:=qH s!"k"
theorem BF:Cl eu Pc2 124 false false false false true false:=qH s!"k"
theorem hU:Fc (EW " \t\r\n") ⟨#[32]⟩=true:=s!"1"
theorem Cl.hash{W Pc:Str}:∃b4 b5,Cl W Pc 35 false true false b4 b5 false:=(ie2 _ _ ⟨s!"1",s!"1",s!"1",rfl,rfl,s!"1"⟩)
theorem Cl.bsl{W Pc:Str}:∃b4 b5,Cl W Pc 92 false false true b4 b5 false:=(ie2 _ _ ⟨s!"1",s!"1",s!"1",rfl,rfl,s!"1"⟩)
end
section
noncomputable def dp:List (List Nat):=[[],[32],[39],[34],[92],[35],[59],[124],[10]]
noncomputable def wd(k:Nat)(s:List Nat):Str:=⟨((97+k)::s).toArray⟩
noncomputable def di(k:Nat)(s:List Nat)(way:Nat):List Nat:=match way with
 |0=>(97+k)::(match s with| []=>[]|c::_=>[92,c])
 |1=>39::(97+k)::((match s with| []=>[]|c::_=>if c=39 then [39,34,39,34,39] else [c])++[39])
 |_=>34::(97+k)::((match s with| []=>[]|c::_=>if c=34∨c=92 then [92,c] else [c])++[34])
section
variable {W Pc buf:Str} {Ks:LS->Prop} {pos:Nat} {pb:Option Str} {q:Bool} {esc tok:Str} {l:List Nat}
theorem aQ{s:Str}(h:cg Pc buf pos pb l)(h1:tok.length≤500)(h2:s.length≤500)(h3:esc.length≤500):okS ⟨EU s,tok,pos,pb,q,esc⟩:=by
 refine (ia3 h1 (λc hc=>?_) (λc hc=>by cases hc;exact h2) h3);have hc:pb=EU c:=hc;subst hc;refine jz h λ_ x l' z1 _=>?_;clear h;clear hc;subst z1;show 1≤500;decide
theorem ux(x:Nat):EW "" ++(⟨#[x]⟩:Str)=⟨#[x]⟩:=by
 show (⟨(EW "").cps++ #[x]⟩:Str)=_;rw[show (EW "").cps= #[] by decide+kernel];rfl
theorem lsp:(EW " ").length≤500:=s!"1"
theorem la:(EW "a").length≤500:=s!"1"
theorem lc:(EW "c").length≤500:=s!"1"
theorem lem:(EW "").length≤500:=s!"1"
theorem l1(x:Nat):(⟨#[x]⟩:Str).length≤500:=by show 1≤500;decide
theorem l2(x y:Nat):(⟨#[x,y]⟩:Str).length≤500:=by show 2≤500;decide
theorem wN(L:Lx W Pc){k:Nat}(hk:k<10){s:List Nat}(hs:s∈dp){way:Nat}(hw:way<3)(h:cg Pc buf pos pb (di k s way++l))
 (K:∀pos' q' (esc':Str),cg Pc buf pos' none l->esc'.length≤500->gy W Pc buf Ks ⟨EU (EW "a"),wd k s,pos',none,q',esc'⟩):
 gy W Pc buf Ks ⟨EU (EW " "),EW "",pos,pb,false,EW " "⟩:=by
 have cle:=L.le k hk;refine xe2 (Cl.bsl (W:=W) (Pc:=Pc)) λb4 b5 cb=>?_
 match way,hw with
 |0,_=>
  unfold di at h;refine goE (aQ h lem lsp lsp) h (λKg p=>wJ cle) λp1 h=>?_
  match s,hs with
  | [],_=>exact K _ _ _ h lsp
  | [c],hs=>
   refine goE (aQ h (l1 _) la lsp) h (λKg p=>Ea cb) λp2 h=>?_;refine goE (aQ h (l1 _) (l1 _) la) h (λKg p=>zv) λp3 h=>?_;exact K _ _ _ h la
  |_::_::_,hs=>simp[dp] at hs
 |1,_=>
  unfold di at h;refine goE (aQ h lem lsp lsp) h (λKg p=>rU L.q1) λp1 h=>?_;refine goE (aQ h lem (l1 _) lsp) h (λKg p=>tX (by exact D9)) λp2 h=>?_;rw[ux]
  match s,hs with
  | [],_=>
   refine goE (aQ h (l1 _) (l1 _) lsp) h (λKg p=>gk) λp3 h=>?_;exact K _ _ _ h lsp
  | [c],hs=>
   dsimp only at h;by_cases hc:c=39
   ·clear hs;subst hc;rw[if_pos rfl] at h;refine goE (aQ h (l1 _) (l1 _) lsp) h (λKg p=>gk) λp3 h=>?_;refine goE (aQ h (l1 _) la lsp) h (λKg p=>AQ L.q2) λp4 h=>?_;refine goE (aQ h (l1 _) (l1 _) lsp) h (λKg p=>qa s!"d" (L.q1).bs) λp5 h=>?_;refine goE (aQ h (l2 _ _) (l1 _) lsp) h (λKg p=>gh) λp6 h=>?_;refine goE (aQ h (l2 _ _) la lsp) h (λKg p=>AQ L.q1) λp7 h=>?_;refine goE (aQ h (l2 _ _) (l1 _) lsp) h (λKg p=>gk) λp8 h=>?_;exact K _ _ _ h lsp
   ·rw[if_neg hc] at h;refine goE (aQ h (l1 _) (l1 _) lsp) h (λKg p=>tX hc) λp3 h=>?_;refine goE (aQ h (l2 _ _) (l1 _) lsp) h (λKg p=>gk) λp4 h=>?_;exact K _ _ _ h lsp
  |_::_::_,hs=>simp[dp] at hs
 |2,_=>
  unfold di at h;refine goE (aQ h lem lsp lsp) h (λKg p=>rU L.q2) λp1 h=>?_;refine goE (aQ h lem (l1 _) lsp) h (λKg p=>qa (by exact DI) cle.bs) λp2 h=>?_;rw[ux]
  match s,hs with
  | [],_=>
   refine goE (aQ h (l1 _) (l1 _) lsp) h (λKg p=>gh) λp3 h=>?_;exact K _ _ _ h lsp
  | [c],hs=>
   dsimp only at h;by_cases hc:c=34∨c=92
   ·rw[if_pos hc] at h;refine goE (aQ h (l1 _) (l1 _) lsp) h (λKg p=>yP) λp3 h=>?_;refine goE (aQ h (l1 _) (l1 _) (l1 _)) h (λKg p=>AC hc) λp4 h=>?_;refine goE (aQ h (l2 _ _) (l1 _) (l1 _)) h (λKg p=>gh) λp5 h=>?_;exact K _ _ _ h (l1 _)
   ·rw[if_neg hc] at h
    have hb:Fc (EW "\\") ⟨#[c]⟩=false:=by
     rw[eR];have e:(EW "\\").cps.toList=[92]:=s!"1"
     rw[e];simp;exact λe=>hc (.inr e)
    refine goE (aQ h (l1 _) (l1 _) lsp) h (λKg p=>qa (λe=>hc (.inl e)) hb) λp3 h=>?_;refine goE (aQ h (l2 _ _) (l1 _) lsp) h (λKg p=>gh) λp4 h=>?_;exact K _ _ _ h lsp
  |_::_::_,hs=>simp[dp] at hs
end
structure T4 where
 k:Nat
 s:List Nat
 way:Nat
 gap:Nat
structure T4.Ok (t:T4):Prop where
 k:t.k<10
 s:t.s∈dp
 way:t.way<3
 gap:t.gap<3
noncomputable def T4.w(t:T4):Str:=wd t.k t.s
noncomputable def T4.d(t:T4):List Nat:=di t.k t.s t.way
noncomputable def ft(mk:Nat):Nat->List Nat
 |0=>[mk]
 |1=>[32,mk,32]
 |_=>[mk,35,39,10]
noncomputable def ck(mk:Nat):List T4->List Nat
 | []=>[]
 |t::ts=>ft mk t.gap++(t.d++ck mk ts)
theorem iT(t:T4):(t.w==EW "")=false:=by
 rw[beq_eq_false_iff_ne];intro h;have:t.w.cps.size=(EW "").cps.size:=by rw[h]
 rw[show (EW "").cps.size=0 by decide+kernel] at this;simp[T4.w,wd] at this
theorem jy(t:T4):(t.w.length !=0)=true:=by simp[T4.w,wd,Str.length]
theorem fj{t:T4}(h:t.Ok):t.w.length≤500:=by
 have:=h.s;simp only[dp,FI,List.not_mem_nil,or_false] at this;rcases this with e|e|e|e|e|e|e|e|e<;>(unfold T4.w wd;rw[e];show _≤500;exact Fp rfl)
theorem c8{st:Option Str}{tok:Str}{pos:Nat}{pb:Option Str}{q:Bool}{esc:Str}(h:(tok==EW "")=false):cw ⟨st,tok,pos,pb,q,esc⟩= .s tok:=by
 have h':¬tok=EW "" :=by simpa using h
 cases q<;>simp[cw,h']
section
variable {W Pc buf:Str}
theorem mY{pos:Nat}(h:cg Pc buf pos none []):Reads W Pc buf [] none pos none:=
 wE (ia3 lem (λc hc=>by cases hc) (λc hc=>by cases hc) lsp) h (by rw[zD];exact uT s!"1")
theorem fw{t:T4}(L:Lx W Pc)(ht:t.Ok){toks:List Str}{pos:Nat}{pb:Option Str}{l:List Nat}(h:cg Pc buf pos pb (t.d++l))
 (K:∀pos' q' (esc':Str),cg Pc buf pos' none l->esc'.length≤500->gy W Pc buf (λls=>cw ls= .s t.w∧Reads W Pc buf toks ls.st ls.pos ls.pb) ⟨EU (EW "a"),t.w,pos',none,q',esc'⟩):
 Reads W Pc buf (t.w::toks) (EU (EW " ")) pos pb:=wN L ht.k ht.s ht.way h K
theorem se{pos y:Nat}{l:List Nat}(h:cg Pc buf pos none (y::10::l))(hy:y≠10):cg Pc buf (rdl buf pos) none l:=by
 rw[BC h hy];show List.drop (pos+2) _=l;rw[←List.drop_drop,show List.drop pos buf.cps.toList=y::10::l from h];rfl
noncomputable def jq(m:Str):List T4->List Str
 | []=>[]
 |t::ts=>m::t.w::jq m ts
theorem ym(t:T4)(h:t.Ok):∃x l,t.d=x::l∧(x=97+t.k∨x=39∨x=34):=by
 obtain ⟨k,s,way,gap⟩:=t;have:=h.way;dsimp only at this;unfold T4.d di
 match way,this with
 |0,_=>exact (cy _ _ rfl (.inl rfl))
 |1,_=>exact (cy _ _ rfl (.inr (.inl rfl)))
 |2,_=>exact (cy _ _ rfl (.inr (.inr rfl)))
theorem goM(P:LS->Prop){Ks:LS->Prop}{st:Option Str}{tok:Str}{pos:Nat}{pb:Option Str}{q:Bool}{esc:Str}{x:Nat}{l:List Nat}{ls':Nat->LS}(ok:okS ⟨st,tok,pos,pb,q,esc⟩)(h:cg Pc buf pos pb (x::l))
 (t:∀pos',az W Pc buf (λ_=>False) Ks ⟨#[x]⟩ ⟨st,tok,pos',none,q,esc⟩=Ks (ls' pos')) (k:∀pos',cg Pc buf pos' none l->Ks (ls' pos')):gy W Pc buf Ks ⟨st,tok,pos,pb,q,esc⟩:=
 CQ ok h λpos' h'=>by rw[t];exact k pos' h'
theorem ly{mk:Nat}(L:Lx W Pc)(hP:(Pc.length !=0)=true)(cm:Cl W Pc mk false false false false true false):
 ∀(ts:List T4),(∀t∈ts,t.Ok)->∀(t0:T4),t0.Ok->∀(pos:Nat) (q:Bool) (esc:Str),cg Pc buf pos none (ck mk ts)->esc.length≤500->
  gy W Pc buf (λls=>cw ls= .s t0.w∧Reads W Pc buf (jq ⟨#[mk]⟩ ts) ls.st ls.pos ls.pb) ⟨EU (EW "a"),t0.w,pos,none,q,esc⟩
 | [],_,t0,ok0,pos,q,esc,h,he=>by
  refine wE (aQ h (fj ok0) la he) h ?_;rw[uB];exact ⟨c8 (iT t0),mY h⟩
 |t::ts,ok,t0,ok0,pos,q,esc,h,he=>by
  have okt:=ok t (Fo ..);have next:=λ(p:Nat) (pb:Option Str) (h:cg Pc buf p pb (t.d++ck mk ts))=>fw (toks:=jq ⟨#[mk]⟩ ts) L okt h λp' q' e' h' he'=>ly L hP cm ts (λx hx=>ok x (Fk _ hx)) t okt p' q' e' h' he';refine xe2 (Cl.hash (W:=W) (Pc:=Pc)) λb4 b5 ch=>?_
  have mne:((⟨#[mk]⟩:Str)==EW "")=false:=by
   rw[beq_eq_false_iff_ne];intro h;have:(⟨#[mk]⟩:Str).cps.size=(EW "").cps.size:=by rw[h]
   rw[show (EW "").cps.size=0 by decide+kernel] at this;simp at this
  have hg:=okt.gap;unfold ck at h;have g3:t.gap=0∨t.gap=1∨t.gap=2:=by exact xe hg
  rcases g3 with g|g|g
  ·rw[g] at h;unfold ft at h;refine goM (λ_=>True) (aQ h (fj ok0) la he) h (λp=>BW (jy t0) hP cm) λp1 h1=>⟨c8 (iT t0),?_⟩
   have h2:cg Pc buf p1 (EU ⟨#[mk]⟩) (mk::(t.d++ck mk ts)):=(jm hP _ _ rfl ⟨rfl,h1⟩)
   refine goE (aQ h2 lem lsp lsp) h2 (λKg p=>mM cm) λp2 h2=>?_;refine am (ym t okt) λx l e hx=>?_;have h3:=h2;rw[e] at h3
   have cx:∃b4 b6,Cl W Pc x false false false b4 false b6:=by
    clear e h3;rcases hx with rfl|rfl|rfl
    ·exact (ie2 _ _ (L.le _ okt.k))
    ·exact (ie2 _ _ L.q1)
    ·exact (ie2 _ _ L.q2)
   refine xe2 cx λc4 c6 cx=>?_;refine goM (λ_=>True) (aQ h3 (l1 _) lc lsp) h3 (λp=>Dm hP cx) λp3 h4=>⟨c8 mne,?_⟩
   refine next p3 (EU ⟨#[x]⟩) ?_;exact (jm hP x (l++ck mk ts) rfl ⟨by rw[e];rfl,h4⟩)
  ·rw[g] at h;unfold ft at h;refine goM (λ_=>True) (aQ h (fj ok0) la he) h (λp=>oO (jy t0) hU) λp1 h1=>⟨c8 (iT t0),?_⟩
   refine goE (aQ h1 lem lsp lsp) h1 (λKg p=>mM cm) λp2 h2=>?_;refine goM (λ_=>True) (aQ h2 (l1 _) lc lsp) h2 (λp=>CS (bo _) hU) λp3 h4=>⟨c8 mne,?_⟩
   exact next p3 none h4
  ·rw[g] at h;unfold ft at h;refine goM (λ_=>True) (aQ h (fj ok0) la he) h (λp=>BW (jy t0) hP cm) λp1 h1=>⟨c8 (iT t0),?_⟩
   have h2:cg Pc buf p1 (EU ⟨#[mk]⟩) (mk::(35::39::10::(t.d++ck mk ts))):=(jm hP _ _ rfl ⟨rfl,h1⟩)
   refine goE (aQ h2 lem lsp lsp) h2 (λKg p=>mM cm) λp2 h2=>?_;refine goM (λ_=>True) (aQ h2 (l1 _) lc lsp) h2 (λp=>y8 (bo _) ch) λp3 h4=>⟨c8 mne,?_⟩
   exact next _ none (se h4 s!"d")
theorem lH(L:Lx W Pc):
 ∀(ts:List T4),(∀t∈ts,t.Ok)->∀(t0:T4),t0.Ok->∀(pos:Nat) (q:Bool) (esc:Str),cg Pc buf pos none (ck 32 ts)->esc.length≤500->
  gy W Pc buf (λls=>cw ls= .s t0.w∧Reads W Pc buf (ts.map T4.w) ls.st ls.pos ls.pb) ⟨EU (EW "a"),t0.w,pos,none,q,esc⟩
 | [],_,t0,ok0,pos,q,esc,h,he=>by
  refine wE (aQ h (fj ok0) la he) h ?_;rw[uB];exact ⟨c8 (iT t0),mY h⟩
 |t::ts,ok,t0,ok0,pos,q,esc,h,he=>by
  have okt:=ok t (Fo ..);have next:=λ(p:Nat) (pb:Option Str) (h:cg Pc buf p pb (t.d++ck 32 ts))=>fw (toks:=ts.map T4.w) L okt h λp' q' e' h' he'=>lH L ts (λx hx=>ok x (Fk _ hx)) t okt p' q' e' h' he';refine xe2 (Cl.hash (W:=W) (Pc:=Pc)) λb4 b5 ch=>?_;have hg:=okt.gap;unfold ck at h;have g3:t.gap=0∨t.gap=1∨t.gap=2:=by exact xe hg
  rcases g3 with g|g|g
  ·rw[g] at h;unfold ft at h;exact goM (λ_=>True) (aQ h (fj ok0) la he) h (λp=>oO (jy t0) hU) λp1 h1=>⟨c8 (iT t0),next p1 none h1⟩
  ·rw[g] at h;unfold ft at h;refine goM (λ_=>True) (aQ h (fj ok0) la he) h (λp=>oO (jy t0) hU) λp1 h1=>⟨c8 (iT t0),?_⟩
   refine goE (aQ h1 lem lsp lsp) h1 (λKg p=>r6 hU) λp2 h2=>?_;refine goE (aQ h2 lem lsp lsp) h2 (λKg p=>r6 hU) λp3 h3=>?_;exact next p3 none h3
  ·rw[g] at h;unfold ft at h;refine goM (λ_=>True) (aQ h (fj ok0) la he) h (λp=>oO (jy t0) hU) λp1 h1=>⟨c8 (iT t0),?_⟩
   refine xe1 (next (rdl buf (p1+1)) none (se (show cg Pc buf (p1+1) none (39::10::(t.d++ck 32 ts)) from (fQ h1).2.1) s!"d")) λn hn=>?_;refine ⟨n+1,aQ h1 lem lsp lsp,?_⟩;dsimp only;rw[(fQ h1).1,ite_self];dsimp only;rw[A0 ch];exact hn
end
structure Th where
 w:Str
 way:Int
 gap:Nat
noncomputable def thM(t:Th):MV:= .t (.type "tuple") [.s t.w,.i t.way,.i (t.gap:Int)]
noncomputable def dN(mark:Str):Nat->Str
 |0=>mark
 |1=>EW " " ++mark++EW " "
 |_=>mark++EW "#'\n"
noncomputable def bF(mark:Str):List Th->Str->Str
 | [],acc=>acc
 |t::ts,acc=>bF mark ts ((if (acc !=EW "")=true then acc++dN mark t.gap else acc)++cF t.w t.way)
noncomputable def T4.th(t:T4):Th:=⟨t.w,(t.way:Int),t.gap⟩
theorem rc:((F8 10).all λk=>dp.all λs=>(F8 3).all λway=>(cF (wd k s) (way:Int)).cps.toList==di k s way&&decide ((Txt.replace (wd k s) q1 q5).length≤10000)&&decide ((wd k s).length≤100))=true:=s!"k"
theorem iw{t:T4}(h:t.Ok):(cF t.w (t.way:Int)).cps.toList=t.d∧(Txt.replace t.w q1 q5).length≤10000∧t.w.length≤100:=by
 have z:=Fn.mp (Fn.mp (Fn.mp rc t.k (by simpa using h.k)) t.s h.s) t.way (by simpa using h.way);simp only[Fd,beq_iff_eq,decide_eq_true_eq] at z;exact (ia2 z.1.1 z.1.2 z.2)
end
theorem fH(a b:Str):(a++b).cps.toList=a.cps.toList++b.cps.toList:=by
 show (a.cps++b.cps).toList=_;simp
theorem mx(a:Str):a.length=a.cps.toList.length:=by simp[Str.length]
theorem r7(mk:Nat){g:Nat}(hg:g<3):(dN ⟨#[mk]⟩ g).cps.toList=ft mk g:=by
 match g,hg with
 |0,_=>rfl
 |1,_=>
  show (EW " " ++(⟨#[mk]⟩:Str)++EW " ").cps.toList=_;rw[fH,fH,show (EW " ").cps.toList=[32] by decide+kernel];rfl
 |2,_=>
  show ((⟨#[mk]⟩:Str)++EW "#'\n").cps.toList=_;rw[fH,show (EW "#'\n").cps.toList=[35,39,10] by decide+kernel];rfl
theorem dl(k:Nat)(s:List Nat)(way:Nat):(di k s way).length=(di 0 s way).length:=by
 unfold di;split<;>rfl
theorem Av:∀s∈dp,∀way,way<3->1≤(di 0 s way).length∧(di 0 s way).length≤10:=s!"1"
theorem oJ{t:T4}(h:t.Ok):1≤t.d.length∧t.d.length≤10:=by
 have:=Av _ h.s _ h.way;rwa [←dl t.k] at this
theorem pB(mk g:Nat):(ft mk g).length≤4:=by
 unfold ft;split<;>simp
theorem pL{mk:Nat}:∀{ts:List T4},(∀t∈ts,t.Ok)->(ck mk ts).length≤14*ts.length
 | [],_=>by simp[ck]
 |t::ts,h=>by
  have:=pL (mk:=mk) λx hx=>h x (Fk t hx);have h1:=(oJ (h t (Fo ..))).2;have h2:=pB mk t.gap;unfold ck;rw[E7,E7,Hq];exact EY (GB h2 (GB h1 this)) (E6 ((Nat.add_assoc 4 10 (14*_)).symm.trans (G7 14 (14*_))))
theorem Ca{x:Str}(h:1≤x.cps.toList.length):(x !=EW "")=true:=by
 rw[bne_iff_ne];intro e;rw[e,show (EW "").cps.toList.length=0 by decide+kernel] at h;exact Nat.not_lt_zero _ h
theorem mW(mk:Nat):∀(ts:List T4) (acc:Str),(∀t∈ts,t.Ok)->1≤acc.cps.toList.length->(bF ⟨#[mk]⟩ (ts.map T4.th) acc).cps.toList=acc.cps.toList++ck mk ts
 | [],acc,_,_=>by simp[bF,ck]
 |t::ts,acc,h,ha=>by
  have ht:=h t (Fo ..);have e1:=(iw ht).1;rw[FW];unfold bF
  have e:((if (acc !=EW "")=true then acc++dN ⟨#[mk]⟩ t.th.gap else acc)++cF t.th.w t.th.way).cps.toList=acc.cps.toList++(ft mk t.gap++t.d):=by
   rw[if_pos (Ca ha),fH,fH];show _++(dN ⟨#[mk]⟩ t.gap).cps.toList++(cF t.w (t.way:Int)).cps.toList=_;rw[e1,r7 mk ht.gap,Gj]
  rw[mW mk ts _ (λx hx=>h x (Fk _ hx)) (by rw[e,E7];exact EY ha (Ft _ _)),e];show _=acc.cps.toList++(ft mk t.gap++(t.d++ck mk ts));simp[Gj]
theorem ke(mk:Nat){t:T4}{ts:List T4}(h:∀x∈t::ts,x.Ok):(bF ⟨#[mk]⟩ ((t::ts).map T4.th) (EW "")).cps.toList=t.d++ck mk ts:=by
 have ht:=h t (Fo ..);have e1:=(iw ht).1;rw[FW];unfold bF;have e0:¬((EW "" !=EW "")=true):=s!"1"
 have e:((if (EW "" !=EW "")=true then EW "" ++dN ⟨#[mk]⟩ t.th.gap else EW "")++cF t.th.w t.th.way).cps.toList=t.d:=by
  rw[if_neg e0,fH,show (EW "").cps.toList=[] by decide+kernel];exact e1
 rw[mW mk ts _ (λx hx=>h x (Fk _ hx)) (by rw[e];exact (oJ ht).1),e]
theorem gW(mk:Nat){ts:List T4}(h:∀x∈ts,x.Ok):(bF ⟨#[mk]⟩ (ts.map T4.th) (EW "")).length≤14*ts.length:=by
 cases ts with
 |nil=>show (EW "").length≤0;decide+kernel
 |cons t ts=>
  have h1:=(oJ (h t (Fo ..))).2;have h2:=pL (mk:=mk) λx hx=>h x (Fk t hx);rw[mx,ke mk h,E7,Hq];exact EY (GB h1 h2) (EY (E6 (G7 10 (14*_))) (Fj (by decide:10≤14) (14*_)))
theorem m9(m:Str):∀(ts:List T4),flat m (ts.map T4.w)=jq m ts
 | []=>rfl
 |t::ts=>by
  show m::t.w::flat m (ts.map T4.w)=m::t.w::jq m ts;rw[m9 m ts]
theorem xy{Pc buf:Str}{l:List Nat}(h:buf.cps.toList=l):cg Pc buf 0 none l:=by
 show List.drop 0 _=l;rw[List.drop_zero];exact h
theorem lJ{mk:Nat}(hm:mk=59∨mk=124){t:T4}{ts:List T4}(h:∀x∈t::ts,x.Ok):
 Reads eu Pc2 (bF ⟨#[mk]⟩ ((t::ts).map T4.th) (EW "")) (bb ((t::ts).map T4.w) ⟨#[mk]⟩) (EU (EW " ")) 0 none:=by
 have cm:Cl eu Pc2 mk false false false false true false:=by rcases hm with rfl|rfl;exact Ch;exact BF
 have hP:(Pc2.length !=0)=true:=s!"1"
 have e:bb ((t::ts).map T4.w) ⟨#[mk]⟩=t.w::jq ⟨#[mk]⟩ ts:=by
  unfold bb;rw[m9];rfl
 rw[e];have ht:=h t (Fo ..);refine fw (W:=eu) (Pc:=Pc2) lx2 ht (l:=ck mk ts) (xy (ke mk h)) λp q' e' h' he=>?_;exact ly lx2 hP cm ts (λx hx=>h x (Fk _ hx)) t ht p q' e' h' he
theorem qT{t:T4}{ts:List T4}(h:∀x∈t::ts,x.Ok):
 Reads shW (EW "") (bF ⟨#[32]⟩ ((t::ts).map T4.th) (EW "")) ((t::ts).map T4.w) (EU (EW " ")) 0 none:=by
 have ht:=h t (Fo ..);refine fw (W:=shW) (Pc:=EW "") lx1 ht (l:=ck 32 ts) (xy (ke 32 h)) λp q' e' h' he=>?_;exact lH lx1 ts (λx hx=>h x (Fk _ hx)) t ht p q' e' h' he
theorem BQ{k k':Nat}{s s':List Nat}(h:wd k s=wd k' s'):k=k':=by
 have:(wd k s).cps.toList=(wd k' s').cps.toList:=by rw[h]
 simp[wd] at this;exact this.1
theorem sw{k mk:Nat}{s:List Nat}(hk:k<10)(hm:mk=59∨mk=124):wd k s≠⟨#[mk]⟩:=by
 intro h;have:(wd k s).cps.toList=(⟨#[mk]⟩:Str).cps.toList:=by rw[h]
 simp[wd] at this;exact pwm hk hm this.1
noncomputable def aS(ts:List T4)(k:Nat):Str:=((ts[k]?).map T4.w).getD (EW "")
theorem nG{ts:List T4}{k:Nat}{t:T4}(h:ts[k]?=EU t):aS ts k=t.w:=by unfold aS;rw[h];rfl
structure Ths (ts:List T4):Prop where
 ok:∀t∈ts,t.Ok
 k:∀(i:Nat) (t:T4),ts[i]?=EU t->t.k=i
theorem Ths.wd{ts:List T4}(h:Ths ts)(hn:ts.length≤10):Wd ts.length (aS ts) ⟨#[59]⟩ ⟨#[124]⟩:=by
 have e:∀a,a<ts.length->∃s,aS ts a=Internal.wd a s:=λa ha=>by
  have h1:ts[a]?=EU ts[a]:=E2 ha;refine ⟨ts[a].s,?_⟩;rw[nG h1];unfold T4.w;rw[h.k a _ h1]
 refine ⟨λa b ha hb hab=>?_,λa ha hh=>?_,λa ha hh=>?_,s!"d"⟩
 ·obtain ⟨s,e1⟩:=e a ha;obtain ⟨s',e2⟩:=e b hb;rw[e1,e2] at hab;exact BQ hab
 ·obtain ⟨s,e1⟩:=e a ha;rw[e1] at hh;exact sw (by exact xq hn ha) (.inl rfl) hh
 ·obtain ⟨s,e1⟩:=e a ha;rw[e1] at hh;exact sw (by exact xq hn ha) (.inr rfl) hh
theorem kK:EW ";" =⟨#[59]⟩:=s!"1"
theorem gO:EW "|" =⟨#[124]⟩:=s!"1"
theorem pA:EW " " =⟨#[32]⟩:=s!"1"
section
theorem oT{X:Xc}{st:St}{Q:MV->St->Prop}{value slice:Fw}{vs:List MV}{k:Int}{j:Nat}{m:MV}(hp:∀o i,subscripted slice false o i=operate [o,i] (getItem o i))(hlo: -(2^63)≤k)(hfit:k<2^63)(hj:seqIndex? k vs.length=EU j)(hx:vs[j]?=EU m)(hq:Q m st):
 W2 X (subscriptTail value slice) (.t (.type "tuple") vs) (.i k) st Q:=λφ s v w I r e=>
 PySem.W.kba_turn (value':= .Name "_" ⟨0,0,0,0⟩) (λ_=>rfl) (xN (value:= .Name "_" ⟨0,0,0,0⟩) (slice:=slice) ⟨hp,λ_ _=>rfl⟩ hlo hfit hj hx hq φ s v w I r e)
theorem jS(mark:Str)(t:Th):∀(ts:List Th) (acc:Str),bF mark (ts++[t]) acc=(if (bF mark ts acc !=EW "")=true then bF mark ts acc++dN mark t.gap else bF mark ts acc)++cF t.w t.way
 | [],acc=>rfl
 |x::ts,acc=>jS mark t ts _
theorem yD(mk:Nat){g:Nat}(hg:g<3):(dN ⟨#[mk]⟩ g).length≤4:=by
 rw[mx,r7 mk hg];exact pB mk g
variable {C:Cx}
noncomputable def aM:List String:=["things","mark","line","word","way","gap"]
theorem jY:aM.Nodup:=s!"1"
set_option maxHeartbeats 4000000 in
theorem fM(G : Gd C){A : Fb}{k : Nat}(R : Rm (k + 2) A){lt : Addr}{ts : List T4}{mk : Nat}{mark : Str}{σ : Sg}(hm : mark = ⟨#[mk]⟩)(ok : ∀ t ∈ ts, t.Ok)(hl : ts.length ≤ 20)(e : σ lt = EU (.lst (ts.map λt => thM t.th))) :
    CtA C A (.ref 991) [.r lt, .s mark] [] σ λm σ' => m = .s (bF mark (ts.map T4.th) (EW "")) ∧ ∀ b m, σ b = EU m -> σ' b = EU m := by
  refine aW G R (a := 991) (c := 990) (x := top 32) (n := "_law_line") (q := "_law_line") (d := .none) (pm := (.str "law_il0198_01" 1575)) (an := none) (t := 1584)
    (ps := (["things", "mark"] : List Str).zip [.r lt, .s mark]) s!"k" s!"k" s!"k" s!"k" [("_law_dressed", .ref 984)] s!"k" (λv => (aX rfl s!"k" s!"1" (bk λa0 => bk λa1 => cK s!"k")).a) (ρ := zL aM [EU (.r lt), EU (.s mark), none, none, none, none]) s!"k" λQf hQf X hC O R' hin hg hE => ?_
  subst hC
  have N := kn G
  have hd := jY
  have i_things : gI aM 0 = EU "things" := rfl
  have i_mark : gI aM 1 = EU "mark" := rfl
  have i_line : gI aM 2 = EU "line" := rfl
  have i_word : gI aM 3 = EU "word" := rfl
  have i_way : gI aM 4 = EU "way" := rfl
  have i_gap : gI aM 5 = EU "gap" := rfl
  have g_law_dressed : X.gs.lookup (EW "_law_dressed") = EU (.ref 984 : Value) := hg ▸ s!"k"
  clear hg hE
  conv => arg 2; whnf
  have l_things : lk (zL aM [EU (.r lt), EU (.s mark), none, none, none, none]) "things" = EU (EU (.r lt)) := lkI hd i_things rfl
  have l_mark : lk (zL aM [EU (.r lt), EU (.s mark), none, none, none, none]) "mark" = EU (EU (.s mark)) := lkI hd i_mark rfl
  have l_line : lk (zL aM [EU (.r lt), EU (.s mark), none, none, none, none]) "line" = EU (none) := lkI hd i_line rfl
  have l_word : lk (zL aM [EU (.r lt), EU (.s mark), none, none, none, none]) "word" = EU (none) := lkI hd i_word rfl
  have l_way : lk (zL aM [EU (.r lt), EU (.s mark), none, none, none, none]) "way" = EU (none) := lkI hd i_way rfl
  have l_gap : lk (zL aM [EU (.r lt), EU (.s mark), none, none, none, none]) "gap" = EU (none) := lkI hd i_gap rfl
  generalize zL aM [EU (.r lt), EU (.s mark), none, none, none, none] = ρ at l_things l_mark l_line l_word l_way l_gap ⊢
  clear hd i_things i_mark i_line i_word i_way i_gap
  have sz := sizeLine_eq
  refine am (bu G (a := 984) s!"k") λob fd hi1 hi2 => ?_
  refine aa (ah s!"r" s!"r" trivial (aI (aJ O l_line (ae ?_))))
  have j_things : lk (stL ρ "line" (.s (EW ""))) "things" = EU (EU (.r lt)) := by walk_at "lk"
  have j_mark : lk (stL ρ "line" (.s (EW ""))) "mark" = EU (EU (.s mark)) := by walk_at "lk"
  have j_line : lk (stL ρ "line" (.s (EW ""))) "line" = EU (EU (.s (EW ""))) := by walk_at "lk"
  have j_nm : Nm (stL ρ "line" (.s (EW ""))) ["word", "way", "gap"] := .st (.cons l_word (.cons l_way (.cons l_gap .nil)))
  generalize stL ρ "line" (.s (EW "")) = ρ1 at j_things j_mark j_line j_nm ⊢
  refine dG (Q1 := λfl st' => fl = .next ∧ lk st'.ρ "line" = EU (EU (.s (bF mark (ts.map T4.th) (EW "")))) ∧ ∀ b m, σ b = EU m -> st'.σ b = EU m) ?_ ?_
  · refine kD (mo := λi => .itl lt i) (vs := ts.map λt => thM t.th) (Cond := λst => st.σ lt = EU (.lst (ts.map λt => thM t.th))) (λi st => lk st.ρ "mark" = EU (EU (.s mark)) ∧ lk st.ρ "line" = EU (EU (.s (bF mark ((ts.take i).map T4.th) (EW "")))) ∧ Nm st.ρ ["word", "way", "gap"] ∧ ∀ b m, σ b = EU m -> st.σ b = EU m)
      (ci O lt _) (λ_ => by rfl) iy (ai O j_things ⟨(ia3 j_mark j_line j_nm (λ_ _ h => h)), cB e⟩) (λi st h => h.2.2.2 _ _ e) ?_ ?_
    · intro J hJ i hi zr1 zr2; obtain ⟨σ', ρ'⟩ := zr1; refine xa3 zr2 λi_mark i_line i_nm fr => ?_; clear zr2
      dsimp only at i_mark i_line i_nm fr
      have hi' : i < ts.length := by simpa using hi
      have okt := ok ts[i] (FB _)
      have htk : ts.take (i + 1) = ts.take i ++ [ts[i]] := FU hi'
      have ll : (bF mark ((ts.take i).map T4.th) (EW "")).length ≤ 14 * 20 := by
        rw [hm]
        have := gW mk (ts := ts.take i) λx hx => ok x (List.mem_of_mem_take hx)
        have := List.length_take_le i ts
        exact EY ‹_› (FM 14 (EY this (EY (Fu hi') hl)))
      have eN : bF mark ((ts.take (i + 1)).map T4.th) (EW "") = (if (bF mark ((ts.take i).map T4.th) (EW "") != EW "") = true then bF mark ((ts.take i).map T4.th) (EW "") ++ dN mark ts[i].gap else bF mark ((ts.take i).map T4.th) (EW "")) ++ cF ts[i].w (ts[i].way : Int) := by
        rw [htk, Ff]; exact jS mark ts[i].th _ _
      rw [F9]
      generalize bF mark ((ts.take i).map T4.th) (EW "") = acc at i_line ll eN
      generalize ts[i] = t at okt eN ⊢
      refine xe1 (i_nm "word" s!"1") λu_w y_w => ?_
      refine xe1 (i_nm "way" s!"1") λu_y y_y => ?_
      refine xe1 (i_nm "gap" s!"1") λu_g y_g => ?_
      refine iI O s!"t" s!"r" (bY (aJ O y_w (bY (aJ O s!"lk" (bY (aJ O s!"lk" (fE ?_)))))))
      have z_mark : lk (stL (stL (stL ρ' "word" (.s t.w)) "way" (.i t.way)) "gap" (.i t.gap)) "mark" = EU (EU (.s mark)) := by walk_at "lk"
      have z_line : lk (stL (stL (stL ρ' "word" (.s t.w)) "way" (.i t.way)) "gap" (.i t.gap)) "line" = EU (EU (.s acc)) := by walk_at "lk"
      have z_word : lk (stL (stL (stL ρ' "word" (.s t.w)) "way" (.i t.way)) "gap" (.i t.gap)) "word" = EU (EU (.s t.w)) := by walk_at "lk"
      have z_way : lk (stL (stL (stL ρ' "word" (.s t.w)) "way" (.i t.way)) "gap" (.i t.gap)) "way" = EU (EU (.i t.way)) := by walk_at "lk"
      have z_gap : lk (stL (stL (stL ρ' "word" (.s t.w)) "way" (.i t.way)) "gap" (.i t.gap)) "gap" = EU (EU (.i t.gap)) := by walk_at "lk"
      have z_nm : Nm (stL (stL (stL ρ' "word" (.s t.w)) "way" (.i t.way)) "gap" (.i t.gap)) ["word", "way", "gap"] := .cons z_word (.cons z_way (.cons z_gap .nil))
      show WS X _ ⟨σ', stL (stL (stL ρ' "word" (.s t.w)) "way" (.i t.way)) "gap" (.i t.gap)⟩ _
      generalize stL (stL (stL ρ' "word" (.s t.w)) "way" (.i t.way)) "gap" (.i t.gap) = ρ2 at z_mark z_line z_word z_way z_gap z_nm ⊢
      have dl := iw okt
      have dd := (oJ okt).2
      have dl' : (cF t.w (t.way : Int)).length ≤ 10 := by rw [mx, dl.1]; exact dd
      have sl : (dN mark t.gap).length ≤ 4 := by rw [hm]; exact yD mk okt.gap
      have ml : mark.length = 1 := by rw [hm]; rfl
      refine dG (Q1 := λfl st' => fl = .next ∧ st'.σ = σ' ∧ lk st'.ρ "mark" = EU (EU (.s mark)) ∧ lk st'.ρ "line" = EU (EU (.s (if (acc != EW "") = true then acc ++ dN mark t.gap else acc))) ∧ lk st'.ρ "word" = EU (EU (.s t.w)) ∧ lk st'.ρ "way" = EU (EU (.i t.way)) ∧ Nm st'.ρ ["word", "way", "gap"]) ?_ ?_
      · refine bl (aC s!"r" (ai O z_line (aI (tP (ay ?_)))))
        cases h0 : (acc != EW "") with
        | false => exact aD rfl (ak (ia6 rfl rfl z_mark (by rw [if_neg s!"d"]; exact z_line) z_word z_way z_nm))
        | true =>
          refine ift rfl (aa (fU O z_line (aP (cW s!"t" (ac (ai O z_mark (ac (ar (ar (aI (ai O z_mark (cP ?_ ?_))))))))))))
          case' refine_2 => refine aI (cP ?_ (ac (ar (ai O z_mark (aI (cP ?_ (ag ⟨?_, ?_⟩)))))))
          case' refine_2.refine_4 => refine ai O z_gap (oT (k := (t.gap : Int)) (j := t.gap) (m := .s (dN mark t.gap)) (λ_ _ => by with_unfolding_all rfl) (by exact A1) (by have := okt.gap; exact jTT this s!"d") ?_ ?_ (gP ?_ (af _ z_line (ae (ak ⟨rfl, rfl, by walk_at "lk", by rw [if_pos rfl]; walk_at "lk", by walk_at "lk", by walk_at "lk", .st z_nm⟩)))))
          all_goals first
            | (rw [ml, sz]; exact of_decide_eq_true (by kernel_rfl!); done)
            | (rw [str_length_append, ml, sz]; exact of_decide_eq_true (by kernel_rfl!); done)
            | (rw [sz]; show 3 ≤ _; decide)
            | (have := okt.gap
               generalize t.gap = g at this ⊢
               have : g = 0 ∨ g = 1 ∨ g = 2 := by exact xe this
               rcases this with rfl | rfl | rfl <;> rfl)
            | (rw [sz]; exact EY (GB ll sl) (Fp rfl))
      · intro fl zr1 zr2; obtain ⟨σ2, ρ3⟩ := zr1; refine b7 zr2 λz2 => ?_; clear zr2; obtain ⟨rfl, v_mark, v_line, v_word, v_way, v_nm⟩ := z2
        dsimp only at v_mark v_line v_word v_way v_nm fr
        have al : (if (acc != EW "") = true then acc ++ dN mark t.gap else acc).length ≤ 284 := by
          split
          · rw [str_length_append]; exact EY (GB ll sl) (Fp rfl)
          · exact EY ll s!"d"
        generalize (if (acc != EW "") = true then acc ++ dN mark t.gap else acc) = acc1 at v_line al eN ⊢
        refine ae (aa (fU O v_line (bA O g_law_dressed hi1 hi2 trivial (ac (ai O v_word (ac (ai O v_way (ag (bx (Ct.mono (CtA.ct (lv G R' dl.2.2 dl.2.1)) ?_))))))))))
        intro m σ3 zr1; refine b7 zr1 λfr3 => ?_; clear zr1
        refine gP (by rw [sz]; exact EY (GB al dl') (Fp rfl)) (af _ v_line (ae (ak (hJ _ _ ⟨by walk_at "lk", by rw [eN]; walk_at "lk", .st v_nm, λb m hb => fr3 b m (fr b m hb)⟩))))
    · intro zr1 zr2; obtain ⟨σ', ρ'⟩ := zr1; refine xa3 zr2 λi_mark i_line i_nm fr => ?_; clear zr2
      rw [EZ, Gp] at i_line
      exact ak (ia2 rfl i_line fr)
  · intro fl zr1 zr2; obtain ⟨σ', ρ'⟩ := zr1; refine b7 zr2 λz2 => ?_; clear zr2; obtain ⟨i_line, fr⟩ := z2
    exact ae (aa (bd (ai O i_line (cY (hQf _ _ ⟨rfl, fr⟩)))))
end
section
open PyProof.V PySem.Spec
noncomputable def fZ{α:Type}(f:α->MV)(g:α->Fy):Prop:=∀(a:α) (h:Heap) (v:Value),VR h (f a) v->∃as,PySem.Reads h v (PySem.W.kqdP (g a)) as
theorem qA{α:Type}{f:α->MV}{g:α->Fy}(D:fZ f g){h:Heap}:∀{xs:List α} {vs:List Value},VRs h (xs.map f) vs->∃as,ReadsAll h vs (PySem.W.kqdPs (xs.map g)) as
 | [],vs,r=>by
  have r:VRs h [] vs:=r;unfold VRs at r;subst r;exact ⟨_,ReadsAll.nil⟩
 |a::xs,vs,r=>by
  have r:VRs h (f a::xs.map f) vs:=r;unfold VRs at r;refine am r λy ys z1 z2=>?_;clear r;clear r;subst z1;refine xa1 z2 λr1 r2=>?_;refine xe1 (D a h y r1) λas q=>?_;refine xe1 (qA D r2) λbs p=>?_;exact ⟨_,ReadsAll.cons q p⟩
theorem sL:fZ MV.s Fy.str:=λa h v ⟨t,e⟩=>by subst e;exact ⟨_,PySem.Reads.str a t⟩
theorem sN:fZ (λn:Int=>MV.i n) Fy.int:=λa h v ⟨t,e⟩=>by subst e;exact ⟨_,PySem.Reads.int a t⟩
theorem Cp:fZ (λ_:Unit=>MV.k .none) (λ_=>Fy.none):=λa h v e=>by
 have e:v= .none:=e;subst e;exact ⟨_,PySem.Reads.none⟩
theorem xV{α β:Type}{f:α->MV}{g:α->Fy}(D:fZ f g){k:β->List α}:fZ (λb=>MV.t (.type "tuple") ((k b).map f)) (λb=>Fy.tuple ((k b).map g)):=λb h v z=>by
 refine bz z λa o items n e1 z=>?_;refine xa4 z λe2 e3 e4 e5 r=>?_;subst e1;refine xe1 (qA D r) λas q=>?_;exact ⟨as,reads_tuple_at e2 e4 e5 q⟩
theorem uS:fZ tp (λp:P2=>Fy.tuple [.int p.1,.int p.2]):=xV (k:=λp:P2=>[p.1,p.2]) sN
theorem zB:fZ tT (λp:N3=>Fy.tuple [.int p.1,.int p.2.1,.int p.2.2]):=xV (k:=λp:N3=>[(p.1:Int),(p.2.1:Int),(p.2.2:Int)]) sN
section
variable {X:Xc} {st:St} {Q:MV->St->Prop}
open Classical in
theorem qe{d e:Fy}(hd:Gz 9 d=true)(he:Gz 9 e=true):PyData.eqv (PySem.W.kqdP d) (PySem.W.kqdP e)=decide (d=e):=by
 have q:=PySem.W.kqd_eqv 9 d e 9 hd he;by_cases hq:d=e
 ·rw[decide_eq_true hq];exact q.mpr hq
 ·rw[decide_eq_false hq];exact Bool.eq_false_iff.mpr λx=>hq (q.mp x)
theorem shp{d:Fy}(hd:Gz 9 d=true):SeqAt.shaped (PySem.W.kqdP d)=true:=by
 have l:=PySem.W.kqd_lay 9 d hd;unfold SeqAt.shaped;rw[l.1,Bool.true_and];exact decide_eq_true (EY l.2 s!"d")
theorem okL{α:Type}{g:α->Fy}{xs:List α}(h:∀a∈xs,Gz 8 (g a)=true):Gz 9 (.list (xs.map g))=true:=by
 show (xs.map g).all (Gz 8)=true;rw[Fn];intro d hd;refine ad (Fq.mp hd) λa ha z1=>?_;clear hd;subst z1;exact h a ha
theorem mK{α β:Type}{g:α->β}(hg:∀a b,g a=g b->a=b):∀{xs ys:List α},xs.map g=ys.map g->xs=ys
 | [],[],_=>rfl
 | [],_::_,h=>by cases h
 |_::_,[],h=>by cases h
 |a::xs,b::ys,h=>by
  rw[FW,FW,List.cons.injEq] at h;rw[hg _ _ h.1,mK hg h.2]
theorem rdL{α:Type}{f:α->MV}{g:α->Fy}(D:fZ f g){φ:Sg}{s:Shared}(I:IF X φ st s){l:Addr}{xs:List α}(e:st.σ l=EU (.lst (xs.map f))):∃as,PySem.Reads s.heap (.ref l) (PySem.W.kqdP (.list (xs.map g))) as:=by
 refine ad (I.own e) λitems z1 r=>?_;refine xe1 z1 λn pl=>?_;clear z1;refine xe1 (qA D r) λas q=>?_;exact ⟨_,reads_list_at pl rfl rfl q⟩
open Classical in
theorem xU{α:Type}{f:α->MV}{g:α->Fy}(D:fZ f g)(hg:∀a b,g a=g b->a=b){la lb:Addr}{xs ys:List α}(ea:st.σ la=EU (.lst (xs.map f)))(eb:st.σ lb=EU (.lst (ys.map f)))
 (ha:∀a∈xs,Gz 8 (g a)=true) (hb:∀a∈ys,Gz 8 (g a)=true) (hu:X.A.units+64<cLine) (hq:Q (.k (.bool (decide (xs=ys)))) st):W2 X (Fx .Eq) (.r la) (.r lb) st Q:=λφ s v w I e1 e2=>by
 cases (show v= .ref la from e1);cases (show w= .ref lb from e2);refine xe1 (rdL D I ea) λas ra=>?_;refine xe1 (rdL D I eb) λbs rb=>?_;refine PyProof.Rows.eq_dataH ra rb (shp (okL ha)) (shp (okL hb)) hu ?_;rw[qe (okL ha) (okL hb)]
 have:decide (Fy.list (xs.map g)=Fy.list (ys.map g))=decide (xs=ys):=by
  rw[decide_eq_decide,Fy.list.injEq];exact ⟨mK hg,λh=>by rw[h]⟩
 rw[this];exact .mk (aZ ..) I (.refl _) hq
open Classical in
theorem oC{α:Type}{f:α->MV}{g:α->Fy}(D:fZ f g)(hg:∀a b,g a=g b->a=b){la lb:Addr}{xs ys:List α}(ea:st.σ la=EU (.lst (xs.map f)))(eb:st.σ lb=EU (.lst (ys.map f)))
 (ha:∀a∈xs,Gz 8 (g a)=true) (hb:∀a∈ys,Gz 8 (g a)=true) (hu:X.A.units+64<cLine) (hq:Q (.k (.bool (!decide (xs=ys)))) st):W2 X (Fx .NotEq) (.r la) (.r lb) st Q:=λφ s v w I e1 e2=>by
 cases (show v= .ref la from e1);cases (show w= .ref lb from e2);refine xe1 (rdL D I ea) λas ra=>?_;refine xe1 (rdL D I eb) λbs rb=>?_;refine PyProof.Rows.ne_dataH ra rb (shp (okL ha)) (shp (okL hb)) hu ?_;rw[qe (okL ha) (okL hb)]
 have:decide (Fy.list (xs.map g)=Fy.list (ys.map g))=decide (xs=ys):=by
  rw[decide_eq_decide,Fy.list.injEq];exact ⟨mK hg,λh=>by rw[h]⟩
 rw[this];exact .mk (aZ ..) I (.refl _) hq
open Classical in
theorem wV{p q:P2}(hu:X.A.units+64<cLine)(hq:Q (.k (.bool (!decide (p=q)))) st):W2 X (Fx .NotEq) (tp p) (tp q) st Q:=λφ s v w I e1 e2=>by
 refine xe1 (uS p _ _ e1) λas ra=>?_;refine xe1 (uS q _ _ e2) λbs rb=>?_;refine PyProof.Rows.ne_dataH ra rb (shp rfl) (shp rfl) hu ?_;rw[qe rfl rfl]
 have:decide (Fy.tuple [.int p.1,.int p.2]=Fy.tuple [.int q.1,.int q.2])=decide (p=q):=by
  rw[decide_eq_decide];clear e1 ra;obtain ⟨a,b⟩:=p;clear e2 rb hq;obtain ⟨c,d⟩:=q;simp
 rw[this];exact .mk (aZ ..) I (.refl _) hq
theorem Ag{l b:Addr}{vs ws:List MV}(e:st.σ l=EU (.lst vs))(e2:st.σ b=EU (.lst ws))(hz:vs.length+ws.length≤1000)(hq:∀a,st.σ a=none->Q (.r a) ⟨st.σ.put a (.lst (vs++ws)),st.ρ⟩):W2 X (Ha .Add) (.r l) (.r b) st Q:=λφ s v w I e1 e3=>by
 cases (show v= .ref l from e1);cases (show w= .ref b from e3);refine ad (I.own e) λitems z3 rr=>?_;refine xe1 z3 λn pl=>?_;clear z3;refine ad (I.own e2) λitems2 z3 rr2=>?_;refine xe1 z3 λn2 pl2=>?_;clear z3;have z1:=rr.size;have z2:=rr2.size;refine P.add_list pl pl2 ?_ (by rw[sizeLine_eq];exact o31 hz z1 z2);have r:=(rr.append2 rr2).keep (Internal.keep_push s.heap {cls:= .type "list",data:= .seq (items++items2)});obtain ⟨n1,I'⟩:=I.new (o:={cls:= .type "list",data:= .seq (items++items2)}) (m:= .lst (vs++ws)) (af _ ⟨0,Heap.get?_push_size _ rfl⟩ r);exact .mk (bO ..) I' (Internal.keep_push _ _) (hq _ n1)
theorem De{n:Nat}(hn:n≤1000)(hq:Q (.s ⟨#[n]⟩) st):WC X (.builtin "chr") [.i (n:Int)] st Q:=λφ s us I r=>by
 unfold VRs at r;refine am r λy ys z1 z2=>?_;clear r;subst z1;refine xa1 z2 λz3 r=>?_;clear z2;obtain ⟨t,e1⟩:=z3;unfold VRs at r;subst r e1;refine P.chr_of_int (by simp;exact jLL hn s!"d") ?_;have e:((n:Int)).toNat=n:=by exact o33
 rw[e];exact .mk (fq ..) (I.toks _) (.refl _) hq
theorem AG(hh:X.A.handled=none){a b:Int}(hq:Q (.i (if b<a then b else a)) st):WC X (.builtin "min") [.i a,.i b] st Q:=λφ s us I r=>by
 unfold VRs at r;refine am r λy ys z1 z2=>?_;clear r;subst z1;refine xa1 z2 λz3 r=>?_;clear z2;obtain ⟨t,e1⟩:=z3;unfold VRs at r;refine am r λz zs z1 z2=>?_;clear r;subst z1;refine xa1 z2 λz3 r=>?_;clear z2;obtain ⟨u,e2⟩:=z3;unfold VRs at r;subst r e1 e2;refine min_two_ints hh λh' tk k=>?_;refine .mk (m:= .i (if b<a then b else a)) (st':=st) ?_ (I.grow k tk) (aB k) hq;split
 ·exact cH ..
 ·exact cH ..
end
theorem nB{h:Heap}:∀{ns:List Int} {vs:List Value},VRs h (ns.map .i) vs->∃ts:List (Int×Tok),ts.map (·.1)=ns∧vs=ts.map λp=> .int p.1 p.2
 | [],vs,r=>by
  have r:VRs h [] vs:=r;unfold VRs at r;subst r;exact (af ([]) rfl rfl)
 |n::ns,vs,r=>by
  have r:VRs h (.i n::ns.map .i) vs:=r;unfold VRs at r;refine am r λy ys z1 z2=>?_;clear r;clear r;subst z1;refine xa1 z2 λz3 r2=>?_;clear z2;obtain ⟨t,e⟩:=z3;refine ad (nB r2) λts h1 h2=>?_;exact (af ((n,t)::ts) (by rw[FW,h1]) (by rw[e,h2];rfl))
theorem jX(f:Nat->Int):∀n,argBest (λi j=>decide (f i>f j)) n≤n∧∀i,i≤n->f i≤f (argBest (λi j=>decide (f i>f j)) n)
 |0=>⟨Fe _,λi hi=>by
  have:i=0:=by exact o34 hi
  clear hi;subst this;exact Int.le_refl _⟩
 |n+1=>by
  refine xa1 (jX f n) λh1 h2=>?_;unfold argBest;split
  ·rename_i h;have h:=of_decide_eq_true h;refine ⟨Fe _,λi hi=>?_⟩;by_cases e:i=n+1
   ·clear hi;subst e;exact Int.le_refl _
   ·have:=h2 i (by exact o35 hi e);exact Int.le_trans this (Int.le_of_lt h)
  ·rename_i h;have h:¬f (n+1)>f (argBest (λi j=>decide (f i>f j)) n):=λx=>h (decide_eq_true x);refine ⟨by exact o37 h1,λi hi=>?_⟩;by_cases e:i=n+1
   ·clear hi;subst e;exact Int.not_lt.mp h
   ·exact h2 i (by exact o35 hi e)
section
variable {X:Xc} {st:St} {Q:MV->St->Prop}
theorem uW(hh:X.A.handled=none){l:Addr}{ns:List Int}(e:st.σ l=EU (.lst (ns.map .i)))(h0:0<ns.length){v:Int}(hv:v∈ns)(hm:∀x∈ns,x≤v)(hq:Q (.i v) st):WC X (.builtin "max") [.r l] st Q:=λφ s us I r=>by
 refine fS r ?_;refine ad (I.own e) λitems pl rr=>?_;refine ad (nB rr) λts t1 t2=>?_
 have ei:items=intItems ts.toArray:=by
  apply Array.toList_inj.mp;rw[t2];simp[intItems]
 have il:=pl.isList;rw[ei] at il;have hlen:ts.length=ns.length:=by rw[←t1,EZ]
 refine max_intList hh il (by simpa[hlen] using h0) λu h' tk hu k=>?_;refine xa1 (jX (numAt ts.toArray) (ts.toArray.size-1)) λb1 b2=>?_;have hsz:ts.toArray.size=ns.length:=by simp[hlen]
 generalize argBest (λi j=>decide (numAt ts.toArray i>numAt ts.toArray j)) (ts.toArray.size-1)=j at hu b1 b2;refine xe1 (intItems_at hu) λt z1=>?_;clear hu;subst z1
 have na:∀i (hi:i<ns.length),numAt ts.toArray i=ns[i]:=λi hi=>by
  unfold numAt;have h2:ts[i]?=EU (ts[i]'(by exact o39 hlen hi)):=E2 _;simp[h2];have:(ts.map (·.1))[i]'(by simp;exact o39 hlen hi)=ns[i]:=by simp only[t1]
  simpa using this
 have hj:j<ns.length:=by exact o40 h0 hsz b1
 have q1:numAt ts.toArray j=v:=by
  refine Int.le_antisymm ?_ ?_
  ·rw[na j hj];exact hm _ (FB _)
  ·obtain ⟨i,hi,e2⟩:=Gi hv;have:=b2 i (by exact o41 hsz hi);rw[na i hi,e2] at this;exact this
 rw[q1];exact .mk (cH ..) (I.grow k tk) (aB k) hq
end
end
section
theorem i9(f:Nat->P2):∀n,argBest (λi j=>decide (lt2 (f i) (f j))) n≤n∧∀i,i≤n->¬lt2 (f i) (f (argBest (λi j=>decide (lt2 (f i) (f j))) n))
 |0=>⟨Fe _,λi hi=>by
  have:i=0:=by exact o34 hi
  clear hi;subst this;exact dJ _⟩
 |n+1=>by
  refine xa1 (i9 f n) λh1 h2=>?_;unfold argBest;split
  ·rename_i h;have h:=of_decide_eq_true h;refine ⟨Fe _,λi hi=>?_⟩;by_cases e:i=n+1
   ·clear hi;subst e;exact dJ _
   ·exact λx=>h2 i (by exact o35 hi e) (m8 x h)
  ·rename_i h;have h:¬lt2 (f (n+1)) (f (argBest (λi j=>decide (lt2 (f i) (f j))) n)):=λx=>h (decide_eq_true x);refine ⟨by exact o37 h1,λi hi=>?_⟩;by_cases e:i=n+1
   ·clear hi;subst e;exact h
   ·exact h2 i (by exact o35 hi e)
section
variable {w:FL} {A:Fb} {E:Value->Shared->Prop} {s:Shared}
theorem vQ{p q:P2}{v u:Value}{Q:Value->Shared->Prop}(hu:A.units<cLine)(r1:VR s.heap (tp p) v)(r2:VR s.heap (tp q) u)(h:Q (.bool (decide (lt2 p q))) s):E4 (Fa pgm w) A (richCompare .Lt v u) Q E s:=by
 obtain ⟨a,b⟩:=p;obtain ⟨c,d⟩:=q;refine bz r1 λt o its n z1 z2=>?_;clear r1;subst z1;refine xa4 z2 λe2 e3 e4 e5 r=>?_;clear z2;refine bz r2 λu o' its' n' z1 z2=>?_;clear r2;subst z1;refine xa4 z2 λf2 f3 f4 f5 r'=>?_;clear z2;refine xe2 (dR r) λta tb z1=>?_;clear r;subst z1;refine xe2 (dR r') λtc td z1=>?_;clear r';subst z1;have T:s.TypeIs (.ref t) "tuple" :=(af o e2 e4)
 have U:s.TypeIs (.ref u) "tuple" :=(af o' f2 f4)
 refine wpAny_richCompare_same_or (op:= .Lt) (T:="tuple") T U G8 ?_ (.inr hu);refine call_meetsIn G8 T PySem.F.entry_tuple_lt (PySem.F.args_tuple_lt_2 _ _) ((sh t u a b c d ta tb tc td n n' o o' e4 f4 e5 f5).inModel pgm w) (ia2 e2 f2 ?_);exact ⟨s!"4",h⟩
theorem qE{p q:P2}{v u:Value}{Q:Bool->Shared->Prop}(hu:A.units<cLine)(r1:VR s.heap (tp p) v)(r2:VR s.heap (tp q) u)(h:Q (decide (p=q)) s):E4 (Fa pgm w) A (eqBool v u) Q E s:=by
 obtain ⟨a,b⟩:=p;obtain ⟨c,d⟩:=q;refine bz r1 λt o its n z1 z2=>?_;clear r1;subst z1;refine xa4 z2 λe2 e3 e4 e5 r=>?_;clear z2;refine bz r2 λu o' its' n' z1 z2=>?_;clear r2;subst z1;refine xa4 z2 λf2 f3 f4 f5 r'=>?_;clear z2;refine xe2 (dR r) λta tb z1=>?_;clear r;subst z1;refine xe2 (dR r') λtc td z1=>?_;clear r';subst z1;have k1:IsTupleKey (intKind pgm w) s.heap [a,b] t:=(jG o _ n e2 e4 ⟨e5,.cons (intKind_is ..) (.cons (intKind_is ..) .nil)⟩)
 have k2:IsTupleKey (intKind pgm w) s.heap [c,d] u:=(jG o' _ n' f2 f4 ⟨f5,.cons (intKind_is ..) (.cons (intKind_is ..) .nil)⟩)
 refine wpAny_eqBool_tuple hu k1 k2 ?_;have:decide ([a,b]=[c,d])=decide (((a,b):P2)=(c,d)):=by rw[decide_eq_decide];simp
 rw[this];exact h
variable {R:Result->Shared->Prop}
theorem vk{h₀:Heap}{l I S:Addr}{ps:List P2}{items:Array Value}(hh:A.in1.handled=none)(hu:A.in1.units<cLine)(nlI:l≠I)(nlS:l≠S)(nIS:I≠S)(hl:h₀.IsList l items)(r:VRs h₀ (ps.map tp) items.toList)
 (im:∀b o,h₀.get? b=EU o->imm o=true->b≠I∧b≠S):
 ∀(k j:Nat) (s:Shared) (vb:Value) (c:Nat),items.size-(j+1)=k->j+1≤items.size->(∀b o,b≠I->b≠S->h₀.get? b=EU o->s.heap.get? b=EU o)->s.heap.IsListIter I l (j+1)->
  items[argBest (λi j=>decide (lt2 ((ps[i]?).getD (0,0)) ((ps[j]?).getD (0,0)))) j]?=EU vb->s.heap.get? S=EU {cls:= .type "list",dict:=none,data:= .seq #[vb,vb] c,slots:= #[]}->
  (∀v h' tk,items[argBest (λi j=>decide (lt2 ((ps[i]?).getD (0,0)) ((ps[j]?).getD (0,0)))) (items.size-1)]?=EU v->(∀b o,b≠I->b≠S->h₀.get? b=EU o->h'.get? b=EU o)->R (.ok (.ret v)) {s with heap:=h',toks:=tk})->
  codeAny (Fa pgm w) A (.builtin "min.loop" ⟨[.ref I,.none,.ref S],[]⟩) R s:=by
 have hname:(toString "min" ++toString ".loop" :String)="min.loop" :=s!"d"
 have vat:∀(s:Shared),(∀b o,b≠I->b≠S->h₀.get? b=EU o->s.heap.get? b=EU o)->∀i v,items[i]?=EU v->VR s.heap (tp ((ps[i]?).getD (0,0))) v:=λs old i v hv=>by
  have hi:i<ps.length:=by
   have:=(Array.getElem?_eq_some_iff.mp hv).1;have z:=r.size;rw[EZ] at z;exact o54 this z
  have e:(ps.map tp)[i]?=EU (tp ps[i]):=by simp[hi]
  refine ad (r.arr e) λx hx rx=>?_;rw[hv] at hx;cases hx;rw[E2 hi];exact rx.keep λb o e i=>old b o (im b o e i).1 (im b o e i).2 e
 intro k
 induction k with
 |zero=>
  intro j s vb c hk hj old hit hb hS hR;have hin:j+1=items.size:=by exact GH hj (Nat.le_of_sub_eq_zero hk)
  refine Gc F.entry_min_loop ?_;rw[Fb.under_plainId F.plain_min_loop _];show E4 _ A.in1 (seqItems? (.ref S)>>=_) _ _ s;refine EX (GR hS rfl ?_);show E4 _ A.in1 (tryCatch (pyNext (.ref I)) _>>=_) _ _ s;have hl':s.heap.IsList l items:=by refine ad hl λo ho rest=>?_;clear hl;exact (af o (old l o nlI nlS ho) rest)
  refine EX (wpAny_tryCatch (wpAny_pyNext_list_end hh hit hl' (by simp;exact E6 (Eq.symm hin)) λh' he'=>?_));have hS':=he' S _ (E8 nIS) hS;show E4 _ A.in1 (updateSeq S (λ_=> #[])>>=_) _ _ _;refine EX ?_;refine GV hS' rfl (EX (wpAny_letGo (E0 ?_)));refine hR vb _ s.toks ?_ λb o hbI hbS e=>(Heap.get?_update_other _ _ (E8 hbS)).trans (he' b o hbI (old b o hbI hbS e));rw[←hin];exact hb
 |succ k ih=>
  intro j s vb c hk hj old hit hb hS hR;have hlt:j+1<items.size:=by exact Nat.lt_of_sub_ne_zero (by rw[hk];exact Nat.succ_ne_zero _)
  refine Gc F.entry_min_loop ?_;rw[Fb.under_plainId F.plain_min_loop _];show E4 _ A.in1 (seqItems? (.ref S)>>=_) _ _ s;refine EX (GR hS rfl ?_);show E4 _ A.in1 (tryCatch (pyNext (.ref I)) _>>=_) _ _ s;have hl':s.heap.IsList l items:=by refine ad hl λo ho rest=>?_;clear hl;exact (af o (old l o nlI nlS ho) rest)
  have hx:items[j+1]?=EU items[j+1]:=by simp[hlt]
  refine EX (wpAny_tryCatch (wpAny_pyNext_list_item hit hl' hx λh' hit' hs'=>?_));have hS':h'.get? S=_:=hs'.extBut S _ (E8 nIS) hS;have old':∀b o,b≠I->b≠S->h₀.get? b=EU o->h'.get? b=EU o:=λb o h1 h2 e=>hs'.extBut b o h1 (old b o h1 h2 e);show E4 _ A.in1 (tryCatch (holding [_,_] (richCompare .Lt items[j+1] vb>>=_)) _>>=_) _ _ _;refine EX (wpAny_tryCatch (wpAny_holding (EX (vQ hu (vat _ old' _ _ hx) (vat _ old' _ _ hb) ?_))));refine EX (wpAny_holding (wpAny_truthy_bool ?_));refine EX (wpAny_letGo (E0 ?_))
  cases hbt:decide (lt2 ((ps[j+1]?).getD (0,0)) ((ps[argBest (λi j=>decide (lt2 ((ps[i]?).getD (0,0)) ((ps[j]?).getD (0,0)))) j]?).getD (0,0))) with
  |true=>
   simp only[if_true];refine EX ?_;refine GV hS' rfl (EX (wpAny_letGo ?_));rw[hname];refine E0 ⟨Gs F.plain_min_loop _,ih (j+1) _ items[j+1] _ (by exact AF hk) hlt (λb o h1 h2 e=>(Heap.get?_update_other _ _ (E8 h2)).trans (old' b o h1 h2 e)) (hit'.at λo e=>(Heap.get?_update_other _ _ (E8 nIS)).trans e)
    (by simp only[argBest,hbt,if_true];exact hx) (Heap.get?_update_self _ hS' rfl) λv' h'' tk'' hP' hk''=>?_⟩
   exact hR v' h'' tk'' hP' hk''
  |false=>
   simp only[Gg,if_false];refine EX (wpAny_letGo ?_);rw[hname];refine E0 ⟨Gs F.plain_min_loop _,ih (j+1) _ vb c (by exact AF hk) hlt old' hit' (by simp only[argBest,hbt,Gg,if_false];exact hb) hS' λv' h'' tk'' hP' hk''=>?_⟩;exact hR v' h'' tk'' hP' hk''
end
end
section
section
variable {w:FL} {A:Fb} {E:Value->Shared->Prop} {s:Shared}
theorem uc{l:Addr}{ps:List P2}{items:Array Value}{Q:Value->Shared->Prop}(hh:A.handled=none)(hu:A.in1.units<cLine)(hl:s.heap.IsList l items)(r:VRs s.heap (ps.map tp) items.toList)(h0:0<items.size)
 (h:∀v h' tk,items[argBest (λi j=>decide (lt2 ((ps[i]?).getD (0,0)) ((ps[j]?).getD (0,0)))) (items.size-1)]?=EU v->(∀b o,s.heap.get? b=EU o->h'.get? b=EU o)->Q v {s with heap:=h',toks:=tk}):
 E4 (Fa pgm w) A (call (.builtin "min") [.ref l]) Q E s:=by
 have hname:(toString "min" ++toString ".loop" :String)="min.loop" :=s!"d"
 have llt:l<s.heap.objs.size:=by refine ad hl λ_ e _=>?_;clear hl;exact Heap.lt_size e
 refine call_function_tree F.kind_min F.plain_min F.entry_min (F.args_min1 _) ?_;show E4 _ A.in1 (Builtin.Builtins.bindParams "min" ["key","default"] 0 ⟨[],[]⟩>>=_) _ _ s;refine EX (FO (show Builtin.Builtins.bindParams "min" ["key","default"] 0 ⟨[],[]⟩=pure [none,none] from rfl) ?_);refine EX (E0 ?_);refine EX (wpAny_pyIter_list hl ?_);refine EX (GG ?_);rw[hname];have hI:(s.heap.push {cls:= .type "list_iterator",data:= .fields #[.ref l,.int 0 0]}).objs.size=s.heap.objs.size+1:=Heap.size_push ..;rw[hI];have k1:∀b o,s.heap.get? b=EU o->((s.heap.push {cls:= .type "list_iterator",data:= .fields #[.ref l,.int 0 0]}).push {cls:= .type "list",data:= .seq #[]}).get? b=EU o:=λb o e=>Heap.get?_push_of_some _ (Heap.get?_push_of_some _ e);refine E0 ⟨Gs F.plain_min_loop _,?_⟩
 have hS:((s.heap.push {cls:= .type "list_iterator",data:= .fields #[.ref l,.int 0 0]}).push {cls:= .type "list",data:= .seq #[]}).get? (s.heap.objs.size+1)=EU {cls:= .type "list",data:= .seq #[]}:=by
  rw[←hI];exact Heap.get?_push_size _ rfl
 have hit:((s.heap.push {cls:= .type "list_iterator",data:= .fields #[.ref l,.int 0 0]}).push {cls:= .type "list",data:= .seq #[]}).IsListIter s.heap.objs.size l 0:=(aR _ (Heap.get?_push_of_some _ (Heap.get?_push_size _ rfl)) rfl rfl)
 generalize ((s.heap.push {cls:= .type "list_iterator",data:= .fields #[.ref l,.int 0 0]}).push {cls:= .type "list",data:= .seq #[]})=h₁ at k1 hS hit⊢;refine Gc F.entry_min_loop ?_;rw[Fb.under_plainId F.plain_min_loop _];show E4 _ A.in1 (seqItems? (.ref (s.heap.objs.size+1))>>=_) _ _ _;refine EX (GR hS rfl ?_);show E4 _ A.in1 (tryCatch (pyNext (.ref s.heap.objs.size)) _>>=_) _ _ _;have hl₁:h₁.IsList l items:=by refine ad hl λo ho rest=>?_;clear hl;exact (af o (k1 l o ho) rest)
 have hx:items[0]?=EU items[0]:=by simp[h0]
 refine EX (wpAny_tryCatch (wpAny_pyNext_list_item (s:={s with heap:=h₁}) hit hl₁ hx λh' hit' hs'=>?_));have hS':=hs'.extBut (s.heap.objs.size+1) _ (Nat.succ_ne_self _) hS;show E4 _ A.in1 (updateSeq (s.heap.objs.size+1) (λ_=> #[items[0],items[0]])>>=_) _ _ _;refine EX ?_;refine GV hS' rfl ?_;rw[hname]
 have imI:∀b o,h₁.get? b=EU o->imm o=true->b≠s.heap.objs.size∧b≠s.heap.objs.size+1:=λb o e i=>by
  refine ⟨λe1=>?_,λe1=>?_⟩
  ·subst e1;refine aV hit λo' e2 e3 e4=>?_;clear hit;rw[e] at e2;cases e2;unfold imm at i;rw[e4,e3] at i;cases i
  ·subst e1;rw[hS] at e;cases e;cases i
 refine E0 ⟨Gs F.plain_min_loop _,vk (h₀:=h₁) (A:=A) hh hu (Fi llt) (Fi (GO llt)) (E8 (Nat.succ_ne_self _)) hl₁ (r.keep (aB k1)) imI _ 0 _ items[0] _ rfl h0
  (λb o h1 h2 e=>(Heap.get?_update_other _ _ (E8 h2)).trans (hs'.extBut b o h1 e)) (hit'.at λo e=>(Heap.get?_update_other _ _ (Nat.succ_ne_self _)).trans e) hx (Heap.get?_update_self _ hS' rfl) λv h'' tk hv old=>?_⟩
 exact h v h'' tk hv λb o e=>old b o (Fi (Heap.lt_size e)) (Fi (GO (Heap.lt_size e))) (k1 b o e)
end
section
variable {X:Xc} {st:St} {Q:MV->St->Prop}
theorem BX(hh:X.A.handled=none)(hu:X.A.in1.units<cLine){l:Addr}{ps:List P2}(e:st.σ l=EU (.lst (ps.map tp))){p:P2}(hp:p∈ps)(hm:∀q∈ps,¬lt2 q p)(hq:Q (tp p) st):WC X (.builtin "min") [.r l] st Q:=λφ s us I r=>by
 refine fS r ?_;refine ad (I.own e) λitems pl rr=>?_;have hlen:items.size=ps.length:=by have:=rr.size;rwa [EZ] at this
 have h0:0<ps.length:=List.length_pos_of_mem hp;refine uc hh hu pl.isList rr (by exact E1 h0 (E6 (Eq.symm hlen))) λv h' tk hv k=>?_;refine xa1 (i9 (λi=>(ps[i]?).getD (0,0)) (items.size-1)) λb1 b2=>?_;generalize argBest (λi j=>decide (lt2 ((ps[i]?).getD (0,0)) ((ps[j]?).getD (0,0)))) (items.size-1)=j at hv b1 b2;have hj:j<ps.length:=by exact o49 hlen h0 b1
 have ej:ps[j]?=EU ps[j]:=E2 hj;have e2:(ps.map tp)[j]?=EU (tp ps[j]):=by simp[hj]
 refine ad (rr.arr e2) λx hx rx=>?_;rw[hv] at hx;cases hx
 have ep:ps[j]=p:=by
  refine kj ?_ ?_
  ·refine xe1 (Gi hp) λi z1=>?_;obtain ⟨hi,e3⟩:=z1;have:=b2 i (by exact o41 hlen hi);rw[ej,E2 hi,e3] at this;exact this
  ·exact hm _ (FB _)
 rw[ep] at rx;exact .mk (rx.keep (aB k)) (I.grow k tk) (aB k) hq
end
section
variable {w:FL}
theorem pV(l:Addr)(items:Array Value)(n:Nat)(ps:List P2)(p:P2)(x:Value)(hz:items.size≤1000)(j:Nat)(hj:j<items.size)(hit:ps[j]?=EU p)(k:Nat):
 ∀i:Nat,j-i=k->i≤j->(∀m,i≤m->m<j->ps[m]?≠EU p)->MeetsIn pgm w (Builtin.«list.remove.loop» ⟨[.ref l,x,rawInt i],[]⟩)
  (λA R s=>A.in1.units<cLine∧s.heap.get? l=EU {cls:= .type "list",dict:=none,data:= .seq items n,slots:= #[]}∧VRs s.heap (ps.map tp) items.toList∧VR s.heap (tp p) x∧
   R (.ok (.ret .none)) {s with heap:=s.heap.update l (F5 λxs=>xs.eraseIdxIfInBounds j)}):=by
 have hs1:items.size≤sizeLine:=by rw[sizeLine_eq];exact o51 hz
 have vat:∀(h:Heap) (r:VRs h (ps.map tp) items.toList) (i:Nat) (hi:i<items.size) (q:P2),ps[i]?=EU q->VR h (tp q) items[i]:=λh r i hi q hq=>by
  have e2:(ps.map tp)[i]?=EU (tp q):=by simp[hq]
  refine ad (r.arr e2) λx hx rx=>?_;rw[Array.getElem?_eq_getElem hi] at hx;cases hx;exact rx
 induction k with
 |zero=>
  intro i hk hij hno A R s h;obtain ⟨hp,g,d,tk,os⟩:=s;refine xa4 h λhu hl r rx h=>?_;have hij':i=j:=by exact GH hij (Nat.le_of_sub_eq_zero hk)
  subst hij'
  wp_walk using wpAny_loadPart' hl
  have hi:items[((i:Nat):Int).toNat]?=EU items[i]:=by simp[hj]
  rw[hi];refine EX (qE hu (vat _ r i hj p hit) rx ?_);rw[decide_eq_true rfl];have hz':(items.eraseIdxIfInBounds i).size≤sizeLine+1:=EY (MeetsSeq.size_erased items _) (GP hs1)
  wp_walk using (GV hl rfl (hz:=hs1) (_hz':=hz')),wpAny_loadPart' hl
  simpa using h
 |succ k ih=>
  intro i hk hij hno A R s h;obtain ⟨hp,g,d,tk,os⟩:=s;refine xa4 h λhu hl r rx h=>?_;have hlt:i<items.size:=by exact E3 hij hj
  wp_walk using wpAny_loadPart' hl
  have hi:items[((i:Nat):Int).toNat]?=EU items[i]:=by simp[hlt]
  have hc:((i:Int)+1)=((i+1:Nat):Int):=by push_cast;rfl
  have hlen:items.size=ps.length:=by have:=r.size;rwa [EZ] at this
  have eq:ps[i]?=EU (ps[i]'(by exact o54 hlt hlen)):=E2 _;have ne:(ps[i]'(by exact o54 hlt hlen))≠p:=λe=>hno i (Fe _) (by exact Nat.lt_of_sub_ne_zero (by rw[hk];exact Nat.succ_ne_zero _)) (by rw[eq,e]);rw[hi];refine EX (qE hu (vat _ r i hlt _ eq) rx ?_);rw[decide_eq_false ne]
  wp_walk
  rw[hc]
  exact ⟨Gs MeetsSeq.plain_remove_loop _,Gc MeetsSeq.entry_remove_loop (by
   rw[Fb.under_plainId MeetsSeq.plain_remove_loop _];exact ih (i+1) (by exact o56 hk) (by exact Nat.lt_of_sub_ne_zero (by rw[hk];exact Nat.succ_ne_zero _)) (λm h1 h2=>hno m (by exact Fu h1) h2) A R _ (ia4 hu hl r rx h))⟩
theorem pk(l:Addr)(items:Array Value)(n:Nat)(ps:List P2)(p:P2)(x:Value)(hz:items.size≤1000)(j:Nat)(hj:j<items.size)(hit:ps[j]?=EU p)(hno:∀m,m<j->ps[m]?≠EU p):
 MeetsIn pgm w (Builtin.«list.remove» ⟨[.ref l,x],[]⟩)
  (λA R s=>A.in1.units<cLine∧s.heap.get? l=EU {cls:= .type "list",dict:=none,data:= .seq items n,slots:= #[]}∧VRs s.heap (ps.map tp) items.toList∧VR s.heap (tp p) x∧
   R (.ok (.ret .none)) {s with heap:=s.heap.update l (F5 λxs=>xs.eraseIdxIfInBounds j)}):=by
 intro A R s h;obtain ⟨hp,g,d,tk,os⟩:=s;refine xa4 h λhu hl r rx h=>?_
 wp_walk using wpAny_loadPart' hl
 exact ⟨Gs MeetsSeq.plain_remove_loop _,Gc MeetsSeq.entry_remove_loop (by
  rw[Fb.under_plainId MeetsSeq.plain_remove_loop _];exact pV l items n ps p x hz j hj hit _ 0 rfl (FZ _) (λm _ h2=>hno m h2) A R _ (ia4 hu hl r rx h))⟩
end
section
variable {X:Xc} {st:St} {Q:MV->St->Prop}
theorem VRs.erase{h:Heap}:∀{ms:List MV} {xs:List Value},VRs h ms xs->∀j,VRs h (ms.eraseIdx j) (xs.eraseIdx j)
 | [],xs,r,j=>by
  unfold VRs at r;subst r;exact .nil _
 |m::ms,xs,r,j=>by
  unfold VRs at r;refine am r λy ys z1 z2=>?_;clear r;subst z1;refine xa1 z2 λr1 r2=>?_;clear z2
  cases j with
  |zero=>exact r2
  |succ j=>exact .cons r1 (VRs.erase r2 j)
theorem iP{α β:Type}(f:α->β):∀(l:List α) (j:Nat),(l.eraseIdx j).map f=(l.map f).eraseIdx j
 | [],_=>rfl
 |_::_,0=>rfl
 |a::l,j+1=>by
  show f a::(l.eraseIdx j).map f=f a::(l.map f).eraseIdx j;rw[iP f l j]
theorem uR(ps:List P2)(p:P2)(h:p∈ps):ps.erase p=ps.eraseIdx (ps.idxOf p):=by
 rw[List.erase_eq_eraseIdx_of_idxOf rfl]
theorem un(hu:X.A.in1.units<cLine){l:Addr}{ps:List P2}(e:st.σ l=EU (.lst (ps.map tp)))(hz:ps.length≤900){p:P2}(hp:p∈ps)(hq:Q (.k .none) ⟨st.σ.put l (.lst ((ps.erase p).map tp)),st.ρ⟩):WC X (.builtin "list.remove") [.r l,tp p] st Q:=λφ s us I r=>by
 refine tz r λz rz=>?_;refine ad (I.own e) λitems z1 rr=>?_;refine xe1 z1 λn pl=>?_;clear z1;have hlen:items.size=ps.length:=by have:=rr.size;rwa [EZ] at this
 have hi:=Gk hp;have T:s.TypeIs (.ref l) "list" :=(af _ pl rfl)
 have h1:ps[ps.idxOf p]?=EU p:=by rw[E2 hi];simp
 have h2:∀m,m<ps.idxOf p->ps[m]?≠EU p:=λm hm e=>by
  obtain ⟨hl,e⟩:=E5.mp e;have:=List.not_of_lt_findIdx (p:=(·==p)) hm;simp[e] at this
 refine call_meetsIn PySem.F.slot_list_remove T PySem.F.entry_list_remove (PySem.F.args_list_remove_2 _ _) (pk (w:=X.C.w) l items n ps p z (by exact nLL (EY (E6 hlen) hz) rfl) (ps.idxOf p) (by exact o39 hlen hi) h1 h2) (ia4 hu pl rr rz ?_);have sb:Heap.SameBut l s.heap (s.heap.update l (F5 λxs=>xs.eraseIdxIfInBounds (ps.idxOf p))):=Heap.SameBut.update ..;have k:=co I e sb;refine xe1 (fP (λxs=>xs.eraseIdxIfInBounds (ps.idxOf p)) items n) λn' hm=>?_
 have er:(items.eraseIdxIfInBounds (ps.idxOf p)).toList=items.toList.eraseIdx (ps.idxOf p):=by
  simp[Array.eraseIdxIfInBounds,hlen,hi]
 have x:OR (s.heap.update l (F5 λxs=>xs.eraseIdxIfInBounds (ps.idxOf p))) l (.lst ((ps.erase p).map tp)):=by
  refine (af (items.eraseIdxIfInBounds (ps.idxOf p)) ⟨n',?_⟩ ?_)
  ·rw[←hm];exact Heap.get?_update_self _ pl rfl
  ·rw[er,uR ps p hp];have:((ps.eraseIdx (ps.idxOf p)).map tp)=(ps.map tp).eraseIdx (ps.idxOf p):=iP tp ps _;rw[this];exact (rr.erase _).keep k
 exact Post.mk (aZ ..) (I.upd (t:=s.toks) e sb x) k hq
end
end
section
section
variable {prog:Program} {w:FL} {A:Fb} {E:Value->Shared->Prop} {s:Shared} {dv:Addr->Value}
theorem tm{t:Addr}{o:Obj}{items:Array Value}{n:Nat}{Q:Bool->Shared->Prop}(X:(KD w.params dv).In s.heap)(ho:s.heap.get? t=EU o)(hc:o.cls= .ref 153)(hd:o.data= .seq items n)(hz:items.size<1000)(h0:items.size≠0)
 (h:∀k,Q true {s with toks:=k}):E4 (Fa prog w) A (Builtin.List.listLengthHint (.ref t)) Q E s:=by
 have ty:Fv (Fa prog w) s.heap (GY (.ref t)) (.ref 153):=by rw[←hc];exact (Fv.ld ho).andThen .now
 have L1:=Fv.of_peek (M:=Fa prog w) X (pg w.params dv ⟨prog,w.params⟩);have L2:Fv (Fa prog w) s.heap (isInstance (.ref t) (.type "tuple")) true:=ty.andThen (f:=λt=>GI t (.type "tuple")) (Fv.of_peek (M:=Fa prog w) X (jF w.params dv ⟨prog,w.params⟩));have SP:Fv (Fa prog w) s.heap (Hf (.ref t) "__len__") (EU (.builtin "tuple.__len__")):=ty.andThen L1;unfold Builtin.List.listLengthHint;refine EX (SP.here ?_);have sp:splitId "tuple.__len__" =EU ("tuple","__len__"):=s!"1"
 dsimp only;rw[sp];dsimp only;refine EX (L2.here ?_);refine wpAny_ite_split (λh=>absurd h s!"d") (λ_=>?_);refine wpAny_ite_split (λ_=>?_) (λhf=>absurd s!"1" hf);refine EX (ty.here ?_);refine EX (mV X ho hc hd hz λt' k=>?_);refine EX (m:=asInt? _) (E0 ?_);refine E0 ?_;have e:((items.size:Int) !=0)=true:=bne_iff_ne.mpr λhh=>h0 (by exact Int.ofNat_inj.mp hh);rw[e];exact h k
theorem nM{t:Addr}{o:Obj}{items:Array Value}{n:Nat}{Q:List Value->Shared->Prop}(hh:A.handled=none)(X:(KD w.params dv).In s.heap)(ho:s.heap.get? t=EU o)(hi:imm o=true)(hc:o.cls= .ref 153)(hd:o.data= .seq items n)(hz:items.size<1000)(h0:items.size≠0)
 (h:∀h' k,(∀b o,s.heap.get? b=EU o->h'.get? b=EU o)->Q items.toList {s with heap:=h',toks:=k}):E4 (Fa prog w) A (collect (.ref t)) Q NoE s:=by
 unfold collect;refine EX (wpAny_runValue (Gc F.entry_proto_collect ?_));rw[Fb.under_plainId F.plain_proto_collect _];show E4 _ A.in1 (newList []>>=λl=>again (.builtin "list.__iadd__" ⟨[l,.ref t],[]⟩)) _ _ s;refine EX (GG ?_);refine E0 ⟨Gs F.plain_list_iadd _,Gc F.entry_list_iadd ?_⟩;rw[Fb.under_plainId F.plain_list_iadd _];show E4 _ A.in1 (GZ (.ref s.heap.objs.size) (.ref t) (.ref s.heap.objs.size)) _ _ _;have old0:∀b o,s.heap.get? b=EU o->(s.heap.push {cls:= .type "list",data:= .seq ([]:List Value).toArray}).get? b=EU o:=λb o e=>Heap.get?_push_of_some _ e;have hS:(s.heap.push {cls:= .type "list",data:= .seq ([]:List Value).toArray}).get? s.heap.objs.size=EU {cls:= .type "list",data:= .seq #[] 0}:=Heap.get?_push_size _ rfl;have nS:∀b o,s.heap.get? b=EU o->b≠s.heap.objs.size:=λb o e=>Fi (Heap.lt_size e);have tS:t≠s.heap.objs.size:=nS _ _ ho;have ho1:=old0 _ _ ho;have X1:(KD w.params dv).In (s.heap.push {cls:= .type "list",data:= .seq ([]:List Value).toArray}):=X.keeps old0;generalize s.heap.push {cls:= .type "list",data:= .seq ([]:List Value).toArray}=h1 at*;generalize s.heap.objs.size=S at*;unfold GZ;have ty:Fv (Fa prog w) h1 (GY (.ref t)) (.ref 153):=by rw[←hc];exact (Fv.ld ho1).andThen .now
 refine EX (ty.here ?_);have q1:Builtin.List.listSameRef (.ref S) (.ref t)=false:=by simp[Builtin.List.listSameRef,E8 tS]
 have q2:(GU 153==Hk "list")=false:=s!"d"
 have q3:(GU 153==Hk "tuple")=false:=s!"d"
 simp only[q1,q2,q3,Bool.or_false,Gg,if_false];refine EX (lG X1 ho1 hc ?_);have old1:∀b o,h1.get? b=EU o->(h1.push {cls:= .type "tuple_iterator",data:= .fields #[.ref t,.int 0 0]}).get? b=EU o:=λb o e=>Heap.get?_push_of_some _ e;have hS2:=old1 _ _ hS;have ho2:=old1 _ _ ho1;have X2:=X1.keeps old1;have itI:IsTupIter (h1.push {cls:= .type "tuple_iterator",data:= .fields #[.ref t,.int 0 0]}) h1.objs.size t 0:=(aR _ (Heap.get?_push_size _ rfl) rfl rfl)
 have SI:S≠h1.objs.size:=Fi (Heap.lt_size hS);have lt1:∀b o,h1.get? b=EU o->b≠h1.objs.size:=λb o e=>Fi (Heap.lt_size e);have tI:=lt1 _ _ ho1;show E4 _ _ _ _ _ {s with heap:=h1.push {cls:= .type "tuple_iterator",data:= .fields #[.ref t,.int 0 0]}};generalize h1.push {cls:= .type "tuple_iterator",data:= .fields #[.ref t,.int 0 0]}=h2 at*;generalize h1.objs.size=I at*;refine EX (wpAny_holding (tm X2 ho2 hc hd hz h0 λk=>?_));refine wpAny_ite_split (λ_=>?_) (λhf=>absurd rfl hf);refine EX (wpAny_rule ?_);refine EX ?_;show E4 _ _ (updateSeq S (·.push .none)>>=λ_=>updateSeq S (·.pop)) _ _ _;refine EX (GV hS2 rfl ?_);have hS3:=Heap.get?_update_self (F5 (·.push FK)) hS2 rfl;refine GV (hz:=by seq_fits) hS3 rfl ?_;have hS4:=Heap.get?_update_self (F5 (·.pop)) hS3 rfl;have oth:∀b o,b≠S->h2.get? b=EU o->((h2.update S (F5 (·.push FK))).update S (F5 (·.pop))).get? b=EU o:=λb o hb e=>(Heap.get?_update_other _ _ (E8 hb)).trans ((Heap.get?_update_other _ _ (E8 hb)).trans e);generalize (h2.update S (F5 (·.push FK))).update S (F5 (·.pop))=h3 at*;have itI3:IsTupIter h3 I t 0:=by refine ad itI λo a b=>?_;clear itI;exact (af o (oth _ _ (E8 SI) a) b)
 have sq3:Sq h3 t items:=(cy o n (oth _ _ tS ho2) hd)
 refine E0 ⟨Gs F.plain_extend_loop _,?_⟩;refine j8 (n:=items.size) (λi s'=>∃h' c,s'={s with heap:=h',toks:=k}∧IsTupIter h' I t i∧Sq h' t items∧h'.get? S=EU {cls:= .type "list",dict:=none,data:= .seq (items.toList.take i).toArray c,slots:= #[]}∧∀b o,b≠S->b≠I->h3.get? b=EU o->h'.get? b=EU o) ?_ ?_ items.size 0 _ (by exact o89) (ij h3 _ rfl itI3 sq3 hS4 (λ_ _ _ _ e=>e))
 ·intro i s' hi zr1;refine am zr1 λh' c z1 z2=>?_;clear zr1;subst z1;obtain ⟨it',sq',S',old'⟩:=z2;have hx:items[i]?=EU items[i]:=by simp[hi]
  refine i0 it' sq' hx λh'' it'' sb=>?_;have S'':h''.get? S=_:=(sb.2 S SI).trans S';refine (jG _ _ _ rfl S'' ⟨by simp;exact EY (Nat.min_le_right _ _) (Fu hz),λh4 c4 S4 sb4=>⟨h4,c4,rfl,?_,?_,?_,λb o b1 b2 e=>?_⟩⟩)
  ·refine ad it'' λo' a b=>?_;clear it'';exact (af o' ((sb4.2 I (E8 SI)).trans a) b)
  ·refine am sq' λo' n' a b=>?_;clear sq';exact (cy o' n' ((sb4.2 t tS).trans ((sb.2 t tI).trans a)) b)
  ·have:(items.toList.take (i+1)).toArray=(items.toList.take i).toArray.push items[i]:=by
    rw[FU (by simpa using hi)];simp
   rw[this];exact S4
  ·exact (sb4.2 b b1).trans ((sb.2 b b2).trans (old' b o b1 b2 e))
 ·intro s' zr1;refine am zr1 λh' c z1 z2=>?_;clear zr1;subst z1;obtain ⟨it',sq',S',old'⟩:=z2;refine jW hh it' sq' s!"4" λh'' ex=>⟨rfl,?_⟩
  have S'':h''.get? S=_:=ex S _ SI S';show E4 _ A (load S>>=_) _ _ _;refine EX (GQ S'' ?_);show E4 _ A (pure _) _ _ _;refine E0 ?_
  have e:(items.toList.take items.size).toArray.toList=items.toList:=by
   rw[G6];exact List.take_of_length_le s!"4"
  show Q (items.toList.take items.size).toArray.toList _;rw[e];exact h h'' k λb o e=>ex b o (lt1 b o (old0 b o e)) (old' b o (nS b o e) (lt1 b o (old0 b o e)) (oth b o (nS b o e) (old1 b o (old0 b o e))))
end
end
section
section
variable {prog:Program} {w:FL} {A:Fb} {s:Shared} {dv:Addr->Value}
theorem kB{t:Addr}{o:Obj}{items:Array Value}{n:Nat}{Q:Value->Shared->Prop}(hh:A.handled=none)(X:(KD w.params dv).In s.heap)(ho:s.heap.get? t=EU o)(hi:imm o=true)(hc:o.cls= .ref 153)(hd:o.data= .seq items n)(hz:items.size<1000)(h0:items.size≠0)
 (h:∀(h':Heap) (k:Nat),(∀b o,s.heap.get? b=EU o->h'.get? b=EU o)->Q (.ref h'.objs.size) {s with heap:=h'.push {cls:= .type "tuple",data:= .seq items},toks:=k}):E4 (Fa prog w) A (call (.type "tuple") [.ref t]) Q NoE s:=by
 have ty:Fv (Fa prog w) s.heap (GY (.ref t)) (.ref 153):=by rw[←hc];exact (Fv.ld ho).andThen .now
 refine callType_codes (Q₁:=λobj s₁=>∃(h':Heap) (k:Nat),(∀b o,s.heap.get? b=EU o->h'.get? b=EU o)∧obj= .ref h'.objs.size∧s₁={s with heap:=h'.push {cls:= .type "tuple",data:= .seq items},toks:=k}) F.called_tuple (F.typeCall_tuple_1 _) F.entry_object_init ?_ λobj s₁ h₁=>?_
 ·refine F2 F.called_tuple.plain F.entry_tuple_new (FO (F.newCall_tuple_1 _) ?_);have hsub:=sub_tuple_self;have hinit:=init_tuple_lookup;have hmh:=madeHere_tuple;have hT:∀(A:Fb) (Q:Value->Shared->Prop) (E:Value->Shared->Prop),Q (.ref 153) s->E4 (Fa prog w) A (GY (.ref t)) Q E s:=λA Q E q=>ty.here q;have hC:∀(Q:List Value->Shared->Prop) (E:Value->Shared->Prop),(∀(h':Heap) (k:Nat),(∀b o,s.heap.get? b=EU o->h'.get? b=EU o)->Q items.toList {s with heap:=h',toks:=k})->E4 (Fa prog w) A.in1.in1 (collect (.ref t)) Q E s:=λQ E q=>FE (nM (A:=A.in1.in1) hh X ho hi hc hd hz h0 q) (λ_ _ x=>x) λ_ _ x=>x.elim;clear ty X ho;clear h;obtain ⟨hp,g,d,tk,os⟩:=s
  wp_walk using hT _,hC _ _
  intro h' k hk;show E4 _ _ (Builtin.Tuple.tupleExact items.toList.toArray>>=λv=>ret v) _ _ _;unfold Builtin.Tuple.tupleExact;have e:items.toList.toArray=items:=s!"4"
  rw[e];refine EX (GG ?_ (by show items.size≤sizeLine;rw[sizeLine_eq];exact pC hz));exact E0 (cZ h' k hk rfl rfl)
 ·refine bL h₁ λh' k old z1 z2=>?_;clear h₁;subst z1;subst z2;have tyT:({s with heap:=h'.push {cls:= .type "tuple",data:= .seq items},toks:=k}:Shared).TypeIs (.ref h'.objs.size) "tuple" :=(af _ (Heap.get?_push_size _ rfl) rfl)
  exact (ia2 tyT (F.args_object_init_2 _ _) (object_init_meets F.called_tuple.init.lookup F.called_tuple.made s!"d" prog w A.in1 _ _ ⟨tyT,rfl,h h' k old⟩))
end
theorem VRs.of_get{h:Heap}:∀{ms:List MV} {xs:List Value},ms.length=xs.length->(∀(i:Nat) m x,ms[i]?=EU m->xs[i]?=EU x->VR h m x)->VRs h ms xs
 | [],[],_,_=> .nil _
 | [],_::_,e,_=>by simp at e
 |_::_,[],e,_=>by simp at e
 |m::ms,x::xs,e,k=> .cons (k 0 m x rfl rfl) (VRs.of_get (by simpa using e) λi m' x' a b=>k (i+1) m' x' (by simpa using a) (by simpa using b))
section
variable {X:Xc} {st:St} {Q:MV->St->Prop}
theorem IF.pushed{φ:Sg}{s:Shared}(I:IF X φ st s){h':Heap}(k:∀b o,s.heap.get? b=EU o->h'.get? b=EU o)(o:Obj)(t:Nat):IF X φ st {s with heap:=h'.push o,toks:=t}:=
 I.grow (λb o' e=>Heap.get?_push_of_some o (k b o' e)) t
theorem wU(hh:X.A.handled=none)(N:Kn X){ms:List MV}(hz:ms.length<1000)(h0:ms.length≠0)(hq:Q (.t (.type "tuple") ms) st):WC X (.type "tuple") [.t (.ref 153) ms] st Q:=λφ s us I r=>by
 unfold VRs at r;refine am r λy ys z1 z2=>?_;clear r;subst z1;refine xa1 z2 λz3 r=>?_;clear z2;obtain ⟨a,o,items,n,e1,e2,e3,e4,e5,e6⟩:=z3;unfold VRs at r;subst r e1;have z:=e6.size;refine kB hh (I.kin N) e2 e3 e4 e5 (by exact E3 (E6 z) hz) (by exact z▸h0) λh' k old=>?_;have k2:∀b o',s.heap.get? b=EU o'->(h'.push {cls:= .type "tuple",data:= .seq items}).get? b=EU o':=λb o' e=>Heap.get?_push_of_some _ (old b o' e);refine Post.mk (m:= .t (.type "tuple") ms) (fb _ _ items 0 rfl (Heap.get?_push_size _ rfl) rfl rfl rfl (e6.keep (aB k2))) (I.pushed old _ k) (aB k2) hq
theorem rh(hh:X.A.handled=none){r:Addr}{n:Nat}(hn:n≤1000)(e:st.σ r=EU (rgO 0 (n:Int)))(hq:∀a,st.σ a=none->Q (.r a) ⟨st.σ.put a (.lst ((F8 n).map λk:Nat=> .i (k:Int))),st.ρ⟩):WC X (.type "list") [.r r] st Q:=λφ s us I rr=>by
 refine fS rr ?_;refine aV (I.own e) λo ho _ z1=>?_;refine xe2 z1 λt u z3=>?_;clear z1;obtain ⟨v,rfl⟩:=z3;refine call_list_range hh (r:=r) (a:=0) (b:=n) (c:=1) (t:=t) (u:=u) (v:=v) (n:=n) ho (small_one s!"d" s!"d" (by exact zJ) (by exact jLT hn s!"d")) (by rw[rangeSize_one];exact rg0 n) (by exact nLL hn rfl) λh' tk acc c' old hS items=>?_;refine xa2 (bB I.inv.fresh) λn1 n2 n3=>?_;have I1:=I.grow old tk
 have x:OR h' s.heap.objs.size (.lst ((F8 n).map λk:Nat=> .i (k:Int))):=by
  refine (af acc ⟨c',hS⟩ (VRs.of_get (by rw[EZ,List.length_range,Array.length_toList,items.1]) λi m x hm hx=>?_));rw[FA] at hm;refine ad (Ge.mp hm) λk hk z1=>?_;subst z1;have hl:=(E5.mp hk).1;have hv:=(E5.mp hk).2;rw[List.getElem_range] at hv;clear hk hm;subst hv;obtain ⟨t',e'⟩:=items.2 i x (by simpa using hx);rw[e',Int.zero_add,Int.mul_one];exact cH ..
 have I2:=(I1.hide n2 n1 I.inv.sz x).show_ n2 n1 n3;exact .mk (bO ..) I2 (aB old) (hq _ n2)
end
end
section
noncomputable abbrev nI(k:Nat):MV:= .i (k:Int)
section
variable {X:Xc} {st:St} {Q:MV->St->Prop}
theorem sy{h:Heap}:∀{ns:List Nat} {vs:List Value},VRs h (ns.map nI) vs->∀y∈vs,∃(n:Nat) (t:Tok),y= .int (n:Int) t
 | [],vs,r,y,hy=>by
  have r:VRs h [] vs:=r;unfold VRs at r;subst r;cases hy
 |n::ns,vs,r,y,hy=>by
  have r:VRs h (nI n::ns.map nI) vs:=r;unfold VRs at r;refine am r λz zs z1 z2=>?_;clear r;subst z1;refine xa1 z2 λz3 r2=>?_;clear z2;obtain ⟨t,e⟩:=z3;rcases FI.mp hy with rfl|hy
  ·exact (ie2 n t e)
  ·exact sy r2 y hy
noncomputable def isI(k:Int):Value->Bool
 | .int a _=>a==k
 |_=>false
theorem qc{l:Addr}{ns:List Nat}{k:Nat}(e:st.σ l=EU (.lst (ns.map nI)))(hz:ns.length≤1000)(hk:k∈ns)(hq:Q (nI (ns.idxOf k)) st):WC X (.builtin "list.index") [.r l,nI k] st Q:=λφ s us I r=>by
 unfold VRs at r;refine am r λy ys z1 z2=>?_;clear r;subst z1;refine xa1 z2 λe1 r=>?_;clear z2;unfold VRs at r;refine am r λz zs z1 z2=>?_;clear r;subst z1;refine xa1 z2 λz3 r=>?_;clear z2;obtain ⟨t,e2⟩:=z3;unfold VRs at r;subst r e2;cases (show y= .ref l from e1);refine ad (I.own e) λitems z1 rr=>?_;refine xe1 z1 λn pl=>?_;clear z1;have hlen:items.size=ns.length:=by have:=rr.size;rwa [EZ] at this
 have hi:=Gk hk;have T:s.TypeIs (.ref l) "list" :=(af _ pl rfl)
 have at_:∀(i:Nat) (hi:i<items.size),∃t,items[i]= .int ((ns[i]'(by exact iN hlen hi):Nat):Int) t:=λi hi=>by
  have e2:(ns.map nI)[i]?=EU (nI (ns[i]'(by exact iN hlen hi))):=by simp[show i<ns.length by exact iN hlen hi]
  refine ad (rr.arr e2) λx hx z1=>?_;refine xe1 z1 λt rx=>?_;clear z1;rw[Array.getElem?_eq_getElem hi] at hx;cases hx;exact ⟨t,rx⟩
 refine call_meets PySem.F.slot_list_index T PySem.F.entry_list_index (PySem.F.args_list_index_2 _ _)
  (MeetsSeq.list_index l items n (.int (k:Int) t) (isI k) (λy hy=>?_) (ns.idxOf k) (by exact o39 hlen hi) (by exact Gn (GN.mpr (EY (Fu hi) hz)) s!"d") ?_ λm hm hlt=>?_) ⟨pl,.mk (cH ..) (I.toks _) (.refl _) hq⟩
 ·refine xe2 (sy rr y (by simpa using hy)) λa u z1=>?_;clear hy;subst z1;exact MeetsSeq.EqGives.int _ _ _ _
 ·refine xe1 (at_ (ns.idxOf k) (by exact o39 hlen hi)) λt e3=>?_;rw[e3];show ((ns[ns.idxOf k]:Nat):Int)==(k:Int);simp
 ·refine xe1 (at_ m hm) λt e3=>?_;rw[e3];show (((ns[m]'(by exact iN hlen hm):Nat):Int)==(k:Int))=false;have:=List.not_of_lt_findIdx (p:=(·==k)) hlt;rw[beq_eq_false_iff_ne];intro h;exact absurd (show (ns[m]'(by exact iN hlen hm))=k by exact o1 h) (by simpa using this)
theorem vw{l:Addr}{x:Int}{n:Nat}(hx:x.toNat=n)(h0:0≤x)(hn:n≤1000)(e:st.σ l=EU (.lst [.k .none]))(hq:∀a,st.σ a=none->Q (.r a) ⟨st.σ.put a (.lst (F0 n (.k .none))),st.ρ⟩):W2 X (Ha .Mult) (.r l) (.i x) st Q:=λφ s v w I e1 ⟨u,e2⟩=>by
 cases ((show v= .ref l from e1));subst e2;refine ad (I.own e) λitems z1 rr=>?_;refine xe1 z1 λc pl=>?_;clear z1
 have hit:items= #[.none]:=by
  unfold VRs at rr;refine bL rr λy ys e3 r1 rr=>?_;unfold VRs at rr;subst rr;cases ((show y= .none from r1));rw[←Hg (xs:=items),e3]
 clear rr;subst hit;have em:(#[FK]:Array Value).isEmpty=false:=rfl
 have fl:∀(m:Nat) (a:Array Value),List.foldl (λx1 x2=>x1++x2) a (F0 m #[FK])=a++(F0 m FK).toArray:=by
  intro m
  induction m with
  |zero=>intro a;simp
  |succ m ih=>
   intro a;rw[List.replicate_succ,List.foldl_cons,ih,List.replicate_succ];apply Array.toList_inj.mp;simp
 have eq:(List.foldl (λx1 x2=>x1++x2) #[] (F0 (if (#[FK]:Array Value).isEmpty=true then 0 else x.toNat) #[FK]))=(F0 n FK).toArray:=by
  rw[em,if_neg s!"d",hx,fl];simp
 have vr:∀(h:Heap) m,VRs h (F0 m (.k .none)) (F0 m FK):=by
  intro h m
  induction m with
  |zero=>exact .nil _
  |succ m ih=>exact .cons (aZ ..) ih
 obtain ⟨n1,I'⟩:=I.new (o:={cls:= .type "list",data:= .seq (F0 n FK).toArray}) (m:= .lst (F0 n (.k .none))) (af _ ⟨0,Heap.get?_push_size _ rfl⟩ (vr _ _))
 have fin:Post X φ s Q (.ref s.heap.objs.size) {s with heap:=s.heap.push {cls:= .type "list",data:= .seq (List.foldl (λx1 x2=>x1++x2) #[] (F0 (if (#[FK]:Array Value).isEmpty=true then 0 else x.toNat) #[FK]))}}:=by
  rw[eq];exact .mk (bO ..) I' (Internal.keep_push _ _) (hq _ n1)
 have T:s.TypeIs (.ref l) "list" :=(af _ pl rfl)
 refine wpAny_binaryOp_repeat_ref (T:="list") (U:="int") s!"d" T (λs'=>typeIs_int s' _ u) noFill_list_mul PySem.F.fills_int_mul PySem.F.slot_int_rmul repeat_list PySem.F.slot_int_index.lookup ?_;refine call_meets PySem.F.slot_int_rmul (typeIs_int s _ u) PySem.F.entry_int_rmul (PySem.F.args_int_rmul_2 _ _) (int___rmul___int_list _ u l _ c) ⟨pl,?_⟩;refine (ia2 rfl T ?_);exact call_meets PySem.F.slot_list_mul T PySem.F.entry_list_mul (PySem.F.args_list_mul_2 _ _) (AutoListH.list___mul___list_int_3 l #[FK] c x u (by simp[Builtin.List.listFitsIndex];exact ⟨Int.le_trans s!"d" h0,Gn (Int.toNat_le.mp (hx▸hn)) s!"d"⟩) (by show¬(1*x.toNat>_);exact Ga.mpr (by rw[Nat.one_mul,hx];exact EY hn s!"d")) (by show¬Builtin.List.listTooLong (1*x.toNat)=true;simp[Builtin.List.listTooLong,sizeLine];exact Int.le_trans (Int.toNat_le.mp (hx▸hn)) s!"d")) ⟨pl,fin⟩
end
end
section
noncomputable def Sep(σ:Sg)(l:List (Addr×MO)):Prop:=(∀p∈l,σ p.1=EU p.2)∧l.Pairwise λp q=>p.1≠q.1
theorem Sep.g{σ:Sg}{l:List (Addr×MO)}(h:Sep σ l)(i:Nat){a:Addr}{m:MO}(e:l[i]?=EU (a,m)):σ a=EU m:=h.1 (a,m) (G0 e)
theorem Sep.new{σ:Sg}{l:List (Addr×MO)}(h:Sep σ l){b:Addr}(hb:σ b=none)(m:MO):Sep (σ.put b m) ((b,m)::l):=by
 have hn:∀p∈l,p.1≠b:=λp hp e=>by have:=h.1 p hp;rw[e,hb] at this;cases this
 refine ⟨λp hp=>?_,List.pairwise_cons.mpr ⟨λp hp=>E8 (hn p hp),h.2⟩⟩;rcases FI.mp hp with rfl|hp
 ·exact Sg.put_same ..
 ·exact (Sg.put_ne _ _ (hn p hp)).trans (h.1 p hp)
theorem Sep.keep{σ σ':Sg}{l:List (Addr×MO)}(h:Sep σ l)(k:∀b m,σ b=EU m->σ' b=EU m):Sep σ' l:=⟨λp hp=>k _ _ (h.1 p hp),h.2⟩
theorem Sep.same{σ:Sg}{l:List (Addr×MO)}(h:Sep σ l){b:Addr}(hb:σ b=none)(m:MO):Sep (σ.put b m) l:=h.keep λc m' hc=>by
 rw[Sg.put_ne _ _ (λe=>by subst e;rw[hb] at hc;cases hc)];exact hc
theorem Sep.p{σ:Sg}{l:List (Addr×MO)}(h:Sep σ l)(i:Nat){a:Addr}{m:MO}(e:l[i]?=EU (a,m))(m':MO):Sep (σ.put a m') (l.set i (a,m')):=by
 obtain ⟨hi,e'⟩:=E5.mp e;have pw:=FY.mp h.2;refine ⟨λp hp=>?_,FY.mpr λj k hj hk hjk=>?_⟩
 ·refine xe1 (Gi hp) λj z1=>?_;clear hp;obtain ⟨hj,rfl⟩:=z1;rw[FD] at hj;rw[List.getElem_set];split
  ·exact Sg.put_same ..
  ·rename_i hij
   have ne:l[j].1≠a:=λe2=>by
    rcases Nat.lt_trichotomy i j with h1|h1|h1
    ·exact pw i j hi hj h1 (by rw[e',e2])
    ·exact hij h1
    ·exact pw j i hj hi h1 (by rw[e',e2])
   exact (Sg.put_ne _ _ ne).trans (h.1 _ (FB _))
 ·rw[FD] at hj hk
  have e1:∀j (hj:j<l.length),((l.set i (a,m'))[j]'(by rw[FD];exact hj)).1=l[j].1:=λj hj=>by
   rw[List.getElem_set];split
   ·rename_i e2;subst e2;rw[e']
   ·rfl
  rw[e1 j hj,e1 k hk];exact pw j k hj hk hjk
theorem Sep.drop1{σ:Sg}{p:Addr×MO}{l:List (Addr×MO)}(h:Sep σ (p::l)):Sep σ l:=⟨λq hq=>h.1 q (Fk _ hq),h.2.of_cons⟩
section
variable {X:Xc} {st:St} {Q:MV->St->Prop}
theorem zh{e1 e2:Fw}{pos}(h:WE X e1 st λm st₁=>WT X m st₁ λb st₂=>if b=true then WE X e2 st₂ Q else Q m st₂):WE X (.BoolOp .And [e1,e2] pos) st Q:=λφ s I=>by
 rw[arm_eval_BoolOp];show E4 X.M X.A (boolOp pos .And [eval e1 X.env,eval e2 X.env]) _ _ s
 show E4 X.M X.A (eval e1 X.env>>=λv=>standAt pos>>=λ_=>holding [v] (truthy v)>>=λt=>match BoolOp.And,t with
  | .And,false| .Or,true=>pure v
  |_,_=>boolOp pos .And [eval e2 X.env]) _ _ s
 refine EX (ab (h φ s I) λv s₁ pp=>?_);obtain ⟨m,st₁,r₁,I₁,k₁,h₁⟩:=pp;refine EX (GJ ?_);refine EX (wpAny_holding (ab (h₁ φ s₁ v I₁ r₁) λb s₂ pp=>?_));obtain ⟨st₂,I₂,k₂,h₂⟩:=pp
 cases b with
 |true=>
  rw[if_pos rfl] at h₂;show E4 X.M X.A (eval e2 X.env) _ _ _;exact ab (h₂ φ s₂ I₂) λw s₃ p=>p.trans (k₁.trans k₂)
 |false=>
  rw[if_neg s!"d"] at h₂;exact E0 ⟨m,st₂,r₁.keep k₂,I₂,k₁.trans k₂,h₂⟩
theorem sK{value:Fw}{lower upper:Option Fw}{p pos:Pos}(ht:∀o r,letTemporaryGo value o r=pure ())
 (h:WE X value st λa st₁=>∃l vs items,a= .r l∧WP X lower st₁ λlo st₂=>WP X upper st₂ λhi st₃=>X.C.h0.IsList l items∧VRs X.C.h0 vs items.toList∧vs.length≤sizeLine∧∀b,st₃.σ b=none->Q (.r b) ⟨st₃.σ.put b (.lst (eD vs lo hi)),st₃.ρ⟩):
 WE X (.Subscript value (.Slice lower upper none p) pos) st Q:=λφ s I=>by
 refine wpAny_Subscript_list_slice (ab (h φ s I) λv s₁ y1=>?_) ht;obtain ⟨a,st₁,r,I₁,k₁,l,vs,items,e0,h₁⟩:=y1;refine ab (jt h₁ I₁) λvl s₂ y2=>?_;obtain ⟨lo,st₂,e₂,I₂,k₂,h₂⟩:=y2;refine ab (jt h₂ I₂) λvu s₃ pp=>?_;refine ik pp λhi st₃ e₃ I₃ k₃ pl0 rr0 z1=>?_;clear pp;refine xa1 z1 λhl q=>?_;clear z1;subst e0;cases (show v= .ref l from r);have pl:s₃.heap.IsList l items:=by refine ad pl0 λo e r=>?_;clear pl0;exact (af o (I₃.inv.old _ _ e) r)
 have rr:VRs s₃.heap vs items.toList:=rr0.keep (aB I₃.inv.old);refine (fb l items (lo.map (·.1)) (hi.map (·.1)) rfl pl (by rw[rr.size];exact hl) (e₂▸jC lo) (e₃▸jC hi) ?_);have I₄:=I₃.push {cls:= .type "slice",data:= .fields #[vl,vu,.none]}
 have nr:VRs (s₃.heap.push {cls:= .type "slice",data:= .fields #[vl,vu,.none]}) (eD vs (lo.map (·.1)) (hi.map (·.1))) (slicePick items (lo.map (·.1)) (hi.map (·.1)) none).toList:=by
  rw[slicePick_plain];have sz:=rr.size;rw[G6];unfold eD;rw[←sz];exact ((rr.keep (Internal.keep_push _ _)).drop _).take _
 obtain ⟨n,I₅⟩:=I₄.new (m:= .lst (eD vs (lo.map (·.1)) (hi.map (·.1)))) (o:={cls:= .type "list",data:= .seq (slicePick items (lo.map (·.1)) (hi.map (·.1)) none)}) (af _ ⟨0,Heap.get?_push_size _ rfl⟩ (nr.keep (Internal.keep_push _ _)));rw[Heap.size_push] at n I₅;exact .mk (bO ..) I₅ (k₁.trans (k₂.trans (k₃.trans ((Internal.keep_push _ _).trans (Internal.keep_push _ _))))) (q _ n)
theorem sJ{α:Type}(xs:List α)(g f:α->MV)(p:α->Bool)(ns:List Str)(Bd:α->Lo->Prop){l:Addr}{elt iter target:Fw}{ifs:List Fw}{scope:Scope}{pos:Pos}(cl:List (Str×Addr))(gs:List (Str×Value))
 (Oi:∀C,XOk (Xi X scope cl C gs)) (ht:∀C,eV (Xi X scope cl C gs) target λi=> .itl l i)
 (hclos:closureFor scope X.env=pure cl) (hsc:c9 scope=true) (hs:∀x,F6 iter X.env x=pure x) (h0:Nm (loC scope) ns) (sz:xs.length≤1000)
 (hl:st.σ l=EU (.lst (xs.map g)))
 (hit:∀Q':MV->St->Prop,Q' (.r l) st->WE X iter st Q')
 (hasg:∀C a (st':St),a∈xs->st'.σ=st.σ->Nm st'.ρ ns->∀QU:St->Prop,(∀ρ',Nm ρ' ns->Bd a ρ'->QU ⟨st.σ,ρ'⟩)->WA (Xi X scope cl C gs) target (g a) st' QU)
 (htest:∀C a ρ',a∈xs->Bd a ρ'->∀QB:Bool->St->Prop,QB (p a) ⟨st.σ,ρ'⟩->bP (Xi X scope cl C gs) ifs ⟨st.σ,ρ'⟩ QB)
 (helt:∀C a ρ',a∈xs->p a=true->Bd a ρ'->∀Q':MV->St->Prop,Q' (f a) ⟨st.σ,ρ'⟩->WE (Xi X scope cl C gs) elt ⟨st.σ,ρ'⟩ Q')
 (hq:∀D,st.σ D=none->Q (.r D) ⟨st.σ.put D (.lst ((xs.filter p).map f)),st.ρ⟩):
 WE X (.ListComp elt [⟨target,iter,ifs,0⟩] scope pos) st Q:=by
 refine jD cl gs (mo:=λi=> .itl l i) (vs:=xs.map g) (Cond:=λst=>st.σ l=EU (.lst (xs.map g))) (λi acc st'=>st'.σ=st.σ∧Nm st'.ρ ns∧acc=(((xs.take i).filter p).map f))
  (λC=>ci (Oi C) l _) (λC=>fh (Oi C) l) hs ht hclos hsc (by rw[EZ,sizeLine_eq];exact o51 sz) ?_ ?_ ?_ ?_
 ·refine hit _ (ia3 rfl (cB hl) ⟨rfl,h0,s!"4"⟩ ?_);intro acc st' zr1 D hD;refine xa2 zr1 λe1 _ e3=>?_;clear zr1;rw[EZ,Gp] at e3;rw[e1] at hD;rw[e1,e3];exact hq D hD
 ·intro i acc st' zr1;refine p0 zr1 λ_ _=>?_;clear zr1;rw[EZ];exact EY (GS _ _) (List.length_take_le _ _)
 ·intro i acc st' zr1;refine xa2 zr1 λe1 _ _=>?_;clear zr1;rw[e1];exact hl
 ·intro C i hi acc st' zr1;refine p0 zr1 λe1 e2=>?_;clear zr1;have hi':i<xs.length:=by simpa using hi
  have htk:xs.take (i+1)=xs.take i++[xs[i]]:=FU hi';rw[F9];refine hasg C xs[i] st' (FB _) e1 e2 _ λρ' n1 b1=>?_;refine htest C xs[i] ρ' (FB _) b1 _ ?_
  cases hp:p xs[i] with
  |true=>
   rw[if_pos rfl];refine helt C xs[i] ρ' (FB _) hp b1 _ (ia2 rfl n1 ?_);rw[htk,List.filter_append,Ff,GM hp];rfl
  |false=>
   rw[if_neg s!"d"];refine (ia2 rfl n1 ?_);rw[htk,List.filter_append,Hr (by rw[hp];decide)];simp
end
end
section
noncomputable abbrev fdL(v:Value):FuncData:=dD (top 35) "law" "law" .none v (.str (EW "law_il0198_01") 1575) none (.ref 1009)
noncomputable abbrev gsL:List (Str×Value):=[("len",.builtin "len"),("chr",.builtin "chr"),("max",.builtin "max"),("min",.builtin "min"),("range",.type "range"),("list",.type "list"),("heappush",.ref 271),("heappop",.ref 278),("_law_read",.ref 998),("_law_line",.ref 991),("_law_parted",.ref 1005),("SequenceMatcher",.ref 260),("shlex",.ref 975)]
noncomputable abbrev XL(C:Cx)(A:Fb)(v:Value)(L:Addr):Xc:=⟨C,A,callEnvC (fdL v) L 1010,gsL⟩
theorem Cu(P:F1):g9 (b9 (top 35)) P gsL=true:=s!"k"
theorem ER{C:Cx}(G:Gd C){A:Fb}(hh:A.handled=none)(v:Value)(L:Addr):XOk (XL C A v L):=by
 refine ⟨rfl,hh,λx u e=>?_⟩;have z:=Fn.mp (Cu C.w.params) (x,u) (gz e);simp only[Fd,Bool.or_eq_true,Gb,beq_iff_eq,Option.isNone_iff_eq_none] at z;refine xa1 z λz5 z3=>?_;clear z;refine xa1 z5 λz1 z2=>?_;clear z5;refine (ia2 z1 (by simpa using z2) (λs old E Q q=>?_));have n3:s.heap.Ns (callEnvC (fdL v) L 1010).globals (du (l3 C.w.params)):=(g7 G.says rfl (s3 _)).keeps old;rcases z3 with z3|⟨z3,z4⟩
 ·exact loadGlobal_global n3 z3 q
 ·have n0:s.heap.Ns (callEnvC (fdL v) L 1010).builtins (du (l0 C.w.params)):=(g7 G.says rfl (s0 _)).keeps old;exact loadGlobal_builtin n3 z3 n0 z4 q
section
variable {C:Cx} {A:Fb} {v:Value} {L:Addr}
theorem g_len:gsL.lookup (EW "len")=EU (.builtin "len"):=s!"k"
theorem g_chr:gsL.lookup (EW "chr")=EU (.builtin "chr"):=s!"k"
theorem g_max:gsL.lookup (EW "max")=EU (.builtin "max"):=s!"k"
theorem g_min:gsL.lookup (EW "min")=EU (.builtin "min"):=s!"k"
theorem g_range:gsL.lookup (EW "range")=EU (.type "range"):=s!"k"
theorem g_list:gsL.lookup (EW "list")=EU (.type "list"):=s!"k"
theorem g_push:gsL.lookup (EW "heappush")=EU (.ref 271):=s!"k"
theorem g_pop:gsL.lookup (EW "heappop")=EU (.ref 278):=s!"k"
theorem g_read:gsL.lookup (EW "_law_read")=EU (.ref 998):=s!"k"
theorem g_line:gsL.lookup (EW "_law_line")=EU (.ref 991):=s!"k"
theorem g_parted:gsL.lookup (EW "_law_parted")=EU (.ref 1005):=s!"k"
theorem g_SM:gsL.lookup (EW "SequenceMatcher")=EU (.ref 260):=s!"k"
theorem g_sh:gsL.lookup (EW "shlex")=EU (.ref 975):=s!"k"
noncomputable def IsC(X:Xc)(x:Str)(c:Addr):Prop:=X.env.kindOf x=EU .cell∧X.env.cells.lookup x=EU c∧(x==("__debug__" :Str))=false
theorem uY:IsC (XL C A v L) "things" (L+1):=(ia2 s!"k" s!"k" s!"1")
theorem x4:IsC (XL C A v L) "told" (L+2):=(ia2 s!"k" s!"k" s!"1")
theorem DE:IsC (XL C A v L) "y" (L+3):=(ia2 s!"k" s!"k" s!"1")
theorem yd:IsC (XL C A v L) "turn" (L+4):=(ia2 s!"k" s!"k" s!"1")
theorem wu:IsC (XL C A v L) "words" (L+5):=(ia2 s!"k" s!"k" s!"1")
theorem zr:IsC (XL C A v L) "came" (L+6):=(ia2 s!"k" s!"k" s!"1")
theorem yE:IsC (XL C A v L) "left" (L+7):=(ia2 s!"k" s!"k" s!"1")
theorem t9:IsC (XL C A v L) "lexers" (L+8):=(ia2 s!"k" s!"k" s!"1")
theorem aL{X:Xc}(O:XOk X){x:Str}{c:Addr}(h:IsC X x c){σ:Sg}{ρ:Lo}{pos m}{Q:MV->St->Prop}(e:σ c=EU (.cel (EU m)))(hq:Q m ⟨σ,ρ⟩):WE X (.Name x pos) ⟨σ,ρ⟩ Q:=y4 O h.1 h.2.1 h.2.2 e hq
theorem dF{X:Xc}(O:XOk X){x:Str}{c:Addr}(h:IsC X x c){σ:Sg}{ρ:Lo}{pos m u}{QU:St->Prop}(e:σ c=EU (.cel u))(hq:QU ⟨σ.put c (.cel (EU m)),ρ⟩):WA X (.Name x pos) m ⟨σ,ρ⟩ QU:=yp O h.1 h.2.1 e hq
end
structure LawC (X:Xc) (L:Addr) (k:Nat):Prop where
 G:Gd X.C
 R:Rm (k+10) X.A
 O:XOk X
 hin:GF X.env=false
 eq:∃v,X.env=callEnvC (fdL v) L 1010
 gs:X.gs=gsL
 c_things:IsC X "things" (L+1)
 c_told:IsC X "told" (L+2)
 c_y:IsC X "y" (L+3)
 c_turn:IsC X "turn" (L+4)
 c_words:IsC X "words" (L+5)
 c_came:IsC X "came" (L+6)
 c_left:IsC X "left" (L+7)
 c_lexers:IsC X "lexers" (L+8)
theorem yc{C:Cx}{A:Fb}{v:Value}{L:Addr}{k:Nat}(G:Gd C)(R:Rm (k+10) A):LawC (XL C A v L) L k:=
 ⟨G,R,ER G R.hh v L,s!"k",⟨v,rfl⟩,rfl,uY,x4,DE,yd,wu,zr,yE,t9⟩
section
variable {X:Xc} {L:Addr} {k:Nat}
theorem LawC.g_len(W:LawC X L k):X.gs.lookup (EW "len")=EU (.builtin "len" :Value):=by rw[W.gs];exact Internal.g_len
theorem LawC.g_chr(W:LawC X L k):X.gs.lookup (EW "chr")=EU (.builtin "chr" :Value):=by rw[W.gs];exact Internal.g_chr
theorem LawC.g_max(W:LawC X L k):X.gs.lookup (EW "max")=EU (.builtin "max" :Value):=by rw[W.gs];exact Internal.g_max
theorem LawC.g_min(W:LawC X L k):X.gs.lookup (EW "min")=EU (.builtin "min" :Value):=by rw[W.gs];exact Internal.g_min
theorem LawC.g_range(W:LawC X L k):X.gs.lookup (EW "range")=EU (.type "range" :Value):=by rw[W.gs];exact Internal.g_range
theorem LawC.g_list(W:LawC X L k):X.gs.lookup (EW "list")=EU (.type "list" :Value):=by rw[W.gs];exact Internal.g_list
theorem LawC.g_push(W:LawC X L k):X.gs.lookup (EW "heappush")=EU (.ref 271:Value):=by rw[W.gs];exact Internal.g_push
theorem LawC.g_pop(W:LawC X L k):X.gs.lookup (EW "heappop")=EU (.ref 278:Value):=by rw[W.gs];exact Internal.g_pop
theorem LawC.g_read(W:LawC X L k):X.gs.lookup (EW "_law_read")=EU (.ref 998:Value):=by rw[W.gs];exact Internal.g_read
theorem LawC.g_line(W:LawC X L k):X.gs.lookup (EW "_law_line")=EU (.ref 991:Value):=by rw[W.gs];exact Internal.g_line
theorem LawC.g_parted(W:LawC X L k):X.gs.lookup (EW "_law_parted")=EU (.ref 1005:Value):=by rw[W.gs];exact Internal.g_parted
theorem LawC.g_SM(W:LawC X L k):X.gs.lookup (EW "SequenceMatcher")=EU (.ref 260:Value):=by rw[W.gs];exact Internal.g_SM
theorem LawC.g_sh(W:LawC X L k):X.gs.lookup (EW "shlex")=EU (.ref 975:Value):=by rw[W.gs];exact Internal.g_sh
theorem LawC.u1(W:LawC X L k):X.A.in1.units<cLine:=by have:=(Rm.in1 (n:=k+9) W.R).u;exact E3 (EY (Ft _ _) (Ft _ 16)) this
theorem LawC.u64(W:LawC X L k):X.A.units+64<cLine:=by have:=W.R.u;exact E3 (EY (Ft (_+64) (16*_)) (Ft _ 16)) (g16 (k:=64) this s!"d")
theorem LawC.hh(W:LawC X L k):X.A.handled=none:=W.R.hh
end
noncomputable def σL(L:Addr):Sg:=λb=>if L<b∧b≤L+8 then EU (.cel none) else none
theorem BO(L:Addr):Sep (σL L) [(L+1,.cel none),(L+2,.cel none),(L+3,.cel none),(L+4,.cel none),(L+5,.cel none),(L+6,.cel none),(L+7,.cel none),(L+8,.cel none)]:=by
 show Sep (σL L) ([1,2,3,4,5,6,7,8].map λi=>(L+i,MO.cel none));refine ⟨λp hp=>?_,List.pairwise_map.mpr (List.Pairwise.imp (λh e=>h (Nat.add_left_cancel e)) (show [1,2,3,4,5,6,7,8].Pairwise (·≠·) by decide))⟩;refine ad (Fq.mp hp) λi hi e=>?_;have h:=(show∀i∈[1,2,3,4,5,6,7,8],1≤i∧i≤8 by decide) i hi;rw[←e];exact if_pos ⟨Hs h.1,Fj h.2 L⟩
end
section
noncomputable def w6:Stmt->List Stmt
 | .For _ _ b _ _=>b
 |_=>[]
noncomputable def B1:List Stmt:=w6 ((cu (top 35)).getD 6 (.Pass ⟨0,0,0,0⟩))
noncomputable def B2:List Stmt:=w6 (B1.getD 9 (.Pass ⟨0,0,0,0⟩))
noncomputable def xR(L lth lto lh lin lgo lrow:Addr)(row:List Int)(ts:List T4)(S:S1)(my mu:Option MV):List (Addr×MO):=
 [(L+1,.cel (EU (.r lth))),(L+2,.cel (EU (.r lto))),(L+3,.cel my),(L+4,.cel mu),(L+5,.cel none),(L+6,.cel none),(L+7,.cel none),(L+8,.cel none),
  (lth,.lst (ts.map λt=>thM t.th)),(lto,.lst (S.told.map nI)),(lh,.lst (S.heap.map tp)),(lin,.lst ((S.ins.map ip).map tp)),(lgo,.lst (S.gone.map nI)),(lrow,.lst (row.map .i))]
structure P1 (L lth lto lh lin lgo lrow:Addr) (row:List Int) (ts:List T4) (S:S1) (my mu:Option MV) (σ:Sg) (ρ:Lo):Prop where
 sep:Sep σ (xR L lth lto lh lin lgo lrow row ts S my mu)
 heap:lk ρ "heap" =EU (EU (.r lh))
 inside:lk ρ "inside" =EU (EU (.r lin))
 gone:lk ρ "gone" =EU (EU (.r lgo))
 row:lk ρ "row" =EU (EU (.r lrow))
 nm:Nm ρ ["x","number","sign","takes","least","a","b","due"]
theorem J1.least{n:Nat}{S:S1}(J:J1 n S)(h:S.ins≠ []):∃p∈S.ins,∀b∈S.ins,¬lt2 (ip b) (ip p):=by
 obtain ⟨hp,pm,srt,so,sp,O⟩:=J
 cases srt with
 |nil=>exact absurd sp.symm.eq_nil h
 |cons p srt=>
  refine (af p (sp.mem_iff.mp (Fo ..)) (λb hb=>?_));rcases FI.mp (sp.mem_iff.mpr hb) with rfl|hb
  ·exact dJ _
  ·exact kR (Gf so hb)
theorem ph(l:List PN)(p:PN):(l.map ip).erase (ip p)=(l.erase p).map ip:=by
 induction l with
 |nil=>rfl
 |cons a l ih=>
  rw[FW,List.erase_cons,List.erase_cons];by_cases h:a=p
  ·clear ih;subst h;simp
  ·have h':ip a≠ip p:=λe=>h (uV e);rw[if_neg (by simpa using h'),if_neg (by simpa using h),FW,ih]
theorem sk{α:Type}:∀{l:List α},l≠ []->∃ys x,l=ys++[x]
 | [],h=>absurd rfl h
 | [a],_=>(ie2 ([]) a rfl)
 |a::b::l,_=>by
  refine xe2 (sk (l:=b::l) s!"4") λys x e=>?_;exact (ie2 (a::ys) x (by rw[e];rfl))
theorem J1.len{n:Nat}{S:S1}(J:J1 n S):S.heap.length=S.ins.length∧S.ins.length≤n∧S.gone.length≤n∧S.told.length=n:=by
 obtain ⟨hp,pm,srt,so,sp,O⟩:=J;have h1:=pm.length_eq;rw[EZ] at h1;have h2:=sp.length_eq
 have h3:(S.gone++srt.map (·.2)).length≤n:=by
  have:=List.Nodup.length_le_of_subset O.nd (l₂:=F8 n) λk hk=>by simpa using (O.mem k).mp hk
  simpa using this
 rw[E7,EZ] at h3;exact (ia3 h1 (by exact h2▸EY (Hi _ _) h3) (by exact EY (Ft _ _) h3) O.len)
section
variable {X:Xc} {kk:Nat} {L lth lto lh lin lgo lrow:Addr} {row:List Int} {ts:List T4} {S:S1} {my mu:Option MV} {σ:Sg} {ρ:Lo}
set_option maxHeartbeats 4000000 in
theorem zF(W:LawC X L kk){n:Nat}(P:P1 L lth lto lh lin lgo lrow row ts S my mu σ ρ)(J:J1 n S)(hn:n≤10)(h0:S.ins≠ []){Q:Fl->St->Prop}
 (hq:∀S' σ' ρ',P1 L lth lto lh lin lgo lrow row ts S' my mu σ' ρ'->J1 n S'->S'.ins.length+1=S.ins.length->S'.told=S.told->Q .next ⟨σ',ρ'⟩):WS X B2 ⟨σ,ρ⟩ Q:=by
 have O:=W.O;refine xa3 J.len λj1 j2 j3 j4=>?_;refine ad (J.least h0) λp hp hm=>?_;have hp':ip p∈S.ins.map ip:=Fq.mpr (af p hp rfl);refine xe2 (sk (l:=S.heap) (λe=>h0 (by rw[e] at j1;exact FT.mp j1.symm))) λys x eh=>?_;obtain ⟨pe,J'⟩:=J.pop hp hm eh;conv=>arg 2;whnf
 refine xe1 (P.nm "least" s!"1") λu_l x_least=>?_;have u1:=W.u1;refine aa (ah s!"r" s!"r" s!"t" (aT O W.g_min trivial (ac (ai O P.inside (ag (BX W.hh u1 (P.sep.g 11 rfl) hp' (λq hq=>?_) (aJ O x_least (ae ?_))))))))
 ·refine ad (Fq.mp hq) λq' hq' z1=>?_;clear hq;subst z1;exact hm q' hq'
 have y_least:lk (stL ρ "least" (tp (ip p))) "least" =EU (EU (tp (ip p))):=s!"lk"
 have y_inside:lk (stL ρ "least" (tp (ip p))) "inside" =EU (EU (.r lin)):=bn s!"ne" P.inside;have y_heap:lk (stL ρ "least" (tp (ip p))) "heap" =EU (EU (.r lh)):=bn s!"ne" P.heap;have y_gone:lk (stL ρ "least" (tp (ip p))) "gone" =EU (EU (.r lgo)):=bn s!"ne" P.gone;have y_row:lk (stL ρ "least" (tp (ip p))) "row" =EU (EU (.r lrow)):=bn s!"ne" P.row;have y_nm:=P.nm.st (x:="least") (m:=tp (ip p));generalize stL ρ "least" (tp (ip p))=ρ1 at y_least y_inside y_heap y_gone y_row y_nm⊢;refine aa (aA W.hin s!"r" (bp (T:="list") (id:="list.remove") trivial s!"r" s!"4" s!"r" Fz PySem.F.slot_list_remove PySem.F.type_list_remove
  (ai O y_inside ⟨bJ (P.sep.g 11 rfl),ac (ai O y_least (ag (un u1 (P.sep.g 11 rfl) (by rw[EZ];exact nLL (EY j2 hn) rfl) hp' ⟨trivial,ae ?_⟩)))⟩)))
 rw[ph];have S1:=P.sep.p 11 rfl (.lst (((S.ins.erase p).map ip).map tp))
 try dsimp only at S1⊢
 generalize σ.put lin (.lst (((S.ins.erase p).map ip).map tp))=σ1 at S1⊢;refine am (bu W.G (a:=278) s!"k") λob fd hi1 hi2=>?_;refine aa (bl (aC s!"r" (bA O W.g_pop hi1 hi2 trivial (ac (ai O y_heap (ag (bx (Ct.mono (tL (k:=kk+7) W.G W.R (ys:=ys) (x:=x) (by have:=congrArg List.length eh;rw[E7] at this;simp at this;exact E1 (EY (E6 (this.symm.trans j1)) (EY j2 hn):_<10) s!"d") (by rw[←eh];exact S1.g 10 rfl)) ?_))))))));intro m σ2 zr1;refine xa1 zr1 λz2 z3=>?_;clear zr1;subst z2;subst z3;have S2:=S1.p 10 rfl (.lst ((dz ys x).2.map tp))
 try dsimp only at S2⊢
 generalize σ1.put lh (.lst ((dz ys x).2.map tp))=σ2 at S2⊢;refine ai O y_least (wV W.u64 (ay ?_));rw[pe,decide_eq_true rfl];refine aD rfl (ak (ae ?_));refine aa (cz O W.hin y_gone (S2.g 12 rfl) s!"r" s!"r" s!"r" trivial (aP (ai O y_least (aq (xN (j:=1) (m:=nI p.2) (cq (λ_ _=>s!"r") (λ_ _=>s!"r")) s!"d" s!"d" s!"2" s!"2" (jb (S2.g 12 rfl) (by rw[EZ];exact wQ hn j3) (ae (ak ?_))))))));have S3:=S2.p 12 rfl (.lst (S.gone.map nI++[nI p.2]))
 try dsimp only at S3⊢
 have e:S.gone.map nI++[nI p.2]=(S.gone++[p.2]).map nI:=by rw[Ff];rfl
 rw[e] at S3⊢;refine hq ⟨S.told,(dz ys x).2,S.ins.erase p,S.gone++[p.2]⟩ _ _ ⟨S3,y_heap,y_inside,y_gone,y_row,y_nm⟩ J' ?_ rfl;show (S.ins.erase p).length+1=_;rw[List.length_erase_of_mem hp];have:=List.length_pos_of_mem hp;exact GX this
end
end
section
theorem xh(x:Int){b:Nat}(hb:0<b):∃Y:Nat,x.fmod (b:Int)=(Y:Int)∧Y<b:=by
 have e:x.fmod (b:Int)=x % (b:Int):=Int.fmod_eq_emod_of_nonneg x (by exact dX);have h1:=Int.emod_nonneg x (b:=(b:Int)) (by exact DG hb);have h2:=Int.emod_lt_of_pos x (b:=(b:Int)) (by exact FP.mpr hb);exact (af ((x % (b:Int)).toNat) (by rw[e];exact (Int.toNat_of_nonneg h1).symm) (by exact (Int.toNat_lt h1).mpr h2))
theorem sn(a b:Nat):Int.fdiv (a:Int) (b:Int)=((a/b:Nat):Int):=by
 rw[Int.fdiv_eq_ediv_of_nonneg _ (by exact dX)];simp
theorem rL(a b:Nat):Int.fmod (a:Int) (b:Int)=((a % b:Nat):Int):=by
 rw[Int.fmod_eq_emod_of_nonneg _ (by exact dX)];simp
theorem xJ{l:Addr}{m:MV}{vs vs':List MV}{σ:Sg}{ρ:Lo}{Q:Fl->St->Prop}(h:σ l=EU (.lst vs))(hz:vs.length≤1000)(e:vs++[m]=vs')(hq:Q .next ⟨σ.put l (.lst vs'),ρ⟩):tQ l m ⟨σ,ρ⟩ Q:=jb h hz (by rw[e];exact hq)
theorem i4{X:Xc}{σ:Sg}{ρ:Lo}{Q:MV->St->Prop}{l:Addr}{vs vs':List MV}{m:MV}(e:σ l=EU (.lst vs))(hsz:vs.length≤sizeLine)(e2:vs++[m]=vs')(hq:Q (.k .none) ⟨σ.put l (.lst vs'),ρ⟩):WC X (.builtin "list.append") [.r l,m] ⟨σ,ρ⟩ Q:=fN e hsz (by show Q _ ⟨σ.put l _,ρ⟩;rw[e2];exact hq)
theorem Sep.call{σ σ':Sg}{l:List (Addr×MO)}(h:Sep σ l)(k:∀b m,σ b=EU m->σ' b=EU m){b:Addr}(hb:σ b=none){m:MO}(e:σ' b=EU m):Sep σ' (l++[(b,m)]):=by
 refine ⟨λp hp=>?_,GL.mpr (ia2 h.2 (List.pairwise_singleton _ _) (λp hp q hq e2=>?_))⟩
 ·rcases F3.mp hp with hp|hp
  ·exact k _ _ (h.1 p hp)
  ·rw[FX.mp hp];exact e
 ·rw[FX.mp hq] at e2;have:=h.1 p hp;rw[e2,hb] at this;cases this
theorem Sep.perm{σ:Sg}{l l':List (Addr×MO)}(h:Sep σ l)(p:l.Perm l'):Sep σ l':=
 ⟨λq hq=>h.1 q (p.mem_iff.mpr hq),(p.pairwise_iff λ{_ _} x=>E8 x).mp h.2⟩
theorem Sep.callF{σ σ':Sg}{l:List (Addr×MO)}(h:Sep σ l)(k:∀b m,σ b=EU m->σ' b=EU m){b:Addr}(hb:σ b=none){m:MO}(e:σ' b=EU m):Sep σ' ((b,m)::l):=(h.call k hb e).perm (List.perm_append_singleton _ _)
theorem rT{X:Xc}{σ:Sg}{ρ:Lo}{Q:MV->St->Prop}{l b:Addr}{vs ws us:List MV}(e:σ l=EU (.lst vs))(e2:σ b=EU (.lst ws))(hz:vs.length+ws.length≤1000)(hu:vs++ws=us)(hq:∀a σ',σ a=none->(∀b m,σ b=EU m->σ' b=EU m)->σ' a=EU (.lst us)->Q (.r a) ⟨σ',ρ⟩):W2 X (Ha .Add) (.r l) (.r b) ⟨σ,ρ⟩ Q:=
 Ag e e2 hz λa ha=>hq a _ ha (λb m hb=>(Sg.put_ne _ _ (λe=>by rw[e,show σ a=none from ha] at hb;cases hb)).trans hb) (by rw[hu];exact Sg.put_same ..)
section
variable {X:Xc} {st:St} {Q:MV->St->Prop} {x y z:Int}
theorem gb(hb:y≠0)(e:x.fmod y=z)(h:Q (.i z) st):W2 X (Ha .Mod) (.i x) (.i y) st Q:=Dd hb (by rw[e];exact h)
theorem AN(hp:Builtin.divisionGoesByPylong x y=false)(hb:y≠0)(e:x.fdiv y=z)(h:Q (.i z) st):W2 X (Ha .FloorDiv) (.i x) (.i y) st Q:=oI hp hb (by rw[e];exact h)
theorem vh(e:x+y=z)(h:Q (.i z) st):W2 X (Ha .Add) (.i x) (.i y) st Q:=c0 (by rw[e];exact h)
theorem yW{a b c:Str}(hz:a.length+b.length≤sizeLine)(e:a++b=c)(h:Q (.s c) st):W2 X (Ha .Add) (.s a) (.s b) st Q:=cP hz (by rw[e];exact h)
theorem A3{l:Addr}{vs:List MV}{n:Nat}(e:st.σ l=EU (.lst vs))(hfit:(vs.length:Int)<2^63)(hn:vs.length=n)(hq:Q (nI n) st):WC X (.builtin "len") [.r l] st Q:=dy e hfit (by rw[hn];exact hq)
theorem x8(hh:X.A.handled=none)(e:(if y<x then y else x)=z)(hq:Q (.i z) st):WC X (.builtin "min") [.i x,.i y] st Q:=AG hh (by rw[e];exact hq)
end
theorem mG(Y a b:Nat):((Y:Int).fdiv (a:Int)).fmod (b:Int)=((Y/a % b:Nat):Int):=by rw[sn,rL]
noncomputable def sgL:List Str:=[EW "",EW " ",EW "'",EW "\"",EW "\\",EW "#",EW ";",EW "|",EW "\n"]
theorem Ba:((F8 9).all λj=>(sgL.getD j (EW "")).cps.toList==dp.getD j [])=true:=s!"1"
theorem BK(n:Nat){j:Nat}(hj:j<9):(⟨#[97+n]⟩:Str)++sgL.getD j (EW "")=wd n (dp.getD j []):=by
 have h:=Fn.mp Ba j (by simpa using hj);rw[beq_iff_eq] at h;show (⟨#[97+n]++(sgL.getD j (EW "")).cps⟩:Str)=⟨((97+n)::dp.getD j []).toArray⟩;rw[←h];congr 1;apply Array.toList_inj.mp;simp
theorem Bu{j:Nat}(hj:j<9):dp.getD j []∈dp:=by
 rw[FR,E2 (show j<dp.length from hj)];exact FB _
theorem xX{j n:Nat}(h:j<n):seqIndex? (j:Int) n=EU j:=by
 unfold seqIndex?;rw[if_neg (Int.not_lt.mpr (Fg j))];exact if_pos (by rw[decide_eq_true (Fg j),decide_eq_true (FP.mpr h)];rfl)
theorem J1.mem{n:Nat}{S:S1}(J:J1 n S){p:P2}(hp:p∈S.heap):∃q:PN,p=ip q∧q.2<n:=by
 obtain ⟨_,pm,srt,so,sp,O⟩:=J;refine ad (Fq.mp (pm.mem_iff.mp hp)) λq hq z1=>?_;clear hp;subst z1;exact (af q rfl ((O.mem q.2).mp (GA _ (Fq.mpr ⟨q,sp.mem_iff.mpr hq,rfl⟩))))
theorem eK{l:List Nat}{k:Nat}(h:k<l.length):(l.map nI)[k]?=EU (nI (l.getD k 0)):=by
 rw[FA,FR,E2 h];rfl
section
variable {X:Xc} {kk:Nat} {L lth lto lh lin lgo lrow:Addr} {row:List Int} {ts:List T4} {S:S1} {my mu:Option MV} {σ:Sg} {ρ:Lo}
set_option maxHeartbeats 4000000 in
theorem xm(W:LawC X L kk){n:Nat}{x:Int}(P:P1 L lth lto lh lin lgo lrow row ts S my mu σ ρ)(hx:lk ρ "x" =EU (EU (.i x)))(T:Ths ts)(hts:ts.length=n)(J:J1 n S)(hrow:row.length≤10)(hn:n<row.length){Q:Fl->St->Prop}
 (hq:∀ts' S' my' mu' σ' ρ',P1 L lth lto lh lin lgo lrow row ts' S' my' mu' σ' ρ'->Ths ts'->ts'.length=n+1->J1 (n+1) S'->(n+1=row.length->S'.ins=[])->Q .next ⟨σ',ρ'⟩):WS X B1 ⟨σ,ρ⟩ Q:=by
 have O:=W.O
 refine xa3 J.len λj1 j2 j3 j4=>?_
 have sz:=sizeLine_eq
 conv=>arg 2;whnf
 refine ad (xh x (b:=1620) s!"d") λY hY hYl=>?_
 refine aa (ah s!"r" s!"r" s!"t" (ar (ai O hx (aq (gb s!"d" (show x.fmod 1620=(Y:Int) from hY) (dF O W.c_y (P.sep.g 2 rfl) (ae ?_)))))))
 have S1:=P.sep.p 2 rfl (.cel (EU (.i (Y:Int))))
 generalize σ.put (L+3) (.cel (EU (.i (Y:Int))))=σ1 at S1⊢
 refine xe1 (P.nm "number" s!"1") λu_n x_number=>?_
 refine aa (ah s!"r" s!"r" s!"t" (aT O W.g_len trivial (ac (aL O W.c_things (S1.g 0 rfl) (ag (A3 (S1.g 8 rfl) (by rw[EZ];exact jTT (E1 (E3 (E6 hts) hn) hrow) s!"d") (by rw[EZ,hts]) (aJ O x_number (ae ?_))))))))
 obtain ⟨jj,hjj,hj⟩:∃jj,Y/20 % 9=jj∧jj<9:=⟨_,rfl,Nat.mod_lt _ s!"d"⟩
 with_reducible refine aa ?_
 with_reducible refine ah s!"r" s!"r" s!"t" ?_
 with_reducible refine aP ?_
 with_reducible refine cW s!"t" ?_
 iterate 9 with_reducible refine ac (aI ?_)
 with_reducible refine ag ?_
 refine ⟨by rw[sz];show 9≤_;decide,?_⟩
 refine ar (ar (aL O W.c_y (S1.g 2 rfl) (aq ?_)))
 refine oI s!"k" s!"d" (aq ?_)
 refine gb s!"d" (show ((Y:Int).fdiv 20).fmod 9=(jj:Int) from hjj▸mG Y 20 9) ?_
 refine oT (k:=(jj:Int)) (j:=jj) (m:= .s (sgL.getD jj (EW ""))) (λ_ _=>s!"r") (by clear hj;subst hjj;exact Fg _) (by clear hj;subst hjj;exact Int.lt_trans (FP.mpr (Nat.mod_lt _ s!"d")) s!"d") (xX hj) ?_ ?_
 ·show (sgL.map MV.s)[jj]?=_
  rw[FA,FR,E2 (show jj<sgL.length from hj)];rfl
 refine xe1 ((P.nm.st (x:="number") (m:=nI n)) "sign" s!"1") λu_s x_sign=>?_
 refine aJ O x_sign (ae ?_)
 have y_x:lk (stL (stL ρ "number" (nI n)) "sign" (.s (sgL.getD jj (EW "")))) "x" =EU (EU (.i x)):=s!"lk"
 have y_number:lk (stL (stL ρ "number" (nI n)) "sign" (.s (sgL.getD jj (EW "")))) "number" =EU (EU (nI n)):=s!"lk"
 have y_sign:lk (stL (stL ρ "number" (nI n)) "sign" (.s (sgL.getD jj (EW "")))) "sign" =EU (EU (.s (sgL.getD jj (EW "")))):=s!"lk"
 have y_heap:lk (stL (stL ρ "number" (nI n)) "sign" (.s (sgL.getD jj (EW "")))) "heap" =EU (EU (.r lh)):=bn s!"ne" (bn s!"ne" P.heap)
 have y_inside:lk (stL (stL ρ "number" (nI n)) "sign" (.s (sgL.getD jj (EW "")))) "inside" =EU (EU (.r lin)):=bn s!"ne" (bn s!"ne" P.inside)
 have y_gone:lk (stL (stL ρ "number" (nI n)) "sign" (.s (sgL.getD jj (EW "")))) "gone" =EU (EU (.r lgo)):=bn s!"ne" (bn s!"ne" P.gone)
 have y_row:lk (stL (stL ρ "number" (nI n)) "sign" (.s (sgL.getD jj (EW "")))) "row" =EU (EU (.r lrow)):=bn s!"ne" (bn s!"ne" P.row)
 have y_nm:=(P.nm.st (x:="number") (m:=nI n)).st (x:="sign") (m:= .s (sgL.getD jj (EW "")))
 generalize stL (stL ρ "number" (nI n)) "sign" (.s (sgL.getD jj (EW "")))=ρ1 at y_x y_number y_sign y_heap y_inside y_gone y_row y_nm⊢
 have hwd:(⟨#[97+n]⟩:Str)++sgL.getD jj (EW "")=wd n (dp.getD jj []):=BK n hj
 have hsl:(sgL.getD jj (EW "")).length≤10:=by
  have h:=Fn.mp (show ((F8 9).all λj=>decide ((sgL.getD j (EW "")).length≤10))=true by decide+kernel) jj (by simpa using hj)
  exact of_decide_eq_true h
 have hW:Y/180 % 3<3:=Nat.mod_lt _ s!"d"
 have hG:Y/540<3:=by exact Nat.div_lt_of_lt_mul (show _<540*3 from hYl)
 let tn:T4:=⟨n,dp.getD jj [],Y/180 % 3,Y/540⟩
 have hok:tn.Ok:=⟨by show n<10;exact xq hrow hn,Bu hj,hW,hG⟩
 with_reducible refine aa ?_
 refine aA W.hin s!"r" ?_
 refine bp (T:="list") (id:="list.append") s!"t" s!"r" s!"4" s!"r" Fz Gx Gy ?_
 refine aL O W.c_things (S1.g 0 rfl) ⟨bJ (S1.g 8 rfl),?_⟩
 with_reducible refine ac ?_
 with_reducible refine cW s!"t" ?_
 with_reducible refine ac ?_
 with_reducible refine ar ?_
 refine aT O W.g_chr s!"t" ?_
 with_reducible refine ac ?_
 refine ar (aq (ai O y_number (vh (show (97+(n:Int))=((97+n:Nat):Int) by exact rfl) ?_)))
 refine ag (De (by exact EY (Fj (EY (Fu hn) hrow) 97) s!"d") ?_)
 refine ai O y_sign (yW (by rw[sz];show 1+_≤_;exact EY (Fj hsl 1) s!"d") hwd ?_)
 with_reducible refine ac ?_
 refine ar (ar (aL O W.c_y (S1.g 2 rfl) (aq ?_)))
 refine oI s!"k" s!"d" (aq ?_)
 refine gb s!"d" (mG Y 180 3) ?_
 with_reducible refine ac ?_
 refine ar (aL O W.c_y (S1.g 2 rfl) (aq ?_))
 refine AN s!"k" s!"d" (sn Y 540) ?_
 refine ag ⟨by rw[sz];show 3≤_;decide,?_⟩
 refine ag (i4 (vs':=(ts++[tn]).map λt=>thM t.th) (S1.g 8 rfl) (by rw[EZ,sz];exact nTL (E1 (E3 (E6 hts) hn) hrow) rfl) (by rw[Ff];rfl) ⟨trivial,ae ?_⟩)
 have S2:=S1.p 8 rfl (.lst ((ts++[tn]).map λt=>thM t.th))
 generalize σ1.put lth (.lst ((ts++[tn]).map λt=>thM t.th))=σ2 at S2⊢
 refine xe1 W.eq λv hv=>?_
 have hr5:(Y:Int).fmod 5=((Y % 5:Nat):Int):=rL Y 5
 generalize hrr:((Y % 5:Nat):Int)=r at hr5
 with_reducible refine aa ?_
 refine aA W.hin s!"r" ?_
 refine bp (T:="list") (id:="list.append") s!"t" s!"r" s!"4" s!"r" Fz Gx Gy ?_
 refine aL O W.c_told (S2.g 1 rfl) ⟨bJ (S2.g 9 rfl),?_⟩
 with_reducible refine ac ?_
 refine ar (aq ?_)
 refine aT O W.g_max s!"t" ?_
 with_reducible refine ac ?_
 with_reducible refine ar ?_
 with_reducible refine ca s!"t" ?_
 refine ac (aq (ag ⟨by rw[sz];show 1≤_;decide,λl0 hl0=>?_⟩))
 have S3:=S2.new hl0 (.lst [.i 0])
 generalize σ2.put l0 (.lst [.i 0])=σ3 at S3⊢
 refine sJ S.heap tp (λp=>nI (S.told.getD p.2.toNat 0)) (λp=>decide (r<p.1)) ["rank","earlier"] (λp ρ=>lk ρ "rank" =EU (EU (.i p.1))∧lk ρ "earlier" =EU (EU (.i p.2)))
  [("y",L+3),("told",L+2)] [] (λC=>ao O s!"k" C) (λC=>iy) (by rw[hv];kernel_rfl) s!"k" (λ_=>s!"r") (.cons (u:=none) s!"k" (.cons (u:=none) s!"k" .nil)) (by exact nTL (E1 (E3 (EY (E6 j1) j2) hn) hrow) rfl) (S3.g 11 rfl)
  (λQ' q=>ai O y_heap q) ?_ ?_ ?_ ?_
 ·rintro C p ⟨σ',ρ'⟩ hp e nm QU hQ
  have e:σ'=σ3:=e
  clear S3;subst e
  refine xe1 (nm "rank" s!"1") λu1 z1=>?_
  refine xe1 (nm "earlier" s!"1") λu2 z2=>?_
  refine iI (ao O s!"k" C) s!"t" s!"r" (bY (aJ (ao O s!"k" C) z1 (bY (aJ (ao O s!"k" C) s!"lk" (fE ?_)))))
  exact hQ _ (.st (.st nm)) ⟨by walk_at "lk",s!"lk"⟩
 ·intro C p ρ' hp zr1 QB hQB;refine xa1 zr1 λz1 z2=>?_;clear zr1
  unfold bP
  dsimp only
  refine aC s!"r" (ai (ao O s!"k" C) z1 (ar (aL (ao O s!"k" C) (ia2 (by show (Gm _ _ _ X.env).kindOf _=_;rw[hv];kernel_rfl) s!"k" s!"1") (S3.g 3 rfl) (aq ?_))))
  exact gb s!"d" hr5 (hN (ay hQB))
 ·intro C p ρ' hp hpp zr1 Q' hQ';refine xa1 zr1 λz1 z2=>?_;clear zr1
  refine ad (J.mem hp) λq z3 hqn=>?_;clear hp hpp z1;subst z3
  refine aP (aL (ao O s!"k" C) (ia2 (by show (Gm _ _ _ X.env).kindOf _=_;rw[hv];kernel_rfl) s!"k" s!"1") (S3.g 2 rfl) ?_)
  refine ai (ao O s!"k" C) z2 (aY (cq (λ_ _=>s!"r") (λ_ _=>s!"r")) (S3.g 10 rfl) (by unfold ip;simp) (by unfold ip;simp;exact jTT (E1 (Fs hqn hn) hrow) s!"d") (eK (by unfold ip;simp;exact o39 j4 hqn)) hQ')
 intro D hD
 have S4:=S3.new hD (.lst ((S.heap.filter λp=>decide (r<p.1)).map λp=>nI (S.told.getD p.2.toNat 0)))
 have fl:(S.heap.filter λp=>decide (r<p.1)).length≤S.heap.length:=GS _ _
 obtain ⟨vals,hvals⟩:∃vals,((S.heap.filter λp=>decide (r<p.1)).map λp=>S.told.getD p.2.toNat 0)=vals:=⟨_,rfl⟩
 refine rT (us:=((0::vals).map λk:Nat=>(k:Int)).map .i) (S4.g 1 rfl) (S4.g 0 rfl) (by rw[EZ];show 1+_≤_;exact EY (Fj (EY fl (EY (E6 j1) (EY j2 (EY (Fu hn) hrow)))) 1) s!"d") (by rw[←hvals,FS,FW,FS];rfl) λl2 σ5 hl2 k5 e5=>?_
 have S5:=S4.callF k5 hl2 e5
 have em:newTold S r=1+mxL vals:=by unfold newTold;rw[hvals]
 refine ag (uW W.hh (S5.g 0 rfl) s!"4" (v:=((mxL vals:Nat):Int)) ?_ ?_ ?_)
 ·by_cases h:mxL vals=0
  ·rw[h];simp
  ·exact Fq.mpr (af (mxL vals) (Fk _ (gG h)) rfl)
 ·intro x hx
  refine ad (Fq.mp hx) λy hy z3=>?_;subst z3
  rcases FI.mp hy with rfl|hy
  ·exact Fg _
  ·have:=iZ hy;exact o71 this
 refine vh (show (1:Int)+((mxL vals:Nat):Int)=((newTold S r:Nat):Int) by rw[em];exact rfl) ?_
 refine ag (i4 (vs':=(S.told++[newTold S r]).map nI) (S5.g 12 rfl) (by rw[EZ,sz];exact nTL (E1 (E3 (E6 j4) hn) hrow) rfl) (by rw[Ff];rfl) ⟨trivial,ae ?_⟩)
 have S6:=((S5.p 12 rfl (.lst ((S.told++[newTold S r]).map nI))).drop1).drop1.drop1
 generalize σ5.put lto (.lst ((S.told++[newTold S r]).map nI))=σ6 at S6⊢
 clear S5 S4 S3 S2 S1 hl0 hD hl2 k5 e5
 refine am (bu W.G (a:=271) s!"k") λob fd hi1 hi2=>?_
 with_reducible refine aa ?_
 refine aA W.hin s!"r" ?_
 refine bA O W.g_push hi1 hi2 s!"t" ?_
 refine ac (ai O y_heap ?_)
 with_reducible refine ac ?_
 with_reducible refine cW s!"t" ?_
 with_reducible refine ac ?_
 refine ar (aL O W.c_y (S6.g 2 rfl) (aq ?_))
 refine gb s!"d" hr5 ?_
 refine ac (ai O y_number (ag ⟨by rw[sz];show 2≤_;decide,ag ?_⟩))
 refine bx (Ct.mono (qZ (k:=kk+8) W.G W.R (xs:=S.heap) (p:=(r,(n:Int))) (by exact nTT (E1 (E3 (EY (E6 j1) j2) hn) hrow) rfl) (S6.g 10 rfl)) ?_)
 intro m σ7 zr1;refine xa1 zr1 λz4 z5=>?_;clear zr1;subst z4;subst z5
 refine ⟨trivial,ae ?_⟩
 have S7:=S6.p 10 rfl (.lst ((sd (r,(n:Int)) S.heap.length S.heap.length (S.heap++[(r,(n:Int))])).map tp))
 generalize σ6.put lh (.lst ((sd (r,(n:Int)) S.heap.length S.heap.length (S.heap++[(r,(n:Int))])).map tp))=σ7 at S7⊢
 with_reducible refine aa ?_
 refine cz O W.hin y_inside (S7.g 11 rfl) s!"r" s!"r" s!"r" s!"t" ?_
 with_reducible refine cW s!"t" ?_
 with_reducible refine ac ?_
 refine ar (aL O W.c_y (S7.g 2 rfl) (aq ?_))
 refine gb s!"d" hr5 ?_
 refine ac (ai O y_number (ag ⟨by rw[sz];show 2≤_;decide,xJ (vs':=((S.ins++[(r,n)]).map ip).map tp) (S7.g 11 rfl) (by rw[EZ,EZ];exact nTL (E1 (E3 j2 hn) hrow) rfl) (by rw[Ff,Ff];rfl) (ae ?_)⟩))
 have S8:=S7.p 11 rfl (.lst (((S.ins++[(r,n)]).map ip).map tp))
 generalize σ7.put lin (.lst (((S.ins++[(r,n)]).map ip).map tp))=σ8 at S8⊢
 clear S7 S6
 have J8:=J.push r
 with_reducible refine aa ?_
 with_reducible refine ah s!"r" s!"r" s!"t" ?_
 refine aT O W.g_min s!"t" ?_
 with_reducible refine ac ?_
 refine aT O W.g_len s!"t" ?_
 refine ac (ai O y_inside (ag (dy (S8.g 11 rfl) ?_ ?_)))
 ·rw[EZ,EZ,E7];simp;exact show ((_+1:Nat):Int)<_ from Gn (GN.mpr (EY (FH j2) (EY hn hrow))) s!"d"
 with_reducible refine ac ?_
 with_reducible refine aP ?_
 with_reducible refine cW s!"t" ?_
 iterate 4 with_reducible refine ac (aq ?_)
 with_reducible refine ag ?_
 refine ⟨by rw[sz];show 4≤_;decide,?_⟩
 refine ar (ar (aL O W.c_y (S8.g 2 rfl) (aq ?_)))
 refine oI s!"k" s!"d" (aq ?_)
 obtain ⟨t4,e4,h4⟩:∃t4,Y/5 % 4=t4∧t4<4:=⟨_,rfl,Nat.mod_lt _ s!"d"⟩
 refine gb s!"d" (show ((Y:Int).fdiv 5).fmod 4=(t4:Int) from e4▸mG Y 5 4) ?_
 refine oT (k:=(t4:Int)) (j:=t4) (m:=nI ([0,0,1,2].getD t4 0)) (λ_ _=>s!"r") (by exact A1) (by exact jTT h4 s!"d") (xX h4) (eK (l:=[0,0,1,2]) h4) ?_
 generalize [0,0,1,2].getD t4 0=tk
 refine xe1 (y_nm "takes" s!"1") λu_t x_takes=>?_
 obtain ⟨t0,e0,l0⟩:∃t0:Nat,(if ((tk:Nat):Int)<((((S.ins++[(r,n)]).map ip).map tp).length:Int) then ((tk:Nat):Int) else ((((S.ins++[(r,n)]).map ip).map tp).length:Int))=(t0:Int)∧t0≤(S.ins++[(r,n)]).length:=by
  rw[EZ,EZ]
  split
  ·exact (af tk rfl (by exact Dx ‹_›))
  ·exact (af _ rfl (Fe _))
 refine ag (x8 W.hh e0 (aJ O x_takes (ae ?_)))
 have z_takes:lk (stL ρ1 "takes" (nI t0)) "takes" =EU (EU (nI t0)):=s!"lk"
 have z_heap:lk (stL ρ1 "takes" (nI t0)) "heap" =EU (EU (.r lh)):=s!"lk"
 have z_inside:lk (stL ρ1 "takes" (nI t0)) "inside" =EU (EU (.r lin)):=s!"lk"
 have z_gone:lk (stL ρ1 "takes" (nI t0)) "gone" =EU (EU (.r lgo)):=s!"lk"
 have z_row:lk (stL ρ1 "takes" (nI t0)) "row" =EU (EU (.r lrow)):=s!"lk"
 have z_nm:=y_nm.st (x:="takes") (m:=nI t0)
 show WS X _ ⟨σ8,stL ρ1 "takes" (nI t0)⟩ Q
 generalize stL ρ1 "takes" (nI t0)=ρ2 at z_takes z_heap z_inside z_gone z_row z_nm⊢
 have lT:((ts++[tn]).map λt=>thM t.th).length=n+1:=by rw[EZ,E7,hts];rfl
 have lI:(((S.ins++[(r,n)]).map ip).map tp).length=S.ins.length+1:=by rw[EZ,EZ,E7];rfl
 have lI':(S.ins++[(r,n)]).length=S.ins.length+1:=by rw[E7];rfl
 refine dG (Q1:=λfl st'=>fl= .next∧st'.σ=σ8∧∃t:Nat,lk st'.ρ "takes" =EU (EU (nI t))∧t≤S.ins.length+1∧(n+1=row.length->t=S.ins.length+1)∧lk st'.ρ "heap" =EU (EU (.r lh))∧lk st'.ρ "inside" =EU (EU (.r lin))∧lk st'.ρ "gone" =EU (EU (.r lgo))∧lk st'.ρ "row" =EU (EU (.r lrow))∧Nm st'.ρ ["x","number","sign","takes","least","a","b","due"]) ?_ ?_
 ·with_reducible refine bl ?_
  with_reducible refine aC s!"r" ?_
  refine aT O W.g_len s!"t" ?_
  refine ac (aL O W.c_things (S8.g 0 rfl) (ag (dy (S8.g 8 rfl) (by rw[lT];exact jLT (EY hn hrow) s!"d") ?_)))
  refine aT O W.g_len s!"t" ?_
  refine ac (ai O z_row (ag (dy (S8.g 13 rfl) (by rw[EZ];exact Be hrow) (jZ (ay ?_)))))
  rw[lT,EZ]
  by_cases h:n+1=row.length
  ·refine ift (by rw[beq_iff_eq];exact congrArg Nat.cast h) ?_
   with_reducible refine aa ?_
   with_reducible refine ah s!"r" s!"r" s!"t" ?_
   refine aT O W.g_len s!"t" ?_
   refine ac (ai O z_inside (ag (dy (S8.g 11 rfl) (by rw[lI];exact Gn (GN.mpr (EY (FH j2) (EY (E6 h) hrow))) s!"d") (aJ O z_takes (ae (ak ?_))))))
   rw[lI]
   exact (ia2 rfl rfl ⟨S.ins.length+1,s!"lk",Fe _,λ_=>rfl,s!"lk",s!"lk",s!"lk",s!"lk",.st z_nm⟩)
  ·refine aD (by rw[beq_eq_false_iff_ne];exact λz_e=>h (Int.ofNat_inj.mp z_e)) (ak (ia2 rfl rfl ⟨t0,z_takes,by exact EY l0 (E6 lI'),λe=>absurd e h,z_heap,z_inside,z_gone,z_row,z_nm⟩))
 intro fl zr1 zr2;obtain ⟨σ9,ρ3⟩:=zr1;refine xa1 zr2 λz4 z5=>?_;clear zr2;subst z4;obtain ⟨rfl,t,v_takes,ht,hlast,v_heap,v_inside,v_gone,v_row,v_nm⟩:=z5
 dsimp only at v_takes v_heap v_inside v_gone v_row v_nm
 refine ae ?_
 with_reducible refine aa ?_
 refine fD (mo:=λi=>rgI (0+(i:Int)) ((t:Int)-i)) (vs:=cX 0 t) (Cond:=λ_=>True) (λi st=>∃S' mu',P1 L lth lto lh lin lgo lrow row (ts++[tn]) S' (EU (.i (Y:Int))) mu' st.σ st.ρ∧J1 (n+1) S'∧S'.ins.length+i=S.ins.length+1)
  (gA O 0 t) (λ_=>s!"r") (λ_ _=>s!"r") ?_ (λ_ _ _=>trivial) ?_ ?_
 ·refine f7 O W.g_range s!"t" ?_
  refine ac (ai O v_takes (ag (pi λrg hrg=>⟨(cZ _ mu ⟨S8.same hrg _,v_heap,v_inside,v_gone,v_row,v_nm⟩ J8 ?_),?_⟩)))
  ·exact lI'
  ·exact hO (a:=0) s!"d" s!"d" (by exact zJ) (by exact Gn (GN.mpr (EY ht (EY (FH j2) (EY hn hrow)))) s!"d") t (rg0 t) (Sg.put_same ..)
 ·intro J0 hJ i hi zr1 zr2;obtain ⟨σ',ρ'⟩:=zr1;refine bL zr2 λS' mu' P' J' hl=>?_;clear zr2
  have hi':i<t:=by simpa[cX] using hi
  refine dF O W.c_turn (P'.sep.g 3 rfl) ?_
  refine zF W (mu:=EU ((cX 0 t)[i])) ⟨P'.sep.p 3 rfl _,P'.heap,P'.inside,P'.gone,P'.row,P'.nm⟩ J' (by exact EY hn hrow) (λe=>by rw[e] at hl;simp at hl;exact FC _ (E1 (E3 (E6 (Eq.symm hl)) hi') ht)) λS'' σ'' ρ'' P'' J'' h1 h2=>hJ _ _ (cZ S'' _ P'' J'' (by exact EG hl h1))
 ·intro zr1 zr2;obtain ⟨σ',ρ'⟩:=zr1;refine bL zr2 λS' mu' P' J' hl=>?_;clear zr2
  have hlen:(cX 0 t).length=t:=by simp[cX]
  rw[hlen] at hl
  refine ak (ae (ak (hq (ts++[tn]) S' _ mu' σ' ρ' P' ⟨?_,?_⟩ (by rw[E7,hts];rfl) J' λe=>?_)))
  ·intro z hz
   rcases F3.mp hz with hz|hz
   ·exact T.ok z hz
   ·rw[FX.mp hz];exact hok
  ·intro i z hz
   by_cases h:i<ts.length
   ·rw[Gu h] at hz;exact T.k i z hz
   ·rw[Hc (by exact o82 h)] at hz
    have h0:i-ts.length=0:=by
     cases h1:i-ts.length with
     |zero=>rfl
     |succ m=>rw[h1] at hz;simp at hz
    rw[h0] at hz
    simp at hz
    subst hz
    show n=i
    exact ((GH (Nat.le_of_sub_eq_zero h0) (Ga.mp h)).trans hts).symm
  ·have:=hlast e
   exact FT.mp (by exact Nat.add_right_cancel (hl.trans (this.symm.trans (Nat.zero_add _).symm)))
end
end
section
theorem Sep.newE{σ:Sg}{l:List (Addr×MO)}(h:Sep σ l){b:Addr}(hb:σ b=none)(m:MO):Sep (σ.put b m) (l++[(b,m)]):=
 (h.new hb m).perm (List.perm_append_singleton _ _).symm
theorem Sep.pick{σ:Sg}{l l':List (Addr×MO)}(h:Sep σ l)(is:List Nat)(nd:is.Nodup)(e:is.map (λi=>l[i]?)=l'.map EU):Sep σ l':=by
 have hlen:is.length=l'.length:=by have:=congrArg List.length e;rwa [EZ,EZ] at this
 have at_:∀(a:Nat) (ha:a<l'.length),l[is[a]'(by exact o39 hlen ha)]?=EU l'[a]:=λa ha=>by
  have h1:(is.map (λi=>l[i]?))[a]?=(l'.map EU)[a]?:=by rw[e]
  rw[FA,FA,E2 (show a<is.length by exact o39 hlen ha),E2 ha] at h1;simpa using h1
 have pw:=FY.mp h.2;refine ⟨λp hp=>?_,FY.mpr λa b ha hb hab=>?_⟩
 ·obtain ⟨a,ha,rfl⟩:=Gi hp;exact h.1 _ (G0 (at_ a ha))
 ·obtain ⟨h1,e1⟩:=E5.mp (at_ a ha);obtain ⟨h2,e2⟩:=E5.mp (at_ b hb);have ne:=(FY.mp nd) a b (by exact o39 hlen ha) (by exact o39 hlen hb) hab;rw[←e1,←e2];rcases Nat.lt_or_gt_of_ne ne with h3|h3
  ·exact pw _ _ h1 h2 h3
  ·exact E8 (pw _ _ h2 h1 h3)
theorem DO(l:List MV):eD l none (EU 6)=l.take 6:=by
 unfold eD;simp only[Option.elim,List.drop_zero];have:clipAt l.length 6=min 6 l.length:=by unfold clipAt;simp;exact El
 rw[this,Nat.sub_zero];rcases Nat.le_total 6 l.length with h|h
 ·rw[Nat.min_eq_left h]
 ·rw[Nat.min_eq_right h,List.take_of_length_le (Fe _),List.take_of_length_le h]
theorem Nm.sub{ρ:Lo}{ns ms:List Str}(h:Nm ρ ns)(hs:(ms.all λx=>ns.contains x)=true):Nm ρ ms:=λx hx=>h x (by
 have:=Fn.mp hs x hx;simpa using this)
noncomputable def BR:List Stmt:=(cu (top 35)).drop 7
section
variable {X:Xc} {kk:Nat} {L:Addr} {σ:Sg} {ρ:Lo}
set_option maxHeartbeats 4000000 in
theorem y6(W:LawC X L kk){lsc:Addr}{scr:List Int}{its:Array Value}(pl:X.C.h0.IsList lsc its)(rr:VRs X.C.h0 (scr.map .i) its.toList)(hz:scr.length≤63)
 (hs:lk ρ "script" =EU (EU (.r lsc))) (nm:Nm ρ ["row","heap","inside","gone","x","number","sign","takes","least","a","b","due"])
 (S0:Sep σ [(L+1,.cel none),(L+2,.cel none),(L+3,.cel none),(L+4,.cel none),(L+5,.cel none),(L+6,.cel none),(L+7,.cel none),(L+8,.cel none)]) {Q:Fl->St->Prop}
 (hq:∀lth lto lh lin lgo lrow row ts S my mu σ' ρ',P1 L lth lto lh lin lgo lrow row ts S my mu σ' ρ'->Ths ts->4≤ts.length->ts.length≤10->J1 ts.length S->S.ins=[]->Nm ρ' ["a","b","due"]->WS X BR ⟨σ',ρ'⟩ Q):
 WS X (cu (top 35)) ⟨σ,ρ⟩ Q:=by
 have O:=W.O
 have sz:=sizeLine_eq
 conv=>arg 2;whnf
 refine xe1 (nm "row" s!"1") λu_row x_row=>?_
 refine xe1 (nm "heap" s!"1") λu_heap x_heap=>?_
 refine xe1 (nm "inside" s!"1") λu_inside x_inside=>?_
 refine xe1 (nm "gone" s!"1") λu_gone x_gone=>?_
 with_reducible refine aa ?_
 with_reducible refine ah s!"r" s!"r" s!"t" ?_
 with_reducible refine ar ?_
 with_reducible refine ca s!"t" ?_
 iterate 4 with_reducible refine ac (aq ?_)
 with_reducible refine ag ?_
 refine ⟨by rw[sz];show 4≤_;decide,λl0 hl0=>?_⟩
 refine sK (λ_ _=>s!"r") ?_
 refine ai O hs (oP lsc (scr.map .i) its rfl ?_)
 refine fI (fF (aq (gv 6 rfl pl rr (by rw[EZ,sz];exact Es hz) (λl1 hl1=>?_))))
 have k1:(σ.put l0 (.lst [.i 223,.i 1021,.i 1172,.i 0])) l0=EU (.lst [.i 223,.i 1021,.i 1172,.i 0]):=Sg.put_same ..
 have ne01:l0≠l1:=λe=>by subst e;have:=k1.symm.trans hl1;cases this
 refine rT (us:=([223,1021,1172,0]++scr.take 6).map .i) ((Sg.put_ne _ _ ne01).trans k1) ((Sg.put_same ..).trans (by rw[DO,←List.map_take])) (by rw[EZ,List.length_take];show 4+_≤_;exact DJ) (by rw[Ff];rfl) λlrow σ1 hrow kr er=>?_
 have S1:=((S0.same hl0 (.lst [.i 223,.i 1021,.i 1172,.i 0])).same hl1 _).call kr hrow er
 refine aJ O x_row (ae ?_)
 clear k1 ne01 hl0 hl1 hrow S0 kr er
 with_reducible refine aa ?_
 refine ah s!"r" s!"r" s!"t" (ca s!"t" (ag ⟨FZ _,λlth hth=>?_⟩))
 have S2:=S1.newE hth (.lst [])
 refine dF O W.c_things (S2.g 0 rfl) (ae ?_)
 have S3:=S2.p 0 rfl (.cel (EU (.r lth)))
 with_reducible refine aa ?_
 refine ah s!"r" s!"r" s!"t" (ca s!"t" (ag ⟨FZ _,λlto hto=>?_⟩))
 have S4:=S3.newE hto (.lst [])
 refine dF O W.c_told (S4.g 1 rfl) (ae ?_)
 have S5:=S4.p 1 rfl (.cel (EU (.r lto)))
 with_reducible refine aa ?_
 refine ah s!"r" s!"r" s!"t" (ca s!"t" (ag ⟨FZ _,λlh hh=>?_⟩))
 have S6:=S5.newE hh (.lst [])
 refine aJ O (bn s!"ne" x_heap) (ae ?_)
 with_reducible refine aa ?_
 refine ah s!"r" s!"r" s!"t" (ca s!"t" (ag ⟨FZ _,λlin hin=>?_⟩))
 have S7:=S6.newE hin (.lst [])
 refine aJ O s!"lk" (ae ?_)
 with_reducible refine aa ?_
 refine ah s!"r" s!"r" s!"t" (ca s!"t" (ag ⟨FZ _,λlgo hgo=>?_⟩))
 have S8:=S7.newE hgo (.lst [])
 refine aJ O s!"lk" (ae ?_)
 have S9:=S8.pick (l':=[(L+1,.cel (EU (.r lth))),(L+2,.cel (EU (.r lto))),(L+3,.cel none),(L+4,.cel none),(L+5,.cel none),(L+6,.cel none),(L+7,.cel none),(L+8,.cel none),(lth,.lst []),(lto,.lst []),(lh,.lst []),(lin,.lst []),(lgo,.lst []),(lrow,.lst (([223,1021,1172,0]++scr.take 6).map .i))]) [0,1,2,3,4,5,6,7,9,10,11,12,13,8] s!"d" s!"k"
 have hrl:([223,1021,1172,0]++scr.take 6).length≤10:=by rw[E7,List.length_take];show 4+_≤_;exact Ef
 have hrl4:4≤([223,1021,1172,0]++scr.take 6).length:=by rw[E7];show 4≤4+_;exact EQ
 generalize [223,1021,1172,0]++scr.take 6=row at S9 hrl hrl4
 have y_row:lk (stL (stL (stL (stL ρ "row" (.r lrow)) "heap" (.r lh)) "inside" (.r lin)) "gone" (.r lgo)) "row" =EU (EU (.r lrow)):=s!"lk"
 have y_heap:lk (stL (stL (stL (stL ρ "row" (.r lrow)) "heap" (.r lh)) "inside" (.r lin)) "gone" (.r lgo)) "heap" =EU (EU (.r lh)):=s!"lk"
 have y_inside:lk (stL (stL (stL (stL ρ "row" (.r lrow)) "heap" (.r lh)) "inside" (.r lin)) "gone" (.r lgo)) "inside" =EU (EU (.r lin)):=s!"lk"
 have y_gone:lk (stL (stL (stL (stL ρ "row" (.r lrow)) "heap" (.r lh)) "inside" (.r lin)) "gone" (.r lgo)) "gone" =EU (EU (.r lgo)):=s!"lk"
 have y_nm:Nm (stL (stL (stL (stL ρ "row" (.r lrow)) "heap" (.r lh)) "inside" (.r lin)) "gone" (.r lgo)) ["x","number","sign","takes","least","a","b","due"]:=
  Nm.st (Nm.st (Nm.st (Nm.st (nm.sub s!"1"))))
 show WS X _ ⟨_,stL (stL (stL (stL ρ "row" (.r lrow)) "heap" (.r lh)) "inside" (.r lin)) "gone" (.r lgo)⟩ Q
 generalize stL (stL (stL (stL ρ "row" (.r lrow)) "heap" (.r lh)) "inside" (.r lin)) "gone" (.r lgo)=ρ1 at y_row y_heap y_inside y_gone y_nm⊢
 with_reducible refine aa ?_
 refine fD (mo:=λi=> .itl lrow i) (vs:=row.map .i) (Cond:=λst=>st.σ lrow=EU (.lst (row.map .i))) (λi st=>∃ts S my mu,P1 L lth lto lh lin lgo lrow row ts S my mu st.σ st.ρ∧Ths ts∧ts.length=i∧J1 i S∧(i=row.length->S.ins=[]))
  (ci O lrow _) (λ_=>s!"r") (λ_ _=>s!"r") ?_ ?_ ?_ ?_
 ·exact ai O y_row ⟨(jA ([]) ⟨[],[],[],[]⟩ none none ⟨S9,y_heap,y_inside,y_gone,y_row,y_nm⟩ ⟨(λt ht=>by cases ht),(λi t h=>by simp at h)⟩ ⟨rfl,J1.start,(λe=>by exact (DQ hrl4 e).elim)⟩),cB (S9.g 13 rfl)⟩
 ·intro i st zr1;refine bz zr1 λts S my mu P _=>?_;clear zr1
  exact P.sep.g 13 rfl
 ·intro J0 hJ i hi zr1 zr2;obtain ⟨σ',ρ'⟩:=zr1;refine bz zr2 λts S my mu P z1=>?_;clear zr2;obtain ⟨T,hl,J,_⟩:=z1
  have hi':i<row.length:=by simpa using hi
  rw[F9]
  refine xe1 (P.nm "x" s!"1") λu hu=>?_
  refine aJ O hu ?_
  refine xm W (x:=row[i]) (P:=⟨P.sep,bn s!"ne" P.heap,bn s!"ne" P.inside,bn s!"ne" P.gone,bn s!"ne" P.row,P.nm.st⟩) (cD hu) T hl J hrl hi' λts' S' my' mu' σ'' ρ'' P' T' hl' J' he=>hJ _ _ (jA ts' S' my' mu' P' T' ⟨hl',J',he⟩)
 ·intro zr1 zr2;obtain ⟨σ',ρ'⟩:=zr1;refine bz zr2 λts S my mu P z1=>?_;clear zr2;obtain ⟨T,hl,J,he⟩:=z1
  rw[EZ] at hl J he
  refine ak (ae ?_)
  exact hq lth lto lh lin lgo lrow row ts S my mu σ' ρ' P T (by exact Dn hrl4 hl) (by exact Dg hrl hl) (by rw[hl];exact J) (he rfl) (P.nm.sub s!"1")
end
end
section
noncomputable def t40:T4:=⟨0,[],0,0⟩
noncomputable def tAt(ts:List T4)(k:Nat):T4:=(ts[k]?).getD t40
theorem jx{ts:List T4}{k:Nat}(h:k<ts.length):ts[k]?=EU (tAt ts k):=by unfold tAt;rw[E2 h];rfl
theorem qN{ts:List T4}(T:Ths ts){k:Nat}(h:k<ts.length):(tAt ts k).Ok:=T.ok _ (G0 (jx h))
theorem eE{ts:List T4}{k:Nat}(h:k<ts.length):aS ts k=(tAt ts k).w:=nG (jx h)
theorem yH:∀s∈dp,∀k,k<10->Hv (wd k s)=true:=s!"1"
theorem wOk{k:Nat}(hk:k<10){s:List Nat}(hs:s∈dp):Hv (wd k s)=true:=yH s hs k hk
theorem wq{t:T4}(h:t.Ok):Hv t.w=true:=wOk h.k h.s
theorem ir{ws:List Str}{m:Str}(hm:Hv m=true)(hw:∀w∈ws,Hv w=true):∀a∈bb ws m,Gz 8 (Fy.str a)=true:=by
 intro a ha;obtain ⟨i,hi,rfl⟩:=Gi ha;show Hv _=true;rcases cA (E2 hi) with ⟨j,_,h⟩|⟨j,_,h,_⟩
 ·exact hw _ (G0 h)
 ·rw[h];exact hm
theorem kG(a b:Str)(h:Fy.str a=Fy.str b):a=b:=by injection h
theorem zm(l:List MV):eD l none none=l:=by unfold eD;simp
theorem d9{α:Type}(l:List α):l.filter (λ_=>true)=l:=List.filter_eq_self.mpr λ_ _=>rfl
theorem Br{X:Xc}{st:St}{Q:MV->St->Prop}{α:Type}(xs:List α)(g f:α->MV)(p:α->Bool){x:Str}{l:Addr}{elt iter:Fw}{ifs:List Fw}{scope:Scope}{pt pos:Pos}(cl:List (Str×Addr))
 (O:XOk X) (hclos:closureFor scope X.env=pure cl) (hsc:c9 scope=true) (hs:∀x,F6 iter X.env x=pure x) (h0:lk (loC scope) x=EU none) (sz:xs.length≤1000)
 (hl:st.σ l=EU (.lst (xs.map g)))
 (hit:∀Q':MV->St->Prop,Q' (.r l) st->WE X iter st Q')
 (htest:∀C a ρ',a∈xs->lk ρ' x=EU (EU (g a))->∀QB:Bool->St->Prop,QB (p a) ⟨st.σ,ρ'⟩->bP (Xi X scope cl C []) ifs ⟨st.σ,ρ'⟩ QB)
 (helt:∀C a ρ',a∈xs->p a=true->lk ρ' x=EU (EU (g a))->∀Q':MV->St->Prop,Q' (f a) ⟨st.σ,ρ'⟩->WE (Xi X scope cl C []) elt ⟨st.σ,ρ'⟩ Q')
 (hq:∀D,st.σ D=none->Q (.r D) ⟨st.σ.put D (.lst ((xs.filter p).map f)),st.ρ⟩):
 WE X (.ListComp elt [⟨.Name x pt,iter,ifs,0⟩] scope pos) st Q:=
 sJ xs g f p [x] (λa ρ=>lk ρ x=EU (EU (g a))) cl [] (λC=>ao O hsc C) (λC=>dB λ_ _=>rfl) hclos hsc hs (.cons h0 .nil) sz hl hit
  (λC a st' ha e nm QU hQ=>by
   obtain ⟨σ',ρ'⟩:=st';have e:σ'=st.σ:=e;subst e;refine xe1 (nm x s!"4") λu z=>?_;exact aJ (ao O hsc C) z (hQ _ (.st nm) (cD z))) htest helt hq
theorem ee{X:Xc}{σ:Sg}{ρ:Lo}{Q:MV->St->Prop}{α:Type}(xs:List α)(g f:α->MV)(p:α->Bool){vs:List MV}(hvs:(xs.filter p).map f=vs){x:Str}{l:Addr}{elt iter:Fw}{ifs:List Fw}{scope:Scope}{pt pos:Pos}(cl:List (Str×Addr))
 (O:XOk X) (hclos:closureFor scope X.env=pure cl) (hsc:c9 scope=true) (hs:∀x,F6 iter X.env x=pure x) (h0:lk (loC scope) x=EU none) (sz:xs.length≤1000)
 (hl:σ l=EU (.lst (xs.map g)))
 (hit:∀Q':MV->St->Prop,Q' (.r l) ⟨σ,ρ⟩->WE X iter ⟨σ,ρ⟩ Q')
 (htest:∀C a ρ',a∈xs->lk ρ' x=EU (EU (g a))->∀QB:Bool->St->Prop,QB (p a) ⟨σ,ρ'⟩->bP (Xi X scope cl C []) ifs ⟨σ,ρ'⟩ QB)
 (helt:∀C a ρ',a∈xs->p a=true->lk ρ' x=EU (EU (g a))->∀Q':MV->St->Prop,Q' (f a) ⟨σ,ρ'⟩->WE (Xi X scope cl C []) elt ⟨σ,ρ'⟩ Q')
 (hq:∀D σ',σ D=none->(∀b m,σ b=EU m->σ' b=EU m)->σ' D=EU (.lst vs)->Q (.r D) ⟨σ',ρ⟩):
 WE X (.ListComp elt [⟨.Name x pt,iter,ifs,0⟩] scope pos) ⟨σ,ρ⟩ Q:=
 Br xs g f p cl O hclos hsc hs h0 sz hl hit htest helt λD hD=>hq D _ hD (λb m hb=>(Sg.put_ne _ _ (λe=>by rw[e,show σ D=none from hD] at hb;cases hb)).trans hb) (by rw[hvs];exact Sg.put_same ..)
theorem zO(a b:Nat):((a:Int)==(b:Int))=decide (a=b):=by rw[Bool.eq_iff_iff,beq_iff_eq,decide_eq_true_eq];exact Int.ofNat_inj
theorem AW(a b:Nat):((a:Int) !=(b:Int))=decide (a≠b):=by rw[Bool.eq_iff_iff,bne_iff_ne,decide_eq_true_eq];exact not_congr Int.ofNat_inj
theorem xP{X:Xc}{st:St}{QB:Bool->St->Prop}{a b:Nat}(h:QB (decide (a=b)) st):WT X (.k (.bool ((a:Int)==(b:Int)))) st QB:=ay (by rw[zO];exact h)
theorem xM{X:Xc}{st:St}{QB:Bool->St->Prop}{a b:Nat}(h:QB (decide (a≠b)) st):WT X (.k (.bool ((a:Int) !=(b:Int)))) st QB:=ay (by rw[AW];exact h)
theorem vm{ts:List T4}{k:Nat}(h:k<ts.length):(ts.map λt=>thM t.th)[((k:Nat):Int).toNat]?=EU (thM (tAt ts k).th):=by
 rw[FV,FA,jx h];rfl
theorem kM{ts:List T4}{k:Nat}(h:k<ts.length):((ts.map T4.w).map MV.s)[((k:Nat):Int).toNat]?=EU (.s (tAt ts k).w):=by
 rw[FV,FA,FA,jx h];rfl
noncomputable def BR2:List Stmt:=BR.drop 6
noncomputable def Base(L lth lto lh lgo lw lcm llf llx:Addr)(mu:Option MV)(ts:List T4)(told gone cm lf:List Nat)(lxs:List MV):List (Addr×MO):=
 [(L+1,.cel (EU (.r lth))),(L+2,.cel (EU (.r lto))),(L+4,.cel mu),(L+5,.cel (EU (.r lw))),(L+6,.cel (EU (.r lcm))),(L+7,.cel (EU (.r llf))),(L+8,.cel (EU (.r llx))),
  (lth,.lst (ts.map λt=>thM t.th)),(lto,.lst (told.map nI)),(lh,.lst []),(lgo,.lst (gone.map nI)),(lw,.lst ((ts.map T4.w).map .s)),(lcm,.lst (cm.map nI)),(llf,.lst (lf.map nI)),(llx,.lst lxs)]
structure Pb (L lth lto lh lgo lw lcm llf llx:Addr) (mu:Option MV) (ts:List T4) (told gone cm lf:List Nat) (lxs:List MV) (σ:Sg) (ρ:Lo):Prop where
 sep:Sep σ (Base L lth lto lh lgo lw lcm llf llx mu ts told gone cm lf lxs)
 heap:lk ρ "heap" =EU (EU (.r lh))
 gone:lk ρ "gone" =EU (EU (.r lgo))
 nm:Nm ρ ["a","b","due"]
section
variable {X:Xc} {kk:Nat} {L lth lto lh lin lgo lrow:Addr} {row:List Int} {ts:List T4} {S:S1} {my mu:Option MV} {σ:Sg} {ρ:Lo}
set_option maxHeartbeats 4000000 in
theorem xZ(W:LawC X L kk)(P:P1 L lth lto lh lin lgo lrow row ts S my mu σ ρ)(T:Ths ts)(h4:4≤ts.length)(h10:ts.length≤10)(J:J1 ts.length S)(he:S.ins=[]){Q:Fl->St->Prop}
 (hq:∀lw lcm llf llx σ' ρ',Pb L lth lto lh lgo lw lcm llf llx mu ts S.told S.gone (F8 ts.length) S.gone [] σ' ρ'->WS X BR2 ⟨σ',ρ'⟩ Q):
 WS X BR ⟨σ,ρ⟩ Q:=by
 have O:=W.O
 have sz:=sizeLine_eq
 obtain ⟨v,hv⟩:=W.eq
 obtain ⟨OK,hh0⟩:=J.done he
 refine xa3 J.len λj1 j2 j3 j4=>?_
 have Pn:=P.nm.sub (ms:=["a","b","due"]) s!"1"
 have Pg:=P.gone
 have Ph:=P.heap
 have S0:=P.sep
 clear P J
 conv=>arg 2;whnf
 with_reducible refine aa ?_
 with_reducible refine ah (by rw[hv];kernel_rfl) s!"r" s!"t" ?_
 refine sJ ts (λt=>thM t.th) (λt=> .s t.w) (λ_=>true) ["word","way","gap"] (λt ρ=>lk ρ "word" =EU (EU (.s t.w)))
  [] [] (λC=>ao O s!"k" C) (λC=>iy) s!"r" s!"k" (λ_=>s!"r") (.cons (u:=none) s!"k" (.cons (u:=none) s!"k" (.cons (u:=none) s!"k" .nil))) (by exact fu h10) (S0.g 8 rfl)
  (λQ' q=>aL O W.c_things (S0.g 0 rfl) q) ?_ ?_ ?_ ?_
 ·rintro C t ⟨σ',ρ'⟩ ht e nm QU hQ
  have e:σ'=σ:=e
  clear S0;subst e
  refine xe1 (nm "word" s!"1") λu1 z1=>?_
  refine xe1 (nm "way" s!"1") λu2 z2=>?_
  refine xe1 (nm "gap" s!"1") λu3 z3=>?_
  refine iI (ao O s!"k" C) s!"t" s!"r" (bY (aJ (ao O s!"k" C) z1 (bY (aJ (ao O s!"k" C) s!"lk" (bY (aJ (ao O s!"k" C) s!"lk" (fE ?_)))))))
  exact hQ _ (.st (.st (.st nm))) (bn s!"ne" (bn s!"ne" (cD z1)))
 ·rintro C t ρ' ht z1 QB hQB
  exact hQB
 ·rintro C t ρ' ht _ z1 Q' hQ'
  exact ai (ao O s!"k" C) z1 hQ'
 intro lw hlw
 have S1:=S0.newE hlw (.lst ((ts.filter λ_=>true).map λt=> .s t.w))
 refine dF O W.c_words (S1.g 4 rfl) (ae ?_)
 have S2:=S1.p 4 rfl (.cel (EU (.r lw)))
 rw[d9] at S2⊢
 rw[show (ts.map λt=>MV.s t.w)=(ts.map T4.w).map .s by rw[FS];rfl] at S2⊢
 dsimp only at S2⊢
 generalize (σ.put lw (.lst ((ts.map T4.w).map .s))).put (L+5) (.cel (EU (.r lw)))=σ2 at S2⊢
 clear S1 S0 hlw
 obtain ⟨t0,ts',ets⟩:∃t0 ts',ts=t0::ts':=by
  cases ts with
  |nil=>simp at h4
  |cons a l=>exact (ie2 a l rfl)
 refine am (bu W.G (a:=998) s!"k") λob1 fd1 hr1 hr2=>?_
 refine am (bu W.G (a:=991) s!"k") λob2 fd2 hl1 hl2=>?_
 refine am (bu W.G (a:=1005) s!"k") λob3 fd3 hp1 hp2=>?_
 with_reducible refine aa ?_
 with_reducible refine bl ?_
 with_reducible refine aC s!"r" ?_
 refine bA O W.g_read hr1 hr2 s!"t" ?_
 with_reducible refine ac ?_
 refine bA O W.g_line hl1 hl2 s!"t" ?_
 refine ac (aL O W.c_things (S2.g 0 rfl) (ac (aI (ag ?_))))
 refine bx (Ct.mono (CtA.ct (fM (k:=kk+8) W.G W.R kK T.ok (by exact wX h10) (S2.g 8 rfl))) ?_)
 intro m σ3 zr1;refine xa1 zr1 λz5 fr3=>?_;clear zr1;subst z5
 have S3:=S2.keep fr3
 have lineL:=gW 59 (ts:=ts) T.ok
 refine ag ?_
 rw[kK]
 refine bx (Ct.mono (CtA.ct (iX (k:=kk+4) W.G W.R (toks:=bb (ts.map T4.w) ⟨#[59]⟩) (by exact xi h10 lineL) (by rw[eC,EZ];exact Ao h10) (by rw[ets];exact lJ (.inl rfl) (by rw[←ets];exact T.ok)))) ?_)
 intro m σ4 zr1;refine ad zr1 λla z5 z6=>?_;clear zr1;subst z5;obtain ⟨hla,ela,fr4⟩:=z6
 have S4:=S3.keep fr4
 refine bA O W.g_parted hp1 hp2 s!"t" ?_
 refine ac (aL O W.c_words (S4.g 4 rfl) (ac (aI (ag ?_))))
 refine bx (Ct.mono (CtA.ct (dP (k:=kk+9) W.G W.R (S4.g 14 rfl) (by rw[EZ];exact sM h10))) ?_)
 intro m σ5 zr1;refine ad zr1 λlb z5 z6=>?_;clear zr1;subst z5;obtain ⟨hlb,elb,fr5⟩:=z6
 have S5:=S4.keep fr5
 have okw:∀w∈ts.map T4.w,Hv w=true:=λw hw=>by
  refine ad (Fq.mp hw) λt ht z4=>?_;clear hw;subst z4
  exact wq (T.ok t ht)
 refine oC sL kG (fr5 _ _ ela) elb (ir s!"1" okw) (ir s!"1" okw) W.u64 (ay ?_)
 refine aD s!"4" (ak (ae ?_))
 clear S4 S3 S2 fr3 fr4 fr5 hla ela hlb elb
 have hgn:∀k∈S.gone,k<ts.length:=λk hk=>(OK.mem k).mp hk
 have g9:∀t∈S.gone.map (tAt ts),t.Ok:=λt ht=>by
  refine ad (Fq.mp ht) λk hk z4=>?_;clear ht;subst z4
  exact qN T (hgn k hk)
 obtain ⟨g0,gs',egs⟩:∃g0 gs',S.gone.map (tAt ts)=g0::gs':=by
  have:0∈S.gone:=(OK.mem 0).mpr (by exact o69 h4)
  cases e:S.gone.map (tAt ts) with
  |nil=>rw[List.map_eq_nil_iff] at e;rw[e] at this;cases this
  |cons a l=>exact (ie2 a l rfl)
 have glen:(S.gone.map (tAt ts)).length≤10:=by rw[EZ];exact xc h10 j3
 have mark_124:=gO
 with_reducible refine aa ?_
 with_reducible refine bl ?_
 with_reducible refine aC s!"r" ?_
 refine bA O W.g_read hr1 hr2 s!"t" ?_
 with_reducible refine ac ?_
 refine bA O W.g_line hl1 hl2 s!"t" ?_
 with_reducible refine ac ?_
 refine ee S.gone nI (λk=>thM (tAt ts k).th) (λ_=>true) (vs:=(S.gone.map (tAt ts)).map λt=>thM t.th) (by rw[d9,FS];rfl) [("things",L+1)] O (by rw[hv];kernel_rfl) s!"k" (λ_=>s!"r") s!"k" (by exact wQ h10 j3) (S5.g 12 rfl) (λQ' q=>ai O Pg q) (λC k ρ' _ _ QB h=>h) ?_ ?_
 ·rintro C k ρ' hk _ z1 Q' hQ'
  refine aP (aL (ao O s!"k" C) (ia2 (by show (Gm _ _ _ X.env).kindOf _=_;rw[hv];kernel_rfl) s!"k" s!"1") (S5.g 0 rfl) ?_)
  exact ai (ao O s!"k" C) z1 (aY (cq (λ_ _=>s!"r") (λ_ _=>s!"r")) (S5.g 8 rfl) (by exact dX) (by have:=hgn k hk;exact fX h10 this) (vm (hgn k hk)) hQ')
 intro D σ6 hD k6 e6
 have S6:=S5.call k6 hD e6
 refine ac (aI (ag ?_))
 refine bx (Ct.mono (CtA.ct (fM (k:=kk+8) W.G W.R gO g9 (by exact wX glen) (S6.g 15 rfl))) ?_)
 intro m σ7 zr1;refine xa1 zr1 λz5 fr7=>?_;clear zr1;subst z5
 have S7:=S6.keep fr7
 have lineG:=gW 124 g9
 refine ag ?_
 rw[gO]
 refine bx (Ct.mono (CtA.ct (iX (k:=kk+4) W.G W.R (toks:=bb ((S.gone.map (tAt ts)).map T4.w) ⟨#[124]⟩) (by exact xi glen lineG) (by rw[eC,EZ];exact Ao glen) (by rw[egs];exact lJ (.inr rfl) (by rw[←egs];exact g9)))) ?_)
 intro m σ8 zr1;refine ad zr1 λlc z5 z6=>?_;clear zr1;subst z5;obtain ⟨hlc,elc,fr8⟩:=z6
 have S8:=S7.keep fr8
 refine bA O W.g_parted hp1 hp2 s!"t" ?_
 with_reducible refine ac ?_
 refine ee S.gone nI (λk=> .s (tAt ts k).w) (λ_=>true) (vs:=((S.gone.map (tAt ts)).map T4.w).map .s) (by rw[d9,FS,FS];rfl) [("words",L+5)] O (by rw[hv];kernel_rfl) s!"k" (λ_=>s!"r") s!"k" (by exact wQ h10 j3) (S8.g 12 rfl) (λQ' q=>ai O Pg q) (λC k ρ' _ _ QB h=>h) ?_ ?_
 ·rintro C k ρ' hk _ z1 Q' hQ'
  refine aP (aL (ao O s!"k" C) (ia2 (by show (Gm _ _ _ X.env).kindOf _=_;rw[hv];kernel_rfl) s!"k" s!"1") (S8.g 4 rfl) ?_)
  exact ai (ao O s!"k" C) z1 (aY (cq (λ_ _=>s!"r") (λ_ _=>s!"r")) (S8.g 14 rfl) (by exact dX) (by have:=hgn k hk;exact fX h10 this) (kM (hgn k hk)) hQ')
 intro D2 σ9 hD2 k9 e9
 have S9:=S8.call k9 hD2 e9
 have elc9:=k9 _ _ elc
 refine ac (aI (ag ?_))
 refine bx (Ct.mono (CtA.ct (dP (k:=kk+9) W.G W.R (S9.g 16 rfl) (by rw[EZ];exact sM glen))) ?_)
 intro m σ10 zr1;refine ad zr1 λld z5 z6=>?_;clear zr1;subst z5;obtain ⟨hld,eld,fr10⟩:=z6
 have S10:=S9.keep fr10
 have okg:∀w∈(S.gone.map (tAt ts)).map T4.w,Hv w=true:=λw hw=>by
  refine ad (Fq.mp hw) λt ht z4=>?_;clear hw;subst z4
  exact wq (g9 t ht)
 refine oC sL kG (fr10 _ _ elc9) eld (ir s!"1" okg) (ir s!"1" okg) W.u64 (ay ?_)
 refine aD s!"4" (ak (ae ?_))
 have S11:Sep σ10 _:=⟨λp hp=>S10.1 p (GK _ (GK _ hp)),((GL.mp (GL.mp S10.2).1).1)⟩
 clear S10 S9 S8 S7 S6 S5 elc9 eld fr10 fr8 elc hlc fr7 hD hD2 hld k6 e6 k9 e9
 with_reducible refine aa ?_
 with_reducible refine ah s!"r" s!"r" s!"t" ?_
 refine f7 O W.g_list s!"t" ?_
 with_reducible refine ac ?_
 refine f7 O W.g_range s!"t" ?_
 with_reducible refine ac ?_
 refine aT O W.g_len s!"t" ?_
 refine ac (aL O W.c_things (S11.g 0 rfl) (ag (dy (S11.g 8 rfl) (by rw[EZ];exact Be h10) ?_)))
 rw[EZ]
 refine ag (pi λrg hrg=>?_)
 have S12:=S11.same hrg (rgO 0 (ts.length:Int))
 refine ag (rh W.hh (by exact fu h10) (Sg.put_same ..) λlcm hcm=>?_)
 have S13:=S12.newE hcm (.lst ((F8 ts.length).map λk:Nat=> .i (k:Int)))
 refine dF O W.c_came (S13.g 5 rfl) (ae ?_)
 have S14:=S13.p 5 rfl (.cel (EU (.r lcm)))
 dsimp only at S14⊢
 generalize ((σ10.put rg (rgO 0 (ts.length:Int))).put lcm (.lst ((F8 ts.length).map λk:Nat=> .i (k:Int)))).put (L+6) (.cel (EU (.r lcm)))=σ14 at S14⊢
 clear S13 S12 S11 hcm hrg
 with_reducible refine aa ?_
 with_reducible refine ah s!"r" s!"r" s!"t" ?_
 refine lM (λ_ _=>s!"r") ?_
 refine ai O Pg (cy lgo (S.gone.map nI) rfl (fI (fI ⟨S14.g 12 rfl,by rw[EZ,sz];exact nLL (EY j3 h10) rfl,λllf hlf=>?_⟩)))
 rw[zm]
 have S15:=S14.newE hlf (.lst (S.gone.map nI))
 refine dF O W.c_left (S15.g 6 rfl) (ae ?_)
 have S16:=S15.p 6 rfl (.cel (EU (.r llf)))
 dsimp only at S16⊢
 generalize (σ14.put llf (.lst (S.gone.map nI))).put (L+7) (.cel (EU (.r llf)))=σ16 at S16⊢
 clear S15 S14 hlf
 with_reducible refine aa ?_
 refine ah s!"r" s!"r" s!"t" (ca s!"t" (ag ⟨FZ _,λllx hlx=>?_⟩))
 have S17:=S16.newE hlx (.lst [])
 refine dF O W.c_lexers (S17.g 7 rfl) (ae ?_)
 have S18:=S17.p 7 rfl (.cel (EU (.r llx)))
 dsimp only at S18⊢
 generalize (σ16.put llx (.lst [])).put (L+8) (.cel (EU (.r llx)))=σ18 at S18⊢
 clear S17 S16 hlx
 unfold xR at S18
 rw[hh0] at S18
 refine hq lw lcm llf llx σ18 ρ ⟨?_,Ph,Pg,Pn⟩
 have dr:∀{l1 l2:List (Addr×MO)} {p:Addr×MO},Sep σ18 (l1++(p::l2))->Sep σ18 (l1++l2):=λ{l1 l2 p} h=>by
  have:=(h.perm List.perm_middle).drop1
  exact this
 have a1:=dr (l1:=[_,_]) S18
 have a2:=dr (l1:=[_,_,_,_,_,_,_,_,_,_]) a1
 have a3:=dr (l1:=[_,_,_,_,_,_,_,_,_,_,_]) a2
 exact a3
end
end
section
variable {X:Xc} {st:St} {φ:Sg} {Q:MV->St->Prop}
theorem wH{Q:MV->St->Prop}{elt target iter:Fw}{ifs:List Fw}{scope:Scope}{pos:Pos}(cl:List (Str×Addr))(gs:List (Str×Value)){Ω:Type}{mo:Ω->Nat->MO}{vs:Ω->List MV}{Cond:Ω->St->Prop}
 (J:Ω->Nat->List MV->St->Prop)
 (S:∀o C,Steps (Xi X scope cl C gs) (mo o) (vs o) (Cond o)) (self:∀o C,i5 (Xi X scope cl C gs) (mo o))
 (hs:∀x,F6 iter X.env x=pure x) (ht:∀o C,eV (Xi X scope cl C gs) target (mo o))
 (hclos:closureFor scope X.env=pure cl) (hsc:c9 scope=true) (sz:∀o,(vs o).length≤sizeLine)
 (h:WE X iter st λm st₁=>∃o,st₁.ρ=st.ρ∧qj X m st₁ (mo o)∧J o 0 [] ⟨st₁.σ,loC scope⟩∧
  ∀acc st',J o (vs o).length acc st'->∀D,st'.σ D=none->Q (.r D) ⟨st'.σ.put D (.lst acc),st.ρ⟩)
 (jl:∀o i acc st,J o i acc st->acc.length≤i) (cond:∀o i acc st,J o i acc st->Cond o st)
 (turn:∀o C i (hi:i<(vs o).length) acc st,J o i acc st->WA (Xi X scope cl C gs) target (vs o)[i] st λst₂=>bP (Xi X scope cl C gs) ifs st₂ λok st₃=>
  if ok=true then WE (Xi X scope cl C gs) elt st₃ λm st₄=>J o (i+1) (acc++[m]) st₄ else J o (i+1) acc st₃):
 WE X (.ListComp elt [⟨target,iter,ifs,0⟩] scope pos) st Q:=λφ s I=>by
 rw[eval_ListComp];refine jO (use:=none) J st.ρ _ S self hs ht hclos hsc sz I h jl cond turn λo acc st' s' D C ρc hq I' k nC nD DC φC φD sC sD=>?_;refine ad ((I'.inv.rep C (.fr ρc) (by unfold tot Sg.put;rw[if_neg nC];show (st'.σ C).or _=_;rw[sC];exact if_pos rfl)).2) λm hn _=>?_;refine (af m hn (λh' sb=>?_));refine xa1 (I'.forget (t:=s'.toks) nC sC (by unfold Sg.put;rw[if_neg (E8 DC)];exact φC) sb.extBut) λI₂ k₂=>?_;exact .mk (bO ..) (I₂.show_ sD nD φD) (k.trans k₂) (hq D sD)
end
noncomputable def lcB:MO->Bool
 | .lst _=>true
 | .cel _=>true
 |_=>false
noncomputable def LC(m:MO):Prop:=lcB m=true
theorem LC.lst{vs:List MV}:LC (.lst vs):=rfl
theorem LC.cel{c:Option MV}:LC (.cel c):=rfl
theorem LC.ins{a b:Addr}:¬LC (.ins a b):=λh=>by cases h
theorem LC.ns{l:List (Str×MV)}:¬LC (.ns l):=λh=>by cases h
theorem LC.dq{l:Option Str}:¬LC (dqO l):=λh=>by cases h
theorem LC.all{l:List (Addr×MO)}(h:l.all (λp=>lcB p.2)=true):∀p∈l,LC p.2:=Fn.mp h
structure LD where
 sx:Addr
 dsx:Addr
 io:Addr
 dio:Addr
 pbk:Addr
 fs:Addr
 buf:Str
 st:Option Str
 pos:Nat
 toks:List Str
noncomputable abbrev e0:Str:=EW ""
structure LD.Ok (σ:Sg) (d:LD):Prop where
 x:LX σ d.sx d.dsx d.io d.dio d.pbk d.fs shW e0 none d.buf d.st e0 d.pos none
 r:Reads shW e0 d.buf d.toks d.st d.pos none
 b:d.buf.length<1000
theorem LX.keepN{σ σ':Sg}{sx dsx io dio pbk fs:Addr}{W:Str}{buf:Str}{st:Option Str}{tok:Str}{pos:Nat}{pb:Option Str}(h:LX σ sx dsx io dio pbk fs W e0 none buf st tok pos pb)
 (k:∀b m,(b=sx∨b=dsx∨b=io∨b=dio∨b=pbk∨b=fs)->σ b=EU m->σ' b=EU m):LX σ' sx dsx io dio pbk fs W e0 none buf st tok pos pb:=by
 obtain ⟨a,⟨ln,b⟩,c,d,e,f,g,i,j⟩:=h;exact ⟨k _ _ s!"4" a,⟨ln,k _ _ s!"4" b⟩,k _ _ s!"4" c,k _ _ s!"4" d,k _ _ s!"4" e,k _ _ s!"4" f,(λx hx=>nomatch hx),i,j⟩
structure Lxs (σ:Sg) (ds:List LD):Prop where
 ok:∀d∈ds,d.Ok σ
 ap:ds.Pairwise λd e=>d.dsx≠e.dsx∧d.dio≠e.dio
theorem Lxs.nil{σ:Sg}:Lxs σ []:=⟨(λd h=>by cases h),.nil⟩
theorem LD.Ok.keep{σ σ':Sg}{d:LD}(h:d.Ok σ)(k:∀b m,¬LC m->σ b=EU m->σ' b=EU m):d.Ok σ':=by
 refine ⟨h.x.keepN λb m hb hm=>k b m ?_ hm,h.r,h.b⟩;obtain ⟨a,⟨ln,b'⟩,c,d',e,f,_⟩:=h.x;rcases hb with rfl|rfl|rfl|rfl|rfl|rfl
 ·rw[a] at hm;cases hm;exact LC.ins
 ·rw[b'] at hm;cases hm;exact LC.ns
 ·rw[c] at hm;cases hm;exact LC.ins
 ·rw[d'] at hm;cases hm;exact LC.ns
 ·rw[e] at hm;cases hm;exact LC.dq
 ·rw[f] at hm;cases hm;exact LC.dq
theorem Lxs.keep{σ σ':Sg}{ds:List LD}(h:Lxs σ ds)(k:∀b m,¬LC m->σ b=EU m->σ' b=EU m):Lxs σ' ds:=⟨λd hd=>(h.ok d hd).keep k,h.ap⟩
theorem Lxs.all{σ σ':Sg}{ds:List LD}(h:Lxs σ ds)(k:∀b m,σ b=EU m->σ' b=EU m):Lxs σ' ds:=h.keep λb m _ hm=>k b m hm
theorem Lxs.put{σ:Sg}{ds:List LD}(h:Lxs σ ds){a:Addr}{m:MO}(ha:σ a=EU m)(hm:LC m)(m':MO):Lxs (σ.put a m') ds:=h.keep λb m0 n0 hb=>by
 rw[Sg.put_ne _ _ (λe=>by subst e;rw[ha] at hb;cases hb;exact n0 hm)];exact hb
theorem Lxs.new{σ:Sg}{ds:List LD}(h:Lxs σ ds){a:Addr}(ha:σ a=none)(m':MO):Lxs (σ.put a m') ds:=h.all λb m hb=>by
 rw[Sg.put_ne _ _ (λe=>by subst e;rw[ha] at hb;cases hb)];exact hb
theorem Sep.keepLC{σ σ':Sg}{l:List (Addr×MO)}(h:Sep σ l)(hl:∀p∈l,LC p.2)(k:∀b m,LC m->σ b=EU m->σ' b=EU m):Sep σ' l:=⟨λp hp=>k _ _ (hl p hp) (h.1 p hp),h.2⟩
theorem Lxs.add{σ σ':Sg}{ds:List LD}(h:Lxs σ ds){m:MV}{x:Str}{toks:List Str}(N:oH σ σ' m shW e0 x)(hx:x.length<1000)(hr:Reads shW e0 x toks (EU (EW " ")) 0 none):
 ∃d:LD,m= .r d.sx∧d.toks=toks∧Lxs σ' (ds++[d])∧∀b m,σ b=EU m->σ' b=EU m:=by
 refine xe2 N λsx dsx z1=>?_;clear N;refine xe2 z1 λio dio z2=>?_;clear z1;obtain ⟨pbk,fs,pc,rfl,lx,u1,u2,u3,u4,u5,fr⟩:=z2
 have hpc:pc=none:=by
  have:=lx.hp
  cases pc with
  |none=>rfl
  |some a=>rw[show (e0.length !=0)=false by decide+kernel] at this;cases this
 clear u5;subst hpc;have old:=h.all fr;refine (cI ⟨sx,dsx,io,dio,pbk,fs,x,EU (EW " "),0,toks⟩ rfl rfl ⟨λd hd=>?_,?_⟩ fr)
 ·rcases F3.mp hd with hd|hd
  ·exact old.ok d hd
  ·rw[FX.mp hd];exact ⟨lx,hr,hx⟩
 ·refine GL.mpr (ia2 h.ap (List.pairwise_singleton _ _) (λd hd e he=>?_));rw[FX.mp he];have ok:=(h.ok d hd).x;refine xe1 ok.n λln hn=>?_;refine ⟨λe=>?_,λe=>?_⟩
  ·have e:d.dsx=dsx:=e;rw[e,u2] at hn;cases hn
  ·have e:d.dio=dio:=e;have hi:=ok.ni;rw[e,u4] at hi;cases hi
theorem Lxs.step{σ σ':Sg}{ds:List LD}(h:Lxs σ ds){u:Nat}{d:LD}(hu:ds[u]?=EU d){st:Option Str}{pos:Nat}{toks:List Str}
 (lx:LX σ' d.sx d.dsx d.io d.dio d.pbk d.fs shW e0 none d.buf st e0 pos none) (hr:Reads shW e0 d.buf toks st pos none) (fr:∀b m,b≠d.dsx->b≠d.dio->σ b=EU m->σ' b=EU m):
 Lxs σ' (ds.set u {d with st:=st,pos:=pos,toks:=toks}):=by
 obtain ⟨hul,hue⟩:=E5.mp hu;have okd:=h.ok d (G0 hu);have pw:=FY.mp h.ap
 have oth:∀j (hj:j<ds.length),j≠u->ds[j].dsx≠d.dsx∧ds[j].dio≠d.dio:=λj hj hju=>by
  rcases Nat.lt_or_gt_of_ne hju with h1|h1
  ·have:=pw j u hj hul h1;rw[hue] at this;exact this
  ·have:=pw u j hul hj h1;rw[hue] at this;exact ⟨E8 this.1,E8 this.2⟩
 refine xe1 okd.x.n λlnd hnd=>?_;refine ⟨λe he=>?_,?_⟩
 ·obtain ⟨j,hj,rfl⟩:=Gi he;rw[FD] at hj;rw[List.getElem_set];split
  ·exact ⟨lx,hr,okd.b⟩
  ·rename_i hju;have okj:=h.ok ds[j] (FB _);refine xa1 (oth j hj (E8 hju)) λo1 o2=>?_;refine ⟨okj.x.keepN λb m hb hm=>fr b m ?_ ?_ hm,okj.r,okj.b⟩
   ·obtain ⟨a,⟨ln,b'⟩,c,d',e,f,_⟩:=okj.x;clear hm;rcases hb with rfl|rfl|rfl|rfl|rfl|rfl
    ·exact aK a hnd
    ·exact o1
    ·exact aK c hnd
    ·exact E8 (eg hnd d')
    ·exact E8 (bI hnd e)
    ·exact E8 (bI hnd f)
   ·obtain ⟨a,⟨ln,b'⟩,c,d',e,f,_⟩:=okj.x;clear hm;rcases hb with rfl|rfl|rfl|rfl|rfl|rfl
    ·exact aK a okd.x.ni
    ·exact eg b' okd.x.ni
    ·exact aK c okd.x.ni
    ·exact o2
    ·exact E8 (bI okd.x.ni e)
    ·exact E8 (bI okd.x.ni f)
 ·refine FY.mpr λi j hi hj hij=>?_;rw[FD] at hi hj
  have e1:∀i (hi:i<ds.length),((ds.set u {d with st:=st,pos:=pos,toks:=toks})[i]'(by rw[FD];exact hi)).dsx=ds[i].dsx∧((ds.set u {d with st:=st,pos:=pos,toks:=toks})[i]'(by rw[FD];exact hi)).dio=ds[i].dio:=λi hi=>by
   rw[List.getElem_set];split
   ·rename_i e;subst e;rw[hue];exact ⟨rfl,rfl⟩
   ·exact ⟨rfl,rfl⟩
  rw[(e1 i hi).1,(e1 i hi).2,(e1 j hj).1,(e1 j hj).2];exact pw i j hi hj hij
section
open Builtin.ObjectAttr
theorem x6{X:Xc}{st:St}{Q:Fl->St->Prop}{α:Type}(xs:List α)(g f:α->MV)(p:α->Bool){vs:List MV}(hvs:(xs.filter p).map f=vs){x y:Str}{l:Addr}{elt iter:Fw}{ifs:List Fw}{scope:Scope}{px pt pos spos:Pos}(cl:List (Str×Addr))
 (O:XOk X) (hsw:swapsWith (.ListComp elt [⟨.Name y pt,iter,ifs,0⟩] scope pos) (EU (.Name x px)) spos.line X.env=pure true) (hclos:closureFor scope X.env=pure cl) (hsc:c9 scope=true) (hs:∀x,F6 iter X.env x=pure x) (h0:lk (loC scope) y=EU none) (sz:xs.length≤1000)
 (hl:st.σ l=EU (.lst (xs.map g)))
 (hit:∀Q':MV->St->Prop,Q' (.r l) st->WE X iter st Q')
 (htest:∀C a ρ',a∈xs->lk ρ' y=EU (EU (g a))->∀QB:Bool->St->Prop,QB (p a) ⟨st.σ,ρ'⟩->bP (Xi X scope cl C []) ifs ⟨st.σ,ρ'⟩ QB)
 (helt:∀C a ρ',a∈xs->p a=true->lk ρ' y=EU (EU (g a))->∀Q':MV->St->Prop,Q' (f a) ⟨st.σ,ρ'⟩->WE (Xi X scope cl C []) elt ⟨st.σ,ρ'⟩ Q')
 (hq:∀D σ',st.σ D=none->(∀b m,st.σ b=EU m->σ' b=EU m)->σ' D=EU (.lst vs)->WA X (.Name x px) (.r D) ⟨σ',st.ρ⟩ λst₂=>Q .next st₂):
 WS1 X (.Assign [.Name x px] (.ListComp elt [⟨.Name y pt,iter,ifs,0⟩] scope pos) spos) st Q:=by
 refine k8 cl [] (mo:=λi=> .itl l i) (vs:=xs.map g) (Cond:=λst=>st.σ l=EU (.lst (xs.map g))) (λi acc st'=>st'.σ=st.σ∧Nm st'.ρ [y]∧acc=(((xs.take i).filter p).map f)) hsw
  (λC=>ci (ao O hsc C) l _) (λC=>fh (ao O hsc C) l) hs (λC=>dB λ_ _=>rfl) hclos hsc (by rw[EZ,sizeLine_eq];exact o51 sz) ?_ ?_ ?_ ?_
 ·refine hit _ (ia3 rfl (cB hl) ⟨rfl,.cons h0 .nil,s!"4"⟩ ?_);intro acc st' zr1 D hD;refine xa2 zr1 λe1 _ e3=>?_;clear zr1;rw[EZ,Gp] at e3;rw[e1] at hD;rw[e1,e3];exact hq D _ hD (λb m hb=>(Sg.put_ne _ _ (λe=>by rw[e,hD] at hb;cases hb)).trans hb) (by rw[hvs];exact Sg.put_same ..)
 ·intro i acc st' zr1;refine p0 zr1 λ_ _=>?_;clear zr1;rw[EZ];exact EY (GS _ _) (List.length_take_le _ _)
 ·intro i acc st' zr1;refine xa2 zr1 λe1 _ _=>?_;clear zr1;rw[e1];exact hl
 ·intro C i hi acc zr1 zr2;obtain ⟨σ',ρ'⟩:=zr1;refine p0 zr2 λe1 e2=>?_;clear zr2;have hi':i<xs.length:=by simpa using hi
  have htk:xs.take (i+1)=xs.take i++[xs[i]]:=FU hi';have e1:σ'=st.σ:=e1;subst e1;rw[F9];refine xe1 (e2 y s!"4") λu z=>?_;refine aJ (ao O hsc C) z ?_;refine htest C xs[i] _ (FB _) (cD z) _ ?_
  cases hp:p xs[i] with
  |true=>
   rw[if_pos rfl];refine helt C xs[i] _ (FB _) hp (cD z) _ (ia2 rfl (Nm.st e2) ?_);rw[htk,List.filter_append,Ff,GM hp];rfl
  |false=>
   rw[if_neg s!"d"];refine (ia2 rfl (Nm.st e2) ?_);rw[htk,List.filter_append,Hr (by rw[hp];decide)];simp
theorem SM.gmb{w:FL}{σ:Sg}{x la lb:Addr}{ws:List Str}{dx d js jp:Addr}{F:Addr->Prop}{ns:List (Str×MV)}(h:SM w σ x la lb ws dx d js jp F ns):nk ns "get_matching_blocks" =none:=by
 rw[h.ns];unfold smN sq2 sq1 sm0;walk_at "nk"
theorem zy(p q:N3)(h:Fy.tuple [.int (p.1:Int),.int (p.2.1:Int),.int (p.2.2:Int)]=Fy.tuple [.int (q.1:Int),.int (q.2.1:Int),.int (q.2.2:Int)]):p=q:=by
 obtain ⟨a,b,c⟩:=p;obtain ⟨d,e,f⟩:=q;simp at h;refine xa2 h λh1 h2 h3=>?_;rw[show a=d by exact o1 h1,show b=e by exact o1 h2,show c=f by exact o1 h3]
theorem xC{a:Option MV}{m:MV}(h:a=none)(h2:a=EU m):False:=nomatch h.symm.trans h2
theorem SM.apart{w:FL}{σ:Sg}{x la lb:Addr}{ws:List Str}{dx d js jp:Addr}{F:Addr->Prop}{ns:List (Str×MV)}(h:SM w σ x la lb ws dx d js jp F ns){e:LD}(ok:e.Ok σ):dx≠e.dsx∧dx≠e.dio:=by
 have ha:=h.at.1;obtain ⟨ln,hn⟩:=ok.x.n;refine ⟨λq=>?_,λq=>?_⟩
 ·have h1:=h.n;rw[q,hn] at h1;clear h;cases h1;exact xC s!"k" ha
 ·have h1:=h.n;have h2:=ok.x.ni;rw[q,h2] at h1;clear h;cases h1;exact xC s!"k" ha
noncomputable def B3:List Stmt:=w6 (BR2.getD 0 (.Pass ⟨0,0,0,0⟩))
section
variable {X:Xc} {kk:Nat} {L lth lto lh lgo lw lcm llf llx:Addr} {ts:List T4} {told gone:List Nat} {t:Nat} {ds:List LD} {σ:Sg} {ρ:Lo}
set_option maxHeartbeats 4000000 in
theorem wb(W:LawC X L kk)(P:Pb L lth lto lh lgo lw lcm llf llx (EU (nI t)) ts told gone (bc told ts.length t) (bi told gone t) (ds.map λd=> .r d.sx) σ ρ)(T:Ths ts)(h10:ts.length≤10)(OK:OrdOk ts.length told gone)(ht:1≤t)(hne:eF told ts.length t≠ [])
 (LL:Lxs σ ds) (hds:ds.length≤20) {Q:Fl->St->Prop}
 (hq:∀lcm' llf' σ' ρ' d,Pb L lth lto lh lgo lw lcm' llf' llx (EU (nI t)) ts told gone (bc told ts.length (t+1)) (bi told gone (t+1)) ((ds++[d]).map λd=> .r d.sx) σ' ρ'->Lxs σ' (ds++[d])->d.toks=((eF told ts.length t).map (tAt ts)).map T4.w->Q .next ⟨σ',ρ'⟩):
 WS X B3 ⟨σ,ρ⟩ Q:=by
 have O:=W.O
 have N:=kn W.G
 have sz:=sizeLine_eq
 obtain ⟨v,hv⟩:=W.eq
 have S0:=P.sep
 have Ph:=P.heap
 have Pg:=P.gone
 have Pn:=P.nm
 clear P
 have hcam:∀k∈bc told ts.length t,k<ts.length:=λk hk=>(gT.mp hk).1
 have hlef:∀k∈bi told gone t,k<ts.length:=λk hk=>((fK OK).mp hk).1
 have lcam:(bc told ts.length t).length≤10:=by
  have:=GS (λk=>decide (t≤told.getD k 0)) (F8 ts.length)
  rw[List.length_range] at this
  exact EY this h10
 have llef:(bi told gone t).length≤10:=by
  have h1:=List.Nodup.length_le_of_subset (pu OK (t:=t)) (l₂:=F8 ts.length) λk hk=>by simpa using hlef k hk
  rw[List.length_range] at h1
  exact xc h10 h1
 have htold:told.length=ts.length:=OK.len
 refine am (bu W.G (a:=1005) s!"k") λob3 fd3 hp1 hp2=>?_
 refine am (bu W.G (a:=991) s!"k") λob2 fd2 hl1 hl2=>?_
 conv=>arg 2;whnf
 refine xe1 (Pn "a" s!"1") λu_a x_a=>?_
 refine xe1 (Pn "b" s!"1") λu_b x_b=>?_
 refine xe1 (Pn "due" s!"1") λu_d x_d=>?_
 with_reducible refine aa ?_
 with_reducible refine ah s!"r" s!"r" s!"t" ?_
 refine bA O W.g_parted hp1 hp2 s!"t" ?_
 with_reducible refine ac ?_
 refine ee (bc told ts.length t) nI (λk=> .s (aS ts k)) (λ_=>true) (vs:=((bc told ts.length t).map (aS ts)).map .s) (by rw[d9,FS];rfl) [("words",L+5)] O (by rw[hv];kernel_rfl) s!"k" (λ_=>s!"r") s!"k" (by exact fu lcam) (S0.g 12 rfl) (λQ' q=>aL O W.c_came (S0.g 4 rfl) q) (λC k ρ' _ _ QB h=>h) ?_ ?_
 ·rintro C k ρ' hk _ z1 Q' hQ'
  refine aP (aL (ao O s!"k" C) (ia2 (by show (Gm _ _ _ X.env).kindOf _=_;rw[hv];kernel_rfl) s!"k" s!"1") (S0.g 3 rfl) ?_)
  exact ai (ao O s!"k" C) z1 (aY (cq (λ_ _=>s!"r") (λ_ _=>s!"r")) (S0.g 11 rfl) (by exact dX) (by have:=hcam k hk;exact fX h10 this) (kM (hcam k hk)) (by rw[←eE (hcam k hk)];exact hQ'))
 intro D1 σ1 hD1 k1 e1
 have S1:=S0.call k1 hD1 e1
 have L1:=LL.all k1
 refine ac (aI (ag ?_))
 refine bx (Ct.mono (CtA.ct (dP (k:=kk+9) W.G W.R (S1.g 15 rfl) (by rw[EZ];exact sM lcam))) ?_)
 intro m σ2 zr1;refine ad zr1 λla z4 z5=>?_;clear zr1;subst z4;obtain ⟨hla,ela,fr2⟩:=z5
 have S2:=S1.call fr2 hla ela
 have L2:=L1.all fr2
 refine aJ O x_a (ae ?_)
 have y_a:lk (stL ρ "a" (.r la)) "a" =EU (EU (.r la)):=s!"lk"
 have y_b:lk (stL ρ "a" (.r la)) "b" =EU u_b:=s!"lk"
 have y_d:lk (stL ρ "a" (.r la)) "due" =EU u_d:=s!"lk"
 have y_heap:lk (stL ρ "a" (.r la)) "heap" =EU (EU (.r lh)):=bn s!"ne" Ph
 have y_gone:lk (stL ρ "a" (.r la)) "gone" =EU (EU (.r lgo)):=bn s!"ne" Pg
 have y_nm:=Pn.st (x:="a") (m:= .r la)
 generalize stL ρ "a" (.r la)=ρ1 at y_a y_b y_d y_heap y_gone y_nm⊢
 clear S1 L1 S0 LL hD1 hla ela fr2 k1 e1
 with_reducible refine aa ?_
 with_reducible refine ah s!"r" s!"r" s!"t" ?_
 refine bA O W.g_parted hp1 hp2 s!"t" ?_
 with_reducible refine ac ?_
 refine ee (bi told gone t) nI (λk=> .s (aS ts k)) (λ_=>true) (vs:=((bi told gone t).map (aS ts)).map .s) (by rw[d9,FS];rfl) [("words",L+5)] O (by rw[hv];kernel_rfl) s!"k" (λ_=>s!"r") s!"k" (by exact fu llef) (S2.g 13 rfl) (λQ' q=>aL O W.c_left (S2.g 5 rfl) q) (λC k ρ' _ _ QB h=>h) ?_ ?_
 ·rintro C k ρ' hk _ z1 Q' hQ'
  refine aP (aL (ao O s!"k" C) (ia2 (by show (Gm _ _ _ X.env).kindOf _=_;rw[hv];kernel_rfl) s!"k" s!"1") (S2.g 3 rfl) ?_)
  exact ai (ao O s!"k" C) z1 (aY (cq (λ_ _=>s!"r") (λ_ _=>s!"r")) (S2.g 11 rfl) (by exact dX) (by have:=hlef k hk;exact fX h10 this) (kM (hlef k hk)) (by rw[←eE (hlef k hk)];exact hQ'))
 intro D2 σ3 hD2 k3 e3
 have S3:=S2.call k3 hD2 e3
 have L3:=L2.all k3
 refine ac (aI (ag ?_))
 refine bx (Ct.mono (CtA.ct (dP (k:=kk+9) W.G W.R (S3.g 17 rfl) (by rw[EZ];exact sM llef))) ?_)
 intro m σ4 zr1;refine ad zr1 λlb z4 z5=>?_;clear zr1;subst z4;obtain ⟨hlb,elb,fr4⟩:=z5
 have S4:=S3.call fr4 hlb elb
 have L4:=L3.all fr4
 refine aJ O y_b (ae ?_)
 have z_a:lk (stL ρ1 "b" (.r lb)) "a" =EU (EU (.r la)):=s!"lk"
 have z_b:lk (stL ρ1 "b" (.r lb)) "b" =EU (EU (.r lb)):=s!"lk"
 have z_d:lk (stL ρ1 "b" (.r lb)) "due" =EU u_d:=s!"lk"
 have z_heap:lk (stL ρ1 "b" (.r lb)) "heap" =EU (EU (.r lh)):=s!"lk"
 have z_gone:lk (stL ρ1 "b" (.r lb)) "gone" =EU (EU (.r lgo)):=s!"lk"
 have z_nm:=y_nm.st (x:="b") (m:= .r lb)
 generalize stL ρ1 "b" (.r lb)=ρ2 at z_a z_b z_d z_heap z_gone z_nm⊢
 clear S3 L3 S2 L2 hD2 hlb elb fr4 k3 e3 y_a y_b y_d y_heap y_gone y_nm
 with_reducible refine aa ?_
 refine x6 (bc told ts.length t) nI (λk=>tT (2*(bc told ts.length t).idxOf k,2*(bi told gone t).idxOf k,1)) (λk=>decide (told.getD k 0=t)) (vs:=((ce told gone ts.length t (bc told ts.length t)).map t1).map tT) (by unfold ce;rw[FS,FS];rfl) [("turn",L+4),("told",L+2),("left",L+7),("came",L+6)] O (by rw[hv];kernel_rfl) (by rw[hv];kernel_rfl) s!"k" (λ_=>s!"r") s!"k" (by exact fu lcam) (S4.g 12 rfl) (λQ' q=>aL O W.c_came (S4.g 4 rfl) q) ?_ ?_ ?_
 ·rintro C k ρ' hk z1 QB hQB
  unfold bP
  dsimp only
  refine aC s!"r" (aP (aL (ao O s!"k" C) (ia2 (by show (Gm _ _ _ X.env).kindOf _=_;rw[hv];kernel_rfl) s!"k" s!"1") (S4.g 1 rfl) ?_))
  refine ai (ao O s!"k" C) z1 (aY (cq (λ_ _=>s!"r") (λ_ _=>s!"r")) (S4.g 8 rfl) (by exact dX) (by have:=hcam k hk;exact fX h10 this) (by rw[FV];exact eK (by rw[htold];exact hcam k hk)) ?_)
  refine aL (ao O s!"k" C) (ia2 (by show (Gm _ _ _ X.env).kindOf _=_;rw[hv];kernel_rfl) s!"k" s!"1") (S4.g 2 rfl) (jZ (xP hQB))
 ·rintro C k ρ' hk hpk z1 Q' hQ'
  with_reducible refine cW s!"t" ?_
  with_reducible refine ac ?_
  refine ar (aq ?_)
  refine bp (T:="list") (id:="list.index") s!"t" s!"r" s!"4" s!"r" Fz PySem.F.slot_list_index PySem.F.type_list_index ?_
  refine aL (ao O s!"k" C) (ia2 (by show (Gm _ _ _ X.env).kindOf _=_;rw[hv];kernel_rfl) s!"k" s!"1") (S4.g 4 rfl) ⟨bJ (S4.g 12 rfl),ac (ai (ao O s!"k" C) z1 (ag (qc (S4.g 12 rfl) (by exact fu lcam) hk ?_)))⟩
  refine oE (IntMulOk.of_left s!"d") ?_
  with_reducible refine ac ?_
  refine ar (aq ?_)
  refine bp (T:="list") (id:="list.index") s!"t" s!"r" s!"4" s!"r" Fz PySem.F.slot_list_index PySem.F.type_list_index ?_
  refine aL (ao O s!"k" C) (ia2 (by show (Gm _ _ _ X.env).kindOf _=_;rw[hv];kernel_rfl) s!"k" s!"1") (S4.g 5 rfl) ⟨bJ (S4.g 13 rfl),ac (ai (ao O s!"k" C) z1 (ag (qc (S4.g 13 rfl) (by exact fu llef) ((jE OK).mp hk) ?_)))⟩
  refine oE (IntMulOk.of_left s!"d") ?_
  refine ac (aq (ag ⟨by rw[sz];show 3≤_;decide,?_⟩))
  exact hQ'
 intro D3 σ5 hD3 k5 e5
 have S5:=S4.call k5 hD3 e5
 have L5:=L4.all k5
 have ldue:(ce told gone ts.length t (bc told ts.length t)).length≤10:=by
  unfold ce
  rw[EZ]
  exact EY (GS _ _) lcam
 have hch:=rH OK (show Wd ts.length (aS ts) (EW ";") (EW "|") by rw[kK,gO];exact T.wd h10) ht
 have hrw:=y0 OK (show Wd ts.length (aS ts) (EW ";") (EW "|") by rw[kK,gO];exact T.wd h10) t
 clear k5 e5
 generalize ce told gone ts.length t (bc told ts.length t)=due at S5 ldue hch
 refine aJ O z_d (ae ?_)
 have w_a:lk (stL ρ2 "due" (.r D3)) "a" =EU (EU (.r la)):=s!"lk"
 have w_b:lk (stL ρ2 "due" (.r D3)) "b" =EU (EU (.r lb)):=s!"lk"
 have w_d:lk (stL ρ2 "due" (.r D3)) "due" =EU (EU (.r D3)):=s!"lk"
 have w_heap:lk (stL ρ2 "due" (.r D3)) "heap" =EU (EU (.r lh)):=s!"lk"
 have w_gone:lk (stL ρ2 "due" (.r D3)) "gone" =EU (EU (.r lgo)):=s!"lk"
 have w_nm:=z_nm.st (x:="due") (m:= .r D3)
 generalize stL ρ2 "due" (.r D3)=ρ3 at w_a w_b w_d w_heap w_gone w_nm⊢
 clear S4 L4 z_a z_b z_d z_heap z_gone z_nm hD3
 have lA:(bb ((bc told ts.length t).map (aS ts)) (EW ";")).length≤20:=by rw[eC,EZ];exact Bi lcam
 have lB:(bb ((bi told gone t).map (aS ts)) (EW "|")).length≤20:=by rw[eC,EZ];exact Bi llef
 with_reducible refine aa ?_
 refine cz O W.hin w_d (S5.g 19 rfl) s!"r" s!"r" s!"r" s!"t" ?_
 with_reducible refine cW s!"t" ?_
 with_reducible refine ac ?_
 refine aT O W.g_len s!"t" ?_
 refine ac (ai O w_a (ag (dy (S5.g 16 rfl) (by rw[EZ];exact vR lA) ?_)))
 with_reducible refine ac ?_
 refine aT O W.g_len s!"t" ?_
 refine ac (ai O w_b (ag (dy (S5.g 18 rfl) (by rw[EZ];exact vR lB) ?_)))
 rw[EZ,EZ]
 have ldl:(due.map t1++[((bb ((bc told ts.length t).map (aS ts)) (EW ";")).length,(bb ((bi told gone t).map (aS ts)) (EW "|")).length,0)]).length≤11:=by rw[E7,EZ];show _+1≤_;exact Nat.lt_succ_of_le ldue
 have eM:(due.map λp=>tM (t1 p))++[tM ((bb ((bc told ts.length t).map (aS ts)) (EW ";")).length,(bb ((bi told gone t).map (aS ts)) (EW "|")).length,0)]=(due.map t1++[((bb ((bc told ts.length t).map (aS ts)) (EW ";")).length,(bb ((bi told gone t).map (aS ts)) (EW "|")).length,0)]).map tM:=by rw[Ff,FS];rfl
 have eT:=(Ff (f:=tT) (l₁:=due.map t1) (l₂:=[((bb ((bc told ts.length t).map (aS ts)) (EW ";")).length,(bb ((bi told gone t).map (aS ts)) (EW "|")).length,0)])).symm
 generalize due.map t1++[((bb ((bc told ts.length t).map (aS ts)) (EW ";")).length,(bb ((bi told gone t).map (aS ts)) (EW "|")).length,0)]=dl at ldl eM eT
 refine ac (aq (ag ⟨by rw[sz];show 3≤_;decide,xJ (S5.g 19 rfl) (by rw[EZ,EZ];exact fu ldue) eT (ae ?_)⟩))
 have S6:=S5.p 19 rfl (.lst (dl.map tT))
 have L6:=L5.put (S5.g 19 rfl) .lst (.lst (dl.map tT))
 generalize σ5.put D3 (.lst (dl.map tT))=σ6 at S6 L6⊢
 clear S5 L5 eT
 have hcSM:eQ (KD X.C.w.params N.dv) 260=true:=by
  have M:=An X.C.w.params N.dv
  simp only[Fd] at M
  exact M.2
 have hcSH:eQ (KD X.C.w.params N.dv) 975=true:=by
  have M:=tE X.C.w.params N.dv
  simp only[Fd] at M
  exact M.2
 with_reducible refine aa ?_
 with_reducible refine bl ?_
 with_reducible refine aC s!"r" ?_
 refine wH (Ω:=Addr×Sg) [] [("tuple",.type "tuple")] (mo:=λo i=> .itl o.1 i) (vs:=λ_=>dl.map tM) (Cond:=λo st=>st.σ o.1=EU (.lst (dl.map tM)))
  (λo i acc st'=>st'.σ=o.2∧Nm st'.ρ ["block"]∧o.2 o.1=EU (.lst (dl.map tM))∧acc=(dl.take i).map tT)
  (λo C=>ci (kY W.G rfl W.hh (by rw[hv];rfl) (by rw[hv];rfl) rfl (by rw[hv];kernel_rfl)) o.1 _) (λo C=>fh (kY W.G rfl W.hh (by rw[hv];rfl) (by rw[hv];rfl) rfl (by rw[hv];kernel_rfl)) o.1) (λ_=>s!"r") (λo C=>dB λ_ _=>rfl)
  s!"r" s!"k" (λo=>by rw[EZ,sz];exact nLL ldl rfl) ?_ ?_ ?_ ?_
 rotate_left
 ·intro o i acc st' zr1;refine xa3 zr1 λ_ _ _ z4=>?_;clear zr1;subst z4
  rw[EZ];exact List.length_take_le _ _
 ·intro o i acc st' zr1;refine xa3 zr1 λe1 _ e3 _=>?_;clear zr1
  rw[e1];exact e3
 ·intro o C i hi acc zr1 zr2;obtain ⟨σ',ρ'⟩:=zr1;refine xa3 zr2 λe1 e2 e3 z4=>?_;clear zr2;subst z4
  have hi':i<dl.length:=by simpa using hi
  rw[F9]
  refine xe1 (e2 "block" s!"1") λu z=>?_
  refine aJ (kY W.G rfl W.hh (by rw[hv];rfl) (by rw[hv];rfl) s!"2" (by rw[hv];kernel_rfl)) z ?_
  unfold bP
  dsimp only
  rw[if_pos rfl]
  refine f7 (T:="tuple") (kY W.G rfl W.hh (by rw[hv];rfl) (by rw[hv];rfl) s!"2" (by rw[hv];kernel_rfl)) s!"k" s!"t" (ac (ai (kY W.G rfl W.hh (by rw[hv];rfl) (by rw[hv];rfl) s!"2" (by rw[hv];kernel_rfl)) (cD z) (ag ?_)))
  show WC _ _ [.t (.ref 153) [.i (dl[i].1:Int),.i (dl[i].2.1:Int),.i (dl[i].2.2:Int)]] _ _
  refine wU (ms:=[.i (dl[i].1:Int),.i (dl[i].2.1:Int),.i (dl[i].2.2:Int)]) (by exact W.hh) (by exact ⟨N.dv,N.k⟩) (by show 3<1000;decide) (by show 3≠0;decide) ?_
  refine (ia3 e1 (Nm.st e2) e3 ?_)
  rw[FU hi',Ff];rfl
 refine bK N s!"r" s!"t" ?_
 refine fW O N W.g_SM s!"t" s!"3" hcSM ?_
 refine ac (fJ (ac (ai O w_a (ac (ai O w_b (ag (gK ?_)))))))
 refine iU (CtA.mono (BH (k:=kk+5) W.G W.R (S6.g 18 rfl) (by exact wP lB)) ?_)
 intro m σ7 zr1;refine xe2 zr1 λx dx z4=>?_;clear zr1;obtain ⟨d,js,jp,F,ns,rfl,SMx,fr7⟩:=z4
 refine dK 221 SMx.i SMx.n SMx.gmb (Bv _ _) (Bc _ _) s!"k" (bu W.G s!"k") (ag ?_)
 refine bx (Ct.mono (CtA.ct (zn (k:=kk+6) W.G W.R SMx (fr7 _ _ (S6.g 16 rfl)) (fr7 _ _ (S6.g 18 rfl)) hrw (by exact wP lA) (by exact wP lB) hch (by exact nLT ldue rfl))) ?_)
 intro m σ8 zr1;refine ad zr1 λlbk z4 z5=>?_;clear zr1;subst z4;obtain ⟨ebk,fr8⟩:=z5
 have ebk':σ8 lbk=EU (.lst (dl.map tM)):=by rw[ebk];exact congrArg (λl=>EU (MO.lst l)) eM
 have S7:=S6.keep fr7
 have L7:=L6.all fr7
 have S8:=S7.keepLC (LC.all rfl) (λb m hm hb=>fr8 b m (λe=>by subst e;rw[SMx.n] at hb;cases hb;exact LC.ns hm) hb)
 have L8:Lxs σ8 ds:=by
  refine ⟨λe he=>?_,L7.ap⟩
  have ok:=L7.ok e he
  obtain ⟨n1,n2⟩:=SMx.apart ok
  refine ⟨ok.x.keepN λb m hb hm=>fr8 b m (λq=>?_) hm,ok.r,ok.b⟩
  subst q
  obtain ⟨a,⟨ln,b'⟩,c,d',e',f,_⟩:=ok.x
  rcases hb with h|h|h|h|h|h
  ·rw[h,a] at hm;cases hm;have:=SMx.n;rw[h,a] at this;cases this
  ·exact n1 h
  ·have:=SMx.n;rw[h,c] at this;cases this
  ·exact n2 h
  ·have:=SMx.n;rw[h,e'] at this;cases this
  ·have:=SMx.n;rw[h,f] at this;cases this
 clear fr8 fr7 S7 L7 S6 L6 SMx ebk
 refine (cI (lbk,σ8) rfl (cB ebk') ⟨rfl,.cons (u:=none) s!"k" .nil,ebk',rfl⟩ ?_)
 intro acc zr1 zr2 D4 hD4;obtain ⟨σ',ρ'⟩:=zr1;refine xa3 zr2 λe1 _ _ z4=>?_;clear zr2;subst z4
 have e1:σ'=σ8:=e1
 subst e1
 rw[EZ,Gp]
 have okD:∀a∈dl,Gz 8 (Fy.tuple [.int (a.1:Int),.int (a.2.1:Int),.int (a.2.2:Int)])=true:=λ_ _=>rfl
 refine ai O w_d (oC zB zy (Sg.put_same ..) (dm hD4 _ _ _ (S8.g 19 rfl)) okD okD W.u64 (ay ?_))
 refine aD s!"4" (ak (ae ?_))
 have S9:=S8.same hD4 (.lst (dl.map tT))
 have L9:=L8.new hD4 (.lst (dl.map tT))
 generalize σ'.put D4 (.lst (dl.map tT))=σ9 at S9 L9⊢
 clear S8 L8 ebk' hD4
 obtain ⟨r0,rs,ers⟩:∃r0 rs,(eF told ts.length t).map (tAt ts)=r0::rs:=by
  cases e:eF told ts.length t with
  |nil=>exact absurd e hne
  |cons a l=>exact (ie2 _ _ rfl)
 have rok:∀z∈(eF told ts.length t).map (tAt ts),z.Ok:=λz hz=>by
  refine ad (Fq.mp hz) λk hk z2=>?_;subst z2
  exact qN T (mL.mp hk).1
 have lrn:((eF told ts.length t).map (tAt ts)).length≤10:=by
  rw[EZ,←r9]
  exact EY (GS _ _) lcam
 with_reducible refine aa ?_
 refine aA W.hin s!"r" ?_
 refine bp (T:="list") (id:="list.append") s!"t" s!"r" s!"4" s!"r" Fz Gx Gy ?_
 refine aL O W.c_lexers (S9.g 6 rfl) ⟨bJ (S9.g 14 rfl),?_⟩
 with_reducible refine ac ?_
 refine fW O N W.g_sh s!"t" s!"3" hcSH ?_
 with_reducible refine ac ?_
 refine bA O W.g_line hl1 hl2 s!"t" ?_
 with_reducible refine ac ?_
 refine ee (bc told ts.length t) nI (λk=>thM (tAt ts k).th) (λk=>decide (told.getD k 0=t)) (vs:=((eF told ts.length t).map (tAt ts)).map λt=>thM t.th) (by rw[r9,FS];rfl) [("turn",L+4),("told",L+2),("things",L+1)] O (by rw[hv];kernel_rfl) s!"k" (λ_=>s!"r") s!"k" (by exact fu lcam) (S9.g 12 rfl) (λQ' q=>aL O W.c_came (S9.g 4 rfl) q) ?_ ?_ ?_
 ·rintro C k ρ' hk z1 QB hQB
  unfold bP
  dsimp only
  refine aC s!"r" (aP (aL (ao O s!"k" C) (ia2 (by show (Gm _ _ _ X.env).kindOf _=_;rw[hv];kernel_rfl) s!"k" s!"1") (S9.g 1 rfl) ?_))
  refine ai (ao O s!"k" C) z1 (aY (cq (λ_ _=>s!"r") (λ_ _=>s!"r")) (S9.g 8 rfl) (by exact dX) (by have:=hcam k hk;exact fX h10 this) (by rw[FV];exact eK (by rw[htold];exact hcam k hk)) ?_)
  refine aL (ao O s!"k" C) (ia2 (by show (Gm _ _ _ X.env).kindOf _=_;rw[hv];kernel_rfl) s!"k" s!"1") (S9.g 2 rfl) (jZ (xP hQB))
 ·rintro C k ρ' hk _ z1 Q' hQ'
  refine aP (aL (ao O s!"k" C) (ia2 (by show (Gm _ _ _ X.env).kindOf _=_;rw[hv];kernel_rfl) s!"k" s!"1") (S9.g 0 rfl) ?_)
  exact ai (ao O s!"k" C) z1 (aY (cq (λ_ _=>s!"r") (λ_ _=>s!"r")) (S9.g 7 rfl) (by exact dX) (by have:=hcam k hk;exact fX h10 this) (vm (hcam k hk)) hQ')
 intro D5 σ10 hD5 k10 e10
 have S10:=S9.call k10 hD5 e10
 have L10:=L9.all k10
 refine ac (aI (ag ?_))
 refine bx (Ct.mono (CtA.ct (fM (k:=kk+8) W.G W.R pA rok (by exact wX lrn) (S10.g 20 rfl))) ?_)
 intro m σ11 zr1;refine xa1 zr1 λz4 fr11=>?_;clear zr1;subst z4
 have S11:=S10.keep fr11
 have L11:=L10.all fr11
 have lineR:=gW 32 rok
 refine ag (kA (eJ (gK ?_)))
 refine iU (CtA.mono (s8 (k:=kk+5) W.G W.R) ?_)
 rintro m σ12 NX
 refine ad (L11.add NX (toks:=((eF told ts.length t).map (tAt ts)).map T4.w) (by rw[pA];exact xi lrn lineR) (by rw[ers,pA];exact qT (by rw[←ers];exact rok))) λdn z2 z3=>?_;subst z2;refine xa2 z3 λhtk L12 fr12=>?_;clear z3
 have S12:=S11.keep fr12
 refine ag (i4 (vs':=(ds++[dn]).map λd=>MV.r d.sx) (S12.g 14 rfl) (by rw[EZ,sz];exact zI hds) (by rw[Ff];rfl) ⟨trivial,ae ?_⟩)
 have S13:=S12.p 14 rfl (.lst ((ds++[dn]).map λd=>MV.r d.sx))
 have L13:=L12.put (S12.g 14 rfl) LC.lst (.lst ((ds++[dn]).map λd=>MV.r d.sx))
 generalize σ12.put llx (.lst ((ds++[dn]).map λd=>MV.r d.sx))=σ13 at S13 L13⊢
 clear S12 L12 S11 L11 S10 L10 S9 L9 hD5 fr11 fr12 NX k10 e10
 with_reducible refine aa ?_
 with_reducible refine ah (by rw[hv];kernel_rfl) s!"r" s!"t" ?_
 refine ee (bc told ts.length t) nI nI (λk=>decide (told.getD k 0≠t)) (vs:=(bc told ts.length (t+1)).map nI) (by rw[wf]) [("turn",L+4),("told",L+2)] O (by rw[hv];kernel_rfl) s!"k" (λ_=>s!"r") s!"k" (by exact fu lcam) (S13.g 12 rfl) (λQ' q=>aL O W.c_came (S13.g 4 rfl) q) ?_ ?_ ?_
 ·rintro C k ρ' hk z1 QB hQB
  unfold bP
  dsimp only
  refine aC s!"r" (aP (aL (ao O s!"k" C) (ia2 (by show (Gm _ _ _ X.env).kindOf _=_;rw[hv];kernel_rfl) s!"k" s!"1") (S13.g 1 rfl) ?_))
  refine ai (ao O s!"k" C) z1 (aY (cq (λ_ _=>s!"r") (λ_ _=>s!"r")) (S13.g 8 rfl) (by exact dX) (by have:=hcam k hk;exact fX h10 this) (by rw[FV];exact eK (by rw[htold];exact hcam k hk)) ?_)
  refine aL (ao O s!"k" C) (ia2 (by show (Gm _ _ _ X.env).kindOf _=_;rw[hv];kernel_rfl) s!"k" s!"1") (S13.g 2 rfl) (s4 (xM hQB))
 ·rintro C k ρ' hk _ z1 Q' hQ'
  exact ai (ao O s!"k" C) z1 hQ'
 intro lcm' σ14 hlcm' k14 e14
 have S14:=S13.call k14 hlcm' e14
 have L14:=L13.all k14
 refine dF O W.c_came (S14.g 4 rfl) (ae ?_)
 have S15:=S14.p 4 rfl (.cel (EU (.r lcm')))
 have L15:=L14.put (S14.g 4 rfl) LC.cel (.cel (EU (.r lcm')))
 generalize σ14.put (L+6) (.cel (EU (.r lcm')))=σ15 at S15 L15⊢
 clear S14 L14 S13 L13 hlcm' k14 e14
 with_reducible refine aa ?_
 with_reducible refine ah (by rw[hv];kernel_rfl) s!"r" s!"t" ?_
 refine ee (bi told gone t) nI nI (λk=>decide (told.getD k 0≠t)) (vs:=(bi told gone (t+1)).map nI) (by rw[xu]) [("turn",L+4),("told",L+2)] O (by rw[hv];kernel_rfl) s!"k" (λ_=>s!"r") s!"k" (by exact fu llef) (S15.g 13 rfl) (λQ' q=>aL O W.c_left (S15.g 5 rfl) q) ?_ ?_ ?_
 ·rintro C k ρ' hk z1 QB hQB
  unfold bP
  dsimp only
  refine aC s!"r" (aP (aL (ao O s!"k" C) (ia2 (by show (Gm _ _ _ X.env).kindOf _=_;rw[hv];kernel_rfl) s!"k" s!"1") (S15.g 1 rfl) ?_))
  refine ai (ao O s!"k" C) z1 (aY (cq (λ_ _=>s!"r") (λ_ _=>s!"r")) (S15.g 8 rfl) (by exact dX) (by have:=hlef k hk;exact fX h10 this) (by rw[FV];exact eK (by rw[htold];exact hlef k hk)) ?_)
  refine aL (ao O s!"k" C) (ia2 (by show (Gm _ _ _ X.env).kindOf _=_;rw[hv];kernel_rfl) s!"k" s!"1") (S15.g 2 rfl) (s4 (xM hQB))
 ·rintro C k ρ' hk _ z1 Q' hQ'
  exact ai (ao O s!"k" C) z1 hQ'
 intro llf' σ16 hllf' k16 e16
 have S16:=S15.call k16 hllf' e16
 have L16:=L15.all k16
 refine dF O W.c_left (S16.g 5 rfl) (ae ?_)
 have S17:=S16.p 5 rfl (.cel (EU (.r llf')))
 have L17:=L16.put (S16.g 5 rfl) LC.cel (.cel (EU (.r llf')))
 refine ak (hq lcm' llf' _ ρ3 dn ⟨?_,w_heap,w_gone,w_nm⟩ L17 htk)
 exact S17.pick [0,1,2,3,4,5,6,7,8,9,10,11,21,22,14] s!"d" s!"k"
end
end
section
open Builtin.ObjectAttr
theorem Ac{n:Nat}{told gone:List Nat}(OK:OrdOk n told gone){t:Nat}(ht:1≤t)(hm:t≤mxL told):eF told n t≠ []:=by
 have key:∀j k,k<n->told.getD k 0=t+j->∃k',k'<n∧told.getD k' 0=t:=by
  intro j
  induction j with
  |zero=>intro k hk e;exact (af k hk e)
  |succ j ih=>
   intro k hk e;rcases OK.ex k hk with h|⟨e',he,_,h⟩
   ·exact (Ga.mpr (E6 (e.symm.trans h)) (E3 ht (Hs (Nat.succ_pos _)))).elim
   ·exact ih e' (by exact o62 hk he) (by exact Nat.succ.inj (h.symm.trans e))
 have h0:mxL told≠0:=by exact o64 ht hm
 obtain ⟨i,hi,e⟩:=Gi (gG h0);have hi':i<n:=by rw[←OK.len];exact hi
 have e':told.getD i 0=mxL told:=by rw[FR,E2 hi,e];rfl
 refine ad (key (mxL told-t) i hi' (by exact e'.trans (Nat.add_sub_cancel' hm).symm)) λk hk ek=>?_;intro h;have:=mL.mpr ⟨hk,ek⟩;rw[h] at this;cases this
theorem xE{n:Nat}{told gone:List Nat}(OK:OrdOk n told gone):mxL told≤n:=by
 have lim:∀k,k<n->told.getD k 0≤k+1:=by
  intro k
  induction k using Nat.strongRecOn with
  |_ k ih=>
   intro hk;rcases OK.ex k hk with h|⟨e',he,_,h⟩
   ·exact EY (E6 h) (Hi 1 _)
   ·have:=ih e' he (by exact o62 hk he);exact h▸FH (EY this he)
 by_cases h0:mxL told=0
 ·exact o2 h0
 ·obtain ⟨i,hi,e⟩:=Gi (gG h0);have hi':i<n:=by rw[←OK.len];exact hi
  have:=lim i hi';rw[FR,E2 hi,e] at this;have:mxL told≤i+1:=this;exact EY this hi'
noncomputable def BR3:List Stmt:=BR2.drop 1
noncomputable def cT(ts:List T4)(told gone:List Nat)(u:Nat):List Str:=((gone.filter λk=>decide (told.getD k 0=u+1)).map (tAt ts)).map T4.w
section
variable {X:Xc} {kk:Nat} {L lth lto lh lgo lw lcm llf llx:Addr} {ts:List T4} {told gone:List Nat} {mu:Option MV} {σ:Sg} {ρ:Lo}
set_option maxHeartbeats 4000000 in
theorem x0(W:LawC X L kk)(P:Pb L lth lto lh lgo lw lcm llf llx mu ts told gone (F8 ts.length) gone [] σ ρ)(T:Ths ts)(h4:4≤ts.length)(h10:ts.length≤10)(OK:OrdOk ts.length told gone){Q:Fl->St->Prop}
 (hq:∀lcm llf mu ds σ' ρ' cm lf,Pb L lth lto lh lgo lw lcm llf llx mu ts told gone cm lf (ds.map λd=> .r d.sx) σ' ρ'->Lxs σ' ds->ds.length=mxL told->(∀(u:Nat) (d:LD),ds[u]?=EU d->d.toks=cT ts told gone u)->WS X BR3 ⟨σ',ρ'⟩ Q):
 WS X BR2 ⟨σ,ρ⟩ Q:=by
 have O:=W.O
 have sz:=sizeLine_eq
 obtain ⟨v,hv⟩:=W.eq
 have htold:told.length=ts.length:=OK.len
 have mle:mxL told≤10:=EY (xE OK) h10
 have m0:mxL told≠0:=by
  have h1:=OK.pos 0 (by exact o69 h4)
  have h2:told.getD 0 0∈told:=by
   rw[FR,E2 (show 0<told.length by exact o70 h4 htold)]
   exact FB _
  have:=iZ h2
  exact o64 h1 this
 conv=>arg 2;whnf
 with_reducible refine aa ?_
 refine fD (mo:=λi=>rgI (1+(i:Int)) ((mxL told:Int)-i)) (vs:=cX 1 (mxL told)) (Cond:=λ_=>True)
  (λi st=>∃lcm llf mu ds,Pb L lth lto lh lgo lw lcm llf llx mu ts told gone (bc told ts.length (i+1)) (bi told gone (i+1)) (ds.map λd=> .r d.sx) st.σ st.ρ∧Lxs st.σ ds∧ds.length=i∧∀(u:Nat) (d:LD),ds[u]?=EU d->d.toks=cT ts told gone u)
  (gA O 1 (mxL told)) (λ_=>s!"r") (λ_ _=>s!"r") ?_ (λ_ _ _=>trivial) ?_ ?_
 ·refine f7 O W.g_range s!"t" ?_
  refine ac (aq ?_)
  with_reducible refine ac ?_
  refine ar (aq ?_)
  refine aT O W.g_max s!"t" ?_
  refine ac (aL O W.c_told (P.sep.g 1 rfl) (ag (uW W.hh (ns:=told.map λk:Nat=>(k:Int)) (by rw[FS];exact P.sep.g 8 rfl) (by rw[EZ];exact o70 h4 htold) (v:=((mxL told:Nat):Int)) (Fq.mpr (af _ (gG m0) rfl)) (λx hx=>?_) (c0 (ag (qh λrg hrg=>?_))))))
  ·refine ad (Fq.mp hx) λy hy z1=>?_;clear hx;subst z1
   have:=iZ hy;exact o71 this
  refine ⟨(jA lcm llf mu ([]) ⟨?_,P.heap,P.gone,P.nm⟩ Lxs.nil ⟨rfl,λu d h=>by simp at h⟩),hO (a:=1) s!"d" s!"d" (by exact Fg _) (by exact Gn (Int.add_le_add_left (GN.mpr mle) 1) s!"d") (mxL told) (rg1 _) (Sg.put_same ..)⟩
  show Sep _ _
  rw[x9 OK,yt OK]
  exact P.sep.same hrg _
 ·intro J0 hJ i hi zr1 zr2;obtain ⟨σ',ρ'⟩:=zr1;refine bz zr2 λlcm llf mu ds P' z2=>?_;clear zr2;obtain ⟨LL,hl,htk⟩:=z2
  have hi':i<mxL told:=by simpa[cX] using hi
  have ev:(cX 1 (mxL told))[i]=nI (i+1):=by simp[cX];exact congrArg MV.i o78
  rw[ev]
  refine dF O W.c_turn (P'.sep.g 2 rfl) ?_
  refine wb W ⟨P'.sep.p 2 rfl (.cel (EU (nI (i+1)))),P'.heap,P'.gone,P'.nm⟩ T h10 OK (by exact o79) (Ac OK (by exact o79) (by exact o80 hi')) (LL.put (P'.sep.g 2 rfl) LC.cel _) (by exact nTL (E1 (E3 (E6 hl) hi') mle) rfl) λlcm' llf' σ'' ρ'' d P'' LL'' hd=>hJ _ _ (jA lcm' llf' _ (ds++[d]) P'' LL'' ⟨by rw[E7,hl];rfl,λu e he=>?_⟩)
  by_cases hu:u<ds.length
  ·rw[Gu hu] at he
   exact htk u e he
  ·rw[Hc (by exact o82 hu)] at he
   have h0:u-ds.length=0:=by
    cases h1:u-ds.length with
    |zero=>rfl
    |succ m=>rw[h1] at he;simp at he
   rw[h0] at he
   have he:EU d=EU e:=he
   cases he
   rw[hd]
   unfold cT
   rw[wg OK,show u=i by exact (GH (Nat.le_of_sub_eq_zero h0) (Ga.mp hu)).trans hl]
 ·intro zr1 zr2;obtain ⟨σ',ρ'⟩:=zr1;refine bz zr2 λlcm llf mu ds P' z2=>?_;obtain ⟨LL,hl,htk⟩:=z2
  have hlen:(cX 1 (mxL told)).length=mxL told:=by simp[cX]
  rw[hlen] at hl
  exact ak (ae (hq lcm llf mu ds σ' ρ' _ _ P' LL hl htk))
end
end
section
open Builtin.ObjectAttr
theorem Lxs.rest{σ σ':Sg}{d:LD}{ds:List LD}(h:Lxs σ (d::ds))(fr:∀b m,b≠d.dsx->b≠d.dio->σ b=EU m->σ' b=EU m):Lxs σ' ds:=by
 obtain ⟨h1,h2⟩:=List.pairwise_cons.mp h.ap;have okd:=h.ok d (Fo ..);obtain ⟨lnd,hnd⟩:=okd.x.n;refine ⟨λe he=>?_,h2⟩;have okj:=h.ok e (Fk _ he);obtain ⟨o1,o2⟩:=h1 e he;refine ⟨okj.x.keepN λb m hb hm=>fr b m ?_ ?_ hm,okj.r,okj.b⟩
 ·obtain ⟨a,⟨ln,b'⟩,c,d',e,f,_⟩:=okj.x;clear hm;rcases hb with rfl|rfl|rfl|rfl|rfl|rfl
  ·exact aK a hnd
  ·exact E8 o1
  ·exact aK c hnd
  ·exact E8 (eg hnd d')
  ·exact E8 (bI hnd e)
  ·exact E8 (bI hnd f)
 ·obtain ⟨a,⟨ln,b'⟩,c,d',e,f,_⟩:=okj.x;clear hm;rcases hb with rfl|rfl|rfl|rfl|rfl|rfl
  ·exact aK a okd.x.ni
  ·exact eg b' okd.x.ni
  ·exact aK c okd.x.ni
  ·exact E8 o2
  ·exact E8 (bI okd.x.ni e)
  ·exact E8 (bI okd.x.ni f)
theorem v3{α:Type}{l:List α}{i:Nat}{x:α}(h:l[i]?=EU x):l.set i x=l:=by
 obtain ⟨hi,e⟩:=E5.mp h;rw[←e];exact List.set_getElem_self hi
theorem Base.lc{L lth lto lh lgo lw lcm llf llx:Addr}{mu:Option MV}{ts:List T4}{told gone cm lf:List Nat}{lxs:List MV}:∀p∈Base L lth lto lh lgo lw lcm llf llx mu ts told gone cm lf lxs,LC p.2:=LC.all rfl
section
variable {X:Xc} {kk:Nat} {L lth lto lh lgo lw lcm llf llx:Addr} {ts:List T4} {told gone cm lf:List Nat} {mu:Option MV} {ds:List LD} {σ:Sg} {ρ:Lo}
set_option maxHeartbeats 4000000 in
theorem yK(W:LawC X L kk)(P:Pb L lth lto lh lgo lw lcm llf llx mu ts told gone cm lf (ds.map λd=> .r d.sx) σ ρ)(T:Ths ts)(h10:ts.length≤10)(OK:OrdOk ts.length told gone)(LL:Lxs σ ds)(hds:ds.length=mxL told)(hdl:ds.length≤20)
 (htk:∀(u:Nat) (d:LD),ds[u]?=EU d->d.toks=cT ts told gone u):
 WS X BR3 ⟨σ,ρ⟩ λfl st=>fl= .ret (.k (.bool true)):=by
 have O:=W.O
 have N:=kn W.G
 have sz:=sizeLine_eq
 refine xe1 W.eq λv hv=>?_
 have htold:told.length=ts.length:=OK.len
 have S0:Sep σ (Base L lth lto lh lgo lw lcm llf llx mu ts told gone cm lf (ds.map λd=> .r d.sx)):=P.sep
 have Ph:=P.heap
 have Pg:=P.gone
 clear P
 have hgn:∀k∈gone,k<ts.length:=λk hk=>(OK.mem k).mp hk
 have glen:gone.length≤10:=by
  have h1:=List.Nodup.length_le_of_subset OK.nd (l₂:=F8 ts.length) λk hk=>by simpa using hgn k hk
  rw[List.length_range] at h1
  exact xc h10 h1
 have tmx:∀k,k<ts.length->told.getD k 0-1<ds.length:=λk hk=>by
  have h1:=OK.pos k hk
  have h2:told.getD k 0≤mxL told:=iZ (by rw[FR,E2 (show k<told.length by exact o39 htold hk)];exact FB _)
  exact D7 hds h1 h2
 conv=>arg 2;whnf
 with_reducible refine aa ?_
 with_reducible refine bl ?_
 with_reducible refine aC s!"r" ?_
 refine jD [("told",L+2),("lexers",L+8)] [] (mo:=λi=> .itl lgo i) (vs:=gone.map nI) (Cond:=λst=>st.σ lgo=EU (.lst (gone.map nI)))
  (λi acc st'=>∃ds',Sep st'.σ (Base L lth lto lh lgo lw lcm llf llx mu ts told gone cm lf (ds.map λd=> .r d.sx))∧Lxs st'.σ ds'∧(ds'.map λd=>MV.r d.sx)=ds.map (λd=>MV.r d.sx)∧Nm st'.ρ ["k"]∧
   (∀(u:Nat) (d:LD),ds'[u]?=EU d->d.toks=cT ts told (gone.drop i) u)∧acc=(gone.take i).map λk=> .s (aS ts k))
  (λC=>ci (ao O s!"k" C) lgo _) (λC=>fh (ao O s!"k" C) lgo) (λ_=>s!"r") (λC=>dB λ_ _=>rfl) (by rw[hv];kernel_rfl) s!"k" (by rw[EZ,sz];exact nLL glen rfl) ?_ ?_ ?_ ?_
 rotate_left
 ·intro i acc st' zr1;refine fy zr1 λds' _ _ _ _ z3=>?_;clear zr1;obtain ⟨_,rfl⟩:=z3
  rw[EZ];exact List.length_take_le _ _
 ·intro i acc st' zr1;refine ad zr1 λds' S _=>?_;clear zr1
  exact S.g 10 rfl
 ·intro C i hi acc zr1 zr2;obtain ⟨σ',ρ'⟩:=zr1;refine fy zr2 λds' S LL' hsx nm z3=>?_;clear zr2;obtain ⟨htk',rfl⟩:=z3
  have hi':i<gone.length:=by simpa using hi
  rw[F9]
  refine xe1 (nm "k" s!"1") λu0 z=>?_
  refine aJ (ao O s!"k" C) z ?_
  unfold bP
  dsimp only
  rw[if_pos rfl]
  have hk:=hgn _ (FB hi')
  have hdrop:gone.drop i=gone[i]::gone.drop (i+1):=List.drop_eq_getElem_cons hi'
  have htake:gone.take (i+1)=gone.take i++[gone[i]]:=FU hi'
  generalize gone[i]=k at hk hdrop htake⊢
  have lds:ds'.length=ds.length:=by have:=congrArg List.length hsx;rwa [EZ,EZ] at this
  have hu:=tmx k hk
  have hp:=OK.pos k hk
  obtain ⟨d,hd⟩:∃d,ds'[told.getD k 0-1]?=EU d:=⟨_,E2 (by exact Ak lds hu)⟩
  have htd:=htk' _ _ hd
  have htd:d.toks=(tAt ts k).w::cT ts told (gone.drop (i+1)) (told.getD k 0-1):=by
   rw[htd]
   unfold cT
   rw[hdrop,GM (by rw[decide_eq_true_eq];exact (GX hp).symm)]
   rfl
  have dok:=LL'.ok d (G0 hd)
  refine xe1 dok.r.run λn hrun=>?_
  have hsxd:(ds.map λd=>MV.r d.sx)[(((told.getD k 0:Nat):Int)-1).toNat]?=EU (.r d.sx):=by
   rw[←hsx,show (((told.getD k 0:Nat):Int)-1).toNat=told.getD k 0-1 by exact zW,FA,hd];rfl
  refine ia (X:=Xi X _ _ C []) W.G (ao O s!"k" C) ⟨N.dv,N.k⟩ (k:=kk+6) W.R dok.x dok.b s!"1" hrun s!"r" (λQ' q=>?_) ?_
  ·refine aP (aL (ao O s!"k" C) (ia2 (by show (Gm _ _ _ X.env).kindOf _=_;rw[hv];kernel_rfl) s!"k" s!"1") (S.g 6 rfl) ?_)
   refine ar (aP (aL (ao O s!"k" C) (ia2 (by show (Gm _ _ _ X.env).kindOf _=_;rw[hv];kernel_rfl) s!"k" s!"1") (S.g 1 rfl) ?_))
   refine ai (ao O s!"k" C) (cD z) (aY (cq (λ_ _=>s!"r") (λ_ _=>s!"r")) (S.g 8 rfl) (by exact dX) (by exact fX h10 hk) (by rw[FV];exact eK (by rw[htold];exact hk)) ?_)
   exact aq (fa (aY (cq (λ_ _=>s!"r") (λ_ _=>s!"r")) (S.g 14 rfl) (by exact DU hp) (by exact Gn (Int.sub_le_self _ s!"d") (Gn (GN.mpr (EY (Nat.le_of_pred_lt hu) hdl)) s!"d")) hsxd q))
  ·intro ls' σ'' HK lx fr
   rw[htd] at HK
   refine xa1 HK λhres hreads=>?_;clear HK
   have hpb:=lx.cn rfl
   rw[hpb] at lx hreads
   refine xe1 dok.x.n λlnd hnd=>?_
   have fr':∀b m,b≠d.dsx->b≠d.dio->σ' b=EU m->σ'' b=EU m:=λb m h1 h2 hb=>fr b m h1 h2 (λa ha=>by cases ha) hb
   refine (gv (ds'.set (told.getD k 0-1) {d with st:=ls'.st,pos:=ls'.pos,toks:=cT ts told (gone.drop (i+1)) (told.getD k 0-1)}) (S.keepLC Base.lc (λb m hm hb=>fr' b m (λe=>by subst e;rw[hnd] at hb;cases hb;exact LC.ns hm) (λe=>by subst e;rw[dok.x.ni] at hb;cases hb;exact LC.ns hm) hb)) (LL'.step hd lx hreads fr') ?_ (Nm.st nm) ⟨λw e he=>?_,?_⟩)
   ·rw[List.map_set,←hsx]
    exact v3 (by rw[FA,hd];rfl)
   ·by_cases hw:w=told.getD k 0-1
    ·subst hw
     rw[List.getElem?_set_self (by exact Ak lds hu)] at he
     cases he;rfl
    ·rw[List.getElem?_set_ne (E8 hw)] at he
     rw[htk' w e he]
     unfold cT
     rw[hdrop,Hr (by rw[decide_eq_true_eq];exact λz_h=>hw (by rw[z_h];rfl))]
   ·rw[htake,Ff,hres,←eE hk];rfl
 refine ai O Pg (ia3 rfl (cB (S0.g 10 rfl)) ⟨ds,S0,LL,rfl,.cons (u:=none) s!"k" .nil,(λu d h=>by rw[List.drop_zero];exact htk u d h),rfl⟩ ?_)
 intro acc zr1 zr2 D hD;obtain ⟨σ1,ρ1⟩:=zr1;refine fy zr2 λds1 S1 LL1 hsx1 _ z3=>?_;clear zr2;obtain ⟨htk1,rfl⟩:=z3
 dsimp only at S1 LL1 hD⊢
 rw[EZ,Gp]
 rw[EZ,List.drop_length] at htk1
 have S2:=S1.newE hD (.lst (gone.map λk=> .s (aS ts k)))
 have L2:=LL1.new hD (.lst (gone.map λk=> .s (aS ts k)))
 have ew:(gone.map λk=>MV.s (aS ts k))=(gone.map (aS ts)).map .s:=by rw[FS];rfl
 rw[ew] at S2 L2⊢
 generalize σ1.put D (.lst ((gone.map (aS ts)).map .s))=σ2 at S2 L2⊢
 clear S1 LL1 hD
 refine ee gone nI (λk=> .s (aS ts k)) (λ_=>true) (vs:=(gone.map (aS ts)).map .s) (by rw[d9,FS];rfl) [("words",L+5)] O (by rw[hv];kernel_rfl) s!"k" (λ_=>s!"r") s!"k" (by exact fu glen) (S2.g 10 rfl) (λQ' q=>ai O Pg q) (λC k ρ' _ _ QB h=>h) ?_ ?_
 ·rintro C k ρ' hk _ z1 Q' hQ'
  refine aP (aL (ao O s!"k" C) (ia2 (by show (Gm _ _ _ X.env).kindOf _=_;rw[hv];kernel_rfl) s!"k" s!"1") (S2.g 3 rfl) ?_)
  exact ai (ao O s!"k" C) z1 (aY (cq (λ_ _=>s!"r") (λ_ _=>s!"r")) (S2.g 11 rfl) (by exact dX) (by have:=hgn k hk;exact fX h10 this) (kM (hgn k hk)) (by rw[←eE (hgn k hk)];exact hQ'))
 intro D2 σ3 hD2 k3 e3
 have S3:=S2.call k3 hD2 e3
 have L3:=L2.all k3
 have okw:∀a∈gone.map (aS ts),Gz 8 (Fy.str a)=true:=λa ha=>by
  refine ad (Fq.mp ha) λk hk z2=>?_;clear ha;subst z2
  show Hv _=true
  rw[eE (hgn k hk)]
  exact wq (qN T (hgn k hk))
 refine oC sL kG (S3.g 15 rfl) (S3.g 16 rfl) okw okw W.u64 (ay ?_)
 refine aD s!"4" (ak (ae ?_))
 clear S2 L2 hD2 k3 e3
 with_reducible refine aa ?_
 with_reducible refine bd ?_
 refine zh ?_
 with_reducible refine lN s!"r" ?_
 refine ai O Ph (ca s!"t" (ag ⟨FZ _,λle hle=>?_⟩))
 have S4:=S3.newE hle (.lst [])
 have L4:=L3.new hle (.lst [])
 refine xU (f:=λn:Int=>MV.i n) (g:=Fy.int) (xs:=[]) (ys:=[]) sN (λa b h=>by injection h) (S4.g 9 rfl) (S4.g 17 rfl) (λa h=>by cases h) (λa h=>by cases h) W.u64 ?_
 refine ay (ift s!"4" ?_)
 dsimp only
 generalize σ3.put le (.lst [])=σ4 at S4 L4⊢
 clear S3 L3 hle
 have SB:=S4.pick (l':=Base L lth lto lh lgo lw lcm llf llx mu ts told gone cm lf (ds.map λd=> .r d.sx)) [0,1,2,3,4,5,6,7,8,9,10,11,12,13,14] s!"d" s!"k"
 clear S4
 have lds:ds1.length=ds.length:=by have:=congrArg List.length hsx1;rwa [EZ,EZ] at this
 with_reducible refine lN s!"r" ?_
 refine jD [] [] (mo:=λi=> .itl llx i) (vs:=ds.map λd=> .r d.sx) (Cond:=λst=>st.σ llx=EU (.lst (ds.map λd=> .r d.sx)))
  (λi acc st'=>Sep st'.σ (Base L lth lto lh lgo lw lcm llf llx mu ts told gone cm lf (ds.map λd=> .r d.sx))∧Lxs st'.σ (ds1.drop i)∧Nm st'.ρ ["lexer"]∧acc=F0 i (.k .none))
  (λC=>ci (ao O s!"k" C) llx _) (λC=>fh (ao O s!"k" C) llx) (λ_=>s!"r") (λC=>dB λ_ _=>rfl) s!"r" s!"k" (by rw[EZ,sz];exact zI hdl) ?_ ?_ ?_ ?_
 rotate_left
 ·intro i acc st' zr1;refine xa3 zr1 λ_ _ _ z3=>?_;clear zr1;subst z3
  rw[List.length_replicate];exact Fe _
 ·intro i acc st' zr1;refine xa1 zr1 λS _=>?_;clear zr1
  exact S.g 14 rfl
 ·intro C i hi acc zr1 zr2;obtain ⟨σ',ρ'⟩:=zr1;refine xa3 zr2 λS LL' nm z3=>?_;clear zr2;subst z3
  have hi':i<ds1.length:=by rw[lds];simpa using hi
  have ev:(ds.map λd=>MV.r d.sx)[i]= .r ds1[i].sx:=by
   have h1:(ds.map λd=>MV.r d.sx)[i]?=EU (.r ds1[i].sx):=by rw[←hsx1,FA,E2 hi'];rfl
   rw[E2 hi] at h1
   exact Option.some.inj h1
  rw[ev]
  refine xe1 (nm "lexer" s!"1") λu0 z=>?_
  refine aJ (ao O s!"k" C) z ?_
  unfold bP
  dsimp only
  rw[if_pos rfl]
  have hdrop:ds1.drop i=ds1[i]::ds1.drop (i+1):=List.drop_eq_getElem_cons hi'
  have htd:ds1[i].toks=[]:=htk1 i _ (E2 hi')
  rw[hdrop] at LL'
  generalize ds1[i]=d at LL' htd⊢
  have dok:=LL'.ok d (Fo ..)
  refine xe1 dok.r.run λn hrun=>?_
  refine ia (X:=Xi X _ _ C []) W.G (ao O s!"k" C) ⟨N.dv,N.k⟩ (k:=kk+6) W.R dok.x dok.b s!"1" hrun s!"r" (λQ' q=>ai (ao O s!"k" C) (cD z) q) ?_
  intro ls' σ'' HK lx fr
  rw[htd] at HK
  have hres:cw ls'= .k .none:=HK
  refine xe1 dok.x.n λlnd hnd=>?_
  have fr':∀b m,b≠d.dsx->b≠d.dio->σ' b=EU m->σ'' b=EU m:=λb m h1 h2 hb=>fr b m h1 h2 (λa ha=>by cases ha) hb
  exact (ia3 (S.keepLC Base.lc (λb m hm hb=>fr' b m (λe=>by subst e;rw[hnd] at hb;cases hb;exact LC.ns hm) (λe=>by subst e;rw[dok.x.ni] at hb;cases hb;exact LC.ns hm) hb)) (LL'.rest fr') (Nm.st nm) (by rw[hres,←List.replicate_succ']))
 refine aL O W.c_lexers (SB.g 6 rfl) (ia3 rfl (cB (SB.g 14 rfl)) ⟨SB,L4,.cons (u:=none) s!"k" .nil,rfl⟩ ?_)
 intro acc zr1 zr2 D3 hD3;obtain ⟨σ5,ρ5⟩:=zr1;refine xa3 zr2 λS5 _ _ z3=>?_;clear zr2;subst z3
 dsimp only at S5 hD3⊢
 rw[EZ]
 have S6:=S5.newE hD3 (.lst (F0 ds.length (.k .none)))
 generalize σ5.put D3 (.lst (F0 ds.length (.k .none)))=σ6 at S6⊢
 with_reducible refine ar ?_
 with_reducible refine ca s!"t" ?_
 refine ac (fJ (ag ⟨by rw[sz];show 1≤_;decide,λln hln=>?_⟩))
 have S7:=S6.newE hln (.lst [.k .none])
 dsimp only
 generalize σ6.put ln (.lst [.k .none])=σ7 at S7⊢
 refine aT O W.g_len s!"t" ?_
 refine ac (aL O W.c_lexers (S7.g 6 rfl) (ag (dy (S7.g 14 rfl) (by rw[EZ];exact vR hdl) ?_)))
 rw[EZ]
 refine vw (n:=ds.length) (by exact o33) (by exact dX) (by exact nLL hdl rfl) (S7.g 16 rfl) λlm hlm=>?_
 have S8:=S7.newE hlm (.lst (F0 ds.length (.k .none)))
 have er:F0 ds.length (MV.k .none)=(F0 ds.length ()).map λ_:Unit=>MV.k .none:=by rw[List.map_replicate]
 refine xU (f:=λ_:Unit=>MV.k .none) (g:=λ_=>Fy.none) (xs:=F0 ds.length ()) (ys:=F0 ds.length ()) Cp (λ_ _ _=>rfl) ?_ ?_ (λ_ _=>rfl) (λ_ _=>rfl) W.u64 (cY s!"4")
 ·rw[←er];exact S8.g 15 rfl
 ·rw[←er];exact S8.g 17 rfl
end
end
theorem zU{X:Xc}{kk:Nat}{L:Addr}(W:LawC X L kk){lsc:Addr}{scr:List Int}{its:Array Value}(pl:X.C.h0.IsList lsc its)(rr:VRs X.C.h0 (scr.map .i) its.toList)(hz:scr.length≤63):
 WS X (cu (top 35)) ⟨σL L,lo1 (top 35) [("script",.r lsc)]⟩ λfl st=>fl= .ret (.k (.bool true)):=by
 have l_script:lk (lo1 (top 35) [("script",.r lsc)]) "script" =EU (EU (.r lsc)):=s!"k"
 have l_nm:Nm (lo1 (top 35) [("script",.r lsc)]) ["row","heap","inside","gone","x","number","sign","takes","least","a","b","due"]:=by
  refine .cons (u:=none) ?_ (.cons (u:=none) ?_ (.cons (u:=none) ?_ (.cons (u:=none) ?_ (.cons (u:=none) ?_ (.cons (u:=none) ?_ (.cons (u:=none) ?_ (.cons (u:=none) ?_ (.cons (u:=none) ?_ (.cons (u:=none) ?_ (.cons (u:=none) ?_ (.cons (u:=none) ?_ .nil)))))))))))<;>kernel_rfl
 refine y6 W pl rr hz l_script l_nm (BO L) λlth lto lh lin lgo lrow row ts S my mu σ ρ P T h4 h10 J he nm=>?_;refine xZ W P T h4 h10 J he λlw lcm llf llx σ ρ P2=>?_;have OK:=(J.done he).1;refine x0 W P2 T h4 h10 OK λlcm llf mu ds σ ρ cm lf P3 LL hds htk=>?_;exact yK W P3 T h10 OK LL hds (by have:=xE OK;exact nLL (EY (EY (E6 hds) this) h10) rfl) htk
theorem yz(a:Array Obj)(b:Nat)(hb:b≠a.size-1):a.pop[b]?=a[b]?:=by
 rw[Array.getElem?_pop];split
 ·rfl
 ·rename_i hh;have:a.size≤b:=by exact Nat.le_of_pred_lt (Gh (Ga.mp hh) (E8 hb))
  rw[Array.getElem?_eq_none this]
theorem BD:∀(n:Nat) (h:Heap),h.objs.size=n->(∃b o,h.get? b=EU o)->∃h':Heap,(∀b,h'.get? b=h.get? b)∧h'.objs.size≤h.objs.size∧∃o,h'.get? (h'.objs.size-1)=EU o
 |0,h,e,⟨b,o,hb⟩=>by
  have:=Heap.lt_size hb;rw[e] at this;exact absurd this (Nat.not_lt_zero _)
 |n+1,h,e,hx=>by
  cases hl:h.get? (h.objs.size-1) with
  |some o=>exact (cj h (λ_=>rfl) (Fe _) o hl)
  |none=>
   have same:∀b,({h with objs:=h.objs.pop}:Heap).get? b=h.get? b:=λb=>by
    by_cases hb:b=h.objs.size-1
    ·subst hb;rw[hl];unfold Heap.get?;have:h.objs.pop[h.objs.size-1]?=none:=s!"4"
     simp only[this]
    ·unfold Heap.get?;have:h.objs.pop[b]?=h.objs[b]?:=yz _ _ hb;simp only[this]
   obtain ⟨h',a,b,c⟩:=BD n {h with objs:=h.objs.pop} (by simp[e]) (by refine xe2 hx λb o hb=>?_;exact (ie2 b o ((same b).trans hb)));refine (aR h' (λx=>(a x).trans (same x)) (EY b s!"4") c)
theorem mU{h:Heap}{cl:Str->Option Addr}:∀{ds:List WData} {vs:List Value} {as:List Addr},ReadsAllW [] cl h vs ds as->(∀d∈ds,∃n,d= .int n)->∃ns:List Int,VRs h (ns.map .i) vs∧ns.length=ds.length
 | [],_,_,r,_=>by cases r;exact (af ([]) (.nil _) rfl)
 |d::ds,_,_,r,hd=>by
  cases r with
  |cons r1 r2=>
   refine xe1 (hd d (Fo ..)) λn z1=>?_;subst z1;refine ad (mU r2 λx hx=>hd x (Fk _ hx)) λns r3 hl=>?_;cases r1;exact (af (n::ns) (.cons (cH ..) r3) (by simp[hl]))
theorem C4{C:Cx}(G:Gd C):∃v o,C.h0.get? 1010=EU o∧o.data= .func (fdL v):=by
 refine xe1 (G.says.fn (a:=1010) (st:=top 35) (n:="law") (q:="law") (d:= .none) (pm:= .str (EW "law_il0198_01") 1575) (an:=none) (cd:= .ref 1009) s!"k") λv hv=>?_;exact (cy v _ hv rfl)
theorem w9:((b9 (top 35)).names.all λp=>(b9 (top 35)).names.lookup p.1==EU p.2&& !(p.1==("__debug__" :Str)))=true:=s!"k"
theorem xB{lsc:Addr}{x:Str}{u:Option MV}(h:lk (lo1 (top 35) [("script",.r lsc)]) x=EU u):(b9 (top 35)).names.lookup x=EU .local∧(x==("__debug__" :Str))=false∧u=([(EW "script",MV.r lsc)]:List (Str×MV)).lookup x:=by
 refine gU (gN (f:=λy=>([(EW "script",MV.r lsc)]:List (Str×MV)).lookup y) (l:=(b9 (top 35)).names.filter λp=>p.2== .local) h) λe k hmem=>?_;refine xa1 (GD.mp hmem) λh1 h2=>?_;have h3:=Fn.mp w9 (x,k) h1;simp only[Fd,Gb,beq_iff_eq] at h3;have:k= .local:=by simpa using h2
 clear hmem h1 h2;subst this;exact (ia2 h3.1 (by simpa using h3.2) e)
theorem B0{L b:Addr}{m:MO}(h:σL L b=EU m):m= .cel none∧L<b∧b≤L+8:=by
 unfold σL at h;split at h
 ·cases h;exact ⟨rfl,s!"A"⟩
 ·cases h
theorem fV{L b k:Nat}(h:b≤L+(k+1)):b≤L+k∨b=L+(k+1):=(Nat.eq_or_lt_of_le h).symm.imp FG id
theorem yU{L b:Nat}(h1:L<b)(h2:b≤L+8):b=L+1∨b=L+2∨b=L+3∨b=L+4∨b=L+5∨b=L+6∨b=L+7∨b=L+8:=
 (fV h2).elim (λh=>(fV h).elim (λh=>(fV h).elim (λh=>(fV h).elim (λh=>(fV h).elim (λh=>(fV h).elim (λh=>(fV h).elim (λh=> .inl (GH h h1))
  λh=> .inr (.inl h)) λh=> .inr (.inr (.inl h))) λh=> .inr (.inr (.inr (.inl h)))) λh=> .inr (.inr (.inr (.inr (.inl h))))) λh=> .inr (.inr (.inr (.inr (.inr (.inl h)))))) λh=> .inr (.inr (.inr (.inr (.inr (.inr (.inl h))))))) λh=> .inr (.inr (.inr (.inr (.inr (.inr (.inr h))))))
set_option maxHeartbeats 4000000 in
theorem AO{C:Cx}(G:Gd C){A:Fb}(hA:∀env,Rm 10 (A.deeper env))(hroom:A.depth<recursionLimit){s:Shared}(old:∀b o,C.h0.get? b=EU o->s.heap.get? b=EU o)(szle:C.h0.objs.size≤s.heap.objs.size)(hg:s.gens= #[])(hos:s.os=C.os)
 {lsc:Addr} {scr:List Int} {its:Array Value} (pl:C.h0.IsList lsc its) (rr:VRs C.h0 (scr.map .i) its.toList) (hz:scr.length≤63) {Qv:Value->Shared->Prop}
 (hq:∀s',(∀b o,C.h0.get? b=EU o->s'.heap.get? b=EU o)->s'.gens= #[]->s'.os=C.os->Qv (.bool true) s'):E4 (Fa pgm C.w) A (call (.ref 1010) [.ref lsc]) Qv NoE s:=by
 refine am (C4 G) λv o ho hd=>?_;have hcd:C.h0.CodeRec (.ref 1009) "law" :=G.says.code (t:=1616) s!"k";refine GC (codeAny_call_cells (fd:=fdL v) (body:=cu (top 35)) (binds:=[(EW "script",.ref lsc)]) hroom (old _ _ ho) hd (G.lim.keeps old) (hcd.keeps old) rfl s!"k" rfl ?_ (λs₁ IC=>?_) s!"2" s!"2" s!"2")
 ·intro x hx;rw[FX.mp hx];exact .inl s!"k"
 generalize hL:s.heap.objs.size=L at IC⊢;have W:LawC (XL C (A.deeper (callEnvC (fdL v) L 1010)) v L) L 0:=yc G (hA _);obtain ⟨IC0,cell,apart,above⟩:=IC;obtain ⟨⟨h₁,tk,e₁⟩,ns,keep,fresh⟩:=IC0;have old₁:∀b o,C.h0.get? b=EU o->s₁.heap.get? b=EU o:=λb o e=>keep b o (old b o e)
 have hcm:bindC (callEnvC (fdL v) L 1010).kindOf [(EW "script",GU lsc)] (λ_=>none)=λ_=>none:=by
  unfold bindC;rw[if_pos s!"k"];rfl
 have hbm:bindL (callEnvC (fdL v) L 1010).kindOf [(EW "script",GU lsc)] (λ_=>none)=λy=>if y=EW "script" then EU (GU lsc) else none:=by
  unfold bindL;rw[if_pos s!"k"];rfl
 rw[hcm] at cell;rw[hbm] at ns
 have cells:∀b,L<b->b≤L+8->s₁.heap.IsCell b none:=λb h1 h2=>by
  rcases yU h1 h2 with e|e|e|e|e|e|e|e<;>subst e
  ·exact cell _ _ W.c_things.2.1
  ·exact cell _ _ W.c_told.2.1
  ·exact cell _ _ W.c_y.2.1
  ·exact cell _ _ W.c_turn.2.1
  ·exact cell _ _ W.c_words.2.1
  ·exact cell _ _ W.c_came.2.1
  ·exact cell _ _ W.c_left.2.1
  ·exact cell _ _ W.c_lexers.2.1
 have IFs:IF (XL C (A.deeper (callEnvC (fdL v) L 1010)) v L) (λ_=>none) ⟨σL L,lo1 (top 35) [("script",.r lsc)]⟩ s₁:=by
  refine ⟨⟨old₁,λa m ha=>?_,by rw[e₁];exact hg,by rw[e₁];exact hos⟩,?_,λ_ _ _=>rfl,λx u hx=>?_⟩
  ·have ha:(if a=L then EU (MO.fr (lo1 (top 35) [("script",.r lsc)])) else (σL L a).or none)=EU m:=ha;by_cases e:a=L
   ·rw[if_pos e] at ha;cases ha;clear W cell apart above fresh hcm hbm cells ha;subst e;refine ⟨by rw[←hL];exact szle,_,ns,λx u hx=>?_⟩;refine xa2 (xB hx) λ_ _ hu=>?_;rw[List.lookup_cons] at hu
    cases hb:x==EW "script" with
    |true=>
     rw[hb] at hu;clear hx;cases hu;rw[beq_iff_eq.mp hb];exact (af _ (if_pos rfl) (bO ..))
    |false=>rw[hb] at hu;cases hu
   ·rw[if_neg e] at ha
    cases hs:σL L a with
    |none=>rw[hs] at ha;cases ha
    |some m'=>
     rw[hs] at ha;cases ha;refine xa1 (B0 hs) λz1 z2=>?_;clear ha hs;subst z1;refine xa1 z2 λh1 h2=>?_;clear z2;exact ⟨EY (by rw[←hL];exact szle) (Fu h1),cells a h1 h2⟩
  ·show σL L L=none;exact if_neg λh=>FC _ h.1
  ·refine xa2 (xB hx) λh1 h2 _=>?_;exact ⟨h1,h2⟩
 refine FE (zU W pl rr hz (λ_=>none) s₁ IFs) (λf s' pp=>?_) λ_ _ x=>x.elim;obtain ⟨fl,st',rf,I',k',q⟩:=pp;subst q;refine ad rf λu z1 ru=>?_;clear rf;subst z1;cases (show u= .bool true from ru);exact hq s' I'.inv.old I'.inv.gens I'.inv.os
theorem wL{d:WData}(h:WShape.has [] d (.list .int)=true):∃ds,d= .list ds∧∀x∈ds,∃n,x= .int n:=
 (hasW_list h).imp λ_ h=>⟨h.1,λx hx=>hasW_int (hasItemsW_at h.2 x hx)⟩
theorem A4{ds:List WData}(h:WTm.holds [] (Fm.pre) {args:=[.list ds]}=true):ds.length≤63:=by
 have h:WTm.holds [] (.and (.not (.lit (.bool (decide ((63:Int)<(ds.length:Int)))))) (.lit (.bool true))) {args:=[.list ds]}=true:=h;generalize hb:decide ((63:Int)<(ds.length:Int))=b at h
 cases b with
 |false=>exact GN.mp (Int.not_lt.mp (of_decide_eq_false hb))
 |true=>exact Bool.noConfusion ((show WTm.holds [] (.and (.not (.lit (.bool true))) (.lit (.bool true))) {args:=[.list ds]}=false by kernel_rfl).symm.trans h)
theorem Am{h:Heap}{a:Addr}{m m':Str->Option Value}(x:h.Ns a m)(y:h.Ns a m')(n:Str):m n=m' n:=by
 refine iu x λo es ep ho hd _ e=>?_;clear x;refine iu y λo' es' ep' ho' hd' _ e'=>?_;clear y;rw[ho] at ho';cases ho';rw[hd] at hd';cases hd';rw[←e n,←e' n]
theorem AT(P:F1):du (pz ((K P).lookup 3)) (EW "law")=EU (.ref 1010):=s!"k"
theorem yX(args:List WData):Fm.row.toRowW.claim.post args (.bool true) args=true:=s!"k"
theorem walk:WalkO q loose (λ_ _=>True) Says Fm.row.toRowW sZ [] (λf vs=>PySem.call f vs):=by
 intro w s₀ s₁ mg mb Gr S a o pm cd doc dV kV ho hod hcode hdf hmg hgens args vals as hpre hlay hrd hwell has;clear hlay hwell has hcode hod hdf ho
 have ea:a=1010:=by
  have n3:s₁.heap.Ns 3 (du (pz ((K w.params).lookup 3))):=g7 S s!"k" (s3 _);have:=Am Gr.T.g n3 (EW "law");rw[show mg (EW "law")=EU (.ref a) from hmg,AT] at this;clear hmg;cases this;rfl
 clear hmg;subst ea;refine xa1 (pre_splitW hpre) λha hp=>?_;refine am (hasAllW_cons (R:=[]) (e:= .list .int) (es:=[]) ha) λd r z1 z2=>?_;subst z1;refine xa1 z2 λhd hr=>?_;clear z2;cases hasAllW_nil (R:=[]) hr;refine ad (wL hd) λds z1 hi=>?_;clear hd hpre ha;subst z1;have hz:ds.length≤63:=A4 hp;have hrd:ReadsAllW [] (classAt s₀.heap) s₁.heap vals [.list ds] as:=hrd
 cases hrd with
 |cons r1 r2=>
 cases r2
 cases r1 with
 | @list lsc o vs n _ as' hlo hlc hld hrs=>
 refine ad (mU hrs hi) λscr rr hl=>?_;refine aV (BD _ s₁.heap rfl (ie2 _ _ hlo)) λh0 same szle last=>?_;have up:∀b o,s₁.heap.get? b=EU o->h0.get? b=EU o:=λb o e=>(same b).trans e;have dn:∀b o,h0.get? b=EU o->s₁.heap.get? b=EU o:=λb o e=>(same b).symm.trans e;have G:Gd ⟨w,h0,s₁.os,last⟩:=⟨lK w _ _ S up,Gr.T.nolimit.keeps up⟩
 have pl:h0.IsList lsc vs:=(cj _ (up _ _ hlo) hlc n hld)
 have rr':VRs h0 (scr.map .i) vs.toList:=rr.keep λb o e _=>up b o e;show E4 (Fa pgm w) callerA (call (.ref 1010) [.ref lsc]) _ _ s₁;refine FE (AO (C:=⟨w,h0,s₁.os,last⟩) G (A:=callerA) (λenv=>⟨rfl,by show 1+300+1+4*10+1<1000;decide,by show 4+3+16*10+16<9900;decide⟩) (by show 1+300<1000;decide) dn szle hgens rfl pl rr' (by exact EY (E6 hl) hz)
  (Qv:=λv s'=>GoodWG Fm.row.toRowW.claim (classAt s₀.heap) (ExcName.means s₀.heap) [.list ds] s₁ (.ok (.ret v)) s') (λs' old g os=>?_)) (λ_ _ x=>x) λ_ _ x=>x.elim
 exact (ia3 (.inl ⟨_,.bool true,[],rfl,λ_=>rfl,.bool true,yX _,λ_=>⟨.nil,λa ha=>by cases ha⟩⟩) (.of_keep λb o e=>old b o (up b o e)) os (.of_eq g))
theorem final:Fm.Holds:=head walk
end
end
end
end Mine.Internal
theorem PySem.Challenge.cw_il0198_01_holds : PySem.Challenge.rw_il0198_01.Holds :=
  Mine.Internal.final
