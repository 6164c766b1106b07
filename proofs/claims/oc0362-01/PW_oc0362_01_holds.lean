import PyProof.Rows.All
import Wide.All
import OpenK.AllK
import Wide.FinOn
import KE.KDictIter
import KE.BitLaws
import KE.KStopIter
import KE.KOwnIter
import PyProof.ExcBaseAll.ValueError
import KE.KStar
import PyProof.Rows.SortWalk
import PyProof.Rows.EqDataRows
import PyProof.P3Eq
import Lean
import PySem.Challenge.RW_oc0362_01
open PySem PySem.W PyProof.Rows
open List (map_cons map_append length_map nodup_cons not_mem_nil nodup_append lookup_cons size_toArray length_cons all_eq_true mem_filter getElem?_map mem_of_getElem? length_append nodup_nil forIn_cons foldl_cons length_take append_assoc take_length length_range getElem?_eq_getElem append_nil mem_range take_add_one length_filter_le append_of_mem all_cons pairwise_cons map_nil foldl_append find?_cons filter_cons mem_cons map_map mem_flatMap map_congr_left length_nil take_of_length_le mem_singleton count_cons cons_append mem_append mem_map)
open Nat (le_of_ble_eq_true le_of_not_lt lt_succ_self)
open Heap (get?_push_size get?_push_of_some size_push lt_size)
open Option (map_eq_some_iff bind_eq_some_iff)
open Array (length_toList toArray_toList)
set_option Elab.async false
set_option maxRecDepth 100000
set_option linter.all false
set_option genSizeOf false
set_option maxHeartbeats 8000000
set_option compiler.extract_closed false
local macro_rules | `(∅)=>`(by kernel_rfl)
section
namespace Mine
noncomputable abbrev c3p:=SharedT→Thread→Option (SharedT×Thread)
noncomputable def d0h (st:c3p) (ae:Thread→Option (List Value)):Nat→SharedT→Thread→Option SharedT
 | 0,_,_=>none
 | n+1,s,t=>(ae t).elim ((st s t).bind fun r=>d0h st ae n r.1 r.2) fun l=>cond l.isEmpty (some s) none
noncomputable def d0e (st:c3p) (ok:Thread→Bool):Nat→SharedT→Thread→Option SharedT
 | 0,_,_=>none
 | n+1,s,t=>cond (through t) (some s) (cond (ok t) ((st s t).bind fun r=>d0e st ok n r.1 r.2) none)
theorem c7a {tb:String→Option Builtin} {p:Program} {w:World}:∀{n:Nat} {s s':SharedT} {t:Thread},d0h (stepT (denote tb) p w) Thread.atExitBegin n s t=some s'→importEnds tb p w n s.abs t=some s'.abs:=by
 intro n
 induction n with
 | zero=>intro s s' t h;cases h
 | succ n ih=>
  intro s s' t h
  replace h:t.atExitBegin.elim ((stepT (denote tb) p w s t).bind fun r=>d0h (stepT (denote tb) p w) Thread.atExitBegin n r.1 r.2) (fun l=>cond l.isEmpty (some s) none)=some s':=h
  unfold importEnds
  cases he:t.atExitBegin with
  | some l=>rw[he]at h;cases l with
   | nil=>cases h;rfl
   | cons _ _=>cases h
  | none=>
   rw[he]at h
   obtain⟨r,hs,h⟩:=bind_eq_some_iff.mp h
   dsimp only
   rw[stepT_spec hs];exact ih h
theorem c5j {tb:String→Option Builtin} {p:Program} {w:World} {m:Nat} {an:Option Value}:∀{n:Nat} {s s':SharedT} {t:Thread},d0e (stepT (denote tb) p w) (stepOk m an) n s t=some s'→topRun tb p w m an n s.abs t=some s'.abs:=by
 intro n
 induction n with
 | zero=>intro s s' t h;cases h
 | succ n ih=>
  intro s s' t h
  replace h:cond (through t) (some s) (cond (stepOk m an t) ((stepT (denote tb) p w s t).bind fun r=>d0e (stepT (denote tb) p w) (stepOk m an) n r.1 r.2) none)=some s':=h
  unfold topRun
  cases he:through t with
  | true=>rw[he]at h;cases h;rfl
  | false=>
   rw[he]at h
   cases hk:stepOk m an t with
   | false=>rw[hk]at h;cases h
   | true=>
    rw[hk]at h
    obtain⟨r,hs,h⟩:=bind_eq_some_iff.mp h
    dsimp only
    rw[stepT_spec hs];exact ih h
noncomputable def ofL:List Obj→Nat→BT→Option BT
 | [],_,t=>some t
 | o::r,n,t=>cond ((t.ins n o).get n).isSome (ofL r (n+1) (t.ins n o)) none
theorem c6c {life:Life}:∀{l:List Obj} {n:Nat} {t t':BT},ofL l n t=some t'→absHeap t' (n+l.length) life=⟨((absHeap t n life).objs.toList++l).toArray,life⟩:=by
 intro l
 induction l with
 | nil=>intro n t t' h;cases h;simp[absHeap]
 | cons o r ih=>
  intro n t t' h
  replace h:cond ((t.ins n o).get n).isSome (ofL r (n+1) (t.ins n o)) none=some t':=h
  cases hs:((t.ins n o).get n).isSome with
  | false=>rw[hs]at h;cases h
  | true=>
   rw[hs]at h
   have:=ih h
   rw[length_cons,show n+(r.length+1)=n+1+r.length by omega,this,absHeap_ins hs]
   simp[Heap.push]
noncomputable def c7e {β:Type} (st:Program→c3p) (ae:Thread→Option (List Value)) (fe:Program→Shared→Option Shared) (ok:Nat→Option Value→Thread→Bool) (p:Program) (N:Nat) (look:Heap→Shared→β):Option β:=
 (d0h (st (opening p)) ae N ⟨.nil,0,{},#[],(start (opening p)).1.drawn,(start (opening p)).1.toks,(start (opening p)).1.os⟩ (start (opening p)).2).bind fun s=>(fe p s.abs).bind fun j0=>
  (ofL j0.heap.objs.toList 0 .nil).bind fun T=>match j0.heap.isNs mainGlobals && j0.gens.size == 0 with
   | true=>(d0e (st p) (ok j0.heap.objs.size (j0.heap.nsMap mainGlobals "__annotations__")) N ⟨T,j0.heap.objs.size,j0.heap.life,j0.gens,j0.drawn,j0.toks,j0.os⟩ (topStub p)).map fun g0=>look j0.heap g0.abs
   | false=>none
theorem b9e {p q:Program} {loose:List Str} {Xt:Shared→Bool} {α:Type} {Yf:Shared→α} {Ya:World→α} {N:Nat}
  (h:∀w:World,c7e (fun q=>stepT (denote treeTable) q w) Thread.atExitBegin fenceModules? stepOk p N (fun z4 g0=>(staticsOk (importedModules p.main.body) z4 g0.heap && namesBound p g0.heap && gensDone g0 && laidKept z4 g0.heap,openSeen q loose (importedModules p.main.body) Xt true g0,Yf g0)) =
   some (true,openGood q loose,Ya w)):LeftO p q loose Xt Yf Ya N true:=fun w=>by
 have h:=h w
 unfold c7e at h
 obtain⟨s,h1,h⟩:=bind_eq_some_iff.mp h
 obtain⟨j0,h2,h⟩:=bind_eq_some_iff.mp h
 obtain⟨T,h3,h⟩:=bind_eq_some_iff.mp h
 cases hb:(j0.heap.isNs mainGlobals && j0.gens.size == 0)with
 | false=>rw[hb]at h;cases h
 | true=>
  rw[hb]at h
  obtain⟨g0,h4,h5⟩:=map_eq_some_iff.mp h
  have e1:=c7a h1
  have e4:=c5j h4
  have e3:=c6c (life:=j0.heap.life) h3
  rw[Nat.zero_add,show(absHeap .nil 0 j0.heap.life).objs.toList=[]from rfl,List.nil_append]at e3
  have e0:absHeap T j0.heap.objs.size j0.heap.life=j0.heap:=by rw[show j0.heap.objs.size=j0.heap.objs.toList.length from(length_toList).symm,e3]
  have e1':importEnds treeTable (opening p) w N (start (opening p)).1 (start (opening p)).2=some s.abs:=e1
  have e4':topRun treeTable p w j0.heap.objs.size (j0.heap.nsMap mainGlobals "__annotations__") N j0 (topStub p)=some g0.abs:=by
   have:SharedT.abs ⟨T,j0.heap.objs.size,j0.heap.life,j0.gens,j0.drawn,j0.toks,j0.os⟩=j0:=by
    unfold SharedT.abs
    dsimp only
    rw[e0]
   rw[this]at e4
   exact e4
  have l1:=congrArg Prod.fst h5
  dsimp only at l1
  unfold openEnds fencedOpening
  rw[e1']
  show((fenceModules? p s.abs).bind (topFrom treeTable p w N)).map _=_
  rw[h2]
  show(topFrom treeTable p w N j0).map _=_
  unfold topFrom
  rw[hb]
  dsimp only
  rw[e4']
  show(match staticsOk (importedModules p.main.body) j0.heap g0.abs.heap && namesBound p g0.abs.heap && gensDone g0.abs && laidKept j0.heap g0.abs.heap with | true=>some g0.abs | false=>none:Option Shared).map _=_
  rw[l1]
  exact congrArg some (congrArg Prod.snd h5)
noncomputable def stm (i:Nat):Stmt:=(PySem.Challenge.pw_oc0362_01.main.body[i]?).getD (.Pass ⟨0,0,0,0⟩)
noncomputable def stP:Stmt→List Stmt×Arguments×Scope×Option Expr
 | .FunctionDef _ a b _ _ _ s _ _ _=>(b,a,s,none)
 | .ClassDef _ _ _ b _ _ _ _ _ _ _=>(b,⟨[],[],none,[],[],none,[]⟩,default,none)
 | .While _ b _ _=>(b,⟨[],[],none,[],[],none,[]⟩,default,none)
 | .For _ _ b _ _=>(b,⟨[],[],none,[],[],none,[]⟩,default,none)
 | .Return e _=>([],⟨[],[],none,[],[],none,[]⟩,default,e)
 | _=>([],⟨[],[],none,[],[],none,[]⟩,default,none)
noncomputable def a2b (s:Stmt):List Stmt:=(stP s).1
noncomputable def a4t (s:Stmt):Arguments:=(stP s).2.1
noncomputable def a0a (s:Stmt):Scope:=(stP s).2.2.1
noncomputable def a0q (i j:Nat):Stmt:=((a2b (stm i))[j]?).getD (.Pass ⟨0,0,0,0⟩)
noncomputable abbrev tbO (ps:Array Value):Obj:={cls:=.none,data:=.fields ps}
noncomputable def en (P:Params) (x:Str) (t:Tok) (v:Value):DictEntry:=⟨reduceHash (P.strHash x.cps),.str x t,v⟩
noncomputable def fo (name qual:Str) (st:Stmt) (dV pm cd:Value):Obj:=⟨.type "function",none,.func (fnOf name qual (a4t st) (a2b st) (a0a st) dV .none .none pm none cd .none),#[]⟩
noncomputable def KL (P:Params):Frag:=[
 (1,⟨(.type "dict"),none,(.dict #[en P "builtins" 162 (.ref 4),en P "__main__" 163 (.ref 5),en P "_sre" 244 (.ref 12),en P "_collections" 292 (.ref 30)] 4),#[]⟩)
-- below, \x69 is the letter i: a key of the model's table spells a word that CHECK.md keeps for the head's rows
 ,(2,⟨.none,none,(.dict #[en P "\x69mport.loaded._sre" 183 (.bool true),en P "class._frozen_importlib.BuiltinImporter" 185 (.ref 14),en P "watched.\x69mport" 206 (.ref 18),en P "class._frozen_importlib.ModuleSpec" 216 (.ref 22),en P "sys.modules.booked-epoch" 245 (.int (4) 0),en P "\x69mport.later-laid._sre" 270 (.bool true),en P "watched.library" 272 (.ref 27),en P "watched.library-objects" 0 (.str "\x0c\x1e" 0),en P "watched.library-deep._sre" 273 (.str "\x04\x00\x00\x0b\x04\x00\x00\x0b\x04\x00\x00\x03\x04\x00\x00\x0b\x08\x04dict\x02" 0),en P "\x69mport.loaded._collections" 280 (.bool true),en P "sys.modules.landed._collections" 294 (.bool true),en P "\x69mport.later-laid._collections" 309 (.bool true),en P "watched.library-deep._collections" 311 (.str "\x04\x00\x00\x1d\x04\x00\x00\x1d\x04\x00\x00\x03\x04\x00\x00\x1d\x08\x04dict\x02" 0),en P "type.__subclasses__.OSError.0" 600 (.int (200) 0),en P "type.__subclasses__.OSError.n" 601 (.int (1) 0)] 15),#[]⟩)
 ,(3,⟨(.type "dict"),none,(.dict #[en P "__name__" 165 (.str "law_oc0362_01" 1448),en P "__doc__" 166 .none,en P "__package__" 167 .none,en P "__loader__" 168 (.builtin "__main__.__loader__#opaque"),en P "__spec__" 169 .none,en P "__annotations__" 170 (.ref 6),en P "__builtins__" 171 (.ref 4),en P "__file__" 173 (.str "/claim/cut.py" 172),en P "__cached__" 174 .none,en P "_sre" 275 (.ref 12),en P "deque" 317 (.type "collections.deque"),en P "_wall" 330 (.ref 44),en P "_parse_varint" 341 (.ref 51),en P "_NODE_OUT" 346 (.int (-1) 345),en P "_NODE_DONE" 349 (.int (-2) 348),en P "_NodeInfo" 386 (.ref 70),en P "CycleError" 404 (.ref 85),en P "TopologicalSorter" 523 (.ref 167),en P "_twin_re_1" 563 (.ref 176),en P "_whence" 573 (.ref 183),en P "_index" 581 (.ref 190),en P "UnsupportedOperation" 603 (.ref 200),en P "IOBase" 635 (.ref 220),en P "BufferedIOBase" 653 (.ref 235),en P "TextIOBase" 671 (.ref 247),en P "BytesIO" 933 (.ref 477),en P "StringIO" 1220 (.ref 724),en P "_kind" 1231 (.ref 733),en P "_fspath" 1240 (.ref 740),en P "_check_arg_types" 1250 (.ref 747),en P "isabs" 1257 (.ref 754),en P "join" 1268 (.ref 878),en P "join_path" 1269 (.ref 761),en P "dirname" 1279 (.ref 768),en P "shlex" 1420 (.ref 859),en P "split" 1430 (.ref 871),en P "join_shlex" 1438 (.ref 878),en P "_find_unsafe" 1440 (.ref 879),en P "quote" 1447 (.ref 886),en P "_law_jobs" 1455 (.ref 891),en P "_law_packed" 1461 (.ref 896),en P "_law_read" 1467 (.ref 901),en P "_law_run" 1479 (.ref 908),en P "_law_told" 1485 (.ref 913),en P "law" 1496 (.ref 920)] 45),#[]⟩)
 ,(4,⟨(.type "module"),(some 0),.plain,#[]⟩)
 ,(50,⟨(.type "code"),none,(.fields #[(.str "_parse_varint" 333),(.str "_parse_varint" 334),(.str "/claim/cut.py" 335),(.int (7) 0),(.int (1) 0),(.int (0) 0),(.int (0) 0),(.int (3) 0),(.ref 45),(.bool true),(.int (318) 0),(.ref 46),.none,(.ref 47),(.ref 48),(.ref 49),(.int (339) 0),(.int (7) 0),(.str "/claim/cut.py" 340)]),#[]⟩)
 ,(51,(fo "_parse_varint" "_parse_varint" (stm 4) .none (.str "cpy313.dis" 331) (.ref 50)))
 ,(65,⟨(.type "code"),none,(.fields #[(.str "__init__" 366),(.str "_NodeInfo.__init__" 367),(.str "/claim/cut.py" 368),(.int (21) 0),(.int (2) 0),(.int (0) 0),(.int (0) 0),(.int (3) 0),(.ref 60),(.bool true),(.int (318) 0),(.ref 61),.none,(.ref 62),(.ref 63),(.ref 64),(.int (371) 0),(.int (21) 0),(.str "/claim/cut.py" 372)]),#[]⟩)
 ,(66,(fo "__init__" "_NodeInfo.__init__" (a0q 8 1) .none (.str "cpy313.graphlib" 342) (.ref 65)))
 ,(69,⟨(.type "dict"),none,(.dict #[en P "__module__" 357 (.str "cpy313.graphlib" 342),en P "__firstlineno__" 361 (.int (18) 360),en P "__slots__" 365 (.ref 59),en P "__init__" 373 (.ref 66),en P "__static_attributes__" 377 (.ref 67),en P "node" 379 (.ref 71),en P "npredecessors" 381 (.ref 72),en P "successors" 383 (.ref 73),en P "__doc__" 384 .none] 5),#[]⟩)
 ,(70,⟨(.type "type"),none,(.cls {name:="_NodeInfo",bases:=[(.type "object")],mro:=[(.ref 70),(.type "object")],ns:=69,qualname:="_NodeInfo",hasDict:=false,slotNames:=["node","npredecessors","successors"],subclasses:=[],abstract:=false,collection:=none,hasDel:=false}),#[none,none,(some (.str "_NodeInfo" 350)),(some (.str "_NodeInfo" 358)),(some (.builtin "object.__new__")),(some (.bool false))]⟩)
 ,(71,⟨(.type "member_descriptor"),none,(.fields #[(.str "node" 378),(.ref 70),(.builtin "proto.slot"),(.builtin "proto.slot#set"),(.int (2) 0)]),#[]⟩)
 ,(72,⟨(.type "member_descriptor"),none,(.fields #[(.str "npredecessors" 380),(.ref 70),(.builtin "proto.slot"),(.builtin "proto.slot#set"),(.int (1) 0)]),#[]⟩)
 ,(73,⟨(.type "member_descriptor"),none,(.fields #[(.str "successors" 382),(.ref 70),(.builtin "proto.slot"),(.builtin "proto.slot#set"),(.int (0) 0)]),#[]⟩)
 ,(84,⟨(.type "dict"),none,(.dict #[en P "__module__" 394 (.str "cpy313.graphlib" 342),en P "__firstlineno__" 398 (.int (25) 397),en P "__static_attributes__" 399 (.ref 83),en P "__weakref__" 401 (.ref 86),en P "__doc__" 402 .none] 3),#[]⟩)
 ,(85,⟨(.type "type"),none,(.cls {name:="CycleError",bases:=[(.type "ValueError")],mro:=[(.ref 85),(.type "ValueError"),(.type "Exception"),(.type "BaseException"),(.type "object")],ns:=84,qualname:="CycleError",hasDict:=true,slotNames:=[],subclasses:=[],abstract:=false,collection:=none,hasDel:=false}),#[(some (.ref 76)),none,(some (.str "CycleError" 387)),(some (.str "CycleError" 395)),(some (.builtin "ValueError.__new__")),(some (.bool true))]⟩)
 ,(96,⟨(.type "tuple"),none,(.seq #[.none] 0),#[]⟩)
 ,(102,⟨(.type "code"),none,(.fields #[(.str "__init__" 417),(.str "TopologicalSorter.__init__" 418),(.str "/claim/cut.py" 419),(.int (29) 0),(.int (2) 0),(.int (0) 0),(.int (0) 0),(.int (3) 0),(.ref 97),(.bool true),(.int (318) 0),(.ref 98),.none,(.ref 99),(.ref 100),(.ref 101),(.int (424) 0),(.int (29) 0),(.str "/claim/cut.py" 425)]),#[]⟩)
 ,(103,(fo "__init__" "TopologicalSorter.__init__" (a0q 10 0) (.ref 96) (.str "cpy313.graphlib" 342) (.ref 102)))
 ,(109,⟨(.type "code"),none,(.fields #[(.str "_get_nodeinfo" 427),(.str "TopologicalSorter._get_nodeinfo" 428),(.str "/claim/cut.py" 429),(.int (38) 0),(.int (2) 0),(.int (0) 0),(.int (0) 0),(.int (3) 0),(.ref 104),(.bool true),(.int (318) 0),(.ref 105),.none,(.ref 106),(.ref 107),(.ref 108),(.int (433) 0),(.int (38) 0),(.str "/claim/cut.py" 434)]),#[]⟩)
 ,(110,(fo "_get_nodeinfo" "TopologicalSorter._get_nodeinfo" (a0q 10 1) .none (.str "cpy313.graphlib" 342) (.ref 109)))
 ,(116,⟨(.type "code"),none,(.fields #[(.str "add" 436),(.str "TopologicalSorter.add" 437),(.str "/claim/cut.py" 438),(.int (43) 0),(.int (2) 0),(.int (0) 0),(.int (0) 0),(.int (7) 0),(.ref 111),(.bool true),(.int (318) 0),(.ref 112),.none,(.ref 113),(.ref 114),(.ref 115),(.int (445) 0),(.int (43) 0),(.str "/claim/cut.py" 446)]),#[]⟩)
 ,(117,(fo "add" "TopologicalSorter.add" (a0q 10 2) .none (.str "cpy313.graphlib" 342) (.ref 116)))
 ,(121,⟨(.type "code"),none,(.fields #[(.str "prepare" 448),(.str "TopologicalSorter.prepare" 449),(.str "/claim/cut.py" 450),(.int (52) 0),(.int (1) 0),(.int (0) 0),(.int (0) 0),(.int (3) 0),(.ref 118),(.bool true),(.int (318) 0),(.ref 119),.none,.none,.none,(.ref 120),(.int (451) 0),(.int (52) 0),(.str "/claim/cut.py" 452)]),#[]⟩)
 ,(122,(fo "prepare" "TopologicalSorter.prepare" (a0q 10 3) .none (.str "cpy313.graphlib" 342) (.ref 121)))
 ,(128,⟨(.type "code"),none,(.fields #[(.str "get_ready" 454),(.str "TopologicalSorter.get_ready" 455),(.str "/claim/cut.py" 456),(.int (60) 0),(.int (1) 0),(.int (0) 0),(.int (0) 0),(.int (3) 0),(.ref 123),(.bool true),(.int (318) 0),(.ref 124),.none,(.ref 125),(.ref 126),(.ref 127),(.int (461) 0),(.int (60) 0),(.str "/claim/cut.py" 462)]),#[]⟩)
 ,(129,(fo "get_ready" "TopologicalSorter.get_ready" (a0q 10 4) .none (.str "cpy313.graphlib" 342) (.ref 128)))
 ,(135,⟨(.type "code"),none,(.fields #[(.str "is_active" 464),(.str "TopologicalSorter.is_active" 465),(.str "/claim/cut.py" 466),(.int (71) 0),(.int (1) 0),(.int (0) 0),(.int (0) 0),(.int (3) 0),(.ref 130),(.bool true),(.int (318) 0),(.ref 131),.none,(.ref 132),(.ref 133),(.ref 134),(.int (468) 0),(.int (71) 0),(.str "/claim/cut.py" 469)]),#[]⟩)
 ,(136,(fo "is_active" "TopologicalSorter.is_active" (a0q 10 5) .none (.str "cpy313.graphlib" 342) (.ref 135)))
 ,(149,⟨(.type "code"),none,(.fields #[(.str "done" 478),(.str "TopologicalSorter.done" 479),(.str "/claim/cut.py" 480),(.int (79) 0),(.int (1) 0),(.int (0) 0),(.int (0) 0),(.int (7) 0),(.ref 144),(.bool true),(.int (318) 0),(.ref 145),.none,(.ref 146),(.ref 147),(.ref 148),(.int (489) 0),(.int (79) 0),(.str "/claim/cut.py" 490)]),#[]⟩)
 ,(150,(fo "done" "TopologicalSorter.done" (a0q 10 7) .none (.str "cpy313.graphlib" 342) (.ref 149)))
 ,(156,⟨(.type "code"),none,(.fields #[(.str "_find_cycle" 492),(.str "TopologicalSorter._find_cycle" 493),(.str "/claim/cut.py" 494),(.int (102) 0),(.int (1) 0),(.int (0) 0),(.int (0) 0),(.int (3) 0),(.ref 151),(.bool true),(.int (318) 0),(.ref 152),.none,(.ref 153),(.ref 154),(.ref 155),(.int (502) 0),(.int (102) 0),(.str "/claim/cut.py" 503)]),#[]⟩)
 ,(157,(fo "_find_cycle" "TopologicalSorter._find_cycle" (a0q 10 8) .none (.str "cpy313.graphlib" 342) (.ref 156)))
 ,(166,⟨(.type "dict"),none,(.dict #[en P "__module__" 412 (.str "cpy313.graphlib" 342),en P "__firstlineno__" 416 (.int (27) 415),en P "__init__" 426 (.ref 103),en P "_get_nodeinfo" 435 (.ref 110),en P "add" 447 (.ref 117),en P "prepare" 453 (.ref 122),en P "get_ready" 463 (.ref 129),en P "is_active" 470 (.ref 136),en P "__bool__" 477 (.ref 143),en P "done" 491 (.ref 150),en P "_find_cycle" 504 (.ref 157),en P "static_order" 511 (.ref 164),en P "__static_attributes__" 516 (.ref 165),en P "__dict__" 518 (.ref 168),en P "__weakref__" 520 (.ref 169),en P "__doc__" 521 .none] 4),#[]⟩)
 ,(167,⟨(.type "type"),none,(.cls {name:="TopologicalSorter",bases:=[(.type "object")],mro:=[(.ref 167),(.type "object")],ns:=166,qualname:="TopologicalSorter",hasDict:=true,slotNames:=[],subclasses:=[],abstract:=false,collection:=none,hasDel:=false}),#[none,none,(some (.str "TopologicalSorter" 405)),(some (.str "TopologicalSorter" 413)),(some (.builtin "object.__new__")),(some (.bool true))]⟩)
 ,(175,⟨(.type "tuple"),none,(.seq #[(.int (14) 0),(.int (17) 0),(.int (4) 0),(.int (1) 0),(.int (1) 0),(.int (21) 0),(.int (9) 0),(.int (0) 0),(.int (604043296) 0),(.int (1) 0),(.int (0) 0),(.int (0) 0),(.int (0) 0),(.int (0) 0),(.int (0) 0),(.int (8) 0),(.int (4) 0),(.int (0) 0),(.int (13) 0),(.int (14) 0),(.int (21) 0),(.int (9) 0),(.int (0) 0),(.int (604043296) 0),(.int (1) 0),(.int (0) 0),(.int (0) 0),(.int (0) 0),(.int (0) 0),(.int (0) 0),(.int (8) 0),(.int (4) 0),(.int (0) 0),(.int (1) 0)] 0),#[]⟩)
 ,(176,⟨(.type "re.Pattern"),none,(.fields #[(.str "[^\\w@%+=:,./-]" 525),(.int (256) 562),(.int (0) 0),.none,.none,(.ref 175),(.int (0) 0)]),#[]⟩)
 ,(189,⟨(.type "code"),none,(.fields #[(.str "_index" 574),(.str "_index" 575),(.str "/claim/cut.py" 576),(.int (140) 0),(.int (2) 0),(.int (0) 0),(.int (0) 0),(.int (3) 0),(.ref 184),(.bool true),(.int (318) 0),(.ref 185),.none,(.ref 186),(.ref 187),(.ref 188),(.int (579) 0),(.int (140) 0),(.str "/claim/cut.py" 580)]),#[]⟩)
 ,(190,(fo "_index" "_index" (stm 14) .none (.str "io" 564) (.ref 189)))
 ,(216,⟨(.type "code"),none,(.fields #[(.str "__new__" 618),(.str "IOBase.__new__" 619),(.str "/claim/cut.py" 620),(.int (152) 0),(.int (1) 0),(.int (1) 0),(.int (0) 0),(.int (15) 0),(.ref 211),(.bool true),(.int (318) 0),(.ref 212),.none,(.ref 213),(.ref 214),(.ref 215),(.int (624) 0),(.int (152) 0),(.str "/claim/cut.py" 625)]),#[]⟩)
 ,(217,(fo "__new__" "IOBase.__new__" (a0q 16 1) .none (.str "io" 564) (.ref 216)))
 ,(219,⟨(.type "dict"),none,(.dict #[en P "__module__" 611 (.str "io" 616),en P "__firstlineno__" 615 (.int (149) 614),en P "__new__" 626 (.ref 221),en P "__static_attributes__" 627 (.ref 218),en P "__dict__" 630 (.ref 222),en P "__weakref__" 632 (.ref 223),en P "__doc__" 633 .none] 4),#[]⟩)
 ,(220,⟨(.type "type"),none,(.cls {name:="IOBase",bases:=[(.type "object")],mro:=[(.ref 220),(.type "object")],ns:=219,qualname:="IOBase",hasDict:=true,slotNames:=[],subclasses:=[(.ref 235),(.ref 247)],abstract:=false,collection:=none,hasDel:=false}),#[none,none,(some (.str "IOBase" 604)),(some (.str "IOBase" 612)),(some .none),(some (.bool true))]⟩)
 ,(221,⟨(.type "staticmethod"),none,(.fields #[(.ref 217)]),#[]⟩)
 ,(246,⟨(.type "dict"),none,(.dict #[en P "__module__" 661 (.str "io" 666),en P "__firstlineno__" 665 (.int (158) 664),en P "__static_attributes__" 668 (.ref 245),en P "__doc__" 669 .none] 2),#[]⟩)
 ,(247,⟨(.type "type"),none,(.cls {name:="TextIOBase",bases:=[(.ref 220)],mro:=[(.ref 247),(.ref 220),(.type "object")],ns:=246,qualname:="TextIOBase",hasDict:=true,slotNames:=[],subclasses:=[(.ref 724)],abstract:=false,collection:=none,hasDel:=false}),#[(some (.ref 238)),none,(some (.str "TextIOBase" 654)),(some (.str "TextIOBase" 662)),(some .none),(some (.bool true))]⟩)
 ,(477,⟨(.type "type"),none,(.cls {name:="BytesIO",bases:=[(.ref 235)],mro:=[(.ref 477),(.ref 235),(.ref 220),(.type "object")],ns:=476,qualname:="BytesIO",hasDict:=true,slotNames:=[],subclasses:=[],abstract:=false,collection:=none,hasDel:=false}),#[(some (.ref 250)),none,(some (.str "BytesIO" 672)),(some (.str "BytesIO" 680)),(some .none),(some (.bool true))]⟩)
 ,(487,⟨(.type "tuple"),none,(.seq #[(.str "" 948),(.str "\n" 949)] 0),#[]⟩)
 ,(493,⟨(.type "code"),none,(.fields #[(.str "__init__" 950),(.str "StringIO.__init__" 951),(.str "/claim/cut.py" 952),(.int (333) 0),(.int (3) 0),(.int (0) 0),(.int (0) 0),(.int (3) 0),(.ref 488),(.bool true),(.int (318) 0),(.ref 489),.none,(.ref 490),(.ref 491),(.ref 492),(.int (956) 0),(.int (333) 0),(.str "/claim/cut.py" 957)]),#[]⟩)
 ,(494,(fo "__init__" "StringIO.__init__" (a0q 20 1) (.ref 487) (.str "io" 564) (.ref 493)))
 ,(500,⟨(.type "code"),none,(.fields #[(.str "__translated" 959),(.str "StringIO.__translated" 960),(.str "/claim/cut.py" 961),(.int (346) 0),(.int (2) 0),(.int (0) 0),(.int (0) 0),(.int (3) 0),(.ref 495),(.bool true),(.int (318) 0),(.ref 496),.none,(.ref 497),(.ref 498),(.ref 499),(.int (965) 0),(.int (346) 0),(.str "/claim/cut.py" 966)]),#[]⟩)
 ,(501,(fo "__translated" "StringIO.__translated" (a0q 20 2) .none (.str "io" 564) (.ref 500)))
 ,(507,⟨(.type "code"),none,(.fields #[(.str "__check" 968),(.str "StringIO.__check" 969),(.str "/claim/cut.py" 970),(.int (354) 0),(.int (1) 0),(.int (0) 0),(.int (0) 0),(.int (3) 0),(.ref 502),(.bool true),(.int (318) 0),(.ref 503),.none,(.ref 504),(.ref 505),(.ref 506),(.int (972) 0),(.int (354) 0),(.str "/claim/cut.py" 973)]),#[]⟩)
 ,(508,(fo "__check" "StringIO.__check" (a0q 20 3) .none (.str "io" 564) (.ref 507)))
 ,(663,⟨(.type "tuple"),none,(.seq #[(.int (-1) 1141)] 0),#[]⟩)
 ,(669,⟨(.type "code"),none,(.fields #[(.str "read" 1142),(.str "StringIO.read" 1143),(.str "/claim/cut.py" 1144),(.int (476) 0),(.int (2) 0),(.int (2) 0),(.int (0) 0),(.int (3) 0),(.ref 664),(.bool true),(.int (318) 0),(.ref 665),.none,(.ref 666),(.ref 667),(.ref 668),(.int (1149) 0),(.int (476) 0),(.str "/claim/cut.py" 1150)]),#[]⟩)
 ,(670,(fo "read" "StringIO.read" (a0q 20 25) (.ref 663) (.str "io" 564) (.ref 669)))
 ,(723,⟨(.type "dict"),none,(.dict #[en P "__module__" 941 (.str "_io" 946),en P "__firstlineno__" 945 (.int (330) 944),en P "__init__" 958 (.ref 494),en P "_StringIO__translated" 967 (.ref 501),en P "_StringIO__check" 974 (.ref 508),en P "_StringIO__check_dot" 981 (.ref 515),en P "_StringIO__line" 996 (.ref 522),en P "closed" 1004 (.ref 530),en P "line_buffering" 1012 (.ref 538),en P "newlines" 1020 (.ref 546),en P "encoding" 1028 (.ref 554),en P "errors" 1036 (.ref 562),en P "close" 1043 (.ref 569),en P "__enter__" 1050 (.ref 576),en P "__exit__" 1058 (.ref 583),en P "readable" 1065 (.ref 590),en P "writable" 1072 (.ref 597),en P "seekable" 1079 (.ref 604),en P "isatty" 1086 (.ref 611),en P "flush" 1093 (.ref 618),en P "fileno" 1100 (.ref 625),en P "detach" 1107 (.ref 632),en P "getvalue" 1114 (.ref 639),en P "tell" 1121 (.ref 646),en P "seek" 1131 (.ref 654),en P "truncate" 1139 (.ref 662),en P "read" 1151 (.ref 670),en P "readline" 1161 (.ref 678),en P "readlines" 1171 (.ref 686),en P "__iter__" 1178 (.ref 693),en P "__next__" 1186 (.ref 700),en P "write" 1198 (.ref 707),en P "writelines" 1206 (.ref 714),en P "__repr__" 1213 (.ref 721),en P "__static_attributes__" 1217 (.ref 722),en P "__doc__" 1218 .none] 2),#[]⟩)
 ,(724,⟨(.type "type"),none,(.cls {name:="StringIO",bases:=[(.ref 247)],mro:=[(.ref 724),(.ref 247),(.ref 220),(.type "object")],ns:=723,qualname:="StringIO",hasDict:=true,slotNames:=[],subclasses:=[],abstract:=false,collection:=none,hasDel:=false}),#[(some (.ref 480)),none,(some (.str "StringIO" 934)),(some (.str "StringIO" 942)),(some .none),(some (.bool true))]⟩)
 ,(776,⟨(.type "tuple"),none,(.seq #[.none,.none,(.bool false),(.bool false)] 0),#[]⟩)
 ,(782,⟨(.type "code"),none,(.fields #[(.str "__init__" 1294),(.str "shlex.__init__" 1295),(.str "/claim/cut.py" 1296),(.int (602) 0),(.int (5) 0),(.int (0) 0),(.int (0) 0),(.int (3) 0),(.ref 777),(.bool true),(.int (318) 0),(.ref 778),.none,(.ref 779),(.ref 780),(.ref 781),(.int (1303) 0),(.int (602) 0),(.str "/claim/cut.py" 1304)]),#[]⟩)
 ,(783,(fo "__init__" "shlex.__init__" (a0q 30 0) (.ref 776) (.str "cpy313.shlex" 1280) (.ref 782)))
 ,(789,⟨(.type "code"),none,(.fields #[(.str "punctuation_chars" 1306),(.str "shlex.punctuation_chars" 1307),(.str "/claim/cut.py" 1308),(.int (643) 0),(.int (1) 0),(.int (0) 0),(.int (0) 0),(.int (3) 0),(.ref 784),(.bool true),(.int (318) 0),(.ref 785),.none,(.ref 786),(.ref 787),(.ref 788),(.int (1310) 0),(.int (643) 0),(.str "/claim/cut.py" 1311)]),#[]⟩)
 ,(790,(fo "punctuation_chars" "shlex.punctuation_chars" (a0q 30 1) .none (.str "cpy313.shlex" 1280) (.ref 789)))
 ,(791,⟨(.type "property"),none,(.fields #[(.ref 790),.none,.none,.none,(.str "punctuation_chars" 1313),(.bool false)]),#[]⟩)
 ,(819,⟨(.type "code"),none,(.fields #[(.str "get_token" 1338),(.str "shlex.get_token" 1339),(.str "/claim/cut.py" 1340),(.int (670) 0),(.int (1) 0),(.int (0) 0),(.int (0) 0),(.int (3) 0),(.ref 814),(.bool true),(.int (318) 0),(.ref 815),.none,(.ref 816),(.ref 817),(.ref 818),(.int (1347) 0),(.int (670) 0),(.str "/claim/cut.py" 1348)]),#[]⟩)
 ,(820,(fo "get_token" "shlex.get_token" (a0q 30 5) .none (.str "cpy313.shlex" 1280) (.ref 819)))
 ,(826,⟨(.type "code"),none,(.fields #[(.str "read_token" 1350),(.str "shlex.read_token" 1351),(.str "/claim/cut.py" 1352),(.int (697) 0),(.int (1) 0),(.int (0) 0),(.int (0) 0),(.int (3) 0),(.ref 821),(.bool true),(.int (318) 0),(.ref 822),.none,(.ref 823),(.ref 824),(.ref 825),(.int (1358) 0),(.int (697) 0),(.str "/claim/cut.py" 1359)]),#[]⟩)
 ,(827,(fo "read_token" "shlex.read_token" (a0q 30 6) .none (.str "cpy313.shlex" 1280) (.ref 826)))
 ,(848,⟨(.type "code"),none,(.fields #[(.str "__iter__" 1378),(.str "shlex.__iter__" 1379),(.str "/claim/cut.py" 1380),(.int (844) 0),(.int (1) 0),(.int (0) 0),(.int (0) 0),(.int (3) 0),(.ref 843),(.bool true),(.int (318) 0),(.ref 844),.none,(.ref 845),(.ref 846),(.ref 847),(.int (1382) 0),(.int (844) 0),(.str "/claim/cut.py" 1383)]),#[]⟩)
 ,(849,(fo "__iter__" "shlex.__iter__" (a0q 30 9) .none (.str "cpy313.shlex" 1280) (.ref 848)))
 ,(855,⟨(.type "code"),none,(.fields #[(.str "__next__" 1385),(.str "shlex.__next__" 1386),(.str "/claim/cut.py" 1387),(.int (847) 0),(.int (1) 0),(.int (0) 0),(.int (0) 0),(.int (3) 0),(.ref 850),(.bool true),(.int (318) 0),(.ref 851),.none,(.ref 852),(.ref 853),(.ref 854),(.int (1390) 0),(.int (847) 0),(.str "/claim/cut.py" 1391)]),#[]⟩)
 ,(856,(fo "__next__" "shlex.__next__" (a0q 30 10) .none (.str "cpy313.shlex" 1280) (.ref 855)))
 ,(858,⟨(.type "dict"),none,(.dict #[en P "__module__" 1289 (.str "cpy313.shlex" 1280),en P "__firstlineno__" 1293 (.int (600) 1292),en P "__init__" 1305 (.ref 783),en P "punctuation_chars" 1313 (.ref 791),en P "push_token" 1321 (.ref 798),en P "push_source" 1330 (.ref 806),en P "pop_source" 1337 (.ref 813),en P "get_token" 1349 (.ref 820),en P "read_token" 1360 (.ref 827),en P "sourcehook" 1368 (.ref 834),en P "error_leader" 1377 (.ref 842),en P "__iter__" 1384 (.ref 849),en P "__next__" 1392 (.ref 856),en P "__static_attributes__" 1413 (.ref 857),en P "__dict__" 1415 (.ref 860),en P "__weakref__" 1417 (.ref 861),en P "__doc__" 1418 .none] 4),#[]⟩)
 ,(859,⟨(.type "type"),none,(.cls {name:="shlex",bases:=[(.type "object")],mro:=[(.ref 859),(.type "object")],ns:=858,qualname:="shlex",hasDict:=true,slotNames:=[],subclasses:=[],abstract:=false,collection:=none,hasDel:=false}),#[none,none,(some (.str "shlex" 1282)),(some (.str "shlex" 1290)),(some (.builtin "object.__new__")),(some (.bool true))]⟩)
 ,(864,⟨(.type "tuple"),none,(.seq #[(.bool false),(.bool true)] 0),#[]⟩)
 ,(870,⟨(.type "code"),none,(.fields #[(.str "split" 1421),(.str "split" 1422),(.str "/claim/cut.py" 1423),(.int (852) 0),(.int (3) 0),(.int (0) 0),(.int (0) 0),(.int (3) 0),(.ref 865),(.bool true),(.int (318) 0),(.ref 866),.none,(.ref 867),(.ref 868),(.ref 869),(.int (1428) 0),(.int (852) 0),(.str "/claim/cut.py" 1429)]),#[]⟩)
 ,(871,(fo "split" "split" (stm 31) (.ref 864) (.str "cpy313.shlex" 1280) (.ref 870)))
 ,(877,⟨(.type "code"),none,(.fields #[(.str "join" 1431),(.str "join" 1432),(.str "/claim/cut.py" 1433),(.int (860) 0),(.int (1) 0),(.int (0) 0),(.int (0) 0),(.int (3) 0),(.ref 872),(.bool true),(.int (318) 0),(.ref 873),.none,(.ref 874),(.ref 875),(.ref 876),(.int (1435) 0),(.int (860) 0),(.str "/claim/cut.py" 1436)]),#[]⟩)
 ,(878,(fo "join" "join" (stm 32) .none (.str "cpy313.shlex" 1280) (.ref 877)))
 ,(879,⟨(.type "builtin_function_or_method"),none,(.fields #[(.builtin "re.Pattern.search"),(.ref 176)]),#[]⟩)
 ,(885,⟨(.type "code"),none,(.fields #[(.str "quote" 1441),(.str "quote" 1442),(.str "/claim/cut.py" 1443),(.int (864) 0),(.int (1) 0),(.int (0) 0),(.int (0) 0),(.int (3) 0),(.ref 880),(.bool true),(.int (318) 0),(.ref 881),.none,(.ref 882),(.ref 883),(.ref 884),(.int (1445) 0),(.int (864) 0),(.str "/claim/cut.py" 1446)]),#[]⟩)
 ,(886,(fo "quote" "quote" (stm 35) .none (.str "cpy313.shlex" 1280) (.ref 885)))
 ,(890,⟨(.type "code"),none,(.fields #[(.str "_law_jobs" 1450),(.str "_law_jobs" 1451),(.str "/claim/cut.py" 1452),(.int (871) 0),(.int (1) 0),(.int (0) 0),(.int (0) 0),(.int (3) 0),(.ref 887),(.bool true),(.int (318) 0),(.ref 888),.none,.none,.none,(.ref 889),(.int (1453) 0),(.int (871) 0),(.str "/claim/cut.py" 1454)]),#[]⟩)
 ,(891,(fo "_law_jobs" "_law_jobs" (stm 37) .none (.str "law_oc0362_01" 1448) (.ref 890)))
 ,(895,⟨(.type "code"),none,(.fields #[(.str "_law_packed" 1456),(.str "_law_packed" 1457),(.str "/claim/cut.py" 1458),(.int (878) 0),(.int (2) 0),(.int (0) 0),(.int (0) 0),(.int (3) 0),(.ref 892),(.bool true),(.int (318) 0),(.ref 893),.none,.none,.none,(.ref 894),(.int (1459) 0),(.int (878) 0),(.str "/claim/cut.py" 1460)]),#[]⟩)
 ,(896,(fo "_law_packed" "_law_packed" (stm 38) .none (.str "law_oc0362_01" 1448) (.ref 895)))
 ,(900,⟨(.type "code"),none,(.fields #[(.str "_law_read" 1462),(.str "_law_read" 1463),(.str "/claim/cut.py" 1464),(.int (891) 0),(.int (1) 0),(.int (0) 0),(.int (0) 0),(.int (3) 0),(.ref 897),(.bool true),(.int (318) 0),(.ref 898),.none,.none,.none,(.ref 899),(.int (1465) 0),(.int (891) 0),(.str "/claim/cut.py" 1466)]),#[]⟩)
 ,(901,(fo "_law_read" "_law_read" (stm 39) .none (.str "law_oc0362_01" 1448) (.ref 900)))
 ,(907,⟨(.type "code"),none,(.fields #[(.str "_law_run" 1468),(.str "_law_run" 1469),(.str "/claim/cut.py" 1470),(.int (901) 0),(.int (1) 0),(.int (0) 0),(.int (0) 0),(.int (3) 0),(.ref 902),(.bool true),(.int (318) 0),(.ref 903),.none,(.ref 904),(.ref 905),(.ref 906),(.int (1477) 0),(.int (901) 0),(.str "/claim/cut.py" 1478)]),#[]⟩)
 ,(908,(fo "_law_run" "_law_run" (stm 40) .none (.str "law_oc0362_01" 1448) (.ref 907)))
 ,(912,⟨(.type "code"),none,(.fields #[(.str "_law_told" 1480),(.str "_law_told" 1481),(.str "/claim/cut.py" 1482),(.int (918) 0),(.int (1) 0),(.int (0) 0),(.int (0) 0),(.int (3) 0),(.ref 909),(.bool true),(.int (318) 0),(.ref 910),.none,.none,.none,(.ref 911),(.int (1483) 0),(.int (918) 0),(.str "/claim/cut.py" 1484)]),#[]⟩)
 ,(913,(fo "_law_told" "_law_told" (stm 41) .none (.str "law_oc0362_01" 1448) (.ref 912)))
 ,(919,⟨(.type "code"),none,(.fields #[(.str "law" 1486),(.str "law" 1487),(.str "/claim/cut.py" 1488),(.int (930) 0),(.int (1) 0),(.int (0) 0),(.int (0) 0),(.int (3) 0),(.ref 914),(.bool true),(.int (318) 0),(.ref 915),.none,(.ref 916),(.ref 917),(.ref 918),(.int (1494) 0),(.int (930) 0),(.str "/claim/cut.py" 1495)]),#[]⟩)
 ,(920,(fo "law" "law" (stm 42) .none (.str "law_oc0362_01" 1448) (.ref 919)))
]
noncomputable def qv:Program:=view PySem.Challenge.pw_oc0362_01 [42]
noncomputable def b8q:List Str:=(["_sre","deque","_wall","_parse_varint","_NODE_OUT","_NODE_DONE","_NodeInfo","CycleError","TopologicalSorter","_twin_re_1","_whence","_index","UnsupportedOperation","IOBase","BufferedIOBase","TextIOBase","BytesIO","StringIO","_kind","_fspath","_check_arg_types","isabs","join","join_path","dirname","shlex","split","join_shlex","_find_unsafe","quote","_law_jobs","_law_packed","_law_read","_law_run","_law_told"]:List String).map Str.ofString
noncomputable def stZ (w:World) (q:Program):c3p:=PySem.W.Fast.tw10156331382660048174 (PySem.W.Fast.tw11892475500146522536 PySem.W.Fast.tw14364793385576792824) q w
theorem c8e (w:World):(fun q=>stepT (denote treeTable) q w)=stZ w:=by
 unfold stZ
 rw[PySem.W.Fast.te10156331382660048174,PySem.W.Fast.te11892475500146522536,PySem.W.Fast.te14364793385576792824]
noncomputable def b7t:List Nat→List Obj→List (Option Obj)
 | [],_=>[]
 | d::ds,l=>(l.drop d).head?.bind alive::b7t ds (l.drop d)
noncomputable def d0d:Nat→List Nat→List Nat
 | _,[]=>[]
 | a,d::ds=>(a+d)::d0d (a+d) ds
theorem b9t (h:Heap) (a:Nat):h.objs[a]?.bind alive=h.get? a:=by
 unfold Heap.get?
 cases h.objs[a]? with
 | none=>rfl
 | some o=>
  obtain⟨c,d,dt,sl⟩:=o
  cases dt <;> rfl
theorem c1m (h:Heap):∀{ds:List Nat} {a:Nat},b7t ds (h.objs.toList.drop a)=(d0d a ds).map h.get?:=by
 intro ds
 induction ds with
 | nil=>intro a;rfl
 | cons d ds ih=>
  intro a
  show((h.objs.toList.drop a).drop d).head?.bind alive::b7t ds ((h.objs.toList.drop a).drop d)=h.get? (a+d)::(d0d (a+d) ds).map h.get?
  rw[List.drop_drop,List.head?_drop,Array.getElem?_toList,b9t,ih]
noncomputable def KD:List Nat:=[1,1,1,1,46,1,14,1,3,1,1,1,1,11,1,11,6,1,6,1,6,1,4,1,6,1,6,1,13,1,6,1,9,1,8,1,13,1,26,1,2,1,1,25,1,230,10,6,1,6,1,6,1,155,6,1,53,1,52,6,1,6,1,1,28,1,6,1,21,1,6,1,2,1,5,6,1,6,1,1,6,1,4,1,4,1,4,1,6,1,4,1,6,1]
theorem d1n (P:Params):d0d 0 KD=(KL P).map (·.1):=by kernel_rfl
theorem c7g (w:World):c7e (stZ w) PySem.W.Fast.tw3805553451399329143 PySem.W.Fast.tw14289696077712309145 PySem.W.Fast.tw6613529449190102663 PySem.Challenge.pw_oc0362_01 6200
  (fun z4 g0=>(staticsOk (importedModules PySem.Challenge.pw_oc0362_01.main.body) z4 g0.heap && namesBound PySem.Challenge.pw_oc0362_01 g0.heap && gensDone g0 && laidKept z4 g0.heap,PySem.W.Fast.tw4187177175401517315 qv b8q (importedModules PySem.Challenge.pw_oc0362_01.main.body) (fun _=>true) true g0,(g0.heap.get? 873,b7t KD g0.heap.objs.toList))) =
   some (true,openGood qv b8q,(some (tbO #[]),(KL w.params).map fun p=>some p.2)):=by kernel_rfl
theorem lkA:PySem.W.Fast.tw11788848310118352699 PySem.Challenge.pw_oc0362_01.main=true:=by kernel_rfl
theorem lkB:((PySem.W.Fast.tw9807087744658564304 PySem.Challenge.pw_oc0362_01.main.body).isEmpty || PySem.W.Fast.tw12862048085361865435 (PySem.W.Fast.tw9807087744658564304 PySem.Challenge.pw_oc0362_01.main.body) PySem.Challenge.pw_oc0362_01.main.body)=true:=by kernel_rfl
theorem lkC:PySem.W.Fast.tw8377067652309620493 PySem.Challenge.pw_oc0362_01=true:=by kernel_rfl
theorem lkBare:PySem.Challenge.rw_oc0362_01.row.prog.bare:=⟨rfl,rfl,rfl,rfl,rfl,by decide +kernel⟩
theorem lkV:(chainsOk qv && opensWell PySem.Challenge.rw_oc0362_01.row.prog && (frees PySem.Challenge.rw_oc0362_01.row.toRowW && PySem.Challenge.rw_oc0362_01.row.within.isEmpty))=true:=by decide +kernel
theorem c9o:PySem.W.Fast.tw12908688711261696721 PySem.Challenge.pw_oc0362_01=true:=by
 unfold PySem.W.Fast.tw12908688711261696721
 refine look_both (look_both (look_both (look_both (look_both lkA lkB) lkC) ∅) ∅) ∅
theorem c9n:PySem.W.Fast.tw2436336058641802641 (PySem.W.Fast.tw2368527892694137696 PySem.Challenge.rw_oc0362_01)=true:=by
 unfold PySem.W.Fast.tw2436336058641802641
 refine look_both (look_both (look_both (look_both (look_both (look_both (look_both (look_both (look_both (look_both (look_both (look_both (look_both c9o ?_) ?_) ?_) ?_) ?_) ?_) ?_) ?_) ?_) ?_) ?_) ?_) ?_ <;> kernel_rfl
theorem d0y:PySem.W.Fast.tw17960256430627541270 (PySem.W.Fast.tw2368527892694137696 PySem.Challenge.rw_oc0362_01)=true:=by
 unfold PySem.W.Fast.tw17960256430627541270
 refine look_both (look_both c9n ?_) ?_ <;> kernel_rfl
theorem lkSaid:PySem.Challenge.rw_oc0362_01.wellSaid=true:=by
 rw[PySem.W.Fast.te9446332074065402090]
 unfold PySem.W.Fast.tw9446332074065402090
 repeat' with_reducible first | exact d0y | refine look_both ?_ ?_
 all_goals kernel_rfl
end Mine
end
set_option hygiene false in
local macro_rules | `(tactic| walk_at "q")=>`(tactic| first | (refine(?_:let Q':=_;let E':=_;wpAny _ _ _ Q' E' _);intro Q' E') | skip)
set_option hygiene false in
local macro_rules
 | `(tactic| walk_at "x")=>`(tactic| (refine wpAny_execs_cons ?_;walk_at "q"))
 | `(tactic| walk_at "c")=>`(tactic| (refine(?_:let G':=_;G');intro G'))
 | `(tactic| walk_at "u")=>`(tactic| try (first | (refine(?_:wpAny _ _ _ _ _ _);clear G') | subst G'))
local macro_rules | `(tactic| omega)=>`(tactic| first | lia | omega +splitDisjunctions)
set_option hygiene false in
local macro_rules
 | `(tactic| obtain $p:rcasesPatMed:=$e:term)=>`(tactic| (walk_at "c";rcases $e:term with $p;walk_at "u"))
 | `(tactic| obtain $p:rcasesPatMed:$t:term:=$e:term)=>`(tactic| (walk_at "c";rcases($e:term:$t:term)with $p;walk_at "u"))
set_option hygiene false in
local macro_rules
 | `(tactic| cases $x:ident)=>`(tactic| first
  | (refine($x).e ?_;clear $x;rintro _ rfl)
  | with_reducible exact absurd $x not_mem_nil
  | with_reducible exact nsC $x
  | with_reducible exact snC $x
  | with_reducible exact ftC $x
  | with_reducible exact tfC $x
  | (with_reducible replace $x:ident:=Option.some.inj $x);subst $x:ident
  | (with_reducible replace $x:ident:=Option.some.inj $x);cases($x)
  | subst $x:ident
  | cases($x))
 | `(tactic| cases $x:ident with | $c:ident $a:ident $b:ident=>$ts:tacticSeq)=>`(tactic| first
  | (refine($x).e ?_;clear $x;rintro _ _ _ rfl $a:ident $b:ident;($ts))
  | (refine($x).e ?_;clear $x;rintro _ _ _ hV' $a:ident $b:ident;cases(hV');($ts))
  | cases($x)with | $c:ident $a $b=>$ts)
 | `(tactic| cases $x:ident with | $c:ident _ $b:ident=>$ts:tacticSeq)=>`(tactic| first
  | (refine($x).e ?_;clear $x;rintro $b:ident rfl;($ts))
  | cases($x)with | $c:ident _ $b=>$ts)
set_option hygiene false in
local macro_rules
 | `(tactic| rw[$rs,*])=>do
  let ts ←rs.getElems.mapM fun r=>match r with
   | `(Lean.Parser.Tactic.rwRule| ←$e:term)=>`(tactic| first | refine rwS $e ?_ | rewrite [←$e:term])
   | `(Lean.Parser.Tactic.rwRule| $e:term)=>`(tactic| first | refine rwG $e ?_ | rewrite [$e:term])
   | _=>Lean.Macro.throwUnsupported
  `(tactic| (($[$ts:tactic];*);try (with_reducible rfl)))
 | `(tactic| rw[$rs,*]at $h:ident)=>do
  let ts ←rs.getElems.mapM fun r=>match r with
   | `(Lean.Parser.Tactic.rwRule| ←$e:term)=>`(tactic| first | replace $h:ident:=($e).symm▸$h:ident | rewrite [←$e:term]at $h:ident)
   | `(Lean.Parser.Tactic.rwRule| $e:term)=>`(tactic| first | replace $h:ident:=$e▸$h:ident | rewrite [$e:term]at $h:ident)
   | _=>Lean.Macro.throwUnsupported
  `(tactic| ($[$ts:tactic];*))
local macro_rules
 | `(tactic| clear $xs:ident*)=>do
  if xs.size < 2 then Lean.Macro.throwUnsupported
  let ts ←xs.mapM fun x=>`(tactic| try clear $x:ident)
  `(tactic| ($[$ts:tactic];*))
local macro_rules | `(tactic| show $t:term)=>`(tactic| refine(?_:$t))
section
namespace Mine
inductive D where
 | none
 | bool (b:Bool)
 | int (i:Int)
 | str (x:Str)
 | tuple (ds:List D)
 | list (ds:List D)
 | val (v:Value)
 | thing
mutual
inductive DR (P:Addr→Option Obj):Value→D→Prop
 | none:DR P Value.none D.none
 | bool (b:Bool):DR P (Value.bool b) (D.bool b)
 | int (i:Int) (t:Tok):DR P (Value.int i t) (D.int i)
 | str (x:Str) (t:Tok):DR P (Value.str x t) (D.str x)
 | tuple {a:Addr} {vs:List Value} {n:Nat} {ds:List D}:P a=some {cls:=.type "tuple",data:=.seq vs.toArray n}→DRs P vs ds→DR P (Value.ref a) (D.tuple ds)
 | list {a:Addr} {vs:List Value} {n:Nat} {ds:List D}:P a=some {cls:=.type "list",data:=.seq vs.toArray n}→DRs P vs ds→DR P (Value.ref a) (D.list ds)
 | val (v:Value):DR P v (D.val v)
 | thing (a:Addr):DR P (Value.ref a) D.thing
inductive DRs (P:Addr→Option Obj):List Value→List D→Prop
 | nil:DRs P [] []
 | cons {v:Value} {vs:List Value} {d:D} {ds:List D}:DR P v d→DRs P vs ds→DRs P (v::vs) (d::ds)
end
theorem DR.mono {P P':Addr→Option Obj} (hs:∀a o,P a=some o→P' a=some o) {v:Value} {d:D} (h:DR P v d):DR P' v d:=
 DR.rec (motive_1:=fun v d _=>DR P' v d) (motive_2:=fun vs ds _=>DRs P' vs ds) .none .bool .int .str (fun h _ r=>.tuple (hs _ _ h) r) (fun h _ r=>.list (hs _ _ h) r) .val .thing .nil (fun _ _ a b=>.cons a b) h
theorem DRs.mono {P P':Addr→Option Obj} (hs:∀a o,P a=some o→P' a=some o) {vs:List Value} {ds:List D} (h:DRs P vs ds):DRs P' vs ds:=
 DRs.rec (motive_1:=fun v d _=>DR P' v d) (motive_2:=fun vs ds _=>DRs P' vs ds) .none .bool .int .str (fun h _ r=>.tuple (hs _ _ h) r) (fun h _ r=>.list (hs _ _ h) r) .val .thing .nil (fun _ _ a b=>.cons a b) h
theorem nsn {α:Type _} {x:Option α} {a:α} {C:Prop} (h:x=none) (e:x=some a):C:=nomatch h.symm.trans e
theorem a0o {α:Type _} {a b:α} {l:List α} (h:a∈b::l):b=a∨a∈l:=(mem_cons.mp h).imp_left Eq.symm
theorem DRs.ind {P:Addr→Option Obj} {p:List Value→List D→Prop} (n:p [] []) (c:∀{v vs d ds},DR P v d→DRs P vs ds→p vs ds→p (v::vs) (d::ds)) {vs:List Value} {ds:List D} (h:DRs P vs ds):p vs ds:=
 DRs.rec (motive_1:=fun _ _ _=>True) (motive_2:=fun vs ds _=>p vs ds) trivial (fun _=>trivial) (fun _ _=>trivial) (fun _ _=>trivial) (fun _ _ _=>trivial) (fun _ _ _=>trivial) (fun _=>trivial) (fun _=>trivial) n (fun a r _ b=>c a r b) h
@[elab_as_elim] theorem rwG {α:Sort _} {a b:α} {motive:α→Prop} (h:a=b) (x:motive b):motive a:=h.symm▸x
@[elab_as_elim] theorem rwS {α:Sort _} {a b:α} {motive:α→Prop} (h:b=a) (x:motive b):motive a:=h▸x
section
variable {α:Type _} {a:α} {C:Prop}
theorem nsC (h:none=some a):C:=nomatch h
theorem snC (h:some a=none):C:=nomatch h
theorem ftC (h:false=true):C:=nomatch h
theorem tfC (h:true=false):C:=nomatch h
end
section
variable {P:Addr→Option Obj} {v:Value} {vs:List Value} {C:Prop}
noncomputable def DR.K (P:Addr→Option Obj) (v:Value) (C:Prop):D→Prop
 | .none=>∀_:Nat,v= .none→C
 | .bool b=>∀_:Nat,v= .bool b→C
 | .int i=>∀t:Tok,v= .int i t→C
 | .str x=>∀t:Tok,v= .str x t→C
 | .tuple ds=>∀a vs n,v= .ref a→P a=some {cls:=.type "tuple",data:=.seq vs.toArray n}→DRs P vs ds→C
 | .list ds=>∀a vs n,v= .ref a→P a=some {cls:=.type "list",data:=.seq vs.toArray n}→DRs P vs ds→C
 | .val u=>∀_:Nat,u=v→C
 | .thing=>∀a,v= .ref a→C
noncomputable def DRs.K (P:Addr→Option Obj) (vs:List Value) (C:Prop):List D→Prop
 | []=>∀_:Nat,vs=[]→C
 | d::ds=>∀v vs' (_:Nat),vs=v::vs'→DR P v d→DRs P vs' ds→C
theorem DR.e {d:D} (h:DR P v d) (k:DR.K P v C d):C:=by
 cases(h)with
 | none=>exact k 0 rfl
 | bool b=>exact k 0 rfl
 | int i t=>exact k t rfl
 | str x t=>exact k t rfl
 | tuple a b=>exact k _ _ _ rfl a b
 | list a b=>exact k _ _ _ rfl a b
 | val u=>exact k 0 rfl
 | thing a=>exact k a rfl
theorem DRs.e {ds:List D} (h:DRs P vs ds) (k:DRs.K P vs C ds):C:=by
 cases(h)with
 | nil=>exact k 0 rfl
 | cons a b=>exact k _ _ 0 rfl a b
end
section
variable {P:Addr→Option Obj}
theorem DRs.length {vs:List Value} {ds:List D} (h:DRs P vs ds):vs.length=ds.length:=by
 induction vs generalizing ds with
 | nil=>cases h;rfl
 | cons v vs ih=>cases h with | cons _ r=>rw[length_cons,length_cons,ih r]
theorem DRs.append {vs ws:List Value} {ds es:List D} (h:DRs P vs ds) (k:DRs P ws es):DRs P (vs++ws) (ds++es):=by
 induction vs generalizing ds with
 | nil=>cases h;exact k
 | cons v vs ih=>cases h with | cons h r=>exact .cons h (ih r)
theorem DRs.get {vs:List Value} {ds:List D} (h:DRs P vs ds):∀{k:Nat} {d:D},ds[k]? =some d→∃v,vs[k]? =some v∧DR P v d:=by
 induction vs generalizing ds with
 | nil=>intro k d e;cases h;simp at e
 | cons v vs ih=>
  intro k d e
  cases h with
  | cons h r=>
   cases k with
   | zero=>simp at e;subst e;exact⟨v,rfl,h⟩
   | succ k=>simp at e;exact ih r e
theorem DRs.get' {vs:List Value} {ds:List D} (h:DRs P vs ds):∀{k:Nat} {v:Value},vs[k]? =some v→∃d,ds[k]? =some d∧DR P v d:=by
 induction vs generalizing ds with
 | nil=>intro k v e;simp at e
 | cons u vs ih=>
  intro k v e
  cases h with
  | cons h r=>
   cases k with
   | zero=>simp at e;subst e;exact⟨_,rfl,h⟩
   | succ k=>simp at e;exact ih r e
theorem DRs.take {vs:List Value} {ds:List D} (h:DRs P vs ds):∀n,DRs P (vs.take n) (ds.take n):=by
 induction vs generalizing ds with
 | nil=>intro n;cases h;simp;exact .nil
 | cons u vs ih=>
  intro n
  cases h with
  | cons h r=>
   cases n with
   | zero=>exact .nil
   | succ n=>exact .cons h (ih r n)
theorem DRs.drop {vs:List Value} {ds:List D} (h:DRs P vs ds):∀n,DRs P (vs.drop n) (ds.drop n):=by
 induction vs generalizing ds with
 | nil=>intro n;cases h;simp;exact .nil
 | cons u vs ih=>
  intro n
  cases h with
  | cons h r=>
   cases n with
   | zero=>exact .cons h r
   | succ n=>exact ih r n
theorem DRs.rev {vs:List Value} {ds:List D} (h:DRs P vs ds):DRs P vs.reverse ds.reverse:=by
 induction vs generalizing ds with
 | nil=>cases h;exact .nil
 | cons u vs ih=>
  cases h with
  | cons h r=>rw[List.reverse_cons,List.reverse_cons];exact(ih r).append (.cons h .nil)
theorem DRs.ints {vs:List Value}:∀{ns:List Int},DRs P vs (ns.map D.int)→IntsAre vs ns:=by
 induction vs with
 | nil=>intro ns h;cases ns with | nil=>exact .nil | cons _ _=>cases h
 | cons v vs ih=>
  intro ns h
  cases ns with
  | nil=>cases h
  | cons n ns=>
   cases h with
   | cons h r=>cases h with | int i t=>exact .cons _ _ (ih r)
end
noncomputable def vis (h:Heap) (M:List Addr):Addr→Option Obj:=fun b=>if b∈M then none else h.get? b
theorem a0b {h:Heap} {M:List Addr} {a:Addr} {o:Obj} (e:vis h M a=some o):h.get? a=some o∧a∉M:=by
 unfold vis at e
 split at e
 ·cases e
 ·rename_i hm;exact⟨e,hm⟩
theorem a0v {h:Heap} {M:List Addr} {a:Addr} {o:Obj} (e:h.get? a=some o) (hm:a∉M):vis h M a=some o:=by
 unfold vis;rw[if_neg hm];exact e
theorem a0x {h h':Heap} {M:List Addr} (hk:∀b o,h.get? b=some o→b∉M→h'.get? b=some o):∀a o,vis h M a=some o→vis h' M a=some o:=
 fun a o e=>a0v (hk a o (a0b e).1 (a0b e).2) (a0b e).2
noncomputable def Hk (h h':Heap):Prop:=∀b o,h.get? b=some o→h'.get? b=some o
theorem Hk.refl (h:Heap):Hk h h:=fun _ _ e=>e
theorem Hk.trans {h h' h'':Heap} (a:Hk h h') (b:Hk h' h''):Hk h h'':=fun x o e=>b x o (a x o e)
theorem Hk.push (h:Heap) (o:Obj):Hk h (h.push o):=fun _ _ e=>get?_push_of_some _ e
theorem Hk.vis {h h':Heap} (k:Hk h h') {M:List Addr}:∀a o,vis h M a=some o→Mine.vis h' M a=some o:=a0x fun b o e _=>k b o e
noncomputable def Kp (s s':Shared):Prop:=∃h' tk,s'={s with heap:=h',toks:=tk}∧Hk s.heap h'
theorem Kp.refl (s:Shared):Kp s s:=⟨s.heap,s.toks,rfl,fun _ _ e=>e⟩
theorem Kp.trans {s s' s'':Shared} (a:Kp s s') (b:Kp s' s''):Kp s s'':=by
 walk_at "c"
 rcases a with⟨h1,t1,rfl,k1⟩
 rcases b with⟨h2,t2,rfl,k2⟩
 walk_at "u"
 exact⟨h2,t2,rfl,fun x o e=>k2 x o (k1 x o e)⟩
theorem Kp.tok (s:Shared) (t:Nat):Kp s {s with toks:=t}:=⟨s.heap,t,rfl,fun _ _ e=>e⟩
theorem Kp.push (s:Shared) (o:Obj):Kp s {s with heap:=s.heap.push o}:=⟨_,_,rfl,Hk.push _ _⟩
theorem Kp.hk {s s':Shared} (a:Kp s s'):Hk s.heap s'.heap:=by obtain⟨h1,t1,rfl,k1⟩:=a;exact k1
theorem Kp.of {s:Shared} {h':Heap} {t:Nat} (k:Hk s.heap h'):Kp s {s with heap:=h',toks:=t}:=⟨h',t,rfl,k⟩
inductive a4b (h:Heap) (env:Env) (x:Str) (v:Value):Prop
 | loc (m:Str→Option Value):env.kindOf x=some .local→h.Ns env.locals m→m x=some v→a4b h env x v
 | cell (c:Addr):env.kindOf x=some .cell→env.cells.lookup x=some c→h.IsCell c (some v)→a4b h env x v
 | free (c:Addr):env.kindOf x=some .free→env.cells.lookup x=some c→h.IsCell c (some v)→a4b h env x v
theorem a4b.keeps {h h':Heap} {env:Env} {x:Str} {v:Value} (n:a4b h env x v) (k:Hk h h'):a4b h' env x v:=by
 cases n with
 | loc m a b c=>exact .loc m a (b.keeps k) c
 | cell c a b d=>exact .cell c a b (d.keeps k)
 | free c a b d=>exact .free c a b (d.keeps k)
inductive Ob where
 | list (ds:List D)
 | ns (l:List (Str×D))
 | slots (C:Addr) (ds:List (Option D))
 | raw (q:Obj→Prop)
inductive EsR (P:Addr→Option Obj):List DictEntry→List (Str×D)→Prop
 | nil:EsR P [] []
 | cons {h:Int} {x:Str} {t:Tok} {v:Value} {d:D} {es:List DictEntry} {l:List (Str×D)}:DR P v d→EsR P es l→EsR P (⟨h,.str x t,v⟩::es) ((x,d)::l)
inductive OsR (P:Addr→Option Obj):List (Option Value)→List (Option D)→Prop
 | nil:OsR P [] []
 | none {vs:List (Option Value)} {ds:List (Option D)}:OsR P vs ds→OsR P (Option.none::vs) (Option.none::ds)
 | some {v:Value} {d:D} {vs:List (Option Value)} {ds:List (Option D)}:DR P v d→OsR P vs ds→OsR P (Option.some v::vs) (Option.some d::ds)
noncomputable def ObR (P:Addr→Option Obj) (o:Obj):Ob→Prop
 | .list ds=>∃(vs:List Value) (ep:Nat),o={cls:=.type "list",data:=.seq vs.toArray ep}∧DRs P vs ds
 | .ns l=>∃(es:List DictEntry) (ep:Nat),o=dictOf es ep∧EsR P es l
 | .slots C l=>∃ss:List (Option Value),o={cls:=.ref C,data:=.plain,slots:=ss.toArray}∧OsR P ss l
 | .raw q=>q o
section
variable {P P':Addr→Option Obj}
theorem EsR.map (f:∀v d,DR P v d→DR P' v d) {es:List DictEntry} {l:List (Str×D)} (h:EsR P es l):EsR P' es l:=by
 induction h with
 | nil=>exact .nil
 | cons h _ ih=>exact .cons (f _ _ h) ih
theorem OsR.map (f:∀v d,DR P v d→DR P' v d) {es:List (Option Value)} {l:List (Option D)} (h:OsR P es l):OsR P' es l:=by
 induction h with
 | nil=>exact .nil
 | none _ ih=>exact .none ih
 | some h _ ih=>exact .some (f _ _ h) ih
theorem DRs.map (f:∀v d,DR P v d→DR P' v d) {vs:List Value} {ds:List D} (h:DRs P vs ds):DRs P' vs ds:=
 h.ind (p:=DRs P') .nil fun a _ b=>.cons (f _ _ a) b
theorem ObR.map (f:∀v d,DR P v d→DR P' v d) {o:Obj} {b:Ob} (h:ObR P o b):ObR P' o b:=by
 cases b with
 | list _=>exact h.imp fun _ h=>h.imp fun _ h=>⟨h.1,h.2.map f⟩
 | ns _=>exact h.imp fun _ h=>h.imp fun _ h=>⟨h.1,h.2.map f⟩
 | slots _ _=>exact h.imp fun _ h=>⟨h.1,h.2.map f⟩
 | raw _=>exact h
theorem ObR.mono {o:Obj} {b:Ob} (h:ObR P o b) (hs:∀a o,P a=some o→P' a=some o):ObR P' o b:=h.map fun _ _ d=>d.mono hs
end
inductive Hit (P:Addr→Option Obj) (h:Heap) (p:Addr×Ob):Prop
 | mk (o:Obj):h.get? p.1=some o→ObR P o p.2→Hit P h p
noncomputable def Obs (P:Addr→Option Obj) (h:Heap) (ob:List (Addr×Ob)):Prop:=∀p∈ob,Hit P h p
theorem Obs.keeps {h h':Heap} {M:List Addr} {ob:List (Addr×Ob)} (x:Obs (vis h M) h ob) (k:Hk h h'):Obs (vis h' M) h' ob:=fun p hp=>let⟨o,e,r⟩:=x p hp;⟨o,k _ _ e,r.mono k.vis⟩
structure a1k where
 glb:Str→Option (Option Value)
 K:Frag
 ob:List (Addr×Ob):=[]
 gen:Bool:=false
noncomputable abbrev a1k.at (G:a1k) (ob:List (Addr×Ob)):a1k:=⟨G.glb,G.K,ob,G.gen⟩
noncomputable abbrev a1k.objs (G:a1k) (a:Addr):Option Obj:=G.K.lookup a
structure TF (G:a1k) (h:Heap):Prop where
 g:∃mg,h.Ns mainGlobals mg∧∀x v,G.glb x=some v→mg x=v
 b:∃mb,h.Ns builtinsNs mb∧∀x:Str,x≠"__name__"→mb x=bootBuiltins x
 lim:h.NoLimit
 objs:∀a o,G.objs a=some o→h.get? a=some o
theorem TF.at {G:a1k} {h:Heap} (T:TF G h) (ob:List (Addr×Ob)):TF (G.at ob) h:=⟨T.g,T.b,T.lim,T.objs⟩
theorem TF.of_at {G:a1k} {h:Heap} {ob:List (Addr×Ob)} (T:TF (G.at ob) h):TF G h:=⟨T.g,T.b,T.lim,T.objs⟩
theorem TF.inK {G:a1k} {h:Heap} (T:TF G h):G.K.In h:=T.objs
theorem Heap.NoLimit.keeps' {h h':Heap} (x:h.NoLimit) (k:Hk h h'):h'.NoLimit:=let⟨mc,a,b⟩:=x;⟨mc,a.keeps k,b⟩
theorem TF.keeps {G:a1k} {h h':Heap} (T:TF G h) (k:Hk h h'):TF G h':=
 ⟨let⟨mg,a,b⟩:=T.g;⟨mg,a.keeps k,b⟩,let⟨mg,a,b⟩:=T.b;⟨mg,a.keeps k,b⟩,Heap.NoLimit.keeps' T.lim k,fun a o e=>k a o (T.objs a o e)⟩
structure Rm (A:Around) (n:Nat):Prop where
 hd:A.handled=none
 dep:A.depth+2 * n < 1000
 un:A.units+20 * n < 9900
theorem Rm.le {A:Around} {n m:Nat} (r:Rm A n) (h:m≤n):Rm A m:=⟨r.hd,by have:=r.dep;omega,by have:=r.un;omega⟩
structure Cd (G:a1k) (env:Env) (M:List Addr) (ρ:List (Str×D)) (s:Shared):Prop where
 top:TF G s.heap
 kind:env.scope.kind= .function
 glob:env.globals=mainGlobals
 bi:env.builtins=builtinsNs
 vars:∀x d,ρ.lookup x=some d→∃v,a4b s.heap env x v∧DR (vis s.heap M) v d
 mem:∀b∈M,∃o,s.heap.get? b=some o
 cs:∀y,env.kindOf y=some .cell∨env.kindOf y=some .free→∃c,env.cells.lookup y=some c
 obs:Obs (vis s.heap M) s.heap G.ob
theorem Cd.keeps {G:a1k} {env:Env} {M:List Addr} {ρ:List (Str×D)} {s s':Shared} (c:Cd G env M ρ s) (k:Kp s s'):Cd G env M ρ s':=
 ⟨c.top.keeps k.hk,c.kind,c.glob,c.bi,fun x d e=>let⟨v,a,b⟩:=c.vars x d e;⟨v,a.keeps k.hk,b.mono k.hk.vis⟩,fun b hb=>(c.mem b hb).imp fun o e=>k.hk b o e,c.cs,c.obs.keeps k.hk⟩
theorem Cd.fresh {G:a1k} {env:Env} {M:List Addr} {ρ:List (Str×D)} {s:Shared} (c:Cd G env M ρ s) {a:Addr} (ha:s.heap.objs.size≤a):a∉M:=fun hm=>by
 obtain⟨o,e⟩:=c.mem a hm
 exact absurd (lt_size e) (Nat.not_lt.mpr ha)
section
variable (prog:Program) (w:World) (G:a1k)
noncomputable def Ev (n:Nat) (env:Env) (ρ:List (Str×D)) (e:Expr) (d:D):Prop:=
 ∀(A:Around) (M:List Addr) (s:Shared) (Q:Value→Shared→Prop) (E:Value→Shared→Prop),Rm A n→Cd G env M ρ s→
  (∀v s',Kp s s'→DR (vis s'.heap M) v d→Q v s')→wpAny (model prog w) A (eval e env) Q E s
noncomputable def Ts (n:Nat) (env:Env) (ρ:List (Str×D)) (e:Expr) (b:Bool):Prop:=
 ∀(A:Around) (M:List Addr) (s:Shared) (Q:Bool→Shared→Prop) (E:Value→Shared→Prop),Rm A n→Cd G env M ρ s→
  (∀s',Kp s s'→Q b s')→wpAny (model prog w) A (isTrue e env (eval e env)) Q E s
end
section
variable {prog:Program} {w:World} {G:a1k} {n:Nat} {env:Env} {ρ:List (Str×D)}
theorem Ev.int {i:Int} {k:Nat} {p:Pos}:Ev prog w G n env ρ (.Constant (.int i) k p) (.int i):=
 fun _ _ _ _ _ _ _ k=>wpAny_Constant_int (k _ _ (Kp.tok _ _) (.int _ _))
theorem Ev.str {x:Str} {k:Nat} {p:Pos}:Ev prog w G n env ρ (.Constant (.str x) k p) (.str x):=
 fun _ _ _ _ _ _ _ k=>wpAny_Constant_str (k _ _ (Kp.tok _ _) (.str _ _))
theorem Ev.boolC {x:Bool} {k:Nat} {p:Pos}:Ev prog w G n env ρ (.Constant (.bool x) k p) (.bool x):=
 fun _ _ _ _ _ _ _ k=>wpAny_Constant_bool (k _ _ (Kp.refl _) (.bool _))
theorem Ev.noneC {k:Nat} {p:Pos}:Ev prog w G n env ρ (.Constant .none k p) .none:=
 fun _ _ _ _ _ _ _ k=>wpAny_Constant_none (k _ _ (Kp.refl _) .none)
theorem a1f {M:Model} {A:Around} {s:Shared} {Q:Value→Shared→Prop} {E:Value→Shared→Prop} {x:Str} {v:Value} {p:Pos} (hk:env.scope.kind= .function) (hv:a4b s.heap env x v) (h:Q v s)
  (hd:(x == ("__debug__":Str))=false:=by decide) (hn:(x == ("__classdict__":Str))=false:=by decide):wpAny M A (eval (.Name x p) env) Q E s:=by
 refine wpAny_Name ?_ hd
 cases hv with
 | loc m a b c=>exact wpAny_loadName_local hk a b c h
 | cell c a b d=>exact wpAny_loadName_cell hk a b d h
 | free c a b d=>exact wpAny_loadName_free hk a b d h hn
theorem Ev.name {x:Str} {p:Pos} {d:D} (hx:ρ.lookup x=some d) (hd:(x == ("__debug__":Str))=false:=by decide) (hn:(x == ("__classdict__":Str))=false:=by decide):Ev prog w G n env ρ (.Name x p) d:=
 fun _ _ _ _ _ _ c k=>let⟨v,a,b⟩:=c.vars x d hx;a1f c.kind a (k v _ (Kp.refl _) b) hd hn
theorem a1i {M:Model} {A:Around} {s:Shared} {Q:Value→Shared→Prop} {E:Value→Shared→Prop} {x:Str} {v:Value} {p:Pos} (hk:env.scope.kind= .function) (hg:env.globals=mainGlobals) (T:TF G s.heap)
  (hx:env.kindOf x=some .globalImplicit) (e:G.glb x=some (some v)) (h:Q v s) (hd:(x == ("__debug__":Str))=false:=by decide):wpAny M A (eval (.Name x p) env) Q E s:=
 let⟨_,a,b⟩:=T.g;Calls.Name_function_global hk hx (Calls.loadGlobal_global (by rw[hg];exact a) (b x _ e) h) hd
theorem a1v {M:Model} {A:Around} {s:Shared} {Q:Value→Shared→Prop} {E:Value→Shared→Prop} {x:Str} {v:Value} {p:Pos} (hk:env.scope.kind= .function) (hg:env.globals=mainGlobals) (hb:env.builtins=builtinsNs) (T:TF G s.heap)
  (hx:env.kindOf x=some .globalImplicit) (e:G.glb x=some none) (hv:bootBuiltins x=some v) (hn:x≠"__name__") (h:Q v s) (hd:(x == ("__debug__":Str))=false:=by decide):wpAny M A (eval (.Name x p) env) Q E s:=
 let⟨_,a,b⟩:=T.g;let⟨_,a',b'⟩:=T.b;Calls.Name_function_global hk hx (Calls.loadGlobal_builtin (by rw[hg];exact a) (b x _ e) (by rw[hb];exact a') ((b' x hn).trans hv) h) hd
theorem Ev.glob {x:Str} {p:Pos} {v:Value} (hx:env.kindOf x=some .globalImplicit) (e:G.glb x=some (some v)) (hd:(x == ("__debug__":Str))=false:=by decide):Ev prog w G n env ρ (.Name x p) (.val v):=
 fun _ _ _ _ _ _ c k=>a1i c.kind c.glob c.top hx e (k v _ (Kp.refl _) (.val v)) hd
theorem Ev.blt {x:Str} {p:Pos} {v:Value} (hx:env.kindOf x=some .globalImplicit) (e:G.glb x=some none) (hv:bootBuiltins x=some v) (hn:x≠"__name__") (hd:(x == ("__debug__":Str))=false:=by decide):Ev prog w G n env ρ (.Name x p) (.val v):=
 fun _ _ _ _ _ _ c k=>a1v c.kind c.glob c.bi c.top hx e hv hn (k v _ (Kp.refl _) (.val v)) hd
theorem Ev.bin {l r:Expr} {op:Operator} {p:Pos} {dl dr d:D} (hl:Ev prog w G n env ρ l dl) (hr:Ev prog w G n env ρ r dr)
  (h:∀(A:Around) (M:List Addr) (s:Shared) (a b:Value) (Q:Value→Shared→Prop) (E:Value→Shared→Prop),Rm A n→Cd G env M ρ s→DR (vis s.heap M) a dl→DR (vis s.heap M) b dr→
   (∀v s',Kp s s'→DR (vis s'.heap M) v d→Q v s')→wpAny (model prog w) A (binaryOp op a b) Q E s):Ev prog w G n env ρ (.BinOp l op r p) d:=
 fun A M s Q E rm c k=>wpAny_BinOp (hl A M s _ E rm c fun a g0 l0 da=>hr A M g0 _ E rm (c.keeps l0) fun b u0 y1 db=>
  h A M u0 a b Q E rm ((c.keeps l0).keeps y1) (da.mono y1.hk.vis) db fun v s' a4 dv=>k v s' ((l0.trans y1).trans a4) dv)
end
end Mine
end
namespace Mine
open PySem.SeqAt PySem.Calls PySem.Spec
section
variable {α β:Type} {a b:α} {l m:List α}
theorem zA (h:a∈l++m):a∈l∨a∈m:=mem_append.mp h
theorem zB (h:a∈l∨a∈m):a∈l++m:=mem_append.mpr h
theorem zC (h:a∈b::l):a=b∨a∈l:=mem_cons.mp h
theorem zS (h:a∈[b]):a=b:=mem_singleton.mp h
theorem zM {f:α→β} {c:β} (h:c∈l.map f):∃a,a∈l∧f a=c:=mem_map.mp h
theorem zN {f:α→β} {c:β} (h:∃a,a∈l∧f a=c):c∈l.map f:=mem_map.mpr h
end
variable {M W F i0 W₁ V:List Addr} {o od:Obj} {vs args:List Value} {ds:List D} {prog:Program} {w:World} {G:a1k} {env env':Env} {ρ ρ':List (Str×D)} {r ol ob ol' l1 l2:List (Addr×Ob)} {t N lim p':Nat} {xs oc rdl seen ks:List Nat} {value slice target elt test:Expr} {A:Around} {Q E:Value→Shared→Prop} {pos px ap q sp p1 p2 p3 yp xp:Pos} {es ifs:List Expr} {da d1 dd:D} {I C L X q1 q2 dx xL dL xS dS dX Dn:Addr} {T:String} {v dV kV doc pm ct:Value} {vm:Str→Option Value} {own:List (Str×Addr)} {h' z4 H j2:Heap} {scope:Scope} {R:Result→Shared→Prop} {s' j0:Shared} {P P':Addr→Option Obj} {fl ex q':Bool} {body orelse:List Stmt} {qual tok tok':Str} {params:Arguments} {an:Option Addr} {binds:List (Str×Value)} {fs:List Env} {items ps:Array Value} {Fo:List (Addr×Obj)} {K:Frag} {pl:Sem Bool} {t1:Tok} {stO st':Option Str} {kvs:List (Int×Value)}
section
section
variable (prog:Program) (w:World) (G:a1k)
noncomputable def Op2 (n:Nat) (t:Value→Value→Sem Value) (dl dr d:D):Prop:=
 ∀(A:Around) (M:List Addr) (s:Shared) (a b:Value) (Q:Value→Shared→Prop) (E:Value→Shared→Prop),Rm A n→TF G s.heap→(∀b∈M,∃o,s.heap.get? b=some o)→DR (vis s.heap M) a dl→DR (vis s.heap M) b dr→
  (∀v s',Kp s s'→DR (vis s'.heap M) v d→Q v s')→wpAny (model prog w) A (t a b) Q E s
noncomputable def Op1 (n:Nat) (t:Value→Sem Value) (da d:D):Prop:=
 ∀(A:Around) (M:List Addr) (s:Shared) (a:Value) (Q:Value→Shared→Prop) (E:Value→Shared→Prop),Rm A n→TF G s.heap→(∀b∈M,∃o,s.heap.get? b=some o)→DR (vis s.heap M) a da→
  (∀v s',Kp s s'→DR (vis s'.heap M) v d→Q v s')→wpAny (model prog w) A (t a) Q E s
end
theorem c4c {h:Heap} (hf:o.isFreed=false) (hm:∀b∈M,∃o,h.get? b=some o):vis (h.push o) M h.objs.size=some o:=
 a0v (get?_push_size _ hf) fun hb=>by obtain⟨o,e⟩:=hm _ hb;exact absurd (lt_size e) (Nat.lt_irrefl _)
theorem a5h {h:Heap} {k:Nat} (hm:∀b∈M,∃o,h.get? b=some o) (r:DRs (vis h M) vs ds):
  DR (vis (h.push {cls:=.type "list",data:=.seq vs.toArray k}) M) (.ref h.objs.size) (.list ds):=.list (c4c rfl hm) (r.mono (Hk.push _ _).vis)
theorem a3j {h:Heap} {k:Nat} (hm:∀b∈M,∃o,h.get? b=some o) (r:DRs (vis h M) vs ds):
  DR (vis (h.push {cls:=.type "tuple",data:=.seq vs.toArray k}) M) (.ref h.objs.size) (.tuple ds):=.tuple (c4c rfl hm) (r.mono (Hk.push _ _).vis)
theorem a0j {h:Heap} {a:Addr} {n:Nat} (e:vis h M a=some {cls:=.type "list",data:=.seq vs.toArray n}):h.IsList a vs.toArray:=⟨_,(a0b e).1,rfl,n,rfl⟩
theorem a5x {h:Heap} {a:Addr} {n:Nat} (e:vis h M a=some {cls:=.type "tuple",data:=.seq vs.toArray n}):h.IsTuple a vs.toArray:=⟨_,(a0b e).1,rfl,n,rfl⟩
section
variable {n:Nat}
theorem Ev.op {l r:Expr} {op:Operator} {p:Pos} {dl dr d:D} (hl:Ev prog w G n env ρ l dl) (hr:Ev prog w G n env ρ r dr) (h:Op2 prog w G n (binaryOp op) dl dr d):Ev prog w G n env ρ (.BinOp l op r p) d:=
 .bin hl hr fun A M s a b Q E r c da db k=>h A M s a b Q E r c.top c.mem da db k
theorem Ev.cmp {l r:Expr} {op:CmpOp} {p:Pos} {dl dr d:D} (hl:Ev prog w G n env ρ l dl) (hr:Ev prog w G n env ρ r dr) (h:Op2 prog w G n (compareOp op) dl dr d)
  (hm:behindInMarks op r=false:=by with_unfolding_all rfl):Ev prog w G n env ρ (.Compare l [op] [r] p) d:=
 fun A M s Q E rm c k=>wpAny_Compare1 (hl A M s _ E rm c fun a g0 l0 da=>hr A M g0 _ E rm (c.keeps l0) fun b u0 y1 db=>
  h A M u0 a b Q E rm ((c.keeps l0).keeps y1).top ((c.keeps l0).keeps y1).mem (da.mono y1.hk.vis) db fun v s' a4 dv=>k v s' ((l0.trans y1).trans a4) dv) hm
theorem Ts.cmp {l r:Expr} {op:CmpOp} {p:Pos} {dl dr:D} {b:Bool} (hl:Ev prog w G n env ρ l dl) (hr:Ev prog w G n env ρ r dr) (h:Op2 prog w G n (compareOp op) dl dr (.bool b))
  (hm:behindInMarks op r=false:=by with_unfolding_all rfl):Ts prog w G n env ρ (.Compare l [op] [r] p) b:=
 fun A M s Q E rm c k=>wpAny_isTrue_Compare1 (hl A M s _ E rm c fun a g0 l0 da=>hr A M g0 _ E rm (c.keeps l0) fun b u0 y1 db=>
  h A M u0 a b _ E rm ((c.keeps l0).keeps y1).top ((c.keeps l0).keeps y1).mem (da.mono y1.hk.vis) db fun v s' a4 dv=>by
   cases dv;exact wpAny_truthy_bool (k s' ((l0.trans y1).trans a4))) hm
theorem Ts.not {e:Expr} {p:Pos} {b:Bool} (h:Ts prog w G n env ρ e b):Ts prog w G n env ρ (.UnaryOp .Not e p) (!b):=
 fun A M s Q E rm c k=>wpAny_isTrue_Not (h A M s _ E rm c fun s' k'=>k s' k')
theorem Ts.and2 {x y:Expr} {p:Pos} {a b:Bool} (hx:Ts prog w G n env ρ x a) (hy:a=true→Ts prog w G n env ρ y b):Ts prog w G n env ρ (.BoolOp .And [x,y] p) (a && b):=
 fun A M s Q E rm c k=>wpAny_isTrue_BoolOp (wpAny_allTrue_And_cons (hx A M s _ E rm c fun g0 l0=>by
  clear hx p y x
  cases a with
  | false=>exact k g0 l0
  | true=>exact wpAny_allTrue_And_cons (hy rfl A M g0 _ E rm (c.keeps l0) fun u0 y1=>by
    clear g0 hy a
    cases b with
    | false=>exact k u0 (l0.trans y1)
    | true=>exact wpAny_allTrue_And_nil (k u0 (l0.trans y1)))))
theorem Ts.or2 {x y:Expr} {p:Pos} {a b:Bool} (hx:Ts prog w G n env ρ x a) (hy:a=false→Ts prog w G n env ρ y b):Ts prog w G n env ρ (.BoolOp .Or [x,y] p) (a || b):=
 fun A M s Q E rm c k=>wpAny_isTrue_BoolOp (wpAny_allTrue_Or_cons (hx A M s _ E rm c fun g0 l0=>by
  clear hx p y x
  cases a with
  | true=>exact k g0 l0
  | false=>exact wpAny_allTrue_Or_cons (hy rfl A M g0 _ E rm (c.keeps l0) fun u0 y1=>by
    clear g0 hy a
    cases b with
    | true=>exact k u0 (l0.trans y1)
    | false=>exact wpAny_allTrue_Or_nil (k u0 (l0.trans y1)))))
theorem Ev.ite {t x y:Expr} {p:Pos} {b:Bool} {d:D} (ht:Ts prog w G n env ρ t b) (hx:b=true→Ev prog w G n env ρ x d) (hy:b=false→Ev prog w G n env ρ y d):Ev prog w G n env ρ (.IfExp t x y p) d:=
 fun A M s Q E rm c k=>wpAny_IfExp (ht A M s _ E rm c fun g0 l0=>by
  cases b with
  | true=>exact hx rfl A M g0 Q E rm (c.keeps l0) fun v s' k' dv=>k v s' (l0.trans k') dv
  | false=>exact hy rfl A M g0 Q E rm (c.keeps l0) fun v s' k' dv=>k v s' (l0.trans k') dv)
theorem b0z {a b:Int}:Op2 prog w G n (binaryOp .Add) (.int a) (.int b) (.int (a+b)):=fun A M s x y Q E _ _ _ da db k=>by
 cases da;cases db;exact add_int (k _ _ (Kp.tok _ _) (.int _ _))
theorem b7w {a b:Int}:Op2 prog w G n (binaryOp .Sub) (.int a) (.int b) (.int (a - b)):=fun A M s x y Q E _ _ _ da db k=>by
 cases da;cases db;exact sub_int (k _ _ (Kp.tok _ _) (.int _ _))
theorem c9b {a b:Int} (hm:IntMulOk a b):Op2 prog w G n (binaryOp .Mult) (.int a) (.int b) (.int (a * b)):=fun A M s x y Q E _ _ _ da db k=>by
 cases da;cases db;exact mul_int (k _ _ (Kp.tok _ _) (.int _ _)) hm
theorem a8w {a b:Int} (hb:b≠0) (hs:b.natAbs < 1073741824):Op2 prog w G n (binaryOp .FloorDiv) (.int a) (.int b) (.int (a.fdiv b)):=fun A M s x y Q E _ _ _ da db k=>by
 cases da;cases db;exact floordiv_int hb (k _ _ (Kp.tok _ _) (.int _ _)) (.inl (PyProof.noPylong_small hs))
theorem a7f {a b:Int} (hb:b≠0):Op2 prog w G n (binaryOp .Mod) (.int a) (.int b) (.int (a.fmod b)):=fun A M s x y Q E _ _ _ da db k=>by
 cases da;cases db;exact mod_int' hb (k _ _ (Kp.tok _ _) (.int _ _))
theorem b7y {a b:Int} (h0:0≤b) (h1:b≤1000000) (h2:a.natAbs < 2 ^ 64):Op2 prog w G n (binaryOp .Pow) (.int a) (.int b) (.int (a ^ b.toNat)):=fun A M s x y Q E _ _ _ da db k=>by
 cases da;cases db;exact pow_int_small h0 h1 h2 (k _ _ (Kp.tok _ _) (.int _ _))
theorem b8f {a b:Int}:Op2 prog w G n (compareOp .Eq) (.int a) (.int b) (.bool (a == b)):=fun A M s x y Q E _ _ _ da db k=>by
 cases da;cases db;exact eq_int (k _ _ (Kp.refl _) (.bool _))
theorem c9a {a b:Int}:Op2 prog w G n (compareOp .NotEq) (.int a) (.int b) (.bool (a != b)):=fun A M s x y Q E _ _ _ da db k=>by
 cases da;cases db;exact ne_int (k _ _ (Kp.refl _) (.bool _))
theorem c5s {a b:Int}:Op2 prog w G n (compareOp .Lt) (.int a) (.int b) (.bool (decide (a < b))):=fun A M s x y Q E _ _ _ da db k=>by
 cases da;cases db;exact lt_int (k _ _ (Kp.refl _) (.bool _))
theorem d0u {a b:Int}:Op2 prog w G n (compareOp .LtE) (.int a) (.int b) (.bool (decide (a≤b))):=fun A M s x y Q E _ _ _ da db k=>by
 cases da;cases db;exact le_int (k _ _ (Kp.refl _) (.bool _))
theorem c5w {a b:Int}:Op2 prog w G n (compareOp .Gt) (.int a) (.int b) (.bool (decide (b < a))):=fun A M s x y Q E _ _ _ da db k=>by
 cases da;cases db;exact gt_int (k _ _ (Kp.refl _) (.bool _))
theorem b5m {a b:Int}:Op2 prog w G n (compareOp .GtE) (.int a) (.int b) (.bool (decide (b≤a))):=fun A M s x y Q E _ _ _ da db k=>by
 cases da;cases db;exact ge_int (k _ _ (Kp.refl _) (.bool _))
theorem d0v {a:Int} {ns:List Int}:Op2 prog w G n (compareOp .In) (.int a) (.list (ns.map D.int)) (.bool (ns.any (· == a))):=fun A M s x y Q E _ _ _ da db k=>by
 cases da
 cases db with
 | list e r=>exact in_list_ints (a0j e) r.ints (k _ _ (Kp.refl _) (.bool _))
theorem a7h {xs ys:List D} (hsz:xs.length+ys.length≤sizeLine):Op2 prog w G n (binaryOp .Add) (.list xs) (.list ys) (.list (xs++ys)):=fun A M s x y Q E _ _ hm da db k=>by
 cases da with
 | list e r=>
  cases db with
  | list e' r'=>
   rename_i a vs i b ws j
   have eq:vs.toArray++ws.toArray=(vs++ws).toArray:=by simp
   refine concat_meets ⟨_,(a0b e).1,rfl⟩ ⟨_,(a0b e').1,rfl⟩ noFill_list_add seq_list_add PySem.F.slot_list_add PySem.F.entry_list_add (PySem.F.args_list_add_2 _ _) (list_addW a b vs.toArray ws.toArray i j none none #[] #[] (by simpa [r.length,r'.length] using hsz)) ⟨(a0b e).1,(a0b e').1,?_⟩
   rw[eq]
   exact k _ _ (Kp.push _ _) (a5h hm (r.append r'))
end
end
section
section
variable {n:Nat}
theorem b2g {k:Int} {len:Nat} (h0:0≤k) (h:k.toNat < len):seqIndex? k len=some k.toNat:=by
 have h1:¬k < 0:=by omega
 have h2:k < (len:Int):=by omega
 simp[seqIndex?,h1,h0,h2]
theorem Ev.item {p:Pos} {k:Int} {d:D} (hv:Ev prog w G n env ρ value (.list ds)) (hi:Ev prog w G n env ρ slice (.int k)) (h0:0≤k) (hf:k < 2 ^ 63) (hd:ds[k.toNat]? =some d)
  (hs:∀o i,subscripted slice false o i=operate [o,i] (getItem o i):=by intro _ _;with_unfolding_all rfl):Ev prog w G n env ρ (.Subscript value slice p) d:=
 fun A M s Q E rm c K=>Subscript_ (hv A M s _ E rm c fun o g0 l0 do_=>hi A M g0 _ E rm (c.keeps l0) fun i u0 y1 di=>by
  cases di with
  | int _ t=>
   replace do_:=do_.mono y1.hk.vis
   cases do_ with
   | list e r=>
    obtain⟨v,ev,dv⟩:=r.get hd
    exact tail_any (a0j e).typeIs slot_list_getitem.lookup (wpAny_getItem_list (a0j e) h0 hf (by simpa using ev) (K v u0 (l0.trans y1) dv)) (hs _ _))
theorem Ev.itemT {p:Pos} {k:Int} {d:D} (hv:Ev prog w G n env ρ value (.tuple ds)) (hi:Ev prog w G n env ρ slice (.int k)) (h0:0≤k) (hf:k < 2 ^ 63) (hd:ds[k.toNat]? =some d)
  (hs:∀o i,subscripted slice false o i=operate [o,i] (getItem o i):=by intro _ _;with_unfolding_all rfl):Ev prog w G n env ρ (.Subscript value slice p) d:=
 fun A M s Q E rm c K=>Subscript_ (hv A M s _ E rm c fun o g0 l0 do_=>hi A M g0 _ E rm (c.keeps l0) fun i u0 y1 di=>by
  cases di with
  | int _ t=>
   replace do_:=do_.mono y1.hk.vis
   cases do_ with
   | tuple e r=>
    obtain⟨v,ev,dv⟩:=r.get hd
    have hlt:k.toNat < _:=(List.getElem?_eq_some_iff.mp ev).1
    refine item_tupleT ⟨_,(a0b e).1,rfl,_,rfl⟩ (by omega) hf (j:=k.toNat) ?_ ev (K v u0 (l0.trans y1) dv) (hs _ _)
    exact b2g h0 hlt)
noncomputable def c4s (prog:Program) (w:World) (G:a1k) (n:Nat) (env:Env) (ρ:List (Str×D)):Option Expr→Option Int→Prop
 | none,none=>True
 | some e,some i=>Ev prog w G n env ρ e (.int i)
 | _,_=>False
theorem c4s.go {e:Option Expr} {i:Option Int} (h:c4s prog w G n env ρ e i) {s:Shared} (rm:Rm A n) (c:Cd G env M ρ s)
  (K:∀v s',Kp s s'→IsPart v i→Q v s'):wpAny (model prog w) A (evalPart e env) Q E s:=by
 cases e with
 | none=>
  cases i with
  | none=>rw[evalPart_none];exact wpAny_pure (K _ _ (Kp.refl _) .none)
  | some i=>exact h.elim
 | some e=>
  cases i with
  | none=>exact h.elim
  | some i=>rw[evalPart_some];exact h A M s Q E rm c fun v s' k d=>by cases d with | int _ t=>exact K _ _ k (.int _ _)
inductive EvL (prog:Program) (w:World) (G:a1k) (n:Nat) (env:Env) (ρ:List (Str×D)):List Expr→List D→Prop
 | nil:EvL prog w G n env ρ [] []
 | cons {e:Expr} {es:List Expr} {d:D} {ds:List D}:Ev prog w G n env ρ e d→(starEach (e::es) env=(false,eval e env)::starEach es env)→EvL prog w G n env ρ es ds→EvL prog w G n env ρ (e::es) (d::ds)
theorem EvL.go (rm:Rm A n) (h:EvL prog w G n env ρ es ds):∀{s:Shared} {Q:List Value→Shared→Prop} (_:Cd G env M ρ s)
  (_:∀vs s',Kp s s'→DRs (vis s'.heap M) vs ds→Q vs s'),wpAny (model prog w) A (spliced (backTo pos (starEach es env))) Q E s:=by
 induction h with
 | nil=>exact fun c K=>spliced_none (K _ _ (Kp.refl _) .nil)
 | cons h he _ ih=>exact fun c K=>spliced_more (h A M _ _ E rm c fun v g0 l0 dv=>ih (c.keeps l0) fun vs u0 y1 dvs=>K _ _ (l0.trans y1) (.cons (dv.mono y1.hk.vis) dvs)) he
theorem EvL.length (h:EvL prog w G n env ρ es ds):es.length=ds.length:=by
 induction h with
 | nil=>rfl
 | cons _ _ _ ih=>simp[ih]
theorem EvL.plain (h:EvL prog w G n env ρ es ds):(backTo pos (starEach es env)).any (·.1)=false:=by
 induction h with
 | nil=>rfl
 | cons _ he _ ih=>rw[he];simpa [backTo] using ih
theorem Ev.list {p:Pos} (h:EvL prog w G n env ρ es ds) (hsz:es.length≤sizeLine:=by decide):Ev prog w G n env ρ (.List es p) (.list ds):=
 fun A M s Q E rm c K=>wpAny_List (h.go rm c fun vs g0 l0 dv=>⟨by rw[dv.length,←h.length];exact hsz,K _ _ (l0.trans (Kp.push _ _)) (a5h (c.keeps l0).mem dv)⟩)
theorem Ev.tuple {p:Pos} {k:Nat} (h:EvL prog w G n env ρ es ds) (hsz:es.length≤sizeLine:=by decide):Ev prog w G n env ρ (.Tuple es k p) (.tuple ds):=
 fun A M s Q E rm c K=>wpAny_Tuple_spliced (h.go rm c fun vs g0 l0 dv=>⟨by rw[dv.length,←h.length];exact hsz,K _ _ (l0.trans (Kp.push _ _)) (a3j (c.keeps l0).mem dv)⟩)
theorem Ev.callB {x:Str} {id:String} {e:Expr} {np p:Pos} {d:D} (hx:env.kindOf x=some .globalImplicit) (hg:G.glb x=some none) (hv:bootBuiltins x=some (.builtin id)) (hn:x≠"__name__") (h:EvL prog w G n env ρ [e] [da])
  (op:Op1 prog w G n (fun a=>call (.builtin id) [a]) da d) (hd:(x == ("__debug__":Str))=false:=by decide):Ev prog w G n env ρ (.Call (.Name x np) [e] [] p) d:=
 fun A M s Q E rm c K=>wpAny_Call_NameR (a1v c.kind c.glob c.bi c.top hx hg hv hn (by
  have hp:=h.plain (pos:=p)
  cases h with
  | cons h he r=>
   refine Calls.callWith_builtin hp ?_
   rw[he]
   refine Calls.evalArgs_plain ?_
   show wpAny _ _ (spliced (backTo p ((false,eval e env)::starEach [] env))) _ _ _
   rw[←he]
   refine EvL.go rm (.cons h he r) c fun vs g0 l0 dv=>?_
   cases dv with
   | cons d0 d1=>cases d1;exact op A M g0 _ Q E rm (c.keeps l0).top (c.keeps l0).mem d0 fun v s' k' dv=>K v s' (l0.trans k') dv) hd)
theorem b0y (h:(ds.length:Int) < 2 ^ 63):Op1 prog w G n (fun a=>call (.builtin "len") [a]) (.list ds) (.int ds.length):=fun A M s a Q E _ _ _ da K=>by
 cases da with
 | list e r=>
  rename_i a vs i
  refine len_list (a0j e) (by simpa [r.length] using h) ?_
  rw[show((vs.toArray.size:Nat):Int)=(ds.length:Int)from by rw[size_toArray,r.length]]
  exact K _ _ (Kp.tok _ _) (.int _ _)
theorem b8b {x:Str} (h:(x.length:Int) < 2 ^ 63):Op1 prog w G n (fun a=>call (.builtin "len") [a]) (.str x) (.int x.length):=fun A M s a Q E _ _ _ da K=>by
 cases da with
 | str _ t=>exact PyProof.Rows.len_str (by omega) (K _ _ (Kp.tok _ _) (.int _ _))
theorem c8z {x:Str} (h1:x.length=1):Op1 prog w G n (fun a=>call (.builtin "ord") [a]) (.str x) (.int (x.cps.getD 0 0:Nat)):=fun A M s a Q E _ _ _ da K=>by
 cases da with
 | str _ t=>exact ord_of_one h1 (K _ _ (Kp.tok _ _) (.int _ _))
theorem c3v {ns:List Int} {m:Int} (hne:0 < ns.length) (hm:m∈ns) (ha:∀a∈ns,a≤m):Op1 prog w G n (fun a=>call (.builtin "max") [a]) (.list (ns.map D.int)) (.int m):=fun A M s a Q E rm _ _ da K=>by
 cases da with
 | list e r=>
  obtain⟨xs,ex⟩:=r.ints.allInts.items
  have hns:ns=xs.toList.map (·.1):=by rw[←r.ints.numsOf,←nums_intItems,←ex]
  have hsz:0 < xs.size:=by have h3:=hne;rw[hns,length_map,length_toList]at h3;exact h3
  have hl:=a0j e
  rw[ex]at hl
  refine max_intList rm.hd hl hsz fun v h' tk hv hk=>?_
  walk_at "c"
  rcases intItems_at hv with⟨t,rfl⟩
  rcases argBest_gt (numAt xs) (xs.size - 1)with⟨h1,h2⟩
  walk_at "u"
  have e1:numAt xs (argBest (fun i j=>decide (numAt xs i > numAt xs j)) (xs.size - 1))=m:=by
   apply Int.le_antisymm
   ·refine ha _ ?_
    rw[hns,numAt_eq];exact getD_mem (by rw[length_map,length_toList];omega)
   ·rw[hns]at hm
    obtain⟨j,hj,rfl⟩:=mem_getD hm
    rw[length_map,length_toList]at hj
    rw[←numAt_eq];exact h2 j (by omega)
  rw[e1]
  exact K _ _ ⟨h',tk,rfl,hk⟩ (.int _ _)
theorem c8y {ns:List Int}:Op1 prog w G n (fun a=>call (.builtin "sum") [a]) (.list (ns.map D.int)) (.int ns.sum):=fun A M s a Q E rm _ _ da K=>by
 cases da with
 | list e r=>
  obtain⟨xs,ex⟩:=r.ints.allInts.items
  have hns:ns=xs.toList.map (·.1):=by rw[←r.ints.numsOf,←nums_intItems,←ex]
  have hl:=a0j e
  rw[ex]at hl
  refine sum_intListG rm.hd hl fun h' tk t' hk=>?_
  rw[preSum_eq,take_of_length_le (by simp),←hns]
  exact K _ _ ⟨h',tk,rfl,hk⟩ (.int _ _)
end
end
section
section
variable (prog:Program) (w:World) (G:a1k)
inductive Itr (A:Around) (old h:Heap) (M:List Addr) (I:Addr) (ds:List D):Prop
 | mk (fp wr:List Addr) (P:Nat→Value→Prop) (St:Nat→Heap→Prop):Walks prog w A I fp wr ds.length P St→St 0 h→(∀b∈wr,old.get? b=none)→(∀i h,St i h→∀b∈wr,∃o,h.get? b=some o)→(∀b∈fp,∃o,h.get? b=some o)→(∀b∈fp,b∉M)→
  (∀tgt i v (s:Shared) (Q:Unit→Shared→Prop) (E:Value→Shared→Prop),St i s.heap→Q () s→wpAny (model prog w) A (letOwnedTupleGo tgt (.ref I) v) Q E s)→
  (∀i v,P i v→∃d,ds[i]? =some d∧∃j2,Hk j2 h∧Hk j2 old∧DR (vis j2 M) v d)→Itr A old h M I ds
noncomputable def It (n:Nat) (env:Env) (ρ:List (Str×D)) (e:Expr) (ds:List D):Prop:=
 ∀(A:Around) (M:List Addr) (s:Shared) (Q:Value→Shared→Prop) (E:Value→Shared→Prop),Rm A n→Cd G env M ρ s→
  (∀I s' old,Kp s s'→Hk s.heap old→Hk old s'.heap→Itr prog w A old s'.heap M I ds→Q (.ref I) s')→wpAny (model prog w) A (eval e env) (fun v g0=>wpAny (model prog w) A (pyIter v) Q E g0) E s
end
section
variable {n:Nat}
theorem a0c {h:Heap} {a:Addr} (ha:h.objs.size≤a):h.get? a=none:=by
 cases e:h.get? a with
 | none=>rfl
 | some o=>exact absurd (lt_size e) (Nat.not_lt.mpr ha)
theorem b2s {vs:Array Value} {tgt:Expr} {s:Shared} {Q:Unit→Shared→Prop} (ho:s.heap.get? I=some o) (hc:o.cls= .type T) (hd:o.data= .fields vs)
  (hT:(["enumerate","zip","dict_itemiterator","dict_reverseitemiterator","odict_iterator","itertools.zip_longest","itertools.pairwise"].contains T)=false) (h:Q () s):wpAny (model prog w) A (letOwnedTupleGo tgt (.ref I) v) Q E s:=by
 have key:∀a,wpAny (model prog w) A (do
   let o ←load I
   match o.cls,o.data with
   | .type n,.fields vs=>
    if["enumerate","zip","dict_itemiterator","dict_reverseitemiterator","odict_iterator","itertools.zip_longest","itertools.pairwise"].contains n && vs[0]? == some (rawInt a)then
     rule "for.unpacks-the-owned-tuple"
     updateField I 0 .none
   | _,_=>pure ()) Q E s:=fun a=>by
  refine wpAny_bind (wpAny_load ho ?_)
  rw[hc,hd]
  simp only[hT,Bool.false_and,Bool.false_eq_true,if_false]
  exact wpAny_pure h
 have pz:wpAny (model prog w) A (pure ():Sem Unit) Q E s:=wpAny_pure h
 cases tgt <;> first | exact pz | (cases v <;> first | exact pz | exact key _)
theorem It.list {e:Expr} (h:Ev prog w G n env ρ e (.list ds)):It prog w G n env ρ e ds:=
 fun A M s Q E rm c K=>h A M s _ E rm c fun v g0 l0 dv=>by
  cases dv with
  | list e r=>
   rename_i a vs i
   have hlt:=lt_size (a0b e).1
   refine wpAny_pyIter_list (a0j e) (K _ _ g0.heap (l0.trans (Kp.push _ _)) l0.hk (Hk.push _ _) ?_)
   have W:=Walks.list (prog:=prog) (w:=w) rm.hd g0.heap.objs.size a (Nat.ne_of_lt hlt) vs.toArray
   rw[show vs.toArray.size=ds.length from by rw[size_toArray,r.length]]at W
   refine⟨_,_,_,_,W,⟨⟨_,get?_push_size _ rfl,rfl,rfl⟩,(a0j e).push _⟩,?_,?_,?_,?_,?_,?_⟩
   ·intro b hb;rw[zS hb];exact a0c (Nat.le_refl _)
   ·intro j h st b hb;rw[zS hb];obtain⟨⟨o,e,_⟩,_⟩:=st;exact⟨o,e⟩
   ·intro b hb
    rcases a0o hb with rfl | hb
    ·exact⟨_,get?_push_size _ rfl⟩
    ·rw[zS hb];exact⟨_,get?_push_of_some _ (a0b e).1⟩
   ·intro b hb
    rcases a0o hb with rfl | hb
    ·exact(c.keeps l0).fresh (Nat.le_refl _)
    ·rw[zS hb];exact(a0b e).2
   ·intro tgt i v s Q E st hQ;obtain⟨⟨o,e,hc,hd⟩,_⟩:=st;exact b2s e hc hd (by decide) hQ
   ·intro j v hv
    obtain⟨d,hd,dv⟩:=r.get' (by simpa using hv)
    exact⟨d,hd,g0.heap,Hk.push _ _,Hk.refl _,dv⟩
theorem It.str {e:Expr} {x:Str} (h:Ev prog w G n env ρ e (.str x)):It prog w G n env ρ e (x.cps.toList.map fun c=>D.str ⟨#[c]⟩):=
 fun A M s Q E rm c K=>h A M s _ E rm c fun v g0 l0 dv=>by
  cases dv with
  | str _ t=>
   have go:∀(T:String),(["enumerate","zip","dict_itemiterator","dict_reverseitemiterator","odict_iterator","itertools.zip_longest","itertools.pairwise"].contains T)=false→(∀A':Around,A'.handled=none→Walks prog w A' g0.heap.objs.size [g0.heap.objs.size] [g0.heap.objs.size] x.cps.size (SignAt x) (fun i h=>h.IsStrIter g0.heap.objs.size T x t i))→
     Q (.ref g0.heap.objs.size) {g0 with heap:=g0.heap.push {cls:=.type T,data:=.fields #[.str x t,.int 0 0]}}:=fun T hT W=>by
    refine K _ _ g0.heap (l0.trans (Kp.push _ _)) l0.hk (Hk.push _ _) ?_
    have W:=W A rm.hd
    rw[show x.cps.size=(x.cps.toList.map fun c=>D.str ⟨#[c]⟩).length from by simp]at W
    refine⟨_,_,_,_,W,⟨_,get?_push_size _ rfl,rfl,rfl⟩,?_,?_,?_,?_,?_,?_⟩
    ·intro b hb;rw[zS hb];exact a0c (Nat.le_refl _)
    ·intro j h st b hb;rw[zS hb];obtain⟨o,e,_⟩:=st;exact⟨o,e⟩
    ·intro b hb
     rw[zS hb];exact⟨_,get?_push_size _ rfl⟩
    ·intro b hb;rw[zS hb];exact(c.keeps l0).fresh (Nat.le_refl _)
    ·intro tgt i v s Q E st hQ;obtain⟨o,e,hc,hd⟩:=st;exact b2s e hc hd hT hQ
    ·intro j v hv
     obtain⟨c,t,hc,rfl⟩:=hv
     exact⟨D.str ⟨#[c]⟩,by simp[hc],g0.heap,Hk.push _ _,Hk.refl _,.str _ _⟩
   cases ha:x.cps.all (· < 128)
   ·exact wpAny_pyIter_wide ha (go _ (by decide) fun A' hA=>Walks.strWide hA _ x t)
   ·exact wpAny_pyIter_ascii ha (go _ (by decide) fun A' hA=>Walks.strAscii hA _ x t)
theorem It.range {e:Expr} {rp p:Pos} (hx:env.kindOf "range"=some .globalImplicit) (hg:G.glb "range"=some none) (h:EvL prog w G n env ρ [e] [.int N]) (hN:N < 2 ^ 62):
  It prog w G n env ρ (.Call (.Name "range" rp) [e] [] p) ((List.range N).map fun(i:Nat)=>D.int (i:Int)):=
 fun A M s Q E rm c K=>wpAny_Call_NameR (a1v (v:=.type "range") c.kind c.glob c.bi c.top hx hg boot_range (by decide) (by
  have hp:=h.plain (pos:=p)
  cases h with
  | cons h he r=>
   refine PySem.callWith_type (T:="range") hp ?_
   rw[he]
   refine Calls.evalArgs_plain ?_
   show wpAny _ _ (spliced (backTo p ((false,eval e env)::starEach [] env))) _ _ _
   rw[←he]
   refine EvL.go rm (.cons h he r) c fun vs g0 l0 dv=>?_
   cases dv with
   | cons d0 d1=>
    cases d1
    cases d0 with
    | int _ t=>
     refine call_range_1 ?_
     refine wpAny_pyIter_range (IsRange.new ..) (small_one (by decide) (by decide) (by omega) (by omega)) ?_
     refine K _ _ g0.heap ?_ l0.hk (Hk.trans (Hk.push _ _) (Hk.push _ _)) ?_
     ·obtain⟨h1,t1,rfl,hk1⟩:=l0
      exact⟨_,_,rfl,Hk.trans hk1 (Hk.trans (Hk.push _ _) (Hk.push _ _))⟩
     have hsz:Builtin.Range.rangeSize 0 (N:Int) 1=(N:Int):=by rw[rangeSize_one];split <;> omega
     have W:=(Walks.range (prog:=prog) (w:=w) rm.hd (g0.heap.push {cls:=.type "range",data:=.fields #[.int 0 g0.toks,.int N t,.int 1 (g0.toks+1)]}).objs.size 0 1 N).bound
     rw[show(Walks prog w A _ _ _ N _ _)=(Walks prog w A _ _ _ ((List.range N).map fun(i:Nat)=>D.int (i:Int)).length _ _)from by rw[length_map,length_range]]at W
     refine⟨_,_,_,_,W,?_,?_,?_,?_,?_,?_,?_⟩
     ·have e1:(0+((0:Nat):Int) * 1)=0:=by simp
      have e2:((N:Int) - ((0:Nat):Int))=Builtin.Range.rangeSize 0 N 1:=by rw[hsz];simp
      rw[e1,e2]
      exact get?_push_size _ rfl
     ·intro b hb;rw[zS hb];exact a0c (by rw[size_push];exact Nat.le_succ _)
     ·intro j h st b hb;rw[zS hb];exact⟨_,st⟩
     ·intro b hb;rw[zS hb];exact⟨_,get?_push_size _ rfl⟩
     ·intro b hb;rw[zS hb];exact(c.keeps l0).fresh (by rw[size_push];exact Nat.le_succ _)
     ·intro tgt i v s Q E st hQ;exact b2s st rfl rfl (by decide) hQ
     ·intro j v hI'
      obtain⟨hj,t,rfl⟩:=hI'
      refine⟨D.int j,by simp[hj],g0.heap,Hk.trans (Hk.push _ _) (Hk.push _ _),Hk.refl _,?_⟩
      rw[show(0+(j:Int) * 1)=(j:Int) by omega]
      exact .int _ _) (by decide))
end
end
section
noncomputable def upd (vm:Str→Option Value) (x:Str) (v:Value):Str→Option Value:=fun y=>if y=x then some v else vm y
theorem a5c {x:Str}:upd vm x v x=some v:=by simp[upd]
theorem a6h {x y:Str} (h:y≠x):upd vm x v y=vm y:=by simp[upd,h]
structure Fm (env:Env) (own:List (Str×Addr)) (h:Heap) (vm:Str→Option Value):Prop where
 loc:∃m,h.Ns env.locals m∧∀x,env.kindOf x=some .local→m x=vm x
 cel:∀x c,(x,c)∈own→env.kindOf x=some .cell∧env.cells.lookup x=some c∧h.IsCell c (vm x)
 apart:own.Pairwise fun x y=>x.2≠y.2
 ne:∀x c,(x,c)∈own→c≠env.locals
noncomputable def fms (env:Env) (own:List (Str×Addr)):List Addr:=env.locals::own.map (·.2)
theorem Fm.keeps {h:Heap} (F:Fm env own h vm) (k:∀b∈fms env own,∀o,h.get? b=some o→h'.get? b=some o):Fm env own h' vm:=by
 refine⟨?_,fun x c e=>?_,F.apart,F.ne⟩
 ·obtain⟨m,⟨o,es,ep,e,r⟩,hm⟩:=F.loc
  exact⟨m,⟨o,es,ep,k _ (.head _) _ e,r⟩,hm⟩
 ·obtain⟨a,b,⟨o,e1,e2⟩⟩:=F.cel x c e
  exact⟨a,b,o,k c (.tail _ (zN ⟨(x,c),e,rfl⟩)) _ e1,e2⟩
theorem Fm.name {h:Heap} (F:Fm env own h vm) {x:Str} (hx:env.kindOf x=some .local∨∃c,own.lookup x=some c) (hv:vm x=some v):a4b h env x v:=by
 rcases hx with hx | ⟨c,hc⟩
 ·obtain⟨m,hn,hm⟩:=F.loc
  exact .loc m hx hn ((hm x hx).trans hv)
 ·obtain⟨a,b,e⟩:=F.cel x c (mem_of_lookup hc)
  exact .cell c a b (hv▸e)
theorem Fm.there {h:Heap} (F:Fm env own h vm):∀b∈fms env own,∃o,h.get? b=some o:=by
 intro b hb
 rcases a0o hb with rfl | hb
 ·obtain⟨m,⟨o,es,ep,e,r⟩,hm⟩:=F.loc;exact⟨o,e⟩
 ·obtain⟨⟨x,c⟩,hm,rfl⟩:=zM hb
  obtain⟨_,_,⟨o,e1,e2⟩⟩:=F.cel x c hm
  exact⟨o,e1⟩
inductive Lo (env:Env) (own:List (Str×Addr)) (x:Str):Prop
 | inl:env.kindOf x=some .local→Lo env own x
 | inr:(∃c,(x,c)∈own)→Lo env own x
inductive Va (env:Env) (own:List (Str×Addr)) (P:Addr→Option Obj) (vm:Str→Option Value) (x:Str) (d:D):Prop
 | mk:Lo env own x→(v:Value)→vm x=some v→DR P v d→Va env own P vm x d
section
variable {M:Model} {s:Shared}
theorem Fm.store {x:Str} {Q:Unit→Shared→Prop} (F:Fm env own s.heap vm) (hk:env.scope.kind= .function)
  (hx:Lo env own x)
  (K:∀h' tk,Fm env own h' (upd vm x v)→(∀b o,b∉fms env own→s.heap.get? b=some o→h'.get? b=some o)→(∀b,h'.get? b=none→s.heap.get? b=none)→Q () {s with heap:=h',toks:=tk}):wpAny M A (storeName env x v) Q E s:=by
 clear Q v vm own
 rcases hx with hx | ⟨c,hc⟩
 ·obtain⟨m,hn,hm⟩:=F.loc
  refine wpAny_storeName_local hx hn (fun h' hn' hs=>K h' _ ⟨⟨_,hn',fun y hy=>?_⟩,fun y c hy=>?_,F.apart,F.ne⟩ (fun b o hb e=>(hs.2 b fun e'=>hb (e'▸.head _)).trans e) fun b e=>?_) (by rw[hk];rfl)
  ·unfold upd;split
   ·rfl
   ·exact hm y hy
  ·obtain⟨a,b,e⟩:=F.cel y c hy
   have hne:y≠x:=by rintro rfl;rw[hx]at a;cases a
   rw[a6h hne]
   exact⟨a,b,e.sameBut hs (F.ne y c hy)⟩
  ·clear hx hx
   by_cases hb:b=env.locals
   ·clear env env
    subst hb;obtain⟨o,es,ep,e',r⟩:=hn';exact nsn e e'
   ·exact(hs.2 b hb).symm.trans e
 ·clear hx env
  obtain⟨a,b0,e0⟩:=F.cel x c hc
  refine wpAny_storeName_cell hk a b0 e0 fun h' he hs=>K h' s.toks ⟨?_,fun y c' hy=>?_,F.apart,F.ne⟩ (fun b o hb e=>(hs.2 b fun e'=>hb (e'▸.tail _ (zN ⟨(x,c),hc,rfl⟩))).trans e) fun b e=>?_
  ·clear e0 K hk
   obtain⟨m,hn,hm⟩:=F.loc
   refine⟨m,hn.sameBut hs fun e'=>F.ne x c hc e'.symm,fun y hy=>?_⟩
   have hne:y≠x:=by rintro rfl;rw[hy]at a;cases a
   rw[a6h hne];exact hm y hy
  ·clear e0 a K hk
   obtain⟨a',b',e'⟩:=F.cel y c' hy
   by_cases hne:y=x
   ·clear x x
    subst hne
    have:c'=c:=by rw[b0]at b';exact(Option.some.inj b').symm
    clear b0 b0
    subst this
    rw[a5c];exact⟨a',b',he⟩
   ·rw[a6h hne]
    exact⟨a',b',e'.sameBut hs fun ec=>hne (name_of_addr F.apart hy (ec▸hc))⟩
  ·clear e0 b0 a hc K hk F x
   by_cases hb:b=c
   ·clear c c
    subst hb;obtain⟨o,e',r⟩:=he;exact nsn e e'
   ·exact(hs.2 b hb).symm.trans e
end
end
section
theorem b2a {h:Heap} {N:List Addr} (k:Hk h h') (hN:∀b∈N,h.get? b=none):∀a o,vis h M a=some o→vis h' (N++M) a=some o:=fun a o e=>by
 refine a0v (k a o (a0b e).1) fun hm=>?_
 rcases zA hm with hm | hm
 ·exact nsn (hN a hm) ((a0b e).1)
 ·exact(a0b e).2 hm
theorem a4c {h:Heap} {N:List Addr}:∀a o,vis h (N++M) a=some o→vis h M a=some o:=fun a o e=>
 a0v (a0b e).1 fun hm=>(a0b e).2 (zB (.inr hm))
inductive Bd (ok:Str→Prop):Expr→D→List (Str×D)→Prop
 | name {x:Str} {p:Pos} {d:D}:ok x→Bd ok (.Name x p) d [(x,d)]
 | pair {x y:Str} {px py p:Pos} {k:Nat} {a b:D}:x≠y→ok x→ok y→Bd ok (.Tuple [.Name x px,.Name y py] k p) (.tuple [a,b]) [(x,a),(y,b)]
theorem Bd.imp {ok ok':Str→Prop} (h:∀x,ok x→ok' x) {t:Expr} {d:D} {bs:List (Str×D)} (b:Bd ok t d bs):Bd ok' t d bs:=by
 cases b with
 | name hx=>exact .name (h _ hx)
 | pair hxy hx hy=>exact .pair hxy (h _ hx) (h _ hy)
section
variable {s:Shared}
theorem a8a {N:List Addr} {d:D} {bs:List (Str×D)} {Q:Unit→Shared→Prop} (F:Fm env own s.heap vm) (hk:env.scope.kind= .function)
  (hh:A.handled=none) (B:Bd (fun x=>Lo env own x) target d bs) (dv:DR (vis s.heap N) v d) (hN:∀b∈fms env own,b∈N) (hlt:∀b∈fms env own,b < s.heap.objs.size)
  (K:∀h' tk vm',Fm env own h' vm'→(∀b o,b∉fms env own→s.heap.get? b=some o→h'.get? b=some o)→
   (∀x dx,bs.lookup x=some dx→Va env own (vis h' N) vm' x dx)→(∀x,bs.lookup x=none→vm' x=vm x)→Q () {s with heap:=h',toks:=tk}):wpAny (model prog w) A (assign target env v) Q E s:=by
 have up:∀{h h':Heap},(∀b o,b∉fms env own→h.get? b=some o→h'.get? b=some o)→∀a o,vis h N a=some o→vis h' N a=some o:=fun hh'=>
  a0x fun b o e hb=>hh' b o (fun hm=>hb (hN b hm)) e
 cases B with
 | name hx=>
  rename_i x p
  refine wpAny_assign_Name (F.store hk hx fun h' tk F' kk _=>K h' tk _ F' kk (fun y dy e=>?_) fun y e=>?_)
  ·rw[lookup_cons]at e
   cases hb:y == x with
   | true=>rw[hb]at e;cases e;rw[beq_iff_eq.mp hb];exact⟨hx,v,a5c,dv.mono (up kk)⟩
   | false=>rw[hb]at e;cases e
  ·rw[lookup_cons]at e
   cases hb:y == x with
   | true=>rw[hb]at e;cases e
   | false=>exact a6h (by simpa using hb)
 | pair hxy hx hy=>
  rename_i x y px py p k a b
  cases dv with
  | tuple e r=>
   cases r with
   | @cons va _ _ _ da r=>
    cases r with
    | @cons vb _ _ _ db r=>
     cases r
     refine wpAny_assign_Tuple hh (a5x e) rfl rfl fun j2 kG=>?_
     have y4:∀b o,s.heap.get? b=some o→j2.get? b=some o:=fun b o e=>kG b o (Nat.ne_of_lt (lt_size e)) e
     have x7:Fm env own j2 vm:=F.keeps fun b _ o e=>y4 b o e
     refine wpAny_assignInOrder_more (wpAny_assign_Name (x7.store (s:={s with heap:=j2}) hk hx fun v4 i7 i9 i6 _=>?_))
     refine wpAny_assignInOrder_more (wpAny_assign_Name (i9.store (s:={s with heap:=v4,toks:=i7}) hk hy fun e6 nA iD m7 _=>wpAny_assignInOrder_none ?_))
     have kk:∀b o,b∉fms env own→s.heap.get? b=some o→e6.get? b=some o:=fun b o hb e=>m7 b o hb (i6 b o hb (y4 b o e))
     refine K e6 nA _ iD kk (fun z dz ez=>?_) fun z ez=>?_
     ·rw[lookup_cons]at ez
      cases hb:z == x with
      | true=>
       rw[hb]at ez;cases ez;rw[beq_iff_eq.mp hb]
       exact⟨hx,va,by rw[a6h hxy];exact a5c,da.mono (up kk)⟩
      | false=>
       rw[hb,lookup_cons]at ez
       cases hb':z == y with
       | true=>rw[hb']at ez;cases ez;rw[beq_iff_eq.mp hb'];exact⟨hy,vb,a5c,db.mono (up kk)⟩
       | false=>rw[hb']at ez;cases ez
     ·rw[lookup_cons]at ez
      cases hb:z == x with
      | true=>rw[hb]at ez;cases ez
      | false=>
       rw[hb,lookup_cons]at ez
       cases hb':z == y with
       | true=>rw[hb']at ez;cases ez
       | false=>rw[a6h (by simpa using hb'),a6h (by simpa using hb)]
end
theorem a1c:∀(names:List (Str×NameKind)) (n:Nat) (acc:List (Str×Addr)),cellsFrom n names acc=cellsFrom n names []++acc:=by
 intro v'
 induction v' with
 | nil=>
  intro n acc
  exact rfl
 | cons hd' r ih'=>
  intro n acc
  obtain⟨x,k⟩:=hd'
  unfold cellsFrom
  split
  ·rw[ih' (n+1) ((x,n)::acc),ih' (n+1) [(x,n)],append_assoc];rfl
  ·exact ih' n acc
theorem a2g:∀(names:List (Str×NameKind)) (n:Nat) (x:Str) (c:Addr),(x,c)∈cellsFrom n names []→(x,.cell)∈names:=by
 intro v'
 induction v' with
 | nil=>
  intro n x c h
  cases h
 | cons hd' r ih'=>
  intro n x c h
  obtain⟨y,k⟩:=hd'
  unfold cellsFrom at h
  split at h
  ·rename_i hk
   rw[a1c]at h
   rcases zA h with h | h
   ·exact .tail _ (ih' _ x c h)
   ·cases zS h
    rw[beq_iff_eq.mp hk];exact .head _
  ·exact .tail _ (ih' n x c h)
theorem a1s:∀(names:List (Str×NameKind)) (n:Nat) (x:Str),(x,NameKind.cell)∈names→∃c,(x,c)∈cellsFrom n names []:=by
 intro v'
 induction v' with
 | nil=>
  intro n x h
  cases h
 | cons hd' r ih'=>
  intro n x h
  obtain⟨y,k⟩:=hd'
  unfold cellsFrom
  rcases zC h with e | h
  ·cases e
   rw[if_pos (by rfl),a1c]
   exact⟨n,zB (.inr (.head _))⟩
  ·split
   ·rw[a1c]
    obtain⟨c,hc⟩:=ih' (n+1) x h
    exact⟨c,zB (.inl hc)⟩
   ·exact ih' n x h
theorem a7m (f:Str→NameKind→NameKind):∀(l:List (Str×NameKind)) (x:Str),(l.map fun p=>(p.1,f p.1 p.2)).lookup x=(l.lookup x).map (f x):=by
 intro v'
 induction v' with
 | nil=>
  intro x
  exact rfl
 | cons hd' r ih'=>
  intro x
  obtain⟨n,k⟩:=hd'
  rw[map_cons,lookup_cons,lookup_cons]
  cases hb:x == n with
  | true=>rw[beq_iff_eq.mp hb];rfl
  | false=>exact ih' x
theorem a1h (scope:Scope) (env:Env) (x:Str):(relabel scope env).names.lookup x=(scope.names.lookup x).map fun k=>if(k == .free && env.scope.kind == .function && env.kindOf x == some .cell)then .cell else k:=by
 rw[←a7m (fun n k=>if(k == .free && env.scope.kind == .function && env.kindOf n == some .cell)then .cell else k)]
 unfold relabel
 congr 1
 refine map_congr_left fun p _=>?_
 obtain⟨n,k⟩:=p
 simp only
 split <;> rfl
theorem a4p (h:∀y,(y,NameKind.free)∈scope.names→∃c,env.cells.lookup y=some c):
  ∃cl,closureFor scope env=pure cl∧(∀y c,cl.lookup y=some c→env.cells.lookup y=some c)∧∀y,(y,NameKind.free)∈scope.names→∃c,cl.lookup y=some c:=by
 unfold closureFor
 suffices H:∀(names:List (Str×NameKind)) (acc:List (Str×Addr)),(∀y,(y,NameKind.free)∈names→∃c,env.cells.lookup y=some c)→(∀y c,acc.lookup y=some c→env.cells.lookup y=some c)→
   ∃cl,(forIn names acc fun x cs=>match x with | (name,kind)=>if(kind == NameKind.free)=true then(do let a ←cellOf env name;pure (ForInStep.yield ((name,a)::cs)))else pure (ForInStep.yield cs))=(pure cl:Sem _)∧
    (∀y c,cl.lookup y=some c→env.cells.lookup y=some c)∧(∀y c,acc.lookup y=some c→∃c,cl.lookup y=some c)∧∀y,(y,NameKind.free)∈names→∃c,cl.lookup y=some c by
  obtain⟨cl,e,a,_,b⟩:=H scope.names [] h (fun y c e=>by cases e)
  exact⟨cl,(congrArg (fun t:Sem (List (Str×Addr))=>t >>= fun r=>pure r) e).trans rfl,a,b⟩
 intro names
 induction names with
 | nil=>intro acc _ ha;exact⟨acc,rfl,ha,fun y c e=>⟨c,e⟩,fun y hy=>by cases hy⟩
 | cons p r ih=>
  obtain⟨x,k⟩:=p
  intro acc hn ha
  rw[forIn_cons]
  by_cases hk:k= .free
  ·subst hk
   obtain⟨c,hc⟩:=hn x (.head _)
   obtain⟨cl,e,a,b,d⟩:=ih ((x,c)::acc) (fun y hy=>hn y (.tail _ hy)) (fun y c' hy=>by
    rw[lookup_cons]at hy
    cases hb:y == x with
    | true=>rw[hb]at hy;cases hy;rw[beq_iff_eq.mp hb];exact hc
    | false=>rw[hb]at hy;exact ha y c' hy)
   refine⟨cl,?_,a,fun y c' hy=>?_,fun y hy=>?_⟩
   ·have:cellOf env x=pure c:=by unfold cellOf;rw[hc]
    simp only[beq_self_eq_true,if_true,this]
    exact e
   ·by_cases hb:y=x
    ·exact b y c (by rw[lookup_cons,beq_iff_eq.mpr hb])
    ·exact b y c' (by rw[lookup_cons,show(y == x)=false by simpa using hb];exact hy)
   ·rcases zC hy with e' | hy
    ·cases e';exact b x c (by rw[lookup_cons,beq_self_eq_true])
    ·exact d y hy
  ·obtain⟨cl,e,a,b,d⟩:=ih acc (fun y hy=>hn y (.tail _ hy)) ha
   refine⟨cl,?_,a,b,fun y hy=>?_⟩
   ·have:(k == NameKind.free)=false:=by simpa using hk
    simp only[this,Bool.false_eq_true,if_false]
    exact e
   ·rcases zC hy with e' | hy
    ·cases e';exact absurd rfl hk
    ·exact d y hy
end
section
theorem a0s {α:Type}:∀{l:List (Str×α)} {x:Str} {c:α},(l.map (·.1)).Nodup→(x,c)∈l→l.lookup x=some c:=by
 intro v'
 induction v' with
 | nil=>
  intro _ _ _ h
  cases h
 | cons hd' r ih'=>
  intro x c hn h
  obtain⟨y,d⟩:=hd'
  rw[map_cons,nodup_cons]at hn
  rw[lookup_cons]
  rcases zC h with e | h1
  ·cases e;rw[beq_self_eq_true]
  ·have hne:(x == y)=false:=by
    have:x≠y:=fun e=>hn.1 (zN ⟨(x,c),h1,e⟩)
    simpa using this
   rw[hne];exact ih' hn.2 h1
theorem a2c:∀(names:List (Str×NameKind)) (n:Nat),(names.map (·.1)).Nodup→((cellsFrom n names []).map (·.1)).Nodup:=by
 intro v'
 induction v' with
 | nil=>
  intro n _
  simp[cellsFrom]
 | cons hd' r ih'=>
  intro n h
  obtain⟨x,k⟩:=hd'
  rw[map_cons,nodup_cons]at h
  unfold cellsFrom
  split
  ·rw[a1c,map_append,nodup_append]
   refine⟨ih' _ h.2,by simp,?_⟩
   intro a ha b hb e
   simp at hb
   subst e hb
   obtain⟨⟨y,c⟩,hm,e⟩:=zM ha
   simp at e;subst e
   exact h.1 (zN ⟨_,a2g r _ _ _ hm,rfl⟩)
  ·exact ih' n h.2
theorem a1e {α:Type}:∀(l l':List (Str×α)) (x:Str),(l++l').lookup x=(l.lookup x).or (l'.lookup x):=by
 intro v'
 induction v' with
 | nil=>
  intro l' x
  simp
 | cons hd' r ih'=>
  intro l' x
  obtain⟨y,d⟩:=hd'
  rw[cons_append,lookup_cons,lookup_cons]
  cases x == y with
  | true=>rfl
  | false=>exact ih' l' x
theorem b2p {α:Type} {l:List (Str×α)} {x:Str} (h:∀c,(x,c)∉l):l.lookup x=none:=by
 cases e:l.lookup x with
 | none=>rfl
 | some c=>exact absurd (mem_of_lookup e) (h c)
structure Sc (env:Env) (scope:Scope) (ρ ρ':List (Str×D)):Prop where
 kind:scope.kind= .function
 nodup:(scope.names.map (·.1)).Nodup
 free:∀y,(y,NameKind.free)∈scope.names→env.kindOf y=some .cell∨env.kindOf y=some .free
 cap:∀x d,ρ'.lookup x=some d→ρ.lookup x=some d∧scope.names.lookup x=some .free
noncomputable def Tsl (prog:Program) (w:World) (G:a1k) (n:Nat) (env:Env) (ρ:List (Str×D)):List Expr→Bool→Prop
 | [],b=>b=true
 | [c],b=>Ts prog w G n env ρ c b
 | _,_=>False
section
variable {n:Nat}
theorem Tsl.go {b:Bool} (h:Tsl prog w G n env ρ ifs b) {s:Shared} {Q:Bool→Shared→Prop} (rm:Rm A n) (c:Cd G env M ρ s) (K:∀s',Kp s s'→Q b s'):
  wpAny (model prog w) A (forIn ifs true fun c r=>if r=true then do let ok ←isTrue c env (eval c env);pure (ForInStep.yield ok)else pure (ForInStep.yield r)) Q E s:=by
 match ifs,h with
 | [],h=>cases h;exact wpAny_tests_nil (K s (Kp.refl _))
 | [x],h=>exact wpAny_tests_one (h A M s Q E rm c K)
theorem a9b {cl:List (Str×Addr)} {h:Heap} {x:Str} (sc:Sc env scope ρ ρ') (hcl:∀y c,cl.lookup y=some c→env.cells.lookup y=some c)
  (hcl':∀y,(y,NameKind.free)∈scope.names→∃c,cl.lookup y=some c) (hown:∀y c,(y,c)∈own→(y,NameKind.cell)∈scope.names) (hx:scope.names.lookup x=some .free) (hv:a4b z4 env x v) (k:Hk z4 h):
  a4b h (compEnvC scope (own++cl) C env) x v:=by
 have hm:=mem_of_lookup hx
 have ho:own.lookup x=none:=b2p fun c hc=>by
  have:=a0s sc.nodup (hown x c hc)
  rw[hx]at this;cases this
 have hk:(compEnvC scope (own++cl) C env).kindOf x=some .cell∨(compEnvC scope (own++cl) C env).kindOf x=some .free:=by
  show(relabel scope env).names.lookup x=_∨(relabel scope env).names.lookup x=_
  rw[a1h,hx]
  simp only[Option.map_some]
  split
  ·exact .inl rfl
  ·exact .inr rfl
 obtain⟨c,hc⟩:=hcl' x hm
 have hcc:(compEnvC scope (own++cl) C env).cells.lookup x=some c:=by
  show(own++cl).lookup x=_
  rw[a1e,ho];exact hc
 have he:=hcl x c hc
 have:z4.IsCell c (some v):=by
  cases hv with
  | loc m a b d=>rcases sc.free x hm with e | e <;> (rw[a]at e;cases e)
  | cell c' a b d=>rw[he]at b;cases b;exact d
  | free c' a b d=>rw[he]at b;cases b;exact d
 rcases hk with hk | hk
 ·exact .cell c hk hcc (this.keeps k)
 ·exact .free c hk hcc (this.keeps k)
end
end
section
section
variable {n:Nat}
theorem a6n {s:Shared} {iter:Expr} {it acc:Value} (I:Nat→Shared→Prop)
  (turn:∀n s,I n s→wpAny (model prog w) A (pyNext it) (fun r g0=>match r with
   | none=>R (.ok .next) g0
   | some v=>wpAny (model prog w) A (letOwnedTupleGo target it v) (fun _ jB=>wpAny (model prog w) A (assign target env v) (fun _ u0=>
     wpAny (model prog w) A (forIn ifs true fun c r=>if r=true then do let ok ←isTrue c env (eval c env);pure (ForInStep.yield ok)else pure (ForInStep.yield r)) (fun ok y2=>
      if ok=true then wpAny (model prog w) A (eval elt env) (fun x l3=>
       wpAny (model prog w) A (call (.builtin "list.append") [acc,x]) (fun _ y3=>∃m,m < n∧I m y3) (notedBy (model prog w) A env fun e s'=>R (.error e) s') l3) (notedBy (model prog w) A env fun e s'=>R (.error e) s') y2
      else ∃m,m < n∧I m y2) (notedBy (model prog w) A env fun e s'=>R (.error e) s') u0) (notedBy (model prog w) A env fun e s'=>R (.error e) s') jB) (notedBy (model prog w) A env fun e s'=>R (.error e) s') g0) (notedBy (model prog w) A env fun e s'=>R (.error e) s') s)
  (n:Nat) (h:I n s):codeAny (model prog w) A (.compLoop (.ListComp elt [⟨target,iter,ifs,0⟩] scope pos) 0 it acc env) R s:=by
 refine codeAny_loop rfl I (fun n s hI=>?_) n h
 show wpAny _ A ((compTurn (.ListComp elt [⟨target,iter,ifs,0⟩] scope pos) 0 it acc env).onRaise (fun x=>do noteFrame x env;theTreesLotGoes x)) _ _ s
 refine wpAny_noted ?_
 rw[compTurn_list]
 refine wpAny_bind (wpAny_standAt (wpAny_bind (wpAny_mono (turn n s hI) (fun r g0 j2=>?_) fun _ _ h'=>h')))
 cases r with
 | none=>exact wpAny_pure j2
 | some v=>
  refine wpAny_bind (wpAny_mono j2 (fun _ jB fF=>?_) fun _ _ h'=>h')
  refine wpAny_bind (wpAny_mono fF (fun _ u0 v4=>wpAny_bind (wpAny_mono v4 (fun ok y2 e6=>?_) fun _ _ h'=>h')) fun _ _ h'=>h')
  cases ok with
  | false=>exact wpAny_pure ⟨rfl,e6⟩
  | true=>exact wpAny_bind (wpAny_bind (wpAny_mono e6 (fun x l3 l9=>wpAny_bind (wpAny_mono l9 (fun _ y3 k6=>wpAny_pure (wpAny_pure ⟨rfl,k6⟩)) fun _ _ h'=>h')) fun _ _ h'=>h'))
inductive d2e {α:Type} (s:Shared) (xs:List α) (p:α→Bool) (f:α→D) (St:Nat→Heap→Prop) (cenv:Env) (own:List (Str×Addr)) (Dl:Addr) (N M wr:List Addr) (H2:Heap) (q:Nat) (s':Shared):Prop
 | mk (h:Heap) (tk:Nat) (vm:Str→Option Value) (ys:List Value) (e i:Nat):s'={s with heap:=h,toks:=tk}→q=xs.length+1 - i→i≤xs.length→St i h→Fm cenv own h vm→h.get? Dl=some {cls:=.type "list",data:=.seq (ys:List Value).toArray e}→
   DRs (vis h (N++M)) ys (((xs.take i).filter p).map f)→(∀b o,b∉wr→H2.get? b=some o→h.get? b=some o)→d2e s xs p f St cenv own Dl N M wr H2 q s'
theorem a7w {α:Type} {s u0:Shared} {old:Heap} {xs:List α} {g:α→D} {iter:Expr} {cl:List (Str×Addr)}
  (rm:Rm A n) (c:Cd G env M ρ s) (k:Kp s u0) (hso:Hk s.heap old) (hos:Hk old u0.heap) (itr:Itr prog w A old u0.heap M I (xs.map g)) (hsz:xs.length≤sizeLine) (sc:Sc env scope ρ ρ')
  (hcl:∀y c,cl.lookup y=some c→env.cells.lookup y=some c) (hcl':∀y,(y,NameKind.free)∈scope.names→∃c,cl.lookup y=some c)
  (p:α→Bool) (f:α→D) (bs:α→List (Str×D))
  (hb:∀d∈xs,Bd (fun x=>scope.names.lookup x=some .local∨scope.names.lookup x=some .cell) target (g d) (bs d))
  (ht:∀C cells,∀d∈xs,Tsl prog w G n (compEnvC scope cells C env) (bs d++ρ') ifs (p d))
  (he:∀C cells,∀d∈xs,p d=true→Ev prog w G n (compEnvC scope cells C env) (bs d++ρ') elt (f d))
  {RR:Value→Addr→Result→Shared→Prop}
  (hRR:∀Dl C s' m,Kp s s'→s.heap.get? C=none→s.heap.get? Dl=none→s'.heap.Ns C m→DR (vis s'.heap (C::M)) (.ref Dl) (.list ((xs.filter p).map f))→RR (.ref Dl) C (.ok .next) s'):
  wpAny (model prog w) A (newList []) (fun acc y2=>wpAny (model prog w) A (newFunctionEnv scope env.globals cl [] env.qual none .none (some env)) (fun cenv l3=>
   codeAny (model prog w) A (.compStart (.ListComp elt [⟨target,iter,ifs,0⟩] scope pos) 0 (.ref I) acc {cenv with scope:=relabel scope env}) (RR acc cenv.locals) l3) E y2) E u0:=by
 walk_at "c"
 rcases itr with⟨fp,wr,P,St,W,st0,hwr,hwx,hfp,hfM,hgo,hP⟩
 rw[length_map]at W
 have qE:=c.keeps k
 rcases k with⟨H2,t2,rfl,hk2⟩
 walk_at "u"
 refine wpAny_newList ?_
 show wpAny _ _ (newFunctionEnv scope env.globals cl [] env.qual none .none (some env)) _ _ _
 have eD:∃Dl,Dl=H2.objs.size:=⟨_,rfl⟩
 walk_at "c"
 rcases eD with⟨Dl,eD⟩
 have eC:∃C,C=H2.objs.size+1:=⟨_,rfl⟩
 rcases eC with⟨C,eC⟩
 walk_at "u"
 simp only[newFunctionEnv,Option.isSome_some,if_true]
 refine wpAny_bind (wpAny_alloc ?_)
 have eS:(H2.push {cls:=.type "list",data:=.seq ([]:List Value).toArray}).objs.size=C:=by rw[size_push,eC]
 show wpAny _ _ _ _ _ {heap:=(H2.push {cls:=.type "list",data:=.seq ([]:List Value).toArray}).push {cls:=.type "dict",data:=.dict #[]},gens:=s.gens,drawn:=s.drawn,toks:=t2,os:=s.os}
 refine wpAny_bind (wpAny_layCells _ (fun name kind cells=>by cases hkc:kind == NameKind.cell <;> simp[hkc]) _ _ _ _ ?_)
 refine wpAny_bind (wpAny_pure (wpAny_pure ?_))
 have e3:((H2.push {cls:=.type "list",data:=.seq ([]:List Value).toArray}).push {cls:=.type "dict",data:=.dict #[]}).objs.size=C+1:=by rw[size_push,eS]
 have e4:∃H4,H4=pushCells ((H2.push {cls:=.type "list",data:=.seq ([]:List Value).toArray}).push {cls:=.type "dict",data:=.dict #[]}) scope.names:=⟨_,rfl⟩
 obtain⟨H4,e4⟩:=e4
 have hl2:Hk H2 H4:=by rw[e4];exact fun b o e=>pushCells_keeps _ _ b o (get?_push_of_some _ (get?_push_of_some _ e))
 have hD4:H4.get? Dl=some {cls:=.type "list",data:=.seq ([]:List Value).toArray}:=by rw[e4,eD];exact pushCells_keeps _ _ _ _ (get?_push_of_some _ (get?_push_size _ rfl))
 have hC4:H4.Ns C (fun _=>none):=by
  rw[e4,←eS]
  exact(Heap.Ns.new _ (.type "dict")).keeps (pushCells_keeps _ _)
 have ok:CellsOk H4 (C+1) (cellsFrom (C+1) scope.names []):=by
  have:=cellsFrom_ok scope.names ((H2.push {cls:=.type "list",data:=.seq ([]:List Value).toArray}).push {cls:=.type "dict",data:=.dict #[]}) (C+1) [] ⟨fun _ _ hm=>(nomatch hm),List.Pairwise.nil⟩ (Nat.le_of_eq e3.symm)
  rw[e3]at this
  rw[e4];exact this
 show codeAny _ A (.compStart _ 0 (.ref I) (.ref H2.objs.size) (compEnvC scope (cellsFrom ((H2.push {cls:=.type "list",data:=.seq ([]:List Value).toArray}).push {cls:=.type "dict",data:=.dict #[]}).objs.size scope.names cl) (H2.push {cls:=.type "list",data:=.seq ([]:List Value).toArray}).objs.size env)) (RR (.ref H2.objs.size) (H2.push {cls:=.type "list",data:=.seq ([]:List Value).toArray}).objs.size) {heap:=pushCells ((H2.push {cls:=.type "list",data:=.seq ([]:List Value).toArray}).push {cls:=.type "dict",data:=.dict #[]}) scope.names,gens:=s.gens,drawn:=s.drawn,toks:=t2,os:=s.os}
 rw[e3,eS,←e4,←eD,a1c]
 have eo:∃own,own=cellsFrom (C+1) scope.names []:=⟨_,rfl⟩
 obtain⟨own,eo⟩:=eo
 rw[←eo]at ok ⊢
 have hown:∀y c,(y,c)∈own→(y,NameKind.cell)∈scope.names:=fun y c h=>a2g _ _ y c (eo▸h)
 have hownl:∀y c,(y,c)∈own→own.lookup y=some c:=fun y c h=>by
  rw[eo];exact a0s (a2c _ _ sc.nodup) (eo▸h)
 have hownh:∀y,scope.names.lookup y=some .cell→∃c,(y,c)∈own:=fun y h=>by rw[eo];exact a1s _ _ y (mem_of_lookup h)
 clear eo e4 e3
 have ecv:∃cenv,cenv=compEnvC scope (own++cl) C env:=⟨_,rfl⟩
 walk_at "c"
 rcases ecv with⟨cenv,ecv⟩
 have hkO:∀x k,k≠.free→scope.names.lookup x=some k→cenv.kindOf x=some k:=fun x k hk hx=>by
  rw[ecv]
  show(relabel scope env).names.lookup x=_
  rw[a1h,hx]
  have:(k == NameKind.free)=false:=by simpa using hk
  simp only[Option.map_some,this,Bool.false_and,Bool.false_eq_true,if_false]
 have F4:Fm cenv own H4 (fun _=>none):=by
  refine⟨⟨_,by rw[ecv];exact hC4,fun _ _=>rfl⟩,fun x c hx=>⟨hkO x _ (by decide) (a0s sc.nodup (hown x c hx)),?_,(ok.empty x c hx).1⟩,ok.apart,fun x c hx=>?_⟩
  ·rw[ecv];show(own++cl).lookup x=_
   rw[a1e,hownl x c hx];rfl
  ·rw[ecv];show c≠C
   exact Nat.ne_of_gt (ok.empty x c hx).2
 have hok:∀x,(scope.names.lookup x=some .local∨scope.names.lookup x=some .cell)→Lo cenv own x:=fun x hx=>by
  rcases hx with hx | hx
  ·exact .inl (hkO x _ (by decide) hx)
  ·exact .inr (hownh x hx)
 have hfl:∀b∈Dl::fms cenv own,H2.objs.size≤b:=fun b hb=>by
  rcases a0o hb with rfl | hb
  ·omega
  ·rcases a0o hb with rfl | hb
   ·rw[ecv];show H2.objs.size≤C;omega
   ·obtain⟨⟨x,c⟩,hm,rfl⟩:=zM hb
    have:=(ok.empty x c hm).2
    show H2.objs.size≤c;omega
 have hDf:Dl∉fms cenv own:=fun hm=>by
  rcases zC hm with e | hm
  ·rw[ecv]at e;have:Dl=C:=e;omega
  ·obtain⟨⟨x,c⟩,hm,e⟩:=zM hm
   have:=(ok.empty x c hm).2
   have e':c=Dl:=e
   omega
 have hfpn:∀b∈fp,b∉Dl::fms cenv own:=fun b hb hm=>by obtain⟨_,h0⟩:=hfp b hb;have h1:=lt_size h0;have h2:=hfl b hm;exact absurd h1 (Nat.not_lt.mpr h2)
 have hwrn:∀b∈Dl::fms cenv own,b∉wr:=fun b hb hm=>hfpn b (W.sub b hm) hb
 have hnone:∀b∈Dl::fms cenv own,H2.get? b=none:=fun b hb=>a0c (hfl b hb)
 have eN:∃N,N=(Dl::fms cenv own)++wr:=⟨_,rfl⟩
 rcases eN with⟨N,eN⟩
 walk_at "u"
 have hNf:∀b∈fms cenv own,b∈N:=fun b hb=>by rw[eN];exact zB (.inl (.tail _ hb))
 have hND:Dl∈N:=by rw[eN];exact zB (.inl (.head _))
 have hNw:∀b∈wr,b∈N:=fun b hb=>by rw[eN];exact zB (.inr hb)
 have hNnone:∀h:Heap,Hk h H2→Hk h old→∀b∈N,h.get? b=none:=fun h h1 h2 b hb=>by
  rw[eN]at hb
  cases e:h.get? b with
  | none=>rfl
  | some o=>
   rcases zA hb with hb | hb
   ·exact nsn (hnone b hb) (h1 b o e)
   ·exact nsn (hwr b hb) (h2 b o e)
 have hcd:∀(h:Heap) (tk:Nat) (d:α) (vm:Str→Option Value),Hk H2 h∨(∀b o,b∉wr→H2.get? b=some o→h.get? b=some o)→Fm cenv own h vm→(∃o,h.get? Dl=some o)→(∀b∈wr,∃o,h.get? b=some o)→
   (∀x dx,(bs d).lookup x=some dx→Va cenv own (vis h (N++M)) vm x dx)→
   Cd G cenv (N++M) (bs d++ρ') {s with heap:=h,toks:=tk}:=by
  intro h tk d vm hk F hDx hWx hbs
  have hks:Hk s.heap h:=fun b o e=>by
   rcases hk with hk | hk
   ·exact hk b o (hk2 b o e)
   ·exact hk b o (fun hm=>by exact nsn (hwr b hm) (hso b o e)) (hk2 b o e)
  refine⟨c.top.keeps hks,?_,?_,?_,fun x d' hx=>?_,fun b hb=>?_,fun y hy=>?_,fun p hp=>let⟨o,e,r⟩:=c.obs p hp;⟨o,hks _ _ e,r.mono (b2a hks (hNnone s.heap hk2 hso))⟩⟩
  ·rw[ecv];exact sc.kind
  ·rw[ecv];exact c.glob
  ·rw[ecv];exact c.bi
  ·rw[a1e]at hx
   cases hxb:(bs d).lookup x with
   | some dx=>
    rw[hxb]at hx
    cases hx
    obtain⟨h1,vx,h2,h3⟩:=hbs x _ hxb
    refine⟨vx,F.name ?_ h2,h3⟩
    rcases h1 with h1 | ⟨c',h1⟩
    ·exact .inl h1
    ·exact .inr ⟨c',hownl x c' h1⟩
   | none=>
    rw[hxb]at hx
    have hx':ρ'.lookup x=some d':=by simpa using hx
    walk_at "c"
    rcases sc.cap x d' hx' with⟨h1,h2⟩
    rcases c.vars x d' h1 with⟨v,hv,dv⟩
    walk_at "u"
    refine⟨v,?_,dv.mono (b2a hks (hNnone s.heap hk2 hso))⟩
    rw[ecv];exact a9b sc hcl hcl' hown h2 hv hks
  ·rcases zA hb with hb | hb
   ·rw[eN]at hb
    rcases zA hb with hb | hb
    ·rcases a0o hb with rfl | hb
     ·exact hDx
     ·exact F.there b hb
    ·exact hWx b hb
   ·obtain⟨o,e⟩:=c.mem b hb;exact⟨o,hks b o e⟩
  ·rw[ecv]at hy ⊢
   show ∃c,(own++cl).lookup y=some c
   rw[a1e]
   have hy':(relabel scope env).names.lookup y=some .cell∨(relabel scope env).names.lookup y=some .free:=hy
   rw[a1h]at hy'
   cases hs:scope.names.lookup y with
   | none=>rw[hs]at hy';rcases hy' with h | h <;> cases h
   | some kd=>
    cases ho:own.lookup y with
    | some c'=>exact⟨c',rfl⟩
    | none=>
     rw[hs]at hy'
     have:kd= .cell∨kd= .free:=by
      simp only[Option.map_some]at hy'
      cases kd <;> simp at hy' <;> simp
     rcases this with rfl | rfl
     ·obtain⟨c',hc'⟩:=hownh y hs
      exact nsn ho (hownl y c' hc')
     ·obtain⟨c',hc'⟩:=hcl' y (mem_of_lookup hs)
      exact⟨c',hc'⟩
 have loop:codeAny (model prog w) A (.compLoop (.ListComp elt [⟨target,iter,ifs,0⟩] scope pos) 0 (.ref I) (.ref Dl) cenv) (RR (.ref Dl) C) {heap:=H4,gens:=s.gens,drawn:=s.drawn,toks:=t2,os:=s.os}:=by
  refine a6n
   (d2e s xs p f St cenv own Dl N M wr H2) ?_ (xs.length+1)
   ⟨H4,t2,_,[],_,0,rfl,rfl,Nat.zero_le _,W.frame _ _ _ st0 fun b _ o e=>hl2 b o e,F4,hD4,by simpa using DRs.nil,fun b o _ e=>hl2 b o e⟩
  intro q s' hI'
  obtain⟨h,tk,vm,ys,ep,i,rfl,rfl,hi,st,F,hD,dys,hkp⟩:=hI'
  by_cases hin:i < xs.length
  ·refine W.item i _ _ _ hin st fun v j2 x6 hv y6 y4=>?_
   obtain⟨d',hd',fC,a1,a2,dv⟩:=hP i v hv
   obtain⟨d,hd,rfl⟩:∃d,xs[i]? =some d∧g d=d':=by rw[getElem?_map]at hd';exact map_eq_some_iff.mp hd'
   have hmem:d∈xs:=mem_of_getElem? hd
   have kk2:∀b o,b∉wr→H2.get? b=some o→j2.get? b=some o:=fun b o hb e=>y4 b o hb (hkp b o hb e)
   have x7:Fm cenv own j2 vm:=F.keeps fun b hb o e=>y4 b o (hwrn b (.tail _ hb)) e
   have x8:=y4 Dl _ (hwrn Dl (.head _)) hD
   have y9:DR (vis j2 (N++M)) v (g d):=dv.mono (b2a (fun b o e=>kk2 b o (fun hm=>by exact nsn (hwr b hm) (a2 b o e)) (a1 b o e)) (hNnone fC a1 a2))
   have hlt1:∀b∈fms cenv own,b < j2.objs.size:=fun b hb=>let⟨o,e⟩:=x7.there b hb;lt_size e
   have Bd':Bd (fun x=>Lo cenv own x) target (g d) (bs d):=(hb d hmem).imp hok
   refine hgo target (i+1) v _ _ _ y6 ?_
   refine a8a (s:={s with heap:=j2,toks:=x6}) x7 (by rw[ecv];exact sc.kind) rm.hd Bd' y9 (fun b hb=>zB (.inl (hNf b hb))) hlt1 fun v4 i7 c7 i9 i6 jA _=>?_
   have kk3:∀b o,b∉wr→H2.get? b=some o→v4.get? b=some o:=fun b o hb e=>i6 b o (fun hm=>by exact nsn (hnone b (.tail _ hm)) e) (kk2 b o hb e)
   have a7:=i6 Dl _ hDf x8
   have pA:St (i+1) v4:=W.frame _ _ _ y6 fun b hb o e=>i6 b o (fun hm=>hfpn b hb (.tail _ hm)) e
   have dB:=hcd v4 i7 d c7 (.inr kk3) i9 ⟨_,a7⟩ (hwx _ _ pA) jA
   have htd:=ht C (own++cl) d hmem
   rw[←ecv]at htd
   refine htd.go rm dB fun y2 a4=>?_
   have aG:=dB.keeps a4
   obtain⟨e6,nA,rfl,m7⟩:=a4
   have mD:St (i+1) e6:=W.frame _ _ _ y6 fun b hb o e=>m7 b o (i6 b o (fun hm=>hfpn b hb (.tail _ hm)) e)
   have iD:Fm cenv own e6 c7:=i9.keeps fun b _ o e=>m7 b o e
   have yD:=m7 Dl _ a7
   have up3:∀a o,vis h (N++M) a=some o→vis e6 (N++M) a=some o:=by
    refine a0x fun b o e hb=>?_
    exact m7 b o (i6 b o (fun hm=>hb (zB (.inl (hNf b hm)))) (y4 b o (fun hm=>hb (zB (.inl (hNw b hm)))) e))
   have nC:=dys.mono up3
   cases hpd:p d with
   | false=>
    simp only[Bool.false_eq_true,if_false]
    refine⟨xs.length+1 - (i+1),by omega,e6,nA,c7,ys,ep,i+1,rfl,rfl,hin,mD,iD,yD,?_,fun b o hb e=>m7 b o (kk3 b o hb e)⟩
    rw[take_succ_filter p _ i d hd,hpd];simpa using nC
   | true=>
    simp only[if_true]
    have hed:=he C (own++cl) d hmem hpd
    rw[←ecv]at hed
    refine hed A _ _ _ _ rm aG fun y l3 x5 dy=>?_
    obtain⟨l9,zE,rfl,z6⟩:=x5
    have hys:ys.length≤sizeLine:=by
     rw[dys.length,length_map]
     have e2:((xs.take i).filter p).length≤(xs.take i).length:=length_filter_le _ _
     have e3:(xs.take i).length≤xs.length:=by rw[length_take];omega
     omega
    have xB:Heap.PlainList l9 Dl ys.toArray:=⟨ep,z6 Dl _ yD⟩
    refine wpAny_list_append_plain (hsz:=by simpa using hys) xB fun k6 wB sB=>?_
    obtain⟨cB,mC⟩:=wB
    have hne:∀b,b≠Dl→∀o,l9.get? b=some o→k6.get? b=some o:=fun b hb o e=>(sB.2 b hb).trans e
    refine⟨xs.length+1 - (i+1),by omega,k6,zE,c7,ys++[y],cB,i+1,rfl,rfl,hin,
     W.frame _ _ _ mD fun b hb o e=>hne b (fun e'=>hfpn b hb (e'▸.head _)) o (z6 b o e),iD.keeps fun b hb o e=>hne b (fun e'=>hDf (e'▸hb)) o (z6 b o e),by simpa using mC,?_,
     fun b o hb e=>hne b (fun e'=>by exact nsn (hnone b (e'▸.head _)) e) o (z6 b o (m7 b o (kk3 b o hb e)))⟩
    have up5:∀a o,vis l9 (N++M) a=some o→vis k6 (N++M) a=some o:=a0x fun b o e hb=>hne b (fun e'=>hb (zB (.inl (e'▸hND)))) o e
    rw[take_succ_filter p _ i d hd,hpd]
    simpa using ((nC.mono (Hk.vis z6)).append (.cons dy .nil)).mono up5
  ·have hi':i=xs.length:=by omega
   rw[hi']at st
   refine W.done _ _ _ st fun j2 x6 y4=>?_
   have x7:Fm cenv own j2 vm:=F.keeps fun b hb o e=>y4 b o (hwrn b (.tail _ hb)) e
   obtain⟨m,hn,_⟩:=x7.loc
   have hks:Hk s.heap j2:=fun b o e=>by
    have hb:b∉wr:=fun hm=>by exact nsn (hwr b hm) (hso b o e)
    exact y4 b o hb (hkp b o hb (hk2 b o e))
   have hsn:∀b∈N,s.heap.get? b=none:=hNnone s.heap hk2 hso
   have hCN:C∈N:=hNf C (by rw[ecv];exact .head _)
   refine hRR Dl C {s with heap:=j2,toks:=x6} m ⟨j2,x6,rfl,hks⟩ (hsn C hCN) (hsn Dl hND) (by rw[ecv]at hn;exact hn) ?_
   rw[hi',take_length]at dys
   have up:∀a o,vis h (N++M) a=some o→vis j2 (C::M) a=some o:=fun a o e=>by
    obtain⟨e1,e2⟩:=a0b e
    refine a0v (y4 a o (fun hm=>e2 (zB (.inl (hNw a hm)))) e1) fun hm=>e2 ?_
    rcases a0o hm with rfl | hm
    ·exact zB (.inl hCN)
    ·exact zB (.inr hm)
   refine .list (a0v (y4 Dl _ (hwrn Dl (.head _)) hD) fun hm=>?_) (dys.mono up)
   rcases zC hm with e | hm
   ·have:Dl=C:=e;omega
   ·obtain⟨o,e⟩:=c.mem Dl hm;exact nsn (hsn Dl hND) e
 rw[←ecv]
 exact codeAny_compStart_list loop (W.self 0 _ _ _ (W.frame _ _ _ st0 fun b _ o e=>hl2 b o e) loop)
end
end
section
section
variable {n:Nat}
theorem Sc.names (sc:Sc env scope ρ ρ'):∀x∈scope.names,x.2= .local→scope.names.lookup x.1=some .local:=fun x hx e=>a0s sc.nodup (by rw[←e];exact hx)
theorem DR.hide {h:Heap} {d:D} (dv:DR (vis h (C::M)) v d) (hs:Heap.SameBut C h h'):DR (vis h' M) v d:=dv.mono fun a o e=>by
 obtain⟨e1,e2⟩:=a0b e
 exact a0v ((hs.2 a fun e'=>e2 (e'▸.head _)).trans e1) fun hm=>e2 (.tail _ hm)
theorem Kp.sameBut {s:Shared} (k:Kp s s') (hC:s.heap.get? C=none) (hs:Heap.SameBut C s'.heap h'):Kp s {s' with heap:=h'}:=by
 obtain⟨h1,t1,rfl,kk⟩:=k
 exact⟨h',t1,rfl,fun b o e=>(hs.2 b fun e'=>by rw[e',hC]at e;cases e).trans (kk b o e)⟩
theorem Ev.comp {α:Type} {iter:Expr} {xs:List α} {g:α→D} (hit:It prog w G n env ρ iter (xs.map g)) (hsz:xs.length≤sizeLine) (sc:Sc env scope ρ ρ') (p:α→Bool) (f:α→D) (bs:α→List (Str×D))
  (hb:∀d∈xs,Bd (fun x=>scope.names.lookup x=some .local∨scope.names.lookup x=some .cell) target (g d) (bs d))
  (ht:∀C cells,∀d∈xs,Tsl prog w G n (compEnvC scope cells C env) (bs d++ρ') ifs (p d))
  (he:∀C cells,∀d∈xs,p d=true→Ev prog w G n (compEnvC scope cells C env) (bs d++ρ') elt (f d))
  (hs:∀x,foldedSetIterable iter env x=pure x:=by intro _;rfl):Ev prog w G n env ρ (.ListComp elt [⟨target,iter,ifs,0⟩] scope pos) (.list ((xs.filter p).map f)):=by
 intro A M s Q E rm c K
 obtain⟨cl,hclos,hcl,hcl'⟩:=a4p (scope:=scope) (env:=env) fun y hy=>c.cs y (sc.free y hy)
 rw[eval_ListComp]
 refine wpAny_comprehension_free (use:=none) rfl hs hclos sc.kind sc.names (hit A M s _ E rm c fun I u0 old k hso hos itr=>?_)
 refine a7w (RR:=fun acc C=>compPost (model prog w) A E none Q acc C) rm c k hso hos itr hsz sc hcl hcl' p f bs hb ht he fun Dl C s' m kp hC _ hn dv=>?_
 exact⟨m,hn,fun h' hs'=>K _ _ (kp.sameBut hC hs') (dv.hide hs')⟩
theorem c3d {α:Type} {iter:Expr} {xs:List α} {g:α→D} (hit:It prog w G n env ρ iter (xs.map g)) (hsz:xs.length≤sizeLine) (sc:Sc env scope ρ ρ') (p:α→Bool) (f:α→D) (bs:α→List (Str×D))
  (hb:∀d∈xs,Bd (fun x=>scope.names.lookup x=some .local∨scope.names.lookup x=some .cell) target (g d) (bs d))
  (ht:∀C cells,∀d∈xs,Tsl prog w G n (compEnvC scope cells C env) (bs d++ρ') ifs (p d))
  (he:∀C cells,∀d∈xs,p d=true→Ev prog w G n (compEnvC scope cells C env) (bs d++ρ') elt (f d)) {s:Shared} {u:Value→Sem Unit} {cpos:Pos} (rm:Rm A n) (c:Cd G env M ρ s)
  (K:∀v C s' m,Kp s s'→s.heap.get? C=none→s'.heap.Ns C m→DR (vis s'.heap (C::M)) v (.list ((xs.filter p).map f))→
   wpAny (model prog w) A (u v) (fun _ s''=>∃m,s''.heap.Ns C m∧∀h',Heap.SameBut C s''.heap h'→Q .none {s'' with heap:=h'}) E s')
  (hs:∀x,foldedSetIterable iter env x=pure x:=by intro _;rfl):
  wpAny (model prog w) A (comprehension (.ListComp elt [⟨target,iter,ifs,0⟩] scope pos) scope env cpos (newList []) false (eval iter env) (some u)) Q E s:=by
 obtain⟨cl,hclos,hcl,hcl'⟩:=a4p (scope:=scope) (env:=env) fun y hy=>c.cs y (sc.free y hy)
 refine wpAny_comprehension_free (use:=some u) rfl hs hclos sc.kind sc.names (hit A M s _ E rm c fun I u0 old k hso hos itr=>?_)
 exact a7w (RR:=fun acc C=>compPost (model prog w) A E (some u) Q acc C) rm c k hso hos itr hsz sc hcl hcl' p f bs hb ht he fun Dl C s' m kp hC _ hn dv=>K _ C s' m kp hC hn dv
end
end
section
theorem DR.monoS (hs:∀a (T:String) (vs:Array Value) n,P a=some {cls:=.type T,data:=.seq vs n}→P' a=some {cls:=.type T,data:=.seq vs n}) {d:D} (h:DR P v d):DR P' v d:=
 DR.rec (motive_1:=fun v d _=>DR P' v d) (motive_2:=fun vs ds _=>DRs P' vs ds) .none .bool .int .str (fun h _ r=>.tuple (hs _ _ _ _ h) r) (fun h _ r=>.list (hs _ _ _ _ h) r) .val .thing .nil (fun _ _ a b=>.cons a b) h
noncomputable def Gk (fl:Bool) (g g':Array GenState):Prop:=match fl with
 | true=>AllBare g→AllBare g'
 | false=>g'=g
theorem Gk.refl (fl:Bool) (g:Array GenState):Gk fl g g:=by cases fl <;> first | rfl | exact fun h=>h
theorem Gk.trans {a b c:Array GenState} (x:Gk fl a b) (y:Gk fl b c):Gk fl a c:=by
 cases fl with
 | true=>exact fun h=>y (x h)
 | false=>exact(show c=b from y).trans x
noncomputable def Kw (fl:Bool) (W:List Addr) (s s':Shared):Prop:=(∀b o,b∉W→s.heap.get? b=some o→s'.heap.get? b=some o)∧Gk fl s.gens s'.gens∧s'.drawn=s.drawn∧s'.os=s.os
theorem Kw.refl (fl:Bool) (W:List Addr) (s:Shared):Kw fl W s s:=⟨fun _ _ _ e=>e,Gk.refl _ _,rfl,rfl⟩
theorem Kw.trans {s s'':Shared} (a:Kw fl W s s') (b:Kw fl W s' s''):Kw fl W s s'':=
 ⟨fun x o hx e=>b.1 x o hx (a.1 x o hx e),a.2.1.trans b.2.1,b.2.2.1.trans a.2.2.1,b.2.2.2.trans a.2.2.2⟩
theorem Kw.kept {s:Shared} (a:Kw fl W s s'):∀b o,b∉W→s.heap.get? b=some o→s'.heap.get? b=some o:=a.1
theorem Kp.kw {s:Shared} (a:Kp s s'):Kw fl W s s':=by obtain⟨h1,t1,rfl,k1⟩:=a;exact⟨fun b o _ e=>k1 b o e,Gk.refl _ _,rfl,rfl⟩
theorem Kw.kp {s:Shared} (a:Kw false W s s') (h:∀b∈W,s.heap.get? b=none):Kp s s':=by
 walk_at "c"
 rcases a with⟨k,g,d,o⟩
 rcases s with⟨h1,g1,d1,t1,o1⟩
 rcases s' with⟨h2,g2,d2,t2,o2⟩
 walk_at "u"
 cases(show g2=g1 from g);cases(show d2=d1 from d);cases(show o2=o1 from o)
 exact⟨h2,t2,rfl,fun b o e=>k b o (fun hm=>by exact nsn (h b hm) (show h1.get? b=some o from e)) e⟩
theorem Kw.of {s:Shared} {tk:Nat} (k:∀b o,b∉W→s.heap.get? b=some o→h'.get? b=some o):Kw fl W s {s with heap:=h',toks:=tk}:=⟨k,Gk.refl _ _,rfl,rfl⟩
inductive FmD (env:Env) (own:List (Str×Addr)) (h:Heap) (P:Addr→Option Obj) (ρ:List (Str×D)):Prop
 | mk (vm:Str→Option Value):Fm env own h vm→(∀x d,ρ.lookup x=some d→Va env own P vm x d)→FmD env own h P ρ
inductive Own (h:Heap) (P:Addr→Option Obj) (W F:List Addr) (p:Addr×Ob):Prop
 | mk:p.1∈W→p.1∉F→(o:Obj)→h.get? p.1=some o→ObR P o p.2→Own h P W F p
section
variable {h:Heap} {p:Addr×Ob}
theorem Own.of (a:p.1∈W) (b:p.1∉F) (x:Hit P h p):Own h P W F p:=by cases(x)with | mk o e r=>exact⟨a,b,o,e,r⟩
theorem Own.wW (x:Own h P W F p):p.1∈W:=by cases(x)with | mk a=>exact a
theorem Own.f (x:Own h P W F p):p.1∉F:=by cases(x)with | mk _ a=>exact a
theorem Own.at (x:Own h P W F p):Hit P h p:=by cases(x)with | mk _ _ o e r=>exact⟨o,e,r⟩
end
structure Stt (G:a1k) (H:Heap) (env:Env) (own:List (Str×Addr)) (W i0:List Addr) (ρ:List (Str×D)) (ol:List (Addr×Ob)) (j0 s:Shared):Prop where
 kp:Kw G.gen W j0 s
 tH:TF G H
 kH:Hk H s.heap
 fH:∀b∈W,H.get? b=none
 kind:env.scope.kind= .function
 glob:env.globals=mainGlobals
 bi:env.builtins=builtinsNs
 cs:∀y,env.kindOf y=some .cell∨env.kindOf y=some .free→∃c,env.cells.lookup y=some c
 ow:∀x c,(x,c)∈own→own.lookup x=some c
 fm:FmD env own s.heap (vis s.heap (W++i0)) ρ
 sub:∀b∈fms env own,b∈W
 mem:∀b∈W++i0,∃o,s.heap.get? b=some o
 ls:∀p∈ol,Own s.heap (vis s.heap (W++i0)) W (fms env own) p
 lsn:(ol.map (·.1)).Nodup
section
variable {s:Shared}
theorem Stt.top (t:Stt G H env own W i0 ρ ol j0 s):TF G s.heap:=t.tH.keeps t.kH
theorem Stt.cd (t:Stt G H env own W i0 ρ ol j0 s):Cd (G.at ol) env (W++i0) ρ s:=
 ⟨t.top.at ol,t.kind,t.glob,t.bi,fun x d e=>by
  walk_at "c"
  rcases t.fm with⟨vm,F,h⟩
  rcases h x d e with⟨h1,v,h2,h3⟩
  walk_at "u"
  refine⟨v,F.name ?_ h2,h3⟩
  rcases h1 with h1 | ⟨c,h1⟩
  ·exact .inl h1
  ·exact .inr ⟨c,t.ow x c h1⟩,t.mem,t.cs,fun p hp=>(t.ls p hp).at⟩
theorem Stt.keeps (t:Stt G H env own W i0 ρ ol j0 s) (k:Kp s s'):Stt G H env own W i0 ρ ol j0 s':=by
 refine⟨t.kp.trans k.kw,t.tH,t.kH.trans k.hk,t.fH,t.kind,t.glob,t.bi,t.cs,t.ow,?_,t.sub,fun b hb=>(t.mem b hb).imp fun o e=>k.hk b o e,fun p hp=>?_,t.lsn⟩
 ·obtain⟨vm,F,h⟩:=t.fm
  refine⟨vm,F.keeps fun b _ o e=>k.hk b o e,fun x d e=>?_⟩
  obtain⟨h1,v,h2,h3⟩:=h x d e
  exact⟨h1,v,h2,h3.mono k.hk.vis⟩
 ·obtain⟨a,b,o,e,r⟩:=t.ls p hp
  exact⟨a,b,o,k.hk _ _ e,r.mono k.hk.vis⟩
theorem Stt.put (t:Stt G H env own W i0 ρ ol j0 s) {M:Model} {x:Str} {d:D} {Q:Unit→Shared→Prop} (hx:Lo env own x) (dv:DR (vis s.heap (W++i0)) v d)
  (K:∀s',Stt G H env own W i0 ((x,d)::ρ) ol j0 s'→(∀b o,b∉fms env own→s.heap.get? b=some o→s'.heap.get? b=some o)→Q () s'):wpAny M A (storeName env x v) Q E s:=by
 obtain⟨vm,F,h⟩:=t.fm
 refine F.store t.kind hx fun h' tk F' kk knone=>K _ ?_ kk
 have up:∀a o,vis s.heap (W++i0) a=some o→vis h' (W++i0) a=some o:=a0x fun b o e hb=>kk b o (fun hm=>hb (zB (.inl (t.sub b hm)))) e
 have kw:Kw G.gen W s {s with heap:=h',toks:=tk}:=Kw.of fun b o hb e=>kk b o (fun hm=>hb (t.sub b hm)) e
 refine⟨t.kp.trans kw,t.tH,fun b o e=>kk b o (fun hm=>by exact nsn (t.fH b (t.sub b hm)) e) (t.kH b o e),t.fH,t.kind,t.glob,t.bi,t.cs,t.ow,⟨_,F',fun y dy e=>?_⟩,t.sub,fun b hb=>?_,fun p hp=>?_,t.lsn⟩
 ·rw[lookup_cons]at e
  cases hb:y == x with
  | true=>rw[hb]at e;cases e;rw[beq_iff_eq.mp hb];exact⟨hx,v,a5c,dv.mono up⟩
  | false=>
   rw[hb]at e
   obtain⟨h1,v',h2,h3⟩:=h y dy e
   exact⟨h1,v',by rw[a6h (by simpa using hb)];exact h2,h3.mono up⟩
 ·obtain⟨o,e⟩:=t.mem b hb
  cases e':h'.get? b with
  | some o'=>exact⟨o',rfl⟩
  | none=>exact nsn (knone b e') e
 ·obtain⟨a,b,o,e,r⟩:=t.ls p hp
  exact⟨a,b,o,kk _ _ b e,r.mono up⟩
theorem Stt.other (t:Stt G H env own W i0 ρ ol j0 s) {m:Str→Option Value} (hn:s.heap.Ns C m) (h0:j0.heap.get? C=none) (hH:H.get? C=none) (hW:C∉W++i0) (hs:Heap.SameBut C s.heap h'):Stt G H env own W i0 ρ ol j0 {s with heap:=h'}:=by
 obtain⟨o,es,ep,e1,e2,_⟩:=hn
 have kk:∀b o,b≠C→s.heap.get? b=some o→h'.get? b=some o:=fun b o hb e=>(hs.2 b hb).trans e
 have up:∀a (T:String) (vs:Array Value) n,vis s.heap (W++i0) a=some {cls:=.type T,data:=.seq vs n}→vis h' (W++i0) a=some {cls:=.type T,data:=.seq vs n}:=fun a T vs n e=>by
  refine a0v (kk a _ (fun e'=>?_) (a0b e).1) (a0b e).2
  have:=(a0b e).1
  rw[e',e1]at this
  cases this
  cases e2
 have hC:∀b∈W++i0,b≠C:=fun b hb e=>hW (e▸hb)
 refine⟨⟨fun b o hb e=>kk b o (fun e'=>by rw[e',h0]at e;cases e) (t.kp.1 b o hb e),t.kp.2⟩,t.tH,fun b o e=>kk b o (fun e'=>by rw[e',hH]at e;cases e) (t.kH b o e),t.fH,t.kind,t.glob,t.bi,t.cs,t.ow,?_,t.sub,fun b hb=>(t.mem b hb).imp fun o e=>kk b o (hC b hb) e,fun p hp=>?_,t.lsn⟩
 ·obtain⟨vm,F,h⟩:=t.fm
  refine⟨vm,F.keeps fun b hb o e=>kk b o (hC b (zB (.inl (t.sub b hb)))) e,fun x d e=>?_⟩
  obtain⟨h1,v,h2,h3⟩:=h x d e
  exact⟨h1,v,h2,h3.monoS up⟩
 ·obtain⟨a,b,o,e,r⟩:=t.ls p hp
  exact⟨a,b,o,kk _ _ (hC _ (zB (.inl a))) e,r.map fun _ _ d=>d.monoS up⟩
theorem a1w {n:Nat} {Q:Flow→Shared→Prop} {x:Str} {e:Expr} {d:D} (t:Stt G H env own W i0 ρ ol j0 s) (rm:Rm A n) (h:Ev prog w (G.at ol) n env ρ e d)
  (hx:Lo env own x) (hs:swapsWith e (some (.Name x px)) pos.line env=pure false) (K:∀s',Stt G H env own W i0 ((x,d)::ρ) ol j0 s'→Q .next s'):
  wpAny (model prog w) A (exec (.Assign [.Name x px] e pos) env) Q E s:=
 wpAny_Assign_Name (h A _ s _ E rm t.cd fun v g0 l0 dv=>(t.keeps l0).put hx dv fun s' t' _=>K s' t') hs
theorem a5o {α:Type} {n:Nat} {Q:Flow→Shared→Prop} {x:Str} {spos:Pos} {iter:Expr} {xs:List α} {g:α→D}
  (t:Stt G H env own W i0 ρ ol j0 s) (rm:Rm A n) (hit:It prog w (G.at ol) n env ρ iter (xs.map g)) (hsz:xs.length≤sizeLine) (sc:Sc env scope ρ ρ') (p:α→Bool) (f:α→D) (bs:α→List (Str×D))
  (hb:∀d∈xs,Bd (fun x=>scope.names.lookup x=some .local∨scope.names.lookup x=some .cell) target (g d) (bs d))
  (ht:∀C cells,∀d∈xs,Tsl prog w (G.at ol) n (compEnvC scope cells C env) (bs d++ρ') ifs (p d))
  (he:∀C cells,∀d∈xs,p d=true→Ev prog w (G.at ol) n (compEnvC scope cells C env) (bs d++ρ') elt (f d))
  (hx:Lo env own x) (hsw:swapsWith (.ListComp elt [⟨target,iter,ifs,0⟩] scope pos) (some (.Name x px)) spos.line env=pure true)
  (K:∀s',Stt G H env own W i0 ((x,.list ((xs.filter p).map f))::ρ) ol j0 s'→Q .next s')
  (hs:∀x,foldedSetIterable iter env x=pure x:=by intro _;rfl):
  wpAny (model prog w) A (exec (.Assign [.Name x px] (.ListComp elt [⟨target,iter,ifs,0⟩] scope pos) spos) env) Q E s:=by
 rw[exec_Assign_Name_used _ _ _ _ hsw]
 refine wpAny_bind (wpAny_standAt (wpAny_bind ?_))
 show wpAny _ A (do let _ ←comprehension (.ListComp elt [⟨target,iter,ifs,0⟩] scope pos) scope env _ (newList []) false (eval iter env) (some (assign (.Name x px) env))) _ _ s
 refine wpAny_bind (c3d hit hsz sc p f bs hb ht he rm t.cd (fun v C s' m kp hC hn dv=>?_) hs)
 have t':=t.keeps kp
 have hCf:C∉fms env own:=fun hm=>by obtain⟨o,e⟩:=t.mem C (zB (.inl (t.sub C hm)));exact nsn hC e
 have dv':DR (vis s'.heap (W++i0)) v (.list ((xs.filter p).map f)):=dv.mono fun a o e=>a0v (a0b e).1 fun hm=>(a0b e).2 (.tail _ hm)
 have dvC:=dv
 refine wpAny_assign_Name (t'.put hx dv' fun s'' t'' kk=>?_)
 obtain⟨o,es,ep,e1,e2⟩:=hn
 refine⟨m,⟨o,es,ep,kk C o hCf e1,e2⟩,fun h' hs'=>wpAny_pure (wpAny_pure (K _ (t''.other (C:=C) (m:=m) ⟨o,es,ep,kk C o hCf e1,e2⟩ ?_ ?_ (fun hm=>?_) hs')))⟩
 ·cases e:j0.heap.get? C with
  | none=>rfl
  | some o=>
   have hCW:C∉W:=fun hm=>by obtain⟨o,e⟩:=t.mem C (zB (.inl hm));exact nsn hC e
   exact nsn hC (t.kp.kept C o hCW e)
 ·cases e:H.get? C with
  | none=>rfl
  | some o=>exact nsn hC (t.kH C o e)
 ·obtain⟨o,e⟩:=t.mem C hm;exact nsn hC e
end
end
section
theorem a8k {h:Heap} {M':List Addr} (k:Hk h h') (hM:∀b∈M',b∈M∨h.get? b=none):∀a o,vis h M a=some o→vis h' M' a=some o:=fun a o e=>by
 obtain⟨e1,e2⟩:=a0b e
 refine a0v (k a o e1) fun hm=>?_
 rcases hM a hm with h1 | h1
 ·exact e2 h1
 ·exact nsn h1 e1
section
variable {n:Nat} {s:Shared}
theorem Stt.self (t:Stt G H env own W i0 ρ ol j0 s):Stt G H env own W i0 ρ ol s s:=⟨Kw.refl _ _ _,t.tH,t.kH,t.fH,t.kind,t.glob,t.bi,t.cs,t.ow,t.fm,t.sub,t.mem,t.ls,t.lsn⟩
theorem Stt.base (t:Stt G H env own W i0 ρ ol s s') (k:Kw G.gen W j0 s):Stt G H env own W i0 ρ ol j0 s':=⟨k.trans t.kp,t.tH,t.kH,t.fH,t.kind,t.glob,t.bi,t.cs,t.ow,t.fm,t.sub,t.mem,t.ls,t.lsn⟩
theorem Stt.more {N:List Addr} (t:Stt G H env own W i0 ρ ol j0 s) (k:Kp s s') (hN:∀b∈N,s.heap.get? b=none) (hx:∀b∈N,∃o,s'.heap.get? b=some o):Stt G H env own W (N++i0) ρ ol j0 s':=by
 have t':=t.keeps k
 have up:∀a o,vis s.heap (W++i0) a=some o→vis s'.heap (W++(N++i0)) a=some o:=a8k k.hk fun b hb=>by
  rcases zA hb with h | h
  ·exact .inl (zB (.inl h))
  ·rcases zA h with h | h
   ·exact .inr (hN b h)
   ·exact .inl (zB (.inr h))
 refine⟨t'.kp,t'.tH,t'.kH,t'.fH,t'.kind,t'.glob,t'.bi,t'.cs,t'.ow,?_,t'.sub,fun b hb=>?_,fun p hp=>?_,t'.lsn⟩
 ·obtain⟨vm,F,h⟩:=t.fm
  exact⟨vm,F.keeps fun b _ o e=>k.hk b o e,fun x d e=>let⟨h1,v,h2,h3⟩:=h x d e;⟨h1,v,h2,h3.mono up⟩⟩
 ·rcases zA hb with h | h
  ·exact t'.mem b (zB (.inl h))
  ·rcases zA h with h | h
   ·exact hx b h
   ·exact t'.mem b (zB (.inr h))
 ·obtain⟨a,b,o,e,r⟩:=t.ls p hp
  exact⟨a,b,o,k.hk _ _ e,r.mono up⟩
theorem Stt.turn {N:List Addr} (t:Stt G H env own W (N++i0) ρ ol j0 s) {tk:Nat} (kk:∀b o,b∉N→s.heap.get? b=some o→h'.get? b=some o) (hx:∀b∈N,∃o,h'.get? b=some o) (hW:∀b∈N,b∉W)
  (hb:∀b∈N,j0.heap.get? b=none) (hH:∀b∈N,H.get? b=none):Stt G H env own W (N++i0) ρ ol j0 {s with heap:=h',toks:=tk}:=by
 have up:∀a o,vis s.heap (W++(N++i0)) a=some o→vis h' (W++(N++i0)) a=some o:=a0x fun b o e hb=>kk b o (fun hm=>hb (zB (.inr (zB (.inl hm))))) e
 have hWN:∀b∈W,b∉N:=fun b hb hm=>hW b hm hb
 refine⟨⟨fun b o hbW e=>kk b o (fun hm=>by exact nsn (hb b hm) e) (t.kp.1 b o hbW e),t.kp.2⟩,t.tH,fun b o e=>kk b o (fun hm=>by exact nsn (hH b hm) e) (t.kH b o e),t.fH,t.kind,t.glob,t.bi,t.cs,t.ow,?_,t.sub,fun b hb'=>?_,fun p hp=>?_,t.lsn⟩
 ·obtain⟨vm,F,h⟩:=t.fm
  exact⟨vm,F.keeps fun b hb' o e=>kk b o (hWN b (t.sub b hb')) e,fun x d e=>let⟨h1,v,h2,h3⟩:=h x d e;⟨h1,v,h2,h3.mono up⟩⟩
 ·by_cases hm:b∈N
  ·exact hx b hm
  ·obtain⟨o,e⟩:=t.mem b hb';exact⟨o,kk b o hm e⟩
 ·obtain⟨a,b,o,e,r⟩:=t.ls p hp
  exact⟨a,b,o,kk _ _ (hWN _ a) e,r.mono up⟩
theorem Stt.drop {N:List Addr} (t:Stt G H env own W (N++i0) ρ ol j0 s) {tk:Nat} (kk:∀b o,b∉N→s.heap.get? b=some o→h'.get? b=some o) (hW:∀b∈N,b∉W) (hM:∀b∈N,b∉i0)
  (hb:∀b∈N,j0.heap.get? b=none) (hH:∀b∈N,H.get? b=none):Stt G H env own W i0 ρ ol j0 {s with heap:=h',toks:=tk}:=by
 have up:∀a o,vis s.heap (W++(N++i0)) a=some o→vis h' (W++i0) a=some o:=fun a o e=>by
  obtain⟨e1,e2⟩:=a0b e
  refine a0v (kk a o (fun hm=>e2 (zB (.inr (zB (.inl hm))))) e1) fun hm=>e2 ?_
  rcases zA hm with hm | hm
  ·exact zB (.inl hm)
  ·exact zB (.inr (zB (.inr hm)))
 have hWN:∀b∈W,b∉N:=fun b hb hm=>hW b hm hb
 refine⟨⟨fun b o hbW e=>kk b o (fun hm=>by exact nsn (hb b hm) e) (t.kp.1 b o hbW e),t.kp.2⟩,t.tH,fun b o e=>kk b o (fun hm=>by exact nsn (hH b hm) e) (t.kH b o e),t.fH,t.kind,t.glob,t.bi,t.cs,t.ow,?_,t.sub,fun b hb'=>?_,fun p hp=>?_,t.lsn⟩
 ·obtain⟨vm,F,h⟩:=t.fm
  exact⟨vm,F.keeps fun b hb' o e=>kk b o (hWN b (t.sub b hb')) e,fun x d e=>let⟨h1,v,h2,h3⟩:=h x d e;⟨h1,v,h2,h3.mono up⟩⟩
 ·have hm:b∉N:=fun hm=>by
   rcases zA hb' with h | h
   ·exact hW b hm h
   ·exact hM b hm h
  obtain⟨o,e⟩:=t.mem b (by
   rcases zA hb' with h | h
   ·exact zB (.inl h)
   ·exact zB (.inr (zB (.inr h))))
  exact⟨o,kk b o hm e⟩
 ·obtain⟨a,b,o,e,r⟩:=t.ls p hp
  exact⟨a,b,o,kk _ _ (hWN _ a) e,r.mono up⟩
theorem Stt.assign (t:Stt G H env own W i0 ρ ol j0 s) {d:D} {bs:List (Str×D)} {Q:Unit→Shared→Prop} (hh:A.handled=none)
  (B:Bd (fun x=>Lo env own x) target d bs) (dv:DR (vis s.heap (W++i0)) v d)
  (K:∀s',Stt G H env own W i0 (bs++ρ) ol j0 s'→Kw G.gen (fms env own) s s'→Q () s'):wpAny (model prog w) A (assign target env v) Q E s:=by
 obtain⟨vm,F,h⟩:=t.fm
 refine a8a (N:=W++i0) F t.kind hh B dv (fun b hb=>zB (.inl (t.sub b hb))) (fun b hb=>let⟨o,e⟩:=F.there b hb;lt_size e) fun h' tk vm' F' kk hbs hno=>K _ ?_ (Kw.of kk)
 have up:∀a o,vis s.heap (W++i0) a=some o→vis h' (W++i0) a=some o:=a0x fun b o e hb=>kk b o (fun hm=>hb (zB (.inl (t.sub b hm)))) e
 have kw:Kw G.gen W s {s with heap:=h',toks:=tk}:=Kw.of fun b o hb e=>kk b o (fun hm=>hb (t.sub b hm)) e
 refine⟨t.kp.trans kw,t.tH,fun b o e=>kk b o (fun hm=>by exact nsn (t.fH b (t.sub b hm)) e) (t.kH b o e),t.fH,t.kind,t.glob,t.bi,t.cs,t.ow,⟨_,F',fun y dy e=>?_⟩,t.sub,fun b hb=>?_,fun p hp=>?_,t.lsn⟩
 ·rw[a1e]at e
  cases hb:bs.lookup y with
  | some d'=>rw[hb]at e;cases e;exact hbs y _ hb
  | none=>
   rw[hb]at e
   obtain⟨h1,v',h2,h3⟩:=h y dy (by simpa using e)
   exact⟨h1,v',by rw[hno y hb];exact h2,h3.mono up⟩
 ·by_cases hm:b∈fms env own
  ·exact F'.there b hm
  ·obtain⟨o,e⟩:=t.mem b hb;exact⟨o,kk b o hm e⟩
 ·obtain⟨a,b,o,e,r⟩:=t.ls p hp
  exact⟨a,b,o,kk _ _ b e,r.mono up⟩
noncomputable def a6v (W W':List Addr) (h:Heap):Prop:=(∀b∈W,b∈W')∧∀b∈W',b∈W∨h.get? b=none
theorem a6v.refl (W:List Addr) (h:Heap):a6v W W h:=⟨fun _ h=>h,fun _ h=>.inl h⟩
theorem Kw.grow {W':List Addr} {s:Shared} (k:Kw fl W s s') (h:∀b∈W,b∈W'):Kw fl W' s s':=⟨fun b o hb e=>k.1 b o (fun hm=>hb (h b hm)) e,k.2⟩
theorem Kw.shrink {W':List Addr} {s:Shared} (k:Kw fl W' s s') (g:a6v W W' s.heap):Kw fl W s s':=by
 refine⟨fun b o hb e=>k.1 b o (fun hm=>?_) e,k.2⟩
 rcases g.2 b hm with h1 | h1
 ·exact hb h1
 ·exact nsn h1 e
inductive d0i (G:a1k) (H:Heap) (env:Env) (own:List (Str×Addr)) (W j4:List Addr) (g0:Shared) (J:List (Str×D)→List (Addr×Ob)→Prop) (f:Flow) (u0:Shared):Prop
 | mk:f= .next→(l4:List (Str×D))→(u4:List (Addr×Ob))→J l4 u4→Stt G H env own W j4 l4 u4 g0 u0→d0i G H env own W j4 g0 J f u0
inductive c7x (G:a1k) (H:Heap) (env:Env) (own:List (Str×Addr)) (W₁ j4:List Addr) (g0:Shared) (J:List (Str×D)→List (Addr×Ob)→List Addr→Prop) (f:Flow) (u0:Shared):Prop
 | mk:f= .next→(l4:List (Str×D))→(u4:List (Addr×Ob))→(j5:List Addr)→J l4 u4 j5→a6v W₁ j5 g0.heap→Stt G H env own j5 j4 l4 u4 g0 u0→c7x G H env own W₁ j4 g0 J f u0
noncomputable def d1m (j4:List Addr) (J:List (Str×D)→List (Addr×Ob)→List Addr→Prop) (JR:D→List (Str×D)→List (Addr×Ob)→List Addr→Prop) (l4:List (Str×D)) (u4:List (Addr×Ob)) (j5:List Addr) (u0:Shared):Flow→Prop
 | .next | .cont=>J l4 u4 j5
 | .brk=>False
 | .ret v=>∃d,DR (vis u0.heap (j5++j4)) v d∧JR d l4 u4 j5
inductive d0b (G:a1k) (H:Heap) (env:Env) (own:List (Str×Addr)) (W₁ j4:List Addr) (g0:Shared) (J:List (Str×D)→List (Addr×Ob)→List Addr→Prop) (JR:D→List (Str×D)→List (Addr×Ob)→List Addr→Prop) (f:Flow) (u0:Shared):Prop
 | mk:(l4:List (Str×D))→(u4:List (Addr×Ob))→(j5:List Addr)→a6v W₁ j5 g0.heap→Stt G H env own j5 j4 l4 u4 g0 u0→d1m j4 J JR l4 u4 j5 u0 f→d0b G H env own W₁ j4 g0 J JR f u0
inductive d1o (G:a1k) (H:Heap) (env:Env) (own:List (Str×Addr)) (W wr i0:List Addr) (J:Nat→List (Str×D)→List (Addr×Ob)→List Addr→Prop) (St:Nat→Heap→Prop) (n:Nat) (j0:Shared) (v4:Heap) (q:Nat) (s':Shared):Prop
 | mk (i:Nat) (y0:List (Str×D)) (x0:List (Addr×Ob)) (W₁:List Addr):q=n+1 - i→i≤n→St i s'.heap→J i y0 x0 W₁→a6v W W₁ v4→Stt G H env own W₁ (wr++i0) y0 x0 j0 s'→(∀b o,b∉W→b∉wr→v4.get? b=some o→s'.heap.get? b=some o)→d1o G H env own W wr i0 J St n j0 v4 q s'
theorem b6s {Q:Flow→Shared→Prop} {iter:Expr} (J:Nat→List (Str×D)→List (Addr×Ob)→List Addr→Prop) (JR:D→List (Str×D)→List (Addr×Ob)→List Addr→Prop) (bs:D→List (Str×D))
  (t:Stt G H env own W i0 ρ ol j0 s) (rm:Rm A n) (hit:∀Q:Value→Shared→Prop,(∀I s' old,Kp s s'→Hk s.heap old→Hk old s'.heap→Itr prog w A old s'.heap (W++i0) I ds→Q (.ref I) s')→wpAny (model prog w) A (eval iter env) (fun v g0=>wpAny (model prog w) A (pyIter v) Q E g0) E s) (hb:∀d∈ds,Bd (fun x=>Lo env own x) target d (bs d)) (h0:J 0 ρ ol W)
  (turn:∀(j4 W₁:List Addr) (i:Nat) (d:D) (y0:List (Str×D)) (x0:List (Addr×Ob)) (g0:Shared) (E':Value→Shared→Prop),ds[i]? =some d→J i y0 x0 W₁→Stt G H env own W₁ j4 (bs d++y0) x0 g0 g0→
   wpAny (model prog w) A (execs body env) (d0b G H env own W₁ j4 g0 (J (i+1)) JR) E' g0)
  (done:∀y0 x0 W₁ g0,J ds.length y0 x0 W₁→a6v W W₁ s.heap→Stt G H env own W₁ i0 y0 x0 j0 g0→Q .next g0)
  (back:∀v d N y0 x0 W₁ g0,DR (vis g0.heap (W₁++(N++i0))) v d→JR d y0 x0 W₁→a6v W W₁ s.heap→Stt G H env own W₁ (N++i0) y0 x0 j0 g0→Q (.ret v) g0)
  (hs:∀x,foldedSetIterable iter env x=pure x:=by intro _;rfl):wpAny (model prog w) A (exec (.For target iter body [] pos) env) Q E s:=by
 refine wpAny_For (hit _ fun I u0 old k hso hos itr=>?_) hs
 obtain⟨fp,wr,P,St,Wk,st0,hwr,hwx,hfp,hfM,hgo,hP⟩:=itr
 have hwrs:∀b∈wr,s.heap.get? b=none:=fun b hb=>by
  cases e:s.heap.get? b with
  | none=>rfl
  | some o=>exact nsn (hwr b hb) (hso b o e)
 have hwW:∀b∈wr,b∉W:=fun b hb hm=>by obtain⟨o,e⟩:=t.mem b (zB (.inl hm));exact nsn (hwrs b hb) e
 have hw0:∀b∈wr,j0.heap.get? b=none:=fun b hb=>by
  cases e:j0.heap.get? b with
  | none=>rfl
  | some o=>exact nsn (hwrs b hb) (t.kp.kept b o (hwW b hb) e)
 have hwH:∀b∈wr,H.get? b=none:=fun b hb=>by
  cases e:H.get? b with
  | none=>rfl
  | some o=>exact nsn (hwrs b hb) (t.kH b o e)
 have z0:Stt G H env own W (wr++i0) ρ ol j0 u0:=t.more k hwrs (hwx 0 _ st0)
 have hex:∀b∈fp,∃o,u0.heap.get? b=some o:=hfp
 refine codeAny_forLoop_any (d1o G H env own W wr i0 J St ds.length j0 u0.heap) ?_ (ds.length+1)
  ⟨0,ρ,ol,W,rfl,Nat.zero_le _,st0,h0,a6v.refl _ _,z0,fun _ _ _ _ e=>e⟩
 intro q s' hI'
 obtain⟨i,y0,x0,W₁,rfl,hi,st,hJ,hG,w0,hkp⟩:=hI'
 have rB:∀b∈wr,b∉W₁:=fun b hb hm=>by
  rcases hG.2 b hm with h1 | h1
  ·exact hwW b hb h1
  ·obtain⟨o,e⟩:=hwx 0 _ st0 b hb;exact nsn h1 e
 have lE:∀b∈fp,b∉W₁:=fun b hb hm=>by
  rcases hG.2 b hm with h1 | h1
  ·exact hfM b hb (zB (.inl h1))
  ·obtain⟨o,e⟩:=hex b hb;exact nsn h1 e
 by_cases hin:i < ds.length
 ·refine Wk.item i _ _ _ hin st fun v j2 x6 hv y6 y4=>?_
  obtain⟨d,hd,fC,a1,a2,dv⟩:=hP i v hv
  have j1:Stt G H env own W₁ (wr++i0) y0 x0 j0 {s' with heap:=j2,toks:=x6}:=w0.turn y4 (hwx _ _ y6) rB hw0 hwH
  refine hgo target (i+1) v _ _ _ y6 ?_
  have y9:DR (vis j2 (W₁++(wr++i0))) v d:=by
   refine dv.mono fun a o e=>?_
   obtain⟨e1,e2⟩:=a0b e
   have haw:a∉wr:=fun hm=>by exact nsn (hwr a hm) (a2 a o e1)
   have haW:a∉W:=fun hm=>e2 (zB (.inl hm))
   refine a0v (y4 a o haw (hkp a o haW haw (a1 a o e1))) fun hm=>?_
   rcases zA hm with hm | hm
   ·rcases hG.2 a hm with h1 | h1
    ·exact haW h1
    ·exact nsn h1 (a1 a o e1)
   ·rcases zA hm with hm | hm
    ·exact haw hm
    ·exact e2 (zB (.inr hm))
  refine j1.assign rm.hd (hb d (mem_of_getElem? hd)) y9 fun l3 z1 qB=>?_
  refine wpAny_mono (turn _ W₁ i d y0 x0 l3 _ hd hJ z1.self) (fun f y3 k6=>?_) fun _ _ e=>e
  obtain⟨l4,u4,j5,w9,u1,hm⟩:=k6
  have kW4:∀b o,b∉W₁→j2.get? b=some o→l3.heap.get? b=some o:=fun b o hb' e=>qB.kept b o (fun hm=>hb' (w0.sub b hm)) e
  have k45:=u1.kp.shrink w9
  have hsv:∀b o,b∉W→u0.heap.get? b=some o→b∉W₁:=fun b o hb' e hm=>by
   rcases hG.2 b hm with h1 | h1
   ·exact hb' h1
   ·exact nsn h1 e
  have hG':a6v W j5 u0.heap:=by
   refine⟨fun x hx=>w9.1 x (hG.1 x hx),fun x hx=>?_⟩
   rcases w9.2 x hx with h1 | h1
   ·exact hG.2 x h1
   ·by_cases hxW:x∈W
    ·exact .inl hxW
    refine .inr ?_
    cases e:u0.heap.get? x with
    | none=>rfl
    | some o=>
     have hx1:=hsv x o hxW e
     by_cases hxw:x∈wr
     ·obtain⟨o',e'⟩:=hwx _ _ y6 x hxw
      exact nsn h1 (kW4 x o' hx1 e')
     ·exact nsn h1 (kW4 x o hx1 (y4 x o hxw (hkp x o hxW hxw e)))
  have hnx:J (i+1) l4 u4 j5→∃m,m < ds.length+1 - i∧d1o G H env own W wr i0 J St ds.length j0 u0.heap m y3:=fun v9=>by
   refine⟨ds.length+1 - (i+1),by omega,i+1,l4,u4,j5,rfl,hin,Wk.frame _ _ _ y6 fun b hb' o e=>?_,v9,hG',u1.base (z1.kp.grow w9.1),fun b o hbW hbw e=>?_⟩
   ·have hbW:=lE b hb'
    exact k45.kept b o hbW (kW4 b o hbW e)
   ·have hb1:=hsv b o hbW e
    exact k45.kept b o hb1 (kW4 b o hb1 (y4 b o hbw (hkp b o hbW hbw e)))
  cases f with
  | next=>exact hnx hm
  | cont=>exact hnx hm
  | brk=>exact hm.elim
  | ret v=>
   obtain⟨d',dv',hR⟩:=hm
   refine back v d' wr l4 u4 j5 y3 dv' hR ⟨hG'.1,fun b hb'=>?_⟩ (u1.base (z1.kp.grow w9.1))
   rcases hG'.2 b hb' with h1 | h1
   ·exact .inl h1
   ·refine .inr ?_
    cases e:s.heap.get? b with
    | none=>rfl
    | some o=>exact nsn h1 (k.hk b o e)
 ·have hi':i=ds.length:=by omega
  rw[hi']at st
  rw[hi']at hJ
  refine Wk.done _ _ _ st fun j2 x6 y4=>?_
  have hwM:∀b∈wr,b∉i0:=fun b hb hm=>by obtain⟨o,e⟩:=t.mem b (zB (.inr hm));exact nsn (hwrs b hb) e
  refine wpAny_execs_nil (done y0 x0 W₁ _ hJ ⟨hG.1,fun b hm=>?_⟩ (w0.drop y4 rB hwM hw0 hwH))
  rcases hG.2 b hm with h1 | h1
  ·exact .inl h1
  ·refine .inr ?_
   cases e:s.heap.get? b with
   | none=>rfl
   | some o=>exact nsn h1 (k.hk b o e)
theorem b6t {Q:Flow→Shared→Prop} {iter:Expr} (J:Nat→List (Str×D)→List (Addr×Ob)→List Addr→Prop) (bs:D→List (Str×D))
  (t:Stt G H env own W i0 ρ ol j0 s) (rm:Rm A n) (hit:∀Q:Value→Shared→Prop,(∀I s' old,Kp s s'→Hk s.heap old→Hk old s'.heap→Itr prog w A old s'.heap (W++i0) I ds→Q (.ref I) s')→wpAny (model prog w) A (eval iter env) (fun v g0=>wpAny (model prog w) A (pyIter v) Q E g0) E s) (hb:∀d∈ds,Bd (fun x=>Lo env own x) target d (bs d)) (h0:J 0 ρ ol W)
  (turn:∀(j4 W₁:List Addr) (i:Nat) (d:D) (y0:List (Str×D)) (x0:List (Addr×Ob)) (g0:Shared) (E':Value→Shared→Prop),ds[i]? =some d→J i y0 x0 W₁→Stt G H env own W₁ j4 (bs d++y0) x0 g0 g0→
   wpAny (model prog w) A (execs body env) (c7x G H env own W₁ j4 g0 (J (i+1))) E' g0)
  (done:∀y0 x0 W₁ g0,J ds.length y0 x0 W₁→a6v W W₁ s.heap→Stt G H env own W₁ i0 y0 x0 j0 g0→Q .next g0)
  (hs:∀x,foldedSetIterable iter env x=pure x:=by intro _;rfl):wpAny (model prog w) A (exec (.For target iter body [] pos) env) Q E s:=
 b6s J (fun _ _ _ _=>False) bs t rm hit hb h0 (fun j4 W₁ i d y0 x0 g0 E' hd hJ t=>wpAny_mono (turn j4 W₁ i d y0 x0 g0 E' hd hJ t) (fun f u0 h=>by
  rcases h with⟨rfl,l4,u4,j5,hJ,hG,t⟩
  exact⟨l4,u4,j5,hG,t,hJ⟩) fun _ _ h=>h) done (fun _ _ _ _ _ _ _ _ h=>h.elim) hs
theorem b1z {Q:Flow→Shared→Prop} {iter:Expr} (J:Nat→List (Str×D)→List (Addr×Ob)→List Addr→Prop) (bs:D→List (Str×D))
  (t:Stt G H env own W i0 ρ ol j0 s) (rm:Rm A n) (hit:It prog w (G.at ol) n env ρ iter ds) (hb:∀d∈ds,Bd (fun x=>Lo env own x) target d (bs d)) (h0:J 0 ρ ol W)
  (turn:∀(j4 W₁:List Addr) (i:Nat) (d:D) (y0:List (Str×D)) (x0:List (Addr×Ob)) (g0:Shared) (E':Value→Shared→Prop),ds[i]? =some d→J i y0 x0 W₁→Stt G H env own W₁ j4 (bs d++y0) x0 g0 g0→
   wpAny (model prog w) A (execs body env) (c7x G H env own W₁ j4 g0 (J (i+1))) E' g0)
  (done:∀y0 x0 W₁ g0,J ds.length y0 x0 W₁→a6v W W₁ s.heap→Stt G H env own W₁ i0 y0 x0 j0 g0→Q .next g0)
  (hs:∀x,foldedSetIterable iter env x=pure x:=by intro _;rfl):wpAny (model prog w) A (exec (.For target iter body [] pos) env) Q E s:=
 b6t J bs t rm (fun _ K=>hit A _ s _ E rm t.cd K) hb h0 turn done hs
theorem a6w {Q:Flow→Shared→Prop} {iter:Expr} (J:Nat→List (Str×D)→List (Addr×Ob)→Prop) (bs:D→List (Str×D))
  (t:Stt G H env own W i0 ρ ol j0 s) (rm:Rm A n) (hit:It prog w (G.at ol) n env ρ iter ds) (hb:∀d∈ds,Bd (fun x=>Lo env own x) target d (bs d)) (h0:J 0 ρ ol)
  (turn:∀(j4:List Addr) (i:Nat) (d:D) (y0:List (Str×D)) (x0:List (Addr×Ob)) (g0:Shared) (E':Value→Shared→Prop),ds[i]? =some d→J i y0 x0→Stt G H env own W j4 (bs d++y0) x0 g0 g0→
   wpAny (model prog w) A (execs body env) (d0i G H env own W j4 g0 (J (i+1))) E' g0)
  (done:∀y0 x0 g0,J ds.length y0 x0→Stt G H env own W i0 y0 x0 j0 g0→Q .next g0)
  (hs:∀x,foldedSetIterable iter env x=pure x:=by intro _;rfl):wpAny (model prog w) A (exec (.For target iter body [] pos) env) Q E s:=
 b1z (fun i y0 x0 W₁=>J i y0 x0∧W₁=W) bs t rm hit hb ⟨h0,rfl⟩
  (fun j4 W₁ i d y0 x0 g0 E' hd hJ w0=>by
   clear h0 hb hit rm t bs J ds pos body iter target Q E A
   obtain⟨hJ,rfl⟩:=hJ
   exact wpAny_mono (turn j4 i d y0 x0 g0 E' hd hJ w0) (fun f u0 h=>let⟨a,l4,u4,b,c⟩:=h;⟨a,l4,u4,_,⟨b,rfl⟩,a6v.refl _ _,c⟩) fun _ _ h=>h)
  (fun y0 x0 W₁ g0 hJ _ w0=>by
   clear W₁ hd E' d i j4 turn h0 hb hit rm t bs J ds pos body iter target Q E A
   obtain⟨hJ,rfl⟩:=hJ
   exact done y0 x0 g0 hJ w0) hs
end
end
section
inductive FnX (objs:Addr→Option Obj) (f:Addr) (qual:Str) (params:Arguments) (body:List Stmt) (scope:Scope) (dV kV:Value):Prop
 | mk (name:Str) (doc pm:Value) (an:Option Addr) (c:Addr) (ct oc:Value) (od:Option Addr) (osl:Array (Option Value)) (o:Obj) (vs:Array Value) (tq:Tok):
  objs f=some ⟨oc,od,.func (fnOf name qual params body scope dV kV doc pm an (.ref c) ct),osl⟩→objs c=some o→o.data= .fields vs→vs[1]? =some (.str qual tq)→FnX objs f qual params body scope dV kV
structure a9e (G:a1k) (f:Addr) (qual:Str) (params:Arguments) (body:List Stmt) (scope:Scope) (dV kV:Value):Prop where
 fn:FnX G.objs f qual params body scope dV kV
theorem a9e.out {f:Addr} (fa:a9e G f qual params body scope dV kV) {C:Prop} (k:∀name doc pm an ct oc od osl c o vs tq,G.objs f=some ⟨oc,od,.func (fnOf name qual params body scope dV kV doc pm an (.ref c) ct),osl⟩→G.objs c=some o→o.data= .fields vs→vs[1]? =some (.str qual tq)→C):C:=by
 rcases fa.fn with⟨name,doc,pm,an,c,ct,oc,od,osl,o,vs,tq,hf,hc,hd,hq⟩
 exact k name doc pm an ct oc od osl c o vs tq hf hc hd hq
noncomputable def fnv (qual:Str) (scope:Scope) (L f:Addr) (cd:Value):Env:=
 {scope:=scope,locals:=L,globals:=mainGlobals,cells:=cellsFrom (L+1) scope.names [],qual:=qual++".<locals>.",func:=some f,code:=cd,frame:=some L,builtins:=builtinsNs}
theorem b3i {k:Str→Option NameKind}:∀(binds:List (Str×Value)) (m:Str→Option Value) (x:Str),x∉binds.map (·.1)→bindL k binds m x=m x:=by
 intro v'
 induction v' with
 | nil=>
  intro m x _
  exact rfl
 | cons hd' r ih'=>
  intro m x h
  obtain⟨n,v⟩:=hd'
  rw[map_cons,mem_cons,not_or]at h
  unfold bindL
  rw[ih' _ x h.2]
  split
  ·exact if_neg h.1
  ·rfl
theorem b3j {k:Str→Option NameKind}:∀(binds:List (Str×Value)) (m:Str→Option Value) (x:Str),x∉binds.map (·.1)→bindC k binds m x=m x:=by
 intro v'
 induction v' with
 | nil=>
  intro m x _
  exact rfl
 | cons hd' r ih'=>
  intro m x h
  obtain⟨n,v⟩:=hd'
  rw[map_cons,mem_cons,not_or]at h
  unfold bindC
  rw[ih' _ x h.2]
  split
  ·rfl
  ·exact if_neg h.1
theorem c3j {k:Str→Option NameKind}:∀(binds:List (Str×Value)) (m:Str→Option Value) (x:Str) (v:Value),(binds.map (·.1)).Nodup→binds.lookup x=some v→k x=some .local→bindL k binds m x=some v:=by
 intro v'
 induction v' with
 | nil=>
  intro m x v _ h _
  cases h
 | cons hd' r ih'=>
  intro m x v hn h hk
  obtain⟨n,u⟩:=hd'
  rw[map_cons,nodup_cons]at hn
  unfold bindL
  rw[lookup_cons]at h
  cases hb:x == n with
  | true=>
   rw[hb]at h;cases h
   have:x=n:=beq_iff_eq.mp hb
   subst this
   rw[b3i r _ x hn.1,if_pos hk];exact if_pos rfl
  | false=>rw[hb]at h;exact ih' _ x v hn.2 h hk
theorem c3k {k:Str→Option NameKind}:∀(binds:List (Str×Value)) (m:Str→Option Value) (x:Str) (v:Value),(binds.map (·.1)).Nodup→binds.lookup x=some v→k x≠some .local→bindC k binds m x=some v:=by
 intro v'
 induction v' with
 | nil=>
  intro m x v _ h _
  cases h
 | cons hd' r ih'=>
  intro m x v hn h hk
  obtain⟨n,u⟩:=hd'
  rw[map_cons,nodup_cons]at hn
  unfold bindC
  rw[lookup_cons]at h
  cases hb:x == n with
  | true=>
   rw[hb]at h;cases h
   have:x=n:=beq_iff_eq.mp hb
   subst this
   rw[b3j r _ x hn.1,if_neg hk];exact if_pos rfl
  | false=>rw[hb]at h;exact ih' _ x v hn.2 h hk
theorem DRs.lookup:∀{binds:List (Str×Value)} {ρ:List (Str×D)},binds.map (·.1)=ρ.map (·.1)→DRs P (binds.map (·.2)) (ρ.map (·.2))→∀x d,ρ.lookup x=some d→∃v,binds.lookup x=some v∧DR P v d:=by
 intro binds
 induction binds with
 | nil=>
  intro ρ e h x d hx
  cases ρ with
  | nil=>cases hx
  | cons _ _=>cases e
 | cons p r ih=>
  intro ρ e h x d hx
  cases ρ with
  | nil=>cases e
  | cons q' q=>
   walk_at "c"
   rcases p with⟨a,v⟩
   rcases q' with⟨b,e'⟩
   walk_at "u"
   rw[map_cons,map_cons]at e
   injection e with e1 e2
   have e1':a=b:=e1
   subst e1'
   refine DRs.e h fun v0 vs0 _ ee h1 h2=>?_
   injection ee with ee1 ee2
   rw[lookup_cons]at hx ⊢
   cases hb:x == a with
   | true=>rw[hb]at hx;exact⟨v,rfl,Option.some.inj hx▸(show v=v0 from ee1)▸h1⟩
   | false=>rw[hb]at hx;exact ih e2 ((show r.map (·.2)=vs0 from ee2)▸h2) x d hx
section
variable {n:Nat}
theorem Rm.deeper (r:Rm A (n+1)) (env:Env):Rm (A.deeper env) n:=⟨r.hd,by show A.depth+1+2 * n < 1000;have:=r.dep;omega,by show A.units+3+20 * n < 9900;have:=r.un;omega⟩
noncomputable def b4s (G:a1k) (f:Addr) (cd:Value):Prop:=∃o fd,G.objs f=some o∧o.data= .func fd∧fd.code=cd
theorem c9u {s:Shared} {f c:Addr} {name:Str} {oc:Value} {od:Option Addr} {osl:Array (Option Value)}
  (hf:G.objs f=some ⟨oc,od,.func (fnOf name qual params body scope dV kV doc pm an (.ref c) ct),osl⟩) (T:TF G s.heap) (hm:∀b∈M,∃o,s.heap.get? b=some o) (hnames:binds.map (·.1)=ρ.map (·.1)) (hdat:DRs (vis s.heap M) (binds.map (·.2)) (ρ.map (·.2)))
  (hkinds:∀x∈ρ.map (·.1),scope.names.lookup x=some .local∨scope.names.lookup x=some .cell) (hnd:(scope.names.map (·.1)).Nodup) (hfree:∀x∈scope.names,x.2≠.free) (hbn:(ρ.map (·.1)).Nodup)
  (h:∀L cd g0,s.heap.get? L=none→Stt G s.heap (fnv qual scope L f cd) (cellsFrom (L+1) scope.names []) (fms (fnv qual scope L f cd) (cellsFrom (L+1) scope.names [])) M ρ [] s g0→(∀b∈fms (fnv qual scope L f cd) (cellsFrom (L+1) scope.names []),s.heap.get? b=none)→b4s G f cd→
   wpAny (model prog w) (A.deeper (fnv qual scope L f cd)) (execs body (fnv qual scope L f cd)) (fun fl s'=>R (.ok (.ret (match fl with | .ret v=>v | _=>.none))) s')
    (fun e s'=>wpAny (model prog w) (A.deeper (fnv qual scope L f cd)) (leaving (fnv qual scope L f cd) e) (fun _ s''=>R (.error e) s'') (fun e' s''=>R (.error e') s'') s') g0)
  (hk:scope.kind= .function):
  wpAny (model prog w) A.in1 (newFunctionEnv scope mainGlobals [] binds (qual++".<locals>.") (some f) (.ref c) none builtinsNs) (fun env u0=>u0.heap.NoLimit∧codeAny (model prog w) A (.func body env) R u0) (fun e s'=>R (.error e) s') s:=by
 have hkb:∀x∈binds,scope.names.lookup x.1=some .local∨(scope.names.lookup x.1=some .cell∧((cellsFrom (s.heap.objs.size+1) scope.names []).lookup x.1).isSome=true):=fun x hx=>by
  rcases hkinds x.1 (by rw[←hnames];exact zN ⟨x,hx,rfl⟩)with h1 | h1
  ·exact .inl h1
  ·obtain⟨c',hc'⟩:=a1s scope.names (s.heap.objs.size+1) x.1 (mem_of_lookup h1)
   exact .inr ⟨h1,by rw[a0s (a2c _ _ hnd) hc'];rfl⟩
 refine wpAny_newFunctionEnv_cells hk hkb fun env he g0 X=>?_
 have heq:env=fnv qual scope s.heap.objs.size f (.ref c):=he
 subst heq
 clear he
 have hkp:Kp s g0:=by
  obtain⟨h',tk,e,kk⟩:=X.done
  exact⟨h',tk,e,kk⟩
 have hge:∀b∈fms (fnv qual scope s.heap.objs.size f (.ref c)) (cellsFrom (s.heap.objs.size+1) scope.names []),s.heap.objs.size≤b:=fun b hb=>by
  rcases a0o hb with rfl | hb
  ·exact Nat.le_refl _
  ·obtain⟨⟨x,c'⟩,hx,rfl⟩:=zM hb
   exact Nat.le_of_lt (X.above x c' hx)
 have hnone:∀b∈fms (fnv qual scope s.heap.objs.size f (.ref c)) (cellsFrom (s.heap.objs.size+1) scope.names []),s.heap.get? b=none:=fun b hb=>a0c (hge b hb)
 refine⟨Heap.NoLimit.keeps' T.lim hkp.hk,codeAny_func (wpAny_mono (h s.heap.objs.size (.ref c) g0 (a0c (Nat.le_refl _)) ?_ hnone ⟨_,_,hf,rfl,rfl⟩) (fun fl s' h'=>h') fun _ _ h'=>h')⟩
 have hlook:∀x c',(x,c')∈cellsFrom (s.heap.objs.size+1) scope.names []→(cellsFrom (s.heap.objs.size+1) scope.names []).lookup x=some c':=fun x c' hx=>a0s (a2c _ _ hnd) hx
 have F:Fm (fnv qual scope s.heap.objs.size f (.ref c)) (cellsFrom (s.heap.objs.size+1) scope.names []) g0.heap
   (fun x=>if(fnv qual scope s.heap.objs.size f (.ref c)).kindOf x=some .local then bindL (fnv qual scope s.heap.objs.size f (.ref c)).kindOf binds (fun _=>none) x else bindC (fnv qual scope s.heap.objs.size f (.ref c)).kindOf binds (fun _=>none) x):=by
  refine⟨⟨_,X.toInCall.ns,fun x hx=>(if_pos hx).symm⟩,fun x c' hx=>?_,X.apart,fun x c' hx=>Nat.ne_of_gt (X.above x c' hx)⟩
  have hkx:(fnv qual scope s.heap.objs.size f (.ref c)).kindOf x=some .cell:=a0s hnd (a2g _ _ x c' hx)
  refine⟨hkx,hlook x c' hx,?_⟩
  rw[if_neg (by rw[hkx];decide)]
  exact X.cell x c' (hlook x c' hx)
 have hmem:∀b∈fms (fnv qual scope s.heap.objs.size f (.ref c)) (cellsFrom (s.heap.objs.size+1) scope.names [])++M,∃o,g0.heap.get? b=some o:=fun b hb=>by
  rcases zA hb with hb | hb
  ·exact F.there b hb
  ·obtain⟨o,e⟩:=hm b hb;exact⟨o,hkp.hk b o e⟩
 refine⟨hkp.kw,T,hkp.hk,hnone,hk,rfl,rfl,fun y hy=>?_,hlook,⟨_,F,fun x d hx=>?_⟩,fun b hb=>hb,hmem,(fun p hp=>absurd hp not_mem_nil),nodup_nil⟩
 ·rcases hy with hy | hy
  ·obtain⟨c',hc'⟩:=a1s scope.names (s.heap.objs.size+1) y (mem_of_lookup hy)
   exact⟨c',hlook y c' hc'⟩
  ·exact absurd rfl (hfree _ (mem_of_lookup hy))
 ·obtain⟨v,hv,dv⟩:=DRs.lookup hnames hdat x d hx
  have hxm:x∈ρ.map (·.1):=zN ⟨(x,d),mem_of_lookup hx,rfl⟩
  have dv':DR (vis g0.heap (fms (fnv qual scope s.heap.objs.size f (.ref c)) (cellsFrom (s.heap.objs.size+1) scope.names [])++M)) v d:=dv.mono (a8k hkp.hk fun b hb=>by
   rcases zA hb with hb | hb
   ·exact .inr (hnone b hb)
   ·exact .inl hb)
  rcases hkinds x hxm with h1 | h1
  ·have hkx:(fnv qual scope s.heap.objs.size f (.ref c)).kindOf x=some .local:=h1
   exact⟨.inl hkx,v,by rw[if_pos hkx];exact c3j binds _ x v (by rw[hnames];exact hbn) hv hkx,dv'⟩
  ·have hkx:(fnv qual scope s.heap.objs.size f (.ref c)).kindOf x=some .cell:=h1
   refine⟨.inr (a1s _ _ x (mem_of_lookup h1)),v,?_,dv'⟩
   rw[if_neg (by rw[hkx];decide)]
   exact c3k binds _ x v (by rw[hnames];exact hbn) hv (by rw[hkx];decide)
theorem a6s {s:Shared} {f:Addr} {args:Args}
  (fa:a9e G f qual params body scope dV kV) (rm:Rm A (n+1)) (T:TF G s.heap) (hm:∀b∈M,∃o,s.heap.get? b=some o)
  (hbind:∀name doc pm an cdv ct (A':Around) (E':Value→Shared→Prop) (Q':List (Str×Value)→Shared→Prop),(∀binds s',Kp s s'→binds.map (·.1)=ρ.map (·.1)→DRs (vis s'.heap M) (binds.map (·.2)) (ρ.map (·.2))→Q' binds s')→wpAny (model prog w) A' (bindArgs (fnOf name qual params body scope dV kV doc pm an cdv ct) args) Q' E' s)
  (hkinds:∀x∈ρ.map (·.1),scope.names.lookup x=some .local∨scope.names.lookup x=some .cell) (hnd:(scope.names.map (·.1)).Nodup) (hfree:∀x∈scope.names,x.2≠.free) (hbn:(ρ.map (·.1)).Nodup)
  (h:∀L cd g0,s.heap.get? L=none→Stt G s.heap (fnv qual scope L f cd) (cellsFrom (L+1) scope.names []) (fms (fnv qual scope L f cd) (cellsFrom (L+1) scope.names [])) M ρ [] s g0→(∀b∈fms (fnv qual scope L f cd) (cellsFrom (L+1) scope.names []),s.heap.get? b=none)→b4s G f cd→
   wpAny (model prog w) (A.deeper (fnv qual scope L f cd)) (execs body (fnv qual scope L f cd)) (fun fl s'=>R (.ok (.ret (match fl with | .ret v=>v | _=>.none))) s')
    (fun e s'=>wpAny (model prog w) (A.deeper (fnv qual scope L f cd)) (leaving (fnv qual scope L f cd) e) (fun _ s''=>R (.error e) s'') (fun e' s''=>R (.error e') s'') s') g0)
  (hco:scope.isCoroutine=false:=by rfl) (hgen:scope.isGenerator=false:=by rfl) (hk:scope.kind= .function:=by rfl):codeAny (model prog w) A (.call (.ref f) args) R s:=by
 refine fa.out fun name doc pm an ct oc od osl c o vs tq hf hc hd hq=>?_
 refine(codeAny_call_function (fd:=fnOf name qual params body scope dV kV doc pm an (.ref c) ct) (by have:=rm.dep;show A.depth < 1000;omega) (T.objs f _ hf) rfl hco hgen rfl ⟨c,o,vs,tq,rfl,T.objs c o hc,hd,hq⟩ ?_)
 refine hbind name doc pm an (.ref c) ct _ _ _ fun binds s' k' hnames hdat=>?_
 refine c9u hf (T.keeps k'.hk) (fun b hb=>(hm b hb).imp fun o e=>k'.hk b o e) hnames hdat hkinds hnd hfree hbn (fun L cd g0 hL t hW hcd=>?_) hk
 have up:∀b,s'.heap.get? b=none→s.heap.get? b=none:=fun b e=>by
  cases q:s.heap.get? b with
  | none=>rfl
  | some o=>exact nsn e (k'.hk b o q)
 refine h L cd g0 (up L hL) ⟨k'.kw.trans t.kp,T,k'.hk.trans t.kH,fun b hb=>up b (t.fH b hb),t.kind,t.glob,t.bi,t.cs,t.ow,t.fm,t.sub,t.mem,t.ls,t.lsn⟩ (fun b hb=>up b (hW b hb)) hcd
theorem a5y {s:Shared} {f:Addr} {args:Args}
  (fa:a9e G f qual params body scope dV kV) (rm:Rm A (n+1)) (T:TF G s.heap) (hm:∀b∈M,∃o,s.heap.get? b=some o)
  (hbind:∀name doc pm an cdv ct,BindsTo s (fnOf name qual params body scope dV kV doc pm an cdv ct) args binds) (hnames:binds.map (·.1)=ρ.map (·.1)) (hdat:DRs (vis s.heap M) (binds.map (·.2)) (ρ.map (·.2)))
  (hkinds:∀x∈ρ.map (·.1),scope.names.lookup x=some .local∨scope.names.lookup x=some .cell) (hnd:(scope.names.map (·.1)).Nodup) (hfree:∀x∈scope.names,x.2≠.free) (hbn:(ρ.map (·.1)).Nodup)
  (h:∀L cd g0,s.heap.get? L=none→Stt G s.heap (fnv qual scope L f cd) (cellsFrom (L+1) scope.names []) (fms (fnv qual scope L f cd) (cellsFrom (L+1) scope.names [])) M ρ [] s g0→(∀b∈fms (fnv qual scope L f cd) (cellsFrom (L+1) scope.names []),s.heap.get? b=none)→b4s G f cd→
   wpAny (model prog w) (A.deeper (fnv qual scope L f cd)) (execs body (fnv qual scope L f cd)) (fun fl s'=>R (.ok (.ret (match fl with | .ret v=>v | _=>.none))) s')
    (fun e s'=>wpAny (model prog w) (A.deeper (fnv qual scope L f cd)) (leaving (fnv qual scope L f cd) e) (fun _ s''=>R (.error e) s'') (fun e' s''=>R (.error e') s'') s') g0)
  (hco:scope.isCoroutine=false:=by rfl) (hgen:scope.isGenerator=false:=by rfl) (hk:scope.kind= .function:=by rfl):codeAny (model prog w) A (.call (.ref f) args) R s:=
 a6s fa rm T hm (fun name doc pm an cdv ct A' E' Q' K=>hbind name doc pm an cdv ct _ _ _ _ (K _ _ (Kp.refl s) hnames hdat)) hkinds hnd hfree hbn h hco hgen hk
theorem b1m {s:Shared} {f:Addr} {args:Args}
  (fa:a9e G f qual params body scope dV kV) (rm:Rm A (n+1)) (T:TF G s.heap) (hm:∀b∈M,∃o,s.heap.get? b=some o)
  (hbind:∀name doc pm an cdv ct,BindsTo s (fnOf name qual params body scope dV kV doc pm an cdv ct) args binds) (hnames:binds.map (·.1)=ρ.map (·.1)) (hdat:DRs (vis s.heap M) (binds.map (·.2)) (ρ.map (·.2)))
  (hkinds:∀x∈ρ.map (·.1),scope.names.lookup x=some .local∨scope.names.lookup x=some .cell) (hnd:(scope.names.map (·.1)).Nodup) (hfree:∀x∈scope.names,x.2≠.free) (hbn:(ρ.map (·.1)).Nodup)
  (h:∀L cd g0,s.heap.get? L=none→Stt G s.heap (fnv qual scope L f cd) (cellsFrom (L+1) scope.names []) (fms (fnv qual scope L f cd) (cellsFrom (L+1) scope.names [])) M ρ [] s g0→(∀b∈fms (fnv qual scope L f cd) (cellsFrom (L+1) scope.names []),s.heap.get? b=none)→b4s G f cd→
   wpAny (model prog w) (A.deeper (fnv qual scope L f cd)) (execs body (fnv qual scope L f cd)) (fun fl s'=>Q (match fl with | .ret v=>v | _=>.none) s')
    (fun e s'=>wpAny (model prog w) (A.deeper (fnv qual scope L f cd)) (leaving (fnv qual scope L f cd) e) (fun _ s''=>E e s'') (fun e' s''=>E e' s'') s') g0)
  (hco:scope.isCoroutine=false:=by rfl) (hgen:scope.isGenerator=false:=by rfl) (hk:scope.kind= .function:=by rfl):wpAny (model prog w) A (call (.ref f) args.pos args.kw) Q E s:=
 wpAny_call (a5y fa rm T hm hbind hnames hdat hkinds hnd hfree hbn (fun L cd g0 h1 h2 h3 h4=>h L cd g0 h1 h2 h3 h4) hco hgen hk)
theorem a0u {s:Shared} {f:Addr} {args:Args}
  (fa:a9e G f qual params body scope dV kV) (rm:Rm A (n+1)) (T:TF G s.heap) (hm:∀b∈M,∃o,s.heap.get? b=some o)
  (hbind:∀name doc pm an cdv ct,BindsTo s (fnOf name qual params body scope dV kV doc pm an cdv ct) args binds) (hnames:binds.map (·.1)=ρ.map (·.1)) (hdat:DRs (vis s.heap M) (binds.map (·.2)) (ρ.map (·.2)))
  (hkinds:∀x∈ρ.map (·.1),scope.names.lookup x=some .local∨scope.names.lookup x=some .cell) (hnd:(scope.names.map (·.1)).Nodup) (hfree:∀x∈scope.names,x.2≠.free) (hbn:(ρ.map (·.1)).Nodup)
  (h:∀L cd g0,s.heap.get? L=none→Stt G s.heap (fnv qual scope L f cd) (cellsFrom (L+1) scope.names []) (fms (fnv qual scope L f cd) (cellsFrom (L+1) scope.names [])) M ρ [] s g0→(∀b∈fms (fnv qual scope L f cd) (cellsFrom (L+1) scope.names []),s.heap.get? b=none)→
   wpAny (model prog w) (A.deeper (fnv qual scope L f cd)) (execs body (fnv qual scope L f cd)) (fun fl s'=>Q (match fl with | .ret v=>v | _=>.none) s')
    (fun e s'=>wpAny (model prog w) (A.deeper (fnv qual scope L f cd)) (leaving (fnv qual scope L f cd) e) (fun _ s''=>E e s'') (fun e' s''=>E e' s'') s') g0)
  (hco:scope.isCoroutine=false:=by rfl) (hgen:scope.isGenerator=false:=by rfl) (hk:scope.kind= .function:=by rfl):wpAny (model prog w) A (call (.ref f) args.pos args.kw) Q E s:=
 b1m fa rm T hm hbind hnames hdat hkinds hnd hfree hbn (fun L cd g0 h1 h2 h3 _=>h L cd g0 h1 h2 h3) hco hgen hk
noncomputable def Fn (prog:Program) (w:World) (G:a1k) (n:Nat) (f:Addr) (args:List D) (d:D):Prop:=
 ∀(A:Around) (M:List Addr) (s:Shared) (vs:List Value) (Q:Value→Shared→Prop) (E:Value→Shared→Prop),Rm A n→TF G s.heap→(∀b∈M,∃o,s.heap.get? b=some o)→DRs (vis s.heap M) vs args→
  (∀v s',Kp s s'→DR (vis s'.heap M) v d→Q v s')→wpAny (model prog w) A (call (.ref f) vs) Q E s
theorem a0p (h:EvL prog w G n env ρ es ds) (hne:es≠[]) {f:Value} {s:Shared} {Q:Args→Shared→Prop} (rm:Rm A n) (c:Cd G env M ρ s)
  (K:∀vs s',Kp s s'→DRs (vis s'.heap M) vs ds→Q ⟨vs,[]⟩ s'):wpAny (model prog w) A (evalArgs f true (backTo pos (starEach es env)) []) Q E s:=by
 cases h with
 | nil=>exact absurd rfl hne
 | cons h he r=>
  rename_i e es' d ds'
  rw[he]
  refine Calls.evalArgs_plain ?_
  show wpAny _ _ (spliced (backTo pos ((false,eval e env)::starEach es' env))) _ _ _
  rw[←he]
  exact EvL.go rm (.cons h he r) c fun vs g0 l0 dv=>K vs g0 l0 dv
theorem Ev.callF {x:Str} {f:Addr} {np p:Pos} {d:D} {fd:FuncData} (hx:env.kindOf x=some .globalImplicit) (hg:G.glb x=some (some (.ref f))) (ho:G.objs f=some o) (hd:o.data= .func fd)
  (h:EvL prog w G n env ρ es ds) (hne:es≠[]) (fn:Fn prog w G n f ds d) (hdb:(x == ("__debug__":Str))=false:=by decide):Ev prog w G n env ρ (.Call (.Name x np) es [] p) d:=
 fun A M s Q E rm c K=>wpAny_Call_NameR (a1i c.kind c.glob c.top hx hg (Calls.callWith_function (a0p h hne rm c fun vs g0 l0 dvs=>⟨⟨(c.keeps l0).top.objs f o ho,hd⟩,
  fn A M g0 vs Q E rm (c.keeps l0).top (c.keeps l0).mem dvs fun v s' k' dv=>K v s' (l0.trans k') dv⟩)) hdb)
end
section
variable {n:Nat} {s:Shared}
theorem a2q {Q:Flow→Shared→Prop} {e:Expr} {d:D} (t:Stt G H env own W i0 ρ ol j0 s) (rm:Rm A n) (h:Ev prog w (G.at ol) n env ρ e d) (hW:∀b∈W,j0.heap.get? b=none)
  (K:∀v s',Kp j0 s'→DR (vis s'.heap i0) v d→Q (.ret v) s') (hgen:G.gen=false:=by assumption):wpAny (model prog w) A (exec (.Return (some e) pos) env) Q E s:=
 wpAny_Return_some (h A _ s _ E rm t.cd fun v g0 l0 dv=>by
  have k:=(t.keeps l0).kp
  rw[hgen]at k
  exact K v g0 (k.kp hW) (dv.mono a4c))
end
end
section
open PySem.SeqAt
section
variable {n:Nat}
theorem a9l:Op2 prog w G n (compareOp .NotEq) (.list ds) (.list []) (.bool (!ds.isEmpty)):=fun A M s a b Q E rm _ _ da db K=>by
 have hu:A.units < cLine:=by have:=rm.un;show A.units < 9900;omega
 cases da with
 | list e r=>
  rename_i a vs i
  cases db with
  | list e' r'=>
   cases r'
   cases ds with
   | nil=>
    cases r
    exact RcNeAt.lists (e:=fun _=>true) (a0j e) (a0j e') rfl hu (fun j h1 _=>absurd h1 (Nat.not_lt_zero _)) prog w E Q (K _ _ (Kp.refl _) (.bool _))
   | cons d ds=>
    cases r with
    | cons h1 h2=>exact RcNeAt.lists_lengths (a0j e) (a0j e') (by simp) hu prog w E Q (K _ _ (Kp.refl _) (.bool _))
theorem c1w:Op2 prog w G n (compareOp .Eq) (.list ds) (.list []) (.bool ds.isEmpty):=fun A M s a b Q E rm _ _ da db K=>by
 have hu:A.units < cLine:=by have:=rm.un;show A.units < 9900;omega
 cases da with
 | list e r=>
  cases db with
  | list e' r'=>
   cases r'
   cases ds with
   | nil=>
    cases r
    exact eq_listAt (e:=fun _=>true) (a0j e) (a0j e') rfl hu (fun j h1 _=>absurd h1 (Nat.not_lt_zero _)) (K _ _ (Kp.refl _) (.bool _))
   | cons d ds=>
    cases r with
    | cons h1 h2=>exact eq_list_lengthsAt (a0j e) (a0j e') (by simp) hu (K _ _ (Kp.refl _) (.bool _))
theorem c5y (hsz:ds.length≤sizeLine):Op1 prog w G n (fun a=>call (.type "list") [a]) (.list ds) (.list ds):=fun A M s a Q E rm _ hm da K=>by
 cases da with
 | list e r=>
  refine call_list_seq _ (.inl rfl) (a0b e).1 rfl rfl (fun h' c' kk hD=>K _ _ ⟨h',s.toks,rfl,kk⟩ (.list (a0v hD fun hb=>?_) (r.mono (Hk.vis kk)))) (by simpa [r.length] using hsz)
  obtain⟨o,e⟩:=hm _ hb
  exact absurd (lt_size e) (Nat.lt_irrefl _)
theorem Ev.callT {x:Str} {e:Expr} {np p:Pos} {d:D} (hx:env.kindOf x=some .globalImplicit) (hg:G.glb x=some none) (hv:bootBuiltins x=some (.type T)) (hn:x≠"__name__") (h:EvL prog w G n env ρ [e] [da])
  (op:Op1 prog w G n (fun a=>call (.type T) [a]) da d) (hd:(x == ("__debug__":Str))=false:=by decide):Ev prog w G n env ρ (.Call (.Name x np) [e] [] p) d:=
 fun A M s Q E rm c K=>wpAny_Call_NameR (a1v c.kind c.glob c.bi c.top hx hg hv hn (PySem.callWith_type h.plain (a0p h (by simp) rm c fun vs g0 l0 dv=>by
   cases dv with
   | cons d0 d1=>cases d1;exact op A M g0 _ Q E rm (c.keeps l0).top (c.keeps l0).mem d0 fun v s' k' dv=>K v s' (l0.trans k') dv)) hd)
inductive Cap (ρ:List (Str×D)) (scope:Scope):List (Str×D)→Prop
 | nil:Cap ρ scope []
 | cons {x:Str} {d:D} {r:List (Str×D)}:ρ.lookup x=some d→scope.names.lookup x=some .free→Cap ρ scope r→Cap ρ scope ((x,d)::r)
theorem Cap.get (h:Cap ρ scope ρ'):∀x d,ρ'.lookup x=some d→ρ.lookup x=some d∧scope.names.lookup x=some .free:=by
 induction h with
 | nil=>intro x d e;cases e
 | cons h1 h2 _ ih=>
  intro x d e
  rw[lookup_cons]at e
  rename_i y d' r _
  cases hb:x == y with
  | true=>rw[hb]at e;cases e;rw[beq_iff_eq.mp hb];exact⟨h1,h2⟩
  | false=>rw[hb]at e;exact ih x d e
noncomputable def b4g:List Str→Bool
 | []=>true
 | x::r=>!r.contains x && b4g r
theorem a0d:∀{l:List Str},b4g l=true→l.Nodup:=by
 intro v'
 induction v' with
 | nil=>
  intro _
  exact nodup_nil
 | cons x r ih'=>
  intro h
  unfold b4g at h
  rw[Bool.and_eq_true]at h
  rw[nodup_cons]
  exact⟨by simpa using h.1,ih' h.2⟩
noncomputable def d1t (o:Option NameKind):Bool:=decide (o=some .cell) || decide (o=some .free)
noncomputable def d1e (env:Env) (scope:Scope):Bool:=scope.names.all fun q=>!decide (q.2= .free) || d1t (env.kindOf q.1)
theorem Sc.of (h1:scope.kind= .function) (h2:b4g (scope.names.map (·.1))=true) (h3:d1e env scope=true) (c:Cap ρ scope ρ'):Sc env scope ρ ρ':=
 ⟨h1,a0d h2,fun y hy=>by
  exact(Bool.or_eq_true_iff.mp (all_eq_true.mp h3 _ hy:(!decide (NameKind.free= .free) || d1t (env.kindOf y))=true)).elim (fun h=>nomatch h) fun h=>(Bool.or_eq_true_iff.mp h).imp of_decide_eq_true of_decide_eq_true,c.get⟩
end
end
section
open PySem.SeqAt
noncomputable def dn (n:Nat):D:=.int (n:Int)
noncomputable def a0i (l:List Nat):List D:=l.map dn
theorem c6f (l:List Nat):a0i l=(l.map fun n:Nat=>(n:Int)).map D.int:=by rw[map_map];rfl
noncomputable def a1l (r:List Nat):D:=.list (a0i r)
noncomputable def a8h (R:List (List Nat)):List D:=R.map a1l
section
variable {n:Nat}
theorem Ev.cast {e:Expr} {d d':D} (h:Ev prog w G n env ρ e d) (e':d=d'):Ev prog w G n env ρ e d':=e'▸h
theorem Ts.cast {e:Expr} {b b':Bool} (h:Ts prog w G n env ρ e b) (e':b=b'):Ts prog w G n env ρ e b':=e'▸h
theorem It.cast {e:Expr} {d d':List D} (h:It prog w G n env ρ e d) (e':d=d'):It prog w G n env ρ e d':=e'▸h
theorem EvL.one {e:Expr} {d:D} (h:Ev prog w G n env ρ e d) (he:starEach [e] env=(false,eval e env)::starEach [] env:=by rfl):EvL prog w G n env ρ [e] [d]:=.cons h he .nil
theorem c3l (k:Nat) (l:List Nat):((l.map fun n:Nat=>(n:Int)).any fun x=>x == (k:Int))=l.contains k:=by
 rw[List.any_map]
 induction l with
 | nil=>rfl
 | cons a l ih=>
  rw[List.any_cons,ih,List.contains_cons]
  congr 1
  show(((a:Int)) == (k:Int))=(k == a)
  by_cases hk:k=a
  ·subst hk;simp
  ·have h1:((a:Int) == (k:Int))=false:=by simpa using fun e=>hk (by omega)
   have h2:(k == a)=false:=by simpa using hk
   rw[h1,h2]
theorem b4a {k:Nat} {l:List Nat}:Op2 prog w G n (compareOp .In) (dn k) (a1l l) (.bool (l.contains k)):=by
 have h:=d0v (prog:=prog) (w:=w) (G:=G) (n:=n) (a:=(k:Int)) (ns:=l.map fun n:Nat=>(n:Int))
 rw[←c6f]at h
 rw[c3l]at h
 exact h
theorem a4g {m:Nat} (h:ds.length=m) (hm:m < 2 ^ 62):Op1 prog w G n (fun a=>call (.builtin "len") [a]) (.list ds) (dn m):=by
 subst h;exact b0y (by omega)
theorem b0x {a b:Nat}:Op2 prog w G n (compareOp .Lt) (dn a) (dn b) (.bool (decide (a < b))):=by
 have h:=c5s (prog:=prog) (w:=w) (G:=G) (n:=n) (a:=(a:Int)) (b:=(b:Int))
 have e:decide ((a:Int) < (b:Int))=decide (a < b):=by simp
 rw[e]at h;exact h
theorem c3w {a b:Nat}:Op2 prog w G n (compareOp .Eq) (dn a) (dn b) (.bool (a == b)):=by
 have h:=b8f (prog:=prog) (w:=w) (G:=G) (n:=n) (a:=(a:Int)) (b:=(b:Int))
 have e:((a:Int) == (b:Int))=(a == b):=by
  by_cases hk:a=b
  ·subst hk;simp
  ·have h1:((a:Int) == (b:Int))=false:=by simpa using fun e=>hk (by omega)
   have h2:(a == b)=false:=by simpa using hk
   rw[h1,h2]
 rw[e]at h;exact h
theorem b2m {a b:Nat}:Op2 prog w G n (binaryOp .Add) (dn a) (dn b) (dn (a+b)):=by
 have h:=b0z (prog:=prog) (w:=w) (G:=G) (n:=n) (a:=(a:Int)) (b:=(b:Int))
 exact h
theorem Ev.itemN {p:Pos} {k:Nat} {d:D} (hv:Ev prog w G n env ρ value (.list ds)) (hi:Ev prog w G n env ρ slice (dn k)) (hd:ds[k]? =some d) (hk:k < 2 ^ 62)
  (hs:∀o i,subscripted slice false o i=operate [o,i] (getItem o i):=by intro _ _;with_unfolding_all rfl):Ev prog w G n env ρ (.Subscript value slice p) d:=
 .item hv hi (by omega) (by omega) (by simpa using hd) hs
theorem Ev.itemTN {p:Pos} {k:Nat} {d:D} (hv:Ev prog w G n env ρ value (.tuple ds)) (hi:Ev prog w G n env ρ slice (dn k)) (hd:ds[k]? =some d) (hk:k < 2 ^ 62)
  (hs:∀o i,subscripted slice false o i=operate [o,i] (getItem o i):=by intro _ _;with_unfolding_all rfl):Ev prog w G n env ρ (.Subscript value slice p) d:=
 .itemT hv hi (by omega) (by omega) (by simpa using hd) hs
theorem Ev.compA {α:Type} {iter:Expr} {xs:List α} {g:α→D} (hit:It prog w G n env ρ iter (xs.map g)) (hsz:xs.length≤sizeLine) (sc:Sc env scope ρ ρ') (f:α→D) (bs:α→List (Str×D))
  (hb:∀d∈xs,Bd (fun x=>scope.names.lookup x=some .local∨scope.names.lookup x=some .cell) target (g d) (bs d))
  (he:∀C cells,∀d∈xs,Ev prog w G n (compEnvC scope cells C env) (bs d++ρ') elt (f d))
  (hs:∀x,foldedSetIterable iter env x=pure x:=by intro _;rfl):Ev prog w G n env ρ (.ListComp elt [⟨target,iter,[],0⟩] scope pos) (.list (xs.map f)):=by
 have:=Ev.comp (ifs:=[]) hit hsz sc (fun _=>true) f bs hb (fun C cells d hd=>rfl) (fun C cells d hd _=>he C cells d hd) hs (pos:=pos)
 rwa [List.filter_eq_self.mpr (fun _ _=>rfl)]at this
theorem It.rangeN {e:Expr} {rp p:Pos} (hx:env.kindOf "range"=some .globalImplicit) (hg:G.glb "range"=some none) (h:Ev prog w G n env ρ e (dn N)) (hN:N < 2 ^ 62) (he:starEach [e] env=(false,eval e env)::starEach [] env:=by rfl):
  It prog w G n env ρ (.Call (.Name "range" rp) [e] [] p) ((List.range N).map dn):=It.range hx hg (.cons h he .nil) hN
theorem b2o (a b:List Nat):a0i (a++b)=a0i a++a0i b:=map_append
theorem c5z {a b:List Nat} (hsz:a.length+b.length≤sizeLine):Op2 prog w G n (binaryOp .Add) (a1l a) (a1l b) (a1l (a++b)):=by
 have h:=a7h (prog:=prog) (w:=w) (G:=G) (n:=n) (xs:=a0i a) (ys:=a0i b) (by simpa [a0i] using hsz)
 rw[←b2o]at h
 exact h
theorem c5r {d:D}:Op2 prog w G n (binaryOp .Mult) (.list [d]) (.int 5) (.list [d,d,d,d,d]):=fun A M s a b Q E rm T hm da db K=>by
 cases db with
 | int _ u=>
  cases da with
  | list e r=>
   rename_i l vs i
   cases r with
   | @cons v _ _ _ h1 h2=>
    cases h2
    have hl:=(a0b e).1
    refine wpAny_binaryOp_repeat_ref (T:="list") (U:="int") (by decide) ⟨_,hl,rfl⟩ (fun s'=>typeIs_int s' 5 u) noFill_list_mul PySem.F.fills_int_mul PySem.F.slot_int_rmul repeat_list PySem.F.slot_int_index.lookup
     (call_meets PySem.F.slot_int_rmul (typeIs_int s 5 u) PySem.F.entry_int_rmul (PySem.F.args_int_rmul_2 _ _) (int___rmul___int_list 5 u l #[v] i)
      ⟨hl,rfl,⟨_,hl,rfl⟩,call_meets PySem.F.slot_list_mul ⟨_,hl,rfl⟩ PySem.F.entry_list_mul (PySem.F.args_list_mul_2 _ _)
       (AutoListH.list___mul___list_int_3 l #[v] i 5 u (by simp[Builtin.List.listFitsIndex]) (by show ¬1 * 5 > (2 ^ 63 - 1) / 8;decide) (by simp[Builtin.List.listTooLong,sizeLine])) ⟨hl,?_⟩⟩)
    exact K _ _ (Kp.push _ _) (a5h (vs:=[v,v,v,v,v]) hm (.cons h1 (.cons h1 (.cons h1 (.cons h1 (.cons h1 .nil))))))
inductive Lk (ρ:List (Str×D)):List (Str×D)→Prop
 | nil:Lk ρ []
 | cons {x:Str} {d:D} {r:List (Str×D)}:ρ.lookup x=some d→Lk ρ r→Lk ρ ((x,d)::r)
theorem Lk.get (h:Lk ρ ρ'):∀x d,ρ'.lookup x=some d→ρ.lookup x=some d:=by
 induction h with
 | nil=>intro x d e;cases e
 | cons h1 _ ih=>
  intro x d e
  rw[lookup_cons]at e
  rename_i y d' r _
  cases hb:x == y with
  | true=>rw[hb]at e;cases e;rw[beq_iff_eq.mp hb];exact h1
  | false=>rw[hb]at e;exact ih x d e
theorem Stt.pick {s:Shared} (t:Stt G H env own W i0 ρ ol j0 s) (h:Lk ρ ρ'):Stt G H env own W i0 ρ' ol j0 s:=
 ⟨t.kp,t.tH,t.kH,t.fH,t.kind,t.glob,t.bi,t.cs,t.ow,let⟨vm,F,hx⟩:=t.fm;⟨vm,F,fun x d e=>hx x d (h.get x d e)⟩,t.sub,t.mem,t.ls,t.lsn⟩
theorem a2w {names:List (Str×NameKind)} {L:Nat} {x:Str} (h:names.lookup x=some .cell):∃c,(x,c)∈cellsFrom (L+1) names []:=a1s _ _ x (mem_of_lookup h)
end
end
section
open PySem.SeqAt
section
variable {n:Nat} {s:Shared}
theorem Stt.fresh_of (t:Stt G H env own W i0 ρ ol j0 s) {a:Addr} (ha:s.heap.get? a=none):a∉W∧a∉i0∧H.get? a=none∧j0.heap.get? a=none:=by
 have h1:a∉W++i0:=fun hm=>by obtain⟨o,e⟩:=t.mem a hm;exact nsn ha e
 have hW:a∉W:=fun hm=>h1 (zB (.inl hm))
 refine⟨hW,fun hm=>h1 (zB (.inr hm)),?_,?_⟩
 ·cases e:H.get? a with
  | none=>rfl
  | some o=>exact nsn ha (t.kH a o e)
 ·cases e:j0.heap.get? a with
  | none=>rfl
  | some o=>exact nsn ha (t.kp.kept a o hW e)
theorem Stt.own1 (t:Stt G H env own W i0 ρ ol j0 s) (k:Kp s s') {a:Addr} {ob:Ob} (ha:s.heap.get? a=none) (he:s'.heap.get? a=some o) (ho:ObR (vis s'.heap ((a::W)++i0)) o ob):Stt G H env own (a::W) i0 ρ ((a,ob)::ol) j0 s':=by
 have t':=t.keeps k
 clear ob ob
 obtain⟨f1,f2,f3,f4⟩:=t.fresh_of ha
 have up:∀x o,vis s.heap (W++i0) x=some o→vis s'.heap ((a::W)++i0) x=some o:=a8k k.hk fun b hb=>by
  clear f4 f2
  rcases zA hb with h | h
  ·rcases a0o h with rfl | h
   ·exact .inr ha
   ·exact .inl (zB (.inl h))
  ·exact .inl (zB (.inr h))
 have hfm:a∉fms env own:=fun hm=>f1 (t.sub a hm)
 refine⟨t'.kp.grow fun b hb=>.tail _ hb,t'.tH,t'.kH,fun b hb=>?_,t'.kind,t'.glob,t'.bi,t'.cs,t'.ow,?_,fun b hb=>.tail _ (t'.sub b hb),fun b hb=>?_,fun p hp=>?_,?_⟩
 ·clear f4 f2 ha
  rcases a0o hb with rfl | hb
  ·exact f3
  ·exact t.fH b hb
 ·clear f4 f3 f2 ha
  obtain⟨vm,F,h⟩:=t.fm
  exact⟨vm,F.keeps fun b _ o e=>k.hk b o e,fun x d e=>let⟨h1,v,h2,h3⟩:=h x d e;⟨h1,v,h2,h3.mono up⟩⟩
 ·clear f4 f3 f2 ha
  rcases zA hb with h | h
  ·rcases a0o h with rfl | h
   ·exact⟨o,he⟩
   ·exact t'.mem b (zB (.inl h))
  ·exact t'.mem b (zB (.inr h))
 ·clear f4 f3 f2 t' ha
  rcases a0o hp with rfl | hp
  ·exact⟨.head _,hfm,o,he,ho⟩
  ·clear hfm ho he
   obtain⟨a',b,o,e,r⟩:=t.ls p hp
   exact⟨.tail _ a',b,o,k.hk _ _ e,r.mono up⟩
 ·rw[map_cons,nodup_cons]
  refine⟨fun hm=>?_,t.lsn⟩
  clear hfm up f4 f3 f2 t' ho he ha k
  obtain⟨p,hp,e⟩:=zM hm
  have e':p.1=a:=e
  exact f1 (e'▸(t.ls p hp).wW)
theorem Stt.set (t:Stt G H env own W i0 ρ ol j0 s) (k:Kw G.gen W₁ s s') (hW:∀b∈W₁,b∈W) (hf:∀b∈W₁,b∉fms env own) (hx:∀b∈W₁,∃o,s'.heap.get? b=some o)
  (hl:∀p∈ol',p∈ol∧p.1∉W₁∨Own s'.heap (vis s'.heap (W++i0)) W (fms env own) p) (hn:(ol'.map (·.1)).Nodup):Stt G H env own W i0 ρ ol' j0 s':=by
 have up:∀x o,vis s.heap (W++i0) x=some o→vis s'.heap (W++i0) x=some o:=a0x fun b o e hb=>k.kept b o (fun hm=>hb (zB (.inl (hW b hm)))) e
 refine⟨t.kp.trans (k.grow hW),t.tH,fun b o e=>k.kept b o (fun hm=>by exact nsn (t.fH b (hW b hm)) e) (t.kH b o e),t.fH,t.kind,t.glob,t.bi,t.cs,t.ow,?_,t.sub,fun b hb=>?_,fun p hp=>?_,hn⟩
 ·obtain⟨vm,F,h⟩:=t.fm
  exact⟨vm,F.keeps fun b hb o e=>k.kept b o (fun hm=>hf b hm hb) e,fun x d e=>let⟨h1,v,h2,h3⟩:=h x d e;⟨h1,v,h2,h3.mono up⟩⟩
 ·by_cases hm:b∈W₁
  ·exact hx b hm
  ·obtain⟨o,e⟩:=t.mem b hb;exact⟨o,k.kept b o hm e⟩
 ·rcases hl p hp with⟨h1,h2⟩ | h1
  ·obtain⟨a',b,o,e,r⟩:=t.ls p h1
   exact⟨a',b,o,k.kept _ _ h2 e,r.mono up⟩
  ·exact h1
theorem Stt.set1 {a:Addr} {ob ob':Ob} (t:Stt G H env own W i0 ρ ((a,ob)::ol) j0 s) (k:Kw G.gen [a] s s') (he:s'.heap.get? a=some o) (ho:ObR (vis s'.heap (W++i0)) o ob'):Stt G H env own W i0 ρ ((a,ob')::ol) j0 s':=by
 obtain⟨a1,a2,_⟩:=t.ls _ (.head _)
 have hn:=t.lsn
 rw[map_cons,nodup_cons]at hn
 refine t.set k (fun b hb=>by rw[zS hb];exact a1) (fun b hb=>by rw[zS hb];exact a2) (fun b hb=>by rw[zS hb];exact⟨o,he⟩) (fun p hp=>?_) (by rw[map_cons,nodup_cons];exact hn)
 rcases a0o hp with rfl | hp
 ·exact .inr ⟨a1,a2,o,he,ho⟩
 ·exact .inl ⟨.tail _ hp,fun hm=>hn.1 (zN ⟨p,hp,zS hm⟩)⟩
theorem Kw.sameBut {a:Addr} {tk:Nat} (hs:Heap.SameBut a s.heap h'):Kw fl [a] s {s with heap:=h',toks:=tk}:=Kw.of fun b o hb e=>(hs.2 b fun e'=>hb (e'▸.head _)).trans e
theorem Stt.perm (t:Stt G H env own W i0 ρ ol j0 s) (h:∀p∈ol',p∈ol) (hn:(ol'.map (·.1)).Nodup):Stt G H env own W i0 ρ ol' j0 s:=
 ⟨t.kp,t.tH,t.kH,t.fH,t.kind,t.glob,t.bi,t.cs,t.ow,t.fm,t.sub,t.mem,fun p hp=>t.ls p (h p hp),hn⟩
theorem Stt.swap {a b:Addr×Ob} (t:Stt G H env own W i0 ρ (a::b::ol) j0 s):Stt G H env own W i0 ρ (b::a::ol) j0 s:=by
 refine t.perm (fun p hp=>?_) ?_
 ·rcases a0o hp with rfl | hp
  ·exact .tail _ (.head _)
  ·rcases a0o hp with rfl | hp
   ·exact .head _
   ·exact .tail _ (.tail _ hp)
 ·have:=t.lsn
  simp only[map_cons,nodup_cons,mem_cons,not_or]at this ⊢
  exact⟨⟨fun e=>this.1.1 e.symm,this.2.1⟩,this.1.2,this.2.2⟩
theorem Stt.freeze {a:Addr} {x:Str} (t:Stt G H env own W i0 ρ ((a,.list ds)::ol) j0 s) (hx:ρ.lookup x=some (.val (.ref a))) (h0:j0.heap.get? a=none) (hM:a∉i0):
  Stt G H env own (W.filter (· != a)) i0 ((x,.list ds)::ρ) ol j0 s:=by
 obtain⟨a1,a2,o,e,vs,ep,rfl,r⟩:=t.ls _ (.head _)
 have hn:=t.lsn
 rw[map_cons,nodup_cons]at hn
 have hsub:∀b,b∈W.filter (· != a)→b∈W:=fun b hb=>(mem_filter.mp hb).1
 have hne:∀b∈W,b≠a→b∈W.filter (· != a):=fun b hb h=>mem_filter.mpr ⟨hb,by simpa using h⟩
 have hna:a∉W.filter (· != a):=fun h=>by simpa using (mem_filter.mp h).2
 have up:∀x o,vis s.heap (W++i0) x=some o→vis s.heap (W.filter (· != a)++i0) x=some o:=a8k (Hk.refl _) fun b hb=>.inl (by
  rcases zA hb with h | h
  ·exact zB (.inl (hsub b h))
  ·exact zB (.inr h))
 refine⟨?_,t.tH,t.kH,fun b hb=>t.fH b (hsub b hb),t.kind,t.glob,t.bi,t.cs,t.ow,?_,fun b hb=>hne b (t.sub b hb) fun e=>a2 (e▸hb),fun b hb=>t.mem b ?_,fun p hp=>?_,hn.2⟩
 ·refine⟨fun b o hb e=>t.kp.1 b o (fun hm=>hb (hne b hm fun e'=>?_)) e,t.kp.2⟩
  rw[e',h0]at e;cases e
 ·obtain⟨vm,F,h⟩:=t.fm
  refine⟨vm,F,fun y d hy=>?_⟩
  rw[lookup_cons]at hy
  cases hb:y == x with
  | true=>
   rw[hb]at hy;cases hy
   rw[beq_iff_eq.mp hb]
   obtain⟨h1,v,h2,h3⟩:=h x _ hx
   cases h3
   exact⟨h1,_,h2,.list (a0v e fun hm=>by
    rcases zA hm with hm | hm
    ·exact hna hm
    ·exact hM hm) (r.mono up)⟩
  | false=>
   rw[hb]at hy
   obtain⟨h1,v,h2,h3⟩:=h y d hy
   exact⟨h1,v,h2,h3.mono up⟩
 ·rcases zA hb with h | h
  ·exact zB (.inl (hsub b h))
  ·exact zB (.inr h)
 ·obtain⟨p1,p2,o,e,r⟩:=t.ls p (.tail _ hp)
  exact⟨hne _ p1 fun e'=>hn.1 (zN ⟨p,hp,e'⟩),p2,o,e,r.mono up⟩
theorem a4y {Q:Flow→Shared→Prop} {x:Str} {lp:Pos} (t:Stt G H env own W i0 ρ ol j0 s) (rm:Rm A n) (hx:Lo env own x) (hs:swapsWith (.List [] lp) (some (.Name x px)) pos.line env=pure false)
  (K:∀a s',s.heap.get? a=none→Stt G H env own (a::W) i0 ((x,.val (.ref a))::ρ) ((a,.list [])::ol) j0 s'→Q .next s'):
  wpAny (model prog w) A (exec (.Assign [.Name x px] (.List [] lp) pos) env) Q E s:=by
 refine wpAny_Assign_Name (wpAny_List ?_) hs
 refine EvL.go rm (.nil:EvL prog w (G.at ol) n env ρ [] []) t.cd fun vs g0 l0 dv=>⟨by rw[dv.length];decide,?_⟩
 cases dv
 have ha:g0.heap.get? g0.heap.objs.size=none:=a0c (Nat.le_refl _)
 have ha':s.heap.get? g0.heap.objs.size=none:=by
  cases e:s.heap.get? g0.heap.objs.size with
  | none=>rfl
  | some o=>exact nsn ha (l0.hk _ o e)
 have t':=(t.keeps l0).own1 (ob:=.list []) (Kp.push g0 {cls:=.type "list",data:=.seq ([]:List Value).toArray 0}) ha (get?_push_size _ rfl) ⟨[],0,rfl,.nil⟩
 exact t'.put hx (.val _) fun s' t'' _=>K _ s' ha' t''
theorem a6x {Q:Flow→Shared→Prop} {x:Str} {e:Expr} {a:Addr} {d:D} {np cp:Pos} (t:Stt G H env own W i0 ρ ((a,.list ds)::ol) j0 s) (rm:Rm A n) (hx:ρ.lookup x=some (.val (.ref a)))
  (h:Ev prog w (G.at ((a,.list ds)::ol)) n env ρ e d) (hsz:ds.length≤sizeLine)
  (K:∀s',Stt G H env own W i0 ρ ((a,.list (ds++[d]))::ol) j0 s'→Q .next s')
  (hd:(x == ("__debug__":Str))=false:=by decide) (hnn:(x == ("__classdict__":Str))=false:=by decide)
  (hi:interactive env=false:=by kernel_rfl) (hs:swapsWith (.Call (.Attribute (.Name x np) "append" ap) [e] [] cp) none pos.line env=pure false:=by kernel_rfl)
  (hbase:attributeBase (.Name x np) "append" env (eval (.Name x np) env)=eval (.Name x np) env:=by kernel_rfl)
  (hfew:((backTo cp (starEach [e] env)).all (fun x=>!x.1) && (backToKw cp (keywordEach [] env)).all (fun x=>x.1.isSome) && decide (([e]:List Expr).length+([]:List Keyword).length+(if([]:List Keyword).isEmpty then 0 else 1) < 30))=true:=by kernel_rfl)
  (hline:(ap.endLine == cp.line)=true:=by kernel_rfl) (htrees:backTo cp (starEach [e] env)=[(false,eval e env)]:=by kernel_rfl):
  wpAny (model prog w) A (exec (.Expr (.Call (.Attribute (.Name x np) "append" ap) [e] [] cp) pos) env) Q E s:=by
 refine wpAny_Expr (wpAny_Call_append hbase hfew hline htrees ?_) hi hs
 obtain⟨v,hv,dv⟩:=t.cd.vars x _ hx
 cases dv
 refine a1f t.kind hv ?_ hd hnn
 obtain⟨a1,a2,o,e0,vs,ep,rfl,r⟩:=t.ls _ (.head _)
 refine⟨a,vs.toArray,rfl,⟨_,_,e0,rfl,rfl,rfl⟩,?_⟩
 refine h A _ s _ E rm t.cd fun y u0 y1 dy=>?_
 have z0:=t.keeps y1
 obtain⟨_,_,o,e2,vs2,ep2,rfl,r2⟩:=z0.ls _ (.head _)
 refine wpAny_list_append_plain ⟨ep2,e2⟩ (fun h' hl hs'=>?_) (by rw[size_toArray,r2.length];exact hsz)
 obtain⟨ep3,e3⟩:=hl
 refine K _ (z0.set1 (Kw.sameBut hs') (by simpa using e3) ⟨vs2++[y],ep3,rfl,?_⟩)
 exact(r2.append (.cons dy .nil)).mono (a0x fun b o e hb=>(hs'.2 b fun e'=>hb (e'▸zB (.inl a1))).trans e)
end
end
section
open PySem.SeqAt
section
variable {n:Nat} {s:Shared}
theorem b4t {Q:Flow→Shared→Prop} {e:Expr} {np cp:Pos} (J:Nat→List (Str×D)→List (Addr×Ob)→Prop) (bs:Nat→D→List (Str×D))
  (t:Stt G H env own W i0 ρ ol j0 s) (rm:Rm A n) (hx:env.kindOf "enumerate"=some .globalImplicit) (hg:G.glb "enumerate"=some none) (h:EvL prog w (G.at ol) n env ρ [e] [.list ds])
  (htgt:∃elts k p,target= .Tuple elts k p)
  (hb:∀i,∀d∈ds,Bd (fun x=>Lo env own x) target (.tuple [dn i,d]) (bs i d)) (h0:J 0 ρ ol)
  (turn:∀(j4:List Addr) (i:Nat) (d:D) (y0:List (Str×D)) (x0:List (Addr×Ob)) (g0:Shared) (E':Value→Shared→Prop),ds[i]? =some d→J i y0 x0→Stt G H env own W j4 (bs i d++y0) x0 g0 g0→
   wpAny (model prog w) A (execs body env) (d0i G H env own W j4 g0 (J (i+1))) E' g0)
  (done:∀y0 x0 g0,J ds.length y0 x0→Stt G H env own W i0 y0 x0 j0 g0→Q .next g0)
  (hs:∀x,foldedSetIterable (.Call (.Name "enumerate" np) [e] [] cp) env x=pure x:=by intro _;rfl):wpAny (model prog w) A (exec (.For target (.Call (.Name "enumerate" np) [e] [] cp) body [] pos) env) Q E s:=by
 have c:=t.cd
 refine wpAny_For (wpAny_Call_NameR (a1v (G:=G) (v:=.type "enumerate") t.kind t.glob t.bi t.top hx hg ∅ (by decide) (PySem.callWith_type h.plain (a0p h (by simp) rm c fun vs g0 l0 dv=>?_)) (by decide))) hs
 cases dv with
 | cons d0 d1=>
 cases d1
 have d0':=d0
 cases d0 with
 | list e0 r0=>
 rename_i l vs n0
 have hl0:=(a0b e0).1
 refine call_enumerate_1 hl0 fun h' hE hI hz hk=>?_
 have w0:=t.keeps l0
 have fr:∀b,g0.heap.objs.size≤b→g0.heap.get? b=none:=fun b hb=>a0c hb
 refine wpAny_pyIter_enum hE ?_
 have hwrs:∀b∈[g0.heap.objs.size+1,g0.heap.objs.size],g0.heap.get? b=none:=fun b hb=>fr b (by
  rcases a0o hb with rfl | hb
  ·omega
  ·rw[zS hb];exact Nat.le_refl _)
 have kp1:Kp g0 {g0 with heap:=h'}:=⟨h',g0.toks,rfl,hk⟩
 have ee:∃ea,ea=g0.heap.objs.size+1:=⟨_,rfl⟩
 walk_at "c"
 rcases ee with⟨ea,ee⟩
 have ei:∃ia,ia=g0.heap.objs.size:=⟨_,rfl⟩
 rcases ei with⟨ia,ei⟩
 walk_at "u"
 replace hE:IsEnum h' ea ia 0 .none:=by rw[ee,ei];exact hE
 replace hI:h'.IsListIter ia l 0:=by rw[ei];exact hI
 replace hwrs:∀b∈[ea,ia],g0.heap.get? b=none:=by rw[ee,ei];exact hwrs
 rw[←ee]
 have hei:ea≠ia:=by rw[ee,ei];exact Nat.succ_ne_self _
 have hwex:∀(i:Int) (h:Heap),(∃old,IsEnum h ea ia i old)→∀j,h.IsListIter ia l j→∀b∈[ea,ia],∃o,h.get? b=some o:=fun i h ⟨old,h1⟩ j h2 b hb=>by
  rcases a0o hb with rfl | hb
  ·exact⟨_,h1⟩
  ·rw[zS hb];obtain⟨o,e,_⟩:=h2;exact⟨o,e⟩
 have hwr:=fun b hb=>w0.fresh_of (hwrs b hb)
 have hlw:l∉[ea,ia]:=fun hm=>by exact nsn (hwrs l hm) hl0
 have z0:Stt G H env own W ([ea,ia]++i0) ρ ol j0 {g0 with heap:=h'}:=w0.more kp1 hwrs (hwex 0 h' ⟨_,hE⟩ 0 hI)
 have dl:DR (vis h' (W++([ea,ia]++i0))) (.ref l) (.list ds):=d0'.mono (a8k hk fun b hb=>by
  rcases zA hb with h | h
  ·exact .inl (zB (.inl h))
  ·rcases zA h with h | h
   ·exact .inr (hwrs b h)
   ·exact .inl (zB (.inr h)))
 refine codeAny_forLoop_any (fun q s'=>∃(i:Nat) (y0:List (Str×D)) (x0:List (Addr×Ob)),q=ds.length+1 - i∧i≤ds.length∧(∃old,IsEnum s'.heap ea ia i old)∧s'.heap.IsListIter ia l i∧J i y0 x0∧Stt G H env own W ([ea,ia]++i0) y0 x0 j0 s'∧DR (vis s'.heap (W++([ea,ia]++i0))) (.ref l) (.list ds)) ?_ (ds.length+1)
  ⟨0,ρ,ol,rfl,Nat.zero_le _,⟨_,hE⟩,hI,h0,z0,dl⟩
 intro q s' hI'
 obtain⟨i,y0,x0,rfl,hi,⟨old,hE'⟩,hI',hJ,iB,dl'⟩:=hI'
 have dl'':=dl'
 cases dl' with
 | list e1 r1=>
 rename_i vs1 n1
 have hln:l∉W++([ea,ia]++i0):=(a0b e1).2
 have hle:l≠ea:=fun e=>hlw (e▸.head _)
 have hli:l≠ia:=fun e=>hlw (e▸.tail _ (.head _))
 by_cases hin:i < ds.length
 ·have hlt:i < vs1.length:=by rw[r1.length];exact hin
  obtain⟨d,hd,dv⟩:=r1.get' (k:=i) (v:=vs1[i]) (getElem?_eq_getElem hlt)
  refine wpAny_pyNext_enum_item (x:=vs1[i]) hE' hI' (a0j e1) (by simp[hlt]) hei fun j2 ho hit' hT hsz m8=>?_
  have y4:∀b o,b∉[ea,ia]→s'.heap.get? b=some o→j2.get? b=some o:=fun b o hb e=>m8 b o (fun e'=>hb (e'▸.head _)) (fun e'=>hb (e'▸.tail _ (.head _))) e
  have hTf:s'.heap.get? s'.heap.objs.size=none:=a0c (Nat.le_refl _)
  have hTe:s'.heap.objs.size≠ea:=Nat.ne_of_gt (lt_size hE')
  obtain⟨elts,tk,tp,htg⟩:=htgt
  rw[htg]
  refine wpAny_letOwnedTupleGo_enum ho fun v4 lF r7=>?_
  replace r7:Heap.SameBut ea j2 v4:=r7
  have i6:∀b o,b∉[ea,ia]→s'.heap.get? b=some o→v4.get? b=some o:=fun b o hb e=>(r7.2 b fun e'=>hb (e'▸.head _)).trans (y4 b o hb e)
  have wD:v4.IsListIter ia l (i+1):=hit'.at fun o y=>(r7.2 ia hei.symm).trans y
  have xD:IsEnum v4 ea ia ((i+1:Nat):Int) vs1[i]:=lF
  have j1:Stt G H env own W ([ea,ia]++i0) y0 x0 j0 {s' with heap:=v4,toks:=s'.toks+1}:=iB.turn i6 (hwex _ _ ⟨_,xD⟩ _ wD) (fun b hb=>(hwr b hb).1) (fun b hb=>(hwr b hb).2.2.2) (fun b hb=>(hwr b hb).2.2.1)
  have up:∀a o,vis s'.heap (W++([ea,ia]++i0)) a=some o→vis v4 (W++([ea,ia]++i0)) a=some o:=a0x fun b o e hb=>i6 b o (fun hm=>hb (zB (.inr (zB (.inl hm))))) e
  have pF:=(r7.2 _ hTe).trans hT
  have dT:DR (vis v4 (W++([ea,ia]++i0))) (.ref s'.heap.objs.size) (.tuple [dn i,d]):=
   .tuple (vs:=[.int i s'.toks,vs1[i]]) (a0v pF fun hm=>by obtain⟨o,e⟩:=iB.mem _ hm;exact nsn hTf e) (.cons (.int _ _) (.cons (dv.mono up) .nil))
  rw[←htg]
  refine j1.assign rm.hd (hb i d (mem_of_getElem? hd)) dT fun l3 z1 qB=>?_
  refine wpAny_mono (turn _ i d y0 x0 l3 _ hd hJ z1.self) (fun f y3 k6=>?_) fun _ _ e=>e
  obtain⟨rfl,l4,u4,v9,u1⟩:=k6
  have kW5:∀b o,b∉W→v4.get? b=some o→y3.heap.get? b=some o:=fun b o hb' e=>u1.kp.kept b o hb' (qB.kept b o (fun hm=>hb' (t.sub b hm)) e)
  have heW:ea∉W:=(hwr ea (.head _)).1
  have hiW:ia∉W:=(hwr ia (.tail _ (.head _))).1
  refine⟨ds.length+1 - (i+1),by omega,i+1,l4,u4,rfl,hin,⟨_,kW5 _ _ heW xD⟩,wD.at fun o y=>kW5 _ _ hiW y,v9,u1.base z1.kp,(dl''.mono up).mono (a0x fun b o e hb=>kW5 b o (fun hm=>hb (zB (.inl hm))) e)⟩
 ·have hi':i=ds.length:=by omega
  rw[hi']at hI'
  rw[hi']at hE'
  rw[hi']at hJ
  refine wpAny_pyNext_enum_end rm.hd hE' hI' (a0j e1) (by simp[r1.length]) fun j2 gF=>?_
  have y4:∀b o,b∉[ea,ia]→s'.heap.get? b=some o→j2.get? b=some o:=fun b o hb e=>gF b o (fun e'=>hb (e'▸.tail _ (.head _))) e
  exact wpAny_execs_nil (done y0 x0 _ hJ (iB.drop (tk:=s'.toks) y4 (fun b hb=>(hwr b hb).1) (fun b hb=>(hwr b hb).2.1) (fun b hb=>(hwr b hb).2.2.2) (fun b hb=>(hwr b hb).2.2.1)))
end
end
section
open PySem.SeqAt
section
variable {s:Shared}
theorem b0h {lower upper:Option Expr} {p:Pos}
  (h:wpAny (model prog w) A (eval value env) (fun o g0=>wpAny (model prog w) A (eval (.Slice lower upper none p) env) (fun i u0=>u0.TypeIs o "list"∧wpAny (model prog w) A (getItem o i) Q E u0) E g0) E s):
  wpAny (model prog w) A (eval (.Subscript value (.Slice lower upper none p) pos) env) Q E s:=by
 rw[eval_Subscript]
 refine wpAny_bind (wpAny_mono h (fun o g0 j2=>wpAny_bind (wpAny_holding (wpAny_mono j2 (fun i u0 v4=>wpAny_bind (wpAny_standAt ?_)) fun _ _ x=>x))) fun _ _ x=>x)
 have fin:wpAny (model prog w) A (operate [i,o] (getItem o i)) (fun r y2=>wpAny (model prog w) A (letTemporaryGo value o r >>= fun _=>pure r) Q E y2) E u0:=
  wpAny_operating (wpAny_mono v4.2 (fun r y2 e6=>wpAny_bind (wpAny_letTemporaryGo (wpAny_pure e6))) fun _ _ x=>x)
 refine wpAny_bind ?_
 rw[getitemInPython_of_ne v4.1.not_modules]
 refine wpAny_bind (wpAny_specialOf v4.1 list_getitem_lookup ?_)
 first
  | exact wpAny_pure (wpAny_bind fin)
  | exact wpAny_bind (wpAny_pure (wpAny_bind fin))
  | exact wpAny_bind fin
theorem b5a {st:Expr} {lower upper:Option Expr} {p:Pos}
  (h:wpAny (model prog w) A (eval value env) (fun o g0=>wpAny (model prog w) A (eval (.Slice lower upper (some st) p) env) (fun i u0=>u0.TypeIs o "list"∧wpAny (model prog w) A (getItem o i) Q E u0) E g0) E s):
  wpAny (model prog w) A (eval (.Subscript value (.Slice lower upper (some st) p) pos) env) Q E s:=by
 rw[eval_Subscript]
 refine wpAny_bind (wpAny_mono h (fun o g0 j2=>wpAny_bind (wpAny_holding (wpAny_mono j2 (fun i u0 v4=>wpAny_bind (wpAny_standAt ?_)) fun _ _ x=>x))) fun _ _ x=>x)
 have fin:wpAny (model prog w) A (operate [o,i] (getItem o i)) (fun r y2=>wpAny (model prog w) A (letTemporaryGo value o r >>= fun _=>pure r) Q E y2) E u0:=
  wpAny_operating (wpAny_mono v4.2 (fun r y2 e6=>wpAny_bind (wpAny_letTemporaryGo (wpAny_pure e6))) fun _ _ x=>x)
 refine wpAny_bind ?_
 rw[getitemInPython_of_ne v4.1.not_modules]
 refine wpAny_bind (wpAny_specialOf v4.1 list_getitem_lookup ?_)
 first
  | exact wpAny_pure (wpAny_bind fin)
  | exact wpAny_bind (wpAny_pure (wpAny_bind fin))
  | exact wpAny_bind fin
end
section
variable {n:Nat}
theorem b3u {vl vu vs:Value} {lo' hi' st:Option Int} {es:List D} {a:Value} {s:Shared} (hm:∀b∈M,∃o,s.heap.get? b=some o) (hsz:ds.length≤sizeLine)
  (hp:∀vs:List Value,vs.length=ds.length→∀P,DRs P vs ds→∃ws:List Value,slicePick vs.toArray lo' hi' st=ws.toArray∧DRs P ws es) (da:DR (vis s.heap M) a (.list ds)) (pl:IsPart vl lo') (pu:IsPart vu hi') (ps:IsPart vs st) (h0:st≠some 0)
  (K:∀v s',Kp s s'→DR (vis s'.heap M) v (.list es)→Q v s'):
  ({s with heap:=s.heap.push {cls:=.type "slice",data:=.fields #[vl,vu,vs]}}:Shared).TypeIs a "list"∧wpAny (model prog w) A (getItem a (.ref s.heap.objs.size)) Q E {s with heap:=s.heap.push {cls:=.type "slice",data:=.fields #[vl,vu,vs]}}:=by
 cases da with
 | list e r=>
  rename_i a ws i
  obtain⟨xs,ex,rx⟩:=hp ws r.length _ r
  have kp:=Kp.push s {cls:=.type "slice",data:=.fields #[vl,vu,vs]}
  refine⟨((a0j e).push _).typeIs,wpAny_getItem_list_slice ((a0j e).push _) (Heap.IsSliceOf.new ..) pl pu ps h0 ?_ (by simpa [r.length] using hsz)⟩
  rw[ex]
  exact K _ _ (kp.trans (Kp.push _ _)) (a5h (fun b hb=>(hm b hb).imp fun o e=>kp.hk b o e) (rx.mono kp.hk.vis))
theorem Ev.sliceT {lo hi:Option Expr} {lo' hi':Option Int} {p:Pos} {es:List D} (hv:Ev prog w G n env ρ value (.list ds)) (hl:c4s prog w G n env ρ lo lo') (hh:c4s prog w G n env ρ hi hi') (hsz:ds.length≤sizeLine)
  (hp:∀vs:List Value,vs.length=ds.length→∀P,DRs P vs ds→∃ws:List Value,slicePick vs.toArray lo' hi' none=ws.toArray∧DRs P ws es):Ev prog w G n env ρ (.Subscript value (.Slice lo hi none p) q) (.list es):=
 fun A M s Q E rm c K=>b0h (hv A M s _ E rm c fun o g0 l0 do_=>wpAny_Slice (hl.go rm (c.keeps l0) fun vl u0 y1 pl=>hh.go rm ((c.keeps l0).keeps y1) fun vu y2 a4 pu=>by
  have dD:=((c.keeps l0).keeps y1).keeps a4
  rw[evalPart_none]
  exact wpAny_pure (b3u dD.mem hsz hp ((do_.mono y1.hk.vis).mono a4.hk.vis) pl pu .none (by simp) fun v s' k dv=>K v s' (((l0.trans y1).trans a4).trans k) dv)))
theorem Ev.sliceS {st:Expr} {lo hi:Option Expr} {lo' hi':Option Int} {i:Int} {p:Pos} {es:List D} (hv:Ev prog w G n env ρ value (.list ds)) (hl:c4s prog w G n env ρ lo lo') (hh:c4s prog w G n env ρ hi hi') (hst:c4s prog w G n env ρ (some st) (some i)) (h0:i≠0) (hsz:ds.length≤sizeLine)
  (hp:∀vs:List Value,vs.length=ds.length→∀P,DRs P vs ds→∃ws:List Value,slicePick vs.toArray lo' hi' (some i)=ws.toArray∧DRs P ws es):Ev prog w G n env ρ (.Subscript value (.Slice lo hi (some st) p) q) (.list es):=
 fun A M s Q E rm c K=>b5a (hv A M s _ E rm c fun o g0 l0 do_=>wpAny_Slice (hl.go rm (c.keeps l0) fun vl u0 y1 pl=>hh.go rm ((c.keeps l0).keeps y1) fun vu y2 a4 pu=>hst.go rm (((c.keeps l0).keeps y1).keeps a4) fun vs l3 x5 ps=>by
  have yG:=(((c.keeps l0).keeps y1).keeps a4).keeps x5
  exact b3u yG.mem hsz hp (((do_.mono y1.hk.vis).mono a4.hk.vis).mono x5.hk.vis) pl pu ps (by simpa using h0) fun v s' k dv=>K v s' ((((l0.trans y1).trans a4).trans x5).trans k) dv))
theorem b2j (b:Nat):∀vs:List Value,vs.length=ds.length→∀P,DRs P vs ds→∃ws:List Value,slicePick vs.toArray none (some (b:Int)) none=ws.toArray∧DRs P ws (ds.take b):=
 fun vs e P r=>⟨vs.take b,by rw[slicePick_upto'],r.take b⟩
theorem b0u (b:Nat):∀vs:List Value,vs.length=ds.length→∀P,DRs P vs ds→∃ws:List Value,slicePick vs.toArray (some (b:Int)) none none=ws.toArray∧DRs P ws (ds.drop b):=
 fun vs e P r=>⟨vs.drop b,by rw[slicePick_from'],r.drop b⟩
end
end
section
open PySem.SeqAt
inductive Tr:D→Bool→Prop
 | none:Tr .none false
 | bool (b:Bool):Tr (.bool b) b
 | int (i:Int):Tr (.int i) (i != 0)
 | str (x:Str):x.length < 2 ^ 62→Tr (.str x) ((x.length:Int) != 0)
 | list (ds:List D):ds.length < 2 ^ 62→Tr (.list ds) (!ds.isEmpty)
inductive d0j:D→Prop
 | none:d0j .none
 | bool (b:Bool):d0j (.bool b)
 | int (i:Int):d0j (.int i)
 | str (x:Str):d0j (.str x)
noncomputable def a5a:D→Bool
 | .none=>true
 | .val .none=>true
 | _=>false
section
variable {n:Nat}
theorem Tr.go {d:D} {b:Bool} (h:Tr d b) {s:Shared} {Q:Bool→Shared→Prop} (dv:DR (vis s.heap M) v d) (K:∀s',Kp s s'→Q b s'):wpAny (model prog w) A (truthy v) Q E s:=by
 cases h with
 | none=>cases dv;exact truthy_none (K _ (Kp.refl _))
 | bool b=>cases dv;exact wpAny_truthy_bool (K _ (Kp.refl _))
 | int i=>cases dv;exact truthy_int (K _ (Kp.refl _))
 | str x h=>cases dv;exact P.truthy_str (by omega) (K _ (Kp.tok _ _))
 | list ds h=>
  cases dv with
  | list e r=>
   rename_i a vs i
   refine wpAny_truthy_list (a0j e) (by rw[size_toArray,r.length];omega) ?_
   have:=K {s with toks:=s.toks+1+1} (Kp.tok _ _)
   have e:(!ds.isEmpty)= !(Array.isEmpty (List.toArray vs)):=by
    rw[List.isEmpty_toArray]
    cases r <;> rfl
   rw[e]at this;exact this
theorem Ts.val {e:Expr} {d:D} {b:Bool} (h:Ev prog w G n env ρ e d) (t:Tr d b) (he:isTrue e env (eval e env)=(do let v ←eval e env;standAt e.pos;holding [v] (truthy v)):=by rfl):Ts prog w G n env ρ e b:=
 fun A M s Q E rm c K=>wpAny_isTrue_value (h A M s _ E rm c fun v g0 l0 dv=>t.go dv fun s' k'=>K s' (l0.trans k')) he
theorem a0w {d:D} (hd:∀v,d= .val v→plainIs v .none=true):Op2 prog w G n (compareOp .Is) d .none (.bool (a5a d)):=fun A M s a b Q E rm _ _ da db K=>by
 clear rm E Q s M A d
 cases db
 clear db db
 cases da with
 | none=>exact wpAny_is_self rfl (K _ _ (Kp.refl _) (.bool _))
 | bool b=>exact wpAny_is_other rfl (by simp) (K _ _ (Kp.refl _) (.bool _))
 | int i t=>exact wpAny_is_other rfl (by simp) (K _ _ (Kp.refl _) (.bool _))
 | str i t=>exact wpAny_is_other rfl (by simp) (K _ _ (Kp.refl _) (.bool _))
 | tuple _ _=>exact wpAny_is_other rfl (by simp) (K _ _ (Kp.refl _) (.bool _))
 | list _ _=>exact wpAny_is_other rfl (by simp) (K _ _ (Kp.refl _) (.bool _))
 | thing _=>exact wpAny_is_other rfl (by simp) (K _ _ (Kp.refl _) (.bool _))
 | val=>
  have hp:=hd _ rfl
  clear da hd
  by_cases hv:a= .none
  ·subst hv;exact wpAny_is_self rfl (K _ _ (Kp.refl _) (.bool _))
  ·refine wpAny_is_other hp hv ?_
   have:a5a (.val a)=false:=by cases a <;> first | rfl | exact absurd rfl hv
   exact this▸K _ _ (Kp.refl _) (.bool _)
theorem a1d {d:D} (hd:∀v,d= .val v→plainIs v .none=true):Op2 prog w G n (compareOp .IsNot) d .none (.bool (!a5a d)):=fun A M s a b Q E rm _ _ da db K=>by
 clear rm E Q M A d
 cases db
 clear db db
 cases da with
 | none=>exact wpAny_isNot_self rfl (K _ _ (Kp.refl _) (.bool _))
 | bool b=>exact wpAny_isNot_other rfl (by simp) (K _ _ (Kp.refl _) (.bool _))
 | int i t=>exact wpAny_isNot_other rfl (by simp) (K _ _ (Kp.refl _) (.bool _))
 | str i t=>exact wpAny_isNot_other rfl (by simp) (K _ _ (Kp.refl _) (.bool _))
 | tuple _ _=>exact wpAny_isNot_other rfl (by simp) (K _ _ (Kp.refl _) (.bool _))
 | list _ _=>exact wpAny_isNot_other rfl (by simp) (K _ _ (Kp.refl _) (.bool _))
 | thing _=>exact wpAny_isNot_other rfl (by simp) (K _ _ (Kp.refl _) (.bool _))
 | val=>
  have hp:=hd _ rfl
  clear da hd
  by_cases hv:a= .none
  ·subst hv;exact wpAny_isNot_self rfl (K _ _ (Kp.refl _) (.bool _))
  ·refine wpAny_isNot_other hp hv ?_
   have:a5a (.val a)=false:=by cases a <;> first | rfl | exact absurd rfl hv
   have h:=K (.bool true) s (Kp.refl _) (by rw[this];exact .bool _)
   exact h
theorem a1r {x y:Str}:Op2 prog w G n (compareOp .In) (.str y) (.str x) (.bool (Txt.contains x y)):=fun A M s a b Q E rm _ _ da db K=>by
 cases da;cases db
 exact SB.contains (K _ _ (Kp.refl _) (.bool _))
end
section
variable {n:Nat} {s:Shared}
theorem a9f {Q:Flow→Shared→Prop} {b:Bool} (t:Stt G H env own W i0 ρ ol j0 s) (rm:Rm A n) (h:Ts prog w (G.at ol) n env ρ test b)
  (K:∀s',Stt G H env own W i0 ρ ol j0 s'→if b=true then wpAny (model prog w) A (execs body env) Q E s' else wpAny (model prog w) A (execs orelse env) Q E s'):wpAny (model prog w) A (exec (.If test body orelse pos) env) Q E s:=
 wpAny_If (h A _ s _ E rm t.cd fun g0 l0=>K g0 (t.keeps l0))
theorem b9g (b:List Stmt):∀a,execs (a++b) env=(execs a env >>= fun f=>match f with | .next=>execs b env | f=>pure f):=by
 intro a
 induction a with
 | nil=>exact(pure_bind _ _).symm
 | cons st a ih=>
  show(exec st env >>= _)=((exec st env >>= _) >>= _)
  rw[bind_assoc]
  refine congrArg _ (funext fun f=>?_)
  cases f
  ·exact ih
  all_goals exact(pure_bind _ _).symm
theorem a0e {Q:Flow→Shared→Prop} {rest:List Stmt} {b:Bool} (t:Stt G H env own W i0 ρ ol j0 s) (rm:Rm A n) (h:Ts prog w (G.at ol) n env ρ test b)
  (K:∀s',Stt G H env own W i0 ρ ol j0 s'→wpAny (model prog w) A (execs (cond b body orelse++rest) env) Q E s'):wpAny (model prog w) A (execs (.If test body orelse pos::rest) env) Q E s:=by
 have e:execs (.If test body orelse pos::rest) env=(do standAt pos;let b ←isTrue test env (eval test env);execs (cond b body orelse++rest) env):=by
  rw[execs_cons,exec_If,bind_assoc]
  refine congrArg _ (funext fun _=>?_)
  rw[bind_assoc]
  refine congrArg _ (funext fun c=>?_)
  cases c <;> exact(b9g ..).symm
 rw[e]
 exact wpAny_bind (wpAny_standAt (wpAny_bind (h A _ s _ E rm t.cd fun g0 l0=>K g0 (t.keeps l0))))
theorem a2m {Q:Flow→Shared→Prop} {x:Str} {e:Expr} {d:D} {rest:List Stmt} (t:Stt G H env own W i0 ρ ol j0 s) (rm:Rm A n) (h:Ev prog w (G.at ol) n env ρ e d)
  (hx:Lo env own x) (hs:swapsWith e (some (.Name x px)) pos.line env=pure false) (K:∀s',Stt G H env own W i0 ((x,d)::ρ) ol j0 s'→wpAny (model prog w) A (execs rest env) Q E s'):
  wpAny (model prog w) A (execs (.Assign [.Name x px] e pos::rest) env) Q E s:=wpAny_execs_cons (a1w t rm h hx hs K)
end
end
section
open PySem.SeqAt
section
variable {s:Shared}
theorem a4x {a:Addr} {vs:Array Value} {first:List Value} {args:List (Bool×Sem Value)} (hplain:args.any (·.1)=false)
  (hc:o.cls= .type "builtin_function_or_method"∨o.cls= .type "method-wrapper") (hd:o.data= .fields vs)
  (h:wpAny (model prog w) A (evalArgs (.ref a) true args []) (fun x g0=>g0.heap.get? a=some o∧wpAny (model prog w) A (call (.ref a) (first++x.pos) x.kw) Q E g0) E s):
  wpAny (model prog w) A (callWith pos (.ref a) first args []) Q E s:=by
 unfold callWith
 refine wpAny_bind (wpAny_holding (wpAny_mono h (fun x g0 j2=>wpAny_bind (wpAny_standAt ?_)) fun _ _ x=>x))
 rw[hplain]
 refine wpAny_bind (m:=keeperOf (.ref a)) ?_
 unfold keeperOf
 refine wpAny_bind (wpAny_load j2.1 ?_)
 rw[hd]
 have e:(if(o.cls != .type "method")=true then pure (if(o.cls == .type "builtin_function_or_method" || o.cls == .type "method-wrapper")=true then Keeper.machine else Keeper.caller)else
   (match vs.getD 0 .none with | .ref g=>(do return match(←load g).data with | .func _=>Keeper.boundFrame | _=>.caller) | _=>pure .machine):Sem Keeper)=pure .machine:=by
  rcases hc with hc | hc <;> rw[hc] <;> rfl
 refine wpAny_of_eq e ?_
 exact wpAny_bind (wpAny_mono j2.2 (fun r u0 hr=>wpAny_bind (wpAny_holding (wpAny_point (wpAny_pure hr)))) fun _ _ x=>x)
theorem a5z {a:Addr} {id:String} {self:Value} {b:Builtin} (ho:s.heap.get? a=some o) (hc:o.cls= .type "builtin_function_or_method"∨o.cls= .type "method-wrapper") (hd:o.data= .fields #[.builtin id,self])
  (hp:plainId id=true) (hb:entryFor table id=some b)
  (hk:wpAny (model prog w) A.in1 (checkBoundCall id ⟨self::args,[]⟩) (fun _ g0=>g0=s) (fun _ _=>False) s)
  (h:wpAny (model prog w) A.in1 (b ⟨self::args,[]⟩) (fun fin s'=>∃v,fin= .done (.ret v)∧Q v s') E s):wpAny (model prog w) A (call (.ref a) args) Q E s:=by
 refine wpAny_call (codeAny_of_tree ?_)
 show wpAny _ _ (callAny (.ref a) ⟨args,[]⟩) _ _ _
 unfold callAny
 refine wpAny_bind (wpAny_load ho ?_)
 rw[hd]
 have e:(o.cls == .type "method" || o.cls == .type "builtin_function_or_method" || o.cls == .type "method-wrapper")=true:=by rcases hc with hc | hc <;> rw[hc] <;> rfl
 have e2:(o.cls != .type "method")=true:=by rcases hc with hc | hc <;> rw[hc] <;> rfl
 dsimp only
 rw[if_pos e]
 show wpAny _ _ (if(o.cls != .type "method")=true then _ else _) _ _ _
 rw[if_pos e2]
 refine wpAny_bind (wpAny_mono hk (fun _ g0 e=>?_) fun _ _ x=>x.elim)
 clear hc e2 hk hd ho Q b args self id o a
 subst e
 refine wpAny_pure (And.intro (plainId_quiet hp _) (codeAny_builtin hb ?_))
 rw[Around.under_plainId hp]
 exact wpAny_mono h (fun fin s' ⟨v,e,q⟩=>by subst e;exact q) fun _ _ x=>x
theorem b1p:entryFor table "re.Pattern.search"=some Builtin.«re.Pattern.search»:=entryFor_of_tree ∅
theorem b0r:plainId "re.Pattern.search"=true:=by decide +kernel
end
end
section
open PySem.SeqAt Builtin Builtin.Re
section
variable {s:Shared}
noncomputable def b0m:Manifest.Signature:=⟨.keywords,"Pattern.search","search",.self,[⟨"string",.posOrKw,true⟩,⟨"pos",.posOrKw,false⟩,⟨"endpos",.posOrKw,false⟩]⟩
theorem b2f:Manifest.signature? "re.Pattern.search"=some b0m:=by kernel_rfl
theorem b2u:builtinKind "re.Pattern.search"=some .method:=by kernel_rfl
theorem b4w:Manifest.varargsMethods.contains "re.Pattern.search"=false:=by decide +kernel
theorem a8e:isSubtype (.type "re.Pattern") (.type "module")=pure false:=by rw[isSubtype_type];kernel_rfl
theorem b3k (v:Value):Bind.checkArgs "re.Pattern.search" {b0m with full:=s!"{Bind.lastOf "re.Pattern"}.{Bind.lastOf "re.Pattern.search"}"} ⟨[.ref 176,v],[]⟩=pure ():=by kernel_rfl
theorem b1v {Q:Unit→Shared→Prop} (ho:s.heap.get? 176=some o) {fs:Array Value} (hc:o.cls= .type "re.Pattern") (hd:o.data= .fields fs) (q:Q () s):wpAny (model prog w) A (checkBoundCall "re.Pattern.search" ⟨[.ref 176,v],[]⟩) Q E s:=by
 have hT:s.TypeIs (.ref 176) "re.Pattern":=⟨o,ho,hc⟩
 unfold checkBoundCall
 rw[b2f]
 dsimp only
 rw[b2u]
 dsimp only
 rw[if_neg (by decide)]
 refine wpAny_bind (wpAny_isInstance (T:="re.Pattern") (b:=false) hT a8e ?_)
 rw[b4w]
 refine wpAny_bind (m:=isType _) (wpAny_bind (wpAny_load ho ?_))
 rw[hd]
 refine wpAny_pure ?_
 dsimp only
 rw[if_neg (by decide)]
 refine wpAny_bind (wpAny_typeOf hT ?_)
 dsimp only
 exact wpAny_of_eq (b3k v) q
noncomputable def a5r:Array Nat:=#[14,17,4,1,1,21,9,0,604043296,1,0,0,0,0,0,8,4,0,13,14,21,9,0,604043296,1,0,0,0,0,0,8,4,0,1]
noncomputable def a9a:Nat→Sre.M→Option Sre.M
 | 0,_=>none
 | k+1,m=>if(m.runFor reTurnSteps).outcome.isSome then some (m.runFor reTurnSteps)else a9a k (m.runFor reTurnSteps)
theorem a8p:∀{k turns:Nat} {m m':Sre.M} {s:Shared} {Q:Sre.M→Shared→Prop},a9a k m=some m'→k≤turns→Q m' s→wpAny (model prog w) A (reDrive turns m) Q E s
 | 0,_,_,_,_,_,h,_,_=>by cases h
 | k+1,0,_,_,_,_,_,h,_=>by omega
 | k+1,turns+1,m,m',s,Q,h,hk,q=>by
  unfold a9a at h
  unfold reDrive
  dsimp only
  split at h
  ·rename_i hs;cases h;rw[if_pos hs];exact wpAny_pure q
  ·rename_i hs;rw[if_neg hs];exact wpAny_bind (wpAny_rule (a8p h (by omega) q))
theorem c0y {f:Nat→Bool} {g:Nat→String}:∀(l:List Nat) {s:Shared} {Q:PUnit→Shared→Prop},Q ⟨⟩ s→wpAny (model prog w) A (forIn l PUnit.unit fun i r=>if f i=true then(do rule (g i);pure (ForInStep.yield PUnit.unit))else pure (ForInStep.yield PUnit.unit)) Q E s:=by
 intro v'
 induction v' with
 | nil=>
  intro _ _ q
  exact wpAny_pure q
 | cons i l ih'=>
  intro s Q q
  rw[forIn_cons]
  refine wpAny_bind ?_
  split
  ·exact wpAny_bind (wpAny_rule (wpAny_pure (ih' q)))
  ·exact wpAny_pure (ih' q)
theorem c1d {k:Nat} {m m':Sre.M} {b:Bool} {Q:Option Sre.M→Shared→Prop} (h:a9a k m=some m') (hk:k≤2 ^ 64) (ho:(m'.outcome=some .matched∧b=true)∨(m'.outcome=some .failed∧b=false)) (q:Q (if b then some m' else none) s):wpAny (model prog w) A (reRunToEnd m) Q E s:=by
 unfold reRunToEnd
 refine wpAny_bind (a8p h hk ?_)
 refine wpAny_bind (c0y _ ?_)
 rcases ho with⟨ho,rfl⟩ | ⟨ho,rfl⟩ <;> rw[ho] <;> exact wpAny_pure q
end
end
section
open PySem.SeqAt Builtin Builtin.Re
section
variable {s:Shared}
theorem b1c (v:Value):reNamed "re.Pattern.search" "search" ["string","pos","endpos"] 1 [v] []=pure [some v,none,none]:=by kernel_rfl
structure b6l (f:Addr→Option Obj):Prop where
 fn:∃o,f 879=some o∧o.cls= .type "builtin_function_or_method"∧o.data= .fields #[.builtin "re.Pattern.search",.ref 176]
 pat:∃o fs t2 t6,f 176=some o∧o.cls= .type "re.Pattern"∧o.data= .fields fs∧fs.getD 2 .none= .int 0 t2∧fs.getD 5 .none= .ref 175∧fs.getD 6 .none= .int 0 t6
 code:∃o xs n,f 175=some o∧o.cls= .type "tuple"∧o.data= .seq xs n∧(xs.map reRawOf).map (·.toNat)=a5r
theorem b6l.mono {f g:Addr→Option Obj} (P:b6l f) (h:∀a o,f a=some o→g a=some o):b6l g:=
 ⟨P.fn.imp fun _ x=>⟨h _ _ x.1,x.2⟩,P.pat.imp fun _ x=>x.imp fun _ x=>x.imp fun _ x=>x.imp fun _ x=>⟨h _ _ x.1,x.2⟩,P.code.imp fun _ x=>x.imp fun _ x=>x.imp fun _ x=>⟨h _ _ x.1,x.2⟩⟩
theorem b7j {x:Str} {t:Tok} {k:Nat} {m':Sre.M} {b:Bool} (P:b6l s.heap.get?) (h:a9a k (Sre.forSearch a5r x.cps 0 0 (min (2 ^ 63 - 1) x.cps.size) false)=some m') (hk:k≤2 ^ 64)
  (ho:(m'.outcome=some .matched∧b=true)∨(m'.outcome=some .failed∧b=false))
  (q0:b=false→Q .none s) (q1:b=true→∀a s',Kp s s'→Q (.ref a) s'):wpAny (model prog w) A (call (.ref 879) [.str x t]) Q E s:=by
 walk_at "c"
 clear Q m' k
 rcases P.fn with⟨o,ho1,hc1,hd1⟩
 clear o o
 rcases P.pat with⟨o2,fs,t2,t6,ho2,hc2,hd2,f2,f5,f6⟩
 clear t6 t2 fs o2
 rcases P.code with⟨o3,xs,n,ho3,hc3,hd3,hx⟩
 walk_at "u"
 refine a5z ho1 (.inl hc1) hd1 b0r b1p (b1v ho2 hc2 hd2 rfl) ?_
 unfold Builtin.«re.Pattern.search» reTarget
 dsimp only
 rw[b1c]
 refine wpAny_bind (wpAny_bind (wpAny_pure ?_))
 dsimp only
 refine wpAny_bind (wpAny_pure (wpAny_bind (wpAny_pure ?_)))
 refine wpAny_bind (wpAny_fieldsOf ho2 hd2 ?_)
 rw[f6]
 refine wpAny_bind (m:=reTextOf _) (wpAny_bind (wpAny_of_eq (a:=some x) ∅ (wpAny_pure ?_)))
 dsimp only[reRawNat]
 have e1:(Int.toNat 0 == 0 && (0:Nat) == 1)=false:=rfl
 have e2:(Int.toNat 0 == 1 && (0:Nat) == 0)=false:=rfl
 rw[e1,e2]
 refine wpAny_bind (wpAny_of_eq (a:=()) ∅ ?_)
 rw[f5]
 refine wpAny_bind (m:=reRawItems _) (wpAny_bind (wpAny_seqItems ho3 hd3 (wpAny_pure (wpAny_pure ?_))))
 rw[f2]
 show wpAny _ _ (reAnswer {pattern:=.ref 176,string:=.str x t,code:=(xs.map reRawOf).map (·.toNat),text:=x.cps,kind:=0,groups:=0,pos:=Min.min (Int.toNat 0) x.cps.size,lim:=Min.min (2 ^ 63 - 1:Int).toNat x.cps.size} (Sre.forSearch ((xs.map reRawOf).map (·.toNat)) x.cps 0 (Min.min (Int.toNat 0) x.cps.size) (Min.min (2 ^ 63 - 1:Int).toNat x.cps.size) false)) _ _ _
 rw[hx]
 have e3:Min.min (Int.toNat 0) x.cps.size=0:=Nat.zero_min _
 have e4:(2 ^ 63 - 1:Int).toNat=2 ^ 63 - 1:=by decide
 rw[e3,e4]
 unfold reAnswer
 refine wpAny_bind (c1d h hk ho ?_)
 clear e4 e3 e2 e1 hx hd3 hc3 ho3 n xs o3 f6 f5 f2 hd2 hc2 ho2 hd1 hc1 ho1 ho hk h P t x
 cases b with
 | false=>exact wpAny_pure ⟨_,rfl,q0 rfl⟩
 | true=>
  dsimp only[if_true]
  refine wpAny_bind ?_
  unfold reNewMatch
  dsimp only
  refine wpAny_bind (m:=newTuple [rawInt _,rawInt _]) (wpAny_newTuple ?_)
  refine wpAny_newObj_type (T:="re.Match") ?_
  exact wpAny_pure ⟨_,rfl,q1 rfl _ _ ((Kp.push _ _).trans (Kp.push _ _))⟩
end
noncomputable def a6g (x:Str):Bool:=!(x == "a" || x == "x")
noncomputable def b7k (x:Str):Option Sre.M:=a9a 60 (Sre.forSearch a5r x.cps 0 0 (min (2 ^ 63 - 1) x.cps.size) false)
noncomputable def c9h:Option Sre.Outcome→Bool→Bool
 | some .matched,b=>b
 | some .failed,b=>!b
 | _,_=>false
theorem c1y {o:Option Sre.Outcome} {b:Bool} (h:c9h o b=true):(o=some .matched∧b=true)∨(o=some .failed∧b=false):=by
 cases o with
 | none=>cases h
 | some o=>cases o <;> first | exact .inl ⟨rfl,h⟩ | (cases b <;> first | exact .inr ⟨rfl,rfl⟩ | cases h) | cases h
noncomputable def b8g (x:Str):Bool:=(b7k x).any fun m=>c9h m.outcome (a6g x)
theorem c9g:(["a","b c","it's","ä","€#","😀","x"]:List Str).all b8g=true:=by decide +kernel
theorem c8k {x:Str} (h:b8g x=true):∃m',b7k x=some m'∧((m'.outcome=some .matched∧a6g x=true)∨(m'.outcome=some .failed∧a6g x=false)):=by
 unfold b8g at h
 cases e:b7k x with
 | none=>rw[e]at h;cases h
 | some m=>rw[e]at h;exact⟨m,rfl,c1y h⟩
section
variable {n:Nat}
theorem b7x (P:b6l G.objs) {x:Str} (hx:b8g x=true):Op1 prog w G n (fun a=>call (.ref 879) [a]) (.str x) (if a6g x then .thing else .none):=fun A M s a Q E rm T hm da K=>by
 cases da
 obtain⟨m',e,ho⟩:=c8k hx
 refine b7j (P.mono T.objs) e (by decide) ho (fun hb=>?_) fun hb a s' k=>?_
 ·rw[hb]at K;exact K _ _ (Kp.refl _) .none
 ·rw[hb]at K;exact K _ _ k (.thing a)
theorem Ev.callR {x:Str} {a:Addr} {vs:Array Value} {e:Expr} {np p:Pos} {d:D} (hx:env.kindOf x=some .globalImplicit) (hg:G.glb x=some (some (.ref a))) (ho:G.objs a=some o)
  (hc:o.cls= .type "builtin_function_or_method"∨o.cls= .type "method-wrapper") (hd:o.data= .fields vs) (h:EvL prog w G n env ρ [e] [da])
  (op:Op1 prog w G n (fun v=>call (.ref a) [v]) da d) (hdb:(x == ("__debug__":Str))=false:=by decide):Ev prog w G n env ρ (.Call (.Name x np) [e] [] p) d:=
 fun A M s Q E rm c K=>wpAny_Call_NameR (a1i c.kind c.glob c.top hx hg (a4x h.plain hc hd (a0p h (by simp) rm c fun vs g0 l0 dv=>by
  refine⟨(c.keeps l0).top.objs _ _ ho,?_⟩
  cases dv with
  | cons d0 d1=>cases d1;exact op A M g0 _ Q E rm (c.keeps l0).top (c.keeps l0).mem d0 fun v s' k' dv=>K v s' (l0.trans k') dv)) hdb)
end
end
section
section
variable {s:Shared}
noncomputable def iterObj (l:Addr) (i:Nat):Obj:={cls:=.type "list_iterator",data:=.fields #[.ref l,.int i 0]}
theorem b0i {it l:Addr} {i:Nat} {x:Value} {Q:Option Value→Shared→Prop} (hit:s.heap.IsListIter it l i) (hl:s.heap.IsList l items) (hx:items[i]? =some x)
  (hQ:∀h',h'.IsListIter it l (i+1)→Heap.SameBut it s.heap h'→Q (some x) {s with heap:=h'}):wpAny (model prog w) A (callSpecial? (.ref it) (Str.ofString "__next__")) Q E s:=by
 walk_at "c"
 rcases id hit with⟨o,ho,hc,hd⟩
 rcases hl with⟨ol,hol,_,nl,hdl⟩
 walk_at "u"
 refine wpAny_callSpecial?_slot (name:=Str.ofString "__next__") hit.typeIs slot_listiter_next (wpAny_call_entry slot_listiter_next hit.typeIs entry_listiter_next ?_ (args_listiter_next _))
 show wpAny _ _ (field (.ref it) 0 >>= _) _ _ s
 refine wpAny_bind (wpAny_field ho hd (x:=.ref l) rfl ?_)
 show wpAny _ _ (if(Value.ref l == Value.none)=true then _ else field (.ref it) 1 >>= _) _ _ s
 rw[if_neg (show ¬((Value.ref l == Value.none)=true)from Bool.false_ne_true)]
 refine wpAny_bind (wpAny_field ho hd (x:=.int i 0) rfl ?_)
 show wpAny _ _ (seqItems? (.ref l) >>= _) _ _ s
 refine wpAny_bind (wpAny_seqItems hol hdl ?_)
 simp only[Int.toNat_natCast,hx]
 refine wpAny_bind (wpAny_setField ho hd (by simp) (wpAny_pure ⟨x,rfl,hQ _ ⟨_,Heap.get?_update_self _ ho (Obj.isFreed_of_fields (Obj.data_mapFields hd _)),(Obj.cls_mapFields ..).trans hc,by rw[Obj.data_mapFields hd];simp[rawInt]⟩ (Heap.SameBut.update ..)⟩))
theorem b8o {it l:Addr} {i:Nat} {x:Value} (hit:s.heap.IsListIter it l i) (hl:s.heap.IsList l items) (hx:items[i]? =some x)
  (hQ:∀h',h'.IsListIter it l (i+1)→Heap.SameBut it s.heap h'→Q x {s with heap:=h'}):wpAny (model prog w) A (call (.builtin "next") [.ref it]) Q E s:=by
 refine call_function_entry (by decide +kernel) (by decide +kernel) kdk_entry_next (kdk_args_next _) ?_
 unfold Builtin.«next»
 refine wpAny_bind (m:=someArgs "next" 1 2 _) (wpAny_of_eq (a:=[Value.ref it]) (by first | rfl | kernel_rfl) ?_)
 refine wpAny_bind (wpAny_specialOf (name:=Str.ofString "__next__") hit.typeIs slot_listiter_next.lookup ?_)
 refine wpAny_bind (b0i hit hl hx fun h' a b=>wpAny_pure ⟨_,rfl,hQ h' a b⟩)
theorem b2d {it l:Addr} {i:Nat} {Q:Option Value→Shared→Prop} (hh:A.handled=none) (hit:s.heap.IsListIter it l i) (hl:s.heap.IsList l items) (hx:items[i]? =none)
  (hE:∀j2 h' e,Heap.SameBut it s.heap j2→(∃o,j2.get? it=some o)→Heap.MadeExcOf j2 h' e (.type "StopIteration") []→E (.ref e) {s with heap:=h'}):wpAny (model prog w) A (callSpecial? (.ref it) (Str.ofString "__next__")) Q E s:=by
 walk_at "c"
 rcases id hit with⟨o,ho,hc,hd⟩
 rcases hl with⟨ol,hol,_,nl,hdl⟩
 walk_at "u"
 refine wpAny_callSpecial?_slot (name:=Str.ofString "__next__") hit.typeIs slot_listiter_next (wpAny_call_entry slot_listiter_next hit.typeIs entry_listiter_next ?_ (args_listiter_next _))
 show wpAny _ _ (field (.ref it) 0 >>= _) _ _ s
 refine wpAny_bind (wpAny_field ho hd (x:=.ref l) rfl ?_)
 show wpAny _ _ (if(Value.ref l == Value.none)=true then _ else field (.ref it) 1 >>= _) _ _ s
 rw[if_neg (show ¬((Value.ref l == Value.none)=true)from Bool.false_ne_true)]
 refine wpAny_bind (wpAny_field ho hd (x:=.int i 0) rfl ?_)
 show wpAny _ _ (seqItems? (.ref l) >>= _) _ _ s
 refine wpAny_bind (wpAny_seqItems hol hdl ?_)
 simp only[Int.toNat_natCast,hx]
 refine wpAny_bind (wpAny_rule (wpAny_bind (wpAny_setField ho hd (by simp) ?_)))
 have hs:=Heap.SameBut.update s.heap it (Obj.mapFields (·.setIfInBounds 0 Value.none))
 have hi:=Heap.get?_update_self (Obj.mapFields (·.setIfInBounds 0 Value.none)) ho (Obj.isFreed_of_fields (Obj.data_mapFields hd _))
 generalize s.heap.update it (Obj.mapFields (·.setIfInBounds 0 Value.none))=j2 at hs hi
 show wpAny _ _ (newExc (.type "StopIteration") [] >>= _) _ _ _
 refine wpAny_bind ?_
 simp only[newExc,newTuple]
 refine wpAny_bind (wpAny_newObj_type ?_ (by size_fits))
 refine wpAny_bind (m:=firstArgMember _ _) (wpAny_of_eq (a:=Value.none) (by first | rfl | (simp only[firstArgMember];rfl)) ?_)
 refine wpAny_newObj_type ?_ (by size_fits)
 refine wpAny_bind (wpAny_handled ?_)
 rw[show A.in1.handled=none from hh]
 refine wpAny_bind (wpAny_pure (wpAny_throw ?_))
 refine hE j2 _ _ hs ⟨_,hi⟩ ⟨fun b o e=>get?_push_of_some _ (get?_push_of_some _ e),a0c (by rw[size_push];exact Nat.le_succ _),j2.objs.size,?_,a0c (Nat.le_refl _),?_⟩
 ·exact get?_push_size _ rfl
 ·exact get?_push_of_some _ (get?_push_size _ rfl)
theorem c2a {it l:Addr} {i:Nat} (hh:A.handled=none) (hit:s.heap.IsListIter it l i) (hl:s.heap.IsList l items) (hx:items[i]? =none)
  (hE:∀j2 h' e,Heap.SameBut it s.heap j2→(∃o,j2.get? it=some o)→Heap.MadeExcOf j2 h' e (.type "StopIteration") []→E (.ref e) {s with heap:=h'}):wpAny (model prog w) A (call (.builtin "next") [.ref it]) Q E s:=by
 refine call_function_entry (by decide +kernel) (by decide +kernel) kdk_entry_next (kdk_args_next _) ?_
 unfold Builtin.«next»
 refine wpAny_bind (m:=someArgs "next" 1 2 _) (wpAny_of_eq (a:=[Value.ref it]) (by first | rfl | kernel_rfl) ?_)
 refine wpAny_bind (wpAny_specialOf (name:=Str.ofString "__next__") hit.typeIs slot_listiter_next.lookup ?_)
 exact wpAny_bind (b2d hh hit hl hx hE)
end
end
section
open PySem.SeqAt
noncomputable def frs (fs:List Env):List Addr:=fs.filterMap (·.frame)
structure Stk (A:Around) (fs:List Env) (h:Heap):Prop where
 fr:A.frames=some fs
 fun_:∀env∈fs,env.scope.kind≠.module∧∃L o,env.frame=some L∧h.get? L=some o∧∀vs,o.data≠.fields vs
theorem Stk.frames {h:Heap} (x:Stk A fs h):h.FunFrames (hideAll h (frs fs)) fs:=by
 have key:∀(l:List Env) (as:List Addr),(∀env∈l,env.scope.kind≠.module∧∃L o,env.frame=some L∧h.get? L=some o∧∀vs,o.data≠.fields vs)→(∀a∈frs l,a∈as)→h.FunFrames (hideAll h as) l:=by
  intro l
  induction l with
  | nil=>intro _ _ _;trivial
  | cons env l ih=>
   intro as hl ha
   obtain⟨hk,L,o,hf,ho,hd⟩:=hl env (.head _)
   refine⟨hk,⟨L,o,hf,hideAll_none _ (ha L ?_),ho,hd⟩,ih as (fun e he=>hl e (.tail _ he)) fun a h'=>ha a ?_⟩
   ·exact List.mem_filterMap.mpr ⟨env,.head _,hf⟩
   ·obtain⟨e,he,hfe⟩:=List.mem_filterMap.mp h'
    exact List.mem_filterMap.mpr ⟨e,.tail _ he,hfe⟩
 exact key fs _ x.fun_ fun _ h=>h
noncomputable def c7y (base:Heap) (l:List Env) (e:Addr) (cls a0 mk:Value) (h:Heap):Prop:=
 base.StaysIn h∧base.get? e=none∧h.FunFrames base l∧h.TracedAtW base e cls a0 mk
section
variable {M:Model} {s:Shared}
theorem b5n {e:Value} (h:env'.frame=env.frame):noteFrame e env'=noteFrame e env:=by
 unfold noteFrame PySem.frameOf
 rw[h]
theorem b4f {base:Heap} {outer:List Env} {e:Addr} {cls a0 mk:Value} {Q:Unit→Shared→Prop} (hfr:A.frames=some (env::outer)) (hf:env.frame=some L) (hf':env'.frame=env.frame) (x:c7y base (env::outer) e cls a0 mk s.heap)
  (h:∀h',c7y base (env::outer) e cls a0 (rawInt L) h'→s.heap.UpToSlots h'→Q () {s with heap:=h'}):wpAny M A (noteFrame (.ref e) env') Q E s:=by
 rw[b5n hf']
 obtain⟨hkb,hen,hl,ht⟩:=x
 by_cases hmk:mk=rawInt L
 ·subst hmk
  exact wpAny_noteFrame_againW hf ht (h s.heap ⟨hkb,hen,hl,ht⟩ (Heap.UpToSlots.refl _))
 obtain⟨oe,vs,T,oT,ts,he,⟨hcls,h0⟩,hd,h1,hnT,hTe,hT,hdT,h3⟩:=ht
 subst hcls
 unfold noteFrame
 simp only[hf]
 refine wpAny_bind (wpAny_field he hd h1 ?_)
 rw[if_pos (show(Value.ref T != Value.none)=true from by simp)]
 refine wpAny_bind (wpAny_field hT hdT h3 ?_)
 rw[if_neg (show ¬((mk == rawInt L)=true)from by simpa using hmk)]
 refine wpAny_bind (wpAny_setField hT hdT (Array.getElem?_eq_some_iff.mp h3).1 ?_)
 have other:∀b,b≠T→(s.heap.update T (Obj.mapFields (·.setIfInBounds 3 Value.none))).get? b=s.heap.get? b:=fun b hb=>Heap.get?_update_other _ _ (Ne.symm hb)
 have plain:∀b o,s.heap.get? b=some o→(∀vs,o.data≠.fields vs)→b≠T:=fun b o hb hnf q=>by
  rw[q,hT]at hb;cases hb;exact hnf ts hdT
 refine wpAny_entryW hfr (hl.of_keeps fun b o hb hnf=>⟨o,(other b (plain b o hb hnf)).trans hb,rfl⟩) hf ((other e (Ne.symm hTe)).trans he)
  (fun b o hbo=>(other b fun q=>by rw[q,hnT]at hbo;cases hbo).trans (hkb b o hbo)) hen hd (Array.getElem?_eq_some_iff.mp h1).1 h0 fun h' hN=>?_
 obtain⟨x1,x2,x3,x4⟩:=hN
 exact h h' ⟨x1,hen,x2,x3⟩ fun b o hb hnf=>x4 b o ((other b (plain b o hb hnf)).trans hb) hnf
theorem a9r {base:Heap} {l:List Env} {e:Addr} {cls a0 mk:Value} {f:Option Addr} {Q:Unit→Shared→Prop} (x:c7y base l e cls a0 mk s.heap)
  (h:∀h' mk',c7y base l e cls a0 mk' h'→s.heap.UpToSlots h'→Q () {s with heap:=h'}):wpAny M A (setFlight (.ref e) f) Q E s:=by
 obtain⟨hkb,hen,hl,oe,vs,T,oT,ts,he,hcls,hd,h1,hnT,hTe,hT,hdT,h3⟩:=x
 have hsz3:3 < ts.size:=(Array.getElem?_eq_some_iff.mp h3).1
 have other:∀y b,b≠T→(s.heap.update T (Obj.mapFields (·.setIfInBounds 3 y))).get? b=s.heap.get? b:=fun y b hb=>Heap.get?_update_other _ _ (Ne.symm hb)
 have plain:∀b o,s.heap.get? b=some o→(∀vs,o.data≠.fields vs)→b≠T:=fun b o hb hnf q=>by
  rw[q,hT]at hb;cases hb;exact hnf ts hdT
 unfold setFlight
 refine wpAny_bind (wpAny_field he hd h1 ?_)
 rw[if_pos (show(Value.ref T != Value.none)=true from by simp)]
 refine wpAny_setField hT hdT hsz3 (h _ (f.elim Value.none fun f=>rawInt f) ⟨fun b o hbo=>(other _ b fun q=>by rw[q,hnT]at hbo;cases hbo).trans (hkb b o hbo),hen,
  hl.of_keeps fun b o hb hnf=>⟨o,(other _ b (plain b o hb hnf)).trans hb,rfl⟩,oe,vs,T,_,_,(other _ e (Ne.symm hTe)).trans he,hcls,hd,h1,hnT,hTe,Heap.get?_update_self _ hT (Obj.isFreed_of_fields (Obj.data_mapFields hdT _)),Obj.data_mapFields hdT _,by simp[hsz3]⟩ fun b o hb hnf=>⟨o.slots,(other _ b (plain b o hb hnf)).trans hb⟩)
theorem c1n {α:Type} {what:String} {base:Heap} {l:List Env} {e:Addr} {cls a0 mk:Value} {Q:α→Shared→Prop} (x:c7y base l e cls a0 mk s.heap)
  (h:∀h' mk',c7y base l e cls a0 mk' h'→s.heap.UpToSlots h'→E (.ref e) {s with heap:=h'}):wpAny M A (PySem.passOn what (.ref e) env) Q E s:=by
 have x':=x
 obtain⟨hkb,hen,hl,oe,vs,T,oT,ts,he,hcls,hd,h1,hnT,hTe,hT,hdT,h3⟩:=x'
 unfold PySem.passOn
 refine wpAny_bind (wpAny_field he hd h1 ?_)
 rw[if_neg (show ¬((Value.ref T == Value.none)=true)from by simp)]
 have step:wpAny M A (do setFlight (.ref e) env.frame;throw (.ref e)) Q E s:=wpAny_bind (a9r x fun h' mk' y z=>wpAny_throw (h h' mk' y z))
 first
  | exact wpAny_bind (wpAny_pure step)
  | exact step
end
structure Fly (fs:List Env) (z4:Heap) (s s':Shared) (e:Addr) (cls:Value):Prop where
 same:s'.gens=s.gens∧s'.drawn=s.drawn∧s'.os=s.os
 fly:∃a0 mk,c7y (hideAll z4 (frs fs)) fs e cls a0 mk s'.heap
 slots:z4.UpToSlots s'.heap
theorem Fly.kept {s:Shared} {e:Addr} {cls:Value} (x:Fly fs z4 s s' e cls):∀b o,b∉frs fs→z4.get? b=some o→s'.heap.get? b=some o:=fun b o hb h=>by
 obtain⟨a0,mk,f,_⟩:=x.fly
 exact f b o (hideAll_get _ h hb)
section
variable {M:Model} {s:Shared}
theorem b5r {e:Addr} {cls:Value} {Q:Unit→Shared→Prop} (st:Stk A (env::fs) j2) (hf:env.frame=some L) (hx:Heap.MadeExcOf j2 s.heap e cls args)
  (hQ:∀h',Fly fs (j2.hide L) s {s with heap:=h'} e cls→Q () {s with heap:=h'}):wpAny M A (leaving env (.ref e)) Q E s:=by
 have ef:frs (env::fs)=L::frs fs:=by simp[frs,hf]
 have hfun:=st.frames
 rw[ef]at hfun
 refine wpAny_leaves_madeW st.fr hf (fun b o q=>of_hideAll _ q) hfun hx fun h' t x1 x2 x3 x4=>hQ h' ⟨⟨rfl,rfl,rfl⟩,⟨.ref t,.none,x1⟩,fun b o e hn=>x4 b o (hx.keeps b o (Heap.of_hide e)) hn⟩
theorem b8n {e:Addr} {cls:Value} {Q:Unit→Shared→Prop} (st:Stk A (env::fs) j2) (hf:env.frame=some L) (hx:Heap.MadeExcOf j2 s.heap e cls args)
  (hQ:∀h',Fly (env::fs) j2 s {s with heap:=h'} e cls→Q () {s with heap:=h'}):wpAny M A (noteFrame (.ref e) env) Q E s:=by
 obtain⟨t,he,htn,ht⟩:=hx.there
 have fresh:∀b,j2.get? b=none→(hideAll j2 (frs (env::fs))).get? b=none:=fun b hb=>by
  cases hq:(hideAll j2 (frs (env::fs))).get? b with
  | none=>rfl
  | some o'=>have:=of_hideAll _ hq;rw[hb]at this;cases this
 have hl:s.heap.FunFrames (hideAll j2 (frs (env::fs))) (env::fs):=st.frames.of_keeps fun b o hb _=>⟨o,hx.keeps b o hb,rfl⟩
 unfold noteFrame
 simp only[hf]
 refine wpAny_bind (wpAny_field he rfl (x:=.none) rfl ?_)
 rw[if_neg (by decide)]
 refine wpAny_entryW st.fr hl hf he (fun b o hb=>hx.keeps b o (of_hideAll _ hb)) (fresh e hx.new) rfl (by simp) rfl fun h' hN=>?_
 obtain⟨x1,x2,x3,x4⟩:=hN
 exact hQ h' ⟨⟨rfl,rfl,rfl⟩,⟨_,_,x1,fresh e hx.new,x2,x3⟩,fun b o e hn=>x4 b o (hx.keeps b o e) hn⟩
end
end
section
open PySem.SeqAt
noncomputable def d1u:List (Str×Option Value):=[("len",none),("range",none),("max",none),("list",none),("enumerate",none),("sum",none),("ord",none),("chr",none),("iter",none),("next",none),("sorted",none)]
structure GOk (G:a1k):Prop where
 glb:∀x v,d1u.lookup x=some v→G.glb x=some v
 gen:G.gen=false
 told:a9e G 913 "_law_told" (a4t (stm 41)) (a2b (stm 41)) (a0a (stm 41)) .none .none
theorem a9e.at {f:Addr} {q:Str} {a:Arguments} {b:List Stmt} {sc:Scope} {x y:Value} (h:a9e G f q a b sc x y) (ob:List (Addr×Ob)):a9e (G.at ob) f q a b sc x y:=⟨h.fn⟩
theorem GOk.at (h:GOk G) (ob:List (Addr×Ob)):GOk (G.at ob):=⟨h.glb,h.gen,h.told.at ob⟩
structure Job where
 a:Str
 b:Str
 ns:List Nat
noncomputable def a2n (j:Job):D:=.tuple [.list [.str j.a,.str j.b],a1l j.ns]
noncomputable abbrev Rows:=List (List Nat)
noncomputable def nmd (jobs:List Job) (k:Nat):Bool:=decide (k < jobs.length) || !(jobs.filter fun j=>j.ns.contains k).isEmpty
noncomputable def a0h (jobs:List Job) (k:Nat):List Nat:=(jobs[k]?.map (·.ns)).getD []
noncomputable def a0z (jobs:List Job):Rows:=(List.range 5).map (a0h jobs)
noncomputable def b5b (R:Rows) (row:List Nat) (k:Nat):Bool:=row.contains k || !(row.filter fun one=>(R.getD one []).contains k).isEmpty
noncomputable def a5p (R:Rows):Rows:=R.map fun row=>(List.range 5).filter (b5b R row)
noncomputable def iter {α:Type} (f:α→α):Nat→α→α
 | 0,x=>x
 | n+1,x=>f (iter f n x)
noncomputable def Ok5 (R:Rows):Prop:=R.length=5∧∀r∈R,r.length≤5∧∀x∈r,x < 5
theorem b4d {R:Rows} (h:Ok5 R) {k:Nat} (hk:k < 5):(a8h R)[k]? =some (a1l (R.getD k [])):=by
 have:k < R.length:=by rw[h.1];exact hk
 simp[a8h,List.getD,getElem?_eq_getElem this]
theorem a8x {R:Rows} (h:Ok5 R) {k x:Nat} (hx:x∈R.getD k []):x < 5:=by
 unfold List.getD at hx
 cases e:R[k]? with
 | none=>rw[e]at hx;cases hx
 | some r=>rw[e]at hx;exact(h.2 r (mem_of_getElem? e)).2 x hx
theorem c6a {R:Rows} (h:Ok5 R):Ok5 (a5p R):=by
 refine⟨by rw[a5p,length_map];exact h.1,fun r hr=>?_⟩
 obtain⟨row,_,rfl⟩:=zM hr
 refine⟨Nat.le_trans (length_filter_le _ _) (by simp),fun x hx=>?_⟩
 exact mem_range.mp (mem_filter.mp hx).1
theorem a9m {R:Rows} (h:Ok5 R):∀n,Ok5 (iter a5p n R):=by
 intro v'
 induction v' with
 | zero=>
  exact h
 | succ n ih'=>
  exact c6a (ih')
noncomputable def b5w (R:Rows) (k:Nat):Bool:=((R.getD k []++[k]).filter fun j=>(R.getD j []).contains j).isEmpty
noncomputable def hK (B:Rows) (h:List Nat) (k:Nat):Nat:=((B.getD k []).map fun j=>h.getD j 0+1).foldl max 0
noncomputable def a8f (B:Rows) (h:List Nat):List Nat:=(List.range 5).map (hK B h)
theorem a4i:∀(l:List Nat) (a:Nat),a≤l.foldl max a∧∀x∈l,x≤l.foldl max a:=by
 intro v'
 induction v' with
 | nil=>
  intro a
  exact⟨Nat.le_refl _,fun _ h=>by cases h⟩
 | cons y l ih'=>
  intro a
  obtain⟨h1,h2⟩:=ih' (max a y)
  refine⟨Nat.le_trans (Nat.le_max_left _ _) h1,fun x hx=>?_⟩
  rcases a0o hx with rfl | hx
  ·exact Nat.le_trans (Nat.le_max_right _ _) h1
  ·exact h2 x hx
theorem a3t:∀(l:List Nat) (a:Nat),l.foldl max a=a∨l.foldl max a∈l:=by
 intro v'
 induction v' with
 | nil=>
  intro a
  exact .inl rfl
 | cons y l ih'=>
  intro a
  rcases ih' (max a y)with h | h
  ·rw[foldl_cons,h]
   rcases Nat.le_total a y with h' | h'
   ·exact .inr (by rw[Nat.max_eq_right h'];exact .head _)
   ·exact .inl (Nat.max_eq_left h')
  ·exact .inr (.tail _ h)
theorem c6j {n:Nat} (l:List Nat):Op1 prog w G n (fun a=>call (.builtin "max") [a]) (.list ([D.int 0]++l.map dn)) (dn (l.foldl max 0)):=by
 have e:([D.int 0]++l.map dn)=((0::l).map fun n:Nat=>(n:Int)).map D.int:=by rw[map_map];rfl
 rw[e]
 refine c3v (by simp) ?_ ?_
 ·refine zN ⟨l.foldl max 0,?_,rfl⟩
  rcases a3t l 0 with h | h
  ·rw[h];exact .head _
  ·exact .tail _ h
 ·intro a ha
  obtain⟨x,hx,rfl⟩:=zM ha
  rcases a0o hx with rfl | hx
  ·simp
  ·have:=(a4i l 0).2 x hx;omega
noncomputable def a0m (jobs:List Job):Prop:=jobs.length≤5∧∀j∈jobs,j.ns.length≤5∧∀x∈j.ns,x < 5
theorem a3q {jobs:List Job} (h:a0m jobs):Ok5 (a0z jobs):=by
 refine⟨by simp[a0z],fun r hr=>?_⟩
 obtain⟨k,_,rfl⟩:=zM hr
 unfold a0h
 cases e:jobs[k]? with
 | none=>exact⟨Nat.zero_le _,fun x hx=>by cases hx⟩
 | some j=>exact h.2 j (mem_of_getElem? e)
noncomputable def a3z (jobs:List Job):List Nat:=(List.range 5).filter (nmd jobs)
noncomputable def a2i (jobs:List Job):Rows:=iter a5p 5 (a0z jobs)
noncomputable def a2k (jobs:List Job):List Nat:=(a3z jobs).filter (b5w (a2i jobs))
noncomputable def a2o (jobs:List Job):List Nat:=iter (a8f (a0z jobs)) 5 [0,0,0,0,0]
noncomputable def a1z (jobs:List Job) (t:Nat):List Nat:=(a2k jobs).filter fun k=>(a2o jobs).getD k 0 == t
noncomputable def a5d (jobs:List Job):Bool×Rows:=(decide ((a2k jobs).length < (a3z jobs).length),((List.range 5).map (a1z jobs)).filter fun r=>!(r.map dn).isEmpty)
noncomputable def c5q (x:Bool×Rows):D:=.tuple [.bool x.1,.list (a8h x.2)]
section
theorem c4y (hG:GOk G) (jobs:List Job) (hj:a0m jobs):Fn prog w G 4 913 [.list (jobs.map a2n)] (c5q (a5d jobs)):=by
 have hlen:jobs.length < 2 ^ 62:=by have:=hj.1;omega
 intro A M s vs Q E rm T hm dvs K
 cases dvs with
 | cons dv r=>
  cases r
  refine a0u (n:=3) (args:=⟨[_],[]⟩) (ρ:=[("jobs",_)]) (binds:=[("jobs",_)]) hG.told rm T hm (fun name doc pm an cdv ct=>BindsTo.of_eq rfl) rfl (.cons dv .nil) (fun x hx=>by rw[zS hx];exact .inr ∅) (a0d ∅) (by decide +kernel) (by simp) ?_ ∅ ∅ ∅
  intro L cd g0 hL t hW
  walk_at "q"
  have hg:=(hG.at []).glb
  have hgen:=hG.gen
  walk_at "x"
  refine a5o (α:=Nat) (xs:=List.range 5) (g:=dn) (ρ':=[("jobs",.list (jobs.map a2n))]) t (rm.deeper _) (It.rangeN (N:=5) ∅ (hg _ _ ∅) .int (by decide)) (by decide)
   (Sc.of (by rfl) ∅ ∅ (.cons ∅ ∅ .nil)) (nmd jobs) dn (fun k=>[("k",dn k)]) (fun d _=>.name (.inr ∅))
   (fun C cells k hk=>?ht) (fun C cells k hk _=>.name ∅) (.inl ∅) ∅ ?_
  case ht=>
   refine Ts.or2 (Ts.cmp (.name (d:=dn k) ∅) (.callB ∅ (hg _ _ ∅) ∅ (by decide) (.one (.name (d:=.list (jobs.map a2n)) ∅)) (a4g (m:=jobs.length) (by simp) hlen)) b0x) fun _=>?_
   refine Ts.cast (Ts.cmp (Ev.comp (α:=Job) (xs:=jobs) (g:=a2n) (ρ':=[("k",dn k)]) (It.list (.name ∅)) (Nat.le_trans hj.1 (by decide)) (Sc.of (by rfl) ∅ ∅ (.cons ∅ ∅ .nil))
    (fun j=>j.ns.contains k) (fun j=>.list [.str j.a,.str j.b]) (fun j=>[("words",.list [.str j.a,.str j.b]),("needs",a1l j.ns)]) (fun j _=>.pair (by decide) (.inl ∅) (.inl ∅))
    (fun C cells j hj=>?h1) (fun C cells j hj _=>?h2)) (.list .nil) a9l) ?h3
   case h1=>exact Ts.cmp (.name (d:=dn k) ∅) (.name (d:=a1l j.ns) ∅) b4a
   case h2=>exact .name ∅
   case h3=>simp
  intro u0 z0
  walk_at "x"
  refine a1w z0 (rm.deeper _) (d:=.list (a8h (a0z jobs))) (Ev.cast (Ev.compA (α:=Nat) (xs:=List.range 5) (g:=dn) (ρ':=[("jobs",.list (jobs.map a2n))]) (It.rangeN (N:=5) ∅ (hg _ _ ∅) .int (by decide)) (by decide)
   (Sc.of (by rfl) ∅ ∅ (.cons ∅ ∅ .nil)) (fun k=>a1l (a0h jobs k)) (fun k=>[("k",dn k)]) (fun d _=>.name (.inl ∅)) (fun C cells k hk=>?h1)) ?h2) (.inr (a2w ∅)) ∅ ?_
  case h1=>
   refine Ev.ite (Ts.cmp (.name (d:=dn k) ∅) (.callB ∅ (hg _ _ ∅) ∅ (by decide) (.one (.name (d:=.list (jobs.map a2n)) ∅)) (a4g (m:=jobs.length) (by simp) hlen)) b0x) (fun hb=>?_) fun hb=>?_
   ·have hk':k < jobs.length:=of_decide_eq_true hb
    refine Ev.itemTN (k:=1) (ds:=[.list [.str jobs[k].a,.str jobs[k].b],a1l jobs[k].ns]) (Ev.itemN (k:=k) (ds:=jobs.map a2n) (.name ∅) (.name ∅) (by simp[hk',a2n]) (by omega)) .int ?_ (by decide)
    simp[a0h,hk']
   ·have hk':¬k < jobs.length:=of_decide_eq_false hb
    exact Ev.cast (.list .nil) (by simp[a0h,hk',a1l,a0i])
  case h2=>simp[a8h,a0z]
  intro y2 j1
  walk_at "x"
  refine a1w j1 (rm.deeper _) (d:=.list (a8h (a0z jobs))) (Ev.compA (α:=List Nat) (xs:=a0z jobs) (g:=a1l) (ρ':=[]) (It.list (.name ∅)) (by rw[(a3q hj).1];decide)
   (Sc.of (by rfl) ∅ ∅ .nil) a1l (fun r=>[("row",a1l r)]) (fun d _=>.name (.inl ∅)) (fun C cells r hr=>?h1)) (.inr (a2w ∅)) ∅ ?_
  case h1=>
   refine Ev.callT ∅ (hg _ _ ∅) ∅ (by decide) (.one (.name ∅)) (c5y ?_)
   rw[a0i,length_map]
   exact Nat.le_trans ((a3q hj).2 r hr).1 (by decide)
  intro l3 z1
  walk_at "x"
  refine a6w (fun i y0 x0=>y0=([("reach",.list (a8h (iter a5p i (a0z jobs)))),("below",.list (a8h (a0z jobs))),("named",.list (a0i (a3z jobs)))]:List (Str×D))∧x0=[]) (fun d=>[("turn",d)])
   (z1.pick (.cons ∅ (.cons ∅ (.cons ∅ .nil)))) (rm.deeper _) (It.rangeN (N:=5) ∅ (hg _ _ ∅) .int (by decide)) (fun d _=>.name (.inl ∅)) ⟨rfl,rfl⟩ ?turn ?_
  case turn=>
   rintro j4 i d y0 x0 g0 E' hd ⟨rfl,rfl⟩ t
   have ok:=a9m (a3q hj) i
   generalize hR:iter a5p i (a0z jobs)=R at t ok
   walk_at "x"
   refine a1w t (rm.deeper _) (d:=.list (a8h (a5p R))) (Ev.cast (Ev.compA (α:=List Nat) (xs:=R) (g:=a1l) (ρ':=[("reach",.list (a8h R))]) (It.list (.name ∅)) (by rw[ok.1];decide)
    (Sc.of (by rfl) ∅ ∅ (.cons ∅ ∅ .nil)) (fun row=>a1l ((List.range 5).filter (b5b R row))) (fun r=>[("row",a1l r)]) (fun d _=>.name (.inr ∅)) (fun C cells row hr=>?h1)) ?h2) (.inr (a2w ∅)) ∅ ?_
   case h2=>simp[a8h,a5p]
   case h1=>
    refine Ev.comp (α:=Nat) (xs:=List.range 5) (g:=dn) (ρ':=[("row",a1l row),("reach",.list (a8h R))]) (It.rangeN (N:=5) ∅ (hg _ _ ∅) .int (by decide)) (by decide)
     (Sc.of (by rfl) ∅ ∅ (.cons ∅ ∅ (.cons ∅ ∅ .nil))) (b5b R row) dn (fun k=>[("k",dn k)]) (fun d _=>.name (.inr ∅))
     (fun C cells k hk=>?h3) (fun C cells k hk _=>.name ∅)
    refine Ts.or2 (Ts.cmp (.name (d:=dn k) ∅) (.name (d:=a1l row) ∅) b4a) fun _=>?_
    refine Ts.cast (Ts.cmp (Ev.comp (α:=Nat) (xs:=row) (g:=dn) (ρ':=[("k",dn k),("reach",.list (a8h R))]) (It.list (.name ∅)) (Nat.le_trans (ok.2 row hr).1 (by decide))
     (Sc.of (by rfl) ∅ ∅ (.cons ∅ ∅ (.cons ∅ ∅ .nil))) (fun one=>(R.getD one []).contains k) dn (fun one=>[("one",dn one)]) (fun d _=>.name (.inl ∅))
     (fun C cells one ho=>?h4) (fun C cells one ho _=>?h5)) (.list .nil) a9l) ?h6
    case h4=>exact Ts.cmp (.name (d:=dn k) ∅) (Ev.itemN (k:=one) (ds:=a8h R) (.name ∅) (.name ∅) (b4d ok ((ok.2 row hr).2 one ho)) (Nat.lt_trans ((ok.2 row hr).2 one ho) (by decide))) b4a
    case h5=>exact .name ∅
    case h6=>simp
   intro y3 u1
   subst hR
   exact wpAny_execs_nil ⟨rfl,_,_,⟨rfl,rfl⟩,u1.pick (.cons ∅ (.cons ∅ (.cons ∅ .nil)))⟩
  rintro y0 x0 y3 ⟨rfl,rfl⟩ u1
  have okR:Ok5 (a2i jobs):=a9m (a3q hj) 5
  have okN:∀k∈a3z jobs,k < 5:=fun k hk=>mem_range.mp (mem_filter.mp hk).1
  have lenN:(a3z jobs).length≤5:=Nat.le_trans (length_filter_le _ _) (by simp)
  have okF:∀k∈a2k jobs,k < 5:=fun k hk=>okN k (mem_filter.mp hk).1
  have lenF:(a2k jobs).length≤5:=Nat.le_trans (length_filter_le _ _) lenN
  walk_at "x"
  refine a1w u1 (rm.deeper _) (d:=.list (a0i (a2k jobs))) (Ev.comp (α:=Nat) (xs:=a3z jobs) (g:=dn) (ρ':=[("reach",.list (a8h (a2i jobs)))]) (It.list (.name ∅)) (Nat.le_trans lenN (by decide))
   (Sc.of (by rfl) ∅ ∅ (.cons ∅ ∅ .nil)) (b5w (a2i jobs)) dn (fun k=>[("k",dn k)]) (fun d _=>.name (.inl ∅)) (fun C cells k hk=>?h1) (fun C cells k hk _=>?h2)) (.inr (a2w ∅)) ∅ ?_
  case h2=>exact .name ∅
  case h1=>
   have hrow:∀j∈(a2i jobs).getD k []++[k],j < 5:=fun j hj'=>by
    rcases zA hj' with h | h
    ·exact a8x okR h
    ·rw[zS h];exact okN k hk
   have hlenr:((a2i jobs).getD k []).length≤5:=by
    unfold List.getD
    cases e:(a2i jobs)[k]? with
    | none=>exact Nat.zero_le _
    | some r=>exact(okR.2 r (mem_of_getElem? e)).1
   refine Ts.cast (Ts.cmp (Ev.comp (α:=Nat) (xs:=(a2i jobs).getD k []++[k]) (g:=dn) (ρ':=[("reach",.list (a8h (a2i jobs)))])
    (It.list (.op (Ev.itemN (k:=k) (ds:=a8h (a2i jobs)) (.name ∅) (.name ∅) (b4d okR (okN k hk)) (Nat.lt_trans (okN k hk) (by decide))) (.list (.one (.name (d:=dn k) ∅))) (c5z (b:=[k]) (by show _+1≤sizeLine;rw[sizeLine_eq];omega)))) (by rw[length_append,sizeLine_eq];show _+1≤_;omega)
    (Sc.of (by rfl) ∅ ∅ (.cons ∅ ∅ .nil)) (fun j=>((a2i jobs).getD j []).contains j) dn (fun j=>[("j",dn j)]) (fun d _=>.name (.inl ∅)) (fun C cells j hj'=>?h4) (fun C cells j hj' _=>?h5)) (.list .nil) c1w) ?h6
   case h4=>exact Ts.cmp (.name (d:=dn j) ∅) (Ev.itemN (k:=j) (ds:=a8h (a2i jobs)) (.name ∅) (.name ∅) (b4d okR (hrow j hj')) (Nat.lt_trans (hrow j hj') (by decide))) b4a
   case h5=>exact .name ∅
   case h6=>simp only[b5w,List.isEmpty_map]
  intro i5 z2
  refine a2m z2 (rm.deeper _) (d:=a1l [0,0,0,0,0]) (.op (.list (.one .int)) .int c5r) (.inr (a2w ∅)) ∅ ?_
  intro i4 j3
  walk_at "x"
  refine a6w (fun i y0 x0=>y0=([("heights",a1l (iter (a8f (a0z jobs)) i [0,0,0,0,0])),("free",.list (a0i (a2k jobs))),("below",.list (a8h (a0z jobs))),("named",.list (a0i (a3z jobs)))]:List (Str×D))∧x0=[]) (fun d=>[("turn",d)])
   (j3.pick (.cons ∅ (.cons ∅ (.cons ∅ (.cons ∅ .nil))))) (rm.deeper _) (It.rangeN (N:=5) ∅ (hg _ _ ∅) .int (by decide)) (fun d _=>.name (.inl ∅)) ⟨rfl,rfl⟩ ?turn2 ?_
  case turn2=>
   rintro j4 i d y0 x0 g0 E' hd ⟨rfl,rfl⟩ t
   have hh5:(iter (a8f (a0z jobs)) i [0,0,0,0,0]).length=5:=by cases i <;> simp[iter,a8f]
   generalize hR:iter (a8f (a0z jobs)) i [0,0,0,0,0]=h at t hh5
   walk_at "x"
   refine a1w t (rm.deeper _) (d:=a1l (a8f (a0z jobs) h)) (Ev.cast (Ev.compA (α:=Nat) (xs:=List.range 5) (g:=dn) (ρ':=[("heights",a1l h),("below",.list (a8h (a0z jobs)))]) (It.rangeN (N:=5) ∅ (hg _ _ ∅) .int (by decide)) (by decide)
    (Sc.of (by rfl) ∅ ∅ (.cons ∅ ∅ (.cons ∅ ∅ .nil))) (fun k=>dn (hK (a0z jobs) h k)) (fun k=>[("k",dn k)]) (fun d _=>.name (.inl ∅)) (fun C cells k hk=>?h1)) ?h2) (.inr (a2w ∅)) ∅ ?_
   case h2=>simp[a1l,a0i,a8f]
   case h1=>
    have hk5:k < 5:=mem_range.mp hk
    have okB:=a3q hj
    have hlenr:((a0z jobs).getD k []).length≤5:=by
     unfold List.getD
     cases e:(a0z jobs)[k]? with
     | none=>exact Nat.zero_le _
     | some r=>exact(okB.2 r (mem_of_getElem? e)).1
    refine Ev.callB ∅ (hg _ _ ∅) ∅ (by decide) (.one (.op (.list (.one .int)) (Ev.compA (α:=Nat) (xs:=(a0z jobs).getD k []) (g:=dn) (ρ':=[("heights",a1l h)])
     (It.list (Ev.itemN (k:=k) (ds:=a8h (a0z jobs)) (.name ∅) (.name ∅) (b4d okB hk5) (Nat.lt_trans hk5 (by decide)))) (Nat.le_trans hlenr (by decide))
     (Sc.of (by rfl) ∅ ∅ (.cons ∅ ∅ .nil)) (fun j=>dn (h.getD j 0+1)) (fun j=>[("j",dn j)]) (fun d _=>.name (.inl ∅)) (fun C cells j hj'=>?_))
     (a7h (by rw[length_map,sizeLine_eq];show 1+_≤_;omega)))) (by have:=c6j (prog:=prog) (w:=w) (G:=G.at []) (n:=3) (((a0z jobs).getD k []).map fun j=>h.getD j 0+1);rw[map_map]at this;exact this)
    have hj5:=a8x okB hj'
    exact .op (Ev.itemN (k:=j) (ds:=a0i h) (.name ∅) (.name ∅) (by simp[a0i,List.getD,getElem?_eq_getElem (show j < h.length by rw[hh5];exact hj5)]) (Nat.lt_trans hj5 (by decide))) .int b2m
   intro y3 u1
   subst hR
   exact wpAny_execs_nil ⟨rfl,_,_,⟨rfl,rfl⟩,u1.pick (.cons ∅ (.cons ∅ (.cons ∅ (.cons ∅ .nil))))⟩
  rintro y0 x0 d6 ⟨rfl,rfl⟩ z3
  have hh5:(a2o jobs).length=5:=by simp[a2o,iter,a8f]
  walk_at "x"
  refine a5o (α:=Nat) (xs:=List.range 5) (g:=dn) (ρ':=[("free",.list (a0i (a2k jobs))),("heights",a1l (a2o jobs))]) z3 (rm.deeper _) (It.rangeN (N:=5) ∅ (hg _ _ ∅) .int (by decide)) (by decide)
   (Sc.of (by rfl) ∅ ∅ (.cons ∅ ∅ (.cons ∅ ∅ .nil))) (fun _=>true) (fun t=>a1l (a1z jobs t)) (fun k=>[("height",dn k)]) (fun d _=>.name (.inr ∅))
   (fun C cells k hk=>rfl) (fun C cells t ht _=>?_) (.inl ∅) ∅ ?_
  ·refine Ev.comp (α:=Nat) (xs:=a2k jobs) (g:=dn) (ρ':=[("height",dn t),("heights",a1l (a2o jobs))]) (It.list (.name ∅)) (Nat.le_trans lenF (by decide))
    (Sc.of (by rfl) ∅ ∅ (.cons ∅ ∅ (.cons ∅ ∅ .nil))) (fun k=>(a2o jobs).getD k 0 == t) dn (fun k=>[("k",dn k)]) (fun d _=>.name (.inl ∅))
    (fun C cells k hk=>?_) (fun C cells k hk _=>.name ∅)
   have hk5:=okF k hk
   exact Ts.cmp (Ev.itemN (k:=k) (ds:=a0i (a2o jobs)) (.name ∅) (.name ∅) (by simp[a0i,List.getD,getElem?_eq_getElem (show k < (a2o jobs).length by rw[hh5];exact hk5)]) (Nat.lt_trans hk5 (by decide))) (.name (d:=dn t) ∅) c3w
  intro j6 w4
  rw[List.filter_eq_self.mpr (fun _ _=>rfl)]at w4
  walk_at "x"
  refine a2q w4 (rm.deeper _) (d:=c5q (a5d jobs)) (.tuple (.cons (.cmp (.callB ∅ (hg _ _ ∅) ∅ (by decide) (.one (.name (d:=.list (a0i (a2k jobs))) ∅)) (a4g (m:=(a2k jobs).length) (by simp[a0i]) (by omega)))
   (.callB ∅ (hg _ _ ∅) ∅ (by decide) (.one (.name (d:=.list (a0i (a3z jobs))) ∅)) (a4g (m:=(a3z jobs).length) (by simp[a0i]) (by omega))) b0x) (by rfl) (.one ?_))) hW ?_
  ·refine Ev.cast (Ev.comp (α:=List Nat) (xs:=(List.range 5).map (a1z jobs)) (g:=a1l) (ρ':=[]) (It.cast (It.list (.name ∅)) (by rw[map_map])) (by simp[sizeLine_eq])
    (Sc.of (by rfl) ∅ ∅ .nil) (fun r=>!(r.map dn).isEmpty) a1l (fun r=>[("row",a1l r)]) (fun d _=>.name (.inl ∅))
    (fun C cells r hr=>?_) (fun C cells r hr _=>.name ∅)) rfl
   exact Ts.cmp (.name (d:=a1l r) ∅) (.list .nil) a9l
  intro v s' kp dv
  exact K v s' kp dv
end
end
section
open PySem.SeqAt
noncomputable def a0n:List Str:=["a","b c","it's","","ä","€#","😀","x"]
noncomputable def c8b (script:List Int):List Int:=script.take 5++[10,83,436,1095,2221].drop (script.take 5).length
theorem b1y (script:List Int):(c8b script).length=5:=by
 simp only[c8b,length_append,length_take,List.length_drop,length_cons,length_nil]
 omega
noncomputable def c6e (k:Nat) (x:Int) (j:Nat):Bool:=(((x.fdiv 64).fdiv (2 ^ j)).fmod 2 == 1) && (((j:Int) != (k:Int)) || ((x.fdiv 2048).fmod 2 == 1))
noncomputable def b8x (k:Nat) (x:Int):Job:=⟨a0n.getD (x.fmod 8).toNat "",a0n.getD ((x.fdiv 8).fmod 8).toNat "",(List.range 5).filter (c6e k x)⟩
noncomputable def a9w (xs:List Int) (i:Nat):List Job:=(List.range i).map fun k=>b8x k (xs.getD k 0)
noncomputable def a1a (script:List Int):List Job:=a9w (c8b script) 5
theorem b5t (xs:List Int) (i:Nat):a9w xs (i+1)=a9w xs i++[b8x i (xs.getD i 0)]:=by simp[a9w,List.range_succ]
theorem c7f (x:Int):0≤x.fmod 8∧x.fmod 8 < 8:=⟨Int.fmod_nonneg_of_pos _ (by decide),Int.fmod_lt_of_pos _ (by decide)⟩
theorem b0t (x:Int):(a0n.map D.str)[(x.fmod 8).toNat]? =some (.str (a0n.getD (x.fmod 8).toNat "")):=by
 have h:=c7f x
 have:(x.fmod 8).toNat < a0n.length:=by show _ < 8;omega
 simp[List.getD,getElem?_eq_getElem this]
theorem Ev.first5 {n:Nat} {x:Str} {np cp p:Pos} {ck:Nat} (h:Ev prog w G n env ρ (.Name x np) (.list ds)) (hsz:ds.length≤sizeLine):
  Ev prog w G n env ρ (.Subscript (.Name x np) (.Slice none (some (.Constant (.int 5) ck cp)) none sp) p) (.list (ds.take 5)):=
 Ev.sliceT (lo':=none) (hi':=some ((5:Nat):Int)) h trivial (Ev.int:Ev prog w G n env ρ (.Constant (.int 5) ck cp) (.int 5)) hsz (b2j 5)
section
theorem c6x (hG:GOk G) (ha:a9e G 891 "_law_jobs" (a4t (stm 37)) (a2b (stm 37)) (a0a (stm 37)) .none .none) {script:List Int} (hlen:script.length≤63):Fn prog w G 2 891 [.list (script.map D.int)] (.list ((a1a script).map a2n)):=by
 intro A M s vs Q E rm T hm dvs K
 clear s s
 cases dvs with
 | cons dv r=>
  cases r
  refine a0u (n:=1) (args:=⟨[_],[]⟩) (ρ:=[("script",_)]) (binds:=[("script",_)]) ha rm T hm (fun name doc pm an cdv ct=>BindsTo.of_eq rfl) rfl (.cons dv .nil) (fun x hx=>by rw[zS hx];exact .inl ∅) (a0d ∅) (by decide +kernel) (by simp) ?_ ∅ ∅ ∅
  intro L cd g0 hL t hW
  walk_at "q"
  have hg:=fun ob=>(hG.at ob).glb
  have hgen:=hG.gen
  refine a2m t (rm.deeper _) (d:=.list (a0n.map D.str)) (.list (.cons .str (by rfl) (.cons .str (by rfl) (.cons .str (by rfl) (.cons .str (by rfl) (.cons .str (by rfl) (.cons .str (by rfl) (.cons .str (by rfl) (.one .str))))))))) (.inl ∅) ∅ ?_
  intro u0 z0
  walk_at "x"
  refine a4y z0 (rm.deeper _) (.inl ∅) ∅ ?_
  intro a y2 hfa j1
  clear y2 u0 hL dv hG
  obtain⟨fa1,fa2,fa3,fa4⟩:=z0.fresh_of hfa
  walk_at "x"
  have hxl:=b1y script
  generalize hxs:c8b script=xs at hxl
  refine b4t (ds:=xs.map D.int) (fun i y0 x0=>y0=([("jobs",.val (.ref a)),("pieces",.list (a0n.map D.str)),("script",.list (script.map D.int))]:List (Str×D))∧x0=[(a,.list ((a9w xs i).map a2n))]) (fun i d=>[("k",dn i),("x",d)])
   (j1.pick (.cons ∅ (.cons ∅ (.cons ∅ .nil)))) (rm.deeper _) ∅ (hg [] _ _ ∅) ?src ⟨_,_,_,rfl⟩ (fun i d _=>.pair (by decide) (.inr (a2w ∅)) (.inr (a2w ∅))) ⟨rfl,rfl⟩ ?turn ?_
  case src=>
   have hz:(script.map D.int).length≤sizeLine:=by rw[length_map,sizeLine_eq];omega
   refine .one (Ev.cast (.op (.first5 (ds:=script.map D.int) (.name ∅) hz) (Ev.sliceT (ds:=[10,83,436,1095,2221].map D.int) (lo':=some (((script.map D.int).take 5).length:Int)) (hi':=none) (.list (.cons .int (by rfl) (.cons .int (by rfl) (.cons .int (by rfl) (.cons .int (by rfl) (.one .int)))))) (Ev.callB ∅ (hg _ _ _ ∅) ∅ (by decide) (.one (.first5 (ds:=script.map D.int) (.name ∅) hz)) (b0y ?h1)) trivial (by decide) (b0u _)) (a7h ?h2)) ?h3)
   case h1=>rw[length_take,length_map];omega
   case h2=>simp only[length_map,length_take,List.length_drop,length_cons,length_nil,sizeLine_eq];omega
   case h3=>rw[←hxs,c8b,map_append,List.map_drop,List.map_take,length_take,length_take,length_map]
  case turn=>
   clear j1 z0
   rintro j4 i d y0 x0 g0 E' hd ⟨rfl,rfl⟩ t
   clear g0 g0
   obtain⟨x,hx,rfl⟩:∃x,xs[i]? =some x∧D.int x=d:=by rw[getElem?_map]at hd;exact map_eq_some_iff.mp hd
   have hi5:i < 5:=by rw[←hxl];exact(List.getElem?_eq_some_iff.mp hx).1
   have hxd:xs.getD i 0=x:=by simp[List.getD,hx]
   walk_at "x"
   refine a5o (α:=Nat) (xs:=List.range 5) (g:=dn) (ρ':=[("x",.int x),("k",dn i)]) t (rm.deeper _) (It.rangeN (N:=5) ∅ (hg _ _ _ ∅) .int (by decide)) (by decide)
    (Sc.of (by rfl) ∅ ∅ (.cons ∅ ∅ (.cons ∅ ∅ .nil))) (c6e i x) dn (fun k=>[("j",dn k)]) (fun d _=>.name (.inl ∅))
    (fun C cells j hj=>?ht) (fun C cells j hj _=>.name ∅) (.inl ∅) ∅ ?_
   case ht=>
    have hj5:j < 5:=mem_range.mp hj
    have hp:(2:Int) ^ j≠0∧((2:Int) ^ j).natAbs < 1073741824:=by
     have:j=0∨j=1∨j=2∨j=3∨j=4:=by omega
     clear t t
     rcases this with rfl | rfl | rfl | rfl | rfl <;> decide
    refine Ts.and2 (Ts.cmp (.op (.op (.op (.name (d:=.int x) ∅) .int (a8w (by decide) (by decide))) (Ev.cast (.op .int (.name (d:=dn j) ∅) (b7y (by omega) (by omega) (by decide))) rfl) (a8w hp.1 hp.2)) .int (a7f (by decide))) .int b8f) fun _=>?_
    exact Ts.or2 (Ts.cmp (.name (d:=dn j) ∅) (.name (d:=dn i) ∅) c9a) fun _=>Ts.cmp (.op (.op (.name (d:=.int x) ∅) .int (a8w (by decide) (by decide))) .int (a7f (by decide))) .int b8f
   intro l3 z1
   have f1:=c7f x
   have f2:=c7f (x.fdiv 8)
   walk_at "x"
   refine a6x z1 (rm.deeper _) ∅ (d:=a2n (b8x i x)) (.tuple (.cons (.list (.cons (Ev.item (k:=x.fmod 8) (ds:=a0n.map D.str) (.name ∅) (.op (.name (d:=.int x) ∅) .int (a7f (by decide))) f1.1 (by omega) (b0t x)) (by rfl)
    (.one (Ev.item (k:=(x.fdiv 8).fmod 8) (ds:=a0n.map D.str) (.name ∅) (.op (.op (.name (d:=.int x) ∅) .int (a8w (by decide) (by decide))) .int (a7f (by decide))) f2.1 (by omega) (b0t (x.fdiv 8)))))) (by rfl)
    (.one (.name ∅)))) (by simp[a9w,sizeLine_eq];omega) ?_
   intro y3 u1
   refine wpAny_execs_nil ⟨rfl,_,_,⟨rfl,?_⟩,u1.pick (.cons ∅ (.cons ∅ (.cons ∅ .nil)))⟩
   rw[b5t,map_append,hxd];rfl
  clear j1 z0
  rintro y0 x0 l3 ⟨rfl,rfl⟩ z1
  rw[length_map,hxl]at z1
  have u1:=z1.freeze (x:="jobs") ∅ fa4 fa2
  walk_at "x"
  refine a2q u1 (rm.deeper _) (d:=.list ((a1a script).map a2n)) (Ev.cast (.name (d:=.list ((a9w xs 5).map a2n)) ∅) (by rw[←hxs];rfl)) (fun b hb=>?_) K
  clear u1 z1 l3 K rm
  obtain⟨hb1,hb2⟩:=mem_filter.mp hb
  rcases a0o hb1 with rfl | hb1
  ·simp at hb2
  ·exact hW b hb1
end
end
section
open PySem.SeqAt
noncomputable def quoteF (x:Str):Str:=if x="" then "''" else if a6g x then "'"++Txt.replace x "'" "'\"'\"'"++"'" else x
section
variable {n:Nat}
theorem Ev.quoted {x q y z:Str} {k1 k2 k3 k4:Nat} {p4 np cp bp bp2:Pos} (hx:ρ.lookup ("s":Str)=some (.str x)) (hyz:(y == z)=false) (hb:x.length+(x.length+1) * z.length≤16777216)
  (hl1:q.length+(Txt.replace x y z).length≤sizeLine) (hl2:(q++Txt.replace x y z).length+q.length≤sizeLine) (hline:(ap.endLine == cp.line)=true)
  (hbase:attributeBase (.Name "s" np) "replace" env (eval (.Name "s" np) env)=eval (.Name "s" np) env):
  Ev prog w G n env ρ (.BinOp (.BinOp (.Constant (.str q) k1 p1) .Add (.Call (.Attribute (.Name "s" np) "replace" ap) [.Constant (.str y) k2 p2,.Constant (.str z) k3 p3] [] cp) bp) .Add (.Constant (.str q) k4 p4) bp2) (.str (q++Txt.replace x y z++q)):=by
 intro A M s Q E rm c K
 refine wpAny_BinOp (wpAny_BinOp (wpAny_Constant_str ?_))
 have v5:=c.keeps (Kp.tok s (s.toks+1))
 obtain⟨v,hv,dv⟩:=v5.vars "s" _ hx
 cases dv with
 | str _ t=>
 refine wpAny_Call_method_lateS hbase (by rfl) hline (a1f c.kind hv ?_)
 refine⟨"str","str.replace",F.plainAttrs_str,F.slot_str_replace,F.type_str_replace,typeIs_str _ _ _,(fun _ e=>nomatch e),?_⟩
 refine callWith_method1 (spliced_more (wpAny_Constant_str (spliced_more (wpAny_Constant_str (spliced_none ?_)) (by rfl))) (by rfl))
 refine SC.replace (show s.toks+1≠0 by omega) (show s.toks+1+1≠0 by omega) (show s.toks+1≠s.toks+1+1 by omega) hyz hb fun t' k=>?_
 refine SB.add (fun t2 k2=>?_) hl1
 refine wpAny_Constant_str ?_
 refine SB.add (fun t3 k3=>?_) hl2
 exact K _ _ (Kp.tok s _) (.str _ _)
end
section
structure GQ (G:a1k):Prop where
 quote:a9e G 886 "quote" (a4t (stm 35)) (a2b (stm 35)) (a0a (stm 35)) .none .none
 fu:G.glb "_find_unsafe"=some (some (.ref 879))
 pat:b6l G.objs
theorem c1h (hG:GOk G) (hQ:GQ G) {x:Str} (hx:x∈a0n):Fn prog w G 2 886 [.str x] (.str (quoteF x)):=by
 intro A M s vs Q E rm T hm dvs K
 clear s s
 cases dvs with
 | cons dv r=>
  cases r
  refine a0u (n:=1) (args:=⟨[_],[]⟩) (ρ:=[("s",_)]) (binds:=[("s",_)]) hQ.quote rm T hm (fun name doc pm an cdv ct=>BindsTo.of_eq rfl) rfl (.cons dv .nil) (fun x hx=>by rw[zS hx];exact .inl ∅) (a0d ∅) (by decide +kernel) (by simp) ?_ ∅ ∅ ∅
  intro L cd g0 hL t hW
  walk_at "q"
  have hgen:=hG.gen
  have hlen:x.length≤4:=by
   have:a0n.all (fun x=>decide (x.length≤4))=true:=by decide +kernel
   exact of_decide_eq_true (all_eq_true.mp this x hx)
  walk_at "x"
  refine a9f t (rm.deeper _) (b:=!((x.length:Int) != 0)) (.not (.val (.name (d:=.str x) ∅) (.str _ (by omega)))) fun u0 z0=>?_
  clear u0 t hL g0 dv hG
  by_cases h0:x.length=0
  ·have hx0:x="":=by
    obtain⟨a⟩:=x
    have:a= #[]:=Array.eq_empty_of_size_eq_zero (by simpa [Str.length] using h0)
    subst this;rfl
   rw[if_pos (by simp[h0])]
   walk_at "x"
   refine a2q z0 (rm.deeper _) (d:=.str (quoteF x)) (Ev.cast .str (by rw[quoteF,if_pos hx0])) hW K
  ·rw[if_neg (by simp[h0])]
   have hx0:x≠"":=fun e=>h0 (by rw[e];rfl)
   have hrun:b8g x=true:=by
    have h1:=all_eq_true.mp c9g x
    apply h1
    revert hx hx0
    simp only[a0n,mem_cons,not_mem_nil,or_false]
    intro hx hx0
    rcases hx with h | h | h | h | h | h | h | h <;> simp_all
   refine wpAny_execs_nil ?_
   show wpAny _ _ (execs _ _) _ _ _
   walk_at "x"
   obtain⟨o,ho1,hc1,hd1⟩:=hQ.pat.fn
   refine a9f z0 (rm.deeper _) (b:=a5a (if a6g x then .thing else .none)) (.cmp (.callR (G:=G.at []) ∅ hQ.fu ho1 (.inl hc1) hd1 (.one (.name (d:=.str x) ∅)) (b7x (G:=G.at []) hQ.pat hrun)) .noneC (a0w fun v e=>by cases hw:a6g x <;> rw[hw]at e <;> cases e)) fun y2 j1=>?_
   clear y2 z0 hQ
   cases hw:a6g x with
   | false=>
    rw[if_pos (by rfl)]
    walk_at "x"
    exact a2q j1 (rm.deeper _) (d:=.str (quoteF x)) (Ev.cast (.name (d:=.str x) ∅) (by rw[quoteF,if_neg hx0,hw];rfl)) hW K
   | true=>
    rw[if_neg (by decide)]
    refine wpAny_execs_nil ?_
    show wpAny _ _ (execs _ _) _ _ _
    walk_at "x"
    have hr:(Txt.replace x "'" "'\"'\"'").length≤100:=by
     have:a0n.all (fun x=>decide ((Txt.replace x "'" "'\"'\"'").length≤100))=true:=by decide +kernel
     exact of_decide_eq_true (all_eq_true.mp this x hx)
    refine a2q j1 (rm.deeper _) (d:=.str (quoteF x)) (Ev.cast (Ev.quoted (x:=x) ∅ (by decide) ?h1 ?h2 ?h3 ∅ ∅) (by rw[quoteF,if_neg hx0,hw];rfl)) hW K
    case h1=>have:(Str.length "'\"'\"'")=5:=(by decide +kernel);rw[this];omega
    case h2=>rw[sizeLine_eq];have:Str.length "'"=1:=(by decide +kernel);rw[this];omega
    case h3=>rw[sizeLine_eq,PySem.Str.length_append];have:Str.length "'"=1:=(by decide +kernel);rw[this];omega
end
end
section
open PySem.SeqAt
noncomputable def a1o (a b:Str):Str:=Txt.join " " [quoteF a,quoteF b]
theorem c6v:(a0n.all fun a=>a0n.all fun b=>JoinOk " " [quoteF a,quoteF b])=true:=by decide +kernel
inductive BmX (G:a1k):Prop
 | mk (bm:Addr) (o:Obj):G.glb "__builtins__"=some (some (.ref bm))→bm≠builtinsNs→G.objs bm=some o→o.cls= .type "module"→o.dict=some builtinsNs→o.data= .plain→BmX G
inductive d1w (G:a1k):Prop
 | mk (o:Obj) (vs:Array Value):G.objs 877=some o→o.cls= .type "code"→o.data= .fields vs→vs[11]? =some (.ref 873)→d1w G
structure GJ (G:a1k):Prop where
 join:a9e G 878 "join" (a4t (stm 32)) (a2b (stm 32)) (a0a (stm 32)) .none .none
 code:∃o fd,G.objs 878=some o∧o.data= .func fd∧fd.code= .ref 877
 quote:G.glb "quote"=some (some (.ref 886))
 quoteF:∃o fd,G.objs 886=some o∧o.data= .func fd
 bm:BmX G
 no:G.objs 873=none
 tab:d1w G
theorem b2x {M:Model} {s:Shared} {c P:Addr} {qualname:Str} (hc:env.code= .ref c) (hok:s.heap.IsCode c P ps) (htab:s.heap.TableAt c P ps)
  (hQ:∀code h' tk more,Heap.ExtBut P s.heap h'→h'.IsCode c P (ps++more)→h'.TableAt c P (ps++more)→Q code {s with heap:=h',toks:=tk}):wpAny M A (genexprCode env pos qualname scope) Q E s:=by
 cases hnf:codeAmong pos ps.toList with
 | some c'=>exact wpAny_genexprCode_hit hc hok hnf (hQ c' s.heap s.toks #[] (Heap.ExtBut.refl _ _) (by simpa using hok) (by simpa using htab))
 | none=>exact wpAny_genexprCodeX hc hok htab hnf fun c' h' tk hx _ _ hok' _ htab' _=>hQ _ h' tk _ hx hok' htab'
section
theorem b3g {h:Heap} {c P:Addr} (x:h.IsCode c P ps):(∃o,h.get? c=some o)∧∃o,h.get? P=some o∧o.data= .fields ps:=by
 obtain⟨o,vs,file,tf,flags,tg,inF,text,tt,op,ho,hd,h11,h2,h7,h9,h10,hop,hpd,htr,hne⟩:=x
 exact⟨⟨o,ho⟩,op,hop,hpd⟩
theorem b6c {h:Heap} {c P:Addr} (x:h.IsCode c P ps) (k1:∀o,h.get? c=some o→h'.get? c=some o) (k2:∀o,h.get? P=some o→h'.get? P=some o):h'.IsCode c P ps:=by
 obtain⟨o,vs,file,tf,flags,tg,inF,text,tt,op,ho,hd,h11,h2,h7,h9,h10,hop,hpd,htr,hne⟩:=x
 exact⟨o,vs,file,tf,flags,tg,inF,text,tt,op,k1 _ ho,hd,h11,h2,h7,h9,h10,k2 _ hop,hpd,htr,hne⟩
theorem TF.ext {h:Heap} (T:TF G h) (hn:G.objs 873=none) {c:Addr} (hc:h.IsCode c 873 ps) (hx:Heap.ExtBut 873 h h'):TF G h':=by
 walk_at "c"
 rcases b3g hc with⟨_,of,ef,df⟩
 have ns:∀a m,h.Ns a m→h'.Ns a m:=fun a m x=>by
  obtain⟨o,es,ep,e,d,r⟩:=x
  refine⟨o,es,ep,hx a o (fun e'=>?_) e,d,r⟩
  rw[e',ef]at e;cases e;rw[df]at d;cases d
 rcases T.g with⟨mg,a1,a2⟩
 rcases T.b with⟨mb,b1,b2⟩
 rcases T.lim with⟨mc,c1,c2⟩
 walk_at "u"
 exact⟨⟨mg,ns _ _ a1,a2⟩,⟨mb,ns _ _ b1,b2⟩,⟨mc,ns _ _ c1,c2⟩,fun a o e=>hx a o (fun e'=>by rw[e',hn]at e;cases e) (T.objs a o e)⟩
theorem TF.skip {h h'':Heap} (T:TF G h) (T':TF G h') (hI:h.get? I=none) (hk:∀b o,b≠I→h'.get? b=some o→h''.get? b=some o):TF G h'':=by
 have ns:∀a m bF,h.Ns a bF→h'.Ns a m→h''.Ns a m:=fun a m bF lG x=>by
  walk_at "c"
  rcases x with⟨o,es,ep,e,d,r⟩
  rcases lG with⟨w7,_,_,vF,_⟩
  walk_at "u"
  exact⟨o,es,ep,hk a o (fun e'=>by rw[e',hI]at vF;cases vF) e,d,r⟩
 walk_at "c"
 rcases T'.g with⟨mg,a1,a2⟩
 rcases T'.b with⟨mb,b1,b2⟩
 rcases T'.lim with⟨mc,c1,c2⟩
 rcases T.g with⟨_,a0,_⟩
 rcases T.b with⟨_,b0,_⟩
 rcases T.lim with⟨_,c0,_⟩
 walk_at "u"
 exact⟨⟨mg,ns _ _ _ a0 a1,a2⟩,⟨mb,ns _ _ _ b0 b1,b2⟩,⟨mc,ns _ _ _ c0 c1,c2⟩,fun a o e=>hk a o (fun e'=>by have:=T.objs a o e;rw[e',hI]at this;cases this) (T'.objs a o e)⟩
theorem GQ.at (h:GQ G) (ob:List (Addr×Ob)):GQ (G.at ob):=⟨h.quote.at ob,h.fu,h.pat⟩
theorem c4j (hG:GOk G) (hQ:GQ G) (hJ:GJ G) {x:Str} {t:Tok} (hx:x∈a0n) {code:Value} {s:Shared} {m:Str→Option Value} {np cp:Pos} (rm:Rm A 2) (T:TF G s.heap)
  (hk:scope.kind= .function) (hg:env.globals=mainGlobals) (hns:s.heap.Ns C m) (hm:m "arg"=some (.str x t)) (hl:scope.names.lookup ("arg":Str)=some .local) (hq:scope.names.lookup ("quote":Str)=some .globalImplicit) (hno:∀q∈scope.names,q.2≠.cell∧q.2≠.free):
  wpAny (model prog w) A (eval (.Call (.Name "quote" np) [.Name "arg" ap] [] cp) (genEnv scope [] C code builtinsNs env)) (fun y y2=>(∃t,y= .str (quoteF x) t)∧Keeps s y2) E s:=by
 obtain⟨o,fd,ho,hd⟩:=hJ.quoteF
 have cd:Cd (G.at []) (genEnv scope [] C code builtinsNs env) [] [("arg",.str x)] s:=by
  refine⟨T.at [],hk,hg,rfl,fun y d hy=>?_,(fun b hb=>absurd hb not_mem_nil),fun y hy=>?_,fun p hp=>absurd hp not_mem_nil⟩
  ·rw[lookup_cons]at hy
   cases hb:y == ("arg":Str)with
   | false=>rw[hb]at hy;cases hy
   | true=>
    rw[hb]at hy;cases hy
    rw[beq_iff_eq.mp hb]
    exact⟨_,.loc m hl hns hm,.str _ _⟩
  ·have hy':scope.names.lookup y=some .cell∨scope.names.lookup y=some .free:=hy
   rcases hy' with h | h
   ·exact absurd rfl (hno _ (mem_of_lookup h)).1
   ·exact absurd rfl (hno _ (mem_of_lookup h)).2
 refine Ev.callF (prog:=prog) (w:=w) (G:=G.at []) (n:=2) (env:=genEnv scope [] C code builtinsNs env) (ρ:=[("arg",.str x)]) (f:=886) (ds:=[.str x]) (d:=.str (quoteF x)) hq hJ.quote ho hd (.one (.name ∅)) (by simp) (c1h (hG.at []) (hQ.at []) hx) (by decide) A [] s _ E rm cd fun v s' k dv=>?_
 cases dv
 obtain⟨h',tk,e,kk⟩:=k
 exact⟨⟨_,rfl⟩,h',tk,e,kk⟩
theorem c6u (hG:GOk G) (hQ:GQ G) (hJ:GJ G) {a b:Str} (ha:a∈a0n) (hb:b∈a0n) {s:Shared} (rm:Rm A 5) (T:TF G s.heap)
  (hm:∀b∈M,∃o,s.heap.get? b=some o) (dv:DR (vis s.heap M) v (.list [.str a,.str b])) (hps:s.heap.IsCode 877 873 ps) (hpt:s.heap.get? 873=some (tbO ps))
  (K:∀t s' more,Kw true [873] s s'→s'.heap.IsCode 877 873 (ps++more)→s'.heap.get? 873=some (tbO (ps++more))→Q (.str (a1o a b) t) s'):wpAny (model prog w) A (call (.ref 878) [v]) Q E s:=by
 refine b1m (n:=4) (args:=⟨[_],[]⟩) (ρ:=[("split_command",_)]) (binds:=[("split_command",_)]) hJ.join rm T hm (fun name doc pm an cdv ct=>BindsTo.of_eq rfl) rfl (.cons dv .nil) (fun x hx=>by rw[zS hx];exact .inl ∅) (a0d ∅) (by decide +kernel) (by simp) ?_ ∅ ∅ ∅
 intro L cd g0 hL t hW hcd
 walk_at "q"
 have ecd:cd= .ref 877:=by
  walk_at "c"
  rcases hcd with⟨o,fd,e1,e2,e3⟩
  rcases hJ.code with⟨o',fd',e1',e2',e3'⟩
  walk_at "u"
  rw[e1]at e1';cases e1';rw[e2]at e2';cases e2'
  rw[←e3,e3']
 subst ecd
 have kp:Kp s g0:=(show Kw false _ s g0 from hG.gen▸t.kp).kp hW
 have vB:g0.heap.IsCode 877 873 ps:=hps.keeps kp.hk
 have rm':=rm.deeper (fnv "join" (a0a (stm 32)) L 878 (.ref 877))
 walk_at "x"
 refine wpAny_Return_some ?_
 refine wpAny_Call_method_lateS ∅ ∅ ∅ (wpAny_Constant_str ?_)
 refine⟨"str","str.join",F.plainAttrs_str,F.slot_str_join,F.type_str_join,typeIs_str _ _ _,(fun _ e=>nomatch e),?_⟩
 refine callWith_method1 (spliced_more ?_ (by rfl))
 have bG:=t.cd.keeps (Kp.tok g0 (g0.toks+1))
 obtain⟨u,hu,du⟩:=bG.vars "split_command" (.list [.str a,.str b]) ∅
 refine wpAny_GeneratorExp_walksQD (cl:=[]) rm'.hd ∅ ∅ (by decide +kernel) ∅ ∅ ∅ (by have:=rm'.dep;show _ < 1000;omega) (a1f t.kind hu ?_) (by intro _;rfl)
 walk_at "q"
 cases du with
 | list e r=>
 rename_i l vs n0
 have hl:=(a0b e).1
 cases r with
 | cons ra r=>
 cases r with
 | cons rb r=>
 cases r
 cases ra with
 | str _ ta=>
 cases rb with
 | str _ tb=>
 refine wpAny_pyIter_list (a0j e) ?_
 have eI:∃I,I=g0.heap.objs.size:=⟨_,rfl⟩
 walk_at "c"
 rcases eI with⟨I,eI⟩
 have kpI:Kp g0 {g0 with heap:=g0.heap.push {cls:=.type "list_iterator",data:=.fields #[.ref l,.int 0 0]},toks:=g0.toks+1}:=⟨_,_,rfl,Hk.push _ _⟩
 have rE:TF G (g0.heap.push {cls:=.type "list_iterator",data:=.fields #[.ref l,.int 0 0]}):=(t.top.keeps kpI.hk)
 have f9:=vB.keeps kpI.hk
 rcases hJ.tab with⟨o7,v7,ho7,hc7,hd7,h117⟩
 walk_at "u"
 refine⟨rE.lim,b2x (c:=877) (P:=873) rfl f9 ⟨⟨o7,v7,rE.objs _ _ ho7,hc7,hd7,h117⟩,kpI.hk _ _ (kp.hk _ _ hpt)⟩ fun code e6 nA more m9 uB fE=>?_⟩
 have fD:TF G e6:=rE.ext hJ.no f9 m9
 walk_at "c"
 rcases hJ.bm with⟨bm,om,hb1,hb2,hb3,hb4,hb5,hb6⟩
 rcases fD.g with⟨mg,hmg,hmgv⟩
 walk_at "u"
 refine wpAny_builtinsFor hmg (hmgv _ _ hb1) hb2 (fD.objs _ _ hb3) hb4 hb5 hb6 ?_
 obtain⟨_,of,ef,df⟩:=b3g vB
 have hl8:l≠873:=fun e'=>by rw[e',ef]at hl;cases hl;cases df
 have hI8:I≠873:=fun e'=>by have:=lt_size ef;rw[←eI,←e']at this;exact absurd this (Nat.lt_irrefl _)
 have hlI:l < I:=by rw[eI];exact lt_size hl
 have hl3:=m9 l _ hl8 (get?_push_of_some _ hl)
 have hI2:(g0.heap.push {cls:=.type "list_iterator",data:=.fields #[.ref l,.int 0 0]}).get? I=some {cls:=.type "list_iterator",data:=.fields #[.ref l,.int 0 0]}:=by rw[eI];exact get?_push_size _ rfl
 have hI3:=m9 I _ hI8 hI2
 rw[←eI]
 refine⟨I,[I,l],[I],2,(fun i v=>(#[.str a ta,.str b tb]:Array Value)[i]? =some v),(fun i h=>h.IsListIter I l i∧h.IsList l #[.str a ta,.str b tb]),(fun _=>true),(fun i y=>∃t,y= .str ([quoteF a,quoteF b].getD i "") t),rfl,fun A' hA=>by have W:=Walks.list (prog:=prog) (w:=w) (A:=A') hA I l (Nat.ne_of_gt hlI).symm #[.str a ta,.str b tb];exact W,⟨⟨_,hI3,rfl,rfl⟩,⟨_,hl3,rfl,_,rfl⟩⟩,?_,fD.lim,?_,?_,?_⟩
 ·intro x hx
  rcases a0o hx with rfl | hx
  ·exact lt_size hI3
  ·rw[zS hx];exact lt_size hl3
 ·intro hx
  have h1:cStatics=I:=zS hx
  obtain⟨mc,⟨o,es,ep,ec,dc,_⟩,_⟩:=t.top.lim
  have:=lt_size ec
  rw[h1,eI]at this
  exact absurd this (Nat.lt_irrefl _)
 ·intro href hk
  refine⟨fun A' E' i v u0 sG _ _ _ _ _ _ _=>wpAny_pure ⟨rfl,u0.heap,u0.toks,rfl,fun _ _ e=>e⟩,fun A' E' i v u0 sG hh' hdep hun hP _ hns hmx hkeep=>?_⟩
  have hIn:g0.heap.get? I=none:=by rw[eI];exact a0c (Nat.le_refl _)
  have cG:TF G u0.heap:=TF.skip t.top fD hIn fun b o hb e=>hkeep b (mem_range.mpr (lt_size e)) (fun hm=>hb (zS hm)) o (hk b o e)
  have nD:Rm A' 2:=⟨hh',by have h1:=rm'.dep;omega,by have h1:=rm'.un;omega⟩
  match i,hP with
  | 0,hP=>
   have ev:v= .str a ta:=by simpa using hP.symm
   subst ev
   refine wpAny_mono (c4j hG hQ hJ (t:=ta) ha nD cG ?_ ?_ hns hmx ?_ ?_ ?_) (fun y y2 h=>⟨h.1,h.2⟩) fun _ _ h=>h
   ·kernel_rfl
   ·rfl
   ·kernel_rfl
   ·kernel_rfl
   ·decide +kernel
  | 1,hP=>
   have ev:v= .str b tb:=by simpa using hP.symm
   subst ev
   refine wpAny_mono (c4j hG hQ hJ (t:=tb) hb nD cG ?_ ?_ hns hmx ?_ ?_ ?_) (fun y y2 h=>⟨h.1,h.2⟩) fun _ _ h=>h
   ·kernel_rfl
   ·rfl
   ·kernel_rfl
   ·kernel_rfl
   ·decide +kernel
  | k+2,hP=>simp at hP
 ·intro g k6 tk gs hgb hag gE aC W hat
  refine spliced_none ?_
  have hfpx:∀b∈g::e6.objs.size::List.range e6.objs.size,b < k6.objs.size:=fun x hx=>by
   rw[gE]
   rcases a0o hx with rfl | hx
   ·exact lt_succ_self _
   ·rcases a0o hx with rfl | hx
    ·exact Nat.lt_succ_of_lt hag
    ·exact Nat.lt_succ_of_lt (Nat.lt_trans (mem_range.mp hx) hag)
  have hC:s.heap.get? e6.objs.size=none:=by
   cases e:s.heap.get? e6.objs.size with
   | none=>rfl
   | some o=>
    by_cases h8:e6.objs.size=873
    ·have:=uB.lt.2;rw[h8]at this;exact absurd this (Nat.lt_irrefl _)
    ·have:=lt_size (m9 _ o h8 (kpI.hk _ o (kp.hk _ o e)));exact absurd this (Nat.lt_irrefl _)
  have hI0:s.heap.get? I=none:=by
   cases e:s.heap.get? I with
   | none=>rfl
   | some o=>have:=lt_size (kp.hk _ o e);rw[eI]at this;exact absurd this (Nat.lt_irrefl _)
  refine SC.joinGen W.in4_2 (fun i s' st=>st.1.typeIs) hat hfpx List.mem_cons_self (fun i v hv=>?_) (fun s' lt hm hacc=>?_) (by show 2≤sizeLine;decide)
  ·obtain⟨_,_,t,rfl⟩:=hv;exact⟨_,_,rfl⟩
  ·have hl:lt.map (·.1)=[quoteF a,quoteF b]:=by
    obtain⟨h1,h2⟩:=hacc
    have hp:passing (fun _=>true) 2 0=[0,1]:=by decide
    rw[hp]at h1 h2
    have h1':lt.length=2:=by simpa [strValues] using h1
    match lt,h1' with
    | [p,q],_=>
     walk_at "c"
     rcases h2 0 (.str p.1 p.2) (by simp[strValues])with⟨i,hi,t1,e1⟩
     rcases h2 1 (.str q.1 q.2) (by simp[strValues])with⟨j,hj,t2,e2⟩
     walk_at "u"
     simp at hi hj
     subst hi hj
     injection e1 with e1 _
     injection e2 with e2 _
     simp[e1,e2]
   rw[hl]
   refine⟨?_,fun t' k=>?_⟩
   ·exact all_eq_true.mp (all_eq_true.mp c6v a ha) b hb
   ·refine K t' _ more ⟨fun x o hx e=>?_,fun hbare=>?_,?_,?_⟩ ?_ ?_
    ·have hx8:x≠873:=fun e'=>hx (e'▸.head _)
     refine hm.heap x o (fun hmem=>?_) (aC x o (m9 x o hx8 (kpI.hk x o (kp.hk x o e))))
     rcases a0o hmem with rfl | hmem
     ·exact nsn hC e
     ·rw[zS hmem,hI0]at e;cases e
    ·have oF:AllBare g0.gens:=by obtain⟨h1,t1,e1,_⟩:=kp;rw[e1];exact hbare
     exact(AllBare.push oF hgb).moved hm.gens
    ·have:g0.drawn=s.drawn:=by obtain⟨h1,t1,e1,_⟩:=kp;rw[e1]
     exact hm.drawn.trans this
    ·have:g0.os=s.os:=by obtain⟨h1,t1,e1,_⟩:=kp;rw[e1]
     exact hm.os.trans this
    ·have iE:=uB.keeps aC
     have hold:∀x o,(∃o',s.heap.get? x=some o')→k6.get? x=some o→s'.heap.get? x=some o:=fun x o hx e=>hm.heap x o (fun hmem=>by
      obtain⟨o',ex⟩:=hx
      rcases a0o hmem with rfl | hmem
      ·exact nsn hC ex
      ·rw[zS hmem,hI0]at ex;cases ex) e
     exact b6c iE (fun o ho=>hold _ _ (b3g hps).1 ho) fun o ho=>hold _ _ ⟨_,hpt⟩ ho
    ·refine hm.heap 873 _ (fun hmem=>?_) (aC _ _ fE.2)
     rcases zC hmem with e | hmem
     ·rw[←e,hpt]at hC;cases hC
     ·rw[←zS hmem,hpt]at hI0;cases hI0
end
end
section
open PySem.SeqAt
noncomputable def without (h:Heap) (a:Addr):Heap:=h.update a fun o=>{o with data:=.freed}
theorem a6f (h:Heap) (a:Addr):(without h a).get? a=none:=by
 obtain⟨objs,l⟩:=h
 unfold Heap.get?
 rw[show(without ⟨objs,l⟩ a).objs[a]? =(objs[a]?).map fun o=>{o with data:=.freed}from by
  refine(Array.getElem?_modify:(objs.modify a fun o=>{o with data:=.freed})[a]? =_).trans ?_
  rw[if_pos rfl]]
 cases objs[a]? <;> rfl
theorem a4k (h:Heap) {a b:Addr} (hab:b≠a):(without h a).get? b=h.get? b:=Heap.get?_update_ne _ _ _ _ hab
section
variable {n:Nat} {s:Shared}
theorem Stt.open {a:Addr} {q:Obj→Prop} (t:Stt G H env own W i0 ρ ol j0 s) (hT:TF G (without H a)) (hW:a∉W) (hM:a∉i0) (he:s.heap.get? a=some o) (hq:q o) (hns:∀T vs n,o≠{cls:=.type T,data:=.seq vs n}):Stt G (without H a) env own (a::W) i0 ρ ((a,.raw q)::ol) j0 s:=by
 have up:∀x (T:String) (vs:Array Value) n,vis s.heap (W++i0) x=some {cls:=.type T,data:=.seq vs n}→vis s.heap ((a::W)++i0) x=some {cls:=.type T,data:=.seq vs n}:=fun x T vs n e=>by
  clear n vs T hM q
  obtain⟨e1,e2⟩:=a0b e
  refine a0v e1 fun hm=>?_
  rcases zA hm with h | h
  ·rcases a0o h with rfl | h
   ·rw[he]at e1;cases e1;exact hns _ _ _ rfl
   ·exact e2 (zB (.inl h))
  ·exact e2 (zB (.inr h))
 refine⟨t.kp.grow fun b hb=>.tail _ hb,hT,fun b o e=>?_,fun b hb=>?_,t.kind,t.glob,t.bi,t.cs,t.ow,?_,fun b hb=>.tail _ (t.sub b hb),fun b hb=>?_,fun p hp=>?_,?_⟩
 ·clear n vs T hns hM hT q
  by_cases hb:b=a
  ·subst hb;rw[a6f]at e;cases e
  ·rw[a4k _ hb]at e;exact t.kH b o e
 ·clear n vs T hns hM hT q
  rcases a0o hb with rfl | hb
  ·exact a6f _ _
  ·have:b≠a:=fun e=>hW (e▸hb)
   rw[a4k _ this];exact t.fH b hb
 ·clear n vs T hns hM hT q
  obtain⟨vm,F,h⟩:=t.fm
  exact⟨vm,F,fun x d e=>let⟨h1,v,h2,h3⟩:=h x d e;⟨h1,v,h2,h3.monoS up⟩⟩
 ·clear n vs T x hns hM hT q
  rcases zA hb with h | h
  ·rcases a0o h with rfl | h
   ·exact⟨o,he⟩
   ·exact t.mem b (zB (.inl h))
  ·exact t.mem b (zB (.inr h))
 ·clear n vs T x hns hM hT q
  rcases a0o hp with rfl | hp
  ·exact⟨.head _,fun hm=>hW (t.sub _ hm),o,he,hq⟩
  ·clear hq he
   obtain⟨a',b,o,e,r⟩:=t.ls p hp
   exact⟨.tail _ a',b,o,e,r.map fun _ _ d=>d.monoS up⟩
 ·rw[map_cons,nodup_cons]
  refine⟨fun hm=>?_,t.lsn⟩
  clear n vs T x up hns hq he hM hT q
  obtain⟨p,hp,e⟩:=zM hm
  have e':p.1=a:=e
  exact hW (e'▸(t.ls p hp).wW)
theorem Ev.lenO {x:Str} {a:Addr} {np cp:Pos} (hx:env.kindOf "len"=some .globalImplicit) (hg:G.glb "len"=some none) (hv:ρ.lookup x=some (.val (.ref a))) (ho:(a,Ob.list ds)∈G.ob) (hl:ds.length < 2 ^ 62)
  (he:starEach [.Name x ap] env=(false,eval (.Name x ap) env)::starEach [] env:=by rfl) (hd:(x == ("__debug__":Str))=false:=by decide) (hn:(x == ("__classdict__":Str))=false:=by decide):
  Ev prog w G n env ρ (.Call (.Name "len" np) [.Name x ap] [] cp) (dn ds.length):=
 fun A M s Q E rm c K=>by
  refine wpAny_Call_NameR (a1v (v:=.builtin "len") c.kind c.glob c.bi c.top hx hg ∅ (by decide) (Calls.callWith_builtin (EvL.one (Ev.name (prog:=prog) (w:=w) (G:=G) (n:=n) hv hd hn) he).plain (a0p (.one (.name hv hd hn) he) (by simp) rm c fun vs g0 l0 dvs=>?_)) (by decide))
  cases dvs with
  | cons d0 d1=>
   cases d1
   cases d0
   obtain⟨o,e,vs,ep,rfl,r⟩:=(c.keeps l0).obs _ ho
   have:=b0y (prog:=prog) (w:=w) (G:=G) (n:=n) (ds:=ds) (by omega) A [] g0 (.ref a) Q E rm (c.keeps l0).top (fun b hb=>absurd hb not_mem_nil)
   refine this (.list (a0v e not_mem_nil) (r.mono fun x o e=>a0v (a0b e).1 not_mem_nil)) fun v s' k dv=>?_
   cases dv
   exact K _ _ (l0.trans k) (.int _ _)
end
end
section
open PySem.SeqAt
noncomputable def a1k.on (G:a1k):a1k:=⟨G.glb,G.K,G.ob,true⟩
noncomputable def qT (p0:Array Value) (o:Obj):Prop:=∃more,o=tbO (p0++more)∧TriplesOk (p0++more).toList
structure GT (G:a1k):Prop where
 ck:∀(h:Heap) op ps,(∀a o,G.objs a=some o→h.get? a=some o)→h.get? 873=some op→op.data= .fields ps→TriplesOk ps.toList→h.IsCode 877 873 ps
 packed:a9e G 896 "_law_packed" (a4t (stm 38)) (a2b (stm 38)) (a0a (stm 38)) .none .none
 joinS:G.glb "join_shlex"=some (some (.ref 878))
noncomputable def cnt (x:Nat):Nat:=(((List.range 4).filter fun k=>decide (64 ^ k≤x) || k == 0).map (· +1)).foldl max 0
noncomputable def a4z (x c k len:Nat):Nat:=x / 64 ^ (c - 1 - k) % 64+(if k+1 < c then 64 else 0)+128 * (len % 3 / 2)
noncomputable def a7d (x c:Nat) (o:List Nat):Nat→List Nat
 | 0=>o
 | k+1=>let p:=a7d x c o k;p++[a4z x c k p.length]
noncomputable def a7c (o:List Nat) (x:Nat):List Nat:=a7d x (cnt x) o (cnt x)
noncomputable def a2a (j:Job):Str:=a1o j.a j.b
noncomputable def numsOf (j:Job):List Nat:=[(a2a j).length]++(a2a j).cps.toList++[j.ns.length]++j.ns
noncomputable def c1q (o:List Nat) (j:Job):List Nat:=(numsOf j).foldl a7c o
noncomputable def a1n (jobs:List Job) (i:Nat):List Nat:=(jobs.take i).foldl c1q []
noncomputable def a1x (jobs:List Job) (i:Nat):List Nat:=(List.range i).map fun k=>(a1n jobs (k+1)).length
section
theorem a2e {h:Heap} {c P:Addr} (x:h.IsCode c P ps):∃o,h.get? P=some o∧o.data= .fields ps∧TriplesOk ps.toList:=by
 obtain⟨o,vs,file,tf,flags,tg,inF,text,tt,op,ho,hd,h11,h2,h7,h9,h10,hop,hpd,htr,hne⟩:=x
 exact⟨op,hop,hpd,htr⟩
theorem c4v (hG:GOk G) (hQ:GQ G) (hJ:GJ G) (hT:GT G) {s:Shared} {Q:Flow→Shared→Prop} {a b:Str} (ha:a∈a0n) (hb:b∈a0n) {x px jp wp cp pos}
  {p0:Array Value} (t:Stt G.on H env own W i0 ρ ((873,.raw (qT p0))::ol) j0 s) (rm:Rm A 5) (hk:env.kindOf "join_shlex"=some .globalImplicit) (hw:ρ.lookup ("words":Str)=some (.list [.str a,.str b])) (hx:Lo env own x)
  (hs:swapsWith (.Call (.Name "join_shlex" jp) [.Name "words" wp] [] cp) (some (.Name x px)) pos.line env=pure false)
  (K:∀s',Stt G.on H env own W i0 ((x,.str (a1o a b))::ρ) ((873,.raw (qT p0))::ol) j0 s'→Q .next s'):wpAny (model prog w) A (exec (.Assign [.Name x px] (.Call (.Name "join_shlex" jp) [.Name "words" wp] [] cp) pos) env) Q E s:=by
 obtain⟨o,fd,ho,hd,_⟩:=hJ.code
 have T:TF G s.heap:=t.top.objs |> fun h=>⟨t.top.g,t.top.b,t.top.lim,h⟩
 refine wpAny_Assign_Name (wpAny_Call_NameR (a1i (G:=G) t.kind t.glob T hk hT.joinS (Calls.callWith_function (o:=o) (fd:=fd) (a0p (n:=5) (.one (.name (d:=.list [.str a,.str b]) hw)) (by simp) rm t.cd fun vs g0 l0 dvs=>?_)) (by decide))) hs
 have w0:=t.keeps l0
 have sE:TF G g0.heap:=T.keeps l0.hk
 refine⟨⟨sE.objs _ _ ho,hd⟩,?_⟩
 cases dvs with
 | cons d0 d1=>
 cases d1
 obtain⟨a1,a2,o8,e8,ps,rfl,htr⟩:=w0.ls _ (.head _)
 refine c6u hG hQ hJ ha hb rm sE w0.mem d0 (hT.ck _ _ _ sE.objs e8 rfl htr) e8 fun tk u0 mo y1 f9 e9=>?_
 obtain⟨o9,e9',d9,tr9⟩:=a2e f9
 have z0:=w0.set1 (s':=u0) (ob':=.raw (qT p0)) y1 e9 ⟨ps++mo,by rw[Array.append_assoc],by rw[←Array.append_assoc];exact tr9⟩
 exact z0.put hx (.str _ _) fun s' t' _=>K s' t'
theorem a6k (x c:Nat) (o:List Nat):∀k,(a7d x c o k).length=o.length+k:=by
 intro v'
 induction v' with
 | zero=>
  exact rfl
 | succ k ih'=>
  show(a7d x c o k++[_]).length=_;rw[length_append,ih'];rfl
theorem b4n (x:Nat):1≤cnt x∧cnt x≤4:=by
 simp only[cnt,show List.range 4=[0,1,2,3]from rfl,filter_cons,List.filter_nil]
 cases decide (64 ^ 1≤x) <;> cases decide (64 ^ 2≤x) <;> cases decide (64 ^ 3≤x) <;> simp
theorem a7o (l:List Nat):∀o:List Nat,(l.foldl a7c o).length≤o.length+4 * l.length:=by
 induction l with
 | nil=>intro o;simp
 | cons x l ih=>
  intro o
  rw[foldl_cons]
  have h1:=ih (a7c o x)
  have h2:(a7c o x).length=o.length+cnt x:=a6k _ _ _ _
  have h3:=(b4n x).2
  rw[length_cons];omega
theorem a9s {a b:Str} (ha:a∈a0n) (hb:b∈a0n):(a1o a b).length≤60:=by
 have h:(a0n.all fun a=>a0n.all fun b=>decide ((a1o a b).length≤60))=true:=by decide +kernel
 exact of_decide_eq_true (all_eq_true.mp (all_eq_true.mp h a ha) b hb)
theorem b8i (x c k len:Nat) (h:k < c):((x:Int).fdiv ((64:Int) ^ ((c:Int) - 1 - k).toNat)).fmod 64+(if k+1 < c then 64 else 0)+128 * ((len:Int).fmod 3).fdiv 2=((a4z x c k len:Nat):Int):=by
 have e:((c:Int) - 1 - k).toNat=c - 1 - k:=by omega
 rw[e,a4z]
 rw[Int.fdiv_eq_ediv_of_nonneg _ (by exact_mod_cast Nat.zero_le (64 ^ (c - 1 - k))),Int.fmod_eq_emod_of_nonneg _ (by decide),Int.fmod_eq_emod_of_nonneg _ (by decide),Int.fdiv_eq_ediv_of_nonneg _ (by decide)]
 push_cast
 split <;> simp
theorem a2x.nums {jobs:List Job} {j:Job} (ha:j.a∈a0n) (hb:j.b∈a0n) (hn:j.ns.length≤5):(numsOf j).length≤70:=by
 have:=a9s ha hb
 simp only[numsOf,length_append,length_cons,length_nil,length_toList]
 have e:(a2a j).cps.size=(a1o j.a j.b).length:=rfl
 omega
theorem Stt.rot {s:Shared} {a b c:Addr×Ob} (t:Stt G H env own W i0 ρ [a,b,c] j0 s):Stt G H env own W i0 ρ [b,c,a] j0 s:=by
 have hn3:=t.lsn
 refine t.perm (fun p hp=>?_) ?_
 ·simp only[mem_cons,not_mem_nil,or_false]at hp ⊢
  rcases hp with h | h | h
  ·exact .inr (.inl h)
  ·exact .inr (.inr h)
  ·exact .inl h
 ·simp only[map_cons,map_nil,nodup_cons,mem_cons,not_mem_nil,or_false,not_or,not_false_eq_true,nodup_nil,and_true]at hn3 ⊢
  exact⟨⟨hn3.2,fun e=>hn3.1.1 e.symm⟩,fun e=>hn3.1.2 e.symm⟩
theorem c5x {n a:Nat}:Op2 prog w G n (compareOp .Eq) (dn a) (.int 0) (.bool (a == 0)):=c3w (b:=0)
theorem c9e {n:Nat} (x:Nat):Op1 prog w G n (fun a=>call (.builtin "max") [a]) (.list (((List.range 4).filter fun k=>decide (64 ^ k≤x) || k == 0).map fun k=>dn (k+1))) (dn (cnt x)):=by
 have hc:=b4n x
 unfold cnt at hc ⊢
 generalize hL:((List.range 4).filter fun k=>decide (64 ^ k≤x) || k == 0).map (· +1)=L at hc ⊢
 have e:(((List.range 4).filter fun k=>decide (64 ^ k≤x) || k == 0).map fun k=>dn (k+1))=(L.map fun n:Nat=>(n:Int)).map D.int:=by rw[←hL,map_map,map_map];rfl
 rw[e]
 have hm:L.foldl max 0∈L:=by
  rcases a3t L 0 with h | h
  ·rw[h]at hc;omega
  ·exact h
 refine c3v (by rw[length_map];exact List.length_pos_of_mem hm) (zN ⟨_,hm,rfl⟩) ?_
 intro a ha
 obtain⟨y,hy,rfl⟩:=zM ha
 have:=(a4i L 0).2 y hy;omega
structure a2x (jobs:List Job):Prop where
 len:jobs.length≤5
 a:∀j∈jobs,j.a∈a0n
 b:∀j∈jobs,j.b∈a0n
 ns:∀j∈jobs,j.ns.length≤5∧∀n∈j.ns,n < 5
theorem a8t {jobs:List Job} {i:Nat} {j:Job} (h:jobs[i]? =some j):a1n jobs (i+1)=c1q (a1n jobs i) j:=by
 rw[a1n,take_add_one,h,foldl_append];rfl
theorem a4f {jobs:List Job} (hj:a2x jobs):∀i,(a1n jobs i).length≤300 * i:=by
 intro v'
 induction v' with
 | zero=>
  simp[a1n]
 | succ i ih'=>
  have ih:=ih'
  cases h:jobs[i]? with
  | none=>
   have:a1n jobs (i+1)=a1n jobs i:=by rw[a1n,take_add_one,h];simp[a1n]
   rw[this];omega
  | some j=>
   rw[a8t h]
   have hm:=mem_of_getElem? h
   have h1:=a7o (numsOf j) (a1n jobs i)
   have h2:=a2x.nums (jobs:=jobs) (hj.a j hm) (hj.b j hm) (hj.ns j hm).1
   show(List.foldl a7c (a1n jobs i) (numsOf j)).length≤_
   omega
noncomputable def D.nth (d:D) (i:Nat):D:=match d with
 | .tuple l=>(l[i]?).getD .none
 | _=>.none
noncomputable def d0r (f:Stmt):Expr:=((a2b f).getLast?.bind fun s=>(stP s).2.2.2).getD (.Constant .none 0 ⟨0,0,0,0⟩)
noncomputable def a3d (jobs:List Job) (lack:Nat):List Nat:=(a1n jobs jobs.length).take ((a1n jobs jobs.length).length - lack)
noncomputable def a3h (jobs:List Job) (lack:Nat):Nat:=((a1x jobs jobs.length).filter fun x=>decide (x≤(a3d jobs lack).length)).length
theorem b7u (hG:GOk G) (hQ:GQ G) (hJ:GJ G) (hT:GT G) {jobs:List Job} (hj:a2x jobs) {lack:Nat} (hlack:lack≤(a1n jobs jobs.length).length) {s:Shared} {v1 v2:Value} (rm:Rm A 6) (T:TF G s.heap)
  (hm:∀b∈M,∃o,s.heap.get? b=some o) (hM8:873∉M) (dv:DRs (vis s.heap M) [v1,v2] [.list (jobs.map a2n),dn lack]) (hps:s.heap.IsCode 877 873 ps) (e8:s.heap.get? 873=some (tbO ps))
  (K:∀v s' more,Kw true [873] s s'→s'.heap.IsCode 877 873 (ps++more)→s'.heap.get? 873=some (tbO (ps++more))→DR (vis s'.heap M) v (.tuple [a1l (a3d jobs lack),dn (a3h jobs lack)])→Q v s'):wpAny (model prog w) A (call (.ref 896) [v1,v2]) Q E s:=by
 have Ton:TF G.on s.heap:=⟨T.g,T.b,T.lim,T.objs⟩
 cases dv with
 | cons da db=>
 clear dv dv
 cases db with
 | cons db dc=>
 cases dc
 refine a0u (G:=G.on) (n:=5) (args:=⟨[_,_],[]⟩) (ρ:=[("jobs",_),("lacking",_)]) (binds:=[("jobs",_),("lacking",_)]) ⟨hT.packed.fn⟩ rm Ton hm (fun name doc pm an cdv ct=>BindsTo.of_eq rfl) rfl (.cons da (.cons db .nil)) (fun x hx=>by
   rcases a0o hx with rfl | hx
   ·exact .inl ∅
   ·rw[zS hx];exact .inl ∅) (a0d ∅) (by decide +kernel) (a0d ∅) ?_ ∅ ∅ ∅
 intro L cd g0 hL t hW
 walk_at "q"
 clear hL hL
 obtain⟨o8,e8',d8,tr8⟩:=a2e hps
 have h8W:873∉fms (fnv "_law_packed" (a0a (stm 38)) L 896 cd) (cellsFrom (L+1) (a0a (stm 38)).names []):=fun hm=>by exact nsn (hW _ hm) e8
 have e81:g0.heap.get? 873=some (tbO ps):=t.kH _ _ e8
 have TW:TF G (without s.heap 873):=T.ext hJ.no hps fun b o hb e=>by rw[a4k _ hb];exact e
 have w0:=t.open (a:=873) (q:=qT ps) ⟨TW.g,TW.b,TW.lim,TW.objs⟩ h8W hM8 e81 ⟨#[],by simp,by simpa using tr8⟩ (fun T vs n e=>by cases e)
 have hg:=hG.glb
 have hg':∀ob x v,d1u.lookup x=some v→((G.on).at ob).glb x=some v:=fun _=>hG.glb
 have rm':=rm.deeper (fnv "_law_packed" (a0a (stm 38)) L 896 cd)
 walk_at "x"
 refine a4y w0 rm' (.inl ∅) ∅ ?_
 intro ao u0 hfo z0
 clear u0 g0 hM8 rm
 obtain⟨fo1,fo2,fo3,fo4⟩:=w0.fresh_of hfo
 walk_at "x"
 refine a4y z0 rm' (.inl ∅) ∅ ?_
 intro aw y2 hfw j1
 clear y2 w0
 obtain⟨fw1,fw2,fw3,fw4⟩:=z0.fresh_of hfw
 walk_at "x"
 refine a6w (G:=G.on) (ds:=jobs.map a2n) (fun i y0 x0=>y0=([("octets",.val (.ref ao)),("wholes",.val (.ref aw)),("lacking",dn lack),("jobs",.list (jobs.map a2n))]:List (Str×D))∧x0=[(aw,.list (a0i (a1x jobs i))),(ao,.list (a0i (a1n jobs i))),(873,.raw (qT ps))])
  (fun d=>[("words",d.nth 0),("needs",d.nth 1)]) (j1.pick (.cons ∅ (.cons ∅ (.cons ∅ (.cons ∅ .nil))))) rm' (It.list (.name ∅)) (fun d hd=>?bd) ⟨rfl,rfl⟩ ?turn ?_
 case bd=>
  clear j1 z0
  obtain⟨j,hj',rfl⟩:=zM hd
  exact .pair (by decide) (.inl ∅) (.inl ∅)
 case turn=>
  clear j1 z0
  rintro j4 i d y0 x0 l3 E' hd ⟨rfl,rfl⟩ t
  obtain⟨j,hji,rfl⟩:∃j,jobs[i]? =some j∧a2n j=d:=by rw[getElem?_map]at hd;exact map_eq_some_iff.mp hd
  have hjm:=mem_of_getElem? hji
  have hn3:=t.lsn
  have ta:Stt G.on (without s.heap 873) (fnv "_law_packed" (a0a (stm 38)) L 896 cd) (cellsFrom (L+1) (a0a (stm 38)).names []) (aw::ao::873::fms (fnv "_law_packed" (a0a (stm 38)) L 896 cd) (cellsFrom (L+1) (a0a (stm 38)).names [])) j4 ([("words",.list [.str j.a,.str j.b]),("needs",a1l j.ns),("octets",.val (.ref ao)),("wholes",.val (.ref aw)),("lacking",dn lack),("jobs",.list (jobs.map a2n))]:List (Str×D)) [(873,.raw (qT ps)),(ao,.list (a0i (a1n jobs i))),(aw,.list (a0i (a1x jobs i)))] l3 l3:=by
   refine(t.perm (fun p hp=>?_) ?_).pick (.cons ∅ (.cons ∅ (.cons ∅ (.cons ∅ (.cons ∅ (.cons ∅ .nil))))))
   ·simp only[mem_cons,not_mem_nil,or_false]at hp ⊢
    clear t s
    rcases hp with h | h | h
    ·exact .inr (.inr h)
    ·exact .inr (.inl h)
    ·exact .inl h
   ·simp only[map_cons,map_nil,nodup_cons,mem_cons,not_mem_nil,or_false,not_or,not_false_eq_true,nodup_nil,and_true]at hn3 ⊢
    exact⟨⟨fun e=>hn3.2 e.symm,fun e=>hn3.1.2 e.symm⟩,fun e=>hn3.1.1 e.symm⟩
  walk_at "x"
  refine c4v hG hQ hJ hT (hj.a j hjm) (hj.b j hjm) ta rm' ∅ ∅ (.inl ∅) ∅ ?_
  intro y3 u1
  have hll:=a9s (hj.a j hjm) (hj.b j hjm)
  have hnl:=(hj.ns j hjm).1
  have hpA:(a1n jobs i).length≤300 * i:=a4f hj i
  have hi5:i < 5:=Nat.lt_of_lt_of_le (List.getElem?_eq_some_iff.mp hji).1 hj.len
  have hnm:=a2x.nums (jobs:=jobs) (hj.a j hjm) (hj.b j hjm) hnl
  walk_at "x"
  refine a6w (G:=G.on) (ds:=(numsOf j).map dn) (fun i2 y0 x0=>y0=([("octets",.val (.ref ao)),("wholes",.val (.ref aw)),("lacking",dn lack),("jobs",.list (jobs.map a2n)),("line",.str (a1o j.a j.b)),("needs",a1l j.ns)]:List (Str×D))∧x0=[(ao,.list (a0i (((numsOf j).take i2).foldl a7c (a1n jobs i)))),(aw,.list (a0i (a1x jobs i))),(873,.raw (qT ps))])
   (fun d=>[("number",d)]) (u1.rot.pick (.cons ∅ (.cons ∅ (.cons ∅ (.cons ∅ (.cons ∅ (.cons ∅ .nil))))))) rm' ?src (fun d hd=>.name (.inr (a2w ∅))) ⟨rfl,rfl⟩ ?turn2 ?_
  case src=>
   refine It.cast (It.list (.op (.op (.op (.list (.one (.callB ∅ (hg _ _ ∅) ∅ (by decide) (.one (.name (d:=.str (a1o j.a j.b)) ∅)) (b8b (by omega)))))
    (Ev.compA (α:=Nat) (xs:=(a1o j.a j.b).cps.toList) (g:=fun c=>D.str ⟨#[c]⟩) (ρ':=[]) (It.str (.name ∅)) ?h1 (Sc.of (by rfl) ∅ ∅ .nil) dn (fun c=>[("sign",.str ⟨#[c]⟩)]) (fun d _=>.name (.inl ∅)) (fun C cells c hc=>?h2)) (a7h ?h3))
    (.list (.one (.callB ∅ (hg _ _ ∅) ∅ (by decide) (.one (.name (d:=a1l j.ns) ∅)) (a4g (m:=j.ns.length) (by simp[a0i]) (by omega))))) (a7h ?h4)) (.name (d:=a1l j.ns) ∅) (a7h ?h5))) ?h6
   case h1=>rw[length_toList,sizeLine_eq];have e:(a1o j.a j.b).cps.size=(a1o j.a j.b).length:=rfl;omega
   case h2=>exact .callB ∅ (hg _ _ ∅) ∅ (by decide) (.one (.name (d:=.str ⟨#[c]⟩) ∅)) (c8z rfl)
   case h3=>simp only[length_map,length_cons,length_nil,length_toList,sizeLine_eq];have e:(a1o j.a j.b).cps.size=(a1o j.a j.b).length:=rfl;omega
   case h4=>simp only[length_append,length_map,length_cons,length_nil,length_toList,sizeLine_eq];have e:(a1o j.a j.b).cps.size=(a1o j.a j.b).length:=rfl;omega
   case h5=>simp only[length_append,length_map,length_cons,length_nil,length_toList,sizeLine_eq,a0i];have e:(a1o j.a j.b).cps.size=(a1o j.a j.b).length:=rfl;omega
   case h6=>simp[numsOf,a2a,a0i,dn]
  case turn2=>
   clear t s hJ hQ hG
   rintro aH i2 d2 l4 u4 i5 bH hd2 ⟨rfl,rfl⟩ z2
   obtain⟨x,hx2,rfl⟩:∃x,(numsOf j)[i2]? =some x∧dn x=d2:=by rw[getElem?_map]at hd2;exact map_eq_some_iff.mp hd2
   have hi2:=(List.getElem?_eq_some_iff.mp hx2).1
   have hoL:(((numsOf j).take i2).foldl a7c (a1n jobs i)).length≤2000:=by
    have h1:=a7o ((numsOf j).take i2) (a1n jobs i)
    rw[length_take]at h1;omega
   generalize ho:((numsOf j).take i2).foldl a7c (a1n jobs i)=o at hoL z2
   walk_at "x"
   refine a1w z2 rm' (d:=dn (cnt x)) (Ev.callB (id:="max") ∅ (hg' _ _ _ ∅) ∅ (by decide) (.one (Ev.comp (α:=Nat) (xs:=List.range 4) (g:=dn) (ρ':=[("number",dn x)]) (It.rangeN (N:=4) ∅ (hg' _ _ _ ∅) .int (by decide)) (by decide)
    (Sc.of (by rfl) ∅ ∅ (.cons ∅ ∅ .nil)) (fun k=>decide (64 ^ k≤x) || k == 0) (fun k=>dn (k+1)) (fun k=>[("k",dn k)]) (fun d _=>.name (.inl ∅))
    (fun C cells k hk=>?h1) (fun C cells k hk _=>.op (.name (d:=dn k) ∅) .int b2m))) ?h2) (.inl ∅) ∅ ?_
   case h1=>
    refine Ts.or2 (Ts.cast (Ts.cmp (.name (d:=dn x) ∅) (.op .int (.name (d:=dn k) ∅) (b7y (by omega) (by have:=mem_range.mp hk;omega) (by decide))) b5m) ?_) fun _=>Ts.cmp (.name (d:=dn k) ∅) .int c5x
    rw[decide_eq_decide]
    show(64:Int) ^ k≤(x:Int)↔_
    exact_mod_cast Iff.rfl
   case h2=>exact c9e x
   intro i4 j3
   have hcn:=b4n x
   walk_at "x"
   refine a6w (G:=G.on) (ds:=(List.range (cnt x)).map dn) (fun i3 y0 x0=>y0=([("count",dn (cnt x)),("number",dn x),("octets",.val (.ref ao)),("wholes",.val (.ref aw)),("lacking",dn lack),("jobs",.list (jobs.map a2n)),("line",.str (a1o j.a j.b)),("needs",a1l j.ns)]:List (Str×D))∧x0=[(ao,.list (a0i (a7d x (cnt x) o i3))),(aw,.list (a0i (a1x jobs i))),(873,.raw (qT ps))])
    (fun d=>[("k",d)]) (j3.pick (.cons ∅ (.cons ∅ (.cons ∅ (.cons ∅ (.cons ∅ (.cons ∅ (.cons ∅ (.cons ∅ .nil))))))))) rm' (It.rangeN ∅ (hg' _ _ _ ∅) (.name ∅) (by omega)) (fun d hd=>.name (.inl ∅)) ⟨rfl,rfl⟩ ?turn3 ?_
   case turn3=>
    rintro bI i3 d3 b8 pH d6 cI hd3 ⟨rfl,rfl⟩ z3
    obtain⟨k,hk3,rfl⟩:∃k,(List.range (cnt x))[i3]? =some k∧dn k=d3:=by rw[getElem?_map]at hd3;exact map_eq_some_iff.mp hd3
    have hi3:i3 < cnt x:=by have:=(List.getElem?_eq_some_iff.mp hk3).1;simpa using this
    have hk:k=i3:=by rw[List.getElem?_range hi3]at hk3;exact(Option.some.inj hk3).symm
    subst hk
    have hol:=a6k x (cnt x) o k
    refine a2m z3 rm' (d:=.int (if k+1 < cnt x then 64 else 0)) (Ev.ite (b:=decide (k+1 < cnt x)) (Ts.cmp (.op (.name (d:=dn k) ∅) .int b2m) (.name (d:=dn (cnt x)) ∅) b0x) (fun hb=>Ev.cast .int (by rw[if_pos (of_decide_eq_true hb)])) (fun hb=>Ev.cast .int (by rw[if_neg (of_decide_eq_false hb)]))) (.inl ∅) ∅ ?_
    intro j6 w4
    walk_at "x"
    refine a6x w4 rm' ∅ (d:=dn (a4z x (cnt x) k (a7d x (cnt x) o k).length)) (Ev.cast (.op (.op (.op (.op (.name (d:=dn x) ∅) (.op .int (.op (.op (.name (d:=dn (cnt x)) ∅) .int b7w) (.name (d:=dn k) ∅) b7w) (b7y ?h1 ?h2 (by decide))) (a8w ?h3 ?h4)) .int (a7f (by decide))) (.name (d:=.int (if k+1 < cnt x then 64 else 0)) ∅) b0z)
     (.op .int (.op (.op (.lenO (ds:=a0i (a7d x (cnt x) o k)) ∅ (hg' _ _ _ ∅) ∅ (.head _) ?h5) .int (a7f (by decide))) .int (a8w (by decide) (by decide))) (c9b ?h6)) b0z) ?h7) ?h8 ?_
    case h1=>omega
    case h2=>omega
    case h3=>
     have e:(((cnt x:Nat):Int) - 1 - (k:Int)).toNat < 4:=by omega
     have:(((cnt x:Nat):Int) - 1 - (k:Int)).toNat=0∨(((cnt x:Nat):Int) - 1 - (k:Int)).toNat=1∨(((cnt x:Nat):Int) - 1 - (k:Int)).toNat=2∨(((cnt x:Nat):Int) - 1 - (k:Int)).toNat=3:=by omega
     clear w4 j6
     rcases this with h | h | h | h <;> rw[h] <;> decide
    case h4=>
     have:(((cnt x:Nat):Int) - 1 - (k:Int)).toNat=0∨(((cnt x:Nat):Int) - 1 - (k:Int)).toNat=1∨(((cnt x:Nat):Int) - 1 - (k:Int)).toNat=2∨(((cnt x:Nat):Int) - 1 - (k:Int)).toNat=3:=by omega
     clear w4 j6
     rcases this with h | h | h | h <;> rw[h] <;> decide
    case h5=>rw[a0i,length_map,hol];omega
    case h6=>
     exact IntMulOk.of_left (by decide)
    case h7=>rw[a0i,length_map,b8i x (cnt x) k _ hi3];rfl
    case h8=>rw[a0i,length_map,hol,sizeLine_eq];omega
    intro a6 d5
    refine wpAny_execs_nil ⟨rfl,_,_,⟨rfl,?_⟩,d5.pick (.cons ∅ (.cons ∅ (.cons ∅ (.cons ∅ (.cons ∅ (.cons ∅ (.cons ∅ (.cons ∅ .nil))))))))⟩
    simp[a7d,a0i]
   rintro vE aF d6 ⟨rfl,rfl⟩ z3
   rw[length_map,length_range]at z3
   refine wpAny_execs_nil ⟨rfl,_,_,⟨rfl,?_⟩,z3.pick (.cons ∅ (.cons ∅ (.cons ∅ (.cons ∅ (.cons ∅ (.cons ∅ .nil))))))⟩
   rw[take_add_one,hx2,foldl_append,ho];rfl
  clear t s hJ hQ hG
  rintro vE aF i5 ⟨rfl,rfl⟩ z2
  rw[length_map,take_length]at z2
  have hlenP:(List.foldl a7c (a1n jobs i) (numsOf j))=a1n jobs (i+1):=(a8t hji).symm
  rw[hlenP]at z2
  have hpB:=a4f hj (i+1)
  walk_at "x"
  refine a6x z2.swap rm' ∅ (d:=dn (a1n jobs (i+1)).length) (Ev.cast (.lenO (ds:=a0i (a1n jobs (i+1))) ∅ (hg' _ _ _ ∅) ∅ (.tail _ (.head _)) (by rw[a0i,length_map];omega)) (by rw[a0i,length_map])) (by simp[a0i,a1x,sizeLine_eq];omega) ?_
  intro i4 j3
  refine wpAny_execs_nil ⟨rfl,_,_,⟨rfl,?_⟩,j3.pick (.cons ∅ (.cons ∅ (.cons ∅ (.cons ∅ .nil))))⟩
  simp[a1x,List.range_succ,a0i]
 clear j1 z0 s hJ hQ hG
 rintro y0 x0 l3 ⟨rfl,rfl⟩ z1
 rw[length_map]at z1
 have hpL:=a4f hj jobs.length
 have hjl:=hj.len
 have u1:=((z1.freeze (x:="wholes") ∅ fw4 fw2).freeze (x:="octets") ∅ fo4 fo2)
 refine a2m u1 rm' (d:=a1l (a3d jobs lack)) (Ev.cast (Ev.sliceT (ds:=a0i (a1n jobs jobs.length)) (lo':=none) (hi':=some (((a1n jobs jobs.length).length - lack:Nat):Int)) (.name ∅) trivial (Ev.cast (Ev.op (Ev.callB (id:="len") ∅ (hg' _ _ _ ∅) ∅ (by decide) (.one (.name (d:=.list (a0i (a1n jobs jobs.length))) ∅)) (a4g (m:=(a1n jobs jobs.length).length) (by simp[a0i]) (by omega))) (.name (d:=dn lack) ∅) b7w) (by rw[Int.ofNat_sub hlack])) (by rw[a0i,length_map,sizeLine_eq];omega) (b2j _)) (by simp[a3d,a1l,a0i,List.map_take])) (.inr (a2w ∅)) ∅ ?_
 intro y3 z2
 have hll:(a3d jobs lack).length≤1500:=by rw[a3d,length_take];omega
 have hwl:(a1x jobs jobs.length).length≤5:=by rw[a1x,length_map,length_range];exact hjl
 walk_at "x"
 refine wpAny_Return_some ?_
 have ev:Ev prog w ((G.on).at [(873,.raw (qT ps))]) 5 (fnv "_law_packed" (a0a (stm 38)) L 896 cd) ([("left",a1l (a3d jobs lack)),("wholes",.list (a0i (a1x jobs jobs.length)))]:List (Str×D)) (d0r (stm 38)) (.tuple [a1l (a3d jobs lack),dn (a3h jobs lack)]):=by
  refine .tuple (.cons (.name ∅) (by rfl) (.one (Ev.callB (id:="len") ∅ (hg' _ _ _ ∅) ∅ (by decide) (.one (Ev.comp (α:=Nat) (xs:=a1x jobs jobs.length) (g:=dn) (ρ':=[("left",a1l (a3d jobs lack))]) (It.list (.name ∅)) (Nat.le_trans hwl (by decide))
   (Sc.of (by rfl) ∅ ∅ (.cons ∅ ∅ .nil)) (fun x=>decide (x≤(a3d jobs lack).length)) dn (fun x=>[("whole",dn x)]) (fun d _=>.name (.inl ∅)) (fun C cells x hx=>?_) (fun C cells x hx _=>.name ∅))) (a4g (by simp[a3h]) (by have:=length_filter_le (fun x=>decide (x≤(a3d jobs lack).length)) (a1x jobs jobs.length);rw[a3h];omega)))))
  refine Ts.cast (Ts.cmp (.name (d:=dn x) ∅) (Ev.callB (id:="len") ∅ (hg' _ _ _ ∅) ∅ (by decide) (.one (.name (d:=a1l (a3d jobs lack)) ∅)) (a4g (m:=(a3d jobs lack).length) (by simp[a0i]) (by omega))) d0u) (by simp)
 replace z2:=z2.pick (ρ':=[("left",a1l (a3d jobs lack)),("wholes",.list (a0i (a1x jobs jobs.length)))]) (.cons ∅ (.cons ∅ .nil))
 refine ev _ _ y3 _ _ rm' z2.cd fun v s' k' dv'=>?_
 have j3:=z2.keeps k'
 clear k' z2 y3 u1 z1 l3 rm'
 obtain⟨a1,a2,o9,e9,ps9,rfl,tr9⟩:=j3.ls _ (.head _)
 refine K v s' _ ⟨fun b o hb e=>j3.kp.1 b o (fun hmem=>?_) e,j3.kp.2⟩ (hT.ck _ _ _ j3.top.objs e9 rfl tr9) e9 (dv'.mono a4c)
 have h1:=(mem_filter.mp (mem_filter.mp hmem).1).1
 clear j3 dv' s' K hT
 rcases a0o h1 with rfl | h1
 ·exact nsn fw4 e
 ·rcases a0o h1 with rfl | h1
  ·exact nsn fo4 e
  ·rcases a0o h1 with rfl | h1
   ·exact hb (.head _)
   ·exact nsn (hW b h1) e
end
end
section
open PySem.SeqAt
noncomputable def slO (w7 o:Obj):Prop:=∃sl,o={w7 with slots:=sl}
theorem slO.refl (o:Obj):slO o o:=⟨o.slots,rfl⟩
theorem slO.trans {a b c:Obj} (x:slO a b) (y:slO b c):slO a c:=by obtain⟨s1,rfl⟩:=x;obtain⟨s2,rfl⟩:=y;exact⟨s2,rfl⟩
theorem slO.data {a b:Obj} (x:slO a b):b.data=a.data:=by obtain⟨s1,rfl⟩:=x;rfl
noncomputable def fol (Fo:List (Addr×Obj)):List (Addr×Ob):=Fo.map fun p=>(p.1,.raw (slO p.2))
theorem c6t {α β:Type}:∀{l:List (α×β)} {a:α} {b c:β},(l.map (·.1)).Nodup→(a,b)∈l→(a,c)∈l→b=c:=by
 intro v'
 induction v' with
 | nil=>
  intro _ _ _ _ h _
  cases h
 | cons hd' r ih'=>
  intro a b c hn h h'
  obtain⟨x,y⟩:=hd'
  rw[map_cons,nodup_cons]at hn
  rcases zC h with e | h1
  ·rcases zC h' with e' | h2
   ·cases e;cases e';rfl
   ·cases e;exact absurd (zN ⟨_,h2,rfl⟩) hn.1
  ·rcases zC h' with e' | h2
   ·cases e';exact absurd (zN ⟨_,h1,rfl⟩) hn.1
   ·exact ih' hn.2 h1 h2
inductive a3y:List Env→List (Addr×Obj)→Prop
 | nil:a3y [] []
 | cons {env:Env} {fs:List Env} {L:Addr} {o:Obj} {Fo:List (Addr×Obj)}:env.scope.kind≠.module→env.frame=some L→(∀vs,o.data≠.fields vs)→a3y fs Fo→a3y (env::fs) ((L,o)::Fo)
theorem a3y.frs (x:a3y fs Fo):frs fs=Fo.map (·.1):=by
 induction x with
 | nil=>rfl
 | cons h1 h2 h3 _ ih=>show List.filterMap _ _=_;rw[List.filterMap_cons,h2,map_cons];exact congrArg _ ih
theorem a3y.fun_ (x:a3y fs Fo) {h:Heap} (hp:∀p∈Fo,∃o,h.get? p.1=some o∧slO p.2 o):∀env∈fs,env.scope.kind≠.module∧∃L o,env.frame=some L∧h.get? L=some o∧∀vs,o.data≠.fields vs:=by
 induction x with
 | nil=>intro env he;cases he
 | cons h1 h2 h3 _ ih=>
  intro env he
  rcases a0o he with rfl | he
  ·obtain⟨o',e',s'⟩:=hp _ (.head _)
   exact⟨h1,_,o',h2,e',fun vs=>by rw[s'.data];exact h3 vs⟩
  ·exact ih (fun p hp'=>hp p (.tail _ hp')) env he
theorem a3y.stk (x:a3y fs Fo) {h:Heap} (hfr:A.frames=some fs) (hp:∀p∈Fo,∃o,h.get? p.1=some o∧slO p.2 o):Stk A fs h:=⟨hfr,x.fun_ hp⟩
structure Kx (fl:Bool) (W F:List Addr) (s s':Shared):Prop where
 kept:∀b o,b∉W→b∉F→s.heap.get? b=some o→s'.heap.get? b=some o
 up:∀b∈F,∀o,s.heap.get? b=some o→∃o',s'.heap.get? b=some o'∧slO o o'
 rest:Gk fl s.gens s'.gens∧s'.drawn=s.drawn∧s'.os=s.os
theorem Kw.kx {s:Shared} (a:Kw fl W s s') (h:∀b∈F,b∉W):Kx fl W F s s':=⟨fun b o hb _ e=>a.1 b o hb e,fun b hb o e=>⟨o,a.1 b o (h b hb) e,slO.refl o⟩,a.2⟩
section
variable {M:Model} {s:Shared}
theorem c6q {e:Addr} {cls:Value} {Q:Shared→Prop} (hfr:A.frames=some (env::fs)) (hf:env.frame=some L) (x:Fly (env::fs) z4 j0 s e cls)
  (hQ:∀h',Fly (env::fs) z4 j0 {s with heap:=h'} e cls→Q {s with heap:=h'}):wpAny M A (noteFrame (.ref e) env) (fun _ u0=>wpAny M A (setFlight (.ref e) none) (fun _ y2=>Q y2) E u0) E s:=by
 obtain⟨a0,mk,hfl⟩:=x.fly
 refine b4f hfr hf rfl hfl fun l9 hheld hsm=>?_
 refine a9r hheld fun k6 mk' fA eA=>?_
 exact hQ k6 ⟨x.same,⟨a0,mk',fA⟩,(x.slots.trans hsm).trans eA⟩
theorem b5s {e:Addr} {cls:Value} {Q:Unit→Shared→Prop} (x:Fly fs z4 j0 s e cls)
  (hQ:∀h',Fly fs z4 j0 {s with heap:=h'} e cls→Q () {s with heap:=h'}):wpAny M A (setFlight (.ref e) none) Q E s:=by
 obtain⟨a0,mk,hfl⟩:=x.fly
 refine a9r hfl fun k6 mk' fA eA=>?_
 exact hQ k6 ⟨x.same,⟨a0,mk',fA⟩,x.slots.trans eA⟩
theorem a2y {Q:Flow→Shared→Prop} (I:Nat→Shared→Prop) (hE:PassesOwn (model prog w) A env E)
  (turn:∀n s,I n s→wpAny (model prog w) A (isTrue test env (eval test env)) (fun b u0=>
    if b then wpAny (model prog w) A (execs body env) (fun f y2=>match f with
      | .next | .cont=>∃m,m < n∧I m y2
      | .brk=>Q .next y2
      | .ret v=>Q (.ret v) y2) E u0
    else wpAny (model prog w) A (execs orelse env) Q E u0) E s)
  (n:Nat) (h:I n s):wpAny (model prog w) A (exec (.While test body orelse pos) env) Q E s:=by
 refine wpAny_While (codeAny_whileLoop I (fun n s hI=>?_) n h)
 refine wpAny_mono (wpAny_passesOwn hE (turn n s hI)) (fun b u0 v4=>?_) fun _ _ x=>x
 cases b with
 | false=>exact wpAny_passesOwn hE v4
 | true=>
  refine wpAny_mono (wpAny_passesOwn hE v4) (fun f y2 e6=>?_) fun _ _ x=>x
  cases f <;> exact e6
end
noncomputable def Rsd (fl:Bool) (W V:List Addr) (fs:List Env) (s s':Shared) (e:Addr) (cls:Value):Prop:=
 ∃z4 sr,Fly fs z4 sr s' e cls∧(∀b o,b∉W→s.heap.get? b=some o→z4.get? b=some o)∧(Gk fl s.gens sr.gens∧sr.drawn=s.drawn∧sr.os=s.os)∧∀b∈V,∃o,z4.get? b=some o∧((∀vs,o.data≠.fields vs)∨b∉frs fs)
theorem Rsd.kx {s:Shared} {e:Addr} {cls:Value} (x:Rsd fl W V fs s s' e cls) (hd:∀L∈frs fs,L∉W∧∀o,s.heap.get? L=some o→∀vs,o.data≠.fields vs):Kx fl W (frs fs) s s':=by
 obtain⟨z4,sr,f,k,r,_⟩:=x
 refine⟨fun b o hb hf e=>f.kept b o hf (k b o hb e),fun b hb o e=>?_,?_⟩
 ·obtain⟨sl,e'⟩:=f.slots b o (k b o (hd b hb).1 e) ((hd b hb).2 o e)
  exact⟨_,e',sl,rfl⟩
 ·obtain⟨a,b,c⟩:=f.same
  exact⟨r.1.trans (by rw[a];exact Gk.refl _ _),b.trans r.2.1,c.trans r.2.2⟩
theorem Rsd.there {s:Shared} {e:Addr} {cls:Value} (x:Rsd fl W V fs s s' e cls):∀b∈V,∃o,s'.heap.get? b=some o:=fun b hb=>by
 walk_at "c"
 rcases x with⟨z4,sr,f,k,r,h⟩
 rcases h b hb with⟨o,e,ho⟩
 walk_at "u"
 rcases ho with ho | ho
 ·obtain⟨sl,e'⟩:=f.slots b o e ho;exact⟨_,e'⟩
 ·exact⟨o,f.kept b o ho e⟩
theorem Rsd.cls {s:Shared} {e:Addr} {cls:Value} (x:Rsd fl W V fs s s' e cls):∃o,s'.heap.get? e=some o∧o.cls=cls:=by
 walk_at "c"
 rcases x with⟨z4,sr,f,_⟩
 rcases f.fly with⟨a0,mk,g⟩
 walk_at "u"
 exact g.2.2.2.there
theorem Rsd.hide {s:Shared} {e:Addr} {cls:Value} (x:Rsd fl W V fs s s' e cls) (hC:s.heap.get? C=some o) (hW:C∉W) (hF:C∉frs fs) (hV:C∉V) (hs:Heap.SameBut C s'.heap h'):Rsd fl (C::W) V fs s {s' with heap:=h'} e cls:=by
 walk_at "c"
 rcases x with⟨z4,sr,f,k,r,h⟩
 have hC0:=k C o hW hC
 have hCb:(hideAll z4 (frs fs)).get? C=some o:=hideAll_get _ hC0 hF
 have hb:∀b o',(hideAll (z4.hide C) (frs fs)).get? b=some o'→b≠C∧(hideAll z4 (frs fs)).get? b=some o':=fun b o' e'=>by
  have h1:=of_hideAll _ e'
  have hbC:b≠C:=fun q=>by rw[q,Heap.hide_self]at h1;cases h1
  refine⟨hbC,hideAll_get _ (Heap.of_hide h1) fun hm=>?_⟩
  exact nsn (hideAll_none _ hm) e'
 have hn:∀b,(hideAll z4 (frs fs)).get? b=none→(hideAll (z4.hide C) (frs fs)).get? b=none:=fun b e'=>by
  cases q:(hideAll (z4.hide C) (frs fs)).get? b with
  | none=>rfl
  | some o'=>exact nsn e' ((hb b o' q).2)
 rcases f.fly with⟨a0,mk,f1,f2,f3,oe,vs,T,oT,ts,g1,g2,g3,g4,g5,g6,g7,g8⟩
 walk_at "u"
 have heC:e≠C:=fun q=>by rw[q,hCb]at f2;cases f2
 have hTC:T≠C:=fun q=>by rw[q,hCb]at g5;cases g5
 have hfun:∀{l:List Env},s'.heap.FunFrames (hideAll z4 (frs fs)) l→h'.FunFrames (hideAll (z4.hide C) (frs fs)) l:=by
  intro l
  induction l with
  | nil=>intro _;trivial
  | cons env l ih=>
   rintro⟨hk,⟨L,oL,hf,hnL,hoL,hdL⟩,hr⟩
   refine⟨hk,⟨L,oL,hf,hn L hnL,(hs.2 L fun q=>by rw[q,hCb]at hnL;cases hnL).trans hoL,hdL⟩,ih hr⟩
 refine⟨z4.hide C,sr,⟨f.same,⟨a0,mk,fun b o' e'=>?_,hn e f2,hfun f3,oe,vs,T,oT,ts,(hs.2 e heC).trans g1,g2,g3,g4,hn T g5,g6,(hs.2 T hTC).trans g7,g8⟩,fun b o' e' hnf=>?_⟩,fun b o' hb' e'=>?_,r,fun b hb'=>?_⟩
 ·obtain⟨h1,h2⟩:=hb b o' e'
  exact(hs.2 b h1).trans (f1 b o' h2)
 ·have hbC:b≠C:=fun q=>by rw[q,Heap.hide_self]at e';cases e'
  obtain⟨sl,h1⟩:=f.slots b o' (Heap.of_hide e') hnf
  exact⟨sl,(hs.2 b hbC).trans h1⟩
 ·exact(Heap.hide_ne z4 (a:=C) (b:=b) fun q=>hb' (by rw[q];exact .head _)).trans (k b o' (fun hm=>hb' (.tail _ hm)) e')
 ·obtain⟨o',e',h1⟩:=h b hb'
  exact⟨o',(Heap.hide_ne z4 (a:=C) (b:=b) fun q=>hV (by rw[←q];exact hb')).trans e',h1⟩
section
variable {M:Model} {s g0:Shared} {e:Addr} {cls:Value}
theorem Rsd.note {Q:Unit→Shared→Prop} (x:Rsd fl W V (env::fs) s g0 e cls) (hfr:A.frames=some (env::fs)) (hf:env.frame=some L) (hf':env'.frame=env.frame) (hQ:∀s',Rsd fl W V (env::fs) s s' e cls→Q () s'):
  wpAny M A (noteFrame (.ref e) env') Q E g0:=by
 walk_at "c"
 rcases x with⟨z4,sr,f,r⟩
 rcases f.fly with⟨a0,mk,hfl⟩
 walk_at "u"
 exact b4f hfr hf hf' hfl fun h' x1 k1=>hQ _ ⟨z4,sr,⟨f.same,⟨a0,_,x1⟩,f.slots.trans k1⟩,r⟩
theorem Rsd.pass {α:Type} {what:String} {Q:α→Shared→Prop} (x:Rsd fl W V fs s g0 e cls) (hQ:∀s',Rsd fl W V fs s s' e cls→E (.ref e) s'):wpAny M A (PySem.passOn what (.ref e) env) Q E g0:=by
 walk_at "c"
 rcases x with⟨z4,sr,f,r⟩
 rcases f.fly with⟨a0,mk,hfl⟩
 walk_at "u"
 exact c1n hfl fun h' mk' x1 k1=>hQ _ ⟨z4,sr,⟨f.same,⟨a0,_,x1⟩,f.slots.trans k1⟩,r⟩
theorem Rsd.land {Q:Shared→Prop} (x:Rsd fl W V (env::fs) s g0 e cls) (hfr:A.frames=some (env::fs)) (hf:env.frame=some L) (hQ:∀s',Rsd fl W V (env::fs) s s' e cls→Q s'):
  wpAny M A (noteFrame (.ref e) env) (fun _ u0=>wpAny M A (setFlight (.ref e) none) (fun _ y2=>Q y2) E u0) E g0:=by
 obtain⟨z4,sr,f,r⟩:=x
 exact c6q hfr hf f fun h' f'=>hQ _ ⟨z4,sr,f',r⟩
theorem Rsd.again {Q:Unit→Shared→Prop} (x:Rsd fl W V fs s g0 e cls) (hQ:∀s',Rsd fl W V fs s s' e cls→Q () s'):wpAny M A (setFlight (.ref e) none) Q E g0:=by
 obtain⟨z4,sr,f,r⟩:=x
 exact b5s f fun h' f'=>hQ _ ⟨z4,sr,f',r⟩
theorem Rsd.made {Q:Unit→Shared→Prop} (st:Stk A (env::fs) j2) (hf:env.frame=some L) (hx:Heap.MadeExcOf j2 g0.heap e cls args)
  (hk:∀b o,b∉W→s.heap.get? b=some o→b≠L∧j2.get? b=some o) (hr:Gk fl s.gens g0.gens∧g0.drawn=s.drawn∧g0.os=s.os) (hV:∀b∈V,b≠L∧∃o,j2.get? b=some o∧((∀vs,o.data≠.fields vs)∨b∉frs fs))
  (hQ:∀s',Rsd fl W V fs s s' e cls→Q () s'):wpAny M A (leaving env (.ref e)) Q E g0:=
 b5r st hf hx fun h' f=>hQ _ ⟨_,g0,f,fun b o hb e=>(Heap.hide_ne _ (hk b o hb e).1).trans (hk b o hb e).2,hr,fun b hb=>let⟨h1,o,e,h2⟩:=hV b hb;⟨o,(Heap.hide_ne _ h1).trans e,h2⟩⟩
theorem Rsd.here {Q:Unit→Shared→Prop} (st:Stk A (env::fs) j2) (hf:env.frame=some L) (hx:Heap.MadeExcOf j2 g0.heap e cls args)
  (hk:∀b o,b∉W→s.heap.get? b=some o→j2.get? b=some o) (hr:Gk fl s.gens g0.gens∧g0.drawn=s.drawn∧g0.os=s.os) (hV:∀b∈V,∃o,j2.get? b=some o∧((∀vs,o.data≠.fields vs)∨b∉frs (env::fs)))
  (hQ:∀s',Rsd fl W V (env::fs) s s' e cls→Q () s'):wpAny M A (noteFrame (.ref e) env) Q E g0:=
 b8n st hf hx fun h' f=>hQ _ ⟨_,g0,f,hk,hr,hV⟩
end
inductive c8a (H h:Heap) (M:List Addr) (p:Addr×Ob):Prop
 | mk:p.1∈M→H.get? p.1=none→(o:Obj)→h.get? p.1=some o→ObR (vis h M) o p.2→c8a H h M p
section
variable {h:Heap} {p:Addr×Ob}
theorem c8a.wW (x:c8a H h M p):p.1∈M:=by cases(x)with | mk a=>exact a
theorem c8a.f (x:c8a H h M p):H.get? p.1=none:=by cases(x)with | mk _ a=>exact a
end
section
variable {n:Nat} {s:Shared}
structure Wd (G:a1k) (H:Heap) (M:List Addr) (ol:List (Addr×Ob)) (s:Shared):Prop where
 tH:TF G H
 kH:Hk H s.heap
 mem:∀b∈M,∃o,s.heap.get? b=some o
 ls:∀p∈ol,c8a H s.heap M p
 lsn:(ol.map (·.1)).Nodup
theorem Wd.top (x:Wd G H M ol s):TF G s.heap:=x.tH.keeps x.kH
theorem Stt.wd (t:Stt G H env own W i0 ρ ol j0 s):Wd G H (W++i0) ol s:=⟨t.tH,t.kH,t.mem,fun p hp=>let⟨a,_,o,e,r⟩:=t.ls p hp;⟨zB (.inl a),t.fH _ a,o,e,r⟩,t.lsn⟩
theorem Wd.pick (x:Wd G H M ol s) (h:∀p∈ol',p∈ol) (hn:(ol'.map (·.1)).Nodup):Wd G H M ol' s:=⟨x.tH,x.kH,x.mem,fun p hp=>x.ls p (h p hp),hn⟩
theorem Wd.keeps (x:Wd G H M ol s) (k:Kp s s'):Wd G H M ol s':=
 ⟨x.tH,x.kH.trans k.hk,fun b hb=>(x.mem b hb).imp fun o e=>k.hk b o e,fun p hp=>let⟨a,b,o,e,r⟩:=x.ls p hp;⟨a,b,o,k.hk _ _ e,r.mono k.hk.vis⟩,x.lsn⟩
theorem Stt.wdL (t:Stt G H env own W i0 ρ ol j0 s):∃oL,s.heap.get? env.locals=some oL∧(∀vs,oL.data≠.fields vs)∧Wd G H (W++i0) ((env.locals,.raw (slO oL))::ol) s:=by
 walk_at "c"
 rcases t.fm with⟨vm,F,_⟩
 rcases F.loc with⟨m,⟨o,es,ep,e1,e2,_⟩,_⟩
 walk_at "u"
 have hL:env.locals∈fms env own:=.head _
 have x:=t.wd
 have hnf:∀vs,o.data≠.fields vs:=fun vs q=>by rw[e2]at q;cases q
 refine⟨o,e1,hnf,x.tH,x.kH,x.mem,fun p hp=>?_,?_⟩
 ·rcases a0o hp with rfl | hp
  ·exact⟨zB (.inl (t.sub _ hL)),t.fH _ (t.sub _ hL),o,e1,slO.refl o⟩
  ·exact x.ls p hp
 ·rw[map_cons,nodup_cons]
  refine⟨fun hm=>?_,t.lsn⟩
  obtain⟨p,hp,e⟩:=zM hm
  have e':p.1=env.locals:=e
  exact(t.ls p hp).f (e'▸hL)
theorem Stt.openX (t:Stt G j0.heap env own W i0 ρ [] j0 s) (x:Wd G H i0 ol j0) (hW:∀b∈W,j0.heap.get? b=none):Stt G H env own (W++ol.map (·.1)) i0 ρ ol j0 s:=by
 have hin:∀b∈ol.map (·.1),b∈i0:=fun b hb=>by obtain⟨p,hp,e⟩:=zM hb;have e':p.1=b:=e;exact e'▸(x.ls p hp).wW
 have up:∀a o,vis s.heap (W++i0) a=some o→vis s.heap ((W++ol.map (·.1))++i0) a=some o:=fun a o e=>by
  obtain⟨e1,e2⟩:=a0b e
  refine a0v e1 fun hm=>e2 ?_
  rcases zA hm with hm | hm
  ·rcases zA hm with hm | hm
   ·exact zB (.inl hm)
   ·exact zB (.inr (hin a hm))
  ·exact zB (.inr hm)
 have up0:∀a o,vis j0.heap i0 a=some o→vis s.heap ((W++ol.map (·.1))++i0) a=some o:=fun a o e=>by
  obtain⟨e1,e2⟩:=a0b e
  refine a0v (t.kH a o e1) fun hm=>?_
  rcases zA hm with hm | hm
  ·rcases zA hm with hm | hm
   ·exact nsn (hW a hm) e1
   ·exact e2 (hin a hm)
  ·exact e2 hm
 refine⟨t.kp.grow fun b hb=>zB (.inl hb),x.tH,x.kH.trans t.kH,fun b hb=>?_,t.kind,t.glob,t.bi,t.cs,t.ow,?_,fun b hb=>zB (.inl (t.sub b hb)),fun b hb=>?_,fun p hp=>?_,x.lsn⟩
 ·rcases zA hb with hb | hb
  ·cases e:H.get? b with
   | none=>rfl
   | some o=>exact nsn (hW b hb) (x.kH b o e)
  ·obtain⟨p,hp,e⟩:=zM hb
   have e':p.1=b:=e
   exact e'▸(x.ls p hp).f
 ·obtain⟨vm,F,h⟩:=t.fm
  exact⟨vm,F,fun y d e=>let⟨h1,v,h2,h3⟩:=h y d e;⟨h1,v,h2,h3.mono up⟩⟩
 ·rcases zA hb with hb | hb
  ·rcases zA hb with hb | hb
   ·exact t.mem b (zB (.inl hb))
   ·exact t.mem b (zB (.inr (hin b hb)))
  ·exact t.mem b (zB (.inr hb))
 ·obtain⟨a,b,o,e,r⟩:=x.ls p hp
  refine⟨zB (.inr (zN ⟨p,hp,rfl⟩)),fun hm=>?_,o,t.kH _ _ e,r.mono up0⟩
  exact nsn (hW _ (t.sub _ hm)) e
theorem Stt.flewN {N₀:List Addr} (t:Stt G H env own W (N₀++i0) ρ ol j0 s) {N:List Addr} (k:Kx G.gen W₁ (env.locals::F) s s') (hF:∀b∈F,∃w7,(b,Ob.raw (slO w7))∈ol) (u5:∀b∈N₀,b∉W∧b∉i0∧j0.heap.get? b=none∧H.get? b=none) (hW:∀b∈W₁,b∈W∧b∉fms env own∨b∈N₀) (hx:∀b∈W₁,b∉N₀→∃o,s'.heap.get? b=some o)
  (hN:∀b∈N,s.heap.get? b=none∧∃o,s'.heap.get? b=some o)
  (hl:∀p∈ol',p∈ol∧p.1∉W₁∨(p.1∈W∧p.1∉fms env own∨p.1∈N)∧Hit (vis s'.heap ((N++W)++i0)) s'.heap p) (hn:(ol'.map (·.1)).Nodup):Stt G H env own (N++W) i0 ρ ol' j0 s':=by
 have hLf:env.locals∈fms env own:=.head _
 have hLW:=t.sub _ hLf
 have hFW:∀b∈env.locals::F,b∈W:=fun b hb=>by
  rcases a0o hb with rfl | hb
  ·exact hLW
  ·obtain⟨w7,h⟩:=hF b hb;exact(t.ls _ h).wW
 have hFf:∀b∈F,b∉fms env own:=fun b hb=>by obtain⟨w7,h⟩:=hF b hb;exact(t.ls _ h).f
 have kk:∀b o,b∉W→b∉N₀→s.heap.get? b=some o→s'.heap.get? b=some o:=fun b o hb hb0 e=>k.kept b o (fun hm=>(hW b hm).elim (fun h=>hb h.1) hb0) (fun hm=>hb (hFW b hm)) e
 have up:∀a o,vis s.heap (W++(N₀++i0)) a=some o→vis s'.heap ((N++W)++i0) a=some o:=fun a o e=>by
  obtain⟨e1,e2⟩:=a0b e
  refine a0v (kk a o (fun hm=>e2 (zB (.inl hm))) (fun hm=>e2 (zB (.inr (zB (.inl hm))))) e1) fun hm=>?_
  rcases zA hm with hm | hm
  ·rcases zA hm with hm | hm
   ·exact nsn ((hN a hm).1) e1
   ·exact e2 (zB (.inl hm))
  ·exact e2 (zB (.inr (zB (.inr hm))))
 refine⟨⟨fun b o hb e=>kk b o (fun hm=>hb (zB (.inr hm))) (fun hm=>by exact nsn ((u5 b hm).2.2.1) e) (t.kp.1 b o (fun hm=>hb (zB (.inr hm))) e),t.kp.2.1.trans k.rest.1,k.rest.2.1.trans t.kp.2.2.1,k.rest.2.2.trans t.kp.2.2.2⟩,t.tH,fun b o e=>kk b o (fun hm=>by exact nsn (t.fH b hm) e) (fun hm=>by exact nsn ((u5 b hm).2.2.2) e) (t.kH b o e),fun b hb=>?_,t.kind,t.glob,t.bi,t.cs,t.ow,?_,fun b hb=>zB (.inr (t.sub b hb)),fun b hb=>?_,fun p hp=>?_,hn⟩
 ·rcases zA hb with hb | hb
  ·cases e:H.get? b with
   | none=>rfl
   | some o=>exact nsn ((hN b hb).1) (t.kH b o e)
  ·exact t.fH b hb
 ·obtain⟨vm,F',h⟩:=t.fm
  refine⟨vm,?_,fun y d e=>let⟨h1,v,h2,h3⟩:=h y d e;⟨h1,v,h2,h3.mono up⟩⟩
  walk_at "c"
  rcases F'.loc with⟨m,⟨o,es,ep,e1,e2,e3⟩,hm⟩
  rcases k.up _ (.head _) o e1 with⟨o',e1',hs'⟩
  walk_at "u"
  refine⟨⟨m,⟨o',es,ep,e1',by rw[hs'.data];exact e2,e3⟩,hm⟩,fun x c hc=>?_,F'.apart,F'.ne⟩
  obtain⟨c1,c2,c3⟩:=F'.cel x c hc
  refine⟨c1,c2,?_⟩
  have hcf:c∈fms env own:=.tail _ (zN ⟨_,hc,rfl⟩)
  have hcL:c≠env.locals:=F'.ne x c hc
  obtain⟨oc,c4,c5⟩:=c3
  exact⟨oc,k.kept c oc (fun hm=>(hW c hm).elim (fun h=>h.2 hcf) fun h=>(u5 c h).1 (t.sub c hcf)) (fun hm=>by
   rcases zC hm with h1 | h1
   ·exact hcL h1
   ·exact hFf c h1 hcf) c4,c5⟩
 ·have old:b∈W++i0→∃o,s'.heap.get? b=some o:=fun hb=>by
   have hb0:b∉N₀:=fun hm=>(zA hb).elim (u5 b hm).1 (u5 b hm).2.1
   obtain⟨o,e⟩:=t.mem b ((zA hb).elim (fun h=>zB (.inl h)) fun h=>zB (.inr (zB (.inr h))))
   by_cases h1:b∈W₁
   ·exact hx b h1 hb0
   ·by_cases h2:b∈env.locals::F
    ·obtain⟨o',e',_⟩:=k.up b h2 o e;exact⟨o',e'⟩
    ·exact⟨o,k.kept b o h1 h2 e⟩
  rcases zA hb with hb | hb
  ·rcases zA hb with hb | hb
   ·exact(hN b hb).2
   ·exact old (zB (.inl hb))
  ·exact old (zB (.inr hb))
 ·rcases hl p hp with⟨h1,h2⟩ | ⟨h1,h2⟩
  ·obtain⟨a,b,o,e,r⟩:=t.ls p h1
   refine .of (zB (.inr a)) b ?_
   by_cases h3:p.1∈F
   ·obtain⟨w7,h4⟩:=hF _ h3
    have e5:p.2=Ob.raw (slO w7):=c6t t.lsn (a:=p.1) h1 h4
    obtain⟨o',e',k'⟩:=k.up _ (.tail _ h3) o e
    refine⟨o',e',?_⟩
    rw[e5]at r ⊢
    exact slO.trans r k'
   ·exact⟨o,k.kept _ _ h2 (fun hm=>by
     rcases zC hm with h4 | h4
     ·exact b (h4▸hLf)
     ·exact h3 h4) e,r.mono up⟩
  ·obtain⟨o,e,r⟩:=h2
   rcases h1 with⟨h1,h3⟩ | h1
   ·exact⟨zB (.inr h1),h3,o,e,r⟩
   ·refine⟨zB (.inl h1),fun hm=>?_,o,e,r⟩
    obtain⟨o',e'⟩:=t.mem _ (zB (.inl (t.sub _ hm)))
    exact nsn ((hN _ h1).1) e'
theorem Stt.flew (t:Stt G H env own W i0 ρ ol j0 s) {N:List Addr} (k:Kx G.gen W₁ (env.locals::F) s s') (hF:∀b∈F,∃w7,(b,Ob.raw (slO w7))∈ol) (hW:∀b∈W₁,b∈W∧b∉fms env own) (hx:∀b∈W₁,∃o,s'.heap.get? b=some o)
  (hN:∀b∈N,s.heap.get? b=none∧∃o,s'.heap.get? b=some o)
  (hl:∀p∈ol',p∈ol∧p.1∉W₁∨(p.1∈W∧p.1∉fms env own∨p.1∈N)∧Hit (vis s'.heap ((N++W)++i0)) s'.heap p) (hn:(ol'.map (·.1)).Nodup):Stt G H env own (N++W) i0 ρ ol' j0 s':=
 Stt.flewN (N₀:=[]) t k hF (fun b hb=>by cases hb) (fun b hb=>.inl (hW b hb)) (fun b hb _=>hx b hb) hN hl hn
end
end
section
open PySem.SeqAt
noncomputable def c0a:Nat→Nat→Nat→List Nat→Option (Option (Nat×List Nat))
 | 0,_,_,_=>none
 | k+1,val,b,rest=>if b / 64 % 2=1 then(match rest with
   | []=>some none
   | c::r=>c0a k (val * 64+c % 64) c r)else some (some (val,rest))
theorem c8t {k val b:Nat} {rest:List Nat}:c0a (k+1) val b rest=if b / 64 % 2=1 then(match rest with
   | []=>some none
   | c::r=>c0a k (val * 64+c % 64) c r)else some (some (val,rest)):=rfl
noncomputable def a6j:List Nat→Option (Option (Nat×List Nat))
 | []=>some none
 | b::r=>c0a 8 (b % 64) b r
noncomputable def d1c:List (Str×Option Value):=[("next",none),("iter",none),("chr",none),("range",none),("len",none),("sorted",none),("tuple",none),("bool",none),("list",none),("set",none),("isinstance",none),("str",none),("type",none),("int",none),("object",none),("StopIteration",none),("ValueError",none),("sum",none),
 ("_parse_varint",some (.ref 51)),("_law_jobs",some (.ref 891)),("_law_packed",some (.ref 896)),("_law_read",some (.ref 901)),("_law_run",some (.ref 908)),("_law_told",some (.ref 913)),("split",some (.ref 871)),("_NodeInfo",some (.ref 70)),("CycleError",some (.ref 85)),("TopologicalSorter",some (.ref 167)),("StringIO",some (.ref 724)),("shlex",some (.ref 859))]
structure GX (G:a1k):Prop where
 glb:∀x v,d1c.lookup x=some v→G.glb x=some v
 pv:a9e G 51 "_parse_varint" (a4t (stm 4)) (a2b (stm 4)) (a0a (stm 4)) .none .none
section
variable {n:Nat}
theorem c3x {a b:Int}:Op2 prog w G n (binaryOp .BitAnd) (.int a) (.int b) (.int (Builtin.bitAnd a b)):=fun A M s x y Q E _ _ _ da db k=>by
 cases da;cases db
 exact and_int (k _ _ (Kp.tok _ _) (.int _ _))
theorem c5u {a b:Int} (h0:0≤b) (h1:b≤1000000) (ha:a.natAbs < 2 ^ 64):Op2 prog w G n (inplaceOp .LShift) (.int a) (.int b) (.int (a * 2 ^ b.toNat)):=fun A M s x y Q E _ _ _ da db k=>by
 cases da;cases db
 exact ilshift_int_small h0 h1 ha (k _ _ (Kp.tok _ _) (.int _ _))
theorem c9d {a b:Int}:Op2 prog w G n (inplaceOp .BitOr) (.int a) (.int b) (.int (Builtin.bitOr a b)):=fun A M s x y Q E _ _ _ da db k=>by
 cases da;cases db
 exact ior_int (k _ _ (Kp.tok _ _) (.int _ _))
theorem c4u {M:Model} {s:Shared} {x:Str} (hk:env.scope.kind= .function) (hv:a4b s.heap env x v) (h:Q v s) (hn:(x == ("__classdict__":Str))=false:=by decide):wpAny M A (loadName env x) Q E s:=by
 cases hv with
 | loc m a b c=>exact wpAny_loadName_local hk a b c h
 | cell c a b d=>exact wpAny_loadName_cell hk a b d h
 | free c a b d=>exact wpAny_loadName_free hk a b d h hn
theorem c3r {s:Shared} {Q:Flow→Shared→Prop} {x:Str} {op:Operator} {e:Expr} {d0 d:D}
  (t:Stt G H env own W i0 ρ ol j0 s) (rm:Rm A n) (h0:ρ.lookup x=some d0) (h:Ev prog w (G.at ol) n env ρ e d1) (ho:Op2 prog w (G.at ol) n (inplaceOp op) d0 d1 d) (hx:Lo env own x)
  (K:∀s',Stt G H env own W i0 ((x,d)::ρ) ol j0 s'→Q .next s') (hn:(x == ("__classdict__":Str))=false:=by decide):wpAny (model prog w) A (exec (.AugAssign (.Name x px) op e pos) env) Q E s:=by
 obtain⟨v,hv,dv⟩:=t.cd.vars x d0 h0
 refine wpAny_AugAssign_Name (c4u t.kind hv (h A _ s _ E rm t.cd fun u g0 l0 du=>ho A _ g0 v u _ E rm (t.keeps l0).cd.top (t.keeps l0).cd.mem (dv.mono l0.hk.vis) du fun r u0 y1 dr=>?_) hn)
 exact((t.keeps l0).keeps y1).put hx dr fun s' t' _=>K s' t'
noncomputable def qIt (l:Addr) (i:Nat) (o:Obj):Prop:=o.cls= .type "list_iterator"∧o.data= .fields #[.ref l,.int i 0]
theorem Stt.old {s:Shared} (t:Stt G H env own W i0 ρ ol j0 s) {d:D} (dv:DR (vis j0.heap i0) v d) (hW:∀b∈W,b∈i0∨j0.heap.get? b=none):DR (vis s.heap (W++i0)) v d:=
 dv.mono fun a o e=>by
  obtain⟨e1,e2⟩:=a0b e
  have haW:a∉W:=fun hm=>by
   rcases hW a hm with h | h
   ·exact e2 h
   ·exact nsn h e1
  refine a0v (t.kp.1 a o haW e1) fun hm=>?_
  rcases zA hm with hm | hm
  ·exact haW hm
  ·exact e2 hm
theorem b6q {s:Shared} {Q:Flow→Shared→Prop} {x y:Str} {np cp:Pos} {it l:Addr} {i:Nat}
  (hg:G.glb "next"=some none) (t:Stt G H env own W i0 ρ ((it,.raw (qIt l i))::ol) j0 s) (rm:Rm A n) (hk:env.kindOf "next"=some .globalImplicit) (hy:ρ.lookup y=some (.val (.ref it))) (dl:DR (vis s.heap (W++i0)) (.ref l) (a1l oc))
  (hx:Lo env own x) (hs:swapsWith (.Call (.Name "next" np) [.Name y yp] [] cp) (some (.Name x px)) pos.line env=pure false)
  (K:∀b s',oc[i]? =some b→Stt G H env own W i0 ((x,dn b)::ρ) ((it,.raw (qIt l (i+1)))::ol) j0 s'→Q .next s')
  (KE:∀j2 h' e s',oc[i]? =none→Stt G H env own W i0 ρ ((it,.raw (qIt l i))::ol) j0 s'→Heap.SameBut it s'.heap j2→(∃o,j2.get? it=some o)→Heap.MadeExcOf j2 h' e (.type "StopIteration") []→E (.ref e) {s' with heap:=h'})
  (hd:(y == ("__debug__":Str))=false:=by decide) (hnn:(y == ("__classdict__":Str))=false:=by decide):wpAny (model prog w) A (exec (.Assign [.Name x px] (.Call (.Name "next" np) [.Name y yp] [] cp) pos) env) Q E s:=by
 refine wpAny_Assign_Name (wpAny_Call_NameR (a1v t.kind t.glob t.bi t.top hk hg (v:=.builtin "next") ∅ (by decide) ?_)) hs
 refine Calls.callWith_builtin (by rfl) (Calls.evalArgs_plain ?_)
 refine EvL.go (G:=G.at _) rm (.one (.name (d:=.val (.ref it)) hy hd hnn)) t.cd fun vs g0 l0 dv=>?_
 cases dv with
 | cons d0 d1=>
 cases d1
 cases d0
 have w0:=t.keeps l0
 have zF:=dl.mono l0.hk.vis
 obtain⟨a1,a2,o,e,q1,q2⟩:=w0.ls _ (.head _)
 have hit:g0.heap.IsListIter it l i:=⟨o,e,q1,q2⟩
 cases zF with
 | list e2 r=>
 have hl:=a0j e2
 cases hi:oc[i]? with
 | none=>
  refine c2a rm.hd hit hl ?_ fun j2 h' e sb ex mk=>KE j2 h' e g0 hi w0 sb ex mk
  have h1:=r.length
  rw[a0i,length_map]at h1
  have h2:=List.getElem?_eq_none_iff.mp hi
  simp;omega
 | some b=>
  obtain⟨v,hv,dv⟩:=r.get (k:=i) (d:=dn b) (by rw[a0i,getElem?_map,hi];rfl)
  refine b8o hit hl (by simpa using hv) fun h' hit' sb=>?_
  obtain⟨o',e',q1',q2'⟩:=hit'
  have z0:=w0.set1 (s':={g0 with heap:=h'}) (ob':=.raw (qIt l (i+1))) (Kw.sameBut (tk:=g0.toks) sb) e' ⟨q1',q2'⟩
  cases dv
  exact z0.put hx (.int _ _) fun s' t' _=>K b s' hi t'
end
end
section
open PySem.SeqAt
theorem c8x (a c:Nat):Builtin.bitOr ((a:Int) * 64) ((c % 64:Nat):Int)=((a * 64+c % 64:Nat):Int):=by
 have hb:∀x:Nat,Builtin.bitNot (x:Int)= -(x:Int) - 1:=fun x=>by simp[Builtin.bitNot]
 have h2:a * 64 ||| c % 64=a * 64+c % 64:=by
  have:=Nat.two_pow_add_eq_or_of_lt (i:=6) (b:=c % 64) (by omega) a
  rw[Nat.mul_comm]at this;rw[←this]
 have e:((a:Int) * 64)=((a * 64:Nat):Int):=by push_cast;rfl
 rw[e,Builtin.bitOr,hb,hb,Builtin.bitAnd]
 rw[show decide (0≤-((a * 64:Nat):Int) - 1)=false from by simp;omega,show decide (0≤-((c % 64:Nat):Int) - 1)=false from by simp;omega]
 simp only[]
 have hn:∀x:Nat,(Builtin.bitNot (-(x:Int) - 1)).toNat=x:=fun x=>by simp[Builtin.bitNot];omega
 rw[hn,hn,h2]
 simp only[Builtin.bitNot];omega
theorem d1l (b:Nat):(Builtin.bitAnd (b:Int) 64 != 0)=decide (b / 64 % 2=1):=by
 rw[Builtin.bitAnd,show decide (0≤(b:Int))=true from by simp,show decide ((0:Int)≤64)=true from rfl]
 simp only[Int.toNat_natCast,show Int.toNat 64=2 ^ 6 from rfl]
 have e:b &&& 2 ^ 6=if b.testBit 6 then 2 ^ 6 else 0:=by
  apply Nat.eq_of_testBit_eq
  intro i
  rw[Nat.testBit_and,Nat.testBit_two_pow]
  by_cases hi:6=i
  ·subst hi;cases b.testBit 6 <;> decide
  ·rw[decide_eq_false hi,Bool.and_false]
   cases b.testBit 6
   ·simp
   ·simp only[if_true];rw[Nat.testBit_two_pow,decide_eq_false hi]
 rw[e,Nat.testBit_eq_decide_div_mod_eq]
 by_cases h:b / 64 % 2=1
 ·rw[decide_eq_true h];rfl
 ·rw[decide_eq_false h];rfl
section
theorem b4c {n b:Nat}:Op2 prog w G n (binaryOp .BitAnd) (dn b) (.int 63) (dn (b % 64)):=by
 have h:=c3x (prog:=prog) (w:=w) (G:=G) (n:=n) (a:=(b:Int)) (b:=63)
 rw[bitAnd_m6]at h
 have e:(D.int ((b:Int) % 64))=dn (b % 64):=by simp[dn]
 rw[e]at h;exact h
inductive d1z (G:a1k) (H:Heap) (L:Addr) (cd:Value) (it l:Addr) (i:Nat) (M:List Addr) (oc:List Nat) (r:Option (Nat×List Nat)) (s:Shared) (k:Nat) (s':Shared):Prop
 | mk (j val b:Nat):k≤8→val < 64 ^ (9 - k)→c0a k val b (oc.drop j)=some r→Stt G H (fnv "_parse_varint" (a0a (stm 4)) L 51 cd) (cellsFrom (L+1) (a0a (stm 4)).names []) (fms (fnv "_parse_varint" (a0a (stm 4)) L 51 cd) (cellsFrom (L+1) (a0a (stm 4)).names [])++[(it,Ob.raw (qIt l i))].map (·.1)) M ([("val",dn val),("b",dn b),("iterator",.val (.ref it))]:List (Str×D)) [(it,.raw (qIt l j))] s s'→d1z G H L cd it l i M oc r s k s'
theorem d0t (hX:GX G) {it l:Addr} {i:Nat} {s:Shared} {r:Option (Nat×List Nat)} (rm:Rm A 2)
  (wd:Wd G H M [(it,.raw (qIt l i))] s) (dl:DR (vis s.heap M) (.ref l) (a1l oc)) (hfs:a3y fs Fo) (hfr:A.frames=some fs) (hst:∀p∈Fo,∃o,s.heap.get? p.1=some o∧slO p.2 o) (hp:a6j (oc.drop i)=some r)
  (K:∀v rest j tk s',r=some (v,rest)→Kw G.gen [it] s s'→(∃o,s'.heap.get? it=some o∧qIt l j o)→oc.drop j=rest→Q (.int (v:Nat) tk) s')
  (KE:∀e s',r=none→Rsd G.gen [it] [it] fs s s' e (.type "StopIteration")→E (.ref e) s'):wpAny (model prog w) A (call (.ref 51) [.ref it]) Q E s:=by
 refine a0u (n:=1) (args:=⟨[_],[]⟩) (ρ:=[("iterator",_)]) (binds:=[("iterator",_)]) hX.pv rm wd.top wd.mem (fun name doc pm an cdv ct=>BindsTo.of_eq rfl) rfl (.cons (.val _) .nil) (fun x hx=>by rw[zS hx];exact .inl ∅) (a0d ∅) (by decide +kernel) (by simp) ?_ ∅ ∅ ∅
 intro L cd g0 hL t hW
 walk_at "q"
 have w0:=t.openX wd hW
 have rm':=rm.deeper (fnv "_parse_varint" (a0a (stm 4)) L 51 cd)
 obtain⟨wm,_,oi,ei,qi1,qi2⟩:=wd.ls _ (.head _)
 have hWo:∀b∈fms (fnv "_parse_varint" (a0a (stm 4)) L 51 cd) (cellsFrom (L+1) (a0a (stm 4)).names [])++[(it,Ob.raw (qIt l i))].map (·.1),b∈M∨s.heap.get? b=none:=fun b hb=>by
  rcases zA hb with hb | hb
  ·exact .inr (hW b hb)
  ·rw[zS hb];exact .inl wm
 have hLi:it≠L:=fun e=>by rw[←e,ei]at hL;cases hL
 have fly:∀(j:Nat) (ρ':List (Str×D)) (j2 h':Heap) (e:Addr) (s':Shared),r=none→Stt G H (fnv "_parse_varint" (a0a (stm 4)) L 51 cd) (cellsFrom (L+1) (a0a (stm 4)).names []) (fms (fnv "_parse_varint" (a0a (stm 4)) L 51 cd) (cellsFrom (L+1) (a0a (stm 4)).names [])++[(it,Ob.raw (qIt l i))].map (·.1)) M ρ' [(it,.raw (qIt l j))] s s'→
   Heap.SameBut it s'.heap j2→(∃o,j2.get? it=some o)→Heap.MadeExcOf j2 h' e (.type "StopIteration") []→
   wpAny (model prog w) (A.deeper (fnv "_parse_varint" (a0a (stm 4)) L 51 cd)) (leaving (fnv "_parse_varint" (a0a (stm 4)) L 51 cd) (.ref e)) (fun _ s''=>E (.ref e) s'') (fun e' s''=>E e' s'') {s' with heap:=h'}:=by
  intro j ρ' j2 h' e s' hr t' sb ex mk
  have keep:∀b o,b∉[it]→s.heap.get? b=some o→b≠L∧j2.get? b=some o:=fun b o hb eb=>by
   have hbi:b≠it:=fun e=>hb (by rw[e];exact .head _)
   refine⟨fun e=>(by rw[e,hL]at eb;cases eb),(sb.2 b hbi).trans (t'.kp.1 b o (fun hm=>?_) eb)⟩
   rcases zA hm with hm | hm
   ·exact nsn (hW b hm) eb
   ·exact hbi (zS hm)
  walk_at "c"
  rcases t'.fm with⟨vm,F',_⟩
  rcases F'.loc with⟨m,⟨oL,es,ep,eL,dL,_⟩,_⟩
  walk_at "u"
  have hfn:∀p∈Fo,p.1≠it:=fun p hp' e'=>by
   obtain⟨o,eo,so⟩:=hst p hp'
   rw[e',ei]at eo;cases eo
   have hnf:∀(fs:List Env) (Fo:List (Addr×Obj)),a3y fs Fo→∀p∈Fo,∀vs,p.2.data≠.fields vs:=fun fs Fo h=>by
    induction h with
    | nil=>intro p hp;cases hp
    | cons h1 h2 h3 _ ih=>
     intro p hp
     rcases a0o hp with rfl | hp
     ·exact h3
     ·exact ih p hp
   exact hnf _ _ hfs p hp' _ (by rw[←so.data];exact qi2)
  have st:Stk (A.deeper (fnv "_parse_varint" (a0a (stm 4)) L 51 cd)) (fnv "_parse_varint" (a0a (stm 4)) L 51 cd::fs) j2:=by
   refine a3y.stk (Fo:=(L,oL)::Fo) (.cons (by rw[t'.kind];decide) rfl (fun vs q=>by rw[dL]at q;cases q) hfs) (Around.frames_deeper hfr) fun p hp'=>?_
   rcases a0o hp' with rfl | hp'
   ·exact⟨oL,(sb.2 L hLi.symm).trans eL,slO.refl _⟩
   ·obtain⟨o,eo,so⟩:=hst p hp'
    exact⟨o,(keep p.1 o (fun hm=>hfn p hp' (zS hm)) eo).2,so⟩
  refine Rsd.made (fl:=G.gen) (W:=[it]) (V:=[it]) (s:=s) st rfl mk keep t'.kp.2 (fun b hb=>?_) fun s'' x=>KE e s'' hr x
  rw[zS hb]
  obtain⟨o,eo⟩:=ex
  refine⟨hLi,o,eo,.inr fun hm=>?_⟩
  rw[hfs.frs]at hm
  obtain⟨p,hp',e'⟩:=zM hm
  exact hfn p hp' e'
 walk_at "x"
 refine b6q (oc:=oc) (hX.glb _ _ ∅) w0 rm' ∅ ∅ (w0.old dl hWo) (.inl ∅) ∅ ?_ ?_
 rotate_left
 ·intro j2 h' e s' hi t' sb ex mk
  refine fly i _ j2 h' e s' ?_ t' sb ex mk
  have:oc.drop i=[]:=by rw[List.drop_eq_nil_iff];exact List.getElem?_eq_none_iff.mp hi
  rw[this]at hp;cases hp;rfl
 intro b u0 hb z0
 have hdrop:oc.drop i=b::oc.drop (i+1):=by
  obtain⟨hlt,e⟩:=List.getElem?_eq_some_iff.mp hb
  rw[List.drop_eq_getElem_cons hlt,e]
 rw[hdrop]at hp
 refine a2m z0 rm' (d:=dn (b % 64)) (.op (.name (d:=dn b) ∅) .int b4c) (.inl ∅) ∅ ?_
 intro y2 j1
 walk_at "x"
 refine a2y (d1z G H L cd it l i M oc r s) PassesOwn.leaving ?_ 8 ⟨i+1,b % 64,b,Nat.le_refl _,by have:=Nat.mod_lt b (show 64 > 0 by decide);show _ < 64;omega,hp,j1⟩
 intro k l3 hI'
 obtain⟨j,val,b,hk8,hval,hgo,z1⟩:=hI'
 cases k with
 | zero=>cases hgo
 | succ k=>
 refine Ts.val (d:=.int (Builtin.bitAnd (b:Int) 64)) (.op (.name (d:=dn b) ∅) .int c3x) (.int _) ∅ _ _ _ _ _ rm' z1.cd fun y3 k7=>?_
 have u1:=z1.keeps k7
 rw[d1l]
 rw[c8t]at hgo
 by_cases hb64:b / 64 % 2=1
 ·rw[if_pos hb64]at hgo
  rw[decide_eq_true hb64]
  show wpAny _ _ _ _ _ _
  have hv64:val < 64 ^ 8:=Nat.lt_of_lt_of_le hval (Nat.pow_le_pow_right (by decide) (by omega))
  walk_at "x"
  refine c3r u1 rm' (d:=.int ((val:Int) * 64)) ∅ .int (c5u (a:=(val:Int)) (b:=6) (by decide) (by decide) (by rw[Int.natAbs_natCast];exact Nat.lt_trans hv64 (by decide +kernel))) (.inl ∅) ?_
  intro i5 z2
  walk_at "x"
  refine b6q (oc:=oc) (hX.glb _ _ ∅) z2 rm' ∅ ∅ (z2.old dl hWo) (.inl ∅) ∅ ?_ ?_
  rotate_left
  ·intro j2 h' e s' hi t' sb ex mk
   refine fly j _ j2 h' e s' ?_ t' sb ex mk
   have:oc.drop j=[]:=by rw[List.drop_eq_nil_iff];exact List.getElem?_eq_none_iff.mp hi
   rw[this]at hgo;cases hgo;rfl
  intro c i4 hc j3
  have hdrop:oc.drop j=c::oc.drop (j+1):=by
   obtain⟨hlt,e⟩:=List.getElem?_eq_some_iff.mp hc
   rw[List.drop_eq_getElem_cons hlt,e]
  rw[hdrop]at hgo
  walk_at "x"
  refine c3r j3 rm' (d0:=.int ((val:Int) * 64)) (d1:=dn (c % 64)) ∅ (.op (.name (d:=dn c) ∅) .int b4c) c9d (.inl ∅) ?_
  intro d6 z3
  rw[c8x]at z3
  refine wpAny_execs_nil ⟨k,lt_succ_self _,j+1,val * 64+c % 64,c,by omega,?_,hgo,z3.pick (.cons ∅ (.cons ∅ (.cons ∅ .nil)))⟩
  have h9:9 - k=(9 - (k+1))+1:=by omega
  rw[h9,Nat.pow_succ]
  have:=Nat.mod_lt c (show 64 > 0 by decide)
  omega
 ·rw[if_neg hb64]at hgo
  rw[decide_eq_false hb64]
  show wpAny _ _ _ _ _ _
  cases hgo
  refine wpAny_execs_nil ?_
  show wpAny _ _ (execs _ _) _ _ _
  walk_at "x"
  refine wpAny_Return_some ?_
  obtain⟨v,hv,dv⟩:=u1.cd.vars "val" (dn val) ∅
  refine a1f u1.kind hv ?_
  cases dv
  obtain⟨_,_,o,eo,qo⟩:=u1.ls _ (.head _)
  refine K val _ j _ y3 rfl ⟨fun b o hb e=>u1.kp.1 b o (fun hm=>?_) e,u1.kp.2⟩ ⟨o,eo,qo⟩ rfl
  rcases zA hm with hm | hm
  ·exact nsn (hW b hm) e
  ·exact hb hm
end
end
section
section
variable {n:Nat}
inductive d1y (G:a1k) (H:Heap) (env:Env) (own:List (Str×Addr)) (W N i0 wr:List Addr) (ρ:List (Str×D)) (J:Nat→List (Addr×Ob)→List D→Prop) (St:Nat→Heap→Prop) (cenv:Env) (ownc:List (Str×Addr)) (Dl:Addr) (n:Nat) (j0:Shared) (H2:Heap) (q:Nat) (s':Shared):Prop
 | mk (vm:Str→Option Value) (ys:List Value) (e i:Nat) (x0:List (Addr×Ob)) (dys:List D):q=n+1 - i→i≤n→St i s'.heap→Fm cenv ownc s'.heap vm→s'.heap.get? Dl=some {cls:=.type "list",data:=.seq (ys:List Value).toArray e}→
   DRs (vis s'.heap (W++(N++i0))) ys dys→dys.length=i→J i x0 dys→Stt G H env own W (N++i0) ρ x0 j0 s'→(∀b o,b∉W→b∉wr→H2.get? b=some o→s'.heap.get? b=some o)→d1y G H env own W N i0 wr ρ J St cenv ownc Dl n j0 H2 q s'
theorem c7q {s u0:Shared} {old:Heap} {iter:Expr} {cl:List (Str×Addr)} {cls:Value} {use:Option (Value→Sem Unit)} {X:Prop} {Wx:List Addr}
  (hWx:∀b∈Wx,b∈W) (rm:Rm A n) (hfr:A.frames=some (env::fs)) (hf:env.frame=some L) (hLl:env.locals=L) (hfw:∀b∈frs fs,b∈W) (t:Stt G H env own W i0 ρ ol j0 s) (k:Kp s u0) (hso:Hk s.heap old) (hos:Hk old u0.heap) (itr:Itr prog w A old u0.heap (W++i0) I ds) (hsz:ds.length≤sizeLine) (sc:Sc env scope ρ ρ')
  (hcl:∀y c,cl.lookup y=some c→env.cells.lookup y=some c) (hcl':∀y,(y,NameKind.free)∈scope.names→∃c,cl.lookup y=some c)
  (J:Nat→List (Addr×Ob)→List D→Prop) (h0:J 0 ol []) (bs:D→List (Str×D))
  (hb:∀d∈ds,Bd (fun x=>scope.names.lookup x=some .local∨scope.names.lookup x=some .cell) target d (bs d))
  (step:∀(C:Addr) (cells:List (Str×Addr)) (j4:List Addr) (i:Nat) (d:D) (x0:List (Addr×Ob)) (ys:List D) (g0:Shared) (Ec:Value→Shared→Prop),ds[i]? =some d→J i x0 ys→(∀b∈i0,b∈j4)→Stt G H env own W j4 ρ x0 g0 g0→(∀b o,b∉W→s.heap.get? b=some o→g0.heap.get? b=some o)→(∀b∈j4,b∈i0∨s.heap.get? b=none)→
   Cd (G.at x0) (compEnvC scope cells C env) (W++j4) (bs d++ρ') g0→
   (∀e s'' W₁,X→(∀b∈W₁,b∈Wx)→Rsd G.gen W₁ W₁ (env::fs) g0 s'' e cls→Ec (.ref e) s'')→
   wpAny (model prog w) A (eval elt (compEnvC scope cells C env)) (fun v u0=>∃u4 d',J (i+1) u4 (ys++[d'])∧Stt G H env own W j4 ρ u4 g0 u0∧DR (vis u0.heap (W++j4)) v d') Ec g0)
  (KE:∀i x0 ys N₀ g0 s'' e W₁ V,X→J i x0 ys→Stt G H env own W (N₀++i0) ρ x0 j0 g0→(∀b∈N₀,b∉W∧b∉i0∧j0.heap.get? b=none∧H.get? b=none)→(∀b∈W₁,b∈Wx∨b∈N₀)→(∀b∈W₁,b∉N₀→b∈V)→Rsd G.gen W₁ V (env::fs) g0 s'' e cls→E (.ref e) s'')
  (KQ:∀Dl C s' m x0 ys,J ds.length x0 ys→Stt G H env own W i0 ρ x0 j0 s'→s.heap.get? C=none→s'.heap.Ns C m→C∉W++i0→j0.heap.get? C=none→H.get? C=none→DR (vis s'.heap (C::(W++i0))) (.ref Dl) (.list ys)→compPost (model prog w) A E use Q (.ref Dl) C (.ok .next) s'):
  wpAny (model prog w) A (newList []) (fun acc y2=>wpAny (model prog w) A (newFunctionEnv scope env.globals cl [] env.qual none .none (some env)) (fun cenv l3=>
   codeAny (model prog w) A (.compStart (.ListComp elt [⟨target,iter,[],0⟩] scope pos) 0 (.ref I) acc {cenv with scope:=relabel scope env}) (compPost (model prog w) A E use Q acc cenv.locals) l3) E y2) E u0:=by
 walk_at "c"
 rcases itr with⟨fp,wr,P,St,Wk,st0,hwr,hwx,hfp,hfM,hgo,hP⟩
 have c:=t.cd
 rcases k with⟨H2,t2,rfl,hk2⟩
 walk_at "u"
 refine wpAny_newList ?_
 show wpAny _ _ (newFunctionEnv scope env.globals cl [] env.qual none .none (some env)) _ _ _
 have eD:∃Dl,Dl=H2.objs.size:=⟨_,rfl⟩
 walk_at "c"
 rcases eD with⟨Dl,eD⟩
 have eC:∃C,C=H2.objs.size+1:=⟨_,rfl⟩
 rcases eC with⟨C,eC⟩
 walk_at "u"
 simp only[newFunctionEnv,Option.isSome_some,if_true]
 refine wpAny_bind (wpAny_alloc ?_)
 have eS:(H2.push {cls:=.type "list",data:=.seq ([]:List Value).toArray}).objs.size=C:=by rw[size_push,eC]
 show wpAny _ _ _ _ _ {heap:=(H2.push {cls:=.type "list",data:=.seq ([]:List Value).toArray}).push {cls:=.type "dict",data:=.dict #[]},gens:=s.gens,drawn:=s.drawn,toks:=t2,os:=s.os}
 refine wpAny_bind (wpAny_layCells _ (fun name kind cells=>by cases hkc:kind == NameKind.cell <;> simp[hkc]) _ _ _ _ ?_)
 refine wpAny_bind (wpAny_pure (wpAny_pure ?_))
 have e3:((H2.push {cls:=.type "list",data:=.seq ([]:List Value).toArray}).push {cls:=.type "dict",data:=.dict #[]}).objs.size=C+1:=by rw[size_push,eS]
 have e4:∃H4,H4=pushCells ((H2.push {cls:=.type "list",data:=.seq ([]:List Value).toArray}).push {cls:=.type "dict",data:=.dict #[]}) scope.names:=⟨_,rfl⟩
 obtain⟨H4,e4⟩:=e4
 have hl2:Hk H2 H4:=by rw[e4];exact fun b o e=>pushCells_keeps _ _ b o (get?_push_of_some _ (get?_push_of_some _ e))
 have hD4:H4.get? Dl=some {cls:=.type "list",data:=.seq ([]:List Value).toArray}:=by rw[e4,eD];exact pushCells_keeps _ _ _ _ (get?_push_of_some _ (get?_push_size _ rfl))
 have hC4:H4.Ns C (fun _=>none):=by
  rw[e4,←eS]
  exact(Heap.Ns.new _ (.type "dict")).keeps (pushCells_keeps _ _)
 have ok:CellsOk H4 (C+1) (cellsFrom (C+1) scope.names []):=by
  have:=cellsFrom_ok scope.names ((H2.push {cls:=.type "list",data:=.seq ([]:List Value).toArray}).push {cls:=.type "dict",data:=.dict #[]}) (C+1) [] ⟨fun _ _ hm=>(nomatch hm),List.Pairwise.nil⟩ (Nat.le_of_eq e3.symm)
  rw[e3]at this
  rw[e4];exact this
 show codeAny _ A (.compStart _ 0 (.ref I) (.ref H2.objs.size) (compEnvC scope (cellsFrom ((H2.push {cls:=.type "list",data:=.seq ([]:List Value).toArray}).push {cls:=.type "dict",data:=.dict #[]}).objs.size scope.names cl) (H2.push {cls:=.type "list",data:=.seq ([]:List Value).toArray}).objs.size env)) (compPost (model prog w) A E use Q (.ref H2.objs.size) (H2.push {cls:=.type "list",data:=.seq ([]:List Value).toArray}).objs.size) {heap:=pushCells ((H2.push {cls:=.type "list",data:=.seq ([]:List Value).toArray}).push {cls:=.type "dict",data:=.dict #[]}) scope.names,gens:=s.gens,drawn:=s.drawn,toks:=t2,os:=s.os}
 rw[e3,eS,←e4,←eD,a1c]
 have eo:∃ownc,ownc=cellsFrom (C+1) scope.names []:=⟨_,rfl⟩
 obtain⟨ownc,eo⟩:=eo
 rw[←eo]at ok ⊢
 have hown:∀y c,(y,c)∈ownc→(y,NameKind.cell)∈scope.names:=fun y c h=>a2g _ _ y c (eo▸h)
 have hownl:∀y c,(y,c)∈ownc→ownc.lookup y=some c:=fun y c h=>by
  rw[eo];exact a0s (a2c _ _ sc.nodup) (eo▸h)
 have hownh:∀y,scope.names.lookup y=some .cell→∃c,(y,c)∈ownc:=fun y h=>by rw[eo];exact a1s _ _ y (mem_of_lookup h)
 clear eo e4 e3
 have ecv:∃cenv,cenv=compEnvC scope (ownc++cl) C env:=⟨_,rfl⟩
 walk_at "c"
 rcases ecv with⟨cenv,ecv⟩
 have hkO:∀x k,k≠.free→scope.names.lookup x=some k→cenv.kindOf x=some k:=fun x k hk hx=>by
  rw[ecv]
  show(relabel scope env).names.lookup x=_
  rw[a1h,hx]
  have:(k == NameKind.free)=false:=by simpa using hk
  simp only[Option.map_some,this,Bool.false_and,Bool.false_eq_true,if_false]
 have F4:Fm cenv ownc H4 (fun _=>none):=by
  refine⟨⟨_,by rw[ecv];exact hC4,fun _ _=>rfl⟩,fun x c hx=>⟨hkO x _ (by decide) (a0s sc.nodup (hown x c hx)),?_,(ok.empty x c hx).1⟩,ok.apart,fun x c hx=>?_⟩
  ·rw[ecv];show(ownc++cl).lookup x=_
   rw[a1e,hownl x c hx];rfl
  ·rw[ecv];show c≠C
   exact Nat.ne_of_gt (ok.empty x c hx).2
 have hok:∀x,(scope.names.lookup x=some .local∨scope.names.lookup x=some .cell)→Lo cenv ownc x:=fun x hx=>by
  rcases hx with hx | hx
  ·exact .inl (hkO x _ (by decide) hx)
  ·exact .inr (hownh x hx)
 have hfl:∀b∈Dl::fms cenv ownc,H2.objs.size≤b:=fun b hb=>by
  rcases a0o hb with rfl | hb
  ·omega
  ·rcases a0o hb with rfl | hb
   ·rw[ecv];show H2.objs.size≤C;omega
   ·obtain⟨⟨x,c⟩,hm,rfl⟩:=zM hb
    have:=(ok.empty x c hm).2
    show H2.objs.size≤c;omega
 have hDf:Dl∉fms cenv ownc:=fun hm=>by
  rcases zC hm with e | hm
  ·rw[ecv]at e;have:Dl=C:=e;omega
  ·obtain⟨⟨x,c⟩,hm,e⟩:=zM hm
   have:=(ok.empty x c hm).2
   have e':c=Dl:=e
   omega
 have hfpn:∀b∈fp,b∉Dl::fms cenv ownc:=fun b hb hm=>by obtain⟨_,h0⟩:=hfp b hb;have h1:=lt_size h0;have h2:=hfl b hm;exact absurd h1 (Nat.not_lt.mpr h2)
 have hwrn:∀b∈Dl::fms cenv ownc,b∉wr:=fun b hb hm=>hfpn b (Wk.sub b hm) hb
 have hnone:∀b∈Dl::fms cenv ownc,H2.get? b=none:=fun b hb=>a0c (hfl b hb)
 have eN:∃N,N=(Dl::fms cenv ownc)++wr:=⟨_,rfl⟩
 rcases eN with⟨N,eN⟩
 walk_at "u"
 have hNf:∀b∈fms cenv ownc,b∈N:=fun b hb=>by rw[eN];exact zB (.inl (.tail _ hb))
 have hND:Dl∈N:=by rw[eN];exact zB (.inl (.head _))
 have hNw:∀b∈wr,b∈N:=fun b hb=>by rw[eN];exact zB (.inr hb)
 have hNs:∀b∈N,s.heap.get? b=none:=fun b hb=>by
  rw[eN]at hb
  cases e:s.heap.get? b with
  | none=>rfl
  | some o=>
   rcases zA hb with hb | hb
   ·exact nsn (hnone b hb) (hk2 b o e)
   ·exact nsn (hwr b hb) (hso b o e)
 have hNW:∀b∈N,b∉W:=fun b hb hm=>by obtain⟨o,e⟩:=t.mem b (zB (.inl hm));exact nsn (hNs b hb) e
 have hNM:∀b∈N,b∉i0:=fun b hb hm=>by obtain⟨o,e⟩:=t.mem b (zB (.inr hm));exact nsn (hNs b hb) e
 have hN0:∀b∈N,j0.heap.get? b=none:=fun b hb=>by
  cases e:j0.heap.get? b with
  | none=>rfl
  | some o=>exact nsn (hNs b hb) (t.kp.kept b o (hNW b hb) e)
 have hNH:∀b∈N,H.get? b=none:=fun b hb=>by
  cases e:H.get? b with
  | none=>rfl
  | some o=>exact nsn (hNs b hb) (t.kH b o e)
 have hNx:∀(h:Heap) (vm:Str→Option Value) (i:Nat),(∃o,h.get? Dl=some o)→Fm cenv ownc h vm→St i h→∀b∈N,∃o,h.get? b=some o:=fun h vm i hD F st b hb=>by
  rw[eN]at hb
  rcases zA hb with hb | hb
  ·rcases a0o hb with rfl | hb
   ·exact hD
   ·exact F.there b hb
  ·exact hwx i h st b hb
 have hwN:∀b,b∉N→b∉wr:=fun b hb hm=>hb (hNw b hm)
 have st4:St 0 H4:=Wk.frame _ _ _ st0 fun b _ o e=>hl2 b o e
 have t4:Stt G H env own W (N++i0) ρ ol j0 {s with heap:=H4,toks:=t2}:=t.more (N:=N) ⟨H4,t2,rfl,fun b o e=>hl2 b o (hk2 b o e)⟩ hNs (hNx H4 _ 0 ⟨_,hD4⟩ F4 st4)
 have hCN:C∈N:=hNf C (by rw[ecv];exact .head _)
 have hcd:∀(s':Shared) (d:D) (vm:Str→Option Value) (x0:List (Addr×Ob)),Stt G H env own W (N++i0) ρ x0 j0 s'→Fm cenv ownc s'.heap vm→
   (∀x dx,(bs d).lookup x=some dx→Va cenv ownc (vis s'.heap (W++(N++i0))) vm x dx)→
   Cd (G.at x0) cenv (W++(N++i0)) (bs d++ρ') s':=by
  intro s' d vm x0 t' F hbs
  have c':=t'.cd
  refine⟨c'.top,?_,?_,?_,fun x d' hx=>?_,t'.mem,fun y hy=>?_,c'.obs⟩
  ·rw[ecv];exact sc.kind
  ·rw[ecv];exact c'.glob
  ·rw[ecv];exact c'.bi
  ·rw[a1e]at hx
   cases hxb:(bs d).lookup x with
   | some dx=>
    rw[hxb]at hx
    cases hx
    obtain⟨h1,vx,h2,h3⟩:=hbs x _ hxb
    refine⟨vx,F.name ?_ h2,h3⟩
    rcases h1 with h1 | ⟨c',h1⟩
    ·exact .inl h1
    ·exact .inr ⟨c',hownl x c' h1⟩
   | none=>
    rw[hxb]at hx
    have hx':ρ'.lookup x=some d':=by simpa using hx
    walk_at "c"
    rcases sc.cap x d' hx' with⟨h1,h2⟩
    rcases c'.vars x d' h1 with⟨v,hv,dv⟩
    walk_at "u"
    refine⟨v,?_,dv⟩
    rw[ecv];exact a9b sc hcl hcl' hown h2 hv (Hk.refl _)
  ·rw[ecv]at hy ⊢
   show ∃c,(ownc++cl).lookup y=some c
   rw[a1e]
   have hy':(relabel scope env).names.lookup y=some .cell∨(relabel scope env).names.lookup y=some .free:=hy
   rw[a1h]at hy'
   cases hs:scope.names.lookup y with
   | none=>rw[hs]at hy';rcases hy' with h | h <;> cases h
   | some kd=>
    cases ho:ownc.lookup y with
    | some c'=>exact⟨c',rfl⟩
    | none=>
     rw[hs]at hy'
     have:kd= .cell∨kd= .free:=by
      simp only[Option.map_some]at hy'
      cases kd <;> simp at hy' <;> simp
     rcases this with rfl | rfl
     ·obtain⟨c',hc'⟩:=hownh y hs
      exact nsn ho (hownl y c' hc')
     ·obtain⟨c',hc'⟩:=hcl' y (mem_of_lookup hs)
      exact⟨c',hc'⟩
 have loop:codeAny (model prog w) A (.compLoop (.ListComp elt [⟨target,iter,[],0⟩] scope pos) 0 (.ref I) (.ref Dl) cenv) (compPost (model prog w) A E use Q (.ref Dl) C) {heap:=H4,gens:=s.gens,drawn:=s.drawn,toks:=t2,os:=s.os}:=by
  refine a6n
   (d1y G H env own W N i0 wr ρ J St cenv ownc Dl ds.length j0 H2) ?_ (ds.length+1)
   ⟨_,[],_,0,ol,[],rfl,Nat.zero_le _,st4,F4,hD4,.nil,rfl,h0,t4,fun b o _ _ e=>hl2 b o e⟩
  intro q s' hI'
  obtain⟨vm,ys,ep,i,x0,dys,rfl,hi,st,F,hD,ddys,hlen,hJ,t',hkp⟩:=hI'
  by_cases hin:i < ds.length
  ·refine Wk.item i _ _ _ hin st fun v j2 x6 hv y6 y4=>?_
   obtain⟨d,hd,fC,a1,a2,dv⟩:=hP i v hv
   have hmem:d∈ds:=mem_of_getElem? hd
   have x7:Fm cenv ownc j2 vm:=F.keeps fun b hb o e=>y4 b o (hwrn b (.tail _ hb)) e
   have x8:=y4 Dl _ (hwrn Dl (.head _)) hD
   have dC:∀b o,b∉W→b∉wr→H2.get? b=some o→j2.get? b=some o:=fun b o h1 h2 e=>y4 b o h2 (hkp b o h1 h2 e)
   have w0:Stt G H env own W (N++i0) ρ x0 j0 {s' with heap:=j2,toks:=x6}:=t'.turn (fun b o hb e=>y4 b o (hwN b hb) e) (hNx j2 vm _ ⟨_,x8⟩ x7 y6) hNW hN0 hNH
   have y9:DR (vis j2 (W++(N++i0))) v d:=dv.mono fun a o e=>by
    obtain⟨e1,e2⟩:=a0b e
    have haw:a∉wr:=fun hm=>by exact nsn (hwr a hm) (a2 a o e1)
    have haW:a∉W:=fun hm=>e2 (zB (.inl hm))
    refine a0v (dC a o haW haw (a1 a o e1)) fun hm=>?_
    rcases zA hm with hm | hm
    ·exact haW hm
    ·rcases zA hm with hm | hm
     ·rw[eN]at hm
      rcases zA hm with hm | hm
      ·exact nsn (hnone a hm) (a1 a o e1)
      ·exact haw hm
     ·exact e2 (zB (.inr hm))
   have hlt1:∀b∈fms cenv ownc,b < j2.objs.size:=fun b hb=>let⟨o,e⟩:=x7.there b hb;lt_size e
   have Bd':Bd (fun x=>Lo cenv ownc x) target d (bs d):=(hb d hmem).imp hok
   refine hgo target (i+1) v _ _ _ y6 ?_
   refine a8a (s:={s' with heap:=j2,toks:=x6}) x7 (by rw[ecv];exact sc.kind) rm.hd Bd' y9 (fun b hb=>zB (.inr (zB (.inl (hNf b hb))))) hlt1 fun v4 i7 c7 i9 i6 jA _=>?_
   have a7:=i6 Dl _ hDf x8
   have pA:St (i+1) v4:=Wk.frame _ _ _ y6 fun b hb o e=>i6 b o (fun hm=>hfpn b hb (.tail _ hm)) e
   have z0:Stt G H env own W (N++i0) ρ x0 j0 {s' with heap:=v4,toks:=i7}:=w0.turn (fun b o hb e=>i6 b o (fun hm=>hb (hNf b hm)) e) (hNx v4 c7 _ ⟨_,a7⟩ i9 pA) hNW hN0 hNH
   have cC:∀b o,b∉W→b∉wr→H2.get? b=some o→v4.get? b=some o:=fun b o h1 h2 e=>i6 b o (fun hm=>by exact nsn (hnone b (.tail _ hm)) e) (dC b o h1 h2 e)
   have dB:=hcd {s' with heap:=v4,toks:=i7} d c7 x0 z0 i9 jA
   have up3:∀a o,vis s'.heap (W++(N++i0)) a=some o→vis v4 (W++(N++i0)) a=some o:=by
    refine a0x fun b o e hb=>?_
    have hbN:b∉N:=fun hm=>hb (zB (.inr (zB (.inl hm))))
    exact i6 b o (fun hm=>hbN (hNf b hm)) (y4 b o (hwN b hbN) e)
   have cD:=ddys.mono up3
   refine wpAny_tests_nil ?_
   show wpAny _ _ _ _ _ _
   have stp:=step C (ownc++cl) (N++i0) i d x0 dys {s' with heap:=v4,toks:=i7} (notedBy (model prog w) A cenv fun e s'=>compPost (model prog w) A E use Q (.ref Dl) C (.error e) s') hd hJ (fun b hb=>zB (.inr hb)) z0.self (fun b o hbW e=>cC b o hbW (fun hm=>by exact nsn (hNs b (hNw b hm)) e) (hk2 b o e)) (fun b hb=>by
    rcases zA hb with hb | hb
    ·exact .inr (hNs b hb)
    ·exact .inl hb)
   rw[←ecv]at stp
   refine wpAny_mono (stp dB fun e s'' W₁ hX b4 hR=>?_) (fun y l3 l9=>?_) fun _ _ h=>h
   ·-- raised
    show wpAny _ A (noteFrame (.ref e) cenv) _ _ _
    refine hR.note hfr hf (by rw[ecv];rfl) fun y2 vD=>?_
    have hCF:C∉frs (env::fs):=fun hm=>by
     have:C∈W:=by
      have e':frs (env::fs)=L::frs fs:=by simp[frs,hf]
      rw[e']at hm
      rcases zC hm with h1 | h1
      ·rw[h1,←hLl];exact t.sub _ (.head _)
      ·exact hfw _ h1
     exact hNW C hCN this
    have hCW:C∉W₁:=fun hm=>hNW C hCN (hWx C (b4 C hm))
    obtain⟨m,⟨oC,es,epC,eC1,eC2,eC3⟩,_⟩:=i9.loc
    rw[show cenv.locals=C from by rw[ecv];rfl]at eC1
    have hC3:y2.heap.get? C=some oC:=by
     obtain⟨z4,sr,f,kk,_⟩:=vD
     exact f.kept C oC hCF (kk C oC hCW eC1)
    have res:∃m,y2.heap.Ns C m∧∀h',Heap.SameBut C y2.heap h'→∀cenv:Env,cenv.locals=C→wpAny (model prog w) A (PySem.passOn "comprehension.variables-let-go" (.ref e) cenv:Sem Value) (fun _ _=>False) E {y2 with heap:=h'}:=by
     refine⟨m,⟨oC,es,epC,hC3,eC2,eC3⟩,fun h' hs' cenv' _=>?_⟩
     refine(vD.hide (o:=oC) eC1 hCW hCF hCW hs').pass fun y3 qF=>?_
     refine KE i x0 dys N _ y3 e _ _ hX hJ z0 (fun b hb=>⟨hNW b hb,hNM b hb,hN0 b hb,hNH b hb⟩) (fun b hb=>?_) (fun b hb hbN=>?_) qF
     ·rcases a0o hb with rfl | hb
      ·exact .inr hCN
      ·exact .inl (b4 b hb)
     ·rcases a0o hb with rfl | hb
      ·exact absurd hCN hbN
      ·exact hb
    show compPost (model prog w) A E use Q (.ref Dl) C (.error (.ref e)) y2
    cases use <;> exact res
   ·obtain⟨u4,d',v9,z1,dy⟩:=l9
    have z6:∀b o,b∉W→v4.get? b=some o→l3.heap.get? b=some o:=fun b o hb e=>z1.kp.1 b o hb e
    have sF:=z6 Dl _ (hNW Dl hND) a7
    have hys:ys.length≤sizeLine:=by rw[ddys.length,hlen];omega
    have xB:Heap.PlainList l3.heap Dl ys.toArray:=⟨ep,sF⟩
    refine wpAny_list_append_plain (hsz:=by simpa using hys) xB fun k6 wB sB=>?_
    obtain⟨cB,mC⟩:=wB
    have hne:∀b,b≠Dl→∀o,l3.heap.get? b=some o→k6.get? b=some o:=fun b hb o e=>(sB.2 b hb).trans e
    have hfW:∀b∈fms cenv ownc,b∉W:=fun b hb=>hNW b (hNf b hb)
    have eG:Fm cenv ownc k6 c7:=i9.keeps fun b hb o e=>hne b (fun e'=>hDf (e'▸hb)) o (z6 b o (hfW b hb) e)
    have hfpW:∀b∈fp,b∉W:=fun b hb hm=>hfM b hb (zB (.inl hm))
    have lD:St (i+1) k6:=Wk.frame _ _ _ pA fun b hb o e=>hne b (fun e'=>hfpn b hb (e'▸.head _)) o (z6 b o (hfpW b hb) e)
    have lC:k6.get? Dl=some {cls:=.type "list",data:=.seq (ys++[y]).toArray cB}:=by simpa using mC
    have u1:Stt G H env own W (N++i0) ρ u4 j0 {l3 with heap:=k6}:=(z1.base z0.kp).turn (fun b o hb e=>hne b (fun e'=>hb (e'▸hND)) o e) (hNx k6 c7 _ ⟨_,lC⟩ eG lD) hNW hN0 hNH
    refine⟨ds.length+1 - (i+1),by omega,c7,ys++[y],cB,i+1,u4,dys++[d'],rfl,hin,lD,eG,lC,?_,by rw[length_append,hlen];rfl,v9,u1,fun b o h1 h2 e=>hne b (fun e'=>by exact nsn (hnone b (e'▸.head _)) e) o (z6 b o h1 (cC b o h1 h2 e))⟩
    have up4:∀a o,vis v4 (W++(N++i0)) a=some o→vis l3.heap (W++(N++i0)) a=some o:=a0x fun b o e hb=>z6 b o (fun hm=>hb (zB (.inl hm))) e
    have up5:∀a o,vis l3.heap (W++(N++i0)) a=some o→vis k6 (W++(N++i0)) a=some o:=a0x fun b o e hb=>hne b (fun e'=>hb (zB (.inr (zB (.inl (e'▸hND)))))) o e
    exact((cD.mono up4).append (.cons dy .nil)).mono up5
  ·have hi':i=ds.length:=by omega
   rw[hi']at st
   rw[hi']at hJ
   refine Wk.done _ _ _ st fun j2 x6 y4=>?_
   have x7:Fm cenv ownc j2 vm:=F.keeps fun b hb o e=>y4 b o (hwrn b (.tail _ hb)) e
   obtain⟨m,hn,_⟩:=x7.loc
   rw[show cenv.locals=C from by rw[ecv];rfl]at hn
   have x8:=y4 Dl _ (hwrn Dl (.head _)) hD
   have w0:Stt G H env own W i0 ρ x0 j0 {s' with heap:=j2,toks:=x6}:=t'.drop (fun b o hb e=>y4 b o (hwN b hb) e) hNW hNM hN0 hNH
   refine KQ Dl C _ m x0 dys hJ w0 (hNs C hCN) hn (fun hm=>(zA hm).elim (hNW C hCN) (hNM C hCN)) (hN0 C hCN) (hNH C hCN) ?_
   have up:∀a o,vis s'.heap (W++(N++i0)) a=some o→vis j2 (C::(W++i0)) a=some o:=fun a o e=>by
    obtain⟨e1,e2⟩:=a0b e
    have haN:a∉N:=fun hm=>e2 (zB (.inr (zB (.inl hm))))
    refine a0v (y4 a o (hwN a haN) e1) fun hm=>?_
    rcases a0o hm with rfl | hm
    ·exact haN hCN
    ·rcases zA hm with hm | hm
     ·exact e2 (zB (.inl hm))
     ·exact e2 (zB (.inr (zB (.inr hm))))
   refine .list (a0v x8 fun hm=>?_) (ddys.mono up)
   rcases zC hm with e | hm
   ·have:Dl=C:=e;omega
   ·rcases zA hm with hm | hm
    ·exact hNW Dl hND hm
    ·exact hNM Dl hND hm
 rw[←ecv]
 exact codeAny_compStart_list loop (Wk.self 0 _ _ _ st4 loop)
end
end
section
open PySem.SeqAt
noncomputable def b9w (vs:List Nat) (x:Option (Option (List Nat×List Nat))):Option (Option (List Nat×List Nat)):=x.map fun y=>y.map fun p=>(vs++p.1,p.2)
noncomputable def oob {α β:Type} (x:Option (Option α)) (f:α→Option (Option β)):Option (Option β):=x.bind fun y=>y.elim (some none) f
theorem a5u {α β:Type} {x:Option (Option α)} {f:α→Option (Option β)} {R:Option β} (h:oob x f=some R):∃q,x=some q∧(q=none→R=none)∧∀a,q=some a→f a=some R:=by
 obtain⟨q,hq,h⟩:=bind_eq_some_iff.mp h
 exact⟨q,hq,fun e=>by rw[e]at h;exact(Option.some.inj h).symm,fun a e=>by rw[e]at h;exact h⟩
theorem b8y {P:Prop} [Decidable P] {α:Type} {x:Option α} {r:α} (h:(if P then x else none)=some r):P∧x=some r:=by
 by_cases e:P
 ·rw[if_pos e]at h;exact⟨e,h⟩
 ·exact nsn (if_neg e) h
noncomputable def a2r (lim:Nat):Nat→List Nat→Option (Option (List Nat×List Nat))
 | 0,r=>some (some ([],r))
 | n+1,r=>oob (a6j r) fun p=>if p.1 < lim then b9w [p.1] (a2r lim n p.2)else none
noncomputable def a4v (lim:Nat) (r:List Nat):Option (Option (List Nat×List Nat)):=oob (a6j r) fun p=>if p.1≤1000 then a2r lim p.1 p.2 else none
section
variable {n:Nat}
theorem c1g {s:Shared} {t:Tok} (rm:Rm A n) (hm:∀b∈M,∃o,s.heap.get? b=some o) (hN:N < 2 ^ 62)
  (K:∀I s',Kp s s'→Itr prog w A s.heap s'.heap M I ((List.range N).map dn)→Q (.ref I) s'):wpAny (model prog w) A (call (.type "range") [.int N t]) (fun v g0=>wpAny (model prog w) A (pyIter v) Q E g0) E s:=by
 have fresh:∀{a:Addr},s.heap.objs.size≤a→a∉M:=fun{a} ha hb=>by
  obtain⟨o,e⟩:=hm a hb
  exact absurd (lt_size e) (Nat.not_lt.mpr ha)
 refine call_range_1 ?_
 refine wpAny_pyIter_range (IsRange.new ..) (small_one (by decide) (by decide) (by omega) (by omega)) ?_
 refine K _ _ ⟨_,_,rfl,Hk.trans (Hk.push _ _) (Hk.push _ _)⟩ ?_
 have hsz:Builtin.Range.rangeSize 0 (N:Int) 1=(N:Int):=by rw[rangeSize_one];split <;> omega
 have W:=(Walks.range (prog:=prog) (w:=w) rm.hd (s.heap.push {cls:=.type "range",data:=.fields #[.int 0 s.toks,.int N t,.int 1 (s.toks+1)]}).objs.size 0 1 N).bound
 rw[show(Walks prog w A _ _ _ N _ _)=(Walks prog w A _ _ _ ((List.range N).map dn).length _ _)from by rw[length_map,length_range]]at W
 refine⟨_,_,_,_,W,?_,?_,?_,?_,?_,?_,?_⟩
 ·have e1:(0+((0:Nat):Int) * 1)=0:=by simp
  have e2:((N:Int) - ((0:Nat):Int))=Builtin.Range.rangeSize 0 N 1:=by rw[hsz];simp
  rw[e1,e2]
  exact get?_push_size _ rfl
 ·intro b hb;rw[zS hb];exact a0c (by rw[size_push];exact Nat.le_succ _)
 ·intro j h st b hb;rw[zS hb];exact⟨_,st⟩
 ·intro b hb;rw[zS hb];exact⟨_,get?_push_size _ rfl⟩
 ·intro b hb;rw[zS hb];exact fresh (by rw[size_push];exact Nat.le_succ _)
 ·intro tgt i v s Q E st hQ;exact b2s st rfl rfl (by decide) hQ
 ·intro j v hI'
  obtain⟨hj,t,rfl⟩:=hI'
  refine⟨dn j,by simp[hj],s.heap,Hk.trans (Hk.push _ _) (Hk.push _ _),Hk.refl _,?_⟩
  rw[show(0+(j:Int) * 1)=(j:Int) by omega]
  exact .int _ _
theorem Stt.stack {s:Shared} (t:Stt G H env own W i0 ρ ol j0 s) (hfs:a3y fs Fo) (hFo:∀p∈fol Fo,p∈ol) (hf:env.frame=some env.locals):
  ∃oL,a3y (env::fs) ((env.locals,oL)::Fo)∧(∀p∈(env.locals,oL)::Fo,∃o,s.heap.get? p.1=some o∧slO p.2 o)∧Wd G H (W++i0) ((env.locals,.raw (slO oL))::ol) s:=by
 obtain⟨oL,e1,e2,wd⟩:=t.wdL
 refine⟨oL,.cons (by rw[t.kind];decide) hf e2 hfs,fun p hp=>?_,wd⟩
 rcases a0o hp with rfl | hp
 ·exact⟨oL,e1,slO.refl _⟩
 ·obtain⟨_,_,o,e,r⟩:=t.ls _ (hFo (p.1,.raw (slO p.2)) (zN ⟨p,hp,rfl⟩))
  exact⟨o,e,r⟩
theorem c8s (hX:GX G) {s:Shared} {it l:Addr} {j:Nat} {r:Option (Nat×List Nat)}
  (rm:Rm A 2) (t:Stt G H env own W i0 ρ ((it,.raw (qIt l j))::ol) j0 s) (c:Cd (G.at ((it,.raw (qIt l j))::ol)) env' (W++i0) ρ' s) (hx:env'.kindOf "_parse_varint"=some .globalImplicit) (hy:ρ'.lookup ("iterator":Str)=some (.val (.ref it))) (dl:DR (vis s.heap (W++i0)) (.ref l) (a1l oc))
  (hfr:A.frames=some (env::fs)) (hf:env.frame=some env.locals) (hfs:a3y fs Fo) (hFo:∀p∈fol Fo,p∈ol) (hp:a6j (oc.drop j)=some r)
  (K:∀v rest j' tk s',r=some (v,rest)→Kw G.gen [it] s s'→Stt G H env own W i0 ρ ((it,.raw (qIt l j'))::ol) j0 s'→oc.drop j'=rest→Q (.int (v:Nat) tk) s')
  (KE:∀e s',r=none→Rsd G.gen [it] [it] (env::fs) s s' e (.type "StopIteration")→E (.ref e) s'):wpAny (model prog w) A (eval (.Call (.Name "_parse_varint" p1) [.Name "iterator" p2] [] p3) env') Q E s:=by
 obtain⟨name,doc,pm,an,cdv,ct,oc',od,osl,ox,vsx,tq,hfo,_⟩:=hX.pv.fn
 refine wpAny_Call_NameR (a1i c.kind c.glob c.top hx (hX.glb _ _ ∅) (Calls.callWith_function (a0p (n:=2) (G:=G.at _) (.one (.name (d:=.val (.ref it)) hy)) (by simp) rm c fun vs g0 l0 dvs=>⟨⟨(c.keeps l0).top.objs 51 _ hfo,rfl⟩,?_⟩)) (by decide))
 cases dvs with
 | cons d0 d1=>
 cases d1
 cases d0
 have w0:=t.keeps l0
 obtain⟨oL,f1,f2,wd⟩:=w0.stack hfs (fun p hp=>.tail _ (hFo p hp)) hf
 refine d0t hX (oc:=oc) (i:=j) rm (wd.pick (fun p hp=>by rw[zS hp];exact .tail _ (.head _)) (by simp)) (dl.mono l0.hk.vis) f1 hfr f2 hp (fun v rest j' tk s' hr kw ho hd=>?_) fun e s' hr x=>?_
 ·obtain⟨o,eo,qo⟩:=ho
  exact K v rest j' tk s' hr ((l0.kw (fl:=G.gen) (W:=[it])).trans kw) (w0.set1 kw eo qo) hd
 ·refine KE e s' hr ?_
  obtain⟨z4,sr,f,kk,rr,hv⟩:=x
  have k1:=(l0.kw (fl:=G.gen) (W:=[it]))
  exact⟨z4,sr,f,fun b o hb e=>kk b o hb (l0.hk b o e),⟨k1.2.1.trans rr.1,rr.2.1.trans k1.2.2.1,rr.2.2.trans k1.2.2.2⟩,hv⟩
theorem a7b {k:Nat} {r:List Nat} {R} (h:a2r lim (k+1) r=some R):∃q,a6j r=some q∧(q=none→R=none)∧∀v r',q=some (v,r')→v < lim∧b9w [v] (a2r lim k r')=some R:=
 let⟨q,a,b,c⟩:=a5u (h:oob _ _=_);⟨q,a,b,fun v r' e=>b8y (c (v,r') e)⟩
theorem a8r {r:List Nat} {R} (h:a4v lim r=some R):∃q,a6j r=some q∧(q=none→R=none)∧∀v r',q=some (v,r')→v≤1000∧a2r lim v r'=some R:=
 let⟨q,a,b,c⟩:=a5u (h:oob _ _=_);⟨q,a,b,fun v r' e=>b8y (c (v,r') e)⟩
theorem c3o (a b:List Nat) (x):b9w a (b9w b x)=b9w (a++b) x:=by
 cases x with
 | none=>rfl
 | some y=>
  cases y with
  | none=>rfl
  | some p=>simp[b9w]
theorem b9m (hX:GX G) {s:Shared} {it l:Addr} {j:Nat} {q1 q2 q3 kp rp rc cpos:Pos} {R:Option (List Nat×List Nat)} {use:Option (Value→Sem Unit)} {conv:Nat→D}
  (rm:Rm A 2) (t:Stt G H env own W i0 ρ ((it,.raw (qIt l j))::ol) j0 s) (hx:env.kindOf "_parse_varint"=some .globalImplicit) (hxr:env.kindOf "range"=some .globalImplicit) (hy:ρ.lookup ("iterator":Str)=some (.val (.ref it))) (dl:DR (vis s.heap (W++i0)) (.ref l) (a1l oc))
  (hfr:A.frames=some (env::fs)) (hf:env.frame=some env.locals) (hfs:a3y fs Fo) (hFo:∀p∈fol Fo,p∈ol) (hp:a4v lim (oc.drop j)=some R) (sc:Sc env scope ρ [("iterator",.val (.ref it))]) (hsk:scope.names.lookup ("k":Str)=some .local) (hsp:scope.names.lookup ("_parse_varint":Str)=some .globalImplicit)
  (helt:∀(C:Addr) (cells:List (Str×Addr)) (j4:List Addr) (y0:List (Str×D)) (x0:List (Addr×Ob)) (g0:Shared) (Q:Value→Shared→Prop) (E:Value→Shared→Prop),Cd (G.at x0) (compEnvC scope cells C env) j4 y0 g0→
   wpAny (model prog w) A (eval (.Call (.Name "_parse_varint" q1) [.Name "iterator" q2] [] q3) (compEnvC scope cells C env)) (fun v u0=>∃(x:Nat) (t:Tok),v= .int (x:Int) t∧x < lim∧∀v' k,(∀P,DR P v' (conv x))→Q v' {u0 with toks:=k}) E g0→wpAny (model prog w) A (eval elt (compEnvC scope cells C env)) Q E g0)
  (KE:∀x0 N₀ g0 s'' e W₁ V,R=none→(∃j',x0=(it,.raw (qIt l j'))::ol)→Stt G H env own W (N₀++i0) ρ x0 j0 g0→(∀b∈N₀,b∉W∧b∉i0∧j0.heap.get? b=none∧H.get? b=none)→(∀b∈W₁,b∈[it]∨b∈N₀)→(∀b∈W₁,b∉N₀→b∈V)→Rsd G.gen W₁ V (env::fs) g0 s'' e (.type "StopIteration")→E (.ref e) s'')
  (KQ:∀Dl C s' m j' vs rest,R=some (vs,rest)→oc.drop j'=rest→Stt G H env own W i0 ρ ((it,.raw (qIt l j'))::ol) j0 s'→s'.heap.Ns C m→C∉W++i0→j0.heap.get? C=none→H.get? C=none→DR (vis s'.heap (C::(W++i0))) (.ref Dl) (.list (vs.map conv))→compPost (model prog w) A E use Q (.ref Dl) C (.ok .next) s')
  (hs:∀x,foldedSetIterable (.Call (.Name "range" rp) [.Call (.Name "_parse_varint" p1) [.Name "iterator" p2] [] p3] [] rc) env x=pure x:=by intro _;rfl):
  wpAny (model prog w) A (comprehension (.ListComp elt [⟨.Name "k" kp,.Call (.Name "range" rp) [.Call (.Name "_parse_varint" p1) [.Name "iterator" p2] [] p3] [] rc,[],0⟩] scope pos) scope env cpos (newList []) false (eval (.Call (.Name "range" rp) [.Call (.Name "_parse_varint" p1) [.Name "iterator" p2] [] p3] [] rc) env) use) Q E s:=by
 walk_at "c"
 rcases a4p (scope:=scope) (env:=env) fun y hy=>t.cd.cs y (sc.free y hy)with⟨cl,hclos,hcl,hcl'⟩
 rcases a8r hp with⟨q,hq,hqn,hqs⟩
 walk_at "u"
 have hfW:∀b∈frs fs,b∈W:=fun b hb=>by
  rw[hfs.frs]at hb
  obtain⟨p,hp',e⟩:=zM hb
  have e':p.1=b:=e
  have:=(t.ls _ (.tail _ (hFo (p.1,.raw (slO p.2)) (zN ⟨p,hp',rfl⟩)))).wW
  exact e'▸this
 have hitW:=(t.ls _ (.head _))
 refine wpAny_comprehension_free rfl hs hclos sc.kind sc.names ?_
 refine wpAny_Call_NameR (a1v (v:=.type "range") t.kind t.glob t.bi t.top hxr (hX.glb _ _ ∅) boot_range (by decide) ?_)
 refine PySem.callWith_type (T:="range") rfl (Calls.evalArgs_plain (Calls.spliced_cons ?_))
 refine c8s hX rm t t.cd hx hy dl hfr hf hfs hFo hq (fun N rest uG tk g0 hr eF w0 wA=>?_) fun e s' hr x=>?_
 rotate_left
 ·refine KE _ [] s s' e [it] [it] (hqn hr) ⟨j,rfl⟩ t (fun b hb=>by cases hb) (fun b hb=>.inl hb) (fun b hb _=>hb) x
 refine Calls.spliced_nil ?_
 obtain⟨hN,hpN⟩:=hqs N rest hr
 refine c1g rm w0.mem (by omega) fun I u0 y1 itr=>?_
 refine c7q (Wx:=[it]) (fun b hb=>by rw[zS hb];exact hitW.1) (X:=R=none) (fs:=fs) (cls:=.type "StopIteration") (ρ':=[("iterator",.val (.ref it))]) rm hfr hf rfl hfW w0 y1 (Hk.refl _) y1.hk itr (by rw[length_map,length_range];exact Nat.le_trans hN (by decide)) sc hcl hcl'
  (fun i x0 ys=>∃j' vs,x0=(it,.raw (qIt l j'))::ol∧ys=vs.map conv∧vs.length=i∧b9w vs (a2r lim (N - i) (oc.drop j'))=some R) ⟨uG,[],rfl,rfl,rfl,by rw[wA];show b9w [] (a2r lim N rest)=_;rw[hpN];cases R <;> rfl⟩
  (fun d=>[("k",d)]) (fun d _=>.name (.inl hsk)) ?_ ?_ ?_
 ·rintro C cells j4 i d x0 ys y2 Ec hd ⟨j',vs,rfl,rfl,hvl,hadd⟩ hMM j1 hkeep hM1 dD hEc
  have hi:i < N:=by have:=(List.getElem?_eq_some_iff.mp hd).1;simpa using this
  obtain⟨k',hk'⟩:∃k',N - i=k'+1:=⟨N - i - 1,by omega⟩
  rw[hk']at hadd
  obtain⟨z,hz⟩:∃z,a2r lim (k'+1) (oc.drop j')=some z:=by
   cases hz:a2r lim (k'+1) (oc.drop j')with
   | none=>rw[hz]at hadd;cases hadd
   | some z=>exact⟨z,rfl⟩
  obtain⟨q',hq',hqn',hqs'⟩:=a7b hz
  rw[hz]at hadd
  have hzR:z=none→R=none:=fun e=>by subst e;cases hadd;rfl
  have xF:DR (vis y2.heap (W++j4)) (.ref l) (a1l oc):=dl.mono fun a o e=>by
   obtain⟨e1,e2⟩:=a0b e
   have haW:a∉W:=fun hm=>e2 (zB (.inl hm))
   have ha1:g0.heap.get? a=some o:=eF.1 a o (fun hm=>haW (by rw[zS hm];exact hitW.1)) e1
   refine a0v (hkeep a o haW ha1) fun hm=>?_
   rcases zA hm with hm | hm
   ·exact haW hm
   ·rcases hM1 a hm with h | h
    ·exact e2 (zB (.inr h))
    ·exact nsn h ha1
  refine helt C cells _ _ _ y2 _ _ dD ?_
  refine c8s hX rm j1 dD ?_ (by rfl) xF hfr hf hfs hFo hq' (fun v rest' eE i7 l3 d7 sH z1 mF=>?_) fun e s' hr x=>?_
  ·show(relabel scope env).names.lookup _=_
   rw[a1h,hsp];rfl
  ·obtain⟨hvl2,hadd2⟩:=hqs' v rest' d7
   refine⟨v,i7,rfl,hvl2,fun v' k dv'=>⟨_,conv v,⟨eE,vs++[v],rfl,by simp,by simp[hvl],?_⟩,z1.keeps (Kp.tok _ _),dv' _⟩⟩
   rw[show N - (i+1)=k' by omega,mF,←c3o,hadd2];exact hadd
  ·exact hEc e s' [it] (hzR (hqn' hr)) (fun b hb=>hb) x
 ·rintro i x0 ys N₀ y2 s'' e W₁ V hX' ⟨j',vs,rfl,rfl,hvl,hadd⟩ j1 u5 b4 hV x
  exact KE _ N₀ y2 s'' e W₁ V hX' ⟨j',rfl⟩ j1 u5 b4 hV x
 ·rintro Dl C s' m x0 ys ⟨j',vs,rfl,rfl,hvl,hadd⟩ t' hC hn hCW hC0 hCH dv
  rw[length_map,length_range,Nat.sub_self]at hadd
  have hR:R=some (vs,oc.drop j'):=by simpa [b9w,a2r] using hadd.symm
  exact KQ Dl C s' m j' vs _ hR rfl t' hn hCW hC0 hCH dv
end
end
section
theorem a8i (cs:List Nat):Txt.join "" (cs.map fun c=>(⟨#[c]⟩:Str))=⟨cs.toArray⟩:=by
 have e:(("":String):Str)=⟨#[]⟩:=by decide +kernel
 have key:∀(l:List Nat) (a:Array Nat),(l.map fun c=>(⟨#[c]⟩:Str)).foldl (fun acc p=>acc++(#[]:Array Nat)++p.cps) a=a++l.toArray:=by
  intro l
  induction l with
  | nil=>intro a;simp
  | cons c l ih=>intro a;rw[map_cons,foldl_cons,ih];simp
 rw[e]
 cases cs with
 | nil=>rfl
 | cons c cs=>
  show(⟨_⟩:Str)=_
  congr 1
  show((cs.map fun c=>(⟨#[c]⟩:Str)).foldl (fun acc p=>acc++(#[]:Array Nat)++p.cps) #[c])=_
  rw[key];simp
noncomputable def b7p (r:List Nat):Option (Option (List Nat×List Nat×List Nat)):=oob (a4v 1114112 r) fun p=>oob (a4v 1114112 p.2) fun q=>some (some (p.1,q.1,q.2))
inductive RdR:List Nat→List Job→Prop
 | stop {r:List Nat}:b7p r=some none→RdR r []
 | job {r rest:List Nat} {j:Job} {js:List Job}:b7p r=some (some ((a2a j).cps.toList,j.ns,rest))→j.a∈a0n→j.b∈a0n→RdR rest js→RdR r (j::js)
inductive RdW (r:List Nat) (rest:List Job):Prop
 | mk (R1:Option (List Nat×List Nat)):a4v 1114112 r=some R1→(R1=none→rest=[])→(∀vs r',R1=some (vs,r')→∃R2,a4v 1114112 r'=some R2∧(R2=none→rest=[])∧∀ns r'',R2=some (ns,r'')→
   ∃jb js,rest=jb::js∧vs=(a2a jb).cps.toList∧ns=jb.ns∧jb.a∈a0n∧jb.b∈a0n∧RdR r'' js)→RdW r rest
theorem RdR.way {r:List Nat} {rest:List Job} (h:RdR r rest):RdW r rest:=by
 cases h with
 | stop h=>
  obtain⟨R1,a,b,c⟩:=a5u (h:oob _ _=_)
  refine⟨R1,a,fun _=>rfl,fun vs r' e=>?_⟩
  obtain⟨R2,a',b',c'⟩:=a5u (c _ e)
  exact⟨R2,a',fun _=>rfl,fun ns r'' e=>nomatch c' _ e⟩
 | @job _ r3 jb js h ha hb hr=>
  obtain⟨R1,a,b,c⟩:=a5u (h:oob _ _=_)
  refine⟨R1,a,fun e=>(nomatch b e),fun vs r' e=>?_⟩
  obtain⟨R2,a',b',c'⟩:=a5u (c _ e)
  refine⟨R2,a',fun e=>(nomatch b' e),fun ns r'' e=>?_⟩
  have q:=Option.some.inj (Option.some.inj (c' _ e))
  exact⟨jb,js,rfl,congrArg Prod.fst q,congrArg (·.2.1) q,ha,hb,(congrArg (·.2.2) q:r''=r3)▸hr⟩
theorem slO.both {a b c:Obj} (x:slO a b) (y:slO a c):slO b c:=by obtain⟨s1,rfl⟩:=x;obtain⟨s2,rfl⟩:=y;exact⟨s2,rfl⟩
noncomputable def b9z (prog:Program) (w:World) (G:a1k) (n:Nat):Prop:=∀(a b:Str),a∈a0n→b∈a0n→∀(A:Around) (M:List Addr) (H:Heap) (s:Shared) (t:Tok) (fs:List Env) (Fo:List (Addr×Obj)) (Q:Value→Shared→Prop) (E:Value→Shared→Prop),Rm A n→Wd G H M (fol Fo) s→a3y fs Fo→A.frames=some fs→
 (∀v s',Kx G.gen [] (frs fs) s s'→DR (vis s'.heap M) v (.list [.str a,.str b])→Q v s')→wpAny (model prog w) A (call (.ref 871) [.str (a1o a b) t]) Q E s
structure GR (G:a1k):Prop where
 read:a9e G 901 "_law_read" (a4t (stm 39)) (a2b (stm 39)) (a0a (stm 39)) .none .none
 split:∃o fd,G.objs 871=some o∧o.data= .func fd
section
variable {n:Nat} {s:Shared}
theorem b1i {l:Addr} (hl:s.heap.IsList l items) (hQ:Q (.ref s.heap.objs.size) {s with heap:=s.heap.push {cls:=.type "list_iterator",data:=.fields #[.ref l,.int 0 0]}}):wpAny (model prog w) A (call (.builtin "iter") [.ref l]) Q E s:=by
 refine call_function_entry (by decide +kernel) (by decide +kernel) kdk_entry_iter (kdk_args_iter _) ?_
 unfold Builtin.«iter»
 refine wpAny_bind (m:=someArgs "iter" 1 2 _) (wpAny_of_eq (a:=[Value.ref l]) (by first | rfl | kernel_rfl) ?_)
 show wpAny _ _ (pyIter (.ref l) >>= _) _ _ _
 exact wpAny_bind (wpAny_pyIter_list hl (wpAny_pure ⟨_,rfl,hQ⟩))
theorem DRs.strs:∀{cs:List Nat},DRs P vs (cs.map fun c=>D.str ⟨#[c]⟩)→StrsAre vs (cs.map fun c=>(⟨#[c]⟩:Str)):=by
 induction vs with
 | nil=>intro cs h;cases cs with | nil=>exact .nil | cons _ _=>cases h
 | cons v vs ih=>
  intro cs h
  cases cs with
  | nil=>cases h
  | cons c cs=>
   cases h with
   | cons h r=>cases h with | str x t=>exact .cons _ _ (ih r)
theorem Stt.endX {X:List Addr} (t:Stt G H env own W M ρ ol s s') (hfs:a3y fs Fo) (hFo:∀p∈fol Fo,p∈ol) (h0:∀p∈Fo,∃o,s.heap.get? p.1=some o∧slO p.2 o)
  (hW:∀b∈W,b∈frs fs∨b∈X∨s.heap.get? b=none):Kx G.gen X (frs fs) s s':=by
 refine⟨fun b o hX hF e=>t.kp.1 b o (fun hm=>?_) e,fun b hb o e=>?_,t.kp.2⟩
 ·rcases hW b hm with h | h | h
  ·exact hF h
  ·exact hX h
  ·exact nsn h e
 ·rw[hfs.frs]at hb
  obtain⟨p,hp,e'⟩:=zM hb
  have e'':p.1=b:=e'
  subst e''
  walk_at "c"
  rcases t.ls _ (hFo (p.1,.raw (slO p.2)) (zN ⟨p,hp,rfl⟩))with⟨_,_,o',eo',so'⟩
  rcases h0 p hp with⟨rG,x9,lB⟩
  walk_at "u"
  rw[e]at x9;cases x9
  exact⟨o',eo',lB.both so'⟩
theorem Wd.fr0 (x:Wd G H M ol s) (h:∀p∈fol Fo,p∈ol):∀p∈Fo,∃o,s.heap.get? p.1=some o∧slO p.2 o:=fun p hp=>by
 obtain⟨_,_,o,e,r⟩:=x.ls _ (h (p.1,.raw (slO p.2)) (zN ⟨p,hp,rfl⟩))
 exact⟨o,e,r⟩
end
end
section
noncomputable abbrev a4a (L:Addr) (cd:Value):Env:=fnv "_law_read" (a0a (stm 39)) L 901 cd
noncomputable abbrev b2k (L:Addr):List (Str×Addr):=cellsFrom (L+1) (a0a (stm 39)).names []
section
theorem a3s (hf:env.frame=some L):frs (env::fs)=L::frs fs:=by simp[frs,hf]
theorem b5f:∀{n:Nat} {r vs rest:List Nat},a2r lim n r=some (some (vs,rest))→vs.length=n:=by
 intro n
 clear lim lim
 induction n with
 | zero=>intro r vs rest h;cases h;rfl
 | succ n ih=>
  intro r vs rest h
  clear rest r n
  obtain⟨q,hq,hqn,hqs⟩:=a7b h
  clear hq hq
  cases q with
  | none=>exact nomatch hqn rfl
  | some p=>
   walk_at "c"
   clear hqn q
   rcases map_eq_some_iff.mp (hqs p.1 p.2 rfl).2 with⟨z,hz,h⟩
   clear z hqs
   rcases map_eq_some_iff.mp h with⟨y,hy,h⟩
   walk_at "u"
   rw[show vs=[p.1]++y.1 from(congrArg Prod.fst h).symm,length_append,ih (hz.trans (congrArg some hy)),Nat.add_comm];rfl
theorem b5i {r vs rest:List Nat} (h:a4v lim r=some (some (vs,rest))):vs.length≤1000:=by
 clear rest vs r lim
 obtain⟨q,hq,hqn,hqs⟩:=a8r h
 clear hq h
 cases q with
 | none=>exact nomatch hqn rfl
 | some p=>obtain⟨h1,h2⟩:=hqs p.1 p.2 rfl;exact b5f h2▸h1
theorem c2t {Q:Flow→Shared→Prop} {s:Shared} {x:Str} {spos:Pos} {iter:Expr} (hsw:swapsWith (.ListComp elt [⟨target,iter,ifs,0⟩] scope pos) (some (.Name x px)) spos.line env=pure true)
  (h:∀cpos,wpAny (model prog w) A (comprehension (.ListComp elt [⟨target,iter,ifs,0⟩] scope pos) scope env cpos (newList []) false (eval iter env) (some (assign (.Name x px) env))) (fun _ s'=>Q .next s') E s):
  wpAny (model prog w) A (exec (.Assign [.Name x px] (.ListComp elt [⟨target,iter,ifs,0⟩] scope pos) spos) env) Q E s:=by
 rw[exec_Assign_Name_used _ _ _ _ hsw]
 refine wpAny_bind (wpAny_standAt (wpAny_bind ?_))
 show wpAny _ A (do let _ ←comprehension (.ListComp elt [⟨target,iter,ifs,0⟩] scope pos) scope env _ (newList []) false (eval iter env) (some (assign (.Name x px) env))) _ _ s
 exact wpAny_bind (wpAny_mono (h _) (fun _ s' h'=>wpAny_pure (wpAny_pure h')) fun _ _ e=>e)
theorem Stt.caught {N₀:List Addr} {s:Shared} {X:List Addr} {e:Addr} {cls:Value} (t:Stt G H env own W (N₀++i0) ρ ol j0 s) (hf:env.frame=some env.locals) (hfs:a3y fs Fo) (hFo:∀p∈fol Fo,p∈ol)
  (u5:∀b∈N₀,b∉W∧b∉i0∧j0.heap.get? b=none∧H.get? b=none) (b4:∀b∈W₁,b∈X∨b∈N₀) (hX:∀b∈X,b∈W∧b∉fms env own∧b∉frs fs) (hV:∀b∈W₁,b∉N₀→b∈V) (x:Rsd G.gen W₁ V (env::fs) s s' e cls) (hol:∀p∈ol',p∈ol∧p.1∉X) (hn:(ol'.map (·.1)).Nodup):Stt G H env own W i0 ρ ol' j0 s':=by
 obtain⟨oL,f1,f2,_⟩:=t.stack hfs hFo hf
 have hfW:∀b∈frs fs,b∈W∧∃w7,(b,Ob.raw (slO w7))∈ol:=fun b hb=>by
  rw[hfs.frs]at hb
  obtain⟨p,hp,e'⟩:=zM hb
  have e'':p.1=b:=e'
  subst e''
  have:=hFo (p.1,.raw (slO p.2)) (zN ⟨p,hp,rfl⟩)
  exact⟨(t.ls _ this).wW,p.2,this⟩
 have hLf:env.locals∈fms env own:=.head _
 have kx:=x.kx fun b hb=>by
  rw[a3s hf]at hb
  refine⟨fun hm=>?_,fun o eo=>?_⟩
  ·rcases b4 b hm with h | h
   ·rcases zC hb with e' | h'
    ·exact(hX b h).2.1 (e'▸hLf)
    ·exact(hX b h).2.2 h'
   ·rcases zC hb with e' | h'
    ·exact(u5 b h).1 (e'▸t.sub _ hLf)
    ·exact(u5 b h).1 (hfW b h').1
  ·have hb':b∈((env.locals,oL)::Fo).map (·.1):=by
    rw[←f1.frs,a3s hf];exact hb
   obtain⟨p,hp,e'⟩:=zM hb'
   have e'':p.1=b:=e'
   subst e''
   obtain⟨o',eo',so'⟩:=f2 p hp
   rw[eo]at eo';cases eo'
   have hnf:∀(fs:List Env) (Fo:List (Addr×Obj)),a3y fs Fo→∀p∈Fo,∀vs,p.2.data≠.fields vs:=fun fs Fo h=>by
    induction h with
    | nil=>intro p hp;cases hp
    | cons h1 h2 h3 _ ih=>
     intro p hp
     rcases a0o hp with rfl | hp
     ·exact h3
     ·exact ih p hp
   intro vs
   rw[so'.data];exact hnf _ _ f1 p hp vs
 rw[a3s hf]at kx
 refine t.flewN (N:=[]) kx (fun b hb=>(hfW b hb).2) u5 (fun b hb=>?_) (fun b hb hb0=>x.there b (hV b hb hb0)) (fun b hb=>by cases hb) (fun p hp=>.inl ⟨(hol p hp).1,fun hm=>?_⟩) hn
 ·rcases b4 b hb with h | h
  ·exact .inl ⟨(hX b h).1,(hX b h).2.1⟩
  ·exact .inr h
 ·rcases b4 _ hm with h | h
  ·exact(hol p hp).2 h
  ·exact(u5 _ h).1 (t.ls p (hol p hp).1).1
inductive d2c (G:a1k) (H:Heap) (L:Addr) (cd:Value) (aj it l:Addr) (Fo:List (Addr×Obj)) (M:List Addr) (jobs:List Job) (oc:List Nat) (s:Shared) (q:Nat) (s':Shared):Prop
 | mk (j:Nat) (done rest:List Job) (ρ':List (Str×D)):q=rest.length→jobs=done++rest→RdR (oc.drop j) rest→ρ'=([("iterator",.val (.ref it)),("jobs",.val (.ref aj))]:List (Str×D))→Stt G H (a4a L cd) (b2k L) (aj::it::(fms (a4a L cd) (b2k L)++(fol Fo).map (·.1))) M ρ' ((it,.raw (qIt l j))::(aj,.list (done.map a2n))::fol Fo) s s'→d2c G H L cd aj it l Fo M jobs oc s q s'
theorem c5l (hX:GX G) (hR:GR G) {k:Nat} (hS:b9z prog w G (k+2)) {l:Addr} {jobs:List Job} {s:Shared} (rm:Rm A (k+3)) (wd:Wd G H M (fol Fo) s) (hfs:a3y fs Fo) (hfr:A.frames=some fs)
  (dl:DR (vis s.heap M) (.ref l) (a1l oc)) (hrd:RdR oc jobs) (hjl:jobs.length≤5) (K:∀v s',Kx G.gen [] (frs fs) s s'→DR (vis s'.heap M) v (.list (jobs.map a2n))→Q v s'):wpAny (model prog w) A (call (.ref 901) [.ref l]) Q E s:=by
 have h0:=wd.fr0 (fun p hp=>hp)
 refine a0u (n:=k+2) (args:=⟨[_],[]⟩) (ρ:=[("octets",_)]) (binds:=[("octets",_)]) hR.read rm wd.top wd.mem (fun name doc pm an cdv ct=>BindsTo.of_eq rfl) rfl (.cons (.val _) .nil) (fun x hx=>by rw[zS hx];exact .inl ∅) (a0d ∅) (by decide +kernel) (by simp) ?_ ∅ ∅ ∅
 intro L cd g0 hL t hW
 walk_at "q"
 have w0:Stt G H (a4a L cd) (b2k L) (fms (a4a L cd) (b2k L)++(fol Fo).map (·.1)) M ([("octets",.val (.ref l))]:List (Str×D)) (fol Fo) s g0:=t.openX wd hW
 have hfM:∀b∈(fol Fo).map (·.1),b∈M:=fun b hb=>by
  obtain⟨p,hp,e⟩:=zM hb
  have e':p.1=b:=e
  exact e'▸(wd.ls p hp).wW
 have hfF:∀b∈(fol Fo).map (·.1),b∈frs fs:=fun b hb=>by
  rw[hfs.frs]
  walk_at "c"
  rcases zM hb with⟨p,hp,e⟩
  rcases zM hp with⟨q,hq,rfl⟩
  walk_at "u"
  exact zN ⟨q,hq,e⟩
 have rm':Rm (A.deeper (a4a L cd)) (k+2):=rm.deeper (a4a L cd)
 have rm2:Rm (A.deeper (a4a L cd)) 2:=rm'.le (by omega)
 have hfr':(A.deeper (a4a L cd)).frames=some (a4a L cd::fs):=Around.frames_deeper hfr
 have hg:=hX.glb
 walk_at "x"
 refine wpAny_Assign_Name (wpAny_Call_NameR (a1v w0.kind w0.glob w0.bi w0.top ∅ (hg _ _ ∅) (v:=.builtin "iter") ∅ (by decide) ?_)) ∅
 refine Calls.callWith_builtin (by rfl) (Calls.evalArgs_plain ?_)
 refine EvL.go (G:=G.at _) rm' (.one (.name (d:=.val (.ref l)) ∅)) w0.cd fun vs u0 y1 dv=>?_
 cases dv with
 | cons d0 d1=>
 cases d1
 cases d0
 have z0:=w0.keeps y1
 have jC:∀b∈fms (a4a L cd) (b2k L)++(fol Fo).map (·.1),b∈M∨s.heap.get? b=none:=fun b hb=>by
  rcases zA hb with hb | hb
  ·exact .inr (hW b hb)
  ·exact .inl (hfM b hb)
 have yF:=z0.old dl jC
 obtain⟨vs,ep,el,dvs⟩:∃(vs:List Value) (ep:Nat),vis u0.heap ((fms (a4a L cd) (b2k L)++(fol Fo).map (·.1))++M) l=some {cls:=.type "list",data:=.seq vs.toArray ep}∧DRs (vis u0.heap ((fms (a4a L cd) (b2k L)++(fol Fo).map (·.1))++M)) vs (a0i oc):=by
  cases yF with
  | list e r=>exact⟨_,_,e,r⟩
 refine b1i (a0j el) ?_
 obtain⟨it,hit⟩:∃it,it=u0.heap.objs.size:=⟨_,rfl⟩
 rw[←hit]
 have hitn:u0.heap.get? it=none:=by rw[hit];exact a0c (Nat.le_refl _)
 have j1:=z0.own1 (a:=it) (ob:=.raw (qIt l 0)) (Kp.push u0 {cls:=.type "list_iterator",data:=.fields #[.ref l,.int 0 0]}) hitn (by rw[hit];exact get?_push_size _ rfl) ⟨rfl,rfl⟩
 obtain⟨fi1,fi2,fi3,fi4⟩:=z0.fresh_of hitn
 refine j1.put (.inr (a2w ∅)) (.val _) fun l3 z1 _=>?_
 walk_at "x"
 refine a4y z1 rm' (.inl ∅) ∅ ?_
 intro aj y3 hfj u1
 obtain⟨fj1,fj2,fj3,fj4⟩:=z1.fresh_of hfj
 have hji:aj≠it:=fun e=>fj1 (e▸.head _)
 have hnd:=u1.lsn
 have hndF:((fol Fo).map (·.1)).Nodup:=wd.lsn
 have hjF:aj∉(fol Fo).map (·.1):=fun hm=>fj1 (.tail _ (zB (.inr hm)))
 have hiF:it∉(fol Fo).map (·.1):=fun hm=>fi1 (zB (.inr hm))
 have hiFr:it∉frs fs:=fun hm=>by
  rw[hfs.frs]at hm
  obtain⟨p,hp,e⟩:=zM hm
  exact hiF (zN ⟨(p.1,.raw (slO p.2)),zN ⟨p,hp,rfl⟩,e⟩)
 have hWo:∀b∈aj::it::(fms (a4a L cd) (b2k L)++(fol Fo).map (·.1)),b∈M∨s.heap.get? b=none:=fun b hb=>by
  rcases a0o hb with rfl | hb
  ·exact .inr fj4
  ·rcases a0o hb with rfl | hb
   ·exact .inr fi4
   ·exact jC b hb
 have hWe:∀b∈aj::it::(fms (a4a L cd) (b2k L)++(fol Fo).map (·.1)),b∈frs fs∨b∈([]:List Addr)∨s.heap.get? b=none:=fun b hb=>by
  rcases a0o hb with rfl | hb
  ·exact .inr (.inr fj4)
  ·rcases a0o hb with rfl | hb
   ·exact .inr (.inr fi4)
   ·rcases zA hb with hb | hb
    ·exact .inr (.inr (hW b hb))
    ·exact .inl (hfF b hb)
 walk_at "x"
 refine wpAny_Try_except ?_
 walk_at "x"
 have land:∀(j':Nat) (x0:List (Addr×Ob)) (ρ':List (Str×D)) (N₀:List Addr) (g0 s'':Shared) (e:Addr) (W₁ V:List Addr),x0=(it,.raw (qIt l j'))::(aj,.list (jobs.map a2n))::fol Fo→ρ'.lookup ("jobs":Str)=some (.val (.ref aj))→Stt G H (a4a L cd) (b2k L) (aj::it::(fms (a4a L cd) (b2k L)++(fol Fo).map (·.1))) (N₀++M) ρ' x0 s g0→
   (∀b∈N₀,b∉aj::it::(fms (a4a L cd) (b2k L)++(fol Fo).map (·.1))∧b∉M∧s.heap.get? b=none∧H.get? b=none)→(∀b∈W₁,b∈[it]∨b∈N₀)→(∀b∈W₁,b∉N₀→b∈V)→Rsd G.gen W₁ V (a4a L cd::fs) g0 s'' e (.type "StopIteration")→
   wpAny (model prog w) (A.deeper (a4a L cd)) (noteFrame (.ref e) (a4a L cd)) (fun _ u0=>wpAny (model prog w) (A.deeper (a4a L cd)) (setFlight (.ref e) none) (fun _ y2=>
    wpAny (model prog w) (A.deeper (a4a L cd)) (handleBy (.ref e) (a4a L cd) [.ExceptHandler (some (.Name "StopIteration" ⟨899,11,899,24⟩)) none [.Return (some (.Name "jobs" ⟨900,15,900,19⟩)) ⟨900,8,900,19⟩] ⟨899,4,900,19⟩])
     (fun f s'=>match f with | .next=>wpAny (model prog w) (A.deeper (a4a L cd)) (execs [] (a4a L cd)) (fun fl s'=>Q (match fl with | .ret v=>v | _=>.none) s') (fun e s'=>wpAny (model prog w) (A.deeper (a4a L cd)) (leaving (a4a L cd) e) (fun _ s''=>E e s'') (fun e' s''=>E e' s'') s') s' | f=>Q (match f with | .ret v=>v | _=>.none) s')
     (fun e s'=>wpAny (model prog w) (A.deeper (a4a L cd)) (leaving (a4a L cd) e) (fun _ s''=>E e s'') (fun e' s''=>E e' s'') s') y2)
    (fun e s'=>wpAny (model prog w) (A.deeper (a4a L cd)) (leaving (a4a L cd) e) (fun _ s''=>E e s'') (fun e' s''=>E e' s'') s') u0)
    (fun e s'=>wpAny (model prog w) (A.deeper (a4a L cd)) (leaving (a4a L cd) e) (fun _ s''=>E e s'') (fun e' s''=>E e' s'') s') s'':=by
  rintro j' x0 ρ' N₀ g0 s'' e W₁ V rfl hρ t u5 b4 hV x
  have after:∀s',Rsd G.gen W₁ V (a4a L cd::fs) g0 s' e (.type "StopIteration")→Stt G H (a4a L cd) (b2k L) (aj::it::(fms (a4a L cd) (b2k L)++(fol Fo).map (·.1))) M ρ' ((aj,.list (jobs.map a2n))::fol Fo) s s':=fun s' x'=>by
   refine t.caught (X:=[it]) rfl hfs (fun p hp=>.tail _ (.tail _ hp)) u5 b4 (fun b hb=>?_) hV x' (fun p hp=>⟨.tail _ hp,fun hm=>?_⟩) ?_
   ·rw[zS hb]
    exact⟨.tail _ (.head _),(t.ls _ (.head _)).f,hiFr⟩
   ·have e':p.1=it:=zS hm
    rcases a0o hp with rfl | hp
    ·exact hji e'
    ·exact hiF (zN ⟨p,hp,e'⟩)
   ·rw[map_cons,nodup_cons];exact⟨hjF,hndF⟩
  refine x.land hfr' rfl fun y2 aA=>?_
  have j1:=after y2 aA
  refine wpAny_handleBy_builtin (X:="StopIteration") (T:="StopIteration") (b:=true) (by rw[isSubtype_type];kernel_rfl) (by rw[isSubtype_type];kernel_rfl) (by rw[isSubtype_type];kernel_rfl) ?_
  refine a1v j1.kind j1.glob j1.bi j1.top ∅ (hg _ _ ∅) (v:=.type "StopIteration") ∅ (by decide) ⟨rfl,aA.cls,?_⟩
  show wpAny _ _ _ _ _ _
  refine aA.again fun l3 cE=>?_
  have z1:=after l3 cE
  refine wpAny_passesOwnAt PassesOwnAt.leaving ?_
  walk_at "x"
  refine wpAny_Return_some ?_
  obtain⟨v,hv,dv⟩:=z1.cd.vars "jobs" _ hρ
  cases dv
  refine a1f z1.kind hv ?_
  refine K _ l3 (z1.endX hfs (fun p hp=>.tail _ hp) h0 hWe) ?_
  obtain⟨_,_,o,eo,vs,ep,rfl,dvs⟩:=z1.ls _ (.head _)
  exact .list (a0v eo fj2) (dvs.mono a4c)
 refine a2y (d2c G H L cd aj it l Fo M jobs oc s) PassesOwn.looking ?_ jobs.length
  ⟨0,[],jobs,_,rfl,rfl,by simpa using hrd,rfl,u1.swap.pick (.cons ∅ (.cons ∅ .nil))⟩
 intro q i5 hI'
 obtain⟨j,done,rest,_,rfl,hjobs,hrd',rfl,z2⟩:=hI'
 refine Ts.val (d:=.bool true) .boolC (.bool true) ∅ _ _ _ _ _ rm' z2.cd fun i4 tG=>?_
 have j3:=z2.keeps tG
 show wpAny _ _ _ _ _ _
 obtain⟨R1,hR1,hd1,hnx⟩:=hrd'.way
 have hdone:R1=none→done=jobs:=fun e=>by rw[hjobs,hd1 e,append_nil]
 walk_at "x"
 refine wpAny_Assign_Name ?_ ∅
 refine wpAny_Call_method_lateS ∅ ∅ ∅ (wpAny_Constant_str ?_)
 refine⟨"str","str.join",F.plainAttrs_str,F.slot_str_join,F.type_str_join,typeIs_str _ _ _,(fun _ e=>nomatch e),?_⟩
 have z3:=j3.keeps (Kp.tok i4 (i4.toks+1))
 refine callWith_method1 (Calls.spliced_cons ?_)
 rw[eval_ListComp]
 refine b9m hX (use:=none) (q1:=⟨896,32,896,45⟩) (q2:=⟨896,46,896,54⟩) (q3:=⟨896,32,896,55⟩) (lim:=1114112) (R:=R1) (conv:=fun c=>.str ⟨#[c]⟩) rm2 z3 ∅ ∅ ∅ (z3.old dl hWo) hfr' rfl hfs (fun p hp=>.tail _ hp) hR1 (Sc.of (by rfl) ∅ ∅ (.cons ∅ ∅ .nil)) ∅ ∅ ?hel ?hke ?hkq
 case hel=>
  intro C cells j4 y0 x0 g0 Q E c h
  refine wpAny_Call_NameR (a1v (v:=.builtin "chr") c.kind c.glob c.bi c.top ∅ (hg _ _ ∅) ∅ (by decide) ?_)
  refine PySem.callWith_builtin1 (wpAny_mono h (fun v u0 hv=>?_) fun _ _ e=>e)
  obtain⟨x,t,rfl,hx,kk⟩:=hv
  exact P.chr_of_int (by simp;omega) (kk _ _ fun P=>by rw[Int.toNat_natCast];exact .str _ _)
 case hke=>
  rintro x0 N₀ g0 s'' e W₁ V hn ⟨j',ho⟩ t u5 b4 hV x
  exact land j' x0 _ N₀ g0 s'' e W₁ V (ho.trans (congrArg (fun q=>(it,Ob.raw (qIt l j'))::(aj,.list (q.map a2n))::fol Fo) (hdone hn))) ∅ t u5 b4 hV x
 case hkq=>
  intro Dl C j6 m j' vs rest' hRs hdr w4 hn hCW hC0 hCH dv
  refine⟨m,hn,fun h' hs'=>?_⟩
  have d5:=w4.other hn hC0 hCH hCW hs'
  have dv':=dv.hide hs'
  have hlen:=b5i (hR1.trans (congrArg some hRs))
  refine Calls.spliced_nil ?_
  show wpAny _ _ (call (.builtin "str.join") [.str "" _,.ref Dl]) _ _ _
  cases dv' with
  | list e r=>
  refine join_list (a0j e) (by simpa using r.strs) ?_ fun t' kk=>?_
  ·have e0:Str.length ""=0:=by decide +kernel
   have e1:∀l:List Nat,((l.map fun c=>(⟨#[c]⟩:Str)).map (·.length)).sum=l.length:=fun l=>by
    induction l with
    | nil=>rfl
    | cons c l ih=>rw[map_cons,map_cons,List.sum_cons,ih,length_cons];show 1+_=_;omega
   rw[e1,e0];omega
  rw[a8i]
  have u6:=d5.keeps (Kp.tok {j6 with heap:=h'} kk)
  refine u6.put (.inl ∅) (.str _ _) fun j7 z5 _=>?_
  obtain⟨R2,hR2,hd2,hjob⟩:=hnx vs rest' hRs
  rw[←hdr]at hR2
  have hdone2:R2=none→done=jobs:=fun e=>by rw[hjobs,hd2 e,append_nil]
  walk_at "x"
  refine c2t ∅ fun cpos=>?_
  refine b9m hX (q1:=⟨897,21,897,34⟩) (q2:=⟨897,35,897,43⟩) (q3:=⟨897,21,897,44⟩) (lim:=1114112) (R:=R2) (conv:=dn) rm2 z5 ∅ ∅ ∅ (z5.old dl hWo) hfr' rfl hfs (fun p hp=>.tail _ hp) hR2 (Sc.of (by rfl) ∅ ∅ (.cons ∅ ∅ .nil)) ∅ ∅ ?hel ?hke ?hkq
  case hel=>
   intro C cells j4 y0 x0 g0 Q E c h
   refine wpAny_mono h (fun v u0 hv=>?_) fun _ _ e=>e
   obtain⟨x,t,rfl,hx,kk⟩:=hv
   exact kk _ u0.toks fun P=>.int _ _
  case hke=>
   rintro x0 N₀ g0 s'' e W₁ V hn ⟨j',ho⟩ t u5 b4 hV x
   exact land j' x0 _ N₀ g0 s'' e W₁ V (ho.trans (congrArg (fun q=>(it,Ob.raw (qIt l j'))::(aj,.list (q.map a2n))::fol Fo) (hdone2 hn))) ∅ t u5 b4 hV x
  case hkq=>
   intro Dl C z8 m eE ns wC hRs mE l5 hn hCW hC0 hCH dv
   have hCf:C∉fms (a4a L cd) (b2k L):=fun hm=>hCW (zB (.inl (l5.sub C hm)))
   have dv':=dv.mono fun a o e=>a0v (a0b e).1 fun hm=>(a0b e).2 (.tail _ hm)
   refine wpAny_assign_Name (l5.put (.inl ∅) dv' fun fG uC k9=>?_)
   obtain⟨o,es,ep,e1,e2⟩:=hn
   refine⟨m,⟨o,es,ep,k9 C o hCf e1,e2⟩,fun h'' hs''=>?_⟩
   have c6:=uC.other (C:=C) (m:=m) ⟨o,es,ep,k9 C o hCf e1,e2⟩ hC0 hCH hCW hs''
   obtain⟨jb,js,hrest,hvs,hns,ha,hb,hr⟩:=hjob ns wC hRs
   have eln:(⟨vs.toArray⟩:Str)=a1o jb.a jb.b:=by rw[hvs,toArray_toList];rfl
   rw[eln]at c6
   walk_at "x"
   refine wpAny_Expr (wpAny_Call_append ∅ ∅ ∅ ∅ ?_) ∅ ∅
   obtain⟨v,hv,dvj⟩:=c6.cd.vars "jobs" (.val (.ref aj)) ∅
   cases dvj
   refine a1f c6.kind hv ?_
   obtain⟨_,_,o0,e0,us,ep0,rfl,du⟩:=c6.ls _ (.tail _ (.head _))
   refine⟨aj,us.toArray,rfl,⟨_,_,e0,rfl,rfl,rfl⟩,?_⟩
   refine wpAny_Tuple_spliced (Calls.spliced_cons ?_)
   obtain⟨osp,fdsp,hsp,hsd⟩:=hR.split
   refine wpAny_Call_NameR (a1i c6.kind c6.glob c6.top ∅ (hg _ _ ∅) (Calls.callWith_function (a0p (n:=k+2) (G:=G.at _) (.one (.name (d:=.str (a1o jb.a jb.b)) ∅)) (by simp) rm' c6.cd fun as vC qA das=>⟨⟨(c6.keeps qA).top.objs 871 _ hsp,hsd⟩,?_⟩)) (by decide))
   cases das with
   | cons da0 da1=>
   cases da1
   cases da0
   have y8:=c6.keeps qA
   obtain⟨oL,f1,f2,fB⟩:=y8.stack hfs (fun p hp=>.tail _ (.tail _ hp)) rfl
   refine hS jb.a jb.b ha hb _ _ H vC _ (a4a L cd::fs) ((L,oL)::Fo) _ _ rm' (fB.pick (fun p hp=>?_) ?_) f1 hfr' fun v oA kx dvv=>?_
   ·rcases a0o hp with rfl | hp
    ·exact .head _
    ·exact .tail _ (.tail _ (.tail _ hp))
   ·show(L::(fol Fo).map (·.1)).Nodup
    rw[nodup_cons]
    refine⟨fun hm=>?_,hndF⟩
    walk_at "c"
    rcases zM hm with⟨p,hp,e⟩
    rcases zM hp with⟨q,hq,rfl⟩
    rcases h0 q hq with⟨o',eo',_⟩
    walk_at "u"
    have e':q.1=L:=e
    rw[e',hL]at eo';cases eo'
   rw[a3s (L:=L) rfl]at kx
   have y7:=y8.flew (N:=[]) kx (fun b hb=>by
    rw[hfs.frs]at hb
    obtain⟨p,hp,e⟩:=zM hb
    have e':p.1=b:=e
    subst e'
    exact⟨p.2,.tail _ (.tail _ (zN ⟨p,hp,rfl⟩))⟩) (fun b hb=>by cases hb) (fun b hb=>by cases hb) (fun b hb=>by cases hb) (fun p hp=>.inl ⟨hp,by simp⟩) y8.lsn
   refine Calls.spliced_cons ?_
   obtain⟨vn,hvn,dvn⟩:=y7.cd.vars "needs" (a1l ns) ∅
   refine a1f y7.kind hvn (Calls.spliced_nil ⟨by show 2≤sizeLine;decide,?_⟩)
   have dt:=a3j (k:=0) y7.mem (.cons dvv (.cons (hns▸dvn) .nil))
   have tC:=y7.keeps (Kp.push oA {cls:=.type "tuple",data:=.seq [v,vn].toArray})
   have mA:=tC.swap
   obtain⟨a1,_,o2,e2',us2,ep2,rfl,du2⟩:=mA.ls _ (.head _)
   have hul:done.length≤5:=by have:=congrArg List.length hjobs;rw[length_append]at this;omega
   refine wpAny_list_append_plain ⟨ep2,e2'⟩ (fun e6 hl pD=>?_) (by rw[size_toArray,du2.length,length_map];exact Nat.le_trans hul (by decide))
   obtain⟨ep3,e3⟩:=hl
   have sC:=mA.set1 (ob':=.list ((done++[jb]).map a2n)) (Kw.sameBut (tk:=oA.toks) pD) (by simpa using e3) ⟨us2++[_],ep3,rfl,by
    rw[map_append]
    exact(du2.append (.cons dt .nil)).mono (a0x fun b o e hb=>(pD.2 b fun e'=>hb (by rw[e'];exact zB (.inl a1))).trans e)⟩
   refine wpAny_execs_nil ⟨js.length,by rw[hrest];exact lt_succ_self _,eE,done++[jb],js,_,rfl,by rw[hjobs,hrest,append_assoc];rfl,by rw[mE];exact hr,rfl,sC.swap.pick (.cons ∅ (.cons ∅ .nil))⟩
end
end
section
noncomputable def b7r (name:Str) (d:D):List (Str×D)→List (Str×D)
 | []=>[(name,d)]
 | (x,e)::r=>if x == name then(x,d)::r else(x,e)::b7r name d r
noncomputable def c0b (name:Str) (h:Int) (key v:Value):List DictEntry→List DictEntry
 | []=>[⟨h,key,v⟩]
 | e::r=>if e.key.isStr name then{e with val:=v}::r else e::c0b name h key v r
theorem c8v {name x:Str} {d e:D} {r:List (Str×D)}:b7r name d ((x,e)::r)=if x == name then(x,d)::r else(x,e)::b7r name d r:=rfl
theorem b7s {name:Str} {h:Int} {key:Value} {e:DictEntry} {r:List DictEntry}:c0b name h key v (e::r)=if e.key.isStr name then{e with val:=v}::r else e::c0b name h key v r:=rfl
theorem b2i (name:Str) (h:Int) (key v:Value):∀es,(c0b name h key v es).length≤es.length+1:=by
 intro v'
 induction v' with
 | nil=>
  exact Nat.le_refl _
 | cons e r ih'=>
  rw[b7s]
  split
  ·simp
  ·have:=ih';simp;omega
theorem c8u (name:Str) (h:Int) (key v:Value) (ep:Nat) (es:List DictEntry):∃ep',Obj.putName name h key v (dictOf es ep)=dictOf (c0b name h key v es) ep':=by
 rw[Obj.putName_eq]
 unfold Obj.putNameByArray
 have key1:∀(es:List DictEntry),(∀i,es.findIdx? (·.key.isStr name)=some i→es.modify i (fun e=>{e with val:=v})=c0b name h key v es)∧(es.findIdx? (·.key.isStr name)=none→es++[⟨h,key,v⟩]=c0b name h key v es):=by
  intro es
  induction es with
  | nil=>exact⟨fun i hi=>by simp at hi,fun _=>rfl⟩
  | cons e r ih=>
   rw[b7s]
   by_cases he:e.key.isStr name=true
   ·rw[if_pos he]
    refine⟨fun i hi=>?_,fun hi=>?_⟩
    ·rw[List.findIdx?_cons,if_pos he]at hi;cases hi;rfl
    ·rw[List.findIdx?_cons,if_pos he]at hi;cases hi
   ·rw[if_neg he]
    refine⟨fun i hi=>?_,fun hi=>?_⟩
    ·rw[List.findIdx?_cons,if_neg he]at hi
     obtain⟨j,hj,rfl⟩:=map_eq_some_iff.mp hi
     rw[List.modify_succ_cons,ih.1 j hj]
    ·rw[List.findIdx?_cons,if_neg he]at hi
     rw[cons_append,ih.2 (by simpa using hi)]
 simp only
 rw[List.findIdx?_toArray]
 cases hf:es.findIdx? (·.key.isStr name)with
 | some i=>refine⟨ep,?_⟩;simp only;rw[List.modify_toArray,(key1 es).1 i hf]
 | none=>refine⟨ep+1,?_⟩;simp only;rw[List.push_toArray,(key1 es).2 hf]
theorem b1j (x name:Str) (t:Tok):(Value.str x t).isStr name=(x == name):=by
 simp[Value.isStr]
section
theorem EsR.put {es:List DictEntry} {l:List (Str×D)} (r:EsR P es l) {name:Str} {h:Int} {t:Tok} {d:D} (dv:DR P v d):EsR P (c0b name h (.str name t) v es) (b7r name d l):=by
 induction r with
 | nil=>exact .cons dv .nil
 | cons hd tl ih=>
  rw[b7s,c8v]
  rw[b1j]
  split
  ·exact .cons dv tl
  ·exact .cons hd ih
theorem EsR.look {es:List DictEntry} {l:List (Str×D)} (r:EsR P es l) {name:Str} {ep:Nat}:(∀d,l.lookup name=some d→∃v,lookIn name (dictOf es ep)=some (some v)∧DR P v d)∧(l.lookup name=none→lookIn name (dictOf es ep)=some none):=by
 have key:(∀d,l.lookup name=some d→∃en,es.find? (·.key.isStr name)=some en∧DR P en.val d)∧(l.lookup name=none→es.find? (·.key.isStr name)=none)∧es.any (·.refKey)=false:=by
  induction r with
  | nil=>exact⟨fun d h=>by simp at h,fun _=>rfl,rfl⟩
  | cons hd tl ih=>
   rename_i hh x t v d es l
   rw[lookup_cons,find?_cons]
   simp only[b1j]
   cases hx:name == x with
   | true=>
    have:(x == name)=true:=by rw[beq_iff_eq]at hx ⊢;exact hx.symm
    rw[this]
    refine⟨fun d' h=>⟨_,rfl,(by cases h;exact hd)⟩,fun h=>(by cases h),?_⟩
    rw[List.any_cons,ih.2.2];rfl
   | false=>
    have:(x == name)=false:=by
     cases q:x == name with
     | false=>rfl
     | true=>rw[beq_iff_eq.mp q,beq_self_eq_true]at hx;cases hx
    rw[this]
    refine⟨ih.1,ih.2.1,?_⟩
    rw[List.any_cons,ih.2.2];rfl
 unfold lookIn
 simp only
 refine⟨fun d h=>?_,fun h=>?_⟩
 ·obtain⟨en,h1,h2⟩:=key.1 d h
  exact⟨en.val,by simp only[h1],h2⟩
 ·simp only[key.2.1 h,key.2.2];rfl
end
noncomputable def b1l:D→Bool
 | .val v=>handedIn v
 | _=>true
theorem DR.handed {d:D} (dv:DR P v d) (h:b1l d=true):handedIn v=true:=by
 cases dv <;> first | rfl | exact h
structure a3f (K:Frag) (C:Addr):Prop where
 ga:findIn K (.ref C) "__getattribute__"=some (some (.builtin "object.__getattribute__"))
 gt:findIn K (.ref C) "__getattr__"=some none
 sa:findIn K (.ref C) "__setattr__"=some (some (.builtin "object.__setattr__"))
 po:plainOver K C=true
 hd:∃cd,clsIn K C=some cd∧cd.hasDict=true
noncomputable def a3c (K:Frag) (C:Addr) (name:Str):Prop:=findIn K (.ref C) name=some none
section
variable {n:Nat}
theorem a3r {h:Heap} {x:Addr} (hx:h.get? x=some (instObj C dx)) (hd:h.get? dx=some od):InstAt h x (instObj C dx) C (some od):=⟨hx,rfl,rfl,hd⟩
theorem b4j {name:Str} (ck:a3f K C) (ha:a3c K C name) (hl:lookIn name od=some (some v)):findObj K C (some od) name=some (.value v):=by
 obtain⟨cd,hc,hdd⟩:=ck.hd
 have e:W.ownOf cd (some od) name=some (some v):=by
  unfold W.ownOf
  rw[hdd];exact hl
 unfold findObj
 rw[hc,ha]
 show(W.ownOf cd (some od) name).bind _=_
 rw[e];rfl
theorem Ev.attr {e:Expr} {attr:Str} {x:Addr} {l:List (Str×D)} {d:D} (h:Ev prog w G n env ρ e (.val (.ref x))) (hx:(x,Ob.raw (· =instObj C dx))∈G.ob) (hd:(dx,Ob.ns l)∈G.ob) (ck:a3f G.K C) (ha:a3c G.K C attr) (hl:l.lookup attr=some d) (hh:b1l d=true:=by rfl)
  (he:eval (.Attribute e attr pos) env=(do
   let o ←eval e env
   standAt pos.atName
   let r ←holding [o] (getAttr o attr true)
   letTemporaryGo e o r
   pure r):=by with_unfolding_all rfl):Ev prog w G n env ρ (.Attribute e attr pos) d:=by
 intro A M s Q E rm c k
 refine Attribute_any_ (h A M s _ E rm c fun v g0 l0 dv=>?_) he
 cases dv
 have v5:=c.keeps l0
 walk_at "c"
 rcases v5.obs _ hx with⟨o,eo,ho⟩
 rcases v5.obs _ hd with⟨od,ed,es,ep,rfl,r⟩
 walk_at "u"
 have ho':o=instObj C dx:=ho
 subst ho'
 obtain⟨v,hv,dv⟩:=(r.look (ep:=ep)).1 d hl
 exact get_value v5.top.inK (a3r eo ed) ck.ga (b4j ck ha hv) (dv.handed hh) (k v _ (l0.trans (Kp.tok _ _)) (dv.mono fun a o e=>e))
end
section
variable {x:Addr} {s:Shared}
theorem b6z {name:Str} {tk:Tok} {es:List DictEntry} {ep:Nat} (X:K.In s.heap) (hx:s.heap.get? x=some (instObj C dx)) (hD:s.heap.get? dx=some (dictOf es ep)) (ck:a3f K C) (ht:takerIn K C name=some none) (hkeys:es.any (·.refKey)=false) (hz:es.length≤1000)
  (h:∀h' ep',h'.get? dx=some (dictOf (c0b name (PyData.keyHash w.params name) (.str name s.toks) v es) ep')→Heap.SameBut dx s.heap h'→R (.ok (.ret .none)) {s with heap:=h',toks:=s.toks+1}):
  codeAny (model prog w) A (.call (.builtin "object.__setattr__") ⟨[.ref x,.str name tk,v],[]⟩) R s:=by
 have I:=a3r hx hD
 refine osa_open X I ck.po ht fun b=>?_
 walk_at "c"
 rcases ck.hd with⟨cd,hc,hd'⟩
 rcases c8u name (PyData.keyHash w.params name) (.str name s.toks) v ep es with⟨ep',hput⟩
 walk_at "u"
 have D':(s.heap.update dx (Obj.putName name (PyData.keyHash w.params name) (.str name s.toks) v)).get? dx=some (dictOf (c0b name (PyData.keyHash w.params name) (.str name s.toks) v es) ep'):=by
  have:=Heap.get?_update_self (Obj.putName name (PyData.keyHash w.params name) (.str name s.toks) v) hD (by rw[hput];rfl)
  rw[hput]at this;exact this
 refine wpAny_bind (wpAny_pure (wpAny_bind (wpAny_bind (wpAny_loadPart hx (wpAny_bind ((looks_clsIn X hc).here ?_))))))
 rw[hd']
 refine wpAny_pure (a:=some dx) (wpAny_bind (wpAny_pure (wpAny_bind ?_)))
 unfold nsSet
 refine wpAny_bind (wpAny_bind (wpAny_askSetting (wpAny_pure (wpAny_bind (wpAny_mkText (wpAny_bind (wpAny_loadPart hD ?_)))))))
 dsimp only
 have c:(!es.toArray.any (·.key.isStr name) && es.toArray.any (·.refKey))=false:=by
  rw[←Array.any_toList,←Array.any_toList]
  simp only[List.toList_toArray,hkeys,Bool.and_false]
 rw[aRefKeyMayBeTheName_at,c]
 refine wpAny_updatePart hD ?_
 have hlen:=b2i name (PyData.keyHash w.params name) (.str name s.toks) v es
 refine wpAny_bind (wpAny_lookBehind D' (pastItsLine_dict (by rw[size_toArray,sizeLine_eq];omega)) ?_)
 exact wpAny_pure (h _ ep' D' (Heap.SameBut.update ..))
end
end
section
theorem EsR.noRef {es:List DictEntry} {l:List (Str×D)} (r:EsR P es l):es.any (·.refKey)=false∧es.length=l.length:=by
 induction r with
 | nil=>exact⟨rfl,rfl⟩
 | cons hd tl ih=>exact⟨by rw[List.any_cons,ih.1];rfl,by rw[length_cons,length_cons,ih.2]⟩
structure a1m (K:Frag) (C:Addr) (name:Str) (f:Addr):Prop where
 find:findIn K (.ref C) name=some (some (.ref f))
 fn:typeIn K (.ref f)=some (.type "function")
section
variable {n:Nat} {s:Shared}
theorem Stt.setA {x:Addr} {l:List (Str×D)} {attr:Str} {d:D} {Q:Unit→Shared→Prop} (t:Stt G H env own W i0 ρ ((dx,.ns l)::ol) j0 s) (hx:(x,Ob.raw (· =instObj C dx))∈ol) (ck:a3f G.K C) (ha:a3c G.K C attr) (hl:l.length≤900) (dv:DR (vis s.heap (W++i0)) v d)
  (K:∀s',Stt G H env own W i0 ρ ((dx,.ns (b7r attr d l))::ol) j0 s'→(∀v d,DR (vis s.heap (W++i0)) v d→DR (vis s'.heap (W++i0)) v d)→Q () s'):wpAny (model prog w) A (setAttr (.ref x) attr v) Q E s:=by
 have t':=t.keeps (Kp.tok s (s.toks+1))
 obtain⟨_,_,o,eo,ho⟩:=t.ls _ (.tail _ hx)
 have ho':o=instObj C dx:=ho
 subst ho'
 obtain⟨a1,_,od,ed,es,ep,rfl,r⟩:=t.ls _ (.head _)
 have X:=t.top.inK
 refine set_plain X (a3r eo ed) ck.sa ?_
 refine b6z (s:={s with toks:=s.toks+1}) (es:=es) (ep:=ep) X eo ed ck (by unfold takerIn;rw[ha];rfl) r.noRef.1 (by rw[r.noRef.2];omega) fun h' ep' e' hs=>?_
 have up:∀a o,vis s.heap (W++i0) a=some o→vis h' (W++i0) a=some o:=a0x fun b o e hb=>(hs.2 b fun e'=>hb (by rw[e'];exact zB (.inl a1))).trans e
 refine K _ (t.set1 (s':={s with heap:=h',toks:=s.toks+1+1}) (ob':=.ns (b7r attr d l)) (Kw.sameBut hs) e' ⟨_,ep',rfl,(r.put dv).map fun _ _ dd=>dd.mono up⟩) fun v d dd=>dd.mono up
theorem Stt.getA {x:Addr} {l:List (Str×D)} {attr:Str} {d:D} (t:Stt G H env own W i0 ρ ol j0 s) (hx:(x,Ob.raw (· =instObj C dx))∈ol) (hd:(dx,Ob.ns l)∈ol) (ck:a3f G.K C) (ha:a3c G.K C attr) (hl:l.lookup attr=some d) (hh:b1l d=true)
  (K:∀v s',Kp s s'→DR (vis s'.heap (W++i0)) v d→Q v s'):wpAny (model prog w) A (getAttr (.ref x) attr ex) Q E s:=by
 obtain⟨_,_,o,eo,ho⟩:=t.ls _ hx
 have ho':o=instObj C dx:=ho
 subst ho'
 walk_at "c"
 rcases t.ls _ hd with⟨_,_,od,ed,es,ep,rfl,r⟩
 rcases(r.look (ep:=ep)).1 d hl with⟨v,hv,dv⟩
 walk_at "u"
 exact get_value t.top.inK (a3r eo ed) ck.ga (b4j ck ha hv) (dv.handed hh) (K v _ (Kp.tok _ _) dv)
theorem b6r {Q:Flow→Shared→Prop} {x:Addr} {l:List (Str×D)} {attr:Str} {b e:Expr} {d:D} (t:Stt G H env own W i0 ρ ((dx,.ns l)::ol) j0 s) (rm:Rm A n) (hx:(x,Ob.raw (· =instObj C dx))∈ol) (ck:a3f G.K C) (ha:a3c G.K C attr)
  (hb:Ev prog w (G.at ((dx,.ns l)::ol)) n env ρ b (.val (.ref x))) (h:Ev prog w (G.at ((dx,.ns l)::ol)) n env ρ e d) (K:∀s',Stt G H env own W i0 ρ ((dx,.ns (b7r attr d l))::ol) j0 s'→Q .next s')
  (hl:l.length≤900:=by decide) (hs:swapsWith e (some (.Attribute b attr ap)) pos.line env=pure false:=by kernel_rfl):wpAny (model prog w) A (exec (.Assign [.Attribute b attr ap] e pos) env) Q E s:=by
 refine plainObj_wpAny_Assign_Attribute (h A _ s _ E rm t.cd fun v g0 l0 dv=>hb A _ g0 _ E rm (t.keeps l0).cd fun ov u0 y1 dov=>?_) hs
 cases dov
 exact((t.keeps l0).keeps y1).setA hx ck ha hl (dv.mono y1.hk.vis) fun s' t' _=>K s' t'
theorem a5f {Q:Flow→Shared→Prop} {x:Addr} {l:List (Str×D)} {attr:Str} {b e:Expr} {d:D} {rest:List Stmt} (t:Stt G H env own W i0 ρ ((dx,.ns l)::ol) j0 s) (rm:Rm A n) (hx:(x,Ob.raw (· =instObj C dx))∈ol) (ck:a3f G.K C) (ha:a3c G.K C attr)
  (hb:Ev prog w (G.at ((dx,.ns l)::ol)) n env ρ b (.val (.ref x))) (h:Ev prog w (G.at ((dx,.ns l)::ol)) n env ρ e d) (K:∀s',Stt G H env own W i0 ρ ((dx,.ns (b7r attr d l))::ol) j0 s'→wpAny (model prog w) A (execs rest env) Q E s')
  (hl:l.length≤900:=by decide) (hs:swapsWith e (some (.Attribute b attr ap)) pos.line env=pure false:=by kernel_rfl):wpAny (model prog w) A (execs (.Assign [.Attribute b attr ap] e pos::rest) env) Q E s:=wpAny_execs_cons (b6r t rm hx ck ha hb h K hl hs)
theorem a9g {Q:Flow→Shared→Prop} {x:Addr} {l:List (Str×D)} {attr:Str} {b e:Expr} {op:Operator} {d0 d:D} (t:Stt G H env own W i0 ρ ((dx,.ns l)::ol) j0 s) (rm:Rm A n) (hx:(x,Ob.raw (· =instObj C dx))∈ol) (ck:a3f G.K C) (ha:a3c G.K C attr)
  (hb:Ev prog w (G.at ((dx,.ns l)::ol)) n env ρ b (.val (.ref x))) (hl0:l.lookup attr=some d0) (h:Ev prog w (G.at ((dx,.ns l)::ol)) n env ρ e d1) (ho:Op2 prog w (G.at ((dx,.ns l)::ol)) n (inplaceOp op) d0 d1 d) (K:∀s',Stt G H env own W i0 ρ ((dx,.ns (b7r attr d l))::ol) j0 s'→Q .next s')
  (hl:l.length≤900:=by decide) (hh:b1l d0=true:=by rfl):wpAny (model prog w) A (exec (.AugAssign (.Attribute b attr ap) op e pos) env) Q E s:=by
 refine wpAny_AugAssign_AttributeAny (hb A _ s _ E rm t.cd fun ov g0 l0 dov=>?_)
 cases dov
 have w0:=t.keeps l0
 refine w0.getA (.tail _ hx) (.head _) ck ha hl0 hh fun old u0 y1 dold=>?_
 have z0:=w0.keeps y1
 refine h A _ u0 _ E rm z0.cd fun v y2 a4 dv=>?_
 have j1:=z0.keeps a4
 refine ho A _ y2 old v _ E rm j1.cd.top j1.mem (dold.mono a4.hk.vis) dv fun r l3 x5 dr=>?_
 exact(j1.keeps x5).setA hx ck ha hl dr fun s' t' _=>K s' t'
end
section
variable {n:Nat} {s:Shared} {o:Expr} {name:Str} {apos:Pos} {x f:Addr} {l:List (Str×D)}
theorem b4h {Q:Value×List Value→Shared→Prop} (c:Cd G env M ρ s) (hx:(x,Ob.raw (· =instObj C dx))∈G.ob) (hd:(dx,Ob.ns l)∈G.ob) (ck:a3f G.K C) (mo:a1m G.K C name f) (hl:l.lookup name=none) (h:Q (.ref f,[.ref x]) s):wpAny (model prog w) A (getMethod (.ref x) name pl) Q E s:=by
 obtain⟨o,eo,ho⟩:=c.obs _ hx
 have ho':o=instObj C dx:=ho
 subst ho'
 obtain⟨od,ed,es,ep,rfl,r⟩:=c.obs _ hd
 exact method_fn c.top.inK (a3r eo ed) ck.ga ck.gt mo.find mo.fn (by unfold shadowIn;simp only[(r.look (ep:=ep)).2 hl];rfl) h
theorem a5i {args:List Expr} {of:Obj} {fd:FuncData} (rm:Rm A n) (c:Cd G env M ρ s) (hb:Ev prog w G n env ρ o (.val (.ref x))) (hx:(x,Ob.raw (· =instObj C dx))∈G.ob) (hd:(dx,Ob.ns l)∈G.ob) (ck:a3f G.K C) (mo:a1m G.K C name f) (hl:l.lookup name=none) (hof:G.objs f=some of) (hfd:of.data= .func fd)
  (ha:EvL prog w G n env ρ args ds) (hne:args≠[]) (K:∀vs s',Kp s s'→DRs (vis s'.heap M) vs ds→wpAny (model prog w) A (call (.ref f) (.ref x::vs)) Q E s') (he:eval (.Call (.Attribute o name apos) args [] pos) env=(do
   let ov ←eval o env
   standAt apos.atName
   let(f,first) ←holding [ov] (getMethod ov name pl)
   callWith pos f first (backTo pos (starEach args env)) []):=by rfl):wpAny (model prog w) A (eval (.Call (.Attribute o name apos) args [] pos) env) Q E s:=by
 refine MethodCall_ (hb A M s _ E rm c fun ov g0 l0 dov=>?_) he
 cases dov
 have v5:=c.keeps l0
 refine b4h v5 hx hd ck mo hl (Calls.callWith_function (a0p ha hne rm v5 fun vs u0 y1 dvs=>⟨⟨(v5.keeps y1).top.objs f of hof,hfd⟩,K vs u0 (l0.trans y1) dvs⟩))
theorem a2d {of:Obj} {fd:FuncData} (rm:Rm A n) (c:Cd G env M ρ s) (hb:Ev prog w G n env ρ o (.val (.ref x))) (hx:(x,Ob.raw (· =instObj C dx))∈G.ob) (hd:(dx,Ob.ns l)∈G.ob) (ck:a3f G.K C) (mo:a1m G.K C name f) (hl:l.lookup name=none) (hof:G.objs f=some of) (hfd:of.data= .func fd)
  (K:∀s',Kp s s'→wpAny (model prog w) A (call (.ref f) [.ref x]) Q E s') (he:eval (.Call (.Attribute o name apos) [] [] pos) env=(do
   let ov ←eval o env
   standAt apos.atName
   let(f,first) ←holding [ov] (getMethod ov name pl)
   callWith pos f first (backTo pos (starEach [] env)) []):=by rfl):wpAny (model prog w) A (eval (.Call (.Attribute o name apos) [] [] pos) env) Q E s:=by
 refine MethodCall_ (hb A M s _ E rm c fun ov g0 l0 dov=>?_) he
 cases dov
 have v5:=c.keeps l0
 refine b4h v5 hx hd ck mo hl (Calls.callWith_function (evalArgs_nil3 ⟨⟨v5.top.objs f of hof,hfd⟩,K g0 l0⟩))
end
end
section
section
variable {n:Nat}
theorem c1v {i:Int}:Op1 prog w G n (fun a=>call (.type "type") [a]) (.int i) (.val (.type "int")):=fun A M s a Q E _ _ _ da K=>by
 cases da;exact call_type_of (typeIs_int _ _ _) (by decide) (K _ _ (Kp.refl _) (.val _))
theorem b3z {x:Str}:Op1 prog w G n (fun a=>call (.type "type") [a]) (.str x) (.val (.type "str")):=fun A M s a Q E _ _ _ da K=>by
 cases da;exact call_type_of (typeIs_str _ _ _) (by decide) (K _ _ (Kp.refl _) (.val _))
theorem c5v {i:Int}:Op1 prog w G n (fun a=>call (.type "int") [a]) (.int i) (.int i):=fun A M s a Q E _ _ _ da K=>by
 cases da;exact call_int_int (K _ _ (Kp.refl _) (.int _ _))
theorem a7g {u:Value} (h:plainIs u v=true):Op2 prog w G n (compareOp .IsNot) (.val u) (.val v) (.bool (u != v)):=fun A M s a b Q E _ _ _ da db K=>by
 cases da;cases db;exact wpAny_isNot_plain h (K _ _ (Kp.refl _) (.bool _))
theorem a2s {x y:Str}:Op2 prog w G n (compareOp .Eq) (.str x) (.str y) (.bool (x.cps.toList == y.cps.toList)):=fun A M s a b Q E _ _ _ da db K=>by
 cases da;cases db;exact P.eq_str (K _ _ (Kp.refl _) (.bool _))
theorem c3u {x y:Str}:Op2 prog w G n (compareOp .NotEq) (.str x) (.str y) (.bool (x.cps.toList != y.cps.toList)):=fun A M s a b Q E _ _ _ da db K=>by
 cases da;cases db;exact P.ne_str (K _ _ (Kp.refl _) (.bool _))
theorem c9c {x:Str}:Op2 prog w G n (fun a b=>call (.builtin "isinstance") [a,b]) (.str x) (.val (.type "str")) (.bool true):=fun A M s a b Q E _ _ _ da db K=>by
 cases da;cases db
 exact call_isinstance (isinstance_true (Tx:="str") ∅ (by rw[isSubtype_type];kernel_rfl)) ⟨typeIs_str _ _ _,K _ _ (Kp.refl _) (.bool _)⟩
theorem Ev.neg {e:Expr} {p:Pos} {a:Int} (h:Ev prog w G n env ρ e (.int a)):Ev prog w G n env ρ (.UnaryOp .USub e p) (.int (-a)):=
 fun A M s Q E rm c K=>wpAny_UnaryOp (h A M s _ E rm c fun v g0 l0 dv=>by
  cases dv;exact neg_int (K _ _ (l0.trans (Kp.tok _ _)) (.int _ _)))
theorem b4z {s:Shared} {lower upper:Option Expr} {p:Pos}
  (h:wpAny (model prog w) A (eval value env) (fun o g0=>wpAny (model prog w) A (eval (.Slice lower upper none p) env) (fun i u0=>u0.TypeIs o "str"∧wpAny (model prog w) A (getItem o i) Q E u0) E g0) E s):
  wpAny (model prog w) A (eval (.Subscript value (.Slice lower upper none p) pos) env) Q E s:=by
 rw[eval_Subscript]
 refine wpAny_bind (wpAny_mono h (fun o g0 j2=>wpAny_bind (wpAny_holding (wpAny_mono j2 (fun i u0 v4=>wpAny_bind (wpAny_standAt ?_)) fun _ _ x=>x))) fun _ _ x=>x)
 have fin:wpAny (model prog w) A (operate [i,o] (getItem o i)) (fun r y2=>wpAny (model prog w) A (letTemporaryGo value o r >>= fun _=>pure r) Q E y2) E u0:=
  wpAny_operating (wpAny_mono v4.2 (fun r y2 e6=>wpAny_bind (wpAny_letTemporaryGo (wpAny_pure e6))) fun _ _ x=>x)
 refine wpAny_bind ?_
 rw[getitemInPython_of_ne v4.1.not_modules]
 refine wpAny_bind (wpAny_specialOf v4.1 F.slot_str_getitem.lookup ?_)
 first
  | exact wpAny_pure (wpAny_bind fin)
  | exact wpAny_bind (wpAny_pure (wpAny_bind fin))
  | exact wpAny_bind fin
theorem Ev.cutS {lo hi:Expr} {i j:Int} {p:Pos} {x:Str} (hv:Ev prog w G n env ρ value (.str x)) (hl:Ev prog w G n env ρ lo (.int i)) (hh:Ev prog w G n env ρ hi (.int j)) (hsz:x.length≤sizeLine):Ev prog w G n env ρ (.Subscript value (.Slice (some lo) (some hi) none p) q) (.str (Txt.slice x (some i) (some j))):=
 fun A M s Q E rm c K=>b4z (hv A M s _ E rm c fun o g0 l0 do_=>wpAny_Slice (hl A M g0 _ E rm (c.keeps l0) fun vl u0 y1 pl=>hh A M u0 _ E rm ((c.keeps l0).keeps y1) fun vu y2 a4 pu=>by
  rw[evalPart_none]
  cases do_;cases pl;cases pu
  refine wpAny_pure ⟨typeIs_str _ _ _,wpAny_getItem_str_slice (l:=some (_,_)) (u:=some (_,_)) (st:=none) ⟨_,get?_push_size _ rfl,rfl,rfl⟩ rfl (post_val_or_str ⟨Nat.le_trans (Txt.slice_le x _ _) hsz,fun t' k=>?_⟩)⟩
  exact K _ _ (((l0.trans y1).trans a4).trans ((Kp.push y2 _).trans (Kp.tok _ _))) (.str _ _)))
end
theorem slice_one {x:Str} {p c:Nat} (h:x.cps[p]? =some c):Txt.slice x (some (p:Int)) (some ((p:Int)+1))=⟨#[c]⟩:=by
 obtain⟨hp,hc⟩:=Array.getElem?_eq_some_iff.mp h
 have hn:x.length=x.cps.size:=rfl
 have hi:Builtin.Str.strSliceIndices (some (p:Int)) (some ((p:Int)+1)) 1 x.length=[p]:=by
  unfold Builtin.Str.strSliceIndices PySem.sliceRange
  simp only[show(1:Int) > 0 by decide,if_true,show ¬((p:Int) < 0) by omega,show ¬((p:Int)+1 < 0) by omega,if_false]
  rw[hn]
  have e1:max 0 (min (p:Int) (x.cps.size:Int))=p:=by omega
  have e2:max 0 (min ((p:Int)+1) (x.cps.size:Int))=p+1:=by omega
  rw[e1,e2,if_pos (by omega)]
  have e3:(((p:Int)+1 - p+1 - 1) / 1).toNat=1:=by simp
  rw[e3]
  show[((p:Int)+1 * ((0:Nat):Int)).toNat]=[p]
  simp
 unfold Txt.slice
 rw[hi]
 clear hi hn
 split
 ·rename_i h1
  have h2:1=x.length:=by simpa using h1
  obtain⟨a⟩:=x
  have hs:a.size=1:=h2.symm
  have hp0:p=0:=by have:p < a.size:=hp;omega
  clear hp p x
  subst hp0
  show(⟨a⟩:Str)=⟨#[c]⟩
  congr 1
  apply Array.ext
  ·simpa using hs
  ·intro i h1 h2
   have:i=0:=by omega
   clear h2 h1 i hp0 hs a c
   subst this
   simpa using hc
 ·simp[h]
end
section
noncomputable def FnS (G:a1k) (f:Addr) (qual:Str) (st:Stmt) (dV:Value):Prop:=a9e G f qual (a4t st) (a2b st) (a0a st) dV .none
noncomputable def a3p (b:Str) (p:Nat):List (Str×D):=[("_StringIO__newline",.str "\n"),("_StringIO__buf",.str b),("_StringIO__pos",dn p)]
noncomputable def c0v:List Str:=["_StringIO__newline","_StringIO__buf","_StringIO__pos"]
noncomputable def a0r (C dx:Addr):Ob:=.raw (· =instObj C dx)
structure GI (G:a1k):Prop where
 glb:∀x v,([("_index",some (.ref 190)),("type",none),("int",none),("bool",none),("len",none),("isinstance",none),("str",none)]:List (Str×Option Value)).lookup x=some v→G.glb x=some v
 index:FnS G 190 "_index" (stm 14) .none
 cls:a3f G.K 724
 attr:∀a∈c0v,a3c G.K 724 a
 check:FnS G 508 "StringIO.__check" (a0q 20 3) .none
 read:FnS G 670 "StringIO.read" (a0q 20 25) (.ref 663)
 d663:∃t,G.objs 663=some {cls:=.type "tuple",data:=.seq #[.int (-1) t] 0}
 mCheck:a1m G.K 724 "_StringIO__check" 508
 mRead:a1m G.K 724 "read" 670
section
theorem a9e.obj {f:Addr} {q:Str} {a:Arguments} {b:List Stmt} {sc:Scope} {x y:Value} (h:a9e G f q a b sc x y):∃o fd,G.objs f=some o∧o.data= .func fd:=by
 obtain⟨name,doc,pm,an,cdv,ct,oc,od,osl,ox,vsx,tq,hf,_⟩:=h.fn
 exact⟨_,_,hf,rfl⟩
theorem Ts.bool {n:Nat} {e:Expr} {b:Bool} (h:Ts prog w G n env ρ e b) {b':Bool} (hb:b=b'):Ts prog w G n env ρ e b':=hb▸h
theorem c2o (hI:GI G) {n:Nat} {i:Int} {x:Str} (h1:-1000≤i) (h2:i≤1000):∀(A:Around) (M:List Addr) (s:Shared) (vs:List Value) (Q:Value→Shared→Prop) (E:Value→Shared→Prop),Rm A (n+1)→TF G s.heap→(∀b∈M,∃o,s.heap.get? b=some o)→DRs (vis s.heap M) vs [.int i,.str x]→
  (∀v s',Kp s s'→DR (vis s'.heap M) v (.int i)→Q v s')→wpAny (model prog w) A (call (.ref 190) vs) Q E s:=by
 intro A M s vs Q E rm T hm dvs K
 have T':TF ⟨G.glb,G.K,[],false⟩ s.heap:=⟨T.g,T.b,T.lim,T.objs⟩
 cases dvs with
 | cons d0 r=>
 cases r with
 | cons d1 r=>
 cases r
 refine a0u (G:=⟨G.glb,G.K,[],false⟩) (n:=n) (args:=⟨[_,_],[]⟩) (ρ:=[("n",_),("what",_)]) (binds:=[("n",_),("what",_)]) ⟨hI.index.fn⟩ rm T' hm (fun name doc pm an cdv ct=>BindsTo.of_eq rfl) rfl (.cons d0 (.cons d1 .nil)) (fun x hx=>by
   rcases a0o hx with rfl | hx
   ·exact .inl ∅
   ·rw[zS hx];exact .inl ∅) (a0d ∅) (by decide +kernel) (a0d ∅) ?_ ∅ ∅ ∅
 intro L cd g0 hL t hW
 walk_at "q"
 have hg:=hI.glb
 have rm':=rm.deeper (fnv "_index" (a0a (stm 14)) L 190 cd)
 refine a0e t rm' (b:=false) (Ts.and2 (a:=false) (b:=true) (Ts.cmp (.callT ∅ (hg _ _ ∅) ∅ (by decide) (.one (.name (d:=.int i) ∅)) c1v) (.blt ∅ (hg _ _ ∅) (v:=.type "int") ∅ (by decide)) (a7g (by rfl))) (fun h=>nomatch h)) fun u0 z0=>?_
 refine a2m z0 rm' (d:=.int i) (.callT ∅ (hg _ _ ∅) ∅ (by decide) (.one (.name (d:=.int i) ∅)) c5v) (.inl ∅) ∅ ?_
 intro y2 j1
 walk_at "x"
 refine a9f j1 rm' (b:=false) (Ts.bool (Ts.or2 (Ts.cmp (.name (d:=.int i) ∅) .int c5w) (fun _=>Ts.cmp (.name (d:=.int i) ∅) (.neg .int) c5s)) ?_) fun l3 z1=>?_
 ·simp;omega
 rw[if_neg (by decide)]
 refine wpAny_execs_nil ?_
 show wpAny _ _ (execs _ _) _ _ _
 walk_at "x"
 exact a2q z1 rm' (d:=.int i) (.name ∅) hW K rfl
theorem Ev.callI (hI:GI G) {n:Nat} {e1 e2:Expr} {np p:Pos} {i:Int} {x:Str} (hx:env.kindOf "_index"=some .globalImplicit) (h1:-1000≤i) (h2:i≤1000) (h:EvL prog w G (n+1) env ρ [e1,e2] [.int i,.str x]):Ev prog w G (n+1) env ρ (.Call (.Name "_index" np) [e1,e2] [] p) (.int i):=by
 obtain⟨o,fd,ho,hd⟩:=hI.index.obj
 exact .callF hx (hI.glb _ _ ∅) ho hd h (by simp) (c2o hI h1 h2)
theorem GI.at (h:GI G) (ob:List (Addr×Ob)):GI (G.at ob):=⟨h.glb,⟨h.index.fn⟩,h.cls,h.attr,⟨h.check.fn⟩,⟨h.read.fn⟩,h.d663,h.mCheck,h.mRead⟩
theorem Stt.cdOb {s:Shared} (t:Stt G j0.heap env own W M ρ [] j0 s) (hob:Obs (vis j0.heap M) j0.heap ob) (hW:∀b∈W,j0.heap.get? b=none):Cd (G.at ob) env (W++M) ρ s:=by
 have c:=t.cd
 refine⟨t.top.at ob,c.kind,c.glob,c.bi,c.vars,c.mem,c.cs,fun p hp=>?_⟩
 obtain⟨o,e,r⟩:=hob p hp
 exact⟨o,t.kH _ _ e,r.mono (a8k t.kH fun b hb=>by
  rcases zA hb with hb | hb
  ·exact .inr (hW b hb)
  ·exact .inl hb)⟩
theorem Stt.endP {s:Shared} (t:Stt G j0.heap env own W M ρ [] j0 s) (hg:G.gen=false) (hW:∀b∈W,j0.heap.get? b=none) (k:Kp s s'):Kp j0 s':=by
 have:=t.kp
 rw[hg]at this
 exact(this.kp hW).trans k
theorem c3f (hI:GI G) {n:Nat} {s:Shared} {x:Addr} {l:List (Str×D)} {b:Str} (rm:Rm A (n+1)) (T:TF G s.heap) (hm:∀b∈M,∃o,s.heap.get? b=some o) (hob:Obs (vis s.heap M) s.heap ob) (hx:(x,a0r 724 dx)∈ob) (hd:(dx,.ns l)∈ob) (hl:l.lookup ("_StringIO__buf":Str)=some (.str b))
  (K:∀s',Kp s s'→Q .none s'):wpAny (model prog w) A (call (.ref 508) [.ref x]) Q E s:=by
 have T':TF ⟨G.glb,G.K,[],false⟩ s.heap:=⟨T.g,T.b,T.lim,T.objs⟩
 refine a0u (G:=⟨G.glb,G.K,[],false⟩) (n:=n) (args:=⟨[_],[]⟩) (ρ:=[("self",_)]) (binds:=[("self",_)]) ⟨hI.check.fn⟩ rm T' hm (fun name doc pm an cdv ct=>BindsTo.of_eq rfl) rfl (.cons (.val _) .nil) (fun x hx=>by rw[zS hx];exact .inl ∅) (a0d ∅) (by decide +kernel) (by simp) ?_ ∅ ∅ ∅
 intro L cd g0 hL t hW
 walk_at "q"
 have c:=t.cdOb hob hW
 have rm':=rm.deeper (fnv "StringIO.__check" (a0a (a0q 20 3)) L 508 cd)
 walk_at "x"
 refine wpAny_If ?_
 refine(Ts.cmp (G:=(⟨G.glb,G.K,[],false⟩:a1k).at ob) (b:=false) (.attr (d:=.str b) (.name (d:=.val (.ref x)) ∅) hx hd hI.cls (hI.attr _ (by decide)) hl) .noneC (a0w fun v e=>by cases e)) _ _ g0 _ _ rm' c fun u0 y1=>?_
 refine wpAny_execs_nil ?_
 exact wpAny_execs_nil (K u0 (t.endP rfl hW y1))
theorem c0o (hI:GI G) {n:Nat} {s:Shared} {x:Addr} {b:Str} {p:Nat} (rm:Rm A (n+2)) (wd:Wd G H M [(dx,.ns (a3p b p)),(x,a0r 724 dx)] s) (hb:b.length≤1000)
  (K:∀v s',Kw G.gen [dx] s s'→(∃o,s'.heap.get? dx=some o∧∀M',ObR (vis s'.heap M') o (.ns (a3p b (if p < b.length then p+1 else p))))→(∀P,DR P v (.str (if p < b.length then Txt.slice b (some (p:Int)) (some ((p:Int)+1))else "")))→Q v s'):wpAny (model prog w) A (call (.ref 670) [.ref x,.int 1 t1]) Q E s:=by
 obtain⟨td,hdef⟩:=hI.d663
 refine a0u (n:=n+1) (args:=⟨[_,_],[]⟩) (ρ:=[("self",_),("size",_)]) (binds:=[("self",_),("size",_)]) hI.read rm wd.top wd.mem (fun name doc pm an cdv ct=>BindsTo.of_defaults (T:=663) rfl (wd.top.objs _ _ hdef) rfl rfl rfl) rfl (.cons (.val (.ref x)) (.cons (.int 1 t1) .nil)) (fun x hx=>by
   rcases a0o hx with rfl | hx
   ·exact .inl ∅
   ·rw[zS hx];exact .inl ∅) (a0d ∅) (by decide +kernel) (a0d ∅) ?_ ∅ ∅ ∅
 intro L cd g0 hL t hW
 walk_at "q"
 have w0:=t.openX wd hW
 have hg:=hI.glb
 have rm':=rm.deeper (fnv "StringIO.read" (a0a (a0q 20 25)) L 670 cd)
 have hln:Str.length b=b.cps.size:=rfl
 refine a0e w0 rm' (b:=false) (Ts.cmp (.name (d:=.int 1) ∅) .noneC (a0w fun v e=>by cases e)) fun u0 z0=>?_
 refine a2m z0 rm' (d:=.int 1) (Ev.callI (hI.at _) ∅ (by decide) (by decide) (.cons (.name (d:=.int 1) ∅) (by rfl) (.one .str))) (.inl ∅) ∅ ?_
 intro y2 j1
 walk_at "x"
 obtain⟨oc,fdc,hoc,hdc⟩:=hI.check.obj
 refine wpAny_Expr (a2d (G:=G.at _) (n:=n+1) rm' j1.cd (.name (d:=.val (.ref x)) ∅) (.tail _ (.head _)) (.head _) hI.cls hI.mCheck ∅ hoc hdc fun l3 x5=>?_) ∅ ∅
 have z1:=j1.keeps x5
 refine c3f (n:=n) (b:=b) (ob:=[(dx,.ns (a3p b p)),(x,a0r 724 dx)]) hI rm' z1.top z1.mem z1.cd.obs (.tail _ (.head _)) (.head _) ∅ fun y3 k7=>?_
 have u1:=z1.keeps k7
 refine a2m u1 rm' (d:=dn p) (.attr (G:=G.at _) (.name (d:=.val (.ref x)) ∅) (.tail _ (.head _)) (.head _) hI.cls (hI.attr _ (by decide)) ∅) (.inl ∅) ∅ ?_
 intro i5 z2
 refine a2m z2 rm' (d:=dn b.length) (.callB (G:=G.at _) ∅ (hg _ _ ∅) ∅ (by decide) (.one (.attr (d:=.str b) (G:=G.at _) (.name (d:=.val (.ref x)) ∅) (.tail _ (.head _)) (.head _) hI.cls (hI.attr _ (by decide)) ∅)) (b8b (by omega))) (.inl ∅) ∅ ?_
 intro i4 j3
 walk_at "x"
 refine a9f j3 rm' (b:=decide (b.length≤p)) (Ts.bool (Ts.cmp (.name (d:=dn p) ∅) (.name (d:=dn b.length) ∅) b5m) (by rw[decide_eq_decide];exact Int.ofNat_le)) fun d6 z3=>?_
 have fin:∀s',(∀b o,b∉fms (fnv "StringIO.read" (a0a (a0q 20 25)) L 670 cd) (cellsFrom (L+1) (a0a (a0q 20 25)).names [])++[dx,x]→s.heap.get? b=some o→s'.heap.get? b=some o)→s'.heap.get? x=some (instObj 724 dx)→Gk G.gen s.gens s'.gens∧s'.drawn=s.drawn∧s'.os=s.os→Kw G.gen [dx] s s':=fun s' k1 k2 k3=>by
  refine⟨fun c o hc e=>?_,k3⟩
  by_cases hcx:c=x
  ·obtain⟨_,_,o',e',h'⟩:=wd.ls _ (.tail _ (.head _))
   have h'':o'=instObj 724 dx:=h'
   subst h''
   rw[hcx]at e ⊢
   rw[e']at e;cases e;exact k2
  ·refine k1 c o (fun hm=>?_) e
   rcases zA hm with hm | hm
   ·exact nsn (hW c hm) e
   ·rcases zC hm with h | h
    ·exact hc (by rw[h];exact .head _)
    ·exact hcx (zS h)
 have nsOk:∀{s':Shared} {q:Nat} {o:Obj} {M':List Addr},ObR (vis s'.heap M') o (.ns (a3p b q))→∀M'',ObR (vis s'.heap M'') o (.ns (a3p b q)):=fun{s' q o M'} h M''=>by
  obtain⟨es,ep,rfl,r⟩:=h
  refine⟨es,ep,rfl,?_⟩
  cases r with
  | cons h1 r=>
  cases r with
  | cons h2 r=>
  cases r with
  | cons h3 r=>
  cases r
  cases h1;cases h2;cases h3
  exact .cons (.str _ _) (.cons (.str _ _) (.cons (.int _ _) .nil))
 by_cases hp:b.length≤p
 ·rw[decide_eq_true hp,if_pos rfl]
  walk_at "x"
  refine wpAny_Return_some (wpAny_Constant_str ?_)
  have w4:=z3.keeps (Kp.tok d6 (d6.toks+1))
  obtain⟨_,_,o,eo,ho⟩:=w4.ls _ (.tail _ (.head _))
  have ho':o=instObj 724 dx:=ho
  subst ho'
  obtain⟨_,_,od,ed,hod⟩:=w4.ls _ (.head _)
  have hnp:¬p < b.length:=by omega
  refine K _ _ (fin _ w4.kp.1 eo w4.kp.2) ⟨od,ed,?_⟩ ?_
  ·rw[if_neg hnp];exact nsOk (s':={d6 with toks:=d6.toks+1}) hod
  ·rw[if_neg hnp];exact fun P=>.str _ _
 ·rw[decide_eq_false hp,if_neg (by decide)]
  have hp':p < b.length:=by omega
  refine wpAny_execs_nil ?_
  show wpAny _ _ (execs _ _) _ _ _
  walk_at "x"
  refine a9f z3 rm' (b:=decide (p+1 < b.length)) (Ts.bool (Ts.and2 (a:=true) (b:=decide (p+1 < b.length)) (Ts.bool (Ts.cmp (.name (d:=.int 1) ∅) .int b5m) (by decide)) (fun _=>Ts.bool (Ts.cmp (.op (.name (d:=dn p) ∅) (.name (d:=.int 1) ∅) b0z) (.name (d:=dn b.length) ∅) c5s) (by rw[decide_eq_decide];omega))) (by simp)) fun j6 w4=>?_
  have cont:∀s',Stt G H (fnv "StringIO.read" (a0a (a0q 20 25)) L 670 cd) (cellsFrom (L+1) (a0a (a0q 20 25)).names []) (fms (fnv "StringIO.read" (a0a (a0q 20 25)) L 670 cd) (cellsFrom (L+1) (a0a (a0q 20 25)).names [])++[dx,x]) M ([("stop",dn (p+1)),("start",dn p),("self",.val (.ref x))]:List (Str×D)) [(dx,.ns (a3p b p)),(x,a0r 724 dx)] s s'→
    wpAny (model prog w) (A.deeper (fnv "StringIO.read" (a0a (a0q 20 25)) L 670 cd)) (execs ((a2b (a0q 20 25)).drop 7) (fnv "StringIO.read" (a0a (a0q 20 25)) L 670 cd)) (fun fl s'=>Q (match fl with | .ret v=>v | _=>.none) s') (fun e s'=>wpAny (model prog w) (A.deeper (fnv "StringIO.read" (a0a (a0q 20 25)) L 670 cd)) (leaving (fnv "StringIO.read" (a0a (a0q 20 25)) L 670 cd) e) (fun _ s''=>E e s'') (fun e' s''=>E e' s'') s') s':=by
   intro a6 d5
   refine a5f d5 rm' (.head _) hI.cls (hI.attr _ (by decide)) (.name (d:=.val (.ref x)) ∅) (.name (d:=dn (p+1)) ∅) ?_ (by show 3≤900;decide) ∅
   intro v6 u6
   have z5:Stt G H (fnv "StringIO.read" (a0a (a0q 20 25)) L 670 cd) (cellsFrom (L+1) (a0a (a0q 20 25)).names []) (fms (fnv "StringIO.read" (a0a (a0q 20 25)) L 670 cd) (cellsFrom (L+1) (a0a (a0q 20 25)).names [])++[dx,x]) M ([("stop",dn (p+1)),("start",dn p),("self",.val (.ref x))]:List (Str×D)) [(dx,.ns (a3p b (p+1))),(x,a0r 724 dx)] s v6:=u6
   walk_at "x"
   refine wpAny_Return_some ?_
   refine(Ev.cutS (G:=G.at _) (x:=b) (i:=(p:Int)) (j:=((p+1:Nat):Int)) (.attr (G:=G.at _) (.name (d:=.val (.ref x)) ∅) (.tail _ (.head _)) (.head _) hI.cls (hI.attr _ (by decide)) ∅) (.name (d:=dn p) ∅) (.name (d:=dn (p+1)) ∅) (by rw[sizeLine_eq];omega)) _ _ _ _ _ rm' z5.cd fun v z8 c9 dv=>?_
   have l5:=z5.keeps c9
   obtain⟨_,_,o,eo,ho⟩:=l5.ls _ (.tail _ (.head _))
   have ho':o=instObj 724 dx:=ho
   subst ho'
   obtain⟨_,_,od,ed,hod⟩:=l5.ls _ (.head _)
   refine K _ _ (fin _ l5.kp.1 eo l5.kp.2) ⟨od,ed,?_⟩ ?_
   ·rw[if_pos hp'];exact nsOk hod
   ·rw[if_pos hp'];cases dv;exact fun P=>.str _ _
  by_cases hq:p+1 < b.length
  ·rw[decide_eq_true hq,if_pos rfl]
   refine a2m w4 rm' (d:=dn (p+1)) (Ev.cast (.op (.name (d:=dn p) ∅) (.name (d:=.int 1) ∅) b0z) (by simp[dn])) (.inl ∅) ∅ ?_
   intro a6 d5
   refine wpAny_execs_nil ?_
   exact cont a6 (d5.pick (.cons ∅ (.cons ∅ (.cons ∅ .nil))))
  ·rw[decide_eq_false hq,if_neg (by decide)]
   have e1:b.length=p+1:=by omega
   refine wpAny_execs_nil ?_
   refine cont j6 (w4.pick (.cons ?_ (.cons ∅ (.cons ∅ .nil))))
   rw[←e1];kernel_rfl
end
end
section
section
variable {n:Nat}
end
theorem Rm.in1 {n:Nat} (r:Rm A (n+1)):Rm A.in1 n:=⟨r.hd,by have:=r.dep;show A.depth+2 * n < 1000;omega,by have:=r.un;show A.units+1+20 * n < 9900;omega⟩
end
section
noncomputable def wcS:Str:="abcdfeghijklmnopqrstuvwxyzABCDEFGHIJKLMNOPQRSTUVWXYZ0123456789_"++"ßàáâãäåæçèéêëìíîïðñòóôõöøùúûüýþÿÀÁÂÃÄÅÆÇÈÉÊËÌÍÎÏÐÑÒÓÔÕÖØÙÚÛÜÝÞ"
noncomputable def shl (xS q1 q2:Addr) (st:D) (tok:Str):List (Str×D):=[("instream",.val (.ref xS)),("infile",.none),("posix",.bool true),("eof",.none),("commenters",.str ""),("wordchars",.str wcS),("whitespace",.str " \t\r\n"),("whitespace_split",.bool true),("quotes",.str "'\""),("escape",.str "\\"),("escapedquotes",.str "\""),("state",st),
 ("pushback",.val (.ref q1)),("lineno",.int 1),("debug",.int 0),("token",.str tok),("filestack",.val (.ref q2)),("source",.none),("_punctuation_chars",.str "")]
noncomputable def b7g:List Str:=["instream","infile","posix","eof","commenters","wordchars","whitespace","whitespace_split","quotes","escape","escapedquotes","state","pushback","lineno","debug","token","filestack","source","_punctuation_chars"]
structure GH (G:a1k):Prop where
 io:GI G
 cls:a3f G.K 859
 attr:∀a∈b7g,a3c G.K 859 a
 pf:findIn G.K (.ref 859) "punctuation_chars"=some (some (.ref 791))
 pr:∃rest,recIn G.K 791 "property"=some (.ref 790::rest)
 pg:specialIn G.K (.ref 791) "__get__"=some (some (.builtin "property.__get__"))
 pt:takesIn G.K (.ref 791)=some true
 pfn:FnS G 790 "shlex.punctuation_chars" (a0q 30 1) .none
 rt:FnS G 827 "shlex.read_token" (a0q 30 6) .none
 gt:FnS G 820 "shlex.get_token" (a0q 30 5) .none
 it:FnS G 849 "shlex.__iter__" (a0q 30 9) .none
 nx:FnS G 856 "shlex.__next__" (a0q 30 10) .none
 mRt:a1m G.K 859 "read_token" 827
 mGt:a1m G.K 859 "get_token" 820
 mIt:a1m G.K 859 "__iter__" 849
 mNx:a1m G.K 859 "__next__" 856
section
variable {n:Nat}
theorem GH.at (h:GH G) (ob:List (Addr×Ob)):GH (G.at ob):=⟨h.io.at ob,h.cls,h.attr,h.pf,h.pr,h.pg,h.pt,⟨h.pfn.fn⟩,⟨h.rt.fn⟩,⟨h.gt.fn⟩,⟨h.it.fn⟩,⟨h.nx.fn⟩,h.mRt,h.mGt,h.mIt,h.mNx⟩
theorem Ev.punct (hH:GH G) {y:Str} {x:Addr} {l:List (Str×D)} {pc:Str} (hy:ρ.lookup y=some (.val (.ref x))) (hx:(x,a0r 859 dx)∈G.ob) (hd:(dx,Ob.ns l)∈G.ob) (hl:l.lookup ("_punctuation_chars":Str)=some (.str pc)) (h1:(y == ("__debug__":Str))=false:=by decide) (h2:(y == ("__classdict__":Str))=false:=by decide)
  (he:eval (.Attribute (.Name y yp) "punctuation_chars" pos) env=(do
   let o ←eval (.Name y yp) env
   standAt pos.atName
   let r ←holding [o] (getAttr o "punctuation_chars" true)
   letTemporaryGo (.Name y yp) o r
   pure r):=by with_unfolding_all rfl):Ev prog w G (n+2) env ρ (.Attribute (.Name y yp) "punctuation_chars" pos) (.str pc):=by
 intro A M s Q E rm c k
 refine Attribute_any_ ((Ev.name (d:=.val (.ref x)) hy h1 h2) A M s _ E rm c fun v g0 l0 dv=>?_) he
 cases dv
 have v5:=c.keeps (l0.trans (Kp.tok g0 (g0.toks+1)))
 obtain⟨o,eo,ho⟩:=v5.obs _ hx
 have ho':o=instObj 859 dx:=ho
 subst ho'
 walk_at "c"
 rcases v5.obs _ hd with⟨od,ed,hod⟩
 rcases hH.pr with⟨rest,hpr⟩
 rcases hH.cls.hd with⟨cd,hcd,_⟩
 walk_at "u"
 refine get_bind (g:=.builtin "property.__get__") (a:=.ref 791) (c.keeps l0).top.inK (a3r eo ed) hH.cls.ga ?_ hH.cls.gt ?_
 ·unfold findObj
  rw[hcd,hH.pf]
  show(specialIn _ _ _).bind _=_
  rw[hH.pg]
  show(takesIn _ _).bind _=_
  rw[hH.pt];rfl
 refine wpAny_call (prop_get v5.top.inK hpr ?_)
 have T':TF ⟨G.glb,G.K,[],false⟩ {g0 with toks:=g0.toks+1}.heap:=⟨v5.top.g,v5.top.b,v5.top.lim,v5.top.objs⟩
 refine a5y (G:=⟨G.glb,G.K,[],false⟩) (n:=n) (args:=⟨[_],[]⟩) (ρ:=[("self",_)]) (binds:=[("self",_)]) ⟨hH.pfn.fn⟩ rm.in1 T' v5.mem (fun name doc pm an cdv ct=>BindsTo.of_eq rfl) rfl (.cons (.val (.ref x)) .nil) (fun x hx=>by rw[zS hx];exact .inl ∅) (a0d ∅) (by decide +kernel) (by simp) ?_ ∅ ∅ ∅
 intro L cd u0 hL t hW _
 have cc:=t.cdOb v5.obs hW
 have rm':=rm.in1.deeper (fnv "shlex.punctuation_chars" (a0a (a0q 30 1)) L 790 cd)
 walk_at "x"
 refine wpAny_Return_some ?_
 refine(Ev.attr (G:=(⟨G.glb,G.K,[],false⟩:a1k).at G.ob) (d:=.str pc) (.name (d:=.val (.ref x)) ∅) hx hd hH.cls (hH.attr _ (by decide)) hl) _ _ u0 _ _ rm' cc fun v y2 a4 dv=>?_
 cases dv
 show wpAny _ _ (handedOut _) _ _ _
 rw[handedOut_of rfl]
 exact wpAny_pure (k _ y2 ((l0.trans (Kp.tok g0 (g0.toks+1))).trans (t.endP rfl hW a4)) (.str _ _))
end
end
section
noncomputable abbrev a1t (L:Addr) (cd:Value):Env:=fnv "shlex.read_token" (a0a (a0q 30 6)) L 827 cd
noncomputable abbrev a3g (L:Addr):List (Str×Addr):=cellsFrom (L+1) (a0a (a0q 30 6)).names []
noncomputable def wbT:List Stmt:=a2b (((a2b (a0q 30 6))[2]?).getD (.Pass ⟨0,0,0,0⟩))
noncomputable def ρ0 (xL:Addr) (c:Str) (q:Bool):List (Str×D):=[("nextchar",.str c),("quoted",.bool q),("escapedstate",.str " "),("self",.val (.ref xL))]
noncomputable def ρ1 (xL:Addr) (q:Bool):List (Str×D):=[("quoted",.bool q),("escapedstate",.str " "),("self",.val (.ref xL))]
section
variable {n:Nat}
theorem Ts.and3 {x y z:Expr} {p:Pos} {a b c:Bool} (hx:Ts prog w G n env ρ x a) (hy:a=true→Ts prog w G n env ρ y b) (hz:a=true→b=true→Ts prog w G n env ρ z c):Ts prog w G n env ρ (.BoolOp .And [x,y,z] p) (a && (b && c)):=
 fun A M s Q E rm cc k=>wpAny_isTrue_BoolOp (wpAny_allTrue_And_cons (hx A M s _ E rm cc fun g0 l0=>by
  clear hx p z y x ρ env
  cases a with
  | false=>exact k g0 l0
  | true=>exact wpAny_allTrue_And_cons (hy rfl A M g0 _ E rm (cc.keeps l0) fun u0 y1=>by
    clear g0 hy a
    cases b with
    | false=>exact k u0 (l0.trans y1)
    | true=>exact wpAny_allTrue_And_cons (hz rfl rfl A M u0 _ E rm ((cc.keeps l0).keeps y1) fun y2 a4=>by
      clear u0 hz b
      cases c with
      | false=>exact k y2 ((l0.trans y1).trans a4)
      | true=>exact wpAny_allTrue_And_nil (k y2 ((l0.trans y1).trans a4))))))
theorem b4b {x y:Str} (hsz:x.length+y.length≤sizeLine):Op2 prog w G n (inplaceOp .Add) (.str x) (.str y) (.str (x++y)):=fun A M s a b Q E rm _ _ da db K=>by
 cases da;cases db
 exact SB.iadd (fun t' k=>K _ _ (Kp.tok _ _) (.str _ _)) hsz
theorem Ev.sh (hH:GH G) {a:Str} {d:D} {st:D} (hy:ρ.lookup ("self":Str)=some (.val (.ref xL))) (ha:a∈b7g) (hl:(shl xS q1 q2 st tok).lookup a=some d) (hh:b1l d=true:=by rfl)
  (he:eval (.Attribute (.Name "self" yp) a pos) env=(do
   let o ←eval (.Name "self" yp) env
   standAt pos.atName
   let r ←holding [o] (getAttr o a true)
   letTemporaryGo (.Name "self" yp) o r
   pure r):=by with_unfolding_all rfl):Ev prog w (G.at ((dL,.ns (shl xS q1 q2 st tok))::(xL,a0r 859 dL)::ol)) n env ρ (.Attribute (.Name "self" yp) a pos) d:=
 .attr (G:=G.at _) (.name hy) (.tail _ (.head _)) (.head _) hH.cls (hH.attr a ha) hl hh he
theorem b8d {x:Str} {ys:List Str}:Op2 prog w G n (compareOp .In) (.str x) (.tuple (ys.map D.str)) (.bool (ys.any (· == x))):=fun A M s a b Q E rm _ _ da db K=>by
 cases da
 cases db with
 | tuple e r=>
 have key:∀{vs:List Value} {ys:List Str},DRs (vis s.heap M) vs (ys.map D.str)→StrsAre vs ys:=by
  intro vs
  induction vs with
  | nil=>intro ys h;cases ys with | nil=>exact .nil | cons _ _=>cases h
  | cons v vs ih=>
   intro ys h
   cases ys with
   | nil=>cases h
   | cons y ys=>
    cases h with
    | cons h r=>cases h with | str x t=>exact .cons _ _ (ih r)
 exact in_tuple_strs ⟨_,(a0b e).1,rfl,_,rfl⟩ (by simpa using key r) (K _ _ (Kp.refl _) (.bool _))
variable {cd:Value} {s:Shared} {Q:Flow→Shared→Prop} {c:Str} {q:Bool}
theorem eqb {x y:Str} (h:x=y):(x.cps.toList == y.cps.toList)=true:=by subst h;simp
theorem d0m (hH:GH G) {st:Str} (rm:Rm A (n+2)) (t:Stt G H (a1t L cd) (a3g L) W i0 (ρ0 xL st q) ((dL,.ns (shl xS q1 q2 (.str st) tok))::(xL,a0r 859 dL)::ol) j0 s) (h1:(st.cps.toList == (" ":Str).cps.toList)=false) (h2:Txt.contains "'\"" st=true) (h3:st.length=1)
  (K:∀s',Stt G H (a1t L cd) (a3g L) W i0 (ρ1 xL true) ((dL,.ns (shl xS q1 q2 (.str "a") tok))::(xL,a0r 859 dL)::ol) j0 s'→Q .next s'):wpAny (model prog w) A (execs (wbT.drop 3) (a1t L cd)) Q E s:=by
 refine a0e t rm (b:=false) (Ts.cmp (.sh hH (d:=.str st) ∅ (by decide) ∅) .noneC (a0w fun v e=>by cases e)) fun g0 w0=>?_
 refine a0e w0 rm (b:=false) (Ts.bool (Ts.cmp (.sh hH (d:=.str st) ∅ (by decide) ∅) .str a2s) h1) fun u0 z0=>?_
 refine a0e z0 rm (b:=true) (Ts.bool (Ts.cmp (.sh hH (d:=.str st) ∅ (by decide) ∅) (.sh hH (d:=.str "'\"") ∅ (by decide) ∅) a1r) h2) fun y2 j1=>?_
 refine a2m j1 rm (d:=.bool true) .boolC (.inl ∅) ∅ ?_
 intro l3 z1
 refine a0e z1 rm (b:=false) (Ts.bool (.not (.val (.name (d:=.str st) ∅) (.str _ (by omega)))) (by rw[h3];rfl)) fun y3 u1=>?_
 refine a0e u1 rm (b:=true) (Ts.bool (Ts.cmp (.name (d:=.str st) ∅) (.sh hH (d:=.str st) ∅ (by decide) ∅) a2s) (eqb rfl)) fun i5 z2=>?_
 refine a0e z2 rm (b:=false) (.not (.val (.sh hH (d:=.bool true) ∅ (by decide) ∅) (.bool true))) fun i4 j3=>?_
 refine a5f j3 rm (.head _) hH.cls (hH.attr _ (by decide)) (.name (d:=.val (.ref xL)) ∅) .str ?_ (by show 19≤900;decide) ∅
 intro d6 z3
 have w4:Stt G H (a1t L cd) (a3g L) W i0 (ρ1 xL true) ((dL,.ns (shl xS q1 q2 (.str "a") tok))::(xL,a0r 859 dL)::ol) j0 d6:=z3.pick (.cons ∅ (.cons ∅ (.cons ∅ .nil)))
 repeat refine wpAny_execs_nil ?_
 exact K _ w4
theorem d0l (hH:GH G) {st:Str} (rm:Rm A (n+2)) (t0:Stt G H (a1t L cd) (a3g L) W i0 (ρ0 xL c q) ((dL,.ns (shl xS q1 q2 (.str st) tok))::(xL,a0r 859 dL)::ol) j0 s) (h1:(st.cps.toList == (" ":Str).cps.toList)=false) (h2:Txt.contains "'\"" st=true) (h3:c.length=1) (h4:(c.cps.toList == st.cps.toList)=false) (h5:Txt.contains "\\" c=false) (h6:tok.length≤1000)
  (K:∀s',Stt G H (a1t L cd) (a3g L) W i0 (ρ1 xL true) ((dL,.ns (shl xS q1 q2 (.str st) (tok++c)))::(xL,a0r 859 dL)::ol) j0 s'→Q .next s'):wpAny (model prog w) A (execs (wbT.drop 3) (a1t L cd)) Q E s:=by
 refine a0e t0 rm (b:=false) (Ts.cmp (.sh hH (d:=.str st) ∅ (by decide) ∅) .noneC (a0w fun v e=>by cases e)) fun s1 t1=>?_
 refine a0e t1 rm (b:=false) (Ts.bool (Ts.cmp (.sh hH (d:=.str st) ∅ (by decide) ∅) .str a2s) h1) fun s2 t2=>?_
 refine a0e t2 rm (b:=true) (Ts.bool (Ts.cmp (.sh hH (d:=.str st) ∅ (by decide) ∅) (.sh hH (d:=.str "'\"") ∅ (by decide) ∅) a1r) h2) fun s3 t3=>?_
 refine a2m t3 rm (d:=.bool true) .boolC (.inl ∅) ∅ ?_
 intro s4 t4
 refine a0e t4 rm (b:=false) (Ts.bool (.not (.val (.name (d:=.str c) ∅) (.str _ (by omega)))) (by rw[h3];rfl)) fun s5 t5=>?_
 refine a0e t5 rm (b:=false) (Ts.bool (Ts.cmp (.name (d:=.str c) ∅) (.sh hH (d:=.str st) ∅ (by decide) ∅) a2s) h4) fun s6 t6=>?_
 refine a0e t6 rm (b:=false) (Ts.and3 (a:=true) (b:=false) (c:=true) (.val (.sh hH (d:=.bool true) ∅ (by decide) ∅) (.bool true)) (fun _=>Ts.bool (Ts.cmp (.name (d:=.str c) ∅) (.sh hH (d:=.str "\\") ∅ (by decide) ∅) a1r) h5) (fun _ h=>nomatch h)) fun s7 t7=>?_
 walk_at "x"
 refine a9g t7 rm (.head _) hH.cls (hH.attr _ (by decide)) (.name (d:=.val (.ref xL)) ∅) (d0:=.str tok) ∅ (.name (d:=.str c) ∅) (b4b (by rw[sizeLine_eq];omega)) ?_ (by show 19≤900;decide)
 intro s8 t8
 have tF:Stt G H (a1t L cd) (a3g L) W i0 (ρ1 xL true) ((dL,.ns (shl xS q1 q2 (.str st) (tok++c)))::(xL,a0r 859 dL)::ol) j0 s8:=t8.pick (.cons ∅ (.cons ∅ (.cons ∅ .nil)))
 repeat refine wpAny_execs_nil ?_
 exact K _ tF
theorem c8o (hH:GH G) {st:Str} (hst:st=" ") (rm:Rm A (n+2)) (t0:Stt G H (a1t L cd) (a3g L) W i0 (ρ0 xL c q) ((dL,.ns (shl xS q1 q2 (.str st) tok))::(xL,a0r 859 dL)::ol) j0 s) (hc:c="")
  (K:∀s',Stt G H (a1t L cd) (a3g L) W i0 (ρ1 xL q) ((dL,.ns (shl xS q1 q2 .none tok))::(xL,a0r 859 dL)::ol) j0 s'→Q .brk s'):wpAny (model prog w) A (execs (wbT.drop 3) (a1t L cd)) Q E s:=by
 subst hst hc
 refine a0e t0 rm (b:=false) (Ts.cmp (.sh hH (d:=.str " ") ∅ (by decide) ∅) .noneC (a0w fun v e=>by cases e)) fun s1 t1=>?_
 refine a0e t1 rm (b:=true) (Ts.bool (Ts.cmp (.sh hH (d:=.str " ") ∅ (by decide) ∅) .str a2s) (eqb rfl)) fun s2 t2=>?_
 refine a0e t2 rm (b:=true) (Ts.bool (.not (.val (.name (d:=.str "") ∅) (.str _ (by decide +kernel)))) (by decide +kernel)) fun s3 t3=>?_
 refine a5f t3 rm (.head _) hH.cls (hH.attr _ (by decide)) (.name (d:=.val (.ref xL)) ∅) .noneC ?_ (by show 19≤900;decide) ∅
 intro s4 t4
 have tF:Stt G H (a1t L cd) (a3g L) W i0 (ρ1 xL q) ((dL,.ns (shl xS q1 q2 .none tok))::(xL,a0r 859 dL)::ol) j0 s4:=t4.pick (.cons ∅ (.cons ∅ (.cons ∅ .nil)))
 walk_at "x"
 refine wpAny_Break ?_
 exact K _ tF
theorem c8m (hH:GH G) {st:Str} (hst:st=" ") (rm:Rm A (n+2)) (t0:Stt G H (a1t L cd) (a3g L) W i0 (ρ0 xL c q) ((dL,.ns (shl xS q1 q2 (.str st) tok))::(xL,a0r 859 dL)::ol) j0 s) (h3:c.length=1) (h4:Txt.contains " \t\r\n" c=false) (h5:Txt.contains "" c=false) (h6:Txt.contains "\\" c=false) (h7:Txt.contains wcS c=true)
  (K:∀s',Stt G H (a1t L cd) (a3g L) W i0 (ρ1 xL q) ((dL,.ns (shl xS q1 q2 (.str "a") c))::(xL,a0r 859 dL)::ol) j0 s'→Q .next s'):wpAny (model prog w) A (execs (wbT.drop 3) (a1t L cd)) Q E s:=by
 subst hst
 refine a0e t0 rm (b:=false) (Ts.cmp (.sh hH (d:=.str " ") ∅ (by decide) ∅) .noneC (a0w fun v e=>by cases e)) fun s1 t1=>?_
 refine a0e t1 rm (b:=true) (Ts.bool (Ts.cmp (.sh hH (d:=.str " ") ∅ (by decide) ∅) .str a2s) (eqb rfl)) fun s2 t2=>?_
 refine a0e t2 rm (b:=false) (Ts.bool (.not (.val (.name (d:=.str c) ∅) (.str _ (by omega)))) (by rw[h3];rfl)) fun s3 t3=>?_
 refine a0e t3 rm (b:=false) (Ts.bool (Ts.cmp (.name (d:=.str c) ∅) (.sh hH (d:=.str " \t\r\n") ∅ (by decide) ∅) a1r) h4) fun s4 t4=>?_
 refine a0e t4 rm (b:=false) (Ts.bool (Ts.cmp (.name (d:=.str c) ∅) (.sh hH (d:=.str "") ∅ (by decide) ∅) a1r) h5) fun s5 t5=>?_
 refine a0e t5 rm (b:=false) (Ts.and2 (a:=true) (b:=false) (.val (.sh hH (d:=.bool true) ∅ (by decide) ∅) (.bool true)) (fun _=>Ts.bool (Ts.cmp (.name (d:=.str c) ∅) (.sh hH (d:=.str "\\") ∅ (by decide) ∅) a1r) h6)) fun s6 t6=>?_
 refine a0e t6 rm (b:=true) (Ts.bool (Ts.cmp (.name (d:=.str c) ∅) (.sh hH (d:=.str wcS) ∅ (by decide) ∅) a1r) h7) fun s7 t7=>?_
 refine a5f t7 rm (.head _) hH.cls (hH.attr _ (by decide)) (.name (d:=.val (.ref xL)) ∅) (.name (d:=.str c) ∅) ?_ (by show 19≤900;decide) ∅
 intro s8 t8
 have tA:Stt G H (a1t L cd) (a3g L) W i0 (ρ0 xL c q) ((dL,.ns (shl xS q1 q2 (.str " ") c))::(xL,a0r 859 dL)::ol) j0 s8:=t8
 refine a5f tA rm (.head _) hH.cls (hH.attr _ (by decide)) (.name (d:=.val (.ref xL)) ∅) .str ?_ (by show 19≤900;decide) ∅
 intro s9 t9
 have tF:Stt G H (a1t L cd) (a3g L) W i0 (ρ1 xL q) ((dL,.ns (shl xS q1 q2 (.str "a") c))::(xL,a0r 859 dL)::ol) j0 s9:=t9.pick (.cons ∅ (.cons ∅ (.cons ∅ .nil)))
 repeat refine wpAny_execs_nil ?_
 exact K _ tF
theorem c8n (hH:GH G) {st:Str} (hst:st=" ") (rm:Rm A (n+2)) (t0:Stt G H (a1t L cd) (a3g L) W i0 (ρ0 xL c q) ((dL,.ns (shl xS q1 q2 (.str st) tok))::(xL,a0r 859 dL)::ol) j0 s) (h3:c.length=1) (h4:Txt.contains " \t\r\n" c=false) (h5:Txt.contains "" c=false) (h6:Txt.contains "\\" c=false) (h7:Txt.contains wcS c=false) (h8:Txt.contains "'\"" c=true)
  (K:∀s',Stt G H (a1t L cd) (a3g L) W i0 (ρ1 xL q) ((dL,.ns (shl xS q1 q2 (.str c) tok))::(xL,a0r 859 dL)::ol) j0 s'→Q .next s'):wpAny (model prog w) A (execs (wbT.drop 3) (a1t L cd)) Q E s:=by
 subst hst
 refine a0e t0 rm (b:=false) (Ts.cmp (.sh hH (d:=.str " ") ∅ (by decide) ∅) .noneC (a0w fun v e=>by cases e)) fun s1 t1=>?_
 refine a0e t1 rm (b:=true) (Ts.bool (Ts.cmp (.sh hH (d:=.str " ") ∅ (by decide) ∅) .str a2s) (eqb rfl)) fun s2 t2=>?_
 refine a0e t2 rm (b:=false) (Ts.bool (.not (.val (.name (d:=.str c) ∅) (.str _ (by omega)))) (by rw[h3];rfl)) fun s3 t3=>?_
 refine a0e t3 rm (b:=false) (Ts.bool (Ts.cmp (.name (d:=.str c) ∅) (.sh hH (d:=.str " \t\r\n") ∅ (by decide) ∅) a1r) h4) fun s4 t4=>?_
 refine a0e t4 rm (b:=false) (Ts.bool (Ts.cmp (.name (d:=.str c) ∅) (.sh hH (d:=.str "") ∅ (by decide) ∅) a1r) h5) fun s5 t5=>?_
 refine a0e t5 rm (b:=false) (Ts.and2 (a:=true) (b:=false) (.val (.sh hH (d:=.bool true) ∅ (by decide) ∅) (.bool true)) (fun _=>Ts.bool (Ts.cmp (.name (d:=.str c) ∅) (.sh hH (d:=.str "\\") ∅ (by decide) ∅) a1r) h6)) fun s6 t6=>?_
 refine a0e t6 rm (b:=false) (Ts.bool (Ts.cmp (.name (d:=.str c) ∅) (.sh hH (d:=.str wcS) ∅ (by decide) ∅) a1r) h7) fun s7 t7=>?_
 refine a0e t7 rm (b:=false) (Ts.bool (Ts.cmp (.name (d:=.str c) ∅) (.punct (hH.at _) ∅ (.tail _ (.head _)) (.head _) (pc:="") ∅) a1r) h5) fun s8 t8=>?_
 refine a0e t8 rm (b:=true) (Ts.bool (Ts.cmp (.name (d:=.str c) ∅) (.sh hH (d:=.str "'\"") ∅ (by decide) ∅) a1r) h8) fun s9 t9=>?_
 refine a0e t9 rm (b:=false) (.not (.val (.sh hH (d:=.bool true) ∅ (by decide) ∅) (.bool true))) fun s10 t10=>?_
 refine a5f t10 rm (.head _) hH.cls (hH.attr _ (by decide)) (.name (d:=.val (.ref xL)) ∅) (.name (d:=.str c) ∅) ?_ (by show 19≤900;decide) ∅
 intro s11 t11
 have tF:Stt G H (a1t L cd) (a3g L) W i0 (ρ1 xL q) ((dL,.ns (shl xS q1 q2 (.str c) tok))::(xL,a0r 859 dL)::ol) j0 s11:=t11.pick (.cons ∅ (.cons ∅ (.cons ∅ .nil)))
 repeat refine wpAny_execs_nil ?_
 exact K _ tF
theorem d0q (hH:GH G) {st:Str} (hst:st="a") (rm:Rm A (n+2)) (t0:Stt G H (a1t L cd) (a3g L) W i0 (ρ0 xL c q) ((dL,.ns (shl xS q1 q2 (.str st) tok))::(xL,a0r 859 dL)::ol) j0 s) (hc:c="")
  (K:∀s',Stt G H (a1t L cd) (a3g L) W i0 (ρ1 xL q) ((dL,.ns (shl xS q1 q2 .none tok))::(xL,a0r 859 dL)::ol) j0 s'→Q .brk s'):wpAny (model prog w) A (execs (wbT.drop 3) (a1t L cd)) Q E s:=by
 subst hst hc
 refine a0e t0 rm (b:=false) (Ts.cmp (.sh hH (d:=.str "a") ∅ (by decide) ∅) .noneC (a0w fun v e=>by cases e)) fun s1 t1=>?_
 refine a0e t1 rm (b:=false) (Ts.bool (Ts.cmp (.sh hH (d:=.str "a") ∅ (by decide) ∅) .str a2s) (by decide +kernel)) fun s2 t2=>?_
 refine a0e t2 rm (b:=false) (Ts.bool (Ts.cmp (.sh hH (d:=.str "a") ∅ (by decide) ∅) (.sh hH (d:=.str "'\"") ∅ (by decide) ∅) a1r) (by decide +kernel)) fun s3 t3=>?_
 refine a0e t3 rm (b:=false) (Ts.bool (Ts.cmp (.sh hH (d:=.str "a") ∅ (by decide) ∅) (.sh hH (d:=.str "\\") ∅ (by decide) ∅) a1r) (by decide +kernel)) fun s4 t4=>?_
 refine a0e t4 rm (b:=true) (Ts.bool (Ts.cmp (.sh hH (d:=.str "a") ∅ (by decide) ∅) (.tuple (.cons .str (by rfl) (.one .str))) (b8d (ys:=["a","c"]))) (by decide +kernel)) fun s5 t5=>?_
 refine a0e t5 rm (b:=true) (Ts.bool (.not (.val (.name (d:=.str "") ∅) (.str _ (by decide +kernel)))) (by decide +kernel)) fun s6 t6=>?_
 refine a5f t6 rm (.head _) hH.cls (hH.attr _ (by decide)) (.name (d:=.val (.ref xL)) ∅) .noneC ?_ (by show 19≤900;decide) ∅
 intro s7 t7
 have tF:Stt G H (a1t L cd) (a3g L) W i0 (ρ1 xL q) ((dL,.ns (shl xS q1 q2 .none tok))::(xL,a0r 859 dL)::ol) j0 s7:=t7.pick (.cons ∅ (.cons ∅ (.cons ∅ .nil)))
 walk_at "x"
 refine wpAny_Break ?_
 exact K _ tF
theorem d0o (hH:GH G) {st:Str} (hst:st="a") (rm:Rm A (n+2)) (t0:Stt G H (a1t L cd) (a3g L) W i0 (ρ0 xL c q) ((dL,.ns (shl xS q1 q2 (.str st) tok))::(xL,a0r 859 dL)::ol) j0 s) (h3:c.length=1) (h4:Txt.contains " \t\r\n" c=true) (h5:tok.length≤1000) (h6:tok.length≠0∨q=true)
  (K:∀s',Stt G H (a1t L cd) (a3g L) W i0 (ρ1 xL q) ((dL,.ns (shl xS q1 q2 (.str " ") tok))::(xL,a0r 859 dL)::ol) j0 s'→Q .brk s'):wpAny (model prog w) A (execs (wbT.drop 3) (a1t L cd)) Q E s:=by
 subst hst
 refine a0e t0 rm (b:=false) (Ts.cmp (.sh hH (d:=.str "a") ∅ (by decide) ∅) .noneC (a0w fun v e=>by cases e)) fun s1 t1=>?_
 refine a0e t1 rm (b:=false) (Ts.bool (Ts.cmp (.sh hH (d:=.str "a") ∅ (by decide) ∅) .str a2s) (by decide +kernel)) fun s2 t2=>?_
 refine a0e t2 rm (b:=false) (Ts.bool (Ts.cmp (.sh hH (d:=.str "a") ∅ (by decide) ∅) (.sh hH (d:=.str "'\"") ∅ (by decide) ∅) a1r) (by decide +kernel)) fun s3 t3=>?_
 refine a0e t3 rm (b:=false) (Ts.bool (Ts.cmp (.sh hH (d:=.str "a") ∅ (by decide) ∅) (.sh hH (d:=.str "\\") ∅ (by decide) ∅) a1r) (by decide +kernel)) fun s4 t4=>?_
 refine a0e t4 rm (b:=true) (Ts.bool (Ts.cmp (.sh hH (d:=.str "a") ∅ (by decide) ∅) (.tuple (.cons .str (by rfl) (.one .str))) (b8d (ys:=["a","c"]))) (by decide +kernel)) fun s5 t5=>?_
 refine a0e t5 rm (b:=false) (Ts.bool (.not (.val (.name (d:=.str c) ∅) (.str _ (by omega)))) (by rw[h3];rfl)) fun s6 t6=>?_
 refine a0e t6 rm (b:=true) (Ts.bool (Ts.cmp (.name (d:=.str c) ∅) (.sh hH (d:=.str " \t\r\n") ∅ (by decide) ∅) a1r) h4) fun s7 t7=>?_
 refine a0e t7 rm (b:=false) (Ts.bool (Ts.cmp (.sh hH (d:=.int 0) ∅ (by decide) ∅) .int b5m) (by decide)) fun s8 t8=>?_
 refine a5f t8 rm (.head _) hH.cls (hH.attr _ (by decide)) (.name (d:=.val (.ref xL)) ∅) .str ?_ (by show 19≤900;decide) ∅
 intro s9 t9
 have tA:Stt G H (a1t L cd) (a3g L) W i0 (ρ0 xL c q) ((dL,.ns (shl xS q1 q2 (.str " ") tok))::(xL,a0r 859 dL)::ol) j0 s9:=t9
 refine a0e tA rm (b:=true) (Ts.bool (Ts.or2 (b:=q) (.val (.sh hH (d:=.str tok) ∅ (by decide) ∅) (.str _ (by omega))) (fun _=>Ts.bool (Ts.and2 (a:=true) (b:=q) (.val (.sh hH (d:=.bool true) ∅ (by decide) ∅) (.bool true)) (fun _=>.val (.name (d:=.bool q) ∅) (.bool q))) (by simp))) (by rcases h6 with h | h <;> simp[h])) fun s10 t10=>?_
 have tF:Stt G H (a1t L cd) (a3g L) W i0 (ρ1 xL q) ((dL,.ns (shl xS q1 q2 (.str " ") tok))::(xL,a0r 859 dL)::ol) j0 s10:=t10.pick (.cons ∅ (.cons ∅ (.cons ∅ .nil)))
 walk_at "x"
 refine wpAny_Break ?_
 exact K _ tF
theorem d0p (hH:GH G) {st:Str} (hst:st="a") (rm:Rm A (n+2)) (t0:Stt G H (a1t L cd) (a3g L) W i0 (ρ0 xL c q) ((dL,.ns (shl xS q1 q2 (.str st) tok))::(xL,a0r 859 dL)::ol) j0 s) (h3:c.length=1) (h4:Txt.contains " \t\r\n" c=false) (h5:Txt.contains "" c=false) (h8:Txt.contains "'\"" c=true)
  (K:∀s',Stt G H (a1t L cd) (a3g L) W i0 (ρ1 xL q) ((dL,.ns (shl xS q1 q2 (.str c) tok))::(xL,a0r 859 dL)::ol) j0 s'→Q .next s'):wpAny (model prog w) A (execs (wbT.drop 3) (a1t L cd)) Q E s:=by
 subst hst
 refine a0e t0 rm (b:=false) (Ts.cmp (.sh hH (d:=.str "a") ∅ (by decide) ∅) .noneC (a0w fun v e=>by cases e)) fun s1 t1=>?_
 refine a0e t1 rm (b:=false) (Ts.bool (Ts.cmp (.sh hH (d:=.str "a") ∅ (by decide) ∅) .str a2s) (by decide +kernel)) fun s2 t2=>?_
 refine a0e t2 rm (b:=false) (Ts.bool (Ts.cmp (.sh hH (d:=.str "a") ∅ (by decide) ∅) (.sh hH (d:=.str "'\"") ∅ (by decide) ∅) a1r) (by decide +kernel)) fun s3 t3=>?_
 refine a0e t3 rm (b:=false) (Ts.bool (Ts.cmp (.sh hH (d:=.str "a") ∅ (by decide) ∅) (.sh hH (d:=.str "\\") ∅ (by decide) ∅) a1r) (by decide +kernel)) fun s4 t4=>?_
 refine a0e t4 rm (b:=true) (Ts.bool (Ts.cmp (.sh hH (d:=.str "a") ∅ (by decide) ∅) (.tuple (.cons .str (by rfl) (.one .str))) (b8d (ys:=["a","c"]))) (by decide +kernel)) fun s5 t5=>?_
 refine a0e t5 rm (b:=false) (Ts.bool (.not (.val (.name (d:=.str c) ∅) (.str _ (by omega)))) (by rw[h3];rfl)) fun s6 t6=>?_
 refine a0e t6 rm (b:=false) (Ts.bool (Ts.cmp (.name (d:=.str c) ∅) (.sh hH (d:=.str " \t\r\n") ∅ (by decide) ∅) a1r) h4) fun s7 t7=>?_
 refine a0e t7 rm (b:=false) (Ts.bool (Ts.cmp (.name (d:=.str c) ∅) (.sh hH (d:=.str "") ∅ (by decide) ∅) a1r) h5) fun s8 t8=>?_
 refine a0e t8 rm (b:=false) (Ts.bool (Ts.cmp (.sh hH (d:=.str "a") ∅ (by decide) ∅) .str a2s) (by decide +kernel)) fun s9 t9=>?_
 refine a0e t9 rm (b:=true) (Ts.and2 (a:=true) (b:=true) (.val (.sh hH (d:=.bool true) ∅ (by decide) ∅) (.bool true)) (fun _=>Ts.bool (Ts.cmp (.name (d:=.str c) ∅) (.sh hH (d:=.str "'\"") ∅ (by decide) ∅) a1r) h8)) fun s10 t10=>?_
 refine a5f t10 rm (.head _) hH.cls (hH.attr _ (by decide)) (.name (d:=.val (.ref xL)) ∅) (.name (d:=.str c) ∅) ?_ (by show 19≤900;decide) ∅
 intro s11 t11
 have tF:Stt G H (a1t L cd) (a3g L) W i0 (ρ1 xL q) ((dL,.ns (shl xS q1 q2 (.str c) tok))::(xL,a0r 859 dL)::ol) j0 s11:=t11.pick (.cons ∅ (.cons ∅ (.cons ∅ .nil)))
 repeat refine wpAny_execs_nil ?_
 exact K _ tF
end
end
section
section
variable {n:Nat}
variable {cd:Value} {s:Shared} {Q:Flow→Shared→Prop} {c:Str} {q:Bool}
theorem Stt.set3 {a b:Addr×Ob} {d:Addr} {ob ob':Ob} (t:Stt G H env own W i0 ρ (a::b::(d,ob)::ol) j0 s) (k:Kw G.gen [d] s s') (he:s'.heap.get? d=some o) (ho:ObR (vis s'.heap (W++i0)) o ob'):Stt G H env own W i0 ρ (a::b::(d,ob')::ol) j0 s':=by
 clear s' ob' a ρ own env
 obtain⟨a1,a2,_⟩:=t.ls (d,ob) (.tail _ (.tail _ (.head _)))
 have hn:=t.lsn
 simp only[map_cons,nodup_cons,mem_cons,not_or]at hn
 refine t.set k (fun b hb=>by rw[zS hb];exact a1) (fun b hb=>by rw[zS hb];exact a2) (fun b hb=>by rw[zS hb];exact⟨o,he⟩) (fun p hp=>?_) (by simp only[map_cons,nodup_cons,mem_cons,not_or];exact hn)
 clear k t ob d b
 rcases a0o hp with rfl | hp
 ·exact .inl ⟨.head _,fun hm=>hn.1.2.1 (zS hm)⟩
 rcases a0o hp with rfl | hp
 ·exact .inl ⟨.tail _ (.head _),fun hm=>hn.2.1.1 (zS hm)⟩
 rcases a0o hp with rfl | hp
 ·exact .inr ⟨a1,a2,o,he,ho⟩
 ·exact .inl ⟨.tail _ (.tail _ (.tail _ hp)),fun hm=>hn.2.2.1 (zN ⟨p,hp,zS hm⟩)⟩
noncomputable def c7u (b:Str) (p:Nat):Str:=if p < b.length then Txt.slice b (some (p:Int)) (some ((p:Int)+1))else ""
noncomputable def b0w (b:Str) (p:Nat):Nat:=if p < b.length then p+1 else p
theorem c8p (hH:GH G) {b:Str} {p:Nat} {st:D} (hb:b.length≤1000) (hc:((c7u b p).cps.toList == ("\n":Str).cps.toList)=false) (rm:Rm A (n+3))
  (t:Stt G H (a1t L cd) (a3g L) W i0 (ρ1 xL q) ((dL,.ns (shl xS q1 q2 st tok))::(xL,a0r 859 dL)::(dS,.ns (a3p b p))::(xS,a0r 724 dS)::ol) j0 s)
  (K:∀s',Stt G H (a1t L cd) (a3g L) W i0 (ρ0 xL (c7u b p) q) ((dL,.ns (shl xS q1 q2 st tok))::(xL,a0r 859 dL)::(dS,.ns (a3p b (b0w b p)))::(xS,a0r 724 dS)::ol) j0 s'→wpAny (model prog w) A (execs (wbT.drop 3) (a1t L cd)) Q E s'):wpAny (model prog w) A (execs wbT (a1t L cd)) Q E s:=by
 refine a0e t rm (b:=false) (Ts.and2 (a:=false) (b:=true) (Ts.bool (.val (.punct (n:=n+1) (hH.at _) ∅ (.tail _ (.head _)) (.head _) (pc:="") ∅) (.str _ (by decide +kernel))) (by decide +kernel)) (fun h=>nomatch h)) fun g0 w0=>?_
 walk_at "x"
 obtain⟨of,fdf,hof,hdf⟩:=hH.io.read.obj
 refine wpAny_Assign_Name (a5i (G:=G.at _) (n:=n+3) rm w0.cd (.sh hH (d:=.val (.ref xS)) ∅ (by decide) ∅) (.tail _ (.tail _ (.tail _ (.head _)))) (.tail _ (.tail _ (.head _))) hH.io.cls hH.io.mRead ∅ hof hdf (.one (.int (i:=1))) (by simp) fun vs u0 y1 dvs=>?_) ∅
 cases dvs with
 | cons d0 d1=>
 cases d1
 cases d0
 have z0:=w0.keeps y1
 have hn:=z0.lsn
 refine c0o (n:=n+1) (dx:=dS) (b:=b) (p:=p) hH.io rm (z0.wd.pick (fun p hp=>?_) ?_) hb fun v y2 kw ho dv=>?_
 ·rcases a0o hp with rfl | hp
  ·exact .tail _ (.tail _ (.head _))
  ·rw[zS hp];exact .tail _ (.tail _ (.tail _ (.head _)))
 ·simp only[map_cons,map_nil,nodup_cons,mem_cons,not_or,not_mem_nil,or_false,not_false_eq_true,nodup_nil,and_true]at hn ⊢
  exact hn.2.2.1.1
 obtain⟨o,eo,hor⟩:=ho
 have j1:=z0.set3 kw eo (hor (W++i0))
 refine j1.put (.inl ∅) (dv _) fun l3 z1 _=>?_
 have u1:Stt G H (a1t L cd) (a3g L) W i0 (ρ0 xL (c7u b p) q) ((dL,.ns (shl xS q1 q2 st tok))::(xL,a0r 859 dL)::(dS,.ns (a3p b (b0w b p)))::(xS,a0r 724 dS)::ol) j0 l3:=z1
 refine a0e u1 rm (b:=false) (Ts.bool (Ts.cmp (.name (d:=.str (c7u b p)) ∅) .str a2s) hc) fun i5 z2=>?_
 refine a0e z2 rm (b:=false) (Ts.bool (Ts.cmp (.sh hH (d:=.int 0) ∅ (by decide) ∅) .int b5m) (by decide)) fun i4 j3=>?_
 exact K i4 j3
theorem c5k (hH:GH G) (rm:Rm A (n+2)) (t0:Stt G H (a1t L cd) (a3g L) W i0 (ρ0 xL c q) ((dL,.ns (shl xS q1 q2 .none tok))::(xL,a0r 859 dL)::ol) j0 s)
  (K:∀s',Stt G H (a1t L cd) (a3g L) W i0 (ρ1 xL q) ((dL,.ns (shl xS q1 q2 .none ""))::(xL,a0r 859 dL)::ol) j0 s'→Q .brk s'):wpAny (model prog w) A (execs (wbT.drop 3) (a1t L cd)) Q E s:=by
 refine a0e t0 rm (b:=true) (Ts.cmp (.sh hH (d:=.none) ∅ (by decide) ∅) .noneC (a0w fun v e=>by cases e)) fun s1 t1=>?_
 refine a5f t1 rm (.head _) hH.cls (hH.attr _ (by decide)) (.name (d:=.val (.ref xL)) ∅) .str ?_ (by show 19≤900;decide) ∅
 intro s2 t2
 have tF:Stt G H (a1t L cd) (a3g L) W i0 (ρ1 xL q) ((dL,.ns (shl xS q1 q2 .none ""))::(xL,a0r 859 dL)::ol) j0 s2:=t2.pick (.cons ∅ (.cons ∅ (.cons ∅ .nil)))
 walk_at "x"
 refine wpAny_Break ?_
 exact K _ tF
end
noncomputable abbrev c4t:=Option Str×Str×Bool×Nat
noncomputable def c9p (lt:Nat→Option Str→Str→Bool→Option c4t) (b:Str) (p:Nat) (st tok:Str) (q:Bool) (c:Str) (p':Nat):Option c4t:=
 if ¬p < b.length∧st=" " then some (none,tok,q,p')else if ¬p < b.length∧st="a" then some (none,tok,q,p')else
 if ¬(p < b.length∧c.length=1)then none else
 if st=" "∧Txt.contains " \t\r\n" c=false∧Txt.contains "" c=false∧Txt.contains "\\" c=false∧Txt.contains wcS c=true then lt p' (some "a") c q else
 if st=" "∧Txt.contains " \t\r\n" c=false∧Txt.contains "" c=false∧Txt.contains "\\" c=false∧Txt.contains wcS c=false∧Txt.contains "'\"" c=true then lt p' (some c) tok q else
 if st="a"∧Txt.contains " \t\r\n" c=true∧(tok.length≠0∨q=true)then some (some (" ":Str),tok,q,p')else
 if st="a"∧Txt.contains " \t\r\n" c=false∧Txt.contains "" c=false∧Txt.contains "'\"" c=true then lt p' (some c) tok q else
 if(st.cps.toList == (" ":Str).cps.toList)=false∧Txt.contains "'\"" st=true∧st=c then lt p' (some "a") tok true else
 if(st.cps.toList == (" ":Str).cps.toList)=false∧Txt.contains "'\"" st=true∧(c.cps.toList == st.cps.toList)=false∧Txt.contains "\\" c=false then lt p' (some st) (tok++c) true else none
noncomputable def a2t (b:Str):Nat→Nat→Option Str→Str→Bool→Option c4t
 | 0,_,_,_,_=>none
 | k+1,p,st,tok,q=>if((c7u b p).cps.toList == ("\n":Str).cps.toList)=true then none else match st with
  | none=>some (none,"",q,b0w b p)
  | some st=>c9p (fun p st tok q=>a2t b k p st tok q) b p st tok q (c7u b p) (b0w b p)
theorem c4e {P:Prop} [Decidable P] {α:Type} {x y:Option α} {r:α} {C:Prop} (h:(if P then x else y)=some r) (k1:P→x=some r→C) (k2:y=some r→C):C:=by
 by_cases e:P
 ·rw[if_pos e]at h;exact k1 e h
 ·rw[if_neg e]at h;exact k2 h
theorem d1s {P:Prop} [Decidable P] {α:Type} {y:Option α} {r:α} {C:Prop} (h:(if P then none else y)=some r) (k:¬P→y=some r→C):C:=by
 by_cases e:P
 ·exact nsn (if_pos e) h
 ·rw[if_neg e]at h;exact k e h
theorem b4p {b:Str} {p:Nat} (h:¬p < b.length):c7u b p="":=if_neg h
theorem c1r {b:Str} {p:Nat} (h:p < b.length):b0w b p=p+1:=if_pos h
theorem b8r {C:Prop} {lt:Nat→Option Str→Str→Bool→Option c4t} {b:Str} {p:Nat} {st c:Str} {q:Bool} {r:c4t} (h:c9p lt b p st tok q c p'=some r)
  (kE:¬p < b.length→((none,tok,q,p'):c4t)=r→st=" "→C) (kF:¬p < b.length→((none,tok,q,p'):c4t)=r→st="a"→C)
  (kW:p < b.length→c.length=1→st=" "∧Txt.contains " \t\r\n" c=false∧Txt.contains "" c=false∧Txt.contains "\\" c=false∧Txt.contains wcS c=true→lt p' (some "a") c q=some r→C)
  (kQ:p < b.length→c.length=1→st=" "∧Txt.contains " \t\r\n" c=false∧Txt.contains "" c=false∧Txt.contains "\\" c=false∧Txt.contains wcS c=false∧Txt.contains "'\"" c=true→lt p' (some c) tok q=some r→C)
  (kS:p < b.length→c.length=1→st="a"∧Txt.contains " \t\r\n" c=true∧(tok.length≠0∨q=true)→(some (" ":Str),tok,q,p')=r→C)
  (kA:p < b.length→c.length=1→st="a"∧Txt.contains " \t\r\n" c=false∧Txt.contains "" c=false∧Txt.contains "'\"" c=true→lt p' (some c) tok q=some r→C)
  (kC:p < b.length→c.length=1→(st.cps.toList == (" ":Str).cps.toList)=false∧Txt.contains "'\"" st=true∧st=c→lt p' (some "a") tok true=some r→C)
  (kB:p < b.length→c.length=1→(st.cps.toList == (" ":Str).cps.toList)=false∧Txt.contains "'\"" st=true∧(c.cps.toList == st.cps.toList)=false∧Txt.contains "\\" c=false→lt p' (some st) (tok++c) true=some r→C):C:=
 c4e h (fun a e=>kE a.1 (Option.some.inj e) a.2) fun h=>c4e h (fun a e=>kF a.1 (Option.some.inj e) a.2) fun h=>d1s h fun a h=>
  have a:=Decidable.not_not.mp a
  c4e h (kW a.1 a.2) fun h=>c4e h (kQ a.1 a.2) fun h=>c4e h (fun x e=>kS a.1 a.2 x (Option.some.inj e)) fun h=>c4e h (kA a.1 a.2) fun h=>c4e h (kC a.1 a.2) fun h=>c4e h (kB a.1 a.2) fun h=>nomatch h
end
section
noncomputable def stD:Option Str→D
 | none=>.none
 | some x=>.str x
noncomputable def a2l:D→Bool
 | .list _=>false
 | .tuple _=>false
 | _=>true
theorem DR.flat {d:D} (h:DR P v d) (hf:a2l d=true):DR P' v d:=by
 cases h with
 | none=>exact .none
 | bool b=>exact .bool b
 | int i t=>exact .int i t
 | str x t=>exact .str x t
 | tuple _ _=>cases hf
 | list _ _=>cases hf
 | val v=>exact .val v
 | thing a=>exact .thing a
theorem ObR.flat {l:List (Str×D)} (h:ObR P o (.ns l)) (hf:l.all (fun x=>a2l x.2)=true):ObR P' o (.ns l):=by
 obtain⟨es,ep,rfl,r⟩:=h
 refine⟨es,ep,rfl,?_⟩
 clear ep
 induction r with
 | nil=>exact .nil
 | cons h _ ih=>
  rw[all_cons,Bool.and_eq_true]at hf
  exact .cons (h.flat hf.1) (ih hf.2)
theorem a9z (xS q1 q2:Addr) (st:Option Str) (tok:Str):(shl xS q1 q2 (stD st) tok).all (fun x=>a2l x.2)=true:=by cases st <;> rfl
section
variable {n:Nat}
inductive d2b (G:a1k) (H:Heap) (M:List Addr) (s:Shared) (L:Addr) (cd:Value) (dL xL dS xS q1 q2:Addr) (b:Str) (st':Option Str) (tok':Str) (q':Bool) (p':Nat) (f:Nat) (s':Shared):Prop
 | mk (p:Nat) (st:Option Str) (tok:Str) (q:Bool):a2t b f p st tok q=some (st',tok',q',p')→tok.length≤p→p≤b.length→Stt G H (a1t L cd) (a3g L) (fms (a1t L cd) (a3g L)++[dL,xL,dS,xS]) M (ρ1 xL q) [(dL,.ns (shl xS q1 q2 (stD st) tok)),(xL,a0r 859 dL),(dS,.ns (a3p b p)),(xS,a0r 724 dS)] s s'→d2b G H M s L cd dL xL dS xS q1 q2 b st' tok' q' p' f s'
theorem d0n (hH:GH G) {b:Str} {k p:Nat} {s:Shared} (hb:b.length≤1000) (hlex:a2t b k p stO "" false=some (st',tok',q',p')) (hpb:p≤b.length) (rm:Rm A (n+4))
  (wd:Wd G H M [(dL,.ns (shl xS q1 q2 (stD stO) "")),(xL,a0r 859 dL),(dS,.ns (a3p b p)),(xS,a0r 724 dS)] s)
  (K:∀v s',Kw G.gen [dL,dS] s s'→(∃o,s'.heap.get? dL=some o∧∀P,ObR P o (.ns (shl xS q1 q2 (stD st') "")))→(∃o,s'.heap.get? dS=some o∧∀P,ObR P o (.ns (a3p b p')))→(∀P,DR P v (if q'=false∧tok'.length=0 then .none else .str tok'))→Q v s'):wpAny (model prog w) A (call (.ref 827) [.ref xL]) Q E s:=by
 refine a0u (n:=n+3) (args:=⟨[_],[]⟩) (ρ:=[("self",_)]) (binds:=[("self",_)]) hH.rt rm wd.top wd.mem (fun name doc pm an cdv ct=>BindsTo.of_eq rfl) rfl (.cons (.val (.ref xL)) .nil) (fun x hx=>by rw[zS hx];exact .inl ∅) (a0d ∅) (by decide +kernel) (by simp) ?_ ∅ ∅ ∅
 intro L cd g0 hL t hW
 walk_at "q"
 have w0:Stt G H (a1t L cd) (a3g L) (fms (a1t L cd) (a3g L)++[dL,xL,dS,xS]) M ([("self",.val (.ref xL))]:List (Str×D)) [(dL,.ns (shl xS q1 q2 (stD stO) "")),(xL,a0r 859 dL),(dS,.ns (a3p b p)),(xS,a0r 724 dS)] s g0:=t.openX wd hW
 have rm':Rm (A.deeper (a1t L cd)) (n+3):=rm.deeper (a1t L cd)
 have rm2:Rm (A.deeper (a1t L cd)) (n+2):=rm'.le (by omega)
 refine a2m w0 rm' (d:=.bool false) .boolC (.inl ∅) ∅ ?_
 intro u0 z0
 refine a2m z0 rm' (d:=.str " ") .str (.inl ∅) ∅ ?_
 intro y2 j1
 walk_at "x"
 have after:∀s' (r:c4t),r=(st',tok',q',p')→Stt G H (a1t L cd) (a3g L) (fms (a1t L cd) (a3g L)++[dL,xL,dS,xS]) M (ρ1 xL r.2.2.1) [(dL,.ns (shl xS q1 q2 (stD r.1) r.2.1)),(xL,a0r 859 dL),(dS,.ns (a3p b r.2.2.2)),(xS,a0r 724 dS)] s s'→r.2.1.length≤1001→
   wpAny (model prog w) (A.deeper (a1t L cd)) (execs ((a2b (a0q 30 6)).drop 3) (a1t L cd)) (fun fl s'=>Q (match fl with | .ret v=>v | _=>.none) s') (fun e s'=>wpAny (model prog w) (A.deeper (a1t L cd)) (leaving (a1t L cd) e) (fun _ s''=>E e s'') (fun e' s''=>E e' s'') s') s':=by
  clear y2 z0 u0 w0 hL g0 rm
  rintro s' _ rfl t htl
  refine a2m t rm' (d:=.str tok') (.sh hH ∅ (by decide) ∅) (.inl ∅) ∅ ?_
  intro l3 z1
  refine a5f z1 rm' (.head _) hH.cls (hH.attr _ (by decide)) (.name (d:=.val (.ref xL)) ∅) .str ?_ (by show 19≤900;decide) ∅
  intro y3 u1
  have i8:Stt G H (a1t L cd) (a3g L) (fms (a1t L cd) (a3g L)++[dL,xL,dS,xS]) M (("result",.str tok')::ρ1 xL q') [(dL,.ns (shl xS q1 q2 (stD st') "")),(xL,a0r 859 dL),(dS,.ns (a3p b p')),(xS,a0r 724 dS)] s y3:=u1
  walk_at "x"
  refine a9f i8 rm' (b:=decide (q'=false∧tok'.length=0)) (Ts.bool (Ts.and3 (a:=true) (b:=!q') (c:=decide (tok'.length=0)) (.val (.sh hH (d:=.bool true) ∅ (by decide) ∅) (.bool true)) (fun _=>.not (.val (.name (d:=.bool q') ∅) (.bool q'))) (fun _ _=>Ts.bool (Ts.cmp (.name (d:=.str tok') ∅) .str a2s) ?_)) ?_) fun i5 z2=>?_
  ·clear i8 i8
   obtain⟨a⟩:=tok'
   obtain⟨l⟩:=a
   cases l <;> rfl
  ·clear i8 i8
   cases q' <;> simp
  have fin:∀(dv:D) (ρ:List (Str×D)) s',dv=(if q'=false∧tok'.length=0 then D.none else .str tok')→ρ.lookup ("result":Str)=some dv→ρ.lookup ("self":Str)=some (.val (.ref xL))→Stt G H (a1t L cd) (a3g L) (fms (a1t L cd) (a3g L)++[dL,xL,dS,xS]) M ρ [(dL,.ns (shl xS q1 q2 (stD st') "")),(xL,a0r 859 dL),(dS,.ns (a3p b p')),(xS,a0r 724 dS)] s s'→
    wpAny (model prog w) (A.deeper (a1t L cd)) (execs ((a2b (a0q 30 6)).drop 6) (a1t L cd)) (fun fl s'=>Q (match fl with | .ret v=>v | _=>.none) s') (fun e s'=>wpAny (model prog w) (A.deeper (a1t L cd)) (leaving (a1t L cd) e) (fun _ s''=>E e s'') (fun e' s''=>E e' s'') s') s':=by
   intro dv ρ s' hdv h1 h2 t
   refine a0e t rm' (b:=false) (Ts.bool (Ts.cmp (.sh hH (d:=.int 0) h2 (by decide) ∅) .int c5w) (by decide)) fun i4 j3=>?_
   walk_at "x"
   refine wpAny_Return_some ?_
   clear t s' i8
   obtain⟨v,hv,dvv⟩:=j3.cd.vars "result" dv h1
   refine a1f j3.kind hv ?_
   walk_at "c"
   clear dv dv
   rcases j3.ls _ (.head _)with⟨_,_,oL,eL,hoL⟩
   rcases j3.ls _ (.tail _ (.tail _ (.head _)))with⟨_,_,oS,eS,hoS⟩
   rcases j3.ls _ (.tail _ (.head _))with⟨_,_,ox,ex,hox⟩
   rcases j3.ls _ (.tail _ (.tail _ (.tail _ (.head _))))with⟨_,_,oy,ey,hoy⟩
   walk_at "u"
   have hox':ox=instObj 859 dL:=hox
   have hoy':oy=instObj 724 dS:=hoy
   subst hox' hoy'
   refine K v i4 ⟨fun c o hc e=>?_,j3.kp.2⟩ ⟨oL,eL,fun P=>ObR.flat hoL (a9z ..)⟩ ⟨oS,eS,fun P=>ObR.flat hoS rfl⟩ fun P=>?_
   ·clear K K
    by_cases h1:c=xL
    ·obtain⟨_,_,o',e',h'⟩:=wd.ls _ (.tail _ (.head _))
     have h'':o'=instObj 859 dL:=h'
     subst h''
     rw[h1]at e ⊢;rw[e']at e;cases e;exact ex
    by_cases h2:c=xS
    ·obtain⟨_,_,o',e',h'⟩:=wd.ls _ (.tail _ (.tail _ (.tail _ (.head _))))
     have h'':o'=instObj 724 dS:=h'
     clear wd wd
     subst h''
     rw[h2]at e ⊢;rw[e']at e;cases e;exact ey
    refine j3.kp.1 c o (fun hm=>?_) e
    simp only[mem_cons,not_mem_nil,or_false,not_or]at hc
    clear wd wd
    rcases zA hm with hm | hm
    ·exact nsn (hW c hm) e
    ·simp only[mem_cons,not_mem_nil,or_false]at hm
     clear hW hW
     rcases hm with h | h | h | h
     ·exact hc.1 h
     ·exact h1 h
     ·exact hc.2 h
     ·exact h2 h
   ·rw[←hdv]
    refine dvv.flat ?_
    rw[hdv];split <;> rfl
  clear i8 hW K wd
  by_cases hcs:q'=false∧tok'.length=0
  ·rw[decide_eq_true hcs,if_pos rfl]
   refine a2m z2 rm' (d:=.none) .noneC (.inl ∅) ∅ ?_
   intro i4 j3
   refine wpAny_execs_nil ?_
   exact fin .none _ i4 (by rw[if_pos hcs]) ∅ ∅ j3
  ·rw[decide_eq_false hcs,if_neg (by decide)]
   refine wpAny_execs_nil ?_
   exact fin (.str tok') _ i5 (by rw[if_neg hcs]) ∅ ∅ z2
 refine a2y (d2b G H M s L cd dL xL dS xS q1 q2 b st' tok' q' p') PassesOwn.leaving ?_ k
  ⟨p,stO,"",false,hlex,Nat.zero_le _,hpb,j1.pick (.cons ∅ (.cons ∅ (.cons ∅ .nil)))⟩
 intro f l3 hI'
 clear l3 j1 y2 z0 u0 w0 hW hL g0 K wd rm s k
 obtain⟨p,st,tok,q,hlx,htp,hpl,z1⟩:=hI'
 refine Ts.val (d:=.bool true) .boolC (.bool true) ∅ _ _ _ _ _ rm' z1.cd fun y3 k7=>?_
 have u1:=z1.keeps k7
 show wpAny _ _ _ _ _ _
 walk_at "q"
 clear k7 y3 z1 hI'
 cases f with
 | zero=>cases hlx
 | succ f=>
 refine d1s hlx fun hc hlx=>?_
 refine c8p (n:=n) hH hb (Bool.eq_false_iff.mpr hc) rm' u1 fun i5 z2=>?_
 clear i5 u1 rm'
 cases st with
 | none=>exact c5k (n:=n) hH rm2 z2 fun i4 j3=>after i4 (none,"",q,b0w b p) (Option.some.inj hlx) j3 (Nat.zero_le _)
 | some st=>
 have ht:tok.length≤1000:=Nat.le_trans (Nat.le_trans htp hpl) hb
 have on:p < b.length→b0w b p≤b.length∧tok.length+1≤b0w b p:=fun h=>by rw[c1r h];exact⟨h,Nat.succ_le_succ htp⟩
 refine b8r hlx (fun h e hst=>?_) (fun h e hst=>?_) (fun h h1 x e=>?_) (fun h h1 x e=>?_) (fun h h1 x e=>?_) (fun h h1 x e=>?_) (fun h h1 x e=>?_) (fun h h1 x e=>?_)
 ·exact c8o (n:=n) hH hst rm2 z2 (b4p h) fun i4 j3=>after i4 _ e j3 (Nat.le_succ_of_le ht)
 ·exact d0q (n:=n) hH hst rm2 z2 (b4p h) fun i4 j3=>after i4 _ e j3 (Nat.le_succ_of_le ht)
 ·exact c8m (n:=n) hH x.1 rm2 z2 h1 x.2.1 x.2.2.1 x.2.2.2.1 x.2.2.2.2 fun i4 j3=>⟨f,lt_succ_self _,_,some "a",_,q,e,h1▸Nat.le_trans (Nat.le_add_left 1 _) (on h).2,(on h).1,j3⟩
 ·exact c8n (n:=n) hH x.1 rm2 z2 h1 x.2.1 x.2.2.1 x.2.2.2.1 x.2.2.2.2.1 x.2.2.2.2.2 fun i4 j3=>⟨f,lt_succ_self _,_,some _,tok,q,e,Nat.le_of_succ_le (on h).2,(on h).1,j3⟩
 ·exact d0o (n:=n) hH x.1 rm2 z2 h1 x.2.1 ht x.2.2 fun i4 j3=>after i4 _ e j3 (Nat.le_succ_of_le ht)
 ·exact d0p (n:=n) hH x.1 rm2 z2 h1 x.2.1 x.2.2.1 x.2.2.2 fun i4 j3=>⟨f,lt_succ_self _,_,some _,tok,q,e,Nat.le_of_succ_le (on h).2,(on h).1,j3⟩
 ·exact d0m (n:=n) hH rm2 (x.2.2▸z2) (x.2.2▸x.1) (x.2.2▸x.2.1) h1 fun i4 j3=>⟨f,lt_succ_self _,_,some "a",tok,true,e,Nat.le_of_succ_le (on h).2,(on h).1,j3⟩
 ·exact d0l (n:=n) hH rm2 z2 x.1 x.2.1 h1 x.2.2.1 x.2.2.2 ht fun i4 j3=>⟨f,lt_succ_self _,_,some st,_,true,e,by rw[PySem.Str.length_append,h1];exact(on h).2,(on h).1,j3⟩
end
end
section
theorem b1s:typeLookup (.type "collections.deque") "__bool__"=pure none:=by rw[typeLookup_type,builtinLookup_eq_fast];kernel_rfl
theorem a4o:Slot "collections.deque" "__len__" "collections.deque.__len__":=
 Slot.of (owner:="collections.deque") (n:="__len__") (by rw[typeLookup_type,builtinLookup_eq_fast];kernel_rfl) (by decide +kernel) (by decide +kernel) (by decide +kernel) (.inl (by decide +kernel)) (by rw[isSubtype_type];kernel_rfl)
theorem b3c:entryFor table "collections.deque.__len__"=some Builtin.«collections.deque.__len__»:=entryFor_of_tree ∅
theorem b5z (a:Value):argsOk "collections.deque.__len__" ⟨[a],[]⟩:=by unfold argsOk;kernel_rfl
noncomputable def qDq (o:Obj):Prop:=o.cls= .type "collections.deque"∧∃vs,o.data= .fields vs∧vs.size=2
section
variable {s:Shared}
theorem b5y {l:Addr} (ho:s.heap.get? l=some o) (hq:qDq o) (h:Q (.int 0 (s.toks+1)) {s with toks:=s.toks+1+1}):wpAny (model prog w) A (Builtin.«len» ⟨[.ref l],[]⟩) (fun fin s'=>∃r,fin= .done (.ret r)∧Q r s') E s:=by
 obtain⟨hc,vs,hd,hz⟩:=hq
 have hT:s.TypeIs (.ref l) "collections.deque":=⟨o,ho,hc⟩
 unfold Builtin.«len»
 refine wpAny_bind (m:=oneArg "len" _) (wpAny_pure ?_)
 refine wpAny_bind (m:=callSpecial? (.ref l) (Str.ofString "__len__")) (wpAny_callSpecial?_slot (name:=Str.ofString "__len__") hT a4o
  (wpAny_call_entry a4o hT b3c ?_ (b5z _)))
 unfold Builtin.«collections.deque.__len__»
 refine wpAny_bind (m:=slotArgs "__len__" 0 _) (wpAny_of_eq (a:=(Value.ref l,[])) (by first | rfl | kernel_rfl) ?_)
 unfold Builtin.Deque.size
 refine wpAny_bind (wpAny_bind (wpAny_fieldsOf ho hd (wpAny_pure ?_)))
 rw[hz]
 refine wpAny_bind (wpAny_mkInt (wpAny_pure ⟨_,rfl,?_⟩))
 refine wpAny_bind (wpAny_holding (wpAny_pure ?_))
 refine wpAny_bind (wpAny_letGo ?_)
 show wpAny _ _ (if(((2 - 2:Nat):Nat):Int) < 0 then _ else _) _ _ _
 rw[if_neg (by decide)]
 show wpAny _ _ (if(((2 - 2:Nat):Nat):Int)≥2 ^ 63 then _ else _) _ _ _
 rw[if_neg (by decide)]
 exact wpAny_bind (wpAny_mkInt (wpAny_pure ⟨_,rfl,h⟩))
theorem b6u {l:Addr} {Q:Bool→Shared→Prop} (ho:s.heap.get? l=some o) (hq:qDq o) (h:Q false {s with toks:=s.toks+1+1}):wpAny (model prog w) A (truthy (.ref l)) Q E s:=by
 have hT:s.TypeIs (.ref l) "collections.deque":=⟨o,ho,hq.1⟩
 have key:wpAny (model prog w) A (runValue (.builtin "len" ⟨[.ref l],[]⟩)) (fun r s'=>r= .int 0 (s.toks+1)∧Q false s') E s:=by
  refine wpAny_runValue (codeAny_builtin entry_len ?_)
  rw[Around.under_plainId plain_len _]
  exact wpAny_mono (b5y (Q:=fun r s'=>r= .int 0 (s.toks+1)∧Q false s') ho hq ⟨rfl,h⟩)
   (fun fin s' h'=>by obtain⟨r,rfl,hq⟩:=h';exact hq) fun _ _ e=>e
 unfold truthy
 first
  | refine wpAny_bind (wpAny_callSpecial?_none (name:=Str.ofString "__bool__") hT b1s ?_)
  | refine wpAny_bind (wpAny_pure (wpAny_bind (wpAny_callSpecial?_none (name:=Str.ofString "__bool__") hT b1s ?_)))
 first
  | refine wpAny_bind (wpAny_specialOf (name:=Str.ofString "__len__") hT a4o.lookup ?_)
  | refine wpAny_bind (wpAny_pure (wpAny_bind (wpAny_specialOf (name:=Str.ofString "__len__") hT a4o.lookup ?_)))
 first
  | exact wpAny_bind (wpAny_mono key (fun r s' h'=>by obtain⟨rfl,hq⟩:=h';exact wpAny_pure hq) fun _ _ e=>e)
  | exact wpAny_bind (wpAny_pure (wpAny_bind (wpAny_mono key (fun r s' h'=>by obtain⟨rfl,hq⟩:=h';exact wpAny_pure hq) fun _ _ e=>e)))
end
section
variable {n:Nat}
theorem Ts.dq {e:Expr} {x:Addr} (h:Ev prog w G n env ρ e (.val (.ref x))) (hx:(x,Ob.raw (· =od))∈G.ob) (hq:qDq od) (he:isTrue e env (eval e env)=(do let v ←eval e env;standAt e.pos;holding [v] (truthy v)):=by rfl):Ts prog w G n env ρ e false:=
 fun A M s Q E rm c K=>wpAny_isTrue_value (h A M s _ E rm c fun v g0 l0 dv=>by
  cases dv
  obtain⟨o,eo,ho⟩:=(c.keeps l0).obs _ hx
  have ho':o=od:=ho
  exact b6u eo (ho'▸hq) (K _ (l0.trans (Kp.tok _ _)))) he
theorem a8u {x:Str}:Op2 prog w G n (compareOp .Eq) (.str x) .none (.bool false):=fun A M s a b Q E rm _ _ da db K=>by
 cases da;cases db;exact EqNone.eq_str_none (K _ _ (Kp.refl _) (.bool _))
theorem a8v:Op2 prog w G n (compareOp .Eq) .none .none (.bool true):=fun A M s a b Q E rm _ _ da db K=>by
 cases da;cases db;exact EqNone.eq_none_none (K _ _ (Kp.refl _) (.bool _))
end
end
section
noncomputable abbrev b6o (L:Addr) (cd:Value):Env:=fnv "shlex.get_token" (a0a (a0q 30 5)) L 820 cd
noncomputable abbrev c0c (L:Addr):List (Str×Addr):=cellsFrom (L+1) (a0a (a0q 30 5)).names []
noncomputable def shO (xL dL xS dS q1 q2:Addr) (od:Obj) (b:Str) (p:Nat) (st:Option Str):List (Addr×Ob):=[(dL,.ns (shl xS q1 q2 (stD st) "")),(xL,a0r 859 dL),(dS,.ns (a3p b p)),(xS,a0r 724 dS),(q1,.raw (· =od)),(q2,.raw (· =od))]
noncomputable def b6w (q:Bool) (tok:Str):D:=if q=false∧tok.length=0 then .none else .str tok
section
variable {n:Nat}
theorem Stt.turnSh {s:Shared} {b:Str} {p:Nat} {st:Option Str} (t:Stt G H env own W i0 ρ (shO xL dL xS dS q1 q2 od b p st++ol) j0 s) (k:Kw G.gen [dL,dS] s s')
  (h1:∃o,s'.heap.get? dL=some o∧∀P,ObR P o (.ns (shl xS q1 q2 (stD st') ""))) (h2:∃o,s'.heap.get? dS=some o∧∀P,ObR P o (.ns (a3p b p'))):Stt G H env own W i0 ρ (shO xL dL xS dS q1 q2 od b p' st'++ol) j0 s':=by
 walk_at "c"
 clear s' s j0 ρ i0 W own env H
 rcases t.ls _ (zB (.inl (.head _)))with⟨a1,a2,_⟩
 rcases t.ls _ (zB (.inl (.tail _ (.tail _ (.head _)))))with⟨b1,b2,_⟩
 have hn:=t.lsn
 have e:(shO xL dL xS dS q1 q2 od b p' st'++ol).map (·.1)=(shO xL dL xS dS q1 q2 od b p st++ol).map (·.1):=rfl
 have hn':=hn
 simp only[shO,cons_append,List.nil_append,map_cons,nodup_cons,mem_cons,not_or]at hn'
 clear ol st' st p' p b od q2 q1 xS xL
 rcases hn' with⟨⟨n1,n2,n3,n4,n5,n6⟩,⟨n7,n8,n9,n10,n11⟩,⟨n12,n13,n14,n15⟩,⟨n16,n17,n18⟩,⟨n19,n20⟩,n21,n22⟩
 walk_at "u"
 refine t.set k (fun x hx=>?_) (fun x hx=>?_) (fun x hx=>?_) (fun x hx=>?_) (by rw[e];exact hn)
 ·clear n22 n21 n20 n19 n18 n17 n16 n11 n10 n9 n8 n2 hn' hn k t
  rcases a0o hx with rfl | hx
  ·exact a1
  ·rw[zS hx];exact b1
 ·clear n22 n21 n20 n19 n18 n17 n16 n11 n10 n9 n8 n2 hn' hn k t
  rcases a0o hx with rfl | hx
  ·exact a2
  ·rw[zS hx];exact b2
 ·clear n22 n21 n20 n19 n18 n17 n16 n11 n10 n9 n8 n2 hn' hn k t
  rcases a0o hx with rfl | hx
  ·obtain⟨o,e,_⟩:=h1;exact⟨o,e⟩
  ·rw[zS hx];obtain⟨o,e,_⟩:=h2;exact⟨o,e⟩
 ·have no:∀y,y≠dL→y≠dS→y∉[dL,dS]:=fun y h1 h2 hm=>by
   clear y n22 n21 n20 n19 n18 n17 n16 n11 n10 n9 n8 n2 hn' hn k t dS dL
   rcases zC hm with h | h
   ·exact h1 h
   ·exact h2 (zS h)
  simp only[shO,cons_append,List.nil_append]at hx ⊢
  clear hm y n22 n21 n20 n19 n18 n17 n16 n11 n10 n9 n8 n2 hn' hn k t dS dL
  rcases a0o hx with rfl | hx
  ·obtain⟨o,e,r⟩:=h1;exact .inr ⟨a1,a2,o,e,r _⟩
  clear h1 a2 a1
  rcases a0o hx with rfl | hx
  ·exact .inl ⟨.tail _ (.head _),no _ (fun h=>n1 h.symm) n7⟩
  clear n7 n1
  rcases a0o hx with rfl | hx
  ·obtain⟨o,e,r⟩:=h2;exact .inr ⟨b1,b2,o,e,r _⟩
  clear h2 b2 b1
  rcases a0o hx with rfl | hx
  ·exact .inl ⟨.tail _ (.tail _ (.tail _ (.head _))),no _ (fun h=>n3 h.symm) (fun h=>n12 h.symm)⟩
  clear n12 n3
  rcases a0o hx with rfl | hx
  ·exact .inl ⟨.tail _ (.tail _ (.tail _ (.tail _ (.head _)))),no _ (fun h=>n4 h.symm) (fun h=>n13 h.symm)⟩
  clear n13 n4
  rcases a0o hx with rfl | hx
  ·exact .inl ⟨.tail _ (.tail _ (.tail _ (.tail _ (.tail _ (.head _))))),no _ (fun h=>n5 h.symm) (fun h=>n14 h.symm)⟩
  ·exact .inl ⟨.tail _ (.tail _ (.tail _ (.tail _ (.tail _ (.tail _ hx))))),no _ (fun h=>n6 (zN ⟨x,hx,h⟩)) (fun h=>n15 (zN ⟨x,hx,h⟩))⟩
theorem d1b (hH:GH G) {b:Str} {k p:Nat} {s:Shared} (hb:b.length≤1000) (hod:qDq od) (hlex:a2t b k p stO "" false=some (st',tok',q',p')) (hpb:p≤b.length) (rm:Rm A (n+5))
  (wd:Wd G H M (shO xL dL xS dS q1 q2 od b p stO) s)
  (K:∀v s',Kw G.gen [dL,dS] s s'→(∃o,s'.heap.get? dL=some o∧∀P,ObR P o (.ns (shl xS q1 q2 (stD st') "")))→(∃o,s'.heap.get? dS=some o∧∀P,ObR P o (.ns (a3p b p')))→(∀P,DR P v (b6w q' tok'))→Q v s'):wpAny (model prog w) A (call (.ref 820) [.ref xL]) Q E s:=by
 refine a0u (n:=n+4) (args:=⟨[_],[]⟩) (ρ:=[("self",_)]) (binds:=[("self",_)]) hH.gt rm wd.top wd.mem (fun name doc pm an cdv ct=>BindsTo.of_eq rfl) rfl (.cons (.val (.ref xL)) .nil) (fun x hx=>by rw[zS hx];exact .inl ∅) (a0d ∅) (by decide +kernel) (by simp) ?_ ∅ ∅ ∅
 intro L cd g0 hL t hW
 walk_at "q"
 have w0:Stt G H (b6o L cd) (c0c L) (fms (b6o L cd) (c0c L)++[dL,xL,dS,xS,q1,q2]) M ([("self",.val (.ref xL))]:List (Str×D)) (shO xL dL xS dS q1 q2 od b p stO) s g0:=t.openX wd hW
 have rm':Rm (A.deeper (b6o L cd)) (n+4):=rm.deeper (b6o L cd)
 refine a0e w0 rm' (b:=false) (.dq (x:=q1) (.sh (ol:=[(dS,.ns (a3p b p)),(xS,a0r 724 dS),(q1,.raw (· =od)),(q2,.raw (· =od))]) hH ∅ (by decide) (by cases stO <;> kernel_rfl)) (.tail _ (.tail _ (.tail _ (.tail _ (.head _))))) hod) fun u0 z0=>?_
 walk_at "x"
 clear u0 w0 hL g0 rm E A
 obtain⟨of,fdf,hof,hdf⟩:=hH.rt.obj
 refine wpAny_Assign_Name (a2d (G:=G.at _) (n:=n+4) rm' z0.cd (.name (d:=.val (.ref xL)) ∅) (.tail _ (.head _)) (.head _) hH.cls hH.mRt (by cases stO <;> kernel_rfl) hof hdf fun y2 a4=>?_) ∅
 have j1:=z0.keeps a4
 have hnd:=j1.lsn
 refine d0n (n:=n) (dL:=dL) (xS:=xS) (dS:=dS) (q1:=q1) (q2:=q2) hH hb hlex hpb rm' (j1.wd.pick (fun x hx=>?_) ?_) fun v l3 kw ho1 ho2 dv=>?_
 ·clear hdf hof fdf z0 hpb hlex hb
  rcases a0o hx with rfl | hx
  ·exact .head _
  rcases a0o hx with rfl | hx
  ·exact .tail _ (.head _)
  rcases a0o hx with rfl | hx
  ·exact .tail _ (.tail _ (.head _))
  ·rw[zS hx];exact .tail _ (.tail _ (.tail _ (.head _)))
 ·simp only[shO,map_cons,map_nil,nodup_cons,mem_cons,not_or,not_mem_nil,or_false,not_false_eq_true,nodup_nil,and_true]at hnd ⊢
  exact⟨⟨hnd.1.1,hnd.1.2.1,hnd.1.2.2.1⟩,⟨hnd.2.1.1,hnd.2.1.2.1⟩,hnd.2.2.1.1⟩
 have z1:Stt G H (b6o L cd) (c0c L) (fms (b6o L cd) (c0c L)++[dL,xL,dS,xS,q1,q2]) M ([("self",.val (.ref xL))]:List (Str×D)) (shO xL dL xS dS q1 q2 od b p' st') s l3:=by
  have:=Stt.turnSh (ol:=[]) (p':=p') (st':=st') (by simpa using j1) kw ho1 ho2
  simpa using this
 have dvT:∀P,DR P v (b6w q' tok'):=dv
 refine z1.put (.inl ∅) (dvT _) fun y3 u1 _=>?_
 refine a0e u1 rm' (b:=false) (Ts.cmp (.sh (ol:=[(dS,.ns (a3p b p')),(xS,a0r 724 dS),(q1,.raw (· =od)),(q2,.raw (· =od))]) hH (d:=.none) ∅ (by decide) (by cases st' <;> kernel_rfl)) .noneC (a1d fun v e=>by cases e)) fun i5 z2=>?_
 have fin:∀(dd:D) (v:Value) (ρ:List (Str×D)) s',Stt G H (b6o L cd) (c0c L) (fms (b6o L cd) (c0c L)++[dL,xL,dS,xS,q1,q2]) M ρ (shO xL dL xS dS q1 q2 od b p' st') s s'→(∀P,DR P v (b6w q' tok'))→Q v s':=by
  intro dd v ρ s' t dv
  walk_at "c"
  clear ρ dd i5 u1 y3 dvT z1 ho2 ho1 kw l3 hnd j1 hdf hof fdf of z0 hpb hlex hb Q
  rcases t.ls _ (.head _)with⟨_,_,oL,eL,hoL⟩
  rcases t.ls _ (.tail _ (.tail _ (.head _)))with⟨_,_,oS,eS,hoS⟩
  walk_at "u"
  refine K v s' ⟨fun c o hc e=>?_,t.kp.2⟩ ⟨oL,eL,fun P=>ObR.flat hoL (a9z ..)⟩ ⟨oS,eS,fun P=>ObR.flat hoS rfl⟩ dv
  have one:∀(x:Addr) (ox:Obj),(x,Ob.raw (· =ox))∈shO xL dL xS dS q1 q2 od b p stO→(x,Ob.raw (· =ox))∈shO xL dL xS dS q1 q2 od b p' st'→c=x→s'.heap.get? c=some o:=fun x ox m1 m2 hx=>by
   walk_at "c"
   clear hoS eS oS hoL eL oL K stO p
   rcases wd.ls _ m1 with⟨_,_,o1,e1,h1⟩
   clear m1 wd
   rcases t.ls _ m2 with⟨_,_,o2,e2,h2⟩
   walk_at "u"
   have h1':o1=ox:=h1
   have h2':o2=ox:=h2
   clear h2 o2 h1 o1 m2 ox
   subst hx
   rw[e]at e1;cases e1
   rw[e2,h2',h1']
  clear hx m2 m1 ox hoS eS oS hoL eL oL K wd stO p
  by_cases c1:c=xL
  ·exact one xL _ (.tail _ (.head _)) (.tail _ (.head _)) c1
  by_cases c2:c=xS
  ·exact one xS _ (.tail _ (.tail _ (.tail _ (.head _)))) (.tail _ (.tail _ (.tail _ (.head _)))) c2
  by_cases c3:c=q1
  ·exact one q1 od (.tail _ (.tail _ (.tail _ (.tail _ (.head _))))) (.tail _ (.tail _ (.tail _ (.tail _ (.head _))))) c3
  by_cases c4:c=q2
  ·exact one q2 od (.tail _ (.tail _ (.tail _ (.tail _ (.tail _ (.head _)))))) (.tail _ (.tail _ (.tail _ (.tail _ (.tail _ (.head _)))))) c4
  refine t.kp.1 c o (fun hm=>?_) e
  simp only[mem_cons,not_mem_nil,or_false,not_or]at hc
  clear one t
  rcases zA hm with hm | hm
  ·exact nsn (hW c hm) e
  ·simp only[mem_cons,not_mem_nil,or_false]at hm
   clear hW hW
   rcases hm with h | h | h | h | h | h
   ·exact hc.1 h
   ·exact c1 h
   ·exact hc.2 h
   ·exact c2 h
   ·exact c3 h
   ·exact c4 h
 walk_at "x"
 clear i5 u1 y3 dvT z1 ho2 ho1 kw l3 hnd j1 hdf hof fdf of z0 hW K wd hpb hlex hb Q stO p
 by_cases hcs:q'=false∧tok'.length=0
 ·have etok:b6w q' tok'= .none:=by rw[b6w,if_pos hcs]
  rw[etok]at z2 fin
  refine a2y (fun k s'=>Stt G H (b6o L cd) (c0c L) (fms (b6o L cd) (c0c L)++[dL,xL,dS,xS,q1,q2]) M ([("raw",.none),("self",.val (.ref xL))]:List (Str×D)) (shO xL dL xS dS q1 q2 od b p' st') s s') PassesOwn.leaving ?_ 0 z2
  intro k i4 j3
  refine(Ts.cmp (b:=true) (.name (d:=.none) ∅) (.sh (ol:=[(dS,.ns (a3p b p')),(xS,a0r 724 dS),(q1,.raw (· =od)),(q2,.raw (· =od))]) hH (d:=.none) ∅ (by decide) (by cases st' <;> kernel_rfl)) a8v) _ _ _ _ _ rm' j3.cd fun d6 eB=>?_
  have z3:=j3.keeps eB
  show wpAny _ _ _ _ _ _
  refine a0e z3 rm' (b:=true) (.not (.dq (x:=q2) (.sh (ol:=[(dS,.ns (a3p b p')),(xS,a0r 724 dS),(q1,.raw (· =od)),(q2,.raw (· =od))]) hH ∅ (by decide) (by cases st' <;> kernel_rfl)) (.tail _ (.tail _ (.tail _ (.tail _ (.tail _ (.head _)))))) hod)) fun j6 w4=>?_
  walk_at "x"
  refine wpAny_Return_some ?_
  refine(Ev.sh (ol:=[(dS,.ns (a3p b p')),(xS,a0r 724 dS),(q1,.raw (· =od)),(q2,.raw (· =od))]) hH (d:=.none) ∅ (by decide) (by cases st' <;> kernel_rfl)) _ _ _ _ _ rm' w4.cd fun v s' k' dv=>?_
  clear hod hod
  cases dv
  exact fin .none _ _ s' (w4.keeps k') fun P=>.none
 ·have etok:b6w q' tok'= .str tok':=by rw[b6w,if_neg hcs]
  rw[etok]at z2 fin
  refine a2y (fun k s'=>Stt G H (b6o L cd) (c0c L) (fms (b6o L cd) (c0c L)++[dL,xL,dS,xS,q1,q2]) M ([("raw",.str tok'),("self",.val (.ref xL))]:List (Str×D)) (shO xL dL xS dS q1 q2 od b p' st') s s') PassesOwn.leaving ?_ 0 z2
  intro k i4 j3
  refine(Ts.cmp (b:=false) (.name (d:=.str tok') ∅) (.sh (ol:=[(dS,.ns (a3p b p')),(xS,a0r 724 dS),(q1,.raw (· =od)),(q2,.raw (· =od))]) hH (d:=.none) ∅ (by decide) (by cases st' <;> kernel_rfl)) a8u) _ _ _ _ _ rm' j3.cd fun d6 eB=>?_
  have z3:=j3.keeps eB
  show wpAny _ _ _ _ _ _
  refine wpAny_execs_nil ?_
  show wpAny _ _ (execs _ _) _ _ _
  refine a0e z3 rm' (b:=false) (Ts.bool (Ts.cmp (.sh (ol:=[(dS,.ns (a3p b p')),(xS,a0r 724 dS),(q1,.raw (· =od)),(q2,.raw (· =od))]) hH (d:=.int 0) ∅ (by decide) (by cases st' <;> kernel_rfl)) .int b5m) (by decide)) fun j6 w4=>?_
  walk_at "x"
  refine wpAny_Return_some ?_
  clear z3 eB d6 j3 i4 k etok hcs z2 rm' L hod od q2 q1 dS xS dL xL s H M q' st' p' b hH
  obtain⟨v,hv,dvv⟩:=w4.cd.vars "raw" (.str tok') ∅
  refine a1f w4.kind hv ?_
  clear hv v cd tok'
  cases dvv
  exact fin .none _ _ j6 w4 fun P=>.str _ _
end
end
section
noncomputable abbrev c4g (L:Addr) (cd:Value):Env:=fnv "shlex.__next__" (a0a (a0q 30 10)) L 856 cd
noncomputable abbrev d0g (L:Addr):List (Str×Addr):=cellsFrom (L+1) (a0a (a0q 30 10)).names []
section
variable {n:Nat}
theorem d1p {s:Shared} {b:Str} {p:Nat} {st:Option Str} (wd:Wd G H M (shO xL dL xS dS q1 q2 od b p st) s) (hW:∀b∈fms env own,s.heap.get? b=none)
  (t:Stt G H env own (fms env own++[dL,xL,dS,xS,q1,q2]) M ρ (shO xL dL xS dS q1 q2 od b p' st') s s'):Kw G.gen [dL,dS] s s':=by
 refine⟨fun c o hc e=>?_,t.kp.2⟩
 have one:∀(x:Addr) (ox:Obj),(x,Ob.raw (· =ox))∈shO xL dL xS dS q1 q2 od b p st→(x,Ob.raw (· =ox))∈shO xL dL xS dS q1 q2 od b p' st'→c=x→s'.heap.get? c=some o:=fun x ox m1 m2 hx=>by
  walk_at "c"
  clear x st' st p' p b dS dL s' s ρ M own env H
  rcases wd.ls _ m1 with⟨_,_,o1,e1,h1⟩
  clear m1 wd
  rcases t.ls _ m2 with⟨_,_,o2,e2,h2⟩
  walk_at "u"
  have h1':o1=ox:=h1
  have h2':o2=ox:=h2
  clear h2 o2 h1 o1 m2 ox
  subst hx
  rw[e]at e1;cases e1
  rw[e2,h2',h1']
 clear hx m2 m1 ox x wd st' st p' p b dS dL s' s ρ M own env H
 by_cases c1:c=xL
 ·exact one xL _ (.tail _ (.head _)) (.tail _ (.head _)) c1
 clear xL xL
 by_cases c2:c=xS
 ·exact one xS _ (.tail _ (.tail _ (.tail _ (.head _)))) (.tail _ (.tail _ (.tail _ (.head _)))) c2
 clear xS xS
 by_cases c3:c=q1
 ·exact one q1 od (.tail _ (.tail _ (.tail _ (.tail _ (.head _))))) (.tail _ (.tail _ (.tail _ (.tail _ (.head _))))) c3
 clear q1 q1
 by_cases c4:c=q2
 ·exact one q2 od (.tail _ (.tail _ (.tail _ (.tail _ (.tail _ (.head _)))))) (.tail _ (.tail _ (.tail _ (.tail _ (.tail _ (.head _)))))) c4
 refine t.kp.1 c o (fun hm=>?_) e
 simp only[mem_cons,not_mem_nil,or_false,not_or]at hc
 clear one t od q2
 rcases zA hm with hm | hm
 ·exact nsn (hW c hm) e
 ·simp only[mem_cons,not_mem_nil,or_false]at hm
  clear hW hW
  rcases hm with h | h | h | h | h | h
  ·exact hc.1 h
  ·exact c1 h
  ·exact hc.2 h
  ·exact c2 h
  ·exact c3 h
  ·exact c4 h
theorem d0w (hH:GH G) (hg:G.glb "StopIteration"=some none) {b:Str} {k p:Nat} {s:Shared} (hb:b.length≤1000) (hod:qDq od) (hlex:a2t b k p stO "" false=some (st',tok',q',p')) (hpb:p≤b.length) (rm:Rm A (n+6))
  (wd:Wd G H M (shO xL dL xS dS q1 q2 od b p stO) s) (hfs:a3y fs Fo) (hfr:A.frames=some fs) (hst:∀p∈Fo,p.1≠dL∧p.1≠dS∧∃o,s.heap.get? p.1=some o∧slO p.2 o)
  (K:∀v s',¬(q'=false∧tok'.length=0)→Kw G.gen [dL,dS] s s'→(∃o,s'.heap.get? dL=some o∧∀P,ObR P o (.ns (shl xS q1 q2 (stD st') "")))→(∃o,s'.heap.get? dS=some o∧∀P,ObR P o (.ns (a3p b p')))→(∀P,DR P v (.str tok'))→Q v s')
  (KE:∀e s',(q'=false∧tok'.length=0)→Rsd G.gen [dL,dS] [dL,dS] fs s s' e (.type "StopIteration")→E (.ref e) s'):wpAny (model prog w) A (call (.ref 856) [.ref xL]) Q E s:=by
 refine a0u (n:=n+5) (args:=⟨[_],[]⟩) (ρ:=[("self",_)]) (binds:=[("self",_)]) hH.nx rm wd.top wd.mem (fun name doc pm an cdv ct=>BindsTo.of_eq rfl) rfl (.cons (.val (.ref xL)) .nil) (fun x hx=>by rw[zS hx];exact .inl ∅) (a0d ∅) (by decide +kernel) (by simp) ?_ ∅ ∅ ∅
 intro L cd g0 hL t hW
 walk_at "q"
 have w0:Stt G H (c4g L cd) (d0g L) (fms (c4g L cd) (d0g L)++[dL,xL,dS,xS,q1,q2]) M ([("self",.val (.ref xL))]:List (Str×D)) (shO xL dL xS dS q1 q2 od b p stO) s g0:=t.openX wd hW
 have rm':Rm (A.deeper (c4g L cd)) (n+5):=rm.deeper (c4g L cd)
 walk_at "x"
 obtain⟨of,fdf,hof,hdf⟩:=hH.gt.obj
 refine wpAny_Assign_Name (a2d (G:=G.at _) (n:=n+5) rm' w0.cd (.name (d:=.val (.ref xL)) ∅) (.tail _ (.head _)) (.head _) hH.cls hH.mGt (by cases stO <;> kernel_rfl) hof hdf fun y2 a4=>?_) ∅
 have j1:=w0.keeps a4
 refine d1b (n:=n) (dL:=dL) (xS:=xS) (dS:=dS) (q1:=q1) (q2:=q2) hH hb hod hlex hpb rm' j1.wd fun v l3 kw ho1 ho2 dv=>?_
 have z1:Stt G H (c4g L cd) (d0g L) (fms (c4g L cd) (d0g L)++[dL,xL,dS,xS,q1,q2]) M ([("self",.val (.ref xL))]:List (Str×D)) (shO xL dL xS dS q1 q2 od b p' st') s l3:=by
  have:=Stt.turnSh (ol:=[]) (p':=p') (st':=st') (by simpa using j1) kw ho1 ho2
  simpa using this
 refine z1.put (.inl ∅) (dv _) fun y3 u1 _=>?_
 walk_at "x"
 by_cases hcs:q'=false∧tok'.length=0
 ·have etok:b6w q' tok'= .none:=by rw[b6w,if_pos hcs]
  rw[etok]at u1
  refine a9f u1 rm' (b:=true) (Ts.cmp (.name (d:=.none) ∅) (.sh (ol:=[(dS,.ns (a3p b p')),(xS,a0r 724 dS),(q1,.raw (· =od)),(q2,.raw (· =od))]) hH (d:=.none) ∅ (by decide) (by cases st' <;> kernel_rfl)) a8v) fun i5 z2=>?_
  rw[if_pos rfl]
  walk_at "x"
  refine owsi_raiseC rm'.hd (a1v z2.kind z2.glob z2.bi z2.top ∅ hg (v:=.type "StopIteration") ∅ (by decide) ⟨rfl,rfl⟩) fun h' e mk=>?_
  have kw6:=d1p wd hW z2
  walk_at "c"
  rcases z2.fm with⟨vm,F',_⟩
  rcases F'.loc with⟨m,⟨oL,es,ep,eL,dLd,_⟩,_⟩
  walk_at "u"
  have st:Stk (A.deeper (c4g L cd)) (c4g L cd::fs) i5.heap:=by
   refine a3y.stk (Fo:=(L,oL)::Fo) (.cons (by rw[z2.kind];decide) rfl (fun vs q=>by rw[dLd]at q;cases q) hfs) (Around.frames_deeper hfr) fun x hx=>?_
   rcases a0o hx with rfl | hx
   ·exact⟨oL,eL,slO.refl _⟩
   ·obtain⟨n1,n2,o,eo,so⟩:=hst x hx
    exact⟨o,kw6.1 x.1 o (fun hm=>by
     rcases zC hm with h | h
     ·exact n1 h
     ·exact n2 (zS h)) eo,so⟩
  have mk':Heap.MadeExcOf i5.heap h' e (.type "StopIteration") []:=⟨mk.keeps,mk.new,mk.there⟩
  refine Rsd.made (fl:=G.gen) (W:=[dL,dS]) (V:=[dL,dS]) (s:=s) st rfl mk' (fun c o hc ec=>⟨fun e'=>(by rw[e',hL]at ec;cases ec),kw6.1 c o hc ec⟩) kw6.2 (fun c hc=>?_) fun s'' x=>KE e s'' hcs x
  walk_at "c"
  rcases z2.ls _ (.head _)with⟨_,_,o1,e1,r1⟩
  rcases z2.ls _ (.tail _ (.tail _ (.head _)))with⟨_,_,o2,e2,r2⟩
  walk_at "u"
  have hne:∀c,c∈[dL,dS]→c≠L:=fun c hc e'=>by
   have hm:c∈M:=by
    rcases zC hc with h | h
    ·rw[h];exact(wd.ls _ (.head _)).wW
    ·rw[zS h];exact(wd.ls _ (.tail _ (.tail _ (.head _)))).wW
   obtain⟨o,eo⟩:=wd.mem c hm
   rw[e',hL]at eo;cases eo
  refine⟨hne c hc,?_⟩
  rcases zC hc with h | h
  ·obtain⟨es1,ep1,rfl,_⟩:=r1
   exact⟨_,by rw[h];exact e1,.inl fun vs q=>by cases q⟩
  ·obtain⟨es1,ep1,rfl,_⟩:=r2
   exact⟨_,by rw[zS h];exact e2,.inl fun vs q=>by cases q⟩
 ·have etok:b6w q' tok'= .str tok':=by rw[b6w,if_neg hcs]
  rw[etok]at u1
  refine a9f u1 rm' (b:=false) (Ts.cmp (.name (d:=.str tok') ∅) (.sh (ol:=[(dS,.ns (a3p b p')),(xS,a0r 724 dS),(q1,.raw (· =od)),(q2,.raw (· =od))]) hH (d:=.none) ∅ (by decide) (by cases st' <;> kernel_rfl)) a8u) fun i5 z2=>?_
  rw[if_neg (by decide)]
  refine wpAny_execs_nil ?_
  show wpAny _ _ (execs _ _) _ _ _
  walk_at "x"
  refine wpAny_Return_some ?_
  obtain⟨v',hv,dvv⟩:=z2.cd.vars "token" (.str tok') ∅
  refine a1f z2.kind hv ?_
  cases dvv
  walk_at "c"
  rcases z2.ls _ (.head _)with⟨_,_,o1,e1,r1⟩
  rcases z2.ls _ (.tail _ (.tail _ (.head _)))with⟨_,_,o2,e2,r2⟩
  walk_at "u"
  exact K _ i5 hcs (d1p wd hW z2) ⟨o1,e1,fun P=>ObR.flat r1 (a9z ..)⟩ ⟨o2,e2,fun P=>ObR.flat r2 rfl⟩ fun P=>.str _ _
end
end
section
section
variable {M:Model} {s:Shared} {x f:Addr} {ox:Obj} {od:Option Obj}
theorem c1u (X:K.In s.heap) (I:InstAt s.heap x ox C od) (hs:findIn K (.ref C) "__iter__"=some (some (.ref f))) (hf:typeIn K (.ref f)=some (.type "function")) (h:wpAny M A (call (.ref f) [.ref x]) (OwitIt M A Q E) E s):wpAny M A (pyIter (.ref x)) Q E s:=by
 have fin:wpAny M A (call (.ref f) [.ref x] >>= fun v=>pure (some v)) (fun r s'=>∃v,r=some v∧OwitIt M A Q E v s') E s:=
  wpAny_bind (wpAny_mono h (fun v s' h'=>wpAny_pure ⟨v,rfl,h'⟩) fun _ _ z=>z)
 have one:∀refuse:Sem Value,wpAny M A (callSpecialIfBoundUnlessNone? (.ref x) "__iter__" refuse) (fun r s'=>∃v,r=some v∧OwitIt M A Q E v s') E s:=by
  intro refuse
  simp only[callSpecialIfBoundUnlessNone?,bindSpecialIfBound?]
  refine wpAny_holding (wpAny_bind (wpAny_bind (wpAny_bind (I.type.here ((looks_findIn X hs).here ?_)))))
  refine wpAny_bind (wpAny_askSetting (wpAny_ite ?_))
  have fin2:wpAny M A (if(Value.ref f == Value.none)=true then(refuse >>= fun v=>pure (some v))else(call (.ref f) [.ref x] >>= fun v=>pure (some v))) (fun r s'=>∃v,r=some v∧OwitIt M A Q E v s') E s:=by
   rw[if_neg (show ¬((Value.ref f == Value.none)=true)from Bool.false_ne_true)]
   exact fin
  split
  ·exact wpAny_bind ((bind_fn X _ hf).here (wpAny_pure (by exact fin2)))
  ·exact wpAny_tryCatch (wpAny_bind ((bind_fn X _ hf).here (wpAny_pure (by exact fin2))))
 unfold pyIter
 refine wpAny_bind (wpAny_bind (I.type.here ((looks_findIn X hs).here ?_)))
 show wpAny M A (callSpecialIfBoundUnlessNone? (.ref x) "__iter__" _ >>= _) Q E s
 refine wpAny_bind (wpAny_mono (one _) (fun r s' hr=>?_) fun _ _ z=>z)
 obtain⟨v,rfl,hv⟩:=hr
 refine wpAny_bind (wpAny_mono hv (fun r u0 hr=>?_) fun _ _ z=>z)
 cases r with
 | none=>exact hr.elim
 | some g=>exact wpAny_pure hr
theorem c8w {g:Value} (X:K.In s.heap) (I:InstAt s.heap x ox C od) (hs:findIn K (.ref C) "__next__"=some (some g)) (h:Q (.ref x) s):OwitIt M A Q E (.ref x) s:=by
 unfold OwitIt
 exact wpAny_bind (I.type.here ((looks_findIn X hs).here h))
theorem c1t {Q:Option Value→Shared→Prop} (X:K.In s.heap) (I:InstAt s.heap x ox C od) (hs:findIn K (.ref C) "__next__"=some (some (.ref f))) (hf:typeIn K (.ref f)=some (.type "function"))
  (h:wpAny M A (call (.ref f) [.ref x]) (fun v s'=>Q (some v) s') (OwitStop M A Q E) s):wpAny M A (pyNext (.ref x)) Q E s:=by
 unfold pyNext
 refine wpAny_bind (wpAny_attempt (special_fn (name:="__next__") (args:=[]) X I hs hf (wpAny_mono h (fun v s' hq=>?_) (fun e s' he=>?_))))
 ·exact wpAny_pure hq
 ·refine wpAny_bind (wpAny_mono he (fun b u0 hb=>?_) fun _ _ z=>z)
  cases b with
  | true=>exact wpAny_pure hb
  | false=>exact wpAny_throw hb
theorem c1s {Q:Option Value→Shared→Prop} {e:Addr} (x:Rsd fl W V fs j0 s e (.type "StopIteration")) (h:Q none s):OwitStop M A Q E (.ref e) s:=by
 unfold OwitStop
 refine wpAny_isInstance (b:=true) (T:="StopIteration") (show s.TypeIs (.ref e) "StopIteration" from x.cls) (by rw[isSubtype_type];kernel_rfl) ?_
 show(if true=true then Q none s else E (.ref e) s)
 rw[if_pos rfl]
 exact h
end
section
variable {n:Nat}
theorem d0z (hH:GH G) {s:Shared} (rm:Rm A (n+1)) (T:TF G s.heap) (hm:∀b∈M,∃o,s.heap.get? b=some o) (K:∀s',Kp s s'→Q (.ref xL) s'):wpAny (model prog w) A (call (.ref 849) [.ref xL]) Q E s:=by
 have T':TF ⟨G.glb,G.K,[],false⟩ s.heap:=⟨T.g,T.b,T.lim,T.objs⟩
 refine a0u (G:=⟨G.glb,G.K,[],false⟩) (n:=n) (args:=⟨[_],[]⟩) (ρ:=[("self",_)]) (binds:=[("self",_)]) ⟨hH.it.fn⟩ rm T' hm (fun name doc pm an cdv ct=>BindsTo.of_eq rfl) rfl (.cons (.val (.ref xL)) .nil) (fun x hx=>by rw[zS hx];exact .inl ∅) (a0d ∅) (by decide +kernel) (by simp) ?_ ∅ ∅ ∅
 intro L cd g0 hL t hW
 walk_at "q"
 walk_at "x"
 refine wpAny_Return_some ?_
 obtain⟨v,hv,dv⟩:=t.cd.vars "self" (.val (.ref xL)) ∅
 cases dv
 exact a1f t.kind hv (K g0 (t.endP rfl hW (Kp.refl _)))
end
end
section
section
variable {n:Nat} {s:Shared}
theorem Stt.permP (t:Stt G H env own W i0 ρ ol j0 s) (h:ol'.Perm ol):Stt G H env own W i0 ρ ol' j0 s:=t.perm (fun p hp=>h.mem_iff.mp hp) ((h.map _).nodup_iff.mpr t.lsn)
theorem Stt.seqTo {S:Addr} {ds':List D} {f:Array Value→Array Value} (t:Stt G H env own W i0 ρ ((S,.list ds)::ol) j0 s) (hf:∀vs:List Value,DRs (vis s.heap (W++i0)) vs ds→∃ws:List Value,f vs.toArray=ws.toArray∧DRs (vis s.heap (W++i0)) ws ds'):
  ∃(vs:List Value) (ep:Nat),s.heap.get? S=some {cls:=.type "list",data:=.seq vs.toArray ep}∧vs.length=ds.length∧Stt G H env own W i0 ρ ((S,.list ds')::ol) j0 {s with heap:=s.heap.update S (Obj.mapSeq f)}:=by
 walk_at "c"
 rcases t.ls _ (.head _)with⟨a1,_,o,e,vs,ep,rfl,r⟩
 rcases hf vs r with⟨ws,hw,rw'⟩
 walk_at "u"
 refine⟨vs,ep,e,r.length,?_⟩
 have e':=Heap.get?_update_self (Obj.mapSeq f) e rfl
 have hs:=Heap.SameBut.update s.heap S (Obj.mapSeq f)
 refine t.set1 (s':={s with heap:=s.heap.update S (Obj.mapSeq f)}) (Kw.sameBut (tk:=s.toks) hs) e' ⟨ws,(if ws.toArray.size == vs.toArray.size then ep else ep+1),?_,rw'.mono (a0x fun b o e hb=>(hs.2 b fun e'=>hb (by rw[e'];exact zB (.inl a1))).trans e)⟩
 simp only[Obj.mapSeq,hw]
theorem b0b {S x:Addr} {res:Value}
  (h:wpAny (model prog w) A.in1 (pyNext (.ref x)) (fun r s'=>match r with
   | none=>R (.ok (.ret res)) s'
   | some v=>∃(vs:List Value) (ep:Nat),s'.heap.get? S=some {cls:=.type "list",data:=.seq vs.toArray ep}∧vs.length≤1000∧codeAny (model prog w) A (.builtin "list.extend.loop" ⟨[.ref S,.ref x,res],[]⟩) R {s' with heap:=s'.heap.update S (Obj.mapSeq (·.push v))}) (fun e s'=>R (.error e) s') s):
  codeAny (model prog w) A (.builtin "list.extend.loop" ⟨[.ref S,.ref x,res],[]⟩) R s:=by
 refine codeAny_builtin F.entry_extend_loop ?_
 rw[Around.under_plainId F.plain_extend_loop _]
 show wpAny _ A.in1 (pyNext (.ref x) >>= _) _ _ s
 refine wpAny_bind (wpAny_mono h (fun r s' hr=>?_) fun _ _ e=>e)
 clear h res x
 cases r with
 | none=>exact wpAny_pure hr
 | some v=>
  obtain⟨vs,ep,hS,hl,hc⟩:=hr
  show wpAny _ A.in1 (updateSeq S (·.push v) >>= _) _ _ _
  refine wpAny_bind ?_
  exact wpAny_updateSeq hS rfl (wpAny_pure ⟨plainId_quiet F.plain_extend_loop _,hc⟩) (by rw[size_toArray,sizeLine_eq];omega) (by show(vs.toArray.push v).size≤sizeLine+1;rw[Array.size_push,size_toArray,sizeLine_eq];omega)
end
end
section
structure GL (G:a1k):Prop where
 len:findIn G.K (.ref 859) "__len__"=some none
 hint:findIn G.K (.ref 859) "__length_hint__"=some none
section
variable {n:Nat} {s:Shared} {S:Addr} {b:Str}
theorem a9t (hH:GH G) (hg:G.glb "StopIteration"=some none) {k p:Nat} {Q:Option Value→Shared→Prop} (hb:b.length≤1000) (hod:qDq od) (hlex:a2t b k p stO "" false=some (st',tok',q',p')) (hpb:p≤b.length) (rm:Rm A (n+6))
  (t:Stt G H env own W i0 ρ (shO xL dL xS dS q1 q2 od b p stO++((S,.list ds)::fol Fo)) j0 s) (hf:env.frame=some env.locals) (hfr:A.frames=some (env::fs)) (hfs:a3y fs Fo)
  (K:∀v s',¬(q'=false∧tok'.length=0)→Stt G H env own W i0 ρ (shO xL dL xS dS q1 q2 od b p' st'++((S,.list ds)::fol Fo)) j0 s'→(∀P,DR P v (.str tok'))→Q (some v) s')
  (KN:∀s',(q'=false∧tok'.length=0)→Stt G H env own W i0 ρ ((S,.list ds)::fol Fo) j0 s'→Q none s'):wpAny (model prog w) A (pyNext (.ref xL)) Q E s:=by
 have hFo:∀r∈fol Fo,r∈shO xL dL xS dS q1 q2 od b p stO++((S,.list ds)::fol Fo):=fun r hp=>zB (.inr (.tail _ hp))
 walk_at "c"
 rcases t.stack hfs hFo hf with⟨oL,f1,f2,wdL⟩
 rcases t.ls (xL,a0r 859 dL) (zB (.inl (.tail _ (.head _))))with⟨_,_,ox,ex,hox⟩
 walk_at "u"
 have hox':ox=instObj 859 dL:=hox
 subst hox'
 walk_at "c"
 rcases t.ls (dL,.ns (shl xS q1 q2 (stD stO) "")) (zB (.inl (.head _)))with⟨a1,a2,odL,ed,hodL⟩
 rcases t.ls (dS,.ns (a3p b p)) (zB (.inl (.tail _ (.tail _ (.head _)))))with⟨b1,b2,odS,eds,hodS⟩
 walk_at "u"
 have hnd:=wdL.lsn
 refine c1t t.top.inK (a3r ex ed) hH.mNx.find hH.mNx.fn ?_
 have hdis:∀x∈(env.locals,oL)::Fo,x.1≠dL∧x.1≠dS:=by
  have hnn:=t.lsn
  have key:∀c,c∈(shO xL dL xS dS q1 q2 od b p stO).map (·.1)→∀x∈Fo,x.1≠c:=fun c hc x hx e=>by
   rw[map_append,nodup_append]at hnn
   exact hnn.2.2 c hc x.1 (.tail _ (zN ⟨(x.1,.raw (slO x.2)),zN ⟨x,hx,rfl⟩,rfl⟩)) e.symm
  intro x hx
  rcases a0o hx with rfl | hx
  ·exact⟨fun e=>a2 (e▸.head _),fun e=>b2 (e▸.head _)⟩
  ·exact⟨key dL (.head _) x hx,key dS (.tail _ (.tail _ (.head _))) x hx⟩
 refine d0w (n:=n) (dL:=dL) (xS:=xS) (dS:=dS) (q1:=q1) (q2:=q2) (fs:=env::fs) (Fo:=(env.locals,oL)::Fo) hH hg hb hod hlex hpb rm (t.wd.pick (fun x hx=>zB (.inl hx)) ?_) f1 hfr (fun x hx=>⟨(hdis x hx).1,(hdis x hx).2,f2 x hx⟩) (fun v s' hn kw h1 h2 dv=>?_) fun e s' hn x=>?_
 ·have hnn:=t.lsn
  rw[map_append,nodup_append]at hnn
  exact hnn.1
 ·exact K v s' hn (Stt.turnSh t kw h1 h2) dv
 ·refine c1s x (KN s' hn ?_)
  refine Stt.caught (N₀:=[]) (W₁:=[dL,dS]) (V:=[dL,dS]) (X:=[dL,dS]) t hf hfs hFo (fun b hb=>by cases hb) (fun b hb=>.inl hb) (fun c hc=>?_) (fun c hc _=>hc) x (fun r hp=>⟨zB (.inr hp),fun hm=>?_⟩) ?_
  ·have hcm:c∈(shO xL dL xS dS q1 q2 od b p stO).map (·.1):=by
    rcases zC hc with h | h
    ·rw[h];exact .head _
    ·rw[zS h];exact .tail _ (.tail _ (.head _))
   refine⟨?_,?_,fun hm=>?_⟩
   ·rcases zC hc with h | h
    ·rw[h];exact a1
    ·rw[zS h];exact b1
   ·rcases zC hc with h | h
    ·rw[h];exact a2
    ·rw[zS h];exact b2
   ·rw[hfs.frs]at hm
    obtain⟨q,hq,e'⟩:=zM hm
    have:=hdis q (.tail _ hq)
    rcases zC hc with h | h
    ·exact this.1 (e'.trans h)
    ·exact this.2 (e'.trans (zS h))
  ·have hnn:=t.lsn
   rw[map_append,nodup_append]at hnn
   have hcm:r.1∈(shO xL dL xS dS q1 q2 od b p stO).map (·.1):=by
    rcases zC hm with h | h
    ·rw[h];exact .head _
    ·rw[zS h];exact .tail _ (.tail _ (.head _))
   exact hnn.2.2 r.1 hcm r.1 (zN ⟨r,hp,rfl⟩) rfl
  ·have hnn:=t.lsn
   rw[map_append,nodup_append]at hnn
   exact hnn.2.1
theorem c2g (hH:GH G) (hL:GL G) (hg:G.glb "StopIteration"=some none) {k1 k2 k3 p1 p2 p3:Nat} {st1 st2 st3:Option Str} {w1 w2 w3:Str} {b1 b2 b3:Bool} (hb:b.length≤1000) (hod:qDq od) (h1:a2t b k1 0 (some " ") "" false=some (st1,w1,b1,p1)) (h2:a2t b k2 p1 st1 "" false=some (st2,w2,b2,p2)) (h3:a2t b k3 p2 st2 "" false=some (st3,w3,b3,p3))
  (n1:¬(b1=false∧w1.length=0)) (n2:¬(b2=false∧w2.length=0)) (n3:b3=false∧w3.length=0) (l1:p1≤b.length) (l2:p2≤b.length) (rm:Rm A (n+9))
  (t:Stt G H env own W i0 ρ (shO xL dL xS dS q1 q2 od b 0 (some " ")++fol Fo) j0 s) (hf:env.frame=some env.locals) (hfr:A.frames=some (env::fs)) (hfs:a3y fs Fo)
  (K:∀S s',s.heap.get? S=none→Stt G H env own (S::W) i0 ρ ((S,.list [.str w1,.str w2])::fol Fo) j0 s'→Q (.ref S) s'):wpAny (model prog w) A (call (.type "list") [.ref xL]) Q E s:=by
 refine callType_codes (Q₁:=fun obj g0=>obj= .ref s.heap.objs.size∧g0={s with heap:=s.heap.push {cls:=.type "list",data:=.seq #[]}}) F.called_list (F.typeCall_list_1 _) F.entry_list_init (code_list_new _ ⟨rfl,rfl⟩) fun obj g0 j2=>?_
 walk_at "c"
 rcases j2 with⟨rfl,rfl⟩
 rcases(⟨_,rfl⟩:∃S,S=s.heap.objs.size)with⟨S,hS⟩
 walk_at "u"
 rw[←hS]
 have hSn:s.heap.get? S=none:=by rw[hS];exact a0c (Nat.le_refl _)
 have hSg:(s.heap.push {cls:=.type "list",data:=.seq #[]}).get? S=some {cls:=.type "list",data:=.seq #[]}:=by rw[hS];exact get?_push_size _ rfl
 have w0:=t.own1 (a:=S) (ob:=.list []) (Kp.push s {cls:=.type "list",data:=.seq #[]}) hSn hSg ⟨[],0,rfl,.nil⟩
 refine⟨⟨_,hSg,rfl⟩,F.args_list_init_2 _ _,?_⟩
 show wpAny _ A.in1.in1 (do let old ←Builtin.List.listItems (.ref S);Builtin.List.listUpdate (.ref S) (fun _=>#[]);letGo old.toList.reverse;Builtin.List.listExtendWith (.ref S) (.ref xL) .none) _ _ _
 refine wpAny_bind ?_
 unfold Builtin.List.listItems
 refine wpAny_bind (wpAny_seqItems hSg rfl (wpAny_pure ?_))
 show wpAny _ A.in1.in1 (updateSeq S (fun _=>#[]) >>= fun _=>letGo (#[]:Array Value).toList.reverse >>= fun _=>Builtin.List.listExtendWith (.ref S) (.ref xL) .none) _ _ _
 obtain⟨jD,zH,lA,_,z0⟩:=w0.seqTo (f:=fun _=>#[]) (ds':=[]) (fun vs _=>⟨[],rfl,.nil⟩)
 refine wpAny_bind (wpAny_updateSeq hSg rfl (wpAny_bind (wpAny_letGo ?_)))
 have rm1:Rm A.in1.in1 (n+7):=rm.in1.in1
 have hxS:S≠xL:=fun e=>by
  have hn:=z0.lsn
  rw[map_cons,nodup_cons]at hn
  exact hn.1 (by rw[e];exact zN ⟨(xL,a0r 859 dL),zB (.inl (.tail _ (.head _))),rfl⟩)
 have sA:∀{st:Option Str} {p:Nat} {s':Shared} {ds:List D},Stt G H env own (S::W) i0 ρ ((S,.list ds)::(shO xL dL xS dS q1 q2 od b p st++fol Fo)) j0 s'→∃odL,InstAt s'.heap xL (instObj 859 dL) 859 (some odL):=fun{st p s' ds} t=>by
  obtain⟨_,_,ox,ex,hox⟩:=t.ls (xL,a0r 859 dL) (.tail _ (zB (.inl (.tail _ (.head _)))))
  have hox':ox=instObj 859 dL:=hox
  subst hox'
  obtain⟨_,_,odL,ed,_⟩:=t.ls (dL,.ns (shl xS q1 q2 (stD st) "")) (.tail _ (zB (.inl (.head _))))
  exact⟨odL,a3r ex ed⟩
 obtain⟨rH,dG⟩:=sA z0
 unfold Builtin.List.listExtendWith
 refine wpAny_bind (dG.type.here ?_)
 have g1:Builtin.List.listSameRef (.ref S) (.ref xL)=false:=by simp[Builtin.List.listSameRef,hxS]
 have g2:(Value.ref 859 == Value.type "list")=false:=by decide
 have g3:(Value.ref 859 == Value.type "tuple")=false:=by decide
 simp only[g1,g2,g3,Bool.or_false,Bool.false_eq_true,if_false]
 refine wpAny_bind (c1u z0.top.inK dG hH.mIt.find hH.mIt.fn (d0z (n:=n+6) hH rm1 z0.top z0.mem fun y2 a4=>?_))
 have j1:=z0.keeps a4
 rcases sA j1 with⟨qH,uE⟩
 refine c8w j1.top.inK uE hH.mNx.find ?_
 refine wpAny_bind (wpAny_holding ?_)
 unfold Builtin.List.listLengthHint
 refine wpAny_bind (wpAny_bind (uE.type.here ((looks_findIn j1.top.inK hL.len).here ?_)))
 show wpAny _ A.in1.in1 (specialOf (Value.ref xL) (Str.ofString "__length_hint__") >>= _) _ _ _
 refine wpAny_bind (wpAny_bind (uE.type.here ((looks_findIn j1.top.inK hL.hint).here ?_)))
 refine wpAny_pure ?_
 show wpAny _ A.in1.in1 (rule "list.extend.makes-room" >>= fun _=>Builtin.List.listTouch (.ref S) >>= fun _=>
  again (.builtin "list.extend.loop" ⟨[.ref S,.ref xL,.none],[]⟩)) _ _ _
 refine wpAny_bind (wpAny_rule ?_)
 refine wpAny_bind ?_
 show wpAny _ A.in1.in1 (updateSeq S (·.push .none) >>= fun _=>updateSeq S (·.pop)) _ _ _
 obtain⟨dH,yH,xG,dF,z1⟩:=j1.seqTo (f:=(·.push .none)) (ds':=[.none]) (fun vs r=>⟨vs++[.none],by simp,r.append (.cons .none .nil)⟩)
 refine wpAny_bind (wpAny_updateSeq xG rfl ?_ (by rw[size_toArray,dF];decide) (by rw[Array.size_push,size_toArray,dF];decide))
 obtain⟨cH,xH,wG,cF,u1⟩:=z1.seqTo (f:=(·.pop)) (ds':=[]) (fun vs r=>by
  cases r with
  | cons h r=>cases r;exact⟨[],rfl,.nil⟩)
 refine wpAny_updateSeq wG rfl ?_ (by rw[size_toArray,cF];decide) (by rw[Array.size_pop,size_toArray,cF];decide)
 have perm:∀{st:Option Str} {p:Nat} {ds:List D},((S,Ob.list ds)::(shO xL dL xS dS q1 q2 od b p st++fol Fo)).Perm (shO xL dL xS dS q1 q2 od b p st++((S,.list ds)::fol Fo)):=fun{st p ds}=>List.perm_middle.symm
 have step:∀{st:Option Str} {p:Nat} {ds:List D} {v:Value} {x:Str} {s':Shared},Stt G H env own (S::W) i0 ρ (shO xL dL xS dS q1 q2 od b p st++((S,.list ds)::fol Fo)) j0 s'→(∀P,DR P v (.str x))→ds.length≤2→
   ∃(vs:List Value) (ep:Nat),s'.heap.get? S=some {cls:=.type "list",data:=.seq vs.toArray ep}∧vs.length≤1000∧Stt G H env own (S::W) i0 ρ (shO xL dL xS dS q1 q2 od b p st++((S,.list (ds++[.str x]))::fol Fo)) j0 {s' with heap:=s'.heap.update S (Obj.mapSeq (·.push v))}:=by
  intro st p ds v x s' t dv hl
  obtain⟨vs,ep,e,lv,t'⟩:=(t.permP perm).seqTo (f:=(·.push v)) (ds':=ds++[.str x]) (fun vs r=>⟨vs++[v],by simp,r.append (.cons (dv _) .nil)⟩)
  exact⟨vs,ep,e,by omega,t'.permP perm.symm⟩
 have rm2:Rm A.in1.in1 (n+6):=rm1.le (by omega)
 refine wpAny_pure ⟨plainId_quiet F.plain_extend_loop _,?_⟩
 refine b0b (a9t (n:=n) hH hg hb hod h1 (Nat.zero_le _) rm2 (u1.permP perm.symm) hf hfr hfs (fun v s' _ t' dv=>?_) fun s' hn=>absurd hn n1)
 obtain⟨vs,ep,e,lv,t''⟩:=step t' dv (by simp)
 refine⟨vs,ep,e,lv,?_⟩
 refine b0b (a9t (n:=n) hH hg hb hod h2 l1 rm2 t'' hf hfr hfs (fun v s' _ t' dv=>?_) fun s' hn=>absurd hn n2)
 obtain⟨vs,ep,e,lv,t''⟩:=step t' dv (by simp)
 refine⟨vs,ep,e,lv,?_⟩
 refine b0b (a9t (n:=n) hH hg hb hod h3 l2 rm2 t'' hf hfr hfs (fun v s' hn _ _=>absurd n3 hn) fun s' _ t'=>?_)
 exact⟨rfl,K S s' hSn t'⟩
end
end
section
theorem c4l:mroOf (.type "collections.deque")=pure [.type "collections.deque",.type "object"]:=by kernel_rfl
theorem c4k:isSubtype (.type "collections.deque") (.type "collections.deque")=pure true:=by rw[isSubtype_type];kernel_rfl
theorem b3a:Slot "collections.deque" "__init__" "collections.deque.__init__":=
 Slot.of (owner:="collections.deque") (n:="__init__") (by rw[typeLookup_type,builtinLookup_eq_fast];kernel_rfl) (by decide +kernel) (by decide +kernel) (by decide +kernel) (by first | exact .inl (by decide +kernel) | exact .inr (by decide +kernel)) (by rw[isSubtype_type];kernel_rfl)
theorem b3b:entryFor table "collections.deque.__new__"=some Builtin.«collections.deque.__new__»:=entryFor_of_tree ∅
theorem b1u:entryFor table "collections.deque.__init__"=some Builtin.«collections.deque.__init__»:=entryFor_of_tree ∅
theorem a7r:plainId "collections.deque.__new__"=true:=by decide +kernel
theorem b2z:checkTypeCall "collections.deque" ⟨[],[]⟩=pure ():=by kernel_rfl
theorem b5x:checkBuiltinCall "collections.deque.__new__" ⟨[.type "collections.deque"],[]⟩=pure ():=by kernel_rfl
theorem b1t:typeLookup (.type "collections.deque") "__new__"=pure (some (.builtin "collections.deque.__new__")):=by rw[typeLookup_type,builtinLookup_eq_fast];kernel_rfl
theorem b9h:TypeCalled "collections.deque" "collections.deque.__new__" "collections.deque.__init__":=
 ⟨by decide +kernel,by decide +kernel,⟨_,_,c4l⟩,madeBy_type c4l b1t (by decide +kernel),by decide +kernel,c4k,b3a⟩
noncomputable def a3v:Obj:={cls:=.type "collections.deque",data:=.fields #[.none,.int 0 0]}
theorem c5o:qDq a3v:=⟨rfl,_,rfl,rfl⟩
section
variable {s:Shared}
theorem c9v {Q₁:Value→Shared→Prop} (h:Q₁ (.ref s.heap.objs.size) {s with heap:=s.heap.push a3v}):codeAny (model prog w) A (.call (.builtin "collections.deque.__new__") ⟨[.type "collections.deque"],[]⟩) (wants Q₁ E) s:=by
 refine codeAny_of_tree ?_
 show wpAny _ A.in1 (do checkBuiltinCall "collections.deque.__new__" ⟨[.type "collections.deque"],[]⟩;again (.builtin "collections.deque.__new__" ⟨[.type "collections.deque"],[]⟩)) _ _ s
 refine wpAny_bind (wpAny_of_eq b5x (wpAny_pure ⟨plainId_quiet a7r _,codeAny_builtin b3b ?_⟩))
 rw[Around.under_plainId a7r _]
 unfold Builtin.«collections.deque.__new__» Builtin.Deque.newArgs
 refine wpAny_bind (wpAny_bind (m:=isType (.type "collections.deque")) (wpAny_of_eq (a:=true) (by first | rfl | kernel_rfl) ?_))
 simp only[Bool.not_true,Bool.false_eq_true,if_false]
 refine wpAny_bind (wpAny_of_eq c4k ?_)
 simp only[Bool.not_true,Bool.false_eq_true,if_false]
 refine wpAny_pure ?_
 unfold Builtin.Deque.new
 refine wpAny_bind ?_
 show wpAny _ _ (do let d ←(pure none:Sem (Option Addr));newObj (.type "collections.deque") (.fields #[.none,rawInt 0]) d) _ _ _
 refine wpAny_bind (wpAny_pure (wpAny_newObj_type ?_ (by size_fits)))
 exact wpAny_pure h
theorem b9o (h:∀h',Hk s.heap h'→h'.get? s.heap.objs.size=some a3v→Q (.ref s.heap.objs.size) {s with heap:=h'}):wpAny (model prog w) A (call (.type "collections.deque") []) Q E s:=by
 refine callType_codes (Q₁:=fun obj g0=>obj= .ref s.heap.objs.size∧g0={s with heap:=s.heap.push a3v}) b9h b2z b1u (c9v ⟨rfl,rfl⟩) fun obj g0 j2=>?_
 obtain⟨rfl,rfl⟩:=j2
 have hS:(s.heap.push a3v).get? s.heap.objs.size=some a3v:=get?_push_size _ rfl
 refine⟨⟨_,hS,rfl⟩,by unfold argsOk;kernel_rfl,?_⟩
 show wpAny _ A.in1.in1 (do setField (.ref s.heap.objs.size) 0 .none;Builtin.Deque.clear (.ref s.heap.objs.size);ret .none) _ _ _
 refine wpAny_bind (wpAny_setField hS rfl (by decide) ?_)
 have e1:=Heap.update_setField_same (s.heap.push a3v) s.heap.objs.size a3v #[.none,.int 0 0] 0 .none hS rfl rfl
 rw[e1]
 unfold Builtin.Deque.clear Builtin.Deque.items
 refine wpAny_bind (wpAny_bind (wpAny_bind (wpAny_fieldsOf hS rfl (wpAny_pure ?_))))
 show wpAny _ _ (if((#[Value.none,.int 0 0]:Array Value).extract 2 2).size > 0 then _ else _) _ _ _
 rw[if_neg (by decide)]
 exact wpAny_pure (wpAny_pure ⟨rfl,h _ (Hk.push _ _) hS⟩)
end
end
section
section
variable {n:Nat}
end
end
section
section
variable {s:Shared}
theorem b8p {name:Str} {Q:Value×List Value→Shared→Prop} (X:K.In s.heap) (ht:typeOf (.type T)=pure (.type "type")) (hs:Manifest.isStub T=false)
  (e:findCls K (.type T) (.type "type") name=some (.val v)) (hh:handedIn v=true) (h:Q (v,[]) {s with toks:=s.toks+1}):wpAny (model prog w) A (getMethod (.type T) name pl) Q E s:=by
 have hstub:opaqueClassAbove (.type T)=pure none:=by unfold opaqueClassAbove;dsimp only;rw[hs];rfl
 have L0:Looks (model prog w) s.heap (typeOf (.type T)) (.type "type"):=Looks.of_pure ht
 have hg:findIn K (.type "type") "__getattribute__"=some (some (.builtin "type.__getattribute__")):=type_tga
 unfold getMethod specialOf
 refine wpAny_bind (wpAny_bind (L0.here ((looks_findIn X hg).here ?_)))
 dsimp only
 rw[if_pos canon_tga]
 refine wpAny_bind (wpAny_mono (Q:=fun v=>Q (v,[])) (E:=E) ?_ (fun _ _ z=>wpAny_pure z) fun _ _ z=>z)
 have LO:Looks (model prog w) s.heap (opaqueClassAbove (.type T)) none:=Looks.of_pure hstub
 exact cls_open X LO L0 hg (looks_hook X (r:=none) (by rfl)) (by show subIn K _ _=_;rfl) e
  (wpAny_pure (by show wpAny _ _ (handedOut v) _ _ _;rw[handedOut_of hh];exact wpAny_pure h))
end
section
variable {n:Nat}
theorem b8c {a b:Addr} {oa ob:Obj} (hab:a≠b) (ha:G.objs a=some oa) (hb:G.objs b=some ob) (hc:oa.cls≠.type "tuple"):Op2 prog w G n (compareOp .IsNot) (.val (.ref a)) (.val (.ref b)) (.bool true):=fun A M s x y Q E _ T _ da db K=>by
 cases da;cases db;exact wpAny_isNot_ref_other hab (T.objs _ _ ha) (T.objs _ _ hb) hc (K _ _ (Kp.refl _) (.bool _))
theorem b5l {a:Addr}:Op2 prog w G n (compareOp .IsNot) (.val (.ref a)) (.val (.ref a)) (.bool false):=fun A M s x y Q E _ T _ da db K=>by
 cases da;cases db;exact wpAny_isNot_ref_self (K _ _ (Kp.refl _) (.bool _))
theorem b6f {s:Shared} {name:Str} {cdv c:Value} (hm:∀b∈M,∃o,s.heap.get? b=some o) {A':Around} {E':Value→Shared→Prop} {Q':List (Str×Value)→Shared→Prop} {dc dv:D} (h1:DR (vis s.heap M) c dc) (h2:DR (vis s.heap M) v dv)
  (h:∀binds s',Kp s s'→binds.map (·.1)=([("cls",dc),("args",.tuple [dv]),("kwargs",.thing)]:List (Str×D)).map (·.1)→DRs (vis s'.heap M) (binds.map (·.2)) (([("cls",dc),("args",.tuple [dv]),("kwargs",.thing)]:List (Str×D)).map (·.2))→Q' binds s'):
  wpAny (model prog w) A' (bindArgs (fnOf name "IOBase.__new__" (a4t (a0q 16 1)) (a2b (a0q 16 1)) (a0a (a0q 16 1)) .none .none doc pm an cdv ct) ⟨[c,v],[]⟩) Q' E' s:=by
 have e:bindArgs (fnOf name "IOBase.__new__" (a4t (a0q 16 1)) (a2b (a0q 16 1)) (a0a (a0q 16 1)) .none .none doc pm an cdv ct) ⟨[c,v],[]⟩=(newTuple [v] >>= fun t=>alloc {cls:=.type "dict",data:=.dict #[]} >>= fun d=>pure [(("cls":Str),c),("args",t),("kwargs",.ref d)]):=by kernel_rfl
 rw[e]
 refine wpAny_bind (wpAny_newTuple (wpAny_bind (wpAny_alloc (wpAny_pure ?_))) (by show 1≤sizeLine;decide))
 have k1:=Kp.push s {cls:=.type "tuple",data:=.seq [v].toArray}
 have k2:=Kp.push {s with heap:=s.heap.push {cls:=.type "tuple",data:=.seq [v].toArray}} {cls:=.type "dict",data:=.dict #[]}
 refine h _ _ (k1.trans k2) rfl (.cons (h1.mono (k1.trans k2).hk.vis) (.cons ?_ (.cons (.thing _) .nil)))
 exact(a3j hm (.cons h2 .nil)).mono k2.hk.vis
end
end
section
noncomputable def d1h (f:ClassData→Bool):Data→Bool
 | .cls cd=>f cd
 | _=>false
theorem c7t {f:ClassData→Bool} {d:Data} (h:d1h f d=true):∃cd,d= .cls cd∧f cd=true:=by
 cases d <;> first | exact⟨_,rfl,h⟩ | cases h
noncomputable def a4n (K:Frag) (C:Addr) (base:Value):Bool:=(K.lookup C).any fun o=>d1h (fun cd=>(o.slots.toList[4]?).join == some .none && cd.bases == [base] && !cd.mro.isEmpty) o.data
theorem a5g {M:Model} {h:Heap} (X:K.In h) {base:Value} (e:a4n K C base=true):Looks M h (Bind.madeBy (.ref C)) none:=by
 cases ho:K.lookup C with
 | none=>unfold a4n at e;rw[ho]at e;cases e
 | some o=>
  unfold a4n at e
  rw[ho]at e
  walk_at "c"
  rcases o with⟨oc,od,dat,sl⟩
  rcases c7t (e:d1h _ dat=true)with⟨cd,hd,e⟩
  walk_at "u"
  subst hd
  walk_at "c"
  rcases Bool.and_eq_true_iff.mp e with⟨e,e3⟩
  rcases Bool.and_eq_true_iff.mp e with⟨e1,e2⟩
  walk_at "u"
  have e1:=eq_of_beq e1
  have hc:clsIn K C=some cd:=by unfold clsIn;rw[ho]
  have hm:Looks M h (mroOf (.ref C)) cd.mro:=(looks_clsIn X hc).andThen .now
  obtain⟨c,l,hl⟩:∃c l,cd.mro=c::l:=by cases q:cd.mro with | nil=>rw[q]at e3;cases e3 | cons c l=>exact⟨c,l,rfl⟩
  intro A Q E s k q
  unfold Bind.madeBy
  refine wpAny_bind (hm A _ E s k ?_)
  rw[hl,forIn_cons]
  refine wpAny_bind (wpAny_bind (wpAny_bind (wpAny_bind (wpAny_loadPart (k _ _ (X _ _ ho)) (wpAny_pure ?_)))))
  dsimp only
  rw[←Array.getElem?_toList,e1]
  exact wpAny_pure (wpAny_pure (wpAny_pure q))
structure IOc (K:Frag):Prop where
 c724:∃cd,clsIn K 724=some cd∧cd.bases=[.ref 247]∧cd.mro=[.ref 724,.ref 247,.ref 220,.type "object"]∧cd.slotNames=[]∧cd.abstract=false∧cd.hasDel=false∧cd.hasDict=true
 c247:∃cd,clsIn K 247=some cd∧cd.bases=[.ref 220]∧cd.mro=[.ref 247,.ref 220,.type "object"]∧cd.slotNames=[]
 c220:∃cd,clsIn K 220=some cd∧cd.bases=[.type "object"]∧cd.mro=[.ref 220,.type "object"]∧cd.slotNames=[]
 n724:a4n K 724 (.ref 247)=true
 n247:a4n K 247 (.ref 220)=true
 n220:a4n K 220 (.type "object")=true
section
variable {M:Model} {h:Heap}
theorem b8k:Builtin.Slots.slotNamesOf (.type "object")=pure []:=by kernel_rfl
theorem b9v (X:K.In h) (I:IOc K):Looks M h (Builtin.Slots.addsLayout (.ref 220)) false:=by
 obtain⟨cd,hc,hb,hm,hs⟩:=I.c220
 intro A Q E s k q
 unfold Builtin.Slots.addsLayout
 refine wpAny_bind (looks_clsIn X hc A _ E s k ?_)
 dsimp only
 rw[hb,hs]
 refine wpAny_bind ?_
 rw[forIn_cons]
 refine wpAny_bind (wpAny_bind (wpAny_of_eq b8k (wpAny_pure ?_)))
 exact wpAny_pure (a:=0) (wpAny_pure q)
theorem c2d (X:K.In h) (I:IOc K):Looks M h (Builtin.Slots.slotNamesOf (.ref 220)) []:=by
 obtain⟨cd,hc,hb,hm,hs⟩:=I.c220
 intro A Q E s k q
 refine wpAny_bind (looks_clsIn X hc A _ E s k (wpAny_pure ?_))
 rw[hs];exact q
theorem c7v (X:K.In h) (I:IOc K):Looks M h (Builtin.Slots.addsLayout (.ref 247)) false:=by
 obtain⟨cd,hc,hb,hm,hs⟩:=I.c247
 intro A Q E s k q
 unfold Builtin.Slots.addsLayout
 refine wpAny_bind (looks_clsIn X hc A _ E s k ?_)
 dsimp only
 rw[hb,hs]
 refine wpAny_bind ?_
 rw[forIn_cons]
 refine wpAny_bind (wpAny_bind (c2d X I A _ E s k (wpAny_pure ?_)))
 exact wpAny_pure (a:=0) (wpAny_pure q)
theorem a7a {s:Shared} {Q:Option Value×Unit→Shared→Prop} (h1:Q (some (.type "object"),()) s) (h2:Q (none,()) s):wpAny M A (forIn [Value.type "object"] ((none,()):Option Value×Unit) fun c __s=>do
      let __do_lift ←Builtin.Slots.addsLayout c
      if __do_lift=true then pure (ForInStep.done (some c,()))
       else
        match c with
        | Value.type n=>
         if((Manifest.find? n).elim false fun x=>x.ownLayout)=true then pure (ForInStep.done (some c,()))
         else pure (ForInStep.yield (none,()))
        | x=>pure (ForInStep.yield (none,()))) Q E s:=by
 rw[forIn_cons]
 refine wpAny_bind (wpAny_bind (wpAny_pure (a:=false) ?_))
 rw[if_neg (by decide)]
 dsimp only
 split
 ·exact wpAny_pure (wpAny_pure h1)
 ·refine wpAny_pure ?_
  exact wpAny_pure (a:=((none,()):Option Value×Unit)) h2
theorem c0t (X:K.In h) (I:IOc K):Looks M h (Builtin.Slots.solid (.ref 220)) (.type "object"):=by
 obtain⟨cd,hc,hb,hm,hs⟩:=I.c220
 intro A Q E s k q
 unfold Builtin.Slots.solid
 refine wpAny_bind (((looks_clsIn X hc).andThen .now:Looks M h (mroOf (.ref 220)) cd.mro) A _ E s k ?_)
 rw[hm,forIn_cons]
 refine wpAny_bind (wpAny_bind (wpAny_bind (b9v X I A _ E s k ?_)))
 rw[if_neg (by decide)]
 refine wpAny_pure ?_
 exact a7a (wpAny_pure q) (wpAny_pure q)
theorem c0s (X:K.In h) (I:IOc K):Looks M h (Builtin.Slots.solid (.ref 247)) (.type "object"):=by
 obtain⟨cd,hc,hb,hm,hs⟩:=I.c247
 intro A Q E s k q
 unfold Builtin.Slots.solid
 refine wpAny_bind (((looks_clsIn X hc).andThen .now:Looks M h (mroOf (.ref 247)) cd.mro) A _ E s k ?_)
 rw[hm,forIn_cons]
 refine wpAny_bind (wpAny_bind (wpAny_bind (c7v X I A _ E s k ?_)))
 rw[if_neg (by decide)]
 refine wpAny_pure ?_
 dsimp only
 rw[forIn_cons]
 refine wpAny_bind (wpAny_bind (b9v X I A _ E s k ?_))
 rw[if_neg (by decide)]
 refine wpAny_pure ?_
 exact a7a (wpAny_pure q) (wpAny_pure q)
theorem b0d {b r:Value} (hs:Looks M h (Builtin.Slots.solid b) r):Looks M h (Builtin.Slots.bestBase [b]) b:=by
 intro A Q E s k q
 unfold Builtin.Slots.bestBase
 dsimp only
 rw[forIn_cons]
 refine wpAny_bind (wpAny_bind (wpAny_bind (hs A _ E s k (wpAny_pure ?_))))
 exact wpAny_pure (a:=(some r,b)) (wpAny_pure q)
theorem a8y:mroOf (.type "object")=pure [.type "object"]:=by rw[mroOf_type];kernel_rfl
theorem b0j:Looks M h (Builtin.Slots.solid (.type "object")) (.type "object"):=by
 intro A Q E s k q
 unfold Builtin.Slots.solid
 refine wpAny_bind (wpAny_of_eq a8y (wpAny_bind ?_))
 exact a7a (wpAny_pure q) (wpAny_pure q)
theorem a7l:Bind.madeBy (.type "object")=pure (some "object.__new__"):=madeBy_type a8y (by rw[typeLookup_type,builtinLookup_eq_fast];kernel_rfl) (by decide +kernel)
theorem b7c (X:K.In h) (I:IOc K):Looks M h (Bind.staticBase (.ref 724)) (.type "object"):=by
 walk_at "c"
 rcases I.c724 with⟨cd7,hc7,hb7,hm7,_⟩
 rcases I.c247 with⟨cd4,hc4,hb4,_⟩
 rcases I.c220 with⟨cd2,hc2,hb2,_⟩
 walk_at "u"
 intro A Q E s k q
 unfold Bind.staticBase
 refine wpAny_bind (((looks_clsIn X hc7).andThen .now:Looks M h (mroOf (.ref 724)) cd7.mro) A _ E s k ?_)
 rw[hm7,forIn_cons]
 refine wpAny_bind (wpAny_bind (wpAny_bind (a5g X I.n724 A _ E s k ?_)))
 rw[if_neg (by decide)]
 refine wpAny_bind (looks_clsIn X hc7 A _ E s k ?_)
 rw[hb7]
 refine wpAny_bind (b0d (c0s X I) A _ E s k (wpAny_pure ?_))
 dsimp only
 rw[forIn_cons]
 refine wpAny_bind (wpAny_bind (a5g X I.n247 A _ E s k ?_))
 rw[if_neg (by decide)]
 refine wpAny_bind (looks_clsIn X hc4 A _ E s k ?_)
 rw[hb4]
 refine wpAny_bind (b0d (c0t X I) A _ E s k (wpAny_pure ?_))
 dsimp only
 rw[forIn_cons]
 refine wpAny_bind (wpAny_bind (a5g X I.n220 A _ E s k ?_))
 rw[if_neg (by decide)]
 refine wpAny_bind (looks_clsIn X hc2 A _ E s k ?_)
 rw[hb2]
 refine wpAny_bind (b0d b0j A _ E s k (wpAny_pure ?_))
 dsimp only
 rw[forIn_cons]
 refine wpAny_bind (wpAny_bind (wpAny_of_eq a7l ?_))
 rw[if_pos (by rfl)]
 exact wpAny_pure (wpAny_pure (wpAny_pure q))
end
end
section
theorem b4o {cd:ClassData} (hc:clsIn K C=some cd):∃oc od sl,K.lookup C=some ⟨oc,od,.cls cd,sl⟩:=by
 unfold clsIn at hc
 cases ho:K.lookup C with
 | none=>
  rw[ho]at hc
  cases hc
 | some o=>
  rw[ho]at hc
  obtain⟨oc,od,dt,sl⟩:=o
  cases dt <;> first | (cases hc;exact⟨_,_,_,rfl⟩) | cases hc
structure IOd (K:Frag):Prop where
 top:mroIn K 724 (.type "object")=some true
 self:mroIn K 724 (.ref 724)=some true
 typ:instIn K (.ref 724) (.type "type")=some true
section
variable {h:Heap} {g:Array GenState} {d:Drawn} {os:OsState}
theorem c9k (X:K.In h) (I:IOc K) (D:IOd K) (hq:R (.ok (.ret (.ref (h.objs.size+1)))) ⟨(h.push emptyDict).push (instObj 724 h.objs.size),g,d,t,os⟩):
  codeAny (model prog w) A (.call (.builtin "object.__new__") ⟨[.ref 724],[]⟩) R ⟨h,g,d,t,os⟩:=by
 obtain⟨cd,hc,hb,hm,hs,e1,e2,e3⟩:=I.c724
 obtain⟨oc,od,sl,hC⟩:∃oc od sl,h.get? 724=some ⟨oc,od,.cls cd,sl⟩:=let⟨oc,od,sl,e⟩:=b4o hc;⟨oc,od,sl,X _ _ e⟩
 have F:=PySem.F.objNew
 have base:=b7c (M:=model prog w) X I
 have made:Looks (model prog w) h (Bind.madeBy (.type "object")) (some "object.__new__"):=Looks.of_pure a7l
 have top:=looks_mroIn (M:=model prog w) X D.top
 have self:=looks_mroIn (M:=model prog w) X D.self
 have typ:=looks_instIn (M:=model prog w) X D.typ
 refine codeAny_call_builtin_code (Code.quiet_builtin _ F.quiet) ?_
 simp only[checkBuiltinCall,F.kind,F.split,F.row]
 have here:Looks (model prog w) h (Bind.madeHere "object.__new__" (.ref 724)) ():=base.andThen (made.andThen (Looks.of_pure (by simp only[Option.map_some,bne_self_eq_false,Bool.false_eq_true,if_false])))
 have args:Bind.checkArgs "object.__new__" ⟨.hand,"object.__new__","__new__",.cls,[]⟩ ⟨[.ref 724],[]⟩=pure ():=by kernel_rfl
 rw[args]
 repeat (first | simp only[bne_self_eq_false,Bool.false_eq_true,if_false] | lk)
 refine codeAny_builtin F.entry ?_
 unfold Builtin.«object.__new__»
 have fin:∀A',wpAny (model prog w) A' (do
   let d ←if typeHasDict (.ref 724)then some <$> alloc {cls:=.type "dict",data:=.dict #[]}else pure none
   ret (←newObj (.ref 724) .plain d)) (fun fin s'=>match fin with | .done f=>R (.ok f) s' | .again c'=>c'.quiet=true∧codeAny (model prog w) A c' R s') (fun e s'=>R (.error e) s') ⟨h,g,d,t,os⟩:=by
  intro A'
  show wpAny _ _ ((alloc emptyDict >>= fun x=>pure (some x)) >>= _) _ _ _
  refine wpAny_bind (wpAny_bind (wpAny_alloc (wpAny_pure (wpAny_bind ?_))))
  show wpAny _ _ (newObjAsIs _ _ _) _ _ _
  unfold newObjAsIs classHasDel
  refine wpAny_bind (wpAny_alloc (wpAny_bind (wpAny_bind (wpAny_load (get?_push_of_some _ (get?_push_of_some _ hC)) (wpAny_pure ?_)))))
  rw[e2]
  refine wpAny_pure (wpAny_pure ?_)
  show R _ _
  rw[size_push]
  exact hq
 repeat (first | simp only[e1,Bool.false_eq_true,if_false] | exact fin _ | lk)
end
structure GN (G:a1k):Prop where
 io:IOc G.K
 id:IOd G.K
 gB:G.glb "BytesIO"=some (some (.ref 477))
 gS:G.glb "StringIO"=some (some (.ref 724))
 gO:G.glb "object"=some none
 oB:∃o,G.objs 477=some o
 oS:∃o,G.objs 724=some o∧o.cls≠.type "tuple"
 fnN:FnS G 217 "IOBase.__new__" (a0q 16 1) .none
 find:findCls G.K (.type "object") (.type "type") "__new__"=some (.val (.builtin "object.__new__"))
section
variable {n:Nat}
theorem c2m (hN:GN G) {s:Shared} {dv:D} (rm:Rm A (n+1)) (T:TF G s.heap) (hm:∀b∈M,∃o,s.heap.get? b=some o) (hv:DR (vis s.heap M) v dv)
  (K:∀x dx s',Kp s s'→s.heap.get? x=none→s.heap.get? dx=none→x≠dx→s'.heap.get? x=some (instObj 724 dx)→s'.heap.get? dx=some emptyDict→Q (.ref x) s'):wpAny (model prog w) A (call (.ref 217) [.ref 724,v]) Q E s:=by
 have T':TF ⟨G.glb,G.K,[],false⟩ s.heap:=⟨T.g,T.b,T.lim,T.objs⟩
 refine wpAny_call (a6s (G:=⟨G.glb,G.K,[],false⟩) (n:=n) (args:=⟨[_,_],[]⟩) (ρ:=[("cls",.val (.ref 724)),("args",.tuple [dv]),("kwargs",.thing)]) ⟨hN.fnN.fn⟩ rm T' hm (fun name doc pm an cdv ct A' E' Q' h=>b6f hm (.val _) hv h) (fun x hx=>?_) (a0d ∅) (by decide +kernel) (a0d ∅) ?_ ∅ ∅ ∅)
 ·clear T' hv hm E Q dv M A
  rcases a0o hx with rfl | hx
  ·exact .inl ∅
  rcases a0o hx with rfl | hx
  ·exact .inl ∅
  ·rw[zS hx];exact .inl ∅
 intro L cd g0 hL t hW _
 walk_at "q"
 have rm':=rm.deeper (fnv "IOBase.__new__" (a0a (a0q 16 1)) L 217 cd)
 walk_at "c"
 clear hL g0 L T' hv hm rm E Q dv M A
 rcases hN.oB with⟨oB,hB⟩
 clear oB oB
 rcases hN.oS with⟨oS,hS,hSc⟩
 walk_at "u"
 refine a0e t rm' (b:=false) (Ts.and2 (a:=true) (b:=false) (Ts.cmp (.name (d:=.val (.ref 724)) ∅) (.glob ∅ hN.gB) (b8c (by decide) hS hB hSc)) (fun _=>Ts.cmp (.name (d:=.val (.ref 724)) ∅) (.glob ∅ hN.gS) b5l)) fun u0 z0=>?_
 walk_at "x"
 refine wpAny_Return_some (MethodCall_ (a1v z0.kind z0.glob z0.bi z0.top ∅ hN.gO (v:=.type "object") ∅ (by decide) ?_))
 have hst:Manifest.isStub "object"=false:=by decide +kernel
 have hto:typeOf (.type "object")=pure (.type "type"):=by kernel_rfl
 have hha:handedIn (.builtin "object.__new__")=true:=by decide +kernel
 refine b8p (T:="object") (name:="__new__") (v:=.builtin "object.__new__") z0.top.inK hto hst hN.find hha ?_
 have j1:=z0.keeps (Kp.tok u0 (u0.toks+1))
 refine Calls.callWith_builtin rfl (Calls.evalArgs_plain (Calls.spliced_cons ?_))
 clear hha hto hst z0 hSc hS oS hB rm' T v
 obtain⟨c,hcn,dc⟩:=j1.cd.vars "cls" (.val (.ref 724)) ∅
 clear c cd
 cases dc
 refine a1f j1.kind hcn (Calls.spliced_nil ?_)
 have kp:=t.endP rfl hW (Kp.refl _)
 have k3:=j1.kp.kp hW
 refine wpAny_call ?_
 clear kp dc hcn hW t
 obtain⟨hh,gg,dd,tt,oo⟩:=u0
 refine c9k (h:=hh) j1.top.inK hN.io hN.id ?_
 have hk:Hk s.heap hh:=k3.hk
 have fr:∀a,hh.objs.size≤a→s.heap.get? a=none:=fun a ha=>by
  clear oo tt dd gg j1 u0 hN
  cases e:s.heap.get? a with
  | none=>rfl
  | some o=>exact absurd (lt_size (hk a o e)) (Nat.not_lt.mpr ha)
 have g1:((hh.push emptyDict).push (instObj 724 hh.objs.size)).get? (hh.objs.size+1)=some (instObj 724 hh.objs.size):=by
  have:=get?_push_size (hh.push emptyDict) (o:=instObj 724 hh.objs.size) rfl
  rwa [size_push]at this
 have g2:((hh.push emptyDict).push (instObj 724 hh.objs.size)).get? hh.objs.size=some emptyDict:=get?_push_of_some _ (get?_push_size _ rfl)
 refine K _ _ _ (k3.trans ?_) (fr _ (Nat.le_succ _)) (fr _ (Nat.le_refl _)) (Nat.succ_ne_self _) g1 g2
 exact⟨_,_,rfl,(Hk.push _ _).trans (Hk.push _ _)⟩
end
end
section
structure GM (G:a1k):Prop where
 n:GN G
 call:specialIn G.K (.ref 724) "__call__"=some (some (.builtin "type.__call__"))
 reads:readsIn G.K 724 (.type "type")=true
 new:findCls G.K (.ref 724) (.type "type") "__new__"=some (.get (.builtin "staticmethod.__get__") (.ref 221) .none (.ref 724))
 sm:∃rest,recIn G.K 221 "staticmethod"=some (.ref 217::rest)
 init:a1m G.K 724 "__init__" 494
noncomputable abbrev tcA (A:Around) (args:Args):Around:=A.under (.builtin "type.__call__" args)
theorem Rm.tc {n:Nat} (r:Rm A (n+1)) (args:Args):Rm (tcA A args) n:=by
 have hf:(Code.builtin "type.__call__" args).frames=0:=by rfl
 have hw:(Code.builtin "type.__call__" args).weight≤1:=by
  unfold Code.weight
  rw[hf]
  have h1:(Code.builtin "type.__call__" args).isGuard=false:=by kernel_rfl
  have h2:(Code.builtin "type.__call__" args).isCaller=false:=by rfl
  rw[h1,h2]
  split <;> decide
 have hu:(Code.builtin "type.__call__" args).cUnits=1:=by unfold Code.cUnits;simp only[hf]
 refine⟨r.hd,?_,?_⟩
 ·show A.depth+(Code.builtin "type.__call__" args).weight+2 * n < 1000
  have:=r.dep;omega
 ·show A.units+(Code.builtin "type.__call__" args).cUnits+20 * n < 9900
  have:=r.un;omega
section
variable {n:Nat} {s:Shared} {dv:D}
theorem c6k (hM:GM G) (rm:Rm A (n+2)) (T:TF G s.heap) (hm:∀b∈M,∃o,s.heap.get? b=some o) (hv:DR (vis s.heap M) v dv)
  (K:∀x dx s',Kp s s'→s.heap.get? x=none→s.heap.get? dx=none→x≠dx→s'.heap.get? x=some (instObj 724 dx)→s'.heap.get? dx=some emptyDict→
   codeAny (model prog w) (tcA A ⟨[.ref 724,v],[]⟩) (.call (.ref 494) ⟨[.ref x,v],[]⟩) (InitBack x R) s'):
  codeAny (model prog w) A (.call (.ref 724) ⟨[v],[]⟩) R s:=by
 have X:=T.inK
 obtain⟨cd,hc,hb,hmr,hs,e1,e2,e3⟩:=hM.n.io.c724
 obtain⟨oc,od,sl,hC⟩:∃oc od sl,s.heap.get? 724=some ⟨oc,od,.cls cd,sl⟩:=let⟨oc,od,sl,e⟩:=b4o hc;⟨oc,od,sl,X _ _ e⟩
 have call:=looks_specialIn (M:=model prog w) X hM.call
 have typ:=looks_instIn (M:=model prog w) X hM.n.id.typ
 have made:=a5g (M:=model prog w) X hM.n.io.n724
 have mro:Looks (model prog w) s.heap (mroOf (.ref 724)) cd.mro:=(looks_clsIn X hc).andThen .now
 obtain⟨rest,hsm⟩:=hM.sm
 refine codeAny_of_tree ?_
 show wpAny _ _ (callAny (.ref 724) _) _ _ _
 unfold callAny
 refine wpAny_bind (wpAny_load hC ?_)
 show wpAny _ _ (callAny.viaDunder (.ref 724) _) _ _ _
 unfold callAny.viaDunder
 refine wpAny_bind (call.at ?_)
 dsimp only
 rw[tc_bind]
 refine wpAny_bind (wpAny_pure (wpAny_bind (wpAny_pure ?_)))
 refine wpAny_pure (a:=Fin.again (.call (.builtin "type.__call__") ⟨[.ref 724,v],[]⟩)) (And.intro rfl ?_)
 refine codeAny_call_builtin_at (Code.quiet_builtin _ (by decide +kernel)) entry_typeCall (check_slot tc_kind tc_split typ (tc_args _ _ _) ?_)
 show wpAny _ _ (mroOf (.ref 724) >>= _) _ _ _
 refine wpAny_bind (mro.here ?_)
 rw[hmr]
 show wpAny _ _ (Bind.madeBy (.ref 724) >>= _) _ _ _
 refine wpAny_bind (made.here ?_)
 refine wpAny_bind (m:=getAttr (.ref 724) "__new__") ?_
 refine cls_bind X hM.reads hM.new (wpAny_call (sm_get (s:={s with toks:=s.toks+1}) X hsm (handed_on rfl ?_)))
 refine wpAny_bind (wpAny_holding ?_)
 have k1:Kp s {s with toks:=s.toks+1}:=Kp.tok _ _
 refine c2m (n:=n) hM.n (rm.tc _) (T.keeps k1.hk) hm hv fun x dx s' k' hx hdx hne ex edx=>?_
 have T':=(T.keeps k1.hk).keeps k'.hk
 have t1:Looks (model prog w) s'.heap (typeOf (.ref x)) (.ref 724):=(Looks.ld ex).andThen .now
 have self:Looks (model prog w) s'.heap (isSubtype (.ref 724) (.ref 724)) true:=looks_mroIn T'.inK hM.n.id.self
 have i1:Looks (model prog w) s'.heap (typeLookup (.ref 724) "__init__") (some (.ref 494)):=looks_findIn T'.inK hM.init.find
 have b1:Looks (model prog w) s'.heap (bindSpecial (.ref 494) (.ref x)) (.ref 494,[.ref x]):=bind_fn T'.inK _ hM.init.fn
 unfold isInstance callSpecial? specialOf
 repeat (first | with_reducible refine wpAny_call ?_ | lk)
 refine codeAny_mono (K x dx s' (k1.trans k') hx hdx hne ex edx) fun r s' z=>?_
 rcases r with e | (v | _ | _ | _) <;> first | exact z | exact z.elim | skip
 obtain⟨rfl,z⟩:=z
 exact wpAny_pure (wpAny_pure z)
end
end
section
noncomputable def a3a:Ob→Bool
 | .list ds=>ds.all a2l
 | .ns l=>l.all fun x=>a2l x.2
 | .slots _ l=>l.all fun x=>x.all a2l
 | .raw _=>true
theorem DRs.flat (h:DRs P vs ds):ds.all a2l=true→DRs P' vs ds:=
 h.ind (p:=fun vs ds=>ds.all a2l=true→DRs P' vs ds) (fun _=>.nil) fun a _ b hf=>have hf:=Bool.and_eq_true_iff.mp hf;.cons (a.flat hf.1) (b hf.2)
theorem OsR.flat {vs:List (Option Value)} {ds:List (Option D)} (h:OsR P vs ds):(ds.all fun x=>x.all a2l)=true→OsR P' vs ds:=by
 induction h with
 | nil=>exact fun _=>.nil
 | none _ ih=>exact fun hf=>.none (ih (by simpa using hf))
 | some h _ ih=>
  intro hf
  rw[all_cons,Bool.and_eq_true]at hf
  exact .some (h.flat hf.1) (ih hf.2)
theorem ObR.flatA {b:Ob} (h:ObR P o b) (hf:a3a b=true):ObR P' o b:=by
 cases b with
 | list _=>exact h.imp fun _ h=>h.imp fun _ h=>⟨h.1,h.2.flat hf⟩
 | ns _=>exact ObR.flat h hf
 | slots _ _=>exact h.imp fun _ h=>⟨h.1,h.2.flat hf⟩
 | raw _=>exact h
noncomputable def b6j (h:Heap) (ol:List (Addr×Ob)):Prop:=∀p∈ol,a3a p.2=true∧∃o,h.get? p.1=some o∧ObR (fun _=>none) o p.2
theorem b6j.nil {h:Heap}:b6j h []:=fun p hp=>absurd hp not_mem_nil
theorem b6j.cons {h:Heap} {p:Addr×Ob} (h1:a3a p.2=true) (e:h.get? p.1=some o) (r:ObR P o p.2) (h2:b6j h ol):b6j h (p::ol):=fun q hq=>by
 rcases a0o hq with rfl | hq
 ·exact⟨h1,o,e,r.flatA h1⟩
 ·exact h2 q hq
section
variable {n:Nat} {s:Shared}
theorem Stt.told (t:Stt G H env own W i0 ρ ol j0 s) (h:ol.all (fun p=>a3a p.2)=true):b6j s.heap ol:=fun p hp=>by
 have hf:=all_eq_true.mp h p hp
 obtain⟨_,_,o,e,r⟩:=t.ls p hp
 exact⟨hf,o,e,r.flatA hf⟩
theorem Stt.after (t:Stt G H env own W i0 ρ (ol++r) j0 s) (k:Kw G.gen (ol.map (·.1)) s s') (h:b6j s'.heap ol') (hk:∀p∈ol',p.1∈ol.map (·.1)∨s.heap.get? p.1=none) (hs:∀b∈ol.map (·.1),∃o,s'.heap.get? b=some o) (hn:(ol'.map (·.1)).Nodup):
  ∃N,(∀b∈N,s.heap.get? b=none)∧Stt G H env own (N++W) i0 ρ (ol'++r) j0 s':=by
 have hol:∀b∈ol.map (·.1),b∈W∧b∉fms env own:=fun b hb=>by
  walk_at "c"
  rcases zM hb with⟨p,hp,e⟩
  have e':p.1=b:=e
  rcases t.ls p (zB (.inl hp))with⟨a1,a2,_⟩
  walk_at "u"
  exact e'▸⟨a1,a2⟩
 have hLW:env.locals∉ol.map (·.1):=fun hm=>(hol _ hm).2 (.head _)
 have hno:∀p∈r,p.1∉ol.map (·.1):=fun p hp hm=>by
  have:=t.lsn
  rw[map_append,nodup_append]at this
  exact this.2.2 p.1 hm p.1 (zN ⟨p,hp,rfl⟩) rfl
 refine⟨(ol'.map (·.1)).filter fun b=>(s.heap.get? b).isNone,fun b hb=>by simpa using (mem_filter.mp hb).2,?_⟩
 refine t.flew (W₁:=ol.map (·.1)) (F:=[]) (k.kx fun b hb=>by rw[zS hb];exact hLW) (fun b hb=>by cases hb) hol hs (fun b hb=>?_) (fun p hp=>?_) ?_
 ·obtain⟨h1,h2⟩:=mem_filter.mp hb
  walk_at "c"
  rcases zM h1 with⟨p,hp,e⟩
  have e':p.1=b:=e
  rcases h p hp with⟨_,o,eo,_⟩
  walk_at "u"
  exact⟨by simpa using h2,o,e'▸eo⟩
 ·rcases zA hp with hp | hp
  ·obtain⟨hf,o,eo,ro⟩:=h p hp
   refine .inr ⟨?_,o,eo,ro.flatA hf⟩
   rcases hk p hp with h1 | h1
   ·exact .inl (hol _ h1)
   ·exact .inr (mem_filter.mpr ⟨zN ⟨p,hp,rfl⟩,by simpa using h1⟩)
  ·exact .inl ⟨zB (.inr hp),hno p hp⟩
 ·have:=t.lsn
  rw[map_append,nodup_append]at this ⊢
  refine⟨hn,this.2.1,fun a ha b hb e=>?_⟩
  subst e
  walk_at "c"
  rcases zM ha with⟨p,hp,e⟩
  have e':p.1=a:=e
  rcases zM hb with⟨q,hq,eq⟩
  walk_at "u"
  have eq':q.1=a:=eq
  rcases hk p hp with h1 | h1
  ·exact this.2.2 a (e'▸h1) a hb rfl
  ·obtain⟨_,_,o,eo,_⟩:=t.ls q (zB (.inr hq))
   rw[eq',←e',h1]at eo;cases eo
theorem Stt.kwEnd {X:List Addr} (wd:Wd G H i0 ol s) (t:Stt G H env own W i0 ρ ol' s s') (hW:∀b∈W,s.heap.get? b=none∨b∈X∨∃o,(b,Ob.raw (· =o))∈ol∧(b,Ob.raw (· =o))∈ol'):Kw G.gen X s s':=by
 refine⟨fun c o hc e=>?_,t.kp.2⟩
 clear X X
 by_cases hm:c∈W
 ·rcases hW c hm with h | h | ⟨ox,m1,m2⟩
  ·exact nsn h e
  ·exact absurd h hc
  ·clear h hW
   obtain⟨_,_,o1,e1,h1⟩:=wd.ls _ m1
   clear m1 wd
   obtain⟨_,_,o2,e2,h2⟩:=t.ls _ m2
   have h1':o1=ox:=h1
   have h2':o2=ox:=h2
   rw[show s.heap.get? c=some o1 from e1]at e
   clear h2 h1 e1 o1 m2 ox
   cases(e)
   show s'.heap.get? c=some o
   rw[show s'.heap.get? c=some o2 from e2,h2',h1']
 ·exact t.kp.1 c o hm e
theorem b4u {Q:Flow→Shared→Prop} {x:Str} {e:Expr} {d:D} (t:Stt G j0.heap env own W i0 ρ [] j0 s) (hob:Obs (vis j0.heap i0) j0.heap ob) (hW:∀b∈W,j0.heap.get? b=none) (rm:Rm A n) (h:Ev prog w (G.at ob) n env ρ e d)
  (hx:Lo env own x) (hs:swapsWith e (some (.Name x px)) pos.line env=pure false) (K:∀s',Stt G j0.heap env own W i0 ((x,d)::ρ) [] j0 s'→Q .next s'):
  wpAny (model prog w) A (exec (.Assign [.Name x px] e pos) env) Q E s:=
 wpAny_Assign_Name (h A _ s _ E rm (t.cdOb hob hW) fun v g0 l0 dv=>(t.keeps l0).put hx dv fun s' t' _=>K s' t') hs
end
inductive d0c (prog:Program) (w:World) (G:a1k) (n:Nat) (env:Env) (ρ:List (Str×D)):List Expr→Prop
 | stop {e:Expr} {es:List Expr}:Ts prog w G n env ρ e false→d0c prog w G n env ρ (e::es)
 | go {e:Expr} {es:List Expr}:Ts prog w G n env ρ e true→d0c prog w G n env ρ es→d0c prog w G n env ρ (e::es)
theorem Ts.andF {n:Nat} {p:Pos} (h:d0c prog w G n env ρ es):Ts prog w G n env ρ (.BoolOp .And es p) false:=fun A M s Q E rm c K=>by
 refine wpAny_isTrue_BoolOp ?_
 have key:∀{es:List Expr},d0c prog w G n env ρ es→∀{s:Shared},Cd G env M ρ s→(∀s',Kp s s'→Q false s')→wpAny (model prog w) A (allTrue .And es env) Q E s:=by
  intro es h
  induction h with
  | stop h=>exact fun c K=>wpAny_allTrue_And_cons (h A M _ _ E rm c fun g0 l0=>K g0 l0)
  | go h _ ih=>exact fun c K=>wpAny_allTrue_And_cons (h A M _ _ E rm c fun g0 l0=>ih (c.keeps l0) fun s' k'=>K s' (l0.trans k'))
 exact key h c K
end
section
structure GS (G:a1k):Prop where
 m:GM G
 i:GI G
 init:FnS G 494 "StringIO.__init__" (a0q 20 1) (.ref 487)
 d487:∃t1 t2,G.objs 487=some {cls:=.type "tuple",data:=.seq #[.str "" t1,.str "\n" t2] 0}
 tr:FnS G 501 "StringIO.__translated" (a0q 20 2) .none
 mTr:a1m G.K 724 "_StringIO__translated" 501
section
variable {n:Nat}
theorem c0i (hS:GS G) {s:Shared} {x:Addr} {l:List (Str×D)} {b:Str} (rm:Rm A (n+1)) (T:TF G s.heap) (hm:∀b∈M,∃o,s.heap.get? b=some o) (hob:Obs (vis s.heap M) s.heap ob) (hx:(x,a0r 724 dx)∈ob) (hd:(dx,.ns l)∈ob) (hl:l.lookup ("_StringIO__newline":Str)=some (.str "\n"))
  (K:∀v s',Kp s s'→(∀P,DR P v (.str b))→Q v s'):wpAny (model prog w) A (call (.ref 501) [.ref x,.str b t1]) Q E s:=by
 have T':TF ⟨G.glb,G.K,[],false⟩ s.heap:=⟨T.g,T.b,T.lim,T.objs⟩
 refine a0u (G:=⟨G.glb,G.K,[],false⟩) (n:=n) (args:=⟨[_,_],[]⟩) (ρ:=[("self",_),("s",_)]) (binds:=[("self",_),("s",_)]) ⟨hS.tr.fn⟩ rm T' hm (fun name doc pm an cdv ct=>BindsTo.of_eq rfl) rfl (.cons (.val (.ref x)) (.cons (.str b t1) .nil)) (fun x hx=>by
   rcases a0o hx with rfl | hx
   ·exact .inl ∅
   ·rw[zS hx];exact .inl ∅) (a0d ∅) (by decide +kernel) (a0d ∅) ?_ ∅ ∅ ∅
 intro L cd g0 hL t hW
 walk_at "q"
 have rm':=rm.deeper (fnv "StringIO.__translated" (a0a (a0q 20 2)) L 501 cd)
 walk_at "x"
 refine b4u (d:=.str "\n") t hob hW rm' (.attr (G:=a1k.at ⟨G.glb,G.K,[],false⟩ ob) (.name (d:=.val (.ref x)) ∅) hx hd hS.i.cls (hS.i.attr _ (by decide)) hl) (.inl ∅) ∅ fun u0 z0=>?_
 refine a0e z0 rm' (b:=false) (Ts.cmp (.name (d:=.str "\n") ∅) .noneC (a0w fun v e=>by cases e)) fun y2 j1=>?_
 refine a0e j1 rm' (b:=false) (Ts.bool (Ts.or2 (Ts.cmp (.name (d:=.str "\n") ∅) .str a2s) (fun _=>Ts.cmp (.name (d:=.str "\n") ∅) .str a2s)) (by decide +kernel)) fun l3 z1=>?_
 walk_at "x"
 refine a2q z1 rm' (d:=.str b) (.name ∅) hW (fun v s' k' dv=>K v s' k' fun P=>by cases dv;exact .str _ _) rfl
theorem c0w (hS:GS G) {s:Shared} {x:Addr} {b:Str} (rm:Rm A (n+2)) (wd:Wd G H M [(dx,.ns []),(x,a0r 724 dx)] s)
  (K:∀s',Kw G.gen [dx] s s'→b6j s'.heap [(dx,.ns (a3p b 0))]→R (.ok (.ret .none)) s'):codeAny (model prog w) A (.call (.ref 494) ⟨[.ref x,.str b t1],[]⟩) R s:=by
 obtain⟨td,td',hdef⟩:=hS.d487
 refine a5y (n:=n+1) (args:=⟨[_,_],[]⟩) (ρ:=[("self",_),("initial_value",_),("newline",_)]) (binds:=[("self",_),("initial_value",_),("newline",_)]) hS.init rm wd.top wd.mem (fun name doc pm an cdv ct=>BindsTo.of_defaults (T:=487) rfl (wd.top.objs _ _ hdef) rfl rfl rfl) rfl (.cons (.val (.ref x)) (.cons (.str b t1) (.cons (.str "\n" td') .nil))) (fun x hx=>by
   rcases a0o hx with rfl | hx
   ·exact .inl ∅
   rcases a0o hx with rfl | hx
   ·exact .inl ∅
   ·rw[zS hx];exact .inl ∅) (a0d ∅) (by decide +kernel) (a0d ∅) ?_ ∅ ∅ ∅
 intro L cd g0 hL t hW _
 walk_at "q"
 have w0:=t.openX wd hW
 have hg:=hS.i.glb
 have rm':=rm.deeper (fnv "StringIO.__init__" (a0a (a0q 20 1)) L 494 cd)
 refine a0e w0 rm' (b:=false) (.andF (.go (Ts.cmp (.name (d:=.str "\n") ∅) .noneC (a1d fun v e=>by cases e)) (.stop (Ts.cmp (.callT ∅ (hg _ _ ∅) ∅ (by decide) (.one (.name (d:=.str "\n") ∅)) b3z) (.blt ∅ (hg _ _ ∅) (v:=.type "str") ∅ (by decide)) (a7g (by rfl)))))) fun u0 z0=>?_
 refine a0e z0 rm' (b:=false) (.andF (.go (Ts.cmp (.name (d:=.str "\n") ∅) .noneC (a1d fun v e=>by cases e)) (.go (Ts.bool (Ts.cmp (.name (d:=.str "\n") ∅) .str c3u) (by decide +kernel)) (.stop (Ts.bool (Ts.cmp (.name (d:=.str "\n") ∅) .str c3u) (by decide +kernel)))))) fun y2 j1=>?_
 refine a0e j1 rm' (b:=false) (.andF (.go (Ts.cmp (.name (d:=.str b) ∅) .noneC (a1d fun v e=>by cases e)) (.stop (Ts.cmp (.callT ∅ (hg _ _ ∅) ∅ (by decide) (.one (.name (d:=.str b) ∅)) b3z) (.blt ∅ (hg _ _ ∅) (v:=.type "str") ∅ (by decide)) (a7g (by rfl)))))) fun l3 z1=>?_
 refine a5f z1 rm' (.head _) hS.i.cls (hS.i.attr _ (by decide)) (.name (d:=.val (.ref x)) ∅) (.name (d:=.str "\n") ∅) ?_ (by decide) ∅
 intro y3 u1
 refine a5f u1 rm' (.head _) hS.i.cls (hS.i.attr _ (by decide)) (.name (d:=.val (.ref x)) ∅) .str ?_ (by decide) ∅
 intro i5 z2
 refine a5f z2 rm' (.head _) hS.i.cls (hS.i.attr _ (by decide)) (.name (d:=.val (.ref x)) ∅) .int ?_ (by decide) ∅
 intro i4 j3
 refine a0e j3 rm' (b:=true) (Ts.cmp (.name (d:=.str b) ∅) .noneC (a1d fun v e=>by cases e)) fun d6 z3=>?_
 walk_at "x"
 obtain⟨oc,fdc,hoc,hdc⟩:=hS.tr.obj
 refine plainObj_wpAny_Assign_Attribute (a5i (G:=G.at _) (n:=n+1) rm' z3.cd (.name (d:=.val (.ref x)) ∅) (.tail _ (.head _)) (.head _) hS.i.cls hS.mTr ∅ hoc hdc (.one (.name (d:=.str b) ∅)) (by simp) fun vs j6 pB dvs=>?_) ∅
 cases dvs with
 | cons d0 d1=>
 cases d1
 cases d0
 have w4:=z3.keeps pB
 refine c0i (n:=n) (b:=b) (ob:=[(dx,_),(x,a0r 724 dx)]) hS rm' w4.top w4.mem w4.cd.obs (.tail _ (.head _)) (.head _) ∅ fun v a6 z7 dv=>?_
 have d5:=w4.keeps z7
 refine(Ev.name (G:=G.at _) (n:=n+1) (d:=.val (.ref x)) ∅) _ _ _ _ _ rm' d5.cd fun ov v6 xC dov=>?_
 cases dov
 refine(d5.keeps xC).setA (.head _) hS.i.cls (hS.i.attr _ (by decide)) (by decide) (dv _) fun j7 z5 _=>?_
 refine wpAny_execs_nil ?_
 have l5:Stt G H _ _ _ M _ [(dx,.ns (a3p b 0)),(x,a0r 724 dx)] s j7:=z5
 obtain⟨_,_,o,eo,ho⟩:=l5.ls _ (.head _)
 refine K j7 (l5.kwEnd wd fun c hc=>?_) (.cons rfl eo ho .nil)
 rcases zA hc with hc | hc
 ·exact .inl (hW c hc)
 ·rcases zC hc with h | h
  ·exact .inr (.inl (by rw[h];exact .head _))
  ·rw[zS h];exact .inr (.inr ⟨_,.tail _ (.head _),.tail _ (.head _)⟩)
end
end
section
section
variable {n:Nat} {s:Shared}
theorem Wd.new (wd:Wd G H M [] s) (k:Kp s s') (hn:(ol.map (·.1)).Nodup) (h:∀p∈ol,s.heap.get? p.1=none∧Hit (vis s'.heap (ol.map (·.1)++M)) s'.heap p):Wd G H (ol.map (·.1)++M) ol s':=by
 have wd':=wd.keeps k
 refine⟨wd'.tH,wd'.kH,fun b hb=>?_,fun p hp=>?_,hn⟩
 ·rcases zA hb with hb | hb
  ·obtain⟨p,hp,e⟩:=zM hb
   obtain⟨_,o,eo,_⟩:=h p hp
   exact⟨o,e▸eo⟩
  ·exact wd'.mem b hb
 ·obtain⟨h1,o,eo,r⟩:=h p hp
  refine⟨zB (.inl (zN ⟨p,hp,rfl⟩)),?_,o,eo,r⟩
  cases e:H.get? p.1 with
  | none=>rfl
  | some o=>exact nsn h1 (wd.kH _ _ e)
theorem c5f (hS:GS G) {b:Str} (rm:Rm A (n+4)) (wd:Wd G H M [] s)
  (K:∀x dx s',Kw G.gen [] s s'→s.heap.get? x=none→s.heap.get? dx=none→x≠dx→b6j s'.heap [(dx,.ns (a3p b 0)),(x,a0r 724 dx)]→Q (.ref x) s'):wpAny (model prog w) A (call (.ref 724) [.str b t1]) Q E s:=by
 refine wpAny_call (c6k (n:=n+2) hS.m rm wd.top wd.mem (.str b t1) fun x dx g0 l0 hx hdx hne ex edx=>?_)
 have w5:=wd.new (ol:=[(dx,.ns []),(x,a0r 724 dx)]) l0 (by simp[Ne.symm hne]) (fun p hp=>by
  rcases a0o hp with rfl | hp
  ·exact⟨hdx,_,edx,[],0,rfl,.nil⟩
  ·rw[zS hp];exact⟨hx,_,ex,rfl⟩)
 refine c0w (n:=n+1) (b:=b) (x:=x) (dx:=dx) hS (rm.tc (n:=n+3) _) w5 fun u0 y1 td=>?_
 refine⟨rfl,K x dx u0 ⟨fun c o _ e=>y1.1 c o (fun hm=>?_) (l0.hk c o e),?_⟩ hx hdx hne ?_⟩
 ·rw[zS hm,hdx]at e;cases e
 ·have k:=(l0.kw (fl:=G.gen) (W:=[])).2
  exact⟨k.1.trans y1.2.1,y1.2.2.1.trans k.2.1,y1.2.2.2.trans k.2.2⟩
 ·obtain⟨h1,o,e,r⟩:=td _ (.head _)
  exact .cons h1 e r (.cons (P:=fun _=>none) rfl (y1.1 x _ (by simpa using hne) ex) rfl .nil)
end
end
section
section
variable {n:Nat} {s:Shared}
theorem Stt.openW (t:Stt G j0.heap env own W i0 ρ [] j0 s) (x:Wd G H i0 ol j0) (hW:∀b∈W,j0.heap.get? b=none):∃W',Stt G H env own W' i0 ρ ol j0 s∧∀b∈W',j0.heap.get? b=none∨b∈ol.map (·.1):=
 ⟨_,t.openX x hW,fun b hb=>(zA hb).imp (hW b) id⟩
theorem a1b {Q:Flow→Shared→Prop} {x:Addr} {l l':List (Str×D)} {attr y:Str} {e:Expr} {d:D} {rest:List Stmt} (t:Stt G H env own W i0 ρ ((dx,.ns l)::ol) j0 s) (rm:Rm A n) (hx:(x,Ob.raw (· =instObj C dx))∈ol) (ck:a3f G.K C) (ha:a3c G.K C attr)
  (hy:ρ.lookup y=some (.val (.ref x))) (h:Ev prog w (G.at ((dx,.ns l)::ol)) n env ρ e d) (hp:b7r attr d l=l') (K:∀s',Stt G H env own W i0 ρ ((dx,.ns l')::ol) j0 s'→wpAny (model prog w) A (execs rest env) Q E s')
  (hl:l.length≤900:=by first | decide | exact Nat.le_trans (List.length_take_le _ _) (by decide)) (hs:swapsWith e (some (.Attribute (.Name y yp) attr ap)) pos.line env=pure false:=by kernel_rfl) (h1:(y == ("__debug__":Str))=false:=by decide) (h2:(y == ("__classdict__":Str))=false:=by decide):
  wpAny (model prog w) A (execs (.Assign [.Attribute (.Name y yp) attr ap] e pos::rest) env) Q E s:=by
 subst hp
 exact wpAny_execs_cons (b6r t rm hx ck ha (.name hy h1 h2) h K hl hs)
theorem Ev.self {x:Addr} {l:List (Str×D)} {attr y:Str} {d:D} (hy:ρ.lookup y=some (.val (.ref x))) (hx:(x,Ob.raw (· =instObj C dx))∈ol) (ck:a3f G.K C) (ha:a3c G.K C attr) (hl:l.lookup attr=some d) (hh:b1l d=true:=by rfl) (h1:(y == ("__debug__":Str))=false:=by decide) (h2:(y == ("__classdict__":Str))=false:=by decide)
  (he:eval (.Attribute (.Name y yp) attr pos) env=(do
   let o ←eval (.Name y yp) env
   standAt pos.atName
   let r ←holding [o] (getAttr o attr true)
   letTemporaryGo (.Name y yp) o r
   pure r):=by with_unfolding_all rfl):Ev prog w (G.at ((dx,.ns l)::ol)) n env ρ (.Attribute (.Name y yp) attr pos) d:=
 .attr (.name hy h1 h2) (.tail _ hx) (.head _) ck ha hl hh he
theorem b2c {Q:Flow→Shared→Prop} {rest:List Stmt} {b:Bool} (t:Stt G H env own W i0 ρ ol j0 s) (rm:Rm A n) (h:Ts prog w (G.at ol) n env ρ test b)
  (K:∀s',Stt G H env own W i0 ρ ol j0 s'→wpAny (model prog w) A (execs (if b then body else orelse) env) (fun f s''=>match f with | .next=>wpAny (model prog w) A (execs rest env) Q E s'' | f=>Q f s'') E s'):
  wpAny (model prog w) A (execs (.If test body orelse pos::rest) env) Q E s:=wpAny_execs_cons (a9f t rm h fun s' t'=>by cases b <;> exact K s' t')
theorem a4u {Q:Flow→Shared→Prop} {rest:List Stmt} (t:Stt G H env own W i0 ρ ol j0 s) (rm:Rm A n) (h:Ts prog w (G.at ol) n env ρ test false)
  (K:∀s',Stt G H env own W i0 ρ ol j0 s'→wpAny (model prog w) A (execs rest env) Q E s'):wpAny (model prog w) A (execs (.If test body [] pos::rest) env) Q E s:=b2c t rm h fun s' t'=>wpAny_execs_nil (K s' t')
theorem a8m {Q:Flow→Shared→Prop} {rest:List Stmt} (t:Stt G H env own W i0 ρ ol j0 s) (rm:Rm A n) (h:Ts prog w (G.at ol) n env ρ test true)
  (K:∀s',Stt G H env own W i0 ρ ol j0 s'→wpAny (model prog w) A (execs body env) (fun f s''=>match f with | .next=>wpAny (model prog w) A (execs rest env) Q E s'' | f=>Q f s'') E s'):
  wpAny (model prog w) A (execs (.If test body orelse pos::rest) env) Q E s:=b2c t rm h K
theorem a6y {Q:Flow→Shared→Prop} {x:Str} {e:Expr} {d:D} {rest:List Stmt} (t:Stt G H env own W i0 ρ ol j0 s) (rm:Rm A n) (h:Ev prog w (G.at ol) n env ρ e d) (K:∀s',Stt G H env own W i0 ((x,d)::ρ) ol j0 s'→wpAny (model prog w) A (execs rest env) Q E s')
  (hx:env.kindOf x=some .local:=by kernel_rfl) (hs:swapsWith e (some (.Name x px)) pos.line env=pure false:=by kernel_rfl):wpAny (model prog w) A (execs (.Assign [.Name x px] e pos::rest) env) Q E s:=
 wpAny_execs_cons (a1w t rm h (.inl hx) hs K)
theorem a5e {Q:Flow→Shared→Prop} {x:Addr} {l:List (Str×D)} {lf:Addr→List (Str×D)} {attr y:Str} {e:Expr} {rest:List Stmt} {ob:Ob} (t:Stt G H env own W i0 ρ ((dx,.ns l)::ol) j0 s) (rm:Rm A n) (hx:(x,Ob.raw (· =instObj C dx))∈ol) (ck:a3f G.K C) (ha:a3c G.K C attr)
  (hy:ρ.lookup y=some (.val (.ref x)))
  (h:∀(Q:Value→Shared→Prop),(∀a s',Kp s s'→s.heap.get? a=none→(∃o,s'.heap.get? a=some o∧ObR (fun _=>none) o ob)→Q (.ref a) s')→wpAny (model prog w) A (eval e env) Q E s) (hf:a3a ob=true)
  (hp:∀a,b7r attr (.val (.ref a)) l=lf a) (K:∀a s',s.heap.get? a=none→Stt G H env own (a::W) i0 ρ ((dx,.ns (lf a))::(a,ob)::ol) j0 s'→wpAny (model prog w) A (execs rest env) Q E s')
  (hl:l.length≤900:=by first | decide | exact Nat.le_trans (List.length_take_le _ _) (by decide)) (hs:swapsWith e (some (.Attribute (.Name y yp) attr ap)) pos.line env=pure false:=by kernel_rfl) (h1:(y == ("__debug__":Str))=false:=by decide) (h2:(y == ("__classdict__":Str))=false:=by decide):
  wpAny (model prog w) A (execs (.Assign [.Attribute (.Name y yp) attr ap] e pos::rest) env) Q E s:=by
 walk_at "x"
 refine plainObj_wpAny_Assign_Attribute (h _ fun a g0 l0 hn ho=>?_) hs
 obtain⟨o,eo,ho⟩:=ho
 have w0:=(t.own1 l0 hn eo (ho.flatA hf)).swap
 refine(Ev.name (d:=.val (.ref x)) hy h1 h2:Ev prog w (G.at _) n env ρ _ _) A _ g0 _ E rm w0.cd fun ov u0 y1 dov=>?_
 cases dov
 refine(w0.keeps y1).setA (.tail _ hx) ck ha hl (.val _) fun s' t' _=>?_
 rw[hp]at t'
 exact K a s' hn t'
end
end
section
noncomputable def wc0:Str:="abcdfeghijklmnopqrstuvwxyzABCDEFGHIJKLMNOPQRSTUVWXYZ0123456789_"
noncomputable def a8g (xS q1 q2:Addr) (wc:Str):List (Str×D):=[("instream",.val (.ref xS)),("infile",.none),("posix",.bool true),("eof",.none),("commenters",.str "#"),("wordchars",.str wc),("whitespace",.str " \t\r\n"),("whitespace_split",.bool false),("quotes",.str "'\""),("escape",.str "\\"),("escapedquotes",.str "\""),("state",.str " "),
 ("pushback",.val (.ref q1)),("lineno",.int 1),("debug",.int 0),("token",.str ""),("filestack",.val (.ref q2)),("source",.none),("_punctuation_chars",.str "")]
noncomputable def c7z (dx x xS dS q1 q2:Addr) (b:Str):List (Addr×Ob):=[(dx,.ns (a8g xS q1 q2 wcS)),(x,a0r 859 dx),(dS,.ns (a3p b 0)),(xS,a0r 724 dS),(q1,.raw (· =a3v)),(q2,.raw (· =a3v))]
structure GC (G:a1k):Prop where
 s:GS G
 h:GH G
 init:FnS G 783 "shlex.__init__" (a0q 30 0) (.ref 776)
 d776:G.objs 776=some {cls:=.type "tuple",data:=.seq #[.none,.none,.bool false,.bool false] 0}
 gS:G.glb "StringIO"=some (some (.ref 724))
 keep:keepIn G.K (.ref 724)=true
 gD:G.glb "deque"=some (some (.type "collections.deque"))
section
variable {n:Nat}
theorem Ev.callB2 {x:Str} {id:String} {e1 e2:Expr} {np p:Pos} {d2 d:D} (hx:env.kindOf x=some .globalImplicit) (hg:G.glb x=some none) (hv:bootBuiltins x=some (.builtin id)) (hn:x≠"__name__") (h:EvL prog w G n env ρ [e1,e2] [d1,d2])
  (op:Op2 prog w G n (fun a b=>call (.builtin id) [a,b]) d1 d2 d) (hd:(x == ("__debug__":Str))=false:=by decide):Ev prog w G n env ρ (.Call (.Name x np) [e1,e2] [] p) d:=
 fun A M s Q E rm c K=>wpAny_Call_NameR (a1v c.kind c.glob c.bi c.top hx hg hv hn (by
  have hp:=h.plain (pos:=p)
  have h':=h
  cases h with
  | cons h he r=>
   refine Calls.callWith_builtin hp ?_
   rw[he]
   refine Calls.evalArgs_plain ?_
   show wpAny _ _ (spliced (backTo p ((false,eval e1 env)::starEach [e2] env))) _ _ _
   rw[←he]
   refine EvL.go rm h' c fun vs g0 l0 dv=>?_
   cases dv with
   | cons a r=>cases r with
    | cons b r=>
     cases r
     exact op A M g0 _ _ _ E rm (c.keeps l0).top (c.keeps l0).mem a b fun v s' k' dv=>K v s' (l0.trans k') dv) hd)
theorem c2j (hC:GC G) {s:Shared} {x:Addr} {b:Str} (rm:Rm A (n+6)) (wd:Wd G H M [(dx,.ns []),(x,a0r 859 dx)] s)
  (K:∀xS dS q1 q2 s',Kw G.gen [dx] s s'→(∀a∈[dS,xS,q1,q2],s.heap.get? a=none)→((c7z dx x xS dS q1 q2 b).map (·.1)).Nodup→b6j s'.heap (c7z dx x xS dS q1 q2 b)→R (.ok (.ret .none)) s'):codeAny (model prog w) A (.call (.ref 783) ⟨[.ref x,.str b t1],[("posix",.bool true)]⟩) R s:=by
 have hg:=hC.s.i.glb
 have hc:=hC.h.cls
 have ha:=fun a h=>hC.h.attr a h
 refine a5y (n:=n+5) (ρ:=[("self",.val (.ref x)),("instream",.str b),("infile",.none),("posix",.bool true),("punctuation_chars",.bool false)]) (binds:=[("self",_),("instream",_),("infile",_),("posix",_),("punctuation_chars",_)]) hC.init rm wd.top wd.mem (fun name doc pm an cdv ct=>BindsTo.of_defaults (T:=776) rfl (wd.top.objs _ _ hC.d776) rfl rfl rfl) rfl (.cons (.val (.ref x)) (.cons (.str b t1) (.cons .none (.cons (.bool true) (.cons (.bool false) .nil))))) (fun y hy=>.inl (by
   have:(([("self",.val (.ref x)),("instream",.str b),("infile",.none),("posix",.bool true),("punctuation_chars",.bool false)]:List (Str×D)).map (·.1)).all (fun y=>decide ((a0a (a0q 30 0)).names.lookup y=some .local))=true:=by kernel_rfl
   exact of_decide_eq_true (all_eq_true.mp this y hy))) (a0d ∅) (by decide +kernel) (a0d ∅) ?_ ∅ ∅ ∅
 intro L cd g0 hL t hW _
 walk_at "q"
 clear hL R t1 H M A
 obtain⟨W₁,w0,b4⟩:=t.openW wd hW
 have rm':=rm.deeper (fnv "shlex.__init__" (a0a (a0q 30 0)) L 783 cd)
 refine a8m (ol:=[(dx,.ns []),(x,a0r 859 dx)]) w0 rm' (Ts.val (.callB2 ∅ (hg _ _ ∅) ∅ (by decide) (.cons (.name (d:=.str b) ∅) (by rfl) (.one (.blt ∅ (hg _ _ ∅) (v:=.type "str") ∅ (by decide)))) c9c) (.bool true)) fun u0 z0=>?_
 walk_at "x"
 refine wpAny_Assign_Name (wpAny_Call_NameR (a1i z0.kind z0.glob z0.top ∅ hC.gS (callWith_K z0.top.inK hC.keep (EvL.go rm' (.one (.name (d:=.str b) ∅)) z0.cd fun vs y2 a4 dv=>⟨(z0.keeps a4).top.inK,?_⟩)))) ∅
 clear u0 W₁ hW t cd L hg rm
 cases dv with
 | cons d0 d1=>
 cases d1
 cases d0
 have j1:=z0.keeps a4
 refine c5f (n:=n+1) hC.s rm' (j1.wd.pick (fun p hp=>absurd hp not_mem_nil) nodup_nil) fun xS dS l3 x5 hxS hdS hne td=>?_
 clear l3 z0 s
 obtain⟨N,hN,z1⟩:=Stt.after (ol:=[]) (r:=[(dx,.ns []),(x,a0r 859 dx)]) j1 x5 td (fun p hp=>.inr (by
  clear N td x5
  rcases a0o hp with rfl | hp
  ·exact hdS
  ·rw[zS hp];exact hxS)) (fun b hb=>by cases hb) (by simp[Ne.symm hne])
 have dA:=(j1.fresh_of hxS).2.2.2
 have gA:=(j1.fresh_of hdS).2.2.2
 refine z1.put (.inl ∅) (.val (.ref xS)) fun y3 u1 _=>wpAny_execs_nil ?_
 have u1:=u1.permP (ol':=[(dx,.ns []),(x,a0r 859 dx),(dS,.ns (a3p b 0)),(xS,a0r 724 dS)]) (List.perm_append_comm (l₁:=[(dx,Ob.ns []),(x,a0r 859 dx)]) (l₂:=[(dS,Ob.ns (a3p b 0)),(xS,a0r 724 dS)]))
 have hx:(x,a0r 859 dx)∈[(x,a0r 859 dx),(dS,.ns (a3p b 0)),(xS,a0r 724 dS)]:=.head _
 show wpAny _ _ (execs _ _) _ _ _
 refine a8m u1 rm' (Ts.cmp (.name (d:=.val (.ref xS)) ∅) .noneC (a1d fun v e=>by cases e;rfl)) fun i5 z2=>?_
 refine a1b z2 rm' hx hc (ha _ (by decide)) ∅ (.name (d:=.val (.ref xS)) ∅) (l':=(a8g xS 0 0 wc0).take 1) ∅ fun i4 j3=>?_
 refine a1b j3 rm' hx hc (ha _ (by decide)) ∅ (.name (d:=.none) ∅) (l':=(a8g xS 0 0 wc0).take 2) ∅ fun d6 z3=>wpAny_execs_nil ?_
 show wpAny _ _ (execs _ _) _ _ _
 refine a1b z3 rm' hx hc (ha _ (by decide)) ∅ (.name (d:=.bool true) ∅) (l':=(a8g xS 0 0 wc0).take 3) ∅ fun g0 w0=>?_
 refine a8m w0 rm' (Ts.val (.name (d:=.bool true) ∅) (.bool true)) fun g0 w0=>?_
 refine a1b w0 rm' hx hc (ha _ (by decide)) ∅ .noneC (l':=(a8g xS 0 0 wc0).take 4) ∅ fun g0 w0=>wpAny_execs_nil ?_
 show wpAny _ _ (execs _ _) _ _ _
 refine a1b w0 rm' hx hc (ha _ (by decide)) ∅ .str (l':=(a8g xS 0 0 wc0).take 5) ∅ fun g0 w0=>?_
 refine a1b w0 rm' hx hc (ha _ (by decide)) ∅ .str (l':=(a8g xS 0 0 wc0).take 6) ∅ fun g0 w0=>?_
 refine a8m w0 rm' (Ts.val (.self (d:=.bool true) ∅ hx hc (ha _ (by decide)) ∅) (.bool true)) fun g0 w0=>?_
 walk_at "x"
 refine a9g w0 rm' hx hc (ha _ (by decide)) (.name (d:=.val (.ref x)) ∅) (d0:=.str wc0) ∅ .str (b4b (by decide +kernel)) (fun g0 w0=>wpAny_execs_nil ?_) (Nat.le_trans (List.length_take_le _ _) (by decide))
 have w0:Stt _ _ _ _ _ _ _ ((dx,.ns ((a8g xS 0 0 wcS).take 6))::_) _ _:=w0
 refine a1b w0 rm' hx hc (ha _ (by decide)) ∅ .str (l':=(a8g xS 0 0 wcS).take 7) ∅ fun g0 w0=>?_
 refine a1b w0 rm' hx hc (ha _ (by decide)) ∅ .boolC (l':=(a8g xS 0 0 wcS).take 8) ∅ fun g0 w0=>?_
 refine a1b w0 rm' hx hc (ha _ (by decide)) ∅ .str (l':=(a8g xS 0 0 wcS).take 9) ∅ fun g0 w0=>?_
 refine a1b w0 rm' hx hc (ha _ (by decide)) ∅ .str (l':=(a8g xS 0 0 wcS).take 10) ∅ fun g0 w0=>?_
 refine a1b w0 rm' hx hc (ha _ (by decide)) ∅ .str (l':=(a8g xS 0 0 wcS).take 11) ∅ fun g0 w0=>?_
 refine a1b w0 rm' hx hc (ha _ (by decide)) ∅ .str (l':=(a8g xS 0 0 wcS).take 12) ∅ fun g0 w0=>?_
 have bA:=w0
 refine a5e (ob:=.raw (· =a3v)) w0 rm' hx hc (ha _ (by decide)) ∅ (fun Q K=>wpAny_Call_NameR (a1i w0.kind w0.glob w0.top ∅ hC.gD (callWith_type0 (b9o fun h' hk hS=>K _ _ (Kp.of hk) (a0c (Nat.le_refl _)) ⟨_,hS,rfl⟩)))) rfl (lf:=fun q1=>(a8g xS q1 0 wcS).take 13) (fun _=>∅) fun q1 g0 hq1 w0=>?_
 have hq1:=(bA.fresh_of hq1).2.2.2
 clear bA
 have hx:=List.Mem.tail (q1,Ob.raw (· =a3v)) hx
 refine a1b w0 rm' hx hc (ha _ (by decide)) ∅ .int (l':=(a8g xS q1 0 wcS).take 14) ∅ fun g0 w0=>?_
 refine a1b w0 rm' hx hc (ha _ (by decide)) ∅ .int (l':=(a8g xS q1 0 wcS).take 15) ∅ fun g0 w0=>?_
 refine a1b w0 rm' hx hc (ha _ (by decide)) ∅ .str (l':=(a8g xS q1 0 wcS).take 16) ∅ fun g0 w0=>?_
 have bA:=w0
 refine a5e (ob:=.raw (· =a3v)) w0 rm' hx hc (ha _ (by decide)) ∅ (fun Q K=>wpAny_Call_NameR (a1i w0.kind w0.glob w0.top ∅ hC.gD (callWith_type0 (b9o fun h' hk hS=>K _ _ (Kp.of hk) (a0c (Nat.le_refl _)) ⟨_,hS,rfl⟩)))) rfl (lf:=fun q2=>(a8g xS q1 q2 wcS).take 17) (fun _=>∅) fun q2 g0 hq2 w0=>?_
 have hq2:=(bA.fresh_of hq2).2.2.2
 clear bA
 have hx:=List.Mem.tail (q2,Ob.raw (· =a3v)) hx
 refine a1b w0 rm' hx hc (ha _ (by decide)) ∅ .noneC (l':=(a8g xS q1 q2 wcS).take 18) ∅ fun g0 w0=>?_
 refine a8m w0 rm' (Ts.bool (Ts.not (Ts.val (.name (d:=.bool false) ∅) (.bool false))) rfl) fun g0 w0=>?_
 refine a6y w0 rm' .str fun g0 w0=>wpAny_execs_nil ?_
 show wpAny _ _ (execs _ _) _ _ _
 refine a1b w0 rm' hx hc (ha _ (by decide)) ∅ (.name (d:=.str "") ∅) (l':=a8g xS q1 q2 wcS) ∅ fun g0 w0=>?_
 refine a4u w0 rm' (Ts.bool (Ts.val (.name (d:=.str "") ∅) (.str _ (by decide))) (by decide)) fun g0 w0=>wpAny_execs_nil ?_
 have w0:=w0.permP (ol':=c7z dx x xS dS q1 q2 b) (List.Perm.cons _ ((List.perm_append_comm (l₁:=[(x,a0r 859 dx),(dS,Ob.ns (a3p b 0)),(xS,a0r 724 dS)]) (l₂:=[(q1,Ob.raw (· =a3v)),(q2,Ob.raw (· =a3v))])).trans (List.Perm.swap _ _ _)))
 refine K xS dS q1 q2 _ (w0.kwEnd wd fun c hc=>?_) (fun a hm=>?_) w0.lsn (w0.told rfl)
 ·clear w0 g0 hx q2 bA q1 j3 i4 z2 i5 u1 z1 N td hne hdS hxS x5 dS xS rm' ha K wd b dx x hC
  rcases a0o hc with rfl | hc
  ·exact .inl hq2
  rcases a0o hc with rfl | hc
  ·exact .inl hq1
  rcases zA hc with hc | hc
  ·exact .inl (j1.fresh_of (hN c hc)).2.2.2
  clear hN j1
  rcases b4 c hc with h | h
  ·exact .inl h
  clear hc b4
  rcases zC h with h | h
  ·exact .inr (.inl (by rw[h];exact .head _))
  ·exact .inr (.inr ⟨_,.tail _ (by rw[zS h];exact .head _),.tail _ (by rw[zS h];exact .head _)⟩)
 ·clear w0 g0 hx q2 bA q1 j3 i4 z2 i5 u1 z1 hN N td hne hdS hxS x5 dS xS j1 rm' b4 ha K wd b dx x hC
  rcases a0o hm with rfl | hm
  ·exact gA
  clear gA gA
  rcases a0o hm with rfl | hm
  ·exact dA
  clear dA dA
  rcases a0o hm with rfl | hm
  ·exact hq1
  ·rw[zS hm];exact hq2
end
end
section
noncomputable def b8t (a b:Str):Bool:=(a2t (a1o a b) 40 0 (some " ") "" false).any fun r1=>decide (r1.2.1=a∧¬(r1.2.2.1=false∧a.length=0)∧r1.2.2.2≤(a1o a b).length) &&
 (a2t (a1o a b) 40 r1.2.2.2 r1.1 "" false).any fun r2=>decide (r2.2.1=b∧¬(r2.2.2.1=false∧b.length=0)∧r2.2.2.2≤(a1o a b).length) &&
 (a2t (a1o a b) 40 r2.2.2.2 r2.1 "" false).any fun r3=>decide (r3.2.2.1=false∧r3.2.1.length=0)
theorem b5q:(a0n.all fun a=>a0n.all fun b=>b8t a b && decide ((a1o a b).length≤1000))=true:=by decide +kernel
structure GP (G:a1k):Prop where
 c:GC G
 l:GL G
 split:FnS G 871 "split" (stm 31) (.ref 864)
 d864:G.objs 864=some {cls:=.type "tuple",data:=.seq #[.bool false,.bool true] 0}
 gS:G.glb "shlex"=some (some (.ref 859))
 gL:G.glb "list"=some none
 gI:G.glb "StopIteration"=some none
 keep:keepIn G.K (.ref 859)=true
 makes:makesIn G.K 859=true
 mInit:a1m G.K 859 "__init__" 783
section
variable {n:Nat} {s:Shared}
theorem c6n (hP:GP G) {b:Str} (rm:Rm A (n+7)) (wd:Wd G H M [] s)
  (K:∀x dx xS dS q1 q2 s',Kw G.gen [] s s'→(∀a∈(c7z dx x xS dS q1 q2 b).map (·.1),s.heap.get? a=none)→((c7z dx x xS dS q1 q2 b).map (·.1)).Nodup→b6j s'.heap (c7z dx x xS dS q1 q2 b)→Q (.ref x) s'):wpAny (model prog w) A (call (.ref 859) [.str b t1] [("posix",.bool true)]) Q E s:=by
 have X:=wd.top.inK
 clear Q t1
 obtain⟨hh,g,d,t,os⟩:=s
 refine wpAny_call (make_core (makes_of X hP.makes) (looks_findIn X hP.mInit.find) (fun self=>bind_fn X self hP.mInit.fn) (.inl rfl) ?_)
 have l0:Kp ⟨hh,g,d,t,os⟩ ⟨(hh.push emptyDict).push (instObj 859 hh.objs.size),g,d,t,os⟩:=Kp.of (t:=t) ((Hk.push _ _).trans (Hk.push _ _))
 have hx:(⟨hh,g,d,t,os⟩:Shared).heap.get? (hh.objs.size+1)=none:=a0c (Nat.le_succ _)
 have hdx:(⟨hh,g,d,t,os⟩:Shared).heap.get? hh.objs.size=none:=a0c (Nat.le_refl _)
 have ex:((hh.push emptyDict).push (instObj 859 hh.objs.size)).get? (hh.objs.size+1)=some (instObj 859 hh.objs.size):=by heap_get
 have edx:((hh.push emptyDict).push (instObj 859 hh.objs.size)).get? hh.objs.size=some emptyDict:=by heap_get
 walk_at "c"
 clear X X
 rcases(⟨_,rfl⟩:∃x,x=hh.objs.size+1)with⟨x,hxe⟩
 rcases(⟨_,rfl⟩:∃dx,dx=hh.objs.size)with⟨dx,hde⟩
 walk_at "u"
 have hne:x≠dx:=by omega
 rw[←hxe]at hx ex ⊢
 rw[←hde]at hdx edx ex l0 ⊢
 have w5:=wd.new (ol:=[(dx,.ns []),(x,a0r 859 dx)]) l0 (by simp[Ne.symm hne]) (fun p hp=>by
  clear p hne hde hxe wd
  rcases a0o hp with rfl | hp
  ·exact⟨hdx,_,edx,[],0,rfl,.nil⟩
  ·rw[zS hp];exact⟨hx,_,ex,rfl⟩)
 refine c2j (n:=n) (b:=b) (x:=x) (dx:=dx) hP.c (rm.tc (n:=n+6) _) w5 fun xS dS q1 q2 u0 y1 hf hnd td=>?_
 have down:∀c,((hh.push emptyDict).push (instObj 859 dx)).get? c=none→(⟨hh,g,d,t,os⟩:Shared).heap.get? c=none:=fun c e=>by
  clear p w5 hne hde hxe edx ex wd rm b hP
  cases e':(⟨hh,g,d,t,os⟩:Shared).heap.get? c with
  | none=>rfl
  | some o=>exact nsn (show _=none from e) (l0.hk c o e')
 refine⟨rfl,K x dx xS dS q1 q2 u0 ⟨fun c o _ e=>y1.1 c o (fun hm=>?_) (l0.hk c o e),?_⟩ (fun a hm=>?_) hnd td⟩
 ·rw[zS hm,hdx]at e;cases e
 ·have k:=(l0.kw (fl:=G.gen) (W:=[])).2
  exact⟨k.1.trans y1.2.1,y1.2.2.1.trans k.2.1,y1.2.2.2.trans k.2.2⟩
 ·clear e c td hnd y1 u0 q2 q1 dS xS p w5 hne hde dx hxe x edx ex l0 os t d g hh K wd rm b hP
  rcases a0o hm with rfl | hm
  ·exact hdx
  clear hdx hdx
  rcases a0o hm with rfl | hm
  ·exact hx
  ·exact down a (hf a hm)
end
end
section
theorem b8s {a b:Str} (ha:a∈a0n) (hb:b∈a0n):b8t a b=true∧(a1o a b).length≤1000:=by
 have h:=all_eq_true.mp (all_eq_true.mp b5q a ha) b hb
 obtain⟨h1,h2⟩:=Bool.and_eq_true_iff.mp h
 exact⟨h1,of_decide_eq_true h2⟩
theorem d1k {α:Type} {o:Option α} {p:α→Bool} (h:o.any p=true):∃x,o=some x∧p x=true:=by
 cases o with
 | none=>cases h
 | some x=>exact⟨x,rfl,h⟩
inductive d1x (a b:Str):Prop
 | mk (st1:Option Str) (b1:Bool) (p1:Nat) (st2:Option Str) (b2:Bool) (p2:Nat) (st3:Option Str) (w3:Str) (b3:Bool) (p3:Nat):a2t (a1o a b) 40 0 (some " ") "" false=some (st1,a,b1,p1)→a2t (a1o a b) 40 p1 st1 "" false=some (st2,b,b2,p2)→a2t (a1o a b) 40 p2 st2 "" false=some (st3,w3,b3,p3)→
  ¬(b1=false∧a.length=0)→¬(b2=false∧b.length=0)→(b3=false∧w3.length=0)→p1≤(a1o a b).length→p2≤(a1o a b).length→d1x a b
theorem b2r {a b:Str} (h:b8t a b=true):d1x a b:=by
 walk_at "c"
 clear b a
 rcases d1k h with⟨r1,e1,h⟩
 rcases Bool.and_eq_true_iff.mp h with⟨c1,h⟩
 rcases d1k h with⟨r2,e2,h⟩
 rcases Bool.and_eq_true_iff.mp h with⟨c2,h⟩
 rcases d1k h with⟨r3,e3,c3⟩
 walk_at "u"
 have c1:=of_decide_eq_true c1
 have c2:=of_decide_eq_true c2
 exact⟨r1.1,r1.2.2.1,r1.2.2.2,r2.1,r2.2.2.1,r2.2.2.2,r3.1,r3.2.1,r3.2.2.1,r3.2.2.2,e1.trans (congrArg (fun q=>some (r1.1,q,r1.2.2.1,r1.2.2.2)) c1.1),e2.trans (congrArg (fun q=>some (r2.1,q,r2.2.2.1,r2.2.2.2)) c2.1),e3,c1.2.1,c2.2.1,of_decide_eq_true c3,c1.2.2,c2.2.2⟩
section
variable {n:Nat}
theorem c0q (hP:GP G):b9z prog w G (n+10):=by
 intro a b ha hb A M H s t0 fs Fo Q E rm wd hfs hfr K
 walk_at "c"
 rcases b8s ha hb with⟨hlx,hlen⟩
 rcases b2r hlx with⟨st1,b1,p1,st2,b2,p2,st3,w3,b3,p3,h1,h2,h3,n1,n2,n3,l1,l2⟩
 walk_at "u"
 generalize a1o a b=x at *
 have h0:=wd.fr0 (fun p hp=>hp)
 refine a0u (n:=n+9) (args:=⟨[_],[]⟩) (ρ:=[("s",.str x),("comments",.bool false),("posix",.bool true)]) (binds:=[("s",_),("comments",_),("posix",_)]) hP.split rm wd.top wd.mem (fun name doc pm an cdv ct=>BindsTo.of_defaults (T:=864) rfl (wd.top.objs _ _ hP.d864) rfl rfl rfl) rfl (.cons (.str x t0) (.cons (.bool false) (.cons (.bool true) .nil))) (fun y hy=>.inl (by
   have:(([("s",.str x),("comments",.bool false),("posix",.bool true)]:List (Str×D)).map (·.1)).all (fun y=>decide ((a0a (stm 31)).names.lookup y=some .local))=true:=by kernel_rfl
   exact of_decide_eq_true (all_eq_true.mp this y hy))) (a0d ∅) (by decide +kernel) (a0d ∅) ?_ ∅ ∅ ∅
 intro L cd g0 hL t hW
 walk_at "q"
 obtain⟨W₁,w0,b4⟩:=t.openW wd hW
 have rm':=rm.deeper (fnv "split" (a0a (stm 31)) L 871 cd)
 have hfr':(A.deeper (fnv "split" (a0a (stm 31)) L 871 cd)).frames=some (fnv "split" (a0a (stm 31)) L 871 cd::fs):=Around.frames_deeper hfr
 refine a4u w0 rm' (Ts.cmp (.name (d:=.str x) ∅) .noneC (a0w fun v e=>by cases e)) fun u0 z0=>?_
 walk_at "x"
 refine wpAny_Assign_Name (wpAny_Call_Name_kw (a1i z0.kind z0.glob z0.top ∅ hP.gS (callWith_KW z0.top.inK hP.keep (by rfl) (EvL.go rm' (.one (.name (d:=.str x) ∅)) z0.cd fun vs y2 a4 dv=>?_)))) ∅
 cases dv with
 | cons d0 d1=>
 cases d1
 cases d0
 have j1:=z0.keeps a4
 obtain⟨vp,hvp,dvp⟩:=j1.cd.vars "posix" (.bool true) ∅
 cases dvp
 refine wpAny_evalAll_cons (wpAny_bind (a1f j1.kind hvp (wpAny_bind (wpAny_standAt (wpAny_pure (wpAny_evalAll_nil ⟨j1.top.inK,?_⟩))))))
 refine c6n (n:=n+2) hP rm' (j1.wd.pick (fun p hp=>absurd hp not_mem_nil) nodup_nil) fun xL dL xS dS q1 q2 l3 x5 hf hnd td=>?_
 obtain⟨N,hN,z1⟩:=Stt.after (ol:=[]) (r:=fol Fo) j1 x5 td (fun p hp=>.inr (hf _ (zN ⟨p,hp,rfl⟩))) (fun b hb=>by cases hb) hnd
 have u5:=fun c hc=>(j1.fresh_of (hN c hc)).2.2.2
 refine z1.put (.inl ∅) (.val (.ref xL)) fun y3 u1 _=>?_
 have hx:(xL,a0r 859 dL)∈[(xL,a0r 859 dL),(dS,Ob.ns (a3p x 0)),(xS,a0r 724 dS),(q1,Ob.raw (· =a3v)),(q2,Ob.raw (· =a3v))]++fol Fo:=.head _
 refine a1b (dx:=dL) u1 rm' hx hP.c.h.cls (hP.c.h.attr _ (by decide)) ∅ .boolC rfl (fun i5 z2=>?_) (le_of_ble_eq_true ∅)
 refine a8m z2 rm' (Ts.bool (Ts.not (Ts.val (.name (d:=.bool false) ∅) (.bool false))) rfl) fun i4 j3=>?_
 refine a1b (dx:=dL) j3 rm' hx hP.c.h.cls (hP.c.h.attr _ (by decide)) ∅ .str (l':=shl xS q1 q2 (stD (some " ")) "") ∅ (fun d6 z3=>wpAny_execs_nil ?_) (le_of_ble_eq_true ∅)
 show wpAny _ _ (execs _ _) _ _ _
 walk_at "x"
 refine wpAny_Return_some (wpAny_Call_NameR (a1v z3.kind z3.glob z3.bi z3.top ∅ hP.gL (v:=.type "list") ∅ (by decide) (PySem.callWith_type (by rfl) (evalArgs_plain (EvL.go rm' (.one (.name (d:=.val (.ref xL)) ∅)) z3.cd fun vs j6 pB dv=>?_)))))
 cases dv with
 | cons d0 d1=>
 cases d1
 cases d0
 have w4:=z3.keeps pB
 refine c2g (n:=n) (xL:=xL) (dL:=dL) (xS:=xS) (dS:=dS) (q1:=q1) (q2:=q2) (od:=a3v) (b:=x) hP.c.h hP.l hP.gI hlen c5o h1 h2 h3 n1 n2 n3 l1 l2 rm' w4 rfl hfr' hfs fun S a6 hS d5=>?_
 have uD:=w4.fresh_of hS
 refine K _ a6 (d5.endX hfs (fun p hp=>.tail _ hp) h0 fun c hc=>?_) ?_
 ·rcases a0o hc with rfl | hc
  ·exact .inr (.inr uD.2.2.2)
  rcases zA hc with hc | hc
  ·exact .inr (.inr (u5 c hc))
  rcases b4 c hc with h | h
  ·exact .inr (.inr h)
  ·refine .inl ?_
   rw[hfs.frs]
   walk_at "c"
   rcases zM h with⟨p,hp,e⟩
   rcases zM hp with⟨q,hq,rfl⟩
   walk_at "u"
   exact zN ⟨q,hq,e⟩
 ·obtain⟨_,_,o,eo,vs,ep,rfl,dvs⟩:=d5.ls _ (.head _)
  exact .list (a0v eo uD.2.1) (dvs.mono a4c)
end
end
section
noncomputable def b0l (C d:Addr) (vs:List Value):Obj:=⟨.ref C,some d,.plain,(vs.map some).toArray⟩
noncomputable def qSl (C d:Addr) (ds:List D) (o:Obj):Prop:=∃vs,o=b0l C d vs∧DRs (fun _=>none) vs ds
structure a4j (K:Frag) (C:Addr) (name:Str) (p i:Nat):Prop where
 find:findIn K (.ref C) name=some (some (.ref p))
 sl:slotIn K p C=some i
 get:specialIn K (.ref p) "__get__"=some (some (.builtin "member_descriptor.__get__"))
 tk:takesIn K (.ref p)=some true
 ty:typeIn K (.ref p)=some (.type "member_descriptor")
structure b6k (K:Frag) (C:Addr):Prop where
 ga:findIn K (.ref C) "__getattribute__"=some (some (.builtin "object.__getattribute__"))
 gt:findIn K (.ref C) "__getattr__"=some none
 sa:findIn K (.ref C) "__setattr__"=some (some (.builtin "object.__setattr__"))
 po:plainOver K C=true
 hd:∃cd,clsIn K C=some cd
theorem b3v {h:Heap} {a d:Addr} (e:h.get? a=some (b0l C d vs)) (ed:h.get? d=some emptyDict):InstAt h a (b0l C d vs) C (some emptyDict):=⟨e,rfl,rfl,ed⟩
theorem d2m {d:Addr} {i:Nat}:((b0l C d vs).slots[i]?).join=vs[i]?:=by
 show(((vs.map some).toArray)[i]?).join=_
 rw[List.getElem?_toArray,getElem?_map]
 cases vs[i]? <;> rfl
noncomputable def d0f (ds:List D) (i:Nat) (d:D):List D:=if i < ds.length then ds.set i d else ds++[d]
theorem DRs.set {d:D} (hv:DR P v d) (h:DRs P vs ds):∀i,DRs P (vs.set i v) (ds.set i d):=
 h.ind (p:=fun vs ds=>∀i,DRs P (vs.set i v) (ds.set i d)) (fun _=>.nil) fun a r b i=>by
  cases i with
  | zero=>exact .cons hv r
  | succ i=>exact .cons a (b i)
theorem c8h {i:Nat} (hi:i≤vs.length):((vs.map some).toArray++Array.replicate (i+1 - (vs.map some).toArray.size) none).setIfInBounds i (some v)=((if i < vs.length then vs.set i v else vs++[v]).map some).toArray:=by
 apply Array.ext'
 rw[Array.toList_setIfInBounds,Array.toList_append,Array.toList_replicate]
 rw[size_toArray,length_map]
 by_cases h:i < vs.length
 ·rw[if_pos h,show i+1 - vs.length=0 by omega,List.replicate_zero,append_nil,List.map_set]
 ·have e:i=vs.length:=by omega
  subst e
  rw[if_neg h,show vs.length+1 - vs.length=1 by omega,map_append]
  show(vs.map some++[none]).set vs.length (some v)=vs.map some++[some v]
  rw[List.set_append_right (h:=by simp)]
  simp
section
variable {n:Nat} {s:Shared} {C a d p i:Nat} {name:Str}
theorem a8o (X:K.In s.heap) (e:s.heap.get? a=some (b0l C d vs)) (ed:s.heap.get? d=some emptyDict) (ck:b6k K C) (sk:a4j K C name p i) (hv:vs[i]? =some v) (hh:handedIn v=true)
  (h:Q v {s with toks:=s.toks+1}):wpAny (model prog w) A (getAttr (.ref a) name ex) Q E s:=by
 obtain⟨cd,hcd⟩:=ck.hd
 have I:=b3v e ed
 refine get_bind (g:=.builtin "member_descriptor.__get__") (a:=.ref p) X I ck.ga ?_ ck.gt ?_
 ·unfold findObj
  rw[hcd,sk.find]
  show(specialIn _ _ _).bind _=_
  rw[sk.get]
  show(takesIn _ _).bind _=_
  rw[sk.tk];rfl
 refine wpAny_call (slot_get (s:={s with toks:=s.toks+1}) X I sk.sl (d2m.trans hv) ?_)
 show wpAny _ _ (handedOut _) _ _ _
 rw[handedOut_of hh]
 exact wpAny_pure h
theorem Ev.slot {e:Expr} (h:Ev prog w G n env ρ e (.val (.ref a))) (hx:(a,Ob.raw (qSl C d ds))∈G.ob) (hd:(d,Ob.raw (· =emptyDict))∈G.ob) (ck:b6k G.K C) (sk:a4j G.K C name p i) (hl:ds[i]? =some dd) (hh:b1l dd=true:=by rfl) (hf:a2l dd=true:=by rfl)
  (he:eval (.Attribute e name pos) env=(do
   let o ←eval e env
   standAt pos.atName
   let r ←holding [o] (getAttr o name true)
   letTemporaryGo e o r
   pure r):=by with_unfolding_all rfl):Ev prog w G n env ρ (.Attribute e name pos) dd:=by
 intro A M s Q E rm c k
 refine Attribute_any_ (h A M s _ E rm c fun v g0 l0 dv=>?_) he
 cases dv
 have v5:=c.keeps l0
 walk_at "c"
 rcases v5.obs _ hx with⟨o,eo,vs,rfl,r⟩
 rcases v5.obs _ hd with⟨od,ed,hod⟩
 walk_at "u"
 have hod':od=emptyDict:=hod
 subst hod'
 obtain⟨v,hv,dv⟩:=r.get hl
 exact a8o v5.top.inK eo ed ck sk hv (dv.handed hh) (k v _ (l0.trans (Kp.tok _ _)) (dv.flat hf))
theorem c8g (X:K.In s.heap) (e:s.heap.get? a=some (b0l C d vs)) (ed:s.heap.get? d=some emptyDict) (sk:a4j K C name p i) (hi:i≤vs.length) (hz:vs.length≤100)
  (h:∀h',h'.get? a=some (b0l C d (if i < vs.length then vs.set i v else vs++[v]))→Heap.SameBut a s.heap h'→R (.ok (.ret .none)) {s with heap:=h'}):
  codeAny (model prog w) A (.call (.builtin "member_descriptor.__set__") ⟨[.ref p,.ref a,v],[]⟩) R s:=by
 walk_at "c"
 rcases slot_of X sk.sl with⟨nn,tn,owner,behind,tb,dd,sl,cd,ho,hc,hm,hb,rfl⟩
 have I:=b3v e ed
 rcases s with⟨hh,g,dr,t,os⟩
 walk_at "u"
 have L0:=I.type (M:=model prog w)
 have L1:=looks_mroIn (M:=model prog w) X hm
 have L2:Looks (model prog w) hh (Builtin.Slots.slotNamesOf (.ref C)) cd.slotNames:=(looks_clsIn X hc).andThen .now
 dsimp only at ho e L0 L1
 have f0:=looks_field (M:=model prog w) ho 0 (v:=.str nn tn) rfl
 have f1:=looks_field (M:=model prog w) ho 1 (v:=owner) rfl
 have f3:=looks_field (M:=model prog w) ho 3 (v:=.builtin "proto.slot#set") rfl
 have f4:=looks_field (M:=model prog w) ho 4 (v:=.int behind tb) rfl
 refine codeAny_call_builtin KF.slot_mset.plain KF.entry_mset (KF.slot_mset.check _ _ _ _ _ _ _ _ ⟨_,ho,rfl⟩ (KF.args_mset _ _ _) ?_)
 unfold Builtin.«member_descriptor.__set__» Builtin.Getset_descriptor.descrSet Builtin.Getset_descriptor.descrStoreThrough Builtin.Getset_descriptor.descrCheckInstance Builtin.Getset_descriptor.descrNameAndClass isInstance
 have f5:Looks (model prog w) hh (Builtin.Getset_descriptor.descrItself (.ref p)) [.ref p]:=((Looks.ld (part:=none) ho).andThen .now).andThen (Looks.of_pure ∅)
 repeat lk
 refine⟨Code.quiet_builtin _ (by decide +kernel),codeAny_builtin KF.entry_slotset ?_⟩
 unfold Builtin.«proto.slot#set» Builtin.Slots.target
 repeat lk
 rw[if_neg hb]
 refine wpAny_pure (wpAny_bind ?_)
 unfold setSlotAt
 dsimp only
 rw[if_neg (by rw[sizeLine_eq];omega)]
 refine wpAny_updatePart e (wpAny_pure (h _ ?_ (Heap.SameBut.update ..)))
 have:=Heap.get?_update_self (fun o:Obj=>{o with slots:=(o.slots++Array.replicate (cd.slotNames.length - 1 - behind.toNat+1 - o.slots.size) none).setIfInBounds (cd.slotNames.length - 1 - behind.toNat) (some v)}) e (by rfl)
 rw[this]
 unfold b0l
 dsimp only
 rw[c8h hi]
theorem Stt.turnAt {x:Addr} {ob ob':Ob} (t:Stt G H env own W i0 ρ (l1++(x,ob)::l2) j0 s) (k:Kw G.gen [x] s s') (he:s'.heap.get? x=some o) (ho:ObR (vis s'.heap (W++i0)) o ob'):Stt G H env own W i0 ρ (l1++(x,ob')::l2) j0 s':=
 ((t.permP List.perm_middle.symm).set1 k he ho).permP List.perm_middle
theorem c0u (sk:a4j K C name p i):takerIn K C name=some (some (.ref p)):=by
 unfold takerIn
 rw[sk.find]
 simp only[Option.bind_some,sk.tk,Option.map_some,if_true]
theorem Stt.setSl {Q:Unit→Shared→Prop} (t:Stt G H env own W i0 ρ (l1++(a,.raw (qSl C d ds))::l2) j0 s) (hd:(d,Ob.raw (· =emptyDict))∈l1++(a,.raw (qSl C d ds))::l2) (ck:b6k G.K C) (sk:a4j G.K C name p i) (hi:i≤ds.length) (hz:ds.length≤100) (dv:DR (fun _=>none) v dd)
  (K:∀s',Stt G H env own W i0 ρ (l1++(a,.raw (qSl C d (d0f ds i dd)))::l2) j0 s'→Q () s'):wpAny (model prog w) A (setAttr (.ref a) name v) Q E s:=by
 walk_at "c"
 rcases t.ls (a,.raw (qSl C d ds)) (zB (.inr (.head _)))with⟨_,_,o,eo,vs,rfl,r⟩
 rcases t.ls _ hd with⟨_,_,od,ed,hod⟩
 walk_at "u"
 have hod':od=emptyDict:=hod
 subst hod'
 have X:=t.top.inK
 have t':=t.keeps (Kp.tok s (s.toks+1))
 refine set_plain X (b3v eo ed) ck.sa (osa_descr (s:={s with toks:=s.toks+1}) KF.slot_mset X (b3v eo ed) ck.po (c0u sk) sk.ty (c8g (s:={s with toks:=s.toks+1}) X eo ed sk (by rw[r.length];exact hi) (by rw[r.length];exact hz) fun h' e' hs=>?_))
 refine K _ (t'.turnAt (Kw.sameBut (tk:=s.toks+1) hs) e' ⟨_,rfl,?_⟩)
 unfold d0f
 rw[r.length]
 split
 ·exact r.set dv i
 ·exact r.append (.cons dv .nil)
theorem a6o {Q:Flow→Shared→Prop} {b e:Expr} (t:Stt G H env own W i0 ρ (l1++(a,.raw (qSl C d ds))::l2) j0 s) (rm:Rm A n) (hd:(d,Ob.raw (· =emptyDict))∈l1++(a,.raw (qSl C d ds))::l2) (ck:b6k G.K C) (sk:a4j G.K C name p i) (hi:i≤ds.length) (hz:ds.length≤100)
  (hb:Ev prog w (G.at (l1++(a,.raw (qSl C d ds))::l2)) n env ρ b (.val (.ref a))) (h:Ev prog w (G.at (l1++(a,.raw (qSl C d ds))::l2)) n env ρ e dd) (hf:a2l dd=true) (K:∀s',Stt G H env own W i0 ρ (l1++(a,.raw (qSl C d (d0f ds i dd)))::l2) j0 s'→Q .next s')
  (hs:swapsWith e (some (.Attribute b name ap)) pos.line env=pure false:=by kernel_rfl):wpAny (model prog w) A (exec (.Assign [.Attribute b name ap] e pos) env) Q E s:=by
 refine plainObj_wpAny_Assign_Attribute (h A _ s _ E rm t.cd fun v g0 l0 dv=>hb A _ g0 _ E rm (t.keeps l0).cd fun ov u0 y1 dov=>?_) hs
 cases dov
 exact((t.keeps l0).keeps y1).setSl hd ck sk hi hz (dv.flat hf) K
theorem b3q {Q:Flow→Shared→Prop} {b e:Expr} {op:Operator} {d0:D} (t:Stt G H env own W i0 ρ (l1++(a,.raw (qSl C d ds))::l2) j0 s) (rm:Rm A n) (hd:(d,Ob.raw (· =emptyDict))∈l1++(a,.raw (qSl C d ds))::l2) (ck:b6k G.K C) (sk:a4j G.K C name p i) (hi:i≤ds.length) (hz:ds.length≤100)
  (hb:Ev prog w (G.at (l1++(a,.raw (qSl C d ds))::l2)) n env ρ b (.val (.ref a))) (hl0:ds[i]? =some d0) (h:Ev prog w (G.at (l1++(a,.raw (qSl C d ds))::l2)) n env ρ e d1) (ho:Op2 prog w (G.at (l1++(a,.raw (qSl C d ds))::l2)) n (inplaceOp op) d0 d1 dd) (hf:a2l dd=true) (K:∀s',Stt G H env own W i0 ρ (l1++(a,.raw (qSl C d (d0f ds i dd)))::l2) j0 s'→Q .next s')
  (hh:b1l d0=true:=by rfl) (hf0:a2l d0=true:=by rfl):wpAny (model prog w) A (exec (.AugAssign (.Attribute b name ap) op e pos) env) Q E s:=by
 refine wpAny_AugAssign_AttributeAny (hb A _ s _ E rm t.cd fun ov g0 l0 dov=>?_)
 cases dov
 have w0:=t.keeps l0
 walk_at "c"
 rcases w0.ls (a,.raw (qSl C d ds)) (zB (.inr (.head _)))with⟨_,_,o,eo,vs,rfl,r⟩
 rcases w0.ls _ hd with⟨_,_,od,ed,hod⟩
 walk_at "u"
 have hod':od=emptyDict:=hod
 subst hod'
 obtain⟨v0,hv0,dv0⟩:=r.get hl0
 refine a8o w0.top.inK eo ed ck sk hv0 (dv0.handed hh) ?_
 have z0:=w0.keeps (Kp.tok g0 (g0.toks+1))
 refine h A _ _ _ E rm z0.cd fun v y2 a4 dv=>?_
 have j1:=z0.keeps a4
 refine ho A _ y2 v0 v _ E rm j1.cd.top j1.mem (dv0.flat hf0) dv fun rr l3 x5 dr=>?_
 exact(j1.keeps x5).setSl hd ck sk hi hz (dr.flat hf) K
end
end
section
structure Trn (fl:Bool) (ol ol':List (Addr×Ob)) (s s':Shared):Prop where
 kw:Kw fl (ol.map (·.1)) s s'
 td:b6j s'.heap ol'
 new:∀p∈ol',p.1∈ol.map (·.1)∨s.heap.get? p.1=none
 st:∀b∈ol.map (·.1),∃o,s'.heap.get? b=some o
 nd:(ol'.map (·.1)).Nodup
section
variable {n:Nat} {s:Shared}
theorem Stt.trn (t:Stt G H env own W i0 ρ (ol++r) j0 s) (x:Trn G.gen ol ol' s s'):∃N,(∀b∈N,s.heap.get? b=none)∧Stt G H env own (N++W) i0 ρ (ol'++r) j0 s':=t.after x.kw x.td x.new x.st x.nd
theorem Stt.toTrn (t:Stt G H env own W i0 ρ ol' s s') (wd:Wd G H i0 ol s) (hW:∀b∈W,s.heap.get? b=none∨b∈ol.map (·.1)) (hf:ol'.all (fun p=>a3a p.2)=true):Trn G.gen ol ol' s s':=by
 refine⟨⟨fun c o hc e=>t.kp.1 c o (fun hm=>?_) e,t.kp.2⟩,t.told hf,fun p hp=>(hW _ (t.ls p hp).wW).symm,fun b hb=>?_,t.lsn⟩
 ·rcases hW c hm with h | h
  ·exact nsn h e
  ·exact hc h
 ·obtain⟨p,hp,e⟩:=zM hb
  have e':p.1=b:=e
  exact t.mem b (zB (.inr (e'▸(wd.ls p hp).wW)))
theorem Ev.ditem {p:Pos} {x:Addr} {k:Int} (hv:Ev prog w G n env ρ value (.val (.ref x))) (hi:Ev prog w G n env ρ slice (.int k)) (hx:(x,Ob.raw (·.IsDictOf (intKind prog w) kvs))∈G.ob) (hd:valueAt kvs k=some v)
  (hs:∀o i,subscripted slice false o i=operate [o,i] (getItem o i):=by intro _ _;with_unfolding_all rfl):Ev prog w G n env ρ (.Subscript value slice p) (.val v):=
 fun A M s Q E rm c K=>Subscript_ (hv A M s _ E rm c fun o g0 l0 do_=>hi A M g0 _ E rm (c.keeps l0) fun i u0 y1 di=>by
  cases di with
  | int _ t=>
   cases do_
   obtain⟨o,eo,ho⟩:=((c.keeps l0).keeps y1).obs _ hx
   have hm:=(Heap.dictOf_iff.mpr ⟨o,eo,ho⟩:u0.heap.DictOf (intKind prog w) x kvs).mapOf
   exact tail_any hm.typeIs slot_dict_getitem.lookup (wpAny_getItem_of (intKind_is _ _ _ _) hm hd (K v _ ((l0.trans y1).trans (Kp.tok _ _)) (.val v))) (hs _ _))
theorem Ev.dget {o e:Expr} {apos:Pos} {x:Addr} {k:Int} (hv:Ev prog w G n env ρ o (.val (.ref x))) (hi:Ev prog w G n env ρ e (.int k)) (hx:(x,Ob.raw (·.IsDictOf (intKind prog w) kvs))∈G.ob) (lo:(x == sysModules)=false) (hd:(valueAt kvs k).getD .none=v) (he:eval (.Call (.Attribute o "get" apos) [e] [] pos) env=(do
   let ov ←eval o env
   standAt apos.atName
   let(f,first) ←holding [ov] (getMethod ov "get" pl)
   callWith pos f first (backTo pos (starEach [e] env)) []):=by rfl) (hse:starEach [e] env=(false,eval e env)::starEach [] env:=by rfl):Ev prog w G n env ρ (.Call (.Attribute o "get" apos) [e] [] pos) (.val v):=
 fun A M s Q E rm c K=>MethodCall_ (hv A M s _ E rm c fun ov g0 l0 dov=>by
  cases dov
  have v5:=c.keeps l0
  obtain⟨o,eo,ho⟩:=v5.obs _ hx
  have hD:g0.heap.DictOf (intKind prog w) x kvs:=Heap.dictOf_iff.mpr ⟨o,eo,ho⟩
  refine getMethod_builtin hD.typeIs PySem.F.plainAttrs_dict PySem.F.slot_dict_get PySem.F.type_dict_get hD.mapOf.noDict ?_
  refine callWith_method1 (EvL.go rm (.cons hi hse .nil) v5 fun vs u0 y1 dv=>?_) hse (by rfl)
  cases dv with
  | cons di d1=>
  cases d1
  cases di with
  | int _ t=>
   have a7:=hD.at (fun o e=>y1.hk _ o e)
   exact call_meetsIn PySem.F.slot_dict_get a7.typeIs PySem.F.entry_dict_get (PySem.F.args_dict_get_2 _ _) (meets_dict_get (intKind prog w) x (intKind_is _ _ _ _) lo) ⟨_,a7.mapOf,by rw[hd];exact K v _ ((l0.trans y1).trans (Kp.tok _ _)) (.val v)⟩) he
end
end
section
structure Nd where
 k:Nat
 a:Addr
 d:Addr
 l:Addr
 np:Int
 sc:List Nat
noncomputable def ndV (r:Nd):List D:=[dn r.k,.int r.np,.val (.ref r.l)]
noncomputable def ndO (r:Nd):List (Addr×Ob):=[(r.a,.raw (qSl 70 r.d (ndV r))),(r.d,.raw (· =emptyDict)),(r.l,.list (a0i r.sc))]
noncomputable def a3k (nds:List Nd):List (Int×Value):=nds.map fun r=>((r.k:Int),.ref r.a)
noncomputable def soL (Dn:Addr) (rd:D) (p f:Nat):List (Str×D):=[("_node2info",.val (.ref Dn)),("_ready_nodes",rd),("_npassedout",dn p),("_nfinished",dn f)]
noncomputable def c5e:List Str:=["_node2info","_ready_nodes","_npassedout","_nfinished"]
noncomputable abbrev dcO (prog:Program) (w:World) (kvs:List (Int×Value)):Ob:=.raw (·.IsDictOf (intKind prog w) kvs)
noncomputable def soO (prog:Program) (w:World) (X dX Dn:Addr) (rd:D) (p f:Nat) (nds:List Nd):List (Addr×Ob):=(dX,.ns (soL Dn rd p f))::(X,a0r 167 dX)::(Dn,dcO prog w (a3k nds))::nds.flatMap ndO
structure GD (G:a1k):Prop where
 ni:b6k G.K 70
 s0:a4j G.K 70 "node" 71 0
 s1:a4j G.K 70 "npredecessors" 72 1
 s2:a4j G.K 70 "successors" 73 2
 makes:makesIn G.K 70=true
 keep:keepIn G.K (.ref 70)=true
 mInit:a1m G.K 70 "__init__" 66
 init:FnS G 66 "_NodeInfo.__init__" (a0q 8 1) .none
section
variable {n:Nat} {s:Shared}
theorem c9j (hD:GD G) {k:Nat} (rm:Rm A (n+3)) (wd:Wd G H M [] s)
  (K:∀r s',r.k=k→r.np=0→r.sc=[]→Trn G.gen [] (ndO r) s s'→Q (.ref r.a) s'):wpAny (model prog w) A (call (.ref 70) [.int (k:Int) t1]) Q E s:=by
 have X:=wd.top.inK
 clear Q Q
 obtain⟨hh,g,dr,t,os⟩:=s
 refine wpAny_call (make_core (makes_of X hD.makes) (looks_findIn X hD.mInit.find) (fun self=>bind_fn X self hD.mInit.fn) (.inl rfl) ?_)
 have l0:Kp ⟨hh,g,dr,t,os⟩ ⟨(hh.push emptyDict).push (instObj 70 hh.objs.size),g,dr,t,os⟩:=Kp.of (t:=t) ((Hk.push _ _).trans (Hk.push _ _))
 have hx:(⟨hh,g,dr,t,os⟩:Shared).heap.get? (hh.objs.size+1)=none:=a0c (Nat.le_succ _)
 have hdx:(⟨hh,g,dr,t,os⟩:Shared).heap.get? hh.objs.size=none:=a0c (Nat.le_refl _)
 have ex:((hh.push emptyDict).push (instObj 70 hh.objs.size)).get? (hh.objs.size+1)=some (instObj 70 hh.objs.size):=by heap_get
 have edx:((hh.push emptyDict).push (instObj 70 hh.objs.size)).get? hh.objs.size=some emptyDict:=by heap_get
 walk_at "c"
 clear X X
 rcases(⟨_,rfl⟩:∃x,x=hh.objs.size+1)with⟨x,hxe⟩
 rcases(⟨_,rfl⟩:∃d,d=hh.objs.size)with⟨d,hde⟩
 walk_at "u"
 have hne:x≠d:=by omega
 rw[←hxe]at hx ex ⊢
 rw[←hde]at hdx edx ex l0 ⊢
 have w5:=wd.new (ol:=[(x,.raw (qSl 70 d [])),(d,.raw (· =emptyDict))]) l0 (by simp[hne]) (fun p hp=>by
  clear hne hde hxe wd
  rcases a0o hp with rfl | hp
  ·exact⟨hx,_,ex,[],rfl,.nil⟩
  ·rw[zS hp];exact⟨hdx,_,edx,rfl⟩)
 have down:∀c,((hh.push emptyDict).push (instObj 70 d)).get? c=none→(⟨hh,g,dr,t,os⟩:Shared).heap.get? c=none:=fun c e=>by
  clear hne hde hxe edx ex wd
  cases e':(⟨hh,g,dr,t,os⟩:Shared).heap.get? c with
  | none=>rfl
  | some o=>exact nsn (show _=none from e) (l0.hk c o e')
 refine a5y (n:=n+1) (ρ:=[("self",.val (.ref x)),("node",dn k)]) (binds:=[("self",_),("node",_)]) hD.init (rm.tc (n:=n+2) _) w5.top w5.mem (fun name doc pm an cdv ct=>BindsTo.of_eq rfl) rfl (.cons (.val (.ref x)) (.cons (.int k t1) .nil)) (fun y hy=>.inl (by
   have:(([("self",.val (.ref x)),("node",dn k)]:List (Str×D)).map (·.1)).all (fun y=>decide ((a0a (a0q 8 1)).names.lookup y=some .local))=true:=by kernel_rfl
   exact of_decide_eq_true (all_eq_true.mp this y hy))) (a0d ∅) (by decide +kernel) (a0d ∅) ?_ ∅ ∅ ∅
 intro L cd g0 hL t hW _
 walk_at "q"
 clear hL g0 hne hde hxe edx ex os dr g hh wd
 obtain⟨W₁,w0,b4⟩:=t.openW w5 hW
 have rm':=(rm.tc (n:=n+2) ⟨[.ref 70,.int (k:Int) t1],[]⟩).deeper (fnv "_NodeInfo.__init__" (a0a (a0q 8 1)) L 66 cd)
 walk_at "x"
 refine a6o (l1:=[]) (l2:=[(d,.raw (· =emptyDict))]) w0 rm' (.tail _ (.head _)) hD.ni hD.s0 (Nat.le_refl _) (le_of_ble_eq_true rfl) (.name (d:=.val (.ref x)) ∅) (.name (d:=dn k) ∅) rfl fun u0 z0=>?_
 walk_at "x"
 refine a6o (l1:=[]) (l2:=[(d,.raw (· =emptyDict))]) z0 rm' (.tail _ (.head _)) hD.ni hD.s1 (Nat.le_refl _) (le_of_ble_eq_true rfl) (.name (d:=.val (.ref x)) ∅) .int rfl fun y2 j1=>?_
 have j1:Stt _ _ _ _ _ _ _ ((x,.raw (qSl 70 d [dn k,.int 0]))::[(d,.raw (· =emptyDict))]) _ _:=j1
 walk_at "x"
 refine plainObj_wpAny_Assign_Attribute (wpAny_List (EvL.go rm' (.nil:EvL prog w (G.at _) (n+1) _ _ [] []) j1.cd fun vs l3 x5 dv=>⟨by rw[dv.length];decide,?_⟩)) ∅
 clear y2 z0 u0 w0 W₁ hW t L rm t1
 cases dv
 have z1:=j1.keeps x5
 clear j1 j1
 obtain⟨l,hl⟩:∃l,l=l3.heap.objs.size:=⟨_,rfl⟩
 have hln:l3.heap.get? l=none:=by rw[hl];exact a0c (Nat.le_refl _)
 have yB:=(z1.fresh_of hln).2.2.2
 rw[←hl]
 have u1:=(z1.own1 (ob:=.list []) (Kp.push l3 {cls:=.type "list",data:=.seq ([]:List Value).toArray 0}) hln (by rw[hl];exact get?_push_size _ rfl) ⟨[],0,rfl,.nil⟩).permP (ol':=(x,.raw (qSl 70 d [dn k,.int 0]))::(d,.raw (· =emptyDict))::[(l,.list [])]) ((List.Perm.swap _ _ _).trans ((List.Perm.cons _ (List.Perm.swap _ _ _)))).symm
 refine(Ev.name (d:=.val (.ref x)) ∅ :Ev prog w (G.at _) (n+1) _ _ _ _) _ _ _ _ _ rm' u1.cd fun ov i5 b9 dov=>?_
 clear i5 ov hln hl z1 rm' cd
 cases dov
 refine(u1.keeps b9).setSl (l1:=[]) (.tail _ (.head _)) hD.ni hD.s2 (Nat.le_refl _) (le_of_ble_eq_true rfl) (.val (.ref l)) fun i4 j3=>wpAny_execs_nil ?_
 have j3:Stt _ _ _ _ _ _ _ (ndO ⟨k,x,d,l,0,[]⟩) _ _:=j3
 have tr:=j3.toTrn w5 (fun c hc=>by
  clear j3 dov b9 u1 w5 hD
  rcases a0o hc with rfl | hc
  ·exact .inl yB
  ·exact b4 c hc) rfl
 refine⟨rfl,K ⟨k,x,d,l,0,[]⟩ i4 rfl rfl rfl ⟨⟨fun c o _ e=>tr.kw.1 c o (fun hm=>?_) (l0.hk c o e),?_⟩,tr.td,fun p hp=>.inr ?_,(fun b hb=>absurd hb not_mem_nil),tr.nd⟩⟩
 ·clear c j3 dov b9 u1 yB l b4 w5 d x K hD
  rcases zC hm with h | h
  ·rw[h,hx]at e;cases e
  ·rw[zS h,hdx]at e;cases e
 ·have k:=(l0.kw (fl:=G.gen) (W:=[])).2
  exact⟨k.1.trans tr.kw.2.1,tr.kw.2.2.1.trans k.2.1,tr.kw.2.2.2.trans k.2.2⟩
 ·clear c j3 dov b9 u1 yB l b4 e w5 d x l0 K hD
  rcases tr.new p hp with h | h
  ·clear tr p
   rcases zC h with h | h
   ·rw[h];exact hx
   ·rw[zS h];exact hdx
  ·exact down _ h
end
end
section
section
variable {n:Nat} {s:Shared}
theorem a2h {sc:Scope} (h:((ρ.map (·.1)).all fun y=>decide (sc.names.lookup y=some .local))=true):∀x∈ρ.map (·.1),sc.names.lookup x=some .local∨sc.names.lookup x=some .cell:=
 fun y hy=>.inl (of_decide_eq_true (all_eq_true.mp h y hy))
theorem c2n {f:Addr} {rest:List Value} {kw:List (Str×Value)} {ol:Addr→Addr→List (Addr×Ob)} (hm:makesIn G.K C=true) (mi:a1m G.K C "__init__" f) (wd:Wd G H M [] s)
  (ho:∀x d,(ol x d).map (·.1)=[d,x]∧∀(h:Heap) (P:Addr→Option Obj),h.get? x=some (instObj C d)→h.get? d=some emptyDict→∀p∈ol x d,Hit P h p)
  (h:∀x d g0,Wd G H ([d,x]++M) (ol x d) g0→(∀ol' u0,Trn G.gen (ol x d) ol' g0 u0→Trn G.gen [] ol' s u0)→codeAny (model prog w) (tcA A ⟨.ref C::rest,kw⟩) (.call (.ref f) ⟨.ref x::rest,kw⟩) (InitBack x fun r s'=>match r with
   | .ok (.ret v)=>Q v s'
   | .ok _=>False
   | .error e=>E e s') g0):
  wpAny (model prog w) A (call (.ref C) rest kw) Q E s:=by
 have X:=wd.top.inK
 obtain⟨hh,g,dr,t,os⟩:=s
 refine wpAny_call (make_core (makes_of X hm) (looks_findIn X mi.find) (fun self=>bind_fn X self mi.fn) (.inl rfl) ?_)
 have l0:Kp ⟨hh,g,dr,t,os⟩ ⟨(hh.push emptyDict).push (instObj C hh.objs.size),g,dr,t,os⟩:=Kp.of (t:=t) ((Hk.push _ _).trans (Hk.push _ _))
 have hx:(⟨hh,g,dr,t,os⟩:Shared).heap.get? (hh.objs.size+1)=none:=a0c (Nat.le_succ _)
 have hdx:(⟨hh,g,dr,t,os⟩:Shared).heap.get? hh.objs.size=none:=a0c (Nat.le_refl _)
 have ex:((hh.push emptyDict).push (instObj C hh.objs.size)).get? (hh.objs.size+1)=some (instObj C hh.objs.size):=by heap_get
 have edx:((hh.push emptyDict).push (instObj C hh.objs.size)).get? hh.objs.size=some emptyDict:=by heap_get
 obtain⟨e1,e2⟩:=ho (hh.objs.size+1) hh.objs.size
 have hn:∀p∈ol (hh.objs.size+1) hh.objs.size,(⟨hh,g,dr,t,os⟩:Shared).heap.get? p.1=none:=fun p hp=>by
  have:p.1∈[hh.objs.size,hh.objs.size+1]:=e1▸zN ⟨p,hp,rfl⟩
  rcases zC this with h | h
  ·rw[h];exact hdx
  ·rw[zS h];exact hx
 have w5:=wd.new (ol:=ol (hh.objs.size+1) hh.objs.size) l0 (by rw[e1];simp) fun p hp=>⟨hn p hp,e2 _ _ ex edx p hp⟩
 rw[e1]at w5
 refine h _ _ _ w5 fun ol' u0 tr=>?_
 refine⟨⟨fun c o _ e=>tr.kw.1 c o (fun hm=>?_) (l0.hk c o e),?_⟩,tr.td,fun p hp=>.inr ?_,(fun b hb=>absurd hb not_mem_nil),tr.nd⟩
 ·obtain⟨p,hp,e'⟩:=zM hm
  have:=hn p hp
  rw[show p.1=c from e',e]at this;cases this
 ·have k:=(l0.kw (fl:=G.gen) (W:=[])).2
  exact⟨k.1.trans tr.kw.2.1,tr.kw.2.2.1.trans k.2.1,tr.kw.2.2.2.trans k.2.2⟩
 ·rcases tr.new p hp with h | h
  ·obtain⟨q,hq,e'⟩:=zM h
   exact e'▸hn q hq
  ·cases e':(⟨hh,g,dr,t,os⟩:Shared).heap.get? p.1 with
   | none=>rfl
   | some o=>exact nsn h (l0.hk _ o e')
end
end
section
structure GE (G:a1k):Prop where
 d:GD G
 cls:a3f G.K 167
 attr:∀a∈c5e,a3c G.K 167 a
 makes:makesIn G.K 167=true
 keep:keepIn G.K (.ref 167)=true
 mInit:a1m G.K 167 "__init__" 103
 init:FnS G 103 "TopologicalSorter.__init__" (a0q 10 0) (.ref 96)
 d96:G.objs 96=some {cls:=.type "tuple",data:=.seq #[.none] 0}
 mGn:a1m G.K 167 "_get_nodeinfo" 110
 gn:FnS G 110 "TopologicalSorter._get_nodeinfo" (a0q 10 1) .none
 gNI:G.glb "_NodeInfo"=some (some (.ref 70))
section
variable {n:Nat} {s:Shared}
theorem c8f (hE:GE G) (rm:Rm A (n+3)) (wd:Wd G H M [] s)
  (K:∀X dX Dn s',Trn G.gen [] (soO prog w X dX Dn .none 0 0 []) s s'→Q (.ref X) s'):wpAny (model prog w) A (call (.ref 167) []) Q E s:=by
 refine c2n (ol:=fun x d=>[(d,.ns []),(x,a0r 167 d)]) hE.makes hE.mInit wd (fun x d=>⟨rfl,fun h P e1 e2 p hp=>?_⟩) fun x d g0 w5 tr=>?_
 ·clear g0 wd
  rcases a0o hp with rfl | hp
  ·exact⟨_,e2,[],0,rfl,.nil⟩
  ·rw[zS hp];exact⟨_,e1,rfl⟩
 refine a5y (n:=n+1) (ρ:=[("self",.val (.ref x)),("graph",.none)]) (binds:=[("self",_),("graph",_)]) hE.init (rm.tc (n:=n+2) _) w5.top w5.mem (fun name doc pm an cdv ct=>BindsTo.of_defaults (T:=96) rfl (w5.top.objs _ _ hE.d96) rfl rfl rfl) rfl (.cons (.val (.ref x)) (.cons .none .nil)) (a2h ∅) (a0d ∅) (by decide +kernel) (a0d ∅) ?_ ∅ ∅ ∅
 intro L cd u0 hL t hW _
 clear hL g0 wd
 obtain⟨W₁,w0,b4⟩:=t.openW w5 hW
 have rm':=(rm.tc (n:=n+2) ⟨[.ref 167],[]⟩).deeper (fnv "TopologicalSorter.__init__" (a0a (a0q 10 0)) L 103 cd)
 have hx:(x,a0r 167 d)∈[(x,a0r 167 d)]:=.head _
 refine a5e (ob:=dcO prog w []) w0 rm' hx hE.cls (hE.attr _ (by decide)) ∅ (fun Q K=>wpAny_Dict_empty (K _ _ (Kp.push _ _) (a0c (Nat.le_refl _)) (by
  clear W₁ hW t cd L rm Q
  obtain⟨o,ho,hd⟩:=Heap.dictOf_iff.mp (Heap.DictOf.new (knd:=intKind prog w) u0.heap)
  exact⟨o,ho,hd⟩))) rfl (lf:=fun a=>(soL a .none 0 0).take 1) (fun _=>∅) fun Dn y2 hDn j1=>?_
 have hDn:=(w0.fresh_of hDn).2.2.2
 have hx:(x,a0r 167 d)∈[(Dn,dcO prog w []),(x,a0r 167 d)]:=.tail _ (.head _)
 refine a1b j1 rm' hx hE.cls (hE.attr _ (by decide)) ∅ .noneC (l':=(soL Dn .none 0 0).take 2) ∅ fun l3 z1=>?_
 refine a1b z1 rm' hx hE.cls (hE.attr _ (by decide)) ∅ .int (l':=(soL Dn .none 0 0).take 3) ∅ fun y3 u1=>?_
 refine a1b u1 rm' hx hE.cls (hE.attr _ (by decide)) ∅ .int (l':=soL Dn .none 0 0) ∅ fun i5 z2=>?_
 refine a4u z2 rm' (Ts.cmp (.name (d:=.none) ∅) .noneC (a1d fun v e=>by cases e)) fun i4 j3=>wpAny_execs_nil ?_
 have z3:=j3.permP (ol':=soO prog w x d Dn .none 0 0 []) (List.Perm.cons _ (List.Perm.swap _ _ _))
 exact⟨rfl,K x d Dn i4 (tr _ _ (z3.toTrn w5 (fun c hc=>by
  clear z3 z2 i5 u1 y3 z1 l3 hx rm' w0 W₁ hW t u0 cd L tr w5 d x K rm Q hE
  rcases a0o hc with rfl | hc
  ·exact .inl hDn
  ·exact b4 c hc) rfl))⟩
end
end
section
theorem b4i {nds:List Nd} {k:Nat} {r:Nd} (h:nds.find? (fun r=>r.k == k)=some r):valueAt (a3k nds) (k:Int)=some (.ref r.a):=by
 induction nds with
 | nil=>cases h
 | cons q nds ih=>
  rw[find?_cons]at h
  unfold valueAt a3k
  rw[map_cons,find?_cons]
  by_cases e:q.k=k
  ·simp only[e,beq_self_eq_true]at h
   cases h
   simp[e]
  ·have e1:(q.k == k)=false:=by simpa using e
   have e2:¬((q.k:Int)=(k:Int)):=by omega
   rw[e1]at h
   simp only[e2,decide_false]
   exact ih h
theorem c2k {nds:List Nd} {k:Nat} (h:nds.find? (fun r=>r.k == k)=none):valueAt (a3k nds) (k:Int)=none∧∀v,stored (a3k nds) (k:Int) v=a3k nds++[((k:Int),v)]:=by
 have hn:∀kv∈a3k nds,¬kv.1=(k:Int):=fun kv hkv e=>by
  obtain⟨r,hr,rfl⟩:=zM hkv
  have:=List.find?_eq_none.mp h r hr
  have e':(r.k:Int)=(k:Int):=e
  simp only[beq_iff_eq]at this
  omega
 refine⟨?_,fun v=>?_⟩
 ·unfold valueAt
  rw[List.find?_eq_none.mpr fun kv hkv=>by simpa using hn kv hkv];rfl
 ·unfold stored
  refine if_neg fun ha=>?_
  obtain⟨kv,hkv,e⟩:=List.any_eq_true.mp ha
  exact hn kv hkv (of_decide_eq_true e)
theorem c2b (nds:List Nd):(nds.flatMap ndO).all (fun p=>a3a p.2)=true:=by
 rw[all_eq_true]
 intro p hp
 obtain⟨r,_,hr⟩:=mem_flatMap.mp hp
 rcases a0o hr with rfl | hr
 ·rfl
 rcases a0o hr with rfl | hr
 ·rfl
 ·rw[zS hr]
  show(a0i r.sc).all a2l=true
  rw[all_eq_true]
  intro d hd
  obtain⟨x,_,rfl⟩:=zM hd
  rfl
theorem a6q {rd:D} {p f:Nat} {nds:List Nd} (h:a2l rd=true):(soO prog w X dX Dn rd p f nds).all (fun p=>a3a p.2)=true:=by
 unfold soO
 rw[all_cons,all_cons,all_cons,c2b]
 show((true && (a2l rd && (true && (true && true)))) && (true && (true && true)))=true
 rw[h];rfl
section
variable {n:Nat} {s:Shared}
theorem b2b {Q:Flow→Shared→Prop} {x:Str} {e:Expr} {np cp ip:Pos} {k:Nat} {rest:List Stmt} (t:Stt G H env own W i0 ρ ol j0 s) (rm:Rm A n) (h:Ev prog w (G.at ol) n env ρ e (.val v)) (hv:plainIs v .none=true)
  (K:∀s',Stt G H env own W i0 ((x,.val v)::ρ) ol j0 s'→wpAny (model prog w) A (execs (if a5a (.val v)then body else orelse) env) (fun f s''=>match f with | .next=>wpAny (model prog w) A (execs rest env) Q E s'' | f=>Q f s'') E s')
  (hx:env.kindOf x=some .local:=by kernel_rfl):wpAny (model prog w) A (execs (.If (.Compare (.NamedExpr (.Name x xp) e np) [.Is] [.Constant .none k cp] ip) body orelse pos::rest) env) Q E s:=by
 walk_at "x"
 refine wpAny_If (wpAny_isTrue_Compare1 (wpAny_NamedExpr (h _ _ _ _ _ rm t.cd fun v' g0 l0 dv=>?_)))
 cases dv
 refine wpAny_assign_Name ((t.keeps l0).put (.inl hx) (.val v) fun u0 z0 _=>?_)
 refine(Ev.noneC:Ev prog w (G.at ol) n env ((x,.val v)::ρ) _ _) _ _ _ _ _ rm z0.cd fun vn y2 a4 dn=>?_
 have j1:=z0.keeps a4
 refine(a0w (d:=.val v) fun u e=>by cases e;exact hv) _ _ _ _ _ _ _ rm j1.cd.top j1.mem (.val v) dn fun vb l3 x5 db=>?_
 cases db
 have z:=K l3 (j1.keeps x5)
 refine wpAny_truthy_bool ?_
 cases hb:a5a (.val v) <;> rw[hb]at z <;> exact z
noncomputable def Gn (nds:List Nd) (k:Nat) (nds':List Nd) (r:Nd):Prop:=r.k=k∧((r∈nds∧nds'=nds)∨((∀q∈nds,q.k≠k)∧r.np=0∧r.sc=[]∧nds'=nds++[r]))
theorem c9t (hE:GE G) {rd:D} {p f k:Nat} {nds:List Nd} (rm:Rm A (n+4)) (hrd:a2l rd=true) (hlen:nds.length≤100) (hlo:(Dn == sysModules)=false) (wd:Wd G H M (soO prog w X dX Dn rd p f nds) s)
  (K:∀nds' r s',Gn nds k nds' r→Trn G.gen (soO prog w X dX Dn rd p f nds) (soO prog w X dX Dn rd p f nds') s s'→Q (.ref r.a) s'):wpAny (model prog w) A (call (.ref 110) [.ref X,.int (k:Int) t1]) Q E s:=by
 refine a0u (n:=n+3) (args:=⟨[_,_],[]⟩) (ρ:=[("self",.val (.ref X)),("node",dn k)]) (binds:=[("self",_),("node",_)]) hE.gn rm wd.top wd.mem (fun name doc pm an cdv ct=>BindsTo.of_eq rfl) rfl (.cons (.val (.ref X)) (.cons (.int k t1) .nil)) (a2h ∅) (a0d ∅) (by decide +kernel) (a0d ∅) ?_ ∅ ∅ ∅
 intro L cd g0 hL t hW
 walk_at "q"
 obtain⟨W₁,w0,b4⟩:=t.openW wd hW
 have rm':=rm.deeper (fnv "TopologicalSorter._get_nodeinfo" (a0a (a0q 10 1)) L 110 cd)
 have hX:(X,a0r 167 dX)∈(X,a0r 167 dX)::(Dn,dcO prog w (a3k nds))::nds.flatMap ndO:=.head _
 cases hf:nds.find? (fun r=>r.k == k)with
 | some r=>
  have hr:=List.mem_of_find?_eq_some hf
  have hrk:r.k=k:=by simpa using List.find?_some hf
  refine b2b w0 rm' (Ev.dget (G:=G.at (soO prog w X dX Dn rd p f nds)) (v:=.ref r.a) (.self ∅ hX hE.cls (hE.attr _ (by decide)) (d:=.val (.ref Dn)) ∅) (.name ∅) (.tail _ (.tail _ (.head _))) hlo (by rw[b4i hf];rfl)) rfl fun u0 z0=>wpAny_execs_nil ?_
  show wpAny _ _ (execs _ _) _ _ _
  obtain⟨v,hv,dv⟩:=z0.cd.vars "result" (.val (.ref r.a)) ∅
  cases dv
  exact wpAny_execs_cons (wpAny_Return_some (a1f z0.kind hv (K nds r u0 ⟨hrk,.inl ⟨hr,rfl⟩⟩ (z0.toTrn wd b4 (a6q hrd)))))
 | none=>
  obtain⟨hv,hst⟩:=c2k hf
  refine b2b w0 rm' (Ev.dget (G:=G.at (soO prog w X dX Dn rd p f nds)) (v:=.none) (.self ∅ hX hE.cls (hE.attr _ (by decide)) (d:=.val (.ref Dn)) ∅) (.name ∅) (.tail _ (.tail _ (.head _))) hlo (by rw[hv];rfl)) rfl fun u0 z0=>?_
  walk_at "x"
  refine wpAny_Assign_two (wpAny_Call_NameR (a1i z0.kind z0.glob z0.top ∅ hE.gNI (callWith_K z0.top.inK hE.d.keep (EvL.go rm' (.one (.name (d:=dn k) ∅)) z0.cd fun vs y2 a4 dv=>⟨(z0.keeps a4).top.inK,?_⟩)))) ∅ ∅
  cases dv with
  | cons d0 d1=>
  cases d1
  cases d0
  have j1:=z0.keeps a4
  refine c9j (n:=n) (k:=k) hE.d rm' (j1.wd.pick (fun p hp=>absurd hp not_mem_nil) nodup_nil) fun r l3 hk hnp hsc tr=>?_
  obtain⟨N,hN,z1⟩:=Stt.trn (ol:=[]) (r:=soO prog w X dX Dn rd p f nds) j1 tr
  have z1:=z1.permP (ol':=[(dX,.ns (soL Dn rd p f)),(X,a0r 167 dX)]++(Dn,dcO prog w (a3k nds))::(nds.flatMap ndO++ndO r)) (List.perm_append_comm (l₁:=soO prog w X dX Dn rd p f nds) (l₂:=ndO r))
  have hX':(X,a0r 167 dX)∈(X,a0r 167 dX)::(Dn,dcO prog w (a3k nds))::(nds.flatMap ndO++ndO r):=.head _
  refine kas_sub ?_
  refine(Ev.self (ol:=(X,a0r 167 dX)::(Dn,dcO prog w (a3k nds))::(nds.flatMap ndO++ndO r)) ∅ hX' hE.cls (hE.attr _ (by decide)) (d:=.val (.ref Dn)) ∅) _ _ _ _ _ rm' z1.cd fun ov y3 k7 dov=>?_
  cases dov
  have u1:=z1.keeps k7
  obtain⟨vk,hvk,dvk⟩:=u1.cd.vars "node" (dn k) ∅
  cases dvk
  refine a1f u1.kind hvk ?_
  obtain⟨_,_,oD,eD,hD⟩:=u1.ls (Dn,dcO prog w (a3k nds)) (.tail _ (.tail _ (.head _)))
  refine wpAny_setItem_pairs (intKind_is _ _ _ _) (Heap.dictOf_iff.mpr ⟨oD,eD,hD⟩) (fun h' hd hs=>?_) (by rw[a3k,length_map,sizeLine_eq];omega)
  rw[hst,show a3k nds++[((k:Int),Value.ref r.a)]=a3k (nds++[r]) by simp[a3k,hk]]at hd
  obtain⟨o',eo',ho'⟩:=Heap.dictOf_iff.mp hd
  have j3:=u1.turnAt (Kw.sameBut (tk:=y3.toks+1) hs) eo' (ob':=dcO prog w (a3k (nds++[r]))) ho'
  refine wpAny_assign_Name (j3.put (.inl ∅) (.val (.ref r.a)) fun d6 z3 _=>wpAny_execs_nil ?_)
  show wpAny _ _ (execs _ _) _ _ _
  obtain⟨v,hv,dv⟩:=z3.cd.vars "result" (.val (.ref r.a)) ∅
  cases dv
  have e:soO prog w X dX Dn rd p f (nds++[r])=[(dX,Ob.ns (soL Dn rd p f)),(X,a0r 167 dX)]++(Dn,dcO prog w (a3k (nds++[r])))::(nds.flatMap ndO++ndO r):=by simp[soO]
  rw[←e]at z3
  walk_at "x"
  refine wpAny_Return_some (a1f z3.kind hv (K (nds++[r]) r d6 ⟨hk,.inr ⟨fun q hq e=>?_,hnp,hsc,rfl⟩⟩ (z3.toTrn wd (fun c hc=>?_) (a6q hrd))))
  ·have:=List.find?_eq_none.mp hf q hq
   simp[e]at this
  ·rcases zA hc with hc | hc
   ·exact .inl (j1.fresh_of (hN c hc)).2.2.2
   ·exact b4 c hc
end
end
section
section
variable {n:Nat} {s:Shared}
theorem It.tuple {e:Expr} (h:Ev prog w G n env ρ e (.tuple ds)):It prog w G n env ρ e ds:=
 fun A M s Q E rm c K=>h A M s _ E rm c fun v g0 l0 dv=>by
  cases dv with
  | tuple e r=>
   rename_i a vs i
   have hlt:=lt_size (a0b e).1
   refine wpAny_pyIter_tuple (a5x e) (K _ _ g0.heap (l0.trans (Kp.push _ _)) l0.hk (Hk.push _ _) ?_)
   have W:=Walks.tuple (prog:=prog) (w:=w) rm.hd g0.heap.objs.size a (Nat.ne_of_lt hlt) vs.toArray
   rw[show vs.toArray.size=ds.length from by rw[size_toArray,r.length]]at W
   refine⟨_,_,_,_,W,⟨⟨_,get?_push_size _ rfl,rfl,rfl⟩,(a5x e).push _⟩,?_,?_,?_,?_,?_,?_⟩
   ·intro b hb;rw[zS hb];exact a0c (Nat.le_refl _)
   ·intro j h st b hb;rw[zS hb];obtain⟨⟨o,e,_⟩,_⟩:=st;exact⟨o,e⟩
   ·intro b hb
    rcases a0o hb with rfl | hb
    ·exact⟨_,get?_push_size _ rfl⟩
    ·rw[zS hb];exact⟨_,get?_push_of_some _ (a0b e).1⟩
   ·intro b hb
    rcases a0o hb with rfl | hb
    ·exact(c.keeps l0).fresh (Nat.le_refl _)
    ·rw[zS hb];exact(a0b e).2
   ·intro tgt i v s Q E st hQ;obtain⟨⟨o,e,hc,hd⟩,_⟩:=st;exact b2s e hc hd (by decide) hQ
   ·intro j v hv
    obtain⟨d,hd,dv⟩:=r.get' (by simpa using hv)
    exact⟨d,hd,g0.heap,Hk.push _ _,Hk.refl _,dv⟩
theorem b3t {Q:Flow→Shared→Prop} {b e:Expr} {a:Addr} {d:D} {cp:Pos} {rest:List Stmt} (t:Stt G H env own W i0 ρ (l1++(a,.list ds)::l2) j0 s) (rm:Rm A n) (hb:Ev prog w (G.at (l1++(a,.list ds)::l2)) n env ρ b (.val (.ref a)))
  (h:Ev prog w (G.at (l1++(a,.list ds)::l2)) n env ρ e d) (hsz:ds.length≤sizeLine)
  (K:∀s',Stt G H env own W i0 ρ (l1++(a,.list (ds++[d]))::l2) j0 s'→wpAny (model prog w) A (execs rest env) Q E s')
  (hi:interactive env=false:=by kernel_rfl) (hs:swapsWith (.Call (.Attribute b "append" ap) [e] [] cp) none pos.line env=pure false:=by kernel_rfl)
  (hbase:attributeBase b "append" env (eval b env)=eval b env:=by kernel_rfl)
  (hfew:((backTo cp (starEach [e] env)).all (fun x=>!x.1) && (backToKw cp (keywordEach [] env)).all (fun x=>x.1.isSome) && decide (([e]:List Expr).length+([]:List Keyword).length+(if([]:List Keyword).isEmpty then 0 else 1) < 30))=true:=by kernel_rfl)
  (hline:(ap.endLine == cp.line)=true:=by kernel_rfl) (htrees:backTo cp (starEach [e] env)=[(false,eval e env)]:=by kernel_rfl):
  wpAny (model prog w) A (execs (.Expr (.Call (.Attribute b "append" ap) [e] [] cp) pos::rest) env) Q E s:=by
 walk_at "x"
 refine wpAny_Expr (wpAny_Call_append hbase hfew hline htrees ?_) hi hs
 refine hb A _ s _ E rm t.cd fun ov g0 l0 dov=>?_
 cases dov
 have t:=t.keeps l0
 obtain⟨a1,_,o,e0,vs,ep,rfl,r⟩:=t.ls (a,.list ds) (zB (.inr (.head _)))
 refine⟨a,vs.toArray,rfl,⟨_,_,e0,rfl,rfl,rfl⟩,?_⟩
 refine h A _ g0 _ E rm t.cd fun y u0 y1 dy=>?_
 have z0:=t.keeps y1
 obtain⟨_,_,o,e2,vs2,ep2,rfl,r2⟩:=z0.ls (a,.list ds) (zB (.inr (.head _)))
 refine wpAny_list_append_plain ⟨ep2,e2⟩ (fun h' hl hs'=>?_) (by rw[size_toArray,r2.length];exact hsz)
 obtain⟨ep3,e3⟩:=hl
 refine K _ (z0.turnAt (Kw.sameBut hs') (by simpa using e3) ⟨vs2++[y],ep3,rfl,?_⟩)
 exact(r2.append (.cons dy .nil)).mono (a0x fun b o e hb=>(hs'.2 b fun e'=>hb (e'▸zB (.inl a1))).trans e)
theorem Stt.eqOl (t:Stt G H env own W i0 ρ ol j0 s) (e:ol=ol'):Stt G H env own W i0 ρ ol' j0 s:=e▸t
theorem b8a {m:Nat} (h:ds.length=m) (hm:m < 2 ^ 62):Op1 prog w G n (fun a=>call (.builtin "len") [a]) (.tuple ds) (dn m):=fun A M s a Q E _ _ _ da K=>by
 cases da with
 | tuple e r=>
  rename_i a vs i
  refine len_tuple ⟨_,(a0b e).1,rfl,i,rfl⟩ (by rw[size_toArray,r.length];omega) ?_
  rw[show((vs.toArray.size:Nat):Int)=(m:Int)from by rw[size_toArray,r.length,h]]
  exact K _ _ (Kp.tok _ _) (.int _ _)
theorem b2l {a b:Int}:Op2 prog w G n (inplaceOp .Add) (.int a) (.int b) (.int (a+b)):=fun A M s x y Q E _ _ _ da db K=>by
 cases da;cases db;exact iadd_int (K _ _ (Kp.tok _ _) (.int _ _))
theorem c5t {a b:Int}:Op2 prog w G n (inplaceOp .Sub) (.int a) (.int b) (.int (a - b)):=fun A M s x y Q E _ _ _ da db K=>by
 cases da;cases db;exact isub_int (K _ _ (Kp.tok _ _) (.int _ _))
end
end
section
noncomputable abbrev Al:=List (Nat×Int×List Nat)
noncomputable def a1q (nds:List Nd):Al:=nds.map fun r=>(r.k,r.np,r.sc)
noncomputable def a6m (al:Al) (k:Nat):Al:=if al.any (fun e=>e.1 == k)then al else al++[(k,0,[])]
noncomputable def a3n (al:Al) (k:Nat) (n:Int):Al:=al.map fun e=>if e.1=k then(e.1,e.2.1+n,e.2.2)else e
noncomputable def a5v (al:Al) (p k:Nat):Al:=al.map fun e=>if e.1=p then(e.1,e.2.1,e.2.2++[k])else e
noncomputable def b9y (al:Al) (k:Nat) (ps:List Nat):Al:=ps.foldl (fun al p=>a5v (a6m al p) p k) (a3n (a6m al k) k ps.length)
theorem Gn.abs {nds nds':List Nd} {k:Nat} {r:Nd} (g:Gn nds k nds' r):a1q nds'=a6m (a1q nds) k∧r∈nds'∧((nds.map (·.k)).Nodup→(nds'.map (·.k)).Nodup):=by
 obtain⟨hk,h⟩:=g
 rcases h with⟨hr,rfl⟩ | ⟨hn,h1,h2,rfl⟩
 ·refine⟨?_,hr,id⟩
  unfold a6m
  rw[if_pos]
  rw[List.any_eq_true]
  exact⟨_,zN ⟨r,hr,rfl⟩,by simp[hk]⟩
 ·refine⟨?_,by simp,fun h=>?_⟩
  ·unfold a6m
   rw[if_neg]
   ·simp[a1q,hk,h1,h2]
   ·intro ha
    walk_at "c"
    rcases List.any_eq_true.mp ha with⟨e,he,e2⟩
    rcases zM he with⟨q,hq,rfl⟩
    walk_at "u"
    exact hn q hq (by simpa using e2)
  ·rw[map_append,nodup_append]
   refine⟨h,by simp,fun a ha b hb e=>?_⟩
   obtain⟨q,hq,rfl⟩:=zM ha
   rw[map_cons,map_nil,mem_singleton]at hb
   exact hn q hq (by rw[e,hb,hk])
theorem a5n {n1 n2:List Nd} {r r':Nd} {f:Nat×Int×List Nat→Nat×Int×List Nat} (hk:((n1++r::n2).map (·.k)).Nodup) (hr:(r'.k,r'.np,r'.sc)=f (r.k,r.np,r.sc)):a1q (n1++r'::n2)=(a1q (n1++r::n2)).map fun e=>if e.1=r.k then f e else e:=by
 have h1:∀q∈n1,q.k≠r.k:=fun q hq e=>by
  rw[map_append,nodup_append]at hk
  exact hk.2.2 q.k (zN ⟨q,hq,rfl⟩) r.k (by simp) e
 have h2:∀q∈n2,q.k≠r.k:=fun q hq e=>by
  rw[map_append,nodup_append,map_cons,nodup_cons]at hk
  exact hk.2.1.1 (e▸zN ⟨q,hq,rfl⟩)
 have key:∀l:List Nd,(∀q∈l,q.k≠r.k)→(a1q l).map (fun e=>if e.1=r.k then f e else e)=a1q l:=fun l h=>by
  unfold a1q
  rw[map_map]
  exact map_congr_left fun q hq=>by simp[h q hq]
 have e1:=key n1 h1
 have e2:=key n2 h2
 unfold a1q at e1 e2 ⊢
 rw[map_append,map_append,map_append,map_cons,map_cons,map_cons,e1,e2,if_pos rfl,hr]
theorem b0k {rd:D} {p f:Nat} {n1 n2:List Nd} {r:Nd}:soO prog w X dX Dn rd p f (n1++r::n2)=((dX,.ns (soL Dn rd p f))::(X,a0r 167 dX)::(Dn,dcO prog w (a3k (n1++r::n2)))::n1.flatMap ndO)++(r.a,.raw (qSl 70 r.d (ndV r)))::(r.d,.raw (· =emptyDict))::(r.l,.list (a0i r.sc))::n2.flatMap ndO:=by
 simp[soO,ndO]
theorem a8n {rd:D} {p f:Nat} {n1 n2:List Nd} {r:Nd}:soO prog w X dX Dn rd p f (n1++r::n2)=((dX,.ns (soL Dn rd p f))::(X,a0r 167 dX)::(Dn,dcO prog w (a3k (n1++r::n2)))::(n1.flatMap ndO++[(r.a,.raw (qSl 70 r.d (ndV r))),(r.d,.raw (· =emptyDict))]))++(r.l,.list (a0i r.sc))::n2.flatMap ndO:=by
 simp[soO,ndO]
theorem a5j {n1 n2:List Nd} {r r':Nd} (hk:r'.k=r.k) (ha:r'.a=r.a):a3k (n1++r'::n2)=a3k (n1++r::n2):=by simp[a3k,hk,ha]
structure GA (G:a1k):Prop where
 e:GE G
 mAdd:a1m G.K 167 "add" 117
 add:FnS G 117 "TopologicalSorter.add" (a0q 10 2) .none
 len:G.glb "len"=some none
section
variable {n:Nat} {s:Shared}
theorem c3i {name:Str} {cdv x k:Value} {A':Around} {E':Value→Shared→Prop} {Q':List (Str×Value)→Shared→Prop} {dx dk:D} (hm:∀b∈M,∃o,s.heap.get? b=some o) (h1:DR (vis s.heap M) x dx) (h2:DR (vis s.heap M) k dk) (h3:DRs (vis s.heap M) vs ds) (hz:vs.length≤sizeLine)
  (h:∀binds s',Kp s s'→binds.map (·.1)=([("self",dx),("node",dk),("predecessors",.tuple ds)]:List (Str×D)).map (·.1)→DRs (vis s'.heap M) (binds.map (·.2)) (([("self",dx),("node",dk),("predecessors",.tuple ds)]:List (Str×D)).map (·.2))→Q' binds s'):
  wpAny (model prog w) A' (bindArgs (fnOf name "TopologicalSorter.add" (a4t (a0q 10 2)) (a2b (a0q 10 2)) (a0a (a0q 10 2)) .none .none doc pm an cdv ct) ⟨x::k::vs,[]⟩) Q' E' s:=by
 have e:bindArgs (fnOf name "TopologicalSorter.add" (a4t (a0q 10 2)) (a2b (a0q 10 2)) (a0a (a0q 10 2)) .none .none doc pm an cdv ct) ⟨x::k::vs,[]⟩=(newTuple vs >>= fun t=>pure [(("self":Str),x),("node",k),("predecessors",t)]):=by
  cases vs <;> kernel_rfl
 rw[e]
 refine wpAny_bind (wpAny_newTuple (wpAny_pure ?_) hz)
 have k1:=Kp.push s {cls:=.type "tuple",data:=.seq vs.toArray}
 exact h _ _ k1 rfl (.cons (h1.mono k1.hk.vis) (.cons (h2.mono k1.hk.vis) (.cons (a3j hm h3) .nil)))
noncomputable def a5s (al:Al) (b:Nat):Prop:=∀e∈al,e.2.2.length≤b
theorem a5s.ens {al:Al} {b k:Nat} (h:a5s al b):a5s (a6m al k) b:=by
 unfold a6m
 split
 ·exact h
 ·intro e he
  rcases zA he with he | he
  ·exact h e he
  ·rw[zS he];exact Nat.zero_le _
theorem a5s.bump {al:Al} {b k:Nat} {n:Int} (h:a5s al b):a5s (a3n al k n) b:=by
 intro e he
 obtain⟨e',he',rfl⟩:=zM he
 split <;> exact h e' he'
theorem a5s.link {al:Al} {b p k:Nat} (h:a5s al b):a5s (a5v al p k) (b+1):=by
 intro e he
 obtain⟨e',he',rfl⟩:=zM he
 have:=h e' he'
 split
 ·simp;exact this
 ·omega
theorem a5s.links {b k:Nat}:∀{ps:List Nat} {al:Al},a5s al b→a5s (ps.foldl (fun al p=>a5v (a6m al p) p k) al) (b+ps.length)
 | [],al,h=>h
 | p::ps,al,h=>by
  have:=a5s.links (ps:=ps) (k:=k) (a5s.link (p:=p) (k:=k) (a5s.ens (k:=p) h))
  rw[foldl_cons,length_cons,show b+(ps.length+1)=b+1+ps.length by omega]
  exact this
theorem a5s.add {al:Al} {b k:Nat} {ps:List Nat} (h:a5s al b):a5s (b9y al k ps) (b+ps.length):=(h.ens.bump).links
theorem a5s.at {nds:List Nd} {b:Nat} (h:a5s (a1q nds) b) {r:Nd} (hr:r∈nds):r.sc.length≤b:=h _ (zN ⟨r,hr,rfl⟩)
theorem Gn.len {nds nds':List Nd} {k:Nat} {r:Nd} (g:Gn nds k nds' r):nds'.length≤nds.length+1:=by
 rcases g with⟨_,⟨_,rfl⟩ | ⟨_,_,_,rfl⟩⟩ <;> simp
theorem c9z (hA:GA G) {p f k:Nat} {ps:List Nat} {nds:List Nd} (rm:Rm A (n+5)) (hk:(nds.map (·.k)).Nodup) (hlen:nds.length+ps.length≤90) (hsc:a5s (a1q nds) 800) (hlo:(Dn == sysModules)=false) (wd:Wd G H M (soO prog w X dX Dn .none p f nds) s) (dvs:DRs (vis s.heap M) vs (a0i ps))
  (K:∀nds' s',a1q nds'=b9y (a1q nds) k ps→(nds'.map (·.k)).Nodup→nds'.length≤nds.length+ps.length+1→Trn G.gen (soO prog w X dX Dn .none p f nds) (soO prog w X dX Dn .none p f nds') s s'→Q .none s'):codeAny (model prog w) A (.call (.ref 117) ⟨.ref X:: .int (k:Int) t1::vs,[]⟩) (fun r s'=>match r with | .ok (.ret v)=>Q v s' | .ok _=>False | .error e=>E e s') s:=by
 have hE:=hA.e
 have hvl:vs.length=ps.length:=by rw[dvs.length,a0i,length_map]
 refine(a6s (n:=n+4) (ρ:=[("self",.val (.ref X)),("node",dn k),("predecessors",.tuple (a0i ps))]) hA.add rm wd.top wd.mem (fun name doc pm an cdv ct A' E' Q' h=>c3i wd.mem (.val (.ref X)) (.int k t1) dvs (by rw[hvl,sizeLine_eq];omega) h) (a2h ∅) (a0d ∅) (by decide +kernel) (a0d ∅) ?_ ∅ ∅ ∅)
 intro L cd g0 hL t hW _
 walk_at "q"
 clear hL g0 t1
 obtain⟨W₁,w0,b4⟩:=t.openW wd hW
 have rm':=rm.deeper (fnv "TopologicalSorter.add" (a0a (a0q 10 2)) L 117 cd)
 have hX:∀nds,(X,a0r 167 dX)∈(X,a0r 167 dX)::(Dn,dcO prog w (a3k nds))::nds.flatMap ndO:=fun _=>.head _
 refine a4u w0 rm' (Ts.cmp (.self ∅ (hX nds) hE.cls (hE.attr _ (by decide)) (d:=.none) ∅) .noneC (a1d fun v e=>by cases e)) fun u0 z0=>?_
 clear u0 hX w0 hW t rm
 obtain⟨oc,fdc,hoc,hdc⟩:=hE.gn.obj
 walk_at "x"
 refine wpAny_Assign_Name (a5i (G:=G.at _) (n:=n+4) rm' z0.cd (.name (d:=.val (.ref X)) ∅) (.tail _ (.head _)) (.head _) hE.cls hE.mGn ∅ hoc hdc (.one (.name (d:=dn k) ∅)) (by simp) fun vs y2 a4 dvs=>?_) ∅
 cases dvs with
 | cons d0 d1=>
 cases d1
 cases d0
 have j1:=z0.keeps a4
 refine c9t (n:=n) hE rm' rfl (by omega) hlo j1.wd fun k8 r l3 g tr=>?_
 walk_at "c"
 clear l3 z0
 rcases Stt.trn (r:=[]) (by simpa using j1) tr with⟨N,hN,z1⟩
 rw[append_nil]at z1
 rcases g.abs with⟨habs,hr,hnk⟩
 walk_at "u"
 have aD:=g.len
 have m8:=hnk hk
 have u5:=fun c hc=>(j1.fresh_of (hN c hc)).2.2.2
 refine z1.put (.inl ∅) (.val (.ref r.a)) fun y3 u1 _=>?_
 clear y3 z1 hN j1
 obtain⟨n1,n2,rfl⟩:=append_of_mem hr
 have hrk:r.k=k:=g.1
 rw[b0k]at u1
 walk_at "x"
 refine b3q u1 rm' (zB (.inr (.tail _ (.head _)))) hE.d.ni hE.d.s1 (le_of_ble_eq_true rfl) (le_of_ble_eq_true rfl) (.name (d:=.val (.ref r.a)) ∅) (d0:=.int r.np) rfl (Ev.callB ∅ hA.len ∅ (by decide) (.one (.name (d:=.tuple (a0i ps)) ∅)) (b8a (m:=ps.length) (by simp[a0i]) (by omega))) (b2l (a:=r.np) (b:=(ps.length:Int))) rfl fun i5 z2=>?_
 clear i5 u1 hA
 obtain⟨r',hr'⟩:∃r':Nd,r'={r with np:=r.np+(ps.length:Int)}:=⟨_,rfl⟩
 have u8:r'.k=r.k:=by rw[hr']
 have lA:r'.a=r.a:=by rw[hr']
 have j3:=(z2.eqOl (ol':=soO prog w X dX Dn .none p f (n1++r'::n2)) (by rw[b0k,a5j u8 lA,hr'];rfl)).pick (ρ':=[("self",.val (.ref X)),("node",dn k),("predecessors",.tuple (a0i ps))]) (.cons ∅ (.cons ∅ (.cons ∅ .nil)))
 have bD:a1q (n1++r'::n2)=a3n (a6m (a1q nds) k) k ps.length:=by
  rw[a5n (f:=fun e=>(e.1,e.2.1+(ps.length:Int),e.2.2)) m8 (by rw[hr']),habs,hrk];rfl
 have jF:((n1++r'::n2).map (·.k)).Nodup:=by
  rw[map_append,map_cons,u8,←map_cons,←map_append];exact m8
 have yC:(n1++r'::n2).length≤nds.length+1:=by simpa using aD
 walk_at "x"
 refine b1z (fun i y0 x0 W₁=>y0=([("self",.val (.ref X)),("node",dn k),("predecessors",.tuple (a0i ps))]:List (Str×D))∧∃nds',x0=soO prog w X dX Dn .none p f nds'∧a1q nds'=(ps.take i).foldl (fun al p=>a5v (a6m al p) p k) (a3n (a6m (a1q nds) k) k ps.length)∧(nds'.map (·.k)).Nodup∧nds'.length≤nds.length+1+i) (fun d=>[("pred",d)]) j3 rm' (It.tuple (.name (d:=.tuple (a0i ps)) ∅)) (fun d _=>.name (.inl ∅)) ⟨rfl,_,rfl,bD,jF,yC⟩ ?_ ?_
 ·clear z2 z2
  rintro j4 j5 i d _ _ i4 E' hd ⟨rfl,nds',rfl,ha,hkn,hl⟩ w6
  obtain⟨q,hq,rfl⟩:∃q,ps[i]? =some q∧d=dn q:=by
   rw[a0i,getElem?_map]at hd
   cases h:ps[i]? with
   | none=>rw[h]at hd;cases hd
   | some q=>rw[h]at hd;cases hd;exact⟨q,rfl,rfl⟩
  have hi:i < ps.length:=(List.getElem?_eq_some_iff.mp hq).1
  walk_at "x"
  refine wpAny_Assign_Name (a5i (G:=G.at _) (n:=n+4) rm' w6.cd (.name (d:=.val (.ref X)) ∅) (.tail _ (.head _)) (.head _) hE.cls hE.mGn ∅ hoc hdc (.one (.name (d:=dn q) ∅)) (by simp) fun vs d6 eB dvs=>?_) ∅
  cases dvs with
  | cons d0 d1=>
  cases d1
  cases d0
  have c8:=w6.keeps eB
  refine c9t (n:=n) hE rm' rfl (by omega) hlo c8.wd fun b5 j8 j6 oE yE=>?_
  walk_at "c"
  clear j6 w6
  rcases Stt.trn (r:=[]) (by simpa using c8) yE with⟨tE,u9,u7⟩
  rw[append_nil]at u7
  rcases oE.abs with⟨yA,d7,jE⟩
  walk_at "u"
  have iG:=oE.len
  have vA:=jE hkn
  refine u7.put (.inl ∅) (.val (.ref j8.a)) fun a6 j9 _=>?_
  have hsz:(a0i j8.sc).length≤sizeLine:=by
   have h1:a5s (a1q b5) (800+(ps.take i).length):=by
    rw[yA,ha]
    exact(a5s.links hsc.ens.bump).ens
   have h2:=h1.at d7
   rw[length_take]at h2
   rw[a0i,length_map,sizeLine_eq];omega
  clear a6 u7
  obtain⟨m1,m2,rfl⟩:=append_of_mem d7
  rw[a8n]at j9
  refine b3t j9 rm' (.slot (C:=70) (i:=2) (.name (d:=.val (.ref j8.a)) ∅) (zB (.inl (.tail _ (.tail _ (.tail _ (zB (.inr (.head _)))))))) (zB (.inl (.tail _ (.tail _ (.tail _ (zB (.inr (.tail _ (.head _))))))))) hE.d.ni hE.d.s2 rfl) (.name (d:=dn k) ∅) hsz fun v6 xE=>?_
  clear v6 j9 rm' hE
  obtain⟨a9,uA⟩:∃a9:Nd,a9={j8 with sc:=j8.sc++[k]}:=⟨_,rfl⟩
  have uF:a9.k=j8.k:=by rw[uA]
  have vG:a9.a=j8.a:=by rw[uA]
  have wE:=(xE.eqOl (ol':=soO prog w X dX Dn .none p f (m1++a9::m2)) (by rw[a8n,a5j uF vG,uA];simp[a0i,ndV])).pick (ρ':=[("self",.val (.ref X)),("node",dn k),("predecessors",.tuple (a0i ps))]) (.cons ∅ (.cons ∅ (.cons ∅ .nil)))
  refine wpAny_execs_nil ⟨rfl,_,_,_,⟨rfl,_,rfl,?_,?_,?_⟩,⟨fun c hc=>zB (.inr hc),fun c hc=>?_⟩,wE⟩
  ·rw[take_add_one,hq,foldl_append,←ha,a5n (f:=fun e=>(e.1,e.2.1,e.2.2++[k])) vA (by rw[uA]),yA,oE.1];rfl
  ·rw[map_append,map_cons,uF,←map_cons,←map_append];exact vA
  ·have:(m1++a9::m2).length=(m1++j8::m2).length:=by simp
   omega
  ·clear wE xE k
   rcases zA hc with hc | hc
   ·exact .inr (c8.fresh_of (u9 c hc)).2.2.2
   ·exact .inl hc
 ·clear z2 rm' hE k
  rintro _ _ j5 i4 ⟨rfl,nds',rfl,ha,hkn,hl⟩ hG z3
  rw[a0i,length_map]at ha hl
  rw[take_length]at ha
  refine wpAny_execs_nil (K nds' i4 ha hkn (by omega) (z3.toTrn wd (fun c hc=>?_) (a6q rfl)))
  clear z3 i4 K wd
  rcases hG.2 c hc with hc | hc
  ·clear hG hG
   rcases zA hc with hc | hc
   ·exact .inl (u5 c hc)
   ·exact b4 c hc
  ·exact .inl (j3.fresh_of hc).2.2.2
end
end
section
theorem a7k (l:Addr) (vs:List Value) (n:Nat) (hz:vs.length≤1000000):
  Meets (Builtin.«bool.__new__» ⟨[.type "bool",.ref l],[]⟩) (fun _ R s=>s.heap.get? l=some {cls:=.type "list",data:=.seq vs.toArray n}∧R (.ok (.ret (.bool (!vs.isEmpty)))) {s with toks:=s.toks+1+1}):=
 .of_wp fun prog w A R s h=>by
  walk_at "c"
  rcases s with⟨hp,g,d,tk,os⟩
  rcases h with⟨hl,h⟩
  walk_at "u"
  have f1:=F.conv_sub_bool
  have hL:hp.IsList l vs.toArray:=⟨_,hl,rfl,n,rfl⟩
  have e:(!vs.isEmpty)= !vs.toArray.isEmpty:=by rw[List.isEmpty_toArray]
  rw[e]at h
  repeat (any_goals (first | assumption | (with_reducible refine wpAny_truthy_list (s:=⟨hp,g,d,tk,os⟩) hL (by rw[size_toArray];omega) ?_) | wp_step))
  all_goals first | exact⟨_,rfl,h⟩ | skip
section
variable {n:Nat} {s:Shared} {a:Addr}
theorem a8j {k:Nat} (hl:s.heap.get? a=some {cls:=.type "list",data:=.seq vs.toArray k}) (hz:vs.length≤1000000) (h:Q (.bool (!vs.isEmpty)) {s with toks:=s.toks+1+1}):
  wpAny (model prog w) A (call (.type "bool") [.ref a]) Q E s:=
 call_bool_1 (a7k a vs k hz) ⟨hl,⟨rfl,h⟩⟩
theorem Ev.callT1 {x:Str} {e:Expr} {np p:Pos} {d:D} (hx:env.kindOf x=some .globalImplicit) (hg:G.glb x=some none) (hv:bootBuiltins x=some (.type T)) (hn:x≠"__name__") (h:Ev prog w G n env ρ e da)
  (op:∀A M s v Q E,Rm A n→Cd G env M ρ s→DR (vis s.heap M) v da→(∀v s',Kp s s'→DR (vis s'.heap M) v d→Q v s')→wpAny (model prog w) A (call (.type T) [v]) Q E s)
  (he:starEach [e] env=(false,eval e env)::starEach [] env:=by rfl) (hd:(x == ("__debug__":Str))=false:=by decide):Ev prog w G n env ρ (.Call (.Name x np) [e] [] p) d:=fun A M s Q E rm c K=>
 wpAny_Call_NameR (a1v c.kind c.glob c.bi c.top hx hg hv hn (PySem.callWith_type (EvL.one h he).plain (a0p (.one h he) (by simp) rm c fun vs g0 l0 dv=>by
  cases dv with
  | cons d0 d1=>
  cases d1
  exact op A M g0 _ Q E rm (c.keeps l0) d0 fun v s' k' dv=>K v s' (l0.trans k') dv)) hd)
theorem Ev.boolT {x:Str} {e:Expr} {np p:Pos} (hx:env.kindOf x=some .globalImplicit) (hg:G.glb x=some none) (hv:bootBuiltins x=some (.type "bool")) (hn:x≠"__name__") (h:Ev prog w G n env ρ e (.val (.ref a))) (ha:(a,Ob.list ds)∈G.ob) (hz:ds.length≤1000000)
  (he:starEach [e] env=(false,eval e env)::starEach [] env:=by rfl) (hd:(x == ("__debug__":Str))=false:=by decide):Ev prog w G n env ρ (.Call (.Name x np) [e] [] p) (.bool (!ds.isEmpty)):=
 .callT1 hx hg hv hn h (fun A M s v Q E rm c dv K=>by
  cases dv
  obtain⟨o,eo,vs,ep,rfl,r⟩:=c.obs _ ha
  refine a8j eo (by rw[r.length];exact hz) ?_
  have:(!vs.isEmpty)= !ds.isEmpty:=by cases r <;> rfl
  rw[this]
  exact K _ _ (Kp.tok _ _) (.bool _)) he hd
theorem Ev.tupT {x:Str} {e:Expr} {np p:Pos} (hx:env.kindOf x=some .globalImplicit) (hg:G.glb x=some none) (hv:bootBuiltins x=some (.type "tuple")) (hn:x≠"__name__") (h:Ev prog w G n env ρ e (.val (.ref a))) (ha:(a,Ob.list ds)∈G.ob) (hz:ds.length≤1000000)
  (he:starEach [e] env=(false,eval e env)::starEach [] env:=by rfl) (hd:(x == ("__debug__":Str))=false:=by decide):Ev prog w G n env ρ (.Call (.Name x np) [e] [] p) (.tuple ds):=
 .callT1 hx hg hv hn h (fun A M s v Q E rm c dv K=>by
  cases dv
  obtain⟨o,eo,vs,ep,rfl,r⟩:=c.obs _ ha
  refine call_tuple_list ⟨_,eo,rfl,ep,rfl⟩ (fun h' hk=>?_) (by rw[size_toArray,r.length,sizeLine_eq];omega)
  have k1:Kp s {s with heap:=h'}:=Kp.of (t:=s.toks) hk
  exact K _ _ (k1.trans (Kp.push _ _)) (a3j (c.keeps k1).mem (r.mono k1.hk.vis))) he hd
theorem Ev.or2 {x y:Expr} {p:Pos} {a b:Bool} (hx:Ev prog w G n env ρ x (.bool a)) (hy:a=false→Ev prog w G n env ρ y (.bool b)):Ev prog w G n env ρ (.BoolOp .Or [x,y] p) (.bool (a || b)):=fun A M s Q E rm c K=>by
 rw[arm_eval_BoolOp]
 show wpAny _ _ (eval x env >>= fun v=>standAt p >>= fun _=>holding [v] (truthy v) >>= _) _ _ _
 refine wpAny_bind (hx A M s _ E rm c fun v g0 l0 dv=>wpAny_bind (wpAny_standAt (wpAny_bind (wpAny_holding ?_))))
 cases dv
 refine wpAny_truthy_bool ?_
 cases a with
 | true=>exact wpAny_pure (K _ _ l0 (.bool _))
 | false=>exact hy rfl A M g0 _ E rm (c.keeps l0) fun v s' k' dv=>K v s' (l0.trans k') dv
theorem c0p (hh:A.handled=none) (hm:∀b∈M,∃o,s.heap.get? b=some o) (dv:DR (vis s.heap M) v (.list ds)) (K:∀I s' old,Kp s s'→Hk s.heap old→Hk old s'.heap→Itr prog w A old s'.heap M I ds→Q (.ref I) s'):wpAny (model prog w) A (pyIter v) Q E s:=by
 cases dv with
 | list e r=>
  rename_i a vs i
  have hlt:=lt_size (a0b e).1
  refine wpAny_pyIter_list (a0j e) (K _ _ s.heap (Kp.push _ _) (Hk.refl _) (Hk.push _ _) ?_)
  have W:=Walks.list (prog:=prog) (w:=w) hh s.heap.objs.size a (Nat.ne_of_lt hlt) vs.toArray
  rw[show vs.toArray.size=ds.length from by rw[size_toArray,r.length]]at W
  refine⟨_,_,_,_,W,⟨⟨_,get?_push_size _ rfl,rfl,rfl⟩,(a0j e).push _⟩,?_,?_,?_,?_,?_,?_⟩
  ·intro b hb;rw[zS hb];exact a0c (Nat.le_refl _)
  ·intro j h st b hb;rw[zS hb];obtain⟨⟨o,e,_⟩,_⟩:=st;exact⟨o,e⟩
  ·intro b hb
   rcases a0o hb with rfl | hb
   ·exact⟨_,get?_push_size _ rfl⟩
   ·rw[zS hb];exact⟨_,get?_push_of_some _ (a0b e).1⟩
  ·intro b hb
   rcases a0o hb with rfl | hb
   ·exact fun hb=>by obtain⟨o,e⟩:=hm _ hb;exact absurd (lt_size e) (Nat.lt_irrefl _)
   ·rw[zS hb];exact(a0b e).2
  ·intro tgt i v s Q E st hQ;obtain⟨⟨o,e,hc,hd⟩,_⟩:=st;exact b2s e hc hd (by decide) hQ
  ·intro j v hv
   obtain⟨d,hd,dv⟩:=r.get' (by simpa using hv)
   exact⟨d,hd,s.heap,Hk.push _ _,Hk.refl _,dv⟩
end
end
section
noncomputable def soQ (prog:Program) (w:World) (X dX Dn R:Addr) (p f:Nat) (nds:List Nd) (rdl:List Nat):List (Addr×Ob):=soO prog w X dX Dn (.val (.ref R)) p f nds++[(R,.list (a0i rdl))]
structure GF (G:a1k):Prop where
 a:GA G
 mAct:a1m G.K 167 "is_active" 136
 act:FnS G 136 "TopologicalSorter.is_active" (a0q 10 5) .none
 mReady:a1m G.K 167 "get_ready" 129
 ready:FnS G 129 "TopologicalSorter.get_ready" (a0q 10 4) .none
 mDone:a1m G.K 167 "done" 150
 done:FnS G 150 "TopologicalSorter.done" (a0q 10 7) .none
 gB:G.glb "bool"=some none
 gT:G.glb "tuple"=some none
 gOut:∃t,G.glb "_NODE_OUT"=some (some (.int (-1) t))
 gDone:∃t,G.glb "_NODE_DONE"=some (some (.int (-2) t))
section
variable {n:Nat} {s:Shared}
theorem Ev.globI {x:Str} {p:Pos} {i:Int} {t:Tok} (hx:env.kindOf x=some .globalImplicit) (e:G.glb x=some (some (.int i t))) (hd:(x == ("__debug__":Str))=false:=by decide):Ev prog w G n env ρ (.Name x p) (.int i):=
 fun _ _ _ _ _ _ c k=>a1i c.kind c.glob c.top hx e (k _ _ (Kp.refl _) (.int _ _)) hd
theorem c5c {Q:Flow→Shared→Prop} {rest:List Stmt} (t:Stt G j0.heap env own W i0 ρ [] j0 s) (hob:Obs (vis j0.heap i0) j0.heap ob) (hW:∀b∈W,j0.heap.get? b=none) (rm:Rm A n) (h:Ts prog w (G.at ob) n env ρ test false)
  (K:∀s',Stt G j0.heap env own W i0 ρ [] j0 s'→wpAny (model prog w) A (execs rest env) Q E s'):wpAny (model prog w) A (execs (.If test body [] pos::rest) env) Q E s:=
 wpAny_execs_cons (wpAny_If (h A _ s _ E rm (t.cdOb hob hW) fun g0 l0=>wpAny_execs_nil (K g0 (t.keeps l0))))
theorem d0a (hF:GF G) {R:Addr} {p f:Nat} (rm:Rm A (n+1)) (T:TF G s.heap) (hm:∀b∈M,∃o,s.heap.get? b=some o) (hob:Obs (vis s.heap M) s.heap ob) (hx:(X,a0r 167 dX)∈ob) (hd:(dX,.ns (soL Dn (.val (.ref R)) p f))∈ob) (hR:(R,.list (a0i rdl))∈ob) (hz:rdl.length≤1000000)
  (K:∀s',Kp s s'→Q (.bool (decide (f < p) || !rdl.isEmpty)) s'):wpAny (model prog w) A (call (.ref 136) [.ref X]) Q E s:=by
 have T':TF ⟨G.glb,G.K,[],false⟩ s.heap:=⟨T.g,T.b,T.lim,T.objs⟩
 have hE:=hF.a.e
 refine a0u (G:=⟨G.glb,G.K,[],false⟩) (n:=n) (args:=⟨[_],[]⟩) (ρ:=[("self",.val (.ref X))]) (binds:=[("self",_)]) ⟨hF.act.fn⟩ rm T' hm (fun name doc pm an cdv ct=>BindsTo.of_eq rfl) rfl (.cons (.val (.ref X)) .nil) (a2h ∅) (a0d ∅) (by decide +kernel) (a0d ∅) ?_ ∅ ∅ ∅
 intro L cd g0 hL t hW
 walk_at "q"
 have rm':=rm.deeper (fnv "TopologicalSorter.is_active" (a0a (a0q 10 5)) L 136 cd)
 refine c5c t hob hW rm' (Ts.cmp (.attr (G:=a1k.at ⟨G.glb,G.K,[],false⟩ ob) (d:=.val (.ref R)) (.name (d:=.val (.ref X)) ∅) hx hd hE.cls (hE.attr _ (by decide)) ∅) .noneC (a0w fun v e=>by cases e;rfl)) fun u0 z0=>?_
 walk_at "x"
 refine wpAny_Return_some ?_
 refine(Ev.or2 (Ev.cmp (.attr (G:=a1k.at ⟨G.glb,G.K,[],false⟩ ob) (d:=dn f) (.name (d:=.val (.ref X)) ∅) hx hd hE.cls (hE.attr _ (by decide)) ∅) (.attr (d:=dn p) (.name (d:=.val (.ref X)) ∅) hx hd hE.cls (hE.attr _ (by decide)) ∅) b0x (by rfl)) (fun _=>Ev.boolT (G:=a1k.at ⟨G.glb,G.K,[],false⟩ ob) (a:=R) (ds:=a0i rdl) ∅ hF.gB ∅ (by decide) (.attr (d:=.val (.ref R)) (.name (d:=.val (.ref X)) ∅) hx hd hE.cls (hE.attr _ (by decide)) ∅) hR (by simpa [a0i] using hz))) _ _ u0 _ _ rm' (z0.cdOb hob hW) fun v y2 a4 dv=>?_
 clear v u0 rm' t hL g0 cd L hE T' hz hR hd hx hob hm T rm Q ob f p R Dn dX X hF
 cases dv
 have e:(a0i rdl).isEmpty=rdl.isEmpty:=by cases rdl <;> rfl
 rw[e]
 exact K y2 (z0.endP rfl hW a4)
end
end
section
noncomputable def a3b (r:Nd):Nd:={r with np:=0}
theorem a2v {nds nds':List Nd} (h:nds'.map a3b=nds.map a3b):nds'.map (·.k)=nds.map (·.k):=by
 have:∀l:List Nd,l.map (·.k)=(l.map a3b).map (·.k):=fun l=>by rw[map_map];rfl
 rw[this nds',h,←this nds]
theorem b4m {nds nds':List Nd} (h:nds'.map a3b=nds.map a3b):(nds'.flatMap ndO).map (·.1)=(nds.flatMap ndO).map (·.1):=by
 have:∀l:List Nd,(l.flatMap ndO).map (·.1)=((l.map a3b).flatMap ndO).map (·.1):=fun l=>by
  induction l with
  | nil=>rfl
  | cons r l ih=>rw[List.flatMap_cons,map_append,ih,map_cons,List.flatMap_cons,map_append];rfl
 rw[this nds',h,←this nds]
theorem c3c {nds nds':List Nd} (h:nds'.map a3b=nds.map a3b) {r:Nd} (hr:r∈nds):∃r'∈nds',a3b r'=a3b r:=by
 have:a3b r∈nds'.map a3b:=h▸zN ⟨r,hr,rfl⟩
 obtain⟨r',a,b⟩:=zM this
 exact⟨r',a,b⟩
theorem a7v {n1 n2:List Nd} {r r':Nd} (h:a3b r'=a3b r):(n1++r'::n2).map a3b=(n1++r::n2).map a3b:=by rw[map_append,map_append,map_cons,map_cons,h]
theorem a9u {nds:List Nd} {r:Nd} (hn:(nds.map (·.k)).Nodup) (hr:r∈nds):valueAt (a3k nds) (r.k:Int)=some (.ref r.a):=by
 cases hf:nds.find? (fun q=>q.k == r.k)with
 | none=>exact absurd (by simp) (List.find?_eq_none.mp hf r hr)
 | some q=>
  have hq:=List.mem_of_find?_eq_some hf
  have hk:q.k=r.k:=by simpa using List.find?_some hf
  have e:q=r:=by
   obtain⟨n1,n2,rfl⟩:=append_of_mem hr
   rw[map_append,nodup_append,map_cons,nodup_cons]at hn
   rcases zA hq with h | h
   ·exact absurd hk (hn.2.2 q.k (zN ⟨q,h,rfl⟩) r.k (.head _))
   ·rcases zC h with h | h
    ·exact h
    ·exact absurd (hk▸zN ⟨q,h,rfl⟩) hn.2.1.1
  rw[b4i hf,e]
noncomputable def setA (al:Al) (x:Nat) (v:Int):Al:=al.map fun e=>if e.1=x then(e.1,v,e.2.2)else e
theorem a3i (al:Al) (x:Nat) (v:Int):(setA al x v).map (·.1)=al.map (·.1):=by
 unfold setA
 rw[map_map]
 exact map_congr_left fun e _=>by show(if e.1=x then(e.1,v,e.2.2)else e).1=e.1;split <;> rfl
theorem a3o (nds:List Nd):(a1q nds).map (·.1)=nds.map (·.k):=by unfold a1q;rw[map_map];rfl
theorem a9q {nds:List Nd} {x:Nat} (h:x∈(a1q nds).map (·.1)):∃n1 r n2,nds=n1++r::n2∧r.k=x:=by
 rw[a3o]at h
 walk_at "c"
 rcases zM h with⟨r,hr,e⟩
 rcases append_of_mem hr with⟨n1,n2,e2⟩
 walk_at "u"
 exact⟨n1,r,n2,e2,e⟩
theorem a4d {R:Addr} {p f:Nat} {n1 n2:List Nd} {r:Nd}:soQ prog w X dX Dn R p f (n1++r::n2) rdl=((dX,.ns (soL Dn (.val (.ref R)) p f))::(X,a0r 167 dX)::(Dn,dcO prog w (a3k (n1++r::n2)))::n1.flatMap ndO)++(r.a,.raw (qSl 70 r.d (ndV r)))::(r.d,.raw (· =emptyDict))::(r.l,.list (a0i r.sc))::(n2.flatMap ndO++[(R,.list (a0i rdl))]):=by
 simp[soQ,soO,ndO]
theorem a4l {R:Addr} {p f:Nat} {nds:List Nd}:(soQ prog w X dX Dn R p f nds rdl).all (fun p=>a3a p.2)=true:=by
 unfold soQ
 rw[List.all_append,a6q rfl]
 show(true && ((a0i rdl).all a2l && true))=true
 have:(a0i rdl).all a2l=true:=all_eq_true.mpr fun d hd=>by obtain⟨x,_,rfl⟩:=zM hd;rfl
 rw[this];rfl
section
variable {n:Nat} {s:Shared}
theorem c0m {Q:Flow→Shared→Prop} {b:Expr} {a:Addr} {cp:Pos} {rest:List Stmt} (t:Stt G H env own W i0 ρ (l1++(a,.list ds)::l2) j0 s) (rm:Rm A n) (hb:Ev prog w (G.at (l1++(a,.list ds)::l2)) n env ρ b (.val (.ref a))) (hz:ds.length≤1000000)
  (K:∀s',Stt G H env own W i0 ρ (l1++(a,.list [])::l2) j0 s'→wpAny (model prog w) A (execs rest env) Q E s') (he:eval (.Call (.Attribute b "clear" ap) [] [] cp) env=(do
   let ov ←eval b env
   standAt ap.atName
   let(f,first) ←holding [ov] (getMethod ov "clear" pl)
   callWith cp f first (backTo cp (starEach [] env)) []):=by rfl)
  (hi:interactive env=false:=by kernel_rfl) (hs:swapsWith (.Call (.Attribute b "clear" ap) [] [] cp) none pos.line env=pure false:=by kernel_rfl):
  wpAny (model prog w) A (execs (.Expr (.Call (.Attribute b "clear" ap) [] [] cp) pos::rest) env) Q E s:=by
 walk_at "x"
 refine wpAny_Expr (MethodCall_ (hb A _ s _ E rm t.cd fun ov g0 l0 dov=>?_) he) hi hs
 cases dov
 have t:=t.keeps l0
 obtain⟨_,_,o,eo,vs,ep,rfl,r⟩:=t.ls (a,.list ds) (zB (.inr (.head _)))
 have hT:g0.TypeIs (.ref a) "list":=⟨_,eo,rfl⟩
 refine getMethod_builtin hT PySem.F.plainAttrs_list PySem.F.slot_list_clear PySem.F.type_list_clear (fun b e=>by cases e;exact⟨_,eo,rfl⟩) ?_
 refine callWith_method0 (call_meets PySem.F.slot_list_clear hT PySem.F.entry_list_clear (PySem.F.args_list_clear_1 _) (AutoSeq1.list_clear_list_0 a vs.toArray ep (by rw[size_toArray,r.length,sizeLine_eq];omega)) ⟨eo,?_⟩)
 exact K _ (t.turnAt (Kw.sameBut (tk:=g0.toks) (Heap.SameBut.update ..)) (Heap.get?_update_self _ eo rfl) ⟨[],_,rfl,.nil⟩)
theorem c1c (hF:GF G) {R:Addr} {p f:Nat} {nds:List Nd} (rm:Rm A (n+1)) (hk:(nds.map (·.k)).Nodup) (hmem:∀x∈rdl,x∈(a1q nds).map (·.1)) (hz:rdl.length≤1000) (wd:Wd G H M (soQ prog w X dX Dn R p f nds rdl) s)
  (K:∀v nds' s',a1q nds'=rdl.foldl (fun al x=>setA al x (-1)) (a1q nds)→nds'.map a3b=nds.map a3b→Trn G.gen (soQ prog w X dX Dn R p f nds rdl) (soQ prog w X dX Dn R (p+rdl.length) f nds' []) s s'→DR (vis s'.heap M) v (.tuple (a0i rdl))→Q v s'):wpAny (model prog w) A (call (.ref 129) [.ref X]) Q E s:=by
 have hE:=hF.a.e
 obtain⟨to,hOut⟩:=hF.gOut
 refine a0u (n:=n) (args:=⟨[_],[]⟩) (ρ:=[("self",.val (.ref X))]) (binds:=[("self",_)]) hF.ready rm wd.top wd.mem (fun name doc pm an cdv ct=>BindsTo.of_eq rfl) rfl (.cons (.val (.ref X)) .nil) (a2h ∅) (a0d ∅) (by decide +kernel) (a0d ∅) ?_ ∅ ∅ ∅
 intro L cd g0 hL t hW
 walk_at "q"
 obtain⟨W₁,w0,b4⟩:=t.openW wd hW
 have rm':=rm.deeper (fnv "TopologicalSorter.get_ready" (a0a (a0q 10 4)) L 129 cd)
 have hX:∀nds rdl,(X,a0r 167 dX)∈(X,a0r 167 dX)::(Dn,dcO prog w (a3k nds))::(nds.flatMap ndO++[(R,Ob.list (a0i rdl))]):=fun _ _=>.head _
 have hR:∀nds rdl,(R,Ob.list (a0i rdl))∈soQ prog w X dX Dn R p f nds rdl:=fun _ _=>zB (.inr (.head _))
 refine a4u w0 rm' (Ts.cmp (.self ∅ (hX nds rdl) hE.cls (hE.attr _ (by decide)) (d:=.val (.ref R)) ∅) .noneC (a0w fun v e=>by cases e;rfl)) fun u0 z0=>?_
 refine a6y z0 rm' (.tupT ∅ hF.gT ∅ (by decide) (.self ∅ (hX nds rdl) hE.cls (hE.attr _ (by decide)) (d:=.val (.ref R)) ∅) (hR nds rdl) (by rw[a0i,length_map];omega)) fun y2 j1=>?_
 refine a6y j1 rm' (.self ∅ (hX nds rdl) hE.cls (hE.attr _ (by decide)) (d:=.val (.ref Dn)) ∅) fun l3 z1=>?_
 have u1:=z1.pick (ρ':=[("self",.val (.ref X)),("n2i",.val (.ref Dn)),("result",.tuple (a0i rdl))]) (.cons ∅ (.cons ∅ (.cons ∅ .nil)))
 walk_at "x"
 refine a6w (fun i y0 x0=>y0=([("self",.val (.ref X)),("n2i",.val (.ref Dn)),("result",.tuple (a0i rdl))]:List (Str×D))∧∃nds',x0=soQ prog w X dX Dn R p f nds' rdl∧a1q nds'=(rdl.take i).foldl (fun al x=>setA al x (-1)) (a1q nds)∧nds'.map a3b=nds.map a3b) (fun d=>[("node",d)]) u1 rm' (It.tuple (.name (d:=.tuple (a0i rdl)) ∅)) (fun d _=>.name (.inl ∅)) ⟨rfl,_,rfl,rfl,rfl⟩ ?_ ?_
 ·rintro j4 i d _ _ i4 E' hd ⟨rfl,nds',rfl,ha,hcr⟩ w6
  have hkn:=a2v hcr
  obtain⟨q,hq,rfl⟩:∃q,rdl[i]? =some q∧d=dn q:=by
   rw[a0i,getElem?_map]at hd
   cases h:rdl[i]? with
   | none=>rw[h]at hd;cases hd
   | some q=>rw[h]at hd;cases hd;exact⟨q,rfl,rfl⟩
  obtain⟨n1,r,n2,rfl,hrk⟩:=a9q (nds:=nds') (x:=q) (by rw[a3o,hkn,←a3o];exact hmem q (mem_of_getElem? hq))
  have hk':((n1++r::n2).map (·.k)).Nodup:=by rw[hkn];exact hk
  have hv:=a9u hk' (zB (.inr (.head _)):r∈n1++r::n2)
  rw[hrk]at hv
  rw[a4d]at w6
  walk_at "x"
  refine a6o w6 rm' (zB (.inr (.tail _ (.head _)))) hE.d.ni hE.d.s1 (le_of_ble_eq_true rfl) (le_of_ble_eq_true rfl) (.ditem (k:=(q:Int)) (.name (d:=.val (.ref Dn)) ∅) (.name (d:=dn q) ∅) (zB (.inl (.tail _ (.tail _ (.head _))))) hv) (.globI ∅ hOut) rfl fun d6 c8=>?_
  obtain⟨r',hr'⟩:∃r':Nd,r'={r with np:=-1}:=⟨_,rfl⟩
  have u8:r'.k=r.k:=by rw[hr']
  have lA:r'.a=r.a:=by rw[hr']
  have u7:=(c8.eqOl (ol':=soQ prog w X dX Dn R p f (n1++r'::n2) rdl) (by rw[a4d,a5j u8 lA,hr'];rfl)).pick (ρ':=[("self",.val (.ref X)),("n2i",.val (.ref Dn)),("result",.tuple (a0i rdl))]) (.cons ∅ (.cons ∅ (.cons ∅ .nil)))
  refine wpAny_execs_nil ⟨rfl,_,_,⟨rfl,_,rfl,?_,?_⟩,u7⟩
  ·rw[take_add_one,hq,foldl_append,←ha,a5n (f:=fun e=>(e.1,-1,e.2.2)) hk' (by rw[hr']),hrk];rfl
  ·rw[←hcr];exact a7v (by rw[hr'];rfl)
 ·rintro _ _ i4 ⟨rfl,nds',rfl,ha,hcr⟩ z2
  rw[a0i,length_map,take_length]at ha
  refine c0m (l1:=soO prog w X dX Dn (.val (.ref R)) p f nds') (l2:=[]) z2 rm' (.self ∅ (hX nds' rdl) hE.cls (hE.attr _ (by decide)) (d:=.val (.ref R)) ∅) (by rw[a0i,length_map];omega) fun d6 j3=>?_
  have j3:Stt _ _ _ _ _ _ _ (soQ prog w X dX Dn R p f nds' []) _ _:=j3
  walk_at "x"
  refine a9g j3 rm' (hX nds' []) hE.cls (hE.attr _ (by decide)) (.name (d:=.val (.ref X)) ∅) (d0:=dn p) ∅ (Ev.callB ∅ hF.a.len ∅ (by decide) (.one (.name (d:=.tuple (a0i rdl)) ∅)) (b8a (m:=rdl.length) (by simp[a0i]) (by omega))) (b2l (a:=(p:Int)) (b:=(rdl.length:Int))) (fun j6 z3=>?_) (le_of_ble_eq_true rfl)
  have z3:=z3.eqOl (ol':=soQ prog w X dX Dn R (p+rdl.length) f nds' []) rfl
  obtain⟨v,hv,dv⟩:=z3.cd.vars "result" (.tuple (a0i rdl)) ∅
  exact wpAny_execs_cons (wpAny_Return_some (a1f z3.kind hv (K v nds' j6 ha hcr (z3.toTrn wd b4 a4l) (dv.mono a4c))))
end
end
section
section
variable {n:Nat} {s:Shared} {x:Addr} {ob:Ob}
noncomputable abbrev cut (x:Addr) (W:List Addr):List Addr:=W.filter (· != x)
theorem a3w {x b:Addr}:b∈cut x W↔b∈W∧b≠x:=by simp[cut,mem_filter]
theorem a7t {x:Addr} {b:Addr}:b∈cut x W++cut x M↔b∈W++M∧b≠x:=by
 rw[mem_append,mem_append,a3w,a3w]
 constructor
 ·rintro(⟨a,b⟩ | ⟨a,b⟩)
  ·exact⟨.inl a,b⟩
  ·exact⟨.inr a,b⟩
 ·rintro⟨a | a,b⟩
  ·exact .inl ⟨a,b⟩
  ·exact .inr ⟨a,b⟩
theorem Stt.part (t:Stt G H env own W i0 ρ (l1++(x,ob)::l2) j0 s):Stt G H env own (cut x W) (cut x i0) ρ (l1++l2) s s:=by
 have up:∀a o,vis s.heap (W++i0) a=some o→vis s.heap (cut x W++cut x i0) a=some o:=fun a o e=>a0v (a0b e).1 fun hm=>(a0b e).2 (a7t.mp hm).1
 have hx:=(t.ls (x,ob) (zB (.inr (.head _)))).f
 have hn:=t.lsn
 rw[map_append,map_cons,nodup_append,nodup_cons]at hn
 refine⟨Kw.refl _ _ _,t.tH,t.kH,fun b hb=>t.fH b (a3w.mp hb).1,t.kind,t.glob,t.bi,t.cs,t.ow,?_,fun b hb=>a3w.mpr ⟨t.sub b hb,fun e=>hx (e▸hb)⟩,fun b hb=>t.mem b (a7t.mp hb).1,fun p hp=>?_,?_⟩
 ·obtain⟨vm,F,h⟩:=t.fm
  exact⟨vm,F,fun y d e=>let⟨h1,v,h2,h3⟩:=h y d e;⟨h1,v,h2,h3.mono up⟩⟩
 ·have hp':p∈l1++(x,ob)::l2:=by
   rcases zA hp with h | h
   ·exact zB (.inl h)
   ·exact zB (.inr (.tail _ h))
  obtain⟨a,b,o,e,r⟩:=t.ls p hp'
  refine⟨a3w.mpr ⟨a,fun e'=>?_⟩,b,o,e,r.mono up⟩
  rcases zA hp with h | h
  ·exact hn.2.2 p.1 (zN ⟨p,h,rfl⟩) x (.head _) e'
  ·exact hn.2.1.1 (e'▸zN ⟨p,h,rfl⟩)
 ·rw[map_append,nodup_append]
  exact⟨hn.1,hn.2.1.2,fun a ha b hb=>hn.2.2 a ha b (.tail _ hb)⟩
theorem Stt.unpart (t:Stt G H env own W i0 ρ (l1++(x,ob)::l2) j0 s) (u:Stt G H env own (cut x W) (cut x i0) ρ' ol' s s') (hρ:ρ'.all (fun p=>a2l p.2)=true) (hf:(((x,ob)::ol').all fun p=>a3a p.2)=true):Stt G H env own W i0 ρ' ((x,ob)::ol') j0 s':=by
 obtain⟨a1,a2,o,e,r⟩:=t.ls (x,ob) (zB (.inr (.head _)))
 have e':s'.heap.get? x=some o:=u.kp.1 x o (fun hm=>(a3w.mp hm).2 rfl) e
 refine⟨t.kp.trans (u.kp.grow fun b hb=>(a3w.mp hb).1),t.tH,u.kH,t.fH,t.kind,t.glob,t.bi,t.cs,t.ow,?_,t.sub,fun b hb=>?_,fun p hp=>?_,?_⟩
 ·obtain⟨vm,F,h⟩:=u.fm
  refine⟨vm,F,fun y d ey=>?_⟩
  obtain⟨h1,v,h2,h3⟩:=h y d ey
  exact⟨h1,v,h2,h3.flat (all_eq_true.mp hρ (y,d) (mem_of_lookup ey))⟩
 ·by_cases hb':b=x
  ·exact⟨o,hb'▸e'⟩
  ·exact u.mem b (a7t.mpr ⟨hb,hb'⟩)
 ·rcases a0o hp with rfl | hp
  ·exact⟨a1,a2,o,e',r.flatA (all_eq_true.mp hf _ (.head _))⟩
  ·obtain⟨b1,b2,o',eo',r'⟩:=u.ls p hp
   exact⟨(a3w.mp b1).1,b2,o',eo',r'.flatA (all_eq_true.mp hf p (.tail _ hp))⟩
 ·rw[map_cons,nodup_cons]
  refine⟨fun hm=>?_,u.lsn⟩
  obtain⟨p,hp,e2⟩:=zM hm
  have e3:p.1=x:=e2
  exact(a3w.mp (u.ls p hp).wW).2 e3
theorem c4w {Q:Flow→Shared→Prop} {iter:Expr} (J:Nat→List (Str×D)→List (Addr×Ob)→Prop) (bs:D→List (Str×D))
  (t:Stt G H env own W i0 ρ ol j0 s) (rm:Rm A n) (hit:∀Q:Value→Shared→Prop,(∀I s' old,Kp s s'→Hk s.heap old→Hk old s'.heap→Itr prog w A old s'.heap (W++i0) I ds→Q (.ref I) s')→wpAny (model prog w) A (eval iter env) (fun v g0=>wpAny (model prog w) A (pyIter v) Q E g0) E s) (hb:∀d∈ds,Bd (fun x=>Lo env own x) target d (bs d)) (h0:J 0 ρ ol)
  (turn:∀(j4:List Addr) (i:Nat) (d:D) (y0:List (Str×D)) (x0:List (Addr×Ob)) (g0:Shared) (E':Value→Shared→Prop),ds[i]? =some d→J i y0 x0→Stt G H env own W j4 (bs d++y0) x0 g0 g0→
   wpAny (model prog w) A (execs body env) (d0i G H env own W j4 g0 (J (i+1))) E' g0)
  (done:∀y0 x0 g0,J ds.length y0 x0→Stt G H env own W i0 y0 x0 j0 g0→Q .next g0)
  (hs:∀x,foldedSetIterable iter env x=pure x:=by intro _;rfl):wpAny (model prog w) A (exec (.For target iter body [] pos) env) Q E s:=
 b6t (fun i y0 x0 W₁=>J i y0 x0∧W₁=W) bs t rm hit hb ⟨h0,rfl⟩
  (fun j4 W₁ i d y0 x0 g0 E' hd hJ w0=>by
   clear h0 hb hit rm t bs J ds pos body iter target Q
   obtain⟨hJ,rfl⟩:=hJ
   exact wpAny_mono (turn j4 i d y0 x0 g0 E' hd hJ w0) (fun f u0 h=>let⟨a,l4,u4,b,c⟩:=h;⟨a,l4,u4,_,⟨b,rfl⟩,a6v.refl _ _,c⟩) fun _ _ h=>h)
  (fun y0 x0 W₁ g0 hJ _ w0=>by
   clear W₁ hd E' d i j4 turn h0 hb hit rm t bs J ds pos body iter target Q
   obtain⟨hJ,rfl⟩:=hJ
   exact done y0 x0 g0 hJ w0) hs
end
end
section
theorem b8w (hn:(ol.map (·.1)).Nodup) {p q:Addr×Ob} (hp:p∈ol) (hq:q∈ol) (e:p.1=q.1):p=q:=by
 obtain⟨l1,l2,rfl⟩:=append_of_mem hp
 rw[map_append,nodup_append,map_cons,nodup_cons]at hn
 rcases zA hq with h | h
 ·exact absurd e.symm (hn.2.2 q.1 (zN ⟨q,h,rfl⟩) p.1 (.head _))
 ·rcases zC h with h | h
  ·exact h.symm
  ·exact absurd (e▸zN ⟨q,h,rfl⟩) hn.2.1.1
noncomputable def but (x:Addr) (ol:List (Addr×Ob)):List (Addr×Ob):=ol.filter (fun p=>p.1 != x)
theorem b3h {x:Addr}:but x (l1++l2)=but x l1++but x l2:=List.filter_append ..
theorem b4q {x:Addr} {p:Addr×Ob} {l:List (Addr×Ob)} (h:p.1≠x):but x (p::l)=p::but x l:=by
 unfold but;rw[filter_cons,if_pos (by simpa using h)]
theorem c3g {x:Addr} {ob:Ob} {l:List (Addr×Ob)}:but x ((x,ob)::l)=but x l:=by
 unfold but;rw[filter_cons,if_neg (by simp)]
theorem b9p {x:Addr} {l:List (Addr×Ob)} (h:x∉l.map (·.1)):but x l=l:=List.filter_eq_self.mpr fun p hp=>by
 have:p.1≠x:=fun e=>h (e▸zN ⟨p,hp,rfl⟩)
 simpa using this
theorem a7x {x:Addr} {ob:Ob} (hn:((l1++(x,ob)::l2).map (·.1)).Nodup):but x (l1++(x,ob)::l2)=l1++l2:=by
 rw[map_append,nodup_append,map_cons,nodup_cons]at hn
 rw[b3h,c3g,b9p (fun h=>hn.2.2 x h x (.head _) rfl),b9p hn.2.1.1]
theorem a6a {x:Addr} {p:Addr×Ob}:p∈but x ol↔p∈ol∧p.1≠x:=by unfold but;rw[mem_filter];simp
section
variable {n:Nat} {s:Shared} {x:Addr} {ob:Ob}
theorem Stt.but (t:Stt G H env own W i0 ρ ol j0 s) (hx:(x,ob)∈ol):Stt G H env own (cut x W) (cut x i0) ρ (but x ol) s s:=by
 have hn:=t.lsn
 obtain⟨l1,l2,rfl⟩:=append_of_mem hx
 rw[a7x hn]
 exact t.part
theorem Stt.unbut (t:Stt G H env own W i0 ρ ol j0 s) (hx:(x,ob)∈ol) (u:Stt G H env own (cut x W) (cut x i0) ρ' (Mine.but x ol') s s') (hx':(x,ob)∈ol') (hn':(ol'.map (·.1)).Nodup) (hρ:ρ'.all (fun p=>a2l p.2)=true) (hf:(ol'.all fun p=>a3a p.2)=true):Stt G H env own W i0 ρ' ol' j0 s':=by
 have hf':=all_eq_true.mp hf
 clear hf hf
 obtain⟨l1,l2,rfl⟩:=append_of_mem hx
 have:=t.unpart u hρ (all_eq_true.mpr fun p hp=>by
  clear l2 l1 hρ u hx t
  rcases a0o hp with rfl | hp
  ·exact hf' _ hx'
  ·exact hf' p (a6a.mp hp).1)
 refine this.permP ?_
 clear p l2 l1 hf' hρ u hx t
 obtain⟨m1,m2,rfl⟩:=append_of_mem hx'
 rw[a7x hn']
 exact List.perm_middle
theorem c7d {e:Expr} (t:Stt G H env own W i0 ρ ol j0 s) (hx:(x,Ob.list ds)∈ol) (rm:Rm A n) (h:Ev prog w (G.at (Mine.but x ol)) n env ρ e (.val (.ref x))) (Q:Value→Shared→Prop)
  (K:∀I s' old,Kp s s'→Hk s.heap old→Hk old s'.heap→Itr prog w A old s'.heap (cut x W++cut x i0) I ds→Q (.ref I) s'):wpAny (model prog w) A (eval e env) (fun v g0=>wpAny (model prog w) A (pyIter v) Q E g0) E s:=by
 have w0:=t.but hx
 refine h A _ s _ E rm w0.cd fun v g0 l0 dv=>?_
 cases dv
 obtain⟨_,_,o,eo,vs,ep,rfl,r⟩:=t.ls (x,.list ds) hx
 have up:∀a o,vis s.heap (W++i0) a=some o→vis s.heap (cut x W++cut x i0) a=some o:=fun a o e=>a0v (a0b e).1 fun hm=>(a0b e).2 (a7t.mp hm).1
 have dv:DR (vis g0.heap (cut x W++cut x i0)) (.ref x) (.list ds):=.list (a0v (l0.hk _ _ eo) fun hm=>(a7t.mp hm).2 rfl) ((r.mono up).mono l0.hk.vis)
 exact c0p rm.hd (fun b hb=>(w0.mem b hb).imp fun o e=>l0.hk b o e) dv fun I s' old k e1 e2 it=>K I s' old (l0.trans k) (l0.hk.trans e1) e2 it
end
noncomputable def a9p (al:Al) (y:Nat):Option Int:=(al.find? (fun e=>e.1 == y)).map (·.2.1)
noncomputable def a1p (al:Al) (x:Nat):List Nat:=((al.find? (fun e=>e.1 == x)).map (·.2.2)).getD []
noncomputable def a1j (st:Al×List Nat) (y:Nat):Al×List Nat:=(a3n st.1 y (-1),if a9p st.1 y=some 1 then st.2++[y]else st.2)
noncomputable def a0k (st:Al×List Nat) (x:Nat):Al×List Nat:=(a1p st.1 x).foldl a1j (setA st.1 x (-2),st.2)
noncomputable def okD:Al×List Nat→List Nat→Prop
 | _,[]=>True
 | st,x::xs=>a9p st.1 x=some (-1)∧st.2.length+(a1p st.1 x).length≤1000∧(∀y∈a1p st.1 x,y∈st.1.map (·.1))∧okD (a0k st x) xs
theorem b4r {nds:List Nd} (hk:(nds.map (·.k)).Nodup) {r:Nd} (hr:r∈nds):(a1q nds).find? (fun e=>e.1 == r.k)=some (r.k,r.np,r.sc):=by
 induction nds with
 | nil=>cases hr
 | cons q nds ih=>
  rw[map_cons,nodup_cons]at hk
  show List.find? _ ((q.k,q.np,q.sc)::a1q nds)=_
  rw[find?_cons]
  rcases a0o hr with rfl | hr
  ·simp
  ·have:(q.k == r.k)=false:=by simpa using fun e:q.k=r.k=>hk.1 (e▸zN ⟨r,hr,rfl⟩)
   rw[show(((q.k,q.np,q.sc):Nat×Int×List Nat).1 == r.k)=false from this]
   exact ih hk.2 hr
theorem c4r {nds:List Nd} (hk:(nds.map (·.k)).Nodup) {r:Nd} (hr:r∈nds):a9p (a1q nds) r.k=some r.np:=by rw[a9p,b4r hk hr];rfl
theorem c4q {nds:List Nd} (hk:(nds.map (·.k)).Nodup) {r:Nd} (hr:r∈nds):a1p (a1q nds) r.k=r.sc:=by rw[a1p,b4r hk hr];rfl
theorem c1z {al:Al} {x:Nat} {i:Int} (h:a9p al x=some i):x∈al.map (·.1):=by
 unfold a9p at h
 cases hf:al.find? (fun e=>e.1 == x)with
 | none=>rw[hf]at h;cases h
 | some e=>exact zN ⟨e,List.mem_of_find?_eq_some hf,by simpa using List.find?_some hf⟩
end
section
section
variable {n:Nat} {s:Shared}
theorem b9s {name:Str} {cdv x:Value} {A':Around} {E':Value→Shared→Prop} {Q':List (Str×Value)→Shared→Prop} {dx:D} (hm:∀b∈M,∃o,s.heap.get? b=some o) (h1:DR (vis s.heap M) x dx) (h3:DRs (vis s.heap M) vs ds) (hz:vs.length≤sizeLine)
  (h:∀binds s',Kp s s'→binds.map (·.1)=([("self",dx),("nodes",.tuple ds)]:List (Str×D)).map (·.1)→DRs (vis s'.heap M) (binds.map (·.2)) (([("self",dx),("nodes",.tuple ds)]:List (Str×D)).map (·.2))→Q' binds s'):
  wpAny (model prog w) A' (bindArgs (fnOf name "TopologicalSorter.done" (a4t (a0q 10 7)) (a2b (a0q 10 7)) (a0a (a0q 10 7)) .none .none doc pm an cdv ct) ⟨x::vs,[]⟩) Q' E' s:=by
 have e:bindArgs (fnOf name "TopologicalSorter.done" (a4t (a0q 10 7)) (a2b (a0q 10 7)) (a0a (a0q 10 7)) .none .none doc pm an cdv ct) ⟨x::vs,[]⟩=(newTuple vs >>= fun t=>pure [(("self":Str),x),("nodes",t)]):=by
  cases vs <;> kernel_rfl
 rw[e]
 refine wpAny_bind (wpAny_newTuple (wpAny_pure ?_) hz)
 have k1:=Kp.push s {cls:=.type "tuple",data:=.seq vs.toArray}
 exact h _ _ k1 rfl (.cons (h1.mono k1.hk.vis) (.cons (a3j hm h3) .nil))
theorem b1b {l:List Nat}:(a0i l).all a2l=true:=all_eq_true.mpr fun d hd=>by obtain⟨x,_,rfl⟩:=zM hd;rfl
theorem a0f {x y:Str} {d:D} {v:Option D} (h:ρ.lookup x=v) (e:(x == y)=false:=by kernel_rfl):((y,d)::ρ).lookup x=v:=by rw[lookup_cons,e];exact h
theorem a0l {x:Str} {d:D} (e:(x == x)=true:=by kernel_rfl):((x,d)::ρ).lookup x=some d:=by rw[lookup_cons,e]
theorem c3z:∀{xs:List Nat} {st:Al×List Nat} {i q:Nat},okD st xs→xs[i]? =some q→a9p ((xs.take i).foldl a0k st).1 q=some (-1)∧((xs.take i).foldl a0k st).2.length+(a1p ((xs.take i).foldl a0k st).1 q).length≤1000∧(∀y∈a1p ((xs.take i).foldl a0k st).1 q,y∈((xs.take i).foldl a0k st).1.map (·.1))
 | x::xs,st,0,q,h,e=>by cases e;exact⟨h.1,h.2.1,h.2.2.1⟩
 | x::xs,st,i+1,q,h,e=>by
  rw[List.take_succ_cons,foldl_cons]
  exact c3z h.2.2.2 (by simpa using e)
theorem c7o:∀(ys:List Nat) (st:Al×List Nat),(ys.foldl a1j st).2.length≤st.2.length+ys.length:=by
 intro v'
 induction v' with
 | nil=>
  intro st
  exact Nat.le_refl _
 | cons y ys ih'=>
  intro st
  rw[foldl_cons,length_cons]
  have:=ih' (a1j st y)
  have h2:(a1j st y).2.length≤st.2.length+1:=by unfold a1j;dsimp only;split <;> simp
  omega
theorem c7j (hF:GF G) {R:Addr} {p f:Nat} {nds:List Nd} (rm:Rm A (n+1)) (hk:(nds.map (·.k)).Nodup) (hok:okD (a1q nds,rdl) xs) (hz:xs.length≤1000) (hlo:(Dn == sysModules)=false) (wd:Wd G H M (soQ prog w X dX Dn R p f nds rdl) s) (dvs:DRs (vis s.heap M) vs (a0i xs))
  (K:∀nds' rdl' s',(a1q nds',rdl')=xs.foldl a0k (a1q nds,rdl)→nds'.map a3b=nds.map a3b→Trn G.gen (soQ prog w X dX Dn R p f nds rdl) (soQ prog w X dX Dn R p (f+xs.length) nds' rdl') s s'→Q .none s'):codeAny (model prog w) A (.call (.ref 150) ⟨.ref X::vs,[]⟩) (fun r s'=>match r with | .ok (.ret v)=>Q v s' | .ok _=>False | .error e=>E e s') s:=by
 have hE:=hF.a.e
 walk_at "c"
 rcases hF.gOut with⟨to,hOut⟩
 rcases hF.gDone with⟨td,hDone⟩
 walk_at "u"
 have hvl:vs.length=xs.length:=by rw[dvs.length,a0i,length_map]
 refine(a6s (n:=n) (ρ:=[("self",.val (.ref X)),("nodes",.tuple (a0i xs))]) hF.done rm wd.top wd.mem (fun name doc pm an cdv ct A' E' Q' h=>b9s wd.mem (.val (.ref X)) dvs (by rw[hvl,sizeLine_eq];omega) h) (a2h ∅) (a0d ∅) (by decide +kernel) (a0d ∅) ?_ ∅ ∅ ∅)
 intro L cd g0 hL t hW _
 walk_at "q"
 obtain⟨W₁,w0,b4⟩:=t.openW wd hW
 have rm':=rm.deeper (fnv "TopologicalSorter.done" (a0a (a0q 10 7)) L 150 cd)
 have hX:∀nds rdl,(X,a0r 167 dX)∈(X,a0r 167 dX)::(Dn,dcO prog w (a3k nds))::(nds.flatMap ndO++[(R,Ob.list (a0i rdl))]):=fun _ _=>.head _
 refine a4u w0 rm' (Ts.cmp (.self ∅ (hX nds rdl) hE.cls (hE.attr _ (by decide)) (d:=.val (.ref R)) ∅) .noneC (a0w fun v e=>by cases e;rfl)) fun u0 z0=>?_
 refine a6y z0 rm' (.self ∅ (hX nds rdl) hE.cls (hE.attr _ (by decide)) (d:=.val (.ref Dn)) ∅) fun y2 j1=>?_
 obtain⟨v3,y5⟩:∃v3:List (Str×D),v3=([("self",.val (.ref X)),("n2i",.val (.ref Dn))]:List (Str×D)):=⟨_,rfl⟩
 have lf:v3.all (fun p=>a2l p.2)=true:=by rw[y5];rfl
 have l1:v3.lookup ("self":Str)=some (.val (.ref X)):=by rw[y5];kernel_rfl
 have l2:v3.lookup ("n2i":Str)=some (.val (.ref Dn)):=by rw[y5];kernel_rfl
 have lk:∀y0:List (Str×D),y0.lookup ("self":Str)=some (.val (.ref X))→y0.lookup ("n2i":Str)=some (.val (.ref Dn))→Lk y0 v3:=fun y0 a b=>by rw[y5];exact .cons a (.cons b .nil)
 clear y5 z0 w0 t
 walk_at "x"
 refine a6w (fun i y0 x0=>(y0.lookup ("self":Str)=some (.val (.ref X))∧y0.lookup ("n2i":Str)=some (.val (.ref Dn)))∧∃nds' rdl',x0=soQ prog w X dX Dn R p (f+i) nds' rdl'∧(a1q nds',rdl')=(xs.take i).foldl a0k (a1q nds,rdl)∧nds'.map a3b=nds.map a3b) (fun d=>[("node",d)]) j1 rm' (It.tuple (.name (d:=.tuple (a0i xs)) ∅)) (fun d _=>.name (.inl ∅)) ⟨⟨∅,∅⟩,_,_,rfl,rfl,rfl⟩ ?_ ?_
 ·rintro j4 i d y0 _ i4 E' hd ⟨⟨q1,q2⟩,k8,l6,rfl,ha,hc⟩ w6
  obtain⟨q,hq,rfl⟩:∃q,xs[i]? =some q∧d=dn q:=by
   rw[a0i,getElem?_map]at hd
   cases h:xs[i]? with
   | none=>rw[h]at hd;cases hd
   | some q=>rw[h]at hd;cases hd;exact⟨q,rfl,rfl⟩
  have w6:=w6.pick (ρ':=("node",dn q)::v3) (.cons a0l (lk _ (a0f q1) (a0f q2)))
  walk_at "c"
  rcases c3z hok hq with⟨ok1,ok2,ok3⟩
  have htake:(xs.take (i+1)).foldl a0k (a1q nds,rdl)=a0k (a1q k8,l6) q:=by rw[take_add_one,hq,foldl_append,←ha];rfl
  rw[←ha]at ok1 ok2 ok3
  rcases a9q (c1z ok1)with⟨n1,r,n2,rfl,hrk⟩
  walk_at "u"
  have hk':((n1++r::n2).map (·.k)).Nodup:=by rw[a2v hc];exact hk
  have hrm:r∈n1++r::n2:=zB (.inr (.head _))
  have hv:=a9u hk' hrm
  subst hrk
  have hnp:r.np= -1:=by have:=c4r hk' hrm;rw[this]at ok1;exact Option.some.inj ok1
  have hsc:=c4q hk' hrm
  dsimp only at ok2 ok3 htake hsc
  rw[hsc]at ok2 ok3
  refine b2b w6 rm' (Ev.dget (G:=G.at (soQ prog w X dX Dn R p (f+i) (n1++r::n2) l6)) (v:=.ref r.a) (.name (d:=.val (.ref Dn)) (a0f l2)) (.name (d:=dn r.k) a0l) (.tail _ (.tail _ (.head _))) hlo (by rw[hv];rfl)) rfl fun u0 z0=>wpAny_execs_nil ?_
  show wpAny _ _ (execs _ _) _ _ _
  have hslot:∀{b5:List Nd} {rdl₂:List Nat} {j8:Nd},j8∈b5→∀z∈ndO j8,z∈soQ prog w X dX Dn R p (f+i) b5 rdl₂:=fun h z hp=>zB (.inl (.tail _ (.tail _ (.tail _ (mem_flatMap.mpr ⟨_,h,hp⟩)))))
  refine a6y z0 rm' (.slot (C:=70) (i:=1) (ds:=ndV r) (dd:=.int (-1)) (.name (d:=.val (.ref r.a)) a0l) (hslot hrm _ (.head _)) (hslot hrm _ (.tail _ (.head _))) hE.d.ni hE.d.s1 (by rw[←hnp];rfl)) fun y2 j1=>?_
  refine a4u j1 rm' (Ts.cmp (.name (d:=.int (-1)) a0l) (.globI ∅ hOut) (c9a (a:=-1) (b:=-1))) fun l3 z1=>?_
  rw[a4d]at z1
  walk_at "x"
  refine a6o z1 rm' (zB (.inr (.tail _ (.head _)))) hE.d.ni hE.d.s1 (le_of_ble_eq_true rfl) (le_of_ble_eq_true rfl) (.name (d:=.val (.ref r.a)) (a0f a0l)) (.globI ∅ hDone) rfl fun y3 u1=>?_
  walk_at "c"
  rcases(⟨_,rfl⟩:∃r':Nd,r'={r with np:=-2})with⟨r',hr'⟩
  have u8:r'.k=r.k:=by rw[hr']
  have lA:r'.a=r.a:=by rw[hr']
  rcases(⟨_,rfl⟩:∃b5,b5=n1++r'::n2)with⟨b5,a8⟩
  walk_at "u"
  have z2:=u1.eqOl (ol':=soQ prog w X dX Dn R p (f+i) b5 l6) (by rw[a8,a4d,a5j u8 lA,hr'];rfl)
  have r9:b5.map a3b=nds.map a3b:=by rw[a8,←hc];exact a7v (by rw[hr'];rfl)
  have xA:a1q b5=setA (a1q (n1++r::n2)) r.k (-2):=by rw[a8,a5n (f:=fun e=>(e.1,-2,e.2.2)) hk' (by rw[hr'])];rfl
  have d7:r'∈b5:=by rw[a8];exact zB (.inr (.head _))
  have ok3':∀y∈r'.sc,y∈nds.map (·.k):=fun y hy=>by
   have:=ok3 y (by rw[hr']at hy;exact hy)
   rw[a3o,a2v hc]at this
   exact this
  have hdone:a0k (a1q (n1++r::n2),l6) r.k=r'.sc.foldl a1j (a1q b5,l6):=by rw[a0k,hsc,xA,hr']
  have hlen:l6.length+r'.sc.length≤1000:=by rw[hr'];exact ok2
  have j3:=z2.pick (ρ':=("nodeinfo",.val (.ref r'.a))::v3) (.cons (by rw[lA];exact a0f a0l) (lk _ (a0f (a0f (a0f l1))) (a0f (a0f (a0f l2)))))
  rw[hdone]at htake
  clear hdone ok1 ok2 ok3 hnp hsc hv hrm z2 u1 z1 j1 z0 w6 ha hk'
  have hmem:=hslot (rdl₂:=l6) d7 _ (.tail _ (.tail _ (.head _)))
  have hadr:∀{a5:List Nd} {rdl₃:List Nat},a5.map a3b=nds.map a3b→(soQ prog w X dX Dn R p (f+i) a5 rdl₃).map (·.1)=(soQ prog w X dX Dn R p (f+i) b5 l6).map (·.1):=fun h=>by
   unfold soQ soO
   rw[map_append,map_append,map_cons,map_cons,map_cons,map_cons,map_cons,map_cons,b4m (h.trans r9.symm)];rfl
  have hnd:∀{a5:List Nd} {rdl₃:List Nat},a5.map a3b=nds.map a3b→((soQ prog w X dX Dn R p (f+i) a5 rdl₃).map (·.1)).Nodup:=fun h=>by rw[hadr h];exact j3.lsn
  have hm3:∀{a5:List Nd} {rdl₃:List Nat},a5.map a3b=nds.map a3b→(r'.l,Ob.list (a0i r'.sc))∈soQ prog w X dX Dn R p (f+i) a5 rdl₃:=@fun a5 rdl₃ h=>by
   obtain⟨a9,h1,h2⟩:=c3c (h.trans r9.symm) d7
   have z:=hslot (rdl₂:=rdl₃) h1 _ (.tail _ (.tail _ (.head _)))
   have e1:a9.l=r'.l:=by have:=congrArg Nd.l h2;exact this
   have e2:a9.sc=r'.sc:=by have:=congrArg Nd.sc h2;exact this
   rw[e1,e2]at z
   exact z
  have hne:∀{a5:List Nd} {rdl₃:List Nat} {a:Addr} {P:Obj→Prop},a5.map a3b=nds.map a3b→(a,Ob.raw P)∈soQ prog w X dX Dn R p (f+i) a5 rdl₃→(a,Ob.raw P)∈but r'.l (soQ prog w X dX Dn R p (f+i) a5 rdl₃):=fun h hp=>a6a.mpr ⟨hp,fun e=>by
   have:=b8w (hnd h) hp (hm3 h) e
   cases this⟩
  have hneX:∀{a5:List Nd} {rdl₃:List Nat} {l:List (Str×D)},a5.map a3b=nds.map a3b→(dX,Ob.ns l)∈soQ prog w X dX Dn R p (f+i) a5 rdl₃→(dX,Ob.ns l)∈but r'.l (soQ prog w X dX Dn R p (f+i) a5 rdl₃):=fun h hp=>a6a.mpr ⟨hp,fun e=>by
   have:=b8w (hnd h) hp (hm3 h) e
   cases this⟩
  have hRl:R≠r'.l:=by
   have h:=j3.lsn
   unfold soQ at h
   rw[map_append,nodup_append]at h
   intro e
   exact h.2.2 r'.l (zN ⟨(r'.l,Ob.list (a0i r'.sc)),.tail _ (.tail _ (.tail _ (mem_flatMap.mpr ⟨_,d7,.tail _ (.tail _ (.head _))⟩))),rfl⟩) R (.head _) e.symm
  walk_at "x"
  refine c4w (fun j y0 x0=>(y0.all (fun p=>a2l p.2)=true∧y0.lookup ("self":Str)=some (.val (.ref X))∧y0.lookup ("n2i":Str)=some (.val (.ref Dn)))∧∃nds' rdl',x0=but r'.l (soQ prog w X dX Dn R p (f+i) nds' rdl')∧(a1q nds',rdl')=(r'.sc.take j).foldl a1j (a1q b5,l6)∧nds'.map a3b=nds.map a3b) (fun d=>[("successor",d)]) (j3.but hmem) rm' (c7d j3 hmem rm' (.slot (C:=70) (i:=2) (ds:=ndV r') (.name (d:=.val (.ref r'.a)) a0l) (hne r9 (hslot d7 _ (.head _))) (hne r9 (hslot d7 _ (.tail _ (.head _)))) hE.d.ni hE.d.s2 rfl)) (fun d _=>.name (.inl ∅)) ⟨⟨by rw[all_cons,lf];rfl,a0f l1,a0f l2⟩,_,_,rfl,rfl,r9⟩ ?_ ?_
  ·rintro aH j d l4 _ d6 bH hd ⟨⟨lf',q3,q4⟩,a5,rdl₃,rfl,hb,v8⟩ qG
   obtain⟨y,hy,rfl⟩:∃y,r'.sc[j]? =some y∧d=dn y:=by
    rw[a0i,getElem?_map]at hd
    cases h:r'.sc[j]? with
    | none=>rw[h]at hd;cases hd
    | some q=>rw[h]at hd;cases hd;exact⟨q,rfl,rfl⟩
   have hj:=(List.getElem?_eq_some_iff.mp hy).1
   have gG:rdl₃.length≤1000:=by
    have h:=c7o (r'.sc.take j) (a1q b5,l6)
    rw[←hb]at h
    have h2:=List.length_take_le j r'.sc
    rw[length_take]at h
    dsimp only at h
    omega
   have htk:(r'.sc.take (j+1)).foldl a1j (a1q b5,l6)=a1j (a1q a5,rdl₃) y:=by rw[take_add_one,hy,foldl_append,←hb];rfl
   have hyk:y∈(a1q a5).map (·.1):=by
    rw[a3o,a2v v8]
    exact ok3' y (mem_of_getElem? hy)
   have bC:(a5.map (·.k)).Nodup:=by rw[a2v v8];exact hk
   obtain⟨m1,q,m2,rfl,rfl⟩:=a9q hyk
   have hqm:q∈m1++q::m2:=zB (.inr (.head _))
   have hv:=a9u bC hqm
   have hnp:=c4r bC hqm
   refine a6y qG rm' (.ditem (k:=(q.k:Int)) (.name (d:=.val (.ref Dn)) (a0f q4)) (.name (d:=dn q.k) a0l) (hne v8 (.tail _ (.tail _ (.head _)))) hv) fun j6 rC=>?_
   have rC:=rC.pick (ρ':=("successor_info",.val (.ref q.a))::("successor",dn q.k)::v3) (.cons a0l (.cons (a0f a0l) (lk _ (a0f (a0f q3)) (a0f (a0f q4)))))
   have hq1:=hne v8 (hslot (rdl₂:=rdl₃) hqm _ (.head _))
   have hq2:=hne v8 (hslot (rdl₂:=rdl₃) hqm _ (.tail _ (.head _)))
   walk_at "c"
   rcases(⟨_,rfl⟩:∃B1,B1=but r'.l ((dX,.ns (soL Dn (.val (.ref R)) p (f+i)))::(X,a0r 167 dX)::(Dn,dcO prog w (a3k (m1++q::m2)))::m1.flatMap ndO))with⟨B1,hB1⟩
   rcases(⟨_,rfl⟩:∃B2,B2=but r'.l ((q.d,.raw (· =emptyDict))::(q.l,.list (a0i q.sc))::(m2.flatMap ndO++[(R,.list (a0i rdl₃))])))with⟨B2,hB2⟩
   walk_at "u"
   have hsp:∀q':Nd,q'.k=q.k→q'.a=q.a→q'.d=q.d→q'.l=q.l→q'.sc=q.sc→but r'.l (soQ prog w X dX Dn R p (f+i) (m1++q'::m2) rdl₃)=B1++(q.a,.raw (qSl 70 q.d (ndV q')))::B2:=fun q' f1 f2 f3 f4 f5=>by
    rw[a4d,b3h,f2,b4q (p:=(q.a,.raw (qSl 70 q'.d (ndV q')))) (a6a.mp hq1).2,a5j f1 f2,f3,f4,f5,←hB1,←hB2]
   have hsq:=hsp q rfl rfl rfl rfl rfl
   rw[hsq]at rC hq2
   walk_at "x"
   refine b3q rC rm' hq2 hE.d.ni hE.d.s1 (le_of_ble_eq_true rfl) (le_of_ble_eq_true rfl) (.name (d:=.val (.ref q.a)) a0l) (d0:=.int q.np) rfl .int (c5t (a:=q.np) (b:=1)) rfl fun a6 pG=>?_
   obtain⟨q',hq'⟩:∃q':Nd,q'={q with np:=q.np - 1}:=⟨_,rfl⟩
   have oG:=pG.eqOl (ol':=but r'.l (soQ prog w X dX Dn R p (f+i) (m1++q'::m2) rdl₃)) (by rw[hsp q' (by rw[hq']) (by rw[hq']) (by rw[hq']) (by rw[hq']) (by rw[hq']),hq'];rfl)
   have e7:(m1++q'::m2).map a3b=nds.map a3b:=by rw[←v8];exact a7v (by rw[hq'];rfl)
   have hqm':q'∈m1++q'::m2:=zB (.inr (.head _))
   have nF:a1q (m1++q'::m2)=a3n (a1q (m1++q::m2)) q.k (-1):=a5n (f:=fun e=>(e.1,e.2.1+(-1),e.2.2)) bC (by rw[hq'];rfl)
   have qa:q'.a=q.a:=by rw[hq']
   have qn:q'.np=q.np - 1:=by rw[hq']
   have hst:a1j (a1q (m1++q::m2),rdl₃) q.k=(a1q (m1++q'::m2),if(q'.np == 0)=true then rdl₃++[q.k]else rdl₃):=by
    unfold a1j
    dsimp only
    rw[nF,hnp]
    have:(some q.np=some (1:Int))↔(q'.np == 0)=true:=by
     rw[qn,Option.some.injEq,beq_iff_eq];omega
    simp only[this]
   refine b2c oG rm' (Ts.cmp (.slot (C:=70) (i:=1) (ds:=ndV q') (dd:=.int q'.np) (.name (d:=.val (.ref q'.a)) (by rw[qa];exact a0l)) (hne e7 (hslot hqm' _ (.head _))) (hne e7 (hslot hqm' _ (.tail _ (.head _)))) hE.d.ni hE.d.s1 rfl) .int (b8f (a:=q'.np) (b:=0))) fun v6 dE=>?_
   have hρ:((("successor_info",.val (.ref q.a))::("successor",dn q.k)::v3:List (Str×D)).all (fun p=>a2l p.2))=true:=by rw[all_cons,all_cons,lf];rfl
   cases hz:(q'.np == 0)with
   | false=>
    rw[hz]at hst
    refine wpAny_execs_nil (wpAny_execs_nil ⟨rfl,_,_,⟨⟨hρ,a0f (a0f l1),a0f (a0f l2)⟩,_,_,rfl,?_,e7⟩,dE⟩)
    rw[htk,hst];rfl
   | true=>
    rw[hz]at hst
    have hspR:∀l:List Nat,but r'.l (soQ prog w X dX Dn R p (f+i) (m1++q'::m2) l)=but r'.l (soO prog w X dX Dn (.val (.ref R)) p (f+i) (m1++q'::m2))++(R,.list (a0i l))::[]:=fun l=>by
     rw[soQ,b3h,b4q hRl];rfl
    have hXm:=hne e7 (zB (.inl (.tail _ (.head _))):(X,a0r 167 dX)∈soQ prog w X dX Dn R p (f+i) (m1++q'::m2) rdl₃)
    have hdm:=hneX (rdl₃:=rdl₃) e7 (.head _)
    rw[hspR]at hXm hdm dE
    refine b3t dE rm' (.attr (G:=G.at _) (d:=.val (.ref R)) (.name (d:=.val (.ref X)) (a0f (a0f l1))) hXm hdm hE.cls (hE.attr _ (by decide)) ∅) (.name (d:=dn q.k) (a0f a0l)) (by rw[a0i,length_map,sizeLine_eq];omega) fun j7 nG=>?_
    have mG:=nG.eqOl (ol':=but r'.l (soQ prog w X dX Dn R p (f+i) (m1++q'::m2) (rdl₃++[q.k]))) (by rw[hspR];unfold a0i;rw[map_append];rfl)
    refine wpAny_execs_nil (wpAny_execs_nil ⟨rfl,_,_,⟨⟨hρ,a0f (a0f l1),a0f (a0f l2)⟩,_,_,rfl,?_,e7⟩,mG⟩)
    rw[htk,hst];rfl
  ·rintro l4 _ d6 ⟨⟨lf',m1,m2⟩,nB,mB,rfl,hb,e7⟩ c8
   rw[a0i,length_map,take_length]at hb
   have z3:=j3.unbut hmem c8 (hm3 e7) (hnd e7) lf' a4l
   walk_at "x"
   refine a9g z3 rm' (hX nB mB) hE.cls (hE.attr _ (by decide)) (.name (d:=.val (.ref X)) m1) (d0:=dn (f+i)) ∅ .int (b2l (a:=((f+i:Nat):Int)) (b:=1)) (fun j6 w4=>?_) (le_of_ble_eq_true rfl)
   refine wpAny_execs_nil ⟨rfl,_,_,⟨⟨m1,m2⟩,nB,mB,rfl,?_,e7⟩,w4.eqOl rfl⟩
   rw[htake,←hb]
 ·rintro _ _ i4 ⟨_,nds',rdl',rfl,ha,hc⟩ z2
  rw[a0i,length_map]at ha z2
  rw[take_length]at ha
  exact wpAny_execs_nil (K nds' rdl' i4 ha hc (z2.toTrn wd b4 a4l))
end
end
section
namespace MW
theorem slot_ga:Slot "list_iterator" "__getattribute__" "object.__getattribute__":=
 .of (owner:="object") (n:="__getattribute__") (by rw[typeLookup_type,builtinLookup_eq_fast];kernel_rfl) (by decide +kernel) (by decide +kernel) (by decide +kernel)
  (by first | exact .inl (by decide +kernel) | exact .inr (by decide +kernel)) (by rw[isSubtype_type];kernel_rfl)
theorem lk_next:typeLookup (.type "list_iterator") "__next__"=pure (some (.builtin "list_iterator.__next__")):=by rw[typeLookup_type,builtinLookup_eq_fast];kernel_rfl
theorem ty_next:typeOf (.builtin "list_iterator.__next__")=pure (.type "wrapper_descriptor"):=by show builtinType _=_;rw[builtinType_eq_fast];kernel_rfl
theorem slot_get:Slot "wrapper_descriptor" "__get__" "wrapper_descriptor.__get__":=
 .of (owner:="wrapper_descriptor") (n:="__get__") (by rw[typeLookup_type,builtinLookup_eq_fast];kernel_rfl) (by decide +kernel) (by decide +kernel) (by decide +kernel)
  (by first | exact .inl (by decide +kernel) | exact .inr (by decide +kernel)) (by rw[isSubtype_type];kernel_rfl)
theorem no_set:typeLookup (.type "wrapper_descriptor") "__set__"=pure none:=by rw[typeLookup_type,builtinLookup_eq_fast];kernel_rfl
theorem no_del:typeLookup (.type "wrapper_descriptor") "__delete__"=pure none:=by rw[typeLookup_type,builtinLookup_eq_fast];kernel_rfl
theorem entry_get:entryFor table "wrapper_descriptor.__get__"=some Builtin.«wrapper_descriptor.__get__»:=entryFor_of_tree ∅
theorem args_get (a b c:Value):argsOk "wrapper_descriptor.__get__" ⟨[a,b,c],[]⟩:=by unfold argsOk;kernel_rfl
theorem b5j:(".".intercalate ("list_iterator.__next__".cutAt '.').dropLast)="list_iterator":=by decide +kernel
theorem sub_it:isSubtype (.type "list_iterator") (.type (".".intercalate ("list_iterator.__next__".cutAt '.').dropLast))=pure true:=by rw[b5j,isSubtype_type];kernel_rfl
end MW
section
variable {h:Heap} {g:Array GenState} {d:Drawn} {os:OsState} {a:Addr}
theorem c9l (hx:h.get? a=some o) (hc:o.cls= .type "list_iterator") (hq:R (.ok (.ret (.ref h.objs.size))) ⟨h.push {cls:=.type "method-wrapper",data:=.fields #[.builtin "list_iterator.__next__",.ref a]},g,d,t,os⟩):
  codeAny (model prog w) A (.call (.builtin "wrapper_descriptor.__get__") ⟨[.builtin "list_iterator.__next__",.ref a,.type "list_iterator"],[]⟩) R ⟨h,g,d,t,os⟩:=by
 have hT:(⟨h,g,d,t,os⟩:Shared).TypeIs (.ref a) "list_iterator":=⟨_,hx,hc⟩
 have hT5:(⟨h,g,d,t,os⟩:Shared).TypeIs (.builtin "list_iterator.__next__") "wrapper_descriptor":=MW.ty_next
 have f8:=MW.sub_it
 refine codeAny_call_builtin MW.slot_get.plain MW.entry_get (MW.slot_get.check _ _ _ _ _ _ _ _ hT5 (MW.args_get _ _ _) ?_)
 repeat (any_goals (first | assumption | wp_step))
theorem c2e {tk:Tok} {l:Addr} {Q:Fin→Shared→Prop} (hx:h.get? a=some {cls:=.type "list_iterator",data:=.fields #[.ref l,.int 0 0]}) (hq:Q (.done (.ret (.ref h.objs.size))) ⟨h.push {cls:=.type "method-wrapper",data:=.fields #[.builtin "list_iterator.__next__",.ref a]},g,d,t,os⟩):
  wpAny (model prog w) A (Builtin.«object.__getattribute__» ⟨[.ref a,.str "__next__" tk],[]⟩) Q E ⟨h,g,d,t,os⟩:=by
 have hT:(⟨h,g,d,t,os⟩:Shared).TypeIs (.ref a) "list_iterator":=⟨_,hx,rfl⟩
 have hT5:(⟨h,g,d,t,os⟩:Shared).TypeIs (.builtin "list_iterator.__next__") "wrapper_descriptor":=MW.ty_next
 have f4:=MW.lk_next
 have f5:=MW.ty_next
 have f6:=MW.slot_get.lookup
 have f7:=MW.no_set
 have f8:=MW.no_del
 repeat (any_goals (first | assumption | wp_step))
 refine c9l hx rfl ?_
 repeat (any_goals (first | assumption | wp_step))
theorem c6h {tk:Tok} {l:Addr} (hx:h.get? a=some {cls:=.type "list_iterator",data:=.fields #[.ref l,.int 0 0]}) (hq:R (.ok (.ret (.ref h.objs.size))) ⟨h.push {cls:=.type "method-wrapper",data:=.fields #[.builtin "list_iterator.__next__",.ref a]},g,d,t,os⟩):
  codeAny (model prog w) A (.call (.builtin "object.__getattribute__") ⟨[.ref a,.str "__next__" tk],[]⟩) R ⟨h,g,d,t,os⟩:=
 codeAny_call_builtin MW.slot_ga.plain F.entry_object_getattribute (MW.slot_ga.check _ _ _ _ _ _ _ _ (show(⟨h,g,d,t,os⟩:Shared).TypeIs (.ref a) "list_iterator" from⟨_,hx,rfl⟩) (F.args_object_getattribute_2 _ _) (c2e hx hq))
theorem d0x {tk:Tok} {l:Addr} (hx:h.get? a=some {cls:=.type "list_iterator",data:=.fields #[.ref l,.int 0 0]}) (hq:Q (.ref h.objs.size) ⟨h.push {cls:=.type "method-wrapper",data:=.fields #[.builtin "list_iterator.__next__",.ref a]},g,d,t,os⟩):
  wpAny (model prog w) A (getAttrBy (.ref a) (.str "__next__" tk) true ex) Q E ⟨h,g,d,t,os⟩:=by
 have hT:(⟨h,g,d,t,os⟩:Shared).TypeIs (.ref a) "list_iterator":=⟨_,hx,rfl⟩
 have f2:=MW.slot_ga.lookup
 have f3:=MW.slot_ga.bind (.ref a)
 repeat (any_goals (first | assumption | wp_step))
 rw[if_neg (by cases ex <;> decide)]
 repeat (any_goals (first | assumption | wp_step))
 refine c6h hx ?_
 repeat (any_goals (first | assumption | wp_step))
theorem c6i {l:Addr} {s:Shared} (hx:s.heap.get? a=some {cls:=.type "list_iterator",data:=.fields #[.ref l,.int 0 0]}) (hq:Q (.ref s.heap.objs.size) {s with heap:=s.heap.push {cls:=.type "method-wrapper",data:=.fields #[.builtin "list_iterator.__next__",.ref a]},toks:=s.toks+1}):
  wpAny (model prog w) A (getAttr (.ref a) "__next__" ex) Q E s:=by
 obtain⟨h,g,d,t,os⟩:=s
 unfold getAttr
 repeat (any_goals (first | assumption | with_reducible apply d0x hx hq | wp_step))
end
end
section
section
variable {s:Shared}
theorem a8q:plainId "list_iterator.__next__"=true:=by decide +kernel
theorem b8v:builtinKind "list_iterator.__next__"=some .slot:=by kernel_rfl
theorem a9c {Q:Unit→Shared→Prop} (q:Q () s):wpAny (model prog w) A (checkBoundCall "list_iterator.__next__" ⟨[v],[]⟩) Q E s:=by
 have h:=args_listiter_next v
 unfold argsOk at h
 unfold checkBoundCall
 cases hs:Manifest.signature? "list_iterator.__next__" with
 | none=>exact wpAny_pure q
 | some sig=>
  rw[hs]at h
  rw[b8v]
  show wpAny _ _ (if((Manifest.AttrKind.slot != .method) && (Manifest.AttrKind.slot != .classMethod))=true then _ else _) _ _ _
  rw[if_pos (by decide)]
  exact wpAny_of_eq h q
theorem b9r {it l:Addr} {i:Nat} {x:Value} {Q:PySem.Fin→Shared→Prop} (hit:s.heap.IsListIter it l i) (hl:s.heap.IsList l items) (hx:items[i]? =some x)
  (hQ:∀h',h'.IsListIter it l (i+1)→Heap.SameBut it s.heap h'→Q (.done (.ret x)) {s with heap:=h'}):wpAny (model prog w) A (Builtin.«list_iterator.__next__» ⟨[.ref it],[]⟩) Q E s:=by
 walk_at "c"
 rcases id hit with⟨o,ho,hc,hd⟩
 rcases hl with⟨ol,hol,_,nl,hdl⟩
 walk_at "u"
 show wpAny _ _ (field (.ref it) 0 >>= _) _ _ s
 refine wpAny_bind (wpAny_field ho hd (x:=.ref l) rfl ?_)
 show wpAny _ _ (if(Value.ref l == Value.none)=true then _ else field (.ref it) 1 >>= _) _ _ s
 rw[if_neg (show ¬((Value.ref l == Value.none)=true)from Bool.false_ne_true)]
 refine wpAny_bind (wpAny_field ho hd (x:=.int i 0) rfl ?_)
 show wpAny _ _ (seqItems? (.ref l) >>= _) _ _ s
 refine wpAny_bind (wpAny_seqItems hol hdl ?_)
 simp only[Int.toNat_natCast,hx]
 exact wpAny_bind (wpAny_setField ho hd (by simp) (wpAny_pure (hQ _ ⟨_,Heap.get?_update_self _ ho (Obj.isFreed_of_fields (Obj.data_mapFields hd _)),(Obj.cls_mapFields ..).trans hc,by rw[Obj.data_mapFields hd];simp[rawInt]⟩ (Heap.SameBut.update ..))))
theorem c3h {it l:Addr} {i:Nat} {Q:PySem.Fin→Shared→Prop} (hh:A.handled=none) (hit:s.heap.IsListIter it l i) (hl:s.heap.IsList l items) (hx:items[i]? =none)
  (hE:∀j2 h' e,Heap.SameBut it s.heap j2→(∃o,j2.get? it=some o)→Heap.MadeExcOf j2 h' e (.type "StopIteration") []→E (.ref e) {s with heap:=h'}):wpAny (model prog w) A (Builtin.«list_iterator.__next__» ⟨[.ref it],[]⟩) Q E s:=by
 walk_at "c"
 rcases id hit with⟨o,ho,hc,hd⟩
 rcases hl with⟨ol,hol,_,nl,hdl⟩
 walk_at "u"
 show wpAny _ _ (field (.ref it) 0 >>= _) _ _ s
 refine wpAny_bind (wpAny_field ho hd (x:=.ref l) rfl ?_)
 show wpAny _ _ (if(Value.ref l == Value.none)=true then _ else field (.ref it) 1 >>= _) _ _ s
 rw[if_neg (show ¬((Value.ref l == Value.none)=true)from Bool.false_ne_true)]
 refine wpAny_bind (wpAny_field ho hd (x:=.int i 0) rfl ?_)
 show wpAny _ _ (seqItems? (.ref l) >>= _) _ _ s
 refine wpAny_bind (wpAny_seqItems hol hdl ?_)
 simp only[Int.toNat_natCast,hx]
 refine wpAny_bind (wpAny_rule (wpAny_bind (wpAny_setField ho hd (by simp) ?_)))
 have hs:=Heap.SameBut.update s.heap it (Obj.mapFields (·.setIfInBounds 0 Value.none))
 have hi:=Heap.get?_update_self (Obj.mapFields (·.setIfInBounds 0 Value.none)) ho (Obj.isFreed_of_fields (Obj.data_mapFields hd _))
 generalize s.heap.update it (Obj.mapFields (·.setIfInBounds 0 Value.none))=j2 at hs hi
 show wpAny _ _ (newExc (.type "StopIteration") [] >>= _) _ _ _
 refine wpAny_bind ?_
 simp only[newExc,newTuple]
 refine wpAny_bind (wpAny_newObj_type ?_ (by size_fits))
 refine wpAny_bind (m:=firstArgMember _ _) (wpAny_of_eq (a:=Value.none) (by first | rfl | (simp only[firstArgMember];rfl)) ?_)
 refine wpAny_newObj_type ?_ (by size_fits)
 unfold raiseNew
 refine wpAny_bind (wpAny_handled ?_)
 rw[hh]
 refine wpAny_bind (wpAny_pure (wpAny_throw ?_))
 refine hE j2 _ _ hs ⟨_,hi⟩ ⟨fun b o e=>get?_push_of_some _ (get?_push_of_some _ e),a0c (by rw[size_push];exact Nat.le_succ _),j2.objs.size,?_,a0c (Nat.le_refl _),?_⟩
 ·exact get?_push_size _ rfl
 ·exact get?_push_of_some _ (get?_push_size _ rfl)
noncomputable abbrev mwO (it:Addr):Obj:={cls:=.type "method-wrapper",data:=.fields #[.builtin "list_iterator.__next__",.ref it]}
theorem c6g {m it l:Addr} {i:Nat} {x:Value} (hm:s.heap.get? m=some (mwO it)) (hit:s.heap.IsListIter it l i) (hl:s.heap.IsList l items) (hx:items[i]? =some x)
  (hQ:∀h',h'.IsListIter it l (i+1)→Heap.SameBut it s.heap h'→Q x {s with heap:=h'}):wpAny (model prog w) A (call (.ref m) []) Q E s:=
 a5z hm (.inr rfl) rfl a8q entry_listiter_next (a9c rfl) (b9r hit hl hx fun h' a b=>⟨_,rfl,hQ h' a b⟩)
theorem c9m {m it l:Addr} {i:Nat} (hh:A.handled=none) (hm:s.heap.get? m=some (mwO it)) (hit:s.heap.IsListIter it l i) (hl:s.heap.IsList l items) (hx:items[i]? =none)
  (hE:∀j2 h' e,Heap.SameBut it s.heap j2→(∃o,j2.get? it=some o)→Heap.MadeExcOf j2 h' e (.type "StopIteration") []→E (.ref e) {s with heap:=h'}):wpAny (model prog w) A (call (.ref m) []) Q E s:=
 a5z hm (.inr rfl) rfl a8q entry_listiter_next (a9c rfl) (c3h hh hit hl hx hE)
end
end
section
section
variable {n:Nat} {s:Shared}
end
end
section
section
variable {n:Nat} {s:Shared}
theorem Stt.cdH (t:Stt G H env own W i0 ρ ol j0 s) (hob:Obs (fun _=>none) H ob):Cd (G.at ob) env (W++i0) ρ s:=
 let c:=t.cd
 ⟨c.top.of_at.at ob,c.kind,c.glob,c.bi,c.vars,c.mem,c.cs,fun p hp=>let⟨o,e,r⟩:=hob p hp;⟨o,t.kH _ _ e,r.mono fun a o e=>nomatch e⟩⟩
theorem c2q {e:Expr} {x:Addr} (t:Stt G H env own W i0 ρ ol j0 s) (rm:Rm A n) (hx:∃o,H.get? x=some o∧o.IsDictOf (intKind prog w) kvs) (hlo:(x == sysModules)=false) (hM:x∉i0) (h:Ev prog w (G.at ol) n env ρ e (.val (.ref x))) (Q:Value→Shared→Prop)
  (K:∀I s' old,Kp s s'→Hk s.heap old→Hk old s'.heap→Itr prog w A old s'.heap (W++i0) I (kvs.map fun kv=>.int kv.1)→Q (.ref I) s'):wpAny (model prog w) A (eval e env) (fun v g0=>wpAny (model prog w) A (pyIter v) Q E g0) E s:=by
 refine h A _ s _ E rm t.cd fun v g0 l0 dv=>?_
 cases dv
 have w0:=t.keeps l0
 obtain⟨o,eo,es,ep,hd1,hd2,hd3,hd4,hd5⟩:=hx
 have hxW:x∉W:=fun hm=>by exact nsn (t.fH x hm) eo
 have u8:=w0.kH _ _ eo
 have hD:g0.heap.DictAt (intKind prog w) x kvs ep:=⟨o,es,u8,hd1,hd2,hd3,hd4,hd5⟩
 have hlt:=lt_size u8
 refine wpAny_pyIter_dict hlo hD (K _ _ g0.heap (l0.trans (Kp.push _ _)) l0.hk (Hk.push _ _) ?_)
 have Wk:=Walks.dictKeys (prog:=prog) (w:=w) (knd:=intKind prog w) rm.hd g0.heap.objs.size x (Nat.ne_of_lt hlt) kvs ep
 rw[show kvs.length=(kvs.map fun kv:Int×Value=>D.int kv.1).length from by rw[length_map]]at Wk ⊢
 refine⟨_,_,_,_,Wk,⟨⟨_,get?_push_size _ rfl,rfl,rfl⟩,hD.push _⟩,?_,?_,?_,?_,?_,?_⟩
 ·intro b hb;rw[zS hb];exact a0c (Nat.le_refl _)
 ·intro j h st b hb;rw[zS hb];obtain⟨⟨o,e,_⟩,_⟩:=st;exact⟨o,e⟩
 ·intro b hb
  rcases a0o hb with rfl | hb
  ·exact⟨_,get?_push_size _ rfl⟩
  ·rw[zS hb];exact⟨_,get?_push_of_some _ u8⟩
 ·intro b hb
  rcases a0o hb with rfl | hb
  ·exact w0.cd.fresh (Nat.le_refl _)
  ·rw[zS hb];intro hm
   rcases zA hm with hm | hm
   ·exact hxW hm
   ·exact hM hm
 ·intro tgt i v s Q E st hQ;exact letGo_keyiter st.1 hQ
 ·intro j v hI'
  walk_at "c"
  rcases hI' with⟨k,y,hk,hv⟩
  have:∃t,v= .int k t:=by
   cases v <;> first | exact⟨_,by rw[of_decide_eq_true hv]⟩ | cases hv
  rcases this with⟨t,rfl⟩
  walk_at "u"
  exact⟨.int k,by rw[getElem?_map,hk];rfl,g0.heap,Hk.push _ _,Hk.refl _,.int _ _⟩
end
end
section
section
variable {n:Nat} {s:Shared}
theorem c3s {Q:Flow→Shared→Prop} {x:Str} {e:Expr} {ob:Ob} {rest:List Stmt} (t:Stt G H env own W i0 ρ ol j0 s)
  (h:∀(Q:Value→Shared→Prop),(∀a s',Kp s s'→s.heap.get? a=none→(∃o,s'.heap.get? a=some o∧ObR (fun _=>none) o ob)→Q (.ref a) s')→wpAny (model prog w) A (eval e env) Q E s) (hf:a3a ob=true)
  (K:∀a s',s.heap.get? a=none→Stt G H env own (a::W) i0 ((x,.val (.ref a))::ρ) ((a,ob)::ol) j0 s'→wpAny (model prog w) A (execs rest env) Q E s')
  (hx:env.kindOf x=some .local:=by kernel_rfl) (hs:swapsWith e (some (.Name x px)) pos.line env=pure false:=by kernel_rfl):
  wpAny (model prog w) A (execs (.Assign [.Name x px] e pos::rest) env) Q E s:=by
 walk_at "x"
 refine wpAny_Assign_Name (h _ fun a g0 l0 hn ho=>?_) hs
 obtain⟨o,eo,ho⟩:=ho
 exact(t.own1 l0 hn eo (ho.flatA hf)).put (.inl hx) (.val _) fun s' t' _=>K a s' hn t'
theorem Ts.inSet {a:Addr} {k:Int} {S:Int→Bool} {m:Nat} {l r:Expr} {p:Pos} (hl:Ev prog w G n env ρ l (.int k)) (hr:Ev prog w G n env ρ r (.val (.ref a))) (ha:(a,Ob.raw (·.SetObjOf (intKind prog w) S m))∈G.ob) (hz:m < scanBound)
  (hm:behindInMarks .In r=false:=by with_unfolding_all rfl):Ts prog w G n env ρ (.Compare l [.In] [r] p) (S k):=
 fun A M s Q E rm c K=>wpAny_isTrue_Compare1 (hl A M s _ E rm c fun x g0 l0 dx=>hr A M g0 _ E rm (c.keeps l0) fun y u0 y1 dy=>by
  cases dx with
  | int _ t=>
   cases dy
   obtain⟨o,eo,ho⟩:=((c.keeps l0).keeps y1).obs _ ha
   exact wpAny_inSet_of (knd:=intKind prog w) (intKind_is _ _ _ _) rfl (ho.setOf eo hz) (wpAny_truthy_bool (K _ ((l0.trans y1).trans (Kp.tok _ _))))) hm
theorem Ts.inDict {a:Addr} {k:Int} {b:Bool} {q:Obj→Prop} {l r:Expr} {p:Pos} (hl:Ev prog w G n env ρ l (.int k)) (hr:Ev prog w G n env ρ r (.val (.ref a))) (ha:(a,Ob.raw q)∈G.ob) (hq:∀o,q o→∃kvs,o.IsDictOf (intKind prog w) kvs∧(valueAt kvs k).isSome=b) (hlo:(a == sysModules)=false)
  (hm:behindInMarks .In r=false:=by with_unfolding_all rfl):Ts prog w G n env ρ (.Compare l [.In] [r] p) b:=
 fun A M s Q E rm c K=>wpAny_isTrue_Compare1 (hl A M s _ E rm c fun x g0 l0 dx=>hr A M g0 _ E rm (c.keeps l0) fun y u0 y1 dy=>by
  cases dx with
  | int _ t=>
   cases dy
   walk_at "c"
   rcases((c.keeps l0).keeps y1).obs _ ha with⟨o,eo,ho⟩
   rcases hq o ho with⟨kvs,hd,rfl⟩
   walk_at "u"
   exact wpAny_in_of (knd:=intKind prog w) (intKind_is _ _ _ _) hlo (Heap.dictOf_iff.mpr ⟨o,eo,hd⟩).mapOf (wpAny_truthy_bool (K _ ((l0.trans y1).trans (Kp.tok _ _))))) hm
theorem b7e {Q:Flow→Shared→Prop} {b e:Expr} {a:Addr} {k:Int} {S S':Int→Bool} {m m':Nat} {cp:Pos} {rest:List Stmt} (t:Stt G H env own W i0 ρ (l1++(a,.raw (·.SetObjOf (intKind prog w) S m))::l2) j0 s) (rm:Rm A n) (hb:Ev prog w (G.at (l1++(a,.raw (·.SetObjOf (intKind prog w) S m))::l2)) n env ρ b (.val (.ref a)))
  (he1:Ev prog w (G.at (l1++(a,.raw (·.SetObjOf (intKind prog w) S m))::l2)) n env ρ e (.int k)) (hz:m+1 < scanBound) (hS:(fun k'=>S k' || decide (k'=k))=S') (hm:(if S k then m else m+1)=m')
  (K:∀s',Stt G H env own W i0 ρ (l1++(a,.raw (·.SetObjOf (intKind prog w) S' m'))::l2) j0 s'→wpAny (model prog w) A (execs rest env) Q E s') (he:eval (.Call (.Attribute b "add" ap) [e] [] cp) env=(do
   let ov ←eval b env
   standAt ap.atName
   let(f,first) ←holding [ov] (getMethod ov "add" pl)
   callWith cp f first (backTo cp (starEach [e] env)) []):=by rfl) (hse:starEach [e] env=(false,eval e env)::starEach [] env:=by rfl)
  (hi:interactive env=false:=by kernel_rfl) (hs:swapsWith (.Call (.Attribute b "add" ap) [e] [] cp) none pos.line env=pure false:=by kernel_rfl):
  wpAny (model prog w) A (execs (.Expr (.Call (.Attribute b "add" ap) [e] [] cp) pos::rest) env) Q E s:=by
 subst hS hm
 walk_at "x"
 refine wpAny_Expr (MethodCall_ (hb A _ s _ E rm t.cd fun ov g0 l0 dov=>?_) he) hi hs
 cases dov
 have t:=t.keeps l0
 obtain⟨_,_,o,eo,ho⟩:=t.ls (a,.raw (·.SetObjOf (intKind prog w) S m)) (zB (.inr (.head _)))
 refine getMethod_set_add (ho.setOf eo (by omega)) ?_
 refine callWith_method1 (EvL.go rm (.cons he1 hse .nil) t.cd fun vs u0 y1 dv=>?_) hse (by rfl)
 cases dv with
 | cons d0 d1=>
 cases d1
 cases d0 with
 | int _ tk=>
 have t:=t.keeps y1
 obtain⟨_,_,o,eo,ho⟩:=t.ls (a,.raw (·.SetObjOf (intKind prog w) S m)) (zB (.inr (.head _)))
 refine call_set_add (knd:=intKind prog w) (intKind_is _ _ _ _) rfl (ho.setOf eo (by omega)) hz fun h' hsb hS'=>?_
 obtain⟨o',eo',ho'⟩:=hS'.objOf
 exact K _ (t.turnAt (Kw.sameBut (tk:=u0.toks+1) hsb) eo' ho')
end
end
section
noncomputable def qN2 (prog:Program) (w:World) (xs:List Nat) (o:Obj):Prop:=∃kvs:List (Int×Value),o.IsDictOf (intKind prog w) kvs∧kvs.map (·.1)=xs.map (fun x:Nat=>(x:Int))∧∀(i:Nat) (k:Int) (v:Value),kvs[i]? =some (k,v)→∃t,v= .int (i:Int) t
section
variable {n:Nat} {s:Shared}
theorem a7p (hn:(kvs.map (·.1)).Nodup) {i:Nat} {k:Int} (h:kvs[i]? =some (k,v)):valueAt kvs k=some v:=by
 induction kvs generalizing i with
 | nil=>cases h
 | cons p kvs ih=>
  rw[map_cons,nodup_cons]at hn
  unfold valueAt
  rw[find?_cons]
  cases i with
  | zero=>cases h;simp
  | succ i=>
   have hm:k∈kvs.map (·.1):=zN ⟨_,mem_of_getElem? (by simpa using h),rfl⟩
   have:¬p.1=k:=fun e=>hn.1 (e▸hm)
   simp only[this,decide_false]
   exact ih hn.2 (by simpa using h)
theorem c4b {k:Int} (h:k∉kvs.map (·.1)):valueAt kvs k=none∧∀v,stored kvs k v=kvs++[(k,v)]:=by
 have hn:∀kv∈kvs,¬kv.1=k:=fun kv hkv e=>h (zN ⟨kv,hkv,e⟩)
 refine⟨?_,fun v=>?_⟩
 ·unfold valueAt
  rw[List.find?_eq_none.mpr fun kv hkv=>by simpa using hn kv hkv];rfl
 ·unfold stored
  refine if_neg fun ha=>?_
  obtain⟨kv,hkv,e⟩:=List.any_eq_true.mp ha
  exact hn kv hkv (of_decide_eq_true e)
theorem c5n (h:o.IsDictOf (intKind prog w) []):qN2 prog w [] o:=⟨[],h,rfl,fun i k v e=>by cases e⟩
theorem c1i {x:Nat} (h:qN2 prog w xs o):∃kvs:List (Int×Value),o.IsDictOf (intKind prog w) kvs∧(valueAt kvs (x:Int)).isSome=decide (x∈xs):=by
 obtain⟨kvs,hd,hk,hv⟩:=h
 refine⟨kvs,hd,?_⟩
 have hm:((x:Int)∈kvs.map (·.1))↔x∈xs:=by
  rw[hk,mem_map]
  exact⟨fun⟨y,hy,e⟩=>by have:y=x:=(by omega);exact this▸hy,fun h=>⟨x,h,rfl⟩⟩
 by_cases hx:x∈xs
 ·obtain⟨p,hp,e⟩:=zM (hm.mpr hx)
  walk_at "c"
  rcases List.mem_iff_getElem?.mp hp with⟨i,hi⟩
  rcases hd with⟨_,_,_,_,_,_,hn⟩
  walk_at "u"
  rw[show valueAt kvs (x:Int)=some p.2 from a7p hn (i:=i) (by rw[hi,←e])]
  simp[hx]
 ·rw[(c4b fun h=>hx (hm.mp h)).1]
  simp[hx]
theorem c8r {x i:Nat} (h:qN2 prog w xs o) (hi:xs[i]? =some x):∃kvs t,o.IsDictOf (intKind prog w) kvs∧valueAt kvs (x:Int)=some (.int (i:Int) t):=by
 obtain⟨kvs,hd,hk,hv⟩:=h
 have h1:(kvs.map (·.1))[i]? =some (x:Int):=by rw[hk,getElem?_map,hi];rfl
 rw[getElem?_map]at h1
 cases e:kvs[i]? with
 | none=>rw[e]at h1;cases h1
 | some p=>
  rw[e]at h1
  walk_at "c"
  rcases p with⟨k,v⟩
  rcases hv i k v e with⟨t,rfl⟩
  walk_at "u"
  have:k=(x:Int):=Option.some.inj h1
  subst this
  have hd':=hd
  obtain⟨_,_,_,_,_,_,hn⟩:=hd
  exact⟨kvs,t,hd',a7p hn e⟩
theorem c0k {Q:Flow→Shared→Prop} {d k e:Expr} {a:Addr} {x:Nat} {rest:List Stmt} (t:Stt G H env own W i0 ρ (l1++(a,.raw (qN2 prog w xs))::l2) j0 s) (rm:Rm A n) (he:Ev prog w (G.at (l1++(a,.raw (qN2 prog w xs))::l2)) n env ρ e (dn xs.length)) (hd:Ev prog w (G.at (l1++(a,.raw (qN2 prog w xs))::l2)) n env ρ d (.val (.ref a)))
  (hk:Ev prog w (G.at (l1++(a,.raw (qN2 prog w xs))::l2)) n env ρ k (dn x)) (hx:x∉xs) (hz:xs.length≤1000) (hlo:(a == sysModules)=false)
  (K:∀s',Stt G H env own W i0 ρ (l1++(a,.raw (qN2 prog w (xs++[x])))::l2) j0 s'→wpAny (model prog w) A (execs rest env) Q E s')
  (hs:swapsWith e (some (.Subscript d k sp)) pos.line env=pure false:=by kernel_rfl):wpAny (model prog w) A (execs (.Assign [.Subscript d k sp] e pos::rest) env) Q E s:=by
 walk_at "x"
 refine wpAny_Assign_Subscript (he A _ s _ E rm t.cd fun v g0 l0 dv=>hd A _ g0 _ E rm (t.keeps l0).cd fun ov u0 y1 dov=>hk A _ u0 _ E rm ((t.keeps l0).keeps y1).cd fun kv y2 a4 dk=>?_) hs
 cases dov
 cases dk with
 | int _ tk=>
 cases dv with
 | int _ tv=>
 have j1:=((t.keeps l0).keeps y1).keeps a4
 obtain⟨_,_,o,eo,kvs,hD,hk1,hk2⟩:=j1.ls (a,.raw (qN2 prog w xs)) (zB (.inr (.head _)))
 have hl:kvs.length=xs.length:=by have:=congrArg List.length hk1;simpa using this
 refine wpAny_setItem_pairs (intKind_is _ _ _ _) (Heap.dictOf_iff.mpr ⟨o,eo,hD⟩) (fun h' hd' hs'=>?_) (by rw[sizeLine_eq];omega)
 have hno:(x:Int)∉kvs.map (·.1):=by
  rw[hk1,mem_map]
  rintro⟨y,hy,e⟩
  exact hx (by have:y=x:=(by omega);exact this▸hy)
 rw[(c4b hno).2]at hd'
 obtain⟨o',eo',ho'⟩:=Heap.dictOf_iff.mp hd'
 refine K _ (j1.turnAt (Kw.sameBut (tk:=y2.toks+1) hs') eo' (ob':=.raw (qN2 prog w (xs++[x]))) ⟨_,ho',by rw[map_append,map_append,hk1];rfl,fun i k v e=>?_⟩)
 by_cases hi:i < kvs.length
 ·rw[List.getElem?_append_left hi]at e;exact hk2 i k v e
 ·rw[List.getElem?_append_right (by omega)]at e
  have hi':i - kvs.length=0:=by
   rcases Nat.eq_zero_or_pos (i - kvs.length)with h | h
   ·exact h
   ·exact nsn (List.getElem?_eq_none (by simp;omega)) e
  rw[hi']at e
  have:i=xs.length:=by omega
  subst this
  cases e
  exact⟨_,rfl⟩
end
end
section
theorem c1k (vs:List Value) (y:Value):(vs++[y]).toArray.eraseIdxIfInBounds ((vs++[y]).toArray.size - 1)=vs.toArray:=by
 apply Array.ext'
 simp only[Array.toList_eraseIdxIfInBounds,size_toArray,length_append,List.length_singleton,Nat.add_sub_cancel]
 rw[List.eraseIdx_append_of_length_le (Nat.le_refl _)]
 simp
theorem DRs.unsnoc {d:D}:∀{ds:List D} {vs:List Value},DRs P vs (ds++[d])→∃vs' v,vs=vs'++[v]∧DRs P vs' ds∧DR P v d:=by
 intro v'
 induction v' with
 | nil=>
  intro _ h
  exact DRs.e h fun v _ _ e a r=>DRs.e r fun _ e2=>⟨[],v,by rw[e,e2];rfl,.nil,a⟩
 | cons _ ds ih'=>
  intro _ h
  exact DRs.e h fun v _ _ e a r=>let⟨vs',u,e2,b,c⟩:=ih' r;⟨v::vs',u,by rw[e,e2];rfl,.cons a b,c⟩
section
variable {n:Nat} {s:Shared}
noncomputable def NmE (prog:Program) (w:World) (A:Around) (env:Env) (s:Shared) (b:Expr) (a:Addr):Prop:=∀(Q:Value→Shared→Prop) (E:Value→Shared→Prop),(∀s',Kp s s'→Q (.ref a) s')→wpAny (model prog w) A (eval b env) Q E s
theorem Stt.nm {x:Str} {p:Pos} {a:Addr} (t:Stt G H env own W i0 ρ ol j0 s) (hx:ρ.lookup x=some (.val (.ref a))) (h1:(x == ("__debug__":Str))=false:=by decide) (h2:(x == ("__classdict__":Str))=false:=by decide):NmE prog w A env s (.Name x p) a:=fun Q E K=>by
 obtain⟨v,hv,dv⟩:=t.cd.vars x _ hx
 cases dv
 exact a1f t.kind hv (K s (Kp.refl s)) h1 h2
theorem c3q {b:Expr} {a:Addr} {d:D} {cp:Pos} (t:Stt G H env own W i0 ρ (l1++(a,.list (ds++[d]))::l2) j0 s) (hb:NmE prog w A env s b a) (hz:ds.length≤1000)
  (K:∀v s',Stt G H env own W i0 ρ (l1++(a,.list ds)::l2) j0 s'→DR (vis s'.heap (W++i0)) v d→Q v s') (he:eval (.Call (.Attribute b "pop" ap) [] [] cp) env=(do
   let ov ←eval b env
   standAt ap.atName
   let(f,first) ←holding [ov] (getMethod ov "pop" pl)
   callWith cp f first (backTo cp (starEach [] env)) []):=by rfl):
  wpAny (model prog w) A (eval (.Call (.Attribute b "pop" ap) [] [] cp) env) Q E s:=by
 refine MethodCall_ (hb _ E fun g0 l0=>?_) he
 have t:=t.keeps l0
 walk_at "c"
 rcases t.ls (a,.list (ds++[d])) (zB (.inr (.head _)))with⟨hW,_,o,eo,vs,ep,rfl,r⟩
 rcases DRs.unsnoc r with⟨vs,y,rfl,r1,r2⟩
 walk_at "u"
 have hT:g0.TypeIs (.ref a) "list":=⟨_,eo,rfl⟩
 refine getMethod_builtin hT PySem.F.plainAttrs_list PySem.F.slot_list_pop PySem.F.type_list_pop (fun b e=>by cases e;exact⟨_,eo,rfl⟩) ?_
 refine callWith_method0 (call_meets PySem.F.slot_list_pop hT PySem.F.entry_list_pop (PySem.F.args_list_pop_1 _) (MeetsSeq.list_pop_last a (vs++[y]).toArray ep y (by simp) (by rw[size_toArray,length_append,r1.length,sizeLine_eq];simp;omega)) ⟨eo,?_⟩)
 have hs:=Heap.SameBut.update g0.heap a (Obj.mapSeq fun xs=>xs.eraseIdxIfInBounds ((vs++[y]).toArray.size - 1))
 have hg:=Heap.get?_update_self (Obj.mapSeq fun xs=>xs.eraseIdxIfInBounds ((vs++[y]).toArray.size - 1)) eo rfl
 have up:∀b o,vis g0.heap (W++i0) b=some o→vis (g0.heap.update a (Obj.mapSeq fun xs=>xs.eraseIdxIfInBounds ((vs++[y]).toArray.size - 1))) (W++i0) b=some o:=a0x fun b o e hb=>(hs.2 b fun e'=>hb (e'▸zB (.inl hW))).trans e
 refine K _ _ (t.turnAt (Kw.sameBut (tk:=g0.toks) hs) hg ⟨vs,if vs.toArray.size == (vs++[y]).toArray.size then ep else ep+1,?_,r1.mono up⟩) (r2.mono up)
 show({cls:=.type "list",data:=.seq ((vs++[y]).toArray.eraseIdxIfInBounds ((vs++[y]).toArray.size - 1)) (if((vs++[y]).toArray.eraseIdxIfInBounds ((vs++[y]).toArray.size - 1)).size == (vs++[y]).toArray.size then ep else ep+1)}:Obj)={cls:=.type "list",data:=.seq vs.toArray (if vs.toArray.size == (vs++[y]).toArray.size then ep else ep+1)}
 rw[c1k]
theorem c8d {Q:Flow→Shared→Prop} {b:Expr} {a:Addr} {d:D} {cp:Pos} {rest:List Stmt} (t:Stt G H env own W i0 ρ (l1++(a,.list (ds++[d]))::l2) j0 s) (hb:NmE prog w A env s b a) (hz:ds.length≤1000)
  (K:∀s',Stt G H env own W i0 ρ (l1++(a,.list ds)::l2) j0 s'→wpAny (model prog w) A (execs rest env) Q E s') (he:eval (.Call (.Attribute b "pop" ap) [] [] cp) env=(do
   let ov ←eval b env
   standAt ap.atName
   let(f,first) ←holding [ov] (getMethod ov "pop" pl)
   callWith cp f first (backTo cp (starEach [] env)) []):=by rfl)
  (hi:interactive env=false:=by kernel_rfl) (hs:swapsWith (.Call (.Attribute b "pop" ap) [] [] cp) none pos.line env=pure false:=by kernel_rfl):
  wpAny (model prog w) A (execs (.Expr (.Call (.Attribute b "pop" ap) [] [] cp) pos::rest) env) Q E s:=
 wpAny_execs_cons (wpAny_Expr_any (c3q t hb hz (fun _ s' t' _=>K s' t') he) hi hs)
theorem b0g {k:Int} (hn:((kvs++[(k,v)]).map (·.1)).Nodup):PySem.without (kvs++[(k,v)]) k=kvs:=by
 rw[map_append,nodup_append]at hn
 unfold PySem.without
 rw[List.filter_append]
 have h1:kvs.filter (fun kv=>decide (kv.1≠k))=kvs:=List.filter_eq_self.mpr fun kv hkv=>by
  have:=hn.2.2 kv.1 (zN ⟨kv,hkv,rfl⟩) k (by simp)
  simpa using this
 rw[h1];simp
theorem c0l {Q:Flow→Shared→Prop} {d i:Expr} {a:Addr} {x:Nat} {rest:List Stmt} (t:Stt G H env own W i0 ρ ol j0 s) (hd:NmE prog w A env s d a) (hz:xs.length≤1000)
  (hi:∀(Q:Value→Shared→Prop) g0,Stt G H env own W i0 ρ ol j0 g0→(∀tk s',Stt G H env own W i0 ρ (l1++(a,.raw (qN2 prog w (xs++[x])))::l2) j0 s'→Q (.int (x:Int) tk) s')→wpAny (model prog w) A (eval i env) Q E g0)
  (K:∀s',Stt G H env own W i0 ρ (l1++(a,.raw (qN2 prog w xs))::l2) j0 s'→wpAny (model prog w) A (execs rest env) Q E s'):wpAny (model prog w) A (execs (.Delete [.Subscript d i sp] pos::rest) env) Q E s:=by
 walk_at "x"
 refine wpAny_Delete (wpAny_deleteEach_cons (delete_Subscript (hd _ E fun g0 l0=>?_)))
 refine hi _ g0 (t.keeps l0) fun tk u0 z0=>?_
 obtain⟨_,_,o,eo,kvs,hD,hk1,hk2⟩:=z0.ls (a,.raw (qN2 prog w (xs++[x]))) (zB (.inr (.head _)))
 have hl:kvs.length=xs.length+1:=by have:=congrArg List.length hk1;simpa using this
 obtain⟨kvs',p,rfl⟩:∃kvs' p,kvs=kvs'++[p]:=by
  rcases List.eq_nil_or_concat kvs with h | ⟨l,p,h⟩
  ·rw[h]at hl;simp at hl
  ·exact⟨l,p,by rw[h,List.concat_eq_append]⟩
 walk_at "c"
 rcases p with⟨k,v⟩
 rw[map_append,map_append]at hk1
 rcases List.append_inj hk1 (by simp at hl ⊢;exact hl)with⟨e1,e2⟩
 walk_at "u"
 have e3:k=(x:Int):=by simpa using e2
 subst e3
 have hD':=hD
 obtain⟨_,_,_,_,_,_,hn⟩:=hD'
 have hDo:=Heap.dictOf_iff.mpr ⟨o,eo,hD⟩
 refine wpAny_delItem_slot hDo.typeIs (by decide) PySem.F.slot_dict_delitem (call_meetsIn PySem.F.slot_dict_delitem hDo.typeIs PySem.F.entry_dict_delitem (PySem.F.args_dict_delitem_2 _ _) (meets_dict_delitem_pairs (intKind prog w) a (intKind_is _ _ _ _)) ⟨_,hDo,by rw[sizeLine_eq];omega,?_,fun h' hd' hs'=>?_⟩)
 ·rw[a7p hn (i:=kvs'.length) (v:=v) (by simp)];rfl
 ·rw[b0g hn]at hd'
  obtain⟨o',eo',ho'⟩:=Heap.dictOf_iff.mp hd'
  refine wpAny_deleteEach_nil (K _ (z0.turnAt (Kw.sameBut (tk:=u0.toks+1) hs') eo' (ob':=.raw (qN2 prog w xs)) ⟨kvs',ho',e1,fun i k v e=>hk2 i k v ?_⟩))
  have hi:=(List.getElem?_eq_some_iff.mp e).1
  rw[List.getElem?_append_left hi];exact e
theorem Ev.lastO {p:Pos} {a:Addr} {d:D} (hv:Ev prog w G n env ρ value (.val (.ref a))) (hi:Ev prog w G n env ρ slice (.int (-1))) (ha:(a,Ob.list (ds++[d]))∈G.ob)
  (hs:∀o i,subscripted slice false o i=operate [o,i] (getItem o i):=by intro _ _;with_unfolding_all rfl):Ev prog w G n env ρ (.Subscript value slice p) d:=
 fun A M s Q E rm c K=>Subscript_ (hv A M s _ E rm c fun o g0 l0 do_=>hi A M g0 _ E rm (c.keeps l0) fun i u0 y1 di=>by
  cases di with
  | int _ t=>
   cases do_
   walk_at "c"
   rcases((c.keeps l0).keeps y1).obs _ ha with⟨o,eo,vs,ep,rfl,r⟩
   rcases DRs.unsnoc r with⟨vs,y,rfl,r1,r2⟩
   walk_at "u"
   have hl:u0.heap.IsList a (vs++[y]).toArray:=⟨_,eo,rfl,ep,rfl⟩
   refine tail_any hl.typeIs slot_list_getitem.lookup (wpAny_getItem_list_neg hl (by omega) (by simp;omega) (by omega) ?_ (K y u0 (l0.trans y1) r2)) (hs _ _)
   have:((-1:Int)+((vs++[y]).toArray.size:Int)).toNat=vs.length:=by simp;omega
   rw[this];simp)
end
end
section
section
variable {n:Nat} {s:Shared}
theorem c0n {Q:Flow→Shared→Prop} {b arg:Expr} {a l:Addr} {sc:List D} {cp ip icp iap:Pos} {rest:List Stmt} (t:Stt G H env own W i0 ρ (l1++(a,.list ds)::l2) j0 s) (rm:Rm A n) (hg:G.glb "iter"=some none) (hk:env.kindOf "iter"=some .globalImplicit) (hb:Ev prog w (G.at (l1++(a,.list ds)::l2)) n env ρ b (.val (.ref a)))
  (hob:Obs (fun _=>none) H ob) (h:Ev prog w (G.at ob) n env ρ arg (.val (.ref l))) (hl:(l,Ob.list sc)∈ob) (hsz:ds.length≤1000)
  (K:∀it m s',s.heap.get? it=none→s.heap.get? m=none→Stt G H env own (m::it::W) i0 ρ ((m,.raw (· =mwO it))::(it,.raw (qIt l 0))::(l1++(a,.list (ds++[.val (.ref m)]))::l2)) j0 s'→wpAny (model prog w) A (execs rest env) Q E s')
  (hi:interactive env=false:=by kernel_rfl) (hs:swapsWith (.Call (.Attribute b "append" ap) [.Attribute (.Call (.Name "iter" ip) [arg] [] icp) "__next__" iap] [] cp) none pos.line env=pure false:=by kernel_rfl)
  (hbase:attributeBase b "append" env (eval b env)=eval b env:=by kernel_rfl)
  (hfew:((backTo cp (starEach [.Attribute (.Call (.Name "iter" ip) [arg] [] icp) "__next__" iap] env)).all (fun x=>!x.1) && (backToKw cp (keywordEach [] env)).all (fun x=>x.1.isSome) && decide (([.Attribute (.Call (.Name "iter" ip) [arg] [] icp) "__next__" iap]:List Expr).length+([]:List Keyword).length+(if([]:List Keyword).isEmpty then 0 else 1) < 30))=true:=by kernel_rfl)
  (hline:(ap.endLine == cp.line)=true:=by kernel_rfl) (htrees:backTo cp (starEach [.Attribute (.Call (.Name "iter" ip) [arg] [] icp) "__next__" iap] env)=[(false,eval (.Attribute (.Call (.Name "iter" ip) [arg] [] icp) "__next__" iap) env)]:=by kernel_rfl)
  (he:eval (.Attribute (.Call (.Name "iter" ip) [arg] [] icp) "__next__" iap) env=(do
   let o ←eval (.Call (.Name "iter" ip) [arg] [] icp) env
   standAt iap.atName
   let r ←holding [o] (getAttr o "__next__" true)
   letTemporaryGo (.Call (.Name "iter" ip) [arg] [] icp) o r
   pure r):=by with_unfolding_all rfl) (hse:starEach [arg] env=(false,eval arg env)::starEach [] env:=by rfl):
  wpAny (model prog w) A (execs (.Expr (.Call (.Attribute b "append" ap) [.Attribute (.Call (.Name "iter" ip) [arg] [] icp) "__next__" iap] [] cp) pos::rest) env) Q E s:=by
 walk_at "x"
 refine wpAny_Expr (wpAny_Call_append hbase hfew hline htrees ?_) hi hs
 refine hb A _ s _ E rm t.cd fun ov g0 l0 dov=>?_
 cases dov
 have w0:=t.keeps l0
 obtain⟨a1,_,o,e0,vs,ep,rfl,r⟩:=w0.ls (a,.list ds) (zB (.inr (.head _)))
 refine⟨a,vs.toArray,rfl,⟨_,_,e0,rfl,rfl,rfl⟩,?_⟩
 refine Attribute_any_ (wpAny_Call_NameR (a1v w0.kind w0.glob w0.bi w0.top hk hg (v:=.builtin "iter") ∅ (by decide) (callWith_builtin (EvL.one h hse).plain (a0p (.one h hse) (by simp) rm (w0.cdH hob) fun vs' u0 y1 dv=>?_)))) he
 cases dv with
 | cons d0 d1=>
 cases d1
 cases d0
 have z0:=w0.keeps y1
 obtain⟨oL,eL,vL,epL,rfl,rL⟩:=hob _ hl
 have wF:=z0.kH _ _ eL
 refine b1i ⟨_,wF,rfl,epL,rfl⟩ ?_
 obtain⟨it,hit⟩:∃it,it=u0.heap.objs.size:=⟨_,rfl⟩
 have hitn:u0.heap.get? it=none:=by rw[hit];exact a0c (Nat.le_refl _)
 have hite:(u0.heap.push {cls:=.type "list_iterator",data:=.fields #[.ref l,.int 0 0]}).get? it=some {cls:=.type "list_iterator",data:=.fields #[.ref l,.int 0 0]}:=by rw[hit];exact get?_push_size _ rfl
 have j1:=z0.own1 (a:=it) (ob:=.raw (qIt l 0)) (Kp.push u0 {cls:=.type "list_iterator",data:=.fields #[.ref l,.int 0 0]}) hitn hite ⟨rfl,rfl⟩
 rw[←hit]
 refine c6i hite ?_
 obtain⟨m,hm⟩:∃m,m=(u0.heap.push {cls:=.type "list_iterator",data:=.fields #[.ref l,.int 0 0]}).objs.size:=⟨_,rfl⟩
 have hmn:(u0.heap.push {cls:=.type "list_iterator",data:=.fields #[.ref l,.int 0 0]}).get? m=none:=by rw[hm];exact a0c (Nat.le_refl _)
 have hme:((u0.heap.push {cls:=.type "list_iterator",data:=.fields #[.ref l,.int 0 0]}).push (mwO it)).get? m=some (mwO it):=by rw[hm];exact get?_push_size _ rfl
 have z1:=j1.own1 (a:=m) (ob:=.raw (· =mwO it)) ((Kp.push {u0 with heap:=u0.heap.push {cls:=.type "list_iterator",data:=.fields #[.ref l,.int 0 0]}} (mwO it)).trans (Kp.tok _ (u0.toks+1))) hmn hme rfl
 rw[←hm]
 have back:∀c,u0.heap.get? c=none→s.heap.get? c=none:=fun c e=>by
  cases e':s.heap.get? c with
  | none=>rfl
  | some o=>exact nsn e (y1.hk _ _ (l0.hk _ _ e'))
 have hm2:u0.heap.get? m=none:=by
  cases e':u0.heap.get? m with
  | none=>rfl
  | some o=>exact nsn (show _=none from hmn) ((Kp.push u0 {cls:=.type "list_iterator",data:=.fields #[.ref l,.int 0 0]}).hk _ _ e')
 obtain⟨_,_,o,e2,vs2,ep2,rfl,r2⟩:=z1.ls (a,.list ds) (.tail _ (.tail _ (zB (.inr (.head _)))))
 refine wpAny_list_append_plain ⟨ep2,e2⟩ (fun h' hl' hs'=>?_) (by rw[size_toArray,r2.length,sizeLine_eq];omega)
 obtain⟨ep3,e3⟩:=hl'
 have hWa:a∈m::it::W:=.tail _ (.tail _ a1)
 refine K it m _ (back _ hitn) (back _ hm2) (Stt.turnAt (l1:=(m,.raw (· =mwO it))::(it,.raw (qIt l 0))::l1) z1 (Kw.sameBut hs') (by simpa using e3) ⟨vs2++[.ref m],ep3,rfl,?_⟩)
 exact(r2.append (.cons (.val _) .nil)).mono (a0x fun b o e hb=>(hs'.2 b fun e'=>hb (e'▸zB (.inl hWa))).trans e)
theorem c0f {Q:Flow→Shared→Prop} {x:Str} {b i:Expr} {m it l:Addr} {j:Nat} {cp:Pos} (t:Stt G H env own W i0 ρ (l1++(it,.raw (qIt l j))::l2) j0 s) (rm:Rm A n) (h:Ev prog w (G.at (l1++(it,.raw (qIt l j))::l2)) n env ρ (.Subscript b i sp) (.val (.ref m))) (hm:(m,Ob.raw (· =mwO it))∈l1++(it,.raw (qIt l j))::l2)
  (hob:Obs (fun _=>none) H ob) (hl:(l,Ob.list (a0i oc))∈ob)
  (K:∀y s',oc[j]? =some y→Stt G H env own W i0 ((x,dn y)::ρ) (l1++(it,.raw (qIt l (j+1)))::l2) j0 s'→Q .next s')
  (KE:∀j2 h' e s',oc[j]? =none→Stt G H env own W i0 ρ (l1++(it,.raw (qIt l j))::l2) j0 s'→Heap.SameBut it s'.heap j2→(∃o,j2.get? it=some o)→Heap.MadeExcOf j2 h' e (.type "StopIteration") []→E (.ref e) {s' with heap:=h'})
  (hx:env.kindOf x=some .local:=by kernel_rfl) (hs:swapsWith (.Call (.Subscript b i sp) [] [] cp) (some (.Name x px)) pos.line env=pure false:=by kernel_rfl):
  wpAny (model prog w) A (exec (.Assign [.Name x px] (.Call (.Subscript b i sp) [] [] cp) pos) env) Q E s:=by
 refine wpAny_Assign_Name ?_ hs
 have e:eval (.Call (.Subscript b i sp) [] [] cp) env=(eval (.Subscript b i sp) env >>= fun f=>callWith cp f [] [] []):=rfl
 rw[e]
 refine wpAny_bind (h A _ s _ E rm t.cd fun fv g0 l0 df=>?_)
 cases df
 have w0:=t.keeps l0
 obtain⟨_,_,om,em,rfl⟩:=w0.ls _ hm
 refine a4x rfl (.inr rfl) rfl (PyProof.Rows.evalArgs_none ⟨em,?_⟩)
 walk_at "c"
 rcases w0.ls (it,.raw (qIt l j)) (zB (.inr (.head _)))with⟨_,_,oi,ei,q1,q2⟩
 have hit:g0.heap.IsListIter it l j:=⟨oi,ei,q1,q2⟩
 rcases hob _ hl with⟨oL,eL,vL,epL,rfl,rL⟩
 walk_at "u"
 have hL:g0.heap.IsList l vL.toArray:=⟨_,w0.kH _ _ eL,rfl,epL,rfl⟩
 cases hj:oc[j]? with
 | none=>
  refine c9m rm.hd em hit hL ?_ fun j2 h' e sb ex mk=>KE j2 h' e g0 hj w0 sb ex mk
  have h1:=rL.length
  rw[a0i,length_map]at h1
  have h2:=List.getElem?_eq_none_iff.mp hj
  simp;omega
 | some y=>
  obtain⟨v,hv,dv⟩:=rL.get (k:=j) (d:=dn y) (by rw[a0i,getElem?_map,hj];rfl)
  refine c6g em hit hL (by simpa using hv) fun h' hit' sb=>?_
  obtain⟨o',e',q1',q2'⟩:=hit'
  have z0:=w0.turnAt (s':={g0 with heap:=h'}) (ob':=.raw (qIt l (j+1))) (Kw.sameBut (tk:=g0.toks) sb) e' ⟨q1',q2'⟩
  cases dv
  exact z0.put (.inl hx) (.int _ _) fun s' t' _=>K y s' hj t'
end
end
section
section
variable {n:Nat} {s:Shared}
theorem b6e {Q:Flow→Shared→Prop} {it l e:Addr} {j:Nat} {np:Pos} {pC:Stmt} {suite:List Stmt} (t:Stt G H env own W i0 ρ ol j0 s) (hf:env.frame=some env.locals) (hfs:a3y fs Fo) (hFo:∀p∈fol Fo,p∈ol) (hfr:A.frames=some (env::fs)) (hg:G.glb "StopIteration"=some none)
  (hk:env.kindOf "StopIteration"=some .globalImplicit) (hit:(it,Ob.raw (qIt l j))∈ol) (hif:it∉frs fs) (sb:Heap.SameBut it s.heap j2) (ex:∃o,j2.get? it=some o) (mk:Heap.MadeExcOf j2 h' e (.type "StopIteration") []) (hol:∀p∈ol',p∈ol∧p.1≠it) (hn:(ol'.map (·.1)).Nodup)
  (K:∀s',Stt G H env own W i0 ρ ol' j0 s'→wpAny (model prog w) (A.mark (some (.ref e))) (execs (pC::suite) env) Q (fun _ _=>False) s'):
  wpAny (model prog w) A (noteFrame (.ref e) env) (fun _ u0=>wpAny (model prog w) A (setFlight (.ref e) none) (fun _ y2=>wpAny (model prog w) A (handleBy (.ref e) env [.ExceptHandler (some (.Name "StopIteration" np)) none (pC::suite) pos]) Q E y2) E u0) E {s with heap:=h'}:=by
 walk_at "c"
 rcases t.stack hfs hFo hf with⟨oL,f1,f2,_⟩
 rcases t.ls _ hit with⟨hiW,hiF,_⟩
 walk_at "u"
 have hne:it≠env.locals:=fun e=>hiF (e▸.head _)
 have hfl:it∉frs (env::fs):=fun hm=>by
  rw[a3s hf]at hm
  rcases zC hm with h | h
  ·exact hne h
  ·exact hif h
 have st:Stk A (env::fs) j2:=f1.stk hfr fun p hp=>by
  obtain⟨o,eo,so⟩:=f2 p hp
  refine⟨o,(sb.2 p.1 fun e=>hfl ?_).trans eo,so⟩
  rw[f1.frs]
  exact e▸zN ⟨p,hp,rfl⟩
 have after:∀s',Rsd G.gen [it] [it] (env::fs) s s' e (.type "StopIteration")→Stt G H env own W i0 ρ ol' j0 s':=fun s' x=>
  Stt.caught (N₀:=[]) (X:=[it]) t hf hfs hFo (fun b hb=>absurd hb not_mem_nil) (fun b hb=>.inl hb) (fun b hb=>by rw[zS hb];exact⟨hiW,hiF,hif⟩) (fun b hb _=>hb) x (fun p hp=>⟨(hol p hp).1,fun hm=>(hol p hp).2 (zS hm)⟩) hn
 refine Rsd.here (fl:=G.gen) (W:=[it]) (V:=[it]) (s:=s) st hf mk (fun b o hb eo=>(sb.2 b fun e=>hb (e▸.head _)).trans eo) ⟨Gk.refl _ _,rfl,rfl⟩ (fun b hb=>?_) fun u0 jG=>?_
 ·rw[zS hb]
  obtain⟨o,eo⟩:=ex
  exact⟨o,eo,.inr hfl⟩
 refine jG.again fun y2 aA=>?_
 have j1:=after y2 aA
 refine wpAny_handleBy_builtin (X:="StopIteration") (T:="StopIteration") (b:=true) (by rw[isSubtype_type];kernel_rfl) (by rw[isSubtype_type];kernel_rfl) (by rw[isSubtype_type];kernel_rfl) ?_
 refine a1v j1.kind j1.glob j1.bi j1.top hk hg (v:=.type "StopIteration") ∅ (by decide) ⟨rfl,aA.cls,?_⟩
 show wpAny _ _ _ _ _ _
 refine aA.again fun l3 cE=>?_
 exact wpAny_mono (K l3 (after l3 cE)) (fun _ _ h=>h) fun _ _ h=>h.elim
end
end
section
section
variable {n:Nat} {s:Shared}
theorem Ev.fromO {lo:Expr} {a:Addr} {i:Nat} {p:Pos} (hv:Ev prog w G n env ρ value (.val (.ref a))) (ha:(a,Ob.list (a0i xs))∈G.ob) (hl:Ev prog w G n env ρ lo (dn i)) (hsz:xs.length≤1000):Ev prog w G n env ρ (.Subscript value (.Slice (some lo) none none p) q) (.list (a0i (xs.drop i))):=
 fun A M s Q E rm c K=>b0h (hv A M s _ E rm c fun o g0 l0 do_=>wpAny_Slice ((show c4s prog w G n env ρ (some lo) (some (i:Int))from hl).go rm (c.keeps l0) fun vl u0 y1 pl=>by
  cases do_
  have qE:=(c.keeps l0).keeps y1
  rw[evalPart_none]
  refine wpAny_pure (wpAny_pure ?_)
  obtain⟨o,eo,ws,ep,rfl,r⟩:=qE.obs _ ha
  have hL:u0.heap.IsList a ws.toArray:=⟨_,eo,rfl,ep,rfl⟩
  have kp:=Kp.push u0 {cls:=.type "slice",data:=.fields #[vl,.none,.none]}
  refine⟨(hL.push _).typeIs,wpAny_getItem_list_slice (hL.push _) (Heap.IsSliceOf.new ..) pl .none .none (by simp) ?_ (by rw[size_toArray,r.length,a0i,length_map,sizeLine_eq];omega)⟩
  obtain⟨xs',ex,rx⟩:=b0u i ws r.length _ r
  rw[ex]
  have rx':DRs (vis u0.heap M) xs' (a0i (xs.drop i)):=by rw[a0i,List.map_drop];exact rx
  exact K _ _ (((l0.trans y1).trans kp).trans (Kp.push _ _)) (a5h (fun b hb=>(qE.mem b hb).imp fun o e=>kp.hk b o e) (rx'.mono kp.hk.vis))))
theorem Ev.n2at {d k:Expr} {p:Pos} {a:Addr} {x i:Nat} (hd:Ev prog w G n env ρ d (.val (.ref a))) (hk:Ev prog w G n env ρ k (dn x)) (ha:(a,Ob.raw (qN2 prog w xs))∈G.ob) (hi:xs[i]? =some x)
  (hs:∀o i,subscripted k false o i=operate [o,i] (getItem o i):=by intro _ _;with_unfolding_all rfl):Ev prog w G n env ρ (.Subscript d k p) (dn i):=
 fun A M s Q E rm c K=>Subscript_ (hd A M s _ E rm c fun o g0 l0 do_=>hk A M g0 _ E rm (c.keeps l0) fun iv u0 y1 di=>by
  cases di with
  | int _ t=>
   cases do_
   walk_at "c"
   rcases((c.keeps l0).keeps y1).obs _ ha with⟨o,eo,ho⟩
   rcases c8r ho hi with⟨kvs,tk,hD,hv⟩
   walk_at "u"
   have hm:=(Heap.dictOf_iff.mpr ⟨o,eo,hD⟩:u0.heap.DictOf (intKind prog w) a kvs).mapOf
   exact tail_any hm.typeIs slot_dict_getitem.lookup (wpAny_getItem_of (intKind_is _ _ _ _) hm hv (K _ _ ((l0.trans y1).trans (Kp.tok _ _)) (.int _ _))) (hs _ _))
theorem Ts.listO {x:Str} {a:Addr} (hx:ρ.lookup x=some (.val (.ref a))) (ha:(a,Ob.list ds)∈G.ob) (hz:ds.length≤1000) (h1:(x == ("__debug__":Str))=false:=by decide) (h2:(x == ("__classdict__":Str))=false:=by decide)
  (he:isTrue (.Name x xp) env (eval (.Name x xp) env)=(do let v ←eval (.Name x xp) env;standAt (Expr.Name x xp).pos;holding [v] (truthy v)):=by rfl):Ts prog w G n env ρ (.Name x xp) (!ds.isEmpty):=fun A M s Q E rm c K=>by
 rw[he]
 refine wpAny_bind ((Ev.name hx h1 h2:Ev prog w G n env ρ (.Name x xp) _) A M s _ E rm c fun v g0 l0 dv=>?_)
 cases dv
 obtain⟨o,eo,vs,ep,rfl,r⟩:=(c.keeps l0).obs _ ha
 refine wpAny_bind (wpAny_standAt (wpAny_holding ?_))
 refine wpAny_truthy_list ⟨_,eo,rfl,ep,rfl⟩ (by rw[size_toArray,r.length];omega) ?_
 have:(!vs.toArray.isEmpty)= !ds.isEmpty:=by rw[List.isEmpty_toArray];cases r <;> rfl
 rw[this]
 exact K _ (l0.trans (by first | exact Kp.refl _ | exact Kp.tok _ _))
end
end
section
structure Ent where
 x:Nat
 i:Nat
 l:Addr
 it:Addr
 m:Addr
noncomputable def a8d (e:Ent):List (Addr×Ob):=[(e.m,.raw (· =mwO e.it)),(e.it,.raw (qIt e.l e.i))]
noncomputable def a4s (seen:List Nat):Int→Bool:=fun k=>seen.any fun y=>decide (k=(y:Int))
noncomputable def dfT (prog:Program) (w:World) (aSt aIt aS aN:Addr) (xs:List Nat) (ms:List Addr) (seen:List Nat):List (Addr×Ob):=[(aSt,.list (a0i xs)),(aIt,.list (ms.map fun m=>.val (.ref m))),(aS,.raw (·.SetObjOf (intKind prog w) (a4s seen) seen.length)),(aN,.raw (qN2 prog w xs))]
noncomputable def dfO (prog:Program) (w:World) (aSt aIt aS aN:Addr) (es:List Ent) (seen:List Nat) (Fo:List (Addr×Obj)):List (Addr×Ob):=dfT prog w aSt aIt aS aN (es.map (·.x)) (es.map (·.m)) seen++(es.flatMap a8d++fol Fo)
noncomputable def bt:List (Nat×List Nat)→Option (Nat×List (Nat×List Nat))
 | []=>none
 | (_,[])::st=>bt st
 | (x,y::r)::st=>some (y,(x,r)::st)
noncomputable def dfs (sc:Nat→List Nat):Nat→List Nat→List (Nat×List Nat)→Nat→Option (Option (List Nat))
 | 0,_,_,_=>none
 | n+1,seen,st,x=>if x∈seen∧x∈st.map (·.1)then some none else
   match bt (if x∈seen then st else(x,sc x)::st)with
   | none=>some (some (if x∈seen then seen else seen++[x]))
   | some (y,st')=>dfs sc n (if x∈seen then seen else seen++[x]) st' y
noncomputable def a2u (sc:Nat→List Nat) (n:Nat):List Nat→List Nat→Option Bool
 | [],_=>some false
 | k::ks,seen=>if k∈seen then a2u sc n ks seen else match dfs sc n seen [] k with
   | none=>none
   | some none=>some true
   | some (some seen')=>a2u sc n ks seen'
theorem c2y {sc:Nat→List Nat} {n:Nat} {st:List (Nat×List Nat)} {x:Nat}:dfs sc (n+1) seen st x=if x∈seen∧x∈st.map (·.1)then some none else
   match bt (if x∈seen then st else(x,sc x)::st)with
   | none=>some (some (if x∈seen then seen else seen++[x]))
   | some (y,st')=>dfs sc n (if x∈seen then seen else seen++[x]) st' y:=rfl
theorem a6u {sc:Nat→List Nat} {n k:Nat}:a2u sc n (k::ks) seen=if k∈seen then a2u sc n ks seen else match dfs sc n seen [] k with
   | none=>none
   | some none=>some true
   | some (some seen')=>a2u sc n ks seen':=rfl
noncomputable def stk (sc:Nat→List Nat) (es:List Ent):List (Nat×List Nat):=(es.map fun e=>(e.x,(sc e.x).drop e.i)).reverse
theorem a6p {sc:Nat→List Nat} {es:List Ent} {e:Ent}:stk sc (es++[e])=(e.x,(sc e.x).drop e.i)::stk sc es:=by simp[stk]
theorem b3s {sc:Nat→List Nat} {es:List Ent} {x:Nat}:x∈(stk sc es).map (·.1)↔x∈es.map (·.x):=by simp[stk]
theorem b5d {x:Nat}:(fun k'=>a4s seen k' || decide (k'=(x:Int)))=a4s (seen++[x]):=by
 funext k;simp[a4s,List.any_append]
theorem a9j {x:Nat}:a4s seen (x:Int)=decide (x∈seen):=by
 unfold a4s
 by_cases h:x∈seen
 ·rw[decide_eq_true h,List.any_eq_true];exact⟨x,h,by simp⟩
 ·rw[decide_eq_false h,List.any_eq_false];intro y hy e;exact h (by have:=of_decide_eq_true e;have:x=y:=(by omega);exact this▸hy)
structure DOk (nds:List Nd) (es:List Ent) (seen:List Nat):Prop where
 ent:∀e∈es,∃r∈nds,r.k=e.x∧r.l=e.l
 nd:(es.map (·.x)).Nodup
 sub:∀e∈es,e.x∈seen
 key:∀y∈seen,y∈nds.map (·.k)
 sn:seen.Nodup
theorem a7i:∀{l l':List Nat},l.Nodup→(∀y∈l,y∈l')→l.length≤l'.length
 | [],_,_,_=>Nat.zero_le _
 | a::l,l',hn,hs=>by
  rw[nodup_cons]at hn
  obtain⟨s,t,rfl⟩:=append_of_mem (hs a (.head _))
  have:=a7i (l:=l) (l':=s++t) hn.2 fun y hy=>by
   rcases zA (hs y (.tail _ hy))with h | h
   ·exact zB (.inl h)
   ·rcases a0o h with rfl | h
    ·exact absurd hy hn.1
    ·exact zB (.inr h)
  simp at this ⊢;omega
theorem DOk.slen {nds:List Nd} {es:List Ent} (h:DOk nds es seen):seen.length≤nds.length:=by
 have:=a7i h.sn h.key
 simpa using this
theorem DOk.elen {nds:List Nd} {es:List Ent} (h:DOk nds es seen):es.length≤nds.length:=by
 have:=a7i h.nd fun y hy=>by obtain⟨e,he,rfl⟩:=zM hy;exact h.sub e he
 have h2:=h.slen
 simp at this;omega
theorem DOk.pop {nds:List Nd} {es:List Ent} {e:Ent} (h:DOk nds (es++[e]) seen):DOk nds es seen:=by
 have hn:=h.nd
 rw[map_append,nodup_append]at hn
 exact⟨fun e' he=>h.ent e' (zB (.inl he)),hn.1,fun e' he=>h.sub e' (zB (.inl he)),h.key,h.sn⟩
theorem DOk.turn {nds:List Nd} {es:List Ent} {e:Ent} {i:Nat} (h:DOk nds (es++[e]) seen):DOk nds (es++[{e with i:=i}]) seen:=by
 refine⟨fun e' he=>?_,by have:=h.nd;simpa using this,fun e' he=>?_,h.key,h.sn⟩
 ·rcases zA he with he | he
  ·exact h.ent e' (zB (.inl he))
  ·rw[zS he];exact h.ent e (zB (.inr (.head _)))
 ·rcases zA he with he | he
  ·exact h.sub e' (zB (.inl he))
  ·rw[zS he];exact h.sub e (zB (.inr (.head _)))
theorem DOk.push {nds:List Nd} {es:List Ent} {e:Ent} (h:DOk nds es seen) (hx:e.x∉seen) (hk:e.x∈nds.map (·.k)) (hr:∃r∈nds,r.k=e.x∧r.l=e.l):DOk nds (es++[e]) (seen++[e.x]):=by
 refine⟨fun e' he=>?_,?_,fun e' he=>?_,fun y hy=>?_,?_⟩
 ·rcases zA he with he | he
  ·exact h.ent e' he
  ·rw[zS he];exact hr
 ·rw[map_append,nodup_append]
  refine⟨h.nd,by simp,fun a ha b hb e'=>?_⟩
  obtain⟨e1,he1,rfl⟩:=zM ha
  rw[map_cons,map_nil,mem_singleton]at hb
  exact hx (hb▸e'▸h.sub e1 he1)
 ·rcases zA he with he | he
  ·exact zB (.inl (h.sub e' he))
  ·rw[zS he];exact zB (.inr (.head _))
 ·rcases zA hy with hy | hy
  ·exact h.key y hy
  ·rw[zS hy];exact hk
 ·rw[nodup_append]
  refine⟨h.sn,by simp,fun a ha b hb e'=>?_⟩
  rw[mem_singleton]at hb
  exact hx (hb▸e'▸ha)
end
section
noncomputable abbrev a6l (L:Addr) (cd:Value):Env:=fnv "TopologicalSorter._find_cycle" (a0a (a0q 10 8)) L 157 cd
theorem b9j {aSt aIt aS aN:Addr} {es:List Ent} {e:Ent}:dfO prog w aSt aIt aS aN (es++[e]) seen Fo=(dfT prog w aSt aIt aS aN (es.map (·.x)++[e.x]) (es.map (·.m)++[e.m]) seen++(es.flatMap a8d++[(e.m,.raw (· =mwO e.it))]))++(e.it,.raw (qIt e.l e.i))::fol Fo:=by
 simp[dfO,a8d]
section
variable {n:Nat} {s:Shared}
theorem b1a {x:Nat}:a0i (xs++[x])=a0i xs++[dn x]:=by simp[a0i]
theorem d1j {cd:Value} {p4 p5 p6 p7 p8 p9 q1 q2 q3 q4 q5 q6 q7 q8 q9 r1 r2 r3 r4 r5 r6:Pos} {kc:Nat} {Q:Flow→Shared→Prop} {aSt aIt aS aN:Addr} {nds:List Nd} {sc:Nat→List Nat} {es:List Ent} {R:Option (Nat×List (Nat×List Nat))}
  (t:Stt G H (a6l L cd) own W i0 ρ (dfO prog w aSt aIt aS aN es seen Fo) j0 s) (rm:Rm A n) (hfs:a3y fs Fo) (hfr:A.frames=some (a6l L cd::fs)) (hg:G.glb "StopIteration"=some none) (h1:ρ.lookup ("stack":Str)=some (.val (.ref aSt))) (h2:ρ.lookup ("itstack":Str)=some (.val (.ref aIt))) (h3:ρ.lookup ("node2stacki":Str)=some (.val (.ref aN)))
  (hob:Obs (fun _=>none) H ob) (hsc:∀r∈nds,(r.l,Ob.list (a0i (sc r.k)))∈ob) (hlen:nds.length≤100) (hd:DOk nds es seen) (hR:bt (stk sc es)=R)
  (he1:∃pl:Sem Bool,eval (.Call (.Attribute (.Name "stack" q3) "pop" q4) [] [] q5) (a6l L cd)=(do
   let ov ←eval (.Name "stack" q3) (a6l L cd)
   standAt (Pos.atName q4)
   let(f,first) ←holding [ov] (getMethod ov "pop" pl)
   callWith q5 f first (backTo q5 (starEach [] (a6l L cd))) []))
  (he2:∃pl:Sem Bool,eval (.Call (.Attribute (.Name "itstack" q8) "pop" q9) [] [] r1) (a6l L cd)=(do
   let ov ←eval (.Name "itstack" q8) (a6l L cd)
   standAt (Pos.atName q9)
   let(f,first) ←holding [ov] (getMethod ov "pop" pl)
   callWith r1 f first (backTo r1 (starEach [] (a6l L cd))) []))
  (K1:∀y es' s',R=some (y,stk sc es')→DOk nds es' seen→Stt G H (a6l L cd) own W i0 (("node",dn y)::ρ) (dfO prog w aSt aIt aS aN es' seen Fo) j0 s'→Q .next s')
  (K2:∀s',R=none→Stt G H (a6l L cd) own W i0 ρ (dfO prog w aSt aIt aS aN [] seen Fo) j0 s'→Q .brk s'):
  wpAny (model prog w) A (exec (.While (.Name "stack" p1) [.Try [.Assign [.Name "node" p2] (.Call (.Subscript (.Name "itstack" p3) (.UnaryOp .USub (.Constant (.int 1) kc p4) p5) p6) [] [] p7) p8,.Break p9] [.ExceptHandler (some (.Name "StopIteration" q1)) none [.Delete [.Subscript (.Name "node2stacki" q2) (.Call (.Attribute (.Name "stack" q3) "pop" q4) [] [] q5) q6] q7,.Expr (.Call (.Attribute (.Name "itstack" q8) "pop" q9) [] [] r1) r2] r3] [] [] r4] [.Break r5] r6) (a6l L cd)) Q (fun _ _=>False) s:=by
 walk_at "c"
 rcases he1 with⟨pl1,he1⟩
 rcases he2 with⟨pl2,he2⟩
 walk_at "u"
 refine a2y (fun m s'=>∃es,m=es.length∧bt (stk sc es)=R∧DOk nds es seen∧Stt G H (a6l L cd) own W i0 ρ (dfO prog w aSt aIt aS aN es seen Fo) j0 s') PassesOwn.never ?_ es.length ⟨es,rfl,hR,hd,t⟩
 intro m g0 hI'
 clear g0 t
 obtain⟨es,rfl,hR,hd,w0⟩:=hI'
 refine Ts.listO (ds:=a0i (es.map (·.x))) h1 (.head _) (by have:=hd.elen;simp[a0i];omega) (by decide) (by decide) (by rfl) _ _ _ _ _ rm w0.cd fun u0 y1=>?_
 have z0:=w0.keeps y1
 clear y1 w0 hI'
 rcases List.eq_nil_or_concat es with rfl | ⟨es,e,rfl⟩
 ·simp only[map_nil,a0i,List.isEmpty_nil,Bool.not_true,Bool.false_eq_true,if_false]
  exact wpAny_execs_cons (wpAny_Break (K2 u0 hR.symm z0))
 rw[List.concat_eq_append]at z0 hd hR ⊢
 have hne:(!(a0i ((es++[e]).map (·.x))).isEmpty)=true:=by simp[a0i]
 rw[hne]
 show wpAny _ _ _ _ _ _
 clear u0 K2
 obtain⟨r,hr,hrk,hrl⟩:=hd.ent e (zB (.inr (.head _)))
 have hL:(e.l,Ob.list (a0i (sc e.x)))∈ob:=by have:=hsc r hr;rw[hrl,hrk]at this;exact this
 rw[b9j]at z0
 have hn:=z0.lsn
 have hmm:(e.m,Ob.raw (· =mwO e.it))∈(dfT prog w aSt aIt aS aN (es.map (·.x)++[e.x]) (es.map (·.m)++[e.m]) seen++(es.flatMap a8d++[(e.m,.raw (· =mwO e.it))]))++(e.it,.raw (qIt e.l e.i))::fol Fo:=zB (.inl (zB (.inr (zB (.inr (.head _))))))
 have hit:(e.it,Ob.raw (qIt e.l e.i))∈(dfT prog w aSt aIt aS aN (es.map (·.x)++[e.x]) (es.map (·.m)++[e.m]) seen++(es.flatMap a8d++[(e.m,.raw (· =mwO e.it))]))++(e.it,.raw (qIt e.l e.i))::fol Fo:=zB (.inr (.head _))
 have hes:es.length≤100:=by have:=hd.elen;simp at this;omega
 refine wpAny_execs_cons (wpAny_Try_except (wpAny_execs_cons (c0f z0 rm (Ev.lastO (a:=aIt) (ds:=es.map fun e=>.val (.ref e.m)) (.name h2) (.neg .int) (by
  refine zB (.inl (zB (.inl (.tail _ ?_))))
  have:(es.map (·.m)++[e.m]).map (fun m=>D.val (.ref m))=es.map (fun e=>D.val (.ref e.m))++[.val (.ref e.m)]:=by simp
  rw[←this];exact .head _)) hmm hob hL ?_ ?_)))
 ·intro y y2 hy j1
  walk_at "x"
  refine wpAny_Break ?_
  have hdr:(sc e.x).drop e.i=y::(sc e.x).drop (e.i+1):=by
   clear hL z0 rm
   obtain⟨hlt,e'⟩:=List.getElem?_eq_some_iff.mp hy
   rw[List.drop_eq_getElem_cons hlt,e']
  refine K1 y (es++[{e with i:=e.i+1}]) y2 ?_ hd.turn (j1.eqOl (by rw[b9j]))
  rw[←hR,a6p,a6p,hdr];rfl
 ·intro j2 h' ex y2 hj j1 sb exi mk
  have hsub:∀p∈dfT prog w aSt aIt aS aN (es.map (·.x)++[e.x]) (es.map (·.m)++[e.m]) seen++(es.flatMap a8d++fol Fo),p∈(dfT prog w aSt aIt aS aN (es.map (·.x)++[e.x]) (es.map (·.m)++[e.m]) seen++(es.flatMap a8d++[(e.m,.raw (· =mwO e.it))]))++fol Fo:=fun p hp=>by
   clear y2 hL z0 K1 rm
   rcases zA hp with hp | hp
   ·exact zB (.inl (zB (.inl hp)))
   ·rcases zA hp with hp | hp
    ·exact zB (.inl (zB (.inr (zB (.inl hp)))))
    ·exact zB (.inr hp)
  have hbs:=a7x hn
  refine b6e (ol':=dfT prog w aSt aIt aS aN (es.map (·.x)++[e.x]) (es.map (·.m)++[e.m]) seen++(es.flatMap a8d++fol Fo)) j1 rfl hfs (fun p hp=>zB (.inr (.tail _ hp))) hfr hg ∅ hit (fun hm=>?_) sb exi mk (fun p hp=>?_) ?_ fun l3 z1=>?_
  ·rw[hfs.frs]at hm
   clear l3 j1 y2 hL z0 K1 rm
   obtain⟨p,hp,e'⟩:=zM hm
   have hp':(p.1,Ob.raw (slO p.2))∈but e.it ((dfT prog w aSt aIt aS aN (es.map (·.x)++[e.x]) (es.map (·.m)++[e.m]) seen++(es.flatMap a8d++[(e.m,.raw (· =mwO e.it))]))++(e.it,.raw (qIt e.l e.i))::fol Fo):=by
    rw[hbs];exact zB (.inr (zN ⟨p,hp,rfl⟩))
   exact(a6a.mp hp').2 e'
  ·have:=hsub p hp
   rw[←hbs]at this
   exact a6a.mp this
  ·refine hn.sublist ?_
   rw[append_assoc,append_assoc]
   exact((List.Sublist.refl _).append ((List.Sublist.refl _).append ((List.sublist_cons_self _ _).trans (List.sublist_cons_self _ _)))).map _
  ·have hms:(es.map (·.m)++[e.m]).map (fun m=>D.val (.ref m))=(es.map (·.m)).map (fun m=>D.val (.ref m))++[.val (.ref e.m)]:=by simp
   refine c0l (l1:=[(aSt,.list (a0i (es.map (·.x)))),(aIt,.list ((es.map (·.m)++[e.m]).map fun m=>.val (.ref m))),(aS,.raw (·.SetObjOf (intKind prog w) (a4s seen) seen.length))]) (l2:=es.flatMap a8d++fol Fo) (x:=e.x) (xs:=es.map (·.x)) z1 (z1.nm h3) (by simp;omega) (fun Q y3 u1 Kc=>?_) fun y3 u1=>?_
   ·refine c3q (l1:=[]) (a:=aSt) (ds:=a0i (es.map (·.x))) (d:=dn e.x) (l2:=(aIt,.list ((es.map (·.m)++[e.m]).map fun m=>.val (.ref m)))::(aS,.raw (·.SetObjOf (intKind prog w) (a4s seen) seen.length))::(aN,.raw (qN2 prog w (es.map (·.x)++[e.x])))::(es.flatMap a8d++fol Fo)) (u1.eqOl (by rw[dfT,b1a];rfl)) (u1.nm h1) (by simp[a0i];omega) (fun v i5 z2 dv=>?_) he1
    clear y3 z1 l3 j1 y2 hL z0 K1 rm
    cases dv
    exact Kc _ i5 z2
   ·refine c8d (l1:=[(aSt,.list (a0i (es.map (·.x))))]) (a:=aIt) (ds:=(es.map (·.m)).map fun m=>.val (.ref m)) (d:=.val (.ref e.m)) (l2:=(aS,.raw (·.SetObjOf (intKind prog w) (a4s seen) seen.length))::(aN,.raw (qN2 prog w (es.map (·.x))))::(es.flatMap a8d++fol Fo)) (u1.eqOl (by rw[hms];rfl)) (u1.nm h2) (by simp;omega) (fun i5 z2=>?_) he2
    have hdr:(sc e.x).drop e.i=[]:=by rw[List.drop_eq_nil_iff];exact List.getElem?_eq_none_iff.mp hj
    refine wpAny_execs_nil (wpAny_execs_nil ⟨es.length,by simp,es,rfl,?_,hd.pop,z2⟩)
    rw[←hR,a6p,hdr];rfl
end
end
section
noncomputable def nth (l:List Stmt) (i:Nat):Stmt:=(l[i]?).getD (.Pass ⟨0,0,0,0⟩)
theorem c4o:∀{st:List (Nat×List Nat)} {y:Nat} {st':List (Nat×List Nat)},bt st=some (y,st')→∃p∈st,y∈p.2
 | (x,[])::st,y,st',h=>let⟨p,a,b⟩:=c4o (st:=st) h;⟨p,.tail _ a,b⟩
 | (x,z::r)::st,y,st',h=>by cases h;exact⟨_,.head _,.head _⟩
theorem c5a {sc:Nat→List Nat} {es:List Ent} {p:Nat×List Nat} (h:p∈stk sc es):∃e∈es,∀y∈p.2,y∈sc e.x:=by
 unfold stk at h
 rw[List.mem_reverse]at h
 obtain⟨e,he,rfl⟩:=zM h
 exact⟨e,he,fun y hy=>List.mem_of_mem_drop hy⟩
structure GCy (G:a1k):Prop where
 f:GF G
 fc:FnS G 157 "TopologicalSorter._find_cycle" (a0q 10 8) .none
 stop:G.glb "StopIteration"=some none
 iter:G.glb "iter"=some none
 set:G.glb "set"=some none
 sys:∃o,G.objs sysModules=some o
end
section
section
variable {n:Nat} {v3:List (Str×D)} {s:Shared}
theorem DOk.nil {nds:List Nd} {es:List Ent} (h:DOk nds es seen):DOk nds [] seen:=⟨fun e he=>(by cases he),nodup_nil,fun e he=>(by cases he),h.key,h.sn⟩
theorem a6v.two {W':List Addr} {h:Heap} {a b:Addr} (g:a6v W W' h) (ha:h.get? a=none) (hb:h.get? b=none):a6v W (a::b::W') h:=
 ⟨fun x hx=>.tail _ (.tail _ (g.1 x hx)),fun x hx=>by
  rcases a0o hx with rfl | hx
  ·exact .inr ha
  ·rcases a0o hx with rfl | hx
   ·exact .inr hb
   ·exact g.2 x hx⟩
inductive d2d (prog:Program) (w:World) (G:a1k) (H:Heap) (L:Addr) (cd:Value) (own:List (Str×Addr)) (W i0:List Addr) (v3:List (Str×D)) (aSt aIt aS aN:Addr) (Fo:List (Addr×Obj)) (nds:List Nd) (sc:Nat→List Nat) (res:Option (List Nat)) (j0:Shared) (m:Nat) (s':Shared):Prop
 | mk (es:List Ent) (seen':List Nat) (x:Nat) (W':List Addr):dfs sc m seen' (stk sc es) x=some res→x∈nds.map (·.k)→DOk nds es seen'→a6v W W' j0.heap→Stt G H (a6l L cd) own W' i0 (("node",dn x)::v3) (dfO prog w aSt aIt aS aN es seen' Fo) j0 s'→d2d prog w G H L cd own W i0 v3 aSt aIt aS aN Fo nds sc res j0 m s'
noncomputable def d3t (prog:Program) (w:World) (i0:List Addr) (v3:List (Str×D)) (aSt aIt aS aN:Addr) (Fo:List (Addr×Obj)) (nds:List Nd) (res:Option (List Nat)) (l4:List (Str×D)) (u4:List (Addr×Ob)) (j5:List Addr) (u0:Shared):Flow→Prop
 | .next=>∃seen',res=some seen'∧DOk nds [] seen'∧u4=dfO prog w aSt aIt aS aN [] seen' Fo∧∀(y:Str) d,v3.lookup y=some d→l4.lookup y=some d
 | .ret v=>res=none∧(∀p∈fol Fo,p∈u4)∧∃d ds,DR (vis u0.heap (j5++i0)) v (.list (d::ds))∧ds.length≤1000
 | _=>False
inductive d2f (G:a1k) (H:Heap) (L:Addr) (cd:Value) (own:List (Str×Addr)) (W i0:List Addr) (j0:Shared) (F:List (Str×D)→List (Addr×Ob)→List Addr→Shared→Flow→Prop) (fl:Flow) (u0:Shared):Prop
 | mk (l4:List (Str×D)) (u4:List (Addr×Ob)) (j5:List Addr):a6v W j5 j0.heap→Stt G H (a6l L cd) own j5 i0 l4 u4 j0 u0→F l4 u4 j5 u0 fl→d2f G H L cd own W i0 j0 F fl u0
theorem c9w (hC:GCy G) {cd:Value} {R:Addr} {p f:Nat} {nds:List Nd} {aSt aIt aS aN:Addr} {x:Nat} {res:Option (List Nat)}
  (t:Stt G H (a6l L cd) own W i0 (("node",dn x)::v3) (dfO prog w aSt aIt aS aN [] seen Fo) j0 s) (rm:Rm A n) (hfs:a3y fs Fo) (hfr:A.frames=some (a6l L cd::fs)) (h0:v3.lookup ("n2i":Str)=some (.val (.ref Dn))) (h1:v3.lookup ("stack":Str)=some (.val (.ref aSt))) (h2:v3.lookup ("itstack":Str)=some (.val (.ref aIt))) (h3:v3.lookup ("node2stacki":Str)=some (.val (.ref aN))) (h4:v3.lookup ("seen":Str)=some (.val (.ref aS)))
  (lk:∀ρ:List (Str×D),(∀(y:Str) d,v3.lookup y=some d→ρ.lookup y=some d)→Lk ρ v3) (hnn:v3.lookup ("node":Str)=none)
  (hob:Obs (fun _=>none) H (soQ prog w X dX Dn R p f nds rdl)) (hk:(nds.map (·.k)).Nodup) (hlen:nds.length≤100) (hkn:∀r∈nds,∀y∈r.sc,y∈nds.map (·.k)) (hN:(aN == sysModules)=false) (hx:x∈nds.map (·.k)) (hd:DOk nds [] seen) (hres:dfs (a1p (a1q nds)) N seen [] x=some res):
  wpAny (model prog w) A (exec (nth (a2b (nth (a2b (a0q 10 8)) 5)) 1) (a6l L cd)) (d2f G H L cd own W i0 j0 (d3t prog w i0 v3 aSt aIt aS aN Fo nds res)) (fun _ _=>False) s:=by
 have hE:=hC.f.a.e
 obtain⟨sc,hsc⟩:∃sc,sc=a1p (a1q nds):=⟨_,rfl⟩
 rw[←hsc]at hres
 have hscr:∀r∈nds,sc r.k=r.sc:=fun r hr=>by rw[hsc];exact c4q hk hr
 have hscl:∀r∈nds,(r.l,Ob.list (a0i (sc r.k)))∈soQ prog w X dX Dn R p f nds rdl:=fun r hr=>by
  rw[hscr r hr]
  exact zB (.inl (.tail _ (.tail _ (.tail _ (mem_flatMap.mpr ⟨r,hr,.tail _ (.tail _ (.head _))⟩)))))
 have lkn:∀(ρ:List (Str×D)) (y:Nat),(∀(z:Str) d,v3.lookup z=some d→ρ.lookup z=some d)→Lk (("node",dn y)::ρ) (("node",dn y)::v3):=fun ρ y h=>.cons a0l (lk _ fun z d e=>by
  rw[lookup_cons]
  cases hz:(z == ("node":Str))with
  | true=>rw[eq_of_beq hz,hnn]at e;cases e
  | false=>exact h z d e)
 have lkx:∀(y:Nat) (z:Str) d,v3.lookup z=some d→((("node",dn y)::v3:List (Str×D))).lookup z=some d:=fun y z d e=>by
  rw[lookup_cons]
  cases hz:(z == ("node":Str))with
  | true=>rw[eq_of_beq hz,hnn]at e;cases e
  | false=>exact e
 refine a2y (d2d prog w G H L cd own W i0 v3 aSt aIt aS aN Fo nds sc res j0) PassesOwn.never ?_ N ⟨[],seen,x,W,hres,hx,hd,a6v.refl _ _,t⟩
 intro m g0 hI'
 obtain⟨es,seen',x,W',hdf,hxk,hd,hG,w0⟩:=hI'
 refine Ts.val (d:=.bool true) .boolC (.bool true) ∅ _ _ _ _ _ rm w0.cd fun u0 y1=>?_
 have z0:=w0.keeps y1
 show wpAny _ _ _ _ _ _
 cases m with
 | zero=>cases hdf
 | succ m=>
 rw[c2y]at hdf
 have fin:∀(bB:List Ent) (b6:List Nat) (W₁:List Addr) (s':Shared) (Qb:Flow→Shared→Prop),DOk nds bB b6→(match bt (stk sc bB)with | none=>some (some b6) | some (y,st')=>dfs sc m b6 st' y)=some res→a6v W W₁ j0.heap→Stt G H (a6l L cd) own W₁ i0 (("node",dn x)::v3) (dfO prog w aSt aIt aS aN bB b6 Fo) j0 s'→
   (∀r8 y y2,dfs sc m b6 (stk sc r8) y=some res→y∈nds.map (·.k)→DOk nds r8 b6→Stt G H (a6l L cd) own W₁ i0 (("node",dn y)::v3) (dfO prog w aSt aIt aS aN r8 b6 Fo) j0 y2→Qb .next y2)→
   (∀y2,res=some b6→Stt G H (a6l L cd) own W₁ i0 (("node",dn x)::v3) (dfO prog w aSt aIt aS aN [] b6 Fo) j0 y2→Qb .brk y2)→
   wpAny (model prog w) A (exec (nth (a2b (nth (a2b (nth (a2b (a0q 10 8)) 5)) 1)) 1) (a6l L cd)) Qb (fun _ _=>False) s':=by
  intro bB b6 W₁ s' Qb wA hm wH t' kn kb
  refine d1j t' rm hfs hfr hC.stop (a0f h1) (a0f h2) (a0f h3) hob hscl hlen wA rfl ⟨_,by rfl⟩ ⟨_,by rfl⟩ (fun y es' y2 hR hd' j1=>?_) fun y2 hR j1=>?_
  ·rw[hR]at hm
   walk_at "c"
   rcases c4o hR with⟨q,hq,hyq⟩
   rcases c5a hq with⟨e,he,hsub⟩
   rcases wA.ent e he with⟨r,hr,hrk,_⟩
   walk_at "u"
   have hy:y∈nds.map (·.k):=hkn r hr y (by rw[←hscr r hr,hrk];exact hsub y hyq)
   exact kn es' y y2 hm hy hd' (j1.pick (lkn _ y fun z d e=>lkx x z d e))
  ·rw[hR]at hm
   have:res=some b6:=(Option.some.inj hm).symm
   exact kb y2 this j1
 refine b2c z0 rm (Ts.inSet (a:=aS) (k:=(x:Int)) (S:=a4s seen') (m:=seen'.length) (.name (d:=dn x) a0l) (.name (a0f h4)) (.tail _ (.tail _ (.head _))) (by have:=hd.slen;show _ < 4096;omega)) fun y2 j1=>?_
 rw[a9j]
 by_cases hxs:x∈seen'
 ·rw[decide_eq_true hxs]
  show wpAny _ _ _ _ _ _
  refine b2c j1 rm (Ts.inDict (a:=aN) (k:=(x:Int)) (q:=qN2 prog w (es.map (·.x))) (b:=decide (x∈es.map (·.x))) (.name (d:=dn x) a0l) (.name (a0f h3)) (.tail _ (.tail _ (.tail _ (.head _)))) (fun o ho=>c1i ho) hN) fun l3 z1=>?_
  by_cases hxe:x∈es.map (·.x)
  ·rw[decide_eq_true hxe]
   show wpAny _ _ _ _ _ _
   rw[if_pos ⟨hxs,b3s.mpr hxe⟩]at hdf
   obtain⟨i,hi⟩:=List.mem_iff_getElem?.mp hxe
   have hel:=hd.elen
   walk_at "x"
   refine wpAny_Return_some ((Ev.op (Ev.fromO (a:=aSt) (i:=i) (xs:=es.map (·.x)) (.name (a0f h1)) (.head _) (Ev.n2at (a:=aN) (.name (a0f h3)) (.name a0l) (.tail _ (.tail _ (.tail _ (.head _)))) hi) (by simp;omega)) (.list (.one (.name a0l))) (a7h (by simp[a0i,sizeLine_eq];omega))) _ _ _ _ _ rm z1.cd fun v y3 k7 dv=>?_)
   have hlz:(a0i ((es.map (·.x)).drop i)++[dn x]).length≤1001:=by simp[a0i];omega
   obtain⟨d,ds,e⟩:∃d ds,a0i ((es.map (·.x)).drop i)++[dn x]=d::ds:=by
    cases a0i ((es.map (·.x)).drop i)with
    | nil=>exact⟨_,_,rfl⟩
    | cons a l=>exact⟨_,_,rfl⟩
   rw[e,length_cons]at hlz
   rw[e]at dv
   exact⟨_,_,W',hG,z1.keeps k7,(Option.some.inj hdf).symm,fun p hp=>zB (.inr (zB (.inr hp))),d,ds,dv,by omega⟩
  ·rw[decide_eq_false hxe]
   rw[if_neg fun h=>hxe (b3s.mp h.2)]at hdf
   simp only[if_pos hxs]at hdf
   refine wpAny_execs_nil (wpAny_execs_nil (wpAny_execs_cons (fin es seen' W' l3 _ hd hdf hG z1 (fun r8 y y3 e1 e2 e3 u1=>wpAny_execs_nil ⟨m,lt_succ_self _,r8,seen',y,W',e1,e2,e3,hG,u1⟩) fun y3 e1 u1=>⟨_,_,W',hG,u1,seen',e1,hd.nil,rfl,lkx x⟩)))
 ·rw[decide_eq_false hxs]
  rw[if_neg fun h=>hxs h.1]at hdf
  simp only[if_neg hxs]at hdf
  obtain⟨r,hr,hrk⟩:=zM hxk
  have hsl:=hd.slen
  have hel:=hd.elen
  refine b7e (l1:=[(aSt,.list (a0i (es.map (·.x)))),(aIt,.list ((es.map (·.m)).map fun m=>.val (.ref m)))]) (l2:=(aN,.raw (qN2 prog w (es.map (·.x))))::(es.flatMap a8d++fol Fo)) (a:=aS) (k:=(x:Int)) j1 rm (.name (a0f h4)) (.name (d:=dn x) a0l) (by show _ < 4096;omega) (b5d (x:=x)) (m':=(seen'++[x]).length) (by rw[a9j,decide_eq_false hxs];simp) fun l3 z1=>?_
  refine c0n (l1:=[(aSt,.list (a0i (es.map (·.x))))]) (l2:=(aS,.raw (·.SetObjOf (intKind prog w) (a4s (seen'++[x])) (seen'++[x]).length))::(aN,.raw (qN2 prog w (es.map (·.x))))::(es.flatMap a8d++fol Fo)) (a:=aIt) (ds:=(es.map (·.m)).map fun m=>.val (.ref m)) (l:=r.l) (sc:=a0i (sc r.k)) z1 rm hC.iter ∅ (.name (a0f h2)) hob (.slot (C:=70) (i:=2) (ds:=ndV r) (a:=r.a) (d:=r.d) (.ditem (k:=(x:Int)) (.name (d:=.val (.ref Dn)) (a0f h0)) (.name (d:=dn x) a0l) (zB (.inl (.tail _ (.tail _ (.head _))))) (by rw[←hrk];exact a9u hk hr)) (zB (.inl (.tail _ (.tail _ (.tail _ (mem_flatMap.mpr ⟨r,hr,.head _⟩)))))) (zB (.inl (.tail _ (.tail _ (.tail _ (mem_flatMap.mpr ⟨r,hr,.tail _ (.head _)⟩)))))) hE.d.ni hE.d.s2 rfl) (hscl r hr) (by simp;omega) fun it mw y3 hitn hmn u1=>?_
  obtain⟨e,he⟩:∃e:Ent,e=⟨x,0,r.l,it,mw⟩:=⟨_,rfl⟩
  have hmm:(es.map (·.m)).map (fun m=>D.val (.ref m))++[.val (.ref mw)]=((es++[e]).map (·.m)).map (fun m=>D.val (.ref m)):=by rw[he];simp
  have hxx:es.map (·.x)++[x]=(es++[e]).map (·.x):=by rw[he];simp
  rw[hmm]at u1
  have hxe:x∉es.map (·.x):=fun h=>hxs (by obtain⟨e',h1,h2⟩:=zM h;exact h2▸hd.sub e' h1)
  refine c0k (l1:=(mw,.raw (· =mwO it))::(it,.raw (qIt r.l 0))::(aSt,.list (a0i (es.map (·.x))))::(aIt,.list (((es++[e]).map (·.m)).map fun m=>.val (.ref m)))::(aS,.raw (·.SetObjOf (intKind prog w) (a4s (seen'++[x])) (seen'++[x]).length))::[]) (l2:=es.flatMap a8d++fol Fo) (a:=aN) (x:=x) (xs:=es.map (·.x)) u1 rm (by
   have:=Ev.lenO (prog:=prog) (w:=w) (G:=G.at ((mw,.raw (· =mwO it))::(it,.raw (qIt r.l 0))::(aSt,.list (a0i (es.map (·.x))))::(aIt,.list (((es++[e]).map (·.m)).map fun m=>.val (.ref m)))::(aS,.raw (·.SetObjOf (intKind prog w) (a4s (seen'++[x])) (seen'++[x]).length))::(aN,.raw (qN2 prog w (es.map (·.x))))::(es.flatMap a8d++fol Fo))) (n:=n) (env:=a6l L cd) (ρ:=("node",dn x)::v3) (x:="stack") (a:=aSt) (ds:=a0i (es.map (·.x))) (np:=⟨118,40,118,43⟩) (ap:=⟨118,44,118,49⟩) (cp:=⟨118,40,118,50⟩) ∅ hC.f.a.len (a0f h1) (.tail _ (.tail _ (.head _))) (by simp[a0i];omega)
   rw[show(a0i (es.map (·.x))).length=(es.map (·.x)).length by simp[a0i]]at this
   exact this) (.name (a0f h3)) (.name (d:=dn x) a0l) hxe (by simp;omega) hN fun i5 z2=>?_
  refine b3t (l1:=(mw,.raw (· =mwO it))::(it,.raw (qIt r.l 0))::[]) (l2:=(aIt,.list (((es++[e]).map (·.m)).map fun m=>.val (.ref m)))::(aS,.raw (·.SetObjOf (intKind prog w) (a4s (seen'++[x])) (seen'++[x]).length))::(aN,.raw (qN2 prog w (es.map (·.x)++[x])))::(es.flatMap a8d++fol Fo)) (a:=aSt) (ds:=a0i (es.map (·.x))) (d:=dn x) z2 rm (.name (a0f h1)) (.name a0l) (by simp[a0i,sizeLine_eq];omega) fun i4 j3=>?_
  rw[hxx,←b1a,hxx]at j3
  have hek:e.x=x:=by rw[he]
  have z3:=j3.permP (ol':=dfO prog w aSt aIt aS aN (es++[e]) (seen'++[x]) Fo) (by
   have e1:(es++[e]).flatMap a8d++fol Fo=es.flatMap a8d++(a8d e++fol Fo):=by simp
   rw[dfO,e1]
   have:=List.perm_append_comm_assoc (a8d e) (dfT prog w aSt aIt aS aN ((es++[e]).map (·.x)) ((es++[e]).map (·.m)) (seen'++[x])++es.flatMap a8d) (fol Fo)
   rw[append_assoc,append_assoc]at this
   rw[he]at this ⊢
   exact this.symm)
  have hd':DOk nds (es++[e]) (seen'++[x]):=by
   have:=hd.push (e:=e) (by rw[hek];exact hxs) (by rw[hek];exact hxk) ⟨r,hr,by rw[hek];exact hrk,by rw[he]⟩
   rw[hek]at this;exact this
  have hG':=hG.two (b:=it) (a:=mw) (z1.fresh_of hmn).2.2.2 (z1.fresh_of hitn).2.2.2
  refine wpAny_execs_nil (wpAny_execs_cons (fin (es++[e]) (seen'++[x]) (mw::it::W') i4 _ hd' (by rw[a6p,he];exact hdf) hG' z3 (fun r8 y y3 e1 e2 e3 u1=>wpAny_execs_nil ⟨m,lt_succ_self _,r8,seen'++[x],y,_,e1,e2,e3,hG',u1⟩) fun y3 e1 u1=>⟨_,_,_,hG',u1,seen'++[x],e1,hd'.nil,rfl,lkx x⟩))
end
end
section
section
variable {n:Nat} {s:Shared}
theorem c5b {Q:Flow→Shared→Prop} {x:Str} {e:Expr} {d:D} {rest:List Stmt} (t:Stt G H env own W i0 ρ ol j0 s) (rm:Rm A n) (hob:Obs (fun _=>none) H ob) (h:Ev prog w (G.at ob) n env ρ e d) (K:∀s',Stt G H env own W i0 ((x,d)::ρ) ol j0 s'→wpAny (model prog w) A (execs rest env) Q E s')
  (hx:env.kindOf x=some .local:=by kernel_rfl) (hs:swapsWith e (some (.Name x px)) pos.line env=pure false:=by kernel_rfl):wpAny (model prog w) A (execs (.Assign [.Name x px] e pos::rest) env) Q E s:=
 wpAny_execs_cons (wpAny_Assign_Name (h A _ s _ E rm (t.cdH hob) fun v g0 l0 dv=>(t.keeps l0).put (.inl hx) dv fun s' t' _=>K s' t') hs)
theorem Wd.sys (x:Wd G H M ol s) (h:∃o,G.objs sysModules=some o) {a:Addr} (ha:s.heap.get? a=none):(a == sysModules)=false:=by
 obtain⟨o,ho⟩:=h
 have:=x.top.objs _ _ ho
 cases e:(a == sysModules)with
 | false=>rfl
 | true=>rw[eq_of_beq e,this]at ha;cases ha
theorem d1f (hC:GCy G) {R:Addr} {p f:Nat} {nds:List Nd} {c:Bool} (rm:Rm A (n+1)) (wd:Wd G H M (fol Fo) s) (hfs:a3y fs Fo) (hfr:A.frames=some fs)
  (hob:Obs (fun _=>none) H (soQ prog w X dX Dn R p f nds rdl)) (hM:Dn∉M) (hlo:(Dn == sysModules)=false) (hk:(nds.map (·.k)).Nodup) (hlen:nds.length≤100) (hkn:∀r∈nds,∀y∈r.sc,y∈nds.map (·.k)) (hc:a2u (a1p (a1q nds)) N (nds.map (·.k)) []=some c)
  (K:∀v s',Kx G.gen [] (frs fs) s s'→((c=false∧v= .none)∨(c=true∧∃d ds,DR (vis s'.heap M) v (.list (d::ds))∧ds.length≤1000))→Q v s'):wpAny (model prog w) A (call (.ref 157) [.ref X]) Q E s:=by
 have hE:=hC.f.a.e
 have hF0:=wd.fr0 (fun p hp=>hp)
 refine a0u (n:=n) (args:=⟨[_],[]⟩) (ρ:=[("self",.val (.ref X))]) (binds:=[("self",_)]) hC.fc rm wd.top wd.mem (fun name doc pm an cdv ct=>BindsTo.of_eq rfl) rfl (.cons (.val (.ref X)) .nil) (a2h ∅) (a0d ∅) (by decide +kernel) (a0d ∅) ?_ ∅ ∅ ∅
 intro L cd g0 hL t hW
 walk_at "q"
 obtain⟨W₁,w0,b4⟩:=t.openW wd hW
 have rm':=rm.deeper (a6l L cd)
 have hfr':(A.deeper (a6l L cd)).frames=some (a6l L cd::fs):=Around.frames_deeper hfr
 have hX:(X,a0r 167 dX)∈(X,a0r 167 dX)::(Dn,dcO prog w (a3k nds))::(nds.flatMap ndO++[(R,Ob.list (a0i rdl))]):=.head _
 refine c5b w0 rm' hob (.self ∅ hX hE.cls (hE.attr _ (by decide)) (d:=.val (.ref Dn)) ∅) fun u0 z0=>?_
 walk_at "x"
 refine a4y z0 rm' (.inl ∅) ∅ fun aSt y2 f1 j1=>?_
 walk_at "x"
 refine a4y j1 rm' (.inl ∅) ∅ fun aIt l3 f2 z1=>?_
 refine c3s (ob:=.raw (·.SetObjOf (intKind prog w) (a4s []) 0)) z1 (fun Q K=>wpAny_Call_NameR (a1v z1.kind z1.glob z1.bi z1.top ∅ hC.set (v:=.type "set") ∅ (by decide) (PySem.callWith_type rfl (PyProof.Rows.evalArgs_none (call_set_0 fun led=>K _ _ (Kp.push _ _) (a0c (Nat.le_refl _)) ⟨_,get?_push_size _ rfl,setObjOf_fresh led⟩))))) rfl fun aS y3 f3 u1=>?_
 refine c3s (ob:=.raw (qN2 prog w [])) u1 (fun Q K=>wpAny_Dict_empty (K _ _ (Kp.push _ _) (a0c (Nat.le_refl _)) (by
  obtain⟨o,ho,hd⟩:=Heap.dictOf_iff.mp (Heap.DictOf.new (knd:=intKind prog w) y3.heap)
  exact⟨o,ho,c5n hd⟩))) rfl fun aN i5 f4 z2=>?_
 have hN:=u1.wd.sys hC.sys f4
 have g1:=(z0.fresh_of f1).2.2.2
 have g2:=(j1.fresh_of f2).2.2.2
 have g3:=(z1.fresh_of f3).2.2.2
 have g4:=(u1.fresh_of f4).2.2.2
 walk_at "c"
 rcases(⟨_,rfl⟩:∃j5,j5=aN::aS::aIt::aSt::W₁)with⟨j5,l7⟩
 rw[←l7]at z2
 have w8:∀b∈j5,s.heap.get? b=none∨b∈(fol Fo).map (·.1):=fun b hb=>by
  rw[l7]at hb
  rcases a0o hb with rfl | hb
  ·exact .inl g4
  rcases a0o hb with rfl | hb
  ·exact .inl g3
  rcases a0o hb with rfl | hb
  ·exact .inl g2
  rcases a0o hb with rfl | hb
  ·exact .inl g1
  ·exact b4 b hb
 rcases(⟨_,rfl⟩:∃v3:List (Str×D),v3=([("n2i",.val (.ref Dn)),("stack",.val (.ref aSt)),("itstack",.val (.ref aIt)),("node2stacki",.val (.ref aN)),("seen",.val (.ref aS))]:List (Str×D)))with⟨v3,y5⟩
 have h0:v3.lookup ("n2i":Str)=some (.val (.ref Dn)):=by rw[y5];kernel_rfl
 have h1:v3.lookup ("stack":Str)=some (.val (.ref aSt)):=by rw[y5];kernel_rfl
 have h2:v3.lookup ("itstack":Str)=some (.val (.ref aIt)):=by rw[y5];kernel_rfl
 have h3:v3.lookup ("node2stacki":Str)=some (.val (.ref aN)):=by rw[y5];kernel_rfl
 have h4:v3.lookup ("seen":Str)=some (.val (.ref aS)):=by rw[y5];kernel_rfl
 have hnn:v3.lookup ("node":Str)=none:=by rw[y5];kernel_rfl
 have lk:∀ρ:List (Str×D),(∀(y:Str) d,v3.lookup y=some d→ρ.lookup y=some d)→Lk ρ v3:=fun ρ h=>by
  have k0:=h _ _ h0
  have k1:=h _ _ h1
  have k2:=h _ _ h2
  have k3:=h _ _ h3
  have k4:=h _ _ h4
  rw[y5]
  exact .cons k0 (.cons k1 (.cons k2 (.cons k3 (.cons k4 .nil))))
 have j3:=(z2.pick (ρ':=v3) (by rw[y5];exact .cons ∅ (.cons ∅ (.cons ∅ (.cons ∅ (.cons ∅ .nil)))))).permP (ol':=dfO prog w aSt aIt aS aN [] [] Fo) ((List.reverse_perm (dfT prog w aSt aIt aS aN [] [] [])).symm.append_right (fol Fo))
 clear y5 z2 u1 z1 j1 z0 w0 t f1 f2 f3 f4 g1 g2 g3 g4
 rcases(⟨_,rfl⟩:∃sc,sc=a1p (a1q nds))with⟨sc,hsc⟩
 have lkx:∀(ρ:List (Str×D)) (y:Nat),(∀(z:Str) d,v3.lookup z=some d→ρ.lookup z=some d)→∀(z:Str) d,v3.lookup z=some d→((("node",dn y)::ρ:List (Str×D))).lookup z=some d:=fun ρ y h z d e=>by
  rw[lookup_cons]
  cases hz:(z == ("node":Str))with
  | true=>rw[eq_of_beq hz,hnn]at e;cases e
  | false=>exact h z d e
 rcases hob (Dn,dcO prog w (a3k nds)) (.tail _ (.tail _ (.head _)))with⟨oD,eD,hD⟩
 walk_at "u"
 have hds:((a3k nds).map fun kv=>D.int kv.1)=a0i (nds.map (·.k)):=by simp[a3k,a0i,dn]
 have fin:∀(b7:List Addr) (g9:List Addr) ρ ol s',a6v j5 b7 i5.heap→Stt G H (a6l L cd) (cellsFrom (L+1) (a0a (a0q 10 8)).names []) b7 (g9++M) ρ ol s s'→(∀p∈fol Fo,p∈ol)→Kx G.gen [] (frs fs) s s':=fun b7 g9 ρ ol s' hG t' hp=>t'.endX hfs hp hF0 fun b hb=>by
  have old:b∈j5→b∈frs fs∨b∈([]:List Addr)∨s.heap.get? b=none:=fun h=>by
   rcases w8 b h with h | h
   ·exact .inr (.inr h)
   ·refine .inl ?_
    rw[hfs.frs]
    walk_at "c"
    rcases zM h with⟨p,hp,e⟩
    rcases zM hp with⟨q,hq,rfl⟩
    walk_at "u"
    exact zN ⟨q,hq,e⟩
  rcases hG.2 b hb with h | h
  ·exact old h
  ·by_cases hm:b∈j5
   ·exact old hm
   ·refine .inr (.inr ?_)
    cases e:s.heap.get? b with
    | none=>rfl
    | some o=>exact nsn h (j3.kp.1 b o hm e)
 walk_at "x"
 refine b6s (fun i ρ ol W=>(∀(y:Str) d,v3.lookup y=some d→ρ.lookup y=some d)∧∃seen,ol=dfO prog w aSt aIt aS aN [] seen Fo∧DOk nds [] seen∧a2u sc N ((nds.map (·.k)).drop i) seen=some c) (fun d ρ ol W=>c=true∧(∃d' ds,d= .list (d'::ds)∧ds.length≤1000)∧∀p∈fol Fo,p∈ol) (fun d=>[("node",d)]) j3 rm' (c2q j3 rm' ⟨oD,eD,hD⟩ hlo hM (.name h0)) (fun d _=>.name (.inl ∅)) ⟨fun _ _ h=>h,[],rfl,⟨fun e he=>(by cases he),nodup_nil,fun e he=>(by cases he),fun e he=>(by cases he),nodup_nil⟩,by rw[hsc];exact hc⟩ ?_ ?_ ?_
 ·rintro j4 b7 i d y0 _ i4 E' hd ⟨hl,seen,rfl,hdk,hda⟩ w6
  rw[hds]at hd
  obtain⟨x,hx,rfl⟩:∃x,(nds.map (·.k))[i]? =some x∧d=dn x:=by
   rw[a0i,getElem?_map]at hd
   cases h:(nds.map (·.k))[i]? with
   | none=>rw[h]at hd;cases hd
   | some q=>rw[h]at hd;cases hd;exact⟨q,rfl,rfl⟩
  have hxk:=mem_of_getElem? hx
  have hdr:(nds.map (·.k)).drop i=x::(nds.map (·.k)).drop (i+1):=by
   obtain⟨hlt,e'⟩:=List.getElem?_eq_some_iff.mp hx
   rw[List.drop_eq_getElem_cons hlt,e']
  rw[hdr]at hda
  rw[a6u]at hda
  refine wpAny_noRaise ?_
  have c8:=w6.pick (ρ':=("node",dn x)::v3) (.cons a0l (lk _ (lkx y0 x hl)))
  refine b2c c8 rm' (Ts.inSet (a:=aS) (k:=(x:Int)) (S:=a4s seen) (m:=seen.length) (.name (d:=dn x) a0l) (.name (a0f h4)) (.tail _ (.tail _ (.head _))) (by have:=hdk.slen;show _ < 4096;omega)) fun d6 u7=>?_
  rw[a9j]
  by_cases hxs:x∈seen
  ·rw[decide_eq_true hxs]
   rw[if_pos hxs]at hda
   show wpAny _ _ _ _ _ _
   exact wpAny_execs_cons (wpAny_Continue ⟨_,_,b7,a6v.refl _ _,u7,lkx v3 x fun _ _ h=>h,seen,rfl,hdk,hda⟩)
  ·rw[decide_eq_false hxs]
   rw[if_neg hxs]at hda
   refine wpAny_execs_nil (wpAny_execs_cons (wpAny_mono (c9w (N:=N) (x:=x) (res:=(dfs sc N seen [] x).getD none) hC u7 rm' hfs hfr' h0 h1 h2 h3 h4 lk hnn hob hk hlen hkn hN hxk hdk ?_) (fun fl j6 h=>?_) fun _ _ h=>h))
   ·rw[←hsc]
    cases hr:dfs sc N seen [] x with
    | none=>rw[hr]at hda;cases hda
    | some r=>rfl
   ·obtain⟨l4,u4,z9,hG,j9,hm⟩:=h
    cases hr:dfs sc N seen [] x with
    | none=>rw[hr]at hda;cases hda
    | some r=>
     rw[hr]at hm hda
     cases fl with
     | next=>
      obtain⟨seen',e,hdk',e2,hl'⟩:=hm
      have e:r=some seen':=e
      subst e
      subst e2
      exact wpAny_execs_nil ⟨_,_,z9,hG,j9,hl',seen',rfl,hdk',hda⟩
     | ret v=>
      obtain⟨e,hp,d,ds,dv,hz⟩:=hm
      have e:r=none:=e
      subst e
      have hc':c=true:=(Option.some.inj hda).symm
      exact⟨_,_,z9,hG,j9,_,dv,hc',⟨d,ds,rfl,hz⟩,hp⟩
     | brk=>exact hm.elim
     | cont=>exact hm.elim
 ·rintro y0 _ b7 i4 ⟨hl,seen,rfl,hdk,hda⟩ hG w6
  rw[length_map,show(a3k nds).length=(nds.map (·.k)).length by simp[a3k],List.drop_length]at hda
  have hc':c=false:=(Option.some.inj hda).symm
  walk_at "x"
  refine wpAny_Return_some (wpAny_Constant_none ?_)
  exact K _ _ (fin b7 [] y0 _ i4 hG w6 fun p hp=>zB (.inr (zB (.inr hp)))) (.inl ⟨hc',rfl⟩)
 ·rintro v d g9 y0 x0 b7 i4 dv ⟨hc',⟨d',ds,rfl,hz⟩,hp⟩ hG w6
  refine K _ _ (fin b7 g9 y0 x0 i4 hG w6 hp) (.inr ⟨hc',d',ds,?_,hz⟩)
  exact(dv.mono a4c).mono a4c
end
end
section
section
variable {n:Nat} {M':List Addr} {s:Shared}
theorem Cd.less (c:Cd G env M ρ s) (h:∀b∈M',b∈M):Cd G env M' ρ s:=by
 have up:∀a o,vis s.heap M a=some o→vis s.heap M' a=some o:=fun a o e=>a0v (a0b e).1 fun hm=>(a0b e).2 (h a hm)
 exact⟨c.top,c.kind,c.glob,c.bi,fun x d e=>let⟨v,a,b⟩:=c.vars x d e;⟨v,a,b.mono up⟩,fun b hb=>c.mem b (h b hb),c.cs,fun p hp=>let⟨o,e,r⟩:=c.obs p hp;⟨o,e,r.mono up⟩⟩
theorem c3e {α:Type} {iter:Expr} {xs:List α} {g:α→D} (rm:Rm A n) (c:Cd G env M ρ s) (hit:∀Q:Value→Shared→Prop,(∀I s' old,Kp s s'→Hk s.heap old→Hk old s'.heap→Itr prog w A old s'.heap M I (xs.map g)→Q (.ref I) s')→wpAny (model prog w) A (eval iter env) (fun v g0=>wpAny (model prog w) A (pyIter v) Q E g0) E s) (hsz:xs.length≤sizeLine) (sc:Sc env scope ρ ρ') (p:α→Bool) (f:α→D) (bs:α→List (Str×D))
  (hb:∀d∈xs,Bd (fun x=>scope.names.lookup x=some .local∨scope.names.lookup x=some .cell) target (g d) (bs d))
  (ht:∀C cells,∀d∈xs,Tsl prog w G n (compEnvC scope cells C env) (bs d++ρ') ifs (p d))
  (he:∀C cells,∀d∈xs,p d=true→Ev prog w G n (compEnvC scope cells C env) (bs d++ρ') elt (f d))
  (K:∀a s',Kp s s'→s.heap.get? a=none→DR (vis s'.heap M) (.ref a) (.list ((xs.filter p).map f))→Q (.ref a) s')
  (hs:∀x,foldedSetIterable iter env x=pure x:=by intro _;rfl):wpAny (model prog w) A (eval (.ListComp elt [⟨target,iter,ifs,0⟩] scope pos) env) Q E s:=by
 obtain⟨cl,hclos,hcl,hcl'⟩:=a4p (scope:=scope) (env:=env) fun y hy=>c.cs y (sc.free y hy)
 rw[eval_ListComp]
 refine wpAny_comprehension_free (use:=none) rfl hs hclos sc.kind sc.names (hit _ fun I u0 old k hso hos itr=>?_)
 refine a7w (RR:=fun acc C=>compPost (model prog w) A E none Q acc C) rm c k hso hos itr hsz sc hcl hcl' p f bs hb ht he fun Dl C s' m kp hC hDl hn dv=>?_
 exact⟨m,hn,fun h' hs'=>K _ _ (kp.sameBut hC hs') hDl (dv.hide hs')⟩
theorem c2p {b:Expr} {cp:Pos} {x:Addr} (rm:Rm A n) (c:Cd G env M ρ s) (hx:(x,Ob.raw (·.IsDictOf (intKind prog w) kvs))∈G.ob) (hM:x∉M) (hlo:(x == sysModules)=false) (hb:Ev prog w G n env ρ b (.val (.ref x))) (Q:Value→Shared→Prop)
  (K:∀I s' old,Kp s s'→Hk s.heap old→Hk old s'.heap→Itr prog w A old s'.heap M I (kvs.map fun kv=>.val kv.2)→Q (.ref I) s') (he:eval (.Call (.Attribute b "values" ap) [] [] cp) env=(do
   let ov ←eval b env
   standAt ap.atName
   let(f,first) ←holding [ov] (getMethod ov "values" pl)
   callWith cp f first (backTo cp (starEach [] env)) []):=by rfl):
  wpAny (model prog w) A (eval (.Call (.Attribute b "values" ap) [] [] cp) env) (fun v g0=>wpAny (model prog w) A (pyIter v) Q E g0) E s:=by
 refine MethodCall_ (hb A _ s _ E rm c fun ov g0 l0 dov=>?_) he
 cases dov
 have v5:=c.keeps l0
 obtain⟨o,eo,es,ep,hd1,hd2,hd3,hd4,hd5⟩:=v5.obs _ hx
 have hD:g0.heap.DictAt (intKind prog w) x kvs ep:=⟨o,es,eo,hd1,hd2,hd3,hd4,hd5⟩
 have hDo:g0.heap.DictOf (intKind prog w) x kvs:=⟨o,es,ep,eo,hd1,hd2,hd3,hd4,hd5⟩
 refine getMethod_builtin hDo.typeIs PySem.F.plainAttrs_dict PySem.F.slot_dict_values PySem.F.type_dict_values hDo.mapOf.noDict ?_
 refine callWith_method0 (call_meetsIn PySem.F.slot_dict_values hDo.typeIs PySem.F.entry_dict_values (PySem.F.args_dict_values_1 _) (meets_dict_values (intKind prog w) x hlo) ⟨⟨kvs,hDo⟩,?_⟩)
 have y1:=l0.trans (Kp.push g0 {cls:=.type "dict_values",data:=.fields #[.ref x]})
 obtain⟨v4,eh⟩:∃v4,v4=g0.heap.push {cls:=.type "dict_values",data:=.fields #[.ref x]}:=⟨_,rfl⟩
 have hv:v4.IsValuesView g0.heap.objs.size x:=by rw[eh];exact⟨_,get?_push_size _ rfl,rfl,rfl⟩
 have a7:v4.DictAt (intKind prog w) x kvs ep:=by rw[eh];exact hD.push _
 rw[←eh]at y1 ⊢
 have zD:v4.get? x=some o:=by rw[eh];exact get?_push_of_some _ eo
 have hlt:=lt_size zD
 refine wpAny_pyIter_values (s:={g0 with heap:=v4}) hv a7 (K _ _ v4 (y1.trans (Kp.push {g0 with heap:=v4} _)) y1.hk (Hk.push _ _) ?_)
 have Wk:=Walks.dictValues (prog:=prog) (w:=w) (knd:=intKind prog w) rm.hd v4.objs.size x (Nat.ne_of_lt hlt) kvs ep
 rw[show kvs.length=(kvs.map fun kv:Int×Value=>D.val kv.2).length from by rw[length_map]]at Wk ⊢
 refine⟨_,_,_,_,Wk,⟨⟨_,get?_push_size _ rfl,rfl,rfl⟩,a7.push _⟩,?_,?_,?_,?_,?_,?_⟩
 ·intro b hb;rw[zS hb];exact a0c (Nat.le_refl _)
 ·intro j h st b hb;rw[zS hb];obtain⟨⟨o,e,_⟩,_⟩:=st;exact⟨o,e⟩
 ·intro b hb
  rcases a0o hb with rfl | hb
  ·exact⟨_,get?_push_size _ rfl⟩
  ·rw[zS hb];exact⟨_,get?_push_of_some _ zD⟩
 ·intro b hb
  rcases a0o hb with rfl | hb
  ·exact(c.keeps y1).fresh (Nat.le_refl _)
  ·rw[zS hb];exact hM
 ·intro tgt i v s Q E st hQ;obtain⟨⟨o,e,hc,hd⟩,_⟩:=st;exact b2s e hc hd (by decide) hQ
 ·intro j v hI'
  obtain⟨k,hk⟩:=hI'
  exact⟨.val v,by rw[getElem?_map,hk];rfl,v4,Hk.push _ _,Hk.refl _,.val _⟩
end
end
section
structure Trx (fl:Bool) (F:List Addr) (ol ol':List (Addr×Ob)) (s s':Shared):Prop where
 kx:Kx fl (ol.map (·.1)) F s s'
 td:b6j s'.heap ol'
 new:∀p∈ol',p.1∈ol.map (·.1)∨s.heap.get? p.1=none
 st:∀b∈ol.map (·.1),∃o,s'.heap.get? b=some o
 nd:(ol'.map (·.1)).Nodup
theorem a2z (hfs:a3y fs Fo):(fol Fo).map (·.1)=frs fs:=by rw[hfs.frs,fol,map_map];rfl
theorem c2s:(fol Fo).all (fun p=>a3a p.2)=true:=all_eq_true.mpr fun p hp=>by obtain⟨q,_,rfl⟩:=zM hp;rfl
section
variable {n:Nat} {M':List Addr} {s:Shared}
theorem Trx.behind {y3:Shared} (x:Trx fl F ol ol' s y3) (k:Kx fl [L] F y3 s') (hL:s.heap.get? L=none) (hne:L∉ol'.map (·.1)) (hne':L∉ol.map (·.1)) (hF:∀p∈ol',p.1∉F) (hF':∀b∈ol.map (·.1),b∉F):Trx fl F ol ol' s s':=by
 refine⟨⟨fun b o hb hF e=>k.kept b o (fun hm=>?_) hF (x.kx.kept b o hb hF e),fun b hb o e=>?_,x.kx.rest.1.trans k.rest.1,k.rest.2.1.trans x.kx.rest.2.1,k.rest.2.2.trans x.kx.rest.2.2⟩,fun p hp=>?_,x.new,fun b hb=>?_,x.nd⟩
 ·rw[zS hm,hL]at e;cases e
 ·obtain⟨o',e',s1⟩:=x.kx.up b hb o e
  obtain⟨o'',e'',s2⟩:=k.up b hb o' e'
  exact⟨o'',e'',s1.trans s2⟩
 ·obtain⟨f,o,e,r⟩:=x.td p hp
  exact⟨f,o,k.kept _ _ (fun hm=>hne (zS hm▸zN ⟨p,hp,rfl⟩)) (hF p hp) e,r⟩
 ·obtain⟨o,e⟩:=x.st b hb
  exact⟨o,k.kept _ _ (fun hm=>hne' (zS hm▸hb)) (hF' b hb) e⟩
theorem Stt.toTrx (t:Stt G H env own W i0 ρ (ol'++fol Fo) s s') (wd:Wd G H i0 (ol++fol Fo) s) (hfs:a3y fs Fo) (hW:∀b∈W,s.heap.get? b=none∨b∈(ol++fol Fo).map (·.1)) (hf:ol'.all (fun p=>a3a p.2)=true):Trx G.gen (frs fs) ol ol' s s':=by
 have hn:=t.lsn
 rw[map_append,nodup_append]at hn
 refine⟨⟨fun b o hb hF e=>t.kp.1 b o (fun hm=>?_) e,fun b hb o e=>?_,t.kp.2⟩,?_,fun p hp=>?_,fun b hb=>?_,hn.1⟩
 ·rcases hW b hm with h | h
  ·exact nsn h e
  ·rw[map_append]at h
   rcases zA h with h | h
   ·exact hb h
   ·rw[a2z hfs]at h;exact hF h
 ·rw[hfs.frs]at hb
  obtain⟨p,hp,e'⟩:=zM hb
  have e'':p.1=b:=e'
  subst e''
  have hp':(p.1,Ob.raw (slO p.2))∈fol Fo:=zN ⟨p,hp,rfl⟩
  walk_at "c"
  rcases t.ls _ (zB (.inr hp'))with⟨_,_,o',eo',so'⟩
  rcases wd.ls _ (zB (.inr hp'))with⟨_,_,rG,x9,lB⟩
  walk_at "u"
  rw[e]at x9;cases x9
  exact⟨o',eo',slO.both lB so'⟩
 ·have:=t.told (by rw[List.all_append,hf,c2s];rfl)
  exact fun p hp=>this p (zB (.inl hp))
 ·rcases hW _ (t.ls p (zB (.inl hp))).wW with h | h
  ·exact .inr h
  ·rw[map_append]at h
   rcases zA h with h | h
   ·exact .inl h
   ·exact absurd rfl (hn.2.2 p.1 (zN ⟨p,hp,rfl⟩) p.1 h)
 ·obtain⟨p,hp,e⟩:=zM hb
  have e':p.1=b:=e
  exact t.mem b (zB (.inr (e'▸(wd.ls p (zB (.inl hp))).wW)))
theorem Stt.trx (t:Stt G H env own W i0 ρ (ol++(fol Fo++r)) j0 s) (hf:env.frame=some env.locals) (hfs:a3y fs Fo) (x:Trx G.gen (frs (env::fs)) ol ol' s s'):∃N,(∀b∈N,s.heap.get? b=none)∧Stt G H env own (N++W) i0 ρ (ol'++(fol Fo++r)) j0 s':=by
 have hn:=t.lsn
 rw[map_append,nodup_append]at hn
 have hl:∀p∈ol,p.1∈W∧p.1∉fms env own:=fun p hp=>⟨(t.ls p (zB (.inl hp))).wW,(t.ls p (zB (.inl hp))).f⟩
 have hlm:∀b∈ol.map (·.1),b∈W∧b∉fms env own:=fun b hb=>by
  obtain⟨p,hp,e⟩:=zM hb
  have e':p.1=b:=e
  exact e'▸hl p hp
 refine⟨(ol'.map (·.1)).filter fun b=>!(ol.map (·.1)).contains b,fun b hb=>?_,t.flew (W₁:=ol.map (·.1)) (F:=frs fs) (by rw[←a3s hf];exact x.kx) (fun b hb=>?_) hlm x.st (fun b hb=>?_) (fun p hp=>?_) ?_⟩
 ·obtain⟨h1,h2⟩:=mem_filter.mp hb
  obtain⟨p,hp,e⟩:=zM h1
  have e':p.1=b:=e
  subst e'
  rcases x.new p hp with h | h
  ·simp[h]at h2
  ·exact h
 ·rw[hfs.frs]at hb
  obtain⟨p,hp,e⟩:=zM hb
  have e':p.1=b:=e
  subst e'
  exact⟨p.2,zB (.inr (zB (.inl (zN ⟨p,hp,rfl⟩))))⟩
 ·obtain⟨h1,h2⟩:=mem_filter.mp hb
  obtain⟨p,hp,e⟩:=zM h1
  have e':p.1=b:=e
  subst e'
  obtain⟨_,o,eo,_⟩:=x.td p hp
  rcases x.new p hp with h | h
  ·simp[h]at h2
  ·exact⟨h,o,eo⟩
 ·rcases zA hp with hp | hp
  ·obtain⟨f,o,eo,ro⟩:=x.td p hp
   refine .inr ⟨?_,o,eo,ro.flatA f⟩
   by_cases hm:p.1∈ol.map (·.1)
   ·exact .inl (hlm _ hm)
   ·exact .inr (mem_filter.mpr ⟨zN ⟨p,hp,rfl⟩,by simpa using hm⟩)
  ·exact .inl ⟨zB (.inr hp),fun hm=>hn.2.2 p.1 hm p.1 (zN ⟨p,hp,rfl⟩) rfl⟩
 ·rw[map_append,nodup_append]
  refine⟨x.nd,hn.2.1,fun a ha b hb e=>?_⟩
  subst e
  obtain⟨p,hp,e⟩:=zM ha
  have e':p.1=a:=e
  subst e'
  rcases x.new p hp with h | h
  ·exact hn.2.2 p.1 h p.1 hb rfl
  ·obtain⟨q,hq,e2⟩:=zM hb
   obtain⟨_,_,o,eo,_⟩:=t.ls q (zB (.inr hq))
   have e2':q.1=p.1:=e2
   rw[e2',h]at eo;cases eo
theorem Stt.frameWd (t:Stt G H env own W i0 ρ ol j0 s) (hf:env.frame=some env.locals) (hfs:a3y fs Fo) (hFo:∀p∈fol Fo,p∈ol) (hnF:((fol Fo).map (·.1)).Nodup):∃oL,a3y (env::fs) ((env.locals,oL)::Fo)∧Wd G (hideAll s.heap (frs (env::fs))) (frs (env::fs)) (fol ((env.locals,oL)::Fo)) s:=by
 obtain⟨oL,f1,f2,wd⟩:=t.stack hfs hFo hf
 have hk:=a2z f1
 have sub:∀p∈fol ((env.locals,oL)::Fo),p∈(env.locals,Ob.raw (slO oL))::ol:=fun p hp=>by
  rcases a0o hp with rfl | hp
  ·exact .head _
  ·exact .tail _ (hFo p hp)
 refine⟨oL,f1,⟨t.tH.keeps fun a o e=>hideAll_get _ (t.kH a o e) fun hm=>?_,fun a o e=>of_hideAll _ e,fun b hb=>?_,fun p hp=>?_,?_⟩⟩
 ·rw[←hk]at hm
  walk_at "c"
  rcases zM hm with⟨p,hp,e'⟩
  have e'':p.1=a:=e'
  rcases wd.ls p (sub p hp)with⟨_,hn,_⟩
  walk_at "u"
  rw[e'',e]at hn;cases hn
 ·rw[←hk]at hb
  walk_at "c"
  rcases zM hb with⟨p,hp,e'⟩
  have e'':p.1=b:=e'
  rcases wd.ls p (sub p hp)with⟨_,_,o,eo,_⟩
  walk_at "u"
  exact⟨o,e''▸eo⟩
 ·obtain⟨_,_,o,eo,ro⟩:=wd.ls p (sub p hp)
  have hm:p.1∈frs (env::fs):=by rw[←hk];exact zN ⟨p,hp,rfl⟩
  refine⟨hm,hideAll_none _ hm,o,eo,?_⟩
  obtain⟨q,_,rfl⟩:=zM hp
  exact ro
 ·have:=wd.lsn
  rw[map_cons,nodup_cons]at this
  show(env.locals::(fol Fo).map (·.1)).Nodup
  rw[nodup_cons]
  refine⟨fun hm=>this.1 ?_,hnF⟩
  obtain⟨p,hp,e⟩:=zM hm
  exact zN ⟨p,hFo p hp,e⟩
end
end
section
inductive d2g (objs:Addr→Option Obj):Prop
 | mk (nm q:Str) (N:Addr) (bs:List Value) (hdct:Bool) (sn:List Str) (sub:List Value) (ab:Bool) (col:Option Bool) (dd:Option Addr) (k0 k1 k2 k3 k5:Option Value) (mN:Str→Option Value):
  objs 85=some (excClassObj nm q 85 N bs [.type "ValueError",.type "Exception",.type "BaseException",.type "object"] hdct sn sub ab col dd k0 k1 k2 k3 k5 "ValueError.__new__")→mN "__init__"=none→(∀h:Heap,(∀a o,objs a=some o→h.get? a=some o)→h.Ns N mN)→d2g objs
structure GPr (G:a1k):Prop where
 c:GCy G
 prep:FnS G 122 "TopologicalSorter.prepare" (a0q 10 3) .none
 mFc:a1m G.K 167 "_find_cycle" 157
 gCyc:G.glb "CycleError"=some (some (.ref 85))
 cyc:d2g G.objs
section
variable {n:Nat} {s:Shared}
theorem Ev.jstr {x:Str} {k:Nat} {p:Pos}:Ev prog w G n env ρ (.JoinedStr [.Constant (.str x) k p] q) (.str x):=fun A M s Q E rm c K=>
 wpAny_JoinedStr_one ((Ev.str:Ev prog w G n env ρ _ _) A M s Q E rm c K)
noncomputable abbrev c7h (L:Addr) (cd:Value):Env:=fnv "TopologicalSorter.prepare" (a0a (a0q 10 3)) L 122 cd
noncomputable def a9k (nds:List Nd):List Nat:=(nds.filter fun r=>r.np == 0).map (·.k)
theorem c5p (hP:GPr G) {p f:Nat} {nds:List Nd} {c:Bool} (rm:Rm A (n+2)) (wd:Wd G H M (soO prog w X dX Dn .none p f nds++fol Fo) s) (hfs:a3y fs Fo) (hfr:A.frames=some fs)
  (hlo:(Dn == sysModules)=false) (hk:(nds.map (·.k)).Nodup) (hlen:nds.length≤100) (hkn:∀r∈nds,∀y∈r.sc,y∈nds.map (·.k)) (hc:a2u (a1p (a1q nds)) N (nds.map (·.k)) []=some c)
  (K:∀R s',c=false→Trx G.gen (frs fs) (soO prog w X dX Dn .none p f nds) (soQ prog w X dX Dn R p f nds (a9k nds)) s s'→Q .none s')
  (KE:∀R L y3 e s',c=true→s.heap.get? L=none→L∉(soQ prog w X dX Dn R p f nds (a9k nds)).map (·.1)→Trx G.gen (frs fs) (soO prog w X dX Dn .none p f nds) (soQ prog w X dX Dn R p f nds (a9k nds)) s y3→Rsd G.gen [L] [] fs y3 s' e (.ref 85)→E (.ref e) s'):wpAny (model prog w) A (call (.ref 122) [.ref X]) Q E s:=by
 have hC:=hP.c
 have hE:=hC.f.a.e
 refine a0u (n:=n+1) (args:=⟨[_],[]⟩) (ρ:=[("self",.val (.ref X))]) (binds:=[("self",_)]) hP.prep rm wd.top wd.mem (fun name doc pm an cdv ct=>BindsTo.of_eq rfl) rfl (.cons (.val (.ref X)) .nil) (a2h ∅) (a0d ∅) (by decide +kernel) (a0d ∅) ?_ ∅ ∅ ∅
 intro L cd g0 hL t hW
 walk_at "q"
 obtain⟨W₁,w0,b4⟩:=t.openW wd hW
 have rm':=rm.deeper (c7h L cd)
 have hfr':(A.deeper (c7h L cd)).frames=some (c7h L cd::fs):=Around.frames_deeper hfr
 have hX:∀r,(X,a0r 167 dX)∈(X,a0r 167 dX)::(Dn,dcO prog w (a3k nds))::(nds.flatMap ndO++r):=fun _=>.head _
 have w0:=w0.eqOl (ol':=(dX,.ns (soL Dn .none p f))::(X,a0r 167 dX)::(Dn,dcO prog w (a3k nds))::(nds.flatMap ndO++fol Fo)) rfl
 refine a4u w0 rm' (Ts.cmp (.self ∅ (hX _) hE.cls (hE.attr _ (by decide)) (d:=.none) ∅) .noneC (a1d fun v e=>by cases e)) fun u0 z0=>?_
 refine a5e (l:=soL Dn .none p f) (ob:=.list (a0i (a9k nds))) z0 rm' (hX _) hE.cls (hE.attr _ (by decide)) ∅ (fun Q K=>?_) b1b (lf:=fun a=>soL Dn (.val (.ref a)) p f) (fun a=>∅) (fun R y2 hR j1=>?_) (le_of_ble_eq_true rfl)
 ·have hkv:(a3k nds).map (fun kv=>D.val kv.2)=nds.map (fun r=>D.val (.ref r.a)):=by simp[a3k]
  have hsl:∀r∈nds,∀z∈ndO r,z∈(dX,Ob.ns (soL Dn .none p f))::(X,a0r 167 dX)::(Dn,dcO prog w (a3k nds))::(nds.flatMap ndO++fol Fo):=fun r hr z hz=>.tail _ (.tail _ (.tail _ (zB (.inl (mem_flatMap.mpr ⟨r,hr,hz⟩)))))
  have cd':=z0.cd.less (M':=(W₁++M).filter (· != Dn)) (fun b hb=>(mem_filter.mp hb).1)
  refine c3e (α:=Nd) (xs:=nds) (g:=fun r=>.val (.ref r.a)) (ρ':=[]) rm' cd' (fun Q K=>c2p rm' cd' (.tail _ (.tail _ (.head _))) (by simp) hlo (.self ∅ (hX _) hE.cls (hE.attr _ (by decide)) (d:=.val (.ref Dn)) ∅) Q fun I s' old a b c it=>K I s' old a b c (hkv▸it)) (by rw[sizeLine_eq];omega) (Sc.of (by rfl) ∅ ∅ .nil) (fun r=>r.np == 0) (fun r=>dn r.k) (fun r=>[("i",.val (.ref r.a))]) (fun d _=>.name (.inl ∅)) (fun C cells r hr=>?_) (fun C cells r hr _=>?_) fun a y2 kp ha dv=>?_
  ·exact Ts.cmp (.slot (C:=70) (i:=1) (ds:=ndV r) (dd:=.int r.np) (.name (d:=.val (.ref r.a)) a0l) (hsl r hr _ (.head _)) (hsl r hr _ (.tail _ (.head _))) hE.d.ni hE.d.s1 rfl) .int (b8f (a:=r.np) (b:=0))
  ·exact .slot (C:=70) (i:=0) (ds:=ndV r) (dd:=dn r.k) (.name (d:=.val (.ref r.a)) a0l) (hsl r hr _ (.head _)) (hsl r hr _ (.tail _ (.head _))) hE.d.ni hE.d.s0 rfl
  ·have e:(nds.filter fun r=>r.np == 0).map (fun r=>dn r.k)=a0i (a9k nds):=by unfold a9k a0i;rw[map_map];rfl
   rw[e]at dv
   cases dv with
   | list e1 r1=>exact K a y2 kp ha ⟨_,(a0b e1).1,_,_,rfl,r1.flat b1b⟩
 ·have z1:=j1.permP (ol':=soQ prog w X dX Dn R p f nds (a9k nds)++fol Fo) (by
   unfold soQ soO
   rw[append_assoc]
   refine List.Perm.cons _ ?_
   have:=List.perm_append_comm_assoc [(R,Ob.list (a0i (a9k nds)))] ((X,a0r 167 dX)::(Dn,dcO prog w (a3k nds))::nds.flatMap ndO) (fol Fo)
   exact this.symm)
  have hfresh:=(z0.fresh_of hR).2.2.2
  have hWR:∀b∈R::W₁,s.heap.get? b=none∨b∈(soO prog w X dX Dn .none p f nds++fol Fo).map (·.1):=fun b hb=>by
   rcases a0o hb with rfl | hb
   ·exact .inl hfresh
   ·exact b4 b hb
  walk_at "c"
  rcases(⟨_,rfl⟩:∃j5,j5=R::W₁)with⟨j5,w8⟩
  rw[←w8]at z1 hWR
  have hnF:((fol Fo).map (·.1)).Nodup:=by
   have:=wd.lsn
   rw[map_append,nodup_append]at this
   exact this.2.1
  clear j1 z0 w0 t w8 b4 hW
  rcases hC.fc.obj with⟨oc,fdc,hoc,hdc⟩
  walk_at "u"
  walk_at "x"
  refine wpAny_Assign_Name (a2d (G:=G.at (soQ prog w X dX Dn R p f nds (a9k nds)++fol Fo)) rm' z1.cd (.name (d:=.val (.ref X)) ∅) (.tail _ (.head _)) (.head _) hE.cls hP.mFc ∅ hoc hdc fun l3 x5=>?_) ∅
  have u1:=z1.keeps x5
  obtain⟨oL,f1,wdF⟩:=u1.frameWd rfl hfs (fun q hq=>zB (.inr hq)) hnF
  have hn5:=u1.lsn
  rw[map_append,nodup_append]at hn5
  have hnf:∀q∈soQ prog w X dX Dn R p f nds (a9k nds),q.1∉frs (c7h L cd::fs):=fun q hq hm=>by
   have hm:q.1∈L::frs fs:=hm
   rcases zC hm with h | h
   ·exact(u1.ls q (zB (.inl hq))).f (h▸.head _)
   ·rw[←a2z hfs]at h
    exact hn5.2.2 q.1 (zN ⟨q,hq,rfl⟩) q.1 h rfl
  have hob:Obs (fun _=>none) (hideAll l3.heap (frs (c7h L cd::fs))) (soQ prog w X dX Dn R p f nds (a9k nds)):=fun q hq=>by
   obtain⟨_,_,o,eo,ro⟩:=u1.ls q (zB (.inl hq))
   exact⟨o,hideAll_get _ eo (hnf q hq),ro.flatA (all_eq_true.mp a4l q hq)⟩
  refine d1f (n:=n) hC rm' wdF f1 hfr' hob (hnf _ (.tail _ (.tail _ (.head _)))) hlo hk hlen hkn hc fun v y3 kx hv=>?_
  have z2:=u1.flew (W₁:=[]) (N:=[]) (F:=frs fs) (ol':=soQ prog w X dX Dn R p f nds (a9k nds)++fol Fo) kx (fun b hb=>by
   rw[←a2z hfs]at hb
   walk_at "c"
   rcases zM hb with⟨q,hq,e⟩
   rcases zM hq with⟨q',hq',rfl⟩
   walk_at "u"
   have e':q'.1=b:=e
   exact⟨q'.2,zB (.inr (e'▸hq))⟩) (fun b hb=>absurd hb not_mem_nil) (fun b hb=>absurd hb not_mem_nil) (fun b hb=>absurd hb not_mem_nil) (fun q hq=>.inl ⟨hq,not_mem_nil⟩) u1.lsn
  rw[List.nil_append]at z2
  clear z1 u1
  rcases hv with⟨hcf,rfl⟩ | ⟨hct,d,ds,dv,hdz⟩
  ·refine z2.put (.inl ∅) .none fun i5 j3 _=>?_
   refine a4u j3 rm' (Ts.val (.name (d:=.none) a0l) .none (by rfl)) fun i4 z3=>wpAny_execs_nil ?_
   exact K R i4 hcf (z3.toTrx wd hfs hWR a4l)
  ·cases dv with
   | list ev rv=>
    rename_i a vs i
    obtain⟨eva,evm⟩:=a0b ev
    have haf:a∉fms (c7h L cd) (cellsFrom (L+1) (a0a (a0q 10 3)).names []):=fun hm=>by
     have e:fms (c7h L cd) (cellsFrom (L+1) (a0a (a0q 10 3)).names [])=[L]:=by kernel_rfl
     rw[e]at hm
     exact evm (zS hm▸.head _)
    refine z2.put (.inl ∅) (.val (.ref a)) fun i5 j3 hold=>?_
    have pE:=hold a _ haf eva
    obtain⟨v,hv,dv⟩:=j3.cd.vars "cycle" _ a0l
    cases dv
    walk_at "x"
    refine wpAny_If (wpAny_isTrue_value (a1f j3.kind hv (wpAny_truthy_list ⟨_,pE,rfl,i,rfl⟩ (by rw[size_toArray,rv.length,length_cons];omega) ?_)) (by rfl))
    have hem:(!vs.toArray.isEmpty)=true:=by rw[List.isEmpty_toArray];cases rv;rfl
    rw[hem]
    show wpAny _ _ _ _ _ _
    have z3:=j3.keeps (Kp.tok i5 (i5.toks+1+1))
    obtain⟨nm,q,NN,bs,hdct,sn,sub,ab,col,dd,k0,k1,k2,k3,k5,mN,hcl,hni,hNs⟩:=hP.cyc
    walk_at "x"
    refine wpAny_Raise_call_sub (C:=85) (nm:=nm) (q:=q) (N:=NN) (bs:=bs) (hdct:=hdct) (sn:=sn) (sub:=sub) (ab:=ab) (col:=col) (dd:=dd) (k0:=k0) (k1:=k1) (k2:=k2) (k3:=k3) (k5:=k5) PySem.F.excBase_ValueError (mN:=mN) rm'.hd ?_ hni ?_
    ·kernel_rfl
    ·refine a1i z3.kind z3.glob z3.top ∅ hP.gCyc ⟨rfl,a0p (G:=G.at (soQ prog w X dX Dn R p f nds (a9k nds)++fol Fo)) (.cons .jstr (by rfl) (.one (.name a0l))) (by simp) rm' z3.cd fun jD j6 pB dvs=>?_⟩
     have w4:=z3.keeps pB
     refine⟨rfl,by show jD.length≤_;rw[dvs.length,sizeLine_eq];exact le_of_ble_eq_true rfl,w4.top.objs _ _ hcl,hNs _ w4.top.objs,fun h' e mk=>?_⟩
     obtain⟨oL',g1,g2,_⟩:=w4.stack hfs (fun q hq=>zB (.inr hq)) rfl
     refine Rsd.made (fl:=G.gen) (W:=[L]) (V:=[]) (s:=j6) (g1.stk hfr' g2) rfl mk (fun b o hb eb=>⟨fun e=>hb (e▸.head _),eb⟩) ⟨Gk.refl _ _,rfl,rfl⟩ (fun b hb=>absurd hb not_mem_nil) fun s' x=>KE R L j6 e s' hct hL (fun hm=>?_) (w4.toTrx wd hfs hWR a4l) x
     obtain⟨z,hz,e2⟩:=zM hm
     have e2':z.1=L:=e2
     exact(w4.ls z (zB (.inl hz))).f (e2'▸.head _)
end
end
section
structure b6m (K:Frag) (C:Addr) (name:Str) (f:Addr):Prop where
 m:a1m K C name f
 hd:hasDictIn K C=true
 g:specialIn K (.ref f) "__get__"=some (some (.builtin "function.__get__"))
 tk:takesIn K (.ref f)=some false
 cp:copiedNames.contains name=false
 fn:fnIn K f=true
section
variable {n:Nat} {s:Shared} {o:Expr} {name:Str} {apos:Pos} {x f:Addr} {l:List (Str×D)}
theorem b1d {args:List Expr} (rm:Rm A n) (c:Cd G env M ρ s) (hb:Ev prog w G n env ρ o (.val (.ref x))) (hx:(x,Ob.raw (· =instObj C dx))∈G.ob) (hd:(dx,Ob.ns l)∈G.ob) (ck:a3f G.K C) (bo:b6m G.K C name f) (hl:l.lookup name=none)
  (hst:(backTo pos (starEach args env)).any (·.1)=true)
  (ha:∀(m:Addr) (s':Shared),Kp s s'→wpAny (model prog w) A (evalArgs (.ref m) true (backTo pos (starEach args env)) []) (fun a g0=>Kp s' g0∧a.kw=[]∧codeAny (model prog w) A (.call (.ref f) ⟨.ref x::a.pos,[]⟩) (fun r s'=>match r with | .ok (.ret v)=>Q v s' | .ok _=>False | .error e=>E e s') g0) E s')
  (he:eval (.Call (.Attribute o name apos) args [] pos) env=(do
   let ov ←eval o env
   standAt apos.atName
   let(f,first) ←holding [ov] (do pure (←getAttr ov name true,[]))
   callWith pos f first (backTo pos (starEach args env)) []):=by rfl):wpAny (model prog w) A (eval (.Call (.Attribute o name apos) args [] pos) env) Q E s:=by
 rw[he]
 refine wpAny_bind (hb A M s _ E rm c fun ov g0 l0 dov=>wpAny_bind (wpAny_standAt (wpAny_bind (wpAny_holding (wpAny_bind ?_)))))
 cases dov
 have v5:=c.keeps l0
 obtain⟨oX,eo,ho⟩:=v5.obs _ hx
 have ho':oX=instObj C dx:=ho
 subst ho'
 obtain⟨od,ed,es,ep,rfl,r⟩:=v5.obs _ hd
 refine get_bind v5.top.inK (a3r eo ed) ck.ga (findObj_fn bo.hd bo.m.find bo.g bo.tk bo.cp ((r.look (ep:=ep)).2 hl)) ck.gt (wpAny_call (fn_get (s:={g0 with toks:=g0.toks+1}) v5.top.inK bo.m.fn ?_))
 show wpAny _ _ (handedOut _) _ _ _
 rw[handedOut_of rfl]
 refine wpAny_pure (wpAny_pure ?_)
 have y1:Kp s {g0 with heap:=g0.heap.push (methodObj (.ref f) (.ref x)),toks:=g0.toks+1}:=l0.trans ((Kp.push g0 (methodObj (.ref f) (.ref x))).trans (Kp.tok _ (g0.toks+1)))
 have em:(g0.heap.push (methodObj (.ref f) (.ref x))).get? g0.heap.objs.size=some (methodObj (.ref f) (.ref x)):=get?_push_size _ rfl
 refine ks_call (P:=MethP G.K g0.heap.objs.size f (.ref x)) hst (keeps_M bo.fn) (wpAny_mono (ha _ _ y1) (fun a u0 h=>?_) fun _ _ h=>h)
 obtain⟨a4,hkw,h⟩:=h
 have aE:=a4.hk _ _ em
 refine⟨⟨aE,(c.keeps (y1.trans a4)).top.inK⟩,?_⟩
 rw[hkw]
 exact wpAny_call (method_call aE h)
end
end
section
theorem DRs.intsN:∀{vs:List Value},DRs P vs (a0i xs)→IntsAre vs (xs.map fun x:Nat=>(x:Int)):=by
 induction xs with
 | nil=>intro vs h;cases h;exact .nil
 | cons x xs ih=>
  intro vs h
  refine DRs.e h fun v vs' _ e a r=>?_
  rw[e]
  refine DR.e a fun t e=>?_
  rw[e]
  exact .cons _ t (ih r)
noncomputable def c6z (x:Nat):List Nat→List Nat
 | []=>[x]
 | y::ys=>if x≤y then x::y::ys else y::c6z x ys
noncomputable def a6z (xs:List Nat):List Nat:=xs.foldr c6z []
theorem c4f {x y:Nat} {ys:List Nat}:c6z x (y::ys)=if x≤y then x::y::ys else y::c6z x ys:=rfl
theorem b1k (x:Nat):∀ys,(c6z x ys).Perm (x::ys):=by
 intro v'
 induction v' with
 | nil=>
  exact .refl _
 | cons y ys ih'=>
  rw[c4f]
  split
  ·exact .refl _
  ·exact((ih').cons y).trans (.swap x y ys)
theorem a5q:∀xs,(a6z xs).Perm xs:=by
 intro v'
 induction v' with
 | nil=>
  exact .refl _
 | cons x xs ih'=>
  exact(b1k x _).trans ((ih').cons x)
theorem b2v (x:Nat):∀{ys:List Nat},ys.Pairwise (·≤·)→(c6z x ys).Pairwise (·≤·):=by
 intro v'
 induction v' with
 | nil=>
  intro _
  simp[c6z]
 | cons y ys ih'=>
  intro h
  rw[c4f]
  rw[pairwise_cons]at h
  split
  ·rename_i hxy
   rw[pairwise_cons]
   refine⟨fun z hz=>?_,by rw[pairwise_cons];exact h⟩
   rcases a0o hz with rfl | hz
   ·exact hxy
   ·exact Nat.le_trans hxy (h.1 z hz)
  ·rename_i hxy
   rw[pairwise_cons]
   refine⟨fun z hz=>?_,ih' h.2⟩
   rcases a0o ((b1k x ys).mem_iff.mp hz)with rfl | hz
   ·omega
   ·exact h.1 z hz
theorem a6i:∀xs,(a6z xs).Pairwise (·≤·):=by
 intro v'
 induction v' with
 | nil=>
  simp[a6z]
 | cons x xs ih'=>
  exact b2v x (ih')
theorem a9h:∀{a b:List Int},a.Perm b→a.Pairwise (·≤·)→b.Pairwise (·≤·)→a=b:=by
 intro v'
 induction v' with
 | nil=>
  intro b p _ _
  simpa using p.length_eq.symm
 | cons x a ih'=>
  intro b p ha hb
  cases b with
  | nil=>simpa using p.length_eq
  | cons y b=>
   rw[pairwise_cons]at ha hb
   have hxy:x=y:=by
    have h1:x∈y::b:=p.mem_iff.mp (.head _)
    have h2:y∈x::a:=p.mem_iff.mpr (.head _)
    rcases zC h1 with h | h
    ·exact h
    ·rcases zC h2 with h' | h'
     ·exact h'.symm
     ·have:=ha.1 y h';have:=hb.1 x h;omega
   subst hxy
   rw[ih' (p.cons_inv) ha.2 hb.2]
section
variable {n:Nat} {s:Shared}
theorem b7d {Q:List Value→Shared→Prop} (dv:DR (vis s.heap M) v (.list ds)) (hz:ds.length≤1000) (K:∀vs s',Kp s s'→DRs (vis s'.heap M) vs ds→Q vs s'):StarOf (model prog w) A E v Q s:=by
 cases dv with
 | list e r=>
  rename_i a vs i
  have e':=(a0b e).1
  have hT:s.TypeIs (.ref a) "list":=⟨_,e',rfl⟩
  have z:wpAny (model prog w) A (collect (.ref a)) Q E s:=wpAny_collect_seq a (.inl rfl) e' rfl rfl (fun h' hk=>by
   have kp:Kp s {s with heap:=h'}:=Kp.of (t:=s.toks) hk
   exact K vs _ kp (r.mono kp.hk.vis)) (by rw[size_toArray,r.length,sizeLine_eq];omega)
  unfold StarOf notIterableAtAll
  exact wpAny_bind (wpAny_specialOf hT PySem.F.slot_list_iter.lookup (wpAny_pure ⟨rfl,z⟩))
theorem b5c {Q:List Value→Shared→Prop} (dv:DR (vis s.heap M) v (.tuple ds)) (hz:ds.length≤1000) (K:∀vs s',Kp s s'→DRs (vis s'.heap M) vs ds→Q vs s'):StarOf (model prog w) A E v Q s:=by
 cases dv with
 | tuple e r=>
  rename_i a vs i
  have e':=(a0b e).1
  have hT:s.TypeIs (.ref a) "tuple":=⟨_,e',rfl⟩
  have z:wpAny (model prog w) A (collect (.ref a)) Q E s:=wpAny_collect_seq a (.inr rfl) e' rfl rfl (fun h' hk=>by
   have kp:Kp s {s with heap:=h'}:=Kp.of (t:=s.toks) hk
   exact K vs _ kp (r.mono kp.hk.vis)) (by rw[size_toArray,r.length,sizeLine_eq];omega)
  unfold StarOf notIterableAtAll
  exact wpAny_bind (wpAny_specialOf hT PySem.F.slot_tuple_iter.lookup (wpAny_pure ⟨rfl,z⟩))
theorem b5k (h64:xs.length < 64):Op1 prog w G n (fun a=>call (.builtin "sorted") [a]) (.tuple (a0i xs)) (.list (a0i (a6z xs))):=fun A M s v Q E _ _ hm dv K=>by
 cases dv with
 | tuple e r=>
  rename_i a vs i
  have e':=(a0b e).1
  have hl:vs.length=xs.length:=by rw[r.length,a0i,length_map]
  refine Calls.call_function_entry kind_sorted plain_sorted entry_sorted (args_sorted1 _) ?_
  unfold Builtin.«sorted»
  refine wpAny_bind (m:=checkCount "sorted" 1 1 _) (wpAny_pure ?_)
  refine wpAny_bind (wpAny_collect_seq a (.inr rfl) e' rfl rfl (fun h' hk=>?_) (by rw[size_toArray,hl,sizeLine_eq];omega))
  have kp:Kp s {s with heap:=h'}:=Kp.of (t:=s.toks) hk
  refine wpAny_bind (wpAny_newList ?_)
  have hoL:(h'.push (seqObj "list" vs.toArray 0)).get? h'.objs.size=some (seqObj "list" vs.toArray 0):=get?_push_size _ rfl
  show wpAny _ _ _ _ _ {s with heap:=h'.push (seqObj "list" vs.toArray 0)}
  refine wpAny_bind (wpAny_holding (wpAny_call_entry slot_list_sort ⟨_,hoL,rfl⟩ entry_list_sort (list_sort_tree hoL r.intsN (by omega) fun out ns' a1 a2 a3=>⟨_,rfl,?_⟩) (args_list_sort _)))
  refine wpAny_pure ⟨_,rfl,?_⟩
  have hR:h'.get? h'.objs.size=none:=a0c (Nat.le_refl _)
  have hkeep:Hk h' (sortedHeap (h'.push (seqObj "list" vs.toArray 0)) h'.objs.size vs out):=fun b o eb=>by
   have hlt:=lt_size eb
   rw[sortedHeap_old (Nat.ne_of_lt hlt) (by rw[size_push'];exact Nat.lt_succ_of_lt hlt)]
   exact get?_push_of_some _ eb
  have kp2:Kp s {s with heap:=sortedHeap (h'.push (seqObj "list" vs.toArray 0)) h'.objs.size vs out}:=kp.trans (Kp.of (s:={s with heap:=h'}) (t:=s.toks) hkeep)
  obtain⟨ee,he⟩:=sortedHeap_at (out:=out) hoL
  have hns:ns'=(a6z xs).map fun x:Nat=>(x:Int):=a9h (a2.trans ((a5q xs).map _).symm) a3 (by
   rw[List.pairwise_map]
   exact(a6i xs).imp fun h=>by omega)
  have dvs:∀(ws:List Value) (zs:List Nat),IntsAre ws (zs.map fun x:Nat=>(x:Int))→DRs (vis (sortedHeap (h'.push (seqObj "list" vs.toArray 0)) h'.objs.size vs out) M) ws (a0i zs):=by
   intro ws
   induction ws with
   | nil=>intro zs h;cases zs with | nil=>exact .nil | cons _ _=>cases h
   | cons v ws ih=>
    intro zs h
    cases zs with
    | nil=>cases h
    | cons z zs=>cases h with | cons _ t h=>exact .cons (.int _ t) (ih zs h)
  refine K _ _ kp2 (.list (vs:=out.toList) (n:=ee) (a0v he fun hb=>?_) (dvs _ _ (hns▸a1)))
  obtain⟨o,eo⟩:=hm _ hb
  have:=kp.hk _ _ eo
  have h2:h'.get? h'.objs.size=some o:=this
  exact nsn hR h2
end
end
section
section
variable {n:Nat} {s:Shared}
theorem b1o {f:Value} {e:Expr} {Q:Args→Shared→Prop} (h:wpAny (model prog w) A (spliced (backTo pos (starEach (e::es) env))) (fun vs s'=>Q ⟨vs,[]⟩ s') E s) (he:starEach (e::es) env=(false,eval e env)::starEach es env:=by rfl):wpAny (model prog w) A (evalArgs f true (backTo pos (starEach (e::es) env)) []) Q E s:=by
 rw[he]at h ⊢
 exact evalArgs_plain h
theorem c3t (hA:GA G) (bo:b6m G.K 167 "add" 117) {Q:Flow→Shared→Prop} {p f k:Nat} {ps:List Nat} {nds:List Nd} {e:Expr} {kp cp:Pos} {rest:List Stmt} (t:Stt G H env own W i0 ρ (soO prog w X dX Dn .none p f nds++r) j0 s) (rm:Rm A (n+5)) (h1:ρ.lookup ("sorter":Str)=some (.val (.ref X))) (h2:ρ.lookup ("k":Str)=some (dn k))
  (h:Ev prog w (G.at (soO prog w X dX Dn .none p f nds++r)) (n+5) env ρ e (.list (a0i ps))) (hk:(nds.map (·.k)).Nodup) (hlen:nds.length+ps.length≤90) (hsc:a5s (a1q nds) 800) (hlo:(Dn == sysModules)=false)
  (K:∀nds' N s',(∀b∈N,s.heap.get? b=none)→a1q nds'=b9y (a1q nds) k ps→(nds'.map (·.k)).Nodup→nds'.length≤nds.length+ps.length+1→Stt G H env own (N++W) i0 ρ (soO prog w X dX Dn .none p f nds'++r) j0 s'→wpAny (model prog w) A (execs rest env) Q E s')
  (hi:interactive env=false:=by kernel_rfl) (hs:swapsWith (.Call (.Attribute (.Name "sorter" xp) "add" ap) [.Name "k" kp,.Starred e sp] [] cp) none pos.line env=pure false:=by kernel_rfl)
  (he:eval (.Call (.Attribute (.Name "sorter" xp) "add" ap) [.Name "k" kp,.Starred e sp] [] cp) env=(do
   let ov ←eval (.Name "sorter" xp) env
   standAt ap.atName
   let(f,first) ←holding [ov] (do pure (←getAttr ov "add" true,[]))
   callWith cp f first (backTo cp (starEach [.Name "k" kp,.Starred e sp] env)) []):=by rfl):
  wpAny (model prog w) A (execs (.Expr (.Call (.Attribute (.Name "sorter" xp) "add" ap) [.Name "k" kp,.Starred e sp] [] cp) pos::rest) env) Q E s:=by
 have hE:=hA.e
 walk_at "x"
 refine wpAny_Expr (b1d (G:=G.at (soO prog w X dX Dn .none p f nds++r)) (C:=167) (x:=X) (dx:=dX) (l:=soL Dn .none p f) rm t.cd (.name h1) (.tail _ (.head _)) (.head _) hE.cls bo ∅ (by rfl) (fun m g0 l0=>?_) he) hi hs
 have w0:=t.keeps l0
 have e1:starEach [.Name "k" kp,.Starred e sp] env=(false,eval (.Name "k" kp) env)::starEach [.Starred e sp] env:=rfl
 have e2:starEach [.Starred e sp] env=(true,eval e env)::starEach [] env:=rfl
 refine b1o ?_ e1
 refine spliced_more ((Ev.name h2:Ev prog w (G.at (soO prog w X dX Dn .none p f nds++r)) (n+5) env ρ (.Name "k" kp) _) A _ g0 _ E rm w0.cd fun v u0 y1 dv=>?_) e1
 cases dv with
 | int _ tk=>
 have z0:=w0.keeps y1
 refine items_star (h A _ u0 _ E rm z0.cd fun u y2 a4 du=>b7d du (by simp[a0i];omega) fun vs l3 x5 dvs=>spliced_none ?_) e2
 have z1:=(z0.keeps a4).keeps x5
 refine⟨(y1.trans a4).trans x5,rfl,?_⟩
 rw[append_nil]
 have wd:=z1.wd.pick (ol':=soO prog w X dX Dn .none p f nds) (fun q hq=>zB (.inl hq)) (by
  have:=z1.lsn
  rw[map_append,nodup_append]at this
  exact this.1)
 refine c9z (n:=n) hA rm hk hlen hsc hlo wd dvs fun nds' y3 ha hn hl tr=>?_
 obtain⟨N,hN,u1⟩:=z1.trn tr
 refine K nds' N y3 (fun b hb=>?_) ha hn hl u1
 cases e':s.heap.get? b with
 | none=>rfl
 | some o=>exact nsn (hN b hb) (x5.hk _ _ (a4.hk _ _ (y1.hk _ _ (l0.hk _ _ e'))))
theorem b0c {f:Value} {e:Expr} {Q:Args→Shared→Prop} (h:wpAny (model prog w) A (eval e env) (fun v g0=>StarOf (model prog w) A E v (fun vs u0=>Q ⟨vs,[]⟩ u0) g0) E s) (he:starEach [.Starred e sp] env=[(true,eval e env)]:=by rfl):wpAny (model prog w) A (evalArgs f true (backTo pos (starEach [.Starred e sp] env)) []) Q E s:=by
 rw[he]
 exact ks_lone h
theorem c5d (hF:GF G) (bo:b6m G.K 167 "done" 150) {Q:Flow→Shared→Prop} {R:Addr} {p f:Nat} {nds:List Nd} {e:Expr} {cp:Pos} {rest:List Stmt} (t:Stt G H env own W i0 ρ (soQ prog w X dX Dn R p f nds rdl++r) j0 s) (rm:Rm A (n+1)) (h1:ρ.lookup ("sorter":Str)=some (.val (.ref X)))
  (h:Ev prog w (G.at (soQ prog w X dX Dn R p f nds rdl++r)) (n+1) env ρ e (.tuple (a0i xs))) (hk:(nds.map (·.k)).Nodup) (hok:okD (a1q nds,rdl) xs) (hz:xs.length≤1000) (hlo:(Dn == sysModules)=false)
  (K:∀nds' rdl' N s',(∀b∈N,s.heap.get? b=none)→(a1q nds',rdl')=xs.foldl a0k (a1q nds,rdl)→nds'.map a3b=nds.map a3b→Stt G H env own (N++W) i0 ρ (soQ prog w X dX Dn R p (f+xs.length) nds' rdl'++r) j0 s'→wpAny (model prog w) A (execs rest env) Q E s')
  (hi:interactive env=false:=by kernel_rfl) (hs:swapsWith (.Call (.Attribute (.Name "sorter" xp) "done" ap) [.Starred e sp] [] cp) none pos.line env=pure false:=by kernel_rfl)
  (he:eval (.Call (.Attribute (.Name "sorter" xp) "done" ap) [.Starred e sp] [] cp) env=(do
   let ov ←eval (.Name "sorter" xp) env
   standAt ap.atName
   let(f,first) ←holding [ov] (do pure (←getAttr ov "done" true,[]))
   callWith cp f first (backTo cp (starEach [.Starred e sp] env)) []):=by rfl):
  wpAny (model prog w) A (execs (.Expr (.Call (.Attribute (.Name "sorter" xp) "done" ap) [.Starred e sp] [] cp) pos::rest) env) Q E s:=by
 have hE:=hF.a.e
 walk_at "x"
 refine wpAny_Expr (b1d (G:=G.at (soQ prog w X dX Dn R p f nds rdl++r)) (C:=167) (x:=X) (dx:=dX) (l:=soL Dn (.val (.ref R)) p f) rm t.cd (.name h1) (.tail _ (.head _)) (.head _) hE.cls bo ∅ (by rfl) (fun m g0 l0=>?_) he) hi hs
 have w0:=t.keeps l0
 refine b0c (h A _ g0 _ E rm w0.cd fun u y2 a4 du=>b5c du (by simp[a0i];omega) fun vs l3 x5 dvs=>?_)
 have z1:=(w0.keeps a4).keeps x5
 refine⟨a4.trans x5,rfl,?_⟩
 have wd:=z1.wd.pick (ol':=soQ prog w X dX Dn R p f nds rdl) (fun q hq=>zB (.inl hq)) (by
  have:=z1.lsn
  rw[map_append,nodup_append]at this
  exact this.1)
 refine c7j (n:=n) hF rm hk hok hz hlo wd dvs fun nds' rdl' y3 ha hc tr=>?_
 obtain⟨N,hN,u1⟩:=z1.trn tr
 refine K nds' rdl' N y3 (fun b hb=>?_) ha hc u1
 cases e':s.heap.get? b with
 | none=>rfl
 | some o=>exact nsn (hN b hb) (x5.hk _ _ (a4.hk _ _ (l0.hk _ _ e')))
end
end
section
section
variable {n:Nat} {s y3:Shared}
theorem b5v (hP:GPr G) {e:Addr} {t:Expr} {pC:Stmt} {suite:List Stmt} {rest:List ExceptHandler} {Q:Flow→Shared→Prop}
  (h:wpAny (model prog w) (A.mark (some (.ref e))) (eval t env) (fun c g0=>c= .ref 85∧TF G g0.heap∧(∃oe,g0.heap.get? e=some oe∧oe.cls= .ref 85)∧
   wpAny (model prog w) (A.mark (some (.ref e))) (setFlight (.ref e) none) (fun _ u0=>wpAny (model prog w) (A.mark (some (.ref e))) (execs (pC::suite) env) Q (notedBy (model prog w) (A.mark (some (.ref e))) env (cameBackBy (model prog w) A env E)) u0) (notedBy (model prog w) (A.mark (some (.ref e))) env (cameBackBy (model prog w) A env E)) g0) (notedBy (model prog w) (A.mark (some (.ref e))) env (cameBackBy (model prog w) A env E)) s):
  wpAny (model prog w) A (handleBy (.ref e) env (.ExceptHandler (some t) none (pC::suite) pos::rest)) Q E s:=by
 refine wpAny_handleBy_cons (codeAny_handlers_test (wpAny_mono h (fun c g0 j2=>?_) fun _ _ y=>y)) (by intro q;cases q)
 walk_at "c"
 rcases j2 with⟨rfl,T,⟨oe,he,hcls⟩,hk⟩
 rcases hP.cyc with⟨nm,q,NN,bs,hdct,sn,sub,ab,col,dd,k0,k1,k2,k3,k5,mN,hcl,hni,hNs⟩
 have hC:=T.objs _ _ hcl
 rcases g0 with⟨hh,g,d,tk,os⟩
 walk_at "u"
 exact wpAny_excMatches_sub_self hC he hcls (by rfl) (codeAny_handlers_suite hk)
theorem d1d (h:a3y fs Fo):∀p∈Fo,∀vs,p.2.data≠.fields vs:=by
 induction h with
 | nil=>intro p hp;cases hp
 | cons h1 h2 h3 _ ih=>
  intro p hp
  rcases a0o hp with rfl | hp
  ·exact h3
  ·exact ih p hp
theorem Stt.cyc {e:Addr} {cls:Value} (t:Stt G H env own W i0 ρ (ol++(fol Fo++r)) j0 s) (hf:env.frame=some env.locals) (hfs:a3y fs Fo) (tr:Trx G.gen (frs (env::fs)) ol ol' s y3) (x:Rsd G.gen [L] [] (env::fs) y3 s' e cls) (hL:s.heap.get? L=none) (hne:L∉ol'.map (·.1)):
  ∃N,(∀b∈N,s.heap.get? b=none)∧Stt G H env own (N++W) i0 ρ (ol'++(fol Fo++r)) j0 s':=by
 have hFo:∀p∈fol Fo,p∈ol++(fol Fo++r):=fun p hp=>zB (.inr (zB (.inl hp)))
 obtain⟨oL,f1,f2,_⟩:=t.stack hfs hFo hf
 have hn:=t.lsn
 rw[map_append,nodup_append]at hn
 have hfr:∀b∈frs (env::fs),∃o,s.heap.get? b=some o∧∀vs,o.data≠.fields vs:=fun b hb=>by
  rw[f1.frs]at hb
  obtain⟨p,hp,e'⟩:=zM hb
  have e'':p.1=b:=e'
  subst e''
  obtain⟨o,eo,so⟩:=f2 p hp
  exact⟨o,eo,fun vs=>by rw[so.data];exact d1d f1 p hp vs⟩
 have hol:∀b∈ol.map (·.1),b∉frs (env::fs):=fun b hb hm=>by
  rw[a3s hf]at hm
  rcases zC hm with h | h
  ·obtain⟨p,hp,e'⟩:=zM hb
   have e'':p.1=b:=e'
   exact(t.ls p (zB (.inl hp))).f (by rw[e'',h];exact .head _)
  ·rw[←a2z hfs]at h
   refine hn.2.2 b hb b ?_ rfl
   rw[map_append]
   exact zB (.inl h)
 have kx:Kx G.gen [L] (frs (env::fs)) y3 s':=x.kx fun b hb=>by
  obtain⟨o,eo,hd⟩:=hfr b hb
  refine⟨fun hm=>(by rw[zS hm,hL]at eo;cases eo),fun o' eo'=>?_⟩
  obtain⟨o'',e2,so⟩:=tr.kx.up b hb o eo
  rw[e2]at eo';cases eo'
  intro vs
  rw[so.data];exact hd vs
 refine t.trx hf hfs (tr.behind kx hL hne (fun hm=>?_) (fun p hp hm=>?_) hol)
 ·obtain⟨p,hp,e'⟩:=zM hm
  have e'':p.1=L:=e'
  obtain⟨_,_,o,eo,_⟩:=t.ls p (zB (.inl hp))
  rw[e'',hL]at eo;cases eo
 ·rcases tr.new p hp with h | h
  ·exact hol _ h hm
  ·obtain⟨o,eo,_⟩:=hfr _ hm
   exact nsn h eo
structure GRn (G:a1k):Prop where
 p:GPr G
 bAdd:b6m G.K 167 "add" 117
 bDone:b6m G.K 167 "done" 150
 mPrep:a1m G.K 167 "prepare" 122
 gTS:G.glb "TopologicalSorter"=some (some (.ref 167))
 gSorted:G.glb "sorted"=some none
 gRange:G.glb "range"=some none
 run:FnS G 908 "_law_run" (stm 40) .none
inductive c0e:Al→List Nat→List (List Nat)→Prop
 | stop {al:Al}:c0e al [] []
 | turn {al al':Al} {rdl rdl':List Nat} {rs:List (List Nat)}:rdl≠[]→rdl.length≤60→(∀x∈rdl,x∈al.map (·.1))→okD (rdl.foldl (fun al x=>setA al x (-1)) al,[]) rdl→rdl.foldl a0k (rdl.foldl (fun al x=>setA al x (-1)) al,[])=(al',rdl')→c0e al' rdl' rs→c0e al rdl (a6z rdl::rs)
noncomputable def c1e (al:Al):List Nat:=(al.filter fun e=>e.2.1 == 0).map (·.1)
theorem c1f (nds:List Nd):a9k nds=c1e (a1q nds):=by
 unfold a9k c1e a1q
 rw[List.filter_map,map_map];rfl
noncomputable def b1x (al:Al) (k:Nat) (ns:List Nat):Al:=if ns.length > 1 then b9y (b9y al k ns) k ns.reverse else b9y al k ns
noncomputable def a0t (jobs:List Job):Al:=(jobs.zipIdx).foldl (fun al p=>b1x al p.2 p.1.ns) []
end
end
section
noncomputable abbrev c0d (L:Addr) (cd:Value):Env:=fnv "_law_run" (a0a (stm 40)) L 908 cd
noncomputable abbrev d1q (L:Addr):List (Str×Addr):=cellsFrom (L+1) (a0a (stm 40)).names []
theorem d2n:∀vs:List Value,vs.length≤5→slicePick vs.toArray none none (some (-1))=vs.reverse.toArray
 | [],_=>by kernel_rfl
 | [_],_=>by kernel_rfl
 | [_,_],_=>by kernel_rfl
 | [_,_,_],_=>by kernel_rfl
 | [_,_,_,_],_=>by kernel_rfl
 | [_,_,_,_,_],_=>by kernel_rfl
 | _::_::_::_::_::_::_,h=>by simp at h
theorem c1l (h:ds.length≤5):∀vs:List Value,vs.length=ds.length→∀P,DRs P vs ds→∃ws:List Value,slicePick vs.toArray none none (some (-1))=ws.toArray∧DRs P ws ds.reverse:=
 fun vs e P r=>⟨vs.reverse,d2n vs (by omega),r.rev⟩
theorem c2c {l:List Nat}:(a0i l).reverse=a0i l.reverse:=by unfold a0i;rw[List.map_reverse]
section
variable {n:Nat} {s:Shared}
theorem Stt.eqR (t:Stt G H env own W i0 ρ ol j0 s) (e:ρ=ρ'):Stt G H env own W i0 ρ' ol j0 s:=e▸t
theorem Stt.trn0 (t:Stt G H env own W i0 ρ (ol++r) j0 s) (x:Trn G.gen ol ol' s s') (hs:∀p∈ol',p.1∈ol.map (·.1)):Stt G H env own W i0 ρ (ol'++r) j0 s':=by
 have hn:=t.lsn
 rw[map_append,nodup_append]at hn
 have hlm:∀b∈ol.map (·.1),b∈W∧b∉fms env own:=fun b hb=>by
  walk_at "c"
  rcases zM hb with⟨p,hp,e⟩
  have e':p.1=b:=e
  rcases t.ls p (zB (.inl hp))with⟨a,b,_⟩
  walk_at "u"
  exact e'▸⟨a,b⟩
 refine t.set x.kw (fun b hb=>(hlm b hb).1) (fun b hb=>(hlm b hb).2) x.st (fun p hp=>?_) ?_
 ·rcases zA hp with hp | hp
  ·obtain⟨f,o,eo,ro⟩:=x.td p hp
   exact .inr ⟨(hlm _ (hs p hp)).1,(hlm _ (hs p hp)).2,o,eo,ro.flatA f⟩
  ·exact .inl ⟨zB (.inr hp),fun hm=>hn.2.2 p.1 hm p.1 (zN ⟨p,hp,rfl⟩) rfl⟩
 ·rw[map_append,nodup_append]
  refine⟨x.nd,hn.2.1,fun a ha b hb e=>?_⟩
  obtain⟨p,hp,e'⟩:=zM ha
  have e'':p.1=a:=e'
  exact hn.2.2 a (e''▸hs p hp) b hb e
inductive d2a (prog:Program) (w:World) (G:a1k) (H:Heap) (L:Addr) (cd:Value) (X dX Dn R aR:Addr) (c:Bool) (Fo:List (Addr×Obj)) (M:List Addr) (nds:List Nd) (rs:List (List Nat)) (s:Shared) (m:Nat) (s':Shared):Prop
 | mk (W:List Addr) (nds':List Nd) (p:Nat) (rdl:List Nat) (done rest:List (List Nat)) (ρ:List (Str×D)):m=rest.length→rs=done++rest→c0e (a1q nds') rdl rest→nds'.map a3b=nds.map a3b→(ρ.lookup ("sorter":Str)=some (.val (.ref X))∧ρ.lookup ("ring":Str)=some (.bool c)∧ρ.lookup ("rounds":Str)=some (.val (.ref aR)))→(∀b∈W,s.heap.get? b=none∨b∈(fol Fo).map (·.1))→Stt G H (c0d L cd) (d1q L) W M ρ (soQ prog w X dX Dn R p p nds' rdl++(aR,.list (done.map a1l))::fol Fo) s s'→d2a prog w G H L cd X dX Dn R aR c Fo M nds rs s m s'
theorem c8l (hR:GRn G) {jobs:List Job} {c:Bool} {rs:List (List Nat)} (rm:Rm A (n+7)) (wd:Wd G H M (fol Fo) s) (hfs:a3y fs Fo) (hfr:A.frames=some fs) (dv:DR (vis s.heap M) v (.list (jobs.map a2n))) (hjl:jobs.length≤5) (hns:∀j∈jobs,j.ns.length≤5)
  (hkn:∀e∈a0t jobs,∀y∈e.2.2,y∈(a0t jobs).map (·.1)) (hc:a2u (a1p (a0t jobs)) N ((a0t jobs).map (·.1)) []=some c) (hr:c0e (a0t jobs) (c1e (a0t jobs)) rs) (hrl:rs.length≤1000)
  (K:∀u s',Kx G.gen [] (frs fs) s s'→DR (vis s'.heap M) u (.tuple [.bool c,.list (rs.map a1l)])→Q u s'):wpAny (model prog w) A (call (.ref 908) [v]) Q E s:=by
 have hP:=hR.p
 have hC:=hP.c
 have hF:=hC.f
 have hE:=hF.a.e
 refine a0u (n:=n+6) (args:=⟨[_],[]⟩) (ρ:=[("jobs",.list (jobs.map a2n))]) (binds:=[("jobs",_)]) hR.run rm wd.top wd.mem (fun name doc pm an cdv ct=>BindsTo.of_eq rfl) rfl (.cons dv .nil) (a2h ∅) (a0d ∅) (by decide +kernel) (a0d ∅) ?_ ∅ ∅ ∅
 intro L cd g0 hL t hW
 walk_at "q"
 obtain⟨W₁,w0,b4⟩:=t.openW wd hW
 have rm':=rm.deeper (c0d L cd)
 have hfr':(A.deeper (c0d L cd)).frames=some (c0d L cd::fs):=Around.frames_deeper hfr
 walk_at "x"
 refine wpAny_Assign_Name (wpAny_Call_NameR (a1i w0.kind w0.glob w0.top ∅ hR.gTS (callWith_K0 w0.top.inK hE.keep ?_))) ∅
 refine c8f (n:=n+3) hE rm' (w0.wd.pick (ol':=[]) (fun p hp=>absurd hp not_mem_nil) nodup_nil) fun X dX Dn u0 tr=>?_
 obtain⟨g9,aB,z0⟩:=Stt.trn (ol:=[]) (r:=fol Fo) w0 tr
 have hDn:g0.heap.get? Dn=none:=(tr.new (Dn,dcO prog w []) (.tail _ (.tail _ (.head _)))).resolve_left not_mem_nil
 have hlo:=w0.wd.sys hC.sys hDn
 refine z0.put (.inl ∅) (.val (.ref X)) fun y2 j1 _=>?_
 have u5:∀b∈g9,s.heap.get? b=none:=fun b hb=>(w0.fresh_of (aB b hb)).2.2.2
 obtain⟨j5,l7⟩:∃j5,j5=g9++W₁:=⟨_,rfl⟩
 rw[←l7]at j1
 have w8:∀b∈j5,s.heap.get? b=none∨b∈(fol Fo).map (·.1):=fun b hb=>by
  rw[l7]at hb
  rcases zA hb with hb | hb
  ·exact .inl (u5 b hb)
  ·exact b4 b hb
 clear z0 w0 t tr aB l7
 walk_at "x"
 refine b1z (fun i ρ ol W=>(ρ.lookup ("jobs":Str)=some (.list (jobs.map a2n))∧ρ.lookup ("sorter":Str)=some (.val (.ref X)))∧∃nds,ol=soO prog w X dX Dn .none 0 0 nds++fol Fo∧a1q nds=(jobs.zipIdx.take i).foldl (fun al p=>b1x al p.2 p.1.ns) []∧(nds.map (·.k)).Nodup∧nds.length≤12 * i∧a5s (a1q nds) (10 * i)) (fun d=>[("k",d)]) j1 rm' (It.rangeN (N:=jobs.length) ∅ hR.gRange (Ev.callB ∅ hF.a.len ∅ (by decide) (.one (.name (d:=.list (jobs.map a2n)) ∅)) (by have:=b0y (prog:=prog) (w:=w) (G:=G.at (soO prog w X dX Dn .none 0 0 []++fol Fo)) (n:=n+6) (ds:=jobs.map a2n) (by simp;omega);rw[length_map]at this;exact this)) (by omega)) (fun d _=>.name (.inl ∅)) ⟨⟨∅,∅⟩,[],rfl,rfl,nodup_nil,Nat.zero_le _,fun e he=>by cases he⟩ ?_ ?_
 ·rintro j4 b7 i d y0 _ l3 E' hd ⟨⟨h1,h2⟩,nds,rfl,habs,hk,hlen,hscl⟩ w6
  obtain⟨hi,rfl⟩:i < jobs.length∧d=dn i:=by
   rw[getElem?_map]at hd
   cases h:(List.range jobs.length)[i]? with
   | none=>rw[h]at hd;cases hd
   | some q=>
    rw[h]at hd;cases hd
    obtain⟨h1,h2⟩:=List.getElem?_eq_some_iff.mp h
    rw[List.getElem_range]at h2
    rw[length_range]at h1
    exact⟨h1,by rw[h2]⟩
  obtain⟨j,hj⟩:∃j,jobs[i]? =some j:=⟨_,getElem?_eq_getElem hi⟩
  have hjm:=mem_of_getElem? hj
  have hjn:=hns j hjm
  have hstep:(jobs.zipIdx.take (i+1)).foldl (fun al p=>b1x al p.2 p.1.ns) []=b1x (a1q nds) i j.ns:=by
   rw[take_add_one,List.getElem?_zipIdx,hj,foldl_append,←habs]
   simp
  have q1:((("k",dn i)::y0:List (Str×D))).lookup ("jobs":Str)=some (.list (jobs.map a2n)):=a0f h1
  have q2:((("k",dn i)::y0:List (Str×D))).lookup ("sorter":Str)=some (.val (.ref X)):=a0f h2
  have ev:∀ol m p1 p2 p3 p4 p5 kc,Ev prog w (G.at ol) m (c0d L cd) (("k",dn i)::y0) (.Subscript (.Subscript (.Name "jobs" p1) (.Name "k" p2) p3) (.Constant (.int 1) kc p4) p5) (.list (a0i j.ns)):=fun ol m p1 p2 p3 p4 p5 kc=>.itemT (k:=1) (.itemN (k:=i) (.name q1) (.name a0l) (by rw[getElem?_map,hj];rfl) (by omega)) .int (by decide) (by decide) rfl
  have w6:=w6.eqR (ρ':=("k",dn i)::y0) rfl
  refine c3t (n:=n+1) (ps:=j.ns) (k:=i) hF.a hR.bAdd w6 rm' q2 a0l (ev _ _ _ _ _ _ _ _) hk (by omega) (fun e he=>by have:=hscl e he;omega) hlo fun k8 g9 y3 aB iC m8 uH c8=>?_
  have tB:a5s (a1q k8) (10 * i+j.ns.length):=by rw[iC];exact hscl.add
  have gC:a6v b7 (g9++b7) l3.heap:=⟨fun b hb=>zB (.inr hb),fun b hb=>(zA hb).elim (fun h=>.inr (aB b h)) .inl⟩
  refine b2c c8 rm' (Ts.cmp (Ev.callB ∅ hF.a.len ∅ (by decide) (.one (ev _ _ _ _ _ _ _ _)) (b0y (by simp[a0i];omega))) .int (c5w (a:=((a0i j.ns).length:Int)) (b:=1))) fun i5 u7=>?_
  by_cases hgt:j.ns.length > 1
  ·rw[decide_eq_true (by simp[a0i];omega)]
   show wpAny _ _ _ _ _ _
   refine c3t (n:=n+1) (ps:=j.ns.reverse) (k:=i) hF.a hR.bAdd u7 rm' q2 a0l (c2c▸Ev.sliceS (lo':=none) (hi':=none) (i:=-1) (ev _ _ _ _ _ _ _ _) trivial trivial (.neg .int) (by decide) (by simp[a0i,sizeLine_eq];omega) (c1l (by simp[a0i];omega))) m8 (by simp;omega) (fun e he=>by have:=tB e he;omega) hlo fun b5 tE i4 u9 xA vA iF j9=>?_
   have r7:a5s (a1q b5) (10 * i+j.ns.length+j.ns.reverse.length):=by rw[xA];exact tB.add
   rw[List.length_reverse]at r7 iF
   refine wpAny_execs_nil (wpAny_execs_nil ⟨rfl,_,_,_,⟨⟨q1,q2⟩,b5,rfl,?_,vA,by omega,fun e he=>by have:=r7 e he;omega⟩,⟨fun b hb=>zB (.inr (gC.1 b hb)),fun b hb=>?_⟩,j9⟩)
   ·rw[hstep,b1x,if_pos hgt,xA,iC]
   ·rcases zA hb with hb | hb
    ·exact .inr (u7.fresh_of (u9 b hb)).2.2.2
    ·exact gC.2 b hb
  ·rw[decide_eq_false (by simp[a0i];omega)]
   refine wpAny_execs_nil (wpAny_execs_nil ⟨rfl,_,_,_,⟨⟨q1,q2⟩,k8,rfl,?_,m8,by omega,fun e he=>by have:=tB e he;omega⟩,gC,u7⟩)
   rw[hstep,b1x,if_neg hgt,iC]
 ·rintro y0 _ b7 l3 ⟨⟨h1,h2⟩,nds,rfl,habs,hk,hlen,hscl⟩ hG z1
  rw[length_map,length_range,show jobs.length=jobs.zipIdx.length by simp,take_length]at habs
  rw[length_map,length_range]at hlen
  have habs:a1q nds=a0t jobs:=habs
  have hkeys:nds.map (·.k)=(a0t jobs).map (·.1):=by rw[←habs,a3o]
  refine a6y z1 rm' .boolC fun y3 u1=>?_
  have hnF:((fol Fo).map (·.1)).Nodup:=by rw[a2z hfs];have:=wd.lsn;rw[a2z hfs]at this;exact this
  obtain⟨l4,cA⟩:∃l4,l4=(("ring",D.bool false)::y0:List (Str×D)):=⟨_,rfl⟩
  have p2:l4.lookup ("sorter":Str)=some (.val (.ref X)):=by rw[cA];exact a0f h2
  rw[←cA]at u1
  have tail:∀(z9:List Addr) (R:Addr) (ρ:List (Str×D)) (s':Shared),(∀b∈z9,s.heap.get? b=none∨b∈(fol Fo).map (·.1))→ρ.lookup ("sorter":Str)=some (.val (.ref X))→ρ.lookup ("ring":Str)=some (.bool c)→Stt G H (c0d L cd) (d1q L) z9 M ρ (soQ prog w X dX Dn R 0 0 nds (a9k nds)++(fol Fo++[])) s s'→
    wpAny (model prog w) (A.deeper (c0d L cd)) (execs ((a2b (stm 40)).drop 4) (c0d L cd)) (fun fl s'=>Q (match fl with | .ret v=>v | _=>.none) s') (fun _ _=>False) s':=by
   intro z9 R ρ oH sD h1 h2 z2
   walk_at "x"
   refine a4y z2 rm' (.inl ∅) ∅ fun aR jB hf j3=>?_
   walk_at "c"
   rcases z2.fresh_of hf with⟨g1,g2,g3,g4⟩
   rcases(⟨_,rfl⟩:∃b8,b8=(("rounds",.val (.ref aR))::ρ:List (Str×D)))with⟨b8,l8⟩
   walk_at "u"
   have r1:b8.lookup ("sorter":Str)=some (.val (.ref X)):=by rw[l8];exact a0f h1
   have r2:b8.lookup ("ring":Str)=some (.bool c):=by rw[l8];exact a0f h2
   have r3:b8.lookup ("rounds":Str)=some (.val (.ref aR)):=by rw[l8];exact a0l
   rw[←l8]at j3
   have z3:=j3.permP (ol':=soQ prog w X dX Dn R 0 0 nds (a9k nds)++(aR,.list (([]:List (List Nat)).map a1l))::fol Fo) (by rw[append_nil];exact List.perm_middle)
   have rD:∀b∈aR::z9,s.heap.get? b=none∨b∈(fol Fo).map (·.1):=fun b hb=>by
    rcases a0o hb with rfl | hb
    ·exact .inl g4
    ·exact sD b hb
   have hr0:c0e (a1q nds) (a9k nds) rs:=by rw[c1f,habs];exact hr
   clear l8 j3 z2 hf
   walk_at "x"
   refine a2y (d2a prog w G H L cd X dX Dn R aR c Fo M nds rs s) PassesOwn.never ?_ rs.length ⟨aR::z9,nds,0,a9k nds,[],rs,b8,rfl,rfl,hr0,rfl,⟨r1,r2,r3⟩,rD,z3⟩
   clear z3 rD r1 r2 r3 h1 h2 hr0 sD
   intro m nH hI'
   walk_at "c"
   rcases hI' with⟨W,nds',p,rdl,done,rest,ρ,rfl,hrs,hrun,hcr,⟨r1,r2,r3⟩,hW',t⟩
   have hk':(nds'.map (·.k)).Nodup:=by rw[a2v hcr];exact hk
   rcases hF.act.obj with⟨oa,fa,hoa,hda⟩
   walk_at "u"
   refine wpAny_isTrue_value (a2d (G:=G.at (soQ prog w X dX Dn R p p nds' rdl++(aR,.list (done.map a1l))::fol Fo)) (C:=167) (x:=X) (dx:=dX) (l:=soL Dn (.val (.ref R)) p p) rm' t.cd (.name r1) (.tail _ (.head _)) (.head _) hE.cls hF.mAct ∅ hoa hda fun mH a4=>?_) (by rfl)
   have t:=t.keeps a4
   have hz:rdl.length≤60:=by cases hrun with | stop=>exact Nat.zero_le _ | turn _ h _ _ _ _=>exact h
   refine d0a (n:=n+5) (p:=p) (f:=p) (rdl:=rdl) (R:=R) hF rm' t.cd.top.of_at t.cd.mem t.cd.obs (.tail _ (.head _)) (.head _) (zB (.inl (zB (.inr (.head _))))) (by omega) fun lH x5=>wpAny_truthy_bool ?_
   have t:=t.keeps x5
   rw[decide_eq_false (Nat.lt_irrefl p),Bool.false_or]
   cases hrun with
   | stop=>
    simp only[List.isEmpty_nil,Bool.not_true,Bool.false_eq_true,if_false]
    refine wpAny_execs_nil ?_
    rw[append_nil]at hrs
    subst hrs
    have tf:=(t.permP (ol':=(aR,.list (rs.map a1l))::(soQ prog w X dX Dn R p p nds' []++fol Fo)) List.perm_middle.symm).freeze r3 g4 g2
    walk_at "x"
    refine wpAny_Return_some ((Ev.tuple (.cons (.name (a0f r2)) (by rfl) (.one (.name a0l)))) _ _ _ _ _ rm' tf.cd fun u kD k7 du=>?_)
    refine K u kD ((tf.keeps k7).endX (X:=[]) hfs (fun q hq=>zB (.inr hq)) (wd.fr0 (fun q hq=>hq)) fun b hb=>?_) (du.mono a4c)
    rcases hW' b (mem_filter.mp hb).1 with h | h
    ·exact .inr (.inr h)
    ·rw[a2z hfs]at h;exact .inl h
   | turn hne h60 hmem hok heq hrun'=>
    rename_i al' rdl' rs'
    have hemp:(!rdl.isEmpty)=true:=by cases rdl with | nil=>exact absurd rfl hne | cons _ _=>rfl
    rw[hemp]
    show wpAny _ _ _ _ _ _
    obtain⟨ob,fb,hob,hdb⟩:=hF.ready.obj
    walk_at "x"
    refine wpAny_Assign_Name (a2d (G:=G.at (soQ prog w X dX Dn R p p nds' rdl++(aR,.list (done.map a1l))::fol Fo)) (C:=167) (x:=X) (dx:=dX) (l:=soL Dn (.val (.ref R)) p p) rm' t.cd (.name r1) (.tail _ (.head _)) (.head _) hE.cls hF.mReady ∅ hob hdb fun kD k7=>?_) ∅
    have t:=t.keeps k7
    have wdQ:=t.wd.pick (ol':=soQ prog w X dX Dn R p p nds' rdl) (fun q hq=>zB (.inl hq)) (by
     have:=t.lsn
     rw[map_append,nodup_append]at this
     exact this.1)
    refine c1c (n:=n+5) hF rm' hk' hmem (by omega) wdQ fun v b5 jH ha iA tr dv=>?_
    have t:=t.trn0 tr (fun q hq=>by
     have e:(soQ prog w X dX Dn R (p+rdl.length) p b5 []).map (·.1)=(soQ prog w X dX Dn R p p nds' rdl).map (·.1):=by
      unfold soQ soO
      rw[map_append,map_append,map_cons,map_cons,map_cons,map_cons,map_cons,map_cons,b4m iA];rfl
     rw[←e];exact zN ⟨q,hq,rfl⟩)
    refine t.put (.inl ∅) dv fun iH t _=>?_
    refine b3t (l1:=soQ prog w X dX Dn R (p+rdl.length) p b5 []) (a:=aR) (ds:=done.map a1l) (d:=a1l (a6z rdl)) (l2:=fol Fo) t rm' (.name (a0f r3)) (Ev.callB ∅ hR.gSorted ∅ (by decide) (.one (.name a0l)) (b5k (by omega))) (by have:=congrArg List.length hrs;simp at this;rw[length_map,sizeLine_eq];omega) fun gH t=>?_
    have tq:=t.eqOl (ol':=soQ prog w X dX Dn R (p+rdl.length) p b5 []++(aR,.list ((done++[a6z rdl]).map a1l))::fol Fo) (by rw[map_append];rfl)
    refine c5d (n:=n+5) (xs:=rdl) hF hR.bDone tq rm' (a0f r1) (.name a0l) (by rw[a2v iA];exact hk') (by rw[ha];exact hok) (by omega) hlo fun a5 rdl₃ N eH hN qD nE t=>?_
    rw[ha,heq]at qD
    obtain⟨e1,e2⟩:=Prod.mk.inj qD
    subst e2
    refine wpAny_execs_nil ⟨rs'.length,by simp,N++W,a5,p+rdl.length,rdl₃,done++[a6z rdl],rs',_,rfl,by rw[hrs];simp,by rw[e1];exact hrun',by rw[nE,iA,hcr],⟨a0f r1,a0f r2,a0f r3⟩,fun b hb=>?_,t⟩
    rcases zA hb with hb | hb
    ·exact .inl (tq.fresh_of (hN b hb)).2.2.2
    ·exact hW' b hb
  have u1:=u1.eqOl (ol':=soO prog w X dX Dn .none 0 0 nds++(fol Fo++[])) (by rw[append_nil])
  obtain⟨oc,fdc,hoc,hdc⟩:=hP.prep.obj
  walk_at "x"
  refine wpAny_Try_except (wpAny_execs_cons (wpAny_Expr (a2d (G:=G.at (soO prog w X dX Dn .none 0 0 nds++(fol Fo++[]))) (C:=167) (x:=X) (dx:=dX) (l:=soL Dn .none 0 0) rm' u1.cd (.name p2) (.tail _ (.head _)) (.head _) hE.cls hR.mPrep ∅ hoc hdc fun i5 b9=>?_) ∅ ∅))
  have z2:=u1.keeps b9
  have hFo:∀q∈fol Fo,q∈soO prog w X dX Dn .none 0 0 nds++(fol Fo++[]):=fun q hq=>zB (.inr (zB (.inl hq)))
  obtain⟨oL,f1,_,wdS⟩:=z2.stack hfs hFo rfl
  have wdP:=wdS.pick (ol':=soO prog w X dX Dn .none 0 0 nds++fol (((c0d L cd).locals,oL)::Fo)) (fun q hq=>by
   rcases zA hq with hq | hq
   ·exact .tail _ (zB (.inl hq))
   ·rcases a0o hq with rfl | hq
    ·exact .head _
    ·exact .tail _ (hFo q hq)) (by
   have:=wdS.lsn
   rw[append_nil]at this
   exact((List.perm_middle (l₁:=soO prog w X dX Dn .none 0 0 nds) (l₂:=fol Fo) (a:=((c0d L cd).locals,Ob.raw (slO oL)))).map _).nodup_iff.mpr this)
  have tD:∀b∈b7,s.heap.get? b=none∨b∈(fol Fo).map (·.1):=fun b hb=>by
   rcases hG.2 b hb with h | h
   ·exact w8 b h
   ·exact .inl (j1.fresh_of h).2.2.2
  refine c5p (n:=n+4) hP rm' wdP f1 hfr' hlo hk (by omega) (fun r hr y hy=>?_) (by rw[habs,hkeys];exact hc) (fun R i4 hcf tr=>?_) fun R L' i4 e d6 hct hL' hne tr x=>?_
  ·rw[hkeys]
   exact hkn (r.k,r.np,r.sc) (by rw[←habs];exact zN ⟨r,hr,rfl⟩) y hy
  ·obtain⟨tE,u9,j3⟩:=z2.trx rfl hfs tr
   refine wpAny_execs_nil (wpAny_execs_nil (wpAny_noRaise (tail (tE++b7) R l4 i4 (fun b hb=>?_) p2 (by rw[cA,hcf];exact a0l) j3)))
   rcases zA hb with hb | hb
   ·exact .inl (z2.fresh_of (u9 b hb)).2.2.2
   ·exact tD b hb
  ·refine x.land hfr' rfl fun j6 bE=>?_
   obtain⟨aI,vH,w4⟩:=z2.cyc rfl hfs tr bE hL' hne
   refine b5v hP (a1i w4.kind w4.glob w4.top ∅ hP.gCyc ⟨rfl,w4.top,bE.cls,?_⟩)
   refine bE.again fun a6 qC=>?_
   obtain⟨zG,rF,d5⟩:=z2.cyc rfl hfs tr qC hL' hne
   walk_at "x"
   refine wpAny_Assign_Name (wpAny_Constant_bool (d5.put (.inl ∅) (.bool true) fun v6 u6 _=>?_)) ∅
   refine wpAny_execs_nil (wpAny_noRaise (tail (zG++b7) R _ v6 (fun b hb=>?_) (a0f p2) (by rw[hct];exact a0l) u6))
   rcases zA hb with hb | hb
   ·exact .inl (z2.fresh_of (rF b hb)).2.2.2
   ·exact tD b hb
end
end
section
mutual
noncomputable def pyD:D→PyData
 | .none=>.none
 | .bool b=>.bool b
 | .int i=>.int i
 | .str x=>.str x
 | .list ds=>.list (b3w ds)
 | .tuple ds=>.tuple (b3w ds)
 | .val _=>.none
 | .thing=>.none
noncomputable def b3w:List D→List PyData
 | []=>[]
 | d::ds=>pyD d::b3w ds
end
mutual
noncomputable def okP:D→Bool
 | .none=>true
 | .bool _=>true
 | .int _=>true
 | .str _=>true
 | .list ds=>c1x ds
 | .tuple ds=>c1x ds
 | .val _=>false
 | .thing=>false
noncomputable def c1x:List D→Bool
 | []=>true
 | d::ds=>okP d && c1x ds
end
theorem DR.reads {h:Heap} {d:D} (x:DR (vis h M) v d):okP d=true→∃as,Reads h v (pyD d) as:=
 DR.rec (motive_1:=fun v d _=>okP d=true→∃as,Reads h v (pyD d) as) (motive_2:=fun vs ds _=>c1x ds=true→∃as,ReadsAll h vs (b3w ds) as)
  (fun _=>⟨_,.none⟩) (fun b _=>⟨_,.bool b⟩) (fun i t _=>⟨_,.int i t⟩) (fun x t _=>⟨_,.str x t⟩)
  (fun e _ ih h=>let⟨_,z⟩:=ih h;⟨_,.tuple (a0b e).1 rfl rfl z⟩) (fun e _ ih h=>let⟨_,z⟩:=ih h;⟨_,.list (a0b e).1 rfl rfl z⟩)
  (fun _ h=>(by cases h)) (fun _ h=>(by cases h)) (fun _=>⟨_,.nil⟩)
  (fun _ _ ih1 ih2 h=>let h':=Bool.and_eq_true_iff.mp h;let⟨_,z⟩:=ih1 h'.1;let⟨_,y⟩:=ih2 h'.2;⟨_,.cons z y⟩) x
section
variable {n:Nat}
theorem b7z {d:D} (hok:okP d=true) (hs:shaped (pyD d)=true):Op2 prog w G (n+4) (compareOp .NotEq) d d (.bool false):=fun A M s a b Q E rm _ _ da db K=>by
 walk_at "c"
 rcases da.reads hok with⟨as,ra⟩
 rcases db.reads hok with⟨bs,rb⟩
 walk_at "u"
 refine ne_dataH ra rb hs hs (by have:=rm.un;show A.units+64 < 9900;omega) ?_
 rw[eqv_refl _ (canLay_of_shaped hs)]
 exact K _ _ (Kp.refl _) (.bool _)
theorem b8e {d:D} (hok:okP d=true) (hs:shaped (pyD d)=true):Op2 prog w G (n+4) (compareOp .Eq) d d (.bool true):=fun A M s a b Q E rm _ _ da db K=>by
 walk_at "c"
 rcases da.reads hok with⟨as,ra⟩
 rcases db.reads hok with⟨bs,rb⟩
 walk_at "u"
 refine eq_dataH ra rb hs hs (by have:=rm.un;show A.units+64 < 9900;omega) ?_
 rw[eqv_refl _ (canLay_of_shaped hs)]
 exact K _ _ (Kp.refl _) (.bool _)
end
end
section
noncomputable abbrev b6n (L:Addr) (cd:Value):Env:=fnv "law" (a0a (stm 42)) L 920 cd
structure GLw (G:a1k):Prop where
 law:FnS G 920 "law" (stm 42) .none
 jobs:a9e G 891 "_law_jobs" (a4t (stm 37)) (a2b (stm 37)) (a0a (stm 37)) .none .none
 o891:∃o fd,G.objs 891=some o∧o.data= .func fd
 o896:∃o fd,G.objs 896=some o∧o.data= .func fd
 o901:∃o fd,G.objs 901=some o∧o.data= .func fd
 o908:∃o fd,G.objs 908=some o∧o.data= .func fd
 o913:∃o fd,G.objs 913=some o∧o.data= .func fd
theorem a9n {α:Type} {f:α→D} {l:List α} (h:∀x∈l,okP (f x)=true):c1x (l.map f)=true:=by
 induction l with
 | nil=>rfl
 | cons x l ih=>
  show(okP (f x) && c1x (l.map f))=true
  rw[h x (.head _),ih fun y hy=>h y (.tail _ hy)];rfl
theorem c3y (r:List Nat):okP (a1l r)=true:=by
 show c1x (r.map dn)=true
 exact a9n fun x _=>rfl
theorem c6b (js:List Job):okP (.list (js.map a2n))=true:=by
 show c1x (js.map a2n)=true
 exact a9n fun j _=>by
  show(true && (okP (a1l j.ns) && true))=true
  rw[c3y];rfl
theorem c9f (x:Bool×Rows):okP (c5q x)=true:=by
 show(true && (c1x (x.2.map a1l) && true))=true
 rw[a9n fun r _=>c3y r];rfl
theorem c0j (js:List Job):(a5d js).2.length≤5:=by
 unfold a5d
 have:=length_filter_le (fun r:List Nat=>!(r.map dn).isEmpty) ((List.range 5).map (a1z js))
 simp at this ⊢
 exact this
section
variable {n:Nat} {s:Shared}
theorem b4v {t v:Expr} {Q:Flow→Shared→Prop} (h:wpAny (model prog w) A (eval v env) (fun u g0=>wpAny (model prog w) A (assign t env u) (fun _=>Q .next) E g0) E s) (he:(assignEach [t] env).map (·.2)=[assign t env]:=by rfl) (hs:swapsWithSole [t] v pos.line env=pure false:=by kernel_rfl)
  (hw:swappedStores [t] v env=pure none:=by rfl):wpAny (model prog w) A (exec (.Assign [t] v pos) env) Q E s:=by
 refine wpAny_Assign_stores (wpAny_mono h (fun u g0 j2=>?_) fun _ _ x=>x) hs hw
 rw[he]
 exact j2
theorem Fn.on {n m:Nat} {f:Addr} {args:List D} {d:D} (h:Fn prog w G n f args d) (hnm:n≤m) (ob:List (Addr×Ob)):Fn prog w (G.on.at ob) m f args d:=fun A M s vs Q E rm T hm dvs K=>h A M s vs Q E (rm.le hnm) ⟨T.g,T.b,T.lim,T.objs⟩ hm dvs K
theorem c9q (hG:GOk G) (hQ:GQ G) (hJ:GJ G) (hT:GT G) (hX:GX G.on) (hRd:GR G.on) (hP:GP G.on) (hRn:GRn G.on) (hL:GLw G) {script:List Int} (hlen:script.length≤63) {lack:Nat} (hlk:((script.take 5).sum).fmod 7=(lack:Int)) (hgw:a2x (a1a script)) (hlack:lack≤(a1n (a1a script) (a1a script).length).length) {js:List Job} (hjs:js=(a1a script).take (a3h (a1a script) lack)) (hrd:RdR (a3d (a1a script) lack) js) (hgj:a0m js) (hkn:∀e∈a0t js,∀y∈e.2.2,y∈(a0t js).map (·.1)) (hcy:a2u (a1p (a0t js)) N ((a0t js).map (·.1)) []=some (a5d js).1) (hrun:c0e (a0t js) (c1e (a0t js)) (a5d js).2) (hsh:shaped (pyD (.list (js.map a2n)))=true) (hsh2:shaped (pyD (c5q (a5d js)))=true) (rm:Rm A (n+20)) (T:TF G s.heap) (hm:∀b∈M,∃o,s.heap.get? b=some o) (hM8:873∉M) (dv:DR (vis s.heap M) v (.list (script.map D.int))) (hps:s.heap.IsCode 877 873 ps) (e8:s.heap.get? 873=some (tbO ps)) (hfr:A.frames=some []) (K:∀s' more,Kw true [873] s s'→s'.heap.get? 873=some (tbO (ps++more))→Q (.bool true) s'):wpAny (model prog w) A (call (.ref 920) [v]) Q E s:=by
 have Ton:TF G.on s.heap:=⟨T.g,T.b,T.lim,T.objs⟩
 refine a0u (G:=G.on) (n:=n+19) (args:=⟨[_],[]⟩) (ρ:=[("script",.list (script.map D.int))]) (binds:=[("script",_)]) ⟨hL.law.fn⟩ rm Ton hm (fun name doc pm an cdv ct=>BindsTo.of_eq rfl) rfl (.cons dv .nil) (a2h ∅) (a0d ∅) (by decide +kernel) (a0d ∅) ?_ ∅ ∅ ∅
 intro L cd g0 hL0 t hW
 walk_at "q"
 walk_at "c"
 rcases a2e hps with⟨o8,e8',d8,tr8⟩
 have h8W:873∉fms (b6n L cd) (cellsFrom (L+1) (a0a (stm 42)).names []):=fun hm=>by exact nsn (hW _ hm) e8
 have e81:g0.heap.get? 873=some (tbO ps):=t.kH _ _ e8
 have TW:TF G (without s.heap 873):=T.ext hJ.no hps fun b o hb e=>by rw[a4k _ hb];exact e
 have w0:=t.open (a:=873) (q:=qT ps) ⟨TW.g,TW.b,TW.lim,TW.objs⟩ h8W hM8 e81 ⟨#[],by simp,by simpa using tr8⟩ (fun T vs n e=>by cases e)
 have rm':=rm.deeper (b6n L cd)
 have hfr':(A.deeper (b6n L cd)).frames=some [b6n L cd]:=Around.frames_deeper hfr
 rcases hL.o891 with⟨o1,f1,ho1,hd1⟩
 walk_at "u"
 have hjl:(a1a script).length=5:=by simp[a1a,a9w]
 walk_at "x"
 refine a1w w0 rm' (d:=.list ((a1a script).map a2n)) (.callF ∅ (hX.glb _ _ ∅) ho1 hd1 (.one (.name (d:=.list (script.map D.int)) ∅)) (by simp) ((c6x hG hL.jobs hlen).on (by omega) _)) (.inl ∅) ∅ fun u0 z0=>?_
 walk_at "c"
 rcases(⟨_,rfl⟩:∃W0,W0=fms (b6n L cd) (cellsFrom (L+1) (a0a (stm 42)).names []))with⟨W0,hW0⟩
 rw[←hW0]at z0 h8W
 rcases hL.o896 with⟨o2,f2,ho2,hd2⟩
 walk_at "u"
 have hz5:(script.map D.int).length≤sizeLine:=by rw[length_map,sizeLine_eq];omega
 walk_at "x"
 refine b4v (wpAny_Call_NameR (a1i z0.kind z0.glob z0.top ∅ (hX.glb _ _ ∅) (callWith_function (a0p (G:=G.on.at [(873,.raw (qT ps))]) (ds:=[.list ((a1a script).map a2n),dn lack]) (.cons (.name ∅) (by rfl) (.one (Ev.cast (Ev.op (Ev.callB ∅ (hX.glb _ _ ∅) ∅ (by decide) (.one (Ev.cast (.first5 (ds:=script.map D.int) (.name ∅) hz5) (by rw[←List.map_take]))) (c8y (ns:=script.take 5))) .int (a7f (b:=7) (by decide))) (by rw[hlk];rfl)))) (by simp) rm' z0.cd fun vs y2 a4 dvs=>⟨⟨(z0.keeps a4).top.objs _ _ ho2,hd2⟩,?_⟩))))
 have j1:=z0.keeps a4
 cases dvs with
 | cons da db=>
 cases db with
 | cons db dc=>
 cases dc
 have dn8:∀{h:Heap} {v:Value} {d:D},DR (vis h ((873::W0)++M)) v d→DR (vis h (W0++M)) v d:=fun d=>d.mono fun a o e=>a0v (a0b e).1 fun hm=>(a0b e).2 (.tail _ hm)
 obtain⟨_,_,o9,e9,ps9,rfl,tr9⟩:=j1.ls _ (.head _)
 refine b7u hG hQ hJ hT hgw hlack (rm'.le (by omega)) ⟨j1.top.g,j1.top.b,j1.top.lim,j1.top.objs⟩ (M:=W0++M) (fun b hb=>j1.mem b (.tail _ hb)) (fun hm=>(zA hm).elim h8W hM8) (.cons (dn8 da) (.cons (dn8 db) .nil)) (hT.ck _ _ _ j1.top.objs e9 rfl tr9) e9 fun u l3 mo kw hps4 e4 du=>?_
 obtain⟨o4,e4',d4,tr4⟩:=a2e hps4
 have z1:=j1.set1 (ob':=.raw (qT ps)) (s':=l3) kw e4 ⟨ps9++mo,by rw[Array.append_assoc],by rw[←Array.append_assoc];exact tr4⟩
 have du':DR (vis l3.heap ((873::W0)++M)) u (.tuple [a1l (a3d (a1a script) lack),dn (a3h (a1a script) lack)]):=du.monoS fun x T vs n e=>a0v (a0b e).1 fun hm=>by
  rcases a0o hm with rfl | hm
  ·have:=(a0b e).1;rw[e4]at this;cases this
  ·exact(a0b e).2 hm
 refine z1.assign rm'.hd (.pair (by decide) (.inl ∅) (.inl ∅)) du' fun y3 u1 _=>?_
 clear w0 z0 j1 z1
 obtain⟨o3,f3,ho3,hd3⟩:=hL.o901
 have frame:∀(s':Shared) (ρ:List (Str×D)),Stt G.on (without s.heap 873) (b6n L cd) (cellsFrom (L+1) (a0a (stm 42)).names []) (873::W0) M ρ [(873,.raw (qT ps))] s s'→∃Fo,a3y [b6n L cd] Fo∧Wd G.on (without s.heap 873) ((873::W0)++M) (fol Fo) s':=fun s' ρ t=>by
  obtain⟨oL,f1,_,wd⟩:=t.stack (Fo:=[]) (fs:=[]) .nil (fun p hp=>by cases hp) rfl
  exact⟨_,f1,wd.pick (fun p hp=>by rw[zS hp];exact .head _) (by simp[fol])⟩
 have back:∀(s' s'':Shared) (ρ:List (Str×D)),Stt G.on (without s.heap 873) (b6n L cd) (cellsFrom (L+1) (a0a (stm 42)).names []) (873::W0) M ρ [(873,.raw (qT ps))] s s'→Kx G.on.gen [] (frs [b6n L cd]) s' s''→Stt G.on (without s.heap 873) (b6n L cd) (cellsFrom (L+1) (a0a (stm 42)).names []) (873::W0) M ρ [(873,.raw (qT ps))] s s'':=fun s' s'' ρ t k=>by
  have:=t.flew (W₁:=[]) (N:=[]) (F:=frs []) (ol':=[(873,.raw (qT ps))]) k (fun b hb=>by cases hb) (fun b hb=>absurd hb not_mem_nil) (fun b hb=>absurd hb not_mem_nil) (fun b hb=>absurd hb not_mem_nil) (fun q hq=>.inl ⟨hq,not_mem_nil⟩) t.lsn
  exact this
 walk_at "x"
 refine wpAny_Assign_Name (wpAny_Call_NameR (a1i u1.kind u1.glob u1.top ∅ (hX.glb _ _ ∅) (callWith_function (a0p (G:=G.on.at [(873,.raw (qT ps))]) (.one (.name (d:=a1l (a3d (a1a script) lack)) ∅)) (by simp) rm' u1.cd fun vs i5 b9 dvs=>⟨⟨(u1.keeps b9).top.objs _ _ ho3,hd3⟩,?_⟩)))) ∅
 have z2:=u1.keeps b9
 obtain⟨Fo,hF1,wdF⟩:=frame _ _ z2
 cases dvs with
 | cons d0 d1=>
 cases d1
 have hjl5:js.length≤5:=hgj.1
 obtain⟨lR,rfl⟩:∃l,‹Value› = .ref l:=by cases d0 with | list e r=>exact⟨_,rfl⟩
 refine c5l hX hRd (c0q (n:=n+8) hP) (rm'.le (by omega)) wdF hF1 hfr' d0 hrd hjl5 fun u i4 kx du=>?_
 have j3:=back _ _ _ z2 kx
 refine j3.put (.inl ∅) du fun d6 z3 _=>?_
 have hjz:((a1a script).map a2n).length≤sizeLine:=by rw[length_map,sizeLine_eq];omega
 have evj:∀ρ:List (Str×D),ρ.lookup ("jobs":Str)=some (.list ((a1a script).map a2n))→ρ.lookup ("whole":Str)=some (dn (a3h (a1a script) lack))→∀ol m p1 p2 p3 p4,Ev prog w (G.on.at ol) m (b6n L cd) ρ (.Subscript (.Name "jobs" p1) (.Slice none (some (.Name "whole" p2)) none p3) p4) (.list (js.map a2n)):=fun ρ h1 h2 ol m p1 p2 p3 p4=>by
  rw[hjs,List.map_take]
  exact Ev.sliceT (lo':=none) (hi':=some (a3h (a1a script) lack:Int)) (.name h1) trivial (Ev.name h2:Ev prog w (G.on.at ol) m (b6n L cd) ρ _ _) hjz (b2j _)
 have okj:okP (.list (js.map a2n))=true:=c6b js
 have oko:okP (c5q (a5d js))=true:=c9f _
 refine a4u z3 rm' (Ts.cmp (.name (d:=.list (js.map a2n)) ∅) (evj _ ∅ ∅ _ _ _ _ _ _) (b7z (n:=n+15) okj hsh)) fun j6 w4=>?_
 walk_at "c"
 rcases hL.o908 with⟨o5,f5,ho5,hd5⟩
 rcases hL.o913 with⟨o6,f6,ho6,hd6⟩
 walk_at "u"
 walk_at "x"
 refine wpAny_Return_some (wpAny_Compare1 (wpAny_Call_NameR (a1i w4.kind w4.glob w4.top ∅ (hX.glb _ _ ∅) (callWith_function (a0p (G:=G.on.at [(873,.raw (qT ps))]) (.one (.name (d:=.list (js.map a2n)) ∅)) (by simp) rm' w4.cd fun vs a6 z7 dvs=>⟨⟨(w4.keeps z7).top.objs _ _ ho5,hd5⟩,?_⟩)))))
 have d5:=w4.keeps z7
 obtain⟨Fo2,hF2,wdF2⟩:=frame _ _ d5
 cases dvs with
 | cons d0 d1=>
 cases d1
 refine c8l (n:=n+12) hRn rm' wdF2 hF2 hfr' d0 hjl5 (fun j hj=>(hgj.2 j hj).1) hkn hcy hrun (Nat.le_trans (c0j js) (by decide)) fun u2 v6 kx2 du2=>?_
 have u6:=back _ _ _ d5 kx2
 refine(Ev.callF (G:=G.on.at [(873,.raw (qT ps))]) ∅ (hX.glb _ _ ∅) ho6 hd6 (.one (evj _ ∅ ∅ _ _ _ _ _ _)) (by simp) ((c4y hG js hgj).on (by omega) _)) _ _ _ _ _ rm' u6.cd fun u3 j7 rA du3=>?_
 have z5:=u6.keeps rA
 refine(b8e (n:=n+15) oko hsh2) _ _ _ _ _ _ _ rm' z5.cd.top z5.mem (du2.mono rA.hk.vis) du3 fun r z8 c9 dr=>?_
 cases dr
 have l5:=z5.keeps c9
 obtain⟨_,_,o5,e5,mo5,rfl,_⟩:=l5.ls _ (.head _)
 refine K z8 mo5 ⟨fun b o hb e=>l5.kp.1 b o (fun hm=>?_) e,l5.kp.2⟩ e5
 rcases a0o hm with rfl | hm
 ·exact hb (.head _)
 ·rw[hW0]at hm;exact nsn (hW b hm) e
end
end
section
open PySem PySem.W
noncomputable def b2n (x len:Nat):List Nat:=(List.range (cnt x)).map fun k=>a4z x (cnt x) k (len+k)
theorem c1p (x c:Nat) (o:List Nat):∀k,a7d x c o k=o++(List.range k).map fun i=>a4z x c i (o.length+i):=by
 intro v'
 induction v' with
 | zero=>
  simp[a7d]
 | succ k ih'=>
  rw[a7d,ih']
  simp[List.range_succ]
theorem c1o (o:List Nat) (x:Nat):a7c o x=o++b2n x o.length:=c1p x (cnt x) o (cnt x)
noncomputable def a3l:List Nat→Nat→List Nat
 | [],_=>[]
 | x::xs,len=>b2n x len++a3l xs (len+(b2n x len).length)
theorem c2r:∀(xs o:List Nat),xs.foldl a7c o=o++a3l xs o.length:=by
 intro v'
 induction v' with
 | nil=>
  intro o
  simp[a3l]
 | cons x xs ih'=>
  intro o
  rw[foldl_cons,ih',c1o,a3l]
  simp
theorem c4a (a m p:Nat) (ha:a < 64) (hm:m < 2):(a+64 * m+128 * p) % 64=a∧(a+64 * m+128 * p) / 64 % 2=m:=by
 have e:a+64 * m+128 * p=a+64 * (m+2 * p):=by rw[Nat.mul_add,←Nat.mul_assoc,Nat.add_assoc]
 rw[e,Nat.add_mul_mod_self_left,Nat.add_mul_div_left _ _ (by decide),Nat.div_eq_of_lt ha,Nat.zero_add,Nat.add_mul_mod_self_left]
 exact⟨Nat.mod_eq_of_lt ha,Nat.mod_eq_of_lt hm⟩
theorem b4e (x c k len:Nat):a4z x c k len=x / 64 ^ (c - 1 - k) % 64+64 * (if k+1 < c then 1 else 0)+128 * (len % 3 / 2):=by
 unfold a4z
 by_cases h:k+1 < c
 ·rw[if_pos h,if_pos h]
 ·rw[if_neg h,if_neg h]
theorem b8j (x c k len:Nat):a4z x c k len % 64=x / 64 ^ (c - 1 - k) % 64:=by
 rw[b4e];exact(c4a _ _ _ (Nat.mod_lt _ (by decide)) (by by_cases h:k+1 < c <;> simp[h])).1
theorem a9o (x c k len:Nat):a4z x c k len / 64 % 2=if k+1 < c then 1 else 0:=by
 rw[b4e];exact(c4a _ _ _ (Nat.mod_lt _ (by decide)) (by by_cases h:k+1 < c <;> simp[h])).2
noncomputable def d1v (p:Nat→Bool):Nat:=(((List.range 4).filter fun k=>p k || k == 0).map (· +1)).foldl max 0
theorem c7s:∀a b c d:Bool,d1v (fun k=>[a,b,c,d].getD k false)=if d then 4 else if c then 3 else if b then 2 else 1:=by decide
theorem c9y (x:Nat):cnt x=if decide (64 ^ 3≤x)then 4 else if decide (64 ^ 2≤x)then 3 else if decide (64 ^ 1≤x)then 2 else 1:=
 (show cnt x=d1v (fun k=>[decide (64 ^ 0≤x),decide (64 ^ 1≤x),decide (64 ^ 2≤x),decide (64 ^ 3≤x)].getD k false)from ∅).trans (c7s _ _ _ _)
theorem c4m {x:Nat} (h:x < 64 ^ 4):∃c,cnt x=c+1∧c < 4∧x < 64 ^ (c+1):=by
 have lt:∀{k:Nat},¬decide (64 ^ k≤x)=true→x < 64 ^ k:=fun e=>Nat.lt_of_not_le fun q=>e (decide_eq_true q)
 rw[c9y]
 by_cases h3:decide (64 ^ 3≤x)=true
 ·rw[if_pos h3];exact⟨3,rfl,by decide,h⟩
 ·rw[if_neg h3]
  by_cases h2:decide (64 ^ 2≤x)=true
  ·rw[if_pos h2];exact⟨2,rfl,by decide,lt h3⟩
  ·rw[if_neg h2]
   by_cases h1:decide (64 ^ 1≤x)=true
   ·rw[if_pos h1];exact⟨1,rfl,by decide,lt h2⟩
   ·rw[if_neg h1];exact⟨0,rfl,by decide,lt h1⟩
noncomputable def tl (x c len:Nat):Nat→List Nat
 | 0=>[]
 | d+1=>a4z x c (c - 1 - d) (len+(c - 1 - d))::tl x c len d
theorem b8h {x len c:Nat} (h:cnt x=c+1) (hc:c < 4):b2n x len=tl x (c+1) len (c+1):=by
 unfold b2n
 rw[h]
 clear h
 cases c with
 | zero=>rfl
 | succ c=>cases c with
  | zero=>rfl
  | succ c=>cases c with
   | zero=>rfl
   | succ c=>cases c with
    | zero=>rfl
    | succ c=>exact absurd hc (Nat.not_lt.mpr (Nat.le_add_left 4 c))
theorem b7q {x c d l f v e:Nat} {r:List Nat} (hd:d+1 < c):c0a (f+1) v (a4z x c (c - 1 - (d+1)) l) (e::r)=c0a f (v * 64+e % 64) e r:=
 if_pos ((a9o _ _ _ _).trans (if_pos (by omega)))
theorem d0s {x c len:Nat} (rest:List Nat):∀(d f l:Nat),d < f→d < c→c0a f (x / 64 ^ d) (a4z x c (c - 1 - d) l) (tl x c len d++rest)=some (some (x,rest)):=by
 intro d
 induction d with
 | zero=>
  intro f l hf hc
  obtain⟨f,rfl⟩:∃f',f=f'+1:=⟨f - 1,by omega⟩
  refine(if_neg ?_).trans (by rw[Nat.pow_zero,Nat.div_one];rfl)
  rw[a9o,if_neg (by omega)];decide
 | succ d ih=>
  intro f l hf hc
  obtain⟨f,rfl⟩:∃f',f=f'+1:=⟨f - 1,by omega⟩
  refine(b7q hc).trans ?_
  rw[b8j,Nat.sub_sub_self (by omega),Nat.pow_succ,←Nat.div_div_eq_div_mul,Nat.div_add_mod']
  exact ih f _ (by omega) (by omega)
theorem c1j {x c len:Nat}:∀(d t f l v:Nat),t < d→d < f→d < c→c0a f v (a4z x c (c - 1 - d) l) ((tl x c len d).take t)=some none:=by
 intro d
 induction d with
 | zero=>intro t f l v ht;exact absurd ht (Nat.not_lt_zero _)
 | succ d ih=>
  intro t f l v ht hf hc
  obtain⟨f,rfl⟩:∃f',f=f'+1:=⟨f - 1,by omega⟩
  cases t with
  | zero=>exact if_pos ((a9o _ _ _ _).trans (if_pos (by omega)))
  | succ t=>exact(b7q hc).trans (ih t f _ _ (by omega) (by omega) (by omega))
theorem a4m {x len:Nat} (h:x < 64 ^ 4) (rest:List Nat):a6j (b2n x len++rest)=some (some (x,rest)):=by
 obtain⟨c,hc,h4,hx⟩:=c4m h
 rw[b8h hc h4]
 show c0a 8 (a4z x (c+1) (c+1 - 1 - c) _ % 64) _ _=_
 rw[b8j,Nat.sub_sub_self (by omega),Nat.mod_eq_of_lt (Nat.div_lt_of_lt_mul (by rw[←Nat.pow_succ];exact hx))]
 exact d0s rest c 8 _ (by omega) (by omega)
theorem b0v {x len:Nat} (h:x < 64 ^ 4) (ht:t < (b2n x len).length):a6j ((b2n x len).take t)=some none:=by
 have hl:(b2n x len).length=cnt x:=by rw[b2n,length_map,length_range]
 obtain⟨c,hc,h4,hx⟩:=c4m h
 rw[hl,hc]at ht
 rw[b8h hc h4]
 cases t with
 | zero=>rfl
 | succ t=>exact c1j c t 8 _ _ (by omega) (by omega) (by omega)
end
section
open PySem PySem.W
theorem b5g (hl:lim≤64 ^ 4) (rest:List Nat):∀(xs:List Nat) (len:Nat),(∀x∈xs,x < lim)→a2r lim xs.length (a3l xs len++rest)=some (some (xs,rest)):=by
 intro v'
 induction v' with
 | nil=>
  intro len _
  exact rfl
 | cons x xs ih'=>
  intro len h
  have hx:=h x (.head _)
  show a2r lim (xs.length+1) _=_
  rw[a3l,append_assoc]
  refine(congrArg (oob · _) (a4m (Nat.lt_of_lt_of_le hx hl) _)).trans ((if_pos hx).trans ?_)
  exact congrArg (b9w [x]) (ih' _ fun y hy=>h y (.tail _ hy))
theorem b5h (hl:lim≤64 ^ 4):∀(xs:List Nat) (len t:Nat),(∀x∈xs,x < lim)→t < (a3l xs len).length→a2r lim xs.length ((a3l xs len).take t)=some none:=by
 intro v'
 induction v' with
 | nil=>
  intro len t _ ht
  simp[a3l]at ht
 | cons x xs ih'=>
  intro len t h ht
  have hx:=h x (.head _)
  rw[a3l]at ht ⊢
  show a2r lim (xs.length+1) _=_
  by_cases h1:t < (b2n x len).length
  ·rw[List.take_append_of_le_length (Nat.le_of_lt h1)]
   exact congrArg (oob · _) (b0v (Nat.lt_of_lt_of_le hx hl) h1)
  ·rw[List.take_append,take_of_length_le (le_of_not_lt h1)]
   refine(congrArg (oob · _) (a4m (Nat.lt_of_lt_of_le hx hl) _)).trans ((if_pos hx).trans ?_)
   rw[length_append]at ht
   exact congrArg (b9w [x]) (ih' _ _ (fun y hy=>h y (.tail _ hy)) (by omega))
theorem a5t (hl:lim≤64 ^ 4) (rest xs:List Nat) (len:Nat) (hz:xs.length≤1000) (h:∀x∈xs,x < lim):a4v lim (a3l (xs.length::xs) len++rest)=some (some (xs,rest)):=by
 rw[a3l,append_assoc]
 exact(congrArg (oob · _) (a4m (Nat.lt_of_le_of_lt hz (by decide)) _)).trans ((if_pos hz).trans (b5g hl rest xs _ h))
theorem a8s (hl:lim≤64 ^ 4) (xs:List Nat) (len t:Nat) (hz:xs.length≤1000) (h:∀x∈xs,x < lim) (ht:t < (a3l (xs.length::xs) len).length):a4v lim ((a3l (xs.length::xs) len).take t)=some none:=by
 have hx:xs.length < 64 ^ 4:=Nat.lt_of_le_of_lt hz (by decide)
 rw[a3l]at ht ⊢
 by_cases h1:t < (b2n xs.length len).length
 ·rw[List.take_append_of_le_length (Nat.le_of_lt h1)]
  exact congrArg (oob · _) (b0v hx h1)
 ·rw[List.take_append,take_of_length_le (le_of_not_lt h1)]
  rw[length_append]at ht
  exact(congrArg (oob · _) (a4m hx _)).trans ((if_pos hz).trans (b5h hl xs _ _ h (by omega)))
theorem b4l:∀(xs ys:List Nat) (len:Nat),a3l (xs++ys) len=a3l xs len++a3l ys (len+(a3l xs len).length):=by
 intro v'
 induction v' with
 | nil=>
  intro ys len
  simp[a3l]
 | cons x xs ih'=>
  intro ys len
  rw[cons_append,a3l,a3l,ih' ys,append_assoc,length_append,Nat.add_assoc]
theorem b5p {a b:Str} (ha:a∈a0n) (hb:b∈a0n):∀c∈(a1o a b).cps.toList,c < 1114112:=by
 have h:(a0n.all fun a=>a0n.all fun b=>(a1o a b).cps.toList.all fun c=>decide (c < 1114112))=true:=by decide +kernel
 intro c hc
 exact of_decide_eq_true (all_eq_true.mp (all_eq_true.mp (all_eq_true.mp h a ha) b hb) c hc)
structure a8c (j:Job):Prop where
 a:j.a∈a0n
 b:j.b∈a0n
 n:j.ns.length≤5
 lt:∀x∈j.ns,x < 5
theorem b8l (j:Job):numsOf j=((a2a j).cps.toList.length::(a2a j).cps.toList)++(j.ns.length::j.ns):=by
 unfold numsOf
 rw[show(a2a j).length=(a2a j).cps.toList.length from(length_toList).symm]
 simp
theorem c4d {j:Job} (g:a8c j):(a2a j).cps.toList.length≤60:=by
 have:=a9s g.a g.b
 rw[length_toList];exact this
theorem lc {j:Job} (g:a8c j):∀c∈(a2a j).cps.toList,c < 1114112:=b5p g.a g.b
theorem b7n {j:Job} (g:a8c j) (len:Nat) (rest:List Nat):b7p (a3l (numsOf j) len++rest)=some (some ((a2a j).cps.toList,j.ns,rest)):=by
 have hz:=c4d g
 have hn:=g.n
 rw[b8l,b4l,append_assoc]
 exact(congrArg (oob · _) (a5t (lim:=1114112) (by decide) _ _ _ (Nat.le_trans hz (by decide)) (lc g))).trans (congrArg (oob · _) (a5t (lim:=1114112) (by decide) _ _ _ (Nat.le_trans hn (by decide)) (fun x hx=>Nat.lt_trans (g.lt x hx) (by decide))))
theorem b7o {j:Job} (g:a8c j) (len t:Nat) (ht:t < (a3l (numsOf j) len).length):b7p ((a3l (numsOf j) len).take t)=some none:=by
 have hz:=c4d g
 have hn:=g.n
 rw[b8l,b4l]at ht ⊢
 by_cases h1:t < (a3l ((a2a j).cps.toList.length::(a2a j).cps.toList) len).length
 ·rw[List.take_append_of_le_length (Nat.le_of_lt h1)]
  exact congrArg (oob · _) (a8s (lim:=1114112) (by decide) _ _ _ (Nat.le_trans hz (by decide)) (lc g) h1)
 ·rw[length_append]at ht
  rw[List.take_append,take_of_length_le (le_of_not_lt h1)]
  refine Eq.trans (congrArg (oob · _) (a5t (lim:=1114112) (by decide) _ _ _ (Nat.le_trans hz (by decide)) (lc g))) ?_
  have h2:t - (a3l ((a2a j).cps.toList.length::(a2a j).cps.toList) len).length < (a3l (j.ns.length::j.ns) (len+(a3l ((a2a j).cps.toList.length::(a2a j).cps.toList) len).length)).length:=by omega
  show oob (a4v 1114112 ((a3l (j.ns.length::j.ns) _).take _)) _=_
  rw[a8s (lim:=1114112) (by decide) _ _ _ (Nat.le_trans hn (by decide)) (fun x hx=>Nat.lt_trans (g.lt x hx) (by decide)) h2]
  rfl
noncomputable def a7q:List Job→Nat→List Nat
 | [],_=>[]
 | j::js,len=>a3l (numsOf j) len++a7q js (len+(a3l (numsOf j) len).length)
theorem b7v:∀(js:List Job) (o:List Nat),js.foldl c1q o=o++a7q js o.length:=by
 intro v'
 induction v' with
 | nil=>
  intro o
  simp[a7q]
 | cons j js ih'=>
  intro o
  rw[foldl_cons,ih',c1q,c2r,a7q]
  simp
theorem b7m:b7p []=some none:=rfl
noncomputable def whN (js:List Job) (len t:Nat):Nat:=((List.range js.length).filter fun k=>decide ((a7q (js.take (k+1)) len).length≤t)).length
theorem b2y (p:Nat→Bool) (n:Nat) (h0:p 0=true):((List.range (n+1)).filter p).length=((List.range n).filter fun k=>p (k+1)).length+1:=by
 rw[List.range_succ_eq_map,filter_cons,if_pos h0,length_cons,List.filter_map,length_map];rfl
theorem b1r {j:Job} {js:List Job} {len k:Nat}:(a7q ((j::js).take (k+1)) len).length=(a3l (numsOf j) len).length+(a7q (js.take k) (len+(a3l (numsOf j) len).length)).length:=by
 rw[List.take_succ_cons,a7q,length_append]
theorem c0g {j:Job} {js:List Job} {len:Nat} (h1:t < (a3l (numsOf j) len).length):whN (j::js) len t=0:=by
 unfold whN
 rw[List.length_eq_zero_iff,List.filter_eq_nil_iff]
 intro k _ hk
 have:=of_decide_eq_true hk
 rw[b1r]at this
 omega
theorem c0h {j:Job} {js:List Job} {len l:Nat} (hl:(a3l (numsOf j) len).length=l) (h1:l≤t):whN (j::js) len t=whN js (len+l) (t - l)+1:=by
 have key:∀k,decide ((a7q ((j::js).take (k+1)) len).length≤t)=decide ((a7q (js.take k) (len+l)).length≤t - l):=fun k=>by
  rw[b1r,hl,decide_eq_decide];omega
 unfold whN
 rewrite [length_cons,b2y _ _ (by rw[key];simp[a7q])]
 simp only[key]
theorem c5m:∀(js:List Job) (len t:Nat),(∀j∈js,a8c j)→RdR ((a7q js len).take t) (js.take (whN js len t)):=by
 intro v'
 induction v' with
 | nil=>
  intro len t _
  simp[a7q];exact .stop b7m
 | cons j js ih'=>
  intro len t h
  have g:=h j (.head _)
  by_cases h1:t < (a3l (numsOf j) len).length
  ·rw[c0g h1,a7q,List.take_append_of_le_length (by omega)]
   exact .stop (b7o g len t h1)
  ·obtain⟨l,hl⟩:∃l,(a3l (numsOf j) len).length=l:=⟨_,rfl⟩
   rw[hl]at h1
   rw[c0h hl (by omega),List.take_succ_cons,a7q,List.take_append,take_of_length_le (by omega),hl]
   exact .job (b7n g len _) g.a g.b (ih' _ _ fun j hj=>h j (.tail _ hj))
end
section
open PySem PySem.W
theorem a7e (jobs:List Job) (i:Nat):a1n jobs i=a7q (jobs.take i) 0:=by
 unfold a1n
 rw[b7v];rfl
theorem c6w {jobs:List Job} (h:∀j∈jobs,a8c j) (lack:Nat):RdR (a3d jobs lack) (jobs.take (a3h jobs lack)):=by
 have e1:a1n jobs jobs.length=a7q jobs 0:=by rw[a7e,take_length]
 have e2:a3d jobs lack=(a7q jobs 0).take ((a7q jobs 0).length - lack):=by rw[a3d,e1]
 have e3:(a3d jobs lack).length=(a7q jobs 0).length - lack:=by rw[e2,length_take];omega
 have e4:a3h jobs lack=whN jobs 0 ((a7q jobs 0).length - lack):=by
  unfold a3h whN a1x
  rw[e3,List.filter_map,length_map]
  congr 1
  refine List.filter_congr fun k _=>?_
  show decide ((a1n jobs (k+1)).length≤_)=_
  rw[a7e]
 rw[e4,e2]
 exact c5m jobs 0 _ h
theorem b0s (i:Nat):a0n.getD i ""∈a0n:=by
 unfold List.getD
 cases h:a0n[i]? with
 | none=>show("":Str)∈a0n;decide +kernel
 | some x=>exact mem_of_getElem? h
theorem b5u (k:Nat) (x:Int):a8c (b8x k x):=
 ⟨b0s _,b0s _,by have:=length_filter_le (c6e k x) (List.range 5);simpa [b8x] using this,fun y hy=>by have:=(mem_filter.mp hy).1;simpa using this⟩
theorem a1u (script:List Int):∀j∈a1a script,a8c j:=fun j hj=>by
 obtain⟨k,_,rfl⟩:=zM hj
 exact b5u _ _
theorem a5w (script:List Int):(a1a script).length=5:=by simp[a1a,a9w]
theorem b1h (script:List Int):a2x (a1a script):=
 ⟨by rw[a5w];exact Nat.le_refl _,fun j hj=>(a1u script j hj).a,fun j hj=>(a1u script j hj).b,fun j hj=>⟨(a1u script j hj).n,(a1u script j hj).lt⟩⟩
theorem b6x (script:List Int) (n:Nat):a0m ((a1a script).take n):=
 ⟨by rw[length_take,a5w];omega,fun j hj=>by
  have g:=a1u script j (List.mem_of_mem_take hj)
  exact⟨g.n,g.lt⟩⟩
theorem c2u:∀(xs:List Nat) (len:Nat),xs.length≤(a3l xs len).length:=by
 intro v'
 induction v' with
 | nil=>
  intro _
  exact Nat.le_refl _
 | cons x xs ih'=>
  intro len
  rw[a3l,length_append,length_cons]
  have:=ih' (len+(b2n x len).length)
  have h:=(b4n x).1
  have:(b2n x len).length=cnt x:=by simp[b2n]
  omega
theorem c2v:∀(js:List Job) (len:Nat),2 * js.length≤(a7q js len).length:=by
 intro v'
 induction v' with
 | nil=>
  intro _
  exact Nat.le_refl _
 | cons j js ih'=>
  intro len
  rw[a7q,length_append,length_cons]
  have h1:=ih' (len+(a3l (numsOf j) len).length)
  have h2:=c2u (numsOf j) len
  have h3:2≤(numsOf j).length:=by simp[numsOf];omega
  omega
theorem c6r (script:List Int) {lack:Nat} (h:((script.take 5).sum).fmod 7=(lack:Int)):lack≤(a1n (a1a script) (a1a script).length).length:=by
 rw[a7e,take_length]
 have h1:=c2v (a1a script) 0
 rw[a5w]at h1
 have h2:=Int.fmod_lt_of_pos ((script.take 5).sum) (show(0:Int) < 7 by decide)
 omega
theorem c6s (script:List Int):∃lack:Nat,((script.take 5).sum).fmod 7=(lack:Int):=
 ⟨(((script.take 5).sum).fmod 7).toNat,(Int.toNat_of_nonneg (Int.fmod_nonneg_of_pos _ (by decide))).symm⟩
end
section
open PySem.SeqAt
theorem b2t {α:Type} {f:α→D} {l:List α} (h:∀x∈l,(pyD (f x)).canLay0=true):PyData.canLayAll0 (b3w (l.map f))=true:=by
 induction l with
 | nil=>rfl
 | cons x l ih=>
  show((pyD (f x)).canLay0 && PyData.canLayAll0 (b3w (l.map f)))=true
  rw[h x (.head _),ih fun y hy=>h y (.tail _ hy)];rfl
theorem b8u (r:List Nat):(pyD (a1l r)).canLay0=true:=by
 show PyData.canLayAll0 (b3w (r.map dn))=true
 exact b2t fun x _=>rfl
theorem b1g {a:Str} (h:a∈a0n):(pyD (.str a)).canLay0=true:=by
 have:(a0n.all fun a=>(pyD (.str a)).canLay0)=true:=by decide +kernel
 exact all_eq_true.mp this a h
theorem c6p {j:Job} (g:a8c j):(pyD (a2n j)).canLay0=true:=by
 show(((pyD (.str j.a)).canLay0 && ((pyD (.str j.b)).canLay0 && true)) && ((pyD (a1l j.ns)).canLay0 && true))=true
 rw[b1g g.a,b1g g.b,b8u];rfl
theorem c6o (x:Bool×Rows):(pyD (c5q x)).canLay0=true:=by
 show(true && (PyData.canLayAll0 (b3w (x.2.map a1l)) && true))=true
 rw[b2t fun r _=>b8u r];rfl
theorem b3f {α:Type} {f:α→D} {l:List α} {m:Nat} (h:∀x∈l,(pyD (f x)).depth≤m):PyData.depthAll (b3w (l.map f))≤m:=by
 induction l with
 | nil=>exact Nat.zero_le _
 | cons x l ih=>
  show max (pyD (f x)).depth (PyData.depthAll (b3w (l.map f)))≤m
  exact Nat.max_le.mpr ⟨h x (.head _),ih fun y hy=>h y (.tail _ hy)⟩
theorem b9k (r:List Nat):(pyD (a1l r)).depth≤1:=by
 show PyData.depthAll (b3w (r.map dn))+1≤1
 exact Nat.succ_le_succ (b3f (m:=0) fun x _=>Nat.le_refl _)
theorem c7l (j:Job):(pyD (a2n j)).depth≤3:=by
 show max (max 0 (max 0 0)+1) (max (pyD (a1l j.ns)).depth 0)+1≤3
 have:=b9k j.ns
 omega
theorem c5g {js:List Job} (h:∀j∈js,a8c j):shaped (pyD (.list (js.map a2n)))=true:=by
 unfold shaped
 rw[Bool.and_eq_true]
 refine⟨?_,decide_eq_true ?_⟩
 ·show PyData.canLayAll0 (b3w (js.map a2n))=true
  exact b2t fun j hj=>c6p (h j hj)
 ·show PyData.depthAll (b3w (js.map a2n))+1≤64
  have:=b3f (f:=a2n) (l:=js) (m:=3) fun j _=>c7l j
  omega
theorem c8i (x:Bool×Rows):shaped (pyD (c5q x))=true:=by
 unfold shaped
 rw[Bool.and_eq_true]
 refine⟨c6o x,decide_eq_true ?_⟩
 show max 0 (max (PyData.depthAll (b3w (x.2.map a1l))+1) 0)+1≤64
 have:=b3f (f:=a1l) (l:=x.2) (m:=1) fun r _=>b9k r
 omega
end
section
open PySem PySem.W
noncomputable def npv (al:Al) (x:Nat):Int:=(a9p al x).getD 0
noncomputable def a0g (al:Al):List Nat:=al.map (·.1)
theorem b0a {f:Nat×Int×List Nat→Nat×Int×List Nat} (hf:∀e,(f e).1=e.1) (x:Nat):∀al:Al,(al.map f).find? (fun e=>e.1 == x)=(al.find? (fun e=>e.1 == x)).map f:=by
 intro v'
 induction v' with
 | nil=>
  exact rfl
 | cons e al ih'=>
  rw[map_cons,find?_cons,find?_cons,hf,ih']
  cases e.1 == x <;> rfl
theorem a1g {al:Al} {x:Nat}:al.find? (fun e=>e.1 == x)=none↔x∉a0g al:=by
 rw[List.find?_eq_none]
 unfold a0g
 rw[mem_map]
 exact⟨fun h ⟨e,he,hx⟩=>h e he (by simpa using hx),fun h e he hx=>h ⟨e,he,by simpa using hx⟩⟩
theorem a3u {al:Al} {x:Nat} {e:Nat×Int×List Nat} (h:al.find? (fun e=>e.1 == x)=some e):e.1=x:=by simpa using List.find?_some h
theorem b0f {al:Al} {k:Nat}:(al.any fun e=>e.1 == k)=decide (k∈a0g al):=by
 unfold a0g
 by_cases h:k∈al.map (·.1)
 ·rw[decide_eq_true h,List.any_eq_true]
  obtain⟨e,he,hx⟩:=zM h
  exact⟨e,he,by simpa using hx⟩
 ·rw[decide_eq_false h,List.any_eq_false]
  intro e he hx
  exact h (zN ⟨e,he,by simpa using hx⟩)
theorem b4k (al:Al) (k x:Nat):(a6m al k).find? (fun e=>e.1 == x)=if x∈a0g al then al.find? (fun e=>e.1 == x)else if x=k then some (k,0,[])else none:=by
 unfold a6m
 rw[b0f]
 by_cases hk:k∈a0g al
 ·rw[if_pos (by simpa using hk)]
  by_cases hx:x∈a0g al
  ·rw[if_pos hx]
  ·rw[if_neg hx,if_neg (fun e:x=k=>hx (e▸hk))];exact a1g.mpr hx
 ·rw[if_neg (by simpa using hk),List.find?_append]
  by_cases hx:x∈a0g al
  ·rw[if_pos hx]
   cases h:al.find? (fun e=>e.1 == x)with
   | none=>exact absurd hx (a1g.mp h)
   | some e=>rfl
  ·rw[if_neg hx,a1g.mpr hx]
   by_cases e:x=k
   ·subst e;simp
   ·have:(k == x)=false:=by simpa using fun h:k=x=>e h.symm
    simp[e,this]
theorem c4h (al:Al) (k x:Nat):a1p (a6m al k) x=a1p al x:=by
 unfold a1p
 rw[b4k]
 by_cases hx:x∈a0g al
 ·rw[if_pos hx]
 ·rw[if_neg hx,a1g.mpr hx]
  by_cases e:x=k <;> simp[e]
theorem c4i (al:Al) (k x:Nat):npv (a6m al k) x=npv al x:=by
 unfold npv a9p
 rw[b4k]
 by_cases hx:x∈a0g al
 ·rw[if_pos hx]
 ·rw[if_neg hx,a1g.mpr hx]
  by_cases e:x=k <;> simp[e]
theorem a6t (al:Al) (k x:Nat):x∈a0g (a6m al k)↔x∈a0g al∨x=k:=by
 unfold a6m
 rw[b0f]
 by_cases hk:k∈a0g al
 ·rw[if_pos (by simpa using hk)]
  exact⟨.inl,fun h=>h.elim id fun e=>e▸hk⟩
 ·rw[if_neg (by simpa using hk)]
  simp[a0g]
theorem b1q {al:Al} {k:Nat} (h:(a0g al).Nodup):(a0g (a6m al k)).Nodup:=by
 unfold a6m
 rw[b0f]
 by_cases hk:k∈a0g al
 ·rw[if_pos (by simpa using hk)];exact h
 ·rw[if_neg (by simpa using hk)]
  unfold a0g at *
  rw[map_append,nodup_append]
  exact⟨h,by simp,fun a ha b hb e=>hk (by
   rw[map_cons,map_nil,mem_singleton]at hb
   have:a=k:=e.trans hb
   exact this▸ha)⟩
theorem a3m (al:Al) (k:Nat) (n:Int):a0g (a3n al k n)=a0g al:=by
 unfold a0g a3n
 rw[map_map]
 exact map_congr_left fun e _=>by show(if e.1=k then(e.1,e.2.1+n,e.2.2)else e).1=e.1;split <;> rfl
theorem b1e (al:Al) (p k:Nat):a0g (a5v al p k)=a0g al:=by
 unfold a0g a5v
 rw[map_map]
 exact map_congr_left fun e _=>by show(if e.1=p then(e.1,e.2.1,e.2.2++[k])else e).1=e.1;split <;> rfl
theorem b1w (al:Al) (k x:Nat) (n:Int):(a3n al k n).find? (fun e=>e.1 == x)=(al.find? (fun e=>e.1 == x)).map fun e=>if e.1=k then(e.1,e.2.1+n,e.2.2)else e:=
 b0a (fun e=>by split <;> rfl) x al
theorem b1f (al:Al) (p k x:Nat):(a5v al p k).find? (fun e=>e.1 == x)=(al.find? (fun e=>e.1 == x)).map fun e=>if e.1=p then(e.1,e.2.1,e.2.2++[k])else e:=
 b0a (fun e=>by split <;> rfl) x al
theorem b9q (al:Al) (k x:Nat) (n:Int):a1p (a3n al k n) x=a1p al x:=by
 unfold a1p
 rw[b1w]
 cases al.find? (fun e=>e.1 == x)with
 | none=>rfl
 | some e=>simp only[Option.map_some,Option.getD_some];split <;> rfl
theorem a7y (al:Al) (k x:Nat) (n:Int):npv (a3n al k n) x=npv al x+if x=k∧k∈a0g al then n else 0:=by
 unfold npv a9p
 rw[b1w]
 cases h:al.find? (fun e=>e.1 == x)with
 | none=>
  have hx:=a1g.mp h
  rw[if_neg fun⟨a,b⟩=>hx (a▸b)];rfl
 | some e=>
  have hx:=a3u h
  have hm:x∈a0g al:=by
   by_cases hm:x∈a0g al
   ·exact hm
   ·exact nsn (a1g.mpr hm) h
  simp only[Option.map_some,Option.getD_some]
  by_cases e2:x=k
  ·rw[if_pos (hx.trans e2),if_pos ⟨e2,e2▸hm⟩]
  ·rw[if_neg (fun h=>e2 (hx.symm.trans h)),if_neg fun h=>e2 h.1];simp
theorem c6m (al:Al) (p k x:Nat):npv (a5v al p k) x=npv al x:=by
 unfold npv a9p
 rw[b1f]
 cases al.find? (fun e=>e.1 == x)with
 | none=>rfl
 | some e=>simp only[Option.map_some,Option.getD_some];split <;> rfl
theorem c6l (al:Al) (p k x:Nat):a1p (a5v al p k) x=a1p al x++if x=p∧p∈a0g al then[k]else[]:=by
 unfold a1p
 rw[b1f]
 cases h:al.find? (fun e=>e.1 == x)with
 | none=>
  have hx:=a1g.mp h
  rw[if_neg fun⟨a,b⟩=>hx (a▸b)];rfl
 | some e=>
  have hx:=a3u h
  have hm:x∈a0g al:=by
   by_cases hm:x∈a0g al
   ·exact hm
   ·exact nsn (a1g.mpr hm) h
  simp only[Option.map_some,Option.getD_some]
  by_cases e2:x=p
  ·rw[if_pos (hx.trans e2),if_pos ⟨e2,e2▸hm⟩]
  ·rw[if_neg (fun h=>e2 (hx.symm.trans h)),if_neg fun h=>e2 h.1];simp
end
section
open PySem PySem.W
noncomputable def a4w (al:Al) (k:Nat) (ps:List Nat):Al:=ps.foldl (fun al p=>a5v (a6m al p) p k) al
theorem c2i (k x:Nat):∀(ps:List Nat) (al:Al),npv (a4w al k ps) x=npv al x:=by
 intro v'
 induction v' with
 | nil=>
  intro al
  exact rfl
 | cons p ps ih'=>
  intro al
  show npv (a4w (a5v (a6m al p) p k) k ps) x=_
  rw[ih',c6m,c4i]
theorem b5o (k x:Nat):∀(ps:List Nat) (al:Al),x∈a0g (a4w al k ps)↔x∈a0g al∨x∈ps:=by
 intro v'
 induction v' with
 | nil=>
  intro al
  simp[a4w]
 | cons p ps ih'=>
  intro al
  show x∈a0g (a4w (a5v (a6m al p) p k) k ps)↔_
  rw[ih',b1e,a6t,mem_cons]
  exact⟨fun h=>h.elim (fun h=>h.imp_right .inl) fun h=>.inr (.inr h),fun h=>h.elim (fun h=>.inl (.inl h)) fun h=>h.elim (fun h=>.inl (.inr h)) .inr⟩
theorem b2q (k:Nat):∀(ps:List Nat) (al:Al),(a0g al).Nodup→(a0g (a4w al k ps)).Nodup:=by
 intro v'
 induction v' with
 | nil=>
  intro al h
  exact h
 | cons p ps ih'=>
  intro al h
  exact ih' _ (by rw[b1e];exact b1q h)
theorem c2h (k x:Nat):∀(ps:List Nat) (al:Al),a1p (a4w al k ps) x=a1p al x++(ps.filter (· == x)).map fun _=>k:=by
 intro v'
 induction v' with
 | nil=>
  intro al
  simp[a4w]
 | cons p ps ih'=>
  intro al
  show a1p (a4w (a5v (a6m al p) p k) k ps) x=_
  rw[ih',c6l,c4h,filter_cons]
  have hp:p∈a0g (a6m al p):=(a6t al p p).mpr (.inr rfl)
  by_cases e:x=p
  ·subst e
   rw[if_pos ⟨rfl,hp⟩,if_pos (by simp)];simp
  ·rw[if_neg fun h=>e h.1,if_neg (by simpa using fun h:p=x=>e h.symm)];simp
theorem a4r (al:Al) (k:Nat) (ps:List Nat):b9y al k ps=a4w (a3n (a6m al k) k ps.length) k ps:=rfl
theorem b3o (al:Al) (k x:Nat) (ps:List Nat):npv (b9y al k ps) x=npv al x+if x=k then(ps.length:Int)else 0:=by
 rw[a4r,c2i,a7y,c4i]
 have hk:k∈a0g (a6m al k):=(a6t al k k).mpr (.inr rfl)
 by_cases e:x=k
 ·rw[if_pos ⟨e,hk⟩,if_pos e]
 ·rw[if_neg fun h=>e h.1,if_neg e]
theorem a8b (al:Al) (k x:Nat) (ps:List Nat):x∈a0g (b9y al k ps)↔x∈a0g al∨x=k∨x∈ps:=by
 rw[a4r,b5o,a3m,a6t,or_assoc]
theorem a6e {al:Al} {k:Nat} {ps:List Nat} (h:(a0g al).Nodup):(a0g (b9y al k ps)).Nodup:=by
 rw[a4r]
 exact b2q k ps _ (by rw[a3m];exact b1q h)
theorem b3n (al:Al) (k x:Nat) (ps:List Nat):a1p (b9y al k ps) x=a1p al x++(ps.filter (· == x)).map fun _=>k:=by
 rw[a4r,c2h,b9q,c4h]
noncomputable def b4y (ns:List Nat):Nat:=if ns.length > 1 then 2 else 1
theorem c7w (al:Al) (k x:Nat) (ns:List Nat):npv (b1x al k ns) x=npv al x+if x=k then((b4y ns * ns.length:Nat):Int)else 0:=by
 unfold b1x b4y
 by_cases h:ns.length > 1
 ·rw[if_pos h,if_pos h,b3o,b3o,List.length_reverse]
  by_cases e:x=k
  ·simp only[if_pos e];omega
  ·simp only[if_neg e];omega
 ·rw[if_neg h,if_neg h,b3o,Nat.one_mul]
theorem b9x (al:Al) (k x:Nat) (ns:List Nat):x∈a0g (b1x al k ns)↔x∈a0g al∨x=k∨x∈ns:=by
 unfold b1x
 split
 ·rw[a8b,a8b,List.mem_reverse]
  exact⟨fun h=>h.elim id .inr,.inl⟩
 ·exact a8b al k x ns
theorem b6h {al:Al} {k:Nat} {ns:List Nat} (h:(a0g al).Nodup):(a0g (b1x al k ns)).Nodup:=by
 unfold b1x
 split
 ·exact a6e (a6e h)
 ·exact a6e h
theorem b6i (al:Al) (k x y:Nat) (ns:List Nat):(a1p (b1x al k ns) x).count y=(a1p al x).count y+if y=k then b4y ns * ns.count x else 0:=by
 have h1:∀ps:List Nat,((ps.filter (· == x)).map fun _=>k).count y=if y=k then ps.count x else 0:=fun ps=>by
  induction ps with
  | nil=>simp
  | cons p ps ih=>
   rw[filter_cons,count_cons]
   by_cases e:p=x
   ·subst e
    simp only[beq_self_eq_true,if_true]
    rw[map_cons,count_cons,ih]
    by_cases e2:y=k
    ·subst e2;simp
    ·have:(k == y)=false:=by simpa using fun h:k=y=>e2 h.symm
     simp only[this,if_neg e2];rfl
   ·have:(p == x)=false:=by simpa using e
    simp only[this,Bool.false_eq_true,if_false,Nat.add_zero]
    exact ih
 unfold b1x b4y
 by_cases h:ns.length > 1
 ·rw[if_pos h,if_pos h,b3n,b3n,List.count_append,List.count_append,h1,h1,List.count_reverse]
  by_cases e:y=k
  ·simp only[if_pos e];omega
  ·simp only[if_neg e,Nat.add_zero]
 ·rw[if_neg h,if_neg h,b3n,List.count_append,h1,Nat.one_mul]
end
section
open PySem PySem.W
noncomputable def a6d (jobs:List Job) (i:Nat):Al:=(jobs.zipIdx.take i).foldl (fun al p=>b1x al p.2 p.1.ns) []
theorem a5m (jobs:List Job):a6d jobs jobs.length=a0t jobs:=by
 unfold a6d a0t
 rw[show jobs.length=jobs.zipIdx.length by simp,take_length]
theorem a4q {jobs:List Job} {i:Nat} (h:i < jobs.length):a6d jobs (i+1)=b1x (a6d jobs i) i (a0h jobs i):=by
 obtain⟨j,hj⟩:∃j,jobs[i]? =some j:=⟨_,getElem?_eq_getElem h⟩
 unfold a6d a0h
 rw[take_add_one,List.getElem?_zipIdx,hj,foldl_append]
 simp
noncomputable def wt (jobs:List Job) (k:Nat):Nat:=b4y (a0h jobs k)
theorem a5k {jobs:List Job} {k:Nat} (h:jobs.length≤k):a0h jobs k=[]:=by
 unfold a0h
 rw[List.getElem?_eq_none h];rfl
theorem c3n (jobs:List Job) (x:Nat):∀i,i≤jobs.length→npv (a6d jobs i) x=if x < i then((wt jobs x * (a0h jobs x).length:Nat):Int)else 0:=by
 intro v'
 induction v' with
 | zero=>
  intro _
  simp[a6d,npv,a9p]
 | succ i ih'=>
  intro h
  rw[a4q (by omega),c7w,ih' (by omega)]
  by_cases e:x=i
  ·subst e
   rw[if_neg (Nat.lt_irrefl _),if_pos rfl,if_pos (by omega)];simp[wt]
  ·by_cases h2:x < i
   ·rw[if_pos h2,if_neg e,if_pos (by omega)];simp
   ·rw[if_neg h2,if_neg e,if_neg (by omega)];simp
theorem b3m (jobs:List Job) (x y:Nat):∀i,i≤jobs.length→(a1p (a6d jobs i) x).count y=if y < i then wt jobs y * (a0h jobs y).count x else 0:=by
 intro v'
 induction v' with
 | zero=>
  intro _
  simp[a6d,a1p]
 | succ i ih'=>
  intro h
  rw[a4q (by omega),b6i,ih' (by omega)]
  by_cases e:y=i
  ·subst e
   rw[if_neg (Nat.lt_irrefl _),if_pos rfl,if_pos (by omega)];simp[wt]
  ·by_cases h2:y < i
   ·rw[if_pos h2,if_neg e,if_pos (by omega)];simp
   ·rw[if_neg h2,if_neg e,if_neg (by omega)]
theorem b6g (jobs:List Job) (x:Nat):∀i,i≤jobs.length→(x∈a0g (a6d jobs i)↔x < i∨∃y,y < i∧x∈a0h jobs y):=by
 intro v'
 induction v' with
 | zero=>
  intro _
  simp[a6d,a0g]
 | succ i ih'=>
  intro h
  rw[a4q (by omega),b9x,ih' (by omega)]
  constructor
  ·rintro((h1 | ⟨y,h1,h2⟩) | h1 | h1)
   ·exact .inl (by omega)
   ·exact .inr ⟨y,by omega,h2⟩
   ·exact .inl (by omega)
   ·exact .inr ⟨i,by omega,h1⟩
  ·rintro(h1 | ⟨y,h1,h2⟩)
   ·by_cases e:x=i
    ·exact .inr (.inl e)
    ·exact .inl (.inl (by omega))
   ·by_cases e:y=i
    ·exact .inr (.inr (e▸h2))
    ·exact .inl (.inr ⟨y,by omega,h2⟩)
theorem b3l (jobs:List Job):∀i,i≤jobs.length→(a0g (a6d jobs i)).Nodup:=by
 intro v'
 induction v' with
 | zero=>
  intro _
  simp[a6d,a0g]
 | succ i ih'=>
  intro h
  rw[a4q (by omega)]
  exact b6h (ih' (by omega))
theorem b9u (jobs:List Job) (x:Nat):npv (a0t jobs) x=((wt jobs x * (a0h jobs x).length:Nat):Int):=by
 rw[←a5m,c3n jobs x _ (Nat.le_refl _)]
 by_cases h:x < jobs.length
 ·rw[if_pos h]
 ·rw[if_neg h,a5k (by omega)];simp
theorem a6c (jobs:List Job) (x y:Nat):(a1p (a0t jobs) x).count y=wt jobs y * (a0h jobs y).count x:=by
 rw[←a5m,b3m jobs x y _ (Nat.le_refl _)]
 by_cases h:y < jobs.length
 ·rw[if_pos h]
 ·rw[if_neg h,a5k (by omega)];simp
theorem b3p (jobs:List Job) (k:Nat):1≤wt jobs k∧wt jobs k≤2:=by
 unfold wt b4y;split <;> omega
theorem a3x (jobs:List Job) (x y:Nat):y∈a1p (a0t jobs) x↔x∈a0h jobs y:=by
 rw[←List.count_pos_iff,a6c,←List.count_pos_iff]
 have:=(b3p jobs y).1
 constructor
 ·intro h;exact Nat.pos_of_ne_zero fun e=>by rw[e]at h;simp at h
 ·intro h;exact Nat.mul_pos this h
theorem a5l (jobs:List Job) (x:Nat):x∈a0g (a0t jobs)↔x < jobs.length∨∃y,y < jobs.length∧x∈a0h jobs y:=by
 rw[←a5m]
 exact b6g jobs x _ (Nat.le_refl _)
theorem a6b (jobs:List Job):(a0g (a0t jobs)).Nodup:=by
 rw[←a5m]
 exact b3l jobs _ (Nat.le_refl _)
theorem b0o {al:Al} (hn:(a0g al).Nodup) {e:Nat×Int×List Nat} (he:e∈al):al.find? (fun q=>q.1 == e.1)=some e:=by
 induction al with
 | nil=>cases he
 | cons q al ih=>
  rw[find?_cons]
  unfold a0g at hn
  rw[map_cons,nodup_cons]at hn
  rcases a0o he with rfl | he
  ·simp
  ·have:(q.1 == e.1)=false:=by simpa using fun h:q.1=e.1=>hn.1 (h▸zN ⟨e,he,rfl⟩)
   rw[this]
   exact ih hn.2 he
theorem c3m (jobs:List Job):∀e∈a0t jobs,∀y∈e.2.2,y∈(a0t jobs).map (·.1):=fun e he y hy=>by
 have h1:a1p (a0t jobs) e.1=e.2.2:=by unfold a1p;rw[b0o (a6b jobs) he];rfl
 have h2:=(a3x jobs e.1 y).mp (h1▸hy)
 refine(a5l jobs y).mpr (.inl ?_)
 by_cases h:y < jobs.length
 ·exact h
 ·rw[a5k (by omega)]at h2;cases h2
end
section
open PySem PySem.W
section
variable {sc:Nat→List Nat}
inductive Rch (sc:Nat→List Nat):Nat→Nat→Prop
 | one {x y:Nat}:y∈sc x→Rch sc x y
 | more {x y z:Nat}:y∈sc x→Rch sc y z→Rch sc x z
theorem Rch.snoc {x y z:Nat} (h:Rch sc x y) (hz:z∈sc y):Rch sc x z:=by
 induction h with
 | one h=>exact .more h (.one hz)
 | more h _ ih=>exact .more h (ih hz)
noncomputable def Ch (sc:Nat→List Nat):List (Nat×List Nat)→Nat→Prop
 | [],_=>True
 | (v,r)::st,x=>x∈sc v∧(∀y∈r,y∈sc v)∧Ch sc st v
noncomputable def ChT (sc:Nat→List Nat):List (Nat×List Nat)→Prop
 | []=>True
 | (v,r)::st=>(∀y∈r,y∈sc v)∧Ch sc st v
theorem Ch.top {x:Nat}:∀{st:List (Nat×List Nat)},Ch sc st x→ChT sc st:=by
 intro v'
 induction v' with
 | nil=>
  intro _
  exact trivial
 | cons hd' st ih'=>
  intro h
  obtain⟨v,r⟩:=hd'
  exact h.2
theorem Ch.reach {y:Nat}:∀{st:List (Nat×List Nat)} {x:Nat},Ch sc st x→y∈st.map (·.1)→Rch sc y x
 | (v,r)::st,x,h,hy=>by
  rcases zC hy with e | hy
  ·have e:y=v:=e
   exact e▸.one h.1
  ·exact(Ch.reach h.2.2 hy).snoc h.1
theorem ChT.bt:∀{st:List (Nat×List Nat)} {y:Nat} {st':List (Nat×List Nat)},ChT sc st→bt st=some (y,st')→Ch sc st' y
 | (v,[])::st,y,st',h,e=>ChT.bt (Ch.top h.2) e
 | (v,z::r)::st,y,st',h,e=>by
  cases e
  exact⟨h.1 _ (.head _),fun y hy=>h.1 y (.tail _ hy),h.2⟩
theorem c2z:∀(n:Nat) (seen:List Nat) (st:List (Nat×List Nat)) (x:Nat),Ch sc st x→dfs sc n seen st x=some none→∃v,Rch sc v v:=by
 intro v'
 induction v' with
 | zero=>
  intro seen st x h e
  cases e
 | succ n ih'=>
  intro seen st x h e
  rw[c2y]at e
  by_cases h1:x∈seen∧x∈st.map (·.1)
  ·exact⟨x,h.reach h1.2⟩
  ·rw[if_neg h1]at e
   have hT:ChT sc (if x∈seen then st else(x,sc x)::st):=by
    split
    ·exact h.top
    ·exact⟨fun y hy=>hy,h⟩
   cases hb:bt (if x∈seen then st else(x,sc x)::st)with
   | none=>rw[hb]at e;cases e
   | some p=>
    rw[hb]at e
    exact ih' _ p.2 p.1 (hT.bt hb) e
theorem a5b (n:Nat):∀(ks seen:List Nat),a2u sc n ks seen=some true→∃v,Rch sc v v
 | k::ks,seen,e=>by
  rw[a6u]at e
  by_cases h:k∈seen
  ·rw[if_pos h]at e;exact a5b n ks seen e
  ·rw[if_neg h]at e
   cases hd:dfs sc n seen [] k with
   | none=>rw[hd]at e;cases e
   | some o=>
    rw[hd]at e
    cases o with
    | none=>exact c2z n seen [] k trivial hd
    | some seen'=>exact a5b n ks seen' e
inductive b6p (sc:Nat→List Nat):List Nat→Prop
 | nil:b6p sc []
 | cons {v:Nat} {l:List Nat}:(∀y∈sc v,y∈l)→v∉l→b6p sc l→b6p sc (v::l)
theorem b6p.no_ring {l:List Nat} (h:b6p sc l):∀x∈l,(∀y,Rch sc x y→y∈l)∧¬Rch sc x x:=by
 induction h with
 | nil=>intro x hx;cases hx
 | @cons v l hs hv _ ih=>
  have key:∀y,Rch sc v y→y∈l:=fun y hr=>by
   cases hr with
   | one h=>exact hs _ h
   | more h hr=>exact(ih _ (hs _ h)).1 _ hr
  intro x hx
  rcases a0o hx with rfl | hx
  ·exact⟨fun y hr=>.tail _ (key y hr),fun hr=>hv (key _ hr)⟩
  ·exact⟨fun y hr=>.tail _ ((ih x hx).1 y hr),(ih x hx).2⟩
end
end
section
open PySem PySem.W
section
variable {sc:Nat→List Nat}
noncomputable def Iv (sc:Nat→List Nat) (l:List Nat):List (Nat×List Nat)→Nat→Prop
 | [],_=>True
 | (v,r)::st,x=>(∀y∈sc v,y∈r∨y∈l∨y=x)∧Iv sc l st v
noncomputable def IvT (sc:Nat→List Nat) (l:List Nat):List (Nat×List Nat)→Prop
 | []=>True
 | (v,r)::st=>(∀y∈sc v,y∈r∨y∈l)∧Iv sc l st v
theorem Iv.mono {l l':List Nat} (h:∀x∈l,x∈l'):∀{st:List (Nat×List Nat)} {x:Nat},Iv sc l st x→Iv sc l' st x:=by
 intro v'
 induction v' with
 | nil=>
  intro _ _
  exact trivial
 | cons hd' st ih'=>
  intro x i
  obtain⟨v,r⟩:=hd'
  exact⟨fun y hy=>(i.1 y hy).imp_right (Or.imp_left (h y)),ih' i.2⟩
theorem Iv.top {l:List Nat} {x:Nat} (hx:x∈l):∀{st:List (Nat×List Nat)},Iv sc l st x→IvT sc l st:=by
 intro v'
 induction v' with
 | nil=>
  intro _
  exact trivial
 | cons hd' st ih'=>
  intro i
  obtain⟨v,r⟩:=hd'
  exact⟨fun y hy=>(i.1 y hy).imp_right fun h=>h.elim id fun e=>e▸hx,i.2⟩
theorem d1i:∀(st:List (Nat×List Nat)) (l:List Nat),b6p sc l→IvT sc l st→(st.map (·.1)).Nodup→(∀x∈st.map (·.1),x∉l)→
  (bt st=none→∃l',b6p sc l'∧∀x,x∈l'↔x∈l∨x∈st.map (·.1))∧
  (∀y st',bt st=some (y,st')→∃l',b6p sc l'∧Iv sc l' st' y∧(st'.map (·.1)).Nodup∧(∀x∈st'.map (·.1),x∉l')∧∀x,(x∈l'∨x∈st'.map (·.1))↔(x∈l∨x∈st.map (·.1))):=by
 intro v'
 induction v' with
 | nil=>
  intro l hf _ _ _
  exact⟨fun _=>⟨l,hf,fun x=>(by simp)⟩,fun y st' e=>(by cases e)⟩
 | cons hd' st ih'=>
  obtain⟨v,w'⟩:=hd'
  cases w' with
  | nil=>
   intro l hf hi hn hd
   rw[map_cons,nodup_cons]at hn
   have hv:v∉l:=hd v (.head _)
   have hs:∀y∈sc v,y∈l:=fun y hy=>(hi.1 y hy).resolve_left not_mem_nil
   have ih:=ih' (v::l) (.cons hs hv hf) (Iv.top (.head _) (hi.2.mono fun x hx=>.tail _ hx)) hn.2 (fun x hx hm=>by
    rcases zC hm with e | hm
    ·exact hn.1 (e▸hx)
    ·exact hd x (.tail _ hx) hm)
   have sets:∀x,(x∈v::l∨x∈st.map (·.1))↔(x∈l∨x∈((v,([]:List Nat))::st).map (·.1)):=fun x=>by
    rw[map_cons,mem_cons,mem_cons]
    exact⟨fun h=>h.elim (fun h=>h.elim (fun h=>.inr (.inl h)) .inl) fun h=>.inr (.inr h),fun h=>h.elim (fun h=>.inl (.inr h)) fun h=>h.elim (fun h=>.inl (.inl h)) .inr⟩
   refine⟨fun e=>?_,fun y st' e=>?_⟩
   ·obtain⟨l',h1,h2⟩:=ih.1 e
    exact⟨l',h1,fun x=>(h2 x).trans (sets x)⟩
   ·obtain⟨l',h1,h2,h3,h4,h5⟩:=ih.2 y st' e
    exact⟨l',h1,h2,h3,h4,fun x=>(h5 x).trans (sets x)⟩
  | cons z r=>
   intro l hf hi hn hd
   refine⟨fun e=>(by cases e),fun y st' e=>?_⟩
   cases e
   refine⟨l,hf,⟨fun y hy=>?_,hi.2⟩,hn,hd,fun x=>Iff.rfl⟩
   rcases hi.1 y hy with h | h
   ·rcases zC h with h | h
    ·exact .inr (.inr h)
    ·exact .inl h
   ·exact .inr (.inl h)
theorem c7k:∀(n:Nat) (seen:List Nat) (st:List (Nat×List Nat)) (x:Nat) (l seen':List Nat),b6p sc l→Iv sc l st x→(st.map (·.1)).Nodup→(∀y∈st.map (·.1),y∉l)→(∀y,y∈seen↔y∈l∨y∈st.map (·.1))→dfs sc n seen st x=some (some seen')→
  ∃l',b6p sc l'∧(∀y,y∈seen'↔y∈l')∧(∀y∈seen,y∈seen')∧x∈seen':=by
 intro v'
 induction v' with
 | zero=>
  intro seen st x l seen' hf hi hn hd hs e
  cases e
 | succ n ih'=>
  intro seen st x l seen' hf hi hn hd hs e
  rw[c2y]at e
  by_cases h1:x∈seen∧x∈st.map (·.1)
  ·rw[if_pos h1]at e;cases e
  ·rw[if_neg h1]at e
   obtain⟨st1,hst⟩:∃st1,st1=if x∈seen then st else(x,sc x)::st:=⟨_,rfl⟩
   obtain⟨s1,hs1⟩:∃s1,s1=if x∈seen then seen else seen++[x]:=⟨_,rfl⟩
   rw[←hst,←hs1]at e
   have hT:IvT sc l st1∧(st1.map (·.1)).Nodup∧(∀y∈st1.map (·.1),y∉l)∧(∀y,y∈s1↔y∈l∨y∈st1.map (·.1))∧(∀y∈seen,y∈s1)∧x∈s1:=by
    by_cases hx:x∈seen
    ·rw[if_pos hx]at hst hs1
     subst hst hs1
     have hxl:x∈l:=((hs x).mp hx).resolve_right fun h=>h1 ⟨hx,h⟩
     exact⟨Iv.top hxl hi,hn,hd,hs,fun y hy=>hy,hx⟩
    ·rw[if_neg hx]at hst hs1
     subst hst hs1
     have hx':x∉l∧x∉st.map (·.1):=⟨fun h=>hx ((hs x).mpr (.inl h)),fun h=>hx ((hs x).mpr (.inr h))⟩
     refine⟨⟨fun y hy=>.inl hy,hi⟩,by rw[map_cons,nodup_cons];exact⟨hx'.2,hn⟩,fun y hy=>?_,fun y=>?_,fun y hy=>zB (.inl hy),zB (.inr (.head _))⟩
     ·rcases zC hy with h | h
      ·have h:y=x:=h
       exact h▸hx'.1
      ·exact hd y h
     ·rw[mem_append,mem_singleton,hs y,map_cons,mem_cons]
      exact⟨fun h=>h.elim (fun h=>h.imp_right .inr) fun h=>.inr (.inl h),fun h=>h.elim (fun h=>.inl (.inl h)) fun h=>h.elim .inr fun h=>.inl (.inr h)⟩
   obtain⟨t1,t2,t3,t4,t5,t6⟩:=hT
   have hb:=d1i st1 l hf t1 t2 t3
   cases hbt:bt st1 with
   | none=>
    rw[hbt]at e
    have e:s1=seen':=Option.some.inj (Option.some.inj e)
    obtain⟨l',f1,f2⟩:=hb.1 hbt
    exact⟨l',f1,fun y=>by rw[←e,t4 y,f2 y],e▸t5,e▸t6⟩
   | some p=>
    rw[hbt]at e
    obtain⟨l',f1,f2,f3,f4,f5⟩:=hb.2 p.1 p.2 hbt
    obtain⟨l'',g1,g2,g3,g4⟩:=ih' s1 p.2 p.1 l' seen' f1 f2 f3 f4 (fun y=>by rw[t4 y,f5 y]) e
    exact⟨l'',g1,g2,fun y hy=>g3 y (t5 y hy),g3 x t6⟩
theorem b6a (n:Nat):∀(ks seen l:List Nat),b6p sc l→(∀y,y∈seen↔y∈l)→a2u sc n ks seen=some false→∃l',b6p sc l'∧(∀y∈seen,y∈l')∧∀k∈ks,k∈l':=by
 intro v'
 induction v' with
 | nil=>
  intro seen l hf hs _
  exact⟨l,hf,fun y hy=>(hs y).mp hy,fun k hk=>by cases hk⟩
 | cons k ks ih'=>
  intro seen l hf hs e
  rw[a6u]at e
  by_cases h:k∈seen
  ·rw[if_pos h]at e
   obtain⟨l',a,b,c⟩:=ih' seen l hf hs e
   exact⟨l',a,b,fun q hq=>by
    rcases a0o hq with rfl | hq
    ·exact b _ h
    ·exact c q hq⟩
  ·rw[if_neg h]at e
   cases hd:dfs sc n seen [] k with
   | none=>rw[hd]at e;cases e
   | some o=>
    rw[hd]at e
    cases o with
    | none=>cases e
    | some seen'=>
     obtain⟨l1,a1,b1,c1,d1⟩:=c7k n seen [] k l seen' hf trivial nodup_nil (fun y hy=>by cases hy) (fun y=>by rw[hs y];simp) hd
     obtain⟨l',a,b,c⟩:=ih' seen' l1 a1 b1 e
     exact⟨l',a,fun y hy=>b y (c1 y hy),fun q hq=>by
      rcases a0o hq with rfl | hq
      ·exact b _ d1
      ·exact c q hq⟩
end
end
section
open PySem PySem.W
section
variable {sc:Nat→List Nat}
noncomputable def c1b (st:List (Nat×List Nat)):Nat:=(st.map fun p=>p.2.length).sum
noncomputable def unS (sc:Nat→List Nat):List Nat→List Nat→Nat
 | [],_=>0
 | k::ks,seen=>(if k∈seen then 0 else(sc k).length+1)+unS sc ks seen
theorem b4x {sc:Nat→List Nat} {k:Nat}:unS sc (k::ks) seen=(if k∈seen then 0 else(sc k).length+1)+unS sc ks seen:=rfl
theorem c8c:∀(ks seen:List Nat) (x:Nat),unS sc ks (seen++[x])≤unS sc ks seen:=by
 intro v'
 induction v' with
 | nil=>
  intro _ _
  exact Nat.le_refl _
 | cons k ks ih'=>
  intro seen x
  have ih:=ih' seen x
  rw[b4x,b4x]
  by_cases h:k∈seen
  ·rw[if_pos h,if_pos (zB (.inl h))];omega
  ·rw[if_neg h]
   split <;> omega
theorem b3r:∀(ks seen:List Nat) (x:Nat),x∈ks→x∉seen→unS sc ks (seen++[x])+(sc x).length+1≤unS sc ks seen
 | k::ks,seen,x,hx,hs=>by
  have ih:=c8c (sc:=sc) ks seen x
  rw[b4x,b4x]
  rcases a0o hx with rfl | hx
  ·rw[if_neg hs,if_pos (zB (.inr (.head _)))];omega
  ·have:=b3r ks seen x hx hs
   by_cases h:k∈seen
   ·rw[if_pos h,if_pos (zB (.inl h))];omega
   ·rw[if_neg h]
    split <;> omega
theorem c4x:∀(ks seen:List Nat),unS sc ks seen≤unS sc ks []:=by
 intro v'
 induction v' with
 | nil=>
  intro _
  exact Nat.le_refl _
 | cons k ks ih'=>
  intro seen
  have:=ih' seen
  rw[b4x,b4x]
  rw[if_neg (show k∉([]:List Nat)from not_mem_nil)]
  split <;> omega
theorem c4n {K:Nat→Prop}:∀{st:List (Nat×List Nat)} {y:Nat} {st':List (Nat×List Nat)},bt st=some (y,st')→(∀p∈st,∀z∈p.2,K z)→c1b st'+1≤c1b st∧K y∧∀p∈st',∀z∈p.2,K z
 | (v,[])::st,y,st',e,h=>by
  have ih:=c4n (st:=st) e fun p hp=>h p (.tail _ hp)
  exact⟨by have:=ih.1;simp[c1b]at this ⊢;exact this,ih.2⟩
 | (v,z::r)::st,y,st',e,h=>by
  cases e
  refine⟨by simp[c1b];omega,h _ (.head _) _ (.head _),fun p hp q hq=>?_⟩
  rcases a0o hp with rfl | hp
  ·exact h _ (.head _) q (.tail _ hq)
  ·exact h p (.tail _ hp) q hq
theorem c3a (hc:∀k∈ks,∀y∈sc k,y∈ks):∀(n:Nat) (seen:List Nat) (st:List (Nat×List Nat)) (x:Nat),x∈ks→(∀p∈st,∀z∈p.2,z∈ks)→unS sc ks seen+c1b st < n→∃o,dfs sc n seen st x=some o:=by
 intro v'
 induction v' with
 | zero=>
  intro _ _ _ _ _ h
  omega
 | succ n ih'=>
  intro seen st x hx hst h
  rw[c2y]
  by_cases h1:x∈seen∧x∈st.map (·.1)
  ·rw[if_pos h1];exact⟨_,rfl⟩
  ·rw[if_neg h1]
   have key:(∀p∈(if x∈seen then st else(x,sc x)::st),∀z∈p.2,z∈ks)∧unS sc ks (if x∈seen then seen else seen++[x])+c1b (if x∈seen then st else(x,sc x)::st)≤unS sc ks seen+c1b st:=by
    by_cases hs:x∈seen
    ·simp only[if_pos hs];exact⟨hst,Nat.le_refl _⟩
    ·simp only[if_neg hs]
     refine⟨fun p hp z hz=>?_,?_⟩
     ·rcases a0o hp with rfl | hp
      ·exact hc x hx z hz
      ·exact hst p hp z hz
     ·have:=b3r (sc:=sc) ks seen x hx hs
      simp[c1b]at this ⊢
      omega
   cases hb:bt (if x∈seen then st else(x,sc x)::st)with
   | none=>exact⟨_,rfl⟩
   | some p=>
    obtain⟨a,b,c⟩:=c4n (K:=fun z=>z∈ks) (y:=p.1) (st':=p.2) hb key.1
    exact ih' _ p.2 p.1 b c (by have:=key.2;omega)
theorem b3e (hc:∀k∈ks,∀y∈sc k,y∈ks) {n:Nat} (hn:unS sc ks [] < n):∀(l seen:List Nat),(∀k∈l,k∈ks)→∃c,a2u sc n l seen=some c:=by
 intro v'
 induction v' with
 | nil=>
  intro _ _
  exact⟨_,rfl⟩
 | cons k l ih'=>
  intro seen h
  rw[a6u]
  by_cases hs:k∈seen
  ·rw[if_pos hs];exact ih' seen fun q hq=>h q (.tail _ hq)
  ·rw[if_neg hs]
   obtain⟨o,ho⟩:=c3a hc n seen [] k (h k (.head _)) (fun p hp=>by cases hp) (by have:=c4x (sc:=sc) ks seen;simp[c1b];omega)
   rw[ho]
   cases o with
   | none=>exact⟨_,rfl⟩
   | some seen'=>exact ih' seen' fun q hq=>h q (.tail _ hq)
theorem b9i (hc:∀k∈ks,∀y∈sc k,y∈ks) (h0:∀x y,y∈sc x→x∈ks):∃N c,a2u sc N ks []=some c∧(c=true↔∃v,Rch sc v v):=by
 obtain⟨c,e⟩:=b3e hc (n:=unS sc ks []+1) (by omega) ks [] fun _ h=>h
 refine⟨_,c,e,?_⟩
 cases c with
 | true=>exact⟨fun _=>a5b _ ks [] e,fun _=>rfl⟩
 | false=>
  refine⟨fun h=>(by cases h),fun⟨v,hv⟩=>?_⟩
  obtain⟨l,hf,_,hk⟩:=b6a _ ks [] [] .nil (fun y=>Iff.rfl) e
  have hvk:v∈ks:=by
   cases hv with
   | one h=>exact h0 _ _ h
   | more h _=>exact h0 _ _ h
  exact absurd hv (hf.no_ring v (hk v hvk)).2
end
end
section
open PySem PySem.W
section
variable {B:Nat→List Nat}
noncomputable def Ry (B:Nat→List Nat):Nat→Nat→Nat→Prop
 | 0,_,_=>False
 | m+1,k,j=>j∈B k∨∃i,i∈B k∧Ry B m i j
theorem Ry.up:∀{m k j:Nat},Ry B m k j→Ry B (m+1) k j
 | m+1,k,j,.inl h=>.inl h
 | m+1,k,j,.inr ⟨i,h1,h2⟩=>.inr ⟨i,h1,Ry.up h2⟩
theorem Ry.mono {m n k j:Nat} (h:Ry B m k j) (hn:m≤n):Ry B n k j:=by
 induction n with
 | zero=>have:m=0:=(by omega);exact this▸h
 | succ n ih=>
  by_cases e:m=n+1
  ·exact e▸h
  ·exact(ih (by omega)).up
theorem Ry.add:∀{m n k i j:Nat},Ry B m k i→Ry B n i j→Ry B (m+n) k j
 | m+1,n,k,i,j,.inl h,h2=>by
  rw[show m+1+n=(m+n)+1 by omega]
  exact .inr ⟨i,h,h2.mono (by omega)⟩
 | m+1,n,k,i,j,.inr ⟨a,h1,h⟩,h2=>by
  rw[show m+1+n=(m+n)+1 by omega]
  exact .inr ⟨a,h1,Ry.add h h2⟩
theorem Ry.split:∀{m n k j:Nat},Ry B (m+n) k j→Ry B m k j∨Ry B n k j∨∃i,Ry B m k i∧Ry B n i j:=by
 intro v'
 induction v' with
 | zero=>
  intro n k j h
  rw[Nat.zero_add]at h;exact .inr (.inl h)
 | succ m ih'=>
  intro n k j h
  rw[show m+1+n=(m+n)+1 by omega]at h
  rcases h with h | ⟨a,h1,h⟩
  ·exact .inl (.inl h)
  ·rcases ih' h with h | h | ⟨i,h2,h3⟩
   ·exact .inl (.inr ⟨a,h1,h⟩)
   ·exact .inr (.inr ⟨a,.inl h1,h⟩)
   ·exact .inr (.inr ⟨i,.inr ⟨a,h1,h2⟩,h3⟩)
theorem Ry.rch {m:Nat}:∀{k j:Nat},Ry B m k j→Rch B k j:=by
 induction m with
 | zero=>intro k j h;exact h.elim
 | succ m ih=>
  intro k j h
  rcases h with h | ⟨i,h1,h2⟩
  ·exact .one h
  ·exact .more h1 (ih h2)
theorem Rch.ry {k j:Nat} (h:Rch B k j):∃m,Ry B m k j:=by
 induction h with
 | one h=>exact⟨1,.inl h⟩
 | more h _ ih=>obtain⟨m,hm⟩:=ih;exact⟨m+1,.inr ⟨_,h,hm⟩⟩
theorem a8z {p q:Nat→Bool} (h:∀x,p x=true→q x=true):∀l:List Nat,(l.filter p).Sublist (l.filter q):=by
 intro v'
 induction v' with
 | nil=>
  exact .slnil
 | cons x l ih'=>
  rw[filter_cons,filter_cons]
  cases hp:p x with
  | true=>rw[h x hp];exact(ih').cons_cons x
  | false=>
   cases q x with
   | true=>exact(ih').cons x
   | false=>exact ih'
open Classical in
theorem Ry.five (h5:∀k,∀j∈B k,j < 5) {m k j:Nat} (h:Ry B m k j):Ry B 5 k j:=by
 have lt5:∀{m k j:Nat},Ry B m k j→j < 5:=fun{m}=>by
  induction m with
  | zero=>intro k j h;exact h.elim
  | succ m ih=>
   intro k j h
   rcases h with h | ⟨i,_,h2⟩
   ·exact h5 _ _ h
   ·exact ih h2
 obtain⟨c,hc⟩:∃c:Nat→Nat,∀m,c m=((List.range 5).filter fun j=>decide (Ry B m k j)).length:=⟨_,fun _=>rfl⟩
 have c5:∀m,c m≤5:=fun m=>by rw[hc];exact Nat.le_trans (length_filter_le _ _) (by simp)
 have imp:∀m (j:Nat),decide (Ry B m k j)=true→decide (Ry B (m+1) k j)=true:=fun m j h=>decide_eq_true (of_decide_eq_true h).up
 have same:∀m,c m=c (m+1)→∀j,Ry B (m+1) k j→Ry B m k j:=fun m e j h=>by
  rw[hc,hc]at e
  have sub:((List.range 5).filter fun j=>decide (Ry B m k j))=((List.range 5).filter fun j=>decide (Ry B (m+1) k j)):=by
   have s:((List.range 5).filter fun j=>decide (Ry B m k j)).Sublist ((List.range 5).filter fun j=>decide (Ry B (m+1) k j)):=a8z (imp m) _
   exact s.eq_of_length e
  have:j∈(List.range 5).filter fun j=>decide (Ry B (m+1) k j):=mem_filter.mpr ⟨mem_range.mpr (lt5 h),decide_eq_true h⟩
  rw[←sub]at this
  exact of_decide_eq_true (mem_filter.mp this).2
 have mono:∀m,c m≤c (m+1):=fun m=>by
  rw[hc,hc]
  exact(a8z (imp m) _).length_le
 have stop:∃m,m≤5∧c m=c (m+1):=by
  by_cases h0:c 0=c 1
  ·exact⟨0,by omega,h0⟩
  by_cases h1:c 1=c 2
  ·exact⟨1,by omega,h1⟩
  by_cases h2:c 2=c 3
  ·exact⟨2,by omega,h2⟩
  by_cases h3:c 3=c 4
  ·exact⟨3,by omega,h3⟩
  by_cases h4:c 4=c 5
  ·exact⟨4,by omega,h4⟩
  refine⟨5,Nat.le_refl _,?_⟩
  have m0:c 0≤c 1:=mono 0
  have m1:c 1≤c 2:=mono 1
  have m2:c 2≤c 3:=mono 2
  have m3:c 3≤c 4:=mono 3
  have m4:c 4≤c 5:=mono 4
  have m5:c 5≤c 6:=mono 5
  have m6:=c5 6
  show c 5=c 6
  omega
 obtain⟨q,hq,e⟩:=stop
 have st:=same q e
 have all:∀t j,Ry B (q+t) k j→Ry B q k j:=fun t=>by
  induction t with
  | zero=>intro j h;exact h
  | succ t ih=>
   intro j h
   rcases Ry.split (m:=q+t) (n:=1) (by rw[show q+t+1=q+(t+1) by omega];exact h)with h | h | ⟨i,h1,h2⟩
   ·exact ih j h
   ·exact st j (h.mono (by omega))
   ·exact st j ((ih i h1).add h2)
 by_cases hm:m≤q
 ·exact h.mono (by omega)
 ·exact(all (m - q) j (by rw[show q+(m - q)=m by omega];exact h)).mono hq
end
end
section
open PySem PySem.W
theorem a2p {js:List Job} (g:a0m js) {k j:Nat} (h:j∈a0h js k):j < 5:=by
 unfold a0h at h
 cases e:js[k]? with
 | none=>rw[e]at h;cases h
 | some q=>rw[e]at h;exact(g.2 q (mem_of_getElem? e)).2 j h
theorem a9d (js:List Job) {k:Nat} (hk:k < 5):(a0z js).getD k []=a0h js k:=by
 unfold a0z List.getD
 rw[getElem?_map,List.getElem?_range hk];rfl
theorem b7a {R:Rows} (h:Ok5 R) {k:Nat} (hk:k < 5):(a5p R).getD k []=(List.range 5).filter (b5b R (R.getD k [])):=by
 have hl:k < R.length:=by rw[h.1];exact hk
 unfold a5p List.getD
 rw[getElem?_map,getElem?_eq_getElem hl];rfl
theorem b7b {R:Rows} {row:List Nat} {j:Nat}:b5b R row j=true↔j∈row∨∃i∈row,j∈R.getD i []:=by
 unfold b5b
 rw[Bool.or_eq_true]
 refine or_congr (by simp) ?_
 rw[Bool.not_eq_true',List.isEmpty_eq_false_iff,←List.length_pos_iff,List.length_pos_iff_exists_mem]
 constructor
 ·rintro⟨i,hi⟩
  obtain⟨h1,h2⟩:=mem_filter.mp hi
  exact⟨i,h1,by simpa using h2⟩
 ·rintro⟨i,h1,h2⟩
  exact⟨i,mem_filter.mpr ⟨h1,by simpa using h2⟩⟩
theorem c2l {js:List Job} (g:a0m js):∀(n k j:Nat),k < 5→(j∈(iter a5p n (a0z js)).getD k []↔Ry (a0h js) (2 ^ n) k j):=by
 intro v'
 induction v' with
 | zero=>
  intro k j hk
  show j∈(a0z js).getD k []↔_
  rw[a9d js hk]
  exact⟨.inl,fun h=>h.elim id fun⟨i,_,h⟩=>h.elim⟩
 | succ n ih'=>
  intro k j hk
  have ok:=a9m (a3q g) n
  show j∈(a5p (iter a5p n (a0z js))).getD k []↔_
  rw[b7a ok hk,mem_filter,b7b,mem_range]
  have e:2 ^ (n+1)=2 ^ n+2 ^ n:=by rw[Nat.pow_succ];omega
  constructor
  ·rintro⟨_,h | ⟨i,h1,h2⟩⟩
   ·exact((ih' k j hk).mp h).mono (by rw[e];exact Nat.le_add_right _ _)
   ·have hi:i < 5:=a8x ok h1
    rw[e]
    exact((ih' k i hk).mp h1).add ((ih' i j hi).mp h2)
  ·intro h
   have hj:j < 5:=by
    have:∀{m k j:Nat},Ry (a0h js) m k j→j < 5:=fun{m}=>by
     induction m with
     | zero=>intro k j h;exact h.elim
     | succ m ih=>
      intro k j h
      rcases h with h | ⟨i,_,h2⟩
      ·exact a2p g h
      ·exact ih h2
    exact this h
   rw[e]at h
   refine⟨hj,?_⟩
   rcases h.split with h | h | ⟨i,h1,h2⟩
   ·exact .inl ((ih' k j hk).mpr h)
   ·exact .inl ((ih' k j hk).mpr h)
   ·have m1:=(ih' k i hk).mpr h1
    exact .inr ⟨i,m1,(ih' i j (a8x ok m1)).mpr h2⟩
theorem a4e {js:List Job} (g:a0m js) {k j:Nat} (hk:k < 5):j∈(a2i js).getD k []↔Rch (a0h js) k j:=by
 unfold a2i
 rw[c2l g 5 k j hk]
 exact⟨Ry.rch,fun h=>by
  obtain⟨m,hm⟩:=h.ry
  exact(hm.five fun k j h=>a2p g h).mono (by decide)⟩
theorem a9y {js:List Job} (g:a0m js) {k:Nat} (hk:k < 5):b5w (a2i js) k=true↔∀j,(j=k∨Rch (a0h js) k j)→¬Rch (a0h js) j j:=by
 unfold b5w
 rw[List.isEmpty_iff,List.filter_eq_nil_iff]
 have ok:=a9m (a3q g) 5
 constructor
 ·intro h j hj hr
  have hm:j∈(a2i js).getD k []++[k]:=by
   rcases hj with e | hj
   ·rw[e];simp
   ·exact zB (.inl ((a4e g hk).mpr hj))
  have hj5:j < 5:=by
   rcases hj with e | hj
   ·rw[e];exact hk
   ·exact a8x ok ((a4e g hk).mpr hj)
  exact h j hm (by simpa using (a4e g hj5).mpr hr)
 ·intro h j hj hc
  have hj':j=k∨Rch (a0h js) k j:=by
   rcases zA hj with hj | hj
   ·exact .inr ((a4e g hk).mp hj)
   ·exact .inl (zS hj)
  have hj5:j < 5:=by
   rcases zA hj with hj | hj
   ·exact a8x ok hj
   ·rw[zS hj];exact hk
  exact h j hj' ((a4e g hj5).mp (by simpa using hc))
end
section
open PySem PySem.W
theorem a7z {js:List Job} {k j:Nat} (h:j∈a0h js k):k < js.length:=by
 by_cases hk:k < js.length
 ·exact hk
 ·rw[a5k (by omega)]at h;cases h
theorem Rch.key {js:List Job} {k j:Nat} (h:Rch (a0h js) k j):k < js.length:=by
 cases h with
 | one h=>exact a7z h
 | more h _=>exact a7z h
theorem Rch.turn {B C:Nat→List Nat} (hb:∀x y,y∈B x→x∈C y) {k j:Nat} (h:Rch B k j):Rch C j k:=by
 induction h with
 | one h=>exact .one (hb _ _ h)
 | more h _ ih=>exact ih.snoc (hb _ _ h)
theorem b0q (js:List Job) (v:Nat):Rch (a1p (a0t js)) v v↔Rch (a0h js) v v:=
 ⟨fun h=>h.turn fun x y h=>(a3x js x y).mp h,fun h=>h.turn fun x y h=>(a3x js y x).mpr h⟩
theorem b1n {p:Nat→Bool}:∀l:List Nat,(l.filter p).length < l.length↔∃x∈l,p x=false:=by
 intro v'
 induction v' with
 | nil=>
  exact⟨fun h=>(by cases h),fun⟨_,h,_⟩=>(by cases h)⟩
 | cons x l ih'=>
  have ih:=ih'
  have le:=length_filter_le p l
  cases e:p x with
  | true=>
   rw[List.filter_cons_of_pos e,length_cons,length_cons]
   constructor
   ·intro h
    obtain⟨y,h1,h2⟩:=ih.mp (by omega)
    exact⟨y,.tail _ h1,h2⟩
   ·rintro⟨y,h1,h2⟩
    rcases a0o h1 with rfl | h1
    ·rw[e]at h2;cases h2
    ·have:=ih.mpr ⟨y,h1,h2⟩;omega
  | false=>
   rw[List.filter_cons_of_neg (by rw[e];decide),length_cons]
   exact⟨fun _=>⟨x,.head _,e⟩,fun _=>by omega⟩
theorem b6v {js:List Job} (g:a0m js):(a5d js).1=true↔∃v,Rch (a0h js) v v:=by
 show decide _=true↔_
 rw[decide_eq_true_iff]
 unfold a2k
 rw[b1n]
 constructor
 ·rintro⟨k,h1,h2⟩
  have hk:k < 5:=mem_range.mp (mem_filter.mp h1).1
  apply Classical.byContradiction
  intro hn
  have:=(a9y g hk).mpr fun j _ hr=>hn ⟨j,hr⟩
  rw[h2]at this;cases this
 ·rintro⟨v,hv⟩
  have hl:=hv.key
  have h5:v < 5:=by have:=g.1;omega
  refine⟨v,mem_filter.mpr ⟨mem_range.mpr h5,?_⟩,?_⟩
  ·unfold nmd;simp[hl]
  ·cases e:b5w (a2i js) v with
   | false=>rfl
   | true=>exact absurd hv ((a9y g h5).mp e v (.inl rfl))
theorem a9v (js:List Job):∀x y,y∈a1p (a0t js) x→x∈a0g (a0t js)∧y∈a0g (a0t js):=fun x y h=>by
 have h1:=(a3x js x y).mp h
 have hy:=a7z h1
 exact⟨(a5l js x).mpr (.inr ⟨y,hy,h1⟩),(a5l js y).mpr (.inl hy)⟩
theorem c2x {js:List Job} (g:a0m js):∃N,a2u (a1p (a0t js)) N (a0g (a0t js)) []=some (a5d js).1:=by
 obtain⟨N,c,e,hc⟩:=b9i (sc:=a1p (a0t js)) (ks:=a0g (a0t js)) (fun k _ y h=>(a9v js k y h).2) (fun x y h=>(a9v js x y h).1)
 refine⟨N,?_⟩
 rw[e]
 have:c=true↔(a5d js).1=true:=by
  rw[hc,b6v g]
  exact⟨fun⟨v,h⟩=>⟨v,(b0q js v).mp h⟩,fun⟨v,h⟩=>⟨v,(b0q js v).mpr h⟩⟩
 cases c <;> cases h:(a5d js).1 <;> simp_all
end
section
open PySem PySem.W
theorem a8l:∀{a b:List Nat},a.Pairwise (· < ·)→b.Pairwise (· < ·)→(∀x,x∈a↔x∈b)→a=b
 | [],[],_,_,_=>rfl
 | [],y::b,_,_,h=>absurd ((h y).mpr (.head _)) (by simp)
 | x::a,[],_,_,h=>absurd ((h x).mp (.head _)) (by simp)
 | x::a,y::b,ha,hb,h=>by
  rw[pairwise_cons]at ha hb
  have e:x=y:=by
   rcases zC ((h x).mp (.head _))with e | h1
   ·exact e
   ·rcases zC ((h y).mpr (.head _))with e | h2
    ·exact e.symm
    ·have:=ha.1 y h2;have:=hb.1 x h1;omega
  subst e
  refine congrArg _ (a8l ha.2 hb.2 fun z=>?_)
  constructor
  ·intro hz
   rcases a0o ((h z).mp (.tail _ hz))with rfl | h1
   ·exact absurd (ha.1 _ hz) (Nat.lt_irrefl _)
   ·exact h1
  ·intro hz
   rcases a0o ((h z).mpr (.tail _ hz))with rfl | h1
   ·exact absurd (hb.1 _ hz) (Nat.lt_irrefl _)
   ·exact h1
theorem b6y:∀{a:List Nat},a.Pairwise (·≤·)→a.Nodup→a.Pairwise (· < ·):=by
 intro v'
 induction v' with
 | nil=>
  intro _ _
  exact .nil
 | cons x a ih'=>
  intro h n
  rw[pairwise_cons]at h
  rw[nodup_cons]at n
  rw[pairwise_cons]
  refine⟨fun y hy=>?_,ih' h.2 n.2⟩
  have:=h.1 y hy
  have:x≠y:=fun e=>n.1 (e▸hy)
  omega
theorem c0r {a b:List Nat} (n:a.Nodup) (hb:b.Pairwise (· < ·)) (h:∀x,x∈a↔x∈b):a6z a=b:=
 a8l (b6y (a6i a) ((a5q a).nodup_iff.mpr n)) hb fun x=>(a5q a).mem_iff.trans (h x)
theorem b0p (js:List Job) (t:Nat):(a1z js t).Pairwise (· < ·):=by
 unfold a1z a2k a3z
 refine List.Pairwise.filter _ (List.Pairwise.filter _ (List.Pairwise.filter _ ?_))
 decide
end
section
open PySem PySem.W
theorem c6d {al:Al} {x:Nat} (h:x∈a0g al):a9p al x=some (npv al x):=by
 unfold npv a9p
 cases e:al.find? (fun e=>e.1 == x)with
 | none=>exact absurd h (a1g.mp e)
 | some p=>rfl
theorem b0n (al:Al) (k x:Nat) (v:Int):(setA al k v).find? (fun e=>e.1 == x)=(al.find? (fun e=>e.1 == x)).map fun e=>if e.1=k then(e.1,v,e.2.2)else e:=
 b0a (fun e=>by split <;> rfl) x al
theorem b7i (al:Al) (k x:Nat) (v:Int):a1p (setA al k v) x=a1p al x:=by
 unfold a1p
 rw[b0n]
 cases al.find? (fun e=>e.1 == x)with
 | none=>rfl
 | some e=>show((if e.1=k then(e.1,v,e.2.2)else e).2.2)=e.2.2;split <;> rfl
theorem a9i (al:Al) (k x:Nat) (v:Int):npv (setA al k v) x=if x=k∧k∈a0g al then v else npv al x:=by
 unfold npv a9p
 rw[b0n]
 cases h:al.find? (fun e=>e.1 == x)with
 | none=>
  have:=a1g.mp h
  rw[if_neg (fun e:x=k∧k∈a0g al=>this (e.1▸e.2))];rfl
 | some e=>
  have e1:=a3u h
  have hx:x∈a0g al:=Classical.byContradiction fun hn=>by exact nsn (a1g.mpr hn) h
  show(if e.1=k then(e.1,v,e.2.2)else e).2.1=_
  by_cases hk:x=k
  ·rw[if_pos (e1.trans hk),if_pos ⟨hk,hk▸hx⟩]
  ·rw[if_neg (fun q=>hk (e1▸q)),if_neg (fun q=>hk q.1)];rfl
theorem b9l:∀(ys:List Nat) (st:Al×List Nat),a0g (ys.foldl a1j st).1=a0g st.1:=by
 intro v'
 induction v' with
 | nil=>
  intro _
  exact rfl
 | cons y ys ih'=>
  intro st
  exact(ih' _).trans (a3m _ _ _)
theorem c7m (x:Nat):∀(ys:List Nat) (st:Al×List Nat),a1p (ys.foldl a1j st).1 x=a1p st.1 x:=by
 intro v'
 induction v' with
 | nil=>
  intro _
  exact rfl
 | cons y ys ih'=>
  intro st
  exact(ih' _).trans (b9q _ _ _ _)
theorem c7n (x:Nat):∀(ys:List Nat) (st:Al×List Nat),(∀y∈ys,y∈a0g st.1)→npv (ys.foldl a1j st).1 x=npv st.1 x - ys.count x:=by
 intro v'
 induction v' with
 | nil=>
  intro st _
  simp
 | cons y ys ih'=>
  intro st h
  rw[foldl_cons,ih' _ fun z hz=>by show z∈a0g (a3n _ _ _);rw[a3m];exact h z (.tail _ hz)]
  show npv (a3n st.1 y (-1)) x - _=_
  rw[a7y,count_cons]
  by_cases e:x=y
  ·subst e;rw[if_pos ⟨rfl,h _ (.head _)⟩];simp;omega
  ·rw[if_neg (fun q=>e q.1)]
   have:(y == x)=false:=by simpa using fun q:y=x=>e q.symm
   simp[this]
theorem c3b (x:Nat):∀(ys:List Nat) (st:Al×List Nat),(∀y∈ys,y∈a0g st.1)→(x∈(ys.foldl a1j st).2↔x∈st.2∨1≤npv st.1 x∧npv st.1 x≤ys.count x):=by
 intro v'
 induction v' with
 | nil=>
  intro st _
  show x∈st.2↔_
  simp;omega
 | cons y ys ih'=>
  intro st h
  rw[foldl_cons,ih' _ fun z hz=>by show z∈a0g (a3n _ _ _);rw[a3m];exact h z (.tail _ hz)]
  show x∈(if a9p st.1 y=some 1 then st.2++[y]else st.2)∨1≤npv (a3n st.1 y (-1)) x∧npv (a3n st.1 y (-1)) x≤_↔_
  have hb:=a7y st.1 y x (-1)
  rw[hb,count_cons,c6d (h _ (.head _))]
  clear hb ih' ys v'
  by_cases e:x=y
  ·subst e
   have e1:(if x=x∧x∈a0g st.1 then(-1:Int)else 0)= -1:=if_pos ⟨rfl,h _ (.head _)⟩
   rw[e1]
   by_cases q:npv st.1 x=1
   ·rw[q];simp;omega
   ·have e2:¬(some (npv st.1 x)=some 1):=fun h=>q (Option.some.inj h)
    rw[if_neg e2]
    simp only[beq_self_eq_true,if_true]
    constructor
    ·clear e2 e2
     rintro(h | h)
     ·exact .inl h
     ·exact .inr (by omega)
    ·clear e2 e2
     rintro(h | h)
     ·exact .inl h
     ·exact .inr (by omega)
  ·have e1:(if x=y∧y∈a0g st.1 then(-1:Int)else 0)=0:=if_neg fun q=>e q.1
   rw[e1]
   have h2:(y == x)=false:=by simpa using fun q:y=x=>e q.symm
   clear e1 st y x
   split <;> simp[h2,e]
end
section
open PySem PySem.W
noncomputable def b6d (sc:Nat→List Nat) (xs:List Nat) (z:Nat):Nat:=(xs.map fun x=>(sc x).count z).sum
theorem a2j (st:Al×List Nat) (x:Nat):a0g (a0k st x).1=a0g st.1:=(b9l _ _).trans (a3i _ _ _)
theorem a7s (st:Al×List Nat) (x z:Nat):a1p (a0k st x).1 z=a1p st.1 z:=(c7m _ _ _).trans (b7i _ _ _ _)
theorem b3d (st:Al×List Nat) (x z:Nat) (h:∀y∈a1p st.1 x,y∈a0g st.1) (hx:x∈a0g st.1) (hn:x∉a1p st.1 x):npv (a0k st x).1 z=if z=x then -2 else npv st.1 z - (a1p st.1 x).count z:=by
 unfold a0k
 rw[c7n z _ _ fun y hy=>by show y∈a0g (setA _ _ _);unfold a0g;rw[a3i];exact h y hy]
 show npv (setA st.1 x (-2)) z - _=_
 rw[a9i]
 by_cases e:z=x
 ·subst e;rw[if_pos ⟨rfl,hx⟩,if_pos rfl,List.count_eq_zero_of_not_mem hn];rfl
 ·rw[if_neg (fun q=>e q.1),if_neg e]
theorem c2w (st:Al×List Nat) (x z:Nat) (h:∀y∈a1p st.1 x,y∈a0g st.1) (hx:x∈a0g st.1) (hn:x∉a1p st.1 x):z∈(a0k st x).2↔z∈st.2∨z≠x∧1≤npv st.1 z∧npv st.1 z≤(a1p st.1 x).count z:=by
 unfold a0k
 rw[c3b z _ _ fun y hy=>by show y∈a0g (setA _ _ _);unfold a0g;rw[a3i];exact h y hy]
 show z∈st.2∨1≤npv (setA st.1 x (-2)) z∧npv (setA st.1 x (-2)) z≤_↔_
 rw[a9i]
 clear hn h st
 by_cases e:z=x
 ·clear z x
  subst e;rw[if_pos ⟨rfl,hx⟩];simp
 ·rw[if_neg (fun q=>e q.1)];simp[e]
end
section
open PySem PySem.W
theorem b9n {sc:Nat→List Nat} {z:Nat}:∀{xs:List Nat},(∀x∈xs,z∉sc x)→b6d sc xs z=0:=by
 intro v'
 induction v' with
 | nil=>
  intro _
  exact rfl
 | cons x xs ih'=>
  intro h
  show(sc x).count z+b6d sc xs z=0
  rw[List.count_eq_zero_of_not_mem (h x (.head _)),ih' fun x hx=>h x (.tail _ hx)]
theorem c1a {sc:Nat→List Nat} (z:Nat):∀(xs:List Nat) (st:Al×List Nat),(∀z,a1p st.1 z=sc z)→xs.Nodup→(∀x∈xs,x∈a0g st.1)→(∀x∈xs,∀y∈sc x,y∈a0g st.1∧y∉xs)→npv (xs.foldl a0k st).1 z=if z∈xs then -2 else npv st.1 z - b6d sc xs z:=by
 intro v'
 induction v' with
 | nil=>
  intro st _ _ _ _
  simp[b6d]
 | cons x xs ih'=>
  intro st hs n hk hc
  rw[nodup_cons]at n
  have e1:=b3d st x z (by rw[hs];exact fun y hy=>(hc x (.head _) y hy).1) (hk x (.head _)) (by rw[hs];exact fun hy=>(hc x (.head _) x hy).2 (.head _))
  rw[foldl_cons,ih' (a0k st x) (fun z=>(a7s st x z).trans (hs z)) n.2 (fun y hy=>by rw[a2j];exact hk y (.tail _ hy)) (fun y hy u hu=>by rw[a2j];exact⟨(hc y (.tail _ hy) u hu).1,fun h=>(hc y (.tail _ hy) u hu).2 (.tail _ h)⟩),e1,hs]
  clear e1 hk hs ih' v'
  by_cases e:z=x
  ·subst e
   rw[if_neg n.1,if_pos rfl,if_pos (.head _),b9n fun y hy h=>(hc y (.tail _ hy) z h).2 (.head _)];rfl
  ·rw[if_neg e]
   clear hc n
   by_cases hz:z∈xs
   ·rw[if_pos hz,if_pos (.tail _ hz)]
   ·rw[if_neg hz,if_neg (fun h=>(zC h).elim e hz)]
    show _=npv st.1 z - (((sc x).count z+b6d sc xs z:Nat):Int)
    omega
theorem b7l {sc:Nat→List Nat} (z:Nat):∀(xs:List Nat) (st:Al×List Nat),(∀z,a1p st.1 z=sc z)→xs.Nodup→(∀x∈xs,x∈a0g st.1)→(∀x∈xs,∀y∈sc x,y∈a0g st.1∧y∉xs)→(z∈(xs.foldl a0k st).2↔z∈st.2∨z∉xs∧1≤npv st.1 z∧npv st.1 z≤b6d sc xs z):=by
 intro v'
 induction v' with
 | nil=>
  intro st _ _ _ _
  simp[b6d];omega
 | cons x xs ih'=>
  intro st hs n hk hc
  rw[nodup_cons]at n
  have e0:=c2w st x z (by rw[hs];exact fun y hy=>(hc x (.head _) y hy).1) (hk x (.head _)) (by rw[hs];exact fun hy=>(hc x (.head _) x hy).2 (.head _))
  have e1:=b3d st x z (by rw[hs];exact fun y hy=>(hc x (.head _) y hy).1) (hk x (.head _)) (by rw[hs];exact fun hy=>(hc x (.head _) x hy).2 (.head _))
  rw[foldl_cons,ih' (a0k st x) (fun z=>(a7s st x z).trans (hs z)) n.2 (fun y hy=>by rw[a2j];exact hk y (.tail _ hy)) (fun y hy u hu=>by rw[a2j];exact⟨(hc y (.tail _ hy) u hu).1,fun h=>(hc y (.tail _ hy) u hu).2 (.tail _ h)⟩),e1,e0,hs]
  have e2:b6d sc (x::xs) z=(sc x).count z+b6d sc xs z:=rfl
  rw[e2,mem_cons]
  clear e2 e1 e0 hk n hs ih' v'
  by_cases e:z=x
  ·rw[if_pos e]
   constructor
   ·rintro((h | h) | h)
    ·exact .inl h
    ·exact absurd e h.1
    ·omega
   ·rintro(h | h)
    ·exact .inl (.inl h)
    ·exact absurd (.inl e) h.1
  ·rw[if_neg e]
   by_cases hz:z∈xs
   ·have:(sc x).count z=0:=List.count_eq_zero_of_not_mem fun h=>(hc x (.head _) z h).2 (.tail _ hz)
    rw[this]
    constructor
    ·clear hc xs
     rintro((h | h) | h)
     ·exact .inl h
     ·omega
     ·exact absurd hz h.1
    ·clear hc xs
     rintro(h | h)
     ·exact .inl (.inl h)
     ·exact absurd (.inr hz) h.1
   ·constructor
    ·clear hc xs
     rintro((h | h) | h)
     ·exact .inl h
     ·exact .inr ⟨fun q=>q.elim e hz,by omega⟩
     ·exact .inr ⟨fun q=>q.elim e hz,by omega⟩
    ·clear hc xs
     rintro(h | h)
     ·exact .inl (.inl h)
     ·by_cases q:npv st.1 z≤(sc x).count z
      ·exact .inl (.inr ⟨e,h.2.1,q⟩)
      ·exact .inr ⟨hz,by omega⟩
end
section
open PySem PySem.W
theorem b7h:∀(xs:List Nat) (al:Al),a0g (xs.foldl (fun al x=>setA al x (-1)) al)=a0g al:=by
 intro v'
 induction v' with
 | nil=>
  intro _
  exact rfl
 | cons x xs ih'=>
  intro al
  exact(ih' _).trans (a3i _ _ _)
theorem c5h (z:Nat):∀(xs:List Nat) (al:Al),a1p (xs.foldl (fun al x=>setA al x (-1)) al) z=a1p al z:=by
 intro v'
 induction v' with
 | nil=>
  intro _
  exact rfl
 | cons x xs ih'=>
  intro al
  exact(ih' _).trans (b7i _ _ _ _)
theorem c5i (z:Nat):∀(xs:List Nat) (al:Al),(∀x∈xs,x∈a0g al)→npv (xs.foldl (fun al x=>setA al x (-1)) al) z=if z∈xs then -1 else npv al z:=by
 intro v'
 induction v' with
 | nil=>
  intro al _
  simp
 | cons x xs ih'=>
  intro al h
  rw[foldl_cons,ih' _ (fun y hy=>by show y∈(setA al x (-1)).map (·.1);rw[a3i];exact h y (.tail _ hy)),a9i]
  by_cases hz:z∈xs
  ·rw[if_pos hz,if_pos (.tail _ hz)]
  ·rw[if_neg hz]
   by_cases e:z=x
   ·rw[if_pos ⟨e,h _ (.head _)⟩,if_pos (e▸.head _)]
   ·rw[if_neg (fun q=>e q.1),if_neg fun q=>(zC q).elim e hz]
theorem c0z {sc:Nat→List Nat} {b:Nat} (hb:∀x,(sc x).length≤b):∀(xs:List Nat) (st:Al×List Nat),(∀z,a1p st.1 z=sc z)→xs.Nodup→(∀x∈xs,x∈a0g st.1∧npv st.1 x= -1)→(∀x∈xs,∀y∈sc x,y∈a0g st.1∧y∉xs)→st.2.length+xs.length * b≤1000→okD st xs:=by
 intro v'
 induction v' with
 | nil=>
  intro _ _ _ _ _ _
  exact trivial
 | cons x xs ih'=>
  intro st hs n hk hc hl
  rw[nodup_cons]at n
  have hx:=hk x (.head _)
  have hx':∀y∈a1p st.1 x,y∈a0g st.1:=by rw[hs];exact fun y hy=>(hc x (.head _) y hy).1
  have hxn:x∉a1p st.1 x:=by rw[hs];exact fun hy=>(hc x (.head _) x hy).2 (.head _)
  have hbx:=hb x
  have hl':st.2.length+(xs.length * b+b)≤1000:=by rw[length_cons,Nat.succ_mul]at hl;exact hl
  have dl:∀(ys:List Nat) (s:Al×List Nat),(ys.foldl a1j s).2.length≤s.2.length+ys.length:=by
   intro ys
   induction ys with
   | nil=>intro s;exact Nat.le_refl _
   | cons y ys ih=>
    intro s
    refine Nat.le_trans (ih _) ?_
    show(if a9p s.1 y=some 1 then s.2++[y]else s.2).length+_≤_
    split <;> simp <;> omega
  refine⟨by rw[c6d hx.1,hx.2],by rw[hs];omega,hx',ih' _ (fun z=>(a7s st x z).trans (hs z)) n.2 (fun y hy=>?_) (fun y hy u hu=>?_) ?_⟩
  ·rw[a2j,b3d st x y hx' hx.1 hxn,hs]
   have e:y≠x:=fun e=>n.1 (e▸hy)
   have:(sc x).count y=0:=List.count_eq_zero_of_not_mem fun h=>(hc x (.head _) y h).2 (.tail _ hy)
   rw[if_neg e,this,(hk y (.tail _ hy)).2]
   exact⟨(hk y (.tail _ hy)).1,rfl⟩
  ·rw[a2j];exact⟨(hc y (.tail _ hy) u hu).1,fun h=>(hc y (.tail _ hy) u hu).2 (.tail _ h)⟩
  ·have:=dl (a1p st.1 x) (setA st.1 x (-2),st.2)
   rw[hs]at this
   have e:(a0k st x).2.length≤st.2.length+(sc x).length:=by unfold a0k;rw[hs];exact this
   omega
end
section
open PySem PySem.W
noncomputable def RdN (st:Al×List Nat):Prop:=st.2.Nodup∧∀z∈st.2,npv st.1 z≤0
theorem b6b:∀(ys:List Nat) (st:Al×List Nat),(∀y∈ys,y∈a0g st.1)→RdN st→RdN (ys.foldl a1j st):=by
 intro v'
 induction v' with
 | nil=>
  intro _ _ h
  exact h
 | cons y ys ih'=>
  intro st hk h
  refine ih' _ (fun z hz=>by show z∈a0g (a3n _ _ _);rw[a3m];exact hk z (.tail _ hz)) ?_
  have hy:=hk y (.head _)
  have hb:∀z,npv (a3n st.1 y (-1)) z≤npv st.1 z:=fun z=>by rw[a7y];split <;> omega
  unfold a1j RdN
  rw[c6d hy]
  by_cases q:npv st.1 y=1
  ·rw[if_pos (by rw[q])]
   refine⟨nodup_append.mpr ⟨h.1,by simp,fun a ha b hb e=>?_⟩,fun z hz=>?_⟩
   ·rw[zS hb]at e
    have:=h.2 a ha;rw[e]at this;omega
   ·rcases zA hz with hz | hz
    ·exact Int.le_trans (hb z) (h.2 z hz)
    ·rw[zS hz]
     show npv (a3n st.1 y (-1)) y≤0
     rw[a7y,if_pos ⟨rfl,hy⟩];omega
  ·rw[if_neg fun e=>q (Option.some.inj e)]
   exact⟨h.1,fun z hz=>Int.le_trans (hb z) (h.2 z hz)⟩
theorem b2h {sc:Nat→List Nat}:∀(xs:List Nat) (st:Al×List Nat),(∀z,a1p st.1 z=sc z)→(∀x∈xs,∀y∈sc x,y∈a0g st.1)→RdN st→RdN (xs.foldl a0k st):=by
 intro v'
 induction v' with
 | nil=>
  intro _ _ _ h
  exact h
 | cons x xs ih'=>
  intro st hs hc h
  refine ih' _ (fun z=>(a7s st x z).trans (hs z)) (fun y hy u hu=>by rw[a2j];exact hc y (.tail _ hy) u hu) ?_
  unfold a0k
  refine b6b _ _ (fun y hy=>?_) ⟨h.1,fun z hz=>?_⟩
  ·show y∈(setA st.1 x (-2)).map (·.1)
   rw[a3i];rw[hs]at hy;exact hc x (.head _) y hy
  ·show npv (setA st.1 x (-2)) z≤0
   rw[a9i]
   split
   ·omega
   ·exact h.2 z hz
end
section
open PySem PySem.W
noncomputable def hn (js:List Job) (n k:Nat):Nat:=(iter (a8f (a0z js)) n [0,0,0,0,0]).getD k 0
theorem a9x (js:List Job) (n:Nat) {k:Nat} (hk:k < 5):hn js (n+1) k=((a0h js k).map fun j=>hn js n j+1).foldl max 0:=by
 unfold hn
 show((List.range 5).map (hK (a0z js) (iter (a8f (a0z js)) n [0,0,0,0,0]))).getD k 0=_
 unfold List.getD
 rw[getElem?_map,List.getElem?_range hk]
 show hK _ _ k=_
 unfold hK
 rw[a9d js hk];rfl
theorem b9b (js:List Job) (k:Nat):hn js 0 k=0:=by
 show([0,0,0,0,0]:List Nat).getD k 0=0
 match k with
 | 0=>rfl
 | 1=>rfl
 | 2=>rfl
 | 3=>rfl
 | 4=>rfl
 | k+5=>rfl
theorem c9s (js:List Job) (n:Nat) {k j:Nat} (hk:k < 5) (hj:j∈a0h js k):hn js n j+1≤hn js (n+1) k:=by
 rw[a9x js n hk]
 exact(a4i _ 0).2 _ (zN ⟨j,hj,rfl⟩)
theorem b9c (js:List Job) (n:Nat) {k:Nat} (hk:k < 5):hn js (n+1) k=0∨∃j∈a0h js k,hn js (n+1) k=hn js n j+1:=by
 rw[a9x js n hk]
 rcases a3t ((a0h js k).map fun j=>hn js n j+1) 0 with h | h
 ·exact .inl h
 ·obtain⟨j,hj,e⟩:=zM h
  exact .inr ⟨j,hj,e.symm⟩
theorem c7c {js:List Job} (g:a0m js):∀(n k:Nat),k < 5→hn js n k≤n:=by
 intro v'
 induction v' with
 | zero=>
  intro k _
  rw[b9b];exact Nat.le_refl _
 | succ n ih'=>
  intro k hk
  rcases b9c js n hk with h | ⟨j,hj,h⟩
  ·omega
  ·have:=ih' j (a2p g hj);omega
theorem c9r {js:List Job} (g:a0m js):∀(n k:Nat),k < 5→hn js (n+1) k≠hn js n k→hn js (n+1) k=n+1:=by
 intro v'
 induction v' with
 | zero=>
  intro k hk h
  have h1:=c7c g 1 k hk
  rw[b9b]at h
  show hn js 1 k=1
  have h2:hn js 1 k≠0:=h
  omega
 | succ n ih'=>
  intro k hk h
  have:∃j∈a0h js k,hn js (n+1) j≠hn js n j:=by
   apply Classical.byContradiction
   intro hc
   refine h ?_
   rw[a9x js (n+1) hk,a9x js n hk]
   congr 1
   refine map_congr_left fun j hj=>?_
   exact congrArg (· +1) (Classical.byContradiction fun e=>hc ⟨j,hj,e⟩)
  obtain⟨j,hj,e⟩:=this
  have e1:=ih' j (a2p g hj) e
  have e2:=c9s js (n+1) hk hj
  have:=c7c g (n+1+1) k hk
  omega
noncomputable def Fr (js:List Job) (k:Nat):Prop:=∀j,(j=k∨Rch (a0h js) k j)→¬Rch (a0h js) j j
theorem Fr.down {js:List Job} {k j:Nat} (h:Fr js k) (hj:j∈a0h js k):Fr js j:=fun i hi=>by
 rcases hi with rfl | hi
 ·exact h _ (.inr (.one hj))
 ·exact h _ (.inr (.more hj hi))
theorem Fr.up {js:List Job} {k:Nat} (h:∀j∈a0h js k,Fr js j):Fr js k:=by
 have key:∀j,Rch (a0h js) k j→¬Rch (a0h js) j j:=fun j hr=>by
  cases hr with
  | one h1=>exact h _ h1 _ (.inl rfl)
  | more h1 h2=>exact h _ h1 _ (.inr h2)
 rintro j (rfl | hj)
 ·exact fun hr=>key _ hr hr
 ·exact key j hj
theorem way {js:List Job} (g:a0m js):∀(n k:Nat),k < 5→Fr js k→hn js n k=n→∃l:List Nat,l.length=n∧l.Nodup∧∀x∈l,x < 5∧Rch (a0h js) k x:=by
 intro v'
 induction v' with
 | zero=>
  intro k _ _ _
  exact⟨[],rfl,.nil,fun _ h=>by cases h⟩
 | succ n ih'=>
  intro k hk hf h
  rcases b9c js n hk with e | ⟨j,hj,e⟩
  ·omega
  ·have hf':=hf.down hj
   obtain⟨l,h1,h2,h3⟩:=ih' j (a2p g hj) hf' (by omega)
   refine⟨j::l,by rw[length_cons,h1],nodup_cons.mpr ⟨fun hm=>hf' j (.inl rfl) (h3 j hm).2,h2⟩,fun x hx=>?_⟩
   rcases a0o hx with rfl | hx
   ·exact⟨a2p g hj,.one hj⟩
   ·exact⟨(h3 x hx).1,.more hj (h3 x hx).2⟩
theorem d1r:∀{l:List Nat},(∀x∈l,x < 5)→l.length=l.count 0+l.count 1+l.count 2+l.count 3+l.count 4:=by
 intro v'
 induction v' with
 | nil=>
  intro _
  exact rfl
 | cons x l ih'=>
  intro h
  have ih:=ih' fun y hy=>h y (.tail _ hy)
  have hx:=h x (.head _)
  rw[length_cons,ih]
  simp only[count_cons]
  have:x=0∨x=1∨x=2∨x=3∨x=4:=by omega
  clear hx ih h ih' l x v'
  rcases this with rfl | rfl | rfl | rfl | rfl <;> simp <;> omega
theorem b7f {l:List Nat} (n:l.Nodup) (h:∀x∈l,x < 5):l.length≤5:=by
 have hc:∀a,l.count a≤1:=fun a=>by
  rw[List.nodup_iff_count]at n;exact n a
 rw[d1r h]
 have:=hc 0;have:=hc 1;have:=hc 2;have:=hc 3;have:=hc 4
 omega
theorem b9d {js:List Job} (g:a0m js) {k:Nat} (hk:k < 5) (hf:Fr js k):hn js 5 k≠5:=fun e=>by
 obtain⟨l,h1,h2,h3⟩:=way g 5 k hk hf e
 have:=b7f (l:=k::l) (nodup_cons.mpr ⟨fun hm=>hf k (.inl rfl) (h3 k hm).2,h2⟩) fun x hx=>(zC hx).elim (fun e=>e▸hk) fun hx=>(h3 x hx).1
 rw[length_cons,h1]at this
 omega
noncomputable def ht (js:List Job) (k:Nat):Nat:=(a2o js).getD k 0
theorem d1a {js:List Job} (g:a0m js) {k:Nat} (hk:k < 5) (hf:Fr js k):ht js k < 5:=by
 have h1:ht js k=hn js 5 k:=rfl
 have:=b9d g hk hf
 have:=c7c g 5 k hk
 omega
theorem b8z {js:List Job} (g:a0m js) {k:Nat} (hk:k < 5) (hf:Fr js k):hn js 4 k=ht js k:=by
 apply Classical.byContradiction
 intro hc
 exact b9d g hk hf (c9r g 4 k hk fun e=>hc e.symm)
theorem c7b {js:List Job} (g:a0m js) {k j:Nat} (hk:k < 5) (hf:Fr js k) (hj:j∈a0h js k):ht js j < ht js k:=by
 have:=c9s js 4 hk hj
 rw[b8z g (a2p g hj) (hf.down hj)]at this
 exact this
theorem b9a {js:List Job} (g:a0m js) {k:Nat} (hk:k < 5) (hf:Fr js k):ht js k=0∨∃j∈a0h js k,ht js k=ht js j+1:=by
 rcases b9c js 4 hk with e | ⟨j,hj,e⟩
 ·exact .inl e
 ·refine .inr ⟨j,hj,?_⟩
  rw[b8z g (a2p g hj) (hf.down hj)]at e
  exact e
theorem a7j {js:List Job} (g:a0m js) (x:Nat):x∈a3z js↔x∈a0g (a0t js):=by
 rw[a5l]
 unfold a3z nmd
 rw[mem_filter,mem_range,Bool.or_eq_true,decide_eq_true_iff,Bool.not_eq_true',List.isEmpty_eq_false_iff,←List.length_pos_iff,List.length_pos_iff_exists_mem]
 constructor
 ·rintro⟨h1,h2 | ⟨q,hq⟩⟩
  ·exact .inl h2
  ·obtain⟨hq,hc⟩:=mem_filter.mp hq
   obtain⟨y,hy,e⟩:=List.mem_iff_getElem.mp hq
   refine .inr ⟨y,hy,?_⟩
   unfold a0h
   rw[getElem?_eq_getElem hy,e]
   simpa using hc
 ·rintro(h | ⟨y,hy,h⟩)
  ·exact⟨by have:=g.1;omega,.inl h⟩
  ·refine⟨a2p g h,.inr ⟨js[y],mem_filter.mpr ⟨List.getElem_mem _,?_⟩⟩⟩
   unfold a0h at h
   rw[getElem?_eq_getElem hy]at h
   simpa using h
theorem a2f {js:List Job} (g:a0m js) (x:Nat):x∈a2k js↔x∈a0g (a0t js)∧Fr js x:=by
 unfold a2k
 rw[mem_filter,a7j g]
 refine and_congr_right fun h=>a9y g ?_
 have h':=(a7j g x).mpr h
 exact mem_range.mp (mem_filter.mp h').1
theorem a7n {js:List Job} (g:a0m js) {x:Nat} (h:x∈a0g (a0t js)):x < 5:=mem_range.mp (mem_filter.mp ((a7j g x).mpr h)).1
theorem a6r {js:List Job} {x y:Nat} (h:x∈a0h js y):x∈a0g (a0t js)∧y∈a0g (a0t js):=
 a9v js x y ((a3x js x y).mpr h)
end
section
open PySem PySem.W
theorem a7u {p q r:Nat→Bool} (h:∀i,(if p i=true then 1 else 0)=(if q i=true then 1 else 0)+(if r i=true then 1 else 0)):∀l:List Nat,l.countP p=l.countP q+l.countP r:=by
 intro v'
 induction v' with
 | nil=>
  exact rfl
 | cons x l ih'=>
  have:=h x
  rw[List.countP_cons,List.countP_cons,List.countP_cons,ih']
  omega
theorem c7r {sc:Nat→List Nat} {z w:Nat} {B:List Nat} (h:∀x,(sc x).count z=w * B.count x):∀{xs:List Nat},xs.Nodup→b6d sc xs z=w * B.countP fun i=>xs.contains i:=by
 intro v'
 induction v' with
 | nil=>
  intro _
  simp[b6d]
 | cons x xs ih'=>
  intro n
  rw[nodup_cons]at n
  show(sc x).count z+b6d sc xs z=_
  rw[h,ih' n.2,←Nat.mul_add,a7u (p:=fun i=>(x::xs).contains i) (q:=fun i=>i == x) (r:=fun i=>xs.contains i) fun i=>?_]
  ·rfl
  ·rw[List.contains_cons]
   by_cases e:i=x
   ·subst e
    have:xs.contains i=false:=by simpa using n.1
    rw[this];simp
   ·have:(i == x)=false:=by simpa using e
    rw[this];simp
theorem c8j {js:List Job} (g:a0m js) (x:Nat):(a1p (a0t js) x).length≤50:=by
 have hc:∀y,(a1p (a0t js) x).count y≤10:=fun y=>by
  rw[a6c]
  have h1:=(b3p js y).2
  have h2:(a0h js y).count x≤5:=by
   refine Nat.le_trans List.count_le_length ?_
   unfold a0h
   cases e:js[y]? with
   | none=>exact Nat.zero_le _
   | some q=>exact(g.2 q (mem_of_getElem? e)).1
  calc wt js y * (a0h js y).count x≤2 * 5:=Nat.mul_le_mul h1 h2
   _=10:=rfl
 rw[d1r fun y hy=>a7n g (a6r ((a3x js x y).mp hy)).2]
 have:=hc 0;have:=hc 1;have:=hc 2;have:=hc 3;have:=hc 4
 omega
noncomputable def dnb (js:List Job) (t k:Nat):Bool:=(a2k js).contains k && decide (ht js k < t)
theorem a3e {js:List Job} {k:Nat}:dnb js t k=true↔k∈a2k js∧ht js k < t:=by unfold dnb;simp
noncomputable def opn (js:List Job) (t k:Nat):Nat:=(a0h js k).countP fun i=>!dnb js t i
theorem a1y {js:List Job} {x:Nat}:x∈a1z js t↔x∈a2k js∧ht js x=t:=by
 unfold a1z ht;rw[mem_filter];simp
theorem a4h {js:List Job} (g:a0m js) {k j:Nat} (hk:k∈a2k js) (hj:j∈a0h js k):j∈a2k js∧ht js j < ht js k:=by
 have h:=(a2f g k).mp hk
 exact⟨(a2f g j).mpr ⟨(a6r hj).1,h.2.down hj⟩,c7b g (a7n g h.1) h.2 hj⟩
theorem b9f {js:List Job} (g:a0m js) {k:Nat} (hk:k∈a0g (a0t js)) (h:∀j∈a0h js k,j∈a2k js∧ht js j < t):k∈a2k js∧ht js k≤t:=by
 have hf:Fr js k:=Fr.up fun j hj=>((a2f g j).mp (h j hj).1).2
 refine⟨(a2f g k).mpr ⟨hk,hf⟩,?_⟩
 rcases b9a g (a7n g hk) hf with e | ⟨j,hj,e⟩
 ·omega
 ·have:=(h j hj).2;omega
theorem b3x {js:List Job} (g:a0m js) {k:Nat} (hk:k∈a0g (a0t js)):opn js t k=0↔k∈a2k js∧ht js k≤t:=by
 unfold opn
 rw[List.countP_eq_zero]
 constructor
 ·intro h
  exact b9f g hk fun j hj=>a3e.mp (by have:=h j hj;simpa using this)
 ·intro h j hj
  have:=a4h g h.1 hj
  have:dnb js t j=true:=a3e.mpr ⟨this.1,by omega⟩
  simp[this]
theorem b3y {js:List Job} (hr:∀x,x∈rdl↔x∈a1z js t) (k:Nat):opn js t k=opn js (t+1) k+(a0h js k).countP fun i=>rdl.contains i:=by
 refine a7u (fun i=>?_) _
 have h1:(rdl.contains i=true)↔(i∈a2k js∧ht js i=t):=by
  rw[←a1y,←hr i];simp
 have h2:=a3e (js:=js) (t:=t) (k:=i)
 have h3:=a3e (js:=js) (t:=t+1) (k:=i)
 by_cases hf:i∈a2k js
 ·simp only[hf,true_and]at h1 h2 h3
  rcases Nat.lt_trichotomy (ht js i) t with e | e | e
  ·have a:=h2.mpr e
   have b:=h3.mpr (by omega)
   have c:rdl.contains i=false:=by rw[←Bool.not_eq_true,h1];omega
   rw[a,b,c];rfl
  ·have a:dnb js t i=false:=by rw[←Bool.not_eq_true,h2];omega
   have b:=h3.mpr (by omega)
   have c:=h1.mpr e
   rw[a,b,c];rfl
  ·have a:dnb js t i=false:=by rw[←Bool.not_eq_true,h2];omega
   have b:dnb js (t+1) i=false:=by rw[←Bool.not_eq_true,h3];omega
   have c:rdl.contains i=false:=by rw[←Bool.not_eq_true,h1];omega
   rw[a,b,c];rfl
 ·have a:dnb js t i=false:=by rw[←Bool.not_eq_true,h2];exact fun q=>hf q.1
  have b:dnb js (t+1) i=false:=by rw[←Bool.not_eq_true,h3];exact fun q=>hf q.1
  have c:rdl.contains i=false:=by rw[←Bool.not_eq_true,h1];exact fun q=>hf q.1
  rw[a,b,c];rfl
structure Inv (js:List Job) (t:Nat) (al:Al) (rdl:List Nat):Prop where
 keys:a0g al=a0g (a0t js)
 sc:∀x,a1p al x=a1p (a0t js) x
 nd:rdl.Nodup
 rd:∀x,x∈rdl↔x∈a1z js t
 np:∀x∈a0g (a0t js),npv al x=if dnb js t x=true then -2 else((wt js x * opn js t x:Nat):Int)
theorem Inv.start {js:List Job} (g:a0m js):Inv js 0 (a0t js) (c1e (a0t js)) where
 keys:=rfl
 sc _:=rfl
 nd:=by
  unfold c1e
  exact(List.filter_sublist.map _).nodup (a6b js)
 rd x:=by
  rw[a1y]
  have hnp:=b9u js x
  have h1:x∈c1e (a0t js)↔x∈a0g (a0t js)∧npv (a0t js) x=0:=by
   unfold c1e
   rw[mem_map]
   constructor
   ·rintro⟨e,he,rfl⟩
    obtain⟨he,h0⟩:=mem_filter.mp he
    refine⟨zN ⟨e,he,rfl⟩,?_⟩
    unfold npv a9p
    rw[b0o (a6b js) he]
    simpa using h0
   ·rintro⟨hk,h0⟩
    unfold npv a9p at h0
    cases hf:(a0t js).find? (fun e=>e.1 == x)with
    | none=>exact absurd hk (a1g.mp hf)
    | some e=>
     rw[hf]at h0
     exact⟨e,mem_filter.mpr ⟨List.mem_of_find?_eq_some hf,by simpa using h0⟩,a3u hf⟩
  rw[h1,hnp]
  have hw:=(b3p js x).1
  have h2:(((wt js x * (a0h js x).length:Nat):Int)=0)↔a0h js x=[]:=by
   rw[←List.length_eq_zero_iff]
   constructor
   ·intro h
    have:wt js x * (a0h js x).length=0:=by omega
    rcases Nat.mul_eq_zero.mp this with e | e
    ·omega
    ·exact e
   ·intro h;rw[h];rfl
  rw[h2]
  constructor
  ·rintro⟨hk,e⟩
   obtain⟨a,b⟩:=b9f g (t:=0) hk (by rw[e];intro j hj;cases hj)
   exact⟨a,by omega⟩
  ·rintro⟨hf,e⟩
   refine⟨((a2f g x).mp hf).1,?_⟩
   cases hb:a0h js x with
   | nil=>rfl
   | cons j r=>
    have:=(a4h g hf (j:=j) (by rw[hb];exact .head _)).2
    omega
 np x hx:=by
  have h0:∀y,dnb js 0 y=false:=fun y=>by
   rw[←Bool.not_eq_true,a3e];omega
  rw[h0,if_neg (by decide),b9u]
  congr 2
  unfold opn
  rw[List.countP_eq_length.mpr fun j _=>by rw[h0];rfl]
theorem Inv.turn {js:List Job} (g:a0m js) {al:Al} (I:Inv js t al rdl):
  okD (rdl.foldl (fun al x=>setA al x (-1)) al,[]) rdl∧Inv js (t+1) (rdl.foldl a0k (rdl.foldl (fun al x=>setA al x (-1)) al,[])).1 (rdl.foldl a0k (rdl.foldl (fun al x=>setA al x (-1)) al,[])).2:=by
 generalize hst:((rdl.foldl (fun al x=>setA al x (-1)) al,[]):Al×List Nat)=st
 have hfr:∀x∈rdl,x∈a2k js∧ht js x=t:=fun x hx=>a1y.mp ((I.rd x).mp hx)
 have hkey:∀x∈rdl,x∈a0g (a0t js):=fun x hx=>((a2f g x).mp (hfr x hx).1).1
 have hk1:a0g st.1=a0g (a0t js):=by rw[←hst];exact(b7h rdl al).trans I.keys
 have hs1:∀z,a1p st.1 z=a1p (a0t js) z:=fun z=>by rw[←hst];exact(c5h z rdl al).trans (I.sc z)
 have hn1:∀z,npv st.1 z=if z∈rdl then -1 else npv al z:=fun z=>by
  rw[←hst];exact c5i z rdl al fun x hx=>by rw[I.keys];exact hkey x hx
 have hin:∀x∈rdl,x∈a0g st.1:=fun x hx=>by rw[hk1];exact hkey x hx
 have hout:∀x∈rdl,∀y∈a1p (a0t js) x,y∈a0g st.1∧y∉rdl:=fun x hx y hy=>by
  have hb:=(a3x js x y).mp hy
  refine⟨by rw[hk1];exact(a6r hb).2,fun h=>?_⟩
  have h1:=a4h g (hfr y h).1 hb
  have:=(hfr x hx).2;have:=(hfr y h).2;omega
 have hlen:rdl.length≤5:=b7f I.nd fun x hx=>a7n g (hkey x hx)
 have hst2:st.2=[]:=by rw[←hst]
 refine⟨c0z (b:=50) (c8j g) rdl st hs1 I.nd (fun x hx=>⟨hin x hx,by rw[hn1,if_pos hx]⟩) hout (by rw[hst2];simp;omega),?_⟩
 have hcnt:∀z,b6d (a1p (a0t js)) rdl z=wt js z * (a0h js z).countP fun i=>rdl.contains i:=fun z=>c7r (fun x=>a6c js x z) I.nd
 refine⟨?_,?_,?_,?_,?_⟩
 ·have:∀(xs:List Nat) (s:Al×List Nat),a0g (xs.foldl a0k s).1=a0g s.1:=fun xs=>by
   induction xs with
   | nil=>intro s;rfl
   | cons x xs ih=>intro s;exact(ih _).trans (a2j s x)
  rw[this,hk1]
 ·have:∀(xs:List Nat) (s:Al×List Nat) (z:Nat),a1p (xs.foldl a0k s).1 z=a1p s.1 z:=fun xs=>by
   induction xs with
   | nil=>intro s z;rfl
   | cons x xs ih=>intro s z;exact(ih _ z).trans (a7s s x z)
  exact fun z=>(this rdl st z).trans (hs1 z)
 ·exact(b2h rdl st hs1 (fun x hx y hy=>(hout x hx y hy).1) ⟨by rw[hst2];exact .nil,by rw[hst2];intro z hz;cases hz⟩).1
 ·intro z
  rw[b7l z rdl st hs1 I.nd hin hout,hn1,hcnt,hst2,a1y]
  by_cases hz:z∈rdl
  ·have:=(hfr z hz).2
   constructor
   ·rintro(h | h)
    ·cases h
    ·exact absurd hz h.1
   ·rintro⟨_,h⟩;omega
  ·rw[if_neg hz]
   by_cases hkz:z∈a0g (a0t js)
   ·rw[I.np z hkz]
    have hs:=b3y (js:=js) (t:=t) I.rd z
    have hw:=(b3p js z).1
    have o1:=b3x g (t:=t) hkz
    have o2:=b3x g (t:=t+1) hkz
    cases hd:dnb js t z with
    | true=>
     have:=a3e.mp hd
     constructor
     ·rintro(h | h)
      ·cases h
      ·rw[if_pos rfl]at h;omega
     ·rintro⟨_,h⟩;omega
    | false=>
     rw[if_neg (by decide)]
     have hmul:((wt js z * opn js t z:Nat):Int)≤((wt js z * (a0h js z).countP fun i=>rdl.contains i:Nat):Int)↔opn js (t+1) z=0:=by
      rw[Int.ofNat_le]
      constructor
      ·intro h
       have:=Nat.le_of_mul_le_mul_left h (by omega)
       omega
      ·intro h
       exact Nat.mul_le_mul_left _ (by omega)
     have hone:(1:Int)≤((wt js z * opn js t z:Nat):Int)↔opn js t z≠0:=by
      constructor
      ·intro h e;rw[e]at h;simp at h
      ·intro h
       have:0 < wt js z * opn js t z:=Nat.mul_pos (by omega) (by omega)
       omega
     rw[hmul,hone,o2,Ne,o1]
     constructor
     ·rintro(h | ⟨_,h1,h2,h3⟩)
      ·cases h
      ·refine⟨h2,?_⟩
       have:¬ht js z≤t:=fun h=>h1 ⟨h2,h⟩
       omega
     ·rintro⟨h1,h2⟩
      exact .inr ⟨hz,fun h=>by omega,h1,by omega⟩
   ·have hb:a0h js z=[]:=by
     cases hb:a0h js z with
     | nil=>rfl
     | cons j r=>exact absurd (a6r (x:=j) (y:=z) (by rw[hb];exact .head _)).2 hkz
    rw[hb]
    constructor
    ·rintro(h | ⟨_,h1,h2⟩)
     ·cases h
     ·simp at h2;omega
    ·rintro⟨h,_⟩;exact absurd ((a2f g z).mp h).1 hkz
 ·intro z hkz
  rw[c1a z rdl st hs1 I.nd hin hout,hn1,hcnt]
  have hs:=b3y (js:=js) (t:=t) I.rd z
  by_cases hz:z∈rdl
  ·have:=hfr z hz
   rw[if_pos hz,if_pos (a3e.mpr ⟨this.1,by omega⟩)]
  ·rw[if_neg hz,if_neg hz,I.np z hkz]
   have hsame:dnb js (t+1) z=dnb js t z:=by
    rw[Bool.eq_iff_iff,a3e,a3e]
    constructor
    ·rintro⟨h1,h2⟩
     refine⟨h1,?_⟩
     have:ht js z≠t:=fun e=>hz ((I.rd z).mpr (a1y.mpr ⟨h1,e⟩))
     omega
    ·rintro⟨h1,h2⟩;exact⟨h1,by omega⟩
   rw[hsame]
   cases hd:dnb js t z with
   | true=>
    rw[if_pos rfl,if_pos rfl]
    have hd':=a3e.mp hd
    have:(a0h js z).countP (fun i=>rdl.contains i)=0:=by
     rw[List.countP_eq_zero]
     intro j hj hc
     have h1:=a4h g hd'.1 hj
     have h2:=(hfr j (by simpa using hc)).2
     omega
    rw[this];rfl
   | false=>
    rw[if_neg (by decide),if_neg (by decide),hs,Nat.mul_add]
    omega
theorem b5e {js:List Job} (g:a0m js) (h:a1z js t=[]):∀n,a1z js (t+n)=[]:=by
 intro v'
 induction v' with
 | zero=>
  exact h
 | succ n ih'=>
  have ih:=ih'
  rw[List.eq_nil_iff_forall_not_mem]at ih ⊢
  intro k hk
  obtain⟨h1,h2⟩:=a1y.mp hk
  have hf:=(a2f g k).mp h1
  rcases b9a g (a7n g hf.1) hf.2 with e | ⟨j,hj,e⟩
  ·omega
  ·exact ih j (a1y.mpr ⟨(a4h g h1 hj).1,by omega⟩)
theorem c8q {js:List Job} (g:a0m js):∀(n t:Nat) (al:Al) (rdl:List Nat),t+n=5→Inv js t al rdl→c0e al rdl (((List.range' t n).map (a1z js)).filter fun r=>!(r.map dn).isEmpty):=by
 intro v'
 induction v' with
 | zero=>
  intro t al rdl e I
  have:rdl=[]:=List.eq_nil_iff_forall_not_mem.mpr fun x hx=>by
   obtain⟨h1,h2⟩:=a1y.mp ((I.rd x).mp hx)
   have hf:=(a2f g x).mp h1
   have:=d1a g (a7n g hf.1) hf.2
   omega
  subst this
  exact .stop
 | succ n ih'=>
  intro t al rdl e I
  rw[List.range'_succ,map_cons]
  cases hr:rdl with
  | nil=>
   have h0:a1z js t=[]:=List.eq_nil_iff_forall_not_mem.mpr fun x hx=>by
    have:=(I.rd x).mpr hx;rw[hr]at this;cases this
   have:((a1z js t::(List.range' (t+1) n).map (a1z js)).filter fun r=>!(r.map dn).isEmpty)=[]:=by
    rw[List.filter_eq_nil_iff]
    intro r hm
    have:r=[]:=by
     rcases zC hm with e | hm
     ·rw[e,h0]
     ·obtain⟨u,hu,rfl⟩:=zM hm
      have:=(List.mem_range'_1.mp hu).1
      rw[show u=t+(u - t) by omega]
      exact b5e g h0 _
    rw[this];simp
   rw[this];exact .stop
  | cons x r=>
   rw[←hr]
   obtain⟨hok,I'⟩:=I.turn g
   have hs:a6z rdl=a1z js t:=c0r I.nd (b0p js t) I.rd
   have hne:a1z js t≠[]:=fun e=>by
    have:=(I.rd x).mp (by rw[hr];exact .head _);rw[e]at this;cases this
   have hkey:∀x∈rdl,x∈a0g (a0t js):=fun x hx=>((a2f g x).mp (a1y.mp ((I.rd x).mp hx)).1).1
   rw[List.filter_cons_of_pos (by cases h:a1z js t with | nil=>exact absurd h hne | cons a b=>rfl),←hs]
   refine c0e.turn (by rw[hr];exact List.cons_ne_nil _ _) ?_ (fun x hx=>?_) hok rfl (ih' (t+1) _ _ (by omega) I')
   ·have:=b7f I.nd fun x hx=>a7n g (hkey x hx);omega
   ·show x∈a0g al
    rw[I.keys];exact hkey x hx
theorem c0x {js:List Job} (g:a0m js):c0e (a0t js) (c1e (a0t js)) (a5d js).2:=by
 have:=c8q g 5 0 _ _ rfl (Inv.start g)
 unfold a5d
 rw[List.range_eq_range']
 exact this
end
section
noncomputable def nsO (K:Frag) (a:Addr) (x:Str):Option Value:=match K.lookup a with
 | some o=>(match o.data with | .dict es _=>nsFind es x | _=>none)
 | none=>none
noncomputable def c6y (K:Frag) (a:Addr):Bool:=match K.lookup a with
 | some o=>(match o.data with | .dict es _=>es.all (fun e=>match e.key with | .str _ _=>true | _=>false) | _=>false)
 | none=>false
theorem b8m {h:Heap} {a:Addr} (hK:∀a o,K.lookup a=some o→h.get? a=some o) (x:c6y K a=true):h.Ns a (nsO K a):=by
 cases e:K.lookup a with
 | none=>unfold c6y at x;rw[e]at x;cases x
 | some o=>
  have e2:=hK a o e
  have:h.nsMap a=nsO K a:=funext fun n=>by unfold Heap.nsMap nsO;rw[e2,e];rfl
  rw[←this]
  refine .of_isNs ?_
  unfold Heap.isNs;unfold c6y at x;rw[e]at x;rw[e2];exact x
noncomputable def GK (P:Params):a1k:=⟨fun x=>some (nsO (KL P) 3 x),KL P,[],false⟩
noncomputable def d0k (qual:Str):Option Value→Bool
 | some (.str q _)=>decide (q=qual)
 | _=>false
noncomputable def d1g (qual:Str):Data→Bool
 | .fields vs=>d0k qual vs[1]?
 | _=>false
noncomputable def c9x (G:a1k) (c:Addr) (qual:Str):Bool:=(G.objs c).any fun o=>d1g qual o.data
theorem c4z {v:Option Value} (h:d0k qual v=true):∃t,v=some (.str qual t):=by
 cases v with
 | none=>cases h
 | some v=>cases v <;> first | cases h | exact⟨_,by rw[of_decide_eq_true h]⟩
theorem c7p {d:Data} (h:d1g qual d=true):∃vs,d= .fields vs∧d0k qual vs[1]? =true:=by
 cases d <;> first | exact⟨_,rfl,h⟩ | cases h
theorem a0y {f:Addr} {st:Stmt} (name:Str) (pm:Value) (c:Addr) (h:G.objs f=some (fo name qual st dV pm (.ref c))) (hc:c9x G c qual=true):FnS G f qual st dV:=by
 unfold c9x at hc
 cases e:G.objs c with
 | none=>rw[e]at hc;cases hc
 | some o=>
 rw[e]at hc
 have h2:d1g qual o.data=true:=hc
 walk_at "c"
 rcases c7p h2 with⟨vs,e2,h3⟩
 rcases c4z h3 with⟨t,e3⟩
 walk_at "u"
 exact⟨⟨name,.none,pm,none,c,.none,_,_,_,o,vs,t,h,e,e2,e3⟩⟩
theorem b2w:∀{l:List (Str×Option Value)},(l.all fun p=>decide (G.glb p.1=some p.2))=true→∀x v,l.lookup x=some v→G.glb x=some v:=by
 intro v'
 induction v' with
 | nil=>
  intro _ x v e
  cases e
 | cons p l ih'=>
  intro h x v e
  rw[all_cons,Bool.and_eq_true]at h
  rw[lookup_cons]at e
  cases hb:x == p.1 with
  | true=>rw[hb]at e;cases e;rw[beq_iff_eq.mp hb];exact of_decide_eq_true h.1
  | false=>rw[hb]at e;exact ih' h.2 x v e
section
variable (P:Params)
theorem f51:FnS (GK P) 51 "_parse_varint" (stm 4) .none:=a0y "_parse_varint" (.str "cpy313.dis" 331) 50 ∅ ∅
theorem f66:FnS (GK P) 66 "_NodeInfo.__init__" (a0q 8 1) .none:=a0y "__init__" (.str "cpy313.graphlib" 342) 65 ∅ ∅
theorem d3q:FnS (GK P) 103 "TopologicalSorter.__init__" (a0q 10 0) (.ref 96):=a0y "__init__" (.str "cpy313.graphlib" 342) 102 ∅ ∅
theorem d3p:FnS (GK P) 110 "TopologicalSorter._get_nodeinfo" (a0q 10 1) .none:=a0y "_get_nodeinfo" (.str "cpy313.graphlib" 342) 109 ∅ ∅
theorem d3o:FnS (GK P) 117 "TopologicalSorter.add" (a0q 10 2) .none:=a0y "add" (.str "cpy313.graphlib" 342) 116 ∅ ∅
theorem d3n:FnS (GK P) 122 "TopologicalSorter.prepare" (a0q 10 3) .none:=a0y "prepare" (.str "cpy313.graphlib" 342) 121 ∅ ∅
theorem d3m:FnS (GK P) 129 "TopologicalSorter.get_ready" (a0q 10 4) .none:=a0y "get_ready" (.str "cpy313.graphlib" 342) 128 ∅ ∅
theorem d3l:FnS (GK P) 136 "TopologicalSorter.is_active" (a0q 10 5) .none:=a0y "is_active" (.str "cpy313.graphlib" 342) 135 ∅ ∅
theorem d3k:FnS (GK P) 150 "TopologicalSorter.done" (a0q 10 7) .none:=a0y "done" (.str "cpy313.graphlib" 342) 149 ∅ ∅
theorem d3j:FnS (GK P) 157 "TopologicalSorter._find_cycle" (a0q 10 8) .none:=a0y "_find_cycle" (.str "cpy313.graphlib" 342) 156 ∅ ∅
theorem d3i:FnS (GK P) 190 "_index" (stm 14) .none:=a0y "_index" (.str "io" 564) 189 ∅ ∅
theorem d3h:FnS (GK P) 217 "IOBase.__new__" (a0q 16 1) .none:=a0y "__new__" (.str "io" 564) 216 ∅ ∅
theorem d3g:FnS (GK P) 494 "StringIO.__init__" (a0q 20 1) (.ref 487):=a0y "__init__" (.str "io" 564) 493 ∅ ∅
theorem d3f:FnS (GK P) 501 "StringIO.__translated" (a0q 20 2) .none:=a0y "__translated" (.str "io" 564) 500 ∅ ∅
theorem d3e:FnS (GK P) 508 "StringIO.__check" (a0q 20 3) .none:=a0y "__check" (.str "io" 564) 507 ∅ ∅
theorem d3d:FnS (GK P) 670 "StringIO.read" (a0q 20 25) (.ref 663):=a0y "read" (.str "io" 564) 669 ∅ ∅
theorem d3c:FnS (GK P) 783 "shlex.__init__" (a0q 30 0) (.ref 776):=a0y "__init__" (.str "cpy313.shlex" 1280) 782 ∅ ∅
theorem d3b:FnS (GK P) 790 "shlex.punctuation_chars" (a0q 30 1) .none:=a0y "punctuation_chars" (.str "cpy313.shlex" 1280) 789 ∅ ∅
theorem d3a:FnS (GK P) 820 "shlex.get_token" (a0q 30 5) .none:=a0y "get_token" (.str "cpy313.shlex" 1280) 819 ∅ ∅
theorem d2z:FnS (GK P) 827 "shlex.read_token" (a0q 30 6) .none:=a0y "read_token" (.str "cpy313.shlex" 1280) 826 ∅ ∅
theorem d2y:FnS (GK P) 849 "shlex.__iter__" (a0q 30 9) .none:=a0y "__iter__" (.str "cpy313.shlex" 1280) 848 ∅ ∅
theorem d2x:FnS (GK P) 856 "shlex.__next__" (a0q 30 10) .none:=a0y "__next__" (.str "cpy313.shlex" 1280) 855 ∅ ∅
theorem d2w:FnS (GK P) 871 "split" (stm 31) (.ref 864):=a0y "split" (.str "cpy313.shlex" 1280) 870 ∅ ∅
theorem d2v:FnS (GK P) 878 "join" (stm 32) .none:=a0y "join" (.str "cpy313.shlex" 1280) 877 ∅ ∅
theorem d2u:FnS (GK P) 886 "quote" (stm 35) .none:=a0y "quote" (.str "cpy313.shlex" 1280) 885 ∅ ∅
theorem d2t:FnS (GK P) 891 "_law_jobs" (stm 37) .none:=a0y "_law_jobs" (.str "law_oc0362_01" 1448) 890 ∅ ∅
theorem d2s:FnS (GK P) 896 "_law_packed" (stm 38) .none:=a0y "_law_packed" (.str "law_oc0362_01" 1448) 895 ∅ ∅
theorem d2r:FnS (GK P) 901 "_law_read" (stm 39) .none:=a0y "_law_read" (.str "law_oc0362_01" 1448) 900 ∅ ∅
theorem d2q:FnS (GK P) 908 "_law_run" (stm 40) .none:=a0y "_law_run" (.str "law_oc0362_01" 1448) 907 ∅ ∅
theorem d2p:FnS (GK P) 913 "_law_told" (stm 41) .none:=a0y "_law_told" (.str "law_oc0362_01" 1448) 912 ∅ ∅
theorem d2o:FnS (GK P) 920 "law" (stm 42) .none:=a0y "law" (.str "law_oc0362_01" 1448) 919 ∅ ∅
theorem d2j:GOk (GK P):=⟨b2w ∅,rfl,d2p P⟩
theorem tGQ:GQ (GK P):=⟨d2u P,∅,⟨⟨_,rfl,rfl,rfl⟩,⟨_,_,_,_,rfl,rfl,rfl,rfl,rfl,rfl⟩,⟨_,_,_,rfl,rfl,rfl,by decide +kernel⟩⟩⟩
theorem tGJ:GJ (GK P):=⟨d2v P,⟨_,_,rfl,rfl,rfl⟩,∅,⟨_,_,rfl,rfl⟩,⟨4,_,∅,by decide,rfl,rfl,rfl,rfl⟩,∅,⟨_,_,rfl,rfl,rfl,rfl⟩⟩
theorem tGT:GT (GK P):=⟨fun h op ps hK e d t=>⟨_,_,_,_,_,_,_,_,_,op,hK 877 _ rfl,rfl,rfl,rfl,rfl,rfl,rfl,e,d,t,by decide⟩,d2s P,∅⟩
theorem tGX:GX (GK P).on:=⟨b2w ∅,⟨(f51 P).fn⟩⟩
theorem tGR:GR (GK P).on:=⟨⟨(d2r P).fn⟩,⟨_,_,rfl,rfl⟩⟩
theorem b0e {l:List Str} (h:(l.all fun a=>decide (findIn K (.ref C) a=some none))=true):∀a∈l,a3c K C a:=fun a ha=>show findIn K (.ref C) a=some none from of_decide_eq_true (all_eq_true.mp h a ha)
theorem c724:a3f (KL P) 724:=⟨∅,∅,∅,∅,⟨_,rfl,rfl⟩⟩
theorem d3r:a3f (KL P) 859:=⟨∅,∅,∅,∅,⟨_,rfl,rfl⟩⟩
theorem d3s:a3f (KL P) 167:=⟨∅,∅,∅,∅,⟨_,rfl,rfl⟩⟩
theorem tGI:GI (GK P).on:=⟨b2w ∅,⟨(d3i P).fn⟩,c724 P,b0e ∅,⟨(d3e P).fn⟩,⟨(d3d P).fn⟩,⟨_,rfl⟩,⟨∅,∅⟩,⟨∅,∅⟩⟩
theorem tGH:GH (GK P).on:=⟨tGI P,d3r P,b0e ∅,∅,⟨_,rfl⟩,∅,∅,⟨(d3b P).fn⟩,⟨(d2z P).fn⟩,⟨(d3a P).fn⟩,⟨(d2y P).fn⟩,⟨(d2x P).fn⟩,⟨∅,∅⟩,⟨∅,∅⟩,⟨∅,∅⟩,⟨∅,∅⟩⟩
theorem tGL:GL (GK P).on:=⟨∅,∅⟩
theorem tGN:GN (GK P).on:=⟨⟨⟨_,rfl,rfl,rfl,rfl,rfl,rfl,rfl⟩,⟨_,rfl,rfl,rfl,rfl⟩,⟨_,rfl,rfl,rfl,rfl⟩,∅,∅,∅⟩,⟨∅,∅,∅⟩,∅,∅,∅,⟨_,rfl⟩,⟨_,rfl,by simp⟩,⟨(d3h P).fn⟩,∅⟩
theorem tGM:GM (GK P).on:=⟨tGN P,∅,∅,∅,⟨_,rfl⟩,⟨∅,∅⟩⟩
theorem tGS:GS (GK P).on:=⟨tGM P,tGI P,⟨(d3g P).fn⟩,⟨_,_,rfl⟩,⟨(d3f P).fn⟩,⟨∅,∅⟩⟩
theorem tGC:GC (GK P).on:=⟨tGS P,tGH P,⟨(d3c P).fn⟩,∅,∅,∅,∅⟩
theorem tGP:GP (GK P).on:=⟨tGC P,tGL P,⟨(d2w P).fn⟩,∅,∅,∅,∅,∅,∅,⟨∅,∅⟩⟩
theorem b2e {x:Str} {p i:Nat} (h:(decide (findIn K (.ref C) x=some (some (.ref p))) && decide (slotIn K p C=some i) && decide (specialIn K (.ref p) "__get__"=some (some (.builtin "member_descriptor.__get__"))) && decide (takesIn K (.ref p)=some true) && decide (typeIn K (.ref p)=some (.type "member_descriptor")))=true):a4j K C x p i:=by
 simp only[Bool.and_eq_true,decide_eq_true_eq]at h
 exact⟨h.1.1.1.1,h.1.1.1.2,h.1.1.2,h.1.2,h.2⟩
theorem tGD:GD (GK P).on:=⟨⟨∅,∅,∅,∅,⟨_,rfl⟩⟩,b2e ∅,b2e ∅,b2e ∅,∅,∅,⟨∅,∅⟩,⟨(f66 P).fn⟩⟩
theorem tGE:GE (GK P).on:=⟨tGD P,d3s P,b0e ∅,∅,∅,⟨∅,∅⟩,⟨(d3q P).fn⟩,∅,⟨∅,∅⟩,⟨(d3p P).fn⟩,∅⟩
theorem tGA:GA (GK P).on:=⟨tGE P,⟨∅,∅⟩,⟨(d3o P).fn⟩,∅⟩
theorem tGF:GF (GK P).on:=⟨tGA P,⟨∅,∅⟩,⟨(d3l P).fn⟩,⟨∅,∅⟩,⟨(d3m P).fn⟩,⟨∅,∅⟩,⟨(d3k P).fn⟩,∅,∅,⟨345,∅⟩,⟨348,∅⟩⟩
theorem d2l:GCy (GK P).on:=⟨tGF P,⟨(d3j P).fn⟩,∅,∅,∅,⟨_,rfl⟩⟩
theorem d2i:GPr (GK P).on:=⟨d2l P,⟨(d3n P).fn⟩,⟨∅,∅⟩,∅,⟨_,_,_,_,_,_,_,_,_,_,_,_,_,_,_,nsO (KL P) 84,rfl,∅,fun h hK=>b8m hK ∅⟩⟩
theorem d2k:GLw (GK P):=⟨d2o P,d2t P,⟨_,_,rfl,rfl⟩,⟨_,_,rfl,rfl⟩,⟨_,_,rfl,rfl⟩,⟨_,_,rfl,rfl⟩,⟨_,_,rfl,rfl⟩⟩
theorem c4p {x:Str} {f:Addr} (m:a1m K C x f) (h:(hasDictIn K C && decide (specialIn K (.ref f) "__get__"=some (some (.builtin "function.__get__"))) && decide (takesIn K (.ref f)=some false) && !copiedNames.contains x && fnIn K f)=true):b6m K C x f:=by
 simp only[Bool.and_eq_true,decide_eq_true_eq,Bool.not_eq_true']at h
 exact⟨m,h.1.1.1.1,h.1.1.1.2,h.1.1.2,h.1.2,h.2⟩
theorem d2h:GRn (GK P).on:=⟨d2i P,c4p ⟨∅,∅⟩ ∅,c4p ⟨∅,∅⟩ ∅,⟨∅,∅⟩,∅,∅,∅,⟨(d2q P).fn⟩⟩
end
end
section
noncomputable def YfK (s:Shared):Option Obj×List (Option Obj):=(s.heap.get? 873,b7t KD s.heap.objs.toList)
noncomputable def YaK (w:World):Option Obj×List (Option Obj):=(some (tbO #[]),(KL w.params).map fun p=>some p.2)
theorem leftK:LeftO PySem.Challenge.pw_oc0362_01 qv b8q (fun _=>true) YfK YaK 6200 true:=b9e fun w=>by
 rw[c8e w,PySem.W.Fast.te3805553451399329143,PySem.W.Fast.te14289696077712309145,PySem.W.Fast.te6613529449190102663,PySem.W.Fast.te4187177175401517315]
 exact c7g w
noncomputable def YPK (w:World) (h:Heap):Prop:=h.get? 873=some (tbO #[])∧∀a o,(KL w.params).lookup a=some o→h.get? a=some o
theorem c2f {h:Heap}:∀{l:List (Addr×Obj)},(l.map (·.1)).map h.get? =l.map (fun p=>some p.2)→∀a o,l.lookup a=some o→h.get? a=some o:=by
 intro v'
 induction v' with
 | nil=>
  intro _ a o e
  cases e
 | cons p l ih'=>
  intro hl a o e
  rw[map_cons,map_cons,map_cons]at hl
  injection hl with h1 h2
  rw[lookup_cons]at e
  cases hb:a == p.1 with
  | true=>rw[hb]at e;cases e;rw[beq_iff_eq.mp hb];exact h1
  | false=>rw[hb]at e;exact ih' h2 a o e
theorem hYK (w:World) (s:Shared) (h:YfK s=YaK w):YPK w s.heap:=
 ⟨congrArg Prod.fst h,c2f (d1n w.params▸(c1m s.heap (a:=0)).symm.trans (congrArg Prod.snd h))⟩
end
section
theorem c9i {h:Heap} {a:Addr} {m m':Str→Option Value} (x:h.Ns a m) (y:h.Ns a m') (k:Str):m k=m' k:=by
 walk_at "c"
 rcases x with⟨o,es,ep,e,d,_,f⟩
 rcases y with⟨o',es',ep',e',d',_,f'⟩
 walk_at "u"
 rw[e]at e';cases e';rw[d]at d';cases d'
 rw[←f,f']
theorem c7i {P:Params} {h:Heap}:∀{is:List Int} {vs:List Value},WellAll P h vs (is.map WData.int)→DRs (vis h []) vs (is.map D.int):=by
 intro v'
 induction v' with
 | nil=>
  intro vs r
  cases r;exact .nil
 | cons i is ih'=>
  intro vs r
  cases r with
  | cons r1 r2=>
   cases r1
   exact .cons (.int _ _) (ih' r2)
theorem dr_arg {P:Params} {h:Heap} {is:List Int} (r:Well P h v (.list (is.map WData.int))):DR (vis h []) v (.list (is.map D.int)):=by
 cases r with
 | list e r=>exact .list (a0v e (by simp)) (c7i r)
theorem args_are {args:List WData} (h:PySem.Challenge.rw_oc0362_01.row.toRowW.claim.pre args=true):∃is:List Int,args=[.list (is.map WData.int)]∧is.length≤63:=by
 walk_at "c"
 rcases pre_splitW h with⟨h1,h2⟩
 clear h h
 rcases hasAllW_cons (e:=.list .int) (es:=[]) h1 with⟨d,r,rfl,h3,h4⟩
 walk_at "u"
 clear r d h1
 cases hasAllW_nil h4
 walk_at "c"
 clear h4 h4
 rcases hasW_list h3 with⟨xs,rfl,h5⟩
 clear xs h3
 rcases items_int h5 with⟨is,rfl⟩
 walk_at "u"
 refine⟨is,rfl,Classical.byContradiction fun hn=>?_⟩
 have e:PySem.Challenge.rw_oc0362_01.row.toRowW.pre.holds PySem.Challenge.rw_oc0362_01.row.toRowW.records {args:=[.list (is.map WData.int)]}=false:=by
  show WTm.holds [] (.and (.not (.lt (.lit (.int 63)) (.len (.arg 0)))) (.lit (.bool true))) {args:=[.list (is.map WData.int)]}=false
  have e2:less? (WData.int 63) (WData.int (is.length:Int))=some true:=by
   show some (decide ((63:Int) < (is.length:Int)))=some true
   rw[decide_eq_true (by omega)]
  simp[WTm.holds,WTm.value,e2]
 rw[e]at h2;cases h2
theorem fa_is {h:Heap} {mg:Str→Option Value} (hg:h.Ns mainGlobals mg) (Y:YPK w h) {fa:Addr} (e:mg "law"=some (.ref fa)):fa=920:=by
 have h1:=c9i hg (b8m (a:=3) Y.2 ∅) "law"
 have h2:nsO (KL w.params) 3 "law"=some (.ref 920):=by kernel_rfl
 rw[e,h2]at h1
 cases h1;rfl
theorem post_true {args ds:List WData}:PySem.Challenge.rw_oc0362_01.row.toRowW.claim.post args (.bool true) ds=true:=by
 kernel_rfl
theorem law_ends {g0:Shared} {mg mb:Str→Option Value} (hmg:g0.heap.Ns mainGlobals mg) (hmb:g0.heap.Ns builtinsNs mb) (hmb':∀x:Str,x≠"__name__"→mb x=bootBuiltins x) (hnl:g0.heap.NoLimit) (Y:YPK w g0.heap) {is:List Int} (hlen:is.length≤63) (dv:DR (vis g0.heap []) v (.list (is.map D.int))) (K:∀s' more,Kw true [873] g0 s'→s'.heap.get? 873=some (tbO (#[]++more))→Q (.bool true) s'):wpAny (model PySem.Challenge.pw_oc0362_01 w) callerA (call (.ref 920) [v]) Q E g0:=by
 have T:TF (GK w.params) g0.heap:=⟨⟨_,b8m (a:=3) Y.2 ∅,fun x v e=>Option.some.inj e⟩,⟨mb,hmb,hmb'⟩,hnl,Y.2⟩
 walk_at "c"
 rcases c6s is with⟨lack,hlk⟩
 have hgj:=b6x is (a3h (a1a is) lack)
 rcases c2x hgj with⟨N,hN⟩
 walk_at "u"
 have hgood:∀j∈(a1a is).take (a3h (a1a is) lack),a8c j:=fun j hj=>a1u is j (List.mem_of_mem_take hj)
 exact c9q (n:=0) (M:=[]) (d2j _) (tGQ _) (tGJ _) (tGT _) (tGX _) (tGR _) (tGP _) (d2h _) (d2k _) hlen hlk (b1h is) (c6r is hlk) rfl (c6w (a1u is) lack) hgj (c3m _) hN (c0x hgj) (c5g hgood) (c8i _)
  ⟨rfl,by decide,by decide⟩ T (fun b hb=>by cases hb) (fun hm=>by cases hm) dv ((tGT w.params).ck _ _ _ T.objs Y.1 rfl trivial) Y.1 rfl K
end
end Mine
set_option maxRecDepth 100000 in
theorem PySem.Challenge.cw_oc0362_01_holds : PySem.Challenge.rw_oc0362_01.Holds := by
 refine holds_law Mine.lkSaid fun said=>?_
 refine holds_open (q:=Mine.qv) (loose:=Mine.b8q) (Xt:=fun _=>true) (XP:=fun _ _=>True) (Yf:=Mine.YfK) (Ya:=Mine.YaK) (YP:=Mine.YPK) (N:=6200) Mine.leftK Mine.hYK (fun w h h' y k=>⟨k _ _ y.1,fun a o e=>k a o (y.2 a o e)⟩) (fun _ _=>trivial) (fun _ _ _ _ _=>trivial) (by rfl) (by rfl) (by rfl) (fun s _=>⟨fun x hx=>(nomatch hx),fun x hx=>(nomatch hx),fun c c' a hc=>(nomatch hc),fun c fs hf=>(nomatch hf)⟩) (by rfl) said Mine.lkV Mine.lkBare ⟨[.list [.int 3,.int 1]],by decide +kernel,by decide +kernel⟩ ?_
 intro w j0 g0 mg mb G Y fa o pm cd doc dV kV ho hd hcd hD hmg hg args vals as hpre hlay hrd hwl hlo
 obtain⟨is,rfl,hlen⟩:=Mine.args_are hpre
 have hfa:=Mine.fa_is G.T.g Y hmg
 subst hfa
 cases hwl with
 | cons w1 w2=>
 cases w2
 refine Mine.law_ends G.T.g G.T.b G.T.builtins G.T.nolimit Y hlen (Mine.dr_arg w1) fun s' more kw e8=>?_
 refine⟨.inl ⟨_,.bool true,[],rfl,fun _=>rfl,.bool true,?_,fun _=>⟨.nil,fun a ha=>by cases ha⟩⟩,⟨fun b o e=>?_,fun b o e=>?_⟩,kw.2.2.2,kw.2.1 (AllBare.of_eq hg)⟩
 ·exact Mine.post_true
 ·by_cases hb:b=873
  ·subst hb
   rw[Y.1]at e;cases e
   exact .inr (.inl ⟨Heap.TableAt.isCodeTable (c:=877) ⟨⟨_,_,Y.2 877 _ rfl,rfl,rfl,rfl⟩,Y.1⟩,rfl,_,more,rfl,e8⟩)
  ·exact .inl (kw.1 b o (fun hm=>hb (mem_singleton.mp hm)) e)
 ·by_cases hb:b=873
  ·subst hb;exact⟨_,e8⟩
  ·exact⟨o,kw.1 b o (fun hm=>hb (mem_singleton.mp hm)) e⟩
