import PyProof.Rows.All
import Wide.All
import OpenK.AllK
import Wide.FinOn
import PyProof.CollectIter
import PyProof.ListRange
import PySem.Challenge.RW_tc0018_01
set_option Elab.async false
set_option linter.all false
set_option bootstrap.genMatcherCode false
set_option genSizeOf false
set_option genInjectivity false
set_option compiler.extract_closed false
section
open PySem PySem.W PySem.W.X PyProof.Rows PySem.W.ZRun
namespace Mine
noncomputable def lC:List (Int×Str):=[(1,⟨#[79,80,84,73,77,73,90,69,68]⟩),(2,⟨#[78,69,87,76,79,67,65,76,83]⟩),(4,⟨#[86,65,82,65,82,71,83]⟩),(8,⟨#[86,65,82,75,69,89,87,79,82,68,83]⟩),(16,⟨#[78,69,83,84,69,68]⟩),(32,⟨#[71,69,78,69,82,65,84,79,82]⟩),(64,⟨#[78,79,70,82,69,69]⟩),(128,⟨#[67,79,82,79,85,84,73,78,69]⟩),(256,⟨#[73,84,69,82,65,66,76,69,95,67,79,82,79,85,84,73,78,69]⟩),(512,⟨#[65,83,89,78,67,95,71,69,78,69,82,65,84,79,82]⟩)]
noncomputable def pg:List (Str×Int):=[(⟨#[33]⟩,54),(⟨#[33,61]⟩,28),(⟨#[37]⟩,24),(⟨#[37,61]⟩,40),(⟨#[38]⟩,19),(⟨#[38,61]⟩,41),(⟨#[40]⟩,7),(⟨#[41]⟩,8),(⟨#[42]⟩,16),(⟨#[42,42]⟩,35),(⟨#[42,42,61]⟩,46),(⟨#[42,61]⟩,38),(⟨#[43]⟩,14),(⟨#[43,61]⟩,36),(⟨#[44]⟩,12),(⟨#[45]⟩,15),(⟨#[45,61]⟩,37),(⟨#[45,62]⟩,51),(⟨#[46]⟩,23),(⟨#[46,46,46]⟩,52),(⟨#[47]⟩,17),(⟨#[47,47]⟩,47),(⟨#[47,47,61]⟩,48),(⟨#[47,61]⟩,39),(⟨#[58]⟩,11),(⟨#[58,61]⟩,53),(⟨#[59]⟩,13),(⟨#[60]⟩,20),(⟨#[60,60]⟩,33),(⟨#[60,60,61]⟩,44),(⟨#[60,61]⟩,29),(⟨#[61]⟩,22),(⟨#[61,61]⟩,27),(⟨#[62]⟩,21),(⟨#[62,61]⟩,30),(⟨#[62,62]⟩,34),(⟨#[62,62,61]⟩,45),(⟨#[64]⟩,49),(⟨#[64,61]⟩,50),(⟨#[91]⟩,9),(⟨#[93]⟩,10),(⟨#[94]⟩,32),(⟨#[94,61]⟩,43),(⟨#[123]⟩,25),(⟨#[124]⟩,18),(⟨#[124,61]⟩,42),(⟨#[125]⟩,26),(⟨#[126]⟩,31)]
noncomputable def Az(e:DictEntry):Option (Int×Int×Str):=match e.key,e.val with|.int i _,.str x _=>some (i,e.hash,x)|_,_=>none
noncomputable def AA(e:DictEntry):Option (Str×Int×Int):=match e.key,e.val with|.str i _,.int x _=>some (i,e.hash,x)|_,_=>none
noncomputable def prg:Program:=PySem.Challenge.pw_tc0018_01
noncomputable def kept(i:Nat):Bool:=[2,5,6,8,9,10,63,64,65].contains i || decide (66<i)
noncomputable def view:Program:={ prg with main:={ prg.main with body:=(prg.main.body.zipIdx.filter λq=>kept q.2).map (·.1) } }
noncomputable def looseN:List Str:=(["COMPILER_FLAG_NAMES","_Unknown","UNKNOWN","ENDMARKER","LPAR","RPAR","LSQB","RSQB","COLON","COMMA","SEMI","PLUS","MINUS","STAR","SLASH","VBAR","AMPER","LESS","GREATER","EQUAL","DOT","PERCENT","LBRACE","RBRACE","EQEQUAL","NOTEQUAL","LESSEQUAL","GREATEREQUAL","TILDE","CIRCUMFLEX","LEFTSHIFT","RIGHTSHIFT","DOUBLESTAR","PLUSEQUAL","MINEQUAL","STAREQUAL","SLASHEQUAL","PERCENTEQUAL","AMPEREQUAL","VBAREQUAL","CIRCUMFLEXEQUAL","LEFTSHIFTEQUAL","RIGHTSHIFTEQUAL","DOUBLESTAREQUAL","DOUBLESLASH","DOUBLESLASHEQUAL","AT","ATEQUAL","RARROW","ELLIPSIS","COLONEQUAL","EXCLAMATION","NT_OFFSET","EXACT_TOKEN_TYPES"]:List String).map Str.ofString
noncomputable def CH{β:Type}(f:DictEntry→β)(o:Option Obj):=o.map λo=>(o.cls,o.dict,o.slots,match o.data with|.dict es _=>some (es.toList.map f)|_=>none)
noncomputable abbrev Seen(β:Type):=Option (Value×Option Addr×Array (Option Value)×Option (List β))
noncomputable def wQ{β:Type}(l:List β):Seen β:=some (.type "dict",none,#[],some l)
noncomputable def obs(s:Shared):Seen (Option (Int×Int×Str))×Seen (Option (Str×Int×Int))×List (Option Value)×Nat:=
 (CH Az (s.heap.get? 15),CH AA (s.heap.get? 81),(["COMPILER_FLAG_NAMES","EXACT_TOKEN_TYPES","ENDMARKER","NT_OFFSET","UNKNOWN"]:List Str).map (s.heap.nsMap mainGlobals),s.toks)
noncomputable def val(w:World):Seen (Option (Int×Int×Str))×Seen (Option (Str×Int×Int))×List (Option Value)×Nat:=
 (wQ (lC.map λq=>some (q.1,hashInt q.1,q.2)),wQ (pg.map λq=>some (q.1,hashStr w q.1,q.2)),[some (.ref 15),some (.ref 81),some (.int 0 313),some (.int 256 411),some (.ref 45)],600)
noncomputable abbrev Xt(s:Shared):Bool:=xlAt view [] s && recOk [] s
noncomputable def twinRun{α:Type}(b:Bool)(w:World)(f:Shared→α):Option (Option α):=((Fast.tw10274390034422433532 Fast.tw14364793385576792824 (opening prg) w 4950 (Fast.tw1435165496053646825 (opening prg)).1 (Fast.tw1435165496053646825 (opening prg)).2).bind (Fast.tw14289696077712309145 prg)).map (λs₀=>(match s₀.heap.isNs mainGlobals && s₀.gens.size==0 with
 | true=>(Fast.tw14082659384304107361 Fast.tw14364793385576792824 prg (w.withFollow "special-get-raises" b) s₀.heap.objs.size (Fast.tw8920871248978507458 s₀.heap mainGlobals "__annotations__") 4950 s₀ (topStub prg)).bind λs₁=>match staticsOk (Fast.tw5923862056798008813 prg.main.body) s₀.heap s₁.heap && namesBound prg s₁.heap && gensDone s₁ && laidKept s₀.heap s₁.heap with
   | true=>some s₁
   | false=>none
 | false=>none).map f)
set_option maxRecDepth 100000 in
set_option maxHeartbeats 0 in
theorem half0(w:World):twinRun false w (λs=>(Fast.tw4187177175401517315 view looseN (Fast.tw5923862056798008813 prg.main.body) Xt true s,obs s))=some (some (openGood view looseN,val w)):=by kernel_rfl
set_option maxRecDepth 100000 in
set_option maxHeartbeats 0 in
theorem half1(w:World):twinRun true w (λs=>(Fast.tw4187177175401517315 view looseN (Fast.tw5923862056798008813 prg.main.body) Xt true s,obs s))=some (some (openGood view looseN,val w)):=by kernel_rfl
theorem twin_eq{α:Type}(b:Bool)(w:World)(f:Shared→α):twinRun b w f=(fencedOpening treeTable prg w 4950).map λs₀=>(topFrom treeTable prg (w.withFollow "special-get-raises" b) 4950 s₀).map f:=by
 unfold twinRun
 rw[←Fast.te10274390034422433532,←Fast.te14364793385576792824,←Fast.te1435165496053646825,←Fast.te14289696077712309145,←Fast.te14082659384304107361,←Fast.te8920871248978507458,←Fast.te5923862056798008813]
 rfl
end Mine
end
namespace Mine
theorem E0_2{P0 P1:Prop}{G:Prop}(h:P0∧P1)(f:P0→P1→G):G:=f h.1 h.2
theorem E0_3{P0 P1 P2:Prop}{G:Prop}(h:P0∧P1∧P2)(f:P0→P1→P2→G):G:=E0_2 h.2 (f h.1)
theorem E0_4{P0 P1 P2 P3:Prop}{G:Prop}(h:P0∧P1∧P2∧P3)(f:P0→P1→P2→P3→G):G:=E0_3 h.2 (f h.1)
theorem E0_5{P0 P1 P2 P3 P4:Prop}{G:Prop}(h:P0∧P1∧P2∧P3∧P4)(f:P0→P1→P2→P3→P4→G):G:=E0_4 h.2 (f h.1)
theorem E0_6{P0 P1 P2 P3 P4 P5:Prop}{G:Prop}(h:P0∧P1∧P2∧P3∧P4∧P5)(f:P0→P1→P2→P3→P4→P5→G):G:=E0_5 h.2 (f h.1)
theorem E0_7{P0 P1 P2 P3 P4 P5 P6:Prop}{G:Prop}(h:P0∧P1∧P2∧P3∧P4∧P5∧P6)(f:P0→P1→P2→P3→P4→P5→P6→G):G:=E0_6 h.2 (f h.1)
theorem E0_8{P0 P1 P2 P3 P4 P5 P6 P7:Prop}{G:Prop}(h:P0∧P1∧P2∧P3∧P4∧P5∧P6∧P7)(f:P0→P1→P2→P3→P4→P5→P6→P7→G):G:=E0_7 h.2 (f h.1)
theorem E0_9{P0 P1 P2 P3 P4 P5 P6 P7 P8:Prop}{G:Prop}(h:P0∧P1∧P2∧P3∧P4∧P5∧P6∧P7∧P8)(f:P0→P1→P2→P3→P4→P5→P6→P7→P8→G):G:=E0_8 h.2 (f h.1)
theorem E0_10{P0 P1 P2 P3 P4 P5 P6 P7 P8 P9:Prop}{G:Prop}(h:P0∧P1∧P2∧P3∧P4∧P5∧P6∧P7∧P8∧P9)(f:P0→P1→P2→P3→P4→P5→P6→P7→P8→P9→G):G:=E0_9 h.2 (f h.1)
theorem E1_1{A0:Sort _}{P0:A0→Prop}{G:Prop}(h:∃a,P0 a)(f:∀a,P0 a→G):G:=h.elim f
theorem E1_2{A0:Sort _}{P0 P1:A0→Prop}{G:Prop}(h:∃a,P0 a∧P1 a)(f:∀a,P0 a→P1 a→G):G:=h.elim λa h=>E0_2 h (f a)
theorem E1_3{A0:Sort _}{P0 P1 P2:A0→Prop}{G:Prop}(h:∃a,P0 a∧P1 a∧P2 a)(f:∀a,P0 a→P1 a→P2 a→G):G:=h.elim λa h=>E0_3 h (f a)
theorem E1_4{A0:Sort _}{P0 P1 P2 P3:A0→Prop}{G:Prop}(h:∃a,P0 a∧P1 a∧P2 a∧P3 a)(f:∀a,P0 a→P1 a→P2 a→P3 a→G):G:=h.elim λa h=>E0_4 h (f a)
theorem E1_5{A0:Sort _}{P0 P1 P2 P3 P4:A0→Prop}{G:Prop}(h:∃a,P0 a∧P1 a∧P2 a∧P3 a∧P4 a)(f:∀a,P0 a→P1 a→P2 a→P3 a→P4 a→G):G:=h.elim λa h=>E0_5 h (f a)
theorem E1_6{A0:Sort _}{P0 P1 P2 P3 P4 P5:A0→Prop}{G:Prop}(h:∃a,P0 a∧P1 a∧P2 a∧P3 a∧P4 a∧P5 a)(f:∀a,P0 a→P1 a→P2 a→P3 a→P4 a→P5 a→G):G:=h.elim λa h=>E0_6 h (f a)
theorem E1_7{A0:Sort _}{P0 P1 P2 P3 P4 P5 P6:A0→Prop}{G:Prop}(h:∃a,P0 a∧P1 a∧P2 a∧P3 a∧P4 a∧P5 a∧P6 a)(f:∀a,P0 a→P1 a→P2 a→P3 a→P4 a→P5 a→P6 a→G):G:=h.elim λa h=>E0_7 h (f a)
theorem E1_8{A0:Sort _}{P0 P1 P2 P3 P4 P5 P6 P7:A0→Prop}{G:Prop}(h:∃a,P0 a∧P1 a∧P2 a∧P3 a∧P4 a∧P5 a∧P6 a∧P7 a)(f:∀a,P0 a→P1 a→P2 a→P3 a→P4 a→P5 a→P6 a→P7 a→G):G:=h.elim λa h=>E0_8 h (f a)
theorem E1_10{A0:Sort _}{P0 P1 P2 P3 P4 P5 P6 P7 P8 P9:A0→Prop}{G:Prop}(h:∃a,P0 a∧P1 a∧P2 a∧P3 a∧P4 a∧P5 a∧P6 a∧P7 a∧P8 a∧P9 a)(f:∀a,P0 a→P1 a→P2 a→P3 a→P4 a→P5 a→P6 a→P7 a→P8 a→P9 a→G):G:=h.elim λa h=>E0_10 h (f a)
theorem E2_1{A0:Sort _}{A1:Sort _}{P0:A0→A1→Prop}{G:Prop}(h:∃a,∃b,P0 a b)(f:∀a b,P0 a b→G):G:=h.elim λa h=>E1_1 h (f a)
theorem E2_2{A0:Sort _}{A1:Sort _}{P0 P1:A0→A1→Prop}{G:Prop}(h:∃a,∃b,P0 a b∧P1 a b)(f:∀a b,P0 a b→P1 a b→G):G:=h.elim λa h=>E1_2 h (f a)
theorem E2_3{A0:Sort _}{A1:Sort _}{P0 P1 P2:A0→A1→Prop}{G:Prop}(h:∃a,∃b,P0 a b∧P1 a b∧P2 a b)(f:∀a b,P0 a b→P1 a b→P2 a b→G):G:=h.elim λa h=>E1_3 h (f a)
theorem E2_4{A0:Sort _}{A1:Sort _}{P0 P1 P2 P3:A0→A1→Prop}{G:Prop}(h:∃a,∃b,P0 a b∧P1 a b∧P2 a b∧P3 a b)(f:∀a b,P0 a b→P1 a b→P2 a b→P3 a b→G):G:=h.elim λa h=>E1_4 h (f a)
theorem E2_5{A0:Sort _}{A1:Sort _}{P0 P1 P2 P3 P4:A0→A1→Prop}{G:Prop}(h:∃a,∃b,P0 a b∧P1 a b∧P2 a b∧P3 a b∧P4 a b)(f:∀a b,P0 a b→P1 a b→P2 a b→P3 a b→P4 a b→G):G:=h.elim λa h=>E1_5 h (f a)
theorem E2_6{A0:Sort _}{A1:Sort _}{P0 P1 P2 P3 P4 P5:A0→A1→Prop}{G:Prop}(h:∃a,∃b,P0 a b∧P1 a b∧P2 a b∧P3 a b∧P4 a b∧P5 a b)(f:∀a b,P0 a b→P1 a b→P2 a b→P3 a b→P4 a b→P5 a b→G):G:=h.elim λa h=>E1_6 h (f a)
theorem E2_7{A0:Sort _}{A1:Sort _}{P0 P1 P2 P3 P4 P5 P6:A0→A1→Prop}{G:Prop}(h:∃a,∃b,P0 a b∧P1 a b∧P2 a b∧P3 a b∧P4 a b∧P5 a b∧P6 a b)(f:∀a b,P0 a b→P1 a b→P2 a b→P3 a b→P4 a b→P5 a b→P6 a b→G):G:=h.elim λa h=>E1_7 h (f a)
theorem E2_8{A0:Sort _}{A1:Sort _}{P0 P1 P2 P3 P4 P5 P6 P7:A0→A1→Prop}{G:Prop}(h:∃a,∃b,P0 a b∧P1 a b∧P2 a b∧P3 a b∧P4 a b∧P5 a b∧P6 a b∧P7 a b)(f:∀a b,P0 a b→P1 a b→P2 a b→P3 a b→P4 a b→P5 a b→P6 a b→P7 a b→G):G:=h.elim λa h=>E1_8 h (f a)
theorem E2_10{A0:Sort _}{A1:Sort _}{P0 P1 P2 P3 P4 P5 P6 P7 P8 P9:A0→A1→Prop}{G:Prop}(h:∃a,∃b,P0 a b∧P1 a b∧P2 a b∧P3 a b∧P4 a b∧P5 a b∧P6 a b∧P7 a b∧P8 a b∧P9 a b)(f:∀a b,P0 a b→P1 a b→P2 a b→P3 a b→P4 a b→P5 a b→P6 a b→P7 a b→P8 a b→P9 a b→G):G:=h.elim λa h=>E1_10 h (f a)
theorem E3_1{A0:Sort _}{A1:Sort _}{A2:Sort _}{P0:A0→A1→A2→Prop}{G:Prop}(h:∃a,∃b,∃c,P0 a b c)(f:∀a b c,P0 a b c→G):G:=h.elim λa h=>E2_1 h (f a)
theorem E3_2{A0:Sort _}{A1:Sort _}{A2:Sort _}{P0 P1:A0→A1→A2→Prop}{G:Prop}(h:∃a,∃b,∃c,P0 a b c∧P1 a b c)(f:∀a b c,P0 a b c→P1 a b c→G):G:=h.elim λa h=>E2_2 h (f a)
theorem E3_3{A0:Sort _}{A1:Sort _}{A2:Sort _}{P0 P1 P2:A0→A1→A2→Prop}{G:Prop}(h:∃a,∃b,∃c,P0 a b c∧P1 a b c∧P2 a b c)(f:∀a b c,P0 a b c→P1 a b c→P2 a b c→G):G:=h.elim λa h=>E2_3 h (f a)
theorem E3_4{A0:Sort _}{A1:Sort _}{A2:Sort _}{P0 P1 P2 P3:A0→A1→A2→Prop}{G:Prop}(h:∃a,∃b,∃c,P0 a b c∧P1 a b c∧P2 a b c∧P3 a b c)(f:∀a b c,P0 a b c→P1 a b c→P2 a b c→P3 a b c→G):G:=h.elim λa h=>E2_4 h (f a)
theorem E3_6{A0:Sort _}{A1:Sort _}{A2:Sort _}{P0 P1 P2 P3 P4 P5:A0→A1→A2→Prop}{G:Prop}(h:∃a,∃b,∃c,P0 a b c∧P1 a b c∧P2 a b c∧P3 a b c∧P4 a b c∧P5 a b c)(f:∀a b c,P0 a b c→P1 a b c→P2 a b c→P3 a b c→P4 a b c→P5 a b c→G):G:=h.elim λa h=>E2_6 h (f a)
theorem E3_7{A0:Sort _}{A1:Sort _}{A2:Sort _}{P0 P1 P2 P3 P4 P5 P6:A0→A1→A2→Prop}{G:Prop}(h:∃a,∃b,∃c,P0 a b c∧P1 a b c∧P2 a b c∧P3 a b c∧P4 a b c∧P5 a b c∧P6 a b c)(f:∀a b c,P0 a b c→P1 a b c→P2 a b c→P3 a b c→P4 a b c→P5 a b c→P6 a b c→G):G:=h.elim λa h=>E2_7 h (f a)
theorem E3_8{A0:Sort _}{A1:Sort _}{A2:Sort _}{P0 P1 P2 P3 P4 P5 P6 P7:A0→A1→A2→Prop}{G:Prop}(h:∃a,∃b,∃c,P0 a b c∧P1 a b c∧P2 a b c∧P3 a b c∧P4 a b c∧P5 a b c∧P6 a b c∧P7 a b c)(f:∀a b c,P0 a b c→P1 a b c→P2 a b c→P3 a b c→P4 a b c→P5 a b c→P6 a b c→P7 a b c→G):G:=h.elim λa h=>E2_8 h (f a)
theorem E3_10{A0:Sort _}{A1:Sort _}{A2:Sort _}{P0 P1 P2 P3 P4 P5 P6 P7 P8 P9:A0→A1→A2→Prop}{G:Prop}(h:∃a,∃b,∃c,P0 a b c∧P1 a b c∧P2 a b c∧P3 a b c∧P4 a b c∧P5 a b c∧P6 a b c∧P7 a b c∧P8 a b c∧P9 a b c)(f:∀a b c,P0 a b c→P1 a b c→P2 a b c→P3 a b c→P4 a b c→P5 a b c→P6 a b c→P7 a b c→P8 a b c→P9 a b c→G):G:=h.elim λa h=>E2_10 h (f a)
theorem E4_1{A0:Sort _}{A1:Sort _}{A2:Sort _}{A3:Sort _}{P0:A0→A1→A2→A3→Prop}{G:Prop}(h:∃a,∃b,∃c,∃d,P0 a b c d)(f:∀a b c d,P0 a b c d→G):G:=h.elim λa h=>E3_1 h (f a)
theorem E4_2{A0:Sort _}{A1:Sort _}{A2:Sort _}{A3:Sort _}{P0 P1:A0→A1→A2→A3→Prop}{G:Prop}(h:∃a,∃b,∃c,∃d,P0 a b c d∧P1 a b c d)(f:∀a b c d,P0 a b c d→P1 a b c d→G):G:=h.elim λa h=>E3_2 h (f a)
theorem E4_3{A0:Sort _}{A1:Sort _}{A2:Sort _}{A3:Sort _}{P0 P1 P2:A0→A1→A2→A3→Prop}{G:Prop}(h:∃a,∃b,∃c,∃d,P0 a b c d∧P1 a b c d∧P2 a b c d)(f:∀a b c d,P0 a b c d→P1 a b c d→P2 a b c d→G):G:=h.elim λa h=>E3_3 h (f a)
theorem E4_4{A0:Sort _}{A1:Sort _}{A2:Sort _}{A3:Sort _}{P0 P1 P2 P3:A0→A1→A2→A3→Prop}{G:Prop}(h:∃a,∃b,∃c,∃d,P0 a b c d∧P1 a b c d∧P2 a b c d∧P3 a b c d)(f:∀a b c d,P0 a b c d→P1 a b c d→P2 a b c d→P3 a b c d→G):G:=h.elim λa h=>E3_4 h (f a)
theorem E4_6{A0:Sort _}{A1:Sort _}{A2:Sort _}{A3:Sort _}{P0 P1 P2 P3 P4 P5:A0→A1→A2→A3→Prop}{G:Prop}(h:∃a,∃b,∃c,∃d,P0 a b c d∧P1 a b c d∧P2 a b c d∧P3 a b c d∧P4 a b c d∧P5 a b c d)(f:∀a b c d,P0 a b c d→P1 a b c d→P2 a b c d→P3 a b c d→P4 a b c d→P5 a b c d→G):G:=h.elim λa h=>E3_6 h (f a)
theorem E4_7{A0:Sort _}{A1:Sort _}{A2:Sort _}{A3:Sort _}{P0 P1 P2 P3 P4 P5 P6:A0→A1→A2→A3→Prop}{G:Prop}(h:∃a,∃b,∃c,∃d,P0 a b c d∧P1 a b c d∧P2 a b c d∧P3 a b c d∧P4 a b c d∧P5 a b c d∧P6 a b c d)(f:∀a b c d,P0 a b c d→P1 a b c d→P2 a b c d→P3 a b c d→P4 a b c d→P5 a b c d→P6 a b c d→G):G:=h.elim λa h=>E3_7 h (f a)
theorem E4_8{A0:Sort _}{A1:Sort _}{A2:Sort _}{A3:Sort _}{P0 P1 P2 P3 P4 P5 P6 P7:A0→A1→A2→A3→Prop}{G:Prop}(h:∃a,∃b,∃c,∃d,P0 a b c d∧P1 a b c d∧P2 a b c d∧P3 a b c d∧P4 a b c d∧P5 a b c d∧P6 a b c d∧P7 a b c d)(f:∀a b c d,P0 a b c d→P1 a b c d→P2 a b c d→P3 a b c d→P4 a b c d→P5 a b c d→P6 a b c d→P7 a b c d→G):G:=h.elim λa h=>E3_8 h (f a)
theorem E5_2{A0:Sort _}{A1:Sort _}{A2:Sort _}{A3:Sort _}{A4:Sort _}{P0 P1:A0→A1→A2→A3→A4→Prop}{G:Prop}(h:∃a,∃b,∃c,∃d,∃e,P0 a b c d e∧P1 a b c d e)(f:∀a b c d e,P0 a b c d e→P1 a b c d e→G):G:=h.elim λa h=>E4_2 h (f a)
theorem E5_4{A0:Sort _}{A1:Sort _}{A2:Sort _}{A3:Sort _}{A4:Sort _}{P0 P1 P2 P3:A0→A1→A2→A3→A4→Prop}{G:Prop}(h:∃a,∃b,∃c,∃d,∃e,P0 a b c d e∧P1 a b c d e∧P2 a b c d e∧P3 a b c d e)(f:∀a b c d e,P0 a b c d e→P1 a b c d e→P2 a b c d e→P3 a b c d e→G):G:=h.elim λa h=>E4_4 h (f a)
theorem E5_6{A0:Sort _}{A1:Sort _}{A2:Sort _}{A3:Sort _}{A4:Sort _}{P0 P1 P2 P3 P4 P5:A0→A1→A2→A3→A4→Prop}{G:Prop}(h:∃a,∃b,∃c,∃d,∃e,P0 a b c d e∧P1 a b c d e∧P2 a b c d e∧P3 a b c d e∧P4 a b c d e∧P5 a b c d e)(f:∀a b c d e,P0 a b c d e→P1 a b c d e→P2 a b c d e→P3 a b c d e→P4 a b c d e→P5 a b c d e→G):G:=h.elim λa h=>E4_6 h (f a)
theorem E6_2{A0:Sort _}{A1:Sort _}{A2:Sort _}{A3:Sort _}{A4:Sort _}{A5:Sort _}{P0 P1:A0→A1→A2→A3→A4→A5→Prop}{G:Prop}(h:∃a,∃b,∃c,∃d,∃e,∃x,P0 a b c d e x∧P1 a b c d e x)(f:∀a b c d e x,P0 a b c d e x→P1 a b c d e x→G):G:=h.elim λa h=>E5_2 h (f a)
theorem nE{α:Type _}{x:α}{G:Prop}(h:none=some x):G:=nomatch h
theorem sE1{α:Type _}{a b:α}{G:Prop}(h:some a=some b)(k:a=b→G):G:=k (Option.some.inj h)
theorem sE2{α β:Type _}{a b:α}{c d:β}{G:Prop}(h:some (a,c)=some (b,d))(k:a=b→c=d→G):G:=by injection h with h;injection h with h1 h2;exact k h1 h2
theorem sE3{α β γ:Type _}{a b:α}{c d:β}{e f:γ}{G:Prop}(h:some (a,c,e)=some (b,d,f))(k:a=b→c=d→e=f→G):G:=by injection h with h;injection h with h1 h2;injection h2 with h2 h3;exact k h1 h2 h3
theorem iE{α:Type _}{c:Prop}[Decidable c]{a b r:α}{G:Prop}(h:(if c then a else b)=r)(k:c→a=r→G)(k':¬c→b=r→G):G:=by
 by_cases q:c
 ·rw[if_pos q]at h;exact k q h
 ·rw[if_neg q]at h;exact k' q h
theorem bE{α β:Type _}{o:Option α}{f:α→Option β}{b:β}{G:Prop}(h:o.bind f=some b)(k:∀a,o=some a→f a=some b→G):G:=by
 cases o with
 | none=>exact nE h
 | some a=>exact k a rfl h
theorem bE2{α β γ:Type _}{o:Option (α×γ)}{f:α×γ→Option β}{b:β}{G:Prop}(h:o.bind f=some b)(k:∀a c,o=some (a,c)→f (a,c)=some b→G):G:=bE h λa=>k a.1 a.2
theorem bE3{α β γ δ:Type _}{o:Option (α×γ×δ)}{f:α×γ×δ→Option β}{b:β}{G:Prop}(h:o.bind f=some b)(k:∀a c d,o=some (a,c,d)→f (a,c,d)=some b→G):G:=bE h λa=>k a.1 a.2.1 a.2.2
theorem mE{α β:Type _}{o:Option α}{f:α→β}{b:β}{G:Prop}(h:o.map f=some b)(k:∀a,o=some a→f a=b→G):G:=by
 cases o with
 | none=>exact nE h
 | some a=>exact k a rfl (Option.some.inj h)
theorem mE2{α β γ:Type _}{o:Option (α×γ)}{f:α×γ→β}{b:β}{G:Prop}(h:o.map f=some b)(k:∀a c,o=some (a,c)→f (a,c)=b→G):G:=mE h λa=>k a.1 a.2
theorem mE3{α β γ δ:Type _}{o:Option (α×γ×δ)}{f:α×γ×δ→β}{b:β}{G:Prop}(h:o.map f=some b)(k:∀a c d,o=some (a,c,d)→f (a,c,d)=b→G):G:=mE h λa=>k a.1 a.2.1 a.2.2
theorem hide{P:Prop}(h:∀G:Prop,(P→G)→G):P:=h P id
theorem absQ{α:Type _}{M:PySem.Model}{A:PySem.Around}{t:PySem.Sem α}{Q:α→PySem.Shared→Prop}{E:PySem.Value→PySem.Shared→Prop}{s:PySem.Shared}(h:∀R:α→PySem.Shared→Prop,(∀r s',Q r s'→R r s')→PySem.wpAny M A t R E s):PySem.wpAny M A t Q E s:=h Q λ_ _ q=>q
end Mine
namespace Mine
open Lean
abbrev Tm:=TSyntax `term
abbrev Tc:=TSyntax `tactic
def al(h:Tm)(z:Tc)(l:List (Name×Tc)):MacroM Tc:=
 l.foldrM (fun (e, p) z => `(tactic| first | (refine $(mkIdent e) $h ?_; (try clear $h); $p) | $z:tactic)) z
def ob(cs:List Syntax)(p:Tc):MacroM Tc:=do
 let (is,p) ←cs.foldlM (init:=((#[]:Array Tm),p)) λ(is,p) c=>do
  let m:=c[0][0]
  let i:=m[0][0]
  if m.getNumArgs==1 && i.isIdent && i.getId != `rfl then pure (is.push ⟨i⟩,p)
  else withFreshMacroScope do
   let m:TSyntax ``Parser.Tactic.rcasesPatMed:=⟨c[0]⟩
   let p' ← `(tactic| ($p <;> obtain $m := q))
   pure (is.push (← `(q)), if i.getAtomVal == "_" then p else p')
 `(tactic| (intro $is*; $p))
def ek(q:Tc)(n:Nat):List (Name×Tc):=(List.range n).map λi=>(.mkStr `Mine s!"E{i}_{n-i}",q)
def sb(i : Array Tm) : MacroM Tc := `(tactic| (intro $i*; subst $i*))
def mc(h:Tm):MacroM Tc:=do
 let .ident (.original ..) r v p:=h.raw|Macro.throwUnsupported
 let h:Tm:=⟨.ident .none r v p⟩
 let z ← `(tactic| first | exact nE $h | (exfalso; cases $h:term; done) | cases $h:term)
 let x ← `(q)
 let y ← `(r)
 let a ←sb #[x]
 let t : Tc := ⟨mkNullNode #[← `(tactic| intro _), a]⟩
 let b ←sb #[x,y]
 let c ← sb #[x, y, ← `(s)]
 al h z [(`Mine.sE3,c),(`Mine.sE2,b),(`Mine.sE1,a),(`Mine.Rel.intE,t),(`Mine.Rel.strE,t),(`Mine.Rel.boolE,a),(`Mine.Rel.noneE,a),(`Mine.RelAll.nilE,a)]
def mo(p:TSyntax ``Parser.Tactic.rcasesPatMed)(h:Tm):MacroM Tc:=do
 let m:=p.raw[0]
 let t:=m[0]
 let cs:=t[1].getSepArgs.toList
 let n:=cs.length
 unless m.getNumArgs==1 && t.isOfKind ``Parser.Tactic.rcasesPat.tuple && n > 1 do Macro.throwUnsupported
 al h (← `(tactic| rcases $h:term with $p)) (ek (← ob cs (← `(tactic| skip))) n)
def aR : Syntax := Unhygienic.run `(Parser.Tactic.tacticSeq| intros; rfl)
def aC : Syntax := Unhygienic.run `(Parser.Tactic.tacticSeq| intros; first | rfl | exact .inl rfl | exact .inr rfl | assumption | (rename_i h; cases h) | with_unfolding_all rfl | decide +kernel)
def aL : Syntax := Unhygienic.run `(Parser.Tactic.tacticSeq| first | exact Nat.le_refl _ | exact Nat.le_succ _ | exact Nat.le_add_right _ _ | assumption | lia | omega)
end Mine
local macro_rules
 | `(tactic| cases $h:term) => Mine.mc h
local macro_rules
 | `(tactic| obtain $p:rcasesPatMed := $h) => Mine.mo p h
section
open PySem PySem.Calls PySem.Spec PyProof.Rows PySem.W
set_option maxRecDepth 20000
namespace Mine
inductive D where
 | none|bool (b:Bool)|int (i:Int)|str (x:Str)|tup (ds:List D)|lst (ds:List D)|obj (v:Value)
noncomputable abbrev cI(vs:Array Value)(n:Nat):Obj:={ cls:=.type "list",data:=.seq vs n }
noncomputable abbrev fW(vs:Array Value)(n:Nat):Obj:={ cls:=.type "tuple",data:=.seq vs n }
mutual
inductive Rel (g:Heap):Value→D→Prop
 | none:Rel g Value.none D.none
 | bool (b:Bool):Rel g (Value.bool b) (D.bool b)
 | int (i:Int) (t:Tok):Rel g (Value.int i t) (D.int i)
 | str (x:Str) (t:Tok):Rel g (Value.str x t) (D.str x)
 | tup {a:Addr} {vs:List Value} {n:Nat} {ds:List D}:g.get? a=some (fW vs.toArray n)→RelAll g vs ds→Rel g (Value.ref a) (D.tup ds)
 | lst {a:Addr} {vs:List Value} {n:Nat} {ds:List D}:g.get? a=some (cI vs.toArray n)→RelAll g vs ds→Rel g (Value.ref a) (D.lst ds)
 | obj (v:Value):Rel g v (D.obj v)
inductive RelAll (g:Heap):List Value→List D→Prop
 | nil:RelAll g [] []
 | cons {v:Value} {vs:List Value} {d:D} {ds:List D}:Rel g v d→RelAll g vs ds→RelAll g (v::vs) (d::ds)
end
section
variable{g:Heap}{v:Value}{vs:List Value}{ds:List D}{d:D}{G:Prop}
theorem Rel.intE{i:Int}(r:Rel g v (.int i))(k:∀t,v=.int i t→G):G:=by cases (r);exact k _ rfl
theorem Rel.strE{x:Str}(r:Rel g v (.str x))(k:∀t,v=.str x t→G):G:=by cases (r);exact k _ rfl
theorem Rel.boolE{x:Bool}(r:Rel g v (.bool x))(k:v=.bool x→G):G:=by cases (r);exact k rfl
theorem Rel.noneE(r:Rel g v .none)(k:v=.none→G):G:=by cases (r);exact k rfl
theorem Rel.tupE(r:Rel g v (.tup ds))(k:∀a vs n,v=.ref a→g.get? a=some (fW vs.toArray n)→RelAll g vs ds→G):G:=by cases r with|tup e q=>exact k _ _ _ rfl e q
theorem Rel.lstE(r:Rel g v (.lst ds))(k:∀a vs n,v=.ref a→g.get? a=some (cI vs.toArray n)→RelAll g vs ds→G):G:=by cases r with|lst e q=>exact k _ _ _ rfl e q
theorem RelAll.nilE(r:RelAll g vs [])(k:vs=[]→G):G:=by cases (r);exact k rfl
theorem RelAll.consE(r:RelAll g vs (d::ds))(k:∀v ws,vs=v::ws→Rel g v d→RelAll g ws ds→G):G:=by cases r with|cons a b=>exact k _ _ rfl a b
theorem RelAll.oneE(r:RelAll g vs [d])(k:∀v,vs=[v]→Rel g v d→G):G:=r.consE λv ws e a b=>b.nilE λq=>k v (q▸e) a
theorem RelAll.twoE{d':D}(r:RelAll g vs [d,d'])(k:∀v v',vs=[v,v']→Rel g v d→Rel g v' d'→G):G:=r.consE λv ws e a b=>b.oneE λv' q a'=>k v v' (q▸e) a a'
end
theorem ma{α:Type _}{n:Nat}{l:List α}(h:l.length=n+1):∃a t,l=a::t∧t.length=n:=by
 cases l with
 | nil=>cases h
 | cons a t=>exact⟨a,t,rfl,Nat.succ.inj h⟩
noncomputable def Le(g g':Heap):Prop:=∀a o,g.get? a=some o→g'.get? a=some o
theorem Le.refl(g:Heap):Le g g:=λ_ _ h=>h
theorem Le.trans{a b c:Heap}(h:Le a b)(k:Le b c):Le a c:=λx o e=>k x o (h x o e)
theorem Rel.mono{g g':Heap}(hs:Le g g'){v:Value}{d:D}(r:Rel g v d):Rel g' v d:=
 Rel.rec (motive_1:=λv d _=>Rel g' v d) (motive_2:=λvs ds _=>RelAll g' vs ds) .none .bool .int .str (λe _ ih=>.tup (hs _ _ e) ih) (λe _ ih=>.lst (hs _ _ e) ih) .obj .nil (λ_ _ a b=>.cons a b) r
theorem RelAll.mono{g g':Heap}(hs:Le g g'){vs:List Value}{ds:List D}(r:RelAll g vs ds):RelAll g' vs ds:=
 RelAll.rec (motive_1:=λv d _=>Rel g' v d) (motive_2:=λvs ds _=>RelAll g' vs ds) .none .bool .int .str (λe _ ih=>.tup (hs _ _ e) ih) (λe _ ih=>.lst (hs _ _ e) ih) .obj .nil (λ_ _ a b=>.cons a b) r
section
variable{g:Heap}{v:Value}{d:D}{vs ws:List Value}{ds es:List D}
theorem RelAll.length(h:RelAll g vs ds):vs.length=ds.length:=by
 induction vs generalizing ds with
 | nil=>cases h;rfl
 | cons v vs ih=>
  cases h with
  | cons _ r=>rw[List.length_cons,List.length_cons,ih r]
theorem RelAll.append(h:RelAll g vs ds)(k:RelAll g ws es):RelAll g (vs++ws) (ds++es):=by
 induction vs generalizing ds with
 | nil=>cases h;exact k
 | cons v vs ih=>
  cases h with
  | cons h r=>exact .cons h (ih r)
theorem RelAll.one(h:Rel g v d):RelAll g [v] [d]:=.cons h .nil
theorem RelAll.get{k:Nat}(h:RelAll g vs ds)(hk:ds[k]?=some d):∃v,vs[k]?=some v∧Rel g v d:=by
 induction vs generalizing ds k with
 | nil=>cases h;simp at hk
 | cons v vs ih=>
  cases h with
  | cons h r=>
   cases k with
   | zero=>simp at hk;subst hk;exact⟨v,rfl,h⟩
   | succ k=>exact ih r (by simpa using hk)
theorem RelAll.drop(n:Nat)(h:RelAll g vs ds):RelAll g (vs.drop n) (ds.drop n):=by
 induction n generalizing vs ds with
 | zero=>exact h
 | succ n ih=>
  cases h with
  | nil=>exact .nil
  | cons h r=>exact ih r
theorem RelAll.take(n:Nat)(h:RelAll g vs ds):RelAll g (vs.take n) (ds.take n):=by
 induction n generalizing vs ds with
 | zero=>exact .nil
 | succ n ih=>
  cases h with
  | nil=>exact .nil
  | cons h r=>exact .cons h (ih r)
theorem RelAll.map{α:Type}{f:α→Value}{k:α→D}{l:List α}(h:∀x∈l,Rel g (f x) (k x)):RelAll g (l.map f) (l.map k):=by
 induction l with
 | nil=>exact .nil
 | cons x l ih=>exact .cons (h x (.head _)) (ih λy hy=>h y (.tail _ hy))
theorem RelAll.replicate{n:Nat}(h:Rel g v d):RelAll g (List.replicate n v) (List.replicate n d):=by
 induction n with
 | zero=>exact .nil
 | succ n ih=>exact .cons h ih
end
noncomputable def gone:Obj:={ cls:=.none,data:=.freed }
noncomputable def cR(g:Heap)(a:Addr)(o:Obj):Heap:=⟨Array.ofFn λi:Fin (max (a+1) g.objs.size)=>if i.val=a then o else(g.objs[i.val]?).getD gone,g.life⟩
theorem get?_eq(h:Heap)(a:Addr):h.get? a=match h.objs[a]? with|some o=>if o.isFreed then none else some o|none=>none:=by
 unfold Heap.get?
 cases e:h.objs[a]? with
 | none=>rfl
 | some o=>
  obtain⟨c,d,dt,sl⟩:=o
  cases dt<;>rfl
theorem dR{g:Heap}{a:Addr}{o:Obj}(hf:o.isFreed=false):(cR g a o).get? a=some o:=by
 have hlt:a<max (a+1) g.objs.size:=Nat.lt_of_lt_of_le (Nat.lt_succ_self a) (Nat.le_max_left _ _)
 rw[get?_eq]
 have:(cR g a o).objs[a]?=some o:=by
  simp only[cR,Array.getElem?_ofFn]
  rw[dif_pos hlt];simp
 rw[this];simp[hf]
theorem bz{g:Heap}{a b:Addr}{o:Obj}(hb:b≠a):(cR g a o).get? b=g.get? b:=by
 rw[get?_eq,get?_eq]
 by_cases h:b<max (a+1) g.objs.size
 ·have e:(cR g a o).objs[b]?=some ((g.objs[b]?).getD gone):=by
   simp only[cR,Array.getElem?_ofFn]
   rw[dif_pos h]
   simp[hb]
  rw[e]
  cases q:g.objs[b]? with
  | none=>simp[gone,Obj.isFreed]
  | some o'=>simp
 ·have e:(cR g a o).objs[b]?=none:=by
   simp only[cR,Array.getElem?_ofFn]
   rw[dif_neg h]
  have e':g.objs[b]?=none:=by
   apply Array.getElem?_eq_none
   exact Nat.le_trans (Nat.le_max_right (a+1) g.objs.size) (Nat.le_of_not_lt h)
  rw[e,e']
theorem ku{h:Heap}{a:Addr}{o:Obj}(e:h.get? a=some o):o.isFreed=false:=by
 rw[get?_eq]at e
 cases q:h.objs[a]? with
 | none=>rw[q]at e;cases e
 | some o'=>
  rw[q]at e
  dsimp only at e
  (first|(refine iE e ?_ ?_<;>(clear e;intro _ e))|split at e)
  ·cases e
  ·rename_i hq
   cases e;exact Bool.eq_false_iff.mpr hq
theorem Le.put{g:Heap}{a:Addr}{o:Obj}(h:g.get? a=none):Le g (cR g a o):=λb o' e=>by
 rw[bz];exact e
 rintro rfl;rw[h]at e;cases e
inductive Cell where
 | lst (ds:List D)
 | fz (ds:List D)
 | it (ds:List D)
 | raw (P:Obj→Prop)
 | tab (P:Addr) (pos:Pos) (qual:Str) (b:Bool)
noncomputable def Cell.isFz:Cell→Bool
 | .fz _=>true
 | _=>false
noncomputable def CellOk(g h:Heap)(a:Addr):Cell→Prop
 | .lst ds=>∃vs n,h.get? a=some (cI (List.toArray vs) n)∧RelAll g vs ds
 | .fz ds=>Rel g (.ref a) (.lst ds)
 | .it ds=>∃l vs n i,h.IsListIter a l i∧g.get? l=some (cI (List.toArray vs) n)∧RelAll g (vs.drop i) ds
 | .raw P=>∃o,h.get? a=some o∧P o
 | .tab P pos qual b=>a=P∧∃ps:Array Value,h.get? a=some (tabObj ps)∧TriplesOk ps.toList∧if b=true then ∃c',codeAmong pos ps.toList=some (.ref c')∧g.CodeRec (.ref c') qual else codeAmong pos ps.toList=none
theorem CellOk.mono{g g' h h':Heap}{a:Addr}{c:Cell}(hs:Le g g')(hk:c.isFz=false→h'.get? a=h.get? a)(k:CellOk g h a c):CellOk g' h' a c:=by
 cases c with
 | lst ds=>obtain⟨vs,n,e,r⟩:=k;exact⟨vs,n,(hk rfl).trans e,r.mono hs⟩
 | fz ds=>exact Rel.mono hs k
 | it ds=>obtain⟨l,vs,n,i,⟨o,e,q⟩,e',r⟩:=k;exact⟨l,vs,n,i,⟨o,(hk rfl).trans e,q⟩,hs _ _ e',r.mono hs⟩
 | raw P=>obtain⟨o,e,p⟩:=k;exact⟨o,(hk rfl).trans e,p⟩
 | tab P pos qual b=>
  obtain⟨ea,ps,e,t,r⟩:=k
  refine⟨ea,ps,(hk rfl).trans e,t,?_⟩
  cases b with
  | true=>obtain⟨c',q,r⟩:=r;exact⟨c',q,r.keeps hs⟩
  | false=>exact r
theorem CellOk.there{g h:Heap}{a:Addr}{c:Cell}(hs:Le g h)(k:CellOk g h a c):∃o,h.get? a=some o:=by
 cases c with
 | lst ds=>obtain⟨vs,n,e,r⟩:=k;exact⟨_,e⟩
 | fz ds=>cases k with|lst e _=>exact⟨_,hs _ _ e⟩
 | it ds=>obtain⟨l,vs,n,i,⟨o,e,q⟩,e',r⟩:=k;exact⟨_,e⟩
 | raw P=>obtain⟨o,e,p⟩:=k;exact⟨o,e⟩
 | tab P pos qual b=>obtain⟨_,ps,e,_⟩:=k;exact⟨_,e⟩
structure Tp where
 mg:Str→Option Value
 mb:Str→Option Value
 g0:Heap
structure TopOk (T:Tp) (g:Heap):Prop where
 gl:g.Ns mainGlobals T.mg
 bl:g.Ns builtinsNs T.mb
 nolim:g.NoLimit
 base:Le T.g0 g
theorem TopOk.mono{T:Tp}{g g':Heap}(hs:Le g g')(t:TopOk T g):TopOk T g':=⟨t.gl.keeps hs,t.bl.keeps hs,t.nolim.keeps hs,t.base.trans hs⟩
structure Sg where
 g:Heap
 own:List Addr
 sto:List Cell
structure Inv (T:Tp) (σ:Sg) (s:Shared):Prop where
 sub:Le σ.g s.heap
 len:σ.own.length=σ.sto.length
 nodup:σ.own.Nodup
 cells:∀(k:Nat) a c,σ.own[k]?=some a→σ.sto[k]?=some c→CellOk σ.g s.heap a c
 off:∀(k:Nat) a c,σ.own[k]?=some a→σ.sto[k]?=some c→c.isFz=false→σ.g.get? a=none
 top:TopOk T σ.g
 bare:AllBare s.gens
 tk:0<s.toks
theorem Inv.mem{T:Tp}{σ:Sg}{s:Shared}(I:Inv T σ s){a:Addr}(h:a∈σ.own):∃o,s.heap.get? a=some o:=by
 obtain⟨k,hk,e⟩:=List.getElem_of_mem h
 have hk':k<σ.sto.length:=I.len▸hk
 exact(I.cells k a _ (by rw[List.getElem?_eq_getElem hk,e]) (List.getElem?_eq_getElem hk')).there I.sub
structure Ext (W:Addr→Prop) (Wg:Nat→Prop) (σ:Sg) (s:Shared) (σ':Sg) (s':Shared):Prop where
 le:Le σ.g σ'.g
 own:∃more,σ'.own=σ.own++more∧∀a∈more,s.heap.get? a=none∨W a
 fresh:∀a o,σ'.g.get? a=some o→σ.g.get? a=none→s.heap.get? a=none∨a∈σ.own∨W a
 keep:∀a o,s.heap.get? a=some o→a∉σ.own→¬W a→s'.heap.get? a=some o
 gens:∀(i:Nat) x,s.gens[i]?=some x→¬Wg i→s'.gens[i]?=some x
 os:s'.os=s.os
noncomputable abbrev NoW:Addr→Prop:=λ_=>False
noncomputable abbrev NoG:Nat→Prop:=λ_=>False
theorem Ext.refl(W:Addr→Prop)(Wg:Nat→Prop)(σ:Sg)(s:Shared):Ext W Wg σ s σ s:=
 ⟨.refl _,⟨[],by simp,by simp⟩,λa o e n=>(by rw[n]at e;cases e),λ_ _ e _ _=>e,λ_ _ e _=>e,rfl⟩
theorem Ext.trans{W:Addr→Prop}{Wg:Nat→Prop}{T:Tp}{σ₁ σ₂ σ₃:Sg}{s₁ s₂ s₃:Shared}(I:Inv T σ₂ s₂)(x:Ext W Wg σ₁ s₁ σ₂ s₂)(y:Ext W Wg σ₂ s₂ σ₃ s₃):Ext W Wg σ₁ s₁ σ₃ s₃:=by
 obtain⟨m1,o1,f1⟩:=x.own
 obtain⟨m2,o2,f2⟩:=y.own
 have old:∀a,s₂.heap.get? a=none→s₁.heap.get? a=none∨W a:=by
  intro a e
  cases q:s₁.heap.get? a with
  | none=>exact .inl rfl
  | some o=>
   by_cases hw:W a
   ·exact .inr hw
   ·exfalso
    by_cases ho:a∈σ₁.own
    ·obtain⟨o',e'⟩:=I.mem (a:=a) (by rw[o1];exact List.mem_append_left _ ho)
     rw[e']at e;cases e
    ·rw[x.keep a o q ho hw]at e;cases e
 refine⟨x.le.trans y.le,⟨m1++m2,by rw[o2,o1,List.append_assoc],λa ha=>?_⟩,λa o e n=>?_,λa o e n hw=>?_,λi g e n=>y.gens i g (x.gens i g e n) n,y.os.trans x.os⟩
 ·rcases List.mem_append.mp ha with h|h
  ·exact f1 a h
  ·rcases f2 a h with h|h
   ·exact old a h
   ·exact .inr h
 ·cases q:σ₂.g.get? a with
  | some o'=>exact x.fresh a o' q n
  | none=>
   rcases y.fresh a o e q with h|h|h
   ·rcases old a h with h|h
    ·exact .inl h
    ·exact .inr (.inr h)
   ·rw[o1]at h
    rcases List.mem_append.mp h with h|h
    ·exact .inr (.inl h)
    ·rcases f1 a h with h|h
     ·exact .inl h
     ·exact .inr (.inr h)
   ·exact .inr (.inr h)
 ·refine y.keep a o (x.keep a o e n hw) (λh=>?_) hw
  rw[o1]at h
  rcases List.mem_append.mp h with h|h
  ·exact n h
  ·rcases f1 a h with h|h
   ·rw[h]at e;cases e
   ·exact hw h
theorem Ext.weaken{W W':Addr→Prop}{Wg Wg':Nat→Prop}{σ σ':Sg}{s s':Shared}(x:Ext W Wg σ s σ' s')(h:∀a,W a→W' a)(hg:∀i,Wg i→Wg' i):Ext W' Wg' σ s σ' s':=
 ⟨x.le,let ⟨m,o,f⟩:=x.own;⟨m,o,λa ha=>(f a ha).imp id (h a)⟩,λa o e n=>(x.fresh a o e n).imp id (Or.imp id (h a)),λa o e n hw=>x.keep a o e n λq=>hw (h a q),λi g e n=>x.gens i g e λq=>n (hg i q),x.os⟩
theorem Ext.drop{W:Addr→Prop}{Wg:Nat→Prop}{σ σ':Sg}{s s':Shared}(x:Ext W Wg σ s σ' s')(h:∀a,W a→s.heap.get? a=none)(hg:∀i,Wg i→s.gens[i]?=none):Ext NoW NoG σ s σ' s':=
 ⟨x.le,let ⟨m,o,f⟩:=x.own;⟨m,o,λa ha=>.inl ((f a ha).elim id (h a))⟩,λa o e n=>(x.fresh a o e n).elim .inl λq=>q.elim (λq=>.inr (.inl q)) λq=>.inl (h a q),λa o e n _=>x.keep a o e n λq=>(by rw[h a q]at e;cases e),
  λi g e _=>x.gens i g e λq=>(by rw[hg i q]at e;cases e),x.os⟩
theorem Ext.up{W:Addr→Prop}{Wg:Nat→Prop}{σ σ':Sg}{s s':Shared}(x:Ext NoW NoG σ s σ' s'):Ext W Wg σ s σ' s':=x.weaken (λ_ h=>h.elim) λ_ h=>h.elim
theorem Ext.heap{W:Addr→Prop}{Wg:Nat→Prop}{σ:Sg}{s:Shared}{h':Heap}{tk:Nat}(k:∀a o,s.heap.get? a=some o→¬W a→h'.get? a=some o):Ext W Wg σ s σ { s with heap:=h',toks:=tk }:=
 ⟨.refl _,⟨[],by simp,by simp⟩,λa o e n=>(by rw[n]at e;cases e),λa o e _ hw=>k a o e hw,λ_ _ e _=>e,rfl⟩
theorem Inv.heap{T:Tp}{W:Addr→Prop}{σ:Sg}{s:Shared}{h':Heap}{tk:Nat}(I:Inv T σ s)(k:∀a o,s.heap.get? a=some o→¬W a→h'.get? a=some o)(hw:∀a,W a→a∉σ.own∧σ.g.get? a=none)(ht:autoParam (s.toks≤tk) aL):Inv T σ { s with heap:=h',toks:=tk }:=by
 refine⟨λa o e=>k a o (I.sub a o e) λq=>(by rw[(hw a q).2]at e;cases e),I.len,I.nodup,λn a c e1 e2=>?_,I.off,I.top,I.bare,Nat.lt_of_lt_of_le I.tk ht⟩
 have c0:=I.cells n a c e1 e2
 obtain⟨o,ho⟩:=c0.there I.sub
 exact c0.mono (.refl _) λ_=>by rw[ho];exact k a o ho λq=>(hw a q).1 (List.mem_of_getElem? e1)
theorem Inv.toks{T:Tp}{σ:Sg}{s:Shared}{tk:Nat}(I:Inv T σ s)(ht:autoParam (s.toks≤tk) aL):Inv T σ { s with toks:=tk }:=⟨I.sub,I.len,I.nodup,I.cells,I.off,I.top,I.bare,Nat.lt_of_lt_of_le I.tk ht⟩
theorem Inv.add{T:Tp}{σ:Sg}{s:Shared}{a:Addr}{o:Obj}(I:Inv T σ s)(e:s.heap.get? a=some o)(hg:σ.g.get? a=none)(ho:a∉σ.own):Inv T ⟨cR σ.g a o,σ.own,σ.sto⟩ s:=by
 refine⟨λb o' q=>?_,I.len,I.nodup,λn b c e1 e2=>(I.cells n b c e1 e2).mono (.put hg) λ_=>rfl,λn b c e1 e2 e3=>?_,I.top.mono (.put hg),I.bare,I.tk⟩
 ·by_cases hb:b=a
  ·subst hb;rw[dR (ku e)]at q;cases q;exact e
  ·rw[bz hb]at q;exact I.sub b o' q
 ·have hb:b≠a:=by rintro rfl;exact ho (List.mem_of_getElem? e1)
  show (cR σ.g a o).get? b=none
  rw[bz hb];exact I.off n b c e1 e2 e3
theorem get?_push_none{h:Heap}:h.get? h.objs.size=none:=by
 cases e:h.get? h.objs.size with
 | none=>rfl
 | some o=>exact absurd (Heap.lt_size e) (Nat.lt_irrefl _)
theorem Inv.notIn{T:Tp}{σ:Sg}{s:Shared}{a:Addr}(I:Inv T σ s)(h:s.heap.get? a=none):a∉σ.own∧σ.g.get? a=none:=by
 constructor
 ·intro q
  obtain⟨o,e⟩:=I.mem q
  rw[h]at e;cases e
 ·cases e:σ.g.get? a with
  | none=>rfl
  | some o=>rw[I.sub a o e]at h;cases h
theorem kY{T:Tp}{σ:Sg}{s:Shared}{o:Obj}(I:Inv T σ s)(hf:o.isFreed=false)(tk:Nat)(ht:autoParam (s.toks≤tk) aL) :
  let s':Shared:={ s with heap:=s.heap.push o,toks:=tk }
  let σ':Sg:=⟨cR σ.g s.heap.objs.size o,σ.own,σ.sto⟩
  Inv T σ' s'∧Ext NoW NoG σ s σ' s'∧σ'.g.get? s.heap.objs.size=some o:=by
 have n:s.heap.get? s.heap.objs.size=none:=get?_push_none
 obtain⟨n1,n2⟩:=I.notIn n
 have I':Inv T σ { s with heap:=s.heap.push o,toks:=tk }:=I.heap (W:=NoW) (λa o' e _=>Heap.get?_push_of_some _ e) (λ_ h=>h.elim) ht
 refine⟨I'.add (Heap.get?_push_size _ hf) n2 n1,⟨.put n2,⟨[],by simp,by simp⟩,λa o' e q=>?_,λa o' e _ _=>Heap.get?_push_of_some _ e,λ_ _ e _=>e,rfl⟩,dR hf⟩
 by_cases ha:a=s.heap.objs.size
 ·subst ha;exact .inl n
 ·have:(cR σ.g s.heap.objs.size o).get? a=some o':=e
  rw[bz ha,q]at this;cases this
end Mine
namespace Mine
inductive Slot where
 | un
 | val (d:D)
 | ref (k:Nat)
noncomputable def RelS(σ:Sg)(v:Value):Slot→Prop
 | .un=>True
 | .val d=>Rel σ.g v d
 | .ref k=>∃a,σ.own[k]?=some a∧v=.ref a
theorem RelS.mono{σ σ':Sg}{v:Value}{sl:Slot}(hg:Le σ.g σ'.g)(ho:∃more,σ'.own=σ.own++more)(h:RelS σ v sl):RelS σ' v sl:=by
 cases sl with
 | un=>trivial
 | val d=>exact Rel.mono hg h
 | ref k=>
  obtain⟨a,e,r⟩:=h
  obtain⟨m,e'⟩:=ho
  refine⟨a,?_,r⟩
  rw[e',List.getElem?_append_left (List.getElem?_eq_some_iff.mp e).1]
  exact e
inductive VK where
 | l|c|f
 deriving DecidableEq
structure FT where
 nt:List (Str×VK)
 gt:List Str
 cd:Option (Value×Str):=none
noncomputable def gy:VK→Option NameKind→Bool
 | .l,some .local=>true
 | .c,some .cell=>true
 | .f,some .cell=>true
 | .f,some .free=>true
 | _,_=>false
structure lK (ft:FT) (env:Env):Prop where
 kind:env.scope.kind=.function
 glob:env.globals=mainGlobals
 blt:env.builtins=builtinsNs
 kinds:∀p∈ft.nt,gy p.2 (env.kindOf p.1)=true
 gl:∀x∈ft.gt,env.kindOf x=some .globalImplicit
 nodup:(ft.nt.map (·.1)).Nodup
 odd:∀x∈ft.nt.map (·.1)++ft.gt,(x==("__debug__" : Str))=false∧(x==("__classdict__" : Str))=false
 code:∀v,ft.cd=some v→env.code=v.1∧env.qual=v.2
structure Frm (ft:FT) (env:Env) (Γ:List Slot) (σ:Sg) (h:Heap):Prop where
 ok:lK ft env
 len:Γ.length=ft.nt.length
 loc:∃m,h.Ns env.locals m∧∀(i:Nat) (x:Str) (sl:Slot),ft.nt[i]?=some (x,.l)→Γ[i]?=some sl→sl≠.un→∃v,m x=some v∧RelS σ v sl
 cel:∀(i:Nat) (x:Str) (k:VK),ft.nt[i]?=some (x,k)→k≠.l→∃c,env.cells.lookup x=some c∧∃ov,h.IsCell c ov∧∀sl,Γ[i]?=some sl→sl≠.un→∃v,ov=some v∧RelS σ v sl
 offL:σ.g.get? env.locals=none∧env.locals∉σ.own
 offC:∀(i:Nat) (x:Str) (k:VK) (c:Addr),ft.nt[i]?=some (x,k)→k≠.l→env.cells.lookup x=some c→σ.g.get? c=none∧c∉σ.own
 apart:∀(i j:Nat) (x y:Str) (k:VK) (c:Addr),ft.nt[i]?=some (x,.c)→ft.nt[j]?=some (y,k)→k≠.l→i≠j→env.cells.lookup x=some c→env.cells.lookup y≠some c
noncomputable def FW(ft:FT)(env:Env)(a:Addr):Prop:=a=env.locals∨∃(i:Nat) (x:Str),ft.nt[i]?=some (x,.c)∧env.cells.lookup x=some a
theorem Heap.Ns.there{h:Heap}{a:Addr}{m:Str→Option Value}(n:h.Ns a m):∃o,h.get? a=some o:=by
 obtain⟨o,_,_,e,_⟩:=n
 exact⟨o,e⟩
section
variable{T:Tp}{ft:FT}{env:Env}{Γ:List Slot}{σ σ':Sg}{s s':Shared}{W:Addr→Prop}{Wg:Nat→Prop}
theorem Frm.extW(F:Frm ft env Γ σ s.heap)(x:Ext W Wg σ s σ' s')(hL:¬W env.locals)(hC:∀(i:Nat) (y:Str) (k:VK) (c:Addr),ft.nt[i]?=some (y,k)→k≠.l→env.cells.lookup y=some c→¬W c):Frm ft env Γ σ' s'.heap:=by
 obtain⟨more,ho,hf⟩:=x.own
 have off:∀a,(∃o,s.heap.get? a=some o)→σ.g.get? a=none∧a∉σ.own→¬W a→σ'.g.get? a=none∧a∉σ'.own:=by
  rintro a ⟨o,e⟩ ⟨h1,h2⟩ hw
  constructor
  ·cases q:σ'.g.get? a with
   | none=>rfl
   | some o'=>
    rcases x.fresh a o' q h1 with h|h|h
    ·rw[h]at e;cases e
    ·exact absurd h h2
    ·exact absurd h hw
  ·rw[ho]
   intro q
   rcases List.mem_append.mp q with q|q
   ·exact h2 q
   ·rcases hf a q with h|h
    ·rw[h]at e;cases e
    ·exact hw h
 refine⟨F.ok,F.len,?_,λi y k e hk=>?_,?_,λi y k c e hk hc=>?_,F.apart⟩
 ·obtain⟨m,hn,hm⟩:=F.loc
  refine⟨m,?_,λi y sl e1 e2 e3=>?_⟩
  ·obtain⟨o,es,ep,ho',r⟩:=hn
   exact⟨o,es,ep,x.keep _ _ ho' F.offL.2 hL,r⟩
  ·obtain⟨v,hv,r⟩:=hm i y sl e1 e2 e3
   exact⟨v,hv,r.mono x.le ⟨more,ho⟩⟩
 ·obtain⟨c,hc,ov,⟨o,ho',hd⟩,hs⟩:=F.cel i y k e hk
  refine⟨c,hc,ov,⟨o,x.keep _ _ ho' (F.offC i y k c e hk hc).2 (hC i y k c e hk hc),hd⟩,λsl e1 e2=>?_⟩
  obtain⟨v,hv,r⟩:=hs sl e1 e2
  exact⟨v,hv,r.mono x.le ⟨more,ho⟩⟩
 ·obtain⟨m,hn,_⟩:=F.loc
  exact off _ (Heap.Ns.there hn) F.offL hL
 ·obtain⟨c',hc',ov,⟨o,ho',_⟩,_⟩:=F.cel i y k e hk
  rw[hc]at hc';cases hc'
  exact off _ ⟨o,ho'⟩ (F.offC i y k c e hk hc) (hC i y k c e hk hc)
theorem Frm.ext(F:Frm ft env Γ σ s.heap)(x:Ext NoW Wg σ s σ' s'):Frm ft env Γ σ' s'.heap:=F.extW x (λh=>h) λ_ _ _ _ _ _ _ h=>h
theorem jv{x:Str}(h:gy .l (env.kindOf x)=true):env.kindOf x=some .local:=by
 generalize env.kindOf x=o at h
 cases o with
 | none=>exact Bool.noConfusion h
 | some k=>cases k<;>first|rfl|exact Bool.noConfusion h
theorem oS{x:Str}(h:gy .c (env.kindOf x)=true):env.kindOf x=some .cell:=by
 generalize env.kindOf x=o at h
 cases o with
 | none=>exact Bool.noConfusion h
 | some k=>cases k<;>first|rfl|exact Bool.noConfusion h
theorem Cf{x:Str}(h:gy .f (env.kindOf x)=true):env.kindOf x=some .cell∨env.kindOf x=some .free:=by
 generalize env.kindOf x=o at h
 cases o with
 | none=>exact Bool.noConfusion h
 | some k=>cases k<;>first|exact .inl rfl|exact .inr rfl|exact Bool.noConfusion h
variable{M:Model}{A:Around}{E:Value→Shared→Prop}
theorem cS{i:Nat}{x:Str}{k:VK}{sl:Slot}{Q:Value→Shared→Prop}(F:Frm ft env Γ σ s.heap)(hi:ft.nt[i]?=some (x,k))(hs:Γ[i]?=some sl)(hu:sl≠.un)
  (h:∀v,RelS σ v sl→Q v s):wpAny M A (loadName env x) Q E s:=by
 have hm:=F.ok.kinds _ (List.mem_of_getElem? hi)
 have hodd:=F.ok.odd x (List.mem_append_left _ (List.mem_map.mpr ⟨_,List.mem_of_getElem? hi,rfl⟩))
 cases k with
 | l=>
  obtain⟨m,hn,hv⟩:=F.loc
  obtain⟨v,e,r⟩:=hv i x sl hi hs hu
  exact wpAny_loadName_local F.ok.kind (jv hm) hn e (h v r)
 | c=>
  obtain⟨c,hc,ov,hcell,hv⟩:=F.cel i x _ hi (by intro q;cases q)
  obtain⟨v,rfl,r⟩:=hv sl hs hu
  exact wpAny_loadName_cell F.ok.kind (oS hm) hc hcell (h v r)
 | f=>
  obtain⟨c,hc,ov,hcell,hv⟩:=F.cel i x _ hi (by intro q;cases q)
  obtain⟨v,rfl,r⟩:=hv sl hs hu
  rcases Cf hm with hk|hk
  ·exact wpAny_loadName_cell F.ok.kind hk hc hcell (h v r)
  ·exact wpAny_loadName_free F.ok.kind hk hc hcell (h v r) hodd.2
theorem rS{i j:Nat}{x:Str}{k k':VK}(F:lK ft env)(hi:ft.nt[i]?=some (x,k))(hj:ft.nt[j]?=some (x,k')):i=j:=by
 have h1:(ft.nt.map (·.1))[i]?=some x:=by simp[hi]
 have h2:(ft.nt.map (·.1))[j]?=some x:=by simp[hj]
 obtain⟨l1,e1⟩:=List.getElem?_eq_some_iff.mp h1
 obtain⟨l2,e2⟩:=List.getElem?_eq_some_iff.mp h2
 exact(List.getElem_inj F.nodup).mp (e1.trans e2.symm)
theorem hN{i j:Nat}{sl sl':Slot}(h:(Γ.set i sl)[j]?=some sl'):(i=j∧sl'=sl)∨(i≠j∧Γ[j]?=some sl'):=by
 by_cases e:i=j
 ·subst e
  rw[List.getElem?_set_self']at h
  cases q:Γ[i]? with
  | none=>rw[q]at h;cases h
  | some _=>rw[q]at h;cases h;exact .inl ⟨rfl,rfl⟩
 ·rw[List.getElem?_set_ne e]at h
  exact .inr ⟨e,h⟩
theorem cT{i:Nat}{x:Str}{k:VK}{sl:Slot}{v:Value}{Q:Unit→Shared→Prop}(I:Inv T σ s)(F:Frm ft env Γ σ s.heap)(hi:ft.nt[i]?=some (x,k))(hk:k≠.f)(hv:RelS σ v sl)
  (h:∀s',Inv T σ s'→Ext (FW ft env) NoG σ s σ s'→Frm ft env (Γ.set i sl) σ s'.heap→Q () s'):wpAny M A (storeName env x v) Q E s:=by
 have hm:=F.ok.kinds _ (List.mem_of_getElem? hi)
 cases k with
 | f=>exact absurd rfl hk
 | l=>
  obtain⟨m,hn,hmv⟩:=F.loc
  refine wpAny_storeName_local (jv hm) hn (λh' hn' hs=>?_) (by rw[F.ok.kind];rfl)
  have keep:∀a o,s.heap.get? a=some o→¬(a=env.locals)→h'.get? a=some o:=λa o e ha=>(hs.2 a ha).trans e
  have offc:∀{j:Nat} {y:Str} {k:VK} {c:Addr},ft.nt[j]?=some (y,k)→k≠.l→env.cells.lookup y=some c→c≠env.locals:=by
   rintro j y k c e hk' hc rfl
   obtain⟨c',hc',ov,⟨o,ho',hd⟩,_⟩:=F.cel j y k e hk'
   rw[hc]at hc';cases hc'
   obtain⟨o2,es,ep,ho2,hd2,_⟩:=hn
   rw[ho']at ho2;cases ho2
   rw[hd]at hd2;cases hd2
  refine h _ (I.heap (W:=λa=>a=env.locals) keep λa e=>e▸⟨F.offL.2,F.offL.1⟩) (Ext.heap λa o e hw=>keep a o e λq=>hw (.inl q))
   ⟨F.ok,by rw[List.length_set];exact F.len,⟨_,hn',λj y sl' e1 e2 e3=>?_⟩,λj y k e hk'=>?_,F.offL,F.offC,F.apart⟩
  ·rcases hN e2 with⟨rfl,rfl⟩|⟨hne,e2⟩
   ·rw[hi]at e1;cases e1
    exact⟨v,if_pos rfl,hv⟩
   ·obtain⟨v',hv',r⟩:=hmv j y sl' e1 e2 e3
    refine⟨v',?_,r⟩
    rw[if_neg];exact hv'
    rintro rfl;exact hne (rS F.ok hi e1)
  ·obtain⟨c,hc,ov,hcell,hv'⟩:=F.cel j y k e hk'
   refine⟨c,hc,ov,hcell.sameBut hs (offc e hk' hc),λsl' e2 e3=>?_⟩
   rcases hN e2 with⟨rfl,rfl⟩|⟨hne,e2⟩
   ·rw[hi]at e;cases e;exact absurd rfl hk'
   ·exact hv' sl' e2 e3
 | c=>
  obtain⟨c,hc,ov,hcell,_⟩:=F.cel i x _ hi (by intro q;cases q)
  refine wpAny_storeName_cell F.ok.kind (oS hm) hc hcell (λh' hcell' hs=>?_)
  have offc:=F.offC i x _ c hi (by intro q;cases q) hc
  have keep:∀a o,s.heap.get? a=some o→¬(a=c)→h'.get? a=some o:=λa o e ha=>(hs.2 a ha).trans e
  obtain⟨m,hn,hmv⟩:=F.loc
  have hLc:env.locals≠c:=by
   rintro rfl
   obtain⟨o,ho,hd⟩:=hcell
   obtain⟨o2,es,ep,ho2,hd2,_⟩:=hn
   rw[ho]at ho2;cases ho2
   rw[hd]at hd2;cases hd2
  have I':Inv T σ { s with heap:=h',toks:=s.toks }:=I.heap (W:=λa=>a=c) keep λa e=>e▸⟨offc.2,offc.1⟩
  refine h { s with heap:=h',toks:=s.toks } I' (Ext.heap λa o e hw=>keep a o e λq=>hw (.inr ⟨i,x,hi,q▸hc⟩))
   ⟨F.ok,by rw[List.length_set];exact F.len,⟨m,hn.sameBut hs hLc,λj y sl' e1 e2 e3=>?_⟩,λj y k e hk'=>?_,F.offL,F.offC,F.apart⟩
  ·rcases hN e2 with⟨rfl,rfl⟩|⟨hne,e2⟩
   ·rw[hi]at e1;cases e1
   ·exact hmv j y sl' e1 e2 e3
  ·by_cases hij:i=j
   ·subst hij
    rw[hi]at e;cases e
    refine⟨c,hc,some v,hcell',λsl' e2 e3=>?_⟩
    rcases hN e2 with⟨_,rfl⟩|⟨hne,e2⟩
    ·exact⟨v,rfl,hv⟩
    ·exact absurd rfl hne
   ·obtain⟨c2,hc2,ov2,hcell2,hv2⟩:=F.cel j y k e hk'
    have hcc:c2≠c:=λq=>F.apart i j x y k c hi e hk' hij hc (q▸hc2)
    refine⟨c2,hc2,ov2,hcell2.sameBut hs hcc,λsl' e2 e3=>?_⟩
    rcases hN e2 with⟨q,_⟩|⟨_,e2⟩
    ·exact absurd q hij
    ·exact hv2 sl' e2 e3
theorem dz{x:Str}{v:Value}{Q:Value→Shared→Prop}(I:Inv T σ s)(F:Frm ft env Γ σ s.heap)(hx:x∈ft.gt)(hv:T.mg x=some v)(h:Q v s):wpAny M A (loadName env x) Q E s:=by
 have hk:=F.ok.gl x hx
 unfold loadName
 simp only[Env.blockKind,F.ok.kind,hk,ScopeKind.isAnnotationScope,Bool.false_and,Bool.false_eq_true,if_false]
 unfold loadGlobal
 rw[F.ok.glob]
 refine wpAny_bind (wpAny_nsGet (I.top.gl.keeps I.sub) ?_)
 rw[hv]
 exact wpAny_pure h
theorem bZ{x:Str}{v:Value}{Q:Value→Shared→Prop}(I:Inv T σ s)(F:Frm ft env Γ σ s.heap)(hx:x∈ft.gt)(hn:T.mg x=none)(hv:T.mb x=some v)(h:Q v s):wpAny M A (loadName env x) Q E s:=by
 have hk:=F.ok.gl x hx
 unfold loadName
 simp only[Env.blockKind,F.ok.kind,hk,ScopeKind.isAnnotationScope,Bool.false_and,Bool.false_eq_true,if_false]
 unfold loadGlobal
 rw[F.ok.glob,F.ok.blt]
 refine wpAny_bind (wpAny_nsGet (I.top.gl.keeps I.sub) ?_)
 rw[hn]
 refine wpAny_bind (wpAny_nsGet (I.top.bl.keeps I.sub) ?_)
 rw[hv]
 exact wpAny_pure h
end
end Mine
namespace Mine
structure Cx where
 prog:Program
 w:World
 mg:Str→Option Value
 mb:Str→Option Value
 g0:Heap
noncomputable abbrev Cx.Inv(X:Cx):=Mine.Inv ⟨X.mg,X.mb,X.g0⟩
noncomputable abbrev Cx.M(X:Cx):Model:=model X.prog X.w
noncomputable abbrev NoE:Value→Shared→Prop:=λ_ _=>False
noncomputable abbrev PE:=List Slot→List Cell→Option (D×List Cell)
noncomputable abbrev PL:=List Slot→List Cell→Option (List D×List Cell)
noncomputable abbrev PB:=List Slot→List Cell→Option (Bool×List Cell)
noncomputable def PostE(X:Cx)(σ:Sg)(s:Shared)(d:D)(c':List Cell)(v:Value)(s':Shared):Prop:=
 ∃σ',σ'.sto=c'∧X.Inv σ' s'∧Ext NoW NoG σ s σ' s'∧Rel σ'.g v d
noncomputable def PostL(X:Cx)(σ:Sg)(s:Shared)(ds:List D)(c':List Cell)(vs:List Value)(s':Shared):Prop:=
 ∃σ',σ'.sto=c'∧X.Inv σ' s'∧Ext NoW NoG σ s σ' s'∧RelAll σ'.g vs ds
noncomputable def PostB(X:Cx)(σ:Sg)(s:Shared)(b:Bool)(c':List Cell)(x:Bool)(s':Shared):Prop:=
 x=b∧∃σ',σ'.sto=c'∧X.Inv σ' s'∧Ext NoW NoG σ s σ' s'
structure Room (A:Around) (n:Nat):Prop where
 hand:A.handled=none
 depth:A.depth+n≤900
 units:A.units+16*n≤9000
theorem Room.le{A:Around}{n m:Nat}(h:Room A n)(k:m≤n):Room A m:=⟨h.hand,by have:=h.depth;(first|lia|omega),by have:=h.units;(first|lia|omega)⟩
theorem Room.in1{A:Around}{n:Nat}(h:Room A (n+1)):Room A.in1 n:=⟨h.hand,by have:=h.depth;simp;(first|lia|omega),by have:=h.units;simp;(first|lia|omega)⟩
theorem Room.deeper{A:Around}{n:Nat}{env:Env}(h:Room A (n+1)):Room (A.deeper env) n:=
 ⟨h.hand,by have:=h.depth;show A.depth+1+n≤900;(first|lia|omega),by have:=h.units;show A.units+3+16*n≤9000;(first|lia|omega)⟩
noncomputable def SoundE(X:Cx)(A:Around)(ft:FT)(env:Env)(e:Expr)(p:PE):Prop:=
 ∀Γ σ s d c',X.Inv σ s→Frm ft env Γ σ s.heap→p Γ σ.sto=some (d,c')→wpAny X.M A (eval e env) (PostE X σ s d c') NoE s
noncomputable def SoundB(X:Cx)(A:Around)(ft:FT)(env:Env)(e:Expr)(p:PB):Prop:=
 ∀Γ σ s d c',X.Inv σ s→Frm ft env Γ σ s.heap→p Γ σ.sto=some (d,c')→wpAny X.M A (isTrue e env (eval e env)) (PostB X σ s d c') NoE s
noncomputable def SoundL(X:Cx)(A:Around)(ft:FT)(env:Env)(pos:Pos)(es:List Expr)(p:PL):Prop:=
 ∀Γ σ s d c',X.Inv σ s→Frm ft env Γ σ s.heap→p Γ σ.sto=some (d,c')→wpAny X.M A (spliced (backTo pos (starEach es env))) (PostL X σ s d c') NoE s
section
variable{X:Cx}{A:Around}{ft:FT}{env:Env}{e:Expr}{Γ:List Slot}{σ:Sg}{s:Shared}{d:D}{c':List Cell}
theorem SoundE.use{p:PE}{Q:Value→Shared→Prop}(h:SoundE X A ft env e p)(I:X.Inv σ s)(F:Frm ft env Γ σ s.heap)(hp:p Γ σ.sto=some (d,c'))
  (k:∀v σ' s',σ'.sto=c'→X.Inv σ' s'→Ext NoW NoG σ s σ' s'→Frm ft env Γ σ' s'.heap→Rel σ'.g v d→Q v s'):wpAny X.M A (eval e env) Q NoE s:=
 wpAny_mono (h Γ σ s d c' I F hp) (λv s' ⟨σ',h1,h2,h3,h4⟩=>k v σ' s' h1 h2 h3 (F.ext h3) h4) λ_ _ f=>f
theorem SoundB.use{p:PB}{b:Bool}{Q:Bool→Shared→Prop}(h:SoundB X A ft env e p)(I:X.Inv σ s)(F:Frm ft env Γ σ s.heap)(hp:p Γ σ.sto=some (b,c'))
  (k:∀σ' s',σ'.sto=c'→X.Inv σ' s'→Ext NoW NoG σ s σ' s'→Frm ft env Γ σ' s'.heap→Q b s'):wpAny X.M A (isTrue e env (eval e env)) Q NoE s:=
 wpAny_mono (h Γ σ s b c' I F hp) (λv s' ⟨hb,σ',h1,h2,h3⟩=>hb▸k σ' s' h1 h2 h3 (F.ext h3)) λ_ _ f=>f
theorem SoundL.use{p:PL}{es:List Expr}{pos:Pos}{ds:List D}{Q:List Value→Shared→Prop}(h:SoundL X A ft env pos es p)(I:X.Inv σ s)(F:Frm ft env Γ σ s.heap)(hp:p Γ σ.sto=some (ds,c'))
  (k:∀vs σ' s',σ'.sto=c'→X.Inv σ' s'→Ext NoW NoG σ s σ' s'→Frm ft env Γ σ' s'.heap→RelAll σ'.g vs ds→Q vs s'):wpAny X.M A (spliced (backTo pos (starEach es env))) Q NoE s:=
 wpAny_mono (h Γ σ s ds c' I F hp) (λv s' ⟨σ',h1,h2,h3,h4⟩=>k v σ' s' h1 h2 h3 (F.ext h3) h4) λ_ _ f=>f
theorem PostE.here{v:Value}{tk:Nat}(I:X.Inv σ s)(r:Rel σ.g v d)(ht:autoParam (s.toks≤tk) aL):PostE X σ s d σ.sto v { s with toks:=tk }:=
 ⟨σ,rfl,I.toks ht,Ext.heap λ_ _ e _=>e,r⟩
theorem PostE.same{v:Value}(I:X.Inv σ s)(r:Rel σ.g v d):PostE X σ s d σ.sto v s:=⟨σ,rfl,I,.refl _ _ _ _,r⟩
theorem PostE.trans{σ₁:Sg}{s₁ s₂:Shared}{v:Value}(I:X.Inv σ₁ s₁)(x:Ext NoW NoG σ s σ₁ s₁)(h:PostE X σ₁ s₁ d c' v s₂):PostE X σ s d c' v s₂:=by
 obtain⟨σ',h1,h2,h3,h4⟩:=h
 exact⟨σ',h1,h2,x.trans I h3,h4⟩
theorem PostL.trans{σ₁:Sg}{s₁ s₂:Shared}{ds:List D}{v:List Value}(I:X.Inv σ₁ s₁)(x:Ext NoW NoG σ s σ₁ s₁)(h:PostL X σ₁ s₁ ds c' v s₂):PostL X σ s ds c' v s₂:=by
 obtain⟨σ',h1,h2,h3,h4⟩:=h
 exact⟨σ',h1,h2,x.trans I h3,h4⟩
theorem PostB.trans{σ₁:Sg}{s₁ s₂:Shared}{b x:Bool}(I:X.Inv σ₁ s₁)(k:Ext NoW NoG σ s σ₁ s₁)(h:PostB X σ₁ s₁ b c' x s₂):PostB X σ s b c' x s₂:=by
 obtain⟨h0,σ',h1,h2,h3⟩:=h
 exact⟨h0,σ',h1,h2,k.trans I h3⟩
theorem PostE.newL{vs:List Value}{ds:List D}{tk:Nat}(I:X.Inv σ s)(r:RelAll σ.g vs ds)(ht:autoParam (s.toks≤tk) aL):PostE X σ s (.lst ds) σ.sto (.ref s.heap.objs.size) { s with heap:=s.heap.push (cI vs.toArray 0),toks:=tk }:=by
 obtain⟨I',x,e⟩:=kY I (o:=cI vs.toArray 0) rfl tk ht
 exact⟨⟨cR σ.g s.heap.objs.size (cI vs.toArray 0),σ.own,σ.sto⟩,rfl,I',x,.lst e (r.mono x.le)⟩
theorem PostE.newT{vs:List Value}{ds:List D}{tk:Nat}(I:X.Inv σ s)(r:RelAll σ.g vs ds)(ht:autoParam (s.toks≤tk) aL):PostE X σ s (.tup ds) σ.sto (.ref s.heap.objs.size) { s with heap:=s.heap.push (fW vs.toArray 0),toks:=tk }:=by
 obtain⟨I',x,e⟩:=kY I (o:=fW vs.toArray 0) rfl tk ht
 exact⟨⟨cR σ.g s.heap.objs.size (fW vs.toArray 0),σ.own,σ.sto⟩,rfl,I',x,.tup e (r.mono x.le)⟩
theorem jT{o:Obj}{tk:Nat}(I:X.Inv σ s)(ht:autoParam (s.toks≤tk) aL):X.Inv σ { s with heap:=s.heap.push o,toks:=tk }∧Ext NoW NoG σ s σ { s with heap:=s.heap.push o,toks:=tk }:=
 ⟨Mine.Inv.heap (W:=NoW) I (λ_ _ e _=>Heap.get?_push_of_some _ e) (λ_ h=>h.elim) ht,Ext.heap λ_ _ e _=>Heap.get?_push_of_some _ e⟩
noncomputable def ah(i:Int):PE:=λ_ c=>some (.int i,c)
noncomputable def a8(x:Str):PE:=λ_ c=>some (.str x,c)
noncomputable def b8(b:Bool):PE:=λ_ c=>some (.bool b,c)
noncomputable def fQ:PE:=λ_ c=>some (.none,c)
theorem aD{i:Int}{k:Nat}{pos:Pos}:SoundE X A ft env (.Constant (.int i) k pos) (ah i):=λΓ σ s d c' I F h=>by
 cases h;exact wpAny_Constant_int (PostE.here I (.int _ _))
theorem EL{x:Str}{k:Nat}{pos:Pos}:SoundE X A ft env (.Constant (.str x) k pos) (a8 x):=λΓ σ s d c' I F h=>by
 cases h;exact wpAny_Constant_str (PostE.here I (.str _ _))
theorem d7{b:Bool}{k:Nat}{pos:Pos}:SoundE X A ft env (.Constant (.bool b) k pos) (b8 b):=λΓ σ s d c' I F h=>by
 cases h;exact wpAny_Constant_bool (PostE.same I (.bool _))
theorem mA{k:Nat}{pos:Pos}:SoundE X A ft env (.Constant .none k pos) fQ:=λΓ σ s d c' I F h=>by
 cases h;exact wpAny_Constant_none (PostE.same I .none)
noncomputable def aa(i:Nat):PE:=λΓ c=>match Γ[i]? with
 | some (.val d)=>some (d,c)
 | some (.ref k)=>match c[k]? with
  | some (.fz ds)=>some (.lst ds,c)
  | some (.lst ds)=>some (.lst ds,c.set k (.fz ds))
  | _=>none
 | _=>none
theorem freeze{k:Nat}{ds:List D}{a:Addr}(I:X.Inv σ s)(hc:σ.sto[k]?=some (.lst ds))(ha:σ.own[k]?=some a) :
  ∃g',Le σ.g g'∧X.Inv ⟨g',σ.own,σ.sto.set k (.fz ds)⟩ s∧Ext NoW NoG σ s ⟨g',σ.own,σ.sto.set k (.fz ds)⟩ s∧Rel g' (.ref a) (.lst ds):=by
 have ok:=I.cells k a _ ha hc
 obtain⟨vs,n,e,r⟩:=ok
 have hn:=I.off k a _ ha hc rfl
 have hle:Le σ.g (cR σ.g a (cI vs.toArray n)):=.put hn
 have hrel:Rel (cR σ.g a (cI vs.toArray n)) (.ref a) (.lst ds):=.lst (dR rfl) (r.mono hle)
 refine⟨cR σ.g a (cI vs.toArray n),hle,⟨λb o' q=>?_,by rw[List.length_set];exact I.len,I.nodup,λj b c e1 e2=>?_,λj b c e1 e2 e3=>?_,I.top.mono hle,I.bare,I.tk⟩,⟨hle,⟨[],by simp,by simp⟩,λb o' q h=>?_,λ_ _ e _ _=>e,λ_ _ e _=>e,rfl⟩,hrel⟩
 ·by_cases hb:b=a
  ·subst hb;rw[dR rfl]at q;cases q;exact e
  ·rw[bz hb]at q;exact I.sub b o' q
 ·by_cases hj:k=j
  ·subst hj
   dsimp only at e1 e2
   rw[ha]at e1;cases e1
   rw[List.getElem?_set_self (List.getElem?_eq_some_iff.mp hc).1]at e2;cases e2
   exact hrel
  ·dsimp only at e1 e2
   rw[List.getElem?_set_ne hj]at e2
   exact(I.cells j b c e1 e2).mono hle λ_=>rfl
 ·by_cases hj:k=j
  ·subst hj
   dsimp only at e1 e2
   rw[List.getElem?_set_self (List.getElem?_eq_some_iff.mp hc).1]at e2;cases e2
   cases e3
  ·dsimp only at e1 e2
   rw[List.getElem?_set_ne hj]at e2
   have hb:b≠a:=by
    rintro rfl
    obtain⟨l1,q1⟩:=List.getElem?_eq_some_iff.mp ha
    obtain⟨l2,q2⟩:=List.getElem?_eq_some_iff.mp e1
    exact hj ((List.getElem_inj I.nodup).mp (q1.trans q2.symm))
   show (cR σ.g a _).get? b=none
   rw[bz hb];exact I.off j b c e1 e2 e3
 ·by_cases hb:b=a
  ·subst hb;exact .inr (.inl (List.mem_of_getElem? ha))
  ·have:(cR σ.g a (cI vs.toArray n)).get? b=some o':=q
   rw[bz hb,h]at this;cases this
theorem eval_Name{M:Model}{E:Value→Shared→Prop}{x:Str}{pos:Pos}{Q:Value→Shared→Prop}(hx:(x==("__debug__" : Str))=false)(h:wpAny M A (loadName env x) Q E s):wpAny M A (eval (.Name x pos) env) Q E s:=wpAny_Name h hx
theorem aq{i:Nat}{x:Str}{k:VK}{pos:Pos}(hi:ft.nt[i]?=some (x,k)):SoundE X A ft env (.Name x pos) (aa i):=λΓ σ s d c' I F h=>by
 have hx:=(F.ok.odd x (List.mem_append_left _ (List.mem_map.mpr ⟨_,List.mem_of_getElem? hi,rfl⟩))).1
 unfold aa at h
 (first|(refine iE h ?_ ?_<;>(clear h;intro _ h))|split at h)
 ·rename_i d' e
  cases h
  exact eval_Name hx (cS F hi e (by intro q;cases q) λv r=>PostE.same I r)
 ·rename_i j e
  refine eval_Name hx (cS F hi e (by intro q;cases q) λv r=>?_)
  obtain⟨a,ha,rfl⟩:=r
  (first|(refine iE h ?_ ?_<;>(clear h;intro _ h))|split at h)
  ·rename_i ds q
   cases h
   exact PostE.same I (I.cells j a _ ha q)
  ·rename_i ds q
   cases h
   obtain⟨g',hle,I',x',r⟩:=freeze I q ha
   exact⟨_,rfl,I',x',r⟩
  ·cases h
 ·cases h
noncomputable def mX(v:Value):PE:=λ_ c=>some (.obj v,c)
theorem DI{x:Str}{pos:Pos}{v:Value}(hx:x∈ft.gt)(hv:X.mg x=some v):SoundE X A ft env (.Name x pos) (mX v):=λΓ σ s d c' I F h=>by
 cases h
 exact eval_Name (F.ok.odd x (List.mem_append_right _ hx)).1 (dz I F hx hv (PostE.same I (.obj _)))
theorem qB{x:Str}{pos:Pos}{i:Int}{t:Tok}(hx:x∈ft.gt)(hv:X.mg x=some (.int i t)):SoundE X A ft env (.Name x pos) (ah i):=λΓ σ s d c' I F h=>by
 cases h
 exact eval_Name (F.ok.odd x (List.mem_append_right _ hx)).1 (dz I F hx hv (PostE.same I (.int _ _)))
noncomputable def aw:PL:=λ_ c=>some ([],c)
noncomputable def ag(p:PE)(ps:PL):PL:=λΓ c=>(p Γ c).bind λ(d,c1)=>(ps Γ c1).bind λ(ds,c2)=>some (d::ds,c2)
theorem aI{pos:Pos}:SoundL X A ft env pos [] aw:=λΓ σ s d c' I F h=>by
 cases h;exact wpAny_items_nil ⟨σ,rfl,I,.refl _ _ _ _,.nil⟩
theorem ar{pos:Pos}{es:List Expr}{p:PE}{ps:PL}(h1:SoundE X A ft env e p)(h2:SoundL X A ft env pos es ps)(he:autoParam (∀env,starEach (e::es) env=(false,eval e env)::starEach es env) aR) :
  SoundL X A ft env pos (e::es) (ag p ps):=λΓ σ s d c' I F h=>by
 unfold ag at h
 (refine bE2 h ?_;(try clear h);intro d1 c1 e1 h)
 (refine bE2 h ?_;(try clear h);intro ds c2 e2 h)
 cases h
 refine wpAny_items_cons (h1.use I F e1 λv σ1 s1 q1 I1 x1 F1 r1=>?_) (he env)
 subst q1
 refine h2.use I1 F1 e2 λvs σ2 s2 q2 I2 x2 F2 r2=>?_
 exact⟨σ2,q2,I2,x1.trans I1 x2,.cons (r1.mono x2.le) r2⟩
noncomputable def aM(ps:PL):PE:=λΓ c=>(ps Γ c).bind λ(ds,c1)=>if ds.length≤100000 then some (.lst ds,c1)else none
noncomputable def de(ps:PL):PE:=λΓ c=>(ps Γ c).bind λ(ds,c1)=>if ds.length≤100000 then some (.tup ds,c1)else none
theorem bJ{n:Nat}(h:n≤100000):n≤sizeLine:=Nat.le_trans h (by decide)
theorem bK{pos:Pos}{es:List Expr}{ps:PL}(h1:SoundL X A ft env pos es ps):SoundE X A ft env (.List es pos) (aM ps):=λΓ σ s d c' I F h=>by
 (refine bE2 h ?_;(try clear h);intro ds c1 e1 h)
 dsimp only at h
 (first|(refine iE h ?_ ?_<;>(clear h;intro _ h))|split at h)
 ·rename_i hl
  cases h
  refine wpAny_List (h1.use I F e1 λvs σ1 s1 q1 I1 x1 F1 r1=>⟨by rw[r1.length];exact bJ hl,?_⟩)
  subst q1
  exact PostE.trans I1 x1 (PostE.newL I1 r1)
 ·cases h
theorem eO{pos:Pos}{k:Nat}{es:List Expr}{ps:PL}(h1:SoundL X A ft env pos es ps):SoundE X A ft env (.Tuple es k pos) (de ps):=λΓ σ s d c' I F h=>by
 (refine bE2 h ?_;(try clear h);intro ds c1 e1 h)
 dsimp only at h
 (first|(refine iE h ?_ ?_<;>(clear h;intro _ h))|split at h)
 ·rename_i hl
  cases h
  refine wpAny_Tuple (h1.use I F e1 λvs σ1 s1 q1 I1 x1 F1 r1=>⟨by rw[r1.length];exact bJ hl,?_⟩)
  subst q1
  exact PostE.trans I1 x1 (PostE.newT I1 r1)
 ·cases h
end
end Mine
end
section
open PySem PySem.Calls PySem.Spec PyProof PyProof.Rows PySem.W
set_option maxRecDepth 20000
namespace Mine
mutual
noncomputable def D.toPy:D→Option PyData
 | .none=>some .none
 | .bool b=>some (.bool b)
 | .int i=>some (.int i)
 | .str x=>if PyData.strOk x then some (.str x)else Option.none
 | .tup ds=>(di ds).map .tuple
 | .lst ds=>(di ds).map .list
 | .obj _=>Option.none
noncomputable def di:List D→Option (List PyData)
 | []=>some []
 | d::ds=>match D.toPy d,di ds with
  | some p,some ps=>some (p::ps)
  | _,_=>Option.none
end
section
variable{g:Heap}{p:PyData}{ps:List PyData}{a:Addr}{n:Nat}{v:Value}{d:D}{vs:List Value}{ds:List D}
theorem uc(h:D.none.toPy=some p):∃as,Reads g .none p as:=Option.some.inj h▸⟨_,.none⟩
theorem t9(b:Bool)(h:(D.bool b).toPy=some p):∃as,Reads g (.bool b) p as:=Option.some.inj h▸⟨_,.bool b⟩
theorem yS(i:Int)(t:Tok)(h:(D.int i).toPy=some p):∃as,Reads g (.int i t) p as:=Option.some.inj h▸⟨_,.int i t⟩
theorem yV(x:Str)(t:Tok)(h:(D.str x).toPy=some p):∃as,Reads g (.str x t) p as:=
 iE (show (if PyData.strOk x then some (PyData.str x)else none)=some p from h) (λ_ h=>Option.some.inj h▸⟨_,.str x t⟩) λ_ h=>nE h
theorem yW(e:g.get? a=some (fW vs.toArray n))(ih:∀{ps:List PyData},di ds=some ps→∃as,ReadsAll g vs ps as)(h:(D.tup ds).toPy=some p):∃as,Reads g (.ref a) p as:=
 mE (show (di ds).map .tuple=some p from h) λps hp h=>h▸(ih hp).elim λas q=>⟨_,Reads.tuple e rfl rfl (by simpa using q)⟩
theorem yT(e:g.get? a=some (cI vs.toArray n))(ih:∀{ps:List PyData},di ds=some ps→∃as,ReadsAll g vs ps as)(h:(D.lst ds).toPy=some p):∃as,Reads g (.ref a) p as:=
 mE (show (di ds).map .list=some p from h) λps hp h=>h▸(ih hp).elim λas q=>⟨_,Reads.list e rfl rfl (by simpa using q)⟩
theorem yU(h:di []=some ps):∃as,ReadsAll g [] ps as:=Option.some.inj h▸⟨_,.nil⟩
theorem ua(h1:∀{p:PyData},d.toPy=some p→∃as,Reads g v p as)(h2:∀{ps:List PyData},di ds=some ps→∃as,ReadsAll g vs ps as)(h:di (d::ds)=some ps):∃as,ReadsAll g (v::vs) ps as:=by
 have h:(match d.toPy,di ds with
  | some p,some ps=>some (p::ps)
  | _,_=>none)=some ps:=h
 (first|(refine iE h ?_ ?_<;>(clear h;intro _ h))|split at h)
 ·rename_i p ps e1 e2
  cases h
  obtain⟨as,q⟩:=h1 e1
  obtain⟨bs,q2⟩:=h2 e2
  exact⟨_,.cons q q2⟩
 ·exact nE h
theorem Rel.reads(r:Rel g v d)(h:d.toPy=some p):∃as,Reads g v p as:=
 Rel.rec (motive_1:=λv d _=>∀{p:PyData},d.toPy=some p→∃as,Reads g v p as) (motive_2:=λvs ds _=>∀{ps:List PyData},di ds=some ps→∃as,ReadsAll g vs ps as) (λh=>uc h) (λb _ h=>t9 b h) (λi t _ h=>yS i t h) (λx t _ h=>yV x t h) (λe _ ih _ h=>yW e ih h) (λe _ ih _ h=>yT e ih h) (λ_ _ h=>nE h) (λh=>yU h) (λ_ _ h1 h2 _ h=>ua h1 h2 h) r h
theorem RelAll.reads(r:RelAll g vs ds)(h:di ds=some ps):∃as,ReadsAll g vs ps as:=
 RelAll.rec (motive_1:=λv d _=>∀{p:PyData},d.toPy=some p→∃as,Reads g v p as) (motive_2:=λvs ds _=>∀{ps:List PyData},di ds=some ps→∃as,ReadsAll g vs ps as) (λh=>uc h) (λb _ h=>t9 b h) (λi t _ h=>yS i t h) (λx t _ h=>yV x t h) (λe _ ih _ h=>yW e ih h) (λe _ ih _ h=>yT e ih h) (λ_ _ h=>nE h) (λh=>yU h) (λ_ _ h1 h2 _ h=>ua h1 h2 h) r h
end
noncomputable def dEq(a b:D):Option Bool:=match a.toPy,b.toPy with
 | some p,some q=>if SeqAt.shaped p && SeqAt.shaped q then some (PyData.eqv p q)else none
 | _,_=>none
noncomputable def dIn(a:D)(ds:List D):Option Bool:=match a.toPy,di ds with
 | some p,some qs=>if PyData.canLayAll0 qs && p.canLay0 && decide (PyData.depthAll qs≤64)then some (qs.any λy=>PyData.eqv y p)else none
 | _,_=>none
noncomputable def onI{α:Type}(b:D)(f:Int→Option α):Option α:=match b with|.int j=>f j|_=>none
noncomputable def onS{α:Type}(b:D)(f:Str→Option α):Option α:=match b with|.str j=>f j|_=>none
noncomputable def onL{α:Type}(b:D)(f:List D→Option α):Option α:=match b with|.lst j=>f j|_=>none
noncomputable def onB{α:Type}(b:D)(f:Bool→Option α):Option α:=match b with|.bool j=>f j|_=>none
noncomputable def onR{α:Type}(b:D)(f:Addr→Option α):Option α:=match b with|.obj (.ref j)=>f j|_=>none
section
variable{g:Heap}{α:Type}{b:D}{v:Value}{r:α}{G:Value→Prop}
@[elab_as_elim] theorem ic {f:Int→Option α} (rb:Rel g v b) (h:onI b f=some r) (k:∀j u,f j=some r→G (.int j u)):G v:=by
 cases rb with|int j u=>exact k j u h|_=>exact nE h
@[elab_as_elim] theorem o6 {f:Str→Option α} (rb:Rel g v b) (h:onS b f=some r) (k:∀j u,f j=some r→G (.str j u)):G v:=by
 cases rb with|str j u=>exact k j u h|_=>exact nE h
@[elab_as_elim] theorem r7 {f:List D→Option α} (rb:Rel g v b) (h:onL b f=some r) (k:∀a vs n ds,g.get? a=some (cI vs.toArray n)→RelAll g vs ds→f ds=some r→G (.ref a)):G v:=by
 cases rb with|lst e q=>exact k _ _ _ _ e q h|_=>exact nE h
theorem AF{f:List D→Option α}{G:Prop}(h:onL b f=some r)(k:∀ds,b=.lst ds→f ds=some r→G):G:=by
 cases b with|lst ds=>exact k ds rfl h|_=>exact nE h
@[elab_as_elim] theorem DC {f:Bool→Option α} (rb:Rel g v b) (h:onB b f=some r) (k:∀j,f j=some r→G (.bool j)):G v:=by
 cases rb with|bool j=>exact k j h|_=>exact nE h
@[elab_as_elim] theorem DE {f:Addr→Option α} (rb:Rel g v b) (h:onR b f=some r) (k:∀j,f j=some r→G (.ref j)):G v:=by
 cases rb with
 | obj v=>cases v with|ref j=>exact k j h|_=>exact nE h
 | _=>exact nE h
end
noncomputable def iq(op:Operator)(a b:D):Option D:=match op with
 | .Add=>match a with
  | .int a=>onI b λb=>some (.int (a+b))
  | .str x=>onS b λy=>if x.length+y.length≤100000 then some (.str (x++y))else none
  | .lst xs=>onL b λys=>if xs.length+ys.length≤100000 then some (.lst (xs++ys))else none
  | _=>none
 | .Sub=>onI a λa=>onI b λb=>some (.int (a - b))
 | .Mult=>match a with
  | .int a=>onI b λb=>if a.natAbs<2 ^ 64 then some (.int (a*b))else none
  | .lst xs=>onI b λn=>if n<100000∧-100000<n∧xs.length*n.toNat≤100000 then some (.lst (List.replicate n.toNat xs).flatten)else none
  | _=>none
 | .FloorDiv=>onI a λa=>onI b λb=>if b≠0∧b.natAbs<1073741824 then some (.int (a.fdiv b))else none
 | .Mod=>onI a λa=>onI b λb=>if b≠0 then some (.int (a.fmod b))else none
 | .Pow=>onI a λa=>onI b λb=>if 0≤b∧b≤1000000∧a.natAbs<2 ^ 64 then some (.int (a ^ b.toNat))else none
 | .LShift=>onI a λa=>onI b λb=>if 0≤b∧b≤1000000∧a.natAbs<2 ^ 64 then some (.int (a*2 ^ b.toNat))else none
 | .BitAnd=>onI a λa=>onI b λb=>some (.int (Builtin.bitAnd a b))
 | .BitOr=>onI a λa=>onI b λb=>some (.int (Builtin.bitOr a b))
 | .BitXor=>onI a λa=>onI b λb=>some (.int (Builtin.bitXor a b))
 | _=>none
noncomputable def isNone:D→Option Bool
 | .none=>some true
 | .obj v=>some (v==.none)
 | _=>some false
noncomputable def AE{α:Type}(a b:D)(f:Int→Int→α)(e:α):α:=match a with|.int i=>(match b with|.int j=>f i j|_=>e)|_=>e
noncomputable def fu(op:CmpOp)(a b:D):Option Bool:=match op with
 | .Eq=>match a with
  | .int a=>onI b λb=>some (a==b)
  | .str x=>onS b λy=>some (decide (x=y))
  | .lst x=>onL b λy=>dEq (.lst x) (.lst y)
  | _=>none
 | .NotEq=>AE a b (λa b=>some (a != b)) ((dEq a b).map (!·))
 | .Lt=>onI a λa=>onI b λb=>some (decide (a<b))
 | .LtE=>onI a λa=>onI b λb=>some (decide (a≤b))
 | .Gt=>onI a λa=>onI b λb=>some (decide (a > b))
 | .GtE=>onI a λa=>onI b λb=>some (decide (a ≥ b))
 | .NotIn=>onS a λy=>onS b λx=>match y.cps.toList with | [c]=>some (!decide (c∈x.cps.toList))|_=>none
 | .In=>onL b λds=>dIn a ds
 | .Is=>match b with
  | .bool b=>onB a λa=>some (a==b)
  | .none=>isNone a
  | b=>onR a λa=>onR b λb=>if a=b then some true else none
 | .IsNot=>match b with|.none=>(isNone a).map (!·)|_=>none
noncomputable def jM:D→Option Bool
 | .bool b=>some b
 | .int i=>some (i != 0)
 | .str x=>if x.length≤100000 then some ((x.length:Int) != 0)else none
 | _=>none
section
variable{X:Cx}{A:Around}{ft:FT}{env:Env}{Γ:List Slot}{σ:Sg}{s:Shared}{d:D}{c':List Cell}
theorem uR{n:Nat}{i:Int}(lo:-(2 ^ 63:Int)≤i)(hi:i<2 ^ 63)(few:n*i.toNat≤2 ^ 24) :
  ¬(!Builtin.List.listFitsIndex i)=true∧¬n*i.toNat > (2 ^ 63 - 1) / 8∧¬Builtin.List.listTooLong (n*i.toNat)=true:=by
 refine⟨?_,by(first|lia|omega),?_⟩
 ·simp only[Builtin.List.listFitsIndex,Bool.not_eq_true',Bool.not_eq_false,Bool.and_eq_true,decide_eq_true_eq]
  (first|lia|omega)
 ·simp only[Builtin.List.listTooLong,sizeLine,decide_eq_true_eq]
  (first|lia|omega)
theorem vM{l:Addr}{vs:List Value}{k:Nat}{i:Int}{u:Tok}{Q:Value→Shared→Prop}{prog:Program}{w:World}{E:Value→Shared→Prop}
  (hl:s.heap.get? l=some { cls:=.type "list",data:=.seq vs.toArray k }) (lo:-(2 ^ 63:Int)≤i) (hi:i<2 ^ 63) (few:vs.length*i.toNat≤2 ^ 24)
  (h:Q (.ref s.heap.objs.size) { s with heap:=s.heap.push { cls:=.type "list",data:=.seq (List.replicate i.toNat vs).flatten.toArray } }) :
  wpAny (model prog w) A (binaryOp .Mult (.ref l) (.int i u)) Q E s:=by
 obtain⟨f1,f2,f3⟩:=uR lo hi few
 have ty:s.TypeIs (.ref l) "list" :=⟨_,hl,rfl⟩
 have taken:wpAny (model prog w) A (call (.builtin "list.__mul__") [.ref l,.int i u]) Q E s:=
  call_meets F.slot_list_mul ty F.entry_list_mul (F.args_list_mul_2 _ _) (AutoListH.list___mul___list_int_3 l vs.toArray k i u f1 f2 f3) ⟨hl,by rw[listMul_foldl_if];exact h⟩
 refine wpAny_binaryOp_repeat_ref (U:="int") (by decide) ty (λs'=>typeIs_int s' i u) noFill_list_mul F.fills_int_mul F.slot_int_rmul repeat_list F.slot_int_index.lookup ?_
 exact call_meets F.slot_int_rmul (typeIs_int s i u) F.entry_int_rmul (F.args_int_rmul_2 _ _) (int___rmul___int_list i u l _ k) ⟨hl,rfl,ty,taken⟩
theorem RelAll.flat{g:Heap}{vs:List Value}{ds:List D}(r:RelAll g vs ds):∀n:Nat,RelAll g (List.replicate n vs).flatten (List.replicate n ds).flatten
 | 0=>.nil
 | n+1=>by rw[List.replicate_succ,List.replicate_succ,List.flatten_cons,List.flatten_cons];exact r.append (RelAll.flat r n)
theorem qM{x:Str}(h:(x.length==0)=true):x=⟨#[]⟩:=by
 obtain⟨c⟩:=x
 simp[Str.length]at h
 subst h;rfl
theorem BI{op:Operator}{a b d:D}{va vb:Value}{R:Value→Shared→Prop}(I:X.Inv σ s)(ra:Rel σ.g va a)(rb:Rel σ.g vb b)(h:iq op a b=some d)(k:∀v s',PostE X σ s d σ.sto v s'→R v s') :
  wpAny X.M A (binaryOp op va vb) R NoE s:=by
 have int:∀{op:Operator} {f:Int→Int→Option D},onI a (λa=>onI b λb=>f a b)=some d→(∀i j t u,f i j=some d→wpAny X.M A (binaryOp op (.int i t) (.int j u)) R NoE s)→wpAny X.M A (binaryOp op va vb) R NoE s:=by
  intro op f h q
  refine ic ra h λi t h=>?_
  refine ic rb h λj u h=>?_
  exact q i j t u h
 have out:∀{x t n},D.int x=d→R (.int x t) { s with toks:=s.toks+n }:=λh=>k _ _ (h▸PostE.here I (.int _ _))
 cases op with
 | Add=>cases ra with
  | int i t=>exact ic rb h λj u h=>add_int (out (Option.some.inj h))
  | str x t=>
   refine o6 rb h λy u h=>iE h (λhl h=>?_) λ_ h=>nE h
   cases h
   refine P.add_str ?_
   split
   ·rename_i h0
    have:=qM h0
    subst this
    have:(⟨#[]⟩++y:Str)=y:=congrArg Str.mk Array.empty_append
    refine k _ _ ?_;rw[this];exact PostE.same I (.str _ _)
   ·split
    ·rename_i h0
     have:=qM h0
     subst this
     have:(x++⟨#[]⟩:Str)=x:=congrArg Str.mk Array.append_empty
     refine k _ _ ?_;rw[this];exact PostE.same I (.str _ _)
    ·exact⟨by rw[Str.length_append];exact bJ hl,k _ _ (PostE.here I (.str _ _))⟩
  | lst e1 r1=>
   refine r7 rb h λ_ _ _ _ e2 r2 h=>iE h (λhl h=>?_) λ_ h=>nE h
   cases h
   refine P.add_list (I.sub _ _ e1) (I.sub _ _ e2) ?_ (by simp only[List.size_toArray,r1.length,r2.length];exact bJ hl)
   rw[List.append_toArray]
   exact k _ _ (PostE.newL I (r1.append r2))
  | _=>exact nE h
 | Sub=>exact int h λi j t u h=>sub_int (out (Option.some.inj h))
 | Mult=>cases ra with
  | int i t=>exact ic rb h λj u h=>iE h (λhl h=>mul_int (out (Option.some.inj h)) (IntMulOk.of_left (intBits_le hl))) λ_ h=>nE h
  | @lst _ vs _ _ e1 r1=>
   refine ic rb h λn u h=>iE h (λhl h=>?_) λ_ h=>nE h
   cases h
   refine vM (I.sub _ _ e1) (by(first|lia|omega)) (by(first|lia|omega)) (by rw[r1.length];exact Nat.le_trans hl.2.2 (by decide)) ?_
   exact k _ _ (PostE.newL I (r1.flat _))
  | _=>exact nE h
 | FloorDiv=>exact int h λi j t u h=>iE h (λhl h=>floordiv_int hl.1 (out (Option.some.inj h)) (.inl (noPylong_small hl.2))) λ_ h=>nE h
 | Mod=>exact int h λi j t u h=>iE h (λhl h=>mod_int' hl (out (Option.some.inj h))) λ_ h=>nE h
 | Pow=>exact int h λi j t u h=>iE h (λhl h=>pow_int_small hl.1 hl.2.1 hl.2.2 (out (Option.some.inj h))) λ_ h=>nE h
 | LShift=>exact int h λi j t u h=>iE h (λhl h=>lshift_int_small hl.1 hl.2.1 hl.2.2 (out (Option.some.inj h))) λ_ h=>nE h
 | BitAnd=>exact int h λi j t u h=>and_int (out (Option.some.inj h))
 | BitOr=>exact int h λi j t u h=>or_int (out (Option.some.inj h))
 | BitXor=>exact int h λi j t u h=>xor_int (out (Option.some.inj h))
 | _=>exact nE h
theorem BH{op:Operator}{a b d:D}{va vb:Value}(I:X.Inv σ s)(ra:Rel σ.g va a)(rb:Rel σ.g vb b)(h:iq op a b=some d):wpAny X.M A (binaryOp op va vb) (PostE X σ s d σ.sto) NoE s:=BI I ra rb h λ_ _ q=>q
theorem none_of{g:Heap}{v:Value}{a:D}{b:Bool}(r:Rel g v a)(h:isNone a=some b):(v==.none)=b:=by
 cases r<;>cases h<;>rfl
theorem Bo{x y:D}{va vb:Value}{t:Bool}{Q:Value→Shared→Prop}(hu:A.units+64<cLine)(I:X.Inv σ s)(rx:Rel σ.g va x)(ry:Rel σ.g vb y)(h:dEq x y=some t):(Q (.bool t) s→wpAny X.M A (compareOp .Eq va vb) Q NoE s)∧(Q (.bool !t) s→wpAny X.M A (compareOp .NotEq va vb) Q NoE s):=by
 unfold dEq at h
 (first|(refine iE h ?_ ?_<;>(clear h;intro _ h))|split at h)
 ·rename_i p q e1 e2
  refine iE h (λhs h=>?_) λ_ h=>nE h
  have h:=Option.some.inj h
  obtain⟨as,w1⟩:=(rx.mono I.sub).reads e1
  obtain⟨bs,w2⟩:=(ry.mono I.sub).reads e2
  have hs:=Bool.and_eq_true_iff.mp hs
  exact⟨λk=>eq_dataH w1 w2 hs.1 hs.2 hu (h▸k),λk=>ne_dataH w1 w2 hs.1 hs.2 hu (h▸k)⟩
 ·exact nE h
theorem str_beq(x y:Str):(x.cps.toList==y.cps.toList)=decide (x=y):=by
 by_cases hxy:x=y
 ·subst hxy;simp
 ·rw[decide_eq_false hxy]
  exact beq_eq_false_iff_ne.mpr λhq=>hxy (congrArg Str.mk (Array.ext' hq))
theorem wH{op:CmpOp}{a b:D}{t:Bool}{va vb:Value}{Q:Value→Shared→Prop}(hr:Room A 8)(I:X.Inv σ s)(ra:Rel σ.g va a)(rb:Rel σ.g vb b)(h:fu op a b=some t)(k:Q (.bool t) s):wpAny X.M A (compareOp op va vb) Q NoE s:=by
 have hu1:A.units+1+64<cLine:=by have:=hr.units;have:cLine=9900:=rfl;(first|lia|omega)
 have hu:A.units+64<cLine:=by(first|lia|omega)
 have int:∀{op:CmpOp} {f:Int→Int→Bool},onI a (λa=>onI b λb=>some (f a b))=some t→(∀i j u w,Q (.bool (f i j)) s→wpAny X.M A (compareOp op (.int i u) (.int j w)) Q NoE s)→wpAny X.M A (compareOp op va vb) Q NoE s:=by
  intro op f h q
  refine ic ra h λi u h=>?_
  refine ic rb h λj w h=>?_
  exact q i j u w (Option.some.inj h▸k)
 have out:∀{x},some x=some t→Q (.bool x) s:=λh=>Option.some.inj h▸k
 cases op with
 | Eq=>cases ra with
  | int i u=>exact ic rb h λj w h=>eq_int (out h)
  | str x u=>exact o6 rb h λy w h=>P.eq_str (str_beq x y▸out h)
  | lst e1 r1=>exact r7 rb h λ_ _ _ _ e2 r2 h=>(Bo hu I (.lst e1 r1) (.lst e2 r2) h).1 k
  | _=>exact nE h
 | NotEq=>
  have ne:(dEq a b).map (!·)=some t→wpAny X.M A (compareOp .NotEq va vb) Q NoE s:=λh=>mE h λt' e h=>(Bo hu I ra rb e).2 (h▸k)
  cases ra with
  | int i u=>cases rb with
   | int j w=>exact ne_int (out h)
   | _=>exact ne h
  | _=>exact ne h
 | Lt=>exact int h λ_ _ _ _ k=>lt_int k
 | LtE=>exact int h λ_ _ _ _ k=>P.le_int k
 | Gt=>exact int h λ_ _ _ _ k=>P.gt_int k
 | GtE=>exact int h λ_ _ _ _ k=>P.ge_int k
 | NotIn=>
  refine o6 ra h λy u h0=>o6 rb h0 λx w h=>?_
  clear h0
  (first|(refine iE h ?_ ?_<;>(clear h;intro _ h))|split at h)
  ·rename_i c e
   have hy:y=⟨#[c]⟩:=congrArg Str.mk (Array.ext' e)
   subst hy
   exact P.notIn_str (StrLaws.found_one ..▸out h)
  ·exact nE h
 | In=>
  refine AF h λds e h1=>?_
  clear h
  subst e
  have h:dIn a ds=some t:=h1
  clear h1
  unfold dIn at h
  (first|(refine iE h ?_ ?_<;>(clear h;intro _ h))|split at h)
  ·rename_i p qs e1 e2
   refine iE h (λhs h=>?_) λ_ h=>nE h
   simp only[Bool.and_eq_true,decide_eq_true_eq]at hs
   obtain⟨as,w1⟩:=(ra.mono I.sub).reads e1
   obtain⟨bs,w2⟩:=(rb.mono I.sub).reads (p:=.list qs) (by simp[D.toPy,e2])
   refine SeqAt.in_list_reads w2 w1 hs.1.1 hs.1.2 ?_ (out h)
   have h1:min (PyData.depthAll qs) p.depth≤PyData.depthAll qs:=Nat.min_le_left _ _
   exact Nat.lt_of_le_of_lt (Nat.add_le_add_left (Nat.le_trans h1 hs.2) _) hu1
  ·exact nE h
 | Is=>cases rb with
  | bool j=>exact DC ra h λi h=>wpAny_is_plain rfl ((show (Value.bool i==Value.bool j)=(i==j)by cases i<;>cases j<;>rfl)▸out h)
  | none=>exact is_none (by rw[none_of ra h];exact k)
  | obj=>
   refine DE ra h λi h=>?_
   cases vb with
   | ref j=>exact iE h (λhab h=>hab▸wpAny_is_ref_self (out h)) λ_ h=>nE h
   | _=>exact nE h
  | _=>exact DE ra h λi h=>nE h
 | IsNot=>cases rb with
  | none=>exact mE h λt' e h=>isNot_none (by rw[none_of ra e];exact h▸k)
  | _=>exact nE h
theorem uq{a:D}{t:Bool}{va:Value}{Q:Bool→Shared→Prop}(I:X.Inv σ s)(ra:Rel σ.g va a)(h:jM a=some t)(k:∀tk,s.toks≤tk→Q t { s with toks:=tk }):wpAny X.M A (truthy va) Q NoE s:=by
 unfold jM at h
 (first|(refine iE h ?_ ?_<;>(clear h;intro _ h))|split at h)
 ·cases h;cases ra;exact wpAny_truthy_bool (k s.toks (Nat.le_refl _))
 ·cases h;cases ra;exact P.truthy_int (k s.toks (Nat.le_refl _))
 ·(first|(refine iE h ?_ ?_<;>(clear h;intro _ h))|split at h)
  ·rename_i hl
   cases h;cases ra;exact P.truthy_str (by(first|lia|omega)) (k _ (by(first|lia|omega)))
  ·cases h
 ·cases h
noncomputable def ao(op:Operator)(p q:PE):PE:=λΓ c=>(p Γ c).bind λ(a,c1)=>(q Γ c1).bind λ(b,c2)=>(iq op a b).map λr=>(r,c2)
theorem aK{op:Operator}{l r:Expr}{pos:Pos}{p q:PE}(h1:SoundE X A ft env l p)(h2:SoundE X A ft env r q):SoundE X A ft env (.BinOp l op r pos) (ao op p q):=λΓ σ s d c' I F h=>by
 (refine bE2 h ?_;(try clear h);intro a c1 e1 h)
 (refine bE2 h ?_;(try clear h);intro b c2 e2 h)
 (refine mE h ?_;(try clear h);intro x e3 h)
 cases h
 refine wpAny_BinOp (h1.use I F e1 λv1 σ1 s1 q1 I1 x1 F1 r1=>?_)
 subst q1
 refine h2.use I1 F1 e2 λv2 σ2 s2 q2 I2 x2 F2 r2=>?_
 subst q2
 exact wpAny_mono (BH I2 (r1.mono x2.le) r2 e3) (λ_ _ k=>PostE.trans I2 (x1.trans I1 x2) k) λ_ _ f=>f
noncomputable def gB(op:CmpOp)(p q:PE):PE:=λΓ c=>(p Γ c).bind λ(a,c1)=>(q Γ c1).bind λ(b,c2)=>(fu op a b).map λr=>(.bool r,c2)
noncomputable def aE(op:CmpOp)(p q:PE):PB:=λΓ c=>(p Γ c).bind λ(a,c1)=>(q Γ c1).bind λ(b,c2)=>(fu op a b).map λr=>(r,c2)
theorem mZ{op:CmpOp}{l r:Expr}{pos:Pos}{p q:PE}(hr:Room A 8)(h1:SoundE X A ft env l p)(h2:SoundE X A ft env r q)(hm:autoParam (behindInMarks op r=false) aC):SoundE X A ft env (.Compare l [op] [r] pos) (gB op p q):=λΓ σ s d c' I F h=>by
 (refine bE2 h ?_;(try clear h);intro a c1 e1 h)
 (refine bE2 h ?_;(try clear h);intro b c2 e2 h)
 (refine mE h ?_;(try clear h);intro x e3 h)
 cases h
 refine wpAny_Compare1 (h1.use I F e1 λv1 σ1 s1 q1 I1 x1 F1 r1=>?_) hm
 subst q1
 refine h2.use I1 F1 e2 λv2 σ2 s2 q2 I2 x2 F2 r2=>?_
 subst q2
 exact wH hr I2 (r1.mono x2.le) r2 e3 (PostE.trans I2 (x1.trans I1 x2) (PostE.same I2 (.bool _)))
theorem cm{op:CmpOp}{l r:Expr}{pos:Pos}{p q:PE}(hr:Room A 8)(h1:SoundE X A ft env l p)(h2:SoundE X A ft env r q)(hm:autoParam (behindInMarks op r=false) aC):SoundB X A ft env (.Compare l [op] [r] pos) (aE op p q):=λΓ σ s d c' I F h=>by
 (refine bE2 h ?_;(try clear h);intro a c1 e1 h)
 (refine bE2 h ?_;(try clear h);intro b c2 e2 h)
 (refine mE h ?_;(try clear h);intro x e3 h)
 cases h
 refine wpAny_isTrue_Compare1 (h1.use I F e1 λv1 σ1 s1 q1 I1 x1 F1 r1=>?_) hm
 subst q1
 refine h2.use I1 F1 e2 λv2 σ2 s2 q2 I2 x2 F2 r2=>?_
 subst q2
 exact wH hr I2 (r1.mono x2.le) r2 e3 (wpAny_truthy_bool ⟨rfl,_,rfl,I2,x1.trans I1 x2⟩)
noncomputable def cW(p:PE):PB:=λΓ c=>(p Γ c).bind λ(a,c1)=>(jM a).map λr=>(r,c1)
theorem jY{e:Expr}{p:PE}(h1:SoundE X A ft env e p)(he:autoParam (∀env whole,isTrue e env whole=(do let v ←whole;standAt e.pos;holding [v] (truthy v))) aR):SoundB X A ft env e (cW p):=λΓ σ s d c' I F h=>by
 (refine bE2 h ?_;(try clear h);intro a c1 e1 h)
 (refine mE h ?_;(try clear h);intro x e3 h)
 cases h
 refine wpAny_isTrue_value (h1.use I F e1 λv1 σ1 s1 q1 I1 x1 F1 r1=>?_) (he _ _)
 subst q1
 exact uq I1 r1 e3 λtk htk=>⟨rfl,σ1,rfl,I1.toks,x1.trans I1 (Ext.heap λ_ _ e _=>e)⟩
noncomputable def nK(p:PB):PB:=λΓ c=>(p Γ c).map λ(b,c1)=>(!b,c1)
theorem DK{e:Expr}{pos:Pos}{p:PB}(h1:SoundB X A ft env e p):SoundB X A ft env (.UnaryOp .Not e pos) (nK p):=λΓ σ s d c' I F h=>by
 (refine mE2 h ?_;(try clear h);intro a c1 e1 h)
 cases h
 exact wpAny_isTrue_Not (h1.use I F e1 λσ1 s1 q1 I1 x1 F1=>⟨rfl,σ1,q1,I1,x1⟩)
noncomputable def f5:List PB→PB
 | []=>λ_ c=>some (true,c)
 | p::ps=>λΓ c=>(p Γ c).bind λ(b,c1)=>if b then f5 ps Γ c1 else some (false,c1)
noncomputable def jI(X:Cx)(A:Around)(ft:FT)(env:Env)(es:List Expr)(ps:List PB):Prop:=
 ∀Γ σ s d c',X.Inv σ s→Frm ft env Γ σ s.heap→f5 ps Γ σ.sto=some (d,c')→wpAny X.M A (allTrue .And es env) (PostB X σ s d c') NoE s
theorem AM:jI X A ft env [] []:=λΓ σ s d c' I F h=>by
 cases h;exact wpAny_allTrue_And_nil ⟨rfl,σ,rfl,I,.refl _ _ _ _⟩
theorem mz{e:Expr}{es:List Expr}{p:PB}{ps:List PB}(h1:SoundB X A ft env e p)(h2:jI X A ft env es ps):jI X A ft env (e::es) (p::ps):=λΓ σ s d c' I F h=>by
 (refine bE2 h ?_;(try clear h);intro b c1 e1 h)
 refine wpAny_allTrue_And_cons (h1.use I F e1 λσ1 s1 q1 I1 x1 F1=>?_)
 subst q1
 cases b with
 | true=>exact wpAny_mono (h2 Γ σ1 s1 d c' I1 F1 h) (λ_ _ k=>PostB.trans I1 x1 k) λ_ _ f=>f
 | false=>cases h;exact⟨rfl,σ1,rfl,I1,x1⟩
theorem DG{es:List Expr}{pos:Pos}{ps:List PB}(h:jI X A ft env es ps):SoundB X A ft env (.BoolOp .And es pos) (f5 ps):=λΓ σ s d c' I F e=>
 wpAny_isTrue_BoolOp (h Γ σ s d c' I F e)
noncomputable def rU(p q:PE):PE:=λΓ c=>(p Γ c).bind λ(a,c1)=>(jM a).bind λt=>if t then some (a,c1)else q Γ c1
theorem EJ{l r:Expr}{pos:Pos}{p q:PE}(h1:SoundE X A ft env l p)(h2:SoundE X A ft env r q):SoundE X A ft env (.BoolOp .Or [l,r] pos) (rU p q):=λΓ σ s d c' I F h=>by
 (refine bE2 h ?_;(try clear h);intro a c1 e1 h)
 (refine bE h ?_;(try clear h);intro t e2 h)
 refine wpAny_Or2 (h1.use I F e1 λv1 σ1 s1 q1 I1 x1 F1 r1=>?_)
 subst q1
 refine uq I1 r1 e2 λtk htk=>?_
 have I1':X.Inv σ1 { s1 with toks:=tk }:=I1.toks
 have x1':=x1.trans I1 (Ext.heap (W:=NoW) (Wg:=NoG) (σ:=σ1) (s:=s1) (h':=s1.heap) (tk:=tk) λ_ _ e _=>e)
 cases t with
 | true=>cases h;exact⟨σ1,rfl,I1',x1',r1⟩
 | false=>exact wpAny_mono (h2 Γ σ1 _ d c' I1' F1 h) (λ_ _ k=>PostE.trans I1' x1' k) λ_ _ f=>f
noncomputable def pIf(b:PB)(p q:PE):PE:=λΓ c=>(b Γ c).bind λ(t,c1)=>if t then p Γ c1 else q Γ c1
theorem sIf{b l r:Expr}{pos:Pos}{pb:PB}{p q:PE}(h0:SoundB X A ft env b pb)(h1:SoundE X A ft env l p)(h2:SoundE X A ft env r q):SoundE X A ft env (.IfExp b l r pos) (pIf pb p q):=λΓ σ s d c' I F h=>by
 (refine bE2 h ?_;(try clear h);intro t c1 e1 h)
 refine wpAny_IfExp (h0.use I F e1 λσ1 s1 q1 I1 x1 F1=>?_)
 subst q1
 cases t with
 | true=>exact wpAny_mono (h1 Γ σ1 s1 d c' I1 F1 h) (λ_ _ k=>PostE.trans I1 x1 k) λ_ _ f=>f
 | false=>exact wpAny_mono (h2 Γ σ1 s1 d c' I1 F1 h) (λ_ _ k=>PostE.trans I1 x1 k) λ_ _ f=>f
noncomputable def g6(p:PE):PE:=λΓ c=>(p Γ c).bind λ(a,c1)=>match a with|.int i=>some (.int (-i),c1)|_=>none
theorem y4{e:Expr}{pos:Pos}{p:PE}(h1:SoundE X A ft env e p):SoundE X A ft env (.UnaryOp .USub e pos) (g6 p):=λΓ σ s d c' I F h=>by
 (refine bE2 h ?_;(try clear h);intro a c1 e1 h)
 dsimp only at h
 (first|(refine iE h ?_ ?_<;>(clear h;intro _ h))|split at h)
 ·cases h
  refine wpAny_UnaryOp (h1.use I F e1 λv1 σ1 s1 q1 I1 x1 F1 r1=>?_)
  subst q1
  cases r1
  exact P.neg_int (PostE.trans I1 x1 (PostE.here I1 (.int _ _)))
 ·cases h
end
end Mine
namespace Mine
noncomputable def pick{α:Type}(idx:List Nat)(l:List α):List α:=idx.filterMap (l[·]?)
noncomputable def cp{α:Type}(lo hi st:Option Int)(l:List α):List α:=
 pick (sliceRange (sliceBounds lo hi st l.length).1 (sliceBounds lo hi st l.length).2.1 (sliceBounds lo hi st l.length).2.2) l
theorem RelAll.pick{g:Heap}{vs:List Value}{ds:List D}(r:RelAll g vs ds):∀idx:List Nat,RelAll g (pick idx vs) (pick idx ds)
 | []=>.nil
 | k::idx=>by
  have ih:=RelAll.pick r idx
  unfold Mine.pick at ih⊢
  rw[List.filterMap_cons,List.filterMap_cons]
  cases e:ds[k]? with
  | none=>
   have:vs[k]?=none:=by
    rw[List.getElem?_eq_none_iff]at e⊢
    rw[r.length];exact e
   rw[this];exact ih
  | some d=>
   obtain⟨v,hv,rv⟩:=r.get e
   rw[hv];exact .cons rv ih
theorem iC{α:Type}(l:List α)(lo hi st:Option Int):(cp lo hi st l).length≤l.length:=by
 have h:=slicePick_size_le (l.map λ_=>Value.none).toArray lo hi st
 have e:∀idx:List Nat,(idx.filterMap ((l.map λ_=>Value.none).toArray[·]?)).length=(pick idx l).length:=λidx=>by
  simp only[pick,List.getElem?_toArray,List.getElem?_map,←List.map_filterMap,List.length_map]
 simp only[slicePick,List.size_toArray,List.length_map,e]at h
 exact h
noncomputable def jc(a b:D):Option D:=match a with
 | .lst ds=>onI b λi=>if -1000000<i∧i<1000000 then(seqIndex? i ds.length).bind (ds[·]?)else none
 | .tup ds=>onI b λi=>if -1000000<i∧i<1000000 then(seqIndex? i ds.length).bind (ds[·]?)else none
 | .str x=>onI b λi=>if -1000000<i∧i<1000000 then((seqIndex? i x.length).bind (x.cps[·]?)).map λc=>.str ⟨#[c]⟩else none
 | _=>none
noncomputable def kg(a:D)(lo hi st:Option Int):Option D:=match a with
 | .lst ds=>if st≠some 0∧ds.length≤100000 then some (.lst (cp lo hi st ds))else none
 | .str x=>if st=none∧x.length≤100000 then some (.str (Txt.slice x lo hi))else none
 | .tup ds=>match lo,hi,st with
  | some (Int.ofNat (k+1)),none,none=>if k+1≤ds.length∧ds.length≤100000 then some (.tup (ds.drop (k+1)))else none
  | _,_,_=>none
 | _=>none
theorem mC{i:Int}{n j:Nat}(h:seqIndex? i n=some j):j<n∧((0≤i∧i.toNat=j)∨(i<0∧-(n:Int)≤i∧(i+n).toNat=j)):=by
 unfold seqIndex? at h
 by_cases hi:i<0
 ·rw[if_pos hi]at h
  dsimp only at h
  (first|(refine iE h ?_ ?_<;>(clear h;intro _ h))|split at h)
  ·rename_i hq
   simp only[Bool.and_eq_true,decide_eq_true_eq]at hq
   cases h
   exact⟨by omega (config:={}),.inr ⟨hi,by omega (config:={}),rfl⟩⟩
  ·cases h
 ·rw[if_neg hi]at h
  dsimp only at h
  (first|(refine iE h ?_ ?_<;>(clear h;intro _ h))|split at h)
  ·rename_i hq
   simp only[Bool.and_eq_true,decide_eq_true_eq]at hq
   cases h
   exact⟨by omega (config:={}),.inl ⟨by omega (config:={}),rfl⟩⟩
  ·cases h
section
variable{X:Cx}{A:Around}{ft:FT}{env:Env}{Γ:List Slot}{σ:Sg}{s:Shared}{d:D}{c':List Cell}
theorem z4{value slice:Expr}{a b:D}{va vb:Value}(I:X.Inv σ s)(ra:Rel σ.g va a)(rb:Rel σ.g vb b)(h:jc a b=some d)(hs:∀o i,subscripted slice false o i=operate [o,i] (getItem o i)) :
  wpAny X.M A (subscriptTail value slice va vb) (PostE X σ s d σ.sto) NoE s:=by
 cases ra with
 | @lst l vs n ds e r=>
  refine ic rb h λi t h=>iE h (λhi h=>bE h λj e1 e2=>?_) λ_ h=>nE h
  obtain⟨v,hv,rv⟩:=r.get e2
  have hl:s.heap.IsList l vs.toArray:=⟨_,I.sub _ _ e,rfl,_,rfl⟩
  rw[←r.length]at e1
  obtain⟨h1,h2⟩:=mC e1
  refine tail_any hl.typeIs slot_list_getitem.lookup ?_ (hs _ _)
  rcases h2 with⟨h2,h3⟩|⟨h2,h3,h4⟩
  ·exact wpAny_getItem_list hl h2 (by(first|lia|omega)) (by rw[h3];simpa using hv) (PostE.same I rv)
  ·exact wpAny_getItem_list_neg hl h2 (by simpa using h3) (by(first|lia|omega)) (by rw[List.size_toArray,h4];simpa using hv) (PostE.same I rv)
 | tup e r=>
  refine ic rb h λi t h=>iE h (λhi h=>bE h λj e1 e2=>?_) λ_ h=>nE h
  obtain⟨v,hv,rv⟩:=r.get e2
  rw[←r.length]at e1
  exact tail_any ⟨_,I.sub _ _ e,rfl⟩ slot_tuple_getitem.lookup (PyProof.Rows.getItem_tuple ⟨_,I.sub _ _ e,rfl,_,rfl⟩ (by(first|lia|omega)) (by(first|lia|omega)) (by simpa using e1) (by simpa using hv) (PostE.same I rv)) (hs _ _)
 | str x u=>
  refine ic rb h λi t h=>iE h (λhi h=>mE h λc e1 h=>?_) λ_ h=>nE h
  subst h
  exact tail_any (typeIs_str s _ _) F.slot_str_getitem.lookup (P.getItem_str (by simp;(first|lia|omega)) e1 (PostE.here I (.str _ _))) (hs _ _)
 | _=>exact nE h
noncomputable def ba(p q:PE):PE:=λΓ c=>(p Γ c).bind λ(a,c1)=>(q Γ c1).bind λ(b,c2)=>(jc a b).map λr=>(r,c2)
theorem dI{value slice:Expr}{pos:Pos}{p q:PE}(h1:SoundE X A ft env value p)(h2:SoundE X A ft env slice q)(hs:autoParam (∀o i,subscripted slice false o i=operate [o,i] (getItem o i)) aR):SoundE X A ft env (.Subscript value slice pos) (ba p q):=λΓ σ s d c' I F h=>by
 (refine bE2 h ?_;(try clear h);intro a c1 e1 h)
 (refine bE2 h ?_;(try clear h);intro b c2 e2 h)
 (refine mE h ?_;(try clear h);intro x e3 h)
 cases h
 refine Subscript_ (h1.use I F e1 λv1 σ1 s1 q1 I1 x1 F1 r1=>?_)
 subst q1
 refine h2.use I1 F1 e2 λv2 σ2 s2 q2 I2 x2 F2 r2=>?_
 subst q2
 exact wpAny_mono (z4 I2 (r1.mono x2.le) r2 e3 hs) (λ_ _ k=>PostE.trans I2 (x1.trans I1 x2) k) λ_ _ f=>f
noncomputable abbrev PP:=List Slot→List Cell→Option (Option Int×List Cell)
noncomputable def aA:PP:=λ_ c=>some (none,c)
noncomputable def aQ(p:PE):PP:=λΓ c=>(p Γ c).bind λ(a,c1)=>match a with|.int i=>some (some i,c1)|_=>none
noncomputable def lN(X:Cx)(A:Around)(ft:FT)(env:Env)(e:Option Expr)(p:PP):Prop:=
 ∀Γ σ s d c',X.Inv σ s→Frm ft env Γ σ s.heap→p Γ σ.sto=some (d,c')→wpAny X.M A (evalPart e env) (λv s'=>∃σ',σ'.sto=c'∧X.Inv σ' s'∧Ext NoW NoG σ s σ' s'∧∃dt:Option (Int×Tok),v=partValue dt∧dt.map (·.1)=d) NoE s
theorem bB:lN X A ft env none aA:=λΓ σ s d c' I F h=>by
 cases h;exact wpAny_pure ⟨σ,rfl,I,.refl _ _ _ _,none,rfl,rfl⟩
theorem dh{e:Expr}{p:PE}(h1:SoundE X A ft env e p):lN X A ft env (some e) (aQ p):=λΓ σ s d c' I F h=>by
 (refine bE2 h ?_;(try clear h);intro a c1 e1 h)
 dsimp only at h
 (first|(refine iE h ?_ ?_<;>(clear h;intro _ h))|split at h)
 ·cases h
  rw[evalPart_some]
  refine h1.use I F e1 λv1 σ1 s1 q1 I1 x1 F1 r1=>?_
  cases r1
  exact⟨σ1,q1,I1,x1,some (_,_),rfl,rfl⟩
 ·cases h
theorem rX{dt:Option (Int×Tok)}:IsPart (partValue dt) (dt.map (·.1)):=by
 cases dt with
 | none=>exact .none
 | some p=>exact .int _ _
theorem y8{value:Expr}{l u st:Option Expr}{p:Pos}{a:D}{va:Value}{sl:Addr}{dl du ds:Option (Int×Tok)}(I:X.Inv σ s)(ra:Rel σ.g va a)
  (e:s.heap.get? sl=some { cls:=.type "slice",data:=.fields #[partValue dl,partValue du,partValue ds] }) (h:kg a (dl.map (·.1)) (du.map (·.1)) (ds.map (·.1))=some d) :
  wpAny X.M A (subscriptTail value (.Slice l u st p) va (.ref sl)) (PostE X σ s d σ.sto) NoE s:=by
 have hs:∃ops,subscripted (.Slice l u st p) false va (.ref sl)=operate ops (getItem va (.ref sl)):=by
  cases st with
  | none=>exact⟨_,rfl⟩
  | some _=>exact⟨_,rfl⟩
 obtain⟨ops,hs⟩:=hs
 cases ra with
 | @lst la vs n _ e1 r=>
  refine iE h (λhi h=>?_) λ_ h=>nE h
  cases h
  have hl:s.heap.IsList la vs.toArray:=⟨_,I.sub _ _ e1,rfl,_,rfl⟩
  refine tail_any hl.typeIs slot_list_getitem.lookup (wpAny_getItem_list_slice hl ⟨_,e,rfl,rfl⟩ rX rX rX hi.1 ?_ (by rw[List.size_toArray,r.length];exact bJ hi.2)) hs
  have:slicePick vs.toArray (dl.map (·.1)) (du.map (·.1)) (ds.map (·.1))=(cp (dl.map (·.1)) (du.map (·.1)) (ds.map (·.1)) vs).toArray:=by
   unfold slicePick cp pick
   simp
  rw[this]
  refine PostE.newL I ?_
  unfold cp
  rw[r.length]
  exact r.pick _
 | str x t=>
  refine iE h (λhi h=>?_) λ_ h=>nE h
  cases h
  have h0:ds=none:=by cases ds with|none=>rfl|some _=>cases hi.1
  subst h0
  refine tail_any (typeIs_str s _ _) F.slot_str_getitem.lookup (wpAny_getItem_str_slice (l:=dl) (u:=du) (st:=none) ⟨_,e,rfl,rfl⟩ rfl ?_) hs
  unfold sliceMade slicePicked Txt.slice
  simp only[Option.map_none,Option.getD_none]
  split
  ·exact PostE.same I (.str _ _)
  ·refine⟨?_,PostE.here I (.str _ _)⟩
   have hlen:((Builtin.Str.strSliceIndices (dl.map (·.1)) (du.map (·.1)) 1 x.length).filterMap (x.cps[·]?)).length≤x.cps.toList.length:=by
    have:=iC x.cps.toList (dl.map (·.1)) (du.map (·.1)) none
    unfold cp pick at this
    cases dl<;>cases du<;>simpa [Builtin.Str.strSliceIndices,sliceBounds,Str.length] using this
   show ((Builtin.Str.strSliceIndices (dl.map (·.1)) (du.map (·.1)) 1 x.length).filterMap (x.cps[·]?)).toArray.size≤sizeLine
   rw[List.size_toArray]
   exact Nat.le_trans hlen (bJ (by simpa [Str.length] using hi.2))
 | @tup t vs n ds0 e1 r=>
  have h:(match dl.map (·.1),du.map (·.1),ds.map (·.1)with
   | some (Int.ofNat (k+1)),none,none=>if k+1≤ds0.length∧ds0.length≤100000 then some (D.tup (ds0.drop (k+1)))else none
   | _,_,_=>none)=some d:=h
  (first|(refine iE h ?_ ?_<;>(clear h;intro _ h))|split at h)
  ·rename_i k hlo hhi hst
   refine iE h (λhk h=>?_) λ_ h=>nE h
   cases h
   (refine mE2 hlo ?_;(try clear hlo);intro i tk hdl hi)
   dsimp only at hi
   subst hi
   have hdu:du=none:=by cases du with|none=>rfl|some _=>cases hhi
   have hds:ds=none:=by cases ds with|none=>rfl|some _=>cases hst
   subst hdl hdu hds
   have hl:IsTup s.heap t vs.toArray:=⟨_,I.sub _ _ e1,rfl,_,rfl⟩
   refine tail_any ⟨_,I.sub _ _ e1,rfl⟩ slot_tuple_getitem.lookup (getItem_tuple_from (a:=k+1) hl ⟨_,e,rfl,rfl⟩ (by(first|lia|omega)) (by rw[List.size_toArray,r.length];exact hk.1) ?_ (by rw[List.size_toArray,r.length];exact bJ hk.2)) hs
   exact PostE.newT I (by simpa using r.drop (k+1))
  ·exact nE h
 | _=>exact nE h
noncomputable def aW(p:PE)(l u st:PP):PE:=λΓ c=>(p Γ c).bind λ(a,c1)=>(l Γ c1).bind λ(x,c2)=>(u Γ c2).bind λ(y,c3)=>(st Γ c3).bind λ(z,c4)=>(kg a x y z).map λr=>(r,c4)
theorem dC{value:Expr}{l u st:Option Expr}{ps pos:Pos}{p:PE}{pl pu pst:PP}(h1:SoundE X A ft env value p)(h2:lN X A ft env l pl)(h3:lN X A ft env u pu)(h4:lN X A ft env st pst) :
  SoundE X A ft env (.Subscript value (.Slice l u st ps) pos) (aW p pl pu pst):=λΓ σ s d c' I F h=>by
 (refine bE2 h ?_;(try clear h);intro a c1 e1 h)
 (refine bE2 h ?_;(try clear h);intro x c2 e2 h)
 (refine bE2 h ?_;(try clear h);intro y c3 e3 h)
 (refine bE2 h ?_;(try clear h);intro z c4 e4 h)
 (refine mE h ?_;(try clear h);intro r e5 h)
 obtain⟨rfl,rfl⟩:=Prod.mk.inj h
 clear h
 refine Subscript_ (h1.use I F e1 λv1 σ1 s1 q1 I1 x1 F1 r1=>?_)
 subst q1
 refine wpAny_Slice (wpAny_mono (h2 Γ σ1 s1 x c2 I1 F1 e2) (λv2 s2 qz1=>?_) λ_ _ f=>f)
 obtain⟨σ2,q2,I2,x2,d2,w2,m2⟩:=qz1
 subst q2 w2 m2
 have F2:=F1.ext x2
 refine wpAny_mono (h3 Γ σ2 s2 y c3 I2 F2 e3) (λv3 s3 qz1=>?_) λ_ _ f=>f
 obtain⟨σ3,q3,I3,x3,d3,w3,m3⟩:=qz1
 subst q3 w3 m3
 have F3:=F2.ext x3
 refine wpAny_mono (h4 Γ σ3 s3 z c4 I3 F3 e4) (λv4 s4 qz1=>?_) λ_ _ f=>f
 obtain⟨σ4,q4,I4,x4,d4,w4,m4⟩:=qz1
 subst q4 w4 m4
 obtain⟨I5,x5⟩:=jT (o:={ cls:=.type "slice",data:=.fields #[partValue d2,partValue d3,partValue d4] }) (tk:=s4.toks) I4
 have x14:=x2.trans I2 (x3.trans I3 x4)
 exact wpAny_mono (y8 I5 (r1.mono x14.le) (Heap.get?_push_size _ rfl) e5) (λ_ _ k=>PostE.trans I5 ((x1.trans I1 x14).trans I4 x5) k) λ_ _ f=>f
end
end Mine
namespace Mine
inductive Fl where
 | next|brk|cont
 | ret (d:D)
noncomputable abbrev PS:=List Slot→List Cell→Option (Fl×List Slot×List Cell)
noncomputable def BC(σ:Sg):Flow→Fl→Prop
 | .next,.next=>True
 | .brk,.brk=>True
 | .cont,.cont=>True
 | .ret v,.ret d=>Rel σ.g v d
 | _,_=>False
noncomputable def PostS(X:Cx)(ft:FT)(env:Env)(σ:Sg)(s:Shared)(fl:Fl)(Γ':List Slot)(c':List Cell)(f:Flow)(s':Shared):Prop:=
 ∃σ',σ'.sto=c'∧X.Inv σ' s'∧Ext (FW ft env) NoG σ s σ' s'∧Frm ft env Γ' σ' s'.heap∧BC σ' f fl
noncomputable def aN(X:Cx)(A:Around)(ft:FT)(env:Env)(st:Stmt)(p:PS):Prop:=
 ∀Γ σ s fl Γ' c',X.Inv σ s→Frm ft env Γ σ s.heap→p Γ σ.sto=some (fl,Γ',c')→wpAny X.M A (exec st env) (PostS X ft env σ s fl Γ' c') NoE s
noncomputable def bj(X:Cx)(A:Around)(ft:FT)(env:Env)(st:List Stmt)(p:PS):Prop:=
 ∀Γ σ s fl Γ' c',X.Inv σ s→Frm ft env Γ σ s.heap→p Γ σ.sto=some (fl,Γ',c')→wpAny X.M A (execs st env) (PostS X ft env σ s fl Γ' c') NoE s
section
variable{X:Cx}{A:Around}{ft:FT}{env:Env}{Γ Γ':List Slot}{σ:Sg}{s:Shared}{d:D}{c':List Cell}{fl:Fl}
theorem PostS.trans{σ₁:Sg}{s₁ s₂:Shared}{f:Flow}(I:X.Inv σ₁ s₁)(x:Ext (FW ft env) NoG σ s σ₁ s₁)(h:PostS X ft env σ₁ s₁ fl Γ' c' f s₂):PostS X ft env σ s fl Γ' c' f s₂:=by
 obtain⟨σ',h1,h2,h3,h4,h5⟩:=h
 exact⟨σ',h1,h2,x.trans I h3,h4,h5⟩
noncomputable def aH:PS:=λΓ c=>some (.next,Γ,c)
noncomputable def ak(p q:PS):PS:=λΓ c=>(p Γ c).bind λ(f,Γ1,c1)=>match f with
 | .next=>q Γ1 c1
 | f=>some (f,Γ1,c1)
theorem aP:bj X A ft env [] aH:=λΓ σ s fl Γ' c' I F h=>by
 cases h;exact wpAny_pure ⟨σ,rfl,I,.refl _ _ _ _,F,trivial⟩
theorem az{st:Stmt}{rest:List Stmt}{p q:PS}(h1:aN X A ft env st p)(h2:bj X A ft env rest q):bj X A ft env (st::rest) (ak p q):=λΓ σ s fl Γ' c' I F h=>by
 (refine bE3 h ?_;(try clear h);intro f Γ1 c1 e1 h)
 dsimp only at h
 refine wpAny_execs_cons (wpAny_mono (h1 Γ σ s f Γ1 c1 I F e1) (λfw s1 qz1=>?_) λ_ _ f=>f)
 obtain⟨σ1,q1,I1,x1,F1,r1⟩:=qz1
 subst q1
 cases f with
 | next=>
  cases fw<;>cases r1
  exact wpAny_mono (h2 Γ1 σ1 s1 fl Γ' c' I1 F1 h) (λ_ _ k=>PostS.trans I1 x1 k) λ_ _ f=>f
 | brk=>cases h;cases fw<;>cases r1;exact⟨σ1,rfl,I1,x1,F1,trivial⟩
 | cont=>cases h;cases fw<;>cases r1;exact⟨σ1,rfl,I1,x1,F1,trivial⟩
 | ret d=>cases h;cases fw<;>first|(cases r1;done)|exact⟨σ1,rfl,I1,x1,F1,r1⟩
noncomputable def dS(p:PE):PS:=λΓ c=>(p Γ c).map λ(d,c1)=>(.ret d,Γ,c1)
theorem fG{e:Expr}{pos:Pos}{p:PE}(h1:SoundE X A ft env e p):aN X A ft env (.Return (some e) pos) (dS p):=λΓ σ s fl Γ' c' I F h=>by
 (refine mE2 h ?_;(try clear h);intro a c1 e1 h)
 cases h
 exact wpAny_Return_some (h1.use I F e1 λv1 σ1 s1 q1 I1 x1 F1 r1=>⟨σ1,q1,I1,x1.up,F1,r1⟩)
noncomputable def Cr:PS:=λΓ c=>some (.brk,Γ,c)
theorem EF{pos:Pos}:aN X A ft env (.Break pos) Cr:=λΓ σ s fl Γ' c' I F h=>by
 cases h;exact wpAny_Break ⟨σ,rfl,I,.refl _ _ _ _,F,trivial⟩
noncomputable def qIf(b:PB)(p q:PS):PS:=λΓ c=>(b Γ c).bind λ(t,c1)=>if t then p Γ c1 else q Γ c1
theorem ie{t:Expr}{body orelse:List Stmt}{pos:Pos}{b:PB}{p q:PS}(h0:SoundB X A ft env t b)(h1:bj X A ft env body p)(h2:bj X A ft env orelse q):aN X A ft env (.If t body orelse pos) (qIf b p q):=λΓ σ s fl Γ' c' I F h=>by
 (refine bE2 h ?_;(try clear h);intro t c1 e1 h)
 refine wpAny_If (h0.use I F e1 λσ1 s1 q1 I1 x1 F1=>?_)
 subst q1
 cases t with
 | true=>exact wpAny_mono (h1 Γ σ1 s1 _ _ _ I1 F1 h) (λ_ _ k=>PostS.trans I1 x1.up k) λ_ _ f=>f
 | false=>exact wpAny_mono (h2 Γ σ1 s1 _ _ _ I1 F1 h) (λ_ _ k=>PostS.trans I1 x1.up k) λ_ _ f=>f
noncomputable def aT(i:Nat)(d:D)(Γ:List Slot):List Slot:=Γ.set i (.val d)
noncomputable def bf(i:Nat)(p:PE):PS:=λΓ c=>(p Γ c).map λ(d,c1)=>(.next,aT i d Γ,c1)
theorem dx{i:Nat}{x:Str}{k:VK}{e:Expr}{p:PE}{px pos:Pos}(hi:ft.nt[i]?=some (x,k))(hk:k≠.f)(h1:SoundE X A ft env e p)
  (hs:autoParam (∀env,swapsWith e (some (.Name x px)) pos.line env=pure false) aR):aN X A ft env (.Assign [.Name x px] e pos) (bf i p):=λΓ σ s fl Γ' c' I F h=>by
 (refine mE2 h ?_;(try clear h);intro a c1 e1 h)
 cases h
 refine wpAny_Assign_Name (h1.use I F e1 λv1 σ1 s1 q1 I1 x1 F1 r1=>?_) (hs env)
 subst q1
 exact cT I1 F1 hi hk (sl:=.val a) r1 λs' I' x' F'=>⟨σ1,rfl,I',x1.up.trans I1 x',F',trivial⟩
theorem qC{i:Nat}{x:Str}{e:Expr}{p:PE}{px pos:Pos}(hi:ft.nt[i]?=some (x,.c))(h1:SoundE X A ft env e p)
  (hs:∀env,env.kindOf x=some .cell→swapsWith e (some (.Name x px)) pos.line env=pure false):aN X A ft env (.Assign [.Name x px] e pos) (bf i p):=λΓ σ s fl Γ' c' I F h=>by
 (refine mE2 h ?_;(try clear h);intro a c1 e1 h)
 cases h
 refine wpAny_Assign_Name (h1.use I F e1 λv1 σ1 s1 q1 I1 x1 F1 r1=>?_) (hs env (oS (F.ok.kinds _ (List.mem_of_getElem? hi))))
 subst q1
 exact cT I1 F1 hi (by intro q;cases q) (sl:=.val a) r1 λs' I' x' F'=>⟨σ1,rfl,I',x1.up.trans I1 x',F',trivial⟩
theorem lF{ds:List D}{vs:List Value}{tk:Nat}(I:X.Inv σ s)(r:RelAll σ.g vs ds)(ht:autoParam (s.toks≤tk) aL) :
  let σ':Sg:=⟨σ.g,σ.own++[s.heap.objs.size],σ.sto++[.lst ds]⟩
  let s':Shared:={ s with heap:=s.heap.push (cI vs.toArray 0),toks:=tk }
  X.Inv σ' s'∧Ext NoW NoG σ s σ' s':=by
 have n:s.heap.get? s.heap.objs.size=none:=get?_push_none
 obtain⟨n1,n2⟩:=I.notIn n
 have I':X.Inv σ { s with heap:=s.heap.push (cI vs.toArray 0),toks:=tk }:=(jT I ht).1
 refine⟨⟨I'.sub,by simp[I.len],?_,λk a c e1 e2=>?_,λk a c e1 e2 e3=>?_,I'.top,I'.bare,I'.tk⟩,⟨.refl _,⟨_,rfl,λa ha=>?_⟩,λa o e n=>(by rw[n]at e;cases e),λa o e _ _=>Heap.get?_push_of_some _ e,λ_ _ e _=>e,rfl⟩⟩
 ·rw[List.nodup_append]
  exact⟨I.nodup,by simp,λa ha b hb=>by simp at hb;subst hb;rintro rfl;exact n1 ha⟩
 ·dsimp only at e1 e2
  by_cases hk:k<σ.own.length
  ·rw[List.getElem?_append_left hk]at e1
   rw[List.getElem?_append_left (I.len▸hk)]at e2
   exact I'.cells k a c e1 e2
  ·have hk':σ.own.length≤k:=Nat.le_of_not_lt hk
   rw[List.getElem?_append_right hk']at e1
   rw[List.getElem?_append_right (I.len▸hk')]at e2
   have h0:k - σ.own.length=0:=by
    have:=(List.getElem?_eq_some_iff.mp e1).1
    simp at this;(first|lia|omega)
   have h1:k - σ.sto.length=0:=by rw[←I.len];exact h0
   rw[h0]at e1;rw[h1]at e2
   cases e1;cases e2
   exact⟨vs,0,Heap.get?_push_size _ rfl,r⟩
 ·dsimp only at e1 e2
  by_cases hk:k<σ.own.length
  ·rw[List.getElem?_append_left hk]at e1
   rw[List.getElem?_append_left (I.len▸hk)]at e2
   exact I.off k a c e1 e2 e3
  ·have hk':σ.own.length≤k:=Nat.le_of_not_lt hk
   rw[List.getElem?_append_right hk']at e1
   have:=List.mem_of_getElem? e1
   simp at this
   subst this;exact n2
 ·simp at ha
  subst ha
  exact .inl n
noncomputable def jj(i:Nat)(ps:PL):PS:=λΓ c=>(ps Γ c).bind λ(ds,c1)=>if ds.length≤100000 then some (.next,Γ.set i (.ref c1.length),c1++[.lst ds])else none
theorem mB{i:Nat}{x:Str}{k:VK}{es:List Expr}{ps:PL}{px pl pos:Pos}(hi:ft.nt[i]?=some (x,k))(hk:k≠.f)(h1:SoundL X A ft env pl es ps):aN X A ft env (.Assign [.Name x px] (.List es pl) pos) (jj i ps):=λΓ σ s fl Γ' c' I F h=>by
 (refine bE2 h ?_;(try clear h);intro ds c1 e1 h)
 dsimp only at h
 (first|(refine iE h ?_ ?_<;>(clear h;intro _ h))|split at h)
 ·rename_i hl
  cases h
  refine wpAny_Assign_Name (wpAny_List (h1.use I F e1 λvs σ1 s1 q1 I1 x1 F1 r1=>⟨by rw[r1.length];exact bJ hl,?_⟩)) rfl
  subst q1
  obtain⟨I2,x2⟩:=lF (tk:=s1.toks) I1 r1
  refine cT I2 (F1.ext x2) hi hk (sl:=.ref σ1.sto.length) ⟨s1.heap.objs.size,by rw[←I1.len];simp,rfl⟩ λs' I' x' F'=>⟨_,rfl,I',(x1.up.trans I1 x2.up).trans I2 x',F',trivial⟩
 ·cases h
noncomputable def rm(op:Operator)(a b:D):Option D:=match op with
 | .Add=>onI a λa=>onI b λb=>some (.int (a+b))
 | .Sub=>onI a λa=>onI b λb=>some (.int (a - b))
 | .LShift=>onI a λa=>onI b λb=>if 0≤b∧b≤1000000∧a.natAbs<2 ^ 64 then some (.int (a*2 ^ b.toNat))else none
 | .BitOr=>onI a λa=>onI b λb=>some (.int (Builtin.bitOr a b))
 | .BitXor=>onI a λa=>onI b λb=>some (.int (Builtin.bitXor a b))
 | _=>none
theorem BG{op:Operator}{a b d:D}{va vb:Value}{R:Value→Shared→Prop}(I:X.Inv σ s)(ra:Rel σ.g va a)(rb:Rel σ.g vb b)(h:rm op a b=some d)(k:∀v s',PostE X σ s d σ.sto v s'→R v s'):wpAny X.M A (inplaceOp op va vb) R NoE s:=by
 have int:∀{op:Operator} {f:Int→Int→Option D},onI a (λa=>onI b λb=>f a b)=some d→(∀i j t u,f i j=some d→wpAny X.M A (inplaceOp op (.int i t) (.int j u)) R NoE s)→wpAny X.M A (inplaceOp op va vb) R NoE s:=by
  intro op f h q
  refine ic ra h λi t h=>?_
  refine ic rb h λj u h=>?_
  exact q i j t u h
 have out:∀{x t n},D.int x=d→R (.int x t) { s with toks:=s.toks+n }:=λh=>k _ _ (h▸PostE.here I (.int _ _))
 cases op with
 | Add=>exact int h λi j t u h=>PyProof.Rows.iadd_int (out (Option.some.inj h))
 | Sub=>exact int h λi j t u h=>P.isub_int (out (Option.some.inj h))
 | LShift=>exact int h λi j t u h=>iE h (λhl h=>ilshift_int_small hl.1 hl.2.1 hl.2.2 (out (Option.some.inj h))) λ_ h=>nE h
 | BitOr=>exact int h λi j t u h=>ior_int (out (Option.some.inj h))
 | BitXor=>exact int h λi j t u h=>ixor_int (out (Option.some.inj h))
 | _=>exact nE h
theorem BF{op:Operator}{a b d:D}{va vb:Value}(I:X.Inv σ s)(ra:Rel σ.g va a)(rb:Rel σ.g vb b)(h:rm op a b=some d):wpAny X.M A (inplaceOp op va vb) (PostE X σ s d σ.sto) NoE s:=BG I ra rb h λ_ _ q=>q
noncomputable def gj(i:Nat)(op:Operator)(p:PE):PS:=λΓ c=>match Γ[i]? with
 | some (.val a)=>(p Γ c).bind λ(b,c1)=>(rm op a b).map λd=>(.next,aT i d Γ,c1)
 | _=>none
theorem vV{i:Nat}{x:Str}{k:VK}{op:Operator}{e:Expr}{p:PE}{px pos:Pos}(hi:ft.nt[i]?=some (x,k))(hk:k≠.f)(h1:SoundE X A ft env e p):aN X A ft env (.AugAssign (.Name x px) op e pos) (gj i op p):=λΓ σ s fl Γ' c' I F h=>by
 unfold gj at h
 (first|(refine iE h ?_ ?_<;>(clear h;intro _ h))|split at h)
 ·rename_i a ea
  (refine bE2 h ?_;(try clear h);intro b c1 e1 h)
  (refine mE h ?_;(try clear h);intro d e2 h)
  cases h
  refine wpAny_AugAssign_Name (cS F hi ea (by intro q;cases q) λv r=>?_)
  refine h1.use I F e1 λv1 σ1 s1 q1 I1 x1 F1 r1=>?_
  subst q1
  refine wpAny_mono (BF I1 (Rel.mono x1.le r) r1 e2) (λv2 s2 qz1=>?_) λ_ _ f=>f
  obtain⟨σ2,q2,I2,x2,r2⟩:=qz1
  exact cT I2 (F1.ext x2) hi hk (sl:=.val d) r2 λs' I' x' F'=>⟨σ2,q2,I',(x1.up.trans I1 x2.up).trans I2 x',F',trivial⟩
 ·cases h
inductive Tg where
 | n (i:Nat)
 | t (is:List Nat)
noncomputable def lH:List Nat→List D→List Slot→Option (List Slot)
 | [],[],Γ=>some Γ
 | i::is,d::ds,Γ=>lH is ds (aT i d Γ)
 | _,_,_=>none
noncomputable def dU(tg:Tg)(d:D)(Γ:List Slot):Option (List Slot):=match tg,d with
 | .n i,d=>some (aT i d Γ)
 | .t is,.tup ds=>lH is ds Γ
 | _,_=>none
noncomputable def dJ(X:Cx)(A:Around)(ft:FT)(env:Env)(e:Expr)(tg:Tg):Prop:=
 ∀Γ σ s d v Γ',X.Inv σ s→Frm ft env Γ σ s.heap→Rel σ.g v d→dU tg d Γ=some Γ'→wpAny X.M A (assign e env v) (λ_ s'=>X.Inv σ s'∧Ext (FW ft env) NoG σ s σ s'∧Frm ft env Γ' σ s'.heap) NoE s
theorem bX{i:Nat}{x:Str}{k:VK}{px:Pos}(hi:ft.nt[i]?=some (x,k))(hk:k≠.f):dJ X A ft env (.Name x px) (.n i):=λΓ σ s d v Γ' I F r h=>by
 cases h
 exact wpAny_assign_Name (cT I F hi hk (sl:=.val d) r λs' I' x' F'=>⟨I',x',F'⟩)
inductive gH (ft:FT):List Expr→List Nat→Prop
 | nil:gH ft [] []
 | cons {i:Nat} {x:Str} {k:VK} {px:Pos} {es:List Expr} {is:List Nat}:ft.nt[i]?=some (x,k)→k≠.f→gH ft es is→gH ft (.Name x px::es) (i::is)
theorem rQ{es:List Expr}{is:List Nat}(h:gH ft es is):(assignEach es env).length=is.length∧(assignEach es env).findIdx? (·.1)=none:=by
 induction h with
 | nil=>exact⟨rfl,rfl⟩
 | cons hi hk _ ih=>
  have e:∀(x:Str) (px:Pos) (es:List Expr),assignEach (.Name x px::es) env=(false,assign (.Name x px) env)::assignEach es env:=λ_ _ _=>rfl
  rw[e]
  refine⟨by rw[List.length_cons,List.length_cons,ih.1],?_⟩
  rw[List.findIdx?_cons]
  simp[ih.2]
theorem yB{es:List Expr}{is:List Nat}(h:gH ft es is):∀{Γ Γ':List Slot} {σ:Sg} {s:Shared} {vs:List Value} {ds:List D},X.Inv σ s→Frm ft env Γ σ s.heap→RelAll σ.g vs ds→lH is ds Γ=some Γ'→
  wpAny X.M A (assignInOrder ((assignEach es env).map (·.2)) vs) (λ_ s'=>X.Inv σ s'∧Ext (FW ft env) NoG σ s σ s'∧Frm ft env Γ' σ s'.heap) NoE s:=by
 induction h with
 | nil=>
  intro Γ Γ' σ s vs ds I F r e
  cases ds with
  | nil=>cases r;cases e;exact wpAny_assignInOrder_none ⟨I,.refl _ _ _ _,F⟩
  | cons _ _=>cases e
 | cons hi hk _ ih=>
  rename_i i x k px es is _
  intro Γ Γ' σ s vs ds I F r e
  cases ds with
  | nil=>cases e
  | cons d ds=>
   cases r with
   | cons r rs=>
    rename_i v vs
    show wpAny X.M A (assignInOrder (assign (.Name x px) env::(assignEach es env).map (·.2)) (v::vs)) _ _ _
    refine wpAny_assignInOrder_more (wpAny_assign_Name (cT I F hi hk (sl:=.val d) r λs' I' x' F'=>?_))
    exact wpAny_mono (ih I' F' rs e) (λ_ s'' ⟨i2,x2,f2⟩=>⟨i2,x'.trans I' x2,f2⟩) λ_ _ f=>f
theorem hV{es:List Expr}{is:List Nat}{k:Nat}{pos:Pos}(hr:Room A 8)(h:gH ft es is):dJ X A ft env (.Tuple es k pos) (.t is):=λΓ σ s d v Γ' I F r e=>by
 cases d with
 | tup ds=>
  cases r with
  | tup e1 rs=>
   rename_i a vs n
   have ht:s.heap.IsTuple a vs.toArray:=⟨_,I.sub _ _ e1,rfl,_,rfl⟩
   have hlen:is.length=ds.length:=by
    have:∀(is:List Nat) (ds:List D) (Γ Γ':List Slot),lH is ds Γ=some Γ'→is.length=ds.length:=by
     intro is
     induction is with
     | nil=>intro ds Γ Γ' h;cases ds with|nil=>rfl|cons _ _=>cases h
     | cons i is ih=>intro ds Γ Γ' h;cases ds with|nil=>cases h|cons d ds=>rw[List.length_cons,List.length_cons,ih ds _ _ h]
    exact this _ _ _ _ e
   obtain⟨n1,n2⟩:=rQ (env:=env) h
   refine wpAny_assign_Tuple hr.hand ht (by rw[n1,hlen,List.size_toArray,rs.length]) n2 λh' hs=>?_
   have keep:∀a o,s.heap.get? a=some o→h'.get? a=some o:=λa o e=>hs a o (Nat.ne_of_lt (Heap.lt_size e)) e
   have I1:X.Inv σ { s with heap:=h',toks:=s.toks }:=Mine.Inv.heap (W:=NoW) I (λa o e _=>keep a o e) λ_ f=>f.elim
   have x1:Ext NoW NoG σ s σ { s with heap:=h',toks:=s.toks }:=Ext.heap λa o e _=>keep a o e
   exact wpAny_mono (yB h I1 (F.ext x1) rs e) (λ_ s'' ⟨i2,x2,f2⟩=>⟨i2,x1.up.trans I1 x2,f2⟩) λ_ _ f=>f
 | _=>cases e
end
end Mine
namespace Mine
structure IterAt (X:Cx) (A:Around) (tgt:Expr) (it:Value) (W:Addr→Prop) (Wg:Nat→Prop) (J:Heap→List D→Shared→Prop):Prop where
 self:∀{g ds s} {Q:Value→Shared→Prop},J g ds s→Le g s.heap→Q it s→wpAny X.M A (pyIter it) Q NoE s
 step:∀{σ s d ds},X.Inv σ s→J σ.g (d::ds) s→(∀a,W a→σ.g.get? a=none∧a∉σ.own)→
  wpAny X.M A (pyNext it) (λr s1=>∃v,r=some v∧wpAny X.M A (letOwnedTupleGo tgt it v) (λ_ s'=>∃g',X.Inv ⟨g',σ.own,σ.sto⟩ s'∧Ext W Wg σ s ⟨g',σ.own,σ.sto⟩ s'∧(∀a,W a→g'.get? a=none)∧Rel g' v d∧J g' ds s') NoE s1) NoE s
 stop:∀{σ s},X.Inv σ s→J σ.g [] s→(∀a,W a→σ.g.get? a=none∧a∉σ.own)→wpAny X.M A (pyNext it) (λr s'=>r=none∧X.Inv σ s'∧Ext W Wg σ s σ s') NoE s
 frame:∀{g g' ds s s'},J g ds s→Le g g'→Le g s.heap→Le g' s'.heap→(∀a o,W a→s.heap.get? a=some o→s'.heap.get? a=some o)→(∀(i:Nat) x,Wg i→s.gens[i]?=some x→s'.gens[i]?=some x)→J g' ds s'
 there:∀{g ds s},J g ds s→∀a,W a→∃o,s.heap.get? a=some o
structure lM (X:Cx) (A:Around) (tgt:Expr) (it:Value) (Wg:Nat→Prop) (J:(Addr→Prop)→Heap→List D→Shared→Prop):Prop where
 self:∀{W g ds s} {Q:Value→Shared→Prop},J W g ds s→Le g s.heap→Q it s→wpAny X.M A (pyIter it) Q NoE s
 step:∀{W σ s d ds},X.Inv σ s→J W σ.g (d::ds) s→(∀a,W a→σ.g.get? a=none∧a∉σ.own)→
  wpAny X.M A (pyNext it) (λr s1=>∃v,r=some v∧wpAny X.M A (letOwnedTupleGo tgt it v) (λ_ s'=>∃g' W',(∀a,W' a→W a∨s.heap.get? a=none)∧X.Inv ⟨g',σ.own,σ.sto⟩ s'∧Ext W Wg σ s ⟨g',σ.own,σ.sto⟩ s'∧(∀a,W' a→g'.get? a=none)∧Rel g' v d∧J W' g' ds s') NoE s1) NoE s
 stop:∀{W σ s},X.Inv σ s→J W σ.g [] s→(∀a,W a→σ.g.get? a=none∧a∉σ.own)→wpAny X.M A (pyNext it) (λr s'=>r=none∧X.Inv σ s'∧Ext W Wg σ s σ s') NoE s
 frame:∀{W g g' ds s s'},J W g ds s→Le g g'→Le g s.heap→Le g' s'.heap→(∀a o,W a→s.heap.get? a=some o→s'.heap.get? a=some o)→(∀(i:Nat) x,Wg i→s.gens[i]?=some x→s'.gens[i]?=some x)→J W g' ds s'
 there:∀{W g ds s},J W g ds s→∀a,W a→∃o,s.heap.get? a=some o
theorem IterAt.toG{X:Cx}{A:Around}{tgt:Expr}{it:Value}{W:Addr→Prop}{Wg:Nat→Prop}{J:Heap→List D→Shared→Prop}(h:IterAt X A tgt it W Wg J):lM X A tgt it Wg (λW' g ds s=>W'=W∧J g ds s) where
 self:=λ⟨_,j⟩ le q=>h.self j le q
 step:=λI qz1 hW=>by
  obtain⟨e,j⟩:=qz1
  subst e
  exact wpAny_mono (h.step I j hW) (λr s1 ⟨v,e,k⟩=>⟨v,e,wpAny_mono k (λ_ s' ⟨g',a,b,c,d,e⟩=>⟨g',_,λ_ q=>.inl q,a,b,c,d,rfl,e⟩) λ_ _ f=>f⟩) λ_ _ f=>f
 stop:=λI ⟨e,j⟩ hW=>by subst e;exact h.stop I j hW
 frame:=λ⟨e,j⟩ a b c d f=>⟨e,h.frame j a b c (e▸d) f⟩
 there:=λ⟨e,j⟩=>e▸h.there j
noncomputable def PostI(X:Cx)(A:Around)(tgt:Expr)(σ:Sg)(s:Shared)(ds:List D)(c':List Cell)(it:Value)(s':Shared):Prop:=
 ∃σ' W Wg J,σ'.sto=c'∧X.Inv σ' s'∧Ext NoW NoG σ s σ' s'∧lM X A tgt it Wg J∧J W σ'.g ds s'∧(∀a,W a→s.heap.get? a=none∧σ'.g.get? a=none∧a∉σ'.own)∧(∀i:Nat,Wg i→s.gens[i]?=none)
theorem PostI.of{X:Cx}{A:Around}{tgt:Expr}{σ:Sg}{s:Shared}{ds:List D}{c':List Cell}{it:Value}{s':Shared}
  (h:∃σ' W Wg J,σ'.sto=c'∧X.Inv σ' s'∧Ext NoW NoG σ s σ' s'∧IterAt X A tgt it W Wg J∧J σ'.g ds s'∧(∀a,W a→s.heap.get? a=none∧σ'.g.get? a=none∧a∉σ'.own)∧(∀i:Nat,Wg i→s.gens[i]?=none)):PostI X A tgt σ s ds c' it s':=by
 obtain⟨σ',W,Wg,J,a,b,c,d,e,f,g⟩:=h
 exact⟨σ',W,Wg,_,a,b,c,d.toG,⟨rfl,e⟩,f,g⟩
noncomputable def et(X:Cx)(A:Around)(ft:FT)(env:Env)(tgt e:Expr)(p:PL):Prop:=
 ∀Γ σ s ds c',X.Inv σ s→Frm ft env Γ σ s.heap→p Γ σ.sto=some (ds,c')→wpAny X.M A (eval e env) (λx s1=>wpAny X.M A (pyIter x) (PostI X A tgt σ s ds c') NoE s1) NoE s
section
variable{X:Cx}{A:Around}{ft:FT}{env:Env}{Γ Γ':List Slot}{σ:Sg}{s:Shared}{d:D}{c':List Cell}{tgt:Expr}
theorem iw{it v:Value}{Q:Unit→Shared→Prop}(h:∀r a,it=.ref r→v=.ref a→∃o,s.heap.get? r=some o∧(∀n,o.cls=.type n→["enumerate","zip","dict_itemiterator","dict_reverseitemiterator","odict_iterator","itertools.zip_longest","itertools.pairwise"].contains n=false))(k:Q () s) :
  wpAny X.M A (letOwnedTupleGo tgt it v) Q NoE s:=by
 have core:wpAny X.M A (letOwnedTupleGo (.Tuple [] default default) it v) Q NoE s:=by
  cases it with
  | ref r=>cases v with
   | ref a=>
    obtain⟨o,ho,hn⟩:=h r a rfl rfl
    refine wpAny_bind (wpAny_load ho ?_)
    obtain⟨cls,dict,data,slots⟩:=o
    cases cls with
    | type n=>cases data with
     | fields vs=>
      have:=hn n rfl
      dsimp only
      rw[this]
      exact wpAny_pure k
     | _=>exact wpAny_pure k
    | _=>exact wpAny_pure k
   | _=>exact wpAny_pure k
  | _=>exact wpAny_pure k
 cases tgt<;>first|exact core|exact wpAny_pure k
theorem xK(hh:A.handled=none)(it l:Addr)(vs:List Value)(n:Nat)(hne:l≠it):IterAt X A tgt (.ref it) (λa=>a=it) NoG
  (λg ds s=>∃i,s.heap.IsListIter it l i∧g.get? l=some (cI vs.toArray n)∧RelAll g (vs.drop i) ds) where
 self:=λ⟨i,hit,_,_⟩ _ k=>wpAny_pyIter_listiter hit k
 step:=λ{σ s d ds} I qz1 hW=>by
  obtain⟨i,hit,hl,r⟩:=qz1
  have hl':s.heap.IsList l vs.toArray:=⟨_,I.sub _ _ hl,rfl,_,rfl⟩
  obtain⟨v,hv,rv⟩:=r.get (k:=0) (d:=d) rfl
  have hx:vs[i]?=some v:=by simpa using hv
  refine wpAny_pyNext_list_item hit hl' (x:=v) (by simpa using hx) λh' hit' hs=>⟨v,rfl,iw (λr a e _=>?_) ⟨σ.g,?_,Ext.heap (tk:=s.toks) λa o e hw=>(hs.2 a hw).trans e,λa ha=>(hW a ha).1,rv,i+1,hit',hl,?_⟩⟩
  ·cases e
   obtain⟨o,ho,hc,_⟩:=hit'
   exact⟨o,ho,λn e=>by rw[hc]at e;cases e;decide⟩
  ·exact Mine.Inv.heap (W:=λa=>a=it) (tk:=s.toks) I (λa o e hw=>(hs.2 a hw).trans e) λa e=>⟨(hW a e).2,(hW a e).1⟩
  ·have:vs.drop (i+1)=(vs.drop i).drop 1:=by rw[List.drop_drop]
   rw[this];exact r.drop 1
 stop:=λ{σ s} I qz1 hW=>by
  obtain⟨i,hit,hl,r⟩:=qz1
  have hl':s.heap.IsList l vs.toArray:=⟨_,I.sub _ _ hl,rfl,_,rfl⟩
  have hx:vs[i]?=none:=by
   have:=r.length
   rw[List.length_drop,List.length_nil]at this
   exact List.getElem?_eq_none_iff.mpr (by(first|lia|omega))
  exact wpAny_pyNext_list_end hh hit hl' (by simpa using hx) λh' hs=>⟨rfl,Mine.Inv.heap (W:=λa=>a=it) (tk:=s.toks) I (λa o e hw=>hs a o hw e) λa e=>⟨(hW a e).2,(hW a e).1⟩,Ext.heap (tk:=s.toks) λa o e hw=>hs a o hw e⟩
 frame:=λ⟨i,⟨o,ho,r1⟩,hl,r⟩ hle _ _ hk _=>⟨i,⟨o,hk _ _ rfl ho,r1⟩,hle _ _ hl,r.mono hle⟩
 there:=λ⟨i,⟨o,ho,_⟩,_,_⟩ a e=>⟨o,e▸ho⟩
theorem vF(hh:A.handled=none)(it l:Addr)(vs:List Value)(n:Nat)(hne:l≠it):IterAt X A tgt (.ref it) (λa=>a=it) NoG
  (λg ds s=>∃i,s.heap.IsTupleIter it l i∧g.get? l=some (fW vs.toArray n)∧RelAll g (vs.drop i) ds) where
 self:=λ⟨i,hit,_,_⟩ _ k=>wpAny_pyIter_tupleiter hit k
 step:=λ{σ s d ds} I qz1 hW=>by
  obtain⟨i,hit,hl,r⟩:=qz1
  have hl':s.heap.IsTuple l vs.toArray:=⟨_,I.sub _ _ hl,rfl,_,rfl⟩
  obtain⟨v,hv,rv⟩:=r.get (k:=0) (d:=d) rfl
  have hx:vs[i]?=some v:=by simpa using hv
  refine wpAny_pyNext_tuple_item hit hl' (x:=v) (by simpa using hx) λh' hit' hs=>⟨v,rfl,iw (λr a e _=>?_) ⟨σ.g,?_,Ext.heap (tk:=s.toks) λa o e hw=>(hs.2 a hw).trans e,λa ha=>(hW a ha).1,rv,i+1,hit',hl,?_⟩⟩
  ·cases e
   obtain⟨o,ho,hc,_⟩:=hit'
   exact⟨o,ho,λn e=>by rw[hc]at e;cases e;decide⟩
  ·exact Mine.Inv.heap (W:=λa=>a=it) (tk:=s.toks) I (λa o e hw=>(hs.2 a hw).trans e) λa e=>⟨(hW a e).2,(hW a e).1⟩
  ·have:vs.drop (i+1)=(vs.drop i).drop 1:=by rw[List.drop_drop]
   rw[this];exact r.drop 1
 stop:=λ{σ s} I qz1 hW=>by
  obtain⟨i,hit,hl,r⟩:=qz1
  have hl':s.heap.IsTuple l vs.toArray:=⟨_,I.sub _ _ hl,rfl,_,rfl⟩
  have hx:vs[i]?=none:=by
   have:=r.length
   rw[List.length_drop,List.length_nil]at this
   exact List.getElem?_eq_none_iff.mpr (by(first|lia|omega))
  exact wpAny_pyNext_tuple_end hh hit hl' (by simpa using hx) λh' hs=>⟨rfl,Mine.Inv.heap (W:=λa=>a=it) (tk:=s.toks) I (λa o e hw=>hs a o hw e) λa e=>⟨(hW a e).2,(hW a e).1⟩,Ext.heap (tk:=s.toks) λa o e hw=>hs a o hw e⟩
 frame:=λ⟨i,⟨o,ho,r1⟩,hl,r⟩ hle _ _ hk _=>⟨i,⟨o,hk _ _ rfl ho,r1⟩,hle _ _ hl,r.mono hle⟩
 there:=λ⟨i,⟨o,ho,_⟩,_,_⟩ a e=>⟨o,e▸ho⟩
theorem vE(hh:A.handled=none)(it:Addr):IterAt X A tgt (.ref it) (λa=>a=it) NoG
  (λ_ ds s=>∃(x:Int) (n:Nat),IsRangeIter s.heap it x n 1∧ds=(List.range n).map λ(k:Nat)=>D.int (x+k)) where
 self:=λ⟨i,n,hit,_⟩ _ k=>wpAny_pyIter_rangeiter hit k
 step:=λ{σ s d ds} I qz1 hW=>by
  obtain⟨x,n,hit,e⟩:=qz1
  cases n with
  | zero=>cases e
  | succ n=>
   rw[List.range_succ_eq_map,List.map_cons]at e
   obtain⟨rfl,rfl⟩:=List.cons.inj e
   refine wpAny_pyNext_range_item hit (by(first|lia|omega)) λh' hit' hs=>⟨_,rfl,iw (λr a e _=>?_) ⟨σ.g,?_,Ext.heap λa o e hw=>(hs.2 a hw).trans e,λa ha=>(hW a ha).1,?_,x+1,n,?_,?_⟩⟩
   ·cases e
    exact⟨_,hit',λn e=>by cases e;decide⟩
   ·exact Mine.Inv.heap (W:=λa=>a=it) I (λa o e hw=>(hs.2 a hw).trans e) λa e=>⟨(hW a e).2,(hW a e).1⟩
   ·have:x+(0:Nat)=x:=by(first|lia|omega)
    rw[this];exact .int _ _
   ·have:((n+1:Nat):Int) - 1=(n:Int):=by(first|lia|omega)
    rw[this]at hit';exact hit'
   ·rw[List.map_map]
    apply List.map_congr_left
    intro k _
    show D.int (x+((k+1:Nat):Int))=D.int (x+1+k)
    congr 1;(first|lia|omega)
 stop:=λ{σ s} I qz1 hW=>by
  obtain⟨x,n,hit,e⟩:=qz1
  have hn:n=0:=by
   have:=congrArg List.length e
   simp at this;(first|lia|omega)
  subst hn
  exact wpAny_pyNext_range_end hh hit (by(first|lia|omega)) λh' hs=>⟨rfl,Mine.Inv.heap (W:=λa=>a=it) (tk:=s.toks) I (λa o e hw=>hs a o hw e) λa e=>⟨(hW a e).2,(hW a e).1⟩,Ext.heap (tk:=s.toks) λa o e hw=>hs a o hw e⟩
 frame:=λ⟨x,n,hit,e⟩ _ _ _ hk _=>⟨x,n,hk _ _ rfl hit,e⟩
 there:=λ⟨x,n,hit,e⟩ a ea=>⟨_,ea▸hit⟩
noncomputable def cE(p:PE):PL:=λΓ c=>(p Γ c).bind λ(a,c1)=>match a with
 | .lst ds=>some (ds,c1)
 | .tup ds=>some (ds,c1)
 | _=>none
theorem eN{e:Expr}{p:PE}(hr:Room A 8)(h1:SoundE X A ft env e p):et X A ft env tgt e (cE p):=λΓ σ s ds c' I F h=>by
 (refine bE2 h ?_;(try clear h);intro a c1 e1 h)
 refine h1.use I F e1 λv σ1 s1 q1 I1 x1 F1 r1=>?_
 subst q1
 have nn:s1.heap.get? s1.heap.objs.size=none:=get?_push_none
 have back:∀a,s1.heap.get? a=none→s.heap.get? a=none:=by
  intro a e
  cases q:s.heap.get? a with
  | none=>rfl
  | some o=>
   exfalso
   by_cases ho:a∈σ.own
   ·obtain⟨m,hm,_⟩:=x1.own
    obtain⟨o',e'⟩:=I1.mem (a:=a) (by rw[hm];exact List.mem_append_left _ ho)
    rw[e']at e;cases e
   ·rw[x1.keep a o q ho (λh=>h)]at e;cases e
 dsimp only at h
 (first|(refine iE h ?_ ?_<;>(clear h;intro _ h))|split at h)
 ·cases h
  cases r1 with
  | lst e r=>
   rename_i l vs n
   have hl:s1.heap.IsList l vs.toArray:=⟨_,I1.sub _ _ e,rfl,_,rfl⟩
   obtain⟨I2,x2⟩:=jT (o:={ cls:=.type "list_iterator",data:=.fields #[.ref l,.int 0 0] }) (tk:=s1.toks) I1
   refine wpAny_pyIter_list hl (PostI.of ⟨σ1,_,_,_,rfl,I2,x1.trans I1 x2,xK hr.hand s1.heap.objs.size l vs n ?_,⟨0,⟨_,Heap.get?_push_size _ rfl,rfl,rfl⟩,e,r⟩,?_,λ_ h=>h.elim⟩)
   ·rintro rfl;rw[I1.sub _ _ e]at nn;cases nn
   ·rintro a rfl
    exact⟨back _ nn,(I1.notIn nn).2,(I1.notIn nn).1⟩
 ·cases h
  cases r1 with
  | tup e r=>
   rename_i l vs n
   have hl:s1.heap.IsTuple l vs.toArray:=⟨_,I1.sub _ _ e,rfl,_,rfl⟩
   obtain⟨I2,x2⟩:=jT (o:={ cls:=.type "tuple_iterator",data:=.fields #[.ref l,.int 0 0] }) (tk:=s1.toks) I1
   refine wpAny_pyIter_tuple hl (PostI.of ⟨σ1,_,_,_,rfl,I2,x1.trans I1 x2,vF hr.hand s1.heap.objs.size l vs n ?_,⟨0,⟨_,Heap.get?_push_size _ rfl,rfl,rfl⟩,e,r⟩,?_,λ_ h=>h.elim⟩)
   ·rintro rfl;rw[I1.sub _ _ e]at nn;cases nn
   ·rintro a rfl
    exact⟨back _ nn,(I1.notIn nn).2,(I1.notIn nn).1⟩
 ·cases h
theorem Ext.back{W:Addr→Prop}{Wg:Nat→Prop}{σ1:Sg}{s1:Shared}(I1:X.Inv σ1 s1)(x1:Ext W Wg σ s σ1 s1){a:Addr}(e:s1.heap.get? a=none):s.heap.get? a=none∨W a:=by
 cases q:s.heap.get? a with
 | none=>exact .inl rfl
 | some o=>
  by_cases hw:W a
  ·exact .inr hw
  ·exfalso
   by_cases ho:a∈σ.own
   ·obtain⟨m,hm,_⟩:=x1.own
    obtain⟨o',e'⟩:=I1.mem (a:=a) (by rw[hm];exact List.mem_append_left _ ho)
    rw[e']at e;cases e
   ·rw[x1.keep a o q ho hw]at e;cases e
noncomputable def bH(tg:Tg)(body:PS):List D→List Slot→List Cell→Option (Fl×List Slot×List Cell)
 | [],Γ,c=>some (.next,Γ,c)
 | d::ds,Γ,c=>(dU tg d Γ).bind λΓ1=>(body Γ1 c).bind λ(f,Γ2,c2)=>match f with
  | .next=>bH tg body ds Γ2 c2
  | .cont=>bH tg body ds Γ2 c2
  | .brk=>some (.brk,Γ2,c2)
  | .ret d=>some (.ret d,Γ2,c2)
noncomputable def fF(tg:Tg)(src:PL)(body orelse:PS):PS:=λΓ c=>(src Γ c).bind λ(ds,c1)=>(bH tg body ds Γ c1).bind λ(f,Γ2,c2)=>match f with
 | .next=>orelse Γ2 c2
 | .brk=>some (.next,Γ2,c2)
 | .cont=>none
 | .ret d=>some (.ret d,Γ2,c2)
theorem Ext.narrow{V V':Addr→Prop}{Wg:Nat→Prop}{σ':Sg}{s':Shared}(x:Ext V Wg σ s σ' s')(h:∀a,V a→V' a∨s.heap.get? a=none):Ext V' Wg σ s σ' s':=
 ⟨x.le,let ⟨m,o,f⟩:=x.own;⟨m,o,λa ha=>(f a ha).elim .inl λq=>(h a q).elim .inr .inl⟩,λa o e n=>(x.fresh a o e n).elim .inl λq=>q.elim (λq=>.inr (.inl q)) λq=>(h a q).elim (λq=>.inr (.inr q)) .inl,
  λa o e n hw=>x.keep a o e n λq=>(h a q).elim hw λq=>(by rw[q]at e;cases e),x.gens,x.os⟩
theorem Ext.join{V V2:Addr→Prop}{Wg:Nat→Prop}{σ1 σ2:Sg}{s1 s2:Shared}(I:X.Inv σ1 s1)(x:Ext V Wg σ s σ1 s1)(y:Ext V2 Wg σ1 s1 σ2 s2)(h:∀a,V2 a→V a∨s.heap.get? a=none):Ext V Wg σ s σ2 s2:=
 Ext.narrow ((x.weaken (W':=λa=>V a∨V2 a) (λ_ q=>.inl q) λ_ q=>q).trans I (y.weaken (λ_ q=>.inr q) λ_ q=>q)) λa q=>q.elim .inl (h a)
theorem Frm.there{h:Heap}(F:Frm ft env Γ σ h){a:Addr}(hw:FW ft env a):∃o,h.get? a=some o:=by
 rcases hw with rfl|⟨i,x,h1,h2⟩
 ·obtain⟨m,hn,_⟩:=F.loc;exact Heap.Ns.there hn
 ·obtain⟨c,hc,ov,⟨o,ho,_⟩,_⟩:=F.cel i x _ h1 (by intro q;cases q)
  rw[h2]at hc;cases hc;exact⟨o,ho⟩
theorem Frm.thereC{h:Heap}(F:Frm ft env Γ σ h){i:Nat}{y:Str}{k:VK}{c:Addr}(hi:ft.nt[i]?=some (y,k))(hk:k≠.l)(hc:env.cells.lookup y=some c):∃o,h.get? c=some o:=by
 obtain⟨c',hc',ov,⟨o,ho,_⟩,_⟩:=F.cel i y k hi hk
 rw[hc]at hc';cases hc';exact⟨o,ho⟩
theorem Frm.thereL{h:Heap}(F:Frm ft env Γ σ h):∃o,h.get? env.locals=some o:=by
 obtain⟨_,hn,_⟩:=F.loc
 exact Heap.Ns.there hn
theorem Ext.stay{V:Addr→Prop}{Wg:Nat→Prop}{σ':Sg}{s':Shared}{a:Addr}{o:Obj}(x:Ext V Wg σ s σ' s')(ho:s.heap.get? a=some o)(hg:σ.g.get? a=none)(hn:a∉σ.own)(hv:¬V a):σ'.g.get? a=none∧a∉σ'.own:=by
 constructor
 ·cases q:σ'.g.get? a with
  | none=>rfl
  | some o'=>exact((x.fresh a o' q hg).elim (λh=>nE (h.symm.trans ho)) λh=>h.elim hn hv).elim
 ·obtain⟨m,hm,hf⟩:=x.own
  rw[hm]
  exact λq=>(List.mem_append.mp q).elim hn λq=>(hf a q).elim (λh=>nE (h.symm.trans ho)) hv
structure IsOff (ft:FT) (env:Env) (W:Addr→Prop):Prop where
 l:¬W env.locals
 c:∀(i:Nat) (y:Str) (k:VK) (c:Addr),ft.nt[i]?=some (y,k)→k≠.l→env.cells.lookup y=some c→¬W c
theorem IsOff.grow{W W₁:Addr→Prop}{Γ₀:List Slot}{σ₀:Sg}{h:Heap}(hW:IsOff ft env W)(F₀:Frm ft env Γ₀ σ₀ h)(h1:∀a,W₁ a→W a∨h.get? a=none):IsOff ft env W₁:=
 ⟨λhw=>(h1 _ hw).elim hW.l λq=>F₀.thereL.elim λ_ e=>nE (q.symm.trans e),λi y k c hi hk hc hw=>(h1 _ hw).elim (hW.c i y k c hi hk hc) λq=>(F₀.thereC hi hk hc).elim λ_ e=>nE (q.symm.trans e)⟩
theorem IsOff.fw{W:Addr→Prop}(hW:IsOff ft env W){a:Addr}(hw:W a)(hf:FW ft env a):False:=by
 rcases hf with e|⟨i,x,g1,g2⟩
 ·exact hW.l (e▸hw)
 ·exact hW.c i x _ a g1 (λq=>VK.noConfusion q) g2 hw
noncomputable def wk(R:Result→Shared→Prop)(I:Nat→Shared→Prop)(n:Nat)(f:Flow)(s:Shared):Prop:=match f with
 | .next|.cont=>∃m,m<n∧I m s
 | .brk=>R (.ok .next) s
 | .ret v=>R (.ok (.ret v)) s
noncomputable abbrev nY(M:Model)(A:Around)(tgt:Expr)(it:Value)(body orelse:List Stmt)(env:Env)(R:Result→Shared→Prop)(I:Nat→Shared→Prop)(n:Nat)(s:Shared):Prop:=
 wpAny M A (pyNext it) (λr s₁=>match r with
   | none=>wpAny M A (execs orelse env) (λf s₃=>R (.ok f) s₃) (notedBy M A env λe s'=>R (.error e) s') s₁
   | some v=>wpAny M A (letOwnedTupleGo tgt it v) (λ_ s₁'=>
     wpAny M A (assign tgt env v) (λ_ s₂=>wpAny M A (execs body env) (wk R I n) (notedBy M A env λe s'=>R (.error e) s') s₂) (notedBy M A env λe s'=>R (.error e) s') s₁') (notedBy M A env λe s'=>R (.error e) s') s₁) (notedBy M A env λe s'=>R (.error e) s') s
theorem up0{M:Model}{α:Type}{m:Sem α}{Q:α→Shared→Prop}{E:Value→Shared→Prop}(h:wpAny M A m Q NoE s):wpAny M A m Q E s:=wpAny_mono h (λ_ _ q=>q) λ_ _ f=>f.elim
theorem zh{M:Model}{it:Value}{body orelse:List Stmt}{R:Result→Shared→Prop}{I:Nat→Shared→Prop}{n:Nat}{P:Shared→Prop}(h:wpAny M A (pyNext it) (λr s1=>r=none∧P s1) NoE s)
  (k:∀s1,P s1→wpAny M A (execs orelse env) (λf s3=>R (.ok f) s3) NoE s1):nY M A tgt it body orelse env R I n s:=
 up0 (wpAny_mono h (λr s1 q=>by rw[q.1];exact up0 (k s1 q.2)) λ_ _ f=>f)
theorem we{M:Model}{it:Value}{body orelse:List Stmt}{R:Result→Shared→Prop}{I:Nat→Shared→Prop}{n:Nat}{P:Value→Shared→Prop}
  (h:wpAny M A (pyNext it) (λr s1=>∃v,r=some v∧wpAny M A (letOwnedTupleGo tgt it v) (λ_ s'=>P v s') NoE s1) NoE s)
  (k:∀v s2,P v s2→wpAny M A (assign tgt env v) (λ_ s3=>wpAny M A (execs body env) (wk R I n) NoE s3) NoE s2):nY M A tgt it body orelse env R I n s:=
 up0 (wpAny_mono h (λr s1 q=>by
  obtain⟨v,e,q⟩:=q
  rw[e]
  exact up0 (wpAny_mono q (λ_ s2 q=>up0 (wpAny_mono (k v s2 q) (λ_ s3 q=>up0 q) λ_ _ f=>f)) λ_ _ f=>f)) λ_ _ f=>f)
noncomputable def B3(qo:PS):Fl×List Slot×List Cell→Option (Fl×List Slot×List Cell):=λ(f,Γ2,c2)=>match f with
 | .next=>qo Γ2 c2
 | .brk=>some (.next,Γ2,c2)
 | .cont=>none
 | .ret d=>some (.ret d,Γ2,c2)
structure FS (X:Cx) (ft:FT) (env:Env) (W:Addr→Prop) (Wg:Nat→Prop) (J:(Addr→Prop)→Heap→List D→Shared→Prop) (σ₀:Sg) (s₀:Shared) (tg:Tg) (q qo:PS) (res:Fl×List Slot×List Cell) (ds:List D) (Γ:List Slot) (σ:Sg) (W₁:Addr→Prop) (s:Shared):Prop where
 hW1:∀a,W₁ a→W a∨s₀.heap.get? a=none
 I:X.Inv σ s
 x:Ext (λa=>FW ft env a∨W a) Wg σ₀ s₀ σ s
 F:Frm ft env Γ σ s.heap
 j:J W₁ σ.g ds s
 hW:∀a,W₁ a→σ.g.get? a=none∧a∉σ.own
 run:(bH tg q ds Γ σ.sto).bind (B3 qo)=some res
theorem xa{it:Value}{body orelse:List Stmt}{tg:Tg}{q qo:PS}{W W₁:Addr→Prop}{Wg:Nat→Prop}{J:(Addr→Prop)→Heap→List D→Shared→Prop}{fl:Fl}{σ₀:Sg}{s₀:Shared}{ds:List D}{K:Nat→Shared→Prop}
  (hI:lM X A tgt it Wg J) (hT:dJ X A ft env tgt tg) (hb:bj X A ft env body q) (ho:bj X A ft env orelse qo) (off:∀{W₁:Addr→Prop},(∀a,W₁ a→W a∨s₀.heap.get? a=none)→IsOff ft env W₁) {R:Result→Shared→Prop}
  (hR:∀f σ' s',σ'.sto=c'→X.Inv σ' s'→Ext (λa=>FW ft env a∨W a) Wg σ₀ s₀ σ' s'→Frm ft env Γ' σ' s'.heap→BC σ' f fl→R (.ok f) s')
  (hK:∀{ds Γ σ W₁ s},FS X ft env W Wg J σ₀ s₀ tg q qo (fl,Γ',c') ds Γ σ W₁ s→K ds.length s) (S:FS X ft env W Wg J σ₀ s₀ tg q qo (fl,Γ',c') ds Γ σ W₁ s):nY X.M A tgt it body orelse env R K ds.length s:=by
 obtain⟨hW1,I,x,F,j,hW,run⟩:=S
 have o1:=off hW1
 have upF:∀a,W₁ a→(FW ft env a∨W a)∨s₀.heap.get? a=none:=λa q=>(hW1 a q).elim (λq=>.inl (.inr q)) .inr
 cases ds with
 | nil=>
  refine zh (hI.stop I j hW) λs1 q=>wpAny_mono (ho Γ σ s1 fl Γ' c' q.1 (F.extW q.2 o1.l o1.c) run) (λf s2 q2=>?_) λ_ _ f=>f
  obtain⟨σ2,q2,I2,x2,F2,r2⟩:=q2
  exact hR f σ2 s2 q2 I2 ((x.join I q.2 upF).trans q.1 (x2.weaken (λ_ h=>.inl h) λ_ h=>h.elim)) F2 r2
 | cons d ds=>
  refine we (hI.step I j hW) λv s2 q=>?_
  obtain⟨g',W₂,hW2,I2,x2,w2,r2,j2⟩:=q
  have hW2':∀a,W₂ a→W a∨s₀.heap.get? a=none:=λa q=>(hW2 a q).elim (hW1 a) λq=>(Ext.back I x q).elim .inr λq'=>q'.elim (λh=>(F.there h).elim λ_ e=>nE (q.symm.trans e)) .inl
  have F2:Frm ft env Γ ⟨g',σ.own,σ.sto⟩ s2.heap:=F.extW x2 o1.l o1.c
  have x02:=x.join I x2 upF
  have own':∀a,W₂ a→a∉σ.own:=λa h=>(hW2 a h).elim (λq=>(hW a q).2) λq=>(I.notIn q).1
  have o2:=off hW2'
  clear upF hW1 hW2 x o1 F
  refine bE3 run λf Γ2 c2 e2 run=>bE e2 λΓ1 e1 e2=>bE3 e2 λf1 Γ3 c3 e3 e2=>?_
  refine wpAny_mono (hT Γ ⟨g',σ.own,σ.sto⟩ s2 d v Γ1 I2 F2 r2 e1) (λ_ s3 q=>wpAny_mono (hb Γ1 ⟨g',σ.own,σ.sto⟩ s3 f1 Γ3 c3 q.1 q.2.2 e3) (λfw s4 p=>?_) λ_ _ f=>f) λ_ _ f=>f
  obtain⟨I3,x3,F3⟩:=q
  obtain⟨σ4,q4,I4,x4,F4,r4⟩:=p
  have x04:=(x02.trans I2 (x3.weaken (λ_ h=>.inl h) λ_ h=>h.elim)).trans I3 (x4.weaken (λ_ h=>.inl h) λ_ h=>h.elim)
  have x24:=x3.trans I3 x4
  have go:(bH tg q ds Γ3 c3).bind (B3 qo)=some (fl,Γ',c')→∃m,m<(d::ds).length∧K m s4:=λrun=>⟨ds.length,Nat.lt_succ_self _,hK
   { hW1:=hW2',I:=I4,x:=x04,F:=F4,run:=(by rw[q4];exact run),j:=hI.frame j2 x24.le I2.sub I4.sub (λa o hw e=>x24.keep a o e (own' a hw) λh=>o2.fw hw h) λi y _ e=>x24.gens i y e λh=>h,hW:=λa hw=>(hI.there j2 a hw).elim λo ho'=>x24.stay ho' (w2 a hw) (own' a hw) λh=>o2.fw hw h }⟩
  clear hK x02 x24 x3 x4 j2 w2
  have run':=run
  cases f1 with
  | next=>cases fw with
   | next=>exact go (by rw[show bH tg q ds Γ3 c3=some (f,Γ2,c2)from e2];exact run)
   | _=>exact False.elim r4
  | cont=>cases fw with
   | cont=>exact go (by rw[show bH tg q ds Γ3 c3=some (f,Γ2,c2)from e2];exact run)
   | _=>exact False.elim r4
  | brk=>cases fw with
   | brk=>cases e2;cases run;exact hR .next σ4 s4 q4 I4 x04 F4 trivial
   | _=>exact False.elim r4
  | ret d=>cases fw with
   | ret v=>cases e2;cases run;exact hR _ σ4 s4 q4 I4 x04 F4 r4
   | _=>exact False.elim r4
theorem B4{it:Value}{body orelse:List Stmt}{tg:Tg}{q qo:PS}{W:Addr→Prop}{Wg:Nat→Prop}{J:(Addr→Prop)→Heap→List D→Shared→Prop}{fl:Fl}{σ₀:Sg}{s₀:Shared}{ds₀:List D}{Γ₀:List Slot}
  (hI:lM X A tgt it Wg J) (hT:dJ X A ft env tgt tg) (hb:bj X A ft env body q) (ho:bj X A ft env orelse qo)
  (hWL:¬W env.locals) (hWC:∀(i:Nat) (y:Str) (k:VK) (c:Addr),ft.nt[i]?=some (y,k)→k≠.l→env.cells.lookup y=some c→¬W c)
  (I₀:X.Inv σ₀ s₀) (F₀:Frm ft env Γ₀ σ₀ s₀.heap) (J₀:J W σ₀.g ds₀ s₀) (W₀:∀a,W a→σ₀.g.get? a=none∧a∉σ₀.own)
  (hrun:(bH tg q ds₀ Γ₀ σ₀.sto).bind (B3 qo)=some (fl,Γ',c')) {R:Result→Shared→Prop}
  (hR:∀f σ' s',σ'.sto=c'→X.Inv σ' s'→Ext (λa=>FW ft env a∨W a) Wg σ₀ s₀ σ' s'→Frm ft env Γ' σ' s'.heap→BC σ' f fl→R (.ok f) s') :
  codeAny X.M A (.forLoop tgt it body orelse env) R s₀:=
 codeAny_forLoop_any (λn s=>∃ds Γ σ W₁,ds.length=n∧FS X ft env W Wg J σ₀ s₀ tg q qo (fl,Γ',c') ds Γ σ W₁ s)
  (λn s qz1=>by
   obtain⟨ds,Γ,σ,W₁,e,S⟩:=qz1
   subst e
   exact xa hI hT hb ho (IsOff.grow ⟨hWL,hWC⟩ F₀) hR (λS=>⟨_,_,_,_,rfl,S⟩) S) ds₀.length ⟨ds₀,Γ₀,σ₀,W,rfl,λ_ q=>.inl q,I₀,.refl _ _ _ _,F₀,J₀,W₀,hrun⟩
theorem jX{iter:Expr}{body orelse:List Stmt}{pos:Pos}{tg:Tg}{src:PL}{q qo:PS}(hr:Room A 8)(h1:et X A ft env tgt iter src)(hT:dJ X A ft env tgt tg)(hb:bj X A ft env body q)(ho:bj X A ft env orelse qo)
  (hs:autoParam (∀env x,foldedSetIterable iter env x=pure x) aR):aN X A ft env (.For tgt iter body orelse pos) (fF tg src q qo):=λΓ σ s fl Γ' c' I F h=>by
 (refine bE2 h ?_;(try clear h);intro ds c1 e1 h)
 refine wpAny_For (wpAny_mono (h1 Γ σ s ds c1 I F e1) (λx s1 h2=>wpAny_mono h2 (λit s2 h3=>?_) λ_ _ f=>f) λ_ _ f=>f) (hs env)
 obtain⟨σ2,W,Wg,J,q2,I2,x2,hI,j2,w2,wg2⟩:=h3
 subst q2
 have F2:=F.ext x2
 have hWL:¬W env.locals:=by
  intro hw
  obtain⟨m,hn,_⟩:=F.loc
  obtain⟨o,e⟩:=Heap.Ns.there hn
  rw[(w2 _ hw).1]at e;cases e
 have hWC:∀(i:Nat) (y:Str) (k:VK) (c:Addr),ft.nt[i]?=some (y,k)→k≠.l→env.cells.lookup y=some c→¬W c:=by
  intro i y k c e hk hc hw
  obtain⟨c',hc',ov,⟨o,ho',_⟩,_⟩:=F.cel i y k e hk
  rw[hc]at hc';cases hc'
  rw[(w2 _ hw).1]at ho';cases ho'
 refine B4 hI hT hb ho hWL hWC I2 F2 j2 (λa h=>(w2 a h).2) h λf σ' s' q' I' x' F' r'=>⟨σ',q',I',?_,F',r'⟩
 have xx:=(x2.up (W:=λa=>FW ft env a∨W a) (Wg:=Wg)).trans I2 x'
 refine⟨xx.le,?_,?_,?_,?_,xx.os⟩
 ·obtain⟨m,hm,hf⟩:=xx.own
  exact⟨m,hm,λa ha=>(hf a ha).elim .inl λq=>q.elim .inr λq=>.inl (w2 a q).1⟩
 ·intro a o e n
  rcases xx.fresh a o e n with h|h|h|h
  ·exact .inl h
  ·exact .inr (.inl h)
  ·exact .inr (.inr h)
  ·exact .inl (w2 a h).1
 ·intro a o e n hw
  refine xx.keep a o e n λq=>q.elim hw λq=>?_
  rw[(w2 a q).1]at e;cases e
 ·intro i y e _
  refine xx.gens i y e λq=>?_
  rw[wg2 i q]at e;cases e
noncomputable def eh(t:PB)(body:PS):Nat→List Slot→List Cell→Option (Fl×List Slot×List Cell)
 | 0,_,_=>none
 | n+1,Γ,c=>(t Γ c).bind λ(b,c1)=>if b then(body Γ c1).bind λ(f,Γ2,c2)=>match f with
   | .next=>eh t body n Γ2 c2
   | .cont=>eh t body n Γ2 c2
   | .brk=>some (.next,Γ2,c2)
   | .ret d=>some (.ret d,Γ2,c2)
  else some (.next,Γ,c1)
noncomputable def yN(n:Nat)(t:PB)(body:PS):PS:=eh t body n
theorem CG{n:Nat}{test:Expr}{body:List Stmt}{pos:Pos}{t:PB}{q:PS}(hr:Room A 8)(ht:SoundB X A ft env test t)(hb:bj X A ft env body q):aN X A ft env (.While test body [] pos) (yN n t q):=λΓ₀ σ₀ s₀ fl Γ' c' I₀ F₀ h=>by
 refine wpAny_While (codeAny_whileLoop (λn s=>∃Γ σ,X.Inv σ s∧Ext (FW ft env) NoG σ₀ s₀ σ s∧Frm ft env Γ σ s.heap∧eh t q n Γ σ.sto=some (fl,Γ',c')) ?_ n ⟨Γ₀,σ₀,I₀,.refl _ _ _ _,F₀,h⟩)
 rintro n s ⟨Γ,σ,I,x,F,run⟩
 cases n with
 | zero=>cases run
 | succ n=>
  (refine bE2 run ?_;(try clear run);intro b c1 e1 run)
  refine wpAny_mono (ht.use (Q:=λb s₂=>if b=true then _ else _) I F e1 λσ1 s1 q1 I1 x1 F1=>?_) (λ_ _ h=>h) λ_ _ f=>f.elim
  subst q1
  cases b with
  | false=>
   cases run
   simp only[Bool.false_eq_true,if_false]
   exact wpAny_execs_nil ⟨σ1,rfl,I1,x.trans I x1.up,F1,trivial⟩
  | true=>
   simp only[if_true]at run⊢
   (refine bE3 run ?_;(try clear run);intro f Γ2 c2 e2 run)
   refine wpAny_mono (hb Γ σ1 s1 f Γ2 c2 I1 F1 e2) (λfw s2 qz1=>?_) λ_ _ f=>f.elim
   obtain⟨σ2,q2,I2,x2,F2,r2⟩:=qz1
   subst q2
   have x02:=(x.trans I x1.up).trans I1 x2
   dsimp only at run
   cases f with
   | next=>cases fw<;>cases r2;exact⟨n,Nat.lt_succ_self _,Γ2,σ2,I2,x02,F2,run⟩
   | cont=>cases fw<;>cases r2;exact⟨n,Nat.lt_succ_self _,Γ2,σ2,I2,x02,F2,run⟩
   | brk=>cases fw<;>cases r2;cases run;exact⟨σ2,rfl,I2,x02,F2,trivial⟩
   | ret d=>
    cases fw<;>first|(cases r2;done)|skip
    cases run
    exact⟨σ2,rfl,I2,x02,F2,r2⟩
end
end Mine
namespace Mine
section
variable{X:Cx}{A:Around}{ft:FT}{env:Env}{Γ Γ':List Slot}{σ:Sg}{s:Shared}{d:D}{c':List Cell}{tgt:Expr}
theorem l7{elts:List Expr}{x1:Nat}{pos:Pos}(e it:Addr)(fp:List Addr)(n:Nat)(P:Nat→Value→Prop)(St:Nat→Heap→Prop)(Kp:Heap→Prop)(dv:Nat→D)
  (DD:Draws X.prog X.w A.in1 it fp n P St) (hne:e≠it) (hef:e∉fp)
  (hval:∀g i x,Kp g→P i x→Rel g x (dv i)) (hmono:∀g g',Kp g→Le g g'→Kp g') (hfp:∀g,Kp g→∀b∈fp,b=it∨∃o,g.get? b=some o) :
  IterAt X A (.Tuple elts x1 pos) (.ref e) (λa=>a=e∨a=it) NoG
   (λg ds s=>∃(i:Nat) (old:Value),IsEnum s.heap e it i old∧St i s.heap∧i≤n∧Kp g∧ds=(List.range (n - i)).map λ(k:Nat)=>D.tup [.int ((i+k:Nat):Int),dv (i+k)]) where
 self:=λ⟨i,old,he,_⟩ _ k=>wpAny_pyIter_enum he k
 step:=λ{σ s d ds} I qz1 hW=>by
  obtain⟨i,old,he,hst,hin,hk,eq⟩:=qz1
  have hlt:i<n:=by
   apply Nat.lt_of_not_le
   intro h
   have:n - i=0:=by(first|lia|omega)
   rw[this]at eq;cases eq
  have e1:n - i=(n - (i+1))+1:=by(first|lia|omega)
  rw[e1,List.range_succ_eq_map,List.map_cons]at eq
  obtain⟨rfl,rfl⟩:=List.cons.inj eq
  refine wpAny_with_toks (n:=s.toks) (Nat.le_refl _) (wpAny_pyNext_enum_itemD DD he hst hlt hne hef λx h' tk hp heo hst' ht hz hkeep htk=>⟨_,rfl,?_⟩)
  have nn:s.heap.get? s.heap.objs.size=none:=get?_push_none
  have hs1:s.heap.objs.size≠e:=by
   intro q
   rw[q]at nn
   rw[show s.heap.get? e=_ from he]at nn;cases nn
  refine wpAny_letOwnedTupleGo_enum heo λh'' he'' hsb=>?_
  have htk':s.toks≤tk+1:=htk
  have keep:∀a o,s.heap.get? a=some o→¬(a=e∨a=it)→h''.get? a=some o:=λa o q hw=>(hsb.2 a λz=>hw (.inl z)).trans (hkeep a o (λz=>hw (.inl z)) (λz=>hw (.inr z)) q)
  have I1:X.Inv σ { s with heap:=h'',toks:=tk+1 }:=Mine.Inv.heap (W:=λa=>a=e∨a=it) I keep (λa q=>⟨(hW a q).2,(hW a q).1⟩) htk'
  obtain⟨n1,n2⟩:=I.notIn nn
  have ht':h''.get? s.heap.objs.size=some (fW (List.toArray [.int i tk,x]) 0):=(hsb.2 _ hs1).trans ht
  have hle:Le σ.g (cR σ.g s.heap.objs.size (fW (List.toArray [.int i tk,x]) 0)):=.put n2
  have hsz:∀a,(a=e∨a=it)→a≠s.heap.objs.size:=by
   rintro a (rfl|rfl) q
   ·exact hs1 q.symm
   ·obtain⟨o,ho⟩:=DD.live i _ hst
    rw[←q,ho]at nn;cases nn
  refine⟨cR σ.g s.heap.objs.size (fW (List.toArray [.int i tk,x]) 0),I1.add ht' n2 n1,⟨hle,⟨[],by simp,by simp⟩,λa o q h0=>?_,λa o q _ hw=>keep a o q hw,λ_ _ q _=>q,rfl⟩,λa ha=>?_,?_,i+1,x,?_,?_,hlt,hmono _ _ hk hle,?_⟩
  ·by_cases ha:a=s.heap.objs.size
   ·subst ha;exact .inl nn
   ·have q':(cR σ.g s.heap.objs.size (fW (List.toArray [.int i tk,x]) 0)).get? a=some o:=q
    rw[bz ha,h0]at q';cases q'
  ·rw[bz (hsz a ha)];exact(hW a ha).1
  ·refine .tup (dR rfl) (.cons ?_ (.cons ?_ .nil))
   ·exact .int _ _
   ·exact hval _ _ _ (hmono _ _ hk hle) hp
  ·have:((i:Int)+1)=((i+1:Nat):Int):=by(first|lia|omega)
   rw[this]at he'';exact he''
  ·exact DD.frame _ _ _ hst' λb hb o q=>(hsb.2 b λz=>hef (z▸hb)).trans q
  ·rw[List.map_map]
   apply List.map_congr_left
   intro k _
   show D.tup [.int ((i+(k+1):Nat):Int),dv (i+(k+1))]=D.tup [.int ((i+1+k:Nat):Int),dv (i+1+k)]
   rw[show i+(k+1)=i+1+k by(first|lia|omega)]
 stop:=λ{σ s} I qz1 hW=>by
  obtain⟨i,old,he,hst,hin,hk,eq⟩:=qz1
  have hn:i=n:=by
   have:=congrArg List.length eq
   simp at this;(first|lia|omega)
  subst hn
  refine wpAny_pyNext_enum_endD DD he hst λh' hs=>⟨rfl,?_,Ext.heap (tk:=s.toks) λa o q hw=>hs a o (λz=>hw (.inr z)) q⟩
  exact Mine.Inv.heap (W:=λa=>a=e∨a=it) (tk:=s.toks) I (λa o q hw=>hs a o (λz=>hw (.inr z)) q) λa q=>⟨(hW a q).2,(hW a q).1⟩
 frame:=λ{g g' ds s s'} qz1 hle hs hs' hkeep _=>by
  obtain⟨i,old,he,hst,hin,hk,eq⟩:=qz1
  refine⟨i,old,hkeep _ _ (.inl rfl) he,DD.frame _ _ _ hst λb hb o q=>?_,hin,hmono _ _ hk hle,eq⟩
  rcases hfp g hk b hb with rfl|⟨o',ho'⟩
  ·exact hkeep _ _ (.inr rfl) q
  ·have:o=o':=Option.some.inj (q.symm.trans (hs _ _ ho'))
   subst this
   exact hs' _ _ (hle _ _ ho')
 there:=λqz1 a q=>by
  obtain⟨i,old,he,hst,_⟩:=qz1
  rcases q with rfl|rfl
  ·exact⟨_,he⟩
  ·exact DD.live _ _ hst
structure ZJ (z TI TO i1 i2 l1 l2:Addr) (xs ys:List Value) (n1 n2:Nat) (as bs:List D) (g:Heap) (h:Heap) (k:Nat) (a b:Value):Prop where
 hz:IsZip h z TI TO .none
 hTI:IsPair h TI (.ref i1) (.ref i2)
 hTO:IsPair h TO a b
 h1:h.IsListIter i1 l1 k
 h2:h.IsListIter i2 l2 k
 g1:g.get? l1=some (cI xs.toArray n1)
 g2:g.get? l2=some (cI ys.toArray n2)
 r1:RelAll g xs as
 r2:RelAll g ys bs
theorem sJ{α:Type}{as:List α}{k:Nat}{x:α}(h:as[k]?=some x):as.drop k=x::as.drop (k+1):=by
 obtain⟨lt,q⟩:=List.getElem?_eq_some_iff.mp h
 rw[List.drop_eq_getElem_cons lt,q]
theorem CN{as bs:List D}{k:Nat}{d:D}{ds:List D}(eq:d::ds=((as.drop k).zip (bs.drop k)).map λp=>D.tup [p.1,p.2]):∃da db,as[k]?=some da∧bs[k]?=some db∧d=.tup [da,db]∧ds=((as.drop (k+1)).zip (bs.drop (k+1))).map λp=>D.tup [p.1,p.2]:=by
 cases ha:as[k]? with
 | none=>rw[List.drop_eq_nil_of_le (List.getElem?_eq_none_iff.mp ha)]at eq;cases eq
 | some da=>
  cases hb:bs[k]? with
  | none=>rw[List.drop_eq_nil_of_le (as:=bs) (List.getElem?_eq_none_iff.mp hb),List.zip_nil_right]at eq;cases eq
  | some db=>
   rw[sJ ha,sJ hb,List.zip_cons_cons,List.map_cons]at eq
   injection eq with e1 e2
   exact⟨da,db,rfl,rfl,e1,e2⟩
theorem z5{elts:List Expr}{x1:Nat}{pos:Pos}(hh:A.handled=none)(z TI TO i1 i2 l1 l2:Addr)(xs ys:List Value)(n1 n2:Nat)(as bs:List D)(ap:ZipApart z TI TO i1 i2 l1 l2) :
  IterAt X A (.Tuple elts x1 pos) (.ref z) (λa=>a=z∨a=TI∨a=TO∨a=i1∨a=i2) NoG
   (λg ds s=>∃(k:Nat) (a b:Value),ZJ z TI TO i1 i2 l1 l2 xs ys n1 n2 as bs g s.heap k a b∧ds=((as.drop k).zip (bs.drop k)).map λp=>D.tup [p.1,p.2]) where
 self:=λh _ q=>h.elim λ_ h=>h.elim λ_ h=>h.elim λ_ h=>wpAny_pyIter_zip h.1.hz q
 step:=λ{σ s d ds} I qz1 hW=>by
  obtain⟨k,a,b,Z,eq⟩:=qz1
  obtain⟨hz,hTI,hTO,h1,h2,g1,g2,r1,r2⟩:=Z
  have hl1:s.heap.IsList l1 xs.toArray:=⟨_,I.sub _ _ g1,rfl,_,rfl⟩
  have hl2:s.heap.IsList l2 ys.toArray:=⟨_,I.sub _ _ g2,rfl,_,rfl⟩
  obtain⟨da,db,hda,hdb,e1,e2⟩:=CN eq
  subst e1 e2
  clear eq
  obtain⟨x,hx,rx⟩:=r1.get hda
  obtain⟨y,hy,ry⟩:=r2.get hdb
  refine wpAny_pyNext_zip_item ap hz hTI hTO h1 h2 hl1 hl2 (x:=x) (y:=y) (by simpa using hx) (by simpa using hy) λh' hz' hTO' h1' h2' hp hsz hkeep=>⟨_,rfl,?_⟩
  have nn:s.heap.get? s.heap.objs.size=none:=get?_push_none
  refine wpAny_letOwnedTupleGo_zip hz' λh'' hz'' hsb=>?_
  have apart:∀c,(c=z∨c=TI∨c=TO∨c=i1∨c=i2)→c≠s.heap.objs.size:=by
   rintro c (rfl|rfl|rfl|rfl|rfl) q
   ·rw[q]at hz;rw[show s.heap.get? _=_ from hz]at nn;cases nn
   ·rw[q]at hTI;rw[show s.heap.get? _=_ from hTI]at nn;cases nn
   ·rw[q]at hTO;rw[show s.heap.get? _=_ from hTO]at nn;cases nn
   ·obtain⟨o,ho,_⟩:=h1;rw[q,nn]at ho;cases ho
   ·obtain⟨o,ho,_⟩:=h2;rw[q,nn]at ho;cases ho
  have keep:∀c o,s.heap.get? c=some o→¬(c=z∨c=TI∨c=TO∨c=i1∨c=i2)→h''.get? c=some o:=λc o q hw=>
   (hsb.2 c λq=>hw (.inl q)).trans (hkeep c o (λq=>hw (.inl q)) (λq=>hw (.inr (.inr (.inl q)))) (λq=>hw (.inr (.inr (.inr (.inl q))))) (λq=>hw (.inr (.inr (.inr (.inr q))))) q)
  have I1:X.Inv σ { s with heap:=h'',toks:=s.toks }:=Mine.Inv.heap (W:=λc=>c=z∨c=TI∨c=TO∨c=i1∨c=i2) I keep λc q=>⟨(hW c q).2,(hW c q).1⟩
  obtain⟨m1,m2⟩:=I.notIn nn
  have hp':h''.get? s.heap.objs.size=some (fW (List.toArray [x,y]) 0):=(hsb.2 _ λq=>apart z (.inl rfl) q.symm).trans hp
  have hle:Le σ.g (cR σ.g s.heap.objs.size (fW (List.toArray [x,y]) 0)):=.put m2
  have hTI':h'.get? TI=s.heap.get? TI:=by
   rw[show s.heap.get? TI=_ from hTI]
   exact hkeep TI _ ap.TIz ap.TITO ap.TIi1 ap.TIi2 hTI
  refine⟨cR σ.g s.heap.objs.size (fW (List.toArray [x,y]) 0),I1.add hp' m2 m1,⟨hle,⟨[],by simp,by simp⟩,λc o q h0=>?_,λc o q _ hw=>keep c o q hw,λ_ _ q _=>q,rfl⟩,λc hc=>?_,?_,
   k+1,x,y,⟨hz'',?_,?_,h1'.extBut hsb.extBut ap.i1z,h2'.extBut hsb.extBut ap.i2z,hle _ _ g1,hle _ _ g2,r1.mono hle,r2.mono hle⟩,rfl⟩
  ·by_cases hc:c=s.heap.objs.size
   ·subst hc;exact .inl nn
   ·have q':(cR σ.g s.heap.objs.size (fW (List.toArray [x,y]) 0)).get? c=some o:=q
    rw[bz hc,h0]at q';cases q'
  ·rw[bz (apart c hc)];exact(hW c hc).1
  ·exact .tup (dR rfl) (.cons (rx.mono hle) (.cons (ry.mono hle) .nil))
  ·exact(hsb.2 _ ap.TIz).trans (hTI'.trans hTI)
  ·exact(hsb.2 _ ap.TOz).trans hTO'
 stop:=λ{σ s} I qz1 hW=>by
  obtain⟨k,a,b,Z,eq⟩:=qz1
  obtain⟨hz,hTI,hTO,h1,h2,g1,g2,r1,r2⟩:=Z
  have hl1:s.heap.IsList l1 xs.toArray:=⟨_,I.sub _ _ g1,rfl,_,rfl⟩
  have hl2:s.heap.IsList l2 ys.toArray:=⟨_,I.sub _ _ g2,rfl,_,rfl⟩
  have hend:xs.toArray[k]?=none∨ys.toArray[k]?=none:=by
   have hl:=congrArg List.length eq
   simp at hl
   have e1:=r1.length
   have e2:=r2.length
   by_cases q:xs.length≤k
   ·left;simp;(first|lia|omega)
   ·right;simp;(first|lia|omega)
  refine wpAny_pyNext_zip_end hh ap hz hTI hTO h1 h2 hl1 hl2 hend λh' hkeep=>⟨rfl,?_,Ext.heap (tk:=s.toks) λc o q hw=>hkeep c o (λq=>hw (.inl q)) (λq=>hw (.inr (.inr (.inl q)))) (λq=>hw (.inr (.inr (.inr (.inl q))))) (λq=>hw (.inr (.inr (.inr (.inr q))))) q⟩
  exact Mine.Inv.heap (W:=λc=>c=z∨c=TI∨c=TO∨c=i1∨c=i2) (tk:=s.toks) I (λc o q hw=>hkeep c o (λq=>hw (.inl q)) (λq=>hw (.inr (.inr (.inl q)))) (λq=>hw (.inr (.inr (.inr (.inl q))))) (λq=>hw (.inr (.inr (.inr (.inr q))))) q) λc q=>⟨(hW c q).2,(hW c q).1⟩
 frame:=λ{g g' ds s s'} q hle _ _ hkeep _=>by
  obtain⟨k,a,b,Z,eq⟩:=q
  obtain⟨o1,e1,q1⟩:=Z.h1
  obtain⟨o2,e2,q2⟩:=Z.h2
  exact⟨k,a,b,⟨hkeep _ _ (.inl rfl) Z.hz,hkeep _ _ (.inr (.inl rfl)) Z.hTI,hkeep _ _ (.inr (.inr (.inl rfl))) Z.hTO,⟨o1,hkeep _ _ (.inr (.inr (.inr (.inl rfl)))) e1,q1⟩,⟨o2,hkeep _ _ (.inr (.inr (.inr (.inr rfl)))) e2,q2⟩,hle _ _ Z.g1,hle _ _ Z.g2,Z.r1.mono hle,Z.r2.mono hle⟩,eq⟩
 there:=λh c q=>h.elim λk h=>h.elim λa h=>h.elim λb h=>by
  rcases q with q|q|q|q|q<;>rw[q]
  ·exact⟨_,h.1.hz⟩
  ·exact⟨_,h.1.hTI⟩
  ·exact⟨_,h.1.hTO⟩
  ·exact h.1.h1.elim λo e=>⟨o,e.1⟩
  ·exact h.1.h2.elim λo e=>⟨o,e.1⟩
end
end Mine
namespace Mine
noncomputable def e7:List D→Option (List Int)
 | []=>some []
 | .int i::ds=>(e7 ds).map (i::·)
 | _=>none
noncomputable def hZ:List D→Option (List Str)
 | []=>some []
 | .str x::ds=>(hZ ds).map (x::·)
 | _=>none
theorem RelAll.ints{g:Heap}{vs:List Value}{ds:List D}{ns:List Int}(r:RelAll g vs ds)(h:e7 ds=some ns):IntsAre vs ns:=by
 induction ds generalizing vs ns with
 | nil=>cases h;exact r.nilE λe=>e▸.nil
 | cons d ds ih=>
  refine r.consE λv ws e r rs=>?_
  cases d with
  | int i=>exact mE h λms e1 h=>r.intE λt e2=>by rw[e,e2,←h];exact .cons _ _ (ih rs e1)
  | _=>exact nE h
theorem RelAll.strs{g:Heap}{vs:List Value}{ds:List D}{ns:List Str}(r:RelAll g vs ds)(h:hZ ds=some ns):StrsAre vs ns:=by
 induction ds generalizing vs ns with
 | nil=>cases h;exact r.nilE λe=>e▸.nil
 | cons d ds ih=>
  refine r.consE λv ws e r rs=>?_
  cases d with
  | str i=>exact mE h λms e1 h=>r.strE λt e2=>by rw[e,e2,←h];exact .cons _ _ (ih rs e1)
  | _=>exact nE h
theorem qc{g:Heap}{vs:List Value}{ns:List Int}(h:IntsAre vs ns):RelAll g vs (ns.map D.int):=by
 induction h with
 | nil=>exact .nil
 | cons n t _ ih=>exact .cons (.int n t) ih
theorem fP:∀{vs:List Value} {ns:List Int},IntsAre vs ns→∃xs:List (Int×Tok),vs=xs.map (λp=>Value.int p.1 p.2)∧ns=xs.map (·.1)
 | _,_,.nil=>⟨[],rfl,rfl⟩
 | _,_,.cons n t h=>let ⟨xs,e1,e2⟩:=fP h;⟨(n,t)::xs,by rw[e1];rfl,by rw[e2];rfl⟩
theorem preSum_eq(f:Nat→Int):∀n,preSum f n=((List.range n).map f).sum
 | 0=>rfl
 | n+1=>by rw[preSum,preSum_eq f n,List.range_succ,List.map_append,List.sum_append];simp
theorem nk(f:Nat→Int)(B:Int)(hB:0≤B):∀n,(∀j,j<n→-B≤f j∧f j≤B)→-(n*B)≤preSum f n∧preSum f n≤n*B
 | 0,_=>by simp[preSum]
 | n+1,h=>by
  have ih:=nk f B hB n λj hj=>h j (by(first|lia|omega))
  have h1:=h n (by(first|lia|omega))
  have e:((n+1:Nat):Int)*B=n*B+B:=by rw[Int.natCast_add,Int.add_mul];simp
  rw[preSum,e]
  (first|lia|omega)
section
variable{X:Cx}{A:Around}{ft:FT}{env:Env}{Γ Γ':List Slot}{σ:Sg}{s:Shared}{d:D}{c':List Cell}{tgt:Expr}
theorem PostE.kept{h':Heap}{tk:Nat}{v:Value}(I:X.Inv σ s)(keep:∀a o,s.heap.get? a=some o→h'.get? a=some o)(ht:s.toks≤tk)(r:Rel σ.g v d):PostE X σ s d σ.sto v { s with heap:=h',toks:=tk }:=
 ⟨σ,rfl,Mine.Inv.heap (W:=NoW) I (λa o e _=>keep a o e) (λ_ f=>f.elim) ht,Ext.heap λa o e _=>keep a o e,r⟩
theorem oI{h':Heap}{tk:Nat}{a:Addr}{o:Obj}(I:X.Inv σ s)(keep:∀a o,s.heap.get? a=some o→h'.get? a=some o)(ht:s.toks≤tk)(hn:s.heap.get? a=none)(e:h'.get? a=some o) :
  X.Inv ⟨cR σ.g a o,σ.own,σ.sto⟩ { s with heap:=h',toks:=tk }∧Ext NoW NoG σ s ⟨cR σ.g a o,σ.own,σ.sto⟩ { s with heap:=h',toks:=tk }∧Le σ.g (cR σ.g a o)∧(cR σ.g a o).get? a=some o:=by
 obtain⟨n1,n2⟩:=I.notIn hn
 have I1:X.Inv σ { s with heap:=h',toks:=tk }:=Mine.Inv.heap (W:=NoW) I (λa o e _=>keep a o e) (λ_ f=>f.elim) ht
 refine⟨I1.add e n2 n1,⟨.put n2,⟨[],by simp,by simp⟩,λb o' q h0=>?_,λb o' q _ _=>keep b o' q,λ_ _ q _=>q,rfl⟩,.put n2,dR (ku e)⟩
 by_cases hb:b=a
 ·subst hb;exact .inl hn
 ·have q':(cR σ.g a o).get? b=some o':=q
  rw[bz hb,h0]at q';cases q'
theorem PostE.freshL{h':Heap}{tk:Nat}{a:Addr}{vs:List Value}{n:Nat}{ds:List D}(I:X.Inv σ s)(keep:∀a o,s.heap.get? a=some o→h'.get? a=some o)(ht:s.toks≤tk)(hn:s.heap.get? a=none)
  (e:h'.get? a=some (cI vs.toArray n)) (r:RelAll σ.g vs ds):PostE X σ s (.lst ds) σ.sto (.ref a) { s with heap:=h',toks:=tk }:=
 let ⟨I',x,le,e'⟩:=oI I keep ht hn e
 ⟨⟨cR σ.g a (cI vs.toArray n),σ.own,σ.sto⟩,rfl,I',x,.lst e' (r.mono le)⟩
noncomputable def COk(X:Cx)(A:Around)(f:Value)(F:List D→Option D):Prop:=
 ∀σ s vs ds d,X.Inv σ s→RelAll σ.g vs ds→F ds=some d→wpAny X.M A (call f vs) (PostE X σ s d σ.sto) NoE s
noncomputable def bp(F:List D→Option D)(ps:PL):PE:=λΓ c=>(ps Γ c).bind λ(ds,c1)=>(F ds).map λd=>(d,c1)
theorem EG{T:String}{x:Str}{np pos:Pos}{e:Expr}{rest:List Expr}{F:List D→Option D}{ps:PL}(hx:x∈ft.gt)(hn:X.mg x=none)(hb:X.mb x=some (.type T))(hL:SoundL X A ft env pos (e::rest) ps)(hC:COk X A (.type T) F)
  (he:autoParam (∀env,starEach (e::rest) env=(false,eval e env)::starEach rest env) aR) (hp:autoParam (∀env,(backTo pos (starEach rest env)).any (·.1)=false) aR):SoundE X A ft env (.Call (.Name x np) (e::rest) [] pos) (bp F ps):=λΓ σ s d c' I FF h=>by
 (refine bE2 h ?_;(try clear h);intro ds c1 e1 h)
 (refine mE h ?_;(try clear h);intro r e2 h)
 cases h
 refine wpAny_Call_NameR (eval_Name (FF.ok.odd x (List.mem_append_right _ hx)).1 (bZ I FF hx hn hb ?_))
 refine callWith_type1 (hL.use I FF e1 λvs σ1 s1 q1 I1 x1 F1 r1=>?_) (he env) (hp env)
 subst q1
 exact wpAny_mono (hC σ1 s1 vs ds _ I1 r1 e2) (λ_ _ k=>PostE.trans I1 x1 k) λ_ _ f=>f
theorem Cz{id:String}{x:Str}{np pos:Pos}{e:Expr}{rest:List Expr}{F:List D→Option D}{ps:PL}(hx:x∈ft.gt)(hn:X.mg x=none)(hb:X.mb x=some (.builtin id))(hL:SoundL X A ft env pos (e::rest) ps)(hC:COk X A (.builtin id) F)
  (he:autoParam (∀env,starEach (e::rest) env=(false,eval e env)::starEach rest env) aR) (hp:autoParam (∀env,(backTo pos (starEach rest env)).any (·.1)=false) aR):SoundE X A ft env (.Call (.Name x np) (e::rest) [] pos) (bp F ps):=λΓ σ s d c' I FF h=>by
 (refine bE2 h ?_;(try clear h);intro ds c1 e1 h)
 (refine mE h ?_;(try clear h);intro r e2 h)
 cases h
 refine wpAny_Call_NameR (eval_Name (FF.ok.odd x (List.mem_append_right _ hx)).1 (bZ I FF hx hn hb ?_))
 refine callWith_builtin1 (hL.use I FF e1 λvs σ1 s1 q1 I1 x1 F1 r1=>?_) (he env) (hp env)
 subst q1
 exact wpAny_mono (hC σ1 s1 vs ds _ I1 r1 e2) (λ_ _ k=>PostE.trans I1 x1 k) λ_ _ f=>f
theorem EE{x:Str}{pos:Pos}{v:Value}(hx:x∈ft.gt)(hn:X.mg x=none)(hb:X.mb x=some v):SoundE X A ft env (.Name x pos) (mX v):=λΓ σ s d c' I F h=>by
 cases h
 exact eval_Name (F.ok.odd x (List.mem_append_right _ hx)).1 (bZ I F hx hn hb (PostE.same I (.obj _)))
theorem iS{α:Type _}{c:Prop}[Decidable c]{a b:α}{G:Prop}(h:(if c then some a else none)=some b)(k:c→a=b→G):G:=iE h (λq h=>k q (Option.some.inj h)) λ_ h=>nE h
noncomputable def on1{α:Type}(F:D→Option α):List D→Option α
 | [a]=>F a
 | _=>none
noncomputable def on2{α:Type}(F:D→D→Option α):List D→Option α
 | [a,b]=>F a b
 | _=>none
theorem BV{f:Value}{F:D→Option D}(h:∀{σ:Sg} {s:Shared} {v:Value} {a d:D},X.Inv σ s→Rel σ.g v a→F a=some d→wpAny X.M A (call f [v]) (PostE X σ s d σ.sto) NoE s):COk X A f (on1 F):=λσ s vs ds d I r e=>by
 cases r with
 | nil=>exact nE e
 | cons r rs=>cases rs with
  | nil=>exact h I r e
  | cons _ _=>exact nE e
theorem wI{f:Value}{F:D→D→Option D}(h:∀{σ:Sg} {s:Shared} {v w:Value} {a b d:D},X.Inv σ s→Rel σ.g v a→Rel σ.g w b→F a b=some d→wpAny X.M A (call f [v,w]) (PostE X σ s d σ.sto) NoE s):COk X A f (on2 F):=λσ s vs ds d I r e=>by
 cases r with
 | nil=>exact nE e
 | cons r rs=>cases rs with
  | nil=>exact nE e
  | cons r2 rs=>cases rs with
   | nil=>exact h I r r2 e
   | cons _ _=>exact nE e
theorem zB{f:Value}{F:List D→Option D}(h:∀{σ:Sg} {s:Shared} {l:Addr} {vs:List Value} {n:Nat} {ds:List D} {d:D},X.Inv σ s→s.heap.get? l=some (cI vs.toArray n)→RelAll σ.g vs ds→F ds=some d→wpAny X.M A (call f [.ref l]) (PostE X σ s d σ.sto) NoE s) :
  COk X A f (on1 λa=>onL a F):=BV λI r e=>by
 refine r7 r e λl vs n ds q r h'=>?_
 exact h I (I.sub _ _ q) r h'
noncomputable def d9:List D→Option D:=on1 λa=>match a with
 | .str x=>if x.length≤100000 then some (.int x.length)else none
 | .lst ds=>if ds.length≤100000 then some (.int ds.length)else none
 | .tup ds=>if ds.length≤100000 then some (.int ds.length)else none
 | _=>none
theorem ot:COk X A (.builtin "len") d9:=BV λI r e=>by
 cases r with
 | str x t=>
  refine iS e λhl h=>?_
  subst h
  exact P.len_str (by(first|lia|omega)) (PostE.here I (.int _ _))
 | lst q r=>
  refine iS e λhl h=>?_
  subst h
  refine call_len_list ⟨_,I.sub _ _ q,rfl,_,rfl⟩ (by simp only[List.size_toArray,r.length];(first|lia|omega)) ?_
  rw[List.size_toArray,r.length]
  exact PostE.here I (.int _ _)
 | tup q r=>
  refine iS e λhl h=>?_
  subst h
  refine PyProof.Rows.len_tuple ⟨_,I.sub _ _ q,rfl,_,rfl⟩ (by simp only[List.size_toArray,r.length];(first|lia|omega)) ?_
  rw[List.size_toArray,r.length]
  exact PostE.here I (.int _ _)
 | _=>exact nE e
noncomputable def dT(ns:List Int):Bool:=ns.length≤100000 && ns.all λn=>decide (-1000000000≤n) && decide (n≤1000000000)
noncomputable def oF:List D→Option D:=on1 λa=>onL a λds=>(e7 ds).bind λns=>if dT ns then some (.int ns.sum)else none
theorem gW(xs:List (Int×Tok))(i:Nat):numAt xs.toArray i=(xs.map (·.1)).getD i 0:=by
 unfold numAt;simp[List.getD]
theorem zv(hr:Room A 8):COk X A (.builtin "sum") oF:=zB λ{σ s l ws n es d} I e r h=>by
 refine bE h λns e1 h=>iS h λhs h=>?_
 subst h
 obtain⟨xs,w1,w2⟩:=fP (r.ints e1)
 simp only[dT,Bool.and_eq_true,decide_eq_true_eq,List.all_eq_true]at hs
 have hl:s.heap.IsList l (intItems xs.toArray):=⟨_,e,rfl,n,by simp[intItems,w1]⟩
 have hb:∀j,j<xs.length→-1000000000≤numAt xs.toArray j∧numAt xs.toArray j≤1000000000:=by
  intro j hj
  rw[gW]
  have hj':j<(xs.map (·.1)).length:=by simpa using hj
  have e:(xs.map (·.1)).getD j 0=(xs.map (·.1))[j]:=by simp[List.getD,hj]
  rw[e]
  exact hs.2 _ (w2▸List.getElem_mem hj')
 have hn:xs.length≤100000:=by
  have:=congrArg List.length w2
  simp at this;(first|lia|omega)
 refine wpAny_with_toks (n:=s.toks) (Nat.le_refl _) (sum_intList hr.hand hl (λj hj=>?_) λh' tk t' keep htk=>?_)
 ·have hj':j<xs.length:=by simpa using hj
  have h1:=hb j hj'
  have h2:=nk (numAt xs.toArray) 1000000000 (by(first|lia|omega)) (j+1) λi hi=>hb i (by(first|lia|omega))
  have h3:((j+1:Nat):Int)*1000000000≤100000*1000000000:=Int.mul_le_mul_of_nonneg_right (by(first|lia|omega)) (by(first|lia|omega))
  exact⟨⟨by(first|lia|omega),by(first|lia|omega)⟩,by(first|lia|omega),by(first|lia|omega)⟩
 ·have:preSum (numAt xs.toArray) xs.toArray.size=ns.sum:=by
   rw[preSum_eq,w2]
   congr 1
   apply List.ext_getElem
   ·simp
   ·intro i h1 h2
    simp only[List.getElem_map,List.getElem_range]
    rw[gW]
    have:i<xs.length:=by simpa using h2
    simp[List.getD,this]
  rw[this]
  exact PostE.kept I keep htk (.int _ _)
noncomputable def gz(ns:List Int):Nat:=argBest (λi j=>decide (ns.getD i 0 > ns.getD j 0)) (ns.length - 1)
noncomputable def zR:List D→Option D:=on1 λa=>onL a λds=>(e7 ds).bind λns=>if ns.length≤100000 then(ns[gz ns]?).map .int else none
theorem DW(hr:Room A 8):COk X A (.builtin "max") zR:=zB λ{σ s l ws n es d} I e r h=>by
 refine bE h λns e1 h=>iE h (λhs h=>mE h λm e2 h=>?_) λ_ h=>nE h
 subst h
 obtain⟨xs,w1,w2⟩:=fP (r.ints e1)
 have hl:s.heap.IsList l (intItems xs.toArray):=⟨_,e,rfl,n,by simp[intItems,w1]⟩
 have hne:0<xs.toArray.size:=by
  have:=(List.getElem?_eq_some_iff.mp e2).1
  rw[w2]at this;simp at this ⊢;(first|lia|omega)
 refine wpAny_with_toks (n:=s.toks) (Nat.le_refl _) (max_intList hr.hand hl hne λv h' tk hv keep htk=>?_)
 have hf:(λi j=>decide (numAt xs.toArray i > numAt xs.toArray j))=λi j=>decide (ns.getD i 0 > ns.getD j 0):=by
  funext i j;rw[gW,gW,w2]
 rw[hf]at hv
 have hlen:xs.toArray.size=ns.length:=by rw[w2];simp
 rw[hlen]at hv
 have hv':v=.int m (((xs[gz ns]?).map (·.2)).getD 0):=by
  have e3:(ns[gz ns]?)=some m:=e2
  rw[w2,List.getElem?_map]at e3
  (refine mE e3 ?_;(try clear e3);intro p hp hpm)
  have hv2:(intItems xs.toArray)[gz ns]?=some v:=hv
  rw[←w2]at hp
  have:(intItems xs.toArray)[gz ns]?=some (.int p.1 p.2):=by simp[intItems,hp]
  rw[this]at hv2
  cases hv2
  simp[hp,hpm]
 rw[hv']
 exact PostE.kept I keep htk (.int _ _)
noncomputable def dO(ns:List Int):List Int:=ns.mergeSort λa b=>decide (a≤b)
noncomputable def iX:List D→Option D:=on1 λa=>onL a λds=>(e7 ds).bind λns=>if ns.length<64 then some (.lst ((dO ns).map .int))else none
theorem jl{ns ms:List Int}(hp:ms.Perm ns)(hs:ms.Pairwise (·≤·)):ms=dO ns:=by
 have h1:(dO ns).Pairwise (·≤·):=by
  have:=List.pairwise_mergeSort (le:=λ(a b:Int)=>decide (a≤b)) (by intro a b c;simp;(first|lia|omega)) (by intro a b;simp;(first|lia|omega)) ns
  unfold dO
  simpa using this
 exact(hp.trans (List.mergeSort_perm ns _).symm).eq_of_pairwise (by intro a b _ _ h k;exact Int.le_antisymm h k) hs h1
theorem mH{h:Heap}{vs:List Value}{out:Array Value}:(∀b o,h.get? b=some o→(sortedAll h vs out).get? b=some o)∧∃n,(sortedAll h vs out).get? (h.objs.size+1)=some (cI out n):=
 ⟨λ_ _ e=>sortedAll_old e,sortedAll_at h vs out⟩
theorem sF:COk X A (.builtin "sorted") iX:=zB λ{σ s l ws n es d} I e r h=>by
 refine bE h λns e1 h=>iS h λhs h=>?_
 subst h
 have hi:=r.ints e1
 have hlen:ws.length=ns.length:=by
  have:=fP hi
  obtain⟨xs,w1,w2⟩:=this
  rw[w1,w2];simp
 refine sorted_ints ⟨_,e,rfl,n,rfl⟩ hi (by(first|lia|omega)) λout ns' h1 h2 h3=>?_
 obtain⟨keep,m,ho⟩:=mH (h:=s.heap) (vs:=ws) (out:=out)
 have nn:s.heap.get? (s.heap.objs.size+1)=none:=by
  cases q:s.heap.get? (s.heap.objs.size+1)with
  | none=>rfl
  | some o=>exact absurd (Nat.lt_of_succ_lt (Heap.lt_size q)) (Nat.lt_irrefl _)
 rw[←jl h2 h3]
 exact PostE.freshL (vs:=out.toList) (n:=m) I keep (Nat.le_refl _) nn (by simpa using ho) (qc h1)
noncomputable def ll:List D→Option D:=on1 λa=>onI a λi=>if (baseText "0x" 16 i).length≤100000 then some (.str (baseText "0x" 16 i))else none
theorem zr:COk X A (.builtin "hex") ll:=BV λI r e=>by
 refine ic r e λi t h=>?_
 refine iS h λhl h=>?_
 subst h
 exact P.hex_of_int (PostE.here I (.str _ _)) (bJ hl)
noncomputable def onT{α:Type}(b:D)(f:String→Option α):Option α:=match b with|.obj (.type t)=>f t|_=>none
noncomputable def oD:List D→Option D:=on2 λa b=>onB a λ_=>onT b λt=>if t="bool" then some (.bool true)else none
theorem zu:COk X A (.builtin "isinstance") oD:=wI λ{σ s v w a b d} I r r2 e0=>by
 refine DC r e0 λi h=>?_
 cases r2 with
 | obj v=>cases w with
  | type t=>
   refine iS h λhl h2=>?_
   subst hl h2
   exact IsiPair.bool_bool (PostE.same I (.bool _))
  | _=>exact nE h
 | _=>exact nE h
noncomputable def pS(T:String):D→Bool
 | .str _=>T=="str"
 | .lst _=>T=="list"
 | _=>false
noncomputable def bR(T:String)(F:List D→Option D)(p:PE)(ps:PL):PE:=λΓ c=>(p Γ c).bind λ(a,c1)=>if pS T a then(ps Γ c1).bind λ(ds,c2)=>(F (a::ds)).map λd=>(d,c2)else none
theorem fS{T id:String}{o e:Expr}{rest:List Expr}{name:Str}{apos pos:Pos}{F:List D→Option D}{p:PE}{ps:PL}(h1:SoundE X A ft env o p)(hL:SoundL X A ft env pos (e::rest) ps)
  (pa:PlainAttrs T) (slot:PySem.Slot T name id) (hty:typeOf (.builtin id)=pure (.type "method_descriptor")) (hC:COk X A (.builtin id) F)
  (hbase:autoParam (∀env,attributeBase o name env (eval o env)=eval o env) aR)
  (hfew:autoParam (∀env,((backTo pos (starEach (e::rest) env)).all (λx=>!x.1) && (backToKw pos (keywordEach [] env)).all (λx=>x.1.isSome)
   && decide ((e::rest).length+([]:List Keyword).length+(if ([]:List Keyword).isEmpty then 0 else 1)<30))=true) aR)
  (hline:autoParam ((apos.endLine==pos.line)=true) aR)
  (he:autoParam (∀env,starEach (e::rest) env=(false,eval e env)::starEach rest env) aR) (hp:autoParam (∀env,(backTo pos (starEach rest env)).any (·.1)=false) aR) :
  SoundE X A ft env (.Call (.Attribute o name apos) (e::rest) [] pos) (bR T F p ps):=λΓ σ s d c' I FF h=>by
 (refine bE2 h ?_;(try clear h);intro a c1 e1 h)
 dsimp only at h
 (first|(refine iE h ?_ ?_<;>(clear h;intro _ h))|split at h)
 ·rename_i hT
  (refine bE2 h ?_;(try clear h);intro ds c2 e2 h)
  (refine mE h ?_;(try clear h);intro r e3 h)
  cases h
  refine wpAny_Call_method (hbase env) (hfew env) hline pa slot hty (h1.use I FF e1 λv1 σ1 s1 q1 I1 x1 F1 r1=>?_)
  subst q1
  have hk:s1.TypeIs v1 T∧∀b,v1=.ref b→∃ob,s1.heap.get? b=some ob∧ob.dict=none:=by
   cases r1 with
   | str x t=>
    have:T="str" :=by simpa [pS] using hT
    subst this
    exact⟨typeIs_str _ _ _,λb e=>(nomatch e)⟩
   | lst e r=>
    have:T="list" :=by simpa [pS] using hT
    subst this
    exact⟨⟨_,I1.sub _ _ e,rfl⟩,λb' e'=>by cases e';exact⟨_,I1.sub _ _ e,rfl⟩⟩
   | _=>simp[pS]at hT
  refine⟨hk.1,hk.2,callWith_method1 (first:=[v1]) (hL.use I1 F1 e2 λvs σ2 s2 q2 I2 x2 F2 r2=>?_) (he env) (hp env)⟩
  subst q2
  exact wpAny_mono (hC σ2 s2 (v1::vs) (a::ds) _ I2 (.cons (r1.mono x2.le) r2) e3) (λ_ _ k=>PostE.trans I2 (x1.trans I1 x2) k) λ_ _ f=>f
 ·cases h
noncomputable def cZ:List D→Option D:=on2 λa b=>onS a λx=>onL b λds=>(hZ ds).bind λys=>if (ys.map (·.length)).sum+ys.length*x.length≤100000 then some (.str (Txt.join x ys))else none
theorem ja:COk X A (.builtin "str.join") cZ:=wI λ{σ s v w a b d} I r r2 e0=>by
 refine o6 r e0 λx t h=>?_
 refine r7 r2 h λl vs n ds e r2 h=>?_
 refine bE h λys e1 h=>iS h λhl h=>?_
 subst h
 exact wpAny_with_toks (n:=s.toks) (Nat.le_refl _) (PyProof.Rows.join_list ⟨_,I.sub _ _ e,rfl,_,rfl⟩ (by simpa using r2.strs e1) (by(first|lia|omega)) λt' k htk=>PostE.here I (.str _ _) htk)
noncomputable def lB:List D→Option D:=on2 λa b=>onS a λx=>onS b λy=>match Builtin.Str.occurrences x y 0 x.length 1 with
  | i::_=>some (.int (i:Nat))
  | []=>none
theorem zt:COk X A (.builtin "str.index") lB:=wI λ{σ s v w a b d} I r r2 e0=>by
 refine o6 r e0 λx t h=>?_
 refine o6 r2 h λy u h=>?_
 (first|(refine iE h ?_ ?_<;>(clear h;intro _ h))|split at h)
 ·rename_i e
  cases h
  exact SC.index e (PostE.here I (.int _ _))
 ·exact nE h
noncomputable def eH:List D→Option D:=on2 λa b=>onL a λds=>onI b λk=>(e7 ds).bind λns=>if k∈ns∧(PyData.list (ns.map PyData.int)).layable0=true then some (.int (ns.idxOf k:Nat))else none
theorem oq:COk X A (.builtin "list.index") eH:=wI λ{σ s v w a b d} I r r2 e0=>by
 refine r7 r e0 λl vs n ds e r h=>?_
 refine ic r2 h λk t h=>?_
 refine bE h λns e1 h=>iS h λhl h=>?_
 subst h
 exact index_list_ints ⟨_,I.sub _ _ e,rfl,_,rfl⟩ (r.ints e1) hl.2 hl.1 (PostE.here I (.int _ _))
end
end Mine
namespace Mine
section
variable{X:Cx}{A:Around}{ft:FT}{env:Env}{Γ Γ':List Slot}{σ:Sg}{s:Shared}{d:D}{c':List Cell}{tgt:Expr}
noncomputable def IOk(X:Cx)(A:Around)(tgt:Expr)(f:Value)(F:List D→Option (List D)):Prop:=
 ∀σ s vs ds out,X.Inv σ s→RelAll σ.g vs ds→F ds=some out→wpAny X.M A (call f vs) (λx s1=>wpAny X.M A (pyIter x) (PostI X A tgt σ s out σ.sto) NoE s1) NoE s
noncomputable def bw(F:List D→Option (List D))(ps:PL):PL:=λΓ c=>(ps Γ c).bind λ(ds,c1)=>(F ds).map λd=>(d,c1)
theorem PostI.trans{σ₁:Sg}{s₁ s₂:Shared}{it:Value}{ds:List D}(I₁:X.Inv σ₁ s₁)(x:Ext NoW NoG σ s σ₁ s₁)(h:PostI X A tgt σ₁ s₁ ds c' it s₂):PostI X A tgt σ s ds c' it s₂:=by
 obtain⟨σ',W,Wg,J,q,I',x',hI,j,w,wg⟩:=h
 refine⟨σ',W,Wg,J,q,I',x.trans I₁ x',hI,j,λa ha=>⟨(Ext.back I₁ x (w a ha).1).elim id λf=>f.elim,(w a ha).2⟩,λi hi=>?_⟩
 cases e:s.gens[i]? with
 | none=>rfl
 | some y=>have q:=x.gens i y e (λf=>f);rw[wg i hi]at q;cases q
theorem CB{T:String}{x:Str}{np pos:Pos}{e:Expr}{rest:List Expr}{F:List D→Option (List D)}{ps:PL}(hx:x∈ft.gt)(hn:X.mg x=none)(hb:X.mb x=some (.type T))(hL:SoundL X A ft env pos (e::rest) ps)(hC:IOk X A tgt (.type T) F)
  (he:autoParam (∀env,starEach (e::rest) env=(false,eval e env)::starEach rest env) aR) (hp:autoParam (∀env,(backTo pos (starEach rest env)).any (·.1)=false) aR):et X A ft env tgt (.Call (.Name x np) (e::rest) [] pos) (bw F ps):=λΓ σ s ds c' I FF h=>by
 (refine bE2 h ?_;(try clear h);intro ds0 c1 e1 h)
 (refine mE h ?_;(try clear h);intro r e2 h)
 cases h
 refine wpAny_Call_NameR (eval_Name (FF.ok.odd x (List.mem_append_right _ hx)).1 (bZ I FF hx hn hb ?_))
 refine callWith_type1 (hL.use I FF e1 λvs σ1 s1 q1 I1 x1 F1 r1=>?_) (he env) (hp env)
 subst q1
 exact wpAny_mono (hC σ1 s1 vs ds0 _ I1 r1 e2) (λ_ _ k=>wpAny_mono k (λ_ _ k=>PostI.trans I1 x1 k) λ_ _ f=>f) λ_ _ f=>f
theorem Ew{f:Value}{F:D→Option (List D)}(h:∀{σ:Sg} {s:Shared} {v:Value} {a:D} {out:List D},X.Inv σ s→Rel σ.g v a→F a=some out→wpAny X.M A (call f [v]) (λx s1=>wpAny X.M A (pyIter x) (PostI X A tgt σ s out σ.sto) NoE s1) NoE s):IOk X A tgt f (on1 F):=λσ s vs ds out I r e=>by
 cases r with
 | nil=>exact nE e
 | cons r rs=>cases rs with
  | nil=>exact h I r e
  | cons _ _=>exact nE e
theorem Ex{f:Value}{F:D→D→Option (List D)}(h:∀{σ:Sg} {s:Shared} {v w:Value} {a b:D} {out:List D},X.Inv σ s→Rel σ.g v a→Rel σ.g w b→F a b=some out→wpAny X.M A (call f [v,w]) (λx s1=>wpAny X.M A (pyIter x) (PostI X A tgt σ s out σ.sto) NoE s1) NoE s):IOk X A tgt f (on2 F):=λσ s vs ds out I r e=>by
 cases r with
 | nil=>exact nE e
 | cons r rs=>cases rs with
  | nil=>exact nE e
  | cons r2 rs=>cases rs with
   | nil=>exact h I r r2 e
   | cons _ _=>exact nE e
theorem cf(s:Shared)(k:Nat):s.heap.get? (s.heap.objs.size+k)=none:=by
 cases q:s.heap.get? (s.heap.objs.size+k)with
 | none=>rfl
 | some o=>exact absurd (Nat.lt_of_le_of_lt (Nat.le_add_right _ k) (Heap.lt_size q)) (Nat.lt_irrefl _)
theorem k9{a b:Int}(ha:-1000000<a∧a<1000000)(hb:-1000000<b∧b<1000000):Builtin.Range.small a b 1=true:=by
 have e:=rangeSize_one a b
 have h1:Builtin.Range.rangeFitsLong a=true:=by simp[Builtin.Range.rangeFitsLong];(first|lia|omega)
 have h2:Builtin.Range.rangeFitsLong b=true:=by simp[Builtin.Range.rangeFitsLong];(first|lia|omega)
 have h4:Builtin.Range.rangeFitsLong (Builtin.Range.rangeSize a b 1)=true:=by
  rw[e];simp only[Builtin.Range.rangeFitsLong];split<;>(simp;try (first|lia|omega))
 have h5:Builtin.Range.rangeFitsLong (b+(1 - 1))=true:=by simp[Builtin.Range.rangeFitsLong];(first|lia|omega)
 have h3:Builtin.Range.rangeFitsLong 1=true:=by decide
 delta Builtin.Range.small
 simp only[h1,h2,h3,h4,h5,Bool.true_and,show ((1:Int) > 0)by decide,if_true,Bool.or_true]
noncomputable def eM(a b:Int):List D:=(List.range (b - a).toNat).map λ(k:Nat)=>D.int (a+k)
noncomputable def cN:List D→Option (List D)
 | [a]=>onI a λn=>if -1000000<n∧n<1000000 then some (eM 0 n)else none
 | [a,b]=>onI a λa=>onI b λb=>if (-1000000<a∧a<1000000)∧(-1000000<b∧b<1000000)then some (eM a b)else none
 | _=>none
theorem mx{a b:Int}{t u v:Tok}{tk:Nat}(hr:Room A 8)(I:X.Inv σ s)(ha:-1000000<a∧a<1000000)(hb:-1000000<b∧b<1000000)(htk:s.toks≤tk) :
  wpAny X.M A (pyIter (.ref s.heap.objs.size)) (PostI X A tgt σ s (eM a b) σ.sto) NoE { s with heap:=s.heap.push { cls:=.type "range",data:=.fields #[.int a t,.int b u,.int 1 v] },toks:=tk }:=by
 obtain⟨I1,x1⟩:=jT (o:={ cls:=.type "range",data:=.fields #[.int a t,.int b u,.int 1 v] }) (tk:=tk) I htk
 refine wpAny_pyIter_range (IsRange.new ..) (k9 ha hb) ?_
 obtain⟨I2,x2⟩:=jT (o:={ cls:=.type "range_iterator",data:=.fields #[rawInt a,rawInt (Builtin.Range.rangeSize a b 1),rawInt 1] }) (tk:=tk) I1
 have nn:(s.heap.push { cls:=.type "range",data:=.fields #[.int a t,.int b u,.int 1 v] }).get? (s.heap.push { cls:=.type "range",data:=.fields #[.int a t,.int b u,.int 1 v] }).objs.size=none:=get?_push_none
 refine PostI.of ⟨σ,_,_,_,rfl,I2,x1.trans I1 x2,vE hr.hand _,⟨a,(b - a).toNat,?_,rfl⟩,?_,λ_ f=>f.elim⟩
 ·have:(Builtin.Range.rangeSize a b 1)=((b - a).toNat:Int):=by rw[rangeSize_one];split<;>(first|lia|omega)
  rw[←this]
  exact Heap.get?_push_size _ rfl
 ·rintro c rfl
  exact⟨(Ext.back I1 x1 nn).elim id λf=>f.elim,(I1.notIn nn).2,(I1.notIn nn).1⟩
theorem gc(hr:Room A 8):IOk X A tgt (.type "range") cN:=λσ s vs ds out I r h=>by
 cases r with
 | nil=>exact nE h
 | cons r rs=>cases rs with
  | nil=>
   refine ic r h λn t h=>?_
   refine iS h λhb h=>?_
   subst h
   exact call_range_1 (mx hr I (by(first|lia|omega)) hb (by(first|lia|omega)))
  | cons r2 rs=>cases rs with
   | nil=>
    refine ic r h λa t h=>?_
    refine ic r2 h λb u h=>?_
    refine iS h λhb h=>?_
    subst h
    exact call_range_2 (mx hr I hb.1 hb.2 (by(first|lia|omega)))
   | cons _ _=>exact nE h
noncomputable def ia(ds:List D):List D:=(List.range ds.length).map λ(k:Nat)=>D.tup [.int (k:Int),ds.getD k .none]
noncomputable def fg:List D→Option (List D):=on1 λa=>match a with
 | .lst ds=>some (ia ds)
 | .str x=>some (ia (x.cps.toList.map λc=>D.str ⟨#[c]⟩))
 | _=>none
theorem jh{elts:List Expr}{x1:Nat}{tp:Pos}(hr:Room A 8):IOk X A (.Tuple elts x1 tp) (.type "enumerate") fg:=Ew λ{σ s v a out} I r h=>by
 have n0:s.heap.get? s.heap.objs.size=none:=cf s 0
 have n1:s.heap.get? (s.heap.objs.size+1)=none:=cf s 1
 have hne:s.heap.objs.size+1≠s.heap.objs.size:=Nat.succ_ne_self _
 cases r with
 | @lst l ws n ds e r=>
  cases Option.some.inj h
  clear h
  have hl:s.heap.IsList l ws.toArray:=⟨_,I.sub _ _ e,rfl,_,rfl⟩
  have hl0:l≠s.heap.objs.size:=by rintro rfl;rw[I.sub _ _ e]at n0;cases n0
  have hl1:l≠s.heap.objs.size+1:=by rintro rfl;rw[I.sub _ _ e]at n1;cases n1
  refine call_enumerate_list hl λh' he hit _ keep=>wpAny_pyIter_enum he ?_
  have I1:X.Inv σ { s with heap:=h',toks:=s.toks }:=Mine.Inv.heap (W:=NoW) I (λa o e _=>keep a o e) λ_ f=>f.elim
  refine PostI.of ⟨σ,_,_,_,rfl,I1,Ext.heap (tk:=s.toks) λa o e _=>keep a o e,
   l7 (X:=X) (A:=A) (s.heap.objs.size+1) s.heap.objs.size [s.heap.objs.size,l] ws.toArray.size _ _ (λg=>g.get? l=some (cI ws.toArray n)∧RelAll g ws ds) (λk=>ds.getD k .none)
    (Draws.list (A:=A.in1) hr.hand s.heap.objs.size l hl0 ws.toArray) hne ?_ ?_ ?_ ?_,⟨0,.none,he,⟨hit,(let ⟨o,ho,r⟩:=hl;⟨o,keep _ _ ho,r⟩)⟩,Nat.zero_le _,⟨e,r⟩,?_⟩,?_,λ_ f=>f.elim⟩
  ·simp only[List.mem_cons,List.not_mem_nil,or_false,not_or]
   exact⟨hne,λq=>hl1 q.symm⟩
  ·rintro g i x ⟨_,rr⟩ hx
   have hx':ws[i]?=some x:=by simpa using hx
   have hi:i<ds.length:=by rw[←rr.length];exact(List.getElem?_eq_some_iff.mp hx').1
   obtain⟨v,hv,rv⟩:=rr.get (k:=i) (d:=ds[i]) (by simp[hi])
   rw[hx']at hv;cases hv
   simpa [List.getD,hi] using rv
  ·rintro g g' ⟨h1,h2⟩ hle
   exact⟨hle _ _ h1,h2.mono hle⟩
  ·rintro g ⟨h1,_⟩ b hb
   simp only[List.mem_cons,List.not_mem_nil,or_false]at hb
   rcases hb with rfl|rfl
   ·exact .inl rfl
   ·exact .inr ⟨_,h1⟩
  ·unfold ia
   rw[List.size_toArray,r.length,Nat.sub_zero]
   apply List.map_congr_left
   intro k _
   rw[Nat.zero_add]
  ·rintro a (rfl|rfl)
   ·exact⟨n1,(I.notIn n1).2,(I.notIn n1).1⟩
   ·exact⟨n0,(I.notIn n0).2,(I.notIn n0).1⟩
 | str x t=>
  cases Option.some.inj h
  clear h
  refine call_enumerate_str λh' he hit _ keep=>wpAny_pyIter_enum he ?_
  have I1:X.Inv σ { s with heap:=h',toks:=s.toks }:=Mine.Inv.heap (W:=NoW) I (λa o e _=>keep a o e) λ_ f=>f.elim
  have DD:Draws X.prog X.w A.in1 s.heap.objs.size [s.heap.objs.size] x.cps.size (λi v=>∃c u,x.cps[i]?=some c∧v=.str ⟨#[c]⟩ u) (λi h=>h.IsStrIter s.heap.objs.size (strIterType x) x t i):=by
   unfold strIterType
   split
   ·exact Draws.strAscii (A:=A.in1) hr.hand _ x t
   ·exact Draws.strWide (A:=A.in1) hr.hand _ x t
  refine PostI.of ⟨σ,_,_,_,rfl,I1,Ext.heap (tk:=s.toks) λa o e _=>keep a o e,
   l7 (X:=X) (A:=A) (s.heap.objs.size+1) s.heap.objs.size [s.heap.objs.size] x.cps.size _ _ (λ_=>True) (λk=>(x.cps.toList.map λc=>D.str ⟨#[c]⟩).getD k .none)
    DD hne ?_ ?_ ?_ ?_,⟨0,.none,he,hit,Nat.zero_le _,trivial,?_⟩,?_,λ_ f=>f.elim⟩
  ·simp only[List.mem_cons,List.not_mem_nil,or_false]
   exact hne
  ·rintro g i v _ ⟨c,u,hc,rfl⟩
   have:(x.cps.toList.map λc=>D.str ⟨#[c]⟩)[i]?=some (D.str ⟨#[c]⟩):=by simp[hc]
   simp only[List.getD,this,Option.getD_some]
   exact .str _ _
  ·exact λ_ _ _ _=>trivial
  ·rintro g _ b hb
   simp only[List.mem_cons,List.not_mem_nil,or_false]at hb
   exact .inl hb
  ·unfold ia
   rw[List.length_map,Array.length_toList,Nat.sub_zero]
   apply List.map_congr_left
   intro k _
   rw[Nat.zero_add]
  ·rintro a (rfl|rfl)
   ·exact⟨n1,(I.notIn n1).2,(I.notIn n1).1⟩
   ·exact⟨n0,(I.notIn n0).2,(I.notIn n0).1⟩
 | _=>exact nE h
noncomputable def EO(as bs:List D):List D:=(as.zip bs).map λp=>D.tup [p.1,p.2]
noncomputable def zS:List D→Option (List D):=on2 λa b=>onL a λas=>onL b λbs=>some (EO as bs)
theorem De{elts:List Expr}{x1:Nat}{tp:Pos}(hr:Room A 8):IOk X A (.Tuple elts x1 tp) (.type "zip") zS:=Ex λ{σ s v w a b out} I r r2 h=>by
 refine r7 r h λl ws n as e r h=>?_
 refine r7 r2 h λl2 ws2 n2 bs e2 r2 h=>?_
 cases Option.some.inj h
 clear h
 have hl:s.heap.IsList l ws.toArray:=⟨_,I.sub _ _ e,rfl,_,rfl⟩
 have hl2:s.heap.IsList l2 ws2.toArray:=⟨_,I.sub _ _ e2,rfl,_,rfl⟩
 have a1:l<s.heap.objs.size:=Heap.lt_size (I.sub _ _ e)
 have a2:l2<s.heap.objs.size:=Heap.lt_size (I.sub _ _ e2)
 refine call_zip_2 hl hl2 λh' hz hTI hTO h1 h2 hsz keep=>wpAny_pyIter_zip hz ?_
 have I1:X.Inv σ { s with heap:=h',toks:=s.toks }:=Mine.Inv.heap (W:=NoW) I (λa o e _=>keep a o e) λ_ f=>f.elim
 have ap:ZipApart (s.heap.objs.size+4) (s.heap.objs.size+2) (s.heap.objs.size+3) s.heap.objs.size (s.heap.objs.size+1) l l2:=by
  generalize s.heap.objs.size=z at a1 a2
  exact⟨λq=>by unfold Addr at *;(first|lia|omega),λq=>by unfold Addr at *;(first|lia|omega),λq=>by unfold Addr at *;(first|lia|omega),λq=>by unfold Addr at *;(first|lia|omega),λq=>by unfold Addr at *;(first|lia|omega),λq=>by unfold Addr at *;(first|lia|omega),λq=>by unfold Addr at *;(first|lia|omega),λq=>by unfold Addr at *;(first|lia|omega),λq=>by unfold Addr at *;(first|lia|omega),
   λq=>by unfold Addr at *;(first|lia|omega),λq=>by unfold Addr at *;(first|lia|omega),λq=>by unfold Addr at *;(first|lia|omega),λq=>by unfold Addr at *;(first|lia|omega),λq=>by unfold Addr at *;(first|lia|omega),λq=>by unfold Addr at *;(first|lia|omega),λq=>by unfold Addr at *;(first|lia|omega),λq=>by unfold Addr at *;(first|lia|omega),λq=>by unfold Addr at *;(first|lia|omega)⟩
 refine PostI.of ⟨σ,_,_,_,rfl,I1,Ext.heap (tk:=s.toks) λa o e _=>keep a o e,z5 hr.hand _ _ _ _ _ l l2 ws ws2 n n2 as bs ap,⟨0,.none,.none,⟨hz,hTI,hTO,h1,h2,e,e2,r,r2⟩,rfl⟩,?_,λ_ f=>f.elim⟩
 rintro a (rfl|rfl|rfl|rfl|rfl)
 ·exact⟨cf s 4,(I.notIn (cf s 4)).2,(I.notIn (cf s 4)).1⟩
 ·exact⟨cf s 2,(I.notIn (cf s 2)).2,(I.notIn (cf s 2)).1⟩
 ·exact⟨cf s 3,(I.notIn (cf s 3)).2,(I.notIn (cf s 3)).1⟩
 ·exact⟨cf s 0,(I.notIn (cf s 0)).2,(I.notIn (cf s 0)).1⟩
 ·exact⟨cf s 1,(I.notIn (cf s 1)).2,(I.notIn (cf s 1)).1⟩
end
end Mine
namespace Mine
structure Fits (ft:FT) (sc:Scope):Prop where
 kind:sc.kind=.function
 l:∀x,(x,VK.l)∈ft.nt→sc.names.lookup x=some .local
 c:∀x,(x,VK.c)∈ft.nt→sc.names.lookup x=some .cell
 f:∀x,(x,VK.f)∈ft.nt→sc.names.lookup x=some .free∧(x,NameKind.cell)∉sc.names
 g:∀x∈ft.gt,sc.names.lookup x=some .globalImplicit
 nodup:(ft.nt.map (·.1)).Nodup
 odd:∀x∈ft.nt.map (·.1)++ft.gt,(x==("__debug__" : Str))=false∧(x==("__classdict__" : Str))=false
 cells:∀x,(x,NameKind.cell)∈sc.names→sc.names.lookup x=some .cell
 locals:∀x∈sc.names,x.2=.local→sc.names.lookup x.1=some .local
 frees:∀x,(x,NameKind.free)∈sc.names→(x,VK.f)∈ft.nt
noncomputable def oV:List Str→Bool
 | []=>true
 | x::xs=>!xs.contains x && oV xs
theorem nF:∀{l:List Str},oV l=true→l.Nodup
 | [],_=>List.nodup_nil
 | x::xs,h=>by
  simp only[oV,Bool.and_eq_true,Bool.not_eq_true',List.contains_eq_mem,decide_eq_false_iff_not]at h
  exact List.nodup_cons.mpr ⟨h.1,nF h.2⟩
noncomputable def zU(sc:Scope):Str×VK→Bool
 | (x,.l)=>decide (sc.names.lookup x=some .local)
 | (x,.c)=>decide (sc.names.lookup x=some .cell)
 | (x,.f)=>decide (sc.names.lookup x=some .free) && !(sc.names.any λp=>p.1==x && decide (p.2=.cell))
noncomputable def wZ(ft:FT)(sc:Scope):Bool:=
 decide (sc.kind=.function) && (ft.nt.all (zU sc) && (ft.gt.all (λx=>decide (sc.names.lookup x=some .globalImplicit)) && (oV (ft.nt.map (·.1)) &&
  ((ft.nt.map (·.1)++ft.gt).all (λx=>!(x==("__debug__" : Str)) && !(x==("__classdict__" : Str))) && (sc.names.all (λp=>(decide (p.2=.cell)→decide (sc.names.lookup p.1=some .cell)) && (decide (p.2=.local)→decide (sc.names.lookup p.1=some .local)) && (decide (p.2=.free)→ft.nt.contains (p.1,VK.f))))))))
theorem fits{ft:FT}{sc:Scope}(h:wZ ft sc=true):Fits ft sc:=by
 simp only[wZ,Bool.and_eq_true,decide_eq_true_eq,List.all_eq_true,Bool.not_eq_true',decide_implies]at h
 obtain⟨h1,h2,h3,h4,h5,h6⟩:=h
 refine⟨h1,λx hx=>?_,λx hx=>?_,λx hx=>?_,h3,nF h4,h5,λx hx=>?_,λx hx e=>?_,λx hx=>?_⟩
 ·simpa [zU] using h2 _ hx
 ·simpa [zU] using h2 _ hx
 ·have:=h2 _ hx
  simp only[zU,Bool.and_eq_true,decide_eq_true_eq,Bool.not_eq_true',List.any_eq_false]at this
  exact⟨this.1,λhm=>absurd (this.2 _ hm) (by simp)⟩
 ·have:=(h6 _ hx).1.1
  simpa using this
 ·have:=(h6 _ hx).1.2
  simpa [e] using this
 ·have:=(h6 _ hx).2
  simpa using this
theorem lookup_keyed{f:Str→NameKind→NameKind}{x:Str}:∀l:List (Str×NameKind),(l.map λp=>(p.1,f p.1 p.2)).lookup x=(l.lookup x).map (f x)
 | []=>rfl
 | (n,k)::r=>by
  rw[List.map_cons,List.lookup_cons,List.lookup_cons,lookup_keyed r]
  cases h:x==n with
  | true=>rw[eq_of_beq h];rfl
  | false=>rfl
theorem me{env:Env}{x:Str}{names:List (Str×NameKind)} :
  (names.map λ(n,k)=>if (k==NameKind.free && env.scope.kind==.function && env.kindOf n==some .cell)then(n,NameKind.cell)else(n,k)).lookup x
   = (names.lookup x).map λk=>if (k==NameKind.free && env.scope.kind==.function && env.kindOf x==some .cell)then NameKind.cell else k:=by
 refine(congrArg (List.lookup x) (List.map_congr_left λp _=>?_)).trans (lookup_keyed (f:=λn k=>if (k==NameKind.free && env.scope.kind==.function && env.kindOf n==some .cell)then NameKind.cell else k) names)
 dsimp only
 split<;>rfl
section
variable{ft:FT}{env env':Env}{sc:Scope}
theorem Fits.envOk(h:Fits ft sc)(hs:env.scope=sc)(hg:env.globals=mainGlobals)(hb:env.builtins=builtinsNs)(hcd:∀v,ft.cd=some v→env.code=v.1∧env.qual=v.2):lK ft env:=by
 subst hs
 refine⟨h.kind,hg,hb,?_,h.g,h.nodup,h.odd,hcd⟩
 rintro ⟨x,k⟩ hx
 show gy k (env.kindOf x)=true
 cases k with
 | l=>have:=h.l x hx;unfold Env.kindOf;rw[this];rfl
 | c=>have:=h.c x hx;unfold Env.kindOf;rw[this];rfl
 | f=>have:=(h.f x hx).1;unfold Env.kindOf;rw[this];rfl
theorem Fits.relab(h:Fits ft sc)(hs:env.scope=relabel sc env')(hg:env.globals=mainGlobals)(hb:env.builtins=builtinsNs)(hcd:∀v,ft.cd=some v→env.code=v.1∧env.qual=v.2):lK ft env:=by
 have lk:∀x,env.kindOf x=(sc.names.lookup x).map λk=>if (k==NameKind.free && env'.scope.kind==.function && env'.kindOf x==some .cell)then NameKind.cell else k:=λx=>by
  unfold Env.kindOf;rw[hs];exact me
 refine⟨by rw[hs];exact h.kind,hg,hb,?_,λx hx=>by rw[lk,h.g x hx];rfl,h.nodup,h.odd,hcd⟩
 rintro ⟨x,k⟩ hx
 show gy k (env.kindOf x)=true
 rw[lk]
 cases k with
 | l=>rw[h.l x hx];rfl
 | c=>rw[h.c x hx];rfl
 | f=>rw[(h.f x hx).1];simp only[Option.map_some];split<;>rfl
theorem Frm.reenv{Γ:List Slot}{σ:Sg}{h:Heap}(F:Frm ft env Γ σ h)(hL:env'.locals=env.locals)(hC:env'.cells=env.cells)(ok:lK ft env'):Frm ft env' Γ σ h:=by
 refine⟨ok,F.len,by rw[hL];exact F.loc,by rw[hC];exact F.cel,by rw[hL];exact F.offL,by rw[hC];exact F.offC,by rw[hC];exact F.apart⟩
inductive iR (ft:FT) (σ:Sg):List (Str×Value)→List Slot→List Slot→Prop
 | nil {Γ:List Slot}:iR ft σ [] Γ Γ
 | cons {i:Nat} {x:Str} {k:VK} {v:Value} {sl:Slot} {bs:List (Str×Value)} {Γ Γ':List Slot}:ft.nt[i]?=some (x,k)→k≠.f→RelS σ v sl→iR ft σ bs (Γ.set i sl) Γ'→iR ft σ ((x,v)::bs) Γ Γ'
end
theorem cV:∀(names:List (Str×NameKind)) (n:Nat) (acc:List (Str×Addr)),cellsFrom n names acc=cellsFrom n names []++acc
 | [],_,acc=>rfl
 | (x,k)::r,n,acc=>by
  unfold cellsFrom
  split
  ·rw[cV r (n+1) ((x,n)::acc),cV r (n+1) [(x,n)],List.append_assoc];rfl
  ·exact cV r n acc
theorem f9:∀{names:List (Str×NameKind)} {n:Nat} {x:Str} {c:Addr},(x,c)∈cellsFrom n names []→(x,NameKind.cell)∈names
 | [],_,_,_,h=>by cases h
 | (y,k)::r,n,x,c,h=>by
  unfold cellsFrom at h
  (first|(refine iE h ?_ ?_<;>(clear h;intro _ h))|split at h)
  ·rename_i hk
   rw[cV]at h
   rcases List.mem_append.mp h with h|h
   ·exact .tail _ (f9 h)
   ·simp at h
    obtain⟨rfl,_⟩:=h
    rw[beq_iff_eq.mp hk]
    exact .head _
  ·exact .tail _ (f9 h)
theorem f7:∀{names:List (Str×NameKind)} {n:Nat} {x:Str},(x,NameKind.cell)∈names→∃c,(x,c)∈cellsFrom n names []
 | (y,k)::r,n,x,h=>by
  unfold cellsFrom
  rcases List.mem_cons.mp h with h|h
  ·cases h
   rw[if_pos (show (NameKind.cell==NameKind.cell)=true by rfl),cV]
   exact⟨n,List.mem_append_right _ (.head _)⟩
  ·split
   ·rw[cV]
    obtain⟨c,hc⟩:=f7 (n:=n+1) h
    exact⟨c,List.mem_append_left _ hc⟩
   ·exact f7 h
theorem jw{β:Type}:∀{l:List (Str×β)} {x:Str} {c:β},(x,c)∈l→∃c',l.lookup x=some c'
 | (y,d)::r,x,c,h=>by
  rw[List.lookup_cons]
  cases hx:x==y with
  | true=>exact⟨d,rfl⟩
  | false=>
   rcases List.mem_cons.mp h with h|h
   ·cases h;simp at hx
   ·exact jw h
theorem lookup_append{β:Type}{x:Str}:∀{l m:List (Str×β)},(l++m).lookup x=(l.lookup x).or (m.lookup x)
 | [],m=>by simp
 | (y,d)::r,m=>by
  rw[List.cons_append,List.lookup_cons,List.lookup_cons]
  cases hx:x==y with
  | true=>rfl
  | false=>exact lookup_append
theorem lookup_none{β:Type}{x:Str}:∀{l:List (Str×β)},(∀c,(x,c)∉l)→l.lookup x=none
 | [],_=>rfl
 | (y,d)::r,h=>by
  rw[List.lookup_cons]
  cases hx:x==y with
  | true=>rw[beq_iff_eq.mp hx]at h;exact absurd (.head _) (h d)
  | false=>exact lookup_none λc hc=>h c (.tail _ hc)
section
variable{X:Cx}{M:Model}{A:Around}{E:Value→Shared→Prop}{ft:FT}{env:Env}{Γ Γ':List Slot}{σ:Sg}{s:Shared}
theorem dc{i:Nat}{x:Str}{k:VK}(h:ft.nt[i]?=some (x,k)):(x,k)∈ft.nt:=List.mem_of_getElem? h
theorem uX{sc:Scope}{cl:List (Str×Addr)}{ob:Obj}(I:X.Inv σ s)(fit:Fits ft sc)(hlen:Γ.length=ft.nt.length)(hob:ob={ cls:=ob.cls,data:=.dict #[] })
  (hun:∀(i:Nat) x k,ft.nt[i]?=some (x,k)→k≠.f→∀sl,Γ[i]?=some sl→sl=.un)
  (hfree:∀(i:Nat) x,ft.nt[i]?=some (x,VK.f)→∃c,cl.lookup x=some c∧σ.g.get? c=none∧c∉σ.own∧∃ov,s.heap.IsCell c ov∧∀sl,Γ[i]?=some sl→sl≠.un→∃v,ov=some v∧RelS σ v sl)
  (hL:env.locals=s.heap.objs.size) (hC:env.cells=cellsFrom (s.heap.objs.size+1) sc.names cl) (ok:lK ft env) :
  let s':Shared:={ s with heap:=pushCells (s.heap.push ob) sc.names }
  X.Inv σ s'∧Ext NoW NoG σ s σ s'∧Frm ft env Γ σ s'.heap∧(∀a,FW ft env a→s.heap.get? a=none)∧∀x,(x,VK.f)∈ft.nt→env.cells.lookup x=cl.lookup x:=by
 have keep:∀a o,s.heap.get? a=some o→(pushCells (s.heap.push ob) sc.names).get? a=some o:=λa o e=>pushCells_keeps _ _ a o (Heap.get?_push_of_some _ e)
 have I':X.Inv σ { s with heap:=pushCells (s.heap.push ob) sc.names,toks:=s.toks }:=Mine.Inv.heap (W:=NoW) I (λa o e _=>keep a o e) λ_ f=>f.elim
 have hC':env.cells=cellsFrom (s.heap.objs.size+1) sc.names []++cl:=hC.trans (cV _ _ _)
 have cok:=cellsFrom_ok sc.names (s.heap.push ob) (s.heap.objs.size+1) [] ⟨λ_ _ hm=>(nomatch hm),List.Pairwise.nil⟩ (by rw[Heap.size_push];exact Nat.le_refl _)
 rw[Heap.size_push]at cok
 have fresh:∀a,s.heap.objs.size≤a→s.heap.get? a=none:=λa ha=>by
  cases e:s.heap.get? a with
  | none=>rfl
  | some o'=>exact absurd (Heap.lt_size e) (Nat.not_lt.mpr ha)
 have newc:∀x,(x,VK.c)∈ft.nt→∃c,(x,c)∈cellsFrom (s.heap.objs.size+1) sc.names []∧env.cells.lookup x=some c:=λx hx=>by
  obtain⟨c,hc⟩:=f7 (n:=s.heap.objs.size+1) (mem_of_lookup (fit.c x hx))
  obtain⟨c',hc'⟩:=jw hc
  exact⟨c',mem_of_lookup hc',by rw[hC',lookup_append,hc'];rfl⟩
 have oldc:∀x,(x,VK.f)∈ft.nt→env.cells.lookup x=cl.lookup x:=λx hx=>by
  rw[hC',lookup_append,lookup_none (λc hc=>(fit.f x hx).2 (f9 hc))];rfl
 have newok:∀x c,(x,VK.c)∈ft.nt→env.cells.lookup x=some c→(x,c)∈cellsFrom (s.heap.objs.size+1) sc.names []:=λx c hx h=>by
  obtain⟨c',h1,h2⟩:=newc x hx
  rw[h]at h2;cases h2;exact h1
 refine⟨I',Ext.heap (tk:=s.toks) λa o e _=>keep a o e,⟨ok,hlen,?_,λi x k hi hk=>?_,?_,λi x k c hi hk hc=>?_,λi j x y k c hi hj hk hij hx hy=>?_⟩,?_,oldc⟩
 ·refine⟨λ_=>none,?_,λi x sl h1 h2 h3=>absurd (hun i x _ h1 (by intro q;cases q) sl h2) h3⟩
  have hns:(s.heap.push ob).Ns s.heap.objs.size λ_=>none:=by
   rw[hob];exact Heap.Ns.new s.heap ob.cls
  rw[hL]
  exact hns.keeps (pushCells_keeps _ _)
 ·cases k with
  | l=>exact absurd rfl hk
  | c=>
   obtain⟨c,h1,h2⟩:=newc x (dc hi)
   exact⟨c,h2,none,(cok.empty _ _ h1).1,λsl e1 e2=>absurd (hun i x _ hi (by intro q;cases q) sl e1) e2⟩
  | f=>
   obtain⟨c,h1,_,_,ov,h2,h3⟩:=hfree i x hi
   exact⟨c,(oldc x (dc hi)).trans h1,ov,h2.keeps keep,h3⟩
 ·rw[hL]
  exact⟨(I.notIn (fresh _ (Nat.le_refl _))).2,(I.notIn (fresh _ (Nat.le_refl _))).1⟩
 ·cases k with
  | l=>exact absurd rfl hk
  | c=>
   have hm:=newok x c (dc hi) hc
   have hlo:=(cok.empty _ _ hm).2
   have:=fresh c (Nat.le_of_succ_le hlo)
   exact⟨(I.notIn this).2,(I.notIn this).1⟩
  | f=>
   obtain⟨c',h1,h2,h3,_⟩:=hfree i x hi
   rw[oldc x (dc hi),h1]at hc
   cases hc;exact⟨h2,h3⟩
 ·have hm:=newok x c (dc hi) hx
  cases k with
  | l=>exact absurd rfl hk
  | c=>
   have hm2:=newok y c (dc hj) hy
   have e:=name_of_addr cok.apart hm hm2
   subst e
   exact hij (rS ok hi hj)
  | f=>
   obtain⟨c',h1,_,_,ov,h2,_⟩:=hfree j y hj
   rw[oldc y (dc hj),h1]at hy
   cases hy
   have:=h2.lt
   have hlo:=(cok.empty _ _ hm).2
   exact absurd (Nat.lt_of_lt_of_le this (Nat.le_of_succ_le hlo)) (Nat.lt_irrefl _)
 ·rintro a (rfl|⟨i,x,h1,h2⟩)
  ·exact fresh _ (by rw[hL];exact Nat.le_refl _)
  ·exact fresh a (Nat.le_of_succ_le (cok.empty _ _ (newok x a (dc h1) h2)).2)
theorem pH{binds:List (Str×Value)}{Γ Γ':List Slot}(b:iR ft σ binds Γ Γ'):∀{s:Shared} {Q:PUnit→Shared→Prop},X.Inv σ s→Frm ft env Γ σ s.heap→
  (∀s',X.Inv σ s'→Ext (FW ft env) NoG σ s σ s'→Frm ft env Γ' σ s'.heap→Q ⟨⟩ s')→
  wpAny M A (forIn binds PUnit.unit λx _=>do storeName env x.1 x.2;pure (ForInStep.yield PUnit.unit)) Q E s:=by
 induction b with
 | nil=>exact λI F h=>wpAny_pure (h _ I (.refl _ _ _ _) F)
 | cons hi hk r b ih=>
  intro s Q I F h
  rw[List.forIn_cons]
  refine wpAny_bind (wpAny_bind (cT I F hi hk r λs' I' x' F'=>wpAny_pure ?_))
  exact ih I' F' λs'' I'' x'' F''=>h s'' I'' (x'.trans I' x'') F''
theorem gA{sc:Scope}{cl:List (Str×Addr)}{binds:List (Str×Value)}{qual:Str}{func:Option Addr}{code:Value}{around:Option Env}{builtins:Addr}{Q:Env→Shared→Prop}
  (I:X.Inv σ s) (fit:Fits ft sc) (hlen:Γ.length=ft.nt.length)
  (hun:∀(i:Nat) x k,ft.nt[i]?=some (x,k)→k≠.f→∀sl,Γ[i]?=some sl→sl=.un)
  (hfree:∀(i:Nat) x,ft.nt[i]?=some (x,VK.f)→∃c,cl.lookup x=some c∧σ.g.get? c=none∧c∉σ.own∧∃ov,s.heap.IsCell c ov∧∀sl,Γ[i]?=some sl→sl≠.un→∃v,ov=some v∧RelS σ v sl)
  (hb:(match around with|some e=>e.builtins|none=>builtins)=builtinsNs) (hcd:∀v,ft.cd=some v→(match around with|some e=>e.code|none=>code)=v.1∧qual=v.2) (hbs:iR ft σ binds Γ Γ')
  (hQ:∀env s',env=newEnv sc env.locals mainGlobals env.cells qual func code around builtins→X.Inv σ s'→Ext NoW NoG σ s σ s'→Frm ft env Γ' σ s'.heap→(∀a,FW ft env a→s.heap.get? a=none)→(∀x,(x,VK.f)∈ft.nt→env.cells.lookup x=cl.lookup x)→Q env s') :
  wpAny M A (newFunctionEnv sc mainGlobals cl binds qual func code around builtins) Q E s:=by
 unfold newFunctionEnv
 refine wpAny_bind (wpAny_alloc ?_)
 refine wpAny_bind (wpAny_layCells _ (λname kind cells=>by cases hkc:kind==NameKind.cell<;>simp[hkc]) _ _ _ _ ?_)
 generalize hob:({ cls:=.type (if around.isSome then "dict" else "frame"),data:=.dict #[] }:Obj)=ob
 rw[show ({ s with heap:=s.heap.push ob }:Shared).heap.objs.size=s.heap.objs.size+1 from Heap.size_push ..]
 generalize he:newEnv sc s.heap.objs.size mainGlobals (cellsFrom (s.heap.objs.size+1) sc.names cl) qual func code around builtins=env
 have eL:env.locals=s.heap.objs.size:=by rw[←he];cases around<;>rfl
 have eC:env.cells=cellsFrom (s.heap.objs.size+1) sc.names cl:=by rw[←he];cases around<;>rfl
 have ok:lK ft env:=fit.envOk (by rw[←he];cases around<;>rfl) (by rw[←he];cases around<;>rfl) (by rw[←hb,←he];cases around<;>rfl) (λv hv=>by rw[←(hcd v hv).1,←(hcd v hv).2,←he];cases around<;>exact⟨rfl,rfl⟩)
 obtain⟨I1,x1,F1,w1,c1⟩:=uX (ob:=ob) I fit hlen (by rw[←hob]) hun hfree eL eC ok
 have goal:∀s',X.Inv σ s'→Ext (FW ft env) NoG σ { s with heap:=pushCells (s.heap.push ob) sc.names } σ s'→Frm ft env Γ' σ s'.heap→Q env s':=λs' I' x' F'=>
  hQ env s' (by rw[eL,eC,he]) I' ((x1.up.trans I1 x').drop w1 λ_ f=>f.elim) F' w1 c1
 cases around with
 | none=>
  subst he
  exact wpAny_bind (pH hbs I1 F1 λs' I' x' F'=>wpAny_pure (goal s' I' x' F'))
 | some e=>
  subst he
  exact wpAny_bind (pH hbs I1 F1 λs' I' x' F'=>wpAny_pure (goal s' I' x' F'))
end
end Mine
namespace Mine
theorem jr{env:Env}(f:Str×NameKind→List (Str×Addr)→Sem (ForInStep (List (Str×Addr))))
  (hf:∀name kind cs,f (name,kind) cs=if kind==.free then(do let a ←cellOf env name;pure (.yield ((name,a)::cs)))else pure (.yield cs)) :
  ∀(names:List (Str×NameKind)) (acc:List (Str×Addr)),(∀x,(x,NameKind.free)∈names→∃c,env.cells.lookup x=some c)→(∀p∈acc,env.cells.lookup p.1=some p.2)→
   ∃cl,forIn names acc f=(pure cl:Sem _)∧(∀p∈cl,env.cells.lookup p.1=some p.2)∧(∀p∈acc,p∈cl)∧∀x,(x,NameKind.free)∈names→∃c,(x,c)∈cl
 | [],acc,_,ha=>⟨acc,by rw[List.forIn_nil],ha,λ_ h=>h,λ_ h=>(nomatch h)⟩
 | (name,kind)::r,acc,h,ha=>by
  by_cases hk:(kind==NameKind.free)=true
  ·have hk':=beq_iff_eq.mp hk
   subst hk'
   obtain⟨c,hc⟩:=h name (.head _)
   obtain⟨cl,e,g1,g2,g3⟩:=jr f hf r ((name,c)::acc) (λx hx=>h x (.tail _ hx)) (λp hp=>by
    rcases List.mem_cons.mp hp with rfl|hp
    ·exact hc
    ·exact ha p hp)
   refine⟨cl,?_,g1,λp hp=>g2 p (.tail _ hp),λx hx=>?_⟩
   ·rw[List.forIn_cons,hf,if_pos hk]
    have:cellOf env name=pure c:=by unfold cellOf;rw[hc]
    rw[this]
    exact e
   ·rcases List.mem_cons.mp hx with q|q
    ·cases q;exact⟨c,g2 _ (.head _)⟩
    ·exact g3 x q
  ·obtain⟨cl,e,g1,g2,g3⟩:=jr f hf r acc (λx hx=>h x (.tail _ hx)) ha
   refine⟨cl,?_,g1,g2,λx hx=>?_⟩
   ·rw[List.forIn_cons,hf,if_neg hk]
    exact e
   ·rcases List.mem_cons.mp hx with q|q
    ·cases q;exact absurd rfl hk
    ·exact g3 x q
theorem lT{sc:Scope}{env:Env}(h:∀x,(x,NameKind.free)∈sc.names→∃c,env.cells.lookup x=some c) :
  ∃cl,closureFor sc env=pure cl∧∀x,(x,NameKind.free)∈sc.names→cl.lookup x=env.cells.lookup x:=by
 obtain⟨cl,e,g1,_,g3⟩:=jr (env:=env) (λ(name,kind) cs=>if kind==.free then(do let a ←cellOf env name;pure (.yield ((name,a)::cs)))else pure (.yield cs)) (λ_ _ _=>rfl) sc.names [] h (λ_ h=>(nomatch h))
 refine⟨cl,?_,λx hx=>?_⟩
 ·unfold closureFor
  have e':=congrArg (λm=>m >>= λcs=>(pure cs:Sem (List (Str×Addr)))) e
  first
   | exact e'
   | (refine Eq.trans ?_ e';rfl)
 ·obtain⟨c,hc⟩:=g3 x hx
  obtain⟨c',hc'⟩:=jw hc
  rw[hc',g1 _ (mem_of_lookup hc')]
noncomputable def bS(js:List (Option Nat))(Γ:List Slot):List Slot:=js.map fun
 | none=>.un
 | some j=>(Γ[j]?).getD .un
noncomputable def q8(ft ft':FT):List (Str×VK)→List (Option Nat)→Bool
 | [],[]=>true
 | (_,.f)::r,some j::js=>(match ft.nt[j]?,(r,js)with|_,_=>true) && q8 ft ft' r js
 | (_,.l)::r,none::js=>q8 ft ft' r js
 | (_,.c)::r,none::js=>q8 ft ft' r js
 | _,_=>false
inductive Capt (ft:FT):List (Str×VK)→List (Option Nat)→Prop
 | nil:Capt ft [] []
 | l {x:Str} {r:List (Str×VK)} {js:List (Option Nat)}:Capt ft r js→Capt ft ((x,.l)::r) (none::js)
 | c {x:Str} {r:List (Str×VK)} {js:List (Option Nat)}:Capt ft r js→Capt ft ((x,.c)::r) (none::js)
 | f {x:Str} {k:VK} {j:Nat} {r:List (Str×VK)} {js:List (Option Nat)}:ft.nt[j]?=some (x,k)→k≠.l→Capt ft r js→Capt ft ((x,.f)::r) (some j::js)
theorem Capt.length{ft:FT}{nt:List (Str×VK)}{js:List (Option Nat)}(h:Capt ft nt js):js.length=nt.length:=by
 induction h<;>simp_all
theorem Capt.own{ft:FT}{nt:List (Str×VK)}{js:List (Option Nat)}(h:Capt ft nt js):∀{i:Nat} {x:Str} {k:VK},nt[i]?=some (x,k)→k≠.f→js[i]?=some none:=by
 induction h with
 | nil=>intro i x k e;simp at e
 | l _ ih=>intro i x k e hk;cases i with|zero=>rfl|succ i=>exact ih (by simpa using e) hk
 | c _ ih=>intro i x k e hk;cases i with|zero=>rfl|succ i=>exact ih (by simpa using e) hk
 | f _ _ _ ih=>intro i x k e hk;cases i with|zero=>simp at e;exact absurd e.2.symm hk|succ i=>exact ih (by simpa using e) hk
theorem Capt.free{ft:FT}{nt:List (Str×VK)}{js:List (Option Nat)}(h:Capt ft nt js):∀{i:Nat} {x:Str},nt[i]?=some (x,.f)→∃j k,js[i]?=some (some j)∧ft.nt[j]?=some (x,k)∧k≠.l:=by
 induction h with
 | nil=>intro i x e;simp at e
 | l _ ih=>intro i x e;cases i with|zero=>simp at e|succ i=>exact ih (by simpa using e)
 | c _ ih=>intro i x e;cases i with|zero=>simp at e|succ i=>exact ih (by simpa using e)
 | f h1 h2 _ ih=>intro i x e;cases i with|zero=>simp at e;subst e;exact⟨_,_,rfl,h1,h2⟩|succ i=>exact ih (by simpa using e)
section
variable{X:Cx}{A:Around}{ft ft':FT}{env:Env}{Γ Γ':List Slot}{σ:Sg}{s:Shared}{d:D}{c':List Cell}{js:List (Option Nat)}
theorem sG(hc:Capt ft ft'.nt js):∀(i:Nat) x k,ft'.nt[i]?=some (x,k)→k≠.f→∀sl,(bS js Γ)[i]?=some sl→sl=.un:=λi x k e hk sl h=>by
 have:=hc.own e hk
 unfold bS at h
 rw[List.getElem?_map,this]at h
 cases h;rfl
theorem nr{cl:List (Str×Addr)}(hc:Capt ft ft'.nt js)(F:Frm ft env Γ σ s.heap)(hcl:∀x,(x,VK.f)∈ft'.nt→cl.lookup x=env.cells.lookup x) :
  ∀(i:Nat) x,ft'.nt[i]?=some (x,VK.f)→∃c,cl.lookup x=some c∧σ.g.get? c=none∧c∉σ.own∧∃ov,s.heap.IsCell c ov∧∀sl,(bS js Γ)[i]?=some sl→sl≠.un→∃v,ov=some v∧RelS σ v sl:=λi x e=>by
 obtain⟨j,k,h1,h2,h3⟩:=hc.free e
 obtain⟨c,hl,ov,hcell,hs⟩:=F.cel j x k h2 h3
 obtain⟨o1,o2⟩:=F.offC j x k c h2 h3 hl
 refine⟨c,(hcl x (dc e)).trans hl,o1,o2,ov,hcell,λsl hsl hne=>?_⟩
 unfold bS at hsl
 rw[List.getElem?_map,h1]at hsl
 cases q:Γ[j]? with
 | none=>simp[q]at hsl;exact absurd hsl.symm hne
 | some sl'=>simp[q]at hsl;subst hsl;exact hs sl' q hne
noncomputable def AccOk(σ:Sg)(acc:Addr)(ds:List D)(h:Heap):Prop:=σ.g.get? acc=none∧acc∉σ.own∧∃(vs:List Value) (n:Nat),h.get? acc=some (cI vs.toArray n)∧RelAll σ.g vs ds
theorem j9{acc:Addr}{vs:List Value}{n:Nat}(F:Frm ft env Γ σ s.heap)(e:s.heap.get? acc=some (cI vs.toArray n)) :
  acc≠env.locals∧∀(i:Nat) (y:Str) (k:VK) (c:Addr),ft.nt[i]?=some (y,k)→k≠.l→env.cells.lookup y=some c→c≠acc:=by
 constructor
 ·rintro rfl
  obtain⟨m,⟨o,es,ep,ho,hd,_⟩,_⟩:=F.loc
  rw[e]at ho;cases ho;cases hd
 ·rintro i y k c hi hk hc rfl
  obtain⟨c',hc',ov,⟨o,ho,hd⟩,_⟩:=F.cel i y k hi hk
  rw[hc]at hc';cases hc'
  rw[e]at ho;cases ho;cases hd
theorem zl{acc:Addr}{vs:List Value}{n:Nat}(F:Frm ft env Γ σ s.heap)(e:s.heap.get? acc=some (cI vs.toArray n)):¬FW ft env acc:=by
 rintro (rfl|⟨i,x,h1,h2⟩)
 ·exact(j9 F e).1 rfl
 ·exact(j9 F e).2 i x _ acc h1 (by intro q;cases q) h2 rfl
theorem AccOk.ext{W:Addr→Prop}{Wg:Nat→Prop}{acc:Addr}{ds:List D}{σ':Sg}{s':Shared}(a:AccOk σ acc ds s.heap)(x:Ext W Wg σ s σ' s')(hw:¬W acc):AccOk σ' acc ds s'.heap:=by
 obtain⟨h1,h2,vs,n,e,r⟩:=a
 refine⟨?_,?_,vs,n,x.keep _ _ e h2 hw,r.mono x.le⟩
 ·cases q:σ'.g.get? acc with
  | none=>rfl
  | some o=>
   rcases x.fresh _ o q h1 with h|h|h
   ·rw[h]at e;cases e
   ·exact absurd h h2
   ·exact absurd h hw
 ·obtain⟨m,hm,hf⟩:=x.own
  rw[hm]
  intro q
  rcases List.mem_append.mp q with q|q
  ·exact h2 q
  ·rcases hf _ q with h|h
   ·rw[h]at e;cases e
   ·exact hw h
noncomputable abbrev PC:=List Slot→List Cell→Option (List D×List Slot×List Cell)
noncomputable def Bh(X:Cx)(ft:FT)(env:Env)(acc:Addr)(σ:Sg)(s:Shared)(out:List D)(Γ':List Slot)(c':List Cell)(s':Shared):Prop:=
 ∃σ',σ'.sto=c'∧X.Inv σ' s'∧Ext (λa=>FW ft env a∨a=acc) NoG σ s σ' s'∧Frm ft env Γ' σ' s'.heap∧AccOk σ' acc out s'.heap
noncomputable def j8(X:Cx)(A:Around)(ft:FT)(env:Env)(acc:Addr)(m:Sem Unit)(p:PC):Prop:=
 ∀Γ σ s out new Γ' c',X.Inv σ s→Frm ft env Γ σ s.heap→AccOk σ acc out s.heap→out.length+new.length≤100000→p Γ σ.sto=some (new,Γ',c')→wpAny X.M A m (λ_ s'=>Bh X ft env acc σ s (out++new) Γ' c' s') NoE s
noncomputable abbrev pe(ifs:List Expr)(env:Env):Sem Bool:=forIn ifs true λc r=>if r=true then do let ok ←isTrue c env (eval c env);pure (ForInStep.yield ok)else pure (ForInStep.yield r)
noncomputable def ej(X:Cx)(A:Around)(ft:FT)(env:Env)(ifs:List Expr)(p:PB):Prop:=
 ∀Γ σ s d c',X.Inv σ s→Frm ft env Γ σ s.heap→p Γ σ.sto=some (d,c')→wpAny X.M A (pe ifs env) (PostB X σ s d c') NoE s
noncomputable def cn:PB:=λ_ c=>some (true,c)
theorem cJ:ej X A ft env [] cn:=λΓ σ s d c' I F h=>by
 cases h;exact wpAny_tests_nil ⟨rfl,σ,rfl,I,.refl _ _ _ _⟩
theorem jm{c:Expr}{p:PB}(h:SoundB X A ft env c p):ej X A ft env [c] p:=λΓ σ s d c' I F e=>wpAny_tests_one (h Γ σ s d c' I F e)
noncomputable def aS(p:PE):PC:=λΓ c=>(p Γ c).map λ(d,c1)=>([d],Γ,c1)
theorem ue{acc:Addr}{elt:Expr}{p:PE}(h1:SoundE X A ft env elt p):j8 X A ft env acc (do let _ ←call (.builtin "list.append") [.ref acc,←eval elt env]) (aS p):=λΓ σ s out new Γ' c' I F a hl h=>by
 (refine mE2 h ?_;(try clear h);intro d c1 e1 h)
 cases h
 refine wpAny_bind (h1.use I F e1 λv σ1 s1 q1 I1 x1 F1 r1=>?_)
 subst q1
 obtain⟨g1,g2,vs,n,e,r⟩:=a.ext x1 λf=>f
 have hn:=r.length
 refine wpAny_bind (append_at e (λh' hs hD=>wpAny_pure ?_) (by simp only[List.size_toArray];rw[hn];exact bJ (by simp at hl;(first|lia|omega))))
 have keep:∀a o,s1.heap.get? a=some o→¬(a=acc)→h'.get? a=some o:=λa o e ha=>(hs.2 a ha).trans e
 have I2:X.Inv σ1 { s1 with heap:=h',toks:=s1.toks }:=Mine.Inv.heap (W:=λa=>a=acc) I1 keep λa e=>e▸⟨g2,g1⟩
 have x2:Ext (λa=>FW ft env a∨a=acc) NoG σ1 s1 σ1 { s1 with heap:=h',toks:=s1.toks }:=Ext.heap λa o e hw=>keep a o e λq=>hw (.inr q)
 have ap:=j9 F1 e
 have x2':Ext (λa=>a=acc) NoG σ1 s1 σ1 { s1 with heap:=h',toks:=s1.toks }:=Ext.heap keep
 refine⟨σ1,rfl,I2,x1.up.trans I1 x2,F1.extW x2' (λq=>ap.1 q.symm) (λi y k c hi hk hc q=>ap.2 i y k c hi hk hc q),g1,g2,vs++[v],n+1,?_,r.append (.one r1)⟩
 rw[hD,List.push_toArray]
noncomputable def bN(tg:Tg)(t:PB)(p:PC):List D→List Slot→List Cell→Option (List D×List Slot×List Cell)
 | [],Γ,c=>some ([],Γ,c)
 | d::ds,Γ,c=>(dU tg d Γ).bind λΓ1=>(t Γ1 c).bind λ(b,c1)=>(if b then p Γ1 c1 else some ([],Γ1,c1)).bind λ(new,Γ2,c2)=>(bN tg t p ds Γ2 c2).map λ(more,Γ3,c3)=>(new++more,Γ3,c3)
noncomputable def kN(X:Cx)(A:Around)(LC:Expr)(depth:Nat)(it acc:Value)(env:Env)(tgt:Expr)(ifs:List Expr)(inner:Sem Unit):Prop:=
 ∀(s:Shared) (E:Value→Shared→Prop) (R:Fin→Shared→Prop),wpAny X.M A (pyNext it) (λr s1=>match r with
  | none=>R (.done .next) s1
  | some v=>wpAny X.M A (letOwnedTupleGo tgt it v) (λ_ s2=>wpAny X.M A (assign tgt env v) (λ_ s3=>wpAny X.M A (pe ifs env) (λok s4=>
    if ok=true then wpAny X.M A inner (λ_ s5=>R (.again (.compLoop LC depth it acc env)) s5) E s4 else R (.again (.compLoop LC depth it acc env)) s4) E s3) E s2) E s1) E s→
  wpAny X.M A (compTurn LC depth it acc env) R E s
theorem up{M:Model}{A:Around}{α:Type}{m:Sem α}{Q:α→Shared→Prop}{E:Value→Shared→Prop}{s:Shared}(h:wpAny M A m Q NoE s):wpAny M A m Q E s:=wpAny_mono h (λ_ _ q=>q) λ_ _ f=>f.elim
theorem uJ{LC:Expr}{depth:Nat}{it acc:Value}{ifs:List Expr}{inner:Sem Unit}{R:Fin→Shared→Prop}{E:Value→Shared→Prop}{P:Shared→Prop}(ht:kN X A LC depth it acc env tgt ifs inner)
  (h:wpAny X.M A (pyNext it) (λr s1=>r=none∧P s1) NoE s) (k:∀s1,P s1→R (.done .next) s1):wpAny X.M A (compTurn LC depth it acc env) R E s:=
 ht s E R (up0 (wpAny_mono h (λr s1 q=>by rw[q.1];exact k s1 q.2) λ_ _ f=>f))
theorem rj{LC:Expr}{depth:Nat}{it acc:Value}{ifs:List Expr}{inner:Sem Unit}{R:Fin→Shared→Prop}{E:Value→Shared→Prop}{P:Value→Shared→Prop}{K:Shared→Prop}(ht:kN X A LC depth it acc env tgt ifs inner)
  (h:wpAny X.M A (pyNext it) (λr s1=>∃v,r=some v∧wpAny X.M A (letOwnedTupleGo tgt it v) (λ_ s'=>P v s') NoE s1) NoE s)
  (k:∀v s2,P v s2→wpAny X.M A (assign tgt env v) (λ_ s3=>wpAny X.M A (pe ifs env) (λok s4=>(ok=true→wpAny X.M A inner (λ_ s5=>K s5) NoE s4)∧(ok=false→K s4)) NoE s3) NoE s2)
  (hk:∀s,K s→R (.again (.compLoop LC depth it acc env)) s):wpAny X.M A (compTurn LC depth it acc env) R E s:=
 ht s E R (up0 (wpAny_mono h (λr s1 q=>by
  obtain⟨v,e,q⟩:=q
  rw[e]
  exact up0 (wpAny_mono q (λ_ s2 q=>up0 (wpAny_mono (k v s2 q) (λ_ s3 q=>up0 (wpAny_mono q (λok s4 q=>by
   cases ok with
   | true=>exact up0 (wpAny_mono (q.1 rfl) (λ_ s5 q=>hk s5 q) λ_ _ f=>f)
   | false=>exact hk s4 (q.2 rfl)) λ_ _ f=>f)) λ_ _ f=>f)) λ_ _ f=>f)) λ_ _ f=>f))
structure CS (X:Cx) (ft:FT) (env:Env) (acc:Addr) (W:Addr→Prop) (Wg:Nat→Prop) (J:(Addr→Prop)→Heap→List D→Shared→Prop) (σ₀:Sg) (s₀:Shared) (tg:Tg) (t:PB) (p:PC) (tot:List D) (Γ':List Slot) (c':List Cell) (ds:List D) (Γ:List Slot) (σ:Sg) (out new:List D) (W₁:Addr→Prop) (s:Shared):Prop where
 hW1:∀a,W₁ a→W a∨s₀.heap.get? a=none
 I:X.Inv σ s
 x:Ext (λa=>FW ft env a∨a=acc∨W a) Wg σ₀ s₀ σ s
 F:Frm ft env Γ σ s.heap
 ac:AccOk σ acc out s.heap
 j:J W₁ σ.g ds s
 hW:∀a,W₁ a→σ.g.get? a=none∧a∉σ.own
 sum:out++new=tot
 run:bN tg t p ds Γ σ.sto=some (new,Γ',c')
theorem AccOk.there{σ:Sg}{acc:Addr}{out:List D}{h:Heap}(a:AccOk σ acc out h):∃o,h.get? acc=some o:=by
 obtain⟨_,_,_,_,e,_⟩:=a
 exact⟨_,e⟩
theorem uI{LC:Expr}{depth n:Nat}{it:Value}{acc:Addr}{ifs:List Expr}{inner:Sem Unit}{tg:Tg}{t:PB}{p:PC}{W W₁:Addr→Prop}{Wg:Nat→Prop}{J:(Addr→Prop)→Heap→List D→Shared→Prop}{σ₀:Sg}{s₀:Shared}{ds out new tot:List D}{R:Fin→Shared→Prop}{E:Value→Shared→Prop}
  (hturn:kN X A LC depth it (.ref acc) env tgt ifs inner) (hI:lM X A tgt it Wg J) (hT:dJ X A ft env tgt tg) (ht:ej X A ft env ifs t) (hp:j8 X A ft env acc inner p)
  (off:∀{W₁:Addr→Prop},(∀a,W₁ a→W a∨s₀.heap.get? a=none)→IsOff ft env W₁∧¬W₁ acc) (htot:tot.length≤100000)
  (hdone:∀σ' s',σ'.sto=c'→X.Inv σ' s'→Ext (λa=>FW ft env a∨a=acc∨W a) Wg σ₀ s₀ σ' s'→Frm ft env Γ' σ' s'.heap→AccOk σ' acc tot s'.heap→R (.done .next) s')
  (hK:∀{ds Γ σ out new W₁ s},CS X ft env acc W Wg J σ₀ s₀ tg t p tot Γ' c' ds Γ σ out new W₁ s→ds.length<n→R (.again (.compLoop LC depth it (.ref acc) env)) s)
  (S:CS X ft env acc W Wg J σ₀ s₀ tg t p tot Γ' c' ds Γ σ out new W₁ s) (hn:ds.length=n):wpAny X.M A (compTurn LC depth it (.ref acc) env) R E s:=by
 obtain⟨hW1,I,x,F,ac,j,hW,hsum,run⟩:=S
 have o1:=off hW1
 have upF:∀a,W₁ a→(FW ft env a∨a=acc∨W a)∨s₀.heap.get? a=none:=λa q=>(hW1 a q).elim (λq=>.inl (.inr (.inr q))) .inr
 cases ds with
 | nil=>
  refine uJ hturn (hI.stop I j hW) λs1 q=>?_
  cases run
  exact hdone σ s1 rfl q.1 (x.join I q.2 upF) (F.extW q.2 o1.1.l o1.1.c) (hsum▸(by rw[List.append_nil];exact ac.ext q.2 o1.2))
 | cons d ds=>
  refine rj hturn (hI.step I j hW) (K:=λs=>R (.again (.compLoop LC depth it (.ref acc) env)) s) (λv s2 q=>?_) λ_ k=>k
  obtain⟨g',W₂,hW2,I2,x2,w2,r2,j2⟩:=q
  have hW2':∀a,W₂ a→W a∨s₀.heap.get? a=none:=λa q=>(hW2 a q).elim (hW1 a) λq=>(Ext.back I x q).elim .inr λq'=>q'.elim (λh=>(F.there h).elim λ_ e=>nE (q.symm.trans e)) λq'=>q'.elim (λh=>ac.there.elim λ_ e=>nE (q.symm.trans (h▸e))) .inl
  have F2:Frm ft env Γ ⟨g',σ.own,σ.sto⟩ s2.heap:=F.extW x2 o1.1.l o1.1.c
  have a2:=ac.ext x2 o1.2
  have x02:=x.join I x2 upF
  have own':∀a,W₂ a→a∉σ.own:=λa h=>(hW2 a h).elim (λq=>(hW a q).2) λq=>(I.notIn q).1
  have o2:=off hW2'
  have nacc:¬FW ft env acc:=let ⟨_,_,vs,n,e,_⟩:=a2;zl F2 e
  clear upF hW1 hW2 x o1 F ac
  refine bE run λΓ1 e1 run=>bE2 run λb c1 e2 run=>bE3 run λnw Γ2 c2 e3 run=>mE3 run λmore Γ3 c3 e4 run=>?_
  injection run with h1 run
  injection run with h2 h3
  rw[h2,h3]at e4
  refine wpAny_mono (hT Γ ⟨g',σ.own,σ.sto⟩ s2 d v Γ1 I2 F2 r2 e1) (λ_ s3 q=>wpAny_mono (ht Γ1 ⟨g',σ.own,σ.sto⟩ s3 b c1 q.1 q.2.2 e2) (λok s4 p=>?_) λ_ _ f=>f) λ_ _ f=>f
  obtain⟨I3,x3,F3⟩:=q
  obtain⟨hb,σ4,q4,I4,x4⟩:=p
  have x24:=x3.trans I3 (x4.up (W:=FW ft env) (Wg:=NoG))
  have a4:=(a2.ext x3 nacc).ext x4 λf=>f
  have F4:=F3.ext x4
  have tail:∀σ5 s5,σ5.sto=c2→X.Inv σ5 s5→Ext (λa=>FW ft env a∨a=acc) NoG ⟨g',σ.own,σ.sto⟩ s2 σ5 s5→Frm ft env Γ2 σ5 s5.heap→AccOk σ5 acc (out++nw) s5.heap→R (.again (.compLoop LC depth it (.ref acc) env)) s5:=λσ5 s5 q5 I5 x25 F5 a5=>
   have hne:∀a,W₂ a→¬(FW ft env a∨a=acc):=λa hw q=>q.elim (o2.1.fw hw) λq=>o2.2 (q▸hw)
   hK { hW1:=hW2',I:=I5,F:=F5,ac:=a5,run:=q5▸e4,x:=x02.trans I2 (x25.weaken (λ_ h=>h.elim .inl λq=>.inr (.inl q)) λ_ h=>h.elim),j:=hI.frame j2 x25.le I2.sub I5.sub (λa o hw e=>x25.keep a o e (own' a hw) (hne a hw)) λi y _ e=>x25.gens i y e λh=>h,hW:=λa hw=>(hI.there j2 a hw).elim λo ho'=>x25.stay ho' (w2 a hw) (own' a hw) (hne a hw),sum:=by rw[←hsum,←h1,List.append_assoc] } (hn▸Nat.lt_succ_self _)
  clear hK j2 x02
  rw[←q4]at e3
  refine⟨λe=>?_,λe=>?_⟩<;>rw[←hb,e]at e3
  ·exact wpAny_mono (hp Γ1 σ4 s4 out nw Γ2 c2 I4 F4 a4 (Nat.le_trans (by rw[←hsum,←h1,List.length_append,List.length_append];(first|lia|omega)) htot) e3) (λ_ s5 q=>by
    obtain⟨σ5,q5,I5,x5,F5,a5⟩:=q
    exact tail σ5 s5 q5 I5 ((x24.weaken (λ_ h=>.inl h) λ_ h=>h).trans I4 x5) F5 a5) λ_ _ f=>f
  ·cases e3
   exact tail σ4 s4 rfl I4 (x24.weaken (λ_ h=>.inl h) λ_ h=>h) F4 (by rw[List.append_nil];exact a4)
theorem sI{elt:Expr}{gens:List Comprehension}{sc:Scope}{pos:Pos}{depth:Nat}{it:Value}{acc:Addr}{tgt:Expr}{ifs:List Expr}{inner:Sem Unit}{tg:Tg}{t:PB}{p:PC}{W:Addr→Prop}{Wg:Nat→Prop}{J:(Addr→Prop)→Heap→List D→Shared→Prop}
  {σ₀:Sg} {s₀:Shared} {ds₀ out₀ new₀:List D} {Γ₀:List Slot}
  (hturn:kN X A (.ListComp elt gens sc pos) depth it (.ref acc) env tgt ifs inner)
  (hI:lM X A tgt it Wg J) (hT:dJ X A ft env tgt tg) (ht:ej X A ft env ifs t) (hp:j8 X A ft env acc inner p)
  (hWL:¬W env.locals) (hWC:∀(i:Nat) (y:Str) (k:VK) (c:Addr),ft.nt[i]?=some (y,k)→k≠.l→env.cells.lookup y=some c→¬W c) (hWA:¬W acc)
  (I₀:X.Inv σ₀ s₀) (F₀:Frm ft env Γ₀ σ₀ s₀.heap) (a₀:AccOk σ₀ acc out₀ s₀.heap) (J₀:J W σ₀.g ds₀ s₀) (W₀:∀a,W a→σ₀.g.get? a=none∧a∉σ₀.own)
  (hl₀:out₀.length+new₀.length≤100000) (hrun₀:bN tg t p ds₀ Γ₀ σ₀.sto=some (new₀,Γ',c')) {R:Result→Shared→Prop}
  (hR:∀σ' s',σ'.sto=c'→X.Inv σ' s'→Ext (λa=>FW ft env a∨a=acc∨W a) Wg σ₀ s₀ σ' s'→Frm ft env Γ' σ' s'.heap→AccOk σ' acc (out₀++new₀) s'.heap→R (.ok .next) s') :
  codeAny X.M A (.compLoop (.ListComp elt gens sc pos) depth it (.ref acc) env) R s₀:=by
 refine codeAny_loop rfl (λn s=>∃ds Γ σ out new W₁,ds.length=n∧CS X ft env acc W Wg J σ₀ s₀ tg t p (out₀++new₀) Γ' c' ds Γ σ out new W₁ s) (λn s S=>?_) ds₀.length ⟨ds₀,Γ₀,σ₀,out₀,new₀,W,rfl,λ_ q=>.inl q,I₀,.refl _ _ _ _,F₀,a₀,J₀,W₀,rfl,hrun₀⟩
 obtain⟨ds,Γ,σ,out,new,W₁,e,S⟩:=S
 show wpAny _ A ((compTurn (.ListComp elt gens sc pos) depth it (.ref acc) env).onRaise (λx=>do noteFrame x env;theTreesLotGoes x)) _ _ s
 exact wpAny_noted (uI hturn hI hT ht hp (λh1=>⟨IsOff.grow ⟨hWL,hWC⟩ F₀ h1,λhw=>(h1 _ hw).elim hWA λq=>a₀.there.elim λ_ e=>nE (q.symm.trans e)⟩) (by rw[List.length_append];exact hl₀) hR (λS h=>⟨rfl,_,h,_,_,_,_,_,_,rfl,S⟩) S e)
end
end Mine
namespace Mine
section
variable{X:Cx}{A:Around}{ft ft':FT}{env:Env}{Γ Γ':List Slot}{σ:Sg}{s:Shared}{d:D}{c':List Cell}{js:List (Option Nat)}
theorem gR{σ':Sg}{s':Shared}{a:Addr}{o:Obj}(I:X.Inv σ' s')(x:Ext NoW NoG σ s σ' s')(e:s'.heap.get? a=some o)(h1:σ'.g.get? a=none)(h2:a∉σ'.own)(h3:s.heap.get? a=none) :
  X.Inv ⟨cR σ'.g a o,σ'.own,σ'.sto⟩ s'∧Ext NoW NoG σ s ⟨cR σ'.g a o,σ'.own,σ'.sto⟩ s'∧Le σ'.g (cR σ'.g a o)∧(cR σ'.g a o).get? a=some o:=by
 refine⟨I.add e h1 h2,⟨x.le.trans (.put h1),x.own,λb o' q h0=>?_,x.keep,x.gens,x.os⟩,.put h1,dR (ku e)⟩
 by_cases hb:b=a
 ·subst hb;exact .inl h3
 ·have q':(cR σ'.g a o).get? b=some o':=q
  rw[bz hb]at q'
  exact x.fresh b o' q' h0
theorem zi{elt tgt iter:Expr}{ifs:List Expr}{sc:Scope}{pos:Pos}{it acc:Value} :
  kN X A (.ListComp elt [⟨tgt,iter,ifs,0⟩] sc pos) 0 it acc env tgt ifs (do let _ ←call (.builtin "list.append") [acc,←eval elt env]):=λs E R h=>by
 rw[compTurn_list]
 refine wpAny_bind (wpAny_standAt (wpAny_bind (wpAny_mono h (λr s₁ h₁=>?_) λ_ _ h'=>h')))
 cases r with
 | none=>exact wpAny_pure h₁
 | some v=>
  refine wpAny_bind (wpAny_mono h₁ (λ_ s₂ h₂=>wpAny_bind (wpAny_mono h₂ (λ_ s₃ h₃=>wpAny_bind (wpAny_mono h₃ (λok s₄ h₄=>?_) λ_ _ h'=>h')) λ_ _ h'=>h')) λ_ _ h'=>h')
  cases ok with
  | false=>exact wpAny_pure h₄
  | true=>exact wpAny_bind (wpAny_mono h₄ (λ_ s₅ h₅=>wpAny_pure h₅) λ_ _ h'=>h')
noncomputable abbrev oP(LC i2:Expr)(acc:Value)(env:Env):Sem Unit:=do
 let x ←eval i2 env
 standAt i2.pos
 let x ←foldedSetIterable i2 env x
 let _ ←runOwn (.compStart LC 1 (←holding [x] (pyIter x)) acc env) env
theorem rd(elt t1 i1 t2 i2:Expr)(f1 f2:List Expr)(sc:Scope)(pos:Pos)(it acc:Value)(env:Env) :
  compTurn (.ListComp elt [⟨t1,i1,f1,0⟩,⟨t2,i2,f2,0⟩] sc pos) 0 it acc env=(do
   standAt i1.pos
   match ←pyNext it with
   | none=>pure (.done .next)
   | some v=>
    letOwnedTupleGo t1 it v
    assign t1 env v
    let mut ok:=true
    for c in f1 do
     if ok then ok ←isTrue c env (eval c env)
    if ok then
     let x ←eval i2 env
     standAt i2.pos
     let x ←foldedSetIterable i2 env x
     let _ ←runOwn (.compStart (.ListComp elt [⟨t1,i1,f1,0⟩,⟨t2,i2,f2,0⟩] sc pos) 1 (←holding [x] (pyIter x)) acc env) env
    again (.compLoop (.ListComp elt [⟨t1,i1,f1,0⟩,⟨t2,i2,f2,0⟩] sc pos) 0 it acc env)):=by rfl
theorem rf(elt t1 i1 t2 i2:Expr)(f1 f2:List Expr)(sc:Scope)(pos:Pos)(it acc:Value)(env:Env) :
  compTurn (.ListComp elt [⟨t1,i1,f1,0⟩,⟨t2,i2,f2,0⟩] sc pos) 1 it acc env=(do
   standAt i2.pos
   match ←pyNext it with
   | none=>pure (.done .next)
   | some v=>
    letOwnedTupleGo t2 it v
    assign t2 env v
    let mut ok:=true
    for c in f2 do
     if ok then ok ←isTrue c env (eval c env)
    if ok then
     (do let _ ←call (.builtin "list.append") [acc,←eval elt env])
    again (.compLoop (.ListComp elt [⟨t1,i1,f1,0⟩,⟨t2,i2,f2,0⟩] sc pos) 1 it acc env)):=by rfl
theorem A9{elt t1 i1 t2 i2:Expr}{f1 f2:List Expr}{sc:Scope}{pos:Pos}{it acc:Value} :
  kN X A (.ListComp elt [⟨t1,i1,f1,0⟩,⟨t2,i2,f2,0⟩] sc pos) 1 it acc env t2 f2 (do let _ ←call (.builtin "list.append") [acc,←eval elt env]):=λs E R h=>by
 rw[rf]
 refine wpAny_bind (wpAny_standAt (wpAny_bind (wpAny_mono h (λr s₁ h₁=>?_) λ_ _ h'=>h')))
 cases r with
 | none=>exact wpAny_pure h₁
 | some v=>
  refine wpAny_bind (wpAny_mono h₁ (λ_ s₂ h₂=>wpAny_bind (wpAny_mono h₂ (λ_ s₃ h₃=>wpAny_bind (wpAny_mono h₃ (λok s₄ h₄=>?_) λ_ _ h'=>h')) λ_ _ h'=>h')) λ_ _ h'=>h')
  cases ok with
  | false=>exact wpAny_pure h₄
  | true=>exact wpAny_bind (wpAny_mono h₄ (λ_ s₅ h₅=>wpAny_pure h₅) λ_ _ h'=>h')
theorem jK{elt:Expr}{gens:List Comprehension}{sc:Scope}{pos:Pos}{depth:Nat}{it acc:Value}{R:Result→Shared→Prop}(ha:Option.elim (gens[depth]?) false (λg:Comprehension=>g.is_async != 0)=false)
  (h0:codeAny X.M A (.compLoop (.ListComp elt gens sc pos) depth it acc env) R s)
  (h:wpAny X.M A (pyIter it) (λit' s'=>codeAny X.M A (.compLoop (.ListComp elt gens sc pos) depth it' acc env) R s') NoE s) :
  codeAny X.M A (.compStart (.ListComp elt gens sc pos) depth it acc env) R s:=by
 refine codeAny_of_tree ?_
 show wpAny _ A ((compStart (.ListComp elt gens sc pos) depth it acc env).onRaise (λx=>do noteFrame x env;standAt theWindowsPlace)) _ _ s
 refine wpAny_notedAt ?_
 unfold compStart
 have e:clausesOf (.ListComp elt gens sc pos)=gens:=rfl
 rw[e,ha]
 show wpAny _ _ (ask >>= _) _ _ s
 refine wpAny_bind (wpAny_askSetting (wpAny_ite ?_))
 split
 ·first
   | exact wpAny_bind (wpAny_pure (wpAny_pure (And.intro rfl h0)))
   | exact wpAny_pure (And.intro rfl h0)
 ·refine wpAny_bind (wpAny_rule ?_)
  cases q:gens[depth]? with
  | none=>exact wpAny_bind (wpAny_mono h (λit' s' h'=>wpAny_pure (And.intro rfl h')) λ_ _ (f:False)=>False.elim f)
  | some g=>exact wpAny_bind (wpAny_standAt (wpAny_bind (wpAny_mono h (λit' s' h'=>wpAny_pure (And.intro rfl h')) λ_ _ (f:False)=>False.elim f)))
noncomputable def gf(tg:Tg)(src:PL)(t:PB)(p:PC):PC:=λΓ c=>(src Γ c).bind λ(ds,c1)=>bN tg t p ds Γ c1
theorem yZ{elt t1 i1 t2 i2:Expr}{f1 f2:List Expr}{sc:Scope}{pos:Pos}{acc:Addr}{tg:Tg}{src:PL}{t:PB}{p:PC}(h1:et X A ft env t2 i2 src)(hT:dJ X A ft env t2 tg)(ht:ej X A ft env f2 t)
  (hp:j8 X A ft env acc (do let _ ←call (.builtin "list.append") [.ref acc,←eval elt env]) p) (hs:autoParam (∀env x,foldedSetIterable i2 env x=pure x) aR) :
  j8 X A ft env acc (oP (.ListComp elt [⟨t1,i1,f1,0⟩,⟨t2,i2,f2,0⟩] sc pos) i2 (.ref acc) env) (gf tg src t p):=λΓ σ s out new Γ' c' I F a hl h=>by
 (refine bE2 h ?_;(try clear h);intro ds c1 e1 h)
 refine wpAny_bind (wpAny_mono (h1 Γ σ s ds c1 I F e1) (λx s1 h2=>wpAny_bind (wpAny_standAt (wpAny_bind (wpAny_of_eq (hs _ x) (wpAny_bind (wpAny_holding (wpAny_mono h2 (λit s2 h3=>?_) λ_ _ f=>f))))))) λ_ _ f=>f)
 obtain⟨σ2,W,Wg,J,q2,I2,x2,hI,j2,w2,wg2⟩:=h3
 subst q2
 have F2:=F.ext x2
 have hWL:¬W env.locals:=by
  intro hw
  obtain⟨m,hn,_⟩:=F.loc
  obtain⟨o,e⟩:=Heap.Ns.there hn
  rw[(w2 _ hw).1]at e;cases e
 have hWC:∀(i:Nat) (y:Str) (k:VK) (c:Addr),ft.nt[i]?=some (y,k)→k≠.l→env.cells.lookup y=some c→¬W c:=by
  intro i y k c e hk hc hw
  obtain⟨c',hc',ov,⟨o,ho',_⟩,_⟩:=F.cel i y k e hk
  rw[hc]at hc';cases hc'
  rw[(w2 _ hw).1]at ho';cases ho'
 have hWA:¬W acc:=by
  intro hw
  obtain⟨_,_,vs,n,e,_⟩:=a
  rw[(w2 _ hw).1]at e;cases e
 have a2:=a.ext x2 λf=>f
 have goal:codeAny X.M A (.compLoop (.ListComp elt [⟨t1,i1,f1,0⟩,⟨t2,i2,f2,0⟩] sc pos) 1 it (.ref acc) env) (λr s'=>match r with|.ok _=>Bh X ft env acc σ s (out++new) Γ' c' s'|.error e=>cameBackBy X.M A env NoE e s') s2:=by
  refine sI A9 hI hT ht hp hWL hWC hWA I2 F2 a2 j2 (λa h=>(w2 a h).2) hl h λσ' s' q' I' x' F' a'=>⟨σ',q',I',?_,F',a'⟩
  have xx:=(x2.up (W:=λa=>FW ft env a∨a=acc∨W a) (Wg:=Wg)).trans I2 x'
  refine⟨xx.le,?_,?_,?_,?_,xx.os⟩
  ·obtain⟨m,hm,hf⟩:=xx.own
   exact⟨m,hm,λa ha=>(hf a ha).elim .inl λq=>q.elim (λq=>.inr (.inl q)) λq=>q.elim (λq=>.inr (.inr q)) λq=>.inl (w2 a q).1⟩
  ·intro a o e n
   rcases xx.fresh a o e n with h|h|h|h|h
   ·exact .inl h
   ·exact .inr (.inl h)
   ·exact .inr (.inr (.inl h))
   ·exact .inr (.inr (.inr h))
   ·exact .inl (w2 a h).1
  ·intro a o e n hw
   refine xx.keep a o e n λq=>q.elim (λq=>hw (.inl q)) λq=>q.elim (λq=>hw (.inr q)) λq=>?_
   rw[(w2 a q).1]at e;cases e
  ·intro i y e _
   refine xx.gens i y e λq=>?_
   rw[wg2 i q]at e;cases e
 refine wpAny_bind (wpAny_runOwn (jK rfl (codeAny_mono goal λr s' h=>?_) (hI.self j2 I2.sub (codeAny_mono goal λr s' h=>?_))))
 ·cases r with
  | ok f=>exact wpAny_pure h
  | error e=>exact h
 ·cases r with
  | ok f=>exact wpAny_pure h
  | error e=>exact h
theorem iV{elt tgt iter:Expr}{ifs:List Expr}{rest:List Comprehension}{sc:Scope}{pos ps:Pos}{use:Option (Value→Sem Unit)}{Q:Value→Shared→Prop}{src:PL}{tg:Tg}{t:PB}{p:PC}{inner:Value→Env→Sem Unit}{out:List D}
  (fit:Fits ft' sc) (hcdc:∀v,ft'.cd=some v→ft.cd=some v) (hcap:Capt ft ft'.nt js) (h1:et X A ft env tgt iter src) (hs:∀x,foldedSetIterable iter env x=pure x)
  (hturn:∀it acc env',kN X A (.ListComp elt (⟨tgt,iter,ifs,0⟩::rest) sc pos) 0 it acc env' tgt ifs (inner acc env'))
  (hT:∀env',dJ X A ft' env' tgt tg) (ht:∀env',ej X A ft' env' ifs t) (hp:∀(acc:Addr) env',j8 X A ft' env' acc (inner (.ref acc) env') p)
  (I:X.Inv σ s) (F:Frm ft env Γ σ s.heap) {c1:List Cell} {Γe:List Slot} {ds:List D} (e1:src Γ σ.sto=some (ds,c1)) (e2:bN tg t p ds (bS js Γ) c1=some (out,Γe,c')) (hlen:out.length≤100000)
  (hend:∀acc C σ3 s3 m,σ3.sto=c'→X.Inv σ3 s3→Ext NoW NoG σ s σ3 s3→Frm ft env Γ σ3 s3.heap→Rel σ3.g (.ref acc) (.lst out)→s3.heap.Ns C m→s.heap.get? C=none→C∉σ3.own→σ3.g.get? C=none→compPost X.M A NoE use Q (.ref acc) C (.ok .next) s3) :
  wpAny X.M A (comprehension (.ListComp elt (⟨tgt,iter,ifs,0⟩::rest) sc pos) sc env ps (newList []) false (eval iter env) use) Q NoE s:=by
 have hfr:∀x,(x,NameKind.free)∈sc.names→∃c,env.cells.lookup x=some c:=λx hx=>by
  obtain⟨i,hi⟩:=List.mem_iff_getElem?.mp (fit.frees x hx)
  obtain⟨j,k,_,h2,h3⟩:=hcap.free hi
  obtain⟨c,hc,_⟩:=F.cel j x k h2 h3
  exact⟨c,hc⟩
 obtain⟨cl,hclos,hcl⟩:=lT hfr
 have hcl':∀x,(x,VK.f)∈ft'.nt→cl.lookup x=env.cells.lookup x:=λx hx=>hcl x (mem_of_lookup (fit.f x hx).1)
 refine wpAny_comprehension_free (g:=⟨tgt,iter,ifs,0⟩) (gs:=rest) (cl:=cl) rfl hs hclos fit.kind fit.locals (wpAny_mono (h1 Γ σ s ds c1 I F e1) (λx s1 h2=>wpAny_mono h2 (λit s2 h3=>?_) λ_ _ f=>f) λ_ _ f=>f)
 obtain⟨σ2,W,Wg,J,q2,I2,x2,hI,j2,w2,wg2⟩:=h3
 subst q2
 have F2:=F.ext x2
 refine wpAny_newObj_type ?_
 obtain⟨I3,x3⟩:=jT (o:=cI ([]:List Value).toArray 0) (tk:=s2.toks) I2
 have nacc:s2.heap.get? s2.heap.objs.size=none:=get?_push_none
 have eacc:(s2.heap.push (cI ([]:List Value).toArray 0)).get? s2.heap.objs.size=some (cI ([]:List Value).toArray 0):=Heap.get?_push_size _ rfl
 have F3:=F2.ext x3
 have a3:AccOk σ2 s2.heap.objs.size [] (s2.heap.push (cI ([]:List Value).toArray 0)):=⟨(I2.notIn nacc).2,(I2.notIn nacc).1,[],0,eacc,.nil⟩
 show wpAny _ _ (newFunctionEnv sc env.globals cl [] env.qual none .none (some env)) _ _ { s2 with heap:=s2.heap.push (cI ([]:List Value).toArray 0),toks:=s2.toks }
 rw[F.ok.glob]
 refine gA (Γ:=bS js Γ) I3 fit (by unfold bS;rw[List.length_map];exact hcap.length) (sG hcap) (nr hcap F3 hcl') F.ok.blt (λv hv=>F.ok.code v (hcdc v hv)) .nil λcenv s4 hce I4 x4 F4 w4 l4=>?_
 have F4':Frm ft' { cenv with scope:=relabel sc env } (bS js Γ) σ2 s4.heap:=F4.reenv rfl rfl (fit.relab rfl (by rw[hce];rfl) (by rw[hce];exact F.ok.blt) (λv hv=>by rw[hce];exact F.ok.code v (hcdc v hv)))
 have a4:=a3.ext x4 λf=>f
 have x24:=x3.trans I3 x4
 have j4:J W σ2.g ds s4:=hI.frame j2 (.refl _) I2.sub I4.sub (λa o hw e=>x24.keep a o e (w2 a hw).2.2 λf=>f) λi y _ e=>x24.gens i y e λf=>f
 have w3:∀a,W a→∃o,s2.heap.get? a=some o:=hI.there j2
 have wx3:∀a,W a→∃o,(s2.heap.push (cI ([]:List Value).toArray 0)).get? a=some o:=λa hw=>let ⟨o,e⟩:=w3 a hw;⟨o,Heap.get?_push_of_some _ e⟩
 have hWL:¬W cenv.locals:=by
  intro hw
  obtain⟨o,e⟩:=wx3 _ hw
  have:=w4 _ (.inl rfl)
  rw[this]at e;cases e
 have hWC:∀(i:Nat) (y:Str) (k:VK) (c:Addr),ft'.nt[i]?=some (y,k)→k≠.l→cenv.cells.lookup y=some c→¬W c:=by
  intro i y k c e hk hc hw
  cases k with
  | l=>exact hk rfl
  | c=>
   obtain⟨o,e'⟩:=wx3 _ hw
   have:=w4 _ (.inr ⟨i,y,e,hc⟩)
   rw[this]at e';cases e'
  | f=>
   rw[l4 y (dc e),hcl' y (dc e)]at hc
   obtain⟨j,k,_,h2,h3⟩:=hcap.free e
   obtain⟨c',hc',ov,⟨o,ho',_⟩,_⟩:=F.cel j y k h2 h3
   rw[hc]at hc';cases hc'
   rw[(w2 _ hw).1]at ho';cases ho'
 have hWA:¬W s2.heap.objs.size:=by
  intro hw
  obtain⟨o,e⟩:=w3 _ hw
  rw[nacc]at e;cases e
 have goal:codeAny X.M A (.compLoop (.ListComp elt (⟨tgt,iter,ifs,0⟩::rest) sc pos) 0 it (.ref s2.heap.objs.size) { cenv with scope:=relabel sc env }) (compPost X.M A NoE use Q (.ref s2.heap.objs.size) cenv.locals) s4:=by
  refine sI (env:={ cenv with scope:=relabel sc env }) (hturn it _ _) hI (hT _) (ht _) (hp _ _) hWL hWC hWA I4 F4' a4 j4 (λa h=>(w2 a h).2) (by simpa using hlen) e2 λσ' s' q' I' x' F' a'=>?_
  rw[List.nil_append]at a'
  obtain⟨g1,g2,vs,n,e,r⟩:=a'
  have back:∀a,s2.heap.get? a=none→s.heap.get? a=none:=λa e=>(Ext.back I2 x2 e).elim id λf=>f.elim
  have back3:∀a,(s2.heap.push (cI ([]:List Value).toArray 0)).get? a=none→s2.heap.get? a=none:=λa e=>by
   cases q:s2.heap.get? a with
   | none=>rfl
   | some o=>rw[Heap.get?_push_of_some _ q]at e;cases e
  have xx:Ext NoW NoG σ s σ' s':=((((x2.trans I2 x24).up (W:=λa=>FW ft' { cenv with scope:=relabel sc env } a∨a=s2.heap.objs.size∨W a) (Wg:=Wg)).trans I4 x')).drop
   (λa h=>h.elim (λh=>back a (back3 a (w4 a h))) λh=>h.elim (λh=>back a (h▸nacc)) λh=>(w2 a h).1) wg2
  obtain⟨I5,x5,le5,e5⟩:=gR I' xx e g1 g2 (back _ nacc)
  obtain⟨m,hn,_⟩:=F'.loc
  have hCn:s.heap.get? cenv.locals=none:=back _ (back3 _ (w4 _ (.inl rfl)))
  have hCe:cenv.locals≠s2.heap.objs.size:=λq=>by
   obtain⟨o,es,ep,ho,hd,_⟩:=hn
   have q':({ cenv with scope:=relabel sc env }:Env).locals=s2.heap.objs.size:=q
   rw[q',e]at ho;cases ho;cases hd
  refine hend _ _ ⟨cR σ'.g s2.heap.objs.size (cI vs.toArray n),σ'.own,σ'.sto⟩ s' m q' I5 x5 (F.ext x5) (.lst e5 (r.mono le5)) hn hCn F'.offL.2 ?_
  show (cR σ'.g _ _).get? _=none
  rw[bz hCe]
  exact F'.offL.1
 exact jK rfl goal (hI.self j4 I4.sub goal)
end
end Mine
namespace Mine
section
variable{X:Cx}{A:Around}{ft ft':FT}{env:Env}{Γ Γ':List Slot}{σ:Sg}{s:Shared}{d:D}{c':List Cell}{js:List (Option Nat)}
noncomputable def aY(js:List (Option Nat))(src:PL)(tg:Tg)(t:PB)(p:PC):PE:=λΓ c=>(src Γ c).bind λ(ds,c1)=>(bN tg t p ds (bS js Γ) c1).bind λ(out,_,c2)=>if out.length≤100000 then some (.lst out,c2)else none
theorem gY{src:PL}{tg:Tg}{t:PB}{p:PC}{c:List Cell}(h:aY js src tg t p Γ c=some (d,c')):∃ds c1 out Γe,src Γ c=some (ds,c1)∧bN tg t p ds (bS js Γ) c1=some (out,Γe,c')∧out.length≤100000∧d=.lst out:=by
 (refine bE2 h ?_;(try clear h);intro ds c1 e1 h)
 (refine bE3 h ?_;(try clear h);intro out Γe c2 e2 h)
 dsimp only at h
 (first|(refine iE h ?_ ?_<;>(clear h;intro _ h))|split at h)
 ·rename_i hl
  cases h
  exact⟨ds,c1,out,Γe,e1,e2,hl,rfl⟩
 ·cases h
theorem cg{elt tgt iter:Expr}{ifs:List Expr}{sc:Scope}{pos:Pos}{src:PL}{tg:Tg}{t:PB}{p:PE}(fit:Fits ft' sc)(hcap:Capt ft ft'.nt js)(h1:et X A ft env tgt iter src)
  (hT:∀env',dJ X A ft' env' tgt tg) (ht:∀env',ej X A ft' env' ifs t) (hp:∀env',SoundE X A ft' env' elt p) (hs:autoParam (∀env x,foldedSetIterable iter env x=pure x) aR) (hcdc:autoParam (∀v,ft'.cd=some v→ft.cd=some v) aC) :
  SoundE X A ft env (.ListComp elt [⟨tgt,iter,ifs,0⟩] sc pos) (aY js src tg t (aS p)):=λΓ σ s d c' I F h=>by
 obtain⟨ds,c1,out,Γe,e1,e2,hl,rfl⟩:=gY h
 rw[eval_ListComp]
 refine iV (use:=none) fit hcdc hcap h1 (hs _) (λ_ _ _=>zi) hT ht (λacc env'=>ue (hp env')) I F e1 e2 hl λacc C σ3 s3 m q3 I3 x3 F3 r3 hn hC hC1 hC2=>⟨m,hn,λh' hs'=>?_⟩
 have keep:∀a o,s3.heap.get? a=some o→¬(a=C)→h'.get? a=some o:=λa o e ha=>(hs'.2 a ha).trans e
 have I4:X.Inv σ3 { s3 with heap:=h',toks:=s3.toks }:=Mine.Inv.heap (W:=λa=>a=C) I3 keep λa e=>e▸⟨hC1,hC2⟩
 have x4:Ext (λa=>a=C) NoG σ3 s3 σ3 { s3 with heap:=h',toks:=s3.toks }:=Ext.heap keep
 exact⟨σ3,q3,I4,((x3.up (W:=λa=>a=C) (Wg:=NoG)).trans I3 x4).drop (λa e=>e▸hC) (λ_ f=>f.elim),r3⟩
theorem ur{elt t1 i1 t2 i2:Expr}{f1 f2:List Expr}{sc:Scope}{pos:Pos}{it acc:Value} :
  kN X A (.ListComp elt [⟨t1,i1,f1,0⟩,⟨t2,i2,f2,0⟩] sc pos) 0 it acc env t1 f1 (oP (.ListComp elt [⟨t1,i1,f1,0⟩,⟨t2,i2,f2,0⟩] sc pos) i2 acc env):=λs E R h=>by
 rw[rd]
 refine wpAny_bind (wpAny_standAt (wpAny_bind (wpAny_mono h (λr s₁ h₁=>?_) λ_ _ h'=>h')))
 cases r with
 | none=>exact wpAny_pure h₁
 | some v=>
  refine wpAny_bind (wpAny_mono h₁ (λ_ s₂ h₂=>wpAny_bind (wpAny_mono h₂ (λ_ s₃ h₃=>wpAny_bind (wpAny_mono h₃ (λok s₄ h₄=>?_) λ_ _ h'=>h')) λ_ _ h'=>h')) λ_ _ h'=>h')
  cases ok with
  | false=>exact wpAny_pure h₄
  | true=>
   have q:wpAny X.M A ((oP (.ListComp elt [⟨t1,i1,f1,0⟩,⟨t2,i2,f2,0⟩] sc pos) i2 acc env) >>= λ_=>again (.compLoop (.ListComp elt [⟨t1,i1,f1,0⟩,⟨t2,i2,f2,0⟩] sc pos) 0 it acc env)) R E s₄:=wpAny_bind (wpAny_mono h₄ (λ_ s₅ h₅=>wpAny_pure h₅) λ_ _ h'=>h')
   simp only[oP,bind_assoc,pure_bind]at q
   exact q
theorem CC{elt t1 i1 t2 i2:Expr}{f1 f2:List Expr}{sc:Scope}{pos:Pos}{src:PL}{tg:Tg}{t:PB}{src2:PL}{tg2:Tg}{tt2:PB}{p:PE}(fit:Fits ft' sc)(hcap:Capt ft ft'.nt js)(h1:et X A ft env t1 i1 src)
  (hT:∀env',dJ X A ft' env' t1 tg) (ht:∀env',ej X A ft' env' f1 t) (h2:∀env',et X A ft' env' t2 i2 src2) (hT2:∀env',dJ X A ft' env' t2 tg2) (ht2:∀env',ej X A ft' env' f2 tt2) (hp:∀env',SoundE X A ft' env' elt p)
  (hs:autoParam (∀env x,foldedSetIterable i1 env x=pure x) aR) (hs2:autoParam (∀env x,foldedSetIterable i2 env x=pure x) aR) (hcdc:autoParam (∀v,ft'.cd=some v→ft.cd=some v) aC) :
  SoundE X A ft env (.ListComp elt [⟨t1,i1,f1,0⟩,⟨t2,i2,f2,0⟩] sc pos) (aY js src tg t (gf tg2 src2 tt2 (aS p))):=λΓ σ s d c' I F h=>by
 obtain⟨ds,c1,out,Γe,e1,e2,hl,rfl⟩:=gY h
 rw[eval_ListComp]
 refine iV (use:=none) (rest:=[⟨t2,i2,f2,0⟩]) fit hcdc hcap h1 (hs _) (λ_ _ _=>ur) hT ht (λacc env'=>yZ (h2 env') (hT2 env') (ht2 env') (ue (hp env')) hs2) I F e1 e2 hl λacc C σ3 s3 m q3 I3 x3 F3 r3 hn hC hC1 hC2=>⟨m,hn,λh' hs'=>?_⟩
 have keep:∀a o,s3.heap.get? a=some o→¬(a=C)→h'.get? a=some o:=λa o e ha=>(hs'.2 a ha).trans e
 have I4:X.Inv σ3 { s3 with heap:=h',toks:=s3.toks }:=Mine.Inv.heap (W:=λa=>a=C) I3 keep λa e=>e▸⟨hC1,hC2⟩
 have x4:Ext (λa=>a=C) NoG σ3 s3 σ3 { s3 with heap:=h',toks:=s3.toks }:=Ext.heap keep
 exact⟨σ3,q3,I4,((x3.up (W:=λa=>a=C) (Wg:=NoG)).trans I3 x4).drop (λa e=>e▸hC) (λ_ f=>f.elim),r3⟩
theorem mK{elt:Expr}{gens:List Comprehension}{sc:Scope}{pos py:Pos}{y:Str}{n:Nat}(hk:env.scope.kind=.function)(hy:env.kindOf y=some .local)
  (hl:(py.line==pos.line && !(sc.names.any λ(n,k)=>n==y && (k==.local || k==.cell)))=true):swapsWith (.ListComp elt gens sc pos) (some (.Name y py)) n env=pure true:=by
 unfold swapsWith
 simp only[Env.blockKind,hk,hy]
 have e:(Expr.ListComp elt gens sc pos).pos=pos:=rfl
 rw[e]
 show pure (true && true && (py.line==pos.line) && _)=_
 rw[Bool.and_true,Bool.true_and,hl]
theorem fV{elt:Expr}{gens:List Comprehension}{sc:Scope}{pos py:Pos}{y:Str}{n:Nat}(hy:env.kindOf y=some .cell):swapsWith (.ListComp elt gens sc pos) (some (.Name y py)) n env=pure false:=by
 unfold swapsWith
 simp[hy,show (NameKind.cell==NameKind.local)=false from rfl]
theorem fT{i:Nat}{y:Str}{py spos:Pos}{elt tgt iter:Expr}{ifs:List Expr}{sc:Scope}{pos:Pos}{src:PL}{tg:Tg}{t:PB}{p:PE}(hi:ft.nt[i]?=some (y,.l))(fit:Fits ft' sc)(hcap:Capt ft ft'.nt js)(h1:et X A ft env tgt iter src)
  (hT:∀env',dJ X A ft' env' tgt tg) (ht:∀env',ej X A ft' env' ifs t) (hp:∀env',SoundE X A ft' env' elt p) (hs:autoParam (∀env x,foldedSetIterable iter env x=pure x) aR) (hcdc:autoParam (∀v,ft'.cd=some v→ft.cd=some v) aC)
  (hl:autoParam ((py.line==pos.line && !(sc.names.any λ(n,k)=>n==y && (k==.local || k==.cell)))=true) aR) :
  aN X A ft env (.Assign [.Name y py] (.ListComp elt [⟨tgt,iter,ifs,0⟩] sc pos) spos) (bf i (aY js src tg t (aS p))):=λΓ σ s fl Γ' c' I F h=>by
 (refine mE2 h ?_;(try clear h);intro d c1 e0 h)
 cases h
 obtain⟨ds,c1,out,Γe,e1,e2,hlen,rfl⟩:=gY e0
 rw[exec_Assign_Name_used _ _ _ _ (mK F.ok.kind (jv (F.ok.kinds _ (dc hi))) hl)]
 refine wpAny_bind (wpAny_standAt (wpAny_bind ?_))
 show wpAny _ A (do let _ ←comprehension (.ListComp elt [⟨tgt,iter,ifs,0⟩] sc pos) sc env _ (newList []) false (eval iter env) (some (assign (.Name y py) env))) _ _ s
 refine wpAny_bind (wpAny_mono (iV (use:=some (assign (.Name y py) env)) (Q:=λ_ s'=>PostS X ft env σ s .next (aT i (.lst out) Γ) c' .next s') fit hcdc hcap h1 (hs _) (λ_ _ _=>zi) hT ht (λacc env'=>ue (hp env')) I F e1 e2 hlen ?_)
  (λ_ s' hq=>wpAny_pure (wpAny_pure hq)) λ_ _ e=>e)
 intro acc C σ3 s3 m q3 I3 x3 F3 r3 hn hC hC1 hC2
 show wpAny _ A (assign (.Name y py) env (.ref acc)) _ _ _
 refine wpAny_assign_Name (cT I3 F3 hi (by intro q;cases q) (sl:=.val (.lst out)) r3 λs4 I4 x4 F4=>?_)
 have hCW:¬FW ft env C:=by
  rintro (rfl|⟨i,x,h1,h2⟩)
  ·obtain⟨m,hn,_⟩:=F.loc
   obtain⟨o,e⟩:=Heap.Ns.there hn
   rw[hC]at e;cases e
  ·obtain⟨c,hc,ov,⟨o,ho,_⟩,_⟩:=F.cel i x _ h1 (by intro q;cases q)
   rw[h2]at hc;cases hc
   rw[hC]at ho;cases ho
 refine⟨m,hn.at' λo e=>x4.keep _ o e hC1 hCW,λh' hs'=>?_⟩
 have keep:∀a o,s4.heap.get? a=some o→¬(a=C)→h'.get? a=some o:=λa o e ha=>(hs'.2 a ha).trans e
 have I5:X.Inv σ3 { s4 with heap:=h',toks:=s4.toks }:=Mine.Inv.heap (W:=λa=>a=C) I4 keep λa e=>e▸⟨hC1,hC2⟩
 have x5:Ext (λa=>a=C) NoG σ3 s4 σ3 { s4 with heap:=h',toks:=s4.toks }:=Ext.heap keep
 have F5:Frm ft env (aT i (.lst out) Γ) σ3 h':=F4.extW x5 (λq=>hCW (.inl q.symm)) λi y k c hi hk hc q=>by
  obtain⟨c',hc',ov,⟨o,ho,_⟩,_⟩:=F.cel i y k hi hk
  rw[hc]at hc';cases hc'
  subst q
  rw[hC]at ho;cases ho
 have xx:Ext (λa=>FW ft env a∨a=C) NoG σ s σ3 { s4 with heap:=h',toks:=s4.toks }:=((x3.up).trans I3 (x4.weaken (λ_ h=>.inl h) λ_ h=>h)).trans I4 (x5.weaken (λ_ h=>.inr h) λ_ h=>h)
 refine⟨σ3,q3,I5,⟨xx.le,?_,?_,?_,xx.gens,xx.os⟩,F5,trivial⟩
 ·obtain⟨m,hm,hf⟩:=xx.own
  exact⟨m,hm,λa ha=>(hf a ha).elim .inl λq=>q.elim .inr λq=>.inl (q▸hC)⟩
 ·intro a o e n
  rcases xx.fresh a o e n with h|h|h|h
  ·exact .inl h
  ·exact .inr (.inl h)
  ·exact .inr (.inr h)
  ·exact .inl (h▸hC)
 ·intro a o e n hw
  refine xx.keep a o e n λq=>q.elim hw λq=>?_
  rw[q,hC]at e;cases e
end
end Mine
namespace Mine
inductive RelSs (σ:Sg):List Value→List Slot→Prop
 | nil:RelSs σ [] []
 | cons {v:Value} {sl:Slot} {vs:List Value} {sls:List Slot}:RelS σ v sl→RelSs σ vs sls→RelSs σ (v::vs) (sl::sls)
theorem RelSs.length{σ:Sg}{vs:List Value}{sls:List Slot}(h:RelSs σ vs sls):vs.length=sls.length:=by induction h<;>simp_all
theorem RelSs.mono{σ σ':Sg}{vs:List Value}{sls:List Slot}(hg:Le σ.g σ'.g)(ho:∃more,σ'.own=σ.own++more)(h:RelSs σ vs sls):RelSs σ' vs sls:=by
 induction h with
 | nil=>exact .nil
 | cons r _ ih=>exact .cons (r.mono hg ho) ih
theorem Inv.cut{T:Tp}{σ:Sg}{s:Shared}(I:Inv T σ s)(n:Nat):Inv T ⟨σ.g,σ.own.take n,σ.sto.take n⟩ s:=by
 have at':∀{α:Type} {l:List α} {k:Nat} {x:α},(l.take n)[k]?=some x→l[k]?=some x:=λh=>by
  rw[List.getElem?_take]at h
  (first|(refine iE h ?_ ?_<;>(clear h;intro _ h))|split at h)
  ·exact h
  ·cases h
 exact⟨I.sub,by simp[I.len],I.nodup.sublist (List.take_sublist _ _),λk a c h1 h2=>I.cells k a c (at' h1) (at' h2),λk a c h1 h2=>I.off k a c (at' h1) (at' h2),I.top,I.bare,I.tk⟩
theorem Ext.cut{T:Tp}{W:Addr→Prop}{Wg:Nat→Prop}{σ σ':Sg}{s s':Shared}(I:Inv T σ s)(x:Ext W Wg σ s σ' s'):Ext W Wg σ s ⟨σ'.g,σ'.own.take σ.sto.length,σ'.sto.take σ.sto.length⟩ s':=by
 obtain⟨m,hm,_⟩:=x.own
 have:σ'.own.take σ.sto.length=σ.own:=by rw[hm,←I.len,List.take_left]
 exact⟨x.le,⟨[],by rw[List.append_nil];exact this,λ_ h=>(nomatch h)⟩,x.fresh,x.keep,x.gens,x.os⟩
noncomputable abbrev PA:=List Slot→List Cell→Option (List Slot×List Cell)
noncomputable def CQ(X:Cx)(σ:Sg)(s:Shared)(sls:List Slot)(c':List Cell)(vs:List Value)(s':Shared):Prop:=
 ∃σ',σ'.sto=c'∧X.Inv σ' s'∧Ext NoW NoG σ s σ' s'∧RelSs σ' vs sls
noncomputable def gI(X:Cx)(A:Around)(ft:FT)(env:Env)(pos:Pos)(es:List Expr)(p:PA):Prop:=
 ∀Γ σ s d c',X.Inv σ s→Frm ft env Γ σ s.heap→p Γ σ.sto=some (d,c')→wpAny X.M A (spliced (backTo pos (starEach es env))) (CQ X σ s d c') NoE s
section
variable{X:Cx}{A:Around}{ft:FT}{env:Env}{Γ Γ':List Slot}{σ:Sg}{s:Shared}{d:D}{c':List Cell}
theorem Ext.ownMore{W:Addr→Prop}{Wg:Nat→Prop}{σ':Sg}{s':Shared}(x:Ext W Wg σ s σ' s'):∃more,σ'.own=σ.own++more:=by
 obtain⟨m,h,_⟩:=x.own
 exact⟨m,h⟩
noncomputable def aX:PA:=λ_ c=>some ([],c)
noncomputable def aG(p:PE)(ps:PA):PA:=λΓ c=>(p Γ c).bind λ(d,c1)=>(ps Γ c1).map λ(ds,c2)=>(.val d::ds,c2)
noncomputable def dZ(i:Nat)(ps:PA):PA:=λΓ c=>match Γ[i]? with
 | some (.ref k)=>(ps Γ c).map λ(ds,c2)=>(.ref k::ds,c2)
 | _=>none
noncomputable def tY(es:PL)(ps:PA):PA:=λΓ c=>(es Γ c).bind λ(ds,c1)=>if ds.length≤100000 then(ps Γ (c1++[.lst ds])).map λ(sls,c2)=>(.ref c1.length::sls,c2)else none
theorem d8{pos:Pos}:gI X A ft env pos [] aX:=λΓ σ s d c' I F h=>by
 cases h;exact wpAny_items_nil ⟨σ,rfl,I,.refl _ _ _ _,.nil⟩
theorem bO{pos:Pos}{e:Expr}{es:List Expr}{p:PE}{ps:PA}(h1:SoundE X A ft env e p)(h2:gI X A ft env pos es ps)(he:autoParam (∀env,starEach (e::es) env=(false,eval e env)::starEach es env) aR) :
  gI X A ft env pos (e::es) (aG p ps):=λΓ σ s d c' I F h=>by
 (refine bE2 h ?_;(try clear h);intro d1 c1 e1 h)
 (refine mE2 h ?_;(try clear h);intro ds c2 e2 h)
 cases h
 refine wpAny_items_cons (h1.use I F e1 λv σ1 s1 q1 I1 x1 F1 r1=>?_) (he env)
 subst q1
 refine wpAny_mono (h2 Γ σ1 s1 ds _ I1 F1 e2) (λvs s2 qz1=>?_) λ_ _ f=>f
 obtain⟨σ2,q2,I2,x2,r2⟩:=qz1
 exact⟨σ2,q2,I2,x1.trans I1 x2,.cons (Rel.mono x2.le r1) r2⟩
theorem qS{pos px:Pos}{i:Nat}{x:Str}{k:VK}{es:List Expr}{ps:PA}(hi:ft.nt[i]?=some (x,k))(h2:gI X A ft env pos es ps)(he:autoParam (∀env,starEach (.Name x px::es) env=(false,eval (.Name x px) env)::starEach es env) aR) :
  gI X A ft env pos (.Name x px::es) (dZ i ps):=λΓ σ s d c' I F h=>by
 unfold dZ at h
 (first|(refine iE h ?_ ?_<;>(clear h;intro _ h))|split at h)
 ·rename_i k e
  (refine mE2 h ?_;(try clear h);intro ds c2 e2 h)
  cases h
  have hx:=(F.ok.odd x (List.mem_append_left _ (List.mem_map.mpr ⟨_,List.mem_of_getElem? hi,rfl⟩))).1
  refine wpAny_items_cons (eval_Name hx (cS F hi e (by intro q;cases q) λv r=>?_)) (he env)
  refine wpAny_mono (h2 Γ σ s ds _ I F e2) (λvs s2 qz1=>?_) λ_ _ f=>f
  obtain⟨σ2,q2,I2,x2,r2⟩:=qz1
  exact⟨σ2,q2,I2,x2,.cons (r.mono x2.le x2.ownMore) r2⟩
 ·cases h
theorem DU{pos pl:Pos}{ls es:List Expr}{p:PL}{ps:PA}(h1:SoundL X A ft env pl ls p)(h2:gI X A ft env pos es ps)(he:autoParam (∀env,starEach (.List ls pl::es) env=(false,eval (.List ls pl) env)::starEach es env) aR) :
  gI X A ft env pos (.List ls pl::es) (tY p ps):=λΓ σ s d c' I F h=>by
 (refine bE2 h ?_;(try clear h);intro ds c1 e1 h)
 dsimp only at h
 (first|(refine iE h ?_ ?_<;>(clear h;intro _ h))|split at h)
 ·rename_i hl
  (refine mE2 h ?_;(try clear h);intro sls c2 e2 h)
  cases h
  refine wpAny_items_cons (wpAny_List (h1.use I F e1 λvs σ1 s1 q1 I1 x1 F1 r1=>⟨by rw[r1.length];exact bJ hl,?_⟩)) (he env)
  subst q1
  obtain⟨I2,x2⟩:=lF (tk:=s1.toks) I1 r1
  refine wpAny_mono (h2 Γ _ _ sls _ I2 (F1.ext x2) e2) (λvs s2 qz1=>?_) λ_ _ f=>f
  obtain⟨σ2,q2,I3,x3,r3⟩:=qz1
  refine⟨σ2,q2,I3,(x1.trans I1 x2).trans I2 x3,.cons (RelS.mono (σ:=⟨σ1.g,σ1.own++[s1.heap.objs.size],σ1.sto++[.lst ds]⟩) (sl:=.ref σ1.sto.length) x3.le x3.ownMore ⟨s1.heap.objs.size,by rw[←I1.len];simp,rfl⟩) r3⟩
 ·cases h
noncomputable abbrev PF:=List Slot→List Cell→Option (D×List Cell)
noncomputable def FnOk(X:Cx)(n:Nat)(f:Value)(F:PF):Prop:=
 ∀A,Room A n→∀σ s vs sls d c',X.Inv σ s→RelSs σ vs sls→F sls σ.sto=some (d,c')→wpAny X.M A (call f vs) (PostE X σ s d c') NoE s
noncomputable def aJ(F:PF)(pa:PA):PE:=λΓ c=>(pa Γ c).bind λ(sls,c1)=>F sls c1
theorem CA{n:Nat}{x:Str}{np pos:Pos}{e:Expr}{rest:List Expr}{a:Addr}{o:Obj}{fd:FuncData}{F:PF}{pa:PA}(hx:x∈ft.gt)(hv:X.mg x=some (.ref a))(ho:X.g0.get? a=some o)(hd:o.data=.func fd)
  (hA:gI X A ft env pos (e::rest) pa) (hF:FnOk X n (.ref a) F) (hr:Room A n) (he:autoParam (∀env,starEach (e::rest) env=(false,eval e env)::starEach rest env) aR) :
  SoundE X A ft env (.Call (.Name x np) (e::rest) [] pos) (aJ F pa):=λΓ σ s d c' I FF h=>by
 (refine bE2 h ?_;(try clear h);intro sls c1 e1 h)
 refine wpAny_Call_NameR (eval_Name (FF.ok.odd x (List.mem_append_right _ hx)).1 (dz I FF hx hv ?_))
 refine callWith_def hd (wpAny_mono (hA Γ σ s sls c1 I FF e1) (λvs s1 qz1=>?_) λ_ _ f=>f) (he env)
 obtain⟨σ1,q1,I1,x1,r1⟩:=qz1
 subst q1
 exact⟨I1.sub _ _ (I1.top.base _ _ ho),wpAny_mono (hF A hr σ1 s1 vs sls d c' I1 r1 h) (λ_ _ k=>PostE.trans I1 x1 k) λ_ _ f=>f⟩
noncomputable def setFrom:Nat→List Slot→List Slot→List Slot
 | _,[],Γ=>Γ
 | i,sl::sls,Γ=>setFrom (i+1) sls (Γ.set i sl)
theorem qF:∀(sls:List Slot) (i:Nat) (Γ:List Slot),(setFrom i sls Γ).length=Γ.length
 | [],_,_=>rfl
 | sl::sls,i,Γ=>by rw[setFrom,qF sls,List.length_set]
theorem jo:∀(params:List Str) (vs:List Value) (sls:List Slot) (i:Nat) (Γ:List Slot),(∀j x,params[j]?=some x→∃k,ft.nt[i+j]?=some (x,k)∧k≠.f)→RelSs σ vs sls→params.length=vs.length→
  iR ft σ (params.zip vs) Γ (setFrom i sls Γ):=by
 intro params
 induction params with
 | nil=>
  intro vs sls i Γ h r hl
  cases List.eq_nil_of_length_eq_zero hl.symm
  cases r
  exact .nil
 | cons x ps ih=>
  intro vs sls i Γ h r hl
  obtain⟨v,ws,rfl,hl'⟩:=ma hl.symm
  cases r with
  | cons r rs=>
   obtain⟨k,h1,h2⟩:=h 0 x rfl
   exact .cons h1 h2 r (ih ws _ (i+1) _ (λj y hy=>by
    have:=h (j+1) y (by simpa using hy)
    rwa [show i+(j+1)=i+1+j by(first|lia|omega)]at this) rs hl'.symm)
noncomputable def jV(ft:FT)(params:List Str):Bool:=(List.range params.length).all λj=>match params[j]?,ft.nt[j]? with
 | some x,some (y,k)=>x==y && (match k with|.f=>false|_=>true)
 | _,_=>false
theorem rW{params:List Str}(h:jV ft params=true):∀(j:Nat) x,params[j]?=some x→∃k,ft.nt[0+j]?=some (x,k)∧k≠.f:=λj x hx=>by
 have:=List.all_eq_true.mp h j (List.mem_range.mpr (List.getElem?_eq_some_iff.mp hx).1)
 rw[hx]at this
 rw[Nat.zero_add]
 cases q:ft.nt[j]? with
 | none=>rw[q]at this;cases this
 | some p=>
  obtain⟨y,k⟩:=p
  rw[q]at this
  simp only[Bool.and_eq_true,beq_iff_eq]at this
  obtain⟨rfl,hk⟩:=this
  exact⟨k,rfl,by rintro rfl;cases hk⟩
noncomputable def Bz(n:Nat):Fl×List Slot×List Cell→Option (D×List Cell)
 | (.ret d,_,c')=>some (d,c'.take n)
 | (.next,_,c')=>some (.none,c'.take n)
 | _=>none
noncomputable def cC(m k:Nat)(q:PS):PF:=λsls c=>if sls.length=k then(q (setFrom 0 sls (List.replicate m .un)) c).bind (Bz c.length)else none
theorem Bs{n m k:Nat}{a:Addr}{o:Obj}{fd:FuncData}{body:List Stmt}{params:List Str}{q:PS}(ho:X.g0.get? a=some o)(hd:o.data=.func fd)(hcd:X.g0.CodeRec fd.code fd.qualname)(hb:fd.body=.stmts body)
  (hco:fd.scope.isCoroutine=false) (hgen:fd.scope.isGenerator=false) (hgl:fd.globals=mainGlobals) (hbl:fd.builtins=builtinsNs) (fit:Fits ft fd.scope) (hnf:∀x,(x,VK.f)∉ft.nt) (hm:ft.nt.length=m)
  (hk:params.length=k) (hpar:jV ft params=true) (hbind:∀vs:List Value,vs.length=k→bindArgs fd ⟨vs,[]⟩=pure (params.zip vs)) (hbody:∀A env,Room A n→bj X A ft env body q) (hcdf:autoParam (∀v,ft.cd=some v→fd.code=v.1∧fd.qualname++".<locals>." = v.2) aC):FnOk X (n+1) (.ref a) (cC m k q):=by
 intro A hr σ s vs sls d c' I r h
 unfold cC at h
 (first|(refine iE h ?_ ?_<;>(clear h;intro _ h))|split at h)
 ·rename_i hlen
  (refine bE3 h ?_;(try clear h);intro fl Γe ce e1 h)
  have top:=I.top
  refine wpAny_call (codeAny_call_function (by have:=hr.depth;unfold recursionLimit;(first|lia|omega)) (I.sub _ _ (top.base _ _ ho)) hd hco hgen hb ((hcd.keeps top.base).keeps I.sub) ?_)
  rw[hbind vs (by rw[r.length];exact hlen),hgl,hbl]
  refine wpAny_pure (up ?_)
  refine gA (Γ:=List.replicate m .un) I fit (by simp[hm]) (λi x k _ _ sl e=>?_) (λi x e=>absurd (dc e) (hnf x)) rfl hcdf (jo params vs sls 0 _ (rW hpar) r (by rw[hk,r.length,hlen])) λenv s1 he I1 x1 F1 w1 l1=>?_
  ·rw[List.getElem?_replicate]at e
   (first|(refine iE e ?_ ?_<;>(clear e;intro _ e))|split at e)<;>cases e
   rfl
  ·refine⟨(I1.top.nolim).keeps I1.sub,codeAny_func ?_⟩
   refine up (wpAny_mono (hbody (A.deeper env) env hr.deeper (setFrom 0 sls (List.replicate m .un)) σ s1 fl Γe ce I1 F1 e1) (λf s2 qz1=>?_) λ_ _ f=>f)
   obtain⟨σ2,q2,I2,x2,F2,r2⟩:=qz1
   have xx:Ext NoW NoG σ s σ2 s2:=(x1.up.trans I1 x2).drop w1 λ_ f=>f.elim
   have I3:=I2.cut σ.sto.length
   have x3:=xx.cut I
   subst q2
   cases fl with
   | next=>cases f<;>cases r2;cases h;exact⟨_,rfl,I3,x3,.none⟩
   | ret d'=>
    cases f<;>first|(cases r2;done)|skip
    cases h;exact⟨_,rfl,I3,x3,r2⟩
   | brk=>cases h
   | cont=>cases h
 ·cases h
end
end Mine
end
section
open PySem PySem.Calls PySem.Spec PyProof PyProof.Rows PySem.W
set_option maxRecDepth 100000
namespace Mine
section
variable{X:Cx}{A:Around}{ft ft':FT}{env:Env}{Γ Γ':List Slot}{σ:Sg}{s:Shared}{d:D}{c':List Cell}
theorem fJ{k:Nat}{a:Addr}{cl cl':Cell}{h':Heap}{tk:Nat}(I:X.Inv σ s)(ha:σ.own[k]?=some a)(hc:σ.sto[k]?=some cl)(hf:cl.isFz=false)(hs:∀b o,b≠a→s.heap.get? b=some o→h'.get? b=some o)
  (ok:CellOk σ.g h' a cl') (ht:autoParam (s.toks≤tk) aL) :
  X.Inv ⟨σ.g,σ.own,σ.sto.set k cl'⟩ { s with heap:=h',toks:=tk }∧Ext NoW NoG σ s ⟨σ.g,σ.own,σ.sto.set k cl'⟩ { s with heap:=h',toks:=tk }:=by
 have hoff:=I.off k a cl ha hc hf
 refine⟨⟨λb o e=>?_,by rw[List.length_set];exact I.len,I.nodup,λj b c e1 e2=>?_,λj b c e1 e2 e3=>?_,I.top,I.bare,Nat.lt_of_lt_of_le I.tk ht⟩,⟨.refl _,⟨[],by simp,by simp⟩,λb o e n=>(by rw[n]at e;cases e),λb o e hn _=>?_,λ_ _ e _=>e,rfl⟩⟩
 ·have hb:b≠a:=by rintro rfl;rw[hoff]at e;cases e
  exact hs b o hb (I.sub b o e)
 ·by_cases hj:k=j
  ·subst hj
   dsimp only at e1 e2
   rw[ha]at e1;cases e1
   rw[List.getElem?_set_self (List.getElem?_eq_some_iff.mp hc).1]at e2;cases e2
   exact ok
  ·dsimp only at e1 e2
   rw[List.getElem?_set_ne hj]at e2
   have hb:b≠a:=by
    rintro rfl
    obtain⟨l1,q1⟩:=List.getElem?_eq_some_iff.mp ha
    obtain⟨l2,q2⟩:=List.getElem?_eq_some_iff.mp e1
    exact hj ((List.getElem_inj I.nodup).mp (q1.trans q2.symm))
   have c0:=I.cells j b c e1 e2
   obtain⟨o,ho⟩:=c0.there I.sub
   exact c0.mono (.refl _) λ_=>(hs b o hb ho).trans ho.symm
 ·by_cases hj:k=j
  ·subst hj
   dsimp only at e1
   rw[ha]at e1;cases e1
   exact hoff
  ·dsimp only at e1 e2
   rw[List.getElem?_set_ne hj]at e2
   exact I.off j b c e1 e2 e3
 ·have hb:b≠a:=by rintro rfl;exact hn (List.mem_of_getElem? ha)
  exact hs b o hb e
theorem ownAt{σ':Sg}{s':Shared}{W:Addr→Prop}{Wg:Nat→Prop}{k:Nat}{a:Addr}(x:Ext W Wg σ s σ' s')(h:σ.own[k]?=some a):σ'.own[k]?=some a:=by
 obtain⟨m,hm,_⟩:=x.own
 rw[hm,List.getElem?_append_left (List.getElem?_eq_some_iff.mp h).1]
 exact h
noncomputable def ib(Γ:List Slot)(c:List Cell)(i:Nat):Option Nat:=match Γ[i]? with
 | some (.ref k)=>match c[k]? with
  | some (.lst _)=>some k
  | _=>none
 | _=>none
theorem gS{c:List Cell}{i k:Nat}(h:ib Γ c i=some k):Γ[i]?=some (.ref k)∧∃ds,c[k]?=some (.lst ds):=by
 unfold ib at h
 (first|(refine iE h ?_ ?_<;>(clear h;intro _ h))|split at h)
 ·rename_i j e
  (first|(refine iE h ?_ ?_<;>(clear h;intro _ h))|split at h)
  ·rename_i ds e2
   cases h
   exact⟨e,ds,e2⟩
  ·cases h
 ·cases h
noncomputable def dM(i:Nat)(p:PE):PS:=λΓ c=>(ib Γ c i).bind λk=>(p Γ c).bind λ(d,c1)=>match c1[k]? with
 | some (.lst ds)=>if ds.length≤99999 then some (.next,Γ,c1.set k (.lst (ds++[d])))else none
 | _=>none
theorem cD{i:Nat}{x:Str}{k:VK}{h:Heap}(F:Frm ft env Γ σ h)(hi:ft.nt[i]?=some (x,k)):(x==("__debug__" : Str))=false:=
 (F.ok.odd x (List.mem_append_left _ (List.mem_map.mpr ⟨_,List.mem_of_getElem? hi,rfl⟩))).1
theorem iK{i:Nat}{x:Str}{k:VK}{px apos pos epos:Pos}{e:Expr}{p:PE}(hi:ft.nt[i]?=some (x,k))(h1:SoundE X A ft env e p)
  (hbase:autoParam (∀env,attributeBase (.Name x px) "append" env (eval (.Name x px) env)=eval (.Name x px) env) aR)
  (hfew:autoParam (∀env,((backTo pos (starEach [e] env)).all (λx=>!x.1) && (backToKw pos (keywordEach [] env)).all (λx=>x.1.isSome)
   && decide (([e]:List Expr).length+([]:List Keyword).length+(if ([]:List Keyword).isEmpty then 0 else 1)<30))=true) aR)
  (hline:autoParam ((apos.endLine==pos.line)=true) aR) (htrees:autoParam (∀env,backTo pos (starEach [e] env)=[(false,eval e env)]) aR) :
  aN X A ft env (.Expr (.Call (.Attribute (.Name x px) "append" apos) [e] [] pos) epos) (dM i p):=λΓ σ s fl Γ' c' I F h=>by
 (refine bE h ?_;(try clear h);intro k e0 h)
 obtain⟨e0,ds0,ec⟩:=gS e0
 (refine bE2 h ?_;(try clear h);intro d c1 e1 h)
 dsimp only at h
 (first|(refine iE h ?_ ?_<;>(clear h;intro _ h))|split at h)
 ·rename_i ds e2
  (first|(refine iE h ?_ ?_<;>(clear h;intro _ h))|split at h)
  ·rename_i hl
   cases h
   refine wpAny_Expr ?_ (by unfold interactive;rw[F.ok.kind];rfl) rfl
   refine wpAny_Call_append (hbase env) (hfew env) hline (htrees env) (eval_Name (cD F hi) (cS F hi e0 (by intro q;cases q) λv r=>?_))
   obtain⟨a,ha,rfl⟩:=r
   obtain⟨vs0,n0,ho0,_⟩:=I.cells k a _ ha ec
   refine⟨a,vs0.toArray,rfl,⟨_,n0,ho0,rfl,rfl,rfl⟩,h1.use I F e1 λv σ1 s1 q1 I1 x1 F1 r1=>?_⟩
   subst q1
   obtain⟨vs,n,ho,rr⟩:=I1.cells k a _ (ownAt x1 ha) e2
   refine append_at ho (λh' hs hD=>?_) (by simp only[List.size_toArray,rr.length];exact bJ (by(first|lia|omega)))
   obtain⟨I2,x2⟩:=fJ (cl':=.lst (ds++[d])) (tk:=s1.toks) I1 (ownAt x1 ha) e2 rfl (λb o hb e=>(hs.2 b hb).trans e) ⟨vs++[v],n+1,by rw[hD,List.push_toArray],rr.append (.one r1)⟩
   exact⟨_,rfl,I2,(x1.trans I1 x2).up,F1.ext x2,trivial⟩
  ·cases h
 ·cases h
noncomputable def lq(i:Nat)(p:PE):PS:=λΓ c=>(ib Γ c i).bind λk=>(p Γ c).bind λ(d,c1)=>match c1[k]?,d with
 | some (.lst ds),.lst es=>if ds.length+es.length≤99999 then some (.next,Γ,c1.set k (.lst (ds++es)))else none
 | _,_=>none
theorem AN{i:Nat}{x:Str}{k:VK}{px apos pos epos:Pos}{e:Expr}{p:PE}(hi:ft.nt[i]?=some (x,k))(h1:SoundE X A ft env e p)
  (hbase:autoParam (∀env,attributeBase (.Name x px) "extend" env (eval (.Name x px) env)=eval (.Name x px) env) aR)
  (hfew:autoParam (∀env,((backTo pos (starEach [e] env)).all (λx=>!x.1) && (backToKw pos (keywordEach [] env)).all (λx=>x.1.isSome)
   && decide (([e]:List Expr).length+([]:List Keyword).length+(if ([]:List Keyword).isEmpty then 0 else 1)<30))=true) aR)
  (hline:autoParam ((apos.endLine==pos.line)=true) aR) (htrees:autoParam (∀env,backTo pos (starEach [e] env)=[(false,eval e env)]) aR) :
  aN X A ft env (.Expr (.Call (.Attribute (.Name x px) "extend" apos) [e] [] pos) epos) (lq i p):=λΓ σ s fl Γ' c' I F h=>by
 (refine bE h ?_;(try clear h);intro k e0 h)
 obtain⟨e0,ds0,ec⟩:=gS e0
 (refine bE2 h ?_;(try clear h);intro d c1 e1 h)
 dsimp only at h
 (first|(refine iE h ?_ ?_<;>(clear h;intro _ h))|split at h)
 ·rename_i ds es e2
  (first|(refine iE h ?_ ?_<;>(clear h;intro _ h))|split at h)
  ·rename_i hl
   cases h
   refine wpAny_Expr ?_ (by unfold interactive;rw[F.ok.kind];rfl) rfl
   refine wpAny_Call_method (hbase env) (hfew env) hline PySem.F.plainAttrs_list PySem.F.slot_list_extend PySem.F.type_list_extend (eval_Name (cD F hi) (cS F hi e0 (by intro q;cases q) λv r=>?_))
   obtain⟨a,ha,rfl⟩:=r
   obtain⟨vs0,n0,ho0,_⟩:=I.cells k a _ ha ec
   rw[htrees env]
   refine⟨⟨_,ho0,rfl⟩,λb e=>by cases e;exact⟨_,ho0,rfl⟩,P.extend_list (h1.use I F e1 λv σ1 s1 q1 I1 x1 F1 r1=>?_)⟩
   subst q1
   obtain⟨vs,n,ho,rr⟩:=I1.cells k a _ (ownAt x1 ha) e2
   cases r1 with
   | lst eb rb=>
    rename_i b ws m
    have hz:(vs.toArray).size+ws.toArray.size≤99999:=by simp only[List.size_toArray,rr.length,rb.length];exact hl
    refine⟨b,vs.toArray,ws.toArray,n,m,Nat.le_trans (Nat.le_add_right _ _) (bJ (Nat.le_trans hz (by(first|lia|omega)))),Nat.le_succ_of_le (bJ (Nat.le_trans hz (by(first|lia|omega)))),?_,rfl,ho,I1.sub _ _ eb,?_⟩
    ·simp only[Builtin.List.listTooLong,Bool.and_eq_true,not_and]
     intro _
     have:=bJ (Nat.le_trans hz (by(first|lia|omega):(99999:Nat)≤100000))
     simp[sizeLine]at this⊢
     (first|lia|omega)
    ·have hself:∃m,(s1.heap.update a (Obj.mapSeq λxs=>xs++ws.toArray)).get? a=some (cI (vs.toArray++ws.toArray) m):=⟨_,Heap.get?_update_self _ ho rfl⟩
     obtain⟨m',hself⟩:=hself
     obtain⟨I2,x2⟩:=fJ (cl':=.lst (ds++es)) (tk:=s1.toks) I1 (ownAt x1 ha) e2 rfl (h':=s1.heap.update a (Obj.mapSeq λxs=>xs++ws.toArray)) (λb o hb e=>(Heap.get?_update_other _ _ (Ne.symm hb)).trans e)
      ⟨vs++ws,m',by rw[hself,List.append_toArray],rr.append rb⟩
     exact⟨_,rfl,I2,(x1.trans I1 x2).up,F1.ext x2,trivial⟩
  ·cases h
 ·cases h
noncomputable def gZ(i:Nat):PE:=λΓ c=>(ib Γ c i).bind λk=>match c[k]? with
 | some (.lst ds)=>if ds.length≤100000 then some (.int ds.length,c)else none
 | _=>none
theorem AO{i:Nat}{x:Str}{k:VK}{np px pos:Pos}(hi:ft.nt[i]?=some (x,k))(hx:("len" : Str)∈ft.gt)(hn:X.mg "len" = none)(hb:X.mb "len" = some (.builtin "len")):SoundE X A ft env (.Call (.Name "len" np) [.Name x px] [] pos) (gZ i):=λΓ σ s d c' I F h=>by
 (refine bE h ?_;(try clear h);intro k e0 h)
 obtain⟨e0,ds0,ec⟩:=gS e0
 (first|(refine iE h ?_ ?_<;>(clear h;intro _ h))|split at h)
 ·rename_i ds e2
  (first|(refine iE h ?_ ?_<;>(clear h;intro _ h))|split at h)
  ·rename_i hl
   cases h
   refine wpAny_Call_NameR (eval_Name (F.ok.odd _ (List.mem_append_right _ hx)).1 (bZ I F hx hn hb ?_))
   refine callWith_builtin1 (wpAny_items_cons (eval_Name (cD F hi) (cS F hi e0 (by intro q;cases q) λv r=>?_)) rfl) rfl rfl
   obtain⟨a,ha,rfl⟩:=r
   obtain⟨vs,n,ho,rr⟩:=I.cells k a _ ha e2
   refine wpAny_items_nil ?_
   refine call_len_list ⟨_,ho,rfl,_,rfl⟩ (by simp only[List.size_toArray,rr.length];(first|lia|omega)) ?_
   rw[List.size_toArray,rr.length]
   exact PostE.here I (.int _ _)
  ·cases h
 ·cases h
end
end Mine
namespace Mine
section
variable{prog:Program}{w:World}{A:Around}{E:Value→Shared→Prop}{s:Shared}
theorem qI{Q:Value→Shared→Prop}(h:∀h' e,(∀b o,s.heap.get? b=some o→h'.get? b=some o)→(∃o,h'.get? e=some o∧o.cls=.type "StopIteration")→Q (.ref e) { s with heap:=h' }) :
  wpAny (model prog w) A (newExc (.type "StopIteration") []) Q E s:=by
 unfold newExc
 wp_walk using wpAny_newTuple
 ·exact h _ _ (λb o e=>Heap.get?_push_of_some _ (Heap.get?_push_of_some _ e)) ⟨_,Heap.get?_push_size _ rfl,rfl⟩
 ·exact Nat.zero_le _
theorem qJ{α:Type}{Q:α→Shared→Prop}(hh:A.handled=none)
  (h:∀h' e,(∀b o,s.heap.get? b=some o→h'.get? b=some o)→(∃o,h'.get? e=some o∧o.cls=.type "StopIteration")→E (.ref e) { s with heap:=h' }) :
  wpAny (model prog w) A (Builtin.SmallTypes.stopIteration:Sem α) Q E s:=
 wpAny_bind (qI λh' e k x=>wpAny_raiseNew_none hh (h h' e k x))
theorem nO{v:Value}{Q:Option Value→Shared→Prop}(h:wpAny (model prog w) A (callSpecial? v (Str.ofString "__next__")) (λr s'=>∃x,r=some x∧Q (some x) s') (λe s'=>s'.TypeIs e "StopIteration" ∧ Q none s') s) :
  wpAny (model prog w) A (pyNext v) Q E s:=
 wpAny_bind (wpAny_attempt (wpAny_mono h (λ_ _ h=>let ⟨_,e,q⟩:=h;e▸wpAny_pure q) λ_ _ h=>wpAny_bind (wpAny_isInstance h.1 isSubtype_stop (wpAny_pure h.2))))
theorem tP{it l:Addr}{i:Nat}{items:Array Value}{Q:Option Value→Shared→Prop}(hit:s.heap.IsListIter it l i)(hl:s.heap.IsList l items)
  (hs:∀x h',items[i]?=some x→h'.IsListIter it l (i+1)→Heap.SameBut it s.heap h'→Q (some x) { s with heap:=h' })
  (he:items[i]?=none→A.handled=none∧∀h' e,(∃o,h'.get? it=some o)→Heap.ExtBut it s.heap h'→(∃o,h'.get? e=some o∧o.cls=.type "StopIteration")→E (.ref e) { s with heap:=h' }) :
  wpAny (model prog w) A (callSpecial? (.ref it) (Str.ofString "__next__")) Q E s:=by
 refine wpAny_callSpecial?_slot hit.typeIs slot_listiter_next (wpAny_call_entry slot_listiter_next hit.typeIs entry_listiter_next ?_ (args_listiter_next _))
 obtain⟨o,ho,hc,hd⟩:=hit
 obtain⟨ol,hol,hcl,nl,hdl⟩:=hl
 have up:∀k v,(s.heap.update it (Obj.mapFields (·.setIfInBounds k v))).get? it=some (Obj.mapFields (·.setIfInBounds k v) o):=λk v=>Heap.get?_update_self _ ho (Obj.isFreed_of_fields (Obj.data_mapFields hd _))
 have sb:∀k v,Heap.SameBut it s.heap (s.heap.update it (Obj.mapFields (·.setIfInBounds k v))):=λk v=>Heap.SameBut.update ..
 wp_walk using wpAny_field ho hd rfl,wpAny_seqItems hol hdl
 rw[hdl]
 wp_walk
 rw[Int.toNat_natCast]
 cases q:items[i]? with
 | some x=>
  wp_walk using wpAny_setField ho hd
  ·exact Nat.lt_succ_self 1
  ·exact wpAny_pure ⟨_,rfl,hs x _ q ⟨_,up _ _,(Obj.cls_mapFields ..).trans hc,Obj.data_mapFields hd _⟩ (sb _ _)⟩
 | none=>
  obtain⟨hh,he⟩:=he q
  wp_walk using wpAny_setField ho hd
  ·exact Nat.zero_lt_succ 1
  ·exact qJ hh λh' e k x=>he h' e ⟨_,k _ _ (up _ _)⟩ (λb o hb e=>k b o (((sb _ _).2 b hb).trans e)) x
theorem kE{it l:Addr}{i:Nat}{items:Array Value}{Q:Option Value→Shared→Prop}(hh:A.handled=none)
  (hit:s.heap.IsListIter it l i) (hl:s.heap.IsList l items) (hx:items[i]?=none)
  (hQ:∀h',(∃o,h'.get? it=some o)→Heap.ExtBut it s.heap h'→Q none { s with heap:=h' }):wpAny (model prog w) A (pyNext (.ref it)) Q E s:=
 nO (tP hit hl (λx _ e=>by rw[hx]at e;cases e) λ_=>⟨hh,λh' _ ho k x=>⟨x,hQ h' ho k⟩⟩)
theorem ko{it l:Addr}{i:Nat}{items:Array Value}{x:Value}{Q:Option Value→Shared→Prop}(hit:s.heap.IsListIter it l i)(hl:s.heap.IsList l items)(hx:items[i]?=some x)
  (hQ:∀h',h'.IsListIter it l (i+1)→Heap.SameBut it s.heap h'→Q (some x) { s with heap:=h' }):wpAny (model prog w) A (callSpecial? (.ref it) (Str.ofString "__next__")) Q E s:=
 tP hit hl (λy h' e=>by rw[hx]at e;cases e;exact hQ h') λe=>by rw[hx]at e;cases e
noncomputable def Step(Q:Option Value→Shared→Prop)(r:GenResult)(s:Shared):Prop:=
 (∃v,r=.yielded v∧Q (some v) s)∨(r=.returned .none∧∀h',(∀b o,s.heap.get? b=some o→h'.get? b=some o)→Q none { s with heap:=h' })
theorem qr{a:Addr}{g:Nat}{gs:GenState}{Q:Option Value→Shared→Prop}(hh:A.handled=none)(hl:s.heap.NoLimit)(hroom:A.depth<recursionLimit)
  (hg:s.heap.IsGen a g) (hgs:s.gens[g]?=some gs) (hst:gs.status=.fresh∨gs.status=.suspended)
  (h:wpAny (model prog w) A.in1 (resume g (.send .none)) (Step Q) (λ_ _=>False) s):wpAny (model prog w) A (pyNext (.ref a)) Q E s:=by
 refine nO (wpAny_callSpecial?_slot hg.typeIs slot_gen_next (wpAny_call_entry slot_gen_next hg.typeIs entry_gen_next ?_ (args_gen_next _)))
 wp_walk using wpAny_genNumber hg,wpAny_genState hgs
 rcases hst with e|e<;>rw[e]<;>dsimp only<;>
 ·refine wpAny_bind (wpAny_roomToWake hl hroom (wpAny_bind (wpAny_mono h (λr s' hr=>?_) λ_ _ h=>h.elim)))
  rcases hr with⟨v,rfl,q⟩|⟨rfl,q⟩
  ·exact wpAny_pure ⟨_,rfl,_,rfl,q⟩
  ·exact wpAny_ite_true rfl (wpAny_bind (qI λh' e k x=>wpAny_bind (wpAny_raiseNew_none hh ⟨x,q h' k⟩)))
theorem mu{a:Addr}{g n:Nat}{gs:GenState}{P:Nat→Shared→Shared→Prop}{Y:Protocol}{Q:Option Value→Shared→Prop}(hh:A.handled=none)
  (hl:s.heap.NoLimit) (hroom:A.depth<recursionLimit) (hg:s.heap.IsGen a g) (hgs:s.gens[g]?=some gs)
  (hgo:gs.Goes (model prog w) A.in1 (λn s₀ r s₁=>r=.ok (.ret .none)∧P n s₀ s₁) Y n (.send .none) (s.setGen g .running))
  (hY:∀v s₁ gs',gs'.bare=true→Y (n - 1) (s.setGen g .running) v s₁ (λr' s''=>match n with
    | 0=>False
    | m+1=>gs'.Goes (model prog w) A.in1 (λn s₀ r s₁=>r=.ok (.ret .none)∧P n s₀ s₁) Y m r' s'')→Q (some v) (s₁.setGen g gs'))
  (hP:∀s₁,P n (s.setGen g .running) s₁→∀h',(∀b o,s₁.heap.get? b=some o→h'.get? b=some o)→Q none { s₁.setGen g .finished with heap:=h' }) :
  wpAny (model prog w) A (pyNext (.ref a)) Q E s:=by
 refine qr hh hl hroom hg hgs ?_ (wpAny_resumeQ hgs hgo (λx s₁ hx=>?_) λv s₁ gs' hb hv=>wpAny_pure (.inl ⟨v,rfl,hY v s₁ gs' hb hv⟩))
 ·cases gs with
  | fresh _=>exact .inl rfl
  | suspended _ _ _ _ _ _=>exact .inr rfl
  | running=>exact hgo.elim
  | finished=>exact hgo.elim
 ·rw[hx.1]
  exact wpAny_pure (.inr ⟨rfl,hP s₁ hx.2⟩)
end
section
variable{X:Cx}{A:Around}{ft ft':FT}{env:Env}{Γ Γ':List Slot}{σ:Sg}{s:Shared}{d:D}{c':List Cell}
theorem AH{o:Obj}{cl:Cell}{tk:Nat}(I:X.Inv σ s)(ok:CellOk σ.g (s.heap.push o) s.heap.objs.size cl)(ht:autoParam (s.toks≤tk) aL) :
  let σ':Sg:=⟨σ.g,σ.own++[s.heap.objs.size],σ.sto++[cl]⟩
  let s':Shared:={ s with heap:=s.heap.push o,toks:=tk }
  X.Inv σ' s'∧Ext NoW NoG σ s σ' s':=by
 have n:s.heap.get? s.heap.objs.size=none:=get?_push_none
 obtain⟨n1,n2⟩:=I.notIn n
 have I':X.Inv σ { s with heap:=s.heap.push o,toks:=tk }:=(jT I ht).1
 refine⟨⟨I'.sub,by simp[I.len],?_,λk a c e1 e2=>?_,λk a c e1 e2 e3=>?_,I'.top,I'.bare,I'.tk⟩,⟨.refl _,⟨_,rfl,λa ha=>?_⟩,λa o e n=>(by rw[n]at e;cases e),λa o e _ _=>Heap.get?_push_of_some _ e,λ_ _ e _=>e,rfl⟩⟩
 ·rw[List.nodup_append]
  exact⟨I.nodup,by simp,λa ha b hb=>by simp at hb;subst hb;rintro rfl;exact n1 ha⟩
 ·dsimp only at e1 e2
  by_cases hk:k<σ.own.length
  ·rw[List.getElem?_append_left hk]at e1
   rw[List.getElem?_append_left (I.len▸hk)]at e2
   exact I'.cells k a c e1 e2
  ·have hk':σ.own.length≤k:=Nat.le_of_not_lt hk
   rw[List.getElem?_append_right hk']at e1
   rw[List.getElem?_append_right (I.len▸hk')]at e2
   have h0:k - σ.own.length=0:=by
    have:=(List.getElem?_eq_some_iff.mp e1).1
    simp at this;(first|lia|omega)
   have h1:k - σ.sto.length=0:=by rw[←I.len];exact h0
   rw[h0]at e1;rw[h1]at e2
   cases e1;cases e2
   exact ok
 ·dsimp only at e1 e2
  by_cases hk:k<σ.own.length
  ·rw[List.getElem?_append_left hk]at e1
   rw[List.getElem?_append_left (I.len▸hk)]at e2
   exact I.off k a c e1 e2 e3
  ·have hk':σ.own.length≤k:=Nat.le_of_not_lt hk
   rw[List.getElem?_append_right hk']at e1
   have:=List.mem_of_getElem? e1
   simp at this
   subst this;exact n2
 ·simp at ha
  subst ha
  exact .inl n
theorem lP{prog:Program}{w:World}{E:Value→Shared→Prop}{l:Addr}{items:Array Value}{Q:Value→Shared→Prop}(hl:s.heap.IsList l items)
  (h:Q (.ref s.heap.objs.size) { s with heap:=s.heap.push { cls:=.type "list_iterator",data:=.fields #[.ref l,.int 0 0] } }):wpAny (model prog w) A (call (.builtin "iter") [.ref l]) Q E s:=by
 refine call_function_entry (by decide +kernel) (by decide +kernel) kdk_entry_iter (kdk_args_iter _) ?_
 unfold Builtin.«iter»
 refine wpAny_bind (m:=someArgs "iter" 1 2 _) (wpAny_of_eq (a:=[Value.ref l]) (by first|rfl|kernel_rfl!) ?_)
 show wpAny _ _ (pyIter (.ref l) >>= _) _ _ _
 exact wpAny_bind (wpAny_pyIter_list hl (wpAny_pure ⟨_,rfl,h⟩))
noncomputable def iF(i:Nat)(p:PE):PS:=λΓ c=>(p Γ c).bind λ(d,c1)=>match d with
 | .lst ds=>some (.next,Γ.set i (.ref c1.length),c1++[.it ds])
 | _=>none
theorem y5{i:Nat}{x:Str}{k:VK}{e:Expr}{p:PE}{np px pos spos:Pos}(hi:ft.nt[i]?=some (x,k))(hk:k≠.f)(hx:("iter" : Str)∈ft.gt)(hn:X.mg "iter" = none)(hb:X.mb "iter" = some (.builtin "iter"))(h1:SoundE X A ft env e p)
  (he:autoParam (∀env,starEach [e] env=(false,eval e env)::starEach [] env) aR):aN X A ft env (.Assign [.Name x px] (.Call (.Name "iter" np) [e] [] pos) spos) (iF i p):=λΓ σ s fl Γ' c' I F h=>by
 (refine bE2 h ?_;(try clear h);intro d c1 e1 h)
 dsimp only at h
 (first|(refine iE h ?_ ?_<;>(clear h;intro _ h))|split at h)
 ·rename_i ds
  cases h
  refine wpAny_Assign_Name (wpAny_Call_NameR (eval_Name (F.ok.odd _ (List.mem_append_right _ hx)).1 (bZ I F hx hn hb ?_))) rfl
  refine callWith_builtin1 (wpAny_items_cons (h1.use I F e1 λv σ1 s1 q1 I1 x1 F1 r1=>wpAny_items_nil ?_) (he env)) (he env) rfl
  subst q1
  cases r1 with
  | lst el rl=>
   rename_i l vs n
   refine lP ⟨_,I1.sub _ _ el,rfl,_,rfl⟩ ?_
   obtain⟨I2,x2⟩:=AH (cl:=.it ds) (o:={ cls:=.type "list_iterator",data:=.fields #[.ref l,.int 0 0] }) (tk:=s1.toks) I1 ⟨l,vs,n,0,⟨_,Heap.get?_push_size _ rfl,rfl,rfl⟩,el,rl⟩
   exact cT I2 (F1.ext x2) hi hk (sl:=.ref σ1.sto.length) ⟨s1.heap.objs.size,by rw[←I1.len];simp,rfl⟩ λs' I' x' F'=>⟨_,rfl,I',(x1.up.trans I1 x2.up).trans I2 x',F',trivial⟩
 ·cases h
theorem lQ{prog:Program}{w:World}{E:Value→Shared→Prop}{it l:Addr}{i:Nat}{items:Array Value}{x:Value}{Q:Value→Shared→Prop}(hit:s.heap.IsListIter it l i)(hl:s.heap.IsList l items)(hx:items[i]?=some x)
  (hQ:∀h',h'.IsListIter it l (i+1)→Heap.SameBut it s.heap h'→Q x { s with heap:=h' }):wpAny (model prog w) A (call (.builtin "next") [.ref it]) Q E s:=by
 have step:=ko (prog:=prog) (w:=w) (A:=A.in1) (E:=E) (Q:=λr s'=>∃x,r=some x∧Q x s') hit hl hx λh' a b=>⟨x,rfl,hQ h' a b⟩
 refine call_function_entry (by decide +kernel) (by decide +kernel) kdk_entry_next (kdk_args_next _) ?_
 unfold Builtin.«next»
 refine wpAny_bind (wpAny_of_eq rfl ?_)
 dsimp only[List.headD]
 wp_walk using wpAny_specialOf hit.typeIs slot_listiter_next.lookup,wpAny_mono step
 ·rintro _ _ ⟨y,rfl,q⟩
  exact wpAny_pure ⟨_,rfl,q⟩
 ·exact λ_ _ h=>h
noncomputable def kU(i:Nat):PE:=λΓ c=>match Γ[i]? with
 | some (.ref k)=>match c[k]? with
  | some (.it (d::ds))=>some (d,c.set k (.it ds))
  | _=>none
 | _=>none
theorem DJ{i:Nat}{x:Str}{k:VK}{np px pos:Pos}(hi:ft.nt[i]?=some (x,k))(hx:("next" : Str)∈ft.gt)(hn:X.mg "next" = none)(hb:X.mb "next" = some (.builtin "next")):SoundE X A ft env (.Call (.Name "next" np) [.Name x px] [] pos) (kU i):=λΓ σ s d c' I F h=>by
 unfold kU at h
 (first|(refine iE h ?_ ?_<;>(clear h;intro _ h))|split at h)
 ·rename_i k e0
  (first|(refine iE h ?_ ?_<;>(clear h;intro _ h))|split at h)
  ·rename_i d ds ec
   cases h
   refine wpAny_Call_NameR (eval_Name (F.ok.odd _ (List.mem_append_right _ hx)).1 (bZ I F hx hn hb ?_))
   refine callWith_builtin1 (wpAny_items_cons (eval_Name (cD F hi) (cS F hi e0 (by intro q;cases q) λv r=>wpAny_items_nil ?_)) rfl) rfl rfl
   obtain⟨a,ha,rfl⟩:=r
   obtain⟨l,vs,n,j,hit,el,rl⟩:=I.cells k a _ ha ec
   obtain⟨v,hv,rv⟩:=rl.get (k:=0) (d:=d) rfl
   have hx':vs[j]?=some v:=by simpa using hv
   refine lQ hit ⟨_,I.sub _ _ el,rfl,n,rfl⟩ (x:=v) (by simpa using hx') λh' hit' hs=>?_
   obtain⟨I2,x2⟩:=fJ (cl':=.it ds) (tk:=s.toks) I ha ec rfl (h':=h') (λb o hb e=>(hs.2 b hb).trans e) ⟨l,vs,n,j+1,hit',el,by
    have q:vs.drop (j+1)=(vs.drop j).drop 1:=by rw[List.drop_drop]
    rw[q];exact rl.drop 1⟩
   exact⟨_,rfl,I2,x2,rv⟩
  ·cases h
 ·cases h
end
end Mine
namespace Mine
section
variable{prog:Program}{w:World}{A:Around}{E:Value→Shared→Prop}{s:Shared}
theorem lZ{R:Result→Shared→Prop}(hh:A.handled=none){I ax:Addr}{items:Array Value}(hne:ax≠I)(S:Addr)(hSI:S≠I)(hSa:S≠ax)(res:Value)(i0:Nat)(hn:items.size - i0≤sizeLine) :
  ∀(k i:Nat) (s:Shared) (acc:Array Value) (c:Nat),items.size - i=k→i0≤i→i≤items.size→s.heap.IsListIter I ax i→s.heap.IsList ax items→s.heap.get? S=some { cls:=.type "list",dict:=none,data:=.seq acc c,slots:=#[] }→acc.size=i - i0→
  (∀h' acc' c',(∀b o,b≠S→b≠I→s.heap.get? b=some o→h'.get? b=some o)→(∃o,h'.get? I=some o)→h'.get? S=some { cls:=.type "list",dict:=none,data:=.seq acc' c',slots:=#[] }→acc'.toList=acc.toList++items.toList.drop i→R (.ok (.ret res)) { s with heap:=h' })→
  codeAny (model prog w) A (.builtin "list.extend.loop" ⟨[.ref S,.ref I,res],[]⟩) R s:=by
 intro k
 induction k with
 | zero=>
  intro i s acc c hk hi0 hi hit hl hS hacc hR
  have hin:i=items.size:=by(first|lia|omega)
  subst hin
  refine codeAny_builtin PySem.F.entry_extend_loop ?_
  rw[Around.under_plainId PySem.F.plain_extend_loop _]
  show wpAny _ A.in1 (pyNext (.ref I) >>= _) _ _ s
  refine wpAny_bind (kE (A:=A.in1) hh hit hl (by simp) λh' he hx=>?_)
  refine wpAny_pure (hR h' acc c (λb o _ hb e=>hx b o hb e) he (hx _ _ hSI hS) ?_)
  rw[List.drop_eq_nil_of_le (by simp),List.append_nil]
 | succ k ih=>
  intro i s acc c hk hi0 hi hit hl hS hacc hR
  have hlt:i<items.size:=by(first|lia|omega)
  refine codeAny_builtin PySem.F.entry_extend_loop ?_
  rw[Around.under_plainId PySem.F.plain_extend_loop _]
  show wpAny _ A.in1 (pyNext (.ref I) >>= _) _ _ s
  refine wpAny_bind (wpAny_pyNext_list_item hit hl (x:=items[i]) (by simp[hlt]) λh' hit' hs=>?_)
  have hS':h'.get? S=some { cls:=.type "list",dict:=none,data:=.seq acc c,slots:=#[] }:=(hs.2 S hSI).trans hS
  show wpAny _ A.in1 (updateSeq S (·.push items[i]) >>= _) _ _ _
  refine wpAny_bind ?_
  refine wpAny_updateSeq (s:={ s with heap:=h' }) hS' rfl (wpAny_pure ⟨plainId_quiet PySem.F.plain_extend_loop _,ih (i+1) _ (acc.push items[i]) _ (by(first|lia|omega)) (by(first|lia|omega)) hlt ?_ ?_ (Heap.get?_update_self _ hS' rfl) (by rw[Array.size_push,hacc];(first|lia|omega)) λh'' acc' c' hk' he hS'' hacc'=>?_⟩)
   (by rw[hacc];(first|lia|omega)) (by show (acc.push items[i]).size≤sizeLine+1;rw[Array.size_push,hacc];(first|lia|omega))
  ·obtain⟨o,e,r⟩:=hit'
   exact⟨o,(Heap.get?_update_other _ _ hSI).trans e,r⟩
  ·obtain⟨o,e,r⟩:=hl
   exact⟨o,(Heap.get?_update_other _ _ hSa).trans ((hs.2 ax hne).trans e),r⟩
  ·refine hR h'' acc' c' (λb o hb hb2 e=>hk' b o hb hb2 ((Heap.get?_update_other _ _ (Ne.symm hb)).trans ((hs.2 b hb2).trans e))) he hS'' ?_
   have e:items.toList.drop i=items[i]::items.toList.drop (i+1):=by rw[List.drop_eq_getElem_cons (by simpa using hlt)];simp
   rw[hacc',e];simp
theorem lr{R:Result→Shared→Prop}(hh:A.handled=none){I ax:Addr}{items:Array Value}{i0:Nat}(hne:ax≠I)(h0:i0≤items.size)(hit:s.heap.IsListIter I ax i0)(hl:s.heap.IsList ax items)(S:Addr)(res:Value)(c₀:Nat)(hS:s.heap.get? S=some { cls:=.type "list",data:=.seq #[] c₀ })
  (hSI:S≠I) (hSa:S≠ax)
  (hR:∀h' acc' c',(∀b o,b≠S→b≠I→s.heap.get? b=some o→h'.get? b=some o)→(∃o,h'.get? I=some o)→h'.get? S=some { cls:=.type "list",dict:=none,data:=.seq acc' c',slots:=#[] }→
   acc'.toList=items.toList.drop i0→R (.ok (.ret res)) { s with heap:=h' }) (hn:items.size - i0≤sizeLine:=by size_fits) :
  wpAny (model prog w) A.in1 (Builtin.List.listExtendWith (.ref S) (.ref I) res)
   (λfin s'=>match fin with|.done f=>R (.ok f) s'|.again c'=>c'.quiet=true∧codeAny (model prog w) A c' R s') (λe s'=>R (.error e) s') s:=by
 have hT:s.TypeIs (.ref I) "list_iterator" :=hit.typeIs
 unfold Builtin.List.listExtendWith
 refine wpAny_bind (wpAny_typeOf hT ?_)
 have h1:Builtin.List.listSameRef (.ref S) (.ref I)=false:=by simp[Builtin.List.listSameRef,hSI]
 rw[if_neg (by rw[h1];decide)]
 refine wpAny_bind (wpAny_pyIter_listiter hit ?_)
 refine wpAny_bind (wpAny_holding ?_)
 unfold Builtin.List.listLengthHint
 refine wpAny_bind (wpAny_specialOf hT PySem.F.nolen_li ?_)
 show wpAny _ A.in1 (specialOf (Value.ref I) (Str.ofString "__length_hint__") >>= _) _ _ _
 refine wpAny_bind (wpAny_specialOf hT PySem.F.hint_li ?_)
 generalize hid:("list_iterator.__length_hint__" : String)=id0
 wp_delta
 rw[show splitId id0=some ("list_iterator","__length_hint__")from by subst hid;decide +kernel]
 subst hid
 refine wpAny_bind (wpAny_isInstance (b:=true) hT (by rw[isSubtype_type];kernel_rfl) ?_)
 refine wpAny_pure ?_
 rw[if_neg (by decide)]
 exact wpAny_pure ⟨plainId_quiet PySem.F.plain_extend_loop _,lZ hh hne S hSI hSa res i0 hn (items.size - i0) i0 s #[] c₀ rfl (Nat.le_refl _) h0 hit hl hS (by simp) λh' acc' c' hk he hS' hacc=>hR h' acc' c' hk he hS' (by simpa using hacc)⟩
theorem ow{Q:Value→Shared→Prop}(hh:A.handled=none){I ax:Addr}{items:Array Value}{i0:Nat}(hne:ax≠I)(h0:i0≤items.size)(hit:s.heap.IsListIter I ax i0)(hl:s.heap.IsList ax items)
  (hQ:∀h' acc' c',(∀b o,b≠I→s.heap.get? b=some o→h'.get? b=some o)→(∃o,h'.get? I=some o)→
   h'.get? s.heap.objs.size=some { cls:=.type "list",dict:=none,data:=.seq acc' c',slots:=#[] }→acc'.toList=items.toList.drop i0→Q (.ref s.heap.objs.size) { s with heap:=h' }) (hn:items.size - i0≤sizeLine:=by size_fits) :
  wpAny (model prog w) A (call (.type "list") [.ref I]) Q E s:=by
 have nn:s.heap.get? s.heap.objs.size=none:=get?_push_none
 refine callType_codes (Q₁:=λobj s₁=>obj=.ref s.heap.objs.size∧s₁={ s with heap:=s.heap.push { cls:=.type "list",data:=.seq #[] } }) F.called_list (F.typeCall_list_1 _) F.entry_list_init
  (code_list_new _ ⟨rfl,rfl⟩) λobj s₁ h₁=>?_
 obtain⟨rfl,rfl⟩:=h₁
 have hS:(s.heap.push { cls:=.type "list",data:=.seq #[] }).get? s.heap.objs.size=some { cls:=.type "list",data:=.seq #[] }:=Heap.get?_push_size _ rfl
 have hSI:s.heap.objs.size≠I:=by rintro rfl;obtain⟨o,e,_⟩:=hit;rw[nn]at e;cases e
 have hSa:s.heap.objs.size≠ax:=by rintro rfl;obtain⟨o,e,_⟩:=hl;rw[nn]at e;cases e
 refine⟨⟨_,hS,rfl⟩,F.args_list_init_2 _ _,?_⟩
 show wpAny _ _ (do let old ←Builtin.List.listItems (.ref s.heap.objs.size);Builtin.List.listUpdate (.ref s.heap.objs.size) (λ_=>#[]);letGo old.toList.reverse;Builtin.List.listExtendWith (.ref s.heap.objs.size) (.ref I) .none) _ _ _
 refine wpAny_bind ?_
 unfold Builtin.List.listItems
 refine wpAny_bind (wpAny_seqItems hS rfl (wpAny_pure ?_))
 show wpAny _ _ (updateSeq s.heap.objs.size (λ_=>#[]) >>= λ_=>letGo (#[]:Array Value).toList.reverse >>= λ_=>Builtin.List.listExtendWith (.ref s.heap.objs.size) (.ref I) .none) _ _ _
 refine wpAny_bind (wpAny_updateSeq hS rfl ?_)
 obtain⟨c₂,hS₂⟩:∃c,((s.heap.push { cls:=.type "list",data:=.seq #[] }).update s.heap.objs.size (Obj.mapSeq (λ_=>(#[]:Array Value)))).get? s.heap.objs.size=some { cls:=.type "list",data:=.seq #[] c }:=⟨_,Heap.get?_update_self (Obj.mapSeq (λ_=>(#[]:Array Value))) hS rfl⟩
 have oth:∀b o,b≠s.heap.objs.size→s.heap.get? b=some o→((s.heap.push { cls:=.type "list",data:=.seq #[] }).update s.heap.objs.size (Obj.mapSeq (λ_=>(#[]:Array Value)))).get? b=some o:=
  λb o hb e=>(Heap.get?_update_other _ _ (Ne.symm hb)).trans (Heap.get?_push_of_some _ e)
 refine wpAny_bind (wpAny_letGo ?_)
 refine lr (A:=A.in1) (s:={ s with heap:=(s.heap.push { cls:=.type "list",data:=.seq #[] }).update s.heap.objs.size (Obj.mapSeq (λ_=>(#[]:Array Value))) }) (hn:=hn) hh hne h0 (let ⟨o,e,r⟩:=hit;⟨o,oth _ _ (Ne.symm hSI) e,r⟩) (let ⟨o,e,r⟩:=hl;⟨o,oth _ _ (Ne.symm hSa) e,r⟩) s.heap.objs.size .none c₂ hS₂ hSI hSa λh' acc' c' hk he hS' hacc=>?_
 exact⟨rfl,hQ h' acc' c' (λb o hb e=>hk b o (Nat.ne_of_lt (Heap.lt_size e)) hb (oth b o (Nat.ne_of_lt (Heap.lt_size e)) e)) he hS' hacc⟩
end
section
variable{X:Cx}{A:Around}{ft ft':FT}{env:Env}{Γ Γ':List Slot}{σ:Sg}{s:Shared}{d:D}{c':List Cell}
noncomputable def i5(i:Nat):PE:=λΓ c=>match Γ[i]? with
 | some (.ref k)=>match c[k]? with
  | some (.it (d::ds))=>if ds.length≤99999 then some (.lst (d::ds),c.set k (.raw λ_=>True))else none
  | _=>none
 | _=>none
theorem AQ{i:Nat}{x:Str}{k:VK}{np px pos:Pos}(hr:Room A 8)(hi:ft.nt[i]?=some (x,k))(hx:("list" : Str)∈ft.gt)(hn:X.mg "list" = none)(hb:X.mb "list" = some (.type "list")):SoundE X A ft env (.Call (.Name "list" np) [.Name x px] [] pos) (i5 i):=λΓ σ s d c' I F h=>by
 unfold i5 at h
 (first|(refine iE h ?_ ?_<;>(clear h;intro _ h))|split at h)
 ·rename_i k e0
  (first|(refine iE h ?_ ?_<;>(clear h;intro _ h))|split at h)
  ·rename_i d0 ds ec
   (first|(refine iE h ?_ ?_<;>(clear h;intro _ h))|split at h)
   ·rename_i hlen
    cases h
    refine wpAny_Call_NameR (eval_Name (F.ok.odd _ (List.mem_append_right _ hx)).1 (bZ I F hx hn hb ?_))
    refine callWith_type1 (wpAny_items_cons (eval_Name (cD F hi) (cS F hi e0 (by intro q;cases q) λv r=>wpAny_items_nil ?_)) rfl) rfl rfl
    obtain⟨a,ha,rfl⟩:=r
    obtain⟨l,vs,n,j,hit,el,rl⟩:=I.cells k a _ ha ec
    have hrl:=rl.length
    simp only[List.length_drop,List.length_cons]at hrl
    have nn:s.heap.get? s.heap.objs.size=none:=get?_push_none
    obtain⟨oi,hoi,ri⟩:=id hit
    have hne:l≠a:=by
     rintro rfl
     rw[I.sub _ _ el]at hoi
     cases hoi
     have q:Value.type "list" = Value.type "list_iterator" :=ri.1
     injection q with q
     exact absurd q (by decide)
    have hna:s.heap.objs.size≠a:=by rintro rfl;rw[nn]at hoi;cases hoi
    refine ow hr.hand hne (by simp;(first|lia|omega)) hit ⟨_,I.sub _ _ el,rfl,n,rfl⟩ (λh' acc' c' hk he hS' hacc=>?_) (by simp only[List.size_toArray];rw[hrl];exact bJ (by(first|lia|omega)))
    obtain⟨I2,x2⟩:=fJ (cl':=.raw λ_=>True) (tk:=s.toks) I ha ec rfl (h':=h') (λb o hb e=>hk b o hb e) (let ⟨o,e⟩:=he;⟨o,e,trivial⟩)
    obtain⟨I3,x3,le3,e3⟩:=gR (a:=s.heap.objs.size) I2 x2 hS' (I.notIn nn).2 (I.notIn nn).1 nn
    refine⟨_,rfl,I3,x3,.lst (vs:=acc'.toList) (n:=c') (by simpa using e3) ?_⟩
    rw[hacc]
    simpa using (rl.mono le3)
   ·cases h
  ·cases h
 ·cases h
end
end Mine
namespace Mine
section
variable{X:Cx}{A:Around}{ft ft':FT}{env:Env}{Γ Γ':List Slot}{σ:Sg}{s:Shared}{d:D}{c':List Cell}
noncomputable def swB(k:ScopeKind)(n:Nat)(o1 o2:Option Str)(a f c:Bool):Sem (Option (List Str)):=
 if (!(n==2 || n==3) || n != n || k != .function)=true then pure none
 else if a=true then pure none
 else
  have names:=[o1,o2].filterMap id
  if (names.length != n || names.eraseDups.length != names.length)=true then pure none
  else if f=true then pure none
  else
   have jp:=λ(_:PUnit)=>pure (some names)
   if c=true then do
    let r ←unsupported "assign.tuple-of-constant-expressions:order-of-the-stores"
    jp r
   else jp ()
theorem zb{x y:Str}{px py tp vp:Pos}{kt kv:Nat}{e1 e2:Expr}:swappedStores [.Tuple [.Name x px,.Name y py] kt tp] (.Tuple [e1,e2] kv vp) env=
  swB env.blockKind 2 (if (env.kindOf x==some .local && px.line==px.line)=true then some x else none) (if (env.kindOf y==some .local && py.line==px.line)=true then some y else none)
   ([e1,e2].any λ|.Starred ..=>true|_=>false) ([e1,e2].all (foldedForSure 8)) ([e1,e2].all (constantsAlone 8)):=rfl
theorem AY{k:ScopeKind}{o:Option Str}{a f c:Bool}:swB k 2 none o a f c=pure none:=by
 unfold swB
 split
 ·rfl
 split
 ·rfl
 cases o<;>rfl
theorem pd{x y:Str}{px py tp vp:Pos}{kt kv:Nat}{e1 e2:Expr}(hx:env.kindOf x=some .cell)(_:([e1,e2].any λ|.Starred ..=>true|_=>false)=false) :
  swappedStores [.Tuple [.Name x px,.Name y py] kt tp] (.Tuple [e1,e2] kv vp) env=pure none:=by
 rw[zb,hx]
 exact AY
noncomputable def t6(p:PE)(is:List Nat):PS:=λΓ c=>(p Γ c).bind λ(d,c1)=>(dU (.t is) d Γ).map λΓ1=>(.next,Γ1,c1)
theorem DM{x y:Str}{px py tp vp spos:Pos}{kt kv:Nat}{e1 e2:Expr}{p:PE}{is:List Nat}{i:Nat}(hr:Room A 8)(hi:ft.nt[i]?=some (x,.c))(hn:gH ft [.Name x px,.Name y py] is)(h1:SoundE X A ft env (.Tuple [e1,e2] kv vp) p)
  (hst:autoParam (([e1,e2].any λ|.Starred ..=>true|_=>false)=false) aR) :
  aN X A ft env (.Assign [.Tuple [.Name x px,.Name y py] kt tp] (.Tuple [e1,e2] kv vp) spos) (t6 p is):=λΓ σ s fl Γ' c' I F h=>by
 (refine bE2 h ?_;(try clear h);intro d c1 e1 h)
 (refine mE h ?_;(try clear h);intro Γ1 e2 h)
 cases h
 refine Assign_Tuple (h1.use I F e1 λv σ1 s1 q1 I1 x1 F1 r1=>?_) rfl (pd (oS (F.ok.kinds _ (dc hi))) hst)
 subst q1
 exact wpAny_mono (hV hr hn Γ σ1 s1 d v Γ' I1 F1 r1 e2) (λ_ s2 ⟨I2,x2,F2⟩=>⟨σ1,rfl,I2,x1.up.trans I1 x2,F2,trivial⟩) λ_ _ f=>f
theorem m6{x y:Str}{px py tp vp p1 p2:Pos}{kt kv:Nat}(hk:env.scope.kind=.function)(hx:env.kindOf x=some .local)(hy:env.kindOf y=some .local)(hl:(py.line==px.line)=true)(hne:(y==x)=false) :
  swappedStores [.Tuple [.Name x px,.Name y py] kt tp] (.Tuple [.List [] p1,.List [] p2] kv vp) env=pure (some [x,y]):=by
 have hb:env.blockKind=.function:=by unfold Env.blockKind;rw[hk];rfl
 have h:([x,y]:List Str).eraseDups=[x,y]:=by simp[List.eraseDups,List.eraseDupsBy,List.eraseDupsBy.loop,hne]
 rw[zb,hb,hx,hy,hl,beq_self_eq_true px.line]
 show (if (([x,y]:List Str).eraseDups.length != 2)=true then pure none else pure (some [x,y]))=_
 rw[h];rfl
noncomputable def DB(i j:Nat):PS:=λΓ c=>some (.next,(Γ.set j (.ref (c.length+1))).set i (.ref c.length),c++[.lst [],.lst []])
theorem EN{x y:Str}{px py tp vp p1 p2 spos:Pos}{kt kv:Nat}{i j:Nat}(hr:Room A 8)(hi:ft.nt[i]?=some (x,.l))(hj:ft.nt[j]?=some (y,.l))(hl:autoParam ((py.line==px.line)=true) aR)(hne:autoParam ((y==x)=false) aR) :
  aN X A ft env (.Assign [.Tuple [.Name x px,.Name y py] kt tp] (.Tuple [.List [] p1,.List [] p2] kv vp) spos) (DB i j):=λΓ σ s fl Γ' c' I F h=>by
 cases h
 refine Assign_Tuple_swapped ?_ rfl (m6 F.ok.kind (jv (F.ok.kinds _ (dc hi))) (jv (F.ok.kinds _ (dc hj))) hl hne)
 refine wpAny_Tuple (wpAny_items_cons (wpAny_List (wpAny_items_nil ⟨bJ (by simp),?_⟩)) rfl)
 refine wpAny_items_cons (wpAny_List (wpAny_items_nil ⟨bJ (by simp),?_⟩)) rfl
 refine wpAny_items_nil ⟨bJ (by simp),?_⟩
 obtain⟨I1,x1⟩:=lF (vs:=[]) (ds:=[]) (tk:=s.toks) I .nil
 obtain⟨I2,x2⟩:=lF (vs:=[]) (ds:=[]) (tk:=s.toks) I1 .nil
 have own1:(⟨σ.g,(σ.own++[s.heap.objs.size])++[(s.heap.push (cI ([]:List Value).toArray 0)).objs.size],(σ.sto++[.lst []])++[.lst []]⟩:Sg).own[σ.sto.length]?=some s.heap.objs.size:=by
  rw[←I.len];simp
 have own2:(⟨σ.g,(σ.own++[s.heap.objs.size])++[(s.heap.push (cI ([]:List Value).toArray 0)).objs.size],(σ.sto++[.lst []])++[.lst []]⟩:Sg).own[σ.sto.length+1]?=some (s.heap.push (cI ([]:List Value).toArray 0)).objs.size:=by
  rw[←I.len];simp
 have x12:=x1.trans I1 x2
 have esto:σ.sto++[Cell.lst [],Cell.lst []]=(σ.sto++[.lst []])++[.lst []]:=by simp
 dsimp only at I2 x12 own1 own2
 generalize hσ2:(⟨σ.g,(σ.own++[s.heap.objs.size])++[(s.heap.push (cI ([]:List Value).toArray 0)).objs.size],(σ.sto++[.lst []])++[.lst []]⟩:Sg)=σ2 at*
 have es2:σ2.sto=σ.sto++[Cell.lst [],Cell.lst []]:=by rw[←hσ2,esto]
 have o1:σ2.own[σ.sto.length]?=some s.heap.objs.size:=by rw[←hσ2];exact own1
 have o2:σ2.own[σ.sto.length+1]?=some (s.heap.push (cI ([]:List Value).toArray 0)).objs.size:=by rw[←hσ2];exact own2
 generalize s.heap.objs.size=a1 at*
 generalize (s.heap.push (cI ([]:List Value).toArray 0)).objs.size=a2 at*
 obtain⟨I3,x3⟩:=jT (o:=fW [Value.ref a1,.ref a2].toArray 0) (tk:=s.toks) I2
 refine wpAny_unpackItems_tuple (items:=#[.ref a1,.ref a2]) hr.hand ⟨_,Heap.get?_push_size _ rfl,rfl,_,rfl⟩ λh' he=>?_
 have I4:=Mine.Inv.heap (W:=NoW) (h':=h') (tk:=s.toks) I3 (λa o e _=>he a o (Nat.ne_of_lt (Heap.lt_size e)) e) λ_ f=>f.elim
 have x4:=Ext.heap (W:=NoW) (Wg:=NoG) (σ:=σ2) (h':=h') (tk:=s.toks) (s:={ s with heap:=((s.heap.push (cI ([]:List Value).toArray 0)).push (cI ([]:List Value).toArray 0)).push (fW [Value.ref a1,.ref a2].toArray 0) }) (λa o e _=>he a o (Nat.ne_of_lt (Heap.lt_size e)) e)
 have x14:=(x12.trans I2 x3).trans I3 x4
 have F4:=F.ext x14
 show wpAny _ _ (assignInOrder [bindName env y,bindName env x] [.ref a2,.ref a1]) _ _ _
 refine wpAny_assignInOrder_more (wpAny_bindName (cT I4 F4 hj (by intro q;cases q) (sl:=.ref (σ.sto.length+1)) ⟨a2,o2,rfl⟩ λs5 I5 x5 F5=>?_))
 refine wpAny_assignInOrder_more (wpAny_bindName (cT I5 F5 hi (by intro q;cases q) (sl:=.ref σ.sto.length) ⟨a1,o1,rfl⟩ λs6 I6 x6 F6=>?_))
 exact wpAny_assignInOrder_none ⟨σ2,es2,I6,(x14.up.trans I4 x5).trans I5 x6,F6,trivial⟩
end
end Mine
namespace Mine
section
variable{X:Cx}{A:Around}{ft ft':FT}{env:Env}{Γ Γ':List Slot}{σ:Sg}{s:Shared}{d:D}{c':List Cell}
noncomputable def ew(p:PE):PE:=λΓ c=>(p Γ c).bind λ(d,c1)=>match d with
 | .int n=>if 0≤n∧n<100000 then some (.lst (eM 0 n),c1)else none
 | _=>none
theorem mW{n:Nat}{acc:Array Value}{g:Heap}(h:ItemsOf (λ(i:Nat) v=>∃t,v=Value.int (0+(i:Int)*1) t) acc n):RelAll g acc.toList ((List.range n).map λ(k:Nat)=>D.int (0+(k:Int))):=by
 obtain⟨h1,h2⟩:=h
 have e:acc.toList=(List.range n).map λi=>acc.toList.getD i .none:=by
  apply List.ext_getElem?
  intro i
  by_cases hi:i<n
  ·simp[hi,h1]
  ·simp[hi,h1]
 rw[e]
 refine RelAll.map λk hk=>?_
 have hk':k<acc.size:=by rw[h1];exact List.mem_range.mp hk
 obtain⟨t,ht⟩:=h2 k acc[k] (by simp[hk'])
 have:acc.toList.getD k .none=acc[k]:=by simp[List.getD,hk']
 rw[this,ht,Int.mul_one]
 exact .int _ _
theorem r8{np np2 p2 pos:Pos}{e:Expr}{p:PE}(hr:Room A 8)(hx:("list" : Str)∈ft.gt)(hn:X.mg "list" = none)(hb:X.mb "list" = some (.type "list"))(hx2:("range" : Str)∈ft.gt)(hn2:X.mg "range" = none)(hb2:X.mb "range" = some (.type "range"))(h1:SoundE X A ft env e p)
  (he:autoParam (∀env,starEach [e] env=(false,eval e env)::starEach [] env) aR) :
  SoundE X A ft env (.Call (.Name "list" np) [.Call (.Name "range" np2) [e] [] p2] [] pos) (ew p):=λΓ σ s d c' I F h=>by
 (refine bE2 h ?_;(try clear h);intro d0 c1 e1 h)
 dsimp only at h
 (first|(refine iE h ?_ ?_<;>(clear h;intro _ h))|split at h)
 ·rename_i n
  (first|(refine iE h ?_ ?_<;>(clear h;intro _ h))|split at h)
  ·rename_i hb'
   cases h
   refine wpAny_Call_NameR (eval_Name (F.ok.odd _ (List.mem_append_right _ hx)).1 (bZ I F hx hn hb ?_))
   refine callWith_type1 (wpAny_items_cons (wpAny_Call_NameR (eval_Name (F.ok.odd _ (List.mem_append_right _ hx2)).1 (bZ I F hx2 hn2 hb2 ?_))) rfl) rfl rfl
   refine callWith_type1 (wpAny_items_cons (h1.use I F e1 λv σ1 s1 q1 I1 x1 F1 r1=>wpAny_items_nil ?_) (he env)) (he env) rfl
   subst q1
   cases r1
   rename_i t
   refine call_range_1 (wpAny_items_nil ?_)
   obtain⟨I2,x2⟩:=jT (o:={ cls:=.type "range",data:=.fields #[.int 0 s1.toks,.int n t,.int 1 (s1.toks+1)] }) (tk:=s1.toks+1+1) I1
   obtain⟨N,rfl⟩:∃N:Nat,n=(N:Int):=⟨n.toNat,by(first|lia|omega)⟩
   refine wpAny_with_toks (n:=s1.toks) (Nat.le_add_right _ 2) (call_list_range hr.hand (IsRange.new ..) (k9 (by(first|lia|omega)) (by(first|lia|omega))) (n:=N) (by rw[rangeSize_one];split<;>(first|lia|omega)) (by(first|lia|omega)) λh' tk acc cc keep hacc hit htk=>?_)
   have hm:s1.toks≤tk:=htk
   have nn:((s1.heap.push { cls:=.type "range",data:=.fields #[.int 0 s1.toks,.int (N:Int) t,.int 1 (s1.toks+1)] })).get? (s1.heap.push { cls:=.type "range",data:=.fields #[.int 0 s1.toks,.int (N:Int) t,.int 1 (s1.toks+1)] }).objs.size=none:=get?_push_none
   have I3:X.Inv σ1 { s1 with heap:=h',toks:=tk }:=Mine.Inv.heap (W:=NoW) I1 (λa o e _=>keep a o (Heap.get?_push_of_some _ e)) (λ_ f=>f.elim) hm
   have x3:Ext NoW NoG σ1 s1 σ1 { s1 with heap:=h',toks:=tk }:=Ext.heap λa o e _=>keep a o (Heap.get?_push_of_some _ e)
   have nn1:=nn
   have n1:σ1.g.get? (s1.heap.push { cls:=.type "range",data:=.fields #[.int 0 s1.toks,.int (N:Int) t,.int 1 (s1.toks+1)] }).objs.size=none∧_:=And.intro (I2.notIn nn).2 (I2.notIn nn).1
   obtain⟨I4,x4,le4,e4⟩:=gR I3 x3 hacc n1.1 n1.2 (by
    cases q:s1.heap.get? (s1.heap.push { cls:=.type "range",data:=.fields #[.int 0 s1.toks,.int (N:Int) t,.int 1 (s1.toks+1)] }).objs.size with
    | none=>rfl
    | some o=>rw[Heap.get?_push_of_some _ q]at nn;cases nn)
   refine PostE.trans I1 x1 ⟨⟨cR σ1.g (s1.heap.push { cls:=.type "range",data:=.fields #[.int 0 s1.toks,.int (N:Int) t,.int 1 (s1.toks+1)] }).objs.size (cI acc cc),σ1.own,σ1.sto⟩,rfl,I4,x4,.lst (vs:=acc.toList) (n:=cc) (by simpa using e4) ?_⟩
   have:=mW (g:=cR σ1.g (s1.heap.push { cls:=.type "range",data:=.fields #[.int 0 s1.toks,.int (N:Int) t,.int 1 (s1.toks+1)] }).objs.size (cI acc cc)) hit
   unfold eM
   simpa using this
  ·cases h
 ·cases h
noncomputable def distinct(ns:List Int):Nat:=(PyProof.Rows.firstMet (λi=>ns.getD i 0) ns.length).length
noncomputable def i4(p:PE):PE:=λΓ c=>(p Γ c).bind λ(d,c1)=>match d with
 | .lst ds=>(e7 ds).bind λns=>if ns.length<4000 then some (.int (distinct ns),c1)else none
 | _=>none
theorem AP{np np2 p2 pos:Pos}{e:Expr}{p:PE}(hr:Room A 8)(hx:("len" : Str)∈ft.gt)(hn:X.mg "len" = none)(hb:X.mb "len" = some (.builtin "len"))(hx2:("set" : Str)∈ft.gt)(hn2:X.mg "set" = none)(hb2:X.mb "set" = some (.type "set"))(h1:SoundE X A ft env e p)
  (he:autoParam (∀env,starEach [e] env=(false,eval e env)::starEach [] env) aR) :
  SoundE X A ft env (.Call (.Name "len" np) [.Call (.Name "set" np2) [e] [] p2] [] pos) (i4 p):=λΓ σ s d c' I F h=>by
 (refine bE2 h ?_;(try clear h);intro d0 c1 e1 h)
 dsimp only at h
 (first|(refine iE h ?_ ?_<;>(clear h;intro _ h))|split at h)
 ·rename_i ds
  (refine bE h ?_;(try clear h);intro ns e2 h)
  (first|(refine iE h ?_ ?_<;>(clear h;intro _ h))|split at h)
  ·rename_i hl
   cases h
   refine wpAny_Call_NameR (eval_Name (F.ok.odd _ (List.mem_append_right _ hx)).1 (bZ I F hx hn hb ?_))
   refine callWith_builtin1 (wpAny_items_cons (wpAny_Call_NameR (eval_Name (F.ok.odd _ (List.mem_append_right _ hx2)).1 (bZ I F hx2 hn2 hb2 ?_))) rfl) rfl rfl
   refine callWith_type1 (wpAny_items_cons (h1.use I F e1 λv σ1 s1 q1 I1 x1 F1 r1=>wpAny_items_nil ?_) (he env)) (he env) rfl
   subst q1
   cases r1 with
   | lst el rl=>
    rename_i l vs n
    have hi:=rl.ints e2
    have hlen:vs.length=ns.length:=by obtain⟨xs,w1,w2⟩:=fP hi;rw[w1,w2];simp
    refine wpAny_with_toks (n:=s1.toks) (Nat.le_refl _) (call_set_list hr.hand ⟨_,I1.sub _ _ el,rfl,n,rfl⟩ (by simpa using hi) (by simp[show scanBound=4096 from rfl];(first|lia|omega)) λh' tk hset keep htk=>wpAny_items_nil ?_)
    have hm:s1.toks≤tk:=htk
    obtain⟨o,es,ep,t,ho,hex,hd,_,_,hsz,hf,hn'⟩:=hset
    have hle:(PyProof.Rows.firstMet (λi=>ns.getD i 0) vs.toArray.size).length≤vs.toArray.size:=PyProof.Rows.firstMet_length_le _ _
    refine call_len_set ho hex hd hf (by simp[show scanBound=4096 from rfl]at hsz;(first|lia|omega)) ?_
    rw[hn',List.size_toArray,hlen]
    exact PostE.trans I1 x1 (PostE.kept (h':=h') I1 (λa o e=>keep a o (Heap.lt_size e) e) (show s1.toks≤tk+1+1 by(first|lia|omega)) (.int _ _))
  ·cases h
 ·cases h
noncomputable def oE:List D→Option D:=on2 λa b=>onS a λx=>onS b λy=>if y.length≠0∧x.length≤100000∧(Txt.split x y).length≤100000 then some (.lst ((Txt.split x y).map .str))else none
theorem j0{g:Heap}:∀(tk:Nat) (xs:List Str),RelAll g (strsFrom tk xs) (xs.map .str)
 | _,[]=>.nil
 | tk,x::r=>.cons (.str x tk) (j0 (tk+1) r)
theorem BK:COk X A (.builtin "str.split") oE:=wI λ{σ s v w a b d} I r r2 e0=>by
 refine o6 r e0 λx t h=>?_
 refine o6 r2 h λy u h=>?_
 refine iS h λhc h=>?_
 obtain⟨hy,hx,hl⟩:=hc
 subst h
 by_cases h1:(decide (x.length<y.length) || decide (Builtin.Str.strKind x<Builtin.Str.strKind y))=true
 ·have e:Txt.split x y=[x]:=by unfold Txt.split;rw[if_pos h1]
  rw[e]
  refine call_meets F.slot_str_split (typeIs_str ..) F.entry_str_split (F.args_str_split_2 _ _) (meets_str_split_cannot_occur x y t u h1) ?_
  exact PostE.newL (vs:=[.str x t]) (tk:=s.toks) I (.one (.str _ _))
 ·have h1':=Bool.eq_false_iff.mpr h1
  by_cases h2:(Builtin.Str.occurrences x y 0 x.length (x.length+1)).isEmpty=true
  ·have e:Txt.split x y=[x]:=by unfold Txt.split;rw[if_neg h1,if_pos h2]
   rw[e]
   refine call_meets F.slot_str_split (typeIs_str ..) F.entry_str_split (F.args_str_split_2 _ _) (meets_str_split_not_found x y t u h1' (by simpa using hy) h2) ?_
   exact PostE.newL (vs:=[.str x t]) (tk:=s.toks) I (.one (.str _ _))
  ·have e:Txt.split x y=Builtin.Str.partsBetween x (Builtin.Str.occurrences x y 0 x.length (x.length+1)) y.length:=by unfold Txt.split;rw[if_neg h1,if_neg h2]
   rw[e]at hl⊢
   refine call_meets F.slot_str_split (typeIs_str ..) F.entry_str_split (F.args_str_split_2 _ _) (meets_str_split_sep x y t u h1' (by simpa using hy) (Bool.eq_false_iff.mpr h2) (bJ hx) (bJ hl)) ?_
   exact PostE.newL I (j0 _ _)
noncomputable def qm(T:Int→Option Str)(p q:PE):PE:=λΓ c=>(p Γ c).bind λ(a,c1)=>(q Γ c1).bind λ(b,c2)=>match a with
 | .int i=>match T i with
  | some x=>some (.str x,c2)
  | none=>some (b,c2)
 | _=>none
theorem oT{κ:Type}[DecidableEq κ]{K:PySem.KeyKind X.prog X.w κ}{dct:Addr}{f:κ→Option Value}(hm:X.g0.MapOf K dct f)(I:X.Inv σ s):s.heap.MapOf K dct f:=by
 obtain⟨o,es,ep,ho,r⟩:=hm
 exact⟨o,es,ep,I.sub _ _ (I.top.base _ _ ho),r⟩
theorem EI{x:Str}{dct:Addr}{f:Int→Option Value}{T:Int→Option Str}{np apos pos:Pos}{e1 e2:Expr}{p q:PE}(hx:x∈ft.gt)(hv:X.mg x=some (.ref dct))(hm:X.g0.MapOf (intKind X.prog X.w) dct f)(hd:(dct==sysModules)=false)
  (hT:∀i,match T i with|some x=>∃t,f i=some (.str x t)|none=>f i=none) (h1:SoundE X A ft env e1 p) (h2:SoundE X A ft env e2 q)
  (hbase:autoParam (∀env,attributeBase (.Name x np) "get" env (eval (.Name x np) env)=eval (.Name x np) env) aR)
  (hfew:autoParam (∀env,((backTo pos (starEach [e1,e2] env)).all (λx=>!x.1) && (backToKw pos (keywordEach [] env)).all (λx=>x.1.isSome)
   && decide (([e1,e2]:List Expr).length+([]:List Keyword).length+(if ([]:List Keyword).isEmpty then 0 else 1)<30))=true) aR)
  (hline:autoParam ((apos.endLine==pos.line)=true) aR) (htrees:autoParam (∀env,backTo pos (starEach [e1,e2] env)=[(false,eval e1 env),(false,do standAt pos;eval e2 env)]∨backTo pos (starEach [e1,e2] env)=[(false,eval e1 env),(false,eval e2 env)]) aC) :
  SoundE X A ft env (.Call (.Attribute (.Name x np) "get" apos) [e1,e2] [] pos) (qm T p q):=λΓ σ s d c' I F h=>by
 (refine bE2 h ?_;(try clear h);intro a c1 g1 h)
 (refine bE2 h ?_;(try clear h);intro b c2 g2 h)
 dsimp only at h
 cases a with
 | int i=>
  dsimp only at h
  have hm':s.heap.MapOf (intKind X.prog X.w) dct f:=oT hm I
  refine wpAny_Call_method (hbase env) (hfew env) hline PySem.F.plainAttrs_dict PySem.F.slot_dict_get PySem.F.type_dict_get (eval_Name (F.ok.odd x (List.mem_append_right _ hx)).1 (dz I F hx hv ?_))
  obtain⟨o,es,ep,ho,hex,r⟩:=id hm'
  refine⟨hm'.typeIs,λa e=>by cases e;exact⟨o,ho,hex.2.1⟩,?_⟩
  have key:wpAny X.M A (eval e1 env) (λkey s₁=>wpAny X.M A (eval e2 env) (λdflt s₂=>∃k f,(intKind X.prog X.w).is k key=true∧s₂.heap.MapOf (intKind X.prog X.w) dct f∧PostE X σ s d c' ((f k).getD dflt) { s₂ with toks:=s₂.toks+1 }) NoE s₁) NoE s:=by
   refine h1.use I F g1 λv1 σ1 s1 q1 I1 x1 F1 r1=>?_
   subst q1
   refine h2.use I1 F1 g2 λv2 σ2 s2 q2 I2 x2 F2 r2=>?_
   subst q2
   cases r1
   refine⟨i,f,by simp[intKind,Value.isInt],oT hm I2,?_⟩
   have hTi:=hT i
   refine PostE.trans I2 (x1.trans I1 x2) ?_
   cases q:T i with
   | some z=>
    rw[q]at hTi h
    obtain⟨t,ht⟩:=hTi
    cases h
    rw[ht]
    exact PostE.here I2 (.str _ _)
   | none=>
    rw[q]at hTi h
    cases h
    rw[show f i=none from hTi]
    exact PostE.here I2 r2
  rcases htrees env with ht|ht
  ·rw[ht]
   exact wpAny_dict_get2 hd (wpAny_mono key (λv1 s1 k=>wpAny_bind (wpAny_standAt k)) λ_ _ f=>f)
  ·rw[ht]
   exact wpAny_dict_get2 hd key
 | _=>cases h
noncomputable def mn(T:Str→Option Int)(p:PE):PE:=λΓ c=>(p Γ c).bind λ(a,c1)=>match a with
 | .str x=>(T x).map λi=>(.int i,c1)
 | _=>none
theorem EM{x:Str}{dct:Addr}{f:Str→Option Value}{T:Str→Option Int}{np pos:Pos}{e:Expr}{p:PE}(hx:x∈ft.gt)(hv:X.mg x=some (.ref dct))(hm:X.g0.MapOf (strKind X.prog X.w) dct f)
  (hT:∀i,match T i with|some x=>∃t,f i=some (.int x t)|none=>f i=none) (h1:SoundE X A ft env e p) (hs:autoParam (∀o i,subscripted e false o i=operate [o,i] (getItem o i)) aR) :
  SoundE X A ft env (.Subscript (.Name x np) e pos) (mn T p):=λΓ σ s d c' I F h=>by
 (refine bE2 h ?_;(try clear h);intro a c1 g1 h)
 dsimp only at h
 (first|(refine iE h ?_ ?_<;>(clear h;intro _ h))|split at h)
 ·rename_i y
  (refine mE h ?_;(try clear h);intro i g2 h)
  cases h
  refine Subscript_ (eval_Name (F.ok.odd x (List.mem_append_right _ hx)).1 (dz I F hx hv ?_))
  refine h1.use I F g1 λv1 σ1 s1 q1 I1 x1 F1 r1=>?_
  subst q1
  cases r1
  have hm':s1.heap.MapOf (strKind X.prog X.w) dct f:=oT hm I1
  have hTi:=hT y
  rw[g2]at hTi
  obtain⟨t,ht⟩:=hTi
  exact tail_any hm'.typeIs slot_dict_getitem.lookup (wpAny_getItem_of (strKind_is X.prog X.w y _) hm' ht (PostE.trans I1 x1 (PostE.here I1 (.int _ _)))) (hs _ _)
 ·cases h
noncomputable def kx(T:Str→Option Int)(p:PE):PB:=λΓ c=>(p Γ c).bind λ(a,c1)=>match a with
 | .str x=>some ((T x).isSome,c1)
 | _=>none
theorem CD{x:Str}{dct:Addr}{f:Str→Option Value}{T:Str→Option Int}{np pos:Pos}{e:Expr}{p:PE}(hx:x∈ft.gt)(hv:X.mg x=some (.ref dct))(hm:X.g0.MapOf (strKind X.prog X.w) dct f)(hd:(dct==sysModules)=false)
  (hT:∀i,match T i with|some x=>∃t,f i=some (.int x t)|none=>f i=none) (h1:SoundE X A ft env e p) (hm2:autoParam (behindInMarks .In (.Name x np)=false) aC) :
  SoundB X A ft env (.Compare e [.In] [.Name x np] pos) (kx T p):=λΓ σ s d c' I F h=>by
 (refine bE2 h ?_;(try clear h);intro a c1 g1 h)
 dsimp only at h
 (first|(refine iE h ?_ ?_<;>(clear h;intro _ h))|split at h)
 ·rename_i y
  cases h
  refine wpAny_isTrue_Compare1 (h1.use I F g1 λv1 σ1 s1 q1 I1 x1 F1 r1=>?_) hm2
  subst q1
  refine eval_Name (F.ok.odd x (List.mem_append_right _ hx)).1 (dz I1 F1 hx hv ?_)
  cases r1
  have hm':s1.heap.MapOf (strKind X.prog X.w) dct f:=oT hm I1
  have hTi:=hT y
  refine wpAny_in_of (strKind_is X.prog X.w y _) hd hm' (wpAny_truthy_bool ⟨?_,σ1,rfl,I1.toks,x1.trans I1 (Ext.heap λ_ _ e _=>e)⟩)
  cases q:T y with
  | some z=>rw[q]at hTi;obtain⟨t,ht⟩:=hTi;rw[ht];rfl
  | none=>rw[q]at hTi;rw[show f y=none from hTi];rfl
 ·cases h
end
end Mine
namespace Mine
section
variable{X:Cx}{A:Around}{ft ft':FT}{env:Env}{Γ Γ':List Slot}{σ:Sg}{s:Shared}{d:D}{c':List Cell}
noncomputable def fR(iL iP:Nat)(p:PE):PS:=λΓ c=>(ib Γ c iL).bind λk=>match Γ[iP]? with
 | some (.val (.str pool))=>(p Γ c).bind λ(d,c1)=>match c1[k]?,d with
  | some (.lst ds),.int i=>if (-1000000<i∧i<1000000)∧ds.length≤99999∧pool.length≤1000 then((seqIndex? i pool.length).bind (pool.cps[·]?)).map λch=>
    (.next,aT iP (.str (Txt.replace pool ⟨#[ch]⟩ ⟨#[]⟩)) Γ,c1.set k (.lst (ds++[.str ⟨#[ch]⟩])))else none
  | _,_=>none
 | _=>none
theorem y0{iL iP:Nat}{xL xP:Str}{kL kP:VK}{p1 p2 p3 p4 p5 p6 p7 p8 p9 p10 p11 p12 p13 p14 ap ap2:Pos}{k1 k2:Nat}{z:Str}{idx:Expr}{p:PE}(hiL:ft.nt[iL]?=some (xL,kL))(hiP:ft.nt[iP]?=some (xP,kP))(hkP:kP≠.f)(h1:SoundE X A ft env idx p)(hz:z=⟨#[]⟩)
  (hbase:autoParam (∀env,attributeBase (.Name xL p1) "append" env (eval (.Name xL p1) env)=eval (.Name xL p1) env) aR)
  (hfew:autoParam (∀env,((backTo p4 (starEach [.Subscript (.Name xP p2) idx p3] env)).all (λx=>!x.1) && (backToKw p4 (keywordEach [] env)).all (λx=>x.1.isSome)
   && decide (([.Subscript (.Name xP p2) idx p3]:List Expr).length+([]:List Keyword).length+(if ([]:List Keyword).isEmpty then 0 else 1)<30))=true) aR)
  (hline:autoParam ((ap.endLine==p4.line)=true) aR) (hs:autoParam (∀o i,subscripted idx false o i=operate [o,i] (getItem o i)) aR)
  (hbase2:autoParam (∀env,attributeBase (.Name xP p7) "replace" env (eval (.Name xP p7) env)=eval (.Name xP p7) env) aR)
  (hfew2:autoParam (∀env,((backTo p13 (starEach [.Subscript (.Name xL p8) (.UnaryOp .USub (.Constant (.int 1) k1 p9) p10) p11,.Constant (.str z) k2 p12] env)).all (λx=>!x.1) && (backToKw p13 (keywordEach [] env)).all (λx=>x.1.isSome)
   && decide (([.Subscript (.Name xL p8) (.UnaryOp .USub (.Constant (.int 1) k1 p9) p10) p11,.Constant (.str z) k2 p12]:List Expr).length+([]:List Keyword).length+(if ([]:List Keyword).isEmpty then 0 else 1)<30))=true) aR)
  (hline2:autoParam ((ap2.endLine==p13.line)=true) aR) :
  bj X A ft env [.Expr (.Call (.Attribute (.Name xL p1) "append" ap) [.Subscript (.Name xP p2) idx p3] [] p4) p5,
   .Assign [.Name xP p6] (.Call (.Attribute (.Name xP p7) "replace" ap2) [.Subscript (.Name xL p8) (.UnaryOp .USub (.Constant (.int 1) k1 p9) p10) p11,.Constant (.str z) k2 p12] [] p13) p14] (fR iL iP p):=λΓ σ s fl Γ' c' I F h=>by
 (refine bE h ?_;(try clear h);intro k e0 h)
 obtain⟨e0,ds0,ec⟩:=gS e0
 dsimp only at h
 (first|(refine iE h ?_ ?_<;>(clear h;intro _ h))|split at h)
 ·rename_i pool eP
  (refine bE2 h ?_;(try clear h);intro d c1 e1 h)
  dsimp only at h
  (first|(refine iE h ?_ ?_<;>(clear h;intro _ h))|split at h)
  ·rename_i ds i e2
   (first|(refine iE h ?_ ?_<;>(clear h;intro _ h))|split at h)
   ·rename_i hc
    obtain⟨hi,hl,hp⟩:=hc
    (refine mE h ?_;(try clear h);intro ch e3 h)
    cases h
    refine wpAny_execs_cons (wpAny_Expr ?_ (by unfold interactive;rw[F.ok.kind];rfl) rfl)
    refine wpAny_Call_append (hbase env) (hfew env) hline rfl (eval_Name (cD F hiL) (cS F hiL e0 (by intro q;cases q) λv r=>?_))
    obtain⟨a,ha,rfl⟩:=r
    obtain⟨vs0,n0,ho0,_⟩:=I.cells k a _ ha ec
    refine⟨a,vs0.toArray,rfl,⟨_,n0,ho0,rfl,rfl,rfl⟩,?_⟩
    refine Subscript_ (eval_Name (cD F hiP) (cS F hiP eP (by intro q;cases q) λvP rP=>?_))
    refine h1.use I F e1 λv σ1 s1 q1 I1 x1 F1 r1=>?_
    subst q1
    cases rP;cases r1
    refine tail_any (typeIs_str s1 _ _) PySem.F.slot_str_getitem.lookup (P.getItem_str (by simp;(first|lia|omega)) e3 ?_) (hs _ _)
    obtain⟨vs,n,ho,rr⟩:=I1.cells k a _ (ownAt x1 ha) e2
    refine append_at ho (λh' hs' hD=>?_) (by simp only[List.size_toArray,rr.length];exact bJ (by(first|lia|omega)))
    obtain⟨I2,x2⟩:=fJ (cl':=.lst (ds++[.str ⟨#[ch]⟩])) (tk:=s1.toks+1) I1 (ownAt x1 ha) e2 rfl (h':=h') (λb o hb e=>(hs'.2 b hb).trans e) ⟨vs++[.str ⟨#[ch]⟩ s1.toks],n+1,by rw[hD,List.push_toArray],rr.append (.one (.str _ _))⟩
    have F2:=F1.ext x2
    have x12:=x1.trans I1 x2
    have hown2:σ1.own[k]?=some a:=ownAt x1 ha
    have hD':h'.get? a=some (cI (vs.toArray.push (.str ⟨#[ch]⟩ s1.toks)) (n+1)):=hD
    have htk1:0<s1.toks:=I1.tk
    generalize hs2:({ s1 with heap:=h',toks:=s1.toks+1 }:Shared)=s2 at*
    have hs2h:s2.heap=h':=by rw[←hs2]
    have hs2t:s2.toks=s1.toks+1:=by rw[←hs2]
    refine wpAny_execs_cons (wpAny_Assign_Name (wpAny_Call_method (hbase2 env) (hfew2 env) hline2 PySem.F.plainAttrs_str PySem.F.slot_str_replace PySem.F.type_str_replace (eval_Name (cD F hiP) (cS F2 hiP eP (by intro q;cases q) λv3 r3=>?_))) rfl)
    cases r3
    rename_i t3
    refine⟨typeIs_str _ _ _,λb e=>(nomatch e),callWith_method1 (first:=[_]) (wpAny_items_cons ?_ rfl) rfl rfl⟩
    refine Subscript_ (eval_Name (cD F hiL) (cS F2 hiL e0 (by intro q;cases q) λv4 r4=>?_))
    obtain⟨a',ha',rfl⟩:=r4
    have:a'=a:=by
     have q:σ1.own[k]?=some a':=ha'
     rw[hown2]at q;cases q;rfl
    subst this
    refine wpAny_UnaryOp (wpAny_Constant_int (P.neg_int ?_))
    have hlist:s2.heap.IsList a' (vs.toArray.push (.str ⟨#[ch]⟩ s1.toks)):=⟨_,by rw[hs2h];exact hD',rfl,n+1,rfl⟩
    refine tail_any (s:={ s2 with toks:=s2.toks+1+1 }) (T:="list") (by exact hlist.typeIs) slot_list_getitem.lookup (wpAny_getItem_list_neg (k:=-1) hlist (by decide) (by simp;(first|lia|omega)) (by decide) (x:=.str ⟨#[ch]⟩ s1.toks) (by rw[show ((-1:Int)+((vs.toArray.push (Value.str ⟨#[ch]⟩ s1.toks)).size:Int)).toNat=vs.length by simp;(first|lia|omega)];simp) ?_) rfl
    refine wpAny_items_cons (wpAny_Constant_str (wpAny_items_nil ?_)) rfl
    subst hz
    refine wpAny_with_toks (n:=s2.toks) (by show s2.toks≤s2.toks+1+1+1;(first|lia|omega)) (SC.replace (u:=s1.toks) (v:=s2.toks+1+1) (Nat.ne_of_gt htk1) (show (s2.toks+1+1:Nat)≠0 from Nat.succ_ne_zero _) (show (s1.toks:Nat)≠s2.toks+1+1 from by rw[hs2t];(first|lia|omega)) (by rw[beq_eq_false_iff_ne];intro q;injection q with q;simp at q) (by show pool.length+(pool.length+1)*0≤_;(first|lia|omega)) λt' tk htk=>?_)
    have hmm:s2.toks≤tk:=htk
    have I3:X.Inv ⟨σ1.g,σ1.own,σ1.sto.set k (.lst (ds++[.str ⟨#[ch]⟩]))⟩ { s2 with toks:=tk }:=I2.toks hmm
    have x3:Ext NoW NoG ⟨σ1.g,σ1.own,σ1.sto.set k (.lst (ds++[.str ⟨#[ch]⟩]))⟩ s2 ⟨σ1.g,σ1.own,σ1.sto.set k (.lst (ds++[.str ⟨#[ch]⟩]))⟩ { s2 with toks:=tk }:=Ext.heap λ_ _ e _=>e
    refine cT I3 (F2.ext x3) hiP hkP (sl:=.val (.str (Txt.replace pool ⟨#[ch]⟩ ⟨#[]⟩))) (.str _ _) λs' I' x' F'=>?_
    exact wpAny_execs_nil ⟨_,rfl,I',((x12.up.trans I2 x3.up).trans I3 x'),F',trivial⟩
   ·cases h
  ·cases h
 ·cases h
end
end Mine
namespace Mine
noncomputable def ed{α:Type}(lt:Nat→Nat→Bool):KasT α→α
 | .ret a=>a
 | .ask i j k=>ed lt (k (lt i j))
noncomputable def gU{α:Type}(n:Nat):KasT α→Bool
 | .ret _=>true
 | .ask i j k=>decide (i<n) && (decide (j<n) && (gU n (k true) && gU n (k false)))
noncomputable def gx{α:Type}(P:α→Bool):KasT α→Bool
 | .ret a=>P a
 | .ask _ _ k=>gx P (k true) && gx P (k false)
theorem l9{α:Type}{P:α→Bool}{lt:Nat→Nat→Bool}:∀{t:KasT α},gx P t=true→P (ed lt t)=true
 | .ret _,h=>h
 | .ask i j k,h=>by
  simp only[gx,Bool.and_eq_true]at h
  unfold ed
  cases lt i j with
  | true=>exact l9 h.1
  | false=>exact l9 h.2
theorem oQ{α:Type}{n:Nat}{lt:Nat→Nat→Bool}{cmp:Nat→Nat→(Bool→Shared→Prop)→Shared→Prop}{G:α→Shared→Prop}{s:Shared}(hc:∀i j C,i<n→j<n→C (lt i j) s→cmp i j C s) :
  ∀{t:KasT α},gU n t=true→G (ed lt t) s→t.kasWp cmp G s
 | .ret _,_,h=>h
 | .ask i j k,hs,h=>by
  simp only[gU,Bool.and_eq_true,decide_eq_true_eq]at hs
  refine hc i j _ hs.1 hs.2.1 ?_
  cases q:lt i j with
  | true=>exact oQ hc hs.2.2.1 (by unfold ed at h;rw[q]at h;exact h)
  | false=>exact oQ hc hs.2.2.2 (by unfold ed at h;rw[q]at h;exact h)
section
variable{prog:Program}{w:World}{A:Around}{E:Value→Shared→Prop}{s:Shared}{a:Addr}{vs:List Value}
noncomputable abbrev CT(h:Heap)(a:Addr)(vs:List Value):Heap:=((h.update a (Obj.mapSeq λ_=>#[])).push (seqObj "tuple" vs.toArray 0)).push (seqObj "list" #[] 0)
noncomputable def gk(vs:List Value)(p:Array Nat):Array Value:=(p.toList.map λi=>vs.getD i .none).toArray
structure BB (prog:Program) (w:World) (A:Around) (vs:List Value) (lt:Nat→Nat→Bool) (s:Shared):Prop where
 ask:wpAny (model prog w) A (keyKind' vs.toArray) (λκ s'=>s'=s∧∀i j C,i<vs.length→j<vs.length→C (lt i j) s→kas_ask prog w A κ vs i j C s) (λ_ _=>False) s
 safe:gU vs.length (kas_sort vs.length)=true
theorem qz{p:Array Nat}:(gk vs p).size=p.size:=by simp[gk]
theorem AL{κ:SortKind}{lt:Nat→Nat→Bool}(h2:2≤vs.length)(h64:vs.length<64)(safe:gU vs.length (kas_sort vs.length)=true)
  (ask:∀i j C,i<vs.length→j<vs.length→C (lt i j) s→kas_ask prog w A κ vs i j C s) :
  wpAny (model prog w) A ((sortRuns').run (SortSt.mk' κ (vs.toArray.zip vs.toArray) #[] 7 none))
   (λr s'=>s'=s∧(arrOf r.2).map (·.2)=gk vs (ed lt (kas_sort vs.length))∧failedOf r.2=none∧(gk vs (ed lt (kas_sort vs.length))).size=vs.length) E s:=
 kat_run (Q:=λst s'=>s'=s∧(arrOf st).map (·.2)=gk vs (ed lt (kas_sort vs.length))∧failedOf st=none∧(gk vs (ed lt (kas_sort vs.length))).size=vs.length)
  (G:=λp s'=>p=ed lt (kas_sort vs.length)∧s'=s) rfl h2 h64 (λ_ _ _ z e f g=>⟨g.2,g.1▸kat_snds rfl e,f,qz.trans (g.1▸z)⟩) (oQ ask safe ⟨rfl,rfl⟩)
theorem AU{n:Nat}{lt:Nat→Nat→Bool}{P:PySem.Fin→Shared→Prop}(ho:s.heap.get? a=some (seqObj "list" vs.toArray n))(h2:2≤vs.length)(h64:vs.length<64)
  (hA:BB prog w A vs lt { s with heap:=CT s.heap a vs })
  (h:P (.done (.ret .none)) { s with heap:=sortedHeap s.heap a vs (gk vs (ed lt (kas_sort vs.length))) }) :
  wpAny (model prog w) A (Builtin.«list.sort» ⟨[.ref a],[]⟩) P E s:=by
 have o1:=get?_update_seq ho λ_=>#[]
 have o2:=Heap.get?_push_of_some (seqObj "list" #[] 0) (Heap.get?_push_of_some (seqObj "tuple" vs.toArray 0) o1)
 have few:vs.length≤sizeLine:=bJ (by(first|lia|omega))
 have ask:=wpAny_mono (E':=E) hA.ask (λ_ _ h=>h) λ_ _ h=>h.elim
 rw[list_sort_plain]
 wp_walk using listItems_at ho rfl,listUpdate_at ho rfl,seqEpoch_at o1 rfl,wpAny_newTuple,wpAny_newList,
  wpAny_mono ask
 ·rintro κ _ ⟨rfl,ask⟩
  have hn:¬vs.toArray.size<2:=Nat.not_lt.mpr h2
  simp only[if_neg hn]
  refine wpAny_bind (wpAny_mono (AL h2 h64 hA.safe ask) ?_ λ_ _ e=>e)
  rintro ⟨u,st⟩ _ ⟨rfl,e,f,z⟩
  rw[e,f]
  exact wpAny_bind (seqEpoch_at o2 rfl (wpAny_bind (listUpdate_at o2 rfl (wpAny_ite_false (decide_eq_false (by rw[bne_self_eq_false];exact Bool.false_ne_true)) (wpAny_pure h)) (Nat.zero_le _) (by rw[z];exact Nat.le_succ_of_le few))))
 ·exact λ_ _ h=>h
 ·exact Nat.zero_le _
 ·exact few
theorem uE{n:Nat}{lt:Nat→Nat→Bool}{Q:Value→Shared→Prop}(ho:s.heap.get? a=some (seqObj "list" vs.toArray n))(h2:2≤vs.length)(h64:vs.length<64)
  (hA:BB prog w A.in1 vs lt { s with heap:=CT s.heap a vs }) (h:Q .none { s with heap:=sortedHeap s.heap a vs (gk vs (ed lt (kas_sort vs.length))) }) :
  wpAny (model prog w) A (call (.builtin "list.sort") [.ref a]) Q E s:=
 wpAny_call_entry slot_list_sort ⟨_,ho,rfl⟩ entry_list_sort (AU ho h2 h64 hA ⟨_,rfl,h⟩) (args_list_sort _)
noncomputable abbrev gathered(h:Heap)(vs:List Value):Heap:=(h.push (seqObj "list" #[] 0)).update h.objs.size (Obj.mapSeq (·++vs.toArray))
theorem jg(h:Heap):(gathered h vs).objs.size=h.objs.size+1:=(Heap.size_update ..).trans (size_push' ..)
theorem mV{h:Heap}{b:Addr}{o:Obj}(e:h.get? b=some o):(gathered h vs).get? b=some o:=
 (Heap.get?_update_other _ _ (Nat.ne_of_gt (Heap.lt_size e))).trans (Heap.get?_push_of_some _ e)
theorem wa{l:Addr}{lt:Nat→Nat→Bool}{Q:Value→Shared→Prop}(hl:s.heap.IsList l vs.toArray)(h2:2≤vs.length)(h64:vs.length<64)
  (hA:∀h',(∀b o,s.heap.get? b=some o→h'.get? b=some o)→BB prog w A.in1.in1 vs lt { s with heap:=h' })
  (h:Q (.ref (s.heap.objs.size+1)) { s with heap:=sortedAll s.heap vs (gk vs (ed lt (kas_sort vs.length))) }) :
  wpAny (model prog w) A (call (.builtin "sorted") [.ref l]) Q E s:=by
 have few:vs.length≤sizeLine:=bJ (by(first|lia|omega))
 have sort:=uE (prog:=prog) (w:=w) (A:=A.in1) (E:=E) (s:={ s with heap:=(gathered s.heap vs).push (seqObj "list" vs.toArray 0) }) (a:=(gathered s.heap vs).objs.size) (lt:=lt)
  (Q:=λ_ s'=>Q (.ref (gathered s.heap vs).objs.size) s') (Heap.get?_push_size _ rfl) h2 h64
  (hA _ λb o e=>Heap.get?_push_of_some _ (Heap.get?_push_of_some _ ((Heap.get?_update_other _ _ (by rw[jg];exact Nat.ne_of_gt (Nat.lt_succ_of_lt (Heap.lt_size e)))).trans (Heap.get?_push_of_some _ (mV e)))))
  (by rw[jg];exact h)
 refine Calls.call_function_entry kind_sorted plain_sorted entry_sorted (args_sorted1 _) ?_
 unfold Builtin.«sorted»
 dsimp only[List.headD]
 wp_walk using collect_list hl,wpAny_newList,wpAny_mono sort
 ·exact λ_ _ h=>wpAny_pure ⟨_,rfl,h⟩
 ·exact λ_ _ h=>h
 ·exact few
end
noncomputable def onP{α:Type}(d:D)(f:Int×Int→Option α):Option α:=match d with
 | .tup [a,b]=>onI a λa=>onI b λb=>f (a,b)
 | _=>none
noncomputable def j1:List D→Option (List (Int×Int))
 | []=>some []
 | d::ds=>onP d λp=>(j1 ds).map (p::·)
noncomputable def gg(p q:Int×Int):Bool:=if p.1=q.1 then(if p.2=q.2 then false else decide (p.2<q.2))else decide (p.1<q.1)
noncomputable def gC(ps:List (Int×Int)):List Nat:=(ed (λi j=>gg (ps.getD i (0,0)) (ps.getD j (0,0))) (kas_sort 4)).toList
noncomputable def gP:List D→Option D:=on1 λa=>onL a λds=>(j1 ds).bind λps=>if ps.length=4 then some (.lst ((gC ps).map λi=>ds.getD i .none))else none
theorem DN:gU 4 (kas_sort 4)=true:=by decide +kernel
noncomputable def sT(p:Array Nat):Bool:=p.toList.isPerm [0,1,2,3]
theorem Ay:gx sT (kas_sort 4)=true:=by decide +kernel
theorem iB(ps:List (Int×Int)):(gC ps).isPerm [0,1,2,3]=true:=l9 (P:=sT) Ay
noncomputable abbrev pairD(p:Int×Int):D:=.tup [.int p.1,.int p.2]
theorem tX{α:Type}{b:D}{f:Int→Option α}{r:α}{G:Prop}(h:onI b f=some r)(k:∀j,b=.int j→f j=some r→G):G:=by
 cases b with|int j=>exact k j rfl h|_=>exact nE h
theorem AG{α:Type}{d:D}{f:Int×Int→Option α}{r:α}{G:Prop}(h:onP d f=some r)(k:∀p,d=pairD p→f p=some r→G):G:=by
 cases d with
 | tup l=>cases l with
  | nil=>exact nE h
  | cons a l=>cases l with
   | nil=>exact nE h
   | cons b l=>cases l with
    | nil=>exact tX h λi e1 h=>tX h λj e2 h=>k (i,j) (by rw[e1,e2]) h
    | cons _ _=>exact nE h
 | _=>exact nE h
theorem pf(ds:List D):∀ps:List (Int×Int),j1 ds=some ps→ds=ps.map pairD:=by
 induction ds with
 | nil=>exact λps h=>Option.some.inj h▸rfl
 | cons d ds ih=>exact λps h=>AG h λp e h=>mE h λqs e1 h=>by rw[←h,e,ih qs e1];rfl
theorem AI{g:Heap}{ws:List Value}{ps:List (Int×Int)}(r:RelAll g ws (ps.map pairD)){i:Nat}(hi:i<ps.length) :
  ∃a n t u,ws.getD i .none=.ref a∧g.get? a=some (fW [Value.int (ps.getD i (0,0)).1 t,.int (ps.getD i (0,0)).2 u].toArray n):=by
 obtain⟨v,hv,rv⟩:=r.get (k:=i) (d:=pairD ps[i]) (by simp[hi])
 have e1:ws.getD i .none=v:=by simp[List.getD,hv]
 have e2:ps.getD i (0,0)=ps[i]:=by simp[List.getD,hi]
 rw[e1,e2]
 generalize ps[i]=p at rv
 refine rv.tupE λa us n h e q=>q.twoE λu v h' r1 r2=>r1.intE λt ht=>r2.intE λt' ht'=>?_
 subst ht ht' h'
 exact⟨a,n,t,t',h,e⟩
section
variable{X:Cx}{A:Around}{ft ft':FT}{env:Env}{Γ Γ':List Slot}{σ:Sg}{s:Shared}{d:D}{c':List Cell}
theorem four{α:Type}{ws:List α}(h:ws.length=4):∃a b c d,ws=[a,b,c,d]:=by
 obtain⟨a,l1,e1,h1⟩:=ma h
 obtain⟨b,l2,e2,h2⟩:=ma h1
 obtain⟨c,l3,e3,h3⟩:=ma h2
 obtain⟨d,l4,e4,h4⟩:=ma h3
 exact⟨a,b,c,d,by rw[e1,e2,e3,e4,List.eq_nil_of_length_eq_zero h4]⟩
theorem qZ:COk X A (.builtin "sorted") gP:=zB λ{σ s l ws n ds d} I el rl h=>by
 refine bE h λps e1 h=>iS h λh4 h=>?_
 subst h
 have hds:=pf ds ps e1
 subst hds
 have hwl:ws.length=4:=by rw[rl.length,List.length_map,h4]
 have hat:∀(H:Heap),(∀b o,s.heap.get? b=some o→H.get? b=some o)→∀i,i<4→∃a n t u,ws.getD i .none=.ref a∧H.get? a=some (fW [Value.int (ps.getD i (0,0)).1 t,.int (ps.getD i (0,0)).2 u].toArray n):=λH hk i hi=>by
  obtain⟨a,n,t,u,h1,h2⟩:=AI rl (i:=i) (by(first|lia|omega))
  exact⟨a,n,t,u,h1,hk _ _ (I.sub _ _ h2)⟩
 have hfin:∀h'' c,(∀b o,s.heap.get? b=some o→h''.get? b=some o)→h''.get? (s.heap.objs.size+1)=some (seqObj "list" (gk ws (ed (λi j=>gg (ps.getD i (0,0)) (ps.getD j (0,0))) (kas_sort ws.length))) c)→
   PostE X σ s (.lst ((gC ps).map λi=>(ps.map pairD).getD i .none)) σ.sto (.ref (s.heap.objs.size+1)) { s with heap:=h'' }:=by
  intro h'' c hk2 hc
  have nn:s.heap.get? (s.heap.objs.size+1)=none:=by
   cases q:s.heap.get? (s.heap.objs.size+1)with
   | none=>rfl
   | some o=>exact absurd (Nat.lt_of_succ_lt (Heap.lt_size q)) (Nat.lt_irrefl _)
  refine PostE.freshL (tk:=s.toks) (n:=c) I hk2 (Nat.le_refl _) nn hc ?_
  rw[hwl]
  have hperm:=iB ps
  have hmem:∀i∈gC ps,i<4:=λi hi=>by
   have:=(List.isPerm_iff.mp hperm).mem_iff.mp hi
   simp at this;(first|lia|omega)
  refine RelAll.map λi hi=>?_
  have hi4:=hmem i hi
  obtain⟨v,hv,rv⟩:=rl.get (k:=i) (d:=(ps.map pairD).getD i .none) (by simp[show i<ps.length by(first|lia|omega)])
  have e1:ws.getD i .none=v:=by simp[List.getD,hv]
  rw[e1];exact rv
 refine wa (lt:=λi j=>gg (ps.getD i (0,0)) (ps.getD j (0,0))) ⟨_,el,rfl,n,rfl⟩ (by(first|lia|omega)) (by(first|lia|omega)) (λh' hk=>⟨?_,by rw[hwl];exact DN⟩) (let ⟨c,hc⟩:=sortedAll_at s.heap ws _;hfin _ c (λ_ _=>sortedAll_old) hc)
 have hb:(Value.type "int" != Value.type "tuple")=true:=by decide
 have hask:∀i j (C:Bool→Shared→Prop),i<ws.length→j<ws.length→C (gg (ps.getD i (0,0)) (ps.getD j (0,0))) { s with heap:=h' }→kas_ask X.prog X.w A.in1.in1 (tuples' (Value.type "int" != Value.type "tuple")) ws i j C { s with heap:=h' }:=by
  intro i j C hi hj hC
  obtain⟨ai,ni,ti,ui,gi1,gi2⟩:=hat h' hk i (by(first|lia|omega))
  obtain⟨aj,nj,tj,uj,gj1,gj2⟩:=hat h' hk j (by(first|lia|omega))
  unfold kas_ask
  rw[gi1,gj1]
  refine kat_lt gi2 rfl gj2 rfl ?_
  generalize ps.getD i (0,0)=p at hC
  generalize ps.getD j (0,0)=q at hC
  show KatLex _ _ _ _ _ _ [(.int p.1 ti,.int q.1 tj),(.int p.2 ui,.int q.2 uj)] 0 _
  refine kat_cons (wpAny_eqBool_int (kat_go (λe1=>kat_yes (kat_cons (wpAny_eqBool_int (kat_go (λe2=>kat_yes (kat_nil ?_)) λe2=>kat_no ?_)))) λe1=>kat_no ?_))
  ·have h1:p.1=q.1:=by simpa using e1
   have h2:p.2=q.2:=by simpa using e2
   have:gg p q=false:=by unfold gg;rw[if_pos h1,if_pos h2]
   rw[this]at hC
   exact hC
  ·have h1:p.1=q.1:=by simpa using e1
   have h2:¬p.2=q.2:=by simpa using e2
   have:gg p q=decide (p.2<q.2):=by unfold gg;rw[if_pos h1,if_neg h2]
   rw[this]at hC
   rw[hb]
   exact kat_one _ _ (P.lt_int (show PySem.W.BoolBack C (Value.bool _) _ from hC))
  ·have h1:¬p.1=q.1:=by simpa using e1
   have:gg p q=decide (p.1<q.1):=by unfold gg;rw[if_neg h1]
   rw[this]at hC
   rw[hb]
   exact oneLt_int hC
 obtain⟨w0,w1,w2,w3,rfl⟩:∃w0 w1 w2 w3,ws=[w0,w1,w2,w3]:=by
  exact four hwl
 obtain⟨a0,n0,t0,u0,g0,k0⟩:=hat h' hk 0 (by(first|lia|omega))
 obtain⟨a1,n1,t1,u1,g1,k1⟩:=hat h' hk 1 (by(first|lia|omega))
 obtain⟨a2,n2,t2,u2,g2,k2⟩:=hat h' hk 2 (by(first|lia|omega))
 obtain⟨a3,n3,t3,u3,g3,k3⟩:=hat h' hk 3 (by(first|lia|omega))
 have e0:w0=.ref a0:=g0
 have e1:w1=.ref a1:=g1
 have e2:w2=.ref a2:=g2
 have e3:w3=.ref a3:=g3
 refine kat_kind (T:=.type "int") (e0▸e1▸e2▸e3▸KatTups.cons k0 rfl rfl rfl (KatTups.cons k1 rfl rfl rfl (KatTups.cons k2 rfl rfl rfl (KatTups.cons k3 rfl rfl rfl KatTups.nil)))) (by simp) (λv hv=>?_) (by decide) ⟨rfl,hask⟩
 have:∃i t,v=.int i t:=by
  simp only[List.mem_cons,List.not_mem_nil,or_false]at hv
  rcases hv with rfl|rfl|rfl|rfl<;>exact⟨_,_,rfl⟩
 obtain⟨i,t,rfl⟩:=this
 exact λA Q E s k q=>wpAny_typeOf (typeIs_int s i t) q
end
end Mine
namespace Mine
section
variable{M:Model}{A:Around}{R:GenEnd}{Y:Protocol}{n:Nat}{s₀:Shared}{c:Code}{fs:List Frame}{s:Shared}{env:Env}
 {K:Flow→Sem PySem.Fin} {H:Value→Sem PySem.Fin} {gd:Bool→Bool} {lv:List Value→List Value}
theorem r9{test:Expr}{body orelse:List Stmt}{pos:Pos}
  (h:wpAny M (A.over c fs) (isTrue test env (eval test env)) (λb s'=>if b=true then Seg M A R Y n s₀ c ((execs body env).wrap K H gd lv) fs s' else Seg M A R Y n s₀ c ((execs orelse env).wrap K H gd lv) fs s') NoE s) :
  Seg M A R Y n s₀ c ((exec (.If test body orelse pos) env).wrap K H gd lv) fs s:=by
 show Seg M A R Y n s₀ c (.at pos λ_=>((isTrue test env (eval test env) >>= λb=>if b=true then execs body env else execs orelse env).wrap K H gd lv)) fs s
 refine seg_at ?_
 rw[Sem.bind_eq_wrap',Sem.wrap_wrap]
 refine seg_wrap (up (wpAny_mono h (λb s' hb=>?_) λ_ _ f=>f))
 cases b with
 | true=>rw[if_pos rfl]at hb;exact hb
 | false=>rw[if_neg Bool.false_ne_true]at hb;exact hb
theorem AS{target iter:Expr}{body orelse:List Stmt}{pos:Pos}(hs:∀x,foldedSetIterable iter env x=pure x)
  (h:wpAny M (A.over c fs) (eval iter env) (λx s1=>wpAny M (A.over c fs) (pyIter x) (λit s2=>∀p k,(∀f,k (.ok f)=K f)→Seg M A R Y n s₀ (.forLoop target it body orelse env) (M.den (.forLoop target it body orelse env)) (.ret k none (gd false) (lv []) c p []::fs) s2) NoE s1) NoE s) :
  Seg M A R Y n s₀ c ((exec (.For target iter body orelse pos) env).wrap K H gd lv) fs s:=by
 show Seg M A R Y n s₀ c (.at pos λ_=>((eval iter env >>= λv=>foldedSetIterable iter env v >>= λx=>(standAt iter.pos >>= λ_=>(holding [x] (pyIter x)) >>= λit=>runOwn (.forLoop target it body orelse env) env)).wrap K H gd lv)) fs s
 refine seg_at ?_
 rw[Sem.bind_eq_wrap',Sem.wrap_wrap]
 refine seg_wrap (up (wpAny_mono h (λx s1 h1=>?_) λ_ _ f=>f))
 rw[hs x]
 show Seg M A R Y n s₀ c (.at iter.pos λ_=>(((holding [x] (pyIter x)) >>= λit=>runOwn (.forLoop target it body orelse env) env).wrap K H _ _)) fs s1
 refine seg_at ?_
 rw[Sem.bind_eq_wrap',Sem.wrap_wrap]
 refine seg_wrap (up (wpAny_holding (wpAny_mono h1 (λit s2 h2=>?_) λ_ _ f=>f)))
 exact seg_call λp=>h2 p _ λf=>rfl
end
section
variable{prog:Program}{w:World}{A:Around}{R:GenEnd}{Y:Protocol}{n:Nat}{s₀:Shared}{fs:List Frame}{s:Shared}{env:Env}
theorem k7{target:Expr}{it:Value}{body orelse:List Stmt}
  (h:wpAny (model prog w) (A.over (.forLoop target it body orelse env) fs) (pyNext it) (λr s1=>match r with
   | none=>Seg (model prog w) A R Y n s₀ (.forLoop target it body orelse env) (.pure (.again (.block orelse env))) fs s1
   | some v=>wpAny (model prog w) (A.over (.forLoop target it body orelse env) fs) (letOwnedTupleGo target it v) (λ_ s2=>wpAny (model prog w) (A.over (.forLoop target it body orelse env) fs) (assign target env v) (λ_ s3=>
     ∀H,Seg (model prog w) A R Y n s₀ (.forLoop target it body orelse env) ((execs body env).wrap (λf=>match f with
      | .next|.cont=>.pure (.again (.forLoop target it body orelse env))
      | .brk=>.pure (.done .next)
      | .ret v=>.pure (.done (.ret v))) H id id) fs s3) NoE s2) NoE s1) NoE s) :
  Seg (model prog w) A R Y n s₀ (.forLoop target it body orelse env) ((model prog w).den (.forLoop target it body orelse env)) fs s:=by
 show Seg _ A R Y n s₀ _ ((forTurn target it body orelse env).onRaise (λx=>do noteFrame x env;theTreesLotGoes x)) fs s
 unfold forTurn
 rw[Sem.onRaise_eq_wrap]
 show Seg _ A R Y n s₀ _ (.at target.pos λ_=>(((pyNext it).onRaise (λ_=>standAt { target.pos with line:=0 }) >>= λr=>match r with
  | none=>again (.block orelse env)
  | some v=>letOwnedTupleGo target it v >>= λ_=>assign target env v >>= λ_=>execs body env >>= λf=>match f with
   | .next|.cont=>again (.forLoop target it body orelse env)
   | .brk=>pure (.done .next)
   | .ret v=>pure (.done (.ret v))).wrap .pure _ id id)) fs s
 refine seg_at ?_
 rw[Sem.bind_eq_wrap',Sem.wrap_wrap]
 refine seg_wrap (wpAny_onRaise (wpAny_mono h (λr s1 h1=>?_) λ_ _ f=>False.elim f))
 cases r with
 | none=>exact h1
 | some v=>
  show Seg _ A R Y n s₀ _ ((letOwnedTupleGo target it v >>= λ_=>assign target env v >>= λ_=>execs body env >>= λf=>match f with
   | .next|.cont=>again (.forLoop target it body orelse env)
   | .brk=>pure (.done .next)
   | .ret v=>pure (.done (.ret v))).wrap .pure _ id id) fs s1
  rw[Sem.bind_eq_wrap',Sem.wrap_wrap]
  refine seg_wrap (up (wpAny_mono h1 (λ_ s2 h2=>?_) λ_ _ f=>f))
  rw[Sem.bind_eq_wrap',Sem.wrap_wrap]
  refine seg_wrap (up (wpAny_mono h2 (λ_ s3 h3=>?_) λ_ _ f=>f))
  rw[Sem.bind_eq_wrap',Sem.wrap_wrap]
  rw[Sem.wrap_congr (execs body env) _ _ (K':=λf=>match f with
      | .next|.cont=>.pure (.again (.forLoop target it body orelse env))
      | .brk=>.pure (.done .next)
      | .ret v=>.pure (.done (.ret v))) (λf=>by cases f<;>rfl) (λe=>rfl)]
  exact h3 _
end
end Mine
namespace Mine
noncomputable def bsl:Str:=⟨#[92]⟩
noncomputable def bA:Bool→List (Nat×Nat)→Nat→List D
 | e,[],p=>if e then[.tup [.int p,.str bsl]]else[]
 | true,(i,c)::r,_=>.tup [.int i,.str ⟨#[92,c]⟩]::bA false r i
 | false,(i,c)::r,_=>if c=92 then bA true r i else .tup [.int i,.str ⟨#[c]⟩]::bA false r i
noncomputable def dm(x:Str):List (Nat×Nat):=(List.range x.cps.size).map λk=>(k,x.cps.toList.getD k 0)
noncomputable def escaped(x:Str):List D:=bA false (dm x) 0
noncomputable def fK(l:List (Nat×Nat)):List D:=l.map λp=>D.tup [.int p.1,.str ⟨#[p.2]⟩]
theorem oy(x:Str):fK (dm x)=ia (x.cps.toList.map λc=>D.str ⟨#[c]⟩):=by
 unfold fK dm ia
 rw[List.map_map,List.length_map,Array.length_toList]
 apply List.map_congr_left
 intro k hk
 have hk':k<x.cps.size:=List.mem_range.mp hk
 simp[List.getD,hk']
section
variable{X:Cx}{A:Around}{ft:FT}{env:Env}{s:Shared}
noncomputable abbrev Cx.base(X:Cx):Sg:=⟨X.g0,[],[]⟩
theorem pB{σ:Sg}(I:X.Inv σ s)(ht:TopOk ⟨X.mg,X.mb,X.g0⟩ X.g0):X.Inv X.base s:=
 ⟨I.top.base.trans I.sub,rfl,List.nodup_nil,λk a c h=>by simp at h,λk a c h=>by simp at h,ht,I.bare,I.tk⟩
theorem sa{s:Shared}{g:Nat}{gs:GenState}:((s.setGen g gs).gens=s.gens.setIfInBounds g gs):=rfl
theorem wt{g:Nat}{gs:GenState}{σ:Sg}(I:X.Inv σ s)(hb:gs.bare=true):X.Inv σ (s.setGen g gs):=by
 refine⟨I.sub,I.len,I.nodup,I.cells,I.off,I.top,?_,I.tk⟩
 intro y hy
 rw[sa]at hy
 rcases Array.mem_or_eq_of_mem_setIfInBounds hy with h|h
 ·exact I.bare y h
 ·exact h▸hb
noncomputable def GW(env:Env)(a e it:Addr)(b:Addr):Prop:=b=env.locals∨b=a∨b=e∨b=it
noncomputable def GY(X:Cx)(gi:Nat)(a:Addr)(L:List D)(gw:Nat→Addr→Prop):Protocol:=λm s₀ v s₁ kap=>
 ∃ds t vs n σ',L[L.length - 1 - m]?=some (.tup ds)∧v=.ref t∧X.Inv σ' s₁∧Ext (λb=>gw (m+1) b∧b≠a) (·=gi) X.base s₀ σ' s₁∧(s₀.heap.get? t=none∨gw (m+1) t)∧¬gw m t∧s₁.heap.get? t=some (fW (List.toArray vs) n)∧(∀g,RelAll g vs ds)∧
  (∀b,gw m b→∃o,s₁.heap.get? b=some o)∧s₁.gens[gi]?=some .running∧∀s'',X.Inv X.base s''→(∀b o,gw m b→s₁.heap.get? b=some o→s''.heap.get? b=some o)→s''.gens[gi]?=some .running→kap (.send .none) s''
noncomputable def GP(X:Cx)(gi:Nat)(a:Addr)(gw:Nat→Addr→Prop)(m:Nat)(s₀ s₁:Shared):Prop:=m=0∧∃σ',X.Inv σ' s₁∧Ext (λb=>gw 0 b∧b≠a) (·=gi) X.base s₀ σ' s₁
noncomputable abbrev GR(X:Cx)(gi:Nat)(a:Addr)(gw:Nat→Addr→Prop):GenEnd:=λn s₀ r s₁=>r=.ok (.ret .none)∧GP X gi a gw n s₀ s₁
structure GS (X:Cx) (ft:FT) (env:Env) (gi:Nat) (w v:Addr→Prop) (s₀:Shared) (σ:Sg) (s:Shared) (Γ:List Slot):Prop where
 I:X.Inv σ s
 own:σ.own=[]
 x:Ext w (·=gi) X.base s₀ σ s
 F:Frm ft env Γ σ s.heap
 run:s.gens[gi]?=some .running
 there:∀b,v b→∃o,s.heap.get? b=some o
 off:∀b,v b→σ.g.get? b=none
 loc:w env.locals
noncomputable def je:Slot→Bool
 | .un=>true
 | .val (.int _)=>true
 | .val (.str _)=>true
 | .val (.bool _)=>true
 | _=>false
theorem vU{σ σ':Sg}{v:Value}{sl:Slot}(hf:je sl=true)(h:RelS σ v sl):RelS σ' v sl:=by
 cases sl with
 | un=>trivial
 | ref k=>cases hf
 | val d=>
  cases d<;>simp[je]at hf
  ·cases (show Rel σ.g v _ from h);exact .bool _
  ·cases (show Rel σ.g v _ from h);exact .int _ _
  ·cases (show Rel σ.g v _ from h);exact .str _ _
theorem pU{Γ:List Slot}{σ:Sg}{h h':Heap}(F:Frm ft env Γ σ h)(hl:∀p∈ft.nt,p.2=VK.l)(hf:∀sl∈Γ,je sl=true)(hk:∀o,h.get? env.locals=some o→h'.get? env.locals=some o)(hg:Le X.g0 σ.g):Frm ft env Γ X.base h':=by
 have notl:∀{i:Nat} {y:Str} {k:VK},ft.nt[i]?=some (y,k)→k=.l:=λe=>hl _ (List.mem_of_getElem? e)
 refine⟨F.ok,F.len,?_,λi y k e hk'=>absurd (notl e) hk',⟨?_,List.not_mem_nil⟩,λi y k c e hk'=>absurd (notl e) hk',λi j y z k c e _ _ _ _=>by cases notl e⟩
 ·obtain⟨m,⟨o,es,ep,ho,r⟩,hm⟩:=F.loc
  refine⟨m,⟨o,es,ep,hk o ho,r⟩,λi y sl e1 e2 e3=>?_⟩
  obtain⟨v,hv,rv⟩:=hm i y sl e1 e2 e3
  exact⟨v,hv,vU (hf _ (List.mem_of_getElem? e2)) rv⟩
 ·cases q:X.g0.get? env.locals with
  | none=>rfl
  | some o=>have:=hg _ _ q;rw[F.offL.1]at this;cases this
section
variable{gi:Nat}{a e it:Addr}{w v:Addr→Prop}{s₀:Shared}{σ σ':Sg}{s':Shared}{Γ Γ':List Slot}
theorem ux{b:Addr}(hl:∀p∈ft.nt,p.2=VK.l)(h:FW ft env b):b=env.locals:=by
 rcases h with h|⟨i,x,h1,_⟩
 ·exact h
 ·have:=hl _ (List.mem_of_getElem? h1);cases this
theorem GS.move{W v':Addr→Prop}(S:GS X ft env gi w v s₀ σ s Γ)(I':X.Inv σ' s')(x':Ext W NoG σ s σ' s')(hW:∀b,W b→w b)(ho:σ'.own=[])(F':Frm ft env Γ' σ' s'.heap)
  (hv:∀b,v' b→v b) (th:∀b,v' b→W b→∃o,s'.heap.get? b=some o) (of:∀b,v' b→W b→σ'.g.get? b=none):GS X ft env gi w v' s₀ σ' s' Γ':=by
 refine⟨I',ho,S.x.trans S.I (x'.weaken hW λ_ h=>h.elim),F',x'.gens _ _ S.run λh=>h,λb hb=>?_,λb hb=>?_,S.loc⟩
 ·by_cases hw:W b
  ·exact th b hb hw
  ·obtain⟨o,eo⟩:=S.there b (hv b hb)
   exact⟨o,x'.keep _ _ eo (by rw[S.own];exact List.not_mem_nil) hw⟩
 ·by_cases hw:W b
  ·exact of b hb hw
  ·obtain⟨o,eo⟩:=S.there b (hv b hb)
   cases q:σ'.g.get? b with
   | none=>rfl
   | some o'=>
    rcases x'.fresh b o' q (S.off b (hv b hb))with h|h|h
    ·rw[h]at eo;cases eo
    ·rw[S.own]at h;cases h
    ·exact absurd h hw
theorem GS.step(S:GS X ft env gi w v s₀ σ s Γ)(hl:∀p∈ft.nt,p.2=VK.l)(I':X.Inv σ' s')(x':Ext (FW ft env) NoG σ s σ' s')(ho:σ'.own=[])(F':Frm ft env Γ' σ' s'.heap):GS X ft env gi w v s₀ σ' s' Γ':=
 S.move I' x' (λb h=>(ux hl h)▸S.loc) ho F' (λ_ h=>h) (λ_ _ h=>F'.there h) λ_ _ h=>(ux hl h)▸F'.offL.1
theorem eZ(I':X.Inv σ' s')(h:σ'.sto=[]):σ'.own=[]:=by
 have:=I'.len
 rw[h]at this
 exact List.length_eq_zero_iff.mp this
theorem GS.sto(S:GS X ft env gi w v s₀ σ s Γ):σ.sto=[]:=by
 have:=S.I.len
 rw[S.own]at this
 exact List.length_eq_zero_iff.mp this.symm
theorem kj{m:Nat}{c:Code}{fs:List Frame}{L:List D}{gw:Nat→Addr→Prop}{K:Flow→Sem PySem.Fin}{H:Value→Sem PySem.Fin}{gd:Bool→Bool}{lv:List Value→List Value}{es:List Expr}{kt:Nat}{tp yp sp:Pos}{pl:PL}{ds:List D}{JP:Shared→Prop}
  (S:GS X ft env gi (λb=>gw (m+1) b∧b≠a) v s₀ σ s Γ) (hgw:∀b,gw m b→v b) (hgl:gw m env.locals) (haL:env.locals≠a) (hl:∀p∈ft.nt,p.2=VK.l) (hfl:∀sl∈Γ,je sl=true) (hsl:SoundL X (A.over c fs) ft env tp es pl) (hp:pl Γ []=some (ds,[])) (hlen:ds.length≤100000) (hflat:∀g g' vs,RelAll g vs ds→RelAll g' vs ds)
  (hL:L[L.length - 1 - m]?=some (.tup ds)) (hfs:splitAtGen fs=none) (hgd:gd false=false) (hfg:fs.any Frame.guarded=false) (hco:env.scope.isCoroutine=false)
  (hJ:∀s'',X.Inv X.base s''→(∀b o,gw m b→s.heap.get? b=some o→s''.heap.get? b=some o)→JP s'')
  (next:∀s'',GS X ft env gi (λb=>gw m b∧b≠a) (gw m) s'' X.base s'' Γ→JP s''→Seg X.M A (GR X gi a gw) (GY X gi a L gw) m s'' c (K .next) fs s'') :
  Seg X.M A (GR X gi a gw) (GY X gi a L gw) (m+1) s₀ c ((exec (.Expr (.Yield (some (.Tuple es kt tp)) yp) sp) env).wrap K H gd lv) fs s:=by
 refine seg_Expr_Yield hfs hgd hfg (up (wpAny_Tuple (hsl.use S.I S.F (by rw[S.sto];exact hp) λvs σ1 s1 q1 I1 x1 F1 r1=>⟨by rw[r1.length];exact bJ hlen,λkap hkap=>?_⟩))) hco (by unfold interactive;rw[S.F.ok.kind];rfl)
 have nn:s1.heap.get? s1.heap.objs.size=none:=get?_push_none
 obtain⟨I2,x2⟩:=jT (o:=fW (List.toArray vs) 0) (tk:=s1.toks) I1
 have own1:σ1.own=[]:=eZ I1 q1
 have x12:=x1.trans I1 x2
 have x02:=S.x.trans S.I (x12.up (W:=λb=>gw (m+1) b∧b≠a) (Wg:=(·=gi)))
 have keep1:∀b o,s.heap.get? b=some o→s1.heap.get? b=some o:=λb o eb=>x1.keep b o eb (by rw[S.own];exact List.not_mem_nil) λf=>f
 have keep2:∀b o,s.heap.get? b=some o→(s1.heap.push (fW (List.toArray vs) 0)).get? b=some o:=λb o eb=>Heap.get?_push_of_some _ (keep1 b o eb)
 have hnGW:¬gw m s1.heap.objs.size:=λhw=>by
  obtain⟨o,eb⟩:=S.there _ (hgw _ hw)
  rw[keep1 _ _ eb]at nn;cases nn
 refine⟨ds,s1.heap.objs.size,vs,0,σ1,hL,rfl,I2,x02,?_,hnGW,Heap.get?_push_size _ rfl,λg=>hflat _ g _ r1,λb hb=>let ⟨o,eb⟩:=S.there b (hgw b hb);⟨o,keep2 b o eb⟩,x12.gens _ _ S.run λf=>f,λs'' I'' hk hrun=>hkap _ _ ?_⟩
 ·refine Or.imp id (λh=>h.1) (Ext.back S.I S.x (a:=s1.heap.objs.size) (by
   cases q:s.heap.get? s1.heap.objs.size with
   | none=>rfl
   | some o=>rw[keep1 _ _ q]at nn;cases nn))
 ·have hk':∀b o,gw m b→s.heap.get? b=some o→s''.heap.get? b=some o:=λb o hb eb=>hk b o hb (keep2 b o eb)
  refine next s'' ⟨I'',rfl,.refl _ _ _ _,pU S.F hl hfl (λo eo=>hk' _ _ hgl eo) S.I.top.base,hrun,λb hb=>?_,λb hb=>?_,⟨hgl,haL⟩⟩ (hJ s'' I'' λb o hb eb=>hk' b o hb eb)
  ·obtain⟨o,eo⟩:=S.there b (hgw b hb);exact⟨o,hk' _ _ hb eo⟩
  ·cases q:X.base.g.get? b with
   | none=>rfl
   | some o=>have:=S.I.top.base _ _ q;rw[S.off b (hgw b hb)]at this;cases this
theorem nP{fs:List Frame}{c:Code}{n:Nat}(hr:Room A (n+1))(h1:(A.over c fs).handled=A.handled)(h2:(A.over c fs).depth≤A.depth+1)(h3:(A.over c fs).units≤A.units+16):Room (A.over c fs) n:=
 ⟨h1.trans hr.hand,by have:=hr.depth;(first|lia|omega),by have:=hr.units;(first|lia|omega)⟩
theorem nI{body:List Stmt}{n:Nat}(hr:Room A (n+1)):Room (A.over (.func body env) []) n:=nP hr rfl (Nat.le_refl _) (by show A.units+3≤_;(first|lia|omega))
theorem nJ{body:List Stmt}{tgt:Expr}{it:Value}{fbody:List Stmt}{k:Result→Sem PySem.Fin}{p:Pos}{n:Nat}(hr:Room A (n+1)):Room (A.over (.forLoop tgt it fbody [] env) [.ret k none false [] (.func body env) p []]) n:=
 nP hr (by show markOver none A.handled A.handled=A.handled;cases q:A.handled<;>rfl) (Nat.le_refl _) (by show A.units+3+0≤_;(first|lia|omega))
noncomputable def bV:Bool→List (Nat×Nat)→Bool
 | e,[]=>e
 | true,_::r=>bV false r
 | false,(_,c)::r=>bV (c==92) r
theorem jd:∀(r:List (Nat×Nat)) (e:Bool) (p:Nat),bV e r=true→1≤(bA e r p).length
 | [],e,p,h=>by simp only[bV]at h;subst h;simp[bA]
 | (i,c)::r,true,p,h=>by simp[bA]
 | (i,c)::r,false,p,h=>by
  unfold bA
  split
  ·rename_i hc
   exact jd r true i (by simpa [bV,hc] using h)
  ·simp
noncomputable def fi(env:Env)(a e it:Addr)(tl:Bool)(n:Nat):Addr→Prop:=if tl=true∧n=0 then GW env a a a else GW env a e it
theorem sR{e':Bool}{r:List (Nat×Nat)}{p:Nat}:fi env a e it (bV e' r) (bA e' r p).length=GW env a e it:=by
 unfold fi
 rw[if_neg]
 rintro ⟨h1,h2⟩
 have:=jd r e' p h1
 (first|lia|omega)
theorem oK{tl:Bool}{n:Nat}:fi env a e it tl n env.locals:=by
 unfold fi;split<;>exact .inl rfl
theorem oM{tl:Bool}{n:Nat}{b:Addr}(h:fi env a e it tl n b):GW env a e it b:=by
 unfold fi at h
 (first|(refine iE h ?_ ?_<;>(clear h;intro _ h))|split at h)
 ·rcases h with h|h|h|h
  ·exact .inl h
  ·exact .inr (.inl h)
  ·exact .inr (.inl h)
  ·exact .inr (.inl h)
 ·exact h
theorem lE{tl:Bool}{m:Nat}:fi env a e it tl (m+1)=GW env a e it:=by unfold fi;rw[if_neg];rintro ⟨_,h⟩;cases h
theorem iW{L:List D}{kk:Nat}{d:D}{r:List D}(h:d::r=L.drop kk):L[L.length - 1 - r.length]?=some d∧r=L.drop (kk+1):=by
 have hl:kk<L.length:=by
  have:=congrArg List.length h
  simp at this;omega (config:={})
 have e:=List.drop_eq_getElem_cons hl
 rw[e]at h
 obtain⟨h1,h2⟩:=List.cons.inj h
 refine⟨?_,h2⟩
 have:L.length - 1 - r.length=kk:=by rw[h2];simp;omega (config:={})
 rw[this,h1];simp[hl]
noncomputable def sP(t1 t2:Expr)(es1 es2:List Expr)(kt1 kt2:Nat)(tp1 yp1 sp1 tp2 yp2 sp2 pp1 pp2:Pos)(setF setT:Stmt):List Stmt:=[.If t1 [.Expr (.Yield (some (.Tuple es1 kt1 tp1)) yp1) sp1,setF] [.If t2 [setT] [.Expr (.Yield (some (.Tuple es2 kt2 tp2)) yp2) sp2] pp2] pp1]
theorem nv{g g2:Heap}{i:Int}{y:Str}{vs:List Value}(r:RelAll g vs [.int i,.str y]):RelAll g2 vs [.int i,.str y]:=
 r.twoE λv v' e r1 r2=>r1.intE λt e1=>r2.strE λu e2=>by rw[e,e1,e2];exact .cons (.int _ _) (.cons (.str _ _) .nil)
theorem xw{L:List D}{body:List Stmt}{K:Flow→Sem PySem.Fin}{tgt t1 t2:Expr}{es1 es2:List Expr}{kt1 kt2:Nat}{tp1 yp1 sp1 tp2 yp2 sp2 pp1 pp2:Pos}{setF setT:Stmt}{J:Heap→List D→Shared→Prop}{x:Str}{tl:Bool}
  (hr:Room A 9) (hl:∀p∈ft.nt,p.2=VK.l) (hel:e≠env.locals) (hil:it≠env.locals) (hae:a≠e) (hai:a≠it) (haL:env.locals≠a) (hco:env.scope.isCoroutine=false)
  (hI:∀A:Around,A.handled=none→IterAt X A tgt (.ref e) (λb=>b=e∨b=it) NoG J) (hJg:∀g g' ds s,J g ds s→J g' ds s)
  (hT:∀A,Room A 8→dJ X A ft env tgt (.t [1,3])) (hb1:∀A,Room A 8→SoundB X A ft env t1 (cW (aa 2))) (hb2:∀A,Room A 8→SoundB X A ft env t2 (aE .Eq (aa 3) (a8 bsl)))
  (he1:∀A,Room A 8→SoundL X A ft env tp1 es1 (ag (aa 1) (ag (ao .Add (a8 bsl) (aa 3)) aw))) (he2:∀A,Room A 8→SoundL X A ft env tp2 es2 (ag (aa 1) (ag (aa 3) aw)))
  (hsF:∀A,Room A 8→aN X A ft env setF (bf 2 (b8 false))) (hsT:∀A,Room A 8→aN X A ft env setT (bf 2 (b8 true)))
  (after:∀(esc:Bool) (p kk:Nat) (ch:Slot) (s₀:Shared) (σ:Sg) (s:Shared),je ch=true→GS X ft env gi (λb=>GW env a e it b∧b≠a) (GW env a a a) s₀ σ s [.val (.str x),.val (.int p),.val (.bool esc),ch]→esc=tl→bA esc [] p=L.drop kk→
   Seg X.M A (GR X gi a (fi env a e it tl)) (GY X gi a L (fi env a e it tl)) (bA esc [] p).length s₀ (.func body env) (K .next) [] s) :
  ∀(rest:List (Nat×Nat)) (esc:Bool) (p kk:Nat) (ch:Slot) (s₀:Shared) (σ:Sg) (s:Shared),je ch=true→GS X ft env gi (λb=>GW env a e it b∧b≠a) (GW env a e it) s₀ σ s [.val (.str x),.val (.int p),.val (.bool esc),ch]→J X.g0 (fK rest) s→bV esc rest=tl→bA esc rest p=L.drop kk→
   ∀(k':Result→Sem PySem.Fin) (p':Pos),(∀f,k' (.ok f)=K f)→
    Seg X.M A (GR X gi a (fi env a e it tl)) (GY X gi a L (fi env a e it tl)) (bA esc rest p).length s₀ (.forLoop tgt (.ref e) (sP t1 t2 es1 es2 kt1 kt2 tp1 yp1 sp1 tp2 yp2 sp2 pp1 pp2 setF setT) [] env)
     (X.M.den (.forLoop tgt (.ref e) (sP t1 t2 es1 es2 kt1 kt2 tp1 yp1 sp1 tp2 yp2 sp2 pp1 pp2 setF setT) [] env)) [.ret k' none false [] (.func body env) p' []] s:=by
 have noc:∀{W:Addr→Prop} (i:Nat) (y:Str) (k:VK) (c:Addr),ft.nt[i]?=some (y,k)→k≠.l→env.cells.lookup y=some c→¬W c:=λi y k c h1 h2=>absurd (hl _ (List.mem_of_getElem? h1)) h2
 have hnl:¬(env.locals=e∨env.locals=it):=λh=>h.elim (λh=>hel h.symm) λh=>hil h.symm
 have offL:∀b,(b=e∨b=it)→¬FW ft env b:=λb hb hf=>hnl (ux hl hf▸hb)
 have hWx:∀b,(b=e∨b=it)→GW env a e it b∧b≠a:=by
  rintro b (rfl|rfl)
  ·exact⟨.inr (.inr (.inl rfl)),λq=>hae q.symm⟩
  ·exact⟨.inr (.inr (.inr rfl)),λq=>hai q.symm⟩
 intro rest
 induction rest with
 | nil=>
  intro esc p kk ch s₀ σ s hfl S j htl hk k' p' hk'
  have hRL:=nJ (n:=8) (tgt:=tgt) (it:=.ref e) (fbody:=(sP t1 t2 es1 es2 kt1 kt2 tp1 yp1 sp1 tp2 yp2 sp2 pp1 pp2 setF setT)) (k:=k') (p:=p') (body:=body) (env:=env) hr
  have hW:∀b,(b=e∨b=it)→σ.g.get? b=none∧b∉σ.own:=λb hb=>⟨S.off b (.inr (.inr hb)),by rw[S.own];exact List.not_mem_nil⟩
  refine k7 (wpAny_mono ((hI _ hRL.hand).stop S.I (hJg _ σ.g _ _ j) hW) (λr s1 qz1=>?_) λ_ _ f=>f)
  obtain⟨er,I1,x1⟩:=qz1
  subst er
  refine seg_again rfl ?_
  show Seg X.M A _ _ _ _ _ (leafOf (.ok .next)) _ _
  refine seg_leaf (.ok .next) ?_
  rw[hk']
  have F1:=S.F.extW x1 hnl noc
  have hno:∀b,GW env a a a b→¬(b=e∨b=it):=λb hb h=>by
   rcases hb with rfl|rfl|rfl|rfl
   ·exact hnl h
   ·exact h.elim hae hai
   ·exact h.elim hae hai
   ·exact h.elim hae hai
  exact after esc p kk ch s₀ σ s1 hfl (S.move I1 x1 hWx S.own F1 (λb h=>by
   rcases h with h|h|h|h
   ·exact .inl h
   ·exact .inr (.inl h)
   ·exact .inr (.inl h)
   ·exact .inr (.inl h)) (λb h1 h2=>absurd h2 (hno b h1)) λb h1 h2=>absurd h2 (hno b h1)) htl hk
 | cons q r ih=>
  obtain⟨i,c⟩:=q
  intro esc p kk ch s₀ σ s hfl S j htl hk k' p' hk'
  have hRL:=nJ (n:=8) (tgt:=tgt) (it:=.ref e) (fbody:=(sP t1 t2 es1 es2 kt1 kt2 tp1 yp1 sp1 tp2 yp2 sp2 pp1 pp2 setF setT)) (k:=k') (p:=p') (body:=body) (env:=env) hr
  generalize hfs:[Frame.ret k' none false [] (.func body env) p' []]=fs at hRL⊢
  have hW:∀b,(b=e∨b=it)→σ.g.get? b=none∧b∉σ.own:=λb hb=>⟨S.off b (.inr (.inr hb)),by rw[S.own];exact List.not_mem_nil⟩
  refine k7 (wpAny_mono ((hI _ hRL.hand).step S.I (hJg _ σ.g _ _ j) hW) (λr1 s1 qz1=>?_) λ_ _ f=>f)
  obtain⟨v1,er,hgo⟩:=qz1
  subst er
  refine wpAny_mono hgo (λ_ s2 qz1=>?_) λ_ _ f=>f
  obtain⟨g',I2,x2,w2,r2,j2⟩:=qz1
  have F2:Frm ft env _ ⟨g',σ.own,σ.sto⟩ s2.heap:=S.F.extW x2 hnl noc
  refine wpAny_mono (hT _ hRL [.val (.str x),.val (.int p),.val (.bool esc),ch] ⟨g',σ.own,σ.sto⟩ s2 _ v1 [.val (.str x),.val (.int i),.val (.bool esc),.val (.str ⟨#[c]⟩)] I2 F2 r2 rfl) (λ_ s3 qz1 H=>?_) λ_ _ f=>f
  obtain⟨I3,x3,F3⟩:=qz1
  have S2:=S.move I2 x2 hWx S.own F2 (λ_ h=>h) (λb _ h=>(hI _ hRL.hand).there j2 b h) (λb _ h=>w2 b h)
  have S3:=S2.step hl I3 x3 S.own F3
  have frJ:∀{g:Heap} {ds:List D} {u u':Shared},J g ds u→Le X.g0 u.heap→Le X.g0 u'.heap→(∀b o,(b=e∨b=it)→u.heap.get? b=some o→u'.heap.get? b=some o)→J X.g0 ds u':=λj h1 h2 hk=>(hI _ hRL.hand).frame (hJg _ X.g0 _ _ j) (.refl _) h1 h2 hk λ_ _ f=>f.elim
  have j3:J X.g0 (fK r) s3:=frJ j2 (I2.top.base.trans I2.sub) (I3.top.base.trans I3.sub) λb o hb eb=>x3.keep b o eb (by rw[S.own];exact List.not_mem_nil) λhf=>offL _ hb hf
  refine seg_execs_cons (r9 ((hb1 _ hRL).use S3.I S3.F (b:=esc) (c':=σ.sto) rfl λσ4 s4 q4 I4 x4 F4=>?_))
  have S4:=S3.step hl I4 x4.up (eZ I4 (q4.trans S.sto)) F4
  have j4:J X.g0 (fK r) s4:=frJ j3 (I3.top.base.trans I3.sub) (I4.top.base.trans I4.sub) λb o _ eb=>x4.keep b o eb (by rw[S3.own];exact List.not_mem_nil) λf=>f
  have hfl4:∀sl∈([.val (.str x),.val (.int i),.val (.bool esc),.val (.str ⟨#[c]⟩)]:List Slot),je sl=true:=by simp[je]
  have hsp:splitAtGen fs=none:=by rw[←hfs];rfl
  have hgd:fs.any Frame.guarded=false:=by rw[←hfs];rfl
  cases esc with
  | true=>
   rw[if_pos rfl]
   have htl':bV false r=tl:=htl
   have hd:=iW (L:=L) (kk:=kk) (d:=.tup [.int i,.str ⟨#[92,c]⟩]) (r:=bA false r i) hk
   refine seg_execs_cons (kj (m:=(bA false r i).length) (v:=GW env a e it) (JP:=λs''=>J X.g0 (fK r) s'') (ds:=[.int i,.str ⟨#[92,c]⟩]) (by rw[lE];exact S4) (λb h=>oM h) oK haL hl hfl4 (he1 _ hRL) rfl (by simp) ?_ hd.1 hsp rfl hgd hco ?_ λs5 S5 j5=>?_)
   ·exact λg g2 vs r=>nv r
   ·exact λs5 I5 hk5=>frJ j4 (I4.top.base.trans I4.sub) (I5.top.base.trans I5.sub) λb o hb eb=>hk5 b o (by rw[←htl',sR];exact .inr (.inr hb)) eb
   ·rw[←htl',sR]at S5
    refine seg_execs_cons (seg_wrap (up (wpAny_mono (hsF _ hRL _ X.base s5 .next [.val (.str x),.val (.int i),.val (.bool false),.val (.str ⟨#[c]⟩)] [] S5.I S5.F rfl) (λfw s6 qz1=>?_) λ_ _ f=>f)))
    obtain⟨σ6,q6,I6,x6,F6,r6⟩:=qz1
    cases fw<;>cases r6
    have S6:=S5.step hl I6 x6 (eZ I6 q6) F6
    have j6:J X.g0 (fK r) s6:=frJ j5 (S5.I.top.base.trans S5.I.sub) (I6.top.base.trans I6.sub) λb o hb eb=>x6.keep b o eb List.not_mem_nil λhf=>offL _ hb hf
    refine seg_execs_nil (seg_execs_nil (seg_again rfl ?_))
    rw[←hfs]
    exact ih false i (kk+1) _ s5 σ6 s6 rfl S6 j6 htl' hd.2 k' p' hk'
  | false=>
   rw[if_neg Bool.false_ne_true]
   have hdec:∀σ',aE .Eq (aa 3) (a8 bsl) [.val (.str x),.val (.int i),.val (.bool false),.val (.str ⟨#[c]⟩)] σ'=some (decide ((⟨#[c]⟩:Str)=bsl),σ'):=λ_=>rfl
   refine seg_execs_cons (r9 ((hb2 _ hRL).use S4.I S4.F (b:=decide ((⟨#[c]⟩:Str)=bsl)) (c':=σ4.sto) (hdec _) λσ5 s5 q5 I5 x5 F5=>?_))
   have S5:=S4.step hl I5 x5.up (eZ I5 (q5.trans S4.sto)) F5
   have j5:J X.g0 (fK r) s5:=frJ j4 (I4.top.base.trans I4.sub) (I5.top.base.trans I5.sub) λb o _ eb=>x5.keep b o eb (by rw[S4.own];exact List.not_mem_nil) λf=>f
   by_cases hc:c=92
   ·subst hc
    rw[if_pos (show decide ((⟨#[92]⟩:Str)=bsl)=true from decide_eq_true rfl)]
    have htl':bV true r=tl:=htl
    have hg:bA false ((i,92)::r) p=bA true r i:=rfl
    rw[hg]at hk⊢
    refine seg_execs_cons (seg_wrap (up (wpAny_mono (hsT _ hRL _ σ5 s5 .next [.val (.str x),.val (.int i),.val (.bool true),.val (.str ⟨#[92]⟩)] σ5.sto S5.I S5.F rfl) (λfw s6 qz1=>?_) λ_ _ f=>f)))
    obtain⟨σ6,q6,I6,x6,F6,r6⟩:=qz1
    cases fw<;>cases r6
    have S6:=S5.step hl I6 x6 (eZ I6 (q6.trans S5.sto)) F6
    have j6:J X.g0 (fK r) s6:=frJ j5 (I5.top.base.trans I5.sub) (I6.top.base.trans I6.sub) λb o hb eb=>x6.keep b o eb (by rw[S5.own];exact List.not_mem_nil) λhf=>offL _ hb hf
    refine seg_execs_nil (seg_execs_nil (seg_again rfl ?_))
    rw[←hfs]
    exact ih true i kk _ s₀ σ6 s6 rfl S6 j6 htl' hk k' p' hk'
   ·have hcb:¬(⟨#[c]⟩:Str)=bsl:=λh=>hc (by
     have:(#[c]:Array Nat)=#[92]:=congrArg Str.cps h
     simpa using this)
    rw[if_neg (by simpa using hcb)]
    have htl':bV false r=tl:=by
     have:bV (c==92) r=tl:=htl
     rwa [show (c==92)=false by simpa using hc]at this
    have hg:bA false ((i,c)::r) p=.tup [.int i,.str ⟨#[c]⟩]::bA false r i:=by
     show (if c=92 then _ else _)=_
     rw[if_neg hc]
    rw[hg]at hk⊢
    have hd:=iW (L:=L) (kk:=kk) (d:=.tup [.int i,.str ⟨#[c]⟩]) (r:=bA false r i) hk
    refine seg_execs_cons (kj (m:=(bA false r i).length) (v:=GW env a e it) (JP:=λs''=>J X.g0 (fK r) s'') (ds:=[.int i,.str ⟨#[c]⟩]) (by rw[lE];exact S5) (λb h=>oM h) oK haL hl hfl4 (he2 _ hRL) rfl (by simp) ?_ hd.1 hsp rfl hgd hco ?_ λs6 S6 j6=>?_)
    ·exact λg g2 vs r=>nv r
    ·exact λs6 I6 hk6=>frJ j5 (I5.top.base.trans I5.sub) (I6.top.base.trans I6.sub) λb o hb eb=>hk6 b o (by rw[←htl',sR];exact .inr (.inr hb)) eb
    ·rw[←htl',sR]at S6
     refine seg_execs_nil (seg_execs_nil (seg_again rfl ?_))
     rw[←hfs]
     exact ih false i (kk+1) _ s6 X.base s6 rfl S6 j6 htl' hd.2 k' p' hk'
end
end
end Mine
namespace Mine
section
variable{X:Cx}{A:Around}{ft:FT}{env:Env}{s:Shared}{gi:Nat}{a e it:Addr}{s₀:Shared}{σ σ':Sg}{s':Shared}{Γ Γ':List Slot}
theorem vz{L:List D}{body:List Stmt}{t3:Expr}{es3:List Expr}{kt3:Nat}{tp3 yp3 sp3 pp3:Pos}{x:Str}{tl:Bool}{Hf:Value→Sem PySem.Fin}(hr:Room A 9)(hl:∀p∈ft.nt,p.2=VK.l)(haL:env.locals≠a)(hco:env.scope.isCoroutine=false)
  (hb:∀A,Room A 8→SoundB X A ft env t3 (cW (aa 2))) (he:∀A,Room A 8→SoundL X A ft env tp3 es3 (ag (aa 1) (ag (a8 bsl) aw)))
  (esc:Bool) (p kk:Nat) (ch:Slot) (s₀:Shared) (σ:Sg) (s:Shared) (hfl:je ch=true) (S:GS X ft env gi (λb=>GW env a e it b∧b≠a) (GW env a a a) s₀ σ s [.val (.str x),.val (.int p),.val (.bool esc),ch]) (htl:esc=tl) (hk:bA esc [] p=L.drop kk) :
  Seg X.M A (GR X gi a (fi env a e it tl)) (GY X gi a L (fi env a e it tl)) (bA esc [] p).length s₀ (.func body env) ((execs [.If t3 [.Expr (.Yield (some (.Tuple es3 kt3 tp3)) yp3) sp3] [] pp3] env).wrap (λf=>.pure (.done (.ret (match f with|.ret v=>v|_=>.none)))) Hf id id) [] s:=by
 have hRF:=nI (body:=body) (env:=env) (n:=8) hr
 refine seg_execs_cons (r9 ((hb _ hRF).use S.I S.F (b:=esc) (c':=σ.sto) rfl λσ4 s4 q4 I4 x4 F4=>?_))
 have S4:=S.step hl I4 x4.up (eZ I4 (q4.trans S.sto)) F4
 cases esc with
 | true=>
  rw[if_pos rfl]
  subst htl
  have hg:fi env a e it true 0=GW env a a a:=rfl
  have hd:=iW (L:=L) (kk:=kk) (d:=.tup [.int p,.str bsl]) (r:=[]) hk
  refine seg_execs_cons (kj (m:=0) (v:=GW env a a a) (JP:=λ_=>True) (ds:=[.int p,.str bsl]) (by rw[lE];exact S4) (λb h=>by rw[hg]at h;exact h) oK haL hl (by intro sl h;simp only[List.mem_cons,List.not_mem_nil,or_false]at h;rcases h with rfl|rfl|rfl|rfl<;>first|rfl|exact hfl) (he _ hRF) rfl (by simp) ?_ hd.1 rfl rfl rfl hco (λ_ _ _=>trivial) λs5 S5 _=>?_)
  ·rintro g g2 vs (_|⟨r1,_|⟨r2,_|_⟩⟩)
   cases r1;cases r2
   exact .cons (.int _ _) (.cons (.str _ _) .nil)
  ·exact seg_execs_nil (seg_execs_nil (seg_end (.ok (.ret .none)) ⟨rfl,rfl,X.base,S5.I,S5.x⟩))
 | false=>
  rw[if_neg Bool.false_ne_true]
  subst htl
  exact seg_execs_nil (seg_execs_nil (seg_end (.ok (.ret .none)) ⟨rfl,rfl,σ4,S4.I,S4.x⟩))
theorem qK{M:Model}{E:Value→Shared→Prop}{i:Nat}{x:Str}{sl:Slot}{v:Value}{Q:Unit→Shared→Prop}(I:X.Inv σ s)(F:Frm ft env Γ σ s.heap)(hi:ft.nt[i]?=some (x,.l))(hv:RelS σ v sl)
  (h:∀s',s'.heap.objs.size=s.heap.objs.size→X.Inv σ s'→Ext (FW ft env) NoG σ s σ s'→Frm ft env (Γ.set i sl) σ s'.heap→Q () s'):wpAny M A (storeName env x v) Q E s:=by
 have hm:=F.ok.kinds _ (List.mem_of_getElem? hi)
 obtain⟨m,hn,hmv⟩:=F.loc
 refine wpAny_storeName_local (jv hm) hn (λh' hn' hs=>?_) (by rw[F.ok.kind];rfl)
 have keep:∀a o,s.heap.get? a=some o→¬(a=env.locals)→h'.get? a=some o:=λa o e ha=>(hs.2 a ha).trans e
 have offc:∀{j:Nat} {y:Str} {k:VK} {c:Addr},ft.nt[j]?=some (y,k)→k≠.l→env.cells.lookup y=some c→c≠env.locals:=by
  rintro j y k c e hk' hc rfl
  obtain⟨c',hc',ov,⟨o,ho',hd⟩,_⟩:=F.cel j y k e hk'
  rw[hc]at hc';cases hc'
  obtain⟨o2,es,ep,ho2,hd2,_⟩:=hn
  rw[ho']at ho2;cases ho2
  rw[hd]at hd2;cases hd2
 refine h _ hs.1 (Mine.Inv.heap (W:=λa=>a=env.locals) I keep λa e=>e▸⟨F.offL.2,F.offL.1⟩) (Ext.heap λa o e hw=>keep a o e λq=>hw (.inl q))
  ⟨F.ok,by rw[List.length_set];exact F.len,⟨_,hn',λj y sl' e1 e2 e3=>?_⟩,λj y k e hk'=>?_,F.offL,F.offC,F.apart⟩
 ·rcases hN e2 with⟨rfl,rfl⟩|⟨hne,e2⟩
  ·rw[hi]at e1;cases e1
   exact⟨v,if_pos rfl,hv⟩
  ·obtain⟨v',hv',r⟩:=hmv j y sl' e1 e2 e3
   refine⟨v',?_,r⟩
   rw[if_neg];exact hv'
   rintro rfl;exact hne (rS F.ok hi e1)
 ·obtain⟨c,hc,ov,hcell,hv'⟩:=F.cel j y k e hk'
  refine⟨c,hc,ov,hcell.sameBut hs (offc e hk' hc),λsl' e2 e3=>?_⟩
  rcases hN e2 with⟨rfl,rfl⟩|⟨hne,e2⟩
  ·rw[hi]at e;cases e;exact absurd rfl hk'
  ·exact hv' sl' e2 e3
noncomputable def CK(e it:Addr)(x:Str)(t:Tok):Heap→List D→Shared→Prop:=λ_ ds s=>∃(i:Nat) (old:Value),IsEnum s.heap e it i old∧s.heap.IsStrIter it (strIterType x) x t i∧i≤x.cps.size∧True∧
 ds=(List.range (x.cps.size - i)).map λ(k:Nat)=>D.tup [.int ((i+k:Nat):Int),(x.cps.toList.map λc=>D.str ⟨#[c]⟩).getD (i+k) .none]
theorem AW{elts:List Expr}{x1:Nat}{tp:Pos}{x:Str}{t:Tok}(hh:A.handled=none)(hne:e≠it):IterAt X A (.Tuple elts x1 tp) (.ref e) (λb=>b=e∨b=it) NoG (CK e it x t):=by
 have DD:Draws X.prog X.w A.in1 it [it] x.cps.size (λi v=>∃c u,x.cps[i]?=some c∧v=.str ⟨#[c]⟩ u) (λi h=>h.IsStrIter it (strIterType x) x t i):=by
  unfold strIterType
  split
  ·exact Draws.strAscii (A:=A.in1) hh _ x t
  ·exact Draws.strWide (A:=A.in1) hh _ x t
 refine l7 e it [it] x.cps.size _ _ (λ_=>True) (λk=>(x.cps.toList.map λc=>D.str ⟨#[c]⟩).getD k .none) DD hne ?_ ?_ ?_ ?_
 ·simp only[List.mem_cons,List.not_mem_nil,or_false]
  exact hne
 ·rintro g i v _ ⟨c,u,hc,rfl⟩
  have:(x.cps.toList.map λc=>D.str ⟨#[c]⟩)[i]?=some (D.str ⟨#[c]⟩):=by simp[hc]
  simp only[List.getD,this,Option.getD_some]
  exact .str _ _
 ·exact λ_ _ _ _=>trivial
 ·rintro g _ b hb
  simp only[List.mem_cons,List.not_mem_nil,or_false]at hb
  exact .inl hb
end
end Mine
namespace Mine
section
variable{X:Cx}{A:Around}{ft:FT}{env:Env}{s:Shared}{gi:Nat}{a e it:Addr}{s₀:Shared}{σ σ':Sg}{s':Shared}{Γ Γ':List Slot}
theorem vA{xaddr xpos xesc:Str}{elts es1 es2 es3:List Expr}{xk kt1 kt2 kt3 k1 k2:Nat}{p1 p2 p3 p4 p5 p6 q1 q2 q3 tgp tp1 yp1 sp1 tp2 yp2 sp2 tp3 yp3 sp3 pp1 pp2 pp3 fp:Pos}{t1 t2 t3:Expr}{setF setT:Stmt}{x:Str}
  (hr:Room A 9) (hl:∀p∈ft.nt,p.2=VK.l) (hlen:ft.nt.length=4) (h0:ft.nt[0]?=some (xaddr,.l)) (h1:ft.nt[1]?=some (xpos,.l)) (h2:ft.nt[2]?=some (xesc,.l)) (hco:env.scope.isCoroutine=false)
  (hx:("enumerate" : Str)∈ft.gt) (hn:X.mg "enumerate" = none) (hb:X.mb "enumerate" = some (.type "enumerate"))
  (hT:∀A,Room A 8→dJ X A ft env (.Tuple elts xk tgp) (.t [1,3])) (hb1:∀A,Room A 8→SoundB X A ft env t1 (cW (aa 2))) (hb2:∀A,Room A 8→SoundB X A ft env t2 (aE .Eq (aa 3) (a8 bsl))) (hb3:∀A,Room A 8→SoundB X A ft env t3 (cW (aa 2)))
  (he1:∀A,Room A 8→SoundL X A ft env tp1 es1 (ag (aa 1) (ag (ao .Add (a8 bsl) (aa 3)) aw))) (he2:∀A,Room A 8→SoundL X A ft env tp2 es2 (ag (aa 1) (ag (aa 3) aw))) (he3:∀A,Room A 8→SoundL X A ft env tp3 es3 (ag (aa 1) (ag (a8 bsl) aw)))
  (hsF:∀A,Room A 8→aN X A ft env setF (bf 2 (b8 false))) (hsT:∀A,Room A 8→aN X A ft env setT (bf 2 (b8 true)))
  (I:X.Inv X.base s₀) (F:Frm ft env [.val (.str x),.un,.un,.un] X.base s₀.heap) (run:s₀.gens[gi]?=some .running) (ha:∃o,s₀.heap.get? a=some o) (hag:X.g0.get? a=none) (haL:a≠env.locals) :
  Seg X.M A (GR X gi a (fi env a (s₀.heap.objs.size+1) s₀.heap.objs.size (bV false (dm x)))) (GY X gi a (escaped x) (fi env a (s₀.heap.objs.size+1) s₀.heap.objs.size (bV false (dm x)))) (escaped x).length s₀
   (.func [.Assign [.Name xpos p1] (.Constant (.int 0) k1 p2) p3,.Assign [.Name xesc p4] (.Constant (.bool false) k2 p5) p6,.For (.Tuple elts xk tgp) (.Call (.Name "enumerate" q1) [.Name xaddr q2] [] q3) [.If t1 [.Expr (.Yield (some (.Tuple es1 kt1 tp1)) yp1) sp1,setF] [.If t2 [setT] [.Expr (.Yield (some (.Tuple es2 kt2 tp2)) yp2) sp2] pp2] pp1] [] fp,
    .If t3 [.Expr (.Yield (some (.Tuple es3 kt3 tp3)) yp3) sp3] [] pp3] env)
   (X.M.den (.func [.Assign [.Name xpos p1] (.Constant (.int 0) k1 p2) p3,.Assign [.Name xesc p4] (.Constant (.bool false) k2 p5) p6,.For (.Tuple elts xk tgp) (.Call (.Name "enumerate" q1) [.Name xaddr q2] [] q3) [.If t1 [.Expr (.Yield (some (.Tuple es1 kt1 tp1)) yp1) sp1,setF] [.If t2 [setT] [.Expr (.Yield (some (.Tuple es2 kt2 tp2)) yp2) sp2] pp2] pp1] [] fp,
    .If t3 [.Expr (.Yield (some (.Tuple es3 kt3 tp3)) yp3) sp3] [] pp3] env)) [] s₀:=by
 generalize hbody:([.Assign [.Name xpos p1] (.Constant (.int 0) k1 p2) p3,.Assign [.Name xesc p4] (.Constant (.bool false) k2 p5) p6,.For (.Tuple elts xk tgp) (.Call (.Name "enumerate" q1) [.Name xaddr q2] [] q3) [.If t1 [.Expr (.Yield (some (.Tuple es1 kt1 tp1)) yp1) sp1,setF] [.If t2 [setT] [.Expr (.Yield (some (.Tuple es2 kt2 tp2)) yp2) sp2] pp2] pp1] [] fp,
    .If t3 [.Expr (.Yield (some (.Tuple es3 kt3 tp3)) yp3) sp3] [] pp3]:List Stmt)=body
 have hRF:=nI (body:=body) (env:=env) (n:=8) hr
 refine seg_func ?_
 have hex:=congrArg (λb=>execs b env) hbody
 rw[←hex]
 have nn0:s₀.heap.get? s₀.heap.objs.size=none:=get?_push_none
 have nn1:s₀.heap.get? (s₀.heap.objs.size+1)=none:=by
  cases q:s₀.heap.get? (s₀.heap.objs.size+1)with
  | none=>rfl
  | some o=>exact absurd (Nat.lt_of_succ_lt (Heap.lt_size q)) (Nat.lt_irrefl _)
 refine seg_execs_cons (seg_wrap (up (wpAny_Assign_Name (wpAny_Constant_int (qK (Γ:=[.val (.str x),.un,.un,.un]) (sl:=.val (.int 0)) I.toks F h1 (.int _ _) λs1 sz1 I1 x1 F1=>?_)) rfl)))
 refine seg_execs_cons (seg_wrap (up (wpAny_Assign_Name (wpAny_Constant_bool (qK (sl:=.val (.bool false)) I1 F1 h2 (.bool _) λs2 sz2 I2 x2 F2=>?_)) rfl)))
 have sz:s2.heap.objs.size=s₀.heap.objs.size:=sz2.trans sz1
 have x02:Ext (FW ft env) NoG X.base s₀ X.base s2:=(show Ext (FW ft env) NoG X.base s₀ X.base s1 from⟨x1.le,x1.own,x1.fresh,x1.keep,x1.gens,x1.os⟩).trans I1 x2
 refine seg_execs_cons (AS (λ_=>rfl) (wpAny_Call_NameR (eval_Name (F2.ok.odd _ (List.mem_append_right _ hx)).1 (bZ I2 F2 hx hn hb ?_))))
 refine callWith_type1 (wpAny_items_cons (eval_Name (cD F2 h0) (cS F2 h0 (sl:=.val (.str x)) rfl (by intro q;cases q) λv r=>?_)) rfl) rfl rfl
 cases r
 rename_i t
 refine wpAny_items_nil (call_enumerate_str λh' he hit _ keep=>wpAny_pyIter_enum he λp' k' hk'=>?_)
 rw[sz]at he hit⊢
 have I3:X.Inv X.base { s2 with heap:=h',toks:=s2.toks }:=Mine.Inv.heap (W:=NoW) I2 (λa o e _=>keep a o e) λ_ f=>f.elim
 have x3:Ext NoW NoG X.base s2 X.base { s2 with heap:=h',toks:=s2.toks }:=Ext.heap λa o e _=>keep a o e
 have F3:=F2.ext x3
 have x03:=x02.trans I2 x3.up
 have hne:(s₀.heap.objs.size+1:Nat)≠s₀.heap.objs.size:=Nat.succ_ne_self _
 obtain⟨oL,eL⟩:=F.thereL
 obtain⟨oa,ea⟩:=ha
 have hL1:(s₀.heap.objs.size+1:Nat)≠env.locals:=λq=>by rw[←q]at eL;rw[nn1]at eL;cases eL
 have hL0:s₀.heap.objs.size≠env.locals:=λq=>by rw[←q]at eL;rw[nn0]at eL;cases eL
 have ha1:a≠(s₀.heap.objs.size+1:Nat):=λq=>by rw[q]at ea;rw[nn1]at ea;cases ea
 have ha0:a≠s₀.heap.objs.size:=λq=>by rw[q]at ea;rw[nn0]at ea;cases ea
 have S3:GS X ft env gi (λb=>GW env a (s₀.heap.objs.size+1) s₀.heap.objs.size b∧b≠a) (GW env a (s₀.heap.objs.size+1) s₀.heap.objs.size) s₀ X.base { s2 with heap:=h',toks:=s2.toks } [.val (.str x),.val (.int 0),.val (.bool false),.un]:=by
  refine⟨I3,rfl,x03.weaken (λb h=>⟨.inl (ux hl h),λq=>haL (q▸ux hl h)⟩) λ_ h=>h.elim,F3,x03.gens _ _ run λh=>h,?_,?_,⟨.inl rfl,haL.symm⟩⟩
  ·rintro b (rfl|rfl|rfl|rfl)
   ·exact F3.thereL
   ·exact⟨oa,x03.keep _ _ ea List.not_mem_nil λh=>haL (ux hl h)⟩
   ·exact⟨_,he⟩
   ·obtain⟨o,ho,_⟩:=hit;exact⟨o,ho⟩
  ·rintro b (rfl|rfl|rfl|rfl)
   ·exact F3.offL.1
   ·exact hag
   ·exact(I.notIn nn1).2
   ·exact(I.notIn nn0).2
 have j3:CK (s₀.heap.objs.size+1) s₀.heap.objs.size x t X.g0 (fK (dm x)) { s2 with heap:=h',toks:=s2.toks }:=by
  refine⟨0,.none,he,hit,Nat.zero_le _,trivial,?_⟩
  rw[oy]
  unfold ia
  rw[List.length_map,Array.length_toList,Nat.sub_zero]
  apply List.map_congr_left
  intro k _
  rw[Nat.zero_add]
 refine xw (L:=escaped x) (body:=body) (J:=CK (s₀.heap.objs.size+1) s₀.heap.objs.size x t) (x:=x) hr hl hL1 hL0 ha1 ha0 haL.symm hco (λA hh=>AW hh hne) (λg g' ds s j=>j) hT hb1 hb2 he1 he2 hsF hsT ?_ (dm x) false 0 0 .un s₀ X.base _ rfl S3 j3 rfl rfl k' p' hk'
 intro esc p kk ch u₀ τ u hfl S htl hk
 exact vz hr hl haL.symm hco hb3 he3 esc p kk ch u₀ τ u hfl S htl hk
end
end Mine
namespace Mine
section
variable{X:Cx}{A:Around}{ft:FT}{env:Env}{s:Shared}{gi:Nat}{a e it:Addr}{s₀:Shared}{σ σ':Sg}{s':Shared}{Γ Γ':List Slot}
theorem Inv.shift{W:Addr→Prop}(I:X.Inv σ s)(k:∀b o,s.heap.get? b=some o→¬W b→s'.heap.get? b=some o)(hw:∀b,W b→σ.g.get? b=none∧b∉σ.own)(hb:AllBare s'.gens)(ht:0<s'.toks):X.Inv σ s':=by
 have I':=Mine.Inv.heap (W:=W) (h':=s'.heap) (tk:=s.toks) I k λb h=>⟨(hw b h).2,(hw b h).1⟩
 exact⟨I'.sub,I'.len,I'.nodup,I'.cells,I'.off,I'.top,hb,ht⟩
theorem wq{gens:Array GenState}{g:Nat}{gs:GenState}(h:AllBare gens)(hb:gs.bare=true):AllBare (gens.setIfInBounds g gs):=λy hy=>by
 rcases Array.mem_or_eq_of_mem_setIfInBounds hy with q|q
 ·exact h y q
 ·exact q▸hb
theorem sQ{G W:Addr→Prop}{gs:GenState}{h':Heap}{u:Shared}(I:X.Inv σ s)(hW:∀b,W b→σ.g.get? b=none∧b∉σ.own)(hG:∀b,G b→W b∨s.heap.get? b=none)(I1:X.Inv σ' u)(x:Ext (λb=>G b∧b≠a) (·=gi) X.base (s.setGen gi .running) σ' u)(hb:gs.bare=true)
  (hk:∀b o,u.heap.get? b=some o→h'.get? b=some o):X.Inv σ { u.setGen gi gs with heap:=h' }∧Ext W (·=gi) σ s σ { u.setGen gi gs with heap:=h' }:=by
 have keep:∀b o,s.heap.get? b=some o→¬W b→h'.get? b=some o:=λb o eb hw=>hk b o (x.keep b o eb List.not_mem_nil λh=>(hG b h.1).elim hw λq=>by rw[q]at eb;cases eb)
 refine⟨Inv.shift (s':={ u.setGen gi gs with heap:=h' }) I keep hW (wq I1.bare hb) I1.tk,⟨.refl _,⟨[],by simp,by simp⟩,λb o e1 e2=>(by rw[e2]at e1;cases e1),λb o e1 _ hw=>keep b o e1 hw,λi y ei hi=>?_,x.os⟩⟩
 show (u.gens.setIfInBounds gi gs)[i]?=some y
 have hne:gi≠i:=λh=>hi h.symm
 rw[Array.getElem?_setIfInBounds_ne hne]
 refine x.gens i y ?_ hi
 show (s.gens.setIfInBounds gi .running)[i]?=some y
 rw[Array.getElem?_setIfInBounds_ne hne]
 exact ei
noncomputable def GJ(X:Cx)(A:Around)(ft:FT)(env:Env)(gi:Nat)(a:Addr)(body:List Stmt)(x:Str)(W:Addr→Prop)(_g:Heap)(ds:List D)(s:Shared):Prop:=
 s.heap.IsGen a gi∧(∀b,W b→∃o,s.heap.get? b=some o)∧W a∧W env.locals∧∃gs,s.gens[gi]?=some gs∧
  ((gs=.fresh (.func body env)∧ds=escaped x∧W=(λb=>b=env.locals∨b=a)∧∀s'',X.Inv X.base s''→(∀o,s.heap.get? env.locals=some o→s''.heap.get? env.locals=some o)→Frm ft env [.val (.str x),.un,.un,.un] X.base s''.heap)∨
   (∃e it kk,ds=(escaped x).drop kk∧W=fi env a e it (bV false (dm x)) ds.length∧∀s'',X.Inv X.base s''→(∀b o,W b→s.heap.get? b=some o→s''.heap.get? b=some o)→s''.gens[gi]?=some .running→
    gs.Goes X.M A.in1 (GR X gi a (fi env a e it (bV false (dm x)))) (GY X gi a (escaped x) (fi env a e it (bV false (dm x)))) ds.length (.send .none) s''))
theorem Eu{tl:Bool}{n:Nat}:fi env a e it tl n a:=by
 unfold fi;split<;>exact .inr (.inl rfl)
theorem my{g:Nat}{gs:GenState}(h:s.gens[g]?=some gs):(s.setGen g .running).gens[g]?=some .running:=by
 show (s.gens.setIfInBounds g .running)[g]?=_
 obtain⟨hl,_⟩:=Array.getElem?_eq_some_iff.mp h
 rw[Array.getElem?_setIfInBounds_self_of_lt hl]
noncomputable abbrev gwx(env:Env)(a:Addr)(x:Str)(e it:Addr):Nat→Addr→Prop:=fi env a e it (bV false (dm x))
structure Awk (X:Cx) (A:Around) (env:Env) (gi:Nat) (a:Addr) (x:Str) (W:Addr→Prop) (ds:List D) (s:Shared) (gs:GenState) (e it:Addr):Prop where
 gen:s.heap.IsGen a gi
 get:s.gens[gi]?=some gs
 sub:∀b,gwx env a x e it ds.length b→W b∨s.heap.get? b=none
 tl:∃kk,ds=(escaped x).drop kk
 goes:gs.Goes X.M A.in1 (GR X gi a (gwx env a x e it)) (GY X gi a (escaped x) (gwx env a x e it)) ds.length (.send .none) (s.setGen gi .running)
noncomputable abbrev wm(X:Cx)(A:Around)(ft:FT)(env:Env)(gi:Nat)(a:Addr)(body:List Stmt)(x:Str):Prop:=∀s₀,X.Inv X.base s₀→Frm ft env [.val (.str x),.un,.un,.un] X.base s₀.heap→s₀.gens[gi]?=some .running→(∃o,s₀.heap.get? a=some o)→X.g0.get? a=none→
   Seg X.M A.in1 (GR X gi a (gwx env a x (s₀.heap.objs.size+1) s₀.heap.objs.size)) (GY X gi a (escaped x) (gwx env a x (s₀.heap.objs.size+1) s₀.heap.objs.size)) (escaped x).length s₀ (.func body env) (X.M.den (.func body env)) [] s₀
theorem qa{body:List Stmt}{x:Str}{W:Addr→Prop}{g:Heap}{ds:List D}(ht:TopOk ⟨X.mg,X.mb,X.g0⟩ X.g0)(start:wm X A ft env gi a body x)(I:X.Inv σ s)(hW:∀b,W b→σ.g.get? b=none∧b∉σ.own)(j:GJ X A ft env gi a body x W g ds s) :
  ∃gs e it,Awk X A env gi a x W ds s gs e it:=by
 obtain⟨hg,hth,hWa,hWl,gs,hgs,hd⟩:=j
 have IB:X.Inv X.base (s.setGen gi .running):=wt (pB I ht) rfl
 rcases hd with⟨h1,h2,h3,h4⟩|⟨e,it,kk,h1,h2,h3⟩
 ·refine⟨gs,s.heap.objs.size+1,s.heap.objs.size,hg,hgs,λb hb=>?_,⟨0,h2⟩,?_⟩
  ·rw[h3]
   rcases oM hb with h|h|h|h
   ·exact .inl (.inl h)
   ·exact .inl (.inr h)
   ·exact .inr (h▸(by cases q:s.heap.get? (s.heap.objs.size+1)with|none=>rfl|some o=>exact absurd (Nat.lt_of_succ_lt (Heap.lt_size q)) (Nat.lt_irrefl _)))
   ·exact .inr (h▸get?_push_none)
  ·subst h1
   have st:=start (s.setGen gi .running) IB (h4 _ IB λo q=>q) (my hgs) (hth a hWa) (by
    cases q:X.g0.get? a with
    | none=>rfl
    | some o=>exact nE ((hW a hWa).1.symm.trans (I.top.base _ _ q)))
   rw[show (escaped x).length=ds.length from by rw[h2]]at st
   exact⟨rfl,st⟩
 ·exact⟨gs,e,it,hg,hgs,λb hb=>.inl (by rw[h2];exact hb),⟨kk,h1⟩,h3 _ IB (λ_ _ _ q=>q) (my hgs)⟩
theorem xy{tgt:Expr}{body:List Stmt}{x:Str}{W:Addr→Prop}{d:D}{ds:List D}{gs:GenState}(hr:Room A 9)(I:X.Inv σ s)(hW:∀b,W b→σ.g.get? b=none∧b∉σ.own)(K:Awk X A env gi a x W (d::ds) s gs e it){R:Option Value→Shared→Prop}
  (hR:∀v s1 g' W',wpAny X.M A (letOwnedTupleGo tgt (.ref a) v) (λ_ s'=>s'=s1) NoE s1→(∀b,W' b→W b∨s.heap.get? b=none)→X.Inv ⟨g',σ.own,σ.sto⟩ s1→Ext W (·=gi) σ s ⟨g',σ.own,σ.sto⟩ s1→(∀b,W' b→g'.get? b=none)→Rel g' v d→GJ X A ft env gi a body x W' g' ds s1→R (some v) s1) :
  wpAny X.M A (pyNext (.ref a)) R NoE s:=by
 obtain⟨hg,hgs,hG,⟨kk,hkk⟩,hgo⟩:=K
 refine mu (P:=GP X gi a (gwx env a x e it)) hr.hand (I.top.nolim.keeps I.sub) (by have:=hr.depth;unfold recursionLimit;(first|lia|omega)) hg hgs hgo (λv s₁ gs' hbare hY=>?_) (λs₁ hP=>absurd hP.1 (Nat.succ_ne_zero _))
 obtain⟨dd,t,vs,n,σ',hL,ev,I1,x1,ht0,ht1,ht2,hrel,hth',hrun,hkap⟩:=hY
 have hd:=iW hkk
 have hdd:d=.tup dd:=Option.some.inj (hd.1.symm.trans hL)
 have x1':Ext (λb=>gwx env a x e it (ds.length+1) b∧b≠a) (·=gi) X.base (s.setGen gi .running) σ' s₁:=x1
 obtain⟨I2,x2⟩:=sQ (gs:=gs') (h':=s₁.heap) I hW hG I1 x1' hbare λ_ _ q=>q
 have keepA:∀o,s.heap.get? a=some o→s₁.heap.get? a=some o:=λo eo=>x1'.keep a o eo List.not_mem_nil λh=>h.2 rfl
 have at_:∀{b},W b∨s.heap.get? b=none→σ.g.get? b=none∧b∉σ.own:=λh=>h.elim (hW _) λh=>⟨(I.notIn h).2,(I.notIn h).1⟩
 have htW:W t∨s.heap.get? t=none:=ht0.elim .inr (hG t)
 have htn:=at_ htW
 have up1:∀b,gwx env a x e it ds.length b→W b∨s.heap.get? b=none:=λb hb=>hG b (by show fi _ _ _ _ _ _ _;rw[List.length_cons,lE];exact oM hb)
 refine hR v _ (cR σ.g t (fW (List.toArray vs) n)) (gwx env a x e it ds.length) ?_ up1 (I2.add ht2 htn.1 htn.2) ⟨.put htn.1,⟨[],by simp,by simp⟩,λb o e1 e2=>?_,x2.keep,x2.gens,x2.os⟩ (λb hb=>?_) (by rw[ev,hdd];exact .tup (dR rfl) (hrel _)) ⟨?_,hth',Eu,oK,gs',?_,.inr ⟨e,it,kk+1,hd.2,rfl,λs'' I'' hk2 hrun2=>hkap s'' I'' hk2 hrun2⟩⟩
 ·refine iw (λr b er _=>?_) rfl
  obtain⟨o,nm,qn,ho,hc,_⟩:=hg
  injection er with er
  exact⟨o,er▸keepA o ho,λnme hcn=>by rw[hc]at hcn;injection hcn with hcn;rw[←hcn];decide⟩
 ·by_cases hb:b=t
  ·subst hb
   exact htW.elim (λq=>.inr (.inr q)) .inl
  ·exact nE (e2.symm.trans ((bz hb).symm.trans e1))
 ·rw[bz (show b≠t from λq=>ht1 (by rw[←q];exact hb))]
  exact(at_ (up1 b hb)).1
 ·obtain⟨o,nm,qn,ho,r⟩:=hg
  exact⟨o,nm,qn,keepA o ho,r⟩
 ·show (s₁.gens.setIfInBounds gi gs')[gi]?=_
  rw[Array.getElem?_setIfInBounds_self_of_lt (Array.getElem?_eq_some_iff.mp hrun).1]
theorem zY{tgt:Expr}{body:List Stmt}{x:Str}(ht:TopOk ⟨X.mg,X.mb,X.g0⟩ X.g0)(hr:Room A 9)(haL:a≠env.locals)(start:wm X A ft env gi a body x):lM X A tgt (.ref a) (·=gi) (GJ X A ft env gi a body x) where
 self:=λh _ k=>wpAny_pyIter_gen h.1 k
 there:=λh=>h.2.1
 frame:=λ{W g g' ds s s'} j _ _ _ hk hgk=>by
  obtain⟨hg,hth,hWa,hWl,gs,hgs,hd⟩:=j
  obtain⟨o,nm,qn,ho,r⟩:=hg
  refine⟨⟨o,nm,qn,hk _ _ hWa ho,r⟩,λb hb=>(hth b hb).elim λo eo=>⟨o,hk _ _ hb eo⟩,hWa,hWl,gs,hgk _ _ rfl hgs,?_⟩
  rcases hd with⟨h1,h2,h3,h4⟩|⟨e,it,kk,h1,h2,h3⟩
  ·exact .inl ⟨h1,h2,h3,λs'' I'' hk2=>h4 s'' I'' λo eo=>hk2 o (hk _ _ hWl eo)⟩
  ·exact .inr ⟨e,it,kk,h1,h2,λs'' I'' hk2 hrun=>h3 s'' I'' (λb o hb eb=>hk2 b o hb (hk b o hb eb)) hrun⟩
 step:=λ{W σ s d ds} I j hW=>by
  obtain⟨gs,e,it,K⟩:=qa ht start I hW j
  exact xy hr I hW K λv s1 g' W' h1 h2 h3 h4 h5 h6 h7=>⟨v,rfl,wpAny_mono h1 (λ_ s' q=>by rw[q];exact⟨g',W',h2,h3,h4,h5,h6,h7⟩) λ_ _ f=>f⟩
 stop:=λ{W σ s} I j hW=>by
  obtain⟨gs,e,it,hg,hgs,hG,_,hgo⟩:=qa ht start I hW j
  refine mu (P:=GP X gi a (gwx env a x e it)) hr.hand (I.top.nolim.keeps I.sub) (by have:=hr.depth;unfold recursionLimit;(first|lia|omega)) hg hgs hgo (λv s₁ gs' hbare hY=>?_) (λs₁ hP h' hk=>?_)
  ·obtain⟨dd,t,vs,n,σ',hL,_,I1,x1,ht0,ht1,ht2,hrel,hth',hrun,hkap⟩:=hY
   exact False.elim (hkap s₁ (pB I1 ht) (λ_ _ _ q=>q) hrun)
  ·obtain⟨_,σ',I1,x1⟩:=hP
   exact⟨rfl,sQ (gs:=.finished) (h':=h') I hW hG I1 x1 rfl hk⟩
end
end Mine
namespace Mine
section
variable{X:Cx}{A:Around}{ft ftg:FT}{env:Env}{s:Shared}{σ:Sg}{Γ Γ':List Slot}{d:D}{c':List Cell}{tgt:Expr}
noncomputable def pq(X:Cx)(ft:FT)(sc:Scope)(body:List Stmt):Prop:=
 ∀(env:Env),env.scope=sc→∀(A:Around) (gi:Nat) (a:Addr) (x:Str),Room A 9→a≠env.locals→∀s₀,X.Inv X.base s₀→Frm ft env [.val (.str x),.un,.un,.un] X.base s₀.heap→s₀.gens[gi]?=some .running→(∃o,s₀.heap.get? a=some o)→X.g0.get? a=none→
   Seg X.M A (GR X gi a (fi env a (s₀.heap.objs.size+1) s₀.heap.objs.size (bV false (dm x)))) (GY X gi a (escaped x) (fi env a (s₀.heap.objs.size+1) s₀.heap.objs.size (bV false (dm x)))) (escaped x).length s₀ (.func body env) (X.M.den (.func body env)) [] s₀
noncomputable def ql(p:PE):PL:=λΓ c=>(p Γ c).bind λ(d,c1)=>match d with
 | .str x=>some (escaped x,c1)
 | _=>none
theorem EH{f xaddr:Str}{np pos:Pos}{e:Expr}{af:Addr}{o:Obj}{fd:FuncData}{body:List Stmt}{p:PE}(ht:TopOk ⟨X.mg,X.mb,X.g0⟩ X.g0)(hr:Room A 11)(hx:f∈ft.gt)(hv:X.mg f=some (.ref af))(ho:X.g0.get? af=some o)(hd:o.data=.func fd)(hcd:X.g0.CodeRec fd.code fd.qualname)
  (hb:fd.body=.stmts body) (hco:fd.scope.isCoroutine=false) (hgen:fd.scope.isGenerator=true) (hgl:fd.globals=mainGlobals) (hbl:fd.builtins=builtinsNs) (fit:Fits ftg fd.scope) (hl:∀p∈ftg.nt,p.2=VK.l) (hlen:ftg.nt.length=4) (h0:ftg.nt[0]?=some (xaddr,.l))
  (hbind:∀v:Value,bindArgs fd ⟨[v],[]⟩=pure [(xaddr,v)]) (st:pq X ftg fd.scope body) (h1:SoundE X A ft env e p) (hcdf:autoParam (∀v,ftg.cd=some v→fd.code=v.1∧fd.qualname++".<locals>." = v.2) aC) (he:autoParam (∀env,starEach [e] env=(false,eval e env)::starEach [] env) aR) :
  et X A ft env tgt (.Call (.Name f np) [e] [] pos) (ql p):=λΓ σ s ds c' I F h=>by
 (refine bE2 h ?_;(try clear h);intro d c1 e1 h)
 dsimp only at h
 (first|(refine iE h ?_ ?_<;>(clear h;intro _ h))|split at h)
 ·rename_i x
  cases h
  refine wpAny_Call_NameR (eval_Name (F.ok.odd f (List.mem_append_right _ hx)).1 (dz I F hx hv ?_))
  refine callWith_def hd (wpAny_items_cons (h1.use I F e1 λv σ1 s1 q1 I1 x1 F1 r1=>wpAny_items_nil ?_) (he env)) (he env)
  subst q1
  cases r1
  rename_i t
  refine⟨I1.sub _ _ (I1.top.base _ _ ho),wpAny_call (codeAny_call_generator (by have:=hr.depth;unfold recursionLimit;(first|lia|omega)) (I1.sub _ _ (I1.top.base _ _ ho)) hd hco hgen hb ((hcd.keeps I1.top.base).keeps I1.sub) ?_)⟩
  rw[hbind,hgl,hbl]
  refine wpAny_pure (up ?_)
  refine gA (ft:=ftg) (Γ:=[.un,.un,.un,.un]) (Γ':=[.val (.str x),.un,.un,.un]) I1 fit (by simp[hlen]) (λi y k _ _ sl es=>?_) (λi y es=>by have:=hl _ (dc es);cases this) rfl hcdf (.cons h0 (by intro q;cases q) (sl:=.val (.str x)) (.str _ _) .nil) λenv2 s2 he2 I2 x2 F2 w2 l2=>?_
  ·simp only[List.getElem?_cons]at es
   repeat' ((first|(refine iE es ?_ ?_<;>(clear es;intro _ es))|split at es))
   all_goals first|(cases es;rfl)|(simp at es;first|exact es.symm|skip)
  ·refine⟨I2.top.nolim.keeps I2.sub,?_⟩
   show wpAny X.M A (pyIter (.ref s2.heap.objs.size)) _ _ _
   have nn:s2.heap.get? s2.heap.objs.size=none:=get?_push_none
   have back1:∀b,s1.heap.get? b=none→s.heap.get? b=none:=λb eb=>(Ext.back I1 x1 eb).elim id λf=>f.elim
   have back2:∀b,s2.heap.get? b=none→s1.heap.get? b=none:=λb eb=>(Ext.back I2 x2 eb).elim id λf=>f.elim
   generalize hob:({ cls:=.type "generator",data:=.fields #[.int s2.gens.size 0,.str fd.name s2.toks,.str fd.qualname (s2.toks+1)] }:Obj)=ob
   have hfr:ob.isFreed=false:=by rw[←hob];rfl
   have hisg:Heap.IsGen (s2.heap.push ob) s2.heap.objs.size s2.gens.size:=⟨ob,_,_,Heap.get?_push_size _ hfr,by rw[←hob],by rw[←hob],by rw[←hob]⟩
   refine wpAny_pyIter_gen hisg ?_
   have I3:X.Inv σ1 { s2 with gens:=s2.gens.push (.fresh (.func body env2)),toks:=s2.toks+1+1,heap:=s2.heap.push ob }:=
    Inv.shift (W:=NoW) I2 (λb o eb _=>Heap.get?_push_of_some _ eb) (λ_ f=>f.elim) (AllBare.push I2.bare rfl) (by show 0<s2.toks+1+1;(first|lia|omega))
   have x3:Ext NoW NoG σ1 s2 σ1 { s2 with gens:=s2.gens.push (.fresh (.func body env2)),toks:=s2.toks+1+1,heap:=s2.heap.push ob }:=by
    refine⟨.refl _,⟨[],by simp,by simp⟩,λb o e1 e2=>(by rw[e2]at e1;cases e1),λb o eb _ _=>Heap.get?_push_of_some _ eb,λi y ei _=>?_,rfl⟩
    show (s2.gens.push _)[i]?=some y
    obtain⟨hli,hy⟩:=Array.getElem?_eq_some_iff.mp ei
    rw[Array.getElem?_push_lt hli]
    exact congrArg some hy
   have haL:s2.heap.objs.size≠env2.locals:=λq=>by
    obtain⟨o,eo⟩:=F2.thereL
    rw[←q,nn]at eo;cases eo
   refine⟨σ1,λb=>b=env2.locals∨b=s2.heap.objs.size,(·=s2.gens.size),GJ X A ftg env2 s2.gens.size s2.heap.objs.size body x,rfl,I3,x1.trans I1 (x2.trans I2 x3),zY ht (hr.le (by(first|lia|omega))) haL (λs₀ Ib Fb rb hb2 hg2=>st env2 (by rw[he2];rfl) A.in1 _ _ x (Room.in1 (hr.le (by(first|lia|omega)))) haL s₀ Ib Fb rb hb2 hg2),
    ⟨hisg,?_,.inr rfl,.inl rfl,.fresh (.func body env2),?_,.inl ⟨rfl,rfl,rfl,λs'' I'' hk=>pU (F2.ext x3) hl (by simp[je]) (λo eo=>hk o eo) I2.top.base⟩⟩,?_,?_⟩
   ·rintro b (rfl|rfl)
    ·exact(F2.ext x3).thereL
    ·exact⟨ob,Heap.get?_push_size _ hfr⟩
   ·show (s2.gens.push _)[s2.gens.size]?=_
    rw[Array.getElem?_push_size]
   ·rintro b (rfl|rfl)
    ·exact⟨back1 _ (w2 _ (.inl rfl)),F2.offL.1,F2.offL.2⟩
    ·exact⟨back1 _ (back2 _ nn),(I2.notIn nn).2,(I2.notIn nn).1⟩
   ·rintro i rfl
    cases q:s.gens[s2.gens.size]? with
    | none=>rfl
    | some y=>
     have:=x2.gens _ _ (x1.gens _ _ q λf=>f) λf=>f
     rw[Array.getElem?_eq_none (Nat.le_refl _)]at this
     cases this
 ·cases h
end
end Mine
namespace Mine
section
variable{M:Model}{A:Around}{E:Value→Shared→Prop}{s:Shared}
noncomputable abbrev eS(es:Array DictEntry)(n:Nat):Obj:={ cls:=.type "dict",data:=.dict es n }
theorem qg{D:Addr}{name:Str}{v:Value}{n:Nat}{Q:Unit→Shared→Prop}(ho:s.heap.get? D=some (eS #[] n))
  (h:∀h' hh,h'.get? D=some (eS #[⟨hh,.str name s.toks,v⟩] (n+1))→Heap.SameBut D s.heap h'→Q () { s with heap:=h',toks:=s.toks+1 }):wpAny M A (nsSet D name v) Q E s:=by
 unfold nsSet strHash
 refine wpAny_bind (wpAny_bind (wpAny_askSetting (wpAny_pure ?_)))
 refine wpAny_bind (wpAny_mkText ?_)
 refine wpAny_bind (wpAny_loadPart (s:={ s with toks:=s.toks+1 }) ho ?_)
 dsimp only
 rw[if_neg (show ¬aRefKeyMayBeTheName name #[]=true by rw[aRefKeyMayBeTheName_at];simp)]
 refine wpAny_updatePart (s:={ s with toks:=s.toks+1 }) ho (h _ (if name.cps.isEmpty=true then 0 else reduceHash (M.w.params.strHash name.cps)) ?_ (Heap.SameBut.update ..))
 exact Heap.get?_update_self _ ho rfl
end
section
variable{prog:Program}{w:World}{A:Around}{E:Value→Shared→Prop}{s:Shared}
theorem iu{d:Addr}{k:Str}{t:Tok}{hh:Int}{n:Nat}{Q:Option Nat→Shared→Prop}(hd:s.heap.get? d=some (eS #[] n))(h:Q none s):wpAny (model prog w) A (dictFind d (.str k t) hh) Q E s:=by
 unfold dictFind
 refine wpAny_holding (wpAny_bind (wpAny_dictEntries hd rfl ?_))
 dsimp only
 rw[if_pos (by simp)]
 unfold foundByValue
 rw[show Array.findIdx? (λx:DictEntry=>x.key.isStr k) #[]=none by simp]
 exact wpAny_pure h
theorem mT{d:Addr}{k:Str}{t:Tok}{hh:Int}{n:Nat}{v:Value}{Q:Unit→Shared→Prop}(hd:s.heap.get? d=some (eS #[] n))(h:∀h',h'.get? d=some (eS #[⟨hh,.str k t,v⟩] (n+1))→Heap.SameBut d s.heap h'→Q () { s with heap:=h' }) :
  wpAny (model prog w) A (dictPut d hh (.str k t) v) Q E s:=by
 unfold dictPut
 refine wpAny_bind (iu hd ?_)
 refine wpAny_updateDictKeys hd rfl (h _ ?_ (Heap.SameBut.update ..)) (Nat.zero_le _) (by simp)
 exact Heap.get?_update_self _ hd rfl
theorem vL{a d:Addr}{k:Str}{t:Tok}{hh:Int}{v:Value}{n1 n2:Nat}{Q:Unit→Shared→Prop}(ha:s.heap.get? a=some (eS #[⟨hh,.str k t,v⟩] n1))(hd:s.heap.get? d=some (eS #[] n2))(hne:a≠d)(hsys:(a==sysModules)=false)
  (h:∀h',h'.get? d=some (eS #[⟨hh,.str k t,v⟩] (n2+1))→Heap.SameBut d s.heap h'→Q () { s with heap:=h' }):wpAny (model prog w) A (mergeMapping d (.ref a) true) Q E s:=by
 have hT:s.TypeIs (.ref a) "dict" :=⟨_,ha,rfl⟩
 unfold mergeMapping
 refine wpAny_bind (wpAny_isInstance (b:=true) hT (by rw[isSubtype_type];kernel_rfl) ?_)
 rw[if_pos rfl]
 refine wpAny_bind (wpAny_specialOf hT PySem.F.slot_dict_iter.lookup (wpAny_bind (wpAny_pure ?_)))
 rw[show ((some (Value.builtin "dict.__iter__")==some (Value.builtin "dict.__iter__"))=true)by decide]
 dsimp only
 rw[hsys]
 simp only[Bool.false_eq_true,if_false]
 refine wpAny_bind (wpAny_dictEntries hd rfl ?_)
 rw[if_pos (by rfl)]
 refine wpAny_bind (wpAny_dictEntries ha rfl ?_)
 simp only[List.forIn_toArray,List.forIn_cons,List.forIn_nil]
 refine wpAny_bind (wpAny_bind (wpAny_pure (wpAny_pure ?_)))
 refine wpAny_bind (wpAny_dictEntries ha rfl (wpAny_bind (wpAny_dictEpoch ha rfl (wpAny_bind ?_))))
 show wpAny _ _ (forIn [0] PUnit.unit _) _ _ _
 simp only[List.forIn_cons,List.forIn_nil]
 refine wpAny_bind (wpAny_bind (wpAny_dictEntries ha rfl ?_))
 rw[show (#[(⟨hh,.str k t,v⟩:DictEntry)])[0]?=some ⟨hh,.str k t,v⟩from rfl]
 dsimp only
 refine wpAny_bind (wpAny_holding ?_)
 rw[if_pos trivial]
 refine wpAny_bind (iu hd ?_)
 rw[if_neg (by simp)]
 refine mT hd λh' hd' hs=>?_
 have ha':h'.get? a=some (eS #[⟨hh,.str k t,v⟩] n1):=(hs.2 a hne).trans ha
 refine wpAny_bind (wpAny_dictEpoch (s:={ s with heap:=h' }) ha' rfl ?_)
 rw[if_neg (by simp)]
 exact wpAny_pure (wpAny_pure (wpAny_pure (h h' hd' hs)))
theorem rO{f:Value}{x:Sem Value}{k:Str}{v:Value}{Q:Addr→Shared→Prop}
  (h:wpAny (model prog w) A x (λm s'=>∃a hh t n1,m=.ref a∧s'.heap.get? a=some (eS #[⟨hh,.str k t,v⟩] n1)∧(a==sysModules)=false∧a≠s.heap.objs.size∧s'.heap.get? s.heap.objs.size=some (eS #[] 0)∧
   ∀h',h'.get? s.heap.objs.size=some (eS #[⟨hh,.str k t,v⟩] 1)→Heap.SameBut s.heap.objs.size s'.heap h'→Q s.heap.objs.size { s' with heap:=h' }) NoE { s with heap:=s.heap.push (eS #[] 0) }) :
  wpAny (model prog w) A (mergedKeywords f [(none,x)]) Q E s:=by
 unfold mergedKeywords
 refine wpAny_bind (wpAny_alloc (wpAny_bind (wpAny_holding ?_)))
 refine wpAny_bind ?_
 rw[List.forIn_cons]
 refine wpAny_bind ?_
 refine wpAny_bind (show wpAny (model prog w) A (pure ():Sem Unit) _ _ _ from wpAny_pure ?_)
 refine wpAny_bind (wpAny_mono h (λm s' qz1=>?_) λ_ _ f=>False.elim f)
 obtain⟨a,hh,t,n1,em,ha,hsys,hne,hd,hQ⟩:=qz1
 subst em
 refine wpAny_bind (wpAny_onRaise (wpAny_holding (wpAny_tryCatch (wpAny_onRaise (vL ha hd hne hsys λh' hd' hs=>?_)))))
 refine wpAny_pure ?_
 refine wpAny_pure ?_
 refine wpAny_bind (show wpAny (model prog w) A (pure ():Sem Unit) _ _ _ from wpAny_pure ?_)
 exact wpAny_pure (wpAny_pure (hQ h' hd' hs))
theorem oR{f:Value}{d:Addr}{hh:Int}{k:Str}{t:Tok}{v:Value}{n:Nat}{Q:List (Str×Value)→Shared→Prop}(hd:s.heap.get? d=some (eS #[⟨hh,.str k t,v⟩] n))(h:Q [(k,v)] s):wpAny (model prog w) A (keywordsIn f d) Q E s:=by
 unfold keywordsIn
 refine wpAny_bind (wpAny_dictEntries hd rfl (wpAny_bind ?_))
 rw[show (#[(⟨hh,.str k t,v⟩:DictEntry)])=[(⟨hh,.str k t,v⟩:DictEntry)].toArray from rfl,List.forIn_toArray,List.forIn_cons]
 refine wpAny_bind (show wpAny (model prog w) A (pure (ForInStep.yield [(k,v)]):Sem (ForInStep (List (Str×Value)))) _ _ _ from wpAny_pure ?_)
 dsimp only
 rw[List.forIn_nil]
 exact wpAny_pure (wpAny_pure h)
theorem mU{f:Value}{x y:Sem Value}{k:Str}{v:Value}{Q:Args→Shared→Prop}
  (h:wpAny (model prog w) A (spliced [(false,y)]) (λvs s1=>wpAny (model prog w) A x (λm s'=>∃a hh t n1,m=.ref a∧s'.heap.get? a=some (eS #[⟨hh,.str k t,v⟩] n1)∧(a==sysModules)=false∧a≠s1.heap.objs.size∧s'.heap.get? s1.heap.objs.size=some (eS #[] 0)∧
   ∀h',h'.get? s1.heap.objs.size=some (eS #[⟨hh,.str k t,v⟩] 1)→Heap.SameBut s1.heap.objs.size s'.heap h'→Q ⟨vs,[(k,v)]⟩ { s' with heap:=h' }) NoE { s1 with heap:=s1.heap.push (eS #[] 0) }) NoE s) :
  wpAny (model prog w) A (evalArgs f true [(false,y)] [(none,x)]) Q E s:=by
 unfold evalArgs
 refine wpAny_bind (m:=spliced [(false,y)]) (up (wpAny_mono h (λvs s1 h1=>wpAny_bind (wpAny_pure (wpAny_holding ?_))) λ_ _ f=>f))
 rw[if_neg (by simp)]
 refine wpAny_bind (rO (k:=k) (v:=v) (wpAny_mono h1 (λm s' q=>?_) λ_ _ f=>f))
 obtain⟨a,hh,t,n1,em,ha,hsys,hne,hd,hQ⟩:=q
 refine⟨a,hh,t,n1,em,ha,hsys,hne,hd,λh' hd' hs=>?_⟩
 refine wpAny_bind (wpAny_pure (wpAny_bind (wpAny_holding (oR (s:={ s' with heap:=h' }) hd' (wpAny_pure (hQ h' hd' hs))))))
end
end Mine
namespace Mine
section
variable{M:Model}{A:Around}{E:Value→Shared→Prop}{s:Shared}
theorem jP{fd:FuncData}{p:Arguments}(hp:fd.params=p)(h1:fd.defaults=.none)(h2:fd.kwdefaults=.none):fd={ fd with params:=p,defaults:=.none,kwdefaults:=.none }:=by
 cases fd;subst hp;cases h1;cases h2;rfl
structure jD (fd:FuncData) (n1 n2 n3 k:Str):Prop where
 b0:∀v1 v2,bindArgs fd ⟨[v1,v2],[]⟩=(alloc (eS #[] 0) >>= λa=>pure [(n1,v1),(n2,v2),(n3,.ref a)])
 b1:∀v1 v2 v,bindArgs fd ⟨[v1,v2],[(k,v)]⟩=(alloc (eS #[] 0) >>= λa=>(forIn [(k,v)] PUnit.unit (λp _=>do nsSet a p.1 p.2;pure (ForInStep.yield PUnit.unit))) >>= λ_=>pure [(n1,v1),(n2,v2),(n3,.ref a)])
noncomputable abbrev lJ(params:Arguments)(n1 n2:Str):Prop:=∀(fd:FuncData) v1 v,bindArgs { fd with params:=params,defaults:=.none,kwdefaults:=.none } ⟨[v1],[(n2,v)]⟩=pure [(n1,v1),(n2,v)]
theorem qU{fd:FuncData}{n1 n2 n3 k:Str}{v1 v2:Value}{Q:List (Str×Value)→Shared→Prop}(hb:jD fd n1 n2 n3 k)
  (h:Q [(n1,v1),(n2,v2),(n3,.ref s.heap.objs.size)] { s with heap:=s.heap.push (eS #[] 0) }):wpAny M A (bindArgs fd ⟨[v1,v2],[]⟩) Q E s:=by
 rw[hb.b0]
 exact wpAny_bind (wpAny_alloc (wpAny_pure h))
theorem lO{fd:FuncData}{n1 n2 n3 k:Str}{v1 v2 v:Value}{Q:List (Str×Value)→Shared→Prop}(hb:jD fd n1 n2 n3 k)
  (h:∀h' hh t,h'.get? s.heap.objs.size=some (eS #[⟨hh,.str k t,v⟩] 1)→(∀b o,s.heap.get? b=some o→h'.get? b=some o)→Q [(n1,v1),(n2,v2),(n3,.ref s.heap.objs.size)] { s with heap:=h',toks:=s.toks+1 }):wpAny M A (bindArgs fd ⟨[v1,v2],[(k,v)]⟩) Q E s:=by
 rw[hb.b1]
 refine wpAny_bind (wpAny_alloc ?_)
 rw[List.forIn_cons]
 refine wpAny_bind (wpAny_bind (wpAny_bind (qg (n:=0) (Heap.get?_push_size _ rfl) λh' hh hd' hs=>wpAny_pure ?_)))
 dsimp only
 rw[List.forIn_nil]
 exact wpAny_pure (wpAny_pure (h h' hh _ hd' λb o eb=>hs.extBut b o (Nat.ne_of_lt (Heap.lt_size eb)) (Heap.get?_push_of_some _ eb)))
theorem wu{fd:FuncData}{p:Arguments}{n1 n2:Str}{v1 v:Value}{Q:List (Str×Value)→Shared→Prop}(hp:fd.params=p)(h1:fd.defaults=.none)(h2:fd.kwdefaults=.none)(hb:lJ p n1 n2)(h:Q [(n1,v1),(n2,v)] s):wpAny M A (bindArgs fd ⟨[v1],[(n2,v)]⟩) Q E s:=by
 rw[jP hp h1 h2,hb]
 exact wpAny_pure h
end
end Mine
namespace Mine
section
variable{X:Cx}{A:Around}{ft:FT}{env:Env}{s:Shared}{σ:Sg}{Γ Γ':List Slot}{d:D}{c':List Cell}
noncomputable def By:PS:=λ_ _=>none
theorem DH{sts:List Stmt}:bj X A ft env sts By:=λΓ σ s fl Γ' c' I F h=>by cases h
noncomputable def oe(X:Cx)(n:Nat)(f:Value)(k:Str)(F:PF):Prop:=
 ∀A,Room A n→∀σ s v1 v2 sl1 sl2 d c' kw,X.Inv σ s→RelS σ v1 sl1→RelS σ v2 sl2→(kw=[]∨∃v,kw=[(k,v)])→F [sl1,sl2] σ.sto=some (d,c')→wpAny X.M A (call f [v1,v2] kw) (PostE X σ s d c') NoE s
noncomputable def lG(m:Nat)(q:PS):PF:=λsls c=>(q (setFrom 0 (sls++[.un]) (List.replicate m .un)) c).bind (Bz c.length)
theorem z3{n m:Nat}{a:Addr}{o:Obj}{fd:FuncData}{body:List Stmt}{q:PS}{a1 a2 a3:Arg}{k:Str}(ho:X.g0.get? a=some o)(hd:o.data=.func fd)(hcd:X.g0.CodeRec fd.code fd.qualname)(hb:fd.body=.stmts body)
  (hbk:jD fd a1.arg a2.arg a3.arg k)
  (hco:fd.scope.isCoroutine=false) (hgen:fd.scope.isGenerator=false) (hgl:fd.globals=mainGlobals) (hbl:fd.builtins=builtinsNs) (hclo:fd.closure=[]) (fit:Fits ft fd.scope) (hnf:∀x,(x,VK.f)∉ft.nt) (hm:ft.nt.length=m)
  (hpar:jV ft [a1.arg,a2.arg,a3.arg]=true) (hbody:∀A env,Room A n→bj X A ft env body q) (hcdf:autoParam (∀v,ft.cd=some v→fd.code=v.1∧fd.qualname++".<locals>." = v.2) aC):oe X (n+1) (.ref a) k (lG m q):=by
 intro A hr σ s v1 v2 sl1 sl2 d c' kw I r1 r2 hkw h
 unfold lG at h
 (refine bE3 h ?_;(try clear h);intro fl Γe ce e1 h)
 have top:=I.top
 refine wpAny_call (codeAny_call_function (by have:=hr.depth;unfold recursionLimit;(first|lia|omega)) (I.sub _ _ (top.base _ _ ho)) hd hco hgen hb ((hcd.keeps top.base).keeps I.sub) ?_)
 rw[hgl,hbl,hclo]
 have rest:∀s0,X.Inv σ s0→Ext NoW NoG σ s σ s0→∀D:Addr,wpAny X.M A.in1 (newFunctionEnv fd.scope mainGlobals [] [(a1.arg,v1),(a2.arg,v2),(a3.arg,.ref D)] (fd.qualname++".<locals>.") (some a) fd.code none builtinsNs)
   (λenv s₂=>s₂.heap.NoLimit∧codeAny X.M A (.func body env) (λr s'=>match r with|.ok (.ret v)=>PostE X σ s d c' v s'|.ok _=>False|.error e=>NoE e s') s₂) NoE s0:=by
  intro s0 I0 x0 D
  refine gA (Γ:=List.replicate m .un) I0 fit (by simp[hm]) (λi x k _ _ sl e=>?_) (λi x e=>absurd (dc e) (hnf x)) rfl hcdf (jo [a1.arg,a2.arg,a3.arg] [v1,v2,.ref D] [sl1,sl2,.un] 0 _ (rW hpar) (.cons r1 (.cons r2 (.cons trivial .nil))) rfl) λenv s1 he I1 x1 F1 w1 l1=>?_
  ·rw[List.getElem?_replicate]at e
   (first|(refine iE e ?_ ?_<;>(clear e;intro _ e))|split at e)<;>cases e
   rfl
  ·refine⟨(I1.top.nolim).keeps I1.sub,codeAny_func ?_⟩
   refine up (wpAny_mono (hbody (A.deeper env) env hr.deeper (setFrom 0 [sl1,sl2,.un] (List.replicate m .un)) σ s1 fl Γe ce I1 F1 e1) (λf s2 qz1=>?_) λ_ _ f=>f)
   obtain⟨σ2,q2,I2,x2,F2,r2⟩:=qz1
   have xx:Ext NoW NoG σ s0 σ2 s2:=(x1.up.trans I1 x2).drop w1 λ_ f=>f.elim
   have xx':=x0.trans I0 xx
   have I3:=I2.cut σ.sto.length
   have x3:=xx'.cut I
   subst q2
   cases fl with
   | next=>cases f<;>cases r2;cases h;exact⟨_,rfl,I3,x3,.none⟩
   | ret d'=>
    cases f<;>first|(cases r2;done)|skip
    cases h;exact⟨_,rfl,I3,x3,r2⟩
   | brk=>cases h
   | cont=>cases h
 rcases hkw with rfl|⟨v,rfl⟩
 ·refine qU hbk ?_
  obtain⟨I0,x0⟩:=jT (o:=eS #[] 0) (tk:=s.toks) I
  exact up (rest _ I0 x0 _)
 ·refine lO hbk λh' hh t hD keep=>?_
  have I0:X.Inv σ { s with heap:=h',toks:=s.toks+1 }:=Mine.Inv.heap (W:=NoW) I (λa o e _=>keep a o e) λ_ f=>f.elim
  have x0:Ext NoW NoG σ s σ { s with heap:=h',toks:=s.toks+1 }:=Ext.heap λa o e _=>keep a o e
  exact up (rest _ I0 x0 _)
noncomputable def mj(F:PF)(p q:PE):PE:=λΓ c=>(p Γ c).bind λ(d1,c1)=>(q Γ c1).bind λ(d2,c2)=>F [.val d1,.val d2] c2
theorem CE{n:Nat}{f k:Str}{np pos:Pos}{e1 e2:Expr}{a:Addr}{o:Obj}{fd:FuncData}{F:PF}{p q:PE}(hx:f∈ft.gt)(hv:X.mg f=some (.ref a))(ho:X.g0.get? a=some o)(hd:o.data=.func fd)(h1:SoundE X A ft env e1 p)(h2:SoundE X A ft env e2 q)
  (hF:oe X n (.ref a) k F) (hr:Room A n) (he1:autoParam (∀env,starEach [e1,e2] env=(false,eval e1 env)::starEach [e2] env) aR) (he2:autoParam (∀env,starEach [e2] env=(false,eval e2 env)::starEach [] env) aR) :
  SoundE X A ft env (.Call (.Name f np) [e1,e2] [] pos) (mj F p q):=λΓ σ s d c' I FF h=>by
 (refine bE2 h ?_;(try clear h);intro d1 c1 g1 h)
 (refine bE2 h ?_;(try clear h);intro d2 c2 g2 h)
 refine wpAny_Call_NameR (eval_Name (FF.ok.odd f (List.mem_append_right _ hx)).1 (dz I FF hx hv ?_))
 refine callWith_def hd (wpAny_items_cons (h1.use I FF g1 λv1 σ1 s1 q1 I1 x1 F1 r1=>?_) (he1 env)) (he1 env)
 subst q1
 refine wpAny_items_cons (h2.use I1 F1 g2 λv2 σ2 s2 q2 I2 x2 F2 r2=>wpAny_items_nil ?_) (he2 env)
 subst q2
 exact⟨I2.sub _ _ (I2.top.base _ _ ho),wpAny_mono (hF A hr σ2 s2 v1 v2 (.val d1) (.val d2) d c' [] I2 (Rel.mono x2.le r1) r2 (.inl rfl) h) (λ_ _ k=>PostE.trans I2 (x1.trans I1 x2) k) λ_ _ f=>f⟩
noncomputable def ml(F:PF)(p q r:PE):PE:=λΓ c=>(p Γ c).bind λ(d1,c1)=>(q Γ c1).bind λ(d2,c2)=>(r Γ c2).bind λ(_,c3)=>F [.val d1,.val d2] c3
theorem CF{n:Nat}{f k:Str}{np pos kp:Pos}{e1 e2 e3:Expr}{a:Addr}{o:Obj}{fd:FuncData}{F:PF}{p q r:PE}(hx:f∈ft.gt)(hv:X.mg f=some (.ref a))(ho:X.g0.get? a=some o)(hd:o.data=.func fd)(h1:SoundE X A ft env e1 p)(h2:SoundE X A ft env e2 q)(h3:SoundE X A ft env e3 r)
  (hF:oe X n (.ref a) k F) (hr:Room A n) (he1:autoParam (∀env,starEach [e1,e2] env=(false,eval e1 env)::starEach [e2] env) aR) (he2:autoParam (∀env,starEach [e2] env=(false,eval e2 env)::starEach [] env) aR) :
  SoundE X A ft env (.Call (.Name f np) [e1,e2] [⟨some k,e3,kp⟩] pos) (ml F p q r):=λΓ σ s d c' I FF h=>by
 (refine bE2 h ?_;(try clear h);intro d1 c1 g1 h)
 (refine bE2 h ?_;(try clear h);intro d2 c2 g2 h)
 (refine bE2 h ?_;(try clear h);intro d3 c3 g3 h)
 refine wpAny_Call_Name_kw (eval_Name (FF.ok.odd f (List.mem_append_right _ hx)).1 (dz I FF hx hv ?_))
 refine callWith_function_kw (o:=o) (fd:=fd) ?_
 have e0:backTo pos (starEach [e1,e2] env)=(false,eval e1 env)::(backTo pos (starEach [e1,e2] env)).tail:=by rw[he1 env];rfl
 rw[e0]
 refine evalArgs_kw rfl ?_
 rw[←e0]
 refine wpAny_items_cons (h1.use I FF g1 λv1 σ1 s1 q1 I1 x1 F1 r1=>?_) (he1 env)
 subst q1
 refine wpAny_items_cons (h2.use I1 F1 g2 λv2 σ2 s2 q2 I2 x2 F2 r2=>wpAny_items_nil ?_) (he2 env)
 subst q2
 show wpAny X.M A (evalAll [do let v ←eval e3 env;standAt pos;pure v]) _ _ _
 unfold evalAll
 refine wpAny_bind (wpAny_bind (h3.use I2 F2 g3 λv3 σ3 s3 q3 I3 x3 F3 r3=>wpAny_bind (wpAny_standAt (wpAny_pure ?_))))
 subst q3
 refine wpAny_bind (wpAny_holding (show wpAny X.M A (evalAll []) _ _ _ from wpAny_pure (wpAny_pure ?_)))
 exact⟨⟨I3.sub _ _ (I3.top.base _ _ ho),hd⟩,wpAny_mono (hF A hr σ3 s3 v1 v2 (.val d1) (.val d2) d c' [(k,v3)] I3 (Rel.mono (x2.le.trans x3.le) r1) (Rel.mono x3.le r2) (.inr ⟨v3,rfl⟩) h) (λ_ _ k=>PostE.trans I3 ((x1.trans I1 x2).trans I2 x3) k) λ_ _ f=>f⟩
end
end Mine
namespace Mine
section
variable{X:Cx}{A:Around}{ft ft':FT}{env:Env}{s:Shared}{σ:Sg}{Γ Γ':List Slot}{d:D}{c':List Cell}
noncomputable def LamAt(X:Cx)(q:Str)(params:Arguments)(body:Expr)(scope:Scope)(cl:List (Str×Addr))(g h:Heap)(a:Addr):Prop:=
 ∃o cv ct,h.get? a=some o∧o.data=.func (kla_fn "<lambda>" q params body scope cl ((X.mg "__name__").getD .none) cv ct)∧g.CodeRec cv q
theorem LamAt.ext{q:Str}{params:Arguments}{body:Expr}{scope:Scope}{cl:List (Str×Addr)}{a:Addr}{σ':Sg}{s':Shared}(L:LamAt X q params body scope cl σ.g s.heap a)(x:Ext NoW NoG σ s σ' s')(ha:a∉σ.own):LamAt X q params body scope cl σ'.g s'.heap a:=by
 obtain⟨o,cv,ct,h1,h2,h3⟩:=L
 exact⟨o,cv,ct,x.keep _ _ h1 ha λf=>f,h2,h3.keeps x.le⟩
theorem xO{k:Nat}{P c:Addr}{q:Str}{b:Bool}{pos:Pos}{params:Arguments}{body:Expr}{scope:Scope}{cl:List (Str×Addr)}{Q:Value→Shared→Prop}(I:X.Inv σ s)(F:Frm ft env Γ σ s.heap)(hcd:ft.cd=some (.ref c,q))(hC:CodeHd X.g0 c P)(hB:X.g0.BuiltinsAt X.mg P)(hgP:mainGlobals≠P)
  (hk:σ.sto[k]?=some (.tab P pos (q++"<lambda>") b)) (hcl:closureFor scope env=pure cl) (hdef:defaultsOf params env=([],[]))
  (h:∀a σ' s',σ'.sto=σ.sto.set k (.tab P pos (q++"<lambda>") true)→X.Inv σ' s'→Ext NoW NoG σ s σ' s'→LamAt X (q++"<lambda>") params body scope cl σ'.g s'.heap a→a∉σ'.own→Q (.ref a) s'):wpAny X.M A (eval (.Lambda params body scope pos) env) Q NoE s:=by
 obtain⟨hcode,hqual⟩:=F.ok.code _ hcd
 have hlt:k<σ.own.length:=by rw[I.len];exact(List.getElem?_eq_some_iff.mp hk).1
 have ha:σ.own[k]?=some σ.own[k]:=by simp[hlt]
 obtain⟨eP,ps,hP,ht,hb⟩:=I.cells k _ _ ha hk
 rw[eP]at ha hP
 have hC':CodeHd s.heap c P:=hC.keeps (I.top.base.trans I.sub)
 have hB':s.heap.BuiltinsAt X.mg P:=let ⟨bm,o,e1,e2,e3,e4,e5,r⟩:=hB;⟨bm,o,e1,e2,e3,e4,I.sub _ _ (I.top.base _ _ e5),r⟩
 have hg:s.heap.Ns mainGlobals X.mg:=I.top.gl.keeps I.sub
 refine kla_eval hdef ?_
 have hqual':env.qual=q:=hqual
 rw[hqual']
 cases b with
 | false=>
  refine wpAny_with_toks (n:=s.toks) (Nat.le_refl _) (kla_makeFunction hcl F.ok.glob hg hcode hC' hP ht hb hgP hB' λc1 ctv h' tk hx hge hlt' hrec htab htk=>?_)
  have hm:s.toks≤tk:=htk
  generalize hob:kla_obj "<lambda>" (q++"<lambda>") params body scope cl ((X.mg "__name__").getD .none) c1 ctv=ob
  have hfr:ob.isFreed=false:=by rw[←hob];rfl
  have none_ge:∀b,s.heap.objs.size≤b→s.heap.get? b=none:=λb hb=>by
   cases e:s.heap.get? b with
   | none=>rfl
   | some o=>exact absurd (Nat.lt_of_lt_of_le (Heap.lt_size e) hb) (Nat.lt_irrefl _)
  have nc1:=none_ge c1 hge
  have nob:=none_ge h'.objs.size (Nat.le_of_lt (Nat.lt_of_le_of_lt hge hlt'))
  obtain⟨c2,oc,vs,t,ec,hoc,hdc,hq⟩:=hrec
  cases ec
  have keep:∀b o,b≠P→s.heap.get? b=some o→(h'.push ob).get? b=some o:=λb o hb e=>Heap.get?_push_of_some _ (hx b o hb e)
  obtain⟨I1,x1⟩:=fJ (cl':=.raw λo=>o=tabObj (ps++#[rawInt pos.line,rawInt pos.col,.ref c1])) (tk:=tk) (h':=h'.push ob) I ha hk rfl keep ⟨_,Heap.get?_push_of_some _ htab,rfl⟩ hm
  obtain⟨I2,x2,le2,e2⟩:=gR (a:=c1) (o:=oc) I1 x1 (Heap.get?_push_of_some _ hoc) (I.notIn nc1).2 (I.notIn nc1).1 nc1
  have hk2:(σ.sto.set k (Cell.raw λo=>o=tabObj (ps++#[rawInt pos.line,rawInt pos.col,.ref c1])))[k]?=some (Cell.raw λo=>o=tabObj (ps++#[rawInt pos.line,rawInt pos.col,.ref c1])):=by
   rw[List.getElem?_set_self (List.getElem?_eq_some_iff.mp hk).1]
  obtain⟨I3,x3⟩:=fJ (cl':=.tab P pos (q++"<lambda>") true) (tk:=tk) (h':=h'.push ob) I2 ha hk2 rfl (λ_ _ _ e=>e)
   ⟨rfl,_,Heap.get?_push_of_some _ htab,by simpa using TriplesOk_snoc _ _ _ ps.toList ht,by rw[if_pos rfl];exact⟨c1,by simpa using codeAmong_snoc ps.toList ht hb,c1,oc,vs,t,rfl,e2,hdc,hq⟩⟩ (Nat.le_refl _)
  refine h h'.objs.size _ _ ?_ I3 (x2.trans I2 x3) ⟨ob,.ref c1,ctv,Heap.get?_push_size _ hfr,by rw[←hob],c1,oc,vs,t,rfl,e2,hdc,hq⟩ (I.notIn nob).1
  show (σ.sto.set k _).set k _=_
  rw[List.set_set]
 | true=>
  obtain⟨c1,hf,hrec⟩:=hb
  refine wpAny_with_toks (n:=s.toks) (Nat.le_refl _) (kla_makeFunctionHit hcl F.ok.glob hg hcode hC' hP ht hf hB' λctv h' tk keep hsz htk=>?_)
  have hm:s.toks≤tk:=htk
  have hsz':s.heap.get? h'.objs.size=none:=by
   cases e:s.heap.get? h'.objs.size with
   | none=>rfl
   | some o=>exact absurd (Nat.lt_of_lt_of_le (Heap.lt_size e) hsz) (Nat.lt_irrefl _)
  have keep2:∀b o,s.heap.get? b=some o→(h'.push { cls:=.type "function",data:=.func (kla_fn "<lambda>" (q++"<lambda>") params body scope cl ((X.mg "__name__").getD .none) (.ref c1) ctv) }).get? b=some o:=λb o e=>Heap.get?_push_of_some _ (keep b o e)
  refine h h'.objs.size σ _ ?_ (Mine.Inv.heap (W:=NoW) I (λb o e _=>keep2 b o e) (λ_ f=>f.elim) hm) (Ext.heap λb o e _=>keep2 b o e) ⟨_,_,ctv,Heap.get?_push_size _ rfl,rfl,?_⟩ (I.notIn hsz').1
  ·apply List.ext_getElem?
   intro j
   by_cases hj:k=j
   ·subst hj;rw[List.getElem?_set_self (List.getElem?_eq_some_iff.mp hk).1,hk]
   ·rw[List.getElem?_set_ne hj]
  ·exact hrec
end
end Mine
namespace Mine
section
variable{X:Cx}{A:Around}{ft ftL:FT}{env:Env}{s:Shared}{σ:Sg}{Γ Γ':List Slot}{d:D}{c':List Cell}{js:List (Option Nat)}
theorem xN{a:Addr}{q:Str}{params:Arguments}{body:Expr}{scope:Scope}{cl:List (Str×Addr)}{b1 b2:Arg}{v1 v2:Value}{d1 d2:D}{pl:PE}{ce:List Cell}
  (hr:Room A 12) (I:X.Inv σ s) (F:Frm ft env Γ σ s.heap) (hL:LamAt X q params body scope cl σ.g s.heap a) (fit:Fits ftL scope) (hcap:Capt ft ftL.nt js) (hcl:∀x,(x,VK.f)∈ftL.nt→cl.lookup x=env.cells.lookup x)
  (hp:params={ posonlyargs:=[],args:=[b1,b2],vararg:=none,kwonlyargs:=[],kw_defaults:=[],kwarg:=none,defaults:=[] }) (h12:lJ params b1.arg b2.arg) (hco:scope.isCoroutine=false) (hgen:scope.isGenerator=false) (hpar:jV ftL [b1.arg,b2.arg]=true) (hcdL:ftL.cd=none)
  (hbody:∀A env',Room A 11→SoundE X A ftL env' body pl) (r1:Rel σ.g v1 d1) (r2:Rel σ.g v2 d2) (hrun:pl (setFrom 0 [.val d1,.val d2] (bS js Γ)) σ.sto=some (d,ce)) :
  wpAny X.M A (call (.ref a) [v1] [(b2.arg,v2)]) (PostE X σ s d ce) NoE s:=by
 obtain⟨o,cv,ct,ho,hd,hrec⟩:=hL
 refine wpAny_call (kla_callFunE (by have:=hr.depth;unfold recursionLimit;(first|lia|omega)) ho hd hco hgen rfl (hrec.keeps I.sub) ?_)
 refine wu rfl rfl rfl h12 ?_
 refine up ?_
 refine gA (Γ:=bS js Γ) I fit (by unfold bS;rw[List.length_map];exact hcap.length) (sG hcap) (nr hcap F hcl) rfl (λv hv=>by rw[hcdL]at hv;cases hv) (jo [b1.arg,b2.arg] [v1,v2] [.val d1,.val d2] 0 _ (rW hpar) (.cons r1 (.cons r2 .nil)) rfl) λenv1 s1 he I1 x1 F1 w1 l1=>?_
 refine⟨(I1.top.nolim).keeps I1.sub,kla_codeExpr ?_⟩
 refine up (wpAny_mono (hbody (A.deeper env1) env1 hr.deeper _ σ s1 d ce I1 F1 hrun) (λv s2 h2=>?_) λ_ _ f=>f)
 exact PostE.trans I1 x1 h2
end
end Mine
namespace Mine
section
variable{X:Cx}{A:Around}{ft ftL ftI:FT}{env:Env}{s:Shared}{σ:Sg}{Γ Γ':List Slot}{d:D}{c':List Cell}{js:List (Option Nat)}
theorem wb{a D0:Addr}{xget xidx xextra k:Str}{pG pI pE kp pC:Pos}{d1:D}{v3:Value}{hh:Int}{t:Tok}{Q:Value→Shared→Prop}{oL:Obj}{fdL:FuncData}
  (I:X.Inv σ s) (F:Frm ftI env Γ σ s.heap) {i0 i1 i2:Nat} {k0 k1 k2:VK} (h0:ftI.nt[i0]?=some (xidx,k0)) (h1:ftI.nt[i1]?=some (xget,k1)) (h2:ftI.nt[i2]?=some (xextra,k2))
  (g0:Γ[i0]?=some (.val d1)) (g1:Γ[i1]?=some (.val (.obj (.ref a)))) (g2:Γ[i2]?=some (.val (.obj (.ref D0)))) (hD:s.heap.get? D0=some (eS #[⟨hh,.str k t,v3⟩] 1)) (hsys:(D0==sysModules)=false)
  (hL:s.heap.get? a=some oL) (hd:oL.data=.func fdL)
  (h:∀v1 s',X.Inv σ s'→Ext NoW NoG σ s σ s'→Rel σ.g v1 d1→wpAny X.M A (call (.ref a) [v1] [(k,v3)]) Q NoE s') :
  wpAny X.M A (eval (.Call (.Name xget pG) [.Name xidx pI] [⟨none,.Name xextra pE,kp⟩] pC) env) Q NoE s:=by
 refine wpAny_Call_Name_kw (eval_Name (cD F h1) (cS F h1 g1 (by intro q;cases q) λvg rg=>?_))
 cases rg
 refine callWith_function_kw (o:=oL) (fd:=fdL) ?_
 have e0:backTo pC (starEach [.Name xidx pI] env)=[(false,eval (.Name xidx pI) env)]:=rfl
 rw[e0]
 show wpAny X.M A (evalArgs (.ref a) true [(false,eval (.Name xidx pI) env)] [(none,do let v ←eval (.Name xextra pE) env;standAt pC;pure v)]) _ _ _
 refine mU (k:=k) (v:=v3) ?_
 rw[←e0]
 refine wpAny_items_cons (eval_Name (cD F h0) (cS F h0 g0 (by intro q;cases q) λv1 r1=>wpAny_items_nil ?_)) rfl
 obtain⟨I1,x1⟩:=jT (o:=eS #[] 0) (tk:=s.toks) I
 have nn:s.heap.get? s.heap.objs.size=none:=get?_push_none
 refine wpAny_bind (eval_Name (cD F h2) (cS (F.ext x1) h2 g2 (by intro q;cases q) λvx rx=>wpAny_bind (wpAny_standAt (wpAny_pure ?_))))
 cases rx
 refine⟨D0,hh,t,1,rfl,Heap.get?_push_of_some _ hD,hsys,λq=>(by rw[q,nn]at hD;cases hD),Heap.get?_push_size _ rfl,λh' hd' hs=>?_⟩
 have keep:∀b o,s.heap.get? b=some o→h'.get? b=some o:=λb o e=>hs.extBut b o (Nat.ne_of_lt (Heap.lt_size e)) (Heap.get?_push_of_some _ e)
 exact⟨⟨keep _ _ hL,hd⟩,h v1 { s with heap:=h',toks:=s.toks } (Mine.Inv.heap (W:=NoW) I (λb o e _=>keep b o e) λ_ f=>f.elim) (Ext.heap λb o e _=>keep b o e) r1⟩
end
end Mine
namespace Mine
section
variable{X:Cx}{A:Around}{ft ftL ftI:FT}{env:Env}{s:Shared}{σ:Sg}{Γ Γ':List Slot}{d:D}{c':List Cell}{js:List (Option Nat)}
noncomputable def mm(kc:Nat)(P:Addr)(lpos:Pos)(q:Str)(js:List (Option Nat))(p r pl:PE):PE:=λΓ c=>(p Γ c).bind λ(d1,c1)=>match c1[kc]? with
 | some (.tab P' pos' q' _)=>if P'=P∧pos'=lpos∧q'=q++"<lambda>" then
   (r Γ (c1.set kc (.tab P lpos (q++"<lambda>") true))).bind λ(d3,c3)=>(pl (setFrom 0 [.val d1,.val d3] (bS js Γ)) c3).map λ(d,c4)=>(.tup [d,d],c4.take c3.length)else none
 | _=>none
theorem xD{n:Nat}{af a:Addr}{o:Obj}{fd:FuncData}{a1 a2 a3 b1 b2:Arg}{xarg:Str}{t ret:Expr}{orelse tl:List Stmt}{pA pG pI pE kp pC sp rp ip:Pos}{pt:PB}{v1 v3:Value}{d1 d3:D}{ce:List Cell}{q:Str}{params:Arguments}{lbody:Expr}{lscope:Scope}{cl:List (Str×Addr)}{pl pr:PE}
  (haf:1≤af) (ho:X.g0.get? af=some o) (hd:o.data=.func fd) (hcd:X.g0.CodeRec fd.code fd.qualname)
  (hb:fd.body=.stmts (.If t [.Assign [.Name xarg pA] (.Call (.Name a2.arg pG) [.Name a1.arg pI] [⟨none,.Name a3.arg pE,kp⟩] pC) sp,.Return (some ret) rp] orelse ip::tl))
  (hbk:jD fd a1.arg a2.arg a3.arg b2.arg)
  (hco:fd.scope.isCoroutine=false) (hgen:fd.scope.isGenerator=false) (hgl:fd.globals=mainGlobals) (hbl:fd.builtins=builtinsNs) (hclo:fd.closure=[]) (fitI:Fits ftI fd.scope) (hnt:ftI.nt=[(a1.arg,.l),(a2.arg,.l),(a3.arg,.l),(xarg,.l)]) (hcdf:ftI.cd=none)
  (ht:∀A env,Room A 13→SoundB X A ftI env t pt) (hpt:∀d1 w1 w2 c,pt [.val d1,.val (.obj (.ref w1)),.val (.obj (.ref w2)),.un] c=some (true,c)) (hret:∀A env,Room A 13→SoundE X A ftI env ret pr) (hpr:∀d1 w1 w2 d c,pr [.val d1,.val (.obj (.ref w1)),.val (.obj (.ref w2)),.val d] c=some (.tup [d,d],c))
  (hr:Room A 14) (I:X.Inv σ s) (F:Frm ft env Γ σ s.heap) (L:LamAt X q params lbody lscope cl σ.g s.heap a) (haO:a∉σ.own) (fitL:Fits ftL lscope) (hcap:Capt ft ftL.nt js) (hcl:∀x,(x,VK.f)∈ftL.nt→cl.lookup x=env.cells.lookup x)
  (hlp:params={ posonlyargs:=[],args:=[b1,b2],vararg:=none,kwonlyargs:=[],kw_defaults:=[],kwarg:=none,defaults:=[] }) (hb12:lJ params b1.arg b2.arg) (hlco:lscope.isCoroutine=false) (hlgen:lscope.isGenerator=false) (hlpar:jV ftL [b1.arg,b2.arg]=true) (hcdL:ftL.cd=none)
  (hlbody:∀A env',Room A 11→SoundE X A ftL env' lbody pl) (r1:Rel σ.g v1 d1) (r3:Rel σ.g v3 d3) (hrun:pl (setFrom 0 [.val d1,.val d3] (bS js Γ)) σ.sto=some (d,ce)) :
  wpAny X.M A (call (.ref af) [v1,.ref a] [(b2.arg,v3)]) (PostE X σ s (.tup [d,d]) (ce.take σ.sto.length)) NoE s:=by
 have top:=I.top
 have hD:(s.heap.objs.size==sysModules)=false:=by
  have hlt:=Heap.lt_size (I.sub _ _ (top.base _ _ ho))
  rw[beq_eq_false_iff_ne]
  intro q
  rw[q]at hlt
  exact absurd (Nat.lt_of_le_of_lt haf hlt) (Nat.lt_irrefl _)
 refine wpAny_call (codeAny_call_function (by have:=hr.depth;unfold recursionLimit;(first|lia|omega)) (I.sub _ _ (top.base _ _ ho)) hd hco hgen hb ((hcd.keeps top.base).keeps I.sub) ?_)
 rw[hgl,hbl,hclo]
 have hm:ftI.nt.length=4:=by rw[hnt];rfl
 have nn:s.heap.get? s.heap.objs.size=none:=get?_push_none
 refine lO hbk λh' hh tt hDict keep=>?_
 have I0:X.Inv σ { s with heap:=h',toks:=s.toks+1 }:=Mine.Inv.heap (W:=NoW) I (λa o e _=>keep a o e) λ_ f=>f.elim
 have x0:Ext NoW NoG σ s σ { s with heap:=h',toks:=s.toks+1 }:=Ext.heap λa o e _=>keep a o e
 refine up (gA (ft:=ftI) (Γ:=List.replicate 4 .un) (Γ':=[.val d1,.val (.obj (.ref a)),.val (.obj (.ref s.heap.objs.size)),.un]) I0 fitI (by simp[hm]) (λi x k _ _ sl e=>?_) (λi x e=>?_) rfl (λv hv=>by rw[hcdf]at hv;cases hv)
  (.cons (i:=0) (k:=.l) (by rw[hnt];rfl) (by intro q;cases q) (sl:=.val d1) r1 (.cons (i:=1) (k:=.l) (by rw[hnt];rfl) (by intro q;cases q) (sl:=.val (.obj (.ref a))) (.obj _) (.cons (i:=2) (k:=.l) (by rw[hnt];rfl) (by intro q;cases q) (sl:=.val (.obj (.ref s.heap.objs.size))) (.obj _) .nil))) λenv1 s1 he I1 x1 F1 w1 l1=>?_)
 ·rw[List.getElem?_replicate]at e
  (first|(refine iE e ?_ ?_<;>(clear e;intro _ e))|split at e)<;>cases e
  rfl
 ·have:=dc e
  rw[hnt]at this
  simp at this
 ·refine⟨(I1.top.nolim).keeps I1.sub,codeAny_func ?_⟩
  have hD1:s1.heap.get? s.heap.objs.size=some (eS #[⟨hh,.str b2.arg tt,v3⟩] 1):=x1.keep _ _ hDict (I.notIn nn).1 λf=>f
  have F01:=F.ext (x0.trans I0 x1)
  have L1:=L.ext (x0.trans I0 x1) haO
  refine wpAny_execs_cons (wpAny_If (up ((ht _ env1 hr.deeper).use I1 F1 (hpt _ _ _ _) λσ2 s2 q2 I2 x2 F2=>?_)))
  rw[if_pos rfl]
  have F02:=F01.ext x2
  have L2:=L1.ext x2 haO
  have haO2:a∉σ2.own:=by
   obtain⟨o1,_,_,e1,_⟩:=L1
   obtain⟨mo,hmo,hf⟩:=x2.own
   rw[hmo]
   intro hq
   rcases List.mem_append.mp hq with hq|hq
   ·exact haO hq
   ·rcases hf _ hq with h|h
    ·rw[h]at e1;cases e1
    ·exact h
  obtain⟨oL,cv,ct,hL1,hL2,hL3⟩:=id L2
  have hD2:s2.heap.get? s.heap.objs.size=some (eS #[⟨hh,.str b2.arg tt,v3⟩] 1):=x2.keep _ _ hD1 (I.notIn nn).1 λf=>f
  refine wpAny_execs_cons (wpAny_Assign_Name (up (wb I2 F2 (i0:=0) (i1:=1) (i2:=2) (k0:=.l) (k1:=.l) (k2:=.l) (by rw[hnt];rfl) (by rw[hnt];rfl) (by rw[hnt];rfl) rfl rfl rfl hD2 hD hL1 hL2 λv1' s3 I3 x3 r1'=>?_)) rfl)
  have x13:=(x1.trans I1 x2).trans I2 x3
  refine wpAny_mono (xN (d:=d) (ce:=ce) (hr.deeper.le (by(first|lia|omega))) I3 (F02.ext x3) (L2.ext x3 haO2) fitL hcap hcl hlp hb12 hlco hlgen hlpar hcdL hlbody r1' (Rel.mono x13.le r3) (by rw[q2];exact hrun)) (λv4 s4 h4=>?_) λ_ _ f=>f
  obtain⟨σ4,q4,I4,x4,r4⟩:=h4
  have F4:=(F2.ext x3).ext x4
  refine cT I4 F4 (i:=3) (k:=.l) (by rw[hnt];rfl) (by intro q;cases q) (sl:=.val d) r4 λs5 I5 x5 F5=>?_
  refine wpAny_execs_cons (wpAny_Return_some (up ((hret _ env1 hr.deeper).use I5 F5 (hpr _ _ _ _ _) λv6 σ6 s6 q6 I6 x6 F6 r6=>?_)))
  have xx1:Ext (FW ftI env1) NoG σ s1 σ6 s6:=((((x2.trans I2 x3).trans I3 x4).up).trans I4 x5).trans I5 x6.up
  have xx2:Ext NoW NoG σ { s with heap:=h',toks:=s.toks+1 } σ6 s6:=(x1.up.trans I1 xx1).drop w1 λ_ f=>f.elim
  have xx:=x0.trans I0 xx2
  exact⟨_,by show σ6.sto.take σ.sto.length=_;rw[q6,q4],I6.cut σ.sto.length,xx.cut I,r6⟩
end
end Mine
namespace Mine
section
variable{X:Cx}{A:Around}{ft ftL ftI:FT}{env:Env}{s:Shared}{σ:Sg}{Γ Γ':List Slot}{d:D}{c':List Cell}{js:List (Option Nat)}
theorem yY{f:Str}{np pos kwp lpos:Pos}{e1 e3:Expr}{p r:PE}{kc:Nat}{P c:Addr}{af:Addr}{o:Obj}{fd:FuncData}{a1 a2 a3 b1 b2:Arg}{xarg:Str}{t ret:Expr}{orelse tl:List Stmt}{pA pG pI pE kp pC sp rp ip:Pos}{pt:PB}{q:Str}{params:Arguments}{lbody:Expr}{lscope:Scope}{pl pr:PE}
  (hx:f∈ft.gt) (hv:X.mg f=some (.ref af)) (haf:1≤af) (ho:X.g0.get? af=some o) (hd:o.data=.func fd) (hcd:X.g0.CodeRec fd.code fd.qualname)
  (hb:fd.body=.stmts (.If t [.Assign [.Name xarg pA] (.Call (.Name a2.arg pG) [.Name a1.arg pI] [⟨none,.Name a3.arg pE,kp⟩] pC) sp,.Return (some ret) rp] orelse ip::tl))
  (hbk:jD fd a1.arg a2.arg a3.arg b2.arg)
  (hco:fd.scope.isCoroutine=false) (hgen:fd.scope.isGenerator=false) (hgl:fd.globals=mainGlobals) (hbl:fd.builtins=builtinsNs) (hclo:fd.closure=[]) (fitI:Fits ftI fd.scope) (hnt:ftI.nt=[(a1.arg,.l),(a2.arg,.l),(a3.arg,.l),(xarg,.l)]) (hcdf:ftI.cd=none)
  (ht:∀A env,Room A 13→SoundB X A ftI env t pt) (hpt:∀d1 w1 w2 c,pt [.val d1,.val (.obj (.ref w1)),.val (.obj (.ref w2)),.un] c=some (true,c)) (hret:∀A env,Room A 13→SoundE X A ftI env ret pr) (hpr:∀d1 w1 w2 d c,pr [.val d1,.val (.obj (.ref w1)),.val (.obj (.ref w2)),.val d] c=some (.tup [d,d],c))
  (hr:Room A 14) (hftc:ft.cd=some (.ref c,q)) (hC:CodeHd X.g0 c P) (hB:X.g0.BuiltinsAt X.mg P) (hgP:mainGlobals≠P) (hdef:∀env,defaultsOf params env=([],[])) (fitL:Fits ftL lscope) (hcap:Capt ft ftL.nt js)
  (hlp:params={ posonlyargs:=[],args:=[b1,b2],vararg:=none,kwonlyargs:=[],kw_defaults:=[],kwarg:=none,defaults:=[] }) (hb12:lJ params b1.arg b2.arg) (hlco:lscope.isCoroutine=false) (hlgen:lscope.isGenerator=false) (hlpar:jV ftL [b1.arg,b2.arg]=true) (hcdL:ftL.cd=none)
  (hlbody:∀A env',Room A 11→SoundE X A ftL env' lbody pl) (h1:SoundE X A ft env e1 p) (h3:SoundE X A ft env e3 r)
  (he1:autoParam (∀env,starEach [e1,.Lambda params lbody lscope lpos] env=(false,eval e1 env)::starEach [.Lambda params lbody lscope lpos] env) aR) :
  SoundE X A ft env (.Call (.Name f np) [e1,.Lambda params lbody lscope lpos] [⟨some b2.arg,e3,kwp⟩] pos) (mm kc P lpos q js p r pl):=λΓ σ s d c' I FF h=>by
 (refine bE2 h ?_;(try clear h);intro d1 c1 g1 h)
 dsimp only at h
 (first|(refine iE h ?_ ?_<;>(clear h;intro _ h))|split at h)
 ·rename_i P' pos' q' b ec
  (first|(refine iE h ?_ ?_<;>(clear h;intro _ h))|split at h)
  ·rename_i hc
   obtain⟨rfl,rfl,rfl⟩:=hc
   (refine bE2 h ?_;(try clear h);intro d3 c3 g3 h)
   (refine mE2 h ?_;(try clear h);intro dr c4 g4 h)
   cases h
   refine wpAny_Call_Name_kw (eval_Name (FF.ok.odd f (List.mem_append_right _ hx)).1 (dz I FF hx hv ?_))
   refine callWith_function_kw (o:=o) (fd:=fd) ?_
   have e0:backTo pos (starEach [e1,.Lambda params lbody lscope pos'] env)=(false,eval e1 env)::(backTo pos (starEach [e1,.Lambda params lbody lscope pos'] env)).tail:=by rw[he1 env];rfl
   rw[e0]
   refine evalArgs_kw rfl ?_
   rw[←e0]
   refine wpAny_items_cons (h1.use I FF g1 λv1 σ1 s1 q1 I1 x1 F1 r1=>?_) (he1 env)
   subst q1
   have hfr:∀x,(x,NameKind.free)∈lscope.names→∃c,env.cells.lookup x=some c:=λx hx=>by
    obtain⟨i,hi⟩:=List.mem_iff_getElem?.mp (fitL.frees x hx)
    obtain⟨j,k,_,h2,h3⟩:=hcap.free hi
    obtain⟨c,hc,_⟩:=F1.cel j x k h2 h3
    exact⟨c,hc⟩
   obtain⟨cl,hclos,hcl⟩:=lT hfr
   have hcl':∀x,(x,VK.f)∈ftL.nt→cl.lookup x=env.cells.lookup x:=λx hx=>hcl x (mem_of_lookup (fitL.f x hx).1)
   refine wpAny_items_cons (xO I1 F1 hftc hC hB hgP ec hclos (hdef env) λa σ2 s2 q2 I2 x2 L2 haO=>wpAny_items_nil ?_) rfl
   have F2:=F1.ext x2
   show wpAny X.M A (evalAll [do let v ←eval e3 env;standAt pos;pure v]) _ _ _
   unfold evalAll
   refine wpAny_bind (wpAny_bind (h3.use I2 F2 (by rw[q2];exact g3) λv3 σ3 s3 q3 I3 x3 F3 r3=>wpAny_bind (wpAny_standAt (wpAny_pure ?_))))
   subst q3
   refine wpAny_bind (wpAny_holding (show wpAny X.M A (evalAll []) _ _ _ from wpAny_pure (wpAny_pure ?_)))
   have haO3:a∉σ3.own:=by
    obtain⟨o1,_,_,e1,_⟩:=L2
    obtain⟨mo,hmo,hf⟩:=x3.own
    rw[hmo]
    intro hq
    rcases List.mem_append.mp hq with hq|hq
    ·exact haO hq
    ·rcases hf _ hq with h|h
     ·rw[h]at e1;cases e1
     ·exact h
   exact⟨⟨I3.sub _ _ (I3.top.base _ _ ho),hd⟩,wpAny_mono (xD (n:=0) haf ho hd hcd hb hbk hco hgen hgl hbl hclo fitI hnt hcdf ht hpt hret hpr hr I3 F3 (L2.ext x3 haO) haO3 fitL hcap hcl' hlp hb12 hlco hlgen hlpar hcdL hlbody (Rel.mono (x2.le.trans x3.le) r1) r3 g4)
    (λ_ _ k=>PostE.trans I3 ((x1.trans I1 x2).trans I2 x3) k) λ_ _ f=>f⟩
  ·cases h
 ·cases h
end
end Mine
end
section
open PySem PySem.Calls PySem.Spec PyProof.Rows PySem.W
set_option maxRecDepth 20000
namespace Mine
noncomputable def bk:Nat→List Stmt→Stmt
 | _,[]=>.Pass ⟨0,0,0,0⟩
 | 0,s::_=>s
 | n+1,_::r=>bk n r
noncomputable def zJ:Stmt→List Stmt
 | .FunctionDef _ _ b _ _ _ _ _ _ _=>b
 | _=>[]
noncomputable def wO:Stmt→Scope
 | .FunctionDef _ _ _ _ _ _ s _ _ _=>s
 | _=>default
noncomputable def zI:Stmt→Arguments
 | .FunctionDef _ a _ _ _ _ _ _ _ _=>a
 | _=>default
noncomputable def B2(k:Nat):Stmt:=bk k PySem.Challenge.pw_tc0018_01.main.body
noncomputable def fnB(k:Nat):List Stmt:=zJ (B2 k)
noncomputable def ro(k:Nat):Scope:=wO (B2 k)
noncomputable def fO(k:Nat):Arguments:=zI (B2 k)
structure FnAt (X:Cx) (k:Nat) (x:Str) (a:Addr) (o:Obj) (fd:FuncData):Prop where
 nm:X.mg x=some (.ref a)
 pos:1≤a
 ho:X.g0.get? a=some o
 hd:o.data=.func fd
 hcd:X.g0.CodeRec fd.code fd.qualname
 hb:fd.body=.stmts (fnB k)
 hp:fd.params=fO k
 sc:fd.scope=ro k
 gl:fd.globals=mainGlobals
 bl:fd.builtins=builtinsNs
 df:fd.defaults=.none
 kd:fd.kwdefaults=.none
 clo:fd.closure=[]
section
variable{X:Cx}{n m:Nat}{f:Value}{F:PF}
theorem FnOk.le(h:FnOk X n f F)(k:n≤m):FnOk X m f F:=λA hr=>h A (hr.le k)
noncomputable def jC:List Slot→Option (List D)
 | []=>some []
 | .val d::r=>(jC r).map (d::·)
 | _=>none
noncomputable def eg(G:List D→Option D):PF:=λsls c=>(jC sls).bind λds=>(G ds).map λd=>(d,c)
noncomputable def dp(F:PF):List D→Option D:=λds=>(F (ds.map .val) []).map (·.1)
theorem nW:∀{sls:List Slot} {ds:List D},jC sls=some ds→sls=ds.map .val
 | [],ds,h=>by cases h;rfl
 | .val d::r,ds,h=>by
  simp only[jC]at h
  cases e:jC r with
  | none=>rw[e]at h;cases h
  | some es=>rw[e]at h;cases h;rw[nW e];rfl
 | .un::r,ds,h=>by cases h
 | .ref k::r,ds,h=>by cases h
theorem RelSs.vals{σ τ:Sg}(hg:σ.g=τ.g):∀{vs:List Value} {ds:List D},RelSs σ vs (ds.map .val)→RelSs τ vs (ds.map .val)
 | [],[],.nil=>.nil
 | _::_,_::_,.cons r rs=>.cons (by unfold RelS at r ⊢;rw[←hg];exact r) (RelSs.vals hg rs)
theorem FnOk.fresh(h:FnOk X n f F):FnOk X n f (eg (dp F)):=by
 intro A hr σ s vs sls d c' I r e
 unfold eg at e
 (refine bE e ?_;(try clear e);intro ds e1 e)
 (refine mE e ?_;(try clear e);intro d' e2 e)
 cases e
 unfold dp at e2
 (refine mE2 e2 ?_;(try clear e2);intro d' c0 e3 e4)
 cases e4
 have hs:=nW e1
 subst hs
 let σ0:Sg:=⟨σ.g,[],[]⟩
 have I0:X.Inv σ0 s:=⟨I.sub,rfl,List.nodup_nil,λk a c e=>(by simp[σ0]at e),λk a c e=>(by simp[σ0]at e),I.top,I.bare,I.tk⟩
 refine wpAny_mono (h A hr σ0 s vs _ _ _ I0 (RelSs.vals (σ:=σ) (τ:=σ0) rfl r) e3) (λv s' qz1=>?_) λ_ _ f=>f
 obtain⟨σ',_,I',x,rr⟩:=qz1
 have old:∀a∈σ.own,∃o,s.heap.get? a=some o:=λa ha=>I.mem ha
 have gnone:∀a∈σ.own,σ.g.get? a=none→σ'.g.get? a=none:=by
  intro a ha hn
  cases q:σ'.g.get? a with
  | none=>rfl
  | some o=>
   obtain⟨o',e'⟩:=old a ha
   rcases x.fresh a o q hn with h|h|h
   ·rw[h]at e';cases e'
   ·cases h
   ·exact h.elim
 refine⟨⟨σ'.g,σ.own,σ.sto⟩,rfl,⟨I'.sub,I.len,I.nodup,λk a c e1 e2=>?_,λk a c e1 e2 e3=>?_,I'.top,I'.bare,I'.tk⟩,⟨x.le,⟨[],by simp,by simp⟩,λa o q hn=>?_,λa o q _ _=>x.keep a o q (by simp[σ0]) (λh=>h),x.gens,x.os⟩,rr⟩
 ·refine(I.cells k a c e1 e2).mono x.le λ_=>?_
  obtain⟨o,ho⟩:=old a (List.mem_of_getElem? e1)
  rw[ho];exact x.keep a o ho (by simp[σ0]) (λh=>h)
 ·exact gnone a (List.mem_of_getElem? e1) (I.off k a c e1 e2 e3)
 ·rcases x.fresh a o q hn with h|h|h
  ·exact .inl h
  ·cases h
  ·exact h.elim
end
section
variable{X:Cx}{A:Around}{ft:FT}{env:Env}
theorem br{x y:Str}{k:Nat}{pos:Pos}(h:x=y):SoundE X A ft env (.Constant (.str x) k pos) (a8 y):=h▸EL
theorem ae{α:Type}{l:List α}{i:Nat}{x:α}(h:l[i]?=some x):x∈l:=List.mem_of_getElem? h
end
end Mine
namespace Mine
noncomputable def c9(i:Int):Option Str:=lC.lookup i
noncomputable def bP(x:Str):Option Int:=pg.lookup x
noncomputable def fy:List (Nat×Str):=[(2,"pretty_flags"),(5,"_get_name_info"),(6,"_parse_varint"),(8,"_iter_escaped_chars"),(9,"_strip_quoted_realnames"),(10,"_check_parenthesis"),(63,"ISTERMINAL"),(64,"ISNONTERMINAL"),(65,"ISEOF"),(67,"_law_letters"),(68,"_law_signs"),(69,"_law_octets"),(70,"_law_taped"),(71,"_law_tree"),(72,"_law_edges"),(73,"_law_trees"),(74,"_law_active"),(75,"law")]
noncomputable def gK:List (Str×Value):=[("enumerate",.type "enumerate"),("range",.type "range"),("zip",.type "zip"),("list",.type "list"),("set",.type "set"),("bool",.type "bool"),("len",.builtin "len"),("sum",.builtin "sum"),("max",.builtin "max"),("sorted",.builtin "sorted"),("hex",.builtin "hex"),("iter",.builtin "iter"),("next",.builtin "next"),("isinstance",.builtin "isinstance")]
structure TopF (X:Cx) (fa:Nat→Addr) (u:Addr):Prop where
 top:TopOk ⟨X.mg,X.mb,X.g0⟩ X.g0
 fn:∀k x,(k,x)∈fy→∃o fd,FnAt X k x (fa k) o fd
 free:∀x v,(x,v)∈gK→X.mg x=none
 blt:∀x v,(x,v)∈gK→X.mb x=some v
 flags:∃dct f,X.mg "COMPILER_FLAG_NAMES" = some (.ref dct)∧X.g0.MapOf (intKind X.prog X.w) dct f∧(dct==sysModules)=false∧∀i,match c9 i with|some x=>∃t,f i=some (.str x t)|none=>f i=none
 toks:∃dct f,X.mg "EXACT_TOKEN_TYPES" = some (.ref dct)∧X.g0.MapOf (PySem.strKind X.prog X.w) dct f∧(dct==sysModules)=false∧∀i,match bP i with|some x=>∃t,f i=some (.int x t)|none=>f i=none
 endm:∃t,X.mg "ENDMARKER" = some (.int 0 t)
 ntoff:∃t,X.mg "NT_OFFSET" = some (.int 256 t)
 unk:X.mg "UNKNOWN" = some (.ref u)
end Mine
end
section
open PySem PySem.Calls PySem.Spec PyProof PyProof.Rows PySem.W
set_option maxRecDepth 20000
namespace Mine
noncomputable def Binds(k:Nat)(params:List Str):Prop:=∀fd:FuncData,fd.params=fO k→fd.defaults=.none→fd.kwdefaults=.none→∀vs:List Value,vs.length=params.length→bindArgs fd ⟨vs,[]⟩=pure (params.zip vs)
theorem fq{k:Nat}{x:Str}(e:∀(fd:FuncData) v,bindArgs { fd with params:=fO k,defaults:=.none,kwdefaults:=.none } ⟨[v],[]⟩=pure [(x,v)]):Binds k [x]:=λfd hp h1 h2 vs h=>by
 obtain⟨v,t,e1,h⟩:=ma h
 rw[jP hp h1 h2,e1,List.eq_nil_of_length_eq_zero h];exact e fd v
theorem wx{k:Nat}{x y:Str}(e:∀(fd:FuncData) v w,bindArgs { fd with params:=fO k,defaults:=.none,kwdefaults:=.none } ⟨[v,w],[]⟩=pure [(x,v),(y,w)]):Binds k [x,y]:=λfd hp h1 h2 vs h=>by
 obtain⟨v,t,e1,h⟩:=ma h
 obtain⟨w,t',e2,h⟩:=ma h
 rw[jP hp h1 h2,e1,e2,List.eq_nil_of_length_eq_zero h];exact e fd v w
theorem wy{k:Nat}{x y z:Str}(e:∀(fd:FuncData) v w u,bindArgs { fd with params:=fO k,defaults:=.none,kwdefaults:=.none } ⟨[v,w,u],[]⟩=pure [(x,v),(y,w),(z,u)]):Binds k [x,y,z]:=λfd hp h1 h2 vs h=>by
 obtain⟨v,t,e1,h⟩:=ma h
 obtain⟨w,t',e2,h⟩:=ma h
 obtain⟨u,t'',e3,h⟩:=ma h
 rw[jP hp h1 h2,e1,e2,e3,List.eq_nil_of_length_eq_zero h];exact e fd v w u
theorem qV{k:Nat}{x y z a:Str}(e:∀(fd:FuncData) v w u r,bindArgs { fd with params:=fO k,defaults:=.none,kwdefaults:=.none } ⟨[v,w,u,r],[]⟩=pure [(x,v),(y,w),(z,u),(a,r)]):Binds k [x,y,z,a]:=λfd hp h1 h2 vs h=>by
 obtain⟨v,w,u,r,rfl⟩:=four h
 rw[jP hp h1 h2];exact e fd v w u r
theorem DQ:Binds 2 ["flags"]:=fq λ_ _=>rfl
theorem CW:Binds 71 ["texts","signs","nodes","asked"]:=qV λ_ _ _ _ _=>rfl
section
variable{X:Cx}{A:Around}{ft ft':FT}{env:Env}{fa:Nat→Addr}{u:Addr}{p:PE}
theorem kFn{k n m np:Nat}{x:Str}{params:List Str}{q:PS}(T:TopF X fa u)(hk:(k,x)∈fy)(hco:(ro k).isCoroutine=false)(hgen:(ro k).isGenerator=false)(fit:Fits ft (ro k))(hnf:(ft.nt.all λp=>decide (p.2≠VK.f))=true)
  (hm:ft.nt.length=m) (hnp:params.length=np) (hpar:jV ft params=true) (hb:Binds k params) (hcd:ft.cd=none) (hbody:∀A env,Room A n→bj X A ft env (fnB k) q):FnOk X (n+1) (.ref (fa k)) (cC m np q):=by
 obtain⟨o,fd,F⟩:=T.fn k x hk
 refine Bs F.ho F.hd F.hcd F.hb (by rw[F.sc];exact hco) (by rw[F.sc];exact hgen) F.gl F.bl (by rw[F.sc];exact fit) (λy hy=>?_) hm hnp hpar (λvs h=>hb fd F.hp F.df F.kd vs (h.trans hnp.symm)) hbody (λv h=>by rw[hcd]at h;cases h)
 have:=List.all_eq_true.mp hnf _ hy
 simp at this
theorem cw{k n m:Nat}{x:Str}{np pos:Pos}{e:Expr}{rest:List Expr}{F:PF}{pa:PA}(T:TopF X fa u)(hx:x∈ft.gt)(hk:(k,x)∈fy)(hA:gI X A ft env pos (e::rest) pa)(hF:FnOk X n (.ref (fa k)) F)(hr:Room A m)(hn:n≤m)
  (he:autoParam (∀env,starEach (e::rest) env=(false,eval e env)::starEach rest env) aR):SoundE X A ft env (.Call (.Name x np) (e::rest) [] pos) (aJ F pa):=by
 obtain⟨o,fd,K⟩:=T.fn k x hk
 exact CA hx K.nm K.ho K.hd hA hF (hr.le hn) he
theorem Ce{np pos:Pos}{e:Expr}(T:TopF X fa u)(hx:("EXACT_TOKEN_TYPES" : Str)∈ft.gt)(h1:SoundE X A ft env e p)(hs:autoParam (∀o i,subscripted e false o i=operate [o,i] (getItem o i)) aR) :
  SoundE X A ft env (.Subscript (.Name "EXACT_TOKEN_TYPES" np) e pos) (mn bP p):=by
 obtain⟨d,f,h,hm,_,hT⟩:=T.toks
 exact EM hx h hm hT h1 hs
theorem Ca{np pos:Pos}{e:Expr}(T:TopF X fa u)(hx:("EXACT_TOKEN_TYPES" : Str)∈ft.gt)(h1:SoundE X A ft env e p)(hm2:autoParam (behindInMarks .In (.Name "EXACT_TOKEN_TYPES" np)=false) aC) :
  SoundB X A ft env (.Compare e [.In] [.Name "EXACT_TOKEN_TYPES" np] pos) (kx bP p):=by
 obtain⟨d,f,h,hm,hd,hT⟩:=T.toks
 exact CD hx h hm hd hT h1 hm2
theorem Ez{np apos pos:Pos}{e1 e2:Expr}{q:PE}(T:TopF X fa u)(hx:("COMPILER_FLAG_NAMES" : Str)∈ft.gt)(h1:SoundE X A ft env e1 p)(h2:SoundE X A ft env e2 q)
  (hbase:autoParam (∀env,attributeBase (.Name "COMPILER_FLAG_NAMES" np) "get" env (eval (.Name "COMPILER_FLAG_NAMES" np) env)=eval (.Name "COMPILER_FLAG_NAMES" np) env) aR)
  (hfew:autoParam (∀env,((backTo pos (starEach [e1,e2] env)).all (λx=>!x.1) && (backToKw pos (keywordEach [] env)).all (λx=>x.1.isSome)
   && decide (([e1,e2]:List Expr).length+([]:List Keyword).length+(if ([]:List Keyword).isEmpty then 0 else 1)<30))=true) aR)
  (hline:autoParam ((apos.endLine==pos.line)=true) aR) (htrees:autoParam (∀env,backTo pos (starEach [e1,e2] env)=[(false,eval e1 env),(false,do standAt pos;eval e2 env)]∨backTo pos (starEach [e1,e2] env)=[(false,eval e1 env),(false,eval e2 env)]) aC) :
  SoundE X A ft env (.Call (.Attribute (.Name "COMPILER_FLAG_NAMES" np) "get" apos) [e1,e2] [] pos) (qm c9 p q):=by
 obtain⟨d,f,h,hm,hd,hT⟩:=T.flags
 exact EI hx h hm hd hT h1 h2 hbase hfew hline htrees
theorem Ey{pos:Pos}(T:TopF X fa u)(hx:("ENDMARKER" : Str)∈ft.gt):SoundE X A ft env (.Name "ENDMARKER" pos) (ah 0):=by
 obtain⟨t,h⟩:=T.endm
 exact qB hx h
theorem kNt{pos:Pos}(T:TopF X fa u)(hx:("NT_OFFSET" : Str)∈ft.gt):SoundE X A ft env (.Name "NT_OFFSET" pos) (ah 256):=by
 obtain⟨t,h⟩:=T.ntoff
 exact qB hx h
theorem Di{pos:Pos}(T:TopF X fa u)(hx:("UNKNOWN" : Str)∈ft.gt):SoundE X A ft env (.Name "UNKNOWN" pos) (mX (.ref u)):=DI hx T.unk
theorem kB{id:String}{x:Str}{np pos:Pos}{e:Expr}{rest:List Expr}{F:List D→Option D}{ps:PL}(T:TopF X fa u)(hx:x∈ft.gt)(hb:(x,Value.builtin id)∈gK)(hL:SoundL X A ft env pos (e::rest) ps)(hC:COk X A (.builtin id) F)
  (he:autoParam (∀env,starEach (e::rest) env=(false,eval e env)::starEach rest env) aR) (hp:autoParam (∀env,(backTo pos (starEach rest env)).any (·.1)=false) aR):SoundE X A ft env (.Call (.Name x np) (e::rest) [] pos) (bp F ps):=
 Cz hx (T.free _ _ hb) (T.blt _ _ hb) hL hC he hp
theorem kI{t:String}{x:Str}{np pos:Pos}{e tgt:Expr}{rest:List Expr}{F:List D→Option (List D)}{ps:PL}(T:TopF X fa u)(hx:x∈ft.gt)(hb:(x,Value.type t)∈gK)(hL:SoundL X A ft env pos (e::rest) ps)(hC:IOk X A tgt (.type t) F)
  (he:autoParam (∀env,starEach (e::rest) env=(false,eval e env)::starEach rest env) aR) (hp:autoParam (∀env,(backTo pos (starEach rest env)).any (·.1)=false) aR):et X A ft env tgt (.Call (.Name x np) (e::rest) [] pos) (bw F ps):=
 CB hx (T.free _ _ hb) (T.blt _ _ hb) hL hC he hp
theorem kTy{pos:Pos}{x:Str}{v:Value}(T:TopF X fa u)(hx:x∈ft.gt)(hb:(x,v)∈gK):SoundE X A ft env (.Name x pos) (mX v):=EE hx (T.free _ _ hb) (T.blt _ _ hb)
theorem z6{i:Nat}{x:Str}{k:VK}{np px pos:Pos}(T:TopF X fa u)(hi:ft.nt[i]?=some (x,k))(hx:("len" : Str)∈ft.gt):SoundE X A ft env (.Call (.Name "len" np) [.Name x px] [] pos) (gZ i):=
 AO hi hx (T.free _ _ (ae (i:=6) rfl)) (T.blt _ _ (ae (i:=6) rfl))
theorem Bv{i:Nat}{x:Str}{k:VK}{np px pos:Pos}(T:TopF X fa u)(hi:ft.nt[i]?=some (x,k))(hx:("next" : Str)∈ft.gt):SoundE X A ft env (.Call (.Name "next" np) [.Name x px] [] pos) (kU i):=
 DJ hi hx (T.free _ _ (ae (i:=12) rfl)) (T.blt _ _ (ae (i:=12) rfl))
theorem z8{i:Nat}{x:Str}{k:VK}{np px pos:Pos}(T:TopF X fa u)(hr:Room A 8)(hi:ft.nt[i]?=some (x,k))(hx:("list" : Str)∈ft.gt):SoundE X A ft env (.Call (.Name "list" np) [.Name x px] [] pos) (i5 i):=
 AQ hr hi hx (T.free _ _ (ae (i:=3) rfl)) (T.blt _ _ (ae (i:=3) rfl))
theorem xM{i:Nat}{x:Str}{k:VK}{e:Expr}{np px pos spos:Pos}(T:TopF X fa u)(hi:ft.nt[i]?=some (x,k))(hk:k≠.f)(hx:("iter" : Str)∈ft.gt)(h1:SoundE X A ft env e p)
  (he:autoParam (∀env,starEach [e] env=(false,eval e env)::starEach [] env) aR):aN X A ft env (.Assign [.Name x px] (.Call (.Name "iter" np) [e] [] pos) spos) (iF i p):=
 y5 hi hk hx (T.free _ _ (ae (i:=11) rfl)) (T.blt _ _ (ae (i:=11) rfl)) h1 he
theorem rH{np np2 p2 pos:Pos}{e:Expr}(T:TopF X fa u)(hr:Room A 8)(hx:("list" : Str)∈ft.gt)(hx2:("range" : Str)∈ft.gt)(h1:SoundE X A ft env e p)
  (he:autoParam (∀env,starEach [e] env=(false,eval e env)::starEach [] env) aR) :
  SoundE X A ft env (.Call (.Name "list" np) [.Call (.Name "range" np2) [e] [] p2] [] pos) (ew p):=
 r8 hr hx (T.free _ _ (ae (i:=3) rfl)) (T.blt _ _ (ae (i:=3) rfl)) hx2 (T.free _ _ (ae (i:=1) rfl)) (T.blt _ _ (ae (i:=1) rfl)) h1 he
theorem z7{np np2 p2 pos:Pos}{e:Expr}(T:TopF X fa u)(hr:Room A 8)(hx:("len" : Str)∈ft.gt)(hx2:("set" : Str)∈ft.gt)(h1:SoundE X A ft env e p)
  (he:autoParam (∀env,starEach [e] env=(false,eval e env)::starEach [] env) aR) :
  SoundE X A ft env (.Call (.Name "len" np) [.Call (.Name "set" np2) [e] [] p2] [] pos) (i4 p):=
 AP hr hx (T.free _ _ (ae (i:=6) rfl)) (T.blt _ _ (ae (i:=6) rfl)) hx2 (T.free _ _ (ae (i:=4) rfl)) (T.blt _ _ (ae (i:=4) rfl)) h1 he
end
end Mine
namespace Mine
section
variable{X:Cx}{A:Around}{ft ft':FT}{env:Env}{fa:Nat→Addr}{u:Addr}{p:PE}{tgt:Expr}
noncomputable def oX(p q:PB):PB:=λΓ c=>(p Γ c).bind λ(b,c1)=>if b then some (true,c1)else q Γ c1
theorem EK{l r:Expr}{pos:Pos}{p q:PB}(h1:SoundB X A ft env l p)(h2:SoundB X A ft env r q):SoundB X A ft env (.BoolOp .Or [l,r] pos) (oX p q):=λΓ σ s d c' I F h=>by
 (refine bE2 h ?_;(try clear h);intro b c1 e1 h)
 refine wpAny_isTrue_BoolOp (wpAny_allTrue_Or_cons (h1.use I F e1 λσ1 s1 q1 I1 x1 F1=>?_))
 subst q1
 cases b with
 | true=>cases h;exact⟨rfl,σ1,rfl,I1,x1⟩
 | false=>
  refine wpAny_allTrue_Or_cons (h2.use I1 F1 h λσ2 s2 q2 I2 x2 F2=>?_)
  subst q2
  cases d with
  | true=>exact⟨rfl,σ2,rfl,I2,x1.trans I1 x2⟩
  | false=>exact wpAny_allTrue_Or_nil ⟨rfl,σ2,rfl,I2,x1.trans I1 x2⟩
theorem vD(hh:A.handled=none)(it:Addr)(x:Str)(t:Tok):IterAt X A tgt (.ref it) (λa=>a=it) NoG
  (λ_ ds s=>∃i:Nat,s.heap.IsStrIter it "str_ascii_iterator" x t i∧ds=(x.cps.toList.drop i).map λc=>D.str ⟨#[c]⟩) where
 self:=λ⟨i,hit,_⟩ _ k=>wpAny_pyIter_striter_ascii hit k
 step:=λ{σ s d ds} I qz1 hW=>by
  obtain⟨i,hit,e⟩:=qz1
  have hi:i<x.cps.toList.length:=by
   apply Nat.lt_of_not_le
   intro h
   rw[List.drop_eq_nil_of_le h]at e;cases e
  rw[List.drop_eq_getElem_cons hi,List.map_cons]at e
  obtain⟨rfl,rfl⟩:=List.cons.inj e
  have hi':i<x.cps.size:=by simpa using hi
  refine wpAny_pyNext_ascii_item hit (c:=x.cps[i]) (by simp[hi']) λh' hit' hs=>⟨_,rfl,iw (λr a e _=>?_) ⟨σ.g,?_,Ext.heap λa o e hw=>(hs.2 a hw).trans e,λa ha=>(hW a ha).1,?_,i+1,hit',rfl⟩⟩
  ·cases e
   obtain⟨o,ho,hc,_⟩:=hit'
   exact⟨o,ho,λn e=>by rw[hc]at e;cases e;decide⟩
  ·exact Mine.Inv.heap (W:=λa=>a=it) I (λa o e hw=>(hs.2 a hw).trans e) λa e=>⟨(hW a e).2,(hW a e).1⟩
  ·simp only[Array.getElem_toList];exact .str _ _
 stop:=λ{σ s} I qz1 hW=>by
  obtain⟨i,hit,e⟩:=qz1
  have hn:x.cps[i]?=none:=by
   have:=congrArg List.length e
   simp at this
   exact Array.getElem?_eq_none (by(first|lia|omega))
  exact wpAny_pyNext_ascii_end hh hit hn λh' hs=>⟨rfl,Mine.Inv.heap (W:=λa=>a=it) (tk:=s.toks) I (λa o e hw=>hs a o hw e) λa e=>⟨(hW a e).2,(hW a e).1⟩,Ext.heap (tk:=s.toks) λa o e hw=>hs a o hw e⟩
 frame:=λqz1 _ _ _ hk _=>by
  obtain⟨i,hit,e⟩:=qz1
  obtain⟨o,ho,r⟩:=hit
  exact⟨i,⟨o,hk _ _ rfl ho,r⟩,e⟩
 there:=λ⟨i,⟨o,ho,_⟩,e⟩ a ea=>⟨o,ea▸ho⟩
noncomputable def nL(p:PE):PL:=λΓ c=>(p Γ c).bind λ(a,c1)=>match a with
 | .str x=>if x.cps.all (·<128)=true then some (x.cps.toList.map λc=>D.str ⟨#[c]⟩,c1)else none
 | _=>none
theorem DL{e:Expr}{p:PE}(hr:Room A 8)(h1:SoundE X A ft env e p):et X A ft env tgt e (nL p):=λΓ σ s ds c' I F h=>by
 (refine bE2 h ?_;(try clear h);intro a c1 e1 h)
 refine h1.use I F e1 λv σ1 s1 q1 I1 x1 F1 r1=>?_
 subst q1
 have nn:s1.heap.get? s1.heap.objs.size=none:=get?_push_none
 dsimp only at h
 (first|(refine iE h ?_ ?_<;>(clear h;intro _ h))|split at h)
 ·rename_i x
  (first|(refine iE h ?_ ?_<;>(clear h;intro _ h))|split at h)
  ·rename_i ha
   cases h
   cases r1 with
   | str _ t=>
    obtain⟨I2,x2⟩:=jT (o:={ cls:=.type "str_ascii_iterator",data:=.fields #[.str x t,.int 0 0] }) (tk:=s1.toks) I1
    refine wpAny_pyIter_ascii ha (PostI.of ⟨σ1,_,_,_,rfl,I2,x1.trans I1 x2,vD hr.hand s1.heap.objs.size x t,⟨0,⟨_,Heap.get?_push_size _ rfl,rfl,rfl⟩,by rw[List.drop_zero]⟩,?_,λ_ h=>h.elim⟩)
    rintro a rfl
    refine⟨?_,(I1.notIn nn).2,(I1.notIn nn).1⟩
    rcases Ext.back I1 x1 nn with h|h
    ·exact h
    ·exact h.elim
  ·cases h
 ·cases h
noncomputable abbrev sO:FT:=⟨[("addr",.l),("pos",.l),("escape",.l),("ch",.l)],["enumerate"],none⟩
theorem qY:("\\" : Str)=bsl:=by decide +kernel
theorem sj(T:TopF X fa u):pq X sO (ro 8) (fnB 8):=λenv he A gi a x hr hne s₀ I F run ha hag=>
 vA (xaddr:="addr") (xpos:="pos") (xesc:="escape") hr (by decide) rfl rfl rfl rfl (by rw[he];rfl) (ae (i:=0) rfl) (T.free _ _ (ae (i:=0) rfl)) (T.blt _ _ (ae (i:=0) rfl))
  (λA hr=>hV hr (.cons (i:=1) rfl (by decide) (.cons (i:=3) rfl (by decide) .nil))) (λA hr=>jY (aq rfl)) (λA hr=>cm hr (aq rfl) (br qY)) (λA hr=>jY (aq rfl))
  (λA hr=>ar (aq rfl) (ar (aK (br qY) (aq rfl)) aI)) (λA hr=>ar (aq rfl) (ar (aq rfl) aI)) (λA hr=>ar (aq rfl) (ar (br qY) aI))
  (λA hr=>dx rfl (by decide) d7) (λA hr=>dx rfl (by decide) d7) I F run ha hag hne
theorem qW:Binds 8 ["addr"]:=fq λ_ _=>rfl
theorem B9{np pos:Pos}{e:Expr}(T:TopF X fa u)(hr:Room A 11)(hx:("_iter_escaped_chars" : Str)∈ft.gt)(h1:SoundE X A ft env e p)(he:autoParam (∀env,starEach [e] env=(false,eval e env)::starEach [] env) aR) :
  et X A ft env tgt (.Call (.Name "_iter_escaped_chars" np) [e] [] pos) (ql p):=by
 obtain⟨o,fd,K⟩:=T.fn 8 "_iter_escaped_chars" (ae (i:=3) rfl)
 exact EH (ftg:=sO) (xaddr:="addr") T.top hr hx K.nm K.ho K.hd K.hcd K.hb (by rw[K.sc];decide +kernel) (by rw[K.sc];decide +kernel) K.gl K.bl (by rw[K.sc];exact fits (by decide +kernel)) (by decide) rfl rfl
  (λv=>qW fd K.hp K.df K.kd [v] rfl) (by rw[K.sc];exact sj T) h1 (λ_ h=>by cases h) he
end
end Mine
end
section
open PySem PySem.Calls PySem.Spec PyProof PyProof.Rows PySem.W
set_option maxRecDepth 20000
set_option maxHeartbeats 4000000
namespace Mine
variable{X:Cx}{fa:Nat→Addr}{u:Addr}
noncomputable abbrev vv:FT:=⟨[("flags",.l),("names",.l),("i",.l),("flag",.l)],["range","COMPILER_FLAG_NAMES","hex"],none⟩
theorem om:Binds 2 ["flags"]:=fq λ_ _=>rfl
noncomputable def qy:PS:=ak (jj 1 (aw)) (ak (fF (.n 2) (bw cN (ag (ah 32) (aw))) (ak (bf 3 (ao .LShift (ah 1) (aa 2))) (ak (qIf (cW (ao .BitAnd (aa 0) (aa 3))) (ak (dM 1 (qm c9 (aa 3) (bp ll (ag (aa 3) (aw))))) (ak (gj 0 .BitXor (aa 3)) (ak (qIf (nK (cW (aa 0))) (ak (Cr) (aH)) (aH)) (aH)))) (aH)) (aH))) (ak (dM 1 (bp ll (ag (aa 0) (aw)))) (aH))) (ak (dS (bR "str" cZ (a8 ⟨#[44,32]⟩) (ag (aa 1) (aw)))) (aH)))
theorem wM(T:TopF X fa u):∀A env,Room A 14→bj X A vv env (fnB 2) qy:=λA env hr=>
 (az (mB (i:=1) rfl (by decide) aI) (az (jX (hr.le (by(first|lia|omega))) (kI T (ae (i:=0) rfl) (ae (i:=1) rfl) (ar aD aI) (gc (hr.le (by(first|lia|omega))))) (bX (i:=2) rfl (by decide)) (az (dx (i:=3) rfl (by decide) (aK aD (aq (i:=2) rfl))) (az (ie (jY (aK (aq (i:=0) rfl) (aq (i:=3) rfl))) (az (iK (i:=1) rfl (Ez T (ae (i:=1) rfl) (aq (i:=3) rfl) (kB T (ae (i:=2) rfl) (ae (i:=10) rfl) (ar (aq (i:=3) rfl) aI) zr))) (az (vV (i:=0) rfl (by decide) (aq (i:=3) rfl)) (az (ie (DK (jY (aq (i:=0) rfl))) (az EF aP) aP) aP))) aP) aP)) (az (iK (i:=1) rfl (kB T (ae (i:=2) rfl) (ae (i:=10) rfl) (ar (aq (i:=0) rfl) aI) zr)) aP)) (az (fG (fS (br (by decide +kernel)) (ar (aq (i:=1) rfl) aI) F.plainAttrs_str F.slot_str_join F.type_str_join ja)) aP)))
noncomputable def lL:List D→Option D:=dp (cC 4 1 qy)
noncomputable abbrev jF:PF:=eg lL
theorem nH(T:TopF X fa u):FnOk X 15 (.ref (fa 2)) jF:=(kFn T (ae (i:=0) rfl) (by decide +kernel) (by decide +kernel) (fits (by decide +kernel)) (by decide +kernel) rfl rfl (by decide +kernel) om rfl (wM T)).fresh
noncomputable abbrev vy:FT:=⟨[("iterator",.l),("b",.l),("val",.l)],["next"],none⟩
theorem oo:Binds 6 ["iterator"]:=fq λ_ _=>rfl
noncomputable def mw:PS:=ak (bf 1 (kU 0)) (ak (bf 2 (ao .BitAnd (aa 1) (ah 63))) (ak (yN 8 (cW (ao .BitAnd (aa 1) (ah 64))) (ak (gj 2 .LShift (ah 6)) (ak (bf 1 (kU 0)) (ak (gj 2 .BitOr (ao .BitAnd (aa 1) (ah 63))) (aH))))) (ak (dS (aa 2)) (aH))))
theorem wN(T:TopF X fa u):∀A env,Room A 14→bj X A vy env (fnB 6) mw:=λA env hr=>
 (az (dx (i:=1) rfl (by decide) (Bv T (i:=0) rfl (ae (i:=0) rfl))) (az (dx (i:=2) rfl (by decide) (aK (aq (i:=1) rfl) aD)) (az (CG (n:=8) (hr.le (by(first|lia|omega))) (jY (aK (aq (i:=1) rfl) aD)) (az (vV (i:=2) rfl (by decide) aD) (az (dx (i:=1) rfl (by decide) (Bv T (i:=0) rfl (ae (i:=0) rfl))) (az (vV (i:=2) rfl (by decide) (aK (aq (i:=1) rfl) aD)) aP)))) (az (fG (aq (i:=2) rfl)) aP))))
noncomputable def gn:PF:=cC 3 1 mw
theorem vR(T:TopF X fa u):FnOk X 15 (.ref (fa 6)) gn:=kFn T (ae (i:=2) rfl) (by decide +kernel) (by decide +kernel) (fits (by decide +kernel)) (by decide +kernel) rfl rfl (by decide +kernel) oo rfl (wN T)
noncomputable abbrev xq:FT:=⟨[("addr",.l),("start",.l),("open_pos",.l),("result",.l),("pos",.l),("ch",.l)],["_iter_escaped_chars","len"],none⟩
theorem pK:Binds 9 ["addr"]:=fq λ_ _=>rfl
noncomputable def oZ:PS:=ak (qIf (aE .NotIn (a8 ⟨#[34]⟩) (aa 0)) (ak (dS (aa 0)) (aH)) (aH)) (ak (bf 1 (ah 0)) (ak (bf 2 (fQ)) (ak (jj 3 (aw)) (ak (fF (.t [4,5]) (ql (aa 0)) (ak (qIf (aE .Eq (aa 5) (a8 ⟨#[34]⟩)) (ak (qIf (aE .Is (aa 2) (fQ)) (ak (bf 2 (aa 4)) (aH)) (ak (qIf (aE .NotEq (aa 1) (aa 2)) (ak (dM 3 (aW (aa 0) (aQ (aa 1)) (aQ (aa 2)) (aA))) (aH)) (aH)) (ak (bf 1 (ao .Add (aa 4) (ah 1))) (ak (bf 2 (fQ)) (aH))))) (aH)) (aH)) (aH)) (aH)) (ak (qIf (aE .Lt (aa 1) (bp d9 (ag (aa 0) (aw)))) (ak (dM 3 (aW (aa 0) (aQ (aa 1)) (aA) (aA))) (aH)) (aH)) (ak (dS (bR "str" cZ (a8 ⟨#[]⟩) (ag (aa 3) (aw)))) (aH)))))))
theorem zF(T:TopF X fa u):∀A env,Room A 14→bj X A xq env (fnB 9) oZ:=λA env hr=>
 (az (ie (cm (hr.le (by(first|lia|omega))) (br (by decide +kernel)) (aq (i:=0) rfl)) (az (fG (aq (i:=0) rfl)) aP) aP) (az (dx (i:=1) rfl (by decide) aD) (az (dx (i:=2) rfl (by decide) mA) (az (mB (i:=3) rfl (by decide) aI) (az (jX (hr.le (by(first|lia|omega))) (B9 T (hr.le (by(first|lia|omega))) (ae (i:=0) rfl) (aq (i:=0) rfl)) (hV (hr.le (by(first|lia|omega))) (.cons (i:=4) rfl (by decide) (.cons (i:=5) rfl (by decide) .nil))) (az (ie (cm (hr.le (by(first|lia|omega))) (aq (i:=5) rfl) (br (by decide +kernel))) (az (ie (cm (hr.le (by(first|lia|omega))) (aq (i:=2) rfl) mA) (az (dx (i:=2) rfl (by decide) (aq (i:=4) rfl)) aP) (az (ie (cm (hr.le (by(first|lia|omega))) (aq (i:=1) rfl) (aq (i:=2) rfl)) (az (iK (i:=3) rfl (dC (aq (i:=0) rfl) (dh (aq (i:=1) rfl)) (dh (aq (i:=2) rfl)) bB)) aP) aP) (az (dx (i:=1) rfl (by decide) (aK (aq (i:=4) rfl) aD)) (az (dx (i:=2) rfl (by decide) mA) aP)))) aP) aP) aP) aP) (az (ie (cm (hr.le (by(first|lia|omega))) (aq (i:=1) rfl) (kB T (ae (i:=1) rfl) (ae (i:=6) rfl) (ar (aq (i:=0) rfl) aI) ot)) (az (iK (i:=3) rfl (dC (aq (i:=0) rfl) (dh (aq (i:=1) rfl)) bB bB)) aP) aP) (az (fG (fS (br (by decide +kernel)) (ar (aq (i:=3) rfl) aI) F.plainAttrs_str F.slot_str_join F.type_str_join ja)) aP)))))))
noncomputable def sv:List D→Option D:=dp (cC 6 1 oZ)
noncomputable abbrev lu:PF:=eg sv
theorem qh(T:TopF X fa u):FnOk X 15 (.ref (fa 9)) lu:=(kFn T (ae (i:=4) rfl) (by decide +kernel) (by decide +kernel) (fits (by decide +kernel)) (by decide +kernel) rfl rfl (by decide +kernel) pK rfl (zF T)).fresh
noncomputable abbrev xc:FT:=⟨[("addr",.l),("opens",.l),("pos",.l),("ch",.l)],["_strip_quoted_realnames","_iter_escaped_chars"],none⟩
theorem pD:Binds 10 ["addr"]:=fq λ_ _=>rfl
noncomputable def t7:PS:=ak (bf 0 (aJ lu (aG (aa 0) (aX)))) (ak (bf 1 (ah 0)) (ak (fF (.t [2,3]) (ql (aa 0)) (ak (qIf (aE .Eq (aa 3) (a8 ⟨#[40]⟩)) (ak (gj 1 .Add (ah 1)) (aH)) (ak (qIf (aE .Eq (aa 3) (a8 ⟨#[41]⟩)) (ak (gj 1 .Sub (ah 1)) (ak (qIf (aE .Lt (aa 1) (ah 0)) (ak (dS (b8 false)) (aH)) (aH)) (aH))) (aH)) (aH))) (aH)) (aH)) (ak (dS (gB .Eq (aa 1) (ah 0))) (aH))))
theorem zC(T:TopF X fa u):∀A env,Room A 16→bj X A xc env (fnB 10) t7:=λA env hr=>
 (az (dx (i:=0) rfl (by decide) (cw T (ae (i:=0) rfl) (ae (i:=4) rfl) (bO (aq (i:=0) rfl) d8) (qh T) hr (by(first|lia|omega)))) (az (dx (i:=1) rfl (by decide) aD) (az (jX (hr.le (by(first|lia|omega))) (B9 T (hr.le (by(first|lia|omega))) (ae (i:=1) rfl) (aq (i:=0) rfl)) (hV (hr.le (by(first|lia|omega))) (.cons (i:=2) rfl (by decide) (.cons (i:=3) rfl (by decide) .nil))) (az (ie (cm (hr.le (by(first|lia|omega))) (aq (i:=3) rfl) (br (by decide +kernel))) (az (vV (i:=1) rfl (by decide) aD) aP) (az (ie (cm (hr.le (by(first|lia|omega))) (aq (i:=3) rfl) (br (by decide +kernel))) (az (vV (i:=1) rfl (by decide) aD) (az (ie (cm (hr.le (by(first|lia|omega))) (aq (i:=1) rfl) aD) (az (fG d7) aP) aP) aP)) aP) aP)) aP) aP) (az (fG (mZ (hr.le (by(first|lia|omega))) (aq (i:=1) rfl) aD)) aP))))
noncomputable def jG:List D→Option D:=dp (cC 4 1 t7)
noncomputable abbrev dk:PF:=eg jG
theorem iz(T:TopF X fa u):FnOk X 17 (.ref (fa 10)) dk:=(kFn T (ae (i:=5) rfl) (by decide +kernel) (by decide +kernel) (fits (by decide +kernel)) (by decide +kernel) rfl rfl (by decide +kernel) pD rfl (zC T)).fresh
noncomputable abbrev B7:FT:=⟨[("x",.l)],["NT_OFFSET"],none⟩
theorem uC:Binds 63 ["x"]:=fq λ_ _=>rfl
noncomputable def yQ:PS:=ak (dS (gB .Lt (aa 0) (ah 256))) (aH)
theorem C9(T:TopF X fa u):∀A env,Room A 14→bj X A B7 env (fnB 63) yQ:=λA env hr=>
 (az (fG (mZ (hr.le (by(first|lia|omega))) (aq (i:=0) rfl) (kNt T (ae (i:=0) rfl)))) aP)
noncomputable def Bg:List D→Option D:=dp (cC 1 1 yQ)
noncomputable abbrev m9:PF:=eg Bg
theorem yJ(T:TopF X fa u):FnOk X 15 (.ref (fa 63)) m9:=(kFn T (ae (i:=6) rfl) (by decide +kernel) (by decide +kernel) (fits (by decide +kernel)) (by decide +kernel) rfl rfl (by decide +kernel) uC rfl (C9 T)).fresh
noncomputable abbrev B6:FT:=⟨[("x",.l)],["NT_OFFSET"],none⟩
theorem uB:Binds 64 ["x"]:=fq λ_ _=>rfl
noncomputable def yP:PS:=ak (dS (gB .GtE (aa 0) (ah 256))) (aH)
theorem C8(T:TopF X fa u):∀A env,Room A 14→bj X A B6 env (fnB 64) yP:=λA env hr=>
 (az (fG (mZ (hr.le (by(first|lia|omega))) (aq (i:=0) rfl) (kNt T (ae (i:=0) rfl)))) aP)
noncomputable def Bf:List D→Option D:=dp (cC 1 1 yP)
noncomputable abbrev m8:PF:=eg Bf
theorem yI(T:TopF X fa u):FnOk X 15 (.ref (fa 64)) m8:=(kFn T (ae (i:=7) rfl) (by decide +kernel) (by decide +kernel) (fits (by decide +kernel)) (by decide +kernel) rfl rfl (by decide +kernel) uB rfl (C8 T)).fresh
noncomputable abbrev B5:FT:=⟨[("x",.l)],["ENDMARKER"],none⟩
theorem uA:Binds 65 ["x"]:=fq λ_ _=>rfl
noncomputable def yO:PS:=ak (dS (gB .Eq (aa 0) (ah 0))) (aH)
theorem C7(T:TopF X fa u):∀A env,Room A 14→bj X A B5 env (fnB 65) yO:=λA env hr=>
 (az (fG (mZ (hr.le (by(first|lia|omega))) (aq (i:=0) rfl) (Ey T (ae (i:=0) rfl)))) aP)
noncomputable def Be:List D→Option D:=dp (cC 1 1 yO)
noncomputable abbrev m7:PF:=eg Be
theorem yH(T:TopF X fa u):FnOk X 15 (.ref (fa 65)) m7:=(kFn T (ae (i:=8) rfl) (by decide +kernel) (by decide +kernel) (fits (by decide +kernel)) (by decide +kernel) rfl rfl (by decide +kernel) uA rfl (C7 T)).fresh
end Mine
namespace Mine
variable{X:Cx}{fa:Nat→Addr}{u:Addr}
noncomputable abbrev ru:FT:=⟨[("cells",.l),("pool",.l),("letters",.l),("cell",.l)],["len"],none⟩
theorem mS:Binds 67 ["cells"]:=fq λ_ _=>rfl
noncomputable def kF:PS:=ak (bf 1 (a8 ⟨#[43,45,47,38,60,62,61,37,126,94]⟩)) (ak (jj 2 (aw)) (ak (fF (.n 3) (cE (aa 0)) (fR 2 1 (ao .Mod (aa 3) (bp d9 (ag (aa 1) (aw))))) (aH)) (ak (dS (aa 2)) (aH))))
theorem uK(T:TopF X fa u):∀A env,Room A 14→bj X A ru env (fnB 67) kF:=λA env hr=>
 (az (dx (i:=1) rfl (by decide) (br (by decide +kernel))) (az (mB (i:=2) rfl (by decide) aI) (az (jX (hr.le (by(first|lia|omega))) (eN (hr.le (by(first|lia|omega))) (aq (i:=0) rfl)) (bX (i:=3) rfl (by decide)) (y0 (iL:=2) (iP:=1) rfl rfl (by decide) (aK (aq (i:=3) rfl) (kB T (ae (i:=0) rfl) (ae (i:=6) rfl) (ar (aq (i:=1) rfl) aI) ot)) (by decide +kernel)) aP) (az (fG (aq (i:=2) rfl)) aP))))
noncomputable def j7:List D→Option D:=dp (cC 4 1 kF)
noncomputable abbrev nc:PF:=eg j7
theorem rT(T:TopF X fa u):FnOk X 15 (.ref (fa 67)) nc:=(kFn T (ae (i:=9) rfl) (by decide +kernel) (by decide +kernel) (fits (by decide +kernel)) (by decide +kernel) rfl rfl (by decide +kernel) mS rfl (uK T)).fresh
noncomputable abbrev xp:FT:=⟨[("cells",.l),("letters",.l),("rows",.l),("turn",.l),("k",.l)],["range","len"],none⟩
noncomputable abbrev rz:FT:=⟨[("letter",.l)],[],none⟩
theorem pJ:Binds 68 ["cells","letters"]:=wx λ_ _ _=>rfl
noncomputable def oY:PS:=ak (bf 2 (aY [none] (cE (aa 1)) (.n 0) (cn) (aS (aM (ag (aa 0) (aw)))))) (ak (fF (.n 3) (bw cN (ag (ah 3) (aw))) (ak (bf 4 (ao .Mod (ao .Mod (ao .FloorDiv (ba (aa 0) (aa 3)) (ah 10)) (ah 12)) (ao .Sub (bp d9 (ag (aa 2) (aw))) (ah 1)))) (ak (bf 2 (ao .Add (ao .Add (aW (aa 2) (aA) (aQ (aa 4)) (aA)) (aM (ag (ao .Add (ao .Add (ao .Add (ao .Add (aM (ag (a8 ⟨#[40]⟩) (aw))) (ba (aa 2) (aa 4))) (aM (ag (ba (a8 ⟨#[42,124]⟩) (ao .Mod (ao .FloorDiv (ba (aa 0) (aa 3)) (ah 120)) (ah 2))) (aw)))) (ba (aa 2) (ao .Add (aa 4) (ah 1)))) (aM (ag (a8 ⟨#[41]⟩) (aw)))) (aw)))) (aW (aa 2) (aQ (ao .Add (aa 4) (ah 2))) (aA) (aA)))) (aH))) (aH)) (ak (dS (ba (aa 2) (ah 0))) (aH)))
theorem zE(T:TopF X fa u):∀A env,Room A 14→bj X A xp env (fnB 68) oY:=λA env hr=>
 (az (fT (i:=2) rfl (ft':=rz) (js:=[none]) (fits (by decide +kernel)) (.l .nil) (eN (hr.le (by(first|lia|omega))) (aq (i:=1) rfl)) (λ_=>(bX (i:=0) rfl (by decide))) (λ_=>cJ) (λ_=>(bK (ar (aq (i:=0) rfl) aI)))) (az (jX (hr.le (by(first|lia|omega))) (kI T (ae (i:=0) rfl) (ae (i:=1) rfl) (ar aD aI) (gc (hr.le (by(first|lia|omega))))) (bX (i:=3) rfl (by decide)) (az (dx (i:=4) rfl (by decide) (aK (aK (aK (dI (aq (i:=0) rfl) (aq (i:=3) rfl)) aD) aD) (aK (kB T (ae (i:=1) rfl) (ae (i:=6) rfl) (ar (aq (i:=2) rfl) aI) ot) aD))) (az (dx (i:=2) rfl (by decide) (aK (aK (dC (aq (i:=2) rfl) bB (dh (aq (i:=4) rfl)) bB) (bK (ar (aK (aK (aK (aK (bK (ar (br (by decide +kernel)) aI)) (dI (aq (i:=2) rfl) (aq (i:=4) rfl))) (bK (ar (dI (br (by decide +kernel)) (aK (aK (dI (aq (i:=0) rfl) (aq (i:=3) rfl)) aD) aD)) aI))) (dI (aq (i:=2) rfl) (aK (aq (i:=4) rfl) aD))) (bK (ar (br (by decide +kernel)) aI))) aI))) (dC (aq (i:=2) rfl) (dh (aK (aq (i:=4) rfl) aD)) bB bB))) aP)) aP) (az (fG (dI (aq (i:=2) rfl) aD)) aP)))
noncomputable def nZ:List D→Option D:=dp (cC 5 2 oY)
noncomputable abbrev su:PF:=eg nZ
theorem yK(T:TopF X fa u):FnOk X 15 (.ref (fa 68)) su:=(kFn T (ae (i:=10) rfl) (by decide +kernel) (by decide +kernel) (fits (by decide +kernel)) (by decide +kernel) rfl rfl (by decide +kernel) pJ rfl (zE T)).fresh
noncomputable abbrev vu:FT:=⟨[("numbers",.l),("cells",.l),("total",.c),("octets",.l),("k",.l),("number",.c)],["enumerate"],none⟩
noncomputable abbrev pY:FT:=⟨[("high",.l),("number",.f)],[],none⟩
noncomputable abbrev pZ:FT:=⟨[("place",.l),("octet",.l),("total",.f)],[],none⟩
theorem oj:Binds 69 ["numbers","cells","total"]:=wy λ_ _ _ _=>rfl
noncomputable def qx:PS:=ak (jj 3 (aw)) (ak (fF (.t [4,5]) (bw fg (ag (aa 0) (aw))) (ak (lq 3 (ao .Mult (aM (ag (ah 64) (aw))) (ao .FloorDiv (ao .Mod (ao .FloorDiv (ba (aa 1) (ao .Mod (aa 4) (ah 4))) (ah 16)) (ah 4)) (ah 3)))) (ak (lq 3 (ao .Add (aY [none,some 5] (cE (aM (ag (ah 2) (ag (ah 1) (aw))))) (.n 0) (aE .GtE (aa 1) (ao .Pow (ah 64) (aa 0))) (aS (ao .Add (ao .Mod (ao .FloorDiv (aa 1) (ao .Pow (ah 64) (aa 0))) (ah 64)) (ah 64)))) (aM (ag (ao .Mod (aa 5) (ah 64)) (aw))))) (aH))) (aH)) (ak (dS (aY [none,none,some 2] (bw fg (ag (aa 3) (aw))) (.t [0,1]) (cn) (aS (pIf (aE .Eq (ao .Mod (ao .Add (aa 0) (aa 2)) (ah 3)) (ah 0)) (ao .Add (aa 1) (ah 128)) (aa 1))))) (aH)))
theorem wL(T:TopF X fa u):∀A env,Room A 14→bj X A vu env (fnB 69) qx:=λA env hr=>
 (az (mB (i:=3) rfl (by decide) aI) (az (jX (hr.le (by(first|lia|omega))) (kI T (ae (i:=0) rfl) (ae (i:=0) rfl) (ar (aq (i:=0) rfl) aI) (jh (hr.le (by(first|lia|omega))))) (hV (hr.le (by(first|lia|omega))) (.cons (i:=4) rfl (by decide) (.cons (i:=5) rfl (by decide) .nil))) (az (AN (i:=3) rfl (aK (bK (ar aD aI)) (aK (aK (aK (dI (aq (i:=1) rfl) (aK (aq (i:=4) rfl) aD)) aD) aD) aD))) (az (AN (i:=3) rfl (aK (cg (ft':=pY) (js:=[none,some 5]) (fits (by decide +kernel)) (.l (.f (j:=5) rfl (by decide) .nil)) (eN (hr.le (by(first|lia|omega))) (bK (ar aD (ar aD aI)))) (λ_=>(bX (i:=0) rfl (by decide))) (λ_=>(jm (cm (hr.le (by(first|lia|omega))) (aq (i:=1) rfl) (aK aD (aq (i:=0) rfl))))) (λ_=>(aK (aK (aK (aq (i:=1) rfl) (aK aD (aq (i:=0) rfl))) aD) aD))) (bK (ar (aK (aq (i:=5) rfl) aD) aI)))) aP)) aP) (az (fG (cg (ft':=pZ) (js:=[none,none,some 2]) (fits (by decide +kernel)) (.l (.l (.f (j:=2) rfl (by decide) .nil))) (kI T (ae (i:=0) rfl) (ae (i:=0) rfl) (ar (aq (i:=3) rfl) aI) (jh (hr.le (by(first|lia|omega))))) (λ_=>(hV (hr.le (by(first|lia|omega))) (.cons (i:=0) rfl (by decide) (.cons (i:=1) rfl (by decide) .nil)))) (λ_=>cJ) (λ_=>(sIf (cm (hr.le (by(first|lia|omega))) (aK (aK (aq (i:=0) rfl) (aq (i:=2) rfl)) aD) aD) (aK (aq (i:=1) rfl) aD) (aq (i:=1) rfl))))) aP)))
noncomputable def pn:List D→Option D:=dp (cC 6 3 qx)
noncomputable abbrev pj:PF:=eg pn
theorem vQ(T:TopF X fa u):FnOk X 15 (.ref (fa 69)) pj:=(kFn T (ae (i:=11) rfl) (by decide +kernel) (by decide +kernel) (fits (by decide +kernel)) (by decide +kernel) rfl rfl (by decide +kernel) oj rfl (wL T)).fresh
noncomputable abbrev xr:FT:=⟨[("tape",.l),("order",.l),("sets",.l),("turn",.l),("number",.l)],["range","_parse_varint","ISEOF","ISTERMINAL","ISNONTERMINAL"],none⟩
theorem pL:Binds 70 ["tape"]:=fq λ_ _=>rfl
noncomputable def o4:PS:=ak (DB 1 2) (ak (fF (.n 3) (bw cN (ag (ah 21) (aw))) (ak (bf 4 (aJ gn (dZ 0 (aX)))) (ak (qIf (cW (aJ m7 (aG (aa 4) (aX)))) (ak (dS (de (ag (aa 1) (ag (aa 2) (aw))))) (aH)) (aH)) (ak (qIf (cW (aJ m9 (aG (aa 4) (aX)))) (ak (dM 1 (aa 4)) (aH)) (aH)) (ak (qIf (cW (aJ m8 (aG (aa 4) (aX)))) (ak (dM 2 (ao .Sub (aa 4) (ah 256))) (aH)) (aH)) (aH))))) (aH)) (ak (dS (de (ag (aM (aw)) (ag (aM (aw)) (aw))))) (aH)))
theorem zG(T:TopF X fa u):∀A env,Room A 16→bj X A xr env (fnB 70) o4:=λA env hr=>
 (az (EN (i:=1) (j:=2) (hr.le (by(first|lia|omega))) rfl rfl) (az (jX (hr.le (by(first|lia|omega))) (kI T (ae (i:=0) rfl) (ae (i:=1) rfl) (ar aD aI) (gc (hr.le (by(first|lia|omega))))) (bX (i:=3) rfl (by decide)) (az (dx (i:=4) rfl (by decide) (cw T (ae (i:=1) rfl) (ae (i:=2) rfl) (qS (i:=0) rfl d8) (vR T) hr (by(first|lia|omega)))) (az (ie (jY (cw T (ae (i:=2) rfl) (ae (i:=8) rfl) (bO (aq (i:=4) rfl) d8) (yH T) hr (by(first|lia|omega)))) (az (fG (eO (ar (aq (i:=1) rfl) (ar (aq (i:=2) rfl) aI)))) aP) aP) (az (ie (jY (cw T (ae (i:=3) rfl) (ae (i:=6) rfl) (bO (aq (i:=4) rfl) d8) (yJ T) hr (by(first|lia|omega)))) (az (iK (i:=1) rfl (aq (i:=4) rfl)) aP) aP) (az (ie (jY (cw T (ae (i:=4) rfl) (ae (i:=7) rfl) (bO (aq (i:=4) rfl) d8) (yI T) hr (by(first|lia|omega)))) (az (iK (i:=2) rfl (aK (aq (i:=4) rfl) aD)) aP) aP) aP)))) aP) (az (fG (eO (ar (bK aI) (ar (bK aI) aI)))) aP)))
noncomputable def lx:PF:=cC 5 1 o4
theorem yL(T:TopF X fa u):FnOk X 17 (.ref (fa 70)) lx:=kFn T (ae (i:=12) rfl) (by decide +kernel) (by decide +kernel) (fits (by decide +kernel)) (by decide +kernel) rfl rfl (by decide +kernel) pL rfl (zG T)
end Mine
namespace Mine
variable{X:Cx}{fa:Nat→Addr}{u:Addr}
noncomputable abbrev zX:FT:=⟨[("texts",.l),("signs",.c),("nodes",.l),("asked",.l),("k",.l),("number",.l)],["len","_check_parenthesis","range","EXACT_TOKEN_TYPES","_law_tree"],none⟩
noncomputable abbrev vw:FT:=⟨[("end",.l),("signs",.f)],[],none⟩
theorem qX:Binds 71 ["texts","signs","nodes","asked"]:=qV λ_ _ _ _ _=>rfl
noncomputable def kG(self:PF):PS:=ak (qIf (aE .Eq (bp d9 (ag (aa 1) (aw))) (ah 1)) (ak (dS (de (ag (ba (aa 1) (ah 0)) (aw)))) (aH)) (aH)) (ak (dM 3 (de (ag (aM (ag (gB .Is (aJ dk (aG (bR "str" cZ (a8 ⟨#[]⟩) (ag (aa 0) (aw))) (aX))) (b8 true)) (ag (gB .Is (aJ dk (aG (bR "str" cZ (a8 ⟨#[]⟩) (ag (ao .Add (aW (aa 0) (aQ (g6 (ah 1))) (aA) (aA)) (aW (aa 0) (aA) (aQ (ah 1)) (aA))) (aw))) (aX))) (b8 false)) (aw)))) (ag (aM (ag (b8 true) (ag (b8 true) (aw)))) (aw))))) (ak (fF (.n 4) (cE (ao .Add (aM (ag (ah 2) (aw))) (aY [none,some 1] (bw cN (ag (ah 3) (ag (ao .Sub (bp d9 (ag (aa 1) (aw))) (ah 1)) (aw)))) (.n 0) (aE .Eq (ba (aa 1) (ao .Sub (aa 0) (ah 1))) (a8 ⟨#[41]⟩)) (aS (aa 0))))) (ak (qIf (cW (aJ dk (aG (bR "str" cZ (a8 ⟨#[]⟩) (ag (aW (aa 0) (aQ (ah 1)) (aQ (aa 4)) (aA)) (aw))) (aX)))) (ak (dM 2 (aa 4)) (ak (bf 5 (ao .Add (gZ 2) (ah 1))) (ak (dS (de (ag (mn bP (ba (aa 1) (aa 4))) (ag (aa 5) (ag (aJ self (aG (aW (aa 0) (aQ (ah 1)) (aQ (aa 4)) (aA)) (aG (aW (aa 1) (aQ (ah 1)) (aQ (aa 4)) (aA)) (dZ 2 (dZ 3 (aX)))))) (ag (aJ self (aG (aW (aa 0) (aQ (ao .Add (aa 4) (ah 1))) (aQ (g6 (ah 1))) (aA)) (aG (aW (aa 1) (aQ (ao .Add (aa 4) (ah 1))) (aQ (g6 (ah 1))) (aA)) (dZ 2 (dZ 3 (aX)))))) (aw))))))) (aH)))) (aH)) (aH)) (aH)) (ak (dS (de (aw))) (aH))))
theorem BZ{n:Nat}(T:TopF X fa u)(hn:17≤n){self:PF}(ih:FnOk X n (.ref (fa 71)) self):∀A env,Room A n→bj X A zX env (fnB 71) (kG self):=λA env hr=>
 (az (ie (cm (hr.le (by(first|lia|omega))) (kB T (ae (i:=0) rfl) (ae (i:=6) rfl) (ar (aq (i:=1) rfl) aI) ot) aD) (az (fG (eO (ar (dI (aq (i:=1) rfl) aD) aI))) aP) aP) (az (iK (i:=3) rfl (eO (ar (bK (ar (mZ (hr.le (by(first|lia|omega))) (cw T (ae (i:=1) rfl) (ae (i:=5) rfl) (bO (fS (br (by decide +kernel)) (ar (aq (i:=0) rfl) aI) F.plainAttrs_str F.slot_str_join F.type_str_join ja) d8) (iz T) hr (by(first|lia|omega))) d7) (ar (mZ (hr.le (by(first|lia|omega))) (cw T (ae (i:=1) rfl) (ae (i:=5) rfl) (bO (fS (br (by decide +kernel)) (ar (aK (dC (aq (i:=0) rfl) (dh (y4 aD)) bB bB) (dC (aq (i:=0) rfl) bB (dh aD) bB)) aI) F.plainAttrs_str F.slot_str_join F.type_str_join ja) d8) (iz T) hr (by(first|lia|omega))) d7) aI))) (ar (bK (ar d7 (ar d7 aI))) aI)))) (az (jX (hr.le (by(first|lia|omega))) (eN (hr.le (by(first|lia|omega))) (aK (bK (ar aD aI)) (cg (ft':=vw) (js:=[none,some 1]) (fits (by decide +kernel)) (.l (.f (j:=1) rfl (by decide) .nil)) (kI T (ae (i:=2) rfl) (ae (i:=1) rfl) (ar aD (ar (aK (kB T (ae (i:=0) rfl) (ae (i:=6) rfl) (ar (aq (i:=1) rfl) aI) ot) aD) aI)) (gc (hr.le (by(first|lia|omega))))) (λ_=>(bX (i:=0) rfl (by decide))) (λ_=>(jm (cm (hr.le (by(first|lia|omega))) (dI (aq (i:=1) rfl) (aK (aq (i:=0) rfl) aD)) (br (by decide +kernel))))) (λ_=>(aq (i:=0) rfl))))) (bX (i:=4) rfl (by decide)) (az (ie (jY (cw T (ae (i:=1) rfl) (ae (i:=5) rfl) (bO (fS (br (by decide +kernel)) (ar (dC (aq (i:=0) rfl) (dh aD) (dh (aq (i:=4) rfl)) bB) aI) F.plainAttrs_str F.slot_str_join F.type_str_join ja) d8) (iz T) hr (by(first|lia|omega)))) (az (iK (i:=2) rfl (aq (i:=4) rfl)) (az (dx (i:=5) rfl (by decide) (aK (z6 T (i:=2) rfl (ae (i:=0) rfl)) aD)) (az (fG (eO (ar (Ce T (ae (i:=3) rfl) (dI (aq (i:=1) rfl) (aq (i:=4) rfl))) (ar (aq (i:=5) rfl) (ar (cw T (ae (i:=4) rfl) (ae (i:=13) rfl) (bO (dC (aq (i:=0) rfl) (dh aD) (dh (aq (i:=4) rfl)) bB) (bO (dC (aq (i:=1) rfl) (dh aD) (dh (aq (i:=4) rfl)) bB) (qS (i:=2) rfl (qS (i:=3) rfl d8)))) ih hr (by(first|lia|omega))) (ar (cw T (ae (i:=4) rfl) (ae (i:=13) rfl) (bO (dC (aq (i:=0) rfl) (dh (aK (aq (i:=4) rfl) aD)) (dh (y4 aD)) bB) (bO (dC (aq (i:=1) rfl) (dh (aK (aq (i:=4) rfl) aD)) (dh (y4 aD)) bB) (qS (i:=2) rfl (qS (i:=3) rfl d8)))) ih hr (by(first|lia|omega))) aI)))))) aP))) aP) aP) aP) (az (fG (eO aI)) aP))))
noncomputable def eU:Nat→PF
 | 0=>λ_ _=>none
 | m+1=>cC 6 4 (kG (eU m))
theorem tW(T:TopF X fa u):∀m:Nat,FnOk X (17+m) (.ref (fa 71)) (eU m)
 | 0=>λA hr σ s vs sls d c' I r h=>by cases h
 | m+1=>kFn T (ae (i:=13) rfl) (by decide +kernel) (by decide +kernel) (fits (by decide +kernel)) (by decide +kernel) rfl rfl (by decide +kernel) qX rfl (BZ T (Nat.le_add_right 17 m) (tW T m))
noncomputable abbrev xd:FT:=⟨[("tree",.l),("one",.l),("two",.l),("along",.l)],["len","_law_edges"],none⟩
theorem pF:Binds 72 ["tree","one","two","along"]:=qV λ_ _ _ _ _=>rfl
noncomputable def i6(self:PF):PS:=ak (qIf (aE .Eq (bp d9 (ag (aa 0) (aw))) (ah 1)) (ak (dS (aM (ag (de (ag (aa 1) (ag (aa 2) (aw)))) (aw)))) (aH)) (aH)) (ak (qIf (aE .Eq (ba (aa 0) (ah 0)) (aa 3)) (ak (dS (ao .Add (aJ self (aG (ba (aa 0) (ah 2)) (aG (aa 1) (aG (ba (aa 0) (ah 1)) (aG (aa 3) (aX)))))) (aJ self (aG (ba (aa 0) (ah 3)) (aG (ba (aa 0) (ah 1)) (aG (aa 2) (aG (aa 3) (aX)))))))) (aH)) (aH)) (ak (dS (ao .Add (aJ self (aG (ba (aa 0) (ah 2)) (aG (aa 1) (aG (aa 2) (aG (aa 3) (aX)))))) (aJ self (aG (ba (aa 0) (ah 3)) (aG (aa 1) (aG (aa 2) (aG (aa 3) (aX)))))))) (aH)))
theorem zD{n:Nat}(T:TopF X fa u)(hn:17≤n){self:PF}(ih:FnOk X n (.ref (fa 72)) self):∀A env,Room A n→bj X A xd env (fnB 72) (i6 self):=λA env hr=>
 (az (ie (cm (hr.le (by(first|lia|omega))) (kB T (ae (i:=0) rfl) (ae (i:=6) rfl) (ar (aq (i:=0) rfl) aI) ot) aD) (az (fG (bK (ar (eO (ar (aq (i:=1) rfl) (ar (aq (i:=2) rfl) aI))) aI))) aP) aP) (az (ie (cm (hr.le (by(first|lia|omega))) (dI (aq (i:=0) rfl) aD) (aq (i:=3) rfl)) (az (fG (aK (cw T (ae (i:=1) rfl) (ae (i:=14) rfl) (bO (dI (aq (i:=0) rfl) aD) (bO (aq (i:=1) rfl) (bO (dI (aq (i:=0) rfl) aD) (bO (aq (i:=3) rfl) d8)))) ih hr (by(first|lia|omega))) (cw T (ae (i:=1) rfl) (ae (i:=14) rfl) (bO (dI (aq (i:=0) rfl) aD) (bO (dI (aq (i:=0) rfl) aD) (bO (aq (i:=2) rfl) (bO (aq (i:=3) rfl) d8)))) ih hr (by(first|lia|omega))))) aP) aP) (az (fG (aK (cw T (ae (i:=1) rfl) (ae (i:=14) rfl) (bO (dI (aq (i:=0) rfl) aD) (bO (aq (i:=1) rfl) (bO (aq (i:=2) rfl) (bO (aq (i:=3) rfl) d8)))) ih hr (by(first|lia|omega))) (cw T (ae (i:=1) rfl) (ae (i:=14) rfl) (bO (dI (aq (i:=0) rfl) aD) (bO (aq (i:=1) rfl) (bO (aq (i:=2) rfl) (bO (aq (i:=3) rfl) d8)))) ih hr (by(first|lia|omega))))) aP)))
noncomputable def fC:Nat→PF
 | 0=>λ_ _=>none
 | m+1=>eg (dp (cC 4 4 (i6 (fC m))))
theorem mi(T:TopF X fa u):∀m:Nat,FnOk X (17+m) (.ref (fa 72)) (fC m)
 | 0=>λA hr σ s vs sls d c' I r h=>by cases h
 | m+1=>FnOk.fresh (kFn T (ae (i:=14) rfl) (by decide +kernel) (by decide +kernel) (fits (by decide +kernel)) (by decide +kernel) rfl rfl (by decide +kernel) pF rfl (zD T (Nat.le_add_right 17 m) (mi T m)))
noncomputable abbrev xt:FT:=⟨[("sets",.l),("edges",.l),("points",.l),("trees",.l),("mask",.c),("picked",.l),("labels",.c),("one",.c),("two",.c)],["len","set","enumerate","list","range"],none⟩
noncomputable abbrev rA:FT:=⟨[("edge",.l),("end",.l)],[],none⟩
noncomputable abbrev rB:FT:=⟨[("k",.l),("edge",.l),("mask",.f)],[],none⟩
noncomputable abbrev rC:FT:=⟨[("label",.l),("labels",.f),("two",.f),("one",.f)],[],none⟩
theorem pM:Binds 73 ["sets","edges"]:=wx λ_ _ _=>rfl
noncomputable def t8:PS:=ak (bf 2 (i4 (aY [none,none] (cE (aa 1)) (.n 0) (cn) (gf (.n 1) (cE (aa 0)) cn (aS (aa 1)))))) (ak (jj 3 (aw)) (ak (fF (.n 4) (cE (aa 0)) (ak (bf 5 (aY [none,none,some 4] (bw fg (ag (aa 1) (aw))) (.t [0,1]) (aE .Eq (ao .Mod (ao .FloorDiv (aa 2) (ao .Pow (ah 2) (aa 0))) (ah 2)) (ah 1)) (aS (aa 1)))) (ak (bf 6 (pIf (aE .Eq (ao .Add (bp d9 (ag (aa 5) (aw))) (ah 1)) (aa 2)) (ew (ao .Add (bp d9 (ag (aa 1) (aw))) (ah 1))) (aM (aw)))) (ak (fF (.t [7,8]) (cE (aa 5)) (ak (bf 6 (pIf (oX (aE .Eq (aa 6) (aM (aw))) (aE .Eq (ba (aa 6) (aa 7)) (ba (aa 6) (aa 8)))) (aM (aw)) (aY [none,some 6,some 8,some 7] (cE (aa 6)) (.n 0) (cn) (aS (pIf (aE .Eq (aa 0) (ba (aa 1) (aa 2))) (ba (aa 1) (aa 3)) (aa 0)))))) (aH)) (aH)) (ak (lq 3 (pIf (aE .NotEq (aa 6) (aM (aw))) (aM (ag (aa 4) (aw))) (aM (aw)))) (aH))))) (aH)) (ak (dS (aa 3)) (aH))))
theorem zH(T:TopF X fa u):∀A env,Room A 14→bj X A xt env (fnB 73) t8:=λA env hr=>
 (az (dx (i:=2) rfl (by decide) (z7 T (hr.le (by(first|lia|omega))) (ae (i:=0) rfl) (ae (i:=1) rfl) (CC (ft':=rA) (js:=[none,none]) (fits (by decide +kernel)) (.l (.l .nil)) (eN (hr.le (by(first|lia|omega))) (aq (i:=1) rfl)) (λ_=>(bX (i:=0) rfl (by decide))) (λ_=>cJ) (λ_=>(eN (hr.le (by(first|lia|omega))) (aq (i:=0) rfl))) (λ_=>(bX (i:=1) rfl (by decide))) (λ_=>cJ) (λ_=>(aq (i:=1) rfl))))) (az (mB (i:=3) rfl (by decide) aI) (az (jX (hr.le (by(first|lia|omega))) (eN (hr.le (by(first|lia|omega))) (aq (i:=0) rfl)) (bX (i:=4) rfl (by decide)) (az (fT (i:=5) rfl (ft':=rB) (js:=[none,none,some 4]) (fits (by decide +kernel)) (.l (.l (.f (j:=4) rfl (by decide) .nil))) (kI T (ae (i:=2) rfl) (ae (i:=0) rfl) (ar (aq (i:=1) rfl) aI) (jh (hr.le (by(first|lia|omega))))) (λ_=>(hV (hr.le (by(first|lia|omega))) (.cons (i:=0) rfl (by decide) (.cons (i:=1) rfl (by decide) .nil)))) (λ_=>(jm (cm (hr.le (by(first|lia|omega))) (aK (aK (aq (i:=2) rfl) (aK aD (aq (i:=0) rfl))) aD) aD))) (λ_=>(aq (i:=1) rfl))) (az (dx (i:=6) rfl (by decide) (sIf (cm (hr.le (by(first|lia|omega))) (aK (kB T (ae (i:=0) rfl) (ae (i:=6) rfl) (ar (aq (i:=5) rfl) aI) ot) aD) (aq (i:=2) rfl)) (rH T (hr.le (by(first|lia|omega))) (ae (i:=3) rfl) (ae (i:=4) rfl) (aK (kB T (ae (i:=0) rfl) (ae (i:=6) rfl) (ar (aq (i:=1) rfl) aI) ot) aD)) (bK aI))) (az (jX (hr.le (by(first|lia|omega))) (eN (hr.le (by(first|lia|omega))) (aq (i:=5) rfl)) (hV (hr.le (by(first|lia|omega))) (.cons (i:=7) rfl (by decide) (.cons (i:=8) rfl (by decide) .nil))) (az (dx (i:=6) rfl (by decide) (sIf (EK (cm (hr.le (by(first|lia|omega))) (aq (i:=6) rfl) (bK aI)) (cm (hr.le (by(first|lia|omega))) (dI (aq (i:=6) rfl) (aq (i:=7) rfl)) (dI (aq (i:=6) rfl) (aq (i:=8) rfl)))) (bK aI) (cg (ft':=rC) (js:=[none,some 6,some 8,some 7]) (fits (by decide +kernel)) (.l (.f (j:=6) rfl (by decide) (.f (j:=8) rfl (by decide) (.f (j:=7) rfl (by decide) .nil)))) (eN (hr.le (by(first|lia|omega))) (aq (i:=6) rfl)) (λ_=>(bX (i:=0) rfl (by decide))) (λ_=>cJ) (λ_=>(sIf (cm (hr.le (by(first|lia|omega))) (aq (i:=0) rfl) (dI (aq (i:=1) rfl) (aq (i:=2) rfl))) (dI (aq (i:=1) rfl) (aq (i:=3) rfl)) (aq (i:=0) rfl)))))) aP) aP) (az (AN (i:=3) rfl (sIf (cm (hr.le (by(first|lia|omega))) (aq (i:=6) rfl) (bK aI)) (bK (ar (aq (i:=4) rfl) aI)) (bK aI))) aP)))) aP) (az (fG (aq (i:=3) rfl)) aP))))
noncomputable def sx:List D→Option D:=dp (cC 9 2 t8)
noncomputable abbrev nX:PF:=eg sx
theorem qi(T:TopF X fa u):FnOk X 15 (.ref (fa 73)) nX:=(kFn T (ae (i:=15) rfl) (by decide +kernel) (by decide +kernel) (fits (by decide +kernel)) (by decide +kernel) rfl rfl (by decide +kernel) pM rfl (zH T)).fresh
noncomputable abbrev uY:FT:=⟨[("mask",.c),("trees",.c),("ranks",.l),("active",.l),("k",.c),("rank",.c),("step",.c),("swaps",.l)],["enumerate"],none⟩
noncomputable abbrev pV:FT:=⟨[("other",.l),("least",.l),("rank",.f),("mask",.f),("k",.f),("step",.f),("trees",.f)],[],none⟩
theorem oh:Binds 74 ["mask","trees","ranks"]:=wy λ_ _ _ _=>rfl
noncomputable def qt:PS:=ak (bf 3 (ah 0)) (ak (fF (.t [4,5]) (bw fg (ag (aa 2) (aw))) (ak (bf 6 (ao .Sub (ah 1) (ao .Mult (ah 2) (ao .Mod (ao .FloorDiv (aa 0) (ao .Pow (ah 2) (aa 4))) (ah 2))))) (ak (bf 7 (aY [none,none,some 5,some 0,some 4,some 6,some 1] (bw fg (ag (aa 2) (aw))) (.t [0,1]) (f5 [aE .Lt (aa 1) (aa 2),aE .NotEq (ao .Mod (ao .FloorDiv (aa 3) (ao .Pow (ah 2) (aa 0))) (ah 2)) (ao .Mod (ao .FloorDiv (aa 3) (ao .Pow (ah 2) (aa 4))) (ah 2)),aE .In (ao .Add (aa 3) (ao .Mult (aa 5) (ao .Sub (ao .Pow (ah 2) (aa 4)) (ao .Pow (ah 2) (aa 0))))) (aa 6)]) (aS (aa 0)))) (ak (gj 3 .Add (pIf (aE .Eq (aa 7) (aM (aw))) (ao .Pow (ah 2) (aa 4)) (ah 0))) (aH)))) (aH)) (ak (dS (aa 3)) (aH)))
theorem wK(T:TopF X fa u):∀A env,Room A 14→bj X A uY env (fnB 74) qt:=λA env hr=>
 (az (dx (i:=3) rfl (by decide) aD) (az (jX (hr.le (by(first|lia|omega))) (kI T (ae (i:=0) rfl) (ae (i:=0) rfl) (ar (aq (i:=2) rfl) aI) (jh (hr.le (by(first|lia|omega))))) (hV (hr.le (by(first|lia|omega))) (.cons (i:=4) rfl (by decide) (.cons (i:=5) rfl (by decide) .nil))) (az (dx (i:=6) rfl (by decide) (aK aD (aK aD (aK (aK (aq (i:=0) rfl) (aK aD (aq (i:=4) rfl))) aD)))) (az (fT (i:=7) rfl (ft':=pV) (js:=[none,none,some 5,some 0,some 4,some 6,some 1]) (fits (by decide +kernel)) (.l (.l (.f (j:=5) rfl (by decide) (.f (j:=0) rfl (by decide) (.f (j:=4) rfl (by decide) (.f (j:=6) rfl (by decide) (.f (j:=1) rfl (by decide) .nil))))))) (kI T (ae (i:=0) rfl) (ae (i:=0) rfl) (ar (aq (i:=2) rfl) aI) (jh (hr.le (by(first|lia|omega))))) (λ_=>(hV (hr.le (by(first|lia|omega))) (.cons (i:=0) rfl (by decide) (.cons (i:=1) rfl (by decide) .nil)))) (λ_=>(jm (DG (mz (cm (hr.le (by(first|lia|omega))) (aq (i:=1) rfl) (aq (i:=2) rfl)) (mz (cm (hr.le (by(first|lia|omega))) (aK (aK (aq (i:=3) rfl) (aK aD (aq (i:=0) rfl))) aD) (aK (aK (aq (i:=3) rfl) (aK aD (aq (i:=4) rfl))) aD)) (mz (cm (hr.le (by(first|lia|omega))) (aK (aq (i:=3) rfl) (aK (aq (i:=5) rfl) (aK (aK aD (aq (i:=4) rfl)) (aK aD (aq (i:=0) rfl))))) (aq (i:=6) rfl)) AM)))))) (λ_=>(aq (i:=0) rfl))) (az (vV (i:=3) rfl (by decide) (sIf (cm (hr.le (by(first|lia|omega))) (aq (i:=7) rfl) (bK aI)) (aK aD (aq (i:=4) rfl)) aD)) aP))) aP) (az (fG (aq (i:=3) rfl)) aP)))
noncomputable def pk:List D→Option D:=dp (cC 8 3 qt)
noncomputable abbrev jE:PF:=eg pk
theorem nG(T:TopF X fa u):FnOk X 15 (.ref (fa 74)) jE:=(kFn T (ae (i:=16) rfl) (by decide +kernel) (by decide +kernel) (fits (by decide +kernel)) (by decide +kernel) rfl rfl (by decide +kernel) oh rfl (wK T)).fresh
end Mine
namespace Mine
section
variable{X:Cx}{A:Around}{ft ftL:FT}{env:Env}{fa:Nat→Addr}{u:Addr}{p q r pl:PE}{tgt:Expr}
noncomputable abbrev lD:FT:=⟨[("name_index",.l),("get_name",.l),("extrainfo",.l),("argval",.l)],["UNKNOWN"],none⟩
noncomputable def r5(u:Addr):PS:=ak (qIf (aE .IsNot (aa 1) fQ) By (ak (dS (de (ag (mX (.ref u)) (ag (a8 ⟨#[]⟩) aw)))) aH)) aH
theorem BY(T:TopF X fa u):∀A env,Room A 14→bj X A lD env (fnB 5) (r5 u):=λA env hr=>
 az (ie (cm (hr.le (by(first|lia|omega))) (aq (i:=1) rfl) mA) DH (az (fG (eO (ar (Di T (ae (i:=0) rfl)) (ar (br (by decide +kernel)) aI)))) aP)) aP
noncomputable def gG(u:Addr):PF:=lG 4 (r5 u)
noncomputable def nh(k i:Nat):Arg:=(fO k).args.getD i ⟨"",none,⟨0,0,0,0⟩⟩
noncomputable def kwAt(k:Nat):Arg:=(fO k).kwarg.getD ⟨"",none,⟨0,0,0,0⟩⟩
theorem tV(T:TopF X fa u):oe X 15 (.ref (fa 5)) "more" (gG u):=by
 obtain⟨o,fd,K⟩:=T.fn 5 "_get_name_info" (ae (i:=1) rfl)
 exact z3 (a1:=nh 5 0) (a2:=nh 5 1) (a3:=kwAt 5) (ft:=lD) K.ho K.hd K.hcd K.hb ⟨λ_ _=>by rw[jP K.hp K.df K.kd];rfl,λ_ _ _=>by rw[jP K.hp K.df K.kd];rfl⟩ (by rw[K.sc];decide +kernel) (by rw[K.sc];decide +kernel) K.gl K.bl K.clo
  (by rw[K.sc];exact fits (by decide +kernel)) (λy hy=>by simp[lD]at hy) rfl (by decide +kernel) (BY T)
theorem Cb{np pos:Pos}{e1 e2:Expr}(T:TopF X fa u)(hr:Room A 15)(hx:("_get_name_info" : Str)∈ft.gt)(h1:SoundE X A ft env e1 p)(h2:SoundE X A ft env e2 q)
  (he1:autoParam (∀env,starEach [e1,e2] env=(false,eval e1 env)::starEach [e2] env) aR) (he2:autoParam (∀env,starEach [e2] env=(false,eval e2 env)::starEach [] env) aR) :
  SoundE X A ft env (.Call (.Name "_get_name_info" np) [e1,e2] [] pos) (mj (gG u) p q):=by
 obtain⟨o,fd,K⟩:=T.fn 5 "_get_name_info" (ae (i:=1) rfl)
 exact CE (k:="more") hx K.nm K.ho K.hd h1 h2 (tV T) hr he1 he2
theorem Cc{np pos kp:Pos}{e1 e2 e3:Expr}(T:TopF X fa u)(hr:Room A 15)(hx:("_get_name_info" : Str)∈ft.gt)(h1:SoundE X A ft env e1 p)(h2:SoundE X A ft env e2 q)(h3:SoundE X A ft env e3 r)
  (he1:autoParam (∀env,starEach [e1,e2] env=(false,eval e1 env)::starEach [e2] env) aR) (he2:autoParam (∀env,starEach [e2] env=(false,eval e2 env)::starEach [] env) aR) :
  SoundE X A ft env (.Call (.Name "_get_name_info" np) [e1,e2] [⟨some "more",e3,kp⟩] pos) (ml (gG u) p q r):=by
 obtain⟨o,fd,K⟩:=T.fn 5 "_get_name_info" (ae (i:=1) rfl)
 exact CF hx K.nm K.ho K.hd h1 h2 h3 (tV T) hr he1 he2
structure cM (X:Cx) (c P:Addr):Prop where
 hC:CodeHd X.g0 c P
 hB:X.g0.BuiltinsAt X.mg P
 hgP:mainGlobals≠P
noncomputable abbrev cA:Str:="law.<locals>."
theorem Cd{c P:Addr}{kc:Nat}{js:List (Option Nat)}{np pos kwp lpos:Pos}{e1 e3:Expr}{b1 b2:Arg}{params:Arguments}{lbody:Expr}{lscope:Scope}{kw:Str}(T:TopF X fa u)(W:cM X c P)(hr:Room A 15)(hx:("_get_name_info" : Str)∈ft.gt)
  (hlp:params={ posonlyargs:=[],args:=[b1,b2],vararg:=none,kwonlyargs:=[],kw_defaults:=[],kwarg:=none,defaults:=[] }) (hkw:b2.arg=kw)
  (hftc:ft.cd=some (.ref c,cA)) (fitL:Fits ftL lscope) (hcap:Capt ft ftL.nt js) (hlbody:∀A env',Room A 11→SoundE X A ftL env' lbody pl) (h1:SoundE X A ft env e1 p) (h3:SoundE X A ft env e3 r)
  (hdef:autoParam (∀env,defaultsOf params env=([],[])) aR)
  (hbk:autoParam (∀(fd:FuncData) v1 v2 v,bindArgs { fd with params:=fO 5,defaults:=.none,kwdefaults:=.none } ⟨[v1,v2],[(kw,v)]⟩=(alloc (eS #[] 0) >>= λa=>(forIn [(kw,v)] PUnit.unit (λp _=>do nsSet a p.1 p.2;pure (ForInStep.yield PUnit.unit))) >>= λ_=>pure [((nh 5 0).arg,v1),((nh 5 1).arg,v2),((kwAt 5).arg,.ref a)])) aR) (hb12:autoParam (lJ params b1.arg b2.arg) aR)
  (hlco:autoParam (lscope.isCoroutine=false) aR) (hlgen:autoParam (lscope.isGenerator=false) aR) (hlpar:autoParam (jV ftL [b1.arg,b2.arg]=true) aC) (hcdL:autoParam (ftL.cd=none) aR)
  (he1:autoParam (∀env,starEach [e1,.Lambda params lbody lscope lpos] env=(false,eval e1 env)::starEach [.Lambda params lbody lscope lpos] env) aR) :
  SoundE X A ft env (.Call (.Name "_get_name_info" np) [e1,.Lambda params lbody lscope lpos] [⟨some kw,e3,kwp⟩] pos) (mm kc P lpos cA js p r pl):=by
 subst hkw
 obtain⟨o,fd,K⟩:=T.fn 5 "_get_name_info" (ae (i:=1) rfl)
 exact yY (a1:=nh 5 0) (a2:=nh 5 1) (a3:=kwAt 5) (ftI:=lD) (xarg:="argval") (pt:=aE .IsNot (aa 1) fQ) (pr:=de (ag (aa 3) (ag (aa 3) aw))) hx K.nm K.pos K.ho K.hd K.hcd K.hb ⟨λ_ _=>by rw[jP K.hp K.df K.kd];rfl,λ_ _ _=>by rw[jP K.hp K.df K.kd,hbk]⟩
  (by rw[K.sc];decide +kernel) (by rw[K.sc];decide +kernel) K.gl K.bl K.clo (by rw[K.sc];exact fits (by decide +kernel)) rfl rfl
  (λA env hr=>cm (hr.le (by(first|lia|omega))) (aq (i:=1) rfl) mA) (λ_ _ _ _=>rfl) (λA env hr=>eO (ar (aq (i:=3) rfl) (ar (aq (i:=3) rfl) aI))) (λ_ _ _ _ _=>rfl)
  (hr.le (by(first|lia|omega))) hftc W.hC W.hB W.hgP hdef fitL hcap hlp hb12 hlco hlgen hlpar hcdL hlbody h1 h3 he1
end
end Mine
namespace Mine
variable{X:Cx}{fa:Nat→Addr}{u:Addr}
noncomputable abbrev bb(cd:Option (Value×Str)):FT:=⟨[(("script",.c):Str×VK),(("cells",.c):Str×VK),(("total",.c):Str×VK),(("letters",.c):Str×VK),(("signs",.l):Str×VK),(("pieces",.c):Str×VK),(("texts",.l):Str×VK),(("text",.l):Str×VK),(("row",.c):Str×VK),(("order",.l):Str×VK),(("low",.c):Str×VK),(("far",.l):Str×VK),(("masks",.l):Str×VK),(("tape",.l):Str×VK),(("told",.c):Str×VK),(("asked",.l):Str×VK),(("tests",.l):Str×VK),(("shorn",.c):Str×VK),(("left",.l):Str×VK),(("found",.l):Str×VK),(("read",.l):Str×VK),(("whole",.l):Str×VK),(("edges",.l):Str×VK),(("dual",.l):Str×VK),(("infos",.l):Str×VK),(("ranks",.c):Str×VK),(("pair",.l):Str×VK),(("names",.l):Str×VK),(("words",.l):Str×VK),(("sets",.l):Str×VK),(("number",.l):Str×VK),(("mask",.c):Str×VK),(("said",.l):Str×VK),(("parts",.c):Str×VK),(("trees",.c):Str×VK),(("others",.c):Str×VK),(("active",.l):Str×VK),(("sizes",.c):Str×VK),(("homes",.l):Str×VK)],[("enumerate" : Str),("sum" : Str),("_law_letters" : Str),("_law_signs" : Str),("sorted" : Str),("range" : Str),("iter" : Str),("_law_octets" : Str),("_law_taped" : Str),("list" : Str),("_strip_quoted_realnames" : Str),("_iter_escaped_chars" : Str),("_check_parenthesis" : Str),("_law_tree" : Str),("_law_edges" : Str),("_get_name_info" : Str),("UNKNOWN" : Str),("pretty_flags" : Str),("hex" : Str),("zip" : Str),("_law_trees" : Str),("max" : Str)],cd⟩
noncomputable abbrev xe:FT:=⟨[("k",.l),("cell",.l),("script",.f)],["sum"],none⟩
noncomputable abbrev rt:FT:=⟨[("x",.l)],[],none⟩
noncomputable abbrev xf:FT:=⟨[("k",.l),("sign",.l),("pieces",.f),("cells",.f)],[],none⟩
noncomputable abbrev xg:FT:=⟨[("k",.l),("cells",.f)],[],none⟩
noncomputable abbrev xh:FT:=⟨[("weight",.l),("k",.l)],[],none⟩
noncomputable abbrev xi:FT:=⟨[("k",.l),("letters",.f)],[],none⟩
noncomputable abbrev xj:FT:=⟨[("turn",.l),("total",.f)],[],none⟩
noncomputable abbrev xl:FT:=⟨[("mask",.l),("low",.f)],[],none⟩
noncomputable abbrev xm:FT:=⟨[("mask",.l),("low",.f)],[],none⟩
noncomputable abbrev xn:FT:=⟨[("number",.l),("test",.l)],["ISTERMINAL","ISNONTERMINAL","ISEOF"],none⟩
noncomputable abbrev xo:FT:=⟨[("test",.l)],["isinstance","bool"],none⟩
noncomputable abbrev uZ:FT:=⟨[("one",.l)],[],none⟩
noncomputable abbrev u4:FT:=⟨[("pair",.l)],["EXACT_TOKEN_TYPES"],none⟩
noncomputable abbrev u5:FT:=⟨[("k",.l),("sign",.l),("shorn",.f)],["len"],none⟩
noncomputable abbrev u6:FT:=⟨[("sign",.l)],["EXACT_TOKEN_TYPES"],none⟩
noncomputable abbrev u7:FT:=⟨[("place",.l),("unit",.l)],[],none⟩
noncomputable abbrev u9(cd:Option (Value×Str)):FT:=⟨[("sign",.l),("total",.f),("letters",.f),("told",.f)],["_get_name_info","EXACT_TOKEN_TYPES"],cd⟩
noncomputable abbrev pW:FT:=⟨[("number",.l),("more",.l),("told",.f)],[],none⟩
noncomputable abbrev vc:FT:=⟨[("k",.l),("row",.f),("total",.f)],[],none⟩
noncomputable abbrev vd:FT:=⟨[("pair",.l)],[],none⟩
noncomputable abbrev ve:FT:=⟨[("place",.l)],["hex"],none⟩
noncomputable abbrev vf:FT:=⟨[("k",.l),("word",.l),("mask",.f)],[],none⟩
noncomputable abbrev vh:FT:=⟨[("k",.l),("word",.l),("parts",.f)],[],none⟩
noncomputable abbrev vj:FT:=⟨[("mask",.l),("trees",.f),("ranks",.f)],["_law_active"],none⟩
noncomputable abbrev vk:FT:=⟨[("mask",.l)],[],none⟩
noncomputable abbrev vm:FT:=⟨[("mask",.l),("others",.f),("ranks",.f)],["_law_active"],none⟩
noncomputable abbrev vn:FT:=⟨[("mask",.c)],["sum","range"],none⟩
noncomputable abbrev pX:FT:=⟨[("k",.l),("mask",.f)],[],none⟩
noncomputable abbrev vo:FT:=⟨[("one",.l),("moves",.l),("mask",.f)],[],none⟩
noncomputable abbrev vq:FT:=⟨[("one",.l),("sizes",.f),("mask",.f)],[],none⟩
noncomputable abbrev vr:FT:=⟨[("one",.l),("sizes",.f),("mask",.f)],[],none⟩
noncomputable abbrev vt:FT:=⟨[("one",.l)],[],none⟩
noncomputable def rJ:Pos:=⟨225,53,225,102⟩
noncomputable def z9:PS:=bf 1 (aY [none,none,some 0] (bw fg (ag (aM (ag (ah 634) (ag (ah 27) (ag (ah 371) (ag (ah 106) (aw)))))) (aw))) (.t [0,1]) (cn) (aS (ao .Add (aa 1) (bp oF (ag (aY [none] (cE (aW (aa 2) (aQ (aa 0)) (aQ (ah 60)) (aQ (ah 4)))) (.n 0) (cn) (aS (ao .Mod (aa 0) (ah 5040)))) (aw))))))
noncomputable def Ac:PS:=bf 2 (bp oF (ag (aa 1) (aw)))
noncomputable def Ae:PS:=bf 3 (aJ nc (aG (aa 1) (aX)))
noncomputable def Ag:PS:=bf 4 (aJ su (aG (aa 1) (aG (aa 3) (aX))))
noncomputable def Ai:PS:=bf 5 (aM (ag (a8 ⟨#[]⟩) (ag (a8 ⟨#[92,40]⟩) (ag (a8 ⟨#[34,41,34]⟩) (ag (a8 ⟨#[92,92]⟩) (ag (a8 ⟨#[34,92,34,41,34]⟩) (ag (a8 ⟨#[97,92,34]⟩) (ag (a8 ⟨#[34,34]⟩) (ag (a8 ⟨#[]⟩) (ag (a8 ⟨#[]⟩) (ag (a8 ⟨#[]⟩) (ag (a8 ⟨#[]⟩) (ag (a8 ⟨#[]⟩) (ag (a8 ⟨#[]⟩) (ag (a8 ⟨#[]⟩) (aw))))))))))))))))
noncomputable def Ak:PS:=bf 6 (aY [none,none,some 5,some 1] (bw fg (ag (aa 4) (aw))) (.t [0,1]) (cn) (aS (ao .Add (ba (aa 2) (ao .Mod (ao .Add (ao .FloorDiv (ba (aa 3) (ao .Mod (aa 0) (ah 4))) (ah 7)) (ao .Mult (ah 9) (aa 0))) (ah 14))) (aa 1))))
noncomputable def Am:PS:=bf 7 (bR "str" cZ (a8 ⟨#[]⟩) (ag (aa 6) (aw)))
noncomputable def Ao:PS:=bf 8 (aY [none,none] (cE (bp gP (ag (aY [none,some 1] (bw cN (ag (ah 4) (aw))) (.n 0) (cn) (aS (de (ag (ao .Mod (ao .FloorDiv (ba (aa 1) (aa 0)) (ah 240)) (ah 21)) (ag (aa 0) (aw)))))) (aw)))) (.t [0,1]) (cn) (aS (aa 1)))
noncomputable def Aq:PS:=bf 9 (aY [none,some 3] (cE (aa 8)) (.n 0) (cn) (aS (ba (aM (ag (ah 14) (ag (ah 15) (ag (ah 17) (ag (ah 19) (ag (ah 20) (ag (ah 21) (ag (ah 22) (ag (ah 24) (ag (ah 31) (ag (ah 32) (aw)))))))))))) (bR "str" lB (a8 ⟨#[43,45,47,38,60,62,61,37,126,94]⟩) (ag (ba (aa 1) (aa 0)) (aw))))))
noncomputable def As:PS:=t6 (de (ag (ao .Mod (aa 2) (ah 13)) (ag (ao .Mult (ao .Sub (ao .Mod (ao .FloorDiv (aa 2) (ah 13)) (ah 5)) (ah 3)) (ao .Pow (ah 2) (ah 32))) (aw)))) [10,11]
noncomputable def sU:PS:=bf 12 (aY [none,some 2] (bw cN (ag (ah 16) (aw))) (.n 0) (cn) (aS (ao .Mod (ao .Add (ao .Mult (aa 0) (ao .Add (ao .Mult (ah 2) (ao .Mod (aa 1) (ah 8))) (ah 1))) (ao .FloorDiv (aa 1) (ah 8))) (ah 16))))
noncomputable def sV:PS:=iF 13 (ao .Add (aJ pj (aG (ao .Add (ao .Add (aa 9) (aY [none,some 10] (cE (aa 12)) (.n 0) (cn) (aS (ao .Add (ah 256) (ao .Mult (aa 0) (ao .Pow (ah 2) (aa 1))))))) (aM (ag (ah 0) (aw)))) (aG (aa 1) (aG (aa 2) (aX))))) (aM (ag (ao .Mod (aa 2) (ah 256)) (aw))))
noncomputable def sW:PS:=bf 14 (aJ lx (dZ 13 (aX)))
noncomputable def sX:PS:=jj 15 (ag (de (ag (aa 14) (ag (de (ag (aa 9) (ag (aY [none,some 10] (cE (aa 12)) (.n 0) (cn) (aS (ao .Mult (aa 0) (ao .Pow (ah 2) (aa 1))))) (aw)))) (aw)))) (ag (de (ag (i5 13) (ag (aM (ag (ao .Mod (aa 2) (ah 256)) (aw))) (aw)))) (aw)))
noncomputable def sY:PS:=bf 16 (aY [none,none] (cE (aM (ag (ah 0) (ag (ah 255) (ag (ah 256) (aw)))))) (.n 0) (cn) (gf (.n 1) (cE (aM (ag (aJ m9 (aG (aa 0) (aX))) (ag (aJ m8 (aG (aa 0) (aX))) (ag (aJ m7 (aG (aa 0) (aX))) (aw)))))) cn (aS (aa 1))))
noncomputable def sZ:PS:=dM 15 (de (ag (ao .Add (aY [none] (cE (aa 16)) (.n 0) (cn) (aS (bp oD (ag (aa 0) (ag (mX (.type "bool")) (aw)))))) (aa 16)) (ag (ao .Add (ao .Mult (aM (ag (b8 true) (aw))) (ah 9)) (aM (ag (b8 true) (ag (b8 false) (ag (b8 true) (ag (b8 true) (ag (b8 false) (ag (b8 false) (ag (b8 false) (ag (b8 true) (ag (b8 false) (aw)))))))))))) (aw))))
noncomputable def s8:PS:=bf 17 (aY [none] (cE (aa 6)) (.n 0) (cn) (aS (pIf (aE .Eq (aW (aa 0) (aA) (aQ (ah 1)) (aA)) (a8 ⟨#[34]⟩)) (aW (aa 0) (aQ (g6 (ah 1))) (aA) (aA)) (aa 0))))
noncomputable def ta:PS:=bf 18 (aJ lu (aG (aa 7) (aX)))
noncomputable def tb:PS:=bf 19 (aY [none] (ql (aa 18)) (.n 0) (kx bP (ba (aa 0) (ah 1))) (aS (aa 0)))
noncomputable def td:PS:=dM 15 (de (ag (de (ag (aa 18) (ag (aa 19) (aw)))) (ag (de (ag (bR "str" cZ (a8 ⟨#[]⟩) (ag (aa 17) (aw))) (ag (aY [none,none,some 17] (bw fg (ag (aa 4) (aw))) (.t [0,1]) (cn) (aS (de (ag (ao .Sub (bp d9 (ag (bR "str" cZ (a8 ⟨#[]⟩) (ag (aW (aa 2) (aA) (aQ (ao .Add (aa 0) (ah 1))) (aA)) (aw))) (aw))) (ah 1)) (ag (aa 1) (aw)))))) (aw)))) (aw))))
noncomputable def te:PS:=dM 15 (de (ag (ao .Add (aY [none] (nL (a8 ⟨#[40,41,42,124]⟩)) (.n 0) (cn) (aS (mn bP (aa 0)))) (aM (ag (gB .Is (aJ dk (aG (aW (aa 7) (aA) (aQ (g6 (ah 1))) (aA)) (aX))) (b8 false)) (ag (gB .Is (aJ dk (aG (ao .Add (aa 7) (a8 ⟨#[41,34]⟩)) (aX))) (b8 false)) (aw))))) (ag (aM (ag (ah 7) (ag (ah 8) (ag (ah 16) (ag (ah 18) (ag (b8 true) (ag (b8 true) (aw)))))))) (aw))))
noncomputable def tm:PS:=bf 20 (aY [none,none] (cE (aa 19)) (.t [0,1]) (cn) (aS (aa 1)))
noncomputable def tn:PS:=bf 21 (aJ (eU 9) (aG (aa 6) (aG (aa 20) (tY (aw) (dZ 15 (aX))))))
noncomputable def tq:PS:=bf 22 (aJ (fC 9) (aG (aa 21) (aG (ah 0) (aG (ah 1) (aG (ah 16) (aX))))))
noncomputable def tu:PS:=bf 23 (aJ (fC 9) (aG (aa 21) (aG (ah 0) (aG (ah 0) (aG (ah 18) (aX))))))
noncomputable def tv(u P:Addr):PS:=bf 24 (aY [none,some 2,some 3,some 14] (cE (aa 20)) (.n 0) (aE .In (aa 0) (aa 2)) (aS (mm 0 P rJ cA [none,none,some 3] (mn bP (aa 0)) (aa 1) (ao .Add (bR "list" eH (ba (aa 2) (ah 0)) (ag (aa 0) (aw))) (aa 1)))))
noncomputable def tx:PS:=dM 15 (de (ag (aa 24) (ag (aY [none,some 8,some 2] (bw cN (ag (ah 4) (aw))) (.n 0) (cn) (aS (de (ag (ao .Add (bR "list" eH (aa 1) (ag (aa 0) (aw))) (aa 2)) (ag (ao .Add (bR "list" eH (aa 1) (ag (aa 0) (aw))) (aa 2)) (aw)))))) (aw))))
noncomputable def tA:PS:=bf 25 (aY [none] (cE (aa 24)) (.n 0) (cn) (aS (ba (aa 0) (ah 0))))
noncomputable def yh(u P:Addr):PS:=ak (dM 15 (de (ag (aM (ag (gB .Is (ba (aa 26) (ah 0)) (mX (.ref u))) (ag (aW (aa 26) (aQ (ah 1)) (aA) (aA)) (aw)))) (ag (aM (ag (b8 true) (ag (de (ag (a8 ⟨#[]⟩) (aw))) (aw)))) (aw))))) (aH)
noncomputable def tB(u P:Addr):PS:=fF (.n 26) (cE (aM (ag (mj (gG u) (ah 0) (fQ)) (ag (ml (gG u) (ba (aa 9) (ah 0)) (fQ) (aa 2)) (aw))))) (yh u P) (aH)
noncomputable def tC:PS:=bf 27 (ao .Add (aM (ag (a8 ⟨#[79,80,84,73,77,73,90,69,68]⟩) (ag (a8 ⟨#[78,69,87,76,79,67,65,76,83]⟩) (ag (a8 ⟨#[86,65,82,65,82,71,83]⟩) (ag (a8 ⟨#[86,65,82,75,69,89,87,79,82,68,83]⟩) (ag (a8 ⟨#[78,69,83,84,69,68]⟩) (ag (a8 ⟨#[71,69,78,69,82,65,84,79,82]⟩) (ag (a8 ⟨#[78,79,70,82,69,69]⟩) (ag (a8 ⟨#[67,79,82,79,85,84,73,78,69]⟩) (ag (a8 ⟨#[73,84,69,82,65,66,76,69,95,67,79,82,79,85,84,73,78,69]⟩) (ag (a8 ⟨#[65,83,89,78,67,95,71,69,78,69,82,65,84,79,82]⟩) (aw)))))))))))) (aY [none] (bw cN (ag (ah 10) (ag (ah 32) (aw)))) (.n 0) (cn) (aS (bp ll (ag (ao .Pow (ah 2) (aa 0)) (aw))))))
noncomputable def tD:PS:=bf 28 (aW (aa 27) (aQ (aa 10)) (aQ (ao .Add (aa 10) (ah 4))) (aA))
noncomputable def tE:PS:=dM 15 (de (ag (aJ jF (aG (ao .Add (ao .Sub (ao .Pow (ah 2) (ah 32)) (ah 1)) (aa 11)) (aX))) (ag (bR "str" cZ (a8 ⟨#[44,32]⟩) (ag (ao .Add (aa 27) (pIf (aE .NotEq (aa 11) (ah 0)) (aM (ag (bp ll (ag (aa 11) (aw))) (aw))) (aM (aw)))) (aw))) (aw))))
noncomputable def tF:PS:=jj 29 (aw)
noncomputable def rK:PS:=ak (bf 32 (aJ jF (aG (aa 30) (aX)))) (ak (bf 33 (bR "str" oE (aa 32) (ag (a8 ⟨#[44,32]⟩) (aw)))) (ak (dM 15 (de (ag (aa 32) (ag (rU (bR "str" cZ (a8 ⟨#[44,32]⟩) (ag (aY [none,none,some 31] (bw fg (ag (aa 28) (aw))) (.t [0,1]) (aE .Eq (ao .Mod (ao .FloorDiv (aa 2) (ao .Pow (ah 2) (aa 0))) (ah 2)) (ah 1)) (aS (aa 1))) (aw))) (a8 ⟨#[48,120,48]⟩)) (aw))))) (ak (dM 29 (bp oF (ag (aY [none,none,some 33] (bw fg (ag (aa 28) (aw))) (.t [0,1]) (aE .In (aa 1) (aa 2)) (aS (ao .Pow (ah 2) (aa 0)))) (aw)))) (aH))))
noncomputable def tG:PS:=fF (.t [30,31]) (bw zS (ag (ba (aa 14) (ah 1)) (ag (aa 12) (aw)))) (rK) (aH)
noncomputable def tH:PS:=bf 34 (aJ nX (aG (aa 29) (aG (aa 22) (aX))))
noncomputable def tI:PS:=bf 35 (aJ nX (aG (aa 29) (aG (aa 23) (aX))))
noncomputable def tJ:PS:=bf 36 (aY [none,some 34,some 25] (cE (aa 34)) (.n 0) (cn) (aS (aJ jE (aG (aa 0) (aG (aa 1) (aG (aa 2) (aX)))))))
noncomputable def tK:PS:=lq 15 (aM (ag (de (ag (bp iX (ag (aa 35) (aw))) (ag (bp iX (ag (aY [none] (cE (aa 34)) (.n 0) (cn) (aS (ao .Sub (ah 15) (aa 0)))) (aw))) (aw)))) (ag (de (ag (aY [none,some 35,some 25] (cE (aa 34)) (.n 0) (cn) (aS (aJ jE (aG (ao .Sub (ah 15) (aa 0)) (aG (aa 1) (aG (aa 2) (aX))))))) (ag (aa 36) (aw)))) (aw))))
noncomputable def tL:PS:=bf 37 (aY [none] (bw cN (ag (ah 16) (aw))) (.n 0) (cn) (aS (bp oF (ag (aY [none,some 0] (bw cN (ag (ah 4) (aw))) (.n 0) (cn) (aS (ao .Mod (ao .FloorDiv (aa 1) (ao .Pow (ah 2) (aa 0))) (ah 2)))) (aw)))))
noncomputable def rL:PS:=ak (bf 38 (aY [none,none,some 31] (bw zS (ag (aa 34) (ag (aa 36) (aw)))) (.t [0,1]) (aE .Eq (ao .BitOr (ao .BitXor (aa 2) (aa 0)) (aa 1)) (aa 1)) (aS (aa 0)))) (ak (dM 15 (de (ag (aY [none,some 37,some 31] (cE (aa 38)) (.n 0) (cn) (aS (ba (aa 1) (ao .BitAnd (aa 2) (aa 0))))) (ag (aM (ag (bp zR (ag (aY [none,some 37,some 31] (cE (aa 34)) (.n 0) (cn) (aS (ba (aa 1) (ao .BitAnd (aa 2) (aa 0))))) (aw))) (aw))) (aw))))) (aH))
noncomputable def tM:PS:=fF (.n 31) (cE (aa 29)) (rL) (aH)
noncomputable def tN:PS:=dS (gB .Eq (aY [none] (cE (aa 15)) (.n 0) (aE .NotEq (ba (aa 0) (ah 0)) (ba (aa 0) (ah 1))) (aS (aa 0))) (aM (aw)))
noncomputable def qw(u P:Addr):PS:=ak z9 (ak Ac (ak Ae (ak Ag (ak Ai (ak Ak (ak Am (ak Ao (ak Aq (ak As (ak sU (ak sV (ak sW (ak sX (ak sY (ak sZ (ak s8 (ak ta (ak tb (ak td (ak te (ak tm (ak tn (ak tq (ak tu (ak (tv u P) (ak tx (ak tA (ak (tB u P) (ak tC (ak tD (ak tE (ak tF (ak tG (ak tH (ak tI (ak tJ (ak tK (ak tL (ak tM (ak tN (aH)))))))))))))))))))))))))))))))))))))))))
end Mine
end
section
open PySem PySem.Calls PySem.Spec PyProof.Rows PySem.W
set_option maxRecDepth 20000
namespace Mine
section
variable{X:Cx}{A:Around}{ft ft':FT}{env:Env}{Γ Γ':List Slot}{σ:Sg}{s:Shared}{d:D}{c':List Cell}{js:List (Option Nat)}
theorem AR{i:Nat}{y:Str}{py spos:Pos}{elt t1 i1 t2 i2:Expr}{f1 f2:List Expr}{sc:Scope}{pos:Pos}{src:PL}{tg:Tg}{t:PB}{src2:PL}{tg2:Tg}{tt2:PB}{p:PE}(hi:ft.nt[i]?=some (y,.l))(fit:Fits ft' sc)(hcap:Capt ft ft'.nt js)(h1:et X A ft env t1 i1 src)
  (hT:∀env',dJ X A ft' env' t1 tg) (ht:∀env',ej X A ft' env' f1 t) (h2:∀env',et X A ft' env' t2 i2 src2) (hT2:∀env',dJ X A ft' env' t2 tg2) (ht2:∀env',ej X A ft' env' f2 tt2) (hp:∀env',SoundE X A ft' env' elt p)
  (hs:autoParam (∀env x,foldedSetIterable i1 env x=pure x) aR) (hs2:autoParam (∀env x,foldedSetIterable i2 env x=pure x) aR) (hcdc:autoParam (∀v,ft'.cd=some v→ft.cd=some v) aC)
  (hl:autoParam ((py.line==pos.line && !(sc.names.any λ(n,k)=>n==y && (k==.local || k==.cell)))=true) aR) :
  aN X A ft env (.Assign [.Name y py] (.ListComp elt [⟨t1,i1,f1,0⟩,⟨t2,i2,f2,0⟩] sc pos) spos) (bf i (aY js src tg t (gf tg2 src2 tt2 (aS p)))):=λΓ σ s fl Γ' c' I F h=>by
 (refine mE2 h ?_;(try clear h);intro d c1 e0 h)
 cases h
 obtain⟨ds,c1,out,Γe,e1,e2,hlen,rfl⟩:=gY e0
 rw[exec_Assign_Name_used _ _ _ _ (mK F.ok.kind (jv (F.ok.kinds _ (dc hi))) hl)]
 refine wpAny_bind (wpAny_standAt (wpAny_bind ?_))
 show wpAny _ A (do let _ ←comprehension (.ListComp elt [⟨t1,i1,f1,0⟩,⟨t2,i2,f2,0⟩] sc pos) sc env _ (newList []) false (eval i1 env) (some (assign (.Name y py) env))) _ _ s
 refine wpAny_bind (wpAny_mono (iV (use:=some (assign (.Name y py) env)) (Q:=λ_ s'=>PostS X ft env σ s .next (aT i (.lst out) Γ) c' .next s') (rest:=[⟨t2,i2,f2,0⟩]) fit hcdc hcap h1 (hs _) (λ_ _ _=>ur) hT ht (λacc env'=>yZ (h2 env') (hT2 env') (ht2 env') (ue (hp env')) hs2) I F e1 e2 hlen ?_)
  (λ_ s' hq=>wpAny_pure (wpAny_pure hq)) λ_ _ e=>e)
 intro acc C σ3 s3 m q3 I3 x3 F3 r3 hn hC hC1 hC2
 show wpAny _ A (assign (.Name y py) env (.ref acc)) _ _ _
 refine wpAny_assign_Name (cT I3 F3 hi (by intro q;cases q) (sl:=.val (.lst out)) r3 λs4 I4 x4 F4=>?_)
 have hCW:¬FW ft env C:=by
  rintro (rfl|⟨i,x,h1,h2⟩)
  ·obtain⟨m,hn,_⟩:=F.loc
   obtain⟨o,e⟩:=Heap.Ns.there hn
   rw[hC]at e;cases e
  ·obtain⟨c,hc,ov,⟨o,ho,_⟩,_⟩:=F.cel i x _ h1 (by intro q;cases q)
   rw[h2]at hc;cases hc
   rw[hC]at ho;cases ho
 refine⟨m,hn.at' λo e=>x4.keep _ o e hC1 hCW,λh' hs'=>?_⟩
 have keep:∀a o,s4.heap.get? a=some o→¬(a=C)→h'.get? a=some o:=λa o e ha=>(hs'.2 a ha).trans e
 have I5:X.Inv σ3 { s4 with heap:=h',toks:=s4.toks }:=Mine.Inv.heap (W:=λa=>a=C) I4 keep λa e=>e▸⟨hC1,hC2⟩
 have x5:Ext (λa=>a=C) NoG σ3 s4 σ3 { s4 with heap:=h',toks:=s4.toks }:=Ext.heap keep
 have F5:Frm ft env (aT i (.lst out) Γ) σ3 h':=F4.extW x5 (λq=>hCW (.inl q.symm)) λi y k c hi hk hc q=>by
  obtain⟨c',hc',ov,⟨o,ho,_⟩,_⟩:=F.cel i y k hi hk
  rw[hc]at hc';cases hc'
  subst q
  rw[hC]at ho;cases ho
 have xx:Ext (λa=>FW ft env a∨a=C) NoG σ s σ3 { s4 with heap:=h',toks:=s4.toks }:=((x3.up).trans I3 (x4.weaken (λ_ h=>.inl h) λ_ h=>h)).trans I4 (x5.weaken (λ_ h=>.inr h) λ_ h=>h)
 refine⟨σ3,q3,I5,⟨xx.le,?_,?_,?_,xx.gens,xx.os⟩,F5,trivial⟩
 ·obtain⟨m,hm,hf⟩:=xx.own
  exact⟨m,hm,λa ha=>(hf a ha).elim .inl λq=>q.elim .inr λq=>.inl (q▸hC)⟩
 ·intro a o e n
  rcases xx.fresh a o e n with h|h|h|h
  ·exact .inl h
  ·exact .inr (.inl h)
  ·exact .inr (.inr h)
  ·exact .inl (h▸hC)
 ·intro a o e n hw
  refine xx.keep a o e n λq=>q.elim hw λq=>?_
  rw[q,hC]at e;cases e
theorem sN{nt:List (Str×VK)}{gt:List Str}{cd:Option (Value×Str)}{sc:Scope}(h:wZ ⟨nt,gt,none⟩ sc=true):Fits ⟨nt,gt,cd⟩ sc:=fits (ft:=⟨nt,gt,cd⟩) h
end
end Mine
end
section
open PySem PySem.Calls PySem.Spec PyProof PyProof.Rows PySem.W
set_option maxRecDepth 20000
set_option maxHeartbeats 4000000
set_option maxHeartbeats 4000000
namespace Mine
variable{X:Cx}{fa:Nat→Addr}{u:Addr}
theorem dl0(T:TopF X fa u){c P:Addr}(W:cM X c P)(cd:Option (Value×Str))(hcd:cd=some (.ref c,cA)):∀A env,Room A 80→aN X A (bb cd) env (bk 0 (fnB 75)) z9:=λA env hr=>
 (qC (i:=1) rfl (cg (ft':=xe) (js:=[none,none,some 0]) (fits (by decide +kernel)) (.l (.l (.f (j:=0) rfl (by decide) .nil))) (kI T (ae (i:=0) rfl) (ae (i:=0) rfl) (ar (bK (ar aD (ar aD (ar aD (ar aD aI))))) aI) (jh (hr.le (by(first|lia|omega))))) (λ_=>(hV (hr.le (by(first|lia|omega))) (.cons (i:=0) rfl (by decide) (.cons (i:=1) rfl (by decide) .nil)))) (λ_=>cJ) (λ_=>(aK (aq (i:=1) rfl) (kB T (ae (i:=0) rfl) (ae (i:=7) rfl) (ar (cg (ft':=rt) (js:=[none]) (fits (by decide +kernel)) (.l .nil) (eN (hr.le (by(first|lia|omega))) (dC (aq (i:=2) rfl) (dh (aq (i:=0) rfl)) (dh aD) (dh aD))) (λ_=>(bX (i:=0) rfl (by decide))) (λ_=>cJ) (λ_=>(aK (aq (i:=0) rfl) aD))) aI) (zv (hr.le (by(first|lia|omega)))))))) (λ_ h=>fV h))
theorem dl1(T:TopF X fa u){c P:Addr}(W:cM X c P)(cd:Option (Value×Str))(hcd:cd=some (.ref c,cA)):∀A env,Room A 80→aN X A (bb cd) env (bk 1 (fnB 75)) Ac:=λA env hr=>
 (dx (i:=2) rfl (by decide) (kB T (ae (i:=1) rfl) (ae (i:=7) rfl) (ar (aq (i:=1) rfl) aI) (zv (hr.le (by(first|lia|omega))))))
theorem dl2(T:TopF X fa u){c P:Addr}(W:cM X c P)(cd:Option (Value×Str))(hcd:cd=some (.ref c,cA)):∀A env,Room A 80→aN X A (bb cd) env (bk 2 (fnB 75)) Ae:=λA env hr=>
 (dx (i:=3) rfl (by decide) (cw T (ae (i:=2) rfl) (ae (i:=9) rfl) (bO (aq (i:=1) rfl) d8) (rT T) hr (by(first|lia|omega))))
theorem dl3(T:TopF X fa u){c P:Addr}(W:cM X c P)(cd:Option (Value×Str))(hcd:cd=some (.ref c,cA)):∀A env,Room A 80→aN X A (bb cd) env (bk 3 (fnB 75)) Ag:=λA env hr=>
 (dx (i:=4) rfl (by decide) (cw T (ae (i:=3) rfl) (ae (i:=10) rfl) (bO (aq (i:=1) rfl) (bO (aq (i:=3) rfl) d8)) (yK T) hr (by(first|lia|omega))))
theorem dl4(T:TopF X fa u){c P:Addr}(W:cM X c P)(cd:Option (Value×Str))(hcd:cd=some (.ref c,cA)):∀A env,Room A 80→aN X A (bb cd) env (bk 4 (fnB 75)) Ai:=λA env hr=>
 (@dx _ _ _ _ (5) _ _ _ _ _ _ rfl (by decide) (@bK _ _ _ _ _ _ _ (@ar _ _ _ _ _ _ _ _ _ (@br _ _ _ _ _ _ _ _ (by decide +kernel)) (@ar _ _ _ _ _ _ _ _ _ (@br _ _ _ _ _ _ _ _ (by decide +kernel)) (@ar _ _ _ _ _ _ _ _ _ (@br _ _ _ _ _ _ _ _ (by decide +kernel)) (@ar _ _ _ _ _ _ _ _ _ (@br _ _ _ _ _ _ _ _ (by decide +kernel)) (@ar _ _ _ _ _ _ _ _ _ (@br _ _ _ _ _ _ _ _ (by decide +kernel)) (@ar _ _ _ _ _ _ _ _ _ (@br _ _ _ _ _ _ _ _ (by decide +kernel)) (@ar _ _ _ _ _ _ _ _ _ (@br _ _ _ _ _ _ _ _ (by decide +kernel)) (@ar _ _ _ _ _ _ _ _ _ (@br _ _ _ _ _ _ _ _ (by decide +kernel)) (@ar _ _ _ _ _ _ _ _ _ (@br _ _ _ _ _ _ _ _ (by decide +kernel)) (@ar _ _ _ _ _ _ _ _ _ (@br _ _ _ _ _ _ _ _ (by decide +kernel)) (@ar _ _ _ _ _ _ _ _ _ (@br _ _ _ _ _ _ _ _ (by decide +kernel)) (@ar _ _ _ _ _ _ _ _ _ (@br _ _ _ _ _ _ _ _ (by decide +kernel)) (@ar _ _ _ _ _ _ _ _ _ (@br _ _ _ _ _ _ _ _ (by decide +kernel)) (@ar _ _ _ _ _ _ _ _ _ (@br _ _ _ _ _ _ _ _ (by decide +kernel)) (@aI _ _ _ _ _) (by intros;first|rfl|exact .inl rfl|exact .inr rfl|with_unfolding_all rfl|assumption)) (by intros;first|rfl|exact .inl rfl|exact .inr rfl|with_unfolding_all rfl|assumption)) (by intros;first|rfl|exact .inl rfl|exact .inr rfl|with_unfolding_all rfl|assumption)) (by intros;first|rfl|exact .inl rfl|exact .inr rfl|with_unfolding_all rfl|assumption)) (by intros;first|rfl|exact .inl rfl|exact .inr rfl|with_unfolding_all rfl|assumption)) (by intros;first|rfl|exact .inl rfl|exact .inr rfl|with_unfolding_all rfl|assumption)) (by intros;first|rfl|exact .inl rfl|exact .inr rfl|with_unfolding_all rfl|assumption)) (by intros;first|rfl|exact .inl rfl|exact .inr rfl|with_unfolding_all rfl|assumption)) (by intros;first|rfl|exact .inl rfl|exact .inr rfl|with_unfolding_all rfl|assumption)) (by intros;first|rfl|exact .inl rfl|exact .inr rfl|with_unfolding_all rfl|assumption)) (by intros;first|rfl|exact .inl rfl|exact .inr rfl|with_unfolding_all rfl|assumption)) (by intros;first|rfl|exact .inl rfl|exact .inr rfl|with_unfolding_all rfl|assumption)) (by intros;first|rfl|exact .inl rfl|exact .inr rfl|with_unfolding_all rfl|assumption)) (by intros;first|rfl|exact .inl rfl|exact .inr rfl|with_unfolding_all rfl|assumption))) (by intros;first|rfl|exact .inl rfl|exact .inr rfl|with_unfolding_all rfl|assumption))
theorem dl5(T:TopF X fa u){c P:Addr}(W:cM X c P)(cd:Option (Value×Str))(hcd:cd=some (.ref c,cA)):∀A env,Room A 80→aN X A (bb cd) env (bk 5 (fnB 75)) Ak:=λA env hr=>
 (fT (i:=6) rfl (ft':=xf) (js:=[none,none,some 5,some 1]) (fits (by decide +kernel)) (.l (.l (.f (j:=5) rfl (by decide) (.f (j:=1) rfl (by decide) .nil)))) (kI T (ae (i:=0) rfl) (ae (i:=0) rfl) (ar (aq (i:=4) rfl) aI) (jh (hr.le (by(first|lia|omega))))) (λ_=>(hV (hr.le (by(first|lia|omega))) (.cons (i:=0) rfl (by decide) (.cons (i:=1) rfl (by decide) .nil)))) (λ_=>cJ) (λ_=>(aK (dI (aq (i:=2) rfl) (aK (aK (aK (dI (aq (i:=3) rfl) (aK (aq (i:=0) rfl) aD)) aD) (aK aD (aq (i:=0) rfl))) aD)) (aq (i:=1) rfl))))
theorem dl6(T:TopF X fa u){c P:Addr}(W:cM X c P)(cd:Option (Value×Str))(hcd:cd=some (.ref c,cA)):∀A env,Room A 80→aN X A (bb cd) env (bk 6 (fnB 75)) Am:=λA env hr=>
 (dx (i:=7) rfl (by decide) (fS (br (by decide +kernel)) (ar (aq (i:=6) rfl) aI) F.plainAttrs_str F.slot_str_join F.type_str_join ja))
theorem dl7(T:TopF X fa u){c P:Addr}(W:cM X c P)(cd:Option (Value×Str))(hcd:cd=some (.ref c,cA)):∀A env,Room A 80→aN X A (bb cd) env (bk 7 (fnB 75)) Ao:=λA env hr=>
 (qC (i:=8) rfl (cg (ft':=xh) (js:=[none,none]) (fits (by decide +kernel)) (.l (.l .nil)) (eN (hr.le (by(first|lia|omega))) (kB T (ae (i:=4) rfl) (ae (i:=9) rfl) (ar (cg (ft':=xg) (js:=[none,some 1]) (fits (by decide +kernel)) (.l (.f (j:=1) rfl (by decide) .nil)) (kI T (ae (i:=5) rfl) (ae (i:=1) rfl) (ar aD aI) (gc (hr.le (by(first|lia|omega))))) (λ_=>(bX (i:=0) rfl (by decide))) (λ_=>cJ) (λ_=>(eO (ar (aK (aK (dI (aq (i:=1) rfl) (aq (i:=0) rfl)) aD) aD) (ar (aq (i:=0) rfl) aI))))) aI) qZ)) (λ_=>(hV (hr.le (by(first|lia|omega))) (.cons (i:=0) rfl (by decide) (.cons (i:=1) rfl (by decide) .nil)))) (λ_=>cJ) (λ_=>(aq (i:=1) rfl))) (λ_ h=>fV h))
theorem dl8(T:TopF X fa u){c P:Addr}(W:cM X c P)(cd:Option (Value×Str))(hcd:cd=some (.ref c,cA)):∀A env,Room A 80→aN X A (bb cd) env (bk 8 (fnB 75)) Aq:=λA env hr=>
 (@fT _ _ _ (xi) _ ([none,some 3]) (9) _ _ _ _ _ _ _ _ _ _ _ _ _ rfl (fits (by decide +kernel)) (.l (.f (j:=3) rfl (by decide) .nil)) (@eN _ _ _ _ _ _ _ (hr.le (by(first|lia|omega))) (@aq _ _ _ _ (8) _ _ _ rfl)) (λ_=>(@bX _ _ _ _ (0) _ _ _ rfl (by decide))) (λ_=>(@cJ _ _ _ _)) (λ_=>(@dI _ _ _ _ _ _ _ _ _ (@bK _ _ _ _ _ _ _ (@ar _ _ _ _ _ _ _ _ _ (@aD _ _ _ _ _ _ _) (@ar _ _ _ _ _ _ _ _ _ (@aD _ _ _ _ _ _ _) (@ar _ _ _ _ _ _ _ _ _ (@aD _ _ _ _ _ _ _) (@ar _ _ _ _ _ _ _ _ _ (@aD _ _ _ _ _ _ _) (@ar _ _ _ _ _ _ _ _ _ (@aD _ _ _ _ _ _ _) (@ar _ _ _ _ _ _ _ _ _ (@aD _ _ _ _ _ _ _) (@ar _ _ _ _ _ _ _ _ _ (@aD _ _ _ _ _ _ _) (@ar _ _ _ _ _ _ _ _ _ (@aD _ _ _ _ _ _ _) (@ar _ _ _ _ _ _ _ _ _ (@aD _ _ _ _ _ _ _) (@ar _ _ _ _ _ _ _ _ _ (@aD _ _ _ _ _ _ _) (@aI _ _ _ _ _) (by intros;first|rfl|exact .inl rfl|exact .inr rfl|with_unfolding_all rfl|assumption)) (by intros;first|rfl|exact .inl rfl|exact .inr rfl|with_unfolding_all rfl|assumption)) (by intros;first|rfl|exact .inl rfl|exact .inr rfl|with_unfolding_all rfl|assumption)) (by intros;first|rfl|exact .inl rfl|exact .inr rfl|with_unfolding_all rfl|assumption)) (by intros;first|rfl|exact .inl rfl|exact .inr rfl|with_unfolding_all rfl|assumption)) (by intros;first|rfl|exact .inl rfl|exact .inr rfl|with_unfolding_all rfl|assumption)) (by intros;first|rfl|exact .inl rfl|exact .inr rfl|with_unfolding_all rfl|assumption)) (by intros;first|rfl|exact .inl rfl|exact .inr rfl|with_unfolding_all rfl|assumption)) (by intros;first|rfl|exact .inl rfl|exact .inr rfl|with_unfolding_all rfl|assumption)) (by intros;first|rfl|exact .inl rfl|exact .inr rfl|with_unfolding_all rfl|assumption))) (@fS _ _ _ _ _ _ _ _ _ _ _ _ _ _ _ (@br _ _ _ _ _ _ _ _ (by decide +kernel)) (@ar _ _ _ _ _ _ _ _ _ (@dI _ _ _ _ _ _ _ _ _ (@aq _ _ _ _ (1) _ _ _ rfl) (@aq _ _ _ _ (0) _ _ _ rfl) (by intros;first|rfl|exact .inl rfl|exact .inr rfl|with_unfolding_all rfl|assumption)) (@aI _ _ _ _ _) (by intros;first|rfl|exact .inl rfl|exact .inr rfl|with_unfolding_all rfl|assumption)) F.plainAttrs_str F.slot_str_index F.type_str_index zt (by intros;first|rfl|exact .inl rfl|exact .inr rfl|with_unfolding_all rfl|assumption) (by intros;first|rfl|exact .inl rfl|exact .inr rfl|with_unfolding_all rfl|assumption) (by intros;first|rfl|exact .inl rfl|exact .inr rfl|with_unfolding_all rfl|assumption) (by intros;first|rfl|exact .inl rfl|exact .inr rfl|with_unfolding_all rfl|assumption) (by intros;first|rfl|exact .inl rfl|exact .inr rfl|with_unfolding_all rfl|assumption)) (by intros;first|rfl|exact .inl rfl|exact .inr rfl|with_unfolding_all rfl|assumption))) (by intros;first|rfl|exact .inl rfl|exact .inr rfl|with_unfolding_all rfl|assumption) (by intro _ h;first|exact h|cases h) (by intros;first|rfl|exact .inl rfl|exact .inr rfl|with_unfolding_all rfl|assumption))
theorem dl9(T:TopF X fa u){c P:Addr}(W:cM X c P)(cd:Option (Value×Str))(hcd:cd=some (.ref c,cA)):∀A env,Room A 80→aN X A (bb cd) env (bk 9 (fnB 75)) As:=λA env hr=>
 (DM (i:=10) (hr.le (by(first|lia|omega))) rfl (.cons (i:=10) rfl (by decide) (.cons (i:=11) rfl (by decide) .nil)) (eO (ar (aK (aq (i:=2) rfl) aD) (ar (aK (aK (aK (aK (aq (i:=2) rfl) aD) aD) aD) (aK aD aD)) aI))))
theorem DX(T:TopF X fa u){c P:Addr}(W:cM X c P)(cd:Option (Value×Str))(hcd:cd=some (.ref c,cA)):∀A env,Room A 80→aN X A (bb cd) env (bk 10 (fnB 75)) sU:=λA env hr=>
 (fT (i:=12) rfl (ft':=xj) (js:=[none,some 2]) (fits (by decide +kernel)) (.l (.f (j:=2) rfl (by decide) .nil)) (kI T (ae (i:=5) rfl) (ae (i:=1) rfl) (ar aD aI) (gc (hr.le (by(first|lia|omega))))) (λ_=>(bX (i:=0) rfl (by decide))) (λ_=>cJ) (λ_=>(aK (aK (aK (aq (i:=0) rfl) (aK (aK aD (aK (aq (i:=1) rfl) aD)) aD)) (aK (aq (i:=1) rfl) aD)) aD)))
theorem DY(T:TopF X fa u){c P:Addr}(W:cM X c P)(cd:Option (Value×Str))(hcd:cd=some (.ref c,cA)):∀A env,Room A 80→aN X A (bb cd) env (bk 11 (fnB 75)) sV:=λA env hr=>
 (xM T (i:=13) rfl (by decide) (ae (i:=6) rfl) (aK (cw T (ae (i:=7) rfl) (ae (i:=11) rfl) (bO (aK (aK (aq (i:=9) rfl) (cg (ft':=xl) (js:=[none,some 10]) (fits (by decide +kernel)) (.l (.f (j:=10) rfl (by decide) .nil)) (eN (hr.le (by(first|lia|omega))) (aq (i:=12) rfl)) (λ_=>(bX (i:=0) rfl (by decide))) (λ_=>cJ) (λ_=>(aK aD (aK (aq (i:=0) rfl) (aK aD (aq (i:=1) rfl))))))) (bK (ar aD aI))) (bO (aq (i:=1) rfl) (bO (aq (i:=2) rfl) d8))) (vQ T) hr (by(first|lia|omega))) (bK (ar (aK (aq (i:=2) rfl) aD) aI))))
theorem DZ(T:TopF X fa u){c P:Addr}(W:cM X c P)(cd:Option (Value×Str))(hcd:cd=some (.ref c,cA)):∀A env,Room A 80→aN X A (bb cd) env (bk 12 (fnB 75)) sW:=λA env hr=>
 (dx (i:=14) rfl (by decide) (cw T (ae (i:=8) rfl) (ae (i:=12) rfl) (qS (i:=13) rfl d8) (yL T) hr (by(first|lia|omega))))
end Mine
namespace Mine
variable{X:Cx}{fa:Nat→Addr}{u:Addr}
theorem D1(T:TopF X fa u){c P:Addr}(W:cM X c P)(cd:Option (Value×Str))(hcd:cd=some (.ref c,cA)):∀A env,Room A 80→aN X A (bb cd) env (bk 13 (fnB 75)) sX:=λA env hr=>
 (mB (i:=15) rfl (by decide) (ar (eO (ar (aq (i:=14) rfl) (ar (eO (ar (aq (i:=9) rfl) (ar (cg (ft':=xm) (js:=[none,some 10]) (fits (by decide +kernel)) (.l (.f (j:=10) rfl (by decide) .nil)) (eN (hr.le (by(first|lia|omega))) (aq (i:=12) rfl)) (λ_=>(bX (i:=0) rfl (by decide))) (λ_=>cJ) (λ_=>(aK (aq (i:=0) rfl) (aK aD (aq (i:=1) rfl))))) aI))) aI))) (ar (eO (ar (z8 T (hr.le (by(first|lia|omega))) (i:=13) rfl (ae (i:=9) rfl)) (ar (bK (ar (aK (aq (i:=2) rfl) aD) aI)) aI))) aI)))
theorem D2(T:TopF X fa u){c P:Addr}(W:cM X c P)(cd:Option (Value×Str))(hcd:cd=some (.ref c,cA)):∀A env,Room A 80→aN X A (bb cd) env (bk 14 (fnB 75)) sY:=λA env hr=>
 (AR (i:=16) rfl (ft':=xn) (js:=[none,none]) (fits (by decide +kernel)) (.l (.l .nil)) (eN (hr.le (by(first|lia|omega))) (bK (ar aD (ar aD (ar aD aI))))) (λ_=>(bX (i:=0) rfl (by decide))) (λ_=>cJ) (λ_=>(eN (hr.le (by(first|lia|omega))) (bK (ar (cw T (ae (i:=0) rfl) (ae (i:=6) rfl) (bO (aq (i:=0) rfl) d8) (yJ T) hr (by(first|lia|omega))) (ar (cw T (ae (i:=1) rfl) (ae (i:=7) rfl) (bO (aq (i:=0) rfl) d8) (yI T) hr (by(first|lia|omega))) (ar (cw T (ae (i:=2) rfl) (ae (i:=8) rfl) (bO (aq (i:=0) rfl) d8) (yH T) hr (by(first|lia|omega))) aI)))))) (λ_=>(bX (i:=1) rfl (by decide))) (λ_=>cJ) (λ_=>(aq (i:=1) rfl)))
theorem D3(T:TopF X fa u){c P:Addr}(W:cM X c P)(cd:Option (Value×Str))(hcd:cd=some (.ref c,cA)):∀A env,Room A 80→aN X A (bb cd) env (bk 15 (fnB 75)) sZ:=λA env hr=>
 (iK (i:=15) rfl (eO (ar (aK (cg (ft':=xo) (js:=[none]) (fits (by decide +kernel)) (.l .nil) (eN (hr.le (by(first|lia|omega))) (aq (i:=16) rfl)) (λ_=>(bX (i:=0) rfl (by decide))) (λ_=>cJ) (λ_=>(kB T (ae (i:=0) rfl) (ae (i:=13) rfl) (ar (aq (i:=0) rfl) (ar (kTy T (ae (i:=1) rfl) (ae (i:=5) rfl)) aI)) zu))) (aq (i:=16) rfl)) (ar (aK (aK (bK (ar d7 aI)) aD) (bK (ar d7 (ar d7 (ar d7 (ar d7 (ar d7 (ar d7 (ar d7 (ar d7 (ar d7 aI))))))))))) aI))))
theorem D4(T:TopF X fa u){c P:Addr}(W:cM X c P)(cd:Option (Value×Str))(hcd:cd=some (.ref c,cA)):∀A env,Room A 80→aN X A (bb cd) env (bk 16 (fnB 75)) s8:=λA env hr=>
 (qC (i:=17) rfl (cg (ft':=uZ) (js:=[none]) (fits (by decide +kernel)) (.l .nil) (eN (hr.le (by(first|lia|omega))) (aq (i:=6) rfl)) (λ_=>(bX (i:=0) rfl (by decide))) (λ_=>cJ) (λ_=>(sIf (cm (hr.le (by(first|lia|omega))) (dC (aq (i:=0) rfl) bB (dh aD) bB) (br (by decide +kernel))) (dC (aq (i:=0) rfl) (dh (y4 aD)) bB bB) (aq (i:=0) rfl)))) (λ_ h=>fV h))
theorem D5(T:TopF X fa u){c P:Addr}(W:cM X c P)(cd:Option (Value×Str))(hcd:cd=some (.ref c,cA)):∀A env,Room A 80→aN X A (bb cd) env (bk 17 (fnB 75)) ta:=λA env hr=>
 (dx (i:=18) rfl (by decide) (cw T (ae (i:=10) rfl) (ae (i:=4) rfl) (bO (aq (i:=7) rfl) d8) (qh T) hr (by(first|lia|omega))))
theorem D6(T:TopF X fa u){c P:Addr}(W:cM X c P)(cd:Option (Value×Str))(hcd:cd=some (.ref c,cA)):∀A env,Room A 80→aN X A (bb cd) env (bk 18 (fnB 75)) tb:=λA env hr=>
 (fT (i:=19) rfl (ft':=u4) (js:=[none]) (fits (by decide +kernel)) (.l .nil) (B9 T (hr.le (by(first|lia|omega))) (ae (i:=11) rfl) (aq (i:=18) rfl)) (λ_=>(bX (i:=0) rfl (by decide))) (λ_=>(jm (Ca T (ae (i:=0) rfl) (dI (aq (i:=0) rfl) aD)))) (λ_=>(aq (i:=0) rfl)))
theorem D7(T:TopF X fa u){c P:Addr}(W:cM X c P)(cd:Option (Value×Str))(hcd:cd=some (.ref c,cA)):∀A env,Room A 80→aN X A (bb cd) env (bk 19 (fnB 75)) td:=λA env hr=>
 (iK (i:=15) rfl (eO (ar (eO (ar (aq (i:=18) rfl) (ar (aq (i:=19) rfl) aI))) (ar (eO (ar (fS (br (by decide +kernel)) (ar (aq (i:=17) rfl) aI) F.plainAttrs_str F.slot_str_join F.type_str_join ja) (ar (cg (ft':=u5) (js:=[none,none,some 17]) (fits (by decide +kernel)) (.l (.l (.f (j:=17) rfl (by decide) .nil))) (kI T (ae (i:=0) rfl) (ae (i:=0) rfl) (ar (aq (i:=4) rfl) aI) (jh (hr.le (by(first|lia|omega))))) (λ_=>(hV (hr.le (by(first|lia|omega))) (.cons (i:=0) rfl (by decide) (.cons (i:=1) rfl (by decide) .nil)))) (λ_=>cJ) (λ_=>(eO (ar (aK (kB T (ae (i:=0) rfl) (ae (i:=6) rfl) (ar (fS (br (by decide +kernel)) (ar (dC (aq (i:=2) rfl) bB (dh (aK (aq (i:=0) rfl) aD)) bB) aI) F.plainAttrs_str F.slot_str_join F.type_str_join ja) aI) ot) aD) (ar (aq (i:=1) rfl) aI))))) aI))) aI))))
theorem D8(T:TopF X fa u){c P:Addr}(W:cM X c P)(cd:Option (Value×Str))(hcd:cd=some (.ref c,cA)):∀A env,Room A 80→aN X A (bb cd) env (bk 20 (fnB 75)) te:=λA env hr=>
 (iK (i:=15) rfl (eO (ar (aK (cg (ft':=u6) (js:=[none]) (fits (by decide +kernel)) (.l .nil) (DL (hr.le (by(first|lia|omega))) (br (by decide +kernel))) (λ_=>(bX (i:=0) rfl (by decide))) (λ_=>cJ) (λ_=>(Ce T (ae (i:=0) rfl) (aq (i:=0) rfl)))) (bK (ar (mZ (hr.le (by(first|lia|omega))) (cw T (ae (i:=12) rfl) (ae (i:=5) rfl) (bO (dC (aq (i:=7) rfl) bB (dh (y4 aD)) bB) d8) (iz T) hr (by(first|lia|omega))) d7) (ar (mZ (hr.le (by(first|lia|omega))) (cw T (ae (i:=12) rfl) (ae (i:=5) rfl) (bO (aK (aq (i:=7) rfl) (br (by decide +kernel))) d8) (iz T) hr (by(first|lia|omega))) d7) aI)))) (ar (bK (ar aD (ar aD (ar aD (ar aD (ar d7 (ar d7 aI))))))) aI))))
theorem D9(T:TopF X fa u){c P:Addr}(W:cM X c P)(cd:Option (Value×Str))(hcd:cd=some (.ref c,cA)):∀A env,Room A 80→aN X A (bb cd) env (bk 21 (fnB 75)) tm:=λA env hr=>
 (fT (i:=20) rfl (ft':=u7) (js:=[none,none]) (fits (by decide +kernel)) (.l (.l .nil)) (eN (hr.le (by(first|lia|omega))) (aq (i:=19) rfl)) (λ_=>(hV (hr.le (by(first|lia|omega))) (.cons (i:=0) rfl (by decide) (.cons (i:=1) rfl (by decide) .nil)))) (λ_=>cJ) (λ_=>(aq (i:=1) rfl)))
theorem Ea(T:TopF X fa u){c P:Addr}(W:cM X c P)(cd:Option (Value×Str))(hcd:cd=some (.ref c,cA)):∀A env,Room A 80→aN X A (bb cd) env (bk 22 (fnB 75)) tn:=λA env hr=>
 (dx (i:=21) rfl (by decide) (cw T (ae (i:=13) rfl) (ae (i:=13) rfl) (bO (aq (i:=6) rfl) (bO (aq (i:=20) rfl) (DU aI (qS (i:=15) rfl d8)))) (tW T 9) hr (by(first|lia|omega))))
theorem Eb(T:TopF X fa u){c P:Addr}(W:cM X c P)(cd:Option (Value×Str))(hcd:cd=some (.ref c,cA)):∀A env,Room A 80→aN X A (bb cd) env (bk 23 (fnB 75)) tq:=λA env hr=>
 (dx (i:=22) rfl (by decide) (cw T (ae (i:=14) rfl) (ae (i:=14) rfl) (bO (aq (i:=21) rfl) (bO aD (bO aD (bO aD d8)))) (mi T 9) hr (by(first|lia|omega))))
theorem Ec(T:TopF X fa u){c P:Addr}(W:cM X c P)(cd:Option (Value×Str))(hcd:cd=some (.ref c,cA)):∀A env,Room A 80→aN X A (bb cd) env (bk 24 (fnB 75)) tu:=λA env hr=>
 (dx (i:=23) rfl (by decide) (cw T (ae (i:=14) rfl) (ae (i:=14) rfl) (bO (aq (i:=21) rfl) (bO aD (bO aD (bO aD d8)))) (mi T 9) hr (by(first|lia|omega))))
end Mine
namespace Mine
variable{X:Cx}{fa:Nat→Addr}{u:Addr}
theorem Ed(T:TopF X fa u){c P:Addr}(W:cM X c P)(cd:Option (Value×Str))(hcd:cd=some (.ref c,cA)):∀A env,Room A 80→aN X A (bb cd) env (bk 25 (fnB 75)) (tv u P):=λA env hr=>
 (@fT _ _ _ ((u9 cd)) _ ([none,some 2,some 3,some 14]) (24) _ _ _ _ _ _ _ _ _ _ _ _ _ rfl (sN (by decide +kernel)) (.l (.f (j:=2) rfl (by decide) (.f (j:=3) rfl (by decide) (.f (j:=14) rfl (by decide) .nil)))) (@eN _ _ _ _ _ _ _ (hr.le (by(first|lia|omega))) (@aq _ _ _ _ (20) _ _ _ rfl)) (λ_=>(@bX _ _ _ _ (0) _ _ _ rfl (by decide))) (λ_=>(@jm _ _ _ _ _ _ (@cm _ _ _ _ _ _ _ _ _ _ (hr.le (by(first|lia|omega))) (@aq _ _ _ _ (0) _ _ _ rfl) (@aq _ _ _ _ (2) _ _ _ rfl) (by intros;first|rfl|exact .inl rfl|exact .inr rfl|with_unfolding_all rfl|assumption)))) (λ_=>(@Cd _ _ _ (pW) _ _ _ _ _ _ _ _ _ ([none,none,some 3]) _ _ _ _ _ _ _ _ _ _ _ _ T W (hr.le (by(first|lia|omega))) (ae (i:=0) rfl) rfl rfl hcd (fits (by decide +kernel)) (.l (.l (.f (j:=3) rfl (by decide) .nil))) (λA env hr=>(@aK _ _ _ _ _ _ _ _ _ _ (@fS _ _ _ _ _ _ _ _ _ _ _ _ _ _ _ (@dI _ _ _ _ _ _ _ _ _ (@aq _ _ _ _ (2) _ _ _ rfl) (@aD _ _ _ _ _ _ _) (by intros;first|rfl|exact .inl rfl|exact .inr rfl|with_unfolding_all rfl|assumption)) (@ar _ _ _ _ _ _ _ _ _ (@aq _ _ _ _ (0) _ _ _ rfl) (@aI _ _ _ _ _) (by intros;first|rfl|exact .inl rfl|exact .inr rfl|with_unfolding_all rfl|assumption)) F.plainAttrs_list F.slot_list_index F.type_list_index oq (by intros;first|rfl|exact .inl rfl|exact .inr rfl|with_unfolding_all rfl|assumption) (by intros;first|rfl|exact .inl rfl|exact .inr rfl|with_unfolding_all rfl|assumption) (by intros;first|rfl|exact .inl rfl|exact .inr rfl|with_unfolding_all rfl|assumption) (by intros;first|rfl|exact .inl rfl|exact .inr rfl|with_unfolding_all rfl|assumption) (by intros;first|rfl|exact .inl rfl|exact .inr rfl|with_unfolding_all rfl|assumption)) (@aq _ _ _ _ (1) _ _ _ rfl))) (@Ce _ _ _ _ _ _ _ _ _ _ T (ae (i:=1) rfl) (@aq _ _ _ _ (0) _ _ _ rfl) (by intros;first|rfl|exact .inl rfl|exact .inr rfl|with_unfolding_all rfl|assumption)) (@aq _ _ _ _ (1) _ _ _ rfl) (by intros;first|rfl|exact .inl rfl|exact .inr rfl|with_unfolding_all rfl|assumption) (by intros;first|rfl|exact .inl rfl|exact .inr rfl|with_unfolding_all rfl|assumption) (λ_ _ _=>rfl) (by intros;first|rfl|exact .inl rfl|exact .inr rfl|with_unfolding_all rfl|assumption) (by intros;first|rfl|exact .inl rfl|exact .inr rfl|with_unfolding_all rfl|assumption) (by intros;first|rfl|exact .inl rfl|exact .inr rfl|with_unfolding_all rfl|assumption) (by intros;first|rfl|exact .inl rfl|exact .inr rfl|with_unfolding_all rfl|assumption) (by intros;first|rfl|exact .inl rfl|exact .inr rfl|with_unfolding_all rfl|assumption))) (by intros;first|rfl|exact .inl rfl|exact .inr rfl|with_unfolding_all rfl|assumption) (by intro _ h;first|exact h|cases h) (by intros;first|rfl|exact .inl rfl|exact .inr rfl|with_unfolding_all rfl|assumption))
end Mine
namespace Mine
variable{X:Cx}{fa:Nat→Addr}{u:Addr}
theorem Ee(T:TopF X fa u){c P:Addr}(W:cM X c P)(cd:Option (Value×Str))(hcd:cd=some (.ref c,cA)):∀A env,Room A 80→aN X A (bb cd) env (bk 26 (fnB 75)) tx:=λA env hr=>
 (iK (i:=15) rfl (eO (ar (aq (i:=24) rfl) (ar (cg (ft':=vc) (js:=[none,some 8,some 2]) (fits (by decide +kernel)) (.l (.f (j:=8) rfl (by decide) (.f (j:=2) rfl (by decide) .nil))) (kI T (ae (i:=5) rfl) (ae (i:=1) rfl) (ar aD aI) (gc (hr.le (by(first|lia|omega))))) (λ_=>(bX (i:=0) rfl (by decide))) (λ_=>cJ) (λ_=>(eO (ar (aK (fS (aq (i:=1) rfl) (ar (aq (i:=0) rfl) aI) F.plainAttrs_list F.slot_list_index F.type_list_index oq) (aq (i:=2) rfl)) (ar (aK (fS (aq (i:=1) rfl) (ar (aq (i:=0) rfl) aI) F.plainAttrs_list F.slot_list_index F.type_list_index oq) (aq (i:=2) rfl)) aI))))) aI))))
theorem Ef(T:TopF X fa u){c P:Addr}(W:cM X c P)(cd:Option (Value×Str))(hcd:cd=some (.ref c,cA)):∀A env,Room A 80→aN X A (bb cd) env (bk 27 (fnB 75)) tA:=λA env hr=>
 (qC (i:=25) rfl (cg (ft':=vd) (js:=[none]) (fits (by decide +kernel)) (.l .nil) (eN (hr.le (by(first|lia|omega))) (aq (i:=24) rfl)) (λ_=>(bX (i:=0) rfl (by decide))) (λ_=>cJ) (λ_=>(dI (aq (i:=0) rfl) aD))) (λ_ h=>fV h))
theorem Eg(T:TopF X fa u){c P:Addr}(W:cM X c P)(cd:Option (Value×Str))(hcd:cd=some (.ref c,cA)):∀A env,Room A 80→aN X A (bb cd) env (bk 28 (fnB 75)) (tB u P):=λA env hr=>
 (jX (hr.le (by(first|lia|omega))) (eN (hr.le (by(first|lia|omega))) (bK (ar (Cb T (hr.le (by(first|lia|omega))) (ae (i:=15) rfl) aD mA) (ar (Cc T (hr.le (by(first|lia|omega))) (ae (i:=15) rfl) (dI (aq (i:=9) rfl) aD) mA (aq (i:=2) rfl)) aI)))) (bX (i:=26) rfl (by decide)) (az (iK (i:=15) rfl (eO (ar (bK (ar (mZ (hr.le (by(first|lia|omega))) (dI (aq (i:=26) rfl) aD) (Di T (ae (i:=16) rfl))) (ar (dC (aq (i:=26) rfl) (dh aD) bB bB) aI))) (ar (bK (ar d7 (ar (eO (ar (br (by decide +kernel)) aI)) aI))) aI)))) aP) aP)
theorem Eh(T:TopF X fa u){c P:Addr}(W:cM X c P)(cd:Option (Value×Str))(hcd:cd=some (.ref c,cA)):∀A env,Room A 80→aN X A (bb cd) env (bk 29 (fnB 75)) tC:=λA env hr=>
 (@dx _ _ _ _ (27) _ _ _ _ _ _ rfl (by decide) (@aK _ _ _ _ _ _ _ _ _ _ (@bK _ _ _ _ _ _ _ (@ar _ _ _ _ _ _ _ _ _ (@br _ _ _ _ _ _ _ _ (by decide +kernel)) (@ar _ _ _ _ _ _ _ _ _ (@br _ _ _ _ _ _ _ _ (by decide +kernel)) (@ar _ _ _ _ _ _ _ _ _ (@br _ _ _ _ _ _ _ _ (by decide +kernel)) (@ar _ _ _ _ _ _ _ _ _ (@br _ _ _ _ _ _ _ _ (by decide +kernel)) (@ar _ _ _ _ _ _ _ _ _ (@br _ _ _ _ _ _ _ _ (by decide +kernel)) (@ar _ _ _ _ _ _ _ _ _ (@br _ _ _ _ _ _ _ _ (by decide +kernel)) (@ar _ _ _ _ _ _ _ _ _ (@br _ _ _ _ _ _ _ _ (by decide +kernel)) (@ar _ _ _ _ _ _ _ _ _ (@br _ _ _ _ _ _ _ _ (by decide +kernel)) (@ar _ _ _ _ _ _ _ _ _ (@br _ _ _ _ _ _ _ _ (by decide +kernel)) (@ar _ _ _ _ _ _ _ _ _ (@br _ _ _ _ _ _ _ _ (by decide +kernel)) (@aI _ _ _ _ _) (by intros;first|rfl|exact .inl rfl|exact .inr rfl|with_unfolding_all rfl|assumption)) (by intros;first|rfl|exact .inl rfl|exact .inr rfl|with_unfolding_all rfl|assumption)) (by intros;first|rfl|exact .inl rfl|exact .inr rfl|with_unfolding_all rfl|assumption)) (by intros;first|rfl|exact .inl rfl|exact .inr rfl|with_unfolding_all rfl|assumption)) (by intros;first|rfl|exact .inl rfl|exact .inr rfl|with_unfolding_all rfl|assumption)) (by intros;first|rfl|exact .inl rfl|exact .inr rfl|with_unfolding_all rfl|assumption)) (by intros;first|rfl|exact .inl rfl|exact .inr rfl|with_unfolding_all rfl|assumption)) (by intros;first|rfl|exact .inl rfl|exact .inr rfl|with_unfolding_all rfl|assumption)) (by intros;first|rfl|exact .inl rfl|exact .inr rfl|with_unfolding_all rfl|assumption)) (by intros;first|rfl|exact .inl rfl|exact .inr rfl|with_unfolding_all rfl|assumption))) (@cg _ _ _ (ve) _ ([none]) _ _ _ _ _ _ _ _ _ _ (fits (by decide +kernel)) (.l .nil) (@kI _ _ _ _ _ _ _ _ _ _ _ _ _ _ _ T (ae (i:=5) rfl) (ae (i:=1) rfl) (@ar _ _ _ _ _ _ _ _ _ (@aD _ _ _ _ _ _ _) (@ar _ _ _ _ _ _ _ _ _ (@aD _ _ _ _ _ _ _) (@aI _ _ _ _ _) (by intros;first|rfl|exact .inl rfl|exact .inr rfl|with_unfolding_all rfl|assumption)) (by intros;first|rfl|exact .inl rfl|exact .inr rfl|with_unfolding_all rfl|assumption)) (gc (hr.le (by(first|lia|omega)))) (by intros;first|rfl|exact .inl rfl|exact .inr rfl|with_unfolding_all rfl|assumption) (by intros;first|rfl|exact .inl rfl|exact .inr rfl|with_unfolding_all rfl|assumption)) (λ_=>(@bX _ _ _ _ (0) _ _ _ rfl (by decide))) (λ_=>(@cJ _ _ _ _)) (λ_=>(@kB _ _ _ _ _ _ _ _ _ _ _ _ _ _ T (ae (i:=0) rfl) (ae (i:=10) rfl) (@ar _ _ _ _ _ _ _ _ _ (@aK _ _ _ _ _ _ _ _ _ _ (@aD _ _ _ _ _ _ _) (@aq _ _ _ _ (0) _ _ _ rfl)) (@aI _ _ _ _ _) (by intros;first|rfl|exact .inl rfl|exact .inr rfl|with_unfolding_all rfl|assumption)) zr (by intros;first|rfl|exact .inl rfl|exact .inr rfl|with_unfolding_all rfl|assumption) (by intros;first|rfl|exact .inl rfl|exact .inr rfl|with_unfolding_all rfl|assumption))) (by intros;first|rfl|exact .inl rfl|exact .inr rfl|with_unfolding_all rfl|assumption) (by intro _ h;first|exact h|cases h))) (by intros;first|rfl|exact .inl rfl|exact .inr rfl|with_unfolding_all rfl|assumption))
theorem Ei(T:TopF X fa u){c P:Addr}(W:cM X c P)(cd:Option (Value×Str))(hcd:cd=some (.ref c,cA)):∀A env,Room A 80→aN X A (bb cd) env (bk 30 (fnB 75)) tD:=λA env hr=>
 (dx (i:=28) rfl (by decide) (dC (aq (i:=27) rfl) (dh (aq (i:=10) rfl)) (dh (aK (aq (i:=10) rfl) aD)) bB))
theorem Ej(T:TopF X fa u){c P:Addr}(W:cM X c P)(cd:Option (Value×Str))(hcd:cd=some (.ref c,cA)):∀A env,Room A 80→aN X A (bb cd) env (bk 31 (fnB 75)) tE:=λA env hr=>
 (iK (i:=15) rfl (eO (ar (cw T (ae (i:=17) rfl) (ae (i:=0) rfl) (bO (aK (aK (aK aD aD) aD) (aq (i:=11) rfl)) d8) (nH T) hr (by(first|lia|omega))) (ar (fS (br (by decide +kernel)) (ar (aK (aq (i:=27) rfl) (sIf (cm (hr.le (by(first|lia|omega))) (aq (i:=11) rfl) aD) (bK (ar (kB T (ae (i:=18) rfl) (ae (i:=10) rfl) (ar (aq (i:=11) rfl) aI) zr) aI)) (bK aI))) aI) F.plainAttrs_str F.slot_str_join F.type_str_join ja) aI))))
theorem Ek(T:TopF X fa u){c P:Addr}(W:cM X c P)(cd:Option (Value×Str))(hcd:cd=some (.ref c,cA)):∀A env,Room A 80→aN X A (bb cd) env (bk 32 (fnB 75)) tF:=λA env hr=>
 (mB (i:=29) rfl (by decide) aI)
theorem El(T:TopF X fa u){c P:Addr}(W:cM X c P)(cd:Option (Value×Str))(hcd:cd=some (.ref c,cA)):∀A env,Room A 80→aN X A (bb cd) env (bk 33 (fnB 75)) tG:=λA env hr=>
 (jX (hr.le (by(first|lia|omega))) (kI T (ae (i:=19) rfl) (ae (i:=2) rfl) (ar (dI (aq (i:=14) rfl) aD) (ar (aq (i:=12) rfl) aI)) (De (hr.le (by(first|lia|omega))))) (hV (hr.le (by(first|lia|omega))) (.cons (i:=30) rfl (by decide) (.cons (i:=31) rfl (by decide) .nil))) (az (dx (i:=32) rfl (by decide) (cw T (ae (i:=17) rfl) (ae (i:=0) rfl) (bO (aq (i:=30) rfl) d8) (nH T) hr (by(first|lia|omega)))) (az (dx (i:=33) rfl (by decide) (fS (aq (i:=32) rfl) (ar (br (by decide +kernel)) aI) F.plainAttrs_str F.slot_str_split F.type_str_split BK)) (az (iK (i:=15) rfl (eO (ar (aq (i:=32) rfl) (ar (EJ (fS (br (by decide +kernel)) (ar (cg (ft':=vf) (js:=[none,none,some 31]) (fits (by decide +kernel)) (.l (.l (.f (j:=31) rfl (by decide) .nil))) (kI T (ae (i:=0) rfl) (ae (i:=0) rfl) (ar (aq (i:=28) rfl) aI) (jh (hr.le (by(first|lia|omega))))) (λ_=>(hV (hr.le (by(first|lia|omega))) (.cons (i:=0) rfl (by decide) (.cons (i:=1) rfl (by decide) .nil)))) (λ_=>(jm (cm (hr.le (by(first|lia|omega))) (aK (aK (aq (i:=2) rfl) (aK aD (aq (i:=0) rfl))) aD) aD))) (λ_=>(aq (i:=1) rfl))) aI) F.plainAttrs_str F.slot_str_join F.type_str_join ja) (br (by decide +kernel))) aI)))) (az (iK (i:=29) rfl (kB T (ae (i:=1) rfl) (ae (i:=7) rfl) (ar (cg (ft':=vh) (js:=[none,none,some 33]) (fits (by decide +kernel)) (.l (.l (.f (j:=33) rfl (by decide) .nil))) (kI T (ae (i:=0) rfl) (ae (i:=0) rfl) (ar (aq (i:=28) rfl) aI) (jh (hr.le (by(first|lia|omega))))) (λ_=>(hV (hr.le (by(first|lia|omega))) (.cons (i:=0) rfl (by decide) (.cons (i:=1) rfl (by decide) .nil)))) (λ_=>(jm (cm (hr.le (by(first|lia|omega))) (aq (i:=1) rfl) (aq (i:=2) rfl)))) (λ_=>(aK aD (aq (i:=0) rfl)))) aI) (zv (hr.le (by(first|lia|omega)))))) aP)))) aP)
theorem Em(T:TopF X fa u){c P:Addr}(W:cM X c P)(cd:Option (Value×Str))(hcd:cd=some (.ref c,cA)):∀A env,Room A 80→aN X A (bb cd) env (bk 34 (fnB 75)) tH:=λA env hr=>
 (dx (i:=34) rfl (by decide) (cw T (ae (i:=20) rfl) (ae (i:=15) rfl) (bO (aq (i:=29) rfl) (bO (aq (i:=22) rfl) d8)) (qi T) hr (by(first|lia|omega))))
theorem En(T:TopF X fa u){c P:Addr}(W:cM X c P)(cd:Option (Value×Str))(hcd:cd=some (.ref c,cA)):∀A env,Room A 80→aN X A (bb cd) env (bk 35 (fnB 75)) tI:=λA env hr=>
 (dx (i:=35) rfl (by decide) (cw T (ae (i:=20) rfl) (ae (i:=15) rfl) (bO (aq (i:=29) rfl) (bO (aq (i:=23) rfl) d8)) (qi T) hr (by(first|lia|omega))))
theorem Eo(T:TopF X fa u){c P:Addr}(W:cM X c P)(cd:Option (Value×Str))(hcd:cd=some (.ref c,cA)):∀A env,Room A 80→aN X A (bb cd) env (bk 36 (fnB 75)) tJ:=λA env hr=>
 (fT (i:=36) rfl (ft':=vj) (js:=[none,some 34,some 25]) (fits (by decide +kernel)) (.l (.f (j:=34) rfl (by decide) (.f (j:=25) rfl (by decide) .nil))) (eN (hr.le (by(first|lia|omega))) (aq (i:=34) rfl)) (λ_=>(bX (i:=0) rfl (by decide))) (λ_=>cJ) (λ_=>(cw T (ae (i:=0) rfl) (ae (i:=16) rfl) (bO (aq (i:=0) rfl) (bO (aq (i:=1) rfl) (bO (aq (i:=2) rfl) d8))) (nG T) hr (by(first|lia|omega)))))
theorem Ep(T:TopF X fa u){c P:Addr}(W:cM X c P)(cd:Option (Value×Str))(hcd:cd=some (.ref c,cA)):∀A env,Room A 80→aN X A (bb cd) env (bk 37 (fnB 75)) tK:=λA env hr=>
 (AN (i:=15) rfl (bK (ar (eO (ar (kB T (ae (i:=4) rfl) (ae (i:=9) rfl) (ar (aq (i:=35) rfl) aI) sF) (ar (kB T (ae (i:=4) rfl) (ae (i:=9) rfl) (ar (cg (ft':=vk) (js:=[none]) (fits (by decide +kernel)) (.l .nil) (eN (hr.le (by(first|lia|omega))) (aq (i:=34) rfl)) (λ_=>(bX (i:=0) rfl (by decide))) (λ_=>cJ) (λ_=>(aK aD (aq (i:=0) rfl)))) aI) sF) aI))) (ar (eO (ar (cg (ft':=vm) (js:=[none,some 35,some 25]) (fits (by decide +kernel)) (.l (.f (j:=35) rfl (by decide) (.f (j:=25) rfl (by decide) .nil))) (eN (hr.le (by(first|lia|omega))) (aq (i:=34) rfl)) (λ_=>(bX (i:=0) rfl (by decide))) (λ_=>cJ) (λ_=>(cw T (ae (i:=0) rfl) (ae (i:=16) rfl) (bO (aK aD (aq (i:=0) rfl)) (bO (aq (i:=1) rfl) (bO (aq (i:=2) rfl) d8))) (nG T) hr (by(first|lia|omega))))) (ar (aq (i:=36) rfl) aI))) aI))))
theorem Er(T:TopF X fa u){c P:Addr}(W:cM X c P)(cd:Option (Value×Str))(hcd:cd=some (.ref c,cA)):∀A env,Room A 80→aN X A (bb cd) env (bk 38 (fnB 75)) tL:=λA env hr=>
 (qC (i:=37) rfl (cg (ft':=vn) (js:=[none]) (fits (by decide +kernel)) (.c .nil) (kI T (ae (i:=5) rfl) (ae (i:=1) rfl) (ar aD aI) (gc (hr.le (by(first|lia|omega))))) (λ_=>(bX (i:=0) rfl (by decide))) (λ_=>cJ) (λ_=>(kB T (ae (i:=0) rfl) (ae (i:=7) rfl) (ar (cg (ft':=pX) (js:=[none,some 0]) (fits (by decide +kernel)) (.l (.f (j:=0) rfl (by decide) .nil)) (kI T (ae (i:=1) rfl) (ae (i:=1) rfl) (ar aD aI) (gc (hr.le (by(first|lia|omega))))) (λ_=>(bX (i:=0) rfl (by decide))) (λ_=>cJ) (λ_=>(aK (aK (aq (i:=1) rfl) (aK aD (aq (i:=0) rfl))) aD))) aI) (zv (hr.le (by(first|lia|omega))))))) (λ_ h=>fV h))
theorem Es(T:TopF X fa u){c P:Addr}(W:cM X c P)(cd:Option (Value×Str))(hcd:cd=some (.ref c,cA)):∀A env,Room A 80→aN X A (bb cd) env (bk 39 (fnB 75)) tM:=λA env hr=>
 (jX (hr.le (by(first|lia|omega))) (eN (hr.le (by(first|lia|omega))) (aq (i:=29) rfl)) (bX (i:=31) rfl (by decide)) (az (fT (i:=38) rfl (ft':=vo) (js:=[none,none,some 31]) (fits (by decide +kernel)) (.l (.l (.f (j:=31) rfl (by decide) .nil))) (kI T (ae (i:=19) rfl) (ae (i:=2) rfl) (ar (aq (i:=34) rfl) (ar (aq (i:=36) rfl) aI)) (De (hr.le (by(first|lia|omega))))) (λ_=>(hV (hr.le (by(first|lia|omega))) (.cons (i:=0) rfl (by decide) (.cons (i:=1) rfl (by decide) .nil)))) (λ_=>(jm (cm (hr.le (by(first|lia|omega))) (aK (aK (aq (i:=2) rfl) (aq (i:=0) rfl)) (aq (i:=1) rfl)) (aq (i:=1) rfl)))) (λ_=>(aq (i:=0) rfl))) (az (iK (i:=15) rfl (eO (ar (cg (ft':=vq) (js:=[none,some 37,some 31]) (fits (by decide +kernel)) (.l (.f (j:=37) rfl (by decide) (.f (j:=31) rfl (by decide) .nil))) (eN (hr.le (by(first|lia|omega))) (aq (i:=38) rfl)) (λ_=>(bX (i:=0) rfl (by decide))) (λ_=>cJ) (λ_=>(dI (aq (i:=1) rfl) (aK (aq (i:=2) rfl) (aq (i:=0) rfl))))) (ar (bK (ar (kB T (ae (i:=21) rfl) (ae (i:=8) rfl) (ar (cg (ft':=vr) (js:=[none,some 37,some 31]) (fits (by decide +kernel)) (.l (.f (j:=37) rfl (by decide) (.f (j:=31) rfl (by decide) .nil))) (eN (hr.le (by(first|lia|omega))) (aq (i:=34) rfl)) (λ_=>(bX (i:=0) rfl (by decide))) (λ_=>cJ) (λ_=>(dI (aq (i:=1) rfl) (aK (aq (i:=2) rfl) (aq (i:=0) rfl))))) aI) (DW (hr.le (by(first|lia|omega))))) aI)) aI)))) aP)) aP)
theorem Et(T:TopF X fa u){c P:Addr}(W:cM X c P)(cd:Option (Value×Str))(hcd:cd=some (.ref c,cA)):∀A env,Room A 80→aN X A (bb cd) env (bk 40 (fnB 75)) tN:=λA env hr=>
 (fG (mZ (hr.le (by(first|lia|omega))) (cg (ft':=vt) (js:=[none]) (fits (by decide +kernel)) (.l .nil) (eN (hr.le (by(first|lia|omega))) (aq (i:=15) rfl)) (λ_=>(bX (i:=0) rfl (by decide))) (λ_=>(jm (cm (hr.le (by(first|lia|omega))) (dI (aq (i:=0) rfl) aD) (dI (aq (i:=0) rfl) aD)))) (λ_=>(aq (i:=0) rfl))) (bK aI)))
end Mine
namespace Mine
variable{X:Cx}{fa:Nat→Addr}{u:Addr}
theorem vJ:fnB 75=[bk 0 (fnB 75),bk 1 (fnB 75),bk 2 (fnB 75),bk 3 (fnB 75),bk 4 (fnB 75),bk 5 (fnB 75),bk 6 (fnB 75),bk 7 (fnB 75),bk 8 (fnB 75),bk 9 (fnB 75),bk 10 (fnB 75),bk 11 (fnB 75),bk 12 (fnB 75),bk 13 (fnB 75),bk 14 (fnB 75),bk 15 (fnB 75),bk 16 (fnB 75),bk 17 (fnB 75),bk 18 (fnB 75),bk 19 (fnB 75),bk 20 (fnB 75),bk 21 (fnB 75),bk 22 (fnB 75),bk 23 (fnB 75),bk 24 (fnB 75),bk 25 (fnB 75),bk 26 (fnB 75),bk 27 (fnB 75),bk 28 (fnB 75),bk 29 (fnB 75),bk 30 (fnB 75),bk 31 (fnB 75),bk 32 (fnB 75),bk 33 (fnB 75),bk 34 (fnB 75),bk 35 (fnB 75),bk 36 (fnB 75),bk 37 (fnB 75),bk 38 (fnB 75),bk 39 (fnB 75),bk 40 (fnB 75)]:=by kernel_rfl
theorem Dc(T:TopF X fa u){c P:Addr}(W:cM X c P)(cd:Option (Value×Str))(hcd:cd=some (.ref c,cA)):∀A env,Room A 80→bj X A (bb cd) env (fnB 75) (qw u P):=λA env hr=>by
 rw[vJ]
 unfold qw
 refine @az _ _ _ _ _ _ _ _ (@dl0 X fa u T c P W cd hcd A env hr) ?_
 refine @az _ _ _ _ _ _ _ _ (@dl1 X fa u T c P W cd hcd A env hr) ?_
 refine @az _ _ _ _ _ _ _ _ (@dl2 X fa u T c P W cd hcd A env hr) ?_
 refine @az _ _ _ _ _ _ _ _ (@dl3 X fa u T c P W cd hcd A env hr) ?_
 refine @az _ _ _ _ _ _ _ _ (@dl4 X fa u T c P W cd hcd A env hr) ?_
 refine @az _ _ _ _ _ _ _ _ (@dl5 X fa u T c P W cd hcd A env hr) ?_
 refine @az _ _ _ _ _ _ _ _ (@dl6 X fa u T c P W cd hcd A env hr) ?_
 refine @az _ _ _ _ _ _ _ _ (@dl7 X fa u T c P W cd hcd A env hr) ?_
 refine @az _ _ _ _ _ _ _ _ (@dl8 X fa u T c P W cd hcd A env hr) ?_
 refine @az _ _ _ _ _ _ _ _ (@dl9 X fa u T c P W cd hcd A env hr) ?_
 refine @az _ _ _ _ _ _ _ _ (@DX X fa u T c P W cd hcd A env hr) ?_
 refine @az _ _ _ _ _ _ _ _ (@DY X fa u T c P W cd hcd A env hr) ?_
 refine @az _ _ _ _ _ _ _ _ (@DZ X fa u T c P W cd hcd A env hr) ?_
 refine @az _ _ _ _ _ _ _ _ (@D1 X fa u T c P W cd hcd A env hr) ?_
 refine @az _ _ _ _ _ _ _ _ (@D2 X fa u T c P W cd hcd A env hr) ?_
 refine @az _ _ _ _ _ _ _ _ (@D3 X fa u T c P W cd hcd A env hr) ?_
 refine @az _ _ _ _ _ _ _ _ (@D4 X fa u T c P W cd hcd A env hr) ?_
 refine @az _ _ _ _ _ _ _ _ (@D5 X fa u T c P W cd hcd A env hr) ?_
 refine @az _ _ _ _ _ _ _ _ (@D6 X fa u T c P W cd hcd A env hr) ?_
 refine @az _ _ _ _ _ _ _ _ (@D7 X fa u T c P W cd hcd A env hr) ?_
 refine @az _ _ _ _ _ _ _ _ (@D8 X fa u T c P W cd hcd A env hr) ?_
 refine @az _ _ _ _ _ _ _ _ (@D9 X fa u T c P W cd hcd A env hr) ?_
 refine @az _ _ _ _ _ _ _ _ (@Ea X fa u T c P W cd hcd A env hr) ?_
 refine @az _ _ _ _ _ _ _ _ (@Eb X fa u T c P W cd hcd A env hr) ?_
 refine @az _ _ _ _ _ _ _ _ (@Ec X fa u T c P W cd hcd A env hr) ?_
 refine @az _ _ _ _ _ _ _ _ (@Ed X fa u T c P W cd hcd A env hr) ?_
 refine @az _ _ _ _ _ _ _ _ (@Ee X fa u T c P W cd hcd A env hr) ?_
 refine @az _ _ _ _ _ _ _ _ (@Ef X fa u T c P W cd hcd A env hr) ?_
 refine @az _ _ _ _ _ _ _ _ (@Eg X fa u T c P W cd hcd A env hr) ?_
 refine @az _ _ _ _ _ _ _ _ (@Eh X fa u T c P W cd hcd A env hr) ?_
 refine @az _ _ _ _ _ _ _ _ (@Ei X fa u T c P W cd hcd A env hr) ?_
 refine @az _ _ _ _ _ _ _ _ (@Ej X fa u T c P W cd hcd A env hr) ?_
 refine @az _ _ _ _ _ _ _ _ (@Ek X fa u T c P W cd hcd A env hr) ?_
 refine @az _ _ _ _ _ _ _ _ (@El X fa u T c P W cd hcd A env hr) ?_
 refine @az _ _ _ _ _ _ _ _ (@Em X fa u T c P W cd hcd A env hr) ?_
 refine @az _ _ _ _ _ _ _ _ (@En X fa u T c P W cd hcd A env hr) ?_
 refine @az _ _ _ _ _ _ _ _ (@Eo X fa u T c P W cd hcd A env hr) ?_
 refine @az _ _ _ _ _ _ _ _ (@Ep X fa u T c P W cd hcd A env hr) ?_
 refine @az _ _ _ _ _ _ _ _ (@Er X fa u T c P W cd hcd A env hr) ?_
 refine @az _ _ _ _ _ _ _ _ (@Es X fa u T c P W cd hcd A env hr) ?_
 refine @az _ _ _ _ _ _ _ _ (@Et X fa u T c P W cd hcd A env hr) ?_
 exact @aP _ _ _ _
end Mine
end
section
open PySem PySem.Calls PySem.Spec PyProof PyProof.Rows PySem.W
set_option maxRecDepth 20000
namespace Mine
section
variable{Γ:List Slot}{c c1 c2 c3:List Cell}{p q r:PE}{ps:PL}{d a b:D}{ds:List D}
theorem ab{i:Nat}(h:Γ[i]?=some (.val d)):aa i Γ c=some (d,c):=by unfold aa;rw[h]
theorem ay{i:Int}:ah i Γ c=some (.int i,c):=rfl
theorem bG{x:Str}:a8 x Γ c=some (.str x,c):=rfl
theorem cj{x:Bool}:b8 x Γ c=some (.bool x,c):=rfl
theorem gN:fQ Γ c=some (.none,c):=rfl
theorem rn{v:Value}:mX v Γ c=some (.obj v,c):=rfl
theorem aB:aw Γ c=some ([],c):=rfl
theorem au(h1:p Γ c=some (d,c1))(h2:ps Γ c1=some (ds,c2)):ag p ps Γ c=some (d::ds,c2):=by unfold ag;rw[h1];simp only[Option.bind_some];rw[h2];rfl
theorem aZ(h1:ps Γ c=some (ds,c1))(h:ds.length≤100000):aM ps Γ c=some (.lst ds,c1):=by unfold aM;rw[h1];simp only[Option.bind_some];rw[if_pos h]
theorem jt(h1:ps Γ c=some (ds,c1))(h:ds.length≤100000):de ps Γ c=some (.tup ds,c1):=by unfold de;rw[h1];simp only[Option.bind_some];rw[if_pos h]
theorem aU{op:Operator}(h1:p Γ c=some (a,c1))(h2:q Γ c1=some (b,c2))(h:iq op a b=some d):ao op p q Γ c=some (d,c2):=by unfold ao;rw[h1];simp only[Option.bind_some];rw[h2];simp only[Option.bind_some];rw[h];rfl
theorem gb{op:CmpOp}{t:Bool}(h1:p Γ c=some (a,c1))(h2:q Γ c1=some (b,c2))(h:fu op a b=some t):gB op p q Γ c=some (.bool t,c2):=by unfold gB;rw[h1];simp only[Option.bind_some];rw[h2];simp only[Option.bind_some];rw[h];rfl
theorem bc{op:CmpOp}{t:Bool}(h1:p Γ c=some (a,c1))(h2:q Γ c1=some (b,c2))(h:fu op a b=some t):aE op p q Γ c=some (t,c2):=by unfold aE;rw[h1];simp only[Option.bind_some];rw[h2];simp only[Option.bind_some];rw[h];rfl
theorem gO{t:Bool}(h1:p Γ c=some (a,c1))(h:jM a=some t):cW p Γ c=some (t,c1):=by unfold cW;rw[h1];simp only[Option.bind_some];rw[h];rfl
theorem zN{t:PB}{x:Bool}(h1:t Γ c=some (x,c1)):nK t Γ c=some (!x,c1):=by unfold nK;rw[h1];rfl
theorem uP:f5 [] Γ c=some (true,c):=rfl
theorem oA{t:PB}{ts:List PB}{x:Bool}(h1:t Γ c=some (true,c1))(h2:f5 ts Γ c1=some (x,c2)):f5 (t::ts) Γ c=some (x,c2):=by unfold f5;rw[h1];simp only[Option.bind_some,if_true];exact h2
theorem oz{t:PB}{ts:List PB}(h1:t Γ c=some (false,c1)):f5 (t::ts) Γ c=some (false,c1):=by unfold f5;rw[h1];simp only[Option.bind_some,Bool.false_eq_true,if_false]
theorem B1{t u:PB}(h1:t Γ c=some (true,c1)):oX t u Γ c=some (true,c1):=by unfold oX;rw[h1];simp only[Option.bind_some,if_true]
theorem B0{t u:PB}{x:Bool}(h1:t Γ c=some (false,c1))(h2:u Γ c1=some (x,c2)):oX t u Γ c=some (x,c2):=by unfold oX;rw[h1];simp only[Option.bind_some,Bool.false_eq_true,if_false];exact h2
theorem zP(h1:p Γ c=some (a,c1))(h:jM a=some true):rU p q Γ c=some (a,c1):=by unfold rU;rw[h1];simp only[Option.bind_some];rw[h];simp only[Option.bind_some,if_true]
theorem zO(h1:p Γ c=some (a,c1))(h:jM a=some false)(h2:q Γ c1=some (b,c2)):rU p q Γ c=some (b,c2):=by unfold rU;rw[h1];simp only[Option.bind_some];rw[h];simp only[Option.bind_some,Bool.false_eq_true,if_false];exact h2
theorem Bp{t:PB}{x:Bool}(h1:t Γ c=some (x,c1))(h2:(if x=true then p else q) Γ c1=some (d,c2)):pIf t p q Γ c=some (d,c2):=by unfold pIf;rw[h1];simp only[Option.bind_some];cases x<;>exact h2
theorem fM{t:PB}(h1:t Γ c=some (true,c1))(h2:p Γ c1=some (d,c2)):pIf t p q Γ c=some (d,c2):=Bp h1 (by simpa using h2)
theorem fx{t:PB}(h1:t Γ c=some (false,c1))(h2:q Γ c1=some (d,c2)):pIf t p q Γ c=some (d,c2):=Bp h1 (by simpa using h2)
theorem oC{i:Int}(h1:p Γ c=some (.int i,c1)):g6 p Γ c=some (.int (-i),c1):=by unfold g6;rw[h1];rfl
theorem fv(h1:p Γ c=some (a,c1))(h2:q Γ c1=some (b,c2))(h:jc a b=some d):ba p q Γ c=some (d,c2):=by unfold ba;rw[h1];simp only[Option.bind_some];rw[h2];simp only[Option.bind_some];rw[h];rfl
theorem bo:aA Γ c=some (none,c):=rfl
theorem cz{i:Int}(h1:p Γ c=some (.int i,c1)):aQ p Γ c=some (some i,c1):=by unfold aQ;rw[h1];rfl
theorem cP{l u s:PP}{x y z:Option Int}{c4:List Cell}(h1:p Γ c=some (a,c1))(h2:l Γ c1=some (x,c2))(h3:u Γ c2=some (y,c3))(h4:s Γ c3=some (z,c4))(h:kg a x y z=some d):aW p l u s Γ c=some (d,c4):=by
 unfold aW;rw[h1];simp only[Option.bind_some];rw[h2];simp only[Option.bind_some];rw[h3];simp only[Option.bind_some];rw[h4];simp only[Option.bind_some];rw[h];rfl
theorem cy{F:List D→Option D}(h1:ps Γ c=some (ds,c1))(h:F ds=some d):bp F ps Γ c=some (d,c1):=by unfold bp;rw[h1];simp only[Option.bind_some];rw[h];rfl
theorem fL{F:List D→Option (List D)}{es:List D}(h1:ps Γ c=some (ds,c1))(h:F ds=some es):bw F ps Γ c=some (es,c1):=by unfold bw;rw[h1];simp only[Option.bind_some];rw[h];rfl
theorem gM{T:String}{F:List D→Option D}(h1:p Γ c=some (a,c1))(ht:pS T a=true)(h2:ps Γ c1=some (ds,c2))(h:F (a::ds)=some d):bR T F p ps Γ c=some (d,c2):=by
 unfold bR;rw[h1];simp only[Option.bind_some];rw[if_pos ht,h2];simp only[Option.bind_some];rw[h];rfl
theorem b7(h:p Γ c=some (.lst ds,c1)):cE p Γ c=some (ds,c1):=by unfold cE;rw[h];rfl
theorem DS(h:p Γ c=some (.tup ds,c1)):cE p Γ c=some (ds,c1):=by unfold cE;rw[h];rfl
theorem oB{x:Str}(h:p Γ c=some (.str x,c1)):ql p Γ c=some (escaped x,c1):=by unfold ql;rw[h];rfl
theorem ki{T:Str→Option Int}{x:Str}{i:Int}(h:p Γ c=some (.str x,c1))(k:T x=some i):mn T p Γ c=some (.int i,c1):=by unfold mn;rw[h];simp only[Option.bind_some];rw[k];rfl
theorem wU{T:Str→Option Int}{x:Str}(h:p Γ c=some (.str x,c1)):kx T p Γ c=some ((T x).isSome,c1):=by unfold kx;rw[h];rfl
theorem eG:aX Γ c=some ([],c):=rfl
theorem cq{ps:PA}{sls:List Slot}(h1:p Γ c=some (d,c1))(h2:ps Γ c1=some (sls,c2)):aG p ps Γ c=some (.val d::sls,c2):=by unfold aG;rw[h1];simp only[Option.bind_some];rw[h2];rfl
theorem fN{i k:Nat}{ps:PA}{sls:List Slot}(h1:Γ[i]?=some (.ref k))(h2:ps Γ c=some (sls,c2)):dZ i ps Γ c=some (.ref k::sls,c2):=by unfold dZ;rw[h1];simp only[];rw[h2];rfl
theorem wV{qs:PL}{ps:PA}{sls:List Slot}(h1:qs Γ c=some (ds,c1))(hl:ds.length≤100000)(h2:ps Γ (c1++[.lst ds])=some (sls,c2)):tY qs ps Γ c=some (.ref c1.length::sls,c2):=by
 unfold tY;rw[h1];simp only[Option.bind_some];rw[if_pos hl,h2];rfl
theorem gv{F:PF}{pa:PA}{sls:List Slot}(h1:pa Γ c=some (sls,c1))(h:F sls c1=some (d,c2)):aJ F pa Γ c=some (d,c2):=by unfold aJ;rw[h1];simp only[Option.bind_some];exact h
theorem qQ:∀ds:List D,jC (ds.map .val)=some ds
 | []=>rfl
 | d::ds=>by rw[List.map_cons,jC,qQ ds];rfl
theorem jO{G:List D→Option D}{pa:PA}{ds:List D}(h1:pa Γ c=some (ds.map .val,c1))(h:G ds=some d):aJ (eg G) pa Γ c=some (d,c1):=by
 refine gv h1 ?_
 unfold eg
 rw[qQ];simp only[Option.bind_some];rw[h];rfl
theorem cO{G:List D→Option D}(h1:p Γ c=some (a,c1))(h:G [a]=some d):aJ (eg G) (aG p aX) Γ c=some (d,c1):=jO (ds:=[a]) (cq h1 eG) h
theorem lX{G:List D→Option D}(h1:p Γ c=some (a,c1))(h2:q Γ c1=some (b,c2))(h:G [a,b]=some d):aJ (eg G) (aG p (aG q aX)) Γ c=some (d,c2):=jO (ds:=[a,b]) (cq h1 (cq h2 eG)) h
theorem lY{G:List D→Option D}{e:D}(h1:p Γ c=some (a,c1))(h2:q Γ c1=some (b,c2))(h3:r Γ c2=some (e,c3))(h:G [a,b,e]=some d):aJ (eg G) (aG p (aG q (aG r aX))) Γ c=some (d,c3):=jO (ds:=[a,b,e]) (cq h1 (cq h2 (cq h3 eG))) h
theorem tS{a b:Int}:iq .Add (.int a) (.int b)=some (.int (a+b)):=rfl
theorem yD{x y:Str}(h:x.length+y.length≤100000):iq .Add (.str x) (.str y)=some (.str (x++y)):=if_pos h
theorem dw{x y:List D}(h:x.length+y.length≤100000):iq .Add (.lst x) (.lst y)=some (.lst (x++y)):=if_pos h
theorem ji{a b:Int}:iq .Sub (.int a) (.int b)=some (.int (a - b)):=rfl
theorem yF{a b:Int}(h:a.natAbs<2 ^ 64):iq .Mult (.int a) (.int b)=some (.int (a*b)):=if_pos h
theorem yG{xs:List D}{n:Int}(h:n<100000∧-100000<n∧xs.length*n.toNat≤100000):iq .Mult (.lst xs) (.int n)=some (.lst (List.replicate n.toNat xs).flatten):=if_pos h
theorem tT{a b:Int}(h:b≠0∧b.natAbs<1073741824):iq .FloorDiv (.int a) (.int b)=some (.int (a.fdiv b)):=if_pos h
theorem yE{a b:Int}(h:b≠0):iq .Mod (.int a) (.int b)=some (.int (a.fmod b)):=if_pos h
theorem tU{a b:Int}(h:0≤b∧b≤1000000∧a.natAbs<2 ^ 64):iq .Pow (.int a) (.int b)=some (.int (a ^ b.toNat)):=if_pos h
theorem Dl{a b:Int}(h:0≤b∧b≤1000000∧a.natAbs<2 ^ 64):iq .LShift (.int a) (.int b)=some (.int (a*2 ^ b.toNat)):=if_pos h
theorem Bx{a b:Int}:iq .BitAnd (.int a) (.int b)=some (.int (Builtin.bitAnd a b)):=rfl
theorem EA{a b:Int}:iq .BitOr (.int a) (.int b)=some (.int (Builtin.bitOr a b)):=rfl
theorem Dm{a b:Int}:iq .BitXor (.int a) (.int b)=some (.int (Builtin.bitXor a b)):=rfl
theorem jb{a b:Int}:fu .Eq (.int a) (.int b)=some (a==b):=rfl
theorem ER{a b:Int}:fu .NotEq (.int a) (.int b)=some (a != b)∨True:=.inr trivial
theorem zw{a b:Int}:fu .Lt (.int a) (.int b)=some (decide (a<b)):=rfl
theorem CZ{a b:Int}:fu .GtE (.int a) (.int b)=some (decide (a ≥ b)):=rfl
theorem CY{x y:Str}:fu .Eq (.str x) (.str y)=some (decide (x=y)):=rfl
theorem EP{x y:Bool}:fu .Is (.bool x) (.bool y)=some (x==y):=rfl
theorem xB{ds:List D}{i:Int}(h:(-1000000:Int)<i∧i<1000000)(k:(seqIndex? i ds.length).bind (ds[·]?)=some d):jc (.lst ds) (.int i)=some d:=by
 have:jc (.lst ds) (.int i)=if (-1000000:Int)<i∧i<1000000 then(seqIndex? i ds.length).bind (ds[·]?)else none:=rfl
 rw[this,if_pos h,k]
theorem kO{ds:List D}{i:Int}(h:(-1000000:Int)<i∧i<1000000)(k:(seqIndex? i ds.length).bind (ds[·]?)=some d):jc (.tup ds) (.int i)=some d:=by
 have:jc (.tup ds) (.int i)=if (-1000000:Int)<i∧i<1000000 then(seqIndex? i ds.length).bind (ds[·]?)else none:=rfl
 rw[this,if_pos h,k]
theorem Dg{x:Str}{i:Int}{ch:Nat}(h:(-1000000:Int)<i∧i<1000000)(k:(seqIndex? i x.length).bind (x.cps[·]?)=some ch):jc (.str x) (.int i)=some (.str ⟨#[ch]⟩):=by
 have:jc (.str x) (.int i)=if (-1000000:Int)<i∧i<1000000 then((seqIndex? i x.length).bind (x.cps[·]?)).map λc=>.str ⟨#[c]⟩else none:=rfl
 rw[this,if_pos h,k];rfl
theorem o8{i n:Nat}(h:i<n):seqIndex? (i:Int) n=some i:=by
 unfold seqIndex?
 have h0:¬((i:Int)<0):=by(first|lia|omega)
 have h1:((i:Int)<(n:Int)):=by(first|lia|omega)
 simp[h0,h1]
theorem Df{ds:List D}{i:Nat}(h:i<1000000)(k:ds[i]?=some d):jc (.lst ds) (.int (i:Int))=some d:=by
 refine xB ⟨by(first|lia|omega),by(first|lia|omega)⟩ ?_
 rw[o8 (List.getElem?_eq_some_iff.mp k).1]
 exact k
theorem gE(i:Nat)(a b:D)(Γ:List Slot):aT i a (aT i b Γ)=aT i a Γ:=by unfold aT;rw[List.set_set]
theorem vW{i j:Nat}(h:i≠j)(a b:D)(Γ:List Slot):aT i a (aT j b Γ)=aT j b (aT i a Γ):=by unfold aT;rw[List.set_comm _ _ (Ne.symm h)]
theorem dN(i:Nat)(a:D)(Γ:List Slot):(aT i a Γ).length=Γ.length:=by unfold aT;rw[List.length_set]
theorem BW{tg:Tg}{t:PB}{p:PE}{ds m:List D}{Γ1:List Slot}{e:D}(h0:dU tg d Γ=some Γ1)(h1:t Γ1 c=some (true,c))(h2:p Γ1 c=some (e,c))(h3:bN tg t (aS p) ds Γ1 c=some (m,Γ',c)) :
  bN tg t (aS p) (d::ds) Γ c=some (e::m,Γ',c):=by
 show (dU tg d Γ).bind _=_
 rw[h0]
 show (t Γ1 c).bind _=_
 rw[h1]
 show ((p Γ1 c).map _).bind _=_
 rw[h2]
 show (bN tg t (aS p) ds Γ1 c).map _=_
 rw[h3];rfl
theorem C6{tg:Tg}{t:PB}{p:PE}{ds m:List D}{Γ1:List Slot}(h0:dU tg d Γ=some Γ1)(h1:t Γ1 c=some (false,c))(h3:bN tg t (aS p) ds Γ1 c=some (m,Γ',c)) :
  bN tg t (aS p) (d::ds) Γ c=some (m,Γ',c):=by
 show (dU tg d Γ).bind _=_
 rw[h0]
 show (t Γ1 c).bind _=_
 rw[h1]
 show (bN tg t (aS p) ds Γ1 c).map _=_
 rw[h3];rfl
theorem DF{tg:Tg}{α:Type}{g:α→D}{K:α→List Slot}{t:PB}{p:PE}{b:α→Bool}{f:α→D}(hK:∀x y,dU tg (g y) (K x)=some (K y))(l:List α):∀{Γ:List Slot},(∀x,dU tg (g x) Γ=some (K x))→
  (∀x∈l,t (K x) c=some (b x,c))→(∀x∈l,b x=true→p (K x) c=some (f x,c))→∃Γ',bN tg t (aS p) (l.map g) Γ c=some ((l.filter b).map f,Γ',c):=by
 induction l with
 | nil=>exact λ_ _ _=>⟨_,rfl⟩
 | cons x l ih=>
  intro Γ hΓ ht hp
  obtain⟨Γ',e⟩:=ih (hK x) (λy h=>ht y (.tail _ h)) (λy h=>hp y (.tail _ h))
  have h1:=ht x (.head _)
  cases hb:b x with
  | true=>exact⟨Γ',by rw[List.filter_cons_of_pos hb];exact BW (hΓ x) (hb▸h1) (hp x (.head _) hb) e⟩
  | false=>exact⟨Γ',by rw[List.filter_cons_of_neg (by rw[hb];exact Bool.false_ne_true)];exact C6 (hΓ x) (hb▸h1) e⟩
theorem rh{tg:Tg}{α:Type}{g:α→D}{K:α→List Slot}{t:PB}{p:PE}{js:List (Option Nat)}{src:PL}{l:List α}{c1:List Cell}(b:α→Bool)(f:α→D)(hsrc:src Γ c=some (l.map g,c1))(h0:∀x,dU tg (g x) (bS js Γ)=some (K x))
  (hK:∀x y,dU tg (g y) (K x)=some (K y)) (ht:∀x∈l,t (K x) c1=some (b x,c1)) (hp:∀x∈l,b x=true→p (K x) c1=some (f x,c1)) (hl:l.length≤100000):aY js src tg t (aS p) Γ c=some (.lst ((l.filter b).map f),c1):=by
 obtain⟨Γ',h⟩:=DF hK l h0 ht hp
 have:((l.filter b).map f).length≤100000:=by rw[List.length_map];exact Nat.le_trans (List.length_filter_le _ _) hl
 unfold aY
 rw[hsrc]
 show (bN tg t (aS p) (l.map g) (bS js Γ) c1).bind _=_
 rw[h]
 exact if_pos this
theorem ik{js:List (Option Nat)}{src:PL}{i:Nat}{t:PB}{p:PE}{ds:List D}{c1:List Cell}(b:D→Bool)(f:D→D)(hsrc:src Γ c=some (ds,c1))(ht:∀d∈ds,t (aT i d (bS js Γ)) c1=some (b d,c1))
  (hp:∀d∈ds,b d=true→p (aT i d (bS js Γ)) c1=some (f d,c1)) (hl:ds.length≤100000):aY js src (.n i) t (aS p) Γ c=some (.lst ((ds.filter b).map f),c1):=
 rh (g:=λd=>d) b f (by rw[List.map_id'];exact hsrc) (λ_=>rfl) (λ_ _=>congrArg some (gE ..)) ht hp hl
theorem wJ{js:List (Option Nat)}{src:PL}{i:Nat}{p:PE}{ds:List D}{c1:List Cell}(f:D→D)(hsrc:src Γ c=some (ds,c1))(hp:∀d∈ds,p (aT i d (bS js Γ)) c1=some (f d,c1))(hl:ds.length≤100000) :
  aY js src (.n i) cn (aS p) Γ c=some (.lst (ds.map f),c1):=by
 have:=ik (js:=js) (t:=cn) (λ_=>true) f hsrc (λ_ _=>rfl) (λd hd _=>hp d hd) hl
 rwa [List.filter_eq_self.mpr λ_ _=>rfl]at this
theorem dn{α:Type}{js:List (Option Nat)}{src:PL}{i:Nat}{p:PE}{l:List α}{g:α→D}{c1:List Cell}(f:α→D)(hsrc:src Γ c=some (l.map g,c1))(hp:∀x∈l,p (aT i (g x) (bS js Γ)) c1=some (f x,c1))(hl:l.length≤100000) :
  aY js src (.n i) cn (aS p) Γ c=some (.lst (l.map f),c1):=by
 have:=rh (K:=λx=>aT i (g x) (bS js Γ)) (tg:=.n i) (t:=cn) (λ_=>true) f hsrc (λ_=>rfl) (λ_ _=>congrArg some (gE ..)) (λ_ _=>rfl) (λx h _=>hp x h) hl
 rwa [List.filter_eq_self.mpr λ_ _=>rfl]at this
theorem gr{js:List (Option Nat)}{src:PL}{i j:Nat}{t:PB}{p:PE}{l:List (D×D)}{c1:List Cell}(b:D×D→Bool)(f:D×D→D)(hij:i≠j)(hsrc:src Γ c=some (l.map (λq=>.tup [q.1,q.2]),c1))
  (ht:∀q∈l,t (aT j q.2 (aT i q.1 (bS js Γ))) c1=some (b q,c1)) (hp:∀q∈l,b q=true→p (aT j q.2 (aT i q.1 (bS js Γ))) c1=some (f q,c1)) (hl:l.length≤100000) :
  aY js src (.t [i,j]) t (aS p) Γ c=some (.lst ((l.filter b).map f),c1):=
 rh b f hsrc (λ_=>rfl) (λx y=>congrArg some (by rw[vW hij y.1,gE,gE])) ht hp hl
theorem kf{js:List (Option Nat)}{src:PL}{i j:Nat}{p:PE}{l:List (D×D)}{c1:List Cell}(f:D×D→D)(hij:i≠j)(hsrc:src Γ c=some (l.map (λq=>.tup [q.1,q.2]),c1))
  (hp:∀q∈l,p (aT j q.2 (aT i q.1 (bS js Γ))) c1=some (f q,c1)) (hl:l.length≤100000):aY js src (.t [i,j]) cn (aS p) Γ c=some (.lst (l.map f),c1):=by
 have:=gr (js:=js) (t:=cn) (λ_=>true) f hij hsrc (λ_ _=>rfl) (λd hd _=>hp d hd) hl
 rwa [List.filter_eq_self.mpr λ_ _=>rfl]at this
noncomputable def eT(ds:List D):List (D×D):=(List.range ds.length).map λk=>(.int (k:Nat),ds.getD k .none)
theorem wR(ds:List D):ia ds=(eT ds).map λq=>.tup [q.1,q.2]:=by unfold ia eT;rw[List.map_map];rfl
theorem eV{α:Type}[Inhabited α](l:List α)(g:α→D):eT (l.map g)=(List.range l.length).map λk=>(D.int (k:Nat),g (l.getD k default)):=by
 unfold eT
 rw[List.length_map]
 apply List.map_congr_left
 intro k hk
 have hk':=List.mem_range.mp hk
 simp[List.getD,hk']
theorem uO{ds:List D}{q:D×D}(h:q∈eT ds):∃k:Nat,k<ds.length∧q.1=.int k∧ds[k]?=some q.2:=by
 unfold eT at h
 obtain⟨k,hk,rfl⟩:=List.mem_map.mp h
 have hk':=List.mem_range.mp hk
 exact⟨k,hk',rfl,by simp[List.getD,hk']⟩
theorem eQ(h:p Γ c=some (.lst ds,c1)):bw fg (ag p aw) Γ c=some ((eT ds).map (λq=>.tup [q.1,q.2]),c1):=
 fL (au h aB) (by rw[show fg [.lst ds]=some (ia ds)from rfl,wR])
theorem sL{a:Int}(h:-1000000<a∧a<1000000):cN [.int a]=some (eM 0 a):=if_pos h
theorem ez{n:Nat}(h1:(-1000000:Int)<(n:Int)∧(n:Int)<1000000):bw cN (ag (ah n) aw) Γ c=some ((List.range n).map (λk=>D.int (k:Nat)),c):=by
 have h2:cN [.int n]=some (eM 0 n):=sL h1
 have h3:eM 0 n=(List.range n).map (λk=>D.int (k:Nat)):=by
  unfold eM
  rw[Int.sub_zero,Int.toNat_natCast]
  apply List.map_congr_left
  intro k _
  rw[Int.zero_add]
 exact fL (au ay aB) (by rw[h2,h3])
theorem uh{as bs:List D}(h:p Γ c=some (.lst as,c1))(k:q Γ c1=some (.lst bs,c2)):bw zS (ag p (ag q aw)) Γ c=some ((as.zip bs).map (λq=>.tup [q.1,q.2]),c2):=
 fL (au h (au k aB)) rfl
theorem Cs{f g:PS}{Γ1:List Slot}(h:f Γ c=some (.next,Γ1,c1)):ak f g Γ c=g Γ1 c1:=by unfold ak;rw[h];rfl
theorem aO{f g:PS}{Γ1:List Slot}{r:Option (Fl×List Slot×List Cell)}(h:f Γ c=some (.next,Γ1,c1))(k:g Γ1 c1=r):ak f g Γ c=r:=(Cs h).trans k
theorem cx{f g:PS}{Γ1:List Slot}(h:f Γ c=some (.ret d,Γ1,c1)):ak f g Γ c=some (.ret d,Γ1,c1):=by unfold ak;rw[h];rfl
theorem Bq{tg:Tg}{body:PS}:bH tg body [] Γ c=some (.next,Γ,c):=rfl
theorem bU{tg:Tg}{body:PS}{Γ1 Γ2:List Slot}{r:Option (Fl×List Slot×List Cell)}(h0:dU tg d Γ=some Γ1)(h1:body Γ1 c=some (.next,Γ2,c2))(h2:bH tg body ds Γ2 c2=r):bH tg body (d::ds) Γ c=r:=by
 show (dU tg d Γ).bind _=_;rw[h0];show (body Γ1 c).bind _=_;rw[h1];exact h2
theorem Dd{tg:Tg}{body:PS}{Γ1 Γ2:List Slot}(h0:dU tg d Γ=some Γ1)(h1:body Γ1 c=some (.brk,Γ2,c2)):bH tg body (d::ds) Γ c=some (.brk,Γ2,c2):=by
 show (dU tg d Γ).bind _=_;rw[h0];show (body Γ1 c).bind _=_;rw[h1];rfl
theorem wW{tg:Tg}{body:PS}{Γ1 Γ2:List Slot}(h0:dU tg d Γ=some Γ1)(h1:body Γ1 c=some (.ret a,Γ2,c2)):bH tg body (d::ds) Γ c=some (.ret a,Γ2,c2):=by
 show (dU tg d Γ).bind _=_;rw[h0];show (body Γ1 c).bind _=_;rw[h1];rfl
theorem iG{tg:Tg}{src:PL}{body orelse:PS}{Γ2:List Slot}{r:Option (Fl×List Slot×List Cell)}(h0:src Γ c=some (ds,c1))(h1:bH tg body ds Γ c1=some (.next,Γ2,c2))(h2:orelse Γ2 c2=r):fF tg src body orelse Γ c=r:=by
 unfold fF;rw[h0];simp only[Option.bind_some];rw[h1];exact h2
theorem Ct{tg:Tg}{src:PL}{body orelse:PS}{Γ2:List Slot}(h0:src Γ c=some (ds,c1))(h1:bH tg body ds Γ c1=some (.brk,Γ2,c2)):fF tg src body orelse Γ c=some (.next,Γ2,c2):=by
 unfold fF;rw[h0];simp only[Option.bind_some];rw[h1];rfl
theorem r0{tg:Tg}{src:PL}{body orelse:PS}{Γ2:List Slot}(h0:src Γ c=some (ds,c1))(h1:bH tg body ds Γ c1=some (.ret a,Γ2,c2)):fF tg src body orelse Γ c=some (.ret a,Γ2,c2):=by
 unfold fF;rw[h0];simp only[Option.bind_some];rw[h1];rfl
theorem bq{i:Nat}(h:p Γ c=some (d,c1)):bf i p Γ c=some (.next,aT i d Γ,c1):=by unfold bf;rw[h];rfl
theorem d6(h:p Γ c=some (d,c1)):dS p Γ c=some (.ret d,Γ,c1):=by unfold dS;rw[h];rfl
theorem eB{t:PB}{f g:PS}(h:t Γ c=some (true,c1)):qIf t f g Γ c=f Γ c1:=by unfold qIf;rw[h];rfl
theorem d5{t:PB}{f g:PS}(h:t Γ c=some (false,c1)):qIf t f g Γ c=g Γ c1:=by unfold qIf;rw[h];rfl
theorem iH{i:Nat}(h:ps Γ c=some (ds,c1))(hl:ds.length≤100000):jj i ps Γ c=some (.next,Γ.set i (.ref c1.length),c1++[.lst ds]):=by unfold jj;rw[h];simp only[Option.bind_some];rw[if_pos hl]
theorem qu{i:Nat}{op:Operator}(h0:Γ[i]?=some (.val a))(h:p Γ c=some (b,c1))(k:rm op a b=some d):gj i op p Γ c=some (.next,aT i d Γ,c1):=by unfold gj;rw[h0];simp only[];rw[h];simp only[Option.bind_some];rw[k];rfl
theorem jk{i k:Nat}(h0:Γ[i]?=some (.ref k))(hk0:∃es,c[k]?=some (.lst es))(h:p Γ c=some (d,c1))(hk:c1[k]?=some (.lst ds))(hl:ds.length≤99999):dM i p Γ c=some (.next,Γ,c1.set k (.lst (ds++[d]))):=by
 obtain⟨es,hk0⟩:=hk0
 unfold dM ib
 rw[h0];simp only[];rw[hk0];simp only[Option.bind_some];rw[h];simp only[Option.bind_some];rw[hk];simp only[];rw[if_pos hl]
theorem qv{i k:Nat}{es:List D}(h0:Γ[i]?=some (.ref k))(hk0:∃es,c[k]?=some (.lst es))(h:p Γ c=some (.lst es,c1))(hk:c1[k]?=some (.lst ds))(hl:ds.length+es.length≤99999):lq i p Γ c=some (.next,Γ,c1.set k (.lst (ds++es))):=by
 obtain⟨es',hk0⟩:=hk0
 unfold lq ib
 rw[h0];simp only[];rw[hk0];simp only[Option.bind_some];rw[h];simp only[Option.bind_some];rw[hk];simp only[];rw[if_pos hl]
mutual
theorem t5:∀{d:D} {p:PyData},d.toPy=some p→PyData.eqv p p=true
 | .none,p,h=>by cases h;rfl
 | .bool b,p,h=>by cases h;simp[PyData.eqv]
 | .int i,p,h=>by cases h;simp[PyData.eqv]
 | .str x,p,h=>by
  simp only[D.toPy]at h
  (first|(refine iE h ?_ ?_<;>(clear h;intro _ h))|split at h)
  ·cases h;simp[PyData.eqv]
  ·cases h
 | .tup ds,p,h=>by
  simp only[D.toPy]at h
  (refine mE h ?_;(try clear h);intro ps e qq;subst qq)
  simp only[PyData.eqv];exact mv e
 | .lst ds,p,h=>by
  simp only[D.toPy]at h
  (refine mE h ?_;(try clear h);intro ps e qq;subst qq)
  simp only[PyData.eqv];exact mv e
 | .obj v,p,h=>by cases h
theorem mv:∀{ds:List D} {ps:List PyData},di ds=some ps→PyData.eqvAll ps ps=true
 | [],ps,h=>by cases h;rfl
 | d::ds,ps,h=>by
  simp only[di]at h
  (first|(refine iE h ?_ ?_<;>(clear h;intro _ h))|split at h)
  ·rename_i p ps' e1 e2
   cases h
   simp only[PyData.eqvAll,t5 e1,mv e2,Bool.and_self]
  ·cases h
end
noncomputable def Good(d:D):Prop:=∃p,d.toPy=some p∧SeqAt.shaped p=true
theorem Good.eq{d:D}(h:Good d):dEq d d=some true:=by
 obtain⟨p,e,s⟩:=h
 unfold dEq
 simp only[e,s,Bool.and_self,if_true,t5 e]
end
end Mine
namespace Mine
section
variable{Γ:List Slot}{c c1 c2 c3:List Cell}{p q r:PE}{ps:PL}{d a b:D}{ds:List D}
noncomputable abbrev dY(ns:List Int):D:=.lst (ns.map .int)
theorem qp{α β:Type}(f:α→β)(l:List α):∀idx:List Nat,pick idx (l.map f)=(pick idx l).map f
 | []=>rfl
 | k::idx=>by
  have ih:=qp f l idx
  unfold pick at ih⊢
  rw[List.filterMap_cons,List.filterMap_cons,List.getElem?_map]
  cases l[k]? with
  | none=>exact ih
  | some x=>simp only[Option.map_some,List.map_cons,ih]
theorem v5{α β:Type}(f:α→β)(lo hi st:Option Int)(l:List α):cp lo hi st (l.map f)=(cp lo hi st l).map f:=by
 unfold cp;rw[List.length_map,qp]
theorem nR{lo hi st:Option Int}(h:st≠some 0∧ds.length≤100000):kg (.lst ds) lo hi st=some (.lst (cp lo hi st ds)):=if_pos h
theorem e8:∀ns:List Int,e7 (ns.map .int)=some ns
 | []=>rfl
 | n::ns=>by rw[List.map_cons,e7,e8 ns];rfl
theorem o9{ns:List Int}(h:dT ns=true):oF [dY ns]=some (.int ns.sum):=by
 show (e7 (ns.map .int)).bind _=_;rw[e8];simp only[Option.bind_some,h,if_true]
noncomputable def dX(ns:List Int)(b k:Int):Nat:=(b+((cp (some k) (some 60) (some 4) ns).map λx=>x.fmod 5040).sum).toNat
theorem sum_bound:∀ms:List Int,(∀m∈ms,0≤m∧m<5040)→0≤ms.sum∧ms.sum≤5040*ms.length
 | [],_=>by simp
 | m::ms,h=>by
  have ih:=sum_bound ms λx hx=>h x (.tail _ hx)
  have h0:=h m (.head _)
  rw[List.sum_cons,List.length_cons]
  (first|lia|omega)
theorem lV{ns:List Int}(hl:ns.length≤63)(k:Int):dT ((cp (some k) (some 60) (some 4) ns).map λx=>x.fmod 5040)=true∧
  0≤((cp (some k) (some 60) (some 4) ns).map λx=>x.fmod 5040).sum∧((cp (some k) (some 60) (some 4) ns).map λx=>x.fmod 5040).sum≤317520:=by
 have hp:=iC ns (some k) (some 60) (some 4)
 have hm:∀m∈(cp (some k) (some 60) (some 4) ns).map (λx=>x.fmod 5040),(0:Int)≤m∧m<5040:=by
  intro m hm
  obtain⟨x,_,rfl⟩:=List.mem_map.mp hm
  exact⟨Int.fmod_nonneg_of_pos x (by decide),Int.fmod_lt_of_pos x (by decide)⟩
 have hb:=sum_bound _ hm
 rw[List.length_map]at hb
 refine⟨?_,hb.1,by(first|lia|omega)⟩
 unfold dT
 rw[Bool.and_eq_true]
 refine⟨decide_eq_true ?_,List.all_eq_true.mpr λm h=>?_⟩
 ·rw[List.length_map];(first|lia|omega)
 ·have:=hm m h
  rw[Bool.and_eq_true,decide_eq_true_eq,decide_eq_true_eq]
  constructor<;>(first|lia|omega)
theorem zK{ns:List Int}(hl:ns.length≤63){k b:Int}(hb:0≤b)(h0:Γ[0]?=some (.val (.int k)))(h1:Γ[1]?=some (.val (.int b)))(h2:Γ[2]?=some (.val (dY ns))) :
  ao .Add (aa 1) (bp oF (ag (aY [none] (cE (aW (aa 2) (aQ (aa 0)) (aQ (ah 60)) (aQ (ah 4)))) (.n 0) (cn) (aS (ao .Mod (aa 0) (ah 5040)))) (aw))) Γ c=some (.int (dX ns b k:Nat),c):=by
 obtain⟨s1,s2,s3⟩:=lV hl k
 have e:((dX ns b k:Nat):Int)=b+((cp (some k) (some 60) (some 4) ns).map λx=>x.fmod 5040).sum:=by
  unfold dX;rw[Int.toNat_of_nonneg (by(first|lia|omega))]
 rw[e]
 refine aU (ab h1) (cy (au (ds:=[]) (dn (l:=cp (some k) (some 60) (some 4) ns) (g:=D.int) (λx=>D.int (x.fmod 5040)) (b7 (cP (ab h2) (cz (ab h0)) (cz ay) (cz ay) ?_)) ?_ ?_) aB) ?_) tS
 ·rw[nR ⟨by decide,by rw[List.length_map];(first|lia|omega)⟩,v5]
 ·intro x _
  exact aU (ab rfl) ay (yE (by decide))
 ·have:=iC ns (some k) (some 60) (some 4)
  (first|lia|omega)
 ·have:=o9 s1
  rw[dY,List.map_map]at this
  exact this
noncomputable abbrev bT(a0 a1 a2 a3:Nat):D:=.lst [.int a0,.int a1,.int a2,.int a3]
theorem fX{ns:List Int}(hl:ns.length≤63){k b:Int}(hb:0≤b∧b≤1000):dX ns b k≤320000:=by
 obtain⟨s1,s2,s3⟩:=lV hl k
 unfold dX
 (first|lia|omega)
theorem Ab{ns:List Int}(hl:ns.length≤63)(h0:Γ[0]?=some (.val (dY ns))):z9 Γ c=some (.next,aT 1 (bT (dX ns 634 0) (dX ns 27 1) (dX ns 371 2) (dX ns 106 3)) Γ,c):=by
 refine bq ?_
 have hc:bS [none,none,some 0] Γ=[.un,.un,.val (dY ns)]:=by simp[bS,h0]
 refine kf (l:=eT [.int 634,.int 27,.int 371,.int 106]) (λq=>match q with|(.int k,.int b)=>.int (dX ns b k:Nat)|_=>.none) (by decide) (eQ (aZ (au ay (au ay (au ay (au ay aB)))) (by decide))) ?_ (by decide)
 rw[hc]
 intro q hq
 have hq':q∈[(D.int 0,D.int 634),(D.int 1,D.int 27),(D.int 2,D.int 371),(D.int 3,D.int 106)]:=hq
 simp only[List.mem_cons,List.not_mem_nil,or_false]at hq'
 rcases hq' with rfl|rfl|rfl|rfl<;>exact zK hl (by decide) rfl rfl rfl
theorem Ad{a0 a1 a2 a3:Nat}(hb:a0≤320000∧a1≤320000∧a2≤320000∧a3≤320000)(h:Γ[1]?=some (.val (bT a0 a1 a2 a3))):Ac Γ c=some (.next,aT 2 (.int ((a0+a1+a2+a3:Nat):Int)) Γ,c):=by
 refine bq (cy (au (ab h) aB) ?_)
 have hs:dT [(a0:Int),a1,a2,a3]=true:=by
  simp[dT]
  (first|lia|omega)
 refine(o9 hs).trans ?_
 simp only[List.sum_cons,List.sum_nil]
 congr 2
 (first|lia|omega)
noncomputable abbrev chD(ch:Nat):D:=.str ⟨#[ch]⟩
noncomputable def dj:List Nat→List Nat→List Nat
 | _,[]=>[]
 | pool,x::xs=>pool.getD (x % pool.length) 0::dj (pool.filter (· != pool.getD (x % pool.length) 0)) xs
theorem ju{l:List Nat}(hn:l.Nodup){x:Nat}(hx:x∈l):(l.filter (· != x)).length+1=l.length:=by
 induction l with
 | nil=>cases hx
 | cons y l ih=>
  obtain⟨h1,h2⟩:=List.nodup_cons.mp hn
  by_cases e:y=x
  ·subst e
   have:l.filter (· != y)=l:=List.filter_eq_self.mpr λz hz=>by
    have:z≠y:=λq=>h1 (q▸hz)
    simpa using this
   simp[List.filter_cons,this]
  ·have hx':x∈l:=by
    rcases List.mem_cons.mp hx with h|h
    ·exact absurd h.symm e
    ·exact h
   have:=ih h2 hx'
   simp[List.filter_cons,e]
   omega (config:={})
theorem getD_mem{l:List Nat}{i:Nat}(h:i<l.length):l.getD i 0∈l:=by
 simp[List.getD,h]
theorem nM:∀(xs pool:List Nat),(dj pool xs).length=xs.length
 | [],_=>rfl
 | x::xs,pool=>by rw[dj,List.length_cons,nM,List.length_cons]
theorem kA:∀(xs pool:List Nat),pool.Nodup→xs.length≤pool.length→∀z∈dj pool xs,z∈pool
 | [],_,_,_,z,h=>by cases h
 | x::xs,pool,hn,hl,z,h=>by
  have hp:x % pool.length<pool.length:=Nat.mod_lt _ (by simp at hl;(first|lia|omega))
  have hm:=getD_mem hp
  rw[dj]at h
  rcases List.mem_cons.mp h with h|h
  ·rw[h];exact hm
  ·have:=ju hn hm
   exact(List.mem_filter.mp (kA xs _ (hn.filter _) (by simp at hl;(first|lia|omega)) z h)).1
theorem kW:∀(xs pool:List Nat),pool.Nodup→xs.length≤pool.length→(dj pool xs).Nodup
 | [],_,_,_=>List.nodup_nil
 | x::xs,pool,hn,hl=>by
  have hp:x % pool.length<pool.length:=Nat.mod_lt _ (by simp at hl;(first|lia|omega))
  have hm:=getD_mem hp
  have h1:=ju hn hm
  rw[dj]
  refine List.nodup_cons.mpr ⟨λh=>?_,kW xs _ (hn.filter _) (by simp at hl;(first|lia|omega))⟩
  have:=(List.mem_filter.mp (kA xs _ (hn.filter _) (by simp at hl;(first|lia|omega)) _ h)).2
  simp at this
theorem AX{x y:Str}(h:x.cps.toList=y.cps.toList):x=y:=by
 obtain⟨⟨a⟩⟩:=x
 obtain⟨⟨b⟩⟩:=y
 simp at h
 subst h;rfl
theorem len_str(l:List Nat):(⟨l.toArray⟩:Str).length=l.length:=by simp[Str.length]
theorem Cv{iL iP k:Nat}{pool:Str}{i:Int}{ch:Nat}(h1:ib Γ c iL=some k)(h2:Γ[iP]?=some (.val (.str pool)))(h3:p Γ c=some (.int i,c1))(h4:c1[k]?=some (.lst ds))(hcond:((-1000000:Int)<i∧i<1000000)∧ds.length≤99999∧pool.length≤1000)
  (h5:(seqIndex? i pool.length).bind (pool.cps[·]?)=some ch):fR iL iP p Γ c=some (.next,aT iP (.str (Txt.replace pool ⟨#[ch]⟩ ⟨#[]⟩)) Γ,c1.set k (.lst (ds++[.str ⟨#[ch]⟩]))):=by
 unfold fR;rw[h1];simp only[Option.bind_some];rw[h2];simp only[];rw[h3];simp only[Option.bind_some];rw[h4];simp only[];rw[if_pos hcond,h5];rfl
theorem nS{n:Nat}(h:n<900):(-1000000:Int)<(n:Int)∧(n:Int)<1000000:=⟨by(first|lia|omega),by(first|lia|omega)⟩
theorem kR:∀(xs pool:List Nat) (letters:List D) (Γ:List Slot) (c:List Cell),pool.Nodup→xs.length≤pool.length→pool.length≤900→letters.length+xs.length≤900→Γ[1]?=some (.val (.str ⟨pool.toArray⟩))→Γ[2]?=some (.ref 0)→3<Γ.length→c=[.lst letters]→
  ∃Γ',Γ'[2]?=some (.ref 0)∧bH (.n 3) (fR 2 1 (ao .Mod (aa 3) (bp d9 (ag (aa 1) (aw))))) (xs.map λ(x:Nat)=>D.int (x:Int)) Γ c=some (.next,Γ',[.lst (letters++(dj pool xs).map chD)])
 | [],pool,letters,Γ,c,_,_,_,_,_,h2,_,hc=>⟨Γ,h2,by rw[hc];simp[bH,dj]⟩
 | x::xs,pool,letters,Γ,c,hn,hl,h9,hls,h1,h2,h3,hc=>by
  subst hc
  have hpos:0<pool.length:=by simp at hl;(first|lia|omega)
  have hp:x % pool.length<pool.length:=Nat.mod_lt _ hpos
  have hm:=getD_mem hp
  have hf:=ju hn hm
  have g1:(aT 3 (.int x) Γ)[1]?=some (.val (.str ⟨pool.toArray⟩)):=by unfold aT;rw[List.getElem?_set_ne (by decide)];exact h1
  have g2:(aT 3 (.int x) Γ)[2]?=some (.ref 0):=by unfold aT;rw[List.getElem?_set_ne (by decide)];exact h2
  have g3:(aT 3 (.int x) Γ)[3]?=some (.val (.int x)):=by unfold aT;rw[List.getElem?_set_self h3]
  have he:ao .Mod (aa 3) (bp d9 (ag (aa 1) (aw))) (aT 3 (.int x) Γ) [.lst letters]=some (.int ((x % pool.length:Nat):Int),[.lst letters]):=by
   refine aU (ab g3) (cy (au (ab g1) aB) (if_pos (by rw[len_str];(first|lia|omega)))) ?_
   rw[yE (by rw[len_str];(first|lia|omega))]
   rw[len_str]
   congr 2
   rw[Int.fmod_eq_emod_of_nonneg _ (by(first|lia|omega))]
   rfl
  have hstep:fR 2 1 (ao .Mod (aa 3) (bp d9 (ag (aa 1) (aw)))) (aT 3 (.int x) Γ) [.lst letters]=
    some (.next,aT 1 (.str ⟨(pool.filter (· != pool.getD (x % pool.length) 0)).toArray⟩) (aT 3 (.int x) Γ),[.lst (letters++[chD (pool.getD (x % pool.length) 0)])]):=by
   have hrep:Txt.replace ⟨pool.toArray⟩ ⟨#[pool.getD (x % pool.length) 0]⟩ ⟨#[]⟩=⟨(pool.filter (· != pool.getD (x % pool.length) 0)).toArray⟩:=by
    apply AX
    rw[replace_strikes]
   have ho:ib (aT 3 (.int x) Γ) [.lst letters] 2=some 0:=by unfold ib;rw[g2];rfl
   have hs:(seqIndex? ((x % pool.length:Nat):Int) (⟨pool.toArray⟩:Str).length).bind ((⟨pool.toArray⟩:Str).cps[·]?)=some (pool.getD (x % pool.length) 0):=by
    rw[o8 (by rw[len_str];exact hp)]
    simp[List.getD,hp]
   have:=Cv (ds:=letters) ho g1 he rfl ⟨nS (by(first|lia|omega)),by simp at hls;(first|lia|omega),by rw[len_str];(first|lia|omega)⟩ hs
   rw[hrep]at this
   exact this
  obtain⟨Γ',r1,r2⟩:=kR xs (pool.filter (· != pool.getD (x % pool.length) 0)) (letters++[chD (pool.getD (x % pool.length) 0)]) (aT 1 (.str ⟨(pool.filter (· != pool.getD (x % pool.length) 0)).toArray⟩) (aT 3 (.int x) Γ)) _
   (hn.filter _) (by simp at hl;(first|lia|omega)) (by(first|lia|omega)) (by simp at hls ⊢;(first|lia|omega)) (by unfold aT;rw[List.getElem?_set_self (by rw[List.length_set];(first|lia|omega))]) (by rw[aT,List.getElem?_set_ne (by decide)];exact g2) (by rw[dN,dN];exact h3) rfl
  refine⟨Γ',r1,?_⟩
  rw[List.map_cons]
  unfold bH
  simp only[dU,Option.bind_some]
  rw[hstep]
  simp only[Option.bind_some]
  rw[r2]
  rw[dj,List.map_cons,List.append_assoc];rfl
noncomputable abbrev bC:List Nat:=[43,45,47,38,60,62,61,37,126,94]
theorem jx:bC.Nodup:=by decide
theorem rM(xs:List Nat)(hx:xs.length=4):j7 [.lst (xs.map λ(x:Nat)=>D.int (x:Int))]=some (.lst ((dj bC xs).map chD)):=by
 obtain⟨Γ',h2,h⟩:=kR xs bC [] [.val (.lst (xs.map λ(x:Nat)=>D.int (x:Int))),.val (.str ⟨bC.toArray⟩),.ref 0,.un] [.lst []] jx (by rw[hx];decide) (by decide) (by rw[hx];decide) rfl rfl (Nat.lt_succ_self 3) rfl
 have h':=h
 unfold j7 dp cC
 have hq:kF [.val (.lst (xs.map λ(x:Nat)=>D.int (x:Int))),.un,.un,.un] []=some (.ret (.lst ((dj bC xs).map chD)),Γ',[.fz ((dj bC xs).map chD)]):=by
  have hf:fF (.n 3) (cE (aa 0)) (fR 2 1 (ao .Mod (aa 3) (bp d9 (ag (aa 1) (aw))))) (aH) [.val (.lst (xs.map λ(x:Nat)=>D.int (x:Int))),.val (.str ⟨bC.toArray⟩),.ref 0,.un] [.lst []]=some (.next,Γ',[.lst ((dj bC xs).map chD)]):=by
   unfold fF
   rw[b7 (ab rfl)];simp only[Option.bind_some]
   rw[h'];rfl
  have hr:aa 2 Γ' [.lst ((dj bC xs).map chD)]=some (.lst ((dj bC xs).map chD),[.fz ((dj bC xs).map chD)]):=by
   unfold aa;rw[h2];rfl
  exact aO (bq bG) (aO (iH aB (by decide)) (aO hf (cx (d6 hr))))
 have hs:setFrom 0 ([D.lst (xs.map λ(x:Nat)=>D.int (x:Int))].map Slot.val) (List.replicate 4 .un)=[.val (.lst (xs.map λ(x:Nat)=>D.int (x:Int))),.un,.un,.un]:=rfl
 rw[hs,hq];rfl
theorem Af{a0 a1 a2 a3:Nat}(h:Γ[1]?=some (.val (bT a0 a1 a2 a3))):Ae Γ c=some (.next,aT 3 (.lst ((dj bC [a0,a1,a2,a3]).map chD)) Γ,c):=
 bq (cO (ab h) (rM [a0,a1,a2,a3] rfl))
end
end Mine
namespace Mine
section
variable{Γ:List Slot}{c c1 c2 c3:List Cell}{p q r:PE}{ps:PL}{d a b:D}{ds:List D}{α:Type}
theorem rY(l:List α)(a:Nat):∀n:Nat,a+n≤l.length→pick ((List.range n).map (a+·)) l=(l.drop a).take n:=by
 intro n
 induction n with
 | zero=>intro _;simp[pick]
 | succ n ih=>
  intro h
  have ih:=ih (by(first|lia|omega))
  unfold pick at ih⊢
  rw[List.range_succ,List.map_append,List.filterMap_append,ih,List.take_succ]
  have hlt:a+n<l.length:=by(first|lia|omega)
  congr 1
  simp[List.getElem?_drop,hlt]
theorem fm(l:List α)(lo hi:Option Int):cp lo hi none l=((l.take (hi.elim l.length (clipAt l.length))).drop (lo.elim 0 (clipAt l.length))):=by
 unfold cp
 rw[sliceBounds_plain]
 dsimp only
 rw[sliceRange_one]
 have hb:(hi.elim l.length (clipAt l.length))≤l.length:=by
  cases hi with
  | none=>exact Nat.le_refl _
  | some i=>exact Int.toNat_le.mpr (Int.max_le.mpr ⟨Int.natCast_nonneg _,Int.min_le_right _ _⟩)
 generalize hi.elim l.length (clipAt l.length)=B at hb⊢
 generalize lo.elim 0 (clipAt l.length)=Aa
 by_cases h:Aa≤B
 ·rw[rY l Aa (B - Aa) (by(first|lia|omega)),List.drop_take]
 ·have e:B - Aa=0:=by(first|lia|omega)
  rw[e]
  simp only[List.range_zero,List.map_nil,pick,List.filterMap_nil]
  rw[List.drop_eq_nil_of_le]
  rw[List.length_take];(first|lia|omega)
theorem sH{n k:Nat}:clipAt n (k:Int)=min k n:=by
 unfold clipAt
 rw[if_neg (Int.not_lt.mpr (Int.natCast_nonneg k)),show min (k:Int) n=((min k n:Nat):Int)from by(first|lia|omega),Int.max_eq_right (Int.natCast_nonneg _)];rfl
theorem gq{n k:Nat}(h:k≤n):clipAt n (k:Int)=k:=sH.trans (Nat.min_eq_left h)
theorem C5{n:Nat}{k:Int}(h:(n:Int)≤k):clipAt n k=n:=by
 obtain⟨m,rfl⟩:=Int.eq_ofNat_of_zero_le (Int.le_trans (Int.natCast_nonneg n) h)
 exact sH.trans (Nat.min_eq_right (Int.ofNat_le.mp h))
theorem pP{n k:Nat}(h0:0<k)(h:k≤n):clipAt n (-(k:Int))=n - k:=by
 rw[←gq (Nat.sub_le n k)]
 unfold clipAt
 rw[if_pos (by(first|lia|omega)),if_neg (Int.not_lt.mpr (Int.natCast_nonneg _)),Int.natCast_sub h,Int.add_comm,Int.sub_eq_add_neg]
theorem iN(l:List α){k:Nat}(h:k≤l.length):cp none (some (k:Int)) none l=l.take k:=by
 rw[fm];show (l.take (clipAt l.length k)).drop 0=_;rw[gq h];rfl
theorem mF(l:List α){k:Nat}(h:k≤l.length):cp (some (k:Int)) none none l=l.drop k:=by
 rw[fm];show (l.take l.length).drop (clipAt l.length k)=_;rw[gq h,List.take_length]
theorem v7(l:List α){i k:Nat}(hi:i≤l.length)(h:k≤l.length):cp (some (i:Int)) (some (k:Int)) none l=(l.take k).drop i:=by
 rw[fm];show (l.take (clipAt l.length k)).drop (clipAt l.length i)=_;rw[gq h,gq hi]
theorem sh(l:List α)(h:1≤l.length):cp (some (-1)) none none l=l.drop (l.length - 1):=by
 rw[fm];show (l.take l.length).drop (clipAt l.length (-1))=_
 have:=pP (n:=l.length) (k:=1) (by decide) h
 rw[show (-1:Int)=-((1:Nat):Int)by rfl,this,List.take_length]
theorem vZ(l:List α){i:Nat}(hi:i≤l.length)(h:1≤l.length):cp (some (i:Int)) (some (-1)) none l=(l.take (l.length - 1)).drop i:=by
 rw[fm];show (l.take (clipAt l.length (-1))).drop (clipAt l.length i)=_
 have:=pP (n:=l.length) (k:=1) (by decide) h
 rw[show (-1:Int)=-((1:Nat):Int)by rfl,this,gq hi]
theorem jA{lo hi:Option Int}(h:ds.length≤100000):kg (.lst ds) lo hi none=some (.lst (cp lo hi none ds)):=nR ⟨by simp,h⟩
noncomputable def i7(k:Nat)(s:Nat)(rows:List (List Nat)):List (List Nat):=rows.take k++[[40]++rows.getD k []++[s]++rows.getD (k+1) []++[41]]++rows.drop (k+2)
noncomputable abbrev mY(r:List Nat):D:=.lst (r.map chD)
noncomputable abbrev f6(rows:List (List Nat)):D:=.lst (rows.map mY)
noncomputable def bF(b:Nat):Nat:=if b=0 then 42 else 124
theorem jQ(a b:Nat):(a:Int).fdiv (b:Int)=((a / b:Nat):Int):=by rw[Int.fdiv_eq_ediv_of_nonneg _ (by(first|lia|omega))];rfl
theorem w9(a b:Nat):(a:Int).fmod (b:Int)=((a % b:Nat):Int):=by rw[Int.fmod_eq_emod_of_nonneg _ (by(first|lia|omega))];rfl
theorem iv{a b:Nat}(h1:p Γ c=some (.int (a:Int),c1))(hb:b≠0∧b<1073741824):ao .FloorDiv p (ah (b:Int)) Γ c=some (.int ((a / b:Nat):Int),c1):=by
 have:=aU (op:=.FloorDiv) (q:=ah (b:Int)) h1 ay (tT ⟨by omega (config:={}),by omega (config:={})⟩)
 rw[jQ]at this;exact this
theorem dq{a b:Nat}(h1:p Γ c=some (.int (a:Int),c1))(h2:q Γ c1=some (.int (b:Int),c2))(hb:b≠0):ao .Mod p q Γ c=some (.int ((a % b:Nat):Int),c2):=by
 have:=aU (op:=.Mod) h1 h2 (yE (by omega (config:={})))
 rw[w9]at this;exact this
theorem dA{a b:Nat}(h1:p Γ c=some (.int (a:Int),c1))(h2:q Γ c1=some (.int (b:Int),c2)):ao .Add p q Γ c=some (.int ((a+b:Nat):Int),c2):=by
 have:=aU (op:=.Add) h1 h2 tS
 rw[show (a:Int)+(b:Int)=((a+b:Nat):Int)by(first|lia|omega)]at this;exact this
theorem mf{a b:Nat}(h1:p Γ c=some (.int (a:Int),c1))(h2:q Γ c1=some (.int (b:Int),c2))(ha:a<2 ^ 64):ao .Mult p q Γ c=some (.int ((a*b:Nat):Int),c2):=by
 have:=aU (op:=.Mult) h1 h2 (yF (by simpa using ha))
 rw[show (a:Int)*(b:Int)=((a*b:Nat):Int)by simp]at this;exact this
theorem cK{ds:List D}{k:Nat}(h1:p Γ c=some (.lst ds,c1))(h2:q Γ c1=some (.int (k:Int),c2))(hk:k<1000000)(h:ds[k]?=some d):ba p q Γ c=some (d,c2):=fv h1 h2 (Df hk h)
theorem km{ds:List D}(h1:p Γ c=some (.lst ds,c1))(h:ds.length≤100000):bp d9 (ag p aw) Γ c=some (.int (ds.length:Int),c1):=cy (au h1 aB) (if_pos h)
noncomputable abbrev CI:PS:=ak (bf 4 (ao .Mod (ao .Mod (ao .FloorDiv (ba (aa 0) (aa 3)) (ah 10)) (ah 12)) (ao .Sub (bp d9 (ag (aa 2) (aw))) (ah 1)))) (ak (bf 2 (ao .Add (ao .Add (aW (aa 2) (aA) (aQ (aa 4)) (aA)) (aM (ag (ao .Add (ao .Add (ao .Add (ao .Add (aM (ag (a8 ⟨#[40]⟩) (aw))) (ba (aa 2) (aa 4))) (aM (ag (ba (a8 ⟨#[42,124]⟩) (ao .Mod (ao .FloorDiv (ba (aa 0) (aa 3)) (ah 120)) (ah 2))) (aw)))) (ba (aa 2) (ao .Add (aa 4) (ah 1)))) (aM (ag (a8 ⟨#[41]⟩) (aw)))) (aw)))) (aW (aa 2) (aQ (ao .Add (aa 4) (ah 2))) (aA) (aA)))) (aH))
theorem yX{rows:List (List Nat)}{k:Nat}(h:k<rows.length):(rows.map mY)[k]?=some (mY (rows.getD k [])):=by simp[List.getD,h]
theorem jz{as:List D}{turn x:Nat}{rows:List (List Nat)}{w:Slot}(hx:as[turn]?=some (.int (x:Int)))(ht:turn<900)(hr:2≤rows.length)(hr4:rows.length≤4)(hl:∀r∈rows,r.length≤20) :
  CI [.val (.lst as),w,.val (f6 rows),.val (.int (turn:Int)),d0] c=some (.next,[.val (.lst as),w,.val (f6 (i7 (x / 10 % 12 % (rows.length - 1)) (bF (x / 120 % 2)) rows)),.val (.int (turn:Int)),.val (.int ((x / 10 % 12 % (rows.length - 1):Nat):Int))],c):=by
 have hk:x / 10 % 12 % (rows.length - 1)<rows.length - 1:=Nat.mod_lt _ (by(first|lia|omega))
 generalize hkk:x / 10 % 12 % (rows.length - 1)=k at hk
 have hlen:(rows.map mY).length=rows.length:=List.length_map _
 have e1:ao .Mod (ao .Mod (ao .FloorDiv (ba (aa 0) (aa 3)) (ah 10)) (ah 12)) (ao .Sub (bp d9 (ag (aa 2) (aw))) (ah 1)) [.val (.lst as),w,.val (f6 rows),.val (.int (turn:Int)),d0] c=some (.int (k:Int),c):=by
  have h2:ao .Sub (bp d9 (ag (aa 2) (aw))) (ah 1) [.val (.lst as),w,.val (f6 rows),.val (.int (turn:Int)),d0] c=some (.int ((rows.length - 1:Nat):Int),c):=by
   have:=aU (op:=.Sub) (km (Γ:=[.val (.lst as),w,.val (f6 rows),.val (.int (turn:Int)),d0]) (c:=c) (ab (i:=2) rfl) (by rw[hlen];(first|lia|omega))) (ay (i:=1)) ji
   rw[hlen,show (rows.length:Int) - 1=((rows.length - 1:Nat):Int)by(first|lia|omega)]at this
   exact this
  have:=dq (dq (iv (cK (Γ:=[.val (.lst as),w,.val (f6 rows),.val (.int (turn:Int)),d0]) (c:=c) (ab (i:=0) rfl) (ab (i:=3) rfl) (by(first|lia|omega)) hx) (b:=10) (by decide)) (ay (i:=((12:Nat):Int))) (by decide)) h2 (by(first|lia|omega))
  rw[hkk]at this
  exact this
 refine aO (bq e1) (aO (bq ?_) rfl)
 show ao .Add _ _ [.val (.lst as),w,.val (f6 rows),.val (.int (turn:Int)),.val (.int (k:Int))] c=_
 have star:ba (a8 ⟨#[42,124]⟩) (ao .Mod (ao .FloorDiv (ba (aa 0) (aa 3)) (ah 120)) (ah 2)) [.val (.lst as),w,.val (f6 rows),.val (.int (turn:Int)),.val (.int (k:Int))] c=some (chD (bF (x / 120 % 2)),c):=by
  have:=dq (iv (cK (Γ:=[.val (.lst as),w,.val (f6 rows),.val (.int (turn:Int)),.val (.int (k:Int))]) (c:=c) (ab (i:=0) rfl) (ab (i:=3) rfl) (by(first|lia|omega)) hx) (b:=120) (by decide)) (ay (i:=((2:Nat):Int))) (by decide)
  refine fv bG this ?_
  have h2:x / 120 % 2=0∨x / 120 % 2=1:=by(first|lia|omega)
  rcases h2 with h|h<;>rw[h]<;>exact Dg ⟨by decide,by decide⟩ rfl
 have get:∀j:Nat,j<rows.length→(rows.map mY)[j]?=some (mY (rows.getD j [])):=λj=>yX
 have small:∀j:Nat,(rows.getD j []).length≤20:=by
  intro j
  by_cases h:j<rows.length
  ·simp only[List.getD,List.getElem?_eq_getElem h,Option.getD_some];exact hl _ (List.getElem_mem h)
  ·simp[List.getD,h]
 have s0:=small k
 have s1:=small (k+1)
 have row:ao .Add (ao .Add (ao .Add (ao .Add (aM (ag (a8 ⟨#[40]⟩) (aw))) (ba (aa 2) (aa 4))) (aM (ag (ba (a8 ⟨#[42,124]⟩) (ao .Mod (ao .FloorDiv (ba (aa 0) (aa 3)) (ah 120)) (ah 2))) (aw)))) (ba (aa 2) (ao .Add (aa 4) (ah 1)))) (aM (ag (a8 ⟨#[41]⟩) (aw)))
   [.val (.lst as),w,.val (f6 rows),.val (.int (turn:Int)),.val (.int (k:Int))] c=some (mY ([40]++rows.getD k []++[bF (x / 120 % 2)]++rows.getD (k+1) []++[41]),c):=by
  have h:=aU (op:=.Add) (aU (op:=.Add) (aU (op:=.Add) (aU (op:=.Add) (aZ (au (bG (Γ:=[.val (.lst as),w,.val (f6 rows),.val (.int (turn:Int)),.val (.int (k:Int))]) (c:=c) (x:=⟨#[40]⟩)) aB) (by decide)) (cK (ab (i:=2) rfl) (ab (i:=4) rfl) (by(first|lia|omega)) (get k (by(first|lia|omega)))) (dw (by simp only[List.length_append,List.length_map,List.length_cons,List.length_nil];(first|lia|omega)))) (aZ (au star aB) (Nat.le_of_ble_eq_true rfl)) (dw (by simp only[List.length_append,List.length_map,List.length_cons,List.length_nil];(first|lia|omega))))
   (cK (ab (i:=2) rfl) (dA (ab (i:=4) rfl) (ay (i:=((1:Nat):Int)))) (by(first|lia|omega)) (get (k+1) (by(first|lia|omega)))) (dw (by simp only[List.length_append,List.length_map,List.length_cons,List.length_nil];(first|lia|omega)))) (aZ (au (bG (x:=⟨#[41]⟩)) aB) (by decide)) (dw (by simp only[List.length_append,List.length_map,List.length_cons,List.length_nil];(first|lia|omega)))
  refine h.trans ?_
  simp only[mY,List.map_append,List.map_cons,List.map_nil]
 have h:=aU (op:=.Add) (aU (op:=.Add) (cP (ab (Γ:=[.val (.lst as),w,.val (f6 rows),.val (.int (turn:Int)),.val (.int (k:Int))]) (c:=c) (i:=2) rfl) bo (cz (ab (i:=4) rfl)) bo (jA (by rw[hlen];(first|lia|omega)))) (aZ (au row aB) (Nat.le_of_ble_eq_true rfl)) (dw (by rw[iN _ (by rw[hlen];(first|lia|omega))];simp;(first|lia|omega))))
  (cP (ab (i:=2) rfl) (cz (dA (ab (i:=4) rfl) (ay (i:=((2:Nat):Int))))) bo bo (jA (by rw[hlen];(first|lia|omega)))) (dw (by rw[iN _ (by rw[hlen];(first|lia|omega)),mF _ (by rw[hlen];(first|lia|omega))];simp;(first|lia|omega)))
 refine h.trans ?_
 rw[iN _ (by rw[hlen];(first|lia|omega)),mF _ (by rw[hlen];(first|lia|omega))]
 simp only[f6,i7,List.map_append,List.map_take,List.map_drop,List.map_cons,List.map_nil]
end
end Mine
namespace Mine
inductive SP where
 | leaf (i:Nat)
 | node (s:Nat) (l r:SP)
noncomputable def code(L:List Nat):SP→List Nat
 | .leaf i=>[L.getD i 0]
 | .node s l r=>[40]++code L l++[bF s]++code L r++[41]
noncomputable def e6(k s:Nat)(rows:List SP):List SP:=rows.take k++[.node s (rows.getD k (.leaf 0)) (rows.getD (k+1) (.leaf 0))]++rows.drop (k+2)
noncomputable def shapeOf(k0 k1 k2 b0 b1 b2:Nat):SP:=(e6 k2 b2 (e6 k1 b1 (e6 k0 b0 [.leaf 0,.leaf 1,.leaf 2,.leaf 3]))).getD 0 (.leaf 0)
noncomputable def shapeAt(a0 a1 a2:Nat):SP:=shapeOf (a0 / 10 % 12 % 3) (a1 / 10 % 12 % 2) (a2 / 10 % 12 % 1) (a0 / 120 % 2) (a1 / 120 % 2) (a2 / 120 % 2)
section
variable{Γ:List Slot}{c c1 c2 c3:List Cell}{p q r:PE}{ps:PL}{d a b:D}{ds:List D}{α:Type}
theorem kH{L:List Nat}{k s:Nat}{rows:List SP}(h:k+1<rows.length):i7 k (bF s) (rows.map (code L))=(e6 k s rows).map (code L):=by
 have g:∀j:Nat,j<rows.length→(rows.map (code L)).getD j []=code L (rows.getD j (.leaf 0)):=by
  intro j hj
  simp[List.getD,hj]
 unfold i7 e6
 rw[g k (by(first|lia|omega)),g (k+1) h]
 simp only[List.map_append,List.map_take,List.map_drop,List.map_cons,List.map_nil,code]
theorem mJ{k s:Nat}{rows:List SP}(h:k+1<rows.length):(e6 k s rows).length=rows.length - 1:=by
 unfold e6
 simp only[List.length_append,List.length_take,List.length_drop,List.length_cons,List.length_nil]
 (first|lia|omega)
theorem mI{k s B:Nat}{rows:List (List Nat)}(h:∀r∈rows,r.length≤B):∀r∈i7 k s rows,r.length≤2*B+3:=by
 have g:∀j:Nat,(rows.getD j []).length≤B:=by
  intro j
  by_cases hj:j<rows.length
  ·simp only[List.getD,List.getElem?_eq_getElem hj,Option.getD_some];exact h _ (List.getElem_mem hj)
  ·simp[List.getD,hj]
 intro r hr
 unfold i7 at hr
 rcases List.mem_append.mp hr with hr|hr
 ·rcases List.mem_append.mp hr with hr|hr
  ·have:=h r (List.mem_of_mem_take hr);(first|lia|omega)
  ·obtain rfl:=List.mem_singleton.mp hr
   have:=g k;have:=g (k+1)
   simp only[List.length_append,List.length_cons,List.length_nil];(first|lia|omega)
 ·have:=h r (List.mem_of_mem_drop hr);(first|lia|omega)
noncomputable abbrev sgD(l:List Nat):D:=.lst (l.map chD)
theorem y7(a0 a1 a2 a3:Nat)(L:List Nat)(hL:L.length=4):nZ [bT a0 a1 a2 a3,sgD L]=some (sgD (code L (shapeAt a0 a1 a2))):=by
 match L,hL with
 | [l0,l1,l2,l3],_=>
 have hr0:([[l0],[l1],[l2],[l3]]:List (List Nat))=[SP.leaf 0,.leaf 1,.leaf 2,.leaf 3].map (code [l0,l1,l2,l3]):=rfl
 have b0:∀r∈([[l0],[l1],[l2],[l3]]:List (List Nat)),r.length≤1:=by simp
 have b1:=mI (k:=a0 / 10 % 12 % 3) (s:=bF (a0 / 120 % 2)) b0
 have k0:a0 / 10 % 12 % 3+1<4:=by(first|lia|omega)
 have k1:a1 / 10 % 12 % 2+1<3:=by(first|lia|omega)
 have k2:a2 / 10 % 12 % 1+1<2:=by(first|lia|omega)
 have c0:=kH (L:=[l0,l1,l2,l3]) (s:=a0 / 120 % 2) (rows:=[SP.leaf 0,.leaf 1,.leaf 2,.leaf 3]) k0
 have n0:=mJ (s:=a0 / 120 % 2) (rows:=[SP.leaf 0,.leaf 1,.leaf 2,.leaf 3]) k0
 have hS:shapeAt a0 a1 a2=(e6 (a2 / 10 % 12 % 1) (a2 / 120 % 2) (e6 (a1 / 10 % 12 % 2) (a1 / 120 % 2) (e6 (a0 / 10 % 12 % 3) (a0 / 120 % 2) [SP.leaf 0,.leaf 1,.leaf 2,.leaf 3]))).getD 0 (.leaf 0):=rfl
 rw[←hr0]at c0
 generalize hR1:e6 (a0 / 10 % 12 % 3) (a0 / 120 % 2) [SP.leaf 0,.leaf 1,.leaf 2,.leaf 3]=R1 at c0 n0 hS
 have n0':R1.length=3:=n0
 rw[c0]at b1
 have b2:=mI (k:=a1 / 10 % 12 % 2) (s:=bF (a1 / 120 % 2)) b1
 have c1:=kH (L:=[l0,l1,l2,l3]) (s:=a1 / 120 % 2) (rows:=R1) (k:=a1 / 10 % 12 % 2) (by(first|lia|omega))
 have n1:=mJ (s:=a1 / 120 % 2) (rows:=R1) (k:=a1 / 10 % 12 % 2) (by(first|lia|omega))
 generalize hR2:e6 (a1 / 10 % 12 % 2) (a1 / 120 % 2) R1=R2 at c1 n1 hS
 have n1':R2.length=2:=by(first|lia|omega)
 rw[c1]at b2
 have c2:=kH (L:=[l0,l1,l2,l3]) (s:=a2 / 120 % 2) (rows:=R2) (k:=a2 / 10 % 12 % 1) (by(first|lia|omega))
 have n2:=mJ (s:=a2 / 120 % 2) (rows:=R2) (k:=a2 / 10 % 12 % 1) (by(first|lia|omega))
 have s0:=λd0=>jz (c:=[]) (d0:=d0) (as:=[.int a0,.int a1,.int a2,.int a3]) (turn:=0) (x:=a0) (rows:=[[l0],[l1],[l2],[l3]]) (w:=.val (sgD [l0,l1,l2,l3])) rfl (by decide) (by simp) (by simp) (λr h=>Nat.le_trans (b0 r h) (by decide))
 have s1:=λd0=>jz (c:=[]) (d0:=d0) (as:=[.int a0,.int a1,.int a2,.int a3]) (turn:=1) (x:=a1) (rows:=R1.map (code [l0,l1,l2,l3])) (w:=.val (sgD [l0,l1,l2,l3])) rfl (by decide) (by rw[List.length_map];(first|lia|omega)) (by rw[List.length_map];(first|lia|omega)) (λr h=>Nat.le_trans (b1 r h) (by decide))
 have s2:=λd0=>jz (c:=[]) (d0:=d0) (as:=[.int a0,.int a1,.int a2,.int a3]) (turn:=2) (x:=a2) (rows:=R2.map (code [l0,l1,l2,l3])) (w:=.val (sgD [l0,l1,l2,l3])) rfl (by decide) (by rw[List.length_map];(first|lia|omega)) (by rw[List.length_map];(first|lia|omega)) (λr h=>Nat.le_trans (b2 r h) (by decide))
 rw[List.length_map,n0']at s1
 rw[List.length_map,n1']at s2
 rw[c1]at s1
 rw[c2]at s2
 rw[show ([[l0],[l1],[l2],[l3]]:List (List Nat)).length - 1=3 from rfl,c0]at s0
 generalize hR3:e6 (a2 / 10 % 12 % 1) (a2 / 120 % 2) R2=R3 at s2 n2 hS
 have hlast:(R3.map (λt=>mY (code [l0,l1,l2,l3] t)))[0]?=some (sgD (code [l0,l1,l2,l3] (shapeAt a0 a1 a2))):=by
  rw[hS]
  have:0<R3.length:=by(first|lia|omega)
  simp[List.getD,this]
 have i0:∃Γ',oY [.val (bT a0 a1 a2 a3),.val (sgD [l0,l1,l2,l3]),.un,.un,.un] []=some (.ret (sgD (code [l0,l1,l2,l3] (shapeAt a0 a1 a2))),Γ',[]):=by
  refine⟨_,aO (bq (dn (l:=[l0,l1,l2,l3]) (g:=chD) (λx=>mY [x]) (b7 (ab rfl)) (λx _=>aZ (au (ab rfl) aB) (Nat.le_of_ble_eq_true rfl)) (Nat.le_of_ble_eq_true rfl)))
   (aO (iG (ez (n:=3) (by decide)) (bU (Γ1:=[.val (bT a0 a1 a2 a3),.val (sgD [l0,l1,l2,l3]),.val (f6 [[l0],[l1],[l2],[l3]]),.val (.int ((0:Nat):Int)),.un]) rfl (s0 _) (bU rfl (s1 _) (bU rfl (s2 _) Bq))) rfl) (cx (d6 (fv (ab (i:=2) rfl) (ay (i:=0)) (xB (by decide) ?_)))))⟩
  rw[List.map_map,List.length_map,n2,n1']
  exact hlast
 obtain⟨Γ',e⟩:=i0
 unfold nZ dp cC
 have hs:setFrom 0 ([bT a0 a1 a2 a3,sgD [l0,l1,l2,l3]].map Slot.val) (List.replicate 5 .un)=[.val (bT a0 a1 a2 a3),.val (sgD [l0,l1,l2,l3]),.un,.un,.un]:=rfl
 rw[hs,e];rfl
theorem Ah{a0 a1 a2 a3:Nat}{L:List Nat}(hL:L.length=4)(h:Γ[1]?=some (.val (bT a0 a1 a2 a3)))(h3:Γ[3]?=some (.val (sgD L))):Ag Γ c=some (.next,aT 4 (sgD (code L (shapeAt a0 a1 a2))) Γ,c):=
 bq (lX (ab h) (ab h3) (y7 a0 a1 a2 a3 L hL))
end
end Mine
namespace Mine
section
variable{Γ:List Slot}{c c1 c2 c3:List Cell}{p q r:PE}{ps:PL}{d a b:D}{ds:List D}{α:Type}
noncomputable abbrev bg(l:List Nat):Str:=⟨l.toArray⟩
noncomputable abbrev aF(l:List Nat):D:=.str (bg l)
theorem jZ(x y:List Nat):bg x++bg y=bg (x++y):=by
 show (⟨x.toArray++y.toArray⟩:Str)=_
 simp
theorem join_eq(sep:Str)(l:List Str):Txt.join sep l=Str.join sep l:=eq_of_beq (join_plain_closes sep l)
theorem Dh:∀ls:List (List Nat),Txt.join ⟨#[]⟩ (ls.map bg)=bg ls.flatten:=by
 intro ls
 rw[join_eq]
 induction ls with
 | nil=>rfl
 | cons x ls ih=>rw[List.map_cons,join_nil_cons,ih,List.flatten_cons,jZ]
theorem mM:∀ls:List (List Nat),hZ (ls.map aF)=some (ls.map bg)
 | []=>rfl
 | l::ls=>by rw[List.map_cons,hZ,mM ls];rfl
theorem jS{ls:List (List Nat)}(h1:p Γ c=some (.lst (ls.map aF),c1))(h:ls.flatten.length≤100000):bR "str" cZ (a8 ⟨#[]⟩) (ag p aw) Γ c=some (aF ls.flatten,c1):=by
 refine gM bG rfl (au h1 aB) ?_
 show (hZ (ls.map aF)).bind _=_
 rw[mM]
 simp only[Option.bind_some]
 have hl:((ls.map bg).map (·.length)).sum+(ls.map bg).length*(⟨#[]⟩:Str).length≤100000:=by
  rw[show (⟨#[]⟩:Str).length=0 from rfl,Nat.mul_zero,Nat.add_zero,List.map_map]
  have:(ls.map ((·.length) ∘ bg)).sum=ls.flatten.length:=by
   clear h h1
   induction ls with
   | nil=>rfl
   | cons x ls ih=>rw[List.map_cons,List.sum_cons,ih,List.flatten_cons,List.length_append];simp[Str.length,bg]
  rw[this];exact h
 rw[if_pos hl,Dh]
noncomputable def dg:Nat→List Nat
 | 1=>[92,40]
 | 2=>[34,41,34]
 | 3=>[92,92]
 | 4=>[34,92,34,41,34]
 | 5=>[97,92,34]
 | 6=>[34,34]
 | _=>[]
noncomputable abbrev g8:D:=.lst ((List.range 14).map λk=>aF (dg k))
theorem Aj:Ai Γ c=some (.next,aT 5 g8 Γ,c):=bq rfl
noncomputable def fE(as:List Nat)(k:Nat):Nat:=(as.getD (k % 4) 0 / 7+9*k) % 14
noncomputable def txt(q:Nat×Nat):List Nat:=dg q.1++[q.2]
noncomputable def paired(as S:List Nat):List (Nat×Nat):=(List.range S.length).map λk=>(fE as k,S.getD k 0)
theorem rV(as S:List Nat):(paired as S).map (·.2)=S:=by
 unfold paired
 rw[List.map_map]
 apply List.ext_getElem
 ·simp
 ·intro i h1 h2
  simp[List.getD,h2]
theorem kC(k:Nat):(dg k).length≤5:=by
 unfold dg
 split<;>decide
theorem uu(q:Nat×Nat):(txt q).length≤6:=by
 have:=kC q.1
 unfold txt
 rw[List.length_append];simp;omega (config:={})
theorem fh(l:List (Nat×Nat)):((l.map txt).flatten).length≤6*l.length:=by
 induction l with
 | nil=>simp
 | cons q l ih=>
  have:=uu q
  rw[List.map_cons,List.flatten_cons,List.length_append,List.length_cons];(first|lia|omega)
@[elab_as_elim] theorem lt4 {P:Nat→Prop} {k:Nat} (h:k<4) (h0:P 0) (h1:P 1) (h2:P 2) (h3:P 3):P k:=(List.forall_mem_cons.mpr ⟨h0,List.forall_mem_cons.mpr ⟨h1,List.forall_mem_cons.mpr ⟨h2,List.forall_mem_cons.mpr ⟨h3,List.forall_mem_nil P⟩⟩⟩⟩:∀x∈[0,1,2,3],P x) k (List.mem_range.mpr h)
@[elab_as_elim] theorem lt10 {P:Nat→Prop} {k:Nat} (h:k<10) (h0:P 0) (h1:P 1) (h2:P 2) (h3:P 3) (h4:P 4) (h5:P 5) (h6:P 6) (h7:P 7) (h8:P 8) (h9:P 9):P k:=by
 by_cases q:k<4
 ·exact lt4 q h0 h1 h2 h3
 ·obtain⟨j,rfl⟩:=Nat.le.dest (Nat.le_of_not_lt q)
  rw[Nat.add_comm]at h⊢
  by_cases q:j<4
  ·exact lt4 q h4 h5 h6 h7
  ·obtain⟨i,rfl⟩:=Nat.le.dest (Nat.le_of_not_lt q)
   have:i<4:=by(first|lia|omega)
   revert h
   exact lt4 this (λ_=>h8) (λ_=>h9) (λh=>absurd h (by decide)) (λh=>absurd h (by decide))
theorem kh{a0 a1 a2 a3:Nat}{j:Nat}(h:j<4):([D.int a0,.int a1,.int a2,.int a3]:List D)[j]?=some (.int ([a0,a1,a2,a3].getD j 0:Nat)):=by
 exact lt4 h rfl rfl rfl rfl
theorem Al{a0 a1 a2 a3:Nat}{S:List Nat}(hb:a0≤320000∧a1≤320000∧a2≤320000∧a3≤320000)(hS:S.length≤100)(h1:Γ[1]?=some (.val (bT a0 a1 a2 a3)))(h4:Γ[4]?=some (.val (sgD S)))(h5:Γ[5]?=some (.val g8)) :
  Ak Γ c=some (.next,aT 6 (.lst (((paired [a0,a1,a2,a3] S).map txt).map aF)) Γ,c):=by
 refine bq ?_
 have hc:bS [none,none,some 5,some 1] Γ=[.un,.un,.val g8,.val (bT a0 a1 a2 a3)]:=by simp[bS,h1,h5]
 have hsrc:=eQ (Γ:=Γ) (c:=c) (ab h4)
 have he:eT (S.map chD)=(List.range S.length).map λk=>(D.int (k:Nat),chD (S.getD k default)):=eV S chD
 have hr:=kf (js:=[none,none,some 5,some 1]) (i:=0) (j:=1) (p:=ao .Add (ba (aa 2) (ao .Mod (ao .Add (ao .FloorDiv (ba (aa 3) (ao .Mod (aa 0) (ah 4))) (ah 7)) (ao .Mult (ah 9) (aa 0))) (ah 14))) (aa 1))
  (l:=eT (S.map chD)) (c1:=c) (λq=>match q with|(.int k,.str s)=>.str (bg (dg (fE [a0,a1,a2,a3] k.toNat))++s)|_=>.none) (by decide) hsrc ?_ ?_
 ·refine hr.trans ?_
  rw[he]
  congr 3
  unfold paired
  rw[List.map_map,List.map_map,List.map_map]
  apply List.map_congr_left
  intro k _
  show D.str (bg (dg (fE [a0,a1,a2,a3] ((k:Int)).toNat))++bg [S.getD k default])=aF (txt (fE [a0,a1,a2,a3] k,S.getD k 0))
  rw[jZ,Int.toNat_natCast]
  rfl
 ·intro q hq
  rw[he]at hq
  obtain⟨k,hk,rfl⟩:=List.mem_map.mp hq
  have hk':=List.mem_range.mp hk
  rw[hc]
  show ao .Add _ _ [.val (.int (k:Int)),.val (chD (S.getD k default)),.val g8,.val (bT a0 a1 a2 a3)] c=some (.str (bg (dg (fE [a0,a1,a2,a3] ((k:Int)).toNat))++bg [S.getD k default]),c)
  rw[Int.toNat_natCast]
  have hsm:[a0,a1,a2,a3].getD (k % 4) 0≤320000:=by
   have:k % 4<4:=Nat.mod_lt _ (by decide)
   generalize k % 4=j at this
   exact lt4 this hb.1 hb.2.1 hb.2.2.1 hb.2.2.2
  have e1:=dq (Γ:=[.val (.int (k:Int)),.val (chD (S.getD k default)),.val g8,.val (bT a0 a1 a2 a3)]) (c:=c) (dA (iv (cK (ab (i:=3) rfl) (dq (ab (i:=0) rfl) (ay (i:=((4:Nat):Int))) (by decide)) (by(first|lia|omega)) (kh (Nat.mod_lt _ (by decide)))) (b:=7) (by decide))
   (mf (ay (i:=((9:Nat):Int))) (ab (i:=0) rfl) (by decide))) (ay (i:=((14:Nat):Int))) (by decide)
  have hi:fE [a0,a1,a2,a3] k<14:=Nat.mod_lt _ (by decide)
  refine aU (cK (ab (i:=2) rfl) e1 (by(first|lia|omega)) (d:=aF (dg (fE [a0,a1,a2,a3] k))) ?_) (ab (i:=1) rfl) (yD ?_)
  ·show ((List.range 14).map λk=>aF (dg k))[fE [a0,a1,a2,a3] k]?=_
   simp[hi]
  ·have:=kC (fE [a0,a1,a2,a3] k)
   rw[len_str]
   show _+1≤100000
   (first|lia|omega)
 ·rw[he,List.length_map,List.length_range];(first|lia|omega)
theorem An{ls:List (List Nat)}(h6:Γ[6]?=some (.val (.lst (ls.map aF))))(hl:ls.flatten.length≤100000):Am Γ c=some (.next,aT 7 (aF ls.flatten) Γ,c):=bq (jS (ab h6) hl)
end
end Mine
namespace Mine
section
variable{Γ:List Slot}{c c1 c2 c3:List Cell}{p q r:PE}{ps:PL}{d a b:D}{ds:List D}{α:Type}
noncomputable abbrev av(l:List Nat):D:=.lst (l.map λ(k:Nat)=>D.int (k:Int))
noncomputable def i9(as:List Nat):List (Int×Int):=(List.range 4).map λk=>(((as.getD k 0 / 240 % 21:Nat):Int),(k:Int))
noncomputable def o7(as:List Nat):List Nat:=gC (i9 as)
theorem lg:∀l:List (Int×Int),j1 (l.map pairD)=some l
 | []=>rfl
 | (x,y)::l=>by rw[List.map_cons];show (j1 (l.map pairD)).map _=_;rw[lg l];rfl
theorem jW(as:List Nat):(o7 as).Perm [0,1,2,3]:=List.isPerm_iff.mp (iB _)
theorem Ap{a0 a1 a2 a3:Nat}(h1:Γ[1]?=some (.val (bT a0 a1 a2 a3))):Ao Γ c=some (.next,aT 8 (av (o7 [a0,a1,a2,a3])) Γ,c):=by
 refine bq ?_
 have hc:bS [none,some 1] Γ=[.un,.val (bT a0 a1 a2 a3)]:=by simp[bS,h1]
 have e1:=dn (Γ:=Γ) (c:=c) (js:=[none,some 1]) (i:=0) (p:=de (ag (ao .Mod (ao .FloorDiv (ba (aa 1) (aa 0)) (ah 240)) (ah 21)) (ag (aa 0) (aw)))) (l:=List.range 4) (g:=λk=>D.int (k:Nat))
  (λk=>pairD ((([a0,a1,a2,a3].getD k 0 / 240 % 21:Nat):Int),(k:Int))) (ez (n:=4) (by decide)) ?_ (by decide)
 ·have hlen:(i9 [a0,a1,a2,a3]).length=4:=rfl
  have e1':aY [none,some 1] (bw cN (ag (ah 4) (aw))) (.n 0) (cn) (aS (de (ag (ao .Mod (ao .FloorDiv (ba (aa 1) (aa 0)) (ah 240)) (ah 21)) (ag (aa 0) (aw))))) Γ c=some (.lst ((i9 [a0,a1,a2,a3]).map pairD),c):=e1
  have e2:gP [.lst ((i9 [a0,a1,a2,a3]).map pairD)]=some (.lst ((o7 [a0,a1,a2,a3]).map λi=>((i9 [a0,a1,a2,a3]).map pairD).getD i .none)):=by
   unfold gP on1 onL
   dsimp only
   rw[lg]
   simp only[Option.bind_some]
   rw[if_pos hlen];rfl
  have hR:∀i∈o7 [a0,a1,a2,a3],i<4:=by
   intro i hi
   have:=(jW [a0,a1,a2,a3]).mem_iff.mp hi
   simp at this;(first|lia|omega)
  have e3:(o7 [a0,a1,a2,a3]).map (λi=>((i9 [a0,a1,a2,a3]).map pairD).getD i .none)=((o7 [a0,a1,a2,a3]).map λi=>(D.int (([a0,a1,a2,a3].getD i 0 / 240 % 21:Nat):Int),D.int (i:Int))).map λq=>D.tup [q.1,q.2]:=by
   rw[List.map_map]
   apply List.map_congr_left
   intro i hi
   have:=hR i hi
   exact lt4 this rfl rfl rfl rfl
  have e4:=kf (Γ:=Γ) (c:=c) (js:=[none,none]) (i:=0) (j:=1) (p:=aa 1) (l:=(o7 [a0,a1,a2,a3]).map λi=>(D.int (([a0,a1,a2,a3].getD i 0 / 240 % 21:Nat):Int),D.int (i:Int))) (c1:=c) (λq=>q.2) (by decide)
   (b7 ((cy (au e1' aB) e2).trans (by rw[e3]))) (λq _=>ab rfl) (by rw[List.length_map,(jW _).length_eq];decide)
  refine e4.trans ?_
  rw[List.map_map];rfl
 ·intro k hk
  rw[hc]
  have hk':=List.mem_range.mp hk
  exact jt (au (dq (iv (cK (ab (i:=1) rfl) (ab (i:=0) rfl) (by(first|lia|omega)) (kh hk')) (b:=240) (by decide)) (ay (i:=((21:Nat):Int))) (by decide)) (au (ab (i:=0) rfl) aB)) (Nat.le_of_ble_eq_true rfl)
noncomputable def fb(ch:Nat):Nat:=[14,15,17,19,20,21,22,24,31,32].getD (bC.idxOf ch) 0
noncomputable abbrev mq:Str:=bg bC
theorem rE:∀ch∈bC,lB [.str mq,.str ⟨#[ch]⟩]=some (.int (bC.idxOf ch:Nat)):=by
 intro ch h
 have:∀ch∈bC,(Builtin.Str.occurrences mq ⟨#[ch]⟩ 0 mq.length 1).head?=some (bC.idxOf ch):=by decide +kernel
 have h1:=this ch h
 show (match Builtin.Str.occurrences mq ⟨#[ch]⟩ 0 mq.length 1 with|i::_=>some (D.int (i:Nat)) | []=>none)=_
 cases e:Builtin.Str.occurrences mq ⟨#[ch]⟩ 0 mq.length 1 with
 | nil=>rw[e]at h1;cases h1
 | cons i r=>rw[e]at h1;cases h1;rfl
noncomputable def eK(R L:List Nat):List Nat:=R.map λk=>fb (L.getD k 0)
theorem Ar{R L:List Nat}(hR:∀k∈R,k<L.length)(hl:R.length≤100∧L.length≤100)(hL:∀ch∈L,ch∈bC)(h8:Γ[8]?=some (.val (av R)))(h3:Γ[3]?=some (.val (sgD L))):Aq Γ c=some (.next,aT 9 (av (eK R L)) Γ,c):=by
 refine bq ?_
 have hc:bS [none,some 3] Γ=[.un,.val (sgD L)]:=by simp[bS,h3]
 have e1:=dn (Γ:=Γ) (c:=c) (js:=[none,some 3]) (i:=0) (p:=ba (aM (ag (ah 14) (ag (ah 15) (ag (ah 17) (ag (ah 19) (ag (ah 20) (ag (ah 21) (ag (ah 22) (ag (ah 24) (ag (ah 31) (ag (ah 32) (aw)))))))))))) (bR "str" lB (a8 ⟨#[43,45,47,38,60,62,61,37,126,94]⟩) (ag (ba (aa 1) (aa 0)) (aw))))
  (l:=R) (g:=λ(k:Nat)=>D.int (k:Int)) (c1:=c) (λk=>D.int (fb (L.getD k 0):Nat)) (b7 (ab h8)) ?_ (by(first|lia|omega))
 ·refine e1.trans ?_
  unfold av eK
  rw[List.map_map];rfl
 ·intro k hk
  rw[hc]
  have hk':=hR k hk
  have hm:L.getD k 0∈bC:=hL _ (getD_mem hk')
  have hi:bC.idxOf (L.getD k 0)<10:=List.idxOf_lt_length_of_mem hm
  have hg:(L.map chD)[k]?=some (chD (L.getD k 0)):=by simp[List.getD,hk']
  refine cK (aZ (ds:=[.int 14,.int 15,.int 17,.int 19,.int 20,.int 21,.int 22,.int 24,.int 31,.int 32]) rfl (by decide)) (gM bG rfl (au (cK (ab (i:=1) rfl) (ab (i:=0) rfl) (by(first|lia|omega)) hg) aB) (rE _ hm)) (by(first|lia|omega)) ?_
  unfold fb
  generalize bC.idxOf (L.getD k 0)=j at hi
  have:∀j,j<10→([.int 14,.int 15,.int 17,.int 19,.int 20,.int 21,.int 22,.int 24,.int 31,.int 32]:List D)[j]?=some (D.int (([14,15,17,19,20,21,22,24,31,32].getD j 0:Nat):Int)):=by
   intro j hj
   exact lt10 hj rfl rfl rfl rfl rfl rfl rfl rfl rfl rfl
  exact this j hi
noncomputable def wX(T:Nat):Int:=(((T / 13 % 5:Nat):Int) - 3)*2 ^ 32
theorem Cw{is:List Nat}{Γ1:List Slot}(h:p Γ c=some (d,c1))(hb:dU (.t is) d Γ=some Γ1):t6 p is Γ c=some (.next,Γ1,c1):=by unfold t6;rw[h];simp only[Option.bind_some];rw[hb];rfl
theorem Au{T:Nat}(h2:Γ[2]?=some (.val (.int (T:Int)))):As Γ c=some (.next,aT 11 (.int (wX T)) (aT 10 (.int ((T % 13:Nat):Int)) Γ),c):=by
 have e1:=dq (Γ:=Γ) (c:=c) (ab h2) (ay (i:=((13:Nat):Int))) (by decide)
 have e2:=aU (op:=.Mult) (aU (op:=.Sub) (dq (iv (Γ:=Γ) (c:=c) (ab h2) (b:=13) (by decide)) (ay (i:=((5:Nat):Int))) (by decide)) (ay (i:=3)) ji) (aU (op:=.Pow) (ay (i:=2)) (ay (i:=32)) (tU (by decide))) (yF (a:=((T / 13 % 5:Nat):Int) - 3) (by have:T / 13 % 5<5:=Nat.mod_lt _ (by decide);omega (config:={})))
 have e3:=jt (au e1 (au e2 aB)) (Nat.le_of_ble_eq_true rfl)
 exact Cw e3 rfl
noncomputable def yA(T t:Nat):Nat:=(t*(2*(T % 8)+1)+T / 8) % 16
noncomputable def kq(T:Nat):List Nat:=(List.range 16).map (yA T)
theorem xQ{T:Nat}(h2:Γ[2]?=some (.val (.int (T:Int)))):sU Γ c=some (.next,aT 12 (av (kq T)) Γ,c):=by
 refine bq ?_
 have hc:bS [none,some 2] Γ=[.un,.val (.int (T:Int))]:=by simp[bS,h2]
 have e1:=dn (Γ:=Γ) (c:=c) (js:=[none,some 2]) (i:=0) (p:=ao .Mod (ao .Add (ao .Mult (aa 0) (ao .Add (ao .Mult (ah 2) (ao .Mod (aa 1) (ah 8))) (ah 1))) (ao .FloorDiv (aa 1) (ah 8))) (ah 16))
  (l:=List.range 16) (g:=λ(k:Nat)=>D.int (k:Int)) (c1:=c) (λt=>D.int (yA T t:Nat)) (ez (n:=16) (by decide)) ?_ (by decide)
 ·refine e1.trans ?_
  unfold av kq
  rw[List.map_map];rfl
 ·intro t ht
  have ht':=List.mem_range.mp ht
  rw[hc]
  exact dq (dA (mf (ab (i:=0) rfl) (dA (mf (ay (i:=((2:Nat):Int))) (dq (ab (i:=1) rfl) (ay (i:=((8:Nat):Int))) (by decide)) (by decide)) (ay (i:=((1:Nat):Int)))) (by(first|lia|omega))) (iv (ab (i:=1) rfl) (b:=8) (by decide))) (ay (i:=((16:Nat):Int))) (by decide)
theorem rN(T:Nat):(kq T).Perm (List.range 16):=by
 have h:∀m<8,∀q<16,((List.range 16).map λt=>(t*(2*m+1)+q) % 16).isPerm (List.range 16)=true:=by decide +kernel
 have h1:=h (T % 8) (Nat.mod_lt _ (by decide)) (T / 8 % 16) (Nat.mod_lt _ (by decide))
 have e:kq T=(List.range 16).map λt=>(t*(2*(T % 8)+1)+T / 8 % 16) % 16:=by
  unfold kq
  apply List.map_congr_left
  intro t _
  unfold yA
  (first|lia|omega)
 rw[e]
 exact List.isPerm_iff.mp h1
end
end Mine
namespace Mine
section
variable{Γ:List Slot}{c c1 c2 c3:List Cell}{p q r:PE}{ps:PL}{d a b:D}{ds:List D}{α:Type}
theorem sA(a b:Nat):Builtin.bitAnd (a:Int) (b:Int)=((a &&& b:Nat):Int):=by rw[bitAnd_pp (by(first|lia|omega)) (by(first|lia|omega))];rfl
theorem zm(v d:Nat)(h:d<64):(v*64) &&& d=0:=by
 apply Nat.eq_of_testBit_eq
 intro i
 rw[Nat.testBit_and,Nat.zero_testBit,show 64=2 ^ 6 by rfl,Nat.testBit_mul_two_pow]
 by_cases hi:6≤i
 ·have:d.testBit i=false:=Nat.testBit_lt_two_pow (Nat.lt_of_lt_of_le (show d<2 ^ 6 from h) (Nat.pow_le_pow_right (by decide) hi))
  rw[this,Bool.and_false]
 ·simp[hi]
theorem Co(v d:Nat)(h:d<64):Builtin.bitOr ((v*64:Nat):Int) (d:Int)=((v*64+d:Nat):Int):=by
 rw[bitOr_and,sA,zm v d h];(first|lia|omega)
theorem Bj{o:Nat}(h:o<256):o &&& 63=o % 64:=by
 have:∀o<256,o &&& 63=o % 64:=by decide +kernel
 exact this o h
theorem CU{o:Nat}(h:o<256):o &&& 64=64*(o / 64 % 2):=by
 have:∀o<256,o &&& 64=64*(o / 64 % 2):=by decide +kernel
 exact this o h
noncomputable def valueOf:Nat→List Nat→Nat
 | v,[]=>v
 | v,o::os=>valueOf (v*64+o % 64) os
noncomputable def One:List Nat→Prop
 | []=>False
 | [o]=>o<256∧o / 64 % 2=0
 | o::os=>(o<256∧o / 64 % 2=1)∧One os
noncomputable abbrev ntD(l:List Nat):List D:=l.map λ(k:Nat)=>D.int (k:Int)
theorem tR{i k:Nat}{ds:List D}(h:Γ[i]?=some (.ref k))(hk:c[k]?=some (.it (d::ds))):kU i Γ c=some (d,c.set k (.it ds)):=by
 unfold kU;rw[h];simp only[];rw[hk]
theorem og{a b:Nat}(h1:p Γ c=some (.int (a:Int),c1))(h2:q Γ c1=some (.int (b:Int),c2)):ao .BitAnd p q Γ c=some (.int ((a &&& b:Nat):Int),c2):=by
 have:=aU (op:=.BitAnd) h1 h2 Bx
 rw[sA]at this;exact this
theorem Bd{t:PB}{body:PS}{n:Nat}{Γ2:List Slot}{r:Option (Fl×List Slot×List Cell)}(h0:t Γ c=some (true,c1))(h1:body Γ c1=some (.next,Γ2,c2))(h2:eh t body n Γ2 c2=r):eh t body (n+1) Γ c=r:=by
 unfold eh;rw[h0];simp only[Option.bind_some,if_true];rw[h1];exact h2
theorem Bc{t:PB}{body:PS}{n:Nat}(h0:t Γ c=some (false,c1)):eh t body (n+1) Γ c=some (.next,Γ,c1):=by
 unfold eh;rw[h0];rfl
theorem mO{i:Int}:jM (.int i)=some (i != 0):=rfl
theorem Bu{o:Nat}{w:Slot}{k:Nat}(ho:o<256):cW (ao .BitAnd (aa 1) (ah 64)) [.ref k,.val (.int (o:Int)),w] c=some (decide (o / 64 % 2=1),c):=by
 have:=gO (og (Γ:=[.ref k,.val (.int (o:Int)),w]) (c:=c) (ab (i:=1) rfl) (ay (i:=((64:Nat):Int)))) mO
 refine this.trans ?_
 rw[CU ho]
 congr 2
 have h2:o / 64 % 2=0∨o / 64 % 2=1:=by(first|lia|omega)
 rcases h2 with h|h<;>rw[h]<;>rfl
theorem DO{k:Nat}{x y:Cell}:(c.set k x).set k y=c.set k y:=by rw[List.set_set]
theorem mQ(k:Nat):∀(os:List Nat) (n j v o:Nat) (rest:List D) (c:List Cell),One (o::os)→os.length<n→v<64 ^ j→j+os.length≤8→c[k]?=some (.it (ntD os++rest))→
  ∃Γ',eh (cW (ao .BitAnd (aa 1) (ah 64))) (ak (gj 2 .LShift (ah 6)) (ak (bf 1 (kU 0)) (ak (gj 2 .BitOr (ao .BitAnd (aa 1) (ah 63))) (aH)))) n [.ref k,.val (.int (o:Int)),.val (.int (v:Int))] c=
   some (.next,Γ',c.set k (.it rest))∧Γ'[2]?=some (.val (.int (valueOf v os:Nat)))
 | [],n+1,j,v,o,rest,c,h1,_,_,_,hk=>by
  refine⟨[.ref k,.val (.int (o:Int)),.val (.int (v:Int))],?_,rfl⟩
  have ho:o<256∧o / 64 % 2=0:=h1
  rw[show c.set k (.it rest)=c from ?_]
  ·refine Bc ?_
   rw[Bu ho.1]
   simp[ho.2]
  ·have hk':c[k]?=some (.it rest):=hk
   obtain⟨hlt,e⟩:=List.getElem?_eq_some_iff.mp hk'
   rw[←e,List.set_getElem_self]
 | o'::os,n+1,j,v,o,rest,c,h1,hn,hv,hj,hk=>by
  have ho:(o<256∧o / 64 % 2=1)∧One (o'::os):=h1
  have ho':o'<256:=by
   have:=ho.2
   cases os with
   | nil=>exact this.1
   | cons _ _=>exact this.1.1
  have hm:o' % 64<64:=Nat.mod_lt _ (by decide)
  have hp:64 ^ j≤64 ^ 8:=Nat.pow_le_pow_right (by decide) (by simp at hj;(first|lia|omega))
  have hp2:(64:Nat) ^ 8<2 ^ 64:=by decide
  have hv2:v*64+o' % 64<64 ^ (j+1):=by rw[Nat.pow_succ];(first|lia|omega)
  have hlt:k<c.length:=(List.getElem?_eq_some_iff.mp hk).1
  obtain⟨Γ',e1,e2⟩:=mQ k os n (j+1) (v*64+o' % 64) o' rest (c.set k (.it (ntD os++rest))) ho.2 (by simp at hn;(first|lia|omega)) hv2 (by simp at hj;(first|lia|omega)) (by rw[List.getElem?_set_self hlt])
  rw[List.set_set]at e1
  refine⟨Γ',?_,e2⟩
  have hsh:rm .LShift (.int (v:Int)) (.int 6)=some (.int ((v*64:Nat):Int)):=by
   have:rm .LShift (.int (v:Int)) (.int 6)=if (0:Int)≤6∧(6:Int)≤1000000∧(v:Int).natAbs<2 ^ 64 then some (.int ((v:Int)*2 ^ (6:Int).toNat))else none:=rfl
   rw[this,if_pos ⟨by decide,by decide,by simp;(first|lia|omega)⟩]
   congr 2
  have hor:rm .BitOr (.int ((v*64:Nat):Int)) (.int ((o' % 64:Nat):Int))=some (.int ((v*64+o' % 64:Nat):Int)):=by
   show some (D.int (Builtin.bitOr _ _))=_
   rw[Co _ _ hm]
  have ha:ao .BitAnd (aa 1) (ah 63) [.ref k,.val (.int (o':Int)),.val (.int ((v*64:Nat):Int))] (c.set k (.it (ntD os++rest)))=some (.int ((o' % 64:Nat):Int),c.set k (.it (ntD os++rest))):=by
   have:=og (Γ:=[.ref k,.val (.int (o':Int)),.val (.int ((v*64:Nat):Int))]) (c:=c.set k (.it (ntD os++rest))) (ab (i:=1) rfl) (ay (i:=((63:Nat):Int)))
   rw[Bj ho']at this;exact this
  refine Bd (by rw[Bu ho.1.1];simp[ho.1.2]) (aO (qu rfl ay hsh) (aO (bq (tR rfl hk)) (aO (qu rfl ha hor) rfl))) e1
theorem wh{k:Nat}{os:List Nat}{rest:List D}(h1:One os)(hl:os.length≤4)(hk:c[k]?=some (.it (ntD os++rest))):gn [.ref k] c=some (.int (valueOf 0 os:Nat),c.set k (.it rest)):=by
 match os,h1,hl,hk with
 | o::os,h1,hl,hk=>
  have ho:o<256:=by
   cases os with
   | nil=>exact h1.1
   | cons _ _=>exact h1.1.1
  have hlt:k<c.length:=(List.getElem?_eq_some_iff.mp hk).1
  obtain⟨Γ',e1,e2⟩:=mQ k os 8 1 (o % 64) o rest (c.set k (.it (ntD os++rest))) h1 (by simp at hl;(first|lia|omega)) (Nat.mod_lt _ (by decide)) (by simp at hl;(first|lia|omega)) (by rw[List.getElem?_set_self hlt])
  rw[List.set_set]at e1
  have ha:ao .BitAnd (aa 1) (ah 63) [.ref k,.val (.int (o:Int)),.un] (c.set k (.it (ntD os++rest)))=some (.int ((o % 64:Nat):Int),c.set k (.it (ntD os++rest))):=by
   have:=og (Γ:=[.ref k,.val (.int (o:Int)),.un]) (c:=c.set k (.it (ntD os++rest))) (ab (i:=1) rfl) (ay (i:=((63:Nat):Int)))
   rw[Bj ho]at this;exact this
  have hq:mw [.ref k,.un,.un] c=some (.ret (.int (valueOf 0 (o::os):Nat)),Γ',c.set k (.it rest)):=by
   refine aO (bq (tR rfl hk)) (aO (bq ha) (aO e1 (cx (d6 ?_))))
   rw[show valueOf 0 (o::os)=valueOf (o % 64) os by simp[valueOf]]
   exact ab e2
  unfold gn cC
  have hs:setFrom 0 [.ref k] (List.replicate 3 .un)=[.ref k,.un,.un]:=rfl
  rw[hs,hq]
  show (some (D.int (valueOf 0 (o::os):Nat),(c.set k (.it rest)).take c.length):Option (D×List Cell))=_
  rw[List.take_of_length_le (by rw[List.length_set];exact Nat.le_refl _)]
end
end Mine
namespace Mine
section
variable{Γ:List Slot}{c c1 c2 c3:List Cell}{p q r:PE}{ps:PL}{d a b:D}{ds:List D}{α:Type}
theorem cu{m k:Nat}{q:PS}{Γ':List Slot}{c':List Cell}(hk:ds.length=k)(h:q (setFrom 0 (ds.map .val) (List.replicate m .un)) []=some (.ret d,Γ',c')):dp (cC m k q) ds=some d:=by
 unfold dp cC
 rw[if_pos (by rw[List.length_map];exact hk),h];rfl
noncomputable def b9(n:Nat):List Nat:=(if 64 ^ 2≤n then[n / 64 ^ 2 % 64+64]else[])++(if 64 ^ 1≤n then[n / 64 ^ 1 % 64+64]else[])++[n % 64]
noncomputable def iA(as:List Nat)(k:Nat):List Nat:=List.replicate (as.getD (k % 4) 0 / 16 % 4 / 3) 64
noncomputable def lp(as:List Nat):Nat→List Nat→List Nat
 | _,[]=>[]
 | k,n::ns=>iA as k++b9 n++lp as (k+1) ns
noncomputable def mark(T place o:Nat):Nat:=if (place+T) % 3=0 then o+128 else o
noncomputable def cY(T:Nat):Nat→List Nat→List Nat
 | _,[]=>[]
 | k,o::os=>mark T k o::cY T (k+1) os
noncomputable def mL(as:List Nat)(T:Nat)(ns:List Nat):List Nat:=cY T 0 (lp as 0 ns)
theorem kS(T:Nat):∀(k:Nat) (xs ys:List Nat),cY T k (xs++ys)=cY T k xs++cY T (k+xs.length) ys
 | _,[],ys=>by simp[cY]
 | k,x::xs,ys=>by rw[List.cons_append,cY,cY,kS T (k+1) xs ys,List.cons_append,List.length_cons,show k+1+xs.length=k+(xs.length+1)by omega (config:={})]
theorem gV(T:Nat):∀(k:Nat) (os:List Nat),cY T k os=(List.range os.length).map λi=>mark T (k+i) (os.getD i 0)
 | _,[]=>rfl
 | k,o::os=>by
  rw[cY,gV T (k+1) os,List.length_cons,List.range_succ_eq_map,List.map_cons,List.map_map]
  congr 1
  apply List.map_congr_left
  intro i _
  show mark T (k+1+i) (os.getD i 0)=mark T (k+(i+1)) ((o::os).getD (i+1) 0)
  rw[show k+1+i=k+(i+1)by omega (config:={})];rfl
theorem kz(as:List Nat)(k:Nat):iA as k=[]∨iA as k=[64]:=by
 unfold iA
 have h:as.getD (k % 4) 0 / 16 % 4 / 3=0∨as.getD (k % 4) 0 / 16 % 4 / 3=1:=by omega (config:={})
 rcases h with h|h<;>rw[h]
 ·exact .inl rfl
 ·exact .inr rfl
theorem qd:∀o<128,(o+128<256∧(o+128) / 64 % 2=o / 64 % 2∧(o+128) % 64=o % 64)∧o<256:=by decide +kernel
theorem oU{T k o:Nat}(h:o<128):mark T k o<256∧mark T k o / 64 % 2=o / 64 % 2∧mark T k o % 64=o % 64:=by
 unfold mark
 split
 ·exact(qd o h).1
 ·exact⟨(qd o h).2,rfl,rfl⟩
theorem qj(T:Nat):∀(os:List Nat) (k:Nat),(∀o∈os,o<128)→One os→One (cY T k os)
 | [o],k,h,h1=>by
  obtain⟨m1,m2,m3⟩:=oU (T:=T) (k:=k) (h o (.head _))
  exact⟨m1,m2.trans h1.2⟩
 | o::o'::os,k,h,h1=>by
  obtain⟨m1,m2,m3⟩:=oU (T:=T) (k:=k) (h o (.head _))
  have h2:(o<256∧o / 64 % 2=1)∧One (o'::os):=h1
  have ih:=qj T (o'::os) (k+1) (λx hx=>h x (.tail _ hx)) h2.2
  exact⟨⟨m1,m2.trans h2.1.2⟩,ih⟩
theorem mP(T:Nat):∀(os:List Nat) (k v:Nat),(∀o∈os,o<128)→valueOf v (cY T k os)=valueOf v os
 | [],_,_,_=>rfl
 | o::os,k,v,h=>by
  obtain⟨m1,m2,m3⟩:=oU (T:=T) (k:=k) (h o (.head _))
  rw[cY,valueOf,valueOf,m3,mP T os (k+1) _ λx hx=>h x (.tail _ hx)]
theorem r64:∀r<64,r+64<128∧r+64<256∧(r+64) / 64 % 2=1∧(r+64) % 64=r∧r<128∧r<256∧r / 64 % 2=0∧r % 64=r:=by decide +kernel
theorem uM{n:Nat}(hn:n<262144):One (b9 n)∧valueOf 0 (b9 n)=n∧(∀o∈b9 n,o<128)∧(b9 n).length≤3:=by
 have r:=λk:Nat=>r64 (k % 64) (Nat.mod_lt _ (by decide))
 obtain⟨a1,a2,a3,a4,-⟩:=r (n / 4096)
 obtain⟨b1,b2,b3,b4,-⟩:=r (n / 64)
 obtain⟨-,-,-,-,c5,c6,c7,c8⟩:=r n
 show One ((if 4096≤n then[n / 4096 % 64+64]else[])++(if 64≤n then[n / 64 % 64+64]else[])++[n % 64])∧valueOf 0 ((if 4096≤n then[n / 4096 % 64+64]else[])++(if 64≤n then[n / 64 % 64+64]else[])++[n % 64])=n∧(∀o∈(if 4096≤n then[n / 4096 % 64+64]else[])++(if 64≤n then[n / 64 % 64+64]else[])++[n % 64],o<128)∧((if 4096≤n then[n / 4096 % 64+64]else[])++(if 64≤n then[n / 64 % 64+64]else[])++[n % 64]).length≤3
 have z:(0*64+0)=0:=rfl
 by_cases h2:4096≤n
 ·rw[if_pos h2,if_pos (Nat.le_trans (by decide) h2)]
  refine⟨⟨⟨a2,a3⟩,⟨b2,b3⟩,c6,c7⟩,?_,List.forall_mem_cons.mpr ⟨a1,List.forall_mem_cons.mpr ⟨b1,List.forall_mem_cons.mpr ⟨c5,List.forall_mem_nil _⟩⟩⟩,Nat.le_refl 3⟩
  show ((0*64+(n / 4096 % 64+64) % 64)*64+(n / 64 % 64+64) % 64)*64+n % 64 % 64=n
  rw[a4,b4,c8]
  clear a1 a2 a3 a4 b1 b2 b3 b4 c5 c6 c7 c8 r z h2
  omega (config:={})
 ·rw[if_neg h2]
  by_cases h1:64≤n
  ·rw[if_pos h1]
   refine⟨⟨⟨b2,b3⟩,c6,c7⟩,?_,List.forall_mem_cons.mpr ⟨b1,List.forall_mem_cons.mpr ⟨c5,List.forall_mem_nil _⟩⟩,Nat.le_succ 2⟩
   show (0*64+(n / 64 % 64+64) % 64)*64+n % 64 % 64=n
   rw[b4,c8]
   clear a1 a2 a3 a4 b1 b2 b3 b4 c5 c6 c7 c8 r z h1 hn
   omega (config:={})
  ·rw[if_neg h1]
   refine⟨⟨c6,c7⟩,?_,List.forall_mem_cons.mpr ⟨c5,List.forall_mem_nil _⟩,Nat.le_add_left 1 2⟩
   show 0*64+n % 64 % 64=n
   rw[c8]
   clear a1 a2 a3 a4 b1 b2 b3 b4 c5 c6 c7 c8 r z h2 hn
   omega (config:={})
theorem vN{n:Nat}(hn:n<262144)(as:List Nat)(k:Nat):One (iA as k++b9 n)∧valueOf 0 (iA as k++b9 n)=n∧(∀o∈iA as k++b9 n,o<128)∧(iA as k++b9 n).length≤4:=by
 obtain⟨h1,h2,h3,h4⟩:=uM hn
 rcases kz as k with e|e<;>rw[e]
 ·exact⟨h1,h2,h3,by simp;omega (config:={})⟩
 ·refine⟨?_,?_,λo ho=>?_,by simp;omega (config:={})⟩
  ·show One (64::b9 n)
   cases e2:b9 n with
   | nil=>rw[e2]at h1;exact h1.elim
   | cons o os=>rw[e2]at h1;exact⟨⟨by decide,by decide⟩,h1⟩
  ·show valueOf (0*64+64 % 64) (b9 n)=n
   exact h2
  ·rcases List.mem_cons.mp ho with rfl|ho
   ·decide
   ·exact h3 o ho
theorem iZ(x y:List Nat):ntD x++ntD y=ntD (x++y):=by simp[ntD]
theorem xF(n:Nat):Be [.int (n:Int)]=some (.bool (decide (n=0))):=by
 have:yO [.val (.int (n:Int))] []=some (.ret (.bool (decide (n=0))),[.val (.int (n:Int))],[]):=by
  refine cx (d6 ((gb (ab rfl) ay jb).trans ?_))
  congr 3
  by_cases h:n=0<;>simp[h]
 exact cu rfl this
theorem xJ(n:Nat):Bg [.int (n:Int)]=some (.bool (decide (n<256))):=by
 have:yQ [.val (.int (n:Int))] []=some (.ret (.bool (decide (n<256))),[.val (.int (n:Int))],[]):=by
  refine cx (d6 ((gb (ab rfl) ay zw).trans ?_))
  congr 3
  by_cases h:n<256
  ·rw[decide_eq_true h,decide_eq_true (by omega (config:={}))]
  ·rw[decide_eq_false h,decide_eq_false (by omega (config:={}))]
 exact cu rfl this
theorem xH(n:Nat):Bf [.int (n:Int)]=some (.bool (decide (256≤n))):=by
 have:yP [.val (.int (n:Int))] []=some (.ret (.bool (decide (256≤n))),[.val (.int (n:Int))],[]):=by
  refine cx (d6 ((gb (ab rfl) ay CZ).trans ?_))
  congr 3
  by_cases h:256≤n
  ·rw[decide_eq_true h,decide_eq_true (by omega (config:={}))]
  ·rw[decide_eq_false h,decide_eq_false (by omega (config:={}))]
 exact cu rfl this
end
end Mine
namespace Mine
section
variable{Γ:List Slot}{c c1 c2 c3:List Cell}{p q r:PE}{ps:PL}{d a b:D}{ds:List D}{α:Type}
noncomputable def eF:Nat→List Nat→List D
 | _,[]=>[]
 | k,n::ns=>.tup [.int (k:Int),.int (n:Int)]::eF (k+1) ns
theorem Bn:∀(k:Nat) (ns:List Nat),eF k ns=(List.range ns.length).map λi=>D.tup [.int ((k+i:Nat):Int),.int ((ns.getD i 0:Nat):Int)]
 | _,[]=>rfl
 | k,n::ns=>by
  rw[eF,Bn (k+1) ns,List.length_cons,List.range_succ_eq_map,List.map_cons,List.map_map]
  congr 1
  apply List.map_congr_left
  intro i _
  show D.tup [.int ((k+1+i:Nat):Int),.int ((ns.getD i 0:Nat):Int)]=D.tup [.int ((k+(i+1):Nat):Int),.int (((n::ns).getD (i+1) 0:Nat):Int)]
  rw[show k+1+i=k+(i+1)by(first|lia|omega)];rfl
theorem zM(ns:List Nat):ia (ntD ns)=eF 0 ns:=by
 rw[Bn]
 unfold ia
 rw[List.length_map]
 apply List.map_congr_left
 intro i hi
 have hi':=List.mem_range.mp hi
 simp[List.getD,hi']
noncomputable abbrev EB:PS:=(ak (lq 3 (ao .Mult (aM (ag (ah 64) (aw))) (ao .FloorDiv (ao .Mod (ao .FloorDiv (ba (aa 1) (ao .Mod (aa 4) (ah 4))) (ah 16)) (ah 4)) (ah 3)))) (ak (lq 3 (ao .Add (aY [none,some 5] (cE (aM (ag (ah 2) (ag (ah 1) (aw))))) (.n 0) (aE .GtE (aa 1) (ao .Pow (ah 64) (aa 0))) (aS (ao .Add (ao .Mod (ao .FloorDiv (aa 1) (ao .Pow (ah 64) (aa 0))) (ah 64)) (ah 64)))) (aM (ag (ao .Mod (aa 5) (ah 64)) (aw))))) (aH)))
theorem uL{n:Nat}{w0 w1 w2 w3 w4:Slot}:ao .Add (aY [none,some 5] (cE (aM (ag (ah 2) (ag (ah 1) (aw))))) (.n 0) (aE .GtE (aa 1) (ao .Pow (ah 64) (aa 0))) (aS (ao .Add (ao .Mod (ao .FloorDiv (aa 1) (ao .Pow (ah 64) (aa 0))) (ah 64)) (ah 64)))) (aM (ag (ao .Mod (aa 5) (ah 64)) (aw)))
  [w0,w1,w2,w3,w4,.val (.int (n:Int))] c=some (.lst (ntD (b9 n)),c):=by
 have pw:∀h:Nat,h=2∨h=1→ao .Pow (ah 64) (aa 0) [.val (.int (h:Int)),.val (.int (n:Int))] c=some (.int ((64 ^ h:Nat):Int),c):=by
  intro h hh
  refine(aU (op:=.Pow) (ay (i:=64)) (ab (i:=0) rfl) (tU (by rcases hh with rfl|rfl<;>decide))).trans ?_
  rcases hh with rfl|rfl<;>rfl
 have hc:=ik (Γ:=[w0,w1,w2,w3,w4,.val (.int (n:Int))]) (c:=c) (js:=[none,some 5]) (src:=cE (aM (ag (ah 2) (ag (ah 1) (aw))))) (i:=0) (t:=aE .GtE (aa 1) (ao .Pow (ah 64) (aa 0))) (p:=ao .Add (ao .Mod (ao .FloorDiv (aa 1) (ao .Pow (ah 64) (aa 0))) (ah 64)) (ah 64))
  (ds:=[.int ((2:Nat):Int),.int ((1:Nat):Int)]) (c1:=c) (λd=>match d with|.int h=>decide (64 ^ h.toNat≤n)|_=>false) (λd=>match d with|.int h=>.int ((n / 64 ^ h.toNat % 64+64:Nat):Int)|_=>.none) rfl ?_ ?_ (by decide)
 ·have h2:=aU (op:=.Add) hc (aZ (au (dq (Γ:=[w0,w1,w2,w3,w4,.val (.int (n:Int))]) (c:=c) (ab (i:=5) rfl) (ay (i:=((64:Nat):Int))) (by decide)) aB) (Nat.le_of_ble_eq_true rfl)) (dw (by
   have:((([D.int ((2:Nat):Int),.int ((1:Nat):Int)]).filter (λd=>match d with|.int h=>decide (64 ^ h.toNat≤n)|_=>false)).map (λd=>match d with|.int h=>D.int ((n / 64 ^ h.toNat % 64+64:Nat):Int)|_=>.none)).length≤2:=by
    rw[List.length_map];exact List.length_filter_le _ _
   show _+1≤100000
   omega (config:={})))
  refine h2.trans ?_
  congr 3
  unfold b9
  have t2:((2:Nat):Int).toNat=2:=rfl
  have t1:((1:Nat):Int).toNat=1:=rfl
  simp only[List.filter_cons,List.filter_nil,t1,t2]
  by_cases h2:64 ^ 2≤n<;>by_cases h1:64 ^ 1≤n<;>simp only[h1,h2,decide_true,decide_false,if_true,if_false,Bool.false_eq_true]<;>rfl
 ·intro d hd
  simp only[List.mem_cons,List.not_mem_nil,or_false]at hd
  have go:∀h:Nat,h=2∨h=1→aE .GtE (aa 1) (ao .Pow (ah 64) (aa 0)) [.val (.int (h:Int)),.val (.int (n:Int))] c=some (decide (64 ^ h≤n),c):=by
   intro h hh
   refine(bc (ab (i:=1) rfl) (pw h hh) CZ).trans ?_
   congr 2
   by_cases h1:64 ^ h≤n
   ·rw[decide_eq_true h1,decide_eq_true (by omega (config:={}))]
   ·rw[decide_eq_false h1,decide_eq_false (by omega (config:={}))]
  rcases hd with rfl|rfl
  ·exact go 2 (.inl rfl)
  ·exact go 1 (.inr rfl)
 ·intro d hd _
  simp only[List.mem_cons,List.not_mem_nil,or_false]at hd
  have go:∀h:Nat,h=2∨h=1→ao .Add (ao .Mod (ao .FloorDiv (aa 1) (ao .Pow (ah 64) (aa 0))) (ah 64)) (ah 64) [.val (.int (h:Int)),.val (.int (n:Int))] c=some (.int ((n / 64 ^ h % 64+64:Nat):Int),c):=by
   intro h hh
   have hd:ao .FloorDiv (aa 1) (ao .Pow (ah 64) (aa 0)) [.val (.int (h:Int)),.val (.int (n:Int))] c=some (.int ((n / 64 ^ h:Nat):Int),c):=by
    have:=aU (op:=.FloorDiv) (ab (Γ:=[.val (.int (h:Int)),.val (.int (n:Int))]) (c:=c) (i:=1) rfl) (pw h hh) (tT (by rcases hh with rfl|rfl<;>decide))
    rw[jQ]at this;exact this
   exact dA (dq hd (ay (i:=((64:Nat):Int))) (by decide)) (ay (i:=((64:Nat):Int)))
  rcases hd with rfl|rfl
  ·exact go 2 (.inl rfl)
  ·exact go 1 (.inr rfl)
theorem Cp{a0 a1 a2 a3 k:Nat}{w0 w2 w3 w5:Slot}:ao .Mult (aM (ag (ah 64) (aw))) (ao .FloorDiv (ao .Mod (ao .FloorDiv (ba (aa 1) (ao .Mod (aa 4) (ah 4))) (ah 16)) (ah 4)) (ah 3)) [w0,.val (bT a0 a1 a2 a3),w2,w3,.val (.int (k:Int)),w5] c=some (.lst (ntD (iA [a0,a1,a2,a3] k)),c):=by
 have e:=iv (dq (iv (cK (Γ:=[w0,.val (bT a0 a1 a2 a3),w2,w3,.val (.int (k:Int)),w5]) (c:=c) (ab (i:=1) rfl) (dq (ab (i:=4) rfl) (ay (i:=((4:Nat):Int))) (by decide)) (by(first|lia|omega)) (kh (Nat.mod_lt k (by decide)))) (b:=16) (by decide)) (ay (i:=((4:Nat):Int))) (by decide)) (b:=3) (by decide)
 unfold iA
 generalize hx:[a0,a1,a2,a3].getD (k % 4) 0 / 16 % 4 / 3=x at e
 have h2:x=0∨x=1:=by(first|lia|omega)
 refine(aU (op:=.Mult) (aZ (au (ay (i:=((64:Nat):Int))) aB) (Nat.le_of_ble_eq_true rfl)) e (yG (by rcases h2 with rfl|rfl<;>decide))).trans ?_
 rcases h2 with rfl|rfl<;>rfl
theorem oW(as:List Nat):∀(k:Nat) (ns:List Nat),(lp as k ns).length≤4*ns.length
 | _,[]=>by simp[lp]
 | k,n::ns=>by
  have ih:=oW as (k+1) ns
  rw[lp,List.length_append,List.length_append,List.length_cons]
  have h1:(iA as k).length≤1:=by rcases kz as k with e|e<;>rw[e]<;>simp
  have h2:(b9 n).length≤3:=by unfold b9;simp only[List.length_append];split<;>split<;>simp
  (first|lia|omega)
theorem mh{a0 a1 a2 a3:Nat}{w0 w2:Slot}:∀(ns:List Nat) (k:Nat) (os:List Nat) (w4 w5:Slot),os.length+4*ns.length≤1000→
  ∃w4' w5',bH (.t [4,5]) EB (eF k ns) [w0,.val (bT a0 a1 a2 a3),w2,.ref 0,w4,w5] [.lst (ntD os)]=some (.next,[w0,.val (bT a0 a1 a2 a3),w2,.ref 0,w4',w5'],[.lst (ntD (os++lp [a0,a1,a2,a3] k ns))])
 | [],k,os,w4,w5,_=>⟨w4,w5,by rw[lp,List.append_nil];rfl⟩
 | n::ns,k,os,w4,w5,hl=>by
  have h1:(iA [a0,a1,a2,a3] k).length≤1:=by rcases kz [a0,a1,a2,a3] k with e|e<;>rw[e]<;>simp
  have h2:(b9 n).length≤3:=by unfold b9;simp only[List.length_append];split<;>split<;>simp
  rw[List.length_cons]at hl
  obtain⟨w4',w5',e⟩:=mh (w0:=w0) (w2:=w2) ns (k+1) (os++iA [a0,a1,a2,a3] k++b9 n) (.val (.int (k:Int))) (.val (.int (n:Int))) (by simp only[List.length_append];(first|lia|omega))
  refine⟨w4',w5',?_⟩
  have s1:lq 3 (ao .Mult (aM (ag (ah 64) (aw))) (ao .FloorDiv (ao .Mod (ao .FloorDiv (ba (aa 1) (ao .Mod (aa 4) (ah 4))) (ah 16)) (ah 4)) (ah 3))) [w0,.val (bT a0 a1 a2 a3),w2,.ref 0,.val (.int (k:Int)),.val (.int (n:Int))] [.lst (ntD os)]=
    some (.next,[w0,.val (bT a0 a1 a2 a3),w2,.ref 0,.val (.int (k:Int)),.val (.int (n:Int))],[.lst (ntD (os++iA [a0,a1,a2,a3] k))]):=by
   refine(qv (k:=0) rfl ⟨_,rfl⟩ Cp rfl (by simp only[List.length_map];(first|lia|omega))).trans ?_
   rw[iZ];rfl
  have s2:=qv (i:=3) (k:=0) (Γ:=[w0,.val (bT a0 a1 a2 a3),w2,.ref 0,.val (.int (k:Int)),.val (.int (n:Int))]) (c:=[.lst (ntD (os++iA [a0,a1,a2,a3] k))]) rfl ⟨_,rfl⟩ uL rfl (by simp only[List.length_map,List.length_append];(first|lia|omega))
  rw[iZ]at s2
  rw[eF]
  refine bU (Γ1:=[w0,.val (bT a0 a1 a2 a3),w2,.ref 0,.val (.int (k:Int)),.val (.int (n:Int))]) rfl (aO s1 (aO s2 rfl)) ?_
  refine e.trans ?_
  rw[lp,List.append_assoc,List.append_assoc,List.append_assoc]
theorem vO{a0 a1 a2 a3 T:Nat}{ns:List Nat}(hl:ns.length≤100):pn [av ns,bT a0 a1 a2 a3,.int (T:Int)]=some (av (mL [a0,a1,a2,a3] T ns)):=by
 obtain⟨w4,w5,e⟩:=mh (a0:=a0) (a1:=a1) (a2:=a2) (a3:=a3) (w0:=.val (av ns)) (w2:=.val (.int (T:Int))) ns 0 [] .un .un (by simp;(first|lia|omega))
 rw[List.nil_append]at e
 have ho:=oW [a0,a1,a2,a3] 0 ns
 generalize hO:lp [a0,a1,a2,a3] 0 ns=O at e ho
 have e1:=kf (Γ:=[.val (av ns),.val (bT a0 a1 a2 a3),.val (.int (T:Int)),.ref 0,w4,w5]) (c:=[.lst (ntD O)]) (js:=[none,none,some 2]) (i:=0) (j:=1) (p:=pIf (aE .Eq (ao .Mod (ao .Add (aa 0) (aa 2)) (ah 3)) (ah 0)) (ao .Add (aa 1) (ah 128)) (aa 1))
  (l:=eT (ntD O)) (c1:=[.fz (ntD O)]) (λq=>match q with|(.int k,.int o)=>.int (mark T k.toNat o.toNat:Nat)|_=>.none) (by decide) (eQ (p:=aa 3) rfl) ?_ (by unfold eT;rw[List.length_map,List.length_range,List.length_map];(first|lia|omega))
 ·refine cu rfl (Γ':=[.val (av ns),.val (bT a0 a1 a2 a3),.val (.int (T:Int)),.ref 0,w4,w5]) (c':=[.fz (ntD O)]) ?_
  refine aO (iH aB (by decide)) (aO (iG (ds:=eF 0 ns) (c1:=[.lst (ntD [])]) (fL (au (ab (i:=0) rfl) aB) ?_) e rfl) (cx (d6 ?_)))
  ·rw[←zM];rfl
  ·refine e1.trans ?_
   congr 3
   unfold mL
   rw[hO,gV,eV O (λ(k:Nat)=>D.int (k:Int)),List.map_map,List.map_map]
   apply List.map_congr_left
   intro k _
   show D.int (mark T ((k:Int)).toNat (((O.getD k default:Nat):Int)).toNat:Nat)=D.int (mark T (0+k) (O.getD k 0):Nat)
   rw[Int.toNat_natCast,Int.toNat_natCast,Nat.zero_add];rfl
 ·intro q hq
  obtain⟨k,hk,hq1,hq2⟩:=uO hq
  rw[List.getElem?_map]at hq2
  (refine mE hq2 ?_;(try clear hq2);intro o _ ho2)
  obtain⟨q1,q2⟩:=q
  dsimp only at hq1 ho2
  subst hq1 ho2
  show pIf _ _ _ [.val (.int (k:Int)),.val (.int (o:Int)),.val (.int (T:Int))] _=some (.int (mark T ((k:Int)).toNat ((o:Int)).toNat:Nat),_)
  rw[Int.toNat_natCast,Int.toNat_natCast]
  have ht:aE .Eq (ao .Mod (ao .Add (aa 0) (aa 2)) (ah 3)) (ah 0) [.val (.int (k:Int)),.val (.int (o:Int)),.val (.int (T:Int))] [.fz (ntD O)]=some (decide ((k+T) % 3=0),[.fz (ntD O)]):=by
   refine(bc (dq (dA (ab (i:=0) rfl) (ab (i:=2) rfl)) (ay (i:=((3:Nat):Int))) (by decide)) ay jb).trans ?_
   congr 2
   by_cases h:(k+T) % 3=0
   ·rw[h];rfl
   ·rw[decide_eq_false h]
    simp only[beq_eq_false_iff_ne,ne_eq];(first|lia|omega)
  unfold mark
  by_cases h:(k+T) % 3=0
  ·rw[if_pos h]
   exact fM (by rw[ht,decide_eq_true h]) (dA (ab (i:=1) rfl) (ay (i:=((128:Nat):Int))))
  ·rw[if_neg h]
   exact fx (by rw[ht,decide_eq_false h]) (ab (i:=1) rfl)
end
end Mine
namespace Mine
section
variable{Γ:List Slot}{c c1 c2 c3:List Cell}{p q r:PE}{ps:PL}{d a b:D}{ds:List D}{α:Type}
noncomputable def zk:List Nat→List Nat→Prop
 | [],os=>os=[]
 | n::ns,os=>∃o1 os2,os=o1++os2∧One o1∧o1.length≤4∧valueOf 0 o1=n∧zk ns os2
theorem nU(as:List Nat)(T:Nat):∀(ns:List Nat) (k j:Nat),(∀n∈ns,n<262144)→zk ns (cY T k (lp as j ns))
 | [],_,_,_=>rfl
 | n::ns,k,j,h=>by
  obtain⟨h1,h2,h3,h4⟩:=vN (h n (.head _)) as j
  refine⟨cY T k (iA as j++b9 n),cY T (k+(iA as j++b9 n).length) (lp as (j+1) ns),?_,qj T _ k h3 h1,?_,(mP T _ k 0 h3).trans h2,nU as T ns _ (j+1) λx hx=>h x (.tail _ hx)⟩
  ·rw[lp,kS]
  ·rw[gV,List.length_map,List.length_range];exact h4
noncomputable abbrev AZ:PS:=(ak (bf 4 (aJ gn (dZ 0 (aX)))) (ak (qIf (cW (aJ m7 (aG (aa 4) (aX)))) (ak (dS (de (ag (aa 1) (ag (aa 2) (aw))))) (aH)) (aH)) (ak (qIf (cW (aJ m9 (aG (aa 4) (aX)))) (ak (dM 1 (aa 4)) (aH)) (aH)) (ak (qIf (cW (aJ m8 (aG (aa 4) (aX)))) (ak (dM 2 (ao .Sub (aa 4) (ah 256))) (aH)) (aH)) (aH)))))
section
variable{c0:List Cell}{k:Nat}{o1:List Nat}{rest xs ys:List D}{w3 w4:Slot}
theorem CV(hk:k<c0.length){x y:Cell}:(c0++[x,y])[k]?=c0[k]?:=List.getElem?_append_left hk
theorem zo(hk:k<c0.length){x y z:Cell}:(c0++[x,y]).set k z=c0.set k z++[x,y]:=List.set_append_left _ _ hk
theorem Bk{x y:Cell}:(c0++[x,y])[c0.length]?=some x:=by rw[List.getElem?_append_right (Nat.le_refl _)];simp
theorem Bl{x y:Cell}:(c0++[x,y])[c0.length+1]?=some y:=by rw[List.getElem?_append_right (Nat.le_succ _)];simp
theorem pv{x y z:Cell}:(c0++[x,y]).set c0.length z=c0++[z,y]:=by rw[List.set_append_right _ _ (Nat.le_refl _)];simp
theorem pz{x y z:Cell}:(c0++[x,y]).set (c0.length+1) z=c0++[x,z]:=by rw[List.set_append_right _ _ (Nat.le_succ _)];simp
theorem o5{i:Nat}(hi:i=c0.length)(h1:One o1)(hl:o1.length≤4)(hk:c0[k]?=some (.it (ntD o1++rest))):bf 4 (aJ gn (dZ 0 (aX))) [.ref k,.ref i,.ref (i+1),w3,w4] (c0++[.lst xs,.lst ys])=
  some (.next,[.ref k,.ref i,.ref (i+1),w3,.val (.int (valueOf 0 o1:Nat))],c0.set k (.it rest)++[.lst xs,.lst ys]):=by
 have hlt:k<c0.length:=(List.getElem?_eq_some_iff.mp hk).1
 have:=wh (c:=c0++[.lst xs,.lst ys]) h1 hl ((CV hlt).trans hk)
 rw[zo hlt]at this
 exact bq (gv (fN rfl eG) this)
theorem rG{n i:Nat}(h:Γ[i]?=some (.val (.int (n:Int)))):cW (aJ m7 (aG (aa i) (aX))) Γ c=some (decide (n=0),c):=gO (cO (ab h) (xF n)) rfl
theorem xI{n i:Nat}(h:Γ[i]?=some (.val (.int (n:Int)))):cW (aJ m9 (aG (aa i) (aX))) Γ c=some (decide (n<256),c):=gO (cO (ab h) (xJ n)) rfl
theorem xG{n i:Nat}(h:Γ[i]?=some (.val (.int (n:Int)))):cW (aJ m8 (aG (aa i) (aX))) Γ c=some (decide (256≤n),c):=gO (cO (ab h) (xH n)) rfl
theorem bD{f g:PS}{Γ1 Γ2:List Slot}{c':List Cell}(h1:f Γ c=some (.next,Γ1,c1))(h2:g Γ1 c1=some (.next,Γ2,c')):ak f g Γ c=some (.next,Γ2,c'):=aO h1 h2
theorem gX{i j:Nat}{es:List D}(h:Γ[i]?=some (.ref j))(hj:c[j]?=some (.lst es)):aa i Γ c=some (.lst es,c.set j (.fz es)):=by unfold aa;rw[h];simp only[];rw[hj]
theorem A6{i:Nat}(hi:i=c0.length)(h1:One o1)(hl:o1.length≤4)(hv:valueOf 0 o1=0)(hk:c0[k]?=some (.it (ntD o1++rest))) :
  ∃Γ',AZ [.ref k,.ref i,.ref (i+1),w3,w4] (c0++[.lst xs,.lst ys])=some (.ret (.tup [.lst xs,.lst ys]),Γ',c0.set k (.it rest)++[.fz xs,.fz ys]):=by
 have hlt:k<c0.length:=(List.getElem?_eq_some_iff.mp hk).1
 have hr:=o5 (w3:=w3) (w4:=w4) (xs:=xs) (ys:=ys) hi h1 hl hk
 rw[hv]at hr
 have hlen:(c0.set k (.it rest)).length=i:=by rw[List.length_set,hi]
 have g1:aa 1 [.ref k,.ref i,.ref (i+1),w3,.val (.int ((0:Nat):Int))] (c0.set k (.it rest)++[.lst xs,.lst ys])=some (.lst xs,c0.set k (.it rest)++[.fz xs,.lst ys]):=by
  refine(gX (j:=i) rfl (by rw[←hlen];exact Bk)).trans ?_
  rw[←hlen,pv]
 have g2:aa 2 [.ref k,.ref i,.ref (i+1),w3,.val (.int ((0:Nat):Int))] (c0.set k (.it rest)++[.fz xs,.lst ys])=some (.lst ys,c0.set k (.it rest)++[.fz xs,.fz ys]):=by
  refine(gX (j:=i+1) rfl (by rw[←hlen];exact Bl)).trans ?_
  rw[←hlen,pz]
 exact⟨_,aO hr (cx ((eB (rG (n:=0) rfl)).trans (cx (d6 (jt (au g1 (au g2 aB)) (Nat.le_of_ble_eq_true rfl))))))⟩
theorem A7{i:Nat}(hi:i=c0.length)(h1:One o1)(hl:o1.length≤4)(hv:valueOf 0 o1≠0∧valueOf 0 o1<256)(hk:c0[k]?=some (.it (ntD o1++rest)))(hx:xs.length≤99999) :
  AZ [.ref k,.ref i,.ref (i+1),w3,w4] (c0++[.lst xs,.lst ys])=some (.next,[.ref k,.ref i,.ref (i+1),w3,.val (.int (valueOf 0 o1:Nat))],c0.set k (.it rest)++[.lst (xs++[.int (valueOf 0 o1:Nat)]),.lst ys]):=by
 have hr:=o5 (w3:=w3) (w4:=w4) (xs:=xs) (ys:=ys) hi h1 hl hk
 have hlen:(c0.set k (.it rest)).length=i:=by rw[List.length_set,hi]
 generalize valueOf 0 o1=n at hr hv
 have g:dM 1 (aa 4) [.ref k,.ref i,.ref (i+1),w3,.val (.int (n:Int))] (c0.set k (.it rest)++[.lst xs,.lst ys])=some (.next,[.ref k,.ref i,.ref (i+1),w3,.val (.int (n:Int))],c0.set k (.it rest)++[.lst (xs++[.int (n:Int)]),.lst ys]):=by
  have hg:(c0.set k (.it rest)++[.lst xs,.lst ys])[i]?=some (.lst xs):=by rw[←hlen];exact Bk
  refine(jk (k:=i) rfl ⟨_,hg⟩ (ab (i:=4) rfl) hg hx).trans ?_
  rw[←hlen,pv]
 refine aO hr (bD ((d5 (g:=aH) ((rG (n:=n) rfl).trans (by rw[decide_eq_false hv.1]))).trans rfl) (bD ((eB ((xI (n:=n) rfl).trans (by rw[decide_eq_true hv.2]))).trans (bD g rfl)) (bD ((d5 (g:=aH) ((xG (n:=n) rfl).trans (by rw[decide_eq_false (by(first|lia|omega))]))).trans rfl) rfl)))
theorem zc{i:Nat}(hi:i=c0.length)(h1:One o1)(hl:o1.length≤4)(hv:256≤valueOf 0 o1)(hk:c0[k]?=some (.it (ntD o1++rest)))(hx:ys.length≤99999) :
  AZ [.ref k,.ref i,.ref (i+1),w3,w4] (c0++[.lst xs,.lst ys])=some (.next,[.ref k,.ref i,.ref (i+1),w3,.val (.int (valueOf 0 o1:Nat))],c0.set k (.it rest)++[.lst xs,.lst (ys++[.int (valueOf 0 o1 - 256:Nat)])]):=by
 have hr:=o5 (w3:=w3) (w4:=w4) (xs:=xs) (ys:=ys) hi h1 hl hk
 have hlen:(c0.set k (.it rest)).length=i:=by rw[List.length_set,hi]
 generalize valueOf 0 o1=n at hr hv
 have g:dM 2 (ao .Sub (aa 4) (ah 256)) [.ref k,.ref i,.ref (i+1),w3,.val (.int (n:Int))] (c0.set k (.it rest)++[.lst xs,.lst ys])=some (.next,[.ref k,.ref i,.ref (i+1),w3,.val (.int (n:Int))],c0.set k (.it rest)++[.lst xs,.lst (ys++[.int ((n - 256:Nat):Int)])]):=by
  have hg:(c0.set k (.it rest)++[.lst xs,.lst ys])[i+1]?=some (.lst ys):=by rw[←hlen];exact Bl
  refine(jk (k:=i+1) rfl ⟨_,hg⟩ (aU (op:=.Sub) (ab (i:=4) rfl) ay ji) hg hx).trans ?_
  rw[←hlen,pz,show (n:Int) - 256=((n - 256:Nat):Int)by(first|lia|omega)]
 refine aO hr (bD ((d5 (g:=aH) ((rG (n:=n) rfl).trans (by rw[decide_eq_false (by(first|lia|omega))]))).trans rfl) (bD ((d5 (g:=aH) ((xI (n:=n) rfl).trans (by rw[decide_eq_false (by(first|lia|omega))]))).trans rfl) (bD ((eB ((xG (n:=n) rfl).trans (by rw[decide_eq_true hv]))).trans (bD g rfl)) rfl)))
end
theorem kJ{k i:Nat}{rest:List D}:∀(ns os:List Nat) (ds:List D) (c0:List Cell) (xs ys:List Nat) (w3 w4:Slot),i=c0.length→zk (ns++[0]) os→(∀n∈ns,n≠0)→ns.length<ds.length→xs.length+ys.length+ns.length≤1000→c0[k]?=some (.it (ntD os++rest))→
  ∃Γ',bH (.n 3) AZ ds [.ref k,.ref i,.ref (i+1),w3,w4] (c0++[.lst (ntD xs),.lst (ntD ys)])=some (.ret (.tup [av (xs++ns.filter (·<256)),av (ys++(ns.filter (256≤·)).map (· - 256))]),Γ',c0.set k (.it rest)++[.fz (ntD (xs++ns.filter (·<256))),.fz (ntD (ys++(ns.filter (256≤·)).map (· - 256)))])
 | [],os,ds',c0,xs,ys,w3,w4,hi,he,_,hl,_,hk=>by
  obtain⟨d,ds,rfl⟩:=List.exists_cons_of_length_pos (Nat.lt_of_le_of_lt (Nat.zero_le _) hl)
  clear hl
  obtain⟨o1,os2,rfl,h1,hl,hv,h2⟩:=he
  have h2':os2=[]:=h2
  subst h2'
  rw[List.append_nil]at hk
  obtain⟨Γ',e⟩:=A6 (xs:=ntD xs) (ys:=ntD ys) (w3:=.val d) (w4:=w4) hi h1 hl hv hk
  refine⟨Γ',wW rfl ?_⟩
  simp only[List.filter_nil,List.map_nil,List.append_nil]
  exact e
 | n::ns,os,ds',c0,xs,ys,w3,w4,hi,he,hn,hl,hs,hk=>by
  obtain⟨d,ds,rfl⟩:=List.exists_cons_of_length_pos (Nat.lt_of_le_of_lt (Nat.zero_le _) hl)
  obtain⟨o1,os2,rfl,h1,h4,hv,h2⟩:=he
  have hk':c0[k]?=some (.it (ntD o1++(ntD os2++rest))):=by rw[hk,←iZ,List.append_assoc]
  have hlt:k<c0.length:=(List.getElem?_eq_some_iff.mp hk).1
  have h0:=hn n (.head _)
  rw[List.length_cons]at hl hs
  rw[List.length_cons]at hl
  by_cases hlow:n<256
  ·obtain⟨Γ',e⟩:=kJ (k:=k) (i:=i) (rest:=rest) ns os2 ds (c0.set k (.it (ntD os2++rest))) (xs++[n]) ys (.val d) (.val (.int (n:Int))) (by rw[List.length_set];exact hi) h2 (λx hx=>hn x (.tail _ hx)) (by(first|lia|omega)) (by rw[List.length_append];simp only[List.length_cons,List.length_nil];(first|lia|omega)) (by rw[List.getElem?_set_self hlt])
   have s:=A7 (xs:=ntD xs) (ys:=ntD ys) (w3:=.val d) (w4:=w4) hi h1 h4 (by rw[hv];exact⟨h0,hlow⟩) hk' (by simp only[List.length_map];(first|lia|omega))
   rw[hv,show ntD xs++[D.int (n:Int)]=ntD (xs++[n])from iZ xs [n]]at s
   rw[List.set_set]at e
   refine⟨Γ',bU rfl s (e.trans ?_)⟩
   simp only[List.filter_cons,hlow,decide_true,if_true,show ¬(256≤n)by(first|lia|omega),decide_false,Bool.false_eq_true,if_false,List.append_assoc,List.cons_append,List.nil_append]
  ·have hhigh:256≤n:=by(first|lia|omega)
   obtain⟨Γ',e⟩:=kJ (k:=k) (i:=i) (rest:=rest) ns os2 ds (c0.set k (.it (ntD os2++rest))) xs (ys++[n - 256]) (.val d) (.val (.int (n:Int))) (by rw[List.length_set];exact hi) h2 (λx hx=>hn x (.tail _ hx)) (by(first|lia|omega)) (by rw[List.length_append];simp only[List.length_cons,List.length_nil];(first|lia|omega)) (by rw[List.getElem?_set_self hlt])
   have s:=zc (xs:=ntD xs) (ys:=ntD ys) (w3:=.val d) (w4:=w4) hi h1 h4 (by rw[hv];exact hhigh) hk' (by simp only[List.length_map];(first|lia|omega))
   rw[hv,show ntD ys++[D.int ((n - 256:Nat):Int)]=ntD (ys++[n - 256])from iZ ys [n - 256]]at s
   rw[List.set_set]at e
   refine⟨Γ',bU rfl s (e.trans ?_)⟩
   simp only[List.filter_cons,hlow,hhigh,decide_true,if_true,decide_false,Bool.false_eq_true,if_false,List.append_assoc,List.cons_append,List.nil_append,List.map_cons]
theorem AK:cN [.int 21]=some (eM 0 21):=sL (by decide)
theorem yR:∃R,cN [.int 21]=some R∧R.length=21:=⟨_,AK,rfl⟩
theorem zd{k:Nat}{ns os:List Nat}{rest:List D}(he:zk (ns++[0]) os)(hn:∀n∈ns,n≠0)(hl:ns.length≤20)(hk:c[k]?=some (.it (ntD os++rest))) :
  lx [.ref k] c=some (.tup [av (ns.filter (·<256)),av ((ns.filter (256≤·)).map (· - 256))],c.set k (.it rest)):=by
 obtain⟨R,hR,hR2⟩:=yR
 obtain⟨Γ',e⟩:=kJ (i:=c.length) ns os R c [] [] .un .un rfl he hn (by(first|lia|omega)) (by simp;(first|lia|omega)) hk
 have hq:o4 [.ref k,.un,.un,.un,.un] c=some (.ret (.tup [av (ns.filter (·<256)),av ((ns.filter (256≤·)).map (· - 256))]),Γ',c.set k (.it rest)++[.fz (ntD (ns.filter (·<256))),.fz (ntD ((ns.filter (256≤·)).map (· - 256)))]):=
  aO (Γ1:=[.ref k,.ref c.length,.ref (c.length+1),.un,.un]) (c1:=c++[.lst [],.lst []]) rfl (cx (r0 (ds:=R) (c1:=c++[.lst [],.lst []]) (fL (au (ay (i:=21)) aB) hR) e))
 unfold lx cC
 have hone:[Slot.ref k].length=1:=rfl
 rw[if_pos hone]
 have hs:setFrom 0 [.ref k] (List.replicate 5 .un)=[.ref k,.un,.un,.un,.un]:=rfl
 rw[hs,hq]
 show (some (_,(c.set k (.it rest)++[_,_]).take c.length):Option (D×List Cell))=_
 rw[List.take_append_of_le_length (by rw[List.length_set];exact Nat.le_refl _),List.take_of_length_le (by rw[List.length_set];exact Nat.le_refl _)]
end
end Mine
namespace Mine
section
variable{Γ:List Slot}{c c1 c2 c3:List Cell}{p q r:PE}{ps:PL}{d a b:D}{ds:List D}{α:Type}
noncomputable abbrev dy:=List Nat
noncomputable def fB:dy→Prop
 | [c]=>c≠92
 | [c,_]=>c=92
 | _=>False
noncomputable def dH:Nat→List dy→List D
 | _,[]=>[]
 | p,t::ts=>.tup [.int ((p+t.length - 1:Nat):Int),aF t]::dH (p+t.length) ts
noncomputable def cF:Nat→List Nat→List (Nat×Nat)
 | _,[]=>[]
 | p,c::cs=>(p,c)::cF (p+1) cs
theorem Bm:∀(p:Nat) (l:List Nat),cF p l=(List.range l.length).map λk=>(p+k,l.getD k 0)
 | _,[]=>rfl
 | p,c::cs=>by
  rw[cF,Bm (p+1) cs,List.length_cons,List.range_succ_eq_map,List.map_cons,List.map_map]
  congr 1
  apply List.map_congr_left
  intro k _
  show (p+1+k,cs.getD k 0)=(p+(k+1),(c::cs).getD (k+1) 0)
  rw[show p+1+k=p+(k+1)by(first|lia|omega)];rfl
theorem wF(l:List Nat):dm (bg l)=cF 0 l:=by
 rw[Bm]
 unfold dm
 simp
theorem BJ:∀(p:Nat) (x y:List Nat),cF p (x++y)=cF p x++cF (p+x.length) y
 | _,[],y=>by simp[cF]
 | p,c::x,y=>by rw[List.cons_append,cF,cF,BJ (p+1) x y,List.cons_append,List.length_cons,show p+1+x.length=p+(x.length+1)by(first|lia|omega)]
theorem qk:∀(ts:List dy) (p q:Nat),(∀t∈ts,fB t)→bA false (cF p ts.flatten) q=dH p ts
 | [],_,_,_=>rfl
 | t::ts,p,q,h=>by
  have ht:=h t (.head _)
  have ih:=λp q=>qk ts p q λx hx=>h x (.tail _ hx)
  match t,ht with
  | [c],ht=>
   have hc:c≠92:=ht
   rw[List.flatten_cons,List.cons_append,List.nil_append,cF,bA,if_neg hc,ih,dH]
   rfl
  | [c,e],ht=>
   have hc:c=92:=ht
   subst hc
   rw[List.flatten_cons,List.cons_append,List.cons_append,List.nil_append,cF,cF,bA,if_pos rfl,bA,ih,dH]
   rfl
theorem fY{ts:List dy}(h:∀t∈ts,fB t):escaped (bg ts.flatten)=dH 0 ts:=by
 unfold escaped
 rw[wF,qk ts 0 0 h]
noncomputable def uT:List dy→Bool→List dy→List dy→List dy
 | [],false,U,_=>U
 | [],true,U,tail=>U++tail
 | t::ts,false,U,tail=>if t=[34]then uT ts true U [[34]]else uT ts false (U++[t]) tail
 | t::ts,true,U,tail=>if t=[34]then uT ts false U []else uT ts true U (tail++[t])
theorem nV:∀(ts:List dy) (q:Bool) (U tail:List dy),(∀t∈ts,fB t)→(∀t∈U,fB t)→(∀t∈tail,fB t)→∀t∈uT ts q U tail,fB t
 | [],false,U,_,_,h,_=>h
 | [],true,U,tail,_,h1,h2=>λt ht=>(List.mem_append.mp ht).elim (h1 t) (h2 t)
 | t::ts,false,U,tail,h,h1,h2=>by
  unfold uT
  split
  ·exact nV ts true U _ (λx hx=>h x (.tail _ hx)) h1 (by intro x hx;rw[List.mem_singleton.mp hx];show (34:Nat)≠92;decide)
  ·exact nV ts false _ tail (λx hx=>h x (.tail _ hx)) (λx hx=>(List.mem_append.mp hx).elim (h1 x) λhx=>by rw[List.mem_singleton.mp hx];exact h t (.head _)) h2
 | t::ts,true,U,tail,h,h1,h2=>by
  unfold uT
  split
  ·exact nV ts false U _ (λx hx=>h x (.tail _ hx)) h1 (by intro x hx;cases hx)
  ·exact nV ts true U _ (λx hx=>h x (.tail _ hx)) h1 (λx hx=>(List.mem_append.mp hx).elim (h2 x) λhx=>by rw[List.mem_singleton.mp hx];exact h t (.head _))
theorem kM:∀(ts:List dy) (q:Bool) (U tail:List dy),(q=false→tail=[])→(uT ts q U tail).flatten.length≤U.flatten.length+tail.flatten.length+ts.flatten.length
 | [],false,U,tail,_=>by unfold uT;(first|lia|omega)
 | [],true,U,tail,_=>by unfold uT;rw[List.flatten_append,List.length_append];(first|lia|omega)
 | t::ts,false,U,tail,h=>by
  unfold uT
  rw[List.flatten_cons,List.length_append]
  split
  ·rename_i e
   have:=kM ts true U [[34]] (λq=>by cases q)
   subst e
   simp only[List.flatten_cons,List.flatten_nil,List.length_cons,List.length_nil,List.length_append]at this⊢
   (first|lia|omega)
  ·have:=kM ts false (U++[t]) tail h
   simp only[List.flatten_append,List.flatten_cons,List.flatten_nil,List.length_append,List.length_nil,List.append_nil]at this
   (first|lia|omega)
 | t::ts,true,U,tail,h=>by
  unfold uT
  rw[List.flatten_cons,List.length_append]
  split
  ·have:=kM ts false U [] (λ_=>rfl)
   simp only[List.flatten_nil,List.length_nil]at this
   (first|lia|omega)
  ·have:=kM ts true U (tail++[t]) (λq=>by cases q)
   simp only[List.flatten_append,List.flatten_cons,List.flatten_nil,List.length_append,List.length_nil,List.append_nil]at this
   (first|lia|omega)
noncomputable abbrev AV:PS:=(ak (qIf (aE .Eq (aa 5) (a8 ⟨#[34]⟩)) (ak (qIf (aE .Is (aa 2) (fQ)) (ak (bf 2 (aa 4)) (aH)) (ak (qIf (aE .NotEq (aa 1) (aa 2)) (ak (dM 3 (aW (aa 0) (aQ (aa 1)) (aQ (aa 2)) (aA))) (aH)) (aH)) (ak (bf 1 (ao .Add (aa 4) (ah 1))) (ak (bf 2 (fQ)) (aH))))) (aH)) (aH)) (aH))
theorem qD{x:Str}{lo hi:Option Int}(h:x.length≤100000):kg (.str x) lo hi none=some (.str (Txt.slice x lo hi)):=if_pos ⟨rfl,h⟩
theorem BM{a b:Int}:fu .NotEq (.int a) (.int b)=some (a != b):=rfl
theorem v8{l:List Nat}{a b:Nat}(h:a≤b)(hb:b≤l.length):Txt.slice (bg l) (some (a:Int)) (some (b:Int))=bg ((l.drop a).take (b - a)):=by
 have:=StrLaws.sliceText_nat (bg l) h (by rw[len_str];exact hb)
 exact this
theorem mG{l:List Nat}{a:Nat}(h:a≤l.length):Txt.slice (bg l) (some (a:Int)) none=bg (l.drop a):=by
 have:=StrLaws.sliceText_from (x:=bg l) (i:=(a:Int)) ⟨by(first|lia|omega),by show (a:Int)≤(l.length:Nat);(first|lia|omega)⟩
 refine Eq.trans this ?_
 simp
 exact List.take_of_length_le (by rw[List.length_drop];exact Nat.le_refl _)
theorem ze{t:dy}:fu .Eq (aF t) (.str ⟨#[34]⟩)=some (decide (t=[34])):=by
 show some (decide (bg t=⟨#[34]⟩))=_
 congr 1
 apply decide_eq_decide.mpr
 constructor
 ·intro h
  have:=congrArg (λx:Str=>x.cps.toList) h
  simpa using this
 ·rintro rfl;rfl
theorem Bw{w0 w1 w2 w3 w4:Slot}{t:dy}(h:t≠[34]):AV [w0,w1,w2,w3,w4,.val (aF t)] c=some (.next,[w0,w1,w2,w3,w4,.val (aF t)],c):=
 bD ((d5 (g:=aH) ((bc (ab (i:=5) rfl) bG ze).trans (by rw[decide_eq_false h]))).trans rfl) rfl
theorem Cn{w0 w1 w3:Slot}{P:Nat}:AV [w0,w1,.val .none,w3,.val (.int (P:Int)),.val (aF [34])] c=some (.next,[w0,w1,.val (.int (P:Int)),w3,.val (.int (P:Int)),.val (aF [34])],c):=
 bD ((eB ((bc (ab (i:=5) rfl) bG ze).trans rfl)).trans (bD ((eB (bc (ab (i:=2) rfl) gN rfl)).trans (bD (bq (ab (i:=4) rfl)) rfl)) rfl)) rfl
theorem zA{X:List Nat}{res:List (List Nat)}{s o P:Nat}(hX:X.length≤1000)(ho:s≤o∧o≤X.length)(hr:res.length≤5000) :
  ∃res':List (List Nat),AV [.val (aF X),.val (.int (s:Int)),.val (.int (o:Int)),.ref 0,.val (.int (P:Int)),.val (aF [34])] [.lst (res.map aF)]=
   some (.next,[.val (aF X),.val (.int ((P+1:Nat):Int)),.val .none,.ref 0,.val (.int (P:Int)),.val (aF [34])],[.lst (res'.map aF)])∧res'.flatten=res.flatten++(X.drop s).take (o - s)∧res'.length≤res.length+1:=by
 have tail:∀c:List Cell,(ak (bf 1 (ao .Add (aa 4) (ah 1))) (ak (bf 2 (fQ)) (aH))) [.val (aF X),.val (.int (s:Int)),.val (.int (o:Int)),.ref 0,.val (.int (P:Int)),.val (aF [34])] c=
   some (.next,[.val (aF X),.val (.int ((P+1:Nat):Int)),.val .none,.ref 0,.val (.int (P:Int)),.val (aF [34])],c):=λc=>
  bD (bq (dA (ab (i:=4) rfl) (ay (i:=((1:Nat):Int))))) (bD (bq gN) rfl)
 have h1:aE .Eq (aa 5) (a8 ⟨#[34]⟩) [.val (aF X),.val (.int (s:Int)),.val (.int (o:Int)),.ref 0,.val (.int (P:Int)),.val (aF [34])] [.lst (res.map aF)]=some (true,[.lst (res.map aF)]):=(bc (ab (i:=5) rfl) bG ze).trans rfl
 have h2:aE .Is (aa 2) (fQ) [.val (aF X),.val (.int (s:Int)),.val (.int (o:Int)),.ref 0,.val (.int (P:Int)),.val (aF [34])] [.lst (res.map aF)]=some (false,[.lst (res.map aF)]):=bc (ab (i:=2) rfl) gN rfl
 have h3:aE .NotEq (aa 1) (aa 2) [.val (aF X),.val (.int (s:Int)),.val (.int (o:Int)),.ref 0,.val (.int (P:Int)),.val (aF [34])] [.lst (res.map aF)]=some (decide (s≠o),[.lst (res.map aF)]):=by
  refine(bc (ab (i:=1) rfl) (ab (i:=2) rfl) BM).trans ?_
  congr 2
  by_cases h:s=o
  ·subst h;simp
  ·have:¬((s:Int)=(o:Int)):=by(first|lia|omega)
   simp[h,this]
 by_cases he:s=o
 ·refine⟨res,?_,?_,by(first|lia|omega)⟩
  ·exact bD ((eB h1).trans (bD ((d5 h2).trans (aO (Γ1:=[.val (aF X),.val (.int (s:Int)),.val (.int (o:Int)),.ref 0,.val (.int (P:Int)),.val (aF [34])]) (c1:=[.lst (res.map aF)]) ((d5 (g:=aH) (h3.trans (by simp[he]))).trans rfl) (tail _))) rfl)) rfl
  ·rw[he,Nat.sub_self,List.take_zero,List.append_nil]
 ·refine⟨res++[(X.drop s).take (o - s)],?_,?_,?_⟩
  ·have ha:dM 3 (aW (aa 0) (aQ (aa 1)) (aQ (aa 2)) (aA)) [.val (aF X),.val (.int (s:Int)),.val (.int (o:Int)),.ref 0,.val (.int (P:Int)),.val (aF [34])] [.lst (res.map aF)]=some (.next,[.val (aF X),.val (.int (s:Int)),.val (.int (o:Int)),.ref 0,.val (.int (P:Int)),.val (aF [34])],[.lst ((res++[(X.drop s).take (o - s)]).map aF)]):=by
    refine(jk (k:=0) rfl ⟨_,rfl⟩ (cP (ab (i:=0) rfl) (cz (ab (i:=1) rfl)) (cz (ab (i:=2) rfl)) bo (qD (by rw[len_str];(first|lia|omega)))) rfl (by rw[List.length_map];(first|lia|omega))).trans ?_
    rw[v8 ho.1 ho.2,List.map_append];rfl
   exact bD ((eB h1).trans (bD ((d5 h2).trans (aO ((eB (h3.trans (by simp[he]))).trans (bD ha rfl)) (tail _))) rfl)) rfl
  ·rw[List.flatten_append,List.flatten_cons,List.flatten_nil,List.append_nil]
  ·rw[List.length_append];exact Nat.le_refl _
end
end Mine
namespace Mine
section
variable{Γ:List Slot}{c c1 c2 c3:List Cell}{p q r:PE}{ps:PL}{d a b:D}{ds:List D}{α:Type}
noncomputable def DT(A:List Nat)(res:List (List Nat))(s:Nat):Option Nat→List dy→List dy→Prop
 | none,U,tail=>s≤A.length∧U.flatten=res.flatten++A.drop s∧tail=[]
 | some o,U,tail=>(s≤o∧o≤A.length)∧U.flatten=res.flatten++(A.take o).drop s∧tail.flatten=A.drop o
noncomputable def opD:Option Nat→D
 | none=>.none
 | some o=>.int (o:Int)
theorem gF{X:List Nat}(hX:X.length≤1000):∀(ts:List dy) (A:List Nat) (res:List (List Nat)) (s:Nat) (o:Option Nat) (U tail:List dy) (w4 w5:Slot),X=A++ts.flatten→(∀t∈ts,fB t)→DT A res s o U tail→res.length+ts.length≤3000→
  ∃(res':List (List Nat)) (s':Nat) (o':Option Nat) (w4' w5':Slot),bH (.t [4,5]) AV (dH A.length ts) [.val (aF X),.val (.int (s:Int)),.val (opD o),.ref 0,w4,w5] [.lst (res.map aF)]=
   some (.next,[.val (aF X),.val (.int (s':Int)),.val (opD o'),.ref 0,w4',w5'],[.lst (res'.map aF)])∧s'≤X.length∧res'.flatten++X.drop s'=(uT ts o.isSome U tail).flatten∧res'.length≤3000
 | [],A,res,s,o,U,tail,w4,w5,hA,_,hs,hl=>by
  have hA':X=A:=by rw[hA];simp
  subst hA'
  refine⟨res,s,o,w4,w5,rfl,?_,?_,by simp at hl;(first|lia|omega)⟩
  ·cases o with
   | none=>exact hs.1
   | some o=>have:=hs.1;(first|lia|omega)
  ·cases o with
   | none=>
    obtain⟨h1,h2,h3⟩:=hs
    show _=U.flatten
    rw[h2]
   | some o=>
    obtain⟨h1,h2,h3⟩:=hs
    show _=(U++tail).flatten
    rw[List.flatten_append,h2,h3,List.append_assoc]
    congr 1
    rw[List.drop_take]
    have:X.drop o=(X.drop s).drop (o - s):=by rw[List.drop_drop];congr 1;(first|lia|omega)
    rw[this,List.take_append_drop]
 | t::ts,A,res,s,o,U,tail,w4,w5,hA,ht,hs,hl=>by
  have htok:=ht t (.head _)
  have hlen:1≤t.length:=by
   match t,htok with
   | [_],_=>exact Nat.le_refl _
   | [_,_],_=>exact Nat.le_succ _
  rw[List.flatten_cons]at hA
  have hA2:X=(A++t)++ts.flatten:=by rw[hA,List.append_assoc]
  have hl2:A.length+t.length≤X.length:=by rw[hA];simp
  rw[List.length_cons]at hl
  rw[dH]
  by_cases h34:t=[34]
  ·subst h34
   have hpos:A.length+[34].length - 1=A.length:=by simp
   rw[hpos]
   cases o with
   | none=>
    obtain⟨h1,h2,h3⟩:=hs
    obtain⟨res',s',o',w4',w5',e,r1,r2,r3⟩:=gF hX ts (A++[34]) res s (some A.length) U [[34]] (.val (.int (A.length:Int))) (.val (aF [34])) hA2 (λx hx=>ht x (.tail _ hx))
     ⟨⟨h1,by simp⟩,by rw[h2,List.take_left' rfl],by rw[List.drop_left' rfl];rfl⟩ (by(first|lia|omega))
    refine⟨res',s',o',w4',w5',bU rfl Cn ?_,r1,?_,r3⟩
    ·rw[List.length_append]at e;exact e
    ·rw[r2]
     show _=(uT ([34]::ts) false U tail).flatten
     rw[uT,if_pos rfl];rfl
   | some o=>
    obtain⟨h1,h2,h3⟩:=hs
    obtain⟨res1,e1,e2,e3⟩:=zA (P:=A.length) hX ⟨h1.1,Nat.le_trans h1.2 (by(first|lia|omega))⟩ (res:=res) (by(first|lia|omega))
    have hU:U.flatten=res1.flatten++(A++[34]).drop (A.length+1):=by
     rw[List.drop_eq_nil_of_le (by simp),List.append_nil,e2,h2]
     congr 1
     rw[hA,List.drop_append_of_le_length (by(first|lia|omega)),List.take_append_of_le_length (by rw[List.length_drop];(first|lia|omega)),List.drop_take]
    obtain⟨res',s',o',w4',w5',e,r1,r2,r3⟩:=gF hX ts (A++[34]) res1 (A.length+1) none U [] (.val (.int (A.length:Int))) (.val (aF [34])) hA2 (λx hx=>ht x (.tail _ hx))
     ⟨by simp,hU,rfl⟩ (by(first|lia|omega))
    refine⟨res',s',o',w4',w5',bU rfl e1 ?_,r1,?_,r3⟩
    ·rw[List.length_append]at e;exact e
    ·rw[r2]
     show _=(uT ([34]::ts) true U tail).flatten
     rw[uT,if_pos rfl];rfl
  ·cases o with
   | none=>
    obtain⟨h1,h2,h3⟩:=hs
    obtain⟨res',s',o',w4',w5',e,r1,r2,r3⟩:=gF hX ts (A++t) res s none (U++[t]) tail (.val (.int ((A.length+t.length - 1:Nat):Int))) (.val (aF t)) hA2 (λx hx=>ht x (.tail _ hx))
     ⟨by rw[List.length_append];(first|lia|omega),by rw[List.flatten_append,h2,List.flatten_cons,List.flatten_nil,List.append_nil,List.drop_append_of_le_length h1,List.append_assoc],h3⟩ (by(first|lia|omega))
    refine⟨res',s',o',w4',w5',bU rfl (Bw h34) ?_,r1,?_,r3⟩
    ·rw[List.length_append]at e;exact e
    ·rw[r2]
     show _=(uT (t::ts) false U tail).flatten
     rw[uT,if_neg h34];rfl
   | some o=>
    obtain⟨h1,h2,h3⟩:=hs
    obtain⟨res',s',o',w4',w5',e,r1,r2,r3⟩:=gF hX ts (A++t) res s (some o) U (tail++[t]) (.val (.int ((A.length+t.length - 1:Nat):Int))) (.val (aF t)) hA2 (λx hx=>ht x (.tail _ hx))
     ⟨⟨h1.1,by rw[List.length_append];(first|lia|omega)⟩,by rw[h2,List.take_append_of_le_length h1.2],by rw[List.flatten_append,h3,List.flatten_cons,List.flatten_nil,List.append_nil,List.drop_append_of_le_length h1.2]⟩ (by(first|lia|omega))
    refine⟨res',s',o',w4',w5',bU rfl (Bw h34) ?_,r1,?_,r3⟩
    ·rw[List.length_append]at e;exact e
    ·rw[r2]
     show _=(uT (t::ts) true U tail).flatten
     rw[uT,if_neg h34];rfl
theorem toks_le:∀ts:List dy,(∀t∈ts,fB t)→ts.length≤ts.flatten.length
 | [],_=>Nat.le_refl _
 | t::ts,h=>by
  have ih:=toks_le ts λx hx=>h x (.tail _ hx)
  have ht:=h t (.head _)
  rw[List.flatten_cons,List.length_append,List.length_cons]
  match t,ht with
  | [_],_=>simp only[List.length_cons,List.length_nil];(first|lia|omega)
  | [_,_],_=>simp only[List.length_cons,List.length_nil];(first|lia|omega)
theorem uw:∀(ts:List dy) (U:List dy),(34:Nat)∉ts.flatten→uT ts false U []=U++ts
 | [],U,_=>by simp[uT]
 | t::ts,U,h=>by
  rw[List.flatten_cons]at h
  have h1:t≠[34]:=by rintro rfl;exact h (by simp)
  rw[uT,if_neg h1,uw ts _ λq=>h (List.mem_append_right _ q),List.append_assoc];rfl
theorem qN{ts:List dy}(ht:∀t∈ts,fB t)(hX:ts.flatten.length≤1000):sv [aF ts.flatten]=some (aF (uT ts false [] []).flatten):=by
 have hn:aE .NotIn (a8 ⟨#[34]⟩) (aa 0) [.val (aF ts.flatten),.un,.un,.un,.un,.un] []=some (!decide ((34:Nat)∈ts.flatten),[]):=bc bG (ab (i:=0) rfl) rfl
 by_cases h34:(34:Nat)∈ts.flatten
 ·obtain⟨res',s',o',w4',w5',e,r1,r2,r3⟩:=gF hX ts [] [] 0 none [] [] .un .un (by simp) ht ⟨Nat.le_refl _,rfl,rfl⟩ (by have:=toks_le ts ht;simp;(first|lia|omega))
  have hu:(uT ts false [] []).flatten.length≤1000:=by
   have:=kM ts false [] [] (λ_=>rfl)
   rw[List.flatten_nil,List.length_nil]at this
   (first|lia|omega)
  have e2:(uT ts (Option.isSome (none:Option Nat)) [] [])=uT ts false [] []:=rfl
  rw[e2]at r2
  have rl:res'.flatten.length≤1000:=by
   have:=congrArg List.length r2
   rw[List.length_append]at this;(first|lia|omega)
  have hlt:aE .Lt (aa 1) (bp d9 (ag (aa 0) (aw))) [.val (aF ts.flatten),.val (.int (s':Int)),.val (opD o'),.ref 0,w4',w5'] [.lst (res'.map aF)]=some (decide (s'<ts.flatten.length),[.lst (res'.map aF)]):=by
   refine(bc (ab (i:=1) rfl) (cy (au (ab (i:=0) rfl) aB) (if_pos (by rw[len_str];(first|lia|omega)))) zw).trans ?_
   rw[len_str]
   congr 2
   exact decide_eq_decide.mpr (by(first|lia|omega))
  have fin:∀(rs:List (List Nat)) (Γ1:List Slot),Γ1[3]?=some (.ref 0)→rs.flatten=(uT ts false [] []).flatten→∃c',ak (dS (bR "str" cZ (a8 ⟨#[]⟩) (ag (aa 3) (aw)))) (aH) Γ1 [.lst (rs.map aF)]=some (.ret (aF (uT ts false [] []).flatten),Γ1,c'):=by
   intro rs Γ1 h3 hr
   refine⟨[.fz (rs.map aF)],?_⟩
   have:=jS (ls:=rs) (c1:=[.fz (rs.map aF)]) (gX (i:=3) (c:=[.lst (rs.map aF)]) h3 rfl) (by rw[hr];(first|lia|omega))
   rw[hr]at this
   exact cx (d6 this)
  have hloop:∀r,ak (qIf (aE .Lt (aa 1) (bp d9 (ag (aa 0) (aw)))) (ak (dM 3 (aW (aa 0) (aQ (aa 1)) (aA) (aA))) (aH)) (aH)) (ak (dS (bR "str" cZ (a8 ⟨#[]⟩) (ag (aa 3) (aw)))) (aH)) [.val (aF ts.flatten),.val (.int (s':Int)),.val (opD o'),.ref 0,w4',w5'] [.lst (res'.map aF)]=r→
    oZ [.val (aF ts.flatten),.un,.un,.un,.un,.un] []=r:=λr hr=>
   aO ((d5 (g:=aH) (hn.trans (by simp[h34]))).trans rfl) (aO (bq (ay (i:=0))) (aO (bq gN) (aO (Γ1:=[.val (aF ts.flatten),.val (.int 0),.val .none,.ref 0,.un,.un]) (c1:=[.lst []]) (iH (c:=[]) aB (by decide)) (aO (iG (ds:=dH 0 ts) (c1:=[.lst []]) ((oB (ab (i:=0) rfl)).trans (by rw[fY ht])) e rfl) hr))))
  by_cases hs:s'<ts.flatten.length
  ·obtain⟨c',hf⟩:=fin (res'++[ts.flatten.drop s']) [.val (aF ts.flatten),.val (.int (s':Int)),.val (opD o'),.ref 0,w4',w5'] rfl (by rw[List.flatten_append,List.flatten_cons,List.flatten_nil,List.append_nil];exact r2)
   have ha:dM 3 (aW (aa 0) (aQ (aa 1)) (aA) (aA)) [.val (aF ts.flatten),.val (.int (s':Int)),.val (opD o'),.ref 0,w4',w5'] [.lst (res'.map aF)]=some (.next,[.val (aF ts.flatten),.val (.int (s':Int)),.val (opD o'),.ref 0,w4',w5'],[.lst ((res'++[ts.flatten.drop s']).map aF)]):=by
    refine(jk (k:=0) rfl ⟨_,rfl⟩ (cP (ab (i:=0) rfl) (cz (ab (i:=1) rfl)) bo bo (qD (by rw[len_str];(first|lia|omega)))) rfl (by rw[List.length_map];(first|lia|omega))).trans ?_
    rw[mG r1,List.map_append];rfl
   exact cu rfl (hloop _ (aO ((eB (hlt.trans (by rw[decide_eq_true hs]))).trans (bD ha rfl)) hf))
  ·obtain⟨c',hf⟩:=fin res' [.val (aF ts.flatten),.val (.int (s':Int)),.val (opD o'),.ref 0,w4',w5'] rfl (by rw[←r2,List.drop_eq_nil_of_le (by(first|lia|omega)),List.append_nil])
   exact cu rfl (hloop _ (aO ((d5 (g:=aH) (hlt.trans (by rw[decide_eq_false hs]))).trans rfl) hf))
 ·rw[uw ts [] h34,List.nil_append]
  exact cu rfl (cx ((eB (hn.trans (show _=some (true,([]:List Cell))by simp[h34]))).trans (cx (d6 (ab rfl)))))
end
end Mine
namespace Mine
section
variable{Γ:List Slot}{c c1 c2 c3:List Cell}{p q r:PE}{ps:PL}{d a b:D}{ds:List D}{α:Type}
noncomputable def dG:Nat→List dy→Bool
 | n,[]=>n==0
 | n,t::ts=>if t=[40]then dG (n+1) ts else if t=[41]then(if n=0 then false else dG (n - 1) ts)else dG n ts
noncomputable abbrev uG:PS:=(ak (qIf (aE .Eq (aa 3) (a8 ⟨#[40]⟩)) (ak (gj 1 .Add (ah 1)) (aH)) (ak (qIf (aE .Eq (aa 3) (a8 ⟨#[41]⟩)) (ak (gj 1 .Sub (ah 1)) (ak (qIf (aE .Lt (aa 1) (ah 0)) (ak (dS (b8 false)) (aH)) (aH)) (aH))) (aH)) (aH))) (aH))
theorem CL{t:dy}{ch:Nat}:fu .Eq (aF t) (.str ⟨#[ch]⟩)=some (decide (t=[ch])):=by
 show some (decide (bg t=⟨#[ch]⟩))=_
 congr 1
 apply decide_eq_decide.mpr
 constructor
 ·intro h
  have:=congrArg (λx:Str=>x.cps.toList) h
  simpa using this
 ·rintro rfl;rfl
theorem sD{i:Nat}{a b:Int}(h0:Γ[i]?=some (.val (.int a)))(h:p Γ c=some (.int b,c1)):gj i .Add p Γ c=some (.next,aT i (.int (a+b)) Γ,c1):=qu h0 h rfl
theorem sE{i:Nat}{a b:Int}(h0:Γ[i]?=some (.val (.int a)))(h:p Γ c=some (.int b,c1)):gj i .Sub p Γ c=some (.next,aT i (.int (a - b)) Γ,c1):=qu h0 h rfl
theorem ey{f:PS}:ak f aH Γ c=f Γ c:=by
 unfold ak
 cases f Γ c with
 | none=>rfl
 | some x=>
  obtain⟨fl,Γ1,c1⟩:=x
  cases fl<;>rfl
theorem iU{w0:Slot}:∀(ts:List dy) (n p:Nat) (w2 w3:Slot),
  (dG n ts=false∧∃Γ',bH (.t [2,3]) uG (dH p ts) [w0,.val (.int (n:Int)),w2,w3] c=some (.ret (.bool false),Γ',c))∨
  (∃(m:Nat) (w2' w3':Slot),dG n ts=(m==0)∧bH (.t [2,3]) uG (dH p ts) [w0,.val (.int (n:Int)),w2,w3] c=some (.next,[w0,.val (.int (m:Int)),w2',w3'],c))
 | [],n,p,w2,w3=>.inr ⟨n,w2,w3,rfl,rfl⟩
 | t::ts,n,p,w2,w3=>by
  rw[dH]
  have e0:∀ch:Nat,aE .Eq (aa 3) (a8 ⟨#[ch]⟩) [w0,.val (.int (n:Int)),.val (.int ((p+t.length - 1:Nat):Int)),.val (aF t)] c=some (decide (t=[ch]),c):=λch=>bc (ab (i:=3) rfl) bG CL
  by_cases h40:t=[40]
  ·have hb:dG n (t::ts)=dG (n+1) ts:=by rw[dG,if_pos h40]
   have hs:uG [w0,.val (.int (n:Int)),.val (.int ((p+t.length - 1:Nat):Int)),.val (aF t)] c=some (.next,[w0,.val (.int ((n+1:Nat):Int)),.val (.int ((p+t.length - 1:Nat):Int)),.val (aF t)],c):=
    bD ((eB ((e0 40).trans (by rw[decide_eq_true h40]))).trans (bD (sD rfl (ay (i:=((1:Nat):Int)))) rfl)) rfl
   rcases iU ts (n+1) (p+t.length) (.val (.int ((p+t.length - 1:Nat):Int))) (.val (aF t))with⟨h1,Γ',h2⟩|⟨m,w2',w3',h1,h2⟩
   ·exact .inl ⟨hb.trans h1,Γ',bU rfl hs h2⟩
   ·exact .inr ⟨m,w2',w3',hb.trans h1,bU rfl hs h2⟩
  ·by_cases h41:t=[41]
   ·have hsub:∀r,ak (gj 1 .Sub (ah 1)) (ak (qIf (aE .Lt (aa 1) (ah 0)) (ak (dS (b8 false)) (aH)) (aH)) (aH)) [w0,.val (.int (n:Int)),.val (.int ((p+t.length - 1:Nat):Int)),.val (aF t)] c=r→uG [w0,.val (.int (n:Int)),.val (.int ((p+t.length - 1:Nat):Int)),.val (aF t)] c=r:=by
     intro r hr
     refine ey.trans ((d5 ((e0 40).trans (by rw[decide_eq_false h40]))).trans (ey.trans ((eB ((e0 41).trans (by rw[decide_eq_true h41]))).trans hr)))
    have hlt:∀m:Int,aE .Lt (aa 1) (ah 0) [w0,.val (.int m),.val (.int ((p+t.length - 1:Nat):Int)),.val (aF t)] c=some (decide (m<0),c):=λm=>bc (ab (i:=1) rfl) ay zw
    cases n with
    | zero=>
     have hb:dG 0 (t::ts)=false:=by rw[dG,if_neg h40,if_pos h41,if_pos rfl]
     refine .inl ⟨hb,_,wW rfl (hsub _ (aO (sE rfl (ay (i:=1))) (cx ((eB ((hlt _).trans (by rfl))).trans (cx (d6 cj))))))⟩
    | succ m=>
     have hb:dG (m+1) (t::ts)=dG m ts:=by rw[dG,if_neg h40,if_pos h41,if_neg (Nat.succ_ne_zero m)];rfl
     have hs:uG [w0,.val (.int ((m+1:Nat):Int)),.val (.int ((p+t.length - 1:Nat):Int)),.val (aF t)] c=some (.next,[w0,.val (.int (m:Int)),.val (.int ((p+t.length - 1:Nat):Int)),.val (aF t)],c):=by
      have e:((m+1:Nat):Int) - 1=(m:Int):=by(first|lia|omega)
      have h1:gj 1 .Sub (ah 1) [w0,.val (.int ((m+1:Nat):Int)),.val (.int ((p+t.length - 1:Nat):Int)),.val (aF t)] c=some (.next,[w0,.val (.int (m:Int)),.val (.int ((p+t.length - 1:Nat):Int)),.val (aF t)],c):=by
       refine(sE rfl (ay (i:=1))).trans ?_
       rw[e];rfl
      exact hsub _ (aO h1 (bD ((d5 (g:=aH) ((hlt _).trans (by rw[decide_eq_false (by(first|lia|omega))]))).trans rfl) rfl))
     rcases iU ts m (p+t.length) (.val (.int ((p+t.length - 1:Nat):Int))) (.val (aF t))with⟨h1,Γ',h2⟩|⟨m',w2',w3',h1,h2⟩
     ·exact .inl ⟨hb.trans h1,Γ',bU rfl hs h2⟩
     ·exact .inr ⟨m',w2',w3',hb.trans h1,bU rfl hs h2⟩
   ·have hb:dG n (t::ts)=dG n ts:=by rw[dG,if_neg h40,if_neg h41]
    have hs:uG [w0,.val (.int (n:Int)),.val (.int ((p+t.length - 1:Nat):Int)),.val (aF t)] c=some (.next,[w0,.val (.int (n:Int)),.val (.int ((p+t.length - 1:Nat):Int)),.val (aF t)],c):=
     bD ((d5 ((e0 40).trans (by rw[decide_eq_false h40]))).trans (bD ((d5 (g:=aH) ((e0 41).trans (by rw[decide_eq_false h41]))).trans rfl) rfl)) rfl
    rcases iU ts n (p+t.length) (.val (.int ((p+t.length - 1:Nat):Int))) (.val (aF t))with⟨h1,Γ',h2⟩|⟨m,w2',w3',h1,h2⟩
    ·exact .inl ⟨hb.trans h1,Γ',bU rfl hs h2⟩
    ·exact .inr ⟨m,w2',w3',hb.trans h1,bU rfl hs h2⟩
theorem lS{ts:List dy}(ht:∀t∈ts,fB t)(hX:ts.flatten.length≤1000):jG [aF ts.flatten]=some (.bool (dG 0 (uT ts false [] []))):=by
 have hu:∀t∈uT ts false [] [],fB t:=nV ts false [] [] ht (by intro t h;cases h) (by intro t h;cases h)
 generalize hU:uT ts false [] []=us at hu
 have h1:bf 0 (aJ lu (aG (aa 0) (aX))) [.val (aF ts.flatten),.un,.un,.un] []=some (.next,[.val (aF us.flatten),.un,.un,.un],[]):=by
  rw[←hU];exact bq (cO (ab rfl) (qN ht hX))
 rcases iU (w0:=.val (aF us.flatten)) (c:=[]) us 0 0 .un .un with⟨h2,Γ',h3⟩|⟨m,w2',w3',h2,h3⟩
 ·rw[h2]
  exact cu rfl (aO h1 (aO (bq (ay (i:=0))) (cx (r0 (ds:=dH 0 us) (c1:=[]) ((oB (ab (i:=0) rfl)).trans (by rw[fY hu])) h3))))
 ·refine cu (c':=[]) rfl (aO h1 (aO (bq (ay (i:=0))) (aO (iG (ds:=dH 0 us) (c1:=[]) ((oB (ab (i:=0) rfl)).trans (by rw[fY hu])) h3 rfl) (cx (d6 ?_)))))
  refine(gb (ab (i:=1) rfl) ay jb).trans ?_
  rw[h2]
  congr 3
  cases m with
  | zero=>rfl
  | succ m=>rw[show (m+1==0)=false from rfl];exact beq_eq_false_iff_ne.mpr (by(first|lia|omega))
noncomputable def gh:Nat→List dy
 | 1=>[[92,40]]
 | 2=>[[34],[41],[34]]
 | 3=>[[92,92]]
 | 4=>[[34],[92,34],[41],[34]]
 | 5=>[[97],[92,34]]
 | 6=>[[34],[34]]
 | _=>[]
noncomputable def dK:Nat→List dy
 | 1=>[[92,40]]
 | 3=>[[92,92]]
 | 5=>[[97],[92,34]]
 | _=>[]
theorem kX:∀i:Nat,(gh i).flatten=dg i
 | 0=>rfl
 | 1=>rfl
 | 2=>rfl
 | 3=>rfl
 | 4=>rfl
 | 5=>rfl
 | 6=>rfl
 | _+7=>rfl
theorem nN(i:Nat):∀t∈gh i,fB t:=by
 unfold gh
 split<;>intro t h<;>simp only[List.mem_cons,List.not_mem_nil,or_false]at h
 ·subst h;rfl
 ·rcases h with rfl|rfl|rfl<;>(show _≠_;decide)
 ·subst h;rfl
 ·rcases h with rfl|rfl|rfl|rfl
  ·show _≠_;decide
  ·rfl
  ·show _≠_;decide
  ·show _≠_;decide
 ·rcases h with rfl|rfl
  ·show _≠_;decide
  ·rfl
 ·rcases h with rfl|rfl<;>(show _≠_;decide)
theorem qP(i:Nat)(ts U:List dy):uT (gh i++ts) false U []=uT ts false (U++dK i) []:=by
 unfold gh dK
 split
 ·simp[uT]
 ·simp[uT]
 ·simp[uT]
 ·simp[uT]
 ·simp[uT]
 ·simp[uT]
 ·rename_i h1 h2 h3 h4 h5 h6
  split
  ·exact absurd rfl h1
  ·exact absurd rfl h3
  ·exact absurd rfl h5
  ·simp
theorem jn(i n:Nat)(ts:List dy):dG n (dK i++ts)=dG n ts:=by
 unfold dK
 split<;>simp[dG]
noncomputable def jB(q:Nat×Nat):List dy:=gh q.1++[[q.2]]
noncomputable def dD(q:Nat×Nat):List dy:=dK q.1++[[q.2]]
noncomputable def cU(s:Nat):Prop:=s≠34∧s≠92
theorem wd(q:Nat×Nat):(jB q).flatten=txt q:=by unfold jB txt;rw[List.flatten_append,kX];rfl
theorem dP(l:List (Nat×Nat)):(l.flatMap jB).flatten=(l.map txt).flatten:=by
 induction l with
 | nil=>rfl
 | cons q l ih=>rw[List.flatMap_cons,List.flatten_append,wd,ih,List.map_cons,List.flatten_cons]
theorem A8{q:Nat×Nat}(h:cU q.2):∀t∈jB q,fB t:=by
 intro t ht
 rcases List.mem_append.mp ht with ht|ht
 ·exact nN _ t ht
 ·rw[List.mem_singleton.mp ht];exact h.2
theorem iO{l:List (Nat×Nat)}(h:∀q∈l,cU q.2):∀t∈l.flatMap jB,fB t:=by
 intro t ht
 obtain⟨q,hq,h2⟩:=List.mem_flatMap.mp ht
 exact A8 (h q hq) t h2
theorem iQ:∀(l:List (Nat×Nat)) (ts U:List dy),(∀q∈l,cU q.2)→uT (l.flatMap jB++ts) false U []=uT ts false (U++l.flatMap dD) []
 | [],ts,U,_=>by simp
 | q::l,ts,U,h=>by
  have hq:[q.2]≠[34]:=by
   have:=(h q (.head _)).1
   simpa using this
  rw[List.flatMap_cons,List.flatMap_cons]
  show uT ((gh q.1++[[q.2]]++l.flatMap jB)++ts) false U []=_
  rw[List.append_assoc,List.append_assoc,qP]
  show uT ([q.2]::(l.flatMap jB++ts)) false _ []=_
  rw[uT,if_neg hq,iQ l ts _ λx hx=>h x (.tail _ hx)]
  unfold dD
  simp only[List.append_assoc]
noncomputable def eu:Nat→List Nat→Bool
 | n,[]=>n==0
 | n,s::ss=>if s=40 then eu (n+1) ss else if s=41 then(if n=0 then false else eu (n - 1) ss)else eu n ss
theorem kb:∀(l:List (Nat×Nat)) (n:Nat),dG n (l.flatMap dD)=eu n (l.map (·.2))
 | [],n=>rfl
 | q::l,n=>by
  rw[List.flatMap_cons,List.map_cons]
  show dG n (dK q.1++[[q.2]]++l.flatMap dD)=_
  rw[List.append_assoc,jn]
  show dG n ([q.2]::l.flatMap dD)=_
  rw[dG,eu]
  have e:∀ch:Nat,([q.2]=[ch])=(q.2=ch):=λch=>by simp
  simp only[e]
  cases n with
  | zero=>simp only[kb l]
  | succ m=>simp only[kb l]
theorem pO{l:List (Nat×Nat)}(h:∀q∈l,cU q.2)(hl:l.length≤100):jG [aF (l.map txt).flatten]=some (.bool (eu 0 (l.map (·.2)))):=by
 have:=lS (iO h) (by rw[dP];have:=fh l;(first|lia|omega))
 rw[dP]at this
 rw[this]
 have e:=iQ l [] [] h
 rw[List.append_nil]at e
 rw[e,List.nil_append]
 show some (D.bool (dG 0 (uT [] false _ [])))=_
 rw[show uT [] false (l.flatMap dD) []=l.flatMap dD from rfl,kb]
end
end Mine
namespace Mine
section
variable{Γ:List Slot}{c c1 c2 c3:List Cell}{p q r:PE}{ps:PL}{d a b:D}{ds:List D}{α:Type}
noncomputable def GoodK(n:Nat)(d:D):Prop:=∃p,d.toPy=some p∧p.canLay0=true∧p.depth≤n
theorem GoodK.good{n:Nat}(h:GoodK n d)(hn:n≤64):Good d:=by
 obtain⟨p,e,h1,h2⟩:=h
 exact⟨p,e,by unfold SeqAt.shaped;rw[h1,decide_eq_true (Nat.le_trans h2 hn)];rfl⟩
theorem GoodK.le{n m:Nat}(h:GoodK n d)(k:n≤m):GoodK m d:=by
 obtain⟨p,e,h1,h2⟩:=h
 exact⟨p,e,h1,Nat.le_trans h2 k⟩
theorem jf{i:Int}:GoodK 0 (.int i):=⟨_,rfl,by simp[PyData.canLay0],by simp[PyData.depth]⟩
theorem g_bool{x:Bool}:GoodK 0 (.bool x):=⟨_,rfl,by simp[PyData.canLay0],by simp[PyData.depth]⟩
theorem p0{l:List Nat}(h:∀ch∈l,ch<0x110000):GoodK 0 (aF l):=by
 have:PyData.strOk (bg l)=true:=by
  unfold PyData.strOk
  simpa using h
 exact⟨.str (bg l),by simp only[D.toPy];rw[if_pos this],by simp only[PyData.canLay0,this],by simp[PyData.depth]⟩
theorem xv{n:Nat}:∀{ds:List D},(∀d∈ds,GoodK n d)→∃ps,di ds=some ps∧PyData.canLayAll0 ps=true∧PyData.depthAll ps≤n
 | [],_=>⟨[],rfl,by simp[PyData.canLayAll0],by simp[PyData.depthAll]⟩
 | d::ds,h=>by
  obtain⟨p,e,h1,h2⟩:=h d (.head _)
  obtain⟨ps,e',h3,h4⟩:=xv λx hx=>h x (.tail _ hx)
  refine⟨p::ps,by simp only[di,e,e'],by simp only[PyData.canLayAll0,h1,h3,Bool.and_self],?_⟩
  simp only[PyData.depthAll]
  exact Nat.max_le.mpr ⟨h2,h4⟩
theorem jR{n:Nat}(h:∀d∈ds,GoodK n d):GoodK (n+1) (.lst ds):=by
 obtain⟨ps,e,h1,h2⟩:=xv h
 exact⟨.list ps,by simp only[D.toPy,e,Option.map_some],by simp only[PyData.canLay0,h1],by simp only[PyData.depth];(first|lia|omega)⟩
theorem Bt{n:Nat}(h:∀d∈ds,GoodK n d):GoodK (n+1) (.tup ds):=by
 obtain⟨ps,e,h1,h2⟩:=xv h
 exact⟨.tuple ps,by simp only[D.toPy,e,Option.map_some],by simp only[PyData.canLay0,h1],by simp only[PyData.depth];(first|lia|omega)⟩
theorem l5(l:List Nat):GoodK 1 (av l):=jR λd hd=>by obtain⟨k,_,rfl⟩:=List.mem_map.mp hd;exact jf
theorem oJ{n:Nat}(ha:GoodK n a)(hb:GoodK n b):GoodK (n+1) (.tup [a,b]):=Bt λd hd=>by
 simp only[List.mem_cons,List.not_mem_nil,or_false]at hd
 rcases hd with rfl|rfl
 ·exact ha
 ·exact hb
noncomputable def fI(ds:List D):Prop:=∀e∈ds,∃x,e=.tup [x,x]∧GoodK 20 x
theorem sC:fI []:=λe h=>by cases h
theorem en{es:List D}(h:fI ds)(k:fI es):fI (ds++es):=λe he=>(List.mem_append.mp he).elim (h e) (k e)
theorem gJ{x:D}{n:Nat}(h:GoodK n x)(hn:n≤20):fI [.tup [x,x]]:=λe he=>⟨x,List.mem_singleton.mp he,h.le hn⟩
theorem kZ{k:Nat}{x:D}(h0:Γ[15]?=some (.ref k))(hk:c[k]?=some (.lst ds))(h:p Γ c=some (.tup [x,x],c))(hl:ds.length≤99999):dM 15 p Γ c=some (.next,Γ,c.set k (.lst (ds++[.tup [x,x]]))):=jk h0 ⟨_,hk⟩ h hk hl
theorem ck{p1 p2:PE}(h1:p1 Γ c=some (a,c1))(h2:p2 Γ c1=some (b,c2)):de (ag p1 (ag p2 aw)) Γ c=some (.tup [a,b],c2):=jt (au h1 (au h2 aB)) (Nat.le_of_ble_eq_true rfl)
theorem iJ{tg:Tg}{t:PB}{g:PC}{Γ1 Γ2 Γ3:List Slot}{new more:List D}(h0:dU tg d Γ=some Γ1)(h1:t Γ1 c=some (true,c1))(h2:g Γ1 c1=some (new,Γ2,c2))(h3:bN tg t g ds Γ2 c2=some (more,Γ3,c3)) :
  bN tg t g (d::ds) Γ c=some (new++more,Γ3,c3):=by
 rw[bN,h0];simp only[Option.bind_some];rw[h1];simp only[Option.bind_some,if_true];rw[h2];simp only[Option.bind_some];rw[h3];rfl
theorem ox{js:List (Option Nat)}{src:PL}{tg:Tg}{t:PB}{g:PC}{Γ':List Slot}{out:List D}(hsrc:src Γ c=some (ds,c1))(hrun:bN tg t g ds (bS js Γ) c1=some (out,Γ',c2))(hl:out.length≤100000):aY js src tg t g Γ c=some (.lst out,c2):=by
 unfold aY;rw[hsrc];simp only[Option.bind_some];rw[hrun];simp only[Option.bind_some];rw[if_pos hl]
noncomputable abbrev bY:D:=.lst [.bool true,.bool false,.bool true,.bool true,.bool false,.bool false,.bool false,.bool true,.bool false]
theorem vC{n:Nat}{w1:Slot}:bN (.n 1) cn (aS (aa 1)) [.bool (decide (n<256)),.bool (decide (256≤n)),.bool (decide (n=0))] [.val (.int (n:Int)),w1] c=some ([.bool (decide (n<256)),.bool (decide (256≤n)),.bool (decide (n=0))],[.val (.int (n:Int)),.val (.bool (decide (n=0)))],c):=rfl
theorem l6{n:Nat}{w1:Slot}:gf (.n 1) (cE (aM (ag (aJ m9 (aG (aa 0) (aX))) (ag (aJ m8 (aG (aa 0) (aX))) (ag (aJ m7 (aG (aa 0) (aX))) (aw)))))) cn (aS (aa 1)) [.val (.int (n:Int)),w1] c=
  some ([.bool (decide (n<256)),.bool (decide (256≤n)),.bool (decide (n=0))],[.val (.int (n:Int)),.val (.bool (decide (n=0)))],c):=by
 have h:=b7 (aZ (au (cO (Γ:=[.val (.int (n:Int)),w1]) (c:=c) (ab (i:=0) rfl) (xJ n)) (au (cO (ab (i:=0) rfl) (xH n)) (au (cO (ab (i:=0) rfl) (xF n)) aB))) (Nat.le_of_ble_eq_true rfl))
 unfold gf
 rw[h]
 exact vC
theorem xU:sY Γ c=some (.next,aT 16 bY Γ,c):=by
 refine bq ?_
 have hsrc:=b7 (aZ (au (ay (Γ:=Γ) (c:=c) (i:=((0:Nat):Int))) (au (ay (i:=((255:Nat):Int))) (au (ay (i:=((256:Nat):Int))) aB))) (Nat.le_of_ble_eq_true rfl))
 exact ox hsrc (iJ rfl rfl (l6 (n:=0)) (iJ rfl rfl (l6 (n:=255)) (iJ rfl rfl (l6 (n:=256)) rfl))) (Nat.le_of_ble_eq_true rfl)
theorem xV{k:Nat}(h0:Γ[15]?=some (.ref k))(hk:c[k]?=some (.lst ds))(h16:Γ[16]?=some (.val bY))(hl:ds.length≤99999):∃x,sZ Γ c=some (.next,Γ,c.set k (.lst (ds++[.tup [x,x]])))∧GoodK 20 (x):=by
 refine⟨.lst (List.replicate 9 (.bool true)++[.bool true,.bool false,.bool true,.bool true,.bool false,.bool false,.bool false,.bool true,.bool false]),?_,?_⟩
 ·refine kZ h0 hk ?_ hl
  have e1:=wJ (Γ:=Γ) (c:=c) (js:=[none]) (i:=0) (p:=bp oD (ag (aa 0) (ag (mX (.type "bool")) (aw)))) (λ_=>.bool true) (b7 (ab h16)) (by
   intro d hd
   simp only[List.mem_cons,List.not_mem_nil,or_false]at hd
   have:∃x,d=.bool x:=by rcases hd with rfl|rfl|rfl|rfl|rfl|rfl|rfl|rfl|rfl<;>exact⟨_,rfl⟩
   obtain⟨x,rfl⟩:=this
   exact cy (au (ab (i:=0) rfl) (au rn aB)) (show (if ("bool" : Str)="bool" then some (D.bool true)else none)=_ from if_pos rfl)) (Nat.le_of_ble_eq_true rfl)
  exact ck (aU e1 (ab h16) (dw (Nat.le_of_ble_eq_true rfl))) (aU (aU (aZ (au cj aB) (Nat.le_of_ble_eq_true rfl)) (ay (i:=9)) (yG (by decide))) (aZ (au cj (au cj (au cj (au cj (au cj (au cj (au cj (au cj (au cj aB))))))))) (Nat.le_of_ble_eq_true rfl)) (dw (Nat.le_of_ble_eq_true rfl)))
 ·refine(jR (n:=0) λd hd=>?_).le (by decide)
  simp only[List.mem_append,List.mem_cons,List.not_mem_nil,or_false,List.mem_replicate]at hd
  rcases hd with⟨_,rfl⟩|rfl|rfl|rfl|rfl|rfl|rfl|rfl|rfl|rfl<;>exact g_bool
end
end Mine
namespace Mine
section
variable{Γ:List Slot}{c c1 c2 c3:List Cell}{p q r:PE}{ps:PL}{d a b:D}{ds:List D}{α:Type}
noncomputable def ee:List Nat:=[43,45,47,38,60,62,61,37,126,94,40,41,42,124]
theorem ug{s:Nat}(h:s∈ee):cU s:=by
 have:∀s∈ee,s≠34∧s≠92:=by decide
 exact this s h
noncomputable def bI(q:Nat×Nat):List Nat:=(dD q).flatten
theorem y6{q:Nat×Nat}(h:cU q.2):pIf (aE .Eq (aW (aa 0) (aA) (aQ (ah 1)) (aA)) (a8 ⟨#[34]⟩)) (aW (aa 0) (aQ (g6 (ah 1))) (aA) (aA)) (aa 0) [.val (aF (txt q))] c=some (aF (bI q),c):=by
 have hl:=uu q
 have hlen:1≤(txt q).length:=by unfold txt;simp
 have e1:aE .Eq (aW (aa 0) (aA) (aQ (ah 1)) (aA)) (a8 ⟨#[34]⟩) [.val (aF (txt q))] c=some (decide ((txt q).take 1=[34]),c):=by
  have h1:=bc (op:=.Eq) (cP (ab (Γ:=[.val (aF (txt q))]) (c:=c) (i:=0) rfl) bo (cz (ay (i:=((1:Nat):Int)))) bo (qD (by rw[len_str];(first|lia|omega)))) (bG (x:=⟨#[34]⟩)) CY
  refine h1.trans ?_
  congr 2
  have:=StrLaws.sliceText_to (x:=bg (txt q)) (j:=((1:Nat):Int)) ⟨by(first|lia|omega),by show ((1:Nat):Int)≤((txt q).length:Nat);(first|lia|omega)⟩
  have e:Txt.slice (bg (txt q)) none (some ((1:Nat):Int))=bg ((txt q).take 1):=by refine Eq.trans this ?_;simp
  rw[e]
  apply decide_eq_decide.mpr
  constructor
  ·intro h
   have:=congrArg (λx:Str=>x.cps.toList) h
   simpa using this
  ·intro h;rw[h]
 have e2:aW (aa 0) (aQ (g6 (ah 1))) (aA) (aA) [.val (aF (txt q))] c=some (aF ((txt q).drop ((txt q).length - 1)),c):=by
  refine(cP (ab (i:=0) rfl) (cz (oC (ay (i:=1)))) bo bo (qD (by rw[len_str];(first|lia|omega)))).trans ?_
  have h1:(-1:Int)+((bg (txt q)).length:Int)=(((txt q).length - 1:Nat):Int):=by rw[len_str];(first|lia|omega)
  have:=StrLaws.sliceText_from_neg (x:=bg (txt q)) (i:=-1) (by decide) (by rw[len_str];(first|lia|omega))
  have e:Txt.slice (bg (txt q)) (some (-1)) none=bg ((txt q).drop ((txt q).length - 1)):=by
   refine Eq.trans this ?_
   rw[h1]
   simp
   exact List.take_of_length_le (by rw[List.length_drop];(first|lia|omega))
  show some (D.str (Txt.slice (bg (txt q)) (some (-1)) none),c)=_
  rw[e]
 obtain⟨i,s⟩:=q
 have hs:s≠34:=h.1
 unfold bI dD
 match i with
 | 0=>exact fx (by rw[e1];simp[txt,dg,hs]) (ab rfl)
 | 1=>exact fx (by rw[e1];simp[txt,dg]) (ab rfl)
 | 2=>exact fM (by rw[e1];rfl) e2
 | 3=>exact fx (by rw[e1];simp[txt,dg]) (ab rfl)
 | 4=>exact fM (by rw[e1];rfl) e2
 | 5=>exact fx (by rw[e1];simp[txt,dg]) (ab rfl)
 | 6=>exact fM (by rw[e1];rfl) e2
 | i+7=>exact fx (by rw[e1];simp[txt,dg,hs]) (ab rfl)
theorem xW{l:List (Nat×Nat)}(h:∀q∈l,cU q.2)(hl:l.length≤100)(h6:Γ[6]?=some (.val (.lst ((l.map txt).map aF)))):s8 Γ c=some (.next,aT 17 (.lst ((l.map bI).map aF)) Γ,c):=by
 refine bq ((dn (l:=l) (g:=λq=>aF (txt q)) (λq=>aF (bI q)) (b7 ((ab h6).trans (by rw[List.map_map];rfl))) (λq hq=>y6 (h q hq)) (by(first|lia|omega))).trans ?_)
 rw[List.map_map];rfl
theorem sd(l:List (Nat×Nat)):(l.map bI).flatten=(l.flatMap dD).flatten:=by
 induction l with
 | nil=>rfl
 | cons q l ih=>rw[List.map_cons,List.flatten_cons,ih,List.flatMap_cons,List.flatten_append];rfl
theorem so{l:List (Nat×Nat)}(h:∀q∈l,cU q.2):uT (l.flatMap jB) false [] []=l.flatMap dD:=by
 have e:=iQ l [] [] h
 rw[List.append_nil]at e
 rw[e,List.nil_append];rfl
theorem xX{l:List (Nat×Nat)}(h:∀q∈l,cU q.2)(hl:l.length≤100)(h7:Γ[7]?=some (.val (aF (l.map txt).flatten))):ta Γ c=some (.next,aT 18 (aF (l.flatMap dD).flatten) Γ,c):=by
 refine bq (cO (ab h7) ?_)
 have:=qN (iO h) (by rw[dP];have:=fh l;(first|lia|omega))
 rw[dP,so h]at this
 exact this
theorem uo{l:List (Nat×Nat)}(h:∀q∈l,cU q.2):∀t∈l.flatMap dD,fB t:=by
 have:=nV (l.flatMap jB) false [] [] (iO h) (by intro t h;cases h) (by intro t h;cases h)
 rw[so h]at this
 exact this
noncomputable def eX:Nat→List (Nat×Nat)→List D
 | _,[]=>[]
 | p,q::l=>.tup [.int ((p+(bI q).length - 1:Nat):Int),chD q.2]::eX (p+(bI q).length) l
noncomputable def fc:D→Bool
 | .tup [_,.str x]=>(bP x).isSome
 | _=>false
theorem mr:∀(x y:List dy) (p:Nat),dH p (x++y)=dH p x++dH (p+x.flatten.length) y
 | [],y,p=>by simp[dH]
 | t::x,y,p=>by rw[List.cons_append,dH,dH,mr x y,List.cons_append,List.flatten_cons,List.length_append,Nat.add_assoc]
theorem se{s:Nat}(h:s∈ee):(bP ⟨#[s]⟩).isSome=true:=by
 have:∀s∈ee,(bP ⟨#[s]⟩).isSome=true:=by decide +kernel
 exact this s h
theorem rZ(i p:Nat):(dH p (dK i)).filter fc=[]:=by
 have t1:bP ⟨#[92,40]⟩=none:=by decide +kernel
 have t2:bP ⟨#[92,92]⟩=none:=by decide +kernel
 have t3:bP ⟨#[97]⟩=none:=by decide +kernel
 have t4:bP ⟨#[92,34]⟩=none:=by decide +kernel
 unfold dK
 split
 ·simp[dH,fc,bg,t1]
 ·simp[dH,fc,bg,t2]
 ·simp[dH,fc,bg,t3,t4]
 ·rfl
theorem pT:∀(l:List (Nat×Nat)) (p:Nat),(∀q∈l,q.2∈ee)→(dH p (l.flatMap dD)).filter fc=eX p l
 | [],_,_=>rfl
 | q::l,p,h=>by
  rw[List.flatMap_cons,mr,List.filter_append,pT l _ λx hx=>h x (.tail _ hx)]
  have hs:=se (h q (.head _))
  have e:(dH p (dD q)).filter fc=[.tup [.int ((p+(bI q).length - 1:Nat):Int),chD q.2]]:=by
   unfold dD
   rw[mr,List.filter_append,rZ,List.nil_append]
   have h1:fc (.tup [.int ((p+(dK q.1).flatten.length+1 - 1:Nat):Int),aF [q.2]])=true:=hs
   show (dH _ [[q.2]]).filter fc=_
   rw[dH,dH]
   show List.filter fc [.tup [.int ((p+(dK q.1).flatten.length+1 - 1:Nat):Int),aF [q.2]]]=_
   rw[List.filter_cons,if_pos h1,List.filter_nil]
   have e2:(bI q).length=(dK q.1).flatten.length+1:=by unfold bI dD;rw[List.flatten_append,List.length_append];rfl
   rw[e2,Nat.add_assoc]
  rw[e];rfl
theorem xY{l:List (Nat×Nat)}(h:∀q∈l,q.2∈ee)(hl:l.length≤100)(h18:Γ[18]?=some (.val (aF (l.flatMap dD).flatten))):tb Γ c=some (.next,aT 19 (.lst (eX 0 l)) Γ,c):=by
 refine bq ?_
 have hs:∀q∈l,cU q.2:=λq hq=>ug (h q hq)
 have hsrc:ql (aa 18) Γ c=some (dH 0 (l.flatMap dD),c):=(oB (ab h18)).trans (by rw[fY (uo hs)])
 have hmem:∀d∈dH 0 (l.flatMap dD),∃(i:Int) (x:Str),d=.tup [.int i,.str x]:=by
  have:∀(ts:List dy) (p:Nat),∀d∈dH p ts,∃(i:Int) (x:Str),d=.tup [.int i,.str x]:=by
   intro ts
   induction ts with
   | nil=>intro p d hd;cases hd
   | cons t ts ih=>
    intro p d hd
    rw[dH]at hd
    rcases List.mem_cons.mp hd with rfl|hd
    ·exact⟨_,_,rfl⟩
    ·exact ih _ d hd
  exact this _ 0
 have hlen:(dH 0 (l.flatMap dD)).length≤100000:=by
  have h1:∀(ts:List dy) (p:Nat),(dH p ts).length=ts.length:=by
   intro ts
   induction ts with
   | nil=>intro p;rfl
   | cons t ts ih=>intro p;rw[dH,List.length_cons,ih,List.length_cons]
  rw[h1]
  have h2:=toks_le _ (uo hs)
  have h3:=kM (l.flatMap jB) false [] [] (λ_=>rfl)
  rw[so hs,dP,List.flatten_nil,List.length_nil]at h3
  have:=fh l
  (first|lia|omega)
 have:=ik (Γ:=Γ) (c:=c) (js:=[none]) (i:=0) (t:=kx bP (ba (aa 0) (ah 1))) (p:=aa 0) (ds:=dH 0 (l.flatMap dD)) (c1:=c) fc (λd=>d) hsrc (by
  intro d hd
  obtain⟨i,x,rfl⟩:=hmem d hd
  exact wU (fv (ab (i:=0) rfl) (ay (i:=1)) (kO (by decide) rfl))) (λd _ _=>ab rfl) hlen
 rw[pT l 0 h,List.map_id']at this
 exact this
end
end Mine
namespace Mine
section
variable{Γ:List Slot}{c c1 c2 c3:List Cell}{p q r:PE}{ps:PL}{d a b:D}{ds:List D}{α:Type}
theorem ny:∀(l:List (Nat×Nat)) (p:Nat),eX p l=(List.range l.length).map λk=>D.tup [.int ((p+((l.take (k+1)).map bI).flatten.length - 1:Nat):Int),chD (l.getD k (0,0)).2]
 | [],_=>rfl
 | q::l,p=>by
  rw[eX,ny l,List.length_cons,List.range_succ_eq_map,List.map_cons,List.map_map]
  congr 1
  ·simp
  ·apply List.map_congr_left
   intro k _
   show D.tup [.int ((p+(bI q).length+((l.take (k+1)).map bI).flatten.length - 1:Nat):Int),chD (l.getD k (0,0)).2]=D.tup [.int ((p+(((q::l).take (k+1+1)).map bI).flatten.length - 1:Nat):Int),chD ((q::l).getD (k+1) (0,0)).2]
   rw[List.take_succ_cons,List.map_cons,List.flatten_cons,List.length_append,Nat.add_assoc];rfl
theorem nQ(l:List (Nat×Nat)):(l.map bI).flatten.length≤6*l.length:=by
 induction l with
 | nil=>exact Nat.zero_le _
 | cons q l ih=>
  have:(bI q).length≤6:=by
   unfold bI dD dK
   split<;>simp
  rw[List.map_cons,List.flatten_cons,List.length_append,List.length_cons];(first|lia|omega)
theorem vY(q:Nat×Nat):1≤(bI q).length:=by unfold bI dD;rw[List.flatten_append,List.length_append];simp
theorem qH{l:List (Nat×Nat)}(h:∀q∈l,q.2∈ee):∀ch∈(l.flatMap dD).flatten,ch<0x110000:=by
 intro ch hc
 obtain⟨t,ht,hc⟩:=List.mem_flatten.mp hc
 obtain⟨q,hq,ht⟩:=List.mem_flatMap.mp ht
 have hs:∀s∈ee,s<0x110000:=by decide
 unfold dD at ht
 rcases List.mem_append.mp ht with ht|ht
 ·have hp:∀t∈dK q.1,∀ch∈t,ch<0x110000:=by
   unfold dK
   split<;>decide
  exact hp t ht ch hc
 ·rw[List.mem_singleton.mp ht]at hc
  rw[List.mem_singleton.mp hc]
  exact hs _ (h q hq)
theorem rq{l:List (Nat×Nat)}(h:∀q∈l,q.2∈ee):∀p,∀d∈eX p l,GoodK 1 d:=by
 have hs:∀s∈ee,s<0x110000:=by decide
 induction l with
 | nil=>intro p d hd;cases hd
 | cons q l ih=>
  intro p d hd
  rw[eX]at hd
  rcases List.mem_cons.mp hd with rfl|hd
  ·exact oJ jf (p0 (by intro ch hc;rw[List.mem_singleton.mp hc];exact hs _ (h q (.head _))))
  ·exact ih (λx hx=>h x (.tail _ hx)) _ d hd
theorem xZ{k:Nat}{l:List (Nat×Nat)}(h:∀q∈l,q.2∈ee)(hl:l.length≤100)(h0:Γ[15]?=some (.ref k))(hk:c[k]?=some (.lst ds))(hd:ds.length≤99999)
  (h4:Γ[4]?=some (.val (sgD (l.map (·.2))))) (h17:Γ[17]?=some (.val (.lst ((l.map bI).map aF)))) (h18:Γ[18]?=some (.val (aF (l.flatMap dD).flatten))) (h19:Γ[19]?=some (.val (.lst (eX 0 l)))) :
  ∃x,td Γ c=some (.next,Γ,c.set k (.lst (ds++[.tup [x,x]])))∧GoodK 20 x:=by
 refine⟨.tup [aF (l.flatMap dD).flatten,.lst (eX 0 l)],kZ h0 hk (ck (ck (ab h18) (ab h19)) (ck (c1:=c) ?_ ?_)) hd,?_⟩
 ·have:=jS (ab (c:=c) h17) (by have:=nQ l;(first|lia|omega))
  rw[sd]at this
  exact this
 ·have hc:bS [none,none,some 17] Γ=[.un,.un,.val (.lst ((l.map bI).map aF))]:=by simp[bS,h17]
  have hen:eT ((l.map (·.2)).map chD)=(List.range l.length).map λk=>(D.int (k:Nat),chD ((l.map (·.2)).getD k default)):=by
   have:=eV (l.map (·.2)) chD
   rw[List.length_map]at this
   exact this
  have e1:=kf (Γ:=Γ) (c:=c) (js:=[none,none,some 17]) (i:=0) (j:=1) (p:=de (ag (ao .Sub (bp d9 (ag (bR "str" cZ (a8 ⟨#[]⟩) (ag (aW (aa 2) (aA) (aQ (ao .Add (aa 0) (ah 1))) (aA)) (aw))) (aw))) (ah 1)) (ag (aa 1) (aw))))
   (l:=eT ((l.map (·.2)).map chD)) (c1:=c) (λq=>match q.1 with|.int k=>.tup [.int ((((l.take (k.toNat+1)).map bI).flatten.length - 1:Nat):Int),q.2]|_=>.none) (by decide) (eQ (ab h4)) ?_ (by rw[hen,List.length_map,List.length_range];(first|lia|omega))
  ·refine e1.trans ?_
   rw[hen,ny,List.map_map]
   congr 3
   apply List.map_congr_left
   intro k hk
   have hk':=List.mem_range.mp hk
   show D.tup [.int ((((l.take (((k:Int)).toNat+1)).map bI).flatten.length - 1:Nat):Int),chD ((l.map (·.2)).getD k default)]=D.tup [.int ((0+((l.take (k+1)).map bI).flatten.length - 1:Nat):Int),chD (l.getD k (0,0)).2]
   rw[Int.toNat_natCast,Nat.zero_add]
   congr 4
   simp[List.getD,hk']
  ·intro q hq
   rw[hen]at hq
   obtain⟨k,hk,rfl⟩:=List.mem_map.mp hq
   have hk':=List.mem_range.mp hk
   rw[hc]
   show de _ [.val (.int (k:Int)),.val (chD ((l.map (·.2)).getD k default)),.val (.lst ((l.map bI).map aF))] c=some (.tup [.int ((((l.take (((k:Int)).toNat+1)).map bI).flatten.length - 1:Nat):Int),chD ((l.map (·.2)).getD k default)],c)
   rw[Int.toNat_natCast]
   have hsl:aW (aa 2) (aA) (aQ (ao .Add (aa 0) (ah 1))) (aA) [.val (.int (k:Int)),.val (chD ((l.map (·.2)).getD k default)),.val (.lst ((l.map bI).map aF))] c=some (.lst (((l.take (k+1)).map bI).map aF),c):=by
    refine(cP (ab (i:=2) rfl) bo (cz (dA (ab (i:=0) rfl) (ay (i:=((1:Nat):Int))))) bo (jA (by rw[List.length_map,List.length_map];(first|lia|omega)))).trans ?_
    rw[iN _ (by rw[List.length_map,List.length_map];(first|lia|omega)),←List.map_take,←List.map_take]
   have htl:(l.take (k+1)).length≤100:=by rw[List.length_take];(first|lia|omega)
   have hsh:=nQ (l.take (k+1))
   have hpos:1≤((l.take (k+1)).map bI).flatten.length:=by
    have:0<l.length:=by(first|lia|omega)
    match l,this with
    | q0::l',_=>
     have:=vY q0
     rw[List.take_succ_cons,List.map_cons,List.flatten_cons,List.length_append];(first|lia|omega)
   refine ck ((aU (op:=.Sub) (cy (au (jS hsl (by(first|lia|omega))) aB) (if_pos (by rw[len_str];(first|lia|omega)))) (ay (i:=1)) ji).trans ?_) (ab (i:=1) rfl)
   rw[len_str]
   congr 3
   (first|lia|omega)
 ·exact(oJ (n:=2) ((p0 (qH h)).le (by decide)) (jR (n:=1) (rq h 0))).le (by decide)
theorem x9{l:List (Nat×Nat)}(hl:l.length≤100)(h19:Γ[19]?=some (.val (.lst (eX 0 l)))):tm Γ c=some (.next,aT 20 (sgD (l.map (·.2))) Γ,c):=by
 refine bq ?_
 have e:∀(l:List (Nat×Nat)) (p:Nat),∃ks:List (D×D),eX p l=ks.map (λq=>D.tup [q.1,q.2])∧ks.map (·.2)=(l.map (·.2)).map chD∧ks.length=l.length:=by
  intro l
  induction l with
  | nil=>intro p;exact⟨[],rfl,rfl,rfl⟩
  | cons q l ih=>
   intro p
   obtain⟨ks,h1,h2,h3⟩:=ih (p+(bI q).length)
   exact⟨(.int ((p+(bI q).length - 1:Nat):Int),chD q.2)::ks,by rw[eX,h1];rfl,by rw[List.map_cons,h2];rfl,by rw[List.length_cons,h3];rfl⟩
 obtain⟨ks,h1,h2,h3⟩:=e l 0
 have e1:=kf (Γ:=Γ) (c:=c) (js:=[none,none]) (i:=0) (j:=1) (p:=aa 1) (l:=ks) (c1:=c) (λq=>q.2) (by decide) (b7 ((ab h19).trans (by rw[h1]))) (λq _=>ab rfl) (by(first|lia|omega))
 refine e1.trans ?_
 rw[h2]
noncomputable def jH(L:List Nat):Prop:=∀i,L.getD i 0≠40∧L.getD i 0≠41
theorem i8(s:Nat):bF s≠40∧bF s≠41:=by unfold bF;split<;>decide
theorem gp{L:List Nat}(hL:jH L):∀(t:SP) (n:Nat) (rest:List Nat),eu n (code L t++rest)=eu n rest
 | .leaf i,n,rest=>by
  show eu n (L.getD i 0::rest)=_
  rw[eu,if_neg (hL i).1,if_neg (hL i).2]
 | .node s l r,n,rest=>by
  show eu n ([40]++code L l++[bF s]++code L r++[41]++rest)=_
  simp only[List.append_assoc]
  show eu n (40::(code L l++(bF s::(code L r++(41::rest)))))=_
  rw[eu,if_pos rfl,gp hL l,eu,if_neg (i8 s).1,if_neg (i8 s).2,gp hL r,eu,if_neg (by decide),if_pos rfl,if_neg (Nat.succ_ne_zero n)]
  rfl
theorem ke{L:List Nat}{s:Nat}{l r:SP}:code L (.node s l r)=(40::(code L l++(bF s::code L r)))++[41]:=by
 show [40]++code L l++[bF s]++code L r++[41]=_
 simp
theorem zp{L:List Nat}(hL:jH L){s:Nat}{l r:SP}:eu 0 (40::(code L l++(bF s::code L r)))=false:=by
 rw[eu,if_pos rfl,gp hL l,eu,if_neg (i8 s).1,if_neg (i8 s).2]
 have:=gp hL r 1 []
 rw[List.append_nil]at this
 rw[this];rfl
theorem ig:∀(l:List (Nat×Nat)) (n:Nat) (ts:List dy),dG n (l.flatMap dD++ts)=dG n (l.map (λq=>[q.2])++ts)
 | [],n,ts=>rfl
 | q::l,n,ts=>by
  rw[List.flatMap_cons,List.map_cons]
  show dG n (dK q.1++[[q.2]]++l.flatMap dD++ts)=_
  rw[List.append_assoc,List.append_assoc,jn]
  show dG n ([q.2]::(l.flatMap dD++ts))=dG n ([q.2]::(l.map (λq=>[q.2])++ts))
  rw[dG,dG,ig l,ig l,ig l]
theorem jJ:∀(ss:List Nat) (n:Nat),dG n (ss.map λs=>[s])=eu n ss
 | [],n=>rfl
 | s::ss,n=>by
  rw[List.map_cons,dG,eu,jJ ss,jJ ss,jJ ss]
  have e:∀ch:Nat,([s]=[ch])=(s=ch):=λch=>by simp
  simp only[e]
theorem lz:∀(ss:List Nat) (n i:Nat),dG n ((ss.map λs=>[s])++dK i)=eu n ss
 | [],n,i=>by
  have:=jn i n []
  rw[List.append_nil]at this
  exact this
 | s::ss,n,i=>by
  rw[List.map_cons,List.cons_append,dG,eu,lz ss,lz ss,lz ss]
  have e:∀ch:Nat,([s]=[ch])=(s=ch):=λch=>by simp
  simp only[e]
end
end Mine
namespace Mine
section
variable{Γ:List Slot}{c c1 c2 c3:List Cell}{p q r:PE}{ps:PL}{d a b:D}{ds:List D}{α:Type}
theorem zQ{x:Str}(h:p Γ c=some (.str x,c1))(ha:x.cps.all (·<128)=true):nL p Γ c=some (x.cps.toList.map λch=>D.str ⟨#[ch]⟩,c1):=by unfold nL;rw[h];simp only[Option.bind_some];rw[if_pos ha]
theorem sf{x:List Nat}(h:1≤x.length):Txt.slice (bg x) none (some (-1))=bg (x.take (x.length - 1)):=by
 have:=StrLaws.sliceText_to_neg (x:=bg x) (j:=-1) (by decide) (by rw[len_str];(first|lia|omega))
 refine Eq.trans this ?_
 have h1:(-1:Int)+((bg x).length:Int) - 0=((x.length - 1:Nat):Int):=by rw[len_str];(first|lia|omega)
 rw[h1]
 simp
theorem uF{l:List (Nat×Nat)}{i s:Nat}(h:∀q∈l,cU q.2)(hl:l.length≤99):jG [.str (Txt.slice (bg ((l++[(i,s)]).map txt).flatten) none (some (-1)))]=some (.bool (eu 0 (l.map (·.2)))):=by
 have e:((l++[(i,s)]).map txt).flatten=(l.map txt).flatten++dg i++[s]:=by
  rw[List.map_append,List.flatten_append]
  show _++(txt (i,s)++[])=_
  rw[List.append_nil,List.append_assoc];rfl
 rw[e,sf (by rw[List.length_append];exact Nat.le_add_left 1 _)]
 have e2:((l.map txt).flatten++dg i++[s]).take (((l.map txt).flatten++dg i++[s]).length - 1)=(l.map txt).flatten++dg i:=by
  rw[List.length_append]
  exact List.take_left' (by simp)
 rw[e2]
 have e3:(l.map txt).flatten++dg i=(l.flatMap jB++gh i).flatten:=by rw[List.flatten_append,dP,kX]
 rw[e3]
 have hp:=kC i
 have:=lS (ts:=l.flatMap jB++gh i) (λt ht=>(List.mem_append.mp ht).elim (iO h t) (nN i t)) (by rw[←e3,List.length_append];have:=fh l;(first|lia|omega))
 refine this.trans ?_
 rw[iQ l _ _ h]
 have e4:uT (gh i) false ([]++l.flatMap dD) []=l.flatMap dD++dK i:=by
  have:=qP i [] ([]++l.flatMap dD)
  rw[List.append_nil]at this
  rw[this];rfl
 rw[e4,ig]
 have e5:l.map (λq=>[q.2])=(l.map (·.2)).map λs=>[s]:=by rw[List.map_map];rfl
 rw[e5,lz]
theorem q9{l:List (Nat×Nat)}(h:∀q∈l,cU q.2)(hl:l.length≤100):jG [.str (bg (l.map txt).flatten++⟨#[41,34]⟩)]=some (.bool (eu 0 (l.map (·.2)++[41,34]))):=by
 have e3:bg (l.map txt).flatten++⟨#[41,34]⟩=bg (l.flatMap jB++[[41],[34]]).flatten:=by
  rw[List.flatten_append,dP]
  exact jZ (l.map txt).flatten [41,34]
 rw[e3]
 have h2:∀t∈([[41],[34]]:List dy),fB t:=by
  intro t ht
  simp only[List.mem_cons,List.not_mem_nil,or_false]at ht
  rcases ht with rfl|rfl<;>(show _≠_;decide)
 have:=lS (ts:=l.flatMap jB++[[41],[34]]) (λt ht=>(List.mem_append.mp ht).elim (iO h t) (h2 t)) (by rw[List.flatten_append,dP,List.length_append];have:=fh l;show _+2≤_;(first|lia|omega))
 refine this.trans ?_
 rw[iQ l _ _ h]
 have e4:uT [[41],[34]] false ([]++l.flatMap dD) []=l.flatMap dD++[[41],[34]]:=by simp[uT]
 rw[e4,ig]
 have e5:l.map (λq=>[q.2])++[[41],[34]]=(l.map (λq:Nat×Nat=>q.2)++[41,34]).map λs=>[s]:=by rw[List.map_append,List.map_map];rfl
 rw[e5,jJ]
theorem x8{k:Nat}{l:List (Nat×Nat)}{L:List Nat}{s:Nat}{tl tr:SP}(hL:jH L)(h:∀q∈l,cU q.2)(hl:l.length≤99)(hS:l.map (·.2)=code L (.node s tl tr))(h0:Γ[15]?=some (.ref k))(hk:c[k]?=some (.lst ds))(hd:ds.length≤99999)
  (h7:Γ[7]?=some (.val (aF (l.map txt).flatten))):∃x,te Γ c=some (.next,Γ,c.set k (.lst (ds++[.tup [x,x]])))∧GoodK 20 x:=by
 have hfl:=fh l
 refine⟨.lst [.int 7,.int 8,.int 16,.int 18,.bool true,.bool true],kZ h0 hk (ck (c1:=c) ?_ ?_) hd,?_⟩
 ·have e1:aY [none] (nL (a8 ⟨#[40,41,42,124]⟩)) (.n 0) (cn) (aS (mn bP (aa 0))) Γ c=some (.lst [.int 7,.int 8,.int 16,.int 18],c):=by
   have t1:bP ⟨#[40]⟩=some 7:=by decide +kernel
   have t2:bP ⟨#[41]⟩=some 8:=by decide +kernel
   have t3:bP ⟨#[42]⟩=some 16:=by decide +kernel
   have t4:bP ⟨#[124]⟩=some 18:=by decide +kernel
   have hsrc:nL (a8 ⟨#[40,41,42,124]⟩) Γ c=some ([chD 40,chD 41,chD 42,chD 124],c):=zQ bG (by decide +kernel)
   refine(wJ (λd=>match d with|.str x=>.int ((bP x).getD 0)|_=>.none) hsrc ?_ (by decide)).trans ?_
   ·intro d hd
    simp only[List.mem_cons,List.not_mem_nil,or_false]at hd
    rcases hd with rfl|rfl|rfl|rfl
    ·exact(ki (ab rfl) t1).trans (by simp[t1])
    ·exact(ki (ab rfl) t2).trans (by simp[t2])
    ·exact(ki (ab rfl) t3).trans (by simp[t3])
    ·exact(ki (ab rfl) t4).trans (by simp[t4])
   ·simp[t1,t2,t3,t4]
  have hcut:∃(l':List (Nat×Nat)) (i:Nat),l=l'++[(i,41)]∧l'.map (·.2)=40::(code L tl++(bF s::code L tr)):=by
   rw[ke]at hS
   obtain⟨l',z,h1,h2,h3⟩:=List.map_eq_append_iff.mp hS
   obtain⟨q,hq,h4⟩:=List.map_eq_singleton_iff.mp h3
   obtain⟨i,s'⟩:=q
   dsimp only at h4
   subst h4
   exact⟨l',i,by rw[h1,hq],h2⟩
  obtain⟨l',i,el,hm⟩:=hcut
  have e2:gB .Is (aJ dk (aG (aW (aa 7) (aA) (aQ (g6 (ah 1))) (aA)) (aX))) (b8 false) Γ c=some (.bool true,c):=by
   have hb:=uF (i:=i) (s:=41) (l:=l') (λq hq=>h q (by rw[el];exact List.mem_append_left _ hq)) (by rw[el,List.length_append]at hl;simp at hl;(first|lia|omega))
   rw[hm,zp hL,←el]at hb
   exact gb (cO (cP (ab h7) bo (cz (oC (ay (i:=1)))) bo (qD (by rw[len_str];(first|lia|omega)))) hb) cj rfl
  have e3:gB .Is (aJ dk (aG (ao .Add (aa 7) (a8 ⟨#[41,34]⟩)) (aX))) (b8 false) Γ c=some (.bool true,c):=by
   have hb:=q9 h (by(first|lia|omega))
   rw[hS,gp hL]at hb
   exact gb (cO (aU (op:=.Add) (ab h7) bG (yD (by rw[len_str];show _+2≤_;(first|lia|omega)))) hb) cj rfl
  exact aU e1 (aZ (au e2 (au e3 aB)) (Nat.le_of_ble_eq_true rfl)) (dw (Nat.le_of_ble_eq_true rfl))
 ·exact aZ (au ay (au ay (au ay (au ay (au cj (au cj aB)))))) (Nat.le_of_ble_eq_true rfl)
 ·refine(jR (n:=0) λd hd=>?_).le (by decide)
  simp only[List.mem_cons,List.not_mem_nil,or_false]at hd
  rcases hd with rfl|rfl|rfl|rfl|rfl|rfl
  ·exact jf
  ·exact jf
  ·exact jf
  ·exact jf
  ·exact g_bool
  ·exact g_bool
end
end Mine
namespace Mine
noncomputable def aV:SP→Nat
 | .leaf _=>0
 | .node _ l r=>1+aV l+aV r
noncomputable def bare:SP→List Nat
 | .leaf _=>[0]
 | .node _ l r=>[40]++bare l++[0]++bare r++[41]
noncomputable def cls(s:Nat):Nat:=if s=40 then 40 else if s=41 then 41 else 0
noncomputable def dW(S:List Nat):List Nat:=[2]++((List.range (S.length - 1 - 3)).map (·+3)).filter λe=>decide (S.getD (e - 1) 0=41)
noncomputable def cb(S:List Nat)(e:Nat):Bool:=eu 0 ((S.take e).drop 1)
theorem uQ:∀(s:Nat) (l r:SP),aV (.node s l r)≤3→(dW (bare (.node s l r))).find? (cb (bare (.node s l r)))=some ((bare l).length+1)
 | _,.leaf _,.leaf _,_=>(show (dW [40,0,0,0,41]).find? (cb [40,0,0,0,41])=some 2 by decide +kernel)
 | _,.leaf _,.node _ (.leaf _) (.leaf _),_=>(show (dW [40,0,0,40,0,0,0,41,41]).find? (cb [40,0,0,40,0,0,0,41,41])=some 2 by decide +kernel)
 | _,.leaf _,.node _ (.leaf _) (.node _ (.leaf _) (.leaf _)),_=>(show (dW [40,0,0,40,0,0,40,0,0,0,41,41,41]).find? (cb [40,0,0,40,0,0,40,0,0,0,41,41,41])=some 2 by decide +kernel)
 | _,.leaf _,.node _ (.node _ (.leaf _) (.leaf _)) (.leaf _),_=>(show (dW [40,0,0,40,40,0,0,0,41,0,0,41,41]).find? (cb [40,0,0,40,40,0,0,0,41,0,0,41,41])=some 2 by decide +kernel)
 | _,.node _ (.leaf _) (.leaf _),.leaf _,_=>(show (dW [40,40,0,0,0,41,0,0,41]).find? (cb [40,40,0,0,0,41,0,0,41])=some 6 by decide +kernel)
 | _,.node _ (.leaf _) (.node _ (.leaf _) (.leaf _)),.leaf _,_=>(show (dW [40,40,0,0,40,0,0,0,41,41,0,0,41]).find? (cb [40,40,0,0,40,0,0,0,41,41,0,0,41])=some 10 by decide +kernel)
 | _,.node _ (.node _ (.leaf _) (.leaf _)) (.leaf _),.leaf _,_=>(show (dW [40,40,40,0,0,0,41,0,0,41,0,0,41]).find? (cb [40,40,40,0,0,0,41,0,0,41,0,0,41])=some 10 by decide +kernel)
 | _,.node _ (.leaf _) (.leaf _),.node _ (.leaf _) (.leaf _),_=>(show (dW [40,40,0,0,0,41,0,40,0,0,0,41,41]).find? (cb [40,40,0,0,0,41,0,40,0,0,0,41,41])=some 6 by decide +kernel)
 | _,.leaf _,.node _ (.node _ (.node _ _ _) _) _,h=>by simp only[aV]at h;(first|lia|omega)
 | _,.leaf _,.node _ (.node _ _ (.node _ _ _)) _,h=>by simp only[aV]at h;(first|lia|omega)
 | _,.leaf _,.node _ (.node _ _ _) (.node _ _ _),h=>by simp only[aV]at h;(first|lia|omega)
 | _,.leaf _,.node _ _ (.node _ (.node _ _ _) _),h=>by simp only[aV]at h;(first|lia|omega)
 | _,.leaf _,.node _ _ (.node _ _ (.node _ _ _)),h=>by simp only[aV]at h;(first|lia|omega)
 | _,.node _ (.node _ (.node _ _ _) _) _,_,h=>by simp only[aV]at h;(first|lia|omega)
 | _,.node _ (.node _ _ (.node _ _ _)) _,_,h=>by simp only[aV]at h;(first|lia|omega)
 | _,.node _ (.node _ _ _) (.node _ _ _),_,h=>by simp only[aV]at h;(first|lia|omega)
 | _,.node _ _ (.node _ (.node _ _ _) _),_,h=>by simp only[aV]at h;(first|lia|omega)
 | _,.node _ _ (.node _ _ (.node _ _ _)),_,h=>by simp only[aV]at h;(first|lia|omega)
 | _,.node _ (.node _ _ _) _,.node _ _ _,h=>by simp only[aV]at h;(first|lia|omega)
 | _,.node _ _ (.node _ _ _),.node _ _ _,h=>by simp only[aV]at h;(first|lia|omega)
 | _,.node _ _ _,.node _ (.node _ _ _) _,h=>by simp only[aV]at h;(first|lia|omega)
 | _,.node _ _ _,.node _ _ (.node _ _ _),h=>by simp only[aV]at h;(first|lia|omega)
section
variable{Γ:List Slot}{c c1 c2 c3:List Cell}{p q r:PE}{ps:PL}{d a b:D}{ds:List D}{α:Type}
theorem iT{L:List Nat}(hL:jH L):∀t:SP,(code L t).map cls=bare t
 | .leaf i=>by
  show [cls (L.getD i 0)]=[0]
  unfold cls
  rw[if_neg (hL i).1,if_neg (hL i).2]
 | .node s l r=>by
  show ([40]++code L l++[bF s]++code L r++[41]).map cls=_
  rw[List.map_append,List.map_append,List.map_append,List.map_append,iT hL l,iT hL r]
  have:cls (bF s)=0:=by unfold cls;rw[if_neg (i8 s).1,if_neg (i8 s).2]
  show [cls 40]++bare l++[cls (bF s)]++bare r++[cls 41]=_
  rw[this];rfl
theorem BU(s:Nat):(cls s=40)=(s=40):=by
 unfold cls
 by_cases h:s=40
 ·simp[h]
 ·by_cases h2:s=41
  ·simp[h2]
  ·simp[h,h2]
theorem wG(s:Nat):(cls s=41)=(s=41):=by
 unfold cls
 by_cases h:s=40
 ·simp[h]
 ·by_cases h2:s=41
  ·simp[h2]
  ·simp[h,h2]
theorem ly:∀(ss:List Nat) (n:Nat),eu n (ss.map cls)=eu n ss
 | [],_=>rfl
 | s::ss,n=>by
  rw[List.map_cons,eu,eu,ly ss,ly ss,ly ss]
  simp only[BU,wG]
theorem uW(S:List Nat)(e:Nat):cb (S.map cls) e=cb S e:=by
 unfold cb
 rw[←List.map_take,←List.map_drop,ly]
theorem wD(S:List Nat):dW (S.map cls)=dW S:=by
 unfold dW
 rw[List.length_map]
 congr 1
 apply List.filter_congr
 intro e he
 obtain⟨i,hi,rfl⟩:=List.mem_map.mp he
 have hi':=List.mem_range.mp hi
 have hlt:i+3 - 1<S.length:=by(first|lia|omega)
 have:(S.map cls).getD (i+3 - 1) 0=cls (S.getD (i+3 - 1) 0):=by rw[List.getD,List.getD,List.getElem?_map,List.getElem?_eq_getElem hlt];rfl
 rw[this]
 simp only[wG]
theorem yx{L:List Nat}(hL:jH L)(t:SP):(bare t).length=(code L t).length:=by rw[←iT hL t,List.length_map]
theorem find_code{L:List Nat}(hL:jH L){s:Nat}{l r:SP}(h:aV (.node s l r)≤3):(dW (code L (.node s l r))).find? (cb (code L (.node s l r)))=some ((code L l).length+1):=by
 have:=uQ s l r h
 rw[←iT hL (.node s l r),wD,yx hL]at this
 have e:cb ((code L (.node s l r)).map cls)=cb (code L (.node s l r)):=funext λe=>uW _ e
 rw[e]at this
 exact this
theorem ff{L:List Nat}:∀t:SP,(code L t).length=1+4*aV t
 | .leaf i=>rfl
 | .node s l r=>by
  show ([40]++code L l++[bF s]++code L r++[41]).length=_
  simp only[List.length_append,ff l,ff r,aV,List.length_cons,List.length_nil]
  (first|lia|omega)
noncomputable def cL(s:Nat):Int:=if s=0 then 16 else 18
noncomputable def fo(L:List Nat):Nat→SP→D
 | _,.leaf i=>.tup [chD (L.getD i 0)]
 | n,.node s l r=>.tup [.int (cL s),.int ((n+2:Nat):Int),fo L (n+1) l,fo L (n+1+aV l) r]
noncomputable def cQ:SP→Nat
 | .leaf _=>0
 | .node _ l r=>1+max (cQ l) (cQ r)
noncomputable abbrev a9:D:=.tup [.lst [.bool true,.bool true],.lst [.bool true,.bool true]]
theorem za(s:Nat):bP ⟨#[bF s]⟩=some (cL s):=by
 have t3:bP ⟨#[42]⟩=some 16:=by decide +kernel
 have t4:bP ⟨#[124]⟩=some 18:=by decide +kernel
 unfold bF cL
 split
 ·exact t3
 ·exact t4
noncomputable abbrev bM(l:List (Nat×Nat)):D:=.lst (l.map λq=>aF (txt q))
theorem uv(l:List (Nat×Nat)):bM l=.lst ((l.map txt).map aF):=by rw[List.map_map];rfl
theorem vG{l:List (Nat×Nat)}(h1:p Γ c=some (bM l,c1))(hl:l.length≤100):bR "str" cZ (a8 ⟨#[]⟩) (ag p aw) Γ c=some (aF (l.map txt).flatten,c1):=by
 rw[uv]at h1
 exact jS h1 (by have:=fh l;(first|lia|omega))
theorem lR{l:List (Nat×Nat)}(hs:∀q∈l,cU q.2)(hl:l.length≤100)(h1:p Γ c=some (bM l,c1)):aJ dk (aG (bR "str" cZ (a8 ⟨#[]⟩) (ag p aw)) aX) Γ c=some (.bool (eu 0 (l.map (·.2))),c1):=cO (vG h1 hl) (pO hs hl)
end
end Mine
namespace Mine
section
variable{Γ:List Slot}{c c1 c2 c3:List Cell}{p q r:PE}{ps:PL}{d a b:D}{ds:List D}{α:Type}
noncomputable abbrev BA(self:PF):PS:=(ak (qIf (cW (aJ dk (aG (bR "str" cZ (a8 ⟨#[]⟩) (ag (aW (aa 0) (aQ (ah 1)) (aQ (aa 4)) (aA)) (aw))) (aX)))) (ak (dM 2 (aa 4)) (ak (bf 5 (ao .Add (gZ 2) (ah 1))) (ak (dS (de (ag (mn bP (ba (aa 1) (aa 4))) (ag (aa 5) (ag (aJ self (aG (aW (aa 0) (aQ (ah 1)) (aQ (aa 4)) (aA)) (aG (aW (aa 1) (aQ (ah 1)) (aQ (aa 4)) (aA)) (dZ 2 (dZ 3 (aX)))))) (ag (aJ self (aG (aW (aa 0) (aQ (ao .Add (aa 4) (ah 1))) (aQ (g6 (ah 1))) (aA)) (aG (aW (aa 1) (aQ (ao .Add (aa 4) (ah 1))) (aQ (g6 (ah 1))) (aA)) (dZ 2 (dZ 3 (aX)))))) (aw))))))) (aH)))) (aH)) (aH))
noncomputable abbrev C0:PE:=(ao .Add (aM (ag (ah 2) (aw))) (aY [none,some 1] (bw cN (ag (ah 3) (ag (ao .Sub (bp d9 (ag (aa 1) (aw))) (ah 1)) (aw)))) (.n 0) (aE .Eq (ba (aa 1) (ao .Sub (aa 0) (ah 1))) (a8 ⟨#[41]⟩)) (aS (aa 0))))
theorem BL{s ch:Nat}:fu .Eq (chD s) (.str ⟨#[ch]⟩)=some (decide (s=ch)):=by
 show some (decide ((⟨#[s]⟩:Str)=⟨#[ch]⟩))=_
 congr 1
 apply decide_eq_decide.mpr
 constructor
 ·intro h
  have:=congrArg (λx:Str=>x.cps.toList) h
  simpa using this
 ·rintro rfl;rfl
theorem fr2{a b:Int}(ha:(-1000000:Int)<a∧a<1000000)(hb:(-1000000:Int)<b∧b<1000000):cN [.int a,.int b]=some (eM a b):=if_pos ⟨ha,hb⟩
theorem Cy{n:Nat}(hn:3≤n)(h:(-1000000:Int)<(n:Int)∧(n:Int)<1000000):cN [.int 3,.int (n:Int)]=some (((List.range (n - 3)).map (·+3)).map λ(k:Nat)=>D.int (k:Int)):=by
 have e:cN [.int 3,.int (n:Int)]=some (eM 3 n):=fr2 ⟨by decide,by decide⟩ h
 rw[e]
 unfold eM
 have:((n:Int) - 3).toNat=n - 3:=by(first|lia|omega)
 rw[this,List.map_map]
 refine congrArg some (List.map_congr_left ?_)
 intro k _
 show D.int (3+(k:Int))=D.int ((k+3:Nat):Int)
 exact congrArg D.int (by(first|lia|omega))
theorem CJ{n:Nat}(h:n≤900):(-1000000:Int)<(n:Int)∧(n:Int)<1000000:=⟨by(first|lia|omega),by(first|lia|omega)⟩
theorem zy{S:List Nat}{w0 w2 w3 w4 w5:Slot}(hS:4≤S.length∧S.length≤100):C0 [w0,.val (sgD S),w2,w3,w4,w5] c=some (av (dW S),c):=by
 have hl:ao .Sub (bp d9 (ag (aa 1) (aw))) (ah 1) [w0,.val (sgD S),w2,w3,w4,w5] c=some (.int ((S.length - 1:Nat):Int),c):=by
  refine(aU (op:=.Sub) (km (ab (i:=1) rfl) (by rw[List.length_map];(first|lia|omega))) (ay (i:=1)) ji).trans ?_
  rw[List.length_map,show (S.length:Int) - 1=((S.length - 1:Nat):Int)by(first|lia|omega)]
 have e1:=ik (Γ:=[w0,.val (sgD S),w2,w3,w4,w5]) (c:=c) (js:=[none,some 1]) (i:=0) (t:=aE .Eq (ba (aa 1) (ao .Sub (aa 0) (ah 1))) (a8 ⟨#[41]⟩)) (p:=aa 0) (c1:=c)
  (λd=>match d with|.int e=>decide (S.getD (e.toNat - 1) 0=41)|_=>false) (λd=>d) (fL (au (ay (i:=3)) (au hl aB)) (Cy (by(first|lia|omega)) (CJ (by(first|lia|omega))))) ?_ (λd _ _=>ab (i:=0) rfl) (by rw[List.length_map,List.length_map,List.length_range];(first|lia|omega))
 ·refine(aU (op:=.Add) (aZ (au (ay (i:=((2:Nat):Int))) aB) (Nat.le_of_ble_eq_true rfl)) e1 (dw ?_)).trans ?_
  ·rw[List.length_map]
   refine Nat.le_trans (Nat.add_le_add_left (List.length_filter_le _ _) _) ?_
   rw[List.length_map,List.length_map,List.length_range]
   show 1+_≤_
   (first|lia|omega)
  ·rw[List.map_id']
   unfold dW av
   rw[List.map_append,List.filter_map]
   congr 3
 ·intro d hd
  obtain⟨e,he,rfl⟩:=List.mem_map.mp hd
  obtain⟨i,hi,rfl⟩:=List.mem_map.mp he
  have hi':=List.mem_range.mp hi
  have hsub:ao .Sub (aa 0) (ah 1) [.val (.int ((i+3:Nat):Int)),.val (sgD S)] c=some (.int ((i+3 - 1:Nat):Int),c):=by
   refine(aU (op:=.Sub) (ab (i:=0) rfl) (ay (i:=1)) ji).trans ?_
   rw[show ((i+3:Nat):Int) - 1=((i+3 - 1:Nat):Int)by(first|lia|omega)]
  have hlt:i+3 - 1<S.length:=by(first|lia|omega)
  have hg:(S.map chD)[i+3 - 1]?=some (chD (S.getD (i+3 - 1) 0)):=by rw[List.getElem?_map,List.getD,List.getElem?_eq_getElem hlt];rfl
  show aE .Eq _ _ [.val (.int ((i+3:Nat):Int)),.val (sgD S)] c=some (decide (S.getD (((i+3:Nat):Int).toNat - 1) 0=41),c)
  rw[Int.toNat_natCast]
  exact bc (cK (ab (i:=1) rfl) hsub (by(first|lia|omega)) hg) bG BL
theorem nC{S:List Nat}{k:Nat}{R:D}{w0 w1 w2 w3 w5:Slot}{body:PS}{Γ':List Slot}{c':List Cell}(hfail:∀e,cb S e=false→e∈dW S→body [w0,w1,w2,w3,.val (.int (e:Int)),w5] c=some (.next,[w0,w1,w2,w3,.val (.int (e:Int)),w5],c))
  (hsucc:body [w0,w1,w2,w3,.val (.int (k:Int)),w5] c=some (.ret R,Γ',c')):∀(es:List Nat) (w4:Slot),(∀e∈es,e∈dW S)→es.find? (cb S)=some k→bH (.n 4) body (es.map λ(e:Nat)=>D.int (e:Int)) [w0,w1,w2,w3,w4,w5] c=some (.ret R,Γ',c')
 | [],_,_,h=>by cases h
 | e::es,w4,hm,h=>by
  rw[List.map_cons]
  rw[List.find?_cons]at h
  cases hf:cb S e with
  | true=>
   rw[hf]at h
   cases h
   exact wW rfl hsucc
  | false=>
   rw[hf]at h
   exact bU rfl (hfail e hf (hm e (.head _))) (nC hfail hsucc es _ (λx hx=>hm x (.tail _ hx)) h)
theorem q7{S:List Nat}{e:Nat}(hS:4≤S.length)(h:e∈dW S):2≤e∧e≤S.length:=by
 unfold dW at h
 rcases List.mem_append.mp h with h|h
 ·rw[List.mem_singleton.mp h];(first|lia|omega)
 ·obtain⟨i,hi,rfl⟩:=List.mem_map.mp (List.mem_filter.mp h).1
  have:=List.mem_range.mp hi
  (first|lia|omega)
theorem set_same{k:Nat}{x:Cell}(h:c[k]?=some x):c.set k x=c:=by
 obtain⟨hlt,e⟩:=List.getElem?_eq_some_iff.mp h
 rw[←e,List.set_getElem_self]
theorem mD{k j:Nat}{x:Cell}(h:k≠j):(c.set k x)[j]?=c[j]?:=List.getElem?_set_ne h
theorem hH{k:Nat}{x:Cell}(h:k<c.length):(c.set k x)[k]?=some x:=List.getElem?_set_self h
end
end Mine
end
section
open PySem PySem.Calls PySem.Spec PyProof PyProof.Rows PySem.W
set_option maxRecDepth 20000
set_option maxHeartbeats 1000000
namespace Mine
section
variable{Γ:List Slot}{c c1 c2 c3:List Cell}{p q r:PE}{ps:PL}{d a b:D}{ds:List D}{α:Type}
theorem CP(l:List (Nat×Nat))(k:Nat):(l.map λq=>aF (txt q)).take k=(l.take k).map λq=>aF (txt q):=by rw[List.map_take]
theorem CO(l:List (Nat×Nat))(k:Nat):(l.map λq=>aF (txt q)).drop k=(l.drop k).map λq=>aF (txt q):=by rw[List.map_drop]
theorem lI{l:List α}{f:α→D}{i k:Nat}(hp:p Γ c=some (.lst (l.map f),c))(h1:q Γ c=some (.int (i:Int),c))(h2:r Γ c=some (.int (k:Int),c))(hi:i≤l.length)(hk:k≤l.length)(hl:l.length≤100) :
  aW p (aQ q) (aQ r) aA Γ c=some (.lst (((l.take k).drop i).map f),c):=by
 refine(cP hp (cz h1) (cz h2) bo (jA (by rw[List.length_map];(first|lia|omega)))).trans ?_
 rw[v7 _ (by rw[List.length_map];exact hi) (by rw[List.length_map];exact hk),←List.map_take,←List.map_drop]
theorem uk{l:List α}{f:α→D}{i:Nat}(hp:p Γ c=some (.lst (l.map f),c))(h1:q Γ c=some (.int (i:Int),c))(hi:i≤l.length)(h0:1≤l.length)(hl:l.length≤100) :
  aW p (aQ q) (aQ (g6 (ah 1))) aA Γ c=some (.lst (((l.take (l.length - 1)).drop i).map f),c):=by
 refine(cP hp (cz h1) (cz (oC (ay (i:=1)))) bo (jA (by rw[List.length_map];(first|lia|omega)))).trans ?_
 have:=vZ (l.map f) (i:=i) (by rw[List.length_map];exact hi) (by rw[List.length_map];exact h0)
 rw[show (-(1:Int))=-1 from rfl,this,List.length_map,←List.map_take,←List.map_drop]
theorem ph{L:List Nat}(hL:jH L):∀(t:SP) (m:Nat) (l:List (Nat×Nat)) (c:List Cell) (kn ka:Nat) (nodes as:List D),cQ t<m→aV t≤3→l.map (·.2)=code L t→(∀q∈l,cU q.2)→
  c[kn]?=some (.lst nodes)→c[ka]?=some (.lst as)→kn≠ka→nodes.length+aV t≤50→as.length+aV t≤1000→
  ∃nodes',nodes'.length=nodes.length+aV t∧eU m [.val (bM l),.val (sgD (code L t)),.ref kn,.ref ka] c=some (fo L nodes.length t,(c.set kn (.lst nodes')).set ka (.lst (as++List.replicate (aV t) a9)))
 | .leaf i,m+1,l,c,kn,ka,nodes,as,_,_,hS,hs,hn,ha,hne,_,_=>by
  refine⟨nodes,rfl,?_⟩
  have e:(c.set kn (.lst nodes)).set ka (.lst (as++List.replicate (aV (.leaf i)) a9))=c:=by
   rw[set_same hn]
   show c.set ka (.lst (as++[]))=c
   rw[List.append_nil,set_same ha]
  rw[e]
  have hq:kG (eU m) [.val (bM l),.val (sgD [L.getD i 0]),.ref kn,.ref ka,.un,.un] c=some (.ret (.tup [chD (L.getD i 0)]),[.val (bM l),.val (sgD [L.getD i 0]),.ref kn,.ref ka,.un,.un],c):=
   cx ((eB (bc (km (ab (i:=1) rfl) (Nat.le_of_ble_eq_true rfl)) (ay (i:=1)) rfl)).trans (cx (d6 (jt (au (fv (ab (i:=1) rfl) (ay (i:=0)) (xB (by decide) rfl)) aB) (Nat.le_of_ble_eq_true rfl)))))
  show cC 6 4 (kG (eU m)) _ c=_
  unfold cC
  have h4:[Slot.val (bM l),.val (sgD (code L (.leaf i))),.ref kn,.ref ka].length=4:=rfl
  rw[if_pos h4]
  have hsf:setFrom 0 [.val (bM l),.val (sgD (code L (.leaf i))),.ref kn,.ref ka] (List.replicate 6 .un)=[.val (bM l),.val (sgD [L.getD i 0]),.ref kn,.ref ka,.un,.un]:=rfl
  rw[hsf,hq]
  show (some (_,c.take c.length):Option (D×List Cell))=_
  rw[List.take_length];rfl
 | .node s tl tr,m+1,l,c,kn,ka,nodes,as,hm,h3,hS,hs,hn,ha,hne,hn5,ha5=>by
  have hsz:aV (.node s tl tr)=1+aV tl+aV tr:=rfl
  have hht:cQ (.node s tl tr)=1+max (cQ tl) (cQ tr):=rfl
  have hlen:l.length=1+4*aV (.node s tl tr):=by rw[←List.length_map (f:=(·.2)) (as:=l),hS,ff]
  have hla:=ff (L:=L) tl
  have hlb:=ff (L:=L) tr
  have hSl:(code L (.node s tl tr)).length=l.length:=by rw[hlen,ff]
  have hCode:code L (.node s tl tr)=40::(code L tl++(bF s::(code L tr++[41]))):=by
   rw[ke];simp
  generalize hA:(code L tl).length=A at*
  generalize hB:(code L tr).length=B at*
  have hn1:l.length=A+B+3:=by(first|lia|omega)
  have hkn:kn<c.length:=(List.getElem?_eq_some_iff.mp hn).1
  have hka:ka<c.length:=(List.getElem?_eq_some_iff.mp ha).1
  have pl:((l.take (A+1)).drop 1).map (·.2)=code L tl:=by
   rw[List.map_drop,List.map_take,hS,hCode,←hA,List.take_succ_cons,List.drop_succ_cons,List.drop_zero,List.take_left' rfl]
  have pr:((l.take (l.length - 1)).drop (A+2)).map (·.2)=code L tr:=by
   rw[List.map_drop,List.map_take,hS]
   have e:code L (.node s tl tr)=(40::(code L tl++[bF s]))++(code L tr++[41]):=by rw[hCode];simp
   rw[e,List.take_append,List.drop_append]
   have hl1:(40::(code L tl++[bF s])).length=A+2:=by simp[hA]
   rw[hl1,List.take_of_length_le (by rw[hl1];(first|lia|omega)),List.drop_eq_nil_of_le (by rw[hl1];exact Nat.le_refl _)]
   simp only[hl1,Nat.sub_self,List.drop_zero,List.nil_append]
   rw[show l.length - 1 - (A+2)=B by(first|lia|omega),List.take_left' hB]
  have sl:∀q∈(l.take (A+1)).drop 1,cU q.2:=λq hq=>hs q (List.mem_of_mem_take (List.mem_of_mem_drop hq))
  have sr:∀q∈(l.take (l.length - 1)).drop (A+2),cU q.2:=λq hq=>hs q (List.mem_of_mem_take (List.mem_of_mem_drop hq))
  have x1:gB .Is (aJ dk (aG (bR "str" cZ (a8 ⟨#[]⟩) (ag (aa 0) (aw))) (aX))) (b8 true) [.val (bM l),.val (sgD (code L (.node s tl tr))),.ref kn,.ref ka,.un,.un] c=some (.bool true,c):=by
   have hb:eu 0 (l.map (·.2))=true:=by
    rw[hS]
    have:=gp hL (.node s tl tr) 0 []
    rw[List.append_nil]at this
    rw[this];rfl
   have:=lR (Γ:=[.val (bM l),.val (sgD (code L (.node s tl tr))),.ref kn,.ref ka,.un,.un]) (c:=c) hs (by(first|lia|omega)) (ab (i:=0) rfl)
   rw[hb]at this
   exact gb this cj rfl
  have x2:gB .Is (aJ dk (aG (bR "str" cZ (a8 ⟨#[]⟩) (ag (ao .Add (aW (aa 0) (aQ (g6 (ah 1))) (aA) (aA)) (aW (aa 0) (aA) (aQ (ah 1)) (aA))) (aw))) (aX))) (b8 false) [.val (bM l),.val (sgD (code L (.node s tl tr))),.ref kn,.ref ka,.un,.un] c=some (.bool true,c):=by
   have y:ao .Add (aW (aa 0) (aQ (g6 (ah 1))) (aA) (aA)) (aW (aa 0) (aA) (aQ (ah 1)) (aA)) [.val (bM l),.val (sgD (code L (.node s tl tr))),.ref kn,.ref ka,.un,.un] c=some (bM (l.drop (l.length - 1)++l.take 1),c):=by
    have s1:=sh (l.map λq=>aF (txt q)) (by rw[List.length_map];(first|lia|omega))
    have s2:=iN (l.map λq=>aF (txt q)) (k:=1) (by rw[List.length_map];(first|lia|omega))
    have hle:(l.drop (l.length - 1)).length≤1:=by rw[List.length_drop];(first|lia|omega)
    have hle2:(l.take 1).length≤1:=by rw[List.length_take];(first|lia|omega)
    rw[List.length_map,←List.map_drop]at s1
    rw[←List.map_take]at s2
    refine(aU (op:=.Add) (cP (ab (i:=0) rfl) (cz (oC (ay (i:=1)))) bo bo ((jA (by rw[List.length_map];(first|lia|omega))).trans (congrArg (λz=>some (D.lst z)) s1)))
     (cP (ab (i:=0) rfl) bo (cz (ay (i:=((1:Nat):Int)))) bo ((jA (by rw[List.length_map];(first|lia|omega))).trans (congrArg (λz=>some (D.lst z)) s2))) (dw (by rw[List.length_map,List.length_map];(first|lia|omega)))).trans ?_
    rw[←List.map_append]
   have hs2:∀q∈l.drop (l.length - 1)++l.take 1,cU q.2:=λq hq=>(List.mem_append.mp hq).elim (λh=>hs q (List.mem_of_mem_drop h)) (λh=>hs q (List.mem_of_mem_take h))
   have hb:(l.drop (l.length - 1)++l.take 1).map (·.2)=[41,40]:=by
    rw[List.map_append,List.map_drop,List.map_take,hS]
    have e1:(code L (.node s tl tr)).drop (l.length - 1)=[41]:=by
     rw[ke]
     exact List.drop_left' (by simp[hA,hB];(first|lia|omega))
    rw[e1,hCode];rfl
   have:=lR (Γ:=[.val (bM l),.val (sgD (code L (.node s tl tr))),.ref kn,.ref ka,.un,.un]) (c:=c) hs2 (by rw[List.length_append,List.length_drop,List.length_take];(first|lia|omega)) y
   rw[hb]at this
   exact gb this cj rfl
  have hask:dM 3 (de (ag (aM (ag (gB .Is (aJ dk (aG (bR "str" cZ (a8 ⟨#[]⟩) (ag (aa 0) (aw))) (aX))) (b8 true)) (ag (gB .Is (aJ dk (aG (bR "str" cZ (a8 ⟨#[]⟩) (ag (ao .Add (aW (aa 0) (aQ (g6 (ah 1))) (aA) (aA)) (aW (aa 0) (aA) (aQ (ah 1)) (aA))) (aw))) (aX))) (b8 false)) (aw)))) (ag (aM (ag (b8 true) (ag (b8 true) (aw)))) (aw)))) [.val (bM l),.val (sgD (code L (.node s tl tr))),.ref kn,.ref ka,.un,.un] c=
    some (.next,[.val (bM l),.val (sgD (code L (.node s tl tr))),.ref kn,.ref ka,.un,.un],c.set ka (.lst (as++[a9]))):=
   jk (k:=ka) rfl ⟨_,ha⟩ (ck (aZ (au x1 (au x2 aB)) (Nat.le_of_ble_eq_true rfl)) (aZ (au cj (au cj aB)) (Nat.le_of_ble_eq_true rfl))) ha (by(first|lia|omega))
  have hlen1:aE .Eq (bp d9 (ag (aa 1) (aw))) (ah 1) [.val (bM l),.val (sgD (code L (.node s tl tr))),.ref kn,.ref ka,.un,.un] c=some (false,c):=by
   refine(bc (km (ab (i:=1) rfl) (by rw[List.length_map,hSl];(first|lia|omega))) (ay (i:=1)) jb).trans ?_
   rw[List.length_map,hSl]
   congr 2
   exact beq_eq_false_iff_ne.mpr (by(first|lia|omega))
  have hfind:=find_code hL h3
  rw[hA]at hfind
  have hc1kn:(c.set ka (.lst (as++[a9])))[kn]?=some (.lst nodes):=by rw[mD (Ne.symm hne)];exact hn
  have hc1ka:(c.set ka (.lst (as++[a9])))[ka]?=some (.lst (as++[a9])):=hH hka
  have hc1len:(c.set ka (.lst (as++[a9]))).length=c.length:=List.length_set
  generalize hC1:c.set ka (.lst (as++[a9]))=C1 at*
  generalize hSS:code L (.node s tl tr)=S at*
  have chk:∀(e:Nat) (w5:Slot),1≤e→e≤l.length→cW (aJ dk (aG (bR "str" cZ (a8 ⟨#[]⟩) (ag (aW (aa 0) (aQ (ah 1)) (aQ (aa 4)) (aA)) (aw))) (aX))) [.val (bM l),.val (sgD S),.ref kn,.ref ka,.val (.int (e:Int)),w5] C1=some (cb S e,C1):=by
   intro e w5 h1 h2
   have y:=lI (Γ:=[.val (bM l),.val (sgD S),.ref kn,.ref ka,.val (.int (e:Int)),w5]) (c:=C1) (i:=1) (ab (i:=0) rfl) ay (ab (i:=4) rfl) (by(first|lia|omega)) h2 (by(first|lia|omega))
   have:=lR (λq hq=>hs q (List.mem_of_mem_take (List.mem_of_mem_drop hq))) (by rw[List.length_drop,List.length_take];(first|lia|omega)) y
   rw[List.map_drop,List.map_take,hS]at this
   exact gO this rfl
  have hcand:∀e∈dW S,2≤e∧e≤S.length:=λe he=>q7 (by(first|lia|omega)) he
  have fails:∀e,cb S e=false→e∈dW S→BA (eU m) [.val (bM l),.val (sgD S),.ref kn,.ref ka,.val (.int (e:Int)),.un] C1=some (.next,[.val (bM l),.val (sgD S),.ref kn,.ref ka,.val (.int (e:Int)),.un],C1):=by
   intro e he hm2
   have:=hcand e hm2
   exact bD ((d5 (g:=aH) ((chk e .un (by(first|lia|omega)) (by(first|lia|omega))).trans (by rw[he]))).trans rfl) rfl
  have htrue:cb S (A+1)=true:=List.find?_some hfind
  have happ:dM 2 (aa 4) [.val (bM l),.val (sgD S),.ref kn,.ref ka,.val (.int ((A+1:Nat):Int)),.un] C1=some (.next,[.val (bM l),.val (sgD S),.ref kn,.ref ka,.val (.int ((A+1:Nat):Int)),.un],C1.set kn (.lst (nodes++[D.int ((A+1:Nat):Int)]))):=
   jk (k:=kn) rfl ⟨_,hc1kn⟩ (ab (i:=4) rfl) hc1kn (by(first|lia|omega))
  have hc2kn:(C1.set kn (.lst (nodes++[D.int ((A+1:Nat):Int)])))[kn]?=some (.lst (nodes++[D.int ((A+1:Nat):Int)])):=hH (by rw[hc1len];exact hkn)
  have hc2ka:(C1.set kn (.lst (nodes++[D.int ((A+1:Nat):Int)])))[ka]?=some (.lst (as++[a9])):=by rw[mD hne];exact hc1ka
  have hnl:(nodes++[D.int ((A+1:Nat):Int)]).length=nodes.length+1:=by rw[List.length_append];rfl
  have hc2len:(C1.set kn (.lst (nodes++[D.int ((A+1:Nat):Int)]))).length=c.length:=by rw[List.length_set,hc1len]
  have hC2:C1.set kn (.lst (nodes++[D.int ((A+1:Nat):Int)]))=(c.set kn (.lst (nodes++[D.int ((A+1:Nat):Int)]))).set ka (.lst (as++[a9])):=by rw[←hC1,List.set_comm _ _ (Ne.symm hne)]
  generalize hN2:nodes++[D.int ((A+1:Nat):Int)]=N2 at*
  generalize hCC2:C1.set kn (.lst N2)=C2 at*
  have hnum:ao .Add (gZ 2) (ah 1) [.val (bM l),.val (sgD S),.ref kn,.ref ka,.val (.int ((A+1:Nat):Int)),.un] C2=some (.int ((nodes.length+2:Nat):Int),C2):=by
   have h1:gZ 2 [.val (bM l),.val (sgD S),.ref kn,.ref ka,.val (.int ((A+1:Nat):Int)),.un] C2=some (.int ((nodes.length+1:Nat):Int),C2):=by
    unfold gZ ib
    show Option.bind (match C2[kn]? with|some (.lst _)=>some kn|_=>none) _=_
    rw[hc2kn]
    simp only[Option.bind_some]
    rw[hc2kn]
    simp only[]
    rw[if_pos (by(first|lia|omega)),hnl]
   exact dA (a:=nodes.length+1) h1 (ay (i:=((1:Nat):Int)))
  obtain⟨n3,hn3,e3⟩:=ph hL tl m ((l.take (A+1)).drop 1) C2 kn ka N2 (as++[a9]) (by(first|lia|omega)) (by(first|lia|omega)) pl sl hc2kn hc2ka hne (by(first|lia|omega)) (by rw[List.length_append];simp only[List.length_cons,List.length_nil];(first|lia|omega))
  have hc3kn:((C2.set kn (.lst n3)).set ka (.lst (as++[a9]++List.replicate (aV tl) a9)))[kn]?=some (.lst n3):=by rw[mD (Ne.symm hne)];exact hH (by rw[hc2len];exact hkn)
  have hc3ka:((C2.set kn (.lst n3)).set ka (.lst (as++[a9]++List.replicate (aV tl) a9)))[ka]?=some (.lst (as++[a9]++List.replicate (aV tl) a9)):=hH (by rw[List.length_set,hc2len];exact hka)
  have hC3:∀(x y:Cell),(((C2.set kn (.lst n3)).set ka (.lst (as++[a9]++List.replicate (aV tl) a9))).set kn x).set ka y=(c.set kn x).set ka y:=by
   intro x y
   rw[hC2]
   rw[List.set_comm (l:=((c.set kn (.lst N2)).set ka (.lst (as++[a9]))).set kn (.lst n3)) _ _ (Ne.symm hne),List.set_set,List.set_set,List.set_comm (l:=c.set kn (.lst N2)) _ _ (Ne.symm hne),List.set_set,List.set_set]
  generalize hCC3:(C2.set kn (.lst n3)).set ka (.lst (as++[a9]++List.replicate (aV tl) a9))=C3 at*
  obtain⟨n4,hn4,e4⟩:=ph hL tr m ((l.take (l.length - 1)).drop (A+2)) C3 kn ka n3 (as++[a9]++List.replicate (aV tl) a9) (by(first|lia|omega)) (by(first|lia|omega)) pr sr hc3kn hc3ka hne (by(first|lia|omega)) (by rw[List.length_append,List.length_append,List.length_replicate];simp only[List.length_cons,List.length_nil];(first|lia|omega))
  rw[hC3]at e4
  have hlast:as++[a9]++List.replicate (aV tl) a9++List.replicate (aV tr) a9=as++List.replicate (aV (.node s tl tr)) a9:=by
   rw[List.append_assoc,List.append_assoc,hsz,List.replicate_append_replicate]
   congr 1
   rw[show 1+aV tl+aV tr=(aV tl+aV tr)+1 by(first|lia|omega),List.replicate_succ];rfl
  rw[hlast]at e4
  refine⟨n4,by(first|lia|omega),?_⟩
  have hstar:mn bP (ba (aa 1) (aa 4)) [.val (bM l),.val (sgD S),.ref kn,.ref ka,.val (.int ((A+1:Nat):Int)),.val (.int ((nodes.length+2:Nat):Int))] C2=some (.int (cL s),C2):=by
   have hg:(S.map chD)[A+1]?=some (chD (bF s)):=by
    rw[List.getElem?_map]
    have:S[A+1]?=some (bF s):=by
     rw[hCode,List.getElem?_cons_succ,List.getElem?_append_right (by(first|lia|omega)),hA,Nat.sub_self];rfl
    rw[this];rfl
   exact ki (cK (ab (i:=1) rfl) (ab (i:=4) rfl) (by(first|lia|omega)) hg) (za s)
  have left:aJ (eU m) (aG (aW (aa 0) (aQ (ah 1)) (aQ (aa 4)) (aA)) (aG (aW (aa 1) (aQ (ah 1)) (aQ (aa 4)) (aA)) (dZ 2 (dZ 3 (aX))))) [.val (bM l),.val (sgD S),.ref kn,.ref ka,.val (.int ((A+1:Nat):Int)),.val (.int ((nodes.length+2:Nat):Int))] C2=some (fo L (nodes.length+1) tl,C3):=by
   have y1:=lI (Γ:=[.val (bM l),.val (sgD S),.ref kn,.ref ka,.val (.int ((A+1:Nat):Int)),.val (.int ((nodes.length+2:Nat):Int))]) (c:=C2) (i:=1) (ab (i:=0) rfl) ay (ab (i:=4) rfl) (by(first|lia|omega)) (by(first|lia|omega)) (by(first|lia|omega))
   have y2:=lI (Γ:=[.val (bM l),.val (sgD S),.ref kn,.ref ka,.val (.int ((A+1:Nat):Int)),.val (.int ((nodes.length+2:Nat):Int))]) (c:=C2) (i:=1) (l:=S) (f:=chD) (ab (i:=1) rfl) ay (ab (i:=4) rfl) (by(first|lia|omega)) (by(first|lia|omega)) (by(first|lia|omega))
   rw[←hS,←List.map_take,←List.map_drop,pl]at y2
   rw[hnl]at e3
   rw[hS]at y2
   exact gv (cq y1 (cq y2 (fN rfl (fN rfl eG)))) e3
  have right:aJ (eU m) (aG (aW (aa 0) (aQ (ao .Add (aa 4) (ah 1))) (aQ (g6 (ah 1))) (aA)) (aG (aW (aa 1) (aQ (ao .Add (aa 4) (ah 1))) (aQ (g6 (ah 1))) (aA)) (dZ 2 (dZ 3 (aX))))) [.val (bM l),.val (sgD S),.ref kn,.ref ka,.val (.int ((A+1:Nat):Int)),.val (.int ((nodes.length+2:Nat):Int))] C3=some (fo L (nodes.length+1+aV tl) tr,(c.set kn (.lst n4)).set ka (.lst (as++List.replicate (aV (.node s tl tr)) a9))):=by
   have hk2:ao .Add (aa 4) (ah 1) [.val (bM l),.val (sgD S),.ref kn,.ref ka,.val (.int ((A+1:Nat):Int)),.val (.int ((nodes.length+2:Nat):Int))] C3=some (.int ((A+2:Nat):Int),C3):=dA (a:=A+1) (ab (i:=4) rfl) (ay (i:=((1:Nat):Int)))
   have y1:=uk (Γ:=[.val (bM l),.val (sgD S),.ref kn,.ref ka,.val (.int ((A+1:Nat):Int)),.val (.int ((nodes.length+2:Nat):Int))]) (c:=C3) (ab (i:=0) rfl) hk2 (by(first|lia|omega)) (by(first|lia|omega)) (by(first|lia|omega))
   have y2:=uk (Γ:=[.val (bM l),.val (sgD S),.ref kn,.ref ka,.val (.int ((A+1:Nat):Int)),.val (.int ((nodes.length+2:Nat):Int))]) (c:=C3) (l:=S) (f:=chD) (ab (i:=1) rfl) hk2 (by(first|lia|omega)) (by(first|lia|omega)) (by(first|lia|omega))
   rw[hSl,←hS,←List.map_take,←List.map_drop,pr,hS]at y2
   rw[show n3.length=nodes.length+1+aV tl by(first|lia|omega)]at e4
   exact gv (cq y1 (cq y2 (fN rfl (fN rfl eG)))) e4
  have succ:BA (eU m) [.val (bM l),.val (sgD S),.ref kn,.ref ka,.val (.int ((A+1:Nat):Int)),.un] C1=some (.ret (fo L nodes.length (.node s tl tr)),[.val (bM l),.val (sgD S),.ref kn,.ref ka,.val (.int ((A+1:Nat):Int)),.val (.int ((nodes.length+2:Nat):Int))],(c.set kn (.lst n4)).set ka (.lst (as++List.replicate (aV (.node s tl tr)) a9))):=
   cx ((eB ((chk (A+1) .un (by(first|lia|omega)) (by(first|lia|omega))).trans (by rw[htrue]))).trans (aO happ (aO (bq hnum) (cx (d6 (jt (au hstar (au (ab (i:=5) rfl) (au left (au right aB)))) (Nat.le_of_ble_eq_true rfl)))))))
  have hloop:=nC (S:=S) fails succ (dW S) .un (λe he=>he) hfind
  have hq:kG (eU m) [.val (bM l),.val (sgD S),.ref kn,.ref ka,.un,.un] c=some (.ret (fo L nodes.length (.node s tl tr)),_,_):=
   aO ((d5 (g:=aH) hlen1).trans rfl) (aO hask (cx (r0 (b7 (zy ⟨by(first|lia|omega),by(first|lia|omega)⟩)) hloop)))
  show cC 6 4 (kG (eU m)) _ c=_
  unfold cC
  have h4:[Slot.val (bM l),.val (sgD S),.ref kn,.ref ka].length=4:=rfl
  rw[if_pos h4]
  have hsf:setFrom 0 [.val (bM l),.val (sgD S),.ref kn,.ref ka] (List.replicate 6 .un)=[.val (bM l),.val (sgD S),.ref kn,.ref ka,.un,.un]:=rfl
  rw[hsf,hq]
  show (some (_,((c.set kn (.lst n4)).set ka (.lst (as++List.replicate (aV (.node s tl tr)) a9))).take c.length):Option (D×List Cell))=_
  rw[List.take_of_length_le (by rw[List.length_set,List.length_set];exact Nat.le_refl _)]
end
end Mine
namespace Mine
noncomputable def shapes:List SP:=(List.range 3).flatMap λk0=>(List.range 2).flatMap λk1=>(List.range 2).flatMap λb0=>(List.range 2).flatMap λb1=>(List.range 2).map λb2=>shapeOf k0 k1 0 b0 b1 b2
theorem vX(a0 a1 a2:Nat):shapeAt a0 a1 a2∈shapes:=by
 unfold shapeAt shapes
 have e:a2 / 10 % 12 % 1=0:=Nat.mod_one _
 rw[e]
 exact List.mem_flatMap.mpr ⟨_,List.mem_range.mpr (Nat.mod_lt _ (by decide)),List.mem_flatMap.mpr ⟨_,List.mem_range.mpr (Nat.mod_lt _ (by decide)),List.mem_flatMap.mpr ⟨_,List.mem_range.mpr (Nat.mod_lt _ (by decide)),List.mem_flatMap.mpr ⟨_,List.mem_range.mpr (Nat.mod_lt _ (by decide)),List.mem_map.mpr ⟨_,List.mem_range.mpr (Nat.mod_lt _ (by decide)),rfl⟩⟩⟩⟩⟩
noncomputable def fZ:SP→List Nat
 | .leaf i=>[i]
 | .node _ l r=>fZ l++fZ r
noncomputable def isNode:SP→Bool
 | .leaf _=>false
 | .node ..=>true
theorem k8:∀t∈shapes,fZ t=[0,1,2,3]∧aV t=3∧cQ t≤3∧isNode t=true:=by decide +kernel
section
variable{Γ:List Slot}{c c1 c2 c3:List Cell}{p q r:PE}{ps:PL}{d a b:D}{ds:List D}{α:Type}
theorem ya{L:List Nat}(hL:jH L){t:SP}{l:List (Nat×Nat)}{ka:Nat}{as:List D}(ht:cQ t≤3∧aV t≤3)(hS:l.map (·.2)=code L t)(hs:∀q∈l,cU q.2)(h15:Γ[15]?=some (.ref ka))(ha:c[ka]?=some (.lst as))(hla:as.length≤500)
  (h6:Γ[6]?=some (.val (bM l))) (h20:Γ[20]?=some (.val (sgD (code L t)))) :
  ∃cl,tn Γ c=some (.next,aT 21 (fo L 0 t) Γ,c.set ka (.lst (as++List.replicate (aV t) a9))++[cl]):=by
 have hka:ka<c.length:=(List.getElem?_eq_some_iff.mp ha).1
 have g1:(c++[Cell.lst []])[c.length]?=some (.lst []):=by rw[List.getElem?_append_right (Nat.le_refl _)];simp
 have g2:(c++[Cell.lst []])[ka]?=some (.lst as):=by rw[List.getElem?_append_left hka];exact ha
 obtain⟨n',_,e⟩:=ph hL t 9 l (c++[.lst []]) c.length ka [] as (by(first|lia|omega)) ht.2 hS hs g1 g2 (by(first|lia|omega)) (by simp;(first|lia|omega)) (by(first|lia|omega))
 refine⟨.lst n',?_⟩
 have h:=bq (i:=21) (gv (F:=eU 9) (cq (ab h6) (cq (ab h20) (wV (ps:=dZ 15 aX) aB (Nat.zero_le _) (fN h15 eG)))) e)
 refine h.trans ?_
 have e2:((c++[Cell.lst []]).set c.length (.lst n')).set ka (.lst (as++List.replicate (aV t) a9))=c.set ka (.lst (as++List.replicate (aV t) a9))++[.lst n']:=by
  rw[List.set_append_right _ _ (Nat.le_refl _),Nat.sub_self,List.set_append_left _ _ hka];rfl
 rw[e2];rfl
noncomputable def cH(al:Int):Nat→SP→Nat→Nat→List (Nat×Nat)
 | _,.leaf _,x,y=>[(x,y)]
 | n,.node s l r,x,y=>if cL s=al then cH al (n+1) l x (n+2)++cH al (n+1+aV l) r (n+2) y else cH al (n+1) l x y++cH al (n+1+aV l) r x y
noncomputable abbrev nnD(q:Nat×Nat):D:=.tup [.int (q.1:Int),.int (q.2:Int)]
theorem fH(al:Int):∀(t:SP) (n x y:Nat),(cH al n t x y).length=aV t+1
 | .leaf _,_,_,_=>rfl
 | .node s l r,n,x,y=>by
  rw[cH]
  split<;>rw[List.length_append,fH al l,fH al r,aV]<;>(first|lia|omega)
noncomputable def GE(m:Nat):List D→Option D:=dp (cC 4 4 (i6 (fC m)))
theorem sM(m:Nat):fC (m+1)=eg (GE m):=rfl
theorem gu{G:List D→Option D}{p1 p2 p3 p4:PE}{d1 d2 d3 d4:D}(h1:p1 Γ c=some (d1,c))(h2:p2 Γ c=some (d2,c))(h3:p3 Γ c=some (d3,c))(h4:p4 Γ c=some (d4,c))(h:G [d1,d2,d3,d4]=some d) :
  aJ (eg G) (aG p1 (aG p2 (aG p3 (aG p4 aX)))) Γ c=some (d,c):=jO (ds:=[d1,d2,d3,d4]) (cq h1 (cq h2 (cq h3 (cq h4 eG)))) h
theorem tO(h:ds.length≤100000):d9 [.tup ds]=some (.int ds.length):=if_pos h
theorem jN{L:List Nat}(al:Int):∀(t:SP) (m n x y:Nat),cQ t≤m→aV t≤50→GE m [fo L n t,.int (x:Int),.int (y:Int),.int al]=some (.lst ((cH al n t x y).map nnD))
 | .leaf i,m,n,x,y,_,_=>by
  have hq:i6 (fC m) [.val (.tup [chD (L.getD i 0)]),.val (.int (x:Int)),.val (.int (y:Int)),.val (.int al)] []=some (.ret (.lst [nnD (x,y)]),[.val (.tup [chD (L.getD i 0)]),.val (.int (x:Int)),.val (.int (y:Int)),.val (.int al)],[]):=
   cx ((eB (bc (cy (F:=d9) (au (ab (i:=0) rfl) aB) (tO (Nat.le_of_ble_eq_true rfl))) (ay (i:=1)) rfl)).trans (cx (d6 (aZ (au (ck (ab (i:=1) rfl) (ab (i:=2) rfl)) aB) (Nat.le_of_ble_eq_true rfl)))))
  exact cu rfl hq
 | .node s l r,0,n,x,y,h,_=>by
  have:cQ (.node s l r)=1+max (cQ l) (cQ r):=rfl
  (first|lia|omega)
 | .node s l r,m+1,n,x,y,h,hsz=>by
  have hh:cQ (.node s l r)=1+max (cQ l) (cQ r):=rfl
  have hz:aV (.node s l r)=1+aV l+aV r:=rfl
  have hT:fo L n (.node s l r)=.tup [.int (cL s),.int ((n+2:Nat):Int),fo L (n+1) l,fo L (n+1+aV l) r]:=rfl
  rw[hT]
  generalize hTL:fo L (n+1) l=TL
  generalize hTR:fo L (n+1+aV l) r=TR
  have il:=λx y=>jN (L:=L) al l m (n+1) x y (by(first|lia|omega)) (by(first|lia|omega))
  have ir:=λx y=>jN (L:=L) al r m (n+1+aV l) x y (by(first|lia|omega)) (by(first|lia|omega))
  rw[hTL]at il
  rw[hTR]at ir
  have v0:aa 0 [.val (.tup [.int (cL s),.int ((n+2:Nat):Int),TL,TR]),.val (.int (x:Int)),.val (.int (y:Int)),.val (.int al)] []=some (.tup [.int (cL s),.int ((n+2:Nat):Int),TL,TR],[]):=ab rfl
  have vi:∀(i:Nat) (d:D),([.int (cL s),.int ((n+2:Nat):Int),TL,TR]:List D)[i]?=some d→i<900→ba (aa 0) (ah (i:Int)) [.val (.tup [.int (cL s),.int ((n+2:Nat):Int),TL,TR]),.val (.int (x:Int)),.val (.int (y:Int)),.val (.int al)] []=some (d,[]):=by
   intro i d hd hi
   refine fv v0 ay (kO (nS hi) ?_)
   rw[o8 (List.getElem?_eq_some_iff.mp hd).1];exact hd
  have h1:aE .Eq (bp d9 (ag (aa 0) (aw))) (ah 1) [.val (.tup [.int (cL s),.int ((n+2:Nat):Int),TL,TR]),.val (.int (x:Int)),.val (.int (y:Int)),.val (.int al)] []=some (false,[]):=bc (cy (F:=d9) (au v0 aB) (tO (Nat.le_of_ble_eq_true rfl))) (ay (i:=1)) rfl
  have h2:aE .Eq (ba (aa 0) (ah 0)) (aa 3) [.val (.tup [.int (cL s),.int ((n+2:Nat):Int),TL,TR]),.val (.int (x:Int)),.val (.int (y:Int)),.val (.int al)] []=some (decide (cL s=al),[]):=by
   refine(bc (vi 0 _ rfl (by decide)) (ab (i:=3) rfl) jb).trans ?_
   congr 2
  by_cases ht:cL s=al
  ·have e:cH al n (.node s l r) x y=cH al (n+1) l x (n+2)++cH al (n+1+aV l) r (n+2) y:=by rw[cH,if_pos ht]
   rw[e,List.map_append]
   have hq:i6 (fC (m+1)) [.val (.tup [.int (cL s),.int ((n+2:Nat):Int),TL,TR]),.val (.int (x:Int)),.val (.int (y:Int)),.val (.int al)] []=some (.ret (.lst ((cH al (n+1) l x (n+2)).map nnD++(cH al (n+1+aV l) r (n+2) y).map nnD)),[.val (.tup [.int (cL s),.int ((n+2:Nat):Int),TL,TR]),.val (.int (x:Int)),.val (.int (y:Int)),.val (.int al)],[]):=by
    refine aO ((d5 (g:=aH) h1).trans rfl) (cx ((eB (h2.trans (by rw[decide_eq_true ht]))).trans (cx (d6 ?_))))
    rw[sM]
    exact aU (op:=.Add) (gu (vi 2 _ rfl (by decide)) (ab (i:=1) rfl) (vi 1 _ rfl (by decide)) (ab (i:=3) rfl) (il x (n+2))) (gu (vi 3 _ rfl (by decide)) (vi 1 _ rfl (by decide)) (ab (i:=2) rfl) (ab (i:=3) rfl) (ir (n+2) y)) (dw (by rw[List.length_map,List.length_map,fH,fH];(first|lia|omega)))
   exact cu rfl hq
  ·have e:cH al n (.node s l r) x y=cH al (n+1) l x y++cH al (n+1+aV l) r x y:=by rw[cH,if_neg ht]
   rw[e,List.map_append]
   have hq:i6 (fC (m+1)) [.val (.tup [.int (cL s),.int ((n+2:Nat):Int),TL,TR]),.val (.int (x:Int)),.val (.int (y:Int)),.val (.int al)] []=some (.ret (.lst ((cH al (n+1) l x y).map nnD++(cH al (n+1+aV l) r x y).map nnD)),[.val (.tup [.int (cL s),.int ((n+2:Nat):Int),TL,TR]),.val (.int (x:Int)),.val (.int (y:Int)),.val (.int al)],[]):=by
    refine aO ((d5 (g:=aH) h1).trans rfl) (aO ((d5 (g:=aH) (h2.trans (by rw[decide_eq_false ht]))).trans rfl) (cx (d6 ?_)))
    rw[sM]
    exact aU (op:=.Add) (gu (vi 2 _ rfl (by decide)) (ab (i:=1) rfl) (ab (i:=2) rfl) (ab (i:=3) rfl) (il x y)) (gu (vi 3 _ rfl (by decide)) (ab (i:=1) rfl) (ab (i:=2) rfl) (ab (i:=3) rfl) (ir x y)) (dw (by rw[List.length_map,List.length_map,fH,fH];(first|lia|omega)))
   exact cu rfl hq
theorem yb{L:List Nat}{t:SP}(ht:cQ t≤3∧aV t≤3)(h:Γ[21]?=some (.val (fo L 0 t))):tq Γ c=some (.next,aT 22 (.lst ((cH 16 0 t 0 1).map nnD)) Γ,c):=
 bq (gu (ab h) ay ay ay (jN 16 t 8 0 0 1 (by(first|lia|omega)) (by(first|lia|omega))))
theorem yc{L:List Nat}{t:SP}(ht:cQ t≤3∧aV t≤3)(h:Γ[21]?=some (.val (fo L 0 t))):tu Γ c=some (.next,aT 23 (.lst ((cH 18 0 t 0 0).map nnD)) Γ,c):=
 bq (gu (ab h) ay ay ay (jN 18 t 8 0 0 0 (by(first|lia|omega)) (by(first|lia|omega))))
end
end Mine
namespace Mine
section
variable{Γ:List Slot}{c c1 c2 c3:List Cell}{p q r:PE}{ps:PL}{d a b:D}{ds:List D}{α:Type}
theorem sq{n:Int}(h:n.natAbs<2 ^ 32):PyData.weight (.int n)≤32:=by
 simp only[PyData.weight]
 split
 ·(first|lia|omega)
 ·rename_i h0
  have hn:n.natAbs≠0:=by
   intro q
   apply h0
   rw[Int.natAbs_eq_zero.mp q];rfl
  have:=(Nat.log2_lt hn).mpr h
  (first|lia|omega)
theorem lh:∀ns:List Int,(∀n∈ns,n.natAbs<2 ^ 32)→PyData.weightAll (ns.map PyData.int)≤33*ns.length∧PyData.canLayAll0 (ns.map PyData.int)=true∧PyData.depthAll (ns.map PyData.int)=0
 | [],_=>by simp[PyData.weightAll,PyData.canLayAll0,PyData.depthAll]
 | n::ns,h=>by
  obtain⟨h1,h2,h3⟩:=lh ns λx hx=>h x (.tail _ hx)
  have hw:=sq (h n (.head _))
  refine⟨?_,?_,?_⟩
  ·simp only[List.map_cons,PyData.weightAll,List.length_cons];(first|lia|omega)
  ·simp only[List.map_cons,PyData.canLayAll0,PyData.canLay0,h2,Bool.and_self]
  ·simp only[List.map_cons,PyData.depthAll,PyData.depth,h3];rfl
theorem xE{ns:List Int}(h:ns.length≤100)(hs:∀n∈ns,n.natAbs<2 ^ 32):(PyData.list (ns.map PyData.int)).layable0=true:=by
 obtain⟨h1,h2,h3⟩:=lh ns hs
 unfold PyData.layable0
 simp only[PyData.canLay0,PyData.depth,PyData.weight,h2,h3,Bool.true_and,Bool.and_eq_true,decide_eq_true_eq]
 refine⟨by(first|lia|omega),decide_eq_true ?_⟩
 have:(2:Nat) ^ 20=1048576:=by decide
 (first|lia|omega)
noncomputable abbrev bh(l:List Nat):List Int:=l.map λ(k:Nat)=>(k:Int)
theorem kr(l:List Nat):av l=dY (bh l):=by unfold av dY bh;rw[List.map_map];rfl
theorem xC{l:List Nat}{k:Int}(h:k∈bh l)(hl:l.length≤100∧∀x∈l,x<2 ^ 32):eH [av l,.int k]=some (.int ((bh l).idxOf k:Nat)):=by
 rw[kr]
 show (e7 ((bh l).map .int)).bind _=_
 rw[e8]
 simp only[Option.bind_some]
 rw[if_pos ⟨h,xE (by rw[List.length_map];exact hl.1) (λn hn=>by obtain⟨x,hx,rfl⟩:=List.mem_map.mp hn;exact hl.2 x hx)⟩]
theorem qb{l:List Nat}{k:Int}(h1:p Γ c=some (av l,c1))(h2:q Γ c1=some (.int k,c2))(h:k∈bh l)(hl:l.length≤100∧∀x∈l,x<2 ^ 32):bR "list" eH p (ag q aw) Γ c=some (.int ((bh l).idxOf k:Nat),c2):=gM h1 rfl (au h2 aB) (xC h hl)
theorem oO{f:Nat→Int}{R:List Nat}{k:Nat}(h:∀j∈R,f j=f k→j=k):(R.map f).idxOf (f k)=R.idxOf k:=by
 induction R with
 | nil=>rfl
 | cons j R ih=>
  rw[List.map_cons,List.idxOf_cons,List.idxOf_cons,ih λx hx=>h x (.tail _ hx)]
  by_cases e:j=k
  ·subst e
   rw[beq_self_eq_true,beq_self_eq_true]
  ·have h1:(f j==f k)=false:=beq_eq_false_iff_ne.mpr λq=>e (h j (.head _) q)
   have h2:(j==k)=false:=beq_eq_false_iff_ne.mpr e
   rw[h1,h2]
theorem Ba:∀a∈bC,∀b∈bC,fb a=fb b→a=b:=by decide +kernel
theorem Bb:∀s∈bC,bP ⟨#[s]⟩=some (fb s:Int):=by decide +kernel
noncomputable def fk(R:List Nat)(T k:Nat):Nat:=(bh R).idxOf (k:Int)+T
theorem rD{L:List Nat}(hL:∀ch∈L,ch<0x110000)(s:Nat)(hs:s<0x110000):fu .In (chD s) (sgD L)=some (decide (s∈L)):=by
 show dIn (chD s) (L.map chD)=_
 have h1:D.toPy (chD s)=some (.str ⟨#[s]⟩):=by
  simp only[D.toPy]
  rw[if_pos (by simp[PyData.strOk];omega (config:={}))]
 have h2:∀l:List Nat,(∀ch∈l,ch<0x110000)→di (l.map chD)=some (l.map λch=>.str ⟨#[ch]⟩)∧PyData.canLayAll0 (l.map λch=>PyData.str ⟨#[ch]⟩)=true∧PyData.depthAll (l.map λch=>PyData.str ⟨#[ch]⟩)=0:=by
  intro l
  induction l with
  | nil=>intro _;exact⟨rfl,by simp[PyData.canLayAll0],by simp[PyData.depthAll]⟩
  | cons ch l ih=>
   intro h
   obtain⟨i1,i2,i3⟩:=ih λx hx=>h x (.tail _ hx)
   have hok:PyData.strOk ⟨#[ch]⟩=true:=by simp[PyData.strOk];exact h ch (.head _)
   refine⟨?_,?_,?_⟩
   ·simp only[List.map_cons,di,D.toPy,hok,if_true,i1]
   ·simp only[List.map_cons,PyData.canLayAll0,PyData.canLay0,hok,i2,Bool.and_self]
   ·simp only[List.map_cons,PyData.depthAll,PyData.depth,i3];rfl
 obtain⟨i1,i2,i3⟩:=h2 L hL
 unfold dIn
 rw[h1,i1]
 dsimp only
 have hok:PyData.strOk ⟨#[s]⟩=true:=by simp[PyData.strOk];exact hs
 rw[if_pos (by rw[i2,i3];simp only[PyData.canLay0,hok];rfl)]
 congr 1
 rw[List.any_map]
 apply Bool.eq_iff_iff.mpr
 rw[List.any_eq_true,decide_eq_true_eq]
 constructor
 ·rintro ⟨x,hx,h⟩
  have:x=s:=by simpa [PyData.eqv] using h
  exact this▸hx
 ·intro h
  exact⟨s,h,by simp[PyData.eqv]⟩
noncomputable abbrev bt(P:Addr)(b:Bool):Cell:=.tab P rJ (cA++"<lambda>") b
noncomputable abbrev sS(u P:Addr):PE:=(mm 0 P rJ cA [none,none,some 3] (mn bP (aa 0)) (aa 1) (ao .Add (bR "list" eH (ba (aa 2) (ah 0)) (ag (aa 0) (aw))) (aa 1)))
noncomputable abbrev twice(n:Nat):D:=.tup [.int (n:Int),.int (n:Int)]
theorem z2{u P:Addr}{ord:List Nat}{sets w:D}{T s:Nat}{fl:Bool}(hs:s∈bC)(ho:(fb s:Int)∈bh ord)(hl:ord.length≤100∧∀x∈ord,x<2 ^ 32)(hc:c[0]?=some (bt P fl)) :
  sS u P [.val (chD s),.val (.int (T:Int)),.val w,.val (.tup [av ord,sets])] c=some (twice ((bh ord).idxOf (fb s:Int)+T),c.set 0 (bt P true)):=by
 unfold sS mm
 rw[ki (ab rfl) (Bb s hs)]
 simp only[Option.bind_some]
 rw[hc]
 simp only[]
 rw[if_pos ⟨trivial,trivial,trivial⟩,ab (i:=1) rfl]
 simp only[Option.bind_some]
 have e:ao .Add (bR "list" eH (ba (aa 2) (ah 0)) (ag (aa 0) (aw))) (aa 1) [.val (.int (fb s:Int)),.val (.int (T:Int)),.val (.tup [av ord,sets])] (c.set 0 (bt P true))=some (.int (((bh ord).idxOf (fb s:Int)+T:Nat):Int),c.set 0 (bt P true)):=
  dA (qb (fv (ab (i:=2) rfl) (ay (i:=0)) (kO (by decide) rfl)) (ab (i:=0) rfl) ho hl) (ab (i:=1) rfl)
 have hsf:setFrom 0 [.val (.int (fb s:Int)),.val (.int (T:Int))] (bS [none,none,some 3] [.val (chD s),.val (.int (T:Int)),.val w,.val (.tup [av ord,sets])])=[.val (.int (fb s:Int)),.val (.int (T:Int)),.val (.tup [av ord,sets])]:=rfl
 rw[hsf,e]
 simp only[Option.map_some,List.take_length]
theorem kl{u P:Addr}{ord L:List Nat}{sets:D}{T:Nat}(hL:∀ch∈L,ch∈bC)(ho:∀s∈L,(fb s:Int)∈bh ord)(hl:ord.length≤100∧∀x∈ord,x<2 ^ 32):∀(ss:List Nat) (w0:Slot) (c:List Cell) (fl:Bool),(∀s∈ss,s<0x110000)→c[0]?=some (bt P fl)→
  ∃Γ' fl',bN (.n 0) (aE .In (aa 0) (aa 2)) (aS (sS u P)) (ss.map chD) [w0,.val (.int (T:Int)),.val (sgD L),.val (.tup [av ord,sets])] c=some ((ss.filter (λs=>decide (s∈L))).map λs=>twice ((bh ord).idxOf (fb s:Int)+T),Γ',c.set 0 (bt P fl'))
 | [],w0,c,fl,_,hc=>⟨_,fl,by rw[set_same hc];rfl⟩
 | s::ss,w0,c,fl,hs,hc=>by
  have hlt:0<c.length:=(List.getElem?_eq_some_iff.mp hc).1
  have hp:∀ch∈bC,ch<0x110000:=by decide
  have t1:aE .In (aa 0) (aa 2) [.val (chD s),.val (.int (T:Int)),.val (sgD L),.val (.tup [av ord,sets])] c=some (decide (s∈L),c):=bc (ab (i:=0) rfl) (ab (i:=2) rfl) (rD (λch h=>hp ch (hL ch h)) s (hs s (.head _)))
  rw[List.map_cons]
  by_cases h:s∈L
  ·obtain⟨Γ',fl',e⟩:=kl hL ho hl ss (.val (chD s)) (c.set 0 (bt P true)) true (λx hx=>hs x (.tail _ hx)) (hH hlt)
   rw[List.set_set]at e
   refine⟨Γ',fl',?_⟩
   have e1:aS (sS u P) [.val (chD s),.val (.int (T:Int)),.val (sgD L),.val (.tup [av ord,sets])] c=some ([twice ((bh ord).idxOf (fb s:Int)+T)],[.val (chD s),.val (.int (T:Int)),.val (sgD L),.val (.tup [av ord,sets])],c.set 0 (bt P true)):=by
    unfold aS
    rw[z2 (hL s h) (ho s h) hl hc];rfl
   refine(iJ rfl (t1.trans (by rw[decide_eq_true h])) e1 e).trans ?_
   rw[List.filter_cons,if_pos (decide_eq_true h)];rfl
  ·obtain⟨Γ',fl',e⟩:=kl hL ho hl ss (.val (chD s)) c fl (λx hx=>hs x (.tail _ hx)) hc
   refine⟨Γ',fl',?_⟩
   rw[bN]
   simp only[dU,Option.bind_some]
   show Option.bind (aE .In (aa 0) (aa 2) [.val (chD s),.val (.int (T:Int)),.val (sgD L),.val (.tup [av ord,sets])] c) _=_
   rw[t1,decide_eq_false h]
   simp only[Option.bind_some,Bool.false_eq_true,if_false]
   show Option.map _ (bN _ _ _ _ [.val (chD s),.val (.int (T:Int)),.val (sgD L),.val (.tup [av ord,sets])] c)=_
   rw[e,List.filter_cons,if_neg (by simp[h])];rfl
theorem ij{L:List Nat}(hL:∀ch∈L,ch∈bC):∀t:SP,(∀i∈fZ t,i<L.length)→(code L t).filter (λs=>decide (s∈L))=(fZ t).map λi=>L.getD i 0
 | .leaf i,h=>by
  have:L.getD i 0∈L:=getD_mem (h i (.head _))
  show List.filter _ [L.getD i 0]=[L.getD i 0]
  rw[List.filter_cons,if_pos (decide_eq_true this)];rfl
 | .node s l r,h=>by
  have n1:∀x∈([40,41,42,124]:List Nat),x∉L:=by
   intro x hx hm
   have:∀x∈([40,41,42,124]:List Nat),x∉bC:=by decide
   exact this x hx (hL x hm)
  have hst:bF s∈([40,41,42,124]:List Nat):=by unfold bF;split<;>simp
  have il:=ij hL l λi hi=>h i (List.mem_append_left _ hi)
  have ir:=ij hL r λi hi=>h i (List.mem_append_right _ hi)
  show ([40]++code L l++[bF s]++code L r++[41]).filter _=_
  have f1:∀x∈([40,41,42,124]:List Nat),[x].filter (λs=>decide (s∈L))=[]:=by
   intro x hx
   rw[List.filter_cons,if_neg (by simp[n1 x hx])];rfl
  rw[List.filter_append,List.filter_append,List.filter_append,List.filter_append,il,ir,f1 40 (by simp),f1 41 (by simp),f1 _ hst]
  simp[fZ]
theorem yd{u P:Addr}{L R:List Nat}{t:SP}{sets:D}{T:Nat}{fl:Bool}(hR:R.Perm [0,1,2,3])(hL4:L.length=4)(hnd:L.Nodup)(hL:∀ch∈L,ch∈bC)(ht:fZ t=[0,1,2,3])(hlen:(code L t).length≤100)(hsm:∀s∈code L t,s<0x110000)
  (h2:Γ[2]?=some (.val (.int (T:Int)))) (h3:Γ[3]?=some (.val (sgD L))) (h14:Γ[14]?=some (.val (.tup [av (eK R L),sets]))) (h20:Γ[20]?=some (.val (sgD (code L t)))) (hc:c[0]?=some (bt P fl)) :
  ∃fl',tv u P Γ c=some (.next,aT 24 (.lst ([0,1,2,3].map λk=>twice (fk R T k))) Γ,c.set 0 (bt P fl')):=by
 have hcap:bS [none,some 2,some 3,some 14] Γ=[.un,.val (.int (T:Int)),.val (sgD L),.val (.tup [av (eK R L),sets])]:=by simp[bS,h2,h3,h14]
 have hRm:∀k,k∈R↔k<4:=by
  intro k
  rw[hR.mem_iff]
  simp only[List.mem_cons,List.not_mem_nil,or_false]
  (first|lia|omega)
 have ho:∀s∈L,(fb s:Int)∈bh (eK R L):=by
  intro s hs
  obtain⟨i,hi,rfl⟩:=List.getElem_of_mem hs
  refine List.mem_map.mpr ⟨fb L[i],List.mem_map.mpr ⟨i,(hRm i).mpr (by(first|lia|omega)),?_⟩,rfl⟩
  simp[List.getD,hi]
 have hsmall:∀x∈eK R L,x<2 ^ 32:=by
  intro x hx
  obtain⟨k,_,rfl⟩:=List.mem_map.mp hx
  unfold fb
  have:∀j,[14,15,17,19,20,21,22,24,31,32].getD j 0<2 ^ 32:=by
   intro j
   by_cases h:j<10
   ·have:∀j<10,[14,15,17,19,20,21,22,24,31,32].getD j 0<2 ^ 32:=by decide
    exact this j h
   ·rw[List.getD,List.getElem?_eq_none (by simp;(first|lia|omega))];decide
  exact this _
 obtain⟨Γ',fl',e⟩:=kl (u:=u) (P:=P) (T:=T) (sets:=sets) hL ho ⟨by unfold eK;rw[List.length_map,hR.length_eq];decide,hsmall⟩ (code L t) .un c fl hsm hc
 refine⟨fl',bq (ox (b7 (ab h20)) (by rw[hcap];exact e) ?_ |>.trans ?_)⟩
 ·rw[List.length_map]
  exact Nat.le_trans (List.length_filter_le _ _) (by(first|lia|omega))
 ·rw[ij hL t (by rw[ht];intro i hi;simp at hi;(first|lia|omega)),ht,List.map_map]
  have key:∀k∈([0,1,2,3]:List Nat),twice ((bh (eK R L)).idxOf (fb (L.getD k 0):Int)+T)=twice (fk R T k):=by
   intro k hk
   have hk4:k<4:=by simp at hk;(first|lia|omega)
   have e1:bh (eK R L)=R.map λk=>((fb (L.getD k 0):Nat):Int):=by unfold bh eK;rw[List.map_map];rfl
   have e2:(R.map λk=>((fb (L.getD k 0):Nat):Int)).idxOf ((fb (L.getD k 0):Nat):Int)=R.idxOf k:=oO (f:=λk=>((fb (L.getD k 0):Nat):Int)) λj hj h=>by
    have hj4:=(hRm j).mp hj
    have h1:fb (L.getD j 0)=fb (L.getD k 0):=by exact_mod_cast h
    have h2:=Ba _ (hL _ (getD_mem (by(first|lia|omega)))) _ (hL _ (getD_mem (by(first|lia|omega)))) h1
    have hj':j<L.length:=by(first|lia|omega)
    have hk':k<L.length:=by(first|lia|omega)
    simp only[List.getD,List.getElem?_eq_getElem hj',List.getElem?_eq_getElem hk',Option.getD_some]at h2
    exact(List.getElem_inj hnd).mp h2
   have e3:(bh R).idxOf (k:Int)=R.idxOf k:=oO (f:=λ(k:Nat)=>(k:Int)) λj _ h=>by exact_mod_cast h
   unfold fk
   rw[e1,e2,e3]
  show some (D.lst ([0,1,2,3].map _),_)=_
  congr 3
  exact List.map_congr_left key
end
end Mine
namespace Mine
section
variable{Γ:List Slot}{c c1 c2 c3:List Cell}{p q r:PE}{ps:PL}{d a b:D}{ds:List D}{α:Type}
theorem DA(n:Nat):(2:Int) ^ ((n:Int)).toNat=((2 ^ n:Nat):Int):=by rw[Int.toNat_natCast];simp
theorem iD{n:Nat}(hn:n≤900)(h:q Γ c=some (.int (n:Int),c1)):ao .Pow (ah 2) q Γ c=some (.int ((2 ^ n:Nat):Int),c1):=by
 have:=aU (op:=.Pow) (ay (Γ:=Γ) (c:=c) (i:=2)) h (tU ⟨by(first|lia|omega),by(first|lia|omega),by decide⟩)
 rw[DA]at this;exact this
theorem vT{i:Nat}(h:p Γ c=some (.lst ds,c1)):iF i p Γ c=some (.next,Γ.set i (.ref c1.length),c1++[.it ds]):=by unfold iF;rw[h];rfl
theorem Dj(x y:List Nat):av (x++y)=.lst (ntD x++ntD y):=by unfold av;rw[List.map_append]
noncomputable def iM(low:Nat)(ms:List Nat):List Nat:=ms.map λm=>m*2 ^ low
theorem qe{low:Nat}(hl:low≤12){m:Nat}(hm:m<16){w:Nat}(hw:w≤1):ao .Mult (aa 0) (ao .Pow (ah 2) (aa 1)) [.val (.int (m:Int)),.val (.int (low:Int))] c=some (.int ((m*2 ^ low:Nat):Int),c):=mf (ab (i:=0) rfl) (iD (by(first|lia|omega)) (ab (i:=1) rfl)) (by(first|lia|omega))
theorem Dz{low m:Nat}(hl:low≤12)(hm:m<16):m*2 ^ low≤61440:=by
 have:2 ^ low≤2 ^ 12:=Nat.pow_le_pow_right (by decide) hl
 have h2:m*2 ^ low≤15*2 ^ 12:=Nat.mul_le_mul (by(first|lia|omega)) this
 have:15*2 ^ 12=61440:=by decide
 (first|lia|omega)
noncomputable def eA(ord:List Nat)(low:Nat)(ms:List Nat):List Nat:=ord++ms.map λm=>256+m*2 ^ low
theorem xR{a0 a1 a2 a3 T low:Nat}{ord ms:List Nat}(hlow:low≤12)(hms:∀m∈ms,m<16)(hlen:ord.length+ms.length≤90)(h9:Γ[9]?=some (.val (av ord)))(h10:Γ[10]?=some (.val (.int (low:Int))))(h12:Γ[12]?=some (.val (av ms)))(h1:Γ[1]?=some (.val (bT a0 a1 a2 a3)))(h2:Γ[2]?=some (.val (.int (T:Int)))) :
  sV Γ c=some (.next,Γ.set 13 (.ref c.length),c++[.it (ntD (mL [a0,a1,a2,a3] T (eA ord low ms++[0]))++ntD [T % 256])]):=by
 have hcap:bS [none,some 10] Γ=[.un,.val (.int (low:Int))]:=by simp[bS,h10]
 have e1:=dn (Γ:=Γ) (c:=c) (js:=[none,some 10]) (i:=0) (p:=ao .Add (ah 256) (ao .Mult (aa 0) (ao .Pow (ah 2) (aa 1)))) (l:=ms) (g:=λ(k:Nat)=>D.int (k:Int)) (c1:=c) (λm=>D.int ((256+m*2 ^ low:Nat):Int)) (b7 (ab h12))
  (by rw[hcap];intro m hm;exact dA (ay (i:=((256:Nat):Int))) (qe hlow (hms m hm) (w:=0) (by decide))) (by(first|lia|omega))
 have e2:=aU (op:=.Add) (aU (op:=.Add) (ab h9) e1 (dw (by rw[List.length_map,List.length_map];(first|lia|omega)))) (aZ (au (ay (i:=((0:Nat):Int))) aB) (Nat.le_of_ble_eq_true rfl)) (dw (by rw[List.length_append,List.length_map,List.length_map];show _+1≤_;(first|lia|omega)))
 have e3:(D.lst ((ord.map λ(k:Nat)=>D.int (k:Int))++(ms.map λm=>D.int ((256+m*2 ^ low:Nat):Int))++[D.int ((0:Nat):Int)]))=av (eA ord low ms++[0]):=by
  unfold av eA
  rw[List.map_append,List.map_append,List.map_map];rfl
 rw[e3]at e2
 have e4:=lY e2 (ab h1) (ab h2) (vO (a0:=a0) (a1:=a1) (a2:=a2) (a3:=a3) (T:=T) (ns:=eA ord low ms++[0]) (by unfold eA;rw[List.length_append,List.length_append,List.length_map];simp only[List.length_cons,List.length_nil];(first|lia|omega)))
 have hlt:(mL [a0,a1,a2,a3] T (eA ord low ms++[0])).length≤400:=by
  unfold mL
  rw[gV,List.length_map,List.length_range]
  have:=oW [a0,a1,a2,a3] 0 (eA ord low ms++[0])
  unfold eA at this⊢
  rw[List.length_append (bs:=[0]),List.length_append,List.length_map]at this
  simp only[List.length_cons,List.length_nil]at this
  (first|lia|omega)
 exact vT (aU (op:=.Add) e4 (aZ (au (dq (ab h2) (ay (i:=((256:Nat):Int))) (by decide)) aB) (Nat.le_of_ble_eq_true rfl)) (dw (by rw[List.length_map];show _+1≤_;(first|lia|omega))))
theorem xS{as:List Nat}{T low k:Nat}{ord ms:List Nat}(hlow:low≤12)(hms:∀m∈ms,m<16)(hord:∀n∈ord,n≠0∧n<256)(hlen:ord.length+ms.length≤20)(h13:Γ[13]?=some (.ref k))(hk:c[k]?=some (.it (ntD (mL as T (eA ord low ms++[0]))++ntD [T % 256]))) :
  sW Γ c=some (.next,aT 14 (.tup [av ord,av (iM low ms)]) Γ,c.set k (.it (ntD [T % 256]))):=by
 have hb:∀n∈eA ord low ms++[0],n<262144:=by
  intro n hn
  unfold eA at hn
  rcases List.mem_append.mp hn with hn|hn
  ·rcases List.mem_append.mp hn with hn|hn
   ·have:=hord n hn;(first|lia|omega)
   ·obtain⟨m,hm,rfl⟩:=List.mem_map.mp hn
    have:=Dz hlow (hms m hm);(first|lia|omega)
  ·rw[List.mem_singleton.mp hn];decide
 have hz:∀n∈eA ord low ms,n≠0:=by
  intro n hn
  unfold eA at hn
  rcases List.mem_append.mp hn with hn|hn
  ·exact(hord n hn).1
  ·obtain⟨m,hm,rfl⟩:=List.mem_map.mp hn;(first|lia|omega)
 have:=zd (nU as T (eA ord low ms++[0]) 0 0 hb) hz (by unfold eA;rw[List.length_append,List.length_map];exact hlen) hk
 have f1:(eA ord low ms).filter (·<256)=ord:=by
  unfold eA
  rw[List.filter_append,List.filter_eq_self.mpr λn hn=>by simpa using (hord n hn).2,List.filter_eq_nil_iff.mpr,List.append_nil]
  intro n hn
  obtain⟨m,hm,rfl⟩:=List.mem_map.mp hn
  simp
 have f2:((eA ord low ms).filter (256≤·)).map (· - 256)=iM low ms:=by
  unfold eA
  rw[List.filter_append,(List.filter_eq_nil_iff (l:=ord)).mpr (λn hn=>by have:=(hord n hn).2;simpa using this),List.nil_append,List.filter_eq_self.mpr,List.map_map]
  ·unfold iM
   apply List.map_congr_left
   intro m _
   show 256+m*2 ^ low - 256=_
   (first|lia|omega)
  ·intro n hn
   obtain⟨m,hm,rfl⟩:=List.mem_map.mp hn
   simp
 rw[f1,f2]at this
 exact bq (gv (fN h13 eG) this)
theorem xT{T low k:Nat}{ord ms:List Nat}(hlow:low≤12)(hms:∀m∈ms,m<16)(hlen:ms.length≤100)(h9:Γ[9]?=some (.val (av ord)))(h10:Γ[10]?=some (.val (.int (low:Int))))(h12:Γ[12]?=some (.val (av ms)))(h2:Γ[2]?=some (.val (.int (T:Int))))(h13:Γ[13]?=some (.ref k))(h14:Γ[14]?=some (.val (.tup [av ord,av (iM low ms)])))(hk:c[k]?=some (.it (ntD [T % 256]))) :
  ∃cl as,sX Γ c=some (.next,Γ.set 15 (.ref c.length),c.set k cl++[.lst as])∧fI as∧as.length=2:=by
 have hcap:bS [none,some 10] Γ=[.un,.val (.int (low:Int))]:=by simp[bS,h10]
 have e1:=dn (Γ:=Γ) (c:=c) (js:=[none,some 10]) (i:=0) (p:=ao .Mult (aa 0) (ao .Pow (ah 2) (aa 1))) (l:=ms) (g:=λ(k:Nat)=>D.int (k:Int)) (c1:=c) (λm=>D.int ((m*2 ^ low:Nat):Int)) (b7 (ab h12))
  (by rw[hcap];intro m hm;exact qe hlow (hms m hm) (w:=0) (by decide)) (by(first|lia|omega))
 have e3:D.lst (ms.map λm=>D.int ((m*2 ^ low:Nat):Int))=av (iM low ms):=by unfold av iM;rw[List.map_map];rfl
 rw[e3]at e1
 have e4:i5 13 Γ c=some (.lst (ntD [T % 256]),c.set k (.raw λ_=>True)):=by
  unfold i5
  rw[h13]
  simp only[]
  rw[hk]
  rfl
 have h:=iH (i:=15) (au (ck (ab (c:=c) h14) (ck (ab h9) e1)) (au (ck e4 (aZ (au (dq (ab h2) (ay (i:=((256:Nat):Int))) (by decide)) aB) (Nat.le_of_ble_eq_true rfl))) aB)) (Nat.le_of_ble_eq_true rfl)
 rw[List.length_set]at h
 refine⟨_,_,h,?_,rfl⟩
 intro e he
 simp only[List.mem_cons,List.not_mem_nil,or_false]at he
 rcases he with rfl|rfl
 ·exact⟨_,rfl,(oJ (n:=1) (l5 _) (l5 _)).le (by decide)⟩
 ·exact⟨_,rfl,(l5 [T % 256]).le (by decide)⟩
theorem ye{k T:Nat}{R:List Nat}(hR:R.Perm [0,1,2,3])(h15:Γ[15]?=some (.ref k))(hk:c[k]?=some (.lst ds))(hd:ds.length≤99999)(h24:Γ[24]?=some (.val (.lst ([0,1,2,3].map λk=>twice (fk R T k)))))(h8:Γ[8]?=some (.val (av R)))(h2:Γ[2]?=some (.val (.int (T:Int)))) :
  ∃x,tx Γ c=some (.next,Γ,c.set k (.lst (ds++[.tup [x,x]])))∧GoodK 20 x:=by
 have hcap:bS [none,some 8,some 2] Γ=[.un,.val (av R),.val (.int (T:Int))]:=by simp[bS,h8,h2]
 have hRm:∀k,k∈R↔k<4:=by
  intro k
  rw[hR.mem_iff]
  simp only[List.mem_cons,List.not_mem_nil,or_false]
  (first|lia|omega)
 have hRl:R.length≤100∧∀x∈R,x<2 ^ 32:=⟨by rw[hR.length_eq];decide,λx hx=>by have:=(hRm x).mp hx;(first|lia|omega)⟩
 have e1:=dn (Γ:=Γ) (c:=c) (js:=[none,some 8,some 2]) (i:=0) (p:=de (ag (ao .Add (bR "list" eH (aa 1) (ag (aa 0) (aw))) (aa 2)) (ag (ao .Add (bR "list" eH (aa 1) (ag (aa 0) (aw))) (aa 2)) (aw)))) (l:=List.range 4) (g:=λ(k:Nat)=>D.int (k:Int)) (c1:=c) (λk=>twice (fk R T k)) (ez (n:=4) (by decide)) (by
   rw[hcap]
   intro j hj
   have hj':=List.mem_range.mp hj
   have hm:(j:Int)∈bh R:=List.mem_map.mpr ⟨j,(hRm j).mpr hj',rfl⟩
   have e:ao .Add (bR "list" eH (aa 1) (ag (aa 0) (aw))) (aa 2) [.val (.int (j:Int)),.val (av R),.val (.int (T:Int))] c=some (.int (fk R T j:Nat),c):=dA (qb (ab (i:=1) rfl) (ab (i:=0) rfl) hm hRl) (ab (i:=2) rfl)
   exact ck e e) (by decide)
 refine⟨.lst ([0,1,2,3].map λk=>twice (fk R T k)),kZ h15 hk (ck (ab h24) e1) hd,?_⟩
 exact(jR (n:=1) λd hd=>by obtain⟨j,_,rfl⟩:=List.mem_map.mp hd;exact oJ jf jf).le (by decide)
theorem yf{T:Nat}{R:List Nat}(h24:Γ[24]?=some (.val (.lst ([0,1,2,3].map λk=>twice (fk R T k))))):tA Γ c=some (.next,aT 25 (av ((List.range 4).map (fk R T))) Γ,c):=by
 refine bq ((dn (l:=[0,1,2,3]) (g:=λk=>twice (fk R T k)) (λk=>D.int (fk R T k:Nat)) (b7 (ab h24)) (λk _=>fv (ab (i:=0) rfl) (ay (i:=0)) (kO (by decide) rfl)) (by decide)).trans ?_)
 rfl
theorem nA{u:Addr}{d:D}:gG u [.val d,.val .none] c=some (.tup [.obj (.ref u),.str ⟨#[]⟩],c):=by
 have hq:r5 u [.val d,.val .none,.un,.un] c=some (.ret (.tup [.obj (.ref u),.str ⟨#[]⟩]),[.val d,.val .none,.un,.un],c):=
  cx ((d5 (bc (ab (i:=1) rfl) gN rfl)).trans (cx (d6 (ck rn bG))))
 unfold gG lG
 have hs:setFrom 0 ([.val d,.val .none]++[.un]) (List.replicate 4 .un)=[.val d,.val .none,.un,.un]:=rfl
 rw[hs,hq]
 show (some (_,c.take c.length):Option (D×List Cell))=_
 rw[List.take_length]
theorem yg{u P:Addr}{k T o:Nat}{ord:List Nat}(h15:Γ[15]?=some (.ref k))(hk:c[k]?=some (.lst ds))(hd:ds.length≤9000)(h9:Γ[9]?=some (.val (av (o::ord))))(h2:Γ[2]?=some (.val (.int (T:Int))))(hlen:26<Γ.length) :
  ∃w as,tB u P Γ c=some (.next,Γ.set 26 w,c.set k (.lst (ds++as)))∧fI as∧as.length=2:=by
 have p1:mj (gG u) (ah 0) fQ Γ c=some (.tup [.obj (.ref u),.str ⟨#[]⟩],c):=by
  unfold mj
  rw[ay];simp only[Option.bind_some];rw[gN];simp only[Option.bind_some];exact nA
 have p2:ml (gG u) (ba (aa 9) (ah 0)) fQ (aa 2) Γ c=some (.tup [.obj (.ref u),.str ⟨#[]⟩],c):=by
  have e9:ba (aa 9) (ah 0) Γ c=some (.int (o:Int),c):=cK (k:=0) (ab h9) ay (by decide) rfl
  unfold ml
  rw[e9];simp only[Option.bind_some];rw[gN];simp only[Option.bind_some];rw[ab h2];simp only[Option.bind_some];exact nA
 have hcl:k<c.length:=(List.getElem?_eq_some_iff.mp hk).1
 have body:∀(c:List Cell) (ds:List D),c[k]?=some (.lst ds)→ds.length≤9900→∀Γ:List Slot,Γ[15]?=some (.ref k)→Γ[26]?=some (.val (.tup [.obj (.ref u),.str ⟨#[]⟩]))→
   yh u P Γ c=some (.next,Γ,c.set k (.lst (ds++[.tup [.lst [.bool true,.tup [.str ⟨#[]⟩]],.lst [.bool true,.tup [.str ⟨#[]⟩]]]]))):=by
  intro c ds hk hd Γ h15 h26
  have e1:gB .Is (ba (aa 26) (ah 0)) (mX (.ref u)) Γ c=some (.bool true,c):=gb (fv (ab h26) (ay (i:=0)) (kO (by decide) rfl)) rn (if_pos rfl)
  have e2:aW (aa 26) (aQ (ah 1)) aA aA Γ c=some (.tup [.str ⟨#[]⟩],c):=cP (ab h26) (cz ay) bo bo rfl
  exact bD (kZ h15 hk (ck (aZ (au e1 (au e2 aB)) (Nat.le_of_ble_eq_true rfl)) (aZ (au cj (au (jt (au bG aB) (Nat.le_of_ble_eq_true rfl)) aB)) (Nat.le_of_ble_eq_true rfl))) (by(first|lia|omega))) rfl
 have s15:∀d,(aT 26 d Γ)[15]?=some (.ref k):=λd=>by unfold aT;rw[List.getElem?_set_ne (by decide)];exact h15
 have s26:∀d,(aT 26 d Γ)[26]?=some (.val d):=λd=>by unfold aT;exact List.getElem?_set_self hlen
 have b1:=body c ds hk (by(first|lia|omega)) (aT 26 (.tup [.obj (.ref u),.str ⟨#[]⟩]) Γ) (s15 _) (s26 _)
 have b2:=body _ _ (hH (x:=.lst (ds++[.tup [.lst [.bool true,.tup [.str ⟨#[]⟩]],.lst [.bool true,.tup [.str ⟨#[]⟩]]]])) hcl) (by rw[List.length_append];simp only[List.length_cons,List.length_nil];(first|lia|omega)) (aT 26 (.tup [.obj (.ref u),.str ⟨#[]⟩]) Γ) (s15 _) (s26 _)
 rw[List.set_set]at b2
 refine⟨.val (.tup [.obj (.ref u),.str ⟨#[]⟩]),[.tup [.lst [.bool true,.tup [.str ⟨#[]⟩]],.lst [.bool true,.tup [.str ⟨#[]⟩]]],.tup [.lst [.bool true,.tup [.str ⟨#[]⟩]],.lst [.bool true,.tup [.str ⟨#[]⟩]]]],?_,?_,rfl⟩
 ·rw[List.append_assoc]at b2
  exact iG (ds:=[.tup [.obj (.ref u),.str ⟨#[]⟩],.tup [.obj (.ref u),.str ⟨#[]⟩]]) (b7 (aZ (au p1 (au p2 aB)) (Nat.le_of_ble_eq_true rfl))) (bU rfl b1 (bU (Γ1:=aT 26 (.tup [.obj (.ref u),.str ⟨#[]⟩]) Γ) (by show some (aT 26 _ (aT 26 _ Γ))=_;rw[gE]) b2 Bq)) rfl
 ·have hg:GoodK 20 (.lst [.bool true,.tup [.str ⟨#[]⟩]]):=(jR (n:=1) λd hd=>by
   simp only[List.mem_cons,List.not_mem_nil,or_false]at hd
   rcases hd with rfl|rfl
   ·exact g_bool.le (by decide)
   ·exact Bt (n:=0) λd hd=>by rw[List.mem_singleton.mp hd];exact p0 (l:=[]) (by simp)).le (by decide)
  intro e he
  simp only[List.mem_cons,List.not_mem_nil,or_false]at he
  rcases he with rfl|rfl<;>exact⟨_,rfl,hg⟩
end
end Mine
namespace Mine
noncomputable abbrev fA:Str:=⟨#[44,32]⟩
noncomputable def eY(i:Int):Str:=baseText "0x" 16 i
noncomputable def nameOf(i:Nat):Str:=(c9 ((2 ^ i:Nat):Int)).getD (eY ((2 ^ i:Nat):Int))
noncomputable def bQ:Nat→Nat→Int→List Nat×Option Int
 | 0,_,F=>([],some F)
 | k+1,i,F=>if Builtin.bitAnd F ((2 ^ i:Nat):Int)≠0 then(if Builtin.bitXor F ((2 ^ i:Nat):Int)=0 then([i],none)else(i::(bQ k (i+1) (Builtin.bitXor F ((2 ^ i:Nat):Int))).1,(bQ k (i+1) (Builtin.bitXor F ((2 ^ i:Nat):Int))).2))
  else bQ k (i+1) F
theorem ky:∀(k i:Nat) (F:Int),(bQ k i F).1.length≤k
 | 0,_,_=>Nat.zero_le _
 | k+1,i,F=>by
  unfold bQ
  split
  ·split
   ·exact Nat.succ_le_succ (Nat.zero_le _)
   ·exact Nat.succ_le_succ (ky k (i+1) (Builtin.bitXor F ((2 ^ i:Nat):Int)))
  ·exact Nat.le_succ_of_le (ky k (i+1) F)
noncomputable def iI:Option Int→List Str
 | none=>[]
 | some F=>[eY F]
theorem hex_len:∀i<32,(eY ((2 ^ i:Nat):Int)).length≤100000:=by decide +kernel
section
variable{Γ:List Slot}{c c1 c2 c3:List Cell}{p q r:PE}{ps:PL}{d a b:D}{ds:List D}{α:Type}
theorem oN{i:Int}(h:(eY i).length≤100000):ll [.int i]=some (.str (eY i)):=if_pos h
theorem B8{i:Int}(h1:p Γ c=some (.int i,c1))(h2:q Γ c1=some (b,c2)):qm c9 p q Γ c=some (match c9 i with|some x=>.str x|none=>b,c2):=by
 unfold qm;rw[h1];simp only[Option.bind_some];rw[h2];simp only[Option.bind_some]
 cases c9 i<;>rfl
noncomputable abbrev prB:PS:=(ak (bf 3 (ao .LShift (ah 1) (aa 2))) (ak (qIf (cW (ao .BitAnd (aa 0) (aa 3))) (ak (dM 1 (qm c9 (aa 3) (bp ll (ag (aa 3) (aw))))) (ak (gj 0 .BitXor (aa 3)) (ak (qIf (nK (cW (aa 0))) (ak (Cr) (aH)) (aH)) (aH)))) (aH)) (aH)))
theorem zV{w0 w1 w3:Slot}{i:Nat}(hi:i<32):bf 3 (ao .LShift (ah 1) (aa 2)) [w0,w1,.val (.int (i:Int)),w3] c=some (.next,[w0,w1,.val (.int (i:Int)),.val (.int ((2 ^ i:Nat):Int))],c):=by
 have h:=aU (op:=.LShift) (ay (Γ:=[w0,w1,.val (.int (i:Int)),w3]) (c:=c) (i:=1)) (ab (i:=2) rfl) (Dl ⟨by(first|lia|omega),by(first|lia|omega),by decide⟩)
 rw[DA,Int.one_mul]at h
 exact bq h
theorem jy:∀(k i:Nat) (F:Int) (ns:List Str) (w3 w2:Slot),i+k≤32→ns.length+k≤1000→
  ∃Γ',Γ'[1]?=some (.ref 0)∧(((bQ k i F).2=none∧bH (.n 2) prB ((List.range k).map λj=>D.int ((i+j:Nat):Int)) [.val (.int F),.ref 0,w2,w3] [.lst (ns.map .str)]=some (.brk,Γ',[.lst ((ns++(bQ k i F).1.map nameOf).map .str)]))∨
   (∃G,(bQ k i F).2=some G∧Γ'[0]?=some (.val (.int G))∧bH (.n 2) prB ((List.range k).map λj=>D.int ((i+j:Nat):Int)) [.val (.int F),.ref 0,w2,w3] [.lst (ns.map .str)]=some (.next,Γ',[.lst ((ns++(bQ k i F).1.map nameOf).map .str)])))
 | 0,i,F,ns,w3,w2,_,_=>⟨_,rfl,.inr ⟨F,rfl,rfl,by simp[bQ];rfl⟩⟩
 | k+1,i,F,ns,w3,w2,hi,hn=>by
  have hr:(List.range (k+1)).map (λj=>D.int ((i+j:Nat):Int))=D.int (i:Int)::(List.range k).map λj=>D.int ((i+1+j:Nat):Int):=by
   rw[List.range_succ_eq_map,List.map_cons,List.map_map]
   refine congrArg (List.cons (D.int (i:Int))) (List.map_congr_left λj _=>?_)
   exact congrArg D.int (by show ((i+(j+1):Nat):Int)=_;(first|lia|omega))
  rw[hr]
  have hf:=λc=>zV (c:=c) (w0:=.val (.int F)) (w1:=.ref 0) (w3:=w3) (i:=i) (by(first|lia|omega))
  have ht:cW (ao .BitAnd (aa 0) (aa 3)) [.val (.int F),.ref 0,.val (.int (i:Int)),.val (.int ((2 ^ i:Nat):Int))] [.lst (ns.map .str)]=some (Builtin.bitAnd F ((2 ^ i:Nat):Int) != 0,[.lst (ns.map .str)]):=gO (aU (op:=.BitAnd) (ab (i:=0) rfl) (ab (i:=3) rfl) Bx) mO
  by_cases hb:Builtin.bitAnd F ((2 ^ i:Nat):Int)≠0
  ·have hname:qm c9 (aa 3) (bp ll (ag (aa 3) (aw))) [.val (.int F),.ref 0,.val (.int (i:Int)),.val (.int ((2 ^ i:Nat):Int))] [.lst (ns.map .str)]=some (.str (nameOf i),[.lst (ns.map .str)]):=by
    refine(B8 (ab (i:=3) rfl) (cy (au (ab (i:=3) rfl) aB) (oN (hex_len i (by(first|lia|omega)))))).trans ?_
    unfold nameOf
    cases c9 ((2 ^ i:Nat):Int)<;>rfl
   have happ:dM 1 (qm c9 (aa 3) (bp ll (ag (aa 3) (aw)))) [.val (.int F),.ref 0,.val (.int (i:Int)),.val (.int ((2 ^ i:Nat):Int))] [.lst (ns.map .str)]=some (.next,[.val (.int F),.ref 0,.val (.int (i:Int)),.val (.int ((2 ^ i:Nat):Int))],[.lst ((ns++[nameOf i]).map .str)]):=by
    refine(jk (k:=0) rfl ⟨_,rfl⟩ hname rfl (by rw[List.length_map];(first|lia|omega))).trans ?_
    rw[List.map_append];rfl
   have hx:gj 0 .BitXor (aa 3) [.val (.int F),.ref 0,.val (.int (i:Int)),.val (.int ((2 ^ i:Nat):Int))] [.lst ((ns++[nameOf i]).map .str)]=some (.next,[.val (.int (Builtin.bitXor F ((2 ^ i:Nat):Int))),.ref 0,.val (.int (i:Int)),.val (.int ((2 ^ i:Nat):Int))],[.lst ((ns++[nameOf i]).map .str)]):=qu rfl (ab (i:=3) rfl) rfl
   have hend:nK (cW (aa 0)) [.val (.int (Builtin.bitXor F ((2 ^ i:Nat):Int))),.ref 0,.val (.int (i:Int)),.val (.int ((2 ^ i:Nat):Int))] [.lst ((ns++[nameOf i]).map .str)]=some (!(Builtin.bitXor F ((2 ^ i:Nat):Int) != 0),[.lst ((ns++[nameOf i]).map .str)]):=zN (gO (ab (i:=0) rfl) mO)
   by_cases hz:Builtin.bitXor F ((2 ^ i:Nat):Int)=0
   ·have e:bQ (k+1) i F=([i],none):=by rw[bQ,if_pos hb,if_pos hz]
    rw[e]
    have e1:prB [.val (.int F),.ref 0,.val (.int (i:Int)),w3] [.lst (ns.map .str)]=some (.brk,[.val (.int (Builtin.bitXor F ((2 ^ i:Nat):Int))),.ref 0,.val (.int (i:Int)),.val (.int ((2 ^ i:Nat):Int))],[.lst ((ns++[nameOf i]).map .str)]):=by
     refine aO (hf _) (ey.trans ((eB (ht.trans (by rw[bne_iff_ne.mpr hb]))).trans (aO happ (aO hx (ey.trans ((eB (hend.trans (by rw[hz];rfl))).trans rfl))))))
    exact⟨_,rfl,.inl ⟨rfl,Dd rfl e1⟩⟩
   ·have e:bQ (k+1) i F=(i::(bQ k (i+1) (Builtin.bitXor F ((2 ^ i:Nat):Int))).1,(bQ k (i+1) (Builtin.bitXor F ((2 ^ i:Nat):Int))).2):=by rw[bQ,if_pos hb,if_neg hz]
    rw[e]
    have e1:prB [.val (.int F),.ref 0,.val (.int (i:Int)),w3] [.lst (ns.map .str)]=some (.next,[.val (.int (Builtin.bitXor F ((2 ^ i:Nat):Int))),.ref 0,.val (.int (i:Int)),.val (.int ((2 ^ i:Nat):Int))],[.lst ((ns++[nameOf i]).map .str)]):=by
     refine aO (hf _) (ey.trans ((eB (ht.trans (by rw[bne_iff_ne.mpr hb]))).trans (aO happ (aO hx (ey.trans ((d5 (g:=aH) (hend.trans (by rw[bne_iff_ne.mpr hz];rfl))).trans rfl))))))
    obtain⟨Γ',g1,h⟩:=jy k (i+1) (Builtin.bitXor F ((2 ^ i:Nat):Int)) (ns++[nameOf i]) (.val (.int ((2 ^ i:Nat):Int))) (.val (.int (i:Int))) (by(first|lia|omega)) (by rw[List.length_append];simp only[List.length_cons,List.length_nil];(first|lia|omega))
    rw[List.append_assoc]at h
    refine⟨Γ',g1,?_⟩
    rcases h with⟨h1,h2⟩|⟨G,h1,h2,h3⟩
    ·exact .inl ⟨h1,bU rfl e1 h2⟩
    ·exact .inr ⟨G,h1,h2,bU rfl e1 h3⟩
  ·have e:bQ (k+1) i F=bQ k (i+1) F:=by rw[bQ,if_neg hb]
   rw[e]
   have hb':Builtin.bitAnd F ((2 ^ i:Nat):Int)=0:=Decidable.of_not_not hb
   have e1:prB [.val (.int F),.ref 0,.val (.int (i:Int)),w3] [.lst (ns.map .str)]=some (.next,[.val (.int F),.ref 0,.val (.int (i:Int)),.val (.int ((2 ^ i:Nat):Int))],[.lst (ns.map .str)]):=
    aO (hf _) (ey.trans ((d5 (g:=aH) (ht.trans (by rw[hb'];rfl))).trans rfl))
   obtain⟨Γ',g1,h⟩:=jy k (i+1) F ns (.val (.int ((2 ^ i:Nat):Int))) (.val (.int (i:Int))) (by(first|lia|omega)) (by(first|lia|omega))
   refine⟨Γ',g1,?_⟩
   rcases h with⟨h1,h2⟩|⟨G,h1,h2,h3⟩
   ·exact .inl ⟨h1,bU rfl e1 h2⟩
   ·exact .inr ⟨G,h1,h2,bU rfl e1 h3⟩
theorem mN:∀ls:List Str,hZ (ls.map .str)=some ls
 | []=>rfl
 | l::ls=>by rw[List.map_cons,hZ,mN ls];rfl
noncomputable def gT(x:Str)(ls:List Str):Nat:=(ls.map (·.length)).sum+ls.length*x.length
theorem l8{x:Str}{ls:List Str}(h:gT x ls≤100000):cZ [.str x,.lst (ls.map .str)]=some (.str (Txt.join x ls)):=by
 show (hZ (ls.map .str)).bind _=_
 rw[mN]
 simp only[Option.bind_some]
 exact if_pos h
theorem kD{n:Int}(h:gT fA ((bQ 32 0 n).1.map nameOf++iI (bQ 32 0 n).2)≤100000)(h2:∀G,(bQ 32 0 n).2=some G→(eY G).length≤100000) :
  lL [.int n]=some (.str (Txt.join fA ((bQ 32 0 n).1.map nameOf++iI (bQ 32 0 n).2))):=by
 obtain⟨Γ',g1,hh⟩:=jy 32 0 n [] .un .un (by decide) (by decide)
 have hr:(List.range 32).map (λj=>D.int ((0+j:Nat):Int))=(List.range 32).map λk=>D.int (k:Nat):=List.map_congr_left λj _=>by rw[Nat.zero_add]
 rw[hr]at hh
 have hsrc:bw cN (ag (ah 32) aw) [.val (.int n),.ref 0,.un,.un] [.lst []]=some ((List.range 32).map (λk=>D.int (k:Nat)),[.lst []]):=ez (n:=32) (by decide)
 generalize hR:(List.range 32).map (λk=>D.int (k:Nat))=RR at hh hsrc
 have fin:∀ls:List Str,gT fA ls≤100000→∃c',ak (dS (bR "str" cZ (a8 ⟨#[44,32]⟩) (ag (aa 1) (aw)))) (aH) Γ' [.lst (ls.map .str)]=some (.ret (.str (Txt.join fA ls)),Γ',c'):=by
  intro ls hl
  exact⟨_,cx (d6 (gM bG rfl (au (gX g1 rfl) aB) (l8 hl)))⟩
 rcases hh with⟨h3,h4⟩|⟨G,h3,h4,h5⟩
 ·rw[h3]at h⊢
  have e0:(bQ 32 0 n).1.map nameOf++iI none=[]++(bQ 32 0 n).1.map nameOf:=by simp[iI]
  rw[e0]at h⊢
  obtain⟨c',hf⟩:=fin _ h
  exact cu rfl (aO (Γ1:=[.val (.int n),.ref 0,.un,.un]) (c1:=[.lst []]) (iH (c:=[]) aB (by decide)) (aO (Ct (ds:=RR) (c1:=[.lst []]) hsrc h4) hf))
 ·rw[h3]at h⊢
  have e0:(bQ 32 0 n).1.map nameOf++iI (some G)=([]++(bQ 32 0 n).1.map nameOf)++[eY G]:=by simp[iI]
  rw[e0]at h⊢
  obtain⟨c',hf⟩:=fin _ h
  have hl:=ky 32 0 n
  have hlast:ak (dM 1 (bp ll (ag (aa 0) (aw)))) (aH) Γ' [.lst (([]++(bQ 32 0 n).1.map nameOf).map .str)]=some (.next,Γ',[.lst ((([]++(bQ 32 0 n).1.map nameOf)++[eY G]).map .str)]):=by
   refine bD ((jk (k:=0) g1 ⟨_,rfl⟩ (cy (au (ab h4) aB) (oN (h2 G h3))) rfl (by rw[List.length_map,List.length_append,List.length_map];show 0+_≤_;(first|lia|omega))).trans ?_) rfl
   rw[List.map_append (l₂:=[eY G])];rfl
  exact cu rfl (aO (Γ1:=[.val (.int n),.ref 0,.un,.un]) (c1:=[.lst []]) (iH (c:=[]) aB (by decide)) (aO (iG (ds:=RR) (c1:=[.lst []]) hsrc h5 hlast) hf))
end
end Mine
namespace Mine
noncomputable def nameLit:List (List Nat):=[[79,80,84,73,77,73,90,69,68],[78,69,87,76,79,67,65,76,83],[86,65,82,65,82,71,83],[86,65,82,75,69,89,87,79,82,68,83],[78,69,83,84,69,68],[71,69,78,69,82,65,84,79,82],[78,79,70,82,69,69],[67,79,82,79,85,84,73,78,69],[73,84,69,82,65,66,76,69,95,67,79,82,79,85,84,73,78,69],[65,83,89,78,67,95,71,69,78,69,82,65,84,79,82],[48,120,52,48,48],[48,120,56,48,48],[48,120,49,48,48,48],[48,120,50,48,48,48],[48,120,52,48,48,48],[48,120,56,48,48,48],[48,120,49,48,48,48,48],[48,120,50,48,48,48,48],[48,120,52,48,48,48,48],[48,120,56,48,48,48,48],[48,120,49,48,48,48,48,48],[48,120,50,48,48,48,48,48],[48,120,52,48,48,48,48,48],[48,120,56,48,48,48,48,48],[48,120,49,48,48,48,48,48,48],[48,120,50,48,48,48,48,48,48],[48,120,52,48,48,48,48,48,48],[48,120,56,48,48,48,48,48,48],[48,120,49,48,48,48,48,48,48,48],[48,120,50,48,48,48,48,48,48,48],[48,120,52,48,48,48,48,48,48,48],[48,120,56,48,48,48,48,48,48,48]]
noncomputable def ix:List (List Nat)→List Nat
 | []=>[]
 | [x]=>x
 | x::r=>x++[44,32]++ix r
noncomputable def cG(m:Nat):List Nat:=(List.range 4).filter λk=>decide (m / 2 ^ k % 2=1)
noncomputable def dF(low k:Nat):List Nat:=nameLit.getD (low+k) []
noncomputable def dE(m low:Nat):List Nat:=if m=0 then[48,120,48]else ix ((cG m).map (dF low))
noncomputable def xb(n:Nat)(k:Nat→Bool):Bool:=match n with
 | 0=>k 0
 | m+1=>k (m+1)
noncomputable def gQ:List Nat→(List Nat→Bool)→Bool
 | [],k=>k []
 | x::xs,k=>xb x λy=>gQ xs λys=>k (y::ys)
noncomputable def oH:List Str→(List Str→Bool)→Bool
 | [],k=>k []
 | s::ss,k=>gQ s.cps.toList λl=>oH ss λr=>k (bg l::r)
theorem uV(n:Nat)(k:Nat→Bool):xb n k=k n:=by cases n<;>rfl
theorem eW:∀(l:List Nat) (k:List Nat→Bool),gQ l k=k l
 | [],k=>rfl
 | x::xs,k=>by rw[gQ,uV,eW xs]
theorem nx:∀(l:List Str) (k:List Str→Bool),oH l k=k l
 | [],k=>rfl
 | s::ss,k=>by rw[oH,eW,nx ss]
noncomputable def tZ(m low:Nat)(ps:List Str):Bool:=decide (ps.length≤10) && (ps.all PyData.strOk && (List.range 4).all λk=>decide (bg (dF low k)∈ps)==decide (m / 2 ^ k % 2=1))
noncomputable def fj(m low:Nat):Bool:=gQ (dE m low) λl=>decide (l.length≤1000) && (decide (l.length≠0) && (l.all (·<0x110000) && oH (Txt.split (bg l) fA) (tZ m low)))
theorem vS{m low:Nat}(h:fj m low=true):(dE m low).length≤1000∧(dE m low).length≠0∧(∀ch∈dE m low,ch<0x110000)∧(Txt.split (bg (dE m low)) fA).length≤10∧(∀y∈Txt.split (bg (dE m low)) fA,PyData.strOk y=true)∧
  ∀k<4,decide (bg (dF low k)∈Txt.split (bg (dE m low)) fA)=decide (m / 2 ^ k % 2=1):=by
 unfold fj at h
 rw[eW,nx]at h
 unfold tZ at h
 simp only[Bool.and_eq_true,decide_eq_true_eq,List.all_eq_true,beq_iff_eq,List.mem_range]at h
 obtain⟨h1,h2,h3,h4,h5,h6⟩:=h
 exact⟨h1,h2,λch hc=>by simpa using h3 ch hc,h4,h5,h6⟩
theorem Dn:∀m<16,fj m 0=true:=by decide +kernel
theorem Dp:∀m<16,fj m 1=true:=by decide +kernel
theorem Dq:∀m<16,fj m 2=true:=by decide +kernel
theorem Dr:∀m<16,fj m 3=true:=by decide +kernel
theorem Ds:∀m<16,fj m 4=true:=by decide +kernel
theorem Dt:∀m<16,fj m 5=true:=by decide +kernel
theorem Du:∀m<16,fj m 6=true:=by decide +kernel
theorem Dv:∀m<16,fj m 7=true:=by decide +kernel
theorem Dw:∀m<16,fj m 8=true:=by decide +kernel
theorem Dx:∀m<16,fj m 9=true:=by decide +kernel
theorem Cj:∀m<16,fj m 10=true:=by decide +kernel
theorem Ck:∀m<16,fj m 11=true:=by decide +kernel
theorem Cm:∀m<16,fj m 12=true:=by decide +kernel
theorem BD{m low:Nat}(hm:m<16)(hl:low<13):fj m low=true:=
 (show ∀k∈([0,1,2,3,4,5,6,7,8,9,10,11,12]:List Nat),∀m<16,fj m k=true from List.forall_mem_cons.mpr ⟨Dn,List.forall_mem_cons.mpr ⟨Dp,List.forall_mem_cons.mpr ⟨Dq,List.forall_mem_cons.mpr ⟨Dr,List.forall_mem_cons.mpr ⟨Ds,List.forall_mem_cons.mpr ⟨Dt,List.forall_mem_cons.mpr ⟨Du,List.forall_mem_cons.mpr ⟨Dv,List.forall_mem_cons.mpr ⟨Dw,List.forall_mem_cons.mpr ⟨Dx,List.forall_mem_cons.mpr ⟨Cj,List.forall_mem_cons.mpr ⟨Ck,List.forall_mem_cons.mpr ⟨Cm,List.forall_mem_nil _⟩⟩⟩⟩⟩⟩⟩⟩⟩⟩⟩⟩⟩) low (List.mem_range.mpr hl) m hm
theorem nD:nameLit.map bg=(List.range 32).map nameOf:=by decide +kernel
theorem AD{i:Nat}(hi:i<32):nameOf i=bg (nameLit.getD i []):=by
 have h:=congrArg (λl:List Str=>l[i]?) nD
 have hl:nameLit.length=32:=by decide
 simp only[List.getElem?_map,List.getElem?_range hi,Option.map_some]at h
 rw[List.getElem?_eq_getElem (by(first|lia|omega))]at h
 simp only[Option.map_some,Option.some.injEq]at h
 rw[←h,List.getD,List.getElem?_eq_getElem (by(first|lia|omega))];rfl
theorem AB:∀m<16,∀low<13,bQ 32 0 ((m*2 ^ low:Nat):Int)=((cG m).map (low+·),if m=0 then some 0 else none):=by decide +kernel
noncomputable def dQ(f:Nat):Int:=((f:Int) - 3)*2 ^ 32
theorem wY:∀f<5,bQ 32 0 (2 ^ 32 - 1+dQ f)=(List.range 32,if dQ f=0 then none else some (dQ f)):=by decide +kernel
theorem zT:∀f<5,(eY (dQ f)).length≤100∧PyData.strOk (eY (dQ f))=true:=by decide +kernel
theorem yz:(∀l∈nameLit,l.length≤40)∧nameLit.length=32∧∀l∈nameLit,∀ch∈l,ch<0x110000:=by decide +kernel
theorem iy:∀ls:List (List Nat),Txt.join fA (ls.map bg)=bg (ix ls):=by
 intro ls
 rw[join_eq]
 induction ls with
 | nil=>rfl
 | cons x ls ih=>
  cases ls with
  | nil=>rfl
  | cons y r=>
   show bg x++fA++Str.join fA ((y::r).map bg)=_
   rw[ih]
   show bg x++bg [44,32]++bg (ix (y::r))=_
   rw[jZ,jZ];rfl
end Mine
namespace Mine
section
variable{Γ:List Slot}{c c1 c2 c3:List Cell}{p q r:PE}{ps:PL}{d a b:D}{ds:List D}{α:Type}
theorem fe{i j:Nat}(h:i≠j):(aT i d Γ)[j]?=Γ[j]?:=by unfold aT;exact List.getElem?_set_ne h
theorem g9{i:Nat}(h:i<Γ.length):(aT i d Γ)[i]?=some (.val d):=by unfold aT;exact List.getElem?_set_self h
noncomputable abbrev eJ:D:=.lst (nameLit.map aF)
theorem zZ:(List.range 22).map (λj=>eY ((2 ^ (10+j):Nat):Int))=(nameLit.drop 10).map bg:=by decide +kernel
theorem vB:∀j<22,(eY ((2 ^ (10+j):Nat):Int)).length≤100000:=by decide +kernel
theorem yi:tC Γ c=some (.next,aT 27 eJ Γ,c):=by
 refine bq ?_
 have e1:=dn (Γ:=Γ) (c:=c) (js:=[none]) (i:=0) (p:=bp ll (ag (ao .Pow (ah 2) (aa 0)) (aw))) (l:=List.range 22) (g:=λ(k:Nat)=>D.int (10+(k:Int))) (c1:=c) (λj=>D.str (eY ((2 ^ (10+j):Nat):Int)))
  (fL (au (ay (i:=10)) (au (ay (i:=32)) aB)) ((fr2 (by decide) (by decide)).trans rfl)) (by
   intro j hj
   have hj':=List.mem_range.mp hj
   refine cy (au (iD (n:=10+j) (by(first|lia|omega)) ?_) aB) (oN (vB j hj'))
   refine(ab (i:=0) rfl).trans ?_
   congr 3) (by decide)
 refine(aU (op:=.Add) (aZ (au bG (au bG (au bG (au bG (au bG (au bG (au bG (au bG (au bG (au bG aB)))))))))) (Nat.le_of_ble_eq_true rfl)) e1 (dw (Nat.le_of_ble_eq_true rfl))).trans ?_
 have h:=congrArg (List.map D.str) zZ
 rw[List.map_map,List.map_map]at h
 have h2:(List.range 22).map (λj=>D.str (eY ((2 ^ (10+j):Nat):Int)))=(nameLit.drop 10).map aF:=h
 rw[h2]
 rfl
noncomputable def eR(low:Nat):List (List Nat):=(List.range 4).map (dF low)
theorem wj:∀low<13,(nameLit.take (low+4)).drop low=eR low:=by decide +kernel
theorem yj{low:Nat}(hl:low<13)(h27:Γ[27]?=some (.val eJ))(h10:Γ[10]?=some (.val (.int (low:Int)))):tD Γ c=some (.next,aT 28 (.lst ((eR low).map aF)) Γ,c):=by
 have hn:nameLit.length=32:=by decide
 refine bq ((lI (l:=nameLit) (f:=aF) (i:=low) (k:=low+4) (ab h27) (ab h10) (dA (ab h10) (ay (i:=((4:Nat):Int)))) (by(first|lia|omega)) (by(first|lia|omega)) (by(first|lia|omega))).trans ?_)
 rw[wj low hl]
theorem kQ{B:Nat}(hB:44<B):∀ls:List (List Nat),(∀l∈ls,∀ch∈l,ch<B)→∀ch∈ix ls,ch<B
 | [],_,ch,h=>by cases h
 | [x],h,ch,hc=>h x (.head _) ch hc
 | x::y::r,h,ch,hc=>by
  have hc':ch∈x++[44,32]++ix (y::r):=hc
  rcases List.mem_append.mp hc' with hc|hc
  ·rcases List.mem_append.mp hc with hc|hc
   ·exact h x (.head _) ch hc
   ·simp only[List.mem_cons,List.not_mem_nil,or_false]at hc;(first|lia|omega)
  ·exact kQ hB (y::r) (λl hl=>h l (.tail _ hl)) ch hc
theorem um:∀ls:List (List Nat),(∀l∈ls,l.length≤100)→gT fA (ls.map bg)≤102*ls.length:=by
 intro ls
 unfold gT
 rw[List.length_map,List.map_map,show fA.length=2 from rfl]
 induction ls with
 | nil=>intro _;exact Nat.le_refl _
 | cons x ls ih=>
  intro h
  have:=ih λl hl=>h l (.tail _ hl)
  have hx:=h x (.head _)
  rw[List.map_cons,List.sum_cons,List.length_cons]
  show (bg x).length+_+_≤_
  rw[len_str]
  (first|lia|omega)
theorem qL(x:Str):bg x.cps.toList=x:=by cases x;simp[bg]
theorem wC{a b:Int}:fu .NotEq (.int a) (.int b)=some (a != b):=rfl
theorem yk{T k:Nat}(h15:Γ[15]?=some (.ref k))(hk:c[k]?=some (.lst ds))(hd:ds.length≤99999)(h11:Γ[11]?=some (.val (.int (wX T))))(h27:Γ[27]?=some (.val eJ)):∃x,tE Γ c=some (.next,Γ,c.set k (.lst (ds++[.tup [x,x]])))∧GoodK 20 x:=by
 have hf:T / 13 % 5<5:=Nat.mod_lt _ (by decide)
 have hfar:wX T=dQ (T / 13 % 5):=rfl
 rw[hfar]at h11
 generalize T / 13 % 5=f at hf h11
 have hloop:=wY f hf
 obtain⟨hh1,hh2⟩:=zT f hf
 obtain⟨l1,l2,l3⟩:=yz
 have hnames:(List.range 32).map nameOf=nameLit.map bg:=nD.symm
 have hrest:iI (bQ 32 0 (2 ^ 32 - 1+dQ f)).2=((if dQ f=0 then[]else[(eY (dQ f)).cps.toList]):List (List Nat)).map bg:=by
  rw[hloop]
  by_cases h:dQ f=0
  ·rw[if_pos h,if_pos h];rfl
  ·rw[if_neg h,if_neg h]
   show [eY (dQ f)]=[bg _]
   rw[qL]
 have hall:(bQ 32 0 (2 ^ 32 - 1+dQ f)).1.map nameOf++iI (bQ 32 0 (2 ^ 32 - 1+dQ f)).2=(nameLit++if dQ f=0 then[]else[(eY (dQ f)).cps.toList]).map bg:=by
  rw[hrest,List.map_append,hloop,hnames]
 have hsmall:∀l∈(nameLit++if dQ f=0 then[]else[(eY (dQ f)).cps.toList]),l.length≤100∧∀ch∈l,ch<0x110000:=by
  intro l hl
  rcases List.mem_append.mp hl with hl|hl
  ·exact⟨Nat.le_trans (l1 l hl) (by decide),l3 l hl⟩
  ·by_cases h:dQ f=0
   ·rw[if_pos h]at hl;cases hl
   ·rw[if_neg h]at hl
    rw[List.mem_singleton.mp hl]
    refine⟨by have:=hh1;unfold Str.length at this;rw[Array.length_toList];exact this,?_⟩
    unfold PyData.strOk at hh2
    intro ch hc
    have:=Array.all_eq_true_iff_forall_mem.mp hh2 ch (Array.mem_toList_iff.mp hc)
    simpa using this
 have hlen:(nameLit++if dQ f=0 then[]else[(eY (dQ f)).cps.toList]).length≤33:=by
  rw[List.length_append]
  by_cases h:dQ f=0
  ·rw[if_pos h];simp;(first|lia|omega)
  ·rw[if_neg h];simp;(first|lia|omega)
 have hjl:gT fA ((nameLit++if dQ f=0 then[]else[(eY (dQ f)).cps.toList]).map bg)≤100000:=by
  have:=um _ λl hl=>(hsmall l hl).1
  (first|lia|omega)
 have hp:=kD (n:=2 ^ 32 - 1+dQ f) (by rw[hall];exact hjl) (by
  intro G hG
  rw[hloop]at hG
  by_cases h:dQ f=0
  ·rw[if_pos h]at hG;cases hG
  ·rw[if_neg h]at hG
   cases hG;(first|lia|omega))
 rw[hall,iy]at hp
 refine⟨aF (ix (nameLit++if dQ f=0 then[]else[(eY (dQ f)).cps.toList])),kZ h15 hk (ck (c1:=c) ?_ ?_) hd,(p0 (kQ (by decide) _ λl hl=>(hsmall l hl).2)).le (by decide)⟩
 ·exact cO (aU (op:=.Add) (aU (op:=.Sub) (aU (op:=.Pow) (ay (i:=2)) (ay (i:=32)) (tU (by decide))) (ay (i:=1)) ji) (ab h11) tS) hp
 ·have hne:aE .NotEq (aa 11) (ah 0) Γ c=some (dQ f != 0,c):=bc (ab h11) ay wC
  have hif:pIf (aE .NotEq (aa 11) (ah 0)) (aM (ag (bp ll (ag (aa 11) (aw))) (aw))) (aM (aw)) Γ c=some (.lst ((if dQ f=0 then[]else[(eY (dQ f)).cps.toList]:List (List Nat)).map aF),c):=by
   by_cases h:dQ f=0
   ·rw[if_pos h]
    exact fx (hne.trans (by rw[h];rfl)) (aZ aB (Nat.le_of_ble_eq_true rfl))
   ·rw[if_neg h]
    refine(fM (hne.trans (by rw[bne_iff_ne.mpr h])) (aZ (au (cy (au (ab h11) aB) (oN (by(first|lia|omega)))) aB) (Nat.le_of_ble_eq_true rfl))).trans ?_
    show some (D.lst [.str (eY (dQ f))],c)=some (D.lst [.str (bg _)],c)
    rw[qL]
  have hcat:=aU (op:=.Add) (ab (c:=c) h27) hif (dw (by rw[List.length_map,List.length_map,←List.length_append];(first|lia|omega)))
  rw[←List.map_append]at hcat
  refine gM bG rfl (au hcat aB) ?_
  have:=l8 (x:=fA) (ls:=(nameLit++if dQ f=0 then[]else[(eY (dQ f)).cps.toList]).map bg) hjl
  rw[iy,List.map_map]at this
  exact this
end
end Mine
namespace Mine
section
variable{Γ:List Slot}{c c1 c2 c3:List Cell}{p q r:PE}{ps:PL}{d a b:D}{ds:List D}{α:Type}
theorem wi(low:Nat):(eR low).length=4:=by unfold eR;rw[List.length_map,List.length_range]
theorem zj{low k:Nat}(hk:k<4):(eR low).getD k []=dF low k:=by
 unfold eR
 rw[List.getD,List.getElem?_map,List.getElem?_range hk];rfl
theorem lj(low k:Nat):(dF low k).length≤40∧∀ch∈dF low k,ch<0x110000:=by
 obtain⟨l1,l2,l3⟩:=yz
 unfold dF
 by_cases h:low+k<nameLit.length
 ·rw[List.getD,List.getElem?_eq_getElem h]
  exact⟨l1 _ (List.getElem_mem h),l3 _ (List.getElem_mem h)⟩
 ·rw[List.getD,List.getElem?_eq_none (by(first|lia|omega))]
  exact⟨Nat.zero_le _,by intro ch h;cases h⟩
theorem y9{x:Str}(h:x.length≤100000)(h2:(Txt.split x fA).length≤100000):oE [.str x,.str fA]=some (.lst ((Txt.split x fA).map .str)):=if_pos ⟨by decide,h,h2⟩
theorem z1{w:Str}{parts:List Str}(hw:PyData.strOk w=true)(hp:∀y∈parts,PyData.strOk y=true):fu .In (.str w) (.lst (parts.map .str))=some (decide (w∈parts)):=by
 show dIn (.str w) (parts.map .str)=_
 have h1:D.toPy (.str w)=some (.str w):=by simp only[D.toPy,hw,if_true]
 have h2:∀l:List Str,(∀y∈l,PyData.strOk y=true)→di (l.map .str)=some (l.map .str)∧PyData.canLayAll0 (l.map PyData.str)=true∧PyData.depthAll (l.map PyData.str)=0:=by
  intro l
  induction l with
  | nil=>intro _;exact⟨rfl,by simp[PyData.canLayAll0],by simp[PyData.depthAll]⟩
  | cons y l ih=>
   intro h
   obtain⟨i1,i2,i3⟩:=ih λx hx=>h x (.tail _ hx)
   have hok:=h y (.head _)
   refine⟨?_,?_,?_⟩
   ·simp only[List.map_cons,di,D.toPy,hok,if_true,i1]
   ·simp only[List.map_cons,PyData.canLayAll0,PyData.canLay0,hok,i2,Bool.and_self]
   ·simp only[List.map_cons,PyData.depthAll,PyData.depth,i3];rfl
 obtain⟨i1,i2,i3⟩:=h2 parts hp
 unfold dIn
 rw[h1,i1]
 dsimp only
 rw[if_pos (by rw[i2,i3];simp only[PyData.canLay0,hw];rfl)]
 congr 1
 rw[List.any_map]
 apply Bool.eq_iff_iff.mpr
 rw[List.any_eq_true,decide_eq_true_eq]
 constructor
 ·rintro ⟨x,hx,h⟩
  have:x=w:=by simpa [PyData.eqv] using h
  exact this▸hx
 ·intro h
  exact⟨w,h,by simp[PyData.eqv]⟩
theorem wA:∀m<16,((cG m).map λk=>((2 ^ k:Nat):Int)).sum=(m:Int)∧dT ((cG m).map λk=>((2 ^ k:Nat):Int))=true:=by decide +kernel
theorem zq{m k:Nat}(h:k∈cG m):k<4:=List.mem_range.mp (List.mem_filter.mp h).1
theorem CX:∀m<16,(cG m=[]↔m=0):=by decide
theorem wz{m k:Nat}{w1:Slot}(hk:k<4):aE .Eq (ao .Mod (ao .FloorDiv (aa 2) (ao .Pow (ah 2) (aa 0))) (ah 2)) (ah 1) [.val (.int (k:Int)),w1,.val (.int (m:Int))] c=some (decide (m / 2 ^ k % 2=1),c):=by
 have h:=aU (op:=.FloorDiv) (ab (Γ:=[.val (.int (k:Int)),w1,.val (.int (m:Int))]) (c:=c) (i:=2) rfl) (iD (n:=k) (by(first|lia|omega)) (ab (i:=0) rfl)) (tT (by
  have h1:2 ^ k≤2 ^ 4:=Nat.pow_le_pow_right (by decide) (by(first|lia|omega))
  have h2:0<2 ^ k:=Nat.pow_pos (by decide)
  generalize 2 ^ k=z at h1 h2
  have:(2:Nat) ^ 4=16:=by decide
  (first|lia|omega)))
 rw[jQ]at h
 refine(bc (dq h (ay (i:=((2:Nat):Int))) (by decide)) (ay (i:=1)) jb).trans ?_
 congr 2
 by_cases hh:m / 2 ^ k % 2=1
 ·rw[hh];rfl
 ·rw[decide_eq_false hh];exact beq_eq_false_iff_ne.mpr (by(first|lia|omega))
theorem lW{low:Nat}:eT ((eR low).map aF)=(List.range 4).map λk=>(D.int (k:Nat),aF (dF low k)):=by
 rw[eV,wi]
 apply List.map_congr_left
 intro k hk
 have:=zj (low:=low) (List.mem_range.mp hk)
 show (D.int (k:Nat),aF ((eR low).getD k default))=_
 rw[show (eR low).getD k default=(eR low).getD k []from rfl,this]
theorem vH{low m ka ks:Nat}{as ss:List D}(hl:low<13)(hm:m<16)(hne:ka≠ks)(hG:Γ.length=39)(h28:Γ[28]?=some (.val (.lst ((eR low).map aF))))(h30:Γ[30]?=some (.val (.int ((m*2 ^ low:Nat):Int))))(h31:Γ[31]?=some (.val (.int (m:Int))))(h15:Γ[15]?=some (.ref ka))(h29:Γ[29]?=some (.ref ks))
  (ha:c[ka]?=some (.lst as)) (hs:c[ks]?=some (.lst ss)) (hla:as.length≤9000) (hls:ss.length≤9000) :
  ∃x Γ',rK Γ c=some (.next,Γ',(c.set ka (.lst (as++[.tup [x,x]]))).set ks (.lst (ss++[.int (m:Int)])))∧GoodK 20 x∧Γ'.length=39∧∀j,j≠32→j≠33→Γ'[j]?=Γ[j]?:=by
 obtain⟨k1,k2,k3,k4,k5,k6⟩:=vS (BD hm hl)
 have hloop:=AB m hm low hl
 have hka:ka<c.length:=(List.getElem?_eq_some_iff.mp ha).1
 have hks:ks<c.length:=(List.getElem?_eq_some_iff.mp hs).1
 have hwn:(cG m).map (λk=>nameOf (low+k))=((cG m).map (dF low)).map bg:=by
  rw[List.map_map]
  apply List.map_congr_left
  intro k hk
  have:=zq hk
  exact AD (by(first|lia|omega))
 have hsel:gT fA (((cG m).map (dF low)).map bg)≤100000:=by
  have h1:=um ((cG m).map (dF low)) (λl hl=>by obtain⟨k,_,rfl⟩:=List.mem_map.mp hl;exact Nat.le_trans (lj low k).1 (by decide))
  have h2:((cG m).map (dF low)).length≤4:=by rw[List.length_map];exact Nat.le_trans (List.length_filter_le _ _) (by rw[List.length_range];exact Nat.le_refl _)
  (first|lia|omega)
 have hsaid:lL [.int ((m*2 ^ low:Nat):Int)]=some (aF (dE m low)):=by
  have e1:(bQ 32 0 ((m*2 ^ low:Nat):Int)).1.map nameOf=((cG m).map (dF low)).map bg:=by
   rw[hloop,List.map_map];exact hwn
  by_cases h0:m=0
  ·subst h0
   have e2:(bQ 32 0 ((0*2 ^ low:Nat):Int)).1.map nameOf++iI (bQ 32 0 ((0*2 ^ low:Nat):Int)).2=[bg [48,120,48]]:=by
    rw[e1,hloop]
    have:cG 0=[]:=by decide
    rw[this,if_pos rfl]
    have:eY 0=bg [48,120,48]:=by decide +kernel
    show [eY 0]=_
    rw[this]
   have:=kD (n:=((0*2 ^ low:Nat):Int)) (by rw[e2];decide) (by intro G hG;rw[hloop,if_pos rfl]at hG;cases hG;decide +kernel)
   rw[e2]at this
   rw[this]
   exact congrArg (λz=>some (D.str z)) (iy [[48,120,48]])
  ·have e2:(bQ 32 0 ((m*2 ^ low:Nat):Int)).1.map nameOf++iI (bQ 32 0 ((m*2 ^ low:Nat):Int)).2=((cG m).map (dF low)).map bg:=by
    rw[e1,hloop,if_neg h0];simp[iI]
   have:=kD (n:=((m*2 ^ low:Nat):Int)) (by rw[e2];exact hsel) (by intro G hG;rw[hloop,if_neg h0]at hG;cases hG)
   rw[e2,iy]at this
   rw[this]
   unfold dE
   rw[if_neg h0]
 have s1:bf 32 (aJ jF (aG (aa 30) (aX))) Γ c=some (.next,aT 32 (aF (dE m low)) Γ,c):=bq (cO (ab h30) hsaid)
 have s2:bf 33 (bR "str" oE (aa 32) (ag (a8 ⟨#[44,32]⟩) (aw))) (aT 32 (aF (dE m low)) Γ) c=some (.next,aT 33 (.lst ((Txt.split (bg (dE m low)) fA).map .str)) (aT 32 (aF (dE m low)) Γ),c):=
  bq (gM (ab (g9 (by(first|lia|omega)))) rfl (au bG aB) (y9 (by rw[len_str];(first|lia|omega)) (by(first|lia|omega))))
 generalize hG2:aT 33 (.lst ((Txt.split (bg (dE m low)) fA).map .str)) (aT 32 (aF (dE m low)) Γ)=Γ2 at s2
 have get2:∀j,j≠32→j≠33→Γ2[j]?=Γ[j]?:=by
  intro j h1 h2
  rw[←hG2,fe (Ne.symm h2),fe (Ne.symm h1)]
 have g32:Γ2[32]?=some (.val (aF (dE m low))):=by rw[←hG2,fe (by decide)];exact g9 (by(first|lia|omega))
 have g33:Γ2[33]?=some (.val (.lst ((Txt.split (bg (dE m low)) fA).map .str))):=by rw[←hG2];exact g9 (by rw[dN];(first|lia|omega))
 have len2:Γ2.length=39:=by rw[←hG2,dN,dN];exact hG
 have hcap1:bS [none,none,some 31] Γ2=[.un,.un,.val (.int (m:Int))]:=by simp[bS,get2 31 (by decide) (by decide),h31]
 have e1:=gr (Γ:=Γ2) (c:=c) (js:=[none,none,some 31]) (i:=0) (j:=1) (t:=aE .Eq (ao .Mod (ao .FloorDiv (aa 2) (ao .Pow (ah 2) (aa 0))) (ah 2)) (ah 1)) (p:=aa 1) (l:=(List.range 4).map λk=>(D.int (k:Nat),aF (dF low k))) (c1:=c)
  (λq=>match q.1 with|.int k=>decide (m / 2 ^ k.toNat % 2=1)|_=>false) (λq=>q.2) (by decide) ((eQ (ab ((get2 28 (by decide) (by decide)).trans h28))).trans (by rw[lW])) (by
   rw[hcap1]
   intro q hq
   obtain⟨k,hk,rfl⟩:=List.mem_map.mp hq
   exact wz (List.mem_range.mp hk)) (λq _ _=>ab rfl) (by simp)
 have f1:(((List.range 4).map λk=>(D.int (k:Nat),aF (dF low k))).filter λq=>match q.1 with|.int k=>decide (m / 2 ^ k.toNat % 2=1)|_=>false).map (λq=>q.2)=((cG m).map (dF low)).map aF:=by
  rw[List.filter_map,List.map_map,List.map_map]
  unfold cG
  rfl
 rw[f1]at e1
 have e2:=gM (T:="str") (F:=cZ) (bG (Γ:=Γ2) (c:=c) (x:=fA)) rfl (au e1 aB) (by
  have:=l8 (x:=fA) hsel
  rw[iy,List.map_map]at this
  exact this)
 have e3:rU (bR "str" cZ (a8 ⟨#[44,32]⟩) (ag (aY [none,none,some 31] (bw fg (ag (aa 28) (aw))) (.t [0,1]) (aE .Eq (ao .Mod (ao .FloorDiv (aa 2) (ao .Pow (ah 2) (aa 0))) (ah 2)) (ah 1)) (aS (aa 1))) (aw))) (a8 ⟨#[48,120,48]⟩) Γ2 c=some (aF (dE m low),c):=by
  by_cases h0:m=0
  ·subst h0
   have hb:cG 0=[]:=by decide
   rw[hb]at e2
   exact zO e2 rfl bG
  ·have hsd:dE m low=ix ((cG m).map (dF low)):=by unfold dE;rw[if_neg h0]
   rw[hsd]at k1 k2⊢
   refine zP e2 ?_
   have:jM (aF (ix ((cG m).map (dF low))))=if (bg (ix ((cG m).map (dF low)))).length≤100000 then some (((bg (ix ((cG m).map (dF low)))).length:Int) != 0)else none:=rfl
   rw[this,if_pos (by rw[len_str];(first|lia|omega)),len_str]
   congr 1
   exact bne_iff_ne.mpr (by(first|lia|omega))
 have s3:=kZ (Γ:=Γ2) (c:=c) ((get2 15 (by decide) (by decide)).trans h15) ha (ck (ab g32) e3) (by(first|lia|omega))
 generalize hC3:c.set ka (.lst (as++[.tup [aF (dE m low),aF (dE m low)]]))=C3 at s3
 have hs3:C3[ks]?=some (.lst ss):=by rw[←hC3,mD hne];exact hs
 have hcap2:bS [none,none,some 33] Γ2=[.un,.un,.val (.lst ((Txt.split (bg (dE m low)) fA).map .str))]:=by simp[bS,g33]
 have e4:=gr (Γ:=Γ2) (c:=C3) (js:=[none,none,some 33]) (i:=0) (j:=1) (t:=aE .In (aa 1) (aa 2)) (p:=ao .Pow (ah 2) (aa 0)) (l:=(List.range 4).map λk=>(D.int (k:Nat),aF (dF low k))) (c1:=C3)
  (λq=>match q.1 with|.int k=>decide (m / 2 ^ k.toNat % 2=1)|_=>false) (λq=>match q.1 with|.int k=>.int ((2 ^ k.toNat:Nat):Int)|_=>.none) (by decide) ((eQ (ab ((get2 28 (by decide) (by decide)).trans h28))).trans (by rw[lW])) (by
   rw[hcap2]
   intro q hq
   obtain⟨k,hk,rfl⟩:=List.mem_map.mp hq
   have hk4:=List.mem_range.mp hk
   refine(bc (ab (i:=1) rfl) (ab (i:=2) rfl) (z1 (by have:=(lj low k).2;unfold PyData.strOk;simpa using this) k5)).trans ?_
   rw[k6 k hk4];rfl) (by
   intro q hq _
   obtain⟨k,hk,rfl⟩:=List.mem_map.mp hq
   have hk4:=List.mem_range.mp hk
   exact iD (n:=k) (by(first|lia|omega)) (ab (i:=0) rfl)) (by simp)
 have f2:(((List.range 4).map λk=>(D.int (k:Nat),aF (dF low k))).filter λq=>match q.1 with|.int k=>decide (m / 2 ^ k.toNat % 2=1)|_=>false).map (λq=>match q.1 with|.int k=>D.int ((2 ^ k.toNat:Nat):Int)|_=>.none)=((cG m).map λk=>((2 ^ k:Nat):Int)).map .int:=by
  rw[List.filter_map,List.map_map,List.map_map]
  unfold cG
  rfl
 rw[f2]at e4
 obtain⟨b1,b2⟩:=wA m hm
 have e5:=cy (F:=oF) (au e4 aB) (o9 b2)
 rw[b1]at e5
 have s4:=jk (Γ:=Γ2) (c:=C3) ((get2 29 (by decide) (by decide)).trans h29) ⟨_,hs3⟩ e5 hs3 (by(first|lia|omega))
 refine⟨aF (dE m low),Γ2,?_,(p0 k3).le (by decide),len2,get2⟩
 rw[hC3]
 exact aO s1 (aO s2 (aO s3 (bD s4 rfl)))
theorem qG{low ka ks:Nat}(hl:low<13)(hne:ka≠ks):∀(ms:List Nat) (Γ:List Slot) (c:List Cell) (as ss:List D),(∀m∈ms,m<16)→Γ.length=39→Γ[28]?=some (.val (.lst ((eR low).map aF)))→Γ[15]?=some (.ref ka)→Γ[29]?=some (.ref ks)→c[ka]?=some (.lst as)→c[ks]?=some (.lst ss)→as.length+ms.length≤9000→ss.length+ms.length≤9000→
  ∃Γ' qs,bH (.t [30,31]) rK (ms.map λm=>.tup [.int ((m*2 ^ low:Nat):Int),.int (m:Int)]) Γ c=some (.next,Γ',(c.set ka (.lst (as++qs))).set ks (.lst (ss++ntD ms)))∧fI qs∧qs.length=ms.length∧Γ'.length=39∧∀j,j≠30→j≠31→j≠32→j≠33→Γ'[j]?=Γ[j]?
 | [],Γ,c,as,ss,_,hG,_,_,_,ha,hs,_,_=>by
  refine⟨Γ,[],?_,sC,rfl,hG,λ_ _ _ _ _=>rfl⟩
  rw[List.append_nil]
  show some (Fl.next,Γ,c)=some (Fl.next,Γ,(c.set ka (.lst as)).set ks (.lst (ss++[])))
  rw[List.append_nil,set_same ha,set_same hs]
 | m::ms,Γ,c,as,ss,hms,hG,h28,h15,h29,ha,hs,hla,hls=>by
  have hka:ka<c.length:=(List.getElem?_eq_some_iff.mp ha).1
  have hks:ks<c.length:=(List.getElem?_eq_some_iff.mp hs).1
  rw[List.length_cons]at hla hls
  have hget:∀j,j≠30→j≠31→(aT 31 (.int (m:Int)) (aT 30 (.int ((m*2 ^ low:Nat):Int)) Γ))[j]?=Γ[j]?:=λj h1 h2=>by rw[fe (Ne.symm h2),fe (Ne.symm h1)]
  obtain⟨x,Γ1,e1,g1,l1,o1⟩:=vH (Γ:=aT 31 (.int (m:Int)) (aT 30 (.int ((m*2 ^ low:Nat):Int)) Γ)) hl (hms m (.head _)) hne (by rw[dN,dN];exact hG) ((hget 28 (by decide) (by decide)).trans h28) (by rw[fe (by decide)];exact g9 (by(first|lia|omega))) (g9 (by rw[dN];(first|lia|omega))) ((hget 15 (by decide) (by decide)).trans h15) ((hget 29 (by decide) (by decide)).trans h29) ha hs (by(first|lia|omega)) (by(first|lia|omega))
  have o2:∀j,j≠30→j≠31→j≠32→j≠33→Γ1[j]?=Γ[j]?:=λj h1 h2 h3 h4=>(o1 j h3 h4).trans (hget j h1 h2)
  obtain⟨Γ',qs,e2,g2,n2,l2,o3⟩:=qG hl hne ms Γ1 ((c.set ka (.lst (as++[.tup [x,x]]))).set ks (.lst (ss++[.int (m:Int)]))) (as++[.tup [x,x]]) (ss++[.int (m:Int)]) (λz hz=>hms z (.tail _ hz)) l1 ((o2 28 (by decide) (by decide) (by decide) (by decide)).trans h28) ((o2 15 (by decide) (by decide) (by decide) (by decide)).trans h15) ((o2 29 (by decide) (by decide) (by decide) (by decide)).trans h29)
   (by rw[mD (Ne.symm hne)];exact hH hka) (hH (by rw[List.length_set];exact hks)) (by rw[List.length_append];simp only[List.length_cons,List.length_nil];(first|lia|omega)) (by rw[List.length_append];simp only[List.length_cons,List.length_nil];(first|lia|omega))
  refine⟨Γ',.tup [x,x]::qs,?_,en (ds:=[.tup [x,x]]) (gJ g1 (Nat.le_refl _)) g2,by rw[List.length_cons,n2,List.length_cons],l2,λj h1 h2 h3 h4=>(o3 j h1 h2 h3 h4).trans (o2 j h1 h2 h3 h4)⟩
  rw[List.map_cons]
  refine bU rfl e1 (e2.trans ?_)
  have hcomm:∀(z:List Cell) (a b:Cell),(z.set ks a).set ka b=(z.set ka b).set ks a:=λz a b=>List.set_comm _ _ (Ne.symm hne)
  rw[hcomm,List.set_set,List.set_set,List.append_assoc,List.append_assoc]
  rfl
theorem qR(low:Nat):∀ms:List Nat,(((iM low ms).map λ(k:Nat)=>D.int (k:Int)).zip (ms.map λ(k:Nat)=>D.int (k:Int))).map (λq=>D.tup [q.1,q.2])=ms.map λm=>.tup [.int ((m*2 ^ low:Nat):Int),.int (m:Int)]
 | []=>rfl
 | m::ms=>by
  have ih:=qR low ms
  unfold iM at ih⊢
  rw[List.map_cons,List.map_cons,List.map_cons,List.zip_cons_cons,List.map_cons,ih];rfl
theorem ym{low ka ks:Nat}{ms:List Nat}{as:List D}{w:D}(hl:low<13)(hne:ka≠ks)(hms:∀m∈ms,m<16)(hn:ms.length≤100)(hG:Γ.length=39)(h28:Γ[28]?=some (.val (.lst ((eR low).map aF))))(h15:Γ[15]?=some (.ref ka))(h29:Γ[29]?=some (.ref ks))(h14:Γ[14]?=some (.val (.tup [w,av (iM low ms)])))(h12:Γ[12]?=some (.val (av ms)))
  (ha:c[ka]?=some (.lst as)) (hs:c[ks]?=some (.lst [])) (hla:as.length≤5000) :
  ∃Γ' qs,tG Γ c=some (.next,Γ',(c.set ka (.lst (as++qs))).set ks (.lst (ntD ms)))∧fI qs∧qs.length=ms.length∧Γ'.length=39∧∀j,j≠30→j≠31→j≠32→j≠33→Γ'[j]?=Γ[j]?:=by
 obtain⟨Γ',qs,e,g1,g2,g3,g4⟩:=qG hl hne ms Γ c as [] hms hG h28 h15 h29 ha hs (by(first|lia|omega)) (by simp;(first|lia|omega))
 refine⟨Γ',qs,iG (uh (fv (ab h14) (ay (i:=1)) (kO (by decide) rfl)) (ab h12)) ?_ rfl,g1,g2,g3,g4⟩
 rw[qR]
 exact e
end
end Mine
namespace Mine
noncomputable def bx(E:List (Nat×Nat))(m:Nat):List (Nat×Nat):=((List.range E.length).filter λk=>decide (m / 2 ^ k % 2=1)).map λk=>E.getD k (0,0)
noncomputable def endsN(E:List (Nat×Nat)):List Nat:=E.flatMap λq=>[q.1,q.2]
noncomputable def cB(E:List (Nat×Nat)):Nat:=distinct (bh (endsN E))
noncomputable def bL(ls:List Nat)(q:Nat×Nat):List Nat:=if ls=[]∨ls.getD q.1 0=ls.getD q.2 0 then[]else ls.map λx=>if x=ls.getD q.2 0 then ls.getD q.1 0 else x
noncomputable def eI:List Nat→List (Nat×Nat)→List Nat
 | ls,[]=>ls
 | ls,q::qs=>eI (bL ls q) qs
noncomputable def dB(E:List (Nat×Nat))(m:Nat):Bool:=decide (eI (if (bx E m).length+1=cB E then List.range (E.length+1)else[]) (bx E m)≠[])
section
variable{Γ:List Slot}{c c1 c2 c3:List Cell}{p q r:PE}{ps:PL}{d a b:D}{ds:List D}{α:Type}
theorem kT(l:List Nat):∃p,(av l).toPy=some p∧SeqAt.shaped p=true∧p=.list (l.map λ(k:Nat)=>.int (k:Int)):=by
 have h:∀l:List Nat,di (l.map λ(k:Nat)=>D.int (k:Int))=some (l.map λ(k:Nat)=>PyData.int (k:Int)):=by
  intro l
  induction l with
  | nil=>rfl
  | cons k l ih=>rw[List.map_cons,di,ih];rfl
 obtain⟨p,e,s⟩:=(l5 l).good (by decide)
 have:p=.list (l.map λ(k:Nat)=>.int (k:Int)):=by
  simp only[D.toPy,h]at e
  exact(Option.some.inj e).symm
 exact⟨p,e,s,this⟩
theorem eq_nil(l:List Nat):dEq (av l) (.lst [])=some (decide (l=[])):=by
 obtain⟨p,e1,s1,hp⟩:=kT l
 obtain⟨p2,e2,s2,hp2⟩:=kT []
 unfold dEq
 rw[e1]
 have e2':(D.lst []).toPy=some p2:=e2
 rw[e2']
 dsimp only
 rw[s1,s2,hp,hp2]
 cases l with
 | nil=>rfl
 | cons k l=>rfl
theorem ou(l:List Nat):fu .Eq (av l) (.lst [])=some (decide (l=[])):=eq_nil l
theorem zx(l:List Nat):fu .NotEq (av l) (.lst [])=some (!decide (l=[])):=by
 show (dEq (av l) (.lst [])).map _=_
 rw[eq_nil];rfl
theorem rF{q:Nat×Nat}{w1:Slot}:gf (.n 1) (cE (aa 0)) cn (aS (aa 1)) [.val (nnD q),w1] c=some ([.int (q.1:Int),.int (q.2:Int)],[.val (nnD q),.val (.int (q.2:Int))],c):=rfl
theorem pR:∀(E:List (Nat×Nat)) (w0 w1:Slot),∃Γ',bN (.n 0) cn (gf (.n 1) (cE (aa 0)) cn (aS (aa 1))) (E.map nnD) [w0,w1] c=some (ntD (endsN E),Γ',c)
 | [],w0,w1=>⟨_,rfl⟩
 | q::E,w0,w1=>by
  obtain⟨Γ',e⟩:=pR E (.val (nnD q)) (.val (.int (q.2:Int)))
  exact⟨Γ',iJ rfl rfl rF e⟩
theorem vK{ns:List Nat}(h:p Γ c=some (av ns,c))(hl:ns.length<4000):i4 p Γ c=some (.int ((distinct (bh ns):Nat):Int),c):=by
 unfold i4
 rw[h]
 simp only[Option.bind_some]
 have hm:(ns.map λ(k:Nat)=>D.int (k:Int))=(bh ns).map .int:=by unfold bh;rw[List.map_map];rfl
 rw[hm,e8]
 simp only[Option.bind_some]
 rw[if_pos (by rw[List.length_map];exact hl)]
theorem qT(a b:Nat):(some (((a:Int)==(b:Int)),c):Option (Bool×List Cell))=some (decide (a=b),c):=by
 by_cases hh:a=b
 ·subst hh;rw[beq_self_eq_true,decide_eq_true rfl]
 ·rw[decide_eq_false hh,beq_eq_false_iff_ne.mpr (by(first|lia|omega))]
theorem rI{ls:List Nat}{q:Nat×Nat}{w0 w1 w2 w3 w4 w5:Slot}(h:ls≠[]→q.1<ls.length∧q.2<ls.length)(hl:ls.length≤100) :
  bf 6 (pIf (oX (aE .Eq (aa 6) (aM (aw))) (aE .Eq (ba (aa 6) (aa 7)) (ba (aa 6) (aa 8)))) (aM (aw)) (aY [none,some 6,some 8,some 7] (cE (aa 6)) (.n 0) (cn) (aS (pIf (aE .Eq (aa 0) (ba (aa 1) (aa 2))) (ba (aa 1) (aa 3)) (aa 0)))))
   [w0,w1,w2,w3,w4,w5,.val (av ls),.val (.int (q.1:Int)),.val (.int (q.2:Int))] c=some (.next,[w0,w1,w2,w3,w4,w5,.val (av (bL ls q)),.val (.int (q.1:Int)),.val (.int (q.2:Int))],c):=by
 have t1:aE .Eq (aa 6) (aM (aw)) [w0,w1,w2,w3,w4,w5,.val (av ls),.val (.int (q.1:Int)),.val (.int (q.2:Int))] c=some (decide (ls=[]),c):=bc (ab (i:=6) rfl) (aZ aB (Nat.zero_le _)) (ou ls)
 refine(bq (d:=av (bL ls q)) ?_).trans rfl
 by_cases h0:ls=[]
 ·have:bL ls q=[]:=by unfold bL;rw[if_pos (.inl h0)]
  rw[this]
  exact fM (B1 (t1.trans (by rw[decide_eq_true h0]))) (aZ aB (Nat.zero_le _))
 ·obtain⟨h1,h2⟩:=h h0
  have g:∀j:Nat,j<ls.length→(ls.map λ(k:Nat)=>D.int (k:Int))[j]?=some (.int ((ls.getD j 0:Nat):Int)):=by
   intro j hj
   rw[List.getElem?_map,List.getD,List.getElem?_eq_getElem hj];rfl
  have t2:aE .Eq (ba (aa 6) (aa 7)) (ba (aa 6) (aa 8)) [w0,w1,w2,w3,w4,w5,.val (av ls),.val (.int (q.1:Int)),.val (.int (q.2:Int))] c=some (decide (ls.getD q.1 0=ls.getD q.2 0),c):=by
   refine(bc (cK (ab (i:=6) rfl) (ab (i:=7) rfl) (by(first|lia|omega)) (g _ h1)) (cK (ab (i:=6) rfl) (ab (i:=8) rfl) (by(first|lia|omega)) (g _ h2)) jb).trans ?_
   exact qT _ _
  have t3:=B0 (t1.trans (by rw[decide_eq_false h0])) t2
  by_cases h3:ls.getD q.1 0=ls.getD q.2 0
  ·have:bL ls q=[]:=by unfold bL;rw[if_pos (.inr h3)]
   rw[this]
   exact fM (t3.trans (by rw[decide_eq_true h3])) (aZ aB (Nat.zero_le _))
  ·have e:bL ls q=ls.map λx=>if x=ls.getD q.2 0 then ls.getD q.1 0 else x:=by unfold bL;rw[if_neg (λh=>h.elim h0 h3)]
   rw[e]
   refine fx (t3.trans (by rw[decide_eq_false h3])) ((dn (l:=ls) (g:=λ(k:Nat)=>D.int (k:Int)) (λx=>D.int ((if x=ls.getD q.2 0 then ls.getD q.1 0 else x:Nat):Int)) (b7 (ab (i:=6) rfl)) ?_ (by(first|lia|omega))).trans ?_)
   ·intro x _
    show pIf _ _ _ [.val (.int (x:Int)),.val (av ls),.val (.int (q.2:Int)),.val (.int (q.1:Int))] c=_
    have u1:aE .Eq (aa 0) (ba (aa 1) (aa 2)) [.val (.int (x:Int)),.val (av ls),.val (.int (q.2:Int)),.val (.int (q.1:Int))] c=some (decide (x=ls.getD q.2 0),c):=by
     refine(bc (ab (i:=0) rfl) (cK (ab (i:=1) rfl) (ab (i:=2) rfl) (by(first|lia|omega)) (g _ h2)) jb).trans ?_
     exact qT _ _
    by_cases hh:x=ls.getD q.2 0
    ·rw[if_pos hh]
     exact fM (u1.trans (by rw[decide_eq_true hh])) (cK (ab (i:=1) rfl) (ab (i:=3) rfl) (by(first|lia|omega)) (g _ h1))
    ·rw[if_neg hh]
     exact fx (u1.trans (by rw[decide_eq_false hh])) (ab (i:=0) rfl)
   ·unfold av;rw[List.map_map];rfl
theorem wc(ls:List Nat)(q:Nat×Nat):bL ls q=[]∨(bL ls q).length=ls.length:=by
 unfold bL
 split
 ·exact .inl rfl
 ·exact .inr (List.length_map _)
theorem nB{w0 w1 w2 w3 w4 w5:Slot}:∀(qs:List (Nat×Nat)) (ls:List Nat) (w7 w8:Slot),(ls=[]∨∀q∈qs,q.1<ls.length∧q.2<ls.length)→ls.length≤100→
  ∃w7' w8',bH (.t [7,8]) (ak (bf 6 (pIf (oX (aE .Eq (aa 6) (aM (aw))) (aE .Eq (ba (aa 6) (aa 7)) (ba (aa 6) (aa 8)))) (aM (aw)) (aY [none,some 6,some 8,some 7] (cE (aa 6)) (.n 0) (cn) (aS (pIf (aE .Eq (aa 0) (ba (aa 1) (aa 2))) (ba (aa 1) (aa 3)) (aa 0)))))) (aH)) (qs.map nnD)
   [w0,w1,w2,w3,w4,w5,.val (av ls),w7,w8] c=some (.next,[w0,w1,w2,w3,w4,w5,.val (av (eI ls qs)),w7',w8'],c)
 | [],ls,w7,w8,_,_=>⟨w7,w8,rfl⟩
 | q::qs,ls,w7,w8,h,hl=>by
  have hs:=wc ls q
  have h':bL ls q=[]∨∀x∈qs,x.1<(bL ls q).length∧x.2<(bL ls q).length:=by
   rcases hs with hs|hs
   ·exact .inl hs
   ·rcases h with h|h
    ·left
     unfold bL
     rw[if_pos (.inl h)]
    ·right
     rw[hs]
     exact λx hx=>h x (.tail _ hx)
  obtain⟨w7',w8',e⟩:=nB qs (bL ls q) (.val (.int (q.1:Int))) (.val (.int (q.2:Int))) h' (by
   rcases hs with hs|hs
   ·rw[hs];exact Nat.zero_le _
   ·rw[hs];exact hl)
  exact⟨w7',w8',bU rfl (bD (rI (λhne=>h.elim (λh=>absurd h hne) λh=>h q (.head _)) hl) rfl) e⟩
noncomputable abbrev zg:PS:=(ak (bf 5 (aY [none,none,some 4] (bw fg (ag (aa 1) (aw))) (.t [0,1]) (aE .Eq (ao .Mod (ao .FloorDiv (aa 2) (ao .Pow (ah 2) (aa 0))) (ah 2)) (ah 1)) (aS (aa 1)))) (ak (bf 6 (pIf (aE .Eq (ao .Add (bp d9 (ag (aa 5) (aw))) (ah 1)) (aa 2)) (ew (ao .Add (bp d9 (ag (aa 1) (aw))) (ah 1))) (aM (aw)))) (ak (fF (.t [7,8]) (cE (aa 5)) (ak (bf 6 (pIf (oX (aE .Eq (aa 6) (aM (aw))) (aE .Eq (ba (aa 6) (aa 7)) (ba (aa 6) (aa 8)))) (aM (aw)) (aY [none,some 6,some 8,some 7] (cE (aa 6)) (.n 0) (cn) (aS (pIf (aE .Eq (aa 0) (ba (aa 1) (aa 2))) (ba (aa 1) (aa 3)) (aa 0)))))) (aH)) (aH)) (ak (lq 3 (pIf (aE .NotEq (aa 6) (aM (aw))) (aM (ag (aa 4) (aw))) (aM (aw)))) (aH)))))
theorem range_list{n:Nat}(h:p Γ c=some (.int (n:Int),c1))(hn:n≤900):ew p Γ c=some (av (List.range n),c1):=by
 unfold ew
 rw[h]
 simp only[Option.bind_some]
 rw[if_pos ⟨by(first|lia|omega),by(first|lia|omega)⟩]
 unfold eM av
 rw[Int.sub_zero,Int.toNat_natCast]
 refine congrArg (λz=>some (D.lst z,c1)) (List.map_congr_left λk _=>?_)
 rw[Int.zero_add]
theorem sm{E:List (Nat×Nat)}{m:Nat}{ts:List D}{w0 w5 w6 w7 w8:Slot}(hE:E.length=4∧∀q∈E,q.1<5∧q.2<5)(hm:m<16)(ht:ts.length≤9000) :
  ∃w5' w6' w7' w8',zg [w0,.val (.lst (E.map nnD)),.val (.int (cB E:Int)),.ref 0,.val (.int (m:Int)),w5,w6,w7,w8] [.lst ts]=some (.next,[w0,.val (.lst (E.map nnD)),.val (.int (cB E:Int)),.ref 0,.val (.int (m:Int)),w5',w6',w7',w8'],[.lst (ts++if dB E m=true then[.int (m:Int)]else[])]):=by
 have hen:eT (E.map nnD)=(List.range 4).map λk=>(D.int (k:Nat),nnD (E.getD k (0,0))):=by
  rw[eV,hE.1];rfl
 have e1:=gr (Γ:=[w0,.val (.lst (E.map nnD)),.val (.int (cB E:Int)),.ref 0,.val (.int (m:Int)),w5,w6,w7,w8]) (c:=[.lst ts]) (js:=[none,none,some 4]) (i:=0) (j:=1) (t:=aE .Eq (ao .Mod (ao .FloorDiv (aa 2) (ao .Pow (ah 2) (aa 0))) (ah 2)) (ah 1)) (p:=aa 1) (l:=(List.range 4).map λk=>(D.int (k:Nat),nnD (E.getD k (0,0)))) (c1:=[.lst ts])
  (λq=>match q.1 with|.int k=>decide (m / 2 ^ k.toNat % 2=1)|_=>false) (λq=>q.2) (by decide) ((eQ (ab (i:=1) rfl)).trans (by rw[hen])) (by
   intro q hq
   obtain⟨k,hk,rfl⟩:=List.mem_map.mp hq
   exact wz (List.mem_range.mp hk)) (λq _ _=>ab rfl) (by simp)
 have f1:(((List.range 4).map λk=>(D.int (k:Nat),nnD (E.getD k (0,0)))).filter λq=>match q.1 with|.int k=>decide (m / 2 ^ k.toNat % 2=1)|_=>false).map (λq=>q.2)=(bx E m).map nnD:=by
  rw[List.filter_map,List.map_map]
  unfold bx
  rw[hE.1,List.map_map]
  rfl
 rw[f1]at e1
 have hpl:(bx E m).length≤4:=by
  unfold bx
  rw[List.length_map]
  exact Nat.le_trans (List.length_filter_le _ _) (by rw[List.length_range,hE.1];exact Nat.le_refl _)
 have hpm:∀q∈bx E m,q.1<5∧q.2<5:=by
  intro q hq
  unfold bx at hq
  obtain⟨k,hk,rfl⟩:=List.mem_map.mp hq
  have hk':=List.mem_range.mp (List.mem_filter.mp hk).1
  rw[List.getD,List.getElem?_eq_getElem hk']
  exact hE.2 _ (List.getElem_mem hk')
 have hsz:=λ(Γ1:List Slot) (h5:Γ1[5]?=some (.val (.lst ((bx E m).map nnD))))=>dA (km (Γ:=Γ1) (c:=[.lst ts]) (ab h5) (by rw[List.length_map];(first|lia|omega))) (ay (i:=((1:Nat):Int)))
 have e2:pIf (aE .Eq (ao .Add (bp d9 (ag (aa 5) (aw))) (ah 1)) (aa 2)) (ew (ao .Add (bp d9 (ag (aa 1) (aw))) (ah 1))) (aM (aw)) [w0,.val (.lst (E.map nnD)),.val (.int (cB E:Int)),.ref 0,.val (.int (m:Int)),.val (.lst ((bx E m).map nnD)),w6,w7,w8] [.lst ts]=
   some (av (if (bx E m).length+1=cB E then List.range (E.length+1)else[]),[.lst ts]):=by
  have t:aE .Eq (ao .Add (bp d9 (ag (aa 5) (aw))) (ah 1)) (aa 2) [w0,.val (.lst (E.map nnD)),.val (.int (cB E:Int)),.ref 0,.val (.int (m:Int)),.val (.lst ((bx E m).map nnD)),w6,w7,w8] [.lst ts]=some (decide ((bx E m).length+1=cB E),[.lst ts]):=by
   refine(bc (hsz _ rfl) (ab (i:=2) rfl) jb).trans ?_
   rw[List.length_map]
   congr 2
   by_cases hh:(bx E m).length+1=cB E
   ·rw[decide_eq_true hh,hh];exact beq_self_eq_true _
   ·rw[decide_eq_false hh];exact beq_eq_false_iff_ne.mpr (by(first|lia|omega))
  by_cases hh:(bx E m).length+1=cB E
  ·rw[if_pos hh]
   have:=range_list (dA (km (Γ:=[w0,.val (.lst (E.map nnD)),.val (.int (cB E:Int)),.ref 0,.val (.int (m:Int)),.val (.lst ((bx E m).map nnD)),w6,w7,w8]) (c:=[.lst ts]) (ab (i:=1) rfl) (by rw[List.length_map];(first|lia|omega))) (ay (i:=((1:Nat):Int)))) (by rw[List.length_map];(first|lia|omega))
   rw[List.length_map]at this
   exact fM (t.trans (by rw[decide_eq_true hh])) this
  ·rw[if_neg hh]
   exact fx (t.trans (by rw[decide_eq_false hh])) (aZ aB (Nat.zero_le _))
 generalize hls:(if (bx E m).length+1=cB E then List.range (E.length+1)else[])=ls at e2
 have hlen:ls=[]∨ls.length=5:=by
  rw[←hls]
  split
  ·right;rw[List.length_range,hE.1]
  ·exact .inl rfl
 obtain⟨w7',w8',e3⟩:=nB (c:=[.lst ts]) (w0:=w0) (w1:=.val (.lst (E.map nnD))) (w2:=.val (.int (cB E:Int))) (w3:=.ref 0) (w4:=.val (.int (m:Int))) (w5:=.val (.lst ((bx E m).map nnD))) (bx E m) ls w7 w8 (by
  rcases hlen with h|h
  ·exact .inl h
  ·right;rw[h];exact hpm) (by rcases hlen with h|h<;>rw[h]<;>simp)
 have hT:dB E m=decide (eI ls (bx E m)≠[]):=by unfold dB;rw[hls]
 have e4:lq 3 (pIf (aE .NotEq (aa 6) (aM (aw))) (aM (ag (aa 4) (aw))) (aM (aw))) [w0,.val (.lst (E.map nnD)),.val (.int (cB E:Int)),.ref 0,.val (.int (m:Int)),.val (.lst ((bx E m).map nnD)),.val (av (eI ls (bx E m))),w7',w8'] [.lst ts]=
   some (.next,[w0,.val (.lst (E.map nnD)),.val (.int (cB E:Int)),.ref 0,.val (.int (m:Int)),.val (.lst ((bx E m).map nnD)),.val (av (eI ls (bx E m))),w7',w8'],[.lst (ts++if dB E m=true then[.int (m:Int)]else[])]):=by
  have t:aE .NotEq (aa 6) (aM (aw)) [w0,.val (.lst (E.map nnD)),.val (.int (cB E:Int)),.ref 0,.val (.int (m:Int)),.val (.lst ((bx E m).map nnD)),.val (av (eI ls (bx E m))),w7',w8'] [.lst ts]=some (!decide (eI ls (bx E m)=[]),[.lst ts]):=bc (ab (i:=6) rfl) (aZ aB (Nat.zero_le _)) (zx _)
  rw[hT]
  by_cases hh:eI ls (bx E m)=[]
  ·rw[if_neg (by simp[hh])]
   exact qv (i:=3) (k:=0) rfl ⟨_,rfl⟩ (fx (t.trans (by rw[decide_eq_true hh];rfl)) (aZ aB (Nat.zero_le _))) rfl (by simp;(first|lia|omega))
  ·rw[if_pos (by simp[hh])]
   exact qv (i:=3) (k:=0) rfl ⟨_,rfl⟩ (fM (t.trans (by rw[decide_eq_false hh];rfl)) (aZ (au (ab (i:=4) rfl) aB) (Nat.le_of_ble_eq_true rfl))) rfl (by simp;(first|lia|omega))
 exact⟨_,_,_,_,aO (bq e1) (aO (bq e2) (aO (iG (b7 (ab (i:=5) rfl)) e3 rfl) (bD e4 rfl)))⟩
theorem kK{E:List (Nat×Nat)}{w0:Slot}(hE:E.length=4∧∀q∈E,q.1<5∧q.2<5):∀(ms:List Nat) (ts:List Nat) (w4 w5 w6 w7 w8:Slot),(∀m∈ms,m<16)→ts.length+ms.length≤9000→
  ∃Γ',Γ'[3]?=some (.ref 0)∧bH (.n 4) zg (ntD ms) [w0,.val (.lst (E.map nnD)),.val (.int (cB E:Int)),.ref 0,w4,w5,w6,w7,w8] [.lst (ntD ts)]=some (.next,Γ',[.lst (ntD (ts++ms.filter (dB E)))])
 | [],ts,w4,w5,w6,w7,w8,_,_=>⟨_,rfl,by rw[List.filter_nil,List.append_nil];rfl⟩
 | m::ms,ts,w4,w5,w6,w7,w8,hm,hl=>by
  rw[List.length_cons]at hl
  obtain⟨w5',w6',w7',w8',e1⟩:=sm (E:=E) (m:=m) (ts:=ntD ts) (w0:=w0) (w5:=w5) (w6:=w6) (w7:=w7) (w8:=w8) hE (hm m (.head _)) (by rw[List.length_map];(first|lia|omega))
  by_cases ht:dB E m=true
  ·rw[if_pos ht,show ntD ts++[D.int (m:Int)]=ntD (ts++[m])from iZ ts [m]]at e1
   obtain⟨Γ',g,e2⟩:=kK hE ms (ts++[m]) (.val (.int (m:Int))) w5' w6' w7' w8' (λx hx=>hm x (.tail _ hx)) (by rw[List.length_append];simp only[List.length_cons,List.length_nil];(first|lia|omega))
   refine⟨Γ',g,bU rfl e1 (e2.trans ?_)⟩
   rw[List.filter_cons,if_pos ht,List.append_assoc];rfl
  ·rw[if_neg ht,List.append_nil]at e1
   obtain⟨Γ',g,e2⟩:=kK hE ms ts (.val (.int (m:Int))) w5' w6' w7' w8' (λx hx=>hm x (.tail _ hx)) (by(first|lia|omega))
   refine⟨Γ',g,bU rfl e1 (e2.trans ?_)⟩
   rw[List.filter_cons,if_neg ht]
theorem qO{E:List (Nat×Nat)}{ms:List Nat}(hE:E.length=4∧∀q∈E,q.1<5∧q.2<5)(hm:∀m∈ms,m<16)(hl:ms.length≤100):sx [av ms,.lst (E.map nnD)]=some (av (ms.filter (dB E))):=by
 obtain⟨Γ',g,e⟩:=kK (w0:=.val (av ms)) hE ms [] .un .un .un .un .un hm (by simp;(first|lia|omega))
 rw[List.nil_append]at e
 obtain⟨Γ2,e0⟩:=pR (c:=[]) E .un .un
 have hlen:(endsN E).length≤100:=by
  unfold endsN
  have:∀E:List (Nat×Nat),(E.flatMap λq=>[q.1,q.2]).length=2*E.length:=by
   intro E
   induction E with
   | nil=>rfl
   | cons q E ih=>rw[List.flatMap_cons,List.length_append,ih,List.length_cons];simp only[List.length_cons,List.length_nil];(first|lia|omega)
  rw[this];(first|lia|omega)
 have h1:bf 2 (i4 (aY [none,none] (cE (aa 1)) (.n 0) (cn) (gf (.n 1) (cE (aa 0)) cn (aS (aa 1))))) [.val (av ms),.val (.lst (E.map nnD)),.un,.un,.un,.un,.un,.un,.un] []=some (.next,[.val (av ms),.val (.lst (E.map nnD)),.val (.int (cB E:Int)),.un,.un,.un,.un,.un,.un],[]):=
  bq (vK (ox (b7 (ab (i:=1) rfl)) e0 (by rw[List.length_map];(first|lia|omega))) (by(first|lia|omega)))
 have hr:aa 3 Γ' [.lst (ntD (ms.filter (dB E)))]=some (av (ms.filter (dB E)),[.fz (ntD (ms.filter (dB E)))]):=gX g rfl
 exact cu rfl (aO h1 (aO (Γ1:=[.val (av ms),.val (.lst (E.map nnD)),.val (.int (cB E:Int)),.ref 0,.un,.un,.un,.un,.un]) (c1:=[.lst []]) (iH (c:=[]) aB (by decide)) (aO (iG (ds:=ntD ms) (c1:=[.lst []]) (b7 (ab (i:=0) rfl)) e rfl) (cx (d6 hr)))))
end
end Mine
namespace Mine
noncomputable def jq(m k:Nat):Nat:=m / 2 ^ k % 2
noncomputable def stepI(m k:Nat):Int:=1 - ((2*jq m k:Nat):Int)
noncomputable def fU(m:Nat)(ts rs:List Nat)(k o:Nat):Bool:=decide (rs.getD o 0<rs.getD k 0) && (decide (jq m o≠jq m k) && decide ((m:Int)+stepI m k*(((2 ^ k:Nat):Int) - ((2 ^ o:Nat):Int))∈bh ts))
noncomputable def mR(m:Nat)(ts rs:List Nat)(k:Nat):Nat:=if (List.range rs.length).filter (fU m ts rs k)=[]then 2 ^ k else 0
noncomputable def bu(m:Nat)(ts rs:List Nat):Nat:=((List.range rs.length).map (mR m ts rs)).sum
section
variable{Γ:List Slot}{c c1 c2 c3:List Cell}{p q r:PE}{ps:PL}{d a b:D}{ds:List D}{α:Type}
theorem z0(z:Int)(ts:List Nat):fu .In (.int z) (av ts)=some (decide (z∈bh ts)):=by
 show dIn (.int z) (ts.map λ(k:Nat)=>D.int (k:Int))=_
 have h2:∀l:List Nat,di (l.map λ(k:Nat)=>D.int (k:Int))=some (l.map λ(k:Nat)=>PyData.int (k:Int))∧PyData.canLayAll0 (l.map λ(k:Nat)=>PyData.int (k:Int))=true∧PyData.depthAll (l.map λ(k:Nat)=>PyData.int (k:Int))=0:=by
  intro l
  induction l with
  | nil=>exact⟨rfl,by simp[PyData.canLayAll0],by simp[PyData.depthAll]⟩
  | cons k l ih=>
   obtain⟨i1,i2,i3⟩:=ih
   refine⟨by rw[List.map_cons,di,i1];rfl,?_,?_⟩
   ·simp only[List.map_cons,PyData.canLayAll0,PyData.canLay0,i2,Bool.and_self]
   ·simp only[List.map_cons,PyData.depthAll,PyData.depth,i3];rfl
 obtain⟨i1,i2,i3⟩:=h2 ts
 unfold dIn
 rw[show D.toPy (.int z)=some (.int z)from rfl,i1]
 dsimp only
 rw[if_pos (by rw[i2,i3];simp only[PyData.canLay0];rfl)]
 congr 1
 rw[List.any_map]
 apply Bool.eq_iff_iff.mpr
 rw[List.any_eq_true,decide_eq_true_eq]
 constructor
 ·rintro ⟨x,hx,h⟩
  have:(x:Int)=z:=by simpa [PyData.eqv] using h
  exact this▸List.mem_map.mpr ⟨x,hx,rfl⟩
 ·intro h
  obtain⟨x,hx,rfl⟩:=List.mem_map.mp h
  exact⟨x,hx,by simp[PyData.eqv]⟩
theorem DV{t1 t2 t3:PB}{b1 b2 b3:Bool}(h1:t1 Γ c=some (b1,c))(h2:t2 Γ c=some (b2,c))(h3:t3 Γ c=some (b3,c)):f5 [t1,t2,t3] Γ c=some (b1 && (b2 && b3),c):=by
 cases b1 with
 | false=>exact oz h1
 | true=>
  refine oA h1 ?_
  cases b2 with
  | false=>exact oz h2
  | true=>
   refine oA h2 ?_
   cases b3 with
   | false=>exact oz h3
   | true=>exact oA h3 uP
theorem AJ{k:Nat}(hk:k<4):0<2 ^ k∧2 ^ k≤16:=by
 have h1:2 ^ k≤2 ^ 4:=Nat.pow_le_pow_right (by decide) (by(first|lia|omega))
 exact⟨Nat.pow_pos (by decide),h1⟩
theorem lA{m k i j:Nat}(hk:k<4)(hi:Γ[i]?=some (.val (.int (m:Int))))(hj:Γ[j]?=some (.val (.int (k:Int)))):ao .Mod (ao .FloorDiv (aa i) (ao .Pow (ah 2) (aa j))) (ah 2) Γ c=some (.int ((jq m k:Nat):Int),c):=by
 have hp:=AJ hk
 have h:=aU (op:=.FloorDiv) (ab (c:=c) hi) (iD (n:=k) (by(first|lia|omega)) (ab hj)) (tT (by generalize 2 ^ k=z at hp;(first|lia|omega)))
 rw[jQ]at h
 exact dq h (ay (i:=((2:Nat):Int))) (by decide)
noncomputable abbrev CR:PS:=(ak (bf 6 (ao .Sub (ah 1) (ao .Mult (ah 2) (ao .Mod (ao .FloorDiv (aa 0) (ao .Pow (ah 2) (aa 4))) (ah 2))))) (ak (bf 7 (aY [none,none,some 5,some 0,some 4,some 6,some 1] (bw fg (ag (aa 2) (aw))) (.t [0,1]) (f5 [aE .Lt (aa 1) (aa 2),aE .NotEq (ao .Mod (ao .FloorDiv (aa 3) (ao .Pow (ah 2) (aa 0))) (ah 2)) (ao .Mod (ao .FloorDiv (aa 3) (ao .Pow (ah 2) (aa 4))) (ah 2)),aE .In (ao .Add (aa 3) (ao .Mult (aa 5) (ao .Sub (ao .Pow (ah 2) (aa 4)) (ao .Pow (ah 2) (aa 0))))) (aa 6)]) (aS (aa 0)))) (ak (gj 3 .Add (pIf (aE .Eq (aa 7) (aM (aw))) (ao .Pow (ah 2) (aa 4)) (ah 0))) (aH))))
theorem wo{m k acc:Nat}{ts rs:List Nat}{w6 w7:Slot}(hr:rs.length=4)(hk:k<4) :
  ∃w6' w7',CR [.val (.int (m:Int)),.val (av ts),.val (av rs),.val (.int (acc:Int)),.val (.int (k:Int)),.val (.int (rs.getD k 0:Nat)),w6,w7] c=some (.next,[.val (.int (m:Int)),.val (av ts),.val (av rs),.val (.int ((acc+mR m ts rs k:Nat):Int)),.val (.int (k:Int)),.val (.int (rs.getD k 0:Nat)),w6',w7'],c):=by
 have e1:ao .Sub (ah 1) (ao .Mult (ah 2) (ao .Mod (ao .FloorDiv (aa 0) (ao .Pow (ah 2) (aa 4))) (ah 2))) [.val (.int (m:Int)),.val (av ts),.val (av rs),.val (.int (acc:Int)),.val (.int (k:Int)),.val (.int (rs.getD k 0:Nat)),w6,w7] c=some (.int (stepI m k),c):=
  aU (op:=.Sub) (ay (i:=1)) (mf (ay (i:=((2:Nat):Int))) (lA (m:=m) hk rfl rfl) (by decide)) ji
 have hen:eT (rs.map λ(k:Nat)=>D.int (k:Int))=(List.range 4).map λo=>(D.int (o:Nat),D.int ((rs.getD o 0:Nat):Int)):=by
  rw[eV,hr];rfl
 have e2:=gr (Γ:=[.val (.int (m:Int)),.val (av ts),.val (av rs),.val (.int (acc:Int)),.val (.int (k:Int)),.val (.int (rs.getD k 0:Nat)),.val (.int (stepI m k)),w7]) (c:=c) (js:=[none,none,some 5,some 0,some 4,some 6,some 1]) (i:=0) (j:=1)
  (t:=f5 [aE .Lt (aa 1) (aa 2),aE .NotEq (ao .Mod (ao .FloorDiv (aa 3) (ao .Pow (ah 2) (aa 0))) (ah 2)) (ao .Mod (ao .FloorDiv (aa 3) (ao .Pow (ah 2) (aa 4))) (ah 2)),aE .In (ao .Add (aa 3) (ao .Mult (aa 5) (ao .Sub (ao .Pow (ah 2) (aa 4)) (ao .Pow (ah 2) (aa 0))))) (aa 6)]) (p:=aa 0)
  (l:=(List.range 4).map λo=>(D.int (o:Nat),D.int ((rs.getD o 0:Nat):Int))) (c1:=c) (λq=>match q.1 with|.int o=>fU m ts rs k o.toNat|_=>false) (λq=>q.1) (by decide) ((eQ (ab (i:=2) rfl)).trans (by rw[hen])) (by
   intro q hq
   obtain⟨o,ho,rfl⟩:=List.mem_map.mp hq
   have ho':=List.mem_range.mp ho
   show f5 _ [.val (.int (o:Int)),.val (.int ((rs.getD o 0:Nat):Int)),.val (.int (rs.getD k 0:Nat)),.val (.int (m:Int)),.val (.int (k:Int)),.val (.int (stepI m k)),.val (av ts)] c=some (fU m ts rs k ((o:Int)).toNat,c)
   rw[Int.toNat_natCast]
   have t1:aE .Lt (aa 1) (aa 2) [.val (.int (o:Int)),.val (.int ((rs.getD o 0:Nat):Int)),.val (.int (rs.getD k 0:Nat)),.val (.int (m:Int)),.val (.int (k:Int)),.val (.int (stepI m k)),.val (av ts)] c=some (decide (rs.getD o 0<rs.getD k 0),c):=by
    refine(bc (ab (i:=1) rfl) (ab (i:=2) rfl) zw).trans ?_
    exact congrArg (λz=>some (z,c)) (decide_eq_decide.mpr (by(first|lia|omega)))
   have t2:aE .NotEq (ao .Mod (ao .FloorDiv (aa 3) (ao .Pow (ah 2) (aa 0))) (ah 2)) (ao .Mod (ao .FloorDiv (aa 3) (ao .Pow (ah 2) (aa 4))) (ah 2)) [.val (.int (o:Int)),.val (.int ((rs.getD o 0:Nat):Int)),.val (.int (rs.getD k 0:Nat)),.val (.int (m:Int)),.val (.int (k:Int)),.val (.int (stepI m k)),.val (av ts)] c=some (decide (jq m o≠jq m k),c):=by
    refine(bc (lA (m:=m) (k:=o) ho' rfl rfl) (lA (m:=m) (k:=k) hk rfl rfl) wC).trans ?_
    by_cases hh:jq m o=jq m k
    ·rw[hh,decide_eq_false (λh=>h rfl)]
     exact congrArg (λz=>some (z,c)) (bne_self_eq_false _)
    ·rw[decide_eq_true hh]
     exact congrArg (λz=>some (z,c)) (bne_iff_ne.mpr (by(first|lia|omega)))
   have t3:aE .In (ao .Add (aa 3) (ao .Mult (aa 5) (ao .Sub (ao .Pow (ah 2) (aa 4)) (ao .Pow (ah 2) (aa 0))))) (aa 6) [.val (.int (o:Int)),.val (.int ((rs.getD o 0:Nat):Int)),.val (.int (rs.getD k 0:Nat)),.val (.int (m:Int)),.val (.int (k:Int)),.val (.int (stepI m k)),.val (av ts)] c=some (decide ((m:Int)+stepI m k*(((2 ^ k:Nat):Int) - ((2 ^ o:Nat):Int))∈bh ts),c):=by
    refine bc (aU (op:=.Add) (ab (i:=3) rfl) (aU (op:=.Mult) (ab (i:=5) rfl) (aU (op:=.Sub) (iD (n:=k) (by(first|lia|omega)) (ab (i:=4) rfl)) (iD (n:=o) (by(first|lia|omega)) (ab (i:=0) rfl)) ji) (yF ?_)) tS) (ab (i:=6) rfl) (z0 _ ts)
    have:jq m k<2:=Nat.mod_lt _ (by decide)
    unfold stepI
    (first|lia|omega)
   exact DV t1 t2 t3) (λq _ _=>ab rfl) (by simp)
 have f1:(((List.range 4).map λo=>(D.int (o:Nat),D.int ((rs.getD o 0:Nat):Int))).filter λq=>match q.1 with|.int o=>fU m ts rs k o.toNat|_=>false).map (λq=>q.1)=((List.range 4).filter (fU m ts rs k)).map λ(o:Nat)=>D.int (o:Int):=by
  rw[List.filter_map,List.map_map]
  rfl
 rw[f1]at e2
 have e3:pIf (aE .Eq (aa 7) (aM (aw))) (ao .Pow (ah 2) (aa 4)) (ah 0) [.val (.int (m:Int)),.val (av ts),.val (av rs),.val (.int (acc:Int)),.val (.int (k:Int)),.val (.int (rs.getD k 0:Nat)),.val (.int (stepI m k)),.val (av ((List.range 4).filter (fU m ts rs k)))] c=some (.int ((mR m ts rs k:Nat):Int),c):=by
  have t:aE .Eq (aa 7) (aM (aw)) [.val (.int (m:Int)),.val (av ts),.val (av rs),.val (.int (acc:Int)),.val (.int (k:Int)),.val (.int (rs.getD k 0:Nat)),.val (.int (stepI m k)),.val (av ((List.range 4).filter (fU m ts rs k)))] c=some (decide ((List.range 4).filter (fU m ts rs k)=[]),c):=bc (ab (i:=7) rfl) (aZ aB (Nat.zero_le _)) (ou _)
  unfold mR
  rw[hr]
  by_cases hh:(List.range 4).filter (fU m ts rs k)=[]
  ·rw[if_pos hh]
   exact fM (t.trans (by rw[decide_eq_true hh])) (iD (n:=k) (by(first|lia|omega)) (ab (i:=4) rfl))
  ·rw[if_neg hh]
   exact fx (t.trans (by rw[decide_eq_false hh])) ay
 refine⟨.val (.int (stepI m k)),.val (av ((List.range 4).filter (fU m ts rs k))),aO (bq e1) (aO (bq e2) (bD ((sD rfl e3).trans ?_) rfl))⟩
 rw[show (acc:Int)+(mR m ts rs k:Nat)=((acc+mR m ts rs k:Nat):Int)by(first|lia|omega)];rfl
theorem sy{m:Nat}{ts rs:List Nat}(hr:rs.length=4):∀(ks:List Nat) (acc:Nat) (w4 w5 w6 w7:Slot),(∀k∈ks,k<4)→∃w4' w5' w6' w7',bH (.t [4,5]) CR (ks.map λ(k:Nat)=>D.tup [.int (k:Int),.int ((rs.getD k 0:Nat):Int)]) [.val (.int (m:Int)),.val (av ts),.val (av rs),.val (.int (acc:Int)),w4,w5,w6,w7] c=
  some (.next,[.val (.int (m:Int)),.val (av ts),.val (av rs),.val (.int ((acc+(ks.map (mR m ts rs)).sum:Nat):Int)),w4',w5',w6',w7'],c)
 | [],acc,w4,w5,w6,w7,_=>⟨w4,w5,w6,w7,rfl⟩
 | k::ks,acc,w4,w5,w6,w7,h=>by
  obtain⟨w6',w7',e1⟩:=wo (c:=c) (m:=m) (acc:=acc) (ts:=ts) (w6:=w6) (w7:=w7) hr (h k (.head _))
  obtain⟨a4,a5,a6,a7,e2⟩:=sy hr ks (acc+mR m ts rs k) (.val (.int (k:Int))) (.val (.int ((rs.getD k 0:Nat):Int))) w6' w7' λx hx=>h x (.tail _ hx)
  refine⟨a4,a5,a6,a7,?_⟩
  rw[List.map_cons,List.map_cons,List.sum_cons,←Nat.add_assoc]
  exact bU rfl e1 e2
theorem ng{m:Nat}{ts rs:List Nat}(hr:rs.length=4):pk [.int (m:Int),av ts,av rs]=some (.int ((bu m ts rs:Nat):Int)):=by
 obtain⟨w4,w5,w6,w7,e⟩:=sy (c:=[]) (m:=m) (ts:=ts) hr (List.range 4) 0 .un .un .un .un λk hk=>List.mem_range.mp hk
 rw[Nat.zero_add]at e
 have hen:eT (rs.map λ(k:Nat)=>D.int (k:Int))=(List.range 4).map λo=>(D.int (o:Nat),D.int ((rs.getD o 0:Nat):Int)):=by
  rw[eV,hr];rfl
 have hsrc:bw fg (ag (aa 2) aw) [.val (.int (m:Int)),.val (av ts),.val (av rs),.val (.int ((0:Nat):Int)),.un,.un,.un,.un] []=some ((List.range 4).map λ(k:Nat)=>D.tup [.int (k:Int),.int ((rs.getD k 0:Nat):Int)],[]):=by
  refine(eQ (ab (i:=2) rfl)).trans ?_
  rw[hen,List.map_map];rfl
 have:bu m ts rs=((List.range 4).map (mR m ts rs)).sum:=by unfold bu;rw[hr]
 rw[this]
 exact cu rfl (aO (bq (ay (i:=((0:Nat):Int)))) (aO (iG hsrc e rfl) (cx (d6 (ab (i:=3) rfl)))))
end
end Mine
namespace Mine
noncomputable def cX(x:Nat):Nat:=((List.range 4).map λk=>jq x k).sum
noncomputable abbrev edE(t:SP):=cH 16 0 t 0 1
noncomputable abbrev edD(t:SP):=cH 18 0 t 0 0
noncomputable def TC(t:SP):List Nat:=(List.range 16).filter (dB (edE t))
noncomputable def OC(t:SP):List Nat:=(List.range 16).filter (dB (edD t))
noncomputable def xA(tc ac:List Nat)(s:Nat):Bool:=match ((tc.zip ac).filter λq=>decide ((s ^^^ q.1) ||| q.2=q.2)).map (·.1)with
 | [h]=>tc.all λone=>decide (cX (s &&& one)≤cX (s &&& h))
 | _=>false
noncomputable def C4(rs tc oc ac:List Nat):Bool:=decide (tc.map (λm=>bu (15 - m) oc rs)=ac) && (ac.all (λa=>decide (a<16)) && (List.range 16).all (xA tc ac))
noncomputable def perms:List (List Nat):=((List.range 4).flatMap λa=>(List.range 4).flatMap λb=>(List.range 4).flatMap λc=>(List.range 4).map λd=>[a,b,c,d]).filter λl=>l.isPerm [0,1,2,3]
noncomputable def gm(R:List Nat):List Nat:=(List.range 4).map λk=>R.idxOf k
noncomputable def gL(t:SP):Bool:=gQ (TC t) λtc=>gQ (OC t) λoc=>perms.all λR=>gQ (gm R) λrs=>gQ (tc.map λm=>bu m tc rs) λac=>C4 rs tc oc ac
theorem BN:∀b0<2,∀b1<2,∀b2<2,gL (shapeOf 0 0 0 b0 b1 b2)=true:=by decide +kernel
theorem BO:∀b0<2,∀b1<2,∀b2<2,gL (shapeOf 0 1 0 b0 b1 b2)=true:=by decide +kernel
theorem BP:∀b0<2,∀b1<2,∀b2<2,gL (shapeOf 1 0 0 b0 b1 b2)=true:=by decide +kernel
theorem BQ:∀b0<2,∀b1<2,∀b2<2,gL (shapeOf 1 1 0 b0 b1 b2)=true:=by decide +kernel
theorem BR:∀b0<2,∀b1<2,∀b2<2,gL (shapeOf 2 0 0 b0 b1 b2)=true:=by decide +kernel
theorem BS:∀b0<2,∀b1<2,∀b2<2,gL (shapeOf 2 1 0 b0 b1 b2)=true:=by decide +kernel
theorem zz:∀t∈shapes,gL t=true:=by
 intro t ht
 unfold shapes at ht
 obtain⟨k0,h0,ht⟩:=List.mem_flatMap.mp ht
 obtain⟨k1,h1,ht⟩:=List.mem_flatMap.mp ht
 obtain⟨b0,h2,ht⟩:=List.mem_flatMap.mp ht
 obtain⟨b1,h3,ht⟩:=List.mem_flatMap.mp ht
 obtain⟨b2,h4,e⟩:=List.mem_map.mp ht
 have H:∀k0∈([0,1,2]:List Nat),∀k1∈([0,1]:List Nat),∀b0<2,∀b1<2,∀b2<2,gL (shapeOf k0 k1 0 b0 b1 b2)=true:=
  List.forall_mem_cons.mpr ⟨List.forall_mem_cons.mpr ⟨BN,List.forall_mem_cons.mpr ⟨BO,List.forall_mem_nil _⟩⟩,List.forall_mem_cons.mpr ⟨List.forall_mem_cons.mpr ⟨BP,List.forall_mem_cons.mpr ⟨BQ,List.forall_mem_nil _⟩⟩,List.forall_mem_cons.mpr ⟨List.forall_mem_cons.mpr ⟨BR,List.forall_mem_cons.mpr ⟨BS,List.forall_mem_nil _⟩⟩,List.forall_mem_nil _⟩⟩⟩
 exact e▸H k0 h0 k1 h1 b0 (List.mem_range.mp h2) b1 (List.mem_range.mp h3) b2 (List.mem_range.mp h4)
theorem zL:∀t∈shapes,((edE t).length=4∧∀q∈edE t,q.1<5∧q.2<5)∧((edD t).length=4∧∀q∈edD t,q.1<5∧q.2<5):=by decide +kernel
theorem DR:∀t∈shapes,∀m<16,dB (edD t) m=dB (edE t) (15 - m):=by decide +kernel
theorem CM:∀a<16,∀b<16,Builtin.bitXor ((a:Nat):Int) ((b:Nat):Int)=((a ^^^ b:Nat):Int)∧a ^^^ b<16:=by decide +kernel
theorem Dy:∀a<16,∀b<16,Builtin.bitOr ((a:Nat):Int) ((b:Nat):Int)=((a ||| b:Nat):Int):=by decide +kernel
theorem BE:∀a<16,∀b<16,a &&& b<16:=by decide +kernel
theorem uH{t:SP}(ht:t∈shapes){R:List Nat}(hR:R∈perms):(∀m∈TC t,bu (15 - m) (OC t) (gm R)=bu m (TC t) (gm R))∧(∀m∈TC t,bu m (TC t) (gm R)<16)∧
  ∀s<16,∃h,(TC t).filter (λone=>decide ((s ^^^ one) ||| bu one (TC t) (gm R)=bu one (TC t) (gm R)))=[h]∧∀one∈TC t,cX (s &&& one)≤cX (s &&& h):=by
 have h:=zz t ht
 unfold gL at h
 rw[eW,eW]at h
 have h:=List.all_eq_true.mp h R hR
 rw[eW,eW]at h
 unfold C4 at h
 simp only[Bool.and_eq_true,decide_eq_true_eq,List.all_eq_true]at h
 obtain⟨h1,h2,h3⟩:=h
 refine⟨λm hm=>List.map_inj_left.mp h1 m hm,λm hm=>h2 _ (List.mem_map.mpr ⟨m,hm,rfl⟩),λs hs=>?_⟩
 have h4:=h3 s (List.mem_range.mpr hs)
 have hz:((TC t).zip ((TC t).map λm=>bu m (TC t) (gm R)))=(TC t).map λm=>(m,bu m (TC t) (gm R)):=by
  generalize TC t=l
  have:∀(l:List Nat) (f:Nat→Nat),l.zip (l.map f)=l.map λm=>(m,f m):=by
   intro l f
   induction l with
   | nil=>rfl
   | cons x l ih=>rw[List.map_cons,List.zip_cons_cons,ih,List.map_cons]
  exact this l _
 unfold xA at h4
 rw[hz,List.filter_map,List.map_map]at h4
 have he:((TC t).filter ((λq:Nat×Nat=>decide ((s ^^^ q.1) ||| q.2=q.2)) ∘ λm=>(m,bu m (TC t) (gm R)))).map ((λq:Nat×Nat=>q.1) ∘ λm=>(m,bu m (TC t) (gm R)))=(TC t).filter (λone=>decide ((s ^^^ one) ||| bu one (TC t) (gm R)=bu one (TC t) (gm R))):=by
  show List.map (λm=>m) _=_
  rw[List.map_id']
  rfl
 rw[he]at h4
 (first|(refine iE h4 ?_ ?_<;>(clear h4;intro _ h4))|split at h4)
 ·rename_i h eq
  refine⟨h,eq,λone ho=>?_⟩
  have:=List.all_eq_true.mp h4 one ho
  simpa using this
 ·cases h4
theorem yM{R:List Nat}(hR:R.Perm [0,1,2,3]):R∈perms:=by
 have hl:=hR.length_eq
 have hm:∀x∈R,x<4:=λx hx=>by have:=hR.mem_iff.mp hx;simp at this;(first|lia|omega)
 match R,hl with
 | [a,b,c,d],_=>
  unfold perms
  refine List.mem_filter.mpr ⟨?_,List.isPerm_iff.mpr hR⟩
  exact List.mem_flatMap.mpr ⟨a,List.mem_range.mpr (hm a (by simp)),List.mem_flatMap.mpr ⟨b,List.mem_range.mpr (hm b (by simp)),List.mem_flatMap.mpr ⟨c,List.mem_range.mpr (hm c (by simp)),List.mem_map.mpr ⟨d,List.mem_range.mpr (hm d (by simp)),rfl⟩⟩⟩⟩
theorem sk{m:Nat}{ts ts' rs rs':List Nat}{k o:Nat}(hk:(rs.getD o 0<rs.getD k 0)↔(rs'.getD o 0<rs'.getD k 0))(ht:∀x,x∈ts↔x∈ts'):fU m ts rs k o=fU m ts' rs' k o:=by
 unfold fU
 rw[decide_eq_decide.mpr hk]
 have:∀z:Int,z∈bh ts↔z∈bh ts':=by
  intro z
  constructor
  ·intro h
   obtain⟨x,hx,e⟩:=List.mem_map.mp h
   exact List.mem_map.mpr ⟨x,(ht x).mp hx,e⟩
  ·intro h
   obtain⟨x,hx,e⟩:=List.mem_map.mp h
   exact List.mem_map.mpr ⟨x,(ht x).mpr hx,e⟩
 rw[decide_eq_decide.mpr (this _)]
theorem uy{m:Nat}{ts ts' rs rs':List Nat}(hl:rs.length=rs'.length)(hk:∀o k,o<rs.length→k<rs.length→((rs.getD o 0<rs.getD k 0)↔(rs'.getD o 0<rs'.getD k 0)))(ht:∀x,x∈ts↔x∈ts'):bu m ts rs=bu m ts' rs':=by
 unfold bu
 rw[←hl]
 congr 1
 apply List.map_congr_left
 intro k hk'
 have hk2:=List.mem_range.mp hk'
 unfold mR
 rw[←hl]
 have:(List.range rs.length).filter (fU m ts rs k)=(List.range rs.length).filter (fU m ts' rs' k):=by
  apply List.filter_congr
  intro o ho
  exact sk (hk o k (List.mem_range.mp ho) hk2) ht
 rw[this]
theorem nf{m T:Nat}{R ts ts':List Nat}(ht:∀x,x∈ts↔x∈ts'):bu m ts ((List.range 4).map (fk R T))=bu m ts' (gm R):=by
 have e3:∀k:Nat,(bh R).idxOf (k:Int)=R.idxOf k:=λk=>oO (f:=λ(k:Nat)=>(k:Int)) λj _ h=>by exact_mod_cast h
 refine uy (by simp[gm]) (λo k ho hk=>?_) ht
 rw[List.length_map,List.length_range]at ho hk
 unfold gm
 rw[List.getD,List.getD,List.getD,List.getD,List.getElem?_map,List.getElem?_map,List.getElem?_map,List.getElem?_map,List.getElem?_range ho,List.getElem?_range hk]
 show fk R T o<fk R T k↔R.idxOf o<R.idxOf k
 unfold fk
 rw[e3,e3]
 (first|lia|omega)
end Mine
namespace Mine
section
variable{Γ:List Slot}{c c1 c2 c3:List Cell}{p q r:PE}{ps:PL}{d a b:D}{ds:List D}{α:Type}
theorem xu{i j:Nat}{es:List D}(h:Γ[i]?=some (.ref j))(hj:c[j]?=some (.fz es)):aa i Γ c=some (.lst es,c):=by unfold aa;rw[h];simp only[];rw[hj]
theorem yl:tF Γ c=some (.next,Γ.set 29 (.ref c.length),c++[.lst []]):=iH aB (Nat.zero_le _)
theorem v9{a b:List Int}(h:a.Perm b):dO a=dO b:=by
 refine jl (((List.mergeSort_perm a _)).trans h) ?_
 have:(dO a).Pairwise λx y=>decide (x≤y)=true:=by
  unfold dO
  exact List.pairwise_mergeSort (λx y z h1 h2=>by simp only[decide_eq_true_eq]at *;(first|lia|omega)) (λx y=>by simp only[Bool.or_eq_true,decide_eq_true_eq];(first|lia|omega)) a
 exact this.imp λh=>by simpa using h
theorem nT{ns:List Int}(h:ns.length<64):iX [dY ns]=some (dY (dO ns)):=by
 show (e7 (ns.map .int)).bind _=_
 rw[e8]
 simp only[Option.bind_some]
 rw[if_pos h]
theorem yn{ks:Nat}{E:List (Nat×Nat)}{ms:List Nat}(hE:E.length=4∧∀q∈E,q.1<5∧q.2<5)(hm:∀m∈ms,m<16)(hl:ms.length≤100)(h29:Γ[29]?=some (.ref ks))(hk:c[ks]?=some (.lst (ntD ms)))(h22:Γ[22]?=some (.val (.lst (E.map nnD)))) :
  tH Γ c=some (.next,aT 34 (av (ms.filter (dB E))) Γ,c.set ks (.fz (ntD ms))):=bq (lX (gX h29 hk) (ab h22) (qO hE hm hl))
theorem yo{ks:Nat}{E:List (Nat×Nat)}{ms:List Nat}(hE:E.length=4∧∀q∈E,q.1<5∧q.2<5)(hm:∀m∈ms,m<16)(hl:ms.length≤100)(h29:Γ[29]?=some (.ref ks))(hk:c[ks]?=some (.fz (ntD ms)))(h23:Γ[23]?=some (.val (.lst (E.map nnD)))) :
  tI Γ c=some (.next,aT 35 (av (ms.filter (dB E))) Γ,c):=bq (lX (xu h29 hk) (ab h23) (qO hE hm hl))
theorem yq{ts rs:List Nat}(hr:rs.length=4)(hl:ts.length≤100)(h34:Γ[34]?=some (.val (av ts)))(h25:Γ[25]?=some (.val (av rs))):tJ Γ c=some (.next,aT 36 (av (ts.map λm=>bu m ts rs)) Γ,c):=by
 have hcap:bS [none,some 34,some 25] Γ=[.un,.val (av ts),.val (av rs)]:=by simp[bS,h34,h25]
 refine bq ((dn (l:=ts) (g:=λ(k:Nat)=>D.int (k:Int)) (λm=>D.int ((bu m ts rs:Nat):Int)) (b7 (ab h34)) (by rw[hcap];intro m _;exact lY (ab rfl) (ab rfl) (ab rfl) (ng hr)) (by(first|lia|omega))).trans ?_)
 unfold av
 rw[List.map_map];rfl
theorem qf{m:Nat}(hm:m<16)(h:q Γ c=some (.int (m:Int),c1)):ao .Sub (ah 15) q Γ c=some (.int ((15 - m:Nat):Int),c1):=by
 refine(aU (op:=.Sub) (ay (i:=15)) h ji).trans ?_
 rw[show (15:Int) - (m:Int)=((15 - m:Nat):Int)by(first|lia|omega)]
theorem yr{k:Nat}{ts os rs:List Nat}(hr:rs.length=4)(hl:ts.length≤60∧os.length≤60)(hts:∀m∈ts,m<16)(hp:os.Perm (ts.map λm=>15 - m))(ha:∀m∈ts,bu (15 - m) os rs=bu m ts rs)(h15:Γ[15]?=some (.ref k))(hk:c[k]?=some (.lst ds))(hd:ds.length≤9000)
  (h34:Γ[34]?=some (.val (av ts))) (h35:Γ[35]?=some (.val (av os))) (h25:Γ[25]?=some (.val (av rs))) (h36:Γ[36]?=some (.val (av (ts.map λm=>bu m ts rs)))) :
  ∃qs,tK Γ c=some (.next,Γ,c.set k (.lst (ds++qs)))∧fI qs∧qs.length=2:=by
 have hcap:bS [none,some 35,some 25] Γ=[.un,.val (av os),.val (av rs)]:=by simp[bS,h35,h25]
 have e1:=dn (Γ:=Γ) (c:=c) (js:=[none]) (i:=0) (p:=ao .Sub (ah 15) (aa 0)) (l:=ts) (g:=λ(k:Nat)=>D.int (k:Int)) (c1:=c) (λm=>D.int ((15 - m:Nat):Int)) (b7 (ab h34)) (λm hm=>qf (hts m hm) (ab rfl)) (by(first|lia|omega))
 have f1:D.lst (ts.map λm=>D.int ((15 - m:Nat):Int))=dY (bh (ts.map λm=>15 - m)):=by unfold dY bh;rw[List.map_map,List.map_map];rfl
 rw[f1]at e1
 have e2:=cy (F:=iX) (au (ab (c:=c) h35) aB) (by rw[kr];exact nT (by rw[List.length_map];(first|lia|omega)))
 have e3:=cy (F:=iX) (au e1 aB) (nT (by rw[List.length_map,List.length_map];(first|lia|omega)))
 have hsort:dO (bh os)=dO (bh (ts.map λm=>15 - m)):=v9 (hp.map _)
 rw[hsort]at e2
 have e4:=dn (Γ:=Γ) (c:=c) (js:=[none,some 35,some 25]) (i:=0) (p:=aJ jE (aG (ao .Sub (ah 15) (aa 0)) (aG (aa 1) (aG (aa 2) (aX))))) (l:=ts) (g:=λ(k:Nat)=>D.int (k:Int)) (c1:=c) (λm=>D.int ((bu m ts rs:Nat):Int)) (b7 (ab h34)) (by
  rw[hcap]
  intro m hm
  have:=lY (qf (Γ:=[.val (.int (m:Int)),.val (av os),.val (av rs)]) (c:=c) (hts m hm) (ab (i:=0) rfl)) (ab (i:=1) rfl) (ab (i:=2) rfl) (ng (m:=15 - m) (ts:=os) hr)
  rw[ha m hm]at this
  exact this) (by(first|lia|omega))
 have f4:D.lst (ts.map λm=>D.int ((bu m ts rs:Nat):Int))=av (ts.map λm=>bu m ts rs):=by unfold av;rw[List.map_map];rfl
 rw[f4]at e4
 refine⟨_,qv (k:=k) h15 ⟨_,hk⟩ (aZ (au (ck e2 e3) (au (ck e4 (ab h36)) aB)) (Nat.le_of_ble_eq_true rfl)) hk (by simp only[List.length_cons,List.length_nil];(first|lia|omega)),?_,rfl⟩
 intro e he
 simp only[List.mem_cons,List.not_mem_nil,or_false]at he
 rcases he with rfl|rfl
 ·exact⟨_,rfl,(jR (n:=0) λd hd=>by obtain⟨x,_,rfl⟩:=List.mem_map.mp hd;exact jf).le (by decide)⟩
 ·exact⟨_,rfl,(l5 _).le (by decide)⟩
theorem si:∀x<16,dT (bh ((List.range 4).map λk=>jq x k))=true∧(bh ((List.range 4).map λk=>jq x k)).sum=(cX x:Int):=by decide +kernel
theorem yt:tL Γ c=some (.next,aT 37 (av ((List.range 16).map cX)) Γ,c):=by
 refine bq ((dn (l:=List.range 16) (g:=λ(k:Nat)=>D.int (k:Int)) (λx=>D.int ((cX x:Nat):Int)) (ez (n:=16) (by decide)) (λx hx=>?_) (by decide)).trans ?_)
 ·have hx':=List.mem_range.mp hx
  obtain⟨s1,s2⟩:=si x hx'
  have e:=dn (Γ:=aT 0 (.int (x:Int)) (bS [none] Γ)) (c:=c) (js:=[none,some 0]) (i:=0) (p:=ao .Mod (ao .FloorDiv (aa 1) (ao .Pow (ah 2) (aa 0))) (ah 2)) (l:=List.range 4) (g:=λ(k:Nat)=>D.int (k:Int)) (c1:=c) (λk=>D.int ((jq x k:Nat):Int)) (ez (n:=4) (by decide)) (λk hk=>lA (m:=x) (List.mem_range.mp hk) rfl rfl) (by decide)
  have f:D.lst ((List.range 4).map λk=>D.int ((jq x k:Nat):Int))=dY (bh ((List.range 4).map λk=>jq x k)):=by unfold dY bh;rw[List.map_map,List.map_map];rfl
  rw[f]at e
  have:=cy (F:=oF) (au e aB) (o9 s1)
  rw[s2]at this
  exact this
 ·unfold av
  rw[List.map_map];rfl
theorem Ci{ns:List Nat}{M:Nat}(h1:M∈ns)(h2:∀x∈ns,x≤M)(hl:ns.length≤100):zR [av ns]=some (.int (M:Int)):=by
 rw[kr]
 show (e7 ((bh ns).map .int)).bind _=_
 rw[e8]
 simp only[Option.bind_some]
 rw[if_pos (by rw[List.length_map];(first|lia|omega))]
 have hpos:0<ns.length:=by cases ns with|nil=>cases h1|cons _ _=>exact Nat.succ_pos _
 obtain⟨g1,g2⟩:=argBest_gt (λi=>(bh ns).getD i 0) ((bh ns).length - 1)
 have hm:gz (bh ns)<(bh ns).length:=by
  unfold gz
  rw[List.length_map]at g1⊢
  (first|lia|omega)
 have hv:(bh ns)[gz (bh ns)]?=some (M:Int):=by
  rw[List.getElem?_eq_getElem hm]
  congr 1
  obtain⟨i,hi,e⟩:=List.getElem_of_mem h1
  have ub:(bh ns)[gz (bh ns)]≤(M:Int):=by
   have hmem:(bh ns)[gz (bh ns)]∈bh ns:=List.getElem_mem hm
   obtain⟨x,hx,e2⟩:=List.mem_map.mp hmem
   rw[←e2]
   have:=h2 x hx
   (first|lia|omega)
  have lb:=g2 i (by rw[List.length_map];(first|lia|omega))
  have hgi:(bh ns).getD i 0=(M:Int):=by
   rw[List.getD,List.getElem?_map,List.getElem?_eq_getElem hi,e];rfl
  have hgm:(bh ns).getD (gz (bh ns)) 0=(bh ns)[gz (bh ns)]:=by rw[List.getD,List.getElem?_eq_getElem hm];rfl
  have lb':(bh ns).getD i 0≤(bh ns).getD (gz (bh ns)) 0:=lb
  rw[hgi,hgm]at lb'
  (first|lia|omega)
 rw[hv];rfl
theorem vI{k s h:Nat}{ts rs:List Nat}(hs:s<16)(hl:ts.length≤60)(hts:∀m∈ts,m<16)(hac:∀m∈ts,bu m ts rs<16)(hh:ts.filter (λone=>decide ((s ^^^ one) ||| bu one ts rs=bu one ts rs))=[h])(hM:∀one∈ts,cX (s &&& one)≤cX (s &&& h))(hG:Γ.length=39)
  (h15:Γ[15]?=some (.ref k)) (hk:c[k]?=some (.lst ds)) (hd:ds.length≤9000) (h31:Γ[31]?=some (.val (.int (s:Int)))) (h34:Γ[34]?=some (.val (av ts))) (h36:Γ[36]?=some (.val (av (ts.map λm=>bu m ts rs)))) (h37:Γ[37]?=some (.val (av ((List.range 16).map cX)))) :
  ∃x,rL Γ c=some (.next,aT 38 (av [h]) Γ,c.set k (.lst (ds++[.tup [x,x]])))∧GoodK 20 x:=by
 have hcap:bS [none,none,some 31] Γ=[.un,.un,.val (.int (s:Int))]:=by simp[bS,h31]
 have hz:((ts.map λ(k:Nat)=>D.int (k:Int)).zip ((ts.map λm=>bu m ts rs).map λ(k:Nat)=>D.int (k:Int)))=ts.map λm=>(D.int (m:Nat),D.int ((bu m ts rs:Nat):Int)):=by
  have:∀(l:List Nat) (f:Nat→Nat),((l.map λ(k:Nat)=>D.int (k:Int)).zip ((l.map f).map λ(k:Nat)=>D.int (k:Int)))=l.map λm=>(D.int (m:Nat),D.int ((f m:Nat):Int)):=by
   intro l f
   induction l with
   | nil=>rfl
   | cons x l ih=>rw[List.map_cons,List.map_cons,List.map_cons,List.zip_cons_cons,ih,List.map_cons]
  exact this ts _
 have e1:=gr (Γ:=Γ) (c:=c) (js:=[none,none,some 31]) (i:=0) (j:=1) (t:=aE .Eq (ao .BitOr (ao .BitXor (aa 2) (aa 0)) (aa 1)) (aa 1)) (p:=aa 0) (l:=ts.map λm=>(D.int (m:Nat),D.int ((bu m ts rs:Nat):Int))) (c1:=c)
  (λq=>match q.1 with|.int o=>decide ((s ^^^ o.toNat) ||| bu o.toNat ts rs=bu o.toNat ts rs)|_=>false) (λq=>q.1) (by decide) ((uh (ab h34) (ab h36)).trans (by rw[hz])) (by
   rw[hcap]
   intro q hq
   obtain⟨m,hm,rfl⟩:=List.mem_map.mp hq
   show aE .Eq _ _ [.val (.int (m:Int)),.val (.int ((bu m ts rs:Nat):Int)),.val (.int (s:Int))] c=some (decide ((s ^^^ ((m:Int)).toNat) ||| bu ((m:Int)).toNat ts rs=bu ((m:Int)).toNat ts rs),c)
   rw[Int.toNat_natCast]
   obtain⟨x1,x2⟩:=CM s hs m (hts m hm)
   have u1:=aU (op:=.BitXor) (ab (Γ:=[.val (.int (m:Int)),.val (.int ((bu m ts rs:Nat):Int)),.val (.int (s:Int))]) (c:=c) (i:=2) rfl) (ab (i:=0) rfl) Dm
   rw[x1]at u1
   have u2:=aU (op:=.BitOr) u1 (ab (i:=1) rfl) EA
   rw[Dy _ x2 _ (hac m hm)]at u2
   exact(bc u2 (ab (i:=1) rfl) jb).trans (qT _ _)) (λq _ _=>ab rfl) (by rw[List.length_map];(first|lia|omega))
 have f1:((ts.map λm=>(D.int (m:Nat),D.int ((bu m ts rs:Nat):Int))).filter λq=>match q.1 with|.int o=>decide ((s ^^^ o.toNat) ||| bu o.toNat ts rs=bu o.toNat ts rs)|_=>false).map (λq=>q.1)=ntD [h]:=by
  rw[List.filter_map,List.map_map]
  show (ts.filter (λone=>decide ((s ^^^ one) ||| bu one ts rs=bu one ts rs))).map (λ(k:Nat)=>D.int (k:Int))=_
  rw[hh]
 rw[f1]at e1
 have hmem:h∈ts:=by
  have:h∈ts.filter (λone=>decide ((s ^^^ one) ||| bu one ts rs=bu one ts rs)):=by rw[hh];exact .head _
  exact(List.mem_filter.mp this).1
 have size_ev:∀(Γ1:List Slot) (m:Nat),m<16→Γ1[0]?=some (.val (.int (m:Int)))→Γ1[1]?=some (.val (av ((List.range 16).map cX)))→Γ1[2]?=some (.val (.int (s:Int)))→ba (aa 1) (ao .BitAnd (aa 2) (aa 0)) Γ1 c=some (.int ((cX (s &&& m):Nat):Int),c):=by
  intro Γ1 m hm g0 g1 g2
  have hlt:=BE s hs m hm
  refine cK (ab g1) (og (ab g2) (ab g0)) (by(first|lia|omega)) ?_
  rw[List.map_map,List.getElem?_map,List.getElem?_range hlt];rfl
 have g38:(aT 38 (av [h]) Γ)[38]?=some (.val (av [h])):=g9 (by(first|lia|omega))
 have get:∀j,j≠38→(aT 38 (av [h]) Γ)[j]?=Γ[j]?:=λj hj=>fe (Ne.symm hj)
 have hcap2:bS [none,some 37,some 31] (aT 38 (av [h]) Γ)=[.un,.val (av ((List.range 16).map cX)),.val (.int (s:Int))]:=by simp[bS,get 37 (by decide),get 31 (by decide),h37,h31]
 have e2:=dn (Γ:=aT 38 (av [h]) Γ) (c:=c) (js:=[none,some 37,some 31]) (i:=0) (p:=ba (aa 1) (ao .BitAnd (aa 2) (aa 0))) (l:=[h]) (g:=λ(k:Nat)=>D.int (k:Int)) (c1:=c) (λm=>D.int ((cX (s &&& m):Nat):Int)) (b7 (ab g38)) (by
  rw[hcap2]
  intro m hm
  rw[List.mem_singleton.mp hm]
  exact size_ev _ h (hts h hmem) rfl rfl rfl) (Nat.le_of_ble_eq_true rfl)
 have e3:=dn (Γ:=aT 38 (av [h]) Γ) (c:=c) (js:=[none,some 37,some 31]) (i:=0) (p:=ba (aa 1) (ao .BitAnd (aa 2) (aa 0))) (l:=ts) (g:=λ(k:Nat)=>D.int (k:Int)) (c1:=c) (λm=>D.int ((cX (s &&& m):Nat):Int)) (b7 (ab ((get 34 (by decide)).trans h34))) (by
  rw[hcap2]
  intro m hm
  exact size_ev _ m (hts m hm) rfl rfl rfl) (by(first|lia|omega))
 have f3:D.lst (ts.map λm=>D.int ((cX (s &&& m):Nat):Int))=av (ts.map λm=>cX (s &&& m)):=by unfold av;rw[List.map_map];rfl
 rw[f3]at e3
 have e4:=cy (F:=zR) (au e3 aB) (Ci (M:=cX (s &&& h)) (List.mem_map.mpr ⟨h,hmem,rfl⟩) (λx hx=>by obtain⟨m,hm,rfl⟩:=List.mem_map.mp hx;exact hM m hm) (by rw[List.length_map];(first|lia|omega)))
 refine⟨.lst [.int ((cX (s &&& h):Nat):Int)],aO (bq e1) (bD (kZ ((get 15 (by decide)).trans h15) hk (ck e2 (aZ (au e4 aB) (Nat.le_of_ble_eq_true rfl))) (by(first|lia|omega))) rfl),?_⟩
 exact(jR (n:=0) λd hd=>by rw[List.mem_singleton.mp hd];exact jf).le (by decide)
theorem nz{k:Nat}{ts rs:List Nat}(hl:ts.length≤60)(hts:∀m∈ts,m<16)(hac:∀m∈ts,bu m ts rs<16)(hh:∀s<16,∃h,ts.filter (λone=>decide ((s ^^^ one) ||| bu one ts rs=bu one ts rs))=[h]∧∀one∈ts,cX (s &&& one)≤cX (s &&& h)):∀(ss:List Nat) (Γ:List Slot) (c:List Cell) (as:List D),(∀s∈ss,s<16)→Γ.length=39→c[k]?=some (.lst as)→as.length+ss.length≤9000→
  Γ[15]?=some (.ref k)→Γ[34]?=some (.val (av ts))→Γ[36]?=some (.val (av (ts.map λm=>bu m ts rs)))→Γ[37]?=some (.val (av ((List.range 16).map cX)))→
  ∃Γ' qs,bH (.n 31) rL (ntD ss) Γ c=some (.next,Γ',c.set k (.lst (as++qs)))∧fI qs∧qs.length=ss.length∧Γ'.length=39∧Γ'[15]?=some (.ref k)
 | [],Γ,c,as,_,hG,hk,_,h15,_,_,_=>⟨Γ,[],by rw[List.append_nil,set_same hk];rfl,sC,rfl,hG,h15⟩
 | s::ss,Γ,c,as,hs,hG,hk,hla,h15,h34,h36,h37=>by
  have hka:k<c.length:=(List.getElem?_eq_some_iff.mp hk).1
  rw[List.length_cons]at hla
  obtain⟨h,hh1,hh2⟩:=hh s (hs s (.head _))
  have get:∀j,j≠31→(aT 31 (.int (s:Int)) Γ)[j]?=Γ[j]?:=λj hj=>fe (Ne.symm hj)
  obtain⟨x,e1,g1⟩:=vI (Γ:=aT 31 (.int (s:Int)) Γ) (c:=c) (hs s (.head _)) hl hts hac hh1 hh2 (by rw[dN];exact hG) ((get 15 (by decide)).trans h15) hk (by(first|lia|omega)) (g9 (by(first|lia|omega))) ((get 34 (by decide)).trans h34) ((get 36 (by decide)).trans h36) ((get 37 (by decide)).trans h37)
  have get2:∀j,j≠31→j≠38→(aT 38 (av [h]) (aT 31 (.int (s:Int)) Γ))[j]?=Γ[j]?:=λj h1 h2=>by rw[fe (Ne.symm h2),fe (Ne.symm h1)]
  obtain⟨Γ',qs,e2,g2,n2,l2,o2⟩:=nz hl hts hac hh ss (aT 38 (av [h]) (aT 31 (.int (s:Int)) Γ)) (c.set k (.lst (as++[.tup [x,x]]))) (as++[.tup [x,x]]) (λz hz=>hs z (.tail _ hz)) (by rw[dN,dN];exact hG) (hH hka) (by rw[List.length_append];simp only[List.length_cons,List.length_nil];(first|lia|omega))
   ((get2 15 (by decide) (by decide)).trans h15) ((get2 34 (by decide) (by decide)).trans h34) ((get2 36 (by decide) (by decide)).trans h36) ((get2 37 (by decide) (by decide)).trans h37)
  refine⟨Γ',.tup [x,x]::qs,bU rfl e1 (e2.trans ?_),en (ds:=[.tup [x,x]]) (gJ g1 (Nat.le_refl _)) g2,by rw[List.length_cons,n2,List.length_cons],l2,o2⟩
  rw[List.set_set,List.append_assoc];rfl
theorem yu{k ks:Nat}{ts rs ss:List Nat}{as:List D}(hl:ts.length≤60)(hts:∀m∈ts,m<16)(hac:∀m∈ts,bu m ts rs<16)(hh:∀s<16,∃h,ts.filter (λone=>decide ((s ^^^ one) ||| bu one ts rs=bu one ts rs))=[h]∧∀one∈ts,cX (s &&& one)≤cX (s &&& h))(hs:∀s∈ss,s<16)(hG:Γ.length=39)(hk:c[k]?=some (.lst as))(hla:as.length+ss.length≤9000)
  (h15:Γ[15]?=some (.ref k)) (h34:Γ[34]?=some (.val (av ts))) (h36:Γ[36]?=some (.val (av (ts.map λm=>bu m ts rs)))) (h37:Γ[37]?=some (.val (av ((List.range 16).map cX)))) (h29:Γ[29]?=some (.ref ks)) (hks:c[ks]?=some (.fz (ntD ss))) :
  ∃Γ' qs,tM Γ c=some (.next,Γ',c.set k (.lst (as++qs)))∧fI qs∧qs.length=ss.length∧Γ'.length=39∧Γ'[15]?=some (.ref k):=by
 obtain⟨Γ',qs,e,g,nq,l,o⟩:=nz hl hts hac hh ss Γ c as hs hG hk hla h15 h34 h36 h37
 exact⟨Γ',qs,iG (b7 (xu h29 hks)) e rfl,g,nq,l,o⟩
theorem ne_self{x:D}(h:GoodK 20 x):fu .NotEq x x=some false:=by
 have e:=(h.good (by decide)).eq
 cases x with
 | int i=>exact congrArg some (bne_self_eq_false i)
 | none=>simp[fu,AE,e]
 | bool b=>simp[fu,AE,e]
 | str s=>show (dEq _ _).map _=_;rw[e];rfl
 | tup ds=>show (dEq _ _).map _=_;rw[e];rfl
 | lst ds=>show (dEq _ _).map _=_;rw[e];rfl
 | obj v=>simp[fu,AE,e]
theorem yv{k:Nat}{as:List D}(hA:fI as)(hl:as.length≤9000)(h15:Γ[15]?=some (.ref k))(hk:c[k]?=some (.lst as)):tN Γ c=some (.ret (.bool true),Γ,c.set k (.fz as)):=by
 have e1:=ik (Γ:=Γ) (c:=c) (js:=[none]) (i:=0) (t:=aE .NotEq (ba (aa 0) (ah 0)) (ba (aa 0) (ah 1))) (p:=aa 0) (ds:=as) (c1:=c.set k (.fz as)) (λ_=>false) (λd=>d) (b7 (gX h15 hk)) (by
  intro d hd
  obtain⟨x,rfl,g⟩:=hA d hd
  exact bc (fv (ab (i:=0) rfl) (ay (i:=0)) (kO (by decide) rfl)) (fv (ab (i:=0) rfl) (ay (i:=1)) (kO (by decide) rfl)) (ne_self g)) (λd _ h=>by cases h) (by(first|lia|omega))
 have f:as.filter (λ_=>false)=[]:=List.filter_eq_nil_iff.mpr λ_ _ h=>by cases h
 rw[f]at e1
 exact d6 (gb e1 (aZ aB (Nat.zero_le _)) (ou []))
end
end Mine
end
section
open PySem PySem.Calls PySem.Spec PyProof PyProof.Rows PySem.W
set_option maxRecDepth 20000
set_option maxHeartbeats 4000000
namespace Mine
theorem lU{L:List Nat}(hL:∀ch∈L,ch∈bC):∀t:SP,(∀i∈fZ t,i<L.length)→∀s∈code L t,s∈ee
 | .leaf i,h,s,hs=>by
  rw[List.mem_singleton.mp hs]
  have:∀x∈bC,x∈ee:=by decide
  exact this _ (hL _ (getD_mem (h i (.head _))))
 | .node b l r,h,s,hs=>by
  have hs':s∈[40]++code L l++[bF b]++code L r++[41]:=hs
  have hst:bF b∈ee:=by unfold bF;split<;>decide
  simp only[List.mem_append,List.mem_singleton]at hs'
  rcases hs' with(((rfl|hs')|rfl)|hs')|rfl
  ·decide
  ·exact lU hL l (λi hi=>h i (List.mem_append_left _ hi)) s hs'
  ·exact hst
  ·exact lU hL r (λi hi=>h i (List.mem_append_right _ hi)) s hs'
  ·decide
theorem Cg{L:List Nat}(hL:∀ch∈L,ch∈bC):jH L:=by
 intro i
 by_cases h:i<L.length
 ·have:∀x∈bC,x≠40∧x≠41:=by decide
  exact this _ (hL _ (getD_mem h))
 ·rw[List.getD,List.getElem?_eq_none (by(first|lia|omega))];decide
theorem wB{Γ Γ':List Slot}(hl:Γ'.length=Γ.length)(h:∀j,j≠30→j≠31→j≠32→j≠33→Γ'[j]?=Γ[j]?):∃w0 w1 w2 w3,Γ'=(((Γ.set 30 w0).set 31 w1).set 32 w2).set 33 w3:=by
 refine⟨Γ'.getD 30 .un,Γ'.getD 31 .un,Γ'.getD 32 .un,Γ'.getD 33 .un,List.ext_getElem? λj=>?_⟩
 have key:∀i,i<Γ.length→some (Γ'.getD i .un)=Γ'[i]?:=by
  intro i hi
  rw[List.getD,List.getElem?_eq_getElem (by(first|lia|omega))];rfl
 simp only[List.getElem?_set,List.length_set]
 by_cases h3:33=j
 ·subst h3
  rw[if_pos rfl]
  by_cases hj:33<Γ.length
  ·rw[if_pos hj,key 33 hj]
  ·rw[if_neg hj];exact List.getElem?_eq_none (by(first|lia|omega))
 ·rw[if_neg h3]
  by_cases h2:32=j
  ·subst h2
   rw[if_pos rfl]
   by_cases hj:32<Γ.length
   ·rw[if_pos hj,key 32 hj]
   ·rw[if_neg hj];exact List.getElem?_eq_none (by(first|lia|omega))
  ·rw[if_neg h2]
   by_cases h1:31=j
   ·subst h1
    rw[if_pos rfl]
    by_cases hj:31<Γ.length
    ·rw[if_pos hj,key 31 hj]
    ·rw[if_neg hj];exact List.getElem?_eq_none (by(first|lia|omega))
   ·rw[if_neg h1]
    by_cases h0:30=j
    ·subst h0
     rw[if_pos rfl]
     by_cases hj:30<Γ.length
     ·rw[if_pos hj,key 30 hj]
     ·rw[if_neg hj];exact List.getElem?_eq_none (by(first|lia|omega))
    ·rw[if_neg h0]
     exact h j (Ne.symm h0) (Ne.symm h1) (Ne.symm h2) (Ne.symm h3)
noncomputable def start(ns:List Int):List Slot:=[.val (dY ns),.un,.un,.un,.un,.un,.un,.un,.un,.un,.un,.un,.un,.un,.un,.un,.un,.un,.un,.un,.un,.un,.un,.un,.un,.un,.un,.un,.un,.un,.un,.un,.un,.un,.un,.un,.un,.un,.un]
theorem DP{as bs:List D}{n m:Nat}(h:as.length=n)(k:bs.length=m):(as++bs).length=n+m:=by rw[List.length_append,h,k]
structure Net (a0 a1 a2 a3:Nat) (L:List Nat) (t:SP):Prop where
 b:a0≤320000∧a1≤320000∧a2≤320000∧a3≤320000
 len:L.length=4
 nd:L.Nodup
 pool:∀ch∈L,ch∈bC
 shape:t∈shapes
theorem yC{a0 a1 a2 a3:Nat}(b:a0≤320000∧a1≤320000∧a2≤320000∧a3≤320000):Net a0 a1 a2 a3 (dj bC [a0,a1,a2,a3]) (shapeAt a0 a1 a2):=
 ⟨b,by rw[nM];rfl,kW _ _ jx (Nat.le_of_ble_eq_true rfl),kA _ _ jx (Nat.le_of_ble_eq_true rfl),vX _ _ _⟩
noncomputable abbrev St1(ns:List Int)(a0 a1 a2 a3:Nat)(L:List Nat)(t:SP)(l:List (Nat×Nat))(R ms:List Nat):List Slot:=
 [.val (dY ns),.val (bT a0 a1 a2 a3),.val (.int ((a0+a1+a2+a3:Nat):Int)),.val (sgD L),.val (sgD (code L t)),.val g8,.val (.lst ((l.map txt).map aF)),.val (aF (l.map txt).flatten),.val (av R),.val (av (eK R L)),.val (.int (((a0+a1+a2+a3) % 13:Nat):Int)),.val (.int (wX (a0+a1+a2+a3))),.val (av ms),
  .un,.un,.un,.un,.un,.un,.un,.un,.un,.un,.un,.un,.un,.un,.un,.un,.un,.un,.un,.un,.un,.un,.un,.un,.un,.un]
theorem EC{ns:List Int}(hl:ns.length≤63)(c:List Cell):∃a0 a1 a2 a3:Nat,(a0≤320000∧a1≤320000∧a2≤320000∧a3≤320000)∧∀{g:PS} {r:Option (Fl×List Slot×List Cell)},
  g (St1 ns a0 a1 a2 a3 (dj bC [a0,a1,a2,a3]) (shapeAt a0 a1 a2) (paired [a0,a1,a2,a3] (code (dj bC [a0,a1,a2,a3]) (shapeAt a0 a1 a2))) (o7 [a0,a1,a2,a3]) (kq (a0+a1+a2+a3))) c=r→
  ak z9 (ak Ac (ak Ae (ak Ag (ak Ai (ak Ak (ak Am (ak Ao (ak Aq (ak As (ak sU g)))))))))) (start ns) c=r:=by
 refine⟨dX ns 634 0,dX ns 27 1,dX ns 371 2,dX ns 106 3,⟨fX hl (by decide),fX hl (by decide),fX hl (by decide),fX hl (by decide)⟩,?_⟩
 intro g r hg
 have hb:dX ns 634 0≤320000∧dX ns 27 1≤320000∧dX ns 371 2≤320000∧dX ns 106 3≤320000:=⟨fX hl (by decide),fX hl (by decide),fX hl (by decide),fX hl (by decide)⟩
 have s0:=Ab (Γ:=start ns) (c:=c) hl rfl
 generalize dX ns 634 0=a0 at*
 generalize dX ns 27 1=a1 at*
 generalize dX ns 371 2=a2 at*
 generalize dX ns 106 3=a3 at*
 have N:=yC hb
 have hx:=k8 _ N.shape
 have hS:(code (dj bC [a0,a1,a2,a3]) (shapeAt a0 a1 a2)).length=13:=by rw[ff,hx.2.1]
 have hR:=jW [a0,a1,a2,a3]
 have hRm:∀k∈o7 [a0,a1,a2,a3],k<(dj bC [a0,a1,a2,a3]).length:=λk hk=>by
  have:=hR.mem_iff.mp hk
  rw[N.len];simp at this;(first|lia|omega)
 have hpl:(paired [a0,a1,a2,a3] (code (dj bC [a0,a1,a2,a3]) (shapeAt a0 a1 a2))).length=13:=by unfold paired;rw[List.length_map,List.length_range,hS]
 refine aO s0 (aO (Ad hb rfl) (aO (Af rfl) (aO (Ah N.len rfl rfl) (aO Aj (aO (Al hb (by rw[hS];decide) rfl rfl rfl) (aO (An rfl (by have:=fh (paired [a0,a1,a2,a3] (code (dj bC [a0,a1,a2,a3]) (shapeAt a0 a1 a2)));(first|lia|omega))) (aO (Ap rfl) (aO (Ar hRm ⟨by rw[hR.length_eq];decide,by rw[N.len];decide⟩ N.pool rfl rfl) (aO (Au rfl) (aO (xQ rfl) ?_))))))))))
 exact hg
end Mine
end
section
open PySem PySem.Calls PySem.Spec PyProof PyProof.Rows PySem.W
set_option maxRecDepth 20000
set_option maxHeartbeats 8000000
namespace Mine
theorem uN:∀t∈shapes,(OC t).isPerm ((TC t).map λm=>15 - m)=true:=by decide +kernel
theorem bW{f g:PS}{Γ Γ1:List Slot}{c c1:List Cell}{d:D}{P:Addr}(h:f Γ c=some (.next,Γ1,c1))(k:∃Γ' c' fl,g Γ1 c1=some (.ret d,Γ',c')∧c'[0]?=some (bt P fl)):∃Γ' c' fl,ak f g Γ c=some (.ret d,Γ',c')∧c'[0]?=some (bt P fl):=by
 obtain⟨Γ',c',fl,e,e2⟩:=k
 exact⟨Γ',c',fl,aO h e,e2⟩
theorem Cu{f g:PS}{Γ Γ1:List Slot}{c c1:List Cell}{d:D}{P:Addr}{fl:Bool}(h:f Γ c=some (.ret d,Γ1,c1))(h2:c1[0]?=some (bt P fl)):∃Γ' c' fl,ak f g Γ c=some (.ret d,Γ',c')∧c'[0]?=some (bt P fl):=⟨_,_,_,cx h,h2⟩
theorem uz:∀n:Nat,fI (List.replicate n a9):=by
 intro n e he
 rw[(List.mem_replicate.mp he).2]
 exact⟨_,rfl,(jR (n:=0) λd hd=>by
  simp only[List.mem_cons,List.not_mem_nil,or_false]at hd
  rcases hd with rfl|rfl<;>exact g_bool).le (by decide)⟩
structure Rn where
 ns:List Int
 (a0 a1 a2 a3:Nat)
 L:List Nat
 t:SP
 l:List (Nat×Nat)
 (R ms:List Nat)
noncomputable abbrev Rn.T(z:Rn):Nat:=z.a0+z.a1+z.a2+z.a3
noncomputable abbrev Rn.lo(z:Rn):Nat:=z.T % 13
noncomputable abbrev Rn.od(z:Rn):List Nat:=eK z.R z.L
noncomputable abbrev Rn.rk(z:Rn):List Nat:=(List.range 4).map (fk z.R z.T)
noncomputable abbrev Rn.ts(z:Rn):List Nat:=z.ms.filter (dB (edE z.t))
noncomputable abbrev Rn.os(z:Rn):List Nat:=z.ms.filter (dB (edD z.t))
noncomputable abbrev Rn.told(z:Rn):D:=.tup [av z.od,av (iM z.lo z.ms)]
noncomputable abbrev Rn.shorn(z:Rn):D:=.lst ((z.l.map bI).map aF)
noncomputable abbrev Rn.toks(z:Rn):D:=aF (z.l.flatMap dD).flatten
noncomputable abbrev Rn.fnd(z:Rn):D:=.lst (eX 0 z.l)
noncomputable abbrev Rn.sg(z:Rn):D:=sgD (code z.L z.t)
noncomputable abbrev Rn.tr(z:Rn):D:=fo z.L 0 z.t
noncomputable abbrev Rn.eE(z:Rn):D:=.lst ((edE z.t).map nnD)
noncomputable abbrev Rn.eD(z:Rn):D:=.lst ((edD z.t).map nnD)
noncomputable abbrev Rn.tw(z:Rn):D:=.lst ([0,1,2,3].map λk=>twice (fk z.R z.T k))
noncomputable abbrev Rn.wl(z:Rn):D:=.lst ((eR z.lo).map aF)
noncomputable abbrev Rn.ac(z:Rn):D:=av (z.ts.map λm=>bu m z.ts z.rk)
noncomputable abbrev St2(z:Rn)(tail:List Slot):List Slot:=
 .val (dY z.ns)::.val (bT z.a0 z.a1 z.a2 z.a3)::.val (.int ((z.T:Nat):Int))::.val (sgD z.L)::.val (sgD (code z.L z.t))::.val g8::.val (.lst ((z.l.map txt).map aF))::.val (aF (z.l.map txt).flatten)::.val (av z.R)::.val (av (z.od))::.val (.int ((z.lo:Nat):Int))::.val (.int (wX z.T))::.val (av z.ms)::tail
theorem ED{z:Rn}{u P:Addr}{b:Bool}(N:Net z.a0 z.a1 z.a2 z.a3 z.L z.t)(hS:z.l.map (·.2)=code z.L z.t)(hR:z.R.Perm [0,1,2,3])(hms:z.ms.Perm (List.range 16)) :
  ∃Γ' c' fl,ak sV (ak sW (ak sX (ak sY (ak sZ (ak s8 (ak ta (ak tb (ak td (ak te (ak tm (ak tn (ak tq (ak tu (ak (tv u P) (ak tx (ak tA (ak (tB u P) (ak tC (ak tD (ak tE (ak tF (ak tG (ak tH (ak tI (ak tJ (ak tK (ak tL (ak tM (ak tN aH)))))))))))))))))))))))))))))
   (St1 z.ns z.a0 z.a1 z.a2 z.a3 z.L z.t z.l z.R z.ms) [bt P b]=some (.ret (.bool true),Γ',c')∧c'[0]?=some (bt P fl):=by
 have hx:=k8 _ N.shape
 obtain⟨hE,hD⟩:=zL _ N.shape
 have hlen:(code z.L z.t).length=13:=by rw[ff,hx.2.1]
 have hll:z.l.length=13:=by rw[←List.length_map (f:=(·.2)) (as:=z.l),hS,hlen]
 have hcm:=lU N.pool z.t (by rw[hx.1,N.len];decide)
 have hsig:∀q∈z.l,q.2∈ee:=λq hq=>hcm _ (hS▸List.mem_map.mpr ⟨q,hq,rfl⟩)
 have hok:∀q∈z.l,cU q.2:=λq hq=>ug (hsig q hq)
 have hsm:∀s∈code z.L z.t,s<0x110000:=by
  intro s hs
  have:∀x∈ee,x<0x110000:=by decide
  exact this s (hcm s hs)
 have hlet:=Cg N.pool
 have hm16:∀m∈z.ms,m<16:=λm hm=>List.mem_range.mp (hms.mem_iff.mp hm)
 have hml:z.ms.length=16:=hms.length_eq.trans (by decide)
 have hRl:z.R.length=4:=hR.length_eq
 have hol:z.od.length=4:=by show (eK z.R z.L).length=4;unfold eK;rw[List.length_map,hRl]
 have hord:∀n∈z.od,n≠0∧n<256:=by
  intro n hn
  obtain⟨k,hk,rfl⟩:=List.mem_map.mp hn
  have hk4:k<4:=by have:=hR.mem_iff.mp hk;simp at this;(first|lia|omega)
  have:∀x∈bC,fb x≠0∧fb x<256:=by decide +kernel
  exact this _ (N.pool _ (getD_mem (by rw[N.len];exact hk4)))
 have hlow:z.lo<13:=Nat.mod_lt _ (by decide)
 obtain⟨s,tl,tr,htn⟩:∃s tl tr,z.t=.node s tl tr:=by
  generalize z.t=t at hx
  cases t with
  | leaf i=>have h:=hx.2.2.2;cases h
  | node s tl tr=>exact⟨s,tl,tr,rfl⟩
 obtain⟨o,ord,hoc⟩:∃o ord,z.od=o::ord:=by
  cases h:z.od with
  | nil=>rw[h]at hol;cases hol
  | cons o ord=>exact⟨o,ord,rfl⟩
 have hts:∀m∈z.ts,m<16:=λm hm=>hm16 m (List.mem_filter.mp hm).1
 have hpT:z.ts.Perm (TC z.t):=hms.filter _
 have hpO:z.os.Perm (OC z.t):=hms.filter _
 have hlT:z.ts.length≤16:=Nat.le_trans (List.length_filter_le _ _) (by(first|lia|omega))
 have hlO:z.os.length≤16:=Nat.le_trans (List.length_filter_le _ _) (by(first|lia|omega))
 have hdual:z.os.Perm (z.ts.map λm=>15 - m):=hpO.trans ((List.isPerm_iff.mp (uN z.t N.shape)).trans (hpT.map _).symm)
 obtain⟨c1,c2,c3'⟩:=uH N.shape (yM hR)
 have actE:∀m,bu m z.ts z.rk=bu m (TC z.t) (gm z.R):=λm=>nf λx=>hpT.mem_iff
 have actO:∀m,bu m z.os z.rk=bu m (OC z.t) (gm z.R):=λm=>nf λx=>hpO.mem_iff
 have hact:∀m∈z.ts,bu (15 - m) z.os z.rk=bu m z.ts z.rk:=λm hm=>by
  rw[actE,actO];exact c1 m (hpT.mem_iff.mp hm)
 have hac:∀m∈z.ts,bu m z.ts z.rk<16:=λm hm=>by
  rw[actE];exact c2 m (hpT.mem_iff.mp hm)
 have hhome:∀s<16,∃h,z.ts.filter (λone=>decide ((s ^^^ one) ||| bu one z.ts z.rk=bu one z.ts z.rk))=[h]∧∀one∈z.ts,cX (s &&& one)≤cX (s &&& h):=by
  intro s hs
  obtain⟨h,e1,e2⟩:=c3' s hs
  refine⟨h,?_,λone ho=>e2 one (hpT.mem_iff.mp ho)⟩
  have hf:(λone=>decide ((s ^^^ one) ||| bu one z.ts z.rk=bu one z.ts z.rk))=λone=>decide ((s ^^^ one) ||| bu one (TC z.t) (gm z.R)=bu one (TC z.t) (gm z.R)):=funext λone=>by rw[actE]
  rw[hf]
  have:=hpT.filter (λone=>decide ((s ^^^ one) ||| bu one (TC z.t) (gm z.R)=bu one (TC z.t) (gm z.R)))
  rw[e1]at this
  exact List.perm_singleton.mp this
 refine bW (xR (Γ:=(St2 z [.un,.un,.un,.un,.un,.un,.un,.un,.un,.un,.un,.un,.un,.un,.un,.un,.un,.un,.un,.un,.un,.un,.un,.un,.un,.un])) (c:=[bt P b]) (T:=z.T) (low:=z.lo) (ord:=z.od) (ms:=z.ms) (by(first|lia|omega)) hm16 (by(first|lia|omega)) rfl rfl rfl rfl rfl) ?_
 refine bW (xS (Γ:=(St2 z [.ref 1,.un,.un,.un,.un,.un,.un,.un,.un,.un,.un,.un,.un,.un,.un,.un,.un,.un,.un,.un,.un,.un,.un,.un,.un,.un])) (c:=[bt P b,Cell.it (ntD (mL [z.a0,z.a1,z.a2,z.a3] z.T (eA z.od z.lo z.ms++[0]))++ntD [z.T % 256])]) (k:=1) (by(first|lia|omega)) hm16 hord (by(first|lia|omega)) rfl rfl) ?_
 obtain⟨cl,as1,s13,hA1,n1⟩:=xT (Γ:=(St2 z [.ref 1,.val z.told,.un,.un,.un,.un,.un,.un,.un,.un,.un,.un,.un,.un,.un,.un,.un,.un,.un,.un,.un,.un,.un,.un,.un,.un])) (c:=[bt P b,Cell.it (ntD [z.T % 256])]) (T:=z.T) (low:=z.lo) (k:=1) (ord:=z.od) (ms:=z.ms) (by(first|lia|omega)) hm16 (by(first|lia|omega)) rfl rfl rfl rfl rfl rfl rfl
 refine bW s13 ?_
 refine bW (xU (Γ:=(St2 z [.ref 1,.val z.told,.ref 2,.un,.un,.un,.un,.un,.un,.un,.un,.un,.un,.un,.un,.un,.un,.un,.un,.un,.un,.un,.un,.un,.un,.un])) (c:=[bt P b,cl,Cell.lst as1])) ?_
 obtain⟨x1,s1,g1⟩:=xV (Γ:=(St2 z [.ref 1,.val z.told,.ref 2,.val bY,.un,.un,.un,.un,.un,.un,.un,.un,.un,.un,.un,.un,.un,.un,.un,.un,.un,.un,.un,.un,.un,.un])) (c:=[bt P b,cl,Cell.lst as1]) (k:=2) (ds:=as1) rfl rfl rfl (by(first|lia|omega))
 refine bW s1 ?_
 have hA2:=en hA1 (gJ g1 (Nat.le_refl _))
 have n2:(as1++[D.tup [x1,x1]]).length=3:=by rw[List.length_append,n1];rfl
 generalize hg2:as1++[D.tup [x1,x1]]=as2 at hA2 n2
 have hc2:[bt P b,cl,Cell.lst as1].set 2 (Cell.lst as2)=[bt P b,cl,Cell.lst as2]:=rfl
 rw[hc2]
 refine bW (xW (Γ:=(St2 z [.ref 1,.val z.told,.ref 2,.val bY,.un,.un,.un,.un,.un,.un,.un,.un,.un,.un,.un,.un,.un,.un,.un,.un,.un,.un,.un,.un,.un,.un])) (c:=[bt P b,cl,Cell.lst as2]) (l:=z.l) hok (by(first|lia|omega)) rfl) ?_
 refine bW (xX (Γ:=(St2 z [.ref 1,.val z.told,.ref 2,.val bY,.val z.shorn,.un,.un,.un,.un,.un,.un,.un,.un,.un,.un,.un,.un,.un,.un,.un,.un,.un,.un,.un,.un,.un])) (c:=[bt P b,cl,Cell.lst as2]) (l:=z.l) hok (by(first|lia|omega)) rfl) ?_
 refine bW (xY (Γ:=(St2 z [.ref 1,.val z.told,.ref 2,.val bY,.val z.shorn,.val z.toks,.un,.un,.un,.un,.un,.un,.un,.un,.un,.un,.un,.un,.un,.un,.un,.un,.un,.un,.un,.un])) (c:=[bt P b,cl,Cell.lst as2]) (l:=z.l) hsig (by(first|lia|omega)) rfl) ?_
 obtain⟨x2,s2,g2⟩:=xZ (Γ:=(St2 z [.ref 1,.val z.told,.ref 2,.val bY,.val z.shorn,.val z.toks,.val z.fnd,.un,.un,.un,.un,.un,.un,.un,.un,.un,.un,.un,.un,.un,.un,.un,.un,.un,.un,.un])) (c:=[bt P b,cl,Cell.lst as2]) (k:=2) (ds:=as2) (l:=z.l) hsig (by(first|lia|omega)) rfl rfl (by(first|lia|omega)) (by rw[hS];rfl) rfl rfl rfl
 refine bW s2 ?_
 have hA3:=en hA2 (gJ g2 (Nat.le_refl _))
 have n3:(as2++[D.tup [x2,x2]]).length=4:=by rw[List.length_append,n2];rfl
 generalize hg3:as2++[D.tup [x2,x2]]=as3 at hA3 n3
 have hc3:[bt P b,cl,Cell.lst as2].set 2 (Cell.lst as3)=[bt P b,cl,Cell.lst as3]:=rfl
 rw[hc3]
 obtain⟨x3,s3,g3⟩:=x8 (Γ:=(St2 z [.ref 1,.val z.told,.ref 2,.val bY,.val z.shorn,.val z.toks,.val z.fnd,.un,.un,.un,.un,.un,.un,.un,.un,.un,.un,.un,.un,.un,.un,.un,.un,.un,.un,.un])) (c:=[bt P b,cl,Cell.lst as3]) (k:=2) (ds:=as3) (l:=z.l) (L:=z.L) (s:=s) (tl:=tl) (tr:=tr) hlet hok (by(first|lia|omega)) (htn▸hS) rfl rfl (by(first|lia|omega)) rfl
 refine bW s3 ?_
 have hA4:=en hA3 (gJ g3 (Nat.le_refl _))
 have n4:(as3++[D.tup [x3,x3]]).length=5:=by rw[List.length_append,n3];rfl
 generalize hg4:as3++[D.tup [x3,x3]]=as4 at hA4 n4
 have hc4:[bt P b,cl,Cell.lst as3].set 2 (Cell.lst as4)=[bt P b,cl,Cell.lst as4]:=rfl
 rw[hc4]
 have s21:=x9 (Γ:=(St2 z [.ref 1,.val z.told,.ref 2,.val bY,.val z.shorn,.val z.toks,.val z.fnd,.un,.un,.un,.un,.un,.un,.un,.un,.un,.un,.un,.un,.un,.un,.un,.un,.un,.un,.un])) (c:=[bt P b,cl,Cell.lst as4]) (l:=z.l) (by(first|lia|omega)) rfl
 rw[hS]at s21
 refine bW s21 ?_
 obtain⟨c3,s22⟩:=ya (Γ:=(St2 z [.ref 1,.val z.told,.ref 2,.val bY,.val z.shorn,.val z.toks,.val z.fnd,.val z.sg,.un,.un,.un,.un,.un,.un,.un,.un,.un,.un,.un,.un,.un,.un,.un,.un,.un,.un])) (c:=[bt P b,cl,Cell.lst as4]) hlet (t:=z.t) (l:=z.l) (ka:=2) (as:=as4) ⟨hx.2.2.1,by(first|lia|omega)⟩ hS hok rfl rfl (by(first|lia|omega)) (by rw[uv];rfl) rfl
 refine bW s22 ?_
 have hA5:fI (as4++List.replicate (aV z.t) a9):=en hA4 (uz _)
 have n5:(as4++List.replicate (aV z.t) a9).length=8:=by rw[List.length_append,n4,List.length_replicate,hx.2.1]
 generalize hg5:as4++List.replicate (aV z.t) a9=as5 at hA5 n5
 have hc5:[bt P b,cl,Cell.lst as4].set 2 (Cell.lst as5)++[c3]=[bt P b,cl,Cell.lst as5,c3]:=rfl
 rw[hc5]
 refine bW (yb (Γ:=(St2 z [.ref 1,.val z.told,.ref 2,.val bY,.val z.shorn,.val z.toks,.val z.fnd,.val z.sg,.val z.tr,.un,.un,.un,.un,.un,.un,.un,.un,.un,.un,.un,.un,.un,.un,.un,.un,.un])) (c:=[bt P b,cl,Cell.lst as5,c3]) (L:=z.L) (t:=z.t) ⟨hx.2.2.1,by(first|lia|omega)⟩ rfl) ?_
 refine bW (yc (Γ:=(St2 z [.ref 1,.val z.told,.ref 2,.val bY,.val z.shorn,.val z.toks,.val z.fnd,.val z.sg,.val z.tr,.val z.eE,.un,.un,.un,.un,.un,.un,.un,.un,.un,.un,.un,.un,.un,.un,.un,.un])) (c:=[bt P b,cl,Cell.lst as5,c3]) (L:=z.L) (t:=z.t) ⟨hx.2.2.1,by(first|lia|omega)⟩ rfl) ?_
 obtain⟨fl,s25⟩:=yd (Γ:=(St2 z [.ref 1,.val z.told,.ref 2,.val bY,.val z.shorn,.val z.toks,.val z.fnd,.val z.sg,.val z.tr,.val z.eE,.val z.eD,.un,.un,.un,.un,.un,.un,.un,.un,.un,.un,.un,.un,.un,.un,.un])) (c:=[bt P b,cl,Cell.lst as5,c3]) (u:=u) (P:=P) (T:=z.T) (fl:=b) (sets:=av (iM z.lo z.ms)) hR N.len N.nd N.pool hx.1 (by(first|lia|omega)) hsm rfl rfl rfl rfl rfl
 refine bW s25 ?_
 have hcf:[bt P b,cl,Cell.lst as5,c3].set 0 (bt P fl)=[bt P fl,cl,Cell.lst as5,c3]:=rfl
 rw[hcf]
 obtain⟨x5,s5,g5⟩:=ye (Γ:=(St2 z [.ref 1,.val z.told,.ref 2,.val bY,.val z.shorn,.val z.toks,.val z.fnd,.val z.sg,.val z.tr,.val z.eE,.val z.eD,.val z.tw,.un,.un,.un,.un,.un,.un,.un,.un,.un,.un,.un,.un,.un,.un])) (c:=[bt P fl,cl,Cell.lst as5,c3]) (k:=2) (ds:=as5) (T:=z.T) (R:=z.R) hR rfl rfl (by(first|lia|omega)) rfl rfl rfl
 refine bW s5 ?_
 have hA6:=en hA5 (gJ g5 (Nat.le_refl _))
 have n6:(as5++[D.tup [x5,x5]]).length=9:=by rw[List.length_append,n5];rfl
 generalize hg6:as5++[D.tup [x5,x5]]=as6 at hA6 n6
 have hc6:[bt P fl,cl,Cell.lst as5,c3].set 2 (Cell.lst as6)=[bt P fl,cl,Cell.lst as6,c3]:=rfl
 rw[hc6]
 refine bW (yf (Γ:=(St2 z [.ref 1,.val z.told,.ref 2,.val bY,.val z.shorn,.val z.toks,.val z.fnd,.val z.sg,.val z.tr,.val z.eE,.val z.eD,.val z.tw,.un,.un,.un,.un,.un,.un,.un,.un,.un,.un,.un,.un,.un,.un])) (c:=[bt P fl,cl,Cell.lst as6,c3]) (T:=z.T) (R:=z.R) rfl) ?_
 obtain⟨w26,qs6,s6,gq6,nq6⟩:=yg (Γ:=(St2 z [.ref 1,.val z.told,.ref 2,.val bY,.val z.shorn,.val z.toks,.val z.fnd,.val z.sg,.val z.tr,.val z.eE,.val z.eD,.val z.tw,.val (av z.rk),.un,.un,.un,.un,.un,.un,.un,.un,.un,.un,.un,.un,.un])) (c:=[bt P fl,cl,Cell.lst as6,c3]) (k:=2) (ds:=as6) (u:=u) (P:=P) (T:=z.T) (o:=o) (ord:=ord) rfl rfl (by(first|lia|omega)) (by rw[←hoc];rfl) rfl (Nat.le_of_ble_eq_true rfl)
 refine bW s6 ?_
 have hA7:=en hA6 gq6
 have n7:(as6++qs6).length=11:=by rw[List.length_append,n6,nq6]
 generalize hg7:as6++qs6=as7 at hA7 n7
 have hc7:[bt P fl,cl,Cell.lst as6,c3].set 2 (Cell.lst as7)=[bt P fl,cl,Cell.lst as7,c3]:=rfl
 rw[hc7]
 refine bW (yi (Γ:=(St2 z [.ref 1,.val z.told,.ref 2,.val bY,.val z.shorn,.val z.toks,.val z.fnd,.val z.sg,.val z.tr,.val z.eE,.val z.eD,.val z.tw,.val (av z.rk),w26,.un,.un,.un,.un,.un,.un,.un,.un,.un,.un,.un,.un])) (c:=[bt P fl,cl,Cell.lst as7,c3])) ?_
 refine bW (yj (Γ:=(St2 z [.ref 1,.val z.told,.ref 2,.val bY,.val z.shorn,.val z.toks,.val z.fnd,.val z.sg,.val z.tr,.val z.eE,.val z.eD,.val z.tw,.val (av z.rk),w26,.val eJ,.un,.un,.un,.un,.un,.un,.un,.un,.un,.un,.un])) (c:=[bt P fl,cl,Cell.lst as7,c3]) (low:=z.lo) hlow rfl rfl) ?_
 obtain⟨x7,s7,g7⟩:=yk (Γ:=(St2 z [.ref 1,.val z.told,.ref 2,.val bY,.val z.shorn,.val z.toks,.val z.fnd,.val z.sg,.val z.tr,.val z.eE,.val z.eD,.val z.tw,.val (av z.rk),w26,.val eJ,.val z.wl,.un,.un,.un,.un,.un,.un,.un,.un,.un,.un])) (c:=[bt P fl,cl,Cell.lst as7,c3]) (k:=2) (ds:=as7) (T:=z.T) rfl rfl (by(first|lia|omega)) rfl rfl
 refine bW s7 ?_
 have hA8:=en hA7 (gJ g7 (Nat.le_refl _))
 have n8:(as7++[D.tup [x7,x7]]).length=12:=by rw[List.length_append,n7];rfl
 generalize hg8:as7++[D.tup [x7,x7]]=as8 at hA8 n8
 have hc8:[bt P fl,cl,Cell.lst as7,c3].set 2 (Cell.lst as8)=[bt P fl,cl,Cell.lst as8,c3]:=rfl
 rw[hc8]
 refine bW (yl (Γ:=(St2 z [.ref 1,.val z.told,.ref 2,.val bY,.val z.shorn,.val z.toks,.val z.fnd,.val z.sg,.val z.tr,.val z.eE,.val z.eD,.val z.tw,.val (av z.rk),w26,.val eJ,.val z.wl,.un,.un,.un,.un,.un,.un,.un,.un,.un,.un])) (c:=[bt P fl,cl,Cell.lst as8,c3])) ?_
 obtain⟨Γ3,qs8,s33,gq8,nq8,l33,o33⟩:=ym (Γ:=(St2 z [.ref 1,.val z.told,.ref 2,.val bY,.val z.shorn,.val z.toks,.val z.fnd,.val z.sg,.val z.tr,.val z.eE,.val z.eD,.val z.tw,.val (av z.rk),w26,.val eJ,.val z.wl,.ref 4,.un,.un,.un,.un,.un,.un,.un,.un,.un])) (c:=[bt P fl,cl,Cell.lst as8,c3,Cell.lst []]) (low:=z.lo) (ka:=2) (ks:=4) (ms:=z.ms) (as:=as8) (w:=av z.od) hlow (by decide) hm16 (by(first|lia|omega)) rfl rfl rfl rfl rfl rfl rfl rfl (by(first|lia|omega))
 refine bW s33 ?_
 obtain⟨w30,w31,w32,w33,hΓ3⟩:=wB (Γ:=(St2 z [.ref 1,.val z.told,.ref 2,.val bY,.val z.shorn,.val z.toks,.val z.fnd,.val z.sg,.val z.tr,.val z.eE,.val z.eD,.val z.tw,.val (av z.rk),w26,.val eJ,.val z.wl,.ref 4,.un,.un,.un,.un,.un,.un,.un,.un,.un])) l33 o33
 subst hΓ3
 have hA9:=en hA8 gq8
 have n9:(as8++qs8).length=28:=by rw[List.length_append,n8,nq8,hml]
 generalize hg9:as8++qs8=as9 at hA9 n9
 have hc9:([bt P fl,cl,Cell.lst as8,c3,Cell.lst []].set 2 (Cell.lst as9)).set 4 (Cell.lst (ntD z.ms))=[bt P fl,cl,Cell.lst as9,c3,Cell.lst (ntD z.ms)]:=rfl
 rw[hc9]
 refine bW (yn (Γ:=(St2 z [.ref 1,.val z.told,.ref 2,.val bY,.val z.shorn,.val z.toks,.val z.fnd,.val z.sg,.val z.tr,.val z.eE,.val z.eD,.val z.tw,.val (av z.rk),w26,.val eJ,.val z.wl,.ref 4,w30,w31,w32,w33,.un,.un,.un,.un,.un])) (c:=[bt P fl,cl,Cell.lst as9,c3,Cell.lst (ntD z.ms)]) (ks:=4) hE hm16 (by(first|lia|omega)) rfl rfl rfl) ?_
 have hcz:[bt P fl,cl,Cell.lst as9,c3,Cell.lst (ntD z.ms)].set 4 (Cell.fz (ntD z.ms))=[bt P fl,cl,Cell.lst as9,c3,Cell.fz (ntD z.ms)]:=rfl
 rw[hcz]
 refine bW (yo (Γ:=(St2 z [.ref 1,.val z.told,.ref 2,.val bY,.val z.shorn,.val z.toks,.val z.fnd,.val z.sg,.val z.tr,.val z.eE,.val z.eD,.val z.tw,.val (av z.rk),w26,.val eJ,.val z.wl,.ref 4,w30,w31,w32,w33,.val (av z.ts),.un,.un,.un,.un])) (c:=[bt P fl,cl,Cell.lst as9,c3,Cell.fz (ntD z.ms)]) (ks:=4) hD hm16 (by(first|lia|omega)) rfl rfl rfl) ?_
 refine bW (yq (Γ:=(St2 z [.ref 1,.val z.told,.ref 2,.val bY,.val z.shorn,.val z.toks,.val z.fnd,.val z.sg,.val z.tr,.val z.eE,.val z.eD,.val z.tw,.val (av z.rk),w26,.val eJ,.val z.wl,.ref 4,w30,w31,w32,w33,.val (av z.ts),.val (av z.os),.un,.un,.un])) (c:=[bt P fl,cl,Cell.lst as9,c3,Cell.fz (ntD z.ms)]) (ts:=z.ts) (rs:=z.rk) (Nat.le_antisymm (Nat.le_of_ble_eq_true rfl) (Nat.le_of_ble_eq_true rfl)) (by(first|lia|omega)) rfl rfl) ?_
 obtain⟨qs9,s9,gq9,nq9⟩:=yr (Γ:=(St2 z [.ref 1,.val z.told,.ref 2,.val bY,.val z.shorn,.val z.toks,.val z.fnd,.val z.sg,.val z.tr,.val z.eE,.val z.eD,.val z.tw,.val (av z.rk),w26,.val eJ,.val z.wl,.ref 4,w30,w31,w32,w33,.val (av z.ts),.val (av z.os),.val z.ac,.un,.un])) (c:=[bt P fl,cl,Cell.lst as9,c3,Cell.fz (ntD z.ms)]) (k:=2) (ds:=as9) (ts:=z.ts) (os:=z.os) (rs:=z.rk) (Nat.le_antisymm (Nat.le_of_ble_eq_true rfl) (Nat.le_of_ble_eq_true rfl)) ⟨by(first|lia|omega),by(first|lia|omega)⟩ hts hdual hact rfl rfl (by(first|lia|omega)) rfl rfl rfl rfl
 refine bW s9 ?_
 have hA10:=en hA9 gq9
 have n10:(as9++qs9).length=30:=by rw[List.length_append,n9,nq9]
 generalize hg10:as9++qs9=as10 at hA10 n10
 have hc10:[bt P fl,cl,Cell.lst as9,c3,Cell.fz (ntD z.ms)].set 2 (Cell.lst as10)=[bt P fl,cl,Cell.lst as10,c3,Cell.fz (ntD z.ms)]:=rfl
 rw[hc10]
 refine bW (yt (Γ:=(St2 z [.ref 1,.val z.told,.ref 2,.val bY,.val z.shorn,.val z.toks,.val z.fnd,.val z.sg,.val z.tr,.val z.eE,.val z.eD,.val z.tw,.val (av z.rk),w26,.val eJ,.val z.wl,.ref 4,w30,w31,w32,w33,.val (av z.ts),.val (av z.os),.val z.ac,.un,.un])) (c:=[bt P fl,cl,Cell.lst as10,c3,Cell.fz (ntD z.ms)])) ?_
 obtain⟨Γ4,qs10,s39,gq10,nq39,l39,o39⟩:=yu (Γ:=(St2 z [.ref 1,.val z.told,.ref 2,.val bY,.val z.shorn,.val z.toks,.val z.fnd,.val z.sg,.val z.tr,.val z.eE,.val z.eD,.val z.tw,.val (av z.rk),w26,.val eJ,.val z.wl,.ref 4,w30,w31,w32,w33,.val (av z.ts),.val (av z.os),.val z.ac,.val (av ((List.range 16).map cX)),.un])) (c:=[bt P fl,cl,Cell.lst as10,c3,Cell.fz (ntD z.ms)]) (k:=2) (ks:=4) (ts:=z.ts) (rs:=z.rk) (ss:=z.ms) (as:=as10) (by(first|lia|omega)) hts hac hhome hm16 rfl rfl (by(first|lia|omega)) rfl rfl rfl rfl rfl rfl
 refine bW s39 ?_
 have hnq:(as10++qs10).length≤9000:=by rw[List.length_append];(first|lia|omega)
 exact Cu (yv (k:=2) (en hA10 gq10) hnq o39 rfl) rfl
end Mine
end
section
open PySem PySem.Calls PySem.Spec PyProof PyProof.Rows PySem.W
set_option maxRecDepth 20000
set_option maxHeartbeats 4000000
namespace Mine
theorem Aw{ns:List Int}(hl:ns.length≤63)(u P:Addr)(b:Bool):∃c' fl,cC 39 1 (qw u P) [.val (dY ns)] [bt P b]=some (.bool true,c')∧c'[0]?=some (bt P fl):=by
 obtain⟨a0,a1,a2,a3,hb,h1⟩:=EC hl [bt P b]
 have N:=yC hb
 obtain⟨Γ',c',fl,e,e0⟩:=ED (z:=⟨ns,a0,a1,a2,a3,_,_,_,_,_⟩) (u:=u) (P:=P) (b:=b) N (rV [a0,a1,a2,a3] (code (dj bC [a0,a1,a2,a3]) (shapeAt a0 a1 a2))) (jW [a0,a1,a2,a3]) (rN (a0+a1+a2+a3))
 have e2:=h1 e
 have hq:qw u P (start ns) [bt P b]=some (.ret (.bool true),Γ',c'):=e2
 refine⟨c'.take 1,fl,?_,by rw[List.getElem?_take,if_pos (by decide)];exact e0⟩
 unfold cC
 have hone:[Slot.val (dY ns)].length=1:=rfl
 rw[if_pos hone]
 have hsf:setFrom 0 [.val (dY ns)] (List.replicate 39 .un)=start ns:=rfl
 rw[hsf,hq];rfl
theorem uD:Binds 75 ["script"]:=fq λ_ _=>rfl
theorem Ax:("law" : Str)++(".<locals>." : Str)=cA:=by decide +kernel
theorem yw{X:Cx}{fa:Nat→Addr}{u c P:Addr}{o:Obj}{fd:FuncData}(T:TopF X fa u)(W:cM X c P)(F:FnAt X 75 "law" (fa 75) o fd)(hc:fd.code=.ref c)(hq:fd.qualname="law"){A:Around}(hr:Room A 81){σ:Sg}{s:Shared}(I:X.Inv σ s){b:Bool}(hs:σ.sto=[bt P b])
  {v:Value} {ns:List Int} (hl:ns.length≤63) (r:Rel σ.g v (dY ns)):wpAny X.M A (call (.ref (fa 75)) [v]) (λw s'=>w=.bool true∧∃σ' fl,X.Inv σ' s'∧Ext NoW NoG σ s σ' s'∧σ'.sto[0]?=some (bt P fl)) NoE s:=by
 have ok:FnOk X (80+1) (.ref (fa 75)) (cC 39 1 (qw u P)):=by
  refine Bs (ft:=bb (some (.ref c,cA))) (params:=["script"]) F.ho F.hd F.hcd F.hb (by rw[F.sc];decide +kernel) (by rw[F.sc];decide +kernel) F.gl F.bl (by rw[F.sc];exact sN (by decide +kernel)) (λy hy=>?_) rfl rfl (show jV (bb none) ["script"]=true by decide +kernel) (λvs h=>uD fd F.hp F.df F.kd vs h) (Dc T W _ rfl) (λv h=>?_)
  ·have h:((bb none).nt.all λp=>decide (p.2≠VK.f))=true:=by decide +kernel
   have:=List.all_eq_true.mp h _ hy
   simp at this
  ·cases h
   exact⟨hc,by rw[hq];exact Ax⟩
 obtain⟨c',fl,e,e0⟩:=Aw hl u P b
 refine wpAny_mono (ok A hr σ s [v] [.val (dY ns)] (.bool true) c' I (.cons r .nil) (by rw[hs];exact e)) (λw s' h=>?_) λ_ _ f=>f
 obtain⟨σ',hs',I',x,rr⟩:=h
 cases rr
 exact⟨rfl,σ',fl,I',x,by rw[hs'];exact e0⟩
end Mine
end
section
open PySem PySem.Calls PySem.Spec PyProof PyProof.Rows PySem.W
set_option maxRecDepth 20000
set_option maxHeartbeats 1000000
namespace Mine
noncomputable def jL(h:Heap)(P:Addr):Heap:=cR h P gone
theorem pQ(h:Heap)(P:Addr):(jL h P).get? P=none:=by
 have hlt:P<max (P+1) h.objs.size:=Nat.lt_of_lt_of_le (Nat.lt_succ_self P) (Nat.le_max_left _ _)
 rw[get?_eq]
 have:(jL h P).objs[P]?=some gone:=by
  simp only[jL,cR,Array.getElem?_ofFn]
  rw[dif_pos hlt];simp
 rw[this];rfl
theorem nu{h:Heap}{P b:Addr}(hb:b≠P):(jL h P).get? b=h.get? b:=bz hb
theorem BX(h:Heap)(P:Addr):Le (jL h P) h:=λa o e=>by
 by_cases ha:a=P
 ·subst ha;rw[pQ]at e;cases e
 ·rw[nu ha]at e;exact e
theorem fD{h:Heap}{P a:Addr}{o:Obj}(hP:h.get? P=some (tabObj #[]))(e:h.get? a=some o)(hd:∀vs,o.data=.fields vs→vs.size≠0):(jL h P).get? a=some o:=by
 rw[nu]
 ·exact e
 ·rintro rfl
  rw[hP]at e
  cases e
  exact hd #[] rfl rfl
section
variable{prog:Program}{w:World}{mg mb:Str→Option Value}{h:Heap}{P:Addr}{a:Addr}
theorem rR{m:Str→Option Value}(hP:h.get? P=some (tabObj #[]))(n:h.Ns a m):(jL h P).Ns a m:=by
 obtain⟨o,es,ep,e,d,r⟩:=n
 exact⟨o,es,ep,fD hP e (λvs q=>by rw[d]at q;cases q),d,r⟩
theorem ud{cd:Value}{q:Str}(hP:h.get? P=some (tabObj #[]))(n:h.CodeRec cd q):(jL h P).CodeRec cd q:=by
 obtain⟨c,o,vs,t,e1,e2,e3,e4⟩:=n
 refine⟨c,o,vs,t,e1,fD hP e2 λws k=>?_,e3,e4⟩
 rw[e3]at k
 cases k
 intro hz
 have:vs[1]?=none:=Array.getElem?_eq_none (by(first|lia|omega))
 rw[this]at e4;cases e4
theorem TopF.cut{fa:Nat→Addr}{u:Addr}(T:TopF ⟨prog,w,mg,mb,h⟩ fa u)(hP:h.get? P=some (tabObj #[])):TopF ⟨prog,w,mg,mb,jL h P⟩ fa u where
 top:=⟨rR hP T.top.gl,rR hP T.top.bl,let ⟨mc,n,r⟩:=T.top.nolim;⟨mc,rR hP n,r⟩,.refl _⟩
 fn:=λk x hk=>by
  obtain⟨o,fd,F⟩:=T.fn k x hk
  exact⟨o,fd,⟨F.nm,F.pos,fD hP F.ho (λvs q=>by rw[F.hd]at q;cases q),F.hd,ud hP F.hcd,F.hb,F.hp,F.sc,F.gl,F.bl,F.df,F.kd,F.clo⟩⟩
 free:=T.free
 blt:=T.blt
 flags:=by
  obtain⟨d,f,h1,⟨o,es,ep,e,x,dd,r⟩,h3,h4⟩:=T.flags
  exact⟨d,f,h1,⟨o,es,ep,fD hP e (λvs q=>by rw[dd]at q;cases q),x,dd,r⟩,h3,h4⟩
 toks:=by
  obtain⟨d,f,h1,⟨o,es,ep,e,x,dd,r⟩,h3,h4⟩:=T.toks
  exact⟨d,f,h1,⟨o,es,ep,fD hP e (λvs q=>by rw[dd]at q;cases q),x,dd,r⟩,h3,h4⟩
 endm:=T.endm
 ntoff:=T.ntoff
 unk:=T.unk
end
theorem qA:Room callerA 81:=⟨rfl,by decide,by decide⟩
theorem Av{prog:Program}{w:World}{mg mb:Str→Option Value}{s₁:Shared}{fa:Nat→Addr}{u c P:Addr}{o:Obj}{fd:FuncData}(T:TopF ⟨prog,w,mg,mb,s₁.heap⟩ fa u)(F:FnAt ⟨prog,w,mg,mb,s₁.heap⟩ 75 "law" (fa 75) o fd)(hc:fd.code=.ref c)(hq:fd.qualname="law")
  (hC:s₁.heap.IsCode c P #[]) (hT:s₁.heap.TableAt c P #[]) (hB:s₁.heap.BuiltinsAt mg P) (hgP:mainGlobals≠P) (hg:AllBare s₁.gens) (htk:0<s₁.toks) {l:Addr} {vs:List Value} {ns:List Int} {k:Nat} (hl:s₁.heap.get? l=some (cI vs.toArray k)) (hi:IntsAre vs ns) (hn:ns.length≤63) :
  wpAny (model prog w) callerA (call (.ref (fa 75)) [.ref l]) (λr s'=>r=.bool true∧OldK s₁.heap s'.heap∧s'.os=s₁.os∧AllBare s'.gens) NoE s₁:=by
 have hP:s₁.heap.get? P=some (tabObj #[]):=hT.2
 have T0:=T.cut hP
 have F0:FnAt ⟨prog,w,mg,mb,jL s₁.heap P⟩ 75 "law" (fa 75) o fd:=⟨F.nm,F.pos,fD hP F.ho (λvs q=>by rw[F.hd]at q;cases q),F.hd,ud hP F.hcd,F.hb,F.hp,F.sc,F.gl,F.bl,F.df,F.kd,F.clo⟩
 have W:cM ⟨prog,w,mg,mb,jL s₁.heap P⟩ c P:=by
  refine⟨?_,?_,hgP⟩
  ·obtain⟨o',ws,file,tf,flags,tg,inF,text,tt,e1,e2,e3,e4,r⟩:=CodeHd.of hC hT
   refine⟨o',ws,file,tf,flags,tg,inF,text,tt,fD hP e1 λzs k=>?_,e2,e3,e4,r⟩
   rw[e3]at k
   cases k
   intro hz
   have:ws[11]?=none:=Array.getElem?_eq_none (by(first|lia|omega))
   rw[this]at e4;cases e4
  ·obtain⟨bm,o',e1,e2,e3,e4,e5,r,r2,r3⟩:=hB
   exact⟨bm,o',e1,e2,e3,e4,fD hP e5 (λzs k=>by rw[r3]at k;cases k),r,r2,r3⟩
 have I:(Cx.mk prog w mg mb (jL s₁.heap P)).Inv ⟨jL s₁.heap P,[P],[bt P false]⟩ s₁:=by
  refine⟨BX _ _,rfl,by simp,λk a cl e1 e2=>?_,λk a cl e1 e2 _=>?_,T0.top,hg,htk⟩
  ·cases k with
   | zero=>
    cases e1;cases e2
    exact⟨rfl,#[],hP,trivial,rfl⟩
   | succ k=>cases e1
  ·cases k with
   | zero=>cases e1;exact pQ _ _
   | succ k=>cases e1
 have hr:Rel (jL s₁.heap P) (.ref l) (dY ns):=.lst (fD hP hl (λzs q=>by cases q)) (qc hi)
 refine wpAny_mono (yw T0 W F0 hc hq qA I rfl hn hr) (λr s' h=>?_) λ_ _ f=>f
 obtain⟨rfl,σ',fl,I',x,hs0⟩:=h
 obtain⟨more,ho,_⟩:=x.own
 have hown:σ'.own[0]?=some P:=by rw[ho];rfl
 obtain⟨_,ps,e1,_,_⟩:=I'.cells 0 P _ hown hs0
 refine⟨rfl,⟨λb ob e=>?_,λb ob e=>?_⟩,x.os,I'.bare⟩
 ·by_cases hb:b=P
  ·subst hb
   rw[hP]at e
   cases e
   exact .inr (.inl ⟨hT.isCodeTable,rfl,#[],ps,rfl,by rw[e1];simp⟩)
  ·exact .inl (x.keep b ob e (by simp[hb]) (λh=>h))
 ·by_cases hb:b=P
  ·subst hb;exact⟨_,e1⟩
  ·exact⟨_,x.keep b ob e (by simp[hb]) (λh=>h)⟩
end Mine
end
section
open PySem PySem.Calls PySem.Spec PyProof PyProof.Rows PySem.W
set_option maxRecDepth 20000
set_option maxHeartbeats 4000000
namespace Mine
noncomputable def Dk(k:Nat):Str:=(fy.lookup k).getD default
noncomputable def oG(mg:Str→Option Value)(k:Nat):Addr:=match mg (Dk k)with|some (.ref a)=>a|_=>0
theorem uU:∀q∈fy,Dk q.1=q.2:=by decide +kernel
noncomputable def gD(d:DefRec):Str×Arguments×List Stmt×Scope:=(d.name,d.params,d.body,d.scope)
noncomputable def iY(q:Nat×Str):Str×Arguments×List Stmt×Scope:=(q.2,fO q.1,fnB q.1,ro q.1)
section
variable{p:Program}{loose:List Str}{mean:ExcName→Option Value}{mg mb:Str→Option Value}{h:Heap}{prog:Program}{w:World}
theorem rec_of(e:(recsOf p).map gD=fy.map iY){k:Nat}{x:Str}(hm:(k,x)∈fy):∃d∈recsOf p,d.name=x∧d.params=fO k∧d.body=fnB k∧d.scope=ro k:=by
 have h1:iY (k,x)∈(recsOf p).map gD:=e▸List.mem_map_of_mem hm
 obtain⟨d,hd,e1⟩:=List.mem_map.mp h1
 injection e1 with a b
 injection b with b c
 injection c with c d'
 exact⟨d,hd,a,b,c,d'⟩
theorem Cq(T:Top p loose mean mg mb h){a:Addr}{o:Obj}{fd:FuncData}(ho:h.get? a=some o)(hd:o.data=.func fd):1≤a:=by
 rcases Nat.eq_zero_or_pos a with q|q
 ·subst q
  obtain⟨o',es,ep,h1,h2,_⟩:=T.b
  have h1':h.get? 0=some o':=h1
  rw[ho]at h1'
  cases h1'
  rw[hd]at h2;cases h2
 ·exact q
theorem Br(T:Top p loose mean mg mb h)(e:(recsOf p).map gD=fy.map iY){k:Nat}{x:Str}(hm:(k,x)∈fy) :
  ∃o fd,FnAt ⟨prog,w,mg,mb,h⟩ k x (oG mg k) o fd∧fd.qualname=x:=by
 obtain⟨d,hd,rfl,e2,e3,e4⟩:=rec_of e hm
 obtain⟨a,o,pm,code,doc,h1,h2,h3,h4⟩:=T.fn d hd
 have q:oG mg k=a:=by
  unfold oG
  rw[uU _ hm]
  show (match mg d.name with|some (.ref a)=>a|_=>0)=a
  rw[h1]
 rw[q]
 refine⟨o,_,⟨h1,Cq T h2 h3,h2,h3,h4,?_,e2,e4,rfl,rfl,rfl,rfl,rfl⟩,rfl⟩
 show FuncBody.stmts d.body=_
 rw[e3]
theorem code_at(T:Top p loose mean mg mb h)(e:(recsOf p).map gD=fy.map iY){o:Obj}{fd:FuncData}(F:FnAt ⟨prog,w,mg,mb,h⟩ 75 "law" (oG mg 75) o fd) :
  ∃c P,fd.code=.ref c∧h.IsCode c P #[]∧h.TableAt c P #[]∧h.BuiltinsAt mg P∧mainGlobals≠P:=by
 obtain⟨d,hd,e1,_⟩:=rec_of e (k:=75) (x:="law") (by decide +kernel)
 obtain⟨a,o',fd',c,P,h1,h2,h3,h4,h5,h6⟩:=T.tab d hd
 have q:oG mg 75=a:=by
  have:=F.nm
  rw[e1]at h1
  have h7:mg "law" = some (.ref (oG mg 75)):=F.nm
  rw[h7]at h1
  injection h1 with t;injection t
 have ho:=F.ho
 rw[q]at ho
 have ho':h.get? a=some o:=ho
 rw[h2]at ho'
 cases ho'
 have hd':=F.hd
 rw[h3]at hd'
 injection hd' with hd'
 have hP:=h6.2
 have ne:∀b ob,h.get? b=some ob→(∀ps,ob.data≠.fields ps)→b≠P:=by
  rintro b ob hb hn rfl
  rw[hb]at hP
  injection hP with hP
  exact hn #[] (by rw[hP])
 refine⟨c,P,by rw[←hd'];exact h4,h5,h6,?_,?_⟩
 ·obtain⟨bm,ob,b1,b2,b3,b4,b5,b6⟩:=T.bmain
  refine⟨bm,ob,b1,b2,?_,ne bm ob b3 (λps q=>by rw[b6]at q;cases q),b3,b4,b5,b6⟩
  rintro rfl
  obtain⟨o1,es,ep,g1,g2,_⟩:=T.g
  rw[b3]at g1;cases g1
  rw[b6]at g2;cases g2
 ·obtain⟨o1,es,ep,g1,g2,_⟩:=T.g
  exact ne _ o1 g1 (λps q=>by rw[g2]at q;cases q)
noncomputable def md(p:Program)(loose:List Str):Bool:=gK.all λq=>!startupNames.contains q.1 && !loose.contains q.1 && !((recsOf p).map (·.name)).contains q.1 && !((litsOf p).map (·.1)).contains q.1 && !((clssOf p loose).map (·.name)).contains q.1
theorem zW(T:Top p loose mean mg mb h)(e:md p loose=true){x:Str}{v:Value}(hm:(x,v)∈gK):mg x=none:=by
 have:=List.all_eq_true.mp e _ hm
 simp only[Bool.and_eq_true,Bool.not_eq_true']at this
 obtain⟨⟨⟨⟨a,b⟩,c⟩,d⟩,f⟩:=this
 have no:∀{l:List Str} {y:Str},l.contains y=false→y∉l:=λq m=>by rw[List.contains_iff_mem.mpr m]at q;cases q
 exact T.free x (no a) (no b) (no c) (no d) (no f)
theorem pN:∀q∈gK,q.1≠"__name__" ∧ bootBuiltins q.1=some q.2:=by
 intro q hq
 simp only[gK,List.mem_cons,List.not_mem_nil,or_false]at hq
 rcases hq with rfl|rfl|rfl|rfl|rfl|rfl|rfl|rfl|rfl|rfl|rfl|rfl|rfl|rfl<;>exact⟨by decide +kernel,rfl⟩
noncomputable def written{α β:Type}(dec:DictEntry→Option (α×Int×β))(hash:α→Int)(l:List DictEntry)(t:List (α×β)):Prop:=l.map dec=t.map λq=>some (q.1,hash q.1,q.2)
theorem yy{α β:Type}[DecidableEq α]{is:α→Value→Bool}{hash:α→Int}{dec:DictEntry→Option (α×Int×β)}{vl:β→Value→Prop}
  (hd:∀e k y x,dec e=some (k,y,x)→(∀i,is i e.key=decide (i=k))∧e.hash=y∧vl x e.val) (l:List DictEntry):∀{t:List (α×β)},written dec hash l t→
  (∀e∈l,∃k,is k e.key=true∧e.hash=hash k)∧∀i,(∀x,t.lookup i=some x→∃v,(l.find? λe=>is i e.key).map (·.val)=some v∧vl x v)∧(t.lookup i=none→(l.find? λe=>is i e.key).map (·.val)=none):=by
 induction l with
 | nil=>
  intro t h
  cases t with
  | nil=>exact⟨λ_ h=>absurd h List.not_mem_nil,λi=>⟨λx h=>nE h,λ_=>rfl⟩⟩
  | cons q t=>exact absurd (congrArg List.length h) (Nat.succ_ne_zero _).symm
 | cons e l ih=>
  intro t h
  cases t with
  | nil=>exact absurd (congrArg List.length h) (Nat.succ_ne_zero _)
  | cons q t=>
   injection h with h1 h2
   obtain⟨a,b⟩:=ih h2
   obtain⟨d1,d2,d3⟩:=hd _ _ _ _ h1
   refine⟨λe' he=>(List.mem_cons.mp he).elim (λhe=>he▸⟨q.1,(d1 _).trans (decide_eq_true rfl),d2⟩) (a e'),λi=>?_⟩
   obtain⟨k,y⟩:=q
   by_cases hi:i=k
   ·have e1:((k,y)::t).lookup i=some y:=by rw[List.lookup,beq_iff_eq.mpr hi]
    rw[e1,show (e::l).find? (λe=>is i e.key)=some e from List.find?_cons_of_pos ((d1 i).trans (decide_eq_true hi))]
    exact⟨λx hx=>⟨_,rfl,Option.some.inj hx▸d3⟩,nofun⟩
   ·have e1:((k,y)::t).lookup i=t.lookup i:=by rw[List.lookup,beq_eq_false_iff_ne.mpr hi]
    rw[e1,show (e::l).find? (λe=>is i e.key)=l.find? (λe=>is i e.key)from List.find?_cons_of_neg (by rw[d1,decide_eq_false hi];exact Bool.false_ne_true)]
    exact b i
theorem tQ{α β:Type}[DecidableEq α]{K:PySem.KeyKind prog w α}{dec:DictEntry→Option (α×Int×β)}{vl:β→Value→Prop}{t:List (α×β)}(hd:∀e k y x,dec e=some (k,y,x)→(∀i,K.is i e.key=decide (i=k))∧e.hash=y∧vl x e.val)
  {dct:Addr} {es:Array DictEntry} {n:Nat} (hl:h.get? dct=some ⟨.type "dict",none,.dict es n,#[]⟩) (hf:written dec K.hash es.toList t) :
  ∃f,h.MapOf K dct f∧∀i,(∀x,t.lookup i=some x→∃v,f i=some v∧vl x v)∧(t.lookup i=none→f i=none):=by
 obtain⟨a,b⟩:=yy hd _ hf
 refine⟨λi=>findBy K.is es i,⟨_,es,n,hl,⟨rfl,rfl,rfl⟩,rfl,λe he=>a e (Array.mem_toList_iff.mpr he),λ_=>rfl⟩,λi=>?_⟩
 have hb:=b i
 unfold findBy
 obtain⟨l⟩:=es
 simpa only[List.find?_toArray] using hb
theorem uS{dct:Addr}{es:Array DictEntry}{n:Nat}(hl:h.get? dct=some ⟨.type "dict",none,.dict es n,#[]⟩)(hf:written Az hashInt es.toList lC) :
  ∃f,h.MapOf (intKind prog w) dct f∧∀i,match c9 i with|some x=>∃t,f i=some (.str x t)|none=>f i=none:=by
 obtain⟨f,a,b⟩:=tQ (K:=intKind prog w) (vl:=λx v=>∃t,v=.str x t) (λe k y x q=>by
  unfold Az at q
  (first|(refine iE q ?_ ?_<;>(clear q;intro _ q))|split at q)
  ·rename_i h1 h2
   cases q
   exact⟨λi=>by rw[h1];exact KeyKind.is_eq_decide (knd:=intKind prog w) (intKind_is prog w _ _) i,rfl,_,h2⟩
  ·cases q) hl hf
 refine⟨f,a,λi=>?_⟩
 obtain⟨b1,b2⟩:=b i
 unfold c9
 split
 ·rename_i e;obtain⟨v,h1,t,h2⟩:=b1 _ e;exact⟨t,h2▸h1⟩
 ·rename_i e;exact b2 e
theorem zf{dct:Addr}{es:Array DictEntry}{n:Nat}(hl:h.get? dct=some ⟨.type "dict",none,.dict es n,#[]⟩)(hf:written AA (hashStr w) es.toList pg) :
  ∃f,h.MapOf (PySem.strKind prog w) dct f∧∀i,match bP i with|some x=>∃t,f i=some (.int x t)|none=>f i=none:=by
 obtain⟨f,a,b⟩:=tQ (K:=PySem.strKind prog w) (vl:=λx v=>∃t,v=.int x t) (λe k y x q=>by
  unfold AA at q
  (first|(refine iE q ?_ ?_<;>(clear q;intro _ q))|split at q)
  ·rename_i h1 h2
   cases q
   exact⟨λi=>by rw[h1];exact KeyKind.is_eq_decide (knd:=PySem.strKind prog w) (strKind_is prog w _ _) i,rfl,_,h2⟩
  ·cases q) hl hf
 refine⟨f,a,λi=>?_⟩
 obtain⟨b1,b2⟩:=b i
 unfold bP
 split
 ·rename_i e;obtain⟨v,h1,t,h2⟩:=b1 _ e;exact⟨t,h2▸h1⟩
 ·rename_i e;exact b2 e
end
end Mine
namespace Mine
structure Bi (mg:Str→Option Value) (h:Heap) (w:World):Prop where
 flags:∃dct es n,mg "COMPILER_FLAG_NAMES" = some (.ref dct)∧h.get? dct=some ⟨.type "dict",none,.dict es n,#[]⟩∧written Az hashInt es.toList lC∧(dct==sysModules)=false
 toks:∃dct es n,mg "EXACT_TOKEN_TYPES" = some (.ref dct)∧h.get? dct=some ⟨.type "dict",none,.dict es n,#[]⟩∧written AA (hashStr w) es.toList pg∧(dct==sysModules)=false
 endm:∃t,mg "ENDMARKER" = some (.int 0 t)
 ntoff:∃t,mg "NT_OFFSET" = some (.int 256 t)
 unk:∃u,mg "UNKNOWN" = some (.ref u)
theorem law_close{p:Program}{loose:List Str}{mean:ExcName→Option Value}{mg mb:Str→Option Value}{s₁:Shared}{prog:Program}{w:World}(T:Top p loose mean mg mb s₁.heap)(S:Bi mg s₁.heap w)
  (e:(recsOf p).map gD=fy.map iY) (ef:md p loose=true) (hg:s₁.gens=#[]) (htk:600≤s₁.toks) {a l:Addr} (hm:mg "law" = some (.ref a)) {vs:List Value} {ns:List Int}
  (hl:s₁.heap.get? l=some { cls:=.type "list",data:=.seq vs.toArray }) (hi:IntsAre vs ns) (hn:¬((63:Nat):Int)<(ns.length:Int)) :
  wpAny (model prog w) callerA (call (.ref a) [.ref l]) (λr s'=>r=.bool true∧OldK s₁.heap s'.heap∧s'.os=s₁.os∧AllBare s'.gens) NoE s₁:=by
 obtain⟨d1,es1,n1,m1,l1,f1,b1⟩:=S.flags
 obtain⟨d2,es2,n2,m2,l2,f2,b2⟩:=S.toks
 obtain⟨u,hu⟩:=S.unk
 obtain⟨g1,x1,y1⟩:=uS (prog:=prog) (w:=w) l1 f1
 obtain⟨g2,x2,y2⟩:=zf (prog:=prog) (w:=w) l2 f2
 have TT:TopF ⟨prog,w,mg,mb,s₁.heap⟩ (oG mg) u:={
  top:=⟨T.g,T.b,T.nolimit,λ_ _ e=>e⟩
  fn:=λk x hk=>let ⟨o,fd,F,_⟩:=Br T e hk;⟨o,fd,F⟩
  free:=λx v hk=>zW T ef hk
  blt:=λx v hk=>(T.builtins x (pN _ hk).1).trans (pN _ hk).2
  flags:=⟨d1,g1,m1,x1,b1,y1⟩
  toks:=⟨d2,g2,m2,x2,b2,y2⟩
  endm:=S.endm
  ntoff:=S.ntoff
  unk:=hu }
 obtain⟨o,fd,F,hq⟩:=Br (prog:=prog) (w:=w) T e (k:=75) (x:="law") (by decide +kernel)
 obtain⟨c,P,h1,h2,h3,h4,h5⟩:=code_at T e F
 have ha:oG mg 75=a:=by
  have:=F.nm
  have h7:mg "law" = some (.ref (oG mg 75)):=F.nm
  rw[hm]at h7
  injection h7 with t;injection t with t;exact t.symm
 rw[←ha]
 exact Av TT F h1 hq h2 h3 h4 h5 (.of_eq hg) (by(first|lia|omega)) (k:=0) hl hi (by(first|lia|omega))
end Mine
end
section
open PySem PySem.W PySem.W.X PyProof.Rows PySem.W.ZRun
namespace Mine
noncomputable def lawD:DefRec×List (Str×Expr):=(defOf view "law").getD (⟨"",default,[],default,default⟩,[])
noncomputable abbrev uf(s:Shared):=(openSeen view looseN (importedModules prg.main.body) Xt true s,obs s)
theorem half(b:Bool)(w:World):(fencedOpening treeTable prg w 4950).map (λs₀=>(topFrom treeTable prg (w.withFollow "special-get-raises" b) 4950 s₀).map uf)=some (some (openGood view looseN,val w)):=by
 rw[←twin_eq]
 unfold uf
 rw[Fast.te4187177175401517315,Fast.te5923862056798008813]
 cases b
 ·exact half0 w
 ·exact half1 w
theorem left:LeftO prg view looseN Xt obs val 4950:=λw=>by
 (refine mE (half false w) ?_;intro s₀ a b0)
 (refine mE (half true w) ?_;intro s₁ a' b1)
 cases a.symm.trans a'
 have e:=World.withFollow_self w "special-get-raises"
 unfold openEnds
 rw[a]
 cases hb:w.params.followText "special-get-raises" <;> rw[hb]at e
 ·rw[e]at b0;exact b0
 ·rw[e]at b1;exact b1
theorem qE{β:Type}{f:DictEntry→β}{o:Option Obj}{l:List β}(h:CH f o=wQ l):∃es n,o=some ⟨.type "dict",none,.dict es n,#[]⟩∧es.toList.map f=l:=by
 cases o with
 | none=>cases h
 | some o=>
  obtain⟨c,d,t,sl⟩:=o
  have h:=Option.some.inj h
  have e1:c=.type "dict" :=congrArg (·.1) h
  have e2:d=none:=congrArg (·.2.1) h
  have e3:sl=#[]:=congrArg (·.2.2.1) h
  have e4:=congrArg (·.2.2.2) h
  clear h
  subst e1 e2 e3
  cases t with
  | dict es n=>exact⟨es,n,rfl,Option.some.inj e4⟩
  | _=>exact nE e4
theorem jU{h h':Heap}{mg:Str→Option Value}{x:Str}{v:Value}(G:h'.Ns mainGlobals mg)(k:∀b o,h.get? b=some o→h'.get? b=some o)(e:h.nsMap mainGlobals x=some v):mg x=some v:=by
 obtain⟨o,es,ep,ho,hd,_,hf⟩:=G
 unfold Heap.nsMap at e
 (first|(refine iE e ?_ ?_<;>(clear e;intro _ e))|split at e)
 ·rename_i o' q
  have:=k _ _ q
  rw[ho]at this
  cases this
  rw[hd]at e
  exact(hf x).symm.trans e
 ·cases e
theorem shown{s₀ s₁:Shared}{mg:Str→Option Value}{w:World}(y:obs s₀=val w)(k:∀b o,s₀.heap.get? b=some o→s₁.heap.get? b=some o)(G:s₁.heap.Ns mainGlobals mg):Bi mg s₁.heap w:=by
 injection y with y1 y
 injection y with y2 y
 injection y with y3 _
 injection y3 with m1 y
 injection y with m2 y
 injection y with m3 y
 injection y with m4 y
 injection y with m5 _
 obtain⟨es,n,h1,f1⟩:=qE y1
 obtain⟨es',n',h2,f2⟩:=qE y2
 exact⟨⟨15,es,n,jU G k m1,k _ _ h1,f1,by decide⟩,⟨81,es',n',jU G k m2,k _ _ h2,f2,by decide⟩,⟨_,jU G k m3⟩,⟨_,jU G k m4⟩,⟨_,jU G k m5⟩⟩
theorem tokens{s₀:Shared}{w:World}(y:obs s₀=val w):s₀.toks=600:=congrArg (·.2.2.2) y
theorem lawD_name:lawD.1.name="law" :=by kernel_rfl
theorem recs_ok:(recsOf view).map gD=fy.map iY:=by kernel_rfl
theorem lits_ok:md view (looseW view looseN)=true:=by kernel_rfl
set_option maxRecDepth 100000 in
set_option maxHeartbeats 0 in
theorem said:PySem.Challenge.rw_tc0018_01.wellSaid=true:=by
 iterate 38 refine look_both ?_ ?_
 all_goals decide +kernel
end Mine
set_option maxRecDepth 100000 in
set_option maxHeartbeats 0 in
theorem PySem.Challenge.cw_tc0018_01_holds : PySem.Challenge.rw_tc0018_01.Holds := by
 refine holds_law Mine.said λsaid=>?_
 refine holds_openX (q:=Mine.view) (d:=Mine.lawD.1) (kwd:=Mine.lawD.2) (loose:=Mine.looseN) (Xt:=Mine.Xt) (XP:=XL Mine.view []) (Yf:=Mine.obs) (Ya:=Mine.val) (N:=4950) Mine.left (λs e=>xl_of s (Bool.and_eq_true_iff.mp e).1) XL.keeps (by kernel_rfl) (by kernel_rfl) (by kernel_rfl) (λs e=>recFacts_of (Bool.and_eq_true_iff.mp e).2) (by kernel_rfl) said (by kernel_rfl) ⟨rfl,rfl,rfl,rfl,rfl,by decide +kernel⟩ ?hw ?hc
 case hw=>w_witness2
 intro w s₀ s₁ mg mb G y a o pm cd doc dV kV ho hd hcd hD hmg hg args vals as L hpre hlay hrd hwl hlo
 refine Ground.open G ?_
 intro T B D TE TW
 wrow_args hpre hlay hrd hwl hlo
 have htk:=script_toks L (Mine.tokens y)
 all_lens
 have hobj:=script_obj L ‹Heap.IsList _ _ _›
 rw[Mine.lawD_name]at hmg
 refine wpAny_mono (Mine.law_close T (Mine.shown y L.keeps T.g) Mine.recs_ok Mine.lits_ok hg htk hmg hobj ‹IntsAre _ _› ‹¬_›) (λr s' h=>?_) λ_ _ f=>f.elim
 obtain⟨rfl,h1,h2,h3⟩:=h
 refine⟨.inl ⟨.bool true,.bool true,[],rfl,λ_=>rfl,.bool _,?_,λ_=>⟨.nil,λ_ h=>absurd h List.not_mem_nil⟩⟩,h1,h2,h3⟩
 first|rfl|kernel_rfl|decide +kernel
end
