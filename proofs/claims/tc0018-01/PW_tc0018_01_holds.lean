import PyProof.Rows.All
import Wide.All
import OpenK.AllK
import Wide.FinOn
import PyProof.CollectIter
import PyProof.ListRange
import PySem.Challenge.RW_tc0018_01
set_option Elab.async false
set_option linter.all false
set_option bootstrap.genMatcherCode false
set_option genSizeOf false
set_option genInjectivity false
set_option compiler.extract_closed false
section
open PySem PySem.W PySem.W.X PyProof.Rows PySem.W.ZRun
namespace Mine
noncomputable def lG:List (Int×Str):=[(1,⟨#[79,80,84,73,77,73,90,69,68]⟩),(2,⟨#[78,69,87,76,79,67,65,76,83]⟩),(4,⟨#[86,65,82,65,82,71,83]⟩),(8,⟨#[86,65,82,75,69,89,87,79,82,68,83]⟩),(16,⟨#[78,69,83,84,69,68]⟩),(32,⟨#[71,69,78,69,82,65,84,79,82]⟩),(64,⟨#[78,79,70,82,69,69]⟩),(128,⟨#[67,79,82,79,85,84,73,78,69]⟩),(256,⟨#[73,84,69,82,65,66,76,69,95,67,79,82,79,85,84,73,78,69]⟩),(512,⟨#[65,83,89,78,67,95,71,69,78,69,82,65,84,79,82]⟩)]
noncomputable def oH:List (Str×Int):=[(⟨#[33]⟩,54),(⟨#[33,61]⟩,28),(⟨#[37]⟩,24),(⟨#[37,61]⟩,40),(⟨#[38]⟩,19),(⟨#[38,61]⟩,41),(⟨#[40]⟩,7),(⟨#[41]⟩,8),(⟨#[42]⟩,16),(⟨#[42,42]⟩,35),(⟨#[42,42,61]⟩,46),(⟨#[42,61]⟩,38),(⟨#[43]⟩,14),(⟨#[43,61]⟩,36),(⟨#[44]⟩,12),(⟨#[45]⟩,15),(⟨#[45,61]⟩,37),(⟨#[45,62]⟩,51),(⟨#[46]⟩,23),(⟨#[46,46,46]⟩,52),(⟨#[47]⟩,17),(⟨#[47,47]⟩,47),(⟨#[47,47,61]⟩,48),(⟨#[47,61]⟩,39),(⟨#[58]⟩,11),(⟨#[58,61]⟩,53),(⟨#[59]⟩,13),(⟨#[60]⟩,20),(⟨#[60,60]⟩,33),(⟨#[60,60,61]⟩,44),(⟨#[60,61]⟩,29),(⟨#[61]⟩,22),(⟨#[61,61]⟩,27),(⟨#[62]⟩,21),(⟨#[62,61]⟩,30),(⟨#[62,62]⟩,34),(⟨#[62,62,61]⟩,45),(⟨#[64]⟩,49),(⟨#[64,61]⟩,50),(⟨#[91]⟩,9),(⟨#[93]⟩,10),(⟨#[94]⟩,32),(⟨#[94,61]⟩,43),(⟨#[123]⟩,25),(⟨#[124]⟩,18),(⟨#[124,61]⟩,42),(⟨#[125]⟩,26),(⟨#[126]⟩,31)]
noncomputable def zO(e:DictEntry):Option (Int×Int×Str):=match e.key,e.val with|.int i _,.str x _=>some (i,e.hash,x)|_,_=>none
noncomputable def AR(e:DictEntry):Option (Str×Int×Int):=match e.key,e.val with|.str i _,.int x _=>some (i,e.hash,x)|_,_=>none
noncomputable def prg:Program:=PySem.Challenge.pw_tc0018_01
noncomputable def view:Program:={ prg with main:={ prg.main with body:=(prg.main.body.zipIdx.filter λq=>![0,7,11,66].contains q.2).map (·.1) } }
noncomputable def looseN:List Str:=["COMPILER_FLAG_NAMES","UNKNOWN","EXACT_TOKEN_TYPES"]
noncomputable def BW{β:Type}(f:DictEntry→β)(o:Option Obj):=o.map λo=>(o.cls,o.dict,o.slots,match o.data with|.dict es _=>some (es.toList.map f)|_=>none)
noncomputable abbrev Seen(β:Type):=Option (Value×Option Addr×Array (Option Value)×Option (List β))
noncomputable def wy{β:Type}(l:List β):Seen β:=some (.type "dict",none,#[],some l)
noncomputable def obs(s:Shared):Seen (Option (Int×Int×Str))×Seen (Option (Str×Int×Int))×List (Option Value)×Nat:=
 (BW zO (s.heap.get? 15),BW AR (s.heap.get? 81),(["COMPILER_FLAG_NAMES","EXACT_TOKEN_TYPES","ENDMARKER","NT_OFFSET","UNKNOWN"]:List Str).map (s.heap.nsMap mainGlobals),s.toks)
noncomputable def val(w:World):Seen (Option (Int×Int×Str))×Seen (Option (Str×Int×Int))×List (Option Value)×Nat:=
 (wy (lG.map λq=>some (q.1,hashInt q.1,q.2)),wy (oH.map λq=>some (q.1,hashStr w q.1,q.2)),[some (.ref 15),some (.ref 81),some (.int 0 313),some (.int 256 411),some (.ref 45)],600)
noncomputable abbrev Xt(s:Shared):Bool:=xlAt view [] s && recOk [] s
noncomputable def twinRun{α:Type}(b:Bool)(w:World)(f:Shared→α):Option (Option α):=((Fast.tw10274390034422433532 Fast.tw14364793385576792824 (opening prg) w 4950 (Fast.tw1435165496053646825 (opening prg)).1 (Fast.tw1435165496053646825 (opening prg)).2).bind (Fast.tw14289696077712309145 prg)).map (λs₀=>(match s₀.heap.isNs mainGlobals && s₀.gens.size==0 with
 | true=>(Fast.tw14082659384304107361 Fast.tw14364793385576792824 prg (w.withFollow "special-get-raises" b) s₀.heap.objs.size (Fast.tw8920871248978507458 s₀.heap mainGlobals "__annotations__") 4950 s₀ (topStub prg)).bind λs₁=>match staticsOk (Fast.tw5923862056798008813 prg.main.body) s₀.heap s₁.heap && namesBound prg s₁.heap && gensDone s₁ && laidKept s₀.heap s₁.heap with
   | true=>some s₁
   | false=>none
 | false=>none).map f)
set_option maxRecDepth 100000 in
set_option maxHeartbeats 0 in
theorem half0(w:World):twinRun false w (λs=>(Fast.tw4187177175401517315 view looseN (Fast.tw5923862056798008813 prg.main.body) Xt true s,obs s))=some (some (openGood view looseN,val w)):=by kernel_rfl
set_option maxRecDepth 100000 in
set_option maxHeartbeats 0 in
theorem half1(w:World):twinRun true w (λs=>(Fast.tw4187177175401517315 view looseN (Fast.tw5923862056798008813 prg.main.body) Xt true s,obs s))=some (some (openGood view looseN,val w)):=by kernel_rfl
theorem twin_eq{α:Type}(b:Bool)(w:World)(f:Shared→α):twinRun b w f=(fencedOpening treeTable prg w 4950).map λs₀=>(topFrom treeTable prg (w.withFollow "special-get-raises" b) 4950 s₀).map f:=by
 unfold twinRun
 rw[←Fast.te10274390034422433532,←Fast.te14364793385576792824,←Fast.te1435165496053646825,←Fast.te14289696077712309145,←Fast.te14082659384304107361,←Fast.te8920871248978507458,←Fast.te5923862056798008813]
 rfl
end Mine
end
namespace Mine
theorem E0_2{P0 P1:Prop}{G:Prop}(h:P0∧P1)(f:P0→P1→G):G:=f h.1 h.2
theorem E0_3{P0 P1 P2:Prop}{G:Prop}(h:P0∧P1∧P2)(f:P0→P1→P2→G):G:=E0_2 h.2 (f h.1)
theorem E0_4{P0 P1 P2 P3:Prop}{G:Prop}(h:P0∧P1∧P2∧P3)(f:P0→P1→P2→P3→G):G:=E0_3 h.2 (f h.1)
theorem E0_5{P0 P1 P2 P3 P4:Prop}{G:Prop}(h:P0∧P1∧P2∧P3∧P4)(f:P0→P1→P2→P3→P4→G):G:=E0_4 h.2 (f h.1)
theorem E0_6{P0 P1 P2 P3 P4 P5:Prop}{G:Prop}(h:P0∧P1∧P2∧P3∧P4∧P5)(f:P0→P1→P2→P3→P4→P5→G):G:=E0_5 h.2 (f h.1)
theorem E0_7{P0 P1 P2 P3 P4 P5 P6:Prop}{G:Prop}(h:P0∧P1∧P2∧P3∧P4∧P5∧P6)(f:P0→P1→P2→P3→P4→P5→P6→G):G:=E0_6 h.2 (f h.1)
theorem E0_8{P0 P1 P2 P3 P4 P5 P6 P7:Prop}{G:Prop}(h:P0∧P1∧P2∧P3∧P4∧P5∧P6∧P7)(f:P0→P1→P2→P3→P4→P5→P6→P7→G):G:=E0_7 h.2 (f h.1)
theorem E0_9{P0 P1 P2 P3 P4 P5 P6 P7 P8:Prop}{G:Prop}(h:P0∧P1∧P2∧P3∧P4∧P5∧P6∧P7∧P8)(f:P0→P1→P2→P3→P4→P5→P6→P7→P8→G):G:=E0_8 h.2 (f h.1)
theorem E0_10{P0 P1 P2 P3 P4 P5 P6 P7 P8 P9:Prop}{G:Prop}(h:P0∧P1∧P2∧P3∧P4∧P5∧P6∧P7∧P8∧P9)(f:P0→P1→P2→P3→P4→P5→P6→P7→P8→P9→G):G:=E0_9 h.2 (f h.1)
theorem E1_1{A0:Sort _}{P0:A0→Prop}{G:Prop}(h:∃a,P0 a)(f:∀a,P0 a→G):G:=h.elim f
theorem E1_2{A0:Sort _}{P0 P1:A0→Prop}{G:Prop}(h:∃a,P0 a∧P1 a)(f:∀a,P0 a→P1 a→G):G:=h.elim λa h=>E0_2 h (f a)
theorem E1_3{A0:Sort _}{P0 P1 P2:A0→Prop}{G:Prop}(h:∃a,P0 a∧P1 a∧P2 a)(f:∀a,P0 a→P1 a→P2 a→G):G:=h.elim λa h=>E0_3 h (f a)
theorem E1_4{A0:Sort _}{P0 P1 P2 P3:A0→Prop}{G:Prop}(h:∃a,P0 a∧P1 a∧P2 a∧P3 a)(f:∀a,P0 a→P1 a→P2 a→P3 a→G):G:=h.elim λa h=>E0_4 h (f a)
theorem E1_5{A0:Sort _}{P0 P1 P2 P3 P4:A0→Prop}{G:Prop}(h:∃a,P0 a∧P1 a∧P2 a∧P3 a∧P4 a)(f:∀a,P0 a→P1 a→P2 a→P3 a→P4 a→G):G:=h.elim λa h=>E0_5 h (f a)
theorem E1_6{A0:Sort _}{P0 P1 P2 P3 P4 P5:A0→Prop}{G:Prop}(h:∃a,P0 a∧P1 a∧P2 a∧P3 a∧P4 a∧P5 a)(f:∀a,P0 a→P1 a→P2 a→P3 a→P4 a→P5 a→G):G:=h.elim λa h=>E0_6 h (f a)
theorem E1_7{A0:Sort _}{P0 P1 P2 P3 P4 P5 P6:A0→Prop}{G:Prop}(h:∃a,P0 a∧P1 a∧P2 a∧P3 a∧P4 a∧P5 a∧P6 a)(f:∀a,P0 a→P1 a→P2 a→P3 a→P4 a→P5 a→P6 a→G):G:=h.elim λa h=>E0_7 h (f a)
theorem E1_8{A0:Sort _}{P0 P1 P2 P3 P4 P5 P6 P7:A0→Prop}{G:Prop}(h:∃a,P0 a∧P1 a∧P2 a∧P3 a∧P4 a∧P5 a∧P6 a∧P7 a)(f:∀a,P0 a→P1 a→P2 a→P3 a→P4 a→P5 a→P6 a→P7 a→G):G:=h.elim λa h=>E0_8 h (f a)
theorem E1_10{A0:Sort _}{P0 P1 P2 P3 P4 P5 P6 P7 P8 P9:A0→Prop}{G:Prop}(h:∃a,P0 a∧P1 a∧P2 a∧P3 a∧P4 a∧P5 a∧P6 a∧P7 a∧P8 a∧P9 a)(f:∀a,P0 a→P1 a→P2 a→P3 a→P4 a→P5 a→P6 a→P7 a→P8 a→P9 a→G):G:=h.elim λa h=>E0_10 h (f a)
theorem E2_1{A0:Sort _}{A1:Sort _}{P0:A0→A1→Prop}{G:Prop}(h:∃a,∃b,P0 a b)(f:∀a b,P0 a b→G):G:=h.elim λa h=>E1_1 h (f a)
theorem E2_2{A0:Sort _}{A1:Sort _}{P0 P1:A0→A1→Prop}{G:Prop}(h:∃a,∃b,P0 a b∧P1 a b)(f:∀a b,P0 a b→P1 a b→G):G:=h.elim λa h=>E1_2 h (f a)
theorem E2_3{A0:Sort _}{A1:Sort _}{P0 P1 P2:A0→A1→Prop}{G:Prop}(h:∃a,∃b,P0 a b∧P1 a b∧P2 a b)(f:∀a b,P0 a b→P1 a b→P2 a b→G):G:=h.elim λa h=>E1_3 h (f a)
theorem E2_4{A0:Sort _}{A1:Sort _}{P0 P1 P2 P3:A0→A1→Prop}{G:Prop}(h:∃a,∃b,P0 a b∧P1 a b∧P2 a b∧P3 a b)(f:∀a b,P0 a b→P1 a b→P2 a b→P3 a b→G):G:=h.elim λa h=>E1_4 h (f a)
theorem E2_5{A0:Sort _}{A1:Sort _}{P0 P1 P2 P3 P4:A0→A1→Prop}{G:Prop}(h:∃a,∃b,P0 a b∧P1 a b∧P2 a b∧P3 a b∧P4 a b)(f:∀a b,P0 a b→P1 a b→P2 a b→P3 a b→P4 a b→G):G:=h.elim λa h=>E1_5 h (f a)
theorem E2_6{A0:Sort _}{A1:Sort _}{P0 P1 P2 P3 P4 P5:A0→A1→Prop}{G:Prop}(h:∃a,∃b,P0 a b∧P1 a b∧P2 a b∧P3 a b∧P4 a b∧P5 a b)(f:∀a b,P0 a b→P1 a b→P2 a b→P3 a b→P4 a b→P5 a b→G):G:=h.elim λa h=>E1_6 h (f a)
theorem E2_7{A0:Sort _}{A1:Sort _}{P0 P1 P2 P3 P4 P5 P6:A0→A1→Prop}{G:Prop}(h:∃a,∃b,P0 a b∧P1 a b∧P2 a b∧P3 a b∧P4 a b∧P5 a b∧P6 a b)(f:∀a b,P0 a b→P1 a b→P2 a b→P3 a b→P4 a b→P5 a b→P6 a b→G):G:=h.elim λa h=>E1_7 h (f a)
theorem E2_8{A0:Sort _}{A1:Sort _}{P0 P1 P2 P3 P4 P5 P6 P7:A0→A1→Prop}{G:Prop}(h:∃a,∃b,P0 a b∧P1 a b∧P2 a b∧P3 a b∧P4 a b∧P5 a b∧P6 a b∧P7 a b)(f:∀a b,P0 a b→P1 a b→P2 a b→P3 a b→P4 a b→P5 a b→P6 a b→P7 a b→G):G:=h.elim λa h=>E1_8 h (f a)
theorem E2_10{A0:Sort _}{A1:Sort _}{P0 P1 P2 P3 P4 P5 P6 P7 P8 P9:A0→A1→Prop}{G:Prop}(h:∃a,∃b,P0 a b∧P1 a b∧P2 a b∧P3 a b∧P4 a b∧P5 a b∧P6 a b∧P7 a b∧P8 a b∧P9 a b)(f:∀a b,P0 a b→P1 a b→P2 a b→P3 a b→P4 a b→P5 a b→P6 a b→P7 a b→P8 a b→P9 a b→G):G:=h.elim λa h=>E1_10 h (f a)
theorem E3_1{A0:Sort _}{A1:Sort _}{A2:Sort _}{P0:A0→A1→A2→Prop}{G:Prop}(h:∃a,∃b,∃c,P0 a b c)(f:∀a b c,P0 a b c→G):G:=h.elim λa h=>E2_1 h (f a)
theorem E3_2{A0:Sort _}{A1:Sort _}{A2:Sort _}{P0 P1:A0→A1→A2→Prop}{G:Prop}(h:∃a,∃b,∃c,P0 a b c∧P1 a b c)(f:∀a b c,P0 a b c→P1 a b c→G):G:=h.elim λa h=>E2_2 h (f a)
theorem E3_3{A0:Sort _}{A1:Sort _}{A2:Sort _}{P0 P1 P2:A0→A1→A2→Prop}{G:Prop}(h:∃a,∃b,∃c,P0 a b c∧P1 a b c∧P2 a b c)(f:∀a b c,P0 a b c→P1 a b c→P2 a b c→G):G:=h.elim λa h=>E2_3 h (f a)
theorem E3_4{A0:Sort _}{A1:Sort _}{A2:Sort _}{P0 P1 P2 P3:A0→A1→A2→Prop}{G:Prop}(h:∃a,∃b,∃c,P0 a b c∧P1 a b c∧P2 a b c∧P3 a b c)(f:∀a b c,P0 a b c→P1 a b c→P2 a b c→P3 a b c→G):G:=h.elim λa h=>E2_4 h (f a)
theorem E3_6{A0:Sort _}{A1:Sort _}{A2:Sort _}{P0 P1 P2 P3 P4 P5:A0→A1→A2→Prop}{G:Prop}(h:∃a,∃b,∃c,P0 a b c∧P1 a b c∧P2 a b c∧P3 a b c∧P4 a b c∧P5 a b c)(f:∀a b c,P0 a b c→P1 a b c→P2 a b c→P3 a b c→P4 a b c→P5 a b c→G):G:=h.elim λa h=>E2_6 h (f a)
theorem E3_7{A0:Sort _}{A1:Sort _}{A2:Sort _}{P0 P1 P2 P3 P4 P5 P6:A0→A1→A2→Prop}{G:Prop}(h:∃a,∃b,∃c,P0 a b c∧P1 a b c∧P2 a b c∧P3 a b c∧P4 a b c∧P5 a b c∧P6 a b c)(f:∀a b c,P0 a b c→P1 a b c→P2 a b c→P3 a b c→P4 a b c→P5 a b c→P6 a b c→G):G:=h.elim λa h=>E2_7 h (f a)
theorem E3_8{A0:Sort _}{A1:Sort _}{A2:Sort _}{P0 P1 P2 P3 P4 P5 P6 P7:A0→A1→A2→Prop}{G:Prop}(h:∃a,∃b,∃c,P0 a b c∧P1 a b c∧P2 a b c∧P3 a b c∧P4 a b c∧P5 a b c∧P6 a b c∧P7 a b c)(f:∀a b c,P0 a b c→P1 a b c→P2 a b c→P3 a b c→P4 a b c→P5 a b c→P6 a b c→P7 a b c→G):G:=h.elim λa h=>E2_8 h (f a)
theorem E3_10{A0:Sort _}{A1:Sort _}{A2:Sort _}{P0 P1 P2 P3 P4 P5 P6 P7 P8 P9:A0→A1→A2→Prop}{G:Prop}(h:∃a,∃b,∃c,P0 a b c∧P1 a b c∧P2 a b c∧P3 a b c∧P4 a b c∧P5 a b c∧P6 a b c∧P7 a b c∧P8 a b c∧P9 a b c)(f:∀a b c,P0 a b c→P1 a b c→P2 a b c→P3 a b c→P4 a b c→P5 a b c→P6 a b c→P7 a b c→P8 a b c→P9 a b c→G):G:=h.elim λa h=>E2_10 h (f a)
theorem E4_1{A0:Sort _}{A1:Sort _}{A2:Sort _}{A3:Sort _}{P0:A0→A1→A2→A3→Prop}{G:Prop}(h:∃a,∃b,∃c,∃d,P0 a b c d)(f:∀a b c d,P0 a b c d→G):G:=h.elim λa h=>E3_1 h (f a)
theorem E4_2{A0:Sort _}{A1:Sort _}{A2:Sort _}{A3:Sort _}{P0 P1:A0→A1→A2→A3→Prop}{G:Prop}(h:∃a,∃b,∃c,∃d,P0 a b c d∧P1 a b c d)(f:∀a b c d,P0 a b c d→P1 a b c d→G):G:=h.elim λa h=>E3_2 h (f a)
theorem E4_3{A0:Sort _}{A1:Sort _}{A2:Sort _}{A3:Sort _}{P0 P1 P2:A0→A1→A2→A3→Prop}{G:Prop}(h:∃a,∃b,∃c,∃d,P0 a b c d∧P1 a b c d∧P2 a b c d)(f:∀a b c d,P0 a b c d→P1 a b c d→P2 a b c d→G):G:=h.elim λa h=>E3_3 h (f a)
theorem E4_4{A0:Sort _}{A1:Sort _}{A2:Sort _}{A3:Sort _}{P0 P1 P2 P3:A0→A1→A2→A3→Prop}{G:Prop}(h:∃a,∃b,∃c,∃d,P0 a b c d∧P1 a b c d∧P2 a b c d∧P3 a b c d)(f:∀a b c d,P0 a b c d→P1 a b c d→P2 a b c d→P3 a b c d→G):G:=h.elim λa h=>E3_4 h (f a)
theorem E4_6{A0:Sort _}{A1:Sort _}{A2:Sort _}{A3:Sort _}{P0 P1 P2 P3 P4 P5:A0→A1→A2→A3→Prop}{G:Prop}(h:∃a,∃b,∃c,∃d,P0 a b c d∧P1 a b c d∧P2 a b c d∧P3 a b c d∧P4 a b c d∧P5 a b c d)(f:∀a b c d,P0 a b c d→P1 a b c d→P2 a b c d→P3 a b c d→P4 a b c d→P5 a b c d→G):G:=h.elim λa h=>E3_6 h (f a)
theorem E4_7{A0:Sort _}{A1:Sort _}{A2:Sort _}{A3:Sort _}{P0 P1 P2 P3 P4 P5 P6:A0→A1→A2→A3→Prop}{G:Prop}(h:∃a,∃b,∃c,∃d,P0 a b c d∧P1 a b c d∧P2 a b c d∧P3 a b c d∧P4 a b c d∧P5 a b c d∧P6 a b c d)(f:∀a b c d,P0 a b c d→P1 a b c d→P2 a b c d→P3 a b c d→P4 a b c d→P5 a b c d→P6 a b c d→G):G:=h.elim λa h=>E3_7 h (f a)
theorem E4_8{A0:Sort _}{A1:Sort _}{A2:Sort _}{A3:Sort _}{P0 P1 P2 P3 P4 P5 P6 P7:A0→A1→A2→A3→Prop}{G:Prop}(h:∃a,∃b,∃c,∃d,P0 a b c d∧P1 a b c d∧P2 a b c d∧P3 a b c d∧P4 a b c d∧P5 a b c d∧P6 a b c d∧P7 a b c d)(f:∀a b c d,P0 a b c d→P1 a b c d→P2 a b c d→P3 a b c d→P4 a b c d→P5 a b c d→P6 a b c d→P7 a b c d→G):G:=h.elim λa h=>E3_8 h (f a)
theorem E5_2{A0:Sort _}{A1:Sort _}{A2:Sort _}{A3:Sort _}{A4:Sort _}{P0 P1:A0→A1→A2→A3→A4→Prop}{G:Prop}(h:∃a,∃b,∃c,∃d,∃e,P0 a b c d e∧P1 a b c d e)(f:∀a b c d e,P0 a b c d e→P1 a b c d e→G):G:=h.elim λa h=>E4_2 h (f a)
theorem E5_4{A0:Sort _}{A1:Sort _}{A2:Sort _}{A3:Sort _}{A4:Sort _}{P0 P1 P2 P3:A0→A1→A2→A3→A4→Prop}{G:Prop}(h:∃a,∃b,∃c,∃d,∃e,P0 a b c d e∧P1 a b c d e∧P2 a b c d e∧P3 a b c d e)(f:∀a b c d e,P0 a b c d e→P1 a b c d e→P2 a b c d e→P3 a b c d e→G):G:=h.elim λa h=>E4_4 h (f a)
theorem E5_6{A0:Sort _}{A1:Sort _}{A2:Sort _}{A3:Sort _}{A4:Sort _}{P0 P1 P2 P3 P4 P5:A0→A1→A2→A3→A4→Prop}{G:Prop}(h:∃a,∃b,∃c,∃d,∃e,P0 a b c d e∧P1 a b c d e∧P2 a b c d e∧P3 a b c d e∧P4 a b c d e∧P5 a b c d e)(f:∀a b c d e,P0 a b c d e→P1 a b c d e→P2 a b c d e→P3 a b c d e→P4 a b c d e→P5 a b c d e→G):G:=h.elim λa h=>E4_6 h (f a)
theorem E6_2{A0:Sort _}{A1:Sort _}{A2:Sort _}{A3:Sort _}{A4:Sort _}{A5:Sort _}{P0 P1:A0→A1→A2→A3→A4→A5→Prop}{G:Prop}(h:∃a,∃b,∃c,∃d,∃e,∃x,P0 a b c d e x∧P1 a b c d e x)(f:∀a b c d e x,P0 a b c d e x→P1 a b c d e x→G):G:=h.elim λa h=>E5_2 h (f a)
theorem nE{α:Type _}{x:α}{G:Prop}(h:none=some x):G:=nomatch h
theorem sE1{α:Type _}{a b:α}{G:Prop}(h:some a=some b)(k:a=b→G):G:=k (Option.some.inj h)
theorem sE2{α β:Type _}{a b:α}{c d:β}{G:Prop}(h:some (a,c)=some (b,d))(k:a=b→c=d→G):G:=by injection h with h;injection h with h1 h2;exact k h1 h2
theorem sE3{α β γ:Type _}{a b:α}{c d:β}{e f:γ}{G:Prop}(h:some (a,c,e)=some (b,d,f))(k:a=b→c=d→e=f→G):G:=by injection h with h;injection h with h1 h2;injection h2 with h2 h3;exact k h1 h2 h3
theorem iE{α:Type _}{c:Prop}[Decidable c]{a b r:α}{G:Prop}(h:(if c then a else b)=r)(k:c→a=r→G)(k':¬c→b=r→G):G:=by
 by_cases q:c
 ·rw[if_pos q]at h;exact k q h
 ·rw[if_neg q]at h;exact k' q h
theorem bE{α β:Type _}{o:Option α}{f:α→Option β}{b:β}{G:Prop}(h:o.bind f=some b)(k:∀a,o=some a→f a=some b→G):G:=by
 cases o with
 | none=>exact nE h
 | some a=>exact k a rfl h
theorem bE2{α β γ:Type _}{o:Option (α×γ)}{f:α×γ→Option β}{b:β}{G:Prop}(h:o.bind f=some b)(k:∀a c,o=some (a,c)→f (a,c)=some b→G):G:=bE h λa=>k a.1 a.2
theorem bE3{α β γ δ:Type _}{o:Option (α×γ×δ)}{f:α×γ×δ→Option β}{b:β}{G:Prop}(h:o.bind f=some b)(k:∀a c d,o=some (a,c,d)→f (a,c,d)=some b→G):G:=bE h λa=>k a.1 a.2.1 a.2.2
theorem mE{α β:Type _}{o:Option α}{f:α→β}{b:β}{G:Prop}(h:o.map f=some b)(k:∀a,o=some a→f a=b→G):G:=by
 cases o with
 | none=>exact nE h
 | some a=>exact k a rfl (Option.some.inj h)
theorem mE2{α β γ:Type _}{o:Option (α×γ)}{f:α×γ→β}{b:β}{G:Prop}(h:o.map f=some b)(k:∀a c,o=some (a,c)→f (a,c)=b→G):G:=mE h λa=>k a.1 a.2
theorem mE3{α β γ δ:Type _}{o:Option (α×γ×δ)}{f:α×γ×δ→β}{b:β}{G:Prop}(h:o.map f=some b)(k:∀a c d,o=some (a,c,d)→f (a,c,d)=b→G):G:=mE h λa=>k a.1 a.2.1 a.2.2
theorem hide{P:Prop}(h:∀G:Prop,(P→G)→G):P:=h P id
theorem absQ{α:Type _}{M:PySem.Model}{A:PySem.Around}{t:PySem.Sem α}{Q:α→PySem.Shared→Prop}{E:PySem.Value→PySem.Shared→Prop}{s:PySem.Shared}(h:∀R:α→PySem.Shared→Prop,(∀r s',Q r s'→R r s')→PySem.wpAny M A t R E s):PySem.wpAny M A t Q E s:=h Q λ_ _ q=>q
end Mine
namespace Mine
open Lean
abbrev Tm:=TSyntax `term
abbrev Tc:=TSyntax `tactic
def al(h:Tm)(z:Tc):List (Name×Tc)→MacroM Tc
 | []=>pure z
 | (e, p) :: l => do `(tactic| first | (refine $(mkIdent e) $h ?_; (try clear $h); $p) | $(← al h z l):tactic)
def ob:List Syntax→Array Tm→Tc→MacroM Tc
 | [], is, p => `(tactic| (intro $is*; $p))
 | c::cs,is,p=>do
  let m:=c[0][0]
  let i:=m[0][0]
  if m.getNumArgs==1 && i.isIdent && i.getId != `rfl then ob cs (is.push ⟨i⟩) p
  else withFreshMacroScope do
   let m:TSyntax ``Parser.Tactic.rcasesPatMed:=⟨c[0]⟩
   let p' ← `(tactic| ($p <;> obtain $m := q))
   ob cs (is.push (← `(q))) (if i.getAtomVal == "_" then p else p')
def ek(q:Tc)(k:Nat):Nat→List (Name×Tc)
 | 0=>[]
 | m+1=>(.mkStr `Mine s!"E{k}_{m+1}",q)::ek q (k+1) m
def sb(i : Array Tm) : MacroM Tc := `(tactic| (intro $i*; subst $i*))
def mc(h:Tm):MacroM Tc:=do
 let .ident (.original ..) r v p:=h.raw|Macro.throwUnsupported
 let h:Tm:=⟨.ident .none r v p⟩
 let z ← `(tactic| first | exact nE $h | (exfalso; cases $h:term; done) | cases $h:term)
 let x ← `(q)
 let y ← `(r)
 let a ←sb #[x]
 let t : Tc := ⟨mkNullNode #[← `(tactic| intro _), a]⟩
 let b ←sb #[x,y]
 let c ← sb #[x, y, ← `(s)]
 al h z [(`Mine.sE3,c),(`Mine.sE2,b),(`Mine.sE1,a),(`Mine.Rel.intE,t),(`Mine.Rel.strE,t),(`Mine.Rel.boolE,a),(`Mine.Rel.noneE,a),(`Mine.RelAll.nilE,a)]
def mo(p:TSyntax ``Parser.Tactic.rcasesPatMed)(h:Tm):MacroM Tc:=do
 let m:=p.raw[0]
 let t:=m[0]
 let cs:=t[1].getSepArgs.toList
 let n:=cs.length
 unless m.getNumArgs==1 && t.isOfKind ``Parser.Tactic.rcasesPat.tuple && n > 1 do Macro.throwUnsupported
 al h (← `(tactic| rcases $h:term with $p)) (ek (← ob cs #[] (← `(tactic| skip))) 0 n)
def aR : Syntax := Unhygienic.run `(Parser.Tactic.tacticSeq| intros; rfl)
def aL : Syntax := Unhygienic.run `(Parser.Tactic.tacticSeq| first | exact Nat.le_refl _ | exact Nat.le_succ _ | exact Nat.le_add_right _ _ | assumption | lia | omega)
end Mine
local macro_rules
 | `(tactic| cases $h:term) => Mine.mc h
local macro_rules
 | `(tactic| obtain $p:rcasesPatMed := $h) => Mine.mo p h
section
open PySem PySem.Calls PySem.Spec PyProof.Rows PySem.W
set_option maxRecDepth 20000
namespace Mine
inductive D where
 | none|bool (b:Bool)|int (i:Int)|str (x:Str)|tup (ds:List D)|lst (ds:List D)|obj (v:Value)
noncomputable abbrev cG(vs:Array Value)(n:Nat):Obj:={ cls:=.type "list",data:=.seq vs n }
noncomputable abbrev fR(vs:Array Value)(n:Nat):Obj:={ cls:=.type "tuple",data:=.seq vs n }
mutual
inductive Rel (g:Heap):Value→D→Prop
 | none:Rel g Value.none D.none
 | bool (b:Bool):Rel g (Value.bool b) (D.bool b)
 | int (i:Int) (t:Tok):Rel g (Value.int i t) (D.int i)
 | str (x:Str) (t:Tok):Rel g (Value.str x t) (D.str x)
 | tup {a:Addr} {vs:List Value} {n:Nat} {ds:List D}:g.get? a=some (fR vs.toArray n)→RelAll g vs ds→Rel g (Value.ref a) (D.tup ds)
 | lst {a:Addr} {vs:List Value} {n:Nat} {ds:List D}:g.get? a=some (cG vs.toArray n)→RelAll g vs ds→Rel g (Value.ref a) (D.lst ds)
 | obj (v:Value):Rel g v (D.obj v)
inductive RelAll (g:Heap):List Value→List D→Prop
 | nil:RelAll g [] []
 | cons {v:Value} {vs:List Value} {d:D} {ds:List D}:Rel g v d→RelAll g vs ds→RelAll g (v::vs) (d::ds)
end
section
variable{g:Heap}{v:Value}{vs:List Value}{ds:List D}{d:D}{G:Prop}
theorem Rel.intE{i:Int}(r:Rel g v (.int i))(k:∀t,v=.int i t→G):G:=by cases (r);exact k _ rfl
theorem Rel.strE{x:Str}(r:Rel g v (.str x))(k:∀t,v=.str x t→G):G:=by cases (r);exact k _ rfl
theorem Rel.boolE{x:Bool}(r:Rel g v (.bool x))(k:v=.bool x→G):G:=by cases (r);exact k rfl
theorem Rel.noneE(r:Rel g v .none)(k:v=.none→G):G:=by cases (r);exact k rfl
theorem Rel.tupE(r:Rel g v (.tup ds))(k:∀a vs n,v=.ref a→g.get? a=some (fR vs.toArray n)→RelAll g vs ds→G):G:=by cases r with|tup e q=>exact k _ _ _ rfl e q
theorem Rel.lstE(r:Rel g v (.lst ds))(k:∀a vs n,v=.ref a→g.get? a=some (cG vs.toArray n)→RelAll g vs ds→G):G:=by cases r with|lst e q=>exact k _ _ _ rfl e q
theorem RelAll.nilE(r:RelAll g vs [])(k:vs=[]→G):G:=by cases (r);exact k rfl
theorem RelAll.consE(r:RelAll g vs (d::ds))(k:∀v ws,vs=v::ws→Rel g v d→RelAll g ws ds→G):G:=by cases r with|cons a b=>exact k _ _ rfl a b
theorem RelAll.oneE(r:RelAll g vs [d])(k:∀v,vs=[v]→Rel g v d→G):G:=r.consE λv ws e a b=>b.nilE λq=>k v (q▸e) a
theorem RelAll.twoE{d':D}(r:RelAll g vs [d,d'])(k:∀v v',vs=[v,v']→Rel g v d→Rel g v' d'→G):G:=r.consE λv ws e a b=>b.oneE λv' q a'=>k v v' (q▸e) a a'
end
theorem ma{α:Type _}{n:Nat}{l:List α}(h:l.length=n+1):∃a t,l=a::t∧t.length=n:=by
 cases l with
 | nil=>cases h
 | cons a t=>exact⟨a,t,rfl,Nat.succ.inj h⟩
noncomputable def Le(g g':Heap):Prop:=∀a o,g.get? a=some o→g'.get? a=some o
theorem Le.refl(g:Heap):Le g g:=λ_ _ h=>h
theorem Le.trans{a b c:Heap}(h:Le a b)(k:Le b c):Le a c:=λx o e=>k x o (h x o e)
theorem Rel.mono{g g':Heap}(hs:Le g g'){v:Value}{d:D}(r:Rel g v d):Rel g' v d:=
 Rel.rec (motive_1:=λv d _=>Rel g' v d) (motive_2:=λvs ds _=>RelAll g' vs ds) .none .bool .int .str (λe _ ih=>.tup (hs _ _ e) ih) (λe _ ih=>.lst (hs _ _ e) ih) .obj .nil (λ_ _ a b=>.cons a b) r
theorem RelAll.mono{g g':Heap}(hs:Le g g'){vs:List Value}{ds:List D}(r:RelAll g vs ds):RelAll g' vs ds:=
 RelAll.rec (motive_1:=λv d _=>Rel g' v d) (motive_2:=λvs ds _=>RelAll g' vs ds) .none .bool .int .str (λe _ ih=>.tup (hs _ _ e) ih) (λe _ ih=>.lst (hs _ _ e) ih) .obj .nil (λ_ _ a b=>.cons a b) r
section
variable{g:Heap}{v:Value}{d:D}{vs ws:List Value}{ds es:List D}
theorem RelAll.length(h:RelAll g vs ds):vs.length=ds.length:=by
 induction vs generalizing ds with
 | nil=>cases h;rfl
 | cons v vs ih=>
  cases h with
  | cons _ r=>rw[List.length_cons,List.length_cons,ih r]
theorem RelAll.append(h:RelAll g vs ds)(k:RelAll g ws es):RelAll g (vs++ws) (ds++es):=by
 induction vs generalizing ds with
 | nil=>cases h;exact k
 | cons v vs ih=>
  cases h with
  | cons h r=>exact .cons h (ih r)
theorem RelAll.one(h:Rel g v d):RelAll g [v] [d]:=.cons h .nil
theorem RelAll.get{k:Nat}(h:RelAll g vs ds)(hk:ds[k]?=some d):∃v,vs[k]?=some v∧Rel g v d:=by
 induction vs generalizing ds k with
 | nil=>cases h;simp at hk
 | cons v vs ih=>
  cases h with
  | cons h r=>
   cases k with
   | zero=>simp at hk;subst hk;exact⟨v,rfl,h⟩
   | succ k=>exact ih r (by simpa using hk)
theorem RelAll.drop(n:Nat)(h:RelAll g vs ds):RelAll g (vs.drop n) (ds.drop n):=by
 induction n generalizing vs ds with
 | zero=>exact h
 | succ n ih=>
  cases h with
  | nil=>exact .nil
  | cons h r=>exact ih r
theorem RelAll.take(n:Nat)(h:RelAll g vs ds):RelAll g (vs.take n) (ds.take n):=by
 induction n generalizing vs ds with
 | zero=>exact .nil
 | succ n ih=>
  cases h with
  | nil=>exact .nil
  | cons h r=>exact .cons h (ih r)
theorem RelAll.map{α:Type}{f:α→Value}{k:α→D}{l:List α}(h:∀x∈l,Rel g (f x) (k x)):RelAll g (l.map f) (l.map k):=by
 induction l with
 | nil=>exact .nil
 | cons x l ih=>exact .cons (h x (.head _)) (ih λy hy=>h y (.tail _ hy))
theorem RelAll.replicate{n:Nat}(h:Rel g v d):RelAll g (List.replicate n v) (List.replicate n d):=by
 induction n with
 | zero=>exact .nil
 | succ n ih=>exact .cons h ih
end
noncomputable def gone:Obj:={ cls:=.none,data:=.freed }
noncomputable def cN(g:Heap)(a:Addr)(o:Obj):Heap:=⟨Array.ofFn λi:Fin (max (a+1) g.objs.size)=>if i.val=a then o else(g.objs[i.val]?).getD gone,g.life⟩
theorem get?_eq(h:Heap)(a:Addr):h.get? a=match h.objs[a]? with|some o=>if o.isFreed then none else some o|none=>none:=by
 unfold Heap.get?
 cases e:h.objs[a]? with
 | none=>rfl
 | some o=>
  obtain⟨c,d,dt,sl⟩:=o
  cases dt<;>rfl
theorem dQ{g:Heap}{a:Addr}{o:Obj}(hf:o.isFreed=false):(cN g a o).get? a=some o:=by
 have hlt:a<max (a+1) g.objs.size:=Nat.lt_of_lt_of_le (Nat.lt_succ_self a) (Nat.le_max_left _ _)
 rw[get?_eq]
 have:(cN g a o).objs[a]?=some o:=by
  simp only[cN,Array.getElem?_ofFn]
  rw[dif_pos hlt];simp
 rw[this];simp[hf]
theorem bx{g:Heap}{a b:Addr}{o:Obj}(hb:b≠a):(cN g a o).get? b=g.get? b:=by
 rw[get?_eq,get?_eq]
 by_cases h:b<max (a+1) g.objs.size
 ·have e:(cN g a o).objs[b]?=some ((g.objs[b]?).getD gone):=by
   simp only[cN,Array.getElem?_ofFn]
   rw[dif_pos h]
   simp[hb]
  rw[e]
  cases q:g.objs[b]? with
  | none=>simp[gone,Obj.isFreed]
  | some o'=>simp
 ·have e:(cN g a o).objs[b]?=none:=by
   simp only[cN,Array.getElem?_ofFn]
   rw[dif_neg h]
  have e':g.objs[b]?=none:=by
   apply Array.getElem?_eq_none
   exact Nat.le_trans (Nat.le_max_right (a+1) g.objs.size) (Nat.le_of_not_lt h)
  rw[e,e']
theorem j8{h:Heap}{a:Addr}{o:Obj}(e:h.get? a=some o):o.isFreed=false:=by
 rw[get?_eq]at e
 cases q:h.objs[a]? with
 | none=>rw[q]at e;cases e
 | some o'=>
  rw[q]at e
  dsimp only at e
  (first|(refine iE e ?_ ?_<;>(clear e;intro _ e))|split at e)
  ·cases e
  ·rename_i hq
   cases e;exact Bool.eq_false_iff.mpr hq
theorem Le.put{g:Heap}{a:Addr}{o:Obj}(h:g.get? a=none):Le g (cN g a o):=λb o' e=>by
 rw[bx];exact e
 rintro rfl;rw[h]at e;cases e
inductive Cell where
 | lst (ds:List D)
 | fz (ds:List D)
 | it (ds:List D)
 | raw (P:Obj→Prop)
 | tab (P:Addr) (pos:Pos) (qual:Str) (b:Bool)
noncomputable def Cell.isFz:Cell→Bool
 | .fz _=>true
 | _=>false
noncomputable def CellOk(g h:Heap)(a:Addr):Cell→Prop
 | .lst ds=>∃vs n,h.get? a=some (cG (List.toArray vs) n)∧RelAll g vs ds
 | .fz ds=>Rel g (.ref a) (.lst ds)
 | .it ds=>∃l vs n i,h.IsListIter a l i∧g.get? l=some (cG (List.toArray vs) n)∧RelAll g (vs.drop i) ds
 | .raw P=>∃o,h.get? a=some o∧P o
 | .tab P pos qual b=>a=P∧∃ps:Array Value,h.get? a=some (tabObj ps)∧TriplesOk ps.toList∧if b=true then ∃c',codeAmong pos ps.toList=some (.ref c')∧g.CodeRec (.ref c') qual else codeAmong pos ps.toList=none
theorem CellOk.mono{g g' h h':Heap}{a:Addr}{c:Cell}(hs:Le g g')(hk:c.isFz=false→h'.get? a=h.get? a)(k:CellOk g h a c):CellOk g' h' a c:=by
 cases c with
 | lst ds=>obtain⟨vs,n,e,r⟩:=k;exact⟨vs,n,(hk rfl).trans e,r.mono hs⟩
 | fz ds=>exact Rel.mono hs k
 | it ds=>obtain⟨l,vs,n,i,⟨o,e,q⟩,e',r⟩:=k;exact⟨l,vs,n,i,⟨o,(hk rfl).trans e,q⟩,hs _ _ e',r.mono hs⟩
 | raw P=>obtain⟨o,e,p⟩:=k;exact⟨o,(hk rfl).trans e,p⟩
 | tab P pos qual b=>
  obtain⟨ea,ps,e,t,r⟩:=k
  refine⟨ea,ps,(hk rfl).trans e,t,?_⟩
  cases b with
  | true=>obtain⟨c',q,r⟩:=r;exact⟨c',q,r.keeps hs⟩
  | false=>exact r
theorem CellOk.there{g h:Heap}{a:Addr}{c:Cell}(hs:Le g h)(k:CellOk g h a c):∃o,h.get? a=some o:=by
 cases c with
 | lst ds=>obtain⟨vs,n,e,r⟩:=k;exact⟨_,e⟩
 | fz ds=>cases k with|lst e _=>exact⟨_,hs _ _ e⟩
 | it ds=>obtain⟨l,vs,n,i,⟨o,e,q⟩,e',r⟩:=k;exact⟨_,e⟩
 | raw P=>obtain⟨o,e,p⟩:=k;exact⟨o,e⟩
 | tab P pos qual b=>obtain⟨_,ps,e,_⟩:=k;exact⟨_,e⟩
structure Tp where
 mg:Str→Option Value
 mb:Str→Option Value
 g0:Heap
structure TopOk (T:Tp) (g:Heap):Prop where
 gl:g.Ns mainGlobals T.mg
 bl:g.Ns builtinsNs T.mb
 nolim:g.NoLimit
 base:Le T.g0 g
theorem TopOk.mono{T:Tp}{g g':Heap}(hs:Le g g')(t:TopOk T g):TopOk T g':=⟨t.gl.keeps hs,t.bl.keeps hs,t.nolim.keeps hs,t.base.trans hs⟩
structure Sg where
 g:Heap
 own:List Addr
 sto:List Cell
structure Inv (T:Tp) (σ:Sg) (s:Shared):Prop where
 sub:Le σ.g s.heap
 len:σ.own.length=σ.sto.length
 nodup:σ.own.Nodup
 cells:∀(k:Nat) a c,σ.own[k]?=some a→σ.sto[k]?=some c→CellOk σ.g s.heap a c
 off:∀(k:Nat) a c,σ.own[k]?=some a→σ.sto[k]?=some c→c.isFz=false→σ.g.get? a=none
 top:TopOk T σ.g
 bare:AllBare s.gens
 tk:0<s.toks
theorem Inv.mem{T:Tp}{σ:Sg}{s:Shared}(I:Inv T σ s){a:Addr}(h:a∈σ.own):∃o,s.heap.get? a=some o:=by
 obtain⟨k,hk,e⟩:=List.getElem_of_mem h
 have hk':k<σ.sto.length:=I.len▸hk
 exact(I.cells k a _ (by rw[List.getElem?_eq_getElem hk,e]) (List.getElem?_eq_getElem hk')).there I.sub
structure Ext (W:Addr→Prop) (Wg:Nat→Prop) (σ:Sg) (s:Shared) (σ':Sg) (s':Shared):Prop where
 le:Le σ.g σ'.g
 own:∃more,σ'.own=σ.own++more∧∀a∈more,s.heap.get? a=none∨W a
 fresh:∀a o,σ'.g.get? a=some o→σ.g.get? a=none→s.heap.get? a=none∨a∈σ.own∨W a
 keep:∀a o,s.heap.get? a=some o→a∉σ.own→¬W a→s'.heap.get? a=some o
 gens:∀(i:Nat) x,s.gens[i]?=some x→¬Wg i→s'.gens[i]?=some x
 os:s'.os=s.os
noncomputable abbrev NoW:Addr→Prop:=λ_=>False
noncomputable abbrev NoG:Nat→Prop:=λ_=>False
theorem Ext.refl(W:Addr→Prop)(Wg:Nat→Prop)(σ:Sg)(s:Shared):Ext W Wg σ s σ s:=
 ⟨.refl _,⟨[],by simp,by simp⟩,λa o e n=>(by rw[n]at e;cases e),λ_ _ e _ _=>e,λ_ _ e _=>e,rfl⟩
theorem Ext.trans{W:Addr→Prop}{Wg:Nat→Prop}{T:Tp}{σ₁ σ₂ σ₃:Sg}{s₁ s₂ s₃:Shared}(I:Inv T σ₂ s₂)(x:Ext W Wg σ₁ s₁ σ₂ s₂)(y:Ext W Wg σ₂ s₂ σ₃ s₃):Ext W Wg σ₁ s₁ σ₃ s₃:=by
 obtain⟨m1,o1,f1⟩:=x.own
 obtain⟨m2,o2,f2⟩:=y.own
 have old:∀a,s₂.heap.get? a=none→s₁.heap.get? a=none∨W a:=by
  intro a e
  cases q:s₁.heap.get? a with
  | none=>exact .inl rfl
  | some o=>
   by_cases hw:W a
   ·exact .inr hw
   ·exfalso
    by_cases ho:a∈σ₁.own
    ·obtain⟨o',e'⟩:=I.mem (a:=a) (by rw[o1];exact List.mem_append_left _ ho)
     rw[e']at e;cases e
    ·rw[x.keep a o q ho hw]at e;cases e
 refine⟨x.le.trans y.le,⟨m1++m2,by rw[o2,o1,List.append_assoc],λa ha=>?_⟩,λa o e n=>?_,λa o e n hw=>?_,λi g e n=>y.gens i g (x.gens i g e n) n,y.os.trans x.os⟩
 ·rcases List.mem_append.mp ha with h|h
  ·exact f1 a h
  ·rcases f2 a h with h|h
   ·exact old a h
   ·exact .inr h
 ·cases q:σ₂.g.get? a with
  | some o'=>exact x.fresh a o' q n
  | none=>
   rcases y.fresh a o e q with h|h|h
   ·rcases old a h with h|h
    ·exact .inl h
    ·exact .inr (.inr h)
   ·rw[o1]at h
    rcases List.mem_append.mp h with h|h
    ·exact .inr (.inl h)
    ·rcases f1 a h with h|h
     ·exact .inl h
     ·exact .inr (.inr h)
   ·exact .inr (.inr h)
 ·refine y.keep a o (x.keep a o e n hw) (λh=>?_) hw
  rw[o1]at h
  rcases List.mem_append.mp h with h|h
  ·exact n h
  ·rcases f1 a h with h|h
   ·rw[h]at e;cases e
   ·exact hw h
theorem Ext.weaken{W W':Addr→Prop}{Wg Wg':Nat→Prop}{σ σ':Sg}{s s':Shared}(x:Ext W Wg σ s σ' s')(h:∀a,W a→W' a)(hg:∀i,Wg i→Wg' i):Ext W' Wg' σ s σ' s':=
 ⟨x.le,let ⟨m,o,f⟩:=x.own;⟨m,o,λa ha=>(f a ha).imp id (h a)⟩,λa o e n=>(x.fresh a o e n).imp id (Or.imp id (h a)),λa o e n hw=>x.keep a o e n λq=>hw (h a q),λi g e n=>x.gens i g e λq=>n (hg i q),x.os⟩
theorem Ext.drop{W:Addr→Prop}{Wg:Nat→Prop}{σ σ':Sg}{s s':Shared}(x:Ext W Wg σ s σ' s')(h:∀a,W a→s.heap.get? a=none)(hg:∀i,Wg i→s.gens[i]?=none):Ext NoW NoG σ s σ' s':=
 ⟨x.le,let ⟨m,o,f⟩:=x.own;⟨m,o,λa ha=>.inl ((f a ha).elim id (h a))⟩,λa o e n=>(x.fresh a o e n).elim .inl λq=>q.elim (λq=>.inr (.inl q)) λq=>.inl (h a q),λa o e n _=>x.keep a o e n λq=>(by rw[h a q]at e;cases e),
  λi g e _=>x.gens i g e λq=>(by rw[hg i q]at e;cases e),x.os⟩
theorem Ext.up{W:Addr→Prop}{Wg:Nat→Prop}{σ σ':Sg}{s s':Shared}(x:Ext NoW NoG σ s σ' s'):Ext W Wg σ s σ' s':=x.weaken (λ_ h=>h.elim) λ_ h=>h.elim
theorem Ext.heap{W:Addr→Prop}{Wg:Nat→Prop}{σ:Sg}{s:Shared}{h':Heap}{tk:Nat}(k:∀a o,s.heap.get? a=some o→¬W a→h'.get? a=some o):Ext W Wg σ s σ { s with heap:=h',toks:=tk }:=
 ⟨.refl _,⟨[],by simp,by simp⟩,λa o e n=>(by rw[n]at e;cases e),λa o e _ hw=>k a o e hw,λ_ _ e _=>e,rfl⟩
theorem Inv.heap{T:Tp}{W:Addr→Prop}{σ:Sg}{s:Shared}{h':Heap}{tk:Nat}(I:Inv T σ s)(k:∀a o,s.heap.get? a=some o→¬W a→h'.get? a=some o)(hw:∀a,W a→a∉σ.own∧σ.g.get? a=none)(ht:autoParam (s.toks≤tk) aL):Inv T σ { s with heap:=h',toks:=tk }:=by
 refine⟨λa o e=>k a o (I.sub a o e) λq=>(by rw[(hw a q).2]at e;cases e),I.len,I.nodup,λn a c e1 e2=>?_,I.off,I.top,I.bare,Nat.lt_of_lt_of_le I.tk ht⟩
 have c0:=I.cells n a c e1 e2
 obtain⟨o,ho⟩:=c0.there I.sub
 exact c0.mono (.refl _) λ_=>by rw[ho];exact k a o ho λq=>(hw a q).1 (List.mem_of_getElem? e1)
theorem Inv.toks{T:Tp}{σ:Sg}{s:Shared}{tk:Nat}(I:Inv T σ s)(ht:autoParam (s.toks≤tk) aL):Inv T σ { s with toks:=tk }:=⟨I.sub,I.len,I.nodup,I.cells,I.off,I.top,I.bare,Nat.lt_of_lt_of_le I.tk ht⟩
theorem Inv.add{T:Tp}{σ:Sg}{s:Shared}{a:Addr}{o:Obj}(I:Inv T σ s)(e:s.heap.get? a=some o)(hg:σ.g.get? a=none)(ho:a∉σ.own):Inv T ⟨cN σ.g a o,σ.own,σ.sto⟩ s:=by
 refine⟨λb o' q=>?_,I.len,I.nodup,λn b c e1 e2=>(I.cells n b c e1 e2).mono (.put hg) λ_=>rfl,λn b c e1 e2 e3=>?_,I.top.mono (.put hg),I.bare,I.tk⟩
 ·by_cases hb:b=a
  ·subst hb;rw[dQ (j8 e)]at q;cases q;exact e
  ·rw[bx hb]at q;exact I.sub b o' q
 ·have hb:b≠a:=by rintro rfl;exact ho (List.mem_of_getElem? e1)
  show (cN σ.g a o).get? b=none
  rw[bx hb];exact I.off n b c e1 e2 e3
theorem get?_push_none{h:Heap}:h.get? h.objs.size=none:=by
 cases e:h.get? h.objs.size with
 | none=>rfl
 | some o=>exact absurd (Heap.lt_size e) (Nat.lt_irrefl _)
theorem Inv.notIn{T:Tp}{σ:Sg}{s:Shared}{a:Addr}(I:Inv T σ s)(h:s.heap.get? a=none):a∉σ.own∧σ.g.get? a=none:=by
 constructor
 ·intro q
  obtain⟨o,e⟩:=I.mem q
  rw[h]at e;cases e
 ·cases e:σ.g.get? a with
  | none=>rfl
  | some o=>rw[I.sub a o e]at h;cases h
theorem kQ{T:Tp}{σ:Sg}{s:Shared}{o:Obj}(I:Inv T σ s)(hf:o.isFreed=false)(tk:Nat)(ht:autoParam (s.toks≤tk) aL) :
  let s':Shared:={ s with heap:=s.heap.push o,toks:=tk }
  let σ':Sg:=⟨cN σ.g s.heap.objs.size o,σ.own,σ.sto⟩
  Inv T σ' s'∧Ext NoW NoG σ s σ' s'∧σ'.g.get? s.heap.objs.size=some o:=by
 have n:s.heap.get? s.heap.objs.size=none:=get?_push_none
 obtain⟨n1,n2⟩:=I.notIn n
 have I':Inv T σ { s with heap:=s.heap.push o,toks:=tk }:=I.heap (W:=NoW) (λa o' e _=>Heap.get?_push_of_some _ e) (λ_ h=>h.elim) ht
 refine⟨I'.add (Heap.get?_push_size _ hf) n2 n1,⟨.put n2,⟨[],by simp,by simp⟩,λa o' e q=>?_,λa o' e _ _=>Heap.get?_push_of_some _ e,λ_ _ e _=>e,rfl⟩,dQ hf⟩
 by_cases ha:a=s.heap.objs.size
 ·subst ha;exact .inl n
 ·have:(cN σ.g s.heap.objs.size o).get? a=some o':=e
  rw[bx ha,q]at this;cases this
end Mine
namespace Mine
inductive Slot where
 | un
 | val (d:D)
 | ref (k:Nat)
noncomputable def RelS(σ:Sg)(v:Value):Slot→Prop
 | .un=>True
 | .val d=>Rel σ.g v d
 | .ref k=>∃a,σ.own[k]?=some a∧v=.ref a
theorem RelS.mono{σ σ':Sg}{v:Value}{sl:Slot}(hg:Le σ.g σ'.g)(ho:∃more,σ'.own=σ.own++more)(h:RelS σ v sl):RelS σ' v sl:=by
 cases sl with
 | un=>trivial
 | val d=>exact Rel.mono hg h
 | ref k=>
  obtain⟨a,e,r⟩:=h
  obtain⟨m,e'⟩:=ho
  refine⟨a,?_,r⟩
  rw[e',List.getElem?_append_left (List.getElem?_eq_some_iff.mp e).1]
  exact e
inductive VK where
 | l|c|f
 deriving DecidableEq
structure FT where
 nt:List (Str×VK)
 gt:List Str
 cd:Option (Value×Str):=none
noncomputable def gr:VK→Option NameKind→Bool
 | .l,some .local=>true
 | .c,some .cell=>true
 | .f,some .cell=>true
 | .f,some .free=>true
 | _,_=>false
structure l8 (ft:FT) (env:Env):Prop where
 kind:env.scope.kind=.function
 glob:env.globals=mainGlobals
 blt:env.builtins=builtinsNs
 kinds:∀p∈ft.nt,gr p.2 (env.kindOf p.1)=true
 gl:∀x∈ft.gt,env.kindOf x=some .globalImplicit
 nodup:(ft.nt.map (·.1)).Nodup
 odd:∀x∈ft.nt.map (·.1)++ft.gt,(x==("__debug__" : Str))=false∧(x==("__classdict__" : Str))=false
 code:∀v,ft.cd=some v→env.code=v.1∧env.qual=v.2
structure Frm (ft:FT) (env:Env) (Γ:List Slot) (σ:Sg) (h:Heap):Prop where
 ok:l8 ft env
 len:Γ.length=ft.nt.length
 loc:∃m,h.Ns env.locals m∧∀(i:Nat) (x:Str) (sl:Slot),ft.nt[i]?=some (x,.l)→Γ[i]?=some sl→sl≠.un→∃v,m x=some v∧RelS σ v sl
 cel:∀(i:Nat) (x:Str) (k:VK),ft.nt[i]?=some (x,k)→k≠.l→∃c,env.cells.lookup x=some c∧∃ov,h.IsCell c ov∧∀sl,Γ[i]?=some sl→sl≠.un→∃v,ov=some v∧RelS σ v sl
 offL:σ.g.get? env.locals=none∧env.locals∉σ.own
 offC:∀(i:Nat) (x:Str) (k:VK) (c:Addr),ft.nt[i]?=some (x,k)→k≠.l→env.cells.lookup x=some c→σ.g.get? c=none∧c∉σ.own
 apart:∀(i j:Nat) (x y:Str) (k:VK) (c:Addr),ft.nt[i]?=some (x,.c)→ft.nt[j]?=some (y,k)→k≠.l→i≠j→env.cells.lookup x=some c→env.cells.lookup y≠some c
noncomputable def FW(ft:FT)(env:Env)(a:Addr):Prop:=a=env.locals∨∃(i:Nat) (x:Str),ft.nt[i]?=some (x,.c)∧env.cells.lookup x=some a
theorem Heap.Ns.there{h:Heap}{a:Addr}{m:Str→Option Value}(n:h.Ns a m):∃o,h.get? a=some o:=by
 obtain⟨o,_,_,e,_⟩:=n
 exact⟨o,e⟩
section
variable{T:Tp}{ft:FT}{env:Env}{Γ:List Slot}{σ σ':Sg}{s s':Shared}{W:Addr→Prop}{Wg:Nat→Prop}
theorem Frm.extW(F:Frm ft env Γ σ s.heap)(x:Ext W Wg σ s σ' s')(hL:¬W env.locals)(hC:∀(i:Nat) (y:Str) (k:VK) (c:Addr),ft.nt[i]?=some (y,k)→k≠.l→env.cells.lookup y=some c→¬W c):Frm ft env Γ σ' s'.heap:=by
 obtain⟨more,ho,hf⟩:=x.own
 have off:∀a,(∃o,s.heap.get? a=some o)→σ.g.get? a=none∧a∉σ.own→¬W a→σ'.g.get? a=none∧a∉σ'.own:=by
  rintro a ⟨o,e⟩ ⟨h1,h2⟩ hw
  constructor
  ·cases q:σ'.g.get? a with
   | none=>rfl
   | some o'=>
    rcases x.fresh a o' q h1 with h|h|h
    ·rw[h]at e;cases e
    ·exact absurd h h2
    ·exact absurd h hw
  ·rw[ho]
   intro q
   rcases List.mem_append.mp q with q|q
   ·exact h2 q
   ·rcases hf a q with h|h
    ·rw[h]at e;cases e
    ·exact hw h
 refine⟨F.ok,F.len,?_,λi y k e hk=>?_,?_,λi y k c e hk hc=>?_,F.apart⟩
 ·obtain⟨m,hn,hm⟩:=F.loc
  refine⟨m,?_,λi y sl e1 e2 e3=>?_⟩
  ·obtain⟨o,es,ep,ho',r⟩:=hn
   exact⟨o,es,ep,x.keep _ _ ho' F.offL.2 hL,r⟩
  ·obtain⟨v,hv,r⟩:=hm i y sl e1 e2 e3
   exact⟨v,hv,r.mono x.le ⟨more,ho⟩⟩
 ·obtain⟨c,hc,ov,⟨o,ho',hd⟩,hs⟩:=F.cel i y k e hk
  refine⟨c,hc,ov,⟨o,x.keep _ _ ho' (F.offC i y k c e hk hc).2 (hC i y k c e hk hc),hd⟩,λsl e1 e2=>?_⟩
  obtain⟨v,hv,r⟩:=hs sl e1 e2
  exact⟨v,hv,r.mono x.le ⟨more,ho⟩⟩
 ·obtain⟨m,hn,_⟩:=F.loc
  exact off _ (Heap.Ns.there hn) F.offL hL
 ·obtain⟨c',hc',ov,⟨o,ho',_⟩,_⟩:=F.cel i y k e hk
  rw[hc]at hc';cases hc'
  exact off _ ⟨o,ho'⟩ (F.offC i y k c e hk hc) (hC i y k c e hk hc)
theorem Frm.ext(F:Frm ft env Γ σ s.heap)(x:Ext NoW Wg σ s σ' s'):Frm ft env Γ σ' s'.heap:=F.extW x (λh=>h) λ_ _ _ _ _ _ _ h=>h
theorem jv{x:Str}(h:gr .l (env.kindOf x)=true):env.kindOf x=some .local:=by
 generalize env.kindOf x=o at h
 cases o with
 | none=>exact Bool.noConfusion h
 | some k=>cases k<;>first|rfl|exact Bool.noConfusion h
theorem oz{x:Str}(h:gr .c (env.kindOf x)=true):env.kindOf x=some .cell:=by
 generalize env.kindOf x=o at h
 cases o with
 | none=>exact Bool.noConfusion h
 | some k=>cases k<;>first|rfl|exact Bool.noConfusion h
theorem Co{x:Str}(h:gr .f (env.kindOf x)=true):env.kindOf x=some .cell∨env.kindOf x=some .free:=by
 generalize env.kindOf x=o at h
 cases o with
 | none=>exact Bool.noConfusion h
 | some k=>cases k<;>first|exact .inl rfl|exact .inr rfl|exact Bool.noConfusion h
variable{M:Model}{A:Around}{E:Value→Shared→Prop}
theorem cO{i:Nat}{x:Str}{k:VK}{sl:Slot}{Q:Value→Shared→Prop}(F:Frm ft env Γ σ s.heap)(hi:ft.nt[i]?=some (x,k))(hs:Γ[i]?=some sl)(hu:sl≠.un)
  (h:∀v,RelS σ v sl→Q v s):wpAny M A (loadName env x) Q E s:=by
 have hm:=F.ok.kinds _ (List.mem_of_getElem? hi)
 have hodd:=F.ok.odd x (List.mem_append_left _ (List.mem_map.mpr ⟨_,List.mem_of_getElem? hi,rfl⟩))
 cases k with
 | l=>
  obtain⟨m,hn,hv⟩:=F.loc
  obtain⟨v,e,r⟩:=hv i x sl hi hs hu
  exact wpAny_loadName_local F.ok.kind (jv hm) hn e (h v r)
 | c=>
  obtain⟨c,hc,ov,hcell,hv⟩:=F.cel i x _ hi (by intro q;cases q)
  obtain⟨v,rfl,r⟩:=hv sl hs hu
  exact wpAny_loadName_cell F.ok.kind (oz hm) hc hcell (h v r)
 | f=>
  obtain⟨c,hc,ov,hcell,hv⟩:=F.cel i x _ hi (by intro q;cases q)
  obtain⟨v,rfl,r⟩:=hv sl hs hu
  rcases Co hm with hk|hk
  ·exact wpAny_loadName_cell F.ok.kind hk hc hcell (h v r)
  ·exact wpAny_loadName_free F.ok.kind hk hc hcell (h v r) hodd.2
theorem rX{i j:Nat}{x:Str}{k k':VK}(F:l8 ft env)(hi:ft.nt[i]?=some (x,k))(hj:ft.nt[j]?=some (x,k')):i=j:=by
 have h1:(ft.nt.map (·.1))[i]?=some x:=by simp[hi]
 have h2:(ft.nt.map (·.1))[j]?=some x:=by simp[hj]
 obtain⟨l1,e1⟩:=List.getElem?_eq_some_iff.mp h1
 obtain⟨l2,e2⟩:=List.getElem?_eq_some_iff.mp h2
 exact(List.getElem_inj F.nodup).mp (e1.trans e2.symm)
theorem g8{i j:Nat}{sl sl':Slot}(h:(Γ.set i sl)[j]?=some sl'):(i=j∧sl'=sl)∨(i≠j∧Γ[j]?=some sl'):=by
 by_cases e:i=j
 ·subst e
  rw[List.getElem?_set_self']at h
  cases q:Γ[i]? with
  | none=>rw[q]at h;cases h
  | some _=>rw[q]at h;cases h;exact .inl ⟨rfl,rfl⟩
 ·rw[List.getElem?_set_ne e]at h
  exact .inr ⟨e,h⟩
theorem cR{i:Nat}{x:Str}{k:VK}{sl:Slot}{v:Value}{Q:Unit→Shared→Prop}(I:Inv T σ s)(F:Frm ft env Γ σ s.heap)(hi:ft.nt[i]?=some (x,k))(hk:k≠.f)(hv:RelS σ v sl)
  (h:∀s',Inv T σ s'→Ext (FW ft env) NoG σ s σ s'→Frm ft env (Γ.set i sl) σ s'.heap→Q () s'):wpAny M A (storeName env x v) Q E s:=by
 have hm:=F.ok.kinds _ (List.mem_of_getElem? hi)
 cases k with
 | f=>exact absurd rfl hk
 | l=>
  obtain⟨m,hn,hmv⟩:=F.loc
  refine wpAny_storeName_local (jv hm) hn (λh' hn' hs=>?_) (by rw[F.ok.kind];rfl)
  have keep:∀a o,s.heap.get? a=some o→¬(a=env.locals)→h'.get? a=some o:=λa o e ha=>(hs.2 a ha).trans e
  have offc:∀{j:Nat} {y:Str} {k:VK} {c:Addr},ft.nt[j]?=some (y,k)→k≠.l→env.cells.lookup y=some c→c≠env.locals:=by
   rintro j y k c e hk' hc rfl
   obtain⟨c',hc',ov,⟨o,ho',hd⟩,_⟩:=F.cel j y k e hk'
   rw[hc]at hc';cases hc'
   obtain⟨o2,es,ep,ho2,hd2,_⟩:=hn
   rw[ho']at ho2;cases ho2
   rw[hd]at hd2;cases hd2
  refine h _ (I.heap (W:=λa=>a=env.locals) keep λa e=>e▸⟨F.offL.2,F.offL.1⟩) (Ext.heap λa o e hw=>keep a o e λq=>hw (.inl q))
   ⟨F.ok,by rw[List.length_set];exact F.len,⟨_,hn',λj y sl' e1 e2 e3=>?_⟩,λj y k e hk'=>?_,F.offL,F.offC,F.apart⟩
  ·rcases g8 e2 with⟨rfl,rfl⟩|⟨hne,e2⟩
   ·rw[hi]at e1;cases e1
    exact⟨v,if_pos rfl,hv⟩
   ·obtain⟨v',hv',r⟩:=hmv j y sl' e1 e2 e3
    refine⟨v',?_,r⟩
    rw[if_neg];exact hv'
    rintro rfl;exact hne (rX F.ok hi e1)
  ·obtain⟨c,hc,ov,hcell,hv'⟩:=F.cel j y k e hk'
   refine⟨c,hc,ov,hcell.sameBut hs (offc e hk' hc),λsl' e2 e3=>?_⟩
   rcases g8 e2 with⟨rfl,rfl⟩|⟨hne,e2⟩
   ·rw[hi]at e;cases e;exact absurd rfl hk'
   ·exact hv' sl' e2 e3
 | c=>
  obtain⟨c,hc,ov,hcell,_⟩:=F.cel i x _ hi (by intro q;cases q)
  refine wpAny_storeName_cell F.ok.kind (oz hm) hc hcell (λh' hcell' hs=>?_)
  have offc:=F.offC i x _ c hi (by intro q;cases q) hc
  have keep:∀a o,s.heap.get? a=some o→¬(a=c)→h'.get? a=some o:=λa o e ha=>(hs.2 a ha).trans e
  obtain⟨m,hn,hmv⟩:=F.loc
  have hLc:env.locals≠c:=by
   rintro rfl
   obtain⟨o,ho,hd⟩:=hcell
   obtain⟨o2,es,ep,ho2,hd2,_⟩:=hn
   rw[ho]at ho2;cases ho2
   rw[hd]at hd2;cases hd2
  have I':Inv T σ { s with heap:=h',toks:=s.toks }:=I.heap (W:=λa=>a=c) keep λa e=>e▸⟨offc.2,offc.1⟩
  refine h { s with heap:=h',toks:=s.toks } I' (Ext.heap λa o e hw=>keep a o e λq=>hw (.inr ⟨i,x,hi,q▸hc⟩))
   ⟨F.ok,by rw[List.length_set];exact F.len,⟨m,hn.sameBut hs hLc,λj y sl' e1 e2 e3=>?_⟩,λj y k e hk'=>?_,F.offL,F.offC,F.apart⟩
  ·rcases g8 e2 with⟨rfl,rfl⟩|⟨hne,e2⟩
   ·rw[hi]at e1;cases e1
   ·exact hmv j y sl' e1 e2 e3
  ·by_cases hij:i=j
   ·subst hij
    rw[hi]at e;cases e
    refine⟨c,hc,some v,hcell',λsl' e2 e3=>?_⟩
    rcases g8 e2 with⟨_,rfl⟩|⟨hne,e2⟩
    ·exact⟨v,rfl,hv⟩
    ·exact absurd rfl hne
   ·obtain⟨c2,hc2,ov2,hcell2,hv2⟩:=F.cel j y k e hk'
    have hcc:c2≠c:=λq=>F.apart i j x y k c hi e hk' hij hc (q▸hc2)
    refine⟨c2,hc2,ov2,hcell2.sameBut hs hcc,λsl' e2 e3=>?_⟩
    rcases g8 e2 with⟨q,_⟩|⟨_,e2⟩
    ·exact absurd q hij
    ·exact hv2 sl' e2 e3
theorem dy{x:Str}{v:Value}{Q:Value→Shared→Prop}(I:Inv T σ s)(F:Frm ft env Γ σ s.heap)(hx:x∈ft.gt)(hv:T.mg x=some v)(h:Q v s):wpAny M A (loadName env x) Q E s:=by
 have hk:=F.ok.gl x hx
 unfold loadName
 simp only[Env.blockKind,F.ok.kind,hk,ScopeKind.isAnnotationScope,Bool.false_and,Bool.false_eq_true,if_false]
 unfold loadGlobal
 rw[F.ok.glob]
 refine wpAny_bind (wpAny_nsGet (I.top.gl.keeps I.sub) ?_)
 rw[hv]
 exact wpAny_pure h
theorem bY{x:Str}{v:Value}{Q:Value→Shared→Prop}(I:Inv T σ s)(F:Frm ft env Γ σ s.heap)(hx:x∈ft.gt)(hn:T.mg x=none)(hv:T.mb x=some v)(h:Q v s):wpAny M A (loadName env x) Q E s:=by
 have hk:=F.ok.gl x hx
 unfold loadName
 simp only[Env.blockKind,F.ok.kind,hk,ScopeKind.isAnnotationScope,Bool.false_and,Bool.false_eq_true,if_false]
 unfold loadGlobal
 rw[F.ok.glob,F.ok.blt]
 refine wpAny_bind (wpAny_nsGet (I.top.gl.keeps I.sub) ?_)
 rw[hn]
 refine wpAny_bind (wpAny_nsGet (I.top.bl.keeps I.sub) ?_)
 rw[hv]
 exact wpAny_pure h
end
end Mine
namespace Mine
structure Cx where
 prog:Program
 w:World
 mg:Str→Option Value
 mb:Str→Option Value
 g0:Heap
noncomputable abbrev Cx.Inv(X:Cx):=Mine.Inv ⟨X.mg,X.mb,X.g0⟩
noncomputable abbrev Cx.M(X:Cx):Model:=model X.prog X.w
noncomputable abbrev NoE:Value→Shared→Prop:=λ_ _=>False
noncomputable abbrev PE:=List Slot→List Cell→Option (D×List Cell)
noncomputable abbrev PL:=List Slot→List Cell→Option (List D×List Cell)
noncomputable abbrev PB:=List Slot→List Cell→Option (Bool×List Cell)
noncomputable def PostE(X:Cx)(σ:Sg)(s:Shared)(d:D)(c':List Cell)(v:Value)(s':Shared):Prop:=
 ∃σ',σ'.sto=c'∧X.Inv σ' s'∧Ext NoW NoG σ s σ' s'∧Rel σ'.g v d
noncomputable def PostL(X:Cx)(σ:Sg)(s:Shared)(ds:List D)(c':List Cell)(vs:List Value)(s':Shared):Prop:=
 ∃σ',σ'.sto=c'∧X.Inv σ' s'∧Ext NoW NoG σ s σ' s'∧RelAll σ'.g vs ds
noncomputable def PostB(X:Cx)(σ:Sg)(s:Shared)(b:Bool)(c':List Cell)(x:Bool)(s':Shared):Prop:=
 x=b∧∃σ',σ'.sto=c'∧X.Inv σ' s'∧Ext NoW NoG σ s σ' s'
structure Room (A:Around) (n:Nat):Prop where
 hand:A.handled=none
 depth:A.depth+n≤900
 units:A.units+16*n≤9000
theorem Room.le{A:Around}{n m:Nat}(h:Room A n)(k:m≤n):Room A m:=⟨h.hand,by have:=h.depth;(first|lia|omega),by have:=h.units;(first|lia|omega)⟩
theorem Room.in1{A:Around}{n:Nat}(h:Room A (n+1)):Room A.in1 n:=⟨h.hand,by have:=h.depth;simp;(first|lia|omega),by have:=h.units;simp;(first|lia|omega)⟩
theorem Room.deeper{A:Around}{n:Nat}{env:Env}(h:Room A (n+1)):Room (A.deeper env) n:=
 ⟨h.hand,by have:=h.depth;show A.depth+1+n≤900;(first|lia|omega),by have:=h.units;show A.units+3+16*n≤9000;(first|lia|omega)⟩
noncomputable def SoundE(X:Cx)(A:Around)(ft:FT)(env:Env)(e:Expr)(p:PE):Prop:=
 ∀Γ σ s d c',X.Inv σ s→Frm ft env Γ σ s.heap→p Γ σ.sto=some (d,c')→wpAny X.M A (eval e env) (PostE X σ s d c') NoE s
noncomputable def SoundB(X:Cx)(A:Around)(ft:FT)(env:Env)(e:Expr)(p:PB):Prop:=
 ∀Γ σ s d c',X.Inv σ s→Frm ft env Γ σ s.heap→p Γ σ.sto=some (d,c')→wpAny X.M A (isTrue e env (eval e env)) (PostB X σ s d c') NoE s
noncomputable def SoundL(X:Cx)(A:Around)(ft:FT)(env:Env)(pos:Pos)(es:List Expr)(p:PL):Prop:=
 ∀Γ σ s d c',X.Inv σ s→Frm ft env Γ σ s.heap→p Γ σ.sto=some (d,c')→wpAny X.M A (spliced (backTo pos (starEach es env))) (PostL X σ s d c') NoE s
section
variable{X:Cx}{A:Around}{ft:FT}{env:Env}{e:Expr}{Γ:List Slot}{σ:Sg}{s:Shared}{d:D}{c':List Cell}
theorem SoundE.use{p:PE}{Q:Value→Shared→Prop}(h:SoundE X A ft env e p)(I:X.Inv σ s)(F:Frm ft env Γ σ s.heap)(hp:p Γ σ.sto=some (d,c'))
  (k:∀v σ' s',σ'.sto=c'→X.Inv σ' s'→Ext NoW NoG σ s σ' s'→Frm ft env Γ σ' s'.heap→Rel σ'.g v d→Q v s'):wpAny X.M A (eval e env) Q NoE s:=
 wpAny_mono (h Γ σ s d c' I F hp) (λv s' ⟨σ',h1,h2,h3,h4⟩=>k v σ' s' h1 h2 h3 (F.ext h3) h4) λ_ _ f=>f
theorem SoundB.use{p:PB}{b:Bool}{Q:Bool→Shared→Prop}(h:SoundB X A ft env e p)(I:X.Inv σ s)(F:Frm ft env Γ σ s.heap)(hp:p Γ σ.sto=some (b,c'))
  (k:∀σ' s',σ'.sto=c'→X.Inv σ' s'→Ext NoW NoG σ s σ' s'→Frm ft env Γ σ' s'.heap→Q b s'):wpAny X.M A (isTrue e env (eval e env)) Q NoE s:=
 wpAny_mono (h Γ σ s b c' I F hp) (λv s' ⟨hb,σ',h1,h2,h3⟩=>hb▸k σ' s' h1 h2 h3 (F.ext h3)) λ_ _ f=>f
theorem SoundL.use{p:PL}{es:List Expr}{pos:Pos}{ds:List D}{Q:List Value→Shared→Prop}(h:SoundL X A ft env pos es p)(I:X.Inv σ s)(F:Frm ft env Γ σ s.heap)(hp:p Γ σ.sto=some (ds,c'))
  (k:∀vs σ' s',σ'.sto=c'→X.Inv σ' s'→Ext NoW NoG σ s σ' s'→Frm ft env Γ σ' s'.heap→RelAll σ'.g vs ds→Q vs s'):wpAny X.M A (spliced (backTo pos (starEach es env))) Q NoE s:=
 wpAny_mono (h Γ σ s ds c' I F hp) (λv s' ⟨σ',h1,h2,h3,h4⟩=>k v σ' s' h1 h2 h3 (F.ext h3) h4) λ_ _ f=>f
theorem PostE.here{v:Value}{tk:Nat}(I:X.Inv σ s)(r:Rel σ.g v d)(ht:autoParam (s.toks≤tk) aL):PostE X σ s d σ.sto v { s with toks:=tk }:=
 ⟨σ,rfl,I.toks ht,Ext.heap λ_ _ e _=>e,r⟩
theorem PostE.same{v:Value}(I:X.Inv σ s)(r:Rel σ.g v d):PostE X σ s d σ.sto v s:=⟨σ,rfl,I,.refl _ _ _ _,r⟩
theorem PostE.trans{σ₁:Sg}{s₁ s₂:Shared}{v:Value}(I:X.Inv σ₁ s₁)(x:Ext NoW NoG σ s σ₁ s₁)(h:PostE X σ₁ s₁ d c' v s₂):PostE X σ s d c' v s₂:=by
 obtain⟨σ',h1,h2,h3,h4⟩:=h
 exact⟨σ',h1,h2,x.trans I h3,h4⟩
theorem PostL.trans{σ₁:Sg}{s₁ s₂:Shared}{ds:List D}{v:List Value}(I:X.Inv σ₁ s₁)(x:Ext NoW NoG σ s σ₁ s₁)(h:PostL X σ₁ s₁ ds c' v s₂):PostL X σ s ds c' v s₂:=by
 obtain⟨σ',h1,h2,h3,h4⟩:=h
 exact⟨σ',h1,h2,x.trans I h3,h4⟩
theorem PostB.trans{σ₁:Sg}{s₁ s₂:Shared}{b x:Bool}(I:X.Inv σ₁ s₁)(k:Ext NoW NoG σ s σ₁ s₁)(h:PostB X σ₁ s₁ b c' x s₂):PostB X σ s b c' x s₂:=by
 obtain⟨h0,σ',h1,h2,h3⟩:=h
 exact⟨h0,σ',h1,h2,k.trans I h3⟩
theorem PostE.newL{vs:List Value}{ds:List D}{tk:Nat}(I:X.Inv σ s)(r:RelAll σ.g vs ds)(ht:autoParam (s.toks≤tk) aL):PostE X σ s (.lst ds) σ.sto (.ref s.heap.objs.size) { s with heap:=s.heap.push (cG vs.toArray 0),toks:=tk }:=by
 obtain⟨I',x,e⟩:=kQ I (o:=cG vs.toArray 0) rfl tk ht
 exact⟨⟨cN σ.g s.heap.objs.size (cG vs.toArray 0),σ.own,σ.sto⟩,rfl,I',x,.lst e (r.mono x.le)⟩
theorem PostE.newT{vs:List Value}{ds:List D}{tk:Nat}(I:X.Inv σ s)(r:RelAll σ.g vs ds)(ht:autoParam (s.toks≤tk) aL):PostE X σ s (.tup ds) σ.sto (.ref s.heap.objs.size) { s with heap:=s.heap.push (fR vs.toArray 0),toks:=tk }:=by
 obtain⟨I',x,e⟩:=kQ I (o:=fR vs.toArray 0) rfl tk ht
 exact⟨⟨cN σ.g s.heap.objs.size (fR vs.toArray 0),σ.own,σ.sto⟩,rfl,I',x,.tup e (r.mono x.le)⟩
theorem jK{o:Obj}{tk:Nat}(I:X.Inv σ s)(ht:autoParam (s.toks≤tk) aL):X.Inv σ { s with heap:=s.heap.push o,toks:=tk }∧Ext NoW NoG σ s σ { s with heap:=s.heap.push o,toks:=tk }:=
 ⟨Mine.Inv.heap (W:=NoW) I (λ_ _ e _=>Heap.get?_push_of_some _ e) (λ_ h=>h.elim) ht,Ext.heap λ_ _ e _=>Heap.get?_push_of_some _ e⟩
noncomputable def ah(i:Int):PE:=λ_ c=>some (.int i,c)
noncomputable def aZ(x:Str):PE:=λ_ c=>some (.str x,c)
noncomputable def b7(b:Bool):PE:=λ_ c=>some (.bool b,c)
noncomputable def fN:PE:=λ_ c=>some (.none,c)
theorem aC{i:Int}{k:Nat}{pos:Pos}:SoundE X A ft env (.Constant (.int i) k pos) (ah i):=λΓ σ s d c' I F h=>by
 cases h;exact wpAny_Constant_int (PostE.here I (.int _ _))
theorem DU{x:Str}{k:Nat}{pos:Pos}:SoundE X A ft env (.Constant (.str x) k pos) (aZ x):=λΓ σ s d c' I F h=>by
 cases h;exact wpAny_Constant_str (PostE.here I (.str _ _))
theorem dX{b:Bool}{k:Nat}{pos:Pos}:SoundE X A ft env (.Constant (.bool b) k pos) (b7 b):=λΓ σ s d c' I F h=>by
 cases h;exact wpAny_Constant_bool (PostE.same I (.bool _))
theorem lQ{k:Nat}{pos:Pos}:SoundE X A ft env (.Constant .none k pos) fN:=λΓ σ s d c' I F h=>by
 cases h;exact wpAny_Constant_none (PostE.same I .none)
noncomputable def aa(i:Nat):PE:=λΓ c=>match Γ[i]? with
 | some (.val d)=>some (d,c)
 | some (.ref k)=>match c[k]? with
  | some (.fz ds)=>some (.lst ds,c)
  | some (.lst ds)=>some (.lst ds,c.set k (.fz ds))
  | _=>none
 | _=>none
theorem freeze{k:Nat}{ds:List D}{a:Addr}(I:X.Inv σ s)(hc:σ.sto[k]?=some (.lst ds))(ha:σ.own[k]?=some a) :
  ∃g',Le σ.g g'∧X.Inv ⟨g',σ.own,σ.sto.set k (.fz ds)⟩ s∧Ext NoW NoG σ s ⟨g',σ.own,σ.sto.set k (.fz ds)⟩ s∧Rel g' (.ref a) (.lst ds):=by
 have ok:=I.cells k a _ ha hc
 obtain⟨vs,n,e,r⟩:=ok
 have hn:=I.off k a _ ha hc rfl
 have hle:Le σ.g (cN σ.g a (cG vs.toArray n)):=.put hn
 have hrel:Rel (cN σ.g a (cG vs.toArray n)) (.ref a) (.lst ds):=.lst (dQ rfl) (r.mono hle)
 refine⟨cN σ.g a (cG vs.toArray n),hle,⟨λb o' q=>?_,by rw[List.length_set];exact I.len,I.nodup,λj b c e1 e2=>?_,λj b c e1 e2 e3=>?_,I.top.mono hle,I.bare,I.tk⟩,⟨hle,⟨[],by simp,by simp⟩,λb o' q h=>?_,λ_ _ e _ _=>e,λ_ _ e _=>e,rfl⟩,hrel⟩
 ·by_cases hb:b=a
  ·subst hb;rw[dQ rfl]at q;cases q;exact e
  ·rw[bx hb]at q;exact I.sub b o' q
 ·by_cases hj:k=j
  ·subst hj
   dsimp only at e1 e2
   rw[ha]at e1;cases e1
   rw[List.getElem?_set_self (List.getElem?_eq_some_iff.mp hc).1]at e2;cases e2
   exact hrel
  ·dsimp only at e1 e2
   rw[List.getElem?_set_ne hj]at e2
   exact(I.cells j b c e1 e2).mono hle λ_=>rfl
 ·by_cases hj:k=j
  ·subst hj
   dsimp only at e1 e2
   rw[List.getElem?_set_self (List.getElem?_eq_some_iff.mp hc).1]at e2;cases e2
   cases e3
  ·dsimp only at e1 e2
   rw[List.getElem?_set_ne hj]at e2
   have hb:b≠a:=by
    rintro rfl
    obtain⟨l1,q1⟩:=List.getElem?_eq_some_iff.mp ha
    obtain⟨l2,q2⟩:=List.getElem?_eq_some_iff.mp e1
    exact hj ((List.getElem_inj I.nodup).mp (q1.trans q2.symm))
   show (cN σ.g a _).get? b=none
   rw[bx hb];exact I.off j b c e1 e2 e3
 ·by_cases hb:b=a
  ·subst hb;exact .inr (.inl (List.mem_of_getElem? ha))
  ·have:(cN σ.g a (cG vs.toArray n)).get? b=some o':=q
   rw[bx hb,h]at this;cases this
theorem eval_Name{M:Model}{E:Value→Shared→Prop}{x:Str}{pos:Pos}{Q:Value→Shared→Prop}(hx:(x==("__debug__" : Str))=false)(h:wpAny M A (loadName env x) Q E s):wpAny M A (eval (.Name x pos) env) Q E s:=wpAny_Name h hx
theorem aq{i:Nat}{x:Str}{k:VK}{pos:Pos}(hi:ft.nt[i]?=some (x,k)):SoundE X A ft env (.Name x pos) (aa i):=λΓ σ s d c' I F h=>by
 have hx:=(F.ok.odd x (List.mem_append_left _ (List.mem_map.mpr ⟨_,List.mem_of_getElem? hi,rfl⟩))).1
 unfold aa at h
 (first|(refine iE h ?_ ?_<;>(clear h;intro _ h))|split at h)
 ·rename_i d' e
  cases h
  exact eval_Name hx (cO F hi e (by intro q;cases q) λv r=>PostE.same I r)
 ·rename_i j e
  refine eval_Name hx (cO F hi e (by intro q;cases q) λv r=>?_)
  obtain⟨a,ha,rfl⟩:=r
  (first|(refine iE h ?_ ?_<;>(clear h;intro _ h))|split at h)
  ·rename_i ds q
   cases h
   exact PostE.same I (I.cells j a _ ha q)
  ·rename_i ds q
   cases h
   obtain⟨g',hle,I',x',r⟩:=freeze I q ha
   exact⟨_,rfl,I',x',r⟩
  ·cases h
 ·cases h
noncomputable def mS(v:Value):PE:=λ_ c=>some (.obj v,c)
theorem CL{x:Str}{pos:Pos}{v:Value}(hx:x∈ft.gt)(hv:X.mg x=some v):SoundE X A ft env (.Name x pos) (mS v):=λΓ σ s d c' I F h=>by
 cases h
 exact eval_Name (F.ok.odd x (List.mem_append_right _ hx)).1 (dy I F hx hv (PostE.same I (.obj _)))
theorem pQ{x:Str}{pos:Pos}{i:Int}{t:Tok}(hx:x∈ft.gt)(hv:X.mg x=some (.int i t)):SoundE X A ft env (.Name x pos) (ah i):=λΓ σ s d c' I F h=>by
 cases h
 exact eval_Name (F.ok.odd x (List.mem_append_right _ hx)).1 (dy I F hx hv (PostE.same I (.int _ _)))
noncomputable def aw:PL:=λ_ c=>some ([],c)
noncomputable def ag(p:PE)(ps:PL):PL:=λΓ c=>(p Γ c).bind λ(d,c1)=>(ps Γ c1).bind λ(ds,c2)=>some (d::ds,c2)
theorem aH{pos:Pos}:SoundL X A ft env pos [] aw:=λΓ σ s d c' I F h=>by
 cases h;exact wpAny_items_nil ⟨σ,rfl,I,.refl _ _ _ _,.nil⟩
theorem ar{pos:Pos}{es:List Expr}{p:PE}{ps:PL}(h1:SoundE X A ft env e p)(h2:SoundL X A ft env pos es ps)(he:autoParam (∀env,starEach (e::es) env=(false,eval e env)::starEach es env) aR) :
  SoundL X A ft env pos (e::es) (ag p ps):=λΓ σ s d c' I F h=>by
 unfold ag at h
 (refine bE2 h ?_;(try clear h);intro d1 c1 e1 h)
 (refine bE2 h ?_;(try clear h);intro ds c2 e2 h)
 cases h
 refine wpAny_items_cons (h1.use I F e1 λv σ1 s1 q1 I1 x1 F1 r1=>?_) (he env)
 subst q1
 refine h2.use I1 F1 e2 λvs σ2 s2 q2 I2 x2 F2 r2=>?_
 exact⟨σ2,q2,I2,x1.trans I1 x2,.cons (r1.mono x2.le) r2⟩
noncomputable def aK(ps:PL):PE:=λΓ c=>(ps Γ c).bind λ(ds,c1)=>if ds.length≤100000 then some (.lst ds,c1)else none
noncomputable def de(ps:PL):PE:=λΓ c=>(ps Γ c).bind λ(ds,c1)=>if ds.length≤100000 then some (.tup ds,c1)else none
theorem bT{n:Nat}(h:n≤100000):n≤sizeLine:=Nat.le_trans h (by decide)
theorem bI{pos:Pos}{es:List Expr}{ps:PL}(h1:SoundL X A ft env pos es ps):SoundE X A ft env (.List es pos) (aK ps):=λΓ σ s d c' I F h=>by
 (refine bE2 h ?_;(try clear h);intro ds c1 e1 h)
 dsimp only at h
 (first|(refine iE h ?_ ?_<;>(clear h;intro _ h))|split at h)
 ·rename_i hl
  cases h
  refine wpAny_List (h1.use I F e1 λvs σ1 s1 q1 I1 x1 F1 r1=>⟨by rw[r1.length];exact bT hl,?_⟩)
  subst q1
  exact PostE.trans I1 x1 (PostE.newL I1 r1)
 ·cases h
theorem eN{pos:Pos}{k:Nat}{es:List Expr}{ps:PL}(h1:SoundL X A ft env pos es ps):SoundE X A ft env (.Tuple es k pos) (de ps):=λΓ σ s d c' I F h=>by
 (refine bE2 h ?_;(try clear h);intro ds c1 e1 h)
 dsimp only at h
 (first|(refine iE h ?_ ?_<;>(clear h;intro _ h))|split at h)
 ·rename_i hl
  cases h
  refine wpAny_Tuple (h1.use I F e1 λvs σ1 s1 q1 I1 x1 F1 r1=>⟨by rw[r1.length];exact bT hl,?_⟩)
  subst q1
  exact PostE.trans I1 x1 (PostE.newT I1 r1)
 ·cases h
end
end Mine
end
section
open PySem PySem.Calls PySem.Spec PyProof PyProof.Rows PySem.W
set_option maxRecDepth 20000
namespace Mine
mutual
noncomputable def D.toPy:D→Option PyData
 | .none=>some .none
 | .bool b=>some (.bool b)
 | .int i=>some (.int i)
 | .str x=>if PyData.strOk x then some (.str x)else Option.none
 | .tup ds=>(cZ ds).map .tuple
 | .lst ds=>(cZ ds).map .list
 | .obj _=>Option.none
noncomputable def cZ:List D→Option (List PyData)
 | []=>some []
 | d::ds=>match D.toPy d,cZ ds with
  | some p,some ps=>some (p::ps)
  | _,_=>Option.none
end
section
variable{g:Heap}{p:PyData}{ps:List PyData}{a:Addr}{n:Nat}{v:Value}{d:D}{vs:List Value}{ds:List D}
theorem tJ(h:D.none.toPy=some p):∃as,Reads g .none p as:=Option.some.inj h▸⟨_,.none⟩
theorem sF(b:Bool)(h:(D.bool b).toPy=some p):∃as,Reads g (.bool b) p as:=Option.some.inj h▸⟨_,.bool b⟩
theorem ya(i:Int)(t:Tok)(h:(D.int i).toPy=some p):∃as,Reads g (.int i t) p as:=Option.some.inj h▸⟨_,.int i t⟩
theorem yH(x:Str)(t:Tok)(h:(D.str x).toPy=some p):∃as,Reads g (.str x t) p as:=
 iE (show (if PyData.strOk x then some (PyData.str x)else none)=some p from h) (λ_ h=>Option.some.inj h▸⟨_,.str x t⟩) λ_ h=>nE h
theorem yO(e:g.get? a=some (fR vs.toArray n))(ih:∀{ps:List PyData},cZ ds=some ps→∃as,ReadsAll g vs ps as)(h:(D.tup ds).toPy=some p):∃as,Reads g (.ref a) p as:=
 mE (show (cZ ds).map .tuple=some p from h) λps hp h=>h▸(ih hp).elim λas q=>⟨_,Reads.tuple e rfl rfl (by simpa using q)⟩
theorem y8(e:g.get? a=some (cG vs.toArray n))(ih:∀{ps:List PyData},cZ ds=some ps→∃as,ReadsAll g vs ps as)(h:(D.lst ds).toPy=some p):∃as,Reads g (.ref a) p as:=
 mE (show (cZ ds).map .list=some p from h) λps hp h=>h▸(ih hp).elim λas q=>⟨_,Reads.list e rfl rfl (by simpa using q)⟩
theorem xm(h:cZ []=some ps):∃as,ReadsAll g [] ps as:=Option.some.inj h▸⟨_,.nil⟩
theorem tK(h1:∀{p:PyData},d.toPy=some p→∃as,Reads g v p as)(h2:∀{ps:List PyData},cZ ds=some ps→∃as,ReadsAll g vs ps as)(h:cZ (d::ds)=some ps):∃as,ReadsAll g (v::vs) ps as:=by
 have h:(match d.toPy,cZ ds with
  | some p,some ps=>some (p::ps)
  | _,_=>none)=some ps:=h
 (first|(refine iE h ?_ ?_<;>(clear h;intro _ h))|split at h)
 ·rename_i p ps e1 e2
  cases h
  obtain⟨as,q⟩:=h1 e1
  obtain⟨bs,q2⟩:=h2 e2
  exact⟨_,.cons q q2⟩
 ·exact nE h
theorem Rel.reads(r:Rel g v d)(h:d.toPy=some p):∃as,Reads g v p as:=
 Rel.rec (motive_1:=λv d _=>∀{p:PyData},d.toPy=some p→∃as,Reads g v p as) (motive_2:=λvs ds _=>∀{ps:List PyData},cZ ds=some ps→∃as,ReadsAll g vs ps as) (λh=>tJ h) (λb _ h=>sF b h) (λi t _ h=>ya i t h) (λx t _ h=>yH x t h) (λe _ ih _ h=>yO e ih h) (λe _ ih _ h=>y8 e ih h) (λ_ _ h=>nE h) (λh=>xm h) (λ_ _ h1 h2 _ h=>tK h1 h2 h) r h
theorem RelAll.reads(r:RelAll g vs ds)(h:cZ ds=some ps):∃as,ReadsAll g vs ps as:=
 RelAll.rec (motive_1:=λv d _=>∀{p:PyData},d.toPy=some p→∃as,Reads g v p as) (motive_2:=λvs ds _=>∀{ps:List PyData},cZ ds=some ps→∃as,ReadsAll g vs ps as) (λh=>tJ h) (λb _ h=>sF b h) (λi t _ h=>ya i t h) (λx t _ h=>yH x t h) (λe _ ih _ h=>yO e ih h) (λe _ ih _ h=>y8 e ih h) (λ_ _ h=>nE h) (λh=>xm h) (λ_ _ h1 h2 _ h=>tK h1 h2 h) r h
end
noncomputable def dEq(a b:D):Option Bool:=match a.toPy,b.toPy with
 | some p,some q=>if SeqAt.shaped p && SeqAt.shaped q then some (PyData.eqv p q)else none
 | _,_=>none
noncomputable def dIn(a:D)(ds:List D):Option Bool:=match a.toPy,cZ ds with
 | some p,some qs=>if PyData.canLayAll0 qs && p.canLay0 && decide (PyData.depthAll qs≤64)then some (qs.any λy=>PyData.eqv y p)else none
 | _,_=>none
noncomputable def onI{α:Type}(b:D)(f:Int→Option α):Option α:=match b with|.int j=>f j|_=>none
noncomputable def onS{α:Type}(b:D)(f:Str→Option α):Option α:=match b with|.str j=>f j|_=>none
noncomputable def onL{α:Type}(b:D)(f:List D→Option α):Option α:=match b with|.lst j=>f j|_=>none
noncomputable def onB{α:Type}(b:D)(f:Bool→Option α):Option α:=match b with|.bool j=>f j|_=>none
noncomputable def onR{α:Type}(b:D)(f:Addr→Option α):Option α:=match b with|.obj (.ref j)=>f j|_=>none
section
variable{g:Heap}{α:Type}{b:D}{v:Value}{r:α}{G:Value→Prop}
@[elab_as_elim] theorem ia {f:Int→Option α} (rb:Rel g v b) (h:onI b f=some r) (k:∀j u,f j=some r→G (.int j u)):G v:=by
 cases rb with|int j u=>exact k j u h|_=>exact nE h
@[elab_as_elim] theorem ox {f:Str→Option α} (rb:Rel g v b) (h:onS b f=some r) (k:∀j u,f j=some r→G (.str j u)):G v:=by
 cases rb with|str j u=>exact k j u h|_=>exact nE h
@[elab_as_elim] theorem qS {f:List D→Option α} (rb:Rel g v b) (h:onL b f=some r) (k:∀a vs n ds,g.get? a=some (cG vs.toArray n)→RelAll g vs ds→f ds=some r→G (.ref a)):G v:=by
 cases rb with|lst e q=>exact k _ _ _ _ e q h|_=>exact nE h
theorem z2{f:List D→Option α}{G:Prop}(h:onL b f=some r)(k:∀ds,b=.lst ds→f ds=some r→G):G:=by
 cases b with|lst ds=>exact k ds rfl h|_=>exact nE h
@[elab_as_elim] theorem CV {f:Bool→Option α} (rb:Rel g v b) (h:onB b f=some r) (k:∀j,f j=some r→G (.bool j)):G v:=by
 cases rb with|bool j=>exact k j h|_=>exact nE h
@[elab_as_elim] theorem Dn {f:Addr→Option α} (rb:Rel g v b) (h:onR b f=some r) (k:∀j,f j=some r→G (.ref j)):G v:=by
 cases rb with
 | obj v=>cases v with|ref j=>exact k j h|_=>exact nE h
 | _=>exact nE h
end
noncomputable def iD(op:Operator)(a b:D):Option D:=match op with
 | .Add=>match a with
  | .int a=>onI b λb=>some (.int (a+b))
  | .str x=>onS b λy=>if x.length+y.length≤100000 then some (.str (x++y))else none
  | .lst xs=>onL b λys=>if xs.length+ys.length≤100000 then some (.lst (xs++ys))else none
  | _=>none
 | .Sub=>onI a λa=>onI b λb=>some (.int (a - b))
 | .Mult=>match a with
  | .int a=>onI b λb=>if a.natAbs<2 ^ 64 then some (.int (a*b))else none
  | .lst xs=>onI b λn=>if n<100000∧-100000<n∧xs.length*n.toNat≤100000 then some (.lst (List.replicate n.toNat xs).flatten)else none
  | _=>none
 | .FloorDiv=>onI a λa=>onI b λb=>if b≠0∧b.natAbs<1073741824 then some (.int (a.fdiv b))else none
 | .Mod=>onI a λa=>onI b λb=>if b≠0 then some (.int (a.fmod b))else none
 | .Pow=>onI a λa=>onI b λb=>if 0≤b∧b≤1000000∧a.natAbs<2 ^ 64 then some (.int (a ^ b.toNat))else none
 | .LShift=>onI a λa=>onI b λb=>if 0≤b∧b≤1000000∧a.natAbs<2 ^ 64 then some (.int (a*2 ^ b.toNat))else none
 | .BitAnd=>onI a λa=>onI b λb=>some (.int (Builtin.bitAnd a b))
 | .BitOr=>onI a λa=>onI b λb=>some (.int (Builtin.bitOr a b))
 | .BitXor=>onI a λa=>onI b λb=>some (.int (Builtin.bitXor a b))
 | _=>none
noncomputable def isNone:D→Option Bool
 | .none=>some true
 | .obj v=>some (v==.none)
 | _=>some false
noncomputable def zt{α:Type}(a b:D)(f:Int→Int→α)(e:α):α:=match a with|.int i=>(match b with|.int j=>f i j|_=>e)|_=>e
noncomputable def fy(op:CmpOp)(a b:D):Option Bool:=match op with
 | .Eq=>match a with
  | .int a=>onI b λb=>some (a==b)
  | .str x=>onS b λy=>some (decide (x=y))
  | .lst x=>onL b λy=>dEq (.lst x) (.lst y)
  | _=>none
 | .NotEq=>zt a b (λa b=>some (a != b)) ((dEq a b).map (!·))
 | .Lt=>onI a λa=>onI b λb=>some (decide (a<b))
 | .LtE=>onI a λa=>onI b λb=>some (decide (a≤b))
 | .Gt=>onI a λa=>onI b λb=>some (decide (a > b))
 | .GtE=>onI a λa=>onI b λb=>some (decide (a ≥ b))
 | .NotIn=>onS a λy=>onS b λx=>match y.cps.toList with | [c]=>some (!decide (c∈x.cps.toList))|_=>none
 | .In=>onL b λds=>dIn a ds
 | .Is=>match b with
  | .bool b=>onB a λa=>some (a==b)
  | .none=>isNone a
  | b=>onR a λa=>onR b λb=>if a=b then some true else none
 | .IsNot=>match b with|.none=>(isNone a).map (!·)|_=>none
noncomputable def jM:D→Option Bool
 | .bool b=>some b
 | .int i=>some (i != 0)
 | .str x=>if x.length≤100000 then some ((x.length:Int) != 0)else none
 | _=>none
section
variable{X:Cx}{A:Around}{ft:FT}{env:Env}{Γ:List Slot}{σ:Sg}{s:Shared}{d:D}{c':List Cell}
theorem vy{l:Addr}{items:Array Value}{k:Nat}{x:Int}{u:Tok}{Q:Value→Shared→Prop}{prog:Program}{w:World}{E:Value→Shared→Prop}
  (hl:s.heap.get? l=some { cls:=.type "list",dict:=none,data:=.seq items k,slots:=#[] })
  (hlo:-(2 ^ 63:Int)≤x) (hhi:x<2 ^ 63) (hsz:items.size*x.toNat≤2 ^ 24)
  (h:Q (.ref s.heap.objs.size) { s with heap:=s.heap.push { cls:=.type "list",data:=.seq (List.foldl (λx1 x2=>x1++x2) #[] (List.replicate (if items.isEmpty=true then 0 else x.toNat) items)) } }) :
  wpAny (model prog w) A (binaryOp .Mult (.ref l) (.int x u)) Q E s:=
 wpAny_binaryOp_repeat_ref (T:="list") (U:="int") (by decide) ⟨_,hl,rfl⟩ (λs'=>typeIs_int s' x u) noFill_list_mul F.fills_int_mul F.slot_int_rmul repeat_list F.slot_int_index.lookup
  (call_meets F.slot_int_rmul (typeIs_int s x u) F.entry_int_rmul (F.args_int_rmul_2 _ _) (int___rmul___int_list x u l items k)
   ⟨hl,rfl,⟨_,hl,rfl⟩,call_meets F.slot_list_mul ⟨_,hl,rfl⟩ F.entry_list_mul (F.args_list_mul_2 _ _)
    (AutoListH.list___mul___list_int_3 l items k x u (by simp[Builtin.List.listFitsIndex];(first|lia|omega)) (by(first|lia|omega)) (by simp[Builtin.List.listTooLong,sizeLine];(first|lia|omega)))
    ⟨hl,h⟩⟩)
theorem lH(vs:List Value):∀(n:Nat) (acc:Array Value),List.foldl (λx1 x2=>x1++x2) acc (List.replicate n vs.toArray)=(acc.toList++(List.replicate n vs).flatten).toArray
 | 0,acc=>by simp
 | n+1,acc=>by
  rw[List.replicate_succ,List.foldl_cons,lH vs n,List.replicate_succ,List.flatten_cons]
  simp
theorem RelAll.flat{g:Heap}{vs:List Value}{ds:List D}(r:RelAll g vs ds):∀n:Nat,RelAll g (List.replicate n vs).flatten (List.replicate n ds).flatten
 | 0=>.nil
 | n+1=>by rw[List.replicate_succ,List.replicate_succ,List.flatten_cons,List.flatten_cons];exact r.append (RelAll.flat r n)
theorem qf{x:Str}(h:(x.length==0)=true):x=⟨#[]⟩:=by
 obtain⟨c⟩:=x
 simp[Str.length]at h
 subst h;rfl
theorem Bq{op:Operator}{a b d:D}{va vb:Value}{R:Value→Shared→Prop}(I:X.Inv σ s)(ra:Rel σ.g va a)(rb:Rel σ.g vb b)(h:iD op a b=some d)(k:∀v s',PostE X σ s d σ.sto v s'→R v s') :
  wpAny X.M A (binaryOp op va vb) R NoE s:=by
 have int:∀{op:Operator} {f:Int→Int→Option D},onI a (λa=>onI b λb=>f a b)=some d→(∀i j t u,f i j=some d→wpAny X.M A (binaryOp op (.int i t) (.int j u)) R NoE s)→wpAny X.M A (binaryOp op va vb) R NoE s:=by
  intro op f h q
  refine ia ra h λi t h=>?_
  refine ia rb h λj u h=>?_
  exact q i j t u h
 have out:∀{x t n},D.int x=d→R (.int x t) { s with toks:=s.toks+n }:=λh=>k _ _ (h▸PostE.here I (.int _ _))
 cases op with
 | Add=>cases ra with
  | int i t=>exact ia rb h λj u h=>add_int (out (Option.some.inj h))
  | str x t=>
   refine ox rb h λy u h=>iE h (λhl h=>?_) λ_ h=>nE h
   cases h
   refine P.add_str ?_
   split
   ·rename_i h0
    have:=qf h0
    subst this
    have:(⟨#[]⟩++y:Str)=y:=congrArg Str.mk Array.empty_append
    refine k _ _ ?_;rw[this];exact PostE.same I (.str _ _)
   ·split
    ·rename_i h0
     have:=qf h0
     subst this
     have:(x++⟨#[]⟩:Str)=x:=congrArg Str.mk Array.append_empty
     refine k _ _ ?_;rw[this];exact PostE.same I (.str _ _)
    ·exact⟨by rw[Str.length_append];exact bT hl,k _ _ (PostE.here I (.str _ _))⟩
  | lst e1 r1=>
   refine qS rb h λ_ _ _ _ e2 r2 h=>iE h (λhl h=>?_) λ_ h=>nE h
   cases h
   refine P.add_list (I.sub _ _ e1) (I.sub _ _ e2) ?_ (by simp only[List.size_toArray,r1.length,r2.length];exact bT hl)
   rw[List.append_toArray]
   exact k _ _ (PostE.newL I (r1.append r2))
  | _=>exact nE h
 | Sub=>exact int h λi j t u h=>sub_int (out (Option.some.inj h))
 | Mult=>cases ra with
  | int i t=>exact ia rb h λj u h=>iE h (λhl h=>mul_int (out (Option.some.inj h)) (IntMulOk.of_left (intBits_le hl))) λ_ h=>nE h
  | @lst _ vs _ _ e1 r1=>
   refine ia rb h λn u h=>iE h (λhl h=>?_) λ_ h=>nE h
   cases h
   refine vy (I.sub _ _ e1) (by(first|lia|omega)) (by(first|lia|omega)) (by simp only[List.size_toArray,r1.length];exact Nat.le_trans hl.2.2 (by decide)) ?_
   rw[lH]
   have:(#[]:Array Value).toList++(List.replicate (if vs.toArray.isEmpty=true then 0 else n.toNat) vs).flatten=(List.replicate n.toNat vs).flatten:=by cases vs<;>simp
   rw[this]
   exact k _ _ (PostE.newL I (r1.flat _))
  | _=>exact nE h
 | FloorDiv=>exact int h λi j t u h=>iE h (λhl h=>floordiv_int hl.1 (out (Option.some.inj h)) (.inl (noPylong_small hl.2))) λ_ h=>nE h
 | Mod=>exact int h λi j t u h=>iE h (λhl h=>mod_int' hl (out (Option.some.inj h))) λ_ h=>nE h
 | Pow=>exact int h λi j t u h=>iE h (λhl h=>pow_int_small hl.1 hl.2.1 hl.2.2 (out (Option.some.inj h))) λ_ h=>nE h
 | LShift=>exact int h λi j t u h=>iE h (λhl h=>lshift_int_small hl.1 hl.2.1 hl.2.2 (out (Option.some.inj h))) λ_ h=>nE h
 | BitAnd=>exact int h λi j t u h=>and_int (out (Option.some.inj h))
 | BitOr=>exact int h λi j t u h=>or_int (out (Option.some.inj h))
 | BitXor=>exact int h λi j t u h=>xor_int (out (Option.some.inj h))
 | _=>exact nE h
theorem Ct{op:Operator}{a b d:D}{va vb:Value}(I:X.Inv σ s)(ra:Rel σ.g va a)(rb:Rel σ.g vb b)(h:iD op a b=some d):wpAny X.M A (binaryOp op va vb) (PostE X σ s d σ.sto) NoE s:=Bq I ra rb h λ_ _ q=>q
theorem none_of{g:Heap}{v:Value}{a:D}{b:Bool}(r:Rel g v a)(h:isNone a=some b):(v==.none)=b:=by
 cases r<;>cases h<;>rfl
theorem Bh{x y:D}{va vb:Value}{t:Bool}{Q:Value→Shared→Prop}(hu:A.units+64<cLine)(I:X.Inv σ s)(rx:Rel σ.g va x)(ry:Rel σ.g vb y)(h:dEq x y=some t):(Q (.bool t) s→wpAny X.M A (compareOp .Eq va vb) Q NoE s)∧(Q (.bool !t) s→wpAny X.M A (compareOp .NotEq va vb) Q NoE s):=by
 unfold dEq at h
 (first|(refine iE h ?_ ?_<;>(clear h;intro _ h))|split at h)
 ·rename_i p q e1 e2
  refine iE h (λhs h=>?_) λ_ h=>nE h
  have h:=Option.some.inj h
  obtain⟨as,w1⟩:=(rx.mono I.sub).reads e1
  obtain⟨bs,w2⟩:=(ry.mono I.sub).reads e2
  have hs:=Bool.and_eq_true_iff.mp hs
  exact⟨λk=>eq_dataH w1 w2 hs.1 hs.2 hu (h▸k),λk=>ne_dataH w1 w2 hs.1 hs.2 hu (h▸k)⟩
 ·exact nE h
theorem str_beq(x y:Str):(x.cps.toList==y.cps.toList)=decide (x=y):=by
 by_cases hxy:x=y
 ·subst hxy;simp
 ·rw[decide_eq_false hxy]
  exact beq_eq_false_iff_ne.mpr λhq=>hxy (congrArg Str.mk (Array.ext' hq))
theorem xQ{op:CmpOp}{a b:D}{t:Bool}{va vb:Value}{Q:Value→Shared→Prop}(hr:Room A 8)(I:X.Inv σ s)(ra:Rel σ.g va a)(rb:Rel σ.g vb b)(h:fy op a b=some t)(k:Q (.bool t) s):wpAny X.M A (compareOp op va vb) Q NoE s:=by
 have hu1:A.units+1+64<cLine:=by have:=hr.units;have:cLine=9900:=rfl;(first|lia|omega)
 have hu:A.units+64<cLine:=by(first|lia|omega)
 have int:∀{op:CmpOp} {f:Int→Int→Bool},onI a (λa=>onI b λb=>some (f a b))=some t→(∀i j u w,Q (.bool (f i j)) s→wpAny X.M A (compareOp op (.int i u) (.int j w)) Q NoE s)→wpAny X.M A (compareOp op va vb) Q NoE s:=by
  intro op f h q
  refine ia ra h λi u h=>?_
  refine ia rb h λj w h=>?_
  exact q i j u w (Option.some.inj h▸k)
 have out:∀{x},some x=some t→Q (.bool x) s:=λh=>Option.some.inj h▸k
 cases op with
 | Eq=>cases ra with
  | int i u=>exact ia rb h λj w h=>eq_int (out h)
  | str x u=>exact ox rb h λy w h=>P.eq_str (str_beq x y▸out h)
  | lst e1 r1=>exact qS rb h λ_ _ _ _ e2 r2 h=>(Bh hu I (.lst e1 r1) (.lst e2 r2) h).1 k
  | _=>exact nE h
 | NotEq=>
  have ne:(dEq a b).map (!·)=some t→wpAny X.M A (compareOp .NotEq va vb) Q NoE s:=λh=>mE h λt' e h=>(Bh hu I ra rb e).2 (h▸k)
  cases ra with
  | int i u=>cases rb with
   | int j w=>exact ne_int (out h)
   | _=>exact ne h
  | _=>exact ne h
 | Lt=>exact int h λ_ _ _ _ k=>lt_int k
 | LtE=>exact int h λ_ _ _ _ k=>P.le_int k
 | Gt=>exact int h λ_ _ _ _ k=>P.gt_int k
 | GtE=>exact int h λ_ _ _ _ k=>P.ge_int k
 | NotIn=>
  refine ox ra h λy u h0=>ox rb h0 λx w h=>?_
  clear h0
  (first|(refine iE h ?_ ?_<;>(clear h;intro _ h))|split at h)
  ·rename_i c e
   have hy:y=⟨#[c]⟩:=congrArg Str.mk (Array.ext' e)
   subst hy
   exact P.notIn_str (StrLaws.found_one ..▸out h)
  ·exact nE h
 | In=>
  refine z2 h λds e h1=>?_
  clear h
  subst e
  have h:dIn a ds=some t:=h1
  clear h1
  unfold dIn at h
  (first|(refine iE h ?_ ?_<;>(clear h;intro _ h))|split at h)
  ·rename_i p qs e1 e2
   refine iE h (λhs h=>?_) λ_ h=>nE h
   simp only[Bool.and_eq_true,decide_eq_true_eq]at hs
   obtain⟨as,w1⟩:=(ra.mono I.sub).reads e1
   obtain⟨bs,w2⟩:=(rb.mono I.sub).reads (p:=.list qs) (by simp[D.toPy,e2])
   refine SeqAt.in_list_reads w2 w1 hs.1.1 hs.1.2 ?_ (out h)
   have h1:min (PyData.depthAll qs) p.depth≤PyData.depthAll qs:=Nat.min_le_left _ _
   exact Nat.lt_of_le_of_lt (Nat.add_le_add_left (Nat.le_trans h1 hs.2) _) hu1
  ·exact nE h
 | Is=>cases rb with
  | bool j=>exact CV ra h λi h=>wpAny_is_plain rfl ((show (Value.bool i==Value.bool j)=(i==j)by cases i<;>cases j<;>rfl)▸out h)
  | none=>exact is_none (by rw[none_of ra h];exact k)
  | obj=>
   refine Dn ra h λi h=>?_
   cases vb with
   | ref j=>exact iE h (λhab h=>hab▸wpAny_is_ref_self (out h)) λ_ h=>nE h
   | _=>exact nE h
  | _=>exact Dn ra h λi h=>nE h
 | IsNot=>cases rb with
  | none=>exact mE h λt' e h=>isNot_none (by rw[none_of ra e];exact h▸k)
  | _=>exact nE h
theorem tD{a:D}{t:Bool}{va:Value}{Q:Bool→Shared→Prop}(I:X.Inv σ s)(ra:Rel σ.g va a)(h:jM a=some t)(k:∀tk,s.toks≤tk→Q t { s with toks:=tk }):wpAny X.M A (truthy va) Q NoE s:=by
 unfold jM at h
 (first|(refine iE h ?_ ?_<;>(clear h;intro _ h))|split at h)
 ·cases h;cases ra;exact wpAny_truthy_bool (k s.toks (Nat.le_refl _))
 ·cases h;cases ra;exact P.truthy_int (k s.toks (Nat.le_refl _))
 ·(first|(refine iE h ?_ ?_<;>(clear h;intro _ h))|split at h)
  ·rename_i hl
   cases h;cases ra;exact P.truthy_str (by(first|lia|omega)) (k _ (by(first|lia|omega)))
  ·cases h
 ·cases h
noncomputable def ao(op:Operator)(p q:PE):PE:=λΓ c=>(p Γ c).bind λ(a,c1)=>(q Γ c1).bind λ(b,c2)=>(iD op a b).map λr=>(r,c2)
theorem aJ{op:Operator}{l r:Expr}{pos:Pos}{p q:PE}(h1:SoundE X A ft env l p)(h2:SoundE X A ft env r q):SoundE X A ft env (.BinOp l op r pos) (ao op p q):=λΓ σ s d c' I F h=>by
 (refine bE2 h ?_;(try clear h);intro a c1 e1 h)
 (refine bE2 h ?_;(try clear h);intro b c2 e2 h)
 (refine mE h ?_;(try clear h);intro x e3 h)
 cases h
 refine wpAny_BinOp (h1.use I F e1 λv1 σ1 s1 q1 I1 x1 F1 r1=>?_)
 subst q1
 refine h2.use I1 F1 e2 λv2 σ2 s2 q2 I2 x2 F2 r2=>?_
 subst q2
 exact wpAny_mono (Ct I2 (r1.mono x2.le) r2 e3) (λ_ _ k=>PostE.trans I2 (x1.trans I1 x2) k) λ_ _ f=>f
noncomputable def gv(op:CmpOp)(p q:PE):PE:=λΓ c=>(p Γ c).bind λ(a,c1)=>(q Γ c1).bind λ(b,c2)=>(fy op a b).map λr=>(.bool r,c2)
noncomputable def aD(op:CmpOp)(p q:PE):PB:=λΓ c=>(p Γ c).bind λ(a,c1)=>(q Γ c1).bind λ(b,c2)=>(fy op a b).map λr=>(r,c2)
theorem mQ{op:CmpOp}{l r:Expr}{pos:Pos}{p q:PE}(hr:Room A 8)(h1:SoundE X A ft env l p)(h2:SoundE X A ft env r q)(hm:behindInMarks op r=false:=by with_unfolding_all rfl):SoundE X A ft env (.Compare l [op] [r] pos) (gv op p q):=λΓ σ s d c' I F h=>by
 (refine bE2 h ?_;(try clear h);intro a c1 e1 h)
 (refine bE2 h ?_;(try clear h);intro b c2 e2 h)
 (refine mE h ?_;(try clear h);intro x e3 h)
 cases h
 refine wpAny_Compare1 (h1.use I F e1 λv1 σ1 s1 q1 I1 x1 F1 r1=>?_) hm
 subst q1
 refine h2.use I1 F1 e2 λv2 σ2 s2 q2 I2 x2 F2 r2=>?_
 subst q2
 exact xQ hr I2 (r1.mono x2.le) r2 e3 (PostE.trans I2 (x1.trans I1 x2) (PostE.same I2 (.bool _)))
theorem ck{op:CmpOp}{l r:Expr}{pos:Pos}{p q:PE}(hr:Room A 8)(h1:SoundE X A ft env l p)(h2:SoundE X A ft env r q)(hm:behindInMarks op r=false:=by with_unfolding_all rfl):SoundB X A ft env (.Compare l [op] [r] pos) (aD op p q):=λΓ σ s d c' I F h=>by
 (refine bE2 h ?_;(try clear h);intro a c1 e1 h)
 (refine bE2 h ?_;(try clear h);intro b c2 e2 h)
 (refine mE h ?_;(try clear h);intro x e3 h)
 cases h
 refine wpAny_isTrue_Compare1 (h1.use I F e1 λv1 σ1 s1 q1 I1 x1 F1 r1=>?_) hm
 subst q1
 refine h2.use I1 F1 e2 λv2 σ2 s2 q2 I2 x2 F2 r2=>?_
 subst q2
 exact xQ hr I2 (r1.mono x2.le) r2 e3 (wpAny_truthy_bool ⟨rfl,_,rfl,I2,x1.trans I1 x2⟩)
noncomputable def cV(p:PE):PB:=λΓ c=>(p Γ c).bind λ(a,c1)=>(jM a).map λr=>(r,c1)
theorem jS{e:Expr}{p:PE}(h1:SoundE X A ft env e p)(he:autoParam (∀env whole,isTrue e env whole=(do let v ←whole;standAt e.pos;holding [v] (truthy v))) aR):SoundB X A ft env e (cV p):=λΓ σ s d c' I F h=>by
 (refine bE2 h ?_;(try clear h);intro a c1 e1 h)
 (refine mE h ?_;(try clear h);intro x e3 h)
 cases h
 refine wpAny_isTrue_value (h1.use I F e1 λv1 σ1 s1 q1 I1 x1 F1 r1=>?_) (he _ _)
 subst q1
 exact tD I1 r1 e3 λtk htk=>⟨rfl,σ1,rfl,I1.toks,x1.trans I1 (Ext.heap λ_ _ e _=>e)⟩
noncomputable def m6(p:PB):PB:=λΓ c=>(p Γ c).map λ(b,c1)=>(!b,c1)
theorem CU{e:Expr}{pos:Pos}{p:PB}(h1:SoundB X A ft env e p):SoundB X A ft env (.UnaryOp .Not e pos) (m6 p):=λΓ σ s d c' I F h=>by
 (refine mE2 h ?_;(try clear h);intro a c1 e1 h)
 cases h
 exact wpAny_isTrue_Not (h1.use I F e1 λσ1 s1 q1 I1 x1 F1=>⟨rfl,σ1,q1,I1,x1⟩)
noncomputable def fW:List PB→PB
 | []=>λ_ c=>some (true,c)
 | p::ps=>λΓ c=>(p Γ c).bind λ(b,c1)=>if b then fW ps Γ c1 else some (false,c1)
noncomputable def jL(X:Cx)(A:Around)(ft:FT)(env:Env)(es:List Expr)(ps:List PB):Prop:=
 ∀Γ σ s d c',X.Inv σ s→Frm ft env Γ σ s.heap→fW ps Γ σ.sto=some (d,c')→wpAny X.M A (allTrue .And es env) (PostB X σ s d c') NoE s
theorem zl:jL X A ft env [] []:=λΓ σ s d c' I F h=>by
 cases h;exact wpAny_allTrue_And_nil ⟨rfl,σ,rfl,I,.refl _ _ _ _⟩
theorem mn{e:Expr}{es:List Expr}{p:PB}{ps:List PB}(h1:SoundB X A ft env e p)(h2:jL X A ft env es ps):jL X A ft env (e::es) (p::ps):=λΓ σ s d c' I F h=>by
 (refine bE2 h ?_;(try clear h);intro b c1 e1 h)
 refine wpAny_allTrue_And_cons (h1.use I F e1 λσ1 s1 q1 I1 x1 F1=>?_)
 subst q1
 cases b with
 | true=>exact wpAny_mono (h2 Γ σ1 s1 d c' I1 F1 h) (λ_ _ k=>PostB.trans I1 x1 k) λ_ _ f=>f
 | false=>cases h;exact⟨rfl,σ1,rfl,I1,x1⟩
theorem C6{es:List Expr}{pos:Pos}{ps:List PB}(h:jL X A ft env es ps):SoundB X A ft env (.BoolOp .And es pos) (fW ps):=λΓ σ s d c' I F e=>
 wpAny_isTrue_BoolOp (h Γ σ s d c' I F e)
noncomputable def rM(p q:PE):PE:=λΓ c=>(p Γ c).bind λ(a,c1)=>(jM a).bind λt=>if t then some (a,c1)else q Γ c1
theorem DJ{l r:Expr}{pos:Pos}{p q:PE}(h1:SoundE X A ft env l p)(h2:SoundE X A ft env r q):SoundE X A ft env (.BoolOp .Or [l,r] pos) (rM p q):=λΓ σ s d c' I F h=>by
 (refine bE2 h ?_;(try clear h);intro a c1 e1 h)
 (refine bE h ?_;(try clear h);intro t e2 h)
 refine wpAny_Or2 (h1.use I F e1 λv1 σ1 s1 q1 I1 x1 F1 r1=>?_)
 subst q1
 refine tD I1 r1 e2 λtk htk=>?_
 have I1':X.Inv σ1 { s1 with toks:=tk }:=I1.toks
 have x1':=x1.trans I1 (Ext.heap (W:=NoW) (Wg:=NoG) (σ:=σ1) (s:=s1) (h':=s1.heap) (tk:=tk) λ_ _ e _=>e)
 cases t with
 | true=>cases h;exact⟨σ1,rfl,I1',x1',r1⟩
 | false=>exact wpAny_mono (h2 Γ σ1 _ d c' I1' F1 h) (λ_ _ k=>PostE.trans I1' x1' k) λ_ _ f=>f
noncomputable def pIf(b:PB)(p q:PE):PE:=λΓ c=>(b Γ c).bind λ(t,c1)=>if t then p Γ c1 else q Γ c1
theorem sIf{b l r:Expr}{pos:Pos}{pb:PB}{p q:PE}(h0:SoundB X A ft env b pb)(h1:SoundE X A ft env l p)(h2:SoundE X A ft env r q):SoundE X A ft env (.IfExp b l r pos) (pIf pb p q):=λΓ σ s d c' I F h=>by
 (refine bE2 h ?_;(try clear h);intro t c1 e1 h)
 refine wpAny_IfExp (h0.use I F e1 λσ1 s1 q1 I1 x1 F1=>?_)
 subst q1
 cases t with
 | true=>exact wpAny_mono (h1 Γ σ1 s1 d c' I1 F1 h) (λ_ _ k=>PostE.trans I1 x1 k) λ_ _ f=>f
 | false=>exact wpAny_mono (h2 Γ σ1 s1 d c' I1 F1 h) (λ_ _ k=>PostE.trans I1 x1 k) λ_ _ f=>f
noncomputable def gJ(p:PE):PE:=λΓ c=>(p Γ c).bind λ(a,c1)=>match a with|.int i=>some (.int (-i),c1)|_=>none
theorem xK{e:Expr}{pos:Pos}{p:PE}(h1:SoundE X A ft env e p):SoundE X A ft env (.UnaryOp .USub e pos) (gJ p):=λΓ σ s d c' I F h=>by
 (refine bE2 h ?_;(try clear h);intro a c1 e1 h)
 dsimp only at h
 (first|(refine iE h ?_ ?_<;>(clear h;intro _ h))|split at h)
 ·cases h
  refine wpAny_UnaryOp (h1.use I F e1 λv1 σ1 s1 q1 I1 x1 F1 r1=>?_)
  subst q1
  cases r1
  exact P.neg_int (PostE.trans I1 x1 (PostE.here I1 (.int _ _)))
 ·cases h
end
end Mine
namespace Mine
noncomputable def pick{α:Type}(idx:List Nat)(l:List α):List α:=idx.filterMap (l[·]?)
noncomputable def cg{α:Type}(lo hi st:Option Int)(l:List α):List α:=
 pick (sliceRange (sliceBounds lo hi st l.length).1 (sliceBounds lo hi st l.length).2.1 (sliceBounds lo hi st l.length).2.2) l
theorem RelAll.pick{g:Heap}{vs:List Value}{ds:List D}(r:RelAll g vs ds):∀idx:List Nat,RelAll g (pick idx vs) (pick idx ds)
 | []=>.nil
 | k::idx=>by
  have ih:=RelAll.pick r idx
  unfold Mine.pick at ih⊢
  rw[List.filterMap_cons,List.filterMap_cons]
  cases e:ds[k]? with
  | none=>
   have:vs[k]?=none:=by
    rw[List.getElem?_eq_none_iff]at e⊢
    rw[r.length];exact e
   rw[this];exact ih
  | some d=>
   obtain⟨v,hv,rv⟩:=r.get e
   rw[hv];exact .cons rv ih
theorem iI{α:Type}(l:List α)(lo hi st:Option Int):(cg lo hi st l).length≤l.length:=by
 unfold cg pick
 refine Nat.le_trans (List.length_filterMap_le _ _) (sliceRange_length_le _ _ _ _ (λhc=>?_) λhc=>?_)
 ·simp only[sliceBounds]at hc⊢
  simp only[hc,if_true]
  constructor
  ·cases lo with
   | none=>exact Int.le_refl _
   | some i=>exact Int.le_max_left _ _
  ·cases hi with
   | none=>exact Int.le_refl _
   | some i=>exact Int.max_le.mpr ⟨Int.natCast_nonneg _,Int.min_le_right _ _⟩
 ·simp only[sliceBounds]at hc⊢
  simp only[hc,if_false]
  constructor
  ·cases lo with
   | none=>exact Int.le_refl _
   | some i=>exact Int.max_le.mpr ⟨by(first|lia|omega),Int.min_le_right _ _⟩
  ·cases hi with
   | none=>exact Int.le_refl _
   | some i=>exact Int.le_max_left _ _
noncomputable def i9(a b:D):Option D:=match a with
 | .lst ds=>onI b λi=>if -1000000<i∧i<1000000 then(seqIndex? i ds.length).bind (ds[·]?)else none
 | .tup ds=>onI b λi=>if -1000000<i∧i<1000000 then(seqIndex? i ds.length).bind (ds[·]?)else none
 | .str x=>onI b λi=>if -1000000<i∧i<1000000 then((seqIndex? i x.length).bind (x.cps[·]?)).map λc=>.str ⟨#[c]⟩else none
 | _=>none
noncomputable def kx(a:D)(lo hi st:Option Int):Option D:=match a with
 | .lst ds=>if st≠some 0∧ds.length≤100000 then some (.lst (cg lo hi st ds))else none
 | .str x=>if st=none∧x.length≤100000 then some (.str (Txt.slice x lo hi))else none
 | .tup ds=>match lo,hi,st with
  | some (Int.ofNat (k+1)),none,none=>if k+1≤ds.length∧ds.length≤100000 then some (.tup (ds.drop (k+1)))else none
  | _,_,_=>none
 | _=>none
theorem mI{i:Int}{n j:Nat}(h:seqIndex? i n=some j):j<n∧((0≤i∧i.toNat=j)∨(i<0∧-(n:Int)≤i∧(i+n).toNat=j)):=by
 unfold seqIndex? at h
 by_cases hi:i<0
 ·rw[if_pos hi]at h
  dsimp only at h
  (first|(refine iE h ?_ ?_<;>(clear h;intro _ h))|split at h)
  ·rename_i hq
   simp only[Bool.and_eq_true,decide_eq_true_eq]at hq
   cases h
   exact⟨by omega (config:={}),.inr ⟨hi,by omega (config:={}),rfl⟩⟩
  ·cases h
 ·rw[if_neg hi]at h
  dsimp only at h
  (first|(refine iE h ?_ ?_<;>(clear h;intro _ h))|split at h)
  ·rename_i hq
   simp only[Bool.and_eq_true,decide_eq_true_eq]at hq
   cases h
   exact⟨by omega (config:={}),.inl ⟨by omega (config:={}),rfl⟩⟩
  ·cases h
section
variable{X:Cx}{A:Around}{ft:FT}{env:Env}{Γ:List Slot}{σ:Sg}{s:Shared}{d:D}{c':List Cell}
theorem zG{value slice:Expr}{a b:D}{va vb:Value}(I:X.Inv σ s)(ra:Rel σ.g va a)(rb:Rel σ.g vb b)(h:i9 a b=some d)(hs:∀o i,subscripted slice false o i=operate [o,i] (getItem o i)) :
  wpAny X.M A (subscriptTail value slice va vb) (PostE X σ s d σ.sto) NoE s:=by
 cases ra with
 | @lst l vs n ds e r=>
  refine ia rb h λi t h=>iE h (λhi h=>bE h λj e1 e2=>?_) λ_ h=>nE h
  obtain⟨v,hv,rv⟩:=r.get e2
  have hl:s.heap.IsList l vs.toArray:=⟨_,I.sub _ _ e,rfl,_,rfl⟩
  rw[←r.length]at e1
  obtain⟨h1,h2⟩:=mI e1
  refine tail_any hl.typeIs slot_list_getitem.lookup ?_ (hs _ _)
  rcases h2 with⟨h2,h3⟩|⟨h2,h3,h4⟩
  ·exact wpAny_getItem_list hl h2 (by(first|lia|omega)) (by rw[h3];simpa using hv) (PostE.same I rv)
  ·exact wpAny_getItem_list_neg hl h2 (by simpa using h3) (by(first|lia|omega)) (by rw[List.size_toArray,h4];simpa using hv) (PostE.same I rv)
 | tup e r=>
  refine ia rb h λi t h=>iE h (λhi h=>bE h λj e1 e2=>?_) λ_ h=>nE h
  obtain⟨v,hv,rv⟩:=r.get e2
  rw[←r.length]at e1
  exact tail_any ⟨_,I.sub _ _ e,rfl⟩ slot_tuple_getitem.lookup (PyProof.Rows.getItem_tuple ⟨_,I.sub _ _ e,rfl,_,rfl⟩ (by(first|lia|omega)) (by(first|lia|omega)) (by simpa using e1) (by simpa using hv) (PostE.same I rv)) (hs _ _)
 | str x u=>
  refine ia rb h λi t h=>iE h (λhi h=>mE h λc e1 h=>?_) λ_ h=>nE h
  subst h
  exact tail_any (typeIs_str s _ _) F.slot_str_getitem.lookup (P.getItem_str (by simp;(first|lia|omega)) e1 (PostE.here I (.str _ _))) (hs _ _)
 | _=>exact nE h
noncomputable def a9(p q:PE):PE:=λΓ c=>(p Γ c).bind λ(a,c1)=>(q Γ c1).bind λ(b,c2)=>(i9 a b).map λr=>(r,c2)
theorem dH{value slice:Expr}{pos:Pos}{p q:PE}(h1:SoundE X A ft env value p)(h2:SoundE X A ft env slice q)(hs:autoParam (∀o i,subscripted slice false o i=operate [o,i] (getItem o i)) aR):SoundE X A ft env (.Subscript value slice pos) (a9 p q):=λΓ σ s d c' I F h=>by
 (refine bE2 h ?_;(try clear h);intro a c1 e1 h)
 (refine bE2 h ?_;(try clear h);intro b c2 e2 h)
 (refine mE h ?_;(try clear h);intro x e3 h)
 cases h
 refine Subscript_ (h1.use I F e1 λv1 σ1 s1 q1 I1 x1 F1 r1=>?_)
 subst q1
 refine h2.use I1 F1 e2 λv2 σ2 s2 q2 I2 x2 F2 r2=>?_
 subst q2
 exact wpAny_mono (zG I2 (r1.mono x2.le) r2 e3 hs) (λ_ _ k=>PostE.trans I2 (x1.trans I1 x2) k) λ_ _ f=>f
noncomputable abbrev PP:=List Slot→List Cell→Option (Option Int×List Cell)
noncomputable def aA:PP:=λ_ c=>some (none,c)
noncomputable def aP(p:PE):PP:=λΓ c=>(p Γ c).bind λ(a,c1)=>match a with|.int i=>some (some i,c1)|_=>none
noncomputable def l9(X:Cx)(A:Around)(ft:FT)(env:Env)(e:Option Expr)(p:PP):Prop:=
 ∀Γ σ s d c',X.Inv σ s→Frm ft env Γ σ s.heap→p Γ σ.sto=some (d,c')→wpAny X.M A (evalPart e env) (λv s'=>∃σ',σ'.sto=c'∧X.Inv σ' s'∧Ext NoW NoG σ s σ' s'∧∃dt:Option (Int×Tok),v=partValue dt∧dt.map (·.1)=d) NoE s
theorem bz:l9 X A ft env none aA:=λΓ σ s d c' I F h=>by
 cases h;exact wpAny_pure ⟨σ,rfl,I,.refl _ _ _ _,none,rfl,rfl⟩
theorem cY{e:Expr}{p:PE}(h1:SoundE X A ft env e p):l9 X A ft env (some e) (aP p):=λΓ σ s d c' I F h=>by
 (refine bE2 h ?_;(try clear h);intro a c1 e1 h)
 dsimp only at h
 (first|(refine iE h ?_ ?_<;>(clear h;intro _ h))|split at h)
 ·cases h
  rw[evalPart_some]
  refine h1.use I F e1 λv1 σ1 s1 q1 I1 x1 F1 r1=>?_
  cases r1
  exact⟨σ1,q1,I1,x1,some (_,_),rfl,rfl⟩
 ·cases h
theorem rK{dt:Option (Int×Tok)}:IsPart (partValue dt) (dt.map (·.1)):=by
 cases dt with
 | none=>exact .none
 | some p=>exact .int _ _
theorem wt{value:Expr}{l u st:Option Expr}{p:Pos}{a:D}{va:Value}{sl:Addr}{dl du ds:Option (Int×Tok)}(I:X.Inv σ s)(ra:Rel σ.g va a)
  (e:s.heap.get? sl=some { cls:=.type "slice",data:=.fields #[partValue dl,partValue du,partValue ds] }) (h:kx a (dl.map (·.1)) (du.map (·.1)) (ds.map (·.1))=some d) :
  wpAny X.M A (subscriptTail value (.Slice l u st p) va (.ref sl)) (PostE X σ s d σ.sto) NoE s:=by
 have hs:∃ops,subscripted (.Slice l u st p) false va (.ref sl)=operate ops (getItem va (.ref sl)):=by
  cases st with
  | none=>exact⟨_,rfl⟩
  | some _=>exact⟨_,rfl⟩
 obtain⟨ops,hs⟩:=hs
 cases ra with
 | @lst la vs n _ e1 r=>
  refine iE h (λhi h=>?_) λ_ h=>nE h
  cases h
  have hl:s.heap.IsList la vs.toArray:=⟨_,I.sub _ _ e1,rfl,_,rfl⟩
  refine tail_any hl.typeIs slot_list_getitem.lookup (wpAny_getItem_list_slice hl ⟨_,e,rfl,rfl⟩ rK rK rK hi.1 ?_ (by rw[List.size_toArray,r.length];exact bT hi.2)) hs
  have:slicePick vs.toArray (dl.map (·.1)) (du.map (·.1)) (ds.map (·.1))=(cg (dl.map (·.1)) (du.map (·.1)) (ds.map (·.1)) vs).toArray:=by
   unfold slicePick cg pick
   simp
  rw[this]
  refine PostE.newL I ?_
  unfold cg
  rw[r.length]
  exact r.pick _
 | str x t=>
  refine iE h (λhi h=>?_) λ_ h=>nE h
  cases h
  have h0:ds=none:=by cases ds with|none=>rfl|some _=>cases hi.1
  subst h0
  refine tail_any (typeIs_str s _ _) F.slot_str_getitem.lookup (wpAny_getItem_str_slice (l:=dl) (u:=du) (st:=none) ⟨_,e,rfl,rfl⟩ rfl ?_) hs
  unfold sliceMade slicePicked Txt.slice
  simp only[Option.map_none,Option.getD_none]
  split
  ·exact PostE.same I (.str _ _)
  ·refine⟨?_,PostE.here I (.str _ _)⟩
   have hlen:((Builtin.Str.strSliceIndices (dl.map (·.1)) (du.map (·.1)) 1 x.length).filterMap (x.cps[·]?)).length≤x.cps.toList.length:=by
    have:=iI x.cps.toList (dl.map (·.1)) (du.map (·.1)) none
    unfold cg pick at this
    cases dl<;>cases du<;>simpa [Builtin.Str.strSliceIndices,sliceBounds,Str.length] using this
   show ((Builtin.Str.strSliceIndices (dl.map (·.1)) (du.map (·.1)) 1 x.length).filterMap (x.cps[·]?)).toArray.size≤sizeLine
   rw[List.size_toArray]
   exact Nat.le_trans hlen (bT (by simpa [Str.length] using hi.2))
 | @tup t vs n ds0 e1 r=>
  have h:(match dl.map (·.1),du.map (·.1),ds.map (·.1)with
   | some (Int.ofNat (k+1)),none,none=>if k+1≤ds0.length∧ds0.length≤100000 then some (D.tup (ds0.drop (k+1)))else none
   | _,_,_=>none)=some d:=h
  (first|(refine iE h ?_ ?_<;>(clear h;intro _ h))|split at h)
  ·rename_i k hlo hhi hst
   refine iE h (λhk h=>?_) λ_ h=>nE h
   cases h
   (refine mE2 hlo ?_;(try clear hlo);intro i tk hdl hi)
   dsimp only at hi
   subst hi
   have hdu:du=none:=by cases du with|none=>rfl|some _=>cases hhi
   have hds:ds=none:=by cases ds with|none=>rfl|some _=>cases hst
   subst hdl hdu hds
   have hl:IsTup s.heap t vs.toArray:=⟨_,I.sub _ _ e1,rfl,_,rfl⟩
   refine tail_any ⟨_,I.sub _ _ e1,rfl⟩ slot_tuple_getitem.lookup (getItem_tuple_from (a:=k+1) hl ⟨_,e,rfl,rfl⟩ (by(first|lia|omega)) (by rw[List.size_toArray,r.length];exact hk.1) ?_ (by rw[List.size_toArray,r.length];exact bT hk.2)) hs
   exact PostE.newT I (by simpa using r.drop (k+1))
  ·exact nE h
 | _=>exact nE h
noncomputable def aV(p:PE)(l u st:PP):PE:=λΓ c=>(p Γ c).bind λ(a,c1)=>(l Γ c1).bind λ(x,c2)=>(u Γ c2).bind λ(y,c3)=>(st Γ c3).bind λ(z,c4)=>(kx a x y z).map λr=>(r,c4)
theorem dz{value:Expr}{l u st:Option Expr}{ps pos:Pos}{p:PE}{pl pu pst:PP}(h1:SoundE X A ft env value p)(h2:l9 X A ft env l pl)(h3:l9 X A ft env u pu)(h4:l9 X A ft env st pst) :
  SoundE X A ft env (.Subscript value (.Slice l u st ps) pos) (aV p pl pu pst):=λΓ σ s d c' I F h=>by
 (refine bE2 h ?_;(try clear h);intro a c1 e1 h)
 (refine bE2 h ?_;(try clear h);intro x c2 e2 h)
 (refine bE2 h ?_;(try clear h);intro y c3 e3 h)
 (refine bE2 h ?_;(try clear h);intro z c4 e4 h)
 (refine mE h ?_;(try clear h);intro r e5 h)
 obtain⟨rfl,rfl⟩:=Prod.mk.inj h
 clear h
 refine Subscript_ (h1.use I F e1 λv1 σ1 s1 q1 I1 x1 F1 r1=>?_)
 subst q1
 refine wpAny_Slice (wpAny_mono (h2 Γ σ1 s1 x c2 I1 F1 e2) (λv2 s2 qz1=>?_) λ_ _ f=>f)
 obtain⟨σ2,q2,I2,x2,d2,w2,m2⟩:=qz1
 subst q2 w2 m2
 have F2:=F1.ext x2
 refine wpAny_mono (h3 Γ σ2 s2 y c3 I2 F2 e3) (λv3 s3 qz1=>?_) λ_ _ f=>f
 obtain⟨σ3,q3,I3,x3,d3,w3,m3⟩:=qz1
 subst q3 w3 m3
 have F3:=F2.ext x3
 refine wpAny_mono (h4 Γ σ3 s3 z c4 I3 F3 e4) (λv4 s4 qz1=>?_) λ_ _ f=>f
 obtain⟨σ4,q4,I4,x4,d4,w4,m4⟩:=qz1
 subst q4 w4 m4
 obtain⟨I5,x5⟩:=jK (o:={ cls:=.type "slice",data:=.fields #[partValue d2,partValue d3,partValue d4] }) (tk:=s4.toks) I4
 have x14:=x2.trans I2 (x3.trans I3 x4)
 exact wpAny_mono (wt I5 (r1.mono x14.le) (Heap.get?_push_size _ rfl) e5) (λ_ _ k=>PostE.trans I5 ((x1.trans I1 x14).trans I4 x5) k) λ_ _ f=>f
end
end Mine
namespace Mine
inductive Fl where
 | next|brk|cont
 | ret (d:D)
noncomputable abbrev PS:=List Slot→List Cell→Option (Fl×List Slot×List Cell)
noncomputable def Cu(σ:Sg):Flow→Fl→Prop
 | .next,.next=>True
 | .brk,.brk=>True
 | .cont,.cont=>True
 | .ret v,.ret d=>Rel σ.g v d
 | _,_=>False
noncomputable def PostS(X:Cx)(ft:FT)(env:Env)(σ:Sg)(s:Shared)(fl:Fl)(Γ':List Slot)(c':List Cell)(f:Flow)(s':Shared):Prop:=
 ∃σ',σ'.sto=c'∧X.Inv σ' s'∧Ext (FW ft env) NoG σ s σ' s'∧Frm ft env Γ' σ' s'.heap∧Cu σ' f fl
noncomputable def aM(X:Cx)(A:Around)(ft:FT)(env:Env)(st:Stmt)(p:PS):Prop:=
 ∀Γ σ s fl Γ' c',X.Inv σ s→Frm ft env Γ σ s.heap→p Γ σ.sto=some (fl,Γ',c')→wpAny X.M A (exec st env) (PostS X ft env σ s fl Γ' c') NoE s
noncomputable def bh(X:Cx)(A:Around)(ft:FT)(env:Env)(st:List Stmt)(p:PS):Prop:=
 ∀Γ σ s fl Γ' c',X.Inv σ s→Frm ft env Γ σ s.heap→p Γ σ.sto=some (fl,Γ',c')→wpAny X.M A (execs st env) (PostS X ft env σ s fl Γ' c') NoE s
section
variable{X:Cx}{A:Around}{ft:FT}{env:Env}{Γ Γ':List Slot}{σ:Sg}{s:Shared}{d:D}{c':List Cell}{fl:Fl}
theorem PostS.trans{σ₁:Sg}{s₁ s₂:Shared}{f:Flow}(I:X.Inv σ₁ s₁)(x:Ext (FW ft env) NoG σ s σ₁ s₁)(h:PostS X ft env σ₁ s₁ fl Γ' c' f s₂):PostS X ft env σ s fl Γ' c' f s₂:=by
 obtain⟨σ',h1,h2,h3,h4,h5⟩:=h
 exact⟨σ',h1,h2,x.trans I h3,h4,h5⟩
noncomputable def aG:PS:=λΓ c=>some (.next,Γ,c)
noncomputable def ak(p q:PS):PS:=λΓ c=>(p Γ c).bind λ(f,Γ1,c1)=>match f with
 | .next=>q Γ1 c1
 | f=>some (f,Γ1,c1)
theorem aO:bh X A ft env [] aG:=λΓ σ s fl Γ' c' I F h=>by
 cases h;exact wpAny_pure ⟨σ,rfl,I,.refl _ _ _ _,F,trivial⟩
theorem az{st:Stmt}{rest:List Stmt}{p q:PS}(h1:aM X A ft env st p)(h2:bh X A ft env rest q):bh X A ft env (st::rest) (ak p q):=λΓ σ s fl Γ' c' I F h=>by
 (refine bE3 h ?_;(try clear h);intro f Γ1 c1 e1 h)
 dsimp only at h
 refine wpAny_execs_cons (wpAny_mono (h1 Γ σ s f Γ1 c1 I F e1) (λfw s1 qz1=>?_) λ_ _ f=>f)
 obtain⟨σ1,q1,I1,x1,F1,r1⟩:=qz1
 subst q1
 cases f with
 | next=>
  cases fw<;>cases r1
  exact wpAny_mono (h2 Γ1 σ1 s1 fl Γ' c' I1 F1 h) (λ_ _ k=>PostS.trans I1 x1 k) λ_ _ f=>f
 | brk=>cases h;cases fw<;>cases r1;exact⟨σ1,rfl,I1,x1,F1,trivial⟩
 | cont=>cases h;cases fw<;>cases r1;exact⟨σ1,rfl,I1,x1,F1,trivial⟩
 | ret d=>cases h;cases fw<;>first|(cases r1;done)|exact⟨σ1,rfl,I1,x1,F1,r1⟩
noncomputable def dS(p:PE):PS:=λΓ c=>(p Γ c).map λ(d,c1)=>(.ret d,Γ,c1)
theorem fD{e:Expr}{pos:Pos}{p:PE}(h1:SoundE X A ft env e p):aM X A ft env (.Return (some e) pos) (dS p):=λΓ σ s fl Γ' c' I F h=>by
 (refine mE2 h ?_;(try clear h);intro a c1 e1 h)
 cases h
 exact wpAny_Return_some (h1.use I F e1 λv1 σ1 s1 q1 I1 x1 F1 r1=>⟨σ1,q1,I1,x1.up,F1,r1⟩)
noncomputable def B2:PS:=λΓ c=>some (.brk,Γ,c)
theorem Ej{pos:Pos}:aM X A ft env (.Break pos) B2:=λΓ σ s fl Γ' c' I F h=>by
 cases h;exact wpAny_Break ⟨σ,rfl,I,.refl _ _ _ _,F,trivial⟩
noncomputable def qIf(b:PB)(p q:PS):PS:=λΓ c=>(b Γ c).bind λ(t,c1)=>if t then p Γ c1 else q Γ c1
theorem ib{t:Expr}{body orelse:List Stmt}{pos:Pos}{b:PB}{p q:PS}(h0:SoundB X A ft env t b)(h1:bh X A ft env body p)(h2:bh X A ft env orelse q):aM X A ft env (.If t body orelse pos) (qIf b p q):=λΓ σ s fl Γ' c' I F h=>by
 (refine bE2 h ?_;(try clear h);intro t c1 e1 h)
 refine wpAny_If (h0.use I F e1 λσ1 s1 q1 I1 x1 F1=>?_)
 subst q1
 cases t with
 | true=>exact wpAny_mono (h1 Γ σ1 s1 _ _ _ I1 F1 h) (λ_ _ k=>PostS.trans I1 x1.up k) λ_ _ f=>f
 | false=>exact wpAny_mono (h2 Γ σ1 s1 _ _ _ I1 F1 h) (λ_ _ k=>PostS.trans I1 x1.up k) λ_ _ f=>f
noncomputable def aS(i:Nat)(d:D)(Γ:List Slot):List Slot:=Γ.set i (.val d)
noncomputable def bf(i:Nat)(p:PE):PS:=λΓ c=>(p Γ c).map λ(d,c1)=>(.next,aS i d Γ,c1)
theorem dq{i:Nat}{x:Str}{k:VK}{e:Expr}{p:PE}{px pos:Pos}(hi:ft.nt[i]?=some (x,k))(hk:k≠.f)(h1:SoundE X A ft env e p)
  (hs:autoParam (∀env,swapsWith e (some (.Name x px)) pos.line env=pure false) aR):aM X A ft env (.Assign [.Name x px] e pos) (bf i p):=λΓ σ s fl Γ' c' I F h=>by
 (refine mE2 h ?_;(try clear h);intro a c1 e1 h)
 cases h
 refine wpAny_Assign_Name (h1.use I F e1 λv1 σ1 s1 q1 I1 x1 F1 r1=>?_) (hs env)
 subst q1
 exact cR I1 F1 hi hk (sl:=.val a) r1 λs' I' x' F'=>⟨σ1,rfl,I',x1.up.trans I1 x',F',trivial⟩
theorem pD{i:Nat}{x:Str}{e:Expr}{p:PE}{px pos:Pos}(hi:ft.nt[i]?=some (x,.c))(h1:SoundE X A ft env e p)
  (hs:∀env,env.kindOf x=some .cell→swapsWith e (some (.Name x px)) pos.line env=pure false):aM X A ft env (.Assign [.Name x px] e pos) (bf i p):=λΓ σ s fl Γ' c' I F h=>by
 (refine mE2 h ?_;(try clear h);intro a c1 e1 h)
 cases h
 refine wpAny_Assign_Name (h1.use I F e1 λv1 σ1 s1 q1 I1 x1 F1 r1=>?_) (hs env (oz (F.ok.kinds _ (List.mem_of_getElem? hi))))
 subst q1
 exact cR I1 F1 hi (by intro q;cases q) (sl:=.val a) r1 λs' I' x' F'=>⟨σ1,rfl,I',x1.up.trans I1 x',F',trivial⟩
theorem lB{ds:List D}{vs:List Value}{tk:Nat}(I:X.Inv σ s)(r:RelAll σ.g vs ds)(ht:autoParam (s.toks≤tk) aL) :
  let σ':Sg:=⟨σ.g,σ.own++[s.heap.objs.size],σ.sto++[.lst ds]⟩
  let s':Shared:={ s with heap:=s.heap.push (cG vs.toArray 0),toks:=tk }
  X.Inv σ' s'∧Ext NoW NoG σ s σ' s':=by
 have n:s.heap.get? s.heap.objs.size=none:=get?_push_none
 obtain⟨n1,n2⟩:=I.notIn n
 have I':X.Inv σ { s with heap:=s.heap.push (cG vs.toArray 0),toks:=tk }:=(jK I ht).1
 refine⟨⟨I'.sub,by simp[I.len],?_,λk a c e1 e2=>?_,λk a c e1 e2 e3=>?_,I'.top,I'.bare,I'.tk⟩,⟨.refl _,⟨_,rfl,λa ha=>?_⟩,λa o e n=>(by rw[n]at e;cases e),λa o e _ _=>Heap.get?_push_of_some _ e,λ_ _ e _=>e,rfl⟩⟩
 ·rw[List.nodup_append]
  exact⟨I.nodup,by simp,λa ha b hb=>by simp at hb;subst hb;rintro rfl;exact n1 ha⟩
 ·dsimp only at e1 e2
  by_cases hk:k<σ.own.length
  ·rw[List.getElem?_append_left hk]at e1
   rw[List.getElem?_append_left (I.len▸hk)]at e2
   exact I'.cells k a c e1 e2
  ·have hk':σ.own.length≤k:=Nat.le_of_not_lt hk
   rw[List.getElem?_append_right hk']at e1
   rw[List.getElem?_append_right (I.len▸hk')]at e2
   have h0:k - σ.own.length=0:=by
    have:=(List.getElem?_eq_some_iff.mp e1).1
    simp at this;(first|lia|omega)
   have h1:k - σ.sto.length=0:=by rw[←I.len];exact h0
   rw[h0]at e1;rw[h1]at e2
   cases e1;cases e2
   exact⟨vs,0,Heap.get?_push_size _ rfl,r⟩
 ·dsimp only at e1 e2
  by_cases hk:k<σ.own.length
  ·rw[List.getElem?_append_left hk]at e1
   rw[List.getElem?_append_left (I.len▸hk)]at e2
   exact I.off k a c e1 e2 e3
  ·have hk':σ.own.length≤k:=Nat.le_of_not_lt hk
   rw[List.getElem?_append_right hk']at e1
   have:=List.mem_of_getElem? e1
   simp at this
   subst this;exact n2
 ·simp at ha
  subst ha
  exact .inl n
noncomputable def jj(i:Nat)(ps:PL):PS:=λΓ c=>(ps Γ c).bind λ(ds,c1)=>if ds.length≤100000 then some (.next,Γ.set i (.ref c1.length),c1++[.lst ds])else none
theorem mM{i:Nat}{x:Str}{k:VK}{es:List Expr}{ps:PL}{px pl pos:Pos}(hi:ft.nt[i]?=some (x,k))(hk:k≠.f)(h1:SoundL X A ft env pl es ps):aM X A ft env (.Assign [.Name x px] (.List es pl) pos) (jj i ps):=λΓ σ s fl Γ' c' I F h=>by
 (refine bE2 h ?_;(try clear h);intro ds c1 e1 h)
 dsimp only at h
 (first|(refine iE h ?_ ?_<;>(clear h;intro _ h))|split at h)
 ·rename_i hl
  cases h
  refine wpAny_Assign_Name (wpAny_List (h1.use I F e1 λvs σ1 s1 q1 I1 x1 F1 r1=>⟨by rw[r1.length];exact bT hl,?_⟩)) rfl
  subst q1
  obtain⟨I2,x2⟩:=lB (tk:=s1.toks) I1 r1
  refine cR I2 (F1.ext x2) hi hk (sl:=.ref σ1.sto.length) ⟨s1.heap.objs.size,by rw[←I1.len];simp,rfl⟩ λs' I' x' F'=>⟨_,rfl,I',(x1.up.trans I1 x2.up).trans I2 x',F',trivial⟩
 ·cases h
noncomputable def rV(op:Operator)(a b:D):Option D:=match op with
 | .Add=>onI a λa=>onI b λb=>some (.int (a+b))
 | .Sub=>onI a λa=>onI b λb=>some (.int (a - b))
 | .LShift=>onI a λa=>onI b λb=>if 0≤b∧b≤1000000∧a.natAbs<2 ^ 64 then some (.int (a*2 ^ b.toNat))else none
 | .BitOr=>onI a λa=>onI b λb=>some (.int (Builtin.bitOr a b))
 | .BitXor=>onI a λa=>onI b λb=>some (.int (Builtin.bitXor a b))
 | _=>none
theorem BV{op:Operator}{a b d:D}{va vb:Value}{R:Value→Shared→Prop}(I:X.Inv σ s)(ra:Rel σ.g va a)(rb:Rel σ.g vb b)(h:rV op a b=some d)(k:∀v s',PostE X σ s d σ.sto v s'→R v s'):wpAny X.M A (inplaceOp op va vb) R NoE s:=by
 have int:∀{op:Operator} {f:Int→Int→Option D},onI a (λa=>onI b λb=>f a b)=some d→(∀i j t u,f i j=some d→wpAny X.M A (inplaceOp op (.int i t) (.int j u)) R NoE s)→wpAny X.M A (inplaceOp op va vb) R NoE s:=by
  intro op f h q
  refine ia ra h λi t h=>?_
  refine ia rb h λj u h=>?_
  exact q i j t u h
 have out:∀{x t n},D.int x=d→R (.int x t) { s with toks:=s.toks+n }:=λh=>k _ _ (h▸PostE.here I (.int _ _))
 cases op with
 | Add=>exact int h λi j t u h=>PyProof.Rows.iadd_int (out (Option.some.inj h))
 | Sub=>exact int h λi j t u h=>P.isub_int (out (Option.some.inj h))
 | LShift=>exact int h λi j t u h=>iE h (λhl h=>ilshift_int_small hl.1 hl.2.1 hl.2.2 (out (Option.some.inj h))) λ_ h=>nE h
 | BitOr=>exact int h λi j t u h=>ior_int (out (Option.some.inj h))
 | BitXor=>exact int h λi j t u h=>ixor_int (out (Option.some.inj h))
 | _=>exact nE h
theorem Ca{op:Operator}{a b d:D}{va vb:Value}(I:X.Inv σ s)(ra:Rel σ.g va a)(rb:Rel σ.g vb b)(h:rV op a b=some d):wpAny X.M A (inplaceOp op va vb) (PostE X σ s d σ.sto) NoE s:=BV I ra rb h λ_ _ q=>q
noncomputable def f6(i:Nat)(op:Operator)(p:PE):PS:=λΓ c=>match Γ[i]? with
 | some (.val a)=>(p Γ c).bind λ(b,c1)=>(rV op a b).map λd=>(.next,aS i d Γ,c1)
 | _=>none
theorem u5{i:Nat}{x:Str}{k:VK}{op:Operator}{e:Expr}{p:PE}{px pos:Pos}(hi:ft.nt[i]?=some (x,k))(hk:k≠.f)(h1:SoundE X A ft env e p):aM X A ft env (.AugAssign (.Name x px) op e pos) (f6 i op p):=λΓ σ s fl Γ' c' I F h=>by
 unfold f6 at h
 (first|(refine iE h ?_ ?_<;>(clear h;intro _ h))|split at h)
 ·rename_i a ea
  (refine bE2 h ?_;(try clear h);intro b c1 e1 h)
  (refine mE h ?_;(try clear h);intro d e2 h)
  cases h
  refine wpAny_AugAssign_Name (cO F hi ea (by intro q;cases q) λv r=>?_)
  refine h1.use I F e1 λv1 σ1 s1 q1 I1 x1 F1 r1=>?_
  subst q1
  refine wpAny_mono (Ca I1 (Rel.mono x1.le r) r1 e2) (λv2 s2 qz1=>?_) λ_ _ f=>f
  obtain⟨σ2,q2,I2,x2,r2⟩:=qz1
  exact cR I2 (F1.ext x2) hi hk (sl:=.val d) r2 λs' I' x' F'=>⟨σ2,q2,I',(x1.up.trans I1 x2.up).trans I2 x',F',trivial⟩
 ·cases h
inductive Tg where
 | n (i:Nat)
 | t (is:List Nat)
noncomputable def lA:List Nat→List D→List Slot→Option (List Slot)
 | [],[],Γ=>some Γ
 | i::is,d::ds,Γ=>lA is ds (aS i d Γ)
 | _,_,_=>none
noncomputable def d6(tg:Tg)(d:D)(Γ:List Slot):Option (List Slot):=match tg,d with
 | .n i,d=>some (aS i d Γ)
 | .t is,.tup ds=>lA is ds Γ
 | _,_=>none
noncomputable def dJ(X:Cx)(A:Around)(ft:FT)(env:Env)(e:Expr)(tg:Tg):Prop:=
 ∀Γ σ s d v Γ',X.Inv σ s→Frm ft env Γ σ s.heap→Rel σ.g v d→d6 tg d Γ=some Γ'→wpAny X.M A (assign e env v) (λ_ s'=>X.Inv σ s'∧Ext (FW ft env) NoG σ s σ s'∧Frm ft env Γ' σ s'.heap) NoE s
theorem bW{i:Nat}{x:Str}{k:VK}{px:Pos}(hi:ft.nt[i]?=some (x,k))(hk:k≠.f):dJ X A ft env (.Name x px) (.n i):=λΓ σ s d v Γ' I F r h=>by
 cases h
 exact wpAny_assign_Name (cR I F hi hk (sl:=.val d) r λs' I' x' F'=>⟨I',x',F'⟩)
inductive hH (ft:FT):List Expr→List Nat→Prop
 | nil:hH ft [] []
 | cons {i:Nat} {x:Str} {k:VK} {px:Pos} {es:List Expr} {is:List Nat}:ft.nt[i]?=some (x,k)→k≠.f→hH ft es is→hH ft (.Name x px::es) (i::is)
theorem rf{es:List Expr}{is:List Nat}(h:hH ft es is):(assignEach es env).length=is.length∧(assignEach es env).findIdx? (·.1)=none:=by
 induction h with
 | nil=>exact⟨rfl,rfl⟩
 | cons hi hk _ ih=>
  have e:∀(x:Str) (px:Pos) (es:List Expr),assignEach (.Name x px::es) env=(false,assign (.Name x px) env)::assignEach es env:=λ_ _ _=>rfl
  rw[e]
  refine⟨by rw[List.length_cons,List.length_cons,ih.1],?_⟩
  rw[List.findIdx?_cons]
  simp[ih.2]
theorem xC{es:List Expr}{is:List Nat}(h:hH ft es is):∀{Γ Γ':List Slot} {σ:Sg} {s:Shared} {vs:List Value} {ds:List D},X.Inv σ s→Frm ft env Γ σ s.heap→RelAll σ.g vs ds→lA is ds Γ=some Γ'→
  wpAny X.M A (assignInOrder ((assignEach es env).map (·.2)) vs) (λ_ s'=>X.Inv σ s'∧Ext (FW ft env) NoG σ s σ s'∧Frm ft env Γ' σ s'.heap) NoE s:=by
 induction h with
 | nil=>
  intro Γ Γ' σ s vs ds I F r e
  cases ds with
  | nil=>cases r;cases e;exact wpAny_assignInOrder_none ⟨I,.refl _ _ _ _,F⟩
  | cons _ _=>cases e
 | cons hi hk _ ih=>
  rename_i i x k px es is _
  intro Γ Γ' σ s vs ds I F r e
  cases ds with
  | nil=>cases e
  | cons d ds=>
   cases r with
   | cons r rs=>
    rename_i v vs
    show wpAny X.M A (assignInOrder (assign (.Name x px) env::(assignEach es env).map (·.2)) (v::vs)) _ _ _
    refine wpAny_assignInOrder_more (wpAny_assign_Name (cR I F hi hk (sl:=.val d) r λs' I' x' F'=>?_))
    exact wpAny_mono (ih I' F' rs e) (λ_ s'' ⟨i2,x2,f2⟩=>⟨i2,x'.trans I' x2,f2⟩) λ_ _ f=>f
theorem gG{es:List Expr}{is:List Nat}{k:Nat}{pos:Pos}(hr:Room A 8)(h:hH ft es is):dJ X A ft env (.Tuple es k pos) (.t is):=λΓ σ s d v Γ' I F r e=>by
 cases d with
 | tup ds=>
  cases r with
  | tup e1 rs=>
   rename_i a vs n
   have ht:s.heap.IsTuple a vs.toArray:=⟨_,I.sub _ _ e1,rfl,_,rfl⟩
   have hlen:is.length=ds.length:=by
    have:∀(is:List Nat) (ds:List D) (Γ Γ':List Slot),lA is ds Γ=some Γ'→is.length=ds.length:=by
     intro is
     induction is with
     | nil=>intro ds Γ Γ' h;cases ds with|nil=>rfl|cons _ _=>cases h
     | cons i is ih=>intro ds Γ Γ' h;cases ds with|nil=>cases h|cons d ds=>rw[List.length_cons,List.length_cons,ih ds _ _ h]
    exact this _ _ _ _ e
   obtain⟨n1,n2⟩:=rf (env:=env) h
   refine wpAny_assign_Tuple hr.hand ht (by rw[n1,hlen,List.size_toArray,rs.length]) n2 λh' hs=>?_
   have keep:∀a o,s.heap.get? a=some o→h'.get? a=some o:=λa o e=>hs a o (Nat.ne_of_lt (Heap.lt_size e)) e
   have I1:X.Inv σ { s with heap:=h',toks:=s.toks }:=Mine.Inv.heap (W:=NoW) I (λa o e _=>keep a o e) λ_ f=>f.elim
   have x1:Ext NoW NoG σ s σ { s with heap:=h',toks:=s.toks }:=Ext.heap λa o e _=>keep a o e
   exact wpAny_mono (xC h I1 (F.ext x1) rs e) (λ_ s'' ⟨i2,x2,f2⟩=>⟨i2,x1.up.trans I1 x2,f2⟩) λ_ _ f=>f
 | _=>cases e
end
end Mine
namespace Mine
structure IterAt (X:Cx) (A:Around) (tgt:Expr) (it:Value) (W:Addr→Prop) (Wg:Nat→Prop) (J:Heap→List D→Shared→Prop):Prop where
 self:∀{g ds s} {Q:Value→Shared→Prop},J g ds s→Le g s.heap→Q it s→wpAny X.M A (pyIter it) Q NoE s
 step:∀{σ s d ds},X.Inv σ s→J σ.g (d::ds) s→(∀a,W a→σ.g.get? a=none∧a∉σ.own)→
  wpAny X.M A (pyNext it) (λr s1=>∃v,r=some v∧wpAny X.M A (letOwnedTupleGo tgt it v) (λ_ s'=>∃g',X.Inv ⟨g',σ.own,σ.sto⟩ s'∧Ext W Wg σ s ⟨g',σ.own,σ.sto⟩ s'∧(∀a,W a→g'.get? a=none)∧Rel g' v d∧J g' ds s') NoE s1) NoE s
 stop:∀{σ s},X.Inv σ s→J σ.g [] s→(∀a,W a→σ.g.get? a=none∧a∉σ.own)→wpAny X.M A (pyNext it) (λr s'=>r=none∧X.Inv σ s'∧Ext W Wg σ s σ s') NoE s
 frame:∀{g g' ds s s'},J g ds s→Le g g'→Le g s.heap→Le g' s'.heap→(∀a o,W a→s.heap.get? a=some o→s'.heap.get? a=some o)→(∀(i:Nat) x,Wg i→s.gens[i]?=some x→s'.gens[i]?=some x)→J g' ds s'
 there:∀{g ds s},J g ds s→∀a,W a→∃o,s.heap.get? a=some o
structure mB (X:Cx) (A:Around) (tgt:Expr) (it:Value) (Wg:Nat→Prop) (J:(Addr→Prop)→Heap→List D→Shared→Prop):Prop where
 self:∀{W g ds s} {Q:Value→Shared→Prop},J W g ds s→Le g s.heap→Q it s→wpAny X.M A (pyIter it) Q NoE s
 step:∀{W σ s d ds},X.Inv σ s→J W σ.g (d::ds) s→(∀a,W a→σ.g.get? a=none∧a∉σ.own)→
  wpAny X.M A (pyNext it) (λr s1=>∃v,r=some v∧wpAny X.M A (letOwnedTupleGo tgt it v) (λ_ s'=>∃g' W',(∀a,W' a→W a∨s.heap.get? a=none)∧X.Inv ⟨g',σ.own,σ.sto⟩ s'∧Ext W Wg σ s ⟨g',σ.own,σ.sto⟩ s'∧(∀a,W' a→g'.get? a=none)∧Rel g' v d∧J W' g' ds s') NoE s1) NoE s
 stop:∀{W σ s},X.Inv σ s→J W σ.g [] s→(∀a,W a→σ.g.get? a=none∧a∉σ.own)→wpAny X.M A (pyNext it) (λr s'=>r=none∧X.Inv σ s'∧Ext W Wg σ s σ s') NoE s
 frame:∀{W g g' ds s s'},J W g ds s→Le g g'→Le g s.heap→Le g' s'.heap→(∀a o,W a→s.heap.get? a=some o→s'.heap.get? a=some o)→(∀(i:Nat) x,Wg i→s.gens[i]?=some x→s'.gens[i]?=some x)→J W g' ds s'
 there:∀{W g ds s},J W g ds s→∀a,W a→∃o,s.heap.get? a=some o
theorem IterAt.toG{X:Cx}{A:Around}{tgt:Expr}{it:Value}{W:Addr→Prop}{Wg:Nat→Prop}{J:Heap→List D→Shared→Prop}(h:IterAt X A tgt it W Wg J):mB X A tgt it Wg (λW' g ds s=>W'=W∧J g ds s) where
 self:=λ⟨_,j⟩ le q=>h.self j le q
 step:=λI qz1 hW=>by
  obtain⟨e,j⟩:=qz1
  subst e
  exact wpAny_mono (h.step I j hW) (λr s1 ⟨v,e,k⟩=>⟨v,e,wpAny_mono k (λ_ s' ⟨g',a,b,c,d,e⟩=>⟨g',_,λ_ q=>.inl q,a,b,c,d,rfl,e⟩) λ_ _ f=>f⟩) λ_ _ f=>f
 stop:=λI ⟨e,j⟩ hW=>by subst e;exact h.stop I j hW
 frame:=λ⟨e,j⟩ a b c d f=>⟨e,h.frame j a b c (e▸d) f⟩
 there:=λ⟨e,j⟩=>e▸h.there j
noncomputable def PostI(X:Cx)(A:Around)(tgt:Expr)(σ:Sg)(s:Shared)(ds:List D)(c':List Cell)(it:Value)(s':Shared):Prop:=
 ∃σ' W Wg J,σ'.sto=c'∧X.Inv σ' s'∧Ext NoW NoG σ s σ' s'∧mB X A tgt it Wg J∧J W σ'.g ds s'∧(∀a,W a→s.heap.get? a=none∧σ'.g.get? a=none∧a∉σ'.own)∧(∀i:Nat,Wg i→s.gens[i]?=none)
theorem PostI.of{X:Cx}{A:Around}{tgt:Expr}{σ:Sg}{s:Shared}{ds:List D}{c':List Cell}{it:Value}{s':Shared}
  (h:∃σ' W Wg J,σ'.sto=c'∧X.Inv σ' s'∧Ext NoW NoG σ s σ' s'∧IterAt X A tgt it W Wg J∧J σ'.g ds s'∧(∀a,W a→s.heap.get? a=none∧σ'.g.get? a=none∧a∉σ'.own)∧(∀i:Nat,Wg i→s.gens[i]?=none)):PostI X A tgt σ s ds c' it s':=by
 obtain⟨σ',W,Wg,J,a,b,c,d,e,f,g⟩:=h
 exact⟨σ',W,Wg,_,a,b,c,d.toG,⟨rfl,e⟩,f,g⟩
noncomputable def ew(X:Cx)(A:Around)(ft:FT)(env:Env)(tgt e:Expr)(p:PL):Prop:=
 ∀Γ σ s ds c',X.Inv σ s→Frm ft env Γ σ s.heap→p Γ σ.sto=some (ds,c')→wpAny X.M A (eval e env) (λx s1=>wpAny X.M A (pyIter x) (PostI X A tgt σ s ds c') NoE s1) NoE s
section
variable{X:Cx}{A:Around}{ft:FT}{env:Env}{Γ Γ':List Slot}{σ:Sg}{s:Shared}{d:D}{c':List Cell}{tgt:Expr}
theorem iM{it v:Value}{Q:Unit→Shared→Prop}(h:∀r a,it=.ref r→v=.ref a→∃o,s.heap.get? r=some o∧(∀n,o.cls=.type n→["enumerate","zip","dict_itemiterator","dict_reverseitemiterator","odict_iterator","itertools.zip_longest","itertools.pairwise"].contains n=false))(k:Q () s) :
  wpAny X.M A (letOwnedTupleGo tgt it v) Q NoE s:=by
 have core:wpAny X.M A (letOwnedTupleGo (.Tuple [] default default) it v) Q NoE s:=by
  cases it with
  | ref r=>cases v with
   | ref a=>
    obtain⟨o,ho,hn⟩:=h r a rfl rfl
    refine wpAny_bind (wpAny_load ho ?_)
    obtain⟨cls,dict,data,slots⟩:=o
    cases cls with
    | type n=>cases data with
     | fields vs=>
      have:=hn n rfl
      dsimp only
      rw[this]
      exact wpAny_pure k
     | _=>exact wpAny_pure k
    | _=>exact wpAny_pure k
   | _=>exact wpAny_pure k
  | _=>exact wpAny_pure k
 cases tgt<;>first|exact core|exact wpAny_pure k
theorem xf(hh:A.handled=none)(it l:Addr)(vs:List Value)(n:Nat)(hne:l≠it):IterAt X A tgt (.ref it) (λa=>a=it) NoG
  (λg ds s=>∃i,s.heap.IsListIter it l i∧g.get? l=some (cG vs.toArray n)∧RelAll g (vs.drop i) ds) where
 self:=λ⟨i,hit,_,_⟩ _ k=>wpAny_pyIter_listiter hit k
 step:=λ{σ s d ds} I qz1 hW=>by
  obtain⟨i,hit,hl,r⟩:=qz1
  have hl':s.heap.IsList l vs.toArray:=⟨_,I.sub _ _ hl,rfl,_,rfl⟩
  obtain⟨v,hv,rv⟩:=r.get (k:=0) (d:=d) rfl
  have hx:vs[i]?=some v:=by simpa using hv
  refine wpAny_pyNext_list_item hit hl' (x:=v) (by simpa using hx) λh' hit' hs=>⟨v,rfl,iM (λr a e _=>?_) ⟨σ.g,?_,Ext.heap (tk:=s.toks) λa o e hw=>(hs.2 a hw).trans e,λa ha=>(hW a ha).1,rv,i+1,hit',hl,?_⟩⟩
  ·cases e
   obtain⟨o,ho,hc,_⟩:=hit'
   exact⟨o,ho,λn e=>by rw[hc]at e;cases e;decide⟩
  ·exact Mine.Inv.heap (W:=λa=>a=it) (tk:=s.toks) I (λa o e hw=>(hs.2 a hw).trans e) λa e=>⟨(hW a e).2,(hW a e).1⟩
  ·have:vs.drop (i+1)=(vs.drop i).drop 1:=by rw[List.drop_drop]
   rw[this];exact r.drop 1
 stop:=λ{σ s} I qz1 hW=>by
  obtain⟨i,hit,hl,r⟩:=qz1
  have hl':s.heap.IsList l vs.toArray:=⟨_,I.sub _ _ hl,rfl,_,rfl⟩
  have hx:vs[i]?=none:=by
   have:=r.length
   rw[List.length_drop,List.length_nil]at this
   exact List.getElem?_eq_none_iff.mpr (by(first|lia|omega))
  exact wpAny_pyNext_list_end hh hit hl' (by simpa using hx) λh' hs=>⟨rfl,Mine.Inv.heap (W:=λa=>a=it) (tk:=s.toks) I (λa o e hw=>hs a o hw e) λa e=>⟨(hW a e).2,(hW a e).1⟩,Ext.heap (tk:=s.toks) λa o e hw=>hs a o hw e⟩
 frame:=λ⟨i,⟨o,ho,r1⟩,hl,r⟩ hle _ _ hk _=>⟨i,⟨o,hk _ _ rfl ho,r1⟩,hle _ _ hl,r.mono hle⟩
 there:=λ⟨i,⟨o,ho,_⟩,_,_⟩ a e=>⟨o,e▸ho⟩
theorem um(hh:A.handled=none)(it l:Addr)(vs:List Value)(n:Nat)(hne:l≠it):IterAt X A tgt (.ref it) (λa=>a=it) NoG
  (λg ds s=>∃i,s.heap.IsTupleIter it l i∧g.get? l=some (fR vs.toArray n)∧RelAll g (vs.drop i) ds) where
 self:=λ⟨i,hit,_,_⟩ _ k=>wpAny_pyIter_tupleiter hit k
 step:=λ{σ s d ds} I qz1 hW=>by
  obtain⟨i,hit,hl,r⟩:=qz1
  have hl':s.heap.IsTuple l vs.toArray:=⟨_,I.sub _ _ hl,rfl,_,rfl⟩
  obtain⟨v,hv,rv⟩:=r.get (k:=0) (d:=d) rfl
  have hx:vs[i]?=some v:=by simpa using hv
  refine wpAny_pyNext_tuple_item hit hl' (x:=v) (by simpa using hx) λh' hit' hs=>⟨v,rfl,iM (λr a e _=>?_) ⟨σ.g,?_,Ext.heap (tk:=s.toks) λa o e hw=>(hs.2 a hw).trans e,λa ha=>(hW a ha).1,rv,i+1,hit',hl,?_⟩⟩
  ·cases e
   obtain⟨o,ho,hc,_⟩:=hit'
   exact⟨o,ho,λn e=>by rw[hc]at e;cases e;decide⟩
  ·exact Mine.Inv.heap (W:=λa=>a=it) (tk:=s.toks) I (λa o e hw=>(hs.2 a hw).trans e) λa e=>⟨(hW a e).2,(hW a e).1⟩
  ·have:vs.drop (i+1)=(vs.drop i).drop 1:=by rw[List.drop_drop]
   rw[this];exact r.drop 1
 stop:=λ{σ s} I qz1 hW=>by
  obtain⟨i,hit,hl,r⟩:=qz1
  have hl':s.heap.IsTuple l vs.toArray:=⟨_,I.sub _ _ hl,rfl,_,rfl⟩
  have hx:vs[i]?=none:=by
   have:=r.length
   rw[List.length_drop,List.length_nil]at this
   exact List.getElem?_eq_none_iff.mpr (by(first|lia|omega))
  exact wpAny_pyNext_tuple_end hh hit hl' (by simpa using hx) λh' hs=>⟨rfl,Mine.Inv.heap (W:=λa=>a=it) (tk:=s.toks) I (λa o e hw=>hs a o hw e) λa e=>⟨(hW a e).2,(hW a e).1⟩,Ext.heap (tk:=s.toks) λa o e hw=>hs a o hw e⟩
 frame:=λ⟨i,⟨o,ho,r1⟩,hl,r⟩ hle _ _ hk _=>⟨i,⟨o,hk _ _ rfl ho,r1⟩,hle _ _ hl,r.mono hle⟩
 there:=λ⟨i,⟨o,ho,_⟩,_,_⟩ a e=>⟨o,e▸ho⟩
theorem uY(hh:A.handled=none)(it:Addr):IterAt X A tgt (.ref it) (λa=>a=it) NoG
  (λ_ ds s=>∃(x:Int) (n:Nat),IsRangeIter s.heap it x n 1∧ds=(List.range n).map λ(k:Nat)=>D.int (x+k)) where
 self:=λ⟨i,n,hit,_⟩ _ k=>wpAny_pyIter_rangeiter hit k
 step:=λ{σ s d ds} I qz1 hW=>by
  obtain⟨x,n,hit,e⟩:=qz1
  cases n with
  | zero=>cases e
  | succ n=>
   rw[List.range_succ_eq_map,List.map_cons]at e
   obtain⟨rfl,rfl⟩:=List.cons.inj e
   refine wpAny_pyNext_range_item hit (by(first|lia|omega)) λh' hit' hs=>⟨_,rfl,iM (λr a e _=>?_) ⟨σ.g,?_,Ext.heap λa o e hw=>(hs.2 a hw).trans e,λa ha=>(hW a ha).1,?_,x+1,n,?_,?_⟩⟩
   ·cases e
    exact⟨_,hit',λn e=>by cases e;decide⟩
   ·exact Mine.Inv.heap (W:=λa=>a=it) I (λa o e hw=>(hs.2 a hw).trans e) λa e=>⟨(hW a e).2,(hW a e).1⟩
   ·have:x+(0:Nat)=x:=by(first|lia|omega)
    rw[this];exact .int _ _
   ·have:((n+1:Nat):Int) - 1=(n:Int):=by(first|lia|omega)
    rw[this]at hit';exact hit'
   ·rw[List.map_map]
    apply List.map_congr_left
    intro k _
    show D.int (x+((k+1:Nat):Int))=D.int (x+1+k)
    congr 1;(first|lia|omega)
 stop:=λ{σ s} I qz1 hW=>by
  obtain⟨x,n,hit,e⟩:=qz1
  have hn:n=0:=by
   have:=congrArg List.length e
   simp at this;(first|lia|omega)
  subst hn
  exact wpAny_pyNext_range_end hh hit (by(first|lia|omega)) λh' hs=>⟨rfl,Mine.Inv.heap (W:=λa=>a=it) (tk:=s.toks) I (λa o e hw=>hs a o hw e) λa e=>⟨(hW a e).2,(hW a e).1⟩,Ext.heap (tk:=s.toks) λa o e hw=>hs a o hw e⟩
 frame:=λ⟨x,n,hit,e⟩ _ _ _ hk _=>⟨x,n,hk _ _ rfl hit,e⟩
 there:=λ⟨x,n,hit,e⟩ a ea=>⟨_,ea▸hit⟩
noncomputable def cC(p:PE):PL:=λΓ c=>(p Γ c).bind λ(a,c1)=>match a with
 | .lst ds=>some (ds,c1)
 | .tup ds=>some (ds,c1)
 | _=>none
theorem eM{e:Expr}{p:PE}(hr:Room A 8)(h1:SoundE X A ft env e p):ew X A ft env tgt e (cC p):=λΓ σ s ds c' I F h=>by
 (refine bE2 h ?_;(try clear h);intro a c1 e1 h)
 refine h1.use I F e1 λv σ1 s1 q1 I1 x1 F1 r1=>?_
 subst q1
 have nn:s1.heap.get? s1.heap.objs.size=none:=get?_push_none
 have back:∀a,s1.heap.get? a=none→s.heap.get? a=none:=by
  intro a e
  cases q:s.heap.get? a with
  | none=>rfl
  | some o=>
   exfalso
   by_cases ho:a∈σ.own
   ·obtain⟨m,hm,_⟩:=x1.own
    obtain⟨o',e'⟩:=I1.mem (a:=a) (by rw[hm];exact List.mem_append_left _ ho)
    rw[e']at e;cases e
   ·rw[x1.keep a o q ho (λh=>h)]at e;cases e
 dsimp only at h
 (first|(refine iE h ?_ ?_<;>(clear h;intro _ h))|split at h)
 ·cases h
  cases r1 with
  | lst e r=>
   rename_i l vs n
   have hl:s1.heap.IsList l vs.toArray:=⟨_,I1.sub _ _ e,rfl,_,rfl⟩
   obtain⟨I2,x2⟩:=jK (o:={ cls:=.type "list_iterator",data:=.fields #[.ref l,.int 0 0] }) (tk:=s1.toks) I1
   refine wpAny_pyIter_list hl (PostI.of ⟨σ1,_,_,_,rfl,I2,x1.trans I1 x2,xf hr.hand s1.heap.objs.size l vs n ?_,⟨0,⟨_,Heap.get?_push_size _ rfl,rfl,rfl⟩,e,r⟩,?_,λ_ h=>h.elim⟩)
   ·rintro rfl;rw[I1.sub _ _ e]at nn;cases nn
   ·rintro a rfl
    exact⟨back _ nn,(I1.notIn nn).2,(I1.notIn nn).1⟩
 ·cases h
  cases r1 with
  | tup e r=>
   rename_i l vs n
   have hl:s1.heap.IsTuple l vs.toArray:=⟨_,I1.sub _ _ e,rfl,_,rfl⟩
   obtain⟨I2,x2⟩:=jK (o:={ cls:=.type "tuple_iterator",data:=.fields #[.ref l,.int 0 0] }) (tk:=s1.toks) I1
   refine wpAny_pyIter_tuple hl (PostI.of ⟨σ1,_,_,_,rfl,I2,x1.trans I1 x2,um hr.hand s1.heap.objs.size l vs n ?_,⟨0,⟨_,Heap.get?_push_size _ rfl,rfl,rfl⟩,e,r⟩,?_,λ_ h=>h.elim⟩)
   ·rintro rfl;rw[I1.sub _ _ e]at nn;cases nn
   ·rintro a rfl
    exact⟨back _ nn,(I1.notIn nn).2,(I1.notIn nn).1⟩
 ·cases h
theorem Ext.back{W:Addr→Prop}{Wg:Nat→Prop}{σ1:Sg}{s1:Shared}(I1:X.Inv σ1 s1)(x1:Ext W Wg σ s σ1 s1){a:Addr}(e:s1.heap.get? a=none):s.heap.get? a=none∨W a:=by
 cases q:s.heap.get? a with
 | none=>exact .inl rfl
 | some o=>
  by_cases hw:W a
  ·exact .inr hw
  ·exfalso
   by_cases ho:a∈σ.own
   ·obtain⟨m,hm,_⟩:=x1.own
    obtain⟨o',e'⟩:=I1.mem (a:=a) (by rw[hm];exact List.mem_append_left _ ho)
    rw[e']at e;cases e
   ·rw[x1.keep a o q ho hw]at e;cases e
noncomputable def bG(tg:Tg)(body:PS):List D→List Slot→List Cell→Option (Fl×List Slot×List Cell)
 | [],Γ,c=>some (.next,Γ,c)
 | d::ds,Γ,c=>(d6 tg d Γ).bind λΓ1=>(body Γ1 c).bind λ(f,Γ2,c2)=>match f with
  | .next=>bG tg body ds Γ2 c2
  | .cont=>bG tg body ds Γ2 c2
  | .brk=>some (.brk,Γ2,c2)
  | .ret d=>some (.ret d,Γ2,c2)
noncomputable def fC(tg:Tg)(src:PL)(body orelse:PS):PS:=λΓ c=>(src Γ c).bind λ(ds,c1)=>(bG tg body ds Γ c1).bind λ(f,Γ2,c2)=>match f with
 | .next=>orelse Γ2 c2
 | .brk=>some (.next,Γ2,c2)
 | .cont=>none
 | .ret d=>some (.ret d,Γ2,c2)
theorem Ext.narrow{V V':Addr→Prop}{Wg:Nat→Prop}{σ':Sg}{s':Shared}(x:Ext V Wg σ s σ' s')(h:∀a,V a→V' a∨s.heap.get? a=none):Ext V' Wg σ s σ' s':=
 ⟨x.le,let ⟨m,o,f⟩:=x.own;⟨m,o,λa ha=>(f a ha).elim .inl λq=>(h a q).elim .inr .inl⟩,λa o e n=>(x.fresh a o e n).elim .inl λq=>q.elim (λq=>.inr (.inl q)) λq=>(h a q).elim (λq=>.inr (.inr q)) .inl,
  λa o e n hw=>x.keep a o e n λq=>(h a q).elim hw λq=>(by rw[q]at e;cases e),x.gens,x.os⟩
theorem Ext.join{V V2:Addr→Prop}{Wg:Nat→Prop}{σ1 σ2:Sg}{s1 s2:Shared}(I:X.Inv σ1 s1)(x:Ext V Wg σ s σ1 s1)(y:Ext V2 Wg σ1 s1 σ2 s2)(h:∀a,V2 a→V a∨s.heap.get? a=none):Ext V Wg σ s σ2 s2:=
 Ext.narrow ((x.weaken (W':=λa=>V a∨V2 a) (λ_ q=>.inl q) λ_ q=>q).trans I (y.weaken (λ_ q=>.inr q) λ_ q=>q)) λa q=>q.elim .inl (h a)
theorem Frm.there{h:Heap}(F:Frm ft env Γ σ h){a:Addr}(hw:FW ft env a):∃o,h.get? a=some o:=by
 rcases hw with rfl|⟨i,x,h1,h2⟩
 ·obtain⟨m,hn,_⟩:=F.loc;exact Heap.Ns.there hn
 ·obtain⟨c,hc,ov,⟨o,ho,_⟩,_⟩:=F.cel i x _ h1 (by intro q;cases q)
  rw[h2]at hc;cases hc;exact⟨o,ho⟩
theorem Frm.thereC{h:Heap}(F:Frm ft env Γ σ h){i:Nat}{y:Str}{k:VK}{c:Addr}(hi:ft.nt[i]?=some (y,k))(hk:k≠.l)(hc:env.cells.lookup y=some c):∃o,h.get? c=some o:=by
 obtain⟨c',hc',ov,⟨o,ho,_⟩,_⟩:=F.cel i y k hi hk
 rw[hc]at hc';cases hc';exact⟨o,ho⟩
theorem Frm.thereL{h:Heap}(F:Frm ft env Γ σ h):∃o,h.get? env.locals=some o:=by
 obtain⟨_,hn,_⟩:=F.loc
 exact Heap.Ns.there hn
theorem Ext.stay{V:Addr→Prop}{Wg:Nat→Prop}{σ':Sg}{s':Shared}{a:Addr}{o:Obj}(x:Ext V Wg σ s σ' s')(ho:s.heap.get? a=some o)(hg:σ.g.get? a=none)(hn:a∉σ.own)(hv:¬V a):σ'.g.get? a=none∧a∉σ'.own:=by
 constructor
 ·cases q:σ'.g.get? a with
  | none=>rfl
  | some o'=>exact((x.fresh a o' q hg).elim (λh=>nE (h.symm.trans ho)) λh=>h.elim hn hv).elim
 ·obtain⟨m,hm,hf⟩:=x.own
  rw[hm]
  exact λq=>(List.mem_append.mp q).elim hn λq=>(hf a q).elim (λh=>nE (h.symm.trans ho)) hv
structure IsOff (ft:FT) (env:Env) (W:Addr→Prop):Prop where
 l:¬W env.locals
 c:∀(i:Nat) (y:Str) (k:VK) (c:Addr),ft.nt[i]?=some (y,k)→k≠.l→env.cells.lookup y=some c→¬W c
theorem IsOff.grow{W W₁:Addr→Prop}{Γ₀:List Slot}{σ₀:Sg}{h:Heap}(hW:IsOff ft env W)(F₀:Frm ft env Γ₀ σ₀ h)(h1:∀a,W₁ a→W a∨h.get? a=none):IsOff ft env W₁:=
 ⟨λhw=>(h1 _ hw).elim hW.l λq=>F₀.thereL.elim λ_ e=>nE (q.symm.trans e),λi y k c hi hk hc hw=>(h1 _ hw).elim (hW.c i y k c hi hk hc) λq=>(F₀.thereC hi hk hc).elim λ_ e=>nE (q.symm.trans e)⟩
theorem IsOff.fw{W:Addr→Prop}(hW:IsOff ft env W){a:Addr}(hw:W a)(hf:FW ft env a):False:=by
 rcases hf with e|⟨i,x,g1,g2⟩
 ·exact hW.l (e▸hw)
 ·exact hW.c i x _ a g1 (λq=>VK.noConfusion q) g2 hw
noncomputable def yQ(R:Result→Shared→Prop)(I:Nat→Shared→Prop)(n:Nat)(f:Flow)(s:Shared):Prop:=match f with
 | .next|.cont=>∃m,m<n∧I m s
 | .brk=>R (.ok .next) s
 | .ret v=>R (.ok (.ret v)) s
noncomputable abbrev oZ(M:Model)(A:Around)(tgt:Expr)(it:Value)(body orelse:List Stmt)(env:Env)(R:Result→Shared→Prop)(I:Nat→Shared→Prop)(n:Nat)(s:Shared):Prop:=
 wpAny M A (pyNext it) (λr s₁=>match r with
   | none=>wpAny M A (execs orelse env) (λf s₃=>R (.ok f) s₃) (notedBy M A env λe s'=>R (.error e) s') s₁
   | some v=>wpAny M A (letOwnedTupleGo tgt it v) (λ_ s₁'=>
     wpAny M A (assign tgt env v) (λ_ s₂=>wpAny M A (execs body env) (yQ R I n) (notedBy M A env λe s'=>R (.error e) s') s₂) (notedBy M A env λe s'=>R (.error e) s') s₁') (notedBy M A env λe s'=>R (.error e) s') s₁) (notedBy M A env λe s'=>R (.error e) s') s
theorem up0{M:Model}{α:Type}{m:Sem α}{Q:α→Shared→Prop}{E:Value→Shared→Prop}(h:wpAny M A m Q NoE s):wpAny M A m Q E s:=wpAny_mono h (λ_ _ q=>q) λ_ _ f=>f.elim
theorem yR{M:Model}{it:Value}{body orelse:List Stmt}{R:Result→Shared→Prop}{I:Nat→Shared→Prop}{n:Nat}{P:Shared→Prop}(h:wpAny M A (pyNext it) (λr s1=>r=none∧P s1) NoE s)
  (k:∀s1,P s1→wpAny M A (execs orelse env) (λf s3=>R (.ok f) s3) NoE s1):oZ M A tgt it body orelse env R I n s:=
 up0 (wpAny_mono h (λr s1 q=>by rw[q.1];exact up0 (k s1 q.2)) λ_ _ f=>f)
theorem uX{M:Model}{it:Value}{body orelse:List Stmt}{R:Result→Shared→Prop}{I:Nat→Shared→Prop}{n:Nat}{P:Value→Shared→Prop}
  (h:wpAny M A (pyNext it) (λr s1=>∃v,r=some v∧wpAny M A (letOwnedTupleGo tgt it v) (λ_ s'=>P v s') NoE s1) NoE s)
  (k:∀v s2,P v s2→wpAny M A (assign tgt env v) (λ_ s3=>wpAny M A (execs body env) (yQ R I n) NoE s3) NoE s2):oZ M A tgt it body orelse env R I n s:=
 up0 (wpAny_mono h (λr s1 q=>by
  obtain⟨v,e,q⟩:=q
  rw[e]
  exact up0 (wpAny_mono q (λ_ s2 q=>up0 (wpAny_mono (k v s2 q) (λ_ s3 q=>up0 q) λ_ _ f=>f)) λ_ _ f=>f)) λ_ _ f=>f)
noncomputable def BR(qo:PS):Fl×List Slot×List Cell→Option (Fl×List Slot×List Cell):=λ(f,Γ2,c2)=>match f with
 | .next=>qo Γ2 c2
 | .brk=>some (.next,Γ2,c2)
 | .cont=>none
 | .ret d=>some (.ret d,Γ2,c2)
structure FS (X:Cx) (ft:FT) (env:Env) (W:Addr→Prop) (Wg:Nat→Prop) (J:(Addr→Prop)→Heap→List D→Shared→Prop) (σ₀:Sg) (s₀:Shared) (tg:Tg) (q qo:PS) (res:Fl×List Slot×List Cell) (ds:List D) (Γ:List Slot) (σ:Sg) (W₁:Addr→Prop) (s:Shared):Prop where
 hW1:∀a,W₁ a→W a∨s₀.heap.get? a=none
 I:X.Inv σ s
 x:Ext (λa=>FW ft env a∨W a) Wg σ₀ s₀ σ s
 F:Frm ft env Γ σ s.heap
 j:J W₁ σ.g ds s
 hW:∀a,W₁ a→σ.g.get? a=none∧a∉σ.own
 run:(bG tg q ds Γ σ.sto).bind (BR qo)=some res
theorem xE{it:Value}{body orelse:List Stmt}{tg:Tg}{q qo:PS}{W W₁:Addr→Prop}{Wg:Nat→Prop}{J:(Addr→Prop)→Heap→List D→Shared→Prop}{fl:Fl}{σ₀:Sg}{s₀:Shared}{ds:List D}{K:Nat→Shared→Prop}
  (hI:mB X A tgt it Wg J) (hT:dJ X A ft env tgt tg) (hb:bh X A ft env body q) (ho:bh X A ft env orelse qo) (off:∀{W₁:Addr→Prop},(∀a,W₁ a→W a∨s₀.heap.get? a=none)→IsOff ft env W₁) {R:Result→Shared→Prop}
  (hR:∀f σ' s',σ'.sto=c'→X.Inv σ' s'→Ext (λa=>FW ft env a∨W a) Wg σ₀ s₀ σ' s'→Frm ft env Γ' σ' s'.heap→Cu σ' f fl→R (.ok f) s')
  (hK:∀{ds Γ σ W₁ s},FS X ft env W Wg J σ₀ s₀ tg q qo (fl,Γ',c') ds Γ σ W₁ s→K ds.length s) (S:FS X ft env W Wg J σ₀ s₀ tg q qo (fl,Γ',c') ds Γ σ W₁ s):oZ X.M A tgt it body orelse env R K ds.length s:=by
 obtain⟨hW1,I,x,F,j,hW,run⟩:=S
 have o1:=off hW1
 have upF:∀a,W₁ a→(FW ft env a∨W a)∨s₀.heap.get? a=none:=λa q=>(hW1 a q).elim (λq=>.inl (.inr q)) .inr
 cases ds with
 | nil=>
  refine yR (hI.stop I j hW) λs1 q=>wpAny_mono (ho Γ σ s1 fl Γ' c' q.1 (F.extW q.2 o1.l o1.c) run) (λf s2 q2=>?_) λ_ _ f=>f
  obtain⟨σ2,q2,I2,x2,F2,r2⟩:=q2
  exact hR f σ2 s2 q2 I2 ((x.join I q.2 upF).trans q.1 (x2.weaken (λ_ h=>.inl h) λ_ h=>h.elim)) F2 r2
 | cons d ds=>
  refine uX (hI.step I j hW) λv s2 q=>?_
  obtain⟨g',W₂,hW2,I2,x2,w2,r2,j2⟩:=q
  have hW2':∀a,W₂ a→W a∨s₀.heap.get? a=none:=λa q=>(hW2 a q).elim (hW1 a) λq=>(Ext.back I x q).elim .inr λq'=>q'.elim (λh=>(F.there h).elim λ_ e=>nE (q.symm.trans e)) .inl
  have F2:Frm ft env Γ ⟨g',σ.own,σ.sto⟩ s2.heap:=F.extW x2 o1.l o1.c
  have x02:=x.join I x2 upF
  have own':∀a,W₂ a→a∉σ.own:=λa h=>(hW2 a h).elim (λq=>(hW a q).2) λq=>(I.notIn q).1
  have o2:=off hW2'
  clear upF hW1 hW2 x o1 F
  refine bE3 run λf Γ2 c2 e2 run=>bE e2 λΓ1 e1 e2=>bE3 e2 λf1 Γ3 c3 e3 e2=>?_
  refine wpAny_mono (hT Γ ⟨g',σ.own,σ.sto⟩ s2 d v Γ1 I2 F2 r2 e1) (λ_ s3 q=>wpAny_mono (hb Γ1 ⟨g',σ.own,σ.sto⟩ s3 f1 Γ3 c3 q.1 q.2.2 e3) (λfw s4 p=>?_) λ_ _ f=>f) λ_ _ f=>f
  obtain⟨I3,x3,F3⟩:=q
  obtain⟨σ4,q4,I4,x4,F4,r4⟩:=p
  have x04:=(x02.trans I2 (x3.weaken (λ_ h=>.inl h) λ_ h=>h.elim)).trans I3 (x4.weaken (λ_ h=>.inl h) λ_ h=>h.elim)
  have x24:=x3.trans I3 x4
  have go:(bG tg q ds Γ3 c3).bind (BR qo)=some (fl,Γ',c')→∃m,m<(d::ds).length∧K m s4:=λrun=>⟨ds.length,Nat.lt_succ_self _,hK
   { hW1:=hW2',I:=I4,x:=x04,F:=F4,run:=(by rw[q4];exact run),j:=hI.frame j2 x24.le I2.sub I4.sub (λa o hw e=>x24.keep a o e (own' a hw) λh=>o2.fw hw h) λi y _ e=>x24.gens i y e λh=>h,hW:=λa hw=>(hI.there j2 a hw).elim λo ho'=>x24.stay ho' (w2 a hw) (own' a hw) λh=>o2.fw hw h }⟩
  clear hK x02 x24 x3 x4 j2 w2
  have run':=run
  cases f1 with
  | next=>cases fw with
   | next=>exact go (by rw[show bG tg q ds Γ3 c3=some (f,Γ2,c2)from e2];exact run)
   | _=>exact False.elim r4
  | cont=>cases fw with
   | cont=>exact go (by rw[show bG tg q ds Γ3 c3=some (f,Γ2,c2)from e2];exact run)
   | _=>exact False.elim r4
  | brk=>cases fw with
   | brk=>cases e2;cases run;exact hR .next σ4 s4 q4 I4 x04 F4 trivial
   | _=>exact False.elim r4
  | ret d=>cases fw with
   | ret v=>cases e2;cases run;exact hR _ σ4 s4 q4 I4 x04 F4 r4
   | _=>exact False.elim r4
theorem Bx{it:Value}{body orelse:List Stmt}{tg:Tg}{q qo:PS}{W:Addr→Prop}{Wg:Nat→Prop}{J:(Addr→Prop)→Heap→List D→Shared→Prop}{fl:Fl}{σ₀:Sg}{s₀:Shared}{ds₀:List D}{Γ₀:List Slot}
  (hI:mB X A tgt it Wg J) (hT:dJ X A ft env tgt tg) (hb:bh X A ft env body q) (ho:bh X A ft env orelse qo)
  (hWL:¬W env.locals) (hWC:∀(i:Nat) (y:Str) (k:VK) (c:Addr),ft.nt[i]?=some (y,k)→k≠.l→env.cells.lookup y=some c→¬W c)
  (I₀:X.Inv σ₀ s₀) (F₀:Frm ft env Γ₀ σ₀ s₀.heap) (J₀:J W σ₀.g ds₀ s₀) (W₀:∀a,W a→σ₀.g.get? a=none∧a∉σ₀.own)
  (hrun:(bG tg q ds₀ Γ₀ σ₀.sto).bind (BR qo)=some (fl,Γ',c')) {R:Result→Shared→Prop}
  (hR:∀f σ' s',σ'.sto=c'→X.Inv σ' s'→Ext (λa=>FW ft env a∨W a) Wg σ₀ s₀ σ' s'→Frm ft env Γ' σ' s'.heap→Cu σ' f fl→R (.ok f) s') :
  codeAny X.M A (.forLoop tgt it body orelse env) R s₀:=
 codeAny_forLoop_any (λn s=>∃ds Γ σ W₁,ds.length=n∧FS X ft env W Wg J σ₀ s₀ tg q qo (fl,Γ',c') ds Γ σ W₁ s)
  (λn s qz1=>by
   obtain⟨ds,Γ,σ,W₁,e,S⟩:=qz1
   subst e
   exact xE hI hT hb ho (IsOff.grow ⟨hWL,hWC⟩ F₀) hR (λS=>⟨_,_,_,_,rfl,S⟩) S) ds₀.length ⟨ds₀,Γ₀,σ₀,W,rfl,λ_ q=>.inl q,I₀,.refl _ _ _ _,F₀,J₀,W₀,hrun⟩
theorem jU{iter:Expr}{body orelse:List Stmt}{pos:Pos}{tg:Tg}{src:PL}{q qo:PS}(hr:Room A 8)(h1:ew X A ft env tgt iter src)(hT:dJ X A ft env tgt tg)(hb:bh X A ft env body q)(ho:bh X A ft env orelse qo)
  (hs:autoParam (∀env x,foldedSetIterable iter env x=pure x) aR):aM X A ft env (.For tgt iter body orelse pos) (fC tg src q qo):=λΓ σ s fl Γ' c' I F h=>by
 (refine bE2 h ?_;(try clear h);intro ds c1 e1 h)
 refine wpAny_For (wpAny_mono (h1 Γ σ s ds c1 I F e1) (λx s1 h2=>wpAny_mono h2 (λit s2 h3=>?_) λ_ _ f=>f) λ_ _ f=>f) (hs env)
 obtain⟨σ2,W,Wg,J,q2,I2,x2,hI,j2,w2,wg2⟩:=h3
 subst q2
 have F2:=F.ext x2
 have hWL:¬W env.locals:=by
  intro hw
  obtain⟨m,hn,_⟩:=F.loc
  obtain⟨o,e⟩:=Heap.Ns.there hn
  rw[(w2 _ hw).1]at e;cases e
 have hWC:∀(i:Nat) (y:Str) (k:VK) (c:Addr),ft.nt[i]?=some (y,k)→k≠.l→env.cells.lookup y=some c→¬W c:=by
  intro i y k c e hk hc hw
  obtain⟨c',hc',ov,⟨o,ho',_⟩,_⟩:=F.cel i y k e hk
  rw[hc]at hc';cases hc'
  rw[(w2 _ hw).1]at ho';cases ho'
 refine Bx hI hT hb ho hWL hWC I2 F2 j2 (λa h=>(w2 a h).2) h λf σ' s' q' I' x' F' r'=>⟨σ',q',I',?_,F',r'⟩
 have xx:=(x2.up (W:=λa=>FW ft env a∨W a) (Wg:=Wg)).trans I2 x'
 refine⟨xx.le,?_,?_,?_,?_,xx.os⟩
 ·obtain⟨m,hm,hf⟩:=xx.own
  exact⟨m,hm,λa ha=>(hf a ha).elim .inl λq=>q.elim .inr λq=>.inl (w2 a q).1⟩
 ·intro a o e n
  rcases xx.fresh a o e n with h|h|h|h
  ·exact .inl h
  ·exact .inr (.inl h)
  ·exact .inr (.inr h)
  ·exact .inl (w2 a h).1
 ·intro a o e n hw
  refine xx.keep a o e n λq=>q.elim hw λq=>?_
  rw[(w2 a q).1]at e;cases e
 ·intro i y e _
  refine xx.gens i y e λq=>?_
  rw[wg2 i q]at e;cases e
noncomputable def eg(t:PB)(body:PS):Nat→List Slot→List Cell→Option (Fl×List Slot×List Cell)
 | 0,_,_=>none
 | n+1,Γ,c=>(t Γ c).bind λ(b,c1)=>if b then(body Γ c1).bind λ(f,Γ2,c2)=>match f with
   | .next=>eg t body n Γ2 c2
   | .cont=>eg t body n Γ2 c2
   | .brk=>some (.next,Γ2,c2)
   | .ret d=>some (.ret d,Γ2,c2)
  else some (.next,Γ,c1)
noncomputable def wI(n:Nat)(t:PB)(body:PS):PS:=eg t body n
theorem Cz{n:Nat}{test:Expr}{body:List Stmt}{pos:Pos}{t:PB}{q:PS}(hr:Room A 8)(ht:SoundB X A ft env test t)(hb:bh X A ft env body q):aM X A ft env (.While test body [] pos) (wI n t q):=λΓ₀ σ₀ s₀ fl Γ' c' I₀ F₀ h=>by
 refine wpAny_While (codeAny_whileLoop (λn s=>∃Γ σ,X.Inv σ s∧Ext (FW ft env) NoG σ₀ s₀ σ s∧Frm ft env Γ σ s.heap∧eg t q n Γ σ.sto=some (fl,Γ',c')) ?_ n ⟨Γ₀,σ₀,I₀,.refl _ _ _ _,F₀,h⟩)
 rintro n s ⟨Γ,σ,I,x,F,run⟩
 cases n with
 | zero=>cases run
 | succ n=>
  (refine bE2 run ?_;(try clear run);intro b c1 e1 run)
  refine wpAny_mono (ht.use (Q:=λb s₂=>if b=true then _ else _) I F e1 λσ1 s1 q1 I1 x1 F1=>?_) (λ_ _ h=>h) λ_ _ f=>f.elim
  subst q1
  cases b with
  | false=>
   cases run
   simp only[Bool.false_eq_true,if_false]
   exact wpAny_execs_nil ⟨σ1,rfl,I1,x.trans I x1.up,F1,trivial⟩
  | true=>
   simp only[if_true]at run⊢
   (refine bE3 run ?_;(try clear run);intro f Γ2 c2 e2 run)
   refine wpAny_mono (hb Γ σ1 s1 f Γ2 c2 I1 F1 e2) (λfw s2 qz1=>?_) λ_ _ f=>f.elim
   obtain⟨σ2,q2,I2,x2,F2,r2⟩:=qz1
   subst q2
   have x02:=(x.trans I x1.up).trans I1 x2
   dsimp only at run
   cases f with
   | next=>cases fw<;>cases r2;exact⟨n,Nat.lt_succ_self _,Γ2,σ2,I2,x02,F2,run⟩
   | cont=>cases fw<;>cases r2;exact⟨n,Nat.lt_succ_self _,Γ2,σ2,I2,x02,F2,run⟩
   | brk=>cases fw<;>cases r2;cases run;exact⟨σ2,rfl,I2,x02,F2,trivial⟩
   | ret d=>
    cases fw<;>first|(cases r2;done)|skip
    cases run
    exact⟨σ2,rfl,I2,x02,F2,r2⟩
end
end Mine
namespace Mine
section
variable{X:Cx}{A:Around}{ft:FT}{env:Env}{Γ Γ':List Slot}{σ:Sg}{s:Shared}{d:D}{c':List Cell}{tgt:Expr}
theorem mh{elts:List Expr}{x1:Nat}{pos:Pos}(e it:Addr)(fp:List Addr)(n:Nat)(P:Nat→Value→Prop)(St:Nat→Heap→Prop)(Kp:Heap→Prop)(dv:Nat→D)
  (DD:Draws X.prog X.w A.in1 it fp n P St) (hne:e≠it) (hef:e∉fp)
  (hval:∀g i x,Kp g→P i x→Rel g x (dv i)) (hmono:∀g g',Kp g→Le g g'→Kp g') (hfp:∀g,Kp g→∀b∈fp,b=it∨∃o,g.get? b=some o) :
  IterAt X A (.Tuple elts x1 pos) (.ref e) (λa=>a=e∨a=it) NoG
   (λg ds s=>∃(i:Nat) (old:Value),IsEnum s.heap e it i old∧St i s.heap∧i≤n∧Kp g∧ds=(List.range (n - i)).map λ(k:Nat)=>D.tup [.int ((i+k:Nat):Int),dv (i+k)]) where
 self:=λ⟨i,old,he,_⟩ _ k=>wpAny_pyIter_enum he k
 step:=λ{σ s d ds} I qz1 hW=>by
  obtain⟨i,old,he,hst,hin,hk,eq⟩:=qz1
  have hlt:i<n:=by
   apply Nat.lt_of_not_le
   intro h
   have:n - i=0:=by(first|lia|omega)
   rw[this]at eq;cases eq
  have e1:n - i=(n - (i+1))+1:=by(first|lia|omega)
  rw[e1,List.range_succ_eq_map,List.map_cons]at eq
  obtain⟨rfl,rfl⟩:=List.cons.inj eq
  refine wpAny_with_toks (n:=s.toks) (Nat.le_refl _) (wpAny_pyNext_enum_itemD DD he hst hlt hne hef λx h' tk hp heo hst' ht hz hkeep htk=>⟨_,rfl,?_⟩)
  have nn:s.heap.get? s.heap.objs.size=none:=get?_push_none
  have hs1:s.heap.objs.size≠e:=by
   intro q
   rw[q]at nn
   rw[show s.heap.get? e=_ from he]at nn;cases nn
  refine wpAny_letOwnedTupleGo_enum heo λh'' he'' hsb=>?_
  have htk':s.toks≤tk+1:=htk
  have keep:∀a o,s.heap.get? a=some o→¬(a=e∨a=it)→h''.get? a=some o:=λa o q hw=>(hsb.2 a λz=>hw (.inl z)).trans (hkeep a o (λz=>hw (.inl z)) (λz=>hw (.inr z)) q)
  have I1:X.Inv σ { s with heap:=h'',toks:=tk+1 }:=Mine.Inv.heap (W:=λa=>a=e∨a=it) I keep (λa q=>⟨(hW a q).2,(hW a q).1⟩) htk'
  obtain⟨n1,n2⟩:=I.notIn nn
  have ht':h''.get? s.heap.objs.size=some (fR (List.toArray [.int i tk,x]) 0):=(hsb.2 _ hs1).trans ht
  have hle:Le σ.g (cN σ.g s.heap.objs.size (fR (List.toArray [.int i tk,x]) 0)):=.put n2
  have hsz:∀a,(a=e∨a=it)→a≠s.heap.objs.size:=by
   rintro a (rfl|rfl) q
   ·exact hs1 q.symm
   ·obtain⟨o,ho⟩:=DD.live i _ hst
    rw[←q,ho]at nn;cases nn
  refine⟨cN σ.g s.heap.objs.size (fR (List.toArray [.int i tk,x]) 0),I1.add ht' n2 n1,⟨hle,⟨[],by simp,by simp⟩,λa o q h0=>?_,λa o q _ hw=>keep a o q hw,λ_ _ q _=>q,rfl⟩,λa ha=>?_,?_,i+1,x,?_,?_,hlt,hmono _ _ hk hle,?_⟩
  ·by_cases ha:a=s.heap.objs.size
   ·subst ha;exact .inl nn
   ·have q':(cN σ.g s.heap.objs.size (fR (List.toArray [.int i tk,x]) 0)).get? a=some o:=q
    rw[bx ha,h0]at q';cases q'
  ·rw[bx (hsz a ha)];exact(hW a ha).1
  ·refine .tup (dQ rfl) (.cons ?_ (.cons ?_ .nil))
   ·exact .int _ _
   ·exact hval _ _ _ (hmono _ _ hk hle) hp
  ·have:((i:Int)+1)=((i+1:Nat):Int):=by(first|lia|omega)
   rw[this]at he'';exact he''
  ·exact DD.frame _ _ _ hst' λb hb o q=>(hsb.2 b λz=>hef (z▸hb)).trans q
  ·rw[List.map_map]
   apply List.map_congr_left
   intro k _
   show D.tup [.int ((i+(k+1):Nat):Int),dv (i+(k+1))]=D.tup [.int ((i+1+k:Nat):Int),dv (i+1+k)]
   rw[show i+(k+1)=i+1+k by(first|lia|omega)]
 stop:=λ{σ s} I qz1 hW=>by
  obtain⟨i,old,he,hst,hin,hk,eq⟩:=qz1
  have hn:i=n:=by
   have:=congrArg List.length eq
   simp at this;(first|lia|omega)
  subst hn
  refine wpAny_pyNext_enum_endD DD he hst λh' hs=>⟨rfl,?_,Ext.heap (tk:=s.toks) λa o q hw=>hs a o (λz=>hw (.inr z)) q⟩
  exact Mine.Inv.heap (W:=λa=>a=e∨a=it) (tk:=s.toks) I (λa o q hw=>hs a o (λz=>hw (.inr z)) q) λa q=>⟨(hW a q).2,(hW a q).1⟩
 frame:=λ{g g' ds s s'} qz1 hle hs hs' hkeep _=>by
  obtain⟨i,old,he,hst,hin,hk,eq⟩:=qz1
  refine⟨i,old,hkeep _ _ (.inl rfl) he,DD.frame _ _ _ hst λb hb o q=>?_,hin,hmono _ _ hk hle,eq⟩
  rcases hfp g hk b hb with rfl|⟨o',ho'⟩
  ·exact hkeep _ _ (.inr rfl) q
  ·have:o=o':=Option.some.inj (q.symm.trans (hs _ _ ho'))
   subst this
   exact hs' _ _ (hle _ _ ho')
 there:=λqz1 a q=>by
  obtain⟨i,old,he,hst,_⟩:=qz1
  rcases q with rfl|rfl
  ·exact⟨_,he⟩
  ·exact DD.live _ _ hst
structure ZJ (z TI TO i1 i2 l1 l2:Addr) (xs ys:List Value) (n1 n2:Nat) (as bs:List D) (g:Heap) (h:Heap) (k:Nat) (a b:Value):Prop where
 hz:IsZip h z TI TO .none
 hTI:IsPair h TI (.ref i1) (.ref i2)
 hTO:IsPair h TO a b
 h1:h.IsListIter i1 l1 k
 h2:h.IsListIter i2 l2 k
 g1:g.get? l1=some (cG xs.toArray n1)
 g2:g.get? l2=some (cG ys.toArray n2)
 r1:RelAll g xs as
 r2:RelAll g ys bs
theorem tR{α:Type}{as:List α}{k:Nat}{x:α}(h:as[k]?=some x):as.drop k=x::as.drop (k+1):=by
 obtain⟨lt,q⟩:=List.getElem?_eq_some_iff.mp h
 rw[List.drop_eq_getElem_cons lt,q]
theorem B3{as bs:List D}{k:Nat}{d:D}{ds:List D}(eq:d::ds=((as.drop k).zip (bs.drop k)).map λp=>D.tup [p.1,p.2]):∃da db,as[k]?=some da∧bs[k]?=some db∧d=.tup [da,db]∧ds=((as.drop (k+1)).zip (bs.drop (k+1))).map λp=>D.tup [p.1,p.2]:=by
 cases ha:as[k]? with
 | none=>rw[List.drop_eq_nil_of_le (List.getElem?_eq_none_iff.mp ha)]at eq;cases eq
 | some da=>
  cases hb:bs[k]? with
  | none=>rw[List.drop_eq_nil_of_le (as:=bs) (List.getElem?_eq_none_iff.mp hb),List.zip_nil_right]at eq;cases eq
  | some db=>
   rw[tR ha,tR hb,List.zip_cons_cons,List.map_cons]at eq
   injection eq with e1 e2
   exact⟨da,db,rfl,rfl,e1,e2⟩
theorem AM{elts:List Expr}{x1:Nat}{pos:Pos}(hh:A.handled=none)(z TI TO i1 i2 l1 l2:Addr)(xs ys:List Value)(n1 n2:Nat)(as bs:List D)(ap:ZipApart z TI TO i1 i2 l1 l2) :
  IterAt X A (.Tuple elts x1 pos) (.ref z) (λa=>a=z∨a=TI∨a=TO∨a=i1∨a=i2) NoG
   (λg ds s=>∃(k:Nat) (a b:Value),ZJ z TI TO i1 i2 l1 l2 xs ys n1 n2 as bs g s.heap k a b∧ds=((as.drop k).zip (bs.drop k)).map λp=>D.tup [p.1,p.2]) where
 self:=λh _ q=>h.elim λ_ h=>h.elim λ_ h=>h.elim λ_ h=>wpAny_pyIter_zip h.1.hz q
 step:=λ{σ s d ds} I qz1 hW=>by
  obtain⟨k,a,b,Z,eq⟩:=qz1
  obtain⟨hz,hTI,hTO,h1,h2,g1,g2,r1,r2⟩:=Z
  have hl1:s.heap.IsList l1 xs.toArray:=⟨_,I.sub _ _ g1,rfl,_,rfl⟩
  have hl2:s.heap.IsList l2 ys.toArray:=⟨_,I.sub _ _ g2,rfl,_,rfl⟩
  obtain⟨da,db,hda,hdb,e1,e2⟩:=B3 eq
  subst e1 e2
  clear eq
  obtain⟨x,hx,rx⟩:=r1.get hda
  obtain⟨y,hy,ry⟩:=r2.get hdb
  refine wpAny_pyNext_zip_item ap hz hTI hTO h1 h2 hl1 hl2 (x:=x) (y:=y) (by simpa using hx) (by simpa using hy) λh' hz' hTO' h1' h2' hp hsz hkeep=>⟨_,rfl,?_⟩
  have nn:s.heap.get? s.heap.objs.size=none:=get?_push_none
  refine wpAny_letOwnedTupleGo_zip hz' λh'' hz'' hsb=>?_
  have apart:∀c,(c=z∨c=TI∨c=TO∨c=i1∨c=i2)→c≠s.heap.objs.size:=by
   rintro c (rfl|rfl|rfl|rfl|rfl) q
   ·rw[q]at hz;rw[show s.heap.get? _=_ from hz]at nn;cases nn
   ·rw[q]at hTI;rw[show s.heap.get? _=_ from hTI]at nn;cases nn
   ·rw[q]at hTO;rw[show s.heap.get? _=_ from hTO]at nn;cases nn
   ·obtain⟨o,ho,_⟩:=h1;rw[q,nn]at ho;cases ho
   ·obtain⟨o,ho,_⟩:=h2;rw[q,nn]at ho;cases ho
  have keep:∀c o,s.heap.get? c=some o→¬(c=z∨c=TI∨c=TO∨c=i1∨c=i2)→h''.get? c=some o:=λc o q hw=>
   (hsb.2 c λq=>hw (.inl q)).trans (hkeep c o (λq=>hw (.inl q)) (λq=>hw (.inr (.inr (.inl q)))) (λq=>hw (.inr (.inr (.inr (.inl q))))) (λq=>hw (.inr (.inr (.inr (.inr q))))) q)
  have I1:X.Inv σ { s with heap:=h'',toks:=s.toks }:=Mine.Inv.heap (W:=λc=>c=z∨c=TI∨c=TO∨c=i1∨c=i2) I keep λc q=>⟨(hW c q).2,(hW c q).1⟩
  obtain⟨m1,m2⟩:=I.notIn nn
  have hp':h''.get? s.heap.objs.size=some (fR (List.toArray [x,y]) 0):=(hsb.2 _ λq=>apart z (.inl rfl) q.symm).trans hp
  have hle:Le σ.g (cN σ.g s.heap.objs.size (fR (List.toArray [x,y]) 0)):=.put m2
  have hTI':h'.get? TI=s.heap.get? TI:=by
   rw[show s.heap.get? TI=_ from hTI]
   exact hkeep TI _ ap.TIz ap.TITO ap.TIi1 ap.TIi2 hTI
  refine⟨cN σ.g s.heap.objs.size (fR (List.toArray [x,y]) 0),I1.add hp' m2 m1,⟨hle,⟨[],by simp,by simp⟩,λc o q h0=>?_,λc o q _ hw=>keep c o q hw,λ_ _ q _=>q,rfl⟩,λc hc=>?_,?_,
   k+1,x,y,⟨hz'',?_,?_,h1'.extBut hsb.extBut ap.i1z,h2'.extBut hsb.extBut ap.i2z,hle _ _ g1,hle _ _ g2,r1.mono hle,r2.mono hle⟩,rfl⟩
  ·by_cases hc:c=s.heap.objs.size
   ·subst hc;exact .inl nn
   ·have q':(cN σ.g s.heap.objs.size (fR (List.toArray [x,y]) 0)).get? c=some o:=q
    rw[bx hc,h0]at q';cases q'
  ·rw[bx (apart c hc)];exact(hW c hc).1
  ·exact .tup (dQ rfl) (.cons (rx.mono hle) (.cons (ry.mono hle) .nil))
  ·exact(hsb.2 _ ap.TIz).trans (hTI'.trans hTI)
  ·exact(hsb.2 _ ap.TOz).trans hTO'
 stop:=λ{σ s} I qz1 hW=>by
  obtain⟨k,a,b,Z,eq⟩:=qz1
  obtain⟨hz,hTI,hTO,h1,h2,g1,g2,r1,r2⟩:=Z
  have hl1:s.heap.IsList l1 xs.toArray:=⟨_,I.sub _ _ g1,rfl,_,rfl⟩
  have hl2:s.heap.IsList l2 ys.toArray:=⟨_,I.sub _ _ g2,rfl,_,rfl⟩
  have hend:xs.toArray[k]?=none∨ys.toArray[k]?=none:=by
   have hl:=congrArg List.length eq
   simp at hl
   have e1:=r1.length
   have e2:=r2.length
   by_cases q:xs.length≤k
   ·left;simp;(first|lia|omega)
   ·right;simp;(first|lia|omega)
  refine wpAny_pyNext_zip_end hh ap hz hTI hTO h1 h2 hl1 hl2 hend λh' hkeep=>⟨rfl,?_,Ext.heap (tk:=s.toks) λc o q hw=>hkeep c o (λq=>hw (.inl q)) (λq=>hw (.inr (.inr (.inl q)))) (λq=>hw (.inr (.inr (.inr (.inl q))))) (λq=>hw (.inr (.inr (.inr (.inr q))))) q⟩
  exact Mine.Inv.heap (W:=λc=>c=z∨c=TI∨c=TO∨c=i1∨c=i2) (tk:=s.toks) I (λc o q hw=>hkeep c o (λq=>hw (.inl q)) (λq=>hw (.inr (.inr (.inl q)))) (λq=>hw (.inr (.inr (.inr (.inl q))))) (λq=>hw (.inr (.inr (.inr (.inr q))))) q) λc q=>⟨(hW c q).2,(hW c q).1⟩
 frame:=λ{g g' ds s s'} q hle _ _ hkeep _=>by
  obtain⟨k,a,b,Z,eq⟩:=q
  obtain⟨o1,e1,q1⟩:=Z.h1
  obtain⟨o2,e2,q2⟩:=Z.h2
  exact⟨k,a,b,⟨hkeep _ _ (.inl rfl) Z.hz,hkeep _ _ (.inr (.inl rfl)) Z.hTI,hkeep _ _ (.inr (.inr (.inl rfl))) Z.hTO,⟨o1,hkeep _ _ (.inr (.inr (.inr (.inl rfl)))) e1,q1⟩,⟨o2,hkeep _ _ (.inr (.inr (.inr (.inr rfl)))) e2,q2⟩,hle _ _ Z.g1,hle _ _ Z.g2,Z.r1.mono hle,Z.r2.mono hle⟩,eq⟩
 there:=λh c q=>h.elim λk h=>h.elim λa h=>h.elim λb h=>by
  rcases q with q|q|q|q|q<;>rw[q]
  ·exact⟨_,h.1.hz⟩
  ·exact⟨_,h.1.hTI⟩
  ·exact⟨_,h.1.hTO⟩
  ·exact h.1.h1.elim λo e=>⟨o,e.1⟩
  ·exact h.1.h2.elim λo e=>⟨o,e.1⟩
end
end Mine
namespace Mine
noncomputable def eX:List D→Option (List Int)
 | []=>some []
 | .int i::ds=>(eX ds).map (i::·)
 | _=>none
noncomputable def gO:List D→Option (List Str)
 | []=>some []
 | .str x::ds=>(gO ds).map (x::·)
 | _=>none
theorem RelAll.ints{g:Heap}{vs:List Value}{ds:List D}{ns:List Int}(r:RelAll g vs ds)(h:eX ds=some ns):IntsAre vs ns:=by
 induction ds generalizing vs ns with
 | nil=>cases h;exact r.nilE λe=>e▸.nil
 | cons d ds ih=>
  refine r.consE λv ws e r rs=>?_
  cases d with
  | int i=>exact mE h λms e1 h=>r.intE λt e2=>by rw[e,e2,←h];exact .cons _ _ (ih rs e1)
  | _=>exact nE h
theorem RelAll.strs{g:Heap}{vs:List Value}{ds:List D}{ns:List Str}(r:RelAll g vs ds)(h:gO ds=some ns):StrsAre vs ns:=by
 induction ds generalizing vs ns with
 | nil=>cases h;exact r.nilE λe=>e▸.nil
 | cons d ds ih=>
  refine r.consE λv ws e r rs=>?_
  cases d with
  | str i=>exact mE h λms e1 h=>r.strE λt e2=>by rw[e,e2,←h];exact .cons _ _ (ih rs e1)
  | _=>exact nE h
theorem pj{g:Heap}{vs:List Value}{ns:List Int}(h:IntsAre vs ns):RelAll g vs (ns.map D.int):=by
 induction h with
 | nil=>exact .nil
 | cons n t _ ih=>exact .cons (.int n t) ih
theorem fH:∀{vs:List Value} {ns:List Int},IntsAre vs ns→∃xs:List (Int×Tok),vs=xs.map (λp=>Value.int p.1 p.2)∧ns=xs.map (·.1)
 | _,_,.nil=>⟨[],rfl,rfl⟩
 | _,_,.cons n t h=>let ⟨xs,e1,e2⟩:=fH h;⟨(n,t)::xs,by rw[e1];rfl,by rw[e2];rfl⟩
theorem preSum_eq(f:Nat→Int):∀n,preSum f n=((List.range n).map f).sum
 | 0=>rfl
 | n+1=>by rw[preSum,preSum_eq f n,List.range_succ,List.map_append,List.sum_append];simp
theorem nS(f:Nat→Int)(B:Int)(hB:0≤B):∀n,(∀j,j<n→-B≤f j∧f j≤B)→-(n*B)≤preSum f n∧preSum f n≤n*B
 | 0,_=>by simp[preSum]
 | n+1,h=>by
  have ih:=nS f B hB n λj hj=>h j (by(first|lia|omega))
  have h1:=h n (by(first|lia|omega))
  have e:((n+1:Nat):Int)*B=n*B+B:=by rw[Int.natCast_add,Int.add_mul];simp
  rw[preSum,e]
  (first|lia|omega)
section
variable{X:Cx}{A:Around}{ft:FT}{env:Env}{Γ Γ':List Slot}{σ:Sg}{s:Shared}{d:D}{c':List Cell}{tgt:Expr}
theorem PostE.kept{h':Heap}{tk:Nat}{v:Value}(I:X.Inv σ s)(keep:∀a o,s.heap.get? a=some o→h'.get? a=some o)(ht:s.toks≤tk)(r:Rel σ.g v d):PostE X σ s d σ.sto v { s with heap:=h',toks:=tk }:=
 ⟨σ,rfl,Mine.Inv.heap (W:=NoW) I (λa o e _=>keep a o e) (λ_ f=>f.elim) ht,Ext.heap λa o e _=>keep a o e,r⟩
theorem ow{h':Heap}{tk:Nat}{a:Addr}{o:Obj}(I:X.Inv σ s)(keep:∀a o,s.heap.get? a=some o→h'.get? a=some o)(ht:s.toks≤tk)(hn:s.heap.get? a=none)(e:h'.get? a=some o) :
  X.Inv ⟨cN σ.g a o,σ.own,σ.sto⟩ { s with heap:=h',toks:=tk }∧Ext NoW NoG σ s ⟨cN σ.g a o,σ.own,σ.sto⟩ { s with heap:=h',toks:=tk }∧Le σ.g (cN σ.g a o)∧(cN σ.g a o).get? a=some o:=by
 obtain⟨n1,n2⟩:=I.notIn hn
 have I1:X.Inv σ { s with heap:=h',toks:=tk }:=Mine.Inv.heap (W:=NoW) I (λa o e _=>keep a o e) (λ_ f=>f.elim) ht
 refine⟨I1.add e n2 n1,⟨.put n2,⟨[],by simp,by simp⟩,λb o' q h0=>?_,λb o' q _ _=>keep b o' q,λ_ _ q _=>q,rfl⟩,.put n2,dQ (j8 e)⟩
 by_cases hb:b=a
 ·subst hb;exact .inl hn
 ·have q':(cN σ.g a o).get? b=some o':=q
  rw[bx hb,h0]at q';cases q'
theorem PostE.freshL{h':Heap}{tk:Nat}{a:Addr}{vs:List Value}{n:Nat}{ds:List D}(I:X.Inv σ s)(keep:∀a o,s.heap.get? a=some o→h'.get? a=some o)(ht:s.toks≤tk)(hn:s.heap.get? a=none)
  (e:h'.get? a=some (cG vs.toArray n)) (r:RelAll σ.g vs ds):PostE X σ s (.lst ds) σ.sto (.ref a) { s with heap:=h',toks:=tk }:=
 let ⟨I',x,le,e'⟩:=ow I keep ht hn e
 ⟨⟨cN σ.g a (cG vs.toArray n),σ.own,σ.sto⟩,rfl,I',x,.lst e' (r.mono le)⟩
noncomputable def COk(X:Cx)(A:Around)(f:Value)(F:List D→Option D):Prop:=
 ∀σ s vs ds d,X.Inv σ s→RelAll σ.g vs ds→F ds=some d→wpAny X.M A (call f vs) (PostE X σ s d σ.sto) NoE s
noncomputable def bo(F:List D→Option D)(ps:PL):PE:=λΓ c=>(ps Γ c).bind λ(ds,c1)=>(F ds).map λd=>(d,c1)
theorem EA{T:String}{x:Str}{np pos:Pos}{e:Expr}{rest:List Expr}{F:List D→Option D}{ps:PL}(hx:x∈ft.gt)(hn:X.mg x=none)(hb:X.mb x=some (.type T))(hL:SoundL X A ft env pos (e::rest) ps)(hC:COk X A (.type T) F)
  (he:autoParam (∀env,starEach (e::rest) env=(false,eval e env)::starEach rest env) aR) (hp:autoParam (∀env,(backTo pos (starEach rest env)).any (·.1)=false) aR):SoundE X A ft env (.Call (.Name x np) (e::rest) [] pos) (bo F ps):=λΓ σ s d c' I FF h=>by
 (refine bE2 h ?_;(try clear h);intro ds c1 e1 h)
 (refine mE h ?_;(try clear h);intro r e2 h)
 cases h
 refine wpAny_Call_NameR (eval_Name (FF.ok.odd x (List.mem_append_right _ hx)).1 (bY I FF hx hn hb ?_))
 refine callWith_type1 (hL.use I FF e1 λvs σ1 s1 q1 I1 x1 F1 r1=>?_) (he env) (hp env)
 subst q1
 exact wpAny_mono (hC σ1 s1 vs ds _ I1 r1 e2) (λ_ _ k=>PostE.trans I1 x1 k) λ_ _ f=>f
theorem Cq{id:String}{x:Str}{np pos:Pos}{e:Expr}{rest:List Expr}{F:List D→Option D}{ps:PL}(hx:x∈ft.gt)(hn:X.mg x=none)(hb:X.mb x=some (.builtin id))(hL:SoundL X A ft env pos (e::rest) ps)(hC:COk X A (.builtin id) F)
  (he:autoParam (∀env,starEach (e::rest) env=(false,eval e env)::starEach rest env) aR) (hp:autoParam (∀env,(backTo pos (starEach rest env)).any (·.1)=false) aR):SoundE X A ft env (.Call (.Name x np) (e::rest) [] pos) (bo F ps):=λΓ σ s d c' I FF h=>by
 (refine bE2 h ?_;(try clear h);intro ds c1 e1 h)
 (refine mE h ?_;(try clear h);intro r e2 h)
 cases h
 refine wpAny_Call_NameR (eval_Name (FF.ok.odd x (List.mem_append_right _ hx)).1 (bY I FF hx hn hb ?_))
 refine callWith_builtin1 (hL.use I FF e1 λvs σ1 s1 q1 I1 x1 F1 r1=>?_) (he env) (hp env)
 subst q1
 exact wpAny_mono (hC σ1 s1 vs ds _ I1 r1 e2) (λ_ _ k=>PostE.trans I1 x1 k) λ_ _ f=>f
theorem DT{x:Str}{pos:Pos}{v:Value}(hx:x∈ft.gt)(hn:X.mg x=none)(hb:X.mb x=some v):SoundE X A ft env (.Name x pos) (mS v):=λΓ σ s d c' I F h=>by
 cases h
 exact eval_Name (F.ok.odd x (List.mem_append_right _ hx)).1 (bY I F hx hn hb (PostE.same I (.obj _)))
theorem iS{α:Type _}{c:Prop}[Decidable c]{a b:α}{G:Prop}(h:(if c then some a else none)=some b)(k:c→a=b→G):G:=iE h (λq h=>k q (Option.some.inj h)) λ_ h=>nE h
noncomputable def on1{α:Type}(F:D→Option α):List D→Option α
 | [a]=>F a
 | _=>none
noncomputable def on2{α:Type}(F:D→D→Option α):List D→Option α
 | [a,b]=>F a b
 | _=>none
theorem BQ{f:Value}{F:D→Option D}(h:∀{σ:Sg} {s:Shared} {v:Value} {a d:D},X.Inv σ s→Rel σ.g v a→F a=some d→wpAny X.M A (call f [v]) (PostE X σ s d σ.sto) NoE s):COk X A f (on1 F):=λσ s vs ds d I r e=>by
 cases r with
 | nil=>exact nE e
 | cons r rs=>cases rs with
  | nil=>exact h I r e
  | cons _ _=>exact nE e
theorem wW{f:Value}{F:D→D→Option D}(h:∀{σ:Sg} {s:Shared} {v w:Value} {a b d:D},X.Inv σ s→Rel σ.g v a→Rel σ.g w b→F a b=some d→wpAny X.M A (call f [v,w]) (PostE X σ s d σ.sto) NoE s):COk X A f (on2 F):=λσ s vs ds d I r e=>by
 cases r with
 | nil=>exact nE e
 | cons r rs=>cases rs with
  | nil=>exact nE e
  | cons r2 rs=>cases rs with
   | nil=>exact h I r r2 e
   | cons _ _=>exact nE e
theorem zP{f:Value}{F:List D→Option D}(h:∀{σ:Sg} {s:Shared} {l:Addr} {vs:List Value} {n:Nat} {ds:List D} {d:D},X.Inv σ s→s.heap.get? l=some (cG vs.toArray n)→RelAll σ.g vs ds→F ds=some d→wpAny X.M A (call f [.ref l]) (PostE X σ s d σ.sto) NoE s) :
  COk X A f (on1 λa=>onL a F):=BQ λI r e=>by
 refine qS r e λl vs n ds q r h'=>?_
 exact h I (I.sub _ _ q) r h'
noncomputable def d9:List D→Option D:=on1 λa=>match a with
 | .str x=>if x.length≤100000 then some (.int x.length)else none
 | .lst ds=>if ds.length≤100000 then some (.int ds.length)else none
 | .tup ds=>if ds.length≤100000 then some (.int ds.length)else none
 | _=>none
theorem nU:COk X A (.builtin "len") d9:=BQ λI r e=>by
 cases r with
 | str x t=>
  refine iS e λhl h=>?_
  subst h
  exact P.len_str (by(first|lia|omega)) (PostE.here I (.int _ _))
 | lst q r=>
  refine iS e λhl h=>?_
  subst h
  refine call_len_list ⟨_,I.sub _ _ q,rfl,_,rfl⟩ (by simp only[List.size_toArray,r.length];(first|lia|omega)) ?_
  rw[List.size_toArray,r.length]
  exact PostE.here I (.int _ _)
 | tup q r=>
  refine iS e λhl h=>?_
  subst h
  refine PyProof.Rows.len_tuple ⟨_,I.sub _ _ q,rfl,_,rfl⟩ (by simp only[List.size_toArray,r.length];(first|lia|omega)) ?_
  rw[List.size_toArray,r.length]
  exact PostE.here I (.int _ _)
 | _=>exact nE e
noncomputable def dP(ns:List Int):Bool:=ns.length≤100000 && ns.all λn=>decide (-1000000000≤n) && decide (n≤1000000000)
noncomputable def oO:List D→Option D:=on1 λa=>onL a λds=>(eX ds).bind λns=>if dP ns then some (.int ns.sum)else none
theorem gX(xs:List (Int×Tok))(i:Nat):numAt xs.toArray i=(xs.map (·.1)).getD i 0:=by
 unfold numAt;simp[List.getD]
theorem Ag(hr:Room A 8):COk X A (.builtin "sum") oO:=zP λ{σ s l ws n es d} I e r h=>by
 refine bE h λns e1 h=>iS h λhs h=>?_
 subst h
 obtain⟨xs,w1,w2⟩:=fH (r.ints e1)
 simp only[dP,Bool.and_eq_true,decide_eq_true_eq,List.all_eq_true]at hs
 have hl:s.heap.IsList l (intItems xs.toArray):=⟨_,e,rfl,n,by simp[intItems,w1]⟩
 have hb:∀j,j<xs.length→-1000000000≤numAt xs.toArray j∧numAt xs.toArray j≤1000000000:=by
  intro j hj
  rw[gX]
  have hj':j<(xs.map (·.1)).length:=by simpa using hj
  have e:(xs.map (·.1)).getD j 0=(xs.map (·.1))[j]:=by simp[List.getD,hj]
  rw[e]
  exact hs.2 _ (w2▸List.getElem_mem hj')
 have hn:xs.length≤100000:=by
  have:=congrArg List.length w2
  simp at this;(first|lia|omega)
 refine wpAny_with_toks (n:=s.toks) (Nat.le_refl _) (sum_intList hr.hand hl (λj hj=>?_) λh' tk t' keep htk=>?_)
 ·have hj':j<xs.length:=by simpa using hj
  have h1:=hb j hj'
  have h2:=nS (numAt xs.toArray) 1000000000 (by(first|lia|omega)) (j+1) λi hi=>hb i (by(first|lia|omega))
  have h3:((j+1:Nat):Int)*1000000000≤100000*1000000000:=Int.mul_le_mul_of_nonneg_right (by(first|lia|omega)) (by(first|lia|omega))
  exact⟨⟨by(first|lia|omega),by(first|lia|omega)⟩,by(first|lia|omega),by(first|lia|omega)⟩
 ·have:preSum (numAt xs.toArray) xs.toArray.size=ns.sum:=by
   rw[preSum_eq,w2]
   congr 1
   apply List.ext_getElem
   ·simp
   ·intro i h1 h2
    simp only[List.getElem_map,List.getElem_range]
    rw[gX]
    have:i<xs.length:=by simpa using h2
    simp[List.getD,this]
  rw[this]
  exact PostE.kept I keep htk (.int _ _)
noncomputable def gj(ns:List Int):Nat:=argBest (λi j=>decide (ns.getD i 0 > ns.getD j 0)) (ns.length - 1)
noncomputable def Ac:List D→Option D:=on1 λa=>onL a λds=>(eX ds).bind λns=>if ns.length≤100000 then(ns[gj ns]?).map .int else none
theorem Et(hr:Room A 8):COk X A (.builtin "max") Ac:=zP λ{σ s l ws n es d} I e r h=>by
 refine bE h λns e1 h=>iE h (λhs h=>mE h λm e2 h=>?_) λ_ h=>nE h
 subst h
 obtain⟨xs,w1,w2⟩:=fH (r.ints e1)
 have hl:s.heap.IsList l (intItems xs.toArray):=⟨_,e,rfl,n,by simp[intItems,w1]⟩
 have hne:0<xs.toArray.size:=by
  have:=(List.getElem?_eq_some_iff.mp e2).1
  rw[w2]at this;simp at this ⊢;(first|lia|omega)
 refine wpAny_with_toks (n:=s.toks) (Nat.le_refl _) (max_intList hr.hand hl hne λv h' tk hv keep htk=>?_)
 have hf:(λi j=>decide (numAt xs.toArray i > numAt xs.toArray j))=λi j=>decide (ns.getD i 0 > ns.getD j 0):=by
  funext i j;rw[gX,gX,w2]
 rw[hf]at hv
 have hlen:xs.toArray.size=ns.length:=by rw[w2];simp
 rw[hlen]at hv
 have hv':v=.int m (((xs[gj ns]?).map (·.2)).getD 0):=by
  have e3:(ns[gj ns]?)=some m:=e2
  rw[w2,List.getElem?_map]at e3
  (refine mE e3 ?_;(try clear e3);intro p hp hpm)
  have hv2:(intItems xs.toArray)[gj ns]?=some v:=hv
  rw[←w2]at hp
  have:(intItems xs.toArray)[gj ns]?=some (.int p.1 p.2):=by simp[intItems,hp]
  rw[this]at hv2
  cases hv2
  simp[hp,hpm]
 rw[hv']
 exact PostE.kept I keep htk (.int _ _)
noncomputable def dN(ns:List Int):List Int:=ns.mergeSort λa b=>decide (a≤b)
noncomputable def i8:List D→Option D:=on1 λa=>onL a λds=>(eX ds).bind λns=>if ns.length<64 then some (.lst ((dN ns).map .int))else none
theorem ji{ns ms:List Int}(hp:ms.Perm ns)(hs:ms.Pairwise (·≤·)):ms=dN ns:=by
 have h1:(dN ns).Pairwise (·≤·):=by
  have:=List.pairwise_mergeSort (le:=λ(a b:Int)=>decide (a≤b)) (by intro a b c;simp;(first|lia|omega)) (by intro a b;simp;(first|lia|omega)) ns
  unfold dN
  simpa using this
 exact(hp.trans (List.mergeSort_perm ns _).symm).eq_of_pairwise (by intro a b _ _ h k;exact Int.le_antisymm h k) hs h1
theorem lU{h:Heap}{vs:List Value}{out:Array Value}:(∀b o,h.get? b=some o→(sortedAll h vs out).get? b=some o)∧∃n,(sortedAll h vs out).get? (h.objs.size+1)=some (cG out n):=
 ⟨λ_ _ e=>sortedAll_old e,sortedAll_at h vs out⟩
theorem tm:COk X A (.builtin "sorted") i8:=zP λ{σ s l ws n es d} I e r h=>by
 refine bE h λns e1 h=>iS h λhs h=>?_
 subst h
 have hi:=r.ints e1
 have hlen:ws.length=ns.length:=by
  have:=fH hi
  obtain⟨xs,w1,w2⟩:=this
  rw[w1,w2];simp
 refine sorted_ints ⟨_,e,rfl,n,rfl⟩ hi (by(first|lia|omega)) λout ns' h1 h2 h3=>?_
 obtain⟨keep,m,ho⟩:=lU (h:=s.heap) (vs:=ws) (out:=out)
 have nn:s.heap.get? (s.heap.objs.size+1)=none:=by
  cases q:s.heap.get? (s.heap.objs.size+1)with
  | none=>rfl
  | some o=>exact absurd (Nat.lt_of_succ_lt (Heap.lt_size q)) (Nat.lt_irrefl _)
 rw[←ji h2 h3]
 exact PostE.freshL (vs:=out.toList) (n:=m) I keep (Nat.le_refl _) nn (by simpa using ho) (pj h1)
noncomputable def lj:List D→Option D:=on1 λa=>onI a λi=>if (baseText "0x" 16 i).length≤100000 then some (.str (baseText "0x" 16 i))else none
theorem Ar:COk X A (.builtin "hex") lj:=BQ λI r e=>by
 refine ia r e λi t h=>?_
 refine iS h λhl h=>?_
 subst h
 exact P.hex_of_int (PostE.here I (.str _ _)) (bT hl)
noncomputable def onT{α:Type}(b:D)(f:String→Option α):Option α:=match b with|.obj (.type t)=>f t|_=>none
noncomputable def oh:List D→Option D:=on2 λa b=>onB a λ_=>onT b λt=>if t="bool" then some (.bool true)else none
theorem zI:COk X A (.builtin "isinstance") oh:=wW λ{σ s v w a b d} I r r2 e0=>by
 refine CV r e0 λi h=>?_
 cases r2 with
 | obj v=>cases w with
  | type t=>
   refine iS h λhl h2=>?_
   subst hl h2
   exact IsiPair.bool_bool (PostE.same I (.bool _))
  | _=>exact nE h
 | _=>exact nE h
noncomputable def pU(T:String):D→Bool
 | .str _=>T=="str"
 | .lst _=>T=="list"
 | _=>false
noncomputable def bO(T:String)(F:List D→Option D)(p:PE)(ps:PL):PE:=λΓ c=>(p Γ c).bind λ(a,c1)=>if pU T a then(ps Γ c1).bind λ(ds,c2)=>(F (a::ds)).map λd=>(d,c2)else none
theorem fU{T id:String}{o e:Expr}{rest:List Expr}{name:Str}{apos pos:Pos}{F:List D→Option D}{p:PE}{ps:PL}(h1:SoundE X A ft env o p)(hL:SoundL X A ft env pos (e::rest) ps)
  (pa:PlainAttrs T) (slot:PySem.Slot T name id) (hty:typeOf (.builtin id)=pure (.type "method_descriptor")) (hC:COk X A (.builtin id) F)
  (hbase:autoParam (∀env,attributeBase o name env (eval o env)=eval o env) aR)
  (hfew:autoParam (∀env,((backTo pos (starEach (e::rest) env)).all (λx=>!x.1) && (backToKw pos (keywordEach [] env)).all (λx=>x.1.isSome)
   && decide ((e::rest).length+([]:List Keyword).length+(if ([]:List Keyword).isEmpty then 0 else 1)<30))=true) aR)
  (hline:autoParam ((apos.endLine==pos.line)=true) aR)
  (he:autoParam (∀env,starEach (e::rest) env=(false,eval e env)::starEach rest env) aR) (hp:autoParam (∀env,(backTo pos (starEach rest env)).any (·.1)=false) aR) :
  SoundE X A ft env (.Call (.Attribute o name apos) (e::rest) [] pos) (bO T F p ps):=λΓ σ s d c' I FF h=>by
 (refine bE2 h ?_;(try clear h);intro a c1 e1 h)
 dsimp only at h
 (first|(refine iE h ?_ ?_<;>(clear h;intro _ h))|split at h)
 ·rename_i hT
  (refine bE2 h ?_;(try clear h);intro ds c2 e2 h)
  (refine mE h ?_;(try clear h);intro r e3 h)
  cases h
  refine wpAny_Call_method (hbase env) (hfew env) hline pa slot hty (h1.use I FF e1 λv1 σ1 s1 q1 I1 x1 F1 r1=>?_)
  subst q1
  have hk:s1.TypeIs v1 T∧∀b,v1=.ref b→∃ob,s1.heap.get? b=some ob∧ob.dict=none:=by
   cases r1 with
   | str x t=>
    have:T="str" :=by simpa [pU] using hT
    subst this
    exact⟨typeIs_str _ _ _,λb e=>(nomatch e)⟩
   | lst e r=>
    have:T="list" :=by simpa [pU] using hT
    subst this
    exact⟨⟨_,I1.sub _ _ e,rfl⟩,λb' e'=>by cases e';exact⟨_,I1.sub _ _ e,rfl⟩⟩
   | _=>simp[pU]at hT
  refine⟨hk.1,hk.2,callWith_method1 (first:=[v1]) (hL.use I1 F1 e2 λvs σ2 s2 q2 I2 x2 F2 r2=>?_) (he env) (hp env)⟩
  subst q2
  exact wpAny_mono (hC σ2 s2 (v1::vs) (a::ds) _ I2 (.cons (r1.mono x2.le) r2) e3) (λ_ _ k=>PostE.trans I2 (x1.trans I1 x2) k) λ_ _ f=>f
 ·cases h
noncomputable def dg:List D→Option D:=on2 λa b=>onS a λx=>onL b λds=>(gO ds).bind λys=>if (ys.map (·.length)).sum+ys.length*x.length≤100000 then some (.str (Txt.join x ys))else none
theorem ja:COk X A (.builtin "str.join") dg:=wW λ{σ s v w a b d} I r r2 e0=>by
 refine ox r e0 λx t h=>?_
 refine qS r2 h λl vs n ds e r2 h=>?_
 refine bE h λys e1 h=>iS h λhl h=>?_
 subst h
 exact wpAny_with_toks (n:=s.toks) (Nat.le_refl _) (PyProof.Rows.join_list ⟨_,I.sub _ _ e,rfl,_,rfl⟩ (by simpa using r2.strs e1) (by(first|lia|omega)) λt' k htk=>PostE.here I (.str _ _) htk)
noncomputable def lq:List D→Option D:=on2 λa b=>onS a λx=>onS b λy=>match Builtin.Str.occurrences x y 0 x.length 1 with
  | i::_=>some (.int (i:Nat))
  | []=>none
theorem zZ:COk X A (.builtin "str.index") lq:=wW λ{σ s v w a b d} I r r2 e0=>by
 refine ox r e0 λx t h=>?_
 refine ox r2 h λy u h=>?_
 (first|(refine iE h ?_ ?_<;>(clear h;intro _ h))|split at h)
 ·rename_i e
  cases h
  exact SC.index e (PostE.here I (.int _ _))
 ·exact nE h
noncomputable def eB:List D→Option D:=on2 λa b=>onL a λds=>onI b λk=>(eX ds).bind λns=>if k∈ns∧(PyData.list (ns.map PyData.int)).layable0=true then some (.int (ns.idxOf k:Nat))else none
theorem nY:COk X A (.builtin "list.index") eB:=wW λ{σ s v w a b d} I r r2 e0=>by
 refine qS r e0 λl vs n ds e r h=>?_
 refine ia r2 h λk t h=>?_
 refine bE h λns e1 h=>iS h λhl h=>?_
 subst h
 exact index_list_ints ⟨_,I.sub _ _ e,rfl,_,rfl⟩ (r.ints e1) hl.2 hl.1 (PostE.here I (.int _ _))
end
end Mine
namespace Mine
section
variable{X:Cx}{A:Around}{ft:FT}{env:Env}{Γ Γ':List Slot}{σ:Sg}{s:Shared}{d:D}{c':List Cell}{tgt:Expr}
noncomputable def IOk(X:Cx)(A:Around)(tgt:Expr)(f:Value)(F:List D→Option (List D)):Prop:=
 ∀σ s vs ds out,X.Inv σ s→RelAll σ.g vs ds→F ds=some out→wpAny X.M A (call f vs) (λx s1=>wpAny X.M A (pyIter x) (PostI X A tgt σ s out σ.sto) NoE s1) NoE s
noncomputable def bu(F:List D→Option (List D))(ps:PL):PL:=λΓ c=>(ps Γ c).bind λ(ds,c1)=>(F ds).map λd=>(d,c1)
theorem PostI.trans{σ₁:Sg}{s₁ s₂:Shared}{it:Value}{ds:List D}(I₁:X.Inv σ₁ s₁)(x:Ext NoW NoG σ s σ₁ s₁)(h:PostI X A tgt σ₁ s₁ ds c' it s₂):PostI X A tgt σ s ds c' it s₂:=by
 obtain⟨σ',W,Wg,J,q,I',x',hI,j,w,wg⟩:=h
 refine⟨σ',W,Wg,J,q,I',x.trans I₁ x',hI,j,λa ha=>⟨(Ext.back I₁ x (w a ha).1).elim id λf=>f.elim,(w a ha).2⟩,λi hi=>?_⟩
 cases e:s.gens[i]? with
 | none=>rfl
 | some y=>have q:=x.gens i y e (λf=>f);rw[wg i hi]at q;cases q
theorem B5{T:String}{x:Str}{np pos:Pos}{e:Expr}{rest:List Expr}{F:List D→Option (List D)}{ps:PL}(hx:x∈ft.gt)(hn:X.mg x=none)(hb:X.mb x=some (.type T))(hL:SoundL X A ft env pos (e::rest) ps)(hC:IOk X A tgt (.type T) F)
  (he:autoParam (∀env,starEach (e::rest) env=(false,eval e env)::starEach rest env) aR) (hp:autoParam (∀env,(backTo pos (starEach rest env)).any (·.1)=false) aR):ew X A ft env tgt (.Call (.Name x np) (e::rest) [] pos) (bu F ps):=λΓ σ s ds c' I FF h=>by
 (refine bE2 h ?_;(try clear h);intro ds0 c1 e1 h)
 (refine mE h ?_;(try clear h);intro r e2 h)
 cases h
 refine wpAny_Call_NameR (eval_Name (FF.ok.odd x (List.mem_append_right _ hx)).1 (bY I FF hx hn hb ?_))
 refine callWith_type1 (hL.use I FF e1 λvs σ1 s1 q1 I1 x1 F1 r1=>?_) (he env) (hp env)
 subst q1
 exact wpAny_mono (hC σ1 s1 vs ds0 _ I1 r1 e2) (λ_ _ k=>wpAny_mono k (λ_ _ k=>PostI.trans I1 x1 k) λ_ _ f=>f) λ_ _ f=>f
theorem Ey{f:Value}{F:D→Option (List D)}(h:∀{σ:Sg} {s:Shared} {v:Value} {a:D} {out:List D},X.Inv σ s→Rel σ.g v a→F a=some out→wpAny X.M A (call f [v]) (λx s1=>wpAny X.M A (pyIter x) (PostI X A tgt σ s out σ.sto) NoE s1) NoE s):IOk X A tgt f (on1 F):=λσ s vs ds out I r e=>by
 cases r with
 | nil=>exact nE e
 | cons r rs=>cases rs with
  | nil=>exact h I r e
  | cons _ _=>exact nE e
theorem Ef{f:Value}{F:D→D→Option (List D)}(h:∀{σ:Sg} {s:Shared} {v w:Value} {a b:D} {out:List D},X.Inv σ s→Rel σ.g v a→Rel σ.g w b→F a b=some out→wpAny X.M A (call f [v,w]) (λx s1=>wpAny X.M A (pyIter x) (PostI X A tgt σ s out σ.sto) NoE s1) NoE s):IOk X A tgt f (on2 F):=λσ s vs ds out I r e=>by
 cases r with
 | nil=>exact nE e
 | cons r rs=>cases rs with
  | nil=>exact nE e
  | cons r2 rs=>cases rs with
   | nil=>exact h I r r2 e
   | cons _ _=>exact nE e
theorem cf(s:Shared)(k:Nat):s.heap.get? (s.heap.objs.size+k)=none:=by
 cases q:s.heap.get? (s.heap.objs.size+k)with
 | none=>rfl
 | some o=>exact absurd (Nat.lt_of_le_of_lt (Nat.le_add_right _ k) (Heap.lt_size q)) (Nat.lt_irrefl _)
theorem kU{a b:Int}(ha:-1000000<a∧a<1000000)(hb:-1000000<b∧b<1000000):Builtin.Range.small a b 1=true:=by
 have e:=rangeSize_one a b
 have h1:Builtin.Range.rangeFitsLong a=true:=by simp[Builtin.Range.rangeFitsLong];(first|lia|omega)
 have h2:Builtin.Range.rangeFitsLong b=true:=by simp[Builtin.Range.rangeFitsLong];(first|lia|omega)
 have h4:Builtin.Range.rangeFitsLong (Builtin.Range.rangeSize a b 1)=true:=by
  rw[e];simp only[Builtin.Range.rangeFitsLong];split<;>(simp;try (first|lia|omega))
 have h5:Builtin.Range.rangeFitsLong (b+(1 - 1))=true:=by simp[Builtin.Range.rangeFitsLong];(first|lia|omega)
 have h3:Builtin.Range.rangeFitsLong 1=true:=by decide
 simp only[Builtin.Range.small,h1,h2,h3,h4,h5,Bool.true_and,show ((1:Int) > 0)by decide,if_true,Bool.or_true]
noncomputable def eO(a b:Int):List D:=(List.range (b - a).toNat).map λ(k:Nat)=>D.int (a+k)
noncomputable def cL:List D→Option (List D)
 | [a]=>onI a λn=>if -1000000<n∧n<1000000 then some (eO 0 n)else none
 | [a,b]=>onI a λa=>onI b λb=>if (-1000000<a∧a<1000000)∧(-1000000<b∧b<1000000)then some (eO a b)else none
 | _=>none
theorem mr{a b:Int}{t u v:Tok}{tk:Nat}(hr:Room A 8)(I:X.Inv σ s)(ha:-1000000<a∧a<1000000)(hb:-1000000<b∧b<1000000)(htk:s.toks≤tk) :
  wpAny X.M A (pyIter (.ref s.heap.objs.size)) (PostI X A tgt σ s (eO a b) σ.sto) NoE { s with heap:=s.heap.push { cls:=.type "range",data:=.fields #[.int a t,.int b u,.int 1 v] },toks:=tk }:=by
 obtain⟨I1,x1⟩:=jK (o:={ cls:=.type "range",data:=.fields #[.int a t,.int b u,.int 1 v] }) (tk:=tk) I htk
 refine wpAny_pyIter_range (IsRange.new ..) (kU ha hb) ?_
 obtain⟨I2,x2⟩:=jK (o:={ cls:=.type "range_iterator",data:=.fields #[rawInt a,rawInt (Builtin.Range.rangeSize a b 1),rawInt 1] }) (tk:=tk) I1
 have nn:(s.heap.push { cls:=.type "range",data:=.fields #[.int a t,.int b u,.int 1 v] }).get? (s.heap.push { cls:=.type "range",data:=.fields #[.int a t,.int b u,.int 1 v] }).objs.size=none:=get?_push_none
 refine PostI.of ⟨σ,_,_,_,rfl,I2,x1.trans I1 x2,uY hr.hand _,⟨a,(b - a).toNat,?_,rfl⟩,?_,λ_ f=>f.elim⟩
 ·have:(Builtin.Range.rangeSize a b 1)=((b - a).toNat:Int):=by rw[rangeSize_one];split<;>(first|lia|omega)
  rw[←this]
  exact Heap.get?_push_size _ rfl
 ·rintro c rfl
  exact⟨(Ext.back I1 x1 nn).elim id λf=>f.elim,(I1.notIn nn).2,(I1.notIn nn).1⟩
theorem gg(hr:Room A 8):IOk X A tgt (.type "range") cL:=λσ s vs ds out I r h=>by
 cases r with
 | nil=>exact nE h
 | cons r rs=>cases rs with
  | nil=>
   refine ia r h λn t h=>?_
   refine iS h λhb h=>?_
   subst h
   exact call_range_1 (mr hr I (by(first|lia|omega)) hb (by(first|lia|omega)))
  | cons r2 rs=>cases rs with
   | nil=>
    refine ia r h λa t h=>?_
    refine ia r2 h λb u h=>?_
    refine iS h λhb h=>?_
    subst h
    exact call_range_2 (mr hr I hb.1 hb.2 (by(first|lia|omega)))
   | cons _ _=>exact nE h
noncomputable def hV(ds:List D):List D:=(List.range ds.length).map λ(k:Nat)=>D.tup [.int (k:Int),ds.getD k .none]
noncomputable def ff:List D→Option (List D):=on1 λa=>match a with
 | .lst ds=>some (hV ds)
 | .str x=>some (hV (x.cps.toList.map λc=>D.str ⟨#[c]⟩))
 | _=>none
theorem jd{elts:List Expr}{x1:Nat}{tp:Pos}(hr:Room A 8):IOk X A (.Tuple elts x1 tp) (.type "enumerate") ff:=Ey λ{σ s v a out} I r h=>by
 have n0:s.heap.get? s.heap.objs.size=none:=cf s 0
 have n1:s.heap.get? (s.heap.objs.size+1)=none:=cf s 1
 have hne:s.heap.objs.size+1≠s.heap.objs.size:=Nat.succ_ne_self _
 cases r with
 | @lst l ws n ds e r=>
  cases Option.some.inj h
  clear h
  have hl:s.heap.IsList l ws.toArray:=⟨_,I.sub _ _ e,rfl,_,rfl⟩
  have hl0:l≠s.heap.objs.size:=by rintro rfl;rw[I.sub _ _ e]at n0;cases n0
  have hl1:l≠s.heap.objs.size+1:=by rintro rfl;rw[I.sub _ _ e]at n1;cases n1
  refine call_enumerate_list hl λh' he hit _ keep=>wpAny_pyIter_enum he ?_
  have I1:X.Inv σ { s with heap:=h',toks:=s.toks }:=Mine.Inv.heap (W:=NoW) I (λa o e _=>keep a o e) λ_ f=>f.elim
  refine PostI.of ⟨σ,_,_,_,rfl,I1,Ext.heap (tk:=s.toks) λa o e _=>keep a o e,
   mh (X:=X) (A:=A) (s.heap.objs.size+1) s.heap.objs.size [s.heap.objs.size,l] ws.toArray.size _ _ (λg=>g.get? l=some (cG ws.toArray n)∧RelAll g ws ds) (λk=>ds.getD k .none)
    (Draws.list (A:=A.in1) hr.hand s.heap.objs.size l hl0 ws.toArray) hne ?_ ?_ ?_ ?_,⟨0,.none,he,⟨hit,(let ⟨o,ho,r⟩:=hl;⟨o,keep _ _ ho,r⟩)⟩,Nat.zero_le _,⟨e,r⟩,?_⟩,?_,λ_ f=>f.elim⟩
  ·simp only[List.mem_cons,List.not_mem_nil,or_false,not_or]
   exact⟨hne,λq=>hl1 q.symm⟩
  ·rintro g i x ⟨_,rr⟩ hx
   have hx':ws[i]?=some x:=by simpa using hx
   have hi:i<ds.length:=by rw[←rr.length];exact(List.getElem?_eq_some_iff.mp hx').1
   obtain⟨v,hv,rv⟩:=rr.get (k:=i) (d:=ds[i]) (by simp[hi])
   rw[hx']at hv;cases hv
   simpa [List.getD,hi] using rv
  ·rintro g g' ⟨h1,h2⟩ hle
   exact⟨hle _ _ h1,h2.mono hle⟩
  ·rintro g ⟨h1,_⟩ b hb
   simp only[List.mem_cons,List.not_mem_nil,or_false]at hb
   rcases hb with rfl|rfl
   ·exact .inl rfl
   ·exact .inr ⟨_,h1⟩
  ·unfold hV
   rw[List.size_toArray,r.length,Nat.sub_zero]
   apply List.map_congr_left
   intro k _
   rw[Nat.zero_add]
  ·rintro a (rfl|rfl)
   ·exact⟨n1,(I.notIn n1).2,(I.notIn n1).1⟩
   ·exact⟨n0,(I.notIn n0).2,(I.notIn n0).1⟩
 | str x t=>
  cases Option.some.inj h
  clear h
  refine call_enumerate_str λh' he hit _ keep=>wpAny_pyIter_enum he ?_
  have I1:X.Inv σ { s with heap:=h',toks:=s.toks }:=Mine.Inv.heap (W:=NoW) I (λa o e _=>keep a o e) λ_ f=>f.elim
  have DD:Draws X.prog X.w A.in1 s.heap.objs.size [s.heap.objs.size] x.cps.size (λi v=>∃c u,x.cps[i]?=some c∧v=.str ⟨#[c]⟩ u) (λi h=>h.IsStrIter s.heap.objs.size (strIterType x) x t i):=by
   unfold strIterType
   split
   ·exact Draws.strAscii (A:=A.in1) hr.hand _ x t
   ·exact Draws.strWide (A:=A.in1) hr.hand _ x t
  refine PostI.of ⟨σ,_,_,_,rfl,I1,Ext.heap (tk:=s.toks) λa o e _=>keep a o e,
   mh (X:=X) (A:=A) (s.heap.objs.size+1) s.heap.objs.size [s.heap.objs.size] x.cps.size _ _ (λ_=>True) (λk=>(x.cps.toList.map λc=>D.str ⟨#[c]⟩).getD k .none)
    DD hne ?_ ?_ ?_ ?_,⟨0,.none,he,hit,Nat.zero_le _,trivial,?_⟩,?_,λ_ f=>f.elim⟩
  ·simp only[List.mem_cons,List.not_mem_nil,or_false]
   exact hne
  ·rintro g i v _ ⟨c,u,hc,rfl⟩
   have:(x.cps.toList.map λc=>D.str ⟨#[c]⟩)[i]?=some (D.str ⟨#[c]⟩):=by simp[hc]
   simp only[List.getD,this,Option.getD_some]
   exact .str _ _
  ·exact λ_ _ _ _=>trivial
  ·rintro g _ b hb
   simp only[List.mem_cons,List.not_mem_nil,or_false]at hb
   exact .inl hb
  ·unfold hV
   rw[List.length_map,Array.length_toList,Nat.sub_zero]
   apply List.map_congr_left
   intro k _
   rw[Nat.zero_add]
  ·rintro a (rfl|rfl)
   ·exact⟨n1,(I.notIn n1).2,(I.notIn n1).1⟩
   ·exact⟨n0,(I.notIn n0).2,(I.notIn n0).1⟩
 | _=>exact nE h
noncomputable def DW(as bs:List D):List D:=(as.zip bs).map λp=>D.tup [p.1,p.2]
noncomputable def AK:List D→Option (List D):=on2 λa b=>onL a λas=>onL b λbs=>some (DW as bs)
theorem CI{elts:List Expr}{x1:Nat}{tp:Pos}(hr:Room A 8):IOk X A (.Tuple elts x1 tp) (.type "zip") AK:=Ef λ{σ s v w a b out} I r r2 h=>by
 refine qS r h λl ws n as e r h=>?_
 refine qS r2 h λl2 ws2 n2 bs e2 r2 h=>?_
 cases Option.some.inj h
 clear h
 have hl:s.heap.IsList l ws.toArray:=⟨_,I.sub _ _ e,rfl,_,rfl⟩
 have hl2:s.heap.IsList l2 ws2.toArray:=⟨_,I.sub _ _ e2,rfl,_,rfl⟩
 have a1:l<s.heap.objs.size:=Heap.lt_size (I.sub _ _ e)
 have a2:l2<s.heap.objs.size:=Heap.lt_size (I.sub _ _ e2)
 refine call_zip_2 hl hl2 λh' hz hTI hTO h1 h2 hsz keep=>wpAny_pyIter_zip hz ?_
 have I1:X.Inv σ { s with heap:=h',toks:=s.toks }:=Mine.Inv.heap (W:=NoW) I (λa o e _=>keep a o e) λ_ f=>f.elim
 have ap:ZipApart (s.heap.objs.size+4) (s.heap.objs.size+2) (s.heap.objs.size+3) s.heap.objs.size (s.heap.objs.size+1) l l2:=by
  generalize s.heap.objs.size=z at a1 a2
  exact⟨λq=>by unfold Addr at *;(first|lia|omega),λq=>by unfold Addr at *;(first|lia|omega),λq=>by unfold Addr at *;(first|lia|omega),λq=>by unfold Addr at *;(first|lia|omega),λq=>by unfold Addr at *;(first|lia|omega),λq=>by unfold Addr at *;(first|lia|omega),λq=>by unfold Addr at *;(first|lia|omega),λq=>by unfold Addr at *;(first|lia|omega),λq=>by unfold Addr at *;(first|lia|omega),
   λq=>by unfold Addr at *;(first|lia|omega),λq=>by unfold Addr at *;(first|lia|omega),λq=>by unfold Addr at *;(first|lia|omega),λq=>by unfold Addr at *;(first|lia|omega),λq=>by unfold Addr at *;(first|lia|omega),λq=>by unfold Addr at *;(first|lia|omega),λq=>by unfold Addr at *;(first|lia|omega),λq=>by unfold Addr at *;(first|lia|omega),λq=>by unfold Addr at *;(first|lia|omega)⟩
 refine PostI.of ⟨σ,_,_,_,rfl,I1,Ext.heap (tk:=s.toks) λa o e _=>keep a o e,AM hr.hand _ _ _ _ _ l l2 ws ws2 n n2 as bs ap,⟨0,.none,.none,⟨hz,hTI,hTO,h1,h2,e,e2,r,r2⟩,rfl⟩,?_,λ_ f=>f.elim⟩
 rintro a (rfl|rfl|rfl|rfl|rfl)
 ·exact⟨cf s 4,(I.notIn (cf s 4)).2,(I.notIn (cf s 4)).1⟩
 ·exact⟨cf s 2,(I.notIn (cf s 2)).2,(I.notIn (cf s 2)).1⟩
 ·exact⟨cf s 3,(I.notIn (cf s 3)).2,(I.notIn (cf s 3)).1⟩
 ·exact⟨cf s 0,(I.notIn (cf s 0)).2,(I.notIn (cf s 0)).1⟩
 ·exact⟨cf s 1,(I.notIn (cf s 1)).2,(I.notIn (cf s 1)).1⟩
end
end Mine
namespace Mine
structure Fits (ft:FT) (sc:Scope):Prop where
 kind:sc.kind=.function
 l:∀x,(x,VK.l)∈ft.nt→sc.names.lookup x=some .local
 c:∀x,(x,VK.c)∈ft.nt→sc.names.lookup x=some .cell
 f:∀x,(x,VK.f)∈ft.nt→sc.names.lookup x=some .free∧(x,NameKind.cell)∉sc.names
 g:∀x∈ft.gt,sc.names.lookup x=some .globalImplicit
 nodup:(ft.nt.map (·.1)).Nodup
 odd:∀x∈ft.nt.map (·.1)++ft.gt,(x==("__debug__" : Str))=false∧(x==("__classdict__" : Str))=false
 cells:∀x,(x,NameKind.cell)∈sc.names→sc.names.lookup x=some .cell
 locals:∀x∈sc.names,x.2=.local→sc.names.lookup x.1=some .local
 frees:∀x,(x,NameKind.free)∈sc.names→(x,VK.f)∈ft.nt
noncomputable def oA:List Str→Bool
 | []=>true
 | x::xs=>!xs.contains x && oA xs
theorem m8:∀{l:List Str},oA l=true→l.Nodup
 | [],_=>List.nodup_nil
 | x::xs,h=>by
  simp only[oA,Bool.and_eq_true,Bool.not_eq_true',List.contains_eq_mem,decide_eq_false_iff_not]at h
  exact List.nodup_cons.mpr ⟨h.1,m8 h.2⟩
noncomputable def zD(sc:Scope):Str×VK→Bool
 | (x,.l)=>decide (sc.names.lookup x=some .local)
 | (x,.c)=>decide (sc.names.lookup x=some .cell)
 | (x,.f)=>decide (sc.names.lookup x=some .free) && !(sc.names.any λp=>p.1==x && decide (p.2=.cell))
noncomputable def wA(ft:FT)(sc:Scope):Bool:=
 decide (sc.kind=.function) && (ft.nt.all (zD sc) && (ft.gt.all (λx=>decide (sc.names.lookup x=some .globalImplicit)) && (oA (ft.nt.map (·.1)) &&
  ((ft.nt.map (·.1)++ft.gt).all (λx=>!(x==("__debug__" : Str)) && !(x==("__classdict__" : Str))) && (sc.names.all (λp=>(decide (p.2=.cell)→decide (sc.names.lookup p.1=some .cell)) && (decide (p.2=.local)→decide (sc.names.lookup p.1=some .local)) && (decide (p.2=.free)→ft.nt.contains (p.1,VK.f))))))))
theorem fits{ft:FT}{sc:Scope}(h:wA ft sc=true):Fits ft sc:=by
 simp only[wA,Bool.and_eq_true,decide_eq_true_eq,List.all_eq_true,Bool.not_eq_true',decide_implies]at h
 obtain⟨h1,h2,h3,h4,h5,h6⟩:=h
 refine⟨h1,λx hx=>?_,λx hx=>?_,λx hx=>?_,h3,m8 h4,h5,λx hx=>?_,λx hx e=>?_,λx hx=>?_⟩
 ·simpa [zD] using h2 _ hx
 ·simpa [zD] using h2 _ hx
 ·have:=h2 _ hx
  simp only[zD,Bool.and_eq_true,decide_eq_true_eq,Bool.not_eq_true',List.any_eq_false]at this
  exact⟨this.1,λhm=>absurd (this.2 _ hm) (by simp)⟩
 ·have:=(h6 _ hx).1.1
  simpa using this
 ·have:=(h6 _ hx).1.2
  simpa [e] using this
 ·have:=(h6 _ hx).2
  simpa using this
theorem ig{env:Env}{x:Str}:∀{names:List (Str×NameKind)},
  (names.map λ(n,k)=>if (k==NameKind.free && env.scope.kind==.function && env.kindOf n==some .cell)then(n,NameKind.cell)else(n,k)).lookup x
   = (names.lookup x).map λk=>if (k==NameKind.free && env.scope.kind==.function && env.kindOf x==some .cell)then NameKind.cell else k
 | []=>rfl
 | (n,k)::r=>by
  have ih:=@ig env x r
  show List.lookup x ((if (k==NameKind.free && env.scope.kind==.function && env.kindOf n==some .cell)=true then(n,NameKind.cell)else(n,k))::_)=_
  cases hx:x==n with
  | true=>
   have:x=n:=beq_iff_eq.mp hx
   subst this
   by_cases hc:(k==NameKind.free && env.scope.kind==.function && env.kindOf x==some .cell)=true
   ·rw[if_pos hc];simp only[List.lookup_cons,hx,Option.map_some];rw[if_pos hc]
   ·rw[if_neg hc];simp only[List.lookup_cons,hx,Option.map_some];rw[if_neg hc]
  | false=>
   by_cases hc:(k==NameKind.free && env.scope.kind==.function && env.kindOf n==some .cell)=true
   ·rw[if_pos hc];simp only[List.lookup_cons,hx];exact ih
   ·rw[if_neg hc];simp only[List.lookup_cons,hx];exact ih
section
variable{ft:FT}{env env':Env}{sc:Scope}
theorem Fits.envOk(h:Fits ft sc)(hs:env.scope=sc)(hg:env.globals=mainGlobals)(hb:env.builtins=builtinsNs)(hcd:∀v,ft.cd=some v→env.code=v.1∧env.qual=v.2):l8 ft env:=by
 subst hs
 refine⟨h.kind,hg,hb,?_,h.g,h.nodup,h.odd,hcd⟩
 rintro ⟨x,k⟩ hx
 show gr k (env.kindOf x)=true
 cases k with
 | l=>have:=h.l x hx;unfold Env.kindOf;rw[this];rfl
 | c=>have:=h.c x hx;unfold Env.kindOf;rw[this];rfl
 | f=>have:=(h.f x hx).1;unfold Env.kindOf;rw[this];rfl
theorem Fits.relab(h:Fits ft sc)(hs:env.scope=relabel sc env')(hg:env.globals=mainGlobals)(hb:env.builtins=builtinsNs)(hcd:∀v,ft.cd=some v→env.code=v.1∧env.qual=v.2):l8 ft env:=by
 have lk:∀x,env.kindOf x=(sc.names.lookup x).map λk=>if (k==NameKind.free && env'.scope.kind==.function && env'.kindOf x==some .cell)then NameKind.cell else k:=λx=>by
  unfold Env.kindOf;rw[hs];exact ig
 refine⟨by rw[hs];exact h.kind,hg,hb,?_,λx hx=>by rw[lk,h.g x hx];rfl,h.nodup,h.odd,hcd⟩
 rintro ⟨x,k⟩ hx
 show gr k (env.kindOf x)=true
 rw[lk]
 cases k with
 | l=>rw[h.l x hx];rfl
 | c=>rw[h.c x hx];rfl
 | f=>rw[(h.f x hx).1];simp only[Option.map_some];split<;>rfl
theorem Frm.reenv{Γ:List Slot}{σ:Sg}{h:Heap}(F:Frm ft env Γ σ h)(hL:env'.locals=env.locals)(hC:env'.cells=env.cells)(ok:l8 ft env'):Frm ft env' Γ σ h:=by
 refine⟨ok,F.len,by rw[hL];exact F.loc,by rw[hC];exact F.cel,by rw[hL];exact F.offL,by rw[hC];exact F.offC,by rw[hC];exact F.apart⟩
inductive iZ (ft:FT) (σ:Sg):List (Str×Value)→List Slot→List Slot→Prop
 | nil {Γ:List Slot}:iZ ft σ [] Γ Γ
 | cons {i:Nat} {x:Str} {k:VK} {v:Value} {sl:Slot} {bs:List (Str×Value)} {Γ Γ':List Slot}:ft.nt[i]?=some (x,k)→k≠.f→RelS σ v sl→iZ ft σ bs (Γ.set i sl) Γ'→iZ ft σ ((x,v)::bs) Γ Γ'
end
theorem cT:∀(names:List (Str×NameKind)) (n:Nat) (acc:List (Str×Addr)),cellsFrom n names acc=cellsFrom n names []++acc
 | [],_,acc=>rfl
 | (x,k)::r,n,acc=>by
  unfold cellsFrom
  split
  ·rw[cT r (n+1) ((x,n)::acc),cT r (n+1) [(x,n)],List.append_assoc];rfl
  ·exact cT r n acc
theorem f9:∀{names:List (Str×NameKind)} {n:Nat} {x:Str} {c:Addr},(x,c)∈cellsFrom n names []→(x,NameKind.cell)∈names
 | [],_,_,_,h=>by cases h
 | (y,k)::r,n,x,c,h=>by
  unfold cellsFrom at h
  (first|(refine iE h ?_ ?_<;>(clear h;intro _ h))|split at h)
  ·rename_i hk
   rw[cT]at h
   rcases List.mem_append.mp h with h|h
   ·exact .tail _ (f9 h)
   ·simp at h
    obtain⟨rfl,_⟩:=h
    rw[beq_iff_eq.mp hk]
    exact .head _
  ·exact .tail _ (f9 h)
theorem gc:∀{names:List (Str×NameKind)} {n:Nat} {x:Str},(x,NameKind.cell)∈names→∃c,(x,c)∈cellsFrom n names []
 | (y,k)::r,n,x,h=>by
  unfold cellsFrom
  rcases List.mem_cons.mp h with h|h
  ·cases h
   rw[if_pos (show (NameKind.cell==NameKind.cell)=true by rfl),cT]
   exact⟨n,List.mem_append_right _ (.head _)⟩
  ·split
   ·rw[cT]
    obtain⟨c,hc⟩:=gc (n:=n+1) h
    exact⟨c,List.mem_append_left _ hc⟩
   ·exact gc h
theorem jm{β:Type}:∀{l:List (Str×β)} {x:Str} {c:β},(x,c)∈l→∃c',l.lookup x=some c'
 | (y,d)::r,x,c,h=>by
  rw[List.lookup_cons]
  cases hx:x==y with
  | true=>exact⟨d,rfl⟩
  | false=>
   rcases List.mem_cons.mp h with h|h
   ·cases h;simp at hx
   ·exact jm h
theorem lookup_append{β:Type}{x:Str}:∀{l m:List (Str×β)},(l++m).lookup x=(l.lookup x).or (m.lookup x)
 | [],m=>by simp
 | (y,d)::r,m=>by
  rw[List.cons_append,List.lookup_cons,List.lookup_cons]
  cases hx:x==y with
  | true=>rfl
  | false=>exact lookup_append
theorem lookup_none{β:Type}{x:Str}:∀{l:List (Str×β)},(∀c,(x,c)∉l)→l.lookup x=none
 | [],_=>rfl
 | (y,d)::r,h=>by
  rw[List.lookup_cons]
  cases hx:x==y with
  | true=>rw[beq_iff_eq.mp hx]at h;exact absurd (.head _) (h d)
  | false=>exact lookup_none λc hc=>h c (.tail _ hc)
section
variable{X:Cx}{M:Model}{A:Around}{E:Value→Shared→Prop}{ft:FT}{env:Env}{Γ Γ':List Slot}{σ:Sg}{s:Shared}
theorem dh{i:Nat}{x:Str}{k:VK}(h:ft.nt[i]?=some (x,k)):(x,k)∈ft.nt:=List.mem_of_getElem? h
theorem uG{sc:Scope}{cl:List (Str×Addr)}{ob:Obj}(I:X.Inv σ s)(fit:Fits ft sc)(hlen:Γ.length=ft.nt.length)(hob:ob={ cls:=ob.cls,data:=.dict #[] })
  (hun:∀(i:Nat) x k,ft.nt[i]?=some (x,k)→k≠.f→∀sl,Γ[i]?=some sl→sl=.un)
  (hfree:∀(i:Nat) x,ft.nt[i]?=some (x,VK.f)→∃c,cl.lookup x=some c∧σ.g.get? c=none∧c∉σ.own∧∃ov,s.heap.IsCell c ov∧∀sl,Γ[i]?=some sl→sl≠.un→∃v,ov=some v∧RelS σ v sl)
  (hL:env.locals=s.heap.objs.size) (hC:env.cells=cellsFrom (s.heap.objs.size+1) sc.names cl) (ok:l8 ft env) :
  let s':Shared:={ s with heap:=pushCells (s.heap.push ob) sc.names }
  X.Inv σ s'∧Ext NoW NoG σ s σ s'∧Frm ft env Γ σ s'.heap∧(∀a,FW ft env a→s.heap.get? a=none)∧∀x,(x,VK.f)∈ft.nt→env.cells.lookup x=cl.lookup x:=by
 have keep:∀a o,s.heap.get? a=some o→(pushCells (s.heap.push ob) sc.names).get? a=some o:=λa o e=>pushCells_keeps _ _ a o (Heap.get?_push_of_some _ e)
 have I':X.Inv σ { s with heap:=pushCells (s.heap.push ob) sc.names,toks:=s.toks }:=Mine.Inv.heap (W:=NoW) I (λa o e _=>keep a o e) λ_ f=>f.elim
 have hC':env.cells=cellsFrom (s.heap.objs.size+1) sc.names []++cl:=hC.trans (cT _ _ _)
 have cok:=cellsFrom_ok sc.names (s.heap.push ob) (s.heap.objs.size+1) [] ⟨λ_ _ hm=>(nomatch hm),List.Pairwise.nil⟩ (by rw[Heap.size_push];exact Nat.le_refl _)
 rw[Heap.size_push]at cok
 have fresh:∀a,s.heap.objs.size≤a→s.heap.get? a=none:=λa ha=>by
  cases e:s.heap.get? a with
  | none=>rfl
  | some o'=>exact absurd (Heap.lt_size e) (Nat.not_lt.mpr ha)
 have newc:∀x,(x,VK.c)∈ft.nt→∃c,(x,c)∈cellsFrom (s.heap.objs.size+1) sc.names []∧env.cells.lookup x=some c:=λx hx=>by
  obtain⟨c,hc⟩:=gc (n:=s.heap.objs.size+1) (mem_of_lookup (fit.c x hx))
  obtain⟨c',hc'⟩:=jm hc
  exact⟨c',mem_of_lookup hc',by rw[hC',lookup_append,hc'];rfl⟩
 have oldc:∀x,(x,VK.f)∈ft.nt→env.cells.lookup x=cl.lookup x:=λx hx=>by
  rw[hC',lookup_append,lookup_none (λc hc=>(fit.f x hx).2 (f9 hc))];rfl
 have newok:∀x c,(x,VK.c)∈ft.nt→env.cells.lookup x=some c→(x,c)∈cellsFrom (s.heap.objs.size+1) sc.names []:=λx c hx h=>by
  obtain⟨c',h1,h2⟩:=newc x hx
  rw[h]at h2;cases h2;exact h1
 refine⟨I',Ext.heap (tk:=s.toks) λa o e _=>keep a o e,⟨ok,hlen,?_,λi x k hi hk=>?_,?_,λi x k c hi hk hc=>?_,λi j x y k c hi hj hk hij hx hy=>?_⟩,?_,oldc⟩
 ·refine⟨λ_=>none,?_,λi x sl h1 h2 h3=>absurd (hun i x _ h1 (by intro q;cases q) sl h2) h3⟩
  have hns:(s.heap.push ob).Ns s.heap.objs.size λ_=>none:=by
   rw[hob];exact Heap.Ns.new s.heap ob.cls
  rw[hL]
  exact hns.keeps (pushCells_keeps _ _)
 ·cases k with
  | l=>exact absurd rfl hk
  | c=>
   obtain⟨c,h1,h2⟩:=newc x (dh hi)
   exact⟨c,h2,none,(cok.empty _ _ h1).1,λsl e1 e2=>absurd (hun i x _ hi (by intro q;cases q) sl e1) e2⟩
  | f=>
   obtain⟨c,h1,_,_,ov,h2,h3⟩:=hfree i x hi
   exact⟨c,(oldc x (dh hi)).trans h1,ov,h2.keeps keep,h3⟩
 ·rw[hL]
  exact⟨(I.notIn (fresh _ (Nat.le_refl _))).2,(I.notIn (fresh _ (Nat.le_refl _))).1⟩
 ·cases k with
  | l=>exact absurd rfl hk
  | c=>
   have hm:=newok x c (dh hi) hc
   have hlo:=(cok.empty _ _ hm).2
   have:=fresh c (Nat.le_of_succ_le hlo)
   exact⟨(I.notIn this).2,(I.notIn this).1⟩
  | f=>
   obtain⟨c',h1,h2,h3,_⟩:=hfree i x hi
   rw[oldc x (dh hi),h1]at hc
   cases hc;exact⟨h2,h3⟩
 ·have hm:=newok x c (dh hi) hx
  cases k with
  | l=>exact absurd rfl hk
  | c=>
   have hm2:=newok y c (dh hj) hy
   have e:=name_of_addr cok.apart hm hm2
   subst e
   exact hij (rX ok hi hj)
  | f=>
   obtain⟨c',h1,_,_,ov,h2,_⟩:=hfree j y hj
   rw[oldc y (dh hj),h1]at hy
   cases hy
   have:=h2.lt
   have hlo:=(cok.empty _ _ hm).2
   exact absurd (Nat.lt_of_lt_of_le this (Nat.le_of_succ_le hlo)) (Nat.lt_irrefl _)
 ·rintro a (rfl|⟨i,x,h1,h2⟩)
  ·exact fresh _ (by rw[hL];exact Nat.le_refl _)
  ·exact fresh a (Nat.le_of_succ_le (cok.empty _ _ (newok x a (dh h1) h2)).2)
theorem qu{binds:List (Str×Value)}{Γ Γ':List Slot}(b:iZ ft σ binds Γ Γ'):∀{s:Shared} {Q:PUnit→Shared→Prop},X.Inv σ s→Frm ft env Γ σ s.heap→
  (∀s',X.Inv σ s'→Ext (FW ft env) NoG σ s σ s'→Frm ft env Γ' σ s'.heap→Q ⟨⟩ s')→
  wpAny M A (forIn binds PUnit.unit λx _=>do storeName env x.1 x.2;pure (ForInStep.yield PUnit.unit)) Q E s:=by
 induction b with
 | nil=>exact λI F h=>wpAny_pure (h _ I (.refl _ _ _ _) F)
 | cons hi hk r b ih=>
  intro s Q I F h
  rw[List.forIn_cons]
  refine wpAny_bind (wpAny_bind (cR I F hi hk r λs' I' x' F'=>wpAny_pure ?_))
  exact ih I' F' λs'' I'' x'' F''=>h s'' I'' (x'.trans I' x'') F''
theorem gm{sc:Scope}{cl:List (Str×Addr)}{binds:List (Str×Value)}{qual:Str}{func:Option Addr}{code:Value}{around:Option Env}{builtins:Addr}{Q:Env→Shared→Prop}
  (I:X.Inv σ s) (fit:Fits ft sc) (hlen:Γ.length=ft.nt.length)
  (hun:∀(i:Nat) x k,ft.nt[i]?=some (x,k)→k≠.f→∀sl,Γ[i]?=some sl→sl=.un)
  (hfree:∀(i:Nat) x,ft.nt[i]?=some (x,VK.f)→∃c,cl.lookup x=some c∧σ.g.get? c=none∧c∉σ.own∧∃ov,s.heap.IsCell c ov∧∀sl,Γ[i]?=some sl→sl≠.un→∃v,ov=some v∧RelS σ v sl)
  (hb:(match around with|some e=>e.builtins|none=>builtins)=builtinsNs) (hcd:∀v,ft.cd=some v→(match around with|some e=>e.code|none=>code)=v.1∧qual=v.2) (hbs:iZ ft σ binds Γ Γ')
  (hQ:∀env s',env=newEnv sc env.locals mainGlobals env.cells qual func code around builtins→X.Inv σ s'→Ext NoW NoG σ s σ s'→Frm ft env Γ' σ s'.heap→(∀a,FW ft env a→s.heap.get? a=none)→(∀x,(x,VK.f)∈ft.nt→env.cells.lookup x=cl.lookup x)→Q env s') :
  wpAny M A (newFunctionEnv sc mainGlobals cl binds qual func code around builtins) Q E s:=by
 unfold newFunctionEnv
 refine wpAny_bind (wpAny_alloc ?_)
 refine wpAny_bind (wpAny_layCells _ (λname kind cells=>by cases hkc:kind==NameKind.cell<;>simp[hkc]) _ _ _ _ ?_)
 generalize hob:({ cls:=.type (if around.isSome then "dict" else "frame"),data:=.dict #[] }:Obj)=ob
 rw[show ({ s with heap:=s.heap.push ob }:Shared).heap.objs.size=s.heap.objs.size+1 from Heap.size_push ..]
 generalize he:newEnv sc s.heap.objs.size mainGlobals (cellsFrom (s.heap.objs.size+1) sc.names cl) qual func code around builtins=env
 have eL:env.locals=s.heap.objs.size:=by rw[←he];cases around<;>rfl
 have eC:env.cells=cellsFrom (s.heap.objs.size+1) sc.names cl:=by rw[←he];cases around<;>rfl
 have ok:l8 ft env:=fit.envOk (by rw[←he];cases around<;>rfl) (by rw[←he];cases around<;>rfl) (by rw[←hb,←he];cases around<;>rfl) (λv hv=>by rw[←(hcd v hv).1,←(hcd v hv).2,←he];cases around<;>exact⟨rfl,rfl⟩)
 obtain⟨I1,x1,F1,w1,c1⟩:=uG (ob:=ob) I fit hlen (by rw[←hob]) hun hfree eL eC ok
 have goal:∀s',X.Inv σ s'→Ext (FW ft env) NoG σ { s with heap:=pushCells (s.heap.push ob) sc.names } σ s'→Frm ft env Γ' σ s'.heap→Q env s':=λs' I' x' F'=>
  hQ env s' (by rw[eL,eC,he]) I' ((x1.up.trans I1 x').drop w1 λ_ f=>f.elim) F' w1 c1
 cases around with
 | none=>
  subst he
  exact wpAny_bind (qu hbs I1 F1 λs' I' x' F'=>wpAny_pure (goal s' I' x' F'))
 | some e=>
  subst he
  exact wpAny_bind (qu hbs I1 F1 λs' I' x' F'=>wpAny_pure (goal s' I' x' F'))
end
end Mine
namespace Mine
theorem jl{env:Env}(f:Str×NameKind→List (Str×Addr)→Sem (ForInStep (List (Str×Addr))))
  (hf:∀name kind cs,f (name,kind) cs=if kind==.free then(do let a ←cellOf env name;pure (.yield ((name,a)::cs)))else pure (.yield cs)) :
  ∀(names:List (Str×NameKind)) (acc:List (Str×Addr)),(∀x,(x,NameKind.free)∈names→∃c,env.cells.lookup x=some c)→(∀p∈acc,env.cells.lookup p.1=some p.2)→
   ∃cl,forIn names acc f=(pure cl:Sem _)∧(∀p∈cl,env.cells.lookup p.1=some p.2)∧(∀p∈acc,p∈cl)∧∀x,(x,NameKind.free)∈names→∃c,(x,c)∈cl
 | [],acc,_,ha=>⟨acc,by rw[List.forIn_nil],ha,λ_ h=>h,λ_ h=>(nomatch h)⟩
 | (name,kind)::r,acc,h,ha=>by
  by_cases hk:(kind==NameKind.free)=true
  ·have hk':=beq_iff_eq.mp hk
   subst hk'
   obtain⟨c,hc⟩:=h name (.head _)
   obtain⟨cl,e,g1,g2,g3⟩:=jl f hf r ((name,c)::acc) (λx hx=>h x (.tail _ hx)) (λp hp=>by
    rcases List.mem_cons.mp hp with rfl|hp
    ·exact hc
    ·exact ha p hp)
   refine⟨cl,?_,g1,λp hp=>g2 p (.tail _ hp),λx hx=>?_⟩
   ·rw[List.forIn_cons,hf,if_pos hk]
    have:cellOf env name=pure c:=by unfold cellOf;rw[hc]
    rw[this]
    exact e
   ·rcases List.mem_cons.mp hx with q|q
    ·cases q;exact⟨c,g2 _ (.head _)⟩
    ·exact g3 x q
  ·obtain⟨cl,e,g1,g2,g3⟩:=jl f hf r acc (λx hx=>h x (.tail _ hx)) ha
   refine⟨cl,?_,g1,g2,λx hx=>?_⟩
   ·rw[List.forIn_cons,hf,if_neg hk]
    exact e
   ·rcases List.mem_cons.mp hx with q|q
    ·cases q;exact absurd rfl hk
    ·exact g3 x q
theorem mH{sc:Scope}{env:Env}(h:∀x,(x,NameKind.free)∈sc.names→∃c,env.cells.lookup x=some c) :
  ∃cl,closureFor sc env=pure cl∧∀x,(x,NameKind.free)∈sc.names→cl.lookup x=env.cells.lookup x:=by
 obtain⟨cl,e,g1,_,g3⟩:=jl (env:=env) (λ(name,kind) cs=>if kind==.free then(do let a ←cellOf env name;pure (.yield ((name,a)::cs)))else pure (.yield cs)) (λ_ _ _=>rfl) sc.names [] h (λ_ h=>(nomatch h))
 refine⟨cl,?_,λx hx=>?_⟩
 ·unfold closureFor
  have e':=congrArg (λm=>m >>= λcs=>(pure cs:Sem (List (Str×Addr)))) e
  first
   | exact e'
   | (refine Eq.trans ?_ e';rfl)
 ·obtain⟨c,hc⟩:=g3 x hx
  obtain⟨c',hc'⟩:=jm hc
  rw[hc',g1 _ (mem_of_lookup hc')]
noncomputable def bQ(js:List (Option Nat))(Γ:List Slot):List Slot:=js.map fun
 | none=>.un
 | some j=>(Γ[j]?).getD .un
noncomputable def qZ(ft ft':FT):List (Str×VK)→List (Option Nat)→Bool
 | [],[]=>true
 | (_,.f)::r,some j::js=>(match ft.nt[j]?,(r,js)with|_,_=>true) && qZ ft ft' r js
 | (_,.l)::r,none::js=>qZ ft ft' r js
 | (_,.c)::r,none::js=>qZ ft ft' r js
 | _,_=>false
inductive Capt (ft:FT):List (Str×VK)→List (Option Nat)→Prop
 | nil:Capt ft [] []
 | l {x:Str} {r:List (Str×VK)} {js:List (Option Nat)}:Capt ft r js→Capt ft ((x,.l)::r) (none::js)
 | c {x:Str} {r:List (Str×VK)} {js:List (Option Nat)}:Capt ft r js→Capt ft ((x,.c)::r) (none::js)
 | f {x:Str} {k:VK} {j:Nat} {r:List (Str×VK)} {js:List (Option Nat)}:ft.nt[j]?=some (x,k)→k≠.l→Capt ft r js→Capt ft ((x,.f)::r) (some j::js)
theorem Capt.length{ft:FT}{nt:List (Str×VK)}{js:List (Option Nat)}(h:Capt ft nt js):js.length=nt.length:=by
 induction h<;>simp_all
theorem Capt.own{ft:FT}{nt:List (Str×VK)}{js:List (Option Nat)}(h:Capt ft nt js):∀{i:Nat} {x:Str} {k:VK},nt[i]?=some (x,k)→k≠.f→js[i]?=some none:=by
 induction h with
 | nil=>intro i x k e;simp at e
 | l _ ih=>intro i x k e hk;cases i with|zero=>rfl|succ i=>exact ih (by simpa using e) hk
 | c _ ih=>intro i x k e hk;cases i with|zero=>rfl|succ i=>exact ih (by simpa using e) hk
 | f _ _ _ ih=>intro i x k e hk;cases i with|zero=>simp at e;exact absurd e.2.symm hk|succ i=>exact ih (by simpa using e) hk
theorem Capt.free{ft:FT}{nt:List (Str×VK)}{js:List (Option Nat)}(h:Capt ft nt js):∀{i:Nat} {x:Str},nt[i]?=some (x,.f)→∃j k,js[i]?=some (some j)∧ft.nt[j]?=some (x,k)∧k≠.l:=by
 induction h with
 | nil=>intro i x e;simp at e
 | l _ ih=>intro i x e;cases i with|zero=>simp at e|succ i=>exact ih (by simpa using e)
 | c _ ih=>intro i x e;cases i with|zero=>simp at e|succ i=>exact ih (by simpa using e)
 | f h1 h2 _ ih=>intro i x e;cases i with|zero=>simp at e;subst e;exact⟨_,_,rfl,h1,h2⟩|succ i=>exact ih (by simpa using e)
section
variable{X:Cx}{A:Around}{ft ft':FT}{env:Env}{Γ Γ':List Slot}{σ:Sg}{s:Shared}{d:D}{c':List Cell}{js:List (Option Nat)}
theorem sM(hc:Capt ft ft'.nt js):∀(i:Nat) x k,ft'.nt[i]?=some (x,k)→k≠.f→∀sl,(bQ js Γ)[i]?=some sl→sl=.un:=λi x k e hk sl h=>by
 have:=hc.own e hk
 unfold bQ at h
 rw[List.getElem?_map,this]at h
 cases h;rfl
theorem nc{cl:List (Str×Addr)}(hc:Capt ft ft'.nt js)(F:Frm ft env Γ σ s.heap)(hcl:∀x,(x,VK.f)∈ft'.nt→cl.lookup x=env.cells.lookup x) :
  ∀(i:Nat) x,ft'.nt[i]?=some (x,VK.f)→∃c,cl.lookup x=some c∧σ.g.get? c=none∧c∉σ.own∧∃ov,s.heap.IsCell c ov∧∀sl,(bQ js Γ)[i]?=some sl→sl≠.un→∃v,ov=some v∧RelS σ v sl:=λi x e=>by
 obtain⟨j,k,h1,h2,h3⟩:=hc.free e
 obtain⟨c,hl,ov,hcell,hs⟩:=F.cel j x k h2 h3
 obtain⟨o1,o2⟩:=F.offC j x k c h2 h3 hl
 refine⟨c,(hcl x (dh e)).trans hl,o1,o2,ov,hcell,λsl hsl hne=>?_⟩
 unfold bQ at hsl
 rw[List.getElem?_map,h1]at hsl
 cases q:Γ[j]? with
 | none=>simp[q]at hsl;exact absurd hsl.symm hne
 | some sl'=>simp[q]at hsl;subst hsl;exact hs sl' q hne
noncomputable def AccOk(σ:Sg)(acc:Addr)(ds:List D)(h:Heap):Prop:=σ.g.get? acc=none∧acc∉σ.own∧∃(vs:List Value) (n:Nat),h.get? acc=some (cG vs.toArray n)∧RelAll σ.g vs ds
theorem kq{acc:Addr}{vs:List Value}{n:Nat}(F:Frm ft env Γ σ s.heap)(e:s.heap.get? acc=some (cG vs.toArray n)) :
  acc≠env.locals∧∀(i:Nat) (y:Str) (k:VK) (c:Addr),ft.nt[i]?=some (y,k)→k≠.l→env.cells.lookup y=some c→c≠acc:=by
 constructor
 ·rintro rfl
  obtain⟨m,⟨o,es,ep,ho,hd,_⟩,_⟩:=F.loc
  rw[e]at ho;cases ho;cases hd
 ·rintro i y k c hi hk hc rfl
  obtain⟨c',hc',ov,⟨o,ho,hd⟩,_⟩:=F.cel i y k hi hk
  rw[hc]at hc';cases hc'
  rw[e]at ho;cases ho;cases hd
theorem AF{acc:Addr}{vs:List Value}{n:Nat}(F:Frm ft env Γ σ s.heap)(e:s.heap.get? acc=some (cG vs.toArray n)):¬FW ft env acc:=by
 rintro (rfl|⟨i,x,h1,h2⟩)
 ·exact(kq F e).1 rfl
 ·exact(kq F e).2 i x _ acc h1 (by intro q;cases q) h2 rfl
theorem AccOk.ext{W:Addr→Prop}{Wg:Nat→Prop}{acc:Addr}{ds:List D}{σ':Sg}{s':Shared}(a:AccOk σ acc ds s.heap)(x:Ext W Wg σ s σ' s')(hw:¬W acc):AccOk σ' acc ds s'.heap:=by
 obtain⟨h1,h2,vs,n,e,r⟩:=a
 refine⟨?_,?_,vs,n,x.keep _ _ e h2 hw,r.mono x.le⟩
 ·cases q:σ'.g.get? acc with
  | none=>rfl
  | some o=>
   rcases x.fresh _ o q h1 with h|h|h
   ·rw[h]at e;cases e
   ·exact absurd h h2
   ·exact absurd h hw
 ·obtain⟨m,hm,hf⟩:=x.own
  rw[hm]
  intro q
  rcases List.mem_append.mp q with q|q
  ·exact h2 q
  ·rcases hf _ q with h|h
   ·rw[h]at e;cases e
   ·exact hw h
noncomputable abbrev PC:=List Slot→List Cell→Option (List D×List Slot×List Cell)
noncomputable def Bb(X:Cx)(ft:FT)(env:Env)(acc:Addr)(σ:Sg)(s:Shared)(out:List D)(Γ':List Slot)(c':List Cell)(s':Shared):Prop:=
 ∃σ',σ'.sto=c'∧X.Inv σ' s'∧Ext (λa=>FW ft env a∨a=acc) NoG σ s σ' s'∧Frm ft env Γ' σ' s'.heap∧AccOk σ' acc out s'.heap
noncomputable def kF(X:Cx)(A:Around)(ft:FT)(env:Env)(acc:Addr)(m:Sem Unit)(p:PC):Prop:=
 ∀Γ σ s out new Γ' c',X.Inv σ s→Frm ft env Γ σ s.heap→AccOk σ acc out s.heap→out.length+new.length≤100000→p Γ σ.sto=some (new,Γ',c')→wpAny X.M A m (λ_ s'=>Bb X ft env acc σ s (out++new) Γ' c' s') NoE s
noncomputable abbrev oD(ifs:List Expr)(env:Env):Sem Bool:=forIn ifs true λc r=>if r=true then do let ok ←isTrue c env (eval c env);pure (ForInStep.yield ok)else pure (ForInStep.yield r)
noncomputable def ej(X:Cx)(A:Around)(ft:FT)(env:Env)(ifs:List Expr)(p:PB):Prop:=
 ∀Γ σ s d c',X.Inv σ s→Frm ft env Γ σ s.heap→p Γ σ.sto=some (d,c')→wpAny X.M A (oD ifs env) (PostB X σ s d c') NoE s
noncomputable def cn:PB:=λ_ c=>some (true,c)
theorem cH:ej X A ft env [] cn:=λΓ σ s d c' I F h=>by
 cases h;exact wpAny_tests_nil ⟨rfl,σ,rfl,I,.refl _ _ _ _⟩
theorem jg{c:Expr}{p:PB}(h:SoundB X A ft env c p):ej X A ft env [c] p:=λΓ σ s d c' I F e=>wpAny_tests_one (h Γ σ s d c' I F e)
noncomputable def aQ(p:PE):PC:=λΓ c=>(p Γ c).map λ(d,c1)=>([d],Γ,c1)
theorem tQ{acc:Addr}{elt:Expr}{p:PE}(h1:SoundE X A ft env elt p):kF X A ft env acc (do let _ ←call (.builtin "list.append") [.ref acc,←eval elt env]) (aQ p):=λΓ σ s out new Γ' c' I F a hl h=>by
 (refine mE2 h ?_;(try clear h);intro d c1 e1 h)
 cases h
 refine wpAny_bind (h1.use I F e1 λv σ1 s1 q1 I1 x1 F1 r1=>?_)
 subst q1
 obtain⟨g1,g2,vs,n,e,r⟩:=a.ext x1 λf=>f
 have hn:=r.length
 refine wpAny_bind (append_at e (λh' hs hD=>wpAny_pure ?_) (by simp only[List.size_toArray];rw[hn];exact bT (by simp at hl;(first|lia|omega))))
 have keep:∀a o,s1.heap.get? a=some o→¬(a=acc)→h'.get? a=some o:=λa o e ha=>(hs.2 a ha).trans e
 have I2:X.Inv σ1 { s1 with heap:=h',toks:=s1.toks }:=Mine.Inv.heap (W:=λa=>a=acc) I1 keep λa e=>e▸⟨g2,g1⟩
 have x2:Ext (λa=>FW ft env a∨a=acc) NoG σ1 s1 σ1 { s1 with heap:=h',toks:=s1.toks }:=Ext.heap λa o e hw=>keep a o e λq=>hw (.inr q)
 have ap:=kq F1 e
 have x2':Ext (λa=>a=acc) NoG σ1 s1 σ1 { s1 with heap:=h',toks:=s1.toks }:=Ext.heap keep
 refine⟨σ1,rfl,I2,x1.up.trans I1 x2,F1.extW x2' (λq=>ap.1 q.symm) (λi y k c hi hk hc q=>ap.2 i y k c hi hk hc q),g1,g2,vs++[v],n+1,?_,r.append (.one r1)⟩
 rw[hD,List.push_toArray]
noncomputable def bL(tg:Tg)(t:PB)(p:PC):List D→List Slot→List Cell→Option (List D×List Slot×List Cell)
 | [],Γ,c=>some ([],Γ,c)
 | d::ds,Γ,c=>(d6 tg d Γ).bind λΓ1=>(t Γ1 c).bind λ(b,c1)=>(if b then p Γ1 c1 else some ([],Γ1,c1)).bind λ(new,Γ2,c2)=>(bL tg t p ds Γ2 c2).map λ(more,Γ3,c3)=>(new++more,Γ3,c3)
noncomputable def kS(X:Cx)(A:Around)(LC:Expr)(depth:Nat)(it acc:Value)(env:Env)(tgt:Expr)(ifs:List Expr)(inner:Sem Unit):Prop:=
 ∀(s:Shared) (E:Value→Shared→Prop) (R:Fin→Shared→Prop),wpAny X.M A (pyNext it) (λr s1=>match r with
  | none=>R (.done .next) s1
  | some v=>wpAny X.M A (letOwnedTupleGo tgt it v) (λ_ s2=>wpAny X.M A (assign tgt env v) (λ_ s3=>wpAny X.M A (oD ifs env) (λok s4=>
    if ok=true then wpAny X.M A inner (λ_ s5=>R (.again (.compLoop LC depth it acc env)) s5) E s4 else R (.again (.compLoop LC depth it acc env)) s4) E s3) E s2) E s1) E s→
  wpAny X.M A (compTurn LC depth it acc env) R E s
theorem up{M:Model}{A:Around}{α:Type}{m:Sem α}{Q:α→Shared→Prop}{E:Value→Shared→Prop}{s:Shared}(h:wpAny M A m Q NoE s):wpAny M A m Q E s:=wpAny_mono h (λ_ _ q=>q) λ_ _ f=>f.elim
theorem uy{LC:Expr}{depth:Nat}{it acc:Value}{ifs:List Expr}{inner:Sem Unit}{R:Fin→Shared→Prop}{E:Value→Shared→Prop}{P:Shared→Prop}(ht:kS X A LC depth it acc env tgt ifs inner)
  (h:wpAny X.M A (pyNext it) (λr s1=>r=none∧P s1) NoE s) (k:∀s1,P s1→R (.done .next) s1):wpAny X.M A (compTurn LC depth it acc env) R E s:=
 ht s E R (up0 (wpAny_mono h (λr s1 q=>by rw[q.1];exact k s1 q.2) λ_ _ f=>f))
theorem qM{LC:Expr}{depth:Nat}{it acc:Value}{ifs:List Expr}{inner:Sem Unit}{R:Fin→Shared→Prop}{E:Value→Shared→Prop}{P:Value→Shared→Prop}{K:Shared→Prop}(ht:kS X A LC depth it acc env tgt ifs inner)
  (h:wpAny X.M A (pyNext it) (λr s1=>∃v,r=some v∧wpAny X.M A (letOwnedTupleGo tgt it v) (λ_ s'=>P v s') NoE s1) NoE s)
  (k:∀v s2,P v s2→wpAny X.M A (assign tgt env v) (λ_ s3=>wpAny X.M A (oD ifs env) (λok s4=>(ok=true→wpAny X.M A inner (λ_ s5=>K s5) NoE s4)∧(ok=false→K s4)) NoE s3) NoE s2)
  (hk:∀s,K s→R (.again (.compLoop LC depth it acc env)) s):wpAny X.M A (compTurn LC depth it acc env) R E s:=
 ht s E R (up0 (wpAny_mono h (λr s1 q=>by
  obtain⟨v,e,q⟩:=q
  rw[e]
  exact up0 (wpAny_mono q (λ_ s2 q=>up0 (wpAny_mono (k v s2 q) (λ_ s3 q=>up0 (wpAny_mono q (λok s4 q=>by
   cases ok with
   | true=>exact up0 (wpAny_mono (q.1 rfl) (λ_ s5 q=>hk s5 q) λ_ _ f=>f)
   | false=>exact hk s4 (q.2 rfl)) λ_ _ f=>f)) λ_ _ f=>f)) λ_ _ f=>f)) λ_ _ f=>f))
structure CS (X:Cx) (ft:FT) (env:Env) (acc:Addr) (W:Addr→Prop) (Wg:Nat→Prop) (J:(Addr→Prop)→Heap→List D→Shared→Prop) (σ₀:Sg) (s₀:Shared) (tg:Tg) (t:PB) (p:PC) (tot:List D) (Γ':List Slot) (c':List Cell) (ds:List D) (Γ:List Slot) (σ:Sg) (out new:List D) (W₁:Addr→Prop) (s:Shared):Prop where
 hW1:∀a,W₁ a→W a∨s₀.heap.get? a=none
 I:X.Inv σ s
 x:Ext (λa=>FW ft env a∨a=acc∨W a) Wg σ₀ s₀ σ s
 F:Frm ft env Γ σ s.heap
 ac:AccOk σ acc out s.heap
 j:J W₁ σ.g ds s
 hW:∀a,W₁ a→σ.g.get? a=none∧a∉σ.own
 sum:out++new=tot
 run:bL tg t p ds Γ σ.sto=some (new,Γ',c')
theorem AccOk.there{σ:Sg}{acc:Addr}{out:List D}{h:Heap}(a:AccOk σ acc out h):∃o,h.get? acc=some o:=by
 obtain⟨_,_,_,_,e,_⟩:=a
 exact⟨_,e⟩
theorem uO{LC:Expr}{depth n:Nat}{it:Value}{acc:Addr}{ifs:List Expr}{inner:Sem Unit}{tg:Tg}{t:PB}{p:PC}{W W₁:Addr→Prop}{Wg:Nat→Prop}{J:(Addr→Prop)→Heap→List D→Shared→Prop}{σ₀:Sg}{s₀:Shared}{ds out new tot:List D}{R:Fin→Shared→Prop}{E:Value→Shared→Prop}
  (hturn:kS X A LC depth it (.ref acc) env tgt ifs inner) (hI:mB X A tgt it Wg J) (hT:dJ X A ft env tgt tg) (ht:ej X A ft env ifs t) (hp:kF X A ft env acc inner p)
  (off:∀{W₁:Addr→Prop},(∀a,W₁ a→W a∨s₀.heap.get? a=none)→IsOff ft env W₁∧¬W₁ acc) (htot:tot.length≤100000)
  (hdone:∀σ' s',σ'.sto=c'→X.Inv σ' s'→Ext (λa=>FW ft env a∨a=acc∨W a) Wg σ₀ s₀ σ' s'→Frm ft env Γ' σ' s'.heap→AccOk σ' acc tot s'.heap→R (.done .next) s')
  (hK:∀{ds Γ σ out new W₁ s},CS X ft env acc W Wg J σ₀ s₀ tg t p tot Γ' c' ds Γ σ out new W₁ s→ds.length<n→R (.again (.compLoop LC depth it (.ref acc) env)) s)
  (S:CS X ft env acc W Wg J σ₀ s₀ tg t p tot Γ' c' ds Γ σ out new W₁ s) (hn:ds.length=n):wpAny X.M A (compTurn LC depth it (.ref acc) env) R E s:=by
 obtain⟨hW1,I,x,F,ac,j,hW,hsum,run⟩:=S
 have o1:=off hW1
 have upF:∀a,W₁ a→(FW ft env a∨a=acc∨W a)∨s₀.heap.get? a=none:=λa q=>(hW1 a q).elim (λq=>.inl (.inr (.inr q))) .inr
 cases ds with
 | nil=>
  refine uy hturn (hI.stop I j hW) λs1 q=>?_
  cases run
  exact hdone σ s1 rfl q.1 (x.join I q.2 upF) (F.extW q.2 o1.1.l o1.1.c) (hsum▸(by rw[List.append_nil];exact ac.ext q.2 o1.2))
 | cons d ds=>
  refine qM hturn (hI.step I j hW) (K:=λs=>R (.again (.compLoop LC depth it (.ref acc) env)) s) (λv s2 q=>?_) λ_ k=>k
  obtain⟨g',W₂,hW2,I2,x2,w2,r2,j2⟩:=q
  have hW2':∀a,W₂ a→W a∨s₀.heap.get? a=none:=λa q=>(hW2 a q).elim (hW1 a) λq=>(Ext.back I x q).elim .inr λq'=>q'.elim (λh=>(F.there h).elim λ_ e=>nE (q.symm.trans e)) λq'=>q'.elim (λh=>ac.there.elim λ_ e=>nE (q.symm.trans (h▸e))) .inl
  have F2:Frm ft env Γ ⟨g',σ.own,σ.sto⟩ s2.heap:=F.extW x2 o1.1.l o1.1.c
  have a2:=ac.ext x2 o1.2
  have x02:=x.join I x2 upF
  have own':∀a,W₂ a→a∉σ.own:=λa h=>(hW2 a h).elim (λq=>(hW a q).2) λq=>(I.notIn q).1
  have o2:=off hW2'
  have nacc:¬FW ft env acc:=let ⟨_,_,vs,n,e,_⟩:=a2;AF F2 e
  clear upF hW1 hW2 x o1 F ac
  refine bE run λΓ1 e1 run=>bE2 run λb c1 e2 run=>bE3 run λnw Γ2 c2 e3 run=>mE3 run λmore Γ3 c3 e4 run=>?_
  injection run with h1 run
  injection run with h2 h3
  rw[h2,h3]at e4
  refine wpAny_mono (hT Γ ⟨g',σ.own,σ.sto⟩ s2 d v Γ1 I2 F2 r2 e1) (λ_ s3 q=>wpAny_mono (ht Γ1 ⟨g',σ.own,σ.sto⟩ s3 b c1 q.1 q.2.2 e2) (λok s4 p=>?_) λ_ _ f=>f) λ_ _ f=>f
  obtain⟨I3,x3,F3⟩:=q
  obtain⟨hb,σ4,q4,I4,x4⟩:=p
  have x24:=x3.trans I3 (x4.up (W:=FW ft env) (Wg:=NoG))
  have a4:=(a2.ext x3 nacc).ext x4 λf=>f
  have F4:=F3.ext x4
  have tail:∀σ5 s5,σ5.sto=c2→X.Inv σ5 s5→Ext (λa=>FW ft env a∨a=acc) NoG ⟨g',σ.own,σ.sto⟩ s2 σ5 s5→Frm ft env Γ2 σ5 s5.heap→AccOk σ5 acc (out++nw) s5.heap→R (.again (.compLoop LC depth it (.ref acc) env)) s5:=λσ5 s5 q5 I5 x25 F5 a5=>
   have hne:∀a,W₂ a→¬(FW ft env a∨a=acc):=λa hw q=>q.elim (o2.1.fw hw) λq=>o2.2 (q▸hw)
   hK { hW1:=hW2',I:=I5,F:=F5,ac:=a5,run:=q5▸e4,x:=x02.trans I2 (x25.weaken (λ_ h=>h.elim .inl λq=>.inr (.inl q)) λ_ h=>h.elim),j:=hI.frame j2 x25.le I2.sub I5.sub (λa o hw e=>x25.keep a o e (own' a hw) (hne a hw)) λi y _ e=>x25.gens i y e λh=>h,hW:=λa hw=>(hI.there j2 a hw).elim λo ho'=>x25.stay ho' (w2 a hw) (own' a hw) (hne a hw),sum:=by rw[←hsum,←h1,List.append_assoc] } (hn▸Nat.lt_succ_self _)
  clear hK j2 x02
  rw[←q4]at e3
  refine⟨λe=>?_,λe=>?_⟩<;>rw[←hb,e]at e3
  ·exact wpAny_mono (hp Γ1 σ4 s4 out nw Γ2 c2 I4 F4 a4 (Nat.le_trans (by rw[←hsum,←h1,List.length_append,List.length_append];(first|lia|omega)) htot) e3) (λ_ s5 q=>by
    obtain⟨σ5,q5,I5,x5,F5,a5⟩:=q
    exact tail σ5 s5 q5 I5 ((x24.weaken (λ_ h=>.inl h) λ_ h=>h).trans I4 x5) F5 a5) λ_ _ f=>f
  ·cases e3
   exact tail σ4 s4 rfl I4 (x24.weaken (λ_ h=>.inl h) λ_ h=>h) F4 (by rw[List.append_nil];exact a4)
theorem tC{elt:Expr}{gens:List Comprehension}{sc:Scope}{pos:Pos}{depth:Nat}{it:Value}{acc:Addr}{tgt:Expr}{ifs:List Expr}{inner:Sem Unit}{tg:Tg}{t:PB}{p:PC}{W:Addr→Prop}{Wg:Nat→Prop}{J:(Addr→Prop)→Heap→List D→Shared→Prop}
  {σ₀:Sg} {s₀:Shared} {ds₀ out₀ new₀:List D} {Γ₀:List Slot}
  (hturn:kS X A (.ListComp elt gens sc pos) depth it (.ref acc) env tgt ifs inner)
  (hI:mB X A tgt it Wg J) (hT:dJ X A ft env tgt tg) (ht:ej X A ft env ifs t) (hp:kF X A ft env acc inner p)
  (hWL:¬W env.locals) (hWC:∀(i:Nat) (y:Str) (k:VK) (c:Addr),ft.nt[i]?=some (y,k)→k≠.l→env.cells.lookup y=some c→¬W c) (hWA:¬W acc)
  (I₀:X.Inv σ₀ s₀) (F₀:Frm ft env Γ₀ σ₀ s₀.heap) (a₀:AccOk σ₀ acc out₀ s₀.heap) (J₀:J W σ₀.g ds₀ s₀) (W₀:∀a,W a→σ₀.g.get? a=none∧a∉σ₀.own)
  (hl₀:out₀.length+new₀.length≤100000) (hrun₀:bL tg t p ds₀ Γ₀ σ₀.sto=some (new₀,Γ',c')) {R:Result→Shared→Prop}
  (hR:∀σ' s',σ'.sto=c'→X.Inv σ' s'→Ext (λa=>FW ft env a∨a=acc∨W a) Wg σ₀ s₀ σ' s'→Frm ft env Γ' σ' s'.heap→AccOk σ' acc (out₀++new₀) s'.heap→R (.ok .next) s') :
  codeAny X.M A (.compLoop (.ListComp elt gens sc pos) depth it (.ref acc) env) R s₀:=by
 refine codeAny_loop rfl (λn s=>∃ds Γ σ out new W₁,ds.length=n∧CS X ft env acc W Wg J σ₀ s₀ tg t p (out₀++new₀) Γ' c' ds Γ σ out new W₁ s) (λn s S=>?_) ds₀.length ⟨ds₀,Γ₀,σ₀,out₀,new₀,W,rfl,λ_ q=>.inl q,I₀,.refl _ _ _ _,F₀,a₀,J₀,W₀,rfl,hrun₀⟩
 obtain⟨ds,Γ,σ,out,new,W₁,e,S⟩:=S
 show wpAny _ A ((compTurn (.ListComp elt gens sc pos) depth it (.ref acc) env).onRaise (λx=>do noteFrame x env;theTreesLotGoes x)) _ _ s
 exact wpAny_noted (uO hturn hI hT ht hp (λh1=>⟨IsOff.grow ⟨hWL,hWC⟩ F₀ h1,λhw=>(h1 _ hw).elim hWA λq=>a₀.there.elim λ_ e=>nE (q.symm.trans e)⟩) (by rw[List.length_append];exact hl₀) hR (λS h=>⟨rfl,_,h,_,_,_,_,_,_,rfl,S⟩) S e)
end
end Mine
namespace Mine
section
variable{X:Cx}{A:Around}{ft ft':FT}{env:Env}{Γ Γ':List Slot}{σ:Sg}{s:Shared}{d:D}{c':List Cell}{js:List (Option Nat)}
theorem gW{σ':Sg}{s':Shared}{a:Addr}{o:Obj}(I:X.Inv σ' s')(x:Ext NoW NoG σ s σ' s')(e:s'.heap.get? a=some o)(h1:σ'.g.get? a=none)(h2:a∉σ'.own)(h3:s.heap.get? a=none) :
  X.Inv ⟨cN σ'.g a o,σ'.own,σ'.sto⟩ s'∧Ext NoW NoG σ s ⟨cN σ'.g a o,σ'.own,σ'.sto⟩ s'∧Le σ'.g (cN σ'.g a o)∧(cN σ'.g a o).get? a=some o:=by
 refine⟨I.add e h1 h2,⟨x.le.trans (.put h1),x.own,λb o' q h0=>?_,x.keep,x.gens,x.os⟩,.put h1,dQ (j8 e)⟩
 by_cases hb:b=a
 ·subst hb;exact .inl h3
 ·have q':(cN σ'.g a o).get? b=some o':=q
  rw[bx hb]at q'
  exact x.fresh b o' q' h0
theorem xH{elt tgt iter:Expr}{ifs:List Expr}{sc:Scope}{pos:Pos}{it acc:Value} :
  kS X A (.ListComp elt [⟨tgt,iter,ifs,0⟩] sc pos) 0 it acc env tgt ifs (do let _ ←call (.builtin "list.append") [acc,←eval elt env]):=λs E R h=>by
 rw[compTurn_list]
 refine wpAny_bind (wpAny_standAt (wpAny_bind (wpAny_mono h (λr s₁ h₁=>?_) λ_ _ h'=>h')))
 cases r with
 | none=>exact wpAny_pure h₁
 | some v=>
  refine wpAny_bind (wpAny_mono h₁ (λ_ s₂ h₂=>wpAny_bind (wpAny_mono h₂ (λ_ s₃ h₃=>wpAny_bind (wpAny_mono h₃ (λok s₄ h₄=>?_) λ_ _ h'=>h')) λ_ _ h'=>h')) λ_ _ h'=>h')
  cases ok with
  | false=>exact wpAny_pure h₄
  | true=>exact wpAny_bind (wpAny_mono h₄ (λ_ s₅ h₅=>wpAny_pure h₅) λ_ _ h'=>h')
noncomputable abbrev oJ(LC i2:Expr)(acc:Value)(env:Env):Sem Unit:=do
 let x ←eval i2 env
 standAt i2.pos
 let x ←foldedSetIterable i2 env x
 let _ ←runOwn (.compStart LC 1 (←holding [x] (pyIter x)) acc env) env
theorem sa(elt t1 i1 t2 i2:Expr)(f1 f2:List Expr)(sc:Scope)(pos:Pos)(it acc:Value)(env:Env) :
  compTurn (.ListComp elt [⟨t1,i1,f1,0⟩,⟨t2,i2,f2,0⟩] sc pos) 0 it acc env=(do
   standAt i1.pos
   match ←pyNext it with
   | none=>pure (.done .next)
   | some v=>
    letOwnedTupleGo t1 it v
    assign t1 env v
    let mut ok:=true
    for c in f1 do
     if ok then ok ←isTrue c env (eval c env)
    if ok then
     let x ←eval i2 env
     standAt i2.pos
     let x ←foldedSetIterable i2 env x
     let _ ←runOwn (.compStart (.ListComp elt [⟨t1,i1,f1,0⟩,⟨t2,i2,f2,0⟩] sc pos) 1 (←holding [x] (pyIter x)) acc env) env
    again (.compLoop (.ListComp elt [⟨t1,i1,f1,0⟩,⟨t2,i2,f2,0⟩] sc pos) 0 it acc env)):=by rfl
theorem ro(elt t1 i1 t2 i2:Expr)(f1 f2:List Expr)(sc:Scope)(pos:Pos)(it acc:Value)(env:Env) :
  compTurn (.ListComp elt [⟨t1,i1,f1,0⟩,⟨t2,i2,f2,0⟩] sc pos) 1 it acc env=(do
   standAt i2.pos
   match ←pyNext it with
   | none=>pure (.done .next)
   | some v=>
    letOwnedTupleGo t2 it v
    assign t2 env v
    let mut ok:=true
    for c in f2 do
     if ok then ok ←isTrue c env (eval c env)
    if ok then
     (do let _ ←call (.builtin "list.append") [acc,←eval elt env])
    again (.compLoop (.ListComp elt [⟨t1,i1,f1,0⟩,⟨t2,i2,f2,0⟩] sc pos) 1 it acc env)):=by rfl
theorem AL{elt t1 i1 t2 i2:Expr}{f1 f2:List Expr}{sc:Scope}{pos:Pos}{it acc:Value} :
  kS X A (.ListComp elt [⟨t1,i1,f1,0⟩,⟨t2,i2,f2,0⟩] sc pos) 1 it acc env t2 f2 (do let _ ←call (.builtin "list.append") [acc,←eval elt env]):=λs E R h=>by
 rw[ro]
 refine wpAny_bind (wpAny_standAt (wpAny_bind (wpAny_mono h (λr s₁ h₁=>?_) λ_ _ h'=>h')))
 cases r with
 | none=>exact wpAny_pure h₁
 | some v=>
  refine wpAny_bind (wpAny_mono h₁ (λ_ s₂ h₂=>wpAny_bind (wpAny_mono h₂ (λ_ s₃ h₃=>wpAny_bind (wpAny_mono h₃ (λok s₄ h₄=>?_) λ_ _ h'=>h')) λ_ _ h'=>h')) λ_ _ h'=>h')
  cases ok with
  | false=>exact wpAny_pure h₄
  | true=>exact wpAny_bind (wpAny_mono h₄ (λ_ s₅ h₅=>wpAny_pure h₅) λ_ _ h'=>h')
theorem jZ{elt:Expr}{gens:List Comprehension}{sc:Scope}{pos:Pos}{depth:Nat}{it acc:Value}{R:Result→Shared→Prop}(ha:Option.elim (gens[depth]?) false (λg:Comprehension=>g.is_async != 0)=false)
  (h0:codeAny X.M A (.compLoop (.ListComp elt gens sc pos) depth it acc env) R s)
  (h:wpAny X.M A (pyIter it) (λit' s'=>codeAny X.M A (.compLoop (.ListComp elt gens sc pos) depth it' acc env) R s') NoE s) :
  codeAny X.M A (.compStart (.ListComp elt gens sc pos) depth it acc env) R s:=by
 refine codeAny_of_tree ?_
 show wpAny _ A ((compStart (.ListComp elt gens sc pos) depth it acc env).onRaise (λx=>do noteFrame x env;standAt theWindowsPlace)) _ _ s
 refine wpAny_notedAt ?_
 unfold compStart
 have e:clausesOf (.ListComp elt gens sc pos)=gens:=rfl
 rw[e,ha]
 show wpAny _ _ (ask >>= _) _ _ s
 refine wpAny_bind (wpAny_askSetting (wpAny_ite ?_))
 split
 ·first
   | exact wpAny_bind (wpAny_pure (wpAny_pure (And.intro rfl h0)))
   | exact wpAny_pure (And.intro rfl h0)
 ·refine wpAny_bind (wpAny_rule ?_)
  cases q:gens[depth]? with
  | none=>exact wpAny_bind (wpAny_mono h (λit' s' h'=>wpAny_pure (And.intro rfl h')) λ_ _ (f:False)=>False.elim f)
  | some g=>exact wpAny_bind (wpAny_standAt (wpAny_bind (wpAny_mono h (λit' s' h'=>wpAny_pure (And.intro rfl h')) λ_ _ (f:False)=>False.elim f)))
noncomputable def f7(tg:Tg)(src:PL)(t:PB)(p:PC):PC:=λΓ c=>(src Γ c).bind λ(ds,c1)=>bL tg t p ds Γ c1
theorem wb{elt t1 i1 t2 i2:Expr}{f1 f2:List Expr}{sc:Scope}{pos:Pos}{acc:Addr}{tg:Tg}{src:PL}{t:PB}{p:PC}(h1:ew X A ft env t2 i2 src)(hT:dJ X A ft env t2 tg)(ht:ej X A ft env f2 t)
  (hp:kF X A ft env acc (do let _ ←call (.builtin "list.append") [.ref acc,←eval elt env]) p) (hs:autoParam (∀env x,foldedSetIterable i2 env x=pure x) aR) :
  kF X A ft env acc (oJ (.ListComp elt [⟨t1,i1,f1,0⟩,⟨t2,i2,f2,0⟩] sc pos) i2 (.ref acc) env) (f7 tg src t p):=λΓ σ s out new Γ' c' I F a hl h=>by
 (refine bE2 h ?_;(try clear h);intro ds c1 e1 h)
 refine wpAny_bind (wpAny_mono (h1 Γ σ s ds c1 I F e1) (λx s1 h2=>wpAny_bind (wpAny_standAt (wpAny_bind (wpAny_of_eq (hs _ x) (wpAny_bind (wpAny_holding (wpAny_mono h2 (λit s2 h3=>?_) λ_ _ f=>f))))))) λ_ _ f=>f)
 obtain⟨σ2,W,Wg,J,q2,I2,x2,hI,j2,w2,wg2⟩:=h3
 subst q2
 have F2:=F.ext x2
 have hWL:¬W env.locals:=by
  intro hw
  obtain⟨m,hn,_⟩:=F.loc
  obtain⟨o,e⟩:=Heap.Ns.there hn
  rw[(w2 _ hw).1]at e;cases e
 have hWC:∀(i:Nat) (y:Str) (k:VK) (c:Addr),ft.nt[i]?=some (y,k)→k≠.l→env.cells.lookup y=some c→¬W c:=by
  intro i y k c e hk hc hw
  obtain⟨c',hc',ov,⟨o,ho',_⟩,_⟩:=F.cel i y k e hk
  rw[hc]at hc';cases hc'
  rw[(w2 _ hw).1]at ho';cases ho'
 have hWA:¬W acc:=by
  intro hw
  obtain⟨_,_,vs,n,e,_⟩:=a
  rw[(w2 _ hw).1]at e;cases e
 have a2:=a.ext x2 λf=>f
 have goal:codeAny X.M A (.compLoop (.ListComp elt [⟨t1,i1,f1,0⟩,⟨t2,i2,f2,0⟩] sc pos) 1 it (.ref acc) env) (λr s'=>match r with|.ok _=>Bb X ft env acc σ s (out++new) Γ' c' s'|.error e=>cameBackBy X.M A env NoE e s') s2:=by
  refine tC AL hI hT ht hp hWL hWC hWA I2 F2 a2 j2 (λa h=>(w2 a h).2) hl h λσ' s' q' I' x' F' a'=>⟨σ',q',I',?_,F',a'⟩
  have xx:=(x2.up (W:=λa=>FW ft env a∨a=acc∨W a) (Wg:=Wg)).trans I2 x'
  refine⟨xx.le,?_,?_,?_,?_,xx.os⟩
  ·obtain⟨m,hm,hf⟩:=xx.own
   exact⟨m,hm,λa ha=>(hf a ha).elim .inl λq=>q.elim (λq=>.inr (.inl q)) λq=>q.elim (λq=>.inr (.inr q)) λq=>.inl (w2 a q).1⟩
  ·intro a o e n
   rcases xx.fresh a o e n with h|h|h|h|h
   ·exact .inl h
   ·exact .inr (.inl h)
   ·exact .inr (.inr (.inl h))
   ·exact .inr (.inr (.inr h))
   ·exact .inl (w2 a h).1
  ·intro a o e n hw
   refine xx.keep a o e n λq=>q.elim (λq=>hw (.inl q)) λq=>q.elim (λq=>hw (.inr q)) λq=>?_
   rw[(w2 a q).1]at e;cases e
  ·intro i y e _
   refine xx.gens i y e λq=>?_
   rw[wg2 i q]at e;cases e
 refine wpAny_bind (wpAny_runOwn (jZ rfl (codeAny_mono goal λr s' h=>?_) (hI.self j2 I2.sub (codeAny_mono goal λr s' h=>?_))))
 ·cases r with
  | ok f=>exact wpAny_pure h
  | error e=>exact h
 ·cases r with
  | ok f=>exact wpAny_pure h
  | error e=>exact h
theorem iX{elt tgt iter:Expr}{ifs:List Expr}{rest:List Comprehension}{sc:Scope}{pos ps:Pos}{use:Option (Value→Sem Unit)}{Q:Value→Shared→Prop}{src:PL}{tg:Tg}{t:PB}{p:PC}{inner:Value→Env→Sem Unit}{out:List D}
  (fit:Fits ft' sc) (hcdc:∀v,ft'.cd=some v→ft.cd=some v) (hcap:Capt ft ft'.nt js) (h1:ew X A ft env tgt iter src) (hs:∀x,foldedSetIterable iter env x=pure x)
  (hturn:∀it acc env',kS X A (.ListComp elt (⟨tgt,iter,ifs,0⟩::rest) sc pos) 0 it acc env' tgt ifs (inner acc env'))
  (hT:∀env',dJ X A ft' env' tgt tg) (ht:∀env',ej X A ft' env' ifs t) (hp:∀(acc:Addr) env',kF X A ft' env' acc (inner (.ref acc) env') p)
  (I:X.Inv σ s) (F:Frm ft env Γ σ s.heap) {c1:List Cell} {Γe:List Slot} {ds:List D} (e1:src Γ σ.sto=some (ds,c1)) (e2:bL tg t p ds (bQ js Γ) c1=some (out,Γe,c')) (hlen:out.length≤100000)
  (hend:∀acc C σ3 s3 m,σ3.sto=c'→X.Inv σ3 s3→Ext NoW NoG σ s σ3 s3→Frm ft env Γ σ3 s3.heap→Rel σ3.g (.ref acc) (.lst out)→s3.heap.Ns C m→s.heap.get? C=none→C∉σ3.own→σ3.g.get? C=none→compPost X.M A NoE use Q (.ref acc) C (.ok .next) s3) :
  wpAny X.M A (comprehension (.ListComp elt (⟨tgt,iter,ifs,0⟩::rest) sc pos) sc env ps (newList []) false (eval iter env) use) Q NoE s:=by
 have hfr:∀x,(x,NameKind.free)∈sc.names→∃c,env.cells.lookup x=some c:=λx hx=>by
  obtain⟨i,hi⟩:=List.mem_iff_getElem?.mp (fit.frees x hx)
  obtain⟨j,k,_,h2,h3⟩:=hcap.free hi
  obtain⟨c,hc,_⟩:=F.cel j x k h2 h3
  exact⟨c,hc⟩
 obtain⟨cl,hclos,hcl⟩:=mH hfr
 have hcl':∀x,(x,VK.f)∈ft'.nt→cl.lookup x=env.cells.lookup x:=λx hx=>hcl x (mem_of_lookup (fit.f x hx).1)
 refine wpAny_comprehension_free (g:=⟨tgt,iter,ifs,0⟩) (gs:=rest) (cl:=cl) rfl hs hclos fit.kind fit.locals (wpAny_mono (h1 Γ σ s ds c1 I F e1) (λx s1 h2=>wpAny_mono h2 (λit s2 h3=>?_) λ_ _ f=>f) λ_ _ f=>f)
 obtain⟨σ2,W,Wg,J,q2,I2,x2,hI,j2,w2,wg2⟩:=h3
 subst q2
 have F2:=F.ext x2
 refine wpAny_newObj_type ?_
 obtain⟨I3,x3⟩:=jK (o:=cG ([]:List Value).toArray 0) (tk:=s2.toks) I2
 have nacc:s2.heap.get? s2.heap.objs.size=none:=get?_push_none
 have eacc:(s2.heap.push (cG ([]:List Value).toArray 0)).get? s2.heap.objs.size=some (cG ([]:List Value).toArray 0):=Heap.get?_push_size _ rfl
 have F3:=F2.ext x3
 have a3:AccOk σ2 s2.heap.objs.size [] (s2.heap.push (cG ([]:List Value).toArray 0)):=⟨(I2.notIn nacc).2,(I2.notIn nacc).1,[],0,eacc,.nil⟩
 show wpAny _ _ (newFunctionEnv sc env.globals cl [] env.qual none .none (some env)) _ _ { s2 with heap:=s2.heap.push (cG ([]:List Value).toArray 0),toks:=s2.toks }
 rw[F.ok.glob]
 refine gm (Γ:=bQ js Γ) I3 fit (by unfold bQ;rw[List.length_map];exact hcap.length) (sM hcap) (nc hcap F3 hcl') F.ok.blt (λv hv=>F.ok.code v (hcdc v hv)) .nil λcenv s4 hce I4 x4 F4 w4 l4=>?_
 have F4':Frm ft' { cenv with scope:=relabel sc env } (bQ js Γ) σ2 s4.heap:=F4.reenv rfl rfl (fit.relab rfl (by rw[hce];rfl) (by rw[hce];exact F.ok.blt) (λv hv=>by rw[hce];exact F.ok.code v (hcdc v hv)))
 have a4:=a3.ext x4 λf=>f
 have x24:=x3.trans I3 x4
 have j4:J W σ2.g ds s4:=hI.frame j2 (.refl _) I2.sub I4.sub (λa o hw e=>x24.keep a o e (w2 a hw).2.2 λf=>f) λi y _ e=>x24.gens i y e λf=>f
 have w3:∀a,W a→∃o,s2.heap.get? a=some o:=hI.there j2
 have wx3:∀a,W a→∃o,(s2.heap.push (cG ([]:List Value).toArray 0)).get? a=some o:=λa hw=>let ⟨o,e⟩:=w3 a hw;⟨o,Heap.get?_push_of_some _ e⟩
 have hWL:¬W cenv.locals:=by
  intro hw
  obtain⟨o,e⟩:=wx3 _ hw
  have:=w4 _ (.inl rfl)
  rw[this]at e;cases e
 have hWC:∀(i:Nat) (y:Str) (k:VK) (c:Addr),ft'.nt[i]?=some (y,k)→k≠.l→cenv.cells.lookup y=some c→¬W c:=by
  intro i y k c e hk hc hw
  cases k with
  | l=>exact hk rfl
  | c=>
   obtain⟨o,e'⟩:=wx3 _ hw
   have:=w4 _ (.inr ⟨i,y,e,hc⟩)
   rw[this]at e';cases e'
  | f=>
   rw[l4 y (dh e),hcl' y (dh e)]at hc
   obtain⟨j,k,_,h2,h3⟩:=hcap.free e
   obtain⟨c',hc',ov,⟨o,ho',_⟩,_⟩:=F.cel j y k h2 h3
   rw[hc]at hc';cases hc'
   rw[(w2 _ hw).1]at ho';cases ho'
 have hWA:¬W s2.heap.objs.size:=by
  intro hw
  obtain⟨o,e⟩:=w3 _ hw
  rw[nacc]at e;cases e
 have goal:codeAny X.M A (.compLoop (.ListComp elt (⟨tgt,iter,ifs,0⟩::rest) sc pos) 0 it (.ref s2.heap.objs.size) { cenv with scope:=relabel sc env }) (compPost X.M A NoE use Q (.ref s2.heap.objs.size) cenv.locals) s4:=by
  refine tC (env:={ cenv with scope:=relabel sc env }) (hturn it _ _) hI (hT _) (ht _) (hp _ _) hWL hWC hWA I4 F4' a4 j4 (λa h=>(w2 a h).2) (by simpa using hlen) e2 λσ' s' q' I' x' F' a'=>?_
  rw[List.nil_append]at a'
  obtain⟨g1,g2,vs,n,e,r⟩:=a'
  have back:∀a,s2.heap.get? a=none→s.heap.get? a=none:=λa e=>(Ext.back I2 x2 e).elim id λf=>f.elim
  have back3:∀a,(s2.heap.push (cG ([]:List Value).toArray 0)).get? a=none→s2.heap.get? a=none:=λa e=>by
   cases q:s2.heap.get? a with
   | none=>rfl
   | some o=>rw[Heap.get?_push_of_some _ q]at e;cases e
  have xx:Ext NoW NoG σ s σ' s':=((((x2.trans I2 x24).up (W:=λa=>FW ft' { cenv with scope:=relabel sc env } a∨a=s2.heap.objs.size∨W a) (Wg:=Wg)).trans I4 x')).drop
   (λa h=>h.elim (λh=>back a (back3 a (w4 a h))) λh=>h.elim (λh=>back a (h▸nacc)) λh=>(w2 a h).1) wg2
  obtain⟨I5,x5,le5,e5⟩:=gW I' xx e g1 g2 (back _ nacc)
  obtain⟨m,hn,_⟩:=F'.loc
  have hCn:s.heap.get? cenv.locals=none:=back _ (back3 _ (w4 _ (.inl rfl)))
  have hCe:cenv.locals≠s2.heap.objs.size:=λq=>by
   obtain⟨o,es,ep,ho,hd,_⟩:=hn
   have q':({ cenv with scope:=relabel sc env }:Env).locals=s2.heap.objs.size:=q
   rw[q',e]at ho;cases ho;cases hd
  refine hend _ _ ⟨cN σ'.g s2.heap.objs.size (cG vs.toArray n),σ'.own,σ'.sto⟩ s' m q' I5 x5 (F.ext x5) (.lst e5 (r.mono le5)) hn hCn F'.offL.2 ?_
  show (cN σ'.g _ _).get? _=none
  rw[bx hCe]
  exact F'.offL.1
 exact jZ rfl goal (hI.self j4 I4.sub goal)
end
end Mine
namespace Mine
section
variable{X:Cx}{A:Around}{ft ft':FT}{env:Env}{Γ Γ':List Slot}{σ:Sg}{s:Shared}{d:D}{c':List Cell}{js:List (Option Nat)}
noncomputable def aX(js:List (Option Nat))(src:PL)(tg:Tg)(t:PB)(p:PC):PE:=λΓ c=>(src Γ c).bind λ(ds,c1)=>(bL tg t p ds (bQ js Γ) c1).bind λ(out,_,c2)=>if out.length≤100000 then some (.lst out,c2)else none
theorem gN{src:PL}{tg:Tg}{t:PB}{p:PC}{c:List Cell}(h:aX js src tg t p Γ c=some (d,c')):∃ds c1 out Γe,src Γ c=some (ds,c1)∧bL tg t p ds (bQ js Γ) c1=some (out,Γe,c')∧out.length≤100000∧d=.lst out:=by
 (refine bE2 h ?_;(try clear h);intro ds c1 e1 h)
 (refine bE3 h ?_;(try clear h);intro out Γe c2 e2 h)
 dsimp only at h
 (first|(refine iE h ?_ ?_<;>(clear h;intro _ h))|split at h)
 ·rename_i hl
  cases h
  exact⟨ds,c1,out,Γe,e1,e2,hl,rfl⟩
 ·cases h
theorem cb{elt tgt iter:Expr}{ifs:List Expr}{sc:Scope}{pos:Pos}{src:PL}{tg:Tg}{t:PB}{p:PE}(fit:Fits ft' sc)(hcap:Capt ft ft'.nt js)(h1:ew X A ft env tgt iter src)
  (hT:∀env',dJ X A ft' env' tgt tg) (ht:∀env',ej X A ft' env' ifs t) (hp:∀env',SoundE X A ft' env' elt p) (hs:autoParam (∀env x,foldedSetIterable iter env x=pure x) aR) (hcdc:∀v,ft'.cd=some v→ft.cd=some v:=by intro _ h;first|exact h|cases h) :
  SoundE X A ft env (.ListComp elt [⟨tgt,iter,ifs,0⟩] sc pos) (aX js src tg t (aQ p)):=λΓ σ s d c' I F h=>by
 obtain⟨ds,c1,out,Γe,e1,e2,hl,rfl⟩:=gN h
 rw[eval_ListComp]
 refine iX (use:=none) fit hcdc hcap h1 (hs _) (λ_ _ _=>xH) hT ht (λacc env'=>tQ (hp env')) I F e1 e2 hl λacc C σ3 s3 m q3 I3 x3 F3 r3 hn hC hC1 hC2=>⟨m,hn,λh' hs'=>?_⟩
 have keep:∀a o,s3.heap.get? a=some o→¬(a=C)→h'.get? a=some o:=λa o e ha=>(hs'.2 a ha).trans e
 have I4:X.Inv σ3 { s3 with heap:=h',toks:=s3.toks }:=Mine.Inv.heap (W:=λa=>a=C) I3 keep λa e=>e▸⟨hC1,hC2⟩
 have x4:Ext (λa=>a=C) NoG σ3 s3 σ3 { s3 with heap:=h',toks:=s3.toks }:=Ext.heap keep
 exact⟨σ3,q3,I4,((x3.up (W:=λa=>a=C) (Wg:=NoG)).trans I3 x4).drop (λa e=>e▸hC) (λ_ f=>f.elim),r3⟩
theorem tP{elt t1 i1 t2 i2:Expr}{f1 f2:List Expr}{sc:Scope}{pos:Pos}{it acc:Value} :
  kS X A (.ListComp elt [⟨t1,i1,f1,0⟩,⟨t2,i2,f2,0⟩] sc pos) 0 it acc env t1 f1 (oJ (.ListComp elt [⟨t1,i1,f1,0⟩,⟨t2,i2,f2,0⟩] sc pos) i2 acc env):=λs E R h=>by
 rw[sa]
 refine wpAny_bind (wpAny_standAt (wpAny_bind (wpAny_mono h (λr s₁ h₁=>?_) λ_ _ h'=>h')))
 cases r with
 | none=>exact wpAny_pure h₁
 | some v=>
  refine wpAny_bind (wpAny_mono h₁ (λ_ s₂ h₂=>wpAny_bind (wpAny_mono h₂ (λ_ s₃ h₃=>wpAny_bind (wpAny_mono h₃ (λok s₄ h₄=>?_) λ_ _ h'=>h')) λ_ _ h'=>h')) λ_ _ h'=>h')
  cases ok with
  | false=>exact wpAny_pure h₄
  | true=>
   have q:wpAny X.M A ((oJ (.ListComp elt [⟨t1,i1,f1,0⟩,⟨t2,i2,f2,0⟩] sc pos) i2 acc env) >>= λ_=>again (.compLoop (.ListComp elt [⟨t1,i1,f1,0⟩,⟨t2,i2,f2,0⟩] sc pos) 0 it acc env)) R E s₄:=wpAny_bind (wpAny_mono h₄ (λ_ s₅ h₅=>wpAny_pure h₅) λ_ _ h'=>h')
   simp only[oJ,bind_assoc,pure_bind]at q
   exact q
theorem B7{elt t1 i1 t2 i2:Expr}{f1 f2:List Expr}{sc:Scope}{pos:Pos}{src:PL}{tg:Tg}{t:PB}{src2:PL}{tg2:Tg}{tt2:PB}{p:PE}(fit:Fits ft' sc)(hcap:Capt ft ft'.nt js)(h1:ew X A ft env t1 i1 src)
  (hT:∀env',dJ X A ft' env' t1 tg) (ht:∀env',ej X A ft' env' f1 t) (h2:∀env',ew X A ft' env' t2 i2 src2) (hT2:∀env',dJ X A ft' env' t2 tg2) (ht2:∀env',ej X A ft' env' f2 tt2) (hp:∀env',SoundE X A ft' env' elt p)
  (hs:autoParam (∀env x,foldedSetIterable i1 env x=pure x) aR) (hs2:autoParam (∀env x,foldedSetIterable i2 env x=pure x) aR) (hcdc:∀v,ft'.cd=some v→ft.cd=some v:=by intro _ h;first|exact h|cases h) :
  SoundE X A ft env (.ListComp elt [⟨t1,i1,f1,0⟩,⟨t2,i2,f2,0⟩] sc pos) (aX js src tg t (f7 tg2 src2 tt2 (aQ p))):=λΓ σ s d c' I F h=>by
 obtain⟨ds,c1,out,Γe,e1,e2,hl,rfl⟩:=gN h
 rw[eval_ListComp]
 refine iX (use:=none) (rest:=[⟨t2,i2,f2,0⟩]) fit hcdc hcap h1 (hs _) (λ_ _ _=>tP) hT ht (λacc env'=>wb (h2 env') (hT2 env') (ht2 env') (tQ (hp env')) hs2) I F e1 e2 hl λacc C σ3 s3 m q3 I3 x3 F3 r3 hn hC hC1 hC2=>⟨m,hn,λh' hs'=>?_⟩
 have keep:∀a o,s3.heap.get? a=some o→¬(a=C)→h'.get? a=some o:=λa o e ha=>(hs'.2 a ha).trans e
 have I4:X.Inv σ3 { s3 with heap:=h',toks:=s3.toks }:=Mine.Inv.heap (W:=λa=>a=C) I3 keep λa e=>e▸⟨hC1,hC2⟩
 have x4:Ext (λa=>a=C) NoG σ3 s3 σ3 { s3 with heap:=h',toks:=s3.toks }:=Ext.heap keep
 exact⟨σ3,q3,I4,((x3.up (W:=λa=>a=C) (Wg:=NoG)).trans I3 x4).drop (λa e=>e▸hC) (λ_ f=>f.elim),r3⟩
theorem mJ{elt:Expr}{gens:List Comprehension}{sc:Scope}{pos py:Pos}{y:Str}{n:Nat}(hk:env.scope.kind=.function)(hy:env.kindOf y=some .local)
  (hl:(py.line==pos.line && !(sc.names.any λ(n,k)=>n==y && (k==.local || k==.cell)))=true):swapsWith (.ListComp elt gens sc pos) (some (.Name y py)) n env=pure true:=by
 unfold swapsWith
 simp only[Env.blockKind,hk,hy]
 have e:(Expr.ListComp elt gens sc pos).pos=pos:=rfl
 rw[e]
 show pure (true && true && (py.line==pos.line) && _)=_
 rw[Bool.and_true,Bool.true_and,hl]
theorem fV{elt:Expr}{gens:List Comprehension}{sc:Scope}{pos py:Pos}{y:Str}{n:Nat}(hy:env.kindOf y=some .cell):swapsWith (.ListComp elt gens sc pos) (some (.Name y py)) n env=pure false:=by
 unfold swapsWith
 simp[hy,show (NameKind.cell==NameKind.local)=false from rfl]
theorem fS{i:Nat}{y:Str}{py spos:Pos}{elt tgt iter:Expr}{ifs:List Expr}{sc:Scope}{pos:Pos}{src:PL}{tg:Tg}{t:PB}{p:PE}(hi:ft.nt[i]?=some (y,.l))(fit:Fits ft' sc)(hcap:Capt ft ft'.nt js)(h1:ew X A ft env tgt iter src)
  (hT:∀env',dJ X A ft' env' tgt tg) (ht:∀env',ej X A ft' env' ifs t) (hp:∀env',SoundE X A ft' env' elt p) (hs:autoParam (∀env x,foldedSetIterable iter env x=pure x) aR) (hcdc:∀v,ft'.cd=some v→ft.cd=some v:=by intro _ h;first|exact h|cases h)
  (hl:autoParam ((py.line==pos.line && !(sc.names.any λ(n,k)=>n==y && (k==.local || k==.cell)))=true) aR) :
  aM X A ft env (.Assign [.Name y py] (.ListComp elt [⟨tgt,iter,ifs,0⟩] sc pos) spos) (bf i (aX js src tg t (aQ p))):=λΓ σ s fl Γ' c' I F h=>by
 (refine mE2 h ?_;(try clear h);intro d c1 e0 h)
 cases h
 obtain⟨ds,c1,out,Γe,e1,e2,hlen,rfl⟩:=gN e0
 rw[exec_Assign_Name_used _ _ _ _ (mJ F.ok.kind (jv (F.ok.kinds _ (dh hi))) hl)]
 refine wpAny_bind (wpAny_standAt (wpAny_bind ?_))
 show wpAny _ A (do let _ ←comprehension (.ListComp elt [⟨tgt,iter,ifs,0⟩] sc pos) sc env _ (newList []) false (eval iter env) (some (assign (.Name y py) env))) _ _ s
 refine wpAny_bind (wpAny_mono (iX (use:=some (assign (.Name y py) env)) (Q:=λ_ s'=>PostS X ft env σ s .next (aS i (.lst out) Γ) c' .next s') fit hcdc hcap h1 (hs _) (λ_ _ _=>xH) hT ht (λacc env'=>tQ (hp env')) I F e1 e2 hlen ?_)
  (λ_ s' hq=>wpAny_pure (wpAny_pure hq)) λ_ _ e=>e)
 intro acc C σ3 s3 m q3 I3 x3 F3 r3 hn hC hC1 hC2
 show wpAny _ A (assign (.Name y py) env (.ref acc)) _ _ _
 refine wpAny_assign_Name (cR I3 F3 hi (by intro q;cases q) (sl:=.val (.lst out)) r3 λs4 I4 x4 F4=>?_)
 have hCW:¬FW ft env C:=by
  rintro (rfl|⟨i,x,h1,h2⟩)
  ·obtain⟨m,hn,_⟩:=F.loc
   obtain⟨o,e⟩:=Heap.Ns.there hn
   rw[hC]at e;cases e
  ·obtain⟨c,hc,ov,⟨o,ho,_⟩,_⟩:=F.cel i x _ h1 (by intro q;cases q)
   rw[h2]at hc;cases hc
   rw[hC]at ho;cases ho
 refine⟨m,hn.at' λo e=>x4.keep _ o e hC1 hCW,λh' hs'=>?_⟩
 have keep:∀a o,s4.heap.get? a=some o→¬(a=C)→h'.get? a=some o:=λa o e ha=>(hs'.2 a ha).trans e
 have I5:X.Inv σ3 { s4 with heap:=h',toks:=s4.toks }:=Mine.Inv.heap (W:=λa=>a=C) I4 keep λa e=>e▸⟨hC1,hC2⟩
 have x5:Ext (λa=>a=C) NoG σ3 s4 σ3 { s4 with heap:=h',toks:=s4.toks }:=Ext.heap keep
 have F5:Frm ft env (aS i (.lst out) Γ) σ3 h':=F4.extW x5 (λq=>hCW (.inl q.symm)) λi y k c hi hk hc q=>by
  obtain⟨c',hc',ov,⟨o,ho,_⟩,_⟩:=F.cel i y k hi hk
  rw[hc]at hc';cases hc'
  subst q
  rw[hC]at ho;cases ho
 have xx:Ext (λa=>FW ft env a∨a=C) NoG σ s σ3 { s4 with heap:=h',toks:=s4.toks }:=((x3.up).trans I3 (x4.weaken (λ_ h=>.inl h) λ_ h=>h)).trans I4 (x5.weaken (λ_ h=>.inr h) λ_ h=>h)
 refine⟨σ3,q3,I5,⟨xx.le,?_,?_,?_,xx.gens,xx.os⟩,F5,trivial⟩
 ·obtain⟨m,hm,hf⟩:=xx.own
  exact⟨m,hm,λa ha=>(hf a ha).elim .inl λq=>q.elim .inr λq=>.inl (q▸hC)⟩
 ·intro a o e n
  rcases xx.fresh a o e n with h|h|h|h
  ·exact .inl h
  ·exact .inr (.inl h)
  ·exact .inr (.inr h)
  ·exact .inl (h▸hC)
 ·intro a o e n hw
  refine xx.keep a o e n λq=>q.elim hw λq=>?_
  rw[q,hC]at e;cases e
end
end Mine
namespace Mine
inductive RelSs (σ:Sg):List Value→List Slot→Prop
 | nil:RelSs σ [] []
 | cons {v:Value} {sl:Slot} {vs:List Value} {sls:List Slot}:RelS σ v sl→RelSs σ vs sls→RelSs σ (v::vs) (sl::sls)
theorem RelSs.length{σ:Sg}{vs:List Value}{sls:List Slot}(h:RelSs σ vs sls):vs.length=sls.length:=by induction h<;>simp_all
theorem RelSs.mono{σ σ':Sg}{vs:List Value}{sls:List Slot}(hg:Le σ.g σ'.g)(ho:∃more,σ'.own=σ.own++more)(h:RelSs σ vs sls):RelSs σ' vs sls:=by
 induction h with
 | nil=>exact .nil
 | cons r _ ih=>exact .cons (r.mono hg ho) ih
theorem Inv.cut{T:Tp}{σ:Sg}{s:Shared}(I:Inv T σ s)(n:Nat):Inv T ⟨σ.g,σ.own.take n,σ.sto.take n⟩ s:=by
 have at':∀{α:Type} {l:List α} {k:Nat} {x:α},(l.take n)[k]?=some x→l[k]?=some x:=λh=>by
  rw[List.getElem?_take]at h
  (first|(refine iE h ?_ ?_<;>(clear h;intro _ h))|split at h)
  ·exact h
  ·cases h
 exact⟨I.sub,by simp[I.len],I.nodup.sublist (List.take_sublist _ _),λk a c h1 h2=>I.cells k a c (at' h1) (at' h2),λk a c h1 h2=>I.off k a c (at' h1) (at' h2),I.top,I.bare,I.tk⟩
theorem Ext.cut{T:Tp}{W:Addr→Prop}{Wg:Nat→Prop}{σ σ':Sg}{s s':Shared}(I:Inv T σ s)(x:Ext W Wg σ s σ' s'):Ext W Wg σ s ⟨σ'.g,σ'.own.take σ.sto.length,σ'.sto.take σ.sto.length⟩ s':=by
 obtain⟨m,hm,_⟩:=x.own
 have:σ'.own.take σ.sto.length=σ.own:=by rw[hm,←I.len,List.take_left]
 exact⟨x.le,⟨[],by rw[List.append_nil];exact this,λ_ h=>(nomatch h)⟩,x.fresh,x.keep,x.gens,x.os⟩
noncomputable abbrev PA:=List Slot→List Cell→Option (List Slot×List Cell)
noncomputable def CO(X:Cx)(σ:Sg)(s:Shared)(sls:List Slot)(c':List Cell)(vs:List Value)(s':Shared):Prop:=
 ∃σ',σ'.sto=c'∧X.Inv σ' s'∧Ext NoW NoG σ s σ' s'∧RelSs σ' vs sls
noncomputable def gL(X:Cx)(A:Around)(ft:FT)(env:Env)(pos:Pos)(es:List Expr)(p:PA):Prop:=
 ∀Γ σ s d c',X.Inv σ s→Frm ft env Γ σ s.heap→p Γ σ.sto=some (d,c')→wpAny X.M A (spliced (backTo pos (starEach es env))) (CO X σ s d c') NoE s
section
variable{X:Cx}{A:Around}{ft:FT}{env:Env}{Γ Γ':List Slot}{σ:Sg}{s:Shared}{d:D}{c':List Cell}
theorem Ext.ownMore{W:Addr→Prop}{Wg:Nat→Prop}{σ':Sg}{s':Shared}(x:Ext W Wg σ s σ' s'):∃more,σ'.own=σ.own++more:=by
 obtain⟨m,h,_⟩:=x.own
 exact⟨m,h⟩
noncomputable def aW:PA:=λ_ c=>some ([],c)
noncomputable def aF(p:PE)(ps:PA):PA:=λΓ c=>(p Γ c).bind λ(d,c1)=>(ps Γ c1).map λ(ds,c2)=>(.val d::ds,c2)
noncomputable def d5(i:Nat)(ps:PA):PA:=λΓ c=>match Γ[i]? with
 | some (.ref k)=>(ps Γ c).map λ(ds,c2)=>(.ref k::ds,c2)
 | _=>none
noncomputable def tS(es:PL)(ps:PA):PA:=λΓ c=>(es Γ c).bind λ(ds,c1)=>if ds.length≤100000 then(ps Γ (c1++[.lst ds])).map λ(sls,c2)=>(.ref c1.length::sls,c2)else none
theorem ed{pos:Pos}:gL X A ft env pos [] aW:=λΓ σ s d c' I F h=>by
 cases h;exact wpAny_items_nil ⟨σ,rfl,I,.refl _ _ _ _,.nil⟩
theorem bM{pos:Pos}{e:Expr}{es:List Expr}{p:PE}{ps:PA}(h1:SoundE X A ft env e p)(h2:gL X A ft env pos es ps)(he:autoParam (∀env,starEach (e::es) env=(false,eval e env)::starEach es env) aR) :
  gL X A ft env pos (e::es) (aF p ps):=λΓ σ s d c' I F h=>by
 (refine bE2 h ?_;(try clear h);intro d1 c1 e1 h)
 (refine mE2 h ?_;(try clear h);intro ds c2 e2 h)
 cases h
 refine wpAny_items_cons (h1.use I F e1 λv σ1 s1 q1 I1 x1 F1 r1=>?_) (he env)
 subst q1
 refine wpAny_mono (h2 Γ σ1 s1 ds _ I1 F1 e2) (λvs s2 qz1=>?_) λ_ _ f=>f
 obtain⟨σ2,q2,I2,x2,r2⟩:=qz1
 exact⟨σ2,q2,I2,x1.trans I1 x2,.cons (Rel.mono x2.le r1) r2⟩
theorem rE{pos px:Pos}{i:Nat}{x:Str}{k:VK}{es:List Expr}{ps:PA}(hi:ft.nt[i]?=some (x,k))(h2:gL X A ft env pos es ps)(he:autoParam (∀env,starEach (.Name x px::es) env=(false,eval (.Name x px) env)::starEach es env) aR) :
  gL X A ft env pos (.Name x px::es) (d5 i ps):=λΓ σ s d c' I F h=>by
 unfold d5 at h
 (first|(refine iE h ?_ ?_<;>(clear h;intro _ h))|split at h)
 ·rename_i k e
  (refine mE2 h ?_;(try clear h);intro ds c2 e2 h)
  cases h
  have hx:=(F.ok.odd x (List.mem_append_left _ (List.mem_map.mpr ⟨_,List.mem_of_getElem? hi,rfl⟩))).1
  refine wpAny_items_cons (eval_Name hx (cO F hi e (by intro q;cases q) λv r=>?_)) (he env)
  refine wpAny_mono (h2 Γ σ s ds _ I F e2) (λvs s2 qz1=>?_) λ_ _ f=>f
  obtain⟨σ2,q2,I2,x2,r2⟩:=qz1
  exact⟨σ2,q2,I2,x2,.cons (r.mono x2.le x2.ownMore) r2⟩
 ·cases h
theorem D9{pos pl:Pos}{ls es:List Expr}{p:PL}{ps:PA}(h1:SoundL X A ft env pl ls p)(h2:gL X A ft env pos es ps)(he:autoParam (∀env,starEach (.List ls pl::es) env=(false,eval (.List ls pl) env)::starEach es env) aR) :
  gL X A ft env pos (.List ls pl::es) (tS p ps):=λΓ σ s d c' I F h=>by
 (refine bE2 h ?_;(try clear h);intro ds c1 e1 h)
 dsimp only at h
 (first|(refine iE h ?_ ?_<;>(clear h;intro _ h))|split at h)
 ·rename_i hl
  (refine mE2 h ?_;(try clear h);intro sls c2 e2 h)
  cases h
  refine wpAny_items_cons (wpAny_List (h1.use I F e1 λvs σ1 s1 q1 I1 x1 F1 r1=>⟨by rw[r1.length];exact bT hl,?_⟩)) (he env)
  subst q1
  obtain⟨I2,x2⟩:=lB (tk:=s1.toks) I1 r1
  refine wpAny_mono (h2 Γ _ _ sls _ I2 (F1.ext x2) e2) (λvs s2 qz1=>?_) λ_ _ f=>f
  obtain⟨σ2,q2,I3,x3,r3⟩:=qz1
  refine⟨σ2,q2,I3,(x1.trans I1 x2).trans I2 x3,.cons (RelS.mono (σ:=⟨σ1.g,σ1.own++[s1.heap.objs.size],σ1.sto++[.lst ds]⟩) (sl:=.ref σ1.sto.length) x3.le x3.ownMore ⟨s1.heap.objs.size,by rw[←I1.len];simp,rfl⟩) r3⟩
 ·cases h
noncomputable abbrev PF:=List Slot→List Cell→Option (D×List Cell)
noncomputable def FnOk(X:Cx)(n:Nat)(f:Value)(F:PF):Prop:=
 ∀A,Room A n→∀σ s vs sls d c',X.Inv σ s→RelSs σ vs sls→F sls σ.sto=some (d,c')→wpAny X.M A (call f vs) (PostE X σ s d c') NoE s
noncomputable def aI(F:PF)(pa:PA):PE:=λΓ c=>(pa Γ c).bind λ(sls,c1)=>F sls c1
theorem BB{n:Nat}{x:Str}{np pos:Pos}{e:Expr}{rest:List Expr}{a:Addr}{o:Obj}{fd:FuncData}{F:PF}{pa:PA}(hx:x∈ft.gt)(hv:X.mg x=some (.ref a))(ho:X.g0.get? a=some o)(hd:o.data=.func fd)
  (hA:gL X A ft env pos (e::rest) pa) (hF:FnOk X n (.ref a) F) (hr:Room A n) (he:autoParam (∀env,starEach (e::rest) env=(false,eval e env)::starEach rest env) aR) :
  SoundE X A ft env (.Call (.Name x np) (e::rest) [] pos) (aI F pa):=λΓ σ s d c' I FF h=>by
 (refine bE2 h ?_;(try clear h);intro sls c1 e1 h)
 refine wpAny_Call_NameR (eval_Name (FF.ok.odd x (List.mem_append_right _ hx)).1 (dy I FF hx hv ?_))
 refine callWith_def hd (wpAny_mono (hA Γ σ s sls c1 I FF e1) (λvs s1 qz1=>?_) λ_ _ f=>f) (he env)
 obtain⟨σ1,q1,I1,x1,r1⟩:=qz1
 subst q1
 exact⟨I1.sub _ _ (I1.top.base _ _ ho),wpAny_mono (hF A hr σ1 s1 vs sls d c' I1 r1 h) (λ_ _ k=>PostE.trans I1 x1 k) λ_ _ f=>f⟩
noncomputable def setFrom:Nat→List Slot→List Slot→List Slot
 | _,[],Γ=>Γ
 | i,sl::sls,Γ=>setFrom (i+1) sls (Γ.set i sl)
theorem pf:∀(sls:List Slot) (i:Nat) (Γ:List Slot),(setFrom i sls Γ).length=Γ.length
 | [],_,_=>rfl
 | sl::sls,i,Γ=>by rw[setFrom,pf sls,List.length_set]
theorem jA:∀(params:List Str) (vs:List Value) (sls:List Slot) (i:Nat) (Γ:List Slot),(∀j x,params[j]?=some x→∃k,ft.nt[i+j]?=some (x,k)∧k≠.f)→RelSs σ vs sls→params.length=vs.length→
  iZ ft σ (params.zip vs) Γ (setFrom i sls Γ):=by
 intro params
 induction params with
 | nil=>
  intro vs sls i Γ h r hl
  cases List.eq_nil_of_length_eq_zero hl.symm
  cases r
  exact .nil
 | cons x ps ih=>
  intro vs sls i Γ h r hl
  obtain⟨v,ws,rfl,hl'⟩:=ma hl.symm
  cases r with
  | cons r rs=>
   obtain⟨k,h1,h2⟩:=h 0 x rfl
   exact .cons h1 h2 r (ih ws _ (i+1) _ (λj y hy=>by
    have:=h (j+1) y (by simpa using hy)
    rwa [show i+(j+1)=i+1+j by(first|lia|omega)]at this) rs hl'.symm)
noncomputable def jR(ft:FT)(params:List Str):Bool:=(List.range params.length).all λj=>match params[j]?,ft.nt[j]? with
 | some x,some (y,k)=>x==y && (match k with|.f=>false|_=>true)
 | _,_=>false
theorem rd{params:List Str}(h:jR ft params=true):∀(j:Nat) x,params[j]?=some x→∃k,ft.nt[0+j]?=some (x,k)∧k≠.f:=λj x hx=>by
 have:=List.all_eq_true.mp h j (List.mem_range.mpr (List.getElem?_eq_some_iff.mp hx).1)
 rw[hx]at this
 rw[Nat.zero_add]
 cases q:ft.nt[j]? with
 | none=>rw[q]at this;cases this
 | some p=>
  obtain⟨y,k⟩:=p
  rw[q]at this
  simp only[Bool.and_eq_true,beq_iff_eq]at this
  obtain⟨rfl,hk⟩:=this
  exact⟨k,rfl,by rintro rfl;cases hk⟩
noncomputable def A8(n:Nat):Fl×List Slot×List Cell→Option (D×List Cell)
 | (.ret d,_,c')=>some (d,c'.take n)
 | (.next,_,c')=>some (.none,c'.take n)
 | _=>none
noncomputable def cB(m k:Nat)(q:PS):PF:=λsls c=>if sls.length=k then(q (setFrom 0 sls (List.replicate m .un)) c).bind (A8 c.length)else none
theorem AX{n m k:Nat}{a:Addr}{o:Obj}{fd:FuncData}{body:List Stmt}{params:List Str}{q:PS}(ho:X.g0.get? a=some o)(hd:o.data=.func fd)(hcd:X.g0.CodeRec fd.code fd.qualname)(hb:fd.body=.stmts body)
  (hco:fd.scope.isCoroutine=false) (hgen:fd.scope.isGenerator=false) (hgl:fd.globals=mainGlobals) (hbl:fd.builtins=builtinsNs) (fit:Fits ft fd.scope) (hnf:∀x,(x,VK.f)∉ft.nt) (hm:ft.nt.length=m)
  (hk:params.length=k) (hpar:jR ft params=true) (hbind:∀vs:List Value,vs.length=k→bindArgs fd ⟨vs,[]⟩=pure (params.zip vs)) (hbody:∀A env,Room A n→bh X A ft env body q) (hcdf:∀v,ft.cd=some v→fd.code=v.1∧fd.qualname++".<locals>." = v.2:=by intro _ h;cases h):FnOk X (n+1) (.ref a) (cB m k q):=by
 intro A hr σ s vs sls d c' I r h
 unfold cB at h
 (first|(refine iE h ?_ ?_<;>(clear h;intro _ h))|split at h)
 ·rename_i hlen
  (refine bE3 h ?_;(try clear h);intro fl Γe ce e1 h)
  have top:=I.top
  refine wpAny_call (codeAny_call_function (by have:=hr.depth;unfold recursionLimit;(first|lia|omega)) (I.sub _ _ (top.base _ _ ho)) hd hco hgen hb ((hcd.keeps top.base).keeps I.sub) ?_)
  rw[hbind vs (by rw[r.length];exact hlen),hgl,hbl]
  refine wpAny_pure (up ?_)
  refine gm (Γ:=List.replicate m .un) I fit (by simp[hm]) (λi x k _ _ sl e=>?_) (λi x e=>absurd (dh e) (hnf x)) rfl hcdf (jA params vs sls 0 _ (rd hpar) r (by rw[hk,r.length,hlen])) λenv s1 he I1 x1 F1 w1 l1=>?_
  ·rw[List.getElem?_replicate]at e
   (first|(refine iE e ?_ ?_<;>(clear e;intro _ e))|split at e)<;>cases e
   rfl
  ·refine⟨(I1.top.nolim).keeps I1.sub,codeAny_func ?_⟩
   refine up (wpAny_mono (hbody (A.deeper env) env hr.deeper (setFrom 0 sls (List.replicate m .un)) σ s1 fl Γe ce I1 F1 e1) (λf s2 qz1=>?_) λ_ _ f=>f)
   obtain⟨σ2,q2,I2,x2,F2,r2⟩:=qz1
   have xx:Ext NoW NoG σ s σ2 s2:=(x1.up.trans I1 x2).drop w1 λ_ f=>f.elim
   have I3:=I2.cut σ.sto.length
   have x3:=xx.cut I
   subst q2
   cases fl with
   | next=>cases f<;>cases r2;cases h;exact⟨_,rfl,I3,x3,.none⟩
   | ret d'=>
    cases f<;>first|(cases r2;done)|skip
    cases h;exact⟨_,rfl,I3,x3,r2⟩
   | brk=>cases h
   | cont=>cases h
 ·cases h
end
end Mine
end
section
open PySem PySem.Calls PySem.Spec PyProof PyProof.Rows PySem.W
set_option maxRecDepth 100000
namespace Mine
section
variable{X:Cx}{A:Around}{ft ft':FT}{env:Env}{Γ Γ':List Slot}{σ:Sg}{s:Shared}{d:D}{c':List Cell}
theorem fK{k:Nat}{a:Addr}{cl cl':Cell}{h':Heap}{tk:Nat}(I:X.Inv σ s)(ha:σ.own[k]?=some a)(hc:σ.sto[k]?=some cl)(hf:cl.isFz=false)(hs:∀b o,b≠a→s.heap.get? b=some o→h'.get? b=some o)
  (ok:CellOk σ.g h' a cl') (ht:autoParam (s.toks≤tk) aL) :
  X.Inv ⟨σ.g,σ.own,σ.sto.set k cl'⟩ { s with heap:=h',toks:=tk }∧Ext NoW NoG σ s ⟨σ.g,σ.own,σ.sto.set k cl'⟩ { s with heap:=h',toks:=tk }:=by
 have hoff:=I.off k a cl ha hc hf
 refine⟨⟨λb o e=>?_,by rw[List.length_set];exact I.len,I.nodup,λj b c e1 e2=>?_,λj b c e1 e2 e3=>?_,I.top,I.bare,Nat.lt_of_lt_of_le I.tk ht⟩,⟨.refl _,⟨[],by simp,by simp⟩,λb o e n=>(by rw[n]at e;cases e),λb o e hn _=>?_,λ_ _ e _=>e,rfl⟩⟩
 ·have hb:b≠a:=by rintro rfl;rw[hoff]at e;cases e
  exact hs b o hb (I.sub b o e)
 ·by_cases hj:k=j
  ·subst hj
   dsimp only at e1 e2
   rw[ha]at e1;cases e1
   rw[List.getElem?_set_self (List.getElem?_eq_some_iff.mp hc).1]at e2;cases e2
   exact ok
  ·dsimp only at e1 e2
   rw[List.getElem?_set_ne hj]at e2
   have hb:b≠a:=by
    rintro rfl
    obtain⟨l1,q1⟩:=List.getElem?_eq_some_iff.mp ha
    obtain⟨l2,q2⟩:=List.getElem?_eq_some_iff.mp e1
    exact hj ((List.getElem_inj I.nodup).mp (q1.trans q2.symm))
   have c0:=I.cells j b c e1 e2
   obtain⟨o,ho⟩:=c0.there I.sub
   exact c0.mono (.refl _) λ_=>(hs b o hb ho).trans ho.symm
 ·by_cases hj:k=j
  ·subst hj
   dsimp only at e1
   rw[ha]at e1;cases e1
   exact hoff
  ·dsimp only at e1 e2
   rw[List.getElem?_set_ne hj]at e2
   exact I.off j b c e1 e2 e3
 ·have hb:b≠a:=by rintro rfl;exact hn (List.mem_of_getElem? ha)
  exact hs b o hb e
theorem ownAt{σ':Sg}{s':Shared}{W:Addr→Prop}{Wg:Nat→Prop}{k:Nat}{a:Addr}(x:Ext W Wg σ s σ' s')(h:σ.own[k]?=some a):σ'.own[k]?=some a:=by
 obtain⟨m,hm,_⟩:=x.own
 rw[hm,List.getElem?_append_left (List.getElem?_eq_some_iff.mp h).1]
 exact h
noncomputable def hZ(Γ:List Slot)(c:List Cell)(i:Nat):Option Nat:=match Γ[i]? with
 | some (.ref k)=>match c[k]? with
  | some (.lst _)=>some k
  | _=>none
 | _=>none
theorem gU{c:List Cell}{i k:Nat}(h:hZ Γ c i=some k):Γ[i]?=some (.ref k)∧∃ds,c[k]?=some (.lst ds):=by
 unfold hZ at h
 (first|(refine iE h ?_ ?_<;>(clear h;intro _ h))|split at h)
 ·rename_i j e
  (first|(refine iE h ?_ ?_<;>(clear h;intro _ h))|split at h)
  ·rename_i ds e2
   cases h
   exact⟨e,ds,e2⟩
  ·cases h
 ·cases h
noncomputable def dK(i:Nat)(p:PE):PS:=λΓ c=>(hZ Γ c i).bind λk=>(p Γ c).bind λ(d,c1)=>match c1[k]? with
 | some (.lst ds)=>if ds.length≤99999 then some (.next,Γ,c1.set k (.lst (ds++[d])))else none
 | _=>none
theorem cD{i:Nat}{x:Str}{k:VK}{h:Heap}(F:Frm ft env Γ σ h)(hi:ft.nt[i]?=some (x,k)):(x==("__debug__" : Str))=false:=
 (F.ok.odd x (List.mem_append_left _ (List.mem_map.mpr ⟨_,List.mem_of_getElem? hi,rfl⟩))).1
theorem iy{i:Nat}{x:Str}{k:VK}{px apos pos epos:Pos}{e:Expr}{p:PE}(hi:ft.nt[i]?=some (x,k))(h1:SoundE X A ft env e p)
  (hbase:autoParam (∀env,attributeBase (.Name x px) "append" env (eval (.Name x px) env)=eval (.Name x px) env) aR)
  (hfew:autoParam (∀env,((backTo pos (starEach [e] env)).all (λx=>!x.1) && (backToKw pos (keywordEach [] env)).all (λx=>x.1.isSome)
   && decide (([e]:List Expr).length+([]:List Keyword).length+(if ([]:List Keyword).isEmpty then 0 else 1)<30))=true) aR)
  (hline:autoParam ((apos.endLine==pos.line)=true) aR) (htrees:autoParam (∀env,backTo pos (starEach [e] env)=[(false,eval e env)]) aR) :
  aM X A ft env (.Expr (.Call (.Attribute (.Name x px) "append" apos) [e] [] pos) epos) (dK i p):=λΓ σ s fl Γ' c' I F h=>by
 (refine bE h ?_;(try clear h);intro k e0 h)
 obtain⟨e0,ds0,ec⟩:=gU e0
 (refine bE2 h ?_;(try clear h);intro d c1 e1 h)
 dsimp only at h
 (first|(refine iE h ?_ ?_<;>(clear h;intro _ h))|split at h)
 ·rename_i ds e2
  (first|(refine iE h ?_ ?_<;>(clear h;intro _ h))|split at h)
  ·rename_i hl
   cases h
   refine wpAny_Expr ?_ (by unfold interactive;rw[F.ok.kind];rfl) rfl
   refine wpAny_Call_append (hbase env) (hfew env) hline (htrees env) (eval_Name (cD F hi) (cO F hi e0 (by intro q;cases q) λv r=>?_))
   obtain⟨a,ha,rfl⟩:=r
   obtain⟨vs0,n0,ho0,_⟩:=I.cells k a _ ha ec
   refine⟨a,vs0.toArray,rfl,⟨_,n0,ho0,rfl,rfl,rfl⟩,h1.use I F e1 λv σ1 s1 q1 I1 x1 F1 r1=>?_⟩
   subst q1
   obtain⟨vs,n,ho,rr⟩:=I1.cells k a _ (ownAt x1 ha) e2
   refine append_at ho (λh' hs hD=>?_) (by simp only[List.size_toArray,rr.length];exact bT (by(first|lia|omega)))
   obtain⟨I2,x2⟩:=fK (cl':=.lst (ds++[d])) (tk:=s1.toks) I1 (ownAt x1 ha) e2 rfl (λb o hb e=>(hs.2 b hb).trans e) ⟨vs++[v],n+1,by rw[hD,List.push_toArray],rr.append (.one r1)⟩
   exact⟨_,rfl,I2,(x1.trans I1 x2).up,F1.ext x2,trivial⟩
  ·cases h
 ·cases h
noncomputable def ll(i:Nat)(p:PE):PS:=λΓ c=>(hZ Γ c i).bind λk=>(p Γ c).bind λ(d,c1)=>match c1[k]?,d with
 | some (.lst ds),.lst es=>if ds.length+es.length≤99999 then some (.next,Γ,c1.set k (.lst (ds++es)))else none
 | _,_=>none
theorem zw{i:Nat}{x:Str}{k:VK}{px apos pos epos:Pos}{e:Expr}{p:PE}(hi:ft.nt[i]?=some (x,k))(h1:SoundE X A ft env e p)
  (hbase:autoParam (∀env,attributeBase (.Name x px) "extend" env (eval (.Name x px) env)=eval (.Name x px) env) aR)
  (hfew:autoParam (∀env,((backTo pos (starEach [e] env)).all (λx=>!x.1) && (backToKw pos (keywordEach [] env)).all (λx=>x.1.isSome)
   && decide (([e]:List Expr).length+([]:List Keyword).length+(if ([]:List Keyword).isEmpty then 0 else 1)<30))=true) aR)
  (hline:autoParam ((apos.endLine==pos.line)=true) aR) (htrees:autoParam (∀env,backTo pos (starEach [e] env)=[(false,eval e env)]) aR) :
  aM X A ft env (.Expr (.Call (.Attribute (.Name x px) "extend" apos) [e] [] pos) epos) (ll i p):=λΓ σ s fl Γ' c' I F h=>by
 (refine bE h ?_;(try clear h);intro k e0 h)
 obtain⟨e0,ds0,ec⟩:=gU e0
 (refine bE2 h ?_;(try clear h);intro d c1 e1 h)
 dsimp only at h
 (first|(refine iE h ?_ ?_<;>(clear h;intro _ h))|split at h)
 ·rename_i ds es e2
  (first|(refine iE h ?_ ?_<;>(clear h;intro _ h))|split at h)
  ·rename_i hl
   cases h
   refine wpAny_Expr ?_ (by unfold interactive;rw[F.ok.kind];rfl) rfl
   refine wpAny_Call_method (hbase env) (hfew env) hline PySem.F.plainAttrs_list PySem.F.slot_list_extend PySem.F.type_list_extend (eval_Name (cD F hi) (cO F hi e0 (by intro q;cases q) λv r=>?_))
   obtain⟨a,ha,rfl⟩:=r
   obtain⟨vs0,n0,ho0,_⟩:=I.cells k a _ ha ec
   rw[htrees env]
   refine⟨⟨_,ho0,rfl⟩,λb e=>by cases e;exact⟨_,ho0,rfl⟩,P.extend_list (h1.use I F e1 λv σ1 s1 q1 I1 x1 F1 r1=>?_)⟩
   subst q1
   obtain⟨vs,n,ho,rr⟩:=I1.cells k a _ (ownAt x1 ha) e2
   cases r1 with
   | lst eb rb=>
    rename_i b ws m
    have hz:(vs.toArray).size+ws.toArray.size≤99999:=by simp only[List.size_toArray,rr.length,rb.length];exact hl
    refine⟨b,vs.toArray,ws.toArray,n,m,Nat.le_trans (Nat.le_add_right _ _) (bT (Nat.le_trans hz (by(first|lia|omega)))),Nat.le_succ_of_le (bT (Nat.le_trans hz (by(first|lia|omega)))),?_,rfl,ho,I1.sub _ _ eb,?_⟩
    ·simp only[Builtin.List.listTooLong,Bool.and_eq_true,not_and]
     intro _
     have:=bT (Nat.le_trans hz (by(first|lia|omega):(99999:Nat)≤100000))
     simp[sizeLine]at this⊢
     (first|lia|omega)
    ·have hself:∃m,(s1.heap.update a (Obj.mapSeq λxs=>xs++ws.toArray)).get? a=some (cG (vs.toArray++ws.toArray) m):=⟨_,Heap.get?_update_self _ ho rfl⟩
     obtain⟨m',hself⟩:=hself
     obtain⟨I2,x2⟩:=fK (cl':=.lst (ds++es)) (tk:=s1.toks) I1 (ownAt x1 ha) e2 rfl (h':=s1.heap.update a (Obj.mapSeq λxs=>xs++ws.toArray)) (λb o hb e=>(Heap.get?_update_other _ _ (Ne.symm hb)).trans e)
      ⟨vs++ws,m',by rw[hself,List.append_toArray],rr.append rb⟩
     exact⟨_,rfl,I2,(x1.trans I1 x2).up,F1.ext x2,trivial⟩
  ·cases h
 ·cases h
noncomputable def gD(i:Nat):PE:=λΓ c=>(hZ Γ c i).bind λk=>match c[k]? with
 | some (.lst ds)=>if ds.length≤100000 then some (.int ds.length,c)else none
 | _=>none
theorem AA{i:Nat}{x:Str}{k:VK}{np px pos:Pos}(hi:ft.nt[i]?=some (x,k))(hx:("len" : Str)∈ft.gt)(hn:X.mg "len" = none)(hb:X.mb "len" = some (.builtin "len")):SoundE X A ft env (.Call (.Name "len" np) [.Name x px] [] pos) (gD i):=λΓ σ s d c' I F h=>by
 (refine bE h ?_;(try clear h);intro k e0 h)
 obtain⟨e0,ds0,ec⟩:=gU e0
 (first|(refine iE h ?_ ?_<;>(clear h;intro _ h))|split at h)
 ·rename_i ds e2
  (first|(refine iE h ?_ ?_<;>(clear h;intro _ h))|split at h)
  ·rename_i hl
   cases h
   refine wpAny_Call_NameR (eval_Name (F.ok.odd _ (List.mem_append_right _ hx)).1 (bY I F hx hn hb ?_))
   refine callWith_builtin1 (wpAny_items_cons (eval_Name (cD F hi) (cO F hi e0 (by intro q;cases q) λv r=>?_)) rfl) rfl rfl
   obtain⟨a,ha,rfl⟩:=r
   obtain⟨vs,n,ho,rr⟩:=I.cells k a _ ha e2
   refine wpAny_items_nil ?_
   refine call_len_list ⟨_,ho,rfl,_,rfl⟩ (by simp only[List.size_toArray,rr.length];(first|lia|omega)) ?_
   rw[List.size_toArray,rr.length]
   exact PostE.here I (.int _ _)
  ·cases h
 ·cases h
end
end Mine
namespace Mine
section
variable{X:Cx}{A:Around}{ft ft':FT}{env:Env}{Γ Γ':List Slot}{σ:Sg}{s:Shared}{d:D}{c':List Cell}
theorem z6{o:Obj}{cl:Cell}{tk:Nat}(I:X.Inv σ s)(ok:CellOk σ.g (s.heap.push o) s.heap.objs.size cl)(ht:autoParam (s.toks≤tk) aL) :
  let σ':Sg:=⟨σ.g,σ.own++[s.heap.objs.size],σ.sto++[cl]⟩
  let s':Shared:={ s with heap:=s.heap.push o,toks:=tk }
  X.Inv σ' s'∧Ext NoW NoG σ s σ' s':=by
 have n:s.heap.get? s.heap.objs.size=none:=get?_push_none
 obtain⟨n1,n2⟩:=I.notIn n
 have I':X.Inv σ { s with heap:=s.heap.push o,toks:=tk }:=(jK I ht).1
 refine⟨⟨I'.sub,by simp[I.len],?_,λk a c e1 e2=>?_,λk a c e1 e2 e3=>?_,I'.top,I'.bare,I'.tk⟩,⟨.refl _,⟨_,rfl,λa ha=>?_⟩,λa o e n=>(by rw[n]at e;cases e),λa o e _ _=>Heap.get?_push_of_some _ e,λ_ _ e _=>e,rfl⟩⟩
 ·rw[List.nodup_append]
  exact⟨I.nodup,by simp,λa ha b hb=>by simp at hb;subst hb;rintro rfl;exact n1 ha⟩
 ·dsimp only at e1 e2
  by_cases hk:k<σ.own.length
  ·rw[List.getElem?_append_left hk]at e1
   rw[List.getElem?_append_left (I.len▸hk)]at e2
   exact I'.cells k a c e1 e2
  ·have hk':σ.own.length≤k:=Nat.le_of_not_lt hk
   rw[List.getElem?_append_right hk']at e1
   rw[List.getElem?_append_right (I.len▸hk')]at e2
   have h0:k - σ.own.length=0:=by
    have:=(List.getElem?_eq_some_iff.mp e1).1
    simp at this;(first|lia|omega)
   have h1:k - σ.sto.length=0:=by rw[←I.len];exact h0
   rw[h0]at e1;rw[h1]at e2
   cases e1;cases e2
   exact ok
 ·dsimp only at e1 e2
  by_cases hk:k<σ.own.length
  ·rw[List.getElem?_append_left hk]at e1
   rw[List.getElem?_append_left (I.len▸hk)]at e2
   exact I.off k a c e1 e2 e3
  ·have hk':σ.own.length≤k:=Nat.le_of_not_lt hk
   rw[List.getElem?_append_right hk']at e1
   have:=List.mem_of_getElem? e1
   simp at this
   subst this;exact n2
 ·simp at ha
  subst ha
  exact .inl n
theorem mi{prog:Program}{w:World}{E:Value→Shared→Prop}{l:Addr}{items:Array Value}{Q:Value→Shared→Prop}(hl:s.heap.IsList l items)
  (h:Q (.ref s.heap.objs.size) { s with heap:=s.heap.push { cls:=.type "list_iterator",data:=.fields #[.ref l,.int 0 0] } }):wpAny (model prog w) A (call (.builtin "iter") [.ref l]) Q E s:=by
 refine call_function_entry (by decide +kernel) (by decide +kernel) kdk_entry_iter (kdk_args_iter _) ?_
 unfold Builtin.«iter»
 refine wpAny_bind (m:=someArgs "iter" 1 2 _) (wpAny_of_eq (a:=[Value.ref l]) (by first|rfl|kernel_rfl!) ?_)
 show wpAny _ _ (pyIter (.ref l) >>= _) _ _ _
 exact wpAny_bind (wpAny_pyIter_list hl (wpAny_pure ⟨_,rfl,h⟩))
noncomputable def ix(i:Nat)(p:PE):PS:=λΓ c=>(p Γ c).bind λ(d,c1)=>match d with
 | .lst ds=>some (.next,Γ.set i (.ref c1.length),c1++[.it ds])
 | _=>none
theorem yN{i:Nat}{x:Str}{k:VK}{e:Expr}{p:PE}{np px pos spos:Pos}(hi:ft.nt[i]?=some (x,k))(hk:k≠.f)(hx:("iter" : Str)∈ft.gt)(hn:X.mg "iter" = none)(hb:X.mb "iter" = some (.builtin "iter"))(h1:SoundE X A ft env e p)
  (he:autoParam (∀env,starEach [e] env=(false,eval e env)::starEach [] env) aR):aM X A ft env (.Assign [.Name x px] (.Call (.Name "iter" np) [e] [] pos) spos) (ix i p):=λΓ σ s fl Γ' c' I F h=>by
 (refine bE2 h ?_;(try clear h);intro d c1 e1 h)
 dsimp only at h
 (first|(refine iE h ?_ ?_<;>(clear h;intro _ h))|split at h)
 ·rename_i ds
  cases h
  refine wpAny_Assign_Name (wpAny_Call_NameR (eval_Name (F.ok.odd _ (List.mem_append_right _ hx)).1 (bY I F hx hn hb ?_))) rfl
  refine callWith_builtin1 (wpAny_items_cons (h1.use I F e1 λv σ1 s1 q1 I1 x1 F1 r1=>wpAny_items_nil ?_) (he env)) (he env) rfl
  subst q1
  cases r1 with
  | lst el rl=>
   rename_i l vs n
   refine mi ⟨_,I1.sub _ _ el,rfl,_,rfl⟩ ?_
   obtain⟨I2,x2⟩:=z6 (cl:=.it ds) (o:={ cls:=.type "list_iterator",data:=.fields #[.ref l,.int 0 0] }) (tk:=s1.toks) I1 ⟨l,vs,n,0,⟨_,Heap.get?_push_size _ rfl,rfl,rfl⟩,el,rl⟩
   exact cR I2 (F1.ext x2) hi hk (sl:=.ref σ1.sto.length) ⟨s1.heap.objs.size,by rw[←I1.len];simp,rfl⟩ λs' I' x' F'=>⟨_,rfl,I',(x1.up.trans I1 x2.up).trans I2 x',F',trivial⟩
 ·cases h
theorem j1{prog:Program}{w:World}{E:Value→Shared→Prop}{it l:Addr}{i:Nat}{items:Array Value}{x:Value}{Q:Option Value→Shared→Prop}(hit:s.heap.IsListIter it l i)(hl:s.heap.IsList l items)(hx:items[i]?=some x)
  (hQ:∀h',h'.IsListIter it l (i+1)→Heap.SameBut it s.heap h'→Q (some x) { s with heap:=h' }):wpAny (model prog w) A (callSpecial? (.ref it) (Str.ofString "__next__")) Q E s:=by
 obtain⟨o,ho,hc,hd⟩:=id hit
 obtain⟨ol,hol,_,nl,hdl⟩:=hl
 refine wpAny_callSpecial?_slot (name:=Str.ofString "__next__") hit.typeIs slot_listiter_next
  (wpAny_call_entry slot_listiter_next hit.typeIs entry_listiter_next ?_ (args_listiter_next _))
 show wpAny _ _ (field (.ref it) 0 >>= _) _ _ s
 refine wpAny_bind (wpAny_field ho hd (x:=.ref l) rfl ?_)
 show wpAny _ _ (if (Value.ref l==Value.none)=true then _ else _) _ _ s
 rw[if_neg (show ¬((Value.ref l==Value.none)=true)from Bool.false_ne_true)]
 show wpAny _ _ (field (.ref it) 1 >>= _) _ _ s
 refine wpAny_bind (wpAny_field ho hd (x:=.int i 0) rfl ?_)
 show wpAny _ _ (seqItems? (.ref l) >>= _) _ _ s
 refine wpAny_bind (wpAny_seqItems hol hdl ?_)
 simp only[Int.toNat_natCast,hx]
 refine wpAny_bind (wpAny_setField ho hd (by simp) (wpAny_pure ⟨x,rfl,hQ _ ?_ (Heap.SameBut.update ..)⟩))
 exact⟨_,Heap.get?_update_self _ ho (Obj.isFreed_of_fields (Obj.data_mapFields hd _)),(Obj.cls_mapFields ..).trans hc,by
  rw[Obj.data_mapFields hd];simp[rawInt]⟩
theorem lW{prog:Program}{w:World}{E:Value→Shared→Prop}{it l:Addr}{i:Nat}{items:Array Value}{x:Value}{Q:Value→Shared→Prop}(hit:s.heap.IsListIter it l i)(hl:s.heap.IsList l items)(hx:items[i]?=some x)
  (hQ:∀h',h'.IsListIter it l (i+1)→Heap.SameBut it s.heap h'→Q x { s with heap:=h' }):wpAny (model prog w) A (call (.builtin "next") [.ref it]) Q E s:=by
 refine call_function_entry (by decide +kernel) (by decide +kernel) kdk_entry_next (kdk_args_next _) ?_
 unfold Builtin.«next»
 refine wpAny_bind (m:=someArgs "next" 1 2 _) (wpAny_of_eq (a:=[Value.ref it]) (by first|rfl|kernel_rfl!) ?_)
 dsimp only
 refine wpAny_bind (wpAny_specialOf (name:=Str.ofString "__next__") hit.typeIs slot_listiter_next.lookup ?_)
 refine wpAny_ite_split (λhab=>absurd hab (by decide)) (λ_=>?_)
 exact wpAny_bind (j1 hit hl hx λh' hit' hs=>wpAny_pure ⟨_,rfl,hQ h' hit' hs⟩)
noncomputable def lg(i:Nat):PE:=λΓ c=>match Γ[i]? with
 | some (.ref k)=>match c[k]? with
  | some (.it (d::ds))=>some (d,c.set k (.it ds))
  | _=>none
 | _=>none
theorem Dr{i:Nat}{x:Str}{k:VK}{np px pos:Pos}(hi:ft.nt[i]?=some (x,k))(hx:("next" : Str)∈ft.gt)(hn:X.mg "next" = none)(hb:X.mb "next" = some (.builtin "next")):SoundE X A ft env (.Call (.Name "next" np) [.Name x px] [] pos) (lg i):=λΓ σ s d c' I F h=>by
 unfold lg at h
 (first|(refine iE h ?_ ?_<;>(clear h;intro _ h))|split at h)
 ·rename_i k e0
  (first|(refine iE h ?_ ?_<;>(clear h;intro _ h))|split at h)
  ·rename_i d ds ec
   cases h
   refine wpAny_Call_NameR (eval_Name (F.ok.odd _ (List.mem_append_right _ hx)).1 (bY I F hx hn hb ?_))
   refine callWith_builtin1 (wpAny_items_cons (eval_Name (cD F hi) (cO F hi e0 (by intro q;cases q) λv r=>wpAny_items_nil ?_)) rfl) rfl rfl
   obtain⟨a,ha,rfl⟩:=r
   obtain⟨l,vs,n,j,hit,el,rl⟩:=I.cells k a _ ha ec
   obtain⟨v,hv,rv⟩:=rl.get (k:=0) (d:=d) rfl
   have hx':vs[j]?=some v:=by simpa using hv
   refine lW hit ⟨_,I.sub _ _ el,rfl,n,rfl⟩ (x:=v) (by simpa using hx') λh' hit' hs=>?_
   obtain⟨I2,x2⟩:=fK (cl':=.it ds) (tk:=s.toks) I ha ec rfl (h':=h') (λb o hb e=>(hs.2 b hb).trans e) ⟨l,vs,n,j+1,hit',el,by
    have q:vs.drop (j+1)=(vs.drop j).drop 1:=by rw[List.drop_drop]
    rw[q];exact rl.drop 1⟩
   exact⟨_,rfl,I2,x2,rv⟩
  ·cases h
 ·cases h
end
end Mine
namespace Mine
section
variable{prog:Program}{w:World}{A:Around}{E:Value→Shared→Prop}{s:Shared}
theorem kE{it l:Addr}{i:Nat}{items:Array Value}{Q:Option Value→Shared→Prop}(hh:A.handled=none)
  (hit:s.heap.IsListIter it l i) (hl:s.heap.IsList l items) (hx:items[i]?=none)
  (hQ:∀h',(∃o,h'.get? it=some o)→Heap.ExtBut it s.heap h'→Q none { s with heap:=h' }):wpAny (model prog w) A (pyNext (.ref it)) Q E s:=by
 obtain⟨o,ho,hc,hd⟩:=id hit
 obtain⟨ol,hol,_,nl,hdl⟩:=hl
 unfold pyNext
 refine wpAny_bind (wpAny_attempt (wpAny_callSpecial?_slot (name:=Str.ofString "__next__") hit.typeIs slot_listiter_next
  (wpAny_call_entry slot_listiter_next hit.typeIs entry_listiter_next ?_ (args_listiter_next _))))
 show wpAny _ _ (field (.ref it) 0 >>= _) _ _ s
 refine wpAny_bind (wpAny_field ho hd (x:=.ref l) rfl ?_)
 show wpAny _ _ (if (Value.ref l==Value.none)=true then _ else _) _ _ s
 rw[if_neg (show ¬((Value.ref l==Value.none)=true)from Bool.false_ne_true)]
 show wpAny _ _ (field (.ref it) 1 >>= _) _ _ s
 refine wpAny_bind (wpAny_field ho hd (x:=.int i 0) rfl ?_)
 show wpAny _ _ (seqItems? (.ref l) >>= _) _ _ s
 refine wpAny_bind (wpAny_seqItems hol hdl ?_)
 simp only[Int.toNat_natCast,hx]
 refine wpAny_bind (wpAny_rule (wpAny_bind (wpAny_setField ho hd (by simp) ?_)))
 show wpAny _ _ (newExc (.type "StopIteration") [] >>= _) _ _ _
 refine wpAny_bind ?_
 simp only[newExc,newTuple]
 refine wpAny_bind (wpAny_newObj_type ?_ (by size_fits))
 refine wpAny_bind (m:=firstArgMember _ _) (wpAny_of_eq (a:=Value.none) (by first|rfl|(simp only[firstArgMember];rfl)) ?_)
 refine wpAny_newObj_type ?_ (by size_fits)
 simp only[raiseNew]
 refine wpAny_bind (wpAny_handled ?_)
 rw[show A.in1.handled=none from hh]
 refine wpAny_bind (wpAny_pure (wpAny_throw ?_))
 refine wpAny_bind (wpAny_isInstance (T:="StopIteration") (b:=true) ⟨_,Heap.get?_push_size _ rfl,rfl⟩ isSubtype_stop ?_)
 exact wpAny_pure (hQ _ ⟨_,Heap.get?_push_of_some _ (Heap.get?_push_of_some _ (Heap.get?_update_self _ ho (Obj.isFreed_of_fields (Obj.data_mapFields hd _))))⟩ (((Heap.SameBut.update ..).extBut.push _).push _))
theorem mw{R:Result→Shared→Prop}(hh:A.handled=none){I ax:Addr}{items:Array Value}(hne:ax≠I)(S:Addr)(hSI:S≠I)(hSa:S≠ax)(res:Value)(i0:Nat)(hn:items.size - i0≤sizeLine) :
  ∀(k i:Nat) (s:Shared) (acc:Array Value) (c:Nat),items.size - i=k→i0≤i→i≤items.size→s.heap.IsListIter I ax i→s.heap.IsList ax items→s.heap.get? S=some { cls:=.type "list",dict:=none,data:=.seq acc c,slots:=#[] }→acc.size=i - i0→
  (∀h' acc' c',(∀b o,b≠S→b≠I→s.heap.get? b=some o→h'.get? b=some o)→(∃o,h'.get? I=some o)→h'.get? S=some { cls:=.type "list",dict:=none,data:=.seq acc' c',slots:=#[] }→acc'.toList=acc.toList++items.toList.drop i→R (.ok (.ret res)) { s with heap:=h' })→
  codeAny (model prog w) A (.builtin "list.extend.loop" ⟨[.ref S,.ref I,res],[]⟩) R s:=by
 intro k
 induction k with
 | zero=>
  intro i s acc c hk hi0 hi hit hl hS hacc hR
  have hin:i=items.size:=by(first|lia|omega)
  subst hin
  refine codeAny_builtin PySem.F.entry_extend_loop ?_
  rw[Around.under_plainId PySem.F.plain_extend_loop _]
  show wpAny _ A.in1 (pyNext (.ref I) >>= _) _ _ s
  refine wpAny_bind (kE (A:=A.in1) hh hit hl (by simp) λh' he hx=>?_)
  refine wpAny_pure (hR h' acc c (λb o _ hb e=>hx b o hb e) he (hx _ _ hSI hS) ?_)
  rw[List.drop_eq_nil_of_le (by simp),List.append_nil]
 | succ k ih=>
  intro i s acc c hk hi0 hi hit hl hS hacc hR
  have hlt:i<items.size:=by(first|lia|omega)
  refine codeAny_builtin PySem.F.entry_extend_loop ?_
  rw[Around.under_plainId PySem.F.plain_extend_loop _]
  show wpAny _ A.in1 (pyNext (.ref I) >>= _) _ _ s
  refine wpAny_bind (wpAny_pyNext_list_item hit hl (x:=items[i]) (by simp[hlt]) λh' hit' hs=>?_)
  have hS':h'.get? S=some { cls:=.type "list",dict:=none,data:=.seq acc c,slots:=#[] }:=(hs.2 S hSI).trans hS
  show wpAny _ A.in1 (updateSeq S (·.push items[i]) >>= _) _ _ _
  refine wpAny_bind ?_
  refine wpAny_updateSeq (s:={ s with heap:=h' }) hS' rfl (wpAny_pure ⟨plainId_quiet PySem.F.plain_extend_loop _,ih (i+1) _ (acc.push items[i]) _ (by(first|lia|omega)) (by(first|lia|omega)) hlt ?_ ?_ (Heap.get?_update_self _ hS' rfl) (by rw[Array.size_push,hacc];(first|lia|omega)) λh'' acc' c' hk' he hS'' hacc'=>?_⟩)
   (by rw[hacc];(first|lia|omega)) (by show (acc.push items[i]).size≤sizeLine+1;rw[Array.size_push,hacc];(first|lia|omega))
  ·obtain⟨o,e,r⟩:=hit'
   exact⟨o,(Heap.get?_update_other _ _ hSI).trans e,r⟩
  ·obtain⟨o,e,r⟩:=hl
   exact⟨o,(Heap.get?_update_other _ _ hSa).trans ((hs.2 ax hne).trans e),r⟩
  ·refine hR h'' acc' c' (λb o hb hb2 e=>hk' b o hb hb2 ((Heap.get?_update_other _ _ (Ne.symm hb)).trans ((hs.2 b hb2).trans e))) he hS'' ?_
   have e:items.toList.drop i=items[i]::items.toList.drop (i+1):=by rw[List.drop_eq_getElem_cons (by simpa using hlt)];simp
   rw[hacc',e];simp
theorem lp{R:Result→Shared→Prop}(hh:A.handled=none){I ax:Addr}{items:Array Value}{i0:Nat}(hne:ax≠I)(h0:i0≤items.size)(hit:s.heap.IsListIter I ax i0)(hl:s.heap.IsList ax items)(S:Addr)(res:Value)(c₀:Nat)(hS:s.heap.get? S=some { cls:=.type "list",data:=.seq #[] c₀ })
  (hSI:S≠I) (hSa:S≠ax)
  (hR:∀h' acc' c',(∀b o,b≠S→b≠I→s.heap.get? b=some o→h'.get? b=some o)→(∃o,h'.get? I=some o)→h'.get? S=some { cls:=.type "list",dict:=none,data:=.seq acc' c',slots:=#[] }→
   acc'.toList=items.toList.drop i0→R (.ok (.ret res)) { s with heap:=h' }) (hn:items.size - i0≤sizeLine:=by size_fits) :
  wpAny (model prog w) A.in1 (Builtin.List.listExtendWith (.ref S) (.ref I) res)
   (λfin s'=>match fin with|.done f=>R (.ok f) s'|.again c'=>c'.quiet=true∧codeAny (model prog w) A c' R s') (λe s'=>R (.error e) s') s:=by
 have hT:s.TypeIs (.ref I) "list_iterator" :=hit.typeIs
 unfold Builtin.List.listExtendWith
 refine wpAny_bind (wpAny_typeOf hT ?_)
 have h1:Builtin.List.listSameRef (.ref S) (.ref I)=false:=by simp[Builtin.List.listSameRef,hSI]
 rw[if_neg (by rw[h1];decide)]
 refine wpAny_bind (wpAny_pyIter_listiter hit ?_)
 refine wpAny_bind (wpAny_holding ?_)
 unfold Builtin.List.listLengthHint
 refine wpAny_bind (wpAny_specialOf hT PySem.F.nolen_li ?_)
 show wpAny _ A.in1 (specialOf (Value.ref I) (Str.ofString "__length_hint__") >>= _) _ _ _
 refine wpAny_bind (wpAny_specialOf hT PySem.F.hint_li ?_)
 generalize hid:("list_iterator.__length_hint__" : String)=id0
 wp_delta
 rw[show splitId id0=some ("list_iterator","__length_hint__")from by subst hid;decide +kernel]
 subst hid
 refine wpAny_bind (wpAny_isInstance (b:=true) hT (by rw[isSubtype_type];kernel_rfl) ?_)
 refine wpAny_pure ?_
 rw[if_neg (by decide)]
 exact wpAny_pure ⟨plainId_quiet PySem.F.plain_extend_loop _,mw hh hne S hSI hSa res i0 hn (items.size - i0) i0 s #[] c₀ rfl (Nat.le_refl _) h0 hit hl hS (by simp) λh' acc' c' hk he hS' hacc=>hR h' acc' c' hk he hS' (by simpa using hacc)⟩
theorem oj{Q:Value→Shared→Prop}(hh:A.handled=none){I ax:Addr}{items:Array Value}{i0:Nat}(hne:ax≠I)(h0:i0≤items.size)(hit:s.heap.IsListIter I ax i0)(hl:s.heap.IsList ax items)
  (hQ:∀h' acc' c',(∀b o,b≠I→s.heap.get? b=some o→h'.get? b=some o)→(∃o,h'.get? I=some o)→
   h'.get? s.heap.objs.size=some { cls:=.type "list",dict:=none,data:=.seq acc' c',slots:=#[] }→acc'.toList=items.toList.drop i0→Q (.ref s.heap.objs.size) { s with heap:=h' }) (hn:items.size - i0≤sizeLine:=by size_fits) :
  wpAny (model prog w) A (call (.type "list") [.ref I]) Q E s:=by
 have nn:s.heap.get? s.heap.objs.size=none:=get?_push_none
 refine callType_codes (Q₁:=λobj s₁=>obj=.ref s.heap.objs.size∧s₁={ s with heap:=s.heap.push { cls:=.type "list",data:=.seq #[] } }) F.called_list (F.typeCall_list_1 _) F.entry_list_init
  (code_list_new _ ⟨rfl,rfl⟩) λobj s₁ h₁=>?_
 obtain⟨rfl,rfl⟩:=h₁
 have hS:(s.heap.push { cls:=.type "list",data:=.seq #[] }).get? s.heap.objs.size=some { cls:=.type "list",data:=.seq #[] }:=Heap.get?_push_size _ rfl
 have hSI:s.heap.objs.size≠I:=by rintro rfl;obtain⟨o,e,_⟩:=hit;rw[nn]at e;cases e
 have hSa:s.heap.objs.size≠ax:=by rintro rfl;obtain⟨o,e,_⟩:=hl;rw[nn]at e;cases e
 refine⟨⟨_,hS,rfl⟩,F.args_list_init_2 _ _,?_⟩
 show wpAny _ _ (do let old ←Builtin.List.listItems (.ref s.heap.objs.size);Builtin.List.listUpdate (.ref s.heap.objs.size) (λ_=>#[]);letGo old.toList.reverse;Builtin.List.listExtendWith (.ref s.heap.objs.size) (.ref I) .none) _ _ _
 refine wpAny_bind ?_
 unfold Builtin.List.listItems
 refine wpAny_bind (wpAny_seqItems hS rfl (wpAny_pure ?_))
 show wpAny _ _ (updateSeq s.heap.objs.size (λ_=>#[]) >>= λ_=>letGo (#[]:Array Value).toList.reverse >>= λ_=>Builtin.List.listExtendWith (.ref s.heap.objs.size) (.ref I) .none) _ _ _
 refine wpAny_bind (wpAny_updateSeq hS rfl ?_)
 obtain⟨c₂,hS₂⟩:∃c,((s.heap.push { cls:=.type "list",data:=.seq #[] }).update s.heap.objs.size (Obj.mapSeq (λ_=>(#[]:Array Value)))).get? s.heap.objs.size=some { cls:=.type "list",data:=.seq #[] c }:=⟨_,Heap.get?_update_self (Obj.mapSeq (λ_=>(#[]:Array Value))) hS rfl⟩
 have oth:∀b o,b≠s.heap.objs.size→s.heap.get? b=some o→((s.heap.push { cls:=.type "list",data:=.seq #[] }).update s.heap.objs.size (Obj.mapSeq (λ_=>(#[]:Array Value)))).get? b=some o:=
  λb o hb e=>(Heap.get?_update_other _ _ (Ne.symm hb)).trans (Heap.get?_push_of_some _ e)
 refine wpAny_bind (wpAny_letGo ?_)
 refine lp (A:=A.in1) (s:={ s with heap:=(s.heap.push { cls:=.type "list",data:=.seq #[] }).update s.heap.objs.size (Obj.mapSeq (λ_=>(#[]:Array Value))) }) (hn:=hn) hh hne h0 (let ⟨o,e,r⟩:=hit;⟨o,oth _ _ (Ne.symm hSI) e,r⟩) (let ⟨o,e,r⟩:=hl;⟨o,oth _ _ (Ne.symm hSa) e,r⟩) s.heap.objs.size .none c₂ hS₂ hSI hSa λh' acc' c' hk he hS' hacc=>?_
 exact⟨rfl,hQ h' acc' c' (λb o hb e=>hk b o (Nat.ne_of_lt (Heap.lt_size e)) hb (oth b o (Nat.ne_of_lt (Heap.lt_size e)) e)) he hS' hacc⟩
end
section
variable{X:Cx}{A:Around}{ft ft':FT}{env:Env}{Γ Γ':List Slot}{σ:Sg}{s:Shared}{d:D}{c':List Cell}
noncomputable def i4(i:Nat):PE:=λΓ c=>match Γ[i]? with
 | some (.ref k)=>match c[k]? with
  | some (.it (d::ds))=>if ds.length≤99999 then some (.lst (d::ds),c.set k (.raw λ_=>True))else none
  | _=>none
 | _=>none
theorem zY{i:Nat}{x:Str}{k:VK}{np px pos:Pos}(hr:Room A 8)(hi:ft.nt[i]?=some (x,k))(hx:("list" : Str)∈ft.gt)(hn:X.mg "list" = none)(hb:X.mb "list" = some (.type "list")):SoundE X A ft env (.Call (.Name "list" np) [.Name x px] [] pos) (i4 i):=λΓ σ s d c' I F h=>by
 unfold i4 at h
 (first|(refine iE h ?_ ?_<;>(clear h;intro _ h))|split at h)
 ·rename_i k e0
  (first|(refine iE h ?_ ?_<;>(clear h;intro _ h))|split at h)
  ·rename_i d0 ds ec
   (first|(refine iE h ?_ ?_<;>(clear h;intro _ h))|split at h)
   ·rename_i hlen
    cases h
    refine wpAny_Call_NameR (eval_Name (F.ok.odd _ (List.mem_append_right _ hx)).1 (bY I F hx hn hb ?_))
    refine callWith_type1 (wpAny_items_cons (eval_Name (cD F hi) (cO F hi e0 (by intro q;cases q) λv r=>wpAny_items_nil ?_)) rfl) rfl rfl
    obtain⟨a,ha,rfl⟩:=r
    obtain⟨l,vs,n,j,hit,el,rl⟩:=I.cells k a _ ha ec
    have hrl:=rl.length
    simp only[List.length_drop,List.length_cons]at hrl
    have nn:s.heap.get? s.heap.objs.size=none:=get?_push_none
    obtain⟨oi,hoi,ri⟩:=id hit
    have hne:l≠a:=by
     rintro rfl
     rw[I.sub _ _ el]at hoi
     cases hoi
     have q:Value.type "list" = Value.type "list_iterator" :=ri.1
     injection q with q
     exact absurd q (by decide)
    have hna:s.heap.objs.size≠a:=by rintro rfl;rw[nn]at hoi;cases hoi
    refine oj hr.hand hne (by simp;(first|lia|omega)) hit ⟨_,I.sub _ _ el,rfl,n,rfl⟩ (λh' acc' c' hk he hS' hacc=>?_) (by simp only[List.size_toArray];rw[hrl];exact bT (by(first|lia|omega)))
    obtain⟨I2,x2⟩:=fK (cl':=.raw λ_=>True) (tk:=s.toks) I ha ec rfl (h':=h') (λb o hb e=>hk b o hb e) (let ⟨o,e⟩:=he;⟨o,e,trivial⟩)
    obtain⟨I3,x3,le3,e3⟩:=gW (a:=s.heap.objs.size) I2 x2 hS' (I.notIn nn).2 (I.notIn nn).1 nn
    refine⟨_,rfl,I3,x3,.lst (vs:=acc'.toList) (n:=c') (by simpa using e3) ?_⟩
    rw[hacc]
    simpa using (rl.mono le3)
   ·cases h
  ·cases h
 ·cases h
end
end Mine
namespace Mine
section
variable{X:Cx}{A:Around}{ft ft':FT}{env:Env}{Γ Γ':List Slot}{σ:Sg}{s:Shared}{d:D}{c':List Cell}
noncomputable def swB(k:ScopeKind)(n:Nat)(o1 o2:Option Str)(a f c:Bool):Sem (Option (List Str)):=
 if (!(n==2 || n==3) || n != n || k != .function)=true then pure none
 else if a=true then pure none
 else
  have names:=[o1,o2].filterMap id
  if (names.length != n || names.eraseDups.length != names.length)=true then pure none
  else if f=true then pure none
  else
   have jp:=λ(_:PUnit)=>pure (some names)
   if c=true then do
    let r ←unsupported "assign.tuple-of-constant-expressions:order-of-the-stores"
    jp r
   else jp ()
theorem xl{x y:Str}{px py tp vp:Pos}{kt kv:Nat}{e1 e2:Expr}:swappedStores [.Tuple [.Name x px,.Name y py] kt tp] (.Tuple [e1,e2] kv vp) env=
  swB env.blockKind 2 (if (env.kindOf x==some .local && px.line==px.line)=true then some x else none) (if (env.kindOf y==some .local && py.line==px.line)=true then some y else none)
   ([e1,e2].any λ|.Starred ..=>true|_=>false) ([e1,e2].all (foldedForSure 8)) ([e1,e2].all (constantsAlone 8)):=rfl
theorem zj{k:ScopeKind}{o:Option Str}{a f c:Bool}:swB k 2 none o a f c=pure none:=by
 unfold swB
 split
 ·rfl
 split
 ·rfl
 cases o<;>rfl
theorem oB{x y:Str}{px py tp vp:Pos}{kt kv:Nat}{e1 e2:Expr}(hx:env.kindOf x=some .cell)(_:([e1,e2].any λ|.Starred ..=>true|_=>false)=false) :
  swappedStores [.Tuple [.Name x px,.Name y py] kt tp] (.Tuple [e1,e2] kv vp) env=pure none:=by
 rw[xl,hx]
 exact zj
noncomputable def ue(p:PE)(is:List Nat):PS:=λΓ c=>(p Γ c).bind λ(d,c1)=>(d6 (.t is) d Γ).map λΓ1=>(.next,Γ1,c1)
theorem CJ{x y:Str}{px py tp vp spos:Pos}{kt kv:Nat}{e1 e2:Expr}{p:PE}{is:List Nat}{i:Nat}(hr:Room A 8)(hi:ft.nt[i]?=some (x,.c))(hn:hH ft [.Name x px,.Name y py] is)(h1:SoundE X A ft env (.Tuple [e1,e2] kv vp) p)
  (hst:autoParam (([e1,e2].any λ|.Starred ..=>true|_=>false)=false) aR) :
  aM X A ft env (.Assign [.Tuple [.Name x px,.Name y py] kt tp] (.Tuple [e1,e2] kv vp) spos) (ue p is):=λΓ σ s fl Γ' c' I F h=>by
 (refine bE2 h ?_;(try clear h);intro d c1 e1 h)
 (refine mE h ?_;(try clear h);intro Γ1 e2 h)
 cases h
 refine Assign_Tuple (h1.use I F e1 λv σ1 s1 q1 I1 x1 F1 r1=>?_) rfl (oB (oz (F.ok.kinds _ (dh hi))) hst)
 subst q1
 exact wpAny_mono (gG hr hn Γ σ1 s1 d v Γ' I1 F1 r1 e2) (λ_ s2 ⟨I2,x2,F2⟩=>⟨σ1,rfl,I2,x1.up.trans I1 x2,F2,trivial⟩) λ_ _ f=>f
theorem mX{x y:Str}{px py tp vp p1 p2:Pos}{kt kv:Nat}(hk:env.scope.kind=.function)(hx:env.kindOf x=some .local)(hy:env.kindOf y=some .local)(hl:(py.line==px.line)=true)(hne:(y==x)=false) :
  swappedStores [.Tuple [.Name x px,.Name y py] kt tp] (.Tuple [.List [] p1,.List [] p2] kv vp) env=pure (some [x,y]):=by
 have hb:env.blockKind=.function:=by unfold Env.blockKind;rw[hk];rfl
 have h:([x,y]:List Str).eraseDups=[x,y]:=by simp[List.eraseDups,List.eraseDupsBy,List.eraseDupsBy.loop,hne]
 rw[xl,hb,hx,hy,hl,beq_self_eq_true px.line]
 show (if (([x,y]:List Str).eraseDups.length != 2)=true then pure none else pure (some [x,y]))=_
 rw[h];rfl
noncomputable def CD(i j:Nat):PS:=λΓ c=>some (.next,(Γ.set j (.ref (c.length+1))).set i (.ref c.length),c++[.lst [],.lst []])
theorem Ei{x y:Str}{px py tp vp p1 p2 spos:Pos}{kt kv:Nat}{i j:Nat}(hr:Room A 8)(hi:ft.nt[i]?=some (x,.l))(hj:ft.nt[j]?=some (y,.l))(hl:autoParam ((py.line==px.line)=true) aR)(hne:autoParam ((y==x)=false) aR) :
  aM X A ft env (.Assign [.Tuple [.Name x px,.Name y py] kt tp] (.Tuple [.List [] p1,.List [] p2] kv vp) spos) (CD i j):=λΓ σ s fl Γ' c' I F h=>by
 cases h
 refine Assign_Tuple_swapped ?_ rfl (mX F.ok.kind (jv (F.ok.kinds _ (dh hi))) (jv (F.ok.kinds _ (dh hj))) hl hne)
 refine wpAny_Tuple (wpAny_items_cons (wpAny_List (wpAny_items_nil ⟨bT (by simp),?_⟩)) rfl)
 refine wpAny_items_cons (wpAny_List (wpAny_items_nil ⟨bT (by simp),?_⟩)) rfl
 refine wpAny_items_nil ⟨bT (by simp),?_⟩
 obtain⟨I1,x1⟩:=lB (vs:=[]) (ds:=[]) (tk:=s.toks) I .nil
 obtain⟨I2,x2⟩:=lB (vs:=[]) (ds:=[]) (tk:=s.toks) I1 .nil
 have own1:(⟨σ.g,(σ.own++[s.heap.objs.size])++[(s.heap.push (cG ([]:List Value).toArray 0)).objs.size],(σ.sto++[.lst []])++[.lst []]⟩:Sg).own[σ.sto.length]?=some s.heap.objs.size:=by
  rw[←I.len];simp
 have own2:(⟨σ.g,(σ.own++[s.heap.objs.size])++[(s.heap.push (cG ([]:List Value).toArray 0)).objs.size],(σ.sto++[.lst []])++[.lst []]⟩:Sg).own[σ.sto.length+1]?=some (s.heap.push (cG ([]:List Value).toArray 0)).objs.size:=by
  rw[←I.len];simp
 have x12:=x1.trans I1 x2
 have esto:σ.sto++[Cell.lst [],Cell.lst []]=(σ.sto++[.lst []])++[.lst []]:=by simp
 dsimp only at I2 x12 own1 own2
 generalize hσ2:(⟨σ.g,(σ.own++[s.heap.objs.size])++[(s.heap.push (cG ([]:List Value).toArray 0)).objs.size],(σ.sto++[.lst []])++[.lst []]⟩:Sg)=σ2 at*
 have es2:σ2.sto=σ.sto++[Cell.lst [],Cell.lst []]:=by rw[←hσ2,esto]
 have o1:σ2.own[σ.sto.length]?=some s.heap.objs.size:=by rw[←hσ2];exact own1
 have o2:σ2.own[σ.sto.length+1]?=some (s.heap.push (cG ([]:List Value).toArray 0)).objs.size:=by rw[←hσ2];exact own2
 generalize s.heap.objs.size=a1 at*
 generalize (s.heap.push (cG ([]:List Value).toArray 0)).objs.size=a2 at*
 obtain⟨I3,x3⟩:=jK (o:=fR [Value.ref a1,.ref a2].toArray 0) (tk:=s.toks) I2
 refine wpAny_unpackItems_tuple (items:=#[.ref a1,.ref a2]) hr.hand ⟨_,Heap.get?_push_size _ rfl,rfl,_,rfl⟩ λh' he=>?_
 have I4:=Mine.Inv.heap (W:=NoW) (h':=h') (tk:=s.toks) I3 (λa o e _=>he a o (Nat.ne_of_lt (Heap.lt_size e)) e) λ_ f=>f.elim
 have x4:=Ext.heap (W:=NoW) (Wg:=NoG) (σ:=σ2) (h':=h') (tk:=s.toks) (s:={ s with heap:=((s.heap.push (cG ([]:List Value).toArray 0)).push (cG ([]:List Value).toArray 0)).push (fR [Value.ref a1,.ref a2].toArray 0) }) (λa o e _=>he a o (Nat.ne_of_lt (Heap.lt_size e)) e)
 have x14:=(x12.trans I2 x3).trans I3 x4
 have F4:=F.ext x14
 show wpAny _ _ (assignInOrder [bindName env y,bindName env x] [.ref a2,.ref a1]) _ _ _
 refine wpAny_assignInOrder_more (wpAny_bindName (cR I4 F4 hj (by intro q;cases q) (sl:=.ref (σ.sto.length+1)) ⟨a2,o2,rfl⟩ λs5 I5 x5 F5=>?_))
 refine wpAny_assignInOrder_more (wpAny_bindName (cR I5 F5 hi (by intro q;cases q) (sl:=.ref σ.sto.length) ⟨a1,o1,rfl⟩ λs6 I6 x6 F6=>?_))
 exact wpAny_assignInOrder_none ⟨σ2,es2,I6,(x14.up.trans I4 x5).trans I5 x6,F6,trivial⟩
end
end Mine
namespace Mine
section
variable{X:Cx}{A:Around}{ft ft':FT}{env:Env}{Γ Γ':List Slot}{σ:Sg}{s:Shared}{d:D}{c':List Cell}
noncomputable def ey(p:PE):PE:=λΓ c=>(p Γ c).bind λ(d,c1)=>match d with
 | .int n=>if 0≤n∧n<100000 then some (.lst (eO 0 n),c1)else none
 | _=>none
theorem mV{n:Nat}{acc:Array Value}{g:Heap}(h:ItemsOf (λ(i:Nat) v=>∃t,v=Value.int (0+(i:Int)*1) t) acc n):RelAll g acc.toList ((List.range n).map λ(k:Nat)=>D.int (0+(k:Int))):=by
 obtain⟨h1,h2⟩:=h
 have e:acc.toList=(List.range n).map λi=>acc.toList.getD i .none:=by
  apply List.ext_getElem?
  intro i
  by_cases hi:i<n
  ·simp[hi,h1]
  ·simp[hi,h1]
 rw[e]
 refine RelAll.map λk hk=>?_
 have hk':k<acc.size:=by rw[h1];exact List.mem_range.mp hk
 obtain⟨t,ht⟩:=h2 k acc[k] (by simp[hk'])
 have:acc.toList.getD k .none=acc[k]:=by simp[List.getD,hk']
 rw[this,ht,Int.mul_one]
 exact .int _ _
theorem q8{np np2 p2 pos:Pos}{e:Expr}{p:PE}(hr:Room A 8)(hx:("list" : Str)∈ft.gt)(hn:X.mg "list" = none)(hb:X.mb "list" = some (.type "list"))(hx2:("range" : Str)∈ft.gt)(hn2:X.mg "range" = none)(hb2:X.mb "range" = some (.type "range"))(h1:SoundE X A ft env e p)
  (he:autoParam (∀env,starEach [e] env=(false,eval e env)::starEach [] env) aR) :
  SoundE X A ft env (.Call (.Name "list" np) [.Call (.Name "range" np2) [e] [] p2] [] pos) (ey p):=λΓ σ s d c' I F h=>by
 (refine bE2 h ?_;(try clear h);intro d0 c1 e1 h)
 dsimp only at h
 (first|(refine iE h ?_ ?_<;>(clear h;intro _ h))|split at h)
 ·rename_i n
  (first|(refine iE h ?_ ?_<;>(clear h;intro _ h))|split at h)
  ·rename_i hb'
   cases h
   refine wpAny_Call_NameR (eval_Name (F.ok.odd _ (List.mem_append_right _ hx)).1 (bY I F hx hn hb ?_))
   refine callWith_type1 (wpAny_items_cons (wpAny_Call_NameR (eval_Name (F.ok.odd _ (List.mem_append_right _ hx2)).1 (bY I F hx2 hn2 hb2 ?_))) rfl) rfl rfl
   refine callWith_type1 (wpAny_items_cons (h1.use I F e1 λv σ1 s1 q1 I1 x1 F1 r1=>wpAny_items_nil ?_) (he env)) (he env) rfl
   subst q1
   cases r1
   rename_i t
   refine call_range_1 (wpAny_items_nil ?_)
   obtain⟨I2,x2⟩:=jK (o:={ cls:=.type "range",data:=.fields #[.int 0 s1.toks,.int n t,.int 1 (s1.toks+1)] }) (tk:=s1.toks+1+1) I1
   obtain⟨N,rfl⟩:∃N:Nat,n=(N:Int):=⟨n.toNat,by(first|lia|omega)⟩
   refine wpAny_with_toks (n:=s1.toks) (Nat.le_add_right _ 2) (call_list_range hr.hand (IsRange.new ..) (kU (by(first|lia|omega)) (by(first|lia|omega))) (n:=N) (by rw[rangeSize_one];split<;>(first|lia|omega)) (by(first|lia|omega)) λh' tk acc cc keep hacc hit htk=>?_)
   have hm:s1.toks≤tk:=htk
   have nn:((s1.heap.push { cls:=.type "range",data:=.fields #[.int 0 s1.toks,.int (N:Int) t,.int 1 (s1.toks+1)] })).get? (s1.heap.push { cls:=.type "range",data:=.fields #[.int 0 s1.toks,.int (N:Int) t,.int 1 (s1.toks+1)] }).objs.size=none:=get?_push_none
   have I3:X.Inv σ1 { s1 with heap:=h',toks:=tk }:=Mine.Inv.heap (W:=NoW) I1 (λa o e _=>keep a o (Heap.get?_push_of_some _ e)) (λ_ f=>f.elim) hm
   have x3:Ext NoW NoG σ1 s1 σ1 { s1 with heap:=h',toks:=tk }:=Ext.heap λa o e _=>keep a o (Heap.get?_push_of_some _ e)
   have nn1:=nn
   have n1:σ1.g.get? (s1.heap.push { cls:=.type "range",data:=.fields #[.int 0 s1.toks,.int (N:Int) t,.int 1 (s1.toks+1)] }).objs.size=none∧_:=And.intro (I2.notIn nn).2 (I2.notIn nn).1
   obtain⟨I4,x4,le4,e4⟩:=gW I3 x3 hacc n1.1 n1.2 (by
    cases q:s1.heap.get? (s1.heap.push { cls:=.type "range",data:=.fields #[.int 0 s1.toks,.int (N:Int) t,.int 1 (s1.toks+1)] }).objs.size with
    | none=>rfl
    | some o=>rw[Heap.get?_push_of_some _ q]at nn;cases nn)
   refine PostE.trans I1 x1 ⟨⟨cN σ1.g (s1.heap.push { cls:=.type "range",data:=.fields #[.int 0 s1.toks,.int (N:Int) t,.int 1 (s1.toks+1)] }).objs.size (cG acc cc),σ1.own,σ1.sto⟩,rfl,I4,x4,.lst (vs:=acc.toList) (n:=cc) (by simpa using e4) ?_⟩
   have:=mV (g:=cN σ1.g (s1.heap.push { cls:=.type "range",data:=.fields #[.int 0 s1.toks,.int (N:Int) t,.int 1 (s1.toks+1)] }).objs.size (cG acc cc)) hit
   unfold eO
   simpa using this
  ·cases h
 ·cases h
noncomputable def distinct(ns:List Int):Nat:=(PyProof.Rows.firstMet (λi=>ns.getD i 0) ns.length).length
noncomputable def iW(p:PE):PE:=λΓ c=>(p Γ c).bind λ(d,c1)=>match d with
 | .lst ds=>(eX ds).bind λns=>if ns.length<4000 then some (.int (distinct ns),c1)else none
 | _=>none
theorem An{np np2 p2 pos:Pos}{e:Expr}{p:PE}(hr:Room A 8)(hx:("len" : Str)∈ft.gt)(hn:X.mg "len" = none)(hb:X.mb "len" = some (.builtin "len"))(hx2:("set" : Str)∈ft.gt)(hn2:X.mg "set" = none)(hb2:X.mb "set" = some (.type "set"))(h1:SoundE X A ft env e p)
  (he:autoParam (∀env,starEach [e] env=(false,eval e env)::starEach [] env) aR) :
  SoundE X A ft env (.Call (.Name "len" np) [.Call (.Name "set" np2) [e] [] p2] [] pos) (iW p):=λΓ σ s d c' I F h=>by
 (refine bE2 h ?_;(try clear h);intro d0 c1 e1 h)
 dsimp only at h
 (first|(refine iE h ?_ ?_<;>(clear h;intro _ h))|split at h)
 ·rename_i ds
  (refine bE h ?_;(try clear h);intro ns e2 h)
  (first|(refine iE h ?_ ?_<;>(clear h;intro _ h))|split at h)
  ·rename_i hl
   cases h
   refine wpAny_Call_NameR (eval_Name (F.ok.odd _ (List.mem_append_right _ hx)).1 (bY I F hx hn hb ?_))
   refine callWith_builtin1 (wpAny_items_cons (wpAny_Call_NameR (eval_Name (F.ok.odd _ (List.mem_append_right _ hx2)).1 (bY I F hx2 hn2 hb2 ?_))) rfl) rfl rfl
   refine callWith_type1 (wpAny_items_cons (h1.use I F e1 λv σ1 s1 q1 I1 x1 F1 r1=>wpAny_items_nil ?_) (he env)) (he env) rfl
   subst q1
   cases r1 with
   | lst el rl=>
    rename_i l vs n
    have hi:=rl.ints e2
    have hlen:vs.length=ns.length:=by obtain⟨xs,w1,w2⟩:=fH hi;rw[w1,w2];simp
    refine wpAny_with_toks (n:=s1.toks) (Nat.le_refl _) (call_set_list hr.hand ⟨_,I1.sub _ _ el,rfl,n,rfl⟩ (by simpa using hi) (by simp[scanBound];(first|lia|omega)) λh' tk hset keep htk=>wpAny_items_nil ?_)
    have hm:s1.toks≤tk:=htk
    obtain⟨o,es,ep,t,ho,hex,hd,_,_,hsz,hf,hn'⟩:=hset
    have hle:(PyProof.Rows.firstMet (λi=>ns.getD i 0) vs.toArray.size).length≤vs.toArray.size:=PyProof.Rows.firstMet_length_le _ _
    refine call_len_set ho hex hd hf (by simp[scanBound]at hsz;(first|lia|omega)) ?_
    rw[hn',List.size_toArray,hlen]
    exact PostE.trans I1 x1 (PostE.kept (h':=h') I1 (λa o e=>keep a o (Heap.lt_size e) e) (show s1.toks≤tk+1+1 by(first|lia|omega)) (.int _ _))
  ·cases h
 ·cases h
noncomputable def ot:List D→Option D:=on2 λa b=>onS a λx=>onS b λy=>if y.length≠0∧x.length≤100000∧(Txt.split x y).length≤100000 then some (.lst ((Txt.split x y).map .str))else none
theorem jJ{g:Heap}:∀(tk:Nat) (xs:List Str),RelAll g (strsFrom tk xs) (xs.map .str)
 | _,[]=>.nil
 | tk,x::r=>.cons (.str x tk) (jJ (tk+1) r)
theorem Bv:COk X A (.builtin "str.split") ot:=wW λ{σ s v w a b d} I r r2 e0=>by
 refine ox r e0 λx t h=>?_
 refine ox r2 h λy u h=>?_
 refine iS h λhc h=>?_
 obtain⟨hy,hx,hl⟩:=hc
 subst h
 by_cases h1:(decide (x.length<y.length) || decide (Builtin.Str.strKind x<Builtin.Str.strKind y))=true
 ·have e:Txt.split x y=[x]:=by unfold Txt.split;rw[if_pos h1]
  rw[e]
  refine call_meets F.slot_str_split (typeIs_str ..) F.entry_str_split (F.args_str_split_2 _ _) (meets_str_split_cannot_occur x y t u h1) ?_
  exact PostE.newL (vs:=[.str x t]) (tk:=s.toks) I (.one (.str _ _))
 ·have h1':=Bool.eq_false_iff.mpr h1
  by_cases h2:(Builtin.Str.occurrences x y 0 x.length (x.length+1)).isEmpty=true
  ·have e:Txt.split x y=[x]:=by unfold Txt.split;rw[if_neg h1,if_pos h2]
   rw[e]
   refine call_meets F.slot_str_split (typeIs_str ..) F.entry_str_split (F.args_str_split_2 _ _) (meets_str_split_not_found x y t u h1' (by simpa using hy) h2) ?_
   exact PostE.newL (vs:=[.str x t]) (tk:=s.toks) I (.one (.str _ _))
  ·have e:Txt.split x y=Builtin.Str.partsBetween x (Builtin.Str.occurrences x y 0 x.length (x.length+1)) y.length:=by unfold Txt.split;rw[if_neg h1,if_neg h2]
   rw[e]at hl⊢
   refine call_meets F.slot_str_split (typeIs_str ..) F.entry_str_split (F.args_str_split_2 _ _) (meets_str_split_sep x y t u h1' (by simpa using hy) (Bool.eq_false_iff.mpr h2) (bT hx) (bT hl)) ?_
   exact PostE.newL I (jJ _ _)
noncomputable def qB(T:Int→Option Str)(p q:PE):PE:=λΓ c=>(p Γ c).bind λ(a,c1)=>(q Γ c1).bind λ(b,c2)=>match a with
 | .int i=>match T i with
  | some x=>some (.str x,c2)
  | none=>some (b,c2)
 | _=>none
theorem o4{κ:Type}[DecidableEq κ]{K:PySem.KeyKind X.prog X.w κ}{dct:Addr}{f:κ→Option Value}(hm:X.g0.MapOf K dct f)(I:X.Inv σ s):s.heap.MapOf K dct f:=by
 obtain⟨o,es,ep,ho,r⟩:=hm
 exact⟨o,es,ep,I.sub _ _ (I.top.base _ _ ho),r⟩
theorem DN{x:Str}{dct:Addr}{f:Int→Option Value}{T:Int→Option Str}{np apos pos:Pos}{e1 e2:Expr}{p q:PE}(hx:x∈ft.gt)(hv:X.mg x=some (.ref dct))(hm:X.g0.MapOf (intKind X.prog X.w) dct f)(hd:(dct==sysModules)=false)
  (hT:∀i,match T i with|some x=>∃t,f i=some (.str x t)|none=>f i=none) (h1:SoundE X A ft env e1 p) (h2:SoundE X A ft env e2 q)
  (hbase:autoParam (∀env,attributeBase (.Name x np) "get" env (eval (.Name x np) env)=eval (.Name x np) env) aR)
  (hfew:autoParam (∀env,((backTo pos (starEach [e1,e2] env)).all (λx=>!x.1) && (backToKw pos (keywordEach [] env)).all (λx=>x.1.isSome)
   && decide (([e1,e2]:List Expr).length+([]:List Keyword).length+(if ([]:List Keyword).isEmpty then 0 else 1)<30))=true) aR)
  (hline:autoParam ((apos.endLine==pos.line)=true) aR) (htrees:∀env,backTo pos (starEach [e1,e2] env)=[(false,eval e1 env),(false,do standAt pos;eval e2 env)]∨backTo pos (starEach [e1,e2] env)=[(false,eval e1 env),(false,eval e2 env)]:=by intro _;first|exact .inl rfl|exact .inr rfl) :
  SoundE X A ft env (.Call (.Attribute (.Name x np) "get" apos) [e1,e2] [] pos) (qB T p q):=λΓ σ s d c' I F h=>by
 (refine bE2 h ?_;(try clear h);intro a c1 g1 h)
 (refine bE2 h ?_;(try clear h);intro b c2 g2 h)
 dsimp only at h
 cases a with
 | int i=>
  dsimp only at h
  have hm':s.heap.MapOf (intKind X.prog X.w) dct f:=o4 hm I
  refine wpAny_Call_method (hbase env) (hfew env) hline PySem.F.plainAttrs_dict PySem.F.slot_dict_get PySem.F.type_dict_get (eval_Name (F.ok.odd x (List.mem_append_right _ hx)).1 (dy I F hx hv ?_))
  obtain⟨o,es,ep,ho,hex,r⟩:=id hm'
  refine⟨hm'.typeIs,λa e=>by cases e;exact⟨o,ho,hex.2.1⟩,?_⟩
  have key:wpAny X.M A (eval e1 env) (λkey s₁=>wpAny X.M A (eval e2 env) (λdflt s₂=>∃k f,(intKind X.prog X.w).is k key=true∧s₂.heap.MapOf (intKind X.prog X.w) dct f∧PostE X σ s d c' ((f k).getD dflt) { s₂ with toks:=s₂.toks+1 }) NoE s₁) NoE s:=by
   refine h1.use I F g1 λv1 σ1 s1 q1 I1 x1 F1 r1=>?_
   subst q1
   refine h2.use I1 F1 g2 λv2 σ2 s2 q2 I2 x2 F2 r2=>?_
   subst q2
   cases r1
   refine⟨i,f,by simp[intKind,Value.isInt],o4 hm I2,?_⟩
   have hTi:=hT i
   refine PostE.trans I2 (x1.trans I1 x2) ?_
   cases q:T i with
   | some z=>
    rw[q]at hTi h
    obtain⟨t,ht⟩:=hTi
    cases h
    rw[ht]
    exact PostE.here I2 (.str _ _)
   | none=>
    rw[q]at hTi h
    cases h
    rw[show f i=none from hTi]
    exact PostE.here I2 r2
  rcases htrees env with ht|ht
  ·rw[ht]
   exact wpAny_dict_get2 hd (wpAny_mono key (λv1 s1 k=>wpAny_bind (wpAny_standAt k)) λ_ _ f=>f)
  ·rw[ht]
   exact wpAny_dict_get2 hd key
 | _=>cases h
noncomputable def mq(T:Str→Option Int)(p:PE):PE:=λΓ c=>(p Γ c).bind λ(a,c1)=>match a with
 | .str x=>(T x).map λi=>(.int i,c1)
 | _=>none
theorem DL{x:Str}{dct:Addr}{f:Str→Option Value}{T:Str→Option Int}{np pos:Pos}{e:Expr}{p:PE}(hx:x∈ft.gt)(hv:X.mg x=some (.ref dct))(hm:X.g0.MapOf (strKind X.prog X.w) dct f)
  (hT:∀i,match T i with|some x=>∃t,f i=some (.int x t)|none=>f i=none) (h1:SoundE X A ft env e p) (hs:autoParam (∀o i,subscripted e false o i=operate [o,i] (getItem o i)) aR) :
  SoundE X A ft env (.Subscript (.Name x np) e pos) (mq T p):=λΓ σ s d c' I F h=>by
 (refine bE2 h ?_;(try clear h);intro a c1 g1 h)
 dsimp only at h
 (first|(refine iE h ?_ ?_<;>(clear h;intro _ h))|split at h)
 ·rename_i y
  (refine mE h ?_;(try clear h);intro i g2 h)
  cases h
  refine Subscript_ (eval_Name (F.ok.odd x (List.mem_append_right _ hx)).1 (dy I F hx hv ?_))
  refine h1.use I F g1 λv1 σ1 s1 q1 I1 x1 F1 r1=>?_
  subst q1
  cases r1
  have hm':s1.heap.MapOf (strKind X.prog X.w) dct f:=o4 hm I1
  have hTi:=hT y
  rw[g2]at hTi
  obtain⟨t,ht⟩:=hTi
  exact tail_any hm'.typeIs slot_dict_getitem.lookup (wpAny_getItem_of (strKind_is X.prog X.w y _) hm' ht (PostE.trans I1 x1 (PostE.here I1 (.int _ _)))) (hs _ _)
 ·cases h
noncomputable def ki(T:Str→Option Int)(p:PE):PB:=λΓ c=>(p Γ c).bind λ(a,c1)=>match a with
 | .str x=>some ((T x).isSome,c1)
 | _=>none
theorem Cy{x:Str}{dct:Addr}{f:Str→Option Value}{T:Str→Option Int}{np pos:Pos}{e:Expr}{p:PE}(hx:x∈ft.gt)(hv:X.mg x=some (.ref dct))(hm:X.g0.MapOf (strKind X.prog X.w) dct f)(hd:(dct==sysModules)=false)
  (hT:∀i,match T i with|some x=>∃t,f i=some (.int x t)|none=>f i=none) (h1:SoundE X A ft env e p) (hm2:behindInMarks .In (.Name x np)=false:=by with_unfolding_all rfl) :
  SoundB X A ft env (.Compare e [.In] [.Name x np] pos) (ki T p):=λΓ σ s d c' I F h=>by
 (refine bE2 h ?_;(try clear h);intro a c1 g1 h)
 dsimp only at h
 (first|(refine iE h ?_ ?_<;>(clear h;intro _ h))|split at h)
 ·rename_i y
  cases h
  refine wpAny_isTrue_Compare1 (h1.use I F g1 λv1 σ1 s1 q1 I1 x1 F1 r1=>?_) hm2
  subst q1
  refine eval_Name (F.ok.odd x (List.mem_append_right _ hx)).1 (dy I1 F1 hx hv ?_)
  cases r1
  have hm':s1.heap.MapOf (strKind X.prog X.w) dct f:=o4 hm I1
  have hTi:=hT y
  refine wpAny_in_of (strKind_is X.prog X.w y _) hd hm' (wpAny_truthy_bool ⟨?_,σ1,rfl,I1.toks,x1.trans I1 (Ext.heap λ_ _ e _=>e)⟩)
  cases q:T y with
  | some z=>rw[q]at hTi;obtain⟨t,ht⟩:=hTi;rw[ht];rfl
  | none=>rw[q]at hTi;rw[show f y=none from hTi];rfl
 ·cases h
end
end Mine
namespace Mine
section
variable{X:Cx}{A:Around}{ft ft':FT}{env:Env}{Γ Γ':List Slot}{σ:Sg}{s:Shared}{d:D}{c':List Cell}
noncomputable def fJ(iL iP:Nat)(p:PE):PS:=λΓ c=>(hZ Γ c iL).bind λk=>match Γ[iP]? with
 | some (.val (.str pool))=>(p Γ c).bind λ(d,c1)=>match c1[k]?,d with
  | some (.lst ds),.int i=>if (-1000000<i∧i<1000000)∧ds.length≤99999∧pool.length≤1000 then((seqIndex? i pool.length).bind (pool.cps[·]?)).map λch=>
    (.next,aS iP (.str (Txt.replace pool ⟨#[ch]⟩ ⟨#[]⟩)) Γ,c1.set k (.lst (ds++[.str ⟨#[ch]⟩])))else none
  | _,_=>none
 | _=>none
theorem xV{iL iP:Nat}{xL xP:Str}{kL kP:VK}{p1 p2 p3 p4 p5 p6 p7 p8 p9 p10 p11 p12 p13 p14 ap ap2:Pos}{k1 k2:Nat}{z:Str}{idx:Expr}{p:PE}(hiL:ft.nt[iL]?=some (xL,kL))(hiP:ft.nt[iP]?=some (xP,kP))(hkP:kP≠.f)(h1:SoundE X A ft env idx p)(hz:z=⟨#[]⟩)
  (hbase:autoParam (∀env,attributeBase (.Name xL p1) "append" env (eval (.Name xL p1) env)=eval (.Name xL p1) env) aR)
  (hfew:autoParam (∀env,((backTo p4 (starEach [.Subscript (.Name xP p2) idx p3] env)).all (λx=>!x.1) && (backToKw p4 (keywordEach [] env)).all (λx=>x.1.isSome)
   && decide (([.Subscript (.Name xP p2) idx p3]:List Expr).length+([]:List Keyword).length+(if ([]:List Keyword).isEmpty then 0 else 1)<30))=true) aR)
  (hline:autoParam ((ap.endLine==p4.line)=true) aR) (hs:autoParam (∀o i,subscripted idx false o i=operate [o,i] (getItem o i)) aR)
  (hbase2:autoParam (∀env,attributeBase (.Name xP p7) "replace" env (eval (.Name xP p7) env)=eval (.Name xP p7) env) aR)
  (hfew2:autoParam (∀env,((backTo p13 (starEach [.Subscript (.Name xL p8) (.UnaryOp .USub (.Constant (.int 1) k1 p9) p10) p11,.Constant (.str z) k2 p12] env)).all (λx=>!x.1) && (backToKw p13 (keywordEach [] env)).all (λx=>x.1.isSome)
   && decide (([.Subscript (.Name xL p8) (.UnaryOp .USub (.Constant (.int 1) k1 p9) p10) p11,.Constant (.str z) k2 p12]:List Expr).length+([]:List Keyword).length+(if ([]:List Keyword).isEmpty then 0 else 1)<30))=true) aR)
  (hline2:autoParam ((ap2.endLine==p13.line)=true) aR) :
  bh X A ft env [.Expr (.Call (.Attribute (.Name xL p1) "append" ap) [.Subscript (.Name xP p2) idx p3] [] p4) p5,
   .Assign [.Name xP p6] (.Call (.Attribute (.Name xP p7) "replace" ap2) [.Subscript (.Name xL p8) (.UnaryOp .USub (.Constant (.int 1) k1 p9) p10) p11,.Constant (.str z) k2 p12] [] p13) p14] (fJ iL iP p):=λΓ σ s fl Γ' c' I F h=>by
 (refine bE h ?_;(try clear h);intro k e0 h)
 obtain⟨e0,ds0,ec⟩:=gU e0
 dsimp only at h
 (first|(refine iE h ?_ ?_<;>(clear h;intro _ h))|split at h)
 ·rename_i pool eP
  (refine bE2 h ?_;(try clear h);intro d c1 e1 h)
  dsimp only at h
  (first|(refine iE h ?_ ?_<;>(clear h;intro _ h))|split at h)
  ·rename_i ds i e2
   (first|(refine iE h ?_ ?_<;>(clear h;intro _ h))|split at h)
   ·rename_i hc
    obtain⟨hi,hl,hp⟩:=hc
    (refine mE h ?_;(try clear h);intro ch e3 h)
    cases h
    refine wpAny_execs_cons (wpAny_Expr ?_ (by unfold interactive;rw[F.ok.kind];rfl) rfl)
    refine wpAny_Call_append (hbase env) (hfew env) hline rfl (eval_Name (cD F hiL) (cO F hiL e0 (by intro q;cases q) λv r=>?_))
    obtain⟨a,ha,rfl⟩:=r
    obtain⟨vs0,n0,ho0,_⟩:=I.cells k a _ ha ec
    refine⟨a,vs0.toArray,rfl,⟨_,n0,ho0,rfl,rfl,rfl⟩,?_⟩
    refine Subscript_ (eval_Name (cD F hiP) (cO F hiP eP (by intro q;cases q) λvP rP=>?_))
    refine h1.use I F e1 λv σ1 s1 q1 I1 x1 F1 r1=>?_
    subst q1
    cases rP;cases r1
    refine tail_any (typeIs_str s1 _ _) PySem.F.slot_str_getitem.lookup (P.getItem_str (by simp;(first|lia|omega)) e3 ?_) (hs _ _)
    obtain⟨vs,n,ho,rr⟩:=I1.cells k a _ (ownAt x1 ha) e2
    refine append_at ho (λh' hs' hD=>?_) (by simp only[List.size_toArray,rr.length];exact bT (by(first|lia|omega)))
    obtain⟨I2,x2⟩:=fK (cl':=.lst (ds++[.str ⟨#[ch]⟩])) (tk:=s1.toks+1) I1 (ownAt x1 ha) e2 rfl (h':=h') (λb o hb e=>(hs'.2 b hb).trans e) ⟨vs++[.str ⟨#[ch]⟩ s1.toks],n+1,by rw[hD,List.push_toArray],rr.append (.one (.str _ _))⟩
    have F2:=F1.ext x2
    have x12:=x1.trans I1 x2
    have hown2:σ1.own[k]?=some a:=ownAt x1 ha
    have hD':h'.get? a=some (cG (vs.toArray.push (.str ⟨#[ch]⟩ s1.toks)) (n+1)):=hD
    have htk1:0<s1.toks:=I1.tk
    generalize hs2:({ s1 with heap:=h',toks:=s1.toks+1 }:Shared)=s2 at*
    have hs2h:s2.heap=h':=by rw[←hs2]
    have hs2t:s2.toks=s1.toks+1:=by rw[←hs2]
    refine wpAny_execs_cons (wpAny_Assign_Name (wpAny_Call_method (hbase2 env) (hfew2 env) hline2 PySem.F.plainAttrs_str PySem.F.slot_str_replace PySem.F.type_str_replace (eval_Name (cD F hiP) (cO F2 hiP eP (by intro q;cases q) λv3 r3=>?_))) rfl)
    cases r3
    rename_i t3
    refine⟨typeIs_str _ _ _,λb e=>(nomatch e),callWith_method1 (first:=[_]) (wpAny_items_cons ?_ rfl) rfl rfl⟩
    refine Subscript_ (eval_Name (cD F hiL) (cO F2 hiL e0 (by intro q;cases q) λv4 r4=>?_))
    obtain⟨a',ha',rfl⟩:=r4
    have:a'=a:=by
     have q:σ1.own[k]?=some a':=ha'
     rw[hown2]at q;cases q;rfl
    subst this
    refine wpAny_UnaryOp (wpAny_Constant_int (P.neg_int ?_))
    have hlist:s2.heap.IsList a' (vs.toArray.push (.str ⟨#[ch]⟩ s1.toks)):=⟨_,by rw[hs2h];exact hD',rfl,n+1,rfl⟩
    refine tail_any (s:={ s2 with toks:=s2.toks+1+1 }) (T:="list") (by exact hlist.typeIs) slot_list_getitem.lookup (wpAny_getItem_list_neg (k:=-1) hlist (by decide) (by simp;(first|lia|omega)) (by decide) (x:=.str ⟨#[ch]⟩ s1.toks) (by rw[show ((-1:Int)+((vs.toArray.push (Value.str ⟨#[ch]⟩ s1.toks)).size:Int)).toNat=vs.length by simp;(first|lia|omega)];simp) ?_) rfl
    refine wpAny_items_cons (wpAny_Constant_str (wpAny_items_nil ?_)) rfl
    subst hz
    refine wpAny_with_toks (n:=s2.toks) (by show s2.toks≤s2.toks+1+1+1;(first|lia|omega)) (SC.replace (u:=s1.toks) (v:=s2.toks+1+1) (Nat.ne_of_gt htk1) (show (s2.toks+1+1:Nat)≠0 from Nat.succ_ne_zero _) (show (s1.toks:Nat)≠s2.toks+1+1 from by rw[hs2t];(first|lia|omega)) (by rw[beq_eq_false_iff_ne];intro q;injection q with q;simp at q) (by show pool.length+(pool.length+1)*0≤_;(first|lia|omega)) λt' tk htk=>?_)
    have hmm:s2.toks≤tk:=htk
    have I3:X.Inv ⟨σ1.g,σ1.own,σ1.sto.set k (.lst (ds++[.str ⟨#[ch]⟩]))⟩ { s2 with toks:=tk }:=I2.toks hmm
    have x3:Ext NoW NoG ⟨σ1.g,σ1.own,σ1.sto.set k (.lst (ds++[.str ⟨#[ch]⟩]))⟩ s2 ⟨σ1.g,σ1.own,σ1.sto.set k (.lst (ds++[.str ⟨#[ch]⟩]))⟩ { s2 with toks:=tk }:=Ext.heap λ_ _ e _=>e
    refine cR I3 (F2.ext x3) hiP hkP (sl:=.val (.str (Txt.replace pool ⟨#[ch]⟩ ⟨#[]⟩))) (.str _ _) λs' I' x' F'=>?_
    exact wpAny_execs_nil ⟨_,rfl,I',((x12.up.trans I2 x3.up).trans I3 x'),F',trivial⟩
   ·cases h
  ·cases h
 ·cases h
end
end Mine
namespace Mine
noncomputable def d8{α:Type}(lt:Nat→Nat→Bool):KasT α→α
 | .ret a=>a
 | .ask i j k=>d8 lt (k (lt i j))
noncomputable def gE{α:Type}(n:Nat):KasT α→Bool
 | .ret _=>true
 | .ask i j k=>decide (i<n) && (decide (j<n) && (gE n (k true) && gE n (k false)))
noncomputable def gk{α:Type}(P:α→Bool):KasT α→Bool
 | .ret a=>P a
 | .ask _ _ k=>gk P (k true) && gk P (k false)
theorem mA{α:Type}{P:α→Bool}{lt:Nat→Nat→Bool}:∀{t:KasT α},gk P t=true→P (d8 lt t)=true
 | .ret _,h=>h
 | .ask i j k,h=>by
  simp only[gk,Bool.and_eq_true]at h
  unfold d8
  cases lt i j with
  | true=>exact mA h.1
  | false=>exact mA h.2
theorem oC{α:Type}{n:Nat}{lt:Nat→Nat→Bool}{cmp:Nat→Nat→(Bool→Shared→Prop)→Shared→Prop}{G:α→Shared→Prop}{s:Shared}(hc:∀i j C,i<n→j<n→C (lt i j) s→cmp i j C s) :
  ∀{t:KasT α},gE n t=true→G (d8 lt t) s→t.kasWp cmp G s
 | .ret _,_,h=>h
 | .ask i j k,hs,h=>by
  simp only[gE,Bool.and_eq_true,decide_eq_true_eq]at hs
  refine hc i j _ hs.1 hs.2.1 ?_
  cases q:lt i j with
  | true=>exact oC hc hs.2.2.1 (by unfold d8 at h;rw[q]at h;exact h)
  | false=>exact oC hc hs.2.2.2 (by unfold d8 at h;rw[q]at h;exact h)
section
variable{prog:Program}{w:World}{A:Around}{E:Value→Shared→Prop}{s:Shared}{a:Addr}{vs:List Value}
theorem nV{n:Nat}{P:PySem.Fin→Shared→Prop}(ho:s.heap.get? a=some (seqObj "list" vs.toArray n))(h2:2≤vs.length)(h64:vs.length<64)
  (h:∀h',(∀b o,b≠a→s.heap.get? b=some o→h'.get? b=some o)→
   wpAny (model prog w) A (keyKind' vs.toArray) (λκ s'=>s'={ s with heap:=h' }∧∃lt,gE vs.length (kas_sort vs.length)=true∧(∀i j C,i<vs.length→j<vs.length→C (lt i j) s'→kas_ask prog w A κ vs i j C s')∧
    ∀h'' c,(∀b o,b≠a→s.heap.get? b=some o→h''.get? b=some o)→h''.get? a=some (seqObj "list" ((d8 lt (kas_sort vs.length)).toList.map λi=>vs.getD i Value.none).toArray c)→P (.done (.ret .none)) { s with heap:=h'' }) (λ_ _=>False) { s with heap:=h' }) :
  wpAny (model prog w) A (Builtin.«list.sort» ⟨[.ref a],[]⟩) P E s:=by
 have ha:a<s.heap.objs.size:=Heap.lt_size ho
 have s1:=Heap.SameBut.update s.heap a (Obj.mapSeq λ_=>(#[]:Array Value))
 obtain⟨e1,ho1⟩:∃e1,(s.heap.update a (Obj.mapSeq λ_=>(#[]:Array Value))).get? a=some (seqObj "list" #[] e1):=⟨_,get?_update_seq ho λ_=>#[]⟩
 have k1:∀b o,b≠a→s.heap.get? b=some o→(((s.heap.update a (Obj.mapSeq λ_=>(#[]:Array Value))).push (seqObj "tuple" vs.toArray 0)).push (seqObj "list" #[] 0)).get? b=some o:=
  λb o hb e=>Heap.get?_push_of_some _ (Heap.get?_push_of_some _ ((s1.2 b hb).trans e))
 have ho2:=Heap.get?_push_of_some (seqObj "list" #[] 0) (Heap.get?_push_of_some (seqObj "tuple" vs.toArray 0) ho1)
 have ask:=h _ k1
 rw[list_sort_plain]
 refine wpAny_bind (listItems_at ho rfl ?_)
 refine wpAny_bind (listUpdate_at ho rfl ?_ (by rw[List.size_toArray,sizeLine_eq];(first|lia|omega)) (Nat.zero_le _))
 refine wpAny_bind (seqEpoch_at ho1 rfl ?_)
 refine wpAny_bind (wpAny_newTuple ?_ (by show vs.length≤_;rw[sizeLine_eq];(first|lia|omega)))
 refine wpAny_bind (wpAny_newList ?_ (Nat.zero_le _))
 refine wpAny_holding ?_
 show wpAny (model prog w) A _ P E { s with heap:=((s.heap.update a (Obj.mapSeq λ_=>(#[]:Array Value))).push (seqObj "tuple" vs.toArray 0)).push (seqObj "list" #[] 0) }
 dsimp only
 have hn2:¬vs.toArray.size<2:=by rw[List.size_toArray];(first|lia|omega)
 rw[if_neg hn2,if_neg hn2]
 refine wpAny_bind (wpAny_mono ask (λκ s0 hk=>?_) λ_ _ x=>x.elim)
 obtain⟨rfl,lt,hsafe,hask,hfin⟩:=hk
 refine wpAny_bind (wpAny_mono (kat_run (ks:=vs) (Q:=λst' s'=>s'={ s with heap:=((s.heap.update a (Obj.mapSeq λ_=>(#[]:Array Value))).push (seqObj "tuple" vs.toArray 0)).push (seqObj "list" #[] 0) }∧arrOf st'=(d8 lt (kas_sort vs.length)).map (kas_item (vs.toArray.zip vs.toArray))∧failedOf st'=none∧(d8 lt (kas_sort vs.length)).size=vs.length)
  (G:=λp s'=>s'={ s with heap:=((s.heap.update a (Obj.mapSeq λ_=>(#[]:Array Value))).push (seqObj "tuple" vs.toArray 0)).push (seqObj "list" #[] 0) }∧p=d8 lt (kas_sort vs.length))
  rfl h2 h64 (λp' st' s' a1 a2 a3 a4=>⟨a4.1,by rw[a2,a4.2],a3,by rw[←a4.2];exact a1⟩) (oC hask hsafe ⟨rfl,rfl⟩)) ?_ λ_ _ e=>e)
 rintro ⟨⟨⟩,st'⟩ s' ⟨rfl,har,hf,hsz⟩
 dsimp only
 have hout:=kat_snds rfl har
 rw[hout]
 obtain⟨c2,hc2⟩:∃c2,((((s.heap.update a (Obj.mapSeq λ_=>(#[]:Array Value))).push (seqObj "tuple" vs.toArray 0)).push (seqObj "list" #[] 0)).update a (Obj.mapSeq λ_=>List.toArray ((d8 lt (kas_sort vs.length)).toList.map λi=>vs.getD i Value.none))).get? a=some (seqObj "list" (List.toArray ((d8 lt (kas_sort vs.length)).toList.map λi=>vs.getD i Value.none)) c2):=
  ⟨_,get?_update_seq ho2 λ_=>List.toArray ((d8 lt (kas_sort vs.length)).toList.map λi=>vs.getD i Value.none)⟩
 refine wpAny_bind (seqEpoch_at ho2 rfl ?_)
 refine wpAny_bind (listUpdate_at ho2 rfl ?_ (Nat.zero_le _) (by simp only[List.size_toArray,List.length_map,Array.length_toList,hsz];rw[sizeLine_eq];(first|lia|omega)))
 rw[hf]
 simp only[bne_self_eq_false,Bool.false_eq_true,if_false]
 exact wpAny_pure (hfin _ c2 (λb o hb e=>(Heap.get?_update_other _ _ (Ne.symm hb)).trans (k1 b o hb e)) hc2)
theorem uI{l:Addr}{Q:Value→Shared→Prop}(hl:s.heap.IsList l vs.toArray)(h2:2≤vs.length)(h64:vs.length<64)
  (h:∀h',(∀b o,s.heap.get? b=some o→h'.get? b=some o)→
   wpAny (model prog w) A.in1.in1 (keyKind' vs.toArray) (λκ s'=>s'={ s with heap:=h' }∧∃lt,gE vs.length (kas_sort vs.length)=true∧(∀i j C,i<vs.length→j<vs.length→C (lt i j) s'→kas_ask prog w A.in1.in1 κ vs i j C s')∧
    ∀h'' c,(∀b o,s.heap.get? b=some o→h''.get? b=some o)→h''.get? (s.heap.objs.size+1)=some (seqObj "list" ((d8 lt (kas_sort vs.length)).toList.map λi=>vs.getD i Value.none).toArray c)→Q (.ref (s.heap.objs.size+1)) { s with heap:=h'' }) (λ_ _=>False) { s with heap:=h' }) :
  wpAny (model prog w) A (call (.builtin "sorted") [.ref l]) Q E s:=by
 refine Calls.call_function_entry kind_sorted plain_sorted entry_sorted (args_sorted1 _) ?_
 unfold Builtin.«sorted»
 refine wpAny_bind (m:=checkCount "sorted" 1 1 _) (wpAny_pure ?_)
 refine wpAny_bind (collect_list hl ?_ (by rw[sizeLine_eq];(first|lia|omega)))
 refine wpAny_bind (wpAny_newList ?_ (by rw[sizeLine_eq];(first|lia|omega)))
 have hsz:((s.heap.push (seqObj "list" #[] 0)).update s.heap.objs.size (Obj.mapSeq (·++vs.toArray))).objs.size=s.heap.objs.size+1:=by
  rw[Heap.size_update,size_push']
 have hoL:(((s.heap.push (seqObj "list" #[] 0)).update s.heap.objs.size (Obj.mapSeq (·++vs.toArray))).push (seqObj "list" vs.toArray 0)).get? (s.heap.objs.size+1)=some (seqObj "list" vs.toArray 0):=by
  rw[←hsz];exact Heap.get?_push_size _ rfl
 have keep:∀b o,s.heap.get? b=some o→(((s.heap.push (seqObj "list" #[] 0)).update s.heap.objs.size (Obj.mapSeq (·++vs.toArray))).push (seqObj "list" vs.toArray 0)).get? b=some o:=λb o q=>by
  have hlt:b<s.heap.objs.size:=Heap.lt_size q
  rw[Heap.get?_push_ne _ _ _ (by rw[hsz];exact Nat.ne_of_lt (Nat.lt_succ_of_lt hlt)),Heap.get?_update_ne _ _ _ _ (Nat.ne_of_lt hlt),Heap.get?_push_ne _ _ _ (Nat.ne_of_lt hlt)]
  exact q
 have off:∀b o,s.heap.get? b=some o→b≠s.heap.objs.size+1:=λb o e=>Nat.ne_of_lt (Nat.lt_succ_of_lt (Heap.lt_size e))
 show wpAny _ _ _ _ _ { s with heap:=((s.heap.push (seqObj "list" #[] 0)).update s.heap.objs.size (Obj.mapSeq (·++vs.toArray))).push (seqObj "list" vs.toArray 0) }
 rw[hsz]
 refine wpAny_bind (wpAny_holding (wpAny_call_entry slot_list_sort ⟨_,hoL,rfl⟩ entry_list_sort ?body (args_list_sort _)))
 case body=>
  refine nV (s:={ s with heap:=((s.heap.push (seqObj "list" #[] 0)).update s.heap.objs.size (Obj.mapSeq (·++vs.toArray))).push (seqObj "list" vs.toArray 0) }) hoL h2 h64 λh' hk=>?_
  refine wpAny_mono (h h' λb o e=>hk b o (off b o e) (keep b o e)) (λκ s' ⟨e,lt,g1,g2,g3⟩=>⟨e,lt,g1,g2,λh'' c hk2 hc=>⟨_,rfl,wpAny_pure ⟨_,rfl,g3 h'' c (λb o e=>hk2 b o (off b o e) (keep b o e)) hc⟩⟩⟩) λ_ _ x=>x
end
noncomputable def onP{α:Type}(d:D)(f:Int×Int→Option α):Option α:=match d with
 | .tup [a,b]=>onI a λa=>onI b λb=>f (a,b)
 | _=>none
noncomputable def jD:List D→Option (List (Int×Int))
 | []=>some []
 | d::ds=>onP d λp=>(jD ds).map (p::·)
noncomputable def g9(p q:Int×Int):Bool:=if p.1=q.1 then(if p.2=q.2 then false else decide (p.2<q.2))else decide (p.1<q.1)
noncomputable def gx(ps:List (Int×Int)):List Nat:=(d8 (λi j=>g9 (ps.getD i (0,0)) (ps.getD j (0,0))) (kas_sort 4)).toList
noncomputable def gM:List D→Option D:=on1 λa=>onL a λds=>(jD ds).bind λps=>if ps.length=4 then some (.lst ((gx ps).map λi=>ds.getD i .none))else none
theorem Dl:gE 4 (kas_sort 4)=true:=by decide +kernel
noncomputable def sh(p:Array Nat):Bool:=p.toList.isPerm [0,1,2,3]
theorem Al:gk sh (kas_sort 4)=true:=by decide +kernel
theorem iJ(ps:List (Int×Int)):(gx ps).isPerm [0,1,2,3]=true:=mA (P:=sh) Al
noncomputable abbrev pairD(p:Int×Int):D:=.tup [.int p.1,.int p.2]
theorem tU{α:Type}{b:D}{f:Int→Option α}{r:α}{G:Prop}(h:onI b f=some r)(k:∀j,b=.int j→f j=some r→G):G:=by
 cases b with|int j=>exact k j rfl h|_=>exact nE h
theorem AJ{α:Type}{d:D}{f:Int×Int→Option α}{r:α}{G:Prop}(h:onP d f=some r)(k:∀p,d=pairD p→f p=some r→G):G:=by
 cases d with
 | tup l=>cases l with
  | nil=>exact nE h
  | cons a l=>cases l with
   | nil=>exact nE h
   | cons b l=>cases l with
    | nil=>exact tU h λi e1 h=>tU h λj e2 h=>k (i,j) (by rw[e1,e2]) h
    | cons _ _=>exact nE h
 | _=>exact nE h
theorem oV(ds:List D):∀ps:List (Int×Int),jD ds=some ps→ds=ps.map pairD:=by
 induction ds with
 | nil=>exact λps h=>Option.some.inj h▸rfl
 | cons d ds ih=>exact λps h=>AJ h λp e h=>mE h λqs e1 h=>by rw[←h,e,ih qs e1];rfl
theorem zS{g:Heap}{ws:List Value}{ps:List (Int×Int)}(r:RelAll g ws (ps.map pairD)){i:Nat}(hi:i<ps.length) :
  ∃a n t u,ws.getD i .none=.ref a∧g.get? a=some (fR [Value.int (ps.getD i (0,0)).1 t,.int (ps.getD i (0,0)).2 u].toArray n):=by
 obtain⟨v,hv,rv⟩:=r.get (k:=i) (d:=pairD ps[i]) (by simp[hi])
 have e1:ws.getD i .none=v:=by simp[List.getD,hv]
 have e2:ps.getD i (0,0)=ps[i]:=by simp[List.getD,hi]
 rw[e1,e2]
 generalize ps[i]=p at rv
 refine rv.tupE λa us n h e q=>q.twoE λu v h' r1 r2=>r1.intE λt ht=>r2.intE λt' ht'=>?_
 subst ht ht' h'
 exact⟨a,n,t,t',h,e⟩
section
variable{X:Cx}{A:Around}{ft ft':FT}{env:Env}{Γ Γ':List Slot}{σ:Sg}{s:Shared}{d:D}{c':List Cell}
theorem four{α:Type}{ws:List α}(h:ws.length=4):∃a b c d,ws=[a,b,c,d]:=by
 obtain⟨a,l1,e1,h1⟩:=ma h
 obtain⟨b,l2,e2,h2⟩:=ma h1
 obtain⟨c,l3,e3,h3⟩:=ma h2
 obtain⟨d,l4,e4,h4⟩:=ma h3
 exact⟨a,b,c,d,by rw[e1,e2,e3,e4,List.eq_nil_of_length_eq_zero h4]⟩
theorem r7:COk X A (.builtin "sorted") gM:=zP λ{σ s l ws n ds d} I el rl h=>by
 refine bE h λps e1 h=>iS h λh4 h=>?_
 subst h
 have hds:=oV ds ps e1
 subst hds
 have hwl:ws.length=4:=by rw[rl.length,List.length_map,h4]
 have hat:∀(H:Heap),(∀b o,s.heap.get? b=some o→H.get? b=some o)→∀i,i<4→∃a n t u,ws.getD i .none=.ref a∧H.get? a=some (fR [Value.int (ps.getD i (0,0)).1 t,.int (ps.getD i (0,0)).2 u].toArray n):=λH hk i hi=>by
  obtain⟨a,n,t,u,h1,h2⟩:=zS rl (i:=i) (by(first|lia|omega))
  exact⟨a,n,t,u,h1,hk _ _ (I.sub _ _ h2)⟩
 refine uI ⟨_,el,rfl,n,rfl⟩ (by(first|lia|omega)) (by(first|lia|omega)) λh' hk=>?_
 have hb:(Value.type "int" != Value.type "tuple")=true:=by decide
 have hask:∀i j (C:Bool→Shared→Prop),i<ws.length→j<ws.length→C (g9 (ps.getD i (0,0)) (ps.getD j (0,0))) { s with heap:=h' }→kas_ask X.prog X.w A.in1.in1 (tuples' (Value.type "int" != Value.type "tuple")) ws i j C { s with heap:=h' }:=by
  intro i j C hi hj hC
  obtain⟨ai,ni,ti,ui,gi1,gi2⟩:=hat h' hk i (by(first|lia|omega))
  obtain⟨aj,nj,tj,uj,gj1,gj2⟩:=hat h' hk j (by(first|lia|omega))
  unfold kas_ask
  rw[gi1,gj1]
  refine kat_lt gi2 rfl gj2 rfl ?_
  generalize ps.getD i (0,0)=p at hC
  generalize ps.getD j (0,0)=q at hC
  show KatLex _ _ _ _ _ _ [(.int p.1 ti,.int q.1 tj),(.int p.2 ui,.int q.2 uj)] 0 _
  refine kat_cons (wpAny_eqBool_int (kat_go (λe1=>kat_yes (kat_cons (wpAny_eqBool_int (kat_go (λe2=>kat_yes (kat_nil ?_)) λe2=>kat_no ?_)))) λe1=>kat_no ?_))
  ·have h1:p.1=q.1:=by simpa using e1
   have h2:p.2=q.2:=by simpa using e2
   have:g9 p q=false:=by unfold g9;rw[if_pos h1,if_pos h2]
   rw[this]at hC
   exact hC
  ·have h1:p.1=q.1:=by simpa using e1
   have h2:¬p.2=q.2:=by simpa using e2
   have:g9 p q=decide (p.2<q.2):=by unfold g9;rw[if_pos h1,if_neg h2]
   rw[this]at hC
   rw[hb]
   exact kat_one _ _ (P.lt_int (show PySem.W.BoolBack C (Value.bool _) _ from hC))
  ·have h1:¬p.1=q.1:=by simpa using e1
   have:g9 p q=decide (p.1<q.1):=by unfold g9;rw[if_neg h1]
   rw[this]at hC
   rw[hb]
   exact oneLt_int hC
 have hfin:∀h'' c,(∀b o,s.heap.get? b=some o→h''.get? b=some o)→h''.get? (s.heap.objs.size+1)=some (seqObj "list" ((d8 (λi j=>g9 (ps.getD i (0,0)) (ps.getD j (0,0))) (kas_sort ws.length)).toList.map λi=>ws.getD i Value.none).toArray c)→
   PostE X σ s (.lst ((gx ps).map λi=>(ps.map pairD).getD i .none)) σ.sto (.ref (s.heap.objs.size+1)) { s with heap:=h'' }:=by
  intro h'' c hk2 hc
  have nn:s.heap.get? (s.heap.objs.size+1)=none:=by
   cases q:s.heap.get? (s.heap.objs.size+1)with
   | none=>rfl
   | some o=>exact absurd (Nat.lt_of_succ_lt (Heap.lt_size q)) (Nat.lt_irrefl _)
  refine PostE.freshL (tk:=s.toks) (n:=c) I hk2 (Nat.le_refl _) nn hc ?_
  rw[hwl]
  have hperm:=iJ ps
  have hmem:∀i∈gx ps,i<4:=λi hi=>by
   have:=(List.isPerm_iff.mp hperm).mem_iff.mp hi
   simp at this;(first|lia|omega)
  refine RelAll.map λi hi=>?_
  have hi4:=hmem i hi
  obtain⟨v,hv,rv⟩:=rl.get (k:=i) (d:=(ps.map pairD).getD i .none) (by simp[show i<ps.length by(first|lia|omega)])
  have e1:ws.getD i .none=v:=by simp[List.getD,hv]
  rw[e1];exact rv
 obtain⟨w0,w1,w2,w3,rfl⟩:∃w0 w1 w2 w3,ws=[w0,w1,w2,w3]:=by
  exact four hwl
 obtain⟨a0,n0,t0,u0,g0,k0⟩:=hat h' hk 0 (by(first|lia|omega))
 obtain⟨a1,n1,t1,u1,g1,k1⟩:=hat h' hk 1 (by(first|lia|omega))
 obtain⟨a2,n2,t2,u2,g2,k2⟩:=hat h' hk 2 (by(first|lia|omega))
 obtain⟨a3,n3,t3,u3,g3,k3⟩:=hat h' hk 3 (by(first|lia|omega))
 have e0:w0=.ref a0:=g0
 have e1:w1=.ref a1:=g1
 have e2:w2=.ref a2:=g2
 have e3:w3=.ref a3:=g3
 refine kat_kind (T:=.type "int") (e0▸e1▸e2▸e3▸KatTups.cons k0 rfl rfl rfl (KatTups.cons k1 rfl rfl rfl (KatTups.cons k2 rfl rfl rfl (KatTups.cons k3 rfl rfl rfl KatTups.nil)))) (by simp) (λv hv=>?_) (by decide) ⟨rfl,_,Dl,hask,hfin⟩
 have:∃i t,v=.int i t:=by
  simp only[List.mem_cons,List.not_mem_nil,or_false]at hv
  rcases hv with rfl|rfl|rfl|rfl<;>exact⟨_,_,rfl⟩
 obtain⟨i,t,rfl⟩:=this
 exact λA Q E s k q=>wpAny_typeOf (typeIs_int s i t) q
end
end Mine
namespace Mine
section
variable{M:Model}{A:Around}{R:GenEnd}{Y:Protocol}{n:Nat}{s₀:Shared}{c:Code}{fs:List Frame}{s:Shared}{env:Env}
 {K:Flow→Sem PySem.Fin} {H:Value→Sem PySem.Fin} {gd:Bool→Bool} {lv:List Value→List Value}
theorem rt{test:Expr}{body orelse:List Stmt}{pos:Pos}
  (h:wpAny M (A.over c fs) (isTrue test env (eval test env)) (λb s'=>if b=true then Seg M A R Y n s₀ c ((execs body env).wrap K H gd lv) fs s' else Seg M A R Y n s₀ c ((execs orelse env).wrap K H gd lv) fs s') NoE s) :
  Seg M A R Y n s₀ c ((exec (.If test body orelse pos) env).wrap K H gd lv) fs s:=by
 show Seg M A R Y n s₀ c (.at pos λ_=>((isTrue test env (eval test env) >>= λb=>if b=true then execs body env else execs orelse env).wrap K H gd lv)) fs s
 refine seg_at ?_
 rw[Sem.bind_eq_wrap',Sem.wrap_wrap]
 refine seg_wrap (up (wpAny_mono h (λb s' hb=>?_) λ_ _ f=>f))
 cases b with
 | true=>rw[if_pos rfl]at hb;exact hb
 | false=>rw[if_neg Bool.false_ne_true]at hb;exact hb
theorem Ak{target iter:Expr}{body orelse:List Stmt}{pos:Pos}(hs:∀x,foldedSetIterable iter env x=pure x)
  (h:wpAny M (A.over c fs) (eval iter env) (λx s1=>wpAny M (A.over c fs) (pyIter x) (λit s2=>∀p k,(∀f,k (.ok f)=K f)→Seg M A R Y n s₀ (.forLoop target it body orelse env) (M.den (.forLoop target it body orelse env)) (.ret k none (gd false) (lv []) c p []::fs) s2) NoE s1) NoE s) :
  Seg M A R Y n s₀ c ((exec (.For target iter body orelse pos) env).wrap K H gd lv) fs s:=by
 show Seg M A R Y n s₀ c (.at pos λ_=>((eval iter env >>= λv=>foldedSetIterable iter env v >>= λx=>(standAt iter.pos >>= λ_=>(holding [x] (pyIter x)) >>= λit=>runOwn (.forLoop target it body orelse env) env)).wrap K H gd lv)) fs s
 refine seg_at ?_
 rw[Sem.bind_eq_wrap',Sem.wrap_wrap]
 refine seg_wrap (up (wpAny_mono h (λx s1 h1=>?_) λ_ _ f=>f))
 rw[hs x]
 show Seg M A R Y n s₀ c (.at iter.pos λ_=>(((holding [x] (pyIter x)) >>= λit=>runOwn (.forLoop target it body orelse env) env).wrap K H _ _)) fs s1
 refine seg_at ?_
 rw[Sem.bind_eq_wrap',Sem.wrap_wrap]
 refine seg_wrap (up (wpAny_holding (wpAny_mono h1 (λit s2 h2=>?_) λ_ _ f=>f)))
 exact seg_call λp=>h2 p _ λf=>rfl
end
section
variable{prog:Program}{w:World}{A:Around}{R:GenEnd}{Y:Protocol}{n:Nat}{s₀:Shared}{fs:List Frame}{s:Shared}{env:Env}
theorem k8{target:Expr}{it:Value}{body orelse:List Stmt}
  (h:wpAny (model prog w) (A.over (.forLoop target it body orelse env) fs) (pyNext it) (λr s1=>match r with
   | none=>Seg (model prog w) A R Y n s₀ (.forLoop target it body orelse env) (.pure (.again (.block orelse env))) fs s1
   | some v=>wpAny (model prog w) (A.over (.forLoop target it body orelse env) fs) (letOwnedTupleGo target it v) (λ_ s2=>wpAny (model prog w) (A.over (.forLoop target it body orelse env) fs) (assign target env v) (λ_ s3=>
     ∀H,Seg (model prog w) A R Y n s₀ (.forLoop target it body orelse env) ((execs body env).wrap (λf=>match f with
      | .next|.cont=>.pure (.again (.forLoop target it body orelse env))
      | .brk=>.pure (.done .next)
      | .ret v=>.pure (.done (.ret v))) H id id) fs s3) NoE s2) NoE s1) NoE s) :
  Seg (model prog w) A R Y n s₀ (.forLoop target it body orelse env) ((model prog w).den (.forLoop target it body orelse env)) fs s:=by
 show Seg _ A R Y n s₀ _ ((forTurn target it body orelse env).onRaise (λx=>do noteFrame x env;theTreesLotGoes x)) fs s
 unfold forTurn
 rw[Sem.onRaise_eq_wrap]
 show Seg _ A R Y n s₀ _ (.at target.pos λ_=>(((pyNext it).onRaise (λ_=>standAt { target.pos with line:=0 }) >>= λr=>match r with
  | none=>again (.block orelse env)
  | some v=>letOwnedTupleGo target it v >>= λ_=>assign target env v >>= λ_=>execs body env >>= λf=>match f with
   | .next|.cont=>again (.forLoop target it body orelse env)
   | .brk=>pure (.done .next)
   | .ret v=>pure (.done (.ret v))).wrap .pure _ id id)) fs s
 refine seg_at ?_
 rw[Sem.bind_eq_wrap',Sem.wrap_wrap]
 refine seg_wrap (wpAny_onRaise (wpAny_mono h (λr s1 h1=>?_) λ_ _ f=>False.elim f))
 cases r with
 | none=>exact h1
 | some v=>
  show Seg _ A R Y n s₀ _ ((letOwnedTupleGo target it v >>= λ_=>assign target env v >>= λ_=>execs body env >>= λf=>match f with
   | .next|.cont=>again (.forLoop target it body orelse env)
   | .brk=>pure (.done .next)
   | .ret v=>pure (.done (.ret v))).wrap .pure _ id id) fs s1
  rw[Sem.bind_eq_wrap',Sem.wrap_wrap]
  refine seg_wrap (up (wpAny_mono h1 (λ_ s2 h2=>?_) λ_ _ f=>f))
  rw[Sem.bind_eq_wrap',Sem.wrap_wrap]
  refine seg_wrap (up (wpAny_mono h2 (λ_ s3 h3=>?_) λ_ _ f=>f))
  rw[Sem.bind_eq_wrap',Sem.wrap_wrap]
  rw[Sem.wrap_congr (execs body env) _ _ (K':=λf=>match f with
      | .next|.cont=>.pure (.again (.forLoop target it body orelse env))
      | .brk=>.pure (.done .next)
      | .ret v=>.pure (.done (.ret v))) (λf=>by cases f<;>rfl) (λe=>rfl)]
  exact h3 _
end
end Mine
namespace Mine
section
variable{prog:Program}{w:World}{A:Around}{E:Value→Shared→Prop}{s:Shared}
theorem ml{a:Addr}{g n:Nat}{gs:GenState}{P:Nat→Shared→Shared→Prop}{Y:Protocol}{Q:Option Value→Shared→Prop}(hh:A.handled=none)
  (hl:s.heap.NoLimit) (hroom:A.depth<recursionLimit)
  (hg:s.heap.IsGen a g) (hgs:s.gens[g]?=some gs)
  (hgo:gs.Goes (model prog w) A.in1 (λn s₀ r s₁=>r=.ok (.ret .none)∧P n s₀ s₁) Y n (.send .none) (s.setGen g .running))
  (hY:∀v s₁ gs',gs'.bare=true→Y (n - 1) (s.setGen g .running) v s₁ (λr' s''=>match n with
    | 0=>False
    | m+1=>gs'.Goes (model prog w) A.in1 (λn s₀ r s₁=>r=.ok (.ret .none)∧P n s₀ s₁) Y m r' s'')→Q (some v) (s₁.setGen g gs'))
  (hP:∀s₁,P n (s.setGen g .running) s₁→∀h',(∀b o,s₁.heap.get? b=some o→h'.get? b=some o)→Q none { s₁.setGen g .finished with heap:=h' }) :
  wpAny (model prog w) A (pyNext (.ref a)) Q E s:=by
 unfold pyNext
 refine wpAny_bind (wpAny_attempt (wpAny_callSpecial?_slot (name:=Str.ofString "__next__") hg.typeIs slot_gen_next
  (wpAny_call_entry slot_gen_next hg.typeIs entry_gen_next ?_ (args_gen_next _))))
 show wpAny _ A.in1 (Builtin.Generator.genWake (.ref a) (.send .none)) _ _ s
 unfold Builtin.Generator.genWake
 refine wpAny_bind (wpAny_holding (wpAny_genNumber hg (wpAny_bind (wpAny_genState hgs ?_))))
 cases gs with
 | running=>exact hgo.elim
 | finished=>exact hgo.elim
 | _=>
  refine wpAny_bind (wpAny_roomToWake hl hroom ?_)
  show wpAny _ A.in1 (.resume g (.send .none) [] _) _ _ s
  refine wpAny_resumeQ hgs hgo (λx s₁ hx=>?_) (λv s₁ gs' hb hv=>?_)
  ·obtain⟨rfl,hp⟩:=hx
   show wpAny _ A.in1 (newExc (.type "StopIteration") [] >>= _) _ _ _
   refine wpAny_bind ?_
   simp only[newExc,newTuple]
   refine wpAny_bind (wpAny_newObj_type ?_ (by size_fits))
   refine wpAny_bind (m:=firstArgMember _ _) (wpAny_of_eq (a:=Value.none) (by first|rfl|(simp only[firstArgMember];rfl)) ?_)
   refine wpAny_newObj_type ?_ (by size_fits)
   simp only[raiseNew]
   refine wpAny_bind (wpAny_bind (wpAny_handled ?_))
   first|rw[show A.in1.handled=none from hh]|rw[hh]
   refine wpAny_throw ?_
   refine wpAny_bind (wpAny_isInstance (T:="StopIteration") (b:=true) ⟨_,Heap.get?_push_size _ rfl,rfl⟩ isSubtype_stop ?_)
   exact wpAny_pure (hP s₁ hp _ λb o hb=>Heap.get?_push_of_some _ (Heap.get?_push_of_some _ hb))
  ·exact wpAny_pure ⟨v,rfl,wpAny_pure (hY v s₁ gs' hb hv)⟩
end
noncomputable def bsl:Str:=⟨#[92]⟩
noncomputable def bA:Bool→List (Nat×Nat)→Nat→List D
 | e,[],p=>if e then[.tup [.int p,.str bsl]]else[]
 | true,(i,c)::r,_=>.tup [.int i,.str ⟨#[92,c]⟩]::bA false r i
 | false,(i,c)::r,_=>if c=92 then bA true r i else .tup [.int i,.str ⟨#[c]⟩]::bA false r i
noncomputable def dp(x:Str):List (Nat×Nat):=(List.range x.cps.size).map λk=>(k,x.cps.toList.getD k 0)
noncomputable def escaped(x:Str):List D:=bA false (dp x) 0
noncomputable def fT(l:List (Nat×Nat)):List D:=l.map λp=>D.tup [.int p.1,.str ⟨#[p.2]⟩]
theorem oP(x:Str):fT (dp x)=hV (x.cps.toList.map λc=>D.str ⟨#[c]⟩):=by
 unfold fT dp hV
 rw[List.map_map,List.length_map,Array.length_toList]
 apply List.map_congr_left
 intro k hk
 have hk':k<x.cps.size:=List.mem_range.mp hk
 simp[List.getD,hk']
section
variable{X:Cx}{A:Around}{ft:FT}{env:Env}{s:Shared}
noncomputable abbrev Cx.base(X:Cx):Sg:=⟨X.g0,[],[]⟩
theorem pV{σ:Sg}(I:X.Inv σ s)(ht:TopOk ⟨X.mg,X.mb,X.g0⟩ X.g0):X.Inv X.base s:=
 ⟨I.top.base.trans I.sub,rfl,List.nodup_nil,λk a c h=>by simp at h,λk a c h=>by simp at h,ht,I.bare,I.tk⟩
theorem qR{s:Shared}{g:Nat}{gs:GenState}:((s.setGen g gs).gens=s.gens.setIfInBounds g gs):=rfl
theorem yi{g:Nat}{gs:GenState}{σ:Sg}(I:X.Inv σ s)(hb:gs.bare=true):X.Inv σ (s.setGen g gs):=by
 refine⟨I.sub,I.len,I.nodup,I.cells,I.off,I.top,?_,I.tk⟩
 intro y hy
 rw[qR]at hy
 rcases Array.mem_or_eq_of_mem_setIfInBounds hy with h|h
 ·exact I.bare y h
 ·exact h▸hb
noncomputable def GW(env:Env)(a e it:Addr)(b:Addr):Prop:=b=env.locals∨b=a∨b=e∨b=it
noncomputable def GY(X:Cx)(gi:Nat)(a:Addr)(L:List D)(gw:Nat→Addr→Prop):Protocol:=λm s₀ v s₁ kap=>
 ∃ds t vs n σ',L[L.length - 1 - m]?=some (.tup ds)∧v=.ref t∧X.Inv σ' s₁∧Ext (λb=>gw (m+1) b∧b≠a) (·=gi) X.base s₀ σ' s₁∧(s₀.heap.get? t=none∨gw (m+1) t)∧¬gw m t∧s₁.heap.get? t=some (fR (List.toArray vs) n)∧(∀g,RelAll g vs ds)∧
  (∀b,gw m b→∃o,s₁.heap.get? b=some o)∧s₁.gens[gi]?=some .running∧∀s'',X.Inv X.base s''→(∀b o,gw m b→s₁.heap.get? b=some o→s''.heap.get? b=some o)→s''.gens[gi]?=some .running→kap (.send .none) s''
noncomputable def GP(X:Cx)(gi:Nat)(a:Addr)(gw:Nat→Addr→Prop)(m:Nat)(s₀ s₁:Shared):Prop:=m=0∧∃σ',X.Inv σ' s₁∧Ext (λb=>gw 0 b∧b≠a) (·=gi) X.base s₀ σ' s₁
noncomputable abbrev GR(X:Cx)(gi:Nat)(a:Addr)(gw:Nat→Addr→Prop):GenEnd:=λn s₀ r s₁=>r=.ok (.ret .none)∧GP X gi a gw n s₀ s₁
structure GS (X:Cx) (ft:FT) (env:Env) (gi:Nat) (w v:Addr→Prop) (s₀:Shared) (σ:Sg) (s:Shared) (Γ:List Slot):Prop where
 I:X.Inv σ s
 own:σ.own=[]
 x:Ext w (·=gi) X.base s₀ σ s
 F:Frm ft env Γ σ s.heap
 run:s.gens[gi]?=some .running
 there:∀b,v b→∃o,s.heap.get? b=some o
 off:∀b,v b→σ.g.get? b=none
 loc:w env.locals
noncomputable def jf:Slot→Bool
 | .un=>true
 | .val (.int _)=>true
 | .val (.str _)=>true
 | .val (.bool _)=>true
 | _=>false
theorem vT{σ σ':Sg}{v:Value}{sl:Slot}(hf:jf sl=true)(h:RelS σ v sl):RelS σ' v sl:=by
 cases sl with
 | un=>trivial
 | ref k=>cases hf
 | val d=>
  cases d<;>simp[jf]at hf
  ·cases (show Rel σ.g v _ from h);exact .bool _
  ·cases (show Rel σ.g v _ from h);exact .int _ _
  ·cases (show Rel σ.g v _ from h);exact .str _ _
theorem pP{Γ:List Slot}{σ:Sg}{h h':Heap}(F:Frm ft env Γ σ h)(hl:∀p∈ft.nt,p.2=VK.l)(hf:∀sl∈Γ,jf sl=true)(hk:∀o,h.get? env.locals=some o→h'.get? env.locals=some o)(hg:Le X.g0 σ.g):Frm ft env Γ X.base h':=by
 have notl:∀{i:Nat} {y:Str} {k:VK},ft.nt[i]?=some (y,k)→k=.l:=λe=>hl _ (List.mem_of_getElem? e)
 refine⟨F.ok,F.len,?_,λi y k e hk'=>absurd (notl e) hk',⟨?_,List.not_mem_nil⟩,λi y k c e hk'=>absurd (notl e) hk',λi j y z k c e _ _ _ _=>by cases notl e⟩
 ·obtain⟨m,⟨o,es,ep,ho,r⟩,hm⟩:=F.loc
  refine⟨m,⟨o,es,ep,hk o ho,r⟩,λi y sl e1 e2 e3=>?_⟩
  obtain⟨v,hv,rv⟩:=hm i y sl e1 e2 e3
  exact⟨v,hv,vT (hf _ (List.mem_of_getElem? e2)) rv⟩
 ·cases q:X.g0.get? env.locals with
  | none=>rfl
  | some o=>have:=hg _ _ q;rw[F.offL.1]at this;cases this
section
variable{gi:Nat}{a e it:Addr}{w v:Addr→Prop}{s₀:Shared}{σ σ':Sg}{s':Shared}{Γ Γ':List Slot}
theorem vr{b:Addr}(hl:∀p∈ft.nt,p.2=VK.l)(h:FW ft env b):b=env.locals:=by
 rcases h with h|⟨i,x,h1,_⟩
 ·exact h
 ·have:=hl _ (List.mem_of_getElem? h1);cases this
theorem GS.move{W v':Addr→Prop}(S:GS X ft env gi w v s₀ σ s Γ)(I':X.Inv σ' s')(x':Ext W NoG σ s σ' s')(hW:∀b,W b→w b)(ho:σ'.own=[])(F':Frm ft env Γ' σ' s'.heap)
  (hv:∀b,v' b→v b) (th:∀b,v' b→W b→∃o,s'.heap.get? b=some o) (of:∀b,v' b→W b→σ'.g.get? b=none):GS X ft env gi w v' s₀ σ' s' Γ':=by
 refine⟨I',ho,S.x.trans S.I (x'.weaken hW λ_ h=>h.elim),F',x'.gens _ _ S.run λh=>h,λb hb=>?_,λb hb=>?_,S.loc⟩
 ·by_cases hw:W b
  ·exact th b hb hw
  ·obtain⟨o,eo⟩:=S.there b (hv b hb)
   exact⟨o,x'.keep _ _ eo (by rw[S.own];exact List.not_mem_nil) hw⟩
 ·by_cases hw:W b
  ·exact of b hb hw
  ·obtain⟨o,eo⟩:=S.there b (hv b hb)
   cases q:σ'.g.get? b with
   | none=>rfl
   | some o'=>
    rcases x'.fresh b o' q (S.off b (hv b hb))with h|h|h
    ·rw[h]at eo;cases eo
    ·rw[S.own]at h;cases h
    ·exact absurd h hw
theorem GS.step(S:GS X ft env gi w v s₀ σ s Γ)(hl:∀p∈ft.nt,p.2=VK.l)(I':X.Inv σ' s')(x':Ext (FW ft env) NoG σ s σ' s')(ho:σ'.own=[])(F':Frm ft env Γ' σ' s'.heap):GS X ft env gi w v s₀ σ' s' Γ':=
 S.move I' x' (λb h=>(vr hl h)▸S.loc) ho F' (λ_ h=>h) (λ_ _ h=>F'.there h) λ_ _ h=>(vr hl h)▸F'.offL.1
theorem eZ(I':X.Inv σ' s')(h:σ'.sto=[]):σ'.own=[]:=by
 have:=I'.len
 rw[h]at this
 exact List.length_eq_zero_iff.mp this
theorem GS.sto(S:GS X ft env gi w v s₀ σ s Γ):σ.sto=[]:=by
 have:=S.I.len
 rw[S.own]at this
 exact List.length_eq_zero_iff.mp this.symm
theorem j0{m:Nat}{c:Code}{fs:List Frame}{L:List D}{gw:Nat→Addr→Prop}{K:Flow→Sem PySem.Fin}{H:Value→Sem PySem.Fin}{gd:Bool→Bool}{lv:List Value→List Value}{es:List Expr}{kt:Nat}{tp yp sp:Pos}{pl:PL}{ds:List D}{JP:Shared→Prop}
  (S:GS X ft env gi (λb=>gw (m+1) b∧b≠a) v s₀ σ s Γ) (hgw:∀b,gw m b→v b) (hgl:gw m env.locals) (haL:env.locals≠a) (hl:∀p∈ft.nt,p.2=VK.l) (hfl:∀sl∈Γ,jf sl=true) (hsl:SoundL X (A.over c fs) ft env tp es pl) (hp:pl Γ []=some (ds,[])) (hlen:ds.length≤100000) (hflat:∀g g' vs,RelAll g vs ds→RelAll g' vs ds)
  (hL:L[L.length - 1 - m]?=some (.tup ds)) (hfs:splitAtGen fs=none) (hgd:gd false=false) (hfg:fs.any Frame.guarded=false) (hco:env.scope.isCoroutine=false)
  (hJ:∀s'',X.Inv X.base s''→(∀b o,gw m b→s.heap.get? b=some o→s''.heap.get? b=some o)→JP s'')
  (next:∀s'',GS X ft env gi (λb=>gw m b∧b≠a) (gw m) s'' X.base s'' Γ→JP s''→Seg X.M A (GR X gi a gw) (GY X gi a L gw) m s'' c (K .next) fs s'') :
  Seg X.M A (GR X gi a gw) (GY X gi a L gw) (m+1) s₀ c ((exec (.Expr (.Yield (some (.Tuple es kt tp)) yp) sp) env).wrap K H gd lv) fs s:=by
 refine seg_Expr_Yield hfs hgd hfg (up (wpAny_Tuple (hsl.use S.I S.F (by rw[S.sto];exact hp) λvs σ1 s1 q1 I1 x1 F1 r1=>⟨by rw[r1.length];exact bT hlen,λkap hkap=>?_⟩))) hco (by unfold interactive;rw[S.F.ok.kind];rfl)
 have nn:s1.heap.get? s1.heap.objs.size=none:=get?_push_none
 obtain⟨I2,x2⟩:=jK (o:=fR (List.toArray vs) 0) (tk:=s1.toks) I1
 have own1:σ1.own=[]:=eZ I1 q1
 have x12:=x1.trans I1 x2
 have x02:=S.x.trans S.I (x12.up (W:=λb=>gw (m+1) b∧b≠a) (Wg:=(·=gi)))
 have keep1:∀b o,s.heap.get? b=some o→s1.heap.get? b=some o:=λb o eb=>x1.keep b o eb (by rw[S.own];exact List.not_mem_nil) λf=>f
 have keep2:∀b o,s.heap.get? b=some o→(s1.heap.push (fR (List.toArray vs) 0)).get? b=some o:=λb o eb=>Heap.get?_push_of_some _ (keep1 b o eb)
 have hnGW:¬gw m s1.heap.objs.size:=λhw=>by
  obtain⟨o,eb⟩:=S.there _ (hgw _ hw)
  rw[keep1 _ _ eb]at nn;cases nn
 refine⟨ds,s1.heap.objs.size,vs,0,σ1,hL,rfl,I2,x02,?_,hnGW,Heap.get?_push_size _ rfl,λg=>hflat _ g _ r1,λb hb=>let ⟨o,eb⟩:=S.there b (hgw b hb);⟨o,keep2 b o eb⟩,x12.gens _ _ S.run λf=>f,λs'' I'' hk hrun=>hkap _ _ ?_⟩
 ·refine Or.imp id (λh=>h.1) (Ext.back S.I S.x (a:=s1.heap.objs.size) (by
   cases q:s.heap.get? s1.heap.objs.size with
   | none=>rfl
   | some o=>rw[keep1 _ _ q]at nn;cases nn))
 ·have hk':∀b o,gw m b→s.heap.get? b=some o→s''.heap.get? b=some o:=λb o hb eb=>hk b o hb (keep2 b o eb)
  refine next s'' ⟨I'',rfl,.refl _ _ _ _,pP S.F hl hfl (λo eo=>hk' _ _ hgl eo) S.I.top.base,hrun,λb hb=>?_,λb hb=>?_,⟨hgl,haL⟩⟩ (hJ s'' I'' λb o hb eb=>hk' b o hb eb)
  ·obtain⟨o,eo⟩:=S.there b (hgw b hb);exact⟨o,hk' _ _ hb eo⟩
  ·cases q:X.base.g.get? b with
   | none=>rfl
   | some o=>have:=S.I.top.base _ _ q;rw[S.off b (hgw b hb)]at this;cases this
theorem nP{fs:List Frame}{c:Code}{n:Nat}(hr:Room A (n+1))(h1:(A.over c fs).handled=A.handled)(h2:(A.over c fs).depth≤A.depth+1)(h3:(A.over c fs).units≤A.units+16):Room (A.over c fs) n:=
 ⟨h1.trans hr.hand,by have:=hr.depth;(first|lia|omega),by have:=hr.units;(first|lia|omega)⟩
theorem nN{body:List Stmt}{n:Nat}(hr:Room A (n+1)):Room (A.over (.func body env) []) n:=nP hr rfl (Nat.le_refl _) (by show A.units+3≤_;(first|lia|omega))
theorem nx{body:List Stmt}{tgt:Expr}{it:Value}{fbody:List Stmt}{k:Result→Sem PySem.Fin}{p:Pos}{n:Nat}(hr:Room A (n+1)):Room (A.over (.forLoop tgt it fbody [] env) [.ret k none false [] (.func body env) p []]) n:=
 nP hr (by show markOver none A.handled A.handled=A.handled;cases q:A.handled<;>rfl) (Nat.le_refl _) (by show A.units+3+0≤_;(first|lia|omega))
noncomputable def bV:Bool→List (Nat×Nat)→Bool
 | e,[]=>e
 | true,_::r=>bV false r
 | false,(_,c)::r=>bV (c==92) r
theorem jk:∀(r:List (Nat×Nat)) (e:Bool) (p:Nat),bV e r=true→1≤(bA e r p).length
 | [],e,p,h=>by simp only[bV]at h;subst h;simp[bA]
 | (i,c)::r,true,p,h=>by simp[bA]
 | (i,c)::r,false,p,h=>by
  unfold bA
  split
  ·rename_i hc
   exact jk r true i (by simpa [bV,hc] using h)
  ·simp
noncomputable def fj(env:Env)(a e it:Addr)(tl:Bool)(n:Nat):Addr→Prop:=if tl=true∧n=0 then GW env a a a else GW env a e it
theorem t8{e':Bool}{r:List (Nat×Nat)}{p:Nat}:fj env a e it (bV e' r) (bA e' r p).length=GW env a e it:=by
 unfold fj
 rw[if_neg]
 rintro ⟨h1,h2⟩
 have:=jk r e' p h1
 (first|lia|omega)
theorem oe{tl:Bool}{n:Nat}:fj env a e it tl n env.locals:=by
 unfold fj;split<;>exact .inl rfl
theorem oT{tl:Bool}{n:Nat}{b:Addr}(h:fj env a e it tl n b):GW env a e it b:=by
 unfold fj at h
 (first|(refine iE h ?_ ?_<;>(clear h;intro _ h))|split at h)
 ·rcases h with h|h|h|h
  ·exact .inl h
  ·exact .inr (.inl h)
  ·exact .inr (.inl h)
  ·exact .inr (.inl h)
 ·exact h
theorem lr{tl:Bool}{m:Nat}:fj env a e it tl (m+1)=GW env a e it:=by unfold fj;rw[if_neg];rintro ⟨_,h⟩;cases h
theorem i7{L:List D}{kk:Nat}{d:D}{r:List D}(h:d::r=L.drop kk):L[L.length - 1 - r.length]?=some d∧r=L.drop (kk+1):=by
 have hl:kk<L.length:=by
  have:=congrArg List.length h
  simp at this;omega (config:={})
 have e:=List.drop_eq_getElem_cons hl
 rw[e]at h
 obtain⟨h1,h2⟩:=List.cons.inj h
 refine⟨?_,h2⟩
 have:L.length - 1 - r.length=kk:=by rw[h2];simp;omega (config:={})
 rw[this,h1];simp[hl]
noncomputable def tA(t1 t2:Expr)(es1 es2:List Expr)(kt1 kt2:Nat)(tp1 yp1 sp1 tp2 yp2 sp2 pp1 pp2:Pos)(setF setT:Stmt):List Stmt:=[.If t1 [.Expr (.Yield (some (.Tuple es1 kt1 tp1)) yp1) sp1,setF] [.If t2 [setT] [.Expr (.Yield (some (.Tuple es2 kt2 tp2)) yp2) sp2] pp2] pp1]
theorem nF{g g2:Heap}{i:Int}{y:Str}{vs:List Value}(r:RelAll g vs [.int i,.str y]):RelAll g2 vs [.int i,.str y]:=
 r.twoE λv v' e r1 r2=>r1.intE λt e1=>r2.strE λu e2=>by rw[e,e1,e2];exact .cons (.int _ _) (.cons (.str _ _) .nil)
theorem xi{L:List D}{body:List Stmt}{K:Flow→Sem PySem.Fin}{tgt t1 t2:Expr}{es1 es2:List Expr}{kt1 kt2:Nat}{tp1 yp1 sp1 tp2 yp2 sp2 pp1 pp2:Pos}{setF setT:Stmt}{J:Heap→List D→Shared→Prop}{x:Str}{tl:Bool}
  (hr:Room A 9) (hl:∀p∈ft.nt,p.2=VK.l) (hel:e≠env.locals) (hil:it≠env.locals) (hae:a≠e) (hai:a≠it) (haL:env.locals≠a) (hco:env.scope.isCoroutine=false)
  (hI:∀A:Around,A.handled=none→IterAt X A tgt (.ref e) (λb=>b=e∨b=it) NoG J) (hJg:∀g g' ds s,J g ds s→J g' ds s)
  (hT:∀A,Room A 8→dJ X A ft env tgt (.t [1,3])) (hb1:∀A,Room A 8→SoundB X A ft env t1 (cV (aa 2))) (hb2:∀A,Room A 8→SoundB X A ft env t2 (aD .Eq (aa 3) (aZ bsl)))
  (he1:∀A,Room A 8→SoundL X A ft env tp1 es1 (ag (aa 1) (ag (ao .Add (aZ bsl) (aa 3)) aw))) (he2:∀A,Room A 8→SoundL X A ft env tp2 es2 (ag (aa 1) (ag (aa 3) aw)))
  (hsF:∀A,Room A 8→aM X A ft env setF (bf 2 (b7 false))) (hsT:∀A,Room A 8→aM X A ft env setT (bf 2 (b7 true)))
  (after:∀(esc:Bool) (p kk:Nat) (ch:Slot) (s₀:Shared) (σ:Sg) (s:Shared),jf ch=true→GS X ft env gi (λb=>GW env a e it b∧b≠a) (GW env a a a) s₀ σ s [.val (.str x),.val (.int p),.val (.bool esc),ch]→esc=tl→bA esc [] p=L.drop kk→
   Seg X.M A (GR X gi a (fj env a e it tl)) (GY X gi a L (fj env a e it tl)) (bA esc [] p).length s₀ (.func body env) (K .next) [] s) :
  ∀(rest:List (Nat×Nat)) (esc:Bool) (p kk:Nat) (ch:Slot) (s₀:Shared) (σ:Sg) (s:Shared),jf ch=true→GS X ft env gi (λb=>GW env a e it b∧b≠a) (GW env a e it) s₀ σ s [.val (.str x),.val (.int p),.val (.bool esc),ch]→J X.g0 (fT rest) s→bV esc rest=tl→bA esc rest p=L.drop kk→
   ∀(k':Result→Sem PySem.Fin) (p':Pos),(∀f,k' (.ok f)=K f)→
    Seg X.M A (GR X gi a (fj env a e it tl)) (GY X gi a L (fj env a e it tl)) (bA esc rest p).length s₀ (.forLoop tgt (.ref e) (tA t1 t2 es1 es2 kt1 kt2 tp1 yp1 sp1 tp2 yp2 sp2 pp1 pp2 setF setT) [] env)
     (X.M.den (.forLoop tgt (.ref e) (tA t1 t2 es1 es2 kt1 kt2 tp1 yp1 sp1 tp2 yp2 sp2 pp1 pp2 setF setT) [] env)) [.ret k' none false [] (.func body env) p' []] s:=by
 have noc:∀{W:Addr→Prop} (i:Nat) (y:Str) (k:VK) (c:Addr),ft.nt[i]?=some (y,k)→k≠.l→env.cells.lookup y=some c→¬W c:=λi y k c h1 h2=>absurd (hl _ (List.mem_of_getElem? h1)) h2
 have hnl:¬(env.locals=e∨env.locals=it):=λh=>h.elim (λh=>hel h.symm) λh=>hil h.symm
 have offL:∀b,(b=e∨b=it)→¬FW ft env b:=λb hb hf=>hnl (vr hl hf▸hb)
 have hWx:∀b,(b=e∨b=it)→GW env a e it b∧b≠a:=by
  rintro b (rfl|rfl)
  ·exact⟨.inr (.inr (.inl rfl)),λq=>hae q.symm⟩
  ·exact⟨.inr (.inr (.inr rfl)),λq=>hai q.symm⟩
 intro rest
 induction rest with
 | nil=>
  intro esc p kk ch s₀ σ s hfl S j htl hk k' p' hk'
  have hRL:=nx (n:=8) (tgt:=tgt) (it:=.ref e) (fbody:=(tA t1 t2 es1 es2 kt1 kt2 tp1 yp1 sp1 tp2 yp2 sp2 pp1 pp2 setF setT)) (k:=k') (p:=p') (body:=body) (env:=env) hr
  have hW:∀b,(b=e∨b=it)→σ.g.get? b=none∧b∉σ.own:=λb hb=>⟨S.off b (.inr (.inr hb)),by rw[S.own];exact List.not_mem_nil⟩
  refine k8 (wpAny_mono ((hI _ hRL.hand).stop S.I (hJg _ σ.g _ _ j) hW) (λr s1 qz1=>?_) λ_ _ f=>f)
  obtain⟨er,I1,x1⟩:=qz1
  subst er
  refine seg_again rfl ?_
  show Seg X.M A _ _ _ _ _ (leafOf (.ok .next)) _ _
  refine seg_leaf (.ok .next) ?_
  rw[hk']
  have F1:=S.F.extW x1 hnl noc
  have hno:∀b,GW env a a a b→¬(b=e∨b=it):=λb hb h=>by
   rcases hb with rfl|rfl|rfl|rfl
   ·exact hnl h
   ·exact h.elim hae hai
   ·exact h.elim hae hai
   ·exact h.elim hae hai
  exact after esc p kk ch s₀ σ s1 hfl (S.move I1 x1 hWx S.own F1 (λb h=>by
   rcases h with h|h|h|h
   ·exact .inl h
   ·exact .inr (.inl h)
   ·exact .inr (.inl h)
   ·exact .inr (.inl h)) (λb h1 h2=>absurd h2 (hno b h1)) λb h1 h2=>absurd h2 (hno b h1)) htl hk
 | cons q r ih=>
  obtain⟨i,c⟩:=q
  intro esc p kk ch s₀ σ s hfl S j htl hk k' p' hk'
  have hRL:=nx (n:=8) (tgt:=tgt) (it:=.ref e) (fbody:=(tA t1 t2 es1 es2 kt1 kt2 tp1 yp1 sp1 tp2 yp2 sp2 pp1 pp2 setF setT)) (k:=k') (p:=p') (body:=body) (env:=env) hr
  generalize hfs:[Frame.ret k' none false [] (.func body env) p' []]=fs at hRL⊢
  have hW:∀b,(b=e∨b=it)→σ.g.get? b=none∧b∉σ.own:=λb hb=>⟨S.off b (.inr (.inr hb)),by rw[S.own];exact List.not_mem_nil⟩
  refine k8 (wpAny_mono ((hI _ hRL.hand).step S.I (hJg _ σ.g _ _ j) hW) (λr1 s1 qz1=>?_) λ_ _ f=>f)
  obtain⟨v1,er,hgo⟩:=qz1
  subst er
  refine wpAny_mono hgo (λ_ s2 qz1=>?_) λ_ _ f=>f
  obtain⟨g',I2,x2,w2,r2,j2⟩:=qz1
  have F2:Frm ft env _ ⟨g',σ.own,σ.sto⟩ s2.heap:=S.F.extW x2 hnl noc
  refine wpAny_mono (hT _ hRL [.val (.str x),.val (.int p),.val (.bool esc),ch] ⟨g',σ.own,σ.sto⟩ s2 _ v1 [.val (.str x),.val (.int i),.val (.bool esc),.val (.str ⟨#[c]⟩)] I2 F2 r2 rfl) (λ_ s3 qz1 H=>?_) λ_ _ f=>f
  obtain⟨I3,x3,F3⟩:=qz1
  have S2:=S.move I2 x2 hWx S.own F2 (λ_ h=>h) (λb _ h=>(hI _ hRL.hand).there j2 b h) (λb _ h=>w2 b h)
  have S3:=S2.step hl I3 x3 S.own F3
  have frJ:∀{g:Heap} {ds:List D} {u u':Shared},J g ds u→Le X.g0 u.heap→Le X.g0 u'.heap→(∀b o,(b=e∨b=it)→u.heap.get? b=some o→u'.heap.get? b=some o)→J X.g0 ds u':=λj h1 h2 hk=>(hI _ hRL.hand).frame (hJg _ X.g0 _ _ j) (.refl _) h1 h2 hk λ_ _ f=>f.elim
  have j3:J X.g0 (fT r) s3:=frJ j2 (I2.top.base.trans I2.sub) (I3.top.base.trans I3.sub) λb o hb eb=>x3.keep b o eb (by rw[S.own];exact List.not_mem_nil) λhf=>offL _ hb hf
  refine seg_execs_cons (rt ((hb1 _ hRL).use S3.I S3.F (b:=esc) (c':=σ.sto) rfl λσ4 s4 q4 I4 x4 F4=>?_))
  have S4:=S3.step hl I4 x4.up (eZ I4 (q4.trans S.sto)) F4
  have j4:J X.g0 (fT r) s4:=frJ j3 (I3.top.base.trans I3.sub) (I4.top.base.trans I4.sub) λb o _ eb=>x4.keep b o eb (by rw[S3.own];exact List.not_mem_nil) λf=>f
  have hfl4:∀sl∈([.val (.str x),.val (.int i),.val (.bool esc),.val (.str ⟨#[c]⟩)]:List Slot),jf sl=true:=by simp[jf]
  have hsp:splitAtGen fs=none:=by rw[←hfs];rfl
  have hgd:fs.any Frame.guarded=false:=by rw[←hfs];rfl
  cases esc with
  | true=>
   rw[if_pos rfl]
   have htl':bV false r=tl:=htl
   have hd:=i7 (L:=L) (kk:=kk) (d:=.tup [.int i,.str ⟨#[92,c]⟩]) (r:=bA false r i) hk
   refine seg_execs_cons (j0 (m:=(bA false r i).length) (v:=GW env a e it) (JP:=λs''=>J X.g0 (fT r) s'') (ds:=[.int i,.str ⟨#[92,c]⟩]) (by rw[lr];exact S4) (λb h=>oT h) oe haL hl hfl4 (he1 _ hRL) rfl (by simp) ?_ hd.1 hsp rfl hgd hco ?_ λs5 S5 j5=>?_)
   ·exact λg g2 vs r=>nF r
   ·exact λs5 I5 hk5=>frJ j4 (I4.top.base.trans I4.sub) (I5.top.base.trans I5.sub) λb o hb eb=>hk5 b o (by rw[←htl',t8];exact .inr (.inr hb)) eb
   ·rw[←htl',t8]at S5
    refine seg_execs_cons (seg_wrap (up (wpAny_mono (hsF _ hRL _ X.base s5 .next [.val (.str x),.val (.int i),.val (.bool false),.val (.str ⟨#[c]⟩)] [] S5.I S5.F rfl) (λfw s6 qz1=>?_) λ_ _ f=>f)))
    obtain⟨σ6,q6,I6,x6,F6,r6⟩:=qz1
    cases fw<;>cases r6
    have S6:=S5.step hl I6 x6 (eZ I6 q6) F6
    have j6:J X.g0 (fT r) s6:=frJ j5 (S5.I.top.base.trans S5.I.sub) (I6.top.base.trans I6.sub) λb o hb eb=>x6.keep b o eb List.not_mem_nil λhf=>offL _ hb hf
    refine seg_execs_nil (seg_execs_nil (seg_again rfl ?_))
    rw[←hfs]
    exact ih false i (kk+1) _ s5 σ6 s6 rfl S6 j6 htl' hd.2 k' p' hk'
  | false=>
   rw[if_neg Bool.false_ne_true]
   have hdec:∀σ',aD .Eq (aa 3) (aZ bsl) [.val (.str x),.val (.int i),.val (.bool false),.val (.str ⟨#[c]⟩)] σ'=some (decide ((⟨#[c]⟩:Str)=bsl),σ'):=λ_=>rfl
   refine seg_execs_cons (rt ((hb2 _ hRL).use S4.I S4.F (b:=decide ((⟨#[c]⟩:Str)=bsl)) (c':=σ4.sto) (hdec _) λσ5 s5 q5 I5 x5 F5=>?_))
   have S5:=S4.step hl I5 x5.up (eZ I5 (q5.trans S4.sto)) F5
   have j5:J X.g0 (fT r) s5:=frJ j4 (I4.top.base.trans I4.sub) (I5.top.base.trans I5.sub) λb o _ eb=>x5.keep b o eb (by rw[S4.own];exact List.not_mem_nil) λf=>f
   by_cases hc:c=92
   ·subst hc
    rw[if_pos (show decide ((⟨#[92]⟩:Str)=bsl)=true from decide_eq_true rfl)]
    have htl':bV true r=tl:=htl
    have hg:bA false ((i,92)::r) p=bA true r i:=rfl
    rw[hg]at hk⊢
    refine seg_execs_cons (seg_wrap (up (wpAny_mono (hsT _ hRL _ σ5 s5 .next [.val (.str x),.val (.int i),.val (.bool true),.val (.str ⟨#[92]⟩)] σ5.sto S5.I S5.F rfl) (λfw s6 qz1=>?_) λ_ _ f=>f)))
    obtain⟨σ6,q6,I6,x6,F6,r6⟩:=qz1
    cases fw<;>cases r6
    have S6:=S5.step hl I6 x6 (eZ I6 (q6.trans S5.sto)) F6
    have j6:J X.g0 (fT r) s6:=frJ j5 (I5.top.base.trans I5.sub) (I6.top.base.trans I6.sub) λb o hb eb=>x6.keep b o eb (by rw[S5.own];exact List.not_mem_nil) λhf=>offL _ hb hf
    refine seg_execs_nil (seg_execs_nil (seg_again rfl ?_))
    rw[←hfs]
    exact ih true i kk _ s₀ σ6 s6 rfl S6 j6 htl' hk k' p' hk'
   ·have hcb:¬(⟨#[c]⟩:Str)=bsl:=λh=>hc (by
     have:(#[c]:Array Nat)=#[92]:=congrArg Str.cps h
     simpa using this)
    rw[if_neg (by simpa using hcb)]
    have htl':bV false r=tl:=by
     have:bV (c==92) r=tl:=htl
     rwa [show (c==92)=false by simpa using hc]at this
    have hg:bA false ((i,c)::r) p=.tup [.int i,.str ⟨#[c]⟩]::bA false r i:=by
     show (if c=92 then _ else _)=_
     rw[if_neg hc]
    rw[hg]at hk⊢
    have hd:=i7 (L:=L) (kk:=kk) (d:=.tup [.int i,.str ⟨#[c]⟩]) (r:=bA false r i) hk
    refine seg_execs_cons (j0 (m:=(bA false r i).length) (v:=GW env a e it) (JP:=λs''=>J X.g0 (fT r) s'') (ds:=[.int i,.str ⟨#[c]⟩]) (by rw[lr];exact S5) (λb h=>oT h) oe haL hl hfl4 (he2 _ hRL) rfl (by simp) ?_ hd.1 hsp rfl hgd hco ?_ λs6 S6 j6=>?_)
    ·exact λg g2 vs r=>nF r
    ·exact λs6 I6 hk6=>frJ j5 (I5.top.base.trans I5.sub) (I6.top.base.trans I6.sub) λb o hb eb=>hk6 b o (by rw[←htl',t8];exact .inr (.inr hb)) eb
    ·rw[←htl',t8]at S6
     refine seg_execs_nil (seg_execs_nil (seg_again rfl ?_))
     rw[←hfs]
     exact ih false i (kk+1) _ s6 X.base s6 rfl S6 j6 htl' hd.2 k' p' hk'
end
end
end Mine
namespace Mine
section
variable{X:Cx}{A:Around}{ft:FT}{env:Env}{s:Shared}{gi:Nat}{a e it:Addr}{s₀:Shared}{σ σ':Sg}{s':Shared}{Γ Γ':List Slot}
theorem vn{L:List D}{body:List Stmt}{t3:Expr}{es3:List Expr}{kt3:Nat}{tp3 yp3 sp3 pp3:Pos}{x:Str}{tl:Bool}{Hf:Value→Sem PySem.Fin}(hr:Room A 9)(hl:∀p∈ft.nt,p.2=VK.l)(haL:env.locals≠a)(hco:env.scope.isCoroutine=false)
  (hb:∀A,Room A 8→SoundB X A ft env t3 (cV (aa 2))) (he:∀A,Room A 8→SoundL X A ft env tp3 es3 (ag (aa 1) (ag (aZ bsl) aw)))
  (esc:Bool) (p kk:Nat) (ch:Slot) (s₀:Shared) (σ:Sg) (s:Shared) (hfl:jf ch=true) (S:GS X ft env gi (λb=>GW env a e it b∧b≠a) (GW env a a a) s₀ σ s [.val (.str x),.val (.int p),.val (.bool esc),ch]) (htl:esc=tl) (hk:bA esc [] p=L.drop kk) :
  Seg X.M A (GR X gi a (fj env a e it tl)) (GY X gi a L (fj env a e it tl)) (bA esc [] p).length s₀ (.func body env) ((execs [.If t3 [.Expr (.Yield (some (.Tuple es3 kt3 tp3)) yp3) sp3] [] pp3] env).wrap (λf=>.pure (.done (.ret (match f with|.ret v=>v|_=>.none)))) Hf id id) [] s:=by
 have hRF:=nN (body:=body) (env:=env) (n:=8) hr
 refine seg_execs_cons (rt ((hb _ hRF).use S.I S.F (b:=esc) (c':=σ.sto) rfl λσ4 s4 q4 I4 x4 F4=>?_))
 have S4:=S.step hl I4 x4.up (eZ I4 (q4.trans S.sto)) F4
 cases esc with
 | true=>
  rw[if_pos rfl]
  subst htl
  have hg:fj env a e it true 0=GW env a a a:=rfl
  have hd:=i7 (L:=L) (kk:=kk) (d:=.tup [.int p,.str bsl]) (r:=[]) hk
  refine seg_execs_cons (j0 (m:=0) (v:=GW env a a a) (JP:=λ_=>True) (ds:=[.int p,.str bsl]) (by rw[lr];exact S4) (λb h=>by rw[hg]at h;exact h) oe haL hl (by intro sl h;simp only[List.mem_cons,List.not_mem_nil,or_false]at h;rcases h with rfl|rfl|rfl|rfl<;>first|rfl|exact hfl) (he _ hRF) rfl (by simp) ?_ hd.1 rfl rfl rfl hco (λ_ _ _=>trivial) λs5 S5 _=>?_)
  ·rintro g g2 vs (_|⟨r1,_|⟨r2,_|_⟩⟩)
   cases r1;cases r2
   exact .cons (.int _ _) (.cons (.str _ _) .nil)
  ·exact seg_execs_nil (seg_execs_nil (seg_end (.ok (.ret .none)) ⟨rfl,rfl,X.base,S5.I,S5.x⟩))
 | false=>
  rw[if_neg Bool.false_ne_true]
  subst htl
  exact seg_execs_nil (seg_execs_nil (seg_end (.ok (.ret .none)) ⟨rfl,rfl,σ4,S4.I,S4.x⟩))
theorem pk{M:Model}{E:Value→Shared→Prop}{i:Nat}{x:Str}{sl:Slot}{v:Value}{Q:Unit→Shared→Prop}(I:X.Inv σ s)(F:Frm ft env Γ σ s.heap)(hi:ft.nt[i]?=some (x,.l))(hv:RelS σ v sl)
  (h:∀s',s'.heap.objs.size=s.heap.objs.size→X.Inv σ s'→Ext (FW ft env) NoG σ s σ s'→Frm ft env (Γ.set i sl) σ s'.heap→Q () s'):wpAny M A (storeName env x v) Q E s:=by
 have hm:=F.ok.kinds _ (List.mem_of_getElem? hi)
 obtain⟨m,hn,hmv⟩:=F.loc
 refine wpAny_storeName_local (jv hm) hn (λh' hn' hs=>?_) (by rw[F.ok.kind];rfl)
 have keep:∀a o,s.heap.get? a=some o→¬(a=env.locals)→h'.get? a=some o:=λa o e ha=>(hs.2 a ha).trans e
 have offc:∀{j:Nat} {y:Str} {k:VK} {c:Addr},ft.nt[j]?=some (y,k)→k≠.l→env.cells.lookup y=some c→c≠env.locals:=by
  rintro j y k c e hk' hc rfl
  obtain⟨c',hc',ov,⟨o,ho',hd⟩,_⟩:=F.cel j y k e hk'
  rw[hc]at hc';cases hc'
  obtain⟨o2,es,ep,ho2,hd2,_⟩:=hn
  rw[ho']at ho2;cases ho2
  rw[hd]at hd2;cases hd2
 refine h _ hs.1 (Mine.Inv.heap (W:=λa=>a=env.locals) I keep λa e=>e▸⟨F.offL.2,F.offL.1⟩) (Ext.heap λa o e hw=>keep a o e λq=>hw (.inl q))
  ⟨F.ok,by rw[List.length_set];exact F.len,⟨_,hn',λj y sl' e1 e2 e3=>?_⟩,λj y k e hk'=>?_,F.offL,F.offC,F.apart⟩
 ·rcases g8 e2 with⟨rfl,rfl⟩|⟨hne,e2⟩
  ·rw[hi]at e1;cases e1
   exact⟨v,if_pos rfl,hv⟩
  ·obtain⟨v',hv',r⟩:=hmv j y sl' e1 e2 e3
   refine⟨v',?_,r⟩
   rw[if_neg];exact hv'
   rintro rfl;exact hne (rX F.ok hi e1)
 ·obtain⟨c,hc,ov,hcell,hv'⟩:=F.cel j y k e hk'
  refine⟨c,hc,ov,hcell.sameBut hs (offc e hk' hc),λsl' e2 e3=>?_⟩
  rcases g8 e2 with⟨rfl,rfl⟩|⟨hne,e2⟩
  ·rw[hi]at e;cases e;exact absurd rfl hk'
  ·exact hv' sl' e2 e3
noncomputable def BS(e it:Addr)(x:Str)(t:Tok):Heap→List D→Shared→Prop:=λ_ ds s=>∃(i:Nat) (old:Value),IsEnum s.heap e it i old∧s.heap.IsStrIter it (strIterType x) x t i∧i≤x.cps.size∧True∧
 ds=(List.range (x.cps.size - i)).map λ(k:Nat)=>D.tup [.int ((i+k:Nat):Int),(x.cps.toList.map λc=>D.str ⟨#[c]⟩).getD (i+k) .none]
theorem zA{elts:List Expr}{x1:Nat}{tp:Pos}{x:Str}{t:Tok}(hh:A.handled=none)(hne:e≠it):IterAt X A (.Tuple elts x1 tp) (.ref e) (λb=>b=e∨b=it) NoG (BS e it x t):=by
 have DD:Draws X.prog X.w A.in1 it [it] x.cps.size (λi v=>∃c u,x.cps[i]?=some c∧v=.str ⟨#[c]⟩ u) (λi h=>h.IsStrIter it (strIterType x) x t i):=by
  unfold strIterType
  split
  ·exact Draws.strAscii (A:=A.in1) hh _ x t
  ·exact Draws.strWide (A:=A.in1) hh _ x t
 refine mh e it [it] x.cps.size _ _ (λ_=>True) (λk=>(x.cps.toList.map λc=>D.str ⟨#[c]⟩).getD k .none) DD hne ?_ ?_ ?_ ?_
 ·simp only[List.mem_cons,List.not_mem_nil,or_false]
  exact hne
 ·rintro g i v _ ⟨c,u,hc,rfl⟩
  have:(x.cps.toList.map λc=>D.str ⟨#[c]⟩)[i]?=some (D.str ⟨#[c]⟩):=by simp[hc]
  simp only[List.getD,this,Option.getD_some]
  exact .str _ _
 ·exact λ_ _ _ _=>trivial
 ·rintro g _ b hb
  simp only[List.mem_cons,List.not_mem_nil,or_false]at hb
  exact .inl hb
end
end Mine
namespace Mine
section
variable{X:Cx}{A:Around}{ft:FT}{env:Env}{s:Shared}{gi:Nat}{a e it:Addr}{s₀:Shared}{σ σ':Sg}{s':Shared}{Γ Γ':List Slot}
theorem vN{xaddr xpos xesc:Str}{elts es1 es2 es3:List Expr}{xk kt1 kt2 kt3 k1 k2:Nat}{p1 p2 p3 p4 p5 p6 q1 q2 q3 tgp tp1 yp1 sp1 tp2 yp2 sp2 tp3 yp3 sp3 pp1 pp2 pp3 fp:Pos}{t1 t2 t3:Expr}{setF setT:Stmt}{x:Str}
  (hr:Room A 9) (hl:∀p∈ft.nt,p.2=VK.l) (hlen:ft.nt.length=4) (h0:ft.nt[0]?=some (xaddr,.l)) (h1:ft.nt[1]?=some (xpos,.l)) (h2:ft.nt[2]?=some (xesc,.l)) (hco:env.scope.isCoroutine=false)
  (hx:("enumerate" : Str)∈ft.gt) (hn:X.mg "enumerate" = none) (hb:X.mb "enumerate" = some (.type "enumerate"))
  (hT:∀A,Room A 8→dJ X A ft env (.Tuple elts xk tgp) (.t [1,3])) (hb1:∀A,Room A 8→SoundB X A ft env t1 (cV (aa 2))) (hb2:∀A,Room A 8→SoundB X A ft env t2 (aD .Eq (aa 3) (aZ bsl))) (hb3:∀A,Room A 8→SoundB X A ft env t3 (cV (aa 2)))
  (he1:∀A,Room A 8→SoundL X A ft env tp1 es1 (ag (aa 1) (ag (ao .Add (aZ bsl) (aa 3)) aw))) (he2:∀A,Room A 8→SoundL X A ft env tp2 es2 (ag (aa 1) (ag (aa 3) aw))) (he3:∀A,Room A 8→SoundL X A ft env tp3 es3 (ag (aa 1) (ag (aZ bsl) aw)))
  (hsF:∀A,Room A 8→aM X A ft env setF (bf 2 (b7 false))) (hsT:∀A,Room A 8→aM X A ft env setT (bf 2 (b7 true)))
  (I:X.Inv X.base s₀) (F:Frm ft env [.val (.str x),.un,.un,.un] X.base s₀.heap) (run:s₀.gens[gi]?=some .running) (ha:∃o,s₀.heap.get? a=some o) (hag:X.g0.get? a=none) (haL:a≠env.locals) :
  Seg X.M A (GR X gi a (fj env a (s₀.heap.objs.size+1) s₀.heap.objs.size (bV false (dp x)))) (GY X gi a (escaped x) (fj env a (s₀.heap.objs.size+1) s₀.heap.objs.size (bV false (dp x)))) (escaped x).length s₀
   (.func [.Assign [.Name xpos p1] (.Constant (.int 0) k1 p2) p3,.Assign [.Name xesc p4] (.Constant (.bool false) k2 p5) p6,.For (.Tuple elts xk tgp) (.Call (.Name "enumerate" q1) [.Name xaddr q2] [] q3) [.If t1 [.Expr (.Yield (some (.Tuple es1 kt1 tp1)) yp1) sp1,setF] [.If t2 [setT] [.Expr (.Yield (some (.Tuple es2 kt2 tp2)) yp2) sp2] pp2] pp1] [] fp,
    .If t3 [.Expr (.Yield (some (.Tuple es3 kt3 tp3)) yp3) sp3] [] pp3] env)
   (X.M.den (.func [.Assign [.Name xpos p1] (.Constant (.int 0) k1 p2) p3,.Assign [.Name xesc p4] (.Constant (.bool false) k2 p5) p6,.For (.Tuple elts xk tgp) (.Call (.Name "enumerate" q1) [.Name xaddr q2] [] q3) [.If t1 [.Expr (.Yield (some (.Tuple es1 kt1 tp1)) yp1) sp1,setF] [.If t2 [setT] [.Expr (.Yield (some (.Tuple es2 kt2 tp2)) yp2) sp2] pp2] pp1] [] fp,
    .If t3 [.Expr (.Yield (some (.Tuple es3 kt3 tp3)) yp3) sp3] [] pp3] env)) [] s₀:=by
 generalize hbody:([.Assign [.Name xpos p1] (.Constant (.int 0) k1 p2) p3,.Assign [.Name xesc p4] (.Constant (.bool false) k2 p5) p6,.For (.Tuple elts xk tgp) (.Call (.Name "enumerate" q1) [.Name xaddr q2] [] q3) [.If t1 [.Expr (.Yield (some (.Tuple es1 kt1 tp1)) yp1) sp1,setF] [.If t2 [setT] [.Expr (.Yield (some (.Tuple es2 kt2 tp2)) yp2) sp2] pp2] pp1] [] fp,
    .If t3 [.Expr (.Yield (some (.Tuple es3 kt3 tp3)) yp3) sp3] [] pp3]:List Stmt)=body
 have hRF:=nN (body:=body) (env:=env) (n:=8) hr
 refine seg_func ?_
 have hex:=congrArg (λb=>execs b env) hbody
 rw[←hex]
 have nn0:s₀.heap.get? s₀.heap.objs.size=none:=get?_push_none
 have nn1:s₀.heap.get? (s₀.heap.objs.size+1)=none:=by
  cases q:s₀.heap.get? (s₀.heap.objs.size+1)with
  | none=>rfl
  | some o=>exact absurd (Nat.lt_of_succ_lt (Heap.lt_size q)) (Nat.lt_irrefl _)
 refine seg_execs_cons (seg_wrap (up (wpAny_Assign_Name (wpAny_Constant_int (pk (Γ:=[.val (.str x),.un,.un,.un]) (sl:=.val (.int 0)) I.toks F h1 (.int _ _) λs1 sz1 I1 x1 F1=>?_)) rfl)))
 refine seg_execs_cons (seg_wrap (up (wpAny_Assign_Name (wpAny_Constant_bool (pk (sl:=.val (.bool false)) I1 F1 h2 (.bool _) λs2 sz2 I2 x2 F2=>?_)) rfl)))
 have sz:s2.heap.objs.size=s₀.heap.objs.size:=sz2.trans sz1
 have x02:Ext (FW ft env) NoG X.base s₀ X.base s2:=(show Ext (FW ft env) NoG X.base s₀ X.base s1 from⟨x1.le,x1.own,x1.fresh,x1.keep,x1.gens,x1.os⟩).trans I1 x2
 refine seg_execs_cons (Ak (λ_=>rfl) (wpAny_Call_NameR (eval_Name (F2.ok.odd _ (List.mem_append_right _ hx)).1 (bY I2 F2 hx hn hb ?_))))
 refine callWith_type1 (wpAny_items_cons (eval_Name (cD F2 h0) (cO F2 h0 (sl:=.val (.str x)) rfl (by intro q;cases q) λv r=>?_)) rfl) rfl rfl
 cases r
 rename_i t
 refine wpAny_items_nil (call_enumerate_str λh' he hit _ keep=>wpAny_pyIter_enum he λp' k' hk'=>?_)
 rw[sz]at he hit⊢
 have I3:X.Inv X.base { s2 with heap:=h',toks:=s2.toks }:=Mine.Inv.heap (W:=NoW) I2 (λa o e _=>keep a o e) λ_ f=>f.elim
 have x3:Ext NoW NoG X.base s2 X.base { s2 with heap:=h',toks:=s2.toks }:=Ext.heap λa o e _=>keep a o e
 have F3:=F2.ext x3
 have x03:=x02.trans I2 x3.up
 have hne:(s₀.heap.objs.size+1:Nat)≠s₀.heap.objs.size:=Nat.succ_ne_self _
 obtain⟨oL,eL⟩:=F.thereL
 obtain⟨oa,ea⟩:=ha
 have hL1:(s₀.heap.objs.size+1:Nat)≠env.locals:=λq=>by rw[←q]at eL;rw[nn1]at eL;cases eL
 have hL0:s₀.heap.objs.size≠env.locals:=λq=>by rw[←q]at eL;rw[nn0]at eL;cases eL
 have ha1:a≠(s₀.heap.objs.size+1:Nat):=λq=>by rw[q]at ea;rw[nn1]at ea;cases ea
 have ha0:a≠s₀.heap.objs.size:=λq=>by rw[q]at ea;rw[nn0]at ea;cases ea
 have S3:GS X ft env gi (λb=>GW env a (s₀.heap.objs.size+1) s₀.heap.objs.size b∧b≠a) (GW env a (s₀.heap.objs.size+1) s₀.heap.objs.size) s₀ X.base { s2 with heap:=h',toks:=s2.toks } [.val (.str x),.val (.int 0),.val (.bool false),.un]:=by
  refine⟨I3,rfl,x03.weaken (λb h=>⟨.inl (vr hl h),λq=>haL (q▸vr hl h)⟩) λ_ h=>h.elim,F3,x03.gens _ _ run λh=>h,?_,?_,⟨.inl rfl,haL.symm⟩⟩
  ·rintro b (rfl|rfl|rfl|rfl)
   ·exact F3.thereL
   ·exact⟨oa,x03.keep _ _ ea List.not_mem_nil λh=>haL (vr hl h)⟩
   ·exact⟨_,he⟩
   ·obtain⟨o,ho,_⟩:=hit;exact⟨o,ho⟩
  ·rintro b (rfl|rfl|rfl|rfl)
   ·exact F3.offL.1
   ·exact hag
   ·exact(I.notIn nn1).2
   ·exact(I.notIn nn0).2
 have j3:BS (s₀.heap.objs.size+1) s₀.heap.objs.size x t X.g0 (fT (dp x)) { s2 with heap:=h',toks:=s2.toks }:=by
  refine⟨0,.none,he,hit,Nat.zero_le _,trivial,?_⟩
  rw[oP]
  unfold hV
  rw[List.length_map,Array.length_toList,Nat.sub_zero]
  apply List.map_congr_left
  intro k _
  rw[Nat.zero_add]
 refine xi (L:=escaped x) (body:=body) (J:=BS (s₀.heap.objs.size+1) s₀.heap.objs.size x t) (x:=x) hr hl hL1 hL0 ha1 ha0 haL.symm hco (λA hh=>zA hh hne) (λg g' ds s j=>j) hT hb1 hb2 he1 he2 hsF hsT ?_ (dp x) false 0 0 .un s₀ X.base _ rfl S3 j3 rfl rfl k' p' hk'
 intro esc p kk ch u₀ τ u hfl S htl hk
 exact vn hr hl haL.symm hco hb3 he3 esc p kk ch u₀ τ u hfl S htl hk
end
end Mine
namespace Mine
section
variable{X:Cx}{A:Around}{ft:FT}{env:Env}{s:Shared}{gi:Nat}{a e it:Addr}{s₀:Shared}{σ σ':Sg}{s':Shared}{Γ Γ':List Slot}
theorem Inv.shift{W:Addr→Prop}(I:X.Inv σ s)(k:∀b o,s.heap.get? b=some o→¬W b→s'.heap.get? b=some o)(hw:∀b,W b→σ.g.get? b=none∧b∉σ.own)(hb:AllBare s'.gens)(ht:0<s'.toks):X.Inv σ s':=by
 have I':=Mine.Inv.heap (W:=W) (h':=s'.heap) (tk:=s.toks) I k λb h=>⟨(hw b h).2,(hw b h).1⟩
 exact⟨I'.sub,I'.len,I'.nodup,I'.cells,I'.off,I'.top,hb,ht⟩
theorem yK{gens:Array GenState}{g:Nat}{gs:GenState}(h:AllBare gens)(hb:gs.bare=true):AllBare (gens.setIfInBounds g gs):=λy hy=>by
 rcases Array.mem_or_eq_of_mem_setIfInBounds hy with q|q
 ·exact h y q
 ·exact q▸hb
theorem sU{G W:Addr→Prop}{gs:GenState}{h':Heap}{u:Shared}(I:X.Inv σ s)(hW:∀b,W b→σ.g.get? b=none∧b∉σ.own)(hG:∀b,G b→W b∨s.heap.get? b=none)(I1:X.Inv σ' u)(x:Ext (λb=>G b∧b≠a) (·=gi) X.base (s.setGen gi .running) σ' u)(hb:gs.bare=true)
  (hk:∀b o,u.heap.get? b=some o→h'.get? b=some o):X.Inv σ { u.setGen gi gs with heap:=h' }∧Ext W (·=gi) σ s σ { u.setGen gi gs with heap:=h' }:=by
 have keep:∀b o,s.heap.get? b=some o→¬W b→h'.get? b=some o:=λb o eb hw=>hk b o (x.keep b o eb List.not_mem_nil λh=>(hG b h.1).elim hw λq=>by rw[q]at eb;cases eb)
 refine⟨Inv.shift (s':={ u.setGen gi gs with heap:=h' }) I keep hW (yK I1.bare hb) I1.tk,⟨.refl _,⟨[],by simp,by simp⟩,λb o e1 e2=>(by rw[e2]at e1;cases e1),λb o e1 _ hw=>keep b o e1 hw,λi y ei hi=>?_,x.os⟩⟩
 show (u.gens.setIfInBounds gi gs)[i]?=some y
 have hne:gi≠i:=λh=>hi h.symm
 rw[Array.getElem?_setIfInBounds_ne hne]
 refine x.gens i y ?_ hi
 show (s.gens.setIfInBounds gi .running)[i]?=some y
 rw[Array.getElem?_setIfInBounds_ne hne]
 exact ei
noncomputable def GJ(X:Cx)(A:Around)(ft:FT)(env:Env)(gi:Nat)(a:Addr)(body:List Stmt)(x:Str)(W:Addr→Prop)(_g:Heap)(ds:List D)(s:Shared):Prop:=
 s.heap.IsGen a gi∧(∀b,W b→∃o,s.heap.get? b=some o)∧W a∧W env.locals∧∃gs,s.gens[gi]?=some gs∧
  ((gs=.fresh (.func body env)∧ds=escaped x∧W=(λb=>b=env.locals∨b=a)∧∀s'',X.Inv X.base s''→(∀o,s.heap.get? env.locals=some o→s''.heap.get? env.locals=some o)→Frm ft env [.val (.str x),.un,.un,.un] X.base s''.heap)∨
   (∃e it kk,ds=(escaped x).drop kk∧W=fj env a e it (bV false (dp x)) ds.length∧∀s'',X.Inv X.base s''→(∀b o,W b→s.heap.get? b=some o→s''.heap.get? b=some o)→s''.gens[gi]?=some .running→
    gs.Goes X.M A.in1 (GR X gi a (fj env a e it (bV false (dp x)))) (GY X gi a (escaped x) (fj env a e it (bV false (dp x)))) ds.length (.send .none) s''))
theorem D8{tl:Bool}{n:Nat}:fj env a e it tl n a:=by
 unfold fj;split<;>exact .inr (.inl rfl)
theorem mu{g:Nat}{gs:GenState}(h:s.gens[g]?=some gs):(s.setGen g .running).gens[g]?=some .running:=by
 show (s.gens.setIfInBounds g .running)[g]?=_
 obtain⟨hl,_⟩:=Array.getElem?_eq_some_iff.mp h
 rw[Array.getElem?_setIfInBounds_self_of_lt hl]
noncomputable abbrev gwx(env:Env)(a:Addr)(x:Str)(e it:Addr):Nat→Addr→Prop:=fj env a e it (bV false (dp x))
structure Awk (X:Cx) (A:Around) (env:Env) (gi:Nat) (a:Addr) (x:Str) (W:Addr→Prop) (ds:List D) (s:Shared) (gs:GenState) (e it:Addr):Prop where
 gen:s.heap.IsGen a gi
 get:s.gens[gi]?=some gs
 sub:∀b,gwx env a x e it ds.length b→W b∨s.heap.get? b=none
 tl:∃kk,ds=(escaped x).drop kk
 goes:gs.Goes X.M A.in1 (GR X gi a (gwx env a x e it)) (GY X gi a (escaped x) (gwx env a x e it)) ds.length (.send .none) (s.setGen gi .running)
noncomputable abbrev y9(X:Cx)(A:Around)(ft:FT)(env:Env)(gi:Nat)(a:Addr)(body:List Stmt)(x:Str):Prop:=∀s₀,X.Inv X.base s₀→Frm ft env [.val (.str x),.un,.un,.un] X.base s₀.heap→s₀.gens[gi]?=some .running→(∃o,s₀.heap.get? a=some o)→X.g0.get? a=none→
   Seg X.M A.in1 (GR X gi a (gwx env a x (s₀.heap.objs.size+1) s₀.heap.objs.size)) (GY X gi a (escaped x) (gwx env a x (s₀.heap.objs.size+1) s₀.heap.objs.size)) (escaped x).length s₀ (.func body env) (X.M.den (.func body env)) [] s₀
theorem qe{body:List Stmt}{x:Str}{W:Addr→Prop}{g:Heap}{ds:List D}(ht:TopOk ⟨X.mg,X.mb,X.g0⟩ X.g0)(start:y9 X A ft env gi a body x)(I:X.Inv σ s)(hW:∀b,W b→σ.g.get? b=none∧b∉σ.own)(j:GJ X A ft env gi a body x W g ds s) :
  ∃gs e it,Awk X A env gi a x W ds s gs e it:=by
 obtain⟨hg,hth,hWa,hWl,gs,hgs,hd⟩:=j
 have IB:X.Inv X.base (s.setGen gi .running):=yi (pV I ht) rfl
 rcases hd with⟨h1,h2,h3,h4⟩|⟨e,it,kk,h1,h2,h3⟩
 ·refine⟨gs,s.heap.objs.size+1,s.heap.objs.size,hg,hgs,λb hb=>?_,⟨0,h2⟩,?_⟩
  ·rw[h3]
   rcases oT hb with h|h|h|h
   ·exact .inl (.inl h)
   ·exact .inl (.inr h)
   ·exact .inr (h▸(by cases q:s.heap.get? (s.heap.objs.size+1)with|none=>rfl|some o=>exact absurd (Nat.lt_of_succ_lt (Heap.lt_size q)) (Nat.lt_irrefl _)))
   ·exact .inr (h▸get?_push_none)
  ·subst h1
   have st:=start (s.setGen gi .running) IB (h4 _ IB λo q=>q) (mu hgs) (hth a hWa) (by
    cases q:X.g0.get? a with
    | none=>rfl
    | some o=>exact nE ((hW a hWa).1.symm.trans (I.top.base _ _ q)))
   rw[show (escaped x).length=ds.length from by rw[h2]]at st
   exact⟨rfl,st⟩
 ·exact⟨gs,e,it,hg,hgs,λb hb=>.inl (by rw[h2];exact hb),⟨kk,h1⟩,h3 _ IB (λ_ _ _ q=>q) (mu hgs)⟩
theorem xr{tgt:Expr}{body:List Stmt}{x:Str}{W:Addr→Prop}{d:D}{ds:List D}{gs:GenState}(hr:Room A 9)(I:X.Inv σ s)(hW:∀b,W b→σ.g.get? b=none∧b∉σ.own)(K:Awk X A env gi a x W (d::ds) s gs e it){R:Option Value→Shared→Prop}
  (hR:∀v s1 g' W',wpAny X.M A (letOwnedTupleGo tgt (.ref a) v) (λ_ s'=>s'=s1) NoE s1→(∀b,W' b→W b∨s.heap.get? b=none)→X.Inv ⟨g',σ.own,σ.sto⟩ s1→Ext W (·=gi) σ s ⟨g',σ.own,σ.sto⟩ s1→(∀b,W' b→g'.get? b=none)→Rel g' v d→GJ X A ft env gi a body x W' g' ds s1→R (some v) s1) :
  wpAny X.M A (pyNext (.ref a)) R NoE s:=by
 obtain⟨hg,hgs,hG,⟨kk,hkk⟩,hgo⟩:=K
 refine ml (P:=GP X gi a (gwx env a x e it)) hr.hand (I.top.nolim.keeps I.sub) (by have:=hr.depth;unfold recursionLimit;(first|lia|omega)) hg hgs hgo (λv s₁ gs' hbare hY=>?_) (λs₁ hP=>absurd hP.1 (Nat.succ_ne_zero _))
 obtain⟨dd,t,vs,n,σ',hL,ev,I1,x1,ht0,ht1,ht2,hrel,hth',hrun,hkap⟩:=hY
 have hd:=i7 hkk
 have hdd:d=.tup dd:=Option.some.inj (hd.1.symm.trans hL)
 have x1':Ext (λb=>gwx env a x e it (ds.length+1) b∧b≠a) (·=gi) X.base (s.setGen gi .running) σ' s₁:=x1
 obtain⟨I2,x2⟩:=sU (gs:=gs') (h':=s₁.heap) I hW hG I1 x1' hbare λ_ _ q=>q
 have keepA:∀o,s.heap.get? a=some o→s₁.heap.get? a=some o:=λo eo=>x1'.keep a o eo List.not_mem_nil λh=>h.2 rfl
 have at_:∀{b},W b∨s.heap.get? b=none→σ.g.get? b=none∧b∉σ.own:=λh=>h.elim (hW _) λh=>⟨(I.notIn h).2,(I.notIn h).1⟩
 have htW:W t∨s.heap.get? t=none:=ht0.elim .inr (hG t)
 have htn:=at_ htW
 have up1:∀b,gwx env a x e it ds.length b→W b∨s.heap.get? b=none:=λb hb=>hG b (by show fj _ _ _ _ _ _ _;rw[List.length_cons,lr];exact oT hb)
 refine hR v _ (cN σ.g t (fR (List.toArray vs) n)) (gwx env a x e it ds.length) ?_ up1 (I2.add ht2 htn.1 htn.2) ⟨.put htn.1,⟨[],by simp,by simp⟩,λb o e1 e2=>?_,x2.keep,x2.gens,x2.os⟩ (λb hb=>?_) (by rw[ev,hdd];exact .tup (dQ rfl) (hrel _)) ⟨?_,hth',D8,oe,gs',?_,.inr ⟨e,it,kk+1,hd.2,rfl,λs'' I'' hk2 hrun2=>hkap s'' I'' hk2 hrun2⟩⟩
 ·refine iM (λr b er _=>?_) rfl
  obtain⟨o,nm,qn,ho,hc,_⟩:=hg
  injection er with er
  exact⟨o,er▸keepA o ho,λnme hcn=>by rw[hc]at hcn;injection hcn with hcn;rw[←hcn];decide⟩
 ·by_cases hb:b=t
  ·subst hb
   exact htW.elim (λq=>.inr (.inr q)) .inl
  ·exact nE (e2.symm.trans ((bx hb).symm.trans e1))
 ·rw[bx (show b≠t from λq=>ht1 (by rw[←q];exact hb))]
  exact(at_ (up1 b hb)).1
 ·obtain⟨o,nm,qn,ho,r⟩:=hg
  exact⟨o,nm,qn,keepA o ho,r⟩
 ·show (s₁.gens.setIfInBounds gi gs')[gi]?=_
  rw[Array.getElem?_setIfInBounds_self_of_lt (Array.getElem?_eq_some_iff.mp hrun).1]
theorem zv{tgt:Expr}{body:List Stmt}{x:Str}(ht:TopOk ⟨X.mg,X.mb,X.g0⟩ X.g0)(hr:Room A 9)(haL:a≠env.locals)(start:y9 X A ft env gi a body x):mB X A tgt (.ref a) (·=gi) (GJ X A ft env gi a body x) where
 self:=λh _ k=>wpAny_pyIter_gen h.1 k
 there:=λh=>h.2.1
 frame:=λ{W g g' ds s s'} j _ _ _ hk hgk=>by
  obtain⟨hg,hth,hWa,hWl,gs,hgs,hd⟩:=j
  obtain⟨o,nm,qn,ho,r⟩:=hg
  refine⟨⟨o,nm,qn,hk _ _ hWa ho,r⟩,λb hb=>(hth b hb).elim λo eo=>⟨o,hk _ _ hb eo⟩,hWa,hWl,gs,hgk _ _ rfl hgs,?_⟩
  rcases hd with⟨h1,h2,h3,h4⟩|⟨e,it,kk,h1,h2,h3⟩
  ·exact .inl ⟨h1,h2,h3,λs'' I'' hk2=>h4 s'' I'' λo eo=>hk2 o (hk _ _ hWl eo)⟩
  ·exact .inr ⟨e,it,kk,h1,h2,λs'' I'' hk2 hrun=>h3 s'' I'' (λb o hb eb=>hk2 b o hb (hk b o hb eb)) hrun⟩
 step:=λ{W σ s d ds} I j hW=>by
  obtain⟨gs,e,it,K⟩:=qe ht start I hW j
  exact xr hr I hW K λv s1 g' W' h1 h2 h3 h4 h5 h6 h7=>⟨v,rfl,wpAny_mono h1 (λ_ s' q=>by rw[q];exact⟨g',W',h2,h3,h4,h5,h6,h7⟩) λ_ _ f=>f⟩
 stop:=λ{W σ s} I j hW=>by
  obtain⟨gs,e,it,hg,hgs,hG,_,hgo⟩:=qe ht start I hW j
  refine ml (P:=GP X gi a (gwx env a x e it)) hr.hand (I.top.nolim.keeps I.sub) (by have:=hr.depth;unfold recursionLimit;(first|lia|omega)) hg hgs hgo (λv s₁ gs' hbare hY=>?_) (λs₁ hP h' hk=>?_)
  ·obtain⟨dd,t,vs,n,σ',hL,_,I1,x1,ht0,ht1,ht2,hrel,hth',hrun,hkap⟩:=hY
   exact False.elim (hkap s₁ (pV I1 ht) (λ_ _ _ q=>q) hrun)
  ·obtain⟨_,σ',I1,x1⟩:=hP
   exact⟨rfl,sU (gs:=.finished) (h':=h') I hW hG I1 x1 rfl hk⟩
end
end Mine
namespace Mine
section
variable{X:Cx}{A:Around}{ft ftg:FT}{env:Env}{s:Shared}{σ:Sg}{Γ Γ':List Slot}{d:D}{c':List Cell}{tgt:Expr}
noncomputable def qj(X:Cx)(ft:FT)(sc:Scope)(body:List Stmt):Prop:=
 ∀(env:Env),env.scope=sc→∀(A:Around) (gi:Nat) (a:Addr) (x:Str),Room A 9→a≠env.locals→∀s₀,X.Inv X.base s₀→Frm ft env [.val (.str x),.un,.un,.un] X.base s₀.heap→s₀.gens[gi]?=some .running→(∃o,s₀.heap.get? a=some o)→X.g0.get? a=none→
   Seg X.M A (GR X gi a (fj env a (s₀.heap.objs.size+1) s₀.heap.objs.size (bV false (dp x)))) (GY X gi a (escaped x) (fj env a (s₀.heap.objs.size+1) s₀.heap.objs.size (bV false (dp x)))) (escaped x).length s₀ (.func body env) (X.M.den (.func body env)) [] s₀
noncomputable def pS(p:PE):PL:=λΓ c=>(p Γ c).bind λ(d,c1)=>match d with
 | .str x=>some (escaped x,c1)
 | _=>none
theorem D6{f xaddr:Str}{np pos:Pos}{e:Expr}{af:Addr}{o:Obj}{fd:FuncData}{body:List Stmt}{p:PE}(ht:TopOk ⟨X.mg,X.mb,X.g0⟩ X.g0)(hr:Room A 11)(hx:f∈ft.gt)(hv:X.mg f=some (.ref af))(ho:X.g0.get? af=some o)(hd:o.data=.func fd)(hcd:X.g0.CodeRec fd.code fd.qualname)
  (hb:fd.body=.stmts body) (hco:fd.scope.isCoroutine=false) (hgen:fd.scope.isGenerator=true) (hgl:fd.globals=mainGlobals) (hbl:fd.builtins=builtinsNs) (fit:Fits ftg fd.scope) (hl:∀p∈ftg.nt,p.2=VK.l) (hlen:ftg.nt.length=4) (h0:ftg.nt[0]?=some (xaddr,.l))
  (hbind:∀v:Value,bindArgs fd ⟨[v],[]⟩=pure [(xaddr,v)]) (st:qj X ftg fd.scope body) (h1:SoundE X A ft env e p) (hcdf:∀v,ftg.cd=some v→fd.code=v.1∧fd.qualname++".<locals>." = v.2:=by intro _ h;cases h) (he:autoParam (∀env,starEach [e] env=(false,eval e env)::starEach [] env) aR) :
  ew X A ft env tgt (.Call (.Name f np) [e] [] pos) (pS p):=λΓ σ s ds c' I F h=>by
 (refine bE2 h ?_;(try clear h);intro d c1 e1 h)
 dsimp only at h
 (first|(refine iE h ?_ ?_<;>(clear h;intro _ h))|split at h)
 ·rename_i x
  cases h
  refine wpAny_Call_NameR (eval_Name (F.ok.odd f (List.mem_append_right _ hx)).1 (dy I F hx hv ?_))
  refine callWith_def hd (wpAny_items_cons (h1.use I F e1 λv σ1 s1 q1 I1 x1 F1 r1=>wpAny_items_nil ?_) (he env)) (he env)
  subst q1
  cases r1
  rename_i t
  refine⟨I1.sub _ _ (I1.top.base _ _ ho),wpAny_call (codeAny_call_generator (by have:=hr.depth;unfold recursionLimit;(first|lia|omega)) (I1.sub _ _ (I1.top.base _ _ ho)) hd hco hgen hb ((hcd.keeps I1.top.base).keeps I1.sub) ?_)⟩
  rw[hbind,hgl,hbl]
  refine wpAny_pure (up ?_)
  refine gm (ft:=ftg) (Γ:=[.un,.un,.un,.un]) (Γ':=[.val (.str x),.un,.un,.un]) I1 fit (by simp[hlen]) (λi y k _ _ sl es=>?_) (λi y es=>by have:=hl _ (dh es);cases this) rfl hcdf (.cons h0 (by intro q;cases q) (sl:=.val (.str x)) (.str _ _) .nil) λenv2 s2 he2 I2 x2 F2 w2 l2=>?_
  ·simp only[List.getElem?_cons]at es
   repeat' ((first|(refine iE es ?_ ?_<;>(clear es;intro _ es))|split at es))
   all_goals first|(cases es;rfl)|(simp at es;first|exact es.symm|skip)
  ·refine⟨I2.top.nolim.keeps I2.sub,?_⟩
   show wpAny X.M A (pyIter (.ref s2.heap.objs.size)) _ _ _
   have nn:s2.heap.get? s2.heap.objs.size=none:=get?_push_none
   have back1:∀b,s1.heap.get? b=none→s.heap.get? b=none:=λb eb=>(Ext.back I1 x1 eb).elim id λf=>f.elim
   have back2:∀b,s2.heap.get? b=none→s1.heap.get? b=none:=λb eb=>(Ext.back I2 x2 eb).elim id λf=>f.elim
   generalize hob:({ cls:=.type "generator",data:=.fields #[.int s2.gens.size 0,.str fd.name s2.toks,.str fd.qualname (s2.toks+1)] }:Obj)=ob
   have hfr:ob.isFreed=false:=by rw[←hob];rfl
   have hisg:Heap.IsGen (s2.heap.push ob) s2.heap.objs.size s2.gens.size:=⟨ob,_,_,Heap.get?_push_size _ hfr,by rw[←hob],by rw[←hob],by rw[←hob]⟩
   refine wpAny_pyIter_gen hisg ?_
   have I3:X.Inv σ1 { s2 with gens:=s2.gens.push (.fresh (.func body env2)),toks:=s2.toks+1+1,heap:=s2.heap.push ob }:=
    Inv.shift (W:=NoW) I2 (λb o eb _=>Heap.get?_push_of_some _ eb) (λ_ f=>f.elim) (AllBare.push I2.bare rfl) (by show 0<s2.toks+1+1;(first|lia|omega))
   have x3:Ext NoW NoG σ1 s2 σ1 { s2 with gens:=s2.gens.push (.fresh (.func body env2)),toks:=s2.toks+1+1,heap:=s2.heap.push ob }:=by
    refine⟨.refl _,⟨[],by simp,by simp⟩,λb o e1 e2=>(by rw[e2]at e1;cases e1),λb o eb _ _=>Heap.get?_push_of_some _ eb,λi y ei _=>?_,rfl⟩
    show (s2.gens.push _)[i]?=some y
    obtain⟨hli,hy⟩:=Array.getElem?_eq_some_iff.mp ei
    rw[Array.getElem?_push_lt hli]
    exact congrArg some hy
   have haL:s2.heap.objs.size≠env2.locals:=λq=>by
    obtain⟨o,eo⟩:=F2.thereL
    rw[←q,nn]at eo;cases eo
   refine⟨σ1,λb=>b=env2.locals∨b=s2.heap.objs.size,(·=s2.gens.size),GJ X A ftg env2 s2.gens.size s2.heap.objs.size body x,rfl,I3,x1.trans I1 (x2.trans I2 x3),zv ht (hr.le (by(first|lia|omega))) haL (λs₀ Ib Fb rb hb2 hg2=>st env2 (by rw[he2];rfl) A.in1 _ _ x (Room.in1 (hr.le (by(first|lia|omega)))) haL s₀ Ib Fb rb hb2 hg2),
    ⟨hisg,?_,.inr rfl,.inl rfl,.fresh (.func body env2),?_,.inl ⟨rfl,rfl,rfl,λs'' I'' hk=>pP (F2.ext x3) hl (by simp[jf]) (λo eo=>hk o eo) I2.top.base⟩⟩,?_,?_⟩
   ·rintro b (rfl|rfl)
    ·exact(F2.ext x3).thereL
    ·exact⟨ob,Heap.get?_push_size _ hfr⟩
   ·show (s2.gens.push _)[s2.gens.size]?=_
    rw[Array.getElem?_push_size]
   ·rintro b (rfl|rfl)
    ·exact⟨back1 _ (w2 _ (.inl rfl)),F2.offL.1,F2.offL.2⟩
    ·exact⟨back1 _ (back2 _ nn),(I2.notIn nn).2,(I2.notIn nn).1⟩
   ·rintro i rfl
    cases q:s.gens[s2.gens.size]? with
    | none=>rfl
    | some y=>
     have:=x2.gens _ _ (x1.gens _ _ q λf=>f) λf=>f
     rw[Array.getElem?_eq_none (Nat.le_refl _)]at this
     cases this
 ·cases h
end
end Mine
namespace Mine
section
variable{M:Model}{A:Around}{E:Value→Shared→Prop}{s:Shared}
noncomputable abbrev eR(es:Array DictEntry)(n:Nat):Obj:={ cls:=.type "dict",data:=.dict es n }
theorem qJ{D:Addr}{name:Str}{v:Value}{n:Nat}{Q:Unit→Shared→Prop}(ho:s.heap.get? D=some (eR #[] n))
  (h:∀h' hh,h'.get? D=some (eR #[⟨hh,.str name s.toks,v⟩] (n+1))→Heap.SameBut D s.heap h'→Q () { s with heap:=h',toks:=s.toks+1 }):wpAny M A (nsSet D name v) Q E s:=by
 unfold nsSet strHash
 refine wpAny_bind (wpAny_bind (wpAny_askSetting (wpAny_pure ?_)))
 refine wpAny_bind (wpAny_mkText ?_)
 refine wpAny_bind (wpAny_loadPart (s:={ s with toks:=s.toks+1 }) ho ?_)
 dsimp only
 rw[if_neg (show ¬aRefKeyMayBeTheName name #[]=true by rw[aRefKeyMayBeTheName_at];simp)]
 refine wpAny_updatePart (s:={ s with toks:=s.toks+1 }) ho (h _ (if name.cps.isEmpty=true then 0 else reduceHash (M.w.params.strHash name.cps)) ?_ (Heap.SameBut.update ..))
 exact Heap.get?_update_self _ ho rfl
end
section
variable{prog:Program}{w:World}{A:Around}{E:Value→Shared→Prop}{s:Shared}
theorem ic{d:Addr}{k:Str}{t:Tok}{hh:Int}{n:Nat}{Q:Option Nat→Shared→Prop}(hd:s.heap.get? d=some (eR #[] n))(h:Q none s):wpAny (model prog w) A (dictFind d (.str k t) hh) Q E s:=by
 unfold dictFind
 refine wpAny_holding (wpAny_bind (wpAny_dictEntries hd rfl ?_))
 dsimp only
 rw[if_pos (by simp)]
 unfold foundByValue
 rw[show Array.findIdx? (λx:DictEntry=>x.key.isStr k) #[]=none by simp]
 exact wpAny_pure h
theorem mT{d:Addr}{k:Str}{t:Tok}{hh:Int}{n:Nat}{v:Value}{Q:Unit→Shared→Prop}(hd:s.heap.get? d=some (eR #[] n))(h:∀h',h'.get? d=some (eR #[⟨hh,.str k t,v⟩] (n+1))→Heap.SameBut d s.heap h'→Q () { s with heap:=h' }) :
  wpAny (model prog w) A (dictPut d hh (.str k t) v) Q E s:=by
 unfold dictPut
 refine wpAny_bind (ic hd ?_)
 refine wpAny_updateDictKeys hd rfl (h _ ?_ (Heap.SameBut.update ..)) (Nat.zero_le _) (by simp)
 exact Heap.get?_update_self _ hd rfl
theorem uD{a d:Addr}{k:Str}{t:Tok}{hh:Int}{v:Value}{n1 n2:Nat}{Q:Unit→Shared→Prop}(ha:s.heap.get? a=some (eR #[⟨hh,.str k t,v⟩] n1))(hd:s.heap.get? d=some (eR #[] n2))(hne:a≠d)(hsys:(a==sysModules)=false)
  (h:∀h',h'.get? d=some (eR #[⟨hh,.str k t,v⟩] (n2+1))→Heap.SameBut d s.heap h'→Q () { s with heap:=h' }):wpAny (model prog w) A (mergeMapping d (.ref a) true) Q E s:=by
 have hT:s.TypeIs (.ref a) "dict" :=⟨_,ha,rfl⟩
 unfold mergeMapping
 refine wpAny_bind (wpAny_isInstance (b:=true) hT (by rw[isSubtype_type];kernel_rfl) ?_)
 rw[if_pos rfl]
 refine wpAny_bind (wpAny_specialOf hT PySem.F.slot_dict_iter.lookup (wpAny_bind (wpAny_pure ?_)))
 rw[show ((some (Value.builtin "dict.__iter__")==some (Value.builtin "dict.__iter__"))=true)by decide]
 dsimp only
 rw[hsys]
 simp only[Bool.false_eq_true,if_false]
 refine wpAny_bind (wpAny_dictEntries hd rfl ?_)
 rw[if_pos (by rfl)]
 refine wpAny_bind (wpAny_dictEntries ha rfl ?_)
 simp only[List.forIn_toArray,List.forIn_cons,List.forIn_nil]
 refine wpAny_bind (wpAny_bind (wpAny_pure (wpAny_pure ?_)))
 refine wpAny_bind (wpAny_dictEntries ha rfl (wpAny_bind (wpAny_dictEpoch ha rfl (wpAny_bind ?_))))
 show wpAny _ _ (forIn [0] PUnit.unit _) _ _ _
 simp only[List.forIn_cons,List.forIn_nil]
 refine wpAny_bind (wpAny_bind (wpAny_dictEntries ha rfl ?_))
 rw[show (#[(⟨hh,.str k t,v⟩:DictEntry)])[0]?=some ⟨hh,.str k t,v⟩from rfl]
 dsimp only
 refine wpAny_bind (wpAny_holding ?_)
 rw[if_pos trivial]
 refine wpAny_bind (ic hd ?_)
 rw[if_neg (by simp)]
 refine mT hd λh' hd' hs=>?_
 have ha':h'.get? a=some (eR #[⟨hh,.str k t,v⟩] n1):=(hs.2 a hne).trans ha
 refine wpAny_bind (wpAny_dictEpoch (s:={ s with heap:=h' }) ha' rfl ?_)
 rw[if_neg (by simp)]
 exact wpAny_pure (wpAny_pure (wpAny_pure (h h' hd' hs)))
theorem rm{f:Value}{x:Sem Value}{k:Str}{v:Value}{Q:Addr→Shared→Prop}
  (h:wpAny (model prog w) A x (λm s'=>∃a hh t n1,m=.ref a∧s'.heap.get? a=some (eR #[⟨hh,.str k t,v⟩] n1)∧(a==sysModules)=false∧a≠s.heap.objs.size∧s'.heap.get? s.heap.objs.size=some (eR #[] 0)∧
   ∀h',h'.get? s.heap.objs.size=some (eR #[⟨hh,.str k t,v⟩] 1)→Heap.SameBut s.heap.objs.size s'.heap h'→Q s.heap.objs.size { s' with heap:=h' }) NoE { s with heap:=s.heap.push (eR #[] 0) }) :
  wpAny (model prog w) A (mergedKeywords f [(none,x)]) Q E s:=by
 unfold mergedKeywords
 refine wpAny_bind (wpAny_alloc (wpAny_bind (wpAny_holding ?_)))
 refine wpAny_bind ?_
 rw[List.forIn_cons]
 refine wpAny_bind ?_
 refine wpAny_bind (show wpAny (model prog w) A (pure ():Sem Unit) _ _ _ from wpAny_pure ?_)
 refine wpAny_bind (wpAny_mono h (λm s' qz1=>?_) λ_ _ f=>False.elim f)
 obtain⟨a,hh,t,n1,em,ha,hsys,hne,hd,hQ⟩:=qz1
 subst em
 refine wpAny_bind (wpAny_onRaise (wpAny_holding (wpAny_tryCatch (wpAny_onRaise (uD ha hd hne hsys λh' hd' hs=>?_)))))
 refine wpAny_pure ?_
 refine wpAny_pure ?_
 refine wpAny_bind (show wpAny (model prog w) A (pure ():Sem Unit) _ _ _ from wpAny_pure ?_)
 exact wpAny_pure (wpAny_pure (hQ h' hd' hs))
theorem nT{f:Value}{d:Addr}{hh:Int}{k:Str}{t:Tok}{v:Value}{n:Nat}{Q:List (Str×Value)→Shared→Prop}(hd:s.heap.get? d=some (eR #[⟨hh,.str k t,v⟩] n))(h:Q [(k,v)] s):wpAny (model prog w) A (keywordsIn f d) Q E s:=by
 unfold keywordsIn
 refine wpAny_bind (wpAny_dictEntries hd rfl (wpAny_bind ?_))
 rw[show (#[(⟨hh,.str k t,v⟩:DictEntry)])=[(⟨hh,.str k t,v⟩:DictEntry)].toArray from rfl,List.forIn_toArray,List.forIn_cons]
 refine wpAny_bind (show wpAny (model prog w) A (pure (ForInStep.yield [(k,v)]):Sem (ForInStep (List (Str×Value)))) _ _ _ from wpAny_pure ?_)
 dsimp only
 rw[List.forIn_nil]
 exact wpAny_pure (wpAny_pure h)
theorem mU{f:Value}{x y:Sem Value}{k:Str}{v:Value}{Q:Args→Shared→Prop}
  (h:wpAny (model prog w) A (spliced [(false,y)]) (λvs s1=>wpAny (model prog w) A x (λm s'=>∃a hh t n1,m=.ref a∧s'.heap.get? a=some (eR #[⟨hh,.str k t,v⟩] n1)∧(a==sysModules)=false∧a≠s1.heap.objs.size∧s'.heap.get? s1.heap.objs.size=some (eR #[] 0)∧
   ∀h',h'.get? s1.heap.objs.size=some (eR #[⟨hh,.str k t,v⟩] 1)→Heap.SameBut s1.heap.objs.size s'.heap h'→Q ⟨vs,[(k,v)]⟩ { s' with heap:=h' }) NoE { s1 with heap:=s1.heap.push (eR #[] 0) }) NoE s) :
  wpAny (model prog w) A (evalArgs f true [(false,y)] [(none,x)]) Q E s:=by
 unfold evalArgs
 refine wpAny_bind (m:=spliced [(false,y)]) (up (wpAny_mono h (λvs s1 h1=>wpAny_bind (wpAny_pure (wpAny_holding ?_))) λ_ _ f=>f))
 rw[if_neg (by simp)]
 refine wpAny_bind (rm (k:=k) (v:=v) (wpAny_mono h1 (λm s' q=>?_) λ_ _ f=>f))
 obtain⟨a,hh,t,n1,em,ha,hsys,hne,hd,hQ⟩:=q
 refine⟨a,hh,t,n1,em,ha,hsys,hne,hd,λh' hd' hs=>?_⟩
 refine wpAny_bind (wpAny_pure (wpAny_bind (wpAny_holding (nT (s:={ s' with heap:=h' }) hd' (wpAny_pure (hQ h' hd' hs))))))
end
end Mine
namespace Mine
section
variable{M:Model}{A:Around}{E:Value→Shared→Prop}{s:Shared}
theorem jF{fd:FuncData}{p:Arguments}(hp:fd.params=p)(h1:fd.defaults=.none)(h2:fd.kwdefaults=.none):fd={ fd with params:=p,defaults:=.none,kwdefaults:=.none }:=by
 cases fd;subst hp;cases h1;cases h2;rfl
structure jI (fd:FuncData) (n1 n2 n3 k:Str):Prop where
 b0:∀v1 v2,bindArgs fd ⟨[v1,v2],[]⟩=(alloc (eR #[] 0) >>= λa=>pure [(n1,v1),(n2,v2),(n3,.ref a)])
 b1:∀v1 v2 v,bindArgs fd ⟨[v1,v2],[(k,v)]⟩=(alloc (eR #[] 0) >>= λa=>(forIn [(k,v)] PUnit.unit (λp _=>do nsSet a p.1 p.2;pure (ForInStep.yield PUnit.unit))) >>= λ_=>pure [(n1,v1),(n2,v2),(n3,.ref a)])
noncomputable abbrev l6(params:Arguments)(n1 n2:Str):Prop:=∀(fd:FuncData) v1 v,bindArgs { fd with params:=params,defaults:=.none,kwdefaults:=.none } ⟨[v1],[(n2,v)]⟩=pure [(n1,v1),(n2,v)]
theorem r9{fd:FuncData}{n1 n2 n3 k:Str}{v1 v2:Value}{Q:List (Str×Value)→Shared→Prop}(hb:jI fd n1 n2 n3 k)
  (h:Q [(n1,v1),(n2,v2),(n3,.ref s.heap.objs.size)] { s with heap:=s.heap.push (eR #[] 0) }):wpAny M A (bindArgs fd ⟨[v1,v2],[]⟩) Q E s:=by
 rw[hb.b0]
 exact wpAny_bind (wpAny_alloc (wpAny_pure h))
theorem mF{fd:FuncData}{n1 n2 n3 k:Str}{v1 v2 v:Value}{Q:List (Str×Value)→Shared→Prop}(hb:jI fd n1 n2 n3 k)
  (h:∀h' hh t,h'.get? s.heap.objs.size=some (eR #[⟨hh,.str k t,v⟩] 1)→(∀b o,s.heap.get? b=some o→h'.get? b=some o)→Q [(n1,v1),(n2,v2),(n3,.ref s.heap.objs.size)] { s with heap:=h',toks:=s.toks+1 }):wpAny M A (bindArgs fd ⟨[v1,v2],[(k,v)]⟩) Q E s:=by
 rw[hb.b1]
 refine wpAny_bind (wpAny_alloc ?_)
 rw[List.forIn_cons]
 refine wpAny_bind (wpAny_bind (wpAny_bind (qJ (n:=0) (Heap.get?_push_size _ rfl) λh' hh hd' hs=>wpAny_pure ?_)))
 dsimp only
 rw[List.forIn_nil]
 exact wpAny_pure (wpAny_pure (h h' hh _ hd' λb o eb=>hs.extBut b o (Nat.ne_of_lt (Heap.lt_size eb)) (Heap.get?_push_of_some _ eb)))
theorem xT{fd:FuncData}{p:Arguments}{n1 n2:Str}{v1 v:Value}{Q:List (Str×Value)→Shared→Prop}(hp:fd.params=p)(h1:fd.defaults=.none)(h2:fd.kwdefaults=.none)(hb:l6 p n1 n2)(h:Q [(n1,v1),(n2,v)] s):wpAny M A (bindArgs fd ⟨[v1],[(n2,v)]⟩) Q E s:=by
 rw[jF hp h1 h2,hb]
 exact wpAny_pure h
end
end Mine
namespace Mine
section
variable{X:Cx}{A:Around}{ft:FT}{env:Env}{s:Shared}{σ:Sg}{Γ Γ':List Slot}{d:D}{c':List Cell}
noncomputable def Bg:PS:=λ_ _=>none
theorem CE{sts:List Stmt}:bh X A ft env sts Bg:=λΓ σ s fl Γ' c' I F h=>by cases h
noncomputable def oK(X:Cx)(n:Nat)(f:Value)(k:Str)(F:PF):Prop:=
 ∀A,Room A n→∀σ s v1 v2 sl1 sl2 d c' kw,X.Inv σ s→RelS σ v1 sl1→RelS σ v2 sl2→(kw=[]∨∃v,kw=[(k,v)])→F [sl1,sl2] σ.sto=some (d,c')→wpAny X.M A (call f [v1,v2] kw) (PostE X σ s d c') NoE s
noncomputable def lE(m:Nat)(q:PS):PF:=λsls c=>(q (setFrom 0 (sls++[.un]) (List.replicate m .un)) c).bind (A8 c.length)
theorem zp{n m:Nat}{a:Addr}{o:Obj}{fd:FuncData}{body:List Stmt}{q:PS}{a1 a2 a3:Arg}{k:Str}(ho:X.g0.get? a=some o)(hd:o.data=.func fd)(hcd:X.g0.CodeRec fd.code fd.qualname)(hb:fd.body=.stmts body)
  (hbk:jI fd a1.arg a2.arg a3.arg k)
  (hco:fd.scope.isCoroutine=false) (hgen:fd.scope.isGenerator=false) (hgl:fd.globals=mainGlobals) (hbl:fd.builtins=builtinsNs) (hclo:fd.closure=[]) (fit:Fits ft fd.scope) (hnf:∀x,(x,VK.f)∉ft.nt) (hm:ft.nt.length=m)
  (hpar:jR ft [a1.arg,a2.arg,a3.arg]=true) (hbody:∀A env,Room A n→bh X A ft env body q) (hcdf:∀v,ft.cd=some v→fd.code=v.1∧fd.qualname++".<locals>." = v.2:=by intro _ h;cases h):oK X (n+1) (.ref a) k (lE m q):=by
 intro A hr σ s v1 v2 sl1 sl2 d c' kw I r1 r2 hkw h
 unfold lE at h
 (refine bE3 h ?_;(try clear h);intro fl Γe ce e1 h)
 have top:=I.top
 refine wpAny_call (codeAny_call_function (by have:=hr.depth;unfold recursionLimit;(first|lia|omega)) (I.sub _ _ (top.base _ _ ho)) hd hco hgen hb ((hcd.keeps top.base).keeps I.sub) ?_)
 rw[hgl,hbl,hclo]
 have rest:∀s0,X.Inv σ s0→Ext NoW NoG σ s σ s0→∀D:Addr,wpAny X.M A.in1 (newFunctionEnv fd.scope mainGlobals [] [(a1.arg,v1),(a2.arg,v2),(a3.arg,.ref D)] (fd.qualname++".<locals>.") (some a) fd.code none builtinsNs)
   (λenv s₂=>s₂.heap.NoLimit∧codeAny X.M A (.func body env) (λr s'=>match r with|.ok (.ret v)=>PostE X σ s d c' v s'|.ok _=>False|.error e=>NoE e s') s₂) NoE s0:=by
  intro s0 I0 x0 D
  refine gm (Γ:=List.replicate m .un) I0 fit (by simp[hm]) (λi x k _ _ sl e=>?_) (λi x e=>absurd (dh e) (hnf x)) rfl hcdf (jA [a1.arg,a2.arg,a3.arg] [v1,v2,.ref D] [sl1,sl2,.un] 0 _ (rd hpar) (.cons r1 (.cons r2 (.cons trivial .nil))) rfl) λenv s1 he I1 x1 F1 w1 l1=>?_
  ·rw[List.getElem?_replicate]at e
   (first|(refine iE e ?_ ?_<;>(clear e;intro _ e))|split at e)<;>cases e
   rfl
  ·refine⟨(I1.top.nolim).keeps I1.sub,codeAny_func ?_⟩
   refine up (wpAny_mono (hbody (A.deeper env) env hr.deeper (setFrom 0 [sl1,sl2,.un] (List.replicate m .un)) σ s1 fl Γe ce I1 F1 e1) (λf s2 qz1=>?_) λ_ _ f=>f)
   obtain⟨σ2,q2,I2,x2,F2,r2⟩:=qz1
   have xx:Ext NoW NoG σ s0 σ2 s2:=(x1.up.trans I1 x2).drop w1 λ_ f=>f.elim
   have xx':=x0.trans I0 xx
   have I3:=I2.cut σ.sto.length
   have x3:=xx'.cut I
   subst q2
   cases fl with
   | next=>cases f<;>cases r2;cases h;exact⟨_,rfl,I3,x3,.none⟩
   | ret d'=>
    cases f<;>first|(cases r2;done)|skip
    cases h;exact⟨_,rfl,I3,x3,r2⟩
   | brk=>cases h
   | cont=>cases h
 rcases hkw with rfl|⟨v,rfl⟩
 ·refine r9 hbk ?_
  obtain⟨I0,x0⟩:=jK (o:=eR #[] 0) (tk:=s.toks) I
  exact up (rest _ I0 x0 _)
 ·refine mF hbk λh' hh t hD keep=>?_
  have I0:X.Inv σ { s with heap:=h',toks:=s.toks+1 }:=Mine.Inv.heap (W:=NoW) I (λa o e _=>keep a o e) λ_ f=>f.elim
  have x0:Ext NoW NoG σ s σ { s with heap:=h',toks:=s.toks+1 }:=Ext.heap λa o e _=>keep a o e
  exact up (rest _ I0 x0 _)
noncomputable def mL(F:PF)(p q:PE):PE:=λΓ c=>(p Γ c).bind λ(d1,c1)=>(q Γ c1).bind λ(d2,c2)=>F [.val d1,.val d2] c2
theorem B0{n:Nat}{f k:Str}{np pos:Pos}{e1 e2:Expr}{a:Addr}{o:Obj}{fd:FuncData}{F:PF}{p q:PE}(hx:f∈ft.gt)(hv:X.mg f=some (.ref a))(ho:X.g0.get? a=some o)(hd:o.data=.func fd)(h1:SoundE X A ft env e1 p)(h2:SoundE X A ft env e2 q)
  (hF:oK X n (.ref a) k F) (hr:Room A n) (he1:autoParam (∀env,starEach [e1,e2] env=(false,eval e1 env)::starEach [e2] env) aR) (he2:autoParam (∀env,starEach [e2] env=(false,eval e2 env)::starEach [] env) aR) :
  SoundE X A ft env (.Call (.Name f np) [e1,e2] [] pos) (mL F p q):=λΓ σ s d c' I FF h=>by
 (refine bE2 h ?_;(try clear h);intro d1 c1 g1 h)
 (refine bE2 h ?_;(try clear h);intro d2 c2 g2 h)
 refine wpAny_Call_NameR (eval_Name (FF.ok.odd f (List.mem_append_right _ hx)).1 (dy I FF hx hv ?_))
 refine callWith_def hd (wpAny_items_cons (h1.use I FF g1 λv1 σ1 s1 q1 I1 x1 F1 r1=>?_) (he1 env)) (he1 env)
 subst q1
 refine wpAny_items_cons (h2.use I1 F1 g2 λv2 σ2 s2 q2 I2 x2 F2 r2=>wpAny_items_nil ?_) (he2 env)
 subst q2
 exact⟨I2.sub _ _ (I2.top.base _ _ ho),wpAny_mono (hF A hr σ2 s2 v1 v2 (.val d1) (.val d2) d c' [] I2 (Rel.mono x2.le r1) r2 (.inl rfl) h) (λ_ _ k=>PostE.trans I2 (x1.trans I1 x2) k) λ_ _ f=>f⟩
noncomputable def mx(F:PF)(p q r:PE):PE:=λΓ c=>(p Γ c).bind λ(d1,c1)=>(q Γ c1).bind λ(d2,c2)=>(r Γ c2).bind λ(_,c3)=>F [.val d1,.val d2] c3
theorem Bu{n:Nat}{f k:Str}{np pos kp:Pos}{e1 e2 e3:Expr}{a:Addr}{o:Obj}{fd:FuncData}{F:PF}{p q r:PE}(hx:f∈ft.gt)(hv:X.mg f=some (.ref a))(ho:X.g0.get? a=some o)(hd:o.data=.func fd)(h1:SoundE X A ft env e1 p)(h2:SoundE X A ft env e2 q)(h3:SoundE X A ft env e3 r)
  (hF:oK X n (.ref a) k F) (hr:Room A n) (he1:autoParam (∀env,starEach [e1,e2] env=(false,eval e1 env)::starEach [e2] env) aR) (he2:autoParam (∀env,starEach [e2] env=(false,eval e2 env)::starEach [] env) aR) :
  SoundE X A ft env (.Call (.Name f np) [e1,e2] [⟨some k,e3,kp⟩] pos) (mx F p q r):=λΓ σ s d c' I FF h=>by
 (refine bE2 h ?_;(try clear h);intro d1 c1 g1 h)
 (refine bE2 h ?_;(try clear h);intro d2 c2 g2 h)
 (refine bE2 h ?_;(try clear h);intro d3 c3 g3 h)
 refine wpAny_Call_Name_kw (eval_Name (FF.ok.odd f (List.mem_append_right _ hx)).1 (dy I FF hx hv ?_))
 refine callWith_function_kw (o:=o) (fd:=fd) ?_
 have e0:backTo pos (starEach [e1,e2] env)=(false,eval e1 env)::(backTo pos (starEach [e1,e2] env)).tail:=by rw[he1 env];rfl
 rw[e0]
 refine evalArgs_kw rfl ?_
 rw[←e0]
 refine wpAny_items_cons (h1.use I FF g1 λv1 σ1 s1 q1 I1 x1 F1 r1=>?_) (he1 env)
 subst q1
 refine wpAny_items_cons (h2.use I1 F1 g2 λv2 σ2 s2 q2 I2 x2 F2 r2=>wpAny_items_nil ?_) (he2 env)
 subst q2
 show wpAny X.M A (evalAll [do let v ←eval e3 env;standAt pos;pure v]) _ _ _
 unfold evalAll
 refine wpAny_bind (wpAny_bind (h3.use I2 F2 g3 λv3 σ3 s3 q3 I3 x3 F3 r3=>wpAny_bind (wpAny_standAt (wpAny_pure ?_))))
 subst q3
 refine wpAny_bind (wpAny_holding (show wpAny X.M A (evalAll []) _ _ _ from wpAny_pure (wpAny_pure ?_)))
 exact⟨⟨I3.sub _ _ (I3.top.base _ _ ho),hd⟩,wpAny_mono (hF A hr σ3 s3 v1 v2 (.val d1) (.val d2) d c' [(k,v3)] I3 (Rel.mono (x2.le.trans x3.le) r1) (Rel.mono x3.le r2) (.inr ⟨v3,rfl⟩) h) (λ_ _ k=>PostE.trans I3 ((x1.trans I1 x2).trans I2 x3) k) λ_ _ f=>f⟩
end
end Mine
namespace Mine
section
variable{X:Cx}{A:Around}{ft ft':FT}{env:Env}{s:Shared}{σ:Sg}{Γ Γ':List Slot}{d:D}{c':List Cell}
noncomputable def LamAt(X:Cx)(q:Str)(params:Arguments)(body:Expr)(scope:Scope)(cl:List (Str×Addr))(g h:Heap)(a:Addr):Prop:=
 ∃o cv ct,h.get? a=some o∧o.data=.func (kla_fn "<lambda>" q params body scope cl ((X.mg "__name__").getD .none) cv ct)∧g.CodeRec cv q
theorem LamAt.ext{q:Str}{params:Arguments}{body:Expr}{scope:Scope}{cl:List (Str×Addr)}{a:Addr}{σ':Sg}{s':Shared}(L:LamAt X q params body scope cl σ.g s.heap a)(x:Ext NoW NoG σ s σ' s')(ha:a∉σ.own):LamAt X q params body scope cl σ'.g s'.heap a:=by
 obtain⟨o,cv,ct,h1,h2,h3⟩:=L
 exact⟨o,cv,ct,x.keep _ _ h1 ha λf=>f,h2,h3.keeps x.le⟩
theorem yL{k:Nat}{P c:Addr}{q:Str}{b:Bool}{pos:Pos}{params:Arguments}{body:Expr}{scope:Scope}{cl:List (Str×Addr)}{Q:Value→Shared→Prop}(I:X.Inv σ s)(F:Frm ft env Γ σ s.heap)(hcd:ft.cd=some (.ref c,q))(hC:CodeHd X.g0 c P)(hB:X.g0.BuiltinsAt X.mg P)(hgP:mainGlobals≠P)
  (hk:σ.sto[k]?=some (.tab P pos (q++"<lambda>") b)) (hcl:closureFor scope env=pure cl) (hdef:defaultsOf params env=([],[]))
  (h:∀a σ' s',σ'.sto=σ.sto.set k (.tab P pos (q++"<lambda>") true)→X.Inv σ' s'→Ext NoW NoG σ s σ' s'→LamAt X (q++"<lambda>") params body scope cl σ'.g s'.heap a→a∉σ'.own→Q (.ref a) s'):wpAny X.M A (eval (.Lambda params body scope pos) env) Q NoE s:=by
 obtain⟨hcode,hqual⟩:=F.ok.code _ hcd
 have hlt:k<σ.own.length:=by rw[I.len];exact(List.getElem?_eq_some_iff.mp hk).1
 have ha:σ.own[k]?=some σ.own[k]:=by simp[hlt]
 obtain⟨eP,ps,hP,ht,hb⟩:=I.cells k _ _ ha hk
 rw[eP]at ha hP
 have hC':CodeHd s.heap c P:=hC.keeps (I.top.base.trans I.sub)
 have hB':s.heap.BuiltinsAt X.mg P:=let ⟨bm,o,e1,e2,e3,e4,e5,r⟩:=hB;⟨bm,o,e1,e2,e3,e4,I.sub _ _ (I.top.base _ _ e5),r⟩
 have hg:s.heap.Ns mainGlobals X.mg:=I.top.gl.keeps I.sub
 refine kla_eval hdef ?_
 have hqual':env.qual=q:=hqual
 rw[hqual']
 cases b with
 | false=>
  refine wpAny_with_toks (n:=s.toks) (Nat.le_refl _) (kla_makeFunction hcl F.ok.glob hg hcode hC' hP ht hb hgP hB' λc1 ctv h' tk hx hge hlt' hrec htab htk=>?_)
  have hm:s.toks≤tk:=htk
  generalize hob:kla_obj "<lambda>" (q++"<lambda>") params body scope cl ((X.mg "__name__").getD .none) c1 ctv=ob
  have hfr:ob.isFreed=false:=by rw[←hob];rfl
  have none_ge:∀b,s.heap.objs.size≤b→s.heap.get? b=none:=λb hb=>by
   cases e:s.heap.get? b with
   | none=>rfl
   | some o=>exact absurd (Nat.lt_of_lt_of_le (Heap.lt_size e) hb) (Nat.lt_irrefl _)
  have nc1:=none_ge c1 hge
  have nob:=none_ge h'.objs.size (Nat.le_of_lt (Nat.lt_of_le_of_lt hge hlt'))
  obtain⟨c2,oc,vs,t,ec,hoc,hdc,hq⟩:=hrec
  cases ec
  have keep:∀b o,b≠P→s.heap.get? b=some o→(h'.push ob).get? b=some o:=λb o hb e=>Heap.get?_push_of_some _ (hx b o hb e)
  obtain⟨I1,x1⟩:=fK (cl':=.raw λo=>o=tabObj (ps++#[rawInt pos.line,rawInt pos.col,.ref c1])) (tk:=tk) (h':=h'.push ob) I ha hk rfl keep ⟨_,Heap.get?_push_of_some _ htab,rfl⟩ hm
  obtain⟨I2,x2,le2,e2⟩:=gW (a:=c1) (o:=oc) I1 x1 (Heap.get?_push_of_some _ hoc) (I.notIn nc1).2 (I.notIn nc1).1 nc1
  have hk2:(σ.sto.set k (Cell.raw λo=>o=tabObj (ps++#[rawInt pos.line,rawInt pos.col,.ref c1])))[k]?=some (Cell.raw λo=>o=tabObj (ps++#[rawInt pos.line,rawInt pos.col,.ref c1])):=by
   rw[List.getElem?_set_self (List.getElem?_eq_some_iff.mp hk).1]
  obtain⟨I3,x3⟩:=fK (cl':=.tab P pos (q++"<lambda>") true) (tk:=tk) (h':=h'.push ob) I2 ha hk2 rfl (λ_ _ _ e=>e)
   ⟨rfl,_,Heap.get?_push_of_some _ htab,by simpa using TriplesOk_snoc _ _ _ ps.toList ht,by rw[if_pos rfl];exact⟨c1,by simpa using codeAmong_snoc ps.toList ht hb,c1,oc,vs,t,rfl,e2,hdc,hq⟩⟩ (Nat.le_refl _)
  refine h h'.objs.size _ _ ?_ I3 (x2.trans I2 x3) ⟨ob,.ref c1,ctv,Heap.get?_push_size _ hfr,by rw[←hob],c1,oc,vs,t,rfl,e2,hdc,hq⟩ (I.notIn nob).1
  show (σ.sto.set k _).set k _=_
  rw[List.set_set]
 | true=>
  obtain⟨c1,hf,hrec⟩:=hb
  refine wpAny_with_toks (n:=s.toks) (Nat.le_refl _) (kla_makeFunctionHit hcl F.ok.glob hg hcode hC' hP ht hf hB' λctv h' tk keep hsz htk=>?_)
  have hm:s.toks≤tk:=htk
  have hsz':s.heap.get? h'.objs.size=none:=by
   cases e:s.heap.get? h'.objs.size with
   | none=>rfl
   | some o=>exact absurd (Nat.lt_of_lt_of_le (Heap.lt_size e) hsz) (Nat.lt_irrefl _)
  have keep2:∀b o,s.heap.get? b=some o→(h'.push { cls:=.type "function",data:=.func (kla_fn "<lambda>" (q++"<lambda>") params body scope cl ((X.mg "__name__").getD .none) (.ref c1) ctv) }).get? b=some o:=λb o e=>Heap.get?_push_of_some _ (keep b o e)
  refine h h'.objs.size σ _ ?_ (Mine.Inv.heap (W:=NoW) I (λb o e _=>keep2 b o e) (λ_ f=>f.elim) hm) (Ext.heap λb o e _=>keep2 b o e) ⟨_,_,ctv,Heap.get?_push_size _ rfl,rfl,?_⟩ (I.notIn hsz').1
  ·apply List.ext_getElem?
   intro j
   by_cases hj:k=j
   ·subst hj;rw[List.getElem?_set_self (List.getElem?_eq_some_iff.mp hk).1,hk]
   ·rw[List.getElem?_set_ne hj]
  ·exact hrec
end
end Mine
namespace Mine
section
variable{X:Cx}{A:Around}{ft ftL:FT}{env:Env}{s:Shared}{σ:Sg}{Γ Γ':List Slot}{d:D}{c':List Cell}{js:List (Option Nat)}
theorem yy{a:Addr}{q:Str}{params:Arguments}{body:Expr}{scope:Scope}{cl:List (Str×Addr)}{b1 b2:Arg}{v1 v2:Value}{d1 d2:D}{pl:PE}{ce:List Cell}
  (hr:Room A 12) (I:X.Inv σ s) (F:Frm ft env Γ σ s.heap) (hL:LamAt X q params body scope cl σ.g s.heap a) (fit:Fits ftL scope) (hcap:Capt ft ftL.nt js) (hcl:∀x,(x,VK.f)∈ftL.nt→cl.lookup x=env.cells.lookup x)
  (hp:params={ posonlyargs:=[],args:=[b1,b2],vararg:=none,kwonlyargs:=[],kw_defaults:=[],kwarg:=none,defaults:=[] }) (h12:l6 params b1.arg b2.arg) (hco:scope.isCoroutine=false) (hgen:scope.isGenerator=false) (hpar:jR ftL [b1.arg,b2.arg]=true) (hcdL:ftL.cd=none)
  (hbody:∀A env',Room A 11→SoundE X A ftL env' body pl) (r1:Rel σ.g v1 d1) (r2:Rel σ.g v2 d2) (hrun:pl (setFrom 0 [.val d1,.val d2] (bQ js Γ)) σ.sto=some (d,ce)) :
  wpAny X.M A (call (.ref a) [v1] [(b2.arg,v2)]) (PostE X σ s d ce) NoE s:=by
 obtain⟨o,cv,ct,ho,hd,hrec⟩:=hL
 refine wpAny_call (kla_callFunE (by have:=hr.depth;unfold recursionLimit;(first|lia|omega)) ho hd hco hgen rfl (hrec.keeps I.sub) ?_)
 refine xT rfl rfl rfl h12 ?_
 refine up ?_
 refine gm (Γ:=bQ js Γ) I fit (by unfold bQ;rw[List.length_map];exact hcap.length) (sM hcap) (nc hcap F hcl) rfl (λv hv=>by rw[hcdL]at hv;cases hv) (jA [b1.arg,b2.arg] [v1,v2] [.val d1,.val d2] 0 _ (rd hpar) (.cons r1 (.cons r2 .nil)) rfl) λenv1 s1 he I1 x1 F1 w1 l1=>?_
 refine⟨(I1.top.nolim).keeps I1.sub,kla_codeExpr ?_⟩
 refine up (wpAny_mono (hbody (A.deeper env1) env1 hr.deeper _ σ s1 d ce I1 F1 hrun) (λv s2 h2=>?_) λ_ _ f=>f)
 exact PostE.trans I1 x1 h2
end
end Mine
namespace Mine
section
variable{X:Cx}{A:Around}{ft ftL ftI:FT}{env:Env}{s:Shared}{σ:Sg}{Γ Γ':List Slot}{d:D}{c':List Cell}{js:List (Option Nat)}
theorem uE{a D0:Addr}{xget xidx xextra k:Str}{pG pI pE kp pC:Pos}{d1:D}{v3:Value}{hh:Int}{t:Tok}{Q:Value→Shared→Prop}{oL:Obj}{fdL:FuncData}
  (I:X.Inv σ s) (F:Frm ftI env Γ σ s.heap) {i0 i1 i2:Nat} {k0 k1 k2:VK} (h0:ftI.nt[i0]?=some (xidx,k0)) (h1:ftI.nt[i1]?=some (xget,k1)) (h2:ftI.nt[i2]?=some (xextra,k2))
  (g0:Γ[i0]?=some (.val d1)) (g1:Γ[i1]?=some (.val (.obj (.ref a)))) (g2:Γ[i2]?=some (.val (.obj (.ref D0)))) (hD:s.heap.get? D0=some (eR #[⟨hh,.str k t,v3⟩] 1)) (hsys:(D0==sysModules)=false)
  (hL:s.heap.get? a=some oL) (hd:oL.data=.func fdL)
  (h:∀v1 s',X.Inv σ s'→Ext NoW NoG σ s σ s'→Rel σ.g v1 d1→wpAny X.M A (call (.ref a) [v1] [(k,v3)]) Q NoE s') :
  wpAny X.M A (eval (.Call (.Name xget pG) [.Name xidx pI] [⟨none,.Name xextra pE,kp⟩] pC) env) Q NoE s:=by
 refine wpAny_Call_Name_kw (eval_Name (cD F h1) (cO F h1 g1 (by intro q;cases q) λvg rg=>?_))
 cases rg
 refine callWith_function_kw (o:=oL) (fd:=fdL) ?_
 have e0:backTo pC (starEach [.Name xidx pI] env)=[(false,eval (.Name xidx pI) env)]:=rfl
 rw[e0]
 show wpAny X.M A (evalArgs (.ref a) true [(false,eval (.Name xidx pI) env)] [(none,do let v ←eval (.Name xextra pE) env;standAt pC;pure v)]) _ _ _
 refine mU (k:=k) (v:=v3) ?_
 rw[←e0]
 refine wpAny_items_cons (eval_Name (cD F h0) (cO F h0 g0 (by intro q;cases q) λv1 r1=>wpAny_items_nil ?_)) rfl
 obtain⟨I1,x1⟩:=jK (o:=eR #[] 0) (tk:=s.toks) I
 have nn:s.heap.get? s.heap.objs.size=none:=get?_push_none
 refine wpAny_bind (eval_Name (cD F h2) (cO (F.ext x1) h2 g2 (by intro q;cases q) λvx rx=>wpAny_bind (wpAny_standAt (wpAny_pure ?_))))
 cases rx
 refine⟨D0,hh,t,1,rfl,Heap.get?_push_of_some _ hD,hsys,λq=>(by rw[q,nn]at hD;cases hD),Heap.get?_push_size _ rfl,λh' hd' hs=>?_⟩
 have keep:∀b o,s.heap.get? b=some o→h'.get? b=some o:=λb o e=>hs.extBut b o (Nat.ne_of_lt (Heap.lt_size e)) (Heap.get?_push_of_some _ e)
 exact⟨⟨keep _ _ hL,hd⟩,h v1 { s with heap:=h',toks:=s.toks } (Mine.Inv.heap (W:=NoW) I (λb o e _=>keep b o e) λ_ f=>f.elim) (Ext.heap λb o e _=>keep b o e) r1⟩
end
end Mine
namespace Mine
section
variable{X:Cx}{A:Around}{ft ftL ftI:FT}{env:Env}{s:Shared}{σ:Sg}{Γ Γ':List Slot}{d:D}{c':List Cell}{js:List (Option Nat)}
noncomputable def lS(kc:Nat)(P:Addr)(lpos:Pos)(q:Str)(js:List (Option Nat))(p r pl:PE):PE:=λΓ c=>(p Γ c).bind λ(d1,c1)=>match c1[kc]? with
 | some (.tab P' pos' q' _)=>if P'=P∧pos'=lpos∧q'=q++"<lambda>" then
   (r Γ (c1.set kc (.tab P lpos (q++"<lambda>") true))).bind λ(d3,c3)=>(pl (setFrom 0 [.val d1,.val d3] (bQ js Γ)) c3).map λ(d,c4)=>(.tup [d,d],c4.take c3.length)else none
 | _=>none
theorem xv{n:Nat}{af a:Addr}{o:Obj}{fd:FuncData}{a1 a2 a3 b1 b2:Arg}{xarg:Str}{t ret:Expr}{orelse tl:List Stmt}{pA pG pI pE kp pC sp rp ip:Pos}{pt:PB}{v1 v3:Value}{d1 d3:D}{ce:List Cell}{q:Str}{params:Arguments}{lbody:Expr}{lscope:Scope}{cl:List (Str×Addr)}{pl pr:PE}
  (haf:1≤af) (ho:X.g0.get? af=some o) (hd:o.data=.func fd) (hcd:X.g0.CodeRec fd.code fd.qualname)
  (hb:fd.body=.stmts (.If t [.Assign [.Name xarg pA] (.Call (.Name a2.arg pG) [.Name a1.arg pI] [⟨none,.Name a3.arg pE,kp⟩] pC) sp,.Return (some ret) rp] orelse ip::tl))
  (hbk:jI fd a1.arg a2.arg a3.arg b2.arg)
  (hco:fd.scope.isCoroutine=false) (hgen:fd.scope.isGenerator=false) (hgl:fd.globals=mainGlobals) (hbl:fd.builtins=builtinsNs) (hclo:fd.closure=[]) (fitI:Fits ftI fd.scope) (hnt:ftI.nt=[(a1.arg,.l),(a2.arg,.l),(a3.arg,.l),(xarg,.l)]) (hcdf:ftI.cd=none)
  (ht:∀A env,Room A 13→SoundB X A ftI env t pt) (hpt:∀d1 w1 w2 c,pt [.val d1,.val (.obj (.ref w1)),.val (.obj (.ref w2)),.un] c=some (true,c)) (hret:∀A env,Room A 13→SoundE X A ftI env ret pr) (hpr:∀d1 w1 w2 d c,pr [.val d1,.val (.obj (.ref w1)),.val (.obj (.ref w2)),.val d] c=some (.tup [d,d],c))
  (hr:Room A 14) (I:X.Inv σ s) (F:Frm ft env Γ σ s.heap) (L:LamAt X q params lbody lscope cl σ.g s.heap a) (haO:a∉σ.own) (fitL:Fits ftL lscope) (hcap:Capt ft ftL.nt js) (hcl:∀x,(x,VK.f)∈ftL.nt→cl.lookup x=env.cells.lookup x)
  (hlp:params={ posonlyargs:=[],args:=[b1,b2],vararg:=none,kwonlyargs:=[],kw_defaults:=[],kwarg:=none,defaults:=[] }) (hb12:l6 params b1.arg b2.arg) (hlco:lscope.isCoroutine=false) (hlgen:lscope.isGenerator=false) (hlpar:jR ftL [b1.arg,b2.arg]=true) (hcdL:ftL.cd=none)
  (hlbody:∀A env',Room A 11→SoundE X A ftL env' lbody pl) (r1:Rel σ.g v1 d1) (r3:Rel σ.g v3 d3) (hrun:pl (setFrom 0 [.val d1,.val d3] (bQ js Γ)) σ.sto=some (d,ce)) :
  wpAny X.M A (call (.ref af) [v1,.ref a] [(b2.arg,v3)]) (PostE X σ s (.tup [d,d]) (ce.take σ.sto.length)) NoE s:=by
 have top:=I.top
 have hD:(s.heap.objs.size==sysModules)=false:=by
  have hlt:=Heap.lt_size (I.sub _ _ (top.base _ _ ho))
  rw[beq_eq_false_iff_ne]
  intro q
  rw[q]at hlt
  exact absurd (Nat.lt_of_le_of_lt haf hlt) (Nat.lt_irrefl _)
 refine wpAny_call (codeAny_call_function (by have:=hr.depth;unfold recursionLimit;(first|lia|omega)) (I.sub _ _ (top.base _ _ ho)) hd hco hgen hb ((hcd.keeps top.base).keeps I.sub) ?_)
 rw[hgl,hbl,hclo]
 have hm:ftI.nt.length=4:=by rw[hnt];rfl
 have nn:s.heap.get? s.heap.objs.size=none:=get?_push_none
 refine mF hbk λh' hh tt hDict keep=>?_
 have I0:X.Inv σ { s with heap:=h',toks:=s.toks+1 }:=Mine.Inv.heap (W:=NoW) I (λa o e _=>keep a o e) λ_ f=>f.elim
 have x0:Ext NoW NoG σ s σ { s with heap:=h',toks:=s.toks+1 }:=Ext.heap λa o e _=>keep a o e
 refine up (gm (ft:=ftI) (Γ:=List.replicate 4 .un) (Γ':=[.val d1,.val (.obj (.ref a)),.val (.obj (.ref s.heap.objs.size)),.un]) I0 fitI (by simp[hm]) (λi x k _ _ sl e=>?_) (λi x e=>?_) rfl (λv hv=>by rw[hcdf]at hv;cases hv)
  (.cons (i:=0) (k:=.l) (by rw[hnt];rfl) (by intro q;cases q) (sl:=.val d1) r1 (.cons (i:=1) (k:=.l) (by rw[hnt];rfl) (by intro q;cases q) (sl:=.val (.obj (.ref a))) (.obj _) (.cons (i:=2) (k:=.l) (by rw[hnt];rfl) (by intro q;cases q) (sl:=.val (.obj (.ref s.heap.objs.size))) (.obj _) .nil))) λenv1 s1 he I1 x1 F1 w1 l1=>?_)
 ·rw[List.getElem?_replicate]at e
  (first|(refine iE e ?_ ?_<;>(clear e;intro _ e))|split at e)<;>cases e
  rfl
 ·have:=dh e
  rw[hnt]at this
  simp at this
 ·refine⟨(I1.top.nolim).keeps I1.sub,codeAny_func ?_⟩
  have hD1:s1.heap.get? s.heap.objs.size=some (eR #[⟨hh,.str b2.arg tt,v3⟩] 1):=x1.keep _ _ hDict (I.notIn nn).1 λf=>f
  have F01:=F.ext (x0.trans I0 x1)
  have L1:=L.ext (x0.trans I0 x1) haO
  refine wpAny_execs_cons (wpAny_If (up ((ht _ env1 hr.deeper).use I1 F1 (hpt _ _ _ _) λσ2 s2 q2 I2 x2 F2=>?_)))
  rw[if_pos rfl]
  have F02:=F01.ext x2
  have L2:=L1.ext x2 haO
  have haO2:a∉σ2.own:=by
   obtain⟨o1,_,_,e1,_⟩:=L1
   obtain⟨mo,hmo,hf⟩:=x2.own
   rw[hmo]
   intro hq
   rcases List.mem_append.mp hq with hq|hq
   ·exact haO hq
   ·rcases hf _ hq with h|h
    ·rw[h]at e1;cases e1
    ·exact h
  obtain⟨oL,cv,ct,hL1,hL2,hL3⟩:=id L2
  have hD2:s2.heap.get? s.heap.objs.size=some (eR #[⟨hh,.str b2.arg tt,v3⟩] 1):=x2.keep _ _ hD1 (I.notIn nn).1 λf=>f
  refine wpAny_execs_cons (wpAny_Assign_Name (up (uE I2 F2 (i0:=0) (i1:=1) (i2:=2) (k0:=.l) (k1:=.l) (k2:=.l) (by rw[hnt];rfl) (by rw[hnt];rfl) (by rw[hnt];rfl) rfl rfl rfl hD2 hD hL1 hL2 λv1' s3 I3 x3 r1'=>?_)) rfl)
  have x13:=(x1.trans I1 x2).trans I2 x3
  refine wpAny_mono (yy (d:=d) (ce:=ce) (hr.deeper.le (by(first|lia|omega))) I3 (F02.ext x3) (L2.ext x3 haO2) fitL hcap hcl hlp hb12 hlco hlgen hlpar hcdL hlbody r1' (Rel.mono x13.le r3) (by rw[q2];exact hrun)) (λv4 s4 h4=>?_) λ_ _ f=>f
  obtain⟨σ4,q4,I4,x4,r4⟩:=h4
  have F4:=(F2.ext x3).ext x4
  refine cR I4 F4 (i:=3) (k:=.l) (by rw[hnt];rfl) (by intro q;cases q) (sl:=.val d) r4 λs5 I5 x5 F5=>?_
  refine wpAny_execs_cons (wpAny_Return_some (up ((hret _ env1 hr.deeper).use I5 F5 (hpr _ _ _ _ _) λv6 σ6 s6 q6 I6 x6 F6 r6=>?_)))
  have xx1:Ext (FW ftI env1) NoG σ s1 σ6 s6:=((((x2.trans I2 x3).trans I3 x4).up).trans I4 x5).trans I5 x6.up
  have xx2:Ext NoW NoG σ { s with heap:=h',toks:=s.toks+1 } σ6 s6:=(x1.up.trans I1 xx1).drop w1 λ_ f=>f.elim
  have xx:=x0.trans I0 xx2
  exact⟨_,by show σ6.sto.take σ.sto.length=_;rw[q6,q4],I6.cut σ.sto.length,xx.cut I,r6⟩
end
end Mine
namespace Mine
section
variable{X:Cx}{A:Around}{ft ftL ftI:FT}{env:Env}{s:Shared}{σ:Sg}{Γ Γ':List Slot}{d:D}{c':List Cell}{js:List (Option Nat)}
theorem yB{f:Str}{np pos kwp lpos:Pos}{e1 e3:Expr}{p r:PE}{kc:Nat}{P c:Addr}{af:Addr}{o:Obj}{fd:FuncData}{a1 a2 a3 b1 b2:Arg}{xarg:Str}{t ret:Expr}{orelse tl:List Stmt}{pA pG pI pE kp pC sp rp ip:Pos}{pt:PB}{q:Str}{params:Arguments}{lbody:Expr}{lscope:Scope}{pl pr:PE}
  (hx:f∈ft.gt) (hv:X.mg f=some (.ref af)) (haf:1≤af) (ho:X.g0.get? af=some o) (hd:o.data=.func fd) (hcd:X.g0.CodeRec fd.code fd.qualname)
  (hb:fd.body=.stmts (.If t [.Assign [.Name xarg pA] (.Call (.Name a2.arg pG) [.Name a1.arg pI] [⟨none,.Name a3.arg pE,kp⟩] pC) sp,.Return (some ret) rp] orelse ip::tl))
  (hbk:jI fd a1.arg a2.arg a3.arg b2.arg)
  (hco:fd.scope.isCoroutine=false) (hgen:fd.scope.isGenerator=false) (hgl:fd.globals=mainGlobals) (hbl:fd.builtins=builtinsNs) (hclo:fd.closure=[]) (fitI:Fits ftI fd.scope) (hnt:ftI.nt=[(a1.arg,.l),(a2.arg,.l),(a3.arg,.l),(xarg,.l)]) (hcdf:ftI.cd=none)
  (ht:∀A env,Room A 13→SoundB X A ftI env t pt) (hpt:∀d1 w1 w2 c,pt [.val d1,.val (.obj (.ref w1)),.val (.obj (.ref w2)),.un] c=some (true,c)) (hret:∀A env,Room A 13→SoundE X A ftI env ret pr) (hpr:∀d1 w1 w2 d c,pr [.val d1,.val (.obj (.ref w1)),.val (.obj (.ref w2)),.val d] c=some (.tup [d,d],c))
  (hr:Room A 14) (hftc:ft.cd=some (.ref c,q)) (hC:CodeHd X.g0 c P) (hB:X.g0.BuiltinsAt X.mg P) (hgP:mainGlobals≠P) (hdef:∀env,defaultsOf params env=([],[])) (fitL:Fits ftL lscope) (hcap:Capt ft ftL.nt js)
  (hlp:params={ posonlyargs:=[],args:=[b1,b2],vararg:=none,kwonlyargs:=[],kw_defaults:=[],kwarg:=none,defaults:=[] }) (hb12:l6 params b1.arg b2.arg) (hlco:lscope.isCoroutine=false) (hlgen:lscope.isGenerator=false) (hlpar:jR ftL [b1.arg,b2.arg]=true) (hcdL:ftL.cd=none)
  (hlbody:∀A env',Room A 11→SoundE X A ftL env' lbody pl) (h1:SoundE X A ft env e1 p) (h3:SoundE X A ft env e3 r)
  (he1:autoParam (∀env,starEach [e1,.Lambda params lbody lscope lpos] env=(false,eval e1 env)::starEach [.Lambda params lbody lscope lpos] env) aR) :
  SoundE X A ft env (.Call (.Name f np) [e1,.Lambda params lbody lscope lpos] [⟨some b2.arg,e3,kwp⟩] pos) (lS kc P lpos q js p r pl):=λΓ σ s d c' I FF h=>by
 (refine bE2 h ?_;(try clear h);intro d1 c1 g1 h)
 dsimp only at h
 (first|(refine iE h ?_ ?_<;>(clear h;intro _ h))|split at h)
 ·rename_i P' pos' q' b ec
  (first|(refine iE h ?_ ?_<;>(clear h;intro _ h))|split at h)
  ·rename_i hc
   obtain⟨rfl,rfl,rfl⟩:=hc
   (refine bE2 h ?_;(try clear h);intro d3 c3 g3 h)
   (refine mE2 h ?_;(try clear h);intro dr c4 g4 h)
   cases h
   refine wpAny_Call_Name_kw (eval_Name (FF.ok.odd f (List.mem_append_right _ hx)).1 (dy I FF hx hv ?_))
   refine callWith_function_kw (o:=o) (fd:=fd) ?_
   have e0:backTo pos (starEach [e1,.Lambda params lbody lscope pos'] env)=(false,eval e1 env)::(backTo pos (starEach [e1,.Lambda params lbody lscope pos'] env)).tail:=by rw[he1 env];rfl
   rw[e0]
   refine evalArgs_kw rfl ?_
   rw[←e0]
   refine wpAny_items_cons (h1.use I FF g1 λv1 σ1 s1 q1 I1 x1 F1 r1=>?_) (he1 env)
   subst q1
   have hfr:∀x,(x,NameKind.free)∈lscope.names→∃c,env.cells.lookup x=some c:=λx hx=>by
    obtain⟨i,hi⟩:=List.mem_iff_getElem?.mp (fitL.frees x hx)
    obtain⟨j,k,_,h2,h3⟩:=hcap.free hi
    obtain⟨c,hc,_⟩:=F1.cel j x k h2 h3
    exact⟨c,hc⟩
   obtain⟨cl,hclos,hcl⟩:=mH hfr
   have hcl':∀x,(x,VK.f)∈ftL.nt→cl.lookup x=env.cells.lookup x:=λx hx=>hcl x (mem_of_lookup (fitL.f x hx).1)
   refine wpAny_items_cons (yL I1 F1 hftc hC hB hgP ec hclos (hdef env) λa σ2 s2 q2 I2 x2 L2 haO=>wpAny_items_nil ?_) rfl
   have F2:=F1.ext x2
   show wpAny X.M A (evalAll [do let v ←eval e3 env;standAt pos;pure v]) _ _ _
   unfold evalAll
   refine wpAny_bind (wpAny_bind (h3.use I2 F2 (by rw[q2];exact g3) λv3 σ3 s3 q3 I3 x3 F3 r3=>wpAny_bind (wpAny_standAt (wpAny_pure ?_))))
   subst q3
   refine wpAny_bind (wpAny_holding (show wpAny X.M A (evalAll []) _ _ _ from wpAny_pure (wpAny_pure ?_)))
   have haO3:a∉σ3.own:=by
    obtain⟨o1,_,_,e1,_⟩:=L2
    obtain⟨mo,hmo,hf⟩:=x3.own
    rw[hmo]
    intro hq
    rcases List.mem_append.mp hq with hq|hq
    ·exact haO hq
    ·rcases hf _ hq with h|h
     ·rw[h]at e1;cases e1
     ·exact h
   exact⟨⟨I3.sub _ _ (I3.top.base _ _ ho),hd⟩,wpAny_mono (xv (n:=0) haf ho hd hcd hb hbk hco hgen hgl hbl hclo fitI hnt hcdf ht hpt hret hpr hr I3 F3 (L2.ext x3 haO) haO3 fitL hcap hcl' hlp hb12 hlco hlgen hlpar hcdL hlbody (Rel.mono (x2.le.trans x3.le) r1) r3 g4)
    (λ_ _ k=>PostE.trans I3 ((x1.trans I1 x2).trans I2 x3) k) λ_ _ f=>f⟩
  ·cases h
 ·cases h
end
end Mine
end
section
open PySem PySem.Calls PySem.Spec PyProof.Rows PySem.W
set_option maxRecDepth 20000
namespace Mine
noncomputable def bj:Nat→List Stmt→Stmt
 | _,[]=>.Pass ⟨0,0,0,0⟩
 | 0,s::_=>s
 | n+1,_::r=>bj n r
noncomputable def zr:Stmt→List Stmt
 | .FunctionDef _ _ b _ _ _ _ _ _ _=>b
 | _=>[]
noncomputable def wM:Stmt→Scope
 | .FunctionDef _ _ _ _ _ _ s _ _ _=>s
 | _=>default
noncomputable def Af:Stmt→Arguments
 | .FunctionDef _ a _ _ _ _ _ _ _ _=>a
 | _=>default
noncomputable def Cc(k:Nat):Stmt:=bj k PySem.Challenge.pw_tc0018_01.main.body
noncomputable def fnB(k:Nat):List Stmt:=zr (Cc k)
noncomputable def rJ(k:Nat):Scope:=wM (Cc k)
noncomputable def fQ(k:Nat):Arguments:=Af (Cc k)
structure FnAt (X:Cx) (k:Nat) (x:Str) (a:Addr) (o:Obj) (fd:FuncData):Prop where
 nm:X.mg x=some (.ref a)
 pos:1≤a
 ho:X.g0.get? a=some o
 hd:o.data=.func fd
 hcd:X.g0.CodeRec fd.code fd.qualname
 hb:fd.body=.stmts (fnB k)
 hp:fd.params=fQ k
 sc:fd.scope=rJ k
 gl:fd.globals=mainGlobals
 bl:fd.builtins=builtinsNs
 df:fd.defaults=.none
 kd:fd.kwdefaults=.none
 clo:fd.closure=[]
section
variable{X:Cx}{n m:Nat}{f:Value}{F:PF}
theorem FnOk.le(h:FnOk X n f F)(k:n≤m):FnOk X m f F:=λA hr=>h A (hr.le k)
noncomputable def jx:List Slot→Option (List D)
 | []=>some []
 | .val d::r=>(jx r).map (d::·)
 | _=>none
noncomputable def ee(G:List D→Option D):PF:=λsls c=>(jx sls).bind λds=>(G ds).map λd=>(d,c)
noncomputable def dj(F:PF):List D→Option D:=λds=>(F (ds.map .val) []).map (·.1)
theorem nD:∀{sls:List Slot} {ds:List D},jx sls=some ds→sls=ds.map .val
 | [],ds,h=>by cases h;rfl
 | .val d::r,ds,h=>by
  simp only[jx]at h
  cases e:jx r with
  | none=>rw[e]at h;cases h
  | some es=>rw[e]at h;cases h;rw[nD e];rfl
 | .un::r,ds,h=>by cases h
 | .ref k::r,ds,h=>by cases h
theorem RelSs.vals{σ τ:Sg}(hg:σ.g=τ.g):∀{vs:List Value} {ds:List D},RelSs σ vs (ds.map .val)→RelSs τ vs (ds.map .val)
 | [],[],.nil=>.nil
 | _::_,_::_,.cons r rs=>.cons (by unfold RelS at r ⊢;rw[←hg];exact r) (RelSs.vals hg rs)
theorem FnOk.fresh(h:FnOk X n f F):FnOk X n f (ee (dj F)):=by
 intro A hr σ s vs sls d c' I r e
 unfold ee at e
 (refine bE e ?_;(try clear e);intro ds e1 e)
 (refine mE e ?_;(try clear e);intro d' e2 e)
 cases e
 unfold dj at e2
 (refine mE2 e2 ?_;(try clear e2);intro d' c0 e3 e4)
 cases e4
 have hs:=nD e1
 subst hs
 let σ0:Sg:=⟨σ.g,[],[]⟩
 have I0:X.Inv σ0 s:=⟨I.sub,rfl,List.nodup_nil,λk a c e=>(by simp[σ0]at e),λk a c e=>(by simp[σ0]at e),I.top,I.bare,I.tk⟩
 refine wpAny_mono (h A hr σ0 s vs _ _ _ I0 (RelSs.vals (σ:=σ) (τ:=σ0) rfl r) e3) (λv s' qz1=>?_) λ_ _ f=>f
 obtain⟨σ',_,I',x,rr⟩:=qz1
 have old:∀a∈σ.own,∃o,s.heap.get? a=some o:=λa ha=>I.mem ha
 have gnone:∀a∈σ.own,σ.g.get? a=none→σ'.g.get? a=none:=by
  intro a ha hn
  cases q:σ'.g.get? a with
  | none=>rfl
  | some o=>
   obtain⟨o',e'⟩:=old a ha
   rcases x.fresh a o q hn with h|h|h
   ·rw[h]at e';cases e'
   ·cases h
   ·exact h.elim
 refine⟨⟨σ'.g,σ.own,σ.sto⟩,rfl,⟨I'.sub,I.len,I.nodup,λk a c e1 e2=>?_,λk a c e1 e2 e3=>?_,I'.top,I'.bare,I'.tk⟩,⟨x.le,⟨[],by simp,by simp⟩,λa o q hn=>?_,λa o q _ _=>x.keep a o q (by simp[σ0]) (λh=>h),x.gens,x.os⟩,rr⟩
 ·refine(I.cells k a c e1 e2).mono x.le λ_=>?_
  obtain⟨o,ho⟩:=old a (List.mem_of_getElem? e1)
  rw[ho];exact x.keep a o ho (by simp[σ0]) (λh=>h)
 ·exact gnone a (List.mem_of_getElem? e1) (I.off k a c e1 e2 e3)
 ·rcases x.fresh a o q hn with h|h|h
  ·exact .inl h
  ·cases h
  ·exact h.elim
end
section
variable{X:Cx}{A:Around}{ft:FT}{env:Env}
theorem bq{x y:Str}{k:Nat}{pos:Pos}(h:x=y):SoundE X A ft env (.Constant (.str x) k pos) (aZ y):=h▸DU
theorem ae{α:Type}{l:List α}{i:Nat}{x:α}(h:l[i]?=some x):x∈l:=List.mem_of_getElem? h
end
end Mine
namespace Mine
noncomputable def dc(i:Int):Option Str:=lG.lookup i
noncomputable def bN(x:Str):Option Int:=oH.lookup x
noncomputable def fu:List (Nat×Str):=[(2,"pretty_flags"),(5,"_get_name_info"),(6,"_parse_varint"),(8,"_iter_escaped_chars"),(9,"_strip_quoted_realnames"),(10,"_check_parenthesis"),(63,"ISTERMINAL"),(64,"ISNONTERMINAL"),(65,"ISEOF"),(67,"_law_letters"),(68,"_law_signs"),(69,"_law_octets"),(70,"_law_taped"),(71,"_law_tree"),(72,"_law_edges"),(73,"_law_trees"),(74,"_law_active"),(75,"law")]
noncomputable def gY:List (Str×Value):=[("enumerate",.type "enumerate"),("range",.type "range"),("zip",.type "zip"),("list",.type "list"),("set",.type "set"),("bool",.type "bool"),("len",.builtin "len"),("sum",.builtin "sum"),("max",.builtin "max"),("sorted",.builtin "sorted"),("hex",.builtin "hex"),("iter",.builtin "iter"),("next",.builtin "next"),("isinstance",.builtin "isinstance")]
structure TopF (X:Cx) (fa:Nat→Addr) (u:Addr):Prop where
 top:TopOk ⟨X.mg,X.mb,X.g0⟩ X.g0
 fn:∀k x,(k,x)∈fu→∃o fd,FnAt X k x (fa k) o fd
 free:∀x v,(x,v)∈gY→X.mg x=none
 blt:∀x v,(x,v)∈gY→X.mb x=some v
 flags:∃dct f,X.mg "COMPILER_FLAG_NAMES" = some (.ref dct)∧X.g0.MapOf (intKind X.prog X.w) dct f∧(dct==sysModules)=false∧∀i,match dc i with|some x=>∃t,f i=some (.str x t)|none=>f i=none
 toks:∃dct f,X.mg "EXACT_TOKEN_TYPES" = some (.ref dct)∧X.g0.MapOf (PySem.strKind X.prog X.w) dct f∧(dct==sysModules)=false∧∀i,match bN i with|some x=>∃t,f i=some (.int x t)|none=>f i=none
 endm:∃t,X.mg "ENDMARKER" = some (.int 0 t)
 ntoff:∃t,X.mg "NT_OFFSET" = some (.int 256 t)
 unk:X.mg "UNKNOWN" = some (.ref u)
end Mine
end
section
open PySem PySem.Calls PySem.Spec PyProof PyProof.Rows PySem.W
set_option maxRecDepth 20000
namespace Mine
noncomputable def Binds(k:Nat)(params:List Str):Prop:=∀fd:FuncData,fd.params=fQ k→fd.defaults=.none→fd.kwdefaults=.none→∀vs:List Value,vs.length=params.length→bindArgs fd ⟨vs,[]⟩=pure (params.zip vs)
theorem fv{k:Nat}{x:Str}(e:∀(fd:FuncData) v,bindArgs { fd with params:=fQ k,defaults:=.none,kwdefaults:=.none } ⟨[v],[]⟩=pure [(x,v)]):Binds k [x]:=λfd hp h1 h2 vs h=>by
 obtain⟨v,t,e1,h⟩:=ma h
 rw[jF hp h1 h2,e1,List.eq_nil_of_length_eq_zero h];exact e fd v
theorem yn{k:Nat}{x y:Str}(e:∀(fd:FuncData) v w,bindArgs { fd with params:=fQ k,defaults:=.none,kwdefaults:=.none } ⟨[v,w],[]⟩=pure [(x,v),(y,w)]):Binds k [x,y]:=λfd hp h1 h2 vs h=>by
 obtain⟨v,t,e1,h⟩:=ma h
 obtain⟨w,t',e2,h⟩:=ma h
 rw[jF hp h1 h2,e1,e2,List.eq_nil_of_length_eq_zero h];exact e fd v w
theorem wF{k:Nat}{x y z:Str}(e:∀(fd:FuncData) v w u,bindArgs { fd with params:=fQ k,defaults:=.none,kwdefaults:=.none } ⟨[v,w,u],[]⟩=pure [(x,v),(y,w),(z,u)]):Binds k [x,y,z]:=λfd hp h1 h2 vs h=>by
 obtain⟨v,t,e1,h⟩:=ma h
 obtain⟨w,t',e2,h⟩:=ma h
 obtain⟨u,t'',e3,h⟩:=ma h
 rw[jF hp h1 h2,e1,e2,e3,List.eq_nil_of_length_eq_zero h];exact e fd v w u
theorem qO{k:Nat}{x y z a:Str}(e:∀(fd:FuncData) v w u r,bindArgs { fd with params:=fQ k,defaults:=.none,kwdefaults:=.none } ⟨[v,w,u,r],[]⟩=pure [(x,v),(y,w),(z,u),(a,r)]):Binds k [x,y,z,a]:=λfd hp h1 h2 vs h=>by
 obtain⟨v,w,u,r,rfl⟩:=four h
 rw[jF hp h1 h2];exact e fd v w u r
theorem DA:Binds 2 ["flags"]:=fv λ_ _=>rfl
theorem Dt:Binds 71 ["texts","signs","nodes","asked"]:=qO λ_ _ _ _ _=>rfl
section
variable{X:Cx}{A:Around}{ft ft':FT}{env:Env}{fa:Nat→Addr}{u:Addr}{p:PE}
theorem kFn{k n m np:Nat}{x:Str}{params:List Str}{q:PS}(T:TopF X fa u)(hk:(k,x)∈fu)(hco:(rJ k).isCoroutine=false)(hgen:(rJ k).isGenerator=false)(fit:Fits ft (rJ k))(hnf:(ft.nt.all λp=>decide (p.2≠VK.f))=true)
  (hm:ft.nt.length=m) (hnp:params.length=np) (hpar:jR ft params=true) (hb:Binds k params) (hcd:ft.cd=none) (hbody:∀A env,Room A n→bh X A ft env (fnB k) q):FnOk X (n+1) (.ref (fa k)) (cB m np q):=by
 obtain⟨o,fd,F⟩:=T.fn k x hk
 refine AX F.ho F.hd F.hcd F.hb (by rw[F.sc];exact hco) (by rw[F.sc];exact hgen) F.gl F.bl (by rw[F.sc];exact fit) (λy hy=>?_) hm hnp hpar (λvs h=>hb fd F.hp F.df F.kd vs (h.trans hnp.symm)) hbody (λv h=>by rw[hcd]at h;cases h)
 have:=List.all_eq_true.mp hnf _ hy
 simp at this
theorem cw{k n m:Nat}{x:Str}{np pos:Pos}{e:Expr}{rest:List Expr}{F:PF}{pa:PA}(T:TopF X fa u)(hx:x∈ft.gt)(hk:(k,x)∈fu)(hA:gL X A ft env pos (e::rest) pa)(hF:FnOk X n (.ref (fa k)) F)(hr:Room A m)(hn:n≤m)
  (he:autoParam (∀env,starEach (e::rest) env=(false,eval e env)::starEach rest env) aR):SoundE X A ft env (.Call (.Name x np) (e::rest) [] pos) (aI F pa):=by
 obtain⟨o,fd,K⟩:=T.fn k x hk
 exact BB hx K.nm K.ho K.hd hA hF (hr.le hn) he
theorem BU{np pos:Pos}{e:Expr}(T:TopF X fa u)(hx:("EXACT_TOKEN_TYPES" : Str)∈ft.gt)(h1:SoundE X A ft env e p)(hs:autoParam (∀o i,subscripted e false o i=operate [o,i] (getItem o i)) aR) :
  SoundE X A ft env (.Subscript (.Name "EXACT_TOKEN_TYPES" np) e pos) (mq bN p):=by
 obtain⟨d,f,h,hm,_,hT⟩:=T.toks
 exact DL hx h hm hT h1 hs
theorem Cn{np pos:Pos}{e:Expr}(T:TopF X fa u)(hx:("EXACT_TOKEN_TYPES" : Str)∈ft.gt)(h1:SoundE X A ft env e p)(hm2:behindInMarks .In (.Name "EXACT_TOKEN_TYPES" np)=false:=by with_unfolding_all rfl) :
  SoundB X A ft env (.Compare e [.In] [.Name "EXACT_TOKEN_TYPES" np] pos) (ki bN p):=by
 obtain⟨d,f,h,hm,hd,hT⟩:=T.toks
 exact Cy hx h hm hd hT h1 hm2
theorem Ez{np apos pos:Pos}{e1 e2:Expr}{q:PE}(T:TopF X fa u)(hx:("COMPILER_FLAG_NAMES" : Str)∈ft.gt)(h1:SoundE X A ft env e1 p)(h2:SoundE X A ft env e2 q)
  (hbase:autoParam (∀env,attributeBase (.Name "COMPILER_FLAG_NAMES" np) "get" env (eval (.Name "COMPILER_FLAG_NAMES" np) env)=eval (.Name "COMPILER_FLAG_NAMES" np) env) aR)
  (hfew:autoParam (∀env,((backTo pos (starEach [e1,e2] env)).all (λx=>!x.1) && (backToKw pos (keywordEach [] env)).all (λx=>x.1.isSome)
   && decide (([e1,e2]:List Expr).length+([]:List Keyword).length+(if ([]:List Keyword).isEmpty then 0 else 1)<30))=true) aR)
  (hline:autoParam ((apos.endLine==pos.line)=true) aR) (htrees:∀env,backTo pos (starEach [e1,e2] env)=[(false,eval e1 env),(false,do standAt pos;eval e2 env)]∨backTo pos (starEach [e1,e2] env)=[(false,eval e1 env),(false,eval e2 env)]:=by intro _;first|exact .inl rfl|exact .inr rfl) :
  SoundE X A ft env (.Call (.Attribute (.Name "COMPILER_FLAG_NAMES" np) "get" apos) [e1,e2] [] pos) (qB dc p q):=by
 obtain⟨d,f,h,hm,hd,hT⟩:=T.flags
 exact DN hx h hm hd hT h1 h2 hbase hfew hline htrees
theorem D1{pos:Pos}(T:TopF X fa u)(hx:("ENDMARKER" : Str)∈ft.gt):SoundE X A ft env (.Name "ENDMARKER" pos) (ah 0):=by
 obtain⟨t,h⟩:=T.endm
 exact pQ hx h
theorem kNt{pos:Pos}(T:TopF X fa u)(hx:("NT_OFFSET" : Str)∈ft.gt):SoundE X A ft env (.Name "NT_OFFSET" pos) (ah 256):=by
 obtain⟨t,h⟩:=T.ntoff
 exact pQ hx h
theorem C4{pos:Pos}(T:TopF X fa u)(hx:("UNKNOWN" : Str)∈ft.gt):SoundE X A ft env (.Name "UNKNOWN" pos) (mS (.ref u)):=CL hx T.unk
theorem kB{id:String}{x:Str}{np pos:Pos}{e:Expr}{rest:List Expr}{F:List D→Option D}{ps:PL}(T:TopF X fa u)(hx:x∈ft.gt)(hb:(x,Value.builtin id)∈gY)(hL:SoundL X A ft env pos (e::rest) ps)(hC:COk X A (.builtin id) F)
  (he:autoParam (∀env,starEach (e::rest) env=(false,eval e env)::starEach rest env) aR) (hp:autoParam (∀env,(backTo pos (starEach rest env)).any (·.1)=false) aR):SoundE X A ft env (.Call (.Name x np) (e::rest) [] pos) (bo F ps):=
 Cq hx (T.free _ _ hb) (T.blt _ _ hb) hL hC he hp
theorem kI{t:String}{x:Str}{np pos:Pos}{e tgt:Expr}{rest:List Expr}{F:List D→Option (List D)}{ps:PL}(T:TopF X fa u)(hx:x∈ft.gt)(hb:(x,Value.type t)∈gY)(hL:SoundL X A ft env pos (e::rest) ps)(hC:IOk X A tgt (.type t) F)
  (he:autoParam (∀env,starEach (e::rest) env=(false,eval e env)::starEach rest env) aR) (hp:autoParam (∀env,(backTo pos (starEach rest env)).any (·.1)=false) aR):ew X A ft env tgt (.Call (.Name x np) (e::rest) [] pos) (bu F ps):=
 B5 hx (T.free _ _ hb) (T.blt _ _ hb) hL hC he hp
theorem kTy{pos:Pos}{x:Str}{v:Value}(T:TopF X fa u)(hx:x∈ft.gt)(hb:(x,v)∈gY):SoundE X A ft env (.Name x pos) (mS v):=DT hx (T.free _ _ hb) (T.blt _ _ hb)
theorem AN{i:Nat}{x:Str}{k:VK}{np px pos:Pos}(T:TopF X fa u)(hi:ft.nt[i]?=some (x,k))(hx:("len" : Str)∈ft.gt):SoundE X A ft env (.Call (.Name "len" np) [.Name x px] [] pos) (gD i):=
 AA hi hx (T.free _ _ (ae (i:=6) rfl)) (T.blt _ _ (ae (i:=6) rfl))
theorem Bo{i:Nat}{x:Str}{k:VK}{np px pos:Pos}(T:TopF X fa u)(hi:ft.nt[i]?=some (x,k))(hx:("next" : Str)∈ft.gt):SoundE X A ft env (.Call (.Name "next" np) [.Name x px] [] pos) (lg i):=
 Dr hi hx (T.free _ _ (ae (i:=12) rfl)) (T.blt _ _ (ae (i:=12) rfl))
theorem za{i:Nat}{x:Str}{k:VK}{np px pos:Pos}(T:TopF X fa u)(hr:Room A 8)(hi:ft.nt[i]?=some (x,k))(hx:("list" : Str)∈ft.gt):SoundE X A ft env (.Call (.Name "list" np) [.Name x px] [] pos) (i4 i):=
 zY hr hi hx (T.free _ _ (ae (i:=3) rfl)) (T.blt _ _ (ae (i:=3) rfl))
theorem wG{i:Nat}{x:Str}{k:VK}{e:Expr}{np px pos spos:Pos}(T:TopF X fa u)(hi:ft.nt[i]?=some (x,k))(hk:k≠.f)(hx:("iter" : Str)∈ft.gt)(h1:SoundE X A ft env e p)
  (he:autoParam (∀env,starEach [e] env=(false,eval e env)::starEach [] env) aR):aM X A ft env (.Assign [.Name x px] (.Call (.Name "iter" np) [e] [] pos) spos) (ix i p):=
 yN hi hk hx (T.free _ _ (ae (i:=11) rfl)) (T.blt _ _ (ae (i:=11) rfl)) h1 he
theorem qT{np np2 p2 pos:Pos}{e:Expr}(T:TopF X fa u)(hr:Room A 8)(hx:("list" : Str)∈ft.gt)(hx2:("range" : Str)∈ft.gt)(h1:SoundE X A ft env e p)
  (he:autoParam (∀env,starEach [e] env=(false,eval e env)::starEach [] env) aR) :
  SoundE X A ft env (.Call (.Name "list" np) [.Call (.Name "range" np2) [e] [] p2] [] pos) (ey p):=
 q8 hr hx (T.free _ _ (ae (i:=3) rfl)) (T.blt _ _ (ae (i:=3) rfl)) hx2 (T.free _ _ (ae (i:=1) rfl)) (T.blt _ _ (ae (i:=1) rfl)) h1 he
theorem z5{np np2 p2 pos:Pos}{e:Expr}(T:TopF X fa u)(hr:Room A 8)(hx:("len" : Str)∈ft.gt)(hx2:("set" : Str)∈ft.gt)(h1:SoundE X A ft env e p)
  (he:autoParam (∀env,starEach [e] env=(false,eval e env)::starEach [] env) aR) :
  SoundE X A ft env (.Call (.Name "len" np) [.Call (.Name "set" np2) [e] [] p2] [] pos) (iW p):=
 An hr hx (T.free _ _ (ae (i:=6) rfl)) (T.blt _ _ (ae (i:=6) rfl)) hx2 (T.free _ _ (ae (i:=4) rfl)) (T.blt _ _ (ae (i:=4) rfl)) h1 he
end
end Mine
namespace Mine
section
variable{X:Cx}{A:Around}{ft ft':FT}{env:Env}{fa:Nat→Addr}{u:Addr}{p:PE}{tgt:Expr}
noncomputable def pd(p q:PB):PB:=λΓ c=>(p Γ c).bind λ(b,c1)=>if b then some (true,c1)else q Γ c1
theorem DQ{l r:Expr}{pos:Pos}{p q:PB}(h1:SoundB X A ft env l p)(h2:SoundB X A ft env r q):SoundB X A ft env (.BoolOp .Or [l,r] pos) (pd p q):=λΓ σ s d c' I F h=>by
 (refine bE2 h ?_;(try clear h);intro b c1 e1 h)
 refine wpAny_isTrue_BoolOp (wpAny_allTrue_Or_cons (h1.use I F e1 λσ1 s1 q1 I1 x1 F1=>?_))
 subst q1
 cases b with
 | true=>cases h;exact⟨rfl,σ1,rfl,I1,x1⟩
 | false=>
  refine wpAny_allTrue_Or_cons (h2.use I1 F1 h λσ2 s2 q2 I2 x2 F2=>?_)
  subst q2
  cases d with
  | true=>exact⟨rfl,σ2,rfl,I2,x1.trans I1 x2⟩
  | false=>exact wpAny_allTrue_Or_nil ⟨rfl,σ2,rfl,I2,x1.trans I1 x2⟩
theorem uV(hh:A.handled=none)(it:Addr)(x:Str)(t:Tok):IterAt X A tgt (.ref it) (λa=>a=it) NoG
  (λ_ ds s=>∃i:Nat,s.heap.IsStrIter it "str_ascii_iterator" x t i∧ds=(x.cps.toList.drop i).map λc=>D.str ⟨#[c]⟩) where
 self:=λ⟨i,hit,_⟩ _ k=>wpAny_pyIter_striter_ascii hit k
 step:=λ{σ s d ds} I qz1 hW=>by
  obtain⟨i,hit,e⟩:=qz1
  have hi:i<x.cps.toList.length:=by
   apply Nat.lt_of_not_le
   intro h
   rw[List.drop_eq_nil_of_le h]at e;cases e
  rw[List.drop_eq_getElem_cons hi,List.map_cons]at e
  obtain⟨rfl,rfl⟩:=List.cons.inj e
  have hi':i<x.cps.size:=by simpa using hi
  refine wpAny_pyNext_ascii_item hit (c:=x.cps[i]) (by simp[hi']) λh' hit' hs=>⟨_,rfl,iM (λr a e _=>?_) ⟨σ.g,?_,Ext.heap λa o e hw=>(hs.2 a hw).trans e,λa ha=>(hW a ha).1,?_,i+1,hit',rfl⟩⟩
  ·cases e
   obtain⟨o,ho,hc,_⟩:=hit'
   exact⟨o,ho,λn e=>by rw[hc]at e;cases e;decide⟩
  ·exact Mine.Inv.heap (W:=λa=>a=it) I (λa o e hw=>(hs.2 a hw).trans e) λa e=>⟨(hW a e).2,(hW a e).1⟩
  ·simp only[Array.getElem_toList];exact .str _ _
 stop:=λ{σ s} I qz1 hW=>by
  obtain⟨i,hit,e⟩:=qz1
  have hn:x.cps[i]?=none:=by
   have:=congrArg List.length e
   simp at this
   exact Array.getElem?_eq_none (by(first|lia|omega))
  exact wpAny_pyNext_ascii_end hh hit hn λh' hs=>⟨rfl,Mine.Inv.heap (W:=λa=>a=it) (tk:=s.toks) I (λa o e hw=>hs a o hw e) λa e=>⟨(hW a e).2,(hW a e).1⟩,Ext.heap (tk:=s.toks) λa o e hw=>hs a o hw e⟩
 frame:=λqz1 _ _ _ hk _=>by
  obtain⟨i,hit,e⟩:=qz1
  obtain⟨o,ho,r⟩:=hit
  exact⟨i,⟨o,hk _ _ rfl ho,r⟩,e⟩
 there:=λ⟨i,⟨o,ho,_⟩,e⟩ a ea=>⟨o,ea▸ho⟩
noncomputable def nH(p:PE):PL:=λΓ c=>(p Γ c).bind λ(a,c1)=>match a with
 | .str x=>if x.cps.all (·<128)=true then some (x.cps.toList.map λc=>D.str ⟨#[c]⟩,c1)else none
 | _=>none
theorem C5{e:Expr}{p:PE}(hr:Room A 8)(h1:SoundE X A ft env e p):ew X A ft env tgt e (nH p):=λΓ σ s ds c' I F h=>by
 (refine bE2 h ?_;(try clear h);intro a c1 e1 h)
 refine h1.use I F e1 λv σ1 s1 q1 I1 x1 F1 r1=>?_
 subst q1
 have nn:s1.heap.get? s1.heap.objs.size=none:=get?_push_none
 dsimp only at h
 (first|(refine iE h ?_ ?_<;>(clear h;intro _ h))|split at h)
 ·rename_i x
  (first|(refine iE h ?_ ?_<;>(clear h;intro _ h))|split at h)
  ·rename_i ha
   cases h
   cases r1 with
   | str _ t=>
    obtain⟨I2,x2⟩:=jK (o:={ cls:=.type "str_ascii_iterator",data:=.fields #[.str x t,.int 0 0] }) (tk:=s1.toks) I1
    refine wpAny_pyIter_ascii ha (PostI.of ⟨σ1,_,_,_,rfl,I2,x1.trans I1 x2,uV hr.hand s1.heap.objs.size x t,⟨0,⟨_,Heap.get?_push_size _ rfl,rfl,rfl⟩,by rw[List.drop_zero]⟩,?_,λ_ h=>h.elim⟩)
    rintro a rfl
    refine⟨?_,(I1.notIn nn).2,(I1.notIn nn).1⟩
    rcases Ext.back I1 x1 nn with h|h
    ·exact h
    ·exact h.elim
  ·cases h
 ·cases h
noncomputable abbrev sV:FT:=⟨[("addr",.l),("pos",.l),("escape",.l),("ch",.l)],["enumerate"],none⟩
theorem rF:("\\" : Str)=bsl:=by decide +kernel
theorem rS(T:TopF X fa u):qj X sV (rJ 8) (fnB 8):=λenv he A gi a x hr hne s₀ I F run ha hag=>
 vN (xaddr:="addr") (xpos:="pos") (xesc:="escape") hr (by decide) rfl rfl rfl rfl (by rw[he];rfl) (ae (i:=0) rfl) (T.free _ _ (ae (i:=0) rfl)) (T.blt _ _ (ae (i:=0) rfl))
  (λA hr=>gG hr (.cons (i:=1) rfl (by decide) (.cons (i:=3) rfl (by decide) .nil))) (λA hr=>jS (aq rfl)) (λA hr=>ck hr (aq rfl) (bq rF)) (λA hr=>jS (aq rfl))
  (λA hr=>ar (aq rfl) (ar (aJ (bq rF) (aq rfl)) aH)) (λA hr=>ar (aq rfl) (ar (aq rfl) aH)) (λA hr=>ar (aq rfl) (ar (bq rF) aH))
  (λA hr=>dq rfl (by decide) dX) (λA hr=>dq rfl (by decide) dX) I F run ha hag hne
theorem rN:Binds 8 ["addr"]:=fv λ_ _=>rfl
theorem BO{np pos:Pos}{e:Expr}(T:TopF X fa u)(hr:Room A 11)(hx:("_iter_escaped_chars" : Str)∈ft.gt)(h1:SoundE X A ft env e p)(he:autoParam (∀env,starEach [e] env=(false,eval e env)::starEach [] env) aR) :
  ew X A ft env tgt (.Call (.Name "_iter_escaped_chars" np) [e] [] pos) (pS p):=by
 obtain⟨o,fd,K⟩:=T.fn 8 "_iter_escaped_chars" (ae (i:=3) rfl)
 exact D6 (ftg:=sV) (xaddr:="addr") T.top hr hx K.nm K.ho K.hd K.hcd K.hb (by rw[K.sc];decide +kernel) (by rw[K.sc];decide +kernel) K.gl K.bl (by rw[K.sc];exact fits (by decide +kernel)) (by decide) rfl rfl
  (λv=>rN fd K.hp K.df K.kd [v] rfl) (by rw[K.sc];exact rS T) h1 (λ_ h=>by cases h) he
end
end Mine
end
section
open PySem PySem.Calls PySem.Spec PyProof PyProof.Rows PySem.W
set_option maxRecDepth 20000
set_option maxHeartbeats 4000000
namespace Mine
variable{X:Cx}{fa:Nat→Addr}{u:Addr}
noncomputable abbrev uo:FT:=⟨[("flags",.l),("names",.l),("i",.l),("flag",.l)],["range","COMPILER_FLAG_NAMES","hex"],none⟩
theorem ou:Binds 2 ["flags"]:=fv λ_ _=>rfl
noncomputable def pW:PS:=ak (jj 1 (aw)) (ak (fC (.n 2) (bu cL (ag (ah 32) (aw))) (ak (bf 3 (ao .LShift (ah 1) (aa 2))) (ak (qIf (cV (ao .BitAnd (aa 0) (aa 3))) (ak (dK 1 (qB dc (aa 3) (bo lj (ag (aa 3) (aw))))) (ak (f6 0 .BitXor (aa 3)) (ak (qIf (m6 (cV (aa 0))) (ak (B2) (aG)) (aG)) (aG)))) (aG)) (aG))) (ak (dK 1 (bo lj (ag (aa 0) (aw)))) (aG))) (ak (dS (bO "str" dg (aZ ⟨#[44,32]⟩) (ag (aa 1) (aw)))) (aG)))
theorem wD(T:TopF X fa u):∀A env,Room A 14→bh X A uo env (fnB 2) pW:=λA env hr=>
 (az (mM (i:=1) rfl (by decide) aH) (az (jU (hr.le (by(first|lia|omega))) (kI T (ae (i:=0) rfl) (ae (i:=1) rfl) (ar aC aH) (gg (hr.le (by(first|lia|omega))))) (bW (i:=2) rfl (by decide)) (az (dq (i:=3) rfl (by decide) (aJ aC (aq (i:=2) rfl))) (az (ib (jS (aJ (aq (i:=0) rfl) (aq (i:=3) rfl))) (az (iy (i:=1) rfl (Ez T (ae (i:=1) rfl) (aq (i:=3) rfl) (kB T (ae (i:=2) rfl) (ae (i:=10) rfl) (ar (aq (i:=3) rfl) aH) Ar))) (az (u5 (i:=0) rfl (by decide) (aq (i:=3) rfl)) (az (ib (CU (jS (aq (i:=0) rfl))) (az Ej aO) aO) aO))) aO) aO)) (az (iy (i:=1) rfl (kB T (ae (i:=2) rfl) (ae (i:=10) rfl) (ar (aq (i:=0) rfl) aH) Ar)) aO)) (az (fD (fU (bq (by decide +kernel)) (ar (aq (i:=1) rfl) aH) F.plainAttrs_str F.slot_str_join F.type_str_join ja)) aO)))
noncomputable def lV:List D→Option D:=dj (cB 4 1 pW)
noncomputable abbrev jG:PF:=ee lV
theorem nK(T:TopF X fa u):FnOk X 15 (.ref (fa 2)) jG:=(kFn T (ae (i:=0) rfl) (by decide +kernel) (by decide +kernel) (fits (by decide +kernel)) (by decide +kernel) rfl rfl (by decide +kernel) ou rfl (wD T)).fresh
noncomputable abbrev vH:FT:=⟨[("iterator",.l),("b",.l),("val",.l)],["next"],none⟩
theorem om:Binds 6 ["iterator"]:=fv λ_ _=>rfl
noncomputable def mO:PS:=ak (bf 1 (lg 0)) (ak (bf 2 (ao .BitAnd (aa 1) (ah 63))) (ak (wI 8 (cV (ao .BitAnd (aa 1) (ah 64))) (ak (f6 2 .LShift (ah 6)) (ak (bf 1 (lg 0)) (ak (f6 2 .BitOr (ao .BitAnd (aa 1) (ah 63))) (aG))))) (ak (dS (aa 2)) (aG))))
theorem y4(T:TopF X fa u):∀A env,Room A 14→bh X A vH env (fnB 6) mO:=λA env hr=>
 (az (dq (i:=1) rfl (by decide) (Bo T (i:=0) rfl (ae (i:=0) rfl))) (az (dq (i:=2) rfl (by decide) (aJ (aq (i:=1) rfl) aC)) (az (Cz (n:=8) (hr.le (by(first|lia|omega))) (jS (aJ (aq (i:=1) rfl) aC)) (az (u5 (i:=2) rfl (by decide) aC) (az (dq (i:=1) rfl (by decide) (Bo T (i:=0) rfl (ae (i:=0) rfl))) (az (u5 (i:=2) rfl (by decide) (aJ (aq (i:=1) rfl) aC)) aO)))) (az (fD (aq (i:=2) rfl)) aO))))
noncomputable def gA:PF:=cB 3 1 mO
theorem vk(T:TopF X fa u):FnOk X 15 (.ref (fa 6)) gA:=kFn T (ae (i:=2) rfl) (by decide +kernel) (by decide +kernel) (fits (by decide +kernel)) (by decide +kernel) rfl rfl (by decide +kernel) om rfl (y4 T)
noncomputable abbrev yV:FT:=⟨[("addr",.l),("start",.l),("open_pos",.l),("result",.l),("pos",.l),("ch",.l)],["_iter_escaped_chars","len"],none⟩
theorem pg:Binds 9 ["addr"]:=fv λ_ _=>rfl
noncomputable def oU:PS:=ak (qIf (aD .NotIn (aZ ⟨#[34]⟩) (aa 0)) (ak (dS (aa 0)) (aG)) (aG)) (ak (bf 1 (ah 0)) (ak (bf 2 (fN)) (ak (jj 3 (aw)) (ak (fC (.t [4,5]) (pS (aa 0)) (ak (qIf (aD .Eq (aa 5) (aZ ⟨#[34]⟩)) (ak (qIf (aD .Is (aa 2) (fN)) (ak (bf 2 (aa 4)) (aG)) (ak (qIf (aD .NotEq (aa 1) (aa 2)) (ak (dK 3 (aV (aa 0) (aP (aa 1)) (aP (aa 2)) (aA))) (aG)) (aG)) (ak (bf 1 (ao .Add (aa 4) (ah 1))) (ak (bf 2 (fN)) (aG))))) (aG)) (aG)) (aG)) (aG)) (ak (qIf (aD .Lt (aa 1) (bo d9 (ag (aa 0) (aw)))) (ak (dK 3 (aV (aa 0) (aP (aa 1)) (aA) (aA))) (aG)) (aG)) (ak (dS (bO "str" dg (aZ ⟨#[]⟩) (ag (aa 3) (aw)))) (aG)))))))
theorem zK(T:TopF X fa u):∀A env,Room A 14→bh X A yV env (fnB 9) oU:=λA env hr=>
 (az (ib (ck (hr.le (by(first|lia|omega))) (bq (by decide +kernel)) (aq (i:=0) rfl)) (az (fD (aq (i:=0) rfl)) aO) aO) (az (dq (i:=1) rfl (by decide) aC) (az (dq (i:=2) rfl (by decide) lQ) (az (mM (i:=3) rfl (by decide) aH) (az (jU (hr.le (by(first|lia|omega))) (BO T (hr.le (by(first|lia|omega))) (ae (i:=0) rfl) (aq (i:=0) rfl)) (gG (hr.le (by(first|lia|omega))) (.cons (i:=4) rfl (by decide) (.cons (i:=5) rfl (by decide) .nil))) (az (ib (ck (hr.le (by(first|lia|omega))) (aq (i:=5) rfl) (bq (by decide +kernel))) (az (ib (ck (hr.le (by(first|lia|omega))) (aq (i:=2) rfl) lQ) (az (dq (i:=2) rfl (by decide) (aq (i:=4) rfl)) aO) (az (ib (ck (hr.le (by(first|lia|omega))) (aq (i:=1) rfl) (aq (i:=2) rfl)) (az (iy (i:=3) rfl (dz (aq (i:=0) rfl) (cY (aq (i:=1) rfl)) (cY (aq (i:=2) rfl)) bz)) aO) aO) (az (dq (i:=1) rfl (by decide) (aJ (aq (i:=4) rfl) aC)) (az (dq (i:=2) rfl (by decide) lQ) aO)))) aO) aO) aO) aO) (az (ib (ck (hr.le (by(first|lia|omega))) (aq (i:=1) rfl) (kB T (ae (i:=1) rfl) (ae (i:=6) rfl) (ar (aq (i:=0) rfl) aH) nU)) (az (iy (i:=3) rfl (dz (aq (i:=0) rfl) (cY (aq (i:=1) rfl)) bz bz)) aO) aO) (az (fD (fU (bq (by decide +kernel)) (ar (aq (i:=3) rfl) aH) F.plainAttrs_str F.slot_str_join F.type_str_join ja)) aO)))))))
noncomputable def sN:List D→Option D:=dj (cB 6 1 oU)
noncomputable abbrev lu:PF:=ee sN
theorem p0(T:TopF X fa u):FnOk X 15 (.ref (fa 9)) lu:=(kFn T (ae (i:=4) rfl) (by decide +kernel) (by decide +kernel) (fits (by decide +kernel)) (by decide +kernel) rfl rfl (by decide +kernel) pg rfl (zK T)).fresh
noncomputable abbrev xa:FT:=⟨[("addr",.l),("opens",.l),("pos",.l),("ch",.l)],["_strip_quoted_realnames","_iter_escaped_chars"],none⟩
theorem qC:Binds 10 ["addr"]:=fv λ_ _=>rfl
noncomputable def sj:PS:=ak (bf 0 (aI lu (aF (aa 0) (aW)))) (ak (bf 1 (ah 0)) (ak (fC (.t [2,3]) (pS (aa 0)) (ak (qIf (aD .Eq (aa 3) (aZ ⟨#[40]⟩)) (ak (f6 1 .Add (ah 1)) (aG)) (ak (qIf (aD .Eq (aa 3) (aZ ⟨#[41]⟩)) (ak (f6 1 .Sub (ah 1)) (ak (qIf (aD .Lt (aa 1) (ah 0)) (ak (dS (b7 false)) (aG)) (aG)) (aG))) (aG)) (aG))) (aG)) (aG)) (ak (dS (gv .Eq (aa 1) (ah 0))) (aG))))
theorem zM(T:TopF X fa u):∀A env,Room A 16→bh X A xa env (fnB 10) sj:=λA env hr=>
 (az (dq (i:=0) rfl (by decide) (cw T (ae (i:=0) rfl) (ae (i:=4) rfl) (bM (aq (i:=0) rfl) ed) (p0 T) hr (by(first|lia|omega)))) (az (dq (i:=1) rfl (by decide) aC) (az (jU (hr.le (by(first|lia|omega))) (BO T (hr.le (by(first|lia|omega))) (ae (i:=1) rfl) (aq (i:=0) rfl)) (gG (hr.le (by(first|lia|omega))) (.cons (i:=2) rfl (by decide) (.cons (i:=3) rfl (by decide) .nil))) (az (ib (ck (hr.le (by(first|lia|omega))) (aq (i:=3) rfl) (bq (by decide +kernel))) (az (u5 (i:=1) rfl (by decide) aC) aO) (az (ib (ck (hr.le (by(first|lia|omega))) (aq (i:=3) rfl) (bq (by decide +kernel))) (az (u5 (i:=1) rfl (by decide) aC) (az (ib (ck (hr.le (by(first|lia|omega))) (aq (i:=1) rfl) aC) (az (fD dX) aO) aO) aO)) aO) aO)) aO) aO) (az (fD (mQ (hr.le (by(first|lia|omega))) (aq (i:=1) rfl) aC)) aO))))
noncomputable def jE:List D→Option D:=dj (cB 4 1 sj)
noncomputable abbrev dw:PF:=ee jE
theorem iw(T:TopF X fa u):FnOk X 17 (.ref (fa 10)) dw:=(kFn T (ae (i:=5) rfl) (by decide +kernel) (by decide +kernel) (fits (by decide +kernel)) (by decide +kernel) rfl rfl (by decide +kernel) qC rfl (zM T)).fresh
noncomputable abbrev BZ:FT:=⟨[("x",.l)],["NT_OFFSET"],none⟩
theorem uU:Binds 63 ["x"]:=fv λ_ _=>rfl
noncomputable def yC:PS:=ak (dS (gv .Lt (aa 0) (ah 256))) (aG)
theorem Dj(T:TopF X fa u):∀A env,Room A 14→bh X A BZ env (fnB 63) yC:=λA env hr=>
 (az (fD (mQ (hr.le (by(first|lia|omega))) (aq (i:=0) rfl) (kNt T (ae (i:=0) rfl)))) aO)
noncomputable def Bc:List D→Option D:=dj (cB 1 1 yC)
noncomputable abbrev nJ:PF:=ee Bc
theorem yv(T:TopF X fa u):FnOk X 15 (.ref (fa 63)) nJ:=(kFn T (ae (i:=6) rfl) (by decide +kernel) (by decide +kernel) (fits (by decide +kernel)) (by decide +kernel) rfl rfl (by decide +kernel) uU rfl (Dj T)).fresh
noncomputable abbrev BY:FT:=⟨[("x",.l)],["NT_OFFSET"],none⟩
theorem vf:Binds 64 ["x"]:=fv λ_ _=>rfl
noncomputable def xI:PS:=ak (dS (gv .GtE (aa 0) (ah 256))) (aG)
theorem C9(T:TopF X fa u):∀A env,Room A 14→bh X A BY env (fnB 64) xI:=λA env hr=>
 (az (fD (mQ (hr.le (by(first|lia|omega))) (aq (i:=0) rfl) (kNt T (ae (i:=0) rfl)))) aO)
noncomputable def AZ:List D→Option D:=dj (cB 1 1 xI)
noncomputable abbrev nM:PF:=ee AZ
theorem xu(T:TopF X fa u):FnOk X 15 (.ref (fa 64)) nM:=(kFn T (ae (i:=7) rfl) (by decide +kernel) (by decide +kernel) (fits (by decide +kernel)) (by decide +kernel) rfl rfl (by decide +kernel) vf rfl (C9 T)).fresh
noncomputable abbrev Bs:FT:=⟨[("x",.l)],["ENDMARKER"],none⟩
theorem uB:Binds 65 ["x"]:=fv λ_ _=>rfl
noncomputable def wH:PS:=ak (dS (gv .Eq (aa 0) (ah 0))) (aG)
theorem Dg(T:TopF X fa u):∀A env,Room A 14→bh X A Bs env (fnB 65) wH:=λA env hr=>
 (az (fD (mQ (hr.le (by(first|lia|omega))) (aq (i:=0) rfl) (D1 T (ae (i:=0) rfl)))) aO)
noncomputable def A7:List D→Option D:=dj (cB 1 1 wH)
noncomputable abbrev nG:PF:=ee A7
theorem xd(T:TopF X fa u):FnOk X 15 (.ref (fa 65)) nG:=(kFn T (ae (i:=8) rfl) (by decide +kernel) (by decide +kernel) (fits (by decide +kernel)) (by decide +kernel) rfl rfl (by decide +kernel) uB rfl (Dg T)).fresh
end Mine
namespace Mine
variable{X:Cx}{fa:Nat→Addr}{u:Addr}
noncomputable abbrev rU:FT:=⟨[("cells",.l),("pool",.l),("letters",.l),("cell",.l)],["len"],none⟩
theorem mR:Binds 67 ["cells"]:=fv λ_ _=>rfl
noncomputable def kz:PS:=ak (bf 1 (aZ ⟨#[43,45,47,38,60,62,61,37,126,94]⟩)) (ak (jj 2 (aw)) (ak (fC (.n 3) (cC (aa 0)) (fJ 2 1 (ao .Mod (aa 3) (bo d9 (ag (aa 1) (aw))))) (aG)) (ak (dS (aa 2)) (aG))))
theorem vD(T:TopF X fa u):∀A env,Room A 14→bh X A rU env (fnB 67) kz:=λA env hr=>
 (az (dq (i:=1) rfl (by decide) (bq (by decide +kernel))) (az (mM (i:=2) rfl (by decide) aH) (az (jU (hr.le (by(first|lia|omega))) (eM (hr.le (by(first|lia|omega))) (aq (i:=0) rfl)) (bW (i:=3) rfl (by decide)) (xV (iL:=2) (iP:=1) rfl rfl (by decide) (aJ (aq (i:=3) rfl) (kB T (ae (i:=0) rfl) (ae (i:=6) rfl) (ar (aq (i:=1) rfl) aH) nU)) (by decide +kernel)) aO) (az (fD (aq (i:=2) rfl)) aO))))
noncomputable def ky:List D→Option D:=dj (cB 4 1 kz)
noncomputable abbrev mZ:PF:=ee ky
theorem sd(T:TopF X fa u):FnOk X 15 (.ref (fa 67)) mZ:=(kFn T (ae (i:=9) rfl) (by decide +kernel) (by decide +kernel) (fits (by decide +kernel)) (by decide +kernel) rfl rfl (by decide +kernel) mR rfl (vD T)).fresh
noncomputable abbrev xe:FT:=⟨[("cells",.l),("letters",.l),("rows",.l),("turn",.l),("k",.l)],["range","len"],none⟩
noncomputable abbrev qX:FT:=⟨[("letter",.l)],[],none⟩
theorem pX:Binds 68 ["cells","letters"]:=yn λ_ _ _=>rfl
noncomputable def oR:PS:=ak (bf 2 (aX [none] (cC (aa 1)) (.n 0) (cn) (aQ (aK (ag (aa 0) (aw)))))) (ak (fC (.n 3) (bu cL (ag (ah 3) (aw))) (ak (bf 4 (ao .Mod (ao .Mod (ao .FloorDiv (a9 (aa 0) (aa 3)) (ah 10)) (ah 12)) (ao .Sub (bo d9 (ag (aa 2) (aw))) (ah 1)))) (ak (bf 2 (ao .Add (ao .Add (aV (aa 2) (aA) (aP (aa 4)) (aA)) (aK (ag (ao .Add (ao .Add (ao .Add (ao .Add (aK (ag (aZ ⟨#[40]⟩) (aw))) (a9 (aa 2) (aa 4))) (aK (ag (a9 (aZ ⟨#[42,124]⟩) (ao .Mod (ao .FloorDiv (a9 (aa 0) (aa 3)) (ah 120)) (ah 2))) (aw)))) (a9 (aa 2) (ao .Add (aa 4) (ah 1)))) (aK (ag (aZ ⟨#[41]⟩) (aw)))) (aw)))) (aV (aa 2) (aP (ao .Add (aa 4) (ah 2))) (aA) (aA)))) (aG))) (aG)) (ak (dS (a9 (aa 2) (ah 0))) (aG)))
theorem zF(T:TopF X fa u):∀A env,Room A 14→bh X A xe env (fnB 68) oR:=λA env hr=>
 (az (fS (i:=2) rfl (ft':=qX) (js:=[none]) (fits (by decide +kernel)) (.l .nil) (eM (hr.le (by(first|lia|omega))) (aq (i:=1) rfl)) (λ_=>(bW (i:=0) rfl (by decide))) (λ_=>cH) (λ_=>(bI (ar (aq (i:=0) rfl) aH)))) (az (jU (hr.le (by(first|lia|omega))) (kI T (ae (i:=0) rfl) (ae (i:=1) rfl) (ar aC aH) (gg (hr.le (by(first|lia|omega))))) (bW (i:=3) rfl (by decide)) (az (dq (i:=4) rfl (by decide) (aJ (aJ (aJ (dH (aq (i:=0) rfl) (aq (i:=3) rfl)) aC) aC) (aJ (kB T (ae (i:=1) rfl) (ae (i:=6) rfl) (ar (aq (i:=2) rfl) aH) nU) aC))) (az (dq (i:=2) rfl (by decide) (aJ (aJ (dz (aq (i:=2) rfl) bz (cY (aq (i:=4) rfl)) bz) (bI (ar (aJ (aJ (aJ (aJ (bI (ar (bq (by decide +kernel)) aH)) (dH (aq (i:=2) rfl) (aq (i:=4) rfl))) (bI (ar (dH (bq (by decide +kernel)) (aJ (aJ (dH (aq (i:=0) rfl) (aq (i:=3) rfl)) aC) aC)) aH))) (dH (aq (i:=2) rfl) (aJ (aq (i:=4) rfl) aC))) (bI (ar (bq (by decide +kernel)) aH))) aH))) (dz (aq (i:=2) rfl) (cY (aJ (aq (i:=4) rfl) aC)) bz bz))) aO)) aO) (az (fD (dH (aq (i:=2) rfl) aC)) aO)))
noncomputable def oG:List D→Option D:=dj (cB 5 2 oR)
noncomputable abbrev sE:PF:=ee oG
theorem yh(T:TopF X fa u):FnOk X 15 (.ref (fa 68)) sE:=(kFn T (ae (i:=10) rfl) (by decide +kernel) (by decide +kernel) (fits (by decide +kernel)) (by decide +kernel) rfl rfl (by decide +kernel) pX rfl (zF T)).fresh
noncomputable abbrev uW:FT:=⟨[("numbers",.l),("cells",.l),("total",.c),("octets",.l),("k",.l),("number",.c)],["enumerate"],none⟩
noncomputable abbrev qd:FT:=⟨[("high",.l),("number",.f)],[],none⟩
noncomputable abbrev qE:FT:=⟨[("place",.l),("octet",.l),("total",.f)],[],none⟩
theorem oq:Binds 69 ["numbers","cells","total"]:=wF λ_ _ _ _=>rfl
noncomputable def qp:PS:=ak (jj 3 (aw)) (ak (fC (.t [4,5]) (bu ff (ag (aa 0) (aw))) (ak (ll 3 (ao .Mult (aK (ag (ah 64) (aw))) (ao .FloorDiv (ao .Mod (ao .FloorDiv (a9 (aa 1) (ao .Mod (aa 4) (ah 4))) (ah 16)) (ah 4)) (ah 3)))) (ak (ll 3 (ao .Add (aX [none,some 5] (cC (aK (ag (ah 2) (ag (ah 1) (aw))))) (.n 0) (aD .GtE (aa 1) (ao .Pow (ah 64) (aa 0))) (aQ (ao .Add (ao .Mod (ao .FloorDiv (aa 1) (ao .Pow (ah 64) (aa 0))) (ah 64)) (ah 64)))) (aK (ag (ao .Mod (aa 5) (ah 64)) (aw))))) (aG))) (aG)) (ak (dS (aX [none,none,some 2] (bu ff (ag (aa 3) (aw))) (.t [0,1]) (cn) (aQ (pIf (aD .Eq (ao .Mod (ao .Add (aa 0) (aa 2)) (ah 3)) (ah 0)) (ao .Add (aa 1) (ah 128)) (aa 1))))) (aG)))
theorem xW(T:TopF X fa u):∀A env,Room A 14→bh X A uW env (fnB 69) qp:=λA env hr=>
 (az (mM (i:=3) rfl (by decide) aH) (az (jU (hr.le (by(first|lia|omega))) (kI T (ae (i:=0) rfl) (ae (i:=0) rfl) (ar (aq (i:=0) rfl) aH) (jd (hr.le (by(first|lia|omega))))) (gG (hr.le (by(first|lia|omega))) (.cons (i:=4) rfl (by decide) (.cons (i:=5) rfl (by decide) .nil))) (az (zw (i:=3) rfl (aJ (bI (ar aC aH)) (aJ (aJ (aJ (dH (aq (i:=1) rfl) (aJ (aq (i:=4) rfl) aC)) aC) aC) aC))) (az (zw (i:=3) rfl (aJ (cb (ft':=qd) (js:=[none,some 5]) (fits (by decide +kernel)) (.l (.f (j:=5) rfl (by decide) .nil)) (eM (hr.le (by(first|lia|omega))) (bI (ar aC (ar aC aH)))) (λ_=>(bW (i:=0) rfl (by decide))) (λ_=>(jg (ck (hr.le (by(first|lia|omega))) (aq (i:=1) rfl) (aJ aC (aq (i:=0) rfl))))) (λ_=>(aJ (aJ (aJ (aq (i:=1) rfl) (aJ aC (aq (i:=0) rfl))) aC) aC))) (bI (ar (aJ (aq (i:=5) rfl) aC) aH)))) aO)) aO) (az (fD (cb (ft':=qE) (js:=[none,none,some 2]) (fits (by decide +kernel)) (.l (.l (.f (j:=2) rfl (by decide) .nil))) (kI T (ae (i:=0) rfl) (ae (i:=0) rfl) (ar (aq (i:=3) rfl) aH) (jd (hr.le (by(first|lia|omega))))) (λ_=>(gG (hr.le (by(first|lia|omega))) (.cons (i:=0) rfl (by decide) (.cons (i:=1) rfl (by decide) .nil)))) (λ_=>cH) (λ_=>(sIf (ck (hr.le (by(first|lia|omega))) (aJ (aJ (aq (i:=0) rfl) (aq (i:=2) rfl)) aC) aC) (aJ (aq (i:=1) rfl) aC) (aq (i:=1) rfl))))) aO)))
noncomputable def qK:List D→Option D:=dj (cB 6 3 qp)
noncomputable abbrev pn:PF:=ee qK
theorem ux(T:TopF X fa u):FnOk X 15 (.ref (fa 69)) pn:=(kFn T (ae (i:=11) rfl) (by decide +kernel) (by decide +kernel) (fits (by decide +kernel)) (by decide +kernel) rfl rfl (by decide +kernel) oq rfl (xW T)).fresh
noncomputable abbrev wu:FT:=⟨[("tape",.l),("order",.l),("sets",.l),("turn",.l),("number",.l)],["range","_parse_varint","ISEOF","ISTERMINAL","ISNONTERMINAL"],none⟩
theorem qc:Binds 70 ["tape"]:=fv λ_ _=>rfl
noncomputable def oW:PS:=ak (CD 1 2) (ak (fC (.n 3) (bu cL (ag (ah 21) (aw))) (ak (bf 4 (aI gA (d5 0 (aW)))) (ak (qIf (cV (aI nG (aF (aa 4) (aW)))) (ak (dS (de (ag (aa 1) (ag (aa 2) (aw))))) (aG)) (aG)) (ak (qIf (cV (aI nJ (aF (aa 4) (aW)))) (ak (dK 1 (aa 4)) (aG)) (aG)) (ak (qIf (cV (aI nM (aF (aa 4) (aW)))) (ak (dK 2 (ao .Sub (aa 4) (ah 256))) (aG)) (aG)) (aG))))) (aG)) (ak (dS (de (ag (aK (aw)) (ag (aK (aw)) (aw))))) (aG)))
theorem AS(T:TopF X fa u):∀A env,Room A 16→bh X A wu env (fnB 70) oW:=λA env hr=>
 (az (Ei (i:=1) (j:=2) (hr.le (by(first|lia|omega))) rfl rfl) (az (jU (hr.le (by(first|lia|omega))) (kI T (ae (i:=0) rfl) (ae (i:=1) rfl) (ar aC aH) (gg (hr.le (by(first|lia|omega))))) (bW (i:=3) rfl (by decide)) (az (dq (i:=4) rfl (by decide) (cw T (ae (i:=1) rfl) (ae (i:=2) rfl) (rE (i:=0) rfl ed) (vk T) hr (by(first|lia|omega)))) (az (ib (jS (cw T (ae (i:=2) rfl) (ae (i:=8) rfl) (bM (aq (i:=4) rfl) ed) (xd T) hr (by(first|lia|omega)))) (az (fD (eN (ar (aq (i:=1) rfl) (ar (aq (i:=2) rfl) aH)))) aO) aO) (az (ib (jS (cw T (ae (i:=3) rfl) (ae (i:=6) rfl) (bM (aq (i:=4) rfl) ed) (yv T) hr (by(first|lia|omega)))) (az (iy (i:=1) rfl (aq (i:=4) rfl)) aO) aO) (az (ib (jS (cw T (ae (i:=4) rfl) (ae (i:=7) rfl) (bM (aq (i:=4) rfl) ed) (xu T) hr (by(first|lia|omega)))) (az (iy (i:=2) rfl (aJ (aq (i:=4) rfl) aC)) aO) aO) aO)))) aO) (az (fD (eN (ar (bI aH) (ar (bI aH) aH)))) aO)))
noncomputable def ly:PF:=cB 5 1 oW
theorem yG(T:TopF X fa u):FnOk X 17 (.ref (fa 70)) ly:=kFn T (ae (i:=12) rfl) (by decide +kernel) (by decide +kernel) (fits (by decide +kernel)) (by decide +kernel) rfl rfl (by decide +kernel) qc rfl (AS T)
end Mine
namespace Mine
variable{X:Cx}{fa:Nat→Addr}{u:Addr}
noncomputable abbrev ze:FT:=⟨[("texts",.l),("signs",.c),("nodes",.l),("asked",.l),("k",.l),("number",.l)],["len","_check_parenthesis","range","EXACT_TOKEN_TYPES","_law_tree"],none⟩
noncomputable abbrev vC:FT:=⟨[("end",.l),("signs",.f)],[],none⟩
theorem rZ:Binds 71 ["texts","signs","nodes","asked"]:=qO λ_ _ _ _ _=>rfl
noncomputable def kl(self:PF):PS:=ak (qIf (aD .Eq (bo d9 (ag (aa 1) (aw))) (ah 1)) (ak (dS (de (ag (a9 (aa 1) (ah 0)) (aw)))) (aG)) (aG)) (ak (dK 3 (de (ag (aK (ag (gv .Is (aI dw (aF (bO "str" dg (aZ ⟨#[]⟩) (ag (aa 0) (aw))) (aW))) (b7 true)) (ag (gv .Is (aI dw (aF (bO "str" dg (aZ ⟨#[]⟩) (ag (ao .Add (aV (aa 0) (aP (gJ (ah 1))) (aA) (aA)) (aV (aa 0) (aA) (aP (ah 1)) (aA))) (aw))) (aW))) (b7 false)) (aw)))) (ag (aK (ag (b7 true) (ag (b7 true) (aw)))) (aw))))) (ak (fC (.n 4) (cC (ao .Add (aK (ag (ah 2) (aw))) (aX [none,some 1] (bu cL (ag (ah 3) (ag (ao .Sub (bo d9 (ag (aa 1) (aw))) (ah 1)) (aw)))) (.n 0) (aD .Eq (a9 (aa 1) (ao .Sub (aa 0) (ah 1))) (aZ ⟨#[41]⟩)) (aQ (aa 0))))) (ak (qIf (cV (aI dw (aF (bO "str" dg (aZ ⟨#[]⟩) (ag (aV (aa 0) (aP (ah 1)) (aP (aa 4)) (aA)) (aw))) (aW)))) (ak (dK 2 (aa 4)) (ak (bf 5 (ao .Add (gD 2) (ah 1))) (ak (dS (de (ag (mq bN (a9 (aa 1) (aa 4))) (ag (aa 5) (ag (aI self (aF (aV (aa 0) (aP (ah 1)) (aP (aa 4)) (aA)) (aF (aV (aa 1) (aP (ah 1)) (aP (aa 4)) (aA)) (d5 2 (d5 3 (aW)))))) (ag (aI self (aF (aV (aa 0) (aP (ao .Add (aa 4) (ah 1))) (aP (gJ (ah 1))) (aA)) (aF (aV (aa 1) (aP (ao .Add (aa 4) (ah 1))) (aP (gJ (ah 1))) (aA)) (d5 2 (d5 3 (aW)))))) (aw))))))) (aG)))) (aG)) (aG)) (aG)) (ak (dS (de (aw))) (aG))))
theorem BN{n:Nat}(T:TopF X fa u)(hn:17≤n){self:PF}(ih:FnOk X n (.ref (fa 71)) self):∀A env,Room A n→bh X A ze env (fnB 71) (kl self):=λA env hr=>
 (az (ib (ck (hr.le (by(first|lia|omega))) (kB T (ae (i:=0) rfl) (ae (i:=6) rfl) (ar (aq (i:=1) rfl) aH) nU) aC) (az (fD (eN (ar (dH (aq (i:=1) rfl) aC) aH))) aO) aO) (az (iy (i:=3) rfl (eN (ar (bI (ar (mQ (hr.le (by(first|lia|omega))) (cw T (ae (i:=1) rfl) (ae (i:=5) rfl) (bM (fU (bq (by decide +kernel)) (ar (aq (i:=0) rfl) aH) F.plainAttrs_str F.slot_str_join F.type_str_join ja) ed) (iw T) hr (by(first|lia|omega))) dX) (ar (mQ (hr.le (by(first|lia|omega))) (cw T (ae (i:=1) rfl) (ae (i:=5) rfl) (bM (fU (bq (by decide +kernel)) (ar (aJ (dz (aq (i:=0) rfl) (cY (xK aC)) bz bz) (dz (aq (i:=0) rfl) bz (cY aC) bz)) aH) F.plainAttrs_str F.slot_str_join F.type_str_join ja) ed) (iw T) hr (by(first|lia|omega))) dX) aH))) (ar (bI (ar dX (ar dX aH))) aH)))) (az (jU (hr.le (by(first|lia|omega))) (eM (hr.le (by(first|lia|omega))) (aJ (bI (ar aC aH)) (cb (ft':=vC) (js:=[none,some 1]) (fits (by decide +kernel)) (.l (.f (j:=1) rfl (by decide) .nil)) (kI T (ae (i:=2) rfl) (ae (i:=1) rfl) (ar aC (ar (aJ (kB T (ae (i:=0) rfl) (ae (i:=6) rfl) (ar (aq (i:=1) rfl) aH) nU) aC) aH)) (gg (hr.le (by(first|lia|omega))))) (λ_=>(bW (i:=0) rfl (by decide))) (λ_=>(jg (ck (hr.le (by(first|lia|omega))) (dH (aq (i:=1) rfl) (aJ (aq (i:=0) rfl) aC)) (bq (by decide +kernel))))) (λ_=>(aq (i:=0) rfl))))) (bW (i:=4) rfl (by decide)) (az (ib (jS (cw T (ae (i:=1) rfl) (ae (i:=5) rfl) (bM (fU (bq (by decide +kernel)) (ar (dz (aq (i:=0) rfl) (cY aC) (cY (aq (i:=4) rfl)) bz) aH) F.plainAttrs_str F.slot_str_join F.type_str_join ja) ed) (iw T) hr (by(first|lia|omega)))) (az (iy (i:=2) rfl (aq (i:=4) rfl)) (az (dq (i:=5) rfl (by decide) (aJ (AN T (i:=2) rfl (ae (i:=0) rfl)) aC)) (az (fD (eN (ar (BU T (ae (i:=3) rfl) (dH (aq (i:=1) rfl) (aq (i:=4) rfl))) (ar (aq (i:=5) rfl) (ar (cw T (ae (i:=4) rfl) (ae (i:=13) rfl) (bM (dz (aq (i:=0) rfl) (cY aC) (cY (aq (i:=4) rfl)) bz) (bM (dz (aq (i:=1) rfl) (cY aC) (cY (aq (i:=4) rfl)) bz) (rE (i:=2) rfl (rE (i:=3) rfl ed)))) ih hr (by(first|lia|omega))) (ar (cw T (ae (i:=4) rfl) (ae (i:=13) rfl) (bM (dz (aq (i:=0) rfl) (cY (aJ (aq (i:=4) rfl) aC)) (cY (xK aC)) bz) (bM (dz (aq (i:=1) rfl) (cY (aJ (aq (i:=4) rfl) aC)) (cY (xK aC)) bz) (rE (i:=2) rfl (rE (i:=3) rfl ed)))) ih hr (by(first|lia|omega))) aH)))))) aO))) aO) aO) aO) (az (fD (eN aH)) aO))))
noncomputable def e7:Nat→PF
 | 0=>λ_ _=>none
 | m+1=>cB 6 4 (kl (e7 m))
theorem sA(T:TopF X fa u):∀m:Nat,FnOk X (17+m) (.ref (fa 71)) (e7 m)
 | 0=>λA hr σ s vs sls d c' I r h=>by cases h
 | m+1=>kFn T (ae (i:=13) rfl) (by decide +kernel) (by decide +kernel) (fits (by decide +kernel)) (by decide +kernel) rfl rfl (by decide +kernel) rZ rfl (BN T (Nat.le_add_right 17 m) (sA T m))
noncomputable abbrev wq:FT:=⟨[("tree",.l),("one",.l),("two",.l),("along",.l)],["len","_law_edges"],none⟩
theorem pq:Binds 72 ["tree","one","two","along"]:=qO λ_ _ _ _ _=>rfl
noncomputable def iU(self:PF):PS:=ak (qIf (aD .Eq (bo d9 (ag (aa 0) (aw))) (ah 1)) (ak (dS (aK (ag (de (ag (aa 1) (ag (aa 2) (aw)))) (aw)))) (aG)) (aG)) (ak (qIf (aD .Eq (a9 (aa 0) (ah 0)) (aa 3)) (ak (dS (ao .Add (aI self (aF (a9 (aa 0) (ah 2)) (aF (aa 1) (aF (a9 (aa 0) (ah 1)) (aF (aa 3) (aW)))))) (aI self (aF (a9 (aa 0) (ah 3)) (aF (a9 (aa 0) (ah 1)) (aF (aa 2) (aF (aa 3) (aW)))))))) (aG)) (aG)) (ak (dS (ao .Add (aI self (aF (a9 (aa 0) (ah 2)) (aF (aa 1) (aF (aa 2) (aF (aa 3) (aW)))))) (aI self (aF (a9 (aa 0) (ah 3)) (aF (aa 1) (aF (aa 2) (aF (aa 3) (aW)))))))) (aG)))
theorem zB{n:Nat}(T:TopF X fa u)(hn:17≤n){self:PF}(ih:FnOk X n (.ref (fa 72)) self):∀A env,Room A n→bh X A wq env (fnB 72) (iU self):=λA env hr=>
 (az (ib (ck (hr.le (by(first|lia|omega))) (kB T (ae (i:=0) rfl) (ae (i:=6) rfl) (ar (aq (i:=0) rfl) aH) nU) aC) (az (fD (bI (ar (eN (ar (aq (i:=1) rfl) (ar (aq (i:=2) rfl) aH))) aH))) aO) aO) (az (ib (ck (hr.le (by(first|lia|omega))) (dH (aq (i:=0) rfl) aC) (aq (i:=3) rfl)) (az (fD (aJ (cw T (ae (i:=1) rfl) (ae (i:=14) rfl) (bM (dH (aq (i:=0) rfl) aC) (bM (aq (i:=1) rfl) (bM (dH (aq (i:=0) rfl) aC) (bM (aq (i:=3) rfl) ed)))) ih hr (by(first|lia|omega))) (cw T (ae (i:=1) rfl) (ae (i:=14) rfl) (bM (dH (aq (i:=0) rfl) aC) (bM (dH (aq (i:=0) rfl) aC) (bM (aq (i:=2) rfl) (bM (aq (i:=3) rfl) ed)))) ih hr (by(first|lia|omega))))) aO) aO) (az (fD (aJ (cw T (ae (i:=1) rfl) (ae (i:=14) rfl) (bM (dH (aq (i:=0) rfl) aC) (bM (aq (i:=1) rfl) (bM (aq (i:=2) rfl) (bM (aq (i:=3) rfl) ed)))) ih hr (by(first|lia|omega))) (cw T (ae (i:=1) rfl) (ae (i:=14) rfl) (bM (dH (aq (i:=0) rfl) aC) (bM (aq (i:=1) rfl) (bM (aq (i:=2) rfl) (bM (aq (i:=3) rfl) ed)))) ih hr (by(first|lia|omega))))) aO)))
noncomputable def fF:Nat→PF
 | 0=>λ_ _=>none
 | m+1=>ee (dj (cB 4 4 (iU (fF m))))
theorem md(T:TopF X fa u):∀m:Nat,FnOk X (17+m) (.ref (fa 72)) (fF m)
 | 0=>λA hr σ s vs sls d c' I r h=>by cases h
 | m+1=>FnOk.fresh (kFn T (ae (i:=14) rfl) (by decide +kernel) (by decide +kernel) (fits (by decide +kernel)) (by decide +kernel) rfl rfl (by decide +kernel) pq rfl (zB T (Nat.le_add_right 17 m) (md T m)))
noncomputable abbrev xJ:FT:=⟨[("sets",.l),("edges",.l),("points",.l),("trees",.l),("mask",.c),("picked",.l),("labels",.c),("one",.c),("two",.c)],["len","set","enumerate","list","range"],none⟩
noncomputable abbrev rA:FT:=⟨[("edge",.l),("end",.l)],[],none⟩
noncomputable abbrev q9:FT:=⟨[("k",.l),("edge",.l),("mask",.f)],[],none⟩
noncomputable abbrev rL:FT:=⟨[("label",.l),("labels",.f),("two",.f),("one",.f)],[],none⟩
theorem pH:Binds 73 ["sets","edges"]:=yn λ_ _ _=>rfl
noncomputable def tL:PS:=ak (bf 2 (iW (aX [none,none] (cC (aa 1)) (.n 0) (cn) (f7 (.n 1) (cC (aa 0)) cn (aQ (aa 1)))))) (ak (jj 3 (aw)) (ak (fC (.n 4) (cC (aa 0)) (ak (bf 5 (aX [none,none,some 4] (bu ff (ag (aa 1) (aw))) (.t [0,1]) (aD .Eq (ao .Mod (ao .FloorDiv (aa 2) (ao .Pow (ah 2) (aa 0))) (ah 2)) (ah 1)) (aQ (aa 1)))) (ak (bf 6 (pIf (aD .Eq (ao .Add (bo d9 (ag (aa 5) (aw))) (ah 1)) (aa 2)) (ey (ao .Add (bo d9 (ag (aa 1) (aw))) (ah 1))) (aK (aw)))) (ak (fC (.t [7,8]) (cC (aa 5)) (ak (bf 6 (pIf (pd (aD .Eq (aa 6) (aK (aw))) (aD .Eq (a9 (aa 6) (aa 7)) (a9 (aa 6) (aa 8)))) (aK (aw)) (aX [none,some 6,some 8,some 7] (cC (aa 6)) (.n 0) (cn) (aQ (pIf (aD .Eq (aa 0) (a9 (aa 1) (aa 2))) (a9 (aa 1) (aa 3)) (aa 0)))))) (aG)) (aG)) (ak (ll 3 (pIf (aD .NotEq (aa 6) (aK (aw))) (aK (ag (aa 4) (aw))) (aK (aw)))) (aG))))) (aG)) (ak (dS (aa 3)) (aG))))
theorem zJ(T:TopF X fa u):∀A env,Room A 14→bh X A xJ env (fnB 73) tL:=λA env hr=>
 (az (dq (i:=2) rfl (by decide) (z5 T (hr.le (by(first|lia|omega))) (ae (i:=0) rfl) (ae (i:=1) rfl) (B7 (ft':=rA) (js:=[none,none]) (fits (by decide +kernel)) (.l (.l .nil)) (eM (hr.le (by(first|lia|omega))) (aq (i:=1) rfl)) (λ_=>(bW (i:=0) rfl (by decide))) (λ_=>cH) (λ_=>(eM (hr.le (by(first|lia|omega))) (aq (i:=0) rfl))) (λ_=>(bW (i:=1) rfl (by decide))) (λ_=>cH) (λ_=>(aq (i:=1) rfl))))) (az (mM (i:=3) rfl (by decide) aH) (az (jU (hr.le (by(first|lia|omega))) (eM (hr.le (by(first|lia|omega))) (aq (i:=0) rfl)) (bW (i:=4) rfl (by decide)) (az (fS (i:=5) rfl (ft':=q9) (js:=[none,none,some 4]) (fits (by decide +kernel)) (.l (.l (.f (j:=4) rfl (by decide) .nil))) (kI T (ae (i:=2) rfl) (ae (i:=0) rfl) (ar (aq (i:=1) rfl) aH) (jd (hr.le (by(first|lia|omega))))) (λ_=>(gG (hr.le (by(first|lia|omega))) (.cons (i:=0) rfl (by decide) (.cons (i:=1) rfl (by decide) .nil)))) (λ_=>(jg (ck (hr.le (by(first|lia|omega))) (aJ (aJ (aq (i:=2) rfl) (aJ aC (aq (i:=0) rfl))) aC) aC))) (λ_=>(aq (i:=1) rfl))) (az (dq (i:=6) rfl (by decide) (sIf (ck (hr.le (by(first|lia|omega))) (aJ (kB T (ae (i:=0) rfl) (ae (i:=6) rfl) (ar (aq (i:=5) rfl) aH) nU) aC) (aq (i:=2) rfl)) (qT T (hr.le (by(first|lia|omega))) (ae (i:=3) rfl) (ae (i:=4) rfl) (aJ (kB T (ae (i:=0) rfl) (ae (i:=6) rfl) (ar (aq (i:=1) rfl) aH) nU) aC)) (bI aH))) (az (jU (hr.le (by(first|lia|omega))) (eM (hr.le (by(first|lia|omega))) (aq (i:=5) rfl)) (gG (hr.le (by(first|lia|omega))) (.cons (i:=7) rfl (by decide) (.cons (i:=8) rfl (by decide) .nil))) (az (dq (i:=6) rfl (by decide) (sIf (DQ (ck (hr.le (by(first|lia|omega))) (aq (i:=6) rfl) (bI aH)) (ck (hr.le (by(first|lia|omega))) (dH (aq (i:=6) rfl) (aq (i:=7) rfl)) (dH (aq (i:=6) rfl) (aq (i:=8) rfl)))) (bI aH) (cb (ft':=rL) (js:=[none,some 6,some 8,some 7]) (fits (by decide +kernel)) (.l (.f (j:=6) rfl (by decide) (.f (j:=8) rfl (by decide) (.f (j:=7) rfl (by decide) .nil)))) (eM (hr.le (by(first|lia|omega))) (aq (i:=6) rfl)) (λ_=>(bW (i:=0) rfl (by decide))) (λ_=>cH) (λ_=>(sIf (ck (hr.le (by(first|lia|omega))) (aq (i:=0) rfl) (dH (aq (i:=1) rfl) (aq (i:=2) rfl))) (dH (aq (i:=1) rfl) (aq (i:=3) rfl)) (aq (i:=0) rfl)))))) aO) aO) (az (zw (i:=3) rfl (sIf (ck (hr.le (by(first|lia|omega))) (aq (i:=6) rfl) (bI aH)) (bI (ar (aq (i:=4) rfl) aH)) (bI aH))) aO)))) aO) (az (fD (aq (i:=3) rfl)) aO))))
noncomputable def tG:List D→Option D:=dj (cB 9 2 tL)
noncomputable abbrev oX:PF:=ee tG
theorem pY(T:TopF X fa u):FnOk X 15 (.ref (fa 73)) oX:=(kFn T (ae (i:=15) rfl) (by decide +kernel) (by decide +kernel) (fits (by decide +kernel)) (by decide +kernel) rfl rfl (by decide +kernel) pH rfl (zJ T)).fresh
noncomputable abbrev vo:FT:=⟨[("mask",.c),("trees",.c),("ranks",.l),("active",.l),("k",.c),("rank",.c),("step",.c),("swaps",.l)],["enumerate"],none⟩
noncomputable abbrev pv:FT:=⟨[("other",.l),("least",.l),("rank",.f),("mask",.f),("k",.f),("step",.f),("trees",.f)],[],none⟩
theorem oS:Binds 74 ["mask","trees","ranks"]:=wF λ_ _ _ _=>rfl
noncomputable def qG:PS:=ak (bf 3 (ah 0)) (ak (fC (.t [4,5]) (bu ff (ag (aa 2) (aw))) (ak (bf 6 (ao .Sub (ah 1) (ao .Mult (ah 2) (ao .Mod (ao .FloorDiv (aa 0) (ao .Pow (ah 2) (aa 4))) (ah 2))))) (ak (bf 7 (aX [none,none,some 5,some 0,some 4,some 6,some 1] (bu ff (ag (aa 2) (aw))) (.t [0,1]) (fW [aD .Lt (aa 1) (aa 2),aD .NotEq (ao .Mod (ao .FloorDiv (aa 3) (ao .Pow (ah 2) (aa 0))) (ah 2)) (ao .Mod (ao .FloorDiv (aa 3) (ao .Pow (ah 2) (aa 4))) (ah 2)),aD .In (ao .Add (aa 3) (ao .Mult (aa 5) (ao .Sub (ao .Pow (ah 2) (aa 4)) (ao .Pow (ah 2) (aa 0))))) (aa 6)]) (aQ (aa 0)))) (ak (f6 3 .Add (pIf (aD .Eq (aa 7) (aK (aw))) (ao .Pow (ah 2) (aa 4)) (ah 0))) (aG)))) (aG)) (ak (dS (aa 3)) (aG)))
theorem yE(T:TopF X fa u):∀A env,Room A 14→bh X A vo env (fnB 74) qG:=λA env hr=>
 (az (dq (i:=3) rfl (by decide) aC) (az (jU (hr.le (by(first|lia|omega))) (kI T (ae (i:=0) rfl) (ae (i:=0) rfl) (ar (aq (i:=2) rfl) aH) (jd (hr.le (by(first|lia|omega))))) (gG (hr.le (by(first|lia|omega))) (.cons (i:=4) rfl (by decide) (.cons (i:=5) rfl (by decide) .nil))) (az (dq (i:=6) rfl (by decide) (aJ aC (aJ aC (aJ (aJ (aq (i:=0) rfl) (aJ aC (aq (i:=4) rfl))) aC)))) (az (fS (i:=7) rfl (ft':=pv) (js:=[none,none,some 5,some 0,some 4,some 6,some 1]) (fits (by decide +kernel)) (.l (.l (.f (j:=5) rfl (by decide) (.f (j:=0) rfl (by decide) (.f (j:=4) rfl (by decide) (.f (j:=6) rfl (by decide) (.f (j:=1) rfl (by decide) .nil))))))) (kI T (ae (i:=0) rfl) (ae (i:=0) rfl) (ar (aq (i:=2) rfl) aH) (jd (hr.le (by(first|lia|omega))))) (λ_=>(gG (hr.le (by(first|lia|omega))) (.cons (i:=0) rfl (by decide) (.cons (i:=1) rfl (by decide) .nil)))) (λ_=>(jg (C6 (mn (ck (hr.le (by(first|lia|omega))) (aq (i:=1) rfl) (aq (i:=2) rfl)) (mn (ck (hr.le (by(first|lia|omega))) (aJ (aJ (aq (i:=3) rfl) (aJ aC (aq (i:=0) rfl))) aC) (aJ (aJ (aq (i:=3) rfl) (aJ aC (aq (i:=4) rfl))) aC)) (mn (ck (hr.le (by(first|lia|omega))) (aJ (aq (i:=3) rfl) (aJ (aq (i:=5) rfl) (aJ (aJ aC (aq (i:=4) rfl)) (aJ aC (aq (i:=0) rfl))))) (aq (i:=6) rfl)) zl)))))) (λ_=>(aq (i:=0) rfl))) (az (u5 (i:=3) rfl (by decide) (sIf (ck (hr.le (by(first|lia|omega))) (aq (i:=7) rfl) (bI aH)) (aJ aC (aq (i:=4) rfl)) aC)) aO))) aO) (az (fD (aq (i:=3) rfl)) aO)))
noncomputable def pF:List D→Option D:=dj (cB 8 3 qG)
noncomputable abbrev jO:PF:=ee pF
theorem ng(T:TopF X fa u):FnOk X 15 (.ref (fa 74)) jO:=(kFn T (ae (i:=16) rfl) (by decide +kernel) (by decide +kernel) (fits (by decide +kernel)) (by decide +kernel) rfl rfl (by decide +kernel) oS rfl (yE T)).fresh
end Mine
namespace Mine
section
variable{X:Cx}{A:Around}{ft ftL:FT}{env:Env}{fa:Nat→Addr}{u:Addr}{p q r pl:PE}{tgt:Expr}
noncomputable abbrev lz:FT:=⟨[("name_index",.l),("get_name",.l),("extrainfo",.l),("argval",.l)],["UNKNOWN"],none⟩
noncomputable def se(u:Addr):PS:=ak (qIf (aD .IsNot (aa 1) fN) Bg (ak (dS (de (ag (mS (.ref u)) (ag (aZ ⟨#[]⟩) aw)))) aG)) aG
theorem BX(T:TopF X fa u):∀A env,Room A 14→bh X A lz env (fnB 5) (se u):=λA env hr=>
 az (ib (ck (hr.le (by(first|lia|omega))) (aq (i:=1) rfl) lQ) CE (az (fD (eN (ar (C4 T (ae (i:=0) rfl)) (ar (bq (by decide +kernel)) aH)))) aO)) aO
noncomputable def gR(u:Addr):PF:=lE 4 (se u)
noncomputable def nk(k i:Nat):Arg:=(fQ k).args.getD i ⟨"",none,⟨0,0,0,0⟩⟩
noncomputable def kwAt(k:Nat):Arg:=(fQ k).kwarg.getD ⟨"",none,⟨0,0,0,0⟩⟩
theorem ug(T:TopF X fa u):oK X 15 (.ref (fa 5)) "more" (gR u):=by
 obtain⟨o,fd,K⟩:=T.fn 5 "_get_name_info" (ae (i:=1) rfl)
 exact zp (a1:=nk 5 0) (a2:=nk 5 1) (a3:=kwAt 5) (ft:=lz) K.ho K.hd K.hcd K.hb ⟨λ_ _=>by rw[jF K.hp K.df K.kd];rfl,λ_ _ _=>by rw[jF K.hp K.df K.kd];rfl⟩ (by rw[K.sc];decide +kernel) (by rw[K.sc];decide +kernel) K.gl K.bl K.clo
  (by rw[K.sc];exact fits (by decide +kernel)) (λy hy=>by simp[lz]at hy) rfl (by decide +kernel) (BX T)
theorem By{np pos:Pos}{e1 e2:Expr}(T:TopF X fa u)(hr:Room A 15)(hx:("_get_name_info" : Str)∈ft.gt)(h1:SoundE X A ft env e1 p)(h2:SoundE X A ft env e2 q)
  (he1:autoParam (∀env,starEach [e1,e2] env=(false,eval e1 env)::starEach [e2] env) aR) (he2:autoParam (∀env,starEach [e2] env=(false,eval e2 env)::starEach [] env) aR) :
  SoundE X A ft env (.Call (.Name "_get_name_info" np) [e1,e2] [] pos) (mL (gR u) p q):=by
 obtain⟨o,fd,K⟩:=T.fn 5 "_get_name_info" (ae (i:=1) rfl)
 exact B0 (k:="more") hx K.nm K.ho K.hd h1 h2 (ug T) hr he1 he2
theorem BM{np pos kp:Pos}{e1 e2 e3:Expr}(T:TopF X fa u)(hr:Room A 15)(hx:("_get_name_info" : Str)∈ft.gt)(h1:SoundE X A ft env e1 p)(h2:SoundE X A ft env e2 q)(h3:SoundE X A ft env e3 r)
  (he1:autoParam (∀env,starEach [e1,e2] env=(false,eval e1 env)::starEach [e2] env) aR) (he2:autoParam (∀env,starEach [e2] env=(false,eval e2 env)::starEach [] env) aR) :
  SoundE X A ft env (.Call (.Name "_get_name_info" np) [e1,e2] [⟨some "more",e3,kp⟩] pos) (mx (gR u) p q r):=by
 obtain⟨o,fd,K⟩:=T.fn 5 "_get_name_info" (ae (i:=1) rfl)
 exact Bu hx K.nm K.ho K.hd h1 h2 h3 (ug T) hr he1 he2
structure cM (X:Cx) (c P:Addr):Prop where
 hC:CodeHd X.g0 c P
 hB:X.g0.BuiltinsAt X.mg P
 hgP:mainGlobals≠P
noncomputable abbrev cz:Str:="law.<locals>."
theorem Cj{c P:Addr}{kc:Nat}{js:List (Option Nat)}{np pos kwp lpos:Pos}{e1 e3:Expr}{b1 b2:Arg}{params:Arguments}{lbody:Expr}{lscope:Scope}{kw:Str}(T:TopF X fa u)(W:cM X c P)(hr:Room A 15)(hx:("_get_name_info" : Str)∈ft.gt)
  (hlp:params={ posonlyargs:=[],args:=[b1,b2],vararg:=none,kwonlyargs:=[],kw_defaults:=[],kwarg:=none,defaults:=[] }) (hkw:b2.arg=kw)
  (hftc:ft.cd=some (.ref c,cz)) (fitL:Fits ftL lscope) (hcap:Capt ft ftL.nt js) (hlbody:∀A env',Room A 11→SoundE X A ftL env' lbody pl) (h1:SoundE X A ft env e1 p) (h3:SoundE X A ft env e3 r)
  (hdef:autoParam (∀env,defaultsOf params env=([],[])) aR)
  (hbk:∀(fd:FuncData) v1 v2 v,bindArgs { fd with params:=fQ 5,defaults:=.none,kwdefaults:=.none } ⟨[v1,v2],[(kw,v)]⟩=(alloc (eR #[] 0) >>= λa=>(forIn [(kw,v)] PUnit.unit (λp _=>do nsSet a p.1 p.2;pure (ForInStep.yield PUnit.unit))) >>= λ_=>pure [((nk 5 0).arg,v1),((nk 5 1).arg,v2),((kwAt 5).arg,.ref a)]):=by intro _ _ _ _;rfl) (hb12:autoParam (l6 params b1.arg b2.arg) aR)
  (hlco:autoParam (lscope.isCoroutine=false) aR) (hlgen:autoParam (lscope.isGenerator=false) aR) (hlpar:jR ftL [b1.arg,b2.arg]=true:=by decide +kernel) (hcdL:autoParam (ftL.cd=none) aR)
  (he1:autoParam (∀env,starEach [e1,.Lambda params lbody lscope lpos] env=(false,eval e1 env)::starEach [.Lambda params lbody lscope lpos] env) aR) :
  SoundE X A ft env (.Call (.Name "_get_name_info" np) [e1,.Lambda params lbody lscope lpos] [⟨some kw,e3,kwp⟩] pos) (lS kc P lpos cz js p r pl):=by
 subst hkw
 obtain⟨o,fd,K⟩:=T.fn 5 "_get_name_info" (ae (i:=1) rfl)
 exact yB (a1:=nk 5 0) (a2:=nk 5 1) (a3:=kwAt 5) (ftI:=lz) (xarg:="argval") (pt:=aD .IsNot (aa 1) fN) (pr:=de (ag (aa 3) (ag (aa 3) aw))) hx K.nm K.pos K.ho K.hd K.hcd K.hb ⟨λ_ _=>by rw[jF K.hp K.df K.kd];rfl,λ_ _ _=>by rw[jF K.hp K.df K.kd,hbk]⟩
  (by rw[K.sc];decide +kernel) (by rw[K.sc];decide +kernel) K.gl K.bl K.clo (by rw[K.sc];exact fits (by decide +kernel)) rfl rfl
  (λA env hr=>ck (hr.le (by(first|lia|omega))) (aq (i:=1) rfl) lQ) (λ_ _ _ _=>rfl) (λA env hr=>eN (ar (aq (i:=3) rfl) (ar (aq (i:=3) rfl) aH))) (λ_ _ _ _ _=>rfl)
  (hr.le (by(first|lia|omega))) hftc W.hC W.hB W.hgP hdef fitL hcap hlp hb12 hlco hlgen hlpar hcdL hlbody h1 h3 he1
end
end Mine
namespace Mine
variable{X:Cx}{fa:Nat→Addr}{u:Addr}
noncomputable abbrev ba(cd:Option (Value×Str)):FT:=⟨[(("script",.c):Str×VK),(("cells",.c):Str×VK),(("total",.c):Str×VK),(("letters",.c):Str×VK),(("signs",.l):Str×VK),(("pieces",.c):Str×VK),(("texts",.l):Str×VK),(("text",.l):Str×VK),(("row",.c):Str×VK),(("order",.l):Str×VK),(("low",.c):Str×VK),(("far",.l):Str×VK),(("masks",.l):Str×VK),(("tape",.l):Str×VK),(("told",.c):Str×VK),(("asked",.l):Str×VK),(("tests",.l):Str×VK),(("shorn",.c):Str×VK),(("left",.l):Str×VK),(("found",.l):Str×VK),(("read",.l):Str×VK),(("whole",.l):Str×VK),(("edges",.l):Str×VK),(("dual",.l):Str×VK),(("infos",.l):Str×VK),(("ranks",.c):Str×VK),(("pair",.l):Str×VK),(("names",.l):Str×VK),(("words",.l):Str×VK),(("sets",.l):Str×VK),(("number",.l):Str×VK),(("mask",.c):Str×VK),(("said",.l):Str×VK),(("parts",.c):Str×VK),(("trees",.c):Str×VK),(("others",.c):Str×VK),(("active",.l):Str×VK),(("sizes",.c):Str×VK),(("homes",.l):Str×VK)],[("enumerate" : Str),("sum" : Str),("_law_letters" : Str),("_law_signs" : Str),("sorted" : Str),("range" : Str),("iter" : Str),("_law_octets" : Str),("_law_taped" : Str),("list" : Str),("_strip_quoted_realnames" : Str),("_iter_escaped_chars" : Str),("_check_parenthesis" : Str),("_law_tree" : Str),("_law_edges" : Str),("_get_name_info" : Str),("UNKNOWN" : Str),("pretty_flags" : Str),("hex" : Str),("zip" : Str),("_law_trees" : Str),("max" : Str)],cd⟩
noncomputable abbrev xY:FT:=⟨[("k",.l),("cell",.l),("script",.f)],["sum"],none⟩
noncomputable abbrev ru:FT:=⟨[("x",.l)],[],none⟩
noncomputable abbrev xg:FT:=⟨[("k",.l),("sign",.l),("pieces",.f),("cells",.f)],[],none⟩
noncomputable abbrev xF:FT:=⟨[("k",.l),("cells",.f)],[],none⟩
noncomputable abbrev yw:FT:=⟨[("weight",.l),("k",.l)],[],none⟩
noncomputable abbrev y6:FT:=⟨[("k",.l),("letters",.f)],[],none⟩
noncomputable abbrev we:FT:=⟨[("turn",.l),("total",.f)],[],none⟩
noncomputable abbrev wx:FT:=⟨[("mask",.l),("low",.f)],[],none⟩
noncomputable abbrev xR:FT:=⟨[("mask",.l),("low",.f)],[],none⟩
noncomputable abbrev wa:FT:=⟨[("number",.l),("test",.l)],["ISTERMINAL","ISNONTERMINAL","ISEOF"],none⟩
noncomputable abbrev wY:FT:=⟨[("test",.l)],["isinstance","bool"],none⟩
noncomputable abbrev uk:FT:=⟨[("one",.l)],[],none⟩
noncomputable abbrev v5:FT:=⟨[("pair",.l)],["EXACT_TOKEN_TYPES"],none⟩
noncomputable abbrev uF:FT:=⟨[("k",.l),("sign",.l),("shorn",.f)],["len"],none⟩
noncomputable abbrev uN:FT:=⟨[("sign",.l)],["EXACT_TOKEN_TYPES"],none⟩
noncomputable abbrev vt:FT:=⟨[("place",.l),("unit",.l)],[],none⟩
noncomputable abbrev vu(cd:Option (Value×Str)):FT:=⟨[("sign",.l),("total",.f),("letters",.f),("told",.f)],["_get_name_info","EXACT_TOKEN_TYPES"],cd⟩
noncomputable abbrev qh:FT:=⟨[("number",.l),("more",.l),("told",.f)],[],none⟩
noncomputable abbrev uK:FT:=⟨[("k",.l),("row",.f),("total",.f)],[],none⟩
noncomputable abbrev vd:FT:=⟨[("pair",.l)],[],none⟩
noncomputable abbrev vm:FT:=⟨[("place",.l)],["hex"],none⟩
noncomputable abbrev uS:FT:=⟨[("k",.l),("word",.l),("mask",.f)],[],none⟩
noncomputable abbrev vE:FT:=⟨[("k",.l),("word",.l),("parts",.f)],[],none⟩
noncomputable abbrev vJ:FT:=⟨[("mask",.l),("trees",.f),("ranks",.f)],["_law_active"],none⟩
noncomputable abbrev uC:FT:=⟨[("mask",.l)],[],none⟩
noncomputable abbrev vX:FT:=⟨[("mask",.l),("others",.f),("ranks",.f)],["_law_active"],none⟩
noncomputable abbrev uu:FT:=⟨[("mask",.c)],["sum","range"],none⟩
noncomputable abbrev qv:FT:=⟨[("k",.l),("mask",.f)],[],none⟩
noncomputable abbrev vh:FT:=⟨[("one",.l),("moves",.l),("mask",.f)],[],none⟩
noncomputable abbrev uQ:FT:=⟨[("one",.l),("sizes",.f),("mask",.f)],[],none⟩
noncomputable abbrev vG:FT:=⟨[("one",.l),("sizes",.f),("mask",.f)],[],none⟩
noncomputable abbrev vV:FT:=⟨[("one",.l)],[],none⟩
noncomputable def rT:Pos:=⟨225,53,225,102⟩
noncomputable def zW:PS:=bf 1 (aX [none,none,some 0] (bu ff (ag (aK (ag (ah 634) (ag (ah 27) (ag (ah 371) (ag (ah 106) (aw)))))) (aw))) (.t [0,1]) (cn) (aQ (ao .Add (aa 1) (bo oO (ag (aX [none] (cC (aV (aa 2) (aP (aa 0)) (aP (ah 60)) (aP (ah 4)))) (.n 0) (cn) (aQ (ao .Mod (aa 0) (ah 5040)))) (aw))))))
noncomputable def zf:PS:=bf 2 (bo oO (ag (aa 1) (aw)))
noncomputable def zq:PS:=bf 3 (aI mZ (aF (aa 1) (aW)))
noncomputable def z9:PS:=bf 4 (aI sE (aF (aa 1) (aF (aa 3) (aW))))
noncomputable def Ay:PS:=bf 5 (aK (ag (aZ ⟨#[]⟩) (ag (aZ ⟨#[92,40]⟩) (ag (aZ ⟨#[34,41,34]⟩) (ag (aZ ⟨#[92,92]⟩) (ag (aZ ⟨#[34,92,34,41,34]⟩) (ag (aZ ⟨#[97,92,34]⟩) (ag (aZ ⟨#[34,34]⟩) (ag (aZ ⟨#[]⟩) (ag (aZ ⟨#[]⟩) (ag (aZ ⟨#[]⟩) (ag (aZ ⟨#[]⟩) (ag (aZ ⟨#[]⟩) (ag (aZ ⟨#[]⟩) (ag (aZ ⟨#[]⟩) (aw))))))))))))))))
noncomputable def AV:PS:=bf 6 (aX [none,none,some 5,some 1] (bu ff (ag (aa 4) (aw))) (.t [0,1]) (cn) (aQ (ao .Add (a9 (aa 2) (ao .Mod (ao .Add (ao .FloorDiv (a9 (aa 3) (ao .Mod (aa 0) (ah 4))) (ah 7)) (ao .Mult (ah 9) (aa 0))) (ah 14))) (aa 1))))
noncomputable def zb:PS:=bf 7 (bO "str" dg (aZ ⟨#[]⟩) (ag (aa 6) (aw)))
noncomputable def zH:PS:=bf 8 (aX [none,none] (cC (bo gM (ag (aX [none,some 1] (bu cL (ag (ah 4) (aw))) (.n 0) (cn) (aQ (de (ag (ao .Mod (ao .FloorDiv (a9 (aa 1) (aa 0)) (ah 240)) (ah 21)) (ag (aa 0) (aw)))))) (aw)))) (.t [0,1]) (cn) (aQ (aa 1)))
noncomputable def zN:PS:=bf 9 (aX [none,some 3] (cC (aa 8)) (.n 0) (cn) (aQ (a9 (aK (ag (ah 14) (ag (ah 15) (ag (ah 17) (ag (ah 19) (ag (ah 20) (ag (ah 21) (ag (ah 22) (ag (ah 24) (ag (ah 31) (ag (ah 32) (aw)))))))))))) (bO "str" lq (aZ ⟨#[43,45,47,38,60,62,61,37,126,94]⟩) (ag (a9 (aa 1) (aa 0)) (aw))))))
noncomputable def AP:PS:=ue (de (ag (ao .Mod (aa 2) (ah 13)) (ag (ao .Mult (ao .Sub (ao .Mod (ao .FloorDiv (aa 2) (ah 13)) (ah 5)) (ah 3)) (ao .Pow (ah 2) (ah 32))) (aw)))) [10,11]
noncomputable def tM:PS:=bf 12 (aX [none,some 2] (bu cL (ag (ah 16) (aw))) (.n 0) (cn) (aQ (ao .Mod (ao .Add (ao .Mult (aa 0) (ao .Add (ao .Mult (ah 2) (ao .Mod (aa 1) (ah 8))) (ah 1))) (ao .FloorDiv (aa 1) (ah 8))) (ah 16))))
noncomputable def su:PS:=ix 13 (ao .Add (aI pn (aF (ao .Add (ao .Add (aa 9) (aX [none,some 10] (cC (aa 12)) (.n 0) (cn) (aQ (ao .Add (ah 256) (ao .Mult (aa 0) (ao .Pow (ah 2) (aa 1))))))) (aK (ag (ah 0) (aw)))) (aF (aa 1) (aF (aa 2) (aW))))) (aK (ag (ao .Mod (aa 2) (ah 256)) (aw))))
noncomputable def tW:PS:=bf 14 (aI ly (d5 13 (aW)))
noncomputable def sP:PS:=jj 15 (ag (de (ag (aa 14) (ag (de (ag (aa 9) (ag (aX [none,some 10] (cC (aa 12)) (.n 0) (cn) (aQ (ao .Mult (aa 0) (ao .Pow (ah 2) (aa 1))))) (aw)))) (aw)))) (ag (de (ag (i4 13) (ag (aK (ag (ao .Mod (aa 2) (ah 256)) (aw))) (aw)))) (aw)))
noncomputable def tn:PS:=bf 16 (aX [none,none] (cC (aK (ag (ah 0) (ag (ah 255) (ag (ah 256) (aw)))))) (.n 0) (cn) (f7 (.n 1) (cC (aK (ag (aI nJ (aF (aa 0) (aW))) (ag (aI nM (aF (aa 0) (aW))) (ag (aI nG (aF (aa 0) (aW))) (aw)))))) cn (aQ (aa 1))))
noncomputable def tb:PS:=dK 15 (de (ag (ao .Add (aX [none] (cC (aa 16)) (.n 0) (cn) (aQ (bo oh (ag (aa 0) (ag (mS (.type "bool")) (aw)))))) (aa 16)) (ag (ao .Add (ao .Mult (aK (ag (b7 true) (aw))) (ah 9)) (aK (ag (b7 true) (ag (b7 false) (ag (b7 true) (ag (b7 true) (ag (b7 false) (ag (b7 false) (ag (b7 false) (ag (b7 true) (ag (b7 false) (aw)))))))))))) (aw))))
noncomputable def tF:PS:=bf 17 (aX [none] (cC (aa 6)) (.n 0) (cn) (aQ (pIf (aD .Eq (aV (aa 0) (aA) (aP (ah 1)) (aA)) (aZ ⟨#[34]⟩)) (aV (aa 0) (aP (gJ (ah 1))) (aA) (aA)) (aa 0))))
noncomputable def tB:PS:=bf 18 (aI lu (aF (aa 7) (aW)))
noncomputable def tv:PS:=bf 19 (aX [none] (pS (aa 18)) (.n 0) (ki bN (a9 (aa 0) (ah 1))) (aQ (aa 0)))
noncomputable def tZ:PS:=dK 15 (de (ag (de (ag (aa 18) (ag (aa 19) (aw)))) (ag (de (ag (bO "str" dg (aZ ⟨#[]⟩) (ag (aa 17) (aw))) (ag (aX [none,none,some 17] (bu ff (ag (aa 4) (aw))) (.t [0,1]) (cn) (aQ (de (ag (ao .Sub (bo d9 (ag (bO "str" dg (aZ ⟨#[]⟩) (ag (aV (aa 2) (aA) (aP (ao .Add (aa 0) (ah 1))) (aA)) (aw))) (aw))) (ah 1)) (ag (aa 1) (aw)))))) (aw)))) (aw))))
noncomputable def ta:PS:=dK 15 (de (ag (ao .Add (aX [none] (nH (aZ ⟨#[40,41,42,124]⟩)) (.n 0) (cn) (aQ (mq bN (aa 0)))) (aK (ag (gv .Is (aI dw (aF (aV (aa 7) (aA) (aP (gJ (ah 1))) (aA)) (aW))) (b7 false)) (ag (gv .Is (aI dw (aF (ao .Add (aa 7) (aZ ⟨#[41,34]⟩)) (aW))) (b7 false)) (aw))))) (ag (aK (ag (ah 7) (ag (ah 8) (ag (ah 16) (ag (ah 18) (ag (b7 true) (ag (b7 true) (aw)))))))) (aw))))
noncomputable def uf:PS:=bf 20 (aX [none,none] (cC (aa 19)) (.t [0,1]) (cn) (aQ (aa 1)))
noncomputable def si:PS:=bf 21 (aI (e7 9) (aF (aa 6) (aF (aa 20) (tS (aw) (d5 15 (aW))))))
noncomputable def sv:PS:=bf 22 (aI (fF 9) (aF (aa 21) (aF (ah 0) (aF (ah 1) (aF (ah 16) (aW))))))
noncomputable def t5:PS:=bf 23 (aI (fF 9) (aF (aa 21) (aF (ah 0) (aF (ah 0) (aF (ah 18) (aW))))))
noncomputable def tI(u P:Addr):PS:=bf 24 (aX [none,some 2,some 3,some 14] (cC (aa 20)) (.n 0) (aD .In (aa 0) (aa 2)) (aQ (lS 0 P rT cz [none,none,some 3] (mq bN (aa 0)) (aa 1) (ao .Add (bO "list" eB (a9 (aa 2) (ah 0)) (ag (aa 0) (aw))) (aa 1)))))
noncomputable def so:PS:=dK 15 (de (ag (aa 24) (ag (aX [none,some 8,some 2] (bu cL (ag (ah 4) (aw))) (.n 0) (cn) (aQ (de (ag (ao .Add (bO "list" eB (aa 1) (ag (aa 0) (aw))) (aa 2)) (ag (ao .Add (bO "list" eB (aa 1) (ag (aa 0) (aw))) (aa 2)) (aw)))))) (aw))))
noncomputable def tx:PS:=bf 25 (aX [none] (cC (aa 24)) (.n 0) (cn) (aQ (a9 (aa 0) (ah 0))))
noncomputable def wd(u P:Addr):PS:=ak (dK 15 (de (ag (aK (ag (gv .Is (a9 (aa 26) (ah 0)) (mS (.ref u))) (ag (aV (aa 26) (aP (ah 1)) (aA) (aA)) (aw)))) (ag (aK (ag (b7 true) (ag (de (ag (aZ ⟨#[]⟩) (aw))) (aw)))) (aw))))) (aG)
noncomputable def sk(u P:Addr):PS:=fC (.n 26) (cC (aK (ag (mL (gR u) (ah 0) (fN)) (ag (mx (gR u) (a9 (aa 9) (ah 0)) (fN) (aa 2)) (aw))))) (wd u P) (aG)
noncomputable def uh:PS:=bf 27 (ao .Add (aK (ag (aZ ⟨#[79,80,84,73,77,73,90,69,68]⟩) (ag (aZ ⟨#[78,69,87,76,79,67,65,76,83]⟩) (ag (aZ ⟨#[86,65,82,65,82,71,83]⟩) (ag (aZ ⟨#[86,65,82,75,69,89,87,79,82,68,83]⟩) (ag (aZ ⟨#[78,69,83,84,69,68]⟩) (ag (aZ ⟨#[71,69,78,69,82,65,84,79,82]⟩) (ag (aZ ⟨#[78,79,70,82,69,69]⟩) (ag (aZ ⟨#[67,79,82,79,85,84,73,78,69]⟩) (ag (aZ ⟨#[73,84,69,82,65,66,76,69,95,67,79,82,79,85,84,73,78,69]⟩) (ag (aZ ⟨#[65,83,89,78,67,95,71,69,78,69,82,65,84,79,82]⟩) (aw)))))))))))) (aX [none] (bu cL (ag (ah 10) (ag (ah 32) (aw)))) (.n 0) (cn) (aQ (bo lj (ag (ao .Pow (ah 2) (aa 0)) (aw))))))
noncomputable def sY:PS:=bf 28 (aV (aa 27) (aP (aa 10)) (aP (ao .Add (aa 10) (ah 4))) (aA))
noncomputable def sG:PS:=dK 15 (de (ag (aI jG (aF (ao .Add (ao .Sub (ao .Pow (ah 2) (ah 32)) (ah 1)) (aa 11)) (aW))) (ag (bO "str" dg (aZ ⟨#[44,32]⟩) (ag (ao .Add (aa 27) (pIf (aD .NotEq (aa 11) (ah 0)) (aK (ag (bo lj (ag (aa 11) (aw))) (aw))) (aK (aw)))) (aw))) (aw))))
noncomputable def sJ:PS:=jj 29 (aw)
noncomputable def rz:PS:=ak (bf 32 (aI jG (aF (aa 30) (aW)))) (ak (bf 33 (bO "str" ot (aa 32) (ag (aZ ⟨#[44,32]⟩) (aw)))) (ak (dK 15 (de (ag (aa 32) (ag (rM (bO "str" dg (aZ ⟨#[44,32]⟩) (ag (aX [none,none,some 31] (bu ff (ag (aa 28) (aw))) (.t [0,1]) (aD .Eq (ao .Mod (ao .FloorDiv (aa 2) (ao .Pow (ah 2) (aa 0))) (ah 2)) (ah 1)) (aQ (aa 1))) (aw))) (aZ ⟨#[48,120,48]⟩)) (aw))))) (ak (dK 29 (bo oO (ag (aX [none,none,some 33] (bu ff (ag (aa 28) (aw))) (.t [0,1]) (aD .In (aa 1) (aa 2)) (aQ (ao .Pow (ah 2) (aa 0)))) (aw)))) (aG))))
noncomputable def td:PS:=fC (.t [30,31]) (bu AK (ag (a9 (aa 14) (ah 1)) (ag (aa 12) (aw)))) (rz) (aG)
noncomputable def tY:PS:=bf 34 (aI oX (aF (aa 29) (aF (aa 22) (aW))))
noncomputable def s8:PS:=bf 35 (aI oX (aF (aa 29) (aF (aa 23) (aW))))
noncomputable def tH:PS:=bf 36 (aX [none,some 34,some 25] (cC (aa 34)) (.n 0) (cn) (aQ (aI jO (aF (aa 0) (aF (aa 1) (aF (aa 2) (aW)))))))
noncomputable def sy:PS:=ll 15 (aK (ag (de (ag (bo i8 (ag (aa 35) (aw))) (ag (bo i8 (ag (aX [none] (cC (aa 34)) (.n 0) (cn) (aQ (ao .Sub (ah 15) (aa 0)))) (aw))) (aw)))) (ag (de (ag (aX [none,some 35,some 25] (cC (aa 34)) (.n 0) (cn) (aQ (aI jO (aF (ao .Sub (ah 15) (aa 0)) (aF (aa 1) (aF (aa 2) (aW))))))) (ag (aa 36) (aw)))) (aw))))
noncomputable def sS:PS:=bf 37 (aX [none] (bu cL (ag (ah 16) (aw))) (.n 0) (cn) (aQ (bo oO (ag (aX [none,some 0] (bu cL (ag (ah 4) (aw))) (.n 0) (cn) (aQ (ao .Mod (ao .FloorDiv (aa 1) (ao .Pow (ah 2) (aa 0))) (ah 2)))) (aw)))))
noncomputable def r5:PS:=ak (bf 38 (aX [none,none,some 31] (bu AK (ag (aa 34) (ag (aa 36) (aw)))) (.t [0,1]) (aD .Eq (ao .BitOr (ao .BitXor (aa 2) (aa 0)) (aa 1)) (aa 1)) (aQ (aa 0)))) (ak (dK 15 (de (ag (aX [none,some 37,some 31] (cC (aa 38)) (.n 0) (cn) (aQ (a9 (aa 1) (ao .BitAnd (aa 2) (aa 0))))) (ag (aK (ag (bo Ac (ag (aX [none,some 37,some 31] (cC (aa 34)) (.n 0) (cn) (aQ (a9 (aa 1) (ao .BitAnd (aa 2) (aa 0))))) (aw))) (aw))) (aw))))) (aG))
noncomputable def te:PS:=fC (.n 31) (cC (aa 29)) (r5) (aG)
noncomputable def tN:PS:=dS (gv .Eq (aX [none] (cC (aa 15)) (.n 0) (aD .NotEq (a9 (aa 0) (ah 0)) (a9 (aa 0) (ah 1))) (aQ (aa 0))) (aK (aw)))
noncomputable def pK(u P:Addr):PS:=ak zW (ak zf (ak zq (ak z9 (ak Ay (ak AV (ak zb (ak zH (ak zN (ak AP (ak tM (ak su (ak tW (ak sP (ak tn (ak tb (ak tF (ak tB (ak tv (ak tZ (ak ta (ak uf (ak si (ak sv (ak t5 (ak (tI u P) (ak so (ak tx (ak (sk u P) (ak uh (ak sY (ak sG (ak sJ (ak td (ak tY (ak s8 (ak tH (ak sy (ak sS (ak te (ak tN (aG)))))))))))))))))))))))))))))))))))))))))
end Mine
end
section
open PySem PySem.Calls PySem.Spec PyProof.Rows PySem.W
set_option maxRecDepth 20000
namespace Mine
section
variable{X:Cx}{A:Around}{ft ft':FT}{env:Env}{Γ Γ':List Slot}{σ:Sg}{s:Shared}{d:D}{c':List Cell}{js:List (Option Nat)}
theorem zd{i:Nat}{y:Str}{py spos:Pos}{elt t1 i1 t2 i2:Expr}{f1 f2:List Expr}{sc:Scope}{pos:Pos}{src:PL}{tg:Tg}{t:PB}{src2:PL}{tg2:Tg}{tt2:PB}{p:PE}(hi:ft.nt[i]?=some (y,.l))(fit:Fits ft' sc)(hcap:Capt ft ft'.nt js)(h1:ew X A ft env t1 i1 src)
  (hT:∀env',dJ X A ft' env' t1 tg) (ht:∀env',ej X A ft' env' f1 t) (h2:∀env',ew X A ft' env' t2 i2 src2) (hT2:∀env',dJ X A ft' env' t2 tg2) (ht2:∀env',ej X A ft' env' f2 tt2) (hp:∀env',SoundE X A ft' env' elt p)
  (hs:autoParam (∀env x,foldedSetIterable i1 env x=pure x) aR) (hs2:autoParam (∀env x,foldedSetIterable i2 env x=pure x) aR) (hcdc:∀v,ft'.cd=some v→ft.cd=some v:=by intro _ h;first|exact h|cases h)
  (hl:autoParam ((py.line==pos.line && !(sc.names.any λ(n,k)=>n==y && (k==.local || k==.cell)))=true) aR) :
  aM X A ft env (.Assign [.Name y py] (.ListComp elt [⟨t1,i1,f1,0⟩,⟨t2,i2,f2,0⟩] sc pos) spos) (bf i (aX js src tg t (f7 tg2 src2 tt2 (aQ p)))):=λΓ σ s fl Γ' c' I F h=>by
 (refine mE2 h ?_;(try clear h);intro d c1 e0 h)
 cases h
 obtain⟨ds,c1,out,Γe,e1,e2,hlen,rfl⟩:=gN e0
 rw[exec_Assign_Name_used _ _ _ _ (mJ F.ok.kind (jv (F.ok.kinds _ (dh hi))) hl)]
 refine wpAny_bind (wpAny_standAt (wpAny_bind ?_))
 show wpAny _ A (do let _ ←comprehension (.ListComp elt [⟨t1,i1,f1,0⟩,⟨t2,i2,f2,0⟩] sc pos) sc env _ (newList []) false (eval i1 env) (some (assign (.Name y py) env))) _ _ s
 refine wpAny_bind (wpAny_mono (iX (use:=some (assign (.Name y py) env)) (Q:=λ_ s'=>PostS X ft env σ s .next (aS i (.lst out) Γ) c' .next s') (rest:=[⟨t2,i2,f2,0⟩]) fit hcdc hcap h1 (hs _) (λ_ _ _=>tP) hT ht (λacc env'=>wb (h2 env') (hT2 env') (ht2 env') (tQ (hp env')) hs2) I F e1 e2 hlen ?_)
  (λ_ s' hq=>wpAny_pure (wpAny_pure hq)) λ_ _ e=>e)
 intro acc C σ3 s3 m q3 I3 x3 F3 r3 hn hC hC1 hC2
 show wpAny _ A (assign (.Name y py) env (.ref acc)) _ _ _
 refine wpAny_assign_Name (cR I3 F3 hi (by intro q;cases q) (sl:=.val (.lst out)) r3 λs4 I4 x4 F4=>?_)
 have hCW:¬FW ft env C:=by
  rintro (rfl|⟨i,x,h1,h2⟩)
  ·obtain⟨m,hn,_⟩:=F.loc
   obtain⟨o,e⟩:=Heap.Ns.there hn
   rw[hC]at e;cases e
  ·obtain⟨c,hc,ov,⟨o,ho,_⟩,_⟩:=F.cel i x _ h1 (by intro q;cases q)
   rw[h2]at hc;cases hc
   rw[hC]at ho;cases ho
 refine⟨m,hn.at' λo e=>x4.keep _ o e hC1 hCW,λh' hs'=>?_⟩
 have keep:∀a o,s4.heap.get? a=some o→¬(a=C)→h'.get? a=some o:=λa o e ha=>(hs'.2 a ha).trans e
 have I5:X.Inv σ3 { s4 with heap:=h',toks:=s4.toks }:=Mine.Inv.heap (W:=λa=>a=C) I4 keep λa e=>e▸⟨hC1,hC2⟩
 have x5:Ext (λa=>a=C) NoG σ3 s4 σ3 { s4 with heap:=h',toks:=s4.toks }:=Ext.heap keep
 have F5:Frm ft env (aS i (.lst out) Γ) σ3 h':=F4.extW x5 (λq=>hCW (.inl q.symm)) λi y k c hi hk hc q=>by
  obtain⟨c',hc',ov,⟨o,ho,_⟩,_⟩:=F.cel i y k hi hk
  rw[hc]at hc';cases hc'
  subst q
  rw[hC]at ho;cases ho
 have xx:Ext (λa=>FW ft env a∨a=C) NoG σ s σ3 { s4 with heap:=h',toks:=s4.toks }:=((x3.up).trans I3 (x4.weaken (λ_ h=>.inl h) λ_ h=>h)).trans I4 (x5.weaken (λ_ h=>.inr h) λ_ h=>h)
 refine⟨σ3,q3,I5,⟨xx.le,?_,?_,?_,xx.gens,xx.os⟩,F5,trivial⟩
 ·obtain⟨m,hm,hf⟩:=xx.own
  exact⟨m,hm,λa ha=>(hf a ha).elim .inl λq=>q.elim .inr λq=>.inl (q▸hC)⟩
 ·intro a o e n
  rcases xx.fresh a o e n with h|h|h|h
  ·exact .inl h
  ·exact .inr (.inl h)
  ·exact .inr (.inr h)
  ·exact .inl (h▸hC)
 ·intro a o e n hw
  refine xx.keep a o e n λq=>q.elim hw λq=>?_
  rw[q,hC]at e;cases e
theorem sW{nt:List (Str×VK)}{gt:List Str}{cd:Option (Value×Str)}{sc:Scope}(h:wA ⟨nt,gt,none⟩ sc=true):Fits ⟨nt,gt,cd⟩ sc:=fits (ft:=⟨nt,gt,cd⟩) h
end
end Mine
end
section
open PySem PySem.Calls PySem.Spec PyProof PyProof.Rows PySem.W
set_option maxRecDepth 20000
set_option maxHeartbeats 4000000
set_option maxHeartbeats 4000000
namespace Mine
variable{X:Cx}{fa:Nat→Addr}{u:Addr}
theorem dl0(T:TopF X fa u){c P:Addr}(W:cM X c P)(cd:Option (Value×Str))(hcd:cd=some (.ref c,cz)):∀A env,Room A 80→aM X A (ba cd) env (bj 0 (fnB 75)) zW:=λA env hr=>
 (pD (i:=1) rfl (cb (ft':=xY) (js:=[none,none,some 0]) (fits (by decide +kernel)) (.l (.l (.f (j:=0) rfl (by decide) .nil))) (kI T (ae (i:=0) rfl) (ae (i:=0) rfl) (ar (bI (ar aC (ar aC (ar aC (ar aC aH))))) aH) (jd (hr.le (by(first|lia|omega))))) (λ_=>(gG (hr.le (by(first|lia|omega))) (.cons (i:=0) rfl (by decide) (.cons (i:=1) rfl (by decide) .nil)))) (λ_=>cH) (λ_=>(aJ (aq (i:=1) rfl) (kB T (ae (i:=0) rfl) (ae (i:=7) rfl) (ar (cb (ft':=ru) (js:=[none]) (fits (by decide +kernel)) (.l .nil) (eM (hr.le (by(first|lia|omega))) (dz (aq (i:=2) rfl) (cY (aq (i:=0) rfl)) (cY aC) (cY aC))) (λ_=>(bW (i:=0) rfl (by decide))) (λ_=>cH) (λ_=>(aJ (aq (i:=0) rfl) aC))) aH) (Ag (hr.le (by(first|lia|omega)))))))) (λ_ h=>fV h))
theorem dl1(T:TopF X fa u){c P:Addr}(W:cM X c P)(cd:Option (Value×Str))(hcd:cd=some (.ref c,cz)):∀A env,Room A 80→aM X A (ba cd) env (bj 1 (fnB 75)) zf:=λA env hr=>
 (dq (i:=2) rfl (by decide) (kB T (ae (i:=1) rfl) (ae (i:=7) rfl) (ar (aq (i:=1) rfl) aH) (Ag (hr.le (by(first|lia|omega))))))
theorem dl2(T:TopF X fa u){c P:Addr}(W:cM X c P)(cd:Option (Value×Str))(hcd:cd=some (.ref c,cz)):∀A env,Room A 80→aM X A (ba cd) env (bj 2 (fnB 75)) zq:=λA env hr=>
 (dq (i:=3) rfl (by decide) (cw T (ae (i:=2) rfl) (ae (i:=9) rfl) (bM (aq (i:=1) rfl) ed) (sd T) hr (by(first|lia|omega))))
theorem dl3(T:TopF X fa u){c P:Addr}(W:cM X c P)(cd:Option (Value×Str))(hcd:cd=some (.ref c,cz)):∀A env,Room A 80→aM X A (ba cd) env (bj 3 (fnB 75)) z9:=λA env hr=>
 (dq (i:=4) rfl (by decide) (cw T (ae (i:=3) rfl) (ae (i:=10) rfl) (bM (aq (i:=1) rfl) (bM (aq (i:=3) rfl) ed)) (yh T) hr (by(first|lia|omega))))
theorem dl4(T:TopF X fa u){c P:Addr}(W:cM X c P)(cd:Option (Value×Str))(hcd:cd=some (.ref c,cz)):∀A env,Room A 80→aM X A (ba cd) env (bj 4 (fnB 75)) Ay:=λA env hr=>
 (@dq _ _ _ _ (5) _ _ _ _ _ _ rfl (by decide) (@bI _ _ _ _ _ _ _ (@ar _ _ _ _ _ _ _ _ _ (@bq _ _ _ _ _ _ _ _ (by decide +kernel)) (@ar _ _ _ _ _ _ _ _ _ (@bq _ _ _ _ _ _ _ _ (by decide +kernel)) (@ar _ _ _ _ _ _ _ _ _ (@bq _ _ _ _ _ _ _ _ (by decide +kernel)) (@ar _ _ _ _ _ _ _ _ _ (@bq _ _ _ _ _ _ _ _ (by decide +kernel)) (@ar _ _ _ _ _ _ _ _ _ (@bq _ _ _ _ _ _ _ _ (by decide +kernel)) (@ar _ _ _ _ _ _ _ _ _ (@bq _ _ _ _ _ _ _ _ (by decide +kernel)) (@ar _ _ _ _ _ _ _ _ _ (@bq _ _ _ _ _ _ _ _ (by decide +kernel)) (@ar _ _ _ _ _ _ _ _ _ (@bq _ _ _ _ _ _ _ _ (by decide +kernel)) (@ar _ _ _ _ _ _ _ _ _ (@bq _ _ _ _ _ _ _ _ (by decide +kernel)) (@ar _ _ _ _ _ _ _ _ _ (@bq _ _ _ _ _ _ _ _ (by decide +kernel)) (@ar _ _ _ _ _ _ _ _ _ (@bq _ _ _ _ _ _ _ _ (by decide +kernel)) (@ar _ _ _ _ _ _ _ _ _ (@bq _ _ _ _ _ _ _ _ (by decide +kernel)) (@ar _ _ _ _ _ _ _ _ _ (@bq _ _ _ _ _ _ _ _ (by decide +kernel)) (@ar _ _ _ _ _ _ _ _ _ (@bq _ _ _ _ _ _ _ _ (by decide +kernel)) (@aH _ _ _ _ _) (by intros;first|rfl|exact .inl rfl|exact .inr rfl|with_unfolding_all rfl|assumption)) (by intros;first|rfl|exact .inl rfl|exact .inr rfl|with_unfolding_all rfl|assumption)) (by intros;first|rfl|exact .inl rfl|exact .inr rfl|with_unfolding_all rfl|assumption)) (by intros;first|rfl|exact .inl rfl|exact .inr rfl|with_unfolding_all rfl|assumption)) (by intros;first|rfl|exact .inl rfl|exact .inr rfl|with_unfolding_all rfl|assumption)) (by intros;first|rfl|exact .inl rfl|exact .inr rfl|with_unfolding_all rfl|assumption)) (by intros;first|rfl|exact .inl rfl|exact .inr rfl|with_unfolding_all rfl|assumption)) (by intros;first|rfl|exact .inl rfl|exact .inr rfl|with_unfolding_all rfl|assumption)) (by intros;first|rfl|exact .inl rfl|exact .inr rfl|with_unfolding_all rfl|assumption)) (by intros;first|rfl|exact .inl rfl|exact .inr rfl|with_unfolding_all rfl|assumption)) (by intros;first|rfl|exact .inl rfl|exact .inr rfl|with_unfolding_all rfl|assumption)) (by intros;first|rfl|exact .inl rfl|exact .inr rfl|with_unfolding_all rfl|assumption)) (by intros;first|rfl|exact .inl rfl|exact .inr rfl|with_unfolding_all rfl|assumption)) (by intros;first|rfl|exact .inl rfl|exact .inr rfl|with_unfolding_all rfl|assumption))) (by intros;first|rfl|exact .inl rfl|exact .inr rfl|with_unfolding_all rfl|assumption))
theorem dl5(T:TopF X fa u){c P:Addr}(W:cM X c P)(cd:Option (Value×Str))(hcd:cd=some (.ref c,cz)):∀A env,Room A 80→aM X A (ba cd) env (bj 5 (fnB 75)) AV:=λA env hr=>
 (fS (i:=6) rfl (ft':=xg) (js:=[none,none,some 5,some 1]) (fits (by decide +kernel)) (.l (.l (.f (j:=5) rfl (by decide) (.f (j:=1) rfl (by decide) .nil)))) (kI T (ae (i:=0) rfl) (ae (i:=0) rfl) (ar (aq (i:=4) rfl) aH) (jd (hr.le (by(first|lia|omega))))) (λ_=>(gG (hr.le (by(first|lia|omega))) (.cons (i:=0) rfl (by decide) (.cons (i:=1) rfl (by decide) .nil)))) (λ_=>cH) (λ_=>(aJ (dH (aq (i:=2) rfl) (aJ (aJ (aJ (dH (aq (i:=3) rfl) (aJ (aq (i:=0) rfl) aC)) aC) (aJ aC (aq (i:=0) rfl))) aC)) (aq (i:=1) rfl))))
theorem dl6(T:TopF X fa u){c P:Addr}(W:cM X c P)(cd:Option (Value×Str))(hcd:cd=some (.ref c,cz)):∀A env,Room A 80→aM X A (ba cd) env (bj 6 (fnB 75)) zb:=λA env hr=>
 (dq (i:=7) rfl (by decide) (fU (bq (by decide +kernel)) (ar (aq (i:=6) rfl) aH) F.plainAttrs_str F.slot_str_join F.type_str_join ja))
theorem dl7(T:TopF X fa u){c P:Addr}(W:cM X c P)(cd:Option (Value×Str))(hcd:cd=some (.ref c,cz)):∀A env,Room A 80→aM X A (ba cd) env (bj 7 (fnB 75)) zH:=λA env hr=>
 (pD (i:=8) rfl (cb (ft':=yw) (js:=[none,none]) (fits (by decide +kernel)) (.l (.l .nil)) (eM (hr.le (by(first|lia|omega))) (kB T (ae (i:=4) rfl) (ae (i:=9) rfl) (ar (cb (ft':=xF) (js:=[none,some 1]) (fits (by decide +kernel)) (.l (.f (j:=1) rfl (by decide) .nil)) (kI T (ae (i:=5) rfl) (ae (i:=1) rfl) (ar aC aH) (gg (hr.le (by(first|lia|omega))))) (λ_=>(bW (i:=0) rfl (by decide))) (λ_=>cH) (λ_=>(eN (ar (aJ (aJ (dH (aq (i:=1) rfl) (aq (i:=0) rfl)) aC) aC) (ar (aq (i:=0) rfl) aH))))) aH) r7)) (λ_=>(gG (hr.le (by(first|lia|omega))) (.cons (i:=0) rfl (by decide) (.cons (i:=1) rfl (by decide) .nil)))) (λ_=>cH) (λ_=>(aq (i:=1) rfl))) (λ_ h=>fV h))
theorem dl8(T:TopF X fa u){c P:Addr}(W:cM X c P)(cd:Option (Value×Str))(hcd:cd=some (.ref c,cz)):∀A env,Room A 80→aM X A (ba cd) env (bj 8 (fnB 75)) zN:=λA env hr=>
 (@fS _ _ _ (y6) _ ([none,some 3]) (9) _ _ _ _ _ _ _ _ _ _ _ _ _ rfl (fits (by decide +kernel)) (.l (.f (j:=3) rfl (by decide) .nil)) (@eM _ _ _ _ _ _ _ (hr.le (by(first|lia|omega))) (@aq _ _ _ _ (8) _ _ _ rfl)) (λ_=>(@bW _ _ _ _ (0) _ _ _ rfl (by decide))) (λ_=>(@cH _ _ _ _)) (λ_=>(@dH _ _ _ _ _ _ _ _ _ (@bI _ _ _ _ _ _ _ (@ar _ _ _ _ _ _ _ _ _ (@aC _ _ _ _ _ _ _) (@ar _ _ _ _ _ _ _ _ _ (@aC _ _ _ _ _ _ _) (@ar _ _ _ _ _ _ _ _ _ (@aC _ _ _ _ _ _ _) (@ar _ _ _ _ _ _ _ _ _ (@aC _ _ _ _ _ _ _) (@ar _ _ _ _ _ _ _ _ _ (@aC _ _ _ _ _ _ _) (@ar _ _ _ _ _ _ _ _ _ (@aC _ _ _ _ _ _ _) (@ar _ _ _ _ _ _ _ _ _ (@aC _ _ _ _ _ _ _) (@ar _ _ _ _ _ _ _ _ _ (@aC _ _ _ _ _ _ _) (@ar _ _ _ _ _ _ _ _ _ (@aC _ _ _ _ _ _ _) (@ar _ _ _ _ _ _ _ _ _ (@aC _ _ _ _ _ _ _) (@aH _ _ _ _ _) (by intros;first|rfl|exact .inl rfl|exact .inr rfl|with_unfolding_all rfl|assumption)) (by intros;first|rfl|exact .inl rfl|exact .inr rfl|with_unfolding_all rfl|assumption)) (by intros;first|rfl|exact .inl rfl|exact .inr rfl|with_unfolding_all rfl|assumption)) (by intros;first|rfl|exact .inl rfl|exact .inr rfl|with_unfolding_all rfl|assumption)) (by intros;first|rfl|exact .inl rfl|exact .inr rfl|with_unfolding_all rfl|assumption)) (by intros;first|rfl|exact .inl rfl|exact .inr rfl|with_unfolding_all rfl|assumption)) (by intros;first|rfl|exact .inl rfl|exact .inr rfl|with_unfolding_all rfl|assumption)) (by intros;first|rfl|exact .inl rfl|exact .inr rfl|with_unfolding_all rfl|assumption)) (by intros;first|rfl|exact .inl rfl|exact .inr rfl|with_unfolding_all rfl|assumption)) (by intros;first|rfl|exact .inl rfl|exact .inr rfl|with_unfolding_all rfl|assumption))) (@fU _ _ _ _ _ _ _ _ _ _ _ _ _ _ _ (@bq _ _ _ _ _ _ _ _ (by decide +kernel)) (@ar _ _ _ _ _ _ _ _ _ (@dH _ _ _ _ _ _ _ _ _ (@aq _ _ _ _ (1) _ _ _ rfl) (@aq _ _ _ _ (0) _ _ _ rfl) (by intros;first|rfl|exact .inl rfl|exact .inr rfl|with_unfolding_all rfl|assumption)) (@aH _ _ _ _ _) (by intros;first|rfl|exact .inl rfl|exact .inr rfl|with_unfolding_all rfl|assumption)) F.plainAttrs_str F.slot_str_index F.type_str_index zZ (by intros;first|rfl|exact .inl rfl|exact .inr rfl|with_unfolding_all rfl|assumption) (by intros;first|rfl|exact .inl rfl|exact .inr rfl|with_unfolding_all rfl|assumption) (by intros;first|rfl|exact .inl rfl|exact .inr rfl|with_unfolding_all rfl|assumption) (by intros;first|rfl|exact .inl rfl|exact .inr rfl|with_unfolding_all rfl|assumption) (by intros;first|rfl|exact .inl rfl|exact .inr rfl|with_unfolding_all rfl|assumption)) (by intros;first|rfl|exact .inl rfl|exact .inr rfl|with_unfolding_all rfl|assumption))) (by intros;first|rfl|exact .inl rfl|exact .inr rfl|with_unfolding_all rfl|assumption) (by intro _ h;first|exact h|cases h) (by intros;first|rfl|exact .inl rfl|exact .inr rfl|with_unfolding_all rfl|assumption))
theorem dl9(T:TopF X fa u){c P:Addr}(W:cM X c P)(cd:Option (Value×Str))(hcd:cd=some (.ref c,cz)):∀A env,Room A 80→aM X A (ba cd) env (bj 9 (fnB 75)) AP:=λA env hr=>
 (CJ (i:=10) (hr.le (by(first|lia|omega))) rfl (.cons (i:=10) rfl (by decide) (.cons (i:=11) rfl (by decide) .nil)) (eN (ar (aJ (aq (i:=2) rfl) aC) (ar (aJ (aJ (aJ (aJ (aq (i:=2) rfl) aC) aC) aC) (aJ aC aC)) aH))))
theorem DM(T:TopF X fa u){c P:Addr}(W:cM X c P)(cd:Option (Value×Str))(hcd:cd=some (.ref c,cz)):∀A env,Room A 80→aM X A (ba cd) env (bj 10 (fnB 75)) tM:=λA env hr=>
 (fS (i:=12) rfl (ft':=we) (js:=[none,some 2]) (fits (by decide +kernel)) (.l (.f (j:=2) rfl (by decide) .nil)) (kI T (ae (i:=5) rfl) (ae (i:=1) rfl) (ar aC aH) (gg (hr.le (by(first|lia|omega))))) (λ_=>(bW (i:=0) rfl (by decide))) (λ_=>cH) (λ_=>(aJ (aJ (aJ (aq (i:=0) rfl) (aJ (aJ aC (aJ (aq (i:=1) rfl) aC)) aC)) (aJ (aq (i:=1) rfl) aC)) aC)))
theorem Ek(T:TopF X fa u){c P:Addr}(W:cM X c P)(cd:Option (Value×Str))(hcd:cd=some (.ref c,cz)):∀A env,Room A 80→aM X A (ba cd) env (bj 11 (fnB 75)) su:=λA env hr=>
 (wG T (i:=13) rfl (by decide) (ae (i:=6) rfl) (aJ (cw T (ae (i:=7) rfl) (ae (i:=11) rfl) (bM (aJ (aJ (aq (i:=9) rfl) (cb (ft':=wx) (js:=[none,some 10]) (fits (by decide +kernel)) (.l (.f (j:=10) rfl (by decide) .nil)) (eM (hr.le (by(first|lia|omega))) (aq (i:=12) rfl)) (λ_=>(bW (i:=0) rfl (by decide))) (λ_=>cH) (λ_=>(aJ aC (aJ (aq (i:=0) rfl) (aJ aC (aq (i:=1) rfl))))))) (bI (ar aC aH))) (bM (aq (i:=1) rfl) (bM (aq (i:=2) rfl) ed))) (ux T) hr (by(first|lia|omega))) (bI (ar (aJ (aq (i:=2) rfl) aC) aH))))
theorem DI(T:TopF X fa u){c P:Addr}(W:cM X c P)(cd:Option (Value×Str))(hcd:cd=some (.ref c,cz)):∀A env,Room A 80→aM X A (ba cd) env (bj 12 (fnB 75)) tW:=λA env hr=>
 (dq (i:=14) rfl (by decide) (cw T (ae (i:=8) rfl) (ae (i:=12) rfl) (rE (i:=13) rfl ed) (yG T) hr (by(first|lia|omega))))
end Mine
namespace Mine
variable{X:Cx}{fa:Nat→Addr}{u:Addr}
theorem Ec(T:TopF X fa u){c P:Addr}(W:cM X c P)(cd:Option (Value×Str))(hcd:cd=some (.ref c,cz)):∀A env,Room A 80→aM X A (ba cd) env (bj 13 (fnB 75)) sP:=λA env hr=>
 (mM (i:=15) rfl (by decide) (ar (eN (ar (aq (i:=14) rfl) (ar (eN (ar (aq (i:=9) rfl) (ar (cb (ft':=xR) (js:=[none,some 10]) (fits (by decide +kernel)) (.l (.f (j:=10) rfl (by decide) .nil)) (eM (hr.le (by(first|lia|omega))) (aq (i:=12) rfl)) (λ_=>(bW (i:=0) rfl (by decide))) (λ_=>cH) (λ_=>(aJ (aq (i:=0) rfl) (aJ aC (aq (i:=1) rfl))))) aH))) aH))) (ar (eN (ar (za T (hr.le (by(first|lia|omega))) (i:=13) rfl (ae (i:=9) rfl)) (ar (bI (ar (aJ (aq (i:=2) rfl) aC) aH)) aH))) aH)))
theorem Eh(T:TopF X fa u){c P:Addr}(W:cM X c P)(cd:Option (Value×Str))(hcd:cd=some (.ref c,cz)):∀A env,Room A 80→aM X A (ba cd) env (bj 14 (fnB 75)) tn:=λA env hr=>
 (zd (i:=16) rfl (ft':=wa) (js:=[none,none]) (fits (by decide +kernel)) (.l (.l .nil)) (eM (hr.le (by(first|lia|omega))) (bI (ar aC (ar aC (ar aC aH))))) (λ_=>(bW (i:=0) rfl (by decide))) (λ_=>cH) (λ_=>(eM (hr.le (by(first|lia|omega))) (bI (ar (cw T (ae (i:=0) rfl) (ae (i:=6) rfl) (bM (aq (i:=0) rfl) ed) (yv T) hr (by(first|lia|omega))) (ar (cw T (ae (i:=1) rfl) (ae (i:=7) rfl) (bM (aq (i:=0) rfl) ed) (xu T) hr (by(first|lia|omega))) (ar (cw T (ae (i:=2) rfl) (ae (i:=8) rfl) (bM (aq (i:=0) rfl) ed) (xd T) hr (by(first|lia|omega))) aH)))))) (λ_=>(bW (i:=1) rfl (by decide))) (λ_=>cH) (λ_=>(aq (i:=1) rfl)))
theorem DY(T:TopF X fa u){c P:Addr}(W:cM X c P)(cd:Option (Value×Str))(hcd:cd=some (.ref c,cz)):∀A env,Room A 80→aM X A (ba cd) env (bj 15 (fnB 75)) tb:=λA env hr=>
 (iy (i:=15) rfl (eN (ar (aJ (cb (ft':=wY) (js:=[none]) (fits (by decide +kernel)) (.l .nil) (eM (hr.le (by(first|lia|omega))) (aq (i:=16) rfl)) (λ_=>(bW (i:=0) rfl (by decide))) (λ_=>cH) (λ_=>(kB T (ae (i:=0) rfl) (ae (i:=13) rfl) (ar (aq (i:=0) rfl) (ar (kTy T (ae (i:=1) rfl) (ae (i:=5) rfl)) aH)) zI))) (aq (i:=16) rfl)) (ar (aJ (aJ (bI (ar dX aH)) aC) (bI (ar dX (ar dX (ar dX (ar dX (ar dX (ar dX (ar dX (ar dX (ar dX aH))))))))))) aH))))
theorem Ew(T:TopF X fa u){c P:Addr}(W:cM X c P)(cd:Option (Value×Str))(hcd:cd=some (.ref c,cz)):∀A env,Room A 80→aM X A (ba cd) env (bj 16 (fnB 75)) tF:=λA env hr=>
 (pD (i:=17) rfl (cb (ft':=uk) (js:=[none]) (fits (by decide +kernel)) (.l .nil) (eM (hr.le (by(first|lia|omega))) (aq (i:=6) rfl)) (λ_=>(bW (i:=0) rfl (by decide))) (λ_=>cH) (λ_=>(sIf (ck (hr.le (by(first|lia|omega))) (dz (aq (i:=0) rfl) bz (cY aC) bz) (bq (by decide +kernel))) (dz (aq (i:=0) rfl) (cY (xK aC)) bz bz) (aq (i:=0) rfl)))) (λ_ h=>fV h))
theorem DR(T:TopF X fa u){c P:Addr}(W:cM X c P)(cd:Option (Value×Str))(hcd:cd=some (.ref c,cz)):∀A env,Room A 80→aM X A (ba cd) env (bj 17 (fnB 75)) tB:=λA env hr=>
 (dq (i:=18) rfl (by decide) (cw T (ae (i:=10) rfl) (ae (i:=4) rfl) (bM (aq (i:=7) rfl) ed) (p0 T) hr (by(first|lia|omega))))
theorem Er(T:TopF X fa u){c P:Addr}(W:cM X c P)(cd:Option (Value×Str))(hcd:cd=some (.ref c,cz)):∀A env,Room A 80→aM X A (ba cd) env (bj 18 (fnB 75)) tv:=λA env hr=>
 (fS (i:=19) rfl (ft':=v5) (js:=[none]) (fits (by decide +kernel)) (.l .nil) (BO T (hr.le (by(first|lia|omega))) (ae (i:=11) rfl) (aq (i:=18) rfl)) (λ_=>(bW (i:=0) rfl (by decide))) (λ_=>(jg (Cn T (ae (i:=0) rfl) (dH (aq (i:=0) rfl) aC)))) (λ_=>(aq (i:=0) rfl)))
theorem Es(T:TopF X fa u){c P:Addr}(W:cM X c P)(cd:Option (Value×Str))(hcd:cd=some (.ref c,cz)):∀A env,Room A 80→aM X A (ba cd) env (bj 19 (fnB 75)) tZ:=λA env hr=>
 (iy (i:=15) rfl (eN (ar (eN (ar (aq (i:=18) rfl) (ar (aq (i:=19) rfl) aH))) (ar (eN (ar (fU (bq (by decide +kernel)) (ar (aq (i:=17) rfl) aH) F.plainAttrs_str F.slot_str_join F.type_str_join ja) (ar (cb (ft':=uF) (js:=[none,none,some 17]) (fits (by decide +kernel)) (.l (.l (.f (j:=17) rfl (by decide) .nil))) (kI T (ae (i:=0) rfl) (ae (i:=0) rfl) (ar (aq (i:=4) rfl) aH) (jd (hr.le (by(first|lia|omega))))) (λ_=>(gG (hr.le (by(first|lia|omega))) (.cons (i:=0) rfl (by decide) (.cons (i:=1) rfl (by decide) .nil)))) (λ_=>cH) (λ_=>(eN (ar (aJ (kB T (ae (i:=0) rfl) (ae (i:=6) rfl) (ar (fU (bq (by decide +kernel)) (ar (dz (aq (i:=2) rfl) bz (cY (aJ (aq (i:=0) rfl) aC)) bz) aH) F.plainAttrs_str F.slot_str_join F.type_str_join ja) aH) nU) aC) (ar (aq (i:=1) rfl) aH))))) aH))) aH))))
theorem Eg(T:TopF X fa u){c P:Addr}(W:cM X c P)(cd:Option (Value×Str))(hcd:cd=some (.ref c,cz)):∀A env,Room A 80→aM X A (ba cd) env (bj 20 (fnB 75)) ta:=λA env hr=>
 (iy (i:=15) rfl (eN (ar (aJ (cb (ft':=uN) (js:=[none]) (fits (by decide +kernel)) (.l .nil) (C5 (hr.le (by(first|lia|omega))) (bq (by decide +kernel))) (λ_=>(bW (i:=0) rfl (by decide))) (λ_=>cH) (λ_=>(BU T (ae (i:=0) rfl) (aq (i:=0) rfl)))) (bI (ar (mQ (hr.le (by(first|lia|omega))) (cw T (ae (i:=12) rfl) (ae (i:=5) rfl) (bM (dz (aq (i:=7) rfl) bz (cY (xK aC)) bz) ed) (iw T) hr (by(first|lia|omega))) dX) (ar (mQ (hr.le (by(first|lia|omega))) (cw T (ae (i:=12) rfl) (ae (i:=5) rfl) (bM (aJ (aq (i:=7) rfl) (bq (by decide +kernel))) ed) (iw T) hr (by(first|lia|omega))) dX) aH)))) (ar (bI (ar aC (ar aC (ar aC (ar aC (ar dX (ar dX aH))))))) aH))))
theorem DP(T:TopF X fa u){c P:Addr}(W:cM X c P)(cd:Option (Value×Str))(hcd:cd=some (.ref c,cz)):∀A env,Room A 80→aM X A (ba cd) env (bj 21 (fnB 75)) uf:=λA env hr=>
 (fS (i:=20) rfl (ft':=vt) (js:=[none,none]) (fits (by decide +kernel)) (.l (.l .nil)) (eM (hr.le (by(first|lia|omega))) (aq (i:=19) rfl)) (λ_=>(gG (hr.le (by(first|lia|omega))) (.cons (i:=0) rfl (by decide) (.cons (i:=1) rfl (by decide) .nil)))) (λ_=>cH) (λ_=>(aq (i:=1) rfl)))
theorem Eb(T:TopF X fa u){c P:Addr}(W:cM X c P)(cd:Option (Value×Str))(hcd:cd=some (.ref c,cz)):∀A env,Room A 80→aM X A (ba cd) env (bj 22 (fnB 75)) si:=λA env hr=>
 (dq (i:=21) rfl (by decide) (cw T (ae (i:=13) rfl) (ae (i:=13) rfl) (bM (aq (i:=6) rfl) (bM (aq (i:=20) rfl) (D9 aH (rE (i:=15) rfl ed)))) (sA T 9) hr (by(first|lia|omega))))
theorem DV(T:TopF X fa u){c P:Addr}(W:cM X c P)(cd:Option (Value×Str))(hcd:cd=some (.ref c,cz)):∀A env,Room A 80→aM X A (ba cd) env (bj 23 (fnB 75)) sv:=λA env hr=>
 (dq (i:=22) rfl (by decide) (cw T (ae (i:=14) rfl) (ae (i:=14) rfl) (bM (aq (i:=21) rfl) (bM aC (bM aC (bM aC ed)))) (md T 9) hr (by(first|lia|omega))))
theorem D4(T:TopF X fa u){c P:Addr}(W:cM X c P)(cd:Option (Value×Str))(hcd:cd=some (.ref c,cz)):∀A env,Room A 80→aM X A (ba cd) env (bj 24 (fnB 75)) t5:=λA env hr=>
 (dq (i:=23) rfl (by decide) (cw T (ae (i:=14) rfl) (ae (i:=14) rfl) (bM (aq (i:=21) rfl) (bM aC (bM aC (bM aC ed)))) (md T 9) hr (by(first|lia|omega))))
end Mine
namespace Mine
variable{X:Cx}{fa:Nat→Addr}{u:Addr}
theorem Ea(T:TopF X fa u){c P:Addr}(W:cM X c P)(cd:Option (Value×Str))(hcd:cd=some (.ref c,cz)):∀A env,Room A 80→aM X A (ba cd) env (bj 25 (fnB 75)) (tI u P):=λA env hr=>
 (@fS _ _ _ ((vu cd)) _ ([none,some 2,some 3,some 14]) (24) _ _ _ _ _ _ _ _ _ _ _ _ _ rfl (sW (by decide +kernel)) (.l (.f (j:=2) rfl (by decide) (.f (j:=3) rfl (by decide) (.f (j:=14) rfl (by decide) .nil)))) (@eM _ _ _ _ _ _ _ (hr.le (by(first|lia|omega))) (@aq _ _ _ _ (20) _ _ _ rfl)) (λ_=>(@bW _ _ _ _ (0) _ _ _ rfl (by decide))) (λ_=>(@jg _ _ _ _ _ _ (@ck _ _ _ _ _ _ _ _ _ _ (hr.le (by(first|lia|omega))) (@aq _ _ _ _ (0) _ _ _ rfl) (@aq _ _ _ _ (2) _ _ _ rfl) (by intros;first|rfl|exact .inl rfl|exact .inr rfl|with_unfolding_all rfl|assumption)))) (λ_=>(@Cj _ _ _ (qh) _ _ _ _ _ _ _ _ _ ([none,none,some 3]) _ _ _ _ _ _ _ _ _ _ _ _ T W (hr.le (by(first|lia|omega))) (ae (i:=0) rfl) rfl rfl hcd (fits (by decide +kernel)) (.l (.l (.f (j:=3) rfl (by decide) .nil))) (λA env hr=>(@aJ _ _ _ _ _ _ _ _ _ _ (@fU _ _ _ _ _ _ _ _ _ _ _ _ _ _ _ (@dH _ _ _ _ _ _ _ _ _ (@aq _ _ _ _ (2) _ _ _ rfl) (@aC _ _ _ _ _ _ _) (by intros;first|rfl|exact .inl rfl|exact .inr rfl|with_unfolding_all rfl|assumption)) (@ar _ _ _ _ _ _ _ _ _ (@aq _ _ _ _ (0) _ _ _ rfl) (@aH _ _ _ _ _) (by intros;first|rfl|exact .inl rfl|exact .inr rfl|with_unfolding_all rfl|assumption)) F.plainAttrs_list F.slot_list_index F.type_list_index nY (by intros;first|rfl|exact .inl rfl|exact .inr rfl|with_unfolding_all rfl|assumption) (by intros;first|rfl|exact .inl rfl|exact .inr rfl|with_unfolding_all rfl|assumption) (by intros;first|rfl|exact .inl rfl|exact .inr rfl|with_unfolding_all rfl|assumption) (by intros;first|rfl|exact .inl rfl|exact .inr rfl|with_unfolding_all rfl|assumption) (by intros;first|rfl|exact .inl rfl|exact .inr rfl|with_unfolding_all rfl|assumption)) (@aq _ _ _ _ (1) _ _ _ rfl))) (@BU _ _ _ _ _ _ _ _ _ _ T (ae (i:=1) rfl) (@aq _ _ _ _ (0) _ _ _ rfl) (by intros;first|rfl|exact .inl rfl|exact .inr rfl|with_unfolding_all rfl|assumption)) (@aq _ _ _ _ (1) _ _ _ rfl) (by intros;first|rfl|exact .inl rfl|exact .inr rfl|with_unfolding_all rfl|assumption) (by intros;first|rfl|exact .inl rfl|exact .inr rfl|with_unfolding_all rfl|assumption) (λ_ _ _=>rfl) (by intros;first|rfl|exact .inl rfl|exact .inr rfl|with_unfolding_all rfl|assumption) (by intros;first|rfl|exact .inl rfl|exact .inr rfl|with_unfolding_all rfl|assumption) (by intros;first|rfl|exact .inl rfl|exact .inr rfl|with_unfolding_all rfl|assumption) (by intros;first|rfl|exact .inl rfl|exact .inr rfl|with_unfolding_all rfl|assumption) (by intros;first|rfl|exact .inl rfl|exact .inr rfl|with_unfolding_all rfl|assumption))) (by intros;first|rfl|exact .inl rfl|exact .inr rfl|with_unfolding_all rfl|assumption) (by intro _ h;first|exact h|cases h) (by intros;first|rfl|exact .inl rfl|exact .inr rfl|with_unfolding_all rfl|assumption))
end Mine
namespace Mine
variable{X:Cx}{fa:Nat→Addr}{u:Addr}
theorem En(T:TopF X fa u){c P:Addr}(W:cM X c P)(cd:Option (Value×Str))(hcd:cd=some (.ref c,cz)):∀A env,Room A 80→aM X A (ba cd) env (bj 26 (fnB 75)) so:=λA env hr=>
 (iy (i:=15) rfl (eN (ar (aq (i:=24) rfl) (ar (cb (ft':=uK) (js:=[none,some 8,some 2]) (fits (by decide +kernel)) (.l (.f (j:=8) rfl (by decide) (.f (j:=2) rfl (by decide) .nil))) (kI T (ae (i:=5) rfl) (ae (i:=1) rfl) (ar aC aH) (gg (hr.le (by(first|lia|omega))))) (λ_=>(bW (i:=0) rfl (by decide))) (λ_=>cH) (λ_=>(eN (ar (aJ (fU (aq (i:=1) rfl) (ar (aq (i:=0) rfl) aH) F.plainAttrs_list F.slot_list_index F.type_list_index nY) (aq (i:=2) rfl)) (ar (aJ (fU (aq (i:=1) rfl) (ar (aq (i:=0) rfl) aH) F.plainAttrs_list F.slot_list_index F.type_list_index nY) (aq (i:=2) rfl)) aH))))) aH))))
theorem DF(T:TopF X fa u){c P:Addr}(W:cM X c P)(cd:Option (Value×Str))(hcd:cd=some (.ref c,cz)):∀A env,Room A 80→aM X A (ba cd) env (bj 27 (fnB 75)) tx:=λA env hr=>
 (pD (i:=25) rfl (cb (ft':=vd) (js:=[none]) (fits (by decide +kernel)) (.l .nil) (eM (hr.le (by(first|lia|omega))) (aq (i:=24) rfl)) (λ_=>(bW (i:=0) rfl (by decide))) (λ_=>cH) (λ_=>(dH (aq (i:=0) rfl) aC))) (λ_ h=>fV h))
theorem D5(T:TopF X fa u){c P:Addr}(W:cM X c P)(cd:Option (Value×Str))(hcd:cd=some (.ref c,cz)):∀A env,Room A 80→aM X A (ba cd) env (bj 28 (fnB 75)) (sk u P):=λA env hr=>
 (jU (hr.le (by(first|lia|omega))) (eM (hr.le (by(first|lia|omega))) (bI (ar (By T (hr.le (by(first|lia|omega))) (ae (i:=15) rfl) aC lQ) (ar (BM T (hr.le (by(first|lia|omega))) (ae (i:=15) rfl) (dH (aq (i:=9) rfl) aC) lQ (aq (i:=2) rfl)) aH)))) (bW (i:=26) rfl (by decide)) (az (iy (i:=15) rfl (eN (ar (bI (ar (mQ (hr.le (by(first|lia|omega))) (dH (aq (i:=26) rfl) aC) (C4 T (ae (i:=16) rfl))) (ar (dz (aq (i:=26) rfl) (cY aC) bz bz) aH))) (ar (bI (ar dX (ar (eN (ar (bq (by decide +kernel)) aH)) aH))) aH)))) aO) aO)
theorem D2(T:TopF X fa u){c P:Addr}(W:cM X c P)(cd:Option (Value×Str))(hcd:cd=some (.ref c,cz)):∀A env,Room A 80→aM X A (ba cd) env (bj 29 (fnB 75)) uh:=λA env hr=>
 (@dq _ _ _ _ (27) _ _ _ _ _ _ rfl (by decide) (@aJ _ _ _ _ _ _ _ _ _ _ (@bI _ _ _ _ _ _ _ (@ar _ _ _ _ _ _ _ _ _ (@bq _ _ _ _ _ _ _ _ (by decide +kernel)) (@ar _ _ _ _ _ _ _ _ _ (@bq _ _ _ _ _ _ _ _ (by decide +kernel)) (@ar _ _ _ _ _ _ _ _ _ (@bq _ _ _ _ _ _ _ _ (by decide +kernel)) (@ar _ _ _ _ _ _ _ _ _ (@bq _ _ _ _ _ _ _ _ (by decide +kernel)) (@ar _ _ _ _ _ _ _ _ _ (@bq _ _ _ _ _ _ _ _ (by decide +kernel)) (@ar _ _ _ _ _ _ _ _ _ (@bq _ _ _ _ _ _ _ _ (by decide +kernel)) (@ar _ _ _ _ _ _ _ _ _ (@bq _ _ _ _ _ _ _ _ (by decide +kernel)) (@ar _ _ _ _ _ _ _ _ _ (@bq _ _ _ _ _ _ _ _ (by decide +kernel)) (@ar _ _ _ _ _ _ _ _ _ (@bq _ _ _ _ _ _ _ _ (by decide +kernel)) (@ar _ _ _ _ _ _ _ _ _ (@bq _ _ _ _ _ _ _ _ (by decide +kernel)) (@aH _ _ _ _ _) (by intros;first|rfl|exact .inl rfl|exact .inr rfl|with_unfolding_all rfl|assumption)) (by intros;first|rfl|exact .inl rfl|exact .inr rfl|with_unfolding_all rfl|assumption)) (by intros;first|rfl|exact .inl rfl|exact .inr rfl|with_unfolding_all rfl|assumption)) (by intros;first|rfl|exact .inl rfl|exact .inr rfl|with_unfolding_all rfl|assumption)) (by intros;first|rfl|exact .inl rfl|exact .inr rfl|with_unfolding_all rfl|assumption)) (by intros;first|rfl|exact .inl rfl|exact .inr rfl|with_unfolding_all rfl|assumption)) (by intros;first|rfl|exact .inl rfl|exact .inr rfl|with_unfolding_all rfl|assumption)) (by intros;first|rfl|exact .inl rfl|exact .inr rfl|with_unfolding_all rfl|assumption)) (by intros;first|rfl|exact .inl rfl|exact .inr rfl|with_unfolding_all rfl|assumption)) (by intros;first|rfl|exact .inl rfl|exact .inr rfl|with_unfolding_all rfl|assumption))) (@cb _ _ _ (vm) _ ([none]) _ _ _ _ _ _ _ _ _ _ (fits (by decide +kernel)) (.l .nil) (@kI _ _ _ _ _ _ _ _ _ _ _ _ _ _ _ T (ae (i:=5) rfl) (ae (i:=1) rfl) (@ar _ _ _ _ _ _ _ _ _ (@aC _ _ _ _ _ _ _) (@ar _ _ _ _ _ _ _ _ _ (@aC _ _ _ _ _ _ _) (@aH _ _ _ _ _) (by intros;first|rfl|exact .inl rfl|exact .inr rfl|with_unfolding_all rfl|assumption)) (by intros;first|rfl|exact .inl rfl|exact .inr rfl|with_unfolding_all rfl|assumption)) (gg (hr.le (by(first|lia|omega)))) (by intros;first|rfl|exact .inl rfl|exact .inr rfl|with_unfolding_all rfl|assumption) (by intros;first|rfl|exact .inl rfl|exact .inr rfl|with_unfolding_all rfl|assumption)) (λ_=>(@bW _ _ _ _ (0) _ _ _ rfl (by decide))) (λ_=>(@cH _ _ _ _)) (λ_=>(@kB _ _ _ _ _ _ _ _ _ _ _ _ _ _ T (ae (i:=0) rfl) (ae (i:=10) rfl) (@ar _ _ _ _ _ _ _ _ _ (@aJ _ _ _ _ _ _ _ _ _ _ (@aC _ _ _ _ _ _ _) (@aq _ _ _ _ (0) _ _ _ rfl)) (@aH _ _ _ _ _) (by intros;first|rfl|exact .inl rfl|exact .inr rfl|with_unfolding_all rfl|assumption)) Ar (by intros;first|rfl|exact .inl rfl|exact .inr rfl|with_unfolding_all rfl|assumption) (by intros;first|rfl|exact .inl rfl|exact .inr rfl|with_unfolding_all rfl|assumption))) (by intros;first|rfl|exact .inl rfl|exact .inr rfl|with_unfolding_all rfl|assumption) (by intro _ h;first|exact h|cases h))) (by intros;first|rfl|exact .inl rfl|exact .inr rfl|with_unfolding_all rfl|assumption))
theorem D7(T:TopF X fa u){c P:Addr}(W:cM X c P)(cd:Option (Value×Str))(hcd:cd=some (.ref c,cz)):∀A env,Room A 80→aM X A (ba cd) env (bj 30 (fnB 75)) sY:=λA env hr=>
 (dq (i:=28) rfl (by decide) (dz (aq (i:=27) rfl) (cY (aq (i:=10) rfl)) (cY (aJ (aq (i:=10) rfl) aC)) bz))
theorem DS(T:TopF X fa u){c P:Addr}(W:cM X c P)(cd:Option (Value×Str))(hcd:cd=some (.ref c,cz)):∀A env,Room A 80→aM X A (ba cd) env (bj 31 (fnB 75)) sG:=λA env hr=>
 (iy (i:=15) rfl (eN (ar (cw T (ae (i:=17) rfl) (ae (i:=0) rfl) (bM (aJ (aJ (aJ aC aC) aC) (aq (i:=11) rfl)) ed) (nK T) hr (by(first|lia|omega))) (ar (fU (bq (by decide +kernel)) (ar (aJ (aq (i:=27) rfl) (sIf (ck (hr.le (by(first|lia|omega))) (aq (i:=11) rfl) aC) (bI (ar (kB T (ae (i:=18) rfl) (ae (i:=10) rfl) (ar (aq (i:=11) rfl) aH) Ar) aH)) (bI aH))) aH) F.plainAttrs_str F.slot_str_join F.type_str_join ja) aH))))
theorem D3(T:TopF X fa u){c P:Addr}(W:cM X c P)(cd:Option (Value×Str))(hcd:cd=some (.ref c,cz)):∀A env,Room A 80→aM X A (ba cd) env (bj 32 (fnB 75)) sJ:=λA env hr=>
 (mM (i:=29) rfl (by decide) aH)
theorem Ee(T:TopF X fa u){c P:Addr}(W:cM X c P)(cd:Option (Value×Str))(hcd:cd=some (.ref c,cz)):∀A env,Room A 80→aM X A (ba cd) env (bj 33 (fnB 75)) td:=λA env hr=>
 (jU (hr.le (by(first|lia|omega))) (kI T (ae (i:=19) rfl) (ae (i:=2) rfl) (ar (dH (aq (i:=14) rfl) aC) (ar (aq (i:=12) rfl) aH)) (CI (hr.le (by(first|lia|omega))))) (gG (hr.le (by(first|lia|omega))) (.cons (i:=30) rfl (by decide) (.cons (i:=31) rfl (by decide) .nil))) (az (dq (i:=32) rfl (by decide) (cw T (ae (i:=17) rfl) (ae (i:=0) rfl) (bM (aq (i:=30) rfl) ed) (nK T) hr (by(first|lia|omega)))) (az (dq (i:=33) rfl (by decide) (fU (aq (i:=32) rfl) (ar (bq (by decide +kernel)) aH) F.plainAttrs_str F.slot_str_split F.type_str_split Bv)) (az (iy (i:=15) rfl (eN (ar (aq (i:=32) rfl) (ar (DJ (fU (bq (by decide +kernel)) (ar (cb (ft':=uS) (js:=[none,none,some 31]) (fits (by decide +kernel)) (.l (.l (.f (j:=31) rfl (by decide) .nil))) (kI T (ae (i:=0) rfl) (ae (i:=0) rfl) (ar (aq (i:=28) rfl) aH) (jd (hr.le (by(first|lia|omega))))) (λ_=>(gG (hr.le (by(first|lia|omega))) (.cons (i:=0) rfl (by decide) (.cons (i:=1) rfl (by decide) .nil)))) (λ_=>(jg (ck (hr.le (by(first|lia|omega))) (aJ (aJ (aq (i:=2) rfl) (aJ aC (aq (i:=0) rfl))) aC) aC))) (λ_=>(aq (i:=1) rfl))) aH) F.plainAttrs_str F.slot_str_join F.type_str_join ja) (bq (by decide +kernel))) aH)))) (az (iy (i:=29) rfl (kB T (ae (i:=1) rfl) (ae (i:=7) rfl) (ar (cb (ft':=vE) (js:=[none,none,some 33]) (fits (by decide +kernel)) (.l (.l (.f (j:=33) rfl (by decide) .nil))) (kI T (ae (i:=0) rfl) (ae (i:=0) rfl) (ar (aq (i:=28) rfl) aH) (jd (hr.le (by(first|lia|omega))))) (λ_=>(gG (hr.le (by(first|lia|omega))) (.cons (i:=0) rfl (by decide) (.cons (i:=1) rfl (by decide) .nil)))) (λ_=>(jg (ck (hr.le (by(first|lia|omega))) (aq (i:=1) rfl) (aq (i:=2) rfl)))) (λ_=>(aJ aC (aq (i:=0) rfl)))) aH) (Ag (hr.le (by(first|lia|omega)))))) aO)))) aO)
theorem DK(T:TopF X fa u){c P:Addr}(W:cM X c P)(cd:Option (Value×Str))(hcd:cd=some (.ref c,cz)):∀A env,Room A 80→aM X A (ba cd) env (bj 34 (fnB 75)) tY:=λA env hr=>
 (dq (i:=34) rfl (by decide) (cw T (ae (i:=20) rfl) (ae (i:=15) rfl) (bM (aq (i:=29) rfl) (bM (aq (i:=22) rfl) ed)) (pY T) hr (by(first|lia|omega))))
theorem DG(T:TopF X fa u){c P:Addr}(W:cM X c P)(cd:Option (Value×Str))(hcd:cd=some (.ref c,cz)):∀A env,Room A 80→aM X A (ba cd) env (bj 35 (fnB 75)) s8:=λA env hr=>
 (dq (i:=35) rfl (by decide) (cw T (ae (i:=20) rfl) (ae (i:=15) rfl) (bM (aq (i:=29) rfl) (bM (aq (i:=23) rfl) ed)) (pY T) hr (by(first|lia|omega))))
theorem Eo(T:TopF X fa u){c P:Addr}(W:cM X c P)(cd:Option (Value×Str))(hcd:cd=some (.ref c,cz)):∀A env,Room A 80→aM X A (ba cd) env (bj 36 (fnB 75)) tH:=λA env hr=>
 (fS (i:=36) rfl (ft':=vJ) (js:=[none,some 34,some 25]) (fits (by decide +kernel)) (.l (.f (j:=34) rfl (by decide) (.f (j:=25) rfl (by decide) .nil))) (eM (hr.le (by(first|lia|omega))) (aq (i:=34) rfl)) (λ_=>(bW (i:=0) rfl (by decide))) (λ_=>cH) (λ_=>(cw T (ae (i:=0) rfl) (ae (i:=16) rfl) (bM (aq (i:=0) rfl) (bM (aq (i:=1) rfl) (bM (aq (i:=2) rfl) ed))) (ng T) hr (by(first|lia|omega)))))
theorem Ex(T:TopF X fa u){c P:Addr}(W:cM X c P)(cd:Option (Value×Str))(hcd:cd=some (.ref c,cz)):∀A env,Room A 80→aM X A (ba cd) env (bj 37 (fnB 75)) sy:=λA env hr=>
 (zw (i:=15) rfl (bI (ar (eN (ar (kB T (ae (i:=4) rfl) (ae (i:=9) rfl) (ar (aq (i:=35) rfl) aH) tm) (ar (kB T (ae (i:=4) rfl) (ae (i:=9) rfl) (ar (cb (ft':=uC) (js:=[none]) (fits (by decide +kernel)) (.l .nil) (eM (hr.le (by(first|lia|omega))) (aq (i:=34) rfl)) (λ_=>(bW (i:=0) rfl (by decide))) (λ_=>cH) (λ_=>(aJ aC (aq (i:=0) rfl)))) aH) tm) aH))) (ar (eN (ar (cb (ft':=vX) (js:=[none,some 35,some 25]) (fits (by decide +kernel)) (.l (.f (j:=35) rfl (by decide) (.f (j:=25) rfl (by decide) .nil))) (eM (hr.le (by(first|lia|omega))) (aq (i:=34) rfl)) (λ_=>(bW (i:=0) rfl (by decide))) (λ_=>cH) (λ_=>(cw T (ae (i:=0) rfl) (ae (i:=16) rfl) (bM (aJ aC (aq (i:=0) rfl)) (bM (aq (i:=1) rfl) (bM (aq (i:=2) rfl) ed))) (ng T) hr (by(first|lia|omega))))) (ar (aq (i:=36) rfl) aH))) aH))))
theorem DH(T:TopF X fa u){c P:Addr}(W:cM X c P)(cd:Option (Value×Str))(hcd:cd=some (.ref c,cz)):∀A env,Room A 80→aM X A (ba cd) env (bj 38 (fnB 75)) sS:=λA env hr=>
 (pD (i:=37) rfl (cb (ft':=uu) (js:=[none]) (fits (by decide +kernel)) (.c .nil) (kI T (ae (i:=5) rfl) (ae (i:=1) rfl) (ar aC aH) (gg (hr.le (by(first|lia|omega))))) (λ_=>(bW (i:=0) rfl (by decide))) (λ_=>cH) (λ_=>(kB T (ae (i:=0) rfl) (ae (i:=7) rfl) (ar (cb (ft':=qv) (js:=[none,some 0]) (fits (by decide +kernel)) (.l (.f (j:=0) rfl (by decide) .nil)) (kI T (ae (i:=1) rfl) (ae (i:=1) rfl) (ar aC aH) (gg (hr.le (by(first|lia|omega))))) (λ_=>(bW (i:=0) rfl (by decide))) (λ_=>cH) (λ_=>(aJ (aJ (aq (i:=1) rfl) (aJ aC (aq (i:=0) rfl))) aC))) aH) (Ag (hr.le (by(first|lia|omega))))))) (λ_ h=>fV h))
theorem Ed(T:TopF X fa u){c P:Addr}(W:cM X c P)(cd:Option (Value×Str))(hcd:cd=some (.ref c,cz)):∀A env,Room A 80→aM X A (ba cd) env (bj 39 (fnB 75)) te:=λA env hr=>
 (jU (hr.le (by(first|lia|omega))) (eM (hr.le (by(first|lia|omega))) (aq (i:=29) rfl)) (bW (i:=31) rfl (by decide)) (az (fS (i:=38) rfl (ft':=vh) (js:=[none,none,some 31]) (fits (by decide +kernel)) (.l (.l (.f (j:=31) rfl (by decide) .nil))) (kI T (ae (i:=19) rfl) (ae (i:=2) rfl) (ar (aq (i:=34) rfl) (ar (aq (i:=36) rfl) aH)) (CI (hr.le (by(first|lia|omega))))) (λ_=>(gG (hr.le (by(first|lia|omega))) (.cons (i:=0) rfl (by decide) (.cons (i:=1) rfl (by decide) .nil)))) (λ_=>(jg (ck (hr.le (by(first|lia|omega))) (aJ (aJ (aq (i:=2) rfl) (aq (i:=0) rfl)) (aq (i:=1) rfl)) (aq (i:=1) rfl)))) (λ_=>(aq (i:=0) rfl))) (az (iy (i:=15) rfl (eN (ar (cb (ft':=uQ) (js:=[none,some 37,some 31]) (fits (by decide +kernel)) (.l (.f (j:=37) rfl (by decide) (.f (j:=31) rfl (by decide) .nil))) (eM (hr.le (by(first|lia|omega))) (aq (i:=38) rfl)) (λ_=>(bW (i:=0) rfl (by decide))) (λ_=>cH) (λ_=>(dH (aq (i:=1) rfl) (aJ (aq (i:=2) rfl) (aq (i:=0) rfl))))) (ar (bI (ar (kB T (ae (i:=21) rfl) (ae (i:=8) rfl) (ar (cb (ft':=vG) (js:=[none,some 37,some 31]) (fits (by decide +kernel)) (.l (.f (j:=37) rfl (by decide) (.f (j:=31) rfl (by decide) .nil))) (eM (hr.le (by(first|lia|omega))) (aq (i:=34) rfl)) (λ_=>(bW (i:=0) rfl (by decide))) (λ_=>cH) (λ_=>(dH (aq (i:=1) rfl) (aJ (aq (i:=2) rfl) (aq (i:=0) rfl))))) aH) (Et (hr.le (by(first|lia|omega))))) aH)) aH)))) aO)) aO)
theorem Ep(T:TopF X fa u){c P:Addr}(W:cM X c P)(cd:Option (Value×Str))(hcd:cd=some (.ref c,cz)):∀A env,Room A 80→aM X A (ba cd) env (bj 40 (fnB 75)) tN:=λA env hr=>
 (fD (mQ (hr.le (by(first|lia|omega))) (cb (ft':=vV) (js:=[none]) (fits (by decide +kernel)) (.l .nil) (eM (hr.le (by(first|lia|omega))) (aq (i:=15) rfl)) (λ_=>(bW (i:=0) rfl (by decide))) (λ_=>(jg (ck (hr.le (by(first|lia|omega))) (dH (aq (i:=0) rfl) aC) (dH (aq (i:=0) rfl) aC)))) (λ_=>(aq (i:=0) rfl))) (bI aH)))
end Mine
namespace Mine
variable{X:Cx}{fa:Nat→Addr}{u:Addr}
theorem vM:fnB 75=[bj 0 (fnB 75),bj 1 (fnB 75),bj 2 (fnB 75),bj 3 (fnB 75),bj 4 (fnB 75),bj 5 (fnB 75),bj 6 (fnB 75),bj 7 (fnB 75),bj 8 (fnB 75),bj 9 (fnB 75),bj 10 (fnB 75),bj 11 (fnB 75),bj 12 (fnB 75),bj 13 (fnB 75),bj 14 (fnB 75),bj 15 (fnB 75),bj 16 (fnB 75),bj 17 (fnB 75),bj 18 (fnB 75),bj 19 (fnB 75),bj 20 (fnB 75),bj 21 (fnB 75),bj 22 (fnB 75),bj 23 (fnB 75),bj 24 (fnB 75),bj 25 (fnB 75),bj 26 (fnB 75),bj 27 (fnB 75),bj 28 (fnB 75),bj 29 (fnB 75),bj 30 (fnB 75),bj 31 (fnB 75),bj 32 (fnB 75),bj 33 (fnB 75),bj 34 (fnB 75),bj 35 (fnB 75),bj 36 (fnB 75),bj 37 (fnB 75),bj 38 (fnB 75),bj 39 (fnB 75),bj 40 (fnB 75)]:=by kernel_rfl
theorem Dq(T:TopF X fa u){c P:Addr}(W:cM X c P)(cd:Option (Value×Str))(hcd:cd=some (.ref c,cz)):∀A env,Room A 80→bh X A (ba cd) env (fnB 75) (pK u P):=λA env hr=>by
 rw[vM]
 unfold pK
 refine @az _ _ _ _ _ _ _ _ (@dl0 X fa u T c P W cd hcd A env hr) ?_
 refine @az _ _ _ _ _ _ _ _ (@dl1 X fa u T c P W cd hcd A env hr) ?_
 refine @az _ _ _ _ _ _ _ _ (@dl2 X fa u T c P W cd hcd A env hr) ?_
 refine @az _ _ _ _ _ _ _ _ (@dl3 X fa u T c P W cd hcd A env hr) ?_
 refine @az _ _ _ _ _ _ _ _ (@dl4 X fa u T c P W cd hcd A env hr) ?_
 refine @az _ _ _ _ _ _ _ _ (@dl5 X fa u T c P W cd hcd A env hr) ?_
 refine @az _ _ _ _ _ _ _ _ (@dl6 X fa u T c P W cd hcd A env hr) ?_
 refine @az _ _ _ _ _ _ _ _ (@dl7 X fa u T c P W cd hcd A env hr) ?_
 refine @az _ _ _ _ _ _ _ _ (@dl8 X fa u T c P W cd hcd A env hr) ?_
 refine @az _ _ _ _ _ _ _ _ (@dl9 X fa u T c P W cd hcd A env hr) ?_
 refine @az _ _ _ _ _ _ _ _ (@DM X fa u T c P W cd hcd A env hr) ?_
 refine @az _ _ _ _ _ _ _ _ (@Ek X fa u T c P W cd hcd A env hr) ?_
 refine @az _ _ _ _ _ _ _ _ (@DI X fa u T c P W cd hcd A env hr) ?_
 refine @az _ _ _ _ _ _ _ _ (@Ec X fa u T c P W cd hcd A env hr) ?_
 refine @az _ _ _ _ _ _ _ _ (@Eh X fa u T c P W cd hcd A env hr) ?_
 refine @az _ _ _ _ _ _ _ _ (@DY X fa u T c P W cd hcd A env hr) ?_
 refine @az _ _ _ _ _ _ _ _ (@Ew X fa u T c P W cd hcd A env hr) ?_
 refine @az _ _ _ _ _ _ _ _ (@DR X fa u T c P W cd hcd A env hr) ?_
 refine @az _ _ _ _ _ _ _ _ (@Er X fa u T c P W cd hcd A env hr) ?_
 refine @az _ _ _ _ _ _ _ _ (@Es X fa u T c P W cd hcd A env hr) ?_
 refine @az _ _ _ _ _ _ _ _ (@Eg X fa u T c P W cd hcd A env hr) ?_
 refine @az _ _ _ _ _ _ _ _ (@DP X fa u T c P W cd hcd A env hr) ?_
 refine @az _ _ _ _ _ _ _ _ (@Eb X fa u T c P W cd hcd A env hr) ?_
 refine @az _ _ _ _ _ _ _ _ (@DV X fa u T c P W cd hcd A env hr) ?_
 refine @az _ _ _ _ _ _ _ _ (@D4 X fa u T c P W cd hcd A env hr) ?_
 refine @az _ _ _ _ _ _ _ _ (@Ea X fa u T c P W cd hcd A env hr) ?_
 refine @az _ _ _ _ _ _ _ _ (@En X fa u T c P W cd hcd A env hr) ?_
 refine @az _ _ _ _ _ _ _ _ (@DF X fa u T c P W cd hcd A env hr) ?_
 refine @az _ _ _ _ _ _ _ _ (@D5 X fa u T c P W cd hcd A env hr) ?_
 refine @az _ _ _ _ _ _ _ _ (@D2 X fa u T c P W cd hcd A env hr) ?_
 refine @az _ _ _ _ _ _ _ _ (@D7 X fa u T c P W cd hcd A env hr) ?_
 refine @az _ _ _ _ _ _ _ _ (@DS X fa u T c P W cd hcd A env hr) ?_
 refine @az _ _ _ _ _ _ _ _ (@D3 X fa u T c P W cd hcd A env hr) ?_
 refine @az _ _ _ _ _ _ _ _ (@Ee X fa u T c P W cd hcd A env hr) ?_
 refine @az _ _ _ _ _ _ _ _ (@DK X fa u T c P W cd hcd A env hr) ?_
 refine @az _ _ _ _ _ _ _ _ (@DG X fa u T c P W cd hcd A env hr) ?_
 refine @az _ _ _ _ _ _ _ _ (@Eo X fa u T c P W cd hcd A env hr) ?_
 refine @az _ _ _ _ _ _ _ _ (@Ex X fa u T c P W cd hcd A env hr) ?_
 refine @az _ _ _ _ _ _ _ _ (@DH X fa u T c P W cd hcd A env hr) ?_
 refine @az _ _ _ _ _ _ _ _ (@Ed X fa u T c P W cd hcd A env hr) ?_
 refine @az _ _ _ _ _ _ _ _ (@Ep X fa u T c P W cd hcd A env hr) ?_
 exact @aO _ _ _ _
end Mine
end
section
open PySem PySem.Calls PySem.Spec PyProof PyProof.Rows PySem.W
set_option maxRecDepth 20000
namespace Mine
section
variable{Γ:List Slot}{c c1 c2 c3:List Cell}{p q r:PE}{ps:PL}{d a b:D}{ds:List D}
theorem ab{i:Nat}(h:Γ[i]?=some (.val d)):aa i Γ c=some (d,c):=by unfold aa;rw[h]
theorem ay{i:Int}:ah i Γ c=some (.int i,c):=rfl
theorem bF{x:Str}:aZ x Γ c=some (.str x,c):=rfl
theorem cm{x:Bool}:b7 x Γ c=some (.bool x,c):=rfl
theorem gS:fN Γ c=some (.none,c):=rfl
theorem rI{v:Value}:mS v Γ c=some (.obj v,c):=rfl
theorem aB:aw Γ c=some ([],c):=rfl
theorem au(h1:p Γ c=some (d,c1))(h2:ps Γ c1=some (ds,c2)):ag p ps Γ c=some (d::ds,c2):=by unfold ag;rw[h1];simp only[Option.bind_some];rw[h2];rfl
theorem aY(h1:ps Γ c=some (ds,c1))(h:ds.length≤100000):aK ps Γ c=some (.lst ds,c1):=by unfold aK;rw[h1];simp only[Option.bind_some];rw[if_pos h]
theorem jw(h1:ps Γ c=some (ds,c1))(h:ds.length≤100000):de ps Γ c=some (.tup ds,c1):=by unfold de;rw[h1];simp only[Option.bind_some];rw[if_pos h]
theorem aT{op:Operator}(h1:p Γ c=some (a,c1))(h2:q Γ c1=some (b,c2))(h:iD op a b=some d):ao op p q Γ c=some (d,c2):=by unfold ao;rw[h1];simp only[Option.bind_some];rw[h2];simp only[Option.bind_some];rw[h];rfl
theorem gh{op:CmpOp}{t:Bool}(h1:p Γ c=some (a,c1))(h2:q Γ c1=some (b,c2))(h:fy op a b=some t):gv op p q Γ c=some (.bool t,c2):=by unfold gv;rw[h1];simp only[Option.bind_some];rw[h2];simp only[Option.bind_some];rw[h];rfl
theorem bb{op:CmpOp}{t:Bool}(h1:p Γ c=some (a,c1))(h2:q Γ c1=some (b,c2))(h:fy op a b=some t):aD op p q Γ c=some (t,c2):=by unfold aD;rw[h1];simp only[Option.bind_some];rw[h2];simp only[Option.bind_some];rw[h];rfl
theorem gQ{t:Bool}(h1:p Γ c=some (a,c1))(h:jM a=some t):cV p Γ c=some (t,c1):=by unfold cV;rw[h1];simp only[Option.bind_some];rw[h];rfl
theorem Aq{t:PB}{x:Bool}(h1:t Γ c=some (x,c1)):m6 t Γ c=some (!x,c1):=by unfold m6;rw[h1];rfl
theorem u9:fW [] Γ c=some (true,c):=rfl
theorem o5{t:PB}{ts:List PB}{x:Bool}(h1:t Γ c=some (true,c1))(h2:fW ts Γ c1=some (x,c2)):fW (t::ts) Γ c=some (x,c2):=by unfold fW;rw[h1];simp only[Option.bind_some,if_true];exact h2
theorem nW{t:PB}{ts:List PB}(h1:t Γ c=some (false,c1)):fW (t::ts) Γ c=some (false,c1):=by unfold fW;rw[h1];simp only[Option.bind_some,Bool.false_eq_true,if_false]
theorem BI{t u:PB}(h1:t Γ c=some (true,c1)):pd t u Γ c=some (true,c1):=by unfold pd;rw[h1];simp only[Option.bind_some,if_true]
theorem BD{t u:PB}{x:Bool}(h1:t Γ c=some (false,c1))(h2:u Γ c1=some (x,c2)):pd t u Γ c=some (x,c2):=by unfold pd;rw[h1];simp only[Option.bind_some,Bool.false_eq_true,if_false];exact h2
theorem Ab(h1:p Γ c=some (a,c1))(h:jM a=some true):rM p q Γ c=some (a,c1):=by unfold rM;rw[h1];simp only[Option.bind_some];rw[h];simp only[Option.bind_some,if_true]
theorem Aw(h1:p Γ c=some (a,c1))(h:jM a=some false)(h2:q Γ c1=some (b,c2)):rM p q Γ c=some (b,c2):=by unfold rM;rw[h1];simp only[Option.bind_some];rw[h];simp only[Option.bind_some,Bool.false_eq_true,if_false];exact h2
theorem Ba{t:PB}{x:Bool}(h1:t Γ c=some (x,c1))(h2:(if x=true then p else q) Γ c1=some (d,c2)):pIf t p q Γ c=some (d,c2):=by unfold pIf;rw[h1];simp only[Option.bind_some];cases x<;>exact h2
theorem fO{t:PB}(h1:t Γ c=some (true,c1))(h2:p Γ c1=some (d,c2)):pIf t p q Γ c=some (d,c2):=Ba h1 (by simpa using h2)
theorem fo{t:PB}(h1:t Γ c=some (false,c1))(h2:q Γ c1=some (d,c2)):pIf t p q Γ c=some (d,c2):=Ba h1 (by simpa using h2)
theorem oo{i:Int}(h1:p Γ c=some (.int i,c1)):gJ p Γ c=some (.int (-i),c1):=by unfold gJ;rw[h1];rfl
theorem fx(h1:p Γ c=some (a,c1))(h2:q Γ c1=some (b,c2))(h:i9 a b=some d):a9 p q Γ c=some (d,c2):=by unfold a9;rw[h1];simp only[Option.bind_some];rw[h2];simp only[Option.bind_some];rw[h];rfl
theorem bp:aA Γ c=some (none,c):=rfl
theorem cx{i:Int}(h1:p Γ c=some (.int i,c1)):aP p Γ c=some (some i,c1):=by unfold aP;rw[h1];rfl
theorem cS{l u s:PP}{x y z:Option Int}{c4:List Cell}(h1:p Γ c=some (a,c1))(h2:l Γ c1=some (x,c2))(h3:u Γ c2=some (y,c3))(h4:s Γ c3=some (z,c4))(h:kx a x y z=some d):aV p l u s Γ c=some (d,c4):=by
 unfold aV;rw[h1];simp only[Option.bind_some];rw[h2];simp only[Option.bind_some];rw[h3];simp only[Option.bind_some];rw[h4];simp only[Option.bind_some];rw[h];rfl
theorem cy{F:List D→Option D}(h1:ps Γ c=some (ds,c1))(h:F ds=some d):bo F ps Γ c=some (d,c1):=by unfold bo;rw[h1];simp only[Option.bind_some];rw[h];rfl
theorem fL{F:List D→Option (List D)}{es:List D}(h1:ps Γ c=some (ds,c1))(h:F ds=some es):bu F ps Γ c=some (es,c1):=by unfold bu;rw[h1];simp only[Option.bind_some];rw[h];rfl
theorem gP{T:String}{F:List D→Option D}(h1:p Γ c=some (a,c1))(ht:pU T a=true)(h2:ps Γ c1=some (ds,c2))(h:F (a::ds)=some d):bO T F p ps Γ c=some (d,c2):=by
 unfold bO;rw[h1];simp only[Option.bind_some];rw[if_pos ht,h2];simp only[Option.bind_some];rw[h];rfl
theorem bZ(h:p Γ c=some (.lst ds,c1)):cC p Γ c=some (ds,c1):=by unfold cC;rw[h];rfl
theorem DE(h:p Γ c=some (.tup ds,c1)):cC p Γ c=some (ds,c1):=by unfold cC;rw[h];rfl
theorem oE{x:Str}(h:p Γ c=some (.str x,c1)):pS p Γ c=some (escaped x,c1):=by unfold pS;rw[h];rfl
theorem kC{T:Str→Option Int}{x:Str}{i:Int}(h:p Γ c=some (.str x,c1))(k:T x=some i):mq T p Γ c=some (.int i,c1):=by unfold mq;rw[h];simp only[Option.bind_some];rw[k];rfl
theorem yD{T:Str→Option Int}{x:Str}(h:p Γ c=some (.str x,c1)):ki T p Γ c=some ((T x).isSome,c1):=by unfold ki;rw[h];rfl
theorem eJ:aW Γ c=some ([],c):=rfl
theorem cq{ps:PA}{sls:List Slot}(h1:p Γ c=some (d,c1))(h2:ps Γ c1=some (sls,c2)):aF p ps Γ c=some (.val d::sls,c2):=by unfold aF;rw[h1];simp only[Option.bind_some];rw[h2];rfl
theorem fP{i k:Nat}{ps:PA}{sls:List Slot}(h1:Γ[i]?=some (.ref k))(h2:ps Γ c=some (sls,c2)):d5 i ps Γ c=some (.ref k::sls,c2):=by unfold d5;rw[h1];simp only[];rw[h2];rfl
theorem xq{qs:PL}{ps:PA}{sls:List Slot}(h1:qs Γ c=some (ds,c1))(hl:ds.length≤100000)(h2:ps Γ (c1++[.lst ds])=some (sls,c2)):tS qs ps Γ c=some (.ref c1.length::sls,c2):=by
 unfold tS;rw[h1];simp only[Option.bind_some];rw[if_pos hl,h2];rfl
theorem gq{F:PF}{pa:PA}{sls:List Slot}(h1:pa Γ c=some (sls,c1))(h:F sls c1=some (d,c2)):aI F pa Γ c=some (d,c2):=by unfold aI;rw[h1];simp only[Option.bind_some];exact h
theorem qI:∀ds:List D,jx (ds.map .val)=some ds
 | []=>rfl
 | d::ds=>by rw[List.map_cons,jx,qI ds];rfl
theorem jB{G:List D→Option D}{pa:PA}{ds:List D}(h1:pa Γ c=some (ds.map .val,c1))(h:G ds=some d):aI (ee G) pa Γ c=some (d,c1):=by
 refine gq h1 ?_
 unfold ee
 rw[qI];simp only[Option.bind_some];rw[h];rfl
theorem cP{G:List D→Option D}(h1:p Γ c=some (a,c1))(h:G [a]=some d):aI (ee G) (aF p aW) Γ c=some (d,c1):=jB (ds:=[a]) (cq h1 eJ) h
theorem lO{G:List D→Option D}(h1:p Γ c=some (a,c1))(h2:q Γ c1=some (b,c2))(h:G [a,b]=some d):aI (ee G) (aF p (aF q aW)) Γ c=some (d,c2):=jB (ds:=[a,b]) (cq h1 (cq h2 eJ)) h
theorem lM{G:List D→Option D}{e:D}(h1:p Γ c=some (a,c1))(h2:q Γ c1=some (b,c2))(h3:r Γ c2=some (e,c3))(h:G [a,b,e]=some d):aI (ee G) (aF p (aF q (aF r aW))) Γ c=some (d,c3):=jB (ds:=[a,b,e]) (cq h1 (cq h2 (cq h3 eJ))) h
theorem sH{a b:Int}:iD .Add (.int a) (.int b)=some (.int (a+b)):=rfl
theorem xS{x y:Str}(h:x.length+y.length≤100000):iD .Add (.str x) (.str y)=some (.str (x++y)):=if_pos h
theorem dn{x y:List D}(h:x.length+y.length≤100000):iD .Add (.lst x) (.lst y)=some (.lst (x++y)):=if_pos h
theorem jh{a b:Int}:iD .Sub (.int a) (.int b)=some (.int (a - b)):=rfl
theorem xb{a b:Int}(h:a.natAbs<2 ^ 64):iD .Mult (.int a) (.int b)=some (.int (a*b)):=if_pos h
theorem yM{xs:List D}{n:Int}(h:n<100000∧-100000<n∧xs.length*n.toNat≤100000):iD .Mult (.lst xs) (.int n)=some (.lst (List.replicate n.toNat xs).flatten):=if_pos h
theorem sD{a b:Int}(h:b≠0∧b.natAbs<1073741824):iD .FloorDiv (.int a) (.int b)=some (.int (a.fdiv b)):=if_pos h
theorem yY{a b:Int}(h:b≠0):iD .Mod (.int a) (.int b)=some (.int (a.fmod b)):=if_pos h
theorem tT{a b:Int}(h:0≤b∧b≤1000000∧a.natAbs<2 ^ 64):iD .Pow (.int a) (.int b)=some (.int (a ^ b.toNat)):=if_pos h
theorem Dm{a b:Int}(h:0≤b∧b≤1000000∧a.natAbs<2 ^ 64):iD .LShift (.int a) (.int b)=some (.int (a*2 ^ b.toNat)):=if_pos h
theorem Bk{a b:Int}:iD .BitAnd (.int a) (.int b)=some (.int (Builtin.bitAnd a b)):=rfl
theorem DO{a b:Int}:iD .BitOr (.int a) (.int b)=some (.int (Builtin.bitOr a b)):=rfl
theorem CT{a b:Int}:iD .BitXor (.int a) (.int b)=some (.int (Builtin.bitXor a b)):=rfl
theorem je{a b:Int}:fy .Eq (.int a) (.int b)=some (a==b):=rfl
theorem EC{a b:Int}:fy .NotEq (.int a) (.int b)=some (a != b)∨True:=.inr trivial
theorem zy{a b:Int}:fy .Lt (.int a) (.int b)=some (decide (a<b)):=rfl
theorem Du{a b:Int}:fy .GtE (.int a) (.int b)=some (decide (a ≥ b)):=rfl
theorem CG{x y:Str}:fy .Eq (.str x) (.str y)=some (decide (x=y)):=rfl
theorem EB{x y:Bool}:fy .Is (.bool x) (.bool y)=some (x==y):=rfl
theorem xt{ds:List D}{i:Int}(h:(-1000000:Int)<i∧i<1000000)(k:(seqIndex? i ds.length).bind (ds[·]?)=some d):i9 (.lst ds) (.int i)=some d:=by
 have:i9 (.lst ds) (.int i)=if (-1000000:Int)<i∧i<1000000 then(seqIndex? i ds.length).bind (ds[·]?)else none:=rfl
 rw[this,if_pos h,k]
theorem kN{ds:List D}{i:Int}(h:(-1000000:Int)<i∧i<1000000)(k:(seqIndex? i ds.length).bind (ds[·]?)=some d):i9 (.tup ds) (.int i)=some d:=by
 have:i9 (.tup ds) (.int i)=if (-1000000:Int)<i∧i<1000000 then(seqIndex? i ds.length).bind (ds[·]?)else none:=rfl
 rw[this,if_pos h,k]
theorem Di{x:Str}{i:Int}{ch:Nat}(h:(-1000000:Int)<i∧i<1000000)(k:(seqIndex? i x.length).bind (x.cps[·]?)=some ch):i9 (.str x) (.int i)=some (.str ⟨#[ch]⟩):=by
 have:i9 (.str x) (.int i)=if (-1000000:Int)<i∧i<1000000 then((seqIndex? i x.length).bind (x.cps[·]?)).map λc=>.str ⟨#[c]⟩else none:=rfl
 rw[this,if_pos h,k];rfl
theorem og{i n:Nat}(h:i<n):seqIndex? (i:Int) n=some i:=by
 unfold seqIndex?
 have h0:¬((i:Int)<0):=by(first|lia|omega)
 have h1:((i:Int)<(n:Int)):=by(first|lia|omega)
 simp[h0,h1]
theorem Dw{ds:List D}{i:Nat}(h:i<1000000)(k:ds[i]?=some d):i9 (.lst ds) (.int (i:Int))=some d:=by
 refine xt ⟨by(first|lia|omega),by(first|lia|omega)⟩ ?_
 rw[og (List.getElem?_eq_some_iff.mp k).1]
 exact k
theorem gu(i:Nat)(a b:D)(Γ:List Slot):aS i a (aS i b Γ)=aS i a Γ:=by unfold aS;rw[List.set_set]
theorem uw{i j:Nat}(h:i≠j)(a b:D)(Γ:List Slot):aS i a (aS j b Γ)=aS j b (aS i a Γ):=by unfold aS;rw[List.set_comm _ _ (Ne.symm h)]
theorem dM(i:Nat)(a:D)(Γ:List Slot):(aS i a Γ).length=Γ.length:=by unfold aS;rw[List.length_set]
theorem Cb{tg:Tg}{t:PB}{p:PE}{ds m:List D}{Γ1:List Slot}{e:D}(h0:d6 tg d Γ=some Γ1)(h1:t Γ1 c=some (true,c))(h2:p Γ1 c=some (e,c))(h3:bL tg t (aQ p) ds Γ1 c=some (m,Γ',c)) :
  bL tg t (aQ p) (d::ds) Γ c=some (e::m,Γ',c):=by
 show (d6 tg d Γ).bind _=_
 rw[h0]
 show (t Γ1 c).bind _=_
 rw[h1]
 show ((p Γ1 c).map _).bind _=_
 rw[h2]
 show (bL tg t (aQ p) ds Γ1 c).map _=_
 rw[h3];rfl
theorem De{tg:Tg}{t:PB}{p:PE}{ds m:List D}{Γ1:List Slot}(h0:d6 tg d Γ=some Γ1)(h1:t Γ1 c=some (false,c))(h3:bL tg t (aQ p) ds Γ1 c=some (m,Γ',c)) :
  bL tg t (aQ p) (d::ds) Γ c=some (m,Γ',c):=by
 show (d6 tg d Γ).bind _=_
 rw[h0]
 show (t Γ1 c).bind _=_
 rw[h1]
 show (bL tg t (aQ p) ds Γ1 c).map _=_
 rw[h3];rfl
theorem Dz{tg:Tg}{α:Type}{g:α→D}{K:α→List Slot}{t:PB}{p:PE}{b:α→Bool}{f:α→D}(hK:∀x y,d6 tg (g y) (K x)=some (K y))(l:List α):∀{Γ:List Slot},(∀x,d6 tg (g x) Γ=some (K x))→
  (∀x∈l,t (K x) c=some (b x,c))→(∀x∈l,b x=true→p (K x) c=some (f x,c))→∃Γ',bL tg t (aQ p) (l.map g) Γ c=some ((l.filter b).map f,Γ',c):=by
 induction l with
 | nil=>exact λ_ _ _=>⟨_,rfl⟩
 | cons x l ih=>
  intro Γ hΓ ht hp
  obtain⟨Γ',e⟩:=ih (hK x) (λy h=>ht y (.tail _ h)) (λy h=>hp y (.tail _ h))
  have h1:=ht x (.head _)
  cases hb:b x with
  | true=>exact⟨Γ',by rw[List.filter_cons_of_pos hb];exact Cb (hΓ x) (hb▸h1) (hp x (.head _) hb) e⟩
  | false=>exact⟨Γ',by rw[List.filter_cons_of_neg (by rw[hb];exact Bool.false_ne_true)];exact De (hΓ x) (hb▸h1) e⟩
theorem rD{tg:Tg}{α:Type}{g:α→D}{K:α→List Slot}{t:PB}{p:PE}{js:List (Option Nat)}{src:PL}{l:List α}{c1:List Cell}(b:α→Bool)(f:α→D)(hsrc:src Γ c=some (l.map g,c1))(h0:∀x,d6 tg (g x) (bQ js Γ)=some (K x))
  (hK:∀x y,d6 tg (g y) (K x)=some (K y)) (ht:∀x∈l,t (K x) c1=some (b x,c1)) (hp:∀x∈l,b x=true→p (K x) c1=some (f x,c1)) (hl:l.length≤100000):aX js src tg t (aQ p) Γ c=some (.lst ((l.filter b).map f),c1):=by
 obtain⟨Γ',h⟩:=Dz hK l h0 ht hp
 have:((l.filter b).map f).length≤100000:=by rw[List.length_map];exact Nat.le_trans (List.length_filter_le _ _) hl
 unfold aX
 rw[hsrc]
 show (bL tg t (aQ p) (l.map g) (bQ js Γ) c1).bind _=_
 rw[h]
 exact if_pos this
theorem iN{js:List (Option Nat)}{src:PL}{i:Nat}{t:PB}{p:PE}{ds:List D}{c1:List Cell}(b:D→Bool)(f:D→D)(hsrc:src Γ c=some (ds,c1))(ht:∀d∈ds,t (aS i d (bQ js Γ)) c1=some (b d,c1))
  (hp:∀d∈ds,b d=true→p (aS i d (bQ js Γ)) c1=some (f d,c1)) (hl:ds.length≤100000):aX js src (.n i) t (aQ p) Γ c=some (.lst ((ds.filter b).map f),c1):=
 rD (g:=λd=>d) b f (by rw[List.map_id'];exact hsrc) (λ_=>rfl) (λ_ _=>congrArg some (gu ..)) ht hp hl
theorem xU{js:List (Option Nat)}{src:PL}{i:Nat}{p:PE}{ds:List D}{c1:List Cell}(f:D→D)(hsrc:src Γ c=some (ds,c1))(hp:∀d∈ds,p (aS i d (bQ js Γ)) c1=some (f d,c1))(hl:ds.length≤100000) :
  aX js src (.n i) cn (aQ p) Γ c=some (.lst (ds.map f),c1):=by
 have:=iN (js:=js) (t:=cn) (λ_=>true) f hsrc (λ_ _=>rfl) (λd hd _=>hp d hd) hl
 rwa [List.filter_eq_self.mpr λ_ _=>rfl]at this
theorem dm{α:Type}{js:List (Option Nat)}{src:PL}{i:Nat}{p:PE}{l:List α}{g:α→D}{c1:List Cell}(f:α→D)(hsrc:src Γ c=some (l.map g,c1))(hp:∀x∈l,p (aS i (g x) (bQ js Γ)) c1=some (f x,c1))(hl:l.length≤100000) :
  aX js src (.n i) cn (aQ p) Γ c=some (.lst (l.map f),c1):=by
 have:=rD (K:=λx=>aS i (g x) (bQ js Γ)) (tg:=.n i) (t:=cn) (λ_=>true) f hsrc (λ_=>rfl) (λ_ _=>congrArg some (gu ..)) (λ_ _=>rfl) (λx h _=>hp x h) hl
 rwa [List.filter_eq_self.mpr λ_ _=>rfl]at this
theorem gB{js:List (Option Nat)}{src:PL}{i j:Nat}{t:PB}{p:PE}{l:List (D×D)}{c1:List Cell}(b:D×D→Bool)(f:D×D→D)(hij:i≠j)(hsrc:src Γ c=some (l.map (λq=>.tup [q.1,q.2]),c1))
  (ht:∀q∈l,t (aS j q.2 (aS i q.1 (bQ js Γ))) c1=some (b q,c1)) (hp:∀q∈l,b q=true→p (aS j q.2 (aS i q.1 (bQ js Γ))) c1=some (f q,c1)) (hl:l.length≤100000) :
  aX js src (.t [i,j]) t (aQ p) Γ c=some (.lst ((l.filter b).map f),c1):=
 rD b f hsrc (λ_=>rfl) (λx y=>congrArg some (by rw[uw hij y.1,gu,gu])) ht hp hl
theorem kJ{js:List (Option Nat)}{src:PL}{i j:Nat}{p:PE}{l:List (D×D)}{c1:List Cell}(f:D×D→D)(hij:i≠j)(hsrc:src Γ c=some (l.map (λq=>.tup [q.1,q.2]),c1))
  (hp:∀q∈l,p (aS j q.2 (aS i q.1 (bQ js Γ))) c1=some (f q,c1)) (hl:l.length≤100000):aX js src (.t [i,j]) cn (aQ p) Γ c=some (.lst (l.map f),c1):=by
 have:=gB (js:=js) (t:=cn) (λ_=>true) f hij hsrc (λ_ _=>rfl) (λd hd _=>hp d hd) hl
 rwa [List.filter_eq_self.mpr λ_ _=>rfl]at this
noncomputable def eS(ds:List D):List (D×D):=(List.range ds.length).map λk=>(.int (k:Nat),ds.getD k .none)
theorem wU(ds:List D):hV ds=(eS ds).map λq=>.tup [q.1,q.2]:=by unfold hV eS;rw[List.map_map];rfl
theorem e8{α:Type}[Inhabited α](l:List α)(g:α→D):eS (l.map g)=(List.range l.length).map λk=>(D.int (k:Nat),g (l.getD k default)):=by
 unfold eS
 rw[List.length_map]
 apply List.map_congr_left
 intro k hk
 have hk':=List.mem_range.mp hk
 simp[List.getD,hk']
theorem vQ{ds:List D}{q:D×D}(h:q∈eS ds):∃k:Nat,k<ds.length∧q.1=.int k∧ds[k]?=some q.2:=by
 unfold eS at h
 obtain⟨k,hk,rfl⟩:=List.mem_map.mp h
 have hk':=List.mem_range.mp hk
 exact⟨k,hk',rfl,by simp[List.getD,hk']⟩
theorem eK(h:p Γ c=some (.lst ds,c1)):bu ff (ag p aw) Γ c=some ((eS ds).map (λq=>.tup [q.1,q.2]),c1):=
 fL (au h aB) (by rw[show ff [.lst ds]=some (hV ds)from rfl,wU])
theorem tE{a:Int}(h:-1000000<a∧a<1000000):cL [.int a]=some (eO 0 a):=if_pos h
theorem en{n:Nat}(h1:(-1000000:Int)<(n:Int)∧(n:Int)<1000000):bu cL (ag (ah n) aw) Γ c=some ((List.range n).map (λk=>D.int (k:Nat)),c):=by
 have h2:cL [.int n]=some (eO 0 n):=tE h1
 have h3:eO 0 n=(List.range n).map (λk=>D.int (k:Nat)):=by
  unfold eO
  rw[Int.sub_zero,Int.toNat_natCast]
  apply List.map_congr_left
  intro k _
  rw[Int.zero_add]
 exact fL (au ay aB) (by rw[h2,h3])
theorem uc{as bs:List D}(h:p Γ c=some (.lst as,c1))(k:q Γ c1=some (.lst bs,c2)):bu AK (ag p (ag q aw)) Γ c=some ((as.zip bs).map (λq=>.tup [q.1,q.2]),c2):=
 fL (au h (au k aB)) rfl
theorem BE{f g:PS}{Γ1:List Slot}(h:f Γ c=some (.next,Γ1,c1)):ak f g Γ c=g Γ1 c1:=by unfold ak;rw[h];rfl
theorem aN{f g:PS}{Γ1:List Slot}{r:Option (Fl×List Slot×List Cell)}(h:f Γ c=some (.next,Γ1,c1))(k:g Γ1 c1=r):ak f g Γ c=r:=(BE h).trans k
theorem cp{f g:PS}{Γ1:List Slot}(h:f Γ c=some (.ret d,Γ1,c1)):ak f g Γ c=some (.ret d,Γ1,c1):=by unfold ak;rw[h];rfl
theorem Bn{tg:Tg}{body:PS}:bG tg body [] Γ c=some (.next,Γ,c):=rfl
theorem bR{tg:Tg}{body:PS}{Γ1 Γ2:List Slot}{r:Option (Fl×List Slot×List Cell)}(h0:d6 tg d Γ=some Γ1)(h1:body Γ1 c=some (.next,Γ2,c2))(h2:bG tg body ds Γ2 c2=r):bG tg body (d::ds) Γ c=r:=by
 show (d6 tg d Γ).bind _=_;rw[h0];show (body Γ1 c).bind _=_;rw[h1];exact h2
theorem Dd{tg:Tg}{body:PS}{Γ1 Γ2:List Slot}(h0:d6 tg d Γ=some Γ1)(h1:body Γ1 c=some (.brk,Γ2,c2)):bG tg body (d::ds) Γ c=some (.brk,Γ2,c2):=by
 show (d6 tg d Γ).bind _=_;rw[h0];show (body Γ1 c).bind _=_;rw[h1];rfl
theorem ye{tg:Tg}{body:PS}{Γ1 Γ2:List Slot}(h0:d6 tg d Γ=some Γ1)(h1:body Γ1 c=some (.ret a,Γ2,c2)):bG tg body (d::ds) Γ c=some (.ret a,Γ2,c2):=by
 show (d6 tg d Γ).bind _=_;rw[h0];show (body Γ1 c).bind _=_;rw[h1];rfl
theorem iG{tg:Tg}{src:PL}{body orelse:PS}{Γ2:List Slot}{r:Option (Fl×List Slot×List Cell)}(h0:src Γ c=some (ds,c1))(h1:bG tg body ds Γ c1=some (.next,Γ2,c2))(h2:orelse Γ2 c2=r):fC tg src body orelse Γ c=r:=by
 unfold fC;rw[h0];simp only[Option.bind_some];rw[h1];exact h2
theorem Cp{tg:Tg}{src:PL}{body orelse:PS}{Γ2:List Slot}(h0:src Γ c=some (ds,c1))(h1:bG tg body ds Γ c1=some (.brk,Γ2,c2)):fC tg src body orelse Γ c=some (.next,Γ2,c2):=by
 unfold fC;rw[h0];simp only[Option.bind_some];rw[h1];rfl
theorem qU{tg:Tg}{src:PL}{body orelse:PS}{Γ2:List Slot}(h0:src Γ c=some (ds,c1))(h1:bG tg body ds Γ c1=some (.ret a,Γ2,c2)):fC tg src body orelse Γ c=some (.ret a,Γ2,c2):=by
 unfold fC;rw[h0];simp only[Option.bind_some];rw[h1];rfl
theorem bk{i:Nat}(h:p Γ c=some (d,c1)):bf i p Γ c=some (.next,aS i d Γ,c1):=by unfold bf;rw[h];rfl
theorem dY(h:p Γ c=some (d,c1)):dS p Γ c=some (.ret d,Γ,c1):=by unfold dS;rw[h];rfl
theorem eA{t:PB}{f g:PS}(h:t Γ c=some (true,c1)):qIf t f g Γ c=f Γ c1:=by unfold qIf;rw[h];rfl
theorem dZ{t:PB}{f g:PS}(h:t Γ c=some (false,c1)):qIf t f g Γ c=g Γ c1:=by unfold qIf;rw[h];rfl
theorem iK{i:Nat}(h:ps Γ c=some (ds,c1))(hl:ds.length≤100000):jj i ps Γ c=some (.next,Γ.set i (.ref c1.length),c1++[.lst ds]):=by unfold jj;rw[h];simp only[Option.bind_some];rw[if_pos hl]
theorem pz{i:Nat}{op:Operator}(h0:Γ[i]?=some (.val a))(h:p Γ c=some (b,c1))(k:rV op a b=some d):f6 i op p Γ c=some (.next,aS i d Γ,c1):=by unfold f6;rw[h0];simp only[];rw[h];simp only[Option.bind_some];rw[k];rfl
theorem jc{i k:Nat}(h0:Γ[i]?=some (.ref k))(hk0:∃es,c[k]?=some (.lst es))(h:p Γ c=some (d,c1))(hk:c1[k]?=some (.lst ds))(hl:ds.length≤99999):dK i p Γ c=some (.next,Γ,c1.set k (.lst (ds++[d]))):=by
 obtain⟨es,hk0⟩:=hk0
 unfold dK hZ
 rw[h0];simp only[];rw[hk0];simp only[Option.bind_some];rw[h];simp only[Option.bind_some];rw[hk];simp only[];rw[if_pos hl]
theorem qm{i k:Nat}{es:List D}(h0:Γ[i]?=some (.ref k))(hk0:∃es,c[k]?=some (.lst es))(h:p Γ c=some (.lst es,c1))(hk:c1[k]?=some (.lst ds))(hl:ds.length+es.length≤99999):ll i p Γ c=some (.next,Γ,c1.set k (.lst (ds++es))):=by
 obtain⟨es',hk0⟩:=hk0
 unfold ll hZ
 rw[h0];simp only[];rw[hk0];simp only[Option.bind_some];rw[h];simp only[Option.bind_some];rw[hk];simp only[];rw[if_pos hl]
mutual
theorem sR:∀{d:D} {p:PyData},d.toPy=some p→PyData.eqv p p=true
 | .none,p,h=>by cases h;rfl
 | .bool b,p,h=>by cases h;simp[PyData.eqv]
 | .int i,p,h=>by cases h;simp[PyData.eqv]
 | .str x,p,h=>by
  simp only[D.toPy]at h
  (first|(refine iE h ?_ ?_<;>(clear h;intro _ h))|split at h)
  ·cases h;simp[PyData.eqv]
  ·cases h
 | .tup ds,p,h=>by
  simp only[D.toPy]at h
  (refine mE h ?_;(try clear h);intro ps e qq;subst qq)
  simp only[PyData.eqv];exact lY e
 | .lst ds,p,h=>by
  simp only[D.toPy]at h
  (refine mE h ?_;(try clear h);intro ps e qq;subst qq)
  simp only[PyData.eqv];exact lY e
 | .obj v,p,h=>by cases h
theorem lY:∀{ds:List D} {ps:List PyData},cZ ds=some ps→PyData.eqvAll ps ps=true
 | [],ps,h=>by cases h;rfl
 | d::ds,ps,h=>by
  simp only[cZ]at h
  (first|(refine iE h ?_ ?_<;>(clear h;intro _ h))|split at h)
  ·rename_i p ps' e1 e2
   cases h
   simp only[PyData.eqvAll,sR e1,lY e2,Bool.and_self]
  ·cases h
end
noncomputable def Good(d:D):Prop:=∃p,d.toPy=some p∧SeqAt.shaped p=true
theorem Good.eq{d:D}(h:Good d):dEq d d=some true:=by
 obtain⟨p,e,s⟩:=h
 unfold dEq
 simp only[e,s,Bool.and_self,if_true,sR e]
end
end Mine
namespace Mine
section
variable{Γ:List Slot}{c c1 c2 c3:List Cell}{p q r:PE}{ps:PL}{d a b:D}{ds:List D}
noncomputable abbrev dW(ns:List Int):D:=.lst (ns.map .int)
theorem pZ{α β:Type}(f:α→β)(l:List α):∀idx:List Nat,pick idx (l.map f)=(pick idx l).map f
 | []=>rfl
 | k::idx=>by
  have ih:=pZ f l idx
  unfold pick at ih⊢
  rw[List.filterMap_cons,List.filterMap_cons,List.getElem?_map]
  cases l[k]? with
  | none=>exact ih
  | some x=>simp only[Option.map_some,List.map_cons,ih]
theorem vY{α β:Type}(f:α→β)(lo hi st:Option Int)(l:List α):cg lo hi st (l.map f)=(cg lo hi st l).map f:=by
 unfold cg;rw[List.length_map,pZ]
theorem nR{lo hi st:Option Int}(h:st≠some 0∧ds.length≤100000):kx (.lst ds) lo hi st=some (.lst (cg lo hi st ds)):=if_pos h
theorem e6:∀ns:List Int,eX (ns.map .int)=some ns
 | []=>rfl
 | n::ns=>by rw[List.map_cons,eX,e6 ns];rfl
theorem oM{ns:List Int}(h:dP ns=true):oO [dW ns]=some (.int ns.sum):=by
 show (eX (ns.map .int)).bind _=_;rw[e6];simp only[Option.bind_some,h,if_true]
noncomputable def dU(ns:List Int)(b k:Int):Nat:=(b+((cg (some k) (some 60) (some 4) ns).map λx=>x.fmod 5040).sum).toNat
theorem sum_bound:∀ms:List Int,(∀m∈ms,0≤m∧m<5040)→0≤ms.sum∧ms.sum≤5040*ms.length
 | [],_=>by simp
 | m::ms,h=>by
  have ih:=sum_bound ms λx hx=>h x (.tail _ hx)
  have h0:=h m (.head _)
  rw[List.sum_cons,List.length_cons]
  (first|lia|omega)
theorem lP{ns:List Int}(hl:ns.length≤63)(k:Int):dP ((cg (some k) (some 60) (some 4) ns).map λx=>x.fmod 5040)=true∧
  0≤((cg (some k) (some 60) (some 4) ns).map λx=>x.fmod 5040).sum∧((cg (some k) (some 60) (some 4) ns).map λx=>x.fmod 5040).sum≤317520:=by
 have hp:=iI ns (some k) (some 60) (some 4)
 have hm:∀m∈(cg (some k) (some 60) (some 4) ns).map (λx=>x.fmod 5040),(0:Int)≤m∧m<5040:=by
  intro m hm
  obtain⟨x,_,rfl⟩:=List.mem_map.mp hm
  exact⟨Int.fmod_nonneg_of_pos x (by decide),Int.fmod_lt_of_pos x (by decide)⟩
 have hb:=sum_bound _ hm
 rw[List.length_map]at hb
 refine⟨?_,hb.1,by(first|lia|omega)⟩
 unfold dP
 rw[Bool.and_eq_true]
 refine⟨decide_eq_true ?_,List.all_eq_true.mpr λm h=>?_⟩
 ·rw[List.length_map];(first|lia|omega)
 ·have:=hm m h
  rw[Bool.and_eq_true,decide_eq_true_eq,decide_eq_true_eq]
  constructor<;>(first|lia|omega)
theorem zo{ns:List Int}(hl:ns.length≤63){k b:Int}(hb:0≤b)(h0:Γ[0]?=some (.val (.int k)))(h1:Γ[1]?=some (.val (.int b)))(h2:Γ[2]?=some (.val (dW ns))) :
  ao .Add (aa 1) (bo oO (ag (aX [none] (cC (aV (aa 2) (aP (aa 0)) (aP (ah 60)) (aP (ah 4)))) (.n 0) (cn) (aQ (ao .Mod (aa 0) (ah 5040)))) (aw))) Γ c=some (.int (dU ns b k:Nat),c):=by
 obtain⟨s1,s2,s3⟩:=lP hl k
 have e:((dU ns b k:Nat):Int)=b+((cg (some k) (some 60) (some 4) ns).map λx=>x.fmod 5040).sum:=by
  unfold dU;rw[Int.toNat_of_nonneg (by(first|lia|omega))]
 rw[e]
 refine aT (ab h1) (cy (au (ds:=[]) (dm (l:=cg (some k) (some 60) (some 4) ns) (g:=D.int) (λx=>D.int (x.fmod 5040)) (bZ (cS (ab h2) (cx (ab h0)) (cx ay) (cx ay) ?_)) ?_ ?_) aB) ?_) sH
 ·rw[nR ⟨by decide,by rw[List.length_map];(first|lia|omega)⟩,vY]
 ·intro x _
  exact aT (ab rfl) ay (yY (by decide))
 ·have:=iI ns (some k) (some 60) (some 4)
  (first|lia|omega)
 ·have:=oM s1
  rw[dW,List.map_map]at this
  exact this
noncomputable abbrev bU(a0 a1 a2 a3:Nat):D:=.lst [.int a0,.int a1,.int a2,.int a3]
theorem f5{ns:List Int}(hl:ns.length≤63){k b:Int}(hb:0≤b∧b≤1000):dU ns b k≤320000:=by
 obtain⟨s1,s2,s3⟩:=lP hl k
 unfold dU
 (first|lia|omega)
theorem zQ{ns:List Int}(hl:ns.length≤63)(h0:Γ[0]?=some (.val (dW ns))):zW Γ c=some (.next,aS 1 (bU (dU ns 634 0) (dU ns 27 1) (dU ns 371 2) (dU ns 106 3)) Γ,c):=by
 refine bk ?_
 have hc:bQ [none,none,some 0] Γ=[.un,.un,.val (dW ns)]:=by simp[bQ,h0]
 refine kJ (l:=eS [.int 634,.int 27,.int 371,.int 106]) (λq=>match q with|(.int k,.int b)=>.int (dU ns b k:Nat)|_=>.none) (by decide) (eK (aY (au ay (au ay (au ay (au ay aB)))) (by decide))) ?_ (by decide)
 rw[hc]
 intro q hq
 have hq':q∈[(D.int 0,D.int 634),(D.int 1,D.int 27),(D.int 2,D.int 371),(D.int 3,D.int 106)]:=hq
 simp only[List.mem_cons,List.not_mem_nil,or_false]at hq'
 rcases hq' with rfl|rfl|rfl|rfl<;>exact zo hl (by decide) rfl rfl rfl
theorem Aj{a0 a1 a2 a3:Nat}(hb:a0≤320000∧a1≤320000∧a2≤320000∧a3≤320000)(h:Γ[1]?=some (.val (bU a0 a1 a2 a3))):zf Γ c=some (.next,aS 2 (.int ((a0+a1+a2+a3:Nat):Int)) Γ,c):=by
 refine bk (cy (au (ab h) aB) ?_)
 have hs:dP [(a0:Int),a1,a2,a3]=true:=by
  simp[dP]
  (first|lia|omega)
 refine(oM hs).trans ?_
 simp only[List.sum_cons,List.sum_nil]
 congr 2
 (first|lia|omega)
noncomputable abbrev chD(ch:Nat):D:=.str ⟨#[ch]⟩
noncomputable def di:List Nat→List Nat→List Nat
 | _,[]=>[]
 | pool,x::xs=>pool.getD (x % pool.length) 0::di (pool.filter (· != pool.getD (x % pool.length) 0)) xs
theorem jq{l:List Nat}(hn:l.Nodup){x:Nat}(hx:x∈l):(l.filter (· != x)).length+1=l.length:=by
 induction l with
 | nil=>cases hx
 | cons y l ih=>
  obtain⟨h1,h2⟩:=List.nodup_cons.mp hn
  by_cases e:y=x
  ·subst e
   have:l.filter (· != y)=l:=List.filter_eq_self.mpr λz hz=>by
    have:z≠y:=λq=>h1 (q▸hz)
    simpa using this
   simp[List.filter_cons,this]
  ·have hx':x∈l:=by
    rcases List.mem_cons.mp hx with h|h
    ·exact absurd h.symm e
    ·exact h
   have:=ih h2 hx'
   simp[List.filter_cons,e]
   omega (config:={})
theorem getD_mem{l:List Nat}{i:Nat}(h:i<l.length):l.getD i 0∈l:=by
 simp[List.getD,h]
theorem nv:∀(xs pool:List Nat),(di pool xs).length=xs.length
 | [],_=>rfl
 | x::xs,pool=>by rw[di,List.length_cons,nv,List.length_cons]
theorem kG:∀(xs pool:List Nat),pool.Nodup→xs.length≤pool.length→∀z∈di pool xs,z∈pool
 | [],_,_,_,z,h=>by cases h
 | x::xs,pool,hn,hl,z,h=>by
  have hp:x % pool.length<pool.length:=Nat.mod_lt _ (by simp at hl;(first|lia|omega))
  have hm:=getD_mem hp
  rw[di]at h
  rcases List.mem_cons.mp h with h|h
  ·rw[h];exact hm
  ·have:=jq hn hm
   exact(List.mem_filter.mp (kG xs _ (hn.filter _) (by simp at hl;(first|lia|omega)) z h)).1
theorem kR:∀(xs pool:List Nat),pool.Nodup→xs.length≤pool.length→(di pool xs).Nodup
 | [],_,_,_=>List.nodup_nil
 | x::xs,pool,hn,hl=>by
  have hp:x % pool.length<pool.length:=Nat.mod_lt _ (by simp at hl;(first|lia|omega))
  have hm:=getD_mem hp
  have h1:=jq hn hm
  rw[di]
  refine List.nodup_cons.mpr ⟨λh=>?_,kR xs _ (hn.filter _) (by simp at hl;(first|lia|omega))⟩
  have:=(List.mem_filter.mp (kG xs _ (hn.filter _) (by simp at hl;(first|lia|omega)) _ h)).2
  simp at this
theorem z7{x y:Str}(h:x.cps.toList=y.cps.toList):x=y:=by
 obtain⟨⟨a⟩⟩:=x
 obtain⟨⟨b⟩⟩:=y
 simp at h
 subst h;rfl
theorem len_str(l:List Nat):(⟨l.toArray⟩:Str).length=l.length:=by simp[Str.length]
theorem Cd{iL iP k:Nat}{pool:Str}{i:Int}{ch:Nat}(h1:hZ Γ c iL=some k)(h2:Γ[iP]?=some (.val (.str pool)))(h3:p Γ c=some (.int i,c1))(h4:c1[k]?=some (.lst ds))(hcond:((-1000000:Int)<i∧i<1000000)∧ds.length≤99999∧pool.length≤1000)
  (h5:(seqIndex? i pool.length).bind (pool.cps[·]?)=some ch):fJ iL iP p Γ c=some (.next,aS iP (.str (Txt.replace pool ⟨#[ch]⟩ ⟨#[]⟩)) Γ,c1.set k (.lst (ds++[.str ⟨#[ch]⟩]))):=by
 unfold fJ;rw[h1];simp only[Option.bind_some];rw[h2];simp only[];rw[h3];simp only[Option.bind_some];rw[h4];simp only[];rw[if_pos hcond,h5];rfl
theorem ny{n:Nat}(h:n<900):(-1000000:Int)<(n:Int)∧(n:Int)<1000000:=⟨by(first|lia|omega),by(first|lia|omega)⟩
theorem kM:∀(xs pool:List Nat) (letters:List D) (Γ:List Slot) (c:List Cell),pool.Nodup→xs.length≤pool.length→pool.length≤900→letters.length+xs.length≤900→Γ[1]?=some (.val (.str ⟨pool.toArray⟩))→Γ[2]?=some (.ref 0)→3<Γ.length→c=[.lst letters]→
  ∃Γ',Γ'[2]?=some (.ref 0)∧bG (.n 3) (fJ 2 1 (ao .Mod (aa 3) (bo d9 (ag (aa 1) (aw))))) (xs.map λ(x:Nat)=>D.int (x:Int)) Γ c=some (.next,Γ',[.lst (letters++(di pool xs).map chD)])
 | [],pool,letters,Γ,c,_,_,_,_,_,h2,_,hc=>⟨Γ,h2,by rw[hc];simp[bG,di]⟩
 | x::xs,pool,letters,Γ,c,hn,hl,h9,hls,h1,h2,h3,hc=>by
  subst hc
  have hpos:0<pool.length:=by simp at hl;(first|lia|omega)
  have hp:x % pool.length<pool.length:=Nat.mod_lt _ hpos
  have hm:=getD_mem hp
  have hf:=jq hn hm
  have g1:(aS 3 (.int x) Γ)[1]?=some (.val (.str ⟨pool.toArray⟩)):=by unfold aS;rw[List.getElem?_set_ne (by decide)];exact h1
  have g2:(aS 3 (.int x) Γ)[2]?=some (.ref 0):=by unfold aS;rw[List.getElem?_set_ne (by decide)];exact h2
  have g3:(aS 3 (.int x) Γ)[3]?=some (.val (.int x)):=by unfold aS;rw[List.getElem?_set_self h3]
  have he:ao .Mod (aa 3) (bo d9 (ag (aa 1) (aw))) (aS 3 (.int x) Γ) [.lst letters]=some (.int ((x % pool.length:Nat):Int),[.lst letters]):=by
   refine aT (ab g3) (cy (au (ab g1) aB) (if_pos (by rw[len_str];(first|lia|omega)))) ?_
   rw[yY (by rw[len_str];(first|lia|omega))]
   rw[len_str]
   congr 2
   rw[Int.fmod_eq_emod_of_nonneg _ (by(first|lia|omega))]
   rfl
  have hstep:fJ 2 1 (ao .Mod (aa 3) (bo d9 (ag (aa 1) (aw)))) (aS 3 (.int x) Γ) [.lst letters]=
    some (.next,aS 1 (.str ⟨(pool.filter (· != pool.getD (x % pool.length) 0)).toArray⟩) (aS 3 (.int x) Γ),[.lst (letters++[chD (pool.getD (x % pool.length) 0)])]):=by
   have hrep:Txt.replace ⟨pool.toArray⟩ ⟨#[pool.getD (x % pool.length) 0]⟩ ⟨#[]⟩=⟨(pool.filter (· != pool.getD (x % pool.length) 0)).toArray⟩:=by
    apply z7
    rw[replace_strikes]
   have ho:hZ (aS 3 (.int x) Γ) [.lst letters] 2=some 0:=by unfold hZ;rw[g2];rfl
   have hs:(seqIndex? ((x % pool.length:Nat):Int) (⟨pool.toArray⟩:Str).length).bind ((⟨pool.toArray⟩:Str).cps[·]?)=some (pool.getD (x % pool.length) 0):=by
    rw[og (by rw[len_str];exact hp)]
    simp[List.getD,hp]
   have:=Cd (ds:=letters) ho g1 he rfl ⟨ny (by(first|lia|omega)),by simp at hls;(first|lia|omega),by rw[len_str];(first|lia|omega)⟩ hs
   rw[hrep]at this
   exact this
  obtain⟨Γ',r1,r2⟩:=kM xs (pool.filter (· != pool.getD (x % pool.length) 0)) (letters++[chD (pool.getD (x % pool.length) 0)]) (aS 1 (.str ⟨(pool.filter (· != pool.getD (x % pool.length) 0)).toArray⟩) (aS 3 (.int x) Γ)) _
   (hn.filter _) (by simp at hl;(first|lia|omega)) (by(first|lia|omega)) (by simp at hls ⊢;(first|lia|omega)) (by unfold aS;rw[List.getElem?_set_self (by rw[List.length_set];(first|lia|omega))]) (by rw[aS,List.getElem?_set_ne (by decide)];exact g2) (by rw[dM,dM];exact h3) rfl
  refine⟨Γ',r1,?_⟩
  rw[List.map_cons]
  unfold bG
  simp only[d6,Option.bind_some]
  rw[hstep]
  simp only[Option.bind_some]
  rw[r2]
  rw[di,List.map_cons,List.append_assoc];rfl
noncomputable abbrev bB:List Nat:=[43,45,47,38,60,62,61,37,126,94]
theorem jn:bB.Nodup:=by decide
theorem rO(xs:List Nat)(hx:xs.length=4):ky [.lst (xs.map λ(x:Nat)=>D.int (x:Int))]=some (.lst ((di bB xs).map chD)):=by
 obtain⟨Γ',h2,h⟩:=kM xs bB [] [.val (.lst (xs.map λ(x:Nat)=>D.int (x:Int))),.val (.str ⟨bB.toArray⟩),.ref 0,.un] [.lst []] jn (by rw[hx];decide) (by decide) (by rw[hx];decide) rfl rfl (Nat.lt_succ_self 3) rfl
 have h':=h
 unfold ky dj cB
 have hq:kz [.val (.lst (xs.map λ(x:Nat)=>D.int (x:Int))),.un,.un,.un] []=some (.ret (.lst ((di bB xs).map chD)),Γ',[.fz ((di bB xs).map chD)]):=by
  have hf:fC (.n 3) (cC (aa 0)) (fJ 2 1 (ao .Mod (aa 3) (bo d9 (ag (aa 1) (aw))))) (aG) [.val (.lst (xs.map λ(x:Nat)=>D.int (x:Int))),.val (.str ⟨bB.toArray⟩),.ref 0,.un] [.lst []]=some (.next,Γ',[.lst ((di bB xs).map chD)]):=by
   unfold fC
   rw[bZ (ab rfl)];simp only[Option.bind_some]
   rw[h'];rfl
  have hr:aa 2 Γ' [.lst ((di bB xs).map chD)]=some (.lst ((di bB xs).map chD),[.fz ((di bB xs).map chD)]):=by
   unfold aa;rw[h2];rfl
  exact aN (bk bF) (aN (iK aB (by decide)) (aN hf (cp (dY hr))))
 have hs:setFrom 0 ([D.lst (xs.map λ(x:Nat)=>D.int (x:Int))].map Slot.val) (List.replicate 4 .un)=[.val (.lst (xs.map λ(x:Nat)=>D.int (x:Int))),.un,.un,.un]:=rfl
 rw[hs,hq];rfl
theorem Am{a0 a1 a2 a3:Nat}(h:Γ[1]?=some (.val (bU a0 a1 a2 a3))):zq Γ c=some (.next,aS 3 (.lst ((di bB [a0,a1,a2,a3]).map chD)) Γ,c):=
 bk (cP (ab h) (rO [a0,a1,a2,a3] rfl))
end
end Mine
namespace Mine
section
variable{Γ:List Slot}{c c1 c2 c3:List Cell}{p q r:PE}{ps:PL}{d a b:D}{ds:List D}{α:Type}
theorem qW(l:List α)(a:Nat):∀n:Nat,a+n≤l.length→pick ((List.range n).map (a+·)) l=(l.drop a).take n:=by
 intro n
 induction n with
 | zero=>intro _;simp[pick]
 | succ n ih=>
  intro h
  have ih:=ih (by(first|lia|omega))
  unfold pick at ih⊢
  rw[List.range_succ,List.map_append,List.filterMap_append,ih,List.take_succ]
  have hlt:a+n<l.length:=by(first|lia|omega)
  congr 1
  simp[List.getElem?_drop,hlt]
theorem fk(l:List α)(lo hi:Option Int):cg lo hi none l=((l.take (hi.elim l.length (clipAt l.length))).drop (lo.elim 0 (clipAt l.length))):=by
 unfold cg
 rw[sliceBounds_plain]
 dsimp only
 rw[sliceRange_one]
 have hb:(hi.elim l.length (clipAt l.length))≤l.length:=by
  cases hi with
  | none=>exact Nat.le_refl _
  | some i=>exact Int.toNat_le.mpr (Int.max_le.mpr ⟨Int.natCast_nonneg _,Int.min_le_right _ _⟩)
 generalize hi.elim l.length (clipAt l.length)=B at hb⊢
 generalize lo.elim 0 (clipAt l.length)=Aa
 by_cases h:Aa≤B
 ·rw[qW l Aa (B - Aa) (by(first|lia|omega)),List.drop_take]
 ·have e:B - Aa=0:=by(first|lia|omega)
  rw[e]
  simp only[List.range_zero,List.map_nil,pick,List.filterMap_nil]
  rw[List.drop_eq_nil_of_le]
  rw[List.length_take];(first|lia|omega)
theorem tu{n k:Nat}:clipAt n (k:Int)=min k n:=by
 unfold clipAt
 rw[if_neg (Int.not_lt.mpr (Int.natCast_nonneg k)),show min (k:Int) n=((min k n:Nat):Int)from by(first|lia|omega),Int.max_eq_right (Int.natCast_nonneg _)];rfl
theorem gn{n k:Nat}(h:k≤n):clipAt n (k:Int)=k:=tu.trans (Nat.min_eq_left h)
theorem CY{n:Nat}{k:Int}(h:(n:Int)≤k):clipAt n k=n:=by
 obtain⟨m,rfl⟩:=Int.eq_ofNat_of_zero_le (Int.le_trans (Int.natCast_nonneg n) h)
 exact tu.trans (Nat.min_eq_right (Int.ofNat_le.mp h))
theorem pM{n k:Nat}(h0:0<k)(h:k≤n):clipAt n (-(k:Int))=n - k:=by
 rw[←gn (Nat.sub_le n k)]
 unfold clipAt
 rw[if_pos (by(first|lia|omega)),if_neg (Int.not_lt.mpr (Int.natCast_nonneg _)),Int.natCast_sub h,Int.add_comm,Int.sub_eq_add_neg]
theorem iH(l:List α){k:Nat}(h:k≤l.length):cg none (some (k:Int)) none l=l.take k:=by
 rw[fk];show (l.take (clipAt l.length k)).drop 0=_;rw[gn h];rfl
theorem l7(l:List α){k:Nat}(h:k≤l.length):cg (some (k:Int)) none none l=l.drop k:=by
 rw[fk];show (l.take l.length).drop (clipAt l.length k)=_;rw[gn h,List.take_length]
theorem uv(l:List α){i k:Nat}(hi:i≤l.length)(h:k≤l.length):cg (some (i:Int)) (some (k:Int)) none l=(l.take k).drop i:=by
 rw[fk];show (l.take (clipAt l.length k)).drop (clipAt l.length i)=_;rw[gn h,gn hi]
theorem qL(l:List α)(h:1≤l.length):cg (some (-1)) none none l=l.drop (l.length - 1):=by
 rw[fk];show (l.take l.length).drop (clipAt l.length (-1))=_
 have:=pM (n:=l.length) (k:=1) (by decide) h
 rw[show (-1:Int)=-((1:Nat):Int)by rfl,this,List.take_length]
theorem vj(l:List α){i:Nat}(hi:i≤l.length)(h:1≤l.length):cg (some (i:Int)) (some (-1)) none l=(l.take (l.length - 1)).drop i:=by
 rw[fk];show (l.take (clipAt l.length (-1))).drop (clipAt l.length i)=_
 have:=pM (n:=l.length) (k:=1) (by decide) h
 rw[show (-1:Int)=-((1:Nat):Int)by rfl,this,gn hi]
theorem jy{lo hi:Option Int}(h:ds.length≤100000):kx (.lst ds) lo hi none=some (.lst (cg lo hi none ds)):=nR ⟨by simp,h⟩
noncomputable def i6(k:Nat)(s:Nat)(rows:List (List Nat)):List (List Nat):=rows.take k++[[40]++rows.getD k []++[s]++rows.getD (k+1) []++[41]]++rows.drop (k+2)
noncomputable abbrev mW(r:List Nat):D:=.lst (r.map chD)
noncomputable abbrev fX(rows:List (List Nat)):D:=.lst (rows.map mW)
noncomputable def bD(b:Nat):Nat:=if b=0 then 42 else 124
theorem jN(a b:Nat):(a:Int).fdiv (b:Int)=((a / b:Nat):Int):=by rw[Int.fdiv_eq_ediv_of_nonneg _ (by(first|lia|omega))];rfl
theorem wm(a b:Nat):(a:Int).fmod (b:Int)=((a % b:Nat):Int):=by rw[Int.fmod_eq_emod_of_nonneg _ (by(first|lia|omega))];rfl
theorem iA{a b:Nat}(h1:p Γ c=some (.int (a:Int),c1))(hb:b≠0∧b<1073741824):ao .FloorDiv p (ah (b:Int)) Γ c=some (.int ((a / b:Nat):Int),c1):=by
 have:=aT (op:=.FloorDiv) (q:=ah (b:Int)) h1 ay (sD ⟨by omega (config:={}),by omega (config:={})⟩)
 rw[jN]at this;exact this
theorem dk{a b:Nat}(h1:p Γ c=some (.int (a:Int),c1))(h2:q Γ c1=some (.int (b:Int),c2))(hb:b≠0):ao .Mod p q Γ c=some (.int ((a % b:Nat):Int),c2):=by
 have:=aT (op:=.Mod) h1 h2 (yY (by omega (config:={})))
 rw[wm]at this;exact this
theorem dA{a b:Nat}(h1:p Γ c=some (.int (a:Int),c1))(h2:q Γ c1=some (.int (b:Int),c2)):ao .Add p q Γ c=some (.int ((a+b:Nat):Int),c2):=by
 have:=aT (op:=.Add) h1 h2 sH
 rw[show (a:Int)+(b:Int)=((a+b:Nat):Int)by(first|lia|omega)]at this;exact this
theorem mN{a b:Nat}(h1:p Γ c=some (.int (a:Int),c1))(h2:q Γ c1=some (.int (b:Int),c2))(ha:a<2 ^ 64):ao .Mult p q Γ c=some (.int ((a*b:Nat):Int),c2):=by
 have:=aT (op:=.Mult) h1 h2 (xb (by simpa using ha))
 rw[show (a:Int)*(b:Int)=((a*b:Nat):Int)by simp]at this;exact this
theorem cJ{ds:List D}{k:Nat}(h1:p Γ c=some (.lst ds,c1))(h2:q Γ c1=some (.int (k:Int),c2))(hk:k<1000000)(h:ds[k]?=some d):a9 p q Γ c=some (d,c2):=fx h1 h2 (Dw hk h)
theorem kr{ds:List D}(h1:p Γ c=some (.lst ds,c1))(h:ds.length≤100000):bo d9 (ag p aw) Γ c=some (.int (ds.length:Int),c1):=cy (au h1 aB) (if_pos h)
noncomputable abbrev BG:PS:=ak (bf 4 (ao .Mod (ao .Mod (ao .FloorDiv (a9 (aa 0) (aa 3)) (ah 10)) (ah 12)) (ao .Sub (bo d9 (ag (aa 2) (aw))) (ah 1)))) (ak (bf 2 (ao .Add (ao .Add (aV (aa 2) (aA) (aP (aa 4)) (aA)) (aK (ag (ao .Add (ao .Add (ao .Add (ao .Add (aK (ag (aZ ⟨#[40]⟩) (aw))) (a9 (aa 2) (aa 4))) (aK (ag (a9 (aZ ⟨#[42,124]⟩) (ao .Mod (ao .FloorDiv (a9 (aa 0) (aa 3)) (ah 120)) (ah 2))) (aw)))) (a9 (aa 2) (ao .Add (aa 4) (ah 1)))) (aK (ag (aZ ⟨#[41]⟩) (aw)))) (aw)))) (aV (aa 2) (aP (ao .Add (aa 4) (ah 2))) (aA) (aA)))) (aG))
theorem xZ{rows:List (List Nat)}{k:Nat}(h:k<rows.length):(rows.map mW)[k]?=some (mW (rows.getD k [])):=by simp[List.getD,h]
theorem jt{as:List D}{turn x:Nat}{rows:List (List Nat)}{w:Slot}(hx:as[turn]?=some (.int (x:Int)))(ht:turn<900)(hr:2≤rows.length)(hr4:rows.length≤4)(hl:∀r∈rows,r.length≤20) :
  BG [.val (.lst as),w,.val (fX rows),.val (.int (turn:Int)),d0] c=some (.next,[.val (.lst as),w,.val (fX (i6 (x / 10 % 12 % (rows.length - 1)) (bD (x / 120 % 2)) rows)),.val (.int (turn:Int)),.val (.int ((x / 10 % 12 % (rows.length - 1):Nat):Int))],c):=by
 have hk:x / 10 % 12 % (rows.length - 1)<rows.length - 1:=Nat.mod_lt _ (by(first|lia|omega))
 generalize hkk:x / 10 % 12 % (rows.length - 1)=k at hk
 have hlen:(rows.map mW).length=rows.length:=List.length_map _
 have e1:ao .Mod (ao .Mod (ao .FloorDiv (a9 (aa 0) (aa 3)) (ah 10)) (ah 12)) (ao .Sub (bo d9 (ag (aa 2) (aw))) (ah 1)) [.val (.lst as),w,.val (fX rows),.val (.int (turn:Int)),d0] c=some (.int (k:Int),c):=by
  have h2:ao .Sub (bo d9 (ag (aa 2) (aw))) (ah 1) [.val (.lst as),w,.val (fX rows),.val (.int (turn:Int)),d0] c=some (.int ((rows.length - 1:Nat):Int),c):=by
   have:=aT (op:=.Sub) (kr (Γ:=[.val (.lst as),w,.val (fX rows),.val (.int (turn:Int)),d0]) (c:=c) (ab (i:=2) rfl) (by rw[hlen];(first|lia|omega))) (ay (i:=1)) jh
   rw[hlen,show (rows.length:Int) - 1=((rows.length - 1:Nat):Int)by(first|lia|omega)]at this
   exact this
  have:=dk (dk (iA (cJ (Γ:=[.val (.lst as),w,.val (fX rows),.val (.int (turn:Int)),d0]) (c:=c) (ab (i:=0) rfl) (ab (i:=3) rfl) (by(first|lia|omega)) hx) (b:=10) (by decide)) (ay (i:=((12:Nat):Int))) (by decide)) h2 (by(first|lia|omega))
  rw[hkk]at this
  exact this
 refine aN (bk e1) (aN (bk ?_) rfl)
 show ao .Add _ _ [.val (.lst as),w,.val (fX rows),.val (.int (turn:Int)),.val (.int (k:Int))] c=_
 have star:a9 (aZ ⟨#[42,124]⟩) (ao .Mod (ao .FloorDiv (a9 (aa 0) (aa 3)) (ah 120)) (ah 2)) [.val (.lst as),w,.val (fX rows),.val (.int (turn:Int)),.val (.int (k:Int))] c=some (chD (bD (x / 120 % 2)),c):=by
  have:=dk (iA (cJ (Γ:=[.val (.lst as),w,.val (fX rows),.val (.int (turn:Int)),.val (.int (k:Int))]) (c:=c) (ab (i:=0) rfl) (ab (i:=3) rfl) (by(first|lia|omega)) hx) (b:=120) (by decide)) (ay (i:=((2:Nat):Int))) (by decide)
  refine fx bF this ?_
  have h2:x / 120 % 2=0∨x / 120 % 2=1:=by(first|lia|omega)
  rcases h2 with h|h<;>rw[h]<;>exact Di ⟨by decide,by decide⟩ rfl
 have get:∀j:Nat,j<rows.length→(rows.map mW)[j]?=some (mW (rows.getD j [])):=λj=>xZ
 have small:∀j:Nat,(rows.getD j []).length≤20:=by
  intro j
  by_cases h:j<rows.length
  ·simp only[List.getD,List.getElem?_eq_getElem h,Option.getD_some];exact hl _ (List.getElem_mem h)
  ·simp[List.getD,h]
 have s0:=small k
 have s1:=small (k+1)
 have row:ao .Add (ao .Add (ao .Add (ao .Add (aK (ag (aZ ⟨#[40]⟩) (aw))) (a9 (aa 2) (aa 4))) (aK (ag (a9 (aZ ⟨#[42,124]⟩) (ao .Mod (ao .FloorDiv (a9 (aa 0) (aa 3)) (ah 120)) (ah 2))) (aw)))) (a9 (aa 2) (ao .Add (aa 4) (ah 1)))) (aK (ag (aZ ⟨#[41]⟩) (aw)))
   [.val (.lst as),w,.val (fX rows),.val (.int (turn:Int)),.val (.int (k:Int))] c=some (mW ([40]++rows.getD k []++[bD (x / 120 % 2)]++rows.getD (k+1) []++[41]),c):=by
  have h:=aT (op:=.Add) (aT (op:=.Add) (aT (op:=.Add) (aT (op:=.Add) (aY (au (bF (Γ:=[.val (.lst as),w,.val (fX rows),.val (.int (turn:Int)),.val (.int (k:Int))]) (c:=c) (x:=⟨#[40]⟩)) aB) (by decide)) (cJ (ab (i:=2) rfl) (ab (i:=4) rfl) (by(first|lia|omega)) (get k (by(first|lia|omega)))) (dn (by simp only[List.length_append,List.length_map,List.length_cons,List.length_nil];(first|lia|omega)))) (aY (au star aB) (Nat.le_of_ble_eq_true rfl)) (dn (by simp only[List.length_append,List.length_map,List.length_cons,List.length_nil];(first|lia|omega))))
   (cJ (ab (i:=2) rfl) (dA (ab (i:=4) rfl) (ay (i:=((1:Nat):Int)))) (by(first|lia|omega)) (get (k+1) (by(first|lia|omega)))) (dn (by simp only[List.length_append,List.length_map,List.length_cons,List.length_nil];(first|lia|omega)))) (aY (au (bF (x:=⟨#[41]⟩)) aB) (by decide)) (dn (by simp only[List.length_append,List.length_map,List.length_cons,List.length_nil];(first|lia|omega)))
  refine h.trans ?_
  simp only[mW,List.map_append,List.map_cons,List.map_nil]
 have h:=aT (op:=.Add) (aT (op:=.Add) (cS (ab (Γ:=[.val (.lst as),w,.val (fX rows),.val (.int (turn:Int)),.val (.int (k:Int))]) (c:=c) (i:=2) rfl) bp (cx (ab (i:=4) rfl)) bp (jy (by rw[hlen];(first|lia|omega)))) (aY (au row aB) (Nat.le_of_ble_eq_true rfl)) (dn (by rw[iH _ (by rw[hlen];(first|lia|omega))];simp;(first|lia|omega))))
  (cS (ab (i:=2) rfl) (cx (dA (ab (i:=4) rfl) (ay (i:=((2:Nat):Int))))) bp bp (jy (by rw[hlen];(first|lia|omega)))) (dn (by rw[iH _ (by rw[hlen];(first|lia|omega)),l7 _ (by rw[hlen];(first|lia|omega))];simp;(first|lia|omega)))
 refine h.trans ?_
 rw[iH _ (by rw[hlen];(first|lia|omega)),l7 _ (by rw[hlen];(first|lia|omega))]
 simp only[fX,i6,List.map_append,List.map_take,List.map_drop,List.map_cons,List.map_nil]
end
end Mine
namespace Mine
inductive SP where
 | leaf (i:Nat)
 | node (s:Nat) (l r:SP)
noncomputable def code(L:List Nat):SP→List Nat
 | .leaf i=>[L.getD i 0]
 | .node s l r=>[40]++code L l++[bD s]++code L r++[41]
noncomputable def eW(k s:Nat)(rows:List SP):List SP:=rows.take k++[.node s (rows.getD k (.leaf 0)) (rows.getD (k+1) (.leaf 0))]++rows.drop (k+2)
noncomputable def shapeOf(k0 k1 k2 b0 b1 b2:Nat):SP:=(eW k2 b2 (eW k1 b1 (eW k0 b0 [.leaf 0,.leaf 1,.leaf 2,.leaf 3]))).getD 0 (.leaf 0)
noncomputable def shapeAt(a0 a1 a2:Nat):SP:=shapeOf (a0 / 10 % 12 % 3) (a1 / 10 % 12 % 2) (a2 / 10 % 12 % 1) (a0 / 120 % 2) (a1 / 120 % 2) (a2 / 120 % 2)
section
variable{Γ:List Slot}{c c1 c2 c3:List Cell}{p q r:PE}{ps:PL}{d a b:D}{ds:List D}{α:Type}
theorem kj{L:List Nat}{k s:Nat}{rows:List SP}(h:k+1<rows.length):i6 k (bD s) (rows.map (code L))=(eW k s rows).map (code L):=by
 have g:∀j:Nat,j<rows.length→(rows.map (code L)).getD j []=code L (rows.getD j (.leaf 0)):=by
  intro j hj
  simp[List.getD,hj]
 unfold i6 eW
 rw[g k (by(first|lia|omega)),g (k+1) h]
 simp only[List.map_append,List.map_take,List.map_drop,List.map_cons,List.map_nil,code]
theorem mj{k s:Nat}{rows:List SP}(h:k+1<rows.length):(eW k s rows).length=rows.length - 1:=by
 unfold eW
 simp only[List.length_append,List.length_take,List.length_drop,List.length_cons,List.length_nil]
 (first|lia|omega)
theorem me{k s B:Nat}{rows:List (List Nat)}(h:∀r∈rows,r.length≤B):∀r∈i6 k s rows,r.length≤2*B+3:=by
 have g:∀j:Nat,(rows.getD j []).length≤B:=by
  intro j
  by_cases hj:j<rows.length
  ·simp only[List.getD,List.getElem?_eq_getElem hj,Option.getD_some];exact h _ (List.getElem_mem hj)
  ·simp[List.getD,hj]
 intro r hr
 unfold i6 at hr
 rcases List.mem_append.mp hr with hr|hr
 ·rcases List.mem_append.mp hr with hr|hr
  ·have:=h r (List.mem_of_mem_take hr);(first|lia|omega)
  ·obtain rfl:=List.mem_singleton.mp hr
   have:=g k;have:=g (k+1)
   simp only[List.length_append,List.length_cons,List.length_nil];(first|lia|omega)
 ·have:=h r (List.mem_of_mem_drop hr);(first|lia|omega)
noncomputable abbrev sgD(l:List Nat):D:=.lst (l.map chD)
theorem xc(a0 a1 a2 a3:Nat)(L:List Nat)(hL:L.length=4):oG [bU a0 a1 a2 a3,sgD L]=some (sgD (code L (shapeAt a0 a1 a2))):=by
 match L,hL with
 | [l0,l1,l2,l3],_=>
 have hr0:([[l0],[l1],[l2],[l3]]:List (List Nat))=[SP.leaf 0,.leaf 1,.leaf 2,.leaf 3].map (code [l0,l1,l2,l3]):=rfl
 have b0:∀r∈([[l0],[l1],[l2],[l3]]:List (List Nat)),r.length≤1:=by simp
 have b1:=me (k:=a0 / 10 % 12 % 3) (s:=bD (a0 / 120 % 2)) b0
 have k0:a0 / 10 % 12 % 3+1<4:=by(first|lia|omega)
 have k1:a1 / 10 % 12 % 2+1<3:=by(first|lia|omega)
 have k2:a2 / 10 % 12 % 1+1<2:=by(first|lia|omega)
 have c0:=kj (L:=[l0,l1,l2,l3]) (s:=a0 / 120 % 2) (rows:=[SP.leaf 0,.leaf 1,.leaf 2,.leaf 3]) k0
 have n0:=mj (s:=a0 / 120 % 2) (rows:=[SP.leaf 0,.leaf 1,.leaf 2,.leaf 3]) k0
 have hS:shapeAt a0 a1 a2=(eW (a2 / 10 % 12 % 1) (a2 / 120 % 2) (eW (a1 / 10 % 12 % 2) (a1 / 120 % 2) (eW (a0 / 10 % 12 % 3) (a0 / 120 % 2) [SP.leaf 0,.leaf 1,.leaf 2,.leaf 3]))).getD 0 (.leaf 0):=rfl
 rw[←hr0]at c0
 generalize hR1:eW (a0 / 10 % 12 % 3) (a0 / 120 % 2) [SP.leaf 0,.leaf 1,.leaf 2,.leaf 3]=R1 at c0 n0 hS
 have n0':R1.length=3:=n0
 rw[c0]at b1
 have b2:=me (k:=a1 / 10 % 12 % 2) (s:=bD (a1 / 120 % 2)) b1
 have c1:=kj (L:=[l0,l1,l2,l3]) (s:=a1 / 120 % 2) (rows:=R1) (k:=a1 / 10 % 12 % 2) (by(first|lia|omega))
 have n1:=mj (s:=a1 / 120 % 2) (rows:=R1) (k:=a1 / 10 % 12 % 2) (by(first|lia|omega))
 generalize hR2:eW (a1 / 10 % 12 % 2) (a1 / 120 % 2) R1=R2 at c1 n1 hS
 have n1':R2.length=2:=by(first|lia|omega)
 rw[c1]at b2
 have c2:=kj (L:=[l0,l1,l2,l3]) (s:=a2 / 120 % 2) (rows:=R2) (k:=a2 / 10 % 12 % 1) (by(first|lia|omega))
 have n2:=mj (s:=a2 / 120 % 2) (rows:=R2) (k:=a2 / 10 % 12 % 1) (by(first|lia|omega))
 have s0:=λd0=>jt (c:=[]) (d0:=d0) (as:=[.int a0,.int a1,.int a2,.int a3]) (turn:=0) (x:=a0) (rows:=[[l0],[l1],[l2],[l3]]) (w:=.val (sgD [l0,l1,l2,l3])) rfl (by decide) (by simp) (by simp) (λr h=>Nat.le_trans (b0 r h) (by decide))
 have s1:=λd0=>jt (c:=[]) (d0:=d0) (as:=[.int a0,.int a1,.int a2,.int a3]) (turn:=1) (x:=a1) (rows:=R1.map (code [l0,l1,l2,l3])) (w:=.val (sgD [l0,l1,l2,l3])) rfl (by decide) (by rw[List.length_map];(first|lia|omega)) (by rw[List.length_map];(first|lia|omega)) (λr h=>Nat.le_trans (b1 r h) (by decide))
 have s2:=λd0=>jt (c:=[]) (d0:=d0) (as:=[.int a0,.int a1,.int a2,.int a3]) (turn:=2) (x:=a2) (rows:=R2.map (code [l0,l1,l2,l3])) (w:=.val (sgD [l0,l1,l2,l3])) rfl (by decide) (by rw[List.length_map];(first|lia|omega)) (by rw[List.length_map];(first|lia|omega)) (λr h=>Nat.le_trans (b2 r h) (by decide))
 rw[List.length_map,n0']at s1
 rw[List.length_map,n1']at s2
 rw[c1]at s1
 rw[c2]at s2
 rw[show ([[l0],[l1],[l2],[l3]]:List (List Nat)).length - 1=3 from rfl,c0]at s0
 generalize hR3:eW (a2 / 10 % 12 % 1) (a2 / 120 % 2) R2=R3 at s2 n2 hS
 have hlast:(R3.map (λt=>mW (code [l0,l1,l2,l3] t)))[0]?=some (sgD (code [l0,l1,l2,l3] (shapeAt a0 a1 a2))):=by
  rw[hS]
  have:0<R3.length:=by(first|lia|omega)
  simp[List.getD,this]
 have i0:∃Γ',oR [.val (bU a0 a1 a2 a3),.val (sgD [l0,l1,l2,l3]),.un,.un,.un] []=some (.ret (sgD (code [l0,l1,l2,l3] (shapeAt a0 a1 a2))),Γ',[]):=by
  refine⟨_,aN (bk (dm (l:=[l0,l1,l2,l3]) (g:=chD) (λx=>mW [x]) (bZ (ab rfl)) (λx _=>aY (au (ab rfl) aB) (Nat.le_of_ble_eq_true rfl)) (Nat.le_of_ble_eq_true rfl)))
   (aN (iG (en (n:=3) (by decide)) (bR (Γ1:=[.val (bU a0 a1 a2 a3),.val (sgD [l0,l1,l2,l3]),.val (fX [[l0],[l1],[l2],[l3]]),.val (.int ((0:Nat):Int)),.un]) rfl (s0 _) (bR rfl (s1 _) (bR rfl (s2 _) Bn))) rfl) (cp (dY (fx (ab (i:=2) rfl) (ay (i:=0)) (xt (by decide) ?_)))))⟩
  rw[List.map_map,List.length_map,n2,n1']
  exact hlast
 obtain⟨Γ',e⟩:=i0
 unfold oG dj cB
 have hs:setFrom 0 ([bU a0 a1 a2 a3,sgD [l0,l1,l2,l3]].map Slot.val) (List.replicate 5 .un)=[.val (bU a0 a1 a2 a3),.val (sgD [l0,l1,l2,l3]),.un,.un,.un]:=rfl
 rw[hs,e];rfl
theorem zz{a0 a1 a2 a3:Nat}{L:List Nat}(hL:L.length=4)(h:Γ[1]?=some (.val (bU a0 a1 a2 a3)))(h3:Γ[3]?=some (.val (sgD L))):z9 Γ c=some (.next,aS 4 (sgD (code L (shapeAt a0 a1 a2))) Γ,c):=
 bk (lO (ab h) (ab h3) (xc a0 a1 a2 a3 L hL))
end
end Mine
namespace Mine
section
variable{Γ:List Slot}{c c1 c2 c3:List Cell}{p q r:PE}{ps:PL}{d a b:D}{ds:List D}{α:Type}
noncomputable abbrev bc(l:List Nat):Str:=⟨l.toArray⟩
noncomputable abbrev aE(l:List Nat):D:=.str (bc l)
theorem jC(x y:List Nat):bc x++bc y=bc (x++y):=by
 show (⟨x.toArray++y.toArray⟩:Str)=_
 simp
theorem join_eq(sep:Str)(l:List Str):Txt.join sep l=Str.join sep l:=eq_of_beq (join_plain_closes sep l)
theorem Dp:∀ls:List (List Nat),Txt.join ⟨#[]⟩ (ls.map bc)=bc ls.flatten:=by
 intro ls
 rw[join_eq]
 induction ls with
 | nil=>rfl
 | cons x ls ih=>rw[List.map_cons,join_nil_cons,ih,List.flatten_cons,jC]
theorem mK:∀ls:List (List Nat),gO (ls.map aE)=some (ls.map bc)
 | []=>rfl
 | l::ls=>by rw[List.map_cons,gO,mK ls];rfl
theorem jH{ls:List (List Nat)}(h1:p Γ c=some (.lst (ls.map aE),c1))(h:ls.flatten.length≤100000):bO "str" dg (aZ ⟨#[]⟩) (ag p aw) Γ c=some (aE ls.flatten,c1):=by
 refine gP bF rfl (au h1 aB) ?_
 show (gO (ls.map aE)).bind _=_
 rw[mK]
 simp only[Option.bind_some]
 have hl:((ls.map bc).map (·.length)).sum+(ls.map bc).length*(⟨#[]⟩:Str).length≤100000:=by
  rw[show (⟨#[]⟩:Str).length=0 from rfl,Nat.mul_zero,Nat.add_zero,List.map_map]
  have:(ls.map ((·.length) ∘ bc)).sum=ls.flatten.length:=by
   clear h h1
   induction ls with
   | nil=>rfl
   | cons x ls ih=>rw[List.map_cons,List.sum_cons,ih,List.flatten_cons,List.length_append];simp[Str.length,bc]
  rw[this];exact h
 rw[if_pos hl,Dp]
noncomputable def c9:Nat→List Nat
 | 1=>[92,40]
 | 2=>[34,41,34]
 | 3=>[92,92]
 | 4=>[34,92,34,41,34]
 | 5=>[97,92,34]
 | 6=>[34,34]
 | _=>[]
noncomputable abbrev gV:D:=.lst ((List.range 14).map λk=>aE (c9 k))
theorem As:Ay Γ c=some (.next,aS 5 gV Γ,c):=bk rfl
noncomputable def fB(as:List Nat)(k:Nat):Nat:=(as.getD (k % 4) 0 / 7+9*k) % 14
noncomputable def txt(q:Nat×Nat):List Nat:=c9 q.1++[q.2]
noncomputable def paired(as S:List Nat):List (Nat×Nat):=(List.range S.length).map λk=>(fB as k,S.getD k 0)
theorem rY(as S:List Nat):(paired as S).map (·.2)=S:=by
 unfold paired
 rw[List.map_map]
 apply List.ext_getElem
 ·simp
 ·intro i h1 h2
  simp[List.getD,h2]
theorem km(k:Nat):(c9 k).length≤5:=by
 unfold c9
 split<;>decide
theorem sX(q:Nat×Nat):(txt q).length≤6:=by
 have:=km q.1
 unfold txt
 rw[List.length_append];simp;omega (config:={})
theorem fi(l:List (Nat×Nat)):((l.map txt).flatten).length≤6*l.length:=by
 induction l with
 | nil=>simp
 | cons q l ih=>
  have:=sX q
  rw[List.map_cons,List.flatten_cons,List.length_append,List.length_cons];(first|lia|omega)
@[elab_as_elim] theorem lt4 {P:Nat→Prop} {k:Nat} (h:k<4) (h0:P 0) (h1:P 1) (h2:P 2) (h3:P 3):P k:=(List.forall_mem_cons.mpr ⟨h0,List.forall_mem_cons.mpr ⟨h1,List.forall_mem_cons.mpr ⟨h2,List.forall_mem_cons.mpr ⟨h3,List.forall_mem_nil P⟩⟩⟩⟩:∀x∈[0,1,2,3],P x) k (List.mem_range.mpr h)
@[elab_as_elim] theorem lt10 {P:Nat→Prop} {k:Nat} (h:k<10) (h0:P 0) (h1:P 1) (h2:P 2) (h3:P 3) (h4:P 4) (h5:P 5) (h6:P 6) (h7:P 7) (h8:P 8) (h9:P 9):P k:=by
 by_cases q:k<4
 ·exact lt4 q h0 h1 h2 h3
 ·obtain⟨j,rfl⟩:=Nat.le.dest (Nat.le_of_not_lt q)
  rw[Nat.add_comm]at h⊢
  by_cases q:j<4
  ·exact lt4 q h4 h5 h6 h7
  ·obtain⟨i,rfl⟩:=Nat.le.dest (Nat.le_of_not_lt q)
   have:i<4:=by(first|lia|omega)
   revert h
   exact lt4 this (λ_=>h8) (λ_=>h9) (λh=>absurd h (by decide)) (λh=>absurd h (by decide))
theorem ku{a0 a1 a2 a3:Nat}{j:Nat}(h:j<4):([D.int a0,.int a1,.int a2,.int a3]:List D)[j]?=some (.int ([a0,a1,a2,a3].getD j 0:Nat)):=by
 exact lt4 h rfl rfl rfl rfl
theorem Ad{a0 a1 a2 a3:Nat}{S:List Nat}(hb:a0≤320000∧a1≤320000∧a2≤320000∧a3≤320000)(hS:S.length≤100)(h1:Γ[1]?=some (.val (bU a0 a1 a2 a3)))(h4:Γ[4]?=some (.val (sgD S)))(h5:Γ[5]?=some (.val gV)) :
  AV Γ c=some (.next,aS 6 (.lst (((paired [a0,a1,a2,a3] S).map txt).map aE)) Γ,c):=by
 refine bk ?_
 have hc:bQ [none,none,some 5,some 1] Γ=[.un,.un,.val gV,.val (bU a0 a1 a2 a3)]:=by simp[bQ,h1,h5]
 have hsrc:=eK (Γ:=Γ) (c:=c) (ab h4)
 have he:eS (S.map chD)=(List.range S.length).map λk=>(D.int (k:Nat),chD (S.getD k default)):=e8 S chD
 have hr:=kJ (js:=[none,none,some 5,some 1]) (i:=0) (j:=1) (p:=ao .Add (a9 (aa 2) (ao .Mod (ao .Add (ao .FloorDiv (a9 (aa 3) (ao .Mod (aa 0) (ah 4))) (ah 7)) (ao .Mult (ah 9) (aa 0))) (ah 14))) (aa 1))
  (l:=eS (S.map chD)) (c1:=c) (λq=>match q with|(.int k,.str s)=>.str (bc (c9 (fB [a0,a1,a2,a3] k.toNat))++s)|_=>.none) (by decide) hsrc ?_ ?_
 ·refine hr.trans ?_
  rw[he]
  congr 3
  unfold paired
  rw[List.map_map,List.map_map,List.map_map]
  apply List.map_congr_left
  intro k _
  show D.str (bc (c9 (fB [a0,a1,a2,a3] ((k:Int)).toNat))++bc [S.getD k default])=aE (txt (fB [a0,a1,a2,a3] k,S.getD k 0))
  rw[jC,Int.toNat_natCast]
  rfl
 ·intro q hq
  rw[he]at hq
  obtain⟨k,hk,rfl⟩:=List.mem_map.mp hq
  have hk':=List.mem_range.mp hk
  rw[hc]
  show ao .Add _ _ [.val (.int (k:Int)),.val (chD (S.getD k default)),.val gV,.val (bU a0 a1 a2 a3)] c=some (.str (bc (c9 (fB [a0,a1,a2,a3] ((k:Int)).toNat))++bc [S.getD k default]),c)
  rw[Int.toNat_natCast]
  have hsm:[a0,a1,a2,a3].getD (k % 4) 0≤320000:=by
   have:k % 4<4:=Nat.mod_lt _ (by decide)
   generalize k % 4=j at this
   exact lt4 this hb.1 hb.2.1 hb.2.2.1 hb.2.2.2
  have e1:=dk (Γ:=[.val (.int (k:Int)),.val (chD (S.getD k default)),.val gV,.val (bU a0 a1 a2 a3)]) (c:=c) (dA (iA (cJ (ab (i:=3) rfl) (dk (ab (i:=0) rfl) (ay (i:=((4:Nat):Int))) (by decide)) (by(first|lia|omega)) (ku (Nat.mod_lt _ (by decide)))) (b:=7) (by decide))
   (mN (ay (i:=((9:Nat):Int))) (ab (i:=0) rfl) (by decide))) (ay (i:=((14:Nat):Int))) (by decide)
  have hi:fB [a0,a1,a2,a3] k<14:=Nat.mod_lt _ (by decide)
  refine aT (cJ (ab (i:=2) rfl) e1 (by(first|lia|omega)) (d:=aE (c9 (fB [a0,a1,a2,a3] k))) ?_) (ab (i:=1) rfl) (xS ?_)
  ·show ((List.range 14).map λk=>aE (c9 k))[fB [a0,a1,a2,a3] k]?=_
   simp[hi]
  ·have:=km (fB [a0,a1,a2,a3] k)
   rw[len_str]
   show _+1≤100000
   (first|lia|omega)
 ·rw[he,List.length_map,List.length_range];(first|lia|omega)
theorem Ai{ls:List (List Nat)}(h6:Γ[6]?=some (.val (.lst (ls.map aE))))(hl:ls.flatten.length≤100000):zb Γ c=some (.next,aS 7 (aE ls.flatten) Γ,c):=bk (jH (ab h6) hl)
end
end Mine
namespace Mine
section
variable{Γ:List Slot}{c c1 c2 c3:List Cell}{p q r:PE}{ps:PL}{d a b:D}{ds:List D}{α:Type}
noncomputable abbrev av(l:List Nat):D:=.lst (l.map λ(k:Nat)=>D.int (k:Int))
noncomputable def iV(as:List Nat):List (Int×Int):=(List.range 4).map λk=>(((as.getD k 0 / 240 % 21:Nat):Int),(k:Int))
noncomputable def oN(as:List Nat):List Nat:=gx (iV as)
theorem kZ:∀l:List (Int×Int),jD (l.map pairD)=some l
 | []=>rfl
 | (x,y)::l=>by rw[List.map_cons];show (jD (l.map pairD)).map _=_;rw[kZ l];rfl
theorem jX(as:List Nat):(oN as).Perm [0,1,2,3]:=List.isPerm_iff.mp (iJ _)
theorem zk{a0 a1 a2 a3:Nat}(h1:Γ[1]?=some (.val (bU a0 a1 a2 a3))):zH Γ c=some (.next,aS 8 (av (oN [a0,a1,a2,a3])) Γ,c):=by
 refine bk ?_
 have hc:bQ [none,some 1] Γ=[.un,.val (bU a0 a1 a2 a3)]:=by simp[bQ,h1]
 have e1:=dm (Γ:=Γ) (c:=c) (js:=[none,some 1]) (i:=0) (p:=de (ag (ao .Mod (ao .FloorDiv (a9 (aa 1) (aa 0)) (ah 240)) (ah 21)) (ag (aa 0) (aw)))) (l:=List.range 4) (g:=λk=>D.int (k:Nat))
  (λk=>pairD ((([a0,a1,a2,a3].getD k 0 / 240 % 21:Nat):Int),(k:Int))) (en (n:=4) (by decide)) ?_ (by decide)
 ·have hlen:(iV [a0,a1,a2,a3]).length=4:=rfl
  have e1':aX [none,some 1] (bu cL (ag (ah 4) (aw))) (.n 0) (cn) (aQ (de (ag (ao .Mod (ao .FloorDiv (a9 (aa 1) (aa 0)) (ah 240)) (ah 21)) (ag (aa 0) (aw))))) Γ c=some (.lst ((iV [a0,a1,a2,a3]).map pairD),c):=e1
  have e2:gM [.lst ((iV [a0,a1,a2,a3]).map pairD)]=some (.lst ((oN [a0,a1,a2,a3]).map λi=>((iV [a0,a1,a2,a3]).map pairD).getD i .none)):=by
   unfold gM on1 onL
   dsimp only
   rw[kZ]
   simp only[Option.bind_some]
   rw[if_pos hlen];rfl
  have hR:∀i∈oN [a0,a1,a2,a3],i<4:=by
   intro i hi
   have:=(jX [a0,a1,a2,a3]).mem_iff.mp hi
   simp at this;(first|lia|omega)
  have e3:(oN [a0,a1,a2,a3]).map (λi=>((iV [a0,a1,a2,a3]).map pairD).getD i .none)=((oN [a0,a1,a2,a3]).map λi=>(D.int (([a0,a1,a2,a3].getD i 0 / 240 % 21:Nat):Int),D.int (i:Int))).map λq=>D.tup [q.1,q.2]:=by
   rw[List.map_map]
   apply List.map_congr_left
   intro i hi
   have:=hR i hi
   exact lt4 this rfl rfl rfl rfl
  have e4:=kJ (Γ:=Γ) (c:=c) (js:=[none,none]) (i:=0) (j:=1) (p:=aa 1) (l:=(oN [a0,a1,a2,a3]).map λi=>(D.int (([a0,a1,a2,a3].getD i 0 / 240 % 21:Nat):Int),D.int (i:Int))) (c1:=c) (λq=>q.2) (by decide)
   (bZ ((cy (au e1' aB) e2).trans (by rw[e3]))) (λq _=>ab rfl) (by rw[List.length_map,(jX _).length_eq];decide)
  refine e4.trans ?_
  rw[List.map_map];rfl
 ·intro k hk
  rw[hc]
  have hk':=List.mem_range.mp hk
  exact jw (au (dk (iA (cJ (ab (i:=1) rfl) (ab (i:=0) rfl) (by(first|lia|omega)) (ku hk')) (b:=240) (by decide)) (ay (i:=((21:Nat):Int))) (by decide)) (au (ab (i:=0) rfl) aB)) (Nat.le_of_ble_eq_true rfl)
noncomputable def eY(ch:Nat):Nat:=[14,15,17,19,20,21,22,24,31,32].getD (bB.idxOf ch) 0
noncomputable abbrev mC:Str:=bc bB
theorem r8:∀ch∈bB,lq [.str mC,.str ⟨#[ch]⟩]=some (.int (bB.idxOf ch:Nat)):=by
 intro ch h
 have:∀ch∈bB,(Builtin.Str.occurrences mC ⟨#[ch]⟩ 0 mC.length 1).head?=some (bB.idxOf ch):=by decide +kernel
 have h1:=this ch h
 show (match Builtin.Str.occurrences mC ⟨#[ch]⟩ 0 mC.length 1 with|i::_=>some (D.int (i:Nat)) | []=>none)=_
 cases e:Builtin.Str.occurrences mC ⟨#[ch]⟩ 0 mC.length 1 with
 | nil=>rw[e]at h1;cases h1
 | cons i r=>rw[e]at h1;cases h1;rfl
noncomputable def eI(R L:List Nat):List Nat:=R.map λk=>eY (L.getD k 0)
theorem AH{R L:List Nat}(hR:∀k∈R,k<L.length)(hl:R.length≤100∧L.length≤100)(hL:∀ch∈L,ch∈bB)(h8:Γ[8]?=some (.val (av R)))(h3:Γ[3]?=some (.val (sgD L))):zN Γ c=some (.next,aS 9 (av (eI R L)) Γ,c):=by
 refine bk ?_
 have hc:bQ [none,some 3] Γ=[.un,.val (sgD L)]:=by simp[bQ,h3]
 have e1:=dm (Γ:=Γ) (c:=c) (js:=[none,some 3]) (i:=0) (p:=a9 (aK (ag (ah 14) (ag (ah 15) (ag (ah 17) (ag (ah 19) (ag (ah 20) (ag (ah 21) (ag (ah 22) (ag (ah 24) (ag (ah 31) (ag (ah 32) (aw)))))))))))) (bO "str" lq (aZ ⟨#[43,45,47,38,60,62,61,37,126,94]⟩) (ag (a9 (aa 1) (aa 0)) (aw))))
  (l:=R) (g:=λ(k:Nat)=>D.int (k:Int)) (c1:=c) (λk=>D.int (eY (L.getD k 0):Nat)) (bZ (ab h8)) ?_ (by(first|lia|omega))
 ·refine e1.trans ?_
  unfold av eI
  rw[List.map_map];rfl
 ·intro k hk
  rw[hc]
  have hk':=hR k hk
  have hm:L.getD k 0∈bB:=hL _ (getD_mem hk')
  have hi:bB.idxOf (L.getD k 0)<10:=List.idxOf_lt_length_of_mem hm
  have hg:(L.map chD)[k]?=some (chD (L.getD k 0)):=by simp[List.getD,hk']
  refine cJ (aY (ds:=[.int 14,.int 15,.int 17,.int 19,.int 20,.int 21,.int 22,.int 24,.int 31,.int 32]) rfl (by decide)) (gP bF rfl (au (cJ (ab (i:=1) rfl) (ab (i:=0) rfl) (by(first|lia|omega)) hg) aB) (r8 _ hm)) (by(first|lia|omega)) ?_
  unfold eY
  generalize bB.idxOf (L.getD k 0)=j at hi
  have:∀j,j<10→([.int 14,.int 15,.int 17,.int 19,.int 20,.int 21,.int 22,.int 24,.int 31,.int 32]:List D)[j]?=some (D.int (([14,15,17,19,20,21,22,24,31,32].getD j 0:Nat):Int)):=by
   intro j hj
   exact lt10 hj rfl rfl rfl rfl rfl rfl rfl rfl rfl rfl
  exact this j hi
noncomputable def w9(T:Nat):Int:=(((T / 13 % 5:Nat):Int) - 3)*2 ^ 32
theorem BF{is:List Nat}{Γ1:List Slot}(h:p Γ c=some (d,c1))(hb:d6 (.t is) d Γ=some Γ1):ue p is Γ c=some (.next,Γ1,c1):=by unfold ue;rw[h];simp only[Option.bind_some];rw[hb];rfl
theorem zm{T:Nat}(h2:Γ[2]?=some (.val (.int (T:Int)))):AP Γ c=some (.next,aS 11 (.int (w9 T)) (aS 10 (.int ((T % 13:Nat):Int)) Γ),c):=by
 have e1:=dk (Γ:=Γ) (c:=c) (ab h2) (ay (i:=((13:Nat):Int))) (by decide)
 have e2:=aT (op:=.Mult) (aT (op:=.Sub) (dk (iA (Γ:=Γ) (c:=c) (ab h2) (b:=13) (by decide)) (ay (i:=((5:Nat):Int))) (by decide)) (ay (i:=3)) jh) (aT (op:=.Pow) (ay (i:=2)) (ay (i:=32)) (tT (by decide))) (xb (a:=((T / 13 % 5:Nat):Int) - 3) (by have:T / 13 % 5<5:=Nat.mod_lt _ (by decide);omega (config:={})))
 have e3:=jw (au e1 (au e2 aB)) (Nat.le_of_ble_eq_true rfl)
 exact BF e3 rfl
noncomputable def yZ(T t:Nat):Nat:=(t*(2*(T % 8)+1)+T / 8) % 16
noncomputable def ke(T:Nat):List Nat:=(List.range 16).map (yZ T)
theorem xp{T:Nat}(h2:Γ[2]?=some (.val (.int (T:Int)))):tM Γ c=some (.next,aS 12 (av (ke T)) Γ,c):=by
 refine bk ?_
 have hc:bQ [none,some 2] Γ=[.un,.val (.int (T:Int))]:=by simp[bQ,h2]
 have e1:=dm (Γ:=Γ) (c:=c) (js:=[none,some 2]) (i:=0) (p:=ao .Mod (ao .Add (ao .Mult (aa 0) (ao .Add (ao .Mult (ah 2) (ao .Mod (aa 1) (ah 8))) (ah 1))) (ao .FloorDiv (aa 1) (ah 8))) (ah 16))
  (l:=List.range 16) (g:=λ(k:Nat)=>D.int (k:Int)) (c1:=c) (λt=>D.int (yZ T t:Nat)) (en (n:=16) (by decide)) ?_ (by decide)
 ·refine e1.trans ?_
  unfold av ke
  rw[List.map_map];rfl
 ·intro t ht
  have ht':=List.mem_range.mp ht
  rw[hc]
  exact dk (dA (mN (ab (i:=0) rfl) (dA (mN (ay (i:=((2:Nat):Int))) (dk (ab (i:=1) rfl) (ay (i:=((8:Nat):Int))) (by decide)) (by decide)) (ay (i:=((1:Nat):Int)))) (by(first|lia|omega))) (iA (ab (i:=1) rfl) (b:=8) (by decide))) (ay (i:=((16:Nat):Int))) (by decide)
theorem q7(T:Nat):(ke T).Perm (List.range 16):=by
 have h:∀m<8,∀q<16,((List.range 16).map λt=>(t*(2*m+1)+q) % 16).isPerm (List.range 16)=true:=by decide +kernel
 have h1:=h (T % 8) (Nat.mod_lt _ (by decide)) (T / 8 % 16) (Nat.mod_lt _ (by decide))
 have e:ke T=(List.range 16).map λt=>(t*(2*(T % 8)+1)+T / 8 % 16) % 16:=by
  unfold ke
  apply List.map_congr_left
  intro t _
  unfold yZ
  (first|lia|omega)
 rw[e]
 exact List.isPerm_iff.mp h1
end
end Mine
namespace Mine
section
variable{Γ:List Slot}{c c1 c2 c3:List Cell}{p q r:PE}{ps:PL}{d a b:D}{ds:List D}{α:Type}
theorem t7(a b:Nat):Builtin.bitAnd (a:Int) (b:Int)=((a &&& b:Nat):Int):=by rw[bitAnd_pp (by(first|lia|omega)) (by(first|lia|omega))];rfl
theorem Ao(v d:Nat)(h:d<64):(v*64) &&& d=0:=by
 apply Nat.eq_of_testBit_eq
 intro i
 rw[Nat.testBit_and,Nat.zero_testBit,show 64=2 ^ 6 by rfl,Nat.testBit_mul_two_pow]
 by_cases hi:6≤i
 ·have:d.testBit i=false:=Nat.testBit_lt_two_pow (Nat.lt_of_lt_of_le (show d<2 ^ 6 from h) (Nat.pow_le_pow_right (by decide) hi))
  rw[this,Bool.and_false]
 ·simp[hi]
theorem BC(v d:Nat)(h:d<64):Builtin.bitOr ((v*64:Nat):Int) (d:Int)=((v*64+d:Nat):Int):=by
 rw[bitOr_and,t7,Ao v d h];(first|lia|omega)
theorem Bd{o:Nat}(h:o<256):o &&& 63=o % 64:=by
 have:∀o<256,o &&& 63=o % 64:=by decide +kernel
 exact this o h
theorem C0{o:Nat}(h:o<256):o &&& 64=64*(o / 64 % 2):=by
 have:∀o<256,o &&& 64=64*(o / 64 % 2):=by decide +kernel
 exact this o h
noncomputable def valueOf:Nat→List Nat→Nat
 | v,[]=>v
 | v,o::os=>valueOf (v*64+o % 64) os
noncomputable def One:List Nat→Prop
 | []=>False
 | [o]=>o<256∧o / 64 % 2=0
 | o::os=>(o<256∧o / 64 % 2=1)∧One os
noncomputable abbrev ntD(l:List Nat):List D:=l.map λ(k:Nat)=>D.int (k:Int)
theorem tO{i k:Nat}{ds:List D}(h:Γ[i]?=some (.ref k))(hk:c[k]?=some (.it (d::ds))):lg i Γ c=some (d,c.set k (.it ds)):=by
 unfold lg;rw[h];simp only[];rw[hk]
theorem pe{a b:Nat}(h1:p Γ c=some (.int (a:Int),c1))(h2:q Γ c1=some (.int (b:Int),c2)):ao .BitAnd p q Γ c=some (.int ((a &&& b:Nat):Int),c2):=by
 have:=aT (op:=.BitAnd) h1 h2 Bk
 rw[t7]at this;exact this
theorem zV{t:PB}{body:PS}{n:Nat}{Γ2:List Slot}{r:Option (Fl×List Slot×List Cell)}(h0:t Γ c=some (true,c1))(h1:body Γ c1=some (.next,Γ2,c2))(h2:eg t body n Γ2 c2=r):eg t body (n+1) Γ c=r:=by
 unfold eg;rw[h0];simp only[Option.bind_some,if_true];rw[h1];exact h2
theorem z4{t:PB}{body:PS}{n:Nat}(h0:t Γ c=some (false,c1)):eg t body (n+1) Γ c=some (.next,Γ,c1):=by
 unfold eg;rw[h0];rfl
theorem lI{i:Int}:jM (.int i)=some (i != 0):=rfl
theorem A6{o:Nat}{w:Slot}{k:Nat}(ho:o<256):cV (ao .BitAnd (aa 1) (ah 64)) [.ref k,.val (.int (o:Int)),w] c=some (decide (o / 64 % 2=1),c):=by
 have:=gQ (pe (Γ:=[.ref k,.val (.int (o:Int)),w]) (c:=c) (ab (i:=1) rfl) (ay (i:=((64:Nat):Int)))) lI
 refine this.trans ?_
 rw[C0 ho]
 congr 2
 have h2:o / 64 % 2=0∨o / 64 % 2=1:=by(first|lia|omega)
 rcases h2 with h|h<;>rw[h]<;>rfl
theorem Dc{k:Nat}{x y:Cell}:(c.set k x).set k y=c.set k y:=by rw[List.set_set]
theorem mf(k:Nat):∀(os:List Nat) (n j v o:Nat) (rest:List D) (c:List Cell),One (o::os)→os.length<n→v<64 ^ j→j+os.length≤8→c[k]?=some (.it (ntD os++rest))→
  ∃Γ',eg (cV (ao .BitAnd (aa 1) (ah 64))) (ak (f6 2 .LShift (ah 6)) (ak (bf 1 (lg 0)) (ak (f6 2 .BitOr (ao .BitAnd (aa 1) (ah 63))) (aG)))) n [.ref k,.val (.int (o:Int)),.val (.int (v:Int))] c=
   some (.next,Γ',c.set k (.it rest))∧Γ'[2]?=some (.val (.int (valueOf v os:Nat)))
 | [],n+1,j,v,o,rest,c,h1,_,_,_,hk=>by
  refine⟨[.ref k,.val (.int (o:Int)),.val (.int (v:Int))],?_,rfl⟩
  have ho:o<256∧o / 64 % 2=0:=h1
  rw[show c.set k (.it rest)=c from ?_]
  ·refine z4 ?_
   rw[A6 ho.1]
   simp[ho.2]
  ·have hk':c[k]?=some (.it rest):=hk
   obtain⟨hlt,e⟩:=List.getElem?_eq_some_iff.mp hk'
   rw[←e,List.set_getElem_self]
 | o'::os,n+1,j,v,o,rest,c,h1,hn,hv,hj,hk=>by
  have ho:(o<256∧o / 64 % 2=1)∧One (o'::os):=h1
  have ho':o'<256:=by
   have:=ho.2
   cases os with
   | nil=>exact this.1
   | cons _ _=>exact this.1.1
  have hm:o' % 64<64:=Nat.mod_lt _ (by decide)
  have hp:64 ^ j≤64 ^ 8:=Nat.pow_le_pow_right (by decide) (by simp at hj;(first|lia|omega))
  have hp2:(64:Nat) ^ 8<2 ^ 64:=by decide
  have hv2:v*64+o' % 64<64 ^ (j+1):=by rw[Nat.pow_succ];(first|lia|omega)
  have hlt:k<c.length:=(List.getElem?_eq_some_iff.mp hk).1
  obtain⟨Γ',e1,e2⟩:=mf k os n (j+1) (v*64+o' % 64) o' rest (c.set k (.it (ntD os++rest))) ho.2 (by simp at hn;(first|lia|omega)) hv2 (by simp at hj;(first|lia|omega)) (by rw[List.getElem?_set_self hlt])
  rw[List.set_set]at e1
  refine⟨Γ',?_,e2⟩
  have hsh:rV .LShift (.int (v:Int)) (.int 6)=some (.int ((v*64:Nat):Int)):=by
   have:rV .LShift (.int (v:Int)) (.int 6)=if (0:Int)≤6∧(6:Int)≤1000000∧(v:Int).natAbs<2 ^ 64 then some (.int ((v:Int)*2 ^ (6:Int).toNat))else none:=rfl
   rw[this,if_pos ⟨by decide,by decide,by simp;(first|lia|omega)⟩]
   congr 2
  have hor:rV .BitOr (.int ((v*64:Nat):Int)) (.int ((o' % 64:Nat):Int))=some (.int ((v*64+o' % 64:Nat):Int)):=by
   show some (D.int (Builtin.bitOr _ _))=_
   rw[BC _ _ hm]
  have ha:ao .BitAnd (aa 1) (ah 63) [.ref k,.val (.int (o':Int)),.val (.int ((v*64:Nat):Int))] (c.set k (.it (ntD os++rest)))=some (.int ((o' % 64:Nat):Int),c.set k (.it (ntD os++rest))):=by
   have:=pe (Γ:=[.ref k,.val (.int (o':Int)),.val (.int ((v*64:Nat):Int))]) (c:=c.set k (.it (ntD os++rest))) (ab (i:=1) rfl) (ay (i:=((63:Nat):Int)))
   rw[Bd ho']at this;exact this
  refine zV (by rw[A6 ho.1.1];simp[ho.1.2]) (aN (pz rfl ay hsh) (aN (bk (tO rfl hk)) (aN (pz rfl ha hor) rfl))) e1
theorem vR{k:Nat}{os:List Nat}{rest:List D}(h1:One os)(hl:os.length≤4)(hk:c[k]?=some (.it (ntD os++rest))):gA [.ref k] c=some (.int (valueOf 0 os:Nat),c.set k (.it rest)):=by
 match os,h1,hl,hk with
 | o::os,h1,hl,hk=>
  have ho:o<256:=by
   cases os with
   | nil=>exact h1.1
   | cons _ _=>exact h1.1.1
  have hlt:k<c.length:=(List.getElem?_eq_some_iff.mp hk).1
  obtain⟨Γ',e1,e2⟩:=mf k os 8 1 (o % 64) o rest (c.set k (.it (ntD os++rest))) h1 (by simp at hl;(first|lia|omega)) (Nat.mod_lt _ (by decide)) (by simp at hl;(first|lia|omega)) (by rw[List.getElem?_set_self hlt])
  rw[List.set_set]at e1
  have ha:ao .BitAnd (aa 1) (ah 63) [.ref k,.val (.int (o:Int)),.un] (c.set k (.it (ntD os++rest)))=some (.int ((o % 64:Nat):Int),c.set k (.it (ntD os++rest))):=by
   have:=pe (Γ:=[.ref k,.val (.int (o:Int)),.un]) (c:=c.set k (.it (ntD os++rest))) (ab (i:=1) rfl) (ay (i:=((63:Nat):Int)))
   rw[Bd ho]at this;exact this
  have hq:mO [.ref k,.un,.un] c=some (.ret (.int (valueOf 0 (o::os):Nat)),Γ',c.set k (.it rest)):=by
   refine aN (bk (tO rfl hk)) (aN (bk ha) (aN e1 (cp (dY ?_))))
   rw[show valueOf 0 (o::os)=valueOf (o % 64) os by simp[valueOf]]
   exact ab e2
  unfold gA cB
  have hs:setFrom 0 [.ref k] (List.replicate 3 .un)=[.ref k,.un,.un]:=rfl
  rw[hs,hq]
  show (some (D.int (valueOf 0 (o::os):Nat),(c.set k (.it rest)).take c.length):Option (D×List Cell))=_
  rw[List.take_of_length_le (by rw[List.length_set];exact Nat.le_refl _)]
end
end Mine
namespace Mine
section
variable{Γ:List Slot}{c c1 c2 c3:List Cell}{p q r:PE}{ps:PL}{d a b:D}{ds:List D}{α:Type}
theorem cu{m k:Nat}{q:PS}{Γ':List Slot}{c':List Cell}(hk:ds.length=k)(h:q (setFrom 0 (ds.map .val) (List.replicate m .un)) []=some (.ret d,Γ',c')):dj (cB m k q) ds=some d:=by
 unfold dj cB
 rw[if_pos (by rw[List.length_map];exact hk),h];rfl
noncomputable def b9(n:Nat):List Nat:=(if 64 ^ 2≤n then[n / 64 ^ 2 % 64+64]else[])++(if 64 ^ 1≤n then[n / 64 ^ 1 % 64+64]else[])++[n % 64]
noncomputable def ie(as:List Nat)(k:Nat):List Nat:=List.replicate (as.getD (k % 4) 0 / 16 % 4 / 3) 64
noncomputable def lh(as:List Nat):Nat→List Nat→List Nat
 | _,[]=>[]
 | k,n::ns=>ie as k++b9 n++lh as (k+1) ns
noncomputable def mark(T place o:Nat):Nat:=if (place+T) % 3=0 then o+128 else o
noncomputable def cX(T:Nat):Nat→List Nat→List Nat
 | _,[]=>[]
 | k,o::os=>mark T k o::cX T (k+1) os
noncomputable def lL(as:List Nat)(T:Nat)(ns:List Nat):List Nat:=cX T 0 (lh as 0 ns)
theorem kT(T:Nat):∀(k:Nat) (xs ys:List Nat),cX T k (xs++ys)=cX T k xs++cX T (k+xs.length) ys
 | _,[],ys=>by simp[cX]
 | k,x::xs,ys=>by rw[List.cons_append,cX,cX,kT T (k+1) xs ys,List.cons_append,List.length_cons,show k+1+xs.length=k+(xs.length+1)by omega (config:={})]
theorem gK(T:Nat):∀(k:Nat) (os:List Nat),cX T k os=(List.range os.length).map λi=>mark T (k+i) (os.getD i 0)
 | _,[]=>rfl
 | k,o::os=>by
  rw[cX,gK T (k+1) os,List.length_cons,List.range_succ_eq_map,List.map_cons,List.map_map]
  congr 1
  apply List.map_congr_left
  intro i _
  show mark T (k+1+i) (os.getD i 0)=mark T (k+(i+1)) ((o::os).getD (i+1) 0)
  rw[show k+1+i=k+(i+1)by omega (config:={})];rfl
theorem kf(as:List Nat)(k:Nat):ie as k=[]∨ie as k=[64]:=by
 unfold ie
 have h:as.getD (k % 4) 0 / 16 % 4 / 3=0∨as.getD (k % 4) 0 / 16 % 4 / 3=1:=by omega (config:={})
 rcases h with h|h<;>rw[h]
 ·exact .inl rfl
 ·exact .inr rfl
theorem pO:∀o<128,(o+128<256∧(o+128) / 64 % 2=o / 64 % 2∧(o+128) % 64=o % 64)∧o<256:=by decide +kernel
theorem o6{T k o:Nat}(h:o<128):mark T k o<256∧mark T k o / 64 % 2=o / 64 % 2∧mark T k o % 64=o % 64:=by
 unfold mark
 split
 ·exact(pO o h).1
 ·exact⟨(pO o h).2,rfl,rfl⟩
theorem qk(T:Nat):∀(os:List Nat) (k:Nat),(∀o∈os,o<128)→One os→One (cX T k os)
 | [o],k,h,h1=>by
  obtain⟨m1,m2,m3⟩:=o6 (T:=T) (k:=k) (h o (.head _))
  exact⟨m1,m2.trans h1.2⟩
 | o::o'::os,k,h,h1=>by
  obtain⟨m1,m2,m3⟩:=o6 (T:=T) (k:=k) (h o (.head _))
  have h2:(o<256∧o / 64 % 2=1)∧One (o'::os):=h1
  have ih:=qk T (o'::os) (k+1) (λx hx=>h x (.tail _ hx)) h2.2
  exact⟨⟨m1,m2.trans h2.1.2⟩,ih⟩
theorem lZ(T:Nat):∀(os:List Nat) (k v:Nat),(∀o∈os,o<128)→valueOf v (cX T k os)=valueOf v os
 | [],_,_,_=>rfl
 | o::os,k,v,h=>by
  obtain⟨m1,m2,m3⟩:=o6 (T:=T) (k:=k) (h o (.head _))
  rw[cX,valueOf,valueOf,m3,lZ T os (k+1) _ λx hx=>h x (.tail _ hx)]
theorem r64:∀r<64,r+64<128∧r+64<256∧(r+64) / 64 % 2=1∧(r+64) % 64=r∧r<128∧r<256∧r / 64 % 2=0∧r % 64=r:=by decide +kernel
theorem vU{n:Nat}(hn:n<262144):One (b9 n)∧valueOf 0 (b9 n)=n∧(∀o∈b9 n,o<128)∧(b9 n).length≤3:=by
 have r:=λk:Nat=>r64 (k % 64) (Nat.mod_lt _ (by decide))
 obtain⟨a1,a2,a3,a4,-⟩:=r (n / 4096)
 obtain⟨b1,b2,b3,b4,-⟩:=r (n / 64)
 obtain⟨-,-,-,-,c5,c6,c7,c8⟩:=r n
 show One ((if 4096≤n then[n / 4096 % 64+64]else[])++(if 64≤n then[n / 64 % 64+64]else[])++[n % 64])∧valueOf 0 ((if 4096≤n then[n / 4096 % 64+64]else[])++(if 64≤n then[n / 64 % 64+64]else[])++[n % 64])=n∧(∀o∈(if 4096≤n then[n / 4096 % 64+64]else[])++(if 64≤n then[n / 64 % 64+64]else[])++[n % 64],o<128)∧((if 4096≤n then[n / 4096 % 64+64]else[])++(if 64≤n then[n / 64 % 64+64]else[])++[n % 64]).length≤3
 have z:(0*64+0)=0:=rfl
 by_cases h2:4096≤n
 ·rw[if_pos h2,if_pos (Nat.le_trans (by decide) h2)]
  refine⟨⟨⟨a2,a3⟩,⟨b2,b3⟩,c6,c7⟩,?_,List.forall_mem_cons.mpr ⟨a1,List.forall_mem_cons.mpr ⟨b1,List.forall_mem_cons.mpr ⟨c5,List.forall_mem_nil _⟩⟩⟩,Nat.le_refl 3⟩
  show ((0*64+(n / 4096 % 64+64) % 64)*64+(n / 64 % 64+64) % 64)*64+n % 64 % 64=n
  rw[a4,b4,c8]
  clear a1 a2 a3 a4 b1 b2 b3 b4 c5 c6 c7 c8 r z h2
  omega (config:={})
 ·rw[if_neg h2]
  by_cases h1:64≤n
  ·rw[if_pos h1]
   refine⟨⟨⟨b2,b3⟩,c6,c7⟩,?_,List.forall_mem_cons.mpr ⟨b1,List.forall_mem_cons.mpr ⟨c5,List.forall_mem_nil _⟩⟩,Nat.le_succ 2⟩
   show (0*64+(n / 64 % 64+64) % 64)*64+n % 64 % 64=n
   rw[b4,c8]
   clear a1 a2 a3 a4 b1 b2 b3 b4 c5 c6 c7 c8 r z h1 hn
   omega (config:={})
  ·rw[if_neg h1]
   refine⟨⟨c6,c7⟩,?_,List.forall_mem_cons.mpr ⟨c5,List.forall_mem_nil _⟩,Nat.le_add_left 1 2⟩
   show 0*64+n % 64 % 64=n
   rw[c8]
   clear a1 a2 a3 a4 b1 b2 b3 b4 c5 c6 c7 c8 r z h2 hn
   omega (config:={})
theorem vc{n:Nat}(hn:n<262144)(as:List Nat)(k:Nat):One (ie as k++b9 n)∧valueOf 0 (ie as k++b9 n)=n∧(∀o∈ie as k++b9 n,o<128)∧(ie as k++b9 n).length≤4:=by
 obtain⟨h1,h2,h3,h4⟩:=vU hn
 rcases kf as k with e|e<;>rw[e]
 ·exact⟨h1,h2,h3,by simp;omega (config:={})⟩
 ·refine⟨?_,?_,λo ho=>?_,by simp;omega (config:={})⟩
  ·show One (64::b9 n)
   cases e2:b9 n with
   | nil=>rw[e2]at h1;exact h1.elim
   | cons o os=>rw[e2]at h1;exact⟨⟨by decide,by decide⟩,h1⟩
  ·show valueOf (0*64+64 % 64) (b9 n)=n
   exact h2
  ·rcases List.mem_cons.mp ho with rfl|ho
   ·decide
   ·exact h3 o ho
theorem iQ(x y:List Nat):ntD x++ntD y=ntD (x++y):=by simp[ntD]
theorem yc(n:Nat):A7 [.int (n:Int)]=some (.bool (decide (n=0))):=by
 have:wH [.val (.int (n:Int))] []=some (.ret (.bool (decide (n=0))),[.val (.int (n:Int))],[]):=by
  refine cp (dY ((gh (ab rfl) ay je).trans ?_))
  congr 3
  by_cases h:n=0<;>simp[h]
 exact cu rfl this
theorem yP(n:Nat):Bc [.int (n:Int)]=some (.bool (decide (n<256))):=by
 have:yC [.val (.int (n:Int))] []=some (.ret (.bool (decide (n<256))),[.val (.int (n:Int))],[]):=by
  refine cp (dY ((gh (ab rfl) ay zy).trans ?_))
  congr 3
  by_cases h:n<256
  ·rw[decide_eq_true h,decide_eq_true (by omega (config:={}))]
  ·rw[decide_eq_false h,decide_eq_false (by omega (config:={}))]
 exact cu rfl this
theorem xB(n:Nat):AZ [.int (n:Int)]=some (.bool (decide (256≤n))):=by
 have:xI [.val (.int (n:Int))] []=some (.ret (.bool (decide (256≤n))),[.val (.int (n:Int))],[]):=by
  refine cp (dY ((gh (ab rfl) ay Du).trans ?_))
  congr 3
  by_cases h:256≤n
  ·rw[decide_eq_true h,decide_eq_true (by omega (config:={}))]
  ·rw[decide_eq_false h,decide_eq_false (by omega (config:={}))]
 exact cu rfl this
end
end Mine
namespace Mine
section
variable{Γ:List Slot}{c c1 c2 c3:List Cell}{p q r:PE}{ps:PL}{d a b:D}{ds:List D}{α:Type}
noncomputable def eF:Nat→List Nat→List D
 | _,[]=>[]
 | k,n::ns=>.tup [.int (k:Int),.int (n:Int)]::eF (k+1) ns
theorem Bj:∀(k:Nat) (ns:List Nat),eF k ns=(List.range ns.length).map λi=>D.tup [.int ((k+i:Nat):Int),.int ((ns.getD i 0:Nat):Int)]
 | _,[]=>rfl
 | k,n::ns=>by
  rw[eF,Bj (k+1) ns,List.length_cons,List.range_succ_eq_map,List.map_cons,List.map_map]
  congr 1
  apply List.map_congr_left
  intro i _
  show D.tup [.int ((k+1+i:Nat):Int),.int ((ns.getD i 0:Nat):Int)]=D.tup [.int ((k+(i+1):Nat):Int),.int (((n::ns).getD (i+1) 0:Nat):Int)]
  rw[show k+1+i=k+(i+1)by(first|lia|omega)];rfl
theorem AO(ns:List Nat):hV (ntD ns)=eF 0 ns:=by
 rw[Bj]
 unfold hV
 rw[List.length_map]
 apply List.map_congr_left
 intro i hi
 have hi':=List.mem_range.mp hi
 simp[List.getD,hi']
noncomputable abbrev El:PS:=(ak (ll 3 (ao .Mult (aK (ag (ah 64) (aw))) (ao .FloorDiv (ao .Mod (ao .FloorDiv (a9 (aa 1) (ao .Mod (aa 4) (ah 4))) (ah 16)) (ah 4)) (ah 3)))) (ak (ll 3 (ao .Add (aX [none,some 5] (cC (aK (ag (ah 2) (ag (ah 1) (aw))))) (.n 0) (aD .GtE (aa 1) (ao .Pow (ah 64) (aa 0))) (aQ (ao .Add (ao .Mod (ao .FloorDiv (aa 1) (ao .Pow (ah 64) (aa 0))) (ah 64)) (ah 64)))) (aK (ag (ao .Mod (aa 5) (ah 64)) (aw))))) (aG)))
theorem vq{n:Nat}{w0 w1 w2 w3 w4:Slot}:ao .Add (aX [none,some 5] (cC (aK (ag (ah 2) (ag (ah 1) (aw))))) (.n 0) (aD .GtE (aa 1) (ao .Pow (ah 64) (aa 0))) (aQ (ao .Add (ao .Mod (ao .FloorDiv (aa 1) (ao .Pow (ah 64) (aa 0))) (ah 64)) (ah 64)))) (aK (ag (ao .Mod (aa 5) (ah 64)) (aw)))
  [w0,w1,w2,w3,w4,.val (.int (n:Int))] c=some (.lst (ntD (b9 n)),c):=by
 have pw:∀h:Nat,h=2∨h=1→ao .Pow (ah 64) (aa 0) [.val (.int (h:Int)),.val (.int (n:Int))] c=some (.int ((64 ^ h:Nat):Int),c):=by
  intro h hh
  refine(aT (op:=.Pow) (ay (i:=64)) (ab (i:=0) rfl) (tT (by rcases hh with rfl|rfl<;>decide))).trans ?_
  rcases hh with rfl|rfl<;>rfl
 have hc:=iN (Γ:=[w0,w1,w2,w3,w4,.val (.int (n:Int))]) (c:=c) (js:=[none,some 5]) (src:=cC (aK (ag (ah 2) (ag (ah 1) (aw))))) (i:=0) (t:=aD .GtE (aa 1) (ao .Pow (ah 64) (aa 0))) (p:=ao .Add (ao .Mod (ao .FloorDiv (aa 1) (ao .Pow (ah 64) (aa 0))) (ah 64)) (ah 64))
  (ds:=[.int ((2:Nat):Int),.int ((1:Nat):Int)]) (c1:=c) (λd=>match d with|.int h=>decide (64 ^ h.toNat≤n)|_=>false) (λd=>match d with|.int h=>.int ((n / 64 ^ h.toNat % 64+64:Nat):Int)|_=>.none) rfl ?_ ?_ (by decide)
 ·have h2:=aT (op:=.Add) hc (aY (au (dk (Γ:=[w0,w1,w2,w3,w4,.val (.int (n:Int))]) (c:=c) (ab (i:=5) rfl) (ay (i:=((64:Nat):Int))) (by decide)) aB) (Nat.le_of_ble_eq_true rfl)) (dn (by
   have:((([D.int ((2:Nat):Int),.int ((1:Nat):Int)]).filter (λd=>match d with|.int h=>decide (64 ^ h.toNat≤n)|_=>false)).map (λd=>match d with|.int h=>D.int ((n / 64 ^ h.toNat % 64+64:Nat):Int)|_=>.none)).length≤2:=by
    rw[List.length_map];exact List.length_filter_le _ _
   show _+1≤100000
   omega (config:={})))
  refine h2.trans ?_
  congr 3
  unfold b9
  have t2:((2:Nat):Int).toNat=2:=rfl
  have t1:((1:Nat):Int).toNat=1:=rfl
  simp only[List.filter_cons,List.filter_nil,t1,t2]
  by_cases h2:64 ^ 2≤n<;>by_cases h1:64 ^ 1≤n<;>simp only[h1,h2,decide_true,decide_false,if_true,if_false,Bool.false_eq_true]<;>rfl
 ·intro d hd
  simp only[List.mem_cons,List.not_mem_nil,or_false]at hd
  have go:∀h:Nat,h=2∨h=1→aD .GtE (aa 1) (ao .Pow (ah 64) (aa 0)) [.val (.int (h:Int)),.val (.int (n:Int))] c=some (decide (64 ^ h≤n),c):=by
   intro h hh
   refine(bb (ab (i:=1) rfl) (pw h hh) Du).trans ?_
   congr 2
   by_cases h1:64 ^ h≤n
   ·rw[decide_eq_true h1,decide_eq_true (by omega (config:={}))]
   ·rw[decide_eq_false h1,decide_eq_false (by omega (config:={}))]
  rcases hd with rfl|rfl
  ·exact go 2 (.inl rfl)
  ·exact go 1 (.inr rfl)
 ·intro d hd _
  simp only[List.mem_cons,List.not_mem_nil,or_false]at hd
  have go:∀h:Nat,h=2∨h=1→ao .Add (ao .Mod (ao .FloorDiv (aa 1) (ao .Pow (ah 64) (aa 0))) (ah 64)) (ah 64) [.val (.int (h:Int)),.val (.int (n:Int))] c=some (.int ((n / 64 ^ h % 64+64:Nat):Int),c):=by
   intro h hh
   have hd:ao .FloorDiv (aa 1) (ao .Pow (ah 64) (aa 0)) [.val (.int (h:Int)),.val (.int (n:Int))] c=some (.int ((n / 64 ^ h:Nat):Int),c):=by
    have:=aT (op:=.FloorDiv) (ab (Γ:=[.val (.int (h:Int)),.val (.int (n:Int))]) (c:=c) (i:=1) rfl) (pw h hh) (sD (by rcases hh with rfl|rfl<;>decide))
    rw[jN]at this;exact this
   exact dA (dk hd (ay (i:=((64:Nat):Int))) (by decide)) (ay (i:=((64:Nat):Int)))
  rcases hd with rfl|rfl
  ·exact go 2 (.inl rfl)
  ·exact go 1 (.inr rfl)
theorem Cs{a0 a1 a2 a3 k:Nat}{w0 w2 w3 w5:Slot}:ao .Mult (aK (ag (ah 64) (aw))) (ao .FloorDiv (ao .Mod (ao .FloorDiv (a9 (aa 1) (ao .Mod (aa 4) (ah 4))) (ah 16)) (ah 4)) (ah 3)) [w0,.val (bU a0 a1 a2 a3),w2,w3,.val (.int (k:Int)),w5] c=some (.lst (ntD (ie [a0,a1,a2,a3] k)),c):=by
 have e:=iA (dk (iA (cJ (Γ:=[w0,.val (bU a0 a1 a2 a3),w2,w3,.val (.int (k:Int)),w5]) (c:=c) (ab (i:=1) rfl) (dk (ab (i:=4) rfl) (ay (i:=((4:Nat):Int))) (by decide)) (by(first|lia|omega)) (ku (Nat.mod_lt k (by decide)))) (b:=16) (by decide)) (ay (i:=((4:Nat):Int))) (by decide)) (b:=3) (by decide)
 unfold ie
 generalize hx:[a0,a1,a2,a3].getD (k % 4) 0 / 16 % 4 / 3=x at e
 have h2:x=0∨x=1:=by(first|lia|omega)
 refine(aT (op:=.Mult) (aY (au (ay (i:=((64:Nat):Int))) aB) (Nat.le_of_ble_eq_true rfl)) e (yM (by rcases h2 with rfl|rfl<;>decide))).trans ?_
 rcases h2 with rfl|rfl<;>rfl
theorem oI(as:List Nat):∀(k:Nat) (ns:List Nat),(lh as k ns).length≤4*ns.length
 | _,[]=>by simp[lh]
 | k,n::ns=>by
  have ih:=oI as (k+1) ns
  rw[lh,List.length_append,List.length_append,List.length_cons]
  have h1:(ie as k).length≤1:=by rcases kf as k with e|e<;>rw[e]<;>simp
  have h2:(b9 n).length≤3:=by unfold b9;simp only[List.length_append];split<;>split<;>simp
  (first|lia|omega)
theorem mv{a0 a1 a2 a3:Nat}{w0 w2:Slot}:∀(ns:List Nat) (k:Nat) (os:List Nat) (w4 w5:Slot),os.length+4*ns.length≤1000→
  ∃w4' w5',bG (.t [4,5]) El (eF k ns) [w0,.val (bU a0 a1 a2 a3),w2,.ref 0,w4,w5] [.lst (ntD os)]=some (.next,[w0,.val (bU a0 a1 a2 a3),w2,.ref 0,w4',w5'],[.lst (ntD (os++lh [a0,a1,a2,a3] k ns))])
 | [],k,os,w4,w5,_=>⟨w4,w5,by rw[lh,List.append_nil];rfl⟩
 | n::ns,k,os,w4,w5,hl=>by
  have h1:(ie [a0,a1,a2,a3] k).length≤1:=by rcases kf [a0,a1,a2,a3] k with e|e<;>rw[e]<;>simp
  have h2:(b9 n).length≤3:=by unfold b9;simp only[List.length_append];split<;>split<;>simp
  rw[List.length_cons]at hl
  obtain⟨w4',w5',e⟩:=mv (w0:=w0) (w2:=w2) ns (k+1) (os++ie [a0,a1,a2,a3] k++b9 n) (.val (.int (k:Int))) (.val (.int (n:Int))) (by simp only[List.length_append];(first|lia|omega))
  refine⟨w4',w5',?_⟩
  have s1:ll 3 (ao .Mult (aK (ag (ah 64) (aw))) (ao .FloorDiv (ao .Mod (ao .FloorDiv (a9 (aa 1) (ao .Mod (aa 4) (ah 4))) (ah 16)) (ah 4)) (ah 3))) [w0,.val (bU a0 a1 a2 a3),w2,.ref 0,.val (.int (k:Int)),.val (.int (n:Int))] [.lst (ntD os)]=
    some (.next,[w0,.val (bU a0 a1 a2 a3),w2,.ref 0,.val (.int (k:Int)),.val (.int (n:Int))],[.lst (ntD (os++ie [a0,a1,a2,a3] k))]):=by
   refine(qm (k:=0) rfl ⟨_,rfl⟩ Cs rfl (by simp only[List.length_map];(first|lia|omega))).trans ?_
   rw[iQ];rfl
  have s2:=qm (i:=3) (k:=0) (Γ:=[w0,.val (bU a0 a1 a2 a3),w2,.ref 0,.val (.int (k:Int)),.val (.int (n:Int))]) (c:=[.lst (ntD (os++ie [a0,a1,a2,a3] k))]) rfl ⟨_,rfl⟩ vq rfl (by simp only[List.length_map,List.length_append];(first|lia|omega))
  rw[iQ]at s2
  rw[eF]
  refine bR (Γ1:=[w0,.val (bU a0 a1 a2 a3),w2,.ref 0,.val (.int (k:Int)),.val (.int (n:Int))]) rfl (aN s1 (aN s2 rfl)) ?_
  refine e.trans ?_
  rw[lh,List.append_assoc,List.append_assoc,List.append_assoc]
theorem uP{a0 a1 a2 a3 T:Nat}{ns:List Nat}(hl:ns.length≤100):qK [av ns,bU a0 a1 a2 a3,.int (T:Int)]=some (av (lL [a0,a1,a2,a3] T ns)):=by
 obtain⟨w4,w5,e⟩:=mv (a0:=a0) (a1:=a1) (a2:=a2) (a3:=a3) (w0:=.val (av ns)) (w2:=.val (.int (T:Int))) ns 0 [] .un .un (by simp;(first|lia|omega))
 rw[List.nil_append]at e
 have ho:=oI [a0,a1,a2,a3] 0 ns
 generalize hO:lh [a0,a1,a2,a3] 0 ns=O at e ho
 have e1:=kJ (Γ:=[.val (av ns),.val (bU a0 a1 a2 a3),.val (.int (T:Int)),.ref 0,w4,w5]) (c:=[.lst (ntD O)]) (js:=[none,none,some 2]) (i:=0) (j:=1) (p:=pIf (aD .Eq (ao .Mod (ao .Add (aa 0) (aa 2)) (ah 3)) (ah 0)) (ao .Add (aa 1) (ah 128)) (aa 1))
  (l:=eS (ntD O)) (c1:=[.fz (ntD O)]) (λq=>match q with|(.int k,.int o)=>.int (mark T k.toNat o.toNat:Nat)|_=>.none) (by decide) (eK (p:=aa 3) rfl) ?_ (by unfold eS;rw[List.length_map,List.length_range,List.length_map];(first|lia|omega))
 ·refine cu rfl (Γ':=[.val (av ns),.val (bU a0 a1 a2 a3),.val (.int (T:Int)),.ref 0,w4,w5]) (c':=[.fz (ntD O)]) ?_
  refine aN (iK aB (by decide)) (aN (iG (ds:=eF 0 ns) (c1:=[.lst (ntD [])]) (fL (au (ab (i:=0) rfl) aB) ?_) e rfl) (cp (dY ?_)))
  ·rw[←AO];rfl
  ·refine e1.trans ?_
   congr 3
   unfold lL
   rw[hO,gK,e8 O (λ(k:Nat)=>D.int (k:Int)),List.map_map,List.map_map]
   apply List.map_congr_left
   intro k _
   show D.int (mark T ((k:Int)).toNat (((O.getD k default:Nat):Int)).toNat:Nat)=D.int (mark T (0+k) (O.getD k 0):Nat)
   rw[Int.toNat_natCast,Int.toNat_natCast,Nat.zero_add];rfl
 ·intro q hq
  obtain⟨k,hk,hq1,hq2⟩:=vQ hq
  rw[List.getElem?_map]at hq2
  (refine mE hq2 ?_;(try clear hq2);intro o _ ho2)
  obtain⟨q1,q2⟩:=q
  dsimp only at hq1 ho2
  subst hq1 ho2
  show pIf _ _ _ [.val (.int (k:Int)),.val (.int (o:Int)),.val (.int (T:Int))] _=some (.int (mark T ((k:Int)).toNat ((o:Int)).toNat:Nat),_)
  rw[Int.toNat_natCast,Int.toNat_natCast]
  have ht:aD .Eq (ao .Mod (ao .Add (aa 0) (aa 2)) (ah 3)) (ah 0) [.val (.int (k:Int)),.val (.int (o:Int)),.val (.int (T:Int))] [.fz (ntD O)]=some (decide ((k+T) % 3=0),[.fz (ntD O)]):=by
   refine(bb (dk (dA (ab (i:=0) rfl) (ab (i:=2) rfl)) (ay (i:=((3:Nat):Int))) (by decide)) ay je).trans ?_
   congr 2
   by_cases h:(k+T) % 3=0
   ·rw[h];rfl
   ·rw[decide_eq_false h]
    simp only[beq_eq_false_iff_ne,ne_eq];(first|lia|omega)
  unfold mark
  by_cases h:(k+T) % 3=0
  ·rw[if_pos h]
   exact fO (by rw[ht,decide_eq_true h]) (dA (ab (i:=1) rfl) (ay (i:=((128:Nat):Int))))
  ·rw[if_neg h]
   exact fo (by rw[ht,decide_eq_false h]) (ab (i:=1) rfl)
end
end Mine
namespace Mine
section
variable{Γ:List Slot}{c c1 c2 c3:List Cell}{p q r:PE}{ps:PL}{d a b:D}{ds:List D}{α:Type}
noncomputable def zC:List Nat→List Nat→Prop
 | [],os=>os=[]
 | n::ns,os=>∃o1 os2,os=o1++os2∧One o1∧o1.length≤4∧valueOf 0 o1=n∧zC ns os2
theorem nB(as:List Nat)(T:Nat):∀(ns:List Nat) (k j:Nat),(∀n∈ns,n<262144)→zC ns (cX T k (lh as j ns))
 | [],_,_,_=>rfl
 | n::ns,k,j,h=>by
  obtain⟨h1,h2,h3,h4⟩:=vc (h n (.head _)) as j
  refine⟨cX T k (ie as j++b9 n),cX T (k+(ie as j++b9 n).length) (lh as (j+1) ns),?_,qk T _ k h3 h1,?_,(lZ T _ k 0 h3).trans h2,nB as T ns _ (j+1) λx hx=>h x (.tail _ hx)⟩
  ·rw[lh,kT]
  ·rw[gK,List.length_map,List.length_range];exact h4
noncomputable abbrev Ax:PS:=(ak (bf 4 (aI gA (d5 0 (aW)))) (ak (qIf (cV (aI nG (aF (aa 4) (aW)))) (ak (dS (de (ag (aa 1) (ag (aa 2) (aw))))) (aG)) (aG)) (ak (qIf (cV (aI nJ (aF (aa 4) (aW)))) (ak (dK 1 (aa 4)) (aG)) (aG)) (ak (qIf (cV (aI nM (aF (aa 4) (aW)))) (ak (dK 2 (ao .Sub (aa 4) (ah 256))) (aG)) (aG)) (aG)))))
section
variable{c0:List Cell}{k:Nat}{o1:List Nat}{rest xs ys:List D}{w3 w4:Slot}
theorem CH(hk:k<c0.length){x y:Cell}:(c0++[x,y])[k]?=c0[k]?:=List.getElem?_append_left hk
theorem AB(hk:k<c0.length){x y z:Cell}:(c0++[x,y]).set k z=c0.set k z++[x,y]:=List.set_append_left _ _ hk
theorem AW{x y:Cell}:(c0++[x,y])[c0.length]?=some x:=by rw[List.getElem?_append_right (Nat.le_refl _)];simp
theorem AY{x y:Cell}:(c0++[x,y])[c0.length+1]?=some y:=by rw[List.getElem?_append_right (Nat.le_succ _)];simp
theorem ph{x y z:Cell}:(c0++[x,y]).set c0.length z=c0++[z,y]:=by rw[List.set_append_right _ _ (Nat.le_refl _)];simp
theorem qt{x y z:Cell}:(c0++[x,y]).set (c0.length+1) z=c0++[x,z]:=by rw[List.set_append_right _ _ (Nat.le_succ _)];simp
theorem oy{i:Nat}(hi:i=c0.length)(h1:One o1)(hl:o1.length≤4)(hk:c0[k]?=some (.it (ntD o1++rest))):bf 4 (aI gA (d5 0 (aW))) [.ref k,.ref i,.ref (i+1),w3,w4] (c0++[.lst xs,.lst ys])=
  some (.next,[.ref k,.ref i,.ref (i+1),w3,.val (.int (valueOf 0 o1:Nat))],c0.set k (.it rest)++[.lst xs,.lst ys]):=by
 have hlt:k<c0.length:=(List.getElem?_eq_some_iff.mp hk).1
 have:=vR (c:=c0++[.lst xs,.lst ys]) h1 hl ((CH hlt).trans hk)
 rw[AB hlt]at this
 exact bk (gq (fP rfl eJ) this)
theorem qQ{n i:Nat}(h:Γ[i]?=some (.val (.int (n:Int)))):cV (aI nG (aF (aa i) (aW))) Γ c=some (decide (n=0),c):=gQ (cP (ab h) (yc n)) rfl
theorem xh{n i:Nat}(h:Γ[i]?=some (.val (.int (n:Int)))):cV (aI nJ (aF (aa i) (aW))) Γ c=some (decide (n<256),c):=gQ (cP (ab h) (yP n)) rfl
theorem wL{n i:Nat}(h:Γ[i]?=some (.val (.int (n:Int)))):cV (aI nM (aF (aa i) (aW))) Γ c=some (decide (256≤n),c):=gQ (cP (ab h) (xB n)) rfl
theorem bC{f g:PS}{Γ1 Γ2:List Slot}{c':List Cell}(h1:f Γ c=some (.next,Γ1,c1))(h2:g Γ1 c1=some (.next,Γ2,c')):ak f g Γ c=some (.next,Γ2,c'):=aN h1 h2
theorem g6{i j:Nat}{es:List D}(h:Γ[i]?=some (.ref j))(hj:c[j]?=some (.lst es)):aa i Γ c=some (.lst es,c.set j (.fz es)):=by unfold aa;rw[h];simp only[];rw[hj]
theorem zg{i:Nat}(hi:i=c0.length)(h1:One o1)(hl:o1.length≤4)(hv:valueOf 0 o1=0)(hk:c0[k]?=some (.it (ntD o1++rest))) :
  ∃Γ',Ax [.ref k,.ref i,.ref (i+1),w3,w4] (c0++[.lst xs,.lst ys])=some (.ret (.tup [.lst xs,.lst ys]),Γ',c0.set k (.it rest)++[.fz xs,.fz ys]):=by
 have hlt:k<c0.length:=(List.getElem?_eq_some_iff.mp hk).1
 have hr:=oy (w3:=w3) (w4:=w4) (xs:=xs) (ys:=ys) hi h1 hl hk
 rw[hv]at hr
 have hlen:(c0.set k (.it rest)).length=i:=by rw[List.length_set,hi]
 have g1:aa 1 [.ref k,.ref i,.ref (i+1),w3,.val (.int ((0:Nat):Int))] (c0.set k (.it rest)++[.lst xs,.lst ys])=some (.lst xs,c0.set k (.it rest)++[.fz xs,.lst ys]):=by
  refine(g6 (j:=i) rfl (by rw[←hlen];exact AW)).trans ?_
  rw[←hlen,ph]
 have g2:aa 2 [.ref k,.ref i,.ref (i+1),w3,.val (.int ((0:Nat):Int))] (c0.set k (.it rest)++[.fz xs,.lst ys])=some (.lst ys,c0.set k (.it rest)++[.fz xs,.fz ys]):=by
  refine(g6 (j:=i+1) rfl (by rw[←hlen];exact AY)).trans ?_
  rw[←hlen,qt]
 exact⟨_,aN hr (cp ((eA (qQ (n:=0) rfl)).trans (cp (dY (jw (au g1 (au g2 aB)) (Nat.le_of_ble_eq_true rfl))))))⟩
theorem zL{i:Nat}(hi:i=c0.length)(h1:One o1)(hl:o1.length≤4)(hv:valueOf 0 o1≠0∧valueOf 0 o1<256)(hk:c0[k]?=some (.it (ntD o1++rest)))(hx:xs.length≤99999) :
  Ax [.ref k,.ref i,.ref (i+1),w3,w4] (c0++[.lst xs,.lst ys])=some (.next,[.ref k,.ref i,.ref (i+1),w3,.val (.int (valueOf 0 o1:Nat))],c0.set k (.it rest)++[.lst (xs++[.int (valueOf 0 o1:Nat)]),.lst ys]):=by
 have hr:=oy (w3:=w3) (w4:=w4) (xs:=xs) (ys:=ys) hi h1 hl hk
 have hlen:(c0.set k (.it rest)).length=i:=by rw[List.length_set,hi]
 generalize valueOf 0 o1=n at hr hv
 have g:dK 1 (aa 4) [.ref k,.ref i,.ref (i+1),w3,.val (.int (n:Int))] (c0.set k (.it rest)++[.lst xs,.lst ys])=some (.next,[.ref k,.ref i,.ref (i+1),w3,.val (.int (n:Int))],c0.set k (.it rest)++[.lst (xs++[.int (n:Int)]),.lst ys]):=by
  have hg:(c0.set k (.it rest)++[.lst xs,.lst ys])[i]?=some (.lst xs):=by rw[←hlen];exact AW
  refine(jc (k:=i) rfl ⟨_,hg⟩ (ab (i:=4) rfl) hg hx).trans ?_
  rw[←hlen,ph]
 refine aN hr (bC ((dZ (g:=aG) ((qQ (n:=n) rfl).trans (by rw[decide_eq_false hv.1]))).trans rfl) (bC ((eA ((xh (n:=n) rfl).trans (by rw[decide_eq_true hv.2]))).trans (bC g rfl)) (bC ((dZ (g:=aG) ((wL (n:=n) rfl).trans (by rw[decide_eq_false (by(first|lia|omega))]))).trans rfl) rfl)))
theorem yq{i:Nat}(hi:i=c0.length)(h1:One o1)(hl:o1.length≤4)(hv:256≤valueOf 0 o1)(hk:c0[k]?=some (.it (ntD o1++rest)))(hx:ys.length≤99999) :
  Ax [.ref k,.ref i,.ref (i+1),w3,w4] (c0++[.lst xs,.lst ys])=some (.next,[.ref k,.ref i,.ref (i+1),w3,.val (.int (valueOf 0 o1:Nat))],c0.set k (.it rest)++[.lst xs,.lst (ys++[.int (valueOf 0 o1 - 256:Nat)])]):=by
 have hr:=oy (w3:=w3) (w4:=w4) (xs:=xs) (ys:=ys) hi h1 hl hk
 have hlen:(c0.set k (.it rest)).length=i:=by rw[List.length_set,hi]
 generalize valueOf 0 o1=n at hr hv
 have g:dK 2 (ao .Sub (aa 4) (ah 256)) [.ref k,.ref i,.ref (i+1),w3,.val (.int (n:Int))] (c0.set k (.it rest)++[.lst xs,.lst ys])=some (.next,[.ref k,.ref i,.ref (i+1),w3,.val (.int (n:Int))],c0.set k (.it rest)++[.lst xs,.lst (ys++[.int ((n - 256:Nat):Int)])]):=by
  have hg:(c0.set k (.it rest)++[.lst xs,.lst ys])[i+1]?=some (.lst ys):=by rw[←hlen];exact AY
  refine(jc (k:=i+1) rfl ⟨_,hg⟩ (aT (op:=.Sub) (ab (i:=4) rfl) ay jh) hg hx).trans ?_
  rw[←hlen,qt,show (n:Int) - 256=((n - 256:Nat):Int)by(first|lia|omega)]
 refine aN hr (bC ((dZ (g:=aG) ((qQ (n:=n) rfl).trans (by rw[decide_eq_false (by(first|lia|omega))]))).trans rfl) (bC ((dZ (g:=aG) ((xh (n:=n) rfl).trans (by rw[decide_eq_false (by(first|lia|omega))]))).trans rfl) (bC ((eA ((wL (n:=n) rfl).trans (by rw[decide_eq_true hv]))).trans (bC g rfl)) rfl)))
end
theorem kH{k i:Nat}{rest:List D}:∀(ns os:List Nat) (ds:List D) (c0:List Cell) (xs ys:List Nat) (w3 w4:Slot),i=c0.length→zC (ns++[0]) os→(∀n∈ns,n≠0)→ns.length<ds.length→xs.length+ys.length+ns.length≤1000→c0[k]?=some (.it (ntD os++rest))→
  ∃Γ',bG (.n 3) Ax ds [.ref k,.ref i,.ref (i+1),w3,w4] (c0++[.lst (ntD xs),.lst (ntD ys)])=some (.ret (.tup [av (xs++ns.filter (·<256)),av (ys++(ns.filter (256≤·)).map (· - 256))]),Γ',c0.set k (.it rest)++[.fz (ntD (xs++ns.filter (·<256))),.fz (ntD (ys++(ns.filter (256≤·)).map (· - 256)))])
 | [],os,ds',c0,xs,ys,w3,w4,hi,he,_,hl,_,hk=>by
  obtain⟨d,ds,rfl⟩:=List.exists_cons_of_length_pos (Nat.lt_of_le_of_lt (Nat.zero_le _) hl)
  clear hl
  obtain⟨o1,os2,rfl,h1,hl,hv,h2⟩:=he
  have h2':os2=[]:=h2
  subst h2'
  rw[List.append_nil]at hk
  obtain⟨Γ',e⟩:=zg (xs:=ntD xs) (ys:=ntD ys) (w3:=.val d) (w4:=w4) hi h1 hl hv hk
  refine⟨Γ',ye rfl ?_⟩
  simp only[List.filter_nil,List.map_nil,List.append_nil]
  exact e
 | n::ns,os,ds',c0,xs,ys,w3,w4,hi,he,hn,hl,hs,hk=>by
  obtain⟨d,ds,rfl⟩:=List.exists_cons_of_length_pos (Nat.lt_of_le_of_lt (Nat.zero_le _) hl)
  obtain⟨o1,os2,rfl,h1,h4,hv,h2⟩:=he
  have hk':c0[k]?=some (.it (ntD o1++(ntD os2++rest))):=by rw[hk,←iQ,List.append_assoc]
  have hlt:k<c0.length:=(List.getElem?_eq_some_iff.mp hk).1
  have h0:=hn n (.head _)
  rw[List.length_cons]at hl hs
  rw[List.length_cons]at hl
  by_cases hlow:n<256
  ·obtain⟨Γ',e⟩:=kH (k:=k) (i:=i) (rest:=rest) ns os2 ds (c0.set k (.it (ntD os2++rest))) (xs++[n]) ys (.val d) (.val (.int (n:Int))) (by rw[List.length_set];exact hi) h2 (λx hx=>hn x (.tail _ hx)) (by(first|lia|omega)) (by rw[List.length_append];simp only[List.length_cons,List.length_nil];(first|lia|omega)) (by rw[List.getElem?_set_self hlt])
   have s:=zL (xs:=ntD xs) (ys:=ntD ys) (w3:=.val d) (w4:=w4) hi h1 h4 (by rw[hv];exact⟨h0,hlow⟩) hk' (by simp only[List.length_map];(first|lia|omega))
   rw[hv,show ntD xs++[D.int (n:Int)]=ntD (xs++[n])from iQ xs [n]]at s
   rw[List.set_set]at e
   refine⟨Γ',bR rfl s (e.trans ?_)⟩
   simp only[List.filter_cons,hlow,decide_true,if_true,show ¬(256≤n)by(first|lia|omega),decide_false,Bool.false_eq_true,if_false,List.append_assoc,List.cons_append,List.nil_append]
  ·have hhigh:256≤n:=by(first|lia|omega)
   obtain⟨Γ',e⟩:=kH (k:=k) (i:=i) (rest:=rest) ns os2 ds (c0.set k (.it (ntD os2++rest))) xs (ys++[n - 256]) (.val d) (.val (.int (n:Int))) (by rw[List.length_set];exact hi) h2 (λx hx=>hn x (.tail _ hx)) (by(first|lia|omega)) (by rw[List.length_append];simp only[List.length_cons,List.length_nil];(first|lia|omega)) (by rw[List.getElem?_set_self hlt])
   have s:=yq (xs:=ntD xs) (ys:=ntD ys) (w3:=.val d) (w4:=w4) hi h1 h4 (by rw[hv];exact hhigh) hk' (by simp only[List.length_map];(first|lia|omega))
   rw[hv,show ntD ys++[D.int ((n - 256:Nat):Int)]=ntD (ys++[n - 256])from iQ ys [n - 256]]at s
   rw[List.set_set]at e
   refine⟨Γ',bR rfl s (e.trans ?_)⟩
   simp only[List.filter_cons,hlow,hhigh,decide_true,if_true,decide_false,Bool.false_eq_true,if_false,List.append_assoc,List.cons_append,List.nil_append,List.map_cons]
theorem zU:cL [.int 21]=some (eO 0 21):=tE (by decide)
theorem wX:∃R,cL [.int 21]=some R∧R.length=21:=⟨_,zU,rfl⟩
theorem wO{k:Nat}{ns os:List Nat}{rest:List D}(he:zC (ns++[0]) os)(hn:∀n∈ns,n≠0)(hl:ns.length≤20)(hk:c[k]?=some (.it (ntD os++rest))) :
  ly [.ref k] c=some (.tup [av (ns.filter (·<256)),av ((ns.filter (256≤·)).map (· - 256))],c.set k (.it rest)):=by
 obtain⟨R,hR,hR2⟩:=wX
 obtain⟨Γ',e⟩:=kH (i:=c.length) ns os R c [] [] .un .un rfl he hn (by(first|lia|omega)) (by simp;(first|lia|omega)) hk
 have hq:oW [.ref k,.un,.un,.un,.un] c=some (.ret (.tup [av (ns.filter (·<256)),av ((ns.filter (256≤·)).map (· - 256))]),Γ',c.set k (.it rest)++[.fz (ntD (ns.filter (·<256))),.fz (ntD ((ns.filter (256≤·)).map (· - 256)))]):=
  aN (Γ1:=[.ref k,.ref c.length,.ref (c.length+1),.un,.un]) (c1:=c++[.lst [],.lst []]) rfl (cp (qU (ds:=R) (c1:=c++[.lst [],.lst []]) (fL (au (ay (i:=21)) aB) hR) e))
 unfold ly cB
 have hone:[Slot.ref k].length=1:=rfl
 rw[if_pos hone]
 have hs:setFrom 0 [.ref k] (List.replicate 5 .un)=[.ref k,.un,.un,.un,.un]:=rfl
 rw[hs,hq]
 show (some (_,(c.set k (.it rest)++[_,_]).take c.length):Option (D×List Cell))=_
 rw[List.take_append_of_le_length (by rw[List.length_set];exact Nat.le_refl _),List.take_of_length_le (by rw[List.length_set];exact Nat.le_refl _)]
end
end Mine
namespace Mine
section
variable{Γ:List Slot}{c c1 c2 c3:List Cell}{p q r:PE}{ps:PL}{d a b:D}{ds:List D}{α:Type}
noncomputable abbrev dx:=List Nat
noncomputable def fA:dx→Prop
 | [c]=>c≠92
 | [c,_]=>c=92
 | _=>False
noncomputable def dG:Nat→List dx→List D
 | _,[]=>[]
 | p,t::ts=>.tup [.int ((p+t.length - 1:Nat):Int),aE t]::dG (p+t.length) ts
noncomputable def cF:Nat→List Nat→List (Nat×Nat)
 | _,[]=>[]
 | p,c::cs=>(p,c)::cF (p+1) cs
theorem Be:∀(p:Nat) (l:List Nat),cF p l=(List.range l.length).map λk=>(p+k,l.getD k 0)
 | _,[]=>rfl
 | p,c::cs=>by
  rw[cF,Be (p+1) cs,List.length_cons,List.range_succ_eq_map,List.map_cons,List.map_map]
  congr 1
  apply List.map_congr_left
  intro k _
  show (p+1+k,cs.getD k 0)=(p+(k+1),(c::cs).getD (k+1) 0)
  rw[show p+1+k=p+(k+1)by(first|lia|omega)];rfl
theorem wJ(l:List Nat):dp (bc l)=cF 0 l:=by
 rw[Be]
 unfold dp
 simp
theorem BK:∀(p:Nat) (x y:List Nat),cF p (x++y)=cF p x++cF (p+x.length) y
 | _,[],y=>by simp[cF]
 | p,c::x,y=>by rw[List.cons_append,cF,cF,BK (p+1) x y,List.cons_append,List.length_cons,show p+1+x.length=p+(x.length+1)by(first|lia|omega)]
theorem qH:∀(ts:List dx) (p q:Nat),(∀t∈ts,fA t)→bA false (cF p ts.flatten) q=dG p ts
 | [],_,_,_=>rfl
 | t::ts,p,q,h=>by
  have ht:=h t (.head _)
  have ih:=λp q=>qH ts p q λx hx=>h x (.tail _ hx)
  match t,ht with
  | [c],ht=>
   have hc:c≠92:=ht
   rw[List.flatten_cons,List.cons_append,List.nil_append,cF,bA,if_neg hc,ih,dG]
   rfl
  | [c,e],ht=>
   have hc:c=92:=ht
   subst hc
   rw[List.flatten_cons,List.cons_append,List.cons_append,List.nil_append,cF,cF,bA,if_pos rfl,bA,ih,dG]
   rfl
theorem fZ{ts:List dx}(h:∀t∈ts,fA t):escaped (bc ts.flatten)=dG 0 ts:=by
 unfold escaped
 rw[wJ,qH ts 0 0 h]
noncomputable def uT:List dx→Bool→List dx→List dx→List dx
 | [],false,U,_=>U
 | [],true,U,tail=>U++tail
 | t::ts,false,U,tail=>if t=[34]then uT ts true U [[34]]else uT ts false (U++[t]) tail
 | t::ts,true,U,tail=>if t=[34]then uT ts false U []else uT ts true U (tail++[t])
theorem nO:∀(ts:List dx) (q:Bool) (U tail:List dx),(∀t∈ts,fA t)→(∀t∈U,fA t)→(∀t∈tail,fA t)→∀t∈uT ts q U tail,fA t
 | [],false,U,_,_,h,_=>h
 | [],true,U,tail,_,h1,h2=>λt ht=>(List.mem_append.mp ht).elim (h1 t) (h2 t)
 | t::ts,false,U,tail,h,h1,h2=>by
  unfold uT
  split
  ·exact nO ts true U _ (λx hx=>h x (.tail _ hx)) h1 (by intro x hx;rw[List.mem_singleton.mp hx];show (34:Nat)≠92;decide)
  ·exact nO ts false _ tail (λx hx=>h x (.tail _ hx)) (λx hx=>(List.mem_append.mp hx).elim (h1 x) λhx=>by rw[List.mem_singleton.mp hx];exact h t (.head _)) h2
 | t::ts,true,U,tail,h,h1,h2=>by
  unfold uT
  split
  ·exact nO ts false U _ (λx hx=>h x (.tail _ hx)) h1 (by intro x hx;cases hx)
  ·exact nO ts true U _ (λx hx=>h x (.tail _ hx)) h1 (λx hx=>(List.mem_append.mp hx).elim (h2 x) λhx=>by rw[List.mem_singleton.mp hx];exact h t (.head _))
theorem ko:∀(ts:List dx) (q:Bool) (U tail:List dx),(q=false→tail=[])→(uT ts q U tail).flatten.length≤U.flatten.length+tail.flatten.length+ts.flatten.length
 | [],false,U,tail,_=>by unfold uT;(first|lia|omega)
 | [],true,U,tail,_=>by unfold uT;rw[List.flatten_append,List.length_append];(first|lia|omega)
 | t::ts,false,U,tail,h=>by
  unfold uT
  rw[List.flatten_cons,List.length_append]
  split
  ·rename_i e
   have:=ko ts true U [[34]] (λq=>by cases q)
   subst e
   simp only[List.flatten_cons,List.flatten_nil,List.length_cons,List.length_nil,List.length_append]at this⊢
   (first|lia|omega)
  ·have:=ko ts false (U++[t]) tail h
   simp only[List.flatten_append,List.flatten_cons,List.flatten_nil,List.length_append,List.length_nil,List.append_nil]at this
   (first|lia|omega)
 | t::ts,true,U,tail,h=>by
  unfold uT
  rw[List.flatten_cons,List.length_append]
  split
  ·have:=ko ts false U [] (λ_=>rfl)
   simp only[List.flatten_nil,List.length_nil]at this
   (first|lia|omega)
  ·have:=ko ts true U (tail++[t]) (λq=>by cases q)
   simp only[List.flatten_append,List.flatten_cons,List.flatten_nil,List.length_append,List.length_nil,List.append_nil]at this
   (first|lia|omega)
noncomputable abbrev Ah:PS:=(ak (qIf (aD .Eq (aa 5) (aZ ⟨#[34]⟩)) (ak (qIf (aD .Is (aa 2) (fN)) (ak (bf 2 (aa 4)) (aG)) (ak (qIf (aD .NotEq (aa 1) (aa 2)) (ak (dK 3 (aV (aa 0) (aP (aa 1)) (aP (aa 2)) (aA))) (aG)) (aG)) (ak (bf 1 (ao .Add (aa 4) (ah 1))) (ak (bf 2 (fN)) (aG))))) (aG)) (aG)) (aG))
theorem pJ{x:Str}{lo hi:Option Int}(h:x.length≤100000):kx (.str x) lo hi none=some (.str (Txt.slice x lo hi)):=if_pos ⟨rfl,h⟩
theorem Cf{a b:Int}:fy .NotEq (.int a) (.int b)=some (a != b):=rfl
theorem uR{l:List Nat}{a b:Nat}(h:a≤b)(hb:b≤l.length):Txt.slice (bc l) (some (a:Int)) (some (b:Int))=bc ((l.drop a).take (b - a)):=by
 have:=StrLaws.sliceText_nat (bc l) h (by rw[len_str];exact hb)
 exact this
theorem mG{l:List Nat}{a:Nat}(h:a≤l.length):Txt.slice (bc l) (some (a:Int)) none=bc (l.drop a):=by
 have:=StrLaws.sliceText_from (x:=bc l) (i:=(a:Int)) ⟨by(first|lia|omega),by show (a:Int)≤(l.length:Nat);(first|lia|omega)⟩
 refine Eq.trans this ?_
 simp
 exact List.take_of_length_le (by rw[List.length_drop];exact Nat.le_refl _)
theorem wo{t:dx}:fy .Eq (aE t) (.str ⟨#[34]⟩)=some (decide (t=[34])):=by
 show some (decide (bc t=⟨#[34]⟩))=_
 congr 1
 apply decide_eq_decide.mpr
 constructor
 ·intro h
  have:=congrArg (λx:Str=>x.cps.toList) h
  simpa using this
 ·rintro rfl;rfl
theorem A9{w0 w1 w2 w3 w4:Slot}{t:dx}(h:t≠[34]):Ah [w0,w1,w2,w3,w4,.val (aE t)] c=some (.next,[w0,w1,w2,w3,w4,.val (aE t)],c):=
 bC ((dZ (g:=aG) ((bb (ab (i:=5) rfl) bF wo).trans (by rw[decide_eq_false h]))).trans rfl) rfl
theorem Cg{w0 w1 w3:Slot}{P:Nat}:Ah [w0,w1,.val .none,w3,.val (.int (P:Int)),.val (aE [34])] c=some (.next,[w0,w1,.val (.int (P:Int)),w3,.val (.int (P:Int)),.val (aE [34])],c):=
 bC ((eA ((bb (ab (i:=5) rfl) bF wo).trans rfl)).trans (bC ((eA (bb (ab (i:=2) rfl) gS rfl)).trans (bC (bk (ab (i:=4) rfl)) rfl)) rfl)) rfl
theorem AQ{X:List Nat}{res:List (List Nat)}{s o P:Nat}(hX:X.length≤1000)(ho:s≤o∧o≤X.length)(hr:res.length≤5000) :
  ∃res':List (List Nat),Ah [.val (aE X),.val (.int (s:Int)),.val (.int (o:Int)),.ref 0,.val (.int (P:Int)),.val (aE [34])] [.lst (res.map aE)]=
   some (.next,[.val (aE X),.val (.int ((P+1:Nat):Int)),.val .none,.ref 0,.val (.int (P:Int)),.val (aE [34])],[.lst (res'.map aE)])∧res'.flatten=res.flatten++(X.drop s).take (o - s)∧res'.length≤res.length+1:=by
 have tail:∀c:List Cell,(ak (bf 1 (ao .Add (aa 4) (ah 1))) (ak (bf 2 (fN)) (aG))) [.val (aE X),.val (.int (s:Int)),.val (.int (o:Int)),.ref 0,.val (.int (P:Int)),.val (aE [34])] c=
   some (.next,[.val (aE X),.val (.int ((P+1:Nat):Int)),.val .none,.ref 0,.val (.int (P:Int)),.val (aE [34])],c):=λc=>
  bC (bk (dA (ab (i:=4) rfl) (ay (i:=((1:Nat):Int))))) (bC (bk gS) rfl)
 have h1:aD .Eq (aa 5) (aZ ⟨#[34]⟩) [.val (aE X),.val (.int (s:Int)),.val (.int (o:Int)),.ref 0,.val (.int (P:Int)),.val (aE [34])] [.lst (res.map aE)]=some (true,[.lst (res.map aE)]):=(bb (ab (i:=5) rfl) bF wo).trans rfl
 have h2:aD .Is (aa 2) (fN) [.val (aE X),.val (.int (s:Int)),.val (.int (o:Int)),.ref 0,.val (.int (P:Int)),.val (aE [34])] [.lst (res.map aE)]=some (false,[.lst (res.map aE)]):=bb (ab (i:=2) rfl) gS rfl
 have h3:aD .NotEq (aa 1) (aa 2) [.val (aE X),.val (.int (s:Int)),.val (.int (o:Int)),.ref 0,.val (.int (P:Int)),.val (aE [34])] [.lst (res.map aE)]=some (decide (s≠o),[.lst (res.map aE)]):=by
  refine(bb (ab (i:=1) rfl) (ab (i:=2) rfl) Cf).trans ?_
  congr 2
  by_cases h:s=o
  ·subst h;simp
  ·have:¬((s:Int)=(o:Int)):=by(first|lia|omega)
   simp[h,this]
 by_cases he:s=o
 ·refine⟨res,?_,?_,by(first|lia|omega)⟩
  ·exact bC ((eA h1).trans (bC ((dZ h2).trans (aN (Γ1:=[.val (aE X),.val (.int (s:Int)),.val (.int (o:Int)),.ref 0,.val (.int (P:Int)),.val (aE [34])]) (c1:=[.lst (res.map aE)]) ((dZ (g:=aG) (h3.trans (by simp[he]))).trans rfl) (tail _))) rfl)) rfl
  ·rw[he,Nat.sub_self,List.take_zero,List.append_nil]
 ·refine⟨res++[(X.drop s).take (o - s)],?_,?_,?_⟩
  ·have ha:dK 3 (aV (aa 0) (aP (aa 1)) (aP (aa 2)) (aA)) [.val (aE X),.val (.int (s:Int)),.val (.int (o:Int)),.ref 0,.val (.int (P:Int)),.val (aE [34])] [.lst (res.map aE)]=some (.next,[.val (aE X),.val (.int (s:Int)),.val (.int (o:Int)),.ref 0,.val (.int (P:Int)),.val (aE [34])],[.lst ((res++[(X.drop s).take (o - s)]).map aE)]):=by
    refine(jc (k:=0) rfl ⟨_,rfl⟩ (cS (ab (i:=0) rfl) (cx (ab (i:=1) rfl)) (cx (ab (i:=2) rfl)) bp (pJ (by rw[len_str];(first|lia|omega)))) rfl (by rw[List.length_map];(first|lia|omega))).trans ?_
    rw[uR ho.1 ho.2,List.map_append];rfl
   exact bC ((eA h1).trans (bC ((dZ h2).trans (aN ((eA (h3.trans (by simp[he]))).trans (bC ha rfl)) (tail _))) rfl)) rfl
  ·rw[List.flatten_append,List.flatten_cons,List.flatten_nil,List.append_nil]
  ·rw[List.length_append];exact Nat.le_refl _
end
end Mine
namespace Mine
section
variable{Γ:List Slot}{c c1 c2 c3:List Cell}{p q r:PE}{ps:PL}{d a b:D}{ds:List D}{α:Type}
noncomputable def DZ(A:List Nat)(res:List (List Nat))(s:Nat):Option Nat→List dx→List dx→Prop
 | none,U,tail=>s≤A.length∧U.flatten=res.flatten++A.drop s∧tail=[]
 | some o,U,tail=>(s≤o∧o≤A.length)∧U.flatten=res.flatten++(A.take o).drop s∧tail.flatten=A.drop o
noncomputable def opD:Option Nat→D
 | none=>.none
 | some o=>.int (o:Int)
theorem gp{X:List Nat}(hX:X.length≤1000):∀(ts:List dx) (A:List Nat) (res:List (List Nat)) (s:Nat) (o:Option Nat) (U tail:List dx) (w4 w5:Slot),X=A++ts.flatten→(∀t∈ts,fA t)→DZ A res s o U tail→res.length+ts.length≤3000→
  ∃(res':List (List Nat)) (s':Nat) (o':Option Nat) (w4' w5':Slot),bG (.t [4,5]) Ah (dG A.length ts) [.val (aE X),.val (.int (s:Int)),.val (opD o),.ref 0,w4,w5] [.lst (res.map aE)]=
   some (.next,[.val (aE X),.val (.int (s':Int)),.val (opD o'),.ref 0,w4',w5'],[.lst (res'.map aE)])∧s'≤X.length∧res'.flatten++X.drop s'=(uT ts o.isSome U tail).flatten∧res'.length≤3000
 | [],A,res,s,o,U,tail,w4,w5,hA,_,hs,hl=>by
  have hA':X=A:=by rw[hA];simp
  subst hA'
  refine⟨res,s,o,w4,w5,rfl,?_,?_,by simp at hl;(first|lia|omega)⟩
  ·cases o with
   | none=>exact hs.1
   | some o=>have:=hs.1;(first|lia|omega)
  ·cases o with
   | none=>
    obtain⟨h1,h2,h3⟩:=hs
    show _=U.flatten
    rw[h2]
   | some o=>
    obtain⟨h1,h2,h3⟩:=hs
    show _=(U++tail).flatten
    rw[List.flatten_append,h2,h3,List.append_assoc]
    congr 1
    rw[List.drop_take]
    have:X.drop o=(X.drop s).drop (o - s):=by rw[List.drop_drop];congr 1;(first|lia|omega)
    rw[this,List.take_append_drop]
 | t::ts,A,res,s,o,U,tail,w4,w5,hA,ht,hs,hl=>by
  have htok:=ht t (.head _)
  have hlen:1≤t.length:=by
   match t,htok with
   | [_],_=>exact Nat.le_refl _
   | [_,_],_=>exact Nat.le_succ _
  rw[List.flatten_cons]at hA
  have hA2:X=(A++t)++ts.flatten:=by rw[hA,List.append_assoc]
  have hl2:A.length+t.length≤X.length:=by rw[hA];simp
  rw[List.length_cons]at hl
  rw[dG]
  by_cases h34:t=[34]
  ·subst h34
   have hpos:A.length+[34].length - 1=A.length:=by simp
   rw[hpos]
   cases o with
   | none=>
    obtain⟨h1,h2,h3⟩:=hs
    obtain⟨res',s',o',w4',w5',e,r1,r2,r3⟩:=gp hX ts (A++[34]) res s (some A.length) U [[34]] (.val (.int (A.length:Int))) (.val (aE [34])) hA2 (λx hx=>ht x (.tail _ hx))
     ⟨⟨h1,by simp⟩,by rw[h2,List.take_left' rfl],by rw[List.drop_left' rfl];rfl⟩ (by(first|lia|omega))
    refine⟨res',s',o',w4',w5',bR rfl Cg ?_,r1,?_,r3⟩
    ·rw[List.length_append]at e;exact e
    ·rw[r2]
     show _=(uT ([34]::ts) false U tail).flatten
     rw[uT,if_pos rfl];rfl
   | some o=>
    obtain⟨h1,h2,h3⟩:=hs
    obtain⟨res1,e1,e2,e3⟩:=AQ (P:=A.length) hX ⟨h1.1,Nat.le_trans h1.2 (by(first|lia|omega))⟩ (res:=res) (by(first|lia|omega))
    have hU:U.flatten=res1.flatten++(A++[34]).drop (A.length+1):=by
     rw[List.drop_eq_nil_of_le (by simp),List.append_nil,e2,h2]
     congr 1
     rw[hA,List.drop_append_of_le_length (by(first|lia|omega)),List.take_append_of_le_length (by rw[List.length_drop];(first|lia|omega)),List.drop_take]
    obtain⟨res',s',o',w4',w5',e,r1,r2,r3⟩:=gp hX ts (A++[34]) res1 (A.length+1) none U [] (.val (.int (A.length:Int))) (.val (aE [34])) hA2 (λx hx=>ht x (.tail _ hx))
     ⟨by simp,hU,rfl⟩ (by(first|lia|omega))
    refine⟨res',s',o',w4',w5',bR rfl e1 ?_,r1,?_,r3⟩
    ·rw[List.length_append]at e;exact e
    ·rw[r2]
     show _=(uT ([34]::ts) true U tail).flatten
     rw[uT,if_pos rfl];rfl
  ·cases o with
   | none=>
    obtain⟨h1,h2,h3⟩:=hs
    obtain⟨res',s',o',w4',w5',e,r1,r2,r3⟩:=gp hX ts (A++t) res s none (U++[t]) tail (.val (.int ((A.length+t.length - 1:Nat):Int))) (.val (aE t)) hA2 (λx hx=>ht x (.tail _ hx))
     ⟨by rw[List.length_append];(first|lia|omega),by rw[List.flatten_append,h2,List.flatten_cons,List.flatten_nil,List.append_nil,List.drop_append_of_le_length h1,List.append_assoc],h3⟩ (by(first|lia|omega))
    refine⟨res',s',o',w4',w5',bR rfl (A9 h34) ?_,r1,?_,r3⟩
    ·rw[List.length_append]at e;exact e
    ·rw[r2]
     show _=(uT (t::ts) false U tail).flatten
     rw[uT,if_neg h34];rfl
   | some o=>
    obtain⟨h1,h2,h3⟩:=hs
    obtain⟨res',s',o',w4',w5',e,r1,r2,r3⟩:=gp hX ts (A++t) res s (some o) U (tail++[t]) (.val (.int ((A.length+t.length - 1:Nat):Int))) (.val (aE t)) hA2 (λx hx=>ht x (.tail _ hx))
     ⟨⟨h1.1,by rw[List.length_append];(first|lia|omega)⟩,by rw[h2,List.take_append_of_le_length h1.2],by rw[List.flatten_append,h3,List.flatten_cons,List.flatten_nil,List.append_nil,List.drop_append_of_le_length h1.2]⟩ (by(first|lia|omega))
    refine⟨res',s',o',w4',w5',bR rfl (A9 h34) ?_,r1,?_,r3⟩
    ·rw[List.length_append]at e;exact e
    ·rw[r2]
     show _=(uT (t::ts) true U tail).flatten
     rw[uT,if_neg h34];rfl
theorem toks_le:∀ts:List dx,(∀t∈ts,fA t)→ts.length≤ts.flatten.length
 | [],_=>Nat.le_refl _
 | t::ts,h=>by
  have ih:=toks_le ts λx hx=>h x (.tail _ hx)
  have ht:=h t (.head _)
  rw[List.flatten_cons,List.length_append,List.length_cons]
  match t,ht with
  | [_],_=>simp only[List.length_cons,List.length_nil];(first|lia|omega)
  | [_,_],_=>simp only[List.length_cons,List.length_nil];(first|lia|omega)
theorem sZ:∀(ts:List dx) (U:List dx),(34:Nat)∉ts.flatten→uT ts false U []=U++ts
 | [],U,_=>by simp[uT]
 | t::ts,U,h=>by
  rw[List.flatten_cons]at h
  have h1:t≠[34]:=by rintro rfl;exact h (by simp)
  rw[uT,if_neg h1,sZ ts _ λq=>h (List.mem_append_right _ q),List.append_assoc];rfl
theorem qr{ts:List dx}(ht:∀t∈ts,fA t)(hX:ts.flatten.length≤1000):sN [aE ts.flatten]=some (aE (uT ts false [] []).flatten):=by
 have hn:aD .NotIn (aZ ⟨#[34]⟩) (aa 0) [.val (aE ts.flatten),.un,.un,.un,.un,.un] []=some (!decide ((34:Nat)∈ts.flatten),[]):=bb bF (ab (i:=0) rfl) rfl
 by_cases h34:(34:Nat)∈ts.flatten
 ·obtain⟨res',s',o',w4',w5',e,r1,r2,r3⟩:=gp hX ts [] [] 0 none [] [] .un .un (by simp) ht ⟨Nat.le_refl _,rfl,rfl⟩ (by have:=toks_le ts ht;simp;(first|lia|omega))
  have hu:(uT ts false [] []).flatten.length≤1000:=by
   have:=ko ts false [] [] (λ_=>rfl)
   rw[List.flatten_nil,List.length_nil]at this
   (first|lia|omega)
  have e2:(uT ts (Option.isSome (none:Option Nat)) [] [])=uT ts false [] []:=rfl
  rw[e2]at r2
  have rl:res'.flatten.length≤1000:=by
   have:=congrArg List.length r2
   rw[List.length_append]at this;(first|lia|omega)
  have hlt:aD .Lt (aa 1) (bo d9 (ag (aa 0) (aw))) [.val (aE ts.flatten),.val (.int (s':Int)),.val (opD o'),.ref 0,w4',w5'] [.lst (res'.map aE)]=some (decide (s'<ts.flatten.length),[.lst (res'.map aE)]):=by
   refine(bb (ab (i:=1) rfl) (cy (au (ab (i:=0) rfl) aB) (if_pos (by rw[len_str];(first|lia|omega)))) zy).trans ?_
   rw[len_str]
   congr 2
   exact decide_eq_decide.mpr (by(first|lia|omega))
  have fin:∀(rs:List (List Nat)) (Γ1:List Slot),Γ1[3]?=some (.ref 0)→rs.flatten=(uT ts false [] []).flatten→∃c',ak (dS (bO "str" dg (aZ ⟨#[]⟩) (ag (aa 3) (aw)))) (aG) Γ1 [.lst (rs.map aE)]=some (.ret (aE (uT ts false [] []).flatten),Γ1,c'):=by
   intro rs Γ1 h3 hr
   refine⟨[.fz (rs.map aE)],?_⟩
   have:=jH (ls:=rs) (c1:=[.fz (rs.map aE)]) (g6 (i:=3) (c:=[.lst (rs.map aE)]) h3 rfl) (by rw[hr];(first|lia|omega))
   rw[hr]at this
   exact cp (dY this)
  have hloop:∀r,ak (qIf (aD .Lt (aa 1) (bo d9 (ag (aa 0) (aw)))) (ak (dK 3 (aV (aa 0) (aP (aa 1)) (aA) (aA))) (aG)) (aG)) (ak (dS (bO "str" dg (aZ ⟨#[]⟩) (ag (aa 3) (aw)))) (aG)) [.val (aE ts.flatten),.val (.int (s':Int)),.val (opD o'),.ref 0,w4',w5'] [.lst (res'.map aE)]=r→
    oU [.val (aE ts.flatten),.un,.un,.un,.un,.un] []=r:=λr hr=>
   aN ((dZ (g:=aG) (hn.trans (by simp[h34]))).trans rfl) (aN (bk (ay (i:=0))) (aN (bk gS) (aN (Γ1:=[.val (aE ts.flatten),.val (.int 0),.val .none,.ref 0,.un,.un]) (c1:=[.lst []]) (iK (c:=[]) aB (by decide)) (aN (iG (ds:=dG 0 ts) (c1:=[.lst []]) ((oE (ab (i:=0) rfl)).trans (by rw[fZ ht])) e rfl) hr))))
  by_cases hs:s'<ts.flatten.length
  ·obtain⟨c',hf⟩:=fin (res'++[ts.flatten.drop s']) [.val (aE ts.flatten),.val (.int (s':Int)),.val (opD o'),.ref 0,w4',w5'] rfl (by rw[List.flatten_append,List.flatten_cons,List.flatten_nil,List.append_nil];exact r2)
   have ha:dK 3 (aV (aa 0) (aP (aa 1)) (aA) (aA)) [.val (aE ts.flatten),.val (.int (s':Int)),.val (opD o'),.ref 0,w4',w5'] [.lst (res'.map aE)]=some (.next,[.val (aE ts.flatten),.val (.int (s':Int)),.val (opD o'),.ref 0,w4',w5'],[.lst ((res'++[ts.flatten.drop s']).map aE)]):=by
    refine(jc (k:=0) rfl ⟨_,rfl⟩ (cS (ab (i:=0) rfl) (cx (ab (i:=1) rfl)) bp bp (pJ (by rw[len_str];(first|lia|omega)))) rfl (by rw[List.length_map];(first|lia|omega))).trans ?_
    rw[mG r1,List.map_append];rfl
   exact cu rfl (hloop _ (aN ((eA (hlt.trans (by rw[decide_eq_true hs]))).trans (bC ha rfl)) hf))
  ·obtain⟨c',hf⟩:=fin res' [.val (aE ts.flatten),.val (.int (s':Int)),.val (opD o'),.ref 0,w4',w5'] rfl (by rw[←r2,List.drop_eq_nil_of_le (by(first|lia|omega)),List.append_nil])
   exact cu rfl (hloop _ (aN ((dZ (g:=aG) (hlt.trans (by rw[decide_eq_false hs]))).trans rfl) hf))
 ·rw[sZ ts [] h34,List.nil_append]
  exact cu rfl (cp ((eA (hn.trans (show _=some (true,([]:List Cell))by simp[h34]))).trans (cp (dY (ab rfl)))))
end
end Mine
namespace Mine
section
variable{Γ:List Slot}{c c1 c2 c3:List Cell}{p q r:PE}{ps:PL}{d a b:D}{ds:List D}{α:Type}
noncomputable def dF:Nat→List dx→Bool
 | n,[]=>n==0
 | n,t::ts=>if t=[40]then dF (n+1) ts else if t=[41]then(if n=0 then false else dF (n - 1) ts)else dF n ts
noncomputable abbrev vw:PS:=(ak (qIf (aD .Eq (aa 3) (aZ ⟨#[40]⟩)) (ak (f6 1 .Add (ah 1)) (aG)) (ak (qIf (aD .Eq (aa 3) (aZ ⟨#[41]⟩)) (ak (f6 1 .Sub (ah 1)) (ak (qIf (aD .Lt (aa 1) (ah 0)) (ak (dS (b7 false)) (aG)) (aG)) (aG))) (aG)) (aG))) (aG))
theorem BP{t:dx}{ch:Nat}:fy .Eq (aE t) (.str ⟨#[ch]⟩)=some (decide (t=[ch])):=by
 show some (decide (bc t=⟨#[ch]⟩))=_
 congr 1
 apply decide_eq_decide.mpr
 constructor
 ·intro h
  have:=congrArg (λx:Str=>x.cps.toList) h
  simpa using this
 ·rintro rfl;rfl
theorem sI{i:Nat}{a b:Int}(h0:Γ[i]?=some (.val (.int a)))(h:p Γ c=some (.int b,c1)):f6 i .Add p Γ c=some (.next,aS i (.int (a+b)) Γ,c1):=pz h0 h rfl
theorem t6{i:Nat}{a b:Int}(h0:Γ[i]?=some (.val (.int a)))(h:p Γ c=some (.int b,c1)):f6 i .Sub p Γ c=some (.next,aS i (.int (a - b)) Γ,c1):=pz h0 h rfl
theorem eu{f:PS}:ak f aG Γ c=f Γ c:=by
 unfold ak
 cases f Γ c with
 | none=>rfl
 | some x=>
  obtain⟨fl,Γ1,c1⟩:=x
  cases fl<;>rfl
theorem iY{w0:Slot}:∀(ts:List dx) (n p:Nat) (w2 w3:Slot),
  (dF n ts=false∧∃Γ',bG (.t [2,3]) vw (dG p ts) [w0,.val (.int (n:Int)),w2,w3] c=some (.ret (.bool false),Γ',c))∨
  (∃(m:Nat) (w2' w3':Slot),dF n ts=(m==0)∧bG (.t [2,3]) vw (dG p ts) [w0,.val (.int (n:Int)),w2,w3] c=some (.next,[w0,.val (.int (m:Int)),w2',w3'],c))
 | [],n,p,w2,w3=>.inr ⟨n,w2,w3,rfl,rfl⟩
 | t::ts,n,p,w2,w3=>by
  rw[dG]
  have e0:∀ch:Nat,aD .Eq (aa 3) (aZ ⟨#[ch]⟩) [w0,.val (.int (n:Int)),.val (.int ((p+t.length - 1:Nat):Int)),.val (aE t)] c=some (decide (t=[ch]),c):=λch=>bb (ab (i:=3) rfl) bF BP
  by_cases h40:t=[40]
  ·have hb:dF n (t::ts)=dF (n+1) ts:=by rw[dF,if_pos h40]
   have hs:vw [w0,.val (.int (n:Int)),.val (.int ((p+t.length - 1:Nat):Int)),.val (aE t)] c=some (.next,[w0,.val (.int ((n+1:Nat):Int)),.val (.int ((p+t.length - 1:Nat):Int)),.val (aE t)],c):=
    bC ((eA ((e0 40).trans (by rw[decide_eq_true h40]))).trans (bC (sI rfl (ay (i:=((1:Nat):Int)))) rfl)) rfl
   rcases iY ts (n+1) (p+t.length) (.val (.int ((p+t.length - 1:Nat):Int))) (.val (aE t))with⟨h1,Γ',h2⟩|⟨m,w2',w3',h1,h2⟩
   ·exact .inl ⟨hb.trans h1,Γ',bR rfl hs h2⟩
   ·exact .inr ⟨m,w2',w3',hb.trans h1,bR rfl hs h2⟩
  ·by_cases h41:t=[41]
   ·have hsub:∀r,ak (f6 1 .Sub (ah 1)) (ak (qIf (aD .Lt (aa 1) (ah 0)) (ak (dS (b7 false)) (aG)) (aG)) (aG)) [w0,.val (.int (n:Int)),.val (.int ((p+t.length - 1:Nat):Int)),.val (aE t)] c=r→vw [w0,.val (.int (n:Int)),.val (.int ((p+t.length - 1:Nat):Int)),.val (aE t)] c=r:=by
     intro r hr
     refine eu.trans ((dZ ((e0 40).trans (by rw[decide_eq_false h40]))).trans (eu.trans ((eA ((e0 41).trans (by rw[decide_eq_true h41]))).trans hr)))
    have hlt:∀m:Int,aD .Lt (aa 1) (ah 0) [w0,.val (.int m),.val (.int ((p+t.length - 1:Nat):Int)),.val (aE t)] c=some (decide (m<0),c):=λm=>bb (ab (i:=1) rfl) ay zy
    cases n with
    | zero=>
     have hb:dF 0 (t::ts)=false:=by rw[dF,if_neg h40,if_pos h41,if_pos rfl]
     refine .inl ⟨hb,_,ye rfl (hsub _ (aN (t6 rfl (ay (i:=1))) (cp ((eA ((hlt _).trans (by rfl))).trans (cp (dY cm))))))⟩
    | succ m=>
     have hb:dF (m+1) (t::ts)=dF m ts:=by rw[dF,if_neg h40,if_pos h41,if_neg (Nat.succ_ne_zero m)];rfl
     have hs:vw [w0,.val (.int ((m+1:Nat):Int)),.val (.int ((p+t.length - 1:Nat):Int)),.val (aE t)] c=some (.next,[w0,.val (.int (m:Int)),.val (.int ((p+t.length - 1:Nat):Int)),.val (aE t)],c):=by
      have e:((m+1:Nat):Int) - 1=(m:Int):=by(first|lia|omega)
      have h1:f6 1 .Sub (ah 1) [w0,.val (.int ((m+1:Nat):Int)),.val (.int ((p+t.length - 1:Nat):Int)),.val (aE t)] c=some (.next,[w0,.val (.int (m:Int)),.val (.int ((p+t.length - 1:Nat):Int)),.val (aE t)],c):=by
       refine(t6 rfl (ay (i:=1))).trans ?_
       rw[e];rfl
      exact hsub _ (aN h1 (bC ((dZ (g:=aG) ((hlt _).trans (by rw[decide_eq_false (by(first|lia|omega))]))).trans rfl) rfl))
     rcases iY ts m (p+t.length) (.val (.int ((p+t.length - 1:Nat):Int))) (.val (aE t))with⟨h1,Γ',h2⟩|⟨m',w2',w3',h1,h2⟩
     ·exact .inl ⟨hb.trans h1,Γ',bR rfl hs h2⟩
     ·exact .inr ⟨m',w2',w3',hb.trans h1,bR rfl hs h2⟩
   ·have hb:dF n (t::ts)=dF n ts:=by rw[dF,if_neg h40,if_neg h41]
    have hs:vw [w0,.val (.int (n:Int)),.val (.int ((p+t.length - 1:Nat):Int)),.val (aE t)] c=some (.next,[w0,.val (.int (n:Int)),.val (.int ((p+t.length - 1:Nat):Int)),.val (aE t)],c):=
     bC ((dZ ((e0 40).trans (by rw[decide_eq_false h40]))).trans (bC ((dZ (g:=aG) ((e0 41).trans (by rw[decide_eq_false h41]))).trans rfl) rfl)) rfl
    rcases iY ts n (p+t.length) (.val (.int ((p+t.length - 1:Nat):Int))) (.val (aE t))with⟨h1,Γ',h2⟩|⟨m,w2',w3',h1,h2⟩
    ·exact .inl ⟨hb.trans h1,Γ',bR rfl hs h2⟩
    ·exact .inr ⟨m,w2',w3',hb.trans h1,bR rfl hs h2⟩
theorem my{ts:List dx}(ht:∀t∈ts,fA t)(hX:ts.flatten.length≤1000):jE [aE ts.flatten]=some (.bool (dF 0 (uT ts false [] []))):=by
 have hu:∀t∈uT ts false [] [],fA t:=nO ts false [] [] ht (by intro t h;cases h) (by intro t h;cases h)
 generalize hU:uT ts false [] []=us at hu
 have h1:bf 0 (aI lu (aF (aa 0) (aW))) [.val (aE ts.flatten),.un,.un,.un] []=some (.next,[.val (aE us.flatten),.un,.un,.un],[]):=by
  rw[←hU];exact bk (cP (ab rfl) (qr ht hX))
 rcases iY (w0:=.val (aE us.flatten)) (c:=[]) us 0 0 .un .un with⟨h2,Γ',h3⟩|⟨m,w2',w3',h2,h3⟩
 ·rw[h2]
  exact cu rfl (aN h1 (aN (bk (ay (i:=0))) (cp (qU (ds:=dG 0 us) (c1:=[]) ((oE (ab (i:=0) rfl)).trans (by rw[fZ hu])) h3))))
 ·refine cu (c':=[]) rfl (aN h1 (aN (bk (ay (i:=0))) (aN (iG (ds:=dG 0 us) (c1:=[]) ((oE (ab (i:=0) rfl)).trans (by rw[fZ hu])) h3 rfl) (cp (dY ?_)))))
  refine(gh (ab (i:=1) rfl) ay je).trans ?_
  rw[h2]
  congr 3
  cases m with
  | zero=>rfl
  | succ m=>rw[show (m+1==0)=false from rfl];exact beq_eq_false_iff_ne.mpr (by(first|lia|omega))
noncomputable def gb:Nat→List dx
 | 1=>[[92,40]]
 | 2=>[[34],[41],[34]]
 | 3=>[[92,92]]
 | 4=>[[34],[92,34],[41],[34]]
 | 5=>[[97],[92,34]]
 | 6=>[[34],[34]]
 | _=>[]
noncomputable def dO:Nat→List dx
 | 1=>[[92,40]]
 | 3=>[[92,92]]
 | 5=>[[97],[92,34]]
 | _=>[]
theorem kO:∀i:Nat,(gb i).flatten=c9 i
 | 0=>rfl
 | 1=>rfl
 | 2=>rfl
 | 3=>rfl
 | 4=>rfl
 | 5=>rfl
 | 6=>rfl
 | _+7=>rfl
theorem nQ(i:Nat):∀t∈gb i,fA t:=by
 unfold gb
 split<;>intro t h<;>simp only[List.mem_cons,List.not_mem_nil,or_false]at h
 ·subst h;rfl
 ·rcases h with rfl|rfl|rfl<;>(show _≠_;decide)
 ·subst h;rfl
 ·rcases h with rfl|rfl|rfl|rfl
  ·show _≠_;decide
  ·rfl
  ·show _≠_;decide
  ·show _≠_;decide
 ·rcases h with rfl|rfl
  ·show _≠_;decide
  ·rfl
 ·rcases h with rfl|rfl<;>(show _≠_;decide)
theorem qa(i:Nat)(ts U:List dx):uT (gb i++ts) false U []=uT ts false (U++dO i) []:=by
 unfold gb dO
 split
 ·simp[uT]
 ·simp[uT]
 ·simp[uT]
 ·simp[uT]
 ·simp[uT]
 ·simp[uT]
 ·rename_i h1 h2 h3 h4 h5 h6
  split
  ·exact absurd rfl h1
  ·exact absurd rfl h3
  ·exact absurd rfl h5
  ·simp
theorem jo(i n:Nat)(ts:List dx):dF n (dO i++ts)=dF n ts:=by
 unfold dO
 split<;>simp[dF]
noncomputable def ju(q:Nat×Nat):List dx:=gb q.1++[[q.2]]
noncomputable def dC(q:Nat×Nat):List dx:=dO q.1++[[q.2]]
noncomputable def cU(s:Nat):Prop:=s≠34∧s≠92
theorem uL(q:Nat×Nat):(ju q).flatten=txt q:=by unfold ju txt;rw[List.flatten_append,kO];rfl
theorem dI(l:List (Nat×Nat)):(l.flatMap ju).flatten=(l.map txt).flatten:=by
 induction l with
 | nil=>rfl
 | cons q l ih=>rw[List.flatMap_cons,List.flatten_append,uL,ih,List.map_cons,List.flatten_cons]
theorem zT{q:Nat×Nat}(h:cU q.2):∀t∈ju q,fA t:=by
 intro t ht
 rcases List.mem_append.mp ht with ht|ht
 ·exact nQ _ t ht
 ·rw[List.mem_singleton.mp ht];exact h.2
theorem iq{l:List (Nat×Nat)}(h:∀q∈l,cU q.2):∀t∈l.flatMap ju,fA t:=by
 intro t ht
 obtain⟨q,hq,h2⟩:=List.mem_flatMap.mp ht
 exact zT (h q hq) t h2
theorem iv:∀(l:List (Nat×Nat)) (ts U:List dx),(∀q∈l,cU q.2)→uT (l.flatMap ju++ts) false U []=uT ts false (U++l.flatMap dC) []
 | [],ts,U,_=>by simp
 | q::l,ts,U,h=>by
  have hq:[q.2]≠[34]:=by
   have:=(h q (.head _)).1
   simpa using this
  rw[List.flatMap_cons,List.flatMap_cons]
  show uT ((gb q.1++[[q.2]]++l.flatMap ju)++ts) false U []=_
  rw[List.append_assoc,List.append_assoc,qa]
  show uT ([q.2]::(l.flatMap ju++ts)) false _ []=_
  rw[uT,if_neg hq,iv l ts _ λx hx=>h x (.tail _ hx)]
  unfold dC
  simp only[List.append_assoc]
noncomputable def et:Nat→List Nat→Bool
 | n,[]=>n==0
 | n,s::ss=>if s=40 then et (n+1) ss else if s=41 then(if n=0 then false else et (n - 1) ss)else et n ss
theorem kh:∀(l:List (Nat×Nat)) (n:Nat),dF n (l.flatMap dC)=et n (l.map (·.2))
 | [],n=>rfl
 | q::l,n=>by
  rw[List.flatMap_cons,List.map_cons]
  show dF n (dO q.1++[[q.2]]++l.flatMap dC)=_
  rw[List.append_assoc,jo]
  show dF n ([q.2]::l.flatMap dC)=_
  rw[dF,et]
  have e:∀ch:Nat,([q.2]=[ch])=(q.2=ch):=λch=>by simp
  simp only[e]
  cases n with
  | zero=>simp only[kh l]
  | succ m=>simp only[kh l]
theorem qw{l:List (Nat×Nat)}(h:∀q∈l,cU q.2)(hl:l.length≤100):jE [aE (l.map txt).flatten]=some (.bool (et 0 (l.map (·.2)))):=by
 have:=my (iq h) (by rw[dI];have:=fi l;(first|lia|omega))
 rw[dI]at this
 rw[this]
 have e:=iv l [] [] h
 rw[List.append_nil]at e
 rw[e,List.nil_append]
 show some (D.bool (dF 0 (uT [] false _ [])))=_
 rw[show uT [] false (l.flatMap dC) []=l.flatMap dC from rfl,kh]
end
end Mine
namespace Mine
section
variable{Γ:List Slot}{c c1 c2 c3:List Cell}{p q r:PE}{ps:PL}{d a b:D}{ds:List D}{α:Type}
noncomputable def GoodK(n:Nat)(d:D):Prop:=∃p,d.toPy=some p∧p.canLay0=true∧p.depth≤n
theorem GoodK.good{n:Nat}(h:GoodK n d)(hn:n≤64):Good d:=by
 obtain⟨p,e,h1,h2⟩:=h
 exact⟨p,e,by unfold SeqAt.shaped;rw[h1,decide_eq_true (Nat.le_trans h2 hn)];rfl⟩
theorem GoodK.le{n m:Nat}(h:GoodK n d)(k:n≤m):GoodK m d:=by
 obtain⟨p,e,h1,h2⟩:=h
 exact⟨p,e,h1,Nat.le_trans h2 k⟩
theorem jb{i:Int}:GoodK 0 (.int i):=⟨_,rfl,by simp[PyData.canLay0],by simp[PyData.depth]⟩
theorem g_bool{x:Bool}:GoodK 0 (.bool x):=⟨_,rfl,by simp[PyData.canLay0],by simp[PyData.depth]⟩
theorem qz{l:List Nat}(h:∀ch∈l,ch<0x110000):GoodK 0 (aE l):=by
 have:PyData.strOk (bc l)=true:=by
  unfold PyData.strOk
  simpa using h
 exact⟨.str (bc l),by simp only[D.toPy];rw[if_pos this],by simp only[PyData.canLay0,this],by simp[PyData.depth]⟩
theorem xy{n:Nat}:∀{ds:List D},(∀d∈ds,GoodK n d)→∃ps,cZ ds=some ps∧PyData.canLayAll0 ps=true∧PyData.depthAll ps≤n
 | [],_=>⟨[],rfl,by simp[PyData.canLayAll0],by simp[PyData.depthAll]⟩
 | d::ds,h=>by
  obtain⟨p,e,h1,h2⟩:=h d (.head _)
  obtain⟨ps,e',h3,h4⟩:=xy λx hx=>h x (.tail _ hx)
  refine⟨p::ps,by simp only[cZ,e,e'],by simp only[PyData.canLayAll0,h1,h3,Bool.and_self],?_⟩
  simp only[PyData.depthAll]
  exact Nat.max_le.mpr ⟨h2,h4⟩
theorem jW{n:Nat}(h:∀d∈ds,GoodK n d):GoodK (n+1) (.lst ds):=by
 obtain⟨ps,e,h1,h2⟩:=xy h
 exact⟨.list ps,by simp only[D.toPy,e,Option.map_some],by simp only[PyData.canLay0,h1],by simp only[PyData.depth];(first|lia|omega)⟩
theorem Bi{n:Nat}(h:∀d∈ds,GoodK n d):GoodK (n+1) (.tup ds):=by
 obtain⟨ps,e,h1,h2⟩:=xy h
 exact⟨.tuple ps,by simp only[D.toPy,e,Option.map_some],by simp only[PyData.canLay0,h1],by simp only[PyData.depth];(first|lia|omega)⟩
theorem mD(l:List Nat):GoodK 1 (av l):=jW λd hd=>by obtain⟨k,_,rfl⟩:=List.mem_map.mp hd;exact jb
theorem oY{n:Nat}(ha:GoodK n a)(hb:GoodK n b):GoodK (n+1) (.tup [a,b]):=Bi λd hd=>by
 simp only[List.mem_cons,List.not_mem_nil,or_false]at hd
 rcases hd with rfl|rfl
 ·exact ha
 ·exact hb
noncomputable def fM(ds:List D):Prop:=∀e∈ds,∃x,e=.tup [x,x]∧GoodK 20 x
theorem sT:fM []:=λe h=>by cases h
theorem eh{es:List D}(h:fM ds)(k:fM es):fM (ds++es):=λe he=>(List.mem_append.mp he).elim (h e) (k e)
theorem gT{x:D}{n:Nat}(h:GoodK n x)(hn:n≤20):fM [.tup [x,x]]:=λe he=>⟨x,List.mem_singleton.mp he,h.le hn⟩
theorem k7{k:Nat}{x:D}(h0:Γ[15]?=some (.ref k))(hk:c[k]?=some (.lst ds))(h:p Γ c=some (.tup [x,x],c))(hl:ds.length≤99999):dK 15 p Γ c=some (.next,Γ,c.set k (.lst (ds++[.tup [x,x]]))):=jc h0 ⟨_,hk⟩ h hk hl
theorem cj{p1 p2:PE}(h1:p1 Γ c=some (a,c1))(h2:p2 Γ c1=some (b,c2)):de (ag p1 (ag p2 aw)) Γ c=some (.tup [a,b],c2):=jw (au h1 (au h2 aB)) (Nat.le_of_ble_eq_true rfl)
theorem iu{tg:Tg}{t:PB}{g:PC}{Γ1 Γ2 Γ3:List Slot}{new more:List D}(h0:d6 tg d Γ=some Γ1)(h1:t Γ1 c=some (true,c1))(h2:g Γ1 c1=some (new,Γ2,c2))(h3:bL tg t g ds Γ2 c2=some (more,Γ3,c3)) :
  bL tg t g (d::ds) Γ c=some (new++more,Γ3,c3):=by
 rw[bL,h0];simp only[Option.bind_some];rw[h1];simp only[Option.bind_some,if_true];rw[h2];simp only[Option.bind_some];rw[h3];rfl
theorem o8{js:List (Option Nat)}{src:PL}{tg:Tg}{t:PB}{g:PC}{Γ':List Slot}{out:List D}(hsrc:src Γ c=some (ds,c1))(hrun:bL tg t g ds (bQ js Γ) c1=some (out,Γ',c2))(hl:out.length≤100000):aX js src tg t g Γ c=some (.lst out,c2):=by
 unfold aX;rw[hsrc];simp only[Option.bind_some];rw[hrun];simp only[Option.bind_some];rw[if_pos hl]
noncomputable abbrev bX:D:=.lst [.bool true,.bool false,.bool true,.bool true,.bool false,.bool false,.bool false,.bool true,.bool false]
theorem uJ{n:Nat}{w1:Slot}:bL (.n 1) cn (aQ (aa 1)) [.bool (decide (n<256)),.bool (decide (256≤n)),.bool (decide (n=0))] [.val (.int (n:Int)),w1] c=some ([.bool (decide (n<256)),.bool (decide (256≤n)),.bool (decide (n=0))],[.val (.int (n:Int)),.val (.bool (decide (n=0)))],c):=rfl
theorem lK{n:Nat}{w1:Slot}:f7 (.n 1) (cC (aK (ag (aI nJ (aF (aa 0) (aW))) (ag (aI nM (aF (aa 0) (aW))) (ag (aI nG (aF (aa 0) (aW))) (aw)))))) cn (aQ (aa 1)) [.val (.int (n:Int)),w1] c=
  some ([.bool (decide (n<256)),.bool (decide (256≤n)),.bool (decide (n=0))],[.val (.int (n:Int)),.val (.bool (decide (n=0)))],c):=by
 have h:=bZ (aY (au (cP (Γ:=[.val (.int (n:Int)),w1]) (c:=c) (ab (i:=0) rfl) (yP n)) (au (cP (ab (i:=0) rfl) (xB n)) (au (cP (ab (i:=0) rfl) (yc n)) aB))) (Nat.le_of_ble_eq_true rfl))
 unfold f7
 rw[h]
 exact uJ
theorem y7:tn Γ c=some (.next,aS 16 bX Γ,c):=by
 refine bk ?_
 have hsrc:=bZ (aY (au (ay (Γ:=Γ) (c:=c) (i:=((0:Nat):Int))) (au (ay (i:=((255:Nat):Int))) (au (ay (i:=((256:Nat):Int))) aB))) (Nat.le_of_ble_eq_true rfl))
 exact o8 hsrc (iu rfl rfl (lK (n:=0)) (iu rfl rfl (lK (n:=255)) (iu rfl rfl (lK (n:=256)) rfl))) (Nat.le_of_ble_eq_true rfl)
theorem xX{k:Nat}(h0:Γ[15]?=some (.ref k))(hk:c[k]?=some (.lst ds))(h16:Γ[16]?=some (.val bX))(hl:ds.length≤99999):∃x,tb Γ c=some (.next,Γ,c.set k (.lst (ds++[.tup [x,x]])))∧GoodK 20 (x):=by
 refine⟨.lst (List.replicate 9 (.bool true)++[.bool true,.bool false,.bool true,.bool true,.bool false,.bool false,.bool false,.bool true,.bool false]),?_,?_⟩
 ·refine k7 h0 hk ?_ hl
  have e1:=xU (Γ:=Γ) (c:=c) (js:=[none]) (i:=0) (p:=bo oh (ag (aa 0) (ag (mS (.type "bool")) (aw)))) (λ_=>.bool true) (bZ (ab h16)) (by
   intro d hd
   simp only[List.mem_cons,List.not_mem_nil,or_false]at hd
   have:∃x,d=.bool x:=by rcases hd with rfl|rfl|rfl|rfl|rfl|rfl|rfl|rfl|rfl<;>exact⟨_,rfl⟩
   obtain⟨x,rfl⟩:=this
   exact cy (au (ab (i:=0) rfl) (au rI aB)) (show (if ("bool" : Str)="bool" then some (D.bool true)else none)=_ from if_pos rfl)) (Nat.le_of_ble_eq_true rfl)
  exact cj (aT e1 (ab h16) (dn (Nat.le_of_ble_eq_true rfl))) (aT (aT (aY (au cm aB) (Nat.le_of_ble_eq_true rfl)) (ay (i:=9)) (yM (by decide))) (aY (au cm (au cm (au cm (au cm (au cm (au cm (au cm (au cm (au cm aB))))))))) (Nat.le_of_ble_eq_true rfl)) (dn (Nat.le_of_ble_eq_true rfl)))
 ·refine(jW (n:=0) λd hd=>?_).le (by decide)
  simp only[List.mem_append,List.mem_cons,List.not_mem_nil,or_false,List.mem_replicate]at hd
  rcases hd with⟨_,rfl⟩|rfl|rfl|rfl|rfl|rfl|rfl|rfl|rfl|rfl<;>exact g_bool
end
end Mine
namespace Mine
section
variable{Γ:List Slot}{c c1 c2 c3:List Cell}{p q r:PE}{ps:PL}{d a b:D}{ds:List D}{α:Type}
noncomputable def d7:List Nat:=[43,45,47,38,60,62,61,37,126,94,40,41,42,124]
theorem ua{s:Nat}(h:s∈d7):cU s:=by
 have:∀s∈d7,s≠34∧s≠92:=by decide
 exact this s h
noncomputable def bH(q:Nat×Nat):List Nat:=(dC q).flatten
theorem yk{q:Nat×Nat}(h:cU q.2):pIf (aD .Eq (aV (aa 0) (aA) (aP (ah 1)) (aA)) (aZ ⟨#[34]⟩)) (aV (aa 0) (aP (gJ (ah 1))) (aA) (aA)) (aa 0) [.val (aE (txt q))] c=some (aE (bH q),c):=by
 have hl:=sX q
 have hlen:1≤(txt q).length:=by unfold txt;simp
 have e1:aD .Eq (aV (aa 0) (aA) (aP (ah 1)) (aA)) (aZ ⟨#[34]⟩) [.val (aE (txt q))] c=some (decide ((txt q).take 1=[34]),c):=by
  have h1:=bb (op:=.Eq) (cS (ab (Γ:=[.val (aE (txt q))]) (c:=c) (i:=0) rfl) bp (cx (ay (i:=((1:Nat):Int)))) bp (pJ (by rw[len_str];(first|lia|omega)))) (bF (x:=⟨#[34]⟩)) CG
  refine h1.trans ?_
  congr 2
  have:=StrLaws.sliceText_to (x:=bc (txt q)) (j:=((1:Nat):Int)) ⟨by(first|lia|omega),by show ((1:Nat):Int)≤((txt q).length:Nat);(first|lia|omega)⟩
  have e:Txt.slice (bc (txt q)) none (some ((1:Nat):Int))=bc ((txt q).take 1):=by refine Eq.trans this ?_;simp
  rw[e]
  apply decide_eq_decide.mpr
  constructor
  ·intro h
   have:=congrArg (λx:Str=>x.cps.toList) h
   simpa using this
  ·intro h;rw[h]
 have e2:aV (aa 0) (aP (gJ (ah 1))) (aA) (aA) [.val (aE (txt q))] c=some (aE ((txt q).drop ((txt q).length - 1)),c):=by
  refine(cS (ab (i:=0) rfl) (cx (oo (ay (i:=1)))) bp bp (pJ (by rw[len_str];(first|lia|omega)))).trans ?_
  have h1:(-1:Int)+((bc (txt q)).length:Int)=(((txt q).length - 1:Nat):Int):=by rw[len_str];(first|lia|omega)
  have:=StrLaws.sliceText_from_neg (x:=bc (txt q)) (i:=-1) (by decide) (by rw[len_str];(first|lia|omega))
  have e:Txt.slice (bc (txt q)) (some (-1)) none=bc ((txt q).drop ((txt q).length - 1)):=by
   refine Eq.trans this ?_
   rw[h1]
   simp
   exact List.take_of_length_le (by rw[List.length_drop];(first|lia|omega))
  show some (D.str (Txt.slice (bc (txt q)) (some (-1)) none),c)=_
  rw[e]
 obtain⟨i,s⟩:=q
 have hs:s≠34:=h.1
 unfold bH dC
 match i with
 | 0=>exact fo (by rw[e1];simp[txt,c9,hs]) (ab rfl)
 | 1=>exact fo (by rw[e1];simp[txt,c9]) (ab rfl)
 | 2=>exact fO (by rw[e1];rfl) e2
 | 3=>exact fo (by rw[e1];simp[txt,c9]) (ab rfl)
 | 4=>exact fO (by rw[e1];rfl) e2
 | 5=>exact fo (by rw[e1];simp[txt,c9]) (ab rfl)
 | 6=>exact fO (by rw[e1];rfl) e2
 | i+7=>exact fo (by rw[e1];simp[txt,c9,hs]) (ab rfl)
theorem yo{l:List (Nat×Nat)}(h:∀q∈l,cU q.2)(hl:l.length≤100)(h6:Γ[6]?=some (.val (.lst ((l.map txt).map aE)))):tF Γ c=some (.next,aS 17 (.lst ((l.map bH).map aE)) Γ,c):=by
 refine bk ((dm (l:=l) (g:=λq=>aE (txt q)) (λq=>aE (bH q)) (bZ ((ab h6).trans (by rw[List.map_map];rfl))) (λq hq=>yk (h q hq)) (by(first|lia|omega))).trans ?_)
 rw[List.map_map];rfl
theorem rh(l:List (Nat×Nat)):(l.map bH).flatten=(l.flatMap dC).flatten:=by
 induction l with
 | nil=>rfl
 | cons q l ih=>rw[List.map_cons,List.flatten_cons,ih,List.flatMap_cons,List.flatten_append];rfl
theorem rC{l:List (Nat×Nat)}(h:∀q∈l,cU q.2):uT (l.flatMap ju) false [] []=l.flatMap dC:=by
 have e:=iv l [] [] h
 rw[List.append_nil]at e
 rw[e,List.nil_append];rfl
theorem yF{l:List (Nat×Nat)}(h:∀q∈l,cU q.2)(hl:l.length≤100)(h7:Γ[7]?=some (.val (aE (l.map txt).flatten))):tB Γ c=some (.next,aS 18 (aE (l.flatMap dC).flatten) Γ,c):=by
 refine bk (cP (ab h7) ?_)
 have:=qr (iq h) (by rw[dI];have:=fi l;(first|lia|omega))
 rw[dI,rC h]at this
 exact this
theorem ud{l:List (Nat×Nat)}(h:∀q∈l,cU q.2):∀t∈l.flatMap dC,fA t:=by
 have:=nO (l.flatMap ju) false [] [] (iq h) (by intro t h;cases h) (by intro t h;cases h)
 rw[rC h]at this
 exact this
noncomputable def eV:Nat→List (Nat×Nat)→List D
 | _,[]=>[]
 | p,q::l=>.tup [.int ((p+(bH q).length - 1:Nat):Int),chD q.2]::eV (p+(bH q).length) l
noncomputable def fc:D→Bool
 | .tup [_,.str x]=>(bN x).isSome
 | _=>false
theorem mm:∀(x y:List dx) (p:Nat),dG p (x++y)=dG p x++dG (p+x.flatten.length) y
 | [],y,p=>by simp[dG]
 | t::x,y,p=>by rw[List.cons_append,dG,dG,mm x y,List.cons_append,List.flatten_cons,List.length_append,Nat.add_assoc]
theorem rQ{s:Nat}(h:s∈d7):(bN ⟨#[s]⟩).isSome=true:=by
 have:∀s∈d7,(bN ⟨#[s]⟩).isSome=true:=by decide +kernel
 exact this s h
theorem rn(i p:Nat):(dG p (dO i)).filter fc=[]:=by
 have t1:bN ⟨#[92,40]⟩=none:=by decide +kernel
 have t2:bN ⟨#[92,92]⟩=none:=by decide +kernel
 have t3:bN ⟨#[97]⟩=none:=by decide +kernel
 have t4:bN ⟨#[92,34]⟩=none:=by decide +kernel
 unfold dO
 split
 ·simp[dG,fc,bc,t1]
 ·simp[dG,fc,bc,t2]
 ·simp[dG,fc,bc,t3,t4]
 ·rfl
theorem qg:∀(l:List (Nat×Nat)) (p:Nat),(∀q∈l,q.2∈d7)→(dG p (l.flatMap dC)).filter fc=eV p l
 | [],_,_=>rfl
 | q::l,p,h=>by
  rw[List.flatMap_cons,mm,List.filter_append,qg l _ λx hx=>h x (.tail _ hx)]
  have hs:=rQ (h q (.head _))
  have e:(dG p (dC q)).filter fc=[.tup [.int ((p+(bH q).length - 1:Nat):Int),chD q.2]]:=by
   unfold dC
   rw[mm,List.filter_append,rn,List.nil_append]
   have h1:fc (.tup [.int ((p+(dO q.1).flatten.length+1 - 1:Nat):Int),aE [q.2]])=true:=hs
   show (dG _ [[q.2]]).filter fc=_
   rw[dG,dG]
   show List.filter fc [.tup [.int ((p+(dO q.1).flatten.length+1 - 1:Nat):Int),aE [q.2]]]=_
   rw[List.filter_cons,if_pos h1,List.filter_nil]
   have e2:(bH q).length=(dO q.1).flatten.length+1:=by unfold bH dC;rw[List.flatten_append,List.length_append];rfl
   rw[e2,Nat.add_assoc]
  rw[e];rfl
theorem xM{l:List (Nat×Nat)}(h:∀q∈l,q.2∈d7)(hl:l.length≤100)(h18:Γ[18]?=some (.val (aE (l.flatMap dC).flatten))):tv Γ c=some (.next,aS 19 (.lst (eV 0 l)) Γ,c):=by
 refine bk ?_
 have hs:∀q∈l,cU q.2:=λq hq=>ua (h q hq)
 have hsrc:pS (aa 18) Γ c=some (dG 0 (l.flatMap dC),c):=(oE (ab h18)).trans (by rw[fZ (ud hs)])
 have hmem:∀d∈dG 0 (l.flatMap dC),∃(i:Int) (x:Str),d=.tup [.int i,.str x]:=by
  have:∀(ts:List dx) (p:Nat),∀d∈dG p ts,∃(i:Int) (x:Str),d=.tup [.int i,.str x]:=by
   intro ts
   induction ts with
   | nil=>intro p d hd;cases hd
   | cons t ts ih=>
    intro p d hd
    rw[dG]at hd
    rcases List.mem_cons.mp hd with rfl|hd
    ·exact⟨_,_,rfl⟩
    ·exact ih _ d hd
  exact this _ 0
 have hlen:(dG 0 (l.flatMap dC)).length≤100000:=by
  have h1:∀(ts:List dx) (p:Nat),(dG p ts).length=ts.length:=by
   intro ts
   induction ts with
   | nil=>intro p;rfl
   | cons t ts ih=>intro p;rw[dG,List.length_cons,ih,List.length_cons]
  rw[h1]
  have h2:=toks_le _ (ud hs)
  have h3:=ko (l.flatMap ju) false [] [] (λ_=>rfl)
  rw[rC hs,dI,List.flatten_nil,List.length_nil]at h3
  have:=fi l
  (first|lia|omega)
 have:=iN (Γ:=Γ) (c:=c) (js:=[none]) (i:=0) (t:=ki bN (a9 (aa 0) (ah 1))) (p:=aa 0) (ds:=dG 0 (l.flatMap dC)) (c1:=c) fc (λd=>d) hsrc (by
  intro d hd
  obtain⟨i,x,rfl⟩:=hmem d hd
  exact yD (fx (ab (i:=0) rfl) (ay (i:=1)) (kN (by decide) rfl))) (λd _ _=>ab rfl) hlen
 rw[qg l 0 h,List.map_id']at this
 exact this
end
end Mine
namespace Mine
section
variable{Γ:List Slot}{c c1 c2 c3:List Cell}{p q r:PE}{ps:PL}{d a b:D}{ds:List D}{α:Type}
theorem nA:∀(l:List (Nat×Nat)) (p:Nat),eV p l=(List.range l.length).map λk=>D.tup [.int ((p+((l.take (k+1)).map bH).flatten.length - 1:Nat):Int),chD (l.getD k (0,0)).2]
 | [],_=>rfl
 | q::l,p=>by
  rw[eV,nA l,List.length_cons,List.range_succ_eq_map,List.map_cons,List.map_map]
  congr 1
  ·simp
  ·apply List.map_congr_left
   intro k _
   show D.tup [.int ((p+(bH q).length+((l.take (k+1)).map bH).flatten.length - 1:Nat):Int),chD (l.getD k (0,0)).2]=D.tup [.int ((p+(((q::l).take (k+1+1)).map bH).flatten.length - 1:Nat):Int),chD ((q::l).getD (k+1) (0,0)).2]
   rw[List.take_succ_cons,List.map_cons,List.flatten_cons,List.length_append,Nat.add_assoc];rfl
theorem nu(l:List (Nat×Nat)):(l.map bH).flatten.length≤6*l.length:=by
 induction l with
 | nil=>exact Nat.zero_le _
 | cons q l ih=>
  have:(bH q).length≤6:=by
   unfold bH dC dO
   split<;>simp
  rw[List.map_cons,List.flatten_cons,List.length_append,List.length_cons];(first|lia|omega)
theorem v7(q:Nat×Nat):1≤(bH q).length:=by unfold bH dC;rw[List.flatten_append,List.length_append];simp
theorem pL{l:List (Nat×Nat)}(h:∀q∈l,q.2∈d7):∀ch∈(l.flatMap dC).flatten,ch<0x110000:=by
 intro ch hc
 obtain⟨t,ht,hc⟩:=List.mem_flatten.mp hc
 obtain⟨q,hq,ht⟩:=List.mem_flatMap.mp ht
 have hs:∀s∈d7,s<0x110000:=by decide
 unfold dC at ht
 rcases List.mem_append.mp ht with ht|ht
 ·have hp:∀t∈dO q.1,∀ch∈t,ch<0x110000:=by
   unfold dO
   split<;>decide
  exact hp t ht ch hc
 ·rw[List.mem_singleton.mp ht]at hc
  rw[List.mem_singleton.mp hc]
  exact hs _ (h q hq)
theorem sf{l:List (Nat×Nat)}(h:∀q∈l,q.2∈d7):∀p,∀d∈eV p l,GoodK 1 d:=by
 have hs:∀s∈d7,s<0x110000:=by decide
 induction l with
 | nil=>intro p d hd;cases hd
 | cons q l ih=>
  intro p d hd
  rw[eV]at hd
  rcases List.mem_cons.mp hd with rfl|hd
  ·exact oY jb (qz (by intro ch hc;rw[List.mem_singleton.mp hc];exact hs _ (h q (.head _))))
  ·exact ih (λx hx=>h x (.tail _ hx)) _ d hd
theorem wc{k:Nat}{l:List (Nat×Nat)}(h:∀q∈l,q.2∈d7)(hl:l.length≤100)(h0:Γ[15]?=some (.ref k))(hk:c[k]?=some (.lst ds))(hd:ds.length≤99999)
  (h4:Γ[4]?=some (.val (sgD (l.map (·.2))))) (h17:Γ[17]?=some (.val (.lst ((l.map bH).map aE)))) (h18:Γ[18]?=some (.val (aE (l.flatMap dC).flatten))) (h19:Γ[19]?=some (.val (.lst (eV 0 l)))) :
  ∃x,tZ Γ c=some (.next,Γ,c.set k (.lst (ds++[.tup [x,x]])))∧GoodK 20 x:=by
 refine⟨.tup [aE (l.flatMap dC).flatten,.lst (eV 0 l)],k7 h0 hk (cj (cj (ab h18) (ab h19)) (cj (c1:=c) ?_ ?_)) hd,?_⟩
 ·have:=jH (ab (c:=c) h17) (by have:=nu l;(first|lia|omega))
  rw[rh]at this
  exact this
 ·have hc:bQ [none,none,some 17] Γ=[.un,.un,.val (.lst ((l.map bH).map aE))]:=by simp[bQ,h17]
  have hen:eS ((l.map (·.2)).map chD)=(List.range l.length).map λk=>(D.int (k:Nat),chD ((l.map (·.2)).getD k default)):=by
   have:=e8 (l.map (·.2)) chD
   rw[List.length_map]at this
   exact this
  have e1:=kJ (Γ:=Γ) (c:=c) (js:=[none,none,some 17]) (i:=0) (j:=1) (p:=de (ag (ao .Sub (bo d9 (ag (bO "str" dg (aZ ⟨#[]⟩) (ag (aV (aa 2) (aA) (aP (ao .Add (aa 0) (ah 1))) (aA)) (aw))) (aw))) (ah 1)) (ag (aa 1) (aw))))
   (l:=eS ((l.map (·.2)).map chD)) (c1:=c) (λq=>match q.1 with|.int k=>.tup [.int ((((l.take (k.toNat+1)).map bH).flatten.length - 1:Nat):Int),q.2]|_=>.none) (by decide) (eK (ab h4)) ?_ (by rw[hen,List.length_map,List.length_range];(first|lia|omega))
  ·refine e1.trans ?_
   rw[hen,nA,List.map_map]
   congr 3
   apply List.map_congr_left
   intro k hk
   have hk':=List.mem_range.mp hk
   show D.tup [.int ((((l.take (((k:Int)).toNat+1)).map bH).flatten.length - 1:Nat):Int),chD ((l.map (·.2)).getD k default)]=D.tup [.int ((0+((l.take (k+1)).map bH).flatten.length - 1:Nat):Int),chD (l.getD k (0,0)).2]
   rw[Int.toNat_natCast,Nat.zero_add]
   congr 4
   simp[List.getD,hk']
  ·intro q hq
   rw[hen]at hq
   obtain⟨k,hk,rfl⟩:=List.mem_map.mp hq
   have hk':=List.mem_range.mp hk
   rw[hc]
   show de _ [.val (.int (k:Int)),.val (chD ((l.map (·.2)).getD k default)),.val (.lst ((l.map bH).map aE))] c=some (.tup [.int ((((l.take (((k:Int)).toNat+1)).map bH).flatten.length - 1:Nat):Int),chD ((l.map (·.2)).getD k default)],c)
   rw[Int.toNat_natCast]
   have hsl:aV (aa 2) (aA) (aP (ao .Add (aa 0) (ah 1))) (aA) [.val (.int (k:Int)),.val (chD ((l.map (·.2)).getD k default)),.val (.lst ((l.map bH).map aE))] c=some (.lst (((l.take (k+1)).map bH).map aE),c):=by
    refine(cS (ab (i:=2) rfl) bp (cx (dA (ab (i:=0) rfl) (ay (i:=((1:Nat):Int))))) bp (jy (by rw[List.length_map,List.length_map];(first|lia|omega)))).trans ?_
    rw[iH _ (by rw[List.length_map,List.length_map];(first|lia|omega)),←List.map_take,←List.map_take]
   have htl:(l.take (k+1)).length≤100:=by rw[List.length_take];(first|lia|omega)
   have hsh:=nu (l.take (k+1))
   have hpos:1≤((l.take (k+1)).map bH).flatten.length:=by
    have:0<l.length:=by(first|lia|omega)
    match l,this with
    | q0::l',_=>
     have:=v7 q0
     rw[List.take_succ_cons,List.map_cons,List.flatten_cons,List.length_append];(first|lia|omega)
   refine cj ((aT (op:=.Sub) (cy (au (jH hsl (by(first|lia|omega))) aB) (if_pos (by rw[len_str];(first|lia|omega)))) (ay (i:=1)) jh).trans ?_) (ab (i:=1) rfl)
   rw[len_str]
   congr 3
   (first|lia|omega)
 ·exact(oY (n:=2) ((qz (pL h)).le (by decide)) (jW (n:=1) (sf h 0))).le (by decide)
theorem wC{l:List (Nat×Nat)}(hl:l.length≤100)(h19:Γ[19]?=some (.val (.lst (eV 0 l)))):uf Γ c=some (.next,aS 20 (sgD (l.map (·.2))) Γ,c):=by
 refine bk ?_
 have e:∀(l:List (Nat×Nat)) (p:Nat),∃ks:List (D×D),eV p l=ks.map (λq=>D.tup [q.1,q.2])∧ks.map (·.2)=(l.map (·.2)).map chD∧ks.length=l.length:=by
  intro l
  induction l with
  | nil=>intro p;exact⟨[],rfl,rfl,rfl⟩
  | cons q l ih=>
   intro p
   obtain⟨ks,h1,h2,h3⟩:=ih (p+(bH q).length)
   exact⟨(.int ((p+(bH q).length - 1:Nat):Int),chD q.2)::ks,by rw[eV,h1];rfl,by rw[List.map_cons,h2];rfl,by rw[List.length_cons,h3];rfl⟩
 obtain⟨ks,h1,h2,h3⟩:=e l 0
 have e1:=kJ (Γ:=Γ) (c:=c) (js:=[none,none]) (i:=0) (j:=1) (p:=aa 1) (l:=ks) (c1:=c) (λq=>q.2) (by decide) (bZ ((ab h19).trans (by rw[h1]))) (λq _=>ab rfl) (by(first|lia|omega))
 refine e1.trans ?_
 rw[h2]
noncomputable def jP(L:List Nat):Prop:=∀i,L.getD i 0≠40∧L.getD i 0≠41
theorem i5(s:Nat):bD s≠40∧bD s≠41:=by unfold bD;split<;>decide
theorem gC{L:List Nat}(hL:jP L):∀(t:SP) (n:Nat) (rest:List Nat),et n (code L t++rest)=et n rest
 | .leaf i,n,rest=>by
  show et n (L.getD i 0::rest)=_
  rw[et,if_neg (hL i).1,if_neg (hL i).2]
 | .node s l r,n,rest=>by
  show et n ([40]++code L l++[bD s]++code L r++[41]++rest)=_
  simp only[List.append_assoc]
  show et n (40::(code L l++(bD s::(code L r++(41::rest)))))=_
  rw[et,if_pos rfl,gC hL l,et,if_neg (i5 s).1,if_neg (i5 s).2,gC hL r,et,if_neg (by decide),if_pos rfl,if_neg (Nat.succ_ne_zero n)]
  rfl
theorem j7{L:List Nat}{s:Nat}{l r:SP}:code L (.node s l r)=(40::(code L l++(bD s::code L r)))++[41]:=by
 show [40]++code L l++[bD s]++code L r++[41]=_
 simp
theorem Ap{L:List Nat}(hL:jP L){s:Nat}{l r:SP}:et 0 (40::(code L l++(bD s::code L r)))=false:=by
 rw[et,if_pos rfl,gC hL l,et,if_neg (i5 s).1,if_neg (i5 s).2]
 have:=gC hL r 1 []
 rw[List.append_nil]at this
 rw[this];rfl
theorem iF:∀(l:List (Nat×Nat)) (n:Nat) (ts:List dx),dF n (l.flatMap dC++ts)=dF n (l.map (λq=>[q.2])++ts)
 | [],n,ts=>rfl
 | q::l,n,ts=>by
  rw[List.flatMap_cons,List.map_cons]
  show dF n (dO q.1++[[q.2]]++l.flatMap dC++ts)=_
  rw[List.append_assoc,List.append_assoc,jo]
  show dF n ([q.2]::(l.flatMap dC++ts))=dF n ([q.2]::(l.map (λq=>[q.2])++ts))
  rw[dF,dF,iF l,iF l,iF l]
theorem jY:∀(ss:List Nat) (n:Nat),dF n (ss.map λs=>[s])=et n ss
 | [],n=>rfl
 | s::ss,n=>by
  rw[List.map_cons,dF,et,jY ss,jY ss,jY ss]
  have e:∀ch:Nat,([s]=[ch])=(s=ch):=λch=>by simp
  simp only[e]
theorem lC:∀(ss:List Nat) (n i:Nat),dF n ((ss.map λs=>[s])++dO i)=et n ss
 | [],n,i=>by
  have:=jo i n []
  rw[List.append_nil]at this
  exact this
 | s::ss,n,i=>by
  rw[List.map_cons,List.cons_append,dF,et,lC ss,lC ss,lC ss]
  have e:∀ch:Nat,([s]=[ch])=(s=ch):=λch=>by simp
  simp only[e]
end
end Mine
namespace Mine
section
variable{Γ:List Slot}{c c1 c2 c3:List Cell}{p q r:PE}{ps:PL}{d a b:D}{ds:List D}{α:Type}
theorem z3{x:Str}(h:p Γ c=some (.str x,c1))(ha:x.cps.all (·<128)=true):nH p Γ c=some (x.cps.toList.map λch=>D.str ⟨#[ch]⟩,c1):=by unfold nH;rw[h];simp only[Option.bind_some];rw[if_pos ha]
theorem rW{x:List Nat}(h:1≤x.length):Txt.slice (bc x) none (some (-1))=bc (x.take (x.length - 1)):=by
 have:=StrLaws.sliceText_to_neg (x:=bc x) (j:=-1) (by decide) (by rw[len_str];(first|lia|omega))
 refine Eq.trans this ?_
 have h1:(-1:Int)+((bc x).length:Int) - 0=((x.length - 1:Nat):Int):=by rw[len_str];(first|lia|omega)
 rw[h1]
 simp
theorem uZ{l:List (Nat×Nat)}{i s:Nat}(h:∀q∈l,cU q.2)(hl:l.length≤99):jE [.str (Txt.slice (bc ((l++[(i,s)]).map txt).flatten) none (some (-1)))]=some (.bool (et 0 (l.map (·.2)))):=by
 have e:((l++[(i,s)]).map txt).flatten=(l.map txt).flatten++c9 i++[s]:=by
  rw[List.map_append,List.flatten_append]
  show _++(txt (i,s)++[])=_
  rw[List.append_nil,List.append_assoc];rfl
 rw[e,rW (by rw[List.length_append];exact Nat.le_add_left 1 _)]
 have e2:((l.map txt).flatten++c9 i++[s]).take (((l.map txt).flatten++c9 i++[s]).length - 1)=(l.map txt).flatten++c9 i:=by
  rw[List.length_append]
  exact List.take_left' (by simp)
 rw[e2]
 have e3:(l.map txt).flatten++c9 i=(l.flatMap ju++gb i).flatten:=by rw[List.flatten_append,dI,kO]
 rw[e3]
 have hp:=km i
 have:=my (ts:=l.flatMap ju++gb i) (λt ht=>(List.mem_append.mp ht).elim (iq h t) (nQ i t)) (by rw[←e3,List.length_append];have:=fi l;(first|lia|omega))
 refine this.trans ?_
 rw[iv l _ _ h]
 have e4:uT (gb i) false ([]++l.flatMap dC) []=l.flatMap dC++dO i:=by
  have:=qa i [] ([]++l.flatMap dC)
  rw[List.append_nil]at this
  rw[this];rfl
 rw[e4,iF]
 have e5:l.map (λq=>[q.2])=(l.map (·.2)).map λs=>[s]:=by rw[List.map_map];rfl
 rw[e5,lC]
theorem qP{l:List (Nat×Nat)}(h:∀q∈l,cU q.2)(hl:l.length≤100):jE [.str (bc (l.map txt).flatten++⟨#[41,34]⟩)]=some (.bool (et 0 (l.map (·.2)++[41,34]))):=by
 have e3:bc (l.map txt).flatten++⟨#[41,34]⟩=bc (l.flatMap ju++[[41],[34]]).flatten:=by
  rw[List.flatten_append,dI]
  exact jC (l.map txt).flatten [41,34]
 rw[e3]
 have h2:∀t∈([[41],[34]]:List dx),fA t:=by
  intro t ht
  simp only[List.mem_cons,List.not_mem_nil,or_false]at ht
  rcases ht with rfl|rfl<;>(show _≠_;decide)
 have:=my (ts:=l.flatMap ju++[[41],[34]]) (λt ht=>(List.mem_append.mp ht).elim (iq h t) (h2 t)) (by rw[List.flatten_append,dI,List.length_append];have:=fi l;show _+2≤_;(first|lia|omega))
 refine this.trans ?_
 rw[iv l _ _ h]
 have e4:uT [[41],[34]] false ([]++l.flatMap dC) []=l.flatMap dC++[[41],[34]]:=by simp[uT]
 rw[e4,iF]
 have e5:l.map (λq=>[q.2])++[[41],[34]]=(l.map (λq:Nat×Nat=>q.2)++[41,34]).map λs=>[s]:=by rw[List.map_append,List.map_map];rfl
 rw[e5,jY]
theorem yU{k:Nat}{l:List (Nat×Nat)}{L:List Nat}{s:Nat}{tl tr:SP}(hL:jP L)(h:∀q∈l,cU q.2)(hl:l.length≤99)(hS:l.map (·.2)=code L (.node s tl tr))(h0:Γ[15]?=some (.ref k))(hk:c[k]?=some (.lst ds))(hd:ds.length≤99999)
  (h7:Γ[7]?=some (.val (aE (l.map txt).flatten))):∃x,ta Γ c=some (.next,Γ,c.set k (.lst (ds++[.tup [x,x]])))∧GoodK 20 x:=by
 have hfl:=fi l
 refine⟨.lst [.int 7,.int 8,.int 16,.int 18,.bool true,.bool true],k7 h0 hk (cj (c1:=c) ?_ ?_) hd,?_⟩
 ·have e1:aX [none] (nH (aZ ⟨#[40,41,42,124]⟩)) (.n 0) (cn) (aQ (mq bN (aa 0))) Γ c=some (.lst [.int 7,.int 8,.int 16,.int 18],c):=by
   have t1:bN ⟨#[40]⟩=some 7:=by decide +kernel
   have t2:bN ⟨#[41]⟩=some 8:=by decide +kernel
   have t3:bN ⟨#[42]⟩=some 16:=by decide +kernel
   have t4:bN ⟨#[124]⟩=some 18:=by decide +kernel
   have hsrc:nH (aZ ⟨#[40,41,42,124]⟩) Γ c=some ([chD 40,chD 41,chD 42,chD 124],c):=z3 bF (by decide +kernel)
   refine(xU (λd=>match d with|.str x=>.int ((bN x).getD 0)|_=>.none) hsrc ?_ (by decide)).trans ?_
   ·intro d hd
    simp only[List.mem_cons,List.not_mem_nil,or_false]at hd
    rcases hd with rfl|rfl|rfl|rfl
    ·exact(kC (ab rfl) t1).trans (by simp[t1])
    ·exact(kC (ab rfl) t2).trans (by simp[t2])
    ·exact(kC (ab rfl) t3).trans (by simp[t3])
    ·exact(kC (ab rfl) t4).trans (by simp[t4])
   ·simp[t1,t2,t3,t4]
  have hcut:∃(l':List (Nat×Nat)) (i:Nat),l=l'++[(i,41)]∧l'.map (·.2)=40::(code L tl++(bD s::code L tr)):=by
   rw[j7]at hS
   obtain⟨l',z,h1,h2,h3⟩:=List.map_eq_append_iff.mp hS
   obtain⟨q,hq,h4⟩:=List.map_eq_singleton_iff.mp h3
   obtain⟨i,s'⟩:=q
   dsimp only at h4
   subst h4
   exact⟨l',i,by rw[h1,hq],h2⟩
  obtain⟨l',i,el,hm⟩:=hcut
  have e2:gv .Is (aI dw (aF (aV (aa 7) (aA) (aP (gJ (ah 1))) (aA)) (aW))) (b7 false) Γ c=some (.bool true,c):=by
   have hb:=uZ (i:=i) (s:=41) (l:=l') (λq hq=>h q (by rw[el];exact List.mem_append_left _ hq)) (by rw[el,List.length_append]at hl;simp at hl;(first|lia|omega))
   rw[hm,Ap hL,←el]at hb
   exact gh (cP (cS (ab h7) bp (cx (oo (ay (i:=1)))) bp (pJ (by rw[len_str];(first|lia|omega)))) hb) cm rfl
  have e3:gv .Is (aI dw (aF (ao .Add (aa 7) (aZ ⟨#[41,34]⟩)) (aW))) (b7 false) Γ c=some (.bool true,c):=by
   have hb:=qP h (by(first|lia|omega))
   rw[hS,gC hL]at hb
   exact gh (cP (aT (op:=.Add) (ab h7) bF (xS (by rw[len_str];show _+2≤_;(first|lia|omega)))) hb) cm rfl
  exact aT e1 (aY (au e2 (au e3 aB)) (Nat.le_of_ble_eq_true rfl)) (dn (Nat.le_of_ble_eq_true rfl))
 ·exact aY (au ay (au ay (au ay (au ay (au cm (au cm aB)))))) (Nat.le_of_ble_eq_true rfl)
 ·refine(jW (n:=0) λd hd=>?_).le (by decide)
  simp only[List.mem_cons,List.not_mem_nil,or_false]at hd
  rcases hd with rfl|rfl|rfl|rfl|rfl|rfl
  ·exact jb
  ·exact jb
  ·exact jb
  ·exact jb
  ·exact g_bool
  ·exact g_bool
end
end Mine
namespace Mine
noncomputable def aU:SP→Nat
 | .leaf _=>0
 | .node _ l r=>1+aU l+aU r
noncomputable def bare:SP→List Nat
 | .leaf _=>[0]
 | .node _ l r=>[40]++bare l++[0]++bare r++[41]
noncomputable def cls(s:Nat):Nat:=if s=40 then 40 else if s=41 then 41 else 0
noncomputable def dT(S:List Nat):List Nat:=[2]++((List.range (S.length - 1 - 3)).map (·+3)).filter λe=>decide (S.getD (e - 1) 0=41)
noncomputable def b8(S:List Nat)(e:Nat):Bool:=et 0 ((S.take e).drop 1)
theorem uM:∀(s:Nat) (l r:SP),aU (.node s l r)≤3→(dT (bare (.node s l r))).find? (b8 (bare (.node s l r)))=some ((bare l).length+1)
 | _,.leaf _,.leaf _,_=>(show (dT [40,0,0,0,41]).find? (b8 [40,0,0,0,41])=some 2 by decide +kernel)
 | _,.leaf _,.node _ (.leaf _) (.leaf _),_=>(show (dT [40,0,0,40,0,0,0,41,41]).find? (b8 [40,0,0,40,0,0,0,41,41])=some 2 by decide +kernel)
 | _,.leaf _,.node _ (.leaf _) (.node _ (.leaf _) (.leaf _)),_=>(show (dT [40,0,0,40,0,0,40,0,0,0,41,41,41]).find? (b8 [40,0,0,40,0,0,40,0,0,0,41,41,41])=some 2 by decide +kernel)
 | _,.leaf _,.node _ (.node _ (.leaf _) (.leaf _)) (.leaf _),_=>(show (dT [40,0,0,40,40,0,0,0,41,0,0,41,41]).find? (b8 [40,0,0,40,40,0,0,0,41,0,0,41,41])=some 2 by decide +kernel)
 | _,.node _ (.leaf _) (.leaf _),.leaf _,_=>(show (dT [40,40,0,0,0,41,0,0,41]).find? (b8 [40,40,0,0,0,41,0,0,41])=some 6 by decide +kernel)
 | _,.node _ (.leaf _) (.node _ (.leaf _) (.leaf _)),.leaf _,_=>(show (dT [40,40,0,0,40,0,0,0,41,41,0,0,41]).find? (b8 [40,40,0,0,40,0,0,0,41,41,0,0,41])=some 10 by decide +kernel)
 | _,.node _ (.node _ (.leaf _) (.leaf _)) (.leaf _),.leaf _,_=>(show (dT [40,40,40,0,0,0,41,0,0,41,0,0,41]).find? (b8 [40,40,40,0,0,0,41,0,0,41,0,0,41])=some 10 by decide +kernel)
 | _,.node _ (.leaf _) (.leaf _),.node _ (.leaf _) (.leaf _),_=>(show (dT [40,40,0,0,0,41,0,40,0,0,0,41,41]).find? (b8 [40,40,0,0,0,41,0,40,0,0,0,41,41])=some 6 by decide +kernel)
 | _,.leaf _,.node _ (.node _ (.node _ _ _) _) _,h=>by simp only[aU]at h;(first|lia|omega)
 | _,.leaf _,.node _ (.node _ _ (.node _ _ _)) _,h=>by simp only[aU]at h;(first|lia|omega)
 | _,.leaf _,.node _ (.node _ _ _) (.node _ _ _),h=>by simp only[aU]at h;(first|lia|omega)
 | _,.leaf _,.node _ _ (.node _ (.node _ _ _) _),h=>by simp only[aU]at h;(first|lia|omega)
 | _,.leaf _,.node _ _ (.node _ _ (.node _ _ _)),h=>by simp only[aU]at h;(first|lia|omega)
 | _,.node _ (.node _ (.node _ _ _) _) _,_,h=>by simp only[aU]at h;(first|lia|omega)
 | _,.node _ (.node _ _ (.node _ _ _)) _,_,h=>by simp only[aU]at h;(first|lia|omega)
 | _,.node _ (.node _ _ _) (.node _ _ _),_,h=>by simp only[aU]at h;(first|lia|omega)
 | _,.node _ _ (.node _ (.node _ _ _) _),_,h=>by simp only[aU]at h;(first|lia|omega)
 | _,.node _ _ (.node _ _ (.node _ _ _)),_,h=>by simp only[aU]at h;(first|lia|omega)
 | _,.node _ (.node _ _ _) _,.node _ _ _,h=>by simp only[aU]at h;(first|lia|omega)
 | _,.node _ _ (.node _ _ _),.node _ _ _,h=>by simp only[aU]at h;(first|lia|omega)
 | _,.node _ _ _,.node _ (.node _ _ _) _,h=>by simp only[aU]at h;(first|lia|omega)
 | _,.node _ _ _,.node _ _ (.node _ _ _),h=>by simp only[aU]at h;(first|lia|omega)
section
variable{Γ:List Slot}{c c1 c2 c3:List Cell}{p q r:PE}{ps:PL}{d a b:D}{ds:List D}{α:Type}
theorem iT{L:List Nat}(hL:jP L):∀t:SP,(code L t).map cls=bare t
 | .leaf i=>by
  show [cls (L.getD i 0)]=[0]
  unfold cls
  rw[if_neg (hL i).1,if_neg (hL i).2]
 | .node s l r=>by
  show ([40]++code L l++[bD s]++code L r++[41]).map cls=_
  rw[List.map_append,List.map_append,List.map_append,List.map_append,iT hL l,iT hL r]
  have:cls (bD s)=0:=by unfold cls;rw[if_neg (i5 s).1,if_neg (i5 s).2]
  show [cls 40]++bare l++[cls (bD s)]++bare r++[cls 41]=_
  rw[this];rfl
theorem B4(s:Nat):(cls s=40)=(s=40):=by
 unfold cls
 by_cases h:s=40
 ·simp[h]
 ·by_cases h2:s=41
  ·simp[h2]
  ·simp[h,h2]
theorem yT(s:Nat):(cls s=41)=(s=41):=by
 unfold cls
 by_cases h:s=40
 ·simp[h]
 ·by_cases h2:s=41
  ·simp[h2]
  ·simp[h,h2]
theorem lD:∀(ss:List Nat) (n:Nat),et n (ss.map cls)=et n ss
 | [],_=>rfl
 | s::ss,n=>by
  rw[List.map_cons,et,et,lD ss,lD ss,lD ss]
  simp only[B4,yT]
theorem uq(S:List Nat)(e:Nat):b8 (S.map cls) e=b8 S e:=by
 unfold b8
 rw[←List.map_take,←List.map_drop,lD]
theorem wz(S:List Nat):dT (S.map cls)=dT S:=by
 unfold dT
 rw[List.length_map]
 congr 1
 apply List.filter_congr
 intro e he
 obtain⟨i,hi,rfl⟩:=List.mem_map.mp he
 have hi':=List.mem_range.mp hi
 have hlt:i+3 - 1<S.length:=by(first|lia|omega)
 have:(S.map cls).getD (i+3 - 1) 0=cls (S.getD (i+3 - 1) 0):=by rw[List.getD,List.getD,List.getElem?_map,List.getElem?_eq_getElem hlt];rfl
 rw[this]
 simp only[yT]
theorem yr{L:List Nat}(hL:jP L)(t:SP):(bare t).length=(code L t).length:=by rw[←iT hL t,List.length_map]
theorem find_code{L:List Nat}(hL:jP L){s:Nat}{l r:SP}(h:aU (.node s l r)≤3):(dT (code L (.node s l r))).find? (b8 (code L (.node s l r)))=some ((code L l).length+1):=by
 have:=uM s l r h
 rw[←iT hL (.node s l r),wz,yr hL]at this
 have e:b8 ((code L (.node s l r)).map cls)=b8 (code L (.node s l r)):=funext λe=>uq _ e
 rw[e]at this
 exact this
theorem fm{L:List Nat}:∀t:SP,(code L t).length=1+4*aU t
 | .leaf i=>rfl
 | .node s l r=>by
  show ([40]++code L l++[bD s]++code L r++[41]).length=_
  simp only[List.length_append,fm l,fm r,aU,List.length_cons,List.length_nil]
  (first|lia|omega)
noncomputable def cK(s:Nat):Int:=if s=0 then 16 else 18
noncomputable def fe(L:List Nat):Nat→SP→D
 | _,.leaf i=>.tup [chD (L.getD i 0)]
 | n,.node s l r=>.tup [.int (cK s),.int ((n+2:Nat):Int),fe L (n+1) l,fe L (n+1+aU l) r]
noncomputable def cQ:SP→Nat
 | .leaf _=>0
 | .node _ l r=>1+max (cQ l) (cQ r)
noncomputable abbrev a8:D:=.tup [.lst [.bool true,.bool true],.lst [.bool true,.bool true]]
theorem yt(s:Nat):bN ⟨#[bD s]⟩=some (cK s):=by
 have t3:bN ⟨#[42]⟩=some 16:=by decide +kernel
 have t4:bN ⟨#[124]⟩=some 18:=by decide +kernel
 unfold bD cK
 split
 ·exact t3
 ·exact t4
noncomputable abbrev bK(l:List (Nat×Nat)):D:=.lst (l.map λq=>aE (txt q))
theorem sq(l:List (Nat×Nat)):bK l=.lst ((l.map txt).map aE):=by rw[List.map_map];rfl
theorem u6{l:List (Nat×Nat)}(h1:p Γ c=some (bK l,c1))(hl:l.length≤100):bO "str" dg (aZ ⟨#[]⟩) (ag p aw) Γ c=some (aE (l.map txt).flatten,c1):=by
 rw[sq]at h1
 exact jH h1 (by have:=fi l;(first|lia|omega))
theorem lN{l:List (Nat×Nat)}(hs:∀q∈l,cU q.2)(hl:l.length≤100)(h1:p Γ c=some (bK l,c1)):aI dw (aF (bO "str" dg (aZ ⟨#[]⟩) (ag p aw)) aW) Γ c=some (.bool (et 0 (l.map (·.2))),c1):=cP (u6 h1 hl) (qw hs hl)
end
end Mine
namespace Mine
section
variable{Γ:List Slot}{c c1 c2 c3:List Cell}{p q r:PE}{ps:PL}{d a b:D}{ds:List D}{α:Type}
noncomputable abbrev Bf(self:PF):PS:=(ak (qIf (cV (aI dw (aF (bO "str" dg (aZ ⟨#[]⟩) (ag (aV (aa 0) (aP (ah 1)) (aP (aa 4)) (aA)) (aw))) (aW)))) (ak (dK 2 (aa 4)) (ak (bf 5 (ao .Add (gD 2) (ah 1))) (ak (dS (de (ag (mq bN (a9 (aa 1) (aa 4))) (ag (aa 5) (ag (aI self (aF (aV (aa 0) (aP (ah 1)) (aP (aa 4)) (aA)) (aF (aV (aa 1) (aP (ah 1)) (aP (aa 4)) (aA)) (d5 2 (d5 3 (aW)))))) (ag (aI self (aF (aV (aa 0) (aP (ao .Add (aa 4) (ah 1))) (aP (gJ (ah 1))) (aA)) (aF (aV (aa 1) (aP (ao .Add (aa 4) (ah 1))) (aP (gJ (ah 1))) (aA)) (d5 2 (d5 3 (aW)))))) (aw))))))) (aG)))) (aG)) (aG))
noncomputable abbrev CX:PE:=(ao .Add (aK (ag (ah 2) (aw))) (aX [none,some 1] (bu cL (ag (ah 3) (ag (ao .Sub (bo d9 (ag (aa 1) (aw))) (ah 1)) (aw)))) (.n 0) (aD .Eq (a9 (aa 1) (ao .Sub (aa 0) (ah 1))) (aZ ⟨#[41]⟩)) (aQ (aa 0))))
theorem BA{s ch:Nat}:fy .Eq (chD s) (.str ⟨#[ch]⟩)=some (decide (s=ch)):=by
 show some (decide ((⟨#[s]⟩:Str)=⟨#[ch]⟩))=_
 congr 1
 apply decide_eq_decide.mpr
 constructor
 ·intro h
  have:=congrArg (λx:Str=>x.cps.toList) h
  simpa using this
 ·rintro rfl;rfl
theorem fr2{a b:Int}(ha:(-1000000:Int)<a∧a<1000000)(hb:(-1000000:Int)<b∧b<1000000):cL [.int a,.int b]=some (eO a b):=if_pos ⟨ha,hb⟩
theorem B9{n:Nat}(hn:3≤n)(h:(-1000000:Int)<(n:Int)∧(n:Int)<1000000):cL [.int 3,.int (n:Int)]=some (((List.range (n - 3)).map (·+3)).map λ(k:Nat)=>D.int (k:Int)):=by
 have e:cL [.int 3,.int (n:Int)]=some (eO 3 n):=fr2 ⟨by decide,by decide⟩ h
 rw[e]
 unfold eO
 have:((n:Int) - 3).toNat=n - 3:=by(first|lia|omega)
 rw[this,List.map_map]
 refine congrArg some (List.map_congr_left ?_)
 intro k _
 show D.int (3+(k:Int))=D.int ((k+3:Nat):Int)
 exact congrArg D.int (by(first|lia|omega))
theorem B6{n:Nat}(h:n≤900):(-1000000:Int)<(n:Int)∧(n:Int)<1000000:=⟨by(first|lia|omega),by(first|lia|omega)⟩
theorem z0{S:List Nat}{w0 w2 w3 w4 w5:Slot}(hS:4≤S.length∧S.length≤100):CX [w0,.val (sgD S),w2,w3,w4,w5] c=some (av (dT S),c):=by
 have hl:ao .Sub (bo d9 (ag (aa 1) (aw))) (ah 1) [w0,.val (sgD S),w2,w3,w4,w5] c=some (.int ((S.length - 1:Nat):Int),c):=by
  refine(aT (op:=.Sub) (kr (ab (i:=1) rfl) (by rw[List.length_map];(first|lia|omega))) (ay (i:=1)) jh).trans ?_
  rw[List.length_map,show (S.length:Int) - 1=((S.length - 1:Nat):Int)by(first|lia|omega)]
 have e1:=iN (Γ:=[w0,.val (sgD S),w2,w3,w4,w5]) (c:=c) (js:=[none,some 1]) (i:=0) (t:=aD .Eq (a9 (aa 1) (ao .Sub (aa 0) (ah 1))) (aZ ⟨#[41]⟩)) (p:=aa 0) (c1:=c)
  (λd=>match d with|.int e=>decide (S.getD (e.toNat - 1) 0=41)|_=>false) (λd=>d) (fL (au (ay (i:=3)) (au hl aB)) (B9 (by(first|lia|omega)) (B6 (by(first|lia|omega))))) ?_ (λd _ _=>ab (i:=0) rfl) (by rw[List.length_map,List.length_map,List.length_range];(first|lia|omega))
 ·refine(aT (op:=.Add) (aY (au (ay (i:=((2:Nat):Int))) aB) (Nat.le_of_ble_eq_true rfl)) e1 (dn ?_)).trans ?_
  ·rw[List.length_map]
   refine Nat.le_trans (Nat.add_le_add_left (List.length_filter_le _ _) _) ?_
   rw[List.length_map,List.length_map,List.length_range]
   show 1+_≤_
   (first|lia|omega)
  ·rw[List.map_id']
   unfold dT av
   rw[List.map_append,List.filter_map]
   congr 3
 ·intro d hd
  obtain⟨e,he,rfl⟩:=List.mem_map.mp hd
  obtain⟨i,hi,rfl⟩:=List.mem_map.mp he
  have hi':=List.mem_range.mp hi
  have hsub:ao .Sub (aa 0) (ah 1) [.val (.int ((i+3:Nat):Int)),.val (sgD S)] c=some (.int ((i+3 - 1:Nat):Int),c):=by
   refine(aT (op:=.Sub) (ab (i:=0) rfl) (ay (i:=1)) jh).trans ?_
   rw[show ((i+3:Nat):Int) - 1=((i+3 - 1:Nat):Int)by(first|lia|omega)]
  have hlt:i+3 - 1<S.length:=by(first|lia|omega)
  have hg:(S.map chD)[i+3 - 1]?=some (chD (S.getD (i+3 - 1) 0)):=by rw[List.getElem?_map,List.getD,List.getElem?_eq_getElem hlt];rfl
  show aD .Eq _ _ [.val (.int ((i+3:Nat):Int)),.val (sgD S)] c=some (decide (S.getD (((i+3:Nat):Int).toNat - 1) 0=41),c)
  rw[Int.toNat_natCast]
  exact bb (cJ (ab (i:=1) rfl) hsub (by(first|lia|omega)) hg) bF BA
theorem nh{S:List Nat}{k:Nat}{R:D}{w0 w1 w2 w3 w5:Slot}{body:PS}{Γ':List Slot}{c':List Cell}(hfail:∀e,b8 S e=false→e∈dT S→body [w0,w1,w2,w3,.val (.int (e:Int)),w5] c=some (.next,[w0,w1,w2,w3,.val (.int (e:Int)),w5],c))
  (hsucc:body [w0,w1,w2,w3,.val (.int (k:Int)),w5] c=some (.ret R,Γ',c')):∀(es:List Nat) (w4:Slot),(∀e∈es,e∈dT S)→es.find? (b8 S)=some k→bG (.n 4) body (es.map λ(e:Nat)=>D.int (e:Int)) [w0,w1,w2,w3,w4,w5] c=some (.ret R,Γ',c')
 | [],_,_,h=>by cases h
 | e::es,w4,hm,h=>by
  rw[List.map_cons]
  rw[List.find?_cons]at h
  cases hf:b8 S e with
  | true=>
   rw[hf]at h
   cases h
   exact ye rfl hsucc
  | false=>
   rw[hf]at h
   exact bR rfl (hfail e hf (hm e (.head _))) (nh hfail hsucc es _ (λx hx=>hm x (.tail _ hx)) h)
theorem rH{S:List Nat}{e:Nat}(hS:4≤S.length)(h:e∈dT S):2≤e∧e≤S.length:=by
 unfold dT at h
 rcases List.mem_append.mp h with h|h
 ·rw[List.mem_singleton.mp h];(first|lia|omega)
 ·obtain⟨i,hi,rfl⟩:=List.mem_map.mp (List.mem_filter.mp h).1
  have:=List.mem_range.mp hi
  (first|lia|omega)
theorem set_same{k:Nat}{x:Cell}(h:c[k]?=some x):c.set k x=c:=by
 obtain⟨hlt,e⟩:=List.getElem?_eq_some_iff.mp h
 rw[←e,List.set_getElem_self]
theorem lX{k j:Nat}{x:Cell}(h:k≠j):(c.set k x)[j]?=c[j]?:=List.getElem?_set_ne h
theorem gZ{k:Nat}{x:Cell}(h:k<c.length):(c.set k x)[k]?=some x:=List.getElem?_set_self h
end
end Mine
end
section
open PySem PySem.Calls PySem.Spec PyProof PyProof.Rows PySem.W
set_option maxRecDepth 20000
set_option maxHeartbeats 1000000
namespace Mine
section
variable{Γ:List Slot}{c c1 c2 c3:List Cell}{p q r:PE}{ps:PL}{d a b:D}{ds:List D}{α:Type}
theorem CC(l:List (Nat×Nat))(k:Nat):(l.map λq=>aE (txt q)).take k=(l.take k).map λq=>aE (txt q):=by rw[List.map_take]
theorem CB(l:List (Nat×Nat))(k:Nat):(l.map λq=>aE (txt q)).drop k=(l.drop k).map λq=>aE (txt q):=by rw[List.map_drop]
theorem lx{l:List α}{f:α→D}{i k:Nat}(hp:p Γ c=some (.lst (l.map f),c))(h1:q Γ c=some (.int (i:Int),c))(h2:r Γ c=some (.int (k:Int),c))(hi:i≤l.length)(hk:k≤l.length)(hl:l.length≤100) :
  aV p (aP q) (aP r) aA Γ c=some (.lst (((l.take k).drop i).map f),c):=by
 refine(cS hp (cx h1) (cx h2) bp (jy (by rw[List.length_map];(first|lia|omega)))).trans ?_
 rw[uv _ (by rw[List.length_map];exact hi) (by rw[List.length_map];exact hk),←List.map_take,←List.map_drop]
theorem sx{l:List α}{f:α→D}{i:Nat}(hp:p Γ c=some (.lst (l.map f),c))(h1:q Γ c=some (.int (i:Int),c))(hi:i≤l.length)(h0:1≤l.length)(hl:l.length≤100) :
  aV p (aP q) (aP (gJ (ah 1))) aA Γ c=some (.lst (((l.take (l.length - 1)).drop i).map f),c):=by
 refine(cS hp (cx h1) (cx (oo (ay (i:=1)))) bp (jy (by rw[List.length_map];(first|lia|omega)))).trans ?_
 have:=vj (l.map f) (i:=i) (by rw[List.length_map];exact hi) (by rw[List.length_map];exact h0)
 rw[show (-(1:Int))=-1 from rfl,this,List.length_map,←List.map_take,←List.map_drop]
theorem o9{L:List Nat}(hL:jP L):∀(t:SP) (m:Nat) (l:List (Nat×Nat)) (c:List Cell) (kn ka:Nat) (nodes as:List D),cQ t<m→aU t≤3→l.map (·.2)=code L t→(∀q∈l,cU q.2)→
  c[kn]?=some (.lst nodes)→c[ka]?=some (.lst as)→kn≠ka→nodes.length+aU t≤50→as.length+aU t≤1000→
  ∃nodes',nodes'.length=nodes.length+aU t∧e7 m [.val (bK l),.val (sgD (code L t)),.ref kn,.ref ka] c=some (fe L nodes.length t,(c.set kn (.lst nodes')).set ka (.lst (as++List.replicate (aU t) a8)))
 | .leaf i,m+1,l,c,kn,ka,nodes,as,_,_,hS,hs,hn,ha,hne,_,_=>by
  refine⟨nodes,rfl,?_⟩
  have e:(c.set kn (.lst nodes)).set ka (.lst (as++List.replicate (aU (.leaf i)) a8))=c:=by
   rw[set_same hn]
   show c.set ka (.lst (as++[]))=c
   rw[List.append_nil,set_same ha]
  rw[e]
  have hq:kl (e7 m) [.val (bK l),.val (sgD [L.getD i 0]),.ref kn,.ref ka,.un,.un] c=some (.ret (.tup [chD (L.getD i 0)]),[.val (bK l),.val (sgD [L.getD i 0]),.ref kn,.ref ka,.un,.un],c):=
   cp ((eA (bb (kr (ab (i:=1) rfl) (Nat.le_of_ble_eq_true rfl)) (ay (i:=1)) rfl)).trans (cp (dY (jw (au (fx (ab (i:=1) rfl) (ay (i:=0)) (xt (by decide) rfl)) aB) (Nat.le_of_ble_eq_true rfl)))))
  show cB 6 4 (kl (e7 m)) _ c=_
  unfold cB
  have h4:[Slot.val (bK l),.val (sgD (code L (.leaf i))),.ref kn,.ref ka].length=4:=rfl
  rw[if_pos h4]
  have hsf:setFrom 0 [.val (bK l),.val (sgD (code L (.leaf i))),.ref kn,.ref ka] (List.replicate 6 .un)=[.val (bK l),.val (sgD [L.getD i 0]),.ref kn,.ref ka,.un,.un]:=rfl
  rw[hsf,hq]
  show (some (_,c.take c.length):Option (D×List Cell))=_
  rw[List.take_length];rfl
 | .node s tl tr,m+1,l,c,kn,ka,nodes,as,hm,h3,hS,hs,hn,ha,hne,hn5,ha5=>by
  have hsz:aU (.node s tl tr)=1+aU tl+aU tr:=rfl
  have hht:cQ (.node s tl tr)=1+max (cQ tl) (cQ tr):=rfl
  have hlen:l.length=1+4*aU (.node s tl tr):=by rw[←List.length_map (f:=(·.2)) (as:=l),hS,fm]
  have hla:=fm (L:=L) tl
  have hlb:=fm (L:=L) tr
  have hSl:(code L (.node s tl tr)).length=l.length:=by rw[hlen,fm]
  have hCode:code L (.node s tl tr)=40::(code L tl++(bD s::(code L tr++[41]))):=by
   rw[j7];simp
  generalize hA:(code L tl).length=A at*
  generalize hB:(code L tr).length=B at*
  have hn1:l.length=A+B+3:=by(first|lia|omega)
  have hkn:kn<c.length:=(List.getElem?_eq_some_iff.mp hn).1
  have hka:ka<c.length:=(List.getElem?_eq_some_iff.mp ha).1
  have pl:((l.take (A+1)).drop 1).map (·.2)=code L tl:=by
   rw[List.map_drop,List.map_take,hS,hCode,←hA,List.take_succ_cons,List.drop_succ_cons,List.drop_zero,List.take_left' rfl]
  have pr:((l.take (l.length - 1)).drop (A+2)).map (·.2)=code L tr:=by
   rw[List.map_drop,List.map_take,hS]
   have e:code L (.node s tl tr)=(40::(code L tl++[bD s]))++(code L tr++[41]):=by rw[hCode];simp
   rw[e,List.take_append,List.drop_append]
   have hl1:(40::(code L tl++[bD s])).length=A+2:=by simp[hA]
   rw[hl1,List.take_of_length_le (by rw[hl1];(first|lia|omega)),List.drop_eq_nil_of_le (by rw[hl1];exact Nat.le_refl _)]
   simp only[hl1,Nat.sub_self,List.drop_zero,List.nil_append]
   rw[show l.length - 1 - (A+2)=B by(first|lia|omega),List.take_left' hB]
  have sl:∀q∈(l.take (A+1)).drop 1,cU q.2:=λq hq=>hs q (List.mem_of_mem_take (List.mem_of_mem_drop hq))
  have sr:∀q∈(l.take (l.length - 1)).drop (A+2),cU q.2:=λq hq=>hs q (List.mem_of_mem_take (List.mem_of_mem_drop hq))
  have x1:gv .Is (aI dw (aF (bO "str" dg (aZ ⟨#[]⟩) (ag (aa 0) (aw))) (aW))) (b7 true) [.val (bK l),.val (sgD (code L (.node s tl tr))),.ref kn,.ref ka,.un,.un] c=some (.bool true,c):=by
   have hb:et 0 (l.map (·.2))=true:=by
    rw[hS]
    have:=gC hL (.node s tl tr) 0 []
    rw[List.append_nil]at this
    rw[this];rfl
   have:=lN (Γ:=[.val (bK l),.val (sgD (code L (.node s tl tr))),.ref kn,.ref ka,.un,.un]) (c:=c) hs (by(first|lia|omega)) (ab (i:=0) rfl)
   rw[hb]at this
   exact gh this cm rfl
  have x2:gv .Is (aI dw (aF (bO "str" dg (aZ ⟨#[]⟩) (ag (ao .Add (aV (aa 0) (aP (gJ (ah 1))) (aA) (aA)) (aV (aa 0) (aA) (aP (ah 1)) (aA))) (aw))) (aW))) (b7 false) [.val (bK l),.val (sgD (code L (.node s tl tr))),.ref kn,.ref ka,.un,.un] c=some (.bool true,c):=by
   have y:ao .Add (aV (aa 0) (aP (gJ (ah 1))) (aA) (aA)) (aV (aa 0) (aA) (aP (ah 1)) (aA)) [.val (bK l),.val (sgD (code L (.node s tl tr))),.ref kn,.ref ka,.un,.un] c=some (bK (l.drop (l.length - 1)++l.take 1),c):=by
    have s1:=qL (l.map λq=>aE (txt q)) (by rw[List.length_map];(first|lia|omega))
    have s2:=iH (l.map λq=>aE (txt q)) (k:=1) (by rw[List.length_map];(first|lia|omega))
    have hle:(l.drop (l.length - 1)).length≤1:=by rw[List.length_drop];(first|lia|omega)
    have hle2:(l.take 1).length≤1:=by rw[List.length_take];(first|lia|omega)
    rw[List.length_map,←List.map_drop]at s1
    rw[←List.map_take]at s2
    refine(aT (op:=.Add) (cS (ab (i:=0) rfl) (cx (oo (ay (i:=1)))) bp bp ((jy (by rw[List.length_map];(first|lia|omega))).trans (congrArg (λz=>some (D.lst z)) s1)))
     (cS (ab (i:=0) rfl) bp (cx (ay (i:=((1:Nat):Int)))) bp ((jy (by rw[List.length_map];(first|lia|omega))).trans (congrArg (λz=>some (D.lst z)) s2))) (dn (by rw[List.length_map,List.length_map];(first|lia|omega)))).trans ?_
    rw[←List.map_append]
   have hs2:∀q∈l.drop (l.length - 1)++l.take 1,cU q.2:=λq hq=>(List.mem_append.mp hq).elim (λh=>hs q (List.mem_of_mem_drop h)) (λh=>hs q (List.mem_of_mem_take h))
   have hb:(l.drop (l.length - 1)++l.take 1).map (·.2)=[41,40]:=by
    rw[List.map_append,List.map_drop,List.map_take,hS]
    have e1:(code L (.node s tl tr)).drop (l.length - 1)=[41]:=by
     rw[j7]
     exact List.drop_left' (by simp[hA,hB];(first|lia|omega))
    rw[e1,hCode];rfl
   have:=lN (Γ:=[.val (bK l),.val (sgD (code L (.node s tl tr))),.ref kn,.ref ka,.un,.un]) (c:=c) hs2 (by rw[List.length_append,List.length_drop,List.length_take];(first|lia|omega)) y
   rw[hb]at this
   exact gh this cm rfl
  have hask:dK 3 (de (ag (aK (ag (gv .Is (aI dw (aF (bO "str" dg (aZ ⟨#[]⟩) (ag (aa 0) (aw))) (aW))) (b7 true)) (ag (gv .Is (aI dw (aF (bO "str" dg (aZ ⟨#[]⟩) (ag (ao .Add (aV (aa 0) (aP (gJ (ah 1))) (aA) (aA)) (aV (aa 0) (aA) (aP (ah 1)) (aA))) (aw))) (aW))) (b7 false)) (aw)))) (ag (aK (ag (b7 true) (ag (b7 true) (aw)))) (aw)))) [.val (bK l),.val (sgD (code L (.node s tl tr))),.ref kn,.ref ka,.un,.un] c=
    some (.next,[.val (bK l),.val (sgD (code L (.node s tl tr))),.ref kn,.ref ka,.un,.un],c.set ka (.lst (as++[a8]))):=
   jc (k:=ka) rfl ⟨_,ha⟩ (cj (aY (au x1 (au x2 aB)) (Nat.le_of_ble_eq_true rfl)) (aY (au cm (au cm aB)) (Nat.le_of_ble_eq_true rfl))) ha (by(first|lia|omega))
  have hlen1:aD .Eq (bo d9 (ag (aa 1) (aw))) (ah 1) [.val (bK l),.val (sgD (code L (.node s tl tr))),.ref kn,.ref ka,.un,.un] c=some (false,c):=by
   refine(bb (kr (ab (i:=1) rfl) (by rw[List.length_map,hSl];(first|lia|omega))) (ay (i:=1)) je).trans ?_
   rw[List.length_map,hSl]
   congr 2
   exact beq_eq_false_iff_ne.mpr (by(first|lia|omega))
  have hfind:=find_code hL h3
  rw[hA]at hfind
  have hc1kn:(c.set ka (.lst (as++[a8])))[kn]?=some (.lst nodes):=by rw[lX (Ne.symm hne)];exact hn
  have hc1ka:(c.set ka (.lst (as++[a8])))[ka]?=some (.lst (as++[a8])):=gZ hka
  have hc1len:(c.set ka (.lst (as++[a8]))).length=c.length:=List.length_set
  generalize hC1:c.set ka (.lst (as++[a8]))=C1 at*
  generalize hSS:code L (.node s tl tr)=S at*
  have chk:∀(e:Nat) (w5:Slot),1≤e→e≤l.length→cV (aI dw (aF (bO "str" dg (aZ ⟨#[]⟩) (ag (aV (aa 0) (aP (ah 1)) (aP (aa 4)) (aA)) (aw))) (aW))) [.val (bK l),.val (sgD S),.ref kn,.ref ka,.val (.int (e:Int)),w5] C1=some (b8 S e,C1):=by
   intro e w5 h1 h2
   have y:=lx (Γ:=[.val (bK l),.val (sgD S),.ref kn,.ref ka,.val (.int (e:Int)),w5]) (c:=C1) (i:=1) (ab (i:=0) rfl) ay (ab (i:=4) rfl) (by(first|lia|omega)) h2 (by(first|lia|omega))
   have:=lN (λq hq=>hs q (List.mem_of_mem_take (List.mem_of_mem_drop hq))) (by rw[List.length_drop,List.length_take];(first|lia|omega)) y
   rw[List.map_drop,List.map_take,hS]at this
   exact gQ this rfl
  have hcand:∀e∈dT S,2≤e∧e≤S.length:=λe he=>rH (by(first|lia|omega)) he
  have fails:∀e,b8 S e=false→e∈dT S→Bf (e7 m) [.val (bK l),.val (sgD S),.ref kn,.ref ka,.val (.int (e:Int)),.un] C1=some (.next,[.val (bK l),.val (sgD S),.ref kn,.ref ka,.val (.int (e:Int)),.un],C1):=by
   intro e he hm2
   have:=hcand e hm2
   exact bC ((dZ (g:=aG) ((chk e .un (by(first|lia|omega)) (by(first|lia|omega))).trans (by rw[he]))).trans rfl) rfl
  have htrue:b8 S (A+1)=true:=List.find?_some hfind
  have happ:dK 2 (aa 4) [.val (bK l),.val (sgD S),.ref kn,.ref ka,.val (.int ((A+1:Nat):Int)),.un] C1=some (.next,[.val (bK l),.val (sgD S),.ref kn,.ref ka,.val (.int ((A+1:Nat):Int)),.un],C1.set kn (.lst (nodes++[D.int ((A+1:Nat):Int)]))):=
   jc (k:=kn) rfl ⟨_,hc1kn⟩ (ab (i:=4) rfl) hc1kn (by(first|lia|omega))
  have hc2kn:(C1.set kn (.lst (nodes++[D.int ((A+1:Nat):Int)])))[kn]?=some (.lst (nodes++[D.int ((A+1:Nat):Int)])):=gZ (by rw[hc1len];exact hkn)
  have hc2ka:(C1.set kn (.lst (nodes++[D.int ((A+1:Nat):Int)])))[ka]?=some (.lst (as++[a8])):=by rw[lX hne];exact hc1ka
  have hnl:(nodes++[D.int ((A+1:Nat):Int)]).length=nodes.length+1:=by rw[List.length_append];rfl
  have hc2len:(C1.set kn (.lst (nodes++[D.int ((A+1:Nat):Int)]))).length=c.length:=by rw[List.length_set,hc1len]
  have hC2:C1.set kn (.lst (nodes++[D.int ((A+1:Nat):Int)]))=(c.set kn (.lst (nodes++[D.int ((A+1:Nat):Int)]))).set ka (.lst (as++[a8])):=by rw[←hC1,List.set_comm _ _ (Ne.symm hne)]
  generalize hN2:nodes++[D.int ((A+1:Nat):Int)]=N2 at*
  generalize hCC2:C1.set kn (.lst N2)=C2 at*
  have hnum:ao .Add (gD 2) (ah 1) [.val (bK l),.val (sgD S),.ref kn,.ref ka,.val (.int ((A+1:Nat):Int)),.un] C2=some (.int ((nodes.length+2:Nat):Int),C2):=by
   have h1:gD 2 [.val (bK l),.val (sgD S),.ref kn,.ref ka,.val (.int ((A+1:Nat):Int)),.un] C2=some (.int ((nodes.length+1:Nat):Int),C2):=by
    unfold gD hZ
    show Option.bind (match C2[kn]? with|some (.lst _)=>some kn|_=>none) _=_
    rw[hc2kn]
    simp only[Option.bind_some]
    rw[hc2kn]
    simp only[]
    rw[if_pos (by(first|lia|omega)),hnl]
   exact dA (a:=nodes.length+1) h1 (ay (i:=((1:Nat):Int)))
  obtain⟨n3,hn3,e3⟩:=o9 hL tl m ((l.take (A+1)).drop 1) C2 kn ka N2 (as++[a8]) (by(first|lia|omega)) (by(first|lia|omega)) pl sl hc2kn hc2ka hne (by(first|lia|omega)) (by rw[List.length_append];simp only[List.length_cons,List.length_nil];(first|lia|omega))
  have hc3kn:((C2.set kn (.lst n3)).set ka (.lst (as++[a8]++List.replicate (aU tl) a8)))[kn]?=some (.lst n3):=by rw[lX (Ne.symm hne)];exact gZ (by rw[hc2len];exact hkn)
  have hc3ka:((C2.set kn (.lst n3)).set ka (.lst (as++[a8]++List.replicate (aU tl) a8)))[ka]?=some (.lst (as++[a8]++List.replicate (aU tl) a8)):=gZ (by rw[List.length_set,hc2len];exact hka)
  have hC3:∀(x y:Cell),(((C2.set kn (.lst n3)).set ka (.lst (as++[a8]++List.replicate (aU tl) a8))).set kn x).set ka y=(c.set kn x).set ka y:=by
   intro x y
   rw[hC2]
   rw[List.set_comm (l:=((c.set kn (.lst N2)).set ka (.lst (as++[a8]))).set kn (.lst n3)) _ _ (Ne.symm hne),List.set_set,List.set_set,List.set_comm (l:=c.set kn (.lst N2)) _ _ (Ne.symm hne),List.set_set,List.set_set]
  generalize hCC3:(C2.set kn (.lst n3)).set ka (.lst (as++[a8]++List.replicate (aU tl) a8))=C3 at*
  obtain⟨n4,hn4,e4⟩:=o9 hL tr m ((l.take (l.length - 1)).drop (A+2)) C3 kn ka n3 (as++[a8]++List.replicate (aU tl) a8) (by(first|lia|omega)) (by(first|lia|omega)) pr sr hc3kn hc3ka hne (by(first|lia|omega)) (by rw[List.length_append,List.length_append,List.length_replicate];simp only[List.length_cons,List.length_nil];(first|lia|omega))
  rw[hC3]at e4
  have hlast:as++[a8]++List.replicate (aU tl) a8++List.replicate (aU tr) a8=as++List.replicate (aU (.node s tl tr)) a8:=by
   rw[List.append_assoc,List.append_assoc,hsz,List.replicate_append_replicate]
   congr 1
   rw[show 1+aU tl+aU tr=(aU tl+aU tr)+1 by(first|lia|omega),List.replicate_succ];rfl
  rw[hlast]at e4
  refine⟨n4,by(first|lia|omega),?_⟩
  have hstar:mq bN (a9 (aa 1) (aa 4)) [.val (bK l),.val (sgD S),.ref kn,.ref ka,.val (.int ((A+1:Nat):Int)),.val (.int ((nodes.length+2:Nat):Int))] C2=some (.int (cK s),C2):=by
   have hg:(S.map chD)[A+1]?=some (chD (bD s)):=by
    rw[List.getElem?_map]
    have:S[A+1]?=some (bD s):=by
     rw[hCode,List.getElem?_cons_succ,List.getElem?_append_right (by(first|lia|omega)),hA,Nat.sub_self];rfl
    rw[this];rfl
   exact kC (cJ (ab (i:=1) rfl) (ab (i:=4) rfl) (by(first|lia|omega)) hg) (yt s)
  have left:aI (e7 m) (aF (aV (aa 0) (aP (ah 1)) (aP (aa 4)) (aA)) (aF (aV (aa 1) (aP (ah 1)) (aP (aa 4)) (aA)) (d5 2 (d5 3 (aW))))) [.val (bK l),.val (sgD S),.ref kn,.ref ka,.val (.int ((A+1:Nat):Int)),.val (.int ((nodes.length+2:Nat):Int))] C2=some (fe L (nodes.length+1) tl,C3):=by
   have y1:=lx (Γ:=[.val (bK l),.val (sgD S),.ref kn,.ref ka,.val (.int ((A+1:Nat):Int)),.val (.int ((nodes.length+2:Nat):Int))]) (c:=C2) (i:=1) (ab (i:=0) rfl) ay (ab (i:=4) rfl) (by(first|lia|omega)) (by(first|lia|omega)) (by(first|lia|omega))
   have y2:=lx (Γ:=[.val (bK l),.val (sgD S),.ref kn,.ref ka,.val (.int ((A+1:Nat):Int)),.val (.int ((nodes.length+2:Nat):Int))]) (c:=C2) (i:=1) (l:=S) (f:=chD) (ab (i:=1) rfl) ay (ab (i:=4) rfl) (by(first|lia|omega)) (by(first|lia|omega)) (by(first|lia|omega))
   rw[←hS,←List.map_take,←List.map_drop,pl]at y2
   rw[hnl]at e3
   rw[hS]at y2
   exact gq (cq y1 (cq y2 (fP rfl (fP rfl eJ)))) e3
  have right:aI (e7 m) (aF (aV (aa 0) (aP (ao .Add (aa 4) (ah 1))) (aP (gJ (ah 1))) (aA)) (aF (aV (aa 1) (aP (ao .Add (aa 4) (ah 1))) (aP (gJ (ah 1))) (aA)) (d5 2 (d5 3 (aW))))) [.val (bK l),.val (sgD S),.ref kn,.ref ka,.val (.int ((A+1:Nat):Int)),.val (.int ((nodes.length+2:Nat):Int))] C3=some (fe L (nodes.length+1+aU tl) tr,(c.set kn (.lst n4)).set ka (.lst (as++List.replicate (aU (.node s tl tr)) a8))):=by
   have hk2:ao .Add (aa 4) (ah 1) [.val (bK l),.val (sgD S),.ref kn,.ref ka,.val (.int ((A+1:Nat):Int)),.val (.int ((nodes.length+2:Nat):Int))] C3=some (.int ((A+2:Nat):Int),C3):=dA (a:=A+1) (ab (i:=4) rfl) (ay (i:=((1:Nat):Int)))
   have y1:=sx (Γ:=[.val (bK l),.val (sgD S),.ref kn,.ref ka,.val (.int ((A+1:Nat):Int)),.val (.int ((nodes.length+2:Nat):Int))]) (c:=C3) (ab (i:=0) rfl) hk2 (by(first|lia|omega)) (by(first|lia|omega)) (by(first|lia|omega))
   have y2:=sx (Γ:=[.val (bK l),.val (sgD S),.ref kn,.ref ka,.val (.int ((A+1:Nat):Int)),.val (.int ((nodes.length+2:Nat):Int))]) (c:=C3) (l:=S) (f:=chD) (ab (i:=1) rfl) hk2 (by(first|lia|omega)) (by(first|lia|omega)) (by(first|lia|omega))
   rw[hSl,←hS,←List.map_take,←List.map_drop,pr,hS]at y2
   rw[show n3.length=nodes.length+1+aU tl by(first|lia|omega)]at e4
   exact gq (cq y1 (cq y2 (fP rfl (fP rfl eJ)))) e4
  have succ:Bf (e7 m) [.val (bK l),.val (sgD S),.ref kn,.ref ka,.val (.int ((A+1:Nat):Int)),.un] C1=some (.ret (fe L nodes.length (.node s tl tr)),[.val (bK l),.val (sgD S),.ref kn,.ref ka,.val (.int ((A+1:Nat):Int)),.val (.int ((nodes.length+2:Nat):Int))],(c.set kn (.lst n4)).set ka (.lst (as++List.replicate (aU (.node s tl tr)) a8))):=
   cp ((eA ((chk (A+1) .un (by(first|lia|omega)) (by(first|lia|omega))).trans (by rw[htrue]))).trans (aN happ (aN (bk hnum) (cp (dY (jw (au hstar (au (ab (i:=5) rfl) (au left (au right aB)))) (Nat.le_of_ble_eq_true rfl)))))))
  have hloop:=nh (S:=S) fails succ (dT S) .un (λe he=>he) hfind
  have hq:kl (e7 m) [.val (bK l),.val (sgD S),.ref kn,.ref ka,.un,.un] c=some (.ret (fe L nodes.length (.node s tl tr)),_,_):=
   aN ((dZ (g:=aG) hlen1).trans rfl) (aN hask (cp (qU (bZ (z0 ⟨by(first|lia|omega),by(first|lia|omega)⟩)) hloop)))
  show cB 6 4 (kl (e7 m)) _ c=_
  unfold cB
  have h4:[Slot.val (bK l),.val (sgD S),.ref kn,.ref ka].length=4:=rfl
  rw[if_pos h4]
  have hsf:setFrom 0 [.val (bK l),.val (sgD S),.ref kn,.ref ka] (List.replicate 6 .un)=[.val (bK l),.val (sgD S),.ref kn,.ref ka,.un,.un]:=rfl
  rw[hsf,hq]
  show (some (_,((c.set kn (.lst n4)).set ka (.lst (as++List.replicate (aU (.node s tl tr)) a8))).take c.length):Option (D×List Cell))=_
  rw[List.take_of_length_le (by rw[List.length_set,List.length_set];exact Nat.le_refl _)]
end
end Mine
namespace Mine
noncomputable def shapes:List SP:=(List.range 3).flatMap λk0=>(List.range 2).flatMap λk1=>(List.range 2).flatMap λb0=>(List.range 2).flatMap λb1=>(List.range 2).map λb2=>shapeOf k0 k1 0 b0 b1 b2
theorem uA(a0 a1 a2:Nat):shapeAt a0 a1 a2∈shapes:=by
 unfold shapeAt shapes
 have e:a2 / 10 % 12 % 1=0:=Nat.mod_one _
 rw[e]
 exact List.mem_flatMap.mpr ⟨_,List.mem_range.mpr (Nat.mod_lt _ (by decide)),List.mem_flatMap.mpr ⟨_,List.mem_range.mpr (Nat.mod_lt _ (by decide)),List.mem_flatMap.mpr ⟨_,List.mem_range.mpr (Nat.mod_lt _ (by decide)),List.mem_flatMap.mpr ⟨_,List.mem_range.mpr (Nat.mod_lt _ (by decide)),List.mem_map.mpr ⟨_,List.mem_range.mpr (Nat.mod_lt _ (by decide)),rfl⟩⟩⟩⟩⟩
noncomputable def fY:SP→List Nat
 | .leaf i=>[i]
 | .node _ l r=>fY l++fY r
noncomputable def isNode:SP→Bool
 | .leaf _=>false
 | .node ..=>true
theorem kW:∀t∈shapes,fY t=[0,1,2,3]∧aU t=3∧cQ t≤3∧isNode t=true:=by decide +kernel
section
variable{Γ:List Slot}{c c1 c2 c3:List Cell}{p q r:PE}{ps:PL}{d a b:D}{ds:List D}{α:Type}
theorem xn{L:List Nat}(hL:jP L){t:SP}{l:List (Nat×Nat)}{ka:Nat}{as:List D}(ht:cQ t≤3∧aU t≤3)(hS:l.map (·.2)=code L t)(hs:∀q∈l,cU q.2)(h15:Γ[15]?=some (.ref ka))(ha:c[ka]?=some (.lst as))(hla:as.length≤500)
  (h6:Γ[6]?=some (.val (bK l))) (h20:Γ[20]?=some (.val (sgD (code L t)))) :
  ∃cl,si Γ c=some (.next,aS 21 (fe L 0 t) Γ,c.set ka (.lst (as++List.replicate (aU t) a8))++[cl]):=by
 have hka:ka<c.length:=(List.getElem?_eq_some_iff.mp ha).1
 have g1:(c++[Cell.lst []])[c.length]?=some (.lst []):=by rw[List.getElem?_append_right (Nat.le_refl _)];simp
 have g2:(c++[Cell.lst []])[ka]?=some (.lst as):=by rw[List.getElem?_append_left hka];exact ha
 obtain⟨n',_,e⟩:=o9 hL t 9 l (c++[.lst []]) c.length ka [] as (by(first|lia|omega)) ht.2 hS hs g1 g2 (by(first|lia|omega)) (by simp;(first|lia|omega)) (by(first|lia|omega))
 refine⟨.lst n',?_⟩
 have h:=bk (i:=21) (gq (F:=e7 9) (cq (ab h6) (cq (ab h20) (xq (ps:=d5 15 aW) aB (Nat.zero_le _) (fP h15 eJ)))) e)
 refine h.trans ?_
 have e2:((c++[Cell.lst []]).set c.length (.lst n')).set ka (.lst (as++List.replicate (aU t) a8))=c.set ka (.lst (as++List.replicate (aU t) a8))++[.lst n']:=by
  rw[List.set_append_right _ _ (Nat.le_refl _),Nat.sub_self,List.set_append_left _ _ hka];rfl
 rw[e2];rfl
noncomputable def cE(al:Int):Nat→SP→Nat→Nat→List (Nat×Nat)
 | _,.leaf _,x,y=>[(x,y)]
 | n,.node s l r,x,y=>if cK s=al then cE al (n+1) l x (n+2)++cE al (n+1+aU l) r (n+2) y else cE al (n+1) l x y++cE al (n+1+aU l) r x y
noncomputable abbrev nnD(q:Nat×Nat):D:=.tup [.int (q.1:Int),.int (q.2:Int)]
theorem fG(al:Int):∀(t:SP) (n x y:Nat),(cE al n t x y).length=aU t+1
 | .leaf _,_,_,_=>rfl
 | .node s l r,n,x,y=>by
  rw[cE]
  split<;>rw[List.length_append,fG al l,fG al r,aU]<;>(first|lia|omega)
noncomputable def GE(m:Nat):List D→Option D:=dj (cB 4 4 (iU (fF m)))
theorem t9(m:Nat):fF (m+1)=ee (GE m):=rfl
theorem gz{G:List D→Option D}{p1 p2 p3 p4:PE}{d1 d2 d3 d4:D}(h1:p1 Γ c=some (d1,c))(h2:p2 Γ c=some (d2,c))(h3:p3 Γ c=some (d3,c))(h4:p4 Γ c=some (d4,c))(h:G [d1,d2,d3,d4]=some d) :
  aI (ee G) (aF p1 (aF p2 (aF p3 (aF p4 aW)))) Γ c=some (d,c):=jB (ds:=[d1,d2,d3,d4]) (cq h1 (cq h2 (cq h3 (cq h4 eJ)))) h
theorem sL(h:ds.length≤100000):d9 [.tup ds]=some (.int ds.length):=if_pos h
theorem jQ{L:List Nat}(al:Int):∀(t:SP) (m n x y:Nat),cQ t≤m→aU t≤50→GE m [fe L n t,.int (x:Int),.int (y:Int),.int al]=some (.lst ((cE al n t x y).map nnD))
 | .leaf i,m,n,x,y,_,_=>by
  have hq:iU (fF m) [.val (.tup [chD (L.getD i 0)]),.val (.int (x:Int)),.val (.int (y:Int)),.val (.int al)] []=some (.ret (.lst [nnD (x,y)]),[.val (.tup [chD (L.getD i 0)]),.val (.int (x:Int)),.val (.int (y:Int)),.val (.int al)],[]):=
   cp ((eA (bb (cy (F:=d9) (au (ab (i:=0) rfl) aB) (sL (Nat.le_of_ble_eq_true rfl))) (ay (i:=1)) rfl)).trans (cp (dY (aY (au (cj (ab (i:=1) rfl) (ab (i:=2) rfl)) aB) (Nat.le_of_ble_eq_true rfl)))))
  exact cu rfl hq
 | .node s l r,0,n,x,y,h,_=>by
  have:cQ (.node s l r)=1+max (cQ l) (cQ r):=rfl
  (first|lia|omega)
 | .node s l r,m+1,n,x,y,h,hsz=>by
  have hh:cQ (.node s l r)=1+max (cQ l) (cQ r):=rfl
  have hz:aU (.node s l r)=1+aU l+aU r:=rfl
  have hT:fe L n (.node s l r)=.tup [.int (cK s),.int ((n+2:Nat):Int),fe L (n+1) l,fe L (n+1+aU l) r]:=rfl
  rw[hT]
  generalize hTL:fe L (n+1) l=TL
  generalize hTR:fe L (n+1+aU l) r=TR
  have il:=λx y=>jQ (L:=L) al l m (n+1) x y (by(first|lia|omega)) (by(first|lia|omega))
  have ir:=λx y=>jQ (L:=L) al r m (n+1+aU l) x y (by(first|lia|omega)) (by(first|lia|omega))
  rw[hTL]at il
  rw[hTR]at ir
  have v0:aa 0 [.val (.tup [.int (cK s),.int ((n+2:Nat):Int),TL,TR]),.val (.int (x:Int)),.val (.int (y:Int)),.val (.int al)] []=some (.tup [.int (cK s),.int ((n+2:Nat):Int),TL,TR],[]):=ab rfl
  have vi:∀(i:Nat) (d:D),([.int (cK s),.int ((n+2:Nat):Int),TL,TR]:List D)[i]?=some d→i<900→a9 (aa 0) (ah (i:Int)) [.val (.tup [.int (cK s),.int ((n+2:Nat):Int),TL,TR]),.val (.int (x:Int)),.val (.int (y:Int)),.val (.int al)] []=some (d,[]):=by
   intro i d hd hi
   refine fx v0 ay (kN (ny hi) ?_)
   rw[og (List.getElem?_eq_some_iff.mp hd).1];exact hd
  have h1:aD .Eq (bo d9 (ag (aa 0) (aw))) (ah 1) [.val (.tup [.int (cK s),.int ((n+2:Nat):Int),TL,TR]),.val (.int (x:Int)),.val (.int (y:Int)),.val (.int al)] []=some (false,[]):=bb (cy (F:=d9) (au v0 aB) (sL (Nat.le_of_ble_eq_true rfl))) (ay (i:=1)) rfl
  have h2:aD .Eq (a9 (aa 0) (ah 0)) (aa 3) [.val (.tup [.int (cK s),.int ((n+2:Nat):Int),TL,TR]),.val (.int (x:Int)),.val (.int (y:Int)),.val (.int al)] []=some (decide (cK s=al),[]):=by
   refine(bb (vi 0 _ rfl (by decide)) (ab (i:=3) rfl) je).trans ?_
   congr 2
  by_cases ht:cK s=al
  ·have e:cE al n (.node s l r) x y=cE al (n+1) l x (n+2)++cE al (n+1+aU l) r (n+2) y:=by rw[cE,if_pos ht]
   rw[e,List.map_append]
   have hq:iU (fF (m+1)) [.val (.tup [.int (cK s),.int ((n+2:Nat):Int),TL,TR]),.val (.int (x:Int)),.val (.int (y:Int)),.val (.int al)] []=some (.ret (.lst ((cE al (n+1) l x (n+2)).map nnD++(cE al (n+1+aU l) r (n+2) y).map nnD)),[.val (.tup [.int (cK s),.int ((n+2:Nat):Int),TL,TR]),.val (.int (x:Int)),.val (.int (y:Int)),.val (.int al)],[]):=by
    refine aN ((dZ (g:=aG) h1).trans rfl) (cp ((eA (h2.trans (by rw[decide_eq_true ht]))).trans (cp (dY ?_))))
    rw[t9]
    exact aT (op:=.Add) (gz (vi 2 _ rfl (by decide)) (ab (i:=1) rfl) (vi 1 _ rfl (by decide)) (ab (i:=3) rfl) (il x (n+2))) (gz (vi 3 _ rfl (by decide)) (vi 1 _ rfl (by decide)) (ab (i:=2) rfl) (ab (i:=3) rfl) (ir (n+2) y)) (dn (by rw[List.length_map,List.length_map,fG,fG];(first|lia|omega)))
   exact cu rfl hq
  ·have e:cE al n (.node s l r) x y=cE al (n+1) l x y++cE al (n+1+aU l) r x y:=by rw[cE,if_neg ht]
   rw[e,List.map_append]
   have hq:iU (fF (m+1)) [.val (.tup [.int (cK s),.int ((n+2:Nat):Int),TL,TR]),.val (.int (x:Int)),.val (.int (y:Int)),.val (.int al)] []=some (.ret (.lst ((cE al (n+1) l x y).map nnD++(cE al (n+1+aU l) r x y).map nnD)),[.val (.tup [.int (cK s),.int ((n+2:Nat):Int),TL,TR]),.val (.int (x:Int)),.val (.int (y:Int)),.val (.int al)],[]):=by
    refine aN ((dZ (g:=aG) h1).trans rfl) (aN ((dZ (g:=aG) (h2.trans (by rw[decide_eq_false ht]))).trans rfl) (cp (dY ?_)))
    rw[t9]
    exact aT (op:=.Add) (gz (vi 2 _ rfl (by decide)) (ab (i:=1) rfl) (ab (i:=2) rfl) (ab (i:=3) rfl) (il x y)) (gz (vi 3 _ rfl (by decide)) (ab (i:=1) rfl) (ab (i:=2) rfl) (ab (i:=3) rfl) (ir x y)) (dn (by rw[List.length_map,List.length_map,fG,fG];(first|lia|omega)))
   exact cu rfl hq
theorem yb{L:List Nat}{t:SP}(ht:cQ t≤3∧aU t≤3)(h:Γ[21]?=some (.val (fe L 0 t))):sv Γ c=some (.next,aS 22 (.lst ((cE 16 0 t 0 1).map nnD)) Γ,c):=
 bk (gz (ab h) ay ay ay (jQ 16 t 8 0 0 1 (by(first|lia|omega)) (by(first|lia|omega))))
theorem yu{L:List Nat}{t:SP}(ht:cQ t≤3∧aU t≤3)(h:Γ[21]?=some (.val (fe L 0 t))):t5 Γ c=some (.next,aS 23 (.lst ((cE 18 0 t 0 0).map nnD)) Γ,c):=
 bk (gz (ab h) ay ay ay (jQ 18 t 8 0 0 0 (by(first|lia|omega)) (by(first|lia|omega))))
end
end Mine
namespace Mine
section
variable{Γ:List Slot}{c c1 c2 c3:List Cell}{p q r:PE}{ps:PL}{d a b:D}{ds:List D}{α:Type}
theorem qV{n:Int}(h:n.natAbs<2 ^ 32):PyData.weight (.int n)≤32:=by
 simp only[PyData.weight]
 split
 ·(first|lia|omega)
 ·rename_i h0
  have hn:n.natAbs≠0:=by
   intro q
   apply h0
   rw[Int.natAbs_eq_zero.mp q];rfl
  have:=(Nat.log2_lt hn).mpr h
  (first|lia|omega)
theorem kX:∀ns:List Int,(∀n∈ns,n.natAbs<2 ^ 32)→PyData.weightAll (ns.map PyData.int)≤33*ns.length∧PyData.canLayAll0 (ns.map PyData.int)=true∧PyData.depthAll (ns.map PyData.int)=0
 | [],_=>by simp[PyData.weightAll,PyData.canLayAll0,PyData.depthAll]
 | n::ns,h=>by
  obtain⟨h1,h2,h3⟩:=kX ns λx hx=>h x (.tail _ hx)
  have hw:=qV (h n (.head _))
  refine⟨?_,?_,?_⟩
  ·simp only[List.map_cons,PyData.weightAll,List.length_cons];(first|lia|omega)
  ·simp only[List.map_cons,PyData.canLayAll0,PyData.canLay0,h2,Bool.and_self]
  ·simp only[List.map_cons,PyData.depthAll,PyData.depth,h3];rfl
theorem wj{ns:List Int}(h:ns.length≤100)(hs:∀n∈ns,n.natAbs<2 ^ 32):(PyData.list (ns.map PyData.int)).layable0=true:=by
 obtain⟨h1,h2,h3⟩:=kX ns hs
 unfold PyData.layable0
 simp only[PyData.canLay0,PyData.depth,PyData.weight,h2,h3,Bool.true_and,Bool.and_eq_true,decide_eq_true_eq]
 refine⟨by(first|lia|omega),decide_eq_true ?_⟩
 have:(2:Nat) ^ 20=1048576:=by decide
 (first|lia|omega)
noncomputable abbrev bg(l:List Nat):List Int:=l.map λ(k:Nat)=>(k:Int)
theorem kb(l:List Nat):av l=dW (bg l):=by unfold av dW bg;rw[List.map_map];rfl
theorem xo{l:List Nat}{k:Int}(h:k∈bg l)(hl:l.length≤100∧∀x∈l,x<2 ^ 32):eB [av l,.int k]=some (.int ((bg l).idxOf k:Nat)):=by
 rw[kb]
 show (eX ((bg l).map .int)).bind _=_
 rw[e6]
 simp only[Option.bind_some]
 rw[if_pos ⟨h,wj (by rw[List.length_map];exact hl.1) (λn hn=>by obtain⟨x,hx,rfl⟩:=List.mem_map.mp hn;exact hl.2 x hx)⟩]
theorem qb{l:List Nat}{k:Int}(h1:p Γ c=some (av l,c1))(h2:q Γ c1=some (.int k,c2))(h:k∈bg l)(hl:l.length≤100∧∀x∈l,x<2 ^ 32):bO "list" eB p (ag q aw) Γ c=some (.int ((bg l).idxOf k:Nat),c2):=gP h1 rfl (au h2 aB) (xo h hl)
theorem oQ{f:Nat→Int}{R:List Nat}{k:Nat}(h:∀j∈R,f j=f k→j=k):(R.map f).idxOf (f k)=R.idxOf k:=by
 induction R with
 | nil=>rfl
 | cons j R ih=>
  rw[List.map_cons,List.idxOf_cons,List.idxOf_cons,ih λx hx=>h x (.tail _ hx)]
  by_cases e:j=k
  ·subst e
   rw[beq_self_eq_true,beq_self_eq_true]
  ·have h1:(f j==f k)=false:=beq_eq_false_iff_ne.mpr λq=>e (h j (.head _) q)
   have h2:(j==k)=false:=beq_eq_false_iff_ne.mpr e
   rw[h1,h2]
theorem z1:∀a∈bB,∀b∈bB,eY a=eY b→a=b:=by decide +kernel
theorem Au:∀s∈bB,bN ⟨#[s]⟩=some (eY s:Int):=by decide +kernel
noncomputable def fg(R:List Nat)(T k:Nat):Nat:=(bg R).idxOf (k:Int)+T
theorem r0{L:List Nat}(hL:∀ch∈L,ch<0x110000)(s:Nat)(hs:s<0x110000):fy .In (chD s) (sgD L)=some (decide (s∈L)):=by
 show dIn (chD s) (L.map chD)=_
 have h1:D.toPy (chD s)=some (.str ⟨#[s]⟩):=by
  simp only[D.toPy]
  rw[if_pos (by simp[PyData.strOk];omega (config:={}))]
 have h2:∀l:List Nat,(∀ch∈l,ch<0x110000)→cZ (l.map chD)=some (l.map λch=>.str ⟨#[ch]⟩)∧PyData.canLayAll0 (l.map λch=>PyData.str ⟨#[ch]⟩)=true∧PyData.depthAll (l.map λch=>PyData.str ⟨#[ch]⟩)=0:=by
  intro l
  induction l with
  | nil=>intro _;exact⟨rfl,by simp[PyData.canLayAll0],by simp[PyData.depthAll]⟩
  | cons ch l ih=>
   intro h
   obtain⟨i1,i2,i3⟩:=ih λx hx=>h x (.tail _ hx)
   have hok:PyData.strOk ⟨#[ch]⟩=true:=by simp[PyData.strOk];exact h ch (.head _)
   refine⟨?_,?_,?_⟩
   ·simp only[List.map_cons,cZ,D.toPy,hok,if_true,i1]
   ·simp only[List.map_cons,PyData.canLayAll0,PyData.canLay0,hok,i2,Bool.and_self]
   ·simp only[List.map_cons,PyData.depthAll,PyData.depth,i3];rfl
 obtain⟨i1,i2,i3⟩:=h2 L hL
 unfold dIn
 rw[h1,i1]
 dsimp only
 have hok:PyData.strOk ⟨#[s]⟩=true:=by simp[PyData.strOk];exact hs
 rw[if_pos (by rw[i2,i3];simp only[PyData.canLay0,hok];rfl)]
 congr 1
 rw[List.any_map]
 apply Bool.eq_iff_iff.mpr
 rw[List.any_eq_true,decide_eq_true_eq]
 constructor
 ·rintro ⟨x,hx,h⟩
  have:x=s:=by simpa [PyData.eqv] using h
  exact this▸hx
 ·intro h
  exact⟨s,h,by simp[PyData.eqv]⟩
noncomputable abbrev br(P:Addr)(b:Bool):Cell:=.tab P rT (cz++"<lambda>") b
noncomputable abbrev sO(u P:Addr):PE:=(lS 0 P rT cz [none,none,some 3] (mq bN (aa 0)) (aa 1) (ao .Add (bO "list" eB (a9 (aa 2) (ah 0)) (ag (aa 0) (aw))) (aa 1)))
noncomputable abbrev twice(n:Nat):D:=.tup [.int (n:Int),.int (n:Int)]
theorem zu{u P:Addr}{ord:List Nat}{sets w:D}{T s:Nat}{fl:Bool}(hs:s∈bB)(ho:(eY s:Int)∈bg ord)(hl:ord.length≤100∧∀x∈ord,x<2 ^ 32)(hc:c[0]?=some (br P fl)) :
  sO u P [.val (chD s),.val (.int (T:Int)),.val w,.val (.tup [av ord,sets])] c=some (twice ((bg ord).idxOf (eY s:Int)+T),c.set 0 (br P true)):=by
 unfold sO lS
 rw[kC (ab rfl) (Au s hs)]
 simp only[Option.bind_some]
 rw[hc]
 simp only[]
 rw[if_pos ⟨trivial,trivial,trivial⟩,ab (i:=1) rfl]
 simp only[Option.bind_some]
 have e:ao .Add (bO "list" eB (a9 (aa 2) (ah 0)) (ag (aa 0) (aw))) (aa 1) [.val (.int (eY s:Int)),.val (.int (T:Int)),.val (.tup [av ord,sets])] (c.set 0 (br P true))=some (.int (((bg ord).idxOf (eY s:Int)+T:Nat):Int),c.set 0 (br P true)):=
  dA (qb (fx (ab (i:=2) rfl) (ay (i:=0)) (kN (by decide) rfl)) (ab (i:=0) rfl) ho hl) (ab (i:=1) rfl)
 have hsf:setFrom 0 [.val (.int (eY s:Int)),.val (.int (T:Int))] (bQ [none,none,some 3] [.val (chD s),.val (.int (T:Int)),.val w,.val (.tup [av ord,sets])])=[.val (.int (eY s:Int)),.val (.int (T:Int)),.val (.tup [av ord,sets])]:=rfl
 rw[hsf,e]
 simp only[Option.map_some,List.take_length]
theorem kD{u P:Addr}{ord L:List Nat}{sets:D}{T:Nat}(hL:∀ch∈L,ch∈bB)(ho:∀s∈L,(eY s:Int)∈bg ord)(hl:ord.length≤100∧∀x∈ord,x<2 ^ 32):∀(ss:List Nat) (w0:Slot) (c:List Cell) (fl:Bool),(∀s∈ss,s<0x110000)→c[0]?=some (br P fl)→
  ∃Γ' fl',bL (.n 0) (aD .In (aa 0) (aa 2)) (aQ (sO u P)) (ss.map chD) [w0,.val (.int (T:Int)),.val (sgD L),.val (.tup [av ord,sets])] c=some ((ss.filter (λs=>decide (s∈L))).map λs=>twice ((bg ord).idxOf (eY s:Int)+T),Γ',c.set 0 (br P fl'))
 | [],w0,c,fl,_,hc=>⟨_,fl,by rw[set_same hc];rfl⟩
 | s::ss,w0,c,fl,hs,hc=>by
  have hlt:0<c.length:=(List.getElem?_eq_some_iff.mp hc).1
  have hp:∀ch∈bB,ch<0x110000:=by decide
  have t1:aD .In (aa 0) (aa 2) [.val (chD s),.val (.int (T:Int)),.val (sgD L),.val (.tup [av ord,sets])] c=some (decide (s∈L),c):=bb (ab (i:=0) rfl) (ab (i:=2) rfl) (r0 (λch h=>hp ch (hL ch h)) s (hs s (.head _)))
  rw[List.map_cons]
  by_cases h:s∈L
  ·obtain⟨Γ',fl',e⟩:=kD hL ho hl ss (.val (chD s)) (c.set 0 (br P true)) true (λx hx=>hs x (.tail _ hx)) (gZ hlt)
   rw[List.set_set]at e
   refine⟨Γ',fl',?_⟩
   have e1:aQ (sO u P) [.val (chD s),.val (.int (T:Int)),.val (sgD L),.val (.tup [av ord,sets])] c=some ([twice ((bg ord).idxOf (eY s:Int)+T)],[.val (chD s),.val (.int (T:Int)),.val (sgD L),.val (.tup [av ord,sets])],c.set 0 (br P true)):=by
    unfold aQ
    rw[zu (hL s h) (ho s h) hl hc];rfl
   refine(iu rfl (t1.trans (by rw[decide_eq_true h])) e1 e).trans ?_
   rw[List.filter_cons,if_pos (decide_eq_true h)];rfl
  ·obtain⟨Γ',fl',e⟩:=kD hL ho hl ss (.val (chD s)) c fl (λx hx=>hs x (.tail _ hx)) hc
   refine⟨Γ',fl',?_⟩
   rw[bL]
   simp only[d6,Option.bind_some]
   show Option.bind (aD .In (aa 0) (aa 2) [.val (chD s),.val (.int (T:Int)),.val (sgD L),.val (.tup [av ord,sets])] c) _=_
   rw[t1,decide_eq_false h]
   simp only[Option.bind_some,Bool.false_eq_true,if_false]
   show Option.map _ (bL _ _ _ _ [.val (chD s),.val (.int (T:Int)),.val (sgD L),.val (.tup [av ord,sets])] c)=_
   rw[e,List.filter_cons,if_neg (by simp[h])];rfl
theorem iO{L:List Nat}(hL:∀ch∈L,ch∈bB):∀t:SP,(∀i∈fY t,i<L.length)→(code L t).filter (λs=>decide (s∈L))=(fY t).map λi=>L.getD i 0
 | .leaf i,h=>by
  have:L.getD i 0∈L:=getD_mem (h i (.head _))
  show List.filter _ [L.getD i 0]=[L.getD i 0]
  rw[List.filter_cons,if_pos (decide_eq_true this)];rfl
 | .node s l r,h=>by
  have n1:∀x∈([40,41,42,124]:List Nat),x∉L:=by
   intro x hx hm
   have:∀x∈([40,41,42,124]:List Nat),x∉bB:=by decide
   exact this x hx (hL x hm)
  have hst:bD s∈([40,41,42,124]:List Nat):=by unfold bD;split<;>simp
  have il:=iO hL l λi hi=>h i (List.mem_append_left _ hi)
  have ir:=iO hL r λi hi=>h i (List.mem_append_right _ hi)
  show ([40]++code L l++[bD s]++code L r++[41]).filter _=_
  have f1:∀x∈([40,41,42,124]:List Nat),[x].filter (λs=>decide (s∈L))=[]:=by
   intro x hx
   rw[List.filter_cons,if_neg (by simp[n1 x hx])];rfl
  rw[List.filter_append,List.filter_append,List.filter_append,List.filter_append,il,ir,f1 40 (by simp),f1 41 (by simp),f1 _ hst]
  simp[fY]
theorem xN{u P:Addr}{L R:List Nat}{t:SP}{sets:D}{T:Nat}{fl:Bool}(hR:R.Perm [0,1,2,3])(hL4:L.length=4)(hnd:L.Nodup)(hL:∀ch∈L,ch∈bB)(ht:fY t=[0,1,2,3])(hlen:(code L t).length≤100)(hsm:∀s∈code L t,s<0x110000)
  (h2:Γ[2]?=some (.val (.int (T:Int)))) (h3:Γ[3]?=some (.val (sgD L))) (h14:Γ[14]?=some (.val (.tup [av (eI R L),sets]))) (h20:Γ[20]?=some (.val (sgD (code L t)))) (hc:c[0]?=some (br P fl)) :
  ∃fl',tI u P Γ c=some (.next,aS 24 (.lst ([0,1,2,3].map λk=>twice (fg R T k))) Γ,c.set 0 (br P fl')):=by
 have hcap:bQ [none,some 2,some 3,some 14] Γ=[.un,.val (.int (T:Int)),.val (sgD L),.val (.tup [av (eI R L),sets])]:=by simp[bQ,h2,h3,h14]
 have hRm:∀k,k∈R↔k<4:=by
  intro k
  rw[hR.mem_iff]
  simp only[List.mem_cons,List.not_mem_nil,or_false]
  (first|lia|omega)
 have ho:∀s∈L,(eY s:Int)∈bg (eI R L):=by
  intro s hs
  obtain⟨i,hi,rfl⟩:=List.getElem_of_mem hs
  refine List.mem_map.mpr ⟨eY L[i],List.mem_map.mpr ⟨i,(hRm i).mpr (by(first|lia|omega)),?_⟩,rfl⟩
  simp[List.getD,hi]
 have hsmall:∀x∈eI R L,x<2 ^ 32:=by
  intro x hx
  obtain⟨k,_,rfl⟩:=List.mem_map.mp hx
  unfold eY
  have:∀j,[14,15,17,19,20,21,22,24,31,32].getD j 0<2 ^ 32:=by
   intro j
   by_cases h:j<10
   ·have:∀j<10,[14,15,17,19,20,21,22,24,31,32].getD j 0<2 ^ 32:=by decide
    exact this j h
   ·rw[List.getD,List.getElem?_eq_none (by simp;(first|lia|omega))];decide
  exact this _
 obtain⟨Γ',fl',e⟩:=kD (u:=u) (P:=P) (T:=T) (sets:=sets) hL ho ⟨by unfold eI;rw[List.length_map,hR.length_eq];decide,hsmall⟩ (code L t) .un c fl hsm hc
 refine⟨fl',bk (o8 (bZ (ab h20)) (by rw[hcap];exact e) ?_ |>.trans ?_)⟩
 ·rw[List.length_map]
  exact Nat.le_trans (List.length_filter_le _ _) (by(first|lia|omega))
 ·rw[iO hL t (by rw[ht];intro i hi;simp at hi;(first|lia|omega)),ht,List.map_map]
  have key:∀k∈([0,1,2,3]:List Nat),twice ((bg (eI R L)).idxOf (eY (L.getD k 0):Int)+T)=twice (fg R T k):=by
   intro k hk
   have hk4:k<4:=by simp at hk;(first|lia|omega)
   have e1:bg (eI R L)=R.map λk=>((eY (L.getD k 0):Nat):Int):=by unfold bg eI;rw[List.map_map];rfl
   have e2:(R.map λk=>((eY (L.getD k 0):Nat):Int)).idxOf ((eY (L.getD k 0):Nat):Int)=R.idxOf k:=oQ (f:=λk=>((eY (L.getD k 0):Nat):Int)) λj hj h=>by
    have hj4:=(hRm j).mp hj
    have h1:eY (L.getD j 0)=eY (L.getD k 0):=by exact_mod_cast h
    have h2:=z1 _ (hL _ (getD_mem (by(first|lia|omega)))) _ (hL _ (getD_mem (by(first|lia|omega)))) h1
    have hj':j<L.length:=by(first|lia|omega)
    have hk':k<L.length:=by(first|lia|omega)
    simp only[List.getD,List.getElem?_eq_getElem hj',List.getElem?_eq_getElem hk',Option.getD_some]at h2
    exact(List.getElem_inj hnd).mp h2
   have e3:(bg R).idxOf (k:Int)=R.idxOf k:=oQ (f:=λ(k:Nat)=>(k:Int)) λj _ h=>by exact_mod_cast h
   unfold fg
   rw[e1,e2,e3]
  show some (D.lst ([0,1,2,3].map _),_)=_
  congr 3
  exact List.map_congr_left key
end
end Mine
namespace Mine
section
variable{Γ:List Slot}{c c1 c2 c3:List Cell}{p q r:PE}{ps:PL}{d a b:D}{ds:List D}{α:Type}
theorem Ds(n:Nat):(2:Int) ^ ((n:Int)).toNat=((2 ^ n:Nat):Int):=by rw[Int.toNat_natCast];simp
theorem ij{n:Nat}(hn:n≤900)(h:q Γ c=some (.int (n:Int),c1)):ao .Pow (ah 2) q Γ c=some (.int ((2 ^ n:Nat):Int),c1):=by
 have:=aT (op:=.Pow) (ay (Γ:=Γ) (c:=c) (i:=2)) h (tT ⟨by(first|lia|omega),by(first|lia|omega),by decide⟩)
 rw[Ds]at this;exact this
theorem vI{i:Nat}(h:p Γ c=some (.lst ds,c1)):ix i p Γ c=some (.next,Γ.set i (.ref c1.length),c1++[.it ds]):=by unfold ix;rw[h];rfl
theorem C7(x y:List Nat):av (x++y)=.lst (ntD x++ntD y):=by unfold av;rw[List.map_append]
noncomputable def ik(low:Nat)(ms:List Nat):List Nat:=ms.map λm=>m*2 ^ low
theorem ql{low:Nat}(hl:low≤12){m:Nat}(hm:m<16){w:Nat}(hw:w≤1):ao .Mult (aa 0) (ao .Pow (ah 2) (aa 1)) [.val (.int (m:Int)),.val (.int (low:Int))] c=some (.int ((m*2 ^ low:Nat):Int),c):=mN (ab (i:=0) rfl) (ij (by(first|lia|omega)) (ab (i:=1) rfl)) (by(first|lia|omega))
theorem CR{low m:Nat}(hl:low≤12)(hm:m<16):m*2 ^ low≤61440:=by
 have:2 ^ low≤2 ^ 12:=Nat.pow_le_pow_right (by decide) hl
 have h2:m*2 ^ low≤15*2 ^ 12:=Nat.mul_le_mul (by(first|lia|omega)) this
 have:15*2 ^ 12=61440:=by decide
 (first|lia|omega)
noncomputable def ez(ord:List Nat)(low:Nat)(ms:List Nat):List Nat:=ord++ms.map λm=>256+m*2 ^ low
theorem wN{a0 a1 a2 a3 T low:Nat}{ord ms:List Nat}(hlow:low≤12)(hms:∀m∈ms,m<16)(hlen:ord.length+ms.length≤90)(h9:Γ[9]?=some (.val (av ord)))(h10:Γ[10]?=some (.val (.int (low:Int))))(h12:Γ[12]?=some (.val (av ms)))(h1:Γ[1]?=some (.val (bU a0 a1 a2 a3)))(h2:Γ[2]?=some (.val (.int (T:Int)))) :
  su Γ c=some (.next,Γ.set 13 (.ref c.length),c++[.it (ntD (lL [a0,a1,a2,a3] T (ez ord low ms++[0]))++ntD [T % 256])]):=by
 have hcap:bQ [none,some 10] Γ=[.un,.val (.int (low:Int))]:=by simp[bQ,h10]
 have e1:=dm (Γ:=Γ) (c:=c) (js:=[none,some 10]) (i:=0) (p:=ao .Add (ah 256) (ao .Mult (aa 0) (ao .Pow (ah 2) (aa 1)))) (l:=ms) (g:=λ(k:Nat)=>D.int (k:Int)) (c1:=c) (λm=>D.int ((256+m*2 ^ low:Nat):Int)) (bZ (ab h12))
  (by rw[hcap];intro m hm;exact dA (ay (i:=((256:Nat):Int))) (ql hlow (hms m hm) (w:=0) (by decide))) (by(first|lia|omega))
 have e2:=aT (op:=.Add) (aT (op:=.Add) (ab h9) e1 (dn (by rw[List.length_map,List.length_map];(first|lia|omega)))) (aY (au (ay (i:=((0:Nat):Int))) aB) (Nat.le_of_ble_eq_true rfl)) (dn (by rw[List.length_append,List.length_map,List.length_map];show _+1≤_;(first|lia|omega)))
 have e3:(D.lst ((ord.map λ(k:Nat)=>D.int (k:Int))++(ms.map λm=>D.int ((256+m*2 ^ low:Nat):Int))++[D.int ((0:Nat):Int)]))=av (ez ord low ms++[0]):=by
  unfold av ez
  rw[List.map_append,List.map_append,List.map_map];rfl
 rw[e3]at e2
 have e4:=lM e2 (ab h1) (ab h2) (uP (a0:=a0) (a1:=a1) (a2:=a2) (a3:=a3) (T:=T) (ns:=ez ord low ms++[0]) (by unfold ez;rw[List.length_append,List.length_append,List.length_map];simp only[List.length_cons,List.length_nil];(first|lia|omega)))
 have hlt:(lL [a0,a1,a2,a3] T (ez ord low ms++[0])).length≤400:=by
  unfold lL
  rw[gK,List.length_map,List.length_range]
  have:=oI [a0,a1,a2,a3] 0 (ez ord low ms++[0])
  unfold ez at this⊢
  rw[List.length_append (bs:=[0]),List.length_append,List.length_map]at this
  simp only[List.length_cons,List.length_nil]at this
  (first|lia|omega)
 exact vI (aT (op:=.Add) e4 (aY (au (dk (ab h2) (ay (i:=((256:Nat):Int))) (by decide)) aB) (Nat.le_of_ble_eq_true rfl)) (dn (by rw[List.length_map];show _+1≤_;(first|lia|omega))))
theorem yI{as:List Nat}{T low k:Nat}{ord ms:List Nat}(hlow:low≤12)(hms:∀m∈ms,m<16)(hord:∀n∈ord,n≠0∧n<256)(hlen:ord.length+ms.length≤20)(h13:Γ[13]?=some (.ref k))(hk:c[k]?=some (.it (ntD (lL as T (ez ord low ms++[0]))++ntD [T % 256]))) :
  tW Γ c=some (.next,aS 14 (.tup [av ord,av (ik low ms)]) Γ,c.set k (.it (ntD [T % 256]))):=by
 have hb:∀n∈ez ord low ms++[0],n<262144:=by
  intro n hn
  unfold ez at hn
  rcases List.mem_append.mp hn with hn|hn
  ·rcases List.mem_append.mp hn with hn|hn
   ·have:=hord n hn;(first|lia|omega)
   ·obtain⟨m,hm,rfl⟩:=List.mem_map.mp hn
    have:=CR hlow (hms m hm);(first|lia|omega)
  ·rw[List.mem_singleton.mp hn];decide
 have hz:∀n∈ez ord low ms,n≠0:=by
  intro n hn
  unfold ez at hn
  rcases List.mem_append.mp hn with hn|hn
  ·exact(hord n hn).1
  ·obtain⟨m,hm,rfl⟩:=List.mem_map.mp hn;(first|lia|omega)
 have:=wO (nB as T (ez ord low ms++[0]) 0 0 hb) hz (by unfold ez;rw[List.length_append,List.length_map];exact hlen) hk
 have f1:(ez ord low ms).filter (·<256)=ord:=by
  unfold ez
  rw[List.filter_append,List.filter_eq_self.mpr λn hn=>by simpa using (hord n hn).2,List.filter_eq_nil_iff.mpr,List.append_nil]
  intro n hn
  obtain⟨m,hm,rfl⟩:=List.mem_map.mp hn
  simp
 have f2:((ez ord low ms).filter (256≤·)).map (· - 256)=ik low ms:=by
  unfold ez
  rw[List.filter_append,(List.filter_eq_nil_iff (l:=ord)).mpr (λn hn=>by have:=(hord n hn).2;simpa using this),List.nil_append,List.filter_eq_self.mpr,List.map_map]
  ·unfold ik
   apply List.map_congr_left
   intro m _
   show 256+m*2 ^ low - 256=_
   (first|lia|omega)
  ·intro n hn
   obtain⟨m,hm,rfl⟩:=List.mem_map.mp hn
   simp
 rw[f1,f2]at this
 exact bk (gq (fP h13 eJ) this)
theorem ym{T low k:Nat}{ord ms:List Nat}(hlow:low≤12)(hms:∀m∈ms,m<16)(hlen:ms.length≤100)(h9:Γ[9]?=some (.val (av ord)))(h10:Γ[10]?=some (.val (.int (low:Int))))(h12:Γ[12]?=some (.val (av ms)))(h2:Γ[2]?=some (.val (.int (T:Int))))(h13:Γ[13]?=some (.ref k))(h14:Γ[14]?=some (.val (.tup [av ord,av (ik low ms)])))(hk:c[k]?=some (.it (ntD [T % 256]))) :
  ∃cl as,sP Γ c=some (.next,Γ.set 15 (.ref c.length),c.set k cl++[.lst as])∧fM as∧as.length=2:=by
 have hcap:bQ [none,some 10] Γ=[.un,.val (.int (low:Int))]:=by simp[bQ,h10]
 have e1:=dm (Γ:=Γ) (c:=c) (js:=[none,some 10]) (i:=0) (p:=ao .Mult (aa 0) (ao .Pow (ah 2) (aa 1))) (l:=ms) (g:=λ(k:Nat)=>D.int (k:Int)) (c1:=c) (λm=>D.int ((m*2 ^ low:Nat):Int)) (bZ (ab h12))
  (by rw[hcap];intro m hm;exact ql hlow (hms m hm) (w:=0) (by decide)) (by(first|lia|omega))
 have e3:D.lst (ms.map λm=>D.int ((m*2 ^ low:Nat):Int))=av (ik low ms):=by unfold av ik;rw[List.map_map];rfl
 rw[e3]at e1
 have e4:i4 13 Γ c=some (.lst (ntD [T % 256]),c.set k (.raw λ_=>True)):=by
  unfold i4
  rw[h13]
  simp only[]
  rw[hk]
  rfl
 have h:=iK (i:=15) (au (cj (ab (c:=c) h14) (cj (ab h9) e1)) (au (cj e4 (aY (au (dk (ab h2) (ay (i:=((256:Nat):Int))) (by decide)) aB) (Nat.le_of_ble_eq_true rfl))) aB)) (Nat.le_of_ble_eq_true rfl)
 rw[List.length_set]at h
 refine⟨_,_,h,?_,rfl⟩
 intro e he
 simp only[List.mem_cons,List.not_mem_nil,or_false]at he
 rcases he with rfl|rfl
 ·exact⟨_,rfl,(oY (n:=1) (mD _) (mD _)).le (by decide)⟩
 ·exact⟨_,rfl,(mD [T % 256]).le (by decide)⟩
theorem yd{k T:Nat}{R:List Nat}(hR:R.Perm [0,1,2,3])(h15:Γ[15]?=some (.ref k))(hk:c[k]?=some (.lst ds))(hd:ds.length≤99999)(h24:Γ[24]?=some (.val (.lst ([0,1,2,3].map λk=>twice (fg R T k)))))(h8:Γ[8]?=some (.val (av R)))(h2:Γ[2]?=some (.val (.int (T:Int)))) :
  ∃x,so Γ c=some (.next,Γ,c.set k (.lst (ds++[.tup [x,x]])))∧GoodK 20 x:=by
 have hcap:bQ [none,some 8,some 2] Γ=[.un,.val (av R),.val (.int (T:Int))]:=by simp[bQ,h8,h2]
 have hRm:∀k,k∈R↔k<4:=by
  intro k
  rw[hR.mem_iff]
  simp only[List.mem_cons,List.not_mem_nil,or_false]
  (first|lia|omega)
 have hRl:R.length≤100∧∀x∈R,x<2 ^ 32:=⟨by rw[hR.length_eq];decide,λx hx=>by have:=(hRm x).mp hx;(first|lia|omega)⟩
 have e1:=dm (Γ:=Γ) (c:=c) (js:=[none,some 8,some 2]) (i:=0) (p:=de (ag (ao .Add (bO "list" eB (aa 1) (ag (aa 0) (aw))) (aa 2)) (ag (ao .Add (bO "list" eB (aa 1) (ag (aa 0) (aw))) (aa 2)) (aw)))) (l:=List.range 4) (g:=λ(k:Nat)=>D.int (k:Int)) (c1:=c) (λk=>twice (fg R T k)) (en (n:=4) (by decide)) (by
   rw[hcap]
   intro j hj
   have hj':=List.mem_range.mp hj
   have hm:(j:Int)∈bg R:=List.mem_map.mpr ⟨j,(hRm j).mpr hj',rfl⟩
   have e:ao .Add (bO "list" eB (aa 1) (ag (aa 0) (aw))) (aa 2) [.val (.int (j:Int)),.val (av R),.val (.int (T:Int))] c=some (.int (fg R T j:Nat),c):=dA (qb (ab (i:=1) rfl) (ab (i:=0) rfl) hm hRl) (ab (i:=2) rfl)
   exact cj e e) (by decide)
 refine⟨.lst ([0,1,2,3].map λk=>twice (fg R T k)),k7 h15 hk (cj (ab h24) e1) hd,?_⟩
 exact(jW (n:=1) λd hd=>by obtain⟨j,_,rfl⟩:=List.mem_map.mp hd;exact oY jb jb).le (by decide)
theorem xj{T:Nat}{R:List Nat}(h24:Γ[24]?=some (.val (.lst ([0,1,2,3].map λk=>twice (fg R T k))))):tx Γ c=some (.next,aS 25 (av ((List.range 4).map (fg R T))) Γ,c):=by
 refine bk ((dm (l:=[0,1,2,3]) (g:=λk=>twice (fg R T k)) (λk=>D.int (fg R T k:Nat)) (bZ (ab h24)) (λk _=>fx (ab (i:=0) rfl) (ay (i:=0)) (kN (by decide) rfl)) (by decide)).trans ?_)
 rfl
theorem nr{u:Addr}{d:D}:gR u [.val d,.val .none] c=some (.tup [.obj (.ref u),.str ⟨#[]⟩],c):=by
 have hq:se u [.val d,.val .none,.un,.un] c=some (.ret (.tup [.obj (.ref u),.str ⟨#[]⟩]),[.val d,.val .none,.un,.un],c):=
  cp ((dZ (bb (ab (i:=1) rfl) gS rfl)).trans (cp (dY (cj rI bF))))
 unfold gR lE
 have hs:setFrom 0 ([.val d,.val .none]++[.un]) (List.replicate 4 .un)=[.val d,.val .none,.un,.un]:=rfl
 rw[hs,hq]
 show (some (_,c.take c.length):Option (D×List Cell))=_
 rw[List.take_length]
theorem v9{u P:Addr}{k T o:Nat}{ord:List Nat}(h15:Γ[15]?=some (.ref k))(hk:c[k]?=some (.lst ds))(hd:ds.length≤9000)(h9:Γ[9]?=some (.val (av (o::ord))))(h2:Γ[2]?=some (.val (.int (T:Int))))(hlen:26<Γ.length) :
  ∃w as,sk u P Γ c=some (.next,Γ.set 26 w,c.set k (.lst (ds++as)))∧fM as∧as.length=2:=by
 have p1:mL (gR u) (ah 0) fN Γ c=some (.tup [.obj (.ref u),.str ⟨#[]⟩],c):=by
  unfold mL
  rw[ay];simp only[Option.bind_some];rw[gS];simp only[Option.bind_some];exact nr
 have p2:mx (gR u) (a9 (aa 9) (ah 0)) fN (aa 2) Γ c=some (.tup [.obj (.ref u),.str ⟨#[]⟩],c):=by
  have e9:a9 (aa 9) (ah 0) Γ c=some (.int (o:Int),c):=cJ (k:=0) (ab h9) ay (by decide) rfl
  unfold mx
  rw[e9];simp only[Option.bind_some];rw[gS];simp only[Option.bind_some];rw[ab h2];simp only[Option.bind_some];exact nr
 have hcl:k<c.length:=(List.getElem?_eq_some_iff.mp hk).1
 have body:∀(c:List Cell) (ds:List D),c[k]?=some (.lst ds)→ds.length≤9900→∀Γ:List Slot,Γ[15]?=some (.ref k)→Γ[26]?=some (.val (.tup [.obj (.ref u),.str ⟨#[]⟩]))→
   wd u P Γ c=some (.next,Γ,c.set k (.lst (ds++[.tup [.lst [.bool true,.tup [.str ⟨#[]⟩]],.lst [.bool true,.tup [.str ⟨#[]⟩]]]]))):=by
  intro c ds hk hd Γ h15 h26
  have e1:gv .Is (a9 (aa 26) (ah 0)) (mS (.ref u)) Γ c=some (.bool true,c):=gh (fx (ab h26) (ay (i:=0)) (kN (by decide) rfl)) rI (if_pos rfl)
  have e2:aV (aa 26) (aP (ah 1)) aA aA Γ c=some (.tup [.str ⟨#[]⟩],c):=cS (ab h26) (cx ay) bp bp rfl
  exact bC (k7 h15 hk (cj (aY (au e1 (au e2 aB)) (Nat.le_of_ble_eq_true rfl)) (aY (au cm (au (jw (au bF aB) (Nat.le_of_ble_eq_true rfl)) aB)) (Nat.le_of_ble_eq_true rfl))) (by(first|lia|omega))) rfl
 have s15:∀d,(aS 26 d Γ)[15]?=some (.ref k):=λd=>by unfold aS;rw[List.getElem?_set_ne (by decide)];exact h15
 have s26:∀d,(aS 26 d Γ)[26]?=some (.val d):=λd=>by unfold aS;exact List.getElem?_set_self hlen
 have b1:=body c ds hk (by(first|lia|omega)) (aS 26 (.tup [.obj (.ref u),.str ⟨#[]⟩]) Γ) (s15 _) (s26 _)
 have b2:=body _ _ (gZ (x:=.lst (ds++[.tup [.lst [.bool true,.tup [.str ⟨#[]⟩]],.lst [.bool true,.tup [.str ⟨#[]⟩]]]])) hcl) (by rw[List.length_append];simp only[List.length_cons,List.length_nil];(first|lia|omega)) (aS 26 (.tup [.obj (.ref u),.str ⟨#[]⟩]) Γ) (s15 _) (s26 _)
 rw[List.set_set]at b2
 refine⟨.val (.tup [.obj (.ref u),.str ⟨#[]⟩]),[.tup [.lst [.bool true,.tup [.str ⟨#[]⟩]],.lst [.bool true,.tup [.str ⟨#[]⟩]]],.tup [.lst [.bool true,.tup [.str ⟨#[]⟩]],.lst [.bool true,.tup [.str ⟨#[]⟩]]]],?_,?_,rfl⟩
 ·rw[List.append_assoc]at b2
  exact iG (ds:=[.tup [.obj (.ref u),.str ⟨#[]⟩],.tup [.obj (.ref u),.str ⟨#[]⟩]]) (bZ (aY (au p1 (au p2 aB)) (Nat.le_of_ble_eq_true rfl))) (bR rfl b1 (bR (Γ1:=aS 26 (.tup [.obj (.ref u),.str ⟨#[]⟩]) Γ) (by show some (aS 26 _ (aS 26 _ Γ))=_;rw[gu]) b2 Bn)) rfl
 ·have hg:GoodK 20 (.lst [.bool true,.tup [.str ⟨#[]⟩]]):=(jW (n:=1) λd hd=>by
   simp only[List.mem_cons,List.not_mem_nil,or_false]at hd
   rcases hd with rfl|rfl
   ·exact g_bool.le (by decide)
   ·exact Bi (n:=0) λd hd=>by rw[List.mem_singleton.mp hd];exact qz (l:=[]) (by simp)).le (by decide)
  intro e he
  simp only[List.mem_cons,List.not_mem_nil,or_false]at he
  rcases he with rfl|rfl<;>exact⟨_,rfl,hg⟩
end
end Mine
namespace Mine
noncomputable abbrev fq:Str:=⟨#[44,32]⟩
noncomputable def eU(i:Int):Str:=baseText "0x" 16 i
noncomputable def nameOf(i:Nat):Str:=(dc ((2 ^ i:Nat):Int)).getD (eU ((2 ^ i:Nat):Int))
noncomputable def bP:Nat→Nat→Int→List Nat×Option Int
 | 0,_,F=>([],some F)
 | k+1,i,F=>if Builtin.bitAnd F ((2 ^ i:Nat):Int)≠0 then(if Builtin.bitXor F ((2 ^ i:Nat):Int)=0 then([i],none)else(i::(bP k (i+1) (Builtin.bitXor F ((2 ^ i:Nat):Int))).1,(bP k (i+1) (Builtin.bitXor F ((2 ^ i:Nat):Int))).2))
  else bP k (i+1) F
theorem j9:∀(k i:Nat) (F:Int),(bP k i F).1.length≤k
 | 0,_,_=>Nat.zero_le _
 | k+1,i,F=>by
  unfold bP
  split
  ·split
   ·exact Nat.succ_le_succ (Nat.zero_le _)
   ·exact Nat.succ_le_succ (j9 k (i+1) (Builtin.bitXor F ((2 ^ i:Nat):Int)))
  ·exact Nat.le_succ_of_le (j9 k (i+1) F)
noncomputable def iB:Option Int→List Str
 | none=>[]
 | some F=>[eU F]
theorem hex_len:∀i<32,(eU ((2 ^ i:Nat):Int)).length≤100000:=by decide +kernel
section
variable{Γ:List Slot}{c c1 c2 c3:List Cell}{p q r:PE}{ps:PL}{d a b:D}{ds:List D}{α:Type}
theorem nZ{i:Int}(h:(eU i).length≤100000):lj [.int i]=some (.str (eU i)):=if_pos h
theorem Cr{i:Int}(h1:p Γ c=some (.int i,c1))(h2:q Γ c1=some (b,c2)):qB dc p q Γ c=some (match dc i with|some x=>.str x|none=>b,c2):=by
 unfold qB;rw[h1];simp only[Option.bind_some];rw[h2];simp only[Option.bind_some]
 cases dc i<;>rfl
noncomputable abbrev prB:PS:=(ak (bf 3 (ao .LShift (ah 1) (aa 2))) (ak (qIf (cV (ao .BitAnd (aa 0) (aa 3))) (ak (dK 1 (qB dc (aa 3) (bo lj (ag (aa 3) (aw))))) (ak (f6 0 .BitXor (aa 3)) (ak (qIf (m6 (cV (aa 0))) (ak (B2) (aG)) (aG)) (aG)))) (aG)) (aG)))
theorem AI{w0 w1 w3:Slot}{i:Nat}(hi:i<32):bf 3 (ao .LShift (ah 1) (aa 2)) [w0,w1,.val (.int (i:Int)),w3] c=some (.next,[w0,w1,.val (.int (i:Int)),.val (.int ((2 ^ i:Nat):Int))],c):=by
 have h:=aT (op:=.LShift) (ay (Γ:=[w0,w1,.val (.int (i:Int)),w3]) (c:=c) (i:=1)) (ab (i:=2) rfl) (Dm ⟨by(first|lia|omega),by(first|lia|omega),by decide⟩)
 rw[Ds,Int.one_mul]at h
 exact bk h
theorem jr:∀(k i:Nat) (F:Int) (ns:List Str) (w3 w2:Slot),i+k≤32→ns.length+k≤1000→
  ∃Γ',Γ'[1]?=some (.ref 0)∧(((bP k i F).2=none∧bG (.n 2) prB ((List.range k).map λj=>D.int ((i+j:Nat):Int)) [.val (.int F),.ref 0,w2,w3] [.lst (ns.map .str)]=some (.brk,Γ',[.lst ((ns++(bP k i F).1.map nameOf).map .str)]))∨
   (∃G,(bP k i F).2=some G∧Γ'[0]?=some (.val (.int G))∧bG (.n 2) prB ((List.range k).map λj=>D.int ((i+j:Nat):Int)) [.val (.int F),.ref 0,w2,w3] [.lst (ns.map .str)]=some (.next,Γ',[.lst ((ns++(bP k i F).1.map nameOf).map .str)])))
 | 0,i,F,ns,w3,w2,_,_=>⟨_,rfl,.inr ⟨F,rfl,rfl,by simp[bP];rfl⟩⟩
 | k+1,i,F,ns,w3,w2,hi,hn=>by
  have hr:(List.range (k+1)).map (λj=>D.int ((i+j:Nat):Int))=D.int (i:Int)::(List.range k).map λj=>D.int ((i+1+j:Nat):Int):=by
   rw[List.range_succ_eq_map,List.map_cons,List.map_map]
   refine congrArg (List.cons (D.int (i:Int))) (List.map_congr_left λj _=>?_)
   exact congrArg D.int (by show ((i+(j+1):Nat):Int)=_;(first|lia|omega))
  rw[hr]
  have hf:=λc=>AI (c:=c) (w0:=.val (.int F)) (w1:=.ref 0) (w3:=w3) (i:=i) (by(first|lia|omega))
  have ht:cV (ao .BitAnd (aa 0) (aa 3)) [.val (.int F),.ref 0,.val (.int (i:Int)),.val (.int ((2 ^ i:Nat):Int))] [.lst (ns.map .str)]=some (Builtin.bitAnd F ((2 ^ i:Nat):Int) != 0,[.lst (ns.map .str)]):=gQ (aT (op:=.BitAnd) (ab (i:=0) rfl) (ab (i:=3) rfl) Bk) lI
  by_cases hb:Builtin.bitAnd F ((2 ^ i:Nat):Int)≠0
  ·have hname:qB dc (aa 3) (bo lj (ag (aa 3) (aw))) [.val (.int F),.ref 0,.val (.int (i:Int)),.val (.int ((2 ^ i:Nat):Int))] [.lst (ns.map .str)]=some (.str (nameOf i),[.lst (ns.map .str)]):=by
    refine(Cr (ab (i:=3) rfl) (cy (au (ab (i:=3) rfl) aB) (nZ (hex_len i (by(first|lia|omega)))))).trans ?_
    unfold nameOf
    cases dc ((2 ^ i:Nat):Int)<;>rfl
   have happ:dK 1 (qB dc (aa 3) (bo lj (ag (aa 3) (aw)))) [.val (.int F),.ref 0,.val (.int (i:Int)),.val (.int ((2 ^ i:Nat):Int))] [.lst (ns.map .str)]=some (.next,[.val (.int F),.ref 0,.val (.int (i:Int)),.val (.int ((2 ^ i:Nat):Int))],[.lst ((ns++[nameOf i]).map .str)]):=by
    refine(jc (k:=0) rfl ⟨_,rfl⟩ hname rfl (by rw[List.length_map];(first|lia|omega))).trans ?_
    rw[List.map_append];rfl
   have hx:f6 0 .BitXor (aa 3) [.val (.int F),.ref 0,.val (.int (i:Int)),.val (.int ((2 ^ i:Nat):Int))] [.lst ((ns++[nameOf i]).map .str)]=some (.next,[.val (.int (Builtin.bitXor F ((2 ^ i:Nat):Int))),.ref 0,.val (.int (i:Int)),.val (.int ((2 ^ i:Nat):Int))],[.lst ((ns++[nameOf i]).map .str)]):=pz rfl (ab (i:=3) rfl) rfl
   have hend:m6 (cV (aa 0)) [.val (.int (Builtin.bitXor F ((2 ^ i:Nat):Int))),.ref 0,.val (.int (i:Int)),.val (.int ((2 ^ i:Nat):Int))] [.lst ((ns++[nameOf i]).map .str)]=some (!(Builtin.bitXor F ((2 ^ i:Nat):Int) != 0),[.lst ((ns++[nameOf i]).map .str)]):=Aq (gQ (ab (i:=0) rfl) lI)
   by_cases hz:Builtin.bitXor F ((2 ^ i:Nat):Int)=0
   ·have e:bP (k+1) i F=([i],none):=by rw[bP,if_pos hb,if_pos hz]
    rw[e]
    have e1:prB [.val (.int F),.ref 0,.val (.int (i:Int)),w3] [.lst (ns.map .str)]=some (.brk,[.val (.int (Builtin.bitXor F ((2 ^ i:Nat):Int))),.ref 0,.val (.int (i:Int)),.val (.int ((2 ^ i:Nat):Int))],[.lst ((ns++[nameOf i]).map .str)]):=by
     refine aN (hf _) (eu.trans ((eA (ht.trans (by rw[bne_iff_ne.mpr hb]))).trans (aN happ (aN hx (eu.trans ((eA (hend.trans (by rw[hz];rfl))).trans rfl))))))
    exact⟨_,rfl,.inl ⟨rfl,Dd rfl e1⟩⟩
   ·have e:bP (k+1) i F=(i::(bP k (i+1) (Builtin.bitXor F ((2 ^ i:Nat):Int))).1,(bP k (i+1) (Builtin.bitXor F ((2 ^ i:Nat):Int))).2):=by rw[bP,if_pos hb,if_neg hz]
    rw[e]
    have e1:prB [.val (.int F),.ref 0,.val (.int (i:Int)),w3] [.lst (ns.map .str)]=some (.next,[.val (.int (Builtin.bitXor F ((2 ^ i:Nat):Int))),.ref 0,.val (.int (i:Int)),.val (.int ((2 ^ i:Nat):Int))],[.lst ((ns++[nameOf i]).map .str)]):=by
     refine aN (hf _) (eu.trans ((eA (ht.trans (by rw[bne_iff_ne.mpr hb]))).trans (aN happ (aN hx (eu.trans ((dZ (g:=aG) (hend.trans (by rw[bne_iff_ne.mpr hz];rfl))).trans rfl))))))
    obtain⟨Γ',g1,h⟩:=jr k (i+1) (Builtin.bitXor F ((2 ^ i:Nat):Int)) (ns++[nameOf i]) (.val (.int ((2 ^ i:Nat):Int))) (.val (.int (i:Int))) (by(first|lia|omega)) (by rw[List.length_append];simp only[List.length_cons,List.length_nil];(first|lia|omega))
    rw[List.append_assoc]at h
    refine⟨Γ',g1,?_⟩
    rcases h with⟨h1,h2⟩|⟨G,h1,h2,h3⟩
    ·exact .inl ⟨h1,bR rfl e1 h2⟩
    ·exact .inr ⟨G,h1,h2,bR rfl e1 h3⟩
  ·have e:bP (k+1) i F=bP k (i+1) F:=by rw[bP,if_neg hb]
   rw[e]
   have hb':Builtin.bitAnd F ((2 ^ i:Nat):Int)=0:=Decidable.of_not_not hb
   have e1:prB [.val (.int F),.ref 0,.val (.int (i:Int)),w3] [.lst (ns.map .str)]=some (.next,[.val (.int F),.ref 0,.val (.int (i:Int)),.val (.int ((2 ^ i:Nat):Int))],[.lst (ns.map .str)]):=
    aN (hf _) (eu.trans ((dZ (g:=aG) (ht.trans (by rw[hb'];rfl))).trans rfl))
   obtain⟨Γ',g1,h⟩:=jr k (i+1) F ns (.val (.int ((2 ^ i:Nat):Int))) (.val (.int (i:Int))) (by(first|lia|omega)) (by(first|lia|omega))
   refine⟨Γ',g1,?_⟩
   rcases h with⟨h1,h2⟩|⟨G,h1,h2,h3⟩
   ·exact .inl ⟨h1,bR rfl e1 h2⟩
   ·exact .inr ⟨G,h1,h2,bR rfl e1 h3⟩
theorem lR:∀ls:List Str,gO (ls.map .str)=some ls
 | []=>rfl
 | l::ls=>by rw[List.map_cons,gO,lR ls];rfl
noncomputable def hN(x:Str)(ls:List Str):Nat:=(ls.map (·.length)).sum+ls.length*x.length
theorem lJ{x:Str}{ls:List Str}(h:hN x ls≤100000):dg [.str x,.lst (ls.map .str)]=some (.str (Txt.join x ls)):=by
 show (gO (ls.map .str)).bind _=_
 rw[lR]
 simp only[Option.bind_some]
 exact if_pos h
theorem kg{n:Int}(h:hN fq ((bP 32 0 n).1.map nameOf++iB (bP 32 0 n).2)≤100000)(h2:∀G,(bP 32 0 n).2=some G→(eU G).length≤100000) :
  lV [.int n]=some (.str (Txt.join fq ((bP 32 0 n).1.map nameOf++iB (bP 32 0 n).2))):=by
 obtain⟨Γ',g1,hh⟩:=jr 32 0 n [] .un .un (by decide) (by decide)
 have hr:(List.range 32).map (λj=>D.int ((0+j:Nat):Int))=(List.range 32).map λk=>D.int (k:Nat):=List.map_congr_left λj _=>by rw[Nat.zero_add]
 rw[hr]at hh
 have hsrc:bu cL (ag (ah 32) aw) [.val (.int n),.ref 0,.un,.un] [.lst []]=some ((List.range 32).map (λk=>D.int (k:Nat)),[.lst []]):=en (n:=32) (by decide)
 generalize hR:(List.range 32).map (λk=>D.int (k:Nat))=RR at hh hsrc
 have fin:∀ls:List Str,hN fq ls≤100000→∃c',ak (dS (bO "str" dg (aZ ⟨#[44,32]⟩) (ag (aa 1) (aw)))) (aG) Γ' [.lst (ls.map .str)]=some (.ret (.str (Txt.join fq ls)),Γ',c'):=by
  intro ls hl
  exact⟨_,cp (dY (gP bF rfl (au (g6 g1 rfl) aB) (lJ hl)))⟩
 rcases hh with⟨h3,h4⟩|⟨G,h3,h4,h5⟩
 ·rw[h3]at h⊢
  have e0:(bP 32 0 n).1.map nameOf++iB none=[]++(bP 32 0 n).1.map nameOf:=by simp[iB]
  rw[e0]at h⊢
  obtain⟨c',hf⟩:=fin _ h
  exact cu rfl (aN (Γ1:=[.val (.int n),.ref 0,.un,.un]) (c1:=[.lst []]) (iK (c:=[]) aB (by decide)) (aN (Cp (ds:=RR) (c1:=[.lst []]) hsrc h4) hf))
 ·rw[h3]at h⊢
  have e0:(bP 32 0 n).1.map nameOf++iB (some G)=([]++(bP 32 0 n).1.map nameOf)++[eU G]:=by simp[iB]
  rw[e0]at h⊢
  obtain⟨c',hf⟩:=fin _ h
  have hl:=j9 32 0 n
  have hlast:ak (dK 1 (bo lj (ag (aa 0) (aw)))) (aG) Γ' [.lst (([]++(bP 32 0 n).1.map nameOf).map .str)]=some (.next,Γ',[.lst ((([]++(bP 32 0 n).1.map nameOf)++[eU G]).map .str)]):=by
   refine bC ((jc (k:=0) g1 ⟨_,rfl⟩ (cy (au (ab h4) aB) (nZ (h2 G h3))) rfl (by rw[List.length_map,List.length_append,List.length_map];show 0+_≤_;(first|lia|omega))).trans ?_) rfl
   rw[List.map_append (l₂:=[eU G])];rfl
  exact cu rfl (aN (Γ1:=[.val (.int n),.ref 0,.un,.un]) (c1:=[.lst []]) (iK (c:=[]) aB (by decide)) (aN (iG (ds:=RR) (c1:=[.lst []]) hsrc h5 hlast) hf))
end
end Mine
namespace Mine
noncomputable def nameLit:List (List Nat):=[[79,80,84,73,77,73,90,69,68],[78,69,87,76,79,67,65,76,83],[86,65,82,65,82,71,83],[86,65,82,75,69,89,87,79,82,68,83],[78,69,83,84,69,68],[71,69,78,69,82,65,84,79,82],[78,79,70,82,69,69],[67,79,82,79,85,84,73,78,69],[73,84,69,82,65,66,76,69,95,67,79,82,79,85,84,73,78,69],[65,83,89,78,67,95,71,69,78,69,82,65,84,79,82],[48,120,52,48,48],[48,120,56,48,48],[48,120,49,48,48,48],[48,120,50,48,48,48],[48,120,52,48,48,48],[48,120,56,48,48,48],[48,120,49,48,48,48,48],[48,120,50,48,48,48,48],[48,120,52,48,48,48,48],[48,120,56,48,48,48,48],[48,120,49,48,48,48,48,48],[48,120,50,48,48,48,48,48],[48,120,52,48,48,48,48,48],[48,120,56,48,48,48,48,48],[48,120,49,48,48,48,48,48,48],[48,120,50,48,48,48,48,48,48],[48,120,52,48,48,48,48,48,48],[48,120,56,48,48,48,48,48,48],[48,120,49,48,48,48,48,48,48,48],[48,120,50,48,48,48,48,48,48,48],[48,120,52,48,48,48,48,48,48,48],[48,120,56,48,48,48,48,48,48,48]]
noncomputable def iC:List (List Nat)→List Nat
 | []=>[]
 | [x]=>x
 | x::r=>x++[44,32]++iC r
noncomputable def cI(m:Nat):List Nat:=(List.range 4).filter λk=>decide (m / 2 ^ k % 2=1)
noncomputable def dE(low k:Nat):List Nat:=nameLit.getD (low+k) []
noncomputable def dD(m low:Nat):List Nat:=if m=0 then[48,120,48]else iC ((cI m).map (dE low))
noncomputable def v8(n:Nat)(k:Nat→Bool):Bool:=match n with
 | 0=>k 0
 | m+1=>k (m+1)
noncomputable def gI:List Nat→(List Nat→Bool)→Bool
 | [],k=>k []
 | x::xs,k=>v8 x λy=>gI xs λys=>k (y::ys)
noncomputable def o7:List Str→(List Str→Bool)→Bool
 | [],k=>k []
 | s::ss,k=>gI s.cps.toList λl=>o7 ss λr=>k (bc l::r)
theorem vF(n:Nat)(k:Nat→Bool):v8 n k=k n:=by cases n<;>rfl
theorem eT:∀(l:List Nat) (k:List Nat→Bool),gI l k=k l
 | [],k=>rfl
 | x::xs,k=>by rw[gI,vF,eT xs]
theorem nz:∀(l:List Str) (k:List Str→Bool),o7 l k=k l
 | [],k=>rfl
 | s::ss,k=>by rw[o7,eT,nz ss]
noncomputable def tq(m low:Nat)(ps:List Str):Bool:=decide (ps.length≤10) && (ps.all PyData.strOk && (List.range 4).all λk=>decide (bc (dE low k)∈ps)==decide (m / 2 ^ k % 2=1))
noncomputable def fh(m low:Nat):Bool:=gI (dD m low) λl=>decide (l.length≤1000) && (decide (l.length≠0) && (l.all (·<0x110000) && o7 (Txt.split (bc l) fq) (tq m low)))
theorem vK{m low:Nat}(h:fh m low=true):(dD m low).length≤1000∧(dD m low).length≠0∧(∀ch∈dD m low,ch<0x110000)∧(Txt.split (bc (dD m low)) fq).length≤10∧(∀y∈Txt.split (bc (dD m low)) fq,PyData.strOk y=true)∧
  ∀k<4,decide (bc (dE low k)∈Txt.split (bc (dD m low)) fq)=decide (m / 2 ^ k % 2=1):=by
 unfold fh at h
 rw[eT,nz]at h
 unfold tq at h
 simp only[Bool.and_eq_true,decide_eq_true_eq,List.all_eq_true,beq_iff_eq,List.mem_range]at h
 obtain⟨h1,h2,h3,h4,h5,h6⟩:=h
 exact⟨h1,h2,λch hc=>by simpa using h3 ch hc,h4,h5,h6⟩
theorem Dx:∀m<16,fh m 0=true:=by decide +kernel
theorem Dy:∀m<16,fh m 1=true:=by decide +kernel
theorem CW:∀m<16,fh m 2=true:=by decide +kernel
theorem CQ:∀m<16,fh m 3=true:=by decide +kernel
theorem Dh:∀m<16,fh m 4=true:=by decide +kernel
theorem CN:∀m<16,fh m 5=true:=by decide +kernel
theorem CM:∀m<16,fh m 6=true:=by decide +kernel
theorem CK:∀m<16,fh m 7=true:=by decide +kernel
theorem CF:∀m<16,fh m 8=true:=by decide +kernel
theorem Dk:∀m<16,fh m 9=true:=by decide +kernel
theorem BL:∀m<16,fh m 10=true:=by decide +kernel
theorem CA:∀m<16,fh m 11=true:=by decide +kernel
theorem Bw:∀m<16,fh m 12=true:=by decide +kernel
theorem Bt{m low:Nat}(hm:m<16)(hl:low<13):fh m low=true:=
 (show ∀k∈([0,1,2,3,4,5,6,7,8,9,10,11,12]:List Nat),∀m<16,fh m k=true from List.forall_mem_cons.mpr ⟨Dx,List.forall_mem_cons.mpr ⟨Dy,List.forall_mem_cons.mpr ⟨CW,List.forall_mem_cons.mpr ⟨CQ,List.forall_mem_cons.mpr ⟨Dh,List.forall_mem_cons.mpr ⟨CN,List.forall_mem_cons.mpr ⟨CM,List.forall_mem_cons.mpr ⟨CK,List.forall_mem_cons.mpr ⟨CF,List.forall_mem_cons.mpr ⟨Dk,List.forall_mem_cons.mpr ⟨BL,List.forall_mem_cons.mpr ⟨CA,List.forall_mem_cons.mpr ⟨Bw,List.forall_mem_nil _⟩⟩⟩⟩⟩⟩⟩⟩⟩⟩⟩⟩⟩) low (List.mem_range.mpr hl) m hm
theorem m7:nameLit.map bc=(List.range 32).map nameOf:=by decide +kernel
theorem AE{i:Nat}(hi:i<32):nameOf i=bc (nameLit.getD i []):=by
 have h:=congrArg (λl:List Str=>l[i]?) m7
 have hl:nameLit.length=32:=by decide
 simp only[List.getElem?_map,List.getElem?_range hi,Option.map_some]at h
 rw[List.getElem?_eq_getElem (by(first|lia|omega))]at h
 simp only[Option.map_some,Option.some.injEq]at h
 rw[←h,List.getD,List.getElem?_eq_getElem (by(first|lia|omega))];rfl
theorem zX:∀m<16,∀low<13,bP 32 0 ((m*2 ^ low:Nat):Int)=((cI m).map (low+·),if m=0 then some 0 else none):=by decide +kernel
noncomputable def dR(f:Nat):Int:=((f:Int) - 3)*2 ^ 32
theorem wi:∀f<5,bP 32 0 (2 ^ 32 - 1+dR f)=(List.range 32,if dR f=0 then none else some (dR f)):=by decide +kernel
theorem AG:∀f<5,(eU (dR f)).length≤100∧PyData.strOk (eU (dR f))=true:=by decide +kernel
theorem yJ:(∀l∈nameLit,l.length≤40)∧nameLit.length=32∧∀l∈nameLit,∀ch∈l,ch<0x110000:=by decide +kernel
theorem iz:∀ls:List (List Nat),Txt.join fq (ls.map bc)=bc (iC ls):=by
 intro ls
 rw[join_eq]
 induction ls with
 | nil=>rfl
 | cons x ls ih=>
  cases ls with
  | nil=>rfl
  | cons y r=>
   show bc x++fq++Str.join fq ((y::r).map bc)=_
   rw[ih]
   show bc x++bc [44,32]++bc (iC (y::r))=_
   rw[jC,jC];rfl
end Mine
namespace Mine
section
variable{Γ:List Slot}{c c1 c2 c3:List Cell}{p q r:PE}{ps:PL}{d a b:D}{ds:List D}{α:Type}
theorem fb{i j:Nat}(h:i≠j):(aS i d Γ)[j]?=Γ[j]?:=by unfold aS;exact List.getElem?_set_ne h
theorem gF{i:Nat}(h:i<Γ.length):(aS i d Γ)[i]?=some (.val d):=by unfold aS;exact List.getElem?_set_self h
noncomputable abbrev eQ:D:=.lst (nameLit.map aE)
theorem zx:(List.range 22).map (λj=>eU ((2 ^ (10+j):Nat):Int))=(nameLit.drop 10).map bc:=by decide +kernel
theorem vS:∀j<22,(eU ((2 ^ (10+j):Nat):Int)).length≤100000:=by decide +kernel
theorem xA:uh Γ c=some (.next,aS 27 eQ Γ,c):=by
 refine bk ?_
 have e1:=dm (Γ:=Γ) (c:=c) (js:=[none]) (i:=0) (p:=bo lj (ag (ao .Pow (ah 2) (aa 0)) (aw))) (l:=List.range 22) (g:=λ(k:Nat)=>D.int (10+(k:Int))) (c1:=c) (λj=>D.str (eU ((2 ^ (10+j):Nat):Int)))
  (fL (au (ay (i:=10)) (au (ay (i:=32)) aB)) ((fr2 (by decide) (by decide)).trans rfl)) (by
   intro j hj
   have hj':=List.mem_range.mp hj
   refine cy (au (ij (n:=10+j) (by(first|lia|omega)) ?_) aB) (nZ (vS j hj'))
   refine(ab (i:=0) rfl).trans ?_
   congr 3) (by decide)
 refine(aT (op:=.Add) (aY (au bF (au bF (au bF (au bF (au bF (au bF (au bF (au bF (au bF (au bF aB)))))))))) (Nat.le_of_ble_eq_true rfl)) e1 (dn (Nat.le_of_ble_eq_true rfl))).trans ?_
 have h:=congrArg (List.map D.str) zx
 rw[List.map_map,List.map_map]at h
 have h2:(List.range 22).map (λj=>D.str (eU ((2 ^ (10+j):Nat):Int)))=(nameLit.drop 10).map aE:=h
 rw[h2]
 rfl
noncomputable def eG(low:Nat):List (List Nat):=(List.range 4).map (dE low)
theorem ve:∀low<13,(nameLit.take (low+4)).drop low=eG low:=by decide +kernel
theorem wK{low:Nat}(hl:low<13)(h27:Γ[27]?=some (.val eQ))(h10:Γ[10]?=some (.val (.int (low:Int)))):sY Γ c=some (.next,aS 28 (.lst ((eG low).map aE)) Γ,c):=by
 have hn:nameLit.length=32:=by decide
 refine bk ((lx (l:=nameLit) (f:=aE) (i:=low) (k:=low+4) (ab h27) (ab h10) (dA (ab h10) (ay (i:=((4:Nat):Int)))) (by(first|lia|omega)) (by(first|lia|omega)) (by(first|lia|omega))).trans ?_)
 rw[ve low hl]
theorem kK{B:Nat}(hB:44<B):∀ls:List (List Nat),(∀l∈ls,∀ch∈l,ch<B)→∀ch∈iC ls,ch<B
 | [],_,ch,h=>by cases h
 | [x],h,ch,hc=>h x (.head _) ch hc
 | x::y::r,h,ch,hc=>by
  have hc':ch∈x++[44,32]++iC (y::r):=hc
  rcases List.mem_append.mp hc' with hc|hc
  ·rcases List.mem_append.mp hc with hc|hc
   ·exact h x (.head _) ch hc
   ·simp only[List.mem_cons,List.not_mem_nil,or_false]at hc;(first|lia|omega)
  ·exact kK hB (y::r) (λl hl=>h l (.tail _ hl)) ch hc
theorem tX:∀ls:List (List Nat),(∀l∈ls,l.length≤100)→hN fq (ls.map bc)≤102*ls.length:=by
 intro ls
 unfold hN
 rw[List.length_map,List.map_map,show fq.length=2 from rfl]
 induction ls with
 | nil=>intro _;exact Nat.le_refl _
 | cons x ls ih=>
  intro h
  have:=ih λl hl=>h l (.tail _ hl)
  have hx:=h x (.head _)
  rw[List.map_cons,List.sum_cons,List.length_cons]
  show (bc x).length+_+_≤_
  rw[len_str]
  (first|lia|omega)
theorem qy(x:Str):bc x.cps.toList=x:=by cases x;simp[bc]
theorem wR{a b:Int}:fy .NotEq (.int a) (.int b)=some (a != b):=rfl
theorem xD{T k:Nat}(h15:Γ[15]?=some (.ref k))(hk:c[k]?=some (.lst ds))(hd:ds.length≤99999)(h11:Γ[11]?=some (.val (.int (w9 T))))(h27:Γ[27]?=some (.val eQ)):∃x,sG Γ c=some (.next,Γ,c.set k (.lst (ds++[.tup [x,x]])))∧GoodK 20 x:=by
 have hf:T / 13 % 5<5:=Nat.mod_lt _ (by decide)
 have hfar:w9 T=dR (T / 13 % 5):=rfl
 rw[hfar]at h11
 generalize T / 13 % 5=f at hf h11
 have hloop:=wi f hf
 obtain⟨hh1,hh2⟩:=AG f hf
 obtain⟨l1,l2,l3⟩:=yJ
 have hnames:(List.range 32).map nameOf=nameLit.map bc:=m7.symm
 have hrest:iB (bP 32 0 (2 ^ 32 - 1+dR f)).2=((if dR f=0 then[]else[(eU (dR f)).cps.toList]):List (List Nat)).map bc:=by
  rw[hloop]
  by_cases h:dR f=0
  ·rw[if_pos h,if_pos h];rfl
  ·rw[if_neg h,if_neg h]
   show [eU (dR f)]=[bc _]
   rw[qy]
 have hall:(bP 32 0 (2 ^ 32 - 1+dR f)).1.map nameOf++iB (bP 32 0 (2 ^ 32 - 1+dR f)).2=(nameLit++if dR f=0 then[]else[(eU (dR f)).cps.toList]).map bc:=by
  rw[hrest,List.map_append,hloop,hnames]
 have hsmall:∀l∈(nameLit++if dR f=0 then[]else[(eU (dR f)).cps.toList]),l.length≤100∧∀ch∈l,ch<0x110000:=by
  intro l hl
  rcases List.mem_append.mp hl with hl|hl
  ·exact⟨Nat.le_trans (l1 l hl) (by decide),l3 l hl⟩
  ·by_cases h:dR f=0
   ·rw[if_pos h]at hl;cases hl
   ·rw[if_neg h]at hl
    rw[List.mem_singleton.mp hl]
    refine⟨by have:=hh1;unfold Str.length at this;rw[Array.length_toList];exact this,?_⟩
    unfold PyData.strOk at hh2
    intro ch hc
    have:=Array.all_eq_true_iff_forall_mem.mp hh2 ch (Array.mem_toList_iff.mp hc)
    simpa using this
 have hlen:(nameLit++if dR f=0 then[]else[(eU (dR f)).cps.toList]).length≤33:=by
  rw[List.length_append]
  by_cases h:dR f=0
  ·rw[if_pos h];simp;(first|lia|omega)
  ·rw[if_neg h];simp;(first|lia|omega)
 have hjl:hN fq ((nameLit++if dR f=0 then[]else[(eU (dR f)).cps.toList]).map bc)≤100000:=by
  have:=tX _ λl hl=>(hsmall l hl).1
  (first|lia|omega)
 have hp:=kg (n:=2 ^ 32 - 1+dR f) (by rw[hall];exact hjl) (by
  intro G hG
  rw[hloop]at hG
  by_cases h:dR f=0
  ·rw[if_pos h]at hG;cases hG
  ·rw[if_neg h]at hG
   cases hG;(first|lia|omega))
 rw[hall,iz]at hp
 refine⟨aE (iC (nameLit++if dR f=0 then[]else[(eU (dR f)).cps.toList])),k7 h15 hk (cj (c1:=c) ?_ ?_) hd,(qz (kK (by decide) _ λl hl=>(hsmall l hl).2)).le (by decide)⟩
 ·exact cP (aT (op:=.Add) (aT (op:=.Sub) (aT (op:=.Pow) (ay (i:=2)) (ay (i:=32)) (tT (by decide))) (ay (i:=1)) jh) (ab h11) sH) hp
 ·have hne:aD .NotEq (aa 11) (ah 0) Γ c=some (dR f != 0,c):=bb (ab h11) ay wR
  have hif:pIf (aD .NotEq (aa 11) (ah 0)) (aK (ag (bo lj (ag (aa 11) (aw))) (aw))) (aK (aw)) Γ c=some (.lst ((if dR f=0 then[]else[(eU (dR f)).cps.toList]:List (List Nat)).map aE),c):=by
   by_cases h:dR f=0
   ·rw[if_pos h]
    exact fo (hne.trans (by rw[h];rfl)) (aY aB (Nat.le_of_ble_eq_true rfl))
   ·rw[if_neg h]
    refine(fO (hne.trans (by rw[bne_iff_ne.mpr h])) (aY (au (cy (au (ab h11) aB) (nZ (by(first|lia|omega)))) aB) (Nat.le_of_ble_eq_true rfl))).trans ?_
    show some (D.lst [.str (eU (dR f))],c)=some (D.lst [.str (bc _)],c)
    rw[qy]
  have hcat:=aT (op:=.Add) (ab (c:=c) h27) hif (dn (by rw[List.length_map,List.length_map,←List.length_append];(first|lia|omega)))
  rw[←List.map_append]at hcat
  refine gP bF rfl (au hcat aB) ?_
  have:=lJ (x:=fq) (ls:=(nameLit++if dR f=0 then[]else[(eU (dR f)).cps.toList]).map bc) hjl
  rw[iz,List.map_map]at this
  exact this
end
end Mine
namespace Mine
section
variable{Γ:List Slot}{c c1 c2 c3:List Cell}{p q r:PE}{ps:PL}{d a b:D}{ds:List D}{α:Type}
theorem vL(low:Nat):(eG low).length=4:=by unfold eG;rw[List.length_map,List.length_range]
theorem y5{low k:Nat}(hk:k<4):(eG low).getD k []=dE low k:=by
 unfold eG
 rw[List.getD,List.getElem?_map,List.getElem?_range hk];rfl
theorem kY(low k:Nat):(dE low k).length≤40∧∀ch∈dE low k,ch<0x110000:=by
 obtain⟨l1,l2,l3⟩:=yJ
 unfold dE
 by_cases h:low+k<nameLit.length
 ·rw[List.getD,List.getElem?_eq_getElem h]
  exact⟨l1 _ (List.getElem_mem h),l3 _ (List.getElem_mem h)⟩
 ·rw[List.getD,List.getElem?_eq_none (by(first|lia|omega))]
  exact⟨Nat.zero_le _,by intro ch h;cases h⟩
theorem wZ{x:Str}(h:x.length≤100000)(h2:(Txt.split x fq).length≤100000):ot [.str x,.str fq]=some (.lst ((Txt.split x fq).map .str)):=if_pos ⟨by decide,h,h2⟩
theorem Az{w:Str}{parts:List Str}(hw:PyData.strOk w=true)(hp:∀y∈parts,PyData.strOk y=true):fy .In (.str w) (.lst (parts.map .str))=some (decide (w∈parts)):=by
 show dIn (.str w) (parts.map .str)=_
 have h1:D.toPy (.str w)=some (.str w):=by simp only[D.toPy,hw,if_true]
 have h2:∀l:List Str,(∀y∈l,PyData.strOk y=true)→cZ (l.map .str)=some (l.map .str)∧PyData.canLayAll0 (l.map PyData.str)=true∧PyData.depthAll (l.map PyData.str)=0:=by
  intro l
  induction l with
  | nil=>intro _;exact⟨rfl,by simp[PyData.canLayAll0],by simp[PyData.depthAll]⟩
  | cons y l ih=>
   intro h
   obtain⟨i1,i2,i3⟩:=ih λx hx=>h x (.tail _ hx)
   have hok:=h y (.head _)
   refine⟨?_,?_,?_⟩
   ·simp only[List.map_cons,cZ,D.toPy,hok,if_true,i1]
   ·simp only[List.map_cons,PyData.canLayAll0,PyData.canLay0,hok,i2,Bool.and_self]
   ·simp only[List.map_cons,PyData.depthAll,PyData.depth,i3];rfl
 obtain⟨i1,i2,i3⟩:=h2 parts hp
 unfold dIn
 rw[h1,i1]
 dsimp only
 rw[if_pos (by rw[i2,i3];simp only[PyData.canLay0,hw];rfl)]
 congr 1
 rw[List.any_map]
 apply Bool.eq_iff_iff.mpr
 rw[List.any_eq_true,decide_eq_true_eq]
 constructor
 ·rintro ⟨x,hx,h⟩
  have:x=w:=by simpa [PyData.eqv] using h
  exact this▸hx
 ·intro h
  exact⟨w,h,by simp[PyData.eqv]⟩
theorem wV:∀m<16,((cI m).map λk=>((2 ^ k:Nat):Int)).sum=(m:Int)∧dP ((cI m).map λk=>((2 ^ k:Nat):Int))=true:=by decide +kernel
theorem Ae{m k:Nat}(h:k∈cI m):k<4:=List.mem_range.mp (List.mem_filter.mp h).1
theorem C8:∀m<16,(cI m=[]↔m=0):=by decide
theorem xG{m k:Nat}{w1:Slot}(hk:k<4):aD .Eq (ao .Mod (ao .FloorDiv (aa 2) (ao .Pow (ah 2) (aa 0))) (ah 2)) (ah 1) [.val (.int (k:Int)),w1,.val (.int (m:Int))] c=some (decide (m / 2 ^ k % 2=1),c):=by
 have h:=aT (op:=.FloorDiv) (ab (Γ:=[.val (.int (k:Int)),w1,.val (.int (m:Int))]) (c:=c) (i:=2) rfl) (ij (n:=k) (by(first|lia|omega)) (ab (i:=0) rfl)) (sD (by
  have h1:2 ^ k≤2 ^ 4:=Nat.pow_le_pow_right (by decide) (by(first|lia|omega))
  have h2:0<2 ^ k:=Nat.pow_pos (by decide)
  generalize 2 ^ k=z at h1 h2
  have:(2:Nat) ^ 4=16:=by decide
  (first|lia|omega)))
 rw[jN]at h
 refine(bb (dk h (ay (i:=((2:Nat):Int))) (by decide)) (ay (i:=1)) je).trans ?_
 congr 2
 by_cases hh:m / 2 ^ k % 2=1
 ·rw[hh];rfl
 ·rw[decide_eq_false hh];exact beq_eq_false_iff_ne.mpr (by(first|lia|omega))
theorem lT{low:Nat}:eS ((eG low).map aE)=(List.range 4).map λk=>(D.int (k:Nat),aE (dE low k)):=by
 rw[e8,vL]
 apply List.map_congr_left
 intro k hk
 have:=y5 (low:=low) (List.mem_range.mp hk)
 show (D.int (k:Nat),aE ((eG low).getD k default))=_
 rw[show (eG low).getD k default=(eG low).getD k []from rfl,this]
theorem vZ{low m ka ks:Nat}{as ss:List D}(hl:low<13)(hm:m<16)(hne:ka≠ks)(hG:Γ.length=39)(h28:Γ[28]?=some (.val (.lst ((eG low).map aE))))(h30:Γ[30]?=some (.val (.int ((m*2 ^ low:Nat):Int))))(h31:Γ[31]?=some (.val (.int (m:Int))))(h15:Γ[15]?=some (.ref ka))(h29:Γ[29]?=some (.ref ks))
  (ha:c[ka]?=some (.lst as)) (hs:c[ks]?=some (.lst ss)) (hla:as.length≤9000) (hls:ss.length≤9000) :
  ∃x Γ',rz Γ c=some (.next,Γ',(c.set ka (.lst (as++[.tup [x,x]]))).set ks (.lst (ss++[.int (m:Int)])))∧GoodK 20 x∧Γ'.length=39∧∀j,j≠32→j≠33→Γ'[j]?=Γ[j]?:=by
 obtain⟨k1,k2,k3,k4,k5,k6⟩:=vK (Bt hm hl)
 have hloop:=zX m hm low hl
 have hka:ka<c.length:=(List.getElem?_eq_some_iff.mp ha).1
 have hks:ks<c.length:=(List.getElem?_eq_some_iff.mp hs).1
 have hwn:(cI m).map (λk=>nameOf (low+k))=((cI m).map (dE low)).map bc:=by
  rw[List.map_map]
  apply List.map_congr_left
  intro k hk
  have:=Ae hk
  exact AE (by(first|lia|omega))
 have hsel:hN fq (((cI m).map (dE low)).map bc)≤100000:=by
  have h1:=tX ((cI m).map (dE low)) (λl hl=>by obtain⟨k,_,rfl⟩:=List.mem_map.mp hl;exact Nat.le_trans (kY low k).1 (by decide))
  have h2:((cI m).map (dE low)).length≤4:=by rw[List.length_map];exact Nat.le_trans (List.length_filter_le _ _) (by rw[List.length_range];exact Nat.le_refl _)
  (first|lia|omega)
 have hsaid:lV [.int ((m*2 ^ low:Nat):Int)]=some (aE (dD m low)):=by
  have e1:(bP 32 0 ((m*2 ^ low:Nat):Int)).1.map nameOf=((cI m).map (dE low)).map bc:=by
   rw[hloop,List.map_map];exact hwn
  by_cases h0:m=0
  ·subst h0
   have e2:(bP 32 0 ((0*2 ^ low:Nat):Int)).1.map nameOf++iB (bP 32 0 ((0*2 ^ low:Nat):Int)).2=[bc [48,120,48]]:=by
    rw[e1,hloop]
    have:cI 0=[]:=by decide
    rw[this,if_pos rfl]
    have:eU 0=bc [48,120,48]:=by decide +kernel
    show [eU 0]=_
    rw[this]
   have:=kg (n:=((0*2 ^ low:Nat):Int)) (by rw[e2];decide) (by intro G hG;rw[hloop,if_pos rfl]at hG;cases hG;decide +kernel)
   rw[e2]at this
   rw[this]
   exact congrArg (λz=>some (D.str z)) (iz [[48,120,48]])
  ·have e2:(bP 32 0 ((m*2 ^ low:Nat):Int)).1.map nameOf++iB (bP 32 0 ((m*2 ^ low:Nat):Int)).2=((cI m).map (dE low)).map bc:=by
    rw[e1,hloop,if_neg h0];simp[iB]
   have:=kg (n:=((m*2 ^ low:Nat):Int)) (by rw[e2];exact hsel) (by intro G hG;rw[hloop,if_neg h0]at hG;cases hG)
   rw[e2,iz]at this
   rw[this]
   unfold dD
   rw[if_neg h0]
 have s1:bf 32 (aI jG (aF (aa 30) (aW))) Γ c=some (.next,aS 32 (aE (dD m low)) Γ,c):=bk (cP (ab h30) hsaid)
 have s2:bf 33 (bO "str" ot (aa 32) (ag (aZ ⟨#[44,32]⟩) (aw))) (aS 32 (aE (dD m low)) Γ) c=some (.next,aS 33 (.lst ((Txt.split (bc (dD m low)) fq).map .str)) (aS 32 (aE (dD m low)) Γ),c):=
  bk (gP (ab (gF (by(first|lia|omega)))) rfl (au bF aB) (wZ (by rw[len_str];(first|lia|omega)) (by(first|lia|omega))))
 generalize hG2:aS 33 (.lst ((Txt.split (bc (dD m low)) fq).map .str)) (aS 32 (aE (dD m low)) Γ)=Γ2 at s2
 have get2:∀j,j≠32→j≠33→Γ2[j]?=Γ[j]?:=by
  intro j h1 h2
  rw[←hG2,fb (Ne.symm h2),fb (Ne.symm h1)]
 have g32:Γ2[32]?=some (.val (aE (dD m low))):=by rw[←hG2,fb (by decide)];exact gF (by(first|lia|omega))
 have g33:Γ2[33]?=some (.val (.lst ((Txt.split (bc (dD m low)) fq).map .str))):=by rw[←hG2];exact gF (by rw[dM];(first|lia|omega))
 have len2:Γ2.length=39:=by rw[←hG2,dM,dM];exact hG
 have hcap1:bQ [none,none,some 31] Γ2=[.un,.un,.val (.int (m:Int))]:=by simp[bQ,get2 31 (by decide) (by decide),h31]
 have e1:=gB (Γ:=Γ2) (c:=c) (js:=[none,none,some 31]) (i:=0) (j:=1) (t:=aD .Eq (ao .Mod (ao .FloorDiv (aa 2) (ao .Pow (ah 2) (aa 0))) (ah 2)) (ah 1)) (p:=aa 1) (l:=(List.range 4).map λk=>(D.int (k:Nat),aE (dE low k))) (c1:=c)
  (λq=>match q.1 with|.int k=>decide (m / 2 ^ k.toNat % 2=1)|_=>false) (λq=>q.2) (by decide) ((eK (ab ((get2 28 (by decide) (by decide)).trans h28))).trans (by rw[lT])) (by
   rw[hcap1]
   intro q hq
   obtain⟨k,hk,rfl⟩:=List.mem_map.mp hq
   exact xG (List.mem_range.mp hk)) (λq _ _=>ab rfl) (by simp)
 have f1:(((List.range 4).map λk=>(D.int (k:Nat),aE (dE low k))).filter λq=>match q.1 with|.int k=>decide (m / 2 ^ k.toNat % 2=1)|_=>false).map (λq=>q.2)=((cI m).map (dE low)).map aE:=by
  rw[List.filter_map,List.map_map,List.map_map]
  unfold cI
  rfl
 rw[f1]at e1
 have e2:=gP (T:="str") (F:=dg) (bF (Γ:=Γ2) (c:=c) (x:=fq)) rfl (au e1 aB) (by
  have:=lJ (x:=fq) hsel
  rw[iz,List.map_map]at this
  exact this)
 have e3:rM (bO "str" dg (aZ ⟨#[44,32]⟩) (ag (aX [none,none,some 31] (bu ff (ag (aa 28) (aw))) (.t [0,1]) (aD .Eq (ao .Mod (ao .FloorDiv (aa 2) (ao .Pow (ah 2) (aa 0))) (ah 2)) (ah 1)) (aQ (aa 1))) (aw))) (aZ ⟨#[48,120,48]⟩) Γ2 c=some (aE (dD m low),c):=by
  by_cases h0:m=0
  ·subst h0
   have hb:cI 0=[]:=by decide
   rw[hb]at e2
   exact Aw e2 rfl bF
  ·have hsd:dD m low=iC ((cI m).map (dE low)):=by unfold dD;rw[if_neg h0]
   rw[hsd]at k1 k2⊢
   refine Ab e2 ?_
   have:jM (aE (iC ((cI m).map (dE low))))=if (bc (iC ((cI m).map (dE low)))).length≤100000 then some (((bc (iC ((cI m).map (dE low)))).length:Int) != 0)else none:=rfl
   rw[this,if_pos (by rw[len_str];(first|lia|omega)),len_str]
   congr 1
   exact bne_iff_ne.mpr (by(first|lia|omega))
 have s3:=k7 (Γ:=Γ2) (c:=c) ((get2 15 (by decide) (by decide)).trans h15) ha (cj (ab g32) e3) (by(first|lia|omega))
 generalize hC3:c.set ka (.lst (as++[.tup [aE (dD m low),aE (dD m low)]]))=C3 at s3
 have hs3:C3[ks]?=some (.lst ss):=by rw[←hC3,lX hne];exact hs
 have hcap2:bQ [none,none,some 33] Γ2=[.un,.un,.val (.lst ((Txt.split (bc (dD m low)) fq).map .str))]:=by simp[bQ,g33]
 have e4:=gB (Γ:=Γ2) (c:=C3) (js:=[none,none,some 33]) (i:=0) (j:=1) (t:=aD .In (aa 1) (aa 2)) (p:=ao .Pow (ah 2) (aa 0)) (l:=(List.range 4).map λk=>(D.int (k:Nat),aE (dE low k))) (c1:=C3)
  (λq=>match q.1 with|.int k=>decide (m / 2 ^ k.toNat % 2=1)|_=>false) (λq=>match q.1 with|.int k=>.int ((2 ^ k.toNat:Nat):Int)|_=>.none) (by decide) ((eK (ab ((get2 28 (by decide) (by decide)).trans h28))).trans (by rw[lT])) (by
   rw[hcap2]
   intro q hq
   obtain⟨k,hk,rfl⟩:=List.mem_map.mp hq
   have hk4:=List.mem_range.mp hk
   refine(bb (ab (i:=1) rfl) (ab (i:=2) rfl) (Az (by have:=(kY low k).2;unfold PyData.strOk;simpa using this) k5)).trans ?_
   rw[k6 k hk4];rfl) (by
   intro q hq _
   obtain⟨k,hk,rfl⟩:=List.mem_map.mp hq
   have hk4:=List.mem_range.mp hk
   exact ij (n:=k) (by(first|lia|omega)) (ab (i:=0) rfl)) (by simp)
 have f2:(((List.range 4).map λk=>(D.int (k:Nat),aE (dE low k))).filter λq=>match q.1 with|.int k=>decide (m / 2 ^ k.toNat % 2=1)|_=>false).map (λq=>match q.1 with|.int k=>D.int ((2 ^ k.toNat:Nat):Int)|_=>.none)=((cI m).map λk=>((2 ^ k:Nat):Int)).map .int:=by
  rw[List.filter_map,List.map_map,List.map_map]
  unfold cI
  rfl
 rw[f2]at e4
 obtain⟨b1,b2⟩:=wV m hm
 have e5:=cy (F:=oO) (au e4 aB) (oM b2)
 rw[b1]at e5
 have s4:=jc (Γ:=Γ2) (c:=C3) ((get2 29 (by decide) (by decide)).trans h29) ⟨_,hs3⟩ e5 hs3 (by(first|lia|omega))
 refine⟨aE (dD m low),Γ2,?_,(qz k3).le (by decide),len2,get2⟩
 rw[hC3]
 exact aN s1 (aN s2 (aN s3 (bC s4 rfl)))
theorem qi{low ka ks:Nat}(hl:low<13)(hne:ka≠ks):∀(ms:List Nat) (Γ:List Slot) (c:List Cell) (as ss:List D),(∀m∈ms,m<16)→Γ.length=39→Γ[28]?=some (.val (.lst ((eG low).map aE)))→Γ[15]?=some (.ref ka)→Γ[29]?=some (.ref ks)→c[ka]?=some (.lst as)→c[ks]?=some (.lst ss)→as.length+ms.length≤9000→ss.length+ms.length≤9000→
  ∃Γ' qs,bG (.t [30,31]) rz (ms.map λm=>.tup [.int ((m*2 ^ low:Nat):Int),.int (m:Int)]) Γ c=some (.next,Γ',(c.set ka (.lst (as++qs))).set ks (.lst (ss++ntD ms)))∧fM qs∧qs.length=ms.length∧Γ'.length=39∧∀j,j≠30→j≠31→j≠32→j≠33→Γ'[j]?=Γ[j]?
 | [],Γ,c,as,ss,_,hG,_,_,_,ha,hs,_,_=>by
  refine⟨Γ,[],?_,sT,rfl,hG,λ_ _ _ _ _=>rfl⟩
  rw[List.append_nil]
  show some (Fl.next,Γ,c)=some (Fl.next,Γ,(c.set ka (.lst as)).set ks (.lst (ss++[])))
  rw[List.append_nil,set_same ha,set_same hs]
 | m::ms,Γ,c,as,ss,hms,hG,h28,h15,h29,ha,hs,hla,hls=>by
  have hka:ka<c.length:=(List.getElem?_eq_some_iff.mp ha).1
  have hks:ks<c.length:=(List.getElem?_eq_some_iff.mp hs).1
  rw[List.length_cons]at hla hls
  have hget:∀j,j≠30→j≠31→(aS 31 (.int (m:Int)) (aS 30 (.int ((m*2 ^ low:Nat):Int)) Γ))[j]?=Γ[j]?:=λj h1 h2=>by rw[fb (Ne.symm h2),fb (Ne.symm h1)]
  obtain⟨x,Γ1,e1,g1,l1,o1⟩:=vZ (Γ:=aS 31 (.int (m:Int)) (aS 30 (.int ((m*2 ^ low:Nat):Int)) Γ)) hl (hms m (.head _)) hne (by rw[dM,dM];exact hG) ((hget 28 (by decide) (by decide)).trans h28) (by rw[fb (by decide)];exact gF (by(first|lia|omega))) (gF (by rw[dM];(first|lia|omega))) ((hget 15 (by decide) (by decide)).trans h15) ((hget 29 (by decide) (by decide)).trans h29) ha hs (by(first|lia|omega)) (by(first|lia|omega))
  have o2:∀j,j≠30→j≠31→j≠32→j≠33→Γ1[j]?=Γ[j]?:=λj h1 h2 h3 h4=>(o1 j h3 h4).trans (hget j h1 h2)
  obtain⟨Γ',qs,e2,g2,n2,l2,o3⟩:=qi hl hne ms Γ1 ((c.set ka (.lst (as++[.tup [x,x]]))).set ks (.lst (ss++[.int (m:Int)]))) (as++[.tup [x,x]]) (ss++[.int (m:Int)]) (λz hz=>hms z (.tail _ hz)) l1 ((o2 28 (by decide) (by decide) (by decide) (by decide)).trans h28) ((o2 15 (by decide) (by decide) (by decide) (by decide)).trans h15) ((o2 29 (by decide) (by decide) (by decide) (by decide)).trans h29)
   (by rw[lX (Ne.symm hne)];exact gZ hka) (gZ (by rw[List.length_set];exact hks)) (by rw[List.length_append];simp only[List.length_cons,List.length_nil];(first|lia|omega)) (by rw[List.length_append];simp only[List.length_cons,List.length_nil];(first|lia|omega))
  refine⟨Γ',.tup [x,x]::qs,?_,eh (ds:=[.tup [x,x]]) (gT g1 (Nat.le_refl _)) g2,by rw[List.length_cons,n2,List.length_cons],l2,λj h1 h2 h3 h4=>(o3 j h1 h2 h3 h4).trans (o2 j h1 h2 h3 h4)⟩
  rw[List.map_cons]
  refine bR rfl e1 (e2.trans ?_)
  have hcomm:∀(z:List Cell) (a b:Cell),(z.set ks a).set ka b=(z.set ka b).set ks a:=λz a b=>List.set_comm _ _ (Ne.symm hne)
  rw[hcomm,List.set_set,List.set_set,List.append_assoc,List.append_assoc]
  rfl
theorem qx(low:Nat):∀ms:List Nat,(((ik low ms).map λ(k:Nat)=>D.int (k:Int)).zip (ms.map λ(k:Nat)=>D.int (k:Int))).map (λq=>D.tup [q.1,q.2])=ms.map λm=>.tup [.int ((m*2 ^ low:Nat):Int),.int (m:Int)]
 | []=>rfl
 | m::ms=>by
  have ih:=qx low ms
  unfold ik at ih⊢
  rw[List.map_cons,List.map_cons,List.map_cons,List.zip_cons_cons,List.map_cons,ih];rfl
theorem x9{low ka ks:Nat}{ms:List Nat}{as:List D}{w:D}(hl:low<13)(hne:ka≠ks)(hms:∀m∈ms,m<16)(hn:ms.length≤100)(hG:Γ.length=39)(h28:Γ[28]?=some (.val (.lst ((eG low).map aE))))(h15:Γ[15]?=some (.ref ka))(h29:Γ[29]?=some (.ref ks))(h14:Γ[14]?=some (.val (.tup [w,av (ik low ms)])))(h12:Γ[12]?=some (.val (av ms)))
  (ha:c[ka]?=some (.lst as)) (hs:c[ks]?=some (.lst [])) (hla:as.length≤5000) :
  ∃Γ' qs,td Γ c=some (.next,Γ',(c.set ka (.lst (as++qs))).set ks (.lst (ntD ms)))∧fM qs∧qs.length=ms.length∧Γ'.length=39∧∀j,j≠30→j≠31→j≠32→j≠33→Γ'[j]?=Γ[j]?:=by
 obtain⟨Γ',qs,e,g1,g2,g3,g4⟩:=qi hl hne ms Γ c as [] hms hG h28 h15 h29 ha hs (by(first|lia|omega)) (by simp;(first|lia|omega))
 refine⟨Γ',qs,iG (uc (fx (ab h14) (ay (i:=1)) (kN (by decide) rfl)) (ab h12)) ?_ rfl,g1,g2,g3,g4⟩
 rw[qx]
 exact e
end
end Mine
namespace Mine
noncomputable def bw(E:List (Nat×Nat))(m:Nat):List (Nat×Nat):=((List.range E.length).filter λk=>decide (m / 2 ^ k % 2=1)).map λk=>E.getD k (0,0)
noncomputable def endsN(E:List (Nat×Nat)):List Nat:=E.flatMap λq=>[q.1,q.2]
noncomputable def cA(E:List (Nat×Nat)):Nat:=distinct (bg (endsN E))
noncomputable def bJ(ls:List Nat)(q:Nat×Nat):List Nat:=if ls=[]∨ls.getD q.1 0=ls.getD q.2 0 then[]else ls.map λx=>if x=ls.getD q.2 0 then ls.getD q.1 0 else x
noncomputable def eH:List Nat→List (Nat×Nat)→List Nat
 | ls,[]=>ls
 | ls,q::qs=>eH (bJ ls q) qs
noncomputable def dB(E:List (Nat×Nat))(m:Nat):Bool:=decide (eH (if (bw E m).length+1=cA E then List.range (E.length+1)else[]) (bw E m)≠[])
section
variable{Γ:List Slot}{c c1 c2 c3:List Cell}{p q r:PE}{ps:PL}{d a b:D}{ds:List D}{α:Type}
theorem k9(l:List Nat):∃p,(av l).toPy=some p∧SeqAt.shaped p=true∧p=.list (l.map λ(k:Nat)=>.int (k:Int)):=by
 have h:∀l:List Nat,cZ (l.map λ(k:Nat)=>D.int (k:Int))=some (l.map λ(k:Nat)=>PyData.int (k:Int)):=by
  intro l
  induction l with
  | nil=>rfl
  | cons k l ih=>rw[List.map_cons,cZ,ih];rfl
 obtain⟨p,e,s⟩:=(mD l).good (by decide)
 have:p=.list (l.map λ(k:Nat)=>.int (k:Int)):=by
  simp only[D.toPy,h]at e
  exact(Option.some.inj e).symm
 exact⟨p,e,s,this⟩
theorem eq_nil(l:List Nat):dEq (av l) (.lst [])=some (decide (l=[])):=by
 obtain⟨p,e1,s1,hp⟩:=k9 l
 obtain⟨p2,e2,s2,hp2⟩:=k9 []
 unfold dEq
 rw[e1]
 have e2':(D.lst []).toPy=some p2:=e2
 rw[e2']
 dsimp only
 rw[s1,s2,hp,hp2]
 cases l with
 | nil=>rfl
 | cons k l=>rfl
theorem nX(l:List Nat):fy .Eq (av l) (.lst [])=some (decide (l=[])):=eq_nil l
theorem z8(l:List Nat):fy .NotEq (av l) (.lst [])=some (!decide (l=[])):=by
 show (dEq (av l) (.lst [])).map _=_
 rw[eq_nil];rfl
theorem rG{q:Nat×Nat}{w1:Slot}:f7 (.n 1) (cC (aa 0)) cn (aQ (aa 1)) [.val (nnD q),w1] c=some ([.int (q.1:Int),.int (q.2:Int)],[.val (nnD q),.val (.int (q.2:Int))],c):=rfl
theorem pB:∀(E:List (Nat×Nat)) (w0 w1:Slot),∃Γ',bL (.n 0) cn (f7 (.n 1) (cC (aa 0)) cn (aQ (aa 1))) (E.map nnD) [w0,w1] c=some (ntD (endsN E),Γ',c)
 | [],w0,w1=>⟨_,rfl⟩
 | q::E,w0,w1=>by
  obtain⟨Γ',e⟩:=pB E (.val (nnD q)) (.val (.int (q.2:Int)))
  exact⟨Γ',iu rfl rfl rG e⟩
theorem vv{ns:List Nat}(h:p Γ c=some (av ns,c))(hl:ns.length<4000):iW p Γ c=some (.int ((distinct (bg ns):Nat):Int),c):=by
 unfold iW
 rw[h]
 simp only[Option.bind_some]
 have hm:(ns.map λ(k:Nat)=>D.int (k:Int))=(bg ns).map .int:=by unfold bg;rw[List.map_map];rfl
 rw[hm,e6]
 simp only[Option.bind_some]
 rw[if_pos (by rw[List.length_map];exact hl)]
theorem rj(a b:Nat):(some (((a:Int)==(b:Int)),c):Option (Bool×List Cell))=some (decide (a=b),c):=by
 by_cases hh:a=b
 ·subst hh;rw[beq_self_eq_true,decide_eq_true rfl]
 ·rw[decide_eq_false hh,beq_eq_false_iff_ne.mpr (by(first|lia|omega))]
theorem qY{ls:List Nat}{q:Nat×Nat}{w0 w1 w2 w3 w4 w5:Slot}(h:ls≠[]→q.1<ls.length∧q.2<ls.length)(hl:ls.length≤100) :
  bf 6 (pIf (pd (aD .Eq (aa 6) (aK (aw))) (aD .Eq (a9 (aa 6) (aa 7)) (a9 (aa 6) (aa 8)))) (aK (aw)) (aX [none,some 6,some 8,some 7] (cC (aa 6)) (.n 0) (cn) (aQ (pIf (aD .Eq (aa 0) (a9 (aa 1) (aa 2))) (a9 (aa 1) (aa 3)) (aa 0)))))
   [w0,w1,w2,w3,w4,w5,.val (av ls),.val (.int (q.1:Int)),.val (.int (q.2:Int))] c=some (.next,[w0,w1,w2,w3,w4,w5,.val (av (bJ ls q)),.val (.int (q.1:Int)),.val (.int (q.2:Int))],c):=by
 have t1:aD .Eq (aa 6) (aK (aw)) [w0,w1,w2,w3,w4,w5,.val (av ls),.val (.int (q.1:Int)),.val (.int (q.2:Int))] c=some (decide (ls=[]),c):=bb (ab (i:=6) rfl) (aY aB (Nat.zero_le _)) (nX ls)
 refine(bk (d:=av (bJ ls q)) ?_).trans rfl
 by_cases h0:ls=[]
 ·have:bJ ls q=[]:=by unfold bJ;rw[if_pos (.inl h0)]
  rw[this]
  exact fO (BI (t1.trans (by rw[decide_eq_true h0]))) (aY aB (Nat.zero_le _))
 ·obtain⟨h1,h2⟩:=h h0
  have g:∀j:Nat,j<ls.length→(ls.map λ(k:Nat)=>D.int (k:Int))[j]?=some (.int ((ls.getD j 0:Nat):Int)):=by
   intro j hj
   rw[List.getElem?_map,List.getD,List.getElem?_eq_getElem hj];rfl
  have t2:aD .Eq (a9 (aa 6) (aa 7)) (a9 (aa 6) (aa 8)) [w0,w1,w2,w3,w4,w5,.val (av ls),.val (.int (q.1:Int)),.val (.int (q.2:Int))] c=some (decide (ls.getD q.1 0=ls.getD q.2 0),c):=by
   refine(bb (cJ (ab (i:=6) rfl) (ab (i:=7) rfl) (by(first|lia|omega)) (g _ h1)) (cJ (ab (i:=6) rfl) (ab (i:=8) rfl) (by(first|lia|omega)) (g _ h2)) je).trans ?_
   exact rj _ _
  have t3:=BD (t1.trans (by rw[decide_eq_false h0])) t2
  by_cases h3:ls.getD q.1 0=ls.getD q.2 0
  ·have:bJ ls q=[]:=by unfold bJ;rw[if_pos (.inr h3)]
   rw[this]
   exact fO (t3.trans (by rw[decide_eq_true h3])) (aY aB (Nat.zero_le _))
  ·have e:bJ ls q=ls.map λx=>if x=ls.getD q.2 0 then ls.getD q.1 0 else x:=by unfold bJ;rw[if_neg (λh=>h.elim h0 h3)]
   rw[e]
   refine fo (t3.trans (by rw[decide_eq_false h3])) ((dm (l:=ls) (g:=λ(k:Nat)=>D.int (k:Int)) (λx=>D.int ((if x=ls.getD q.2 0 then ls.getD q.1 0 else x:Nat):Int)) (bZ (ab (i:=6) rfl)) ?_ (by(first|lia|omega))).trans ?_)
   ·intro x _
    show pIf _ _ _ [.val (.int (x:Int)),.val (av ls),.val (.int (q.2:Int)),.val (.int (q.1:Int))] c=_
    have u1:aD .Eq (aa 0) (a9 (aa 1) (aa 2)) [.val (.int (x:Int)),.val (av ls),.val (.int (q.2:Int)),.val (.int (q.1:Int))] c=some (decide (x=ls.getD q.2 0),c):=by
     refine(bb (ab (i:=0) rfl) (cJ (ab (i:=1) rfl) (ab (i:=2) rfl) (by(first|lia|omega)) (g _ h2)) je).trans ?_
     exact rj _ _
    by_cases hh:x=ls.getD q.2 0
    ·rw[if_pos hh]
     exact fO (u1.trans (by rw[decide_eq_true hh])) (cJ (ab (i:=1) rfl) (ab (i:=3) rfl) (by(first|lia|omega)) (g _ h1))
    ·rw[if_neg hh]
     exact fo (u1.trans (by rw[decide_eq_false hh])) (ab (i:=0) rfl)
   ·unfold av;rw[List.map_map];rfl
theorem ur(ls:List Nat)(q:Nat×Nat):bJ ls q=[]∨(bJ ls q).length=ls.length:=by
 unfold bJ
 split
 ·exact .inl rfl
 ·exact .inr (List.length_map _)
theorem nL{w0 w1 w2 w3 w4 w5:Slot}:∀(qs:List (Nat×Nat)) (ls:List Nat) (w7 w8:Slot),(ls=[]∨∀q∈qs,q.1<ls.length∧q.2<ls.length)→ls.length≤100→
  ∃w7' w8',bG (.t [7,8]) (ak (bf 6 (pIf (pd (aD .Eq (aa 6) (aK (aw))) (aD .Eq (a9 (aa 6) (aa 7)) (a9 (aa 6) (aa 8)))) (aK (aw)) (aX [none,some 6,some 8,some 7] (cC (aa 6)) (.n 0) (cn) (aQ (pIf (aD .Eq (aa 0) (a9 (aa 1) (aa 2))) (a9 (aa 1) (aa 3)) (aa 0)))))) (aG)) (qs.map nnD)
   [w0,w1,w2,w3,w4,w5,.val (av ls),w7,w8] c=some (.next,[w0,w1,w2,w3,w4,w5,.val (av (eH ls qs)),w7',w8'],c)
 | [],ls,w7,w8,_,_=>⟨w7,w8,rfl⟩
 | q::qs,ls,w7,w8,h,hl=>by
  have hs:=ur ls q
  have h':bJ ls q=[]∨∀x∈qs,x.1<(bJ ls q).length∧x.2<(bJ ls q).length:=by
   rcases hs with hs|hs
   ·exact .inl hs
   ·rcases h with h|h
    ·left
     unfold bJ
     rw[if_pos (.inl h)]
    ·right
     rw[hs]
     exact λx hx=>h x (.tail _ hx)
  obtain⟨w7',w8',e⟩:=nL qs (bJ ls q) (.val (.int (q.1:Int))) (.val (.int (q.2:Int))) h' (by
   rcases hs with hs|hs
   ·rw[hs];exact Nat.zero_le _
   ·rw[hs];exact hl)
  exact⟨w7',w8',bR rfl (bC (qY (λhne=>h.elim (λh=>absurd h hne) λh=>h q (.head _)) hl) rfl) e⟩
noncomputable abbrev yl:PS:=(ak (bf 5 (aX [none,none,some 4] (bu ff (ag (aa 1) (aw))) (.t [0,1]) (aD .Eq (ao .Mod (ao .FloorDiv (aa 2) (ao .Pow (ah 2) (aa 0))) (ah 2)) (ah 1)) (aQ (aa 1)))) (ak (bf 6 (pIf (aD .Eq (ao .Add (bo d9 (ag (aa 5) (aw))) (ah 1)) (aa 2)) (ey (ao .Add (bo d9 (ag (aa 1) (aw))) (ah 1))) (aK (aw)))) (ak (fC (.t [7,8]) (cC (aa 5)) (ak (bf 6 (pIf (pd (aD .Eq (aa 6) (aK (aw))) (aD .Eq (a9 (aa 6) (aa 7)) (a9 (aa 6) (aa 8)))) (aK (aw)) (aX [none,some 6,some 8,some 7] (cC (aa 6)) (.n 0) (cn) (aQ (pIf (aD .Eq (aa 0) (a9 (aa 1) (aa 2))) (a9 (aa 1) (aa 3)) (aa 0)))))) (aG)) (aG)) (ak (ll 3 (pIf (aD .NotEq (aa 6) (aK (aw))) (aK (ag (aa 4) (aw))) (aK (aw)))) (aG)))))
theorem range_list{n:Nat}(h:p Γ c=some (.int (n:Int),c1))(hn:n≤900):ey p Γ c=some (av (List.range n),c1):=by
 unfold ey
 rw[h]
 simp only[Option.bind_some]
 rw[if_pos ⟨by(first|lia|omega),by(first|lia|omega)⟩]
 unfold eO av
 rw[Int.sub_zero,Int.toNat_natCast]
 refine congrArg (λz=>some (D.lst z,c1)) (List.map_congr_left λk _=>?_)
 rw[Int.zero_add]
theorem rB{E:List (Nat×Nat)}{m:Nat}{ts:List D}{w0 w5 w6 w7 w8:Slot}(hE:E.length=4∧∀q∈E,q.1<5∧q.2<5)(hm:m<16)(ht:ts.length≤9000) :
  ∃w5' w6' w7' w8',yl [w0,.val (.lst (E.map nnD)),.val (.int (cA E:Int)),.ref 0,.val (.int (m:Int)),w5,w6,w7,w8] [.lst ts]=some (.next,[w0,.val (.lst (E.map nnD)),.val (.int (cA E:Int)),.ref 0,.val (.int (m:Int)),w5',w6',w7',w8'],[.lst (ts++if dB E m=true then[.int (m:Int)]else[])]):=by
 have hen:eS (E.map nnD)=(List.range 4).map λk=>(D.int (k:Nat),nnD (E.getD k (0,0))):=by
  rw[e8,hE.1];rfl
 have e1:=gB (Γ:=[w0,.val (.lst (E.map nnD)),.val (.int (cA E:Int)),.ref 0,.val (.int (m:Int)),w5,w6,w7,w8]) (c:=[.lst ts]) (js:=[none,none,some 4]) (i:=0) (j:=1) (t:=aD .Eq (ao .Mod (ao .FloorDiv (aa 2) (ao .Pow (ah 2) (aa 0))) (ah 2)) (ah 1)) (p:=aa 1) (l:=(List.range 4).map λk=>(D.int (k:Nat),nnD (E.getD k (0,0)))) (c1:=[.lst ts])
  (λq=>match q.1 with|.int k=>decide (m / 2 ^ k.toNat % 2=1)|_=>false) (λq=>q.2) (by decide) ((eK (ab (i:=1) rfl)).trans (by rw[hen])) (by
   intro q hq
   obtain⟨k,hk,rfl⟩:=List.mem_map.mp hq
   exact xG (List.mem_range.mp hk)) (λq _ _=>ab rfl) (by simp)
 have f1:(((List.range 4).map λk=>(D.int (k:Nat),nnD (E.getD k (0,0)))).filter λq=>match q.1 with|.int k=>decide (m / 2 ^ k.toNat % 2=1)|_=>false).map (λq=>q.2)=(bw E m).map nnD:=by
  rw[List.filter_map,List.map_map]
  unfold bw
  rw[hE.1,List.map_map]
  rfl
 rw[f1]at e1
 have hpl:(bw E m).length≤4:=by
  unfold bw
  rw[List.length_map]
  exact Nat.le_trans (List.length_filter_le _ _) (by rw[List.length_range,hE.1];exact Nat.le_refl _)
 have hpm:∀q∈bw E m,q.1<5∧q.2<5:=by
  intro q hq
  unfold bw at hq
  obtain⟨k,hk,rfl⟩:=List.mem_map.mp hq
  have hk':=List.mem_range.mp (List.mem_filter.mp hk).1
  rw[List.getD,List.getElem?_eq_getElem hk']
  exact hE.2 _ (List.getElem_mem hk')
 have hsz:=λ(Γ1:List Slot) (h5:Γ1[5]?=some (.val (.lst ((bw E m).map nnD))))=>dA (kr (Γ:=Γ1) (c:=[.lst ts]) (ab h5) (by rw[List.length_map];(first|lia|omega))) (ay (i:=((1:Nat):Int)))
 have e2:pIf (aD .Eq (ao .Add (bo d9 (ag (aa 5) (aw))) (ah 1)) (aa 2)) (ey (ao .Add (bo d9 (ag (aa 1) (aw))) (ah 1))) (aK (aw)) [w0,.val (.lst (E.map nnD)),.val (.int (cA E:Int)),.ref 0,.val (.int (m:Int)),.val (.lst ((bw E m).map nnD)),w6,w7,w8] [.lst ts]=
   some (av (if (bw E m).length+1=cA E then List.range (E.length+1)else[]),[.lst ts]):=by
  have t:aD .Eq (ao .Add (bo d9 (ag (aa 5) (aw))) (ah 1)) (aa 2) [w0,.val (.lst (E.map nnD)),.val (.int (cA E:Int)),.ref 0,.val (.int (m:Int)),.val (.lst ((bw E m).map nnD)),w6,w7,w8] [.lst ts]=some (decide ((bw E m).length+1=cA E),[.lst ts]):=by
   refine(bb (hsz _ rfl) (ab (i:=2) rfl) je).trans ?_
   rw[List.length_map]
   congr 2
   by_cases hh:(bw E m).length+1=cA E
   ·rw[decide_eq_true hh,hh];exact beq_self_eq_true _
   ·rw[decide_eq_false hh];exact beq_eq_false_iff_ne.mpr (by(first|lia|omega))
  by_cases hh:(bw E m).length+1=cA E
  ·rw[if_pos hh]
   have:=range_list (dA (kr (Γ:=[w0,.val (.lst (E.map nnD)),.val (.int (cA E:Int)),.ref 0,.val (.int (m:Int)),.val (.lst ((bw E m).map nnD)),w6,w7,w8]) (c:=[.lst ts]) (ab (i:=1) rfl) (by rw[List.length_map];(first|lia|omega))) (ay (i:=((1:Nat):Int)))) (by rw[List.length_map];(first|lia|omega))
   rw[List.length_map]at this
   exact fO (t.trans (by rw[decide_eq_true hh])) this
  ·rw[if_neg hh]
   exact fo (t.trans (by rw[decide_eq_false hh])) (aY aB (Nat.zero_le _))
 generalize hls:(if (bw E m).length+1=cA E then List.range (E.length+1)else[])=ls at e2
 have hlen:ls=[]∨ls.length=5:=by
  rw[←hls]
  split
  ·right;rw[List.length_range,hE.1]
  ·exact .inl rfl
 obtain⟨w7',w8',e3⟩:=nL (c:=[.lst ts]) (w0:=w0) (w1:=.val (.lst (E.map nnD))) (w2:=.val (.int (cA E:Int))) (w3:=.ref 0) (w4:=.val (.int (m:Int))) (w5:=.val (.lst ((bw E m).map nnD))) (bw E m) ls w7 w8 (by
  rcases hlen with h|h
  ·exact .inl h
  ·right;rw[h];exact hpm) (by rcases hlen with h|h<;>rw[h]<;>simp)
 have hT:dB E m=decide (eH ls (bw E m)≠[]):=by unfold dB;rw[hls]
 have e4:ll 3 (pIf (aD .NotEq (aa 6) (aK (aw))) (aK (ag (aa 4) (aw))) (aK (aw))) [w0,.val (.lst (E.map nnD)),.val (.int (cA E:Int)),.ref 0,.val (.int (m:Int)),.val (.lst ((bw E m).map nnD)),.val (av (eH ls (bw E m))),w7',w8'] [.lst ts]=
   some (.next,[w0,.val (.lst (E.map nnD)),.val (.int (cA E:Int)),.ref 0,.val (.int (m:Int)),.val (.lst ((bw E m).map nnD)),.val (av (eH ls (bw E m))),w7',w8'],[.lst (ts++if dB E m=true then[.int (m:Int)]else[])]):=by
  have t:aD .NotEq (aa 6) (aK (aw)) [w0,.val (.lst (E.map nnD)),.val (.int (cA E:Int)),.ref 0,.val (.int (m:Int)),.val (.lst ((bw E m).map nnD)),.val (av (eH ls (bw E m))),w7',w8'] [.lst ts]=some (!decide (eH ls (bw E m)=[]),[.lst ts]):=bb (ab (i:=6) rfl) (aY aB (Nat.zero_le _)) (z8 _)
  rw[hT]
  by_cases hh:eH ls (bw E m)=[]
  ·rw[if_neg (by simp[hh])]
   exact qm (i:=3) (k:=0) rfl ⟨_,rfl⟩ (fo (t.trans (by rw[decide_eq_true hh];rfl)) (aY aB (Nat.zero_le _))) rfl (by simp;(first|lia|omega))
  ·rw[if_pos (by simp[hh])]
   exact qm (i:=3) (k:=0) rfl ⟨_,rfl⟩ (fO (t.trans (by rw[decide_eq_false hh];rfl)) (aY (au (ab (i:=4) rfl) aB) (Nat.le_of_ble_eq_true rfl))) rfl (by simp;(first|lia|omega))
 exact⟨_,_,_,_,aN (bk e1) (aN (bk e2) (aN (iG (bZ (ab (i:=5) rfl)) e3 rfl) (bC e4 rfl)))⟩
theorem kA{E:List (Nat×Nat)}{w0:Slot}(hE:E.length=4∧∀q∈E,q.1<5∧q.2<5):∀(ms:List Nat) (ts:List Nat) (w4 w5 w6 w7 w8:Slot),(∀m∈ms,m<16)→ts.length+ms.length≤9000→
  ∃Γ',Γ'[3]?=some (.ref 0)∧bG (.n 4) yl (ntD ms) [w0,.val (.lst (E.map nnD)),.val (.int (cA E:Int)),.ref 0,w4,w5,w6,w7,w8] [.lst (ntD ts)]=some (.next,Γ',[.lst (ntD (ts++ms.filter (dB E)))])
 | [],ts,w4,w5,w6,w7,w8,_,_=>⟨_,rfl,by rw[List.filter_nil,List.append_nil];rfl⟩
 | m::ms,ts,w4,w5,w6,w7,w8,hm,hl=>by
  rw[List.length_cons]at hl
  obtain⟨w5',w6',w7',w8',e1⟩:=rB (E:=E) (m:=m) (ts:=ntD ts) (w0:=w0) (w5:=w5) (w6:=w6) (w7:=w7) (w8:=w8) hE (hm m (.head _)) (by rw[List.length_map];(first|lia|omega))
  by_cases ht:dB E m=true
  ·rw[if_pos ht,show ntD ts++[D.int (m:Int)]=ntD (ts++[m])from iQ ts [m]]at e1
   obtain⟨Γ',g,e2⟩:=kA hE ms (ts++[m]) (.val (.int (m:Int))) w5' w6' w7' w8' (λx hx=>hm x (.tail _ hx)) (by rw[List.length_append];simp only[List.length_cons,List.length_nil];(first|lia|omega))
   refine⟨Γ',g,bR rfl e1 (e2.trans ?_)⟩
   rw[List.filter_cons,if_pos ht,List.append_assoc];rfl
  ·rw[if_neg ht,List.append_nil]at e1
   obtain⟨Γ',g,e2⟩:=kA hE ms ts (.val (.int (m:Int))) w5' w6' w7' w8' (λx hx=>hm x (.tail _ hx)) (by(first|lia|omega))
   refine⟨Γ',g,bR rfl e1 (e2.trans ?_)⟩
   rw[List.filter_cons,if_neg ht]
theorem pN{E:List (Nat×Nat)}{ms:List Nat}(hE:E.length=4∧∀q∈E,q.1<5∧q.2<5)(hm:∀m∈ms,m<16)(hl:ms.length≤100):tG [av ms,.lst (E.map nnD)]=some (av (ms.filter (dB E))):=by
 obtain⟨Γ',g,e⟩:=kA (w0:=.val (av ms)) hE ms [] .un .un .un .un .un hm (by simp;(first|lia|omega))
 rw[List.nil_append]at e
 obtain⟨Γ2,e0⟩:=pB (c:=[]) E .un .un
 have hlen:(endsN E).length≤100:=by
  unfold endsN
  have:∀E:List (Nat×Nat),(E.flatMap λq=>[q.1,q.2]).length=2*E.length:=by
   intro E
   induction E with
   | nil=>rfl
   | cons q E ih=>rw[List.flatMap_cons,List.length_append,ih,List.length_cons];simp only[List.length_cons,List.length_nil];(first|lia|omega)
  rw[this];(first|lia|omega)
 have h1:bf 2 (iW (aX [none,none] (cC (aa 1)) (.n 0) (cn) (f7 (.n 1) (cC (aa 0)) cn (aQ (aa 1))))) [.val (av ms),.val (.lst (E.map nnD)),.un,.un,.un,.un,.un,.un,.un] []=some (.next,[.val (av ms),.val (.lst (E.map nnD)),.val (.int (cA E:Int)),.un,.un,.un,.un,.un,.un],[]):=
  bk (vv (o8 (bZ (ab (i:=1) rfl)) e0 (by rw[List.length_map];(first|lia|omega))) (by(first|lia|omega)))
 have hr:aa 3 Γ' [.lst (ntD (ms.filter (dB E)))]=some (av (ms.filter (dB E)),[.fz (ntD (ms.filter (dB E)))]):=g6 g rfl
 exact cu rfl (aN h1 (aN (Γ1:=[.val (av ms),.val (.lst (E.map nnD)),.val (.int (cA E:Int)),.ref 0,.un,.un,.un,.un,.un]) (c1:=[.lst []]) (iK (c:=[]) aB (by decide)) (aN (iG (ds:=ntD ms) (c1:=[.lst []]) (bZ (ab (i:=0) rfl)) e rfl) (cp (dY hr)))))
end
end Mine
namespace Mine
noncomputable def jz(m k:Nat):Nat:=m / 2 ^ k % 2
noncomputable def stepI(m k:Nat):Int:=1 - ((2*jz m k:Nat):Int)
noncomputable def fI(m:Nat)(ts rs:List Nat)(k o:Nat):Bool:=decide (rs.getD o 0<rs.getD k 0) && (decide (jz m o≠jz m k) && decide ((m:Int)+stepI m k*(((2 ^ k:Nat):Int) - ((2 ^ o:Nat):Int))∈bg ts))
noncomputable def mP(m:Nat)(ts rs:List Nat)(k:Nat):Nat:=if (List.range rs.length).filter (fI m ts rs k)=[]then 2 ^ k else 0
noncomputable def bt(m:Nat)(ts rs:List Nat):Nat:=((List.range rs.length).map (mP m ts rs)).sum
section
variable{Γ:List Slot}{c c1 c2 c3:List Cell}{p q r:PE}{ps:PL}{d a b:D}{ds:List D}{α:Type}
theorem zc(z:Int)(ts:List Nat):fy .In (.int z) (av ts)=some (decide (z∈bg ts)):=by
 show dIn (.int z) (ts.map λ(k:Nat)=>D.int (k:Int))=_
 have h2:∀l:List Nat,cZ (l.map λ(k:Nat)=>D.int (k:Int))=some (l.map λ(k:Nat)=>PyData.int (k:Int))∧PyData.canLayAll0 (l.map λ(k:Nat)=>PyData.int (k:Int))=true∧PyData.depthAll (l.map λ(k:Nat)=>PyData.int (k:Int))=0:=by
  intro l
  induction l with
  | nil=>exact⟨rfl,by simp[PyData.canLayAll0],by simp[PyData.depthAll]⟩
  | cons k l ih=>
   obtain⟨i1,i2,i3⟩:=ih
   refine⟨by rw[List.map_cons,cZ,i1];rfl,?_,?_⟩
   ·simp only[List.map_cons,PyData.canLayAll0,PyData.canLay0,i2,Bool.and_self]
   ·simp only[List.map_cons,PyData.depthAll,PyData.depth,i3];rfl
 obtain⟨i1,i2,i3⟩:=h2 ts
 unfold dIn
 rw[show D.toPy (.int z)=some (.int z)from rfl,i1]
 dsimp only
 rw[if_pos (by rw[i2,i3];simp only[PyData.canLay0];rfl)]
 congr 1
 rw[List.any_map]
 apply Bool.eq_iff_iff.mpr
 rw[List.any_eq_true,decide_eq_true_eq]
 constructor
 ·rintro ⟨x,hx,h⟩
  have:(x:Int)=z:=by simpa [PyData.eqv] using h
  exact this▸List.mem_map.mpr ⟨x,hx,rfl⟩
 ·intro h
  obtain⟨x,hx,rfl⟩:=List.mem_map.mp h
  exact⟨x,hx,by simp[PyData.eqv]⟩
theorem Em{t1 t2 t3:PB}{b1 b2 b3:Bool}(h1:t1 Γ c=some (b1,c))(h2:t2 Γ c=some (b2,c))(h3:t3 Γ c=some (b3,c)):fW [t1,t2,t3] Γ c=some (b1 && (b2 && b3),c):=by
 cases b1 with
 | false=>exact nW h1
 | true=>
  refine o5 h1 ?_
  cases b2 with
  | false=>exact nW h2
  | true=>
   refine o5 h2 ?_
   cases b3 with
   | false=>exact nW h3
   | true=>exact o5 h3 u9
theorem zi{k:Nat}(hk:k<4):0<2 ^ k∧2 ^ k≤16:=by
 have h1:2 ^ k≤2 ^ 4:=Nat.pow_le_pow_right (by decide) (by(first|lia|omega))
 exact⟨Nat.pow_pos (by decide),h1⟩
theorem lF{m k i j:Nat}(hk:k<4)(hi:Γ[i]?=some (.val (.int (m:Int))))(hj:Γ[j]?=some (.val (.int (k:Int)))):ao .Mod (ao .FloorDiv (aa i) (ao .Pow (ah 2) (aa j))) (ah 2) Γ c=some (.int ((jz m k:Nat):Int),c):=by
 have hp:=zi hk
 have h:=aT (op:=.FloorDiv) (ab (c:=c) hi) (ij (n:=k) (by(first|lia|omega)) (ab hj)) (sD (by generalize 2 ^ k=z at hp;(first|lia|omega)))
 rw[jN]at h
 exact dk h (ay (i:=((2:Nat):Int))) (by decide)
noncomputable abbrev CP:PS:=(ak (bf 6 (ao .Sub (ah 1) (ao .Mult (ah 2) (ao .Mod (ao .FloorDiv (aa 0) (ao .Pow (ah 2) (aa 4))) (ah 2))))) (ak (bf 7 (aX [none,none,some 5,some 0,some 4,some 6,some 1] (bu ff (ag (aa 2) (aw))) (.t [0,1]) (fW [aD .Lt (aa 1) (aa 2),aD .NotEq (ao .Mod (ao .FloorDiv (aa 3) (ao .Pow (ah 2) (aa 0))) (ah 2)) (ao .Mod (ao .FloorDiv (aa 3) (ao .Pow (ah 2) (aa 4))) (ah 2)),aD .In (ao .Add (aa 3) (ao .Mult (aa 5) (ao .Sub (ao .Pow (ah 2) (aa 4)) (ao .Pow (ah 2) (aa 0))))) (aa 6)]) (aQ (aa 0)))) (ak (f6 3 .Add (pIf (aD .Eq (aa 7) (aK (aw))) (ao .Pow (ah 2) (aa 4)) (ah 0))) (aG))))
theorem wB{m k acc:Nat}{ts rs:List Nat}{w6 w7:Slot}(hr:rs.length=4)(hk:k<4) :
  ∃w6' w7',CP [.val (.int (m:Int)),.val (av ts),.val (av rs),.val (.int (acc:Int)),.val (.int (k:Int)),.val (.int (rs.getD k 0:Nat)),w6,w7] c=some (.next,[.val (.int (m:Int)),.val (av ts),.val (av rs),.val (.int ((acc+mP m ts rs k:Nat):Int)),.val (.int (k:Int)),.val (.int (rs.getD k 0:Nat)),w6',w7'],c):=by
 have e1:ao .Sub (ah 1) (ao .Mult (ah 2) (ao .Mod (ao .FloorDiv (aa 0) (ao .Pow (ah 2) (aa 4))) (ah 2))) [.val (.int (m:Int)),.val (av ts),.val (av rs),.val (.int (acc:Int)),.val (.int (k:Int)),.val (.int (rs.getD k 0:Nat)),w6,w7] c=some (.int (stepI m k),c):=
  aT (op:=.Sub) (ay (i:=1)) (mN (ay (i:=((2:Nat):Int))) (lF (m:=m) hk rfl rfl) (by decide)) jh
 have hen:eS (rs.map λ(k:Nat)=>D.int (k:Int))=(List.range 4).map λo=>(D.int (o:Nat),D.int ((rs.getD o 0:Nat):Int)):=by
  rw[e8,hr];rfl
 have e2:=gB (Γ:=[.val (.int (m:Int)),.val (av ts),.val (av rs),.val (.int (acc:Int)),.val (.int (k:Int)),.val (.int (rs.getD k 0:Nat)),.val (.int (stepI m k)),w7]) (c:=c) (js:=[none,none,some 5,some 0,some 4,some 6,some 1]) (i:=0) (j:=1)
  (t:=fW [aD .Lt (aa 1) (aa 2),aD .NotEq (ao .Mod (ao .FloorDiv (aa 3) (ao .Pow (ah 2) (aa 0))) (ah 2)) (ao .Mod (ao .FloorDiv (aa 3) (ao .Pow (ah 2) (aa 4))) (ah 2)),aD .In (ao .Add (aa 3) (ao .Mult (aa 5) (ao .Sub (ao .Pow (ah 2) (aa 4)) (ao .Pow (ah 2) (aa 0))))) (aa 6)]) (p:=aa 0)
  (l:=(List.range 4).map λo=>(D.int (o:Nat),D.int ((rs.getD o 0:Nat):Int))) (c1:=c) (λq=>match q.1 with|.int o=>fI m ts rs k o.toNat|_=>false) (λq=>q.1) (by decide) ((eK (ab (i:=2) rfl)).trans (by rw[hen])) (by
   intro q hq
   obtain⟨o,ho,rfl⟩:=List.mem_map.mp hq
   have ho':=List.mem_range.mp ho
   show fW _ [.val (.int (o:Int)),.val (.int ((rs.getD o 0:Nat):Int)),.val (.int (rs.getD k 0:Nat)),.val (.int (m:Int)),.val (.int (k:Int)),.val (.int (stepI m k)),.val (av ts)] c=some (fI m ts rs k ((o:Int)).toNat,c)
   rw[Int.toNat_natCast]
   have t1:aD .Lt (aa 1) (aa 2) [.val (.int (o:Int)),.val (.int ((rs.getD o 0:Nat):Int)),.val (.int (rs.getD k 0:Nat)),.val (.int (m:Int)),.val (.int (k:Int)),.val (.int (stepI m k)),.val (av ts)] c=some (decide (rs.getD o 0<rs.getD k 0),c):=by
    refine(bb (ab (i:=1) rfl) (ab (i:=2) rfl) zy).trans ?_
    exact congrArg (λz=>some (z,c)) (decide_eq_decide.mpr (by(first|lia|omega)))
   have t2:aD .NotEq (ao .Mod (ao .FloorDiv (aa 3) (ao .Pow (ah 2) (aa 0))) (ah 2)) (ao .Mod (ao .FloorDiv (aa 3) (ao .Pow (ah 2) (aa 4))) (ah 2)) [.val (.int (o:Int)),.val (.int ((rs.getD o 0:Nat):Int)),.val (.int (rs.getD k 0:Nat)),.val (.int (m:Int)),.val (.int (k:Int)),.val (.int (stepI m k)),.val (av ts)] c=some (decide (jz m o≠jz m k),c):=by
    refine(bb (lF (m:=m) (k:=o) ho' rfl rfl) (lF (m:=m) (k:=k) hk rfl rfl) wR).trans ?_
    by_cases hh:jz m o=jz m k
    ·rw[hh,decide_eq_false (λh=>h rfl)]
     exact congrArg (λz=>some (z,c)) (bne_self_eq_false _)
    ·rw[decide_eq_true hh]
     exact congrArg (λz=>some (z,c)) (bne_iff_ne.mpr (by(first|lia|omega)))
   have t3:aD .In (ao .Add (aa 3) (ao .Mult (aa 5) (ao .Sub (ao .Pow (ah 2) (aa 4)) (ao .Pow (ah 2) (aa 0))))) (aa 6) [.val (.int (o:Int)),.val (.int ((rs.getD o 0:Nat):Int)),.val (.int (rs.getD k 0:Nat)),.val (.int (m:Int)),.val (.int (k:Int)),.val (.int (stepI m k)),.val (av ts)] c=some (decide ((m:Int)+stepI m k*(((2 ^ k:Nat):Int) - ((2 ^ o:Nat):Int))∈bg ts),c):=by
    refine bb (aT (op:=.Add) (ab (i:=3) rfl) (aT (op:=.Mult) (ab (i:=5) rfl) (aT (op:=.Sub) (ij (n:=k) (by(first|lia|omega)) (ab (i:=4) rfl)) (ij (n:=o) (by(first|lia|omega)) (ab (i:=0) rfl)) jh) (xb ?_)) sH) (ab (i:=6) rfl) (zc _ ts)
    have:jz m k<2:=Nat.mod_lt _ (by decide)
    unfold stepI
    (first|lia|omega)
   exact Em t1 t2 t3) (λq _ _=>ab rfl) (by simp)
 have f1:(((List.range 4).map λo=>(D.int (o:Nat),D.int ((rs.getD o 0:Nat):Int))).filter λq=>match q.1 with|.int o=>fI m ts rs k o.toNat|_=>false).map (λq=>q.1)=((List.range 4).filter (fI m ts rs k)).map λ(o:Nat)=>D.int (o:Int):=by
  rw[List.filter_map,List.map_map]
  rfl
 rw[f1]at e2
 have e3:pIf (aD .Eq (aa 7) (aK (aw))) (ao .Pow (ah 2) (aa 4)) (ah 0) [.val (.int (m:Int)),.val (av ts),.val (av rs),.val (.int (acc:Int)),.val (.int (k:Int)),.val (.int (rs.getD k 0:Nat)),.val (.int (stepI m k)),.val (av ((List.range 4).filter (fI m ts rs k)))] c=some (.int ((mP m ts rs k:Nat):Int),c):=by
  have t:aD .Eq (aa 7) (aK (aw)) [.val (.int (m:Int)),.val (av ts),.val (av rs),.val (.int (acc:Int)),.val (.int (k:Int)),.val (.int (rs.getD k 0:Nat)),.val (.int (stepI m k)),.val (av ((List.range 4).filter (fI m ts rs k)))] c=some (decide ((List.range 4).filter (fI m ts rs k)=[]),c):=bb (ab (i:=7) rfl) (aY aB (Nat.zero_le _)) (nX _)
  unfold mP
  rw[hr]
  by_cases hh:(List.range 4).filter (fI m ts rs k)=[]
  ·rw[if_pos hh]
   exact fO (t.trans (by rw[decide_eq_true hh])) (ij (n:=k) (by(first|lia|omega)) (ab (i:=4) rfl))
  ·rw[if_neg hh]
   exact fo (t.trans (by rw[decide_eq_false hh])) ay
 refine⟨.val (.int (stepI m k)),.val (av ((List.range 4).filter (fI m ts rs k))),aN (bk e1) (aN (bk e2) (bC ((sI rfl e3).trans ?_) rfl))⟩
 rw[show (acc:Int)+(mP m ts rs k:Nat)=((acc+mP m ts rs k:Nat):Int)by(first|lia|omega)];rfl
theorem sm{m:Nat}{ts rs:List Nat}(hr:rs.length=4):∀(ks:List Nat) (acc:Nat) (w4 w5 w6 w7:Slot),(∀k∈ks,k<4)→∃w4' w5' w6' w7',bG (.t [4,5]) CP (ks.map λ(k:Nat)=>D.tup [.int (k:Int),.int ((rs.getD k 0:Nat):Int)]) [.val (.int (m:Int)),.val (av ts),.val (av rs),.val (.int (acc:Int)),w4,w5,w6,w7] c=
  some (.next,[.val (.int (m:Int)),.val (av ts),.val (av rs),.val (.int ((acc+(ks.map (mP m ts rs)).sum:Nat):Int)),w4',w5',w6',w7'],c)
 | [],acc,w4,w5,w6,w7,_=>⟨w4,w5,w6,w7,rfl⟩
 | k::ks,acc,w4,w5,w6,w7,h=>by
  obtain⟨w6',w7',e1⟩:=wB (c:=c) (m:=m) (acc:=acc) (ts:=ts) (w6:=w6) (w7:=w7) hr (h k (.head _))
  obtain⟨a4,a5,a6,a7,e2⟩:=sm hr ks (acc+mP m ts rs k) (.val (.int (k:Int))) (.val (.int ((rs.getD k 0:Nat):Int))) w6' w7' λx hx=>h x (.tail _ hx)
  refine⟨a4,a5,a6,a7,?_⟩
  rw[List.map_cons,List.map_cons,List.sum_cons,←Nat.add_assoc]
  exact bR rfl e1 e2
theorem nC{m:Nat}{ts rs:List Nat}(hr:rs.length=4):pF [.int (m:Int),av ts,av rs]=some (.int ((bt m ts rs:Nat):Int)):=by
 obtain⟨w4,w5,w6,w7,e⟩:=sm (c:=[]) (m:=m) (ts:=ts) hr (List.range 4) 0 .un .un .un .un λk hk=>List.mem_range.mp hk
 rw[Nat.zero_add]at e
 have hen:eS (rs.map λ(k:Nat)=>D.int (k:Int))=(List.range 4).map λo=>(D.int (o:Nat),D.int ((rs.getD o 0:Nat):Int)):=by
  rw[e8,hr];rfl
 have hsrc:bu ff (ag (aa 2) aw) [.val (.int (m:Int)),.val (av ts),.val (av rs),.val (.int ((0:Nat):Int)),.un,.un,.un,.un] []=some ((List.range 4).map λ(k:Nat)=>D.tup [.int (k:Int),.int ((rs.getD k 0:Nat):Int)],[]):=by
  refine(eK (ab (i:=2) rfl)).trans ?_
  rw[hen,List.map_map];rfl
 have:bt m ts rs=((List.range 4).map (mP m ts rs)).sum:=by unfold bt;rw[hr]
 rw[this]
 exact cu rfl (aN (bk (ay (i:=((0:Nat):Int)))) (aN (iG hsrc e rfl) (cp (dY (ab (i:=3) rfl)))))
end
end Mine
namespace Mine
noncomputable def cW(x:Nat):Nat:=((List.range 4).map λk=>jz x k).sum
noncomputable abbrev edE(t:SP):=cE 16 0 t 0 1
noncomputable abbrev edD(t:SP):=cE 18 0 t 0 0
noncomputable def TC(t:SP):List Nat:=(List.range 16).filter (dB (edE t))
noncomputable def OC(t:SP):List Nat:=(List.range 16).filter (dB (edD t))
noncomputable def yX(tc ac:List Nat)(s:Nat):Bool:=match ((tc.zip ac).filter λq=>decide ((s ^^^ q.1) ||| q.2=q.2)).map (·.1)with
 | [h]=>tc.all λone=>decide (cW (s &&& one)≤cW (s &&& h))
 | _=>false
noncomputable def Dv(rs tc oc ac:List Nat):Bool:=decide (tc.map (λm=>bt (15 - m) oc rs)=ac) && (ac.all (λa=>decide (a<16)) && (List.range 16).all (yX tc ac))
noncomputable def perms:List (List Nat):=((List.range 4).flatMap λa=>(List.range 4).flatMap λb=>(List.range 4).flatMap λc=>(List.range 4).map λd=>[a,b,c,d]).filter λl=>l.isPerm [0,1,2,3]
noncomputable def gf(R:List Nat):List Nat:=(List.range 4).map λk=>R.idxOf k
noncomputable def gH(t:SP):Bool:=gI (TC t) λtc=>gI (OC t) λoc=>perms.all λR=>gI (gf R) λrs=>gI (tc.map λm=>bt m tc rs) λac=>Dv rs tc oc ac
theorem Ci:∀b0<2,∀b1<2,∀b2<2,gH (shapeOf 0 0 0 b0 b1 b2)=true:=by decide +kernel
theorem Ck:∀b0<2,∀b1<2,∀b2<2,gH (shapeOf 0 1 0 b0 b1 b2)=true:=by decide +kernel
theorem BJ:∀b0<2,∀b1<2,∀b2<2,gH (shapeOf 1 0 0 b0 b1 b2)=true:=by decide +kernel
theorem Cv:∀b0<2,∀b1<2,∀b2<2,gH (shapeOf 1 1 0 b0 b1 b2)=true:=by decide +kernel
theorem Bp:∀b0<2,∀b1<2,∀b2<2,gH (shapeOf 2 0 0 b0 b1 b2)=true:=by decide +kernel
theorem Br:∀b0<2,∀b1<2,∀b2<2,gH (shapeOf 2 1 0 b0 b1 b2)=true:=by decide +kernel
theorem zE:∀t∈shapes,gH t=true:=by
 intro t ht
 unfold shapes at ht
 obtain⟨k0,h0,ht⟩:=List.mem_flatMap.mp ht
 obtain⟨k1,h1,ht⟩:=List.mem_flatMap.mp ht
 obtain⟨b0,h2,ht⟩:=List.mem_flatMap.mp ht
 obtain⟨b1,h3,ht⟩:=List.mem_flatMap.mp ht
 obtain⟨b2,h4,e⟩:=List.mem_map.mp ht
 have H:∀k0∈([0,1,2]:List Nat),∀k1∈([0,1]:List Nat),∀b0<2,∀b1<2,∀b2<2,gH (shapeOf k0 k1 0 b0 b1 b2)=true:=
  List.forall_mem_cons.mpr ⟨List.forall_mem_cons.mpr ⟨Ci,List.forall_mem_cons.mpr ⟨Ck,List.forall_mem_nil _⟩⟩,List.forall_mem_cons.mpr ⟨List.forall_mem_cons.mpr ⟨BJ,List.forall_mem_cons.mpr ⟨Cv,List.forall_mem_nil _⟩⟩,List.forall_mem_cons.mpr ⟨List.forall_mem_cons.mpr ⟨Bp,List.forall_mem_cons.mpr ⟨Br,List.forall_mem_nil _⟩⟩,List.forall_mem_nil _⟩⟩⟩
 exact e▸H k0 h0 k1 h1 b0 (List.mem_range.mp h2) b1 (List.mem_range.mp h3) b2 (List.mem_range.mp h4)
theorem AD:∀t∈shapes,((edE t).length=4∧∀q∈edE t,q.1<5∧q.2<5)∧((edD t).length=4∧∀q∈edD t,q.1<5∧q.2<5):=by decide +kernel
theorem DB:∀t∈shapes,∀m<16,dB (edD t) m=dB (edE t) (15 - m):=by decide +kernel
theorem Cw:∀a<16,∀b<16,Builtin.bitXor ((a:Nat):Int) ((b:Nat):Int)=((a ^^^ b:Nat):Int)∧a ^^^ b<16:=by decide +kernel
theorem Df:∀a<16,∀b<16,Builtin.bitOr ((a:Nat):Int) ((b:Nat):Int)=((a ||| b:Nat):Int):=by decide +kernel
theorem Cm:∀a<16,∀b<16,a &&& b<16:=by decide +kernel
theorem vW{t:SP}(ht:t∈shapes){R:List Nat}(hR:R∈perms):(∀m∈TC t,bt (15 - m) (OC t) (gf R)=bt m (TC t) (gf R))∧(∀m∈TC t,bt m (TC t) (gf R)<16)∧
  ∀s<16,∃h,(TC t).filter (λone=>decide ((s ^^^ one) ||| bt one (TC t) (gf R)=bt one (TC t) (gf R)))=[h]∧∀one∈TC t,cW (s &&& one)≤cW (s &&& h):=by
 have h:=zE t ht
 unfold gH at h
 rw[eT,eT]at h
 have h:=List.all_eq_true.mp h R hR
 rw[eT,eT]at h
 unfold Dv at h
 simp only[Bool.and_eq_true,decide_eq_true_eq,List.all_eq_true]at h
 obtain⟨h1,h2,h3⟩:=h
 refine⟨λm hm=>List.map_inj_left.mp h1 m hm,λm hm=>h2 _ (List.mem_map.mpr ⟨m,hm,rfl⟩),λs hs=>?_⟩
 have h4:=h3 s (List.mem_range.mpr hs)
 have hz:((TC t).zip ((TC t).map λm=>bt m (TC t) (gf R)))=(TC t).map λm=>(m,bt m (TC t) (gf R)):=by
  generalize TC t=l
  have:∀(l:List Nat) (f:Nat→Nat),l.zip (l.map f)=l.map λm=>(m,f m):=by
   intro l f
   induction l with
   | nil=>rfl
   | cons x l ih=>rw[List.map_cons,List.zip_cons_cons,ih,List.map_cons]
  exact this l _
 unfold yX at h4
 rw[hz,List.filter_map,List.map_map]at h4
 have he:((TC t).filter ((λq:Nat×Nat=>decide ((s ^^^ q.1) ||| q.2=q.2)) ∘ λm=>(m,bt m (TC t) (gf R)))).map ((λq:Nat×Nat=>q.1) ∘ λm=>(m,bt m (TC t) (gf R)))=(TC t).filter (λone=>decide ((s ^^^ one) ||| bt one (TC t) (gf R)=bt one (TC t) (gf R))):=by
  show List.map (λm=>m) _=_
  rw[List.map_id']
  rfl
 rw[he]at h4
 (first|(refine iE h4 ?_ ?_<;>(clear h4;intro _ h4))|split at h4)
 ·rename_i h eq
  refine⟨h,eq,λone ho=>?_⟩
  have:=List.all_eq_true.mp h4 one ho
  simpa using this
 ·cases h4
theorem yf{R:List Nat}(hR:R.Perm [0,1,2,3]):R∈perms:=by
 have hl:=hR.length_eq
 have hm:∀x∈R,x<4:=λx hx=>by have:=hR.mem_iff.mp hx;simp at this;(first|lia|omega)
 match R,hl with
 | [a,b,c,d],_=>
  unfold perms
  refine List.mem_filter.mpr ⟨?_,List.isPerm_iff.mpr hR⟩
  exact List.mem_flatMap.mpr ⟨a,List.mem_range.mpr (hm a (by simp)),List.mem_flatMap.mpr ⟨b,List.mem_range.mpr (hm b (by simp)),List.mem_flatMap.mpr ⟨c,List.mem_range.mpr (hm c (by simp)),List.mem_map.mpr ⟨d,List.mem_range.mpr (hm d (by simp)),rfl⟩⟩⟩⟩
theorem rq{m:Nat}{ts ts' rs rs':List Nat}{k o:Nat}(hk:(rs.getD o 0<rs.getD k 0)↔(rs'.getD o 0<rs'.getD k 0))(ht:∀x,x∈ts↔x∈ts'):fI m ts rs k o=fI m ts' rs' k o:=by
 unfold fI
 rw[decide_eq_decide.mpr hk]
 have:∀z:Int,z∈bg ts↔z∈bg ts':=by
  intro z
  constructor
  ·intro h
   obtain⟨x,hx,e⟩:=List.mem_map.mp h
   exact List.mem_map.mpr ⟨x,(ht x).mp hx,e⟩
  ·intro h
   obtain⟨x,hx,e⟩:=List.mem_map.mp h
   exact List.mem_map.mpr ⟨x,(ht x).mpr hx,e⟩
 rw[decide_eq_decide.mpr (this _)]
theorem vA{m:Nat}{ts ts' rs rs':List Nat}(hl:rs.length=rs'.length)(hk:∀o k,o<rs.length→k<rs.length→((rs.getD o 0<rs.getD k 0)↔(rs'.getD o 0<rs'.getD k 0)))(ht:∀x,x∈ts↔x∈ts'):bt m ts rs=bt m ts' rs':=by
 unfold bt
 rw[←hl]
 congr 1
 apply List.map_congr_left
 intro k hk'
 have hk2:=List.mem_range.mp hk'
 unfold mP
 rw[←hl]
 have:(List.range rs.length).filter (fI m ts rs k)=(List.range rs.length).filter (fI m ts' rs' k):=by
  apply List.filter_congr
  intro o ho
  exact rq (hk o k (List.mem_range.mp ho) hk2) ht
 rw[this]
theorem nf{m T:Nat}{R ts ts':List Nat}(ht:∀x,x∈ts↔x∈ts'):bt m ts ((List.range 4).map (fg R T))=bt m ts' (gf R):=by
 have e3:∀k:Nat,(bg R).idxOf (k:Int)=R.idxOf k:=λk=>oQ (f:=λ(k:Nat)=>(k:Int)) λj _ h=>by exact_mod_cast h
 refine vA (by simp[gf]) (λo k ho hk=>?_) ht
 rw[List.length_map,List.length_range]at ho hk
 unfold gf
 rw[List.getD,List.getD,List.getD,List.getD,List.getElem?_map,List.getElem?_map,List.getElem?_map,List.getElem?_map,List.getElem?_range ho,List.getElem?_range hk]
 show fg R T o<fg R T k↔R.idxOf o<R.idxOf k
 unfold fg
 rw[e3,e3]
 (first|lia|omega)
end Mine
namespace Mine
section
variable{Γ:List Slot}{c c1 c2 c3:List Cell}{p q r:PE}{ps:PL}{d a b:D}{ds:List D}{α:Type}
theorem yS{i j:Nat}{es:List D}(h:Γ[i]?=some (.ref j))(hj:c[j]?=some (.fz es)):aa i Γ c=some (.lst es,c):=by unfold aa;rw[h];simp only[];rw[hj]
theorem y0:sJ Γ c=some (.next,Γ.set 29 (.ref c.length),c++[.lst []]):=iK aB (Nat.zero_le _)
theorem u4{a b:List Int}(h:a.Perm b):dN a=dN b:=by
 refine ji (((List.mergeSort_perm a _)).trans h) ?_
 have:(dN a).Pairwise λx y=>decide (x≤y)=true:=by
  unfold dN
  exact List.pairwise_mergeSort (λx y z h1 h2=>by simp only[decide_eq_true_eq]at *;(first|lia|omega)) (λx y=>by simp only[Bool.or_eq_true,decide_eq_true_eq];(first|lia|omega)) a
 exact this.imp λh=>by simpa using h
theorem mY{ns:List Int}(h:ns.length<64):i8 [dW ns]=some (dW (dN ns)):=by
 show (eX (ns.map .int)).bind _=_
 rw[e6]
 simp only[Option.bind_some]
 rw[if_pos h]
theorem xw{ks:Nat}{E:List (Nat×Nat)}{ms:List Nat}(hE:E.length=4∧∀q∈E,q.1<5∧q.2<5)(hm:∀m∈ms,m<16)(hl:ms.length≤100)(h29:Γ[29]?=some (.ref ks))(hk:c[ks]?=some (.lst (ntD ms)))(h22:Γ[22]?=some (.val (.lst (E.map nnD)))) :
  tY Γ c=some (.next,aS 34 (av (ms.filter (dB E))) Γ,c.set ks (.fz (ntD ms))):=bk (lO (g6 h29 hk) (ab h22) (pN hE hm hl))
theorem yA{ks:Nat}{E:List (Nat×Nat)}{ms:List Nat}(hE:E.length=4∧∀q∈E,q.1<5∧q.2<5)(hm:∀m∈ms,m<16)(hl:ms.length≤100)(h29:Γ[29]?=some (.ref ks))(hk:c[ks]?=some (.fz (ntD ms)))(h23:Γ[23]?=some (.val (.lst (E.map nnD)))) :
  s8 Γ c=some (.next,aS 35 (av (ms.filter (dB E))) Γ,c):=bk (lO (yS h29 hk) (ab h23) (pN hE hm hl))
theorem xO{ts rs:List Nat}(hr:rs.length=4)(hl:ts.length≤100)(h34:Γ[34]?=some (.val (av ts)))(h25:Γ[25]?=some (.val (av rs))):tH Γ c=some (.next,aS 36 (av (ts.map λm=>bt m ts rs)) Γ,c):=by
 have hcap:bQ [none,some 34,some 25] Γ=[.un,.val (av ts),.val (av rs)]:=by simp[bQ,h34,h25]
 refine bk ((dm (l:=ts) (g:=λ(k:Nat)=>D.int (k:Int)) (λm=>D.int ((bt m ts rs:Nat):Int)) (bZ (ab h34)) (by rw[hcap];intro m _;exact lM (ab rfl) (ab rfl) (ab rfl) (nC hr)) (by(first|lia|omega))).trans ?_)
 unfold av
 rw[List.map_map];rfl
theorem pT{m:Nat}(hm:m<16)(h:q Γ c=some (.int (m:Int),c1)):ao .Sub (ah 15) q Γ c=some (.int ((15 - m:Nat):Int),c1):=by
 refine(aT (op:=.Sub) (ay (i:=15)) h jh).trans ?_
 rw[show (15:Int) - (m:Int)=((15 - m:Nat):Int)by(first|lia|omega)]
theorem wh{k:Nat}{ts os rs:List Nat}(hr:rs.length=4)(hl:ts.length≤60∧os.length≤60)(hts:∀m∈ts,m<16)(hp:os.Perm (ts.map λm=>15 - m))(ha:∀m∈ts,bt (15 - m) os rs=bt m ts rs)(h15:Γ[15]?=some (.ref k))(hk:c[k]?=some (.lst ds))(hd:ds.length≤9000)
  (h34:Γ[34]?=some (.val (av ts))) (h35:Γ[35]?=some (.val (av os))) (h25:Γ[25]?=some (.val (av rs))) (h36:Γ[36]?=some (.val (av (ts.map λm=>bt m ts rs)))) :
  ∃qs,sy Γ c=some (.next,Γ,c.set k (.lst (ds++qs)))∧fM qs∧qs.length=2:=by
 have hcap:bQ [none,some 35,some 25] Γ=[.un,.val (av os),.val (av rs)]:=by simp[bQ,h35,h25]
 have e1:=dm (Γ:=Γ) (c:=c) (js:=[none]) (i:=0) (p:=ao .Sub (ah 15) (aa 0)) (l:=ts) (g:=λ(k:Nat)=>D.int (k:Int)) (c1:=c) (λm=>D.int ((15 - m:Nat):Int)) (bZ (ab h34)) (λm hm=>pT (hts m hm) (ab rfl)) (by(first|lia|omega))
 have f1:D.lst (ts.map λm=>D.int ((15 - m:Nat):Int))=dW (bg (ts.map λm=>15 - m)):=by unfold dW bg;rw[List.map_map,List.map_map];rfl
 rw[f1]at e1
 have e2:=cy (F:=i8) (au (ab (c:=c) h35) aB) (by rw[kb];exact mY (by rw[List.length_map];(first|lia|omega)))
 have e3:=cy (F:=i8) (au e1 aB) (mY (by rw[List.length_map,List.length_map];(first|lia|omega)))
 have hsort:dN (bg os)=dN (bg (ts.map λm=>15 - m)):=u4 (hp.map _)
 rw[hsort]at e2
 have e4:=dm (Γ:=Γ) (c:=c) (js:=[none,some 35,some 25]) (i:=0) (p:=aI jO (aF (ao .Sub (ah 15) (aa 0)) (aF (aa 1) (aF (aa 2) (aW))))) (l:=ts) (g:=λ(k:Nat)=>D.int (k:Int)) (c1:=c) (λm=>D.int ((bt m ts rs:Nat):Int)) (bZ (ab h34)) (by
  rw[hcap]
  intro m hm
  have:=lM (pT (Γ:=[.val (.int (m:Int)),.val (av os),.val (av rs)]) (c:=c) (hts m hm) (ab (i:=0) rfl)) (ab (i:=1) rfl) (ab (i:=2) rfl) (nC (m:=15 - m) (ts:=os) hr)
  rw[ha m hm]at this
  exact this) (by(first|lia|omega))
 have f4:D.lst (ts.map λm=>D.int ((bt m ts rs:Nat):Int))=av (ts.map λm=>bt m ts rs):=by unfold av;rw[List.map_map];rfl
 rw[f4]at e4
 refine⟨_,qm (k:=k) h15 ⟨_,hk⟩ (aY (au (cj e2 e3) (au (cj e4 (ab h36)) aB)) (Nat.le_of_ble_eq_true rfl)) hk (by simp only[List.length_cons,List.length_nil];(first|lia|omega)),?_,rfl⟩
 intro e he
 simp only[List.mem_cons,List.not_mem_nil,or_false]at he
 rcases he with rfl|rfl
 ·exact⟨_,rfl,(jW (n:=0) λd hd=>by obtain⟨x,_,rfl⟩:=List.mem_map.mp hd;exact jb).le (by decide)⟩
 ·exact⟨_,rfl,(mD _).le (by decide)⟩
theorem rR:∀x<16,dP (bg ((List.range 4).map λk=>jz x k))=true∧(bg ((List.range 4).map λk=>jz x k)).sum=(cW x:Int):=by decide +kernel
theorem yz:sS Γ c=some (.next,aS 37 (av ((List.range 16).map cW)) Γ,c):=by
 refine bk ((dm (l:=List.range 16) (g:=λ(k:Nat)=>D.int (k:Int)) (λx=>D.int ((cW x:Nat):Int)) (en (n:=16) (by decide)) (λx hx=>?_) (by decide)).trans ?_)
 ·have hx':=List.mem_range.mp hx
  obtain⟨s1,s2⟩:=rR x hx'
  have e:=dm (Γ:=aS 0 (.int (x:Int)) (bQ [none] Γ)) (c:=c) (js:=[none,some 0]) (i:=0) (p:=ao .Mod (ao .FloorDiv (aa 1) (ao .Pow (ah 2) (aa 0))) (ah 2)) (l:=List.range 4) (g:=λ(k:Nat)=>D.int (k:Int)) (c1:=c) (λk=>D.int ((jz x k:Nat):Int)) (en (n:=4) (by decide)) (λk hk=>lF (m:=x) (List.mem_range.mp hk) rfl rfl) (by decide)
  have f:D.lst ((List.range 4).map λk=>D.int ((jz x k:Nat):Int))=dW (bg ((List.range 4).map λk=>jz x k)):=by unfold dW bg;rw[List.map_map,List.map_map];rfl
  rw[f]at e
  have:=cy (F:=oO) (au e aB) (oM s1)
  rw[s2]at this
  exact this
 ·unfold av
  rw[List.map_map];rfl
theorem BH{ns:List Nat}{M:Nat}(h1:M∈ns)(h2:∀x∈ns,x≤M)(hl:ns.length≤100):Ac [av ns]=some (.int (M:Int)):=by
 rw[kb]
 show (eX ((bg ns).map .int)).bind _=_
 rw[e6]
 simp only[Option.bind_some]
 rw[if_pos (by rw[List.length_map];(first|lia|omega))]
 have hpos:0<ns.length:=by cases ns with|nil=>cases h1|cons _ _=>exact Nat.succ_pos _
 obtain⟨g1,g2⟩:=argBest_gt (λi=>(bg ns).getD i 0) ((bg ns).length - 1)
 have hm:gj (bg ns)<(bg ns).length:=by
  unfold gj
  rw[List.length_map]at g1⊢
  (first|lia|omega)
 have hv:(bg ns)[gj (bg ns)]?=some (M:Int):=by
  rw[List.getElem?_eq_getElem hm]
  congr 1
  obtain⟨i,hi,e⟩:=List.getElem_of_mem h1
  have ub:(bg ns)[gj (bg ns)]≤(M:Int):=by
   have hmem:(bg ns)[gj (bg ns)]∈bg ns:=List.getElem_mem hm
   obtain⟨x,hx,e2⟩:=List.mem_map.mp hmem
   rw[←e2]
   have:=h2 x hx
   (first|lia|omega)
  have lb:=g2 i (by rw[List.length_map];(first|lia|omega))
  have hgi:(bg ns).getD i 0=(M:Int):=by
   rw[List.getD,List.getElem?_map,List.getElem?_eq_getElem hi,e];rfl
  have hgm:(bg ns).getD (gj (bg ns)) 0=(bg ns)[gj (bg ns)]:=by rw[List.getD,List.getElem?_eq_getElem hm];rfl
  have lb':(bg ns).getD i 0≤(bg ns).getD (gj (bg ns)) 0:=lb
  rw[hgi,hgm]at lb'
  (first|lia|omega)
 rw[hv];rfl
theorem vO{k s h:Nat}{ts rs:List Nat}(hs:s<16)(hl:ts.length≤60)(hts:∀m∈ts,m<16)(hac:∀m∈ts,bt m ts rs<16)(hh:ts.filter (λone=>decide ((s ^^^ one) ||| bt one ts rs=bt one ts rs))=[h])(hM:∀one∈ts,cW (s &&& one)≤cW (s &&& h))(hG:Γ.length=39)
  (h15:Γ[15]?=some (.ref k)) (hk:c[k]?=some (.lst ds)) (hd:ds.length≤9000) (h31:Γ[31]?=some (.val (.int (s:Int)))) (h34:Γ[34]?=some (.val (av ts))) (h36:Γ[36]?=some (.val (av (ts.map λm=>bt m ts rs)))) (h37:Γ[37]?=some (.val (av ((List.range 16).map cW)))) :
  ∃x,r5 Γ c=some (.next,aS 38 (av [h]) Γ,c.set k (.lst (ds++[.tup [x,x]])))∧GoodK 20 x:=by
 have hcap:bQ [none,none,some 31] Γ=[.un,.un,.val (.int (s:Int))]:=by simp[bQ,h31]
 have hz:((ts.map λ(k:Nat)=>D.int (k:Int)).zip ((ts.map λm=>bt m ts rs).map λ(k:Nat)=>D.int (k:Int)))=ts.map λm=>(D.int (m:Nat),D.int ((bt m ts rs:Nat):Int)):=by
  have:∀(l:List Nat) (f:Nat→Nat),((l.map λ(k:Nat)=>D.int (k:Int)).zip ((l.map f).map λ(k:Nat)=>D.int (k:Int)))=l.map λm=>(D.int (m:Nat),D.int ((f m:Nat):Int)):=by
   intro l f
   induction l with
   | nil=>rfl
   | cons x l ih=>rw[List.map_cons,List.map_cons,List.map_cons,List.zip_cons_cons,ih,List.map_cons]
  exact this ts _
 have e1:=gB (Γ:=Γ) (c:=c) (js:=[none,none,some 31]) (i:=0) (j:=1) (t:=aD .Eq (ao .BitOr (ao .BitXor (aa 2) (aa 0)) (aa 1)) (aa 1)) (p:=aa 0) (l:=ts.map λm=>(D.int (m:Nat),D.int ((bt m ts rs:Nat):Int))) (c1:=c)
  (λq=>match q.1 with|.int o=>decide ((s ^^^ o.toNat) ||| bt o.toNat ts rs=bt o.toNat ts rs)|_=>false) (λq=>q.1) (by decide) ((uc (ab h34) (ab h36)).trans (by rw[hz])) (by
   rw[hcap]
   intro q hq
   obtain⟨m,hm,rfl⟩:=List.mem_map.mp hq
   show aD .Eq _ _ [.val (.int (m:Int)),.val (.int ((bt m ts rs:Nat):Int)),.val (.int (s:Int))] c=some (decide ((s ^^^ ((m:Int)).toNat) ||| bt ((m:Int)).toNat ts rs=bt ((m:Int)).toNat ts rs),c)
   rw[Int.toNat_natCast]
   obtain⟨x1,x2⟩:=Cw s hs m (hts m hm)
   have u1:=aT (op:=.BitXor) (ab (Γ:=[.val (.int (m:Int)),.val (.int ((bt m ts rs:Nat):Int)),.val (.int (s:Int))]) (c:=c) (i:=2) rfl) (ab (i:=0) rfl) CT
   rw[x1]at u1
   have u2:=aT (op:=.BitOr) u1 (ab (i:=1) rfl) DO
   rw[Df _ x2 _ (hac m hm)]at u2
   exact(bb u2 (ab (i:=1) rfl) je).trans (rj _ _)) (λq _ _=>ab rfl) (by rw[List.length_map];(first|lia|omega))
 have f1:((ts.map λm=>(D.int (m:Nat),D.int ((bt m ts rs:Nat):Int))).filter λq=>match q.1 with|.int o=>decide ((s ^^^ o.toNat) ||| bt o.toNat ts rs=bt o.toNat ts rs)|_=>false).map (λq=>q.1)=ntD [h]:=by
  rw[List.filter_map,List.map_map]
  show (ts.filter (λone=>decide ((s ^^^ one) ||| bt one ts rs=bt one ts rs))).map (λ(k:Nat)=>D.int (k:Int))=_
  rw[hh]
 rw[f1]at e1
 have hmem:h∈ts:=by
  have:h∈ts.filter (λone=>decide ((s ^^^ one) ||| bt one ts rs=bt one ts rs)):=by rw[hh];exact .head _
  exact(List.mem_filter.mp this).1
 have size_ev:∀(Γ1:List Slot) (m:Nat),m<16→Γ1[0]?=some (.val (.int (m:Int)))→Γ1[1]?=some (.val (av ((List.range 16).map cW)))→Γ1[2]?=some (.val (.int (s:Int)))→a9 (aa 1) (ao .BitAnd (aa 2) (aa 0)) Γ1 c=some (.int ((cW (s &&& m):Nat):Int),c):=by
  intro Γ1 m hm g0 g1 g2
  have hlt:=Cm s hs m hm
  refine cJ (ab g1) (pe (ab g2) (ab g0)) (by(first|lia|omega)) ?_
  rw[List.map_map,List.getElem?_map,List.getElem?_range hlt];rfl
 have g38:(aS 38 (av [h]) Γ)[38]?=some (.val (av [h])):=gF (by(first|lia|omega))
 have get:∀j,j≠38→(aS 38 (av [h]) Γ)[j]?=Γ[j]?:=λj hj=>fb (Ne.symm hj)
 have hcap2:bQ [none,some 37,some 31] (aS 38 (av [h]) Γ)=[.un,.val (av ((List.range 16).map cW)),.val (.int (s:Int))]:=by simp[bQ,get 37 (by decide),get 31 (by decide),h37,h31]
 have e2:=dm (Γ:=aS 38 (av [h]) Γ) (c:=c) (js:=[none,some 37,some 31]) (i:=0) (p:=a9 (aa 1) (ao .BitAnd (aa 2) (aa 0))) (l:=[h]) (g:=λ(k:Nat)=>D.int (k:Int)) (c1:=c) (λm=>D.int ((cW (s &&& m):Nat):Int)) (bZ (ab g38)) (by
  rw[hcap2]
  intro m hm
  rw[List.mem_singleton.mp hm]
  exact size_ev _ h (hts h hmem) rfl rfl rfl) (Nat.le_of_ble_eq_true rfl)
 have e3:=dm (Γ:=aS 38 (av [h]) Γ) (c:=c) (js:=[none,some 37,some 31]) (i:=0) (p:=a9 (aa 1) (ao .BitAnd (aa 2) (aa 0))) (l:=ts) (g:=λ(k:Nat)=>D.int (k:Int)) (c1:=c) (λm=>D.int ((cW (s &&& m):Nat):Int)) (bZ (ab ((get 34 (by decide)).trans h34))) (by
  rw[hcap2]
  intro m hm
  exact size_ev _ m (hts m hm) rfl rfl rfl) (by(first|lia|omega))
 have f3:D.lst (ts.map λm=>D.int ((cW (s &&& m):Nat):Int))=av (ts.map λm=>cW (s &&& m)):=by unfold av;rw[List.map_map];rfl
 rw[f3]at e3
 have e4:=cy (F:=Ac) (au e3 aB) (BH (M:=cW (s &&& h)) (List.mem_map.mpr ⟨h,hmem,rfl⟩) (λx hx=>by obtain⟨m,hm,rfl⟩:=List.mem_map.mp hx;exact hM m hm) (by rw[List.length_map];(first|lia|omega)))
 refine⟨.lst [.int ((cW (s &&& h):Nat):Int)],aN (bk e1) (bC (k7 ((get 15 (by decide)).trans h15) hk (cj e2 (aY (au e4 aB) (Nat.le_of_ble_eq_true rfl))) (by(first|lia|omega))) rfl),?_⟩
 exact(jW (n:=0) λd hd=>by rw[List.mem_singleton.mp hd];exact jb).le (by decide)
theorem nI{k:Nat}{ts rs:List Nat}(hl:ts.length≤60)(hts:∀m∈ts,m<16)(hac:∀m∈ts,bt m ts rs<16)(hh:∀s<16,∃h,ts.filter (λone=>decide ((s ^^^ one) ||| bt one ts rs=bt one ts rs))=[h]∧∀one∈ts,cW (s &&& one)≤cW (s &&& h)):∀(ss:List Nat) (Γ:List Slot) (c:List Cell) (as:List D),(∀s∈ss,s<16)→Γ.length=39→c[k]?=some (.lst as)→as.length+ss.length≤9000→
  Γ[15]?=some (.ref k)→Γ[34]?=some (.val (av ts))→Γ[36]?=some (.val (av (ts.map λm=>bt m ts rs)))→Γ[37]?=some (.val (av ((List.range 16).map cW)))→
  ∃Γ' qs,bG (.n 31) r5 (ntD ss) Γ c=some (.next,Γ',c.set k (.lst (as++qs)))∧fM qs∧qs.length=ss.length∧Γ'.length=39∧Γ'[15]?=some (.ref k)
 | [],Γ,c,as,_,hG,hk,_,h15,_,_,_=>⟨Γ,[],by rw[List.append_nil,set_same hk];rfl,sT,rfl,hG,h15⟩
 | s::ss,Γ,c,as,hs,hG,hk,hla,h15,h34,h36,h37=>by
  have hka:k<c.length:=(List.getElem?_eq_some_iff.mp hk).1
  rw[List.length_cons]at hla
  obtain⟨h,hh1,hh2⟩:=hh s (hs s (.head _))
  have get:∀j,j≠31→(aS 31 (.int (s:Int)) Γ)[j]?=Γ[j]?:=λj hj=>fb (Ne.symm hj)
  obtain⟨x,e1,g1⟩:=vO (Γ:=aS 31 (.int (s:Int)) Γ) (c:=c) (hs s (.head _)) hl hts hac hh1 hh2 (by rw[dM];exact hG) ((get 15 (by decide)).trans h15) hk (by(first|lia|omega)) (gF (by(first|lia|omega))) ((get 34 (by decide)).trans h34) ((get 36 (by decide)).trans h36) ((get 37 (by decide)).trans h37)
  have get2:∀j,j≠31→j≠38→(aS 38 (av [h]) (aS 31 (.int (s:Int)) Γ))[j]?=Γ[j]?:=λj h1 h2=>by rw[fb (Ne.symm h2),fb (Ne.symm h1)]
  obtain⟨Γ',qs,e2,g2,n2,l2,o2⟩:=nI hl hts hac hh ss (aS 38 (av [h]) (aS 31 (.int (s:Int)) Γ)) (c.set k (.lst (as++[.tup [x,x]]))) (as++[.tup [x,x]]) (λz hz=>hs z (.tail _ hz)) (by rw[dM,dM];exact hG) (gZ hka) (by rw[List.length_append];simp only[List.length_cons,List.length_nil];(first|lia|omega))
   ((get2 15 (by decide) (by decide)).trans h15) ((get2 34 (by decide) (by decide)).trans h34) ((get2 36 (by decide) (by decide)).trans h36) ((get2 37 (by decide) (by decide)).trans h37)
  refine⟨Γ',.tup [x,x]::qs,bR rfl e1 (e2.trans ?_),eh (ds:=[.tup [x,x]]) (gT g1 (Nat.le_refl _)) g2,by rw[List.length_cons,n2,List.length_cons],l2,o2⟩
  rw[List.set_set,List.append_assoc];rfl
theorem wQ{k ks:Nat}{ts rs ss:List Nat}{as:List D}(hl:ts.length≤60)(hts:∀m∈ts,m<16)(hac:∀m∈ts,bt m ts rs<16)(hh:∀s<16,∃h,ts.filter (λone=>decide ((s ^^^ one) ||| bt one ts rs=bt one ts rs))=[h]∧∀one∈ts,cW (s &&& one)≤cW (s &&& h))(hs:∀s∈ss,s<16)(hG:Γ.length=39)(hk:c[k]?=some (.lst as))(hla:as.length+ss.length≤9000)
  (h15:Γ[15]?=some (.ref k)) (h34:Γ[34]?=some (.val (av ts))) (h36:Γ[36]?=some (.val (av (ts.map λm=>bt m ts rs)))) (h37:Γ[37]?=some (.val (av ((List.range 16).map cW)))) (h29:Γ[29]?=some (.ref ks)) (hks:c[ks]?=some (.fz (ntD ss))) :
  ∃Γ' qs,te Γ c=some (.next,Γ',c.set k (.lst (as++qs)))∧fM qs∧qs.length=ss.length∧Γ'.length=39∧Γ'[15]?=some (.ref k):=by
 obtain⟨Γ',qs,e,g,nq,l,o⟩:=nI hl hts hac hh ss Γ c as hs hG hk hla h15 h34 h36 h37
 exact⟨Γ',qs,iG (bZ (yS h29 hks)) e rfl,g,nq,l,o⟩
theorem ne_self{x:D}(h:GoodK 20 x):fy .NotEq x x=some false:=by
 have e:=(h.good (by decide)).eq
 cases x with
 | int i=>exact congrArg some (bne_self_eq_false i)
 | none=>simp[fy,zt,e]
 | bool b=>simp[fy,zt,e]
 | str s=>show (dEq _ _).map _=_;rw[e];rfl
 | tup ds=>show (dEq _ _).map _=_;rw[e];rfl
 | lst ds=>show (dEq _ _).map _=_;rw[e];rfl
 | obj v=>simp[fy,zt,e]
theorem x8{k:Nat}{as:List D}(hA:fM as)(hl:as.length≤9000)(h15:Γ[15]?=some (.ref k))(hk:c[k]?=some (.lst as)):tN Γ c=some (.ret (.bool true),Γ,c.set k (.fz as)):=by
 have e1:=iN (Γ:=Γ) (c:=c) (js:=[none]) (i:=0) (t:=aD .NotEq (a9 (aa 0) (ah 0)) (a9 (aa 0) (ah 1))) (p:=aa 0) (ds:=as) (c1:=c.set k (.fz as)) (λ_=>false) (λd=>d) (bZ (g6 h15 hk)) (by
  intro d hd
  obtain⟨x,rfl,g⟩:=hA d hd
  exact bb (fx (ab (i:=0) rfl) (ay (i:=0)) (kN (by decide) rfl)) (fx (ab (i:=0) rfl) (ay (i:=1)) (kN (by decide) rfl)) (ne_self g)) (λd _ h=>by cases h) (by(first|lia|omega))
 have f:as.filter (λ_=>false)=[]:=List.filter_eq_nil_iff.mpr λ_ _ h=>by cases h
 rw[f]at e1
 exact dY (gh e1 (aY aB (Nat.zero_le _)) (nX []))
end
end Mine
end
section
open PySem PySem.Calls PySem.Spec PyProof PyProof.Rows PySem.W
set_option maxRecDepth 20000
set_option maxHeartbeats 4000000
namespace Mine
theorem mz{L:List Nat}(hL:∀ch∈L,ch∈bB):∀t:SP,(∀i∈fY t,i<L.length)→∀s∈code L t,s∈d7
 | .leaf i,h,s,hs=>by
  rw[List.mem_singleton.mp hs]
  have:∀x∈bB,x∈d7:=by decide
  exact this _ (hL _ (getD_mem (h i (.head _))))
 | .node b l r,h,s,hs=>by
  have hs':s∈[40]++code L l++[bD b]++code L r++[41]:=hs
  have hst:bD b∈d7:=by unfold bD;split<;>decide
  simp only[List.mem_append,List.mem_singleton]at hs'
  rcases hs' with(((rfl|hs')|rfl)|hs')|rfl
  ·decide
  ·exact mz hL l (λi hi=>h i (List.mem_append_left _ hi)) s hs'
  ·exact hst
  ·exact mz hL r (λi hi=>h i (List.mem_append_right _ hi)) s hs'
  ·decide
theorem Bz{L:List Nat}(hL:∀ch∈L,ch∈bB):jP L:=by
 intro i
 by_cases h:i<L.length
 ·have:∀x∈bB,x≠40∧x≠41:=by decide
  exact this _ (hL _ (getD_mem h))
 ·rw[List.getD,List.getElem?_eq_none (by(first|lia|omega))];decide
theorem yW{Γ Γ':List Slot}(hl:Γ'.length=Γ.length)(h:∀j,j≠30→j≠31→j≠32→j≠33→Γ'[j]?=Γ[j]?):∃w0 w1 w2 w3,Γ'=(((Γ.set 30 w0).set 31 w1).set 32 w2).set 33 w3:=by
 refine⟨Γ'.getD 30 .un,Γ'.getD 31 .un,Γ'.getD 32 .un,Γ'.getD 33 .un,List.ext_getElem? λj=>?_⟩
 have key:∀i,i<Γ.length→some (Γ'.getD i .un)=Γ'[i]?:=by
  intro i hi
  rw[List.getD,List.getElem?_eq_getElem (by(first|lia|omega))];rfl
 simp only[List.getElem?_set,List.length_set]
 by_cases h3:33=j
 ·subst h3
  rw[if_pos rfl]
  by_cases hj:33<Γ.length
  ·rw[if_pos hj,key 33 hj]
  ·rw[if_neg hj];exact List.getElem?_eq_none (by(first|lia|omega))
 ·rw[if_neg h3]
  by_cases h2:32=j
  ·subst h2
   rw[if_pos rfl]
   by_cases hj:32<Γ.length
   ·rw[if_pos hj,key 32 hj]
   ·rw[if_neg hj];exact List.getElem?_eq_none (by(first|lia|omega))
  ·rw[if_neg h2]
   by_cases h1:31=j
   ·subst h1
    rw[if_pos rfl]
    by_cases hj:31<Γ.length
    ·rw[if_pos hj,key 31 hj]
    ·rw[if_neg hj];exact List.getElem?_eq_none (by(first|lia|omega))
   ·rw[if_neg h1]
    by_cases h0:30=j
    ·subst h0
     rw[if_pos rfl]
     by_cases hj:30<Γ.length
     ·rw[if_pos hj,key 30 hj]
     ·rw[if_neg hj];exact List.getElem?_eq_none (by(first|lia|omega))
    ·rw[if_neg h0]
     exact h j (Ne.symm h0) (Ne.symm h1) (Ne.symm h2) (Ne.symm h3)
noncomputable def start(ns:List Int):List Slot:=[.val (dW ns),.un,.un,.un,.un,.un,.un,.un,.un,.un,.un,.un,.un,.un,.un,.un,.un,.un,.un,.un,.un,.un,.un,.un,.un,.un,.un,.un,.un,.un,.un,.un,.un,.un,.un,.un,.un,.un,.un]
theorem DC{as bs:List D}{n m:Nat}(h:as.length=n)(k:bs.length=m):(as++bs).length=n+m:=by rw[List.length_append,h,k]
structure Net (a0 a1 a2 a3:Nat) (L:List Nat) (t:SP):Prop where
 b:a0≤320000∧a1≤320000∧a2≤320000∧a3≤320000
 len:L.length=4
 nd:L.Nodup
 pool:∀ch∈L,ch∈bB
 shape:t∈shapes
theorem yg{a0 a1 a2 a3:Nat}(b:a0≤320000∧a1≤320000∧a2≤320000∧a3≤320000):Net a0 a1 a2 a3 (di bB [a0,a1,a2,a3]) (shapeAt a0 a1 a2):=
 ⟨b,by rw[nv];rfl,kR _ _ jn (Nat.le_of_ble_eq_true rfl),kG _ _ jn (Nat.le_of_ble_eq_true rfl),uA _ _ _⟩
noncomputable abbrev St1(ns:List Int)(a0 a1 a2 a3:Nat)(L:List Nat)(t:SP)(l:List (Nat×Nat))(R ms:List Nat):List Slot:=
 [.val (dW ns),.val (bU a0 a1 a2 a3),.val (.int ((a0+a1+a2+a3:Nat):Int)),.val (sgD L),.val (sgD (code L t)),.val gV,.val (.lst ((l.map txt).map aE)),.val (aE (l.map txt).flatten),.val (av R),.val (av (eI R L)),.val (.int (((a0+a1+a2+a3) % 13:Nat):Int)),.val (.int (w9 (a0+a1+a2+a3))),.val (av ms),
  .un,.un,.un,.un,.un,.un,.un,.un,.un,.un,.un,.un,.un,.un,.un,.un,.un,.un,.un,.un,.un,.un,.un,.un,.un,.un]
theorem Eu{ns:List Int}(hl:ns.length≤63)(c:List Cell):∃a0 a1 a2 a3:Nat,(a0≤320000∧a1≤320000∧a2≤320000∧a3≤320000)∧∀{g:PS} {r:Option (Fl×List Slot×List Cell)},
  g (St1 ns a0 a1 a2 a3 (di bB [a0,a1,a2,a3]) (shapeAt a0 a1 a2) (paired [a0,a1,a2,a3] (code (di bB [a0,a1,a2,a3]) (shapeAt a0 a1 a2))) (oN [a0,a1,a2,a3]) (ke (a0+a1+a2+a3))) c=r→
  ak zW (ak zf (ak zq (ak z9 (ak Ay (ak AV (ak zb (ak zH (ak zN (ak AP (ak tM g)))))))))) (start ns) c=r:=by
 refine⟨dU ns 634 0,dU ns 27 1,dU ns 371 2,dU ns 106 3,⟨f5 hl (by decide),f5 hl (by decide),f5 hl (by decide),f5 hl (by decide)⟩,?_⟩
 intro g r hg
 have hb:dU ns 634 0≤320000∧dU ns 27 1≤320000∧dU ns 371 2≤320000∧dU ns 106 3≤320000:=⟨f5 hl (by decide),f5 hl (by decide),f5 hl (by decide),f5 hl (by decide)⟩
 have s0:=zQ (Γ:=start ns) (c:=c) hl rfl
 generalize dU ns 634 0=a0 at*
 generalize dU ns 27 1=a1 at*
 generalize dU ns 371 2=a2 at*
 generalize dU ns 106 3=a3 at*
 have N:=yg hb
 have hx:=kW _ N.shape
 have hS:(code (di bB [a0,a1,a2,a3]) (shapeAt a0 a1 a2)).length=13:=by rw[fm,hx.2.1]
 have hR:=jX [a0,a1,a2,a3]
 have hRm:∀k∈oN [a0,a1,a2,a3],k<(di bB [a0,a1,a2,a3]).length:=λk hk=>by
  have:=hR.mem_iff.mp hk
  rw[N.len];simp at this;(first|lia|omega)
 have hpl:(paired [a0,a1,a2,a3] (code (di bB [a0,a1,a2,a3]) (shapeAt a0 a1 a2))).length=13:=by unfold paired;rw[List.length_map,List.length_range,hS]
 refine aN s0 (aN (Aj hb rfl) (aN (Am rfl) (aN (zz N.len rfl rfl) (aN As (aN (Ad hb (by rw[hS];decide) rfl rfl rfl) (aN (Ai rfl (by have:=fi (paired [a0,a1,a2,a3] (code (di bB [a0,a1,a2,a3]) (shapeAt a0 a1 a2)));(first|lia|omega))) (aN (zk rfl) (aN (AH hRm ⟨by rw[hR.length_eq];decide,by rw[N.len];decide⟩ N.pool rfl rfl) (aN (zm rfl) (aN (xp rfl) ?_))))))))))
 exact hg
end Mine
end
section
open PySem PySem.Calls PySem.Spec PyProof PyProof.Rows PySem.W
set_option maxRecDepth 20000
set_option maxHeartbeats 8000000
namespace Mine
theorem vB:∀t∈shapes,(OC t).isPerm ((TC t).map λm=>15 - m)=true:=by decide +kernel
theorem bS{f g:PS}{Γ Γ1:List Slot}{c c1:List Cell}{d:D}{P:Addr}(h:f Γ c=some (.next,Γ1,c1))(k:∃Γ' c' fl,g Γ1 c1=some (.ret d,Γ',c')∧c'[0]?=some (br P fl)):∃Γ' c' fl,ak f g Γ c=some (.ret d,Γ',c')∧c'[0]?=some (br P fl):=by
 obtain⟨Γ',c',fl,e,e2⟩:=k
 exact⟨Γ',c',fl,aN h e,e2⟩
theorem B1{f g:PS}{Γ Γ1:List Slot}{c c1:List Cell}{d:D}{P:Addr}{fl:Bool}(h:f Γ c=some (.ret d,Γ1,c1))(h2:c1[0]?=some (br P fl)):∃Γ' c' fl,ak f g Γ c=some (.ret d,Γ',c')∧c'[0]?=some (br P fl):=⟨_,_,_,cp h,h2⟩
theorem uz:∀n:Nat,fM (List.replicate n a8):=by
 intro n e he
 rw[(List.mem_replicate.mp he).2]
 exact⟨_,rfl,(jW (n:=0) λd hd=>by
  simp only[List.mem_cons,List.not_mem_nil,or_false]at hd
  rcases hd with rfl|rfl<;>exact g_bool).le (by decide)⟩
structure Rn where
 ns:List Int
 (a0 a1 a2 a3:Nat)
 L:List Nat
 t:SP
 l:List (Nat×Nat)
 (R ms:List Nat)
noncomputable abbrev Rn.T(z:Rn):Nat:=z.a0+z.a1+z.a2+z.a3
noncomputable abbrev Rn.lo(z:Rn):Nat:=z.T % 13
noncomputable abbrev Rn.od(z:Rn):List Nat:=eI z.R z.L
noncomputable abbrev Rn.rk(z:Rn):List Nat:=(List.range 4).map (fg z.R z.T)
noncomputable abbrev Rn.ts(z:Rn):List Nat:=z.ms.filter (dB (edE z.t))
noncomputable abbrev Rn.os(z:Rn):List Nat:=z.ms.filter (dB (edD z.t))
noncomputable abbrev Rn.told(z:Rn):D:=.tup [av z.od,av (ik z.lo z.ms)]
noncomputable abbrev Rn.shorn(z:Rn):D:=.lst ((z.l.map bH).map aE)
noncomputable abbrev Rn.toks(z:Rn):D:=aE (z.l.flatMap dC).flatten
noncomputable abbrev Rn.fnd(z:Rn):D:=.lst (eV 0 z.l)
noncomputable abbrev Rn.sg(z:Rn):D:=sgD (code z.L z.t)
noncomputable abbrev Rn.tr(z:Rn):D:=fe z.L 0 z.t
noncomputable abbrev Rn.eE(z:Rn):D:=.lst ((edE z.t).map nnD)
noncomputable abbrev Rn.eD(z:Rn):D:=.lst ((edD z.t).map nnD)
noncomputable abbrev Rn.tw(z:Rn):D:=.lst ([0,1,2,3].map λk=>twice (fg z.R z.T k))
noncomputable abbrev Rn.wl(z:Rn):D:=.lst ((eG z.lo).map aE)
noncomputable abbrev Rn.ac(z:Rn):D:=av (z.ts.map λm=>bt m z.ts z.rk)
noncomputable abbrev St2(z:Rn)(tail:List Slot):List Slot:=
 .val (dW z.ns)::.val (bU z.a0 z.a1 z.a2 z.a3)::.val (.int ((z.T:Nat):Int))::.val (sgD z.L)::.val (sgD (code z.L z.t))::.val gV::.val (.lst ((z.l.map txt).map aE))::.val (aE (z.l.map txt).flatten)::.val (av z.R)::.val (av (z.od))::.val (.int ((z.lo:Nat):Int))::.val (.int (w9 z.T))::.val (av z.ms)::tail
theorem DX{z:Rn}{u P:Addr}{b:Bool}(N:Net z.a0 z.a1 z.a2 z.a3 z.L z.t)(hS:z.l.map (·.2)=code z.L z.t)(hR:z.R.Perm [0,1,2,3])(hms:z.ms.Perm (List.range 16)) :
  ∃Γ' c' fl,ak su (ak tW (ak sP (ak tn (ak tb (ak tF (ak tB (ak tv (ak tZ (ak ta (ak uf (ak si (ak sv (ak t5 (ak (tI u P) (ak so (ak tx (ak (sk u P) (ak uh (ak sY (ak sG (ak sJ (ak td (ak tY (ak s8 (ak tH (ak sy (ak sS (ak te (ak tN aG)))))))))))))))))))))))))))))
   (St1 z.ns z.a0 z.a1 z.a2 z.a3 z.L z.t z.l z.R z.ms) [br P b]=some (.ret (.bool true),Γ',c')∧c'[0]?=some (br P fl):=by
 have hx:=kW _ N.shape
 obtain⟨hE,hD⟩:=AD _ N.shape
 have hlen:(code z.L z.t).length=13:=by rw[fm,hx.2.1]
 have hll:z.l.length=13:=by rw[←List.length_map (f:=(·.2)) (as:=z.l),hS,hlen]
 have hcm:=mz N.pool z.t (by rw[hx.1,N.len];decide)
 have hsig:∀q∈z.l,q.2∈d7:=λq hq=>hcm _ (hS▸List.mem_map.mpr ⟨q,hq,rfl⟩)
 have hok:∀q∈z.l,cU q.2:=λq hq=>ua (hsig q hq)
 have hsm:∀s∈code z.L z.t,s<0x110000:=by
  intro s hs
  have:∀x∈d7,x<0x110000:=by decide
  exact this s (hcm s hs)
 have hlet:=Bz N.pool
 have hm16:∀m∈z.ms,m<16:=λm hm=>List.mem_range.mp (hms.mem_iff.mp hm)
 have hml:z.ms.length=16:=hms.length_eq.trans (by decide)
 have hRl:z.R.length=4:=hR.length_eq
 have hol:z.od.length=4:=by show (eI z.R z.L).length=4;unfold eI;rw[List.length_map,hRl]
 have hord:∀n∈z.od,n≠0∧n<256:=by
  intro n hn
  obtain⟨k,hk,rfl⟩:=List.mem_map.mp hn
  have hk4:k<4:=by have:=hR.mem_iff.mp hk;simp at this;(first|lia|omega)
  have:∀x∈bB,eY x≠0∧eY x<256:=by decide +kernel
  exact this _ (N.pool _ (getD_mem (by rw[N.len];exact hk4)))
 have hlow:z.lo<13:=Nat.mod_lt _ (by decide)
 obtain⟨s,tl,tr,htn⟩:∃s tl tr,z.t=.node s tl tr:=by
  generalize z.t=t at hx
  cases t with
  | leaf i=>have h:=hx.2.2.2;cases h
  | node s tl tr=>exact⟨s,tl,tr,rfl⟩
 obtain⟨o,ord,hoc⟩:∃o ord,z.od=o::ord:=by
  cases h:z.od with
  | nil=>rw[h]at hol;cases hol
  | cons o ord=>exact⟨o,ord,rfl⟩
 have hts:∀m∈z.ts,m<16:=λm hm=>hm16 m (List.mem_filter.mp hm).1
 have hpT:z.ts.Perm (TC z.t):=hms.filter _
 have hpO:z.os.Perm (OC z.t):=hms.filter _
 have hlT:z.ts.length≤16:=Nat.le_trans (List.length_filter_le _ _) (by(first|lia|omega))
 have hlO:z.os.length≤16:=Nat.le_trans (List.length_filter_le _ _) (by(first|lia|omega))
 have hdual:z.os.Perm (z.ts.map λm=>15 - m):=hpO.trans ((List.isPerm_iff.mp (vB z.t N.shape)).trans (hpT.map _).symm)
 obtain⟨c1,c2,c3'⟩:=vW N.shape (yf hR)
 have actE:∀m,bt m z.ts z.rk=bt m (TC z.t) (gf z.R):=λm=>nf λx=>hpT.mem_iff
 have actO:∀m,bt m z.os z.rk=bt m (OC z.t) (gf z.R):=λm=>nf λx=>hpO.mem_iff
 have hact:∀m∈z.ts,bt (15 - m) z.os z.rk=bt m z.ts z.rk:=λm hm=>by
  rw[actE,actO];exact c1 m (hpT.mem_iff.mp hm)
 have hac:∀m∈z.ts,bt m z.ts z.rk<16:=λm hm=>by
  rw[actE];exact c2 m (hpT.mem_iff.mp hm)
 have hhome:∀s<16,∃h,z.ts.filter (λone=>decide ((s ^^^ one) ||| bt one z.ts z.rk=bt one z.ts z.rk))=[h]∧∀one∈z.ts,cW (s &&& one)≤cW (s &&& h):=by
  intro s hs
  obtain⟨h,e1,e2⟩:=c3' s hs
  refine⟨h,?_,λone ho=>e2 one (hpT.mem_iff.mp ho)⟩
  have hf:(λone=>decide ((s ^^^ one) ||| bt one z.ts z.rk=bt one z.ts z.rk))=λone=>decide ((s ^^^ one) ||| bt one (TC z.t) (gf z.R)=bt one (TC z.t) (gf z.R)):=funext λone=>by rw[actE]
  rw[hf]
  have:=hpT.filter (λone=>decide ((s ^^^ one) ||| bt one (TC z.t) (gf z.R)=bt one (TC z.t) (gf z.R)))
  rw[e1]at this
  exact List.perm_singleton.mp this
 refine bS (wN (Γ:=(St2 z [.un,.un,.un,.un,.un,.un,.un,.un,.un,.un,.un,.un,.un,.un,.un,.un,.un,.un,.un,.un,.un,.un,.un,.un,.un,.un])) (c:=[br P b]) (T:=z.T) (low:=z.lo) (ord:=z.od) (ms:=z.ms) (by(first|lia|omega)) hm16 (by(first|lia|omega)) rfl rfl rfl rfl rfl) ?_
 refine bS (yI (Γ:=(St2 z [.ref 1,.un,.un,.un,.un,.un,.un,.un,.un,.un,.un,.un,.un,.un,.un,.un,.un,.un,.un,.un,.un,.un,.un,.un,.un,.un])) (c:=[br P b,Cell.it (ntD (lL [z.a0,z.a1,z.a2,z.a3] z.T (ez z.od z.lo z.ms++[0]))++ntD [z.T % 256])]) (k:=1) (by(first|lia|omega)) hm16 hord (by(first|lia|omega)) rfl rfl) ?_
 obtain⟨cl,as1,s13,hA1,n1⟩:=ym (Γ:=(St2 z [.ref 1,.val z.told,.un,.un,.un,.un,.un,.un,.un,.un,.un,.un,.un,.un,.un,.un,.un,.un,.un,.un,.un,.un,.un,.un,.un,.un])) (c:=[br P b,Cell.it (ntD [z.T % 256])]) (T:=z.T) (low:=z.lo) (k:=1) (ord:=z.od) (ms:=z.ms) (by(first|lia|omega)) hm16 (by(first|lia|omega)) rfl rfl rfl rfl rfl rfl rfl
 refine bS s13 ?_
 refine bS (y7 (Γ:=(St2 z [.ref 1,.val z.told,.ref 2,.un,.un,.un,.un,.un,.un,.un,.un,.un,.un,.un,.un,.un,.un,.un,.un,.un,.un,.un,.un,.un,.un,.un])) (c:=[br P b,cl,Cell.lst as1])) ?_
 obtain⟨x1,s1,g1⟩:=xX (Γ:=(St2 z [.ref 1,.val z.told,.ref 2,.val bX,.un,.un,.un,.un,.un,.un,.un,.un,.un,.un,.un,.un,.un,.un,.un,.un,.un,.un,.un,.un,.un,.un])) (c:=[br P b,cl,Cell.lst as1]) (k:=2) (ds:=as1) rfl rfl rfl (by(first|lia|omega))
 refine bS s1 ?_
 have hA2:=eh hA1 (gT g1 (Nat.le_refl _))
 have n2:(as1++[D.tup [x1,x1]]).length=3:=by rw[List.length_append,n1];rfl
 generalize hg2:as1++[D.tup [x1,x1]]=as2 at hA2 n2
 have hc2:[br P b,cl,Cell.lst as1].set 2 (Cell.lst as2)=[br P b,cl,Cell.lst as2]:=rfl
 rw[hc2]
 refine bS (yo (Γ:=(St2 z [.ref 1,.val z.told,.ref 2,.val bX,.un,.un,.un,.un,.un,.un,.un,.un,.un,.un,.un,.un,.un,.un,.un,.un,.un,.un,.un,.un,.un,.un])) (c:=[br P b,cl,Cell.lst as2]) (l:=z.l) hok (by(first|lia|omega)) rfl) ?_
 refine bS (yF (Γ:=(St2 z [.ref 1,.val z.told,.ref 2,.val bX,.val z.shorn,.un,.un,.un,.un,.un,.un,.un,.un,.un,.un,.un,.un,.un,.un,.un,.un,.un,.un,.un,.un,.un])) (c:=[br P b,cl,Cell.lst as2]) (l:=z.l) hok (by(first|lia|omega)) rfl) ?_
 refine bS (xM (Γ:=(St2 z [.ref 1,.val z.told,.ref 2,.val bX,.val z.shorn,.val z.toks,.un,.un,.un,.un,.un,.un,.un,.un,.un,.un,.un,.un,.un,.un,.un,.un,.un,.un,.un,.un])) (c:=[br P b,cl,Cell.lst as2]) (l:=z.l) hsig (by(first|lia|omega)) rfl) ?_
 obtain⟨x2,s2,g2⟩:=wc (Γ:=(St2 z [.ref 1,.val z.told,.ref 2,.val bX,.val z.shorn,.val z.toks,.val z.fnd,.un,.un,.un,.un,.un,.un,.un,.un,.un,.un,.un,.un,.un,.un,.un,.un,.un,.un,.un])) (c:=[br P b,cl,Cell.lst as2]) (k:=2) (ds:=as2) (l:=z.l) hsig (by(first|lia|omega)) rfl rfl (by(first|lia|omega)) (by rw[hS];rfl) rfl rfl rfl
 refine bS s2 ?_
 have hA3:=eh hA2 (gT g2 (Nat.le_refl _))
 have n3:(as2++[D.tup [x2,x2]]).length=4:=by rw[List.length_append,n2];rfl
 generalize hg3:as2++[D.tup [x2,x2]]=as3 at hA3 n3
 have hc3:[br P b,cl,Cell.lst as2].set 2 (Cell.lst as3)=[br P b,cl,Cell.lst as3]:=rfl
 rw[hc3]
 obtain⟨x3,s3,g3⟩:=yU (Γ:=(St2 z [.ref 1,.val z.told,.ref 2,.val bX,.val z.shorn,.val z.toks,.val z.fnd,.un,.un,.un,.un,.un,.un,.un,.un,.un,.un,.un,.un,.un,.un,.un,.un,.un,.un,.un])) (c:=[br P b,cl,Cell.lst as3]) (k:=2) (ds:=as3) (l:=z.l) (L:=z.L) (s:=s) (tl:=tl) (tr:=tr) hlet hok (by(first|lia|omega)) (htn▸hS) rfl rfl (by(first|lia|omega)) rfl
 refine bS s3 ?_
 have hA4:=eh hA3 (gT g3 (Nat.le_refl _))
 have n4:(as3++[D.tup [x3,x3]]).length=5:=by rw[List.length_append,n3];rfl
 generalize hg4:as3++[D.tup [x3,x3]]=as4 at hA4 n4
 have hc4:[br P b,cl,Cell.lst as3].set 2 (Cell.lst as4)=[br P b,cl,Cell.lst as4]:=rfl
 rw[hc4]
 have s21:=wC (Γ:=(St2 z [.ref 1,.val z.told,.ref 2,.val bX,.val z.shorn,.val z.toks,.val z.fnd,.un,.un,.un,.un,.un,.un,.un,.un,.un,.un,.un,.un,.un,.un,.un,.un,.un,.un,.un])) (c:=[br P b,cl,Cell.lst as4]) (l:=z.l) (by(first|lia|omega)) rfl
 rw[hS]at s21
 refine bS s21 ?_
 obtain⟨c3,s22⟩:=xn (Γ:=(St2 z [.ref 1,.val z.told,.ref 2,.val bX,.val z.shorn,.val z.toks,.val z.fnd,.val z.sg,.un,.un,.un,.un,.un,.un,.un,.un,.un,.un,.un,.un,.un,.un,.un,.un,.un,.un])) (c:=[br P b,cl,Cell.lst as4]) hlet (t:=z.t) (l:=z.l) (ka:=2) (as:=as4) ⟨hx.2.2.1,by(first|lia|omega)⟩ hS hok rfl rfl (by(first|lia|omega)) (by rw[sq];rfl) rfl
 refine bS s22 ?_
 have hA5:fM (as4++List.replicate (aU z.t) a8):=eh hA4 (uz _)
 have n5:(as4++List.replicate (aU z.t) a8).length=8:=by rw[List.length_append,n4,List.length_replicate,hx.2.1]
 generalize hg5:as4++List.replicate (aU z.t) a8=as5 at hA5 n5
 have hc5:[br P b,cl,Cell.lst as4].set 2 (Cell.lst as5)++[c3]=[br P b,cl,Cell.lst as5,c3]:=rfl
 rw[hc5]
 refine bS (yb (Γ:=(St2 z [.ref 1,.val z.told,.ref 2,.val bX,.val z.shorn,.val z.toks,.val z.fnd,.val z.sg,.val z.tr,.un,.un,.un,.un,.un,.un,.un,.un,.un,.un,.un,.un,.un,.un,.un,.un,.un])) (c:=[br P b,cl,Cell.lst as5,c3]) (L:=z.L) (t:=z.t) ⟨hx.2.2.1,by(first|lia|omega)⟩ rfl) ?_
 refine bS (yu (Γ:=(St2 z [.ref 1,.val z.told,.ref 2,.val bX,.val z.shorn,.val z.toks,.val z.fnd,.val z.sg,.val z.tr,.val z.eE,.un,.un,.un,.un,.un,.un,.un,.un,.un,.un,.un,.un,.un,.un,.un,.un])) (c:=[br P b,cl,Cell.lst as5,c3]) (L:=z.L) (t:=z.t) ⟨hx.2.2.1,by(first|lia|omega)⟩ rfl) ?_
 obtain⟨fl,s25⟩:=xN (Γ:=(St2 z [.ref 1,.val z.told,.ref 2,.val bX,.val z.shorn,.val z.toks,.val z.fnd,.val z.sg,.val z.tr,.val z.eE,.val z.eD,.un,.un,.un,.un,.un,.un,.un,.un,.un,.un,.un,.un,.un,.un,.un])) (c:=[br P b,cl,Cell.lst as5,c3]) (u:=u) (P:=P) (T:=z.T) (fl:=b) (sets:=av (ik z.lo z.ms)) hR N.len N.nd N.pool hx.1 (by(first|lia|omega)) hsm rfl rfl rfl rfl rfl
 refine bS s25 ?_
 have hcf:[br P b,cl,Cell.lst as5,c3].set 0 (br P fl)=[br P fl,cl,Cell.lst as5,c3]:=rfl
 rw[hcf]
 obtain⟨x5,s5,g5⟩:=yd (Γ:=(St2 z [.ref 1,.val z.told,.ref 2,.val bX,.val z.shorn,.val z.toks,.val z.fnd,.val z.sg,.val z.tr,.val z.eE,.val z.eD,.val z.tw,.un,.un,.un,.un,.un,.un,.un,.un,.un,.un,.un,.un,.un,.un])) (c:=[br P fl,cl,Cell.lst as5,c3]) (k:=2) (ds:=as5) (T:=z.T) (R:=z.R) hR rfl rfl (by(first|lia|omega)) rfl rfl rfl
 refine bS s5 ?_
 have hA6:=eh hA5 (gT g5 (Nat.le_refl _))
 have n6:(as5++[D.tup [x5,x5]]).length=9:=by rw[List.length_append,n5];rfl
 generalize hg6:as5++[D.tup [x5,x5]]=as6 at hA6 n6
 have hc6:[br P fl,cl,Cell.lst as5,c3].set 2 (Cell.lst as6)=[br P fl,cl,Cell.lst as6,c3]:=rfl
 rw[hc6]
 refine bS (xj (Γ:=(St2 z [.ref 1,.val z.told,.ref 2,.val bX,.val z.shorn,.val z.toks,.val z.fnd,.val z.sg,.val z.tr,.val z.eE,.val z.eD,.val z.tw,.un,.un,.un,.un,.un,.un,.un,.un,.un,.un,.un,.un,.un,.un])) (c:=[br P fl,cl,Cell.lst as6,c3]) (T:=z.T) (R:=z.R) rfl) ?_
 obtain⟨w26,qs6,s6,gq6,nq6⟩:=v9 (Γ:=(St2 z [.ref 1,.val z.told,.ref 2,.val bX,.val z.shorn,.val z.toks,.val z.fnd,.val z.sg,.val z.tr,.val z.eE,.val z.eD,.val z.tw,.val (av z.rk),.un,.un,.un,.un,.un,.un,.un,.un,.un,.un,.un,.un,.un])) (c:=[br P fl,cl,Cell.lst as6,c3]) (k:=2) (ds:=as6) (u:=u) (P:=P) (T:=z.T) (o:=o) (ord:=ord) rfl rfl (by(first|lia|omega)) (by rw[←hoc];rfl) rfl (Nat.le_of_ble_eq_true rfl)
 refine bS s6 ?_
 have hA7:=eh hA6 gq6
 have n7:(as6++qs6).length=11:=by rw[List.length_append,n6,nq6]
 generalize hg7:as6++qs6=as7 at hA7 n7
 have hc7:[br P fl,cl,Cell.lst as6,c3].set 2 (Cell.lst as7)=[br P fl,cl,Cell.lst as7,c3]:=rfl
 rw[hc7]
 refine bS (xA (Γ:=(St2 z [.ref 1,.val z.told,.ref 2,.val bX,.val z.shorn,.val z.toks,.val z.fnd,.val z.sg,.val z.tr,.val z.eE,.val z.eD,.val z.tw,.val (av z.rk),w26,.un,.un,.un,.un,.un,.un,.un,.un,.un,.un,.un,.un])) (c:=[br P fl,cl,Cell.lst as7,c3])) ?_
 refine bS (wK (Γ:=(St2 z [.ref 1,.val z.told,.ref 2,.val bX,.val z.shorn,.val z.toks,.val z.fnd,.val z.sg,.val z.tr,.val z.eE,.val z.eD,.val z.tw,.val (av z.rk),w26,.val eQ,.un,.un,.un,.un,.un,.un,.un,.un,.un,.un,.un])) (c:=[br P fl,cl,Cell.lst as7,c3]) (low:=z.lo) hlow rfl rfl) ?_
 obtain⟨x7,s7,g7⟩:=xD (Γ:=(St2 z [.ref 1,.val z.told,.ref 2,.val bX,.val z.shorn,.val z.toks,.val z.fnd,.val z.sg,.val z.tr,.val z.eE,.val z.eD,.val z.tw,.val (av z.rk),w26,.val eQ,.val z.wl,.un,.un,.un,.un,.un,.un,.un,.un,.un,.un])) (c:=[br P fl,cl,Cell.lst as7,c3]) (k:=2) (ds:=as7) (T:=z.T) rfl rfl (by(first|lia|omega)) rfl rfl
 refine bS s7 ?_
 have hA8:=eh hA7 (gT g7 (Nat.le_refl _))
 have n8:(as7++[D.tup [x7,x7]]).length=12:=by rw[List.length_append,n7];rfl
 generalize hg8:as7++[D.tup [x7,x7]]=as8 at hA8 n8
 have hc8:[br P fl,cl,Cell.lst as7,c3].set 2 (Cell.lst as8)=[br P fl,cl,Cell.lst as8,c3]:=rfl
 rw[hc8]
 refine bS (y0 (Γ:=(St2 z [.ref 1,.val z.told,.ref 2,.val bX,.val z.shorn,.val z.toks,.val z.fnd,.val z.sg,.val z.tr,.val z.eE,.val z.eD,.val z.tw,.val (av z.rk),w26,.val eQ,.val z.wl,.un,.un,.un,.un,.un,.un,.un,.un,.un,.un])) (c:=[br P fl,cl,Cell.lst as8,c3])) ?_
 obtain⟨Γ3,qs8,s33,gq8,nq8,l33,o33⟩:=x9 (Γ:=(St2 z [.ref 1,.val z.told,.ref 2,.val bX,.val z.shorn,.val z.toks,.val z.fnd,.val z.sg,.val z.tr,.val z.eE,.val z.eD,.val z.tw,.val (av z.rk),w26,.val eQ,.val z.wl,.ref 4,.un,.un,.un,.un,.un,.un,.un,.un,.un])) (c:=[br P fl,cl,Cell.lst as8,c3,Cell.lst []]) (low:=z.lo) (ka:=2) (ks:=4) (ms:=z.ms) (as:=as8) (w:=av z.od) hlow (by decide) hm16 (by(first|lia|omega)) rfl rfl rfl rfl rfl rfl rfl rfl (by(first|lia|omega))
 refine bS s33 ?_
 obtain⟨w30,w31,w32,w33,hΓ3⟩:=yW (Γ:=(St2 z [.ref 1,.val z.told,.ref 2,.val bX,.val z.shorn,.val z.toks,.val z.fnd,.val z.sg,.val z.tr,.val z.eE,.val z.eD,.val z.tw,.val (av z.rk),w26,.val eQ,.val z.wl,.ref 4,.un,.un,.un,.un,.un,.un,.un,.un,.un])) l33 o33
 subst hΓ3
 have hA9:=eh hA8 gq8
 have n9:(as8++qs8).length=28:=by rw[List.length_append,n8,nq8,hml]
 generalize hg9:as8++qs8=as9 at hA9 n9
 have hc9:([br P fl,cl,Cell.lst as8,c3,Cell.lst []].set 2 (Cell.lst as9)).set 4 (Cell.lst (ntD z.ms))=[br P fl,cl,Cell.lst as9,c3,Cell.lst (ntD z.ms)]:=rfl
 rw[hc9]
 refine bS (xw (Γ:=(St2 z [.ref 1,.val z.told,.ref 2,.val bX,.val z.shorn,.val z.toks,.val z.fnd,.val z.sg,.val z.tr,.val z.eE,.val z.eD,.val z.tw,.val (av z.rk),w26,.val eQ,.val z.wl,.ref 4,w30,w31,w32,w33,.un,.un,.un,.un,.un])) (c:=[br P fl,cl,Cell.lst as9,c3,Cell.lst (ntD z.ms)]) (ks:=4) hE hm16 (by(first|lia|omega)) rfl rfl rfl) ?_
 have hcz:[br P fl,cl,Cell.lst as9,c3,Cell.lst (ntD z.ms)].set 4 (Cell.fz (ntD z.ms))=[br P fl,cl,Cell.lst as9,c3,Cell.fz (ntD z.ms)]:=rfl
 rw[hcz]
 refine bS (yA (Γ:=(St2 z [.ref 1,.val z.told,.ref 2,.val bX,.val z.shorn,.val z.toks,.val z.fnd,.val z.sg,.val z.tr,.val z.eE,.val z.eD,.val z.tw,.val (av z.rk),w26,.val eQ,.val z.wl,.ref 4,w30,w31,w32,w33,.val (av z.ts),.un,.un,.un,.un])) (c:=[br P fl,cl,Cell.lst as9,c3,Cell.fz (ntD z.ms)]) (ks:=4) hD hm16 (by(first|lia|omega)) rfl rfl rfl) ?_
 refine bS (xO (Γ:=(St2 z [.ref 1,.val z.told,.ref 2,.val bX,.val z.shorn,.val z.toks,.val z.fnd,.val z.sg,.val z.tr,.val z.eE,.val z.eD,.val z.tw,.val (av z.rk),w26,.val eQ,.val z.wl,.ref 4,w30,w31,w32,w33,.val (av z.ts),.val (av z.os),.un,.un,.un])) (c:=[br P fl,cl,Cell.lst as9,c3,Cell.fz (ntD z.ms)]) (ts:=z.ts) (rs:=z.rk) (Nat.le_antisymm (Nat.le_of_ble_eq_true rfl) (Nat.le_of_ble_eq_true rfl)) (by(first|lia|omega)) rfl rfl) ?_
 obtain⟨qs9,s9,gq9,nq9⟩:=wh (Γ:=(St2 z [.ref 1,.val z.told,.ref 2,.val bX,.val z.shorn,.val z.toks,.val z.fnd,.val z.sg,.val z.tr,.val z.eE,.val z.eD,.val z.tw,.val (av z.rk),w26,.val eQ,.val z.wl,.ref 4,w30,w31,w32,w33,.val (av z.ts),.val (av z.os),.val z.ac,.un,.un])) (c:=[br P fl,cl,Cell.lst as9,c3,Cell.fz (ntD z.ms)]) (k:=2) (ds:=as9) (ts:=z.ts) (os:=z.os) (rs:=z.rk) (Nat.le_antisymm (Nat.le_of_ble_eq_true rfl) (Nat.le_of_ble_eq_true rfl)) ⟨by(first|lia|omega),by(first|lia|omega)⟩ hts hdual hact rfl rfl (by(first|lia|omega)) rfl rfl rfl rfl
 refine bS s9 ?_
 have hA10:=eh hA9 gq9
 have n10:(as9++qs9).length=30:=by rw[List.length_append,n9,nq9]
 generalize hg10:as9++qs9=as10 at hA10 n10
 have hc10:[br P fl,cl,Cell.lst as9,c3,Cell.fz (ntD z.ms)].set 2 (Cell.lst as10)=[br P fl,cl,Cell.lst as10,c3,Cell.fz (ntD z.ms)]:=rfl
 rw[hc10]
 refine bS (yz (Γ:=(St2 z [.ref 1,.val z.told,.ref 2,.val bX,.val z.shorn,.val z.toks,.val z.fnd,.val z.sg,.val z.tr,.val z.eE,.val z.eD,.val z.tw,.val (av z.rk),w26,.val eQ,.val z.wl,.ref 4,w30,w31,w32,w33,.val (av z.ts),.val (av z.os),.val z.ac,.un,.un])) (c:=[br P fl,cl,Cell.lst as10,c3,Cell.fz (ntD z.ms)])) ?_
 obtain⟨Γ4,qs10,s39,gq10,nq39,l39,o39⟩:=wQ (Γ:=(St2 z [.ref 1,.val z.told,.ref 2,.val bX,.val z.shorn,.val z.toks,.val z.fnd,.val z.sg,.val z.tr,.val z.eE,.val z.eD,.val z.tw,.val (av z.rk),w26,.val eQ,.val z.wl,.ref 4,w30,w31,w32,w33,.val (av z.ts),.val (av z.os),.val z.ac,.val (av ((List.range 16).map cW)),.un])) (c:=[br P fl,cl,Cell.lst as10,c3,Cell.fz (ntD z.ms)]) (k:=2) (ks:=4) (ts:=z.ts) (rs:=z.rk) (ss:=z.ms) (as:=as10) (by(first|lia|omega)) hts hac hhome hm16 rfl rfl (by(first|lia|omega)) rfl rfl rfl rfl rfl rfl
 refine bS s39 ?_
 have hnq:(as10++qs10).length≤9000:=by rw[List.length_append];(first|lia|omega)
 exact B1 (x8 (k:=2) (eh hA10 gq10) hnq o39 rfl) rfl
end Mine
end
section
open PySem PySem.Calls PySem.Spec PyProof PyProof.Rows PySem.W
set_option maxRecDepth 20000
set_option maxHeartbeats 4000000
namespace Mine
theorem Av{ns:List Int}(hl:ns.length≤63)(u P:Addr)(b:Bool):∃c' fl,cB 39 1 (pK u P) [.val (dW ns)] [br P b]=some (.bool true,c')∧c'[0]?=some (br P fl):=by
 obtain⟨a0,a1,a2,a3,hb,h1⟩:=Eu hl [br P b]
 have N:=yg hb
 obtain⟨Γ',c',fl,e,e0⟩:=DX (z:=⟨ns,a0,a1,a2,a3,_,_,_,_,_⟩) (u:=u) (P:=P) (b:=b) N (rY [a0,a1,a2,a3] (code (di bB [a0,a1,a2,a3]) (shapeAt a0 a1 a2))) (jX [a0,a1,a2,a3]) (q7 (a0+a1+a2+a3))
 have e2:=h1 e
 have hq:pK u P (start ns) [br P b]=some (.ret (.bool true),Γ',c'):=e2
 refine⟨c'.take 1,fl,?_,by rw[List.getElem?_take,if_pos (by decide)];exact e0⟩
 unfold cB
 have hone:[Slot.val (dW ns)].length=1:=rfl
 rw[if_pos hone]
 have hsf:setFrom 0 [.val (dW ns)] (List.replicate 39 .un)=start ns:=rfl
 rw[hsf,hq];rfl
theorem u7:Binds 75 ["script"]:=fv λ_ _=>rfl
theorem AU:("law" : Str)++(".<locals>." : Str)=cz:=by decide +kernel
theorem yx{X:Cx}{fa:Nat→Addr}{u c P:Addr}{o:Obj}{fd:FuncData}(T:TopF X fa u)(W:cM X c P)(F:FnAt X 75 "law" (fa 75) o fd)(hc:fd.code=.ref c)(hq:fd.qualname="law"){A:Around}(hr:Room A 81){σ:Sg}{s:Shared}(I:X.Inv σ s){b:Bool}(hs:σ.sto=[br P b])
  {v:Value} {ns:List Int} (hl:ns.length≤63) (r:Rel σ.g v (dW ns)):wpAny X.M A (call (.ref (fa 75)) [v]) (λw s'=>w=.bool true∧∃σ' fl,X.Inv σ' s'∧Ext NoW NoG σ s σ' s'∧σ'.sto[0]?=some (br P fl)) NoE s:=by
 have ok:FnOk X (80+1) (.ref (fa 75)) (cB 39 1 (pK u P)):=by
  refine AX (ft:=ba (some (.ref c,cz))) (params:=["script"]) F.ho F.hd F.hcd F.hb (by rw[F.sc];decide +kernel) (by rw[F.sc];decide +kernel) F.gl F.bl (by rw[F.sc];exact sW (by decide +kernel)) (λy hy=>?_) rfl rfl (show jR (ba none) ["script"]=true by decide +kernel) (λvs h=>u7 fd F.hp F.df F.kd vs h) (Dq T W _ rfl) (λv h=>?_)
  ·have h:((ba none).nt.all λp=>decide (p.2≠VK.f))=true:=by decide +kernel
   have:=List.all_eq_true.mp h _ hy
   simp at this
  ·cases h
   exact⟨hc,by rw[hq];exact AU⟩
 obtain⟨c',fl,e,e0⟩:=Av hl u P b
 refine wpAny_mono (ok A hr σ s [v] [.val (dW ns)] (.bool true) c' I (.cons r .nil) (by rw[hs];exact e)) (λw s' h=>?_) λ_ _ f=>f
 obtain⟨σ',hs',I',x,rr⟩:=h
 cases rr
 exact⟨rfl,σ',fl,I',x,by rw[hs'];exact e0⟩
end Mine
end
section
open PySem PySem.Calls PySem.Spec PyProof PyProof.Rows PySem.W
set_option maxRecDepth 20000
set_option maxHeartbeats 1000000
namespace Mine
noncomputable def jT(h:Heap)(P:Addr):Heap:=cN h P gone
theorem qD(h:Heap)(P:Addr):(jT h P).get? P=none:=by
 have hlt:P<max (P+1) h.objs.size:=Nat.lt_of_lt_of_le (Nat.lt_succ_self P) (Nat.le_max_left _ _)
 rw[get?_eq]
 have:(jT h P).objs[P]?=some gone:=by
  simp only[jT,cN,Array.getElem?_ofFn]
  rw[dif_pos hlt];simp
 rw[this];rfl
theorem m9{h:Heap}{P b:Addr}(hb:b≠P):(jT h P).get? b=h.get? b:=bx hb
theorem B8(h:Heap)(P:Addr):Le (jT h P) h:=λa o e=>by
 by_cases ha:a=P
 ·subst ha;rw[qD]at e;cases e
 ·rw[m9 ha]at e;exact e
theorem fE{h:Heap}{P a:Addr}{o:Obj}(hP:h.get? P=some (tabObj #[]))(e:h.get? a=some o)(hd:∀vs,o.data=.fields vs→vs.size≠0):(jT h P).get? a=some o:=by
 rw[m9]
 ·exact e
 ·rintro rfl
  rw[hP]at e
  cases e
  exact hd #[] rfl rfl
section
variable{prog:Program}{w:World}{mg mb:Str→Option Value}{h:Heap}{P:Addr}{a:Addr}
theorem qN{m:Str→Option Value}(hP:h.get? P=some (tabObj #[]))(n:h.Ns a m):(jT h P).Ns a m:=by
 obtain⟨o,es,ep,e,d,r⟩:=n
 exact⟨o,es,ep,fE hP e (λvs q=>by rw[d]at q;cases q),d,r⟩
theorem sC{cd:Value}{q:Str}(hP:h.get? P=some (tabObj #[]))(n:h.CodeRec cd q):(jT h P).CodeRec cd q:=by
 obtain⟨c,o,vs,t,e1,e2,e3,e4⟩:=n
 refine⟨c,o,vs,t,e1,fE hP e2 λws k=>?_,e3,e4⟩
 rw[e3]at k
 cases k
 intro hz
 have:vs[1]?=none:=Array.getElem?_eq_none (by(first|lia|omega))
 rw[this]at e4;cases e4
theorem TopF.cut{fa:Nat→Addr}{u:Addr}(T:TopF ⟨prog,w,mg,mb,h⟩ fa u)(hP:h.get? P=some (tabObj #[])):TopF ⟨prog,w,mg,mb,jT h P⟩ fa u where
 top:=⟨qN hP T.top.gl,qN hP T.top.bl,let ⟨mc,n,r⟩:=T.top.nolim;⟨mc,qN hP n,r⟩,.refl _⟩
 fn:=λk x hk=>by
  obtain⟨o,fd,F⟩:=T.fn k x hk
  exact⟨o,fd,⟨F.nm,F.pos,fE hP F.ho (λvs q=>by rw[F.hd]at q;cases q),F.hd,sC hP F.hcd,F.hb,F.hp,F.sc,F.gl,F.bl,F.df,F.kd,F.clo⟩⟩
 free:=T.free
 blt:=T.blt
 flags:=by
  obtain⟨d,f,h1,⟨o,es,ep,e,x,dd,r⟩,h3,h4⟩:=T.flags
  exact⟨d,f,h1,⟨o,es,ep,fE hP e (λvs q=>by rw[dd]at q;cases q),x,dd,r⟩,h3,h4⟩
 toks:=by
  obtain⟨d,f,h1,⟨o,es,ep,e,x,dd,r⟩,h3,h4⟩:=T.toks
  exact⟨d,f,h1,⟨o,es,ep,fE hP e (λvs q=>by rw[dd]at q;cases q),x,dd,r⟩,h3,h4⟩
 endm:=T.endm
 ntoff:=T.ntoff
 unk:=T.unk
end
theorem qF:Room callerA 81:=⟨rfl,by decide,by decide⟩
theorem zh{prog:Program}{w:World}{mg mb:Str→Option Value}{s₁:Shared}{fa:Nat→Addr}{u c P:Addr}{o:Obj}{fd:FuncData}(T:TopF ⟨prog,w,mg,mb,s₁.heap⟩ fa u)(F:FnAt ⟨prog,w,mg,mb,s₁.heap⟩ 75 "law" (fa 75) o fd)(hc:fd.code=.ref c)(hq:fd.qualname="law")
  (hC:s₁.heap.IsCode c P #[]) (hT:s₁.heap.TableAt c P #[]) (hB:s₁.heap.BuiltinsAt mg P) (hgP:mainGlobals≠P) (hg:AllBare s₁.gens) (htk:0<s₁.toks) {l:Addr} {vs:List Value} {ns:List Int} {k:Nat} (hl:s₁.heap.get? l=some (cG vs.toArray k)) (hi:IntsAre vs ns) (hn:ns.length≤63) :
  wpAny (model prog w) callerA (call (.ref (fa 75)) [.ref l]) (λr s'=>r=.bool true∧OldK s₁.heap s'.heap∧s'.os=s₁.os∧AllBare s'.gens) NoE s₁:=by
 have hP:s₁.heap.get? P=some (tabObj #[]):=hT.2
 have T0:=T.cut hP
 have F0:FnAt ⟨prog,w,mg,mb,jT s₁.heap P⟩ 75 "law" (fa 75) o fd:=⟨F.nm,F.pos,fE hP F.ho (λvs q=>by rw[F.hd]at q;cases q),F.hd,sC hP F.hcd,F.hb,F.hp,F.sc,F.gl,F.bl,F.df,F.kd,F.clo⟩
 have W:cM ⟨prog,w,mg,mb,jT s₁.heap P⟩ c P:=by
  refine⟨?_,?_,hgP⟩
  ·obtain⟨o',ws,file,tf,flags,tg,inF,text,tt,e1,e2,e3,e4,r⟩:=CodeHd.of hC hT
   refine⟨o',ws,file,tf,flags,tg,inF,text,tt,fE hP e1 λzs k=>?_,e2,e3,e4,r⟩
   rw[e3]at k
   cases k
   intro hz
   have:ws[11]?=none:=Array.getElem?_eq_none (by(first|lia|omega))
   rw[this]at e4;cases e4
  ·obtain⟨bm,o',e1,e2,e3,e4,e5,r,r2,r3⟩:=hB
   exact⟨bm,o',e1,e2,e3,e4,fE hP e5 (λzs k=>by rw[r3]at k;cases k),r,r2,r3⟩
 have I:(Cx.mk prog w mg mb (jT s₁.heap P)).Inv ⟨jT s₁.heap P,[P],[br P false]⟩ s₁:=by
  refine⟨B8 _ _,rfl,by simp,λk a cl e1 e2=>?_,λk a cl e1 e2 _=>?_,T0.top,hg,htk⟩
  ·cases k with
   | zero=>
    cases e1;cases e2
    exact⟨rfl,#[],hP,trivial,rfl⟩
   | succ k=>cases e1
  ·cases k with
   | zero=>cases e1;exact qD _ _
   | succ k=>cases e1
 have hr:Rel (jT s₁.heap P) (.ref l) (dW ns):=.lst (fE hP hl (λzs q=>by cases q)) (pj hi)
 refine wpAny_mono (yx T0 W F0 hc hq qF I rfl hn hr) (λr s' h=>?_) λ_ _ f=>f
 obtain⟨rfl,σ',fl,I',x,hs0⟩:=h
 obtain⟨more,ho,_⟩:=x.own
 have hown:σ'.own[0]?=some P:=by rw[ho];rfl
 obtain⟨_,ps,e1,_,_⟩:=I'.cells 0 P _ hown hs0
 refine⟨rfl,⟨λb ob e=>?_,λb ob e=>?_⟩,x.os,I'.bare⟩
 ·by_cases hb:b=P
  ·subst hb
   rw[hP]at e
   cases e
   exact .inr (.inl ⟨hT.isCodeTable,rfl,#[],ps,rfl,by rw[e1];simp⟩)
  ·exact .inl (x.keep b ob e (by simp[hb]) (λh=>h))
 ·by_cases hb:b=P
  ·subst hb;exact⟨_,e1⟩
  ·exact⟨_,x.keep b ob e (by simp[hb]) (λh=>h)⟩
end Mine
end
section
open PySem PySem.Calls PySem.Spec PyProof PyProof.Rows PySem.W
set_option maxRecDepth 20000
set_option maxHeartbeats 4000000
namespace Mine
noncomputable def CZ(k:Nat):Str:=(fu.lookup k).getD default
noncomputable def oF(mg:Str→Option Value)(k:Nat):Addr:=match mg (CZ k)with|some (.ref a)=>a|_=>0
theorem vz:∀q∈fu,CZ q.1=q.2:=by decide +kernel
noncomputable def gy(d:DefRec):Str×Arguments×List Stmt×Scope:=(d.name,d.params,d.body,d.scope)
noncomputable def iR(q:Nat×Str):Str×Arguments×List Stmt×Scope:=(q.2,fQ q.1,fnB q.1,rJ q.1)
section
variable{p:Program}{loose:List Str}{mean:ExcName→Option Value}{mg mb:Str→Option Value}{h:Heap}{prog:Program}{w:World}
theorem rec_of(e:(recsOf p).map gy=fu.map iR){k:Nat}{x:Str}(hm:(k,x)∈fu):∃d∈recsOf p,d.name=x∧d.params=fQ k∧d.body=fnB k∧d.scope=rJ k:=by
 have h1:iR (k,x)∈(recsOf p).map gy:=e▸List.mem_map_of_mem hm
 obtain⟨d,hd,e1⟩:=List.mem_map.mp h1
 injection e1 with a b
 injection b with b c
 injection c with c d'
 exact⟨d,hd,a,b,c,d'⟩
theorem Ce(T:Top p loose mean mg mb h){a:Addr}{o:Obj}{fd:FuncData}(ho:h.get? a=some o)(hd:o.data=.func fd):1≤a:=by
 rcases Nat.eq_zero_or_pos a with q|q
 ·subst q
  obtain⟨o',es,ep,h1,h2,_⟩:=T.b
  have h1':h.get? 0=some o':=h1
  rw[ho]at h1'
  cases h1'
  rw[hd]at h2;cases h2
 ·exact q
theorem Bm(T:Top p loose mean mg mb h)(e:(recsOf p).map gy=fu.map iR){k:Nat}{x:Str}(hm:(k,x)∈fu) :
  ∃o fd,FnAt ⟨prog,w,mg,mb,h⟩ k x (oF mg k) o fd∧fd.qualname=x:=by
 obtain⟨d,hd,rfl,e2,e3,e4⟩:=rec_of e hm
 obtain⟨a,o,pm,code,doc,h1,h2,h3,h4⟩:=T.fn d hd
 have q:oF mg k=a:=by
  unfold oF
  rw[vz _ hm]
  show (match mg d.name with|some (.ref a)=>a|_=>0)=a
  rw[h1]
 rw[q]
 refine⟨o,_,⟨h1,Ce T h2 h3,h2,h3,h4,?_,e2,e4,rfl,rfl,rfl,rfl,rfl⟩,rfl⟩
 show FuncBody.stmts d.body=_
 rw[e3]
theorem code_at(T:Top p loose mean mg mb h)(e:(recsOf p).map gy=fu.map iR){o:Obj}{fd:FuncData}(F:FnAt ⟨prog,w,mg,mb,h⟩ 75 "law" (oF mg 75) o fd) :
  ∃c P,fd.code=.ref c∧h.IsCode c P #[]∧h.TableAt c P #[]∧h.BuiltinsAt mg P∧mainGlobals≠P:=by
 obtain⟨d,hd,e1,_⟩:=rec_of e (k:=75) (x:="law") (by decide +kernel)
 obtain⟨a,o',fd',c,P,h1,h2,h3,h4,h5,h6⟩:=T.tab d hd
 have q:oF mg 75=a:=by
  have:=F.nm
  rw[e1]at h1
  have h7:mg "law" = some (.ref (oF mg 75)):=F.nm
  rw[h7]at h1
  injection h1 with t;injection t
 have ho:=F.ho
 rw[q]at ho
 have ho':h.get? a=some o:=ho
 rw[h2]at ho'
 cases ho'
 have hd':=F.hd
 rw[h3]at hd'
 injection hd' with hd'
 have hP:=h6.2
 have ne:∀b ob,h.get? b=some ob→(∀ps,ob.data≠.fields ps)→b≠P:=by
  rintro b ob hb hn rfl
  rw[hb]at hP
  injection hP with hP
  exact hn #[] (by rw[hP])
 refine⟨c,P,by rw[←hd'];exact h4,h5,h6,?_,?_⟩
 ·obtain⟨bm,ob,b1,b2,b3,b4,b5,b6⟩:=T.bmain
  refine⟨bm,ob,b1,b2,?_,ne bm ob b3 (λps q=>by rw[b6]at q;cases q),b3,b4,b5,b6⟩
  rintro rfl
  obtain⟨o1,es,ep,g1,g2,_⟩:=T.g
  rw[b3]at g1;cases g1
  rw[b6]at g2;cases g2
 ·obtain⟨o1,es,ep,g1,g2,_⟩:=T.g
  exact ne _ o1 g1 (λps q=>by rw[g2]at q;cases q)
noncomputable def l5(p:Program)(loose:List Str):Bool:=gY.all λq=>!startupNames.contains q.1 && !loose.contains q.1 && !((recsOf p).map (·.name)).contains q.1 && !((litsOf p).map (·.1)).contains q.1 && !((clssOf p loose).map (·.name)).contains q.1
theorem zR(T:Top p loose mean mg mb h)(e:l5 p loose=true){x:Str}{v:Value}(hm:(x,v)∈gY):mg x=none:=by
 have:=List.all_eq_true.mp e _ hm
 simp only[Bool.and_eq_true,Bool.not_eq_true']at this
 obtain⟨⟨⟨⟨a,b⟩,c⟩,d⟩,f⟩:=this
 have no:∀{l:List Str} {y:Str},l.contains y=false→y∉l:=λq m=>by rw[List.contains_iff_mem.mpr m]at q;cases q
 exact T.free x (no a) (no b) (no c) (no d) (no f)
theorem pR:∀q∈gY,q.1≠"__name__" ∧ bootBuiltins q.1=some q.2:=by
 intro q hq
 simp only[gY,List.mem_cons,List.not_mem_nil,or_false]at hq
 rcases hq with rfl|rfl|rfl|rfl|rfl|rfl|rfl|rfl|rfl|rfl|rfl|rfl|rfl|rfl<;>exact⟨by decide +kernel,rfl⟩
noncomputable def written{α β:Type}(dec:DictEntry→Option (α×Int×β))(hash:α→Int)(l:List DictEntry)(t:List (α×β)):Prop:=l.map dec=t.map λq=>some (q.1,hash q.1,q.2)
theorem yj{α β:Type}[DecidableEq α]{is:α→Value→Bool}{hash:α→Int}{dec:DictEntry→Option (α×Int×β)}{vl:β→Value→Prop}
  (hd:∀e k y x,dec e=some (k,y,x)→(∀i,is i e.key=decide (i=k))∧e.hash=y∧vl x e.val) (l:List DictEntry):∀{t:List (α×β)},written dec hash l t→
  (∀e∈l,∃k,is k e.key=true∧e.hash=hash k)∧∀i,(∀x,t.lookup i=some x→∃v,(l.find? λe=>is i e.key).map (·.val)=some v∧vl x v)∧(t.lookup i=none→(l.find? λe=>is i e.key).map (·.val)=none):=by
 induction l with
 | nil=>
  intro t h
  cases t with
  | nil=>exact⟨λ_ h=>absurd h List.not_mem_nil,λi=>⟨λx h=>nE h,λ_=>rfl⟩⟩
  | cons q t=>exact absurd (congrArg List.length h) (Nat.succ_ne_zero _).symm
 | cons e l ih=>
  intro t h
  cases t with
  | nil=>exact absurd (congrArg List.length h) (Nat.succ_ne_zero _)
  | cons q t=>
   injection h with h1 h2
   obtain⟨a,b⟩:=ih h2
   obtain⟨d1,d2,d3⟩:=hd _ _ _ _ h1
   refine⟨λe' he=>(List.mem_cons.mp he).elim (λhe=>he▸⟨q.1,(d1 _).trans (decide_eq_true rfl),d2⟩) (a e'),λi=>?_⟩
   obtain⟨k,y⟩:=q
   by_cases hi:i=k
   ·have e1:((k,y)::t).lookup i=some y:=by rw[List.lookup,beq_iff_eq.mpr hi]
    rw[e1,show (e::l).find? (λe=>is i e.key)=some e from List.find?_cons_of_pos ((d1 i).trans (decide_eq_true hi))]
    exact⟨λx hx=>⟨_,rfl,Option.some.inj hx▸d3⟩,nofun⟩
   ·have e1:((k,y)::t).lookup i=t.lookup i:=by rw[List.lookup,beq_eq_false_iff_ne.mpr hi]
    rw[e1,show (e::l).find? (λe=>is i e.key)=l.find? (λe=>is i e.key)from List.find?_cons_of_neg (by rw[d1,decide_eq_false hi];exact Bool.false_ne_true)]
    exact b i
theorem tV{α β:Type}[DecidableEq α]{K:PySem.KeyKind prog w α}{dec:DictEntry→Option (α×Int×β)}{vl:β→Value→Prop}{t:List (α×β)}(hd:∀e k y x,dec e=some (k,y,x)→(∀i,K.is i e.key=decide (i=k))∧e.hash=y∧vl x e.val)
  {dct:Addr} {es:Array DictEntry} {n:Nat} (hl:h.get? dct=some ⟨.type "dict",none,.dict es n,#[]⟩) (hf:written dec K.hash es.toList t) :
  ∃f,h.MapOf K dct f∧∀i,(∀x,t.lookup i=some x→∃v,f i=some v∧vl x v)∧(t.lookup i=none→f i=none):=by
 obtain⟨a,b⟩:=yj hd _ hf
 refine⟨λi=>findBy K.is es i,⟨_,es,n,hl,⟨rfl,rfl,rfl⟩,rfl,λe he=>a e (Array.mem_toList_iff.mpr he),λ_=>rfl⟩,λi=>?_⟩
 have hb:=b i
 unfold findBy
 obtain⟨l⟩:=es
 simpa only[List.find?_toArray] using hb
theorem uH{dct:Addr}{es:Array DictEntry}{n:Nat}(hl:h.get? dct=some ⟨.type "dict",none,.dict es n,#[]⟩)(hf:written zO hashInt es.toList lG) :
  ∃f,h.MapOf (intKind prog w) dct f∧∀i,match dc i with|some x=>∃t,f i=some (.str x t)|none=>f i=none:=by
 obtain⟨f,a,b⟩:=tV (K:=intKind prog w) (vl:=λx v=>∃t,v=.str x t) (λe k y x q=>by
  unfold zO at q
  (first|(refine iE q ?_ ?_<;>(clear q;intro _ q))|split at q)
  ·rename_i h1 h2
   cases q
   exact⟨λi=>by rw[h1];exact KeyKind.is_eq_decide (knd:=intKind prog w) (intKind_is prog w _ _) i,rfl,_,h2⟩
  ·cases q) hl hf
 refine⟨f,a,λi=>?_⟩
 obtain⟨b1,b2⟩:=b i
 unfold dc
 split
 ·rename_i e;obtain⟨v,h1,t,h2⟩:=b1 _ e;exact⟨t,h2▸h1⟩
 ·rename_i e;exact b2 e
theorem wk{dct:Addr}{es:Array DictEntry}{n:Nat}(hl:h.get? dct=some ⟨.type "dict",none,.dict es n,#[]⟩)(hf:written AR (hashStr w) es.toList oH) :
  ∃f,h.MapOf (PySem.strKind prog w) dct f∧∀i,match bN i with|some x=>∃t,f i=some (.int x t)|none=>f i=none:=by
 obtain⟨f,a,b⟩:=tV (K:=PySem.strKind prog w) (vl:=λx v=>∃t,v=.int x t) (λe k y x q=>by
  unfold AR at q
  (first|(refine iE q ?_ ?_<;>(clear q;intro _ q))|split at q)
  ·rename_i h1 h2
   cases q
   exact⟨λi=>by rw[h1];exact KeyKind.is_eq_decide (knd:=PySem.strKind prog w) (strKind_is prog w _ _) i,rfl,_,h2⟩
  ·cases q) hl hf
 refine⟨f,a,λi=>?_⟩
 obtain⟨b1,b2⟩:=b i
 unfold bN
 split
 ·rename_i e;obtain⟨v,h1,t,h2⟩:=b1 _ e;exact⟨t,h2▸h1⟩
 ·rename_i e;exact b2 e
end
end Mine
namespace Mine
structure Bl (mg:Str→Option Value) (h:Heap) (w:World):Prop where
 flags:∃dct es n,mg "COMPILER_FLAG_NAMES" = some (.ref dct)∧h.get? dct=some ⟨.type "dict",none,.dict es n,#[]⟩∧written zO hashInt es.toList lG∧(dct==sysModules)=false
 toks:∃dct es n,mg "EXACT_TOKEN_TYPES" = some (.ref dct)∧h.get? dct=some ⟨.type "dict",none,.dict es n,#[]⟩∧written AR (hashStr w) es.toList oH∧(dct==sysModules)=false
 endm:∃t,mg "ENDMARKER" = some (.int 0 t)
 ntoff:∃t,mg "NT_OFFSET" = some (.int 256 t)
 unk:∃u,mg "UNKNOWN" = some (.ref u)
theorem law_close{p:Program}{loose:List Str}{mean:ExcName→Option Value}{mg mb:Str→Option Value}{s₁:Shared}{prog:Program}{w:World}(T:Top p loose mean mg mb s₁.heap)(S:Bl mg s₁.heap w)
  (e:(recsOf p).map gy=fu.map iR) (ef:l5 p loose=true) (hg:s₁.gens=#[]) (htk:600≤s₁.toks) {a l:Addr} (hm:mg "law" = some (.ref a)) {vs:List Value} {ns:List Int}
  (hl:s₁.heap.get? l=some { cls:=.type "list",data:=.seq vs.toArray }) (hi:IntsAre vs ns) (hn:¬((63:Nat):Int)<(ns.length:Int)) :
  wpAny (model prog w) callerA (call (.ref a) [.ref l]) (λr s'=>r=.bool true∧OldK s₁.heap s'.heap∧s'.os=s₁.os∧AllBare s'.gens) NoE s₁:=by
 obtain⟨d1,es1,n1,m1,l1,f1,b1⟩:=S.flags
 obtain⟨d2,es2,n2,m2,l2,f2,b2⟩:=S.toks
 obtain⟨u,hu⟩:=S.unk
 obtain⟨g1,x1,y1⟩:=uH (prog:=prog) (w:=w) l1 f1
 obtain⟨g2,x2,y2⟩:=wk (prog:=prog) (w:=w) l2 f2
 have TT:TopF ⟨prog,w,mg,mb,s₁.heap⟩ (oF mg) u:={
  top:=⟨T.g,T.b,T.nolimit,λ_ _ e=>e⟩
  fn:=λk x hk=>let ⟨o,fd,F,_⟩:=Bm T e hk;⟨o,fd,F⟩
  free:=λx v hk=>zR T ef hk
  blt:=λx v hk=>(T.builtins x (pR _ hk).1).trans (pR _ hk).2
  flags:=⟨d1,g1,m1,x1,b1,y1⟩
  toks:=⟨d2,g2,m2,x2,b2,y2⟩
  endm:=S.endm
  ntoff:=S.ntoff
  unk:=hu }
 obtain⟨o,fd,F,hq⟩:=Bm (prog:=prog) (w:=w) T e (k:=75) (x:="law") (by decide +kernel)
 obtain⟨c,P,h1,h2,h3,h4,h5⟩:=code_at T e F
 have ha:oF mg 75=a:=by
  have:=F.nm
  have h7:mg "law" = some (.ref (oF mg 75)):=F.nm
  rw[hm]at h7
  injection h7 with t;injection t with t;exact t.symm
 rw[←ha]
 exact zh TT F h1 hq h2 h3 h4 h5 (.of_eq hg) (by(first|lia|omega)) (k:=0) hl hi (by(first|lia|omega))
end Mine
end
section
open PySem PySem.W PySem.W.X PyProof.Rows PySem.W.ZRun
namespace Mine
noncomputable def lawD:DefRec×List (Str×Expr):=(defOf view "law").getD (⟨"",default,[],default,default⟩,[])
noncomputable abbrev sQ(s:Shared):=(openSeen view looseN (importedModules prg.main.body) Xt true s,obs s)
theorem half(b:Bool)(w:World):(fencedOpening treeTable prg w 4950).map (λs₀=>(topFrom treeTable prg (w.withFollow "special-get-raises" b) 4950 s₀).map sQ)=some (some (openGood view looseN,val w)):=by
 rw[←twin_eq]
 unfold sQ
 rw[Fast.te4187177175401517315,Fast.te5923862056798008813]
 cases b
 ·exact half0 w
 ·exact half1 w
theorem left:LeftO prg view looseN Xt obs val 4950:=λw=>by
 (refine mE (half false w) ?_;intro s₀ a b0)
 (refine mE (half true w) ?_;intro s₁ a' b1)
 cases a.symm.trans a'
 have e:=World.withFollow_self w "special-get-raises"
 unfold openEnds
 rw[a]
 cases hb:w.params.followText "special-get-raises" <;> rw[hb]at e
 ·rw[e]at b0;exact b0
 ·rw[e]at b1;exact b1
theorem qA{β:Type}{f:DictEntry→β}{o:Option Obj}{l:List β}(h:BW f o=wy l):∃es n,o=some ⟨.type "dict",none,.dict es n,#[]⟩∧es.toList.map f=l:=by
 cases o with
 | none=>cases h
 | some o=>
  obtain⟨c,d,t,sl⟩:=o
  have h:=Option.some.inj h
  have e1:c=.type "dict" :=congrArg (·.1) h
  have e2:d=none:=congrArg (·.2.1) h
  have e3:sl=#[]:=congrArg (·.2.2.1) h
  have e4:=congrArg (·.2.2.2) h
  clear h
  subst e1 e2 e3
  cases t with
  | dict es n=>exact⟨es,n,rfl,Option.some.inj e4⟩
  | _=>exact nE e4
theorem jV{h h':Heap}{mg:Str→Option Value}{x:Str}{v:Value}(G:h'.Ns mainGlobals mg)(k:∀b o,h.get? b=some o→h'.get? b=some o)(e:h.nsMap mainGlobals x=some v):mg x=some v:=by
 obtain⟨o,es,ep,ho,hd,_,hf⟩:=G
 unfold Heap.nsMap at e
 (first|(refine iE e ?_ ?_<;>(clear e;intro _ e))|split at e)
 ·rename_i o' q
  have:=k _ _ q
  rw[ho]at this
  cases this
  rw[hd]at e
  exact(hf x).symm.trans e
 ·cases e
theorem shown{s₀ s₁:Shared}{mg:Str→Option Value}{w:World}(y:obs s₀=val w)(k:∀b o,s₀.heap.get? b=some o→s₁.heap.get? b=some o)(G:s₁.heap.Ns mainGlobals mg):Bl mg s₁.heap w:=by
 injection y with y1 y
 injection y with y2 y
 injection y with y3 _
 injection y3 with m1 y
 injection y with m2 y
 injection y with m3 y
 injection y with m4 y
 injection y with m5 _
 obtain⟨es,n,h1,f1⟩:=qA y1
 obtain⟨es',n',h2,f2⟩:=qA y2
 exact⟨⟨15,es,n,jV G k m1,k _ _ h1,f1,by decide⟩,⟨81,es',n',jV G k m2,k _ _ h2,f2,by decide⟩,⟨_,jV G k m3⟩,⟨_,jV G k m4⟩,⟨_,jV G k m5⟩⟩
theorem tokens{s₀:Shared}{w:World}(y:obs s₀=val w):s₀.toks=600:=congrArg (·.2.2.2) y
theorem lawD_name:lawD.1.name="law" :=by kernel_rfl
theorem recs_ok:(recsOf view).map gy=fu.map iR:=by kernel_rfl
theorem lits_ok:l5 view (looseW view looseN)=true:=by kernel_rfl
set_option maxRecDepth 100000 in
set_option maxHeartbeats 0 in
theorem said:PySem.Challenge.rw_tc0018_01.wellSaid=true:=by kernel_rfl
end Mine
set_option maxRecDepth 100000 in
set_option maxHeartbeats 0 in
theorem PySem.Challenge.cw_tc0018_01_holds : PySem.Challenge.rw_tc0018_01.Holds := by
 refine holds_law Mine.said λsaid=>?_
 refine holds_openX (q:=Mine.view) (d:=Mine.lawD.1) (kwd:=Mine.lawD.2) (loose:=Mine.looseN) (Xt:=Mine.Xt) (XP:=XL Mine.view []) (Yf:=Mine.obs) (Ya:=Mine.val) (N:=4950) Mine.left (λs e=>xl_of s (Bool.and_eq_true_iff.mp e).1) XL.keeps (by kernel_rfl) (by kernel_rfl) (by kernel_rfl) (λs e=>recFacts_of (Bool.and_eq_true_iff.mp e).2) (by kernel_rfl) said (by kernel_rfl) ⟨rfl,rfl,rfl,rfl,rfl,by decide +kernel⟩ ?hw ?hc
 case hw=>w_witness2
 intro w s₀ s₁ mg mb G y a o pm cd doc dV kV ho hd hcd hD hmg hg args vals as L hpre hlay hrd hwl hlo
 refine Ground.open G ?_
 intro T B D TE TW
 wrow_args hpre hlay hrd hwl hlo
 have htk:=script_toks L (Mine.tokens y)
 all_lens
 have hobj:=script_obj L ‹Heap.IsList _ _ _›
 rw[Mine.lawD_name]at hmg
 refine wpAny_mono (Mine.law_close T (Mine.shown y L.keeps T.g) Mine.recs_ok Mine.lits_ok hg htk hmg hobj ‹IntsAre _ _› ‹¬_›) (λr s' h=>?_) λ_ _ f=>f.elim
 obtain⟨rfl,h1,h2,h3⟩:=h
 refine⟨.inl ⟨.bool true,.bool true,[],rfl,λ_=>rfl,.bool _,?_,λ_=>⟨.nil,λ_ h=>absurd h List.not_mem_nil⟩⟩,h1,h2,h3⟩
 first|rfl|kernel_rfl|decide +kernel
end
