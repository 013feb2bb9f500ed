import PyProof.Rows.All
import Wide.All
import OpenK.AllK
import KE.KSortTup
import KE.KAssignIn
import Lean
import PySem.Challenge.RW_ny0279_01
set_option Elab.async false
set_option linter.all false
set_option bootstrap.genMatcherCode false
set_option genSizeOf false
set_option genInjectivity false
set_option compiler.extract_closed false
namespace Mine
section
open PySem PySem.W PyProof.Rows
section
set_option maxRecDepth 1000000
set_option maxHeartbeats 0
noncomputable abbrev thePw:Program:=PySem.Challenge.pw_ny0279_01
noncomputable abbrev lawQ:Program:=view thePw [0,28]
noncomputable abbrev lawLoose:List Str:=["_wall","_twin_re_1","_twin_re_2","_twin_re_3","CRLF","quotedata","_quote_periods","_fix_eols","_NODE_OUT","_NODE_DONE","_NodeInfo","CycleError","TopologicalSorter","heappush","heappop","_siftdown","_siftup","_law_sent","_law_seams","_law_tried","_law_by_heap","_law_by_sorter","_law_in_octets"]
noncomputable abbrev lawX(s:Shared):Bool:=xlAt lawQ [] s&&recOk (RowW.records (OpenRow.toRowW (OpenLaw.row PySem.Challenge.rw_ny0279_01))) s
theorem law_said:OpenLaw.wellSaid PySem.Challenge.rw_ny0279_01=true:=by
 rw[PySem.W.Fast.te9446332074065402090];kernel_rfl
end
end
section
open PySem PySem.W PySem.W.X PyProof.Rows
section
set_option maxRecDepth 1000000
set_option maxHeartbeats 0
noncomputable def runOf:Option Shared→Shared
 |some s=>s
 |none=>(start thePw).1
noncomputable def theRun(w:World):Shared:=runOf (openEnds treeTable thePw w 3536)
theorem left_gen{p q:Program}{loose:List Str}{Xt:Shared→Bool}{N:Nat}(h:∀w:World,(openEnds treeTable p w N).isSome=true∧openSeen q loose (importedModules p.main.body) Xt true (runOf (openEnds treeTable p w N))=openGood q loose):
 LeftO p q loose Xt (fun s=>s) (fun w=>runOf (openEnds treeTable p w N)) N:=by
 intro w;have h:=h w;cases e:openEnds treeTable p w N with
 |none=>rw[e]at h;cases h.1
 |some s=>rw[e]at h;have h2:openSeen q loose (importedModules p.main.body) Xt true s=openGood q loose:=h.2;show some (openSeen q loose (importedModules p.main.body) Xt true s,s)=some (openGood q loose,runOf (openEnds treeTable p w N));rw[e,h2];rfl
theorem law_ok2:(chainsOk lawQ&&(opensWell thePw&&(frees (OpenRow.toRowW (OpenLaw.row PySem.Challenge.rw_ny0279_01))&&(OpenLaw.row PySem.Challenge.rw_ny0279_01).within.isEmpty)))=true:=by kernel_rfl
theorem law_bare:thePw.bare:=⟨rfl,rfl,rfl,rfl,rfl,by decide+kernel⟩
theorem law_prom:(OpenRow.toRowW (OpenLaw.row PySem.Challenge.rw_ny0279_01)).promised:=by w_witness2
end
end
section
theorem x0_2{p0 p1 p2:Prop}{G:Prop}(h:p0∧p1∧p2)(k:p0→p1→p2→G):G:=by
 obtain⟨h0,h1,h2⟩:=h;exact k h0 h1 h2
theorem x0_3{p0 p1 p2 p3:Prop}{G:Prop}(h:p0∧p1∧p2∧p3)(k:p0→p1→p2→p3→G):G:=by
 obtain⟨h0,h1,h2,h3⟩:=h;exact k h0 h1 h2 h3
theorem x0_4{p0 p1 p2 p3 p4:Prop}{G:Prop}(h:p0∧p1∧p2∧p3∧p4)(k:p0→p1→p2→p3→p4→G):G:=by
 obtain⟨h0,h1,h2,h3,h4⟩:=h;exact k h0 h1 h2 h3 h4
theorem x0_5{p0 p1 p2 p3 p4 p5:Prop}{G:Prop}(h:p0∧p1∧p2∧p3∧p4∧p5)(k:p0→p1→p2→p3→p4→p5→G):G:=by
 obtain⟨h0,h1,h2,h3,h4,h5⟩:=h;exact k h0 h1 h2 h3 h4 h5
theorem x1_1{α0:Sort _}{p0 p1:α0→Prop}{G:Prop}(h:∃a0,p0 a0∧p1 a0)(k:∀a0,p0 a0→p1 a0→G):G:=by
 obtain⟨a0,h0,h1⟩:=h;exact k a0 h0 h1
theorem x1_2{α0:Sort _}{p0 p1 p2:α0→Prop}{G:Prop}(h:∃a0,p0 a0∧p1 a0∧p2 a0)(k:∀a0,p0 a0→p1 a0→p2 a0→G):G:=by
 obtain⟨a0,h0,h1,h2⟩:=h;exact k a0 h0 h1 h2
theorem x1_3{α0:Sort _}{p0 p1 p2 p3:α0→Prop}{G:Prop}(h:∃a0,p0 a0∧p1 a0∧p2 a0∧p3 a0)(k:∀a0,p0 a0→p1 a0→p2 a0→p3 a0→G):G:=by
 obtain⟨a0,h0,h1,h2,h3⟩:=h;exact k a0 h0 h1 h2 h3
theorem x1_4{α0:Sort _}{p0 p1 p2 p3 p4:α0→Prop}{G:Prop}(h:∃a0,p0 a0∧p1 a0∧p2 a0∧p3 a0∧p4 a0)(k:∀a0,p0 a0→p1 a0→p2 a0→p3 a0→p4 a0→G):G:=by
 obtain⟨a0,h0,h1,h2,h3,h4⟩:=h;exact k a0 h0 h1 h2 h3 h4
theorem x2_0{α0 α1:Sort _}{p0:α0→α1→Prop}{G:Prop}(h:∃a0 a1,p0 a0 a1)(k:∀a0 a1,p0 a0 a1→G):G:=by
 obtain⟨a0,a1,h0⟩:=h;exact k a0 a1 h0
theorem x2_1{α0 α1:Sort _}{p0 p1:α0→α1→Prop}{G:Prop}(h:∃a0 a1,p0 a0 a1∧p1 a0 a1)(k:∀a0 a1,p0 a0 a1→p1 a0 a1→G):G:=by
 obtain⟨a0,a1,h0,h1⟩:=h;exact k a0 a1 h0 h1
theorem x2_2{α0 α1:Sort _}{p0 p1 p2:α0→α1→Prop}{G:Prop}(h:∃a0 a1,p0 a0 a1∧p1 a0 a1∧p2 a0 a1)(k:∀a0 a1,p0 a0 a1→p1 a0 a1→p2 a0 a1→G):G:=by
 obtain⟨a0,a1,h0,h1,h2⟩:=h;exact k a0 a1 h0 h1 h2
theorem x2_3{α0 α1:Sort _}{p0 p1 p2 p3:α0→α1→Prop}{G:Prop}(h:∃a0 a1,p0 a0 a1∧p1 a0 a1∧p2 a0 a1∧p3 a0 a1)(k:∀a0 a1,p0 a0 a1→p1 a0 a1→p2 a0 a1→p3 a0 a1→G):G:=by
 obtain⟨a0,a1,h0,h1,h2,h3⟩:=h;exact k a0 a1 h0 h1 h2 h3
theorem x2_4{α0 α1:Sort _}{p0 p1 p2 p3 p4:α0→α1→Prop}{G:Prop}(h:∃a0 a1,p0 a0 a1∧p1 a0 a1∧p2 a0 a1∧p3 a0 a1∧p4 a0 a1)(k:∀a0 a1,p0 a0 a1→p1 a0 a1→p2 a0 a1→p3 a0 a1→p4 a0 a1→G):G:=by
 obtain⟨a0,a1,h0,h1,h2,h3,h4⟩:=h;exact k a0 a1 h0 h1 h2 h3 h4
theorem x3_0{α0 α1 α2:Sort _}{p0:α0→α1→α2→Prop}{G:Prop}(h:∃a0 a1 a2,p0 a0 a1 a2)(k:∀a0 a1 a2,p0 a0 a1 a2→G):G:=by
 obtain⟨a0,a1,a2,h0⟩:=h;exact k a0 a1 a2 h0
theorem x3_1{α0 α1 α2:Sort _}{p0 p1:α0→α1→α2→Prop}{G:Prop}(h:∃a0 a1 a2,p0 a0 a1 a2∧p1 a0 a1 a2)(k:∀a0 a1 a2,p0 a0 a1 a2→p1 a0 a1 a2→G):G:=by
 obtain⟨a0,a1,a2,h0,h1⟩:=h;exact k a0 a1 a2 h0 h1
theorem x3_2{α0 α1 α2:Sort _}{p0 p1 p2:α0→α1→α2→Prop}{G:Prop}(h:∃a0 a1 a2,p0 a0 a1 a2∧p1 a0 a1 a2∧p2 a0 a1 a2)(k:∀a0 a1 a2,p0 a0 a1 a2→p1 a0 a1 a2→p2 a0 a1 a2→G):G:=by
 obtain⟨a0,a1,a2,h0,h1,h2⟩:=h;exact k a0 a1 a2 h0 h1 h2
theorem x4_1{α0 α1 α2 α3:Sort _}{p0 p1:α0→α1→α2→α3→Prop}{G:Prop}(h:∃a0 a1 a2 a3,p0 a0 a1 a2 a3∧p1 a0 a1 a2 a3)(k:∀a0 a1 a2 a3,p0 a0 a1 a2 a3→p1 a0 a1 a2 a3→G):G:=by
 obtain⟨a0,a1,a2,a3,h0,h1⟩:=h;exact k a0 a1 a2 a3 h0 h1
theorem x4_2{α0 α1 α2 α3:Sort _}{p0 p1 p2:α0→α1→α2→α3→Prop}{G:Prop}(h:∃a0 a1 a2 a3,p0 a0 a1 a2 a3∧p1 a0 a1 a2 a3∧p2 a0 a1 a2 a3)(k:∀a0 a1 a2 a3,p0 a0 a1 a2 a3→p1 a0 a1 a2 a3→p2 a0 a1 a2 a3→G):G:=by
 obtain⟨a0,a1,a2,a3,h0,h1,h2⟩:=h;exact k a0 a1 a2 a3 h0 h1 h2
theorem x4_3{α0 α1 α2 α3:Sort _}{p0 p1 p2 p3:α0→α1→α2→α3→Prop}{G:Prop}(h:∃a0 a1 a2 a3,p0 a0 a1 a2 a3∧p1 a0 a1 a2 a3∧p2 a0 a1 a2 a3∧p3 a0 a1 a2 a3)(k:∀a0 a1 a2 a3,p0 a0 a1 a2 a3→p1 a0 a1 a2 a3→p2 a0 a1 a2 a3→p3 a0 a1 a2 a3→G):G:=by
 obtain⟨a0,a1,a2,a3,h0,h1,h2,h3⟩:=h;exact k a0 a1 a2 a3 h0 h1 h2 h3
theorem x4_4{α0 α1 α2 α3:Sort _}{p0 p1 p2 p3 p4:α0→α1→α2→α3→Prop}{G:Prop}(h:∃a0 a1 a2 a3,p0 a0 a1 a2 a3∧p1 a0 a1 a2 a3∧p2 a0 a1 a2 a3∧p3 a0 a1 a2 a3∧p4 a0 a1 a2 a3)(k:∀a0 a1 a2 a3,p0 a0 a1 a2 a3→p1 a0 a1 a2 a3→p2 a0 a1 a2 a3→p3 a0 a1 a2 a3→p4 a0 a1 a2 a3→G):G:=by
 obtain⟨a0,a1,a2,a3,h0,h1,h2,h3,h4⟩:=h;exact k a0 a1 a2 a3 h0 h1 h2 h3 h4
theorem x5_1{α0 α1 α2 α3 α4:Sort _}{p0 p1:α0→α1→α2→α3→α4→Prop}{G:Prop}(h:∃a0 a1 a2 a3 a4,p0 a0 a1 a2 a3 a4∧p1 a0 a1 a2 a3 a4)(k:∀a0 a1 a2 a3 a4,p0 a0 a1 a2 a3 a4→p1 a0 a1 a2 a3 a4→G):G:=by
 obtain⟨a0,a1,a2,a3,a4,h0,h1⟩:=h;exact k a0 a1 a2 a3 a4 h0 h1
theorem x5_2{α0 α1 α2 α3 α4:Sort _}{p0 p1 p2:α0→α1→α2→α3→α4→Prop}{G:Prop}(h:∃a0 a1 a2 a3 a4,p0 a0 a1 a2 a3 a4∧p1 a0 a1 a2 a3 a4∧p2 a0 a1 a2 a3 a4)(k:∀a0 a1 a2 a3 a4,p0 a0 a1 a2 a3 a4→p1 a0 a1 a2 a3 a4→p2 a0 a1 a2 a3 a4→G):G:=by
 obtain⟨a0,a1,a2,a3,a4,h0,h1,h2⟩:=h;exact k a0 a1 a2 a3 a4 h0 h1 h2
theorem x5_4{α0 α1 α2 α3 α4:Sort _}{p0 p1 p2 p3 p4:α0→α1→α2→α3→α4→Prop}{G:Prop}(h:∃a0 a1 a2 a3 a4,p0 a0 a1 a2 a3 a4∧p1 a0 a1 a2 a3 a4∧p2 a0 a1 a2 a3 a4∧p3 a0 a1 a2 a3 a4∧p4 a0 a1 a2 a3 a4)(k:∀a0 a1 a2 a3 a4,p0 a0 a1 a2 a3 a4→p1 a0 a1 a2 a3 a4→p2 a0 a1 a2 a3 a4→p3 a0 a1 a2 a3 a4→p4 a0 a1 a2 a3 a4→G):G:=by
 obtain⟨a0,a1,a2,a3,a4,h0,h1,h2,h3,h4⟩:=h;exact k a0 a1 a2 a3 a4 h0 h1 h2 h3 h4
theorem x6_0{α0 α1 α2 α3 α4 α5:Sort _}{p0:α0→α1→α2→α3→α4→α5→Prop}{G:Prop}(h:∃a0 a1 a2 a3 a4 a5,p0 a0 a1 a2 a3 a4 a5)(k:∀a0 a1 a2 a3 a4 a5,p0 a0 a1 a2 a3 a4 a5→G):G:=by
 obtain⟨a0,a1,a2,a3,a4,a5,h0⟩:=h;exact k a0 a1 a2 a3 a4 a5 h0
theorem x6_1{α0 α1 α2 α3 α4 α5:Sort _}{p0 p1:α0→α1→α2→α3→α4→α5→Prop}{G:Prop}(h:∃a0 a1 a2 a3 a4 a5,p0 a0 a1 a2 a3 a4 a5∧p1 a0 a1 a2 a3 a4 a5)(k:∀a0 a1 a2 a3 a4 a5,p0 a0 a1 a2 a3 a4 a5→p1 a0 a1 a2 a3 a4 a5→G):G:=by
 obtain⟨a0,a1,a2,a3,a4,a5,h0,h1⟩:=h;exact k a0 a1 a2 a3 a4 a5 h0 h1
theorem x7_0{α0 α1 α2 α3 α4 α5 α6:Sort _}{p0:α0→α1→α2→α3→α4→α5→α6→Prop}{G:Prop}(h:∃a0 a1 a2 a3 a4 a5 a6,p0 a0 a1 a2 a3 a4 a5 a6)(k:∀a0 a1 a2 a3 a4 a5 a6,p0 a0 a1 a2 a3 a4 a5 a6→G):G:=by
 obtain⟨a0,a1,a2,a3,a4,a5,a6,h0⟩:=h;exact k a0 a1 a2 a3 a4 a5 a6 h0
theorem x7_1{α0 α1 α2 α3 α4 α5 α6:Sort _}{p0 p1:α0→α1→α2→α3→α4→α5→α6→Prop}{G:Prop}(h:∃a0 a1 a2 a3 a4 a5 a6,p0 a0 a1 a2 a3 a4 a5 a6∧p1 a0 a1 a2 a3 a4 a5 a6)(k:∀a0 a1 a2 a3 a4 a5 a6,p0 a0 a1 a2 a3 a4 a5 a6→p1 a0 a1 a2 a3 a4 a5 a6→G):G:=by
 obtain⟨a0,a1,a2,a3,a4,a5,a6,h0,h1⟩:=h;exact k a0 a1 a2 a3 a4 a5 a6 h0 h1
theorem x8_4{α0 α1 α2 α3 α4 α5 α6 α7:Sort _}{p0 p1 p2 p3 p4:α0→α1→α2→α3→α4→α5→α6→α7→Prop}{G:Prop}(h:∃a0 a1 a2 a3 a4 a5 a6 a7,p0 a0 a1 a2 a3 a4 a5 a6 a7∧p1 a0 a1 a2 a3 a4 a5 a6 a7∧p2 a0 a1 a2 a3 a4 a5 a6 a7∧p3 a0 a1 a2 a3 a4 a5 a6 a7∧p4 a0 a1 a2 a3 a4 a5 a6 a7)(k:∀a0 a1 a2 a3 a4 a5 a6 a7,p0 a0 a1 a2 a3 a4 a5 a6 a7→p1 a0 a1 a2 a3 a4 a5 a6 a7→p2 a0 a1 a2 a3 a4 a5 a6 a7→p3 a0 a1 a2 a3 a4 a5 a6 a7→p4 a0 a1 a2 a3 a4 a5 a6 a7→G):G:=by
 obtain⟨a0,a1,a2,a3,a4,a5,a6,a7,h0,h1,h2,h3,h4⟩:=h;exact k a0 a1 a2 a3 a4 a5 a6 a7 h0 h1 h2 h3 h4
end
section
open PySem PySem.W PyProof.Rows
noncomputable abbrev GH:=Addr→Option Obj
def GLe(G G':GH):Prop:=∀a o,G a=some o→G' a=some o
theorem GLe.refl(G:GH):GLe G G:=fun _ _ h=>h
theorem GLe.trans{G G' G'':GH}(h:GLe G G')(h':GLe G' G''):GLe G G'':=fun a o e=>h' a o (h a o e)
noncomputable abbrev yes:Str→Bool:=fun _=>true
noncomputable abbrev Vs:=List (Str×Option Value)
noncomputable def lk:Vs→Str→Option Value
 |[],_=>none
 |p::r,x=>if x=p.1 then p.2 else lk r x
theorem lk_mem{vs:Vs}(hn:(vs.map (·.1)).Nodup){x:Str}{v:Option Value}(h:(x,v)∈vs):lk vs x=v:=by
 induction vs with
 |nil=>cases h
 |cons p r ih=>
  rw[List.map_cons,List.nodup_cons]at hn;rcases List.mem_cons.mp h with e|h
  ·subst e;simp[lk]
  ·have:x≠p.1:=fun e=>hn.1 (e▸List.mem_map_of_mem (f:=(·.1)) h);simp only[lk,if_neg this];exact ih hn.2 h
theorem lk_none{vs:Vs}{x:Str}(h:x∉vs.map (·.1)):lk vs x=none:=by
 induction vs with
 |nil=>rfl
 |cons p r ih=>
  rw[List.map_cons,List.mem_cons,not_or]at h;simp only[lk,if_neg h.1];exact ih h.2
inductive Pv(x:Str)(v:Option Value):Vs→Vs→Prop
 |here {w:Option Value} {r:Vs}:Pv x v ((x,w)::r) ((x,v)::r)
 |there {p:Str×Option Value} {r r':Vs}:Pv x v r r'→Pv x v (p::r) (p::r')
theorem Pv.names{x:Str}{v:Option Value}{vs vs':Vs}(h:Pv x v vs vs'):vs'.map (·.1)=vs.map (·.1):=by
 induction h with
 |here=>rfl
 |there _ ih=>rw[List.map_cons,List.map_cons,ih]
theorem Pv.mem{x:Str}{v:Option Value}{vs vs':Vs}(h:Pv x v vs vs'):∃w,(x,w)∈vs:=by
 induction h with
 |here=>exact⟨_,.head _⟩
 |there _ ih=>exact⟨_,.tail _ ih.choose_spec⟩
theorem Pv.lk{x:Str}{v:Option Value}{vs vs':Vs}(h:Pv x v vs vs')(hn:(vs.map (·.1)).Nodup)(y:Str):lk vs' y=if y=x then v else lk vs y:=by
 induction h with
 |here=>simp only[Mine.lk];split<;>rfl
 |@there p r r' hp ih=>
  rw[List.map_cons,List.nodup_cons]at hn;obtain⟨w,hw⟩:=hp.mem;have hx:x≠p.1:=fun e=>hn.1 (e▸List.mem_map_of_mem (f:=(·.1)) hw);simp only[Mine.lk];by_cases h1:y=p.1
  ·subst h1;simp[Ne.symm hx]
  ·simp only[if_neg h1];exact ih hn.2
inductive Up(a:Addr)(o o':Obj):List (Addr×Obj)→List (Addr×Obj)→Prop
 |here {r:List (Addr×Obj)}:Up a o o' ((a,o)::r) ((a,o')::r)
 |there {p:Addr×Obj} {r r':List (Addr×Obj)}:Up a o o' r r'→Up a o o' (p::r) (p::r')
theorem Up.mem{a:Addr}{o o':Obj}{l l':List (Addr×Obj)}(h:Up a o o' l l'):(a,o)∈l:=by
 induction h with
 |here=>exact .head _
 |there _ ih=>exact .tail _ ih
theorem Up.names{a:Addr}{o o':Obj}{l l':List (Addr×Obj)}(h:Up a o o' l l'):l'.map (·.1)=l.map (·.1):=by
 induction h with
 |here=>rfl
 |there _ ih=>rw[List.map_cons,List.map_cons,ih]
theorem Up.or{a:Addr}{o o':Obj}{l l':List (Addr×Obj)}(h:Up a o o' l l')(hn:(l.map (·.1)).Nodup):∀p∈l',p=(a,o')∨(p∈l∧p.1≠a):=by
 induction h with
 |@here r=>
  rw[List.map_cons,List.nodup_cons]at hn;intro p hp;rcases List.mem_cons.mp hp with e|hp
  ·exact .inl e
  ·exact .inr ⟨.tail _ hp,fun e=>hn.1 (e▸List.mem_map_of_mem (f:=(·.1)) hp)⟩
 |@there q r r' hu ih=>
  rw[List.map_cons,List.nodup_cons]at hn;intro p hp;rcases List.mem_cons.mp hp with e|hp
  ·subst e;exact .inr ⟨.head _,fun e=>hn.1 (e▸List.mem_map_of_mem (f:=(·.1)) hu.mem)⟩
  ·rcases ih hn.2 p hp with e|⟨h1,h2⟩
   ·exact .inl e
   ·exact .inr ⟨.tail _ h1,h2⟩
structure EnvOk(env:Env)(vs:Vs):Prop where
 fn:env.scope.kind=.function
 gl:env.globals=mainGlobals
 bi:env.builtins=builtinsNs
 ap:env.cells.Pairwise fun x y=>x.2≠y.2
 cn:(env.cells.map (·.1)).Nodup
 cl:∀x c,(x,c)∈env.cells→env.kindOf x≠some .local
 ne:∀x c,(x,c)∈env.cells→c≠env.locals
 kd:∀x∈vs.map (·.1),(x==("__debug__" :Str))=false∧(env.kindOf x=some .local∨(env.kindOf x=some .cell∧∃c,env.cells.lookup x=some c))
 nd:(vs.map (·.1)).Nodup
theorem EnvOk.same{env:Env}{vs vs':Vs}(E:EnvOk env vs)(h:vs'.map (·.1)=vs.map (·.1)):EnvOk env vs':=⟨E.fn,E.gl,E.bi,E.ap,E.cn,E.cl,E.ne,by rw[h];exact E.kd,by rw[h];exact E.nd⟩
structure Fm(env:Env)(vs:Vs)(h:Heap):Prop where
 loc:∃ml,h.Ns env.locals ml∧∀x,env.kindOf x=some .local→ml x=lk vs x
 cel:∀x c,env.cells.lookup x=some c→h.IsCell c (lk vs x)
structure St(K:GH)(r:Shared)(own:Str→Bool)(G:GH)(env:Env)(vs:Vs)(led:List (Addr×Obj))(s:Shared):Prop where
 same:∃h t,s={r with heap:=h,toks:=t}
 base:GLe K G
 sub:∀a o,G a=some o→s.heap.get? a=some o
 eo:EnvOk env vs
 fm:Fm env vs s.heap
 gl:G env.locals=none
 gc:∀x c,(x,c)∈env.cells→(own x=true∧G c=none)∨(own x=false∧∃o,G c=some o)
 ld:∀p∈led,s.heap.get? p.1=some p.2∧G p.1=none∧p.1≠env.locals∧∀x c,(x,c)∈env.cells→p.1≠c
 nd:(led.map (·.1)).Nodup
section
variable{K:GH}{r:Shared}{own:Str→Bool}{G:GH}{env:Env}{vs vs':Vs}{led led':List (Addr×Obj)}{s:Shared}
theorem St.there(S:St K r own G env vs led s):∃o,s.heap.get? env.locals=some o:=by
 obtain⟨ml,nq1,_⟩:=S.fm.loc;obtain⟨o,_,_,ho,_⟩:=nq1;exact⟨o,ho⟩
theorem lookup_of_mem{α:Type}{l:List (Str×α)}(hn:(l.map (·.1)).Nodup){x:Str}{c:α}(h:(x,c)∈l):l.lookup x=some c:=by
 induction l with
 |nil=>cases h
 |cons p q ih=>
  rw[List.map_cons,List.nodup_cons]at hn;obtain⟨n,d⟩:=p;rw[List.lookup_cons];rcases List.mem_cons.mp h with e|h
  ·cases e;simp
  ·have:x≠n:=fun e=>hn.1 (e▸List.mem_map_of_mem (f:=(·.1)) h);rw[beq_false_of_ne this];exact ih hn.2 h
theorem St.cell(S:St K r own G env vs led s){x:Str}{c:Addr}(h:(x,c)∈env.cells):s.heap.IsCell c (lk vs x):=S.fm.cel x c (lookup_of_mem S.eo.cn h)
theorem St.cthere(S:St K r own G env vs led s){x:Str}{c:Addr}(h:(x,c)∈env.cells):∃o,s.heap.get? c=some o:=let⟨o,ho,_⟩:=S.cell h;⟨o,ho⟩
theorem St.keep(S:St K r own G env vs led s){h':Heap}{t:Nat}(hk:∀b o,s.heap.get? b=some o→h'.get? b=some o):St K r own G env vs led {s with heap:=h',toks:=t}:=by
 obtain⟨nq2,base,sub,eo,fm,gl,gc,ld,nd⟩:=S;obtain⟨h0,t0,hs⟩:=nq2;refine⟨⟨h',t,by rw[hs]⟩,base,fun a o e=>hk a o (sub a o e),eo,⟨?_,fun x c hc=>(fm.cel x c hc).keeps hk⟩,gl,gc,fun p hp=>⟨hk _ _ (ld p hp).1,(ld p hp).2⟩,nd⟩;refine x1_1 fm.loc fun ml h1 h2=>?_;exact⟨ml,h1.keeps hk,h2⟩
theorem St.tok(S:St K r own G env vs led s)(t:Nat):St K r own G env vs led {s with toks:=t}:=S.keep fun _ _ e=>e
theorem St.new(S:St K r own G env vs led s){h':Heap}{t:Nat}{a:Addr}{o:Obj}(hk:∀b o,s.heap.get? b=some o→h'.get? b=some o)(hn:s.heap.get? a=none)(ha:h'.get? a=some o):
 St K r own G env vs ((a,o)::led) {s with heap:=h',toks:=t}:=by
 have S':=S.keep (t:=t) hk;refine⟨S'.same,S'.base,S'.sub,S'.eo,S'.fm,S'.gl,S'.gc,?_,?_⟩
 ·intro p hp;rcases List.mem_cons.mp hp with rfl|hp
  ·refine⟨ha,?_,?_,fun x c hc e=>?_⟩
   ·cases q:G a with
    |none=>rfl
    |some o'=>exact absurd (S.sub a o' q) (by rw[hn];simp)
   ·intro e;obtain⟨o',ho'⟩:=S.there;have e':a=env.locals:=e;rw[←e',hn]at ho';cases ho'
   ·obtain⟨o',ho'⟩:=S.cthere hc;have e':a=c:=e;rw[←e',hn]at ho';cases ho'
  ·exact S'.ld p hp
 ·rw[List.map_cons,List.nodup_cons];refine⟨fun hm=>?_,S'.nd⟩;refine x1_1 (List.mem_map.mp hm) fun p hp e=>?_;have:=(S.ld p hp).1;have e':p.1=a:=e;rw[e',hn]at this;cases this
theorem get_size_none(h:Heap):h.get? h.objs.size=none:=by
 cases q:h.get? h.objs.size with
 |none=>rfl
 |some o=>exact absurd (Heap.lt_size q) (Nat.lt_irrefl _)
theorem St.push(S:St K r own G env vs led s)(o:Obj)(t:Nat)(hf:o.isFreed=false:=by rfl):St K r own G env vs ((s.heap.objs.size,o)::led) {s with heap:=s.heap.push o,toks:=t}:=
 S.new (fun _ _ e=>Heap.get?_push_of_some _ e) (get_size_none _) (Heap.get?_push_size _ hf)
theorem St.up(S:St K r own G env vs led s){h':Heap}{t:Nat}{a:Addr}{o o':Obj}(U:Up a o o' led led')(hs:Heap.SameBut a s.heap h')(ha:h'.get? a=some o'):
 St K r own G env vs led' {s with heap:=h',toks:=t}:=by
 obtain⟨nq3,base,sub,eo,fm,gl,gc,ld,nd⟩:=S;obtain⟨h0,t0,hs0⟩:=nq3;have A:=ld _ U.mem;have hne:∀b o,G b=some o→b≠a:=fun b o e z=>by rw[z,A.2.1]at e;cases e
 refine⟨⟨h',t,by rw[hs0]⟩,base,fun b ob e=>(hs.2 b (hne b ob e)).trans (sub b ob e),eo,⟨?_,fun x c hc=>(fm.cel x c hc).sameBut hs fun e=>A.2.2.2 x c (mem_of_lookup hc) e.symm⟩,gl,gc,?_,by rw[U.names];exact nd⟩
 ·refine x1_1 fm.loc fun ml h1 h2=>?_;exact⟨ml,h1.sameBut hs (Ne.symm A.2.2.1),h2⟩
 ·intro p hp;rcases U.or nd p hp with rfl|⟨hp,hn⟩
  ·exact⟨ha,A.2⟩
  ·exact⟨(hs.2 _ hn).trans (ld p hp).1,(ld p hp).2⟩
theorem St.get(S:St K r own G env vs led s){a:Addr}{o:Obj}(h:(a,o)∈led):s.heap.get? a=some o:=(S.ld _ h).1
theorem St.at(S:St K r own G env vs led s){a:Addr}{o:Obj}(h:G a=some o):s.heap.get? a=some o:=S.sub a o h
theorem St.atK(S:St K r own G env vs led s){a:Addr}{o:Obj}(h:K a=some o):s.heap.get? a=some o:=S.sub a o (S.base a o h)
section
variable{prog:Program}{w:World}{A:Around}{E:Value→Shared→Prop}
theorem St.load(S:St K r own G env vs led s){x:Str}{v:Value}{Q:Value→Shared→Prop}(hx:(x,some v)∈vs)(k:Q v s):wpAny (model prog w) A (loadName env x) Q E s:=by
 have hl:=lk_mem S.eo.nd hx;rcases(S.eo.kd x (List.mem_map_of_mem (f:=(·.1)) hx)).2 with hk|⟨hk,c,hc⟩
 ·refine x1_1 S.fm.loc fun ml h1 h2=>?_;exact wpAny_loadName_local S.eo.fn hk h1 ((h2 x hk).trans hl) k
 ·exact wpAny_loadName_cell S.eo.fn hk hc (hl▸S.fm.cel x c hc) k
theorem St.name(S:St K r own G env vs led s){x:Str}{v:Value}{pos:Pos}{Q:Value→Shared→Prop}(hx:(x,some v)∈vs)(k:Q v s):wpAny (model prog w) A (eval (.Name x pos) env) Q E s:=
 wpAny_Name (S.load hx k) (S.eo.kd x (List.mem_map_of_mem (f:=(·.1)) hx)).1
theorem St.store(S:St K r own G env vs led s){x:Str}{v:Value}{Q:Unit→Shared→Prop}(U:Pv x (some v) vs vs')(ho:own x=true∨env.kindOf x=some .local)
 (k:∀s',St K r own G env vs' led s'→Q () s'):wpAny (model prog w) A (storeName env x v) Q E s:=by
 obtain⟨v0,hm⟩:=U.mem;have hx:x∈vs.map (·.1):=List.mem_map_of_mem (f:=(·.1)) hm;obtain⟨nq4,base,sub,eo,fm,gl,gc,ld,nd⟩:=S;obtain⟨h0,t0,hs0⟩:=nq4;have key:∀{h':Heap} {t:Nat} {c:Addr},(c=env.locals∨∃y,(y,c)∈env.cells)→G c=none→Heap.SameBut c s.heap h'→Fm env vs' h'→St K r own G env vs' led {s with heap:=h',toks:=t}:=by
  intro h' t c hc hg hsb fm';refine⟨⟨h',t,by rw[hs0]⟩,base,fun b ob e=>(hsb.2 b fun z=>by rw[z,hg]at e;cases e).trans (sub b ob e),eo.same U.names,fm',gl,gc,fun p hp=>?_,nd⟩;have P:=ld p hp;refine⟨(hsb.2 _ ?_).trans P.1,P.2⟩;rcases hc with rfl|⟨y,hy⟩
  ·exact P.2.2.1
  ·exact P.2.2.2 y c hy
 rcases(eo.kd x hx).2 with hk|⟨hk,c,hc⟩
 ·refine x1_1 fm.loc fun ml h1 h2=>?_;refine wpAny_storeName_local hk h1 (fun h' hn hsb=>k _ (key (.inl rfl) gl hsb ⟨⟨_,hn,fun y hy=>?_⟩,fun y c hc=>?_⟩)) (by rw[eo.fn];rfl)
  ·rw[U.lk eo.nd];split
   ·rfl
   ·exact h2 y hy
  ·have hyx:y≠x:=by
    intro nq5;subst nq5;exact eo.cl _ _ (mem_of_lookup hc) hk
   rw[U.lk eo.nd,if_neg hyx];exact(fm.cel y c hc).sameBut hsb (eo.ne y c (mem_of_lookup hc))
 ·have hm':=mem_of_lookup hc;have hg:own x=true∧G c=none:=by
   rcases gc x c hm' with h|⟨h,_⟩
   ·exact h
   ·rcases ho with h1|h1
    ·rw[h1]at h;cases h
    ·rw[hk]at h1;cases h1
  refine wpAny_storeName_cell eo.fn hk hc (fm.cel x c hc) fun h' hc' hsb=>k _ (key (t:=s.toks) (.inr ⟨x,hm'⟩) hg.2 hsb ⟨?_,fun y c' hy=>?_⟩)
  ·refine x1_1 fm.loc fun ml h1 h2=>?_;refine⟨ml,h1.sameBut hsb (Ne.symm (eo.ne x c hm')),fun y hy=>?_⟩;have:y≠x:=by rintro rfl;rw[hk]at hy;cases hy
   rw[U.lk eo.nd,if_neg this];exact h2 y hy
  ·rw[U.lk eo.nd]
   split
   ·rename_i e;subst e;rw[hc]at hy;cases hy;exact hc'
   ·rename_i e;exact(fm.cel y c' hy).sameBut hsb fun z=>e (name_of_addr eo.ap (mem_of_lookup hy) (z▸hm'))
noncomputable def frz(own:Str→Bool)(env:Env)(led:List (Addr×Obj))(h:Heap):GH:=fun b=>
 open Classical in if b=env.locals∨(∃x,own x=true∧(x,b)∈env.cells)∨b∈led.map (·.1)then none else h.get? b
theorem St.frz(S:St K r own G env vs led s):St K r own (frz own env led s.heap) env vs led s∧GLe G (Mine.frz own env led s.heap):=by
 have le:GLe G (Mine.frz own env led s.heap):=by
  intro a o e;unfold Mine.frz;rw[if_neg]
  ·exact S.sub a o e
  ·rintro (h|⟨x,h1,hx⟩|h)
   ·rw[h,S.gl]at e;cases e
   ·rcases S.gc x a hx with⟨_,h⟩|⟨h,_⟩
    ·rw[h]at e;cases e
    ·rw[h]at h1;cases h1
   ·refine x1_1 (List.mem_map.mp h) fun p hp eq2=>?_;subst eq2;rw[(S.ld p hp).2.1]at e;cases e
 refine⟨⟨S.same,S.base.trans le,fun a o e=>?_,S.eo,S.fm,?_,fun x c hc=>?_,fun p hp=>⟨(S.ld p hp).1,?_,(S.ld p hp).2.2⟩,S.nd⟩,le⟩
 ·unfold Mine.frz at e
  split at e
  ·cases e
  ·exact e
 ·unfold Mine.frz;rw[if_pos (.inl rfl)]
 ·rcases S.gc x c hc with⟨h,_⟩|⟨h,o,ho⟩
  ·left;refine⟨h,?_⟩;unfold Mine.frz;rw[if_pos (.inr (.inl ⟨x,h,hc⟩))]
  ·exact .inr ⟨h,o,le c o ho⟩
 ·unfold Mine.frz;rw[if_pos (.inr (.inr (List.mem_map_of_mem (f:=(·.1)) hp)))]
theorem frz_at{h:Heap}{a:Addr}{o:Obj}(e:h.get? a=some o)(h1:a≠env.locals)(h2:∀x,own x=true→(x,a)∉env.cells)(h3:a∉led.map (·.1)):frz own env led h a=some o:=by
 unfold frz;rw[if_neg]
 ·exact e
 ·rintro (h|⟨x,y,z⟩|h)
  ·exact h1 h
  ·exact h2 x y z
  ·exact h3 h
theorem St.ice(S:St K r own G env vs ((a,o)::led) s):∃G',St K r own G' env vs led s∧GLe G G'∧G' a=some o:=by
 have S0:St K r own G env vs led s:=⟨S.same,S.base,S.sub,S.eo,S.fm,S.gl,S.gc,fun p hp=>S.ld p (.tail _ hp),(List.nodup_cons.mp S.nd).2⟩;have P:=S.ld (a,o) (.head _);refine⟨_,S0.frz.1,S0.frz.2,frz_at P.1 P.2.2.1 (fun x _ hm=>P.2.2.2 x a hm rfl) (List.nodup_cons.mp S.nd).1⟩
theorem St.drop(S:St K r own G env vs (p::led) s):St K r own G env vs led s:=⟨S.same,S.base,S.sub,S.eo,S.fm,S.gl,S.gc,fun p hp=>S.ld p (.tail _ hp),(List.nodup_cons.mp S.nd).2⟩
end
end
end
section
section
set_option bootstrap.genMatcherCode false
set_option genSizeOf false
inductive Li where
 |v (i:Nat)|n (k:Nat)|p (e f:Li)|m (k:Nat) (e:Li)
noncomputable def lgt:List Nat→Nat→Nat
 |[],_=>0
 |a::_,0=>a
 |_::r,i+1=>lgt r i
noncomputable def ldn(x:List Nat):Li→Nat
 | .v i=>lgt x i
 | .n k=>k
 | .p e f=>ldn x e+ldn x f
 | .m k e=>k*ldn x e
noncomputable def lad:List Nat→List Nat→List Nat
 |[],s=>s
 |a::r,[]=>a::r
 |a::r,b::s=>(a+b)::lad r s
noncomputable def lun:Nat→List Nat
 |0=>[1]
 |i+1=>0::lun i
noncomputable def lco:Li→List Nat
 | .v i=>0::lun i
 | .n k=>[k]
 | .p e f=>lad (lco e) (lco f)
 | .m k e=>(lco e).map (k *·)
noncomputable def ldt:List Nat→List Nat→Nat
 |a::r,b::s=>a*b+ldt r s
 |_,_=>0
theorem ldt_nil(l:List Nat):ldt l []=0:=by cases l<;>rfl
theorem ldt_ad(l:List Nat):∀r x,ldt (lad l r) x=ldt l x+ldt r x:=by
 induction l with
 |nil=>intro r x;show ldt r x=0+_;rw[Nat.zero_add]
 |cons a l ih=>
  intro r x;cases r with
  |nil=>cases x<;>rfl
  |cons b r=>
   cases x with
   |nil=>rfl
   |cons y x=>show(a+b)*y+ldt (lad l r) x=(a*y+ldt l x)+(b*y+ldt r x);rw[ih,Nat.add_mul];exact Nat.add_add_add_comm ..
theorem ldt_sm(k:Nat)(l:List Nat):∀x,ldt (l.map (k *·)) x=k*ldt l x:=by
 induction l with
 |nil=>intro x;rfl
 |cons a l ih=>
  intro x;cases x with
  |nil=>rfl
  |cons y x=>show k*a*y+ldt (l.map (k *·)) x=k*(a*y+ldt l x);rw[ih,Nat.mul_add,Nat.mul_assoc]
theorem ldt_un(i:Nat):∀x,ldt (lun i) x=lgt x i:=by
 induction i with
 |zero=>
  intro x;cases x with
  |nil=>rfl
  |cons y x=>show 1*y+0=y;rw[Nat.one_mul,Nat.add_zero]
 |succ i ih=>
  intro x;cases x with
  |nil=>rfl
  |cons y x=>show 0*y+ldt (lun i) x=lgt x i;rw[ih,Nat.zero_mul,Nat.zero_add]
theorem ldt_co(x:List Nat)(e:Li):ldt (lco e) (1::x)=ldn x e:=by
 induction e with
 |v i=>show 0*1+ldt (lun i) x=lgt x i;rw[ldt_un,Nat.zero_mul,Nat.zero_add]
 |n k=>show k*1+0=k;rw[Nat.mul_one,Nat.add_zero]
 |p e f h1 h2=>show ldt (lad _ _) _=ldn x e+ldn x f;rw[ldt_ad,h1,h2]
 |m k e h=>show ldt ((lco e).map _) _=k*ldn x e;rw[ldt_sm,h]
noncomputable abbrev LC:=Nat×Nat×Nat×Li×Li
noncomputable abbrev lrl:Nat→Nat→Nat→Prop
 |0,a,b=>a≤b
 |1,a,b=>a<b
 |2,a,b=>a=b
 |3,a,b=>¬a<b
 |4,a,b=>¬a≤b
 |_,_,_=>False
noncomputable def lab:Nat→Li→Li→Li×Li
 |0,e,f=>(e,f)
 |1,e,f=>(.p e (.n 1),f)
 |2,e,f=>(e,f)
 |3,e,f=>(f,e)
 |4,e,f=>(.p f (.n 1),e)
 |_,_,_=>(.n 0,.n 0)
theorem lab_le{r:Nat}{e f:Li}{x:List Nat}(h:lrl r (ldn x e) (ldn x f)):ldn x (lab r e f).1≤ldn x (lab r e f).2:=
 match r,h with
 |0,h=>h
 |1,h=>h
 |2,h=>Nat.le_of_eq h
 |3,h=>Nat.le_of_not_lt h
 |4,h=>Nat.lt_of_not_le h
noncomputable def lsum:List LC→Li×Li
 |[]=>(.n 0,.n 0)
 |(k,k',r,e,f)::l=>bif r==2 then(.p (.p (.m k e) (.m k' f)) (lsum l).1,.p (.p (.m k f) (.m k' e)) (lsum l).2)else(.p (.m k (lab r e f).1) (lsum l).1,.p (.m k (lab r e f).2) (lsum l).2)
theorem lsum_le{x:List Nat}{c:LC}{l:List LC}(h:lrl c.2.2.1 (ldn x c.2.2.2.1) (ldn x c.2.2.2.2))(hl:ldn x (lsum l).1≤ldn x (lsum l).2):ldn x (lsum (c::l)).1≤ldn x (lsum (c::l)).2:=by
 obtain⟨k,k',r,e,f⟩:=c;unfold lsum;cases hr:r==2 with
 |true=>
  have:r=2:=beq_iff_eq.mp hr;subst this;have h:ldn x e=ldn x f:=h;show k*ldn x e+k'*ldn x f+_≤k*ldn x f+k'*ldn x e+_;rw[h];exact Nat.add_le_add_left hl _
 |false=>exact Nat.add_le_add (Nat.mul_le_mul_left k (lab_le h)) hl
noncomputable def lge:List Nat→List Nat→Bool
 |a::r,b::s=>Nat.ble a b&&lge r s
 |[],_=>true
 |a::r,[]=>Nat.ble a 0&&lge r []
theorem lge_le(l:List Nat):∀r x,lge l r=true→ldt l x≤ldt r x:=by
 induction l with
 |nil=>intro r x h;exact Nat.zero_le _
 |cons a l ih=>
  intro r x h;cases x with
  |nil=>rw[ldt_nil,ldt_nil];exact Nat.le_refl 0
  |cons y x=>
   cases r with
   |nil=>
    obtain⟨h1,h2⟩:=Bool.and_eq_true_iff.mp h;have:=ih [] x h2;have e:a=0:=Nat.le_zero.mp (Nat.le_of_ble_eq_true h1);show a*y+ldt l x≤0;rw[e,Nat.zero_mul,Nat.zero_add];exact this
   |cons b r=>
    obtain⟨h1,h2⟩:=Bool.and_eq_true_iff.mp h;exact Nat.add_le_add (Nat.mul_le_mul_right _ (Nat.le_of_ble_eq_true h1)) (ih r x h2)
noncomputable def lng:Nat×Nat×Li×Li→LC
 |(k,0,e,f)=>(k,0,1,f,e)
 |(k,1,e,f)=>(k,0,0,f,e)
 |(k,3,e,f)=>(k,0,1,e,f)
 |(k,4,e,f)=>(k,0,0,e,f)
 |(k,_,e,f)=>(k,0,3,e,e)
theorem lng_of{x:List Nat}{k:Nat}{e f:Li}:∀{r:Nat},(lrl (lng (k,r,e,f)).2.2.1 (ldn x (lng (k,r,e,f)).2.2.2.1) (ldn x (lng (k,r,e,f)).2.2.2.2)→False)→r≠2→lrl r (ldn x e) (ldn x f)
 |0,h,_=>Nat.le_of_not_lt h
 |1,h,_=>Nat.lt_of_not_le h
 |2,_,h=>absurd rfl h
 |3,h,_=>h
 |4,h,_=>h
 |_+5,h,_=>h (Nat.lt_irrefl _)
noncomputable def lds(x:List Nat)(g:Nat×Nat×Li×Li):List LC→Prop
 |[]=>lrl g.2.1 (ldn x g.2.2.1) (ldn x g.2.2.2)
 |c::l=>lrl c.2.2.1 (ldn x c.2.2.2.1) (ldn x c.2.2.2.2)→lds x g l
theorem lds_of{x:List Nat}{g:Nat×Nat×Li×Li}(l:List LC):(ldn x (lsum l).1≤ldn x (lsum l).2→lrl g.2.1 (ldn x g.2.2.1) (ldn x g.2.2.2))→lds x g l:=by
 induction l with
 |nil=>exact fun F=>F (Nat.le_refl 0)
 |cons c l ih=>exact fun F hc=>ih fun hl=>F (lsum_le hc hl)
noncomputable def lck(r:Nat)(s:Li×Li):Bool:=lge (lco (.p (.n 1) s.2)) (lco s.1)&& !(r==2)
theorem lin(x:List Nat)(g:Nat×Nat×Li×Li)(l:List LC)(h:lck g.2.1 (lsum (lng g::l))=true):lds x g l:=by
 obtain⟨h1,h2⟩:=Bool.and_eq_true_iff.mp h;refine lds_of l fun hl=>lng_of (k:=g.1) (fun hn=>?_) fun e=>by rw[e]at h2;cases h2
 have h3:=lge_le _ _ (1::x) h1;rw[ldt_co,ldt_co]at h3;have h4:1+ldn x (lsum (lng g::l)).2≤ldn x (lsum (lng g::l)).2:=Nat.le_trans h3 (lsum_le hn hl);rw[Nat.add_comm]at h4;exact Nat.not_succ_le_self _ h4
theorem lsu(x y:Nat):x≤x-y+y:=Nat.sub_le_iff_le_add.mp (Nat.le_refl _)
theorem ldl(x:Nat):2*(x/2)≤x:=Nat.mul_div_le x 2
theorem ldu(x:Nat):x<2*(x/2)+2:=Nat.lt_mul_div_succ x (by decide)
theorem lsb{x y:Nat}{G:Prop}(h:x-y+y=x→G)(h':x≤y→x-y=0→G):G:=by
 by_cases e:x≤y
 ·exact h' e (Nat.sub_eq_zero_of_le e)
 ·exact h (Nat.sub_add_cancel (Nat.le_of_lt (Nat.lt_of_not_le e)))
theorem lmn{x y:Nat}{G:Prop}(h:x≤y→min x y=x→G)(h':y≤x→min x y=y→G):G:=
 (Nat.le_total x y).elim (fun e=>h e (Nat.min_eq_left e)) (fun e=>h' e (Nat.min_eq_right e))
noncomputable def X0:Li:=.v 0
noncomputable def X1:Li:=.v 1
noncomputable def X2:Li:=.v 2
noncomputable def X3:Li:=.v 3
noncomputable def X4:Li:=.v 4
noncomputable def X5:Li:=.v 5
noncomputable def X6:Li:=.v 6
noncomputable def X7:Li:=.v 7
noncomputable def X8:Li:=.v 8
noncomputable def X9:Li:=.v 9
noncomputable def X10:Li:=.v 10
noncomputable def X11:Li:=.v 11
noncomputable def ln(k:Nat):Li:=.n k
noncomputable def lp(e f:Li):Li:=.p e f
noncomputable def U0(e f:Li):LC:=(1,0,0,e,f)
noncomputable def U1(e f:Li):LC:=(1,0,1,e,f)
noncomputable def U2(e f:Li):LC:=(1,0,2,e,f)
noncomputable def U3(e f:Li):LC:=(0,1,2,e,f)
noncomputable def V0(e f:Li):Nat×Nat×Li×Li:=(1,0,e,f)
noncomputable def V1(e f:Li):Nat×Nat×Li×Li:=(1,1,e,f)
noncomputable def lf:Nat×Nat×Li×Li:=(0,5,X0,X0)
end
section
variable{a0 a1 a2 a3 a4 a5 a6 a7 a8 a9 a10:Nat}{i0 i1 i2 i3 i4 i5 i6 i7 i8 i9 i10:Int}
theorem J0:(-2^62:Int)≤0:=Int.neg_ofNat_le_ofNat (2^62) 0
theorem J1:(0:Int)<2^62:=Int.sign_eq_one_iff_pos.mp rfl
theorem J2:(0:Int)<2^63:=Int.sign_eq_one_iff_pos.mp rfl
theorem J3:(0:Int)≤0:=Int.zero_le_ofNat 0
theorem J4:0<1:=Nat.one_pos
theorem J5:0<2:=Nat.zero_lt_two
theorem J6:1<100000:=Nat.one_lt_succ_succ 99998
theorem J7:1≤41:=Nat.le_of_ble_eq_true rfl
theorem J8:16≤40:=lin [] (V0 (ln 16) (ln 40)) [] rfl
theorem J9:3≤6*0+6:=Nat.le_add_left 3 3
theorem J10:4≤6*0+6:=Nat.le_add_left 4 2
theorem J11:8≤40:=Nat.le_of_ble_eq_true rfl
theorem J12:9≤40:=Nat.le_of_ble_eq_true rfl
theorem J13:((a0+(0+1):Nat):Int)-1=(a0:Int)-1+1:=by lia
theorem J14:((a0+(0+1):Nat):Int)=(a0:Int)+1:=Nat.ToInt.add_congr rfl rfl
theorem J15:((a0+0:Nat):Int)-0=(a0:Int):=Int.sub_zero ↑(a0+0)
theorem J16:((a0+1:Nat):Int)-1=(a0:Int):=Int.sub_eq_iff_eq_add.mpr rfl
theorem J17:((a0+1:Nat):Int)=(a0:Int)+1:=J14
theorem J18:(2*a0+1-1)/2=a0:=Nat.le_antisymm (lin [a0,(2*a0+1-1)/2,2*a0+1-1] (2,0,X1,X0) [U0 (.m 2 X1) X2,U0 X2 (lp (.m 2 X0) (ln 1))] rfl (ldl (2*a0+1-1)) (Nat.sub_le (2*a0+1) 1)) (lin [a0,2*a0+1-1,(2*a0+1-1)/2] (2,0,X0,X2) [U1 X1 (lp (.m 2 X2) (ln 2)),U0 (lp (.m 2 X0) (ln 1)) (lp X1 (ln 1))] rfl (ldu (2*a0+1-1)) (lsu (2*a0+1) 1))
theorem J19:(2*a0+2-1)/2=a0:=Nat.le_antisymm (lsb (x:=2*a0+2) (y:=1) (lin [a0,(2*a0+2-1)/2,2*a0+2-1] (2,0,X1,X0) [U0 (.m 2 X1) X2,U2 (lp X2 (ln 1)) (lp (.m 2 X0) (ln 2))] rfl (ldl (2*a0+2-1))) (lin [a0,2*a0+2-1,(2*a0+2-1)/2] (0,0,X2,X0) [U0 (lp (.m 2 X0) (ln 2)) (ln 1),(0,0,2,X1,ln 0)] rfl)) (lin [a0,2*a0+2-1,(2*a0+2-1)/2] (2,0,X0,X2) [U1 X1 (lp (.m 2 X2) (ln 2)),U0 (lp (.m 2 X0) (ln 2)) (lp X1 (ln 1))] rfl (ldu (2*a0+2-1)) (lsu (2*a0+2) 1))
theorem J20:(a0:Int)-(a0:Int)≤0:=by lia
theorem J21:0+(a0:Int)*1=(a0:Int):=by lia
theorem J22:0+a0≤a0:=lin [a0] (V0 (lp (ln 0) X0) X0) [] rfl
theorem J23:0<0+1+a0:=Nat.pos_of_neZero (0+1+a0)
theorem J24:0<2*a0+1:=Nat.zero_lt_succ (2*a0)
theorem J25:0<2*a0+2:=Nat.zero_lt_succ (2*a0+1)
theorem J26:0<a0+1:=Nat.zero_lt_succ a0
theorem J27:0≤((2*a0+1:Nat):Int):=Int.natCast_nonneg (2*a0+1)
theorem J28:0≤((2*a0+1:Nat):Int)+1:=Int.zero_le_ofNat (2*a0+1+1)
theorem J29:0≤(a0:Int):=Int.natCast_nonneg a0
theorem J30:0≤(a0:Int)+1:=Int.zero_le_ofNat (a0+1)
theorem J31:0≤a0:=Nat.zero_le a0
theorem J32:0≤a0+1:=J31
theorem J33:1+(a0:Int)*1=((a0+1:Nat):Int):=by lia
theorem J34:1≤(a0:Int)+1:=Int.ofNat_le.mpr (lin [a0] (V0 (ln 1) (lp X0 (ln 1))) [] rfl)
theorem J35:1≤a0+1:=Nat.le_add_left 1 a0
theorem J36:3<0+1+1+1+1+1+a0:=by lia
theorem J37:5≤6*(a0+1)+6:=Nat.le_add_left 5 (6*(a0+1)+1)
theorem J38:Int.toNat (((2*a0+1:Nat):Int)+1)=2*a0+2:=Int.toNat_natCast_add_one
theorem J39:Int.toNat ((a0:Int)+1)=a0+1:=Int.toNat_natCast_add_one
theorem J40:Int.toNat (-1+((a0:Int)+1))=a0:=congrArg Int.toNat ((Int.add_comm _ _).trans (Int.add_neg_cancel_right a0 1))
theorem J41:a0+0≤a0:=Nat.le_refl (a0+0)
theorem J42:a0+1<a0+1+1:=Nat.lt_add_one (a0+1)
theorem J43:a0-(a0-1+1)=0:=Nat.le_antisymm (lsb (x:=a0) (y:=a0-1+1) (lin [a0,a0-1,a0-(a0-1+1)] (V0 X2 (ln 0)) [U0 X0 (lp X1 (ln 1)),U2 (lp X2 (lp X1 (ln 1))) X0] rfl (lsu a0 1)) (lin [a0,a0-1,a0-(a0-1+1)] (V0 X2 (ln 0)) [(0,0,0,X0,lp X1 (ln 1)),U2 X2 (ln 0)] rfl)) (lin [a0,a0-(a0-1+1)] (V0 (ln 0) X1) [] rfl)
theorem J44:a0-0<a0+1:=Nat.sub_lt_succ a0 0
theorem J45:a0-0≤a0:=J41
theorem J46:a0<2*a0+1:=lin [a0] (V1 X0 (lp (.m 2 X0) (ln 1))) [] rfl
theorem J47:a0<2*a0+2:=lin [a0] (V1 X0 (lp (.m 2 X0) (ln 2))) [] rfl
theorem J48:a0<a0+1:=Nat.lt_add_one a0
theorem J49:a0≠2*a0+1:=lin [a0] lf [U3 X0 (lp (.m 2 X0) (ln 1))] rfl
theorem J50:a0≠2*a0+2:=lin [a0] lf [U3 X0 (lp (.m 2 X0) (ln 2))] rfl
theorem J51:a0≤0+a0:=Nat.le_add_left a0 0
theorem J52:a0≤a0+0:=J41
theorem J53:a0≤a0+1:=Nat.le_add_right a0 1
theorem J54:max 0 (min (-1+(a0:Int)) (a0:Int))=((a0-1:Nat):Int):=by
 cases a0 with
 |zero=>rfl
 |succ n=>rw[show(-1:Int)+((n+1:Nat):Int)=n from(Int.add_comm _ _).trans (Int.add_neg_cancel_right n 1),Int.min_eq_left (Int.ofNat_le.mpr (Nat.le_succ n)),Int.max_eq_right (Int.natCast_nonneg n)];rfl
theorem J55:¬(a0+1<a0):=Nat.not_succ_lt_self
theorem J56:¬(a0<0):=Nat.not_lt_zero a0
theorem J57:i0+ -1=i0-1:=Int.add_neg_one i0
theorem J58:i0-1=i0+ -1:=Int.sub_eq_add_neg
theorem J59:0<a0→a0=a0-1+1:=by lia
theorem J60:0<a0→a0≠(a0-1)/2:=lin [a0,(a0-1)/2,a0-1] lf [U0 (.m 2 X1) X2,U0 X2 X0,U1 (ln 0) X0,(2,0,2,X0,X1)] rfl (ldl (a0-1)) (Nat.sub_le a0 1)
theorem J61:1≤a0→0+1+(a0-1)=a0:=fun h1=>Nat.add_sub_of_le h1
theorem J62:1≤a0→a0-1+1=a0:=fun h1=>Eq.symm (J59 h1)
theorem J63:1≤a0→a0-1<a0:=fun h1=>Nat.sub_one_lt_of_lt h1
theorem J64:1≤a0→a0=a0-1+1:=fun h1=>J59 h1
theorem J65:1≤a0+1+1:=J35
theorem J66:2≤a0→(a0:Int)-1≠0:=by intros;omega
theorem J67:2≤a0→1+(a0-2)=a0-1:=fun h1=>Nat.le_antisymm (lsb (x:=a0) (y:=2) (lin [a0,a0-1,a0-2] (V0 (lp (ln 1) X2) X1) [U0 X0 (lp X1 (ln 1)),U2 (lp X2 (ln 2)) X0,(0,0,0,ln 2,X0)] rfl (lsu a0 1)) (lin [a0,a0-1,a0-2] (V0 (lp (ln 1) X2) X1) [U0 X0 (lp X1 (ln 1)),(0,0,0,X0,ln 2),U2 X2 (ln 0),U0 (ln 2) X0] rfl (lsu a0 1)) h1) (lsb (x:=a0) (y:=1) (lin [a0,a0-2,a0-1] (V0 X2 (lp (ln 1) X1)) [U0 X0 (lp X1 (ln 2)),U2 (lp X2 (ln 1)) X0,(0,0,0,ln 2,X0)] rfl (lsu a0 2)) (lin [a0,a0-1,a0-2] (0,0,X1,lp (ln 1) X2) [U0 X0 (ln 1),(0,0,2,X1,ln 0),U0 (ln 2) X0] rfl) h1)
theorem J68:a0+1-2=a0-1:=by lia
theorem J69:2≤a0→a0=a0-2+2:=fun h1=>(Nat.sub_eq_iff_eq_add h1).mp rfl
theorem J70:4≤a0→4+(a0-4)=a0:=fun h1=>Nat.add_sub_of_le h1
theorem J71:¬(a0+1<1):=of_decide_eq_false rfl
theorem J72:a0<0→False:=by intros;omega
theorem J73:a0<1→a0=0:=fun h1=>Nat.lt_one_iff.mp h1
theorem J74:a0<100→(a0:Int)<2^63:=fun h1=>Int.ofNat_lt.mpr (lin [a0] (V1 X0 (ln 9223372036854775808)) [U1 X0 (ln 100)] rfl h1)
theorem J75: -2^63≤(a0:Int):=Int.neg_ofNat_le_natCast (2^63) a0
theorem J76:¬((a0:Int)<0):=Int.not_ofNat_neg a0
theorem J77:a0<100→¬(16777216<a0+1):=lin [a0] (1,3,ln 16777216,lp X0 (ln 1)) [U1 X0 (ln 100)] rfl
theorem J78:a0<1000→(a0:Int)<2^63:=fun h1=>Int.ofNat_lt.mpr (lin [a0] (V1 X0 (ln 9223372036854775808)) [U1 X0 (ln 1000)] rfl h1)
theorem J79:a0<1000→12*a0<20000:=lin [a0] (V1 (.m 12 X0) (ln 20000)) [(12,0,1,X0,ln 1000)] rfl
theorem J80:a0<1000→2*a0<10000:=lin [a0] (V1 (.m 2 X0) (ln 10000)) [(2,0,1,X0,ln 1000)] rfl
theorem J81:a0<1000→a0≤1000:=fun h1=>Nat.le_of_succ_le h1
theorem J82:a0<1000→a0≤16777215:=lin [a0] (V0 X0 (ln 16777215)) [U1 X0 (ln 1000)] rfl
theorem J83:a0<10000→a0≤16777216:=lin [a0] (V0 X0 (ln 16777216)) [U1 X0 (ln 10000)] rfl
theorem J84:a0<100000→(a0:Int)<2^62:=fun h1=>Int.ofNat_lt.mpr (lin [a0] (V1 X0 (ln 4611686018427387904)) [U1 X0 (ln 100000)] rfl h1)
theorem J85: -2^62≤(a0:Int):=Int.neg_ofNat_le_natCast (2^62) a0
theorem J86:a0<2^63→(a0:Int)<2^63:=fun h1=>Int.lt_toNat.mp h1
theorem J87:a0<20→a0+1<100000:=lin [a0] (V1 (lp X0 (ln 1)) (ln 100000)) [U1 X0 (ln 20)] rfl
theorem J88:a0<20→a0<1000:=lin [a0] (V1 X0 (ln 1000)) [U1 X0 (ln 20)] rfl
theorem J89:a0<20→a0<100000:=lin [a0] (V1 X0 (ln 100000)) [U1 X0 (ln 20)] rfl
theorem J90:a0<200→a0<1000:=lin [a0] (V1 X0 (ln 1000)) [U1 X0 (ln 200)] rfl
theorem J91:a0<200→a0≤199:=fun h1=>Nat.le_of_lt_succ h1
theorem J92:a0<20000→a0≤16777216:=by lia
theorem J93:a0<20000→¬(16777216<0+a0):=lin [a0] (1,3,ln 16777216,lp (ln 0) X0) [U1 X0 (ln 20000)] rfl
theorem J94:a0<20000→¬(16777216<a0):=lin [a0] (1,3,ln 16777216,X0) [U1 X0 (ln 20000)] rfl
theorem J95:a0<256→0≤(a0:Int)∧(a0:Int)<256:=fun h=>⟨Int.natCast_nonneg a0,Int.ofNat_lt.mpr h⟩
theorem J96:a0<400→a0<1000:=lin [a0] (V1 X0 (ln 1000)) [U1 X0 (ln 400)] rfl
theorem J97:a0<4000→a0+1<4096:=lin [a0] (V1 (lp X0 (ln 1)) (ln 4096)) [U1 X0 (ln 4000)] rfl
theorem J98:a0<4000→a0<4096:=lin [a0] (V1 X0 (ln 4096)) [U1 X0 (ln 4000)] rfl
theorem J99:a0<50→a0≤49:=fun h1=>Nat.le_of_lt_succ h1
theorem J100:a0<799→a0<800:=fun h1=>Nat.lt_succ_of_lt h1
theorem J101:a0<800→a0<900:=lin [a0] (V1 X0 (ln 900)) [U1 X0 (ln 800)] rfl
theorem J102:a0<900→a0<1000:=lin [a0] (V1 X0 (ln 1000)) [U1 X0 (ln 900)] rfl
theorem J103:a0<a0→False:=lin [a0] lf [U1 X0 X0] rfl
theorem J104:a0=6→1≤a0:=lin [a0] (V0 (ln 1) X0) [U3 X0 (ln 6)] rfl
theorem J105:a0=6→a0<20:=lin [a0] (V1 X0 (ln 20)) [U2 X0 (ln 6)] rfl
theorem J106:a0=6→a0≤1000:=lin [a0] (V0 X0 (ln 1000)) [U2 X0 (ln 6)] rfl
theorem J107:a0=6→a0≤6:=fun h1=>Nat.le_of_eq h1
theorem J108:a0=7→2≤a0:=by lia
theorem J109:a0=7→a0<64:=lin [a0] (V1 X0 (ln 64)) [U2 X0 (ln 7)] rfl
theorem J110:a0=7→a0≤16777216:=lin [a0] (V0 X0 (ln 16777216)) [U2 X0 (ln 7)] rfl
theorem J111:a0=7→a0≤16777216+1:=lin [a0] (V0 X0 (lp (ln 16777216) (ln 1))) [U2 X0 (ln 7)] rfl
theorem J112:a0=7→¬(a0<2):=lin [a0] (1,3,X0,ln 2) [U3 X0 (ln 7)] rfl
theorem J113:a0≠0→(a0:Int)≠0:=fun h1=>Int.ofNat_ne_zero.mpr h1
theorem J114:a0≤0→a0=0:=by lia
theorem J115:a0≤0-1→a0=0:=fun h1=>J114 h1
theorem J116:a0≤100→a0≤1000:=lin [a0] (V0 X0 (ln 1000)) [U0 X0 (ln 100)] rfl
theorem J117:a0≤2^60→a0≤2^64:=lin [a0] (V0 X0 (ln 18446744073709551616)) [U0 X0 (ln 1152921504606846976)] rfl
theorem J118:a0≤2^64→a0≤4*(2^64-1):=lin [a0,2^64-1] (V0 X0 (.m 4 X1)) [(4,0,0,ln 18446744073709551616,lp X1 (ln 1)),U0 X0 (ln 18446744073709551616)] rfl (lsu (2^64) 1)
theorem J119:a0≤200→0+a0≤200:=lin [a0] (V0 (lp (ln 0) X0) (ln 200)) [U0 X0 (ln 200)] rfl
theorem J120:a0≤200→a0<1000:=lin [a0] (V1 X0 (ln 1000)) [U0 X0 (ln 200)] rfl
theorem J121:a0≤200→a0<10000:=lin [a0] (V1 X0 (ln 10000)) [U0 X0 (ln 200)] rfl
theorem J122:a0≤200→a0<2^63:=lin [a0] (V1 X0 (ln 9223372036854775808)) [U0 X0 (ln 200)] rfl
theorem J123:a0≤24→a0<100000:=lin [a0] (V1 X0 (ln 100000)) [U0 X0 (ln 24)] rfl
theorem J124:a0≤4*0→a0=0:=fun h1=>J114 h1
theorem J125:a0≤40→a0≤41:=fun h1=>Nat.le_succ_of_le h1
theorem J126:a0≤41→a0≤2^60:=lin [a0] (V0 X0 (ln 1152921504606846976)) [U0 X0 (ln 41)] rfl
theorem J127:a0≤6→a0+1-1≤6:=fun h1=>String.Pos.Raw.mk_le_mk.mp h1
theorem J128:a0≤6→a0<100:=lin [a0] (V1 X0 (ln 100)) [U0 X0 (ln 6)] rfl
theorem J129:a0≤6→a0<1000:=lin [a0] (V1 X0 (ln 1000)) [U0 X0 (ln 6)] rfl
theorem J130:a0≤6→a0<100000:=lin [a0] (V1 X0 (ln 100000)) [U0 X0 (ln 6)] rfl
theorem J131:a0≤6→a0<400:=lin [a0] (V1 X0 (ln 400)) [U0 X0 (ln 6)] rfl
theorem J132:a0≤6→a0=0∨a0=1∨a0=2∨a0=3∨a0=4∨a0=5∨a0=6:=fun h=>(by decide+kernel:∀n≤6,n=0∨n=1∨n=2∨n=3∨n=4∨n=5∨n=6) a0 h
theorem J133:a0≤7→a0≤40:=lin [a0] (V0 X0 (ln 40)) [U0 X0 (ln 7)] rfl
theorem J134:a0≤7→a0≤50:=lin [a0] (V0 X0 (ln 50)) [U0 X0 (ln 7)] rfl
theorem J135:¬(4≤a0)→a0+(4-a0)=4:=fun h1=>Nat.le_antisymm (lsb (x:=4) (y:=a0) (lin [a0,4-a0] (V0 (lp X0 X1) (ln 4)) [U2 (lp X1 X0) (ln 4),(0,0,4,ln 4,X0)] rfl) (lin [a0,4-a0] (0,0,lp X0 X1,ln 4) [U0 (ln 4) X0,(0,0,2,X1,ln 0),(1,0,4,ln 4,X0)] rfl) h1) (lin [a0,4-a0] (V0 (ln 4) (lp X0 X1)) [U0 (ln 4) (lp X1 X0),(0,0,4,ln 4,X0)] rfl (lsu 4 a0) h1)
theorem J136:a0≠0→((a0:Int)-1)/2=(((a0-1)/2:Nat):Int):=fun h=>congrArg (·/2) (Int.ofNat_sub (Nat.pos_of_ne_zero h)).symm
theorem J137:a0≠0→0<a0:=fun h1=>Nat.zero_lt_of_ne_zero h1
theorem J138:a0≠0→1≤a0:=by lia
theorem J139:a0≠0→a0≠(a0-1)/2:=fun h1 h2=>(Nat.lt_or_gt_of_ne h1).elim (lin [a0,(a0-1)/2] lf [(0,0,2,X0,X1),U1 X0 (ln 0)] rfl h2) (lin [a0,(a0-1)/2,a0-1] lf [U0 (.m 2 X1) X2,U0 X2 X0,(2,0,2,X0,X1),U1 (ln 0) X0] rfl (ldl (a0-1)) (Nat.sub_le a0 1) h2)
theorem J140:a0≠0→max 0 (min 1 (a0:Int))=((1:Nat):Int):=fun h=>by rw[Int.min_eq_left (a:=1) (Int.ofNat_le.mpr (Nat.pos_of_ne_zero h))];rfl
theorem J141:0≤i0→2≤2+i0:=fun h1=>Int.le_add_of_nonneg_right h1
theorem J142:0≤i0∧i0≤2→i0=0∨i0=1∨i0=2:=fun h=>by
 obtain⟨n,rfl⟩:=Int.eq_ofNat_of_zero_le h.1;exact(by decide+kernel:∀n:Nat,n≤2→(n:Int)=0∨(n:Int)=1∨(n:Int)=2) n (Int.ofNat_le.mp h.2)
theorem J143:i0+ -1=0→i0-1=0:=fun h1=>Eq.symm ((fun{a b}=>Int.neg_inj.mp) (congrArg Neg.neg (id (Eq.symm h1))))
theorem J144:i0<i0→False:=by lia
theorem J145:i0+ -1≠0→i0-1≠0:=fun h1=>Ne.symm (Ne.intro (id (Ne.symm h1)))
theorem J146:(a0-1)/2≠0→(a0-1)/2=(a0-1)/2-1+1:=fun h1=>Eq.symm (Nat.succ_pred_eq_of_ne_zero h1)
theorem J147:1≤a0→a0<1+0→False:=lin [a0] lf [U0 (ln 1) X0,U1 X0 (lp (ln 1) (ln 0))] rfl
theorem J148:1≤a0→a0<2→a0=1:=fun h1 h2=>Nat.eq_of_le_of_lt_succ h1 h2
theorem J149:a0<0+1→a0≠0→False:=by lia
theorem J150:a0<100→a0<100000:=lin [a0] (V1 X0 (ln 100000)) [U1 X0 (ln 100)] rfl
theorem J151:0<a0→a0=0→False:=lin [a0] lf [U1 (ln 0) X0,U2 X0 (ln 0)] rfl
theorem J152:0<a0→a0≤0→False:=by lia
theorem J153:a0+1-1=a0:=Nat.add_sub_self_right a0 1
theorem J154:a0≤6→a0+1<100000:=lin [a0] (V1 (lp X0 (ln 1)) (ln 100000)) [U0 X0 (ln 6)] rfl
theorem J155:0≤i0→i0<33→0≤i0/11∧i0/11≤2:=fun h1 h2=>⟨Int.ediv_nonneg h1 (by decide),Int.le_of_lt_add_one (Int.ediv_lt_of_lt_mul (by decide) h2)⟩
theorem J156:((a0+1:Nat):Int)+(a1:Int)*1=((a0+1+a1:Nat):Int):=by lia
theorem J157:((a0+a1:Nat):Int)=(a0:Int)+(a1:Int):=Int.natCast_add a0 a1
theorem J158:(a0:Int)-((a1:Int)+1)=(a0:Int)-(a1:Int)-1:=Eq.symm (Int.sub_sub (↑a0) (↑a1) 1)
theorem J159:((a0:Int)<(a1:Int)↔a0<a1):=Int.ofNat_lt
theorem J160:a0+1+a1=a0+a1+1:=Nat.add_right_comm a0 1 a1
theorem J161:a0+1<a0+1+1+a1:=lin [a0,a1] (V1 (lp X0 (ln 1)) (lp (lp (lp X0 (ln 1)) (ln 1)) X1)) [] rfl
theorem J162:a0+a1+1=a0+1+a1:=Eq.symm J160
theorem J163:a0-a1≤a0:=Nat.sub_le a0 a1
theorem J164:a0<a0+(a1+1):=lin [a0,a1] (V1 X0 (lp X0 (lp X1 (ln 1)))) [] rfl
theorem J165:a0<a1+(a0+1):=lin [a0,a1] (V1 X0 (lp X1 (lp X0 (ln 1)))) [] rfl
theorem J166:a0<a1+1+(a0+1):=J165
theorem J167:a0≤a0+1+a1:=lin [a0,a1] (V0 X0 (lp (lp X0 (ln 1)) X1)) [] rfl
theorem J168:a0≤a0+a1:=Nat.le_add_right a0 a1
theorem J169:min (a0+1) (a1+1)=min a0 a1+1:=Nat.add_min_add_right a0 a1 1
theorem J170:(a0:Int)<(a1:Int)→a0<a1:=fun h1=>J159.mp h1
theorem J171:(a0:Int)=(a1:Int)→a0=a1:=fun h1=>Int.ofNat_inj.mp h1
theorem J172:(a0:Int)=(a1:Int)→a1=a0:=fun h1=>J171 (id (Eq.symm h1))
theorem J173:0+a0≤a1→a0≤a1:=fun h1=>Nat.le_of_add_left_le h1
theorem J174:0<a0→0<a0+a1:=fun h1=>Nat.add_pos_left h1 a1
theorem J175:a0+(a1+1)<1000→a0+1+a1<1000:=lin [a0,a1] (V1 (lp (lp X0 (ln 1)) X1) (ln 1000)) [U1 (lp X0 (lp X1 (ln 1))) (ln 1000)] rfl
theorem J176:a0+(a1+1)<1000→a0+a1<1000:=fun h1=>Nat.lt_of_succ_lt h1
theorem J177:a0+0=a1→a1≤a0:=fun h1=>Nat.le_of_eq (id (Eq.symm h1))
theorem J178:a0+0=a1→¬(a0<a1):=lin [a0,a1] (1,3,X0,X1) [U3 (lp X0 (ln 0)) X1] rfl
theorem J179:a0+1+1≤a1→a0+1+1+(a1-(a0+1+1))=a1:=fun h1=>Nat.add_sub_of_le h1
theorem J180:a0+1+1≤a1→a0+1≤a1:=fun h1=>Nat.le_of_succ_le h1
theorem J181:a0+1+1≤a1+1→a0+1≤a1:=fun h1=>Nat.le_of_lt_succ h1
theorem J182:a0+1+1≤a1+1→a0≤a1:=lin [a0,a1] (V0 X0 X1) [U0 (lp (lp X0 (ln 1)) (ln 1)) (lp X1 (ln 1))] rfl
theorem J183:a0+1+a1≤200→a0+a1≤200:=lin [a0,a1] (V0 (lp X0 X1) (ln 200)) [U0 (lp (lp X0 (ln 1)) X1) (ln 200)] rfl
theorem J184:a0+1<a1→a0+2≤a1:=fun h1=>Nat.succ_le_of_lt h1
theorem J185:a0+1<a1→a0<a1:=fun h1=>Nat.lt_of_succ_lt h1
theorem J186:a0+1≤a1→a0≤a1:=by lia
theorem J187:a0+1≤a1→a1+1-(a0+1)=a1+1-(a0+1+1)+1:=fun h=>(Nat.sub_add_cancel (Nat.sub_pos_of_lt (Nat.succ_lt_succ h))).symm
theorem J188:a0+1≤a1→a1-a0=a1-(a0+1)+1:=fun h1=>Nat.le_antisymm (lsb (x:=a1) (y:=a0) (lin [a0,a1,a1-(a0+1),a1-a0] (V0 X3 (lp X2 (ln 1))) [U0 X1 (lp X2 (lp X0 (ln 1))),U2 (lp X3 X0) X1,(0,0,0,lp X0 (ln 1),X1)] rfl (lsu a1 (a0+1))) (lin [a0,a1,a1-a0,a1-(a0+1)] (0,0,X2,lp X3 (ln 1)) [U0 X1 X0,(0,0,2,X2,ln 0),U0 (lp X0 (ln 1)) X1] rfl) h1) (lsb (x:=a1) (y:=a0+1) (lin [a0,a1,a1-a0,a1-(a0+1)] (V0 (lp X3 (ln 1)) X2) [U0 X1 (lp X2 X0),U2 (lp X3 (lp X0 (ln 1))) X1,(0,0,0,lp X0 (ln 1),X1)] rfl (lsu a1 a0)) (lin [a0,a1,a1-a0,a1-(a0+1)] (V0 (lp X3 (ln 1)) X2) [U0 X1 (lp X2 X0),(0,0,0,X1,lp X0 (ln 1)),U2 X3 (ln 0),U0 (lp X0 (ln 1)) X1] rfl (lsu a1 a0)) h1)
theorem J189:a0+1≤a1+1→a0≤a1+1:=fun h1=>J186 h1
theorem J190:a0+1≤a1+1→¬(a1<a1-a0+a0):=lsb (x:=a1) (y:=a0) (lin [a0,a1,a1-a0] (1,3,X1,lp X2 X0) [U2 (lp X2 X0) X1,(0,0,0,lp X0 (ln 1),lp X1 (ln 1))] rfl) (lin [a0,a1,a1-a0] (1,3,X1,lp X2 X0) [(0,0,0,X1,X0),U2 X2 (ln 0),U0 (lp X0 (ln 1)) (lp X1 (ln 1))] rfl)
theorem J191:a0+20*(a1+1)<9900→a0+1+20*a1<9900:=lin [a0,a1] (V1 (lp (lp X0 (ln 1)) (.m 20 X1)) (ln 9900)) [U1 (lp X0 (.m 20 (lp X1 (ln 1)))) (ln 9900)] rfl
theorem J192:a0+20*(a1+1)<9900→a0+3+20*a1<9900:=lin [a0,a1] (V1 (lp (lp X0 (ln 3)) (.m 20 X1)) (ln 9900)) [U1 (lp X0 (.m 20 (lp X1 (ln 1)))) (ln 9900)] rfl
theorem J193:a0+a1<0→False:=fun h1=>J72 h1
theorem J194:a0+a1<1000→a0<1000:=fun h1=>Nat.lt_of_add_right_lt h1
theorem J195:a0+a1<800→¬(800≤a0):=lin [a0,a1] (1,4,ln 800,X0) [U1 (lp X0 X1) (ln 800)] rfl
theorem J196:a0+a1≤200→a0<4000:=lin [a0,a1] (V1 X0 (ln 4000)) [U0 (lp X0 X1) (ln 200)] rfl
theorem J197:a0+a1≤200→a1≤200:=fun h1=>Nat.le_of_add_left_le h1
theorem J198:a0-a1<0→False:=fun h1=>J72 h1
theorem J199:a0-a1≤0→a0≤a1:=lin [a0,a1,a0-a1] (V0 X0 X1) [U0 X0 (lp X2 X1),U0 X2 (ln 0)] rfl (lsu a0 a1)
theorem J200:a0<1+a1→(a0:Int)≠((a1+1:Nat):Int):=fun h1=>mt Int.ofNat_inj.mp (lin [a0,a1] lf [U1 X0 (lp (ln 1) X1),U3 X0 (lp X1 (ln 1))] rfl h1)
theorem J201:a0<801+a1→a0<801+(a1+1):=lin [a0,a1] (V1 X0 (lp (ln 801) (lp X1 (ln 1)))) [U1 X0 (lp (ln 801) X1)] rfl
theorem J202:a0<a1→(a0-1)/2<a1:=lin [a0,a1,(a0-1)/2,a0-1] (2,1,X2,X1) [U0 (.m 2 X2) X3,U0 X3 X0,(2,0,1,X0,X1)] rfl (ldl (a0-1)) (Nat.sub_le a0 1)
theorem J203:a0<a1→0<(a1:Int)-(a0:Int):=by intros;omega
theorem J204:a0<a1→1≤a1:=fun h1=>Nat.one_le_of_lt h1
theorem J205:a0<a1→a0+(a1-1-a0)=a1-1:=fun h1=>Nat.le_antisymm (lsb (x:=a1-1) (y:=a0) (lin [a0,a1,a1-1-a0,a1-1] (V0 (lp X0 X2) X3) [U2 (lp X2 X0) X3,(0,0,1,X0,X1)] rfl) (lin [a0,a1,a1-1,a1-1-a0] (V0 (lp X0 X3) X2) [U0 X1 (lp X2 (ln 1)),(0,0,0,X2,X0),U2 X3 (ln 0),U1 X0 X1] rfl (lsu a1 1)) h1) (lin [a0,a1,a1-1,a1-1-a0] (V0 X2 (lp X0 X3)) [U0 X2 (lp X3 X0),(0,0,1,X0,X1)] rfl (lsu (a1-1) a0) h1)
theorem J206:a0<a1→a0+(a1-a0)=a1:=fun h1=>Nat.le_antisymm (lsb (x:=a1) (y:=a0) (lin [a0,a1,a1-a0] (V0 (lp X0 X2) X1) [U2 (lp X2 X0) X1,(0,0,1,X0,X1)] rfl) (lin [a0,a1,a1-a0] (0,0,lp X0 X2,X1) [U0 X1 X0,(0,0,2,X2,ln 0),U1 X0 X1] rfl) h1) (lin [a0,a1,a1-a0] (V0 X1 (lp X0 X2)) [U0 X1 (lp X2 X0),(0,0,1,X0,X1)] rfl (lsu a1 a0) h1)
theorem J207:a0<a1→a0<a1+1:=fun h1=>Nat.lt_add_right 1 h1
theorem J208:a0<a1→a0≤a1:=fun h1=>J186 h1
theorem J209:a0<a1→a0≤a1-1:=fun h1=>Nat.le_sub_one_of_lt h1
theorem J210:a0<a1→a0≤a1∧a1-a0≠0:=fun h1=>⟨lin [a0,a1] (V0 X0 X1) [U1 X0 X1] rfl h1,lin [a0,a1,a1-a0] lf [U0 X1 (lp X2 X0),U1 X0 X1,U2 X2 (ln 0)] rfl (lsu a1 a0) h1⟩
theorem J211:a0<a1→a1-(a0+1)<a1-a0:=fun h1=>Nat.sub_succ_lt_self a1 a0 h1
theorem J212:a0<a1→a1-1<a1:=fun h1=>Nat.sub_one_lt_of_lt h1
theorem J213:a0-1≤a0:=J163
theorem J214:a0<a1→a1-a0=a1-(a0+1)+1:=fun h1=>J188 h1
theorem J215:a0<a1→a1-a0=a1-a0-1+1:=fun h1=>J188 h1
theorem J216:a0<a1→a1=a1-1+1:=by lia
theorem J217:a0<a1→(a0:Int)≠(a1:Int):=fun h1=>mt Int.ofNat_inj.mp (lin [a0,a1] lf [U1 X0 X1,U3 X0 X1] rfl h1)
theorem J218:a0<a1→¬(a1≤a0):=fun h1=>Nat.not_le_of_lt h1
theorem J219:a0<a1→¬(a1<a0):=fun h1=>Nat.not_lt_of_gt h1
theorem J220:a0<a1→a1≠a0:=fun h1=>Ne.symm (Nat.ne_of_lt h1)
theorem J221:a0<a1+1→a0<a1+1+1:=fun h1=>J207 h1
theorem J222:a0<a1+1→a0≤a1:=by lia
theorem J223:a0<a1+1→a0≤a1+1:=fun h1=>J186 h1
theorem J224:a0<a1+1+1→a0≤a1+1:=fun h1=>J222 h1
theorem J225:a0<min (a1-2) (a1-1)→1+a0<a1:=lsb (x:=a1) (y:=2) (lin [a0,a1,min (a1-2) (a1-1),a1-2] (V1 (lp (ln 1) X0) X1) [U0 X2 X3,U2 (lp X3 (ln 2)) X1,U1 X0 X2] rfl (Nat.min_le_left (a1-2) (a1-1))) (lin [a0,a1,min (a1-2) (a1-1),a1-2] (0,1,lp (ln 1) X0,X1) [U0 X2 X3,(0,0,0,X1,ln 2),U2 X3 (ln 0),U1 X0 X2] rfl (Nat.min_le_left (a1-2) (a1-1)))
theorem J226:a0=a1→(a0:Int)=(a1:Int):=fun h1=>Int.ofNat_inj.mpr h1
theorem J227:a0=a1→(a1:Int)=(a0:Int):=fun h1=>J226 (id (Eq.symm h1))
theorem J228:a0=a1→a1≤a0:=by lia
theorem J229:a0=a1+1→(a0:Int)=((a1+1:Nat):Int):=fun h1=>J226 h1
theorem J230:a0=a1+1→0<a0:=fun h1=>Nat.lt_of_sub_eq_succ h1
theorem J231:a0≠a1→(a0:Int)≠(a1:Int):=fun h1=>Nat.ToInt.of_diseq rfl rfl h1
theorem J232:a0≤0→a0+1≤1+a1:=lin [a0,a1] (V0 (lp X0 (ln 1)) (lp (ln 1) X1)) [U0 X0 (ln 0)] rfl
theorem J233:a0≤2*(a1+1-a1)→a0≤2:=lsb (x:=a1+1) (y:=a1) (lin [a0,a1,a1+1-a1] (V0 X0 (ln 2)) [(2,0,2,lp X2 X1,lp X1 (ln 1)),U0 X0 (.m 2 X2)] rfl) (lin [a0,a1,a1+1-a1] (0,0,X0,ln 2) [U0 (lp X1 (ln 1)) X1,(0,0,2,X2,ln 0),(0,0,0,X0,.m 2 X2)] rfl)
theorem J234:a0≤3*a1+2→a0≤3*a1+3:=fun h1=>Nat.le_succ_of_le h1
theorem J235:a0≤3*a1+3→a0≤3*(a1+1):=by intros;omega
theorem J236:a0≤4*(a1+1)→a0-4≤4*a1:=fun h1=>Nat.sub_le_of_le_add h1
theorem J237:a0≤6→a0≤7+a1:=lin [a0,a1] (V0 X0 (lp (ln 7) X1)) [U0 X0 (ln 6)] rfl
theorem J238:a0≤6*a1+6→2+a0≤6*(a1+1)+6:=lin [a0,a1] (V0 (lp (ln 2) X0) (lp (.m 6 (lp X1 (ln 1))) (ln 6))) [U0 X0 (lp (.m 6 X1) (ln 6))] rfl
theorem J239:a0≤6*a1+6→3+a0≤6*(a1+1)+6:=lin [a0,a1] (V0 (lp (ln 3) X0) (lp (.m 6 (lp X1 (ln 1))) (ln 6))) [U0 X0 (lp (.m 6 X1) (ln 6))] rfl
theorem J240:a0≤a1→a0+(a1-a0)=a1:=fun h1=>Nat.add_sub_of_le h1
theorem J241:a0≤a1→a0+1≤a1+1:=fun h1=>Nat.add_le_add_right h1 1
theorem J242:a0≤a1→a0-a1=0:=fun h1=>Nat.sub_eq_zero_of_le h1
theorem J243:a0≤a1→a0<a1+1:=fun h1=>Nat.lt_succ_of_le h1
theorem J244:a0≤a1→a0≤a1+1:=fun h1=>Nat.le_add_right_of_le h1
theorem J245:a0≤a1→a1+1-(a0+1)<a1+1-a0:=lsb (x:=a1+1) (y:=a0+1) (lin [a0,a1,a1+1-a0,a1+1-(a0+1)] (V1 X3 X2) [U0 (lp X1 (ln 1)) (lp X2 X0),U2 (lp X3 (lp X0 (ln 1))) (lp X1 (ln 1)),(0,0,0,X0,X1)] rfl (lsu (a1+1) a0)) (lin [a0,a1,a1+1-a0,a1+1-(a0+1)] (V1 X3 X2) [U0 (lp X1 (ln 1)) (lp X2 X0),(0,0,0,lp X1 (ln 1),lp X0 (ln 1)),U2 X3 (ln 0),U0 X0 X1] rfl (lsu (a1+1) a0))
theorem J246:a0+1-(a1+1)=a0-a1:=Nat.add_sub_add_right a0 1 a1
theorem J247:a0≤a1→a1-(a1-a0)=a0:=fun h1=>Nat.sub_sub_self h1
theorem J248:a0-a1<a0+1:=Nat.sub_lt_succ a0 a1
theorem J249:a0≤2*(a0-a1)+a1:=lin [a0,a1,a0-a1] (V0 X0 (lp (.m 2 X2) X1)) [U0 X0 (lp X2 X1)] rfl (lsu a0 a1)
theorem J250:a0≤a1→(a0:Int)≠((a1+1:Nat):Int):=by lia
theorem J251:a0≤a1→¬(a1<a0+0):=fun h1=>Nat.not_lt.mpr h1
theorem J252:a0≤a1+1→(a0-1)/2≤a1:=lin [a0,a1,(a0-1)/2,a0-1] (2,0,X2,X1) [U0 (.m 2 X2) X3,U0 X3 X0,U0 X0 (lp X1 (ln 1))] rfl (ldl (a0-1)) (Nat.sub_le a0 1)
theorem J253:a0≤a1+1→a0+1≤a1+1+1:=fun h1=>J241 h1
theorem J254:a0≤a1+1→a0-1≤a1:=fun h1=>Nat.sub_le_of_le_add h1
theorem J255:(a0:Int)≠(a1:Int)→a0≠a1:=fun h1=>Ne.intro fun a=>h1 (congrArg Nat.cast a)
theorem J256:¬(a0<a1+1)→a1+1+(a0-(a1+1))=a0:=fun h1=>Nat.le_antisymm (lsb (x:=a0) (y:=a1+1) (lin [a0,a1,a0-(a1+1)] (V0 (lp (lp X1 (ln 1)) X2) X0) [U2 (lp X2 (lp X1 (ln 1))) X0,(0,0,3,X0,lp X1 (ln 1))] rfl) (lin [a0,a1,a0-(a1+1)] (V0 (lp (lp X1 (ln 1)) X2) X0) [(0,0,0,X0,lp X1 (ln 1)),U2 X2 (ln 0),(1,0,3,X0,lp X1 (ln 1))] rfl) h1) (lin [a0,a1,a0-(a1+1)] (V0 X0 (lp (lp X1 (ln 1)) X2)) [U0 X0 (lp X2 (lp X1 (ln 1))),(0,0,3,X0,lp X1 (ln 1))] rfl (lsu a0 (a1+1)) h1)
theorem J257:¬(a0<a1)→a1≤a0:=fun h1=>Nat.le_of_not_lt h1
theorem J258:a0≠a1+1→(a0:Int)≠((a1+1:Nat):Int):=fun h1=>J231 h1
theorem J259:a0≠a1→(a1:Int)≠(a0:Int):=fun h1=>J231 (id (Ne.symm h1))
theorem J260:¬(a0≤a1)→¬(a0+1≤a1):=lin [a0,a1] (1,4,lp X0 (ln 1),X1) [(1,0,4,X0,X1)] rfl
theorem J261:a0-1-Int.toNat i0<1000→¬(16777216≤a0-1-Int.toNat i0):=by lia
theorem J262:0≤i0→0≤(a0:Int)+i0:=by lia
theorem J263:0≤(((a0-1)/2:Nat):Int):=J29
theorem J264:i0=(a0:Int)∧a0<4→a0<100000:=by lia
theorem J265:(a0:Int)=(a1:Int)→a0<a1→False:=by intros;omega
theorem J266:(a0-1)/2=a1→0<a0→a0=2*a1+1∨a0=2*a1+2:=by lia
theorem J267:(a0-1)/2≠a1→a1≠(a0-1)/2:=fun h1=>Ne.symm (Ne.intro h1)
theorem J268:0<a0→0=a0→2≤a1:=lin [a0,a1] (0,0,ln 2,X1) [U1 (ln 0) X0,U3 (ln 0) X0] rfl
theorem J269:1≤a0→a0≤a1→a0-1+1≤a1:=lsb (x:=a0) (y:=1) (lin [a0,a1,a0-1] (V0 (lp X2 (ln 1)) X1) [U2 (lp X2 (ln 1)) X0,(0,0,0,ln 1,X0),U0 X0 X1] rfl) (lin [a0,a1,a0-1] (V0 (lp X2 (ln 1)) X1) [(0,0,0,X0,ln 1),U2 X2 (ln 0),U0 (ln 1) X0,U0 X0 X1] rfl)
theorem J270:a0<a1-1→a0+1<a1:=fun h1=>Nat.add_lt_of_lt_sub h1
theorem J271:a0<a1-1→a0<a1:=fun h1=>Nat.lt_of_lt_pred h1
theorem J272:1≤a0→a1=a0→(a1:Int)-1=((a0-1:Nat):Int):=fun h1 h2=>by subst h2;exact(Int.ofNat_sub h1).symm
theorem J273:a0+1+1≤a1→a1=a0+1→False:=lin [a0,a1] lf [U0 (lp (lp X0 (ln 1)) (ln 1)) X1,U2 X1 (lp X0 (ln 1))] rfl
theorem J274:a0+1<900→a0+1<1000:=fun h1=>J102 h1
theorem J275:a0<1+(a1+1)→a0≠a1+1→a0<1+a1:=by lia
theorem J276:a0<1000→a1≤6*a0+7→a1≤2^60:=lin [a0,a1] (V0 X1 (ln 1152921504606846976)) [(6,0,1,X0,ln 1000),U0 X1 (lp (.m 6 X0) (ln 7))] rfl
theorem J277:a0<100000→a0≤1099511627776:=lin [a0] (V0 X0 (ln 1099511627776)) [U1 X0 (ln 100000)] rfl
theorem J278:a0<100000→¬(2^63≤(a0:Int)):=fun h1=>mt Int.ofNat_le.mp (lin [a0] (1,4,ln 9223372036854775808,X0) [U1 X0 (ln 100000)] rfl h1)
theorem J279:a0<20→a1≤a0→a1+1<100000:=lin [a0,a1] (V1 (lp X1 (ln 1)) (ln 100000)) [U1 X0 (ln 20),U0 X1 X0] rfl
theorem J280:a0<400→a1≤2*a0→a1<1000:=lin [a0,a1] (V1 X1 (ln 1000)) [(2,0,1,X0,ln 400),U0 X1 (.m 2 X0)] rfl
theorem J281:a0<800→a1=a0→a1<801:=lin [a0,a1] (V1 X1 (ln 801)) [U1 X0 (ln 800),U2 X1 X0] rfl
theorem J282:a0<900→a0+1<1000:=lin [a0] (V1 (lp X0 (ln 1)) (ln 1000)) [U1 X0 (ln 900)] rfl
theorem J283:a0<900→a1=a0→a1+1<9223372036854775808:=lin [a0,a1] (V1 (lp X1 (ln 1)) (ln 9223372036854775808)) [U1 X0 (ln 900),U2 X1 X0] rfl
theorem J284:a0<900→a1=a0→a1<2^63:=lin [a0,a1] (V1 X1 (ln 9223372036854775808)) [U1 X0 (ln 900),U2 X1 X0] rfl
theorem J285:a0<900→a1=a0→a1≤16777215:=lin [a0,a1] (V0 X1 (ln 16777215)) [U1 X0 (ln 900),U2 X1 X0] rfl
theorem J286:a0<900→a1=a0→a1≤16777216:=lin [a0,a1] (V0 X1 (ln 16777216)) [U1 X0 (ln 900),U2 X1 X0] rfl
theorem J287:0<0→False:=fun h1=>J72 h1
theorem J288:a0<a1→a1<a0→False:=by intros;omega
theorem J289:a0<a1→a1=7→a0<7:=fun h1 h2=>Nat.lt_of_lt_of_eq h1 h2
theorem J290:a0<a1→a1≤0→False:=by lia
theorem J291:¬(a0+1<a1)→a1≤a0+1:=fun h1=>J257 h1
theorem J292:¬(a0+1≤a1)→a1≤a0+1:=fun h1=>Nat.le_of_not_ge h1
theorem J293:a0<a1+0→a1≤a0→False:=lin [a0,a1] lf [U1 X0 (lp X1 (ln 0)),U0 X1 X0] rfl
theorem J294:a0<a1+1→(a0-1)/2<a1+1:=fun h1=>J202 h1
theorem J295:a0<a1+1→a0≠a1→a0<a1:=fun h1 h2=>(Nat.lt_or_gt_of_ne h2).elim (lin [a0,a1] (V1 X0 X1) [(0,0,1,X0,lp X1 (ln 1)),U1 X0 X1] rfl h1) (lin [a0,a1] (0,1,X0,X1) [U1 X0 (lp X1 (ln 1)),U1 X1 X0] rfl h1)
theorem J296:a0<a1+1+1→a0≠a1+1→a0<a1+1:=fun h1 h2=>J295 h1 h2
theorem J297:a0<7→a1=6→a0≤a1:=lin [a0,a1] (V0 X0 X1) [U1 X0 (ln 7),U3 X1 (ln 6)] rfl
theorem J298:0<(a0:Int)→a0=a0-1+1:=fun h=>(Nat.sub_add_cancel (Int.ofNat_lt.mp h)).symm
theorem J299:a0=0→a0-1=a0:=fun h=>by subst h;rfl
theorem J300:a0=0→¬(0<(a0:Int)):=fun h1=>Std.Rxo.size_eq_zero_iff_not_le.mp h1
theorem J301:a0=7→a1=a0→0<a1:=lin [a0,a1] (V1 (ln 0) X1) [U3 X0 (ln 7),U3 X1 X0] rfl
theorem J302:a0=a1→a1≤6→a0<10000:=lin [a0,a1] (V1 X0 (ln 10000)) [U2 X0 X1,U0 X1 (ln 6)] rfl
theorem J303:a0≤6→a0≤1000:=lin [a0] (V0 X0 (ln 1000)) [U0 X0 (ln 6)] rfl
theorem J304:a0=a1→a1≤64→a0<2^63:=lin [a0,a1] (V1 X0 (ln 9223372036854775808)) [U2 X0 X1,U0 X1 (ln 64)] rfl
theorem J305:a0≤64→a0≤1000:=lin [a0] (V0 X0 (ln 1000)) [U0 X0 (ln 64)] rfl
theorem J306:a0=a1→¬(800≤a1)→a0<2^63:=lin [a0,a1] (V1 X0 (ln 9223372036854775808)) [U2 X0 X1,(1,0,4,ln 800,X1)] rfl
theorem J307:a0≠0→0<(a0:Int):=by intros;omega
theorem J308:a0≤100→a1≤a0+1→a1≤16777216+1:=lin [a0,a1] (V0 X1 (lp (ln 16777216) (ln 1))) [U0 X0 (ln 100),U0 X1 (lp X0 (ln 1))] rfl
theorem J309:a0=a1→a1≤200→a0≤200:=lin [a0,a1] (V0 X0 (ln 200)) [U2 X0 X1,U0 X1 (ln 200)] rfl
theorem J310:a0=a1→a1≤50→a0<1000:=lin [a0,a1] (V1 X0 (ln 1000)) [U2 X0 X1,U0 X1 (ln 50)] rfl
theorem J311:a0=a1→a1≤50→a0≤1000:=lin [a0,a1] (V0 X0 (ln 1000)) [U2 X0 X1,U0 X1 (ln 50)] rfl
theorem J312:a0+1≤a1→a1≤6→a0≤5:=by lia
theorem J313:a0<a1→a1≤6→a0+1≤6:=fun h1 h2=>Nat.le_trans h1 h2
theorem J314:a0<a1-0→0+1+a0≤a1:=lin [a0,a1,a1-0] (V0 (lp (lp (ln 0) (ln 1)) X0) X1) [U0 X2 X1,U1 X0 X2] rfl (Nat.sub_le a1 0)
theorem J315:a0=a1→a1≤6→a0+1<1000:=lin [a0,a1] (V1 (lp X0 (ln 1)) (ln 1000)) [U2 X0 X1,U0 X1 (ln 6)] rfl
theorem J316:a0≤2*a1→a1≤6→a0<1000:=lin [a0,a1] (V1 X0 (ln 1000)) [U0 X0 (.m 2 X1),(2,0,0,X1,ln 6)] rfl
theorem J317:a0≤2*a1→a1≤6→a0<100000:=lin [a0,a1] (V1 X0 (ln 100000)) [U0 X0 (.m 2 X1),(2,0,0,X1,ln 6)] rfl
theorem J318:a0≤2*a1→a1≤6→a0<900:=lin [a0,a1] (V1 X0 (ln 900)) [U0 X0 (.m 2 X1),(2,0,0,X1,ln 6)] rfl
theorem J319:a0≤6→a1≤a0→a1<100000:=lin [a0,a1] (V1 X1 (ln 100000)) [U0 X0 (ln 6),U0 X1 X0] rfl
theorem J320:a0≤6→a1≤a0→a1<7:=lin [a0,a1] (V1 X1 (ln 7)) [U0 X0 (ln 6),U0 X1 X0] rfl
theorem J321:a0≤6→a1≤a0→a1≤6:=fun h1 h2=>Nat.le_trans h2 h1
theorem J322:a0=a1→a1≤63→a0<1000:=lin [a0,a1] (V1 X0 (ln 1000)) [U2 X0 X1,U0 X1 (ln 63)] rfl
theorem J323:a0=a1→a1≤7→a0<1000:=lin [a0,a1] (V1 X0 (ln 1000)) [U2 X0 X1,U0 X1 (ln 7)] rfl
theorem J324:a0≤a1→a1≤a0→a0=a1:=by lia
theorem J325:1≤6*a0+7:=J35
theorem J326:a0≤a1→¬(a0<a1)→a0=a1:=fun h1 h2=>Nat.le_antisymm h1 (Nat.le_of_not_lt h2)
theorem J327:¬(a0<a1)→a1-a0=0:=fun h=>Nat.sub_eq_zero_of_le (Nat.le_of_not_lt h)
theorem J328:¬(a0<a1)→a1<a0∨a1-a0=0:=fun h=>.inr (Nat.sub_eq_zero_of_le (Nat.le_of_not_lt h))
theorem J329:a0≠0→a0≤a1→a1=a1-1+1:=fun h1 h2=>(Nat.sub_add_cancel (Nat.le_trans (Nat.pos_of_ne_zero h1) h2)).symm
theorem J330:a0<a1→a1≤a0+0→False:=fun h1 h2=>J293 h1 h2
theorem J331:a0≠a1+1→a0≤a1+1→a0≤a1:=by lia
theorem J332:a0≤a1+1→¬(a0≤a1)→a0=a1+1:=by lia
theorem J333:a0+1≤a1→¬(a0+1<a1)→a0+1=a1:=fun h1 h2=>J326 h1 h2
theorem J334:a0+1≤a1→¬(a0+1<a1)→a0=a1-1:=fun h1 h2=>Nat.le_antisymm (Nat.le_sub_one_of_lt h1) (Nat.sub_le_of_le_add (Nat.le_of_not_lt h2))
theorem J335:¬(a0+1<a1)→¬(a1<a0+1)→a1=a0+1:=fun h1 h2=>Nat.le_antisymm (lin [a0,a1] (V0 X1 (lp X0 (ln 1))) [(1,0,3,lp X0 (ln 1),X1),(0,0,3,X1,lp X0 (ln 1))] rfl h1 h2) (lin [a0,a1] (V0 (lp X0 (ln 1)) X1) [(0,0,3,lp X0 (ln 1),X1),(1,0,3,X1,lp X0 (ln 1))] rfl h1 h2)
theorem J336:¬(a0<a1)→¬(a1<a0)→a0=a1:=by lia
theorem J337:a0≠a1→a1≤a0→a1+1≤a0:=by lia
theorem J338:a0≠a1→¬(a0<a1)→¬(a0<a1+1):=by lia
theorem J339:0<a0→0≤i0→0<(a0:Int)+i0:=by lia
theorem J340:2≤i0→a0≤2→(a0:Int)≤i0:=by lia
theorem J341:i0<i1→i1<i0→False:=by lia
theorem J342:i0<i1→i1=i0→False:=by lia
theorem J343:i0<i1→i1≤i0→False:=by lia
theorem J344:i0≠i1→i0≤i1→i0<i1:=fun h1 h2=>Std.lt_of_le_of_ne h2 h1
theorem J345:a0≠a1→a1≠a0:=fun h1=>Ne.intro (id (Ne.symm h1))
theorem J346:1≤a0→a0≠a1+1→a0≤a1+1→a0-1+1≤a1:=by lia
theorem J347:a0+1<a1→a1<100→a0+1<100000:=lin [a0,a1] (V1 (lp X0 (ln 1)) (ln 100000)) [U1 (lp X0 (ln 1)) X1,U1 X1 (ln 100)] rfl
theorem J348:a0+1<a1→a1<100→a0<100000:=lin [a0,a1] (V1 X0 (ln 100000)) [U1 (lp X0 (ln 1)) X1,U1 X1 (ln 100)] rfl
theorem J349:0<a0→a0=a1→0<a1:=fun h1 h2=>Nat.lt_of_lt_of_eq h1 h2
theorem J350:0<a0→a0=a1→1≤a1:=fun h1 h2=>le_of_le_of_eq h1 h2
theorem J351:a0-0≤a0-1+1:=lin [a0,a0-0,a0-1] (V0 X1 (lp X2 (ln 1))) [U0 X1 X0,U0 X0 (lp X2 (ln 1))] rfl (Nat.sub_le a0 0) (lsu a0 1)
theorem J352:a0<1000→a1=a0→a1<2^63:=lin [a0,a1] (V1 X1 (ln 9223372036854775808)) [U1 X0 (ln 1000),U2 X1 X0] rfl
theorem J353:a0<a1→a1≤6→a0+1<100000:=fun h1 h2=>J319 h2 h1
theorem J354:1≤a0→a0≤a1→a0-1<a1-0:=fun h1 h2=>Nat.sub_one_lt_of_le h1 h2
theorem J355:a0+1-1+1=a0+1:=J171 rfl
theorem J356:0≤i0→a0=Int.toNat i0→i0<4→i0=(a0:Int)∧a0<4:=fun h1 h2 h3=>by subst h2;exact⟨(Int.toNat_of_nonneg h1).symm,(Int.toNat_lt h1).mpr h3⟩
theorem J357:i0+(i1+1*i2)=i0+i1+i2:=by lia
theorem J358:0<a0∧a1+a0≤a2→a1+a0≤a2:=fun h1=>lin [a0,a1,a2] (V0 (lp X1 X0) X2) [(0,0,1,ln 0,X0),U0 (lp X1 X0) X2] rfl h1.1 h1.2
theorem J359:0<a0∧a1+a0≤a2→a1<a1+a0:=fun h1=>lin [a0,a1,a2] (V1 X1 (lp X1 X0)) [U1 (ln 0) X0,(0,0,0,lp X1 X0,X2)] rfl h1.1 h1.2
theorem J360:a0+(a1+1)<a2→a0+a1<a2:=fun h1=>J185 h1
theorem J361:a0+(a1+1)=a2→a0+1+a1=a2:=fun h1=>Nat.le_antisymm (lin [a0,a1,a2] (V0 (lp (lp X0 (ln 1)) X1) X2) [U2 (lp X0 (lp X1 (ln 1))) X2] rfl h1) (lin [a0,a1,a2] (V0 X2 (lp (lp X0 (ln 1)) X1)) [U3 (lp X0 (lp X1 (ln 1))) X2] rfl h1)
theorem J362:a0+(a1+1)=a2→a0<a2:=lin [a0,a1,a2] (V1 X0 X2) [U2 (lp X0 (lp X1 (ln 1))) X2] rfl
theorem J363:a0+(a1+1)=a2→¬(a2≤a0):=by lia
theorem J364:a0+(a1+1)≤a2→a0+a1+1≤a2:=by intros;omega
theorem J365:a0+(a1+1)≤a2→a0+a1<a2:=fun h1=>Nat.lt_of_succ_le h1
theorem J366:a0+(a1+1)≤a2→a0+a1≤a2:=fun h1=>J186 h1
theorem J367:a0+1≤a1→a0+a2+1≤a1+a2:=lin [a0,a1,a2] (V0 (lp (lp X0 X2) (ln 1)) (lp X1 X2)) [U0 (lp X0 (ln 1)) X1] rfl
theorem J368:a0+12*(a1-a2)<20000→a0<20000:=fun h1=>Nat.lt_of_add_right_lt h1
theorem J369:a0+2*(a1-a2)<10000→a0<10000:=fun h1=>Nat.lt_of_add_right_lt h1
theorem J370:a0-a1<a2→a2=a2-1+1:=fun h1=>J216 h1
theorem J371:a0<1000→min a1 a0-a2≤16777216:=lin [a0,a1,a2,min a1 a0-a2,min a1 a0] (V0 X3 (ln 16777216)) [U0 X3 X4,U0 X4 X0,U1 X0 (ln 1000)] rfl (Nat.sub_le (min a1 a0) a2) (Nat.min_le_right a1 a0)
theorem J372:a0<a1+1+a2→a0<a1+(a2+1):=lin [a0,a1,a2] (V1 X0 (lp X1 (lp X2 (ln 1)))) [U1 X0 (lp (lp X1 (ln 1)) X2)] rfl
theorem J373:a0<a1+a2→a0<a1+(a2+1):=fun h1=>J207 h1
theorem J374:a0<min a1 a2→a0<a1:=lin [a0,a1,a2,min a1 a2] (V1 X0 X1) [U0 X3 X1,U1 X0 X3] rfl (Nat.min_le_left a1 a2)
theorem J375:a0≤a1+1→a0+1≤a1+1+1+a2:=lin [a0,a1,a2] (V0 (lp X0 (ln 1)) (lp (lp (lp X1 (ln 1)) (ln 1)) X2)) [U0 X0 (lp X1 (ln 1))] rfl
theorem J376:a0≤a1+a2→a0+1≤a1+(a2+1):=fun h1=>J241 h1
theorem J377:a0≤a1+a2→a0≤a1+(a2+1):=fun h1=>J244 h1
theorem J378:min a0 a1-a2=0→min a0 a1≤a2:=fun h1=>Nat.le_of_sub_eq_zero h1
theorem J379:0≤i0→i1≤i1+(a0:Int)+i0:=by lia
theorem J380:(a0-1)/2<a1→(a2-1)/2=(a0-1)/2→(a2-1)/2<a1:=fun h1 h2=>lt_of_eq_of_lt h2 h1
theorem J381:a0+1+a1≤200→a2=a0→a2<1000:=lin [a0,a1,a2] (V1 X2 (ln 1000)) [U0 (lp (lp X0 (ln 1)) X1) (ln 200),U2 X2 X0] rfl
theorem J382:a0+1+a1≤200→a0<1000:=fun h1=>J381 h1 rfl
theorem J383:a0+1≤a1→a2+a1≤200→a2+1+a0≤200:=lin [a0,a1,a2] (V0 (lp (lp X2 (ln 1)) X0) (ln 200)) [U0 (lp X0 (ln 1)) X1,U0 (lp X2 X1) (ln 200)] rfl
theorem J384:a0+a1≤200→a0≤200:=lin [a0,a1] (V0 X0 (ln 200)) [U0 (lp X0 X1) (ln 200)] rfl
theorem J385:a0+1≤a1→a2<a0+1→a2≤a1:=by lia
theorem J386:a0<a1-(a2+1)→a2+1+1+a0≤a1:=lsb (x:=a1) (y:=a2+1) (lin [a0,a1,a2,a1-(a2+1)] (V0 (lp (lp (lp X2 (ln 1)) (ln 1)) X0) X1) [U2 (lp X3 (lp X2 (ln 1))) X1,U1 X0 X3] rfl) (lin [a0,a1,a2,a1-(a2+1)] (0,0,lp (lp (lp X2 (ln 1)) (ln 1)) X0,X1) [(0,0,0,X1,lp X2 (ln 1)),U2 X3 (ln 0),U1 X0 X3] rfl)
theorem J387:a0+1≤a1→a2≤a0→a2≤a1:=lin [a0,a1,a2] (V0 X2 X1) [U0 (lp X0 (ln 1)) X1,U0 X2 X0] rfl
theorem J388:a0+1≤a1→a2≤a1→a0+a2+1≤a1*2:=by lia
theorem J389:a0+1≤a1+1→a1+1≤a2+1→a0≤a2:=lin [a0,a1,a2] (V0 X0 X2) [U0 (lp X0 (ln 1)) (lp X1 (ln 1)),U0 (lp X1 (ln 1)) (lp X2 (ln 1))] rfl
theorem J390:a0+1≤a1+1→a2<a0+1→a2≤a1:=fun h1 h2=>J389 h2 h1
theorem J391:a0<a1-a2→a0≤a1:=lin [a0,a1,a2,a1-a2] (V0 X0 X1) [U0 X3 X1,U1 X0 X3] rfl (Nat.sub_le a1 a2)
theorem J392:a0=a1-a2→a1<a0+(a2+1):=lin [a0,a1,a2,a1-a2] (V1 X1 (lp X0 (lp X2 (ln 1)))) [U0 X1 (lp X3 X2),U3 X0 X3] rfl (lsu a1 a2)
theorem J393:a0=a1-a2→a0≤a1:=lin [a0,a1,a2,a1-a2] (V0 X0 X1) [U0 X3 X1,U2 X0 X3] rfl (Nat.sub_le a1 a2)
theorem J394:a0+20*(a1+1)<9900→a2≤20→a0+a2+20*a1<9900:=lin [a0,a1,a2] (V1 (lp (lp X0 X2) (.m 20 X1)) (ln 9900)) [U1 (lp X0 (.m 20 (lp X1 (ln 1)))) (ln 9900),U0 X2 (ln 20)] rfl
theorem J395:a0+a1+1≤200→a0<200:=fun h1=>Nat.lt_of_add_right_lt h1
theorem J396:1000<a0→a1+a2<1000→a1+a2≤a0:=lin [a0,a1,a2] (V0 (lp X1 X2) X0) [U1 (ln 1000) X0,U1 (lp X1 X2) (ln 1000)] rfl
theorem J397:1000<a0→a1+a2<1000→a1+a2≤a0+1:=lin [a0,a1,a2] (V0 (lp X1 X2) (lp X0 (ln 1))) [U1 (ln 1000) X0,U1 (lp X1 X2) (ln 1000)] rfl
theorem J398:1000<a0→a1+a2<1000→a1≤a0:=lin [a0,a1,a2] (V0 X1 X0) [U1 (ln 1000) X0,U1 (lp X1 X2) (ln 1000)] rfl
theorem J399:a0+1=a1→a1+a2<800→a0+a2<800:=lin [a0,a1,a2] (V1 (lp X0 X2) (ln 800)) [U2 (lp X0 (ln 1)) X1,U1 (lp X1 X2) (ln 800)] rfl
theorem J400:a0+a1≤100→a2=a1→a2<2^63:=lin [a0,a1,a2] (V1 X2 (ln 9223372036854775808)) [U0 (lp X0 X1) (ln 100),U2 X2 X1] rfl
theorem J401:a0+a1≤200→a2=a0→a2<2^63:=lin [a0,a1,a2] (V1 X2 (ln 9223372036854775808)) [U0 (lp X0 X1) (ln 200),U2 X2 X0] rfl
theorem J402:a0+a1≤200→a2=a0→a2≤200:=lin [a0,a1,a2] (V0 X2 (ln 200)) [U0 (lp X0 X1) (ln 200),U2 X2 X0] rfl
theorem J403:a0-a1≤a2+1→a0-(a1+1)≤a2:=lsb (x:=a0) (y:=a1+1) (lin [a0,a1,a2,a0-a1,a0-(a1+1)] (V0 X4 X2) [U0 X0 (lp X3 X1),U2 (lp X4 (lp X1 (ln 1))) X0,U0 X3 (lp X2 (ln 1))] rfl (lsu a0 a1)) (lin [a0,a1,a2,a0-(a1+1),a0-a1] (V0 X3 X2) [(0,0,0,X0,lp X1 (ln 1)),U2 X3 (ln 0),(0,0,0,X4,lp X2 (ln 1))] rfl)
theorem J404:a0<801+a1→a2=a0+1→a2<801+(a1+1):=lin [a0,a1,a2] (V1 X2 (lp (ln 801) (lp X1 (ln 1)))) [U1 X0 (lp (ln 801) X1),U2 X2 (lp X0 (ln 1))] rfl
theorem J405:(a0-1)/2=a1→a1<a2→(a0-1)/2<a2:=fun h1 h2=>lt_of_eq_of_lt h1 h2
theorem J406:a0-a1<a2+1→a1<a0→a0-(a1+1)<a2:=lsb (x:=a0) (y:=a1+1) (lin [a0,a1,a2,a0-a1,a0-(a1+1)] (V1 X4 X2) [U0 X0 (lp X3 X1),U2 (lp X4 (lp X1 (ln 1))) X0,U1 X3 (lp X2 (ln 1)),(0,0,1,X1,X0)] rfl (lsu a0 a1)) (lin [a0,a1,a2,a0-a1,a0-(a1+1)] (V1 X4 X2) [U0 X0 (lp X3 X1),(0,0,0,X0,lp X1 (ln 1)),U2 X4 (ln 0),U1 X3 (lp X2 (ln 1)),U1 X1 X0] rfl (lsu a0 a1))
theorem J407:a0-a1<a2+1→a0-(a1+1)<a2+1:=lsb (x:=a0) (y:=a1+1) (lin [a0,a1,a2,a0-a1,a0-(a1+1)] (V1 X4 (lp X2 (ln 1))) [U0 X0 (lp X3 X1),U2 (lp X4 (lp X1 (ln 1))) X0,U1 X3 (lp X2 (ln 1))] rfl (lsu a0 a1)) (lin [a0,a1,a2,a0-(a1+1),a0-a1] (V1 X3 (lp X2 (ln 1))) [(0,0,0,X0,lp X1 (ln 1)),U2 X3 (ln 0),(0,0,1,X4,lp X2 (ln 1))] rfl)
theorem J408:a0<a1→a1≤a2→a0<a2:=fun h1 h2=>Nat.lt_of_lt_of_le h1 h2
theorem J409:a0<a1→a1≤a2→a0≤a2:=lin [a0,a1,a2] (V0 X0 X2) [U1 X0 X1,U0 X1 X2] rfl
theorem J410:a0<a1→a2=a1→a0+(a1-a0)=a2:=fun h1 h2=>(Nat.add_sub_of_le (Nat.le_of_lt h1)).trans h2.symm
theorem J411:a0<a1→a2=a1→a2+1-a0=a1-a0+1:=fun h1 h2=>Nat.le_antisymm (lsb (x:=a2+1) (y:=a0) (lin [a0,a1,a2,a1-a0,a2+1-a0] (V0 X4 (lp X3 (ln 1))) [U0 X1 (lp X3 X0),U2 (lp X4 X0) (lp X2 (ln 1)),(0,0,1,X0,X1),U2 X2 X1] rfl (lsu a1 a0)) (lin [a0,a1,a2,a2+1-a0,a1-a0] (0,0,X3,lp X4 (ln 1)) [U0 (lp X2 (ln 1)) X0,(0,0,2,X3,ln 0),U1 X0 X1,U3 X2 X1] rfl) h1 h2) (lsb (x:=a1) (y:=a0) (lin [a0,a1,a2,a2+1-a0,a1-a0] (V0 (lp X4 (ln 1)) X3) [U0 (lp X2 (ln 1)) (lp X3 X0),U2 (lp X4 X0) X1,(0,0,1,X0,X1),U3 X2 X1] rfl (lsu (a2+1) a0)) (lin [a0,a1,a2,a1-a0,a2+1-a0] (0,0,lp X3 (ln 1),X4) [U0 X1 X0,(0,0,2,X3,ln 0),U1 X0 X1,(0,0,2,X2,X1)] rfl) h1 h2)
theorem J412:a0≤6*(a1-a2)+6→a0≤6*a1+7:=lin [a0,a1,a2,a1-a2] (V0 X0 (lp (.m 6 X1) (ln 7))) [(6,0,0,X3,X1),U0 X0 (lp (.m 6 X3) (ln 6))] rfl (Nat.sub_le a1 a2)
theorem J413:a0<a1→a2≤a0+1→a2≤a1:=fun h1 h2=>Nat.le_trans h2 h1
theorem J414:a0<min a1 a2→a0<a2:=lin [a0,a1,a2,min a1 a2] (V1 X0 X2) [U0 X3 X2,U1 X0 X3] rfl (Nat.min_le_right a1 a2)
theorem J415:a0=a1→a0≤a1:=lin [a0,a1] (V0 X0 X1) [U2 X0 X1] rfl
theorem J416:a0+1<a1→a1=a2→a0+1<a2:=fun h1 h2=>Nat.lt_of_lt_of_eq h1 h2
theorem J417:a0+1=a1→a1=a2→a2≤a0+1:=lin [a0,a1,a2] (V0 X2 (lp X0 (ln 1))) [U3 (lp X0 (ln 1)) X1,U3 X1 X2] rfl
theorem J418:a0-0=a1→a1≤a0-0:=fun h1=>J177 h1
theorem J419:a0<a1→a1=a2→a0<a2:=fun h1 h2=>Nat.lt_of_lt_of_eq h1 h2
theorem J420:a0=a1→a2=a1→a0=a2:=by lia
theorem J421:a0≤1→a0≤99999:=lin [a0] (V0 X0 (ln 99999)) [U0 X0 (ln 1)] rfl
theorem J422:a0≤3*a1→a2≤a0+1→a2≤3*a1+2:=lin [a0,a1,a2] (V0 X2 (lp (.m 3 X1) (ln 2))) [U0 X0 (.m 3 X1),U0 X2 (lp X0 (ln 1))] rfl
theorem J423:a0≤3*a1+2→a2≤a0+1→a2≤3*a1+3:=lin [a0,a1,a2] (V0 X2 (lp (.m 3 X1) (ln 3))) [U0 X0 (lp (.m 3 X1) (ln 2)),U0 X2 (lp X0 (ln 1))] rfl
theorem J424:a0≤a1→a1≤a2→a2-a0=a1-a0+(a2-a1):=fun h1 h2=>((Nat.add_comm _ _).trans (Nat.sub_add_sub_cancel h2 h1)).symm
theorem J425:a0≤a1→min (a0-a2) (a1-a2)=a0-a2:=fun h1=>Nat.le_antisymm (lin [a0,a1,a2,min (a0-a2) (a1-a2),a0-a2] (V0 X3 X4) [U0 X3 X4,(0,0,0,X0,X1)] rfl (Nat.min_le_left (a0-a2) (a1-a2)) h1) (lsb (x:=a0) (y:=a2) (lmn (x:=a0-a2) (y:=a1-a2) (lin [a0,a1,a2,a0-a2,a1-a2,min (a0-a2) (a1-a2)] (V0 X3 X5) [(0,0,0,X3,X4),U3 X5 X3,(0,0,2,lp X3 X2,X0),(0,0,0,X0,X1)] rfl) (lin [a0,a1,a2,a1-a2,a0-a2,min (a0-a2) (a1-a2)] (V0 X4 X5) [U0 X1 (lp X3 X2),(0,0,0,X3,X4),U3 X5 X3,U2 (lp X4 X2) X0,U0 X0 X1] rfl (lsu a1 a2))) (lin [a0,a1,a2,a0-a2,min (a0-a2) (a1-a2)] (V0 X3 X4) [(0,0,0,X0,X2),U2 X3 (ln 0),(0,0,0,X0,X1)] rfl) h1)
theorem J426:a0+20*(a1+1)<9900→a0<9900:=fun h1=>Nat.lt_of_add_right_lt h1
theorem J427:a0+20*a1<9900→a2≤a1→a0+20*a2<9900:=lin [a0,a1,a2] (V1 (lp X0 (.m 20 X2)) (ln 9900)) [U1 (lp X0 (.m 20 X1)) (ln 9900),(20,0,0,X2,X1)] rfl
theorem J428:a0+a1<1000→a2≤a1→a0+a2<1000:=lin [a0,a1,a2] (V1 (lp X0 X2) (ln 1000)) [U1 (lp X0 X1) (ln 1000),U0 X2 X1] rfl
theorem J429:a0<a1+(a2-a1)→a1≤a2→a0+1≤a2:=by lia
theorem J430:a0<a1+(a2-a1)→a1≤a2→a0<a2:=lsb (x:=a2) (y:=a1) (lin [a0,a1,a2,a2-a1] (V1 X0 X2) [U2 (lp X3 X1) X2,U1 X0 (lp X1 X3),(0,0,0,X1,X2)] rfl) (lin [a0,a1,a2,a2-a1] (V1 X0 X2) [(0,0,0,X2,X1),U2 X3 (ln 0),U1 X0 (lp X1 X3),U0 X1 X2] rfl)
theorem J431:a0<a1-a2→a2+1+a0≤a1:=lsb (x:=a1) (y:=a2) (lin [a0,a1,a2,a1-a2] (V0 (lp (lp X2 (ln 1)) X0) X1) [U2 (lp X3 X2) X1,U1 X0 X3] rfl) (lin [a0,a1,a2,a1-a2] (0,0,lp (lp X2 (ln 1)) X0,X1) [(0,0,0,X1,X2),U2 X3 (ln 0),U1 X0 X3] rfl)
theorem J432:a0=a1→a1≤a2→a0≤a2:=fun h1 h2=>le_of_eq_of_le h1 h2
theorem J433:a0≤a1+1→a1≤a2→a0≤a2+1:=lin [a0,a1,a2] (V0 X0 (lp X2 (ln 1))) [U0 X0 (lp X1 (ln 1)),U0 X1 X2] rfl
theorem J434:a0≤a1→¬(a0<a2+1)→a2+1+(a0-(a2+1))≤a1:=lsb (x:=a0) (y:=a2+1) (lin [a0,a1,a2,a0-(a2+1)] (V0 (lp (lp X2 (ln 1)) X3) X1) [U2 (lp X3 (lp X2 (ln 1))) X0,U0 X0 X1,(0,0,3,X0,lp X2 (ln 1))] rfl) (lin [a0,a1,a2,a0-(a2+1)] (V0 (lp (lp X2 (ln 1)) X3) X1) [(0,0,0,X0,lp X2 (ln 1)),U2 X3 (ln 0),U0 X0 X1,(1,0,3,X0,lp X2 (ln 1))] rfl)
theorem J435:a0≤a1+1→a1≤a2+1→a0≤a2+1+1:=fun h1 h2=>J433 h1 h2
theorem J436:min a0 a1≤a2→¬(a0≤a2)→a1≤a2:=lmn (x:=a0) (y:=a1) (lin [a0,a1,a2,min a0 a1] (0,0,X1,X2) [(0,0,0,X0,X1),U3 X3 X0,U0 X3 X2,(1,0,4,X0,X2)] rfl) (lin [a0,a1,a2,min a0 a1] (V0 X1 X2) [(0,0,0,X1,X0),U3 X3 X1,U0 X3 X2,(0,0,4,X0,X2)] rfl)
theorem J437:(a0:Int)≤i0→a1≤a0→(a1:Int)≤i0:=by lia
theorem J438:(a0-1)/2<a1→((a0-1)/2-1)/2<a1:=fun h1=>J202 h1
theorem J439:a0<a1+(a2+1)→¬(a0<a1+a2)→a1=a0-a2:=fun h1 h2=>Nat.le_antisymm (lin [a0,a1,a2,a0-a2] (V0 X1 X3) [U0 X0 (lp X3 X2),(0,0,1,X0,lp X1 (lp X2 (ln 1))),(1,0,3,X0,lp X1 X2)] rfl (lsu a0 a2) h1 h2) (lsb (x:=a0) (y:=a2) (lin [a0,a1,a2,a0-a2] (V0 X3 X1) [U2 (lp X3 X2) X0,U1 X0 (lp X1 (lp X2 (ln 1))),(0,0,3,X0,lp X1 X2)] rfl) (lin [a0,a1,a2,a0-a2] (V0 X3 X1) [(0,0,0,X0,X2),U2 X3 (ln 0),(0,0,1,X0,lp X1 (lp X2 (ln 1))),(0,0,3,X0,lp X1 X2)] rfl) h1 h2)
theorem J440:a0≠a1-a2→¬(a1<a0+a2)→¬(a1<a0+(a2+1)):=fun h1 h2 h3=>h1 (Nat.eq_sub_of_add_eq (Nat.le_antisymm (Nat.le_of_not_lt h2) (Nat.le_of_lt_succ h3)))
theorem J441:a0<100→a1<a0→a2≤2*a1→a2≤100000:=lin [a0,a1,a2] (V0 X2 (ln 100000)) [(2,0,1,X0,ln 100),(2,0,1,X1,X0),U0 X2 (.m 2 X1)] rfl
theorem J442:a0<100→a1<a0→a2≤2*a1→a2≤99998:=lin [a0,a1,a2] (V0 X2 (ln 99998)) [(2,0,1,X0,ln 100),(2,0,1,X1,X0),U0 X2 (.m 2 X1)] rfl
theorem J443:a0<100→a1<a0→a2≤2*a1→a2≤99999:=lin [a0,a1,a2] (V0 X2 (ln 99999)) [(2,0,1,X0,ln 100),(2,0,1,X1,X0),U0 X2 (.m 2 X1)] rfl
theorem J444:a0<1000→a1<a2→a2=a0→(a1:Int)<2^63:=fun h1 h2 h3=>Int.ofNat_lt.mpr (lin [a0,a1,a2] (V1 X1 (ln 9223372036854775808)) [U1 X0 (ln 1000),U1 X1 X2,U2 X2 X0] rfl h1 h2 h3)
theorem J445:a0<400→a1≤2*a0→a2≤2*a1→a2<100000:=lin [a0,a1,a2] (V1 X2 (ln 100000)) [(4,0,1,X0,ln 400),(2,0,0,X1,.m 2 X0),U0 X2 (.m 2 X1)] rfl
theorem J446:a0<a1+1→a2<a0→a1-a2≠a1-a0:=lsb (x:=a1) (y:=a0) (lin [a0,a1,a2,a1-a2,a1-a0] lf [U0 X1 (lp X3 X2),U2 (lp X4 X0) X1,(0,0,1,X0,lp X1 (ln 1)),U1 X2 X0,U2 X3 X4] rfl (lsu a1 a2)) (lin [a0,a1,a2,a1-a2,a1-a0] lf [U0 X1 (lp X3 X2),(0,0,0,X1,X0),U2 X4 (ln 0),U1 X0 (lp X1 (ln 1)),U1 X2 X0,U2 X3 X4] rfl (lsu a1 a2))
theorem J447:a0<a1→a1≤a2→a2=a0→False:=lin [a0,a1,a2] lf [U1 X0 X1,U0 X1 X2,U2 X2 X0] rfl
theorem J448:a0<7→a1=6→a2≤a0→a2+(a0-a2)≤a1:=lsb (x:=a0) (y:=a2) (lin [a0,a1,a2,a0-a2] (V0 (lp X2 X3) X1) [U2 (lp X3 X2) X0,U1 X0 (ln 7),U3 X1 (ln 6),(0,0,0,X2,X0)] rfl) (lin [a0,a1,a2,a0-a2] (V0 (lp X2 X3) X1) [(0,0,0,X0,X2),U2 X3 (ln 0),U1 X0 (ln 7),U3 X1 (ln 6),U0 X2 X0] rfl)
theorem J449:a0+1≤a1→a1-(a0+1)=0→a0+1=a1:=fun h1 h2=>Nat.le_antisymm (lin [a0,a1,a1-(a0+1)] (V0 (lp X0 (ln 1)) X1) [U0 (lp X0 (ln 1)) X1,(0,0,2,X2,ln 0)] rfl h1 h2) (lin [a0,a1,a1-(a0+1)] (V0 X1 (lp X0 (ln 1))) [U0 X1 (lp X2 (lp X0 (ln 1))),(0,0,0,lp X0 (ln 1),X1),U2 X2 (ln 0)] rfl (lsu a1 (a0+1)) h1 h2)
theorem J450:a0=a1→a1≤50→a0<2^63:=lin [a0,a1] (V1 X0 (ln 9223372036854775808)) [U2 X0 X1,U0 X1 (ln 50)] rfl
theorem J451:a0+1≤a1→a1≤6→a2=a0+1→a2<10000:=lin [a0,a1,a2] (V1 X2 (ln 10000)) [U0 (lp X0 (ln 1)) X1,U0 X1 (ln 6),U2 X2 (lp X0 (ln 1))] rfl
theorem J452:a0+1≤a1→a1≤6→a2≤a0+1→a2<1000:=by lia
theorem J453:1≤a0∧a0<a1+1→a1<a2→a0<1+(a2-1):=fun h1 h2=>lin [a0,a1,a2,a2-1] (V1 X0 (lp (ln 1) X3)) [U0 X2 (lp X3 (ln 1)),(0,0,0,ln 1,X0),U1 X0 (lp X1 (ln 1)),U1 X1 X2] rfl (lsu a2 1) h1.1 h1.2 h2
theorem J454:a0<a1→a1≤6→a2=a0+1→a2≤16777216:=lin [a0,a1,a2] (V0 X2 (ln 16777216)) [U1 X0 X1,U0 X1 (ln 6),U2 X2 (lp X0 (ln 1))] rfl
theorem J455:a0<a1→a1≤6→a2≤2*(a0+1-0)→a2<100000:=lin [a0,a1,a2,a0+1-0] (V1 X2 (ln 100000)) [(2,0,0,X3,lp X0 (ln 1)),(2,0,1,X0,X1),(2,0,0,X1,ln 6),U0 X2 (.m 2 X3)] rfl (Nat.sub_le (a0+1) 0)
theorem J456:a0<a1+1→a1≤6→a2=a0→a2<1000:=lin [a0,a1,a2] (V1 X2 (ln 1000)) [U1 X0 (lp X1 (ln 1)),U0 X1 (ln 6),U2 X2 X0] rfl
theorem J457:a0≤0+(a1-0)→a1≤6→a2≤36→a0+a2<800:=lin [a0,a1,a2,a1-0] (V1 (lp X0 X2) (ln 800)) [U0 X3 X1,U0 X0 (lp (ln 0) X3),U0 X1 (ln 6),U0 X2 (ln 36)] rfl (Nat.sub_le a1 0)
theorem J458:a0≤0+(a1-0)→a1≤6→a2≤36→a0+a2<99:=lin [a0,a1,a2,a1-0] (V1 (lp X0 X2) (ln 99)) [U0 X3 X1,U0 X0 (lp (ln 0) X3),U0 X1 (ln 6),U0 X2 (ln 36)] rfl (Nat.sub_le a1 0)
theorem J459:a0≤2*a1→a1≤2*a2→a2≤6→a0≤24:=lin [a0,a1,a2] (V0 X0 (ln 24)) [U0 X0 (.m 2 X1),(2,0,0,X1,.m 2 X2),(4,0,0,X2,ln 6)] rfl
theorem J460:a0≤2*a1→a1≤a2→a2≤6→a0<1000:=lin [a0,a1,a2] (V1 X0 (ln 1000)) [U0 X0 (.m 2 X1),(2,0,0,X1,X2),(2,0,0,X2,ln 6)] rfl
theorem J461:a0≤6→a1≤a0→a1-a2≤6:=lin [a0,a1,a2,a1-a2] (V0 X3 (ln 6)) [U0 X3 X1,U0 X0 (ln 6),U0 X1 X0] rfl (Nat.sub_le a1 a2)
theorem J462:a0<a1→a1≤a2→a2≤6→a0≤6:=lin [a0,a1,a2] (V0 X0 (ln 6)) [U1 X0 X1,U0 X1 X2,U0 X2 (ln 6)] rfl
theorem J463:a0≤6→a1≤a0→a2≤a1→a2≤100:=lin [a0,a1,a2] (V0 X2 (ln 100)) [U0 X0 (ln 6),U0 X1 X0,U0 X2 X1] rfl
theorem J464:a0≤64→a1≤a0→a1≤1000:=lin [a0,a1] (V0 X1 (ln 1000)) [U0 X0 (ln 64),U0 X1 X0] rfl
theorem J465:a0≤a1→¬(a0<a2+1)→a2+1≤a1:=lin [a0,a1,a2] (V0 (lp X2 (ln 1)) X1) [U0 X0 X1,(1,0,3,X0,lp X2 (ln 1))] rfl
theorem J466:a0<100000→i0=(a0:Int)→-9223372036854775808≤i0∧i0<9223372036854775808:=fun h1 h2=>by subst h2;exact⟨Int.le_trans (by decide) (Int.natCast_nonneg a0),Int.ofNat_lt.mpr (Nat.lt_trans h1 (by decide))⟩
theorem J467:i0<i1→i1=i2→i2=i0→False:=by lia
theorem J468:i0≤i1→¬(i0<i2)→¬(i2<i1)→i2=i0:=fun h1 h2 h3=>Int.le_antisymm (Int.not_lt.mp h2) (Int.le_trans h1 (Int.not_lt.mp h3))
theorem J469:0<(a0-1)/2→((a0-1)/2-1)/2≠a0:=lin [a0,(a0-1)/2,a0-1,((a0-1)/2-1)/2,(a0-1)/2-1] lf [(2,0,0,.m 2 X1,X2),(2,0,0,X2,X0),U0 (.m 2 X3) X4,U0 X4 X1,(3,0,1,ln 0,X1),(0,2,2,X3,X0)] rfl (ldl (a0-1)) (Nat.sub_le a0 1) (ldl ((a0-1)/2-1)) (Nat.sub_le ((a0-1)/2) 1)
theorem J470:0<(a0-1)/2→(a0-1)/2≠a0:=lin [a0,(a0-1)/2,a0-1] lf [U0 (.m 2 X1) X2,U0 X2 X0,U1 (ln 0) X1,U3 X1 X0] rfl (ldl (a0-1)) (Nat.sub_le a0 1)
theorem J471:0<(a0-1)/2→a0≠((a0-1)/2-1)/2:=fun h1=>Ne.symm (J469 h1)
theorem J472:a0+1<a1→a1<100→a2≤3*a0+2→a2<1000:=lin [a0,a1,a2] (V1 X2 (ln 1000)) [(3,0,1,lp X0 (ln 1),X1),(3,0,1,X1,ln 100),U0 X2 (lp (.m 3 X0) (ln 2))] rfl
theorem J473:a0+1<a1→a1<100→a2≤3*a0→a2<1000:=lin [a0,a1,a2] (V1 X2 (ln 1000)) [(3,0,1,lp X0 (ln 1),X1),(3,0,1,X1,ln 100),U0 X2 (.m 3 X0)] rfl
theorem J474:(a0-1)/2=a1→0<a0→a0<a1+1→False:=lin [a0,a1,(a0-1)/2,a0-1] lf [U0 (.m 2 X2) X3,U0 X3 X0,(0,2,2,X2,X1),U1 (ln 0) X0,(2,0,1,X0,lp X1 (ln 1))] rfl (ldl (a0-1)) (Nat.sub_le a0 1)
theorem J475:a0<a1+1→a1<a2→a2≤6→a0≤6:=fun h1 h2 h3=>J462 h1 h2 h3
theorem J476:a0<a1→a1≤6→a2≤10*a0+(a0+1)→a2≤10*(a0+1)+0:=lin [a0,a1,a2] (V0 X2 (lp (.m 10 (lp X0 (ln 1))) (ln 0))) [U1 X0 X1,U0 X1 (ln 6),U0 X2 (lp (.m 10 X0) (lp X0 (ln 1)))] rfl
theorem J477:a0<a1→a1≤6→a2≤a0+1→a2<1000:=fun h1 h2 h3=>J452 h1 h2 h3
theorem J478:a0=a1+1→a0≤a2→¬(a1+1≤a2)→False:=lin [a0,a1,a2] lf [U3 X0 (lp X1 (ln 1)),U0 X0 X2,(1,0,4,lp X1 (ln 1),X2)] rfl
theorem J479:(a0-1)/2=(a1-1)/2→0<(a1-1)/2→(a0-1)/2≠a1:=lin [a0,a1,(a1-1)/2,a1-1,(a0-1)/2] lf [U0 (.m 2 X2) X3,U0 X3 X1,U2 X4 X2,U1 (ln 0) X2,U3 X4 X1] rfl (ldl (a1-1)) (Nat.sub_le a1 1)
theorem J480:(a0-1)/2=a1→0<a0→a0<a2→a2≤2*a1+2→a0=2*a1+1:=fun h1 h2 h3 h4=>Nat.le_antisymm (lin [a0,a1,a2,(a0-1)/2] (V0 X0 (lp (.m 2 X1) (ln 1))) [(0,0,2,X3,X1),(0,0,1,ln 0,X0),U1 X0 X2,U0 X2 (lp (.m 2 X1) (ln 2))] rfl h1 h2 h3 h4) (lsb (x:=a0) (y:=1) (lin [a0,a1,a2,(a0-1)/2,a0-1] (V0 (lp (.m 2 X1) (ln 1)) X0) [U0 (.m 2 X3) X4,U2 (lp X4 (ln 1)) X0,(0,2,2,X3,X1),(0,0,1,ln 0,X0),(0,0,1,X0,X2),(0,0,0,X2,lp (.m 2 X1) (ln 2))] rfl (ldl (a0-1))) (lin [a0,a1,a2,(a0-1)/2,a0-1] (V0 (lp (.m 2 X1) (ln 1)) X0) [U0 (.m 2 X3) X4,(0,0,0,X0,ln 1),U2 X4 (ln 0),(0,2,2,X3,X1),U1 (ln 0) X0,(0,0,1,X0,X2),(0,0,0,X2,lp (.m 2 X1) (ln 2))] rfl (ldl (a0-1))) h1 h2 h3 h4)
theorem J481:(a0-1)/2=(a1-1)/2→a1≠0→(a0-1)/2≠a1:=fun h1 h2 h3=>(Nat.lt_or_gt_of_ne h2).elim (lin [a0,a1,(a0-1)/2,(a1-1)/2] lf [(0,0,2,X2,X3),(0,0,2,X2,X1),U1 X1 (ln 0)] rfl h1 h3) (lin [a0,a1,(a1-1)/2,a1-1,(a0-1)/2] lf [U0 (.m 2 X2) X3,U0 X3 X1,(2,0,2,X4,X2),(0,2,2,X4,X1),U1 (ln 0) X1] rfl (ldl (a1-1)) (Nat.sub_le a1 1) h1 h3)
theorem J482:(a0-1)/2≠(a1-1)/2→a1=(a0-1)/2→0<a1:=fun h1 h2=>(Nat.lt_or_gt_of_ne h1).elim (lin [a0,a1,a0-1,(a0-1)/2,(a1-1)/2,a1-1] (0,1,ln 0,X1) [U1 X2 (lp (.m 2 X3) (ln 2)),U0 X0 (lp X2 (ln 1)),(2,0,0,.m 2 X4,X5),(2,0,0,X5,X1),(2,0,2,X1,X3),(4,0,1,X3,X4)] rfl (ldu (a0-1)) (lsu a0 1) (ldl (a1-1)) (Nat.sub_le a1 1) h2) (lin [a0,a1,(a0-1)/2,(a1-1)/2] (V1 (ln 0) X1) [U3 X1 X2,U1 X3 X2] rfl h2)
theorem J483:(i0+(a0:Int)+i1=i2↔i0=i2-(a0:Int)-i1):=by lia
theorem J484:i0+i1+(a0:Int)+i2=i0+((a0:Int)+0)+(i1+i2):=by lia
theorem J485:a0+(a1-1-a2)≤a3→a0≤a3:=fun h1=>Nat.le_of_add_right_le h1
theorem J486:a0-a1+a2≤a3→a2≤a3:=fun h1=>Nat.le_of_add_left_le h1
theorem J487:min (a0-a1) (a2-a1)≤a2:=lin [a0,a1,a2,min (a0-a1) (a2-a1),a2-a1] (V0 X3 X2) [U0 X3 X4,U0 X4 X2] rfl (Nat.min_le_right (a0-a1) (a2-a1)) (Nat.sub_le a2 a1)
theorem J488:min a0 a1-a2=a3+1→a2<min a0 a1:=fun h1=>Nat.lt_of_sub_eq_succ h1
theorem J489:a0≤a1→i0+(a0:Int)+i1≤i0+(a1:Int)+i1:=by lia
theorem J490:i0+(a0:Int)+i1=i2+(a0:Int)+i1→i0=i2:=by lia
theorem J491:a0+(a1+1)≤a2→a0+1+a1≤a2:=lin [a0,a1,a2] (V0 (lp (lp X0 (ln 1)) X1) X2) [U0 (lp X0 (lp X1 (ln 1))) X2] rfl
theorem J492:a0+(a1-1-a2)≤a3→a2+1<a1→a0<a3:=lin [a0,a1,a2,a3,a1-1,a1-1-a2] (V1 X0 X3) [U0 X4 (lp X5 X2),U0 X1 (lp X4 (ln 1)),U0 (lp X0 X5) X3,U1 (lp X2 (ln 1)) X1] rfl (lsu (a1-1) a2) (lsu a1 1)
theorem J493:a0+1≤a1→a0+1+1≤a1+1:=fun h1=>J367 h1
theorem J494:a0+1≤a1→a2≤100→a0*101+(a2-0+a3)≤a1*101+a3:=by lia
theorem J495:a0+1=a1→a1+a2<a3+1→a0+a2<a3:=lin [a0,a1,a2,a3] (V1 (lp X0 X2) X3) [U2 (lp X0 (ln 1)) X1,U1 (lp X1 X2) (lp X3 (ln 1))] rfl
theorem J496:a0-a1+a2≤a3→a1<a0→a0-(a1+1)+a2+1≤a3:=lsb (x:=a0) (y:=a1+1) (lin [a0,a1,a2,a3,a0-a1,a0-(a1+1)] (V0 (lp (lp X5 X2) (ln 1)) X3) [U0 X0 (lp X4 X1),U2 (lp X5 (lp X1 (ln 1))) X0,U0 (lp X4 X2) X3,(0,0,1,X1,X0)] rfl (lsu a0 a1)) (lin [a0,a1,a2,a3,a0-a1,a0-(a1+1)] (V0 (lp (lp X5 X2) (ln 1)) X3) [U0 X0 (lp X4 X1),(0,0,0,X0,lp X1 (ln 1)),U2 X5 (ln 0),U0 (lp X4 X2) X3,U1 X1 X0] rfl (lsu a0 a1))
theorem J497:a0=a1→a2≤a3+1+a0→a2≤a3+a1+1:=lin [a0,a1,a2,a3] (V0 X2 (lp (lp X3 X1) (ln 1))) [U2 X0 X1,U0 X2 (lp (lp X3 (ln 1)) X0)] rfl
theorem J498:a0≤10*a1+a2→a3≤a0+1→a3≤10*a1+(a2+1):=fun h1 h2=>J433 h2 h1
theorem J499:a0≤2→a1≤a2+a0+2*a3→a1≤a2+2*(a3+1):=lin [a0,a1,a2,a3] (V0 X1 (lp X2 (.m 2 (lp X3 (ln 1))))) [U0 X0 (ln 2),U0 X1 (lp (lp X2 X0) (.m 2 X3))] rfl
theorem J500:a0≤a1+1+a2→a3≤a0+1→a3≤a1+1+(a2+1):=fun h1 h2=>J433 h2 h1
theorem J501:a0=a1+1→a2≤a0+a3→a2≤a1+(a3+1):=lin [a0,a1,a2,a3] (V0 X2 (lp X1 (lp X3 (ln 1)))) [U2 X0 (lp X1 (ln 1)),U0 X2 (lp X0 X3)] rfl
theorem J502:i0<i1→i1≤i0→a0<a1:=by intros;omega
theorem J503:a0+12*(a1-a2)<20000→a0+(min a1 a1-a2+0)<20000:=lsb (x:=min a1 a1) (y:=a2) (lin [a0,a1,a2,min a1 a1,a1-a2,min a1 a1-a2] (V1 (lp X0 (lp X5 (ln 0))) (ln 20000)) [U0 X3 X1,U0 X1 (lp X4 X2),U2 (lp X5 X2) X3,U1 (lp X0 (.m 12 X4)) (ln 20000)] rfl (Nat.min_le_left a1 a1) (lsu a1 a2)) (lin [a0,a1,a2,min a1 a1,min a1 a1-a2,a1-a2] (V1 (lp X0 (lp X4 (ln 0))) (ln 20000)) [(0,0,0,X3,X2),U2 X4 (ln 0),U1 (lp X0 (.m 12 X5)) (ln 20000)] rfl)
theorem J504:a0+a1≤100→a1≤100:=fun h1=>Nat.le_of_add_left_le h1
theorem J505:a0+(a1+1)≤a2→a2<500→a3=a0→a3≤16777216:=lin [a0,a1,a2,a3] (V0 X3 (ln 16777216)) [U0 (lp X0 (lp X1 (ln 1))) X2,U1 X2 (ln 500),U2 X3 X0] rfl
theorem J506:a0<a1+(a2-a1)→a1<a2→a0<a2:=by intros;omega
theorem J507:a0-a1=a2→a2≤a0:=fun h1=>J393 (id (Eq.symm h1))
theorem J508:a0-(a1+1)=a2+1→a0-(a1+1+1)=a2:=fun h1=>Nat.le_antisymm (lsb (x:=a0) (y:=a1+1+1) (lin [a0,a1,a2,a0-(a1+1),a0-(a1+1+1)] (V0 X4 X2) [U0 X0 (lp X3 (lp X1 (ln 1))),U2 (lp X4 (lp (lp X1 (ln 1)) (ln 1))) X0,U2 X3 (lp X2 (ln 1))] rfl (lsu a0 (a1+1))) (lin [a0,a1,a2,a0-(a1+1+1),a0-(a1+1)] (V0 X3 X2) [(0,0,0,X0,lp (lp X1 (ln 1)) (ln 1)),U2 X3 (ln 0),(0,0,2,X4,lp X2 (ln 1))] rfl) h1) (lsb (x:=a0) (y:=a1+1) (lin [a0,a1,a2,a0-(a1+1+1),a0-(a1+1)] (V0 X2 X3) [U0 X0 (lp X3 (lp (lp X1 (ln 1)) (ln 1))),U2 (lp X4 (lp X1 (ln 1))) X0,U3 X4 (lp X2 (ln 1))] rfl (lsu a0 (a1+1+1))) (lin [a0,a1,a2,a0-(a1+1),a0-(a1+1+1)] (0,0,X2,X4) [(0,0,0,X0,lp X1 (ln 1)),U2 X3 (ln 0),U3 X3 (lp X2 (ln 1))] rfl) h1)
theorem J509:a0-(a1+1)=a2+1→a1+1<a0:=fun h1=>Nat.lt_of_sub_eq_succ h1
theorem J510:a0<a1→a2=a1→a0<a2:=fun h1 h2=>J419 h1 (id (Eq.symm h2))
theorem J511:a0=a1→a1=a2→a3=a2→a0=a3:=by lia
theorem J512:a0=a1→a1≠a2→a3=a2→a0≠a3:=by lia
theorem J513:a0≤2*a1→a2≤2→a0+a2≤2*(a1+1):=lin [a0,a1,a2] (V0 (lp X0 X2) (.m 2 (lp X1 (ln 1)))) [U0 X0 (.m 2 X1),U0 X2 (ln 2)] rfl
theorem J514:a0≤3*a1→a2≤a0+1→a3≤a2+1→a3≤3*a1+2:=lin [a0,a1,a2,a3] (V0 X3 (lp (.m 3 X1) (ln 2))) [U0 X0 (.m 3 X1),U0 X2 (lp X0 (ln 1)),U0 X3 (lp X2 (ln 1))] rfl
theorem J515:a0≤7*a1+a2→a2≤7→a0≤7*(a1+1):=lin [a0,a1,a2] (V0 X0 (.m 7 (lp X1 (ln 1)))) [U0 X0 (lp (.m 7 X1) X2),U0 X2 (ln 7)] rfl
theorem J516:a0≤a1→a1≤a2→a0+(a1-a0)≤a2:=lsb (x:=a1) (y:=a0) (lin [a0,a1,a2,a1-a0] (V0 (lp X0 X3) X2) [U2 (lp X3 X0) X1,(0,0,0,X0,X1),U0 X1 X2] rfl) (lin [a0,a1,a2,a1-a0] (V0 (lp X0 X3) X2) [(0,0,0,X1,X0),U2 X3 (ln 0),U0 X0 X1,U0 X1 X2] rfl)
theorem J517:(a0-1)/2=a1→0<a0→a2≤a1+(a3+1)→a2≤a0+a3:=lin [a0,a1,a2,a3,(a0-1)/2,a0-1] (2,0,X2,lp X0 X3) [U0 (.m 2 X4) X5,U0 X5 X0,(0,2,2,X4,X1),U1 (ln 0) X0,(2,0,0,X2,lp X1 (lp X3 (ln 1)))] rfl (ldl (a0-1)) (Nat.sub_le a0 1)
theorem J518:min a0 a1-a2=a3+1→min a0 a1-(a2+1)=a3:=fun h1=>Nat.le_antisymm (lsb (x:=min a0 a1) (y:=a2+1) (lin [a0,a1,a2,a3,min a0 a1,min a0 a1-a2,min a0 a1-(a2+1)] (V0 X6 X3) [U0 X4 (lp X5 X2),U2 (lp X6 (lp X2 (ln 1))) X4,U2 X5 (lp X3 (ln 1))] rfl (lsu (min a0 a1) a2)) (lin [a0,a1,a2,a3,min a0 a1,min a0 a1-(a2+1),min a0 a1-a2] (V0 X5 X3) [(0,0,0,X4,lp X2 (ln 1)),U2 X5 (ln 0),(0,0,2,X6,lp X3 (ln 1))] rfl) h1) (lsb (x:=min a0 a1) (y:=a2) (lin [a0,a1,a2,a3,min a0 a1,min a0 a1-(a2+1),min a0 a1-a2] (V0 X3 X5) [U0 X4 (lp X5 (lp X2 (ln 1))),U2 (lp X6 X2) X4,U3 X6 (lp X3 (ln 1))] rfl (lsu (min a0 a1) (a2+1))) (lin [a0,a1,a2,a3,min a0 a1,min a0 a1-a2,min a0 a1-(a2+1)] (0,0,X3,X6) [(0,0,0,X4,X2),U2 X5 (ln 0),U3 X5 (lp X3 (ln 1))] rfl) h1)
theorem J519:a0≤a1→(a0:Int)≤(a1:Int):=fun h1=>Int.ofNat_le.mpr h1
theorem J520:a0<20→a1=a2→a2≤a3→a3≤a0→a1+1<1000:=lin [a0,a1,a2,a3] (V1 (lp X1 (ln 1)) (ln 1000)) [U1 X0 (ln 20),U2 X1 X2,U0 X2 X3,U0 X3 X0] rfl
theorem J521:a0-1=a1→a0≠a2+1→a2<a0→a2=a1→2≤a3:=fun h1 h2 h3 h4=>(Nat.lt_or_gt_of_ne h2).elim (lin [a0,a1,a2,a3,a0-1] (0,0,ln 2,X3) [(0,0,2,X4,X1),U1 X2 X0,(0,0,2,X2,X1),U1 X0 (lp X2 (ln 1))] rfl h1 h3 h4) (lin [a0,a1,a2,a3,a0-1] (0,0,ln 2,X3) [U0 X0 (lp X4 (ln 1)),U2 X4 X1,(0,0,1,X2,X0),U3 X2 X1,U1 (lp X2 (ln 1)) X0] rfl (lsu a0 1) h1 h3 h4)
theorem J522:a0<a1+1→a1=a2→¬(a0<a2)→a0=a2:=by lia
theorem J523:1000<a0→a1<a2→a2≤1000→a3≤a1→a3≤a0:=lin [a0,a1,a2,a3] (V0 X3 X0) [U1 (ln 1000) X0,U1 X1 X2,U0 X2 (ln 1000),U0 X3 X1] rfl
theorem J524:a0+1≤a1→a1≤6→a2≤2*(a0+1-a3)→a2<100000:=lin [a0,a1,a2,a3,a0+1-a3] (V1 X2 (ln 100000)) [(2,0,0,X4,lp X0 (ln 1)),(2,0,0,lp X0 (ln 1),X1),(2,0,0,X1,ln 6),U0 X2 (.m 2 X4)] rfl (Nat.sub_le (a0+1) a3)
theorem J525:a0+1≤a1→a1≤6→a2≤a0→a3≤a2→a3≤6:=lin [a0,a1,a2,a3] (V0 X3 (ln 6)) [U0 (lp X0 (ln 1)) X1,U0 X1 (ln 6),U0 X2 X0,U0 X3 X2] rfl
theorem J526:a0<a1→a1≤6→a2=a3→a3≤a0+1+1→a2<1000:=lin [a0,a1,a2,a3] (V1 X2 (ln 1000)) [U1 X0 X1,U0 X1 (ln 6),U2 X2 X3,U0 X3 (lp (lp X0 (ln 1)) (ln 1))] rfl
theorem J527:a0<a1→a1≤6→a2=a3→a3≤a0+1+1→a2<2^63:=lin [a0,a1,a2,a3] (V1 X2 (ln 9223372036854775808)) [U1 X0 X1,U0 X1 (ln 6),U2 X2 X3,U0 X3 (lp (lp X0 (ln 1)) (ln 1))] rfl
theorem J528:a0<a1+1→a1≤6→a2≤a0→a2<1000:=lin [a0,a1,a2] (V1 X2 (ln 1000)) [U1 X0 (lp X1 (ln 1)),U0 X1 (ln 6),U0 X2 X0] rfl
theorem J529:a0=a1→a1≤a2→a2≤64→a0≤1000:=lin [a0,a1,a2] (V0 X0 (ln 1000)) [U2 X0 X1,U0 X1 X2,U0 X2 (ln 64)] rfl
theorem J530:a0<a1→a1≤7→a2≤7→7*a0+a2≤100:=lin [a0,a1,a2] (V0 (lp (.m 7 X0) X2) (ln 100)) [(7,0,1,X0,X1),(7,0,0,X1,ln 7),U0 X2 (ln 7)] rfl
theorem J531:a0<1000→a1≤a0→a1-a2≤1000:=lin [a0,a1,a2,a1-a2] (V0 X3 (ln 1000)) [U0 X3 X1,U1 X0 (ln 1000),U0 X1 X0] rfl (Nat.sub_le a1 a2)
theorem J532:a0-a1=a2→a0≤a2→a1≤a0→a1=0:=fun h1 h2 h3=>Nat.le_antisymm (lsb (x:=a0) (y:=a1) (lin [a0,a1,a2,a0-a1] (V0 X1 (ln 0)) [U2 (lp X3 X1) X0,U3 X3 X2,U0 X0 X2,(0,0,0,X1,X0)] rfl) (lin [a0,a1,a2,a0-a1] (V0 X1 (ln 0)) [(0,0,0,X0,X1),U2 X3 (ln 0),U3 X3 X2,U0 X0 X2,U0 X1 X0] rfl) h1 h2 h3) (lin [a0,a1,a2,a0-a1] (V0 (ln 0) X1) [(0,0,2,X3,X2),(0,0,0,X0,X2),(0,0,0,X1,X0)] rfl h1 h2 h3)
theorem J533:a0+1<a1→a1<100→a2≤3*a0→a3≤a2+1→a3<1000:=lin [a0,a1,a2,a3] (V1 X3 (ln 1000)) [(3,0,1,lp X0 (ln 1),X1),(3,0,1,X1,ln 100),U0 X2 (.m 3 X0),U0 X3 (lp X2 (ln 1))] rfl
theorem J534:a0<20→a1<a0-a2→a2+1+a1-a2<400:=lsb (x:=a0) (y:=a2) (lin [a0,a1,a2,a2+1+a1-a2,a0-a2] (V1 X3 (ln 400)) [U0 X3 (lp (lp X2 (ln 1)) X1),U2 (lp X4 X2) X0,U1 X0 (ln 20),U1 X1 X4] rfl (Nat.sub_le (a2+1+a1) a2)) (lin [a0,a1,a2,a0-a2,a2+1+a1-a2] (0,1,X4,ln 400) [(0,0,0,X0,X2),U2 X3 (ln 0),(0,0,1,X0,ln 20),U1 X1 X3] rfl)
theorem J535:(a0-1)/2=a1→(a1-1)/2=a2→0<a1→(a0-1)/2≠a2:=lin [a0,a1,a2,(a1-1)/2,a1-1,(a0-1)/2] lf [U0 (.m 2 X3) X4,U0 X4 X1,(0,2,2,X5,X1),(0,2,2,X3,X2),U1 (ln 0) X1,(2,0,2,X5,X2)] rfl (ldl (a1-1)) (Nat.sub_le a1 1)
theorem J536:(a0-1)/2=a1→(a1-1)/2=a2→0<a0→a0≠a2:=lin [a0,a1,a2,(a0-1)/2,a0-1,(a1-1)/2,a1-1] lf [U0 (.m 2 X3) X4,U0 X4 X0,(2,0,0,.m 2 X5,X6),(2,0,0,X6,X1),(0,2,2,X3,X1),(0,4,2,X5,X2),(3,0,1,ln 0,X0),(4,0,2,X0,X2)] rfl (ldl (a0-1)) (Nat.sub_le a0 1) (ldl (a1-1)) (Nat.sub_le a1 1)
theorem J537:(a0-1)/2=a1→(a1-1)/2=a2→0<a0→a2≠a0:=fun h1 h2 h3=>Ne.symm (J536 h1 h2 h3)
theorem J538:a0<a1→a1≤6→a0+1-a2≤6:=fun h1 h2=>J461 h2 h1
theorem J539:a0<a1+1→a1<a2→a2≤6→a3≤10*a1+a0→a3<1000:=lin [a0,a1,a2,a3] (V1 X3 (ln 1000)) [U1 X0 (lp X1 (ln 1)),(11,0,1,X1,X2),(11,0,0,X2,ln 6),U0 X3 (lp (.m 10 X1) X0)] rfl
theorem J540:a0<a1→a1≤6→a2≤a0+1+1→a2-1<100000:=lin [a0,a1,a2,a2-1] (V1 X3 (ln 100000)) [U0 X3 X2,U1 X0 X1,U0 X1 (ln 6),U0 X2 (lp (lp X0 (ln 1)) (ln 1))] rfl (Nat.sub_le a2 1)
theorem J541:a0<a1→a1≤6→a2≤a0+1+1→a2-1≤1000:=lin [a0,a1,a2,a2-1] (V0 X3 (ln 1000)) [U0 X3 X2,U1 X0 X1,U0 X1 (ln 6),U0 X2 (lp (lp X0 (ln 1)) (ln 1))] rfl (Nat.sub_le a2 1)
theorem J542:a0<a1→a1≤6→a2≤a0+1+1→min (a2-2) (a2-1)≤100:=lin [a0,a1,a2,min (a2-2) (a2-1),a2-2] (V0 X3 (ln 100)) [U0 X3 X4,U0 X4 X2,U1 X0 X1,U0 X1 (ln 6),U0 X2 (lp (lp X0 (ln 1)) (ln 1))] rfl (Nat.min_le_left (a2-2) (a2-1)) (Nat.sub_le a2 2)
theorem J543:a0=a1+a2→a3+(a0+a4)=a3+(a1+a4)+a2:=by lia
theorem J544:a0*101+a1≤a2*101+a3→a4+1≤a1→a0*101+a4<a2*101+a3:=lin [a0,a1,a2,a3,a4,a0*101,a2*101] (V1 (lp X5 X4) (lp X6 X3)) [U0 (lp X5 X1) (lp X6 X3),U0 (lp X4 (ln 1)) X1] rfl
theorem J545:i0+(a0:Int)+i1=i2→i2-(a0:Int)-i1=i0:=by lia
theorem J546:a0-a1<a2+1→a3=13∧a1+1<a0∧a4=10→a0-(a1+2)<a2:=fun h1 h2=>lsb (x:=a0) (y:=a1+2) (lin [a0,a1,a2,a3,a4,a0-a1,a0-(a1+2)] (V1 X6 X2) [U0 X0 (lp X5 X1),U2 (lp X6 (lp X1 (ln 2))) X0,U1 X5 (lp X2 (ln 1)),(0,0,2,X3,ln 13),(0,0,1,lp X1 (ln 1),X0),(0,0,2,X4,ln 10)] rfl (lsu a0 a1)) (lin [a0,a1,a2,a3,a4,a0-a1,a0-(a1+2)] (V1 X6 X2) [U0 X0 (lp X5 X1),(0,0,0,X0,lp X1 (ln 2)),U2 X6 (ln 0),U1 X5 (lp X2 (ln 1)),(0,0,2,X3,ln 13),U1 (lp X1 (ln 1)) X0,(0,0,2,X4,ln 10)] rfl (lsu a0 a1)) h1 h2.1 h2.2.1 h2.2.2
theorem J547:a0-a1≤a2+1→a0-(a1+2)≤a2:=lsb (x:=a0) (y:=a1+2) (lin [a0,a1,a2,a0-a1,a0-(a1+2)] (V0 X4 X2) [U0 X0 (lp X3 X1),U2 (lp X4 (lp X1 (ln 2))) X0,U0 X3 (lp X2 (ln 1))] rfl (lsu a0 a1)) (lin [a0,a1,a2,a0-(a1+2),a0-a1] (V0 X3 X2) [(0,0,0,X0,lp X1 (ln 2)),U2 X3 (ln 0),(0,0,0,X4,lp X2 (ln 1))] rfl)
theorem J548:a0<min (a1-2) (a1-1)→1+a0+1<a1:=lsb (x:=a1) (y:=2) (lin [a0,a1,min (a1-2) (a1-1),a1-2] (V1 (lp (lp (ln 1) X0) (ln 1)) X1) [U0 X2 X3,U2 (lp X3 (ln 2)) X1,U1 X0 X2] rfl (Nat.min_le_left (a1-2) (a1-1))) (lin [a0,a1,min (a1-2) (a1-1),a1-2] (0,1,lp (lp (ln 1) X0) (ln 1),X1) [U0 X2 X3,(0,0,0,X1,ln 2),U2 X3 (ln 0),U1 X0 X2] rfl (Nat.min_le_left (a1-2) (a1-1)))
theorem J549:a0≤a1→a0+1≤a1+1+a2:=lin [a0,a1,a2] (V0 (lp X0 (ln 1)) (lp (lp X1 (ln 1)) X2)) [U0 X0 X1] rfl
theorem J550:a0≤a1→a1≤a2→a0≤a2:=by lia
theorem J551:a0≤a1∧a1<a2∧a2≤a3→¬(a0<a1)→a1=a0:=by lia
theorem J552:a0+1+1≤a1→a1≤a2→a1-(a0+1+1)<a2-(a0+1):=lsb (x:=a1) (y:=a0+1+1) (lin [a0,a1,a2,a2-(a0+1),a1-(a0+1+1)] (V1 X4 X3) [U0 X2 (lp X3 (lp X0 (ln 1))),U2 (lp X4 (lp (lp X0 (ln 1)) (ln 1))) X1,(0,0,0,lp (lp X0 (ln 1)) (ln 1),X1),U0 X1 X2] rfl (lsu a2 (a0+1))) (lin [a0,a1,a2,a2-(a0+1),a1-(a0+1+1)] (V1 X4 X3) [U0 X2 (lp X3 (lp X0 (ln 1))),(0,0,0,X1,lp (lp X0 (ln 1)) (ln 1)),U2 X4 (ln 0),U0 (lp (lp X0 (ln 1)) (ln 1)) X1,U0 X1 X2] rfl (lsu a2 (a0+1)))
theorem J553:a0+a1+1≤200→a2<a3→a3=a1→a4≤a0+1+a2→a4<200:=lin [a0,a1,a2,a3,a4] (V1 X4 (ln 200)) [U0 (lp (lp X0 X1) (ln 1)) (ln 200),U1 X2 X3,U2 X3 X1,U0 X4 (lp (lp X0 (ln 1)) X2)] rfl
theorem J554:a0+a1≤100→a2<a3→a3=a1→a4≤a0+a2→a4≤99:=lin [a0,a1,a2,a3,a4] (V0 X4 (ln 99)) [U0 (lp X0 X1) (ln 100),U1 X2 X3,U2 X3 X1,U0 X4 (lp X0 X2)] rfl
theorem J555:a0-a1=a2→a0<a3+a1→a1<a0+1→(a3:Int)≠(a2:Int):=fun h1 h2 h3 e=>by rw[Int.ofNat_inj.mp e,←h1,Nat.sub_add_cancel (Nat.le_of_lt_succ h3)]at h2;exact Nat.lt_irrefl _ h2
theorem J556:a0<a1→a2=a1→a3=a2→(a0:Int)<(a3:Int):=fun h1 h2 h3=>Int.ofNat_lt.mpr (lin [a0,a1,a2,a3] (V1 X0 X3) [U1 X0 X1,U3 X2 X1,U3 X3 X2] rfl h1 h2 h3)
theorem J557:2*a0+1<a1→2*(a0:Int)+1<(a1:Int):=fun h1=>Int.lt_of_toNat_lt h1
theorem J558:2*a0+1<a1→a2=a1→2*a0+1<a2:=fun h1 h2=>J416 h1 (id (Eq.symm h2))
theorem J559:2*a0+2<a1→2*(a0:Int)+1+1<(a1:Int):=fun h1=>Int.lt_of_toNat_lt h1
theorem J560:2*a0+2<a1→a2=a1→2*a0+2<a2:=fun h1 h2=>J416 h1 (id (Eq.symm h2))
theorem J561:¬(2*a0+1<a1)→(a1:Int)≤2*(a0:Int)+1:=fun h1=>Int.ofNat_le.mpr (lin [a0,a1] (V0 X1 (lp (.m 2 X0) (ln 1))) [(1,0,3,lp (.m 2 X0) (ln 1),X1)] rfl h1)
theorem J562:a0=a1→¬(2*a2+1<a1)→a0≤2*a2+1:=lin [a0,a1,a2] (V0 X0 (lp (.m 2 X2) (ln 1))) [U2 X0 X1,(1,0,3,lp (.m 2 X2) (ln 1),X1)] rfl
theorem J563:a0≤7→a1≤8*a2→a3≤a1+a0+1→a3≤8*(a2+1):=lin [a0,a1,a2,a3] (V0 X3 (.m 8 (lp X2 (ln 1)))) [U0 X0 (ln 7),U0 X1 (.m 8 X2),U0 X3 (lp (lp X1 X0) (ln 1))] rfl
theorem J564:a0≤a1→a1≤a2→(a0:Int)≤(a2:Int):=by intros;omega
theorem J565:a0-a1=a2→a0<a3+(a1+1)→a3≠a2→a0<a3+a1:=fun h1 h2 h3=>(Nat.lt_or_gt_of_ne h3).elim (lsb (x:=a0) (y:=a1) (lin [a0,a1,a2,a3,a0-a1] (0,1,X0,lp X3 X1) [U2 (lp X4 X1) X0,U3 X4 X2,U1 X0 (lp X3 (lp X1 (ln 1))),U1 X3 X2] rfl) (lin [a0,a1,a2,a3,a0-a1] (0,1,X0,lp X3 X1) [(0,0,0,X0,X1),U2 X4 (ln 0),U3 X4 X2,(0,0,1,X0,lp X3 (lp X1 (ln 1))),U1 X3 X2] rfl) h1 h2) (lin [a0,a1,a2,a3,a0-a1] (V1 X0 (lp X3 X1)) [U0 X0 (lp X4 X1),U2 X4 X2,(0,0,1,X0,lp X3 (lp X1 (ln 1))),U1 X2 X3] rfl (lsu a0 a1) h1 h2)
theorem J566:¬(2*a0+2<a1)→(a1:Int)≤2*(a0:Int)+1+1:=fun h1=>Int.ofNat_le.mpr (lin [a0,a1] (V0 X1 (lp (lp (.m 2 X0) (ln 1)) (ln 1))) [(1,0,3,lp (.m 2 X0) (ln 2),X1)] rfl h1)
theorem J567:a0=a1→¬(2*a2+2<a1)→a0≤2*a2+2:=lin [a0,a1,a2] (V0 X0 (lp (.m 2 X2) (ln 2))) [U2 X0 X1,(1,0,3,lp (.m 2 X2) (ln 2),X1)] rfl
theorem J568:a0≤64→a1≤a0→a2≤a1→a2≤64:=lin [a0,a1,a2] (V0 X2 (ln 64)) [U0 X0 (ln 64),U0 X1 X0,U0 X2 X1] rfl
theorem J569:a0<a1→a1≤7→a2≤7→a3≤8*a0→a3+a2+1≤200:=lin [a0,a1,a2,a3] (V0 (lp (lp X3 X2) (ln 1)) (ln 200)) [(8,0,1,X0,X1),(8,0,0,X1,ln 7),U0 X2 (ln 7),U0 X3 (.m 8 X0)] rfl
theorem J570:a0<1000→a1<a0→((2*a1+1:Nat):Int)+1<2^63:=fun h1 h2=>Int.ofNat_lt.mpr (lin [a0,a1] (V1 (lp (lp (.m 2 X1) (ln 1)) (ln 1)) (ln 9223372036854775808)) [(2,0,1,X0,ln 1000),(2,0,1,X1,X0)] rfl h1 h2)
theorem J571:a0<1000→a1<a0→((2*a1+1:Nat):Int)<2^63:=fun h1 h2=>Int.ofNat_lt.mpr (lin [a0,a1] (V1 (lp (.m 2 X1) (ln 1)) (ln 9223372036854775808)) [(2,0,1,X0,ln 1000),(2,0,1,X1,X0)] rfl h1 h2)
theorem J572:a0<1000→a1<a0→(a1:Int)<2^63:=fun h1 h2=>J444 h1 h2 rfl
theorem J573:(a0-1)/2=a1→0<a0→a0<a2→a2=a3→a3≤2*a1+1→False:=lsb (x:=a0) (y:=1) (lin [a0,a1,a2,a3,(a0-1)/2,a0-1] lf [U0 (.m 2 X4) X5,U2 (lp X5 (ln 1)) X0,(0,2,2,X4,X1),(0,0,1,ln 0,X0),U1 X0 X2,U2 X2 X3,U0 X3 (lp (.m 2 X1) (ln 1))] rfl (ldl (a0-1))) (lin [a0,a1,a2,a3,(a0-1)/2,a0-1] lf [U0 (.m 2 X4) X5,(0,0,0,X0,ln 1),U2 X5 (ln 0),(0,2,2,X4,X1),U1 (ln 0) X0,U1 X0 X2,U2 X2 X3,U0 X3 (lp (.m 2 X1) (ln 1))] rfl (ldl (a0-1)))
theorem J574:a0<a1+1→a1<a2→a2≤6→a3=a4→a4≤a0+1→a3+1<1000:=lin [a0,a1,a2,a3,a4] (V1 (lp X3 (ln 1)) (ln 1000)) [U1 X0 (lp X1 (ln 1)),U1 X1 X2,U0 X2 (ln 6),U2 X3 X4,U0 X4 (lp X0 (ln 1))] rfl
theorem J575:a0<a1-1→a1≤a2+1+1→a2<a3→a3≤6→(a0:Int)+1<2^63:=fun h1 h2 h3 h4=>Int.ofNat_lt.mpr (lin [a0,a1,a2,a3,a1-1] (V1 (lp X0 (ln 1)) (ln 9223372036854775808)) [U0 X4 X1,U1 X0 X4,U0 X1 (lp (lp X2 (ln 1)) (ln 1)),U1 X2 X3,U0 X3 (ln 6)] rfl (Nat.sub_le a1 1) h1 h2 h3 h4)
theorem J576:a0<a1-1→a1≤a2+1+1→a2<a3→a3≤6→(a0:Int)<2^63:=fun h1 h2 h3 h4=>Int.ofNat_lt.mpr (lin [a0,a1,a2,a3,a1-1] (V1 X0 (ln 9223372036854775808)) [U0 X4 X1,U1 X0 X4,U0 X1 (lp (lp X2 (ln 1)) (ln 1)),U1 X2 X3,U0 X3 (ln 6)] rfl (Nat.sub_le a1 1) h1 h2 h3 h4)
theorem J577:a0+a1≤a2→a2<a3→a0+(a1+1)≤a3:=lin [a0,a1,a2,a3] (V0 (lp X0 (lp X1 (ln 1))) X3) [U0 (lp X0 X1) X2,U1 X2 X3] rfl
theorem J578:a0≤a1∧a1<a2∧a2≤a3→a2≠a1:=fun h1 h2=>lin [a0,a1,a2,a3] lf [(0,0,0,X0,X1),U1 X1 X2,(0,0,0,X2,X3),U2 X2 X1] rfl h1.1 h1.2.1 h1.2.2 h2
theorem J579:a0+a1≤100→a2<a3→a3=a1→a4=a5→a5≤a0+a2→a4<10000:=lin [a0,a1,a2,a3,a4,a5] (V1 X4 (ln 10000)) [U0 (lp X0 X1) (ln 100),U1 X2 X3,U2 X3 X1,U2 X4 X5,U0 X5 (lp X0 X2)] rfl
theorem J580:a0+a1≤40→a2<a3→a3=a1→a4≤a0+a2→a4<50:=lin [a0,a1,a2,a3,a4] (V1 X4 (ln 50)) [U0 (lp X0 X1) (ln 40),U1 X2 X3,U2 X3 X1,U0 X4 (lp X0 X2)] rfl
theorem J581:a0+a1≤40→a2<a3→a3=a1→a4=a5→a5≤a0+a2→a4<10000:=lin [a0,a1,a2,a3,a4,a5] (V1 X4 (ln 10000)) [U0 (lp X0 X1) (ln 40),U1 X2 X3,U2 X3 X1,U2 X4 X5,U0 X5 (lp X0 X2)] rfl
theorem J582:(a0-1)/2<a1→a1=a2→(a0-1)/2<a2:=fun h1 h2=>J419 h1 h2
theorem J583:0<i0→0≤i1→i2=i3+i0+(i4+i1)→i5=i2→i5=i3+i4→False:=by lia
theorem J584:a0<a1→a2=a1→(a0-1)/2<a2:=lin [a0,a1,a2,(a0-1)/2,a0-1] (2,1,X3,X2) [U0 (.m 2 X3) X4,U0 X4 X0,(2,0,1,X0,X1),(0,2,2,X2,X1)] rfl (ldl (a0-1)) (Nat.sub_le a0 1)
theorem J585:a0<20→a1<801+a2→a2<a0-a3→a1<900:=lin [a0,a1,a2,a3,a0-a3] (V1 X1 (ln 900)) [U0 X4 X0,U1 X0 (ln 20),U1 X1 (lp (ln 801) X2),U1 X2 X4] rfl (Nat.sub_le a0 a3)
theorem J586:a0<a1→a1<a2→a2=a3→a3-a1<a3-a0:=lsb (x:=a3) (y:=a1) (lin [a0,a1,a2,a3,a3-a0,a3-a1] (V1 X5 X4) [U0 X3 (lp X4 X0),U2 (lp X5 X1) X3,U1 X0 X1,(0,0,1,X1,X2),(0,0,2,X2,X3)] rfl (lsu a3 a0)) (lin [a0,a1,a2,a3,a3-a1,a3-a0] (0,1,X4,X5) [U0 X3 X1,(0,0,2,X4,ln 0),(0,0,1,X0,X1),U1 X1 X2,U2 X2 X3] rfl)
theorem J587:a0<a1→a1≤a2→a3≤2*(a2-a1)→a4≤2→a5≤a0→min (a0-a5) (a2-a5)+a4+a3≤2*(a2-a5):=lsb (x:=a2) (y:=a1) (lsb (x:=a0) (y:=a5) (lin [a0,a1,a2,a3,a4,a5,min (a0-a5) (a2-a5),a0-a5,a2-a5,a2-a1] (V0 (lp (lp X6 X4) X3) (.m 2 X8)) [U0 X6 X7,(2,0,0,X2,lp X8 X5),U2 (lp X7 X5) X0,(2,0,2,lp X9 X1,X2),(2,0,1,X0,X1),(0,0,0,X1,X2),U0 X3 (.m 2 X9),U0 X4 (ln 2),U0 X5 X0] rfl (Nat.min_le_left (a0-a5) (a2-a5)) (lsu a2 a5)) (lin [a0,a1,a2,a3,a4,a5,min (a0-a5) (a2-a5),a0-a5,a2-a5,a2-a1] (V0 (lp (lp X6 X4) X3) (.m 2 X8)) [U0 X6 X7,(2,0,0,X2,lp X8 X5),(0,0,0,X0,X5),U2 X7 (ln 0),(2,0,2,lp X9 X1,X2),(2,0,1,X0,X1),(0,0,0,X1,X2),U0 X3 (.m 2 X9),U0 X4 (ln 2),(2,0,0,X5,X0)] rfl (Nat.min_le_left (a0-a5) (a2-a5)) (lsu a2 a5))) (lsb (x:=a0) (y:=a5) (lin [a0,a1,a2,a3,a4,a5,min (a0-a5) (a2-a5),a0-a5,a2-a5,a2-a1] (V0 (lp (lp X6 X4) X3) (.m 2 X8)) [U0 X6 X7,(2,0,0,X2,lp X8 X5),U2 (lp X7 X5) X0,(0,0,0,X2,X1),(2,0,2,X9,ln 0),(2,0,1,X0,X1),(2,0,0,X1,X2),U0 X3 (.m 2 X9),U0 X4 (ln 2),U0 X5 X0] rfl (Nat.min_le_left (a0-a5) (a2-a5)) (lsu a2 a5)) (lin [a0,a1,a2,a3,a4,a5,min (a0-a5) (a2-a5),a0-a5,a2-a5,a2-a1] (V0 (lp (lp X6 X4) X3) (.m 2 X8)) [U0 X6 X7,(2,0,0,X2,lp X8 X5),(0,0,0,X0,X5),U2 X7 (ln 0),(0,0,0,X2,X1),(2,0,2,X9,ln 0),(2,0,1,X0,X1),(2,0,0,X1,X2),U0 X3 (.m 2 X9),U0 X4 (ln 2),(2,0,0,X5,X0)] rfl (Nat.min_le_left (a0-a5) (a2-a5)) (lsu a2 a5)))
theorem J588:a0+1≤a1→a1≤64→a2=a0→a3=a4→a4≤a1→a2+a3<1000:=lin [a0,a1,a2,a3,a4] (V1 (lp X2 X3) (ln 1000)) [U0 (lp X0 (ln 1)) X1,(2,0,0,X1,ln 64),U2 X2 X0,U2 X3 X4,U0 X4 X1] rfl
theorem J589:2*a0+1<a1→a1-a0≤a2+1→a2=a2-1+1:=fun h1 h2=>Nat.le_antisymm (lin [a0,a1,a2,a2-1,a1-a0] (V0 X2 (lp X3 (ln 1))) [U0 X2 (lp X3 (ln 1)),(0,0,1,lp (.m 2 X0) (ln 1),X1),(0,0,0,X4,lp X2 (ln 1))] rfl (lsu a2 1) h1 h2) (lsb (x:=a2) (y:=1) (lin [a0,a1,a2,a2-1,a1-a0] (V0 (lp X3 (ln 1)) X2) [U2 (lp X3 (ln 1)) X2,(0,0,1,lp (.m 2 X0) (ln 1),X1),(0,0,0,X4,lp X2 (ln 1))] rfl) (lin [a0,a1,a2,a1-a0,a2-1] (V0 (lp X4 (ln 1)) X2) [U0 X3 X1,(2,0,0,X1,lp X3 X0),(0,0,0,X2,ln 1),U2 X4 (ln 0),U1 (lp (.m 2 X0) (ln 1)) X1,U0 X3 (lp X2 (ln 1))] rfl (Nat.sub_le a1 a0) (lsu a1 a0)) h1 h2)
theorem J590:a0+a1=a2+a3→(a2:Int)+(i0+((a3:Int)+0))+(i1+i2)=(a0:Int)+i0+i1+(a1:Int)+i2:=by lia
theorem J591:a0-a1<a2+1→a1≤a3∧a3<a4∧a4≤a0→a0-a4<a2:=fun h1 h2=>lsb (x:=a0) (y:=a4) (lin [a0,a1,a2,a3,a4,a0-a1,a0-a4] (V1 X6 X2) [U0 X0 (lp X5 X1),U2 (lp X6 X4) X0,U1 X5 (lp X2 (ln 1)),U0 X1 X3,U1 X3 X4,(0,0,0,X4,X0)] rfl (lsu a0 a1)) (lin [a0,a1,a2,a3,a4,a0-a1,a0-a4] (V1 X6 X2) [U0 X0 (lp X5 X1),(0,0,0,X0,X4),U2 X6 (ln 0),U1 X5 (lp X2 (ln 1)),U0 X1 X3,U1 X3 X4,U0 X4 X0] rfl (lsu a0 a1)) h1 h2.1 h2.2.1 h2.2.2
theorem J592:a0≤a1∧a1<a2∧a2≤a3→a4+(min a1 a3-a0+0)=a4+(a1-a0):=fun h1=>Nat.le_antisymm ((fun h1=>lsb (x:=min a1 a3) (y:=a0) (lin [a0,a1,a2,a3,a4,min a1 a3,a1-a0,min a1 a3-a0] (V0 (lp X4 (lp X7 (ln 0))) (lp X4 X6)) [U0 X5 X1,U0 X1 (lp X6 X0),U2 (lp X7 X0) X5,(0,0,0,X0,X1),(0,0,1,X1,X2),(0,0,0,X2,X3)] rfl (Nat.min_le_left a1 a3) (lsu a1 a0)) (lin [a0,a1,a2,a3,a4,min a1 a3,min a1 a3-a0,a1-a0] (V0 (lp X4 (lp X6 (ln 0))) (lp X4 X7)) [(0,0,0,X5,X0),U2 X6 (ln 0),(0,0,0,X0,X1),(0,0,1,X1,X2),(0,0,0,X2,X3)] rfl) h1.1 h1.2.1 h1.2.2) h1) ((fun h1=>lsb (x:=a1) (y:=a0) (lmn (x:=a1) (y:=a3) (lin [a0,a1,a2,a3,a4,min a1 a3,min a1 a3-a0,a1-a0] (V0 (lp X4 X7) (lp X4 (lp X6 (ln 0)))) [U0 X5 (lp X6 X0),(0,0,0,X1,X3),U3 X5 X1,U2 (lp X7 X0) X1,(0,0,0,X0,X1),(0,0,1,X1,X2),(0,0,0,X2,X3)] rfl (lsu (min a1 a3) a0)) (lin [a0,a1,a2,a3,a4,min a1 a3,a1-a0,min a1 a3-a0] (0,0,lp X4 X6,lp X4 (lp X7 (ln 0))) [U0 X3 X1,(0,0,2,X5,X3),(0,0,2,lp X6 X0,X1),(0,0,0,X0,X1),U1 X1 X2,U0 X2 X3] rfl)) (lin [a0,a1,a2,a3,a4,a1-a0,min a1 a3-a0] (V0 (lp X4 X5) (lp X4 (lp X6 (ln 0)))) [(0,0,0,X1,X0),U2 X5 (ln 0),(0,0,0,X0,X1),(0,0,1,X1,X2),(0,0,0,X2,X3)] rfl) h1.1 h1.2.1 h1.2.2) h1)
theorem J593:a0+1=a1→a1+a2<800→a3+a4=a2→a5≤a0+(a4-(a6+1))→a5+a3<800:=lin [a0,a1,a2,a3,a4,a5,a6,a4-(a6+1)] (V1 (lp X5 X3) (ln 800)) [U0 X7 X4,U2 (lp X0 (ln 1)) X1,U1 (lp X1 X2) (ln 800),U2 (lp X3 X4) X2,U0 X5 (lp X0 X7)] rfl (Nat.sub_le a4 (a6+1))
theorem J594:i0+(a0:Int)+i1≠i2→i3=i2-(a0:Int)-i1→i4=i2→¬(i0+(a0:Int)+i1<i4)→¬(i3<i0)→False:=by lia
theorem J595:a0-a1≤a2+1+1→a1<a3→a0-a3≤a2+1:=lsb (x:=a0) (y:=a3) (lin [a0,a1,a2,a3,a0-a1,a0-a3] (V0 X5 (lp X2 (ln 1))) [U0 X0 (lp X4 X1),U2 (lp X5 X3) X0,U0 X4 (lp (lp X2 (ln 1)) (ln 1)),U1 X1 X3] rfl (lsu a0 a1)) (lin [a0,a1,a2,a3,a0-a3,a0-a1] (V0 X4 (lp X2 (ln 1))) [(0,0,0,X0,X3),U2 X4 (ln 0),(0,0,0,X5,lp (lp X2 (ln 1)) (ln 1)),(0,0,1,X1,X3)] rfl)
theorem J596:(a0-1)/2<a1→a1=a2→a2<1000→(((a0-1)/2:Nat):Int)<2^63:=fun h1 h2 h3=>J444 h3 h1 h2
theorem J597:a0≠0→(a0-1)/2<a0:=fun h1=>(Nat.lt_or_gt_of_ne h1).elim (lin [a0,(a0-1)/2] (0,1,X1,X0) [U1 X0 (ln 0)] rfl) (lin [a0,(a0-1)/2,a0-1] (2,1,X1,X0) [U0 (.m 2 X1) X2,U0 X2 X0,U1 (ln 0) X0] rfl (ldl (a0-1)) (Nat.sub_le a0 1))
theorem J598:a0+1=a1→a1+a2<a3+1→a4+a5=a2→a6≤a0+(a5-(a7+1))→a6+a4<a3:=lin [a0,a1,a2,a3,a4,a5,a6,a7,a5-(a7+1)] (V1 (lp X6 X4) X3) [U0 X8 X5,U2 (lp X0 (ln 1)) X1,U1 (lp X1 X2) (lp X3 (ln 1)),U2 (lp X4 X5) X2,U0 X6 (lp X0 X8)] rfl (Nat.sub_le a5 (a7+1))
theorem J599:a0+2*(a1-a2)<10000→a2≤a3∧a3<a4∧a4≤a1→a5≤a0+1→a5+1+2*(a1-a4)<10000:=fun h1 h2 h3=>lsb (x:=a1) (y:=a4) (lin [a0,a1,a2,a3,a4,a5,a1-a2,a1-a4] (V1 (lp (lp X5 (ln 1)) (.m 2 X7)) (ln 10000)) [(2,0,0,X1,lp X6 X2),(2,0,2,lp X7 X4,X1),U1 (lp X0 (.m 2 X6)) (ln 10000),(2,0,0,X2,X3),(2,0,1,X3,X4),(0,0,0,X4,X1),U0 X5 (lp X0 (ln 1))] rfl (lsu a1 a2)) (lin [a0,a1,a2,a3,a4,a5,a1-a2,a1-a4] (V1 (lp (lp X5 (ln 1)) (.m 2 X7)) (ln 10000)) [(2,0,0,X1,lp X6 X2),(0,0,0,X1,X4),(2,0,2,X7,ln 0),U1 (lp X0 (.m 2 X6)) (ln 10000),(2,0,0,X2,X3),(2,0,1,X3,X4),(2,0,0,X4,X1),U0 X5 (lp X0 (ln 1))] rfl (lsu a1 a2)) h1 h2.1 h2.2.1 h2.2.2 h3
theorem J600:a0+12*(a1-a2)<20000→a2≤a3∧a3<a4∧a4≤a1→a5<10→a6=a0+(a3-a2)→a6+(a5+0)+12*(a1-a4)<20000:=fun h1 h2 h3 h4=>lsb (x:=a3) (y:=a2) (lsb (x:=a1) (y:=a4) (lin [a0,a1,a2,a3,a4,a5,a6,a1-a2,a1-a4,a3-a2] (V1 (lp (lp X6 (lp X5 (ln 0))) (.m 12 X8)) (ln 20000)) [(12,0,0,X1,lp X7 X2),(12,0,2,lp X8 X4,X1),U2 (lp X9 X2) X3,U1 (lp X0 (.m 12 X7)) (ln 20000),(11,0,0,X2,X3),(12,0,1,X3,X4),(0,0,0,X4,X1),U1 X5 (ln 10),U2 X6 (lp X0 X9)] rfl (lsu a1 a2)) (lin [a0,a1,a2,a3,a4,a5,a6,a1-a2,a1-a4,a3-a2] (V1 (lp (lp X6 (lp X5 (ln 0))) (.m 12 X8)) (ln 20000)) [(12,0,0,X1,lp X7 X2),(0,0,0,X1,X4),(12,0,2,X8,ln 0),U2 (lp X9 X2) X3,U1 (lp X0 (.m 12 X7)) (ln 20000),(11,0,0,X2,X3),(12,0,1,X3,X4),(12,0,0,X4,X1),U1 X5 (ln 10),U2 X6 (lp X0 X9)] rfl (lsu a1 a2))) (lsb (x:=a1) (y:=a4) (lin [a0,a1,a2,a3,a4,a5,a6,a1-a2,a1-a4,a3-a2] (V1 (lp (lp X6 (lp X5 (ln 0))) (.m 12 X8)) (ln 20000)) [(12,0,0,X1,lp X7 X2),(12,0,2,lp X8 X4,X1),(0,0,0,X3,X2),U2 X9 (ln 0),U1 (lp X0 (.m 12 X7)) (ln 20000),(12,0,0,X2,X3),(12,0,1,X3,X4),(0,0,0,X4,X1),U1 X5 (ln 10),U2 X6 (lp X0 X9)] rfl (lsu a1 a2)) (lin [a0,a1,a2,a3,a4,a5,a6,a1-a2,a1-a4,a3-a2] (V1 (lp (lp X6 (lp X5 (ln 0))) (.m 12 X8)) (ln 20000)) [(12,0,0,X1,lp X7 X2),(0,0,0,X1,X4),(12,0,2,X8,ln 0),(0,0,0,X3,X2),U2 X9 (ln 0),U1 (lp X0 (.m 12 X7)) (ln 20000),(12,0,0,X2,X3),(12,0,1,X3,X4),(12,0,0,X4,X1),U1 X5 (ln 10),U2 X6 (lp X0 X9)] rfl (lsu a1 a2))) h1 h2.1 h2.2.1 h2.2.2 h3 h4
theorem J601:a0+2*(a1-a2)<10000→a2≤a3∧a3<a4∧a4≤a1→a5≤a0+1→a5<10000:=fun h1 h2 h3=>lin [a0,a1,a2,a3,a4,a5,a1-a2] (V1 X5 (ln 10000)) [(2,0,0,X1,lp X6 X2),U1 (lp X0 (.m 2 X6)) (ln 10000),(2,0,0,X2,X3),(2,0,1,X3,X4),(2,0,0,X4,X1),U0 X5 (lp X0 (ln 1))] rfl (lsu a1 a2) h1 h2.1 h2.2.1 h2.2.2 h3
end
end
section
open PySem PySem.W PySem.Calls PyProof.Rows
structure Rm(n:Nat)(A:Around):Prop where
 hd:A.handled=none
 dp:A.depth+n<1000
 un:A.units+20*n<9900
theorem Rm.deep{n:Nat}{A:Around}(h:Rm (n+1) A)(env:Env):Rm n (A.deeper env):=⟨h.hd,by have:=h.dp;show A.depth+1+n<1000;exact J175 this,by have:=h.un;show A.units+3+20*n<9900;exact J192 this⟩
theorem Rm.in1{n:Nat}{A:Around}(h:Rm (n+1) A):Rm n A.in1:=⟨h.hd,by have:=h.dp;show A.depth+n<1000;exact J176 this,by have:=h.un;show A.units+1+20*n<9900;exact J191 this⟩
theorem Rm.le{n m:Nat}{A:Around}(h:Rm n A)(hm:m≤n):Rm m A:=⟨h.hd,by have:=h.dp;exact J428 this hm,by have:=h.un;exact J427 this hm⟩
theorem Rm.room{n:Nat}{A:Around}(h:Rm n A):A.depth<recursionLimit:=by have:=h.dp;show A.depth<1000;exact J194 this
def NsK(K:GH)(a:Addr)(m:Str→Option Value):Prop:=∃o es ep,K a=some o∧o.data=.dict es ep∧StrKeys es∧∀name,nsFind es name=m name
theorem NsK.ns{K:GH}{a:Addr}{m:Str→Option Value}(h:NsK K a m){hp:Heap}(hs:∀a o,K a=some o→hp.get? a=some o):hp.Ns a m:=by
 refine x3_1 h fun o es ep h1 h2=>?_;clear h;exact⟨o,es,ep,hs _ _ h1,h2⟩
structure Tp(K:GH)(mg mb:Str→Option Value):Prop where
 g:NsK K mainGlobals mg
 b:NsK K builtinsNs mb
 lim:∃mc,NsK K cStatics mc∧mc "sys.recursionlimit" =none
structure Fn(K:GH)(f:Addr)(fd:FuncData):Prop where
 at_:K f=some {cls:=.type "function",data:=.func fd}
 code:∃c o vs t,fd.code=.ref c∧K c=some o∧o.data=.fields vs∧vs[1]? =some (.str fd.qualname t)
structure FnOk(fd:FuncData)(params rest:List Str)(body:List Stmt):Prop where
 body:fd.body=.stmts body
 clo:fd.closure=[]
 gl:fd.globals=mainGlobals
 bi:fd.builtins=builtinsNs
 fn:fd.scope.kind=.function
 co:fd.scope.isCoroutine=false
 gen:fd.scope.isGenerator=false
 bind:∀vals:List Value,vals.length=params.length→bindArgs fd ⟨vals,[]⟩=pure (params.zip vals)
 ndS:(fd.scope.names.map (·.1)).Nodup
 names:∀x∈params++rest,(x==("__debug__" :Str))=false∧(fd.scope.names.lookup x=some .local∨fd.scope.names.lookup x=some .cell)
 nd:(params++rest).Nodup
theorem cellsFrom_mem:∀(names:List (Str×NameKind)) (n:Nat) (acc:List (Str×Addr)) {x:Str} {c:Addr},(x,c)∈cellsFrom n names acc→(x,NameKind.cell)∈names∨(x,c)∈acc
 |[],_,_,_,_,h=>.inr h
 |(y,k)::r,n,acc,x,c,h=>by
  unfold cellsFrom at h
  split at h
  ·rename_i hk;rcases cellsFrom_mem r _ _ h with h|h
   ·exact .inl (.tail _ h)
   ·rcases List.mem_cons.mp h with e|h
    ·cases e;rw[eq_of_beq hk];exact .inl (.head _)
    ·exact .inr h
  ·rcases cellsFrom_mem r _ _ h with h|h
   ·exact .inl (.tail _ h)
   ·exact .inr h
theorem cellsFrom_has:∀(names:List (Str×NameKind)) (n:Nat) (acc:List (Str×Addr)) {x:Str},((x,NameKind.cell)∈names∨∃c,(x,c)∈acc)→∃c,(x,c)∈cellsFrom n names acc
 |[],_,_,_,h=>by
  rcases h with h|h
  ·cases h
  ·exact h
 |(y,k)::r,n,acc,x,h=>by
  unfold cellsFrom
  split
  ·refine cellsFrom_has r _ _ ?_;rcases h with h|⟨c,h⟩
   ·rcases List.mem_cons.mp h with e|h
    ·cases e;exact .inr ⟨_,.head _⟩
    ·exact .inl h
   ·exact .inr ⟨c,.tail _ h⟩
  ·rename_i hk;refine cellsFrom_has r _ _ ?_;rcases h with h|h
   ·rcases List.mem_cons.mp h with e|h
    ·cases e;exact absurd rfl hk
    ·exact .inl h
   ·exact .inr h
theorem cellsFrom_nodup:∀(names:List (Str×NameKind)) (n:Nat) (acc:List (Str×Addr)),(names.map (·.1)).Nodup→(acc.map (·.1)).Nodup→(∀x∈names.map (·.1),x∉acc.map (·.1))→((cellsFrom n names acc).map (·.1)).Nodup
 |[],_,_,_,h,_=>h
 |(y,k)::r,n,acc,hn,ha,hd=>by
  rw[List.map_cons,List.nodup_cons]at hn;unfold cellsFrom
  split
  ·refine cellsFrom_nodup r _ _ hn.2 ?_ ?_
   ·rw[List.map_cons,List.nodup_cons];exact⟨hd y (.head _),ha⟩
   ·intro x hx hm;rw[List.map_cons]at hm;rcases List.mem_cons.mp hm with e|hm
    ·exact hn.1 (e▸hx)
    ·exact hd x (.tail _ hx) hm
  ·exact cellsFrom_nodup r _ _ hn.2 ha fun x hx=>hd x (.tail _ hx)
noncomputable def varsOf(params rest:List Str)(vals:List Value):Vs:=(params.zip vals).map (fun p=>(p.1,some p.2))++rest.map fun x=>(x,none)
theorem lk_append{a b:Vs}{x:Str}:lk (a++b) x=if x∈a.map (·.1)then lk a x else lk b x:=by
 induction a with
 |nil=>simp
 |cons p r ih=>
  simp only[List.cons_append,lk,List.map_cons,List.mem_cons];by_cases h:x=p.1
  ·simp[h]
  ·simp only[h,false_or];exact ih
theorem bindL_eq(kd:Str→Option NameKind):∀(binds:List (Str×Value)) (m:Str→Option Value),(binds.map (·.1)).Nodup→∀x,kd x=some .local→bindL kd binds m x=if x∈binds.map (·.1)then lk (binds.map fun p=>(p.1,some p.2)) x else m x
 |[],m,_,x,_=>by simp[bindL]
 |(n,v)::r,m,hn,x,hx=>by
  rw[List.map_cons,List.nodup_cons]at hn;unfold bindL;rw[bindL_eq kd r _ hn.2 x hx];simp only[List.map_cons,List.mem_cons,lk];by_cases h:x=n
  ·subst h;simp only[true_or,if_true,hx];rw[if_neg hn.1]
  ·simp only[h,false_or,if_false]
   split
   ·rfl
   ·split
    ·simp[h]
    ·rfl
theorem bindC_eq(kd:Str→Option NameKind):∀(binds:List (Str×Value)) (m:Str→Option Value),(binds.map (·.1)).Nodup→∀x,kd x≠some .local→bindC kd binds m x=if x∈binds.map (·.1)then lk (binds.map fun p=>(p.1,some p.2)) x else m x
 |[],m,_,x,_=>by simp[bindC]
 |(n,v)::r,m,hn,x,hx=>by
  rw[List.map_cons,List.nodup_cons]at hn;unfold bindC;rw[bindC_eq kd r _ hn.2 x hx];simp only[List.map_cons,List.mem_cons,lk];by_cases h:x=n
  ·subst h;simp only[true_or,if_true,hx,if_false];rw[if_neg hn.1]
  ·simp only[h,false_or,if_false]
   split
   ·rfl
   ·split
    ·rfl
    ·simp[h]
noncomputable def but(led:List (Addr×Obj))(h:Heap):GH:=fun b=>open Classical in if b∈led.map (·.1)then none else h.get? b
theorem but_at{led:List (Addr×Obj)}{h:Heap}{a:Addr}{o:Obj}(e:h.get? a=some o)(hn:a∉led.map (·.1)):but led h a=some o:=by unfold but;rw[if_neg hn];exact e
theorem but_sub{led:List (Addr×Obj)}{h:Heap}{a:Addr}{o:Obj}(e:but led h a=some o):h.get? a=some o∧a∉led.map (·.1):=by
 unfold but at e
 split at e
 ·cases e
 ·rename_i hn;exact⟨e,hn⟩
theorem but_le{G:GH}{led:List (Addr×Obj)}{h:Heap}(hs:∀a o,G a=some o→h.get? a=some o)(hl:∀p∈led,G p.1=none):GLe G (but led h):=by
 intro a o e;refine but_at (hs a o e) fun hm=>?_;refine x1_1 (List.mem_map.mp hm) fun p hp eq2=>?_;subst eq2;rw[hl p hp]at e;cases e
def rq(R:Result→Shared→Prop):Flow→Shared→Prop:=fun fl s=>R (.ok (.ret (match fl with| .ret v=>v|_=>.none))) s
def wq(N:Shared→Prop)(Q:Flow→Shared→Prop):Flow→Shared→Prop
 | .next=>N| .cont=>N| .brk=>Q .next| .ret v=>Q (.ret v)
section
variable(M:Model)(A:Around)(env:Env)
def sq(rest:List Stmt)(Q:Flow→Shared→Prop)(E:Value→Shared→Prop):Flow→Shared→Prop
 | .next=>wpAny M A (execs rest env) Q E| .cont=>Q .cont| .brk=>Q .brk| .ret v=>Q (.ret v)
def tq(body orelse:List Stmt)(Q Q':Flow→Shared→Prop)(E:Value→Shared→Prop):Bool→Shared→Prop:=fun b s=>if b=true then wpAny M A (execs body env) Q E s else wpAny M A (execs orelse env) Q' E s
def oq2(op:Operator)(a:Value)(Q:Value→Shared→Prop)(E:Value→Shared→Prop):Value→Shared→Prop:=fun b=>wpAny M A (binaryOp op a b) Q E
def oq(op:Operator)(r:Expr)(Q:Value→Shared→Prop)(E:Value→Shared→Prop):Value→Shared→Prop:=fun a=>wpAny M A (eval r env) (oq2 M A op a Q E) E
def cq3(Q:Bool→Shared→Prop)(E:Value→Shared→Prop):Value→Shared→Prop:=fun c=>wpAny M A (truthy c) Q E
def cq2(op:CmpOp)(a:Value)(Q:Bool→Shared→Prop)(E:Value→Shared→Prop):Value→Shared→Prop:=fun b=>wpAny M A (compareOp op a b) (cq3 M A Q E) E
def cq(op:CmpOp)(r:Expr)(Q:Bool→Shared→Prop)(E:Value→Shared→Prop):Value→Shared→Prop:=fun a=>wpAny M A (eval r env) (cq2 M A op a Q E) E
def aq2(v:Value)(Q:List Value→Shared→Prop):List Value→Shared→Prop:=fun vs=>Q (v::vs)
def aq(pos:Pos)(rest:List Expr)(Q:List Value→Shared→Prop)(E:Value→Shared→Prop):Value→Shared→Prop:=fun v=>wpAny M A (spliced (backTo pos (starEach rest env))) (aq2 v Q) E
def nq(Q:Flow→Shared→Prop):Unit→Shared→Prop:=fun _=>Q .next
def xq(Q:Flow→Shared→Prop):Value→Shared→Prop:=fun _=>Q .next
def anq(x:Str)(Q:Flow→Shared→Prop)(E:Value→Shared→Prop):Value→Shared→Prop:=fun v=>wpAny M A (storeName env x v) (nq Q) E
def uq3(v ov:Value)(Q:Flow→Shared→Prop)(E:Value→Shared→Prop):Value→Shared→Prop:=fun iv=>wpAny M A (setItem ov iv v) (nq Q) E
def uq2(i:Expr)(v:Value)(Q:Flow→Shared→Prop)(E:Value→Shared→Prop):Value→Shared→Prop:=fun ov=>wpAny M A (eval i env) (uq3 M A v ov Q E) E
def uq(o i:Expr)(Q:Flow→Shared→Prop)(E:Value→Shared→Prop):Value→Shared→Prop:=fun v=>wpAny M A (eval o env) (uq2 M A env i v Q E) E
def fq3(target:Expr)(body orelse:List Stmt)(Q:Flow→Shared→Prop)(E:Value→Shared→Prop):Value→Shared→Prop:=fun it=>
 codeAny M A (.forLoop target it body orelse env) (fun r s'=>match r with| .ok f=>Q f s'| .error e=>cameBackBy M A env E e s')
def fq(target:Expr)(body orelse:List Stmt)(Q:Flow→Shared→Prop)(E:Value→Shared→Prop):Value→Shared→Prop:=fun x=>wpAny M A (pyIter x) (fq3 M A env target body orelse Q E) E
def crq(Q:Value→Shared→Prop)(E:Value→Shared→Prop):Result→Shared→Prop:=fun r s'=>match r with| .ok (.ret v)=>Q v s'| .ok _=>False| .error e=>E e s'
def dq(f:Addr)(K:GH)(Q:Value→Shared→Prop)(E:Value→Shared→Prop):List Value→Shared→Prop:=fun vals s₁=>(∀a o,K a=some o→s₁.heap.get? a=some o)∧codeAny M A (.call (.ref f) ⟨vals,[]⟩) (crq Q E) s₁
def kq(id:String)(Q:Value→Shared→Prop)(E:Value→Shared→Prop):List Value→Shared→Prop:=fun vals=>wpAny M A (call (.builtin id) vals) Q E
def bq(body:List Stmt)(Q:Flow→Shared→Prop)(E:Value→Shared→Prop):Unit→Shared→Prop:=fun _=>wpAny M A (execs body env) Q E
end
section
variable{M:Model}{A:Around}{env:Env}{E:Value→Shared→Prop}{s:Shared}
theorem xc{st:Stmt}{rest:List Stmt}{Q:Flow→Shared→Prop}(h:wpAny M A (exec st env) (sq M A env rest Q E) E s):wpAny M A (execs (st::rest) env) Q E s:=
 wpAny_execs_cons (wpAny_mono h (fun f _ h=>by cases f<;>exact h) fun _ _ h=>h)
theorem xif{test:Expr}{body orelse:List Stmt}{pos:Pos}{Q:Flow→Shared→Prop}(h:wpAny M A (isTrue test env (eval test env)) (tq M A env body orelse Q Q E) E s):wpAny M A (exec (.If test body orelse pos) env) Q E s:=wpAny_If h
theorem xop{op:Operator}{l r:Expr}{pos:Pos}{Q:Value→Shared→Prop}(h:wpAny M A (eval l env) (oq M A env op r Q E) E s):wpAny M A (eval (.BinOp l op r pos) env) Q E s:=wpAny_BinOp h
theorem xcmp{op:CmpOp}{l r:Expr}{pos:Pos}{whole:Sem Value}{Q:Bool→Shared→Prop}(h:wpAny M A (eval l env) (cq M A env op r Q E) E s)
 (hm:behindInMarks op r=false:=by with_unfolding_all rfl):wpAny M A (isTrue (.Compare l [op] [r] pos) env whole) Q E s:=wpAny_isTrue_Compare1 h hm
theorem xasg{o i:Expr}{pos':Pos}{value:Expr}{pos:Pos}{Q:Flow→Shared→Prop}(h:wpAny M A (eval value env) (uq M A env o i Q E) E s)
 (hs:swapsWith value (some (.Subscript o i pos')) pos.line env=pure false:=by rfl):wpAny M A (exec (.Assign [.Subscript o i pos'] value pos) env) Q E s:=wpAny_Assign_Subscript h hs
theorem xfor{target iter:Expr}{body orelse:List Stmt}{pos:Pos}{Q:Flow→Shared→Prop}(h:wpAny M A (eval iter env) (fq M A env target body orelse Q E) E s)
 (hs:∀x,foldedSetIterable iter env x=pure x:=by intro _;rfl):wpAny M A (exec (.For target iter body orelse pos) env) Q E s:=wpAny_For h hs
theorem xret{e:Expr}{pos:Pos}{Q:Flow→Shared→Prop}(h:wpAny M A (eval e env) (fun v=>Q (.ret v)) E s):wpAny M A (exec (.Return (some e) pos) env) Q E s:=wpAny_Return_some h
theorem xn{Q:Flow→Shared→Prop}(h:Q .next s):wpAny M A (execs [] env) Q E s:=wpAny_execs_nil h
theorem if_t{c:Prop}[Decidable c]{P R:Prop}(h:c)(p:P):if c then P else R:=by rw[if_pos h];exact p
theorem if_f{c:Prop}[Decidable c]{P R:Prop}(h:¬c)(p:R):if c then P else R:=by rw[if_neg h];exact p
end
section
variable{prog:Program}{w:World}{K:GH}{mg mb:Str→Option Value}
theorem enterF{A:Around}{f:Addr}{fd:FuncData}{params rest:List Str}{body:List Stmt}{vals:List Value}{led:List (Addr×Obj)}{s:Shared}{R:Result→Shared→Prop}
 (T:Tp K mg mb) (F:Fn K f fd) (O:FnOk fd params rest body) (hroom:A.depth<recursionLimit) (hv:vals.length=params.length) {vs:Vs} (hvs:varsOf params rest vals=vs)
 (hK:∀a o,K a=some o→s.heap.get? a=some o) (hl:∀p∈led,s.heap.get? p.1=some p.2∧K p.1=none) (nd:(led.map (·.1)).Nodup)
 (k:∀env s',env.kindOf=(fun x=>fd.scope.names.lookup x)→env.scope=fd.scope→env.frame=some env.locals→St K s yes (but led s.heap) env vs led s'→wpAny (model prog w) (A.deeper env) (execs body env) (rq R) (fun _ _=>False) s'):
 codeAny (model prog w) A (.call (.ref f) ⟨vals,[]⟩) R s:=by
 subst hvs;have hlim:s.heap.NoLimit:=by
  refine x1_1 T.lim fun mc h1 h2=>?_;exact⟨mc,h1.ns hK,h2⟩
 have hcd:s.heap.CodeRec fd.code fd.qualname:=by
  refine x4_3 F.code fun c o vs t h1 h2 h3 h4=>?_;exact⟨c,o,vs,t,h1,hK _ _ h2,h3,h4⟩
 have hzip:(params.zip vals).map (·.1)=params:=by rw[List.map_fst_zip];exact J228 hv
 have hnd:(params.zip vals).map (·.1)|>.Nodup:=by rw[hzip];exact(List.nodup_append.mp O.nd).1
 have hmem:∀x∈params.zip vals,x.1∈params:=fun x hx=>by rw[←hzip];exact List.mem_map_of_mem (f:=(·.1)) hx
 refine codeAny_call_cells hroom (hK _ _ F.at_) rfl hlim hcd O.body (O.bind vals hv) O.clo (fun x hx=>?_) (fun s₁ X=>?_) O.co O.gen O.fn
 ·rcases(O.names x.1 (List.mem_append_left _ (hmem x hx))).2 with h|h
  ·exact .inl h
  ·refine .inr ⟨h,?_⟩;obtain⟨c,hc⟩:=cellsFrom_has fd.scope.names (s.heap.objs.size+1) [] (.inl (mem_of_lookup h));rw[lookup_of_mem (cellsFrom_nodup _ _ [] O.ndS List.nodup_nil (fun _ _ h=>nomatch h)) hc];rfl
 ·generalize he:callEnvC fd s.heap.objs.size f=env at X⊢;have e1:env.kindOf=fun x=>fd.scope.names.lookup x:=by rw[←he];rfl
  have e2:env.cells=cellsFrom (s.heap.objs.size+1) fd.scope.names []:=by rw[←he];rfl
  have e3:env.locals=s.heap.objs.size:=by rw[←he];rfl
  have e4:env.scope=fd.scope:=by rw[←he];rfl
  have cn:(env.cells.map (·.1)).Nodup:=by rw[e2];exact cellsFrom_nodup _ _ [] O.ndS List.nodup_nil (fun _ _ h=>nomatch h)
  have ck:∀x c,(x,c)∈env.cells→fd.scope.names.lookup x=some .cell:=fun x c h=>by
   rw[e2]at h;rcases cellsFrom_mem _ _ _ h with h|h
   ·exact lookup_of_mem O.ndS h
   ·cases h
  have vnames:(varsOf params rest vals).map (·.1)=params++rest:=by
   unfold varsOf;rw[List.map_append,List.map_map,List.map_map];have h1:List.map ((fun x:Str×Option Value=>x.1)∘ fun p:Str×Value=>(p.1,some p.2)) (params.zip vals)=params:=hzip;have h2:List.map ((fun x:Str×Option Value=>x.1)∘ fun x:Str=>(x,(none:Option Value))) rest=rest:=by
    conv=>rhs;rw[←List.map_id rest]
    rfl
   rw[h1,h2]
  have eo:EnvOk env (varsOf params rest vals):=by
   refine⟨by rw[e4];exact O.fn,by rw[←he];exact O.gl,by rw[←he];exact O.bi,X.apart,cn,fun x c h=>?_,fun x c h=>Nat.ne_of_gt (X.above x c h),?_,by rw[vnames];exact O.nd⟩
   ·rw[e1];show fd.scope.names.lookup x≠_;rw[ck x c h];simp
   ·rw[vnames];intro x hx;refine⟨(O.names x hx).1,?_⟩;rw[e1];rcases(O.names x hx).2 with h|h
    ·exact .inl h
    ·refine .inr ⟨h,?_⟩;obtain⟨c,hc⟩:=cellsFrom_has fd.scope.names (s.heap.objs.size+1) [] (.inl (mem_of_lookup h));exact⟨c,lookup_of_mem cn (by rw[e2];exact hc)⟩
  have lkv:∀x,lk (varsOf params rest vals) x=if x∈(params.zip vals).map (·.1)then lk ((params.zip vals).map fun p=>(p.1,some p.2)) x else none:=by
   intro x;unfold varsOf;rw[lk_append];have:((params.zip vals).map fun p=>(p.1,some p.2)).map (·.1)=(params.zip vals).map (·.1):=by rw[List.map_map];rfl
   rw[this]
   split
   ·rfl
   ·rename_i hx;have:∀l:List Str,lk (l.map fun x=>(x,none)) x=none:=by
     intro l
     induction l with
     |nil=>rfl
     |cons y r ih=>
      simp only[List.map_cons,lk]
      split
      ·rfl
      ·exact ih
    exact this rest
  refine wpAny_mono (k env s₁ e1 e4 (by rw[←he];rfl) ⟨X.toInCall.same,fun a o h=>but_at (hK a o h) fun hm=>?_,fun a o h=>X.toInCall.keep a o (but_sub h).1,eo,⟨⟨_,X.toInCall.ns,fun x hx=>?_⟩,fun x c hc=>?_⟩,?_,fun x c h=>.inl ⟨rfl,?_⟩,fun p hp=>⟨X.toInCall.keep _ _ (hl p hp).1,?_,?_,fun x c h=>?_⟩,nd⟩) (fun _ _ h=>h) fun _ _ h=>h.elim
  ·refine x1_1 (List.mem_map.mp hm) fun p hp e=>?_;have:=(hl p hp).2;have e':p.1=a:=e;rw[e',h]at this;cases this
  ·rw[bindL_eq _ _ _ hnd x hx,lkv]
  ·have:=X.cell x c hc;rw[bindC_eq _ _ _ hnd x (eo.cl x c (mem_of_lookup hc))]at this;rw[lkv];exact this
  ·rw[e3];unfold but
   split
   ·rfl
   ·exact get_size_none _
  ·unfold but
   split
   ·rfl
   ·cases q:s.heap.get? c with
    |none=>rfl
    |some o=>
     have h1:=Heap.lt_size q;have h2:=X.above x c h;rw[e3]at h2;exact absurd (Nat.lt_trans h1 h2) (Nat.lt_irrefl _)
  ·unfold but;rw[if_pos (List.mem_map_of_mem (f:=(·.1)) hp)]
  ·rw[e3];exact Nat.ne_of_lt (Heap.lt_size (hl p hp).1)
  ·have h1:=Heap.lt_size (hl p hp).1;have h2:=X.above x c h;rw[e3]at h2;exact Nat.ne_of_lt (Nat.lt_trans h1 h2)
theorem enter{A:Around}{f:Addr}{fd:FuncData}{params rest:List Str}{body:List Stmt}{vals:List Value}{led:List (Addr×Obj)}{s:Shared}{R:Result→Shared→Prop}
 (T:Tp K mg mb) (F:Fn K f fd) (O:FnOk fd params rest body) (hroom:A.depth<recursionLimit) (hv:vals.length=params.length) {vs:Vs} (hvs:varsOf params rest vals=vs)
 (hK:∀a o,K a=some o→s.heap.get? a=some o) (hl:∀p∈led,s.heap.get? p.1=some p.2∧K p.1=none) (nd:(led.map (·.1)).Nodup)
 (k:∀env s',env.kindOf=(fun x=>fd.scope.names.lookup x)→env.scope=fd.scope→St K s yes (but led s.heap) env vs led s'→wpAny (model prog w) (A.deeper env) (execs body env) (rq R) (fun _ _=>False) s'):
 codeAny (model prog w) A (.call (.ref f) ⟨vals,[]⟩) R s:=
 enterF T F O hroom hv hvs hK hl nd fun env s' h1 h2 _ S=>k env s' h1 h2 S
end
section
variable{prog:Program}{w:World}{A:Around}{E:Value→Shared→Prop}{K:GH}{mg mb:Str→Option Value}{r:Shared}{own:Str→Bool}{G:GH}{env:Env}{vs vs':Vs}{led led':List (Addr×Obj)}{s:Shared}{Q:Value→Shared→Prop}
theorem St.glob(S:St K r own G env vs led s)(T:Tp K mg mb){x:Str}{pos:Pos}{v:Value}(hv:mg x=some v)(hk:env.kindOf x=some .globalImplicit)(k:Q v s)(hd:(x==("__debug__" :Str))=false:=by decide):wpAny (model prog w) A (eval (.Name x pos) env) Q E s:=
 Name_function_global S.eo.fn hk (loadGlobal_global (by rw[S.eo.gl];exact T.g.ns fun a o h=>S.atK h) hv k) hd
theorem St.bltn(S:St K r own G env vs led s)(T:Tp K mg mb){x:Str}{pos:Pos}{v:Value}(hg:mg x=none)(hv:mb x=some v)(hk:env.kindOf x=some .globalImplicit)(k:Q v s)(hd:(x==("__debug__" :Str))=false:=by decide):wpAny (model prog w) A (eval (.Name x pos) env) Q E s:=
 Name_function_global S.eo.fn hk (loadGlobal_builtin (by rw[S.eo.gl];exact T.g.ns fun a o h=>S.atK h) hg (by rw[S.eo.bi];exact T.b.ns fun a o h=>S.atK h) hv k) hd
end
end
section
open PySem PySem.W PySem.Calls PyProof.Rows PySem.SeqAt PySem.MeetsSeq PySem.MeetsSeq2 PySem.MeetsSeq3 PySem.SeqRoads2
set_option genInjectivity true in
inductive D where
 |int (i:Int)
 |str (s:Str)
 |byt (b:Array UInt8)
 |tup (l:List D)
 |lst (l:List D)
noncomputable def D.beq(a b:D):Bool:= @decide (a=b) (Classical.propDecidable _)
noncomputable def D.beqL(a b:List D):Bool:= @decide (a=b) (Classical.propDecidable _)
theorem D.beq_iff{a b:D}:a.beq b=true↔a=b:= @decide_eq_true_iff _ (Classical.propDecidable _)
theorem D.beqL_iff{a b:List D}:D.beqL a b=true↔a=b:= @decide_eq_true_iff _ (Classical.propDecidable _)
theorem D.beq_ne{a b:D}:a.beq b=false↔a≠b:= @decide_eq_false_iff_not _ (Classical.propDecidable _)
theorem D.beq_of{a b:D}{q:Bool}(h:a=b↔q=true):a.beq b=q:=by rw[Bool.eq_iff_iff,D.beq_iff];exact h
theorem D.beq_int(a b:Int):(D.int a).beq (.int b)=decide (a=b):=D.beq_of ⟨fun h=>decide_eq_true (D.int.inj h),fun h=>congrArg _ (of_decide_eq_true h)⟩
theorem D.beq_str(a b:Str):(D.str a).beq (.str b)=(a==b):=D.beq_of ⟨fun h=>beq_iff_eq.mpr (D.str.inj h),fun h=>congrArg _ (beq_iff_eq.mp h)⟩
theorem D.beq_byt(a b:Array UInt8):(D.byt a).beq (.byt b)=decide (a=b):=D.beq_of ⟨fun h=>decide_eq_true (D.byt.inj h),fun h=>congrArg _ (of_decide_eq_true h)⟩
theorem D.beq_tup(a b:List D):(D.tup a).beq (.tup b)=D.beqL a b:=D.beq_of ⟨fun h=>D.beqL_iff.mpr (D.tup.inj h),fun h=>congrArg _ (D.beqL_iff.mp h)⟩
theorem D.beq_lst(a b:List D):(D.lst a).beq (.lst b)=D.beqL a b:=D.beq_of ⟨fun h=>D.beqL_iff.mpr (D.lst.inj h),fun h=>congrArg _ (D.beqL_iff.mp h)⟩
noncomputable abbrev tupOf(its:Array Value)(n:Nat):Obj:={cls:=.type "tuple",data:=.seq its n}
mutual
inductive Is(G:GH):Value→D→Prop
 |int (i:Int) (t:Tok):Is G (.int i t) (.int i)
 |str (x:Str) (t:Tok):Is G (.str x t) (.str x)
 |byt (b:Array UInt8) (t:Tok):Is G (.bytes b t) (.byt b)
 |tup {a:Addr} {vs:List Value} {n:Nat} {ds:List D}:G a=some (tupOf vs.toArray n)→IsAll G vs ds→Is G (.ref a) (.tup ds)
 |lst {a:Addr} {vs:List Value} {n:Nat} {ds:List D}:G a=some (listOf vs.toArray n)→IsAll G vs ds→Is G (.ref a) (.lst ds)
inductive IsAll(G:GH):List Value→List D→Prop
 |nil:IsAll G [] []
 |cons {v:Value} {vs:List Value} {d:D} {ds:List D}:Is G v d→IsAll G vs ds→IsAll G (v::vs) (d::ds)
end
theorem Is.via{G G':GH}(h:∀a o its n,G a=some o→o.data=.seq its n→G' a=some o){v:Value}{d:D}(i:Is G v d):Is G' v d:=
 Is.rec (motive_1:=fun v d _=>Is G' v d) (motive_2:=fun vs ds _=>IsAll G' vs ds) .int .str .byt (fun e _ r=>.tup (h _ _ _ _ e rfl) r) (fun e _ r=>.lst (h _ _ _ _ e rfl) r) .nil (fun _ _ a b=>.cons a b) i
theorem IsAll.via{G G':GH}(h:∀a o its n,G a=some o→o.data=.seq its n→G' a=some o){vs:List Value}{ds:List D}(i:IsAll G vs ds):IsAll G' vs ds:=
 IsAll.rec (motive_1:=fun v d _=>Is G' v d) (motive_2:=fun vs ds _=>IsAll G' vs ds) .int .str .byt (fun e _ r=>.tup (h _ _ _ _ e rfl) r) (fun e _ r=>.lst (h _ _ _ _ e rfl) r) .nil (fun _ _ a b=>.cons a b) i
theorem Is.mono{G G':GH}(h:GLe G G'){v:Value}{d:D}(i:Is G v d):Is G' v d:=i.via fun a o _ _ e _=>h a o e
theorem IsAll.mono{G G':GH}(h:GLe G G'){vs:List Value}{ds:List D}(i:IsAll G vs ds):IsAll G' vs ds:=i.via fun a o _ _ e _=>h a o e
theorem IsAll.length{G:GH}{vs:List Value}{ds:List D}(h:IsAll G vs ds):vs.length=ds.length:=by
 induction vs generalizing ds with
 |nil=>cases h;rfl
 |cons v vs ih=>cases h with|cons _ r=>simp[ih r]
theorem IsAll.get{G:GH}{vs:List Value}{ds:List D}(h:IsAll G vs ds){i:Nat}{d:D}(hd:ds[i]? =some d):∃v,vs[i]? =some v∧Is G v d:=by
 induction vs generalizing ds i with
 |nil=>cases h;simp at hd
 |cons v vs ih=>
  cases h with
  |cons e r=>
   cases i with
   |zero=>simp at hd;subst hd;exact⟨v,rfl,e⟩
   |succ i=>simpa using ih r (i:=i) (by simpa using hd)
theorem IsAll.at{G:GH}{vs:List Value}{ds:List D}(h:IsAll G vs ds){i:Nat}(h1:i<vs.length)(h2:i<ds.length):Is G vs[i] ds[i]:=by
 refine x1_1 (h.get (i:=i) (d:=ds[i]) (by simp[h2])) fun v e q=>?_;rw[List.getElem?_eq_getElem h1]at e;cases e;exact q
theorem IsAll.append{G:GH}{vs ws:List Value}{ds es:List D}(h:IsAll G vs ds)(h':IsAll G ws es):IsAll G (vs++ws) (ds++es):=by
 induction vs generalizing ds with
 |nil=>cases h;exact h'
 |cons v vs ih=>cases h with|cons e r=>exact .cons e (ih r)
theorem IsAll.set{G:GH}{vs:List Value}{ds:List D}(h:IsAll G vs ds){v:Value}{d:D}(q:Is G v d)(i:Nat):IsAll G (vs.set i v) (ds.set i d):=by
 induction vs generalizing ds i with
 |nil=>cases h;exact .nil
 |cons w vs ih=>
  cases h with
  |cons e r=>
   cases i with
   |zero=>exact .cons q r
   |succ i=>exact .cons e (ih r i)
theorem IsAll.take{G:GH}{vs:List Value}{ds:List D}(h:IsAll G vs ds)(i:Nat):IsAll G (vs.take i) (ds.take i):=by
 induction vs generalizing ds i with
 |nil=>cases h;simp;exact .nil
 |cons w vs ih=>
  cases h with
  |cons e r=>
   cases i with
   |zero=>exact .nil
   |succ i=>exact .cons e (ih r i)
theorem IsAll.drop{G:GH}{vs:List Value}{ds:List D}(h:IsAll G vs ds)(i:Nat):IsAll G (vs.drop i) (ds.drop i):=by
 induction vs generalizing ds i with
 |nil=>cases h;simp;exact .nil
 |cons w vs ih=>
  cases h with
  |cons e r=>
   cases i with
   |zero=>exact .cons e r
   |succ i=>exact ih r i
theorem Is.tupI{G:GH}{v:Value}{ds:List D}(h:Is G v (.tup ds)){P:Prop}(k:∀a vs n,v=.ref a→G a=some (tupOf vs.toArray n)→IsAll G vs ds→P):P:=by
 cases h with
 |tup h1 h2=>exact k _ _ _ rfl h1 h2
theorem Is.lstI{G:GH}{v:Value}{ds:List D}(h:Is G v (.lst ds)){P:Prop}(k:∀a vs n,v=.ref a→G a=some (listOf vs.toArray n)→IsAll G vs ds→P):P:=by
 cases h with
 |lst h1 h2=>exact k _ _ _ rfl h1 h2
theorem Is.intI{G:GH}{v:Value}{i:Int}(h:Is G v (.int i)):∃t,v=.int i t:=by
 cases h with
 |int _ t=>exact⟨t,rfl⟩
theorem IsAll.consI{G:GH}{vs:List Value}{d:D}{ds:List D}(h:IsAll G vs (d::ds)){P:Prop}(k:∀v vs',vs=v::vs'→Is G v d→IsAll G vs' ds→P):P:=by
 cases h with
 |cons h1 h2=>exact k _ _ rfl h1 h2
theorem IsAll.nilI{G:GH}{vs:List Value}(h:IsAll G vs []):vs=[]:=by
 cases h;rfl
theorem Is.strI{G:GH}{v:Value}{i:Str}(h:Is G v (.str i)):∃t,v=.str i t:=by
 cases h with
 |str _ t=>exact⟨t,rfl⟩
theorem Is.bytI{G:GH}{v:Value}{i:Array UInt8}(h:Is G v (.byt i)):∃t,v=.bytes i t:=by
 cases h with
 |byt _ t=>exact⟨t,rfl⟩
theorem IsAll.of_get{G:GH}{vs:List Value}{ds:List D}(h:IsAll G vs ds){j:Nat}{v:Value}{d:D}(hv:vs[j]? =some v)(hd:ds[j]? =some d):Is G v d:=by
 refine x1_1 (h.get hd) fun v' e q=>?_;rw[hv]at e;cases e;exact q
theorem tupOf_inj{a b:List Value}{n m:Nat}(h:tupOf a.toArray n=tupOf b.toArray m):a=b:=by
 injection h with _ _ h _
 injection h with h
 simpa using h
theorem listOf_inj{a b:List Value}{n m:Nat}(h:listOf a.toArray n=listOf b.toArray m):a=b:=by
 injection h with _ _ h _
 injection h with h
 simpa using h
theorem Is.tup_at{G:GH}{a:Addr}{ws:List Value}{n:Nat}{ds:List D}(h:Is G (.ref a) (.tup ds))(ha:G a=some (tupOf ws.toArray n)):IsAll G ws ds:=by
 cases h with
 |tup h1 h2=>
  rw[ha]at h1;rw[tupOf_inj (Option.some.inj h1)];exact h2
@[elab_as_elim] theorem IsAll.one {G:GH} {vs:List Value} {d:D} (h:IsAll G vs [d]) {P:List Value→Prop} (k:∀v,Is G v d→P [v]):P vs:=by
 refine h.consI fun v ws e h1 h2=>?_;rw[e,h2.nilI];exact k v h1
@[elab_as_elim] theorem IsAll.two {G:GH} {vs:List Value} {d e:D} (h:IsAll G vs [d,e]) {P:List Value→Prop} (k:∀v u,Is G v d→Is G u e→P [v,u]):P vs:=by
 refine h.consI fun v ws q h1 h2=>?_;rw[q];exact h2.one (P:=fun ws=>P (v::ws)) fun u h=>k v u h1 h
@[elab_as_elim] theorem IsAll.three {G:GH} {vs:List Value} {d e f:D} (h:IsAll G vs [d,e,f]) {P:List Value→Prop} (k:∀v u x,Is G v d→Is G u e→Is G x f→P [v,u,x]):P vs:=by
 refine h.consI fun v ws q h1 h2=>?_;rw[q];exact h2.two (P:=fun ws=>P (v::ws)) fun u x h h'=>k v u x h1 h h'
@[elab_as_elim] theorem IsAll.four {G:GH} {vs:List Value} {d e f g:D} (h:IsAll G vs [d,e,f,g]) {P:List Value→Prop} (k:∀v u x y,Is G v d→Is G u e→Is G x f→Is G y g→P [v,u,x,y]):P vs:=by
 refine h.consI fun v ws q h1 h2=>?_;rw[q];exact h2.three (P:=fun ws=>P (v::ws)) fun u x y h h' h''=>k v u x y h1 h h' h''
@[elab_as_elim] theorem Is.intE {G:GH} {v:Value} {i:Int} (h:Is G v (.int i)) {P:Value→Prop} (k:∀t,P (.int i t)):P v:=by
 cases h with
 |int _ t=>exact k t
@[elab_as_elim] theorem Is.strE {G:GH} {v:Value} {i:Str} (h:Is G v (.str i)) {P:Value→Prop} (k:∀t,P (.str i t)):P v:=by
 cases h with
 |str _ t=>exact k t
@[elab_as_elim] theorem Is.bytE {G:GH} {v:Value} {i:Array UInt8} (h:Is G v (.byt i)) {P:Value→Prop} (k:∀t,P (.bytes i t)):P v:=by
 cases h with
 |byt _ t=>exact k t
@[elab_as_elim] theorem Is.tupE {G:GH} {v:Value} {ds:List D} (h:Is G v (.tup ds)) {P:Value→Prop} (k:∀a vs n,G a=some (tupOf vs.toArray n)→IsAll G vs ds→P (.ref a)):P v:=by
 cases h with
 |tup h1 h2=>exact k _ _ _ h1 h2
@[elab_as_elim] theorem Is.lstE {G:GH} {v:Value} {ds:List D} (h:Is G v (.lst ds)) {P:Value→Prop} (k:∀a vs n,G a=some (listOf vs.toArray n)→IsAll G vs ds→P (.ref a)):P v:=by
 cases h with
 |lst h1 h2=>exact k _ _ _ h1 h2
theorem Is.lst_at{G:GH}{a:Addr}{ws:List Value}{n:Nat}{ds:List D}(h:Is G (.ref a) (.lst ds))(ha:G a=some (listOf ws.toArray n)):IsAll G ws ds:=by
 cases h with
 |lst h1 h2=>
  rw[ha]at h1;rw[listOf_inj (Option.some.inj h1)];exact h2
theorem tup_lst{a b:List Value}{n m:Nat}(h:tupOf a.toArray n=listOf b.toArray m):False:=by
 injection h with h _ _ _
 simp at h
theorem Is.refI{G:GH}{a:Addr}{d:D}(h:Is G (.ref a) d):(∃vs n ds,G a=some (tupOf vs n)∧d=.tup ds)∨(∃vs n ds,G a=some (listOf vs n)∧d=.lst ds):=by
 cases h with
 |tup h1 h2=>exact .inl ⟨_,_,_,h1,rfl⟩
 |lst h1 h2=>exact .inr ⟨_,_,_,h1,rfl⟩
theorem Is.inj{G:GH}{v:Value}{d:D}(i:Is G v d):∀d',Is G v d'→d=d':=
 Is.rec (motive_1:=fun v d _=>∀d',Is G v d'→d=d') (motive_2:=fun vs ds _=>∀ds',IsAll G vs ds'→ds=ds')
  (fun i t d' h=>by cases h;rfl) (fun i t d' h=>by cases h;rfl) (fun i t d' h=>by cases h;rfl)
  (fun e _ ih d' h=>by
   rcases h.refI with⟨vs,n,ds,_,rfl⟩|⟨vs,n,ds,e',rfl⟩
   ·rw[ih ds (h.tup_at e)]
   ·rw[e]at e';exact(tup_lst (b:=vs.toList) (Option.some.inj e')).elim)
  (fun e _ ih d' h=>by
   rcases h.refI with⟨vs,n,ds,e',rfl⟩|⟨vs,n,ds,_,rfl⟩
   ·rw[e]at e';exact(tup_lst (a:=vs.toList) (Option.some.inj e').symm).elim
   ·rw[ih ds (h.lst_at e)])
  (fun ds' h=>by cases h;rfl)
  (fun _ _ ih1 ih2 ds' h=>by
   cases h with
   |cons h1 h2=>rw[ih1 _ h1,ih2 _ h2]) i
mutual
inductive Kin:D→D→Prop
 |int (a b:Int):Kin (.int a) (.int b)
 |str (a b:Str):Kin (.str a) (.str b)
 |byt (a b:Array UInt8):Kin (.byt a) (.byt b)
 |tup {a b:List D}:KinAll a b→Kin (.tup a) (.tup b)
 |lst {a b:List D}:KinAll a b→Kin (.lst a) (.lst b)
inductive KinAll:List D→List D→Prop
 |nil (b:List D):KinAll [] b
 |nil' (a:List D):KinAll a []
 |cons {x y:D} {a b:List D}:Kin x y→KinAll a b→KinAll (x::a) (y::b)
end
mutual
noncomputable def D.dep:D→Nat
 | .int _| .str _| .byt _=>0
 | .tup l| .lst l=>D.deps l+1
noncomputable def D.deps:List D→Nat
 |[]=>0
 |d::l=>max d.dep (D.deps l)
end
noncomputable section
mutual
noncomputable def D.lt:D→D→Bool
 | .int a,.int b=>decide (a<b)
 | .str a,.str b=>decide (a.cps.toList<b.cps.toList)
 | .byt a,.byt b=>Builtin.Bytes.order a.toList b.toList==.lt
 | .tup a,.tup b=>D.ltL a b
 | .lst a,.lst b=>D.ltL a b
 |_,_=>false
noncomputable def D.ltL:List D→List D→Bool
 |[],[]=>false
 |[],_::_=>true
 |_::_,[]=>false
 |x::a,y::b=>if x.beq y then D.ltL a b else x.lt y
end
end
theorem D.lt_int(a b:Int):(D.int a).lt (.int b)=decide (a<b):=rfl
theorem D.lt_str(a b:Str):(D.str a).lt (.str b)=decide (a.cps.toList<b.cps.toList):=rfl
theorem D.lt_nil:D.ltL [] []=false:=rfl
theorem D.lt_nc(y:D)(b:List D):D.ltL [] (y::b)=true:=rfl
theorem D.lt_cn(x:D)(a:List D):D.ltL (x::a) []=false:=rfl
theorem D.lt_cc(x y:D)(a b:List D):D.ltL (x::a) (y::b)=if x.beq y then D.ltL a b else x.lt y:=rfl
theorem Is.list{G:GH}{s:Shared}(hs:∀a o,G a=some o→s.heap.get? a=some o){a:Addr}{vs:List Value}{n:Nat}(h:G a=some (listOf vs.toArray n)):s.heap.IsList a vs.toArray:=⟨_,hs _ _ h,rfl,n,rfl⟩
theorem Is.tuple{G:GH}{s:Shared}(hs:∀a o,G a=some o→s.heap.get? a=some o){a:Addr}{vs:List Value}{n:Nat}(h:G a=some (tupOf vs.toArray n)):s.heap.IsTuple a vs.toArray:=⟨_,hs _ _ h,rfl,n,rfl⟩
theorem Bytes_eq(a b:Array UInt8):(a.toList==b.toList)=decide (a=b):=by
 rw[Bool.eq_iff_iff,beq_iff_eq,decide_eq_true_eq];exact⟨fun h=>Array.toList_inj.mp h,fun h=>by rw[h]⟩
theorem EqAt.bytes_bytes{A:Around}{s:Shared}(a:Array UInt8)(t:Tok)(b:Array UInt8)(u:Tok):EqAt A s (.bytes a t) (.bytes b u) (decide (a=b)):=fun prog w E Q h=>by
 unfold eqBool;refine wpAny_holding ?_;refine wpAny_ite_split (fun hab=>?_) (fun _=>?_)
 ·have e:a=b:=by have:=eq_of_beq hab;injection this
  subst e;exact wpAny_bind (wpAny_rule (wpAny_pure (by simpa using h)))
 ·refine wpAny_bind (richCompare_gives (op:=.Eq) (T:= "bytes") rfl rfl PySem.W.FB.slot_bytes_eq PySem.W.FB.entry_bytes_eq (PySem.W.FB.args_bytes_eq_2 _ _) (gives_bytes_eq a b t u) (fun x=>nomatch x) (wpAny_truthy_bool ?_));rw[Bytes_eq];exact h
noncomputable def eAt(ds ds':List D)(j:Nat):Bool:=match ds[j]?,ds'[j]? with
 |some x,some y=>x.beq y
 |_,_=>false
theorem eAt_some{ds ds':List D}{j:Nat}(h1:j<ds.length)(h2:j<ds'.length):eAt ds ds' j=ds[j].beq ds'[j]:=by
 unfold eAt;rw[List.getElem?_eq_getElem h1,List.getElem?_eq_getElem h2]
theorem all_beqL(ds ds':List D)(h:ds.length=ds'.length):(List.range ds.length).all (eAt ds ds')=D.beqL ds ds':=by
 rw[Bool.eq_iff_iff,D.beqL_iff,List.all_eq_true];constructor
 ·intro hq;refine List.ext_getElem h fun j h1 h2=>?_;have:=hq j (List.mem_range.mpr h1);rw[eAt_some h1 h2]at this;exact D.beq_iff.mp this
 ·intro nq33;subst nq33;intro j hj;have h1:=List.mem_range.mp hj;rw[eAt_some h1 h1];exact D.beq_iff.mpr rfl
theorem D.beqL_len{a b:List D}(h:a.length≠b.length):D.beqL a b=false:=by
 cases q:D.beqL a b with
 |false=>rfl
 |true=>exact absurd (congrArg List.length (D.beqL_iff.mp q)) h
theorem KinAll.at{j:Nat}:∀{a b:List D},KinAll a b→∀(h1:j<a.length) (h2:j<b.length),Kin a[j] b[j]:=by
 induction j with
 |zero=>
  intro a b h h1 h2;cases h with
  |nil=>exact absurd h1 (Nat.not_lt_zero _)
  |nil'=>exact absurd h2 (Nat.not_lt_zero _)
  |cons k r=>exact k
 |succ j ih=>
  intro a b h h1 h2;cases h with
  |nil=>exact absurd h1 (Nat.not_lt_zero _)
  |nil'=>exact absurd h2 (Nat.not_lt_zero _)
  |cons k r=>exact ih r (Nat.lt_of_succ_lt_succ h1) (Nat.lt_of_succ_lt_succ h2)
theorem D.dep_at:∀{l:List D} {j:Nat} (h:j<l.length),l[j].dep≤D.deps l
 |d::l,0,_=>Nat.le_max_left _ _
 |d::l,j+1,h=>Nat.le_trans (D.dep_at (l:=l) (j:=j) (by simpa using h)) (Nat.le_max_right _ _)
theorem eq_leaf{G:GH}{s:Shared}{A:Around}{v v':Value}{d d':D}(h:Is G v d)(h':Is G v' d')(k:Kin d d')(hd:d.dep=0):EqAt A s v v' (d.beq d'):=by
 cases k with
 |int a b=>rw[D.beq_int];refine h.intE fun t=>?_;refine h'.intE fun u=>?_;exact EqAt.int_int a t b u
 |str a b=>rw[D.beq_str];refine h.strE fun t=>?_;refine h'.strE fun u=>?_;exact EqAt.str_str a t b u
 |byt a b=>rw[D.beq_byt];refine h.bytE fun t=>?_;refine h'.bytE fun u=>?_;exact EqAt.bytes_bytes a t b u
 |tup=>exact absurd hd (Nat.succ_ne_zero _)
 |lst=>exact absurd hd (Nat.succ_ne_zero _)
theorem eq_pw{G:GH}{s:Shared}{A:Around}{n:Nat}{ds ds':List D}{vs vs':List Value}(ih:∀{v v':Value} {d d':D},d.dep≤n→Is G v d→Is G v' d'→Kin d d'→EqAt A s v v' (d.beq d'))(hd:D.deps ds≤n)
 (r:IsAll G vs ds) (r':IsAll G vs' ds') (k:KinAll ds ds') (j:Nat) (h1:j<vs.toArray.size) (h2:j<vs'.toArray.size):EqAt A s vs.toArray[j] vs'.toArray[j] (eAt ds ds' j):=by
 have x1:j<ds.length:=r.length▸h1;have x2:j<ds'.length:=r'.length▸h2;rw[eAt_some x1 x2];exact ih (Nat.le_trans (D.dep_at x1) hd) (r.at h1 x1) (r'.at h2 x2) (k.at x1 x2)
theorem eq_is{G:GH}{s:Shared}(hs:∀a o,G a=some o→s.heap.get? a=some o):∀(n:Nat) {A:Around} {v v':Value} {d d':D},Rm n A→d.dep≤n→Is G v d→Is G v' d'→Kin d d'→EqAt A s v v' (d.beq d'):=by
 intro n
 induction n with
 |zero=>intro A v v' d d' hA hd h h' k;exact eq_leaf h h' k (Nat.le_zero.mp hd)
 |succ n ih=>
  intro A v v' d d' hA hd h h' k;have hu:A.units<cLine:=by have:=hA.un;show A.units<9900;exact J426 this
  have sm:∀{a:Addr},Is G (.ref a) d→Is G (.ref a) d'→EqAt A s (.ref a) (.ref a) (d.beq d'):=fun h h'=>by
   rw[D.beq_iff.mpr (h.inj _ h')];exact EqAt.same _
  cases k with
  |int a b=>exact eq_leaf h h' (.int a b) rfl
  |str a b=>exact eq_leaf h h' (.str a b) rfl
  |byt a b=>exact eq_leaf h h' (.byt a b) rfl
  |@tup ds ds' k=>
   refine h.tupI fun a vs m ev e r=>h'.tupI fun a' vs' m' ev' e' r'=>?_;subst ev ev';by_cases ha:a=a'
   ·subst ha;exact sm h h'
   ·refine EqAt.of_refs ha ?_;have hl:=r.length;have hl':=r'.length;have:=RcAt.tuples (A:=A) (e:=eAt ds ds') (Is.tuple hs e) (Is.tuple hs e') hu (eq_pw (ih hA.in1) (Nat.le_of_succ_le_succ hd) r r' k);have hx:((List.range (min vs.toArray.size vs'.toArray.size)).all (eAt ds ds')&&vs.toArray.size==vs'.toArray.size)=(D.tup ds).beq (.tup ds'):=by
     rw[D.beq_tup];simp only[List.size_toArray,hl,hl'];by_cases q:ds.length=ds'.length
     ·rw[←q,Nat.min_self,all_beqL ds ds' q];simp
     ·rw[D.beqL_len q];simp[q]
    rw[hx]at this;exact this
  |@lst ds ds' k=>
   refine h.lstI fun a vs m ev e r=>h'.lstI fun a' vs' m' ev' e' r'=>?_;subst ev ev';by_cases ha:a=a'
   ·subst ha;exact sm h h'
   ·refine EqAt.of_refs ha ?_;have hl:=r.length;have hl':=r'.length;rw[D.beq_lst];by_cases q:ds.length=ds'.length
    ·have:=RcAt.lists (A:=A) (e:=eAt ds ds') (Is.list hs e) (Is.list hs e') (by simp;exact J511 hl q hl') hu (fun j h1 h2=>eq_pw (ih hA.in1) (Nat.le_of_succ_le_succ hd) r r' k j h1 h2);have hx:((List.range vs.toArray.size).all (eAt ds ds'))=D.beqL ds ds':=by
      simp only[List.size_toArray,hl];exact all_beqL ds ds' q
     rw[hx]at this;exact this
    ·have:=RcAt.lists_lengths (A:=A) (Is.list hs e) (Is.list hs e') (by simp;exact J512 hl q hl') hu;rw[D.beqL_len q];exact this
def LtAt(A:Around)(s:Shared)(x y:Value)(b:Bool):Prop:=
 ∀(prog:Program) (w:World) (E:Value→Shared→Prop) (Q:Value→Shared→Prop),Q (.bool b) s→wpAny (model prog w) A (richCompare .Lt x y) Q E s
theorem LtAt.int{A:Around}{s:Shared}(a:Int)(t:Tok)(b:Int)(u:Tok):LtAt A s (.int a t) (.int b u) (decide (a<b)):=fun prog w E Q h=>wpAny_lt_int h
theorem LtAt.str{A:Around}{s:Shared}(a:Str)(t:Tok)(b:Str)(u:Tok):LtAt A s (.str a t) (.str b u) (decide (a.cps.toList<b.cps.toList)):=fun prog w E Q h=>
 richCompare_gives (op:=.Lt) (typeIs_str s a t) (typeIs_str s b u) F.slot_str_lt F.entry_str_lt (F.args_str_lt_2 _ _) (gives_str_lt a b t u) (fun e=>nomatch e) h
open Builtin in
theorem gives_bytes_lt(b c:Array UInt8)(t u:Tok):Gives («bytes.__lt__» ⟨[.bytes b t,.bytes c u],[]⟩) (.val (.bool (Builtin.Bytes.order b.toList c.toList==.lt))):=by
 refine .of_wp fun M A E s Q hq=>?_;show wpAny M A (isInstance (.bytes c u) (.type "bytes")>>=fun r=>_) _ E s;refine wpAny_bind (wpAny_isInstance (typeIs_bytes s c u) F.sub_bytes_bytes ?_);exact wpAny_pure ⟨_,rfl,hq⟩
theorem slot_bytes_lt:Slot "bytes" (cmpInfo .Lt).2.1 "bytes.__lt__" :=
 .of (owner:= "bytes") (n:= "__lt__") (by rw[typeLookup_type,builtinLookup_eq_fast];kernel_rfl) (by decide+kernel) (by decide+kernel) (by decide+kernel)
  (by first|exact .inl (by decide+kernel)|exact .inr (by decide+kernel)) (by rw[isSubtype_type];kernel_rfl)
theorem entry_bytes_lt:entryFor table "bytes.__lt__" =some Builtin.«bytes.__lt__» :=entryFor_of_tree (by kernel_rfl)
theorem args_bytes_lt_2(a b:Value):argsOk "bytes.__lt__" ⟨[a,b],[]⟩:=by
 unfold argsOk;kernel_rfl
theorem LtAt.byt{A:Around}{s:Shared}(a:Array UInt8)(t:Tok)(b:Array UInt8)(u:Tok):LtAt A s (.bytes a t) (.bytes b u) (Builtin.Bytes.order a.toList b.toList==.lt):=fun _ _ _ _ h=>
 richCompare_gives (op:=.Lt) (typeIs_bytes s a t) (typeIs_bytes s b u) slot_bytes_lt entry_bytes_lt (args_bytes_lt_2 _ _) (gives_bytes_lt a b t u) (fun e=>nomatch e) h
noncomputable def lexAt(e l:Nat→Bool)(m n i:Nat):Bool:=match((List.range (min m n)).drop i).find? (fun j=>!e j)with
 |some j=>l j
 |none=>decide (m<n)
theorem lexAt_end{e l:Nat→Bool}{m n i:Nat}(h:min m n≤i):lexAt e l m n i=decide (m<n):=by
 unfold lexAt;rw[List.drop_of_length_le (by simpa using h)];rfl
theorem lexAt_eq{e l:Nat→Bool}{m n i:Nat}(h:i<min m n)(he:e i=true):lexAt e l m n i=lexAt e l m n (i+1):=by
 unfold lexAt;rw[List.drop_eq_getElem_cons (by simpa using h)];simp[he]
theorem lexAt_ne{e l:Nat→Bool}{m n i:Nat}(h:i<min m n)(he:e i=false):lexAt e l m n i=l i:=by
 unfold lexAt;rw[List.drop_eq_getElem_cons (by simpa using h)];simp[he]
theorem tuple_ltAt(l b:Addr)(items items2:Array Value)(n n2:Nat)(dd dd2:Option Addr)(sl sl2:Array (Option Value))(e lt:Nat→Bool):
 Meets (Builtin.«tuple.__lt__» ⟨[.ref l,.ref b],[]⟩)
  (fun A R s=>s.heap.get? l=some {cls:=.type "tuple",dict:=dd,data:=.seq items n,slots:=sl}∧s.heap.get? b=some {cls:=.type "tuple",dict:=dd2,data:=.seq items2 n2,slots:=sl2}∧
   (∀j (h1:j<items.size) (h2:j<items2.size),EqAt A.in1 s items[j] items2[j] (e j))∧(∀j (h1:j<items.size) (h2:j<items2.size),LtAt A.in1 s items[j] items2[j] (lt j))∧
   R (.ok (.ret (.bool (lexAt e lt items.size items2.size 0)))) s):=
 .of_wp fun prog w A R s h=>by
  obtain⟨hp,g,d,tk,os⟩:=s;obtain⟨hl,hb,he,hlt',h⟩:=h;have f2:=AutoSeq1.sub_tuple_tuple;have hZ:(items.toList.zip items2.toList).length=min items.size items2.size:=by simp
  wp_walk using wpAny_loadPart' hl,wpAny_loadPart' hb,wpAny_forIn_list _ (fun rest b s'=>b.1=none∧s'=⟨hp,g,d,tk,os⟩∧∃i,rest=(items.toList.zip items2.toList).drop i∧
   R (.ok (.ret (.bool (lexAt e lt items.size items2.size i)))) ⟨hp,g,d,tk,os⟩) _
  case turn=>
   intro nq34;obtain⟨y,x⟩:=nq34;intro rest b s' nq35;obtain⟨hb',rfl,i,hz,hR⟩:=nq35;have hlt:i<(items.toList.zip items2.toList).length:=by
    rcases Nat.lt_or_ge i (items.toList.zip items2.toList).length with h'|h'
    ·exact h'
    ·rw[List.drop_of_length_le h']at hz;cases hz
   have hm:i<min items.size items2.size:=hZ▸hlt;have h1:i<items.size:=Nat.lt_of_lt_of_le hm (Nat.min_le_left _ _);have h2:i<items2.size:=Nat.lt_of_lt_of_le hm (Nat.min_le_right _ _);rw[List.drop_eq_getElem_cons hlt]at hz;injection hz with hyx hrest
   have hy:y=items[i]:=by have:=congrArg Prod.fst hyx;simpa using this
   have hx:x=items2[i]:=by have:=congrArg Prod.snd hyx;simpa using this
   subst hy hx;refine wpAny_bind (he i h1 h2 prog w _ _ ?_);cases hy:e i with
   |true=>
    rw[lexAt_eq hm hy]at hR
    wp_walk
    exact⟨rfl,rfl,i+1,hrest,hR⟩
   |false=>
    rw[lexAt_ne hm hy]at hR;have hq:∀E Q,Q (.bool (lt i)) ⟨hp,g,d,tk,os⟩→wpAny (model prog w) A.in1 (richCompare .Lt items[i] items2[i]) Q E ⟨hp,g,d,tk,os⟩:=hlt' i h1 h2 prog w
    wp_walk using hq _ _
    exact⟨_,rfl,by simpa using hR⟩
  case fin=>
   intro nq36;obtain⟨b1,b2⟩:=nq36;intro s' nq37;obtain⟨hb',rfl,i,hz,hR⟩:=nq37;simp only at hb';subst hb';have hge:min items.size items2.size≤i:=by
    rcases Nat.lt_or_ge i (items.toList.zip items2.toList).length with h'|h'
    ·rw[List.drop_eq_getElem_cons h']at hz;cases hz
    ·exact hZ▸h'
   rw[lexAt_end hge]at hR
   wp_walk
   exact⟨_,rfl,by simpa[Builtin.Tuple.tupleCompareSizes]using hR⟩
  case h=>
   exact⟨rfl,rfl,0,rfl,by simpa using h⟩
theorem lt_loopAt(l b:Addr)(items items2:Array Value)(n n2:Nat)(dd dd2:Option Addr)(sl sl2:Array (Option Value))(e lt:Nat→Bool)(k:Nat):
 ∀i:Nat,min items.size items2.size-i=k→Meets (Builtin.«list.__eq__.loop» ⟨[.ref l,.ref b,rawInt i,rawInt 0],[]⟩)
  (fun A R s=>s.heap.get? l=some {cls:=.type "list",dict:=dd,data:=.seq items n,slots:=sl}∧s.heap.get? b=some {cls:=.type "list",dict:=dd2,data:=.seq items2 n2,slots:=sl2}∧
   (∀j (h1:j<items.size) (h2:j<items2.size),EqAt A.in1 s items[j] items2[j] (e j))∧(∀j (h1:j<items.size) (h2:j<items2.size),LtAt A.in1 s items[j] items2[j] (lt j))∧
   R (.ok (.ret (.bool (lexAt e lt items.size items2.size i)))) s):=by
 induction k with
 |zero=>
  intro i hk prog w A R s h;obtain⟨hp,g,d,tk,os⟩:=s;obtain⟨hl,hb,he,hlt',h⟩:=h;have hge:min items.size items2.size≤i:=J378 hk;rw[lexAt_end hge]at h
  wp_walk using wpAny_loadPart' hl,wpAny_loadPart' hb
  by_cases q:items.size≤i
  ·have hi1:items[((i:Nat):Int).toNat]? =none:=by simp;exact q
   rw[hi1]
   wp_walk using wpAny_loadPart' hl,wpAny_loadPart' hb
   show R (.ok (.ret (.bool (decide (items.size<items2.size))))) _;exact h
  ·have hi1:items[((i:Nat):Int).toNat]? =some items[i]:=by simp
   have hi2:items2[((i:Nat):Int).toNat]? =none:=by simp;exact J436 hge q
   rw[hi1,hi2]
   wp_walk using wpAny_loadPart' hl,wpAny_loadPart' hb
   show R (.ok (.ret (.bool (decide (items.size<items2.size))))) _;exact h
 |succ k ih=>
  intro i hk prog w A R s h;obtain⟨hp,g,d,tk,os⟩:=s;obtain⟨hl,hb,he,hlt',h⟩:=h
  wp_walk using wpAny_loadPart' hl,wpAny_loadPart' hb
  have hm:i<min items.size items2.size:=J488 hk;have hlt:i<items.size:=J374 hm;have hlt2:i<items2.size:=J414 hm;have hi1:items[((i:Nat):Int).toNat]? =some items[i]:=by simp[hlt]
  have hi2:items2[((i:Nat):Int).toNat]? =some items2[i]:=by simp[hlt2]
  have hc:((i:Int)+1)=((i+1:Nat):Int):=by push_cast;rfl
  rw[hi1,hi2];refine wpAny_bind (he i hlt hlt2 prog w _ _ ?_);cases hb':e i with
  |true=>
   rw[lexAt_eq hm hb']at h
   wp_walk
   rw[hc];exact⟨plainId_quiet plain_eq_loop _,codeAny_builtin entry_eq_loop (by
    rw[Around.under_plainId plain_eq_loop _];exact ih (i+1) (J518 hk) prog w A R _ ⟨hl,hb,he,hlt',by simpa using h⟩)⟩
  |false=>
   rw[lexAt_ne hm hb']at h
   wp_walk using wpAny_loadPart' hl,wpAny_loadPart' hb
   rw[hi1,hi2];have hq:∀E Q,Q (.bool (lt i)) ⟨hp,g,d,tk,os⟩→wpAny (model prog w) A.in1 (richCompare .Lt items[i] items2[i]) Q E ⟨hp,g,d,tk,os⟩:=hlt' i hlt hlt2 prog w
   wp_walk using hq _ _
   exact h
theorem list_ltAt(l b:Addr)(items items2:Array Value)(n n2:Nat)(dd dd2:Option Addr)(sl sl2:Array (Option Value))(e lt:Nat→Bool):
 Meets (Builtin.«list.__lt__» ⟨[.ref l,.ref b],[]⟩)
  (fun A R s=>s.heap.get? l=some {cls:=.type "list",dict:=dd,data:=.seq items n,slots:=sl}∧s.heap.get? b=some {cls:=.type "list",dict:=dd2,data:=.seq items2 n2,slots:=sl2}∧
   (∀j (h1:j<items.size) (h2:j<items2.size),EqAt A.in1 s items[j] items2[j] (e j))∧(∀j (h1:j<items.size) (h2:j<items2.size),LtAt A.in1 s items[j] items2[j] (lt j))∧
   R (.ok (.ret (.bool (lexAt e lt items.size items2.size 0)))) s):=by
 intro prog w A R s h;obtain⟨hp,g,d,tk,os⟩:=s;obtain⟨hl,hb,he,hlt',h⟩:=h;have f3:=AutoSeq1.sub_list_list
 wp_walk using wpAny_loadPart' hl,wpAny_loadPart' hb
 exact⟨plainId_quiet plain_eq_loop _,codeAny_builtin entry_eq_loop (by
  rw[Around.under_plainId plain_eq_loop _];exact lt_loopAt l b items items2 n n2 dd dd2 sl sl2 e lt _ 0 rfl prog w A R _ ⟨hl,hb,he,hlt',by simpa using h⟩)⟩
noncomputable def lAt(ds ds':List D)(j:Nat):Bool:=match ds[j]?,ds'[j]? with
 |some x,some y=>x.lt y
 |_,_=>false
theorem lexAt_shift(x y:D)(a b:List D)(i:Nat):lexAt (eAt (x::a) (y::b)) (lAt (x::a) (y::b)) (a.length+1) (b.length+1) (i+1)=lexAt (eAt a b) (lAt a b) a.length b.length i:=by
 unfold lexAt;have hm:min (a.length+1) (b.length+1)=min a.length b.length+1:=J169;rw[hm,List.range_succ_eq_map,List.drop_succ_cons,←List.map_drop,List.find?_map];have:((fun j=>!eAt (x::a) (y::b) j)∘ Nat.succ)=fun j=>!eAt a b j:=by funext j;rfl
 rw[this];cases((List.range (min a.length b.length)).drop i).find? (fun j=>!eAt a b j)with
 |none=>simp
 |some j=>rfl
theorem lex_ltL:∀(ds ds':List D),lexAt (eAt ds ds') (lAt ds ds') ds.length ds'.length 0=D.ltL ds ds'
 |[],[]=>rfl
 |[],_::_=>by rw[lexAt_end (by simp),D.lt_nc];simp
 |_::_,[]=>by rw[lexAt_end (by simp),D.lt_cn];simp
 |x::a,y::b=>by
  rw[D.lt_cc];have h0:0<min (x::a).length (y::b).length:=by simp
  cases h:x.beq y with
  |true=>
   rw[lexAt_eq h0 (show eAt (x::a) (y::b) 0=true from h)];simp only[if_true];exact(lexAt_shift x y a b 0).trans (lex_ltL a b)
  |false=>
   rw[lexAt_ne h0 (show eAt (x::a) (y::b) 0=false from h)];simp only[Bool.false_eq_true,if_false];rfl
theorem lt_leaf{G:GH}{s:Shared}{A:Around}{v v':Value}{d d':D}(h:Is G v d)(h':Is G v' d')(k:Kin d d')(hd:d.dep=0):LtAt A s v v' (d.lt d'):=by
 cases k with
 |int a b=>refine h.intE fun t=>?_;refine h'.intE fun u=>?_;exact LtAt.int a t b u
 |str a b=>refine h.strE fun t=>?_;refine h'.strE fun u=>?_;exact LtAt.str a t b u
 |byt a b=>refine h.bytE fun t=>?_;refine h'.bytE fun u=>?_;exact LtAt.byt a t b u
 |tup=>exact absurd hd (Nat.succ_ne_zero _)
 |lst=>exact absurd hd (Nat.succ_ne_zero _)
theorem lt_pw{G:GH}{s:Shared}{A:Around}{n:Nat}{ds ds':List D}{vs vs':List Value}(ih:∀{v v':Value} {d d':D},d.dep≤n→Is G v d→Is G v' d'→Kin d d'→LtAt A s v v' (d.lt d'))(hd:D.deps ds≤n)
 (r:IsAll G vs ds) (r':IsAll G vs' ds') (k:KinAll ds ds') (j:Nat) (h1:j<vs.toArray.size) (h2:j<vs'.toArray.size):LtAt A s vs.toArray[j] vs'.toArray[j] (lAt ds ds' j):=by
 have x1:j<ds.length:=r.length▸h1;have x2:j<ds'.length:=r'.length▸h2;have e:lAt ds ds' j=ds[j].lt ds'[j]:=by
  unfold lAt;rw[List.getElem?_eq_getElem x1,List.getElem?_eq_getElem x2]
 rw[e];exact ih (Nat.le_trans (D.dep_at x1) hd) (r.at h1 x1) (r'.at h2 x2) (k.at x1 x2)
theorem lt_is{G:GH}{s:Shared}(hs:∀a o,G a=some o→s.heap.get? a=some o):∀(n:Nat) {A:Around} {v v':Value} {d d':D},Rm n A→d.dep≤n→Is G v d→Is G v' d'→Kin d d'→LtAt A s v v' (d.lt d'):=by
 intro n
 induction n with
 |zero=>intro A v v' d d' hA hd h h' k;exact lt_leaf h h' k (Nat.le_zero.mp hd)
 |succ n ih=>
  intro A v v' d d' hA hd h h' k;have hu:A.units<cLine:=by have:=hA.un;show A.units<9900;exact J426 this
  have hx:∀{ds ds':List D} {vs vs':List Value},IsAll G vs ds→IsAll G vs' ds'→lexAt (eAt ds ds') (lAt ds ds') vs.toArray.size vs'.toArray.size 0=D.ltL ds ds':=fun r r'=>by
   rw[List.size_toArray,List.size_toArray,r.length,r'.length];exact lex_ltL _ _
  cases k with
  |int a b=>exact lt_leaf h h' (.int a b) rfl
  |str a b=>exact lt_leaf h h' (.str a b) rfl
  |byt a b=>exact lt_leaf h h' (.byt a b) rfl
  |@tup ds ds' k=>
   refine h.tupI fun a vs m ev e r=>h'.tupI fun a' vs' m' ev' e' r'=>?_;subst ev ev';intro prog w E Q hq;refine richCompare_meets_room (op:=.Lt) ⟨_,hs _ _ e,rfl⟩ ⟨_,hs _ _ e',rfl⟩ F.slot_tuple_lt F.entry_tuple_lt (F.args_tuple_lt_2 _ _) (tuple_ltAt a a' vs.toArray vs'.toArray m m' none none #[] #[] _ _)
    ⟨hs _ _ e,hs _ _ e',eq_pw (eq_is hs n hA.in1) (Nat.le_of_succ_le_succ hd) r r' k,lt_pw (ih hA.in1) (Nat.le_of_succ_le_succ hd) r r' k,show Value.bool _≠Value.notImplemented∧Q (.bool _) s from⟨(fun x=>nomatch x),?_⟩⟩ hu
   rw[hx r r'];exact hq
  |@lst ds ds' k=>
   refine h.lstI fun a vs m ev e r=>h'.lstI fun a' vs' m' ev' e' r'=>?_;subst ev ev';intro prog w E Q hq;refine richCompare_meets_room (op:=.Lt) ⟨_,hs _ _ e,rfl⟩ ⟨_,hs _ _ e',rfl⟩ F.slot_list_lt F.entry_list_lt (F.args_list_lt_2 _ _) (list_ltAt a a' vs.toArray vs'.toArray m m' none none #[] #[] _ _)
    ⟨hs _ _ e,hs _ _ e',eq_pw (eq_is hs n hA.in1) (Nat.le_of_succ_le_succ hd) r r' k,lt_pw (ih hA.in1) (Nat.le_of_succ_le_succ hd) r r' k,show Value.bool _≠Value.notImplemented∧Q (.bool _) s from⟨(fun x=>nomatch x),?_⟩⟩ hu
   rw[hx r r'];exact hq
@[elab_as_elim] theorem lenE1 {α:Type} {l:List α} (h:l.length=1) {P:List α→Prop} (k:∀a,P [a]):P l:=by
 obtain⟨a,rfl⟩:=List.length_eq_one_iff.mp h;exact k a
theorem lenE{α:Type}{l:List α}{n:Nat}(h:l.length=n+1){P:List α→Prop}(k:∀a t,t.length=n→P (a::t)):P l:=by
 cases l with
 |nil=>exact absurd h.symm (Nat.succ_ne_zero _)
 |cons a t=>exact k a t (Nat.succ.inj h)
@[elab_as_elim] theorem lenE2 {α:Type} {l:List α} (h:l.length=2) {P:List α→Prop} (k:∀a b,P [a,b]):P l:=lenE h fun a t h=>lenE1 h (P:=fun t=>P (a::t)) fun b=>k a b
@[elab_as_elim] theorem lenE3 {α:Type} {l:List α} (h:l.length=3) {P:List α→Prop} (k:∀a b c,P [a,b,c]):P l:=lenE h fun a t h=>lenE2 h (P:=fun t=>P (a::t)) fun b c=>k a b c
@[elab_as_elim] theorem lenE4 {α:Type} {l:List α} (h:l.length=4) {P:List α→Prop} (k:∀a b c d,P [a,b,c,d]):P l:=lenE h fun a t h=>lenE3 h (P:=fun t=>P (a::t)) fun b c d=>k a b c d
theorem len1{α:Type}{l:List α}(h:l.length=1):∃a,l=[a]:=List.length_eq_one_iff.mp h
theorem len2{α:Type}{l:List α}(h:l.length=2):∃a b,l=[a,b]:=lenE2 h (P:=fun l=>∃a b,l=[a,b]) fun a b=>⟨a,b,rfl⟩
theorem len3{α:Type}{l:List α}(h:l.length=3):∃a b c,l=[a,b,c]:=lenE3 h (P:=fun l=>∃a b c,l=[a,b,c]) fun a b c=>⟨a,b,c,rfl⟩
end
section
open PySem PySem.W PySem.Calls PyProof.Rows PySem.SeqAt
noncomputable def topSt(i:Nat):Option Stmt:=PySem.Challenge.pw_ny0279_01.main.body[i]?
noncomputable def stB:Option Stmt→List Stmt×List Stmt×List Expr
 |some (.FunctionDef _ _ b _ _ _ _ _ _ _)=>(b,[],[])
 |some (.ClassDef _ _ _ b _ _ _ _ _ _ _)=>(b,[],[])
 |some (.For _ _ b _ _)=>(b,[],[])
 |some (.While _ b _ _)=>(b,[],[])
 |some (.If _ t e _)=>(t,e,[])
 |some (.Assign _ v _)=>([],[],[v])
 |_=>([],[],[])
noncomputable def inCls(s:Option Stmt)(j:Nat):Option Stmt:=(stB s).1[j]?
noncomputable def fdOf(st:Option Stmt)(qual:Str)(dflt:Value)(c:Addr)(pm:Value):FuncData:=match st with
 |some (.FunctionDef name args body _ _ _ scope _ _ _)=>{name,qualname:=qual,params:=args,body:=.stmts body,scope,globals:=mainGlobals,closure:=[],defaults:=dflt,kwdefaults:=.none,pyModule:=pm,code:=.ref c,builtins:=builtinsNs}
 |_=>default
noncomputable def bodyOf(s:Option Stmt):List Stmt:=(stB s).1
noncomputable def scopeOf:Option Stmt→Scope
 |some (.FunctionDef _ _ _ _ _ _ scope _ _ _)=>scope
 |_=>default
theorem names_ok{sc:Scope}{l:List Str}(h:(l.all fun x=>!(x==("__debug__" :Str))&&(sc.names.lookup x==some .local||sc.names.lookup x==some .cell))=true):
 ∀x∈l,(x==("__debug__" :Str))=false∧(sc.names.lookup x=some .local∨sc.names.lookup x=some .cell):=by
 intro x hx;have:=List.all_eq_true.mp h x hx;simp only[Bool.and_eq_true,Bool.not_eq_true',Bool.or_eq_true,beq_iff_eq]at this;exact this
section
variable{prog:Program}{w:World}{A:Around}{E:Value→Shared→Prop}{K:GH}{mg mb:Str→Option Value}{r:Shared}{own:Str→Bool}{G:GH}{env:Env}{vs vs':Vs}{led led':List (Addr×Obj)}{s:Shared}
theorem whlN{test:Expr}{body orelse:List Stmt}{pos:Pos}{Q:Flow→Shared→Prop}(I:Nat→Shared→Prop)(n:Nat)(h0:I n s)
 (step:∀n s (N:Shared→Prop),(∀m s',m<n→I m s'→N s')→I n s→∀E',wpAny (model prog w) A (isTrue test env (eval test env)) (tq (model prog w) A env body orelse (wq N Q) Q E') E' s):wpAny (model prog w) A (exec (.While test body orelse pos) env) Q E s:=
 wpAny_While (codeAny_whileLoop I (fun n s hI=>wpAny_mono (step n s (fun s₃=>∃m,m<n∧I m s₃) (fun m _ h1 h2=>⟨m,h1,h2⟩) hI _) (fun b s h=>by
  cases b
  ·exact h
  ·exact wpAny_mono h (fun f s h=>by cases f<;>exact h) fun _ _ h=>h) fun _ _ h=>h) n h0)
theorem whl{test:Expr}{body orelse:List Stmt}{pos:Pos}{Q:Flow→Shared→Prop}(I:Nat→Shared→Prop)(n:Nat)(h0:I n s)
 (step:∀n s,I n s→∀E',wpAny (model prog w) A (isTrue test env (eval test env)) (tq (model prog w) A env body orelse (wq (fun s₃=>∃m,m<n∧I m s₃) Q) Q E') E' s):wpAny (model prog w) A (exec (.While test body orelse pos) env) Q E s:=
 whlN I n h0 fun n s N hN hI E'=>wpAny_mono (step n s hI E') (fun b s h=>by
  cases b
  ·exact h
  ·exact wpAny_mono h (fun f s h=>by cases f<;>first|exact h|exact hN _ _ h.choose_spec.1 h.choose_spec.2) fun _ _ h=>h) fun _ _ h=>h
theorem seqN{st:Stmt}{rest:List Stmt}{Q:Flow→Shared→Prop}(Mid:Shared→Prop)(h1:∀N:Flow→Shared→Prop,(∀s₂,Mid s₂→N .next s₂)→wpAny (model prog w) A (exec st env) N E s)(h2:∀s₂,Mid s₂→wpAny (model prog w) A (execs rest env) Q E s₂):
 wpAny (model prog w) A (execs (st::rest) env) Q E s:=
 xc (wpAny_mono (h1 (fun f s₂=>f=.next∧Mid s₂) fun _ h=>⟨rfl,h⟩) (fun f s₂ h=>by obtain⟨rfl,m⟩:=h;exact h2 s₂ m) fun _ _ e=>e)
structure Itr(prog:Program)(w:World)(A:Around)(G:GH)(I:Addr)(n:Nat)(P:Nat→Value→Prop)(O:Nat→Obj→Prop):Prop where
 item:∀i (s:Shared) (o:Obj) (Q:Option Value→Shared→Prop) (E:Value→Shared→Prop),i<n→(∀a ob,G a=some ob→s.heap.get? a=some ob)→s.heap.get? I=some o→O i o→
  (∀v h' o' tk,P i v→O (i+1) o'→h'.get? I=some o'→Heap.SameBut I s.heap h'→Q (some v) {s with heap:=h',toks:=tk})→wpAny (model prog w) A (pyNext (.ref I)) Q E s
 done:∀(s:Shared) (o:Obj) (Q:Option Value→Shared→Prop) (E:Value→Shared→Prop),(∀a ob,G a=some ob→s.heap.get? a=some ob)→s.heap.get? I=some o→O n o→
  (∀h' tk,(∀b ob,b≠I→s.heap.get? b=some ob→h'.get? b=some ob)→Q none {s with heap:=h',toks:=tk})→wpAny (model prog w) A (pyNext (.ref I)) Q E s
theorem St.leave{I:Addr}{o:Obj}(S:St K r own G env vs ((I,o)::led) s){h':Heap}{t:Nat}(hk:∀b ob,b≠I→s.heap.get? b=some ob→h'.get? b=some ob):St K r own G env vs led {s with heap:=h',toks:=t}:=by
 have P:=S.ld (I,o) (.head _);have nd:=S.nd;rw[List.map_cons,List.nodup_cons]at nd;obtain⟨nq38,base,sub,eo,fm,gl,gc,ld,_⟩:=S;obtain⟨h0,t0,hs⟩:=nq38;refine⟨⟨h',t,by rw[hs]⟩,base,fun a ob e=>hk a ob (fun z=>?_) (sub a ob e),eo,⟨?_,fun x c hc=>?_⟩,gl,gc,fun p hp=>⟨hk _ _ (fun z=>nd.1 (by rw[←z];exact List.mem_map_of_mem (f:=(·.1)) hp)) (ld p (.tail _ hp)).1,(ld p (.tail _ hp)).2⟩,nd.2⟩
 ·have:=P.2.1;rw[←z,e]at this;cases this
 ·obtain⟨ml,nq39,h2⟩:=fm.loc;obtain⟨ob,es,ep,ho,q⟩:=nq39;exact⟨ml,⟨ob,es,ep,hk _ _ (Ne.symm P.2.2.1) ho,q⟩,h2⟩
 ·refine x1_1 (fm.cel x c hc) fun ob ho q=>?_;exact⟨ob,hk _ _ (fun z=>P.2.2.2 x c (mem_of_lookup hc) z.symm) ho,q⟩
theorem forN{target:Expr}{body orelse:List Stmt}{Q:Flow→Shared→Prop}{E₀:Value→Shared→Prop}{I:Addr}{n:Nat}{P:Nat→Value→Prop}{O:Nat→Obj→Prop}{o:Obj}
 (W:∀G',GLe G G'→Itr prog w A G' I n P O) (J:Nat→GH→Vs→List (Addr×Obj)→Prop) (S:St K r own G env vs ((I,o)::led) s) (h0:O 0 o) (j0:J 0 G vs led)
 (step:∀i v G' vs' led' o s E' (N:Shared→Prop),i<n→P i v→GLe G G'→(∀G₃ vs₃ led₃ s₃,GLe G' G₃→St K r own G₃ env vs₃ ((I,o)::led₃) s₃→J (i+1) G₃ vs₃ led₃→N s₃)→J i G' vs' led'→St K r own G' env vs' ((I,o)::led') s→
  wpAny (model prog w) A (assign target env v) (bq (model prog w) A env body (wq N Q) E') E' s)
 (done:∀G' vs' led' s E',GLe G G'→J n G' vs' led'→St K r own G' env vs' led' s→wpAny (model prog w) A (execs orelse env) Q E' s)
 (hgo:∀v,letOwnedTupleGo target (.ref I) v=pure ():=by intro v;rfl):
 codeAny (model prog w) A (.forLoop target (.ref I) body orelse env) (fun r s'=>match r with| .ok f=>Q f s'| .error e=>cameBackBy (model prog w) A env E₀ e s') s:=by
 refine codeAny_forLoop (fun k s=>∃i G' vs' led' o,i≤n∧k=n-i∧GLe G G'∧O i o∧St K r own G' env vs' ((I,o)::led') s∧J i G' vs' led') ?_ n ⟨0,G,vs,led,o,Nat.zero_le _,rfl,GLe.refl G,h0,S,j0⟩ hgo;intro k s nq40;obtain⟨i,G',vs',led',o,hi,rfl,hG,hO,S,hJ⟩:=nq40;by_cases hlt:i<n
 ·refine(W G' hG).item i s o _ _ hlt S.sub (S.get (.head _)) hO fun v h' o' tk hP hO' ho' hsb=>?_;have S':=S.up (t:=tk) .here hsb ho';have hN:=fun G₃ vs₃ led₃ s₃ (g:GLe G' G₃) (S₃:St K r own G₃ env vs₃ ((I,o')::led₃) s₃) (j:J (i+1) G₃ vs₃ led₃)=>
   show∃m,m<n-i∧∃i G' vs' led' o,i≤n∧m=n-i∧GLe G G'∧O i o∧St K r own G' env vs' ((I,o)::led') s₃∧J i G' vs' led' from
   ⟨n-(i+1),J211 hlt,i+1,G₃,vs₃,led₃,o',hlt,rfl,hG.trans g,hO',S₃,j⟩
  exact wpAny_mono (step i v G' vs' led' o' _ _ _ hlt hP hG hN hJ S') (fun _ s₂ h₂=>wpAny_mono h₂ (fun f s₃ h₃=>by cases f<;>exact h₃) fun _ _ e=>e) fun _ _ e=>e
 ·have:i=n:=J326 hi hlt;subst this;exact(W G' hG).done s o _ _ S.sub (S.get (.head _)) hO fun h' tk hk=>done G' vs' led' _ _ hG hJ (S.leave hk)
theorem forI{target:Expr}{body orelse:List Stmt}{Q:Flow→Shared→Prop}{E₀:Value→Shared→Prop}{I:Addr}{n:Nat}{P:Nat→Value→Prop}{O:Nat→Obj→Prop}{o:Obj}
 (W:∀G',GLe G G'→Itr prog w A G' I n P O) (J:Nat→GH→Vs→List (Addr×Obj)→Prop) (S:St K r own G env vs ((I,o)::led) s) (h0:O 0 o) (j0:J 0 G vs led)
 (step:∀i v G' vs' led' o s E',i<n→P i v→GLe G G'→J i G' vs' led'→St K r own G' env vs' ((I,o)::led') s→
  wpAny (model prog w) A (assign target env v) (bq (model prog w) A env body (wq (fun s₃=>∃G₃ vs₃ led₃,GLe G' G₃∧St K r own G₃ env vs₃ ((I,o)::led₃) s₃∧J (i+1) G₃ vs₃ led₃) Q) E') E' s)
 (done:∀G' vs' led' s E',GLe G G'→J n G' vs' led'→St K r own G' env vs' led' s→wpAny (model prog w) A (execs orelse env) Q E' s)
 (hgo:∀v,letOwnedTupleGo target (.ref I) v=pure ():=by intro v;rfl):
 codeAny (model prog w) A (.forLoop target (.ref I) body orelse env) (fun r s'=>match r with| .ok f=>Q f s'| .error e=>cameBackBy (model prog w) A env E₀ e s') s:=
 forN W J S h0 j0 (fun i v G' vs' led' o s E' N hi hP hG hN hJ S=>wpAny_mono (step i v G' vs' led' o s E' hi hP hG hJ S) (fun _ _ h=>wpAny_mono h (fun f s h=>by
  cases f<;>first|exact h|exact h.elim fun G₃ h=>h.elim fun vs₃ h=>h.elim fun led₃ h=>hN _ _ _ _ h.1 h.2.1 h.2.2) fun _ _ h=>h) fun _ _ h=>h) done hgo
theorem Itr.range(hA:A.handled=none)(I:Addr)(a c:Int)(n:Nat):
 Itr prog w A G I n (fun i v=>∃t,v=.int (a+i*c) t) (fun i o=>o={cls:=.type "range_iterator",data:=.fields #[rawInt (a+i*c),rawInt ((n:Int)-i),rawInt c]}) where
 item:=by
  intro i s o Q E hlt hs ho nq41;subst nq41;intro k;refine wpAny_pyNext_range_item ho (J203 hlt) fun h' h1 h2=>?_;refine k _ h' _ _ ⟨_,rfl⟩ rfl ?_ h2;rw[show(a+((i+1:Nat):Int)*c)=a+(i:Int)*c+c by push_cast;rw[Int.add_mul];exact J357,show(n:Int)-((i+1:Nat):Int)=(n:Int)-i-1 by push_cast;exact J158];exact h1
 done:=by
  intro s o Q E hs ho nq42;subst nq42;intro k;exact wpAny_pyNext_range_end hA ho J20 fun h' h1=>k h' _ fun b ob hb e=>h1 b ob hb e
theorem Itr.list(hA:A.handled=none){l:Addr}{items:List Value}{m:Nat}(hl:G l=some (listOf items.toArray m))(I:Addr):
 Itr prog w A G I items.length (fun i v=>items[i]? =some v) (fun i o=>o.cls=.type "list_iterator"∧o.data=.fields #[.ref l,.int i 0]) where
 item:=by
  intro i s o Q E hlt hs ho nq43;obtain⟨h1,h2⟩:=nq43;intro k;refine wpAny_pyNext_list_item (i:=i) (x:=items[i]) ⟨o,ho,h1,h2⟩ (Is.list hs hl) (by simp[hlt]) fun h' ⟨o',x1,x2,x3⟩ hsb=>k _ h' o' _ (by simp[hlt]) ⟨x2,x3⟩ x1 hsb
 done:=by
  intro s o Q E hs ho nq44;obtain⟨h1,h2⟩:=nq44;intro k;exact wpAny_pyNext_list_end hA ⟨o,ho,h1,h2⟩ (Is.list hs hl) (by simp) fun h' h1=>k h' _ fun b ob hb e=>h1 b ob hb e
theorem Itr.tuple(hA:A.handled=none){l:Addr}{items:List Value}{m:Nat}(hl:G l=some (tupOf items.toArray m))(I:Addr):
 Itr prog w A G I items.length (fun i v=>items[i]? =some v) (fun i o=>o.cls=.type "tuple_iterator"∧o.data=.fields #[.ref l,.int i 0]) where
 item:=by
  intro i s o Q E hlt hs ho nq45;obtain⟨h1,h2⟩:=nq45;intro k;refine wpAny_pyNext_tuple_item (i:=i) (x:=items[i]) ⟨o,ho,h1,h2⟩ (Is.tuple hs hl) (by simp[hlt]) fun h' ⟨o',x1,x2,x3⟩ hsb=>k _ h' o' _ (by simp[hlt]) ⟨x2,x3⟩ x1 hsb
 done:=by
  intro s o Q E hs ho nq46;obtain⟨h1,h2⟩:=nq46;intro k;exact wpAny_pyNext_tuple_end hA ⟨o,ho,h1,h2⟩ (Is.tuple hs hl) (by simp) fun h' h1=>k h' _ fun b ob hb e=>h1 b ob hb e
theorem Itr.str(hA:A.handled=none){x:Str}{t:Tok}(I:Addr):
 Itr prog w A G I x.cps.size (fun i v=>∃c u,x.cps[i]? =some c∧v=.str ⟨#[c]⟩ u) (fun i o=>o.cls=.type "str_ascii_iterator"∧o.data=.fields #[.str x t,.int i 0]) where
 item:=by
  intro i s o Q E hlt hs ho nq47;obtain⟨h1,h2⟩:=nq47;intro k;refine wpAny_pyNext_ascii_item (i:=i) (c:=x.cps[i]) ⟨o,ho,h1,h2⟩ (by simp[hlt]) fun h' ⟨o',x1,x2,x3⟩ hsb=>k _ h' o' _ ⟨_,_,by simp[hlt],rfl⟩ ⟨x2,x3⟩ x1 hsb
 done:=by
  intro s o Q E hs ho nq48;obtain⟨h1,h2⟩:=nq48;intro k;exact wpAny_pyNext_ascii_end hA ⟨o,ho,h1,h2⟩ (by simp) fun h' h1=>k h' _ fun b ob hb e=>h1 b ob hb e
end
section
variable{prog:Program}{w:World}{A:Around}{E:Value→Shared→Prop}{K:GH}{mg mb:Str→Option Value}{r:Shared}{own:Str→Bool}{G:GH}{env:Env}{vs vs':Vs}{led led':List (Addr×Obj)}{s:Shared}{Q:Value→Shared→Prop}
theorem c_int(S:St K r own G env vs led s){i:Int}{k:Nat}{pos:Pos}(h:∀t s',St K r own G env vs led s'→Q (.int i t) s'):wpAny (model prog w) A (eval (.Constant (.int i) k pos) env) Q E s:=wpAny_Constant_int (h _ _ (S.tok _))
theorem c_str(S:St K r own G env vs led s){i:Str}{k:Nat}{pos:Pos}(h:∀t s',St K r own G env vs led s'→Q (.str i t) s'):wpAny (model prog w) A (eval (.Constant (.str i) k pos) env) Q E s:=PySem.Calls.Constant_str (h _ _ (S.tok _))
theorem b_add(S:St K r own G env vs led s){a b:Int}{t u:Tok}(h:∀t s',St K r own G env vs led s'→Q (.int (a+b) t) s'):wpAny (model prog w) A (binaryOp .Add (.int a t) (.int b u)) Q E s:=PyProof.Rows.add_int (h _ _ (S.tok _))
theorem b_sub(S:St K r own G env vs led s){a b:Int}{t u:Tok}(h:∀t s',St K r own G env vs led s'→Q (.int (a-b) t) s'):wpAny (model prog w) A (binaryOp .Sub (.int a t) (.int b u)) Q E s:=PyProof.Rows.sub_int (h _ _ (S.tok _))
theorem b_mul(S:St K r own G env vs led s){a b:Int}{t u:Tok}(hm:IntMulOk a b)(h:∀t s',St K r own G env vs led s'→Q (.int (a*b) t) s'):wpAny (model prog w) A (binaryOp .Mult (.int a t) (.int b u)) Q E s:=PyProof.Rows.mul_int (h _ _ (S.tok _)) hm
theorem b_shr(S:St K r own G env vs led s){a b:Int}{t u:Tok}(hb:0≤b)(h:∀t s',St K r own G env vs led s'→Q (.int (a.fdiv (2^b.toNat)) t) s'):wpAny (model prog w) A (binaryOp .RShift (.int a t) (.int b u)) Q E s:=rshift_int hb (h _ _ (S.tok _))
theorem b_mod(S:St K r own G env vs led s){a b:Int}{t u:Tok}(hb:b≠0)(h:∀t s',St K r own G env vs led s'→Q (.int (a.fmod b) t) s'):wpAny (model prog w) A (binaryOp .Mod (.int a t) (.int b u)) Q E s:=mod_int' hb (h _ _ (S.tok _))
theorem b_div(S:St K r own G env vs led s){a b:Int}{t u:Tok}(hb:b≠0)(hp:Builtin.divisionGoesByPylong a b=false)(h:∀t s',St K r own G env vs led s'→Q (.int (a.fdiv b) t) s'):wpAny (model prog w) A (binaryOp .FloorDiv (.int a t) (.int b u)) Q E s:=floordiv_int hb (h _ _ (S.tok _)) (.inl hp)
theorem a_name{x:Str}{px pos:Pos}{value:Expr}{Q:Flow→Shared→Prop}(h:wpAny (model prog w) A (eval value env) (anq (model prog w) A env x Q E) E s)
 (hv:swapsWith value (some (.Name x px)) pos.line env=pure false:=by rfl):wpAny (model prog w) A (exec (.Assign [.Name x px] value pos) env) Q E s:=wpAny_Assign_Name h hv
theorem sub_list{l:Addr}{items:List Value}{n:Nat}{value slice:Expr}{k:Int}{u:Tok}{v:Value}(hl:s.heap.get? l=some (listOf items.toArray n))(h0:0≤k)(h1:k<2^63)(hx:items[k.toNat]? =some v)(h:Q v s)
 (hs':subscripted slice false (.ref l) (.int k u)=operate [.ref l,.int k u] (getItem (.ref l) (.int k u)):=by with_unfolding_all rfl):wpAny (model prog w) A (subscriptTail value slice (.ref l) (.int k u)) Q E s:=
 have hs:s.heap.IsList l items.toArray:=⟨_,hl,rfl,n,rfl⟩
 tail_any hs.typeIs slot_list_getitem.lookup (wpAny_getItem_list hs h0 h1 (by simpa using hx) h) hs'
theorem set_item{l:Addr}{items:Array Value}{n:Nat}{k:Int}{t:Tok}{v:Value}{Q:Unit→Shared→Prop}(ho:IsL s.heap l items n)(h0:0≤k)(hfit:k<2^63)(hn:k<items.size)
 (hQ:Q () {s with heap:=s.heap.update l (Obj.mapSeq (·.setIfInBounds k.toNat v))}):wpAny (model prog w) A (setItem (.ref l) (.int k t) v) Q E s:=by
 have hl:=IsL.isList ho;unfold setItem
 try with_reducible refine wpAny_holding ?_
 first|refine wpAny_bind (wpAny_pure ?_)|skip
 refine wpAny_bind (wpAny_sequenceKey hl.typeIs (by decide) ?_);refine wpAny_bind (wpAny_callSpecial?_slot (name:=Str.ofString "__setitem__") hl.typeIs PySem.slot_list_setitem
  (wpAny_call_entry PySem.slot_list_setitem hl.typeIs PySem.entry_list_setitem ?_ (args_list_setitem _ _ _)))
 show wpAny _ _ (Builtin.List.listSubscript? (.int k t)>>=_) _ _ s;refine wpAny_bind (wpAny_listSubscript_int (fitsIndex_of h0 hfit) ?_);clear hfit;obtain⟨j,rfl⟩:=Int.eq_ofNat_of_zero_le h0;have hj:j<items.size:=J170 hn;have hx':items[j]? =some items[j]:=Array.getElem?_eq_getElem hj;show wpAny _ _ ((seqItemAt l j >>=fun r=>pure (r.map (j,·)))>>=_) _ _ s;refine wpAny_bind (wpAny_bind (wpAny_seqItemAt ho rfl (wpAny_pure ?_)));rw[hx'];show wpAny _ _ (setSeqItemAt l j v >>=_) _ _ s;refine wpAny_bind (wpAny_setSeqItemAt ho rfl ?_)
 first
  |exact wpAny_bind (wpAny_pure (wpAny_pure ⟨.none,rfl,wpAny_pure hQ⟩))
  |exact wpAny_pure ⟨.none,rfl,wpAny_pure hQ⟩
theorem St.seq{led':Nat→List (Addr×Obj)}{l:Addr}{items:List Value}{n:Nat}(S:St K r own G env vs led s)(f:Array Value→Array Value)(items':List Value)(hf:f items.toArray=items'.toArray)(t:Nat)
 (U:∀n',Up l (listOf items.toArray n) (listOf items'.toArray n') led (led' n')):∃n',St K r own G env vs (led' n') {s with heap:=s.heap.update l (Obj.mapSeq f),toks:=t}:=by
 have h0:=S.get (U 0).mem;have:=IsL.update h0 f;rw[hf]at this;exact⟨_,S.up (U _) (Heap.SameBut.update ..) this⟩
theorem set_list{l:Addr}{items:List Value}{n:Nat}{k:Int}{u:Tok}{v:Value}{Q:Unit→Shared→Prop}{led':Nat→List (Addr×Obj)}(S:St K r own G env vs led s)
 (h0:0≤k) (h1:k<2^63) (h2:k<items.length) (U:∀n',Up l (listOf items.toArray n) (listOf (items.set k.toNat v).toArray n') led (led' n')) (h:∀n' s',St K r own G env vs (led' n') s'→Q () s'):wpAny (model prog w) A (setItem (.ref l) (.int k u) v) Q E s:=by
 refine set_item (items:=items.toArray) (n:=n) (S.get (U 0).mem) h0 h1 (by simpa using h2) ?_;obtain⟨n',S'⟩:=S.seq (·.setIfInBounds k.toNat v) (items.set k.toNat v) (by simp) s.toks U;exact h n' _ S'
end
section
variable{prog:Program}{w:World}{A:Around}{E:Value→Shared→Prop}{K:GH}{mg mb:Str→Option Value}{r:Shared}{own:Str→Bool}{G:GH}{env:Env}{vs vs':Vs}{led led':List (Addr×Obj)}{s:Shared}{Q:Value→Shared→Prop}
theorem St.upk(S:St K r own G env vs led s){h':Heap}{t:Nat}{a:Addr}{o o':Obj}(U:Up a o o' led led')(hk:∀b ob,b≠a→s.heap.get? b=some ob→h'.get? b=some ob)(ha:h'.get? a=some o'):
 St K r own G env vs led' {s with heap:=h',toks:=t}:=by
 obtain⟨nq49,base,sub,eo,fm,gl,gc,ld,nd⟩:=S;obtain⟨h0,t0,hs0⟩:=nq49;have A:=ld _ U.mem;have hne:∀b o,G b=some o→b≠a:=fun b o e z=>by rw[z,A.2.1]at e;cases e
 refine⟨⟨h',t,by rw[hs0]⟩,base,fun b ob e=>hk b ob (hne b ob e) (sub b ob e),eo,⟨?_,fun x c hc=>?_⟩,gl,gc,?_,by rw[U.names];exact nd⟩
 ·obtain⟨ml,nq50,h2⟩:=fm.loc;obtain⟨o1,es,ep,h1,q⟩:=nq50;exact⟨ml,⟨o1,es,ep,hk _ _ (Ne.symm A.2.2.1) h1,q⟩,h2⟩
 ·refine x1_1 (fm.cel x c hc) fun o1 h1 q=>?_;exact⟨o1,hk _ _ (fun e=>A.2.2.2 x c (mem_of_lookup hc) e.symm) h1,q⟩
 ·intro p hp;rcases U.or nd p hp with rfl|⟨hp,hn⟩
  ·exact⟨ha,A.2⟩
  ·exact⟨hk _ _ hn (ld p hp).1,(ld p hp).2⟩
theorem glob_ok{sc:Scope}{l:List Str}(h:(l.all fun x=>!(x==("__debug__" :Str))&&sc.names.lookup x==some .globalImplicit)=true):
 ∀x∈l,(x==("__debug__" :Str))=false∧sc.names.lookup x=some .globalImplicit:=by
 intro x hx;have:=List.all_eq_true.mp h x hx;simp only[Bool.and_eq_true,Bool.not_eq_true',beq_iff_eq]at this;exact this
def Gl(env:Env)(gs:List Str):Prop:=∀x∈gs,(x==("__debug__" :Str))=false∧env.kindOf x=some .globalImplicit
theorem Gl.of{env:Env}{gs:List Str}{sc:Scope}(hk:env.kindOf=fun x=>sc.names.lookup x)(h:(gs.all fun x=>!(x==("__debug__" :Str))&&sc.names.lookup x==some .globalImplicit)=true):Gl env gs:=by
 intro x hx;rw[hk];exact glob_ok h x hx
theorem x_any{e:Expr}{pos:Pos}{Q:Flow→Shared→Prop}(S:St K r own G env vs led s)(h:wpAny (model prog w) A (eval e env) (xq Q) E s)(hs:swapsWith e none pos.line env=pure false:=by rfl):wpAny (model prog w) A (exec (.Expr e pos) env) Q E s:=
 wpAny_Expr_any h (by unfold interactive;rw[S.eo.fn];rfl) hs
theorem cdef{gs:List Str}{f:Addr}{fd:FuncData}{x:Str}{px pos:Pos}{e:Expr}{rest:List Expr}(S:St K r own G env vs led s)(T:Tp K mg mb)(g:Gl env gs)(F:Fn K f fd)(hv:mg x=some (.ref f))(hx:x∈gs)
 (h:wpAny (model prog w) A (spliced (backTo pos (starEach (e::rest) env))) (dq (model prog w) A f K Q E) E s)
 (he:starEach (e::rest) env=(false,eval e env)::starEach rest env:=by rfl):
 wpAny (model prog w) A (eval (.Call (.Name x px) (e::rest) [] pos) env) Q E s:=
 Call_ (S.glob T hv (g x hx).2 (callWith_def (o:={cls:=.type "function",data:=.func fd}) (fd:=fd) rfl (wpAny_mono h (fun vals s₁ h₁=>⟨h₁.1 _ _ F.at_,wpAny_call h₁.2⟩) fun _ _ x=>x) he) (g x hx).1)
theorem cblt{gs:List Str}{id:String}{x:Str}{px pos:Pos}{e:Expr}{rest:List Expr}(S:St K r own G env vs led s)(T:Tp K mg mb)(g:Gl env gs)(hv:mg x=none∧mb x=some (.builtin id))(hx:x∈gs)
 (h:wpAny (model prog w) A (spliced (backTo pos (starEach (e::rest) env))) (kq (model prog w) A id Q E) E s)
 (he:starEach (e::rest) env=(false,eval e env)::starEach rest env:=by rfl) (hp:(backTo pos (starEach rest env)).any (·.1)=false:=by rfl):
 wpAny (model prog w) A (eval (.Call (.Name x px) (e::rest) [] pos) env) Q E s:=
 Call_ (S.bltn T hv.1 hv.2 (g x hx).2 (PyProof.Rows.callWith_builtin1 h he hp) (g x hx).1)
theorem arg{e:Expr}{rest:List Expr}{pos:Pos}{Q:List Value→Shared→Prop}
 (h:wpAny (model prog w) A (eval e env) (aq (model prog w) A env pos rest Q E) E s)
 (he:starEach (e::rest) env=(false,eval e env)::starEach rest env:=by rfl):wpAny (model prog w) A (spliced (backTo pos (starEach (e::rest) env))) Q E s:=args_cons h he
theorem argE{pos:Pos}{Q:List Value→Shared→Prop}(h:Q [] s):wpAny (model prog w) A (spliced (backTo pos (starEach [] env))) Q E s:=PyProof.Rows.args_nil h
theorem len_lst(S:St K r own G env vs led s){l:Addr}{items:List Value}{n:Nat}(hl:s.heap.get? l=some (listOf items.toArray n))(hz:items.length<2^63)(h:∀t s',St K r own G env vs led s'→Q (.int items.length t) s'):
 wpAny (model prog w) A (call (.builtin "len") [.ref l]) Q E s:=
 len_list (items:=items.toArray) ⟨_,hl,rfl,n,rfl⟩ (by simpa using(J86 hz:(items.length:Int)<2^63)) (by simpa using h _ _ (S.tok _))
theorem truthy_lst(S:St K r own G env vs led s){l:Addr}{items:List Value}{n:Nat}{Q:Bool→Shared→Prop}(hl:s.heap.get? l=some (listOf items.toArray n))(hz:items.length<2^63)(h:∀s',St K r own G env vs led s'→Q (!items.isEmpty) s'):
 wpAny (model prog w) A (truthy (.ref l)) Q E s:=
 wpAny_truthy_list (items:=items.toArray) ⟨_,hl,rfl,n,rfl⟩ (by simpa using(J86 hz:(items.length:Int)<2^63)) (by simpa using h _ (S.tok _))
inductive MethK(prog:Program)(w:World)(A:Around)(env:Env)(E:Value→Shared→Prop)(pos:Pos)(args:List Expr)(T id:String)(Q:Value→Shared→Prop)(ov:Value)(s₁:Shared):Prop
 |mk (l:Addr) (ob:Obj) (e1:ov=.ref l) (e2:s₁.heap.get? l=some ob) (e3:ob.cls=.type T) (e4:ob.dict=none) (e5:wpAny (model prog w) A (callWith pos (.builtin id) [.ref l] (backTo pos (starEach args env)) []) Q E s₁)
theorem meth{o:Expr}{name:Str}{apos pos:Pos}{args:List Expr}{T id:String}(pa:PlainAttrs T)(sl:Slot T name id)(ty:typeOf (.builtin id)=pure (.type "method_descriptor"))
 (h:wpAny (model prog w) A (eval o env) (MethK prog w A env E pos args T id Q) E s)
 (h1:attributeBase o name env (eval o env)=eval o env:=by rfl)
 (h2:(((backTo pos (starEach args env)).all fun x=>!x.1)&&((backToKw pos (keywordEach [] env)).all fun x=>x.1.isSome)&&decide ((args.length+([]:List Keyword).length+if([]:List Keyword).isEmpty=true then 0 else 1)<30))=true:=by rfl)
 (h3:(apos.endLine==pos.line)=true:=by rfl):wpAny (model prog w) A (eval (.Call (.Attribute o name apos) args [] pos) env) Q E s:=
 wpAny_Call_method h1 h2 h3 pa sl ty (wpAny_mono h (fun ov s₁ ⟨l,ob,e1,e2,e3,e4,e5⟩=>by subst e1;exact⟨⟨ob,e2,e3⟩,fun a ea=>by cases ea;exact⟨ob,e2,e4⟩,e5⟩) fun _ _ x=>x)
end
structure B0(K:GH)(mg mb:Str→Option Value)(p0 p1 p2 p3:Value):Prop extends Tp K mg mb where
 f_quotedata:Fn K 60 (fdOf (topSt 7) "quotedata" .none 59 p0)
 g_quotedata:mg "quotedata" =some (.ref 60)
 f_quote_periods:Fn K 67 (fdOf (topSt 8) "_quote_periods" .none 66 p0)
 g_quote_periods:mg "_quote_periods" =some (.ref 67)
 f_fix_eols:Fn K 74 (fdOf (topSt 9) "_fix_eols" .none 73 p0)
 g_fix_eols:mg "_fix_eols" =some (.ref 74)
 f_heappush:Fn K 201 (fdOf (topSt 17) "heappush" .none 200 p2)
 g_heappush:mg "heappush" =some (.ref 201)
 f_heappop:Fn K 208 (fdOf (topSt 18) "heappop" .none 207 p2)
 g_heappop:mg "heappop" =some (.ref 208)
 f_siftdown:Fn K 215 (fdOf (topSt 19) "_siftdown" .none 214 p2)
 g_siftdown:mg "_siftdown" =some (.ref 215)
 f_siftup:Fn K 222 (fdOf (topSt 20) "_siftup" .none 221 p2)
 g_siftup:mg "_siftup" =some (.ref 222)
 f_law_sent:Fn K 229 (fdOf (topSt 22) "_law_sent" .none 228 p3)
 g_law_sent:mg "_law_sent" =some (.ref 229)
 f_law_seams:Fn K 236 (fdOf (topSt 23) "_law_seams" .none 235 p3)
 g_law_seams:mg "_law_seams" =some (.ref 236)
 f_law_tried:Fn K 241 (fdOf (topSt 24) "_law_tried" .none 240 p3)
 g_law_tried:mg "_law_tried" =some (.ref 241)
 f_law_by_heap:Fn K 248 (fdOf (topSt 25) "_law_by_heap" .none 247 p3)
 g_law_by_heap:mg "_law_by_heap" =some (.ref 248)
 f_law_by_sorter:Fn K 253 (fdOf (topSt 26) "_law_by_sorter" .none 252 p3)
 g_law_by_sorter:mg "_law_by_sorter" =some (.ref 253)
 f_law_in_octets:Fn K 258 (fdOf (topSt 27) "_law_in_octets" .none 257 p3)
 g_law_in_octets:mg "_law_in_octets" =some (.ref 258)
 f_law:Fn K 263 (fdOf (topSt 28) "law" .none 262 p3)
 g_law:mg "law" =some (.ref 263)
 b_len:mg "len" =none∧mb "len" =some (.builtin "len")
 b_min:mg "min" =none∧mb "min" =some (.builtin "min")
 b_sum:mg "sum" =none∧mb "sum" =some (.builtin "sum")
 b_sorted:mg "sorted" =none∧mb "sorted" =some (.builtin "sorted")
 b_ord:mg "ord" =none∧mb "ord" =some (.builtin "ord")
 b_iter:mg "iter" =none∧mb "iter" =some (.builtin "iter")
 b_range:mg "range" =none∧mb "range" =some (.type "range")
 b_zip:mg "zip" =none∧mb "zip" =some (.type "zip")
 b_enumerate:mg "enumerate" =none∧mb "enumerate" =some (.type "enumerate")
 b_bytes:mg "bytes" =none∧mb "bytes" =some (.type "bytes")
 b_tuple:mg "tuple" =none∧mb "tuple" =some (.type "tuple")
 b_set:mg "set" =none∧mb "set" =some (.type "set")
 b_bool:mg "bool" =none∧mb "bool" =some (.type "bool")
section
open PySem.Sre in
theorem runFor_some{m:M}(h:m.outcome.isSome=true):∀n,m.runFor n=m
 |0=>rfl
 |n+1=>by unfold M.runFor;rw[if_pos h]
open PySem.Sre in
theorem runFor_succ{m:M}{n:Nat}(h:m.outcome.isSome=false):m.runFor (n+1)=(m.step).runFor n:=by
 rw[M.runFor,if_neg (by simp[h])]
open PySem.Sre in
theorem stp{m m' r:M}{n:Nat}(h:m.outcome.isSome=false)(e:m.step=m')(g:m'.runFor n=r):m.runFor (n+1)=r:=by
 rw[runFor_succ h,e];exact g
open PySem.Sre in
theorem runFor_add(m:M):∀a b,m.runFor (a+b)=(m.runFor a).runFor b
 |0,b=>by rw[Nat.zero_add];rfl
 |a+1,b=>by
  cases h:m.outcome.isSome with
  |true=>rw[runFor_some h,runFor_some h,runFor_some h]
  |false=>
   rw[show a+1+b=(a+b)+1 by exact J160,runFor_succ h,runFor_succ h];exact runFor_add _ a b
open PySem.Sre PySem.Builtin.Re in
theorem drive_ok{Md:Model}{A:Around}{E:Value→Shared→Prop}{s:Shared}{Q:M→Shared→Prop}{r:M}(hr:r.outcome.isSome=true)(hq:Q r s):∀(t k:Nat) (m:M),k≤4*t→m.runFor k=r→wpAny Md A (reDrive (t+1) m) Q E s
 |0,k,m,hk,h=>by
  have:k=0:=J124 hk;subst this;have h':m=r:=h;subst h';rw[reDrive,runFor_some hr,if_pos hr];exact wpAny_pure hq
 |t+1,k,m,hk,h=>by
  rw[reDrive];cases ho:(m.runFor reTurnSteps).outcome.isSome with
  |true=>
   rw[if_pos rfl];have:m.runFor reTurnSteps=r:=by
    have h1:=runFor_add m reTurnSteps k;rw[runFor_some ho,Nat.add_comm,runFor_add,h,runFor_some hr]at h1;exact h1.symm
   rw[this];exact wpAny_pure hq
  |false=>
   rw[if_neg (by simp)];refine wpAny_bind (wpAny_rule (drive_ok hr hq t (k-4) _ (J236 hk) ?_));by_cases hk4:4≤k
   ·rw[←h,←runFor_add];congr 1;show 4+(k-4)=k;exact J70 hk4
   ·exfalso;have h1:=runFor_add m k (4-k);rw[h,runFor_some hr,show k+(4-k)=4 by exact J135 hk4]at h1;have h2:(m.runFor 4).outcome.isSome=true:=by rw[h1];exact hr
    rw[show reTurnSteps=4 from rfl,h2]at ho;cases ho
open PySem.Sre PySem.Builtin.Re in
theorem toEnd_ok{Md:Model}{A:Around}{E:Value→Shared→Prop}{s:Shared}{Q:Option M→Shared→Prop}{m r:M}{k:Nat}(hk:k≤2^64)(h:m.runFor k=r)
 (hr:(r.outcome matches some .matched)=true∨(r.outcome matches some .failed)=true)
 (hq:Q (match r.outcome with|some .matched=>some r|_=>none) s):wpAny Md A (reRunToEnd m) Q E s:=by
 unfold reRunToEnd;have hs:r.outcome.isSome=true:=by
  rcases hr with hr|hr<;>cases ho:r.outcome<;>simp[ho]at hr⊢
 rw[show(2^64:Nat)=(2^64-1)+1 from rfl];refine wpAny_bind (drive_ok hs ?_ (2^64-1) k m (J118 hk) h);refine wpAny_bind (wpAny_forIn_list _ (fun _ _ s'=>s'=s) _ ?turn ?fin _ _ rfl)
 case turn=>
  intro i l b s' nq51;subst nq51;by_cases hi:r.seen.has i=true
  ·rw[if_pos hi];exact wpAny_bind (wpAny_rule (wpAny_pure rfl))
  ·rw[if_neg hi];exact wpAny_pure rfl
 intro b s' e;subst e;rcases hr with hr|hr
 ·cases ho:r.outcome with
  |none=>simp[ho]at hr
  |some o=>
   cases o with
   |matched=>rw[ho]at hq;exact wpAny_pure hq
   |failed=>simp[ho]at hr
   |stuck=>simp[ho]at hr
 ·cases ho:r.outcome with
  |none=>simp[ho]at hr
  |some o=>
   cases o with
   |matched=>simp[ho]at hr
   |failed=>rw[ho]at hq;exact wpAny_pure hq
   |stuck=>simp[ho]at hr
noncomputable def exP:Expr→List Expr×Nat
 | .Call _ l _ _=>(l,0)
 | .List l _=>(l,0)
 | .Constant (.int i) _ _=>([],i.toNat)
 |_=>([],0)
noncomputable def wordsIn(s:Option Stmt):Array Nat:=((((stB s).2.2.flatMap fun v=>(exP v).1)[2]?.toList.flatMap fun l=>(exP l).1).map fun e=>(exP e).2).toArray
noncomputable def c1:Array Nat:=wordsIn (topSt 3)
noncomputable def c2:Array Nat:=wordsIn (topSt 4)
noncomputable def c3:Array Nat:=wordsIn (topSt 5)
theorem c2_c1:c2=c1:=by decide+kernel
open PySem.Sre
section
variable{code text:Array Nat}{lim start lastStart pc pos handed weight:Nat}{wholeText mustAdvance outermost:Bool}{marks:Array (Option Nat)}{lastmark lastindex:Int}{loops:Array Loop}{inner:Option Nat}{frames:List Sre.Frame}{seen:Sre.Seen}
theorem s_lit(hpc:pc<code.size)(hw:ops[code.getD pc 0]? =some .LITERAL)(hp:pos<lim)(hc:text.getD pos 0=code.getD (pc+1) 0):(⟨code,text,lim,start,lastStart,false,false,pc,pos,handed,outermost,marks,-1,-1,loops,none,frames,weight,none,seen,none⟩:M).step=(⟨code,text,lim,start,lastStart,false,false,pc+2,pos+1,handed,outermost,marks,-1,-1,loops,none,frames,weight,none,seen.add (code.getD pc 0),none⟩:M):=by
 have h1:¬pos≥lim:=J218 hp;simp only[M.step,Option.isSome_none,Bool.false_eq_true,if_false,hpc,if_true,M.exec,M.word,Nat.add_zero,M.say,hw,if_neg h1,accepts,hc,beq_self_eq_true,itemWidth]
theorem s_lit0(hpc:pc<code.size)(hw:ops[code.getD pc 0]? =some .LITERAL)(hp:lim≤pos):(⟨code,text,lim,start,lastStart,false,false,pc,pos,handed,outermost,marks,-1,-1,loops,none,frames,weight,none,seen,none⟩:M).step=(⟨code,text,lim,start,lastStart,false,false,pc,pos,handed,outermost,marks,-1,-1,loops,none,frames,weight,some false,seen.add (code.getD pc 0),none⟩:M):=by
 have h1:pos≥lim:=hp;simp only[M.step,Option.isSome_none,Bool.false_eq_true,if_false,hpc,if_true,M.exec,M.word,Nat.add_zero,M.say,hw,if_pos h1]
theorem s_lit1(hpc:pc<code.size)(hw:ops[code.getD pc 0]? =some .LITERAL)(hp:pos<lim)(hc:(text.getD pos 0==code.getD (pc+1) 0)=false):(⟨code,text,lim,start,lastStart,false,false,pc,pos,handed,outermost,marks,-1,-1,loops,none,frames,weight,none,seen,none⟩:M).step=(⟨code,text,lim,start,lastStart,false,false,pc,pos,handed,outermost,marks,-1,-1,loops,none,frames,weight,some false,seen.add (code.getD pc 0),none⟩:M):=by
 have h1:¬pos≥lim:=J218 hp;simp only[M.step,Option.isSome_none,Bool.false_eq_true,if_false,hpc,if_true,M.exec,M.word,Nat.add_zero,M.say,hw,if_neg h1,accepts,hc]
theorem is_at(m:M):m.isAt 1=.ok (m.pos==0||m.text.getD (m.pos-1) 0==10):=rfl
theorem s_at(hpc:pc<code.size)(hw:ops[code.getD pc 0]? =some .AT)(h1:code.getD (pc+1) 0=1)(hb:(pos==0||text.getD (pos-1) 0==10)=true):(⟨code,text,lim,start,lastStart,false,false,pc,pos,handed,outermost,marks,-1,-1,loops,none,frames,weight,none,seen,none⟩:M).step=(⟨code,text,lim,start,lastStart,false,false,pc+2,pos,handed,outermost,marks,-1,-1,loops,none,frames,weight,none,(seen.add (code.getD pc 0)).add 44,none⟩:M):=by
 simp only[M.step,Option.isSome_none,Bool.false_eq_true,if_false,hpc,if_true,M.exec,M.word,Nat.add_zero,M.say,hw,h1,is_at,hb]
theorem s_atNo(hpc:pc<code.size)(hw:ops[code.getD pc 0]? =some .AT)(h1:code.getD (pc+1) 0=1)(hb:(pos==0||text.getD (pos-1) 0==10)=false):(⟨code,text,lim,start,lastStart,false,false,pc,pos,handed,outermost,marks,-1,-1,loops,none,frames,weight,none,seen,none⟩:M).step=(⟨code,text,lim,start,lastStart,false,false,pc,pos,handed,outermost,marks,-1,-1,loops,none,frames,weight,some false,(seen.add (code.getD pc 0)).add 44,none⟩:M):=by
 simp only[M.step,Option.isSome_none,Bool.false_eq_true,if_false,hpc,if_true,M.exec,M.word,Nat.add_zero,M.say,hw,h1,is_at,hb]
theorem s_jump(hpc:pc<code.size)(hw:ops[code.getD pc 0]? =some .JUMP):(⟨code,text,lim,start,lastStart,false,false,pc,pos,handed,outermost,marks,-1,-1,loops,none,frames,weight,none,seen,none⟩:M).step=(⟨code,text,lim,start,lastStart,false,false,pc+1+code.getD (pc+1) 0,pos,handed,outermost,marks,-1,-1,loops,none,frames,weight,none,seen.add (code.getD pc 0),none⟩:M):=by
 simp only[M.step,Option.isSome_none,Bool.false_eq_true,if_false,hpc,if_true,M.exec,M.word,Nat.add_zero,M.say,hw]
theorem s_succ(hpc:pc<code.size)(hw:ops[code.getD pc 0]? =some .SUCCESS):(⟨code,text,lim,start,lastStart,false,false,pc,pos,handed,outermost,marks,-1,-1,loops,none,frames,weight,none,seen,none⟩:M).step=(⟨code,text,lim,start,lastStart,false,false,pc,pos,pos,outermost,marks,-1,-1,loops,none,frames,weight,some true,seen.add (code.getD pc 0),none⟩:M):=by
 simp only[M.step,Option.isSome_none,Bool.false_eq_true,if_false,hpc,if_true,M.exec,M.word,Nat.add_zero,M.say,hw,Bool.false_and,Bool.or_self,Bool.and_false]
theorem s_branch(hpc:pc<code.size)(hw:ops[code.getD pc 0]? =some .BRANCH)(h1:(code.getD (pc+1) 0==0)=false)(hwt:weight<100):(⟨code,text,lim,start,lastStart,false,false,pc,pos,handed,outermost,marks,-1,-1,loops,none,frames,weight,none,seen,none⟩:M).step=(⟨code,text,lim,start,lastStart,false,false,pc+2,pos,pos,outermost,marks,-1,-1,loops,none,{wait:=.nextBranch,pc:=pc+1,pos:=pos,outermost:=outermost}::frames,weight+1,none,seen.add (code.getD pc 0),none⟩:M):=by
 have h2:¬(weight+1>16777216):=J77 hwt;simp only[M.step,Option.isSome_none,Bool.false_eq_true,if_false,hpc,if_true,M.exec,M.word,Nat.add_zero,M.say,hw,M.alternative,h1,M.attempt,M.frame,M.keep,Array.size_empty,Nat.add_zero,if_neg h2]
theorem s_not(hpc:pc<code.size)(hw:ops[code.getD pc 0]? =some .ASSERT_NOT)(h1:code.getD (pc+2) 0=0)(hwt:weight<100):(⟨code,text,lim,start,lastStart,false,false,pc,pos,handed,outermost,marks,-1,-1,loops,none,frames,weight,none,seen,none⟩:M).step=(⟨code,text,lim,start,lastStart,false,false,pc+3,pos,pos,false,marks,-1,-1,loops,none,{wait:=.lookNot,pc:=pc,pos:=pos,outermost:=outermost}::frames,weight+1,none,seen.add (code.getD pc 0),none⟩:M):=by
 have h2:¬(weight+1>16777216):=J77 hwt;simp only[M.step,Option.isSome_none,Bool.false_eq_true,if_false,hpc,if_true,M.exec,M.word,Nat.add_zero,M.say,hw,h1,Nat.not_lt_zero,Nat.sub_zero,Bool.true_and,M.attempt,M.frame,M.keep,Array.size_empty,Nat.add_zero,if_neg h2]
variable{p q:Nat}{om:Bool}
theorem r_yesStart:(⟨code,text,lim,start,lastStart,false,false,pc,pos,handed,outermost,marks,-1,-1,loops,none,{wait:=.nextStart,pc:=q,pos:=p,outermost:=om}::frames,weight+1,some true,seen,none⟩:M).step=(⟨code,text,lim,start,lastStart,false,false,q,p,handed,om,marks,-1,-1,loops,none,frames,weight,some true,seen,none⟩:M):=rfl
theorem r_yesBranch:(⟨code,text,lim,start,lastStart,false,false,pc,pos,handed,outermost,marks,-1,-1,loops,none,{wait:=.nextBranch,pc:=q,pos:=p,outermost:=om}::frames,weight+1,some true,seen,none⟩:M).step=(⟨code,text,lim,start,lastStart,false,false,q,p,handed,om,marks,-1,-1,loops,none,frames,weight,some true,seen,none⟩:M):=rfl
theorem r_noBranch(h1:(code.getD (q+code.getD q 0) 0==0)=false)(hwt:weight<100):(⟨code,text,lim,start,lastStart,false,false,pc,pos,handed,outermost,marks,-1,-1,loops,none,{wait:=.nextBranch,pc:=q,pos:=p,outermost:=om}::frames,weight+1,some false,seen,none⟩:M).step=(⟨code,text,lim,start,lastStart,false,false,q+code.getD q 0+1,p,p,om,marks,-1,-1,loops,none,{wait:=.nextBranch,pc:=q+code.getD q 0,pos:=p,outermost:=om}::frames,weight+1,none,seen,none⟩:M):=
 (if_neg (Bool.eq_false_iff.mp h1)).trans (if_neg (J77 hwt))
theorem r_noNot:(⟨code,text,lim,start,lastStart,false,false,pc,pos,handed,outermost,marks,-1,-1,loops,none,{wait:=.lookNot,pc:=q,pos:=p,outermost:=om}::frames,weight+1,some false,seen,none⟩:M).step=(⟨code,text,lim,start,lastStart,false,false,q+1+code.getD (q+1) 0,p,handed,om,marks,-1,-1,loops,none,frames,weight,none,seen,none⟩:M):=rfl
theorem r_end(b:Bool):(⟨code,text,lim,start,lastStart,false,false,pc,pos,handed,outermost,marks,-1,-1,loops,none,[],weight,some b,seen,none⟩:M).step=(⟨code,text,lim,start,lastStart,false,false,pc,pos,handed,outermost,marks,-1,-1,loops,none,[],weight,some b,seen,some (if b then .matched else .failed)⟩:M):=rfl
end
noncomputable def isDot(text:Array Nat)(p:Nat):Bool:=(p==0||text.getD (p-1) 0==10)&&text.getD p 0==46
noncomputable def findDot(text:Array Nat):Nat→Nat→Option Nat
 |0,_=>none
 |d+1,p=>if isDot text p then some p else findDot text d (p+1)
noncomputable def dotM(text:Array Nat)(p:Nat)(first:Bool)(seen:Sre.Seen):M:=
 ⟨c1,text,text.size,p,text.size,false,false,5,p,p,first,#[],-1,-1,#[],none,[{wait:=.nextStart,pc:=5,pos:=p,outermost:=first}],1,none,seen,none⟩
theorem hfs1{m:M}(h:m.code=c1):m.hasFirstSet=false:=by
 unfold M.hasFirstSet;rw[h];decide+kernel
theorem dot_next{text:Array Nat}{start pc pos handed p:Nat}{om first:Bool}{seen:Sre.Seen}:
 (⟨c1,text,text.size,start,text.size,false,false,pc,pos,handed,om,#[],-1,-1,#[],none,[{wait:=.nextStart,pc:=5,pos:=p,outermost:=first}],1,some false,seen,none⟩:M).step=
   if p<text.size then dotM text (p+1) false seen else⟨c1,text,text.size,start,text.size,false,false,5,p,handed,first,#[],-1,-1,#[],none,[],0,some false,seen,none⟩:=by kernel_rfl
theorem run_dot(text:Array Nat):∀(d p:Nat) (first:Bool) (seen:Sre.Seen),p+d=text.size→∃k r,k≤6*d+6∧(dotM text p first seen).runFor k=r∧
 (match findDot text d p with|some q=>r.outcome=some .matched∧r.start=q∧r.handed=q+1|none=>r.outcome=some .failed)
 |0,p,first,seen,hd=>by
  have hp:text.size≤p:=J177 hd;have hp':¬p<text.size:=J178 hd;cases hb:(p==0||text.getD (p-1) 0==10)with
  |true=>exact⟨4,_,J10,stp rfl (s_at (by decide+kernel) (by kernel_rfl) (by decide+kernel) hb) (stp rfl (s_lit0 (by decide+kernel) (by kernel_rfl) hp) (stp rfl (dot_next.trans (if_neg hp')) (stp rfl (r_end _) rfl))),rfl⟩
  |false=>exact⟨3,_,J9,stp rfl (s_atNo (by decide+kernel) (by kernel_rfl) (by decide+kernel) hb) (stp rfl (dot_next.trans (if_neg hp')) (stp rfl (r_end _) rfl)),rfl⟩
 |d+1,p,first,seen,hd=>by
  have hp:p<text.size:=J362 hd;cases hb:(p==0||text.getD (p-1) 0==10)with
  |true=>
   cases hc:(text.getD p 0==46)with
   |true=>
    have hdot:findDot text (d+1) p=some p:=if_pos (show isDot text p=true by unfold isDot;rw[hb,hc];rfl);rw[hdot];exact⟨5,_,J37,stp rfl (s_at (by decide+kernel) (by kernel_rfl) (by decide+kernel) hb) (stp rfl (s_lit (by decide+kernel) (by kernel_rfl) hp (by rw[eq_of_beq hc];decide+kernel)) (stp rfl (s_succ (by decide+kernel) (by kernel_rfl)) (stp rfl (r_yesStart) (stp rfl (r_end _) rfl)))),rfl,rfl,rfl⟩
   |false=>
    have hdot:findDot text (d+1) p=findDot text d (p+1):=if_neg (show¬isDot text p=true by unfold isDot;rw[hb,hc];simp);rw[hdot];refine x2_2 (run_dot text d (p+1) false (((seen.add (c1.getD 5 0)).add 44).add (c1.getD 7 0)) (J361 hd)) fun k r hk hr hm=>?_;exact⟨k+3,r,Nat.le_trans (Nat.add_le_add_right hk 3) (Nat.add_le_add_left (by decide:3≤6) (6*d+6)),stp rfl (s_at (by decide+kernel) (by kernel_rfl) (by decide+kernel) hb) (stp rfl (s_lit1 (by decide+kernel) (by kernel_rfl) hp (by rw[show c1.getD (5+2+1) 0=46 by decide+kernel];exact hc)) (stp rfl (dot_next.trans (if_pos hp)) hr)),hm⟩
  |false=>
   have hdot:findDot text (d+1) p=findDot text d (p+1):=if_neg (show¬isDot text p=true by unfold isDot;rw[hb];simp);rw[hdot];refine x2_2 (run_dot text d (p+1) false ((seen.add (c1.getD 5 0)).add 44) (J361 hd)) fun k r hk hr hm=>?_;exact⟨k+2,r,Nat.le_trans (Nat.add_le_add_right hk 2) (Nat.add_le_add_left (by decide:2≤6) (6*d+6)),stp rfl (s_atNo (by decide+kernel) (by kernel_rfl) (by decide+kernel) hb) (stp rfl (dot_next.trans (if_pos hp)) hr),hm⟩
theorem fs_no{code text:Array Nat}{p:Nat}(h1:(header code).1=1)(h:¬p<text.size):∃m:M,forSearch code text 0 p text.size false=m.say false∧m.frames=[]∧m.outcome=none:=by
 have h3:(decide (p>text.size)||decide (text.size-p<(header code).1))=true:=by rw[h1];simp;exact J328 h
 exact⟨_,if_pos h3,rfl,rfl⟩
theorem say_end{m:M}(h:m.frames=[])(h':m.outcome=none):(M.runFor 1 (m.say false)).outcome=some .failed:=by
 obtain⟨⟩:=m;cases h;cases h';rfl
theorem fs_yes{code text:Array Nat}{p:Nat}(h1:(header code).1=1)(h:p<text.size):¬(decide (p>text.size)||decide (text.size-p<(header code).1))=true:=by
 rw[h1];simp;exact J210 h
theorem head1:(header c1).1=1:=by decide+kernel
theorem search_dot(text:Array Nat)(p:Nat)(hp:p≤text.size):∃k r,k≤6*text.size+7∧(forSearch c1 text 0 p text.size false).runFor k=r∧
 (match findDot text (text.size-p) p with|some q=>r.outcome=some .matched∧r.start=q∧r.handed=q+1|none=>r.outcome=some .failed):=by
 by_cases h:p<text.size
 ·have e:forSearch c1 text 0 p text.size false=dotM text p true (({}:Sre.Seen).add 14):=(if_neg (fs_yes head1 h)).trans (by kernel_rfl);rw[e];refine x2_2 (run_dot text (text.size-p) p true (({}:Sre.Seen).add 14) (J206 h)) fun k r hk hr hm=>?_;exact⟨k,r,J412 hk,hr,hm⟩
 ·obtain⟨m,e,e1,e2⟩:=fs_no head1 h;rw[e,show text.size-p=0 from J327 h];exact⟨1,_,J325,rfl,say_end e1 e2⟩
noncomputable def isEol(text:Array Nat)(p:Nat):Bool:=text.getD p 0==10||text.getD p 0==13
noncomputable def findEol(text:Array Nat):Nat→Nat→Option Nat
 |0,_=>none
 |d+1,p=>if isEol text p then some p else findEol text d (p+1)
noncomputable def eolLen(text:Array Nat)(p:Nat):Nat:=if text.getD p 0=13∧p+1<text.size∧text.getD (p+1) 0=10 then 2 else 1
noncomputable def eolM(text:Array Nat)(p:Nat)(first:Bool)(seen:Sre.Seen):M:=
 ⟨c3,text,text.size,p,text.size,false,false,10,p,p,first,#[],-1,-1,#[],none,[{wait:=.nextStart,pc:=10,pos:=p,outermost:=first}],1,none,seen,none⟩
theorem hfs3{m:M}(h:m.code=c3):m.hasFirstSet=true:=by
 unfold M.hasFirstSet;rw[h];decide+kernel
theorem set3(c:Nat)(seen:Sre.Seen):∃seen',inSet c3 c c3.size 5 true seen=.ok (c==10||c==13,seen'):=by
 have e:inSet c3 c c3.size 5 true seen=if c==10 then .ok (true,seen.add 16)else if c==13 then .ok (true,(seen.add 16).add 16)else .ok (!true,((seen.add 16).add 16).add 0):=by kernel_rfl
 rw[e];cases c==10 with
 |true=>exact⟨_,rfl⟩
 |false=>
  cases c==13 with
  |true=>exact⟨_,rfl⟩
  |false=>exact⟨_,rfl⟩
theorem adm_step{m:M}{d p:Nat}{seen seen':Sre.Seen}{b:Bool}(h:¬p≥m.lim)(e:inSet m.code (m.text.getD p 0) m.code.size 5 true seen=.ok (b,seen')):
 m.admitted (d+1) p seen=bif b then .ok (some p,seen')else m.admitted d (p+1) seen':=by
 refine(if_neg h).trans ?_;rw[e];cases b<;>rfl
theorem adm3{m:M}(hc:m.code=c3):∀(d p:Nat) (seen:Sre.Seen),p+d=m.lim→∃seen',m.admitted (d+1) p seen=.ok (findEol m.text d p,seen')
 |0,p,seen,h=>⟨seen,if_pos (J177 h)⟩
 |d+1,p,seen,h=>by
  obtain⟨seen',e⟩:=set3 (m.text.getD p 0) seen;rw[adm_step (J363 h) (by rw[hc];exact e)];cases hb:(m.text.getD p 0==10||m.text.getD p 0==13)with
  |true=>exact⟨seen',by rw[show findEol m.text (d+1) p=some p from if_pos hb];rfl⟩
  |false=>
   rw[show findEol m.text (d+1) p=findEol m.text d (p+1)from if_neg (Bool.eq_false_iff.mp hb)];exact adm3 hc d (p+1) seen' (J361 h)
theorem eol_len{text:Array Nat}{p:Nat}(h:text.getD p 0=13)(h':¬(p+1<text.size∧text.getD (p+1) 0=10)):eolLen text p=1:=by
 unfold eolLen;rw[if_neg (fun q=>h' q.2)]
theorem run_eol(text:Array Nat)(p:Nat)(first:Bool)(seen:Sre.Seen)(hp:p<text.size)(hb:isEol text p=true):∃k r,k≤40∧(eolM text p first seen).runFor k=r∧r.outcome=some .matched∧r.start=p∧r.handed=p+eolLen text p:=by
 by_cases h13:text.getD p 0=13
 ·by_cases hn:p+1<text.size∧text.getD (p+1) 0=10
  ·have hl:eolLen text p=2:=if_pos ⟨h13,hn⟩;rw[hl];exact⟨8,_,J11,stp rfl (s_branch (by decide+kernel) (by kernel_rfl) (by decide+kernel) (by decide)) (stp rfl (s_lit (by decide+kernel) (by kernel_rfl) hp (by rw[h13];decide+kernel)) (stp rfl (s_lit (by decide+kernel) (by kernel_rfl) hn.1 (by rw[hn.2];decide+kernel)) (stp rfl (s_jump (by decide+kernel) (by kernel_rfl)) (stp rfl (s_succ (by decide+kernel) (by kernel_rfl)) (stp rfl (r_yesBranch) (stp rfl (r_yesStart) (stp rfl (r_end _) rfl))))))),rfl,rfl,rfl⟩
  ·have hl:=eol_len h13 hn;have two:∀{fr:List Sre.Frame} {wg hd:Nat} {om:Bool} {sn:Sre.Seen} {q:Nat},q<c3.size→ops[c3.getD q 0]? =some .LITERAL→c3.getD (q+1) 0=10→
    (⟨c3,text,text.size,p,text.size,false,false,q,p+1,hd,om,#[],-1,-1,#[],none,fr,wg,none,sn,none⟩:M).step=⟨c3,text,text.size,p,text.size,false,false,q,p+1,hd,om,#[],-1,-1,#[],none,fr,wg,some false,sn.add (c3.getD q 0),none⟩:=by
    intro fr wg hd om sn q h1 h2 h3;by_cases hlt:p+1<text.size
    ·exact s_lit1 h1 h2 hlt (by rw[h3];simpa using fun e=>hn ⟨hlt,e⟩)
    ·exact s_lit0 h1 h2 (J291 hlt)
   rw[hl];exact⟨15,_,Nat.le_of_ble_eq_true rfl,stp rfl (s_branch (by decide+kernel) (by kernel_rfl) (by decide+kernel) (by decide)) (stp rfl (s_lit (by decide+kernel) (by kernel_rfl) hp (by rw[h13];decide+kernel)) (stp rfl (two (by decide+kernel) (by kernel_rfl) (by decide+kernel)) (stp rfl (r_noBranch (by decide+kernel) (by decide)) (stp rfl (s_lit1 (by decide+kernel) (by kernel_rfl) hp (by rw[h13];decide+kernel)) (stp rfl (r_noBranch (by decide+kernel) (by decide)) (stp rfl (s_lit (by decide+kernel) (by kernel_rfl) hp (by rw[h13];decide+kernel)) (stp rfl (s_not (by decide+kernel) (by kernel_rfl) (by decide+kernel) (by decide)) (stp rfl (two (by decide+kernel) (by kernel_rfl) (by decide+kernel)) (stp rfl (r_noNot) (stp rfl (s_jump (by decide+kernel) (by kernel_rfl)) (stp rfl (s_succ (by decide+kernel) (by kernel_rfl)) (stp rfl (r_yesBranch) (stp rfl (r_yesStart) (stp rfl (r_end _) rfl)))))))))))))),rfl,rfl,rfl⟩
 ·have h10:text.getD p 0=10:=by
   unfold isEol at hb;simp only[Bool.or_eq_true,beq_iff_eq]at hb;exact hb.resolve_right h13
  have hl:eolLen text p=1:=if_neg (fun q=>h13 q.1);rw[hl];exact⟨9,_,J12,stp rfl (s_branch (by decide+kernel) (by kernel_rfl) (by decide+kernel) (by decide)) (stp rfl (s_lit1 (by decide+kernel) (by kernel_rfl) hp (by rw[h10];decide+kernel)) (stp rfl (r_noBranch (by decide+kernel) (by decide)) (stp rfl (s_lit (by decide+kernel) (by kernel_rfl) hp (by rw[h10];decide+kernel)) (stp rfl (s_jump (by decide+kernel) (by kernel_rfl)) (stp rfl (s_succ (by decide+kernel) (by kernel_rfl)) (stp rfl (r_yesBranch) (stp rfl (r_yesStart) (stp rfl (r_end _) rfl)))))))),rfl,rfl,rfl⟩
theorem findEol_some{text:Array Nat}:∀{d p q:Nat},findEol text d p=some q→p≤q∧q<p+d∧isEol text q=true
 |d+1,p,q,h=>by
  rw[findEol]at h
  split at h
  ·rename_i hb;cases h;exact⟨Nat.le_refl _,J164,hb⟩
  ·refine x0_2 (findEol_some h) fun h1 h2 h3=>?_;exact⟨J186 h1,J372 h2,h3⟩
theorem head3:(header c3).1=1:=by decide+kernel
theorem af_some{m:M}{s q:Nat}{first:Bool}{sn:Sre.Seen}(h:m.hasFirstSet=true)(e:m.admitted (m.lim+1-s) s m.seen=.ok (some q,sn)):
 m.attemptFrom s first=({m with mustAdvance:=false,seen:=sn}:M).attemptAt q first:=by
 refine(if_neg (by rw[h];simp)).trans ?_;rw[e]
theorem af_none{m:M}{s:Nat}{first:Bool}{sn:Sre.Seen}(h:m.hasFirstSet=true)(e:m.admitted (m.lim+1-s) s m.seen=.ok (none,sn)):
 m.attemptFrom s first=({m with seen:=sn}:M).say false:=by
 refine(if_neg (by rw[h];simp)).trans ?_;rw[e]
theorem search_eol(text:Array Nat)(p:Nat)(hp:p≤text.size):∃k r,k≤41∧(forSearch c3 text 0 p text.size false).runFor k=r∧
 (match findEol text (text.size-p) p with|some q=>r.outcome=some .matched∧r.start=q∧r.handed=q+eolLen text q|none=>r.outcome=some .failed):=by
 by_cases h:p<text.size
 ·have e:forSearch c3 text 0 p text.size false=M.attemptFrom {code:=c3,text,lim:=text.size,start:=p,lastStart:=text.size,pc:=10,pos:=p,handed:=p,marks:= #[],seen:=({}:Sre.Seen).add 14} p true:=(if_neg (fs_yes head3 h)).trans (by kernel_rfl);obtain⟨sn,e1⟩:=adm3 (m:={code:=c3,text,lim:=text.size,start:=p,lastStart:=text.size,pc:=10,pos:=p,handed:=p,marks:= #[],seen:=({}:Sre.Seen).add 14}) rfl (text.size-p) p (({}:Sre.Seen).add 14) (J206 h);have e2:M.admitted {code:=c3,text,lim:=text.size,start:=p,lastStart:=text.size,pc:=10,pos:=p,handed:=p,marks:= #[],seen:=({}:Sre.Seen).add 14} (text.size+1-p) p (({}:Sre.Seen).add 14)=.ok (findEol text (text.size-p) p,sn):=by
   rw[show text.size+1-p=text.size-p+1 from J411 h rfl];exact e1
  rw[e];cases hf:findEol text (text.size-p) p with
  |none=>
   rw[hf]at e2;rw[af_none (hfs3 rfl) e2];exact⟨1,_,J7,rfl,say_end rfl rfl⟩
  |some q=>
   rw[hf]at e2;rw[af_some (hfs3 rfl) e2];refine x0_2 (findEol_some hf) fun g1 g2 g3=>?_;refine x2_2 (run_eol text q true sn (J506 g2 h) g3) fun k r hk hr hm=>?_;exact⟨k,r,J125 hk,hr,hm⟩
 ·obtain⟨m,e,e1,e2⟩:=fs_no head3 h;rw[e,show text.size-p=0 from J327 h];exact⟨1,_,J7,rfl,say_end e1 e2⟩
end
section
open PySem.Builtin.Re PySem.Builtin
theorem entry_subloop:entryFor table "re.Pattern.sub.loop" =some Builtin.«re.Pattern.sub.loop» :=entryFor_of_fast (by kernel_rfl)
theorem plain_subloop:plainId "re.Pattern.sub.loop" =true:=by decide+kernel
structure Pat(K:GH)(pa ca:Addr)(code:Array Nat)(kind:Int):Prop where
 obj:∃v0 v1 v3 v4 t2 t6,K pa=some {cls:=.type "re.Pattern",data:=.fields #[v0,v1,.int 0 t2,v3,v4,.ref ca,.int kind t6]}
 words:∃items n,K ca=some {cls:=.type "tuple",data:=.seq items n}∧(items.map reRawOf).map (·.toNat)=code
def Searches(code text:Array Nat)(f:Nat→Option (Nat×Nat)):Prop:=∀p,p≤text.size→(match f p with|some (a,b)=>p≤a∧a<b∧b≤text.size|none=>True)∧
 ∃k r,k≤2^60∧(Sre.forSearch code text 0 p text.size false).runFor k=r∧(match f p with|some (a,b)=>r.outcome=some .matched∧r.start=a∧r.handed=b|none=>r.outcome=some .failed)
noncomputable def subS{α:Type}(text:Array α)(rp:List α)(f:Nat→Option (Nat×Nat)):Nat→Nat→List α
 |0,p=>(text.toList.drop p)
 |d+1,p=>match f p with
  |some (a,b)=>(text.toList.drop p).take (a-p)++rp++subS text rp f d b
  |none=>text.toList.drop p
section
variable{prog:Program}{w:World}{A:Around}{K:GH}
theorem found_ok{M:Model}{A:Around}{E:Value→Shared→Prop}{s:Shared}{Q:Option Sre.M→Shared→Prop}{code text:Array Nat}{f:Nat→Option (Nat×Nat)}(hf:Searches code text f){p:Nat}(hp:p≤text.size){tg:ReTarget}(h1:tg.code=code)(h2:tg.text=text)(h3:tg.groups=0)(h4:tg.lim=text.size)
 (h:match f p with|some (a,b)=>∀m:Sre.M,m.start=a→m.handed=b→Q (some m) s|none=>Q none s):wpAny M A (reNextFound tg p false) Q E s:=by
 obtain⟨_,k,r,hk,hr,hm⟩:=hf p hp;unfold reNextFound;rw[h1,h2,h3,h4];cases hfp:f p with
 |none=>
  rw[hfp]at h hm;exact toEnd_ok (J117 hk) hr (.inr (by rw[hm])) (by rw[hm];exact h)
 |some ab=>
  obtain⟨a,b⟩:=ab;rw[hfp]at h hm;exact toEnd_ok (J117 hk) hr (.inl (by rw[hm.1])) (by rw[hm.1];exact h r hm.2.1 hm.2.2)
theorem whole_str{E:Value→Shared→Prop}{s:Shared}{Q:ReTarget→Shared→Prop}{pa ca:Addr}{code:Array Nat}(P:Pat K pa ca code 0){x:Str}{tx:Tok}(hK:∀a o,K a=some o→s.heap.get? a=some o)
 (h:Q {pattern:=.ref pa,string:=.str x tx,code:=code,text:=x.cps,kind:=0,groups:=0,pos:=0,lim:=x.cps.size} s):wpAny (model prog w) A (reWholeTarget (.ref pa) (.str x tx)) Q E s:=by
 refine x6_0 P.obj fun v0 v1 v3 v4 t2 t6 hpo=>?_;refine x2_1 P.words fun items m hco hwd=>?_;have hpo':=hK _ _ hpo;have hco':=hK _ _ hco;obtain⟨hp0,g,dr,tk,os⟩:=s;unfold reWholeTarget
 wp_walk using wpAny_load' hpo',wpAny_load' hco'
 show Q {pattern:=.ref pa,string:=.str x tx,code:=(items.map reRawOf).map (·.toNat),text:=x.cps,kind:=0,groups:=0,pos:=0,lim:=x.cps.size} _;rw[hwd];exact h
theorem slice_str{M:Model}{A:Around}{E:Value→Shared→Prop}{s:Shared}{Q:Value→Shared→Prop}{text:Array Nat}{b e:Nat}(hz:text.size<1000)(h:∀t k,Q (.str ⟨text.extract b e⟩ t) {s with toks:=k}):wpAny M A (reSlice text 0 b e) Q E s:=by
 show wpAny M A (mkStr ⟨text.extract b e⟩) Q E s;refine wpAny_mkStr (h _ _) ?_;show(text.extract b e).size≤_;rw[sizeLine_eq,Array.size_extract];exact J371 hz
theorem glue_fold(l:List Str):∀a:Array Nat,(l.foldl (fun acc p=>acc++(#[]:Array Nat)++p.cps) a).toList=a.toList++(l.map (·.cps.toList)).flatten:=by
 induction l with
 |nil=>intro a;simp
 |cons x l ih=>intro a;rw[List.foldl_cons,ih];simp
theorem join_nil(l:List Str):Txt.join ⟨#[]⟩ l=⟨((l.map (·.cps.toList)).flatten).toArray⟩:=by
 show(⟨(l.drop 1).foldl (fun acc p=>acc++(#[]:Array Nat)++p.cps) (l.headD Str.empty).cps⟩:Str)=_;congr 1;apply Array.toList_inj.mp;rw[glue_fold];cases l with
 |nil=>rfl
 |cons x l=>simp
theorem fold_len(l:List Str):∀n,(l.foldl (fun a (b:Str)=>a+b.length+(⟨#[]⟩:Str).length) n)=n+(l.map (·.cps.size)).sum:=by
 induction l with
 |nil=>intro n;simp
 |cons x l ih=>
  intro n;rw[List.foldl_cons,ih];show n+x.cps.size+0+_=_;simp[Nat.add_assoc]
theorem push_seq{M:Model}{A:Around}{E:Value→Shared→Prop}{s:Shared}{Q:Unit→Shared→Prop}{L:Addr}{items:List Value}{k:Nat}{v:Value}(hL:s.heap.get? L=some (listOf items.toArray k))(hz:items.length<10000)
 (h:∀h',(∀b o,b≠L→s.heap.get? b=some o→h'.get? b=some o)→h'.get? L=some (listOf (items++[v]).toArray (k+1))→Q () {s with heap:=h'}):wpAny M A (updateSeq L (·.push v)) Q E s:=by
 refine wpAny_updateSeq hL rfl (h _ (fun b o hb e=>?_) ?_) (by rw[sizeLine_eq];simp;exact J83 hz) (by rw[sizeLine_eq];simp;exact J83 hz)
 ·exact((Heap.SameBut.update ..).2 b hb).trans e
 ·have:=IsL.update hL (·.push v);simp only[List.push_toArray,List.size_toArray,List.length_append,List.length_cons,List.length_nil]at this;rw[if_neg (by simp)]at this;simpa using this
theorem fin_str{s:Shared}{R:Result→Shared→Prop}{L:Addr}{l:List (Str×Tok)}{k:Nat}(text:Array Nat)(ht:text.size<1000)(hL:s.heap.get? L=some (listOf (strValues l).toArray k))(hsz:(l.map (·.1.cps.size)).sum<20000)
 (hR:∀t tok,R (.ok (.ret (.str ⟨((l.map (·.1.cps.toList)).flatten).toArray⟩ tok))) {s with toks:=t}) {Af:Around} {F:Value→Sem Fin} (hF:∀v,F v=ret v):
 wpAny (model prog w) A (reSlice text 0 0 0 >>=fun a=>seqItems? (.ref L)>>=fun r=>if(r.getD #[]).isEmpty=true then pure a >>=F else call (.builtin (if((0:Nat)==0)=true then "str.join" else "bytes.join")) [a,.ref L]>>=F)
  (fun fin s'=>match fin with| .done f=>R (.ok f) s'| .again c'=>c'.quiet=true∧codeAny (model prog w) Af c' R s') (fun e s'=>R (.error e) s') s:=by
 refine wpAny_bind (slice_str ht fun t0 k0=>?_);refine wpAny_bind (wpAny_seqItems hL rfl ?_);have e:text.extract 0 0= #[]:=by simp
 rw[e];cases l with
 |nil=>
  rw[if_pos (by rfl)];refine wpAny_bind (wpAny_pure ?_);rw[hF];exact wpAny_pure (hR _ _)
 |cons p l=>
  rw[if_neg (by simp[strValues])];refine wpAny_bind (SC.join (l:=p::l) (texts:=(p::l).map (·.1)) ⟨_,hL,rfl,_,rfl⟩ rfl ?_ fun t' k'=>?_)
  ·unfold JoinOk;rw[←Array.foldl_toList];show(!Builtin.Str.tooLong (((p::l).map (·.1)).foldl (fun a (b:Str)=>a+b.length+(⟨#[]⟩:Str).length) 0))=true;rw[fold_len,List.map_map];have:((p::l).map ((fun x:Str=>x.cps.size)∘ fun x=>x.1)).sum<20000:=hsz;unfold Builtin.Str.tooLong;simp only[Bool.not_eq_true',decide_eq_false_iff_not,sizeLine_eq];exact J93 this
  ·rw[join_nil,List.map_map,hF];exact wpAny_pure (hR _ _)
theorem subloop_str{pa ca:Addr}{code:Array Nat}(P:Pat K pa ca code 0){x rp:Str}{tx tr:Tok}{f:Nat→Option (Nat×Nat)}(hf:Searches code x.cps f){L:Addr}(hx:x.cps.size<1000)(hrp:rp.cps.size<10):
 ∀(d p:Nat) (n:Int) (l:List (Str×Tok)) (k:Nat) (s:Shared) (R:Result→Shared→Prop),x.cps.size-p<d→p≤x.cps.size→(∀a o,K a=some o→s.heap.get? a=some o)→K L=none→s.heap.get? L=some (listOf (strValues l).toArray k)→
  (l.map (·.1.cps.size)).sum+12*(x.cps.size-p)<20000→l.length+2*(x.cps.size-p)<10000→
  (∀h t tok,(∀b o,b≠L→s.heap.get? b=some o→h.get? b=some o)→R (.ok (.ret (.str ⟨((l.map (·.1.cps.toList)).flatten++subS x.cps rp.cps.toList f d p).toArray⟩ tok))) {s with heap:=h,toks:=t})→
  codeAny (model prog w) A (.builtin "re.Pattern.sub.loop" ⟨[.ref pa,.str x tx,.str rp tr,rawInt 0,rawInt 0,rawInt n,rawInt p,rawInt p,.bool false,.ref L,.bool false],[]⟩) R s:=by
 intro d
 induction d with
 |zero=>
  intro p n l k s R hd;exact(J198 hd).elim
 |succ d ih=>
  intro p n l k s R hd hp hK hKL hL hsz hln hR;refine codeAny_builtin entry_subloop ?_;rw[Around.under_plainId plain_subloop _];show wpAny _ _ (reWholeTarget (.ref pa) (.str x tx)>>=_) _ _ _;refine wpAny_bind (whole_str P hK ?_);show wpAny _ _ (reLiteralCannotBeTurned (.str rp tr)>>=_) _ _ _;refine wpAny_bind (wpAny_pure (a:=()) ?_);show wpAny _ _ (reNextFound _ ((p:Int).toNat) false >>=_) _ _ _;rw[Int.toNat_natCast];refine wpAny_bind (found_ok hf hp rfl rfl rfl rfl ?_);have hS:∀ab,f p=ab→subS x.cps rp.cps.toList f (d+1) p=(match ab with|some (a,b)=>(x.cps.toList.drop p).take (a-p)++rp.cps.toList++subS x.cps rp.cps.toList f d b|none=>x.cps.toList.drop p):=fun ab e=>by rw[subS,e]
  have hb:=(hf p hp).1;cases hfp:f p with
  |none=>
   rw[hS _ hfp]at hR;dsimp only at hR⊢;by_cases hlt:p<x.cps.size
   ·show wpAny _ _ (if(p:Int).toNat<x.cps.size then _ else _) _ _ _;rw[if_pos (by simpa using hlt)];refine wpAny_bind (slice_str hx fun t0 k0=>?_);refine wpAny_bind (push_seq (items:=strValues l) hL (by simp[strValues];exact J369 hln) fun h' hk hL'=>?_);refine fin_str (l:=l++[(⟨x.cps.extract p x.cps.size⟩,t0)]) x.cps hx (k:=k+1) ?_ ?_ (fun t tok=>?_) (fun _=>rfl)
    ·simpa[strValues]using hL'
    ·simp only[List.map_append,List.map_cons,List.map_nil,List.sum_append,List.sum_cons,List.sum_nil,Array.size_extract];exact J503 hsz
    ·have e:(x.cps.extract p x.cps.size).toList=x.cps.toList.drop p:=by
      rw[Array.toList_extract,List.extract_eq_take_drop];exact List.take_of_length_le (by simp)
     have:=hR h' t tok hk;simp only[List.map_append,List.map_cons,List.map_nil,List.flatten_append,List.flatten_cons,List.flatten_nil,List.append_nil];rw[e];exact this
   ·show wpAny _ _ (if(p:Int).toNat<x.cps.size then _ else _) _ _ _;rw[if_neg (by simpa using hlt)];refine fin_str (l:=l) x.cps hx hL (J368 hsz) (fun t tok=>?_) (fun _=>rfl);have:=hR s.heap t tok (fun _ _ _ e=>e);rw[List.drop_of_length_le (by simp;exact J257 hlt),List.append_nil]at this;exact this
  |some ab=>
   obtain⟨a,b⟩:=ab;rw[hS _ hfp]at hR;rw[hfp]at hb;dsimp only at hR hb⊢;intro m hma hmb;have last:∀{l':List (Str×Tok)} {k':Nat} {s':Shared} (hh:∃h t,s'={s with heap:=h,toks:=t}),s'.heap.get? L=some (listOf (strValues l').toArray k')→(∀b o,b≠L→s.heap.get? b=some o→s'.heap.get? b=some o)→
    (l'.map (·.1.cps.toList)).flatten=(l.map (·.1.cps.toList)).flatten++(x.cps.toList.drop p).take (a-p)→(l'.map (·.1.cps.size)).sum=(l.map (·.1.cps.size)).sum+(a-p)→l'.length≤l.length+1→
    wpAny (model prog w) A.in1 (updateSeq L (·.push (.str rp tr))>>=fun _=>again (.builtin "re.Pattern.sub.loop" ⟨[.ref pa,.str x tx,.str rp tr,rawInt 0,rawInt 0,rawInt (n+1),rawInt m.handed,rawInt m.handed,.bool (m.handed==m.start),.ref L,.bool false],[]⟩))
     (fun fin s'=>match fin with| .done f=>R (.ok f) s'| .again c'=>c'.quiet=true∧codeAny (model prog w) A c' R s') (fun e s'=>R (.error e) s') s':=by
    intro l' k' s' nq52;obtain⟨h0,t0,rfl⟩:=nq52;intro hL' hk hfl hsm hll;refine wpAny_bind (push_seq (items:=strValues l') hL' (by simp[strValues];exact J601 hln hb hll) fun h' hk' hL''=>?_);refine wpAny_pure ⟨plainId_quiet plain_subloop _,?_⟩;rw[hmb,hma,show(b==a)=false by simpa using by exact J578 hb];refine ih b (n+1) (l'++[(rp,tr)]) (k'+1) _ R (J591 hd hb) hb.2.2 (fun c o e=>hk' c o (fun z=>by rw[z,hKL]at e;cases e) (hk c o (fun z=>by rw[z,hKL]at e;cases e) (hK c o e))) hKL (by simpa[strValues]using hL'') ?_ ?_ ?_
    ·simp only[List.map_append,List.map_cons,List.map_nil,List.sum_append,List.sum_cons,List.sum_nil];exact J600 hsz hb hrp hsm
    ·simp;exact J599 hln hb hll
    ·intro h t tok hkk;have:=hR h t tok (fun c o hc e=>hkk c o hc (hk' c o hc (hk c o hc e)));simp only[List.map_append,List.map_cons,List.map_nil,List.flatten_append,hfl,List.flatten_cons,List.flatten_nil,List.append_nil,List.append_assoc]at this⊢;exact this
   by_cases hlt:p<a
   ·show wpAny _ _ (if(p:Int).toNat<m.start then _ else _) _ _ _;rw[if_pos (by rw[hma];simpa using hlt)];refine wpAny_bind (slice_str hx fun t0 k0=>?_);refine wpAny_bind (push_seq (items:=strValues l) hL (by simp[strValues];exact J369 hln) fun h' hk hL'=>?_);refine last (l':=l++[(⟨x.cps.extract (p:Int).toNat m.start⟩,t0)]) (k':=k+1) ⟨h',k0,rfl⟩ (by simpa[strValues]using hL') hk ?_ ?_ (by simp)
    ·rw[hma,Int.toNat_natCast];simp[List.extract_eq_take_drop]
    ·rw[hma,Int.toNat_natCast];simp only[List.map_append,List.map_cons,List.map_nil,List.sum_append,List.sum_cons,List.sum_nil,Array.size_extract];exact J592 hb
   ·show wpAny _ _ (if(p:Int).toNat<m.start then _ else _) _ _ _;rw[if_neg (by rw[hma];simpa using hlt)];have:a=p:=J551 hb hlt;exact last ⟨s.heap,s.toks,rfl⟩ hL (fun _ _ _ e=>e) (by simp[this]) (by simp[this]) J53
end
end
section
open PySem.Builtin.Re PySem.Builtin
theorem slot_pat_sub:Slot "re.Pattern" "sub" "re.Pattern.sub" :=
 .of (owner:= "re.Pattern") (n:= "sub") (by rw[typeLookup_type,builtinLookup_eq_fast];kernel_rfl) (by decide+kernel) (by decide+kernel) (by decide+kernel)
  (by first|exact .inl (by decide+kernel)|exact .inr (by decide+kernel)) (by rw[isSubtype_type];kernel_rfl)
theorem entry_pat_sub:entryFor table "re.Pattern.sub" =some Builtin.«re.Pattern.sub» :=entryFor_of_fast (by kernel_rfl)
theorem args_pat_sub(a b c:Value):argsOk "re.Pattern.sub" ⟨[a,b,c],[]⟩:=by unfold argsOk;kernel_rfl
theorem type_pat_sub:typeOf (.builtin "re.Pattern.sub")=pure (.type "method_descriptor"):=by show builtinType _=_;rw[builtinType_eq_fast];kernel_rfl
theorem noCall_str:typeLookup (.type "str") (Str.ofString "__call__")=pure none:=by rw[typeLookup_type,builtinLookup_eq_fast];kernel_rfl
theorem noCall_bytes:typeLookup (.type "bytes") (Str.ofString "__call__")=pure none:=by rw[typeLookup_type,builtinLookup_eq_fast];kernel_rfl
theorem plainAttrs_pat:PlainAttrs "re.Pattern" :=
 ⟨⟨"object.__getattribute__",by rw[typeLookup_type,builtinLookup_eq_fast];kernel_rfl,by decide+kernel⟩,by rw[typeLookup_type,builtinLookup_eq_fast];kernel_rfl⟩
theorem named_sub(a b:Value):reNamed "re.Pattern.sub" "sub" ["repl","string","count"] 2 [a,b] []=pure [some a,some b,none]:=by kernel_rfl
section
variable{K:GH}
theorem pat_sub_str{pa ca:Addr}{code:Array Nat}(P:Pat K pa ca code 0){x rp:Str}{tx tr:Tok}{f:Nat→Option (Nat×Nat)}(hf:Searches code x.cps f)(hx:x.cps.size<1000)(hrp:rp.cps.size<10)(hbs:rp.cps.contains 92=false):
 Meets («re.Pattern.sub» ⟨[.ref pa,.str rp tr,.str x tx],[]⟩) (fun _ R s=>(∀a o,K a=some o→s.heap.get? a=some o)∧∀h t tok,(∀b o,s.heap.get? b=some o→h.get? b=some o)→R (.ok (.ret (.str ⟨(subS x.cps rp.cps.toList f (x.cps.size+1) 0).toArray⟩ tok))) {s with heap:=h,toks:=t}):=by
 intro prog w A R s ⟨hK,hR⟩;have n1:=noCall_str;unfold «re.Pattern.sub» reSubstitute;show wpAny _ _ (reNamed "re.Pattern.sub" "sub" ["repl","string","count"] 2 [.str rp tr,.str x tx] []>>=_) _ _ _;rw[named_sub];refine wpAny_bind (wpAny_pure ?_);show wpAny _ _ (pure 0 >>=_) _ _ _;refine wpAny_bind (wpAny_pure ?_);refine wpAny_bind (wpAny_specialOf_val (typeIs_str s rp tr) noCall_str ?_);dsimp only[Option.isSome_none];rw[if_neg (by simp)];refine wpAny_bind (wpAny_pure (a:=some rp) ?_);dsimp only;refine wpAny_bind (wpAny_pure ?_);rw[if_neg (by simp),hbs,if_pos (by rfl)];refine wpAny_bind (wpAny_pure ?_);dsimp only;refine wpAny_bind (wpAny_holding (whole_str P hK ?_));rw[if_neg (by decide)];refine wpAny_bind (wpAny_newList (items:=[]) ?_ (by decide));refine wpAny_pure ⟨plainId_quiet plain_subloop _,?_⟩;have hKL:K s.heap.objs.size=none:=by
  cases h:K s.heap.objs.size with
  |none=>rfl
  |some o=>exact absurd (Heap.lt_size (hK _ o h)) (Nat.lt_irrefl _)
 refine subloop_str P hf hx hrp (x.cps.size+1) 0 0 [] 0 _ R J44 J31 (fun a o h=>Heap.get?_push_of_some _ (hK a o h)) hKL (Heap.get?_push_size _ rfl) (by simp;exact J79 hx) (by simp;exact J80 hx) fun h t tok hk=>?_;refine hR h t tok fun b o e=>hk b o ?_ (Heap.get?_push_of_some _ e);exact Nat.ne_of_lt (Heap.lt_size e)
end
end
section
open PySem.Builtin.Re PySem.Builtin
theorem look_buf:typeLookup (.type "bytes") (Str.ofString "__buffer__")=pure (some (.builtin "bytes.__buffer__")):=by rw[typeLookup_type,builtinLookup_eq_fast];kernel_rfl
theorem look_rel:∃o,typeLookup (.type "bytes") (Str.ofString "__release_buffer__")=pure o∧(o=none):=⟨_,by rw[typeLookup_type,builtinLookup_eq_fast];kernel_rfl,rfl⟩
section
variable{prog:Program}{w:World}{A:Around}{E:Value→Shared→Prop}{s:Shared}
theorem own_buf{b:Array UInt8}{t:Tok}{Q:Bool→Shared→Prop}(h:Q true s):wpAny (model prog w) A (Bytes.slotIsOwn (.bytes b t) "__buffer__") Q E s:=by
 unfold Bytes.slotIsOwn;refine wpAny_bind (wpAny_specialOf_val (typeIs_bytes s b t) look_buf ?_);dsimp only;rw[if_neg (by decide+kernel)];have e:("bytes.__buffer__".dropRight ("__buffer__".length+1):String)= "bytes" :=by decide+kernel
 rw[e];exact wpAny_isInstance (typeIs_bytes s b t) F.sub_bytes_bytes h
theorem rel_buf{b:Array UInt8}{t:Tok}{Q:Bool→Shared→Prop}(h:Q false s):wpAny (model prog w) A (Bytes.ownRelease (.bytes b t)) Q E s:=by
 unfold Bytes.ownRelease Bytes.slotIsOwn;refine x1_1 look_rel fun o e eq2=>?_;subst eq2;refine wpAny_bind (wpAny_bind (wpAny_specialOf_val (typeIs_bytes s b t) e ?_));exact wpAny_pure (wpAny_pure h)
theorem buf_bytes{b:Array UInt8}{t:Tok}{id:String}{full:Bool}{Q:Option (Array UInt8)→Shared→Prop}(h:Q (some b) s):wpAny (model prog w) A (Bytes.buffer? id (.bytes b t) full) Q E s:=by
 unfold Bytes.buffer?;refine wpAny_bind (wpAny_specialOf_val (typeIs_bytes s b t) look_buf ?_);refine wpAny_bind (own_buf ?_);rw[if_neg (by simp)];refine wpAny_bind (wpAny_specialOf_val (typeIs_bytes s b t) look_buf ?_);dsimp only;refine wpAny_bind (rel_buf ?_);rw[if_neg (by simp)];exact wpAny_bind (wpAny_pure (wpAny_pure h))
theorem bufq_bytes{b:Array UInt8}{t:Tok}{id:String}{Q:Option (Array UInt8)→Shared→Prop}(h:Q (some b) s):wpAny (model prog w) A (Bytes.bufferQuiet? id (.bytes b t)) Q E s:=by
 unfold Bytes.bufferQuiet?;exact wpAny_bind (wpAny_attempt (buf_bytes (wpAny_pure h)))
theorem take_bytes{b:Array UInt8}{t:Tok}{id:String}{Q:Option (Array UInt8×Option Value)→Shared→Prop}(h:Q (some (b,none)) s):wpAny (model prog w) A (Bytes.takeBufferQuiet? id (.bytes b t) 0) Q E s:=by
 unfold Bytes.takeBufferQuiet?;refine wpAny_bind (wpAny_attempt ?_);unfold Bytes.takeBuffer?;refine wpAny_bind (wpAny_specialOf_val (typeIs_bytes s b t) look_buf ?_);refine wpAny_bind (own_buf ?_);rw[if_neg (by simp)];refine wpAny_bind (wpAny_specialOf_val (typeIs_bytes s b t) look_buf ?_);dsimp only;exact wpAny_bind (buf_bytes (wpAny_pure (wpAny_pure h)))
noncomputable def bytValues(l:List (Array UInt8×Tok)):List Value:=l.map fun p=>.bytes p.1 p.2
theorem joined_nil(l:List (Array UInt8)):Bytes.joined #[] l=(l.map (·.toList)).flatten.toArray:=by
 unfold Bytes.joined;have:∀(l:List (Array UInt8)) (k:Nat) (a:Array UInt8),((l.zipIdx k).foldl (fun out (x:Array UInt8×Nat)=>(if x.2>0 then out++ #[]else out)++x.1) a)=a++(l.map (·.toList)).flatten.toArray:=by
  intro l
  induction l with
  |nil=>intro k a;simp
  |cons x l ih=>
   intro k a;rw[List.zipIdx_cons,List.foldl_cons,ih];apply Array.toList_inj.mp;simp
 have h:=this l 0 #[];simp only[Array.empty_append]at h;exact h
theorem slot_bytes_join:Slot "bytes" "join" "bytes.join" :=
 .of (owner:= "bytes") (n:= "join") (by rw[typeLookup_type,builtinLookup_eq_fast];kernel_rfl) (by decide+kernel) (by decide+kernel) (by decide+kernel)
  (by first|exact .inl (by decide+kernel)|exact .inr (by decide+kernel)) (by rw[isSubtype_type];kernel_rfl)
theorem entry_bytes_join:entryFor table "bytes.join" =some Builtin.«bytes.join» :=entryFor_of_fast (by kernel_rfl)
theorem args_bytes_join(a b:Value):argsOk "bytes.join" ⟨[a,b],[]⟩:=by unfold argsOk;kernel_rfl
theorem letgo_bytes{Q:Unit→Shared→Prop}{keep:List Value}(h:Q () s):∀(l:List (Array UInt8×Tok)),wpAny (model prog w) A (Bytes.joinLetGo ((bytValues l).map (·,none)) keep) Q E s
 |[]=>wpAny_pure h
 |p::l=>by
  show wpAny _ _ (Bytes.joinLetGo ((Value.bytes p.1 p.2,none)::(bytValues l).map (·,none)) keep) _ _ _;exact wpAny_bind (wpAny_letGo (letgo_bytes h l))
theorem meets_join{L:Addr}{l:List (Array UInt8×Tok)}{k:Nat}{tj:Tok}(hsz:(l.map (·.1.size)).sum<20000)(hne:l≠[]):
 Meets (Builtin.«bytes.join» ⟨[.bytes #[] tj,.ref L],[]⟩) (fun _ R s=>s.heap.get? L=some (listOf (bytValues l).toArray k)∧∀t tok,R (.ok (.ret (.bytes ((l.map (·.1.toList)).flatten).toArray tok))) {s with toks:=t}):=by
 intro prog w A R s ⟨hL,hR⟩;unfold Builtin.«bytes.join» Bytes.joinM;obtain⟨hp,g,d,tk,os⟩:=s
 match l,hne with
 |[p],_=>
  wp_walk using wpAny_load' hL
  show R (.ok (.ret (.bytes p.1 p.2))) _;have:=hR tk p.2;simp only[List.map_cons,List.map_nil,List.flatten_cons,List.flatten_nil,List.append_nil,Array.toArray_toList]at this;exact this
 |p::q::r,_=>
  wp_walk using wpAny_load' hL
  show wpAny _ _ (forIn [:(bytValues (p::q::r)).toArray.size] (#[],[]) _) _ _ _;rw[show(bytValues (p::q::r)).toArray.size=(p::q::r).length by simp[bytValues]];generalize p::q::r=l at *;rw[Std.Legacy.Range.forIn_eq_forIn_range'];refine(wpAny_forIn_list _ (fun rest b s'=>s'=⟨hp,g,d,tk,os⟩∧∃i,i≤l.length∧rest=List.range' i (l.length-i)∧b=((((l.take i).map (·.1)).toArray:Array (Array UInt8)),(bytValues (l.take i)).map (·,(none:Option Value)))) _ ?turn ?fin _ _ ?h0)
  case h0=>exact⟨rfl,0,Nat.zero_le _,by simp[Std.Legacy.Range.size],by simp[bytValues]⟩
  case turn=>
   intro j rest b s' nq53;obtain⟨rfl,i,hi,hr,rfl⟩:=nq53;have hlt:i<l.length:=by
    rcases Nat.lt_or_ge i l.length with h|h
    ·exact h
    ·rw[show l.length-i=0 by exact J242 h]at hr;cases hr
   rw[show l.length-i=(l.length-i-1)+1 by exact J215 hlt,List.range'_succ]at hr;injection hr with hj hrest
   subst hj;dsimp only;refine wpAny_bind (wpAny_seqItems hL rfl ?_);dsimp only;have ha:((List.map (fun x=>(x,(none:Option Value))) (bytValues (List.take j l))).any fun x=>x.1.onHeap)=false:=by
    rw[List.any_eq_false];intro y hy;refine x1_1 (List.mem_map.mp hy) fun v hv eq2=>?_;subst eq2;refine x1_1 (List.mem_map.mp hv) fun c _ eq2=>?_;subst eq2;simp[Value.onHeap]
   rw[if_neg (by rw[ha];decide)];have hg:(bytValues l).toArray.getD j .none=.bytes l[j].1 l[j].2:=by simp[bytValues,hlt]
   rw[hg];refine wpAny_bind (wpAny_holding (take_bytes ?_));dsimp only;refine wpAny_bind (wpAny_seqItems hL rfl ?_);dsimp only;rw[if_neg (by simp[bytValues])];refine wpAny_pure ⟨rfl,j+1,by exact hlt,by rw[hrest];congr 1,?_⟩;have ht:l.take (j+1)=l.take j++[l[j]]:=by rw[List.take_add_one];simp[hlt]
   rw[ht];simp only[bytValues,List.map_append,List.map_cons,List.map_nil,List.push_toArray]
  case fin=>
   intro b s' nq54;obtain⟨rfl,i,hi,hr,rfl⟩:=nq54;have hil:i=l.length:=by
    rcases Nat.lt_or_ge i l.length with h|h
    ·rw[show l.length-i=(l.length-i-1)+1 by exact J215 h,List.range'_succ]at hr;cases hr
    ·exact J324 hi h
   subst hil;dsimp only;rw[List.take_length];refine wpAny_bind (wpAny_pure (a:=(#[]:Array UInt8)) ?_);have hfold:∀(l:List (Array UInt8×Tok)) (n:Nat),((l.map (·.1)).foldl (fun(x1:Nat) (x2:Array UInt8)=>x1+x2.size) n)=n+(l.map (·.1.size)).sum:=by
    intro l
    induction l with
    |nil=>intro n;simp
    |cons x l ih=>intro n;rw[List.map_cons,List.foldl_cons,ih];simp[Nat.add_assoc]
   rw[if_neg (by
    rw[←Array.foldl_toList,hfold];unfold Bytes.tooLong;simp only[decide_eq_true_eq,sizeLine_eq];simp only[Array.size_empty,Nat.zero_mul,Nat.zero_add];exact J94 hsz)]
   have hj:Bytes.joined #[] (l.map (·.1))=((l.map (·.1.toList)).flatten).toArray:=by rw[joined_nil,List.map_map];rfl
   rw[hj];have hlen:((l.map (·.1.toList)).flatten).toArray.size<20000:=by
    rw[List.size_toArray,List.length_flatten,List.map_map];exact hsz
   refine wpAny_bind (wpAny_mkBytes (Q:=fun v s'=>_) ?_ ?_)
   ·refine wpAny_bind (wpAny_holding (wpAny_point ?_));refine wpAny_bind (letgo_bytes ?_ l);refine wpAny_pure ?_;exact hR _ _
   ·rw[sizeLine_eq];exact J92 hlen
variable{K:GH}
noncomputable def nums(b:Array UInt8):Array Nat:=b.map (·.toNat)
theorem whole_byt{Q:ReTarget→Shared→Prop}{pa ca:Addr}{code:Array Nat}(P:Pat K pa ca code 1){x:Array UInt8}{tx:Tok}(hK:∀a o,K a=some o→s.heap.get? a=some o)
 (h:Q {pattern:=.ref pa,string:=.bytes x tx,code:=code,text:=nums x,kind:=1,groups:=0,pos:=0,lim:=(nums x).size} s):wpAny (model prog w) A (reWholeTarget (.ref pa) (.bytes x tx)) Q E s:=by
 refine x6_0 P.obj fun v0 v1 v3 v4 t2 t6 hpo=>?_;refine x2_1 P.words fun items m hco hwd=>?_;have hpo':=hK _ _ hpo;have hco':=hK _ _ hco;unfold reWholeTarget;show wpAny _ _ (fieldsOf (.ref pa)>>=_) _ _ _;refine wpAny_bind (wpAny_bind (wpAny_load hpo' (wpAny_pure ?_)));unfold reTextOf;refine wpAny_bind (wpAny_bind ?_);show wpAny _ _ (pure none) _ _ _;refine wpAny_pure ?_;dsimp only;refine wpAny_bind (bufq_bytes (wpAny_pure ?_));dsimp only;rw[if_neg (by simp[reRawNat]),if_neg (by simp[reRawNat])];unfold reNoCollectionInside;rw[if_pos (by rfl)];refine wpAny_bind (wpAny_bind (wpAny_isInstance (typeIs_bytes s x tx) F.sub_bytes_bytes ?_));rw[if_neg (by simp)];refine wpAny_pure ?_;show wpAny _ _ (reRawItems (.ref ca)>>=_) _ _ _;refine wpAny_bind (wpAny_bind (wpAny_seqItems hco' rfl (wpAny_pure ?_)));refine wpAny_pure ?_;show Q {pattern:=.ref pa,string:=.bytes x tx,code:=(items.map reRawOf).map (·.toNat),text:=nums x,kind:=1,groups:=0,pos:=0,lim:=(nums x).size} _;rw[hwd];exact h
theorem slice_byt{M:Model}{A:Around}{E:Value→Shared→Prop}{s:Shared}{Q:Value→Shared→Prop}{x:Array UInt8}{b e:Nat}(hz:x.size<1000)(h:∀t k,Q (.bytes (x.extract b e) t) {s with toks:=k}):wpAny M A (reSlice (nums x) 1 b e) Q E s:=by
 show wpAny M A (mkBytes (((nums x).extract b e).map (·.toUInt8))) Q E s;have:((nums x).extract b e).map (·.toUInt8)=x.extract b e:=by
  unfold nums;apply Array.toList_inj.mp;simp only[Array.toList_map,Array.toList_extract,List.extract_eq_take_drop,←List.map_drop,←List.map_take,List.map_map]
  conv=>rhs;rw[←List.map_id (List.take (e-b) (List.drop b x.toList))]
  congr 1
  funext c
  simp
 rw[this];refine wpAny_mkBytes (h _ _) ?_;rw[sizeLine_eq,Array.size_extract];exact J371 hz
end
end
section
open PySem.Builtin.Re PySem.Builtin
section
variable{prog:Program}{w:World}{A:Around}{K:GH}
theorem fin_byt{s:Shared}{R:Result→Shared→Prop}{L:Addr}{l:List (Array UInt8×Tok)}{k:Nat}(text:Array UInt8)(ht:text.size<1000)(hL:s.heap.get? L=some (listOf (bytValues l).toArray k))(hsz:(l.map (·.1.size)).sum<20000)
 (hR:∀t tok,R (.ok (.ret (.bytes ((l.map (·.1.toList)).flatten).toArray tok))) {s with toks:=t}) {Af:Around} {F:Value→Sem Fin} (hF:∀v,F v=ret v):
 wpAny (model prog w) A (reSlice (nums text) 1 0 0 >>=fun a=>seqItems? (.ref L)>>=fun r=>if(r.getD #[]).isEmpty=true then pure a >>=F else call (.builtin (if((1:Nat)==0)=true then "str.join" else "bytes.join")) [a,.ref L]>>=F)
  (fun fin s'=>match fin with| .done f=>R (.ok f) s'| .again c'=>c'.quiet=true∧codeAny (model prog w) Af c' R s') (fun e s'=>R (.error e) s') s:=by
 refine wpAny_bind (slice_byt ht fun t0 k0=>?_);refine wpAny_bind (wpAny_seqItems hL rfl ?_);have e:text.extract 0 0= #[]:=by simp
 rw[e];cases l with
 |nil=>
  rw[if_pos (by rfl)];refine wpAny_bind (wpAny_pure ?_);rw[hF];exact wpAny_pure (hR _ _)
 |cons p l=>
  rw[if_neg (by simp[bytValues])];refine wpAny_bind (call_meets slot_bytes_join (typeIs_bytes _ _ _) entry_bytes_join (args_bytes_join _ _) (meets_join (l:=p::l) (k:=k) hsz (by simp)) ⟨hL,fun t tok=>?_⟩);show wpAny _ _ (F _) _ _ _;rw[hF];exact wpAny_pure (hR _ _)
theorem subloop_byt{pa ca:Addr}{code:Array Nat}(P:Pat K pa ca code 1){x rp:Array UInt8}{tx tr:Tok}{f:Nat→Option (Nat×Nat)}(hf:Searches code (nums x) f){L:Addr}(hx:x.size<1000)(hrp:rp.size<10):
 ∀(d p:Nat) (n:Int) (l:List (Array UInt8×Tok)) (k:Nat) (s:Shared) (R:Result→Shared→Prop),x.size-p<d→p≤x.size→(∀a o,K a=some o→s.heap.get? a=some o)→K L=none→s.heap.get? L=some (listOf (bytValues l).toArray k)→
  (l.map (·.1.size)).sum+12*(x.size-p)<20000→l.length+2*(x.size-p)<10000→
  (∀h t tok,(∀b o,b≠L→s.heap.get? b=some o→h.get? b=some o)→R (.ok (.ret (.bytes ((l.map (·.1.toList)).flatten++subS x rp.toList f d p).toArray tok))) {s with heap:=h,toks:=t})→
  codeAny (model prog w) A (.builtin "re.Pattern.sub.loop" ⟨[.ref pa,.bytes x tx,.bytes rp tr,rawInt 0,rawInt 0,rawInt n,rawInt p,rawInt p,.bool false,.ref L,.bool false],[]⟩) R s:=by
 have hnx:(nums x).size=x.size:=by simp[nums]
 intro d
 induction d with
 |zero=>
  intro p n l k s R hd;exact(J198 hd).elim
 |succ d ih=>
  intro p n l k s R hd hp hK hKL hL hsz hln hR;refine codeAny_builtin entry_subloop ?_;rw[Around.under_plainId plain_subloop _];show wpAny _ _ (reWholeTarget (.ref pa) (.bytes x tx)>>=_) _ _ _;refine wpAny_bind (whole_byt P hK ?_);show wpAny _ _ (reLiteralCannotBeTurned (.bytes rp tr)>>=_) _ _ _;refine wpAny_bind ?_;unfold reLiteralCannotBeTurned;refine wpAny_bind (wpAny_pure (a:=none) ?_);rw[if_pos (by rfl)];refine wpAny_bind (wpAny_isInstance (typeIs_bytes s rp tr) F.sub_bytes_bytes ?_);rw[if_neg (by simp)];refine wpAny_pure ?_;show wpAny _ _ (reNextFound _ ((p:Int).toNat) false >>=_) _ _ _;rw[Int.toNat_natCast];refine wpAny_bind (found_ok hf (by rw[hnx];exact hp) rfl rfl rfl rfl ?_);have hS:∀ab,f p=ab→subS x rp.toList f (d+1) p=(match ab with|some (a,b)=>(x.toList.drop p).take (a-p)++rp.toList++subS x rp.toList f d b|none=>x.toList.drop p):=fun ab e=>by rw[subS,e]<;>cases ab<;>rfl
  have hb:=(hf p (by rw[hnx];exact hp)).1;simp only[hnx]at hb;cases hfp:f p with
  |none=>
   rw[hS _ hfp]at hR;dsimp only at hR⊢;by_cases hlt:p<x.size
   ·show wpAny _ _ (if(p:Int).toNat<(nums x).size then _ else _) _ _ _;rw[if_pos (by rw[hnx];simpa using hlt)];rw[hnx];refine wpAny_bind (slice_byt hx fun t0 k0=>?_);refine wpAny_bind (push_seq (items:=bytValues l) hL (by simp[bytValues];exact J369 hln) fun h' hk hL'=>?_);refine fin_byt (l:=l++[(x.extract p x.size,t0)]) x hx (k:=k+1) ?_ ?_ (fun t tok=>?_) (fun _=>rfl)
    ·simpa[bytValues]using hL'
    ·simp only[List.map_append,List.map_cons,List.map_nil,List.sum_append,List.sum_cons,List.sum_nil,Array.size_extract];exact J503 hsz
    ·have e:(x.extract p x.size).toList=x.toList.drop p:=by
      rw[Array.toList_extract,List.extract_eq_take_drop];exact List.take_of_length_le (by simp)
     have:=hR h' t tok hk;simp only[List.map_append,List.map_cons,List.map_nil,List.flatten_append,List.flatten_cons,List.flatten_nil,List.append_nil];rw[e];exact this
   ·show wpAny _ _ (if(p:Int).toNat<(nums x).size then _ else _) _ _ _;rw[if_neg (by rw[hnx];simpa using hlt)];refine fin_byt (l:=l) x hx hL (J368 hsz) (fun t tok=>?_) (fun _=>rfl);have:=hR s.heap t tok (fun _ _ _ e=>e);rw[List.drop_of_length_le (by simp;exact J257 hlt),List.append_nil]at this;exact this
  |some ab=>
   obtain⟨a,b⟩:=ab;rw[hS _ hfp]at hR;rw[hfp]at hb;dsimp only at hR hb⊢;intro m hma hmb;have last:∀{l':List (Array UInt8×Tok)} {k':Nat} {s':Shared} (hh:∃h t,s'={s with heap:=h,toks:=t}),s'.heap.get? L=some (listOf (bytValues l').toArray k')→(∀b o,b≠L→s.heap.get? b=some o→s'.heap.get? b=some o)→
    (l'.map (·.1.toList)).flatten=(l.map (·.1.toList)).flatten++(x.toList.drop p).take (a-p)→(l'.map (·.1.size)).sum=(l.map (·.1.size)).sum+(a-p)→l'.length≤l.length+1→
    wpAny (model prog w) A.in1 (updateSeq L (·.push (.bytes rp tr))>>=fun _=>again (.builtin "re.Pattern.sub.loop" ⟨[.ref pa,.bytes x tx,.bytes rp tr,rawInt 0,rawInt 0,rawInt (n+1),rawInt m.handed,rawInt m.handed,.bool (m.handed==m.start),.ref L,.bool false],[]⟩))
     (fun fin s'=>match fin with| .done f=>R (.ok f) s'| .again c'=>c'.quiet=true∧codeAny (model prog w) A c' R s') (fun e s'=>R (.error e) s') s':=by
    intro l' k' s' nq55;obtain⟨h0,t0,rfl⟩:=nq55;intro hL' hk hfl hsm hll;refine wpAny_bind (push_seq (items:=bytValues l') hL' (by simp[bytValues];exact J601 hln hb hll) fun h' hk' hL''=>?_);refine wpAny_pure ⟨plainId_quiet plain_subloop _,?_⟩;rw[hmb,hma,show(b==a)=false by simpa using by exact J578 hb];refine ih b (n+1) (l'++[(rp,tr)]) (k'+1) _ R (J591 hd hb) hb.2.2 (fun c o e=>hk' c o (fun z=>by rw[z,hKL]at e;cases e) (hk c o (fun z=>by rw[z,hKL]at e;cases e) (hK c o e))) hKL (by simpa[bytValues]using hL'') ?_ ?_ ?_
    ·simp only[List.map_append,List.map_cons,List.map_nil,List.sum_append,List.sum_cons,List.sum_nil];exact J600 hsz hb hrp hsm
    ·simp;exact J599 hln hb hll
    ·intro h t tok hkk;have:=hR h t tok (fun c o hc e=>hkk c o hc (hk' c o hc (hk c o hc e)));simp only[List.map_append,List.map_cons,List.map_nil,List.flatten_append,hfl,List.flatten_cons,List.flatten_nil,List.append_nil,List.append_assoc]at this⊢;exact this
   by_cases hlt:p<a
   ·show wpAny _ _ (if(p:Int).toNat<m.start then _ else _) _ _ _;rw[if_pos (by rw[hma];simpa using hlt)];refine wpAny_bind (slice_byt hx fun t0 k0=>?_);refine wpAny_bind (push_seq (items:=bytValues l) hL (by simp[bytValues];exact J369 hln) fun h' hk hL'=>?_);refine last (l':=l++[(x.extract (p:Int).toNat m.start,t0)]) (k':=k+1) ⟨h',k0,rfl⟩ (by simpa[bytValues]using hL') hk ?_ ?_ (by simp)
    ·rw[hma,Int.toNat_natCast];simp[List.extract_eq_take_drop]
    ·rw[hma,Int.toNat_natCast];simp only[List.map_append,List.map_cons,List.map_nil,List.sum_append,List.sum_cons,List.sum_nil,Array.size_extract];exact J592 hb
   ·show wpAny _ _ (if(p:Int).toNat<m.start then _ else _) _ _ _;rw[if_neg (by rw[hma];simpa using hlt)];have:a=p:=J551 hb hlt;exact last ⟨s.heap,s.toks,rfl⟩ hL (fun _ _ _ e=>e) (by simp[this]) (by simp[this]) J53
end
end
end
local macro_rules | `(tactic| walk_at "mem") => `(tactic| repeat (first | with_reducible exact List.mem_cons_self | with_reducible apply List.mem_cons_of_mem))
local macro_rules | `(tactic| walk_at "name") => `(tactic| refine St.name (by assumption) (by walk_at "mem") ?_)
section
open PySem PySem.W PySem.Calls PyProof.Rows PySem.SeqAt
section
open PySem.Builtin.Re PySem.Builtin
section
variable{K:GH}
theorem pat_sub_byt{pa ca:Addr}{code:Array Nat}(P:Pat K pa ca code 1){x rp:Array UInt8}{tx tr:Tok}{f:Nat→Option (Nat×Nat)}(hf:Searches code (nums x) f)(hx:x.size<1000)(hrp:rp.size<10)(hbs:rp.contains 92=false):
 Meets («re.Pattern.sub» ⟨[.ref pa,.bytes rp tr,.bytes x tx],[]⟩) (fun _ R s=>(∀a o,K a=some o→s.heap.get? a=some o)∧∀h t tok,(∀b o,s.heap.get? b=some o→h.get? b=some o)→R (.ok (.ret (.bytes (subS x rp.toList f (x.size+1) 0).toArray tok))) {s with heap:=h,toks:=t}):=by
 intro prog w A R s ⟨hK,hR⟩;unfold «re.Pattern.sub» reSubstitute;show wpAny _ _ (reNamed "re.Pattern.sub" "sub" ["repl","string","count"] 2 [.bytes rp tr,.bytes x tx] []>>=_) _ _ _;rw[named_sub];refine wpAny_bind (wpAny_pure ?_);show wpAny _ _ (pure 0 >>=_) _ _ _;refine wpAny_bind (wpAny_pure ?_);refine wpAny_bind (wpAny_specialOf_val (typeIs_bytes s rp tr) noCall_bytes ?_);dsimp only[Option.isSome_none];rw[if_neg (by simp)];refine wpAny_bind (wpAny_pure (a:=none) ?_);dsimp only;refine wpAny_bind (bufq_bytes ?_);dsimp only;refine wpAny_bind (wpAny_pure ?_);rw[if_neg (by simp),hbs,if_pos (by rfl)];refine wpAny_bind (wpAny_pure ?_);dsimp only;refine wpAny_bind (wpAny_holding (whole_byt P hK ?_));rw[if_neg (by decide)];refine wpAny_bind (wpAny_newList (items:=[]) ?_ (by decide));refine wpAny_pure ⟨plainId_quiet plain_subloop _,?_⟩;have hKL:K s.heap.objs.size=none:=by
  cases h:K s.heap.objs.size with
  |none=>rfl
  |some o=>exact absurd (Heap.lt_size (hK _ o h)) (Nat.lt_irrefl _)
 refine subloop_byt P hf hx hrp (x.size+1) 0 0 [] 0 _ R J44 J31 (fun a o h=>Heap.get?_push_of_some _ (hK a o h)) hKL (Heap.get?_push_size _ rfl) (by simp;exact J79 hx) (by simp;exact J80 hx) fun h t tok hk=>?_;refine hR h t tok fun b o e=>hk b o ?_ (Heap.get?_push_of_some _ e);exact Nat.ne_of_lt (Heap.lt_size e)
end
noncomputable def fE(text:Array Nat)(p:Nat):Option (Nat×Nat):=(findEol text (text.size-p) p).map fun q=>(q,q+eolLen text q)
noncomputable def fD(text:Array Nat)(p:Nat):Option (Nat×Nat):=(findDot text (text.size-p) p).map fun q=>(q,q+1)
theorem eolLen_le{text:Array Nat}{q:Nat}(hq:q<text.size):0<eolLen text q∧q+eolLen text q≤text.size:=by
 unfold eolLen;by_cases h:text.getD q 0=13∧q+1<text.size∧text.getD (q+1) 0=10
 ·rw[if_pos h];obtain⟨_,h,_⟩:=h;exact⟨J5,J184 h⟩
 ·rw[if_neg h];exact⟨J4,by exact hq⟩
theorem findDot_some{text:Array Nat}:∀{d p q:Nat},findDot text d p=some q→p≤q∧q<p+d∧isDot text q=true
 |d+1,p,q,h=>by
  rw[findDot]at h
  split at h
  ·rename_i hb;cases h;exact⟨Nat.le_refl _,J164,hb⟩
  ·refine x0_2 (findDot_some h) fun h1 h2 h3=>?_;exact⟨J186 h1,J372 h2,h3⟩
theorem searches_eol(text:Array Nat):Searches c3 text (fE text):=by
 intro p hp;refine x2_2 (search_eol text p hp) fun k r hk hr hm=>?_;unfold fE;cases hf:findEol text (text.size-p) p with
 |none=>
  rw[hf]at hm;exact⟨trivial,k,r,J126 hk,hr,hm⟩
 |some q=>
  rw[hf]at hm;refine x0_2 (findEol_some hf) fun h1 h2 h3=>?_;have:=eolLen_le (text:=text) (q:=q) (J430 h2 hp);exact⟨⟨h1,J359 this,J358 this⟩,k,r,J126 hk,hr,hm⟩
theorem searches_dot(text:Array Nat)(hz:text.size<1000):Searches c1 text (fD text):=by
 intro p hp;refine x2_2 (search_dot text p hp) fun k r hk hr hm=>?_;unfold fD;cases hf:findDot text (text.size-p) p with
 |none=>
  rw[hf]at hm;exact⟨trivial,k,r,J276 hz hk,hr,hm⟩
 |some q=>
  rw[hf]at hm;refine x0_2 (findDot_some hf) fun h1 h2 h3=>?_;exact⟨⟨h1,J48,J429 h2 hp⟩,k,r,J276 hz hk,hr,hm⟩
noncomputable def fixL(x:List Nat):List Nat:=subS x.toArray [13,10] (fE x.toArray) (x.length+1) 0
noncomputable def dotL(x:List Nat):List Nat:=subS x.toArray [46,46] (fD x.toArray) (x.length+1) 0
theorem subS_len{α:Type}(text:Array α)(rp:List α)(f:Nat→Option (Nat×Nat))(hf:∀p a b,p≤text.size→f p=some (a,b)→p≤a∧a<b∧b≤text.size)(hr:rp.length≤2):∀d p,p≤text.size→(subS text rp f d p).length≤2*(text.size-p)
 |0,p,hp=>by rw[subS];simp;exact J249
 |d+1,p,hp=>by
  rw[subS];cases h:f p with
  |none=>simp;exact J249
  |some ab=>
   obtain⟨a,b⟩:=ab;refine x0_2 (hf p a b hp h) fun h1 h2 h3=>?_;have:=subS_len text rp f hf hr d b h3;simp only[List.length_append,List.length_take,List.length_drop,Array.length_toList];exact J587 h2 h3 this hr h1
structure B1(K:GH)(mg mb:Str→Option Value)(p0 p1 p2 p3:Value):Prop extends B0 K mg mb p0 p1 p2 p3 where
 r1:Pat K 43 42 c1 0
 r2:Pat K 48 47 c2 1
 r3:Pat K 53 52 c3 0
 g1:mg "_twin_re_1" =some (.ref 43)
 g2:mg "_twin_re_2" =some (.ref 48)
 g3:mg "_twin_re_3" =some (.ref 53)
 crlf:∃t,mg "CRLF" =some (.str ⟨#[13,10]⟩ t)
 mods:∃o,K sysModules=some o
section
variable{prog:Program}{w:World}{A:Around}{E:Value→Shared→Prop}{K:GH}{mg mb:Str→Option Value}{p0 p1 p2 p3:Value}{r:Shared}{own:Str→Bool}{G:GH}{env:Env}{vs vs':Vs}{led led':List (Addr×Obj)}{s:Shared}{Q:Value→Shared→Prop}
theorem psub{gs:List Str}{x:Str}{pa ca:Addr}{code:Array Nat}{kind:Int}{px apos pos:Pos}{e:Expr}{rest:List Expr}(S:St K r own G env vs led s)(T:Tp K mg mb)(g:Gl env gs)(P:Pat K pa ca code kind)(hv:mg x=some (.ref pa))(hx:x∈gs)
 (h:wpAny (model prog w) A (spliced (backTo pos (starEach (e::rest) env))) (fun vals s₁=>(∀a o,K a=some o→s₁.heap.get? a=some o)∧argsOk "re.Pattern.sub" ⟨.ref pa::vals,[]⟩∧∃Sp,Meets («re.Pattern.sub» ⟨.ref pa::vals,[]⟩) Sp∧Sp A (wants Q E) s₁) E s)
 (he:starEach (e::rest) env=(false,eval e env)::starEach rest env:=by rfl) (hp:(backTo pos (starEach (e::rest) env)).any (·.1)=false:=by rfl)
 (h1:attributeBase (.Name x px) "sub" env (eval (.Name x px) env)=eval (.Name x px) env:=by rfl)
 (h2:(((backTo pos (starEach (e::rest) env)).all fun x=>!x.1)&&((backToKw pos (keywordEach [] env)).all fun x=>x.1.isSome)&&decide (((e::rest).length+([]:List Keyword).length+if([]:List Keyword).isEmpty=true then 0 else 1)<30))=true:=by rfl)
 (h3:(apos.endLine==pos.line)=true:=by rfl):
 wpAny (model prog w) A (eval (.Call (.Attribute (.Name x px) "sub" apos) (e::rest) [] pos) env) Q E s:=by
 refine x6_0 P.obj fun v0 v1 v3 v4 t2 t6 ho=>?_;refine meth plainAttrs_pat slot_pat_sub type_pat_sub (S.glob T hv (g x hx).2 ⟨pa,_,rfl,S.atK ho,rfl,rfl,?_⟩ (g x hx).1) h1 h2 h3;refine method_meets slot_pat_sub entry_pat_sub hp ?_;rw[he]at h⊢;exact Calls.evalArgs_plain (wpAny_mono h (fun vals s₁ ⟨a1,a2,a3⟩=>⟨rfl,⟨_,a1 _ _ ho,rfl⟩,a2,a3⟩) fun _ _ x=>x)
end
end
section
open PySem.Builtin.Re PySem.Builtin
theorem quotedata_fn(pm:Value):FnOk (fdOf (topSt 7) "quotedata" .none 59 pm) ["data"] [] (bodyOf (topSt 7)) where
 body:=rfl
 clo:=rfl
 gl:=rfl
 bi:=rfl
 fn:=rfl
 co:=rfl
 gen:=rfl
 bind:=by
  intro vals h;obtain⟨a,rfl⟩:=len1 h;rfl
 ndS:=show((scopeOf (topSt 7)).names.map (·.1)).Nodup by decide+kernel
 names:=names_ok (sc:=scopeOf (topSt 7)) (by decide+kernel)
 nd:=by decide+kernel
theorem quote_periods_fn(pm:Value):FnOk (fdOf (topSt 8) "_quote_periods" .none 66 pm) ["bindata"] [] (bodyOf (topSt 8)) where
 body:=rfl
 clo:=rfl
 gl:=rfl
 bi:=rfl
 fn:=rfl
 co:=rfl
 gen:=rfl
 bind:=by
  intro vals h;obtain⟨a,rfl⟩:=len1 h;rfl
 ndS:=show((scopeOf (topSt 8)).names.map (·.1)).Nodup by decide+kernel
 names:=names_ok (sc:=scopeOf (topSt 8)) (by decide+kernel)
 nd:=by decide+kernel
theorem fix_eols_fn(pm:Value):FnOk (fdOf (topSt 9) "_fix_eols" .none 73 pm) ["data"] [] (bodyOf (topSt 9)) where
 body:=rfl
 clo:=rfl
 gl:=rfl
 bi:=rfl
 fn:=rfl
 co:=rfl
 gen:=rfl
 bind:=by
  intro vals h;obtain⟨a,rfl⟩:=len1 h;rfl
 ndS:=show((scopeOf (topSt 9)).names.map (·.1)).Nodup by decide+kernel
 names:=names_ok (sc:=scopeOf (topSt 9)) (by decide+kernel)
 nd:=by decide+kernel
theorem but_nil{h:Heap}:but [] h=h.get? :=by
 funext a
 unfold but;simp
section
variable{prog:Program}{w:World}{K:GH}{mg mb:Str→Option Value}{p0 p1 p2 p3:Value}
noncomputable abbrev mkS(l:List Nat):Str:=⟨l.toArray⟩
theorem fixL_len(x:List Nat):(fixL x).length≤2*x.length:=by
 have key:=subS_len x.toArray [13,10] (fE x.toArray) (fun p a b hp h=>?_) (by simp) (x.length+1) 0 (by simp)
 ·simpa[fixL]using key
 have:=(searches_eol x.toArray p hp).1;rw[h]at this;exact this
theorem fix_eols_ok{A:Around}(B:B1 K mg mb p0 p1 p2 p3)(hA:Rm 4 A){s:Shared}{x:List Nat}{tx:Tok}{R:Result→Shared→Prop}(hx:x.length<400)
 (hK:∀a o,K a=some o→s.heap.get? a=some o)
 (k:∀h t tok,(∀b o,s.heap.get? b=some o→h.get? b=some o)→R (.ok (.ret (.str (mkS (fixL x)) tok))) {s with heap:=h,toks:=t}):
 codeAny (model prog w) A (.call (.ref 74) ⟨[.str (mkS x) tx],[]⟩) R s:=by
 refine enter (led:=[]) B.toTp B.f_fix_eols (fix_eols_fn p0) hA.room rfl (vs:=[("data",some (.str (mkS x) tx))]) rfl hK (by simp) (by simp) fun env s' hkd hsc S=>?_;rw[but_nil]at S;have hA':=hA.deep env;have gl:Gl env ["_twin_re_3","CRLF"]:=Gl.of (sc:=scopeOf (topSt 9)) hkd (by decide+kernel);obtain⟨tc,hc⟩:=B.crlf;refine xc (xret (psub S B.toTp gl B.r3 B.g3 (by walk_at"mem") (arg ?_)));refine S.glob B.toTp hc (gl "CRLF" (by walk_at"mem")).2 (arg ?_);walk_at"name";refine argE ⟨fun a o e=>S.atK e,args_pat_sub _ _ _,_,pat_sub_str B.r3 (searches_eol _) (by simpa using(J96 hx:x.length<1000)) (by decide) (by decide+kernel),fun a o e=>S.atK e,fun h t tok hk=>?_⟩;refine x2_0 S.same fun h₀ t₀ eq2=>?_;subst eq2;have:=k h t tok (fun b o e=>hk b o (S.sub b o e));show R (.ok (.ret (.str _ tok))) _;simpa[fixL]using this
theorem quotedata_ok{A:Around}(B:B1 K mg mb p0 p1 p2 p3)(hA:Rm 4 A){s:Shared}{x:List Nat}{tx:Tok}{R:Result→Shared→Prop}(hx:x.length<400)
 (hK:∀a o,K a=some o→s.heap.get? a=some o)
 (k:∀h t tok,(∀b o,s.heap.get? b=some o→h.get? b=some o)→R (.ok (.ret (.str (mkS (dotL (fixL x))) tok))) {s with heap:=h,toks:=t}):
 codeAny (model prog w) A (.call (.ref 60) ⟨[.str (mkS x) tx],[]⟩) R s:=by
 refine enter (led:=[]) B.toTp B.f_quotedata (quotedata_fn p0) hA.room rfl (vs:=[("data",some (.str (mkS x) tx))]) rfl hK (by simp) (by simp) fun env s' hkd hsc S=>?_;rw[but_nil]at S;have hA':=hA.deep env;have gl:Gl env ["_twin_re_1","_twin_re_3","CRLF"]:=Gl.of (sc:=scopeOf (topSt 7)) hkd (by decide+kernel);obtain⟨tc,hc⟩:=B.crlf;have hfl:=fixL_len x;refine xc (xret (psub S B.toTp gl B.r1 B.g1 (by walk_at"mem") (arg ?_)));refine c_str S fun tr s' S=>arg ?_;refine psub S B.toTp gl B.r3 B.g3 (by walk_at"mem") (arg ?_);refine S.glob B.toTp hc (gl "CRLF" (by walk_at"mem")).2 (arg ?_);walk_at"name";refine argE ⟨fun a o e=>S.atK e,args_pat_sub _ _ _,_,pat_sub_str B.r3 (searches_eol _) (by simpa using(J96 hx:x.length<1000)) (by decide) (by decide+kernel),fun a o e=>S.atK e,fun h t tok hk=>?_⟩;have S:=S.keep (t:=t) hk;have e1:(⟨(subS x.toArray (Str.cps ⟨#[13,10]⟩).toList (fE x.toArray) (x.toArray.size+1) 0).toArray⟩:Str)=mkS (fixL x):=by simp[fixL,mkS]
 rw[show(⟨(subS (mkS x).cps (Str.cps ⟨#[13,10]⟩).toList (fE (mkS x).cps) ((mkS x).cps.size+1) 0).toArray⟩:Str)=mkS (fixL x)from e1];refine argE ⟨fun a o e=>S.atK e,args_pat_sub _ _ _,_,pat_sub_str B.r1 (searches_dot _ (by simpa using(J280 hx hfl:(fixL x).length<1000))) (by simpa using(J280 hx hfl:(fixL x).length<1000)) (by decide) (by decide+kernel),fun a o e=>S.atK e,fun h t tok hk=>?_⟩;refine x2_0 S.same fun h₀ t₀ e=>?_;have:=k h t tok (fun b o e=>hk b o (S.sub b o e));have e2:(⟨(subS (mkS (fixL x)).cps (Str.cps "..").toList (fD (mkS (fixL x)).cps) ((mkS (fixL x)).cps.size+1) 0).toArray⟩:Str)=mkS (dotL (fixL x)):=by
  simp only[dotL,mkS];rfl
 rw[e,e2];exact this
noncomputable def dotB(x:List Nat):Array UInt8:=((dotL x).map (·.toUInt8)).toArray
theorem subS_map{α β:Type}(g:α→β)(text:Array α)(rp:List α)(f:Nat→Option (Nat×Nat)):∀d p,subS (text.map g) (rp.map g) f d p=(subS text rp f d p).map g
 |0,p=>by rw[subS,subS];simp
 |d+1,p=>by
  rw[subS,subS];cases f p with
  |none=>simp
  |some ab=>simp[subS_map g text rp f d]
theorem quote_periods_ok{A:Around}(B:B1 K mg mb p0 p1 p2 p3)(hA:Rm 4 A){s:Shared}{x:List Nat}{tx:Tok}{R:Result→Shared→Prop}(hx:x.length<900)(hb:∀c∈x,c<256)
 (hK:∀a o,K a=some o→s.heap.get? a=some o)
 (k:∀h t tok,(∀b o,s.heap.get? b=some o→h.get? b=some o)→R (.ok (.ret (.bytes (dotB x) tok))) {s with heap:=h,toks:=t}):
 codeAny (model prog w) A (.call (.ref 67) ⟨[.bytes (x.map (·.toUInt8)).toArray tx],[]⟩) R s:=by
 refine enter (led:=[]) B.toTp B.f_quote_periods (quote_periods_fn p0) hA.room rfl (vs:=[("bindata",some (.bytes (x.map (·.toUInt8)).toArray tx))]) rfl hK (by simp) (by simp) fun env s' hkd hsc S=>?_;rw[but_nil]at S;have hA':=hA.deep env;have gl:Gl env ["_twin_re_2"]:=Gl.of (sc:=scopeOf (topSt 8)) hkd (by decide+kernel);have hn:nums (x.map (·.toUInt8)).toArray=x.toArray:=by
  unfold nums;simp only[List.map_toArray,List.map_map];congr 1;refine(List.map_congr_left fun c hc=>?_).trans (List.map_id x);have:=hb c hc;show(UInt8.ofNat c).toNat=c;rw[UInt8.toNat_ofNat'];omega
 refine xc (xret (psub S B.toTp gl B.r2 B.g2 (by walk_at"mem") (arg ?_)));refine Constant_bytes ?_;have S:=S.tok (s'.toks+1);refine arg ?_;walk_at"name";have hse:Searches c2 (nums (x.map (·.toUInt8)).toArray) (fD x.toArray):=by rw[hn,c2_c1];exact searches_dot _ (by simpa using(J102 hx:x.length<1000))
 refine argE ⟨fun a o e=>S.atK e,args_pat_sub _ _ _,_,pat_sub_byt B.r2 hse (by simpa using(J102 hx:x.length<1000)) (by decide) (by decide+kernel),fun a o e=>S.atK e,fun h t tok hk=>?_⟩;refine x2_0 S.same fun h₀ t₀ e=>?_;have:=k h t tok (fun b o e=>hk b o (S.sub b o e));rw[e];have e2:(subS (x.map (·.toUInt8)).toArray [(46:UInt8),46] (fD x.toArray) ((x.map (·.toUInt8)).toArray.size+1) 0).toArray=dotB x:=by
  unfold dotB dotL;rw[←subS_map];simp
 exact e2▸this
end
end
noncomputable def putOf:Expr→Env→List Value→Sem Unit
 | .Tuple elts _ _,env,ws=>assignInOrder ((assignEach elts env).map (·.2)) ws
 |t,env,ws=>assign t env (ws.headD .none)
structure Src(prog:Program)(w:World)(A:Around)(G:GH)(env:Env)(target:Expr)(it:Value)(n:Nat)(P:Nat→List Value→Prop)(O:Nat→List (Addr×Obj)→Prop):Prop where
 item:∀i (s:Shared) (os:List (Addr×Obj)) (Q:Unit→Shared→Prop) (E:Value→Shared→Prop),i<n→(∀a ob,G a=some ob→s.heap.get? a=some ob)→(∀p∈os,s.heap.get? p.1=some p.2∧G p.1=none)→(os.map (·.1)).Nodup→O i os→
  (∀ws os' h' tk,P i ws→O (i+1) os'→os'.map (·.1)=os.map (·.1)→(∀p∈os',h'.get? p.1=some p.2)→(∀b o,b∉os.map (·.1)→s.heap.get? b=some o→h'.get? b=some o)→wpAny (model prog w) A (putOf target env ws) Q E {s with heap:=h',toks:=tk})→
  wpAny (model prog w) A (pyNext it) (fun r s₁=>∃v,r=some v∧wpAny (model prog w) A (letOwnedTupleGo target it v) (fun _ s₂=>wpAny (model prog w) A (assign target env v) Q E s₂) E s₁) E s
 done:∀(s:Shared) (os:List (Addr×Obj)) (Q:Option Value→Shared→Prop) (E:Value→Shared→Prop),(∀a ob,G a=some ob→s.heap.get? a=some ob)→(∀p∈os,s.heap.get? p.1=some p.2∧G p.1=none)→(os.map (·.1)).Nodup→O n os→
  (∀h' tk,(∀b o,b∉os.map (·.1)→s.heap.get? b=some o→h'.get? b=some o)→Q none {s with heap:=h',toks:=tk})→wpAny (model prog w) A (pyNext it) Q E s
section
variable{prog:Program}{w:World}{A:Around}{E:Value→Shared→Prop}{R:Result→Shared→Prop}{K:GH}{r:Shared}{own:Str→Bool}{G:GH}{env:Env}{vs vs':Vs}{led led':List (Addr×Obj)}{s:Shared}
theorem compLoop_go{elt target iter:Expr}{ifs:List Expr}{scope:Scope}{pos:Pos}{it acc:Value}{env:Env}(I:Nat→Shared→Prop)
 (turn:∀n s,I n s→wpAny (model prog w) A (pyNext it) (fun r s₁=>match r with
  |none=>R (.ok .next) s₁
  |some v=>wpAny (model prog w) A (letOwnedTupleGo target it v) (fun _ s₁=>wpAny (model prog w) A (assign target env v) (fun _ s₂=>
   wpAny (model prog w) A (forIn ifs true fun c r=>if r=true then do let ok←isTrue c env (eval c env);pure (ForInStep.yield ok)else pure (ForInStep.yield r)) (fun ok s₃=>
    if ok=true then wpAny (model prog w) A (eval elt env) (fun x s₄=>
     wpAny (model prog w) A (call (.builtin "list.append") [acc,x]) (fun _ s₅=>∃m,m<n∧I m s₅) (notedBy (model prog w) A env fun e s'=>R (.error e) s') s₄) (notedBy (model prog w) A env fun e s'=>R (.error e) s') s₃
    else∃m,m<n∧I m s₃) (notedBy (model prog w) A env fun e s'=>R (.error e) s') s₂) (notedBy (model prog w) A env fun e s'=>R (.error e) s') s₁) (notedBy (model prog w) A env fun e s'=>R (.error e) s') s₁) (notedBy (model prog w) A env fun e s'=>R (.error e) s') s)
 (n:Nat) (h:I n s):
 codeAny (model prog w) A (.compLoop (.ListComp elt [⟨target,iter,ifs,0⟩] scope pos) 0 it acc env) R s:=by
 refine codeAny_loop rfl I (fun n s hI=>?_) n h;show wpAny _ A ((compTurn (.ListComp elt [⟨target,iter,ifs,0⟩] scope pos) 0 it acc env).onRaise (fun x=>do noteFrame x env;theTreesLotGoes x)) _ _ s;refine wpAny_noted ?_;rw[compTurn_list];refine wpAny_bind (wpAny_standAt (wpAny_bind (wpAny_mono (turn n s hI) (fun r s₁ h₁=>?_) fun _ _ h'=>h')));cases r with
 |none=>exact wpAny_pure h₁
 |some v=>
  refine wpAny_bind (wpAny_mono h₁ (fun _ s₁ h₁=>?_) fun _ _ h'=>h');refine wpAny_bind (wpAny_mono h₁ (fun _ s₂ h₂=>wpAny_bind (wpAny_mono h₂ (fun ok s₃ h₃=>?_) fun _ _ h'=>h')) fun _ _ h'=>h');cases ok with
  |false=>exact wpAny_pure ⟨rfl,h₃⟩
  |true=>
   exact wpAny_bind (wpAny_bind (wpAny_mono h₃ (fun x s₄ h₄=>wpAny_bind (wpAny_mono h₄ (fun _ s₅ h₅=>wpAny_pure (wpAny_pure ⟨rfl,h₅⟩)) fun _ _ h'=>h')) fun _ _ h'=>h'))
theorem forLoop_go{target:Expr}{it:Value}{body orelse:List Stmt}{env:Env}(I:Nat→Shared→Prop)
 (turn:∀n s,I n s→wpAny (model prog w) A (pyNext it) (fun r s₁=>match r with
  |none=>wpAny (model prog w) A (execs orelse env) (fun f s₃=>R (.ok f) s₃) (notedBy (model prog w) A env fun e s'=>R (.error e) s') s₁
  |some v=>wpAny (model prog w) A (letOwnedTupleGo target it v) (fun _ s₁=>wpAny (model prog w) A (assign target env v) (fun _ s₂=>wpAny (model prog w) A (execs body env) (fun f s₃=>match f with
   | .next| .cont=>∃m,m<n∧I m s₃
   | .brk=>R (.ok .next) s₃
   | .ret v=>R (.ok (.ret v)) s₃) (notedBy (model prog w) A env fun e s'=>R (.error e) s') s₂) (notedBy (model prog w) A env fun e s'=>R (.error e) s') s₁) (notedBy (model prog w) A env fun e s'=>R (.error e) s') s₁) (notedBy (model prog w) A env fun e s'=>R (.error e) s') s)
 (n:Nat) (h:I n s):codeAny (model prog w) A (.forLoop target it body orelse env) R s:=by
 refine codeAny_loop' rfl I (fun n s hI=>?_) n h;show wpAny _ _ ((forTurn target it body orelse env).onRaise (fun x=>do noteFrame x env;theTreesLotGoes x)) _ _ s;refine wpAny_noted ?_;simp only[forTurn];refine wpAny_bind (wpAny_standAt (wpAny_bind (wpAny_onRaise (wpAny_mono (turn n s hI) (fun r s₁ h₁=>?_) fun _ _ h'=>wpAny_standAt h'))));cases r with
 |none=>exact wpAny_pure (.inr ⟨rfl,codeAny_block h₁⟩)
 |some v=>
  refine wpAny_bind (wpAny_mono h₁ (fun _ s₁ h₁=>?_) fun _ _ h'=>h');refine wpAny_bind (wpAny_mono h₁ (fun _ s₂ h₂=>wpAny_bind (wpAny_mono h₂ (fun f s₃ h₃=>?_) fun _ _ h'=>h')) fun _ _ h'=>h');cases f with
  |next=>exact wpAny_pure (.inl ⟨rfl,h₃⟩)
  |cont=>exact wpAny_pure (.inl ⟨rfl,h₃⟩)
  |brk=>exact wpAny_pure h₃
  |ret v=>exact wpAny_pure h₃
theorem put_cons{x:Str}{px:Pos}{fs:List (Value→Sem Unit)}{v:Value}{ws:List Value}{Q:Unit→Shared→Prop}
 (h:wpAny (model prog w) A (storeName env x v) (fun _ s₁=>wpAny (model prog w) A (assignInOrder fs ws) Q E s₁) E s):wpAny (model prog w) A (assignInOrder (assign (.Name x px) env::fs) (v::ws)) Q E s:=by
 show wpAny _ _ (holding ws (assign (.Name x px) env v)>>=fun _=>assignInOrder fs ws) _ _ _;exact wpAny_bind (wpAny_holding (wpAny_assign_Name h))
theorem put_nil{Q:Unit→Shared→Prop}(h:Q () s):wpAny (model prog w) A (assignInOrder [] []) Q E s:=wpAny_pure h
theorem St.turn{os os':List (Addr×Obj)}(S:St K r own G env vs (os++led) s){h':Heap}{t:Nat}(hn:os'.map (·.1)=os.map (·.1))(ho:∀p∈os',h'.get? p.1=some p.2)
 (hk:∀b o,b∉os.map (·.1)→s.heap.get? b=some o→h'.get? b=some o):St K r own G env vs (os'++led) {s with heap:=h',toks:=t}:=by
 obtain⟨nq6,base,sub,eo,fm,gl,gc,ld,nd⟩:=S;obtain⟨h0,t0,hs⟩:=nq6;have hin:∀b,b∈os.map (·.1)→G b=none∧b≠env.locals∧∀x c,(x,c)∈env.cells→b≠c:=by
  intro b hb;refine x1_1 (List.mem_map.mp hb) fun p hp eq2=>?_;subst eq2;exact(ld p (List.mem_append_left _ hp)).2
 have nd':=nd;rw[List.map_append,List.nodup_append]at nd';refine⟨⟨h',t,by rw[hs]⟩,base,fun a o e=>hk a o (fun z=>by rw[(hin a z).1]at e;cases e) (sub a o e),eo,⟨?_,fun x c hc=>?_⟩,gl,gc,fun p hp=>?_,by rw[List.map_append,hn,←List.map_append];exact nd⟩
 ·obtain⟨ml,nq7,h2⟩:=fm.loc;obtain⟨ob,es,ep,h1,q⟩:=nq7;exact⟨ml,⟨ob,es,ep,hk _ _ (fun z=>(hin _ z).2.1 rfl) h1,q⟩,h2⟩
 ·refine x1_1 (fm.cel x c hc) fun ob h1 q=>?_;exact⟨ob,hk _ _ (fun z=>(hin _ z).2.2 x c (mem_of_lookup hc) rfl) h1,q⟩
 ·rcases List.mem_append.mp hp with hp|hp
  ·refine⟨ho p hp,hin _ ?_⟩;rw[←hn];exact List.mem_map_of_mem (f:=(·.1)) hp
  ·have P:=ld p (List.mem_append_right _ hp);exact⟨hk _ _ (fun z=>nd'.2.2 _ z _ (List.mem_map_of_mem (f:=(·.1)) hp) rfl) P.1,P.2⟩
theorem St.cut{os:List (Addr×Obj)}(S:St K r own G env vs (os++led) s){h':Heap}{t:Nat}(hk:∀b o,b∉os.map (·.1)→s.heap.get? b=some o→h'.get? b=some o):St K r own G env vs led {s with heap:=h',toks:=t}:=by
 obtain⟨nq8,base,sub,eo,fm,gl,gc,ld,nd⟩:=S;obtain⟨h0,t0,hs⟩:=nq8;have hin:∀b,b∈os.map (·.1)→G b=none∧b≠env.locals∧∀x c,(x,c)∈env.cells→b≠c:=by
  intro b hb;refine x1_1 (List.mem_map.mp hb) fun p hp eq2=>?_;subst eq2;exact(ld p (List.mem_append_left _ hp)).2
 have nd':=nd;rw[List.map_append,List.nodup_append]at nd';refine⟨⟨h',t,by rw[hs]⟩,base,fun a o e=>hk a o (fun z=>by rw[(hin a z).1]at e;cases e) (sub a o e),eo,⟨?_,fun x c hc=>?_⟩,gl,gc,fun p hp=>?_,nd'.2.1⟩
 ·obtain⟨ml,nq9,h2⟩:=fm.loc;obtain⟨ob,es,ep,h1,q⟩:=nq9;exact⟨ml,⟨ob,es,ep,hk _ _ (fun z=>(hin _ z).2.1 rfl) h1,q⟩,h2⟩
 ·refine x1_1 (fm.cel x c hc) fun ob h1 q=>?_;exact⟨ob,hk _ _ (fun z=>(hin _ z).2.2 x c (mem_of_lookup hc) rfl) h1,q⟩
 ·have P:=ld p (List.mem_append_right _ hp);exact⟨hk _ _ (fun z=>nd'.2.2 _ z _ (List.mem_map_of_mem (f:=(·.1)) hp) rfl) P.1,P.2⟩
theorem St.parts{os:List (Addr×Obj)}(S:St K r own G env vs (os++led) s):(∀p∈os,s.heap.get? p.1=some p.2∧G p.1=none)∧(os.map (·.1)).Nodup:=by
 refine⟨fun p hp=>⟨(S.ld p (List.mem_append_left _ hp)).1,(S.ld p (List.mem_append_left _ hp)).2.1⟩,?_⟩;have:=S.nd;rw[List.map_append,List.nodup_append]at this;exact this.1
theorem Src.of{I:Addr}{n:Nat}{P:Nat→Value→Prop}{O:Nat→Obj→Prop}{target:Expr}(W:Itr prog w A G I n P O)(hp:∀v,putOf target env [v]=assign target env v:=by intro _;rfl)(hgo:∀v,letOwnedTupleGo target (.ref I) v=pure ():=by intro v;rfl):
 Src prog w A G env target (.ref I) n (fun i ws=>∃v,ws=[v]∧P i v) (fun i os=>∃o,os=[(I,o)]∧O i o) where
 item:=by
  intro i s os Q E hi hG ho hn nq10;obtain⟨o,rfl,hO⟩:=nq10;intro k;refine W.item i s o _ E hi hG (ho _ (.head _)).1 hO fun v h' o' tk hP hO' ho' hsb=>⟨v,rfl,wpAny_of_eq (hgo v) ?_⟩;rw[←hp];exact k [v] [(I,o')] h' tk ⟨v,rfl,hP⟩ ⟨o',rfl,hO'⟩ rfl (by simpa using ho') (fun b ob hb e=>(hsb.2 b (by simpa using hb)).trans e)
 done:=by
  intro s os Q E hG ho hn nq11;obtain⟨o,rfl,hO⟩:=nq11;intro k;exact W.done s o Q E hG (ho _ (.head _)).1 hO fun h' tk hk=>k h' tk fun b ob hb e=>hk b ob (by simpa using hb) e
end
noncomputable def clo(env:Env):List (Str×NameKind)→List (Str×Addr)→List (Str×Addr)
 |[],acc=>acc
 |(n,k)::r,acc=>if k==.free then clo env r ((n,(env.cells.lookup n).getD 0)::acc)else clo env r acc
theorem clo_forIn(env:Env):∀(names:List (Str×NameKind)) (acc:List (Str×Addr)),(∀x,(x,NameKind.free)∈names→∃c,env.cells.lookup x=some c)→
 (forIn names acc (fun(x:Str×NameKind) (r:List (Str×Addr))=>match x with
  |(name,kind)=>if(kind==.free)=true then(do let a←cellOf env name;pure (ForInStep.yield ((name,a)::r)))else pure (ForInStep.yield r)):Sem (List (Str×Addr)))=pure (clo env names acc)
 |[],acc,_=>by rw[List.forIn_nil];rfl
 |(n,k)::rest,acc,h=>by
  have ih:=fun acc=>clo_forIn env rest acc fun x hx=>h x (.tail _ hx);rw[List.forIn_cons];unfold clo;by_cases hk:(k==NameKind.free)=true
  ·have e:k=.free:=eq_of_beq hk;subst e;obtain⟨c,hc⟩:=h n (.head _);rw[if_pos hk];simp only[hk,if_true];have:cellOf env n=pure c:=by unfold cellOf;rw[hc]
   rw[this];simp only[pure_bind,hc,Option.getD_some];exact ih _
  ·rw[if_neg hk];simp only[hk,if_false];simp only[pure_bind,Bool.false_eq_true,if_false];exact ih _
theorem closureFor_eq{env:Env}{scope:Scope}(h:∀x,(x,NameKind.free)∈scope.names→∃c,env.cells.lookup x=some c):closureFor scope env=pure (clo env scope.names []):=by
 unfold closureFor;have:=clo_forIn env scope.names [] h;simp only[bind_pure]at this⊢;exact this
theorem clo_mem(env:Env):∀(names:List (Str×NameKind)) (acc:List (Str×Addr)),(∀x,(x,NameKind.free)∈names→∃c,env.cells.lookup x=some c)→∀{x:Str} {c:Addr},(x,c)∈clo env names acc→((x,NameKind.free)∈names∧env.cells.lookup x=some c)∨(x,c)∈acc
 |[],_,_,_,_,h=>.inr h
 |(n,k)::rest,acc,h,x,c,hm=>by
  have h':∀x,(x,NameKind.free)∈rest→∃c,env.cells.lookup x=some c:=fun x hx=>h x (.tail _ hx);unfold clo at hm
  split at hm
  ·rename_i hk;rcases clo_mem env rest _ h' hm with⟨h1,h2⟩|h1
   ·exact .inl ⟨.tail _ h1,h2⟩
   ·rcases List.mem_cons.mp h1 with e|h1
    ·have e':=eq_of_beq hk;subst e';obtain⟨c',hc'⟩:=h n (.head _);cases e;exact .inl ⟨.head _,by rw[hc'];rfl⟩
    ·exact .inr h1
  ·rcases clo_mem env rest _ h' hm with⟨h1,h2⟩|h1
   ·exact .inl ⟨.tail _ h1,h2⟩
   ·exact .inr h1
theorem clo_has(env:Env):∀(names:List (Str×NameKind)) (acc:List (Str×Addr)) {x:Str} {c:Addr},(((x,NameKind.free)∈names∧env.cells.lookup x=some c)∨(x,c)∈acc)→(x,c)∈clo env names acc
 |[],_,_,_,h=>h.elim (fun h=>nomatch h.1) id
 |(n,k)::rest,acc,x,c,h=>by
  unfold clo
  split
  ·refine clo_has env rest _ ?_;rcases h with⟨h1,h2⟩|h1
   ·rcases List.mem_cons.mp h1 with e|h1
    ·cases e;right;rw[h2];exact .head _
    ·exact .inl ⟨h1,h2⟩
   ·exact .inr (.tail _ h1)
  ·rename_i hk;refine clo_has env rest _ ?_;rcases h with⟨h1,h2⟩|h1
   ·rcases List.mem_cons.mp h1 with e|h1
    ·cases e;exact absurd rfl hk
    ·exact .inl ⟨h1,h2⟩
   ·exact .inr h1
theorem clo_nodup(env:Env):∀(names:List (Str×NameKind)) (acc:List (Str×Addr)),(names.map (·.1)).Nodup→(acc.map (·.1)).Nodup→(∀x∈names.map (·.1),x∉acc.map (·.1))→((clo env names acc).map (·.1)).Nodup
 |[],_,_,h,_=>h
 |(y,k)::r,acc,hn,ha,hd=>by
  rw[List.map_cons,List.nodup_cons]at hn;unfold clo
  split
  ·refine clo_nodup env r _ hn.2 ?_ ?_
   ·rw[List.map_cons,List.nodup_cons];exact⟨hd y (.head _),ha⟩
   ·intro x hx hm;rw[List.map_cons]at hm;rcases List.mem_cons.mp hm with e|hm
    ·exact hn.1 (e▸hx)
    ·exact hd x (.tail _ hx) hm
  ·exact clo_nodup env r _ hn.2 ha fun x hx=>hd x (.tail _ hx)
theorem cellsFrom_apart:∀(names:List (Str×NameKind)) (n:Nat) (acc:List (Str×Addr)),(∀p∈acc,p.2<n)→(acc.Pairwise fun x y=>x.2≠y.2)→(cellsFrom n names acc).Pairwise fun x y=>x.2≠y.2
 |[],_,_,_,h=>h
 |(y,k)::r,n,acc,hlt,hp=>by
  unfold cellsFrom
  split
  ·refine cellsFrom_apart r _ _ (fun p hp=>?_) (List.pairwise_cons.mpr ⟨fun p hm=>?_,hp⟩)
   ·rcases List.mem_cons.mp hp with e|hm
    ·subst e;exact Nat.lt_succ_self n
    ·exact Nat.lt_succ_of_lt (hlt p hm)
   ·exact Nat.ne_of_gt (hlt p hm)
  ·exact cellsFrom_apart r n acc hlt hp
theorem cellsFrom_new:∀(names:List (Str×NameKind)) (h:Heap) (acc:List (Str×Addr)) {x:Str} {c:Addr},(x,c)∈cellsFrom h.objs.size names acc→(x,c)∈acc∨((x,NameKind.cell)∈names∧h.objs.size≤c∧(pushCells h names).IsCell c none)
 |[],_,_,_,_,hm=>.inl hm
 |(y,k)::r,h,acc,x,c,hm=>by
  unfold cellsFrom at hm;unfold pushCells
  split at hm
  ·rename_i hk;rw[if_pos hk];rw[show h.objs.size+1=(h.push {cls:=.type "cell",data:=.cell none}).objs.size from(Heap.size_push ..).symm]at hm;rcases cellsFrom_new r _ _ hm with hm|⟨h1,h2,h3⟩
   ·rcases List.mem_cons.mp hm with e|hm
    ·have:=eq_of_beq hk;subst this;cases e;exact .inr ⟨.head _,Nat.le_refl _,⟨_,pushCells_keeps r _ _ _ (Heap.get?_push_size _ rfl),rfl⟩⟩
    ·exact .inl hm
   ·rw[Heap.size_push]at h2;exact .inr ⟨.tail _ h1,J186 h2,h3⟩
  ·rename_i hk;rw[if_neg hk];rcases cellsFrom_new r _ _ hm with hm|⟨h1,h2,h3⟩
   ·exact .inl hm
   ·exact .inr ⟨.tail _ h1,h2,h3⟩
theorem newFnEnv{M:Model}{A:Around}{E:Value→Shared→Prop}{s:Shared}{scope:Scope}{globals:Addr}{cl:List (Str×Addr)}{qual:Str}{env:Env}{Q:Env→Shared→Prop}
 (h:Q (newEnv scope s.heap.objs.size globals (cellsFrom (s.heap.objs.size+1) scope.names cl) qual none .none (some env) builtinsNs) {s with heap:=pushCells (s.heap.push {cls:=.type "dict",data:=.dict #[]}) scope.names}):
 wpAny M A (newFunctionEnv scope globals cl [] qual none .none (some env)) Q E s:=by
 simp only[newFunctionEnv,Option.isSome_some,if_true];refine wpAny_bind (wpAny_alloc ?_);refine wpAny_bind (wpAny_layCells _ (fun name kind cells=>by cases hkc:kind==NameKind.cell<;>simp[hkc]) _ _ _ _ ?_);rw[show({s with heap:=s.heap.push {cls:=.type "dict",data:=.dict #[]}}:Shared).heap.objs.size=s.heap.objs.size+1 from Heap.size_push ..];exact wpAny_bind (wpAny_pure (wpAny_pure h))
noncomputable def compScB(scope:Scope)(los owns frees:List Str):Bool:=
 (scope.kind==.function)&&decide ((scope.names.map (·.1)).Nodup)&&decide ((los++frees).Nodup)
 &&(los.all fun x=>!(x==("__debug__" :Str))&&(scope.names.lookup x==some .local||(scope.names.lookup x==some .cell&&owns.contains x)))
 &&(frees.all fun x=>!(x==("__debug__" :Str))&&scope.names.lookup x==some .free)
 &&(scope.names.all fun p=>(!(p.2==.free)||frees.contains p.1)&&(!(p.2==.cell)||(owns.contains p.1&&los.contains p.1)))
 &&(owns.all fun x=>scope.names.lookup x==some .cell)
structure CompSc(scope:Scope)(los owns frees:List Str):Prop where
 kind:scope.kind=.function
 nd:(scope.names.map (·.1)).Nodup
 loc:∀x∈los,(x==("__debug__" :Str))=false∧(scope.names.lookup x=some .local∨(scope.names.lookup x=some .cell∧x∈owns))
 free:∀x∈frees,(x==("__debug__" :Str))=false∧scope.names.lookup x=some .free
 allfree:∀x,(x,NameKind.free)∈scope.names→x∈frees
 allcell:∀x,(x,NameKind.cell)∈scope.names→x∈owns∧x∈los
 apart:(los++frees).Nodup
 ownc:∀x∈owns,scope.names.lookup x=some .cell
theorem CompSc.of{scope:Scope}{los owns frees:List Str}(h:compScB scope los owns frees=true):CompSc scope los owns frees:=by
 unfold compScB at h;simp only[Bool.and_eq_true,beq_iff_eq,decide_eq_true_eq,List.all_eq_true,Bool.not_eq_true',Bool.or_eq_true,List.contains_iff_mem]at h;obtain⟨nq12,h7⟩:=h;obtain⟨nq13,h6⟩:=nq12;obtain⟨nq14,h5⟩:=nq13;obtain⟨nq15,h4⟩:=nq14;obtain⟨nq16,h3⟩:=nq15;obtain⟨h1,h2⟩:=nq16;refine⟨h1,h2,fun x hx=>h4 x hx,fun x hx=>h5 x hx,fun x hx=>?_,fun x hx=>?_,h3,h7⟩
 ·have:=(h6 _ hx).1;simpa using this
 ·have:=(h6 _ hx).2;simpa using this
noncomputable def owf(owns:List Str):Str→Bool:=fun x=>owns.contains x
theorem lookup_relabel{env:Env}:∀{names:List (Str×NameKind)} {x:Str},
 (names.map fun(n,k)=>if(k==NameKind.free&&env.scope.kind==.function&&env.kindOf n==some .cell)then(n,NameKind.cell)else(n,k)).lookup x
  =(names.lookup x).map fun k=>if(k==NameKind.free&&env.scope.kind==.function&&env.kindOf x==some .cell)then NameKind.cell else k
 |[],_=>rfl
 |(n,k)::r,x=>by
  have ih:= @lookup_relabel env r x;rw[List.map_cons];show List.lookup x ((if(k==NameKind.free&&env.scope.kind==.function&&env.kindOf n==some .cell)=true then(n,NameKind.cell)else(n,k))::_)=_;cases hx:x==n with
  |true=>
   have e:=eq_of_beq hx;subst e;by_cases hc:(k==NameKind.free&&env.scope.kind==.function&&env.kindOf x==some .cell)=true
   ·rw[if_pos hc];simp only[List.lookup_cons,hx,Option.map_some,hc,if_true]
   ·rw[if_neg hc];simp only[List.lookup_cons,hx,Option.map_some,hc,if_false,Bool.false_eq_true]
  |false=>
   by_cases hc:(k==NameKind.free&&env.scope.kind==.function&&env.kindOf n==some .cell)=true
   ·rw[if_pos hc];simp only[List.lookup_cons,hx];exact ih
   ·rw[if_neg hc];simp only[List.lookup_cons,hx];exact ih
theorem cellsFrom_nodup':∀(names:List (Str×NameKind)) (n:Nat) (acc:List (Str×Addr)),(names.map (·.1)).Nodup→(acc.map (·.1)).Nodup→(∀x,(x,NameKind.cell)∈names→x∉acc.map (·.1))→((cellsFrom n names acc).map (·.1)).Nodup
 |[],_,_,_,h,_=>h
 |(y,k)::r,n,acc,hn,ha,hd=>by
  rw[List.map_cons,List.nodup_cons]at hn;unfold cellsFrom
  split
  ·rename_i hk;have:=eq_of_beq hk;subst this;refine cellsFrom_nodup' r _ _ hn.2 ?_ ?_
   ·rw[List.map_cons,List.nodup_cons];exact⟨hd y (.head _),ha⟩
   ·intro x hx hm;rw[List.map_cons]at hm;rcases List.mem_cons.mp hm with e|hm
    ·exact hn.1 (e▸List.mem_map_of_mem (f:=(·.1)) hx)
    ·exact hd x (.tail _ hx) hm
  ·exact cellsFrom_nodup' r _ _ hn.2 ha fun x hx=>hd x (.tail _ hx)
section
variable{prog:Program}{w:World}{A:Around}{E:Value→Shared→Prop}{K:GH}{r:Shared}{own:Str→Bool}{G:GH}{env:Env}{vs vs':Vs}{led led':List (Addr×Obj)}{s:Shared}
theorem lk_nones{los:List Str}{x:Str}:lk (los.map fun x=>(x,none)) x=none:=by
 induction los with
 |nil=>rfl
 |cons y r ih=>simp only[List.map_cons,lk];split<;>simp_all
theorem compIn{scope:Scope}{los owns:List Str}{fr:List (Str×Value)}(C:CompSc scope los owns (fr.map (·.1)))(hfr:∀p∈fr,(p.1,some p.2)∈vs∧env.kindOf p.1=some .cell)
 (S:St K r own G env vs led s) {Q:Env→Shared→Prop}
 (k:∀cenv₀ cenv s₁ G₁,cenv={cenv₀ with scope:=relabel scope env}→cenv.kindOf=(fun x=>(scope.names.lookup x).map fun k=>if(k==NameKind.free&&env.scope.kind==.function&&env.kindOf x==some .cell)then NameKind.cell else k)→GLe G G₁→
  St K r (owf owns) G₁ cenv (los.map (fun x=>(x,none))++fr.map fun p=>(p.1,some p.2)) led s₁→
  (∀G₂ cvs₂ led₂ s₂,GLe G₁ G₂→(∀p∈led₂,p.1∈led.map (·.1))→St K r (owf owns) G₂ cenv cvs₂ led₂ s₂→
   ∃G₃ oC,GLe G G₃∧(∀vs ds,IsAll G₂ vs ds→IsAll G₃ vs ds)∧St K r own G₃ env vs ((cenv.locals,oC)::led₂) s₂∧∃m,s₂.heap.Ns cenv.locals m)→Q cenv₀ s₁):
 wpAny (model prog w) A (newFunctionEnv scope env.globals (clo env scope.names []) [] env.qual none .none (some env)) Q E s:=by
 have hcell:∀x,(x,NameKind.free)∈scope.names→∃c,env.cells.lookup x=some c:=by
  intro x hx;have:=C.allfree x hx;refine x1_1 (List.mem_map.mp this) fun p hp eq2=>?_;subst eq2;obtain⟨h1,h2⟩:=hfr p hp;rcases(S.eo.kd p.1 (List.mem_map_of_mem (f:=(·.1)) h1)).2 with h|⟨_,h⟩
  ·rw[h2]at h;cases h
  ·exact h
 have hclo:∀{x:Str} {c:Addr},(x,c)∈clo env scope.names []→(x,NameKind.free)∈scope.names∧env.cells.lookup x=some c:=fun h=>by
  rcases clo_mem env scope.names [] hcell h with h|h
  ·exact h
  ·cases h
 refine newFnEnv ?_;generalize hH:pushCells (s.heap.push {cls:=.type "dict",data:=.dict #[]}) scope.names=H;generalize he0:newEnv scope s.heap.objs.size env.globals (cellsFrom (s.heap.objs.size+1) scope.names (clo env scope.names [])) env.qual none .none (some env) builtinsNs=cenv₀;obtain⟨cenv,hce⟩:∃cenv:Env,cenv={cenv₀ with scope:=relabel scope env}:=⟨_,rfl⟩;have e1:cenv.locals=s.heap.objs.size:=by rw[hce,←he0];rfl
 have e2:cenv.cells=cellsFrom (s.heap.objs.size+1) scope.names (clo env scope.names []):=by rw[hce,←he0];rfl
 have e3:cenv.kindOf=fun x=>(scope.names.lookup x).map fun k=>if(k==NameKind.free&&env.scope.kind==.function&&env.kindOf x==some .cell)then NameKind.cell else k:=by
  funext x
  rw[hce];exact lookup_relabel
 have e4:cenv.globals=env.globals:=by rw[hce,←he0];rfl
 have e5:cenv.builtins=env.builtins:=by rw[hce,←he0];rfl
 have e6:cenv.scope.kind=.function:=by rw[hce];exact C.kind
 have keep:∀b o,s.heap.get? b=some o→H.get? b=some o:=fun b o e=>by rw[←hH];exact pushCells_keeps _ _ b o (Heap.get?_push_of_some _ e)
 have hC:H.get? s.heap.objs.size=some {cls:=.type "dict",data:=.dict #[]}:=by rw[←hH];exact pushCells_keeps _ _ _ _ (Heap.get?_push_size _ rfl)
 have fresh:s.heap.get? s.heap.objs.size=none:=get_size_none _;have hcs:∀{x:Str} {c:Addr},(x,c)∈cenv.cells→((x,NameKind.free)∈scope.names∧env.cells.lookup x=some c)∨((x,NameKind.cell)∈scope.names∧s.heap.objs.size<c∧H.IsCell c none):=by
  intro x c h;rw[e2,show s.heap.objs.size+1=(s.heap.push {cls:=.type "dict",data:=.dict #[]}).objs.size from(Heap.size_push ..).symm]at h;rcases cellsFrom_new _ _ _ h with h|⟨h1,h2,h3⟩
  ·exact .inl (hclo h)
  ·rw[Heap.size_push]at h2;exact .inr ⟨h1,by exact h2,by rw[←hH];exact h3⟩
 have hlow:∀{x:Str} {c:Addr},env.cells.lookup x=some c→∃o,s.heap.get? c=some o:=fun h=>S.cthere (mem_of_lookup h);have cn:(cenv.cells.map (·.1)).Nodup:=by
  rw[e2];refine cellsFrom_nodup' _ _ _ C.nd (clo_nodup env _ [] C.nd List.nodup_nil (fun _ _ h=>nomatch h)) fun x hx hm=>?_;refine x1_1 (List.mem_map.mp hm) fun p hp eq2=>?_;subst eq2;have h1:=lookup_of_mem C.nd hx;rw[lookup_of_mem C.nd (hclo hp).1]at h1;cases h1
 have ap:cenv.cells.Pairwise fun x y=>x.2≠y.2:=by
  rw[e2];refine cellsFrom_apart _ _ _ (fun p hp=>?_) ?_
  ·obtain⟨o,ho⟩:=hlow (hclo hp).2;exact Nat.lt_succ_of_lt (Heap.lt_size ho)
  ·have hnd:=clo_nodup env scope.names [] C.nd List.nodup_nil (fun _ _ h=>nomatch h);have hmem:∀p∈clo env scope.names [],p∈env.cells:=fun p hp=>mem_of_lookup (hclo hp).2;generalize clo env scope.names []=l at hnd hmem
   induction l with
   |nil=>exact .nil
   |cons p l ih=>
    rw[List.map_cons,List.nodup_cons]at hnd;refine List.pairwise_cons.mpr ⟨fun q hq e=>?_,ih hnd.2 fun q hq=>hmem q (.tail _ hq)⟩;have h1:=hmem p (.head _);have h2:=hmem q (.tail _ hq);obtain⟨a,b⟩:=p;obtain⟨c,d⟩:=q;dsimp only at e;subst e;have:=name_of_addr S.eo.ap h1 h2;subst this;exact hnd.1 (List.mem_map_of_mem (f:=(·.1)) hq)
 have hk:∀x c,(x,c)∈cenv.cells→cenv.kindOf x=some .cell:=by
  intro x c h;rw[e3];dsimp only;rcases hcs h with⟨h1,h2⟩|⟨h1,_⟩
  ·rw[lookup_of_mem C.nd h1];have:env.kindOf x=some .cell:=by
    refine x1_1 (List.mem_map.mp (C.allfree x h1)) fun p hp eq2=>?_;subst eq2;exact(hfr p hp).2
   rw[Option.map_some,S.eo.fn,this];rfl
  ·rw[lookup_of_mem C.nd h1];rfl
 have hvn:(los.map (fun x=>(x,(none:Option Value)))++fr.map fun p=>(p.1,some p.2)).map (·.1)=los++fr.map (·.1):=by
  rw[List.map_append,List.map_map,List.map_map];congr 1;exact List.map_id los
 have eo:EnvOk cenv (los.map (fun x=>(x,none))++fr.map fun p=>(p.1,some p.2)):=by
  refine⟨e6,by rw[e4];exact S.eo.gl,by rw[e5];exact S.eo.bi,ap,cn,fun x c h=>by rw[hk x c h];simp,fun x c h e=>?_,?_,by rw[hvn];exact C.apart⟩
  ·rw[e1]at e;rcases hcs h with⟨_,h2⟩|⟨_,h2,_⟩
   ·obtain⟨o,ho⟩:=hlow h2;rw[e,fresh]at ho;cases ho
   ·exact Nat.lt_irrefl _ (e▸h2)
  ·rw[hvn];intro x hx;rcases List.mem_append.mp hx with hx|hx
   ·refine⟨(C.loc x hx).1,?_⟩;rcases(C.loc x hx).2 with h|⟨h,_⟩
    ·left;rw[e3];dsimp only;rw[h];rfl
    ·right;refine⟨by rw[e3];dsimp only;rw[h];rfl,?_⟩;obtain⟨c,hc⟩:=cellsFrom_has scope.names (s.heap.objs.size+1) (clo env scope.names []) (.inl (mem_of_lookup h));exact⟨c,lookup_of_mem cn (by rw[e2];exact hc)⟩
   ·refine⟨(C.free x hx).1,.inr ?_⟩;have h:=(C.free x hx).2;obtain⟨c,hc⟩:=hcell x (mem_of_lookup h);obtain⟨c',hc'⟩:=cellsFrom_has scope.names (s.heap.objs.size+1) (clo env scope.names []) (.inr ⟨c,clo_has env scope.names [] (.inl ⟨mem_of_lookup h,hc⟩)⟩);rw[←e2]at hc';exact⟨hk x c' hc',c',lookup_of_mem cn hc'⟩
 have hln:∀p∈led,p.1≠s.heap.objs.size:=fun p hp=>Nat.ne_of_lt (Heap.lt_size (S.ld p hp).1);have hnew:∀x c,owf owns x=true→(x,c)∈cenv.cells→s.heap.objs.size<c:=by
  intro x c ho h;rcases hcs h with⟨h1,h2⟩|⟨_,h2,_⟩
  ·have:=C.ownc x (by simpa[owf]using ho);rw[lookup_of_mem C.nd h1]at this;cases this
  ·exact h2
 have hlow':∀b o,s.heap.get? b=some o→b≠cenv.locals∧∀x,owf owns x=true→(x,b)∉cenv.cells:=by
  intro b o e;have h1:=Heap.lt_size e;refine⟨by rw[e1];exact Nat.ne_of_lt h1,fun x hx hm=>?_⟩;exact Nat.lt_irrefl _ (Nat.lt_trans h1 (hnew x b hx hm))
 have S1:St K r (owf owns) (frz (owf owns) cenv led H) cenv (los.map (fun x=>(x,none))++fr.map fun p=>(p.1,some p.2)) led {s with heap:=H}:=by
  have hG1:∀a o,s.heap.get? a=some o→a∉led.map (·.1)→frz (owf owns) cenv led H a=some o:=fun a o e hn=>frz_at (keep a o e) (hlow' a o e).1 (hlow' a o e).2 hn;refine x2_0 S.same fun h0 t0 hs0=>?_;refine⟨⟨H,t0,by rw[hs0]⟩,fun a o e=>hG1 a o (S.atK e) fun hm=>?_,fun a o e=>?_,eo,⟨⟨fun _=>none,⟨_,_,_,by rw[e1];exact hC,rfl,(fun _ hm=>by simp at hm),fun x=>?_⟩,fun x hx=>?_⟩,fun x c hc=>?_⟩,?_,fun x c hc=>?_,fun p hp=>⟨keep _ _ (S.ld p hp).1,?_,(hlow' _ _ (S.ld p hp).1).1,fun x c hc e=>?_⟩,S.nd⟩
  ·refine x1_1 (List.mem_map.mp hm) fun p hp eq2=>?_;subst eq2;have:=(S.ld p hp).2.1;rw[S.base _ _ e]at this;cases this
  ·unfold frz at e
   split at e
   ·cases e
   ·exact e
  ·rfl
  ·have hxf:x∉fr.map (·.1):=fun hm=>by
    refine x1_1 (List.mem_map.mp hm) fun p hp eq2=>?_;subst eq2;rw[e3]at hx;dsimp only at hx;rw[(C.free p.1 hm).2,Option.map_some,S.eo.fn,(hfr p hp).2]at hx;cases hx
   rw[lk_append]
   split
   ·exact lk_nones.symm
   ·refine(lk_none ?_).symm;rw[List.map_map];exact hxf
  ·have hm:=mem_of_lookup hc;rcases hcs hm with⟨h1,h2⟩|⟨h1,_,h3⟩
   ·refine x1_1 (List.mem_map.mp (C.allfree x h1)) fun p hp eq2=>?_;subst eq2;have hv:=lk_mem S.eo.nd (hfr p hp).1;have:lk (los.map (fun x=>(x,none))++fr.map fun p=>(p.1,some p.2)) p.1=some p.2:=lk_mem eo.nd (List.mem_append_right _ (List.mem_map_of_mem (f:=fun p:Str×Value=>(p.1,some p.2)) hp));rw[this,←hv];exact(S.fm.cel _ c h2).keeps keep
   ·have:lk (los.map (fun x=>(x,none))++fr.map fun p=>(p.1,some p.2)) x=none:=lk_mem eo.nd (List.mem_append_left _ (List.mem_map_of_mem (f:=fun x:Str=>(x,(none:Option Value))) (C.allcell x h1).2));rw[this];exact h3
  ·unfold frz;rw[if_pos (.inl rfl)]
  ·rcases hcs hc with⟨h1,h2⟩|⟨h1,_,h3⟩
   ·right;refine⟨?_,?_⟩
    ·cases ho:owf owns x with
     |false=>rfl
     |true=>
      have:=C.ownc x (by simpa[owf]using ho);rw[lookup_of_mem C.nd h1]at this;cases this
    ·obtain⟨o,ho⟩:=hlow h2;exact⟨o,hG1 c o ho fun hm=>by
      refine x1_1 (List.mem_map.mp hm) fun p hp e=>?_;exact(S.ld p hp).2.2.2 x c (mem_of_lookup h2) e⟩
   ·have ho:owf owns x=true:=by simpa[owf]using(C.allcell x h1).1
    left;refine⟨ho,?_⟩;unfold frz;rw[if_pos (.inr (.inl ⟨x,ho,hc⟩))]
  ·unfold frz;rw[if_pos (.inr (.inr (List.mem_map_of_mem (f:=(·.1)) hp)))]
  ·rcases hcs hc with⟨_,h2⟩|⟨_,h2,_⟩
   ·exact(S.ld p hp).2.2.2 x c (mem_of_lookup h2) e
   ·have h3:=Heap.lt_size (S.ld p hp).1;rw[e]at h3;exact Nat.lt_irrefl _ (Nat.lt_trans h3 h2)
 have hG1:∀a o,s.heap.get? a=some o→a∉led.map (·.1)→frz (owf owns) cenv led H a=some o:=fun a o e hn=>frz_at (keep a o e) (hlow' a o e).1 (hlow' a o e).2 hn;have hGG:GLe G (frz (owf owns) cenv led H):=fun a o e=>hG1 a o (S.sub a o e) fun hm=>by
  refine x1_1 (List.mem_map.mp hm) fun p hp eq2=>?_;subst eq2;rw[(S.ld p hp).2.1]at e;cases e
 refine k cenv₀ cenv _ _ hce e3 hGG S1 fun G₂ cvs₂ led₂ s₂ hg hn S2=>?_;have hfree:∀a,a∈led.map (·.1)→G a=none∧a≠env.locals∧∀x c,(x,c)∈env.cells→a≠c:=by
  intro a ha;refine x1_1 (List.mem_map.mp ha) fun p hp eq2=>?_;subst eq2;exact(S.ld p hp).2
 obtain⟨ml,nq17,hml⟩:=S.fm.loc;obtain⟨ol,es,ep,hol,hod,hos,hof⟩:=nq17;have hGl:G₂ env.locals=some ol:=hg _ _ (hG1 _ _ hol fun hm=>(hfree _ hm).2.1 rfl);have hGc:∀x c,(x,c)∈env.cells→∃o,s.heap.get? c=some o∧G₂ c=some o∧o.data=.cell (lk vs x):=by
  intro x c hc;refine x1_1 (S.cell hc) fun o ho hd=>?_;exact⟨o,ho,hg _ _ (hG1 _ _ ho fun hm=>(hfree _ hm).2.2 x c hc rfl),hd⟩
 have hCn:G cenv.locals=none:=by
  cases q:G cenv.locals with
  |none=>rfl
  |some o=>have:=S.sub _ o q;rw[e1,fresh]at this;cases this
 let G₃:GH:=fun a=>open Classical in if a=env.locals∨(∃x,own x=true∧(x,a)∈env.cells)∨a=cenv.locals then none else G₂ a
 have hG3:∀a o,G₂ a=some o→a≠env.locals→(∀x,own x=true→(x,a)∉env.cells)→a≠cenv.locals→G₃ a=some o:=by
  intro a o e h1 h2 h3;show(open Classical in if a=env.locals∨(∃x,own x=true∧(x,a)∈env.cells)∨a=cenv.locals then none else G₂ a)=_;rw[if_neg]
  ·exact e
  ·rintro (h|⟨x,h4,h5⟩|h)
   ·exact h1 h
   ·exact h2 x h4 h5
   ·exact h3 h
 have hG3':∀a,(a=env.locals∨(∃x,own x=true∧(x,a)∈env.cells)∨a=cenv.locals)→G₃ a=none:=by
  intro a h;show(open Classical in if a=env.locals∨(∃x,own x=true∧(x,a)∈env.cells)∨a=cenv.locals then none else G₂ a)=_;rw[if_pos h]
 have hG3s:∀a o,G₃ a=some o→G₂ a=some o:=by
  intro a o e;have e':(open Classical in if a=env.locals∨(∃x,own x=true∧(x,a)∈env.cells)∨a=cenv.locals then none else G₂ a)=some o:=e
  split at e'
  ·cases e'
  ·exact e'
 have hG3n:∀a,G₂ a=none→G₃ a=none:=by
  intro a e;cases q:G₃ a with
  |none=>rfl
  |some o=>rw[hG3s a o q]at e;cases e
 have hle:GLe G G₃:=by
  intro a o e;refine hG3 a o (hg _ _ (hGG a o e)) (fun z=>?_) (fun x h1 h2=>?_) fun z=>?_
  ·rw[z,S.gl]at e;cases e
  ·rcases S.gc x a h2 with⟨_,h⟩|⟨h,_⟩
   ·rw[h]at e;cases e
   ·rw[h1]at h;cases h
  ·rw[z,hCn]at e;cases e
 refine x1_1 S2.fm.loc fun mc hmc _=>?_;obtain⟨oC,hoC⟩:=S2.there;have hlo:env.locals≠cenv.locals:=by
  intro e;rw[e,e1,fresh]at hol;cases hol
 refine⟨G₃,oC,hle,fun vs ds h=>h.via fun a o its n e hd=>hG3 a o e (fun z=>?_) (fun x _ h2=>?_) fun z=>?_,⟨S2.same,S.base.trans hle,fun a o e=>S2.sub a o (hG3s a o e),S.eo,⟨⟨ml,⟨ol,es,ep,S2.sub _ _ hGl,hod,hos,hof⟩,hml⟩,fun x c hc=>?_⟩,hG3' _ (.inl rfl),fun x c hc=>?_,?_,?_⟩,⟨mc,hmc⟩⟩
 ·rw[z,hGl]at e;cases e;rw[hod]at hd;cases hd
 ·refine x1_2 (hGc x a h2) fun o' _ h3 h4=>?_;rw[h3]at e;cases e;rw[h4]at hd;cases hd
 ·rw[z,S2.gl]at e;cases e
 ·refine x1_2 (hGc x c (mem_of_lookup hc)) fun o' _ h3 h4=>?_;exact⟨o',S2.sub _ _ h3,h4⟩
 ·rcases S.gc x c hc with⟨h1,_⟩|⟨h1,o,ho⟩
  ·exact .inl ⟨h1,hG3' _ (.inr (.inl ⟨x,h1,hc⟩))⟩
  ·exact .inr ⟨h1,o,hle c o ho⟩
 ·intro p hp;rcases List.mem_cons.mp hp with rfl|hp
  ·refine⟨hoC,hG3' _ (.inr (.inr rfl)),Ne.symm hlo,fun x c hc e=>?_⟩;refine x1_1 (hGc x c hc) fun o' h3 _=>?_;have e':cenv.locals=c:=e;rw[←e',e1,fresh]at h3;cases h3
  ·have hp1:p.1∈led.map (·.1):=hn p hp;exact⟨(S2.ld p hp).1,hG3n _ (S2.ld p hp).2.1,(hfree _ hp1).2⟩
 ·rw[List.map_cons,List.nodup_cons];refine⟨fun hm=>?_,S2.nd⟩;refine x1_1 (List.mem_map.mp hm) fun p hp e=>?_;exact(S2.ld p hp).2.2.1 e
end
section
variable{prog:Program}{w:World}{A:Around}{E:Value→Shared→Prop}{K:GH}{r:Shared}{own:Str→Bool}{G:GH}{env:Env}{vs vs':Vs}{led led':List (Addr×Obj)}{s:Shared}
def CompRest(prog:Program)(w:World)(A:Around)(E:Value→Shared→Prop)(env:Env)(elt target iter:Expr)(ifs:List Expr)(scope:Scope)(pos:Pos)(use:Option (Value→Sem Unit))(Q:Value→Shared→Prop)(it:Value)(s:Shared):Prop:=
 wpAny (model prog w) A (newList []) (fun acc s₃=>wpAny (model prog w) A (newFunctionEnv scope env.globals (clo env scope.names []) [] env.qual none .none (some env)) (fun cenv s₄=>
  codeAny (model prog w) A (.compStart (.ListComp elt [⟨target,iter,ifs,0⟩] scope pos) 0 it acc {cenv with scope:=relabel scope env}) (compPost (model prog w) A E use Q acc cenv.locals) s₄) E s₃) E s
structure CEnv(scope:Scope)(env cenv:Env)(los owns:List Str)(fr:List (Str×Value)):Prop where
 st:∀x∈los,owf owns x=true∨cenv.kindOf x=some .local
 gl:∀x,scope.names.lookup x=some .globalImplicit→cenv.kindOf x=some .globalImplicit
 cl:∀x,(x∈fr.map (·.1)∨(x∈los∧x∈owns))→cenv.kindOf x=some .cell
theorem Up.mid{a:Addr}{o o':Obj}{l:List (Addr×Obj)}:∀{os:List (Addr×Obj)},Up a o o' (os++(a,o)::l) (os++(a,o')::l)
 |[]=>.here
 |_::os=>.there (Up.mid (os:=os))
theorem append_led{M:Addr}{items:List Value}{n:Nat}{v:Value}{os:List (Addr×Obj)}{Q:Value→Shared→Prop}(S:St K r own G env vs (os++(M,listOf items.toArray n)::led) s)(hz:items.length≤sizeLine)
 (h:∀n' s',St K r own G env vs (os++(M,listOf (items++[v]).toArray n')::led) s'→Q .none s'):wpAny (model prog w) A (call (.builtin "list.append") [.ref M,v]) Q E s:=by
 have hm:(M,listOf items.toArray n)∈os++(M,listOf items.toArray n)::led:=List.mem_append_right _ (.head _);refine append_at (S.get hm) (fun h' hs hg=>?_) (by simpa using hz);rw[List.push_toArray]at hg;exact h (n+1) _ (S.up Up.mid hs hg)
theorem St.perm(S:St K r own G env vs led s)(p:led.Perm led'):St K r own G env vs led' s:=
 ⟨S.same,S.base,S.sub,S.eo,S.fm,S.gl,S.gc,fun q hq=>S.ld q (p.mem_iff.mpr hq),(p.map (·.1)).nodup S.nd⟩
theorem zip_nones:∀los:List Str,los.zip (los.map fun _=>(none:Option Value))=los.map fun x=>(x,none)
 |[]=>rfl
 |x::l=>by simp[zip_nones l]
inductive CompY(K:GH)(r:Shared)(own:Str→Bool)(G':GH)(cenv:Env)(los:List Str)(fr:List (Str×Value))(ledc:List (Addr×Obj))(d:D)(y:Value)(s₄:Shared):Prop
 |mk (G₄:GH) (lv₄:List (Option Value)) (g:GLe G' G₄) (hl:lv₄.length=los.length) (S:St K r own G₄ cenv (los.zip lv₄++fr.map fun p=>(p.1,some p.2)) ledc s₄) (hi:Is G₄ y d)
inductive CompN(K:GH)(r:Shared)(own:Str→Bool)(G':GH)(cenv:Env)(los:List Str)(fr:List (Str×Value))(ledc:List (Addr×Obj))(s₄:Shared):Prop
 |mk (G₄:GH) (lv₄:List (Option Value)) (g:GLe G' G₄) (hl:lv₄.length=los.length) (S:St K r own G₄ cenv (los.zip lv₄++fr.map fun p=>(p.1,some p.2)) ledc s₄)
def YOk(K:GH)(r:Shared)(own:Str→Bool)(cenv:Env)(los:List Str)(fr:List (Str×Value))(ledc:List (Addr×Obj))(G':GH)(Y:D→Value→Shared→Prop):Prop:=
 ∀d y s₄ G₄ lv₄,GLe G' G₄→lv₄.length=los.length→St K r own G₄ cenv (los.zip lv₄++fr.map fun p=>(p.1,some p.2)) ledc s₄→Is G₄ y d→Y d y s₄
def NOk(K:GH)(r:Shared)(own:Str→Bool)(cenv:Env)(los:List Str)(fr:List (Str×Value))(ledc:List (Addr×Obj))(G':GH)(N:Shared→Prop):Prop:=
 ∀s₄ G₄ lv₄,GLe G' G₄→lv₄.length=los.length→St K r own G₄ cenv (los.zip lv₄++fr.map fun p=>(p.1,some p.2)) ledc s₄→N s₄
def tu1(M:Model)(A:Around)(E:Value→Shared→Prop)(cenv:Env)(elt:Expr)(o:Option D)(Y:D→Value→Shared→Prop)(N:Shared→Prop):Bool→Shared→Prop:=fun ok s=>
 match o with
 |some d=>ok=true∧wpAny M A (eval elt cenv) (Y d) E s
 |none=>ok=false∧N s
def tuq(M:Model)(A:Around)(E:Value→Shared→Prop)(cenv:Env)(ifs:List Expr)(elt:Expr)(o:Option D)(Y:D→Value→Shared→Prop)(N:Shared→Prop):Unit→Shared→Prop:=fun _=>
 wpAny M A (forIn ifs true fun c r=>if r=true then do let ok←isTrue c cenv (eval c cenv);pure (ForInStep.yield ok)else pure (ForInStep.yield r)) (tu1 M A E cenv elt o Y N) E
section
variable{cenv:Env}{elt c:Expr}{o:Option D}{d:D}{Y:D→Value→Shared→Prop}{N:Shared→Prop}{u:Unit}{b:Bool}
theorem tuq_nil(ho:o=some d)(k:wpAny (model prog w) A (eval elt cenv) (Y d) E s):tuq (model prog w) A E cenv [] elt o Y N u s:=by
 subst ho;exact wpAny_tests_nil ⟨rfl,k⟩
theorem tuq_one(k:wpAny (model prog w) A (isTrue c cenv (eval c cenv)) (tu1 (model prog w) A E cenv elt o Y N) E s):tuq (model prog w) A E cenv [c] elt o Y N u s:=wpAny_tests_one k
theorem tu1_y(ho:o=some d)(hb:b=true)(k:wpAny (model prog w) A (eval elt cenv) (Y d) E s):tu1 (model prog w) A E cenv elt o Y N b s:=by
 subst ho;exact⟨hb,k⟩
theorem tu1_n(ho:o=none)(hb:b=false)(k:N s):tu1 (model prog w) A E cenv elt o Y N b s:=by
 subst ho;exact⟨hb,k⟩
end
theorem fr_nil{α:Type}{P:α→Prop}:∀p∈([]:List α),P p:=fun _ h=>nomatch h
theorem fr_cons{α:Type}{P:α→Prop}{q:α}{l:List α}(h:P q)(t:∀p∈l,P p):∀p∈q::l,P p:=List.forall_mem_cons.mpr ⟨h,t⟩
theorem comp_go{elt target iter:Expr}{ifs:List Expr}{scope:Scope}{pos:Pos}{use:Option (Value→Sem Unit)}{Q:Value→Shared→Prop}{los owns:List Str}{fr:List (Str×Value)}
 {it:Value} {n:Nat} {P:Nat→List Value→Prop} {O:Nat→List (Addr×Obj)→Prop} {os:List (Addr×Obj)}
 (C:CompSc scope los owns (fr.map (·.1))) (hfr:∀p∈fr,(p.1,some p.2)∈vs∧env.kindOf p.1=some .cell)
 (W:∀G' cenv,GLe G G'→Src prog w A G' cenv target it n P O)
 (hself:∀s (Q:Value→Shared→Prop) E,(∀p∈os,s.heap.get? p.1=some p.2)→Q it s→wpAny (model prog w) A (pyIter it) Q E s)
 (S:St K r own G env vs (os++led) s) (h0:O 0 os) (hz:n≤1000) (out:Nat→Option D)
 (turn:∀i ws G' cenv lv ledc s E' Y N,i<n→P i ws→GLe G G'→(∀p∈led,p∈ledc)→CEnv scope env cenv los owns fr→lv.length=los.length→YOk K r (owf owns) cenv los fr ledc G' Y→NOk K r (owf owns) cenv los fr ledc G' N→St K r (owf owns) G' cenv (los.zip lv++fr.map fun p=>(p.1,some p.2)) ledc s→
  wpAny (model prog w) A (putOf target cenv ws) (tuq (model prog w) A E' cenv ifs elt (out i) Y N) E' s)
 (fin:∀G' ys n' M C oC s',GLe G G'→IsAll G' ys ((List.range n).filterMap out)→St K r own G' env vs ((C,oC)::(M,listOf ys.toArray n')::led) s'→(∃m,s'.heap.Ns C m)→compPost (model prog w) A E use Q (.ref M) C (.ok .next) s'):
 CompRest prog w A E env elt target iter ifs scope pos use Q it s:=by
 unfold CompRest;refine wpAny_newList (items:=[]) ?_ (by decide);generalize hM:s.heap.objs.size=M;have S1:St K r own G env vs (os++(M,{cls:=.type "list",data:=.seq ([]:List Value).toArray 0})::led) {s with heap:=s.heap.push {cls:=.type "list",data:=.seq ([]:List Value).toArray}}:=by
  have:=S.push {cls:=.type "list",data:=.seq ([]:List Value).toArray 0} s.toks;rw[hM]at this;exact this.perm List.perm_middle.symm
 generalize ({s with heap:=_}:Shared)=s₁ at S1⊢;refine compIn C hfr S1 fun cenv₀ cenv s₂ G₁ hce hkd hG1 S2 back=>?_;have hC:cenv₀.locals=cenv.locals:=by rw[hce]
 rw[←hce,hC];have CE:CEnv scope env cenv los owns fr:=by
  refine⟨fun x hx=>?_,fun x hx=>?_,fun x hx=>?_⟩
  ·rcases(C.loc x hx).2 with h|⟨_,h⟩
   ·right;rw[hkd];dsimp only;rw[h];rfl
   ·left;simpa[owf]using h
  ·rw[hkd];dsimp only;rw[hx];rfl
  ·rw[hkd];dsimp only;rcases hx with hx|⟨_,hx⟩
   ·refine x1_1 (List.mem_map.mp hx) fun p hp eq2=>?_;subst eq2;rw[(C.free _ hx).2,Option.map_some,S.eo.fn,(hfr p hp).2];rfl
   ·rw[C.ownc x hx];rfl
 have hz':(1000:Nat)<sizeLine:=by decide
 have loop:∀s,(∃G' lv,GLe G₁ G'∧lv.length=los.length∧St K r (owf owns) G' cenv (los.zip lv++fr.map fun p=>(p.1,some p.2)) (os++(M,{cls:=.type "list",data:=.seq ([]:List Value).toArray 0})::led) s)→
  codeAny (model prog w) A (.compLoop (.ListComp elt [⟨target,iter,ifs,0⟩] scope pos) 0 it (.ref M) cenv) (compPost (model prog w) A E use Q (.ref M) cenv.locals) s:=by
  intro s nq18;obtain⟨G',lv,hg,hl,S⟩:=nq18;refine compLoop_go (fun k s=>∃i os' ys m G' lv,i≤n∧k=n-i∧O i os'∧os'.map (·.1)=os.map (·.1)∧GLe G₁ G'∧ys.length≤i∧IsAll G' ys ((List.range i).filterMap out)∧lv.length=los.length∧
   St K r (owf owns) G' cenv (los.zip lv++fr.map fun p=>(p.1,some p.2)) (os'++(M,{cls:=.type "list",data:=.seq ys.toArray m})::led) s) ?_ n ⟨0,os,[],0,G',lv,Nat.zero_le _,rfl,h0,rfl,hg,Nat.le_refl _,.nil,hl,S⟩
  intro k s nq19;obtain⟨i,os',ys,m,G',lv,hi,rfl,hO,hos,hg,hys,hall,hl,S⟩:=nq19;by_cases hlt:i<n
  ·refine wpAny_mono ((W G' cenv (hG1.trans hg)).item i s os' ?q _ hlt S.sub S.parts.1 S.parts.2 hO fun ws os'' h' tk hP hO'' hn ho' hk=>?go) (fun r s₁ h=>?out) fun _ _ x=>x
   case out=>
    obtain⟨v,e,h⟩:=h;subst e;exact h
   have S':=S.turn (t:=tk) hn ho' hk;refine wpAny_mono (turn i ws G' cenv lv _ _ _ (CompY K r (owf owns) G' cenv los fr _) (CompN K r (owf owns) G' cenv los fr _) hlt hP (hG1.trans hg) (fun p hp=>List.mem_append_right _ (.tail _ hp)) CE hl
    (fun _ _ _ G₄ lv₄ g l S i=>⟨G₄,lv₄,g,l,S,i⟩) (fun _ G₄ lv₄ g l S=>⟨G₄,lv₄,g,l,S⟩) S') (fun _ s₂ h₂=>wpAny_mono h₂ (fun ok s₃ h₃=>?_) fun _ _ x=>x) fun _ _ x=>x
   unfold tu1 at h₃;have hrange:(List.range (i+1)).filterMap out=(List.range i).filterMap out++(out i).toList:=by
    rw[List.range_succ,List.filterMap_append];congr 1
   cases ho:out i with
   |none=>
    rw[ho]at h₃ hrange;obtain⟨rfl,G₄,lv₄,g4,l4,S4⟩:=h₃;rw[if_neg (by simp)];refine⟨n-(i+1),J211 hlt,i+1,os'',ys,m,G₄,lv₄,hlt,rfl,hO'',hn.trans hos,hg.trans g4,J244 hys,?_,l4,S4⟩;rw[hrange];simpa using hall.mono g4
   |some d=>
    rw[ho]at h₃ hrange;obtain⟨rfl,h₃⟩:=h₃;rw[if_pos rfl];refine wpAny_mono h₃ (fun y s₄ h₃=>?_) fun _ _ x=>x;obtain⟨G₄,lv₄,g4,l4,S4,hy⟩:=h₃;refine append_led S4 (J523 hz' hlt hz hys) fun n' s₅ S5=>?_;refine⟨n-(i+1),J211 hlt,i+1,os'',ys++[y],n',G₄,lv₄,hlt,rfl,hO'',hn.trans hos,hg.trans g4,by simp;exact hys,?_,l4,S5⟩;rw[hrange];exact(hall.mono g4).append (.cons hy .nil)
  ·have:i=n:=J326 hi hlt;subst this;refine(W G' cenv (hG1.trans hg)).done s os' _ _ S.sub S.parts.1 S.parts.2 hO fun h' tk hk=>?_;have S':=S.cut (t:=tk) hk;obtain⟨G₃,oC,g3,hvia,S3,hm⟩:=back G' _ _ _ hg (fun p hp=>by
    rcases List.mem_cons.mp hp with e|hp
    ·subst e;simp
    ·rw[List.map_append];exact List.mem_append_right _ (.tail _ (List.mem_map_of_mem (f:=(·.1)) hp))) S'
   exact fin G₃ ys m M cenv.locals oC _ g3 (hvia _ _ hall) S3 hm
 have st:∃G' lv,GLe G₁ G'∧lv.length=los.length∧St K r (owf owns) G' cenv (los.zip lv++fr.map fun p=>(p.1,some p.2)) (os++(M,{cls:=.type "list",data:=.seq ([]:List Value).toArray 0})::led) s₂:=by
  refine⟨G₁,los.map fun _=>none,GLe.refl _,by simp,?_⟩;rw[zip_nones];exact S2
 exact codeAny_compStart_list (loop _ st) (hself _ _ _ (fun p hp=>(S2.parts.1 p hp).1) (loop _ st))
theorem has_cell{scope:Scope}{los owns:List Str}{fr:List (Str×Value)}(C:CompSc scope los owns (fr.map (·.1)))(hfr:∀p∈fr,(p.1,some p.2)∈vs∧env.kindOf p.1=some .cell)(S:St K r own G env vs led s):
 ∀x,(x,NameKind.free)∈scope.names→∃c,env.cells.lookup x=some c:=by
 intro x hx;have:=C.allfree x hx;refine x1_1 (List.mem_map.mp this) fun p hp eq2=>?_;subst eq2;obtain⟨h1,h2⟩:=hfr p hp;rcases(S.eo.kd p.1 (List.mem_map_of_mem (f:=(·.1)) h1)).2 with h|⟨_,h⟩
 ·rw[h2]at h;cases h
 ·exact h
theorem names_local{scope:Scope}(nd:(scope.names.map (·.1)).Nodup):∀x∈scope.names,x.2=.local→scope.names.lookup x.1=some .local:=by
 intro nq20;obtain⟨x,k⟩:=nq20;intro hx nq21;subst nq21;exact lookup_of_mem nd hx
theorem lcomp{elt target iter:Expr}{ifs:List Expr}{scope:Scope}{pos:Pos}{Q:Value→Shared→Prop}{los owns:List Str}{fr:List (Str×Value)}(S:St K r own G env vs led s)(C:CompSc scope los owns (fr.map (·.1)))
 (hfr:∀p∈fr,(p.1,some p.2)∈vs∧env.kindOf p.1=some .cell)
 (h:wpAny (model prog w) A (eval iter env) (fun x s₁=>wpAny (model prog w) A (pyIter x) (fun it s₂=>CompRest prog w A E env elt target iter ifs scope pos none Q it s₂) E s₁) E s)
 (hs:∀x,foldedSetIterable iter env x=pure x:=by intro _;rfl):
 wpAny (model prog w) A (eval (.ListComp elt [⟨target,iter,ifs,0⟩] scope pos) env) Q E s:=by
 rw[eval_ListComp];exact wpAny_comprehension_free (use:=none) rfl hs (closureFor_eq (has_cell C hfr S)) C.kind (names_local C.nd) h
theorem acomp{elt target iter:Expr}{ifs:List Expr}{scope:Scope}{pos:Pos}{y:Str}{py spos:Pos}{Q:Flow→Shared→Prop}{los owns:List Str}{fr:List (Str×Value)}(S:St K r own G env vs led s)(C:CompSc scope los owns (fr.map (·.1)))
 (hfr:∀p∈fr,(p.1,some p.2)∈vs∧env.kindOf p.1=some .cell)
 (hsw:swapsWith (.ListComp elt [⟨target,iter,ifs,0⟩] scope pos) (some (.Name y py)) spos.line env=pure true)
 (h:wpAny (model prog w) A (eval iter env) (fun x s₁=>wpAny (model prog w) A (pyIter x) (fun it s₂=>CompRest prog w A E env elt target iter ifs scope pos (some (assign (.Name y py) env)) (fun _ s'=>Q .next s') it s₂) E s₁) E s)
 (hs:∀x,foldedSetIterable iter env x=pure x:=by intro _;rfl):
 wpAny (model prog w) A (exec (.Assign [.Name y py] (.ListComp elt [⟨target,iter,ifs,0⟩] scope pos) spos) env) Q E s:=by
 rw[exec_Assign_Name_used _ _ _ _ hsw];refine wpAny_bind (wpAny_standAt (wpAny_bind ?_));show wpAny _ A (do let _←comprehension (.ListComp elt [⟨target,iter,ifs,0⟩] scope pos) scope env _ (newList []) false (eval iter env) (some (assign (.Name y py) env))) _ _ s;refine wpAny_bind (wpAny_mono (wpAny_comprehension_free (use:=some (assign (.Name y py) env)) (Q:=fun _ s'=>Q .next s') rfl hs (closureFor_eq (has_cell C hfr S)) C.kind (names_local C.nd) h) (fun _ s' hq=>wpAny_pure (wpAny_pure hq)) fun _ _ e=>e)
theorem fin_none{Q:Value→Shared→Prop}{C M:Addr}{oC o:Obj}(S:St K r own G env vs ((C,oC)::(M,o)::led) s)(hm:∃m,s.heap.Ns C m)(h:∀s',St K r own G env vs ((M,o)::led) s'→Q (.ref M) s'):
 compPost (model prog w) A E none Q (.ref M) C (.ok .next) s:=by
 obtain⟨m,hm⟩:=hm;exact⟨m,hm,fun h' hs=>h _ (S.leave (t:=s.toks) fun b ob hb e=>(hs.2 b hb).trans e)⟩
theorem fin_use{Q:Value→Shared→Prop}{C M:Addr}{oC o:Obj}{y:Str}{py:Pos}(S:St K r own G env vs ((C,oC)::(M,o)::led) s)(hm:∃m,s.heap.Ns C m)(U:Pv y (some (.ref M)) vs vs')(ho:own y=true∨env.kindOf y=some .local)
 (h:∀s',St K r own G env vs' ((M,o)::led) s'→Q .none s'):
 compPost (model prog w) A E (some (assign (.Name y py) env)) Q (.ref M) C (.ok .next) s:=by
 refine x4_1 hm fun m oo es ep hoo q=>?_;clear hm;show wpAny _ _ (assign (.Name y py) env (.ref M)) _ _ _;refine wpAny_assign_Name (S.store U ho fun s' S'=>⟨m,?_,fun h' hs=>h _ (S'.leave (t:=s'.toks) fun b ob hb e=>(hs.2 b hb).trans e)⟩);have h1:=S.get (.head _);rw[hoo]at h1;cases h1;exact⟨_,es,ep,S'.get (.head _),q⟩
end
end
local macro_rules | `(tactic| walk_at "pv") => `(tactic| repeat (first | with_reducible exact Pv.here | with_reducible apply Pv.there))
section
open PySem PySem.W PySem.Calls PyProof.Rows PySem.SeqAt
section
variable{prog:Program}{w:World}{A:Around}{E:Value→Shared→Prop}{K:GH}{mg mb:Str→Option Value}{p0 p1 p2 p3:Value}{r:Shared}{own:Str→Bool}{G:GH}{env:Env}{vs vs':Vs}{led led':List (Addr×Obj)}{s:Shared}{Q:Value→Shared→Prop}
theorem mkS_append(a b:List Nat):mkS a++mkS b=mkS (a++b):=by
 show(⟨a.toArray++b.toArray⟩:Str)=_;simp[mkS]
theorem s_crlf:(Str.ofString "\r\n")=mkS [13,10]:=by decide+kernel
theorem s_nil:(Str.ofString "")=mkS []:=by decide+kernel
theorem s_dot:(Str.ofString ".")=mkS [46]:=by decide+kernel
theorem s_dots:(Str.ofString "..")=mkS [46,46]:=by decide+kernel
theorem s_cr:(Str.ofString "\r")=mkS [13]:=by decide+kernel
theorem s_lf:(Str.ofString "\n")=mkS [10]:=by decide+kernel
theorem add_str(S:St K r own G env vs led s){a b:List Nat}{t u:Tok}(hz:a.length+b.length≤100000)(h:∀t s',St K r own G env vs led s'→Q (.str (mkS (a++b)) t) s'):wpAny (model prog w) A (binaryOp .Add (.str (mkS a) t) (.str (mkS b) u)) Q E s:=by
 refine SB.add (fun t' k=>?_) ?_
 ·rw[mkS_append];exact h _ _ (S.tok _)
 ·exact Nat.le_trans hz (by decide)
theorem iadd_str(S:St K r own G env vs led s){a b:List Nat}{t u:Tok}(hz:a.length+b.length≤100000)(h:∀t s',St K r own G env vs led s'→Q (.str (mkS (a++b)) t) s'):wpAny (model prog w) A (inplaceOp .Add (.str (mkS a) t) (.str (mkS b) u)) Q E s:=by
 refine SB.iadd (fun t' k=>?_) ?_
 ·rw[mkS_append];exact h _ _ (S.tok _)
 ·exact Nat.le_trans hz (by decide)
theorem eq_str{a b:List Nat}{t u:Tok}(h:Q (.bool (decide (a=b))) s):wpAny (model prog w) A (compareOp .Eq (.str (mkS a) t) (.str (mkS b) u)) Q E s:=by
 refine PyProof.Rows.eq_str ?_;have:(mkS a==mkS b)=decide (a=b):=by
  by_cases hab:a=b
  ·subst hab;simp
  ·rw[decide_eq_false hab];refine beq_eq_false_iff_ne.mpr fun e=>hab ?_;have:=congrArg (fun x:Str=>x.cps.toList) e;simpa[mkS]using this
 rw[this];exact h
theorem unpack_led{T:Addr}{items:List Value}{n m:Nat}{env':Env}{elts:List Expr}{k:Nat}{pos:Pos}{Q:Unit→Shared→Prop}(S:St K r own G env vs ((T,tupOf items.toArray n)::led) s)(hA:A.handled=none)
 (h:∀s',St K r own G env vs led s'→wpAny (model prog w) A (assignInOrder ((assignEach elts env').map (·.2)) items) Q E s')
 (hm:(assignEach elts env').length=m:=by rfl) (hn:m=items.length:=by rfl) (hstar:(assignEach elts env').findIdx? (·.1)=none:=by rfl):
 wpAny (model prog w) A (assign (.Tuple elts k pos) env' (.ref T)) Q E s:=by
 have hT:s.heap.IsTuple T items.toArray:=⟨_,S.get (.head _),rfl,n,rfl⟩;refine wpAny_assign_Tuple hA hT (by rw[hm,hn];simp) hstar fun h' he=>?_;have:=h _ ((S.drop.keep (h':=h') (t:=s.toks) fun b o e=>he b o (Nat.ne_of_lt (Heap.lt_size e)) e));simpa using this
theorem unpack_G{T:Addr}{items:List Value}{n m:Nat}{env':Env}{elts:List Expr}{k:Nat}{pos:Pos}{Q:Unit→Shared→Prop}(S:St K r own G env vs led s)(hT:G T=some (tupOf items.toArray n))(hA:A.handled=none)
 (h:∀s',St K r own G env vs led s'→wpAny (model prog w) A (assignInOrder ((assignEach elts env').map (·.2)) items) Q E s')
 (hm:(assignEach elts env').length=m:=by rfl) (hn:m=items.length:=by rfl) (hstar:(assignEach elts env').findIdx? (·.1)=none:=by rfl):
 wpAny (model prog w) A (assign (.Tuple elts k pos) env' (.ref T)) Q E s:=by
 have hT:s.heap.IsTuple T items.toArray:=⟨_,S.at hT,rfl,n,rfl⟩;refine wpAny_assign_Tuple hA hT (by rw[hm,hn];simp) hstar fun h' he=>?_;have:=h _ ((S.keep (h':=h') (t:=s.toks) fun b o e=>he b o (Nat.ne_of_lt (Heap.lt_size e)) e));simpa using this
inductive MadeK(K:GH)(r:Shared)(own:Str→Bool)(env:Env)(f:Array Value→Nat→Obj)(Q:Value→Shared→Prop)(ws:List Value)(s₁:Shared):Prop
 |mk (led₁:List (Addr×Obj)) (G₁:GH) (vs₁:Vs) (S:St K r own G₁ env vs₁ led₁ s₁) (hz:ws.length<1000) (h:∀T s₂,St K r own G₁ env vs₁ ((T,f ws.toArray 0)::led₁) s₂→Q (.ref T) s₂)
theorem tupE(_S:St K r own G env vs led s){elts:List Expr}{k:Nat}{pos:Pos}(h:wpAny (model prog w) A (spliced (backTo pos (starEach elts env))) (MadeK K r own env tupOf Q) E s):
 wpAny (model prog w) A (eval (.Tuple elts k pos) env) Q E s:=
 wpAny_Tuple (wpAny_mono h (fun ws s₁ h=>by obtain⟨led₁,G₁,vs₁,S,hz,h⟩:=h;exact⟨Nat.le_trans (Nat.le_of_lt hz) (by decide),h _ _ (S.push _ s₁.toks)⟩) fun _ _ x=>x)
theorem lstE(_S:St K r own G env vs led s){elts:List Expr}{pos:Pos}(h:wpAny (model prog w) A (spliced (backTo pos (starEach elts env))) (MadeK K r own env listOf Q) E s):
 wpAny (model prog w) A (eval (.List elts pos) env) Q E s:=
 wpAny_List (wpAny_mono h (fun ws s₁ h=>by obtain⟨led₁,G₁,vs₁,S,hz,h⟩:=h;exact⟨Nat.le_trans (Nat.le_of_lt hz) (by decide),h _ _ (S.push _ s₁.toks)⟩) fun _ _ x=>x)
theorem str_it(S:St K r own G env vs led s){x:List Nat}{t:Tok}(hx:∀c∈x,c<128)(h:∀I s',St K r own G env vs ((I,{cls:=.type "str_ascii_iterator",data:=.fields #[.str (mkS x) t,.int 0 0]})::led) s'→Q (.ref I) s'):
 wpAny (model prog w) A (pyIter (.str (mkS x) t)) Q E s:=
 wpAny_pyIter_ascii (by simpa[mkS]using hx) (h _ _ (S.push _ s.toks))
end
noncomputable abbrev seV(x:List Nat)(tx:Tok)(out:List Nat)(to:Tok)(ahead:List Nat)(ta:Tok)(ts:Option Value):Vs:=[("block",some (.str (mkS x) tx)),("out",some (.str (mkS out) to)),("ahead",some (.str (mkS ahead) ta)),("sign",ts)]
noncomputable def piece(ahead:List Nat)(c:Nat):List Nat:=
 if c=13∨c=10 then(if ahead++[c]=[13,10]then[]else[13,10])else if c=46∧(ahead=[]∨ahead=[13]∨ahead=[10])then[46,46]else[c]
noncomputable def sentGo(ahead out:List Nat):List Nat→List Nat
 |[]=>out
 |c::r=>sentGo [c] (out++piece ahead c) r
noncomputable def sentL(x:List Nat):List Nat:=sentGo [] [] x
def Sg(x:List Nat):Prop:=∀c∈x,c=46∨c=13∨c=10∨c=97
theorem piece_len(a:List Nat)(c:Nat):(piece a c).length≤2:=by
 unfold piece
 split
 ·split<;>simp
 ·split<;>simp
theorem in_crlf{c:Nat}(h:c=46∨c=13∨c=10∨c=97):Txt.contains (mkS [13,10]) ⟨#[c]⟩=decide (c=13∨c=10):=by
 rcases h with rfl|rfl|rfl|rfl<;>decide+kernel
theorem sent_fn(pm:Value):FnOk (fdOf (topSt 22) "_law_sent" .none 228 pm) ["block"] ["out","ahead","sign"] (bodyOf (topSt 22)) where
 body:=rfl
 clo:=rfl
 gl:=rfl
 bi:=rfl
 fn:=rfl
 co:=rfl
 gen:=rfl
 bind:=by
  intro vals h;obtain⟨a,rfl⟩:=len1 h;rfl
 ndS:=show((scopeOf (topSt 22)).names.map (·.1)).Nodup by decide+kernel
 names:=names_ok (sc:=scopeOf (topSt 22)) (by decide+kernel)
 nd:=by decide+kernel
section
variable{prog:Program}{w:World}{K:GH}{mg mb:Str→Option Value}{p0 p1 p2 p3:Value}
theorem sent_ok{A:Around}(B:B1 K mg mb p0 p1 p2 p3)(hA:Rm 4 A){s:Shared}{x:List Nat}{tx:Tok}{R:Result→Shared→Prop}(hx:Sg x)(hl:x.length<100)
 (hK:∀a o,K a=some o→s.heap.get? a=some o)
 (k:∀h t tok,(∀b o,s.heap.get? b=some o→h.get? b=some o)→R (.ok (.ret (.str (mkS (sentL x)) tok))) {s with heap:=h,toks:=t}):
 codeAny (model prog w) A (.call (.ref 229) ⟨[.str (mkS x) tx],[]⟩) R s:=by
 refine enter (led:=[]) B.toTp B.f_law_sent (sent_fn p3) hA.room rfl (vs:=[("block",some (.str (mkS x) tx)),("out",none),("ahead",none),("sign",none)]) rfl hK (by simp) (by simp) fun env s' hkd hsc S=>?_;rw[but_nil]at S;have hA':=hA.deep env;refine xc (Assign_Tuple (tupE S (arg (c_str S fun t1 s₁ S=>arg (c_str S fun t2 s₂ S=>argE ⟨_,_,_,S,by simp,fun T s₃ S=>?_⟩)))) (hw:=by unfold swappedStores Env.blockKind;rw[hkd,hsc];kernel_rfl));refine unpack_led S hA'.hd fun s₄ S=>?_;refine put_cons (S.store (by walk_at"pv") (.inl rfl) fun s₄ S=>put_cons (S.store (by walk_at"pv") (.inl rfl) fun s₄ S=>put_nil ?_));refine xc (xfor ?_);walk_at"name";refine str_it S (fun c hc=>by rcases hx c hc with rfl|rfl|rfl|rfl<;>decide) fun I s₅ S=>?_;refine forN (fun G' _=>Itr.str (x:=mkS x) (t:=tx) hA'.hd I) (fun i G' vs' led'=>∀P:Prop,(∀out ahead to ta ts,led'=[]→vs'=seV x tx out to ahead ta ts→
  sentGo ahead out (x.drop i)=sentL x→out.length≤2*i→ahead.length≤1→P)→P) S ⟨rfl,by simp⟩ (fun _ k=>k [] [] t1 t2 none rfl (by unfold seV;rw[←s_nil]) rfl (by simp) (by simp)) ?_ ?_
 ·intro i v G' vs' led' o sa E' N hi hv hG hN hJ S;refine hJ _ fun out ahead to ta ts h1 h2 hgo hol hal=>?_;subst h1 h2;refine x2_1 hv fun c u hc eq3=>?_;clear hv;subst eq3;clear hJ;have hc':x[i]? =some c:=by simpa[mkS]using hc
  obtain⟨hlt,hce⟩:=List.getElem?_eq_some_iff.mp hc';have hcs:c=46∨c=13∨c=10∨c=97:=hx c (by rw[←hce];exact List.getElem_mem hlt);rw[List.drop_eq_getElem_cons hlt,hce,sentGo]at hgo;refine wpAny_assign_Name (S.store (by walk_at"pv") (.inl rfl) fun s₁ S=>?_);have hpl:=piece_len ahead c;refine seqN (fun s₂=>∃to',St K s yes G' env (seV x tx (out++piece ahead c) to' ahead ta (some (.str (mkS [c]) u))) [(I,o)] s₂) ?_ ?_
  ·intro M hM;refine xif (xcmp ?_);walk_at"name";refine c_str S fun t s₂ S=>?_;rw[s_crlf];refine SB.contains ?_;rw[in_crlf hcs];refine wpAny_truthy_bool ?_;by_cases hcr:c=13∨c=10
   ·refine if_t (by simpa using hcr) ?_;refine xc (wpAny_AugAssign_Name (S.load (by walk_at"mem") ?_));refine wpAny_IfExp (xcmp (xop ?_));walk_at"name";walk_at"name";refine add_str S (b:=[c]) (by simp;exact J421 hal) fun t s₂ S=>?_;refine c_str S fun t s₂ S=>?_
    try rw[s_crlf]
    refine eq_str (wpAny_truthy_bool ?_);have hp:piece ahead c=if ahead++[c]=[13,10]then[]else[13,10]:=by unfold piece;rw[if_pos hcr]
    by_cases hh:ahead++[c]=[13,10]
    ·refine if_t (by simpa using hh) ?_;refine c_str S fun t s₂ S=>?_;rw[s_nil];refine iadd_str S (by simp;exact J441 hl hlt hol) fun t s₂ S=>?_;refine S.store (by walk_at"pv") (.inl rfl) fun s₁ S=>?_;exact xn (hM _ ⟨_,by rw[hp,if_pos hh];exact S⟩)
    ·refine if_f (by simpa using hh) ?_;refine c_str S fun t s₂ S=>?_
     try rw[s_crlf]
     refine iadd_str S (by simp;exact J442 hl hlt hol) fun t s₂ S=>?_;refine S.store (by walk_at"pv") (.inl rfl) fun s₁ S=>?_;exact xn (hM _ ⟨_,by rw[hp,if_neg hh];exact S⟩)
   ·refine if_f (by simpa using hcr) ?_;refine xc (wpAny_AugAssign_Name (S.load (by walk_at"mem") ?_));refine wpAny_IfExp (wpAny_isTrue_BoolOp (wpAny_allTrue_And_cons (xcmp ?_)));walk_at"name";refine c_str S fun t s₂ S=>?_;rw[s_dot];refine eq_str (a:=[c]) (wpAny_truthy_bool ?_);by_cases hd:c=46
    ·subst hd;refine if_t (by simp) ?_;refine wpAny_allTrue_And_cons (xcmp ?_);walk_at"name";refine lstE S (arg (c_str S fun u1 s₂ S=>arg (c_str S fun u2 s₂ S=>arg (c_str S fun u3 s₂ S=>argE ⟨_,_,_,S,by simp,fun T s₃ S=>?_⟩))));rw[s_nil,s_cr,s_lf]at S;refine PySem.SeqInW.in_listW (fun y=>match y with| .str z _=>z.cps.toList==(mkS ahead).cps.toList|_=>false) (fun y hy=>?_) ⟨_,S.get (.head _),rfl,0,rfl⟩ (wpAny_truthy_bool ?_)
     ·simp only[List.mem_toArray,List.mem_cons,List.not_mem_nil,or_false]at hy;rcases hy with rfl|rfl|rfl<;>exact PySem.SeqRoads2.EqGives.str _ _ _ _
     ·have hb:([Value.str (mkS []) u1,.str (mkS [13]) u2,.str (mkS [10]) u3].toArray.any fun y=>match y with| .str z _=>z.cps.toList==(mkS ahead).cps.toList|_=>false)=decide (ahead=[]∨ahead=[13]∨ahead=[10]):=by
       rw[Bool.eq_iff_iff];simp[mkS,@eq_comm _ _ ahead]
      rw[hb];have S:=S.drop;have hp:piece ahead 46=if ahead=[]∨ahead=[13]∨ahead=[10]then[46,46]else[46]:=by
       unfold piece;rw[if_neg (by decide)];by_cases hh:ahead=[]∨ahead=[13]∨ahead=[10]
       ·rw[if_pos hh,if_pos ⟨rfl,hh⟩]
       ·rw[if_neg hh,if_neg fun h=>hh h.2]
      by_cases hh:ahead=[]∨ahead=[13]∨ahead=[10]
      ·refine if_t (by simpa using hh) ?_;refine wpAny_allTrue_And_nil ?_;refine if_t rfl ?_;refine c_str S fun t s₂ S=>?_;rw[s_dots];refine iadd_str S (by simp;exact J442 hl hlt hol) fun t s₂ S=>?_;refine S.store (by walk_at"pv") (.inl rfl) fun s₁ S=>?_;exact xn (hM _ ⟨_,by rw[hp,if_pos hh];exact S⟩)
      ·refine if_f (by simpa using hh) ?_;refine if_f (by simp) ?_;walk_at"name";refine iadd_str S (b:=[46]) (by simp;exact J443 hl hlt hol) fun t s₂ S=>?_;refine S.store (by walk_at"pv") (.inl rfl) fun s₁ S=>?_;exact xn (hM _ ⟨_,by rw[hp,if_neg hh];exact S⟩)
    ·refine if_f (by simpa using hd) ?_;refine if_f (by simp) ?_;walk_at"name";refine iadd_str S (b:=[c]) (by simp;exact J443 hl hlt hol) fun t s₂ S=>?_;refine S.store (by walk_at"pv") (.inl rfl) fun s₁ S=>?_;have hp:piece ahead c=[c]:=by unfold piece;rw[if_neg hcr,if_neg (fun h=>hd h.1)]
     exact xn (hM _ ⟨_,by rw[hp];exact S⟩)
  ·intro s₂ nq22;obtain⟨to',S⟩:=nq22;refine xc (a_name ?_);walk_at"name";refine S.store (by walk_at"pv") (.inl rfl) fun s₃ S=>?_;exact xn (hN G' _ _ _ (GLe.refl _) S fun _ k=>k (out++piece ahead c) [c] _ _ _ rfl rfl hgo (by simp;exact J513 hol hpl) (by simp))
 ·intro G' vs' led' sa E' hG hJ S;refine hJ _ fun out ahead to ta ts h1 h2 hgo hol hal=>?_;subst h1 h2;refine xn ?_;refine xc (xret ?_);walk_at"name";have hn:(mkS x).cps.size=x.length:=by simp[mkS]
  rw[hn,List.drop_length,sentGo]at hgo;subst hgo;refine x2_0 S.same fun h₀ t₀ eq2=>?_;subst eq2;exact k h₀ t₀ _ fun b o e=>S.sub b o (hG b o e)
end
section
variable{prog:Program}{w:World}{A:Around}{E:Value→Shared→Prop}{K:GH}{mg mb:Str→Option Value}{p0 p1 p2 p3:Value}{r:Shared}{own:Str→Bool}{G:GH}{env:Env}{vs vs':Vs}{led led':List (Addr×Obj)}{s:Shared}{Q:Value→Shared→Prop}
theorem St.low(S:St K r own G env vs led s)(hm:∃o,K sysModules=some o){a:Addr}{o:Obj}(h:(a,o)∈led):(a==sysModules)=false:=by
 obtain⟨om,hm⟩:=hm;refine beq_eq_false_iff_ne.mpr fun e=>?_;have:=(S.ld _ h).2.1;rw[e,S.base _ _ hm]at this;cases this
theorem ctyp{gs:List Str}{T:String}{x:Str}{px pos:Pos}{e:Expr}{rest:List Expr}(S:St K r own G env vs led s)(Tt:Tp K mg mb)(g:Gl env gs)(hv:mg x=none∧mb x=some (.type T))(hx:x∈gs)
 (h:wpAny (model prog w) A (spliced (backTo pos (starEach (e::rest) env))) (fun vals s₁=>wpAny (model prog w) A (call (.type T) vals) Q E s₁) E s)
 (he:starEach (e::rest) env=(false,eval e env)::starEach rest env:=by rfl) (hp:(backTo pos (starEach rest env)).any (·.1)=false:=by rfl):
 wpAny (model prog w) A (eval (.Call (.Name x px) (e::rest) [] pos) env) Q E s:=
 Call_ (S.bltn Tt hv.1 hv.2 (g x hx).2 (PyProof.Rows.callWith_type1 h he hp) (g x hx).1)
noncomputable abbrev emptyDict:Obj:={cls:=.type "dict",data:=.dict #[]}
theorem empty_is{Kt:Type}[DecidableEq Kt]{knd:KeyKind prog w Kt}:emptyDict.IsDictOf knd []:=⟨#[],0,⟨rfl,rfl,rfl⟩,rfl,fun _ h=>by simp at h,.nil,List.nodup_nil⟩
theorem dnew(S:St K r own G env vs led s){pos:Pos}(h:∀d s',St K r own G env vs ((d,emptyDict)::led) s'→Q (.ref d) s'):wpAny (model prog w) A (eval (.Dict [] [] pos) env) Q E s:=
 wpAny_Dict_empty (h _ _ (S.push _ s.toks))
section
variable{Kt:Type}[DecidableEq Kt]{knd:KeyKind prog w Kt}{kvs:List (Kt×Value)}{kk:Kt}{key v:Value}{d:Addr}{o:Obj}
theorem dget(S:St K r own G env vs led s){value slice:Expr}(hd:s.heap.get? d=some o)(ho:o.IsDictOf knd kvs)(hk:knd.is kk key=true)(hl:valueAt kvs kk=some v)(h:∀s',St K r own G env vs led s'→Q v s')
 (hs:subscripted slice false (.ref d) key=operate [.ref d,key] (getItem (.ref d) key):=by with_unfolding_all rfl):wpAny (model prog w) A (subscriptTail value slice (.ref d) key) Q E s:=
 have hD:s.heap.DictOf knd d kvs:=Heap.dictOf_iff.mpr ⟨o,hd,ho⟩
 tail_any hD.typeIs slot_dict_getitem.lookup (wpAny_getItem_of hk hD.mapOf hl (h _ (S.tok _))) hs
theorem dset{Q:Unit→Shared→Prop}{led':Obj→List (Addr×Obj)}(S:St K r own G env vs led s)(U:∀o',Up d o o' led (led' o'))(ho:o.IsDictOf knd kvs)(hk:knd.is kk key=true)(hz:kvs.length<1000)
 (h:∀o' s',o'.IsDictOf knd (stored kvs kk v)→St K r own G env vs (led' o') s'→Q () s'):wpAny (model prog w) A (setItem (.ref d) key v) Q E s:=by
 refine wpAny_setItem_pairs hk (Heap.dictOf_iff.mpr ⟨o,S.get (U o).mem,ho⟩) (fun h' hm hs=>?_) (Nat.le_trans (Nat.le_of_lt hz) (by decide));refine x1_1 (Heap.dictOf_iff.mp hm) fun o' ho' hd'=>?_;exact h o' _ hd' (S.up (U o') hs ho')
theorem valueAt_stored(a b:Kt)(v:Value)(kvs:List (Kt×Value)):valueAt (stored kvs a v) b=if b=a then some v else valueAt kvs b:=by
 unfold stored
 split
 ·rename_i h;unfold valueAt
  induction kvs with
  |nil=>simp at h
  |cons p l ih=>
   rw[List.map_cons,List.find?_cons,List.find?_cons];by_cases hp:p.1=a
   ·by_cases hb:b=a
    ·subst hb;simp[hp]
    ·have h1:¬p.1=b:=fun e=>hb (e▸hp);have h2:¬a=b:=fun e=>hb e.symm;simp only[hp,if_true,h2,decide_false,hb,if_false];by_cases hl:l.any (fun kv=>decide (kv.1=a))=true
     ·have:=ih hl;simp only[hb,if_false]at this;exact this
     ·rw[map_store_of_not_mem l a v (fun hm=>hl (by
       refine x1_1 (List.mem_map.mp hm) fun q hq e=>?_;exact List.any_eq_true.mpr ⟨q,hq,by simpa using e⟩))]
   ·rw[if_neg hp];have hl:l.any (fun kv=>decide (kv.1=a))=true:=by simpa[hp]using h
    have:=ih hl;by_cases hb:p.1=b
    ·have:¬b=a:=fun e=>hp (hb.trans e);simp[hb,this]
    ·simp only[hb,decide_false];exact this
 ·rename_i h;unfold valueAt;rw[List.find?_append];by_cases hb:b=a
  ·subst hb;have:kvs.find? (fun kv=>decide (kv.1=b))=none:=by
    rw[List.find?_eq_none];intro q hq hd;exact h (List.any_eq_true.mpr ⟨q,hq,hd⟩)
   rw[this];simp
  ·have h2:¬a=b:=fun e=>hb e.symm;simp[h2,hb]
end
theorem int_is{i:Int}{t:Tok}:(intKind prog w).is i (.int i t)=true:=by simp[intKind,Value.isInt]
theorem str_is{x:Str}{t:Tok}:(PySem.strKind prog w).is x (.str x t)=true:=by simp[PySem.strKind,Value.isStrOf]
theorem len_s(S:St K r own G env vs led s){x:List Nat}{t:Tok}(hz:x.length<100000)(h:∀t s',St K r own G env vs led s'→Q (.int x.length t) s'):wpAny (model prog w) A (call (.builtin "len") [.str (mkS x) t]) Q E s:=by
 have e:(mkS x).length=x.length:=by simp[mkS,Str.length]
 exact PyProof.Rows.len_str (by rw[e];exact J278 hz) (by rw[e];exact h _ _ (S.tok _))
theorem item_s(S:St K r own G env vs led s){x:List Nat}{t u:Tok}{value slice:Expr}{k:Nat}{i:Int}{c:Nat}(hi:i=k)(hk:k<100000)(hc:x[k]? =some c)(h:∀t s',St K r own G env vs led s'→Q (.str (mkS [c]) t) s')
 (hs:subscripted slice false (.str (mkS x) t) (.int i u)=operate [.str (mkS x) t,.int i u] (getItem (.str (mkS x) t) (.int i u)):=by with_unfolding_all rfl):wpAny (model prog w) A (subscriptTail value slice (.str (mkS x) t) (.int i u)) Q E s:=by
 obtain⟨hlt,_⟩:=List.getElem?_eq_some_iff.mp hc;refine tail_any (typeIs_str s (mkS x) t) slot_str_getitem.lookup (PyProof.Rows.getItem_str (c:=c) ?_ ?_ (h _ _ (S.tok _))) hs
 ·simp;exact J466 hk hi
 ·have e:(mkS x).length=x.length:=by simp[mkS,Str.length]
  subst hi;have e2:seqIndex? (k:Int) (mkS x).length=some k:=by
   rw[e];unfold seqIndex?;have h0:¬(k:Int)<0:=J76;simp only[h0,if_false];rw[if_pos (by simp;exact hlt)];simp
  rw[e2];simpa[mkS]using hc
theorem range2_it(S:St K r own G env vs led s){a b:Nat}{i j:Int}{t u:Tok}(hi:i=a)(hj:j=b)(ha:a<100000)(hb:b<100000)
 (h:∀I s',St K r own G env vs ((I,{cls:=.type "range_iterator",data:=.fields #[rawInt a,rawInt ((b-a:Nat):Int),rawInt 1]})::led) s'→Q (.ref I) s'):
 wpAny (model prog w) A (call (.type "range") [.int i t,.int j u]) (fun x s₁=>wpAny (model prog w) A (pyIter x) Q E s₁) E s:=by
 subst hi hj;refine call_range_2 ?_;have S1:=S.push {cls:=.type "range",data:=.fields #[.int a t,.int b u,.int 1 s.toks]} (s.toks+1);refine wpAny_pyIter_range (IsRange.new ..) (small_one J85 (J84 ha) J85 (J84 hb)) ?_;have e:Builtin.Range.rangeSize a b 1=((b-a:Nat):Int):=by rw[rangeSize_one];split<;>omega
 rw[e];exact h _ _ ((S1.push _ _).perm (.swap ..)).drop
theorem range1_it(S:St K r own G env vs led s){b:Nat}{j:Int}{u:Tok}(hj:j=b)(hb:b<100000)
 (h:∀I s',St K r own G env vs ((I,{cls:=.type "range_iterator",data:=.fields #[rawInt 0,rawInt (b:Int),rawInt 1]})::led) s'→Q (.ref I) s'):
 wpAny (model prog w) A (call (.type "range") [.int j u]) (fun x s₁=>wpAny (model prog w) A (pyIter x) Q E s₁) E s:=by
 subst hj;refine call_range_1 ?_;have S1:=S.push {cls:=.type "range",data:=.fields #[.int 0 s.toks,.int b u,.int 1 (s.toks+1)]} (s.toks+1+1);refine wpAny_pyIter_range (IsRange.new ..) (small_one J0 J1 J85 (J84 hb)) ?_;have e:Builtin.Range.rangeSize 0 b 1=(b:Int):=by rw[rangeSize_one];split<;>omega
 rw[e];exact h _ _ ((S1.push _ _).perm (.swap ..)).drop
end
end
local macro_rules | `(tactic| walk_at "int") => `(tactic| refine c_int (by assumption) ?_)
local macro_rules | `(tactic| walk_at "up") => `(tactic| repeat (first | with_reducible exact Up.here | with_reducible apply Up.there))
section
open PySem PySem.W PySem.Calls PyProof.Rows PySem.SeqAt
noncomputable abbrev smV(x:List Nat)(tx:Tok)(sd pl ah:Option Value):Vs:=[("text",some (.str (mkS x) tx)),("seams",sd),("place",pl),("ahead",ah)]
theorem seams_fn(pm:Value):FnOk (fdOf (topSt 23) "_law_seams" .none 235 pm) ["text"] ["seams","place","ahead"] (bodyOf (topSt 23)) where
 body:=rfl
 clo:=rfl
 gl:=rfl
 bi:=rfl
 fn:=rfl
 co:=rfl
 gen:=rfl
 bind:=by
  intro vals h;obtain⟨a,rfl⟩:=len1 h;rfl
 ndS:=show((scopeOf (topSt 23)).names.map (·.1)).Nodup by decide+kernel
 names:=names_ok (sc:=scopeOf (topSt 23)) (by decide+kernel)
 nd:=by decide+kernel
noncomputable def seamAt(x:List Nat)(k:Nat):Nat:=if x.getD (k-1) 0=13∧x.getD k 0=10 then 2 else if x.getD k 0=46∧¬(x.getD (k-1) 0=13∨x.getD (k-1) 0=10)then 1 else 0
def Seams(prog:Program)(w:World)(x:List Nat)(n:Nat)(o:Obj):Prop:=∃kvs,o.IsDictOf (intKind prog w) kvs∧kvs.length≤3*n∧∀k,1≤k→k<1+n→∃t,valueAt kvs (k:Int)=some (.int (seamAt x k) t)
section
variable{prog:Program}{w:World}{K:GH}{mg mb:Str→Option Value}{p0 p1 p2 p3:Value}
theorem seams_ok{A:Around}(B:B1 K mg mb p0 p1 p2 p3)(hA:Rm 4 A){s:Shared}{x:List Nat}{tx:Tok}{R:Result→Shared→Prop}(hx:Sg x)(hl:x.length<100)(h1:1≤x.length)
 (hK:∀a o,K a=some o→s.heap.get? a=some o)
 (k:∀h t d o,(∀b o,s.heap.get? b=some o→h.get? b=some o)→s.heap.get? d=none→h.get? d=some o→Seams prog w x (x.length-1) o→R (.ok (.ret (.ref d))) {s with heap:=h,toks:=t}):
 codeAny (model prog w) A (.call (.ref 236) ⟨[.str (mkS x) tx],[]⟩) R s:=by
 refine enter (led:=[]) B.toTp B.f_law_seams (seams_fn p3) hA.room rfl (vs:=smV x tx none none none) rfl hK (by simp) (by simp) fun env s' hkd hsc S=>?_;rw[but_nil]at S;have hA':=hA.deep env;have gl:Gl env ["range","len"]:=Gl.of (sc:=scopeOf (topSt 23)) hkd (by decide+kernel);refine xc (a_name (dnew S fun d s₁ S=>S.store (by walk_at"pv") (.inl rfl) fun s₁ S=>?_));refine xc (xfor (ctyp S B.toTp gl B.b_range (by walk_at"mem") (arg ?_)));walk_at"int";intro t1 s₂ S;refine arg (cblt S B.toTp gl B.b_len (by walk_at"mem") (arg ?_));walk_at"name";refine argE (len_s S (J150 hl) fun t2 s₂ S=>argE ?_);refine range2_it (a:=1) (b:=x.length) S rfl rfl J6 (J150 hl) fun I s₃ S=>?_;refine forN (n:=x.length-1) (fun G' _=>Itr.range hA'.hd I 1 1 (x.length-1)) (fun i G' vs' led'=>∀P:Prop,(∀o ta tp,led'=[(d,o)]→vs'=smV x tx (some (.ref d)) tp ta→Seams prog w x i o→P)→P) S (by simp)
  (fun _ k=>k _ _ _ rfl rfl ⟨[],empty_is,by simp,fun k h1 h2=>by exact(J147 h1 h2).elim⟩) ?_ ?_
 ·clear S;intro i v G' vs' led' oi sa E' N hi hv hG hN hJ S;refine hJ _ fun o ta tp e1 e2 hsm=>?_;clear hJ;subst e1 e2;refine x1_2 hsm fun kvs hd hkl hval=>?_;clear hsm;obtain⟨tv,rfl⟩:=hv;have hlt0:i<x.length:=J271 hi;have hlt1:i+1<x.length:=J270 hi;have e1:(1+(i:Int)*1)=((i+1:Nat):Int):=J33;rw[e1];have ha0:x[i]? =some (x.getD i 0):=by simp[hlt0]
  have ha1:x[i+1]? =some (x.getD (i+1) 0):=by simp[hlt1]
  have hs0:x.getD i 0=46∨x.getD i 0=13∨x.getD i 0=10∨x.getD i 0=97:=hx _ (List.mem_of_getElem? ha0);generalize hca:x.getD i 0=ca at ha0 hs0;generalize hcb:x.getD (i+1) 0=cb at ha1;have hsm:seamAt x (i+1)=if ca=13∧cb=10 then 2 else if cb=46∧¬(ca=13∨ca=10)then 1 else 0:=by
   unfold seamAt;rw[Nat.add_sub_cancel,hca,hcb]
  refine wpAny_assign_Name (S.store (by walk_at"pv") (.inl rfl) fun s₁ S=>?_);refine xc (a_name (Subscript_ ?_));walk_at"name";refine xop ?_;walk_at"name";walk_at"int";intro t s₂ S;refine b_sub S fun t s₂ S=>?_;refine item_s (k:=i) S J16 (J348 hlt1 hl) ha0 fun tah s₂ S=>?_;refine S.store (by walk_at"pv") (.inl rfl) fun s₁ S=>?_;refine xc (xasg ?_);walk_at"int";intro tz0 s₂ S;walk_at"name";walk_at"name";refine dset (o:=o) S (fun o'=>by walk_at"up") hd int_is (J473 hlt1 hl hkl) fun o₁ s₂ hd1 S=>?_;refine seqN (fun s₂=>∀P:Prop,(∀o kvs v,o.IsDictOf (intKind prog w) kvs→kvs.length≤3*i+2→valueAt kvs ((i+1:Nat):Int)=some (.int (if ca=13∧cb=10 then 2 else 0) v)→(∀k,1≤k→k<1+i→∃t,valueAt kvs (k:Int)=some (.int (seamAt x k) t))→
   St K s yes G' env (smV x tx (some (.ref d)) (some (.int ((i+1:Nat):Int) tv)) (some (.str (mkS [ca]) tah))) [(I,oi),(d,o)] s₂→P)→P) ?_ ?_
  ·intro M hM;refine xif (xcmp (xop ?_));walk_at"name";refine Subscript_ ?_;walk_at"name";walk_at"name";refine item_s (k:=i+1) S rfl (J347 hlt1 hl) ha1 fun t s₂ S=>?_;refine add_str S (by simp) fun t s₂ S=>?_;refine c_str S fun t s₂ S=>?_;rw[s_crlf];refine eq_str (wpAny_truthy_bool ?_);by_cases h:ca=13∧cb=10
   ·refine if_t (by simpa using h) ?_;refine xc (xasg ?_);walk_at"int";intro tz s₂ S;walk_at"name";walk_at"name";refine dset (o:=o₁) S (fun o'=>by walk_at"up") hd1 int_is (by have:=stored_length_le kvs ((i+1:Nat):Int) (.int 0 tz0);exact J533 hlt1 hl hkl this) fun o₂ s₂ hd2 S=>?_;refine xn (hM _ fun _ k=>k o₂ _ tz hd2 ?_ ?_ (fun k h1 h2=>?_) S)
    ·have h1:=stored_length_le kvs ((i+1:Nat):Int) (.int 0 tz0);have h2:=stored_length_le (stored kvs ((i+1:Nat):Int) (.int 0 tz0)) ((i+1:Nat):Int) (.int 2 tz);exact J514 hkl h1 h2
    ·rw[valueAt_stored,if_pos rfl,if_pos h]
    ·rw[valueAt_stored,if_neg (J200 h2),valueAt_stored,if_neg (J200 h2)];exact hval k h1 h2
   ·refine if_f (by simpa using h) ?_;refine xn (hM _ fun _ k=>k o₁ _ tz0 hd1 ?_ ?_ (fun k h1 h2=>?_) S)
    ·have h1:=stored_length_le kvs ((i+1:Nat):Int) (.int 0 tz0);exact J422 hkl h1
    ·rw[valueAt_stored,if_pos rfl,if_neg h]
    ·rw[valueAt_stored,if_neg (J200 h2)];exact hval k h1 h2
  ·clear S hd1 hval hd hkl;intro s₂ hI;refine hI _ fun o kvs tv2 hd hkl hnow hval S=>?_;clear hI;have fin:∀o kvs t s₂,o.IsDictOf (intKind prog w) kvs→kvs.length≤3*i+3→valueAt kvs ((i+1:Nat):Int)=some (.int (seamAt x (i+1)) t)→(∀k,1≤k→k<1+i→∃t,valueAt kvs (k:Int)=some (.int (seamAt x k) t))→
    St K s yes G' env (smV x tx (some (.ref d)) (some (.int ((i+1:Nat):Int) tv)) (some (.str (mkS [ca]) tah))) [(I,oi),(d,o)] s₂→N s₂:=by
    intro o kvs t s₂ hd hkl hnow hval S;refine hN G' _ _ _ (GLe.refl _) S fun _ k=>k o _ _ rfl rfl ⟨kvs,hd,J235 hkl,fun k h1 h2=>?_⟩;by_cases hk:k=i+1
    ·subst hk;exact⟨t,hnow⟩
    ·exact hval k h1 (J275 h2 hk)
   refine xc (xif (wpAny_isTrue_BoolOp (wpAny_allTrue_And_cons (xcmp (Subscript_ ?_)))));walk_at"name";walk_at"name";refine item_s (k:=i+1) S rfl (J347 hlt1 hl) ha1 fun t s₂ S=>?_;refine c_str S fun t s₂ S=>?_;rw[s_dot];refine eq_str (wpAny_truthy_bool ?_);by_cases hd46:cb=46
   ·refine if_t (by simpa using hd46) ?_;refine wpAny_allTrue_And_cons (xcmp ?_);walk_at"name";refine c_str S fun t s₂ S=>?_;rw[s_crlf];refine SB.notContains ?_;rw[show mkS [ca]=⟨#[ca]⟩from rfl,in_crlf hs0];refine wpAny_truthy_bool ?_;by_cases hcr:ca=13∨ca=10
    ·refine if_f (by simp[hcr]) ?_;refine if_f (by simp) ?_;refine xn (xn (fin o kvs tv2 _ hd (J234 hkl) ?_ hval S));rw[hnow,hsm,if_neg (fun h=>by rw[hd46]at h;exact absurd h.2 (by decide)),if_neg (fun h=>by rw[hd46]at h;exact absurd h.2 (by decide)),if_neg (fun h=>h.2 hcr)];rfl
    ·refine if_t (by simpa using hcr) ?_;refine wpAny_allTrue_And_nil ?_;refine if_t rfl ?_;refine xc (xasg ?_);walk_at"int";intro tz s₂ S;walk_at"name";walk_at"name";refine dset (o:=o) S (fun o'=>by walk_at"up") hd int_is (J472 hlt1 hl hkl) fun o₂ s₂ hd2 S=>?_;refine xn (xn (fin o₂ _ tz _ hd2 ?_ ?_ (fun k h1 h2=>?_) S))
     ·have h1:=stored_length_le kvs ((i+1:Nat):Int) (.int 1 tz);exact J423 hkl h1
     ·rw[valueAt_stored,if_pos rfl,hsm,if_neg (fun h=>hcr (.inl h.1)),if_pos ⟨hd46,hcr⟩];rfl
     ·rw[valueAt_stored,if_neg (J200 h2)];exact hval k h1 h2
   ·refine if_f (by simpa using hd46) ?_;refine if_f (by simp) ?_;refine xn (xn (fin o kvs tv2 _ hd (J234 hkl) ?_ hval S));rw[hnow,hsm];by_cases h:ca=13∧cb=10
    ·rw[if_pos h,if_pos h];rfl
    ·rw[if_neg h,if_neg h,if_neg (fun h=>hd46 h.1)];rfl
 ·intro G' vs' led' sa E' hG hJ S;refine hJ _ fun o ta tp e1 e2 hS=>?_;subst e1 e2;refine xn ?_;refine xc (xret ?_);walk_at"name";have hd0:s.heap.get? d=none:=by
   cases q:s.heap.get? d with
   |none=>rfl
   |some o'=>have:=(S.ld _ (.head _)).2.1;rw[hG d o' q]at this;cases this
  have hd1:=S.get (.head _);refine x2_0 S.same fun h₀ t₀ eq2=>?_;subst eq2;exact k h₀ t₀ d o (fun b o e=>S.sub b o (hG b o e)) hd0 hd1 hS
end
section
variable{prog:Program}{w:World}{K:GH}{mg mb:Str→Option Value}{p0 p1 p2 p3:Value}
noncomputable abbrev siftdownSt:Option Stmt:=topSt 19
noncomputable abbrev siftdownFd(pm:Value):FuncData:=fdOf siftdownSt "_siftdown" .none 214 pm
theorem siftdown_fn(pm:Value):FnOk (siftdownFd pm) ["heap","startpos","pos"] ["newitem","parentpos","parent"] (bodyOf siftdownSt) where
 body:=rfl
 clo:=rfl
 gl:=rfl
 bi:=rfl
 fn:=rfl
 co:=rfl
 gen:=rfl
 bind:=by
  intro vals h;refine x3_0 (len3 h) fun a b c eq3=>?_;subst eq3;rfl
 ndS:=show((scopeOf siftdownSt).names.map (·.1)).Nodup by decide+kernel
 names:=names_ok (sc:=scopeOf siftdownSt) (by decide+kernel)
 nd:=by decide+kernel
noncomputable abbrev sdV(l:Addr)(t0:Tok)(q:Int)(tq:Tok)(vn v5 v6:Option Value):Vs:=[("heap",some (.ref l)),("startpos",some (.int 0 t0)),("pos",some (.int q tq)),("newitem",vn),("parentpos",v5),("parent",v6)]
noncomputable abbrev suV(l:Addr)(q:Int)(tq:Tok)(ve vs vn vc vr:Option Value):Vs:=[("heap",some (.ref l)),("pos",some (.int q tq)),("endpos",ve),("startpos",vs),("newitem",vn),("childpos",vc),("rightpos",vr)]
noncomputable def sdGo:Nat→D→List D→Nat→List D
 |0,new,l,p=>l.set p new
 |f+1,new,l,p=>if p=0 then l.set p new else match l[(p-1)/2]? with
  |some q=>if new.lt q then sdGo f new (l.set p q) ((p-1)/2)else l.set p new
  |none=>l.set p new
theorem siftdown_ok{A:Around}(B:B0 K mg mb p0 p1 p2 p3)(hA:Rm 6 A){s:Shared}{l:Addr}{items:List Value}{n:Nat}{G:GH}{ds:List D}{new:D}{p:Nat}{t0 t1:Tok}{R:Result→Shared→Prop}
 (hK:GLe K G) (hG:∀a o,G a=some o→s.heap.get? a=some o) (hl:s.heap.get? l=some (listOf items.toArray n)) (hGl:G l=none) (hi:IsAll G items ds) (hp:ds[p]? =some new)
 (hkin:∀x∈ds,∀y∈ds,Kin x y) (hdep:∀x∈ds,x.dep≤3) (hlen:ds.length<1000)
 (k:∀items' n' h t,h.get? l=some (listOf items'.toArray n')→(∀b o,b≠l→s.heap.get? b=some o→h.get? b=some o)→IsAll G items' (sdGo p new ds p)→R (.ok (.ret .none)) {s with heap:=h,toks:=t}):
 codeAny (model prog w) A (.call (.ref 215) ⟨[.ref l,.int 0 t0,.int p t1],[]⟩) R s:=by
 refine enter (led:=[(l,listOf items.toArray n)]) B.toTp B.f_siftdown (siftdown_fn p2) hA.room rfl (vs:=sdV l t0 p t1 none none none) rfl (fun a o h=>hG a o (hK a o h)) ?_ (by simp) fun env s' hkd hsc S=>?_
 ·intro q hq;obtain rfl:=List.mem_singleton.mp hq;refine⟨hl,?_⟩;cases h:K l with
  |none=>rfl
  |some o=>have:=hK l o h;rw[hGl]at this;cases this
 have hA':=hA.deep env;have hle:GLe G (but [(l,listOf items.toArray n)] s.heap):=but_le hG (by simpa using hGl);have hkp:∀b o,b≠l→s.heap.get? b=some o→but [(l,listOf items.toArray n)] s.heap b=some o:=fun b o hb e=>but_at e (by simpa using hb);generalize but [(l,listOf items.toArray n)] s.heap=G₁ at *;refine x1_1 (hi.get hp) fun vnew hv hvi=>?_;have hil:=hi.length;have hpl:p<items.length:=by rw[hil];exact(List.getElem?_eq_some_iff.mp hp).1
 refine xc (a_name (Subscript_ ?_));walk_at"name";walk_at"name";refine sub_list (S.get (by walk_at"mem")) J29 (J444 hlen hpl hil) (by simpa using hv) ?_;refine S.store (by walk_at"pv") (.inl rfl) fun s₁ S=>?_;refine xc ?_;refine whlN (fun q s₁=>∀P:Prop,(∀tq cur its n' v5 v6 f,q<ds.length→cur.length=ds.length→(∀x∈cur,x∈ds)→q≤f→sdGo f new cur q=sdGo p new ds p→IsAll G its cur→
  St K s yes G₁ env (sdV l t0 q tq (some vnew) v5 v6) [(l,listOf its.toArray n')] s₁→P)→P) p
  (fun _ k=>k t1 ds items n none none p (J419 hpl hil) rfl (fun _ h=>h) (Nat.le_refl _) rfl hi S) ?_
 clear S;intro q s₂ N hN hI E';refine hI _ fun tq cur its n' v5 v6 f hq hcl hsub hf hgo hall S=>?_;clear hI;have hal:=hall.length;refine xcmp ?_;walk_at"name";walk_at"name";refine PyProof.Rows.gt_int (wpAny_truthy_bool ?_);have fin:∀{v5 v6:Option Value} {s₂:Shared},cur.set q new=sdGo p new ds p→
  St K s yes G₁ env (sdV l t0 q tq (some vnew) v5 v6) [(l,listOf its.toArray n')] s₂→
  wpAny (model prog w) (A.deeper env) (execs ((bodyOf siftdownSt).drop 2) env) (rq R) (fun _ _=>False) s₂:=by
  intro v5 v6 s₂ hset S;refine xc (xasg ?_);walk_at"name";walk_at"name";walk_at"name";refine set_list (items:=its) (n:=n') S J29 (J572 hlen hq) (J556 hq hcl hal) (fun _=>by walk_at"up") fun n'' s₃ S=>xn ?_;refine x2_0 S.same fun h t eq2=>?_;subst eq2;refine k _ n'' h t (S.get (by walk_at"mem")) (fun b o hb e=>S.sub b o (hkp b o hb e)) ?_;rw[←hset];exact hall.set hvi q
 by_cases h0:q=0
 ·refine if_f (by simp;exact h0) ?_;refine xn (fin ?_ S);rw[←hgo];cases f with
  |zero=>rfl
  |succ f=>rw[sdGo,if_pos h0]
 ·refine if_t (by simp;exact J137 h0) ?_;have hpp:(q-1)/2<cur.length:=J584 hq hcl;obtain⟨f,rfl⟩:∃f',f=f'+1:=⟨f-1,J329 h0 hf⟩;rw[sdGo,if_neg h0,List.getElem?_eq_getElem hpp]at hgo;dsimp only at hgo;refine x1_1 (hall.get (List.getElem?_eq_getElem hpp)) fun vp hvp hvpi=>?_;have hsh:((q:Int)-1).fdiv (2^(1:Int).toNat)=(((q-1)/2:Nat):Int):=by
   rw[Int.fdiv_eq_ediv_of_nonneg _ (by decide)];show((q:Int)-1)/2=_;exact J136 h0
  refine xc (a_name (xop (xop ?_)));walk_at"name";walk_at"int";intro t s₃ S;refine b_sub S fun t s₃ S=>?_;walk_at"int";intro t s₃ S;refine b_shr S (by decide) fun t s₃ S=>?_;rw[hsh];refine S.store (by walk_at"pv") (.inl rfl) fun s₃ S=>?_;refine xc (a_name (Subscript_ ?_));walk_at"name";walk_at"name";refine sub_list (S.get (by walk_at"mem")) J263 (J596 hpp hcl hlen) (by rw[Int.toNat_natCast];exact hvp) ?_;refine S.store (by walk_at"pv") (.inl rfl) fun s₃ S=>?_;refine xc (xif (xcmp ?_));walk_at"name";walk_at"name";have hnew:new∈ds:=List.mem_of_getElem? hp;refine lt_is (fun a o e=>S.sub a o (hle a o e)) 3 (hA'.le (by decide)) (hdep _ hnew) hvi hvpi (hkin _ hnew _ (hsub _ (List.getElem_mem hpp))) prog w _ _ (wpAny_truthy_bool ?_);cases hlt:new.lt cur[(q-1)/2]with
  |true=>
   rw[hlt,if_pos rfl]at hgo;refine if_t rfl ?_;refine xc (xasg ?_);walk_at"name";walk_at"name";walk_at"name";refine set_list (items:=its) (n:=n') S J29 (J572 hlen hq) (J556 hq hcl hal) (fun _=>by walk_at"up") fun n'' s₄ S=>?_;refine xc (a_name ?_);walk_at"name";refine S.store (by walk_at"pv") (.inl rfl) fun s₄ S=>?_;refine xc (wpAny_Continue ?_);refine hN ((q-1)/2) _ (J597 h0) fun _ k=>k _ _ _ _ _ _ f (J582 hpp hcl) ?_ ?_ (J252 hf) hgo (hall.set hvpi q) S
   ·simpa using hcl
   ·intro x hx;rcases List.mem_or_eq_of_mem_set hx with hx|rfl
    ·exact hsub x hx
    ·exact hsub _ (List.getElem_mem hpp)
  |false=>
   rw[hlt,if_neg (by simp)]at hgo;refine if_f (by simp) ?_;refine xn ?_;refine xc (wpAny_Break ?_);exact fin hgo S
theorem siftup_fn(pm:Value):FnOk (fdOf (topSt 20) "_siftup" .none 221 pm) ["heap","pos"] ["endpos","startpos","newitem","childpos","rightpos"] (bodyOf (topSt 20)) where
 body:=rfl
 clo:=rfl
 gl:=rfl
 bi:=rfl
 fn:=rfl
 co:=rfl
 gen:=rfl
 bind:=by
  intro vals h;refine x2_0 (len2 h) fun a b eq2=>?_;subst eq2;rfl
 ndS:=show((scopeOf (topSt 20)).names.map (·.1)).Nodup by decide+kernel
 names:=names_ok (sc:=scopeOf (topSt 20)) (by decide+kernel)
 nd:=by decide+kernel
noncomputable def suGo:Nat→List D→Nat→List D×Nat
 |0,l,p=>(l,p)
 |f+1,l,p=>match l[2*p+1]? with
  |none=>(l,p)
  |some a=>match l[2*p+2]? with
   |none=>suGo f (l.set p a) (2*p+1)
   |some b=>if a.lt b then suGo f (l.set p a) (2*p+1)else suGo f (l.set p b) (2*p+2)
noncomputable def siftup(l:List D)(new:D):List D:=
 let q:=suGo l.length l 0
 sdGo q.2 new (q.1.set q.2 new) q.2
theorem siftup_ok{A:Around}(B:B0 K mg mb p0 p1 p2 p3)(hA:Rm 8 A){s:Shared}{l:Addr}{items:List Value}{n:Nat}{G:GH}{ds:List D}{new:D}{t0:Tok}{R:Result→Shared→Prop}
 (hK:GLe K G) (hG:∀a o,G a=some o→s.heap.get? a=some o) (hl:s.heap.get? l=some (listOf items.toArray n)) (hGl:G l=none) (hi:IsAll G items ds) (hp:ds[0]? =some new)
 (hkin:∀x∈ds,∀y∈ds,Kin x y) (hdep:∀x∈ds,x.dep≤3) (hlen:ds.length<1000)
 (k:∀items' n' h t,h.get? l=some (listOf items'.toArray n')→(∀b o,b≠l→s.heap.get? b=some o→h.get? b=some o)→IsAll G items' (siftup ds new)→R (.ok (.ret .none)) {s with heap:=h,toks:=t}):
 codeAny (model prog w) A (.call (.ref 222) ⟨[.ref l,.int 0 t0],[]⟩) R s:=by
 refine enter (led:=[(l,listOf items.toArray n)]) B.toTp B.f_siftup (siftup_fn p2) hA.room rfl (vs:=suV l 0 t0 none none none none none) rfl (fun a o h=>hG a o (hK a o h)) ?_ (by simp) fun env s' hkd hsc S=>?_
 ·intro q hq;obtain rfl:=List.mem_singleton.mp hq;refine⟨hl,?_⟩;cases h:K l with
  |none=>rfl
  |some o=>have:=hK l o h;rw[hGl]at this;cases this
 have hA':=hA.deep env;have gl:Gl env ["len","_siftdown"]:=Gl.of (sc:=scopeOf (topSt 20)) hkd (by decide+kernel);have hle:GLe G (but [(l,listOf items.toArray n)] s.heap):=but_le hG (by simpa using hGl);have hkp:∀b o,b≠l→s.heap.get? b=some o→but [(l,listOf items.toArray n)] s.heap b=some o:=fun b o hb e=>but_at e (by simpa using hb);generalize but [(l,listOf items.toArray n)] s.heap=G₁ at *;refine x1_1 (hi.get hp) fun vnew hv hvi=>?_;have hil:=hi.length;have hpl:0<items.length:=by rw[hil];exact(List.getElem?_eq_some_iff.mp hp).1
 refine xc (a_name (cblt S B.toTp gl B.b_len (by walk_at"mem") (arg ?_)));walk_at"name";refine argE (len_lst S (S.get (by walk_at"mem")) (J352 hlen hil) fun te s₁ S=>?_);refine S.store (by walk_at"pv") (.inl rfl) fun s₁ S=>?_;refine xc (a_name ?_);walk_at"name";refine S.store (by walk_at"pv") (.inl rfl) fun s₁ S=>?_;refine xc (a_name (Subscript_ ?_));walk_at"name";walk_at"name";refine sub_list (S.get (by walk_at"mem")) J3 J2 (by simpa using hv) ?_;refine S.store (by walk_at"pv") (.inl rfl) fun s₁ S=>?_;refine xc (a_name (xop (xop ?_)));walk_at"int";intro t s₁ S;walk_at"name";refine b_mul S (by mul_fits) fun t s₁ S=>?_;walk_at"int";intro t s₁ S;refine b_add S fun t s₁ S=>?_;refine S.store (by walk_at"pv") (.inl rfl) fun s₁ S=>?_;refine xc ?_;refine whlN (fun m s₁=>∀P:Prop,(∀(q:Nat) tq tc cur its n' vr f,m=ds.length-q→q<ds.length→cur.length=ds.length→(∀x∈cur,x∈ds)→ds.length-q≤f+1→suGo (f+1) cur q=suGo ds.length ds 0→IsAll G its cur→
  St K s yes G₁ env (suV l q tq (some (.int ds.length te)) (some (.int 0 t0)) (some vnew) (some (.int ((2*q+1:Nat):Int) tc)) vr) [(l,listOf its.toArray n')] s₁→P)→P) (ds.length-0)
  (fun _ k=>k 0 t0 t ds items n none (ds.length-1) rfl (J349 hpl hil) rfl (fun _ h=>h) J351 (by rw[Nat.sub_add_cancel (J350 hpl hil)]) hi (by rw[←hil];exact S)) ?_
 clear S;intro m s₂ N hN hI E';refine hI _ fun q tq tc cur its n' vr f hm hq hcl hsub hf hgo hall S=>?_;subst hm;clear hI;have hal:=hall.length;rw[suGo]at hgo;refine xcmp ?_;walk_at"name";walk_at"name";refine LtAt.int _ _ _ _ prog w _ _ (wpAny_truthy_bool ?_);by_cases hc:2*q+1<ds.length
 ·refine if_t (by simp;exact J557 hc) ?_;have hca:2*q+1<cur.length:=J558 hc hcl;refine x1_1 (hall.get (List.getElem?_eq_getElem hca)) fun va hva hvai=>?_;rw[List.getElem?_eq_getElem hca]at hgo;dsimp only at hgo;refine xc (a_name (xop ?_));walk_at"name";walk_at"int";intro t s₃ S;refine b_add S fun t s₃ S=>?_;refine S.store (by walk_at"pv") (.inl rfl) fun s₃ S=>?_;refine seqN (fun s₄=>∀P:Prop,(∀(c:Nat) tc (hcc:c<cur.length) vr,q<c→suGo f (cur.set q cur[c]) c=suGo ds.length ds 0→
   St K s yes G₁ env (suV l q tq (some (.int ds.length te)) (some (.int 0 t0)) (some vnew) (some (.int (c:Int) tc)) vr) [(l,listOf its.toArray n')] s₄→P)→P) ?_ ?_
  ·intro M hM;refine xif (wpAny_isTrue_BoolOp (wpAny_allTrue_And_cons (xcmp ?_)));walk_at"name";walk_at"name";refine LtAt.int _ _ _ _ prog w _ _ (wpAny_truthy_bool ?_);by_cases hr:2*q+2<ds.length
   ·refine if_t (by simp;exact J559 hr) ?_;have hra:2*q+2<cur.length:=J560 hr hcl;refine x1_1 (hall.get (List.getElem?_eq_getElem hra)) fun vb hvb hvbi=>?_;rw[List.getElem?_eq_getElem hra]at hgo;dsimp only at hgo;refine wpAny_allTrue_And_cons (wpAny_isTrue_Not (xcmp (Subscript_ ?_)));walk_at"name";walk_at"name";refine sub_list (S.get (by walk_at"mem")) J27 (J571 hlen hq) (by rw[Int.toNat_natCast];exact hva) ?_;refine Subscript_ ?_;walk_at"name";walk_at"name";refine sub_list (S.get (by walk_at"mem")) J28 (J570 hlen hq) (by rw[show(((2*q+1:Nat):Int)+1).toNat=2*q+2 by exact J38];exact hvb) ?_;refine lt_is (fun a o e=>S.sub a o (hle a o e)) 3 (hA'.le (by decide)) (hdep _ (hsub _ (List.getElem_mem hca))) hvai hvbi (hkin _ (hsub _ (List.getElem_mem hca)) _ (hsub _ (List.getElem_mem hra))) prog w _ _ (wpAny_truthy_bool ?_);cases hlt:cur[2*q+1].lt cur[2*q+2]with
    |true=>
     rw[hlt,if_pos rfl]at hgo;refine if_f (by simp) ?_;refine if_f (by simp) ?_;exact xn (hM _ fun _ k=>k (2*q+1) tc hca _ J46 hgo S)
    |false=>
     rw[hlt,if_neg (by simp)]at hgo;refine if_t (by simp) ?_;refine wpAny_allTrue_And_nil ?_;refine if_t rfl ?_;refine xc (a_name ?_);walk_at"name";refine S.store (by walk_at"pv") (.inl rfl) fun s₃ S=>?_;exact xn (hM _ fun _ k=>k (2*q+2) _ hra _ J47 hgo S)
   ·refine if_f (by simp;exact J566 hr) ?_;refine if_f (by simp) ?_;rw[List.getElem?_eq_none (J567 hcl hr)]at hgo;exact xn (hM _ fun _ k=>k (2*q+1) tc hca _ J46 hgo S)
  ·intro s₄ hI;refine hI _ fun c tc hcc vr hqc hgo S=>?_;clear hI;refine x1_1 (hall.get (List.getElem?_eq_getElem hcc)) fun vc hvc hvci=>?_;refine xc (xasg (Subscript_ ?_));walk_at"name";walk_at"name";refine sub_list (S.get (by walk_at"mem")) J29 (J444 hlen hcc hcl) (by rw[Int.toNat_natCast];exact hvc) ?_;walk_at"name";walk_at"name";refine set_list (items:=its) (n:=n') S J29 (J572 hlen hq) (J556 hq hcl hal) (fun _=>by walk_at"up") fun n'' s₄ S=>?_;refine xc (a_name ?_);walk_at"name";refine S.store (by walk_at"pv") (.inl rfl) fun s₄ S=>?_;refine xc (a_name (xop (xop ?_)));walk_at"int";intro t s₁ S;walk_at"name";refine b_mul S (by mul_fits) fun t s₁ S=>?_;walk_at"int";intro t s₁ S;refine b_add S fun t s₁ S=>?_;refine S.store (by walk_at"pv") (.inl rfl) fun s₁ S=>?_;obtain⟨f,rfl⟩:∃f',f=f'+1:=⟨f-1,J589 hc hf⟩;refine xn (hN (ds.length-c) _ (J586 hqc hcc hcl) fun _ k=>k c _ _ _ _ _ _ f rfl (J419 hcc hcl) (by simpa using hcl) ?_ (J595 hf hqc) hgo (hall.set hvci q) (by simpa using S));intro x hx;rcases List.mem_or_eq_of_mem_set hx with hx|rfl
   ·exact hsub x hx
   ·exact hsub _ (List.getElem_mem hcc)
 ·refine if_f (by simp;exact J561 hc) ?_;rw[List.getElem?_eq_none (J562 hcl hc)]at hgo;dsimp only at hgo;refine xn ?_;refine xc (xasg ?_);walk_at"name";walk_at"name";walk_at"name";refine set_list (items:=its) (n:=n') S J29 (J572 hlen hq) (J556 hq hcl hal) (fun _=>by walk_at"up") fun n'' s₄ S=>?_;rw[Int.toNat_natCast]at S;refine xc (x_any S (cdef S B.toTp gl B.f_siftdown B.g_siftdown (by walk_at"mem") (arg ?_)));walk_at"name";refine arg ?_;walk_at"name";refine arg ?_;walk_at"name";have hnew:new∈ds:=List.mem_of_getElem? hp;have hset:∀x∈cur.set q new,x∈ds:=by
   intro x hx;rcases List.mem_or_eq_of_mem_set hx with hx|rfl
   ·exact hsub x hx
   ·exact hnew
  refine argE ⟨fun a o e=>S.atK e,siftdown_ok (G:=G) (ds:=cur.set q new) (new:=new) (items:=its.set q vnew) B (hA'.le (by decide)) hK (fun a o e=>S.sub a o (hle a o e)) (n:=n'') (S.get (by walk_at"mem")) hGl (hall.set hvi q)
   (by simp[hcl,hq]) (fun x hx y hy=>hkin x (hset x hx) y (hset y hy)) (fun x hx=>hdep x (hset x hx)) (by simpa[hcl]using hlen) fun items' n₂ h t h1 h2 h3=>?_⟩
  refine xn ?_;refine x2_0 S.same fun h₀ t₀ eq2=>?_;subst eq2;refine k items' n₂ h t h1 (fun b o hb e=>h2 b o hb (S.sub b o (hkp b o hb e))) ?_;have:siftup ds new=sdGo q new (cur.set q new) q:=by unfold siftup;rw[←hgo]
  rw[this];exact h3
theorem heappush_fn(pm:Value):FnOk (fdOf (topSt 17) "heappush" .none 200 pm) ["heap","item"] [] (bodyOf (topSt 17)) where
 body:=rfl
 clo:=rfl
 gl:=rfl
 bi:=rfl
 fn:=rfl
 co:=rfl
 gen:=rfl
 bind:=by
  intro vals h;refine x2_0 (len2 h) fun a b eq2=>?_;subst eq2;rfl
 ndS:=show((scopeOf (topSt 17)).names.map (·.1)).Nodup by decide+kernel
 names:=names_ok (sc:=scopeOf (topSt 17)) (by decide+kernel)
 nd:=by decide+kernel
theorem heappop_fn(pm:Value):FnOk (fdOf (topSt 18) "heappop" .none 207 pm) ["heap"] ["lastelt","returnitem"] (bodyOf (topSt 18)) where
 body:=rfl
 clo:=rfl
 gl:=rfl
 bi:=rfl
 fn:=rfl
 co:=rfl
 gen:=rfl
 bind:=by
  intro vals h;obtain⟨a,rfl⟩:=len1 h;rfl
 ndS:=show((scopeOf (topSt 18)).names.map (·.1)).Nodup by decide+kernel
 names:=names_ok (sc:=scopeOf (topSt 18)) (by decide+kernel)
 nd:=by decide+kernel
noncomputable def hpush(l:List D)(x:D):List D:=sdGo l.length x (l++[x]) l.length
theorem heappush_ok{A:Around}(B:B0 K mg mb p0 p1 p2 p3)(hA:Rm 8 A){s:Shared}{l:Addr}{items:List Value}{n:Nat}{G:GH}{ds:List D}{v:Value}{new:D}{R:Result→Shared→Prop}
 (hK:GLe K G) (hG:∀a o,G a=some o→s.heap.get? a=some o) (hl:s.heap.get? l=some (listOf items.toArray n)) (hGl:G l=none) (hi:IsAll G items ds) (hv:Is G v new)
 (hkin:∀x∈ds++[new],∀y∈ds++[new],Kin x y) (hdep:∀x∈ds++[new],x.dep≤3) (hlen:ds.length<900)
 (k:∀items' n' h t,h.get? l=some (listOf items'.toArray n')→(∀b o,b≠l→s.heap.get? b=some o→h.get? b=some o)→IsAll G items' (hpush ds new)→R (.ok (.ret .none)) {s with heap:=h,toks:=t}):
 codeAny (model prog w) A (.call (.ref 201) ⟨[.ref l,v],[]⟩) R s:=by
 refine enter (led:=[(l,listOf items.toArray n)]) B.toTp B.f_heappush (heappush_fn p2) hA.room rfl (vs:=[("heap",some (.ref l)),("item",some v)]) rfl (fun a o h=>hG a o (hK a o h)) ?_ (by simp) fun env s' hkd hsc S=>?_
 ·intro q hq;obtain rfl:=List.mem_singleton.mp hq;refine⟨hl,?_⟩;cases h:K l with
  |none=>rfl
  |some o=>have:=hK l o h;rw[hGl]at this;cases this
 have hA':=hA.deep env;have gl:Gl env ["len","_siftdown"]:=Gl.of (sc:=scopeOf (topSt 17)) hkd (by decide+kernel);have hle:GLe G (but [(l,listOf items.toArray n)] s.heap):=but_le hG (by simpa using hGl);have hkp:∀b o,b≠l→s.heap.get? b=some o→but [(l,listOf items.toArray n)] s.heap b=some o:=fun b o hb e=>but_at e (by simpa using hb);generalize but [(l,listOf items.toArray n)] s.heap=G₁ at *;have hil:=hi.length;refine xc (x_any S (meth F.plainAttrs_list F.slot_list_append F.type_list_append ?_));walk_at"name";refine⟨l,_,rfl,S.get (by walk_at"mem"),rfl,rfl,P.append_list ?_⟩;walk_at"name";refine⟨_,_,?_,S.get (by walk_at"mem"),?_⟩
 ·simp[sizeLine];exact J286 hlen hil
 obtain⟨n₁,S⟩:=S.seq (items:=items) (·.push v) (items++[v]) (by simp) s'.toks (fun _=>by walk_at"up");generalize ({s' with heap:=_,toks:=_}:Shared)=s₁ at S⊢;refine xc (x_any S (cdef S B.toTp gl B.f_siftdown B.g_siftdown (by walk_at"mem") (arg ?_)));walk_at"name";refine arg ?_;walk_at"int";intro t0 s₂ S;refine arg (xop (cblt S B.toTp gl B.b_len (by walk_at"mem") (arg ?_)));walk_at"name";refine argE (len_lst S (S.get (by walk_at"mem")) (by simp;exact J283 hlen hil) fun te s₁ S=>?_);walk_at"int";intro t s₂ S;refine b_sub S fun t s₂ S=>?_;rw[show(((items++[v]).length:Int)-1)=(ds.length:Int)by simp;exact J226 hil];refine argE ⟨fun a o e=>S.atK e,siftdown_ok (G:=G) (ds:=ds++[new]) (new:=new) B (hA'.le (by decide)) hK (fun a o e=>S.sub a o (hle a o e)) (S.get (by walk_at"mem")) hGl (hi.append (.cons hv .nil))
  (by simp) hkin hdep (by simp;exact J282 hlen) fun items' n₂ h t h1 h2 h3=>?_⟩
 refine xn ?_;refine x2_0 S.same fun h₀ t₀ eq2=>?_;subst eq2;exact k items' n₂ h t h1 (fun b o hb e=>h2 b o hb (S.sub b o (hkp b o hb e))) h3
theorem IsAll.unsnoc{G:GH}{vs:List Value}{ds:List D}{d:D}(h:IsAll G vs (ds++[d])):∃ws v,vs=ws++[v]∧IsAll G ws ds∧Is G v d:=by
 induction ds generalizing vs with
 |nil=>
  cases h with
  |cons e r=>cases r;exact⟨[],_,rfl,.nil,e⟩
 |cons x ds ih=>
  cases h with
  |cons e r=>
   refine x2_2 (ih r) fun ws v eq2=>?_;subst eq2;intro h1 h2;exact⟨_::ws,v,rfl,.cons e h1,h2⟩
noncomputable def hpop(l:List D)(last:D):D×List D:=match l with
 |[]=>(last,[])
 |x::r=>(x,siftup (last::r) last)
theorem heappop_ok{A:Around}(B:B0 K mg mb p0 p1 p2 p3)(hA:Rm 10 A){s:Shared}{l:Addr}{items:List Value}{n:Nat}{G:GH}{ds:List D}{last:D}{R:Result→Shared→Prop}
 (hK:GLe K G) (hG:∀a o,G a=some o→s.heap.get? a=some o) (hl:s.heap.get? l=some (listOf items.toArray n)) (hGl:G l=none) (hi:IsAll G items (ds++[last]))
 (hkin:∀x∈ds++[last],∀y∈ds++[last],Kin x y) (hdep:∀x∈ds++[last],x.dep≤3) (hlen:ds.length<900)
 (k:∀v items' n' h t,Is G v (hpop ds last).1→h.get? l=some (listOf items'.toArray n')→(∀b o,b≠l→s.heap.get? b=some o→h.get? b=some o)→IsAll G items' (hpop ds last).2→R (.ok (.ret v)) {s with heap:=h,toks:=t}):
 codeAny (model prog w) A (.call (.ref 208) ⟨[.ref l],[]⟩) R s:=by
 refine enter (led:=[(l,listOf items.toArray n)]) B.toTp B.f_heappop (heappop_fn p2) hA.room rfl (vs:=[("heap",some (.ref l)),("lastelt",none),("returnitem",none)]) rfl (fun a o h=>hG a o (hK a o h)) ?_ (by simp) fun env s' hkd hsc S=>?_
 ·intro q hq;obtain rfl:=List.mem_singleton.mp hq;refine⟨hl,?_⟩;cases h:K l with
  |none=>rfl
  |some o=>have:=hK l o h;rw[hGl]at this;cases this
 have hA':=hA.deep env;have gl:Gl env ["_siftup"]:=Gl.of (sc:=scopeOf (topSt 18)) hkd (by decide+kernel);have hle:GLe G (but [(l,listOf items.toArray n)] s.heap):=but_le hG (by simpa using hGl);have hkp:∀b o,b≠l→s.heap.get? b=some o→but [(l,listOf items.toArray n)] s.heap b=some o:=fun b o hb e=>but_at e (by simpa using hb);generalize but [(l,listOf items.toArray n)] s.heap=G₁ at *;refine x2_2 hi.unsnoc fun its vl eq2=>?_;subst eq2;intro hi hvl;have hil:=hi.length;refine xc (a_name (meth F.plainAttrs_list F.slot_list_pop F.type_list_pop ?_));walk_at"name";refine⟨l,_,rfl,S.get (by walk_at"mem"),rfl,rfl,P.pop_list (y:=vl) (S.get (by walk_at"mem")) (by simp) ?_ (by simp[sizeLine];exact J285 hlen hil)⟩;obtain⟨n₁,S⟩:=S.seq (items:=its++[vl]) (fun xs=>xs.eraseIdxIfInBounds ((its++[vl]).toArray.size-1)) its (by simp[List.eraseIdx_append_of_length_le]) s'.toks (fun _=>by walk_at"up");generalize ({s' with heap:=_,toks:=_}:Shared)=s₁ at S⊢;refine S.store (by walk_at"pv") (.inl rfl) fun s₁ S=>?_;refine xc (xif (wpAny_isTrue_value ?_));walk_at"name";refine truthy_lst S (S.get (by walk_at"mem")) (J284 hlen hil) fun s₁ S=>?_;cases hi with
 |nil=>
  refine if_f (by simp) ?_;refine xn ?_;refine xc (xret ?_);walk_at"name";refine x2_0 S.same fun h₀ t₀ eq2=>?_;subst eq2;exact k vl [] n₁ h₀ t₀ hvl (S.get (by walk_at"mem")) (fun b o hb e=>S.sub b o (hkp b o hb e)) .nil
 |@cons v₀ its d₀ ds h0 hr=>
  refine if_t (by simp) ?_;simp only[List.length_cons]at hil hlen;refine xc (a_name (Subscript_ ?_));walk_at"name";walk_at"int";intro t s₂ S;refine sub_list (S.get (by walk_at"mem")) (by decide) (by decide) (v:=v₀) (by simp) ?_;refine S.store (by walk_at"pv") (.inl rfl) fun s₁ S=>?_;refine xc (xasg ?_);walk_at"name";walk_at"name";walk_at"int";intro t s₂ S;refine set_list (items:=v₀::its) (n:=n₁) S (by decide) (by decide) (by simp) (fun _=>by walk_at"up") fun n'' s₄ S=>?_;refine xc (x_any S (cdef S B.toTp gl B.f_siftup B.g_siftup (by walk_at"mem") (arg ?_)));walk_at"name";refine arg ?_;walk_at"int";intro t s₂ S;have hset:∀x∈last::ds,x∈d₀::ds++[last]:=by
   intro x hx;rcases List.mem_cons.mp hx with rfl|hx
   ·simp
   ·simp[hx]
  refine argE ⟨fun a o e=>S.atK e,siftup_ok (G:=G) (ds:=last::ds) (new:=last) (items:=(v₀::its).set (0:Int).toNat vl) (n:=n'') B (hA'.le (by decide)) hK (fun a o e=>S.sub a o (hle a o e)) (S.get (by walk_at"mem")) hGl (.cons hvl hr) rfl
   (fun x hx y hy=>hkin x (hset x hx) y (hset y hy)) (fun x hx=>hdep x (hset x hx)) (by simp;exact J274 hlen) fun items' n₂ h t h1 h2 h3=>?_⟩
  have S':=S.upk (t:=t) (U:=(by walk_at"up")) h2 h1;generalize ({s₂ with heap:=_,toks:=_}:Shared)=s₅ at S'⊢;refine xc (xret ?_);walk_at"name";refine x2_0 S'.same fun h₀ t₀ eq2=>?_;subst eq2;exact k v₀ items' n₂ h₀ t₀ h0 (S'.get (by walk_at"mem")) (fun b o hb e=>S'.sub b o (hkp b o hb e)) h3
end
theorem pick_range{α:Type}(x:List α)(a:Nat):∀m,a+m≤x.length→((List.range m).map (a+·)).filterMap (x[·]?)=(x.drop a).take m
 |0,_=>by simp
 |m+1,h=>by
  rw[List.range_succ,List.map_append,List.filterMap_append,pick_range x a m (J366 h),List.take_add_one];congr 1;have:a+m<x.length:=J365 h;simp[this]
noncomputable def sub(x:List Nat)(a b:Nat):List Nat:=(x.drop a).take (b-a)
theorem sub_len{x:List Nat}{a b:Nat}(h1:a≤b)(h2:b≤x.length):(sub x a b).length=b-a:=by unfold sub;simp;exact J425 h2
theorem Sg.sub{x:List Nat}(h:Sg x)(a b:Nat):Sg (sub x a b):=fun c hc=>h c (List.mem_of_mem_drop (List.mem_of_mem_take hc))
section
variable{prog:Program}{w:World}{A:Around}{E:Value→Shared→Prop}{K:GH}{mg mb:Str→Option Value}{p0 p1 p2 p3:Value}{r:Shared}{own:Str→Bool}{G:GH}{env:Env}{vs vs':Vs}{led led':List (Addr×Obj)}{s:Shared}{Q:Value→Shared→Prop}
theorem slc_post(S:St K r own G env vs led s){x:List Nat}{t:Tok}{l u:Option (Int×Tok)}{a b:Nat}{v1 v2 v3:Value}(hl:(l.map (·.1)).getD 0=(a:Int))(hu:(u.map (·.1)).getD (x.length:Int)=(b:Int))(hab:a≤b)(hb:b≤x.length)(hx:x.length<1000)
 (h:∀t s',St K r own G env vs led s'→Q (.str (mkS (sub x a b)) t) s'):
 Made.post (sliceMade (mkS x) t l u none) Q {s with heap:=s.heap.push {cls:=.type "slice",data:=.fields #[v1,v2,v3]}}:=by
 have S1:=fun t=>(S.push {cls:=.type "slice",data:=.fields #[v1,v2,v3]} t).drop;have e:(mkS x).length=x.length:=by simp[Str.length]
 have hp:slicePicked (mkS x) l u none=(List.range (b-a)).map (a+·):=by
  unfold slicePicked Builtin.Str.strSliceIndices;rw[e];rw[←sliceRange_one];simp only[Option.map_none,Option.getD_none];have e1:(match l.map (·.1)with|none=>(if(1:Int)>0 then 0 else(x.length:Int)-1)|some i=>if(1:Int)>0 then max 0 (min (if i<0 then i+(x.length:Int)else i) x.length)else max (-1) (min (if i<0 then i+(x.length:Int)else i) (x.length-1)))=(a:Int):=by
   cases l with
   |none=>simp at hl⊢;exact hl
   |some p=>simp at hl⊢;rw[hl,if_neg J76,Int.min_eq_left (J564 hab hb),Int.max_eq_right J29]
  have e2:(match u.map (·.1)with|none=>(if(1:Int)>0 then(x.length:Int)else -1)|some i=>if(1:Int)>0 then max 0 (min (if i<0 then i+(x.length:Int)else i) x.length)else max (-1) (min (if i<0 then i+(x.length:Int)else i) (x.length-1)))=(b:Int):=by
   cases u with
   |none=>simp at hu⊢;exact hu
   |some p=>simp at hu⊢;rw[hu,if_neg J76,Int.min_eq_left (J519 hb),Int.max_eq_right J29]
  rw[←e1,←e2];rfl
 have hf:((slicePicked (mkS x) l u none).filterMap ((mkS x).cps[·]?))=sub x a b:=by
  rw[hp];have:=pick_range x a (b-a) (J516 hab hb);unfold sub;rw[←this];simp[mkS]
 unfold sliceMade
 split
 ·rename_i hc;have hlen:b-a=x.length:=by
   rw[hp]at hc;simp[e]at hc;exact hc
  have hs:sub x a b=x:=by
   unfold sub;have:a=0:=J532 hlen hb hab;subst this;rw[List.drop_zero];exact List.take_of_length_le (J418 hlen)
  have:=h t _ (S1 s.toks);rw[hs]at this;exact this
 ·rw[hf];refine⟨?_,h _ _ (S1 _)⟩;have:(mkS (sub x a b)).length=(sub x a b).length:=by simp[Str.length]
  rw[this,sub_len hab hb];exact Nat.le_trans (J531 hx hb:b-a≤1000) (by decide)
inductive SlcK(K:GH)(own:Str→Bool)(env:Env)(Q:Value→Shared→Prop)(o vl vu:Value)(s₃:Shared):Prop
 |mk (x:List Nat) (t:Tok) (l u:Option (Int×Tok)) (a b:Nat) (e1:o=.str (mkS x) t) (e2:vl=partValue l) (e3:vu=partValue u) (e4:(l.map (·.1)).getD 0=((a:Nat):Int)) (e5:(u.map (·.1)).getD (x.length:Int)=((b:Nat):Int)) (e6:a≤b) (e7:b≤x.length) (e8:x.length<1000)
  (r:Shared) (G:GH) (vs:Vs) (led:List (Addr×Obj)) (S:St K r own G env vs led s₃) (k:∀t s',St K r own G env vs led s'→Q (.str (mkS (sub x a b)) t) s')
theorem slcE(_S:St K r own G env vs led s){value:Expr}{lower upper:Option Expr}{p pos:Pos}
 (h:wpAny (model prog w) A (eval value env) (fun o s₁=>wpAny (model prog w) A (evalPart lower env) (fun vl s₂=>wpAny (model prog w) A (evalPart upper env) (SlcK K own env Q o vl) E s₂) E s₁) E s)
 (ht:∀o r,letTemporaryGo value o r=pure ():=by intro _ _;rfl):
 wpAny (model prog w) A (eval (.Subscript value (.Slice lower upper none p) pos) env) Q E s:=
 wpAny_Subscript_str_slice (wpAny_mono h (fun o s₁ h₁=>wpAny_mono h₁ (fun vl s₂ h₂=>wpAny_mono h₂ (fun vu s₃ ⟨x,t,l,u,a,b,e1,e2,e3,e4,e5,e6,e7,e8,r,G,vs,led,S,k⟩=>
  ⟨mkS x,t,l,u,e1,e2,e3,slc_post S e4 e5 e6 e7 e8 k⟩) fun _ _ x=>x) fun _ _ x=>x) fun _ _ x=>x) ht
theorem add_lst{l b:Addr}{xs ys:List Value}{n m:Nat}(S:St K r own G env vs led s)(hl:s.heap.get? l=some (listOf xs.toArray n))(hb:s.heap.get? b=some (listOf ys.toArray m))(hz:xs.length+ys.length<1000)
 (h:∀T s',St K r own G env vs ((T,listOf (xs++ys).toArray 0)::led) s'→Q (.ref T) s'):wpAny (model prog w) A (binaryOp .Add (.ref l) (.ref b)) Q E s:=by
 refine P.add_list (items:=xs.toArray) (items2:=ys.toArray) hl hb ?_ (by simpa using Nat.le_trans (Nat.le_of_lt hz) (by decide));have:=h _ _ (S.push (listOf (xs++ys).toArray 0) s.toks);simpa using this
end
theorem dotL_len(x:List Nat):(dotL x).length≤2*x.length:=by
 have key:=subS_len x.toArray [46,46] (fD x.toArray) (fun p a b hp h=>?_) (by simp) (x.length+1) 0 (by simp)
 ·simpa[dotL]using key
 unfold fD at h;cases hf:findDot x.toArray (x.toArray.size-p) p with
 |none=>rw[hf]at h;cases h
 |some q=>
  rw[hf]at h;cases h;refine x0_2 (findDot_some hf) fun h1 h2 _=>?_;exact⟨h1,J48,J429 h2 hp⟩
end
section
theorem drop_get{x:List Nat}{p:Nat}(h:p<x.length):x.drop p=x.getD p 0::x.drop (p+1):=by
 rw[List.drop_eq_getElem_cons h];simp[h]
theorem subS_skip{x rp:List Nat}{f:Nat→Option (Nat×Nat)}{d p:Nat}(hp:p<x.length)(hf:f p=f (p+1))(hle:∀a b,f (p+1)=some (a,b)→p+1≤a):subS x.toArray rp f (d+1) p=x.getD p 0::subS x.toArray rp f (d+1) (p+1):=by
 rw[subS,subS,hf];cases h:f (p+1)with
 |none=>simpa using drop_get hp
 |some ab=>
  obtain⟨a,b⟩:=ab;have:=hle a b h;dsimp only;rw[drop_get hp,show a-p=(a-(p+1))+1 by exact J188 this,List.take_succ_cons];simp
theorem subS_here{x rp:List Nat}{f:Nat→Option (Nat×Nat)}{d p b:Nat}(hf:f p=some (p,b)):subS x.toArray rp f (d+1) p=rp++subS x.toArray rp f d b:=by
 rw[subS,hf];dsimp only;rw[Nat.sub_self,List.take_zero,List.nil_append]
theorem subS_end{x rp:List Nat}{f:Nat→Option (Nat×Nat)}{d p:Nat}(hp:x.length≤p)(hf:f p=none):subS x.toArray rp f d p=[]:=by
 cases d with
 |zero=>rw[subS];simpa using hp
 |succ d=>rw[subS,hf];simpa using hp
theorem fE_end{x:List Nat}{p:Nat}(hp:x.length≤p):fE x.toArray p=none:=by
 unfold fE;have:x.toArray.size-p=0:=by simp;exact J242 hp
 rw[this];rfl
theorem fE_at{x:List Nat}{p:Nat}(hp:p<x.length):fE x.toArray p=if isEol x.toArray p then some (p,p+eolLen x.toArray p)else fE x.toArray (p+1):=by
 unfold fE;have h1:x.toArray.size-p=(x.toArray.size-(p+1))+1:=by simp;exact J214 hp
 rw[h1,findEol]
 split<;>rfl
theorem fD_end{x:List Nat}{p:Nat}(hp:x.length≤p):fD x.toArray p=none:=by
 unfold fD;have:x.toArray.size-p=0:=by simp;exact J242 hp
 rw[this];rfl
theorem fD_at{x:List Nat}{p:Nat}(hp:p<x.length):fD x.toArray p=if isDot x.toArray p then some (p,p+1)else fD x.toArray (p+1):=by
 unfold fD;have h1:x.toArray.size-p=(x.toArray.size-(p+1))+1:=by simp;exact J214 hp
 rw[h1,findDot]
 split<;>rfl
noncomputable def fixR:List Nat→List Nat
 |[]=>[]
 |[c]=>if c=13∨c=10 then[13,10]else[c]
 |c::e::r=>if c=13∧e=10 then 13::10::fixR r else if c=13∨c=10 then 13::10::fixR (e::r)else c::fixR (e::r)
theorem fix_go{x:List Nat}:∀(n p d:Nat),x.length-p≤n→x.length-p<d→subS x.toArray [13,10] (fE x.toArray) d p=fixR (x.drop p):=by
 intro n
 induction n with
 |zero=>
  intro p d hn hd;rw[subS_end (J199 hn) (fE_end (J199 hn)),List.drop_of_length_le (J199 hn)];rfl
 |succ n ih=>
  intro p d hn hd;by_cases hp:p<x.length
  ·obtain⟨d,rfl⟩:∃e,d=e+1:=⟨d-1,J370 hd⟩;have hat:=fE_at hp;have he:isEol x.toArray p=decide (x.getD p 0=13∨x.getD p 0=10):=by
    have:isEol x.toArray p=(x.getD p 0==10||x.getD p 0==13):=by unfold isEol;simp
    rw[this,Bool.eq_iff_iff];simp;exact Or.comm
   have hl:eolLen x.toArray p=if x.getD p 0=13∧p+1<x.length∧x.getD (p+1) 0=10 then 2 else 1:=by unfold eolLen;simp
   by_cases hc:x.getD p 0=13∨x.getD p 0=10
   ·rw[he,decide_eq_true hc,if_pos rfl,hl]at hat;rw[subS_here hat];by_cases h2:x.getD p 0=13∧p+1<x.length∧x.getD (p+1) 0=10
    ·rw[if_pos h2,ih (p+2) d (J547 hn) (J546 hd h2),drop_get hp,drop_get h2.2.1,h2.1,h2.2.2];rfl
    ·rw[if_neg h2,ih (p+1) d (J403 hn) (J406 hd hp),drop_get hp];by_cases hq:p+1<x.length
     ·rw[drop_get hq,fixR,if_neg (fun h=>h2 ⟨h.1,hq,h.2⟩),if_pos hc];rfl
     ·have h1:fixR [x.getD p 0]=[13,10]:=by rw[fixR,if_pos hc]
      rw[List.drop_of_length_le (J291 hq),h1];rfl
   ·rw[he,decide_eq_false hc,if_neg Bool.false_ne_true]at hat;rw[subS_skip hp hat ?_,ih (p+1) (d+1) (J403 hn) (J407 hd),drop_get hp]
    ·by_cases hq:p+1<x.length
     ·rw[drop_get hq,fixR,if_neg (fun h=>hc (.inl h.1)),if_neg hc]
     ·have h1:fixR [x.getD p 0]=[x.getD p 0]:=by rw[fixR,if_neg hc]
      rw[List.drop_of_length_le (J291 hq),h1];rfl
    ·intro a b hab;by_cases hq:p+1≤x.length
     ·have:=(searches_eol x.toArray (p+1) (by simpa using hq)).1;rw[hab]at this;exact this.1
     ·rw[fE_end (J292 hq)]at hab;cases hab
  ·rw[subS_end (J257 hp) (fE_end (J257 hp)),List.drop_of_length_le (J257 hp)];rfl
theorem fixL_eq(x:List Nat):fixL x=fixR x:=by
 unfold fixL;rw[fix_go x.length 0 (x.length+1) J45 J44,List.drop_zero]
noncomputable def dotR:Bool→List Nat→List Nat
 |_,[]=>[]
 |b,c::r=>if b=true∧c=46 then 46::46::dotR false r else c::dotR (c==10) r
theorem dot_go{x:List Nat}:∀(n p d:Nat),x.length-p≤n→x.length-p<d→subS x.toArray [46,46] (fD x.toArray) d p=dotR (p==0||x.getD (p-1) 0==10) (x.drop p):=by
 intro n
 induction n with
 |zero=>
  intro p d hn hd;rw[subS_end (J199 hn) (fD_end (J199 hn)),List.drop_of_length_le (J199 hn),dotR]
 |succ n ih=>
  intro p d hn hd;by_cases hp:p<x.length
  ·obtain⟨d,rfl⟩:∃e,d=e+1:=⟨d-1,J370 hd⟩;have hat:=fD_at hp;have he:isDot x.toArray p=((p==0||x.getD (p-1) 0==10)&&x.getD p 0==46):=by unfold isDot;simp
   rw[drop_get hp,dotR];by_cases hc:(p==0||x.getD (p-1) 0==10)=true∧x.getD p 0=46
   ·have h1:isDot x.toArray p=true:=by rw[he,hc.1,hc.2];rfl
    rw[h1,if_pos rfl]at hat;rw[subS_here hat,if_pos hc,ih (p+1) d (J403 hn) (J406 hd hp),Nat.add_sub_cancel,hc.2];simp
   ·have h1:isDot x.toArray p=false:=by
     rw[he,Bool.eq_false_iff];intro h;rw[Bool.and_eq_true]at h;exact hc ⟨h.1,by simpa using h.2⟩
    rw[h1,if_neg Bool.false_ne_true]at hat;rw[subS_skip hp hat ?_,if_neg hc,ih (p+1) (d+1) (J403 hn) (J407 hd),Nat.add_sub_cancel]
    ·simp
    ·intro a b hab;unfold fD at hab;cases hf:findDot x.toArray (x.toArray.size-(p+1)) (p+1)with
     |none=>rw[hf]at hab;cases hab
     |some q=>
      rw[hf]at hab;obtain⟨h1,_⟩:=findDot_some hf;cases hab;exact h1
  ·rw[subS_end (J257 hp) (fD_end (J257 hp)),List.drop_of_length_le (J257 hp),dotR]
theorem dotL_eq(x:List Nat):dotL x=dotR true x:=by
 unfold dotL;rw[dot_go x.length 0 (x.length+1) J45 J44,List.drop_zero];rfl
noncomputable def sentR:List Nat→List Nat→List Nat
 |_,[]=>[]
 |a,c::r=>piece a c++sentR [c] r
theorem sentGo_eq:∀(r a out:List Nat),sentGo a out r=out++sentR a r
 |[],a,out=>by simp[sentGo,sentR]
 |c::r,a,out=>by rw[sentGo,sentGo_eq r,sentR,List.append_assoc]
theorem sentL_eq(x:List Nat):sentL x=sentR [] x:=by unfold sentL;rw[sentGo_eq];rfl
theorem dot_fix:∀(n:Nat) (r a:List Nat),r.length≤n→Sg r→(a=[13]→r.head?≠some 10)→a.length≤1→dotR (decide (a=[]∨a=[13]∨a=[10])) (fixR r)=sentR a r:=by
 intro n
 induction n with
 |zero=>
  intro r a hn _ _ _;have:r=[]:=List.length_eq_zero_iff.mp (J114 hn);subst this;simp[fixR,dotR,sentR]
 |succ n ih=>
  intro r a hn hs ha hal;cases r with
  |nil=>simp[fixR,dotR,sentR]
  |cons c r=>
   have hsr:Sg r:=fun e he=>hs e (.tail _ he);have hc:=hs c (.head _);have h13:∀q:List Nat,dotR (decide (a=[]∨a=[13]∨a=[10])) (13::10::q)=13::10::dotR true q:=by
    intro q;rw[dotR,if_neg (by simp),dotR,if_neg (by simp)];simp
   have hp13:c=13→piece a c=[13,10]:=by
    intro nq62;subst nq62;unfold piece;rw[if_pos (.inl rfl),if_neg];intro h;have:=congrArg List.getLast? h;simp at this
   rcases hc with rfl|rfl|rfl|rfl
   ·
    have hf:fixR (46::r)=46::fixR r:=by cases r<;>simp[fixR]
    have h1:=ih r [46] (by simp at hn;exact hn) hsr (by simp) (by simp);rw[show decide (([46]:List Nat)=[]∨([46]:List Nat)=[13]∨([46]:List Nat)=[10])=false by decide]at h1;have hpc:piece a 46=if a=[]∨a=[13]∨a=[10]then[46,46]else[46]:=by
     unfold piece;rw[if_neg (by decide)];by_cases hb:a=[]∨a=[13]∨a=[10]
     ·rw[if_pos ⟨rfl,hb⟩,if_pos hb]
     ·rw[if_neg (fun h=>hb h.2),if_neg hb]
    rw[hf,dotR,sentR,hpc];by_cases hb:a=[]∨a=[13]∨a=[10]
    ·rw[if_pos ⟨by simpa using hb,rfl⟩,if_pos hb,h1];rfl
    ·rw[if_neg (fun h=>hb (by simpa using h.1)),if_neg hb];show 46::dotR false (fixR r)=_;rw[h1];rfl
   ·
    rw[sentR,hp13 rfl];cases r with
    |nil=>rw[show fixR [13]=[13,10]from rfl,h13];simp[dotR,sentR]
    |cons e r=>
     by_cases he:e=10
     ·subst he;have h1:=ih r [10] (by simp at hn;exact J186 hn) (fun e he=>hsr e (.tail _ he)) (by simp) (by simp);rw[show decide (([10]:List Nat)=[]∨([10]:List Nat)=[13]∨([10]:List Nat)=[10])=true by decide]at h1;rw[show fixR (13::10::r)=13::10::fixR r by simp[fixR],h13,h1,sentR];have:piece [13] 10=[]:=by decide
      rw[this];rfl
     ·have h1:=ih (e::r) [13] (by simp at hn⊢;exact hn) hsr (fun _=>by simpa using he) (by simp);rw[show decide (([13]:List Nat)=[]∨([13]:List Nat)=[13]∨([13]:List Nat)=[10])=true by decide]at h1;rw[show fixR (13::e::r)=13::10::fixR (e::r)by rw[fixR,if_neg (fun h=>he h.2),if_pos (.inl rfl)],h13,h1];rfl
   ·
    have hp:piece a 10=[13,10]:=by
     unfold piece;rw[if_pos (.inr rfl),if_neg];intro h;have:a=[13]:=by
      match a,hal with
      |[],_=>simp at h
      |[b],_=>simpa using h
     exact ha this rfl
    have h1:=ih r [10] (by simp at hn;exact hn) hsr (by simp) (by simp);rw[show decide (([10]:List Nat)=[]∨([10]:List Nat)=[13]∨([10]:List Nat)=[10])=true by decide]at h1;rw[sentR,hp];have hf:fixR (10::r)=13::10::fixR r:=by cases r<;>simp[fixR]
    rw[hf,h13,h1];rfl
   ·
    have hf:fixR (97::r)=97::fixR r:=by cases r<;>simp[fixR]
    have h1:=ih r [97] (by simp at hn;exact hn) hsr (by simp) (by simp);rw[show decide (([97]:List Nat)=[]∨([97]:List Nat)=[13]∨([97]:List Nat)=[10])=false by decide]at h1;rw[hf,dotR,if_neg (by simp),sentR];have:piece a 97=[97]:=by unfold piece;rw[if_neg (by decide),if_neg (by simp)]
    rw[this,show((97:Nat)==10)=false by decide,h1];rfl
theorem quo_eq{x:List Nat}(hx:Sg x):dotL (fixL x)=sentL x:=by
 rw[fixL_eq,dotL_eq,sentL_eq];have:=dot_fix x.length x [] (Nat.le_refl _) hx (by simp) (by simp);simpa using this
end
section
open PySem PySem.W PySem.Calls PyProof.Rows PySem.SeqAt
set_option maxHeartbeats 4000000
section
variable{prog:Program}{w:World}{A:Around}{E:Value→Shared→Prop}{K:GH}{mg mb:Str→Option Value}{p0 p1 p2 p3:Value}{r:Shared}{own:Str→Bool}{G:GH}{env:Env}{vs vs':Vs}{led led':List (Addr×Obj)}{s:Shared}{Q:Value→Shared→Prop}
theorem Src.tups{G0:GH}(hg:GLe G0 G)(hA:A.handled=none){l:Addr}{items:List Value}{m ar:Nat}(hl:G0 l=some (listOf items.toArray m))(I:Addr){elts:List Expr}{k:Nat}{pos:Pos}
 (hT:∀i<items.length,∃(T:Addr) (n:Nat) (ws:List Value),items[i]? =some (.ref T)∧G0 T=some (tupOf ws.toArray n)∧ws.length=ar)
 (har:(assignEach elts env).length=ar:=by rfl) (hstar:(assignEach elts env).findIdx? (·.1)=none:=by rfl):
 Src prog w A G env (.Tuple elts k pos) (.ref I) items.length (fun i ws=>∃T n,items[i]? =some (.ref T)∧G0 T=some (tupOf ws.toArray n)) (fun i os=>∃o,os=[(I,o)]∧o.cls=.type "list_iterator"∧o.data=.fields #[.ref l,.int i 0]) where
 item:=by
  intro i s os Q E hi hG ho hn nq23;obtain⟨o,rfl,h1,h2⟩:=nq23;intro k;refine x3_2 (hT i hi) fun T nT ws hi' hTg hwl=>?_;have hIG:G I=none:=(ho _ (.head _)).2;refine wpAny_pyNext_list_item (i:=i) (x:=.ref T) ⟨o,(ho _ (.head _)).1,h1,h2⟩ (Is.list hG (hg _ _ hl)) (by simpa using hi') fun h' ⟨o',x1,x2,x3⟩ hsb=>⟨_,rfl,?_⟩;refine wpAny_letOwnedTupleGo_listiter ⟨o',x1,x2,x3⟩ ?_;have hTI:T≠I:=fun e=>by have:=hg _ _ hTg;rw[e,hIG]at this;cases this
  have hTh:h'.get? T=some (tupOf ws.toArray nT):=(hsb.2 T hTI).trans (hG _ _ (hg _ _ hTg));refine wpAny_assign_Tuple (items:=ws.toArray) hA ⟨_,hTh,rfl,nT,rfl⟩ (by rw[har,←hwl];simp) hstar fun h'' he=>?_;have hlt:I<h'.objs.size:=Heap.lt_size x1;refine k ws [(I,o')] h'' s.toks ⟨T,nT,hi',hTg⟩ ⟨o',rfl,x2,x3⟩ rfl (fun p hp=>?_) fun b ob hb e=>?_
  ·rw[List.mem_singleton]at hp;subst hp;exact he _ _ (Nat.ne_of_lt hlt) x1
  ·have hb':b≠I:=by simpa using hb
   have e':h'.get? b=some ob:=(hsb.2 b hb').trans e;exact he _ _ (Nat.ne_of_lt (Heap.lt_size e')) e'
 done:=by
  intro s os Q E hG ho hn nq24;obtain⟨o,rfl,h1,h2⟩:=nq24;intro k;exact wpAny_pyNext_list_end hA ⟨o,(ho _ (.head _)).1,h1,h2⟩ (Is.list hG (hg _ _ hl)) (by simp) fun h' h1=>k h' _ fun b ob hb e=>h1 b ob (by simpa using hb) e
theorem lst_it(S:St K r own G env vs led s){l:Addr}{items:List Value}{m:Nat}(hl:s.heap.get? l=some (listOf items.toArray m))
 (h:∀I s',St K r own G env vs ((I,{cls:=.type "list_iterator",data:=.fields #[.ref l,.int 0 0]})::led) s'→Q (.ref I) s'):wpAny (model prog w) A (pyIter (.ref l)) Q E s:=
 wpAny_pyIter_list (items:=items.toArray) ⟨_,hl,rfl,m,rfl⟩ (h _ _ (S.push _ s.toks))
theorem self_list{I l:Addr}{o:Obj}{i:Nat}{s:Shared}{Q:Value→Shared→Prop}(ho:s.heap.get? I=some o)(h1:o.cls=.type "list_iterator")(h2:o.data=.fields #[.ref l,.int i 0])(h:Q (.ref I) s):wpAny (model prog w) A (pyIter (.ref I)) Q E s:=
 wpAny_pyIter_listiter (l:=l) (i:=i) ⟨o,ho,h1,h2⟩ h
theorem comp_tups{elt iter:Expr}{ifs:List Expr}{scope:Scope}{pos tpos:Pos}{use:Option (Value→Sem Unit)}{los owns:List Str}{fr:List (Str×Value)}{elts:List Expr}{kt:Nat}{I l:Addr}{items:List Value}{m ar:Nat}
 (C:CompSc scope los owns (fr.map (·.1))) (hfr:∀p∈fr,(p.1,some p.2)∈vs∧env.kindOf p.1=some .cell) (hA:A.handled=none)
 (S:St K r own G env vs ((I,{cls:=.type "list_iterator",data:=.fields #[.ref l,.int 0 0]})::led) s) (hl:G l=some (listOf items.toArray m)) (hz:items.length≤1000)
 (hT:∀i<items.length,∃(T:Addr) (n:Nat) (ws:List Value),items[i]? =some (.ref T)∧G T=some (tupOf ws.toArray n)∧ws.length=ar) (out:Nat→Option D)
 (har:∀env,(assignEach elts env).length=ar) (hstar:∀env,(assignEach elts env).findIdx? (·.1)=none)
 (turn:∀i T nT ws G' cenv lv ledc s E' Y N,i<items.length→items[i]? =some (.ref T)→G T=some (tupOf ws.toArray nT)→GLe G G'→(∀p∈led,p∈ledc)→CEnv scope env cenv los owns fr→lv.length=los.length→YOk K r (owf owns) cenv los fr ledc G' Y→NOk K r (owf owns) cenv los fr ledc G' N→St K r (owf owns) G' cenv (los.zip lv++fr.map fun p=>(p.1,some p.2)) ledc s→
  wpAny (model prog w) A (assignInOrder ((assignEach elts cenv).map (·.2)) ws) (tuq (model prog w) A E' cenv ifs elt (out i) Y N) E' s)
 (fin:∀G' ys n' M C oC s',GLe G G'→IsAll G' ys ((List.range items.length).filterMap out)→St K r own G' env vs ((C,oC)::(M,listOf ys.toArray n')::led) s'→(∃m,s'.heap.Ns C m)→compPost (model prog w) A E use Q (.ref M) C (.ok .next) s'):
 CompRest prog w A E env elt (.Tuple elts kt tpos) iter ifs scope pos use Q (.ref I) s:=
 comp_go (os:=[(I,_)]) C hfr (fun G' cenv hg=>Src.tups hg hA hl I hT (har cenv) (hstar cenv)) (fun s Q E ho hQ=>self_list (ho _ (.head _)) rfl rfl hQ) S ⟨_,rfl,rfl,rfl⟩ hz out
  (fun i ws G' cenv lv ledc s E' Y N hi h hG hled CE hlv hY hN S=>h.elim fun T h=>h.elim fun nT h=>turn i T nT ws G' cenv lv ledc s E' Y N hi h.1 h.2 hG hled CE hlv hY hN S) fin
theorem range_bind{α:Type}(l:List α)(f:α→Option D):(List.range l.length).filterMap (fun j=>(l[j]?).bind f)=l.filterMap f:=by
 have h:=pick_range l 0 l.length J22;rw[List.drop_zero,List.take_length]at h;have h2:(List.range l.length).map (0+·)=List.range l.length:=by
  refine(List.map_congr_left fun i _=>?_).trans (List.map_id _);simp
 rw[h2]at h
 conv=>rhs;rw[←h]
 rw[List.filterMap_filterMap]
theorem fm_map{α:Type}(l:List α)(h:α→D):l.filterMap (fun c=>some (h c))=l.map h:=congrFun List.filterMap_eq_map' l
theorem fm_filter{α:Type}(p:α→Bool)(h:α→D)(l:List α):l.filterMap (fun c=>if p c then some (h c)else none)=(l.filter p).map h:=by
 induction l with
 |nil=>rfl
 |cons c l ih=>rw[List.filterMap_cons,List.filter_cons];cases p c<;>simp[ih]
theorem comp_lst{α:Type}{elt iter:Expr}{x:Str}{px:Pos}{ifs:List Expr}{scope:Scope}{pos:Pos}{use:Option (Value→Sem Unit)}{los owns:List Str}{fr:List (Str×Value)}{I l:Addr}{items:List Value}{m:Nat}{cs:List α}{g:α→D}{outs:List D}(f:α→Option D)
 (C:CompSc scope los owns (fr.map (·.1))) (hfr:∀p∈fr,(p.1,some p.2)∈vs∧env.kindOf p.1=some .cell) (hA:A.handled=none)
 (S:St K r own G env vs ((I,{cls:=.type "list_iterator",data:=.fields #[.ref l,.int 0 0]})::led) s) (hl:G l=some (listOf items.toArray m)) (hall:IsAll G items (cs.map g)) (hz:cs.length≤1000) (ho:cs.filterMap f=outs)
 (turn:∀c v G' cenv lv ledc s E' Y N,c∈cs→Is G' v (g c)→GLe G G'→(∀p∈led,p∈ledc)→CEnv scope env cenv los owns fr→lv.length=los.length→YOk K r (owf owns) cenv los fr ledc G' Y→NOk K r (owf owns) cenv los fr ledc G' N→St K r (owf owns) G' cenv (los.zip lv++fr.map fun p=>(p.1,some p.2)) ledc s→
  wpAny (model prog w) A (storeName cenv x v) (tuq (model prog w) A E' cenv ifs elt (f c) Y N) E' s)
 (fin:∀G' ys n' M C oC s',GLe G G'→IsAll G' ys outs→St K r own G' env vs ((C,oC)::(M,listOf ys.toArray n')::led) s'→(∃m,s'.heap.Ns C m)→compPost (model prog w) A E use Q (.ref M) C (.ok .next) s'):
 CompRest prog w A E env elt (.Name x px) iter ifs scope pos use Q (.ref I) s:=by
 have hil:=hall.length;rw[List.length_map]at hil;refine comp_go (os:=[(I,_)]) C hfr (fun G' cenv hg=>Src.of (Itr.list hA (hg _ _ hl) I)) (fun s Q E ho hQ=>self_list (ho _ (.head _)) rfl rfl hQ) S ⟨_,rfl,rfl,rfl⟩ (by rw[hil];exact hz) (fun j=>(cs[j]?).bind f) (fun i ws G' cenv lv ledc s E' Y N hi h hG hled CE hlv hY hN S=>?_)
  (fun G' ys n' M C oC s' hG hys S hm=>fin G' ys n' M C oC s' hG (by rw[hil,range_bind,ho]at hys;exact hys) S hm)
 refine x1_1 h fun v eq1=>?_;clear h;subst eq1;intro hv;have hi':i<cs.length:=by rw[←hil];exact hi
 rw[List.getElem?_eq_getElem hi'];exact wpAny_assign_Name (turn cs[i] v G' cenv lv ledc s E' Y N (List.getElem_mem hi') ((hall.of_get hv (d:=g cs[i]) (by simp[hi'])).mono hG) hG hled CE hlv hY hN S)
theorem comp_tupD{α:Type}{elt iter:Expr}{ifs:List Expr}{scope:Scope}{pos tpos:Pos}{use:Option (Value→Sem Unit)}{los owns:List Str}{fr:List (Str×Value)}{elts:List Expr}{kt:Nat}{I l:Addr}{items:List Value}{m ar:Nat}{cs:List α}{gl:α→List D}{outs:List D}(f:α→Option D)
 (C:CompSc scope los owns (fr.map (·.1))) (hfr:∀p∈fr,(p.1,some p.2)∈vs∧env.kindOf p.1=some .cell) (hA:A.handled=none)
 (S:St K r own G env vs ((I,{cls:=.type "list_iterator",data:=.fields #[.ref l,.int 0 0]})::led) s) (hl:G l=some (listOf items.toArray m)) (hall:IsAll G items (cs.map fun c=>.tup (gl c))) (hz:cs.length≤1000) (hgl:∀c,(gl c).length=ar) (ho:cs.filterMap f=outs)
 (turn:∀c ws G' cenv lv ledc s E' Y N,c∈cs→IsAll G' ws (gl c)→GLe G G'→(∀p∈led,p∈ledc)→CEnv scope env cenv los owns fr→lv.length=los.length→YOk K r (owf owns) cenv los fr ledc G' Y→NOk K r (owf owns) cenv los fr ledc G' N→St K r (owf owns) G' cenv (los.zip lv++fr.map fun p=>(p.1,some p.2)) ledc s→
  wpAny (model prog w) A (assignInOrder ((assignEach elts cenv).map (·.2)) ws) (tuq (model prog w) A E' cenv ifs elt (f c) Y N) E' s)
 (fin:∀G' ys n' M C oC s',GLe G G'→IsAll G' ys outs→St K r own G' env vs ((C,oC)::(M,listOf ys.toArray n')::led) s'→(∃m,s'.heap.Ns C m)→compPost (model prog w) A E use Q (.ref M) C (.ok .next) s')
 (har:∀env,(assignEach elts env).length=ar:=by intro _;rfl) (hstar:∀env,(assignEach elts env).findIdx? (·.1)=none:=by intro _;rfl):
 CompRest prog w A E env elt (.Tuple elts kt tpos) iter ifs scope pos use Q (.ref I) s:=by
 have hil:=hall.length;rw[List.length_map]at hil;refine comp_tups (ar:=ar) C hfr hA S hl (by rw[hil];exact hz) (fun i hi=>?_) (fun j=>(cs[j]?).bind f) har hstar (fun i T nT ws G' cenv lv ledc s E' Y N hi hv hT hG hled CE hlv hY hN S=>?_)
  (fun G' ys n' M C oC s' hG hys S hm=>fin G' ys n' M C oC s' hG (by rw[hil,range_bind,ho]at hys;exact hys) S hm)
 ·have hi':i<cs.length:=by rw[←hil];exact hi
  have h:=hall.of_get (List.getElem?_eq_getElem hi) (d:=.tup (gl cs[i])) (by simp[hi']);refine h.tupI fun a vs n e h1 h2=>⟨a,n,vs,?_,h1,?_⟩
  ·rw[List.getElem?_eq_getElem hi,e]
  ·rw[h2.length,hgl]
 ·have hi':i<cs.length:=by rw[←hil];exact hi
  rw[List.getElem?_eq_getElem hi'];exact turn cs[i] ws G' cenv lv ledc s E' Y N (List.getElem_mem hi') (((hall.of_get hv (d:=.tup (gl cs[i])) (by simp[hi'])).tup_at hT).mono hG) hG hled CE hlv hY hN S
end
noncomputable abbrev Te:=Int×Nat×Nat×List (List Nat)
noncomputable def tD(e:Te):D:=.tup [.int e.1,.int e.2.1,.int e.2.2.1,.lst (e.2.2.2.map fun b=>.str (mkS b))]
noncomputable def octs(b:List Nat):Array UInt8:=(b.map (·.toUInt8)).toArray
noncomputable def tB(e:Te):D:=.tup [.int e.1,.int e.2.1,.int e.2.2.1,.lst (e.2.2.2.map fun b=>.byt (octs b))]
theorem range_pick{α β:Type}(x:List α)(g:α→β):(List.range x.length).filterMap (fun i=>(x[i]?).map g)=x.map g:=by
 have h:=pick_range x 0 x.length J22;rw[List.drop_zero,List.take_length]at h;have h2:(List.range x.length).map (0+·)=List.range x.length:=by
  refine(List.map_congr_left fun i _=>?_).trans (List.map_id _);simp
 rw[h2]at h
 conv=>rhs;rw[←h]
 rw[List.map_filterMap]
theorem in_octets_fn(pm:Value):FnOk (fdOf (topSt 27) "_law_in_octets" .none 257 pm) ["told"] [] (bodyOf (topSt 27)) where
 body:=rfl
 clo:=rfl
 gl:=rfl
 bi:=rfl
 fn:=rfl
 co:=rfl
 gen:=rfl
 bind:=by
  intro vals h;obtain⟨a,rfl⟩:=len1 h;rfl
 ndS:=show((scopeOf (topSt 27)).names.map (·.1)).Nodup by decide+kernel
 names:=names_ok (sc:=scopeOf (topSt 27)) (by decide+kernel)
 nd:=by decide+kernel
section
variable{prog:Program}{w:World}{A:Around}{E:Value→Shared→Prop}{K:GH}{mg mb:Str→Option Value}{p0 p1 p2 p3:Value}{r:Shared}{own:Str→Bool}{G:GH}{env:Env}{vs vs':Vs}{led led':List (Addr×Obj)}{s:Shared}{Q:Value→Shared→Prop}
theorem ints_are'{G:GH}{x:List Int}:∀{its:List Value},IsAll G its (x.map D.int)→IntsAre its x:=by
 induction x with
 |nil=>intro its h;rw[IsAll.nilI h];exact .nil
 |cons c x ih=>intro its h;exact IsAll.consI h fun v vs e h1 h2=>by obtain⟨t,rfl⟩:=h1.intI;rw[e];exact .cons _ _ (ih h2)
theorem ints_are{G:GH}{its:List Value}{x:List Nat}(h:IsAll G its (x.map fun c:Nat=>D.int (c:Int))):IntsAre its (x.map fun c:Nat=>(c:Int)):=ints_are' (by rw[List.map_map];exact h)
theorem bytes_of(S:St K r own G env vs ((l,listOf its.toArray n)::led) s){x:List Nat}(hA:A.handled=none)(hi:IsAll G its (x.map fun c:Nat=>D.int (c:Int)))(hr:∀c∈x,c<256)(hz:x.length<1000)
 (h:∀t s',St K r own G env vs led s'→Q (.bytes (octs x) t) s'):wpAny (model prog w) A (call (.type "bytes") [.ref l]) Q E s:=by
 have hl:s.heap.IsList l its.toArray:=⟨_,S.get (.head _),rfl,n,rfl⟩;refine call_bytes_ints hl (ints_are hi) (fun c hc=>?_) ?_ hA fun h' t k hk=>?_
 ·refine x1_1 (List.mem_map.mp hc) fun c' hc' eq2=>?_;subst eq2;have:=hr c' hc';exact J95 this
 ·have:=hi.length;simp at this;rw[this];exact Nat.le_trans (Nat.le_of_lt hz) (by decide)
 ·have e:byteArr (x.map fun c:Nat=>(c:Int))=octs x:=by
   unfold byteArr octs;rw[List.map_map];rfl
  rw[e];exact h t _ (S.drop.keep hk)
theorem ord_comp{px po pc pt pos:Pos}{iter:Expr}{scope:Scope}(B:B1 K mg mb p0 p1 p2 p3)(hA:A.handled=none)(S:St K r own G env vs led s)(hsc:compScB scope ["sign"] [] []=true)(hgl:scope.names.lookup (Str.ofString "ord")=some .globalImplicit)
 (h:wpAny (model prog w) A (eval iter env) (fun v s₁=>∃x t G1 vs1 led1,v=.str (mkS x) t∧(∀c∈x,c<128)∧x.length<1000∧St K r own G1 env vs1 led1 s₁∧∀M ys n G2 s₂,GLe G1 G2→IsAll G2 ys (x.map fun c:Nat=>D.int (c:Int))→St K r own G2 env vs1 ((M,listOf ys.toArray n)::led1) s₂→Q (.ref M) s₂) E s)
 (hs:∀x,foldedSetIterable iter env x=pure x:=by intro _;rfl):
 wpAny (model prog w) A (eval (.ListComp (.Call (.Name "ord" px) [.Name "sign" po] [] pc) [⟨.Name "sign" pt,iter,[],0⟩] scope pos) env) Q E s:=by
 refine lcomp (fr:=[]) S (CompSc.of hsc) (by simp) (wpAny_mono h (fun v s₁ h=>?_) fun _ _ x=>x) hs;refine x5_4 h fun x t G1 vs1 led1 eq5=>?_;clear h;subst eq5;intro hx hz S hk;refine str_it S hx fun I s₂ S=>?_;refine comp_go (os:=[(I,_)]) (fr:=[]) (n:=(mkS x).cps.size) (CompSc.of hsc) (by simp) (fun G' cenv _=>Src.of (Itr.str (x:=mkS x) (t:=t) hA I)) ?_ S ⟨_,rfl,rfl,rfl⟩ (by simp;exact J81 hz) (fun i=>(x[i]?).map fun c:Nat=>D.int (c:Int)) ?_ ?_
 ·intro s Q E ho hQ;exact wpAny_pyIter_striter_ascii (x:=mkS x) (t:=t) (i:=0) ⟨_,ho _ (.head _),rfl,rfl⟩ hQ
 ·intro i ws G' cenv lv ledc sa E' Y N hi h hG hled CE hlv hY hN;obtain⟨v,rfl,c,u,hc,rfl⟩:=h;refine lenE1 hlv fun v0=>?_;intro(S:St K r (owf []) G' cenv [("sign",v0)] ledc sa);have hc':x[i]? =some c:=by simpa[mkS]using hc
  refine wpAny_assign_Name (S.store (vs':=[("sign",some (.str ⟨#[c]⟩ u))]) .here (CE.st _ (.head _)) fun sb S=>?_);refine tuq_nil (by rw[hc'];rfl) ?_;refine cblt S B.toTp (gs:=["ord"]) (fun y hy=>?_) B.b_ord (by walk_at"mem") (arg ?_)
  ·rw[List.mem_singleton]at hy;subst hy;exact⟨by decide+kernel,CE.gl _ hgl⟩
  walk_at"name";refine argE (P.ord_of_char ?_);exact hY _ _ _ G' [some (.str ⟨#[c]⟩ u)] (GLe.refl _) rfl (S.tok _) (.int _ _)
 ·intro G' ys n' M C oC s' hG hall S hm;refine fin_none S hm fun s₂ S=>hk M ys n' G' s₂ hG ?_ S;have e:(List.range (mkS x).cps.size).filterMap (fun i=>(x[i]?).map fun c:Nat=>D.int (c:Int))=x.map fun c:Nat=>D.int (c:Int):=by
   have h1:(mkS x).cps.size=x.length:=by simp[mkS]
   rw[h1];exact range_pick x _
  rw[←e];exact hall
end
section
variable{prog:Program}{w:World}{K:GH}{mg mb:Str→Option Value}{p0 p1 p2 p3:Value}
def TOk(e:Te):Prop:=e.2.2.2.length≤100∧∀b∈e.2.2.2,b.length<1000∧∀c∈b,c<128
theorem in_octets_ok{A:Around}(B:B1 K mg mb p0 p1 p2 p3)(hA:Rm 6 A){s:Shared}{G0:GH}{v:Value}{es:List Te}{R:Result→Shared→Prop}
 (hG0:∀a o,G0 a=some o→s.heap.get? a=some o) (hK:∀a o,K a=some o→s.heap.get? a=some o) (ht:Is G0 v (.lst (es.map tD))) (hes:∀e∈es,TOk e) (hl:es.length≤100)
 (k:∀h t G v,(∀b o,s.heap.get? b=some o→h.get? b=some o)→(∀a o,G a=some o→h.get? a=some o)→Is G v (.lst (es.map tB))→R (.ok (.ret v)) {s with heap:=h,toks:=t}):
 codeAny (model prog w) A (.call (.ref 258) ⟨[v],[]⟩) R s:=by
 have ht:=ht.mono (G':=s.heap.get?) hG0;refine ht.lstI fun l items m ev hitl hall=>?_;subst ev;refine enter (led:=[]) B.toTp B.f_law_in_octets (in_octets_fn p3) hA.room rfl (vs:=[("told",some (.ref l))]) rfl hK (by simp) (by simp) fun env s' hkd hsc S=>?_;rw[but_nil]at S;have hA':=hA.deep env;have hil:=hall.length;simp only[List.length_map]at hil;refine xc (xret ?_);refine lcomp (fr:=[]) (los:=["least","stop","ways","blocks"]) (owns:=[]) S (CompSc.of (by decide+kernel)) (by simp) ?_;walk_at"name";refine lst_it S (S.at hitl) fun I s₁ S=>?_;refine comp_tupD (ar:=4) (cs:=es) (gl:=fun e=>[.int e.1,.int e.2.1,.int e.2.2.1,.lst (e.2.2.2.map fun b=>.str (mkS b))]) (los:=["least","stop","ways","blocks"]) (owns:=[]) (fr:=[]) (fun e=>some (tB e)) (CompSc.of (by decide+kernel)) fr_nil hA'.hd S hitl hall (J116 hl) (fun _=>rfl) (fm_map _ _) ?_ ?_
 ·intro e ws G' cenv lv ledc sa E' Y N he h4 hG hled CE hlv hY _;refine lenE4 hlv fun v0 v1 v2 v3=>?_;have hee:TOk e:=hes e he;obtain⟨e1,e2,e3,e4⟩:=e;refine h4.four fun w1 w2 w3 w4 q1 q2 q3 q4=>?_;intro(S:St K s (owf []) G' cenv [("least",v0),("stop",v1),("ways",v2),("blocks",v3)] ledc sa);refine put_cons (S.store (vs':=[("least",some w1),("stop",v1),("ways",v2),("blocks",v3)]) (by walk_at"pv") (CE.st _ (by walk_at"mem")) fun s₁ S=>put_cons (S.store (vs':=[("least",some w1),("stop",some w2),("ways",v2),("blocks",v3)]) (by walk_at"pv") (CE.st _ (by walk_at"mem")) fun s₁ S=>put_cons (S.store (vs':=[("least",some w1),("stop",some w2),("ways",some w3),("blocks",v3)]) (by walk_at"pv") (CE.st _ (by walk_at"mem")) fun s₁ S=>put_cons (S.store (vs':=[("least",some w1),("stop",some w2),("ways",some w3),("blocks",some w4)]) (by walk_at"pv") (CE.st _ (by walk_at"mem")) fun s₁ S=>put_nil ?_))));refine tuq_nil rfl (tupE S (arg ?_));walk_at"name";refine arg ?_;walk_at"name";refine arg ?_;walk_at"name";refine arg ?_;refine q4.lstI fun lb bits mb' ev hbl hball=>?_;subst ev;refine lcomp (fr:=[]) (los:=["block"]) (owns:=[]) S (CompSc.of (by decide+kernel)) fr_nil ?_;walk_at"name";refine lst_it S (S.at hbl) fun I s₁ S=>?_;refine comp_lst (cs:=e4) (g:=fun b=>.str (mkS b)) (fr:=[]) (los:=["block"]) (owns:=[]) (fun b=>some (D.byt (octs b))) (CompSc.of (by decide+kernel)) fr_nil hA'.hd S hbl hball (Nat.le_trans hee.1 (by decide)) (fm_map _ _) ?_ ?_
  ·intro b v G'' cenv' lv ledc' sb E'' Y2 _ hb hv hG'' hled' CE' hlv hY2 _;have hb:=hee.2 b hb;refine hv.strE fun t'=>?_;refine lenE1 hlv fun v0=>?_;intro(S:St K s (owf []) G'' cenv' [("block",v0)] ledc' sb);refine S.store (vs':=[("block",some (.str (mkS b) t'))]) .here (CE'.st _ (.head _)) fun sb S=>tuq_nil rfl ?_;have gl:Gl cenv' ["bytes"]:=fun y hy=>by rw[List.mem_singleton]at hy;subst hy;exact⟨by decide+kernel,CE'.gl _ (by decide+kernel)⟩
   refine ctyp S B.toTp gl B.b_bytes (by walk_at"mem") (arg ?_);refine ord_comp B hA'.hd S (by decide+kernel) (by decide+kernel) ?_;walk_at"name";refine⟨_,_,_,_,_,rfl,hb.2,hb.1,S,fun M ys n G2 s₂ g2 hys S=>argE ?_⟩;refine bytes_of S hA'.hd hys (fun c hc=>Nat.lt_trans (hb.2 c hc) (by decide)) hb.1 fun t s₃ S=>?_;exact hY2 _ _ _ G2 [some (.str (mkS b) t')] g2 rfl S (.byt _ _)
  ·intro G'' ys n' M C oC s₂ hG'' hys S hm;refine fin_none S hm fun s₂ S=>?_;refine x1_2 S.ice fun G3 S g3 h3=>?_;refine argE ⟨_,_,_,S,by simp,fun T s₃ S=>?_⟩;refine x1_2 S.ice fun G4 S g4 h4=>?_;have g:=g3.trans g4;have gg:=hG''.trans g;exact hY _ _ _ G4 [some w1,some w2,some w3,some (.ref lb)] gg rfl S (.tup h4 (.cons (q1.mono gg) (.cons (q2.mono gg) (.cons (q3.mono gg) (.cons (.lst (g4 _ _ h3) (hys.mono g)) .nil)))))
 ·intro G' ys n' M C oC s₂ hG hys S hm;refine fin_none S hm fun s₂ S=>?_;refine x1_2 S.ice fun G3 S g3 h3=>?_;refine x2_0 S.same fun h₀ t₀ eq2=>?_;subst eq2;exact k h₀ t₀ G3 _ (fun b o e=>S.sub b o (g3 b o (hG b o e))) S.sub (.lst h3 (hys.mono g3))
end
noncomputable def bestD(b x:D):D:=if x.lt b then x else b
noncomputable def minD:List D→D
 |[]=>.int 0
 |d::r=>r.foldl bestD d
section
variable{prog:Program}{w:World}{A:Around}{E:Value→Shared→Prop}{R:Result→Shared→Prop}{K:GH}{mg mb:Str→Option Value}{p0 p1 p2 p3:Value}{r:Shared}{own:Str→Bool}{G:GH}{env:Env}{vs vs':Vs}{led led':List (Addr×Obj)}{s:Shared}{Q:Value→Shared→Prop}
theorem min_loop{l:Addr}{items:List Value}{m dp:Nat}{ds:List D}{I S:Addr}(hA:Rm dp A.in1)(hl:G l=some (listOf items.toArray m))(hall:IsAll G items ds)(hSI:S≠I)(hGI:G I=none)(hGS:G S=none)
 (hkin:∀a∈ds,∀b∈ds,Kin a b) (hdep:∀a∈ds,a.dep≤dp):
 ∀(k j:Nat) (s:Shared) (vb:Value) (db:D) (c:Nat) (o:Obj),items.length-(j+1)=k→j+1≤items.length→(∀a ob,G a=some ob→s.heap.get? a=some ob)→s.heap.get? I=some o→
  o.cls=.type "list_iterator"→o.data=.fields #[.ref l,.int (j+1:Nat) 0]→Is G vb db→db∈ds→
  s.heap.get? S=some {cls:=.type "list",dict:=none,data:=.seq #[vb,vb] c,slots:= #[]}→
  (∀v h' tk,Is G v ((ds.drop (j+1)).foldl bestD db)→(∀b ob,b≠I→b≠S→s.heap.get? b=some ob→h'.get? b=some ob)→R (.ok (.ret v)) {s with heap:=h',toks:=tk})→
  codeAny (model prog w) A (.builtin "min.loop" ⟨[.ref I,.none,.ref S],[]⟩) R s:=by
 have hname:(toString "min" ++toString ".loop" :String)= "min.loop" :=by decide
 have W:Itr prog w A.in1 G I items.length _ _:=Itr.list hA.hd hl I;have hlen:=hall.length;intro k
 induction k with
 |zero=>
  intro j s vb db c o hk hj hG hI hc hd hvb hdb hS hR;have hin:j+1=items.length:=J449 hj hk;refine codeAny_builtin F.entry_min_loop ?_;rw[Around.under_plainId F.plain_min_loop _];show wpAny _ A.in1 (seqItems? (.ref S)>>=_) _ _ s;refine wpAny_bind (wpAny_seqItems hS rfl ?_);show wpAny _ A.in1 (tryCatch (pyNext (.ref I)) _ >>=_) _ _ s;refine wpAny_bind (wpAny_tryCatch (W.done s o _ _ hG hI ⟨hc,by rw[←hin];exact hd⟩ fun h' tk hk'=>?_));have hS':=hk' S _ hSI hS;show wpAny _ A.in1 (updateSeq S (fun _=> #[])>>=_) _ _ _;refine wpAny_bind ?_;refine wpAny_updateSeq hS' rfl (wpAny_bind (wpAny_letGo (wpAny_pure ?_)));refine hR vb _ tk (by rw[List.drop_of_length_le (J417 hin hlen)];exact hvb) fun b ob hbI hbS e=>(Heap.get?_update_other _ _ (Ne.symm hbS)).trans (hk' b ob hbI e)
 |succ k ih=>
  intro j s vb db c o hk hj hG hI hc hd hvb hdb hS hR;have hlt:j+1<items.length:=J509 hk;have hlt':j+1<ds.length:=J416 hlt hlen;refine codeAny_builtin F.entry_min_loop ?_;rw[Around.under_plainId F.plain_min_loop _];show wpAny _ A.in1 (seqItems? (.ref S)>>=_) _ _ s;refine wpAny_bind (wpAny_seqItems hS rfl ?_);show wpAny _ A.in1 (tryCatch (pyNext (.ref I)) _ >>=_) _ _ s;refine wpAny_bind (wpAny_tryCatch (W.item (j+1) s o _ _ hlt hG hI ⟨hc,hd⟩ fun v h' o' tk hv hO' ho' hsb=>?_));have hS':h'.get? S=_:=(hsb.2 S hSI).trans hS;have hG':∀a ob,G a=some ob→h'.get? a=some ob:=fun a ob e=>(hsb.2 a fun z=>by rw[z,hGI]at e;cases e).trans (hG a ob e);refine x1_1 (hall.get (i:=j+1) (d:=ds[j+1]) (by simp[hlt'])) fun v' hv' hvd=>?_;rw[hv]at hv';cases hv';have hdm:ds[j+1]∈ds:=List.getElem_mem hlt';rw[List.drop_eq_getElem_cons hlt',List.foldl_cons]at hR;show wpAny _ A.in1 (tryCatch (holding [v,v] (richCompare .Lt v vb >>=_)) _ >>=_) _ _ _;refine wpAny_bind (wpAny_tryCatch (wpAny_holding (wpAny_bind (lt_is (s:={s with heap:=h',toks:=tk}) hG' dp hA (hdep _ hdm) hvd hvb (hkin _ hdm _ hdb) prog w _ _ ?_))));refine wpAny_bind (wpAny_holding (wpAny_truthy_bool ?_));refine wpAny_bind (wpAny_letGo (wpAny_pure ?_));cases hb:ds[j+1].lt db with
  |true=>
   simp only[if_true];refine wpAny_bind ?_;refine wpAny_updateSeq hS' rfl (wpAny_bind (wpAny_letGo ?_));rw[hname];have hbest:bestD db ds[j+1]=ds[j+1]:=by unfold bestD;rw[if_pos hb]
   rw[hbest]at hR;refine wpAny_pure ⟨plainId_quiet F.plain_min_loop _,ih (j+1) _ v _ _ o' (J508 hk) hlt (fun a ob e=>?_) ?_ hO'.1 hO'.2 hvd hdm (Heap.get?_update_self _ hS' rfl) fun v' h'' tk'' hP' hk''=>?_⟩
   ·exact(Heap.get?_update_other _ _ (fun h:S=a=>by rw[←h,hGS]at e;cases e)).trans (hG' a ob e)
   ·exact(Heap.get?_update_other _ _ hSI).trans ho'
   ·exact hR v' h'' tk'' hP' fun b ob hbI hbS e=>hk'' b ob hbI hbS ((Heap.get?_update_other _ _ (Ne.symm hbS)).trans ((hsb.2 b hbI).trans e))
  |false=>
   simp only[Bool.false_eq_true,if_false];refine wpAny_bind (wpAny_letGo ?_);rw[hname];have hbest:bestD db ds[j+1]=db:=by unfold bestD;rw[if_neg (by simp[hb])]
   rw[hbest]at hR;refine wpAny_pure ⟨plainId_quiet F.plain_min_loop _,ih (j+1) _ vb db c o' (J508 hk) hlt hG' ho' hO'.1 hO'.2 hvb hdb hS' fun v' h'' tk'' hP' hk''=>?_⟩;exact hR v' h'' tk'' hP' fun b ob hbI hbS e=>hk'' b ob hbI hbS ((hsb.2 b hbI).trans e)
theorem min_data(S:St K r own G env vs led s){l:Addr}{items:List Value}{m dp:Nat}{ds:List D}(hA:Rm (dp+1) A)(hl:G l=some (listOf items.toArray m))(hall:IsAll G items ds)(hne:ds≠[])
 (hkin:∀a∈ds,∀b∈ds,Kin a b) (hdep:∀a∈ds,a.dep≤dp) (h:∀v s',Is G v (minD ds)→St K r own G env vs led s'→Q v s'):wpAny (model prog w) A (call (.builtin "min") [.ref l]) Q E s:=by
 have hname:(toString "min" ++toString ".loop" :String)= "min.loop" :=by decide
 have hA1:Rm dp A.in1:=hA.in1;have hlen:=hall.length;have hpos:0<items.length:=by
  cases ds with
  |nil=>exact absurd rfl hne
  |cons=>simp at hlen;exact J230 hlen
 refine call_function_tree F.kind_min F.plain_min F.entry_min (F.args_min1 _) ?_;show wpAny _ A.in1 (Builtin.Builtins.bindParams "min" ["key","default"] 0 ⟨[],[]⟩>>=_) _ _ s;refine wpAny_bind (wpAny_of_eq (show Builtin.Builtins.bindParams "min" ["key","default"] 0 ⟨[],[]⟩=pure [none,none]from rfl) ?_);refine wpAny_bind (wpAny_pure ?_);refine wpAny_bind (lst_it S (S.at hl) fun I s₁ S=>?_);refine wpAny_bind (wpAny_newObj_type ?_);have S1:=S.push {cls:=.type "list",data:=.seq ([]:List Value).toArray} s₁.toks;have hGI:=(S1.ld _ (.tail _ (.head _))).2.1;have hGS:=(S1.ld _ (.head _)).2.1;have hIget:=S1.get (.tail _ (.head _));have hSget:=S1.get (.head _);have hnd:=S1.nd;generalize hs2:({s₁ with heap:=s₁.heap.push {cls:=.type "list",data:=.seq ([]:List Value).toArray},toks:=s₁.toks}:Shared)=s₂ at S1 hIget hSget;generalize s₁.heap.objs.size=M at *;have hMI:M≠I:=by
  rw[List.map_cons,List.nodup_cons]at hnd;intro e;exact hnd.1 (by rw[e];exact .head _)
 rw[hname];refine wpAny_pure ⟨plainId_quiet F.plain_min_loop _,?_⟩;have W:Itr prog w A.in1 G I items.length _ _:=Itr.list hA1.hd hl I;refine codeAny_builtin F.entry_min_loop ?_;rw[Around.under_plainId F.plain_min_loop _];show wpAny _ A.in1 (seqItems? (.ref M)>>=_) _ _ s₂;refine wpAny_bind (wpAny_seqItems hSget rfl ?_);show wpAny _ A.in1 (tryCatch (pyNext (.ref I)) _ >>=_) _ _ s₂;refine wpAny_bind (wpAny_tryCatch (W.item 0 s₂ _ _ _ hpos S1.sub hIget ⟨rfl,rfl⟩ fun v h' o' tk hv hO' ho' hsb=>?_));have hS':h'.get? M=_:=(hsb.2 M hMI).trans hSget;have hG':∀a ob,G a=some ob→h'.get? a=some ob:=fun a ob e=>(hsb.2 a fun z=>by rw[z,hGI]at e;cases e).trans (S1.sub a ob e);cases ds with
 |nil=>exact absurd rfl hne
 |cons d0 ds=>
 refine x1_1 (hall.get (i:=0) (d:=d0) rfl) fun v' hv' hvd=>?_;rw[hv]at hv';cases hv';show wpAny _ A.in1 (updateSeq M (fun _=> #[v,v])>>=_) _ _ _;refine wpAny_bind ?_;refine wpAny_updateSeq hS' rfl ?_;rw[hname];refine wpAny_pure ⟨plainId_quiet F.plain_min_loop _,min_loop hA1 hl hall hMI hGI hGS hkin hdep _ 0 _ v d0 _ o' rfl hpos (fun a ob e=>?_) ?_ hO'.1 hO'.2 hvd (.head _) (Heap.get?_update_self _ hS' rfl) fun v' h'' tk'' hP' hk''=>?_⟩
 ·exact(Heap.get?_update_other _ _ (fun h:M=a=>by rw[←h,hGS]at e;cases e)).trans (hG' a ob e)
 ·exact(Heap.get?_update_other _ _ hMI).trans ho'
 ·have S2:St K r own G env vs led {s₂ with heap:=h'',toks:=tk''}:=by
   have S3:=S1.perm (.swap _ _ _);refine St.cut (os:=[(I,_),(M,_)]) S3 fun b ob hb e=>?_;simp only[List.map_cons,List.map_nil,List.mem_cons,List.not_mem_nil,or_false,not_or]at hb;exact hk'' b ob hb.1 hb.2 ((Heap.get?_update_other _ _ (Ne.symm hb.2)).trans ((hsb.2 b hb.1).trans e))
  exact h v' _ hP' S2
theorem sum_lst(S:St K r own G env vs led s){l:Addr}{items:List Value}{m:Nat}{xs:List Int}(hA:A.handled=none)(hl:s.heap.get? l=some (listOf items.toArray m))(hi:IntsAre items xs)
 (h:∀t s',St K r own G env vs led s'→Q (.int xs.sum t) s'):wpAny (model prog w) A (call (.builtin "sum") [.ref l]) Q E s:=by
 have hn:=hi.numsOf;obtain⟨ys,hy⟩:=hi.allInts.items;have hn2:=nums_intItems ys;rw[←hy]at hn2;refine sum_intListG (xs:=ys) hA ⟨_,hl,rfl,m,by rw[hy]⟩ fun h' tk t' hk=>?_;rw[preSum_eq,List.take_of_length_le (by simp),←hn2];show Q (.int (numsOf items).sum t') _;rw[hn];exact h t' _ (S.keep hk)
inductive SlcLK(K:GH)(own:Str→Bool)(env:Env)(Q:Value→Shared→Prop)(o vl vu:Value)(s₃:Shared):Prop
 |mk (l:Addr) (items:Array Value) (n:Nat) (lo hi:Option Int) (r:Shared) (G:GH) (vs:Vs) (led:List (Addr×Obj)) (e1:o=.ref l) (e2:s₃.heap.get? l=some (listOf items n)) (e3:items.size<1000) (e4:IsPart vl lo) (e5:IsPart vu hi)
  (S:St K r own G env vs led s₃) (k:∀T s',St K r own G env vs ((T,listOf (slicePick items lo hi none) 0)::led) s'→Q (.ref T) s')
theorem slcL(_S:St K r own G env vs led s){value:Expr}{lower upper:Option Expr}{p pos:Pos}
 (h:wpAny (model prog w) A (eval value env) (fun o s₁=>wpAny (model prog w) A (evalPart lower env) (fun vl s₂=>wpAny (model prog w) A (evalPart upper env) (SlcLK K own env Q o vl) E s₂) E s₁) E s)
 (ht:∀o r,letTemporaryGo value o r=pure ():=by intro _ _;rfl):
 wpAny (model prog w) A (eval (.Subscript value (.Slice lower upper none p) pos) env) Q E s:=
 wpAny_Subscript_list_slice (wpAny_mono h (fun o s₁ h₁=>wpAny_mono h₁ (fun vl s₂ h₂=>wpAny_mono h₂ (fun vu s₃ ⟨l,items,n,lo,hi,r,G,vs,led,e1,e2,e3,e4,e5,S,k⟩=>by
  refine⟨l,items,lo,hi,e1,⟨_,e2,rfl,n,rfl⟩,Nat.le_trans (Nat.le_of_lt e3) (by decide),e4,e5,?_⟩;have S1:=(S.push {cls:=.type "slice",data:=.fields #[vl,vu,.none]} s₃.toks).drop.push (listOf (slicePick items lo hi none) 0) s₃.toks;rw[show(Shared.heap {s₃ with heap:=s₃.heap.push {cls:=.type "slice",data:=.fields #[vl,vu,.none]},toks:=s₃.toks}).objs.size=s₃.heap.objs.size+1 from Heap.size_push ..]at S1;exact k _ _ S1) fun _ _ x=>x) fun _ _ x=>x) fun _ _ x=>x) ht
theorem pick_mid(items:List Value):slicePick items.toArray (some 1) (some (-1)) none=((items.drop 1).take (items.length-2)).toArray:=by
 by_cases hz:items.length=0
 ·have:items=[]:=List.length_eq_zero_iff.mp hz;subst this;rfl
 have e:sliceBounds (some 1) (some (-1)) none items.toArray.size=(((1:Nat):Int),((items.length-1:Nat):Int),1):=by
  simp only[sliceBounds,Option.getD_none,show(1:Int)>0 by decide,if_true,List.size_toArray,show(-1:Int)<0 by decide,show¬(1:Int)<0 by decide,if_false];congr 1
  ·exact J140 hz
  ·congr 1;exact J54
 rw[kmk_pick_nat _ e];show((items.drop 1).take (items.length-1-1)).toArray=_;congr 2
theorem b_neg(S:St K r own G env vs led s){a:Int}{t:Tok}(h:∀t s',St K r own G env vs led s'→Q (.int (-a) t) s'):wpAny (model prog w) A (unaryOp .USub (.int a t)) Q E s:=PyProof.Rows.neg_int (h _ _ (S.tok _))
theorem ext_lst{l b:Addr}{items ys:List Value}{n m:Nat}{led':Nat→List (Addr×Obj)}(S:St K r own G env vs led s)(U:∀n',Up l (listOf items.toArray n) (listOf (items++ys).toArray n') led (led' n'))(hb:s.heap.get? b=some (listOf ys.toArray m))(hz:items.length+ys.length<1000)
 (h:∀n' s',St K r own G env vs (led' n') s'→Q .none s'):wpAny (model prog w) A (call (.builtin "list.extend") [.ref l,.ref b]) Q E s:=by
 have h0:=S.get (U 0).mem;have hbig:(1000:Nat)<sizeLine:=by decide
 obtain⟨n',S'⟩:=S.seq (items:=items) (fun x=>x++ys.toArray) (items++ys) (by simp) s.toks U;refine call_meets F.slot_list_extend ⟨_,h0,rfl⟩ F.entry_list_extend (F.args_list_extend_2 _ _) (AutoSeq1.list_extend_list_list_0 l items.toArray n b ys.toArray m ?_ (by simp;exact J398 hbig hz) (by simp;exact J397 hbig hz)) ⟨h0,hb,h n' _ S'⟩;simp only[List.size_toArray,Builtin.List.listTooLong,Bool.and_eq_true,not_and];intro _;simp;exact J396 hbig hz
theorem St.news(S:St K r own G env vs led s){h':Heap}{t:Nat}{os:List (Addr×Obj)}(hk:∀b o,s.heap.get? b=some o→h'.get? b=some o)(ho:∀p∈os,s.heap.get? p.1=none∧h'.get? p.1=some p.2)(hn:(os.map (·.1)).Nodup):
 St K r own G env vs (os++led) {s with heap:=h',toks:=t}:=by
 have S':=S.keep (t:=t) hk;refine⟨S'.same,S'.base,S'.sub,S'.eo,S'.fm,S'.gl,S'.gc,fun p hp=>?_,?_⟩
 ·rcases List.mem_append.mp hp with hp|hp
  ·obtain⟨h1,h2⟩:=ho p hp;refine⟨h2,?_,fun e=>?_,fun x c hc e=>?_⟩
   ·cases q:G p.1 with
    |none=>rfl
    |some o'=>exact absurd (S.sub _ o' q) (by rw[h1];simp)
   ·obtain⟨o',ho'⟩:=S.there;rw[←e,h1]at ho';cases ho'
   ·obtain⟨o',ho'⟩:=S.cthere hc;rw[←e,h1]at ho';cases ho'
  ·exact S'.ld p hp
 ·rw[List.map_append,List.nodup_append];refine⟨hn,S'.nd,fun a ha b hb e=>?_⟩;refine x1_1 (List.mem_map.mp ha) fun p hp eq2=>?_;subst eq2;refine x1_1 (List.mem_map.mp hb) fun q hq eq2=>?_;subst eq2;have:=(S.ld q hq).1;rw[←e,(ho p hp).1]at this;cases this
noncomputable abbrev lsIt(l:Addr)(i:Nat):Obj:={cls:=.type "list_iterator",data:=.fields #[.ref l,.int i 0]}
noncomputable abbrev zipO(TI TO:Addr)(f0:Value):Obj:={cls:=.type "zip",dict:=none,data:=.fields #[f0,.bool false,.bool false,.ref TI,.ref TO],slots:= #[]}
def ZipOs(z TI TO i1 i2 l1 l2:Addr)(i:Nat)(os:List (Addr×Obj)):Prop:=∃a b oi1 oi2,os=[(z,zipO TI TO .none),(TI,tupOf #[.ref i1,.ref i2] 0),(TO,tupOf #[a,b] 0),(i1,oi1),(i2,oi2)]∧
 oi1.cls=.type "list_iterator"∧oi1.data=.fields #[.ref l1,.int i 0]∧oi2.cls=.type "list_iterator"∧oi2.data=.fields #[.ref l2,.int i 0]
theorem Src.zip{G0:GH}(hg:GLe G0 G)(hA:A.handled=none){z TI TO i1 i2 l1 l2:Addr}{xs ys:List Value}{m1 m2:Nat}(h1:G0 l1=some (listOf xs.toArray m1))(h2:G0 l2=some (listOf ys.toArray m2))(hlen:xs.length=ys.length){e1 e2:Expr}{k:Nat}{pos:Pos}
 (har:(assignEach [e1,e2] env).length=2:=by rfl) (hstar:(assignEach [e1,e2] env).findIdx? (·.1)=none:=by rfl):
 Src prog w A G env (.Tuple [e1,e2] k pos) (.ref z) xs.length (fun i ws=>∃x y,ws=[x,y]∧xs[i]? =some x∧ys[i]? =some y) (ZipOs z TI TO i1 i2 l1 l2) where
 item:=by
  intro i s os Q E hi hG ho hn nq25;obtain⟨a,b,oi1,oi2,rfl,c1,d1,c2,d2⟩:=nq25;intro kk;have hlt2:i<ys.length:=J419 hi hlen;have gz:=ho _ (.head _);have gTI:=ho _ (.tail _ (.head _));have gTO:=ho _ (.tail _ (.tail _ (.head _)));have g1:=ho _ (.tail _ (.tail _ (.tail _ (.head _))));have g2:=ho _ (.tail _ (.tail _ (.tail _ (.tail _ (.head _)))));have hne:∀{c l:Addr} {o:Obj},G c=none→G l=some o→l≠c:=fun h h' e=>by rw[e,h]at h';cases h'
  simp only[List.map_cons,List.map_nil,List.nodup_cons,List.mem_cons,List.not_mem_nil,or_false,not_or,not_false_eq_true,List.nodup_nil,and_true]at hn;obtain⟨nq26,nq27,nq28,n10⟩:=hn;obtain⟨n1,n2,n3,n4⟩:=nq26;obtain⟨n5,n6,n7⟩:=nq27;obtain⟨n8,n9⟩:=nq28;have L1:=hg _ _ h1;have L2:=hg _ _ h2;have D:ZipApart z TI TO i1 i2 l1 l2:=⟨Ne.symm n1,Ne.symm n2,Ne.symm n3,Ne.symm n4,n5,n6,n7,n8,n9,n10,hne gz.2 L1,hne gTO.2 L1,hne g1.2 L1,hne g2.2 L1,hne gz.2 L2,hne gTO.2 L2,hne g1.2 L2,hne g2.2 L2⟩;refine wpAny_pyNext_zip_item (x:=xs[i]) (y:=ys[i]) D gz.1 gTI.1 gTO.1 ⟨oi1,g1.1,c1,d1⟩ ⟨oi2,g2.1,c2,d2⟩ (Is.list hG L1) (Is.list hG L2) (by simp[hi]) (by simp[hlt2]) fun h' a1 a2 a3 a4 a5 a6 a7=>⟨_,rfl,?_⟩;refine wpAny_letOwnedTupleGo_zip a1 fun h'' hz' hs'=>?_;have hzs:s.heap.objs.size≠z:=Nat.ne_of_gt (Heap.lt_size gz.1);have hT:h''.get? s.heap.objs.size=some (tupOf #[xs[i],ys[i]] 0):=(hs'.2 _ hzs).trans a5;refine wpAny_assign_Tuple (items:= #[xs[i],ys[i]]) hA ⟨_,hT,rfl,0,rfl⟩ (by rw[har];rfl) hstar fun h3 he=>?_;have hz2:h''.objs.size=s.heap.objs.size+1:=by rw[hs'.1,a6]
  have keep3:∀c o,h''.get? c=some o→h3.get? c=some o:=fun c o e=>he c o (Nat.ne_of_lt (Heap.lt_size e)) e;refine x1_2 a3 fun o1 q1 q1c q1d=>?_;clear a3;refine x1_2 a4 fun o2 q2 q2c q2d=>?_;clear a4;refine kk [xs[i],ys[i]] [(z,zipO TI TO .none),(TI,tupOf #[.ref i1,.ref i2] 0),(TO,tupOf #[xs[i],ys[i]] 0),(i1,o1),(i2,o2)] h3 s.toks ⟨_,_,rfl,by simp[hi],by simp[hlt2]⟩ ⟨_,_,o1,o2,rfl,q1c,q1d,q2c,q2d⟩ rfl (fun p hp=>?_) fun c o hc e=>?_
  ·simp only[List.mem_cons,List.not_mem_nil,or_false]at hp;rcases hp with rfl|rfl|rfl|rfl|rfl
   ·exact keep3 _ _ hz'
   ·exact keep3 _ _ ((hs'.2 _ D.TIz).trans (a7 _ _ D.TIz D.TITO D.TIi1 D.TIi2 gTI.1))
   ·exact keep3 _ _ ((hs'.2 _ D.TOz).trans a2)
   ·exact keep3 _ _ ((hs'.2 _ D.i1z).trans q1)
   ·exact keep3 _ _ ((hs'.2 _ D.i2z).trans q2)
  ·simp only[List.map_cons,List.map_nil,List.mem_cons,List.not_mem_nil,or_false,not_or]at hc;refine x0_4 hc fun x1 x2 x3 x4 x5=>?_;clear hc;exact keep3 _ _ ((hs'.2 _ x1).trans (a7 _ _ x1 x3 x4 x5 e))
 done:=by
  intro s os Q E hG ho hn nq29;obtain⟨a,b,oi1,oi2,rfl,c1,d1,c2,d2⟩:=nq29;intro kk;have gz:=ho _ (.head _);have gTI:=ho _ (.tail _ (.head _));have gTO:=ho _ (.tail _ (.tail _ (.head _)));have g1:=ho _ (.tail _ (.tail _ (.tail _ (.head _))));have g2:=ho _ (.tail _ (.tail _ (.tail _ (.tail _ (.head _)))));have hne:∀{c l:Addr} {o:Obj},G c=none→G l=some o→l≠c:=fun h h' e=>by rw[e,h]at h';cases h'
  simp only[List.map_cons,List.map_nil,List.nodup_cons,List.mem_cons,List.not_mem_nil,or_false,not_or,not_false_eq_true,List.nodup_nil,and_true]at hn;obtain⟨nq30,nq31,nq32,n10⟩:=hn;obtain⟨n1,n2,n3,n4⟩:=nq30;obtain⟨n5,n6,n7⟩:=nq31;obtain⟨n8,n9⟩:=nq32;have L1:=hg _ _ h1;have L2:=hg _ _ h2;have D:ZipApart z TI TO i1 i2 l1 l2:=⟨Ne.symm n1,Ne.symm n2,Ne.symm n3,Ne.symm n4,n5,n6,n7,n8,n9,n10,hne gz.2 L1,hne gTO.2 L1,hne g1.2 L1,hne g2.2 L1,hne gz.2 L2,hne gTO.2 L2,hne g1.2 L2,hne g2.2 L2⟩;refine wpAny_pyNext_zip_end hA D gz.1 gTI.1 gTO.1 ⟨oi1,g1.1,c1,d1⟩ ⟨oi2,g2.1,c2,d2⟩ (Is.list hG L1) (Is.list hG L2) (.inl (by simp)) fun h' hk=>kk h' _ fun c o hc e=>?_;simp only[List.map_cons,List.map_nil,List.mem_cons,List.not_mem_nil,or_false,not_or]at hc;exact hk c o hc.1 hc.2.2.1 hc.2.2.2.1 hc.2.2.2.2 e
theorem zip_new(S:St K r own G env vs led s){l1 l2:Addr}{xs ys:List Value}{m1 m2:Nat}(h1:s.heap.get? l1=some (listOf xs.toArray m1))(h2:s.heap.get? l2=some (listOf ys.toArray m2))
 (h:∀z TI TO i1 i2 os s',ZipOs z TI TO i1 i2 l1 l2 0 os→St K r own G env vs (os++led) s'→Q (.ref z) s'):wpAny (model prog w) A (call (.type "zip") [.ref l1,.ref l2]) Q E s:=by
 refine call_zip_2 (xs:=xs.toArray) (ys:=ys.toArray) ⟨_,h1,rfl,m1,rfl⟩ ⟨_,h2,rfl,m2,rfl⟩ fun h' a1 a2 a3 a4 a5 a6 a7=>?_;refine x1_2 a4 fun o1 q1 q1c q1d=>?_;clear a4;refine x1_2 a5 fun o2 q2 q2c q2d=>?_;clear a5;have hnone:∀c,s.heap.objs.size≤c→s.heap.get? c=none:=fun c hc=>by
  cases q:s.heap.get? c with
  |none=>rfl
  |some o=>exact absurd (Heap.lt_size q) (Nat.not_lt.mpr hc)
 refine h (s.heap.objs.size+4) (s.heap.objs.size+2) (s.heap.objs.size+3) s.heap.objs.size (s.heap.objs.size+1) _ _ ⟨.none,.none,o1,o2,rfl,q1c,q1d,q2c,q2d⟩ (S.news (t:=s.toks) a7 (fun p hp=>?_) ?_)
 ·simp only[List.mem_cons,List.not_mem_nil,or_false]at hp;rcases hp with rfl|rfl|rfl|rfl|rfl
  ·exact⟨hnone _ (by simp),a1⟩
  ·exact⟨hnone _ (by simp),a2⟩
  ·exact⟨hnone _ (by simp),a3⟩
  ·exact⟨hnone _ (by simp),q1⟩
  ·exact⟨hnone _ (by simp),q2⟩
 ·simp only[List.map_cons,List.map_nil,List.nodup_cons,List.mem_cons,List.not_mem_nil,or_false,not_or,not_false_eq_true,List.nodup_nil,and_true];have:∀a b:Addr,(a:Nat)≠b→a≠b:=fun _ _ h=>h;refine⟨⟨?_,?_,?_,?_⟩,⟨?_,?_,?_⟩,⟨?_,?_⟩,?_⟩<;>(generalize s.heap.objs.size=n;intro e;simp at e;try omega)
end
end
section
noncomputable def tab{α:Type}(a:α)(F:Nat→(Nat→α)→α):Nat→Nat→α
 |0=>fun _=>a
 |n+1=>fun s=>if s=n+1 then F (n+1) (tab a F n)else tab a F n s
noncomputable def rec'{α:Type}(a:α)(F:Nat→(Nat→α)→α)(s:Nat):α:=tab a F s s
theorem tab_le{α:Type}{a:α}{F:Nat→(Nat→α)→α}{s:Nat}:∀{n:Nat},s≤n→tab a F n s=rec' a F s
 |0,h=>by
  have:s=0:=J114 h;subst this;rfl
 |n+1,h=>by
  by_cases e:s=n+1
  ·subst e;rfl
  ·have h1:tab a F (n+1) s=tab a F n s:=by
    show(if s=n+1 then _ else _)=_;rw[if_neg e]
   rw[h1];exact tab_le (J331 e h)
theorem rec_succ{α:Type}{a:α}{F:Nat→(Nat→α)→α}{n:Nat}(hF:∀f g,(∀p≤n,f p=g p)→F (n+1) f=F (n+1) g):rec' a F (n+1)=F (n+1) (rec' a F):=by
 have h1:rec' a F (n+1)=F (n+1) (tab a F n):=by
  show(if n+1=n+1 then _ else _)=_;rw[if_pos rfl]
 rw[h1];exact hF _ _ fun p hp=>tab_le hp
noncomputable def okB(x:List Nat)(most:Int)(p q:Nat):Bool:=decide (((sentL (sub x p q)).length:Int)≤most)
noncomputable def cutI(x:List Nat)(most:Int)(n:Nat)(f:Nat→List (List Nat))(p:Nat):List (List Nat):=if okB x most p n then(f p).map (· ++[n])else[]
noncomputable def cutF(x:List Nat)(most:Int)(n:Nat)(f:Nat→List (List Nat)):List (List Nat):=(List.range n).flatMap (cutI x most n f)
noncomputable def cuts(x:List Nat)(most:Int):Nat→List (List Nat):=rec' [[0]] (cutF x most)
theorem cuts_zero(x:List Nat)(most:Int):cuts x most 0=[[0]]:=rfl
theorem cuts_succ(x:List Nat)(most:Int)(n:Nat):cuts x most (n+1)=cutF x most (n+1) (cuts x most):=by
 refine rec_succ fun f g h=>?_;unfold cutF;rw[List.flatMap_def,List.flatMap_def];congr 1;refine List.map_congr_left fun p hp=>?_;unfold cutI;rw[h p (by simp at hp;exact J222 hp)]
structure RowOk(s:Nat)(row:List Nat):Prop where
 len:1≤row.length
 le:row.length≤s+1
 head:row[0]? =some 0
 last:row[row.length-1]? =some s
 up:∀k a b,row[k]? =some a→row[k+1]? =some b→a<b
theorem RowOk.snoc{p s:Nat}{row:List Nat}(h:RowOk p row)(hp:p<s):RowOk s (row++[s]):=by
 have h1:=h.len;refine⟨by simp,by have:=h.le;simp;exact J413 hp this,?_,by simp,fun k a b ha hb=>?_⟩
 ·rw[List.getElem?_append_left h1];exact h.head
 ·by_cases hk:k+1<row.length
  ·rw[List.getElem?_append_left hk]at hb;rw[List.getElem?_append_left (J185 hk)]at ha;exact h.up k a b ha hb
  ·have hk1:k+1≤row.length:=by
    have:=(List.getElem?_eq_some_iff.mp hb).1;simp at this;exact this
   have e:k+1=row.length:=J333 hk1 hk;rw[e]at hb;rw[List.getElem?_append_right (Nat.le_refl _)]at hb;simp at hb;subst hb;rw[List.getElem?_append_left (by exact hk1)]at ha;have e2:k=row.length-1:=J334 hk1 hk;rw[e2,h.last]at ha;cases ha;exact hp
theorem cuts_ok(x:List Nat)(most:Int):∀(n s:Nat),s≤n→∀row∈cuts x most s,RowOk s row:=by
 intro n
 induction n with
 |zero=>
  intro s hs row hr;have:s=0:=J114 hs;subst this;rw[cuts_zero,List.mem_singleton]at hr;subst hr;refine⟨by simp,by simp,rfl,rfl,fun k a b ha hb=>?_⟩;simp at hb
 |succ n ih=>
  intro s hs row hr;cases s with
  |zero=>exact ih 0 J31 row hr
  |succ s=>
   rw[cuts_succ]at hr;unfold cutF cutI at hr;refine x1_1 (List.mem_flatMap.mp hr) fun p hp hr=>?_;rw[List.mem_range]at hp
   split at hr
   ·refine x1_1 (List.mem_map.mp hr) fun r0 hr0 eq2=>?_;subst eq2;exact(ih p (J390 hs hp) r0 hr0).snoc hp
   ·cases hr
theorem RowOk.mono{s:Nat}{row:List Nat}(h:RowOk s row):∀(d k:Nat) {a b:Nat},row[k]? =some a→row[k+d]? =some b→a+d≤b
 |0,k,a,b,ha,hb=>by rw[Nat.add_zero,ha]at hb;cases hb;exact J41
 |d+1,k,a,b,ha,hb=>by
  have hlt:=(List.getElem?_eq_some_iff.mp hb).1;have hc:row[k+d]? =some row[k+d]:=List.getElem?_eq_getElem (J360 hlt);have h1:=h.mono d k ha hc;have h2:=h.up (k+d) _ _ hc (by rw[Nat.add_assoc];exact hb);exact J577 h1 h2
theorem RowOk.at_le{s:Nat}{row:List Nat}(h:RowOk s row){k a:Nat}(ha:row[k]? =some a):a≤s∧k≤a∧(k+1<row.length→a<s):=by
 have hlt:=(List.getElem?_eq_some_iff.mp ha).1;have h1:=h.mono (row.length-1-k) k ha (by rw[show k+(row.length-1-k)=row.length-1 by exact J205 hlt];exact h.last);have h0:=h.mono k 0 h.head (by rw[Nat.zero_add];exact ha);exact⟨J485 h1,J173 h0,fun _=>by exact J492 h1 (by assumption)⟩
noncomputable def mid{α:Type}(row:List α):List α:=(row.drop 1).take (row.length-2)
theorem RowOk.mid{s:Nat}{row:List Nat}(h:RowOk s row){a:Nat}(ha:a∈mid row):1≤a∧a<s:=by
 unfold Mine.mid at ha;obtain⟨i,hi,eq2⟩:=List.getElem_of_mem ha;subst eq2;simp at hi;have hg:row[1+i]? =some row[1+i]:=List.getElem?_eq_getElem (J225 hi);have h2:=h.at_le hg;have e:((row.drop 1).take (row.length-2))[i]=row[1+i]:=by simp[Nat.add_comm]
 rw[e];exact⟨by omega,h2.2.2 (J548 hi)⟩
theorem cuts_len(x:List Nat)(most:Int):∀(n s:Nat),s≤n→(cuts x most s).length≤2^s:=by
 intro n
 induction n with
 |zero=>
  intro s hs;have:s=0:=J114 hs;subst this;simp[cuts_zero]
 |succ n ih=>
  intro s hs;cases s with
  |zero=>simp[cuts_zero]
  |succ s=>
   rw[cuts_succ];unfold cutF;have key:∀m,m≤s+1→((List.range m).flatMap (cutI x most (s+1) (cuts x most))).length+1≤2^m:=by
    intro m
    induction m with
    |zero=>intro _;simp
    |succ m ihm=>
     intro hm;rw[List.range_succ,List.flatMap_append,List.length_append];have h1:=ihm (J189 hm);have h2:([m].flatMap (cutI x most (s+1) (cuts x most))).length≤2^m:=by
      simp only[List.flatMap_cons,List.flatMap_nil,List.append_nil];unfold cutI
      split
      ·rw[List.length_map];exact ih m (J389 hm hs)
      ·simp
     rw[Nat.pow_succ];exact J388 h1 h2
   have:=key (s+1) (Nat.le_refl _);exact J186 this
theorem flat_len(x:List Nat)(most:Int)(n m:Nat):((List.range m).flatMap (cutI x most n (cuts x most))).length+1≤2^m:=by
 induction m with
 |zero=>simp
 |succ m ihm=>
  rw[List.range_succ,List.flatMap_append,List.length_append];have h2:([m].flatMap (cutI x most n (cuts x most))).length≤2^m:=by
   simp only[List.flatMap_cons,List.flatMap_nil,List.append_nil];unfold cutI
   split
   ·rw[List.length_map];exact cuts_len x most m m (Nat.le_refl _)
   ·simp
  rw[Nat.pow_succ];exact J388 ihm h2
noncomputable def priceR(x:List Nat)(fee:Int)(stop:Nat)(row:List Nat):Int:=(sentL (sub x 0 stop)).length+((mid row).map fun p=>(seamAt x p:Int)).sum+fee*((row.length:Int)-1)
noncomputable def blocksR(x:List Nat)(row:List Nat):List (List Nat):=(List.range (row.length-1)).map fun k=>sentL (sub x (row.getD k 0) (row.getD (k+1) 0))
noncomputable def betI(b x:Int):Int:=if x<b then x else b
noncomputable def minI:List Int→Int
 |[]=>0
 |a::r=>r.foldl betI a
noncomputable def betO{α:Type}(f:α→D)(b x:α):α:=if(f x).lt (f b)then x else b
noncomputable def minO{α:Type}(f:α→D)(dflt:α):List α→α
 |[]=>dflt
 |a::r=>r.foldl (betO f) a
theorem fold_map{α:Type}(f:α→D):∀(r:List α) (a:α),(r.map f).foldl bestD (f a)=f (r.foldl (betO f) a)
 |[],_=>rfl
 |x::r,a=>by
  rw[List.map_cons,List.foldl_cons,List.foldl_cons];have:bestD (f a) (f x)=f (betO f a x):=by unfold bestD betO;split<;>rfl
  rw[this];exact fold_map f r _
theorem minD_map{α:Type}(f:α→D)(dflt:α){l:List α}(h:l≠[]):minD (l.map f)=f (minO f dflt l):=by
 cases l with
 |nil=>exact absurd rfl h
 |cons a r=>exact fold_map f r a
theorem minO_int(l:List Int):minO D.int 0 l=minI l:=by
 cases l with
 |nil=>rfl
 |cons a r=>
  show r.foldl (betO D.int) a=r.foldl betI a;congr 1
  funext b x
  unfold betO betI;show(if decide (x<b)=true then x else b)=_;simp only[decide_eq_true_eq]
theorem foldO_mem{α:Type}(f:α→D):∀(r:List α) (a:α),r.foldl (betO f) a∈a::r
 |[],a=>.head _
 |x::r,a=>by
  rw[List.foldl_cons];have:=foldO_mem f r (betO f a x);rcases List.mem_cons.mp this with e|e
  ·rw[e];unfold betO;split
   ·exact .tail _ (.head _)
   ·exact .head _
  ·exact .tail _ (.tail _ e)
theorem minO_mem{α:Type}(f:α→D)(dflt:α){l:List α}(h:l≠[]):minO f dflt l∈l:=by
 cases l with
 |nil=>exact absurd rfl h
 |cons a r=>exact foldO_mem f r a
noncomputable def leastR(x:List Nat)(most fee:Int)(stop:Nat):Int:=minI ((cuts x most stop).map (priceR x fee stop))
noncomputable def bestR(x:List Nat)(most fee:Int)(stop:Nat):List (List Nat):=(cuts x most stop).filter fun row=>priceR x fee stop row==leastR x most fee stop
noncomputable def sD(b:List (List Nat)):D:=.lst (b.map fun b=>.str (mkS b))
noncomputable def triedE(x:List Nat)(most fee:Int)(stop:Nat):Te:=(leastR x most fee stop,stop,(bestR x most fee stop).length,minO sD [] ((bestR x most fee stop).map (blocksR x)))
theorem bestR_ne{x:List Nat}{most fee:Int}{stop:Nat}(h:cuts x most stop≠[]):bestR x most fee stop≠[]:=by
 have h1:(cuts x most stop).map (priceR x fee stop)≠[]:=by simpa using h
 have h2:=minO_mem D.int 0 h1;rw[minO_int]at h2;refine x1_1 (List.mem_map.mp h2) fun row hr e=>?_;intro hn;have:row∈bestR x most fee stop:=by
  unfold bestR;rw[List.mem_filter];exact⟨hr,by rw[e];exact beq_self_eq_true _⟩
 rw[hn]at this;cases this
theorem set_perm{α:Type}:∀{l:List α} {n:Nat},n<l.length→∀x,(l.set n x).Perm (x::l.eraseIdx n)
 |[],_,h,_=>by simp at h
 |a::l,0,_,x=>by simp
 |a::l,n+1,h,x=>by
  simp only[List.set_cons_succ,List.eraseIdx_cons_succ];exact((set_perm (by simpa using h) x).cons a).trans (.swap ..)
theorem get_perm{α:Type}{l:List α}{n:Nat}(h:n<l.length):(l[n]::l.eraseIdx n).Perm l:=by
 have:=set_perm h l[n];rw[List.set_getElem_self]at this;exact this.symm
theorem swap_perm{l:List D}{p pp:Nat}{q new:D}(hp:p<l.length)(hpp:pp<l.length)(hne:p≠pp)(hq:l[pp]? =some q):((l.set p q).set pp new).Perm (l.set p new):=by
 have h1:((l.set p q).set pp new).Perm (new::(l.set p q).eraseIdx pp):=set_perm (by simpa using hpp) new;have h2:(l.set p new).Perm (new::l.eraseIdx p):=set_perm hp new;have h3:(l.set p q).Perm (q::l.eraseIdx p):=set_perm hp q;have hlt:pp<(l.set p q).length:=by simpa using hpp
 have h4:((l.set p q)[pp]::(l.set p q).eraseIdx pp).Perm (l.set p q):=get_perm hlt;have hg:(l.set p q)[pp]=q:=by
  rw[List.getElem_set_ne hne];rw[List.getElem?_eq_getElem hpp]at hq;exact Option.some.inj hq
 rw[hg]at h4;have h5:((l.set p q).eraseIdx pp).Perm (l.eraseIdx p):=(h4.trans h3).cons_inv;exact h1.trans ((h5.cons new).trans h2.symm)
theorem sdGo_perm:∀(f:Nat) (new:D) (l:List D) (p:Nat),p<l.length→(sdGo f new l p).Perm (l.set p new)
 |0,new,l,p,_=>by rw[sdGo]
 |f+1,new,l,p,hp=>by
  rw[sdGo]
  split
  ·exact .refl _
  ·rename_i hp0;have hpp:(p-1)/2<l.length:=J202 hp;cases hq:l[(p-1)/2]? with
   |none=>exact .refl _
   |some q=>
    dsimp only
    split
    ·exact(sdGo_perm f new _ _ (by simpa using hpp)).trans (swap_perm hp hpp (J139 hp0) hq)
    ·exact .refl _
theorem suGo_perm:∀(f:Nat) (l:List D) (p:Nat),p<l.length→(suGo f l p).2<l.length∧(suGo f l p).1.length=l.length∧∀new,((suGo f l p).1.set (suGo f l p).2 new).Perm (l.set p new)
 |0,l,p,hp=>by rw[suGo];exact⟨hp,rfl,fun _=>.refl _⟩
 |f+1,l,p,hp=>by
  rw[suGo];cases ha:l[2*p+1]? with
  |none=>exact⟨hp,rfl,fun _=>.refl _⟩
  |some a=>
   dsimp only;obtain⟨ha',_⟩:=List.getElem?_eq_some_iff.mp ha;have key:∀(c:Nat) (q:D),l[c]? =some q→p≠c→(suGo f (l.set p q) c).2<l.length∧(suGo f (l.set p q) c).1.length=l.length∧∀new,((suGo f (l.set p q) c).1.set (suGo f (l.set p q) c).2 new).Perm (l.set p new):=by
    intro c q hq hne;obtain⟨hc,_⟩:=List.getElem?_eq_some_iff.mp hq;refine x0_2 (suGo_perm f (l.set p q) c (by simpa using hc)) fun h1 h2 h3=>?_;exact⟨by simpa using h1,by simpa using h2,fun new=>(h3 new).trans (swap_perm hp hc hne hq)⟩
   cases hb:l[2*p+2]? with
   |none=>exact key _ a ha J49
   |some b=>
    dsimp only
    split
    ·exact key _ a ha J49
    ·exact key _ b hb J50
theorem hpush_perm(l:List D)(x:D):(hpush l x).Perm (x::l):=by
 unfold hpush;refine(sdGo_perm _ _ _ _ (by simp)).trans ?_;rw[List.set_append_right _ _ (Nat.le_refl _)];simpa using List.perm_append_comm (l₁:=l) (l₂:=[x])
theorem siftup_perm{l:List D}(new:D)(h:0<l.length):(siftup l new).Perm (l.set 0 new):=by
 unfold siftup;refine x0_2 (suGo_perm l.length l 0 h) fun h1 h2 h3=>?_;refine(sdGo_perm _ _ _ _ ?_).trans ?_
 ·rw[List.length_set,h2];exact h1
 ·rw[List.set_set];exact h3 new
theorem hpop_perm(l:List D)(last:D):((hpop l last).1::(hpop l last).2).Perm (l++[last]):=by
 cases l with
 |nil=>exact .refl _
 |cons x r=>
  show(x::siftup (last::r) last).Perm _;have:=siftup_perm (l:=last::r) last (by simp);rw[List.set_cons_zero]at this;refine(this.cons x).trans ?_;show(x::last::r).Perm (x::(r++[last]));exact(List.perm_append_comm (l₁:=[last]) (l₂:=r)).cons x
end
section
open PySem PySem.W PySem.Calls PyProof.Rows PySem.SeqAt
set_option maxHeartbeats 4000000
noncomputable abbrev Qe:=Int×Nat×List (List Nat)
noncomputable def qd(e:Qe):D:=.tup [.int e.1,.int e.2.1,.lst (e.2.2.map fun b=>.str (mkS b))]
noncomputable def decS:D→List Nat
 | .str x=>x.cps.toList
 |_=>[]
noncomputable def dec:D→Qe
 | .tup [.int p,.int pl,.lst bl]=>(p,pl.toNat,bl.map decS)
 |_=>(0,0,[])
theorem dec_qd(e:Qe):dec (qd e)=e:=by
 obtain⟨p,pl,bl⟩:=e;show(p,((pl:Int)).toNat,(bl.map fun b=>D.str (mkS b)).map decS)=_;rw[List.map_map,Int.toNat_natCast];congr 2;exact(List.map_congr_left fun b _=>by simp[decS,mkS]).trans (List.map_id bl)
noncomputable def quoL(x:List Nat):List Nat:=dotL (fixL x)
noncomputable def pushI(x:List Nat)(most fee:Int)(e:Qe)(q:List D)(stop:Nat):List D:=
 if((quoL (sub x e.2.1 stop)).length:Int)≤most then hpush q (qd (e.1+(quoL (sub x e.2.1 stop)).length+fee,stop,e.2.2++[quoL (sub x e.2.1 stop)]))else q
noncomputable def pushAll(x:List Nat)(most fee:Int)(e:Qe)(q:List D):List D:=((List.range (x.length-e.2.1)).map (e.2.1+1+·)).foldl (pushI x most fee e) q
noncomputable def heapGo(x:List Nat)(most fee:Int):Nat→List D→List Nat→List Qe→Option (List Qe)
 |0,_,_,_=>none
 |f+1,q,done,settled=>if 800≤q.length then none else match q.getLast? with
  |none=>some settled
  |some last=>
   let t:=hpop q.dropLast last
   let e:=dec t.1
   if e.2.1∈done then heapGo x most fee f t.2 done settled else heapGo x most fee f (pushAll x most fee e t.2) (done++[e.2.1]) (settled++[e])
def EOk(n:Nat)(d:D):Prop:=∃e:Qe,d=qd e∧e.2.1≤n∧e.2.2.length≤e.2.1
theorem kinS:∀(a b:List (List Nat)),KinAll (a.map fun b=>D.str (mkS b)) (b.map fun b=>D.str (mkS b))
 |[],_=>.nil _
 |_::_,[]=>.nil' _
 |_::a,_::b=>.cons (.str _ _) (kinS a b)
theorem EOk.kin{n:Nat}{d d':D}(h:EOk n d)(h':EOk n d'):Kin d d':=by
 refine x1_1 h fun e eq1=>?_;clear h;subst eq1;intro _;refine x1_1 h' fun e' eq1=>?_;clear h';subst eq1;intro _;exact .tup (.cons (.int _ _) (.cons (.int _ _) (.cons (.lst (kinS _ _)) (.nil _))))
theorem depsS:∀a:List (List Nat),D.deps (a.map fun b=>D.str (mkS b))=0
 |[]=>rfl
 |_::a=>by show max 0 _=0;rw[depsS a];rfl
theorem EOk.dep{n:Nat}{d:D}(h:EOk n d):d.dep≤3:=by
 refine x1_1 h fun e eq1=>?_;clear h;subst eq1;intro _;show max 0 (max 0 (max (D.deps (e.2.2.map fun b=>D.str (mkS b))+1) 0))+1≤3;rw[depsS];decide
noncomputable def isI(pl:Nat)(y:Value):Bool:=match y with| .int z _=>z==(pl:Int)|_=>false
theorem nat_eq{G:GH}{tpl:Tok}{dl:List Nat}:∀{its:List Value},IsAll G its (dl.map fun m:Nat=>D.int (m:Int))→∀pl:Nat,∀y∈its.toArray,PySem.MeetsSeq.EqGives y (.int (pl:Int) tpl) (isI pl y):=by
 induction dl with
 |nil=>intro its h pl y hy;rw[IsAll.nilI h]at hy;simp at hy
 |cons d dl ih=>
  intro its h pl y hy;refine IsAll.consI h fun v vs e h1 h2=>?_;obtain⟨u,rfl⟩:=h1.intI;subst e;simp only[List.mem_toArray,List.mem_cons]at hy;rcases hy with rfl|hy
  ·exact PySem.MeetsSeq.EqGives.int _ _ _ _
  ·exact ih h2 pl y (by simpa using hy)
theorem nat_any{G:GH}{dl:List Nat}:∀{its:List Value},IsAll G its (dl.map fun m:Nat=>D.int (m:Int))→∀pl:Nat,its.toArray.any (isI pl)=decide (pl∈dl):=by
 induction dl with
 |nil=>intro its h pl;rw[IsAll.nilI h];simp
 |cons d dl ih=>
  intro its h pl;refine IsAll.consI h fun v vs e h1 h2=>?_;obtain⟨u,rfl⟩:=h1.intI;subst e;have ih:=ih h2 pl;rw[List.any_toArray]at ih⊢;rw[List.any_cons,ih,Bool.eq_iff_iff];simp only[isI,Bool.or_eq_true,beq_iff_eq,decide_eq_true_eq,List.mem_cons];exact or_congr_left ⟨fun h=>by exact J172 h,fun h=>by exact J227 h⟩
theorem qd_inv{G:GH}{v:Value}{p:Int}{pl:Nat}{bl:List (List Nat)}(h:Is G v (qd (p,pl,bl))){P:Prop}(k:∀T nT tp tpl Lb ws nb,v=.ref T→G T=some (tupOf [Value.int p tp,.int pl tpl,.ref Lb].toArray nT)→G Lb=some (listOf ws.toArray nb)→IsAll G ws (bl.map fun b=>D.str (mkS b))→P):P:=by
 refine Is.tupI h fun T vs nT ev hT h=>h.consI fun v1 vs1 e1 h1 h=>h.consI fun v2 vs2 e2 h2 h=>h.consI fun v3 vs3 e3 h3 h=>h3.lstI fun Lb ws nb eb hb hws=>?_;obtain⟨tp,rfl⟩:=h1.intI;obtain⟨tpl,rfl⟩:=h2.intI;cases h.nilI;subst e3 e2 e1 eb;exact k _ _ _ _ _ _ _ ev hT hb hws
theorem by_heap_fn(pm:Value):FnOk (fdOf (topSt 25) "_law_by_heap" .none 247 pm) ["text","most","fee"] ["queue","done","settled","price","place","blocks","stop","sent"] (bodyOf (topSt 25)) where
 body:=rfl
 clo:=rfl
 gl:=rfl
 bi:=rfl
 fn:=rfl
 co:=rfl
 gen:=rfl
 bind:=by
  intro vals h;refine x3_0 (len3 h) fun a b c eq3=>?_;subst eq3;rfl
 ndS:=show((scopeOf (topSt 25)).names.map (·.1)).Nodup by decide+kernel
 names:=names_ok (sc:=scopeOf (topSt 25)) (by decide+kernel)
 nd:=by decide+kernel
section
variable{prog:Program}{w:World}{A:Around}{E:Value→Shared→Prop}{K:GH}{mg mb:Str→Option Value}{p0 p1 p2 p3:Value}{r:Shared}{own:Str→Bool}{G:GH}{env:Env}{vs vs':Vs}{led led':List (Addr×Obj)}{s:Shared}
theorem unpack_items{T:Addr}{items:List Value}{n:Nat}{Q:List Value→Shared→Prop}(S:St K r own G env vs ((T,tupOf items.toArray n)::led) s)(hA:A.handled=none){m:Nat}(hm:m=items.length)
 (h:∀s',St K r own G env vs led s'→Q items s'):wpAny (model prog w) A (unpackItems (.ref T) m none) Q E s:=by
 have hT:s.heap.IsTuple T items.toArray:=⟨_,S.get (.head _),rfl,n,rfl⟩;have:=wpAny_unpackItems_tuple (prog:=prog) (w:=w) (E:=E) (Q:=Q) hA hT fun h' he=>by
  have:=h _ (S.drop.keep (h':=h') (t:=s.toks) fun b o e=>he b o (Nat.ne_of_lt (Heap.lt_size e)) e);simpa using this
 rw[List.size_toArray]at this;rw[hm];exact this
theorem putb_cons{x:Str}{fs:List (Value→Sem Unit)}{v:Value}{ws:List Value}{Q:Unit→Shared→Prop}
 (h:wpAny (model prog w) A (storeName env x v) (fun _ s₁=>wpAny (model prog w) A (assignInOrder fs ws) Q E s₁) E s):wpAny (model prog w) A (assignInOrder (bindName env x::fs) (v::ws)) Q E s:=by
 unfold assignInOrder;exact wpAny_bind (wpAny_holding (wpAny_bindName h))
theorem app_lst{l:Addr}{items:List Value}{n:Nat}{v:Value}{led':Nat→List (Addr×Obj)}{Q:Value→Shared→Prop}(S:St K r own G env vs led s)(U:∀n',Up l (listOf items.toArray n) (listOf (items++[v]).toArray n') led (led' n'))(hz:items.length<10000)
 (h:∀n' s',St K r own G env vs (led' n') s'→Q .none s'):wpAny (model prog w) A (call (.builtin "list.append") [.ref l,v]) Q E s:=by
 refine append_at (S.get (U 0).mem) (fun h' hs hg=>?_) (by simpa using Nat.le_trans (Nat.le_of_lt hz) (by decide));rw[List.push_toArray]at hg;exact h (n+1) _ (S.up (U _) hs hg)
end
noncomputable abbrev hpV(x:List Nat)(tx tm tf:Tok)(most fee:Int)(q dn st:Addr)(vp vpl vb vst vse:Option Value):Vs:=[("text",some (.str (mkS x) tx)),("most",some (.int most tm)),("fee",some (.int fee tf)),("queue",some (.ref q)),("done",some (.ref dn)),("settled",some (.ref st)),("price",vp),("place",vpl),("blocks",vb),("stop",vst),("sent",vse)]
noncomputable abbrev hpL(q dn st:Addr)(its dits sits:List Value)(nq nd nst:Nat):List (Addr×Obj):=[(st,listOf sits.toArray nst),(dn,listOf dits.toArray nd),(q,listOf its.toArray nq)]
section
variable{prog:Program}{w:World}{K:GH}{mg mb:Str→Option Value}{p0 p1 p2 p3:Value}
theorem by_heap_ok{A:Around}(B:B1 K mg mb p0 p1 p2 p3)(hA:Rm 20 A){s:Shared}{x:List Nat}{tx tm tf:Tok}{most fee:Int}{R:Result→Shared→Prop}(hx:Sg x)(hl:x.length<20){f:Nat}(hf:f<500){res:List Qe}
 (hrun:heapGo x most fee f [qd (0,0,[])] [] []=some res)
 (hK:∀a o,K a=some o→s.heap.get? a=some o)
 (k:∀h t G v,(∀b o,s.heap.get? b=some o→h.get? b=some o)→(∀a o,G a=some o→h.get? a=some o)→Is G v (.lst (res.map qd))→R (.ok (.ret v)) {s with heap:=h,toks:=t}):
 codeAny (model prog w) A (.call (.ref 248) ⟨[.str (mkS x) tx,.int most tm,.int fee tf],[]⟩) R s:=by
 refine enter (led:=[]) B.toTp B.f_law_by_heap (by_heap_fn p3) hA.room rfl (vs:=[("text",some (.str (mkS x) tx)),("most",some (.int most tm)),("fee",some (.int fee tf)),("queue",none),("done",none),("settled",none),("price",none),("place",none),("blocks",none),("stop",none),("sent",none)]) rfl hK (by simp) (by simp) fun env s' hkd hsc S=>?_;rw[but_nil]at S;have hA':=hA.deep env;have gl:Gl env ["range","len","heappop","heappush","quotedata"]:=Gl.of (sc:=scopeOf (topSt 25)) hkd (by decide+kernel);refine xc ?_;refine Assign_Tuple_swapped (names:=["queue","done","settled"]) ?_ rfl ?_
 rotate_left
 ·unfold swappedStores Env.blockKind;rw[hkd,hsc];kernel_rfl
 refine tupE S (arg (lstE S (arg (tupE S (arg ?_)))));walk_at"int";intro t1 s₁ S;refine arg ?_;walk_at"int";intro t2 s₁ S;refine arg (lstE S (argE ⟨_,_,_,S,by simp,fun L0 s₁ S=>?_⟩));refine x1_2 S.ice fun G1 S g1 hL0=>?_;refine argE ⟨_,_,_,S,by simp,fun T0 s₁ S=>?_⟩;refine x1_2 S.ice fun G2 S g2 hT0=>?_;refine argE ⟨_,_,_,S,by simp,fun q s₁ S=>?_⟩;refine arg (lstE S (argE ⟨_,_,_,S,by simp,fun dn s₁ S=>arg (lstE S (argE ⟨_,_,_,S,by simp,fun st s₁ S=>argE ⟨_,_,_,S,by simp,fun T s₁ S=>?_⟩⟩))⟩));refine unpack_items S hA'.hd rfl fun s₁ S=>?_;refine putb_cons (S.store (by walk_at"pv") (.inl rfl) fun s₁ S=>putb_cons (S.store (by walk_at"pv") (.inl rfl) fun s₁ S=>putb_cons (S.store (by walk_at"pv") (.inl rfl) fun s₁ S=>put_nil ?_)));have hE0:Is G2 (.ref T0) (qd (0,0,[])):=.tup hT0 (.cons (.int _ _) (.cons (.int _ _) (.cons (.lst (g2 _ _ hL0) .nil) .nil)));have hg2:GLe s.heap.get? G2:=g1.trans g2;clear hL0 hT0 g1 g2;refine xc (whlN (fun n sa=>∀P:Prop,(∀G' qs its nq dl dits nd sl sits nst vp vpl vb vst vse,GLe s.heap.get? G'→
  St K s yes G' env (hpV x tx tm tf most fee q dn st vp vpl vb vst vse)
   (hpL q dn st its dits sits nq nd nst) sa→
  IsAll G' its qs→(∀d∈qs,EOk x.length d)→IsAll G' dits (dl.map fun m:Nat=>D.int (m:Int))→IsAll G' sits (sl.map qd)→heapGo x most fee n qs dl sl=some res→dl.length+n≤f→sl.length+n≤f→P)→P) f
  (fun P k=>k G2 _ _ _ [] _ _ [] _ _ _ _ _ _ _ hg2 S (.cons hE0 .nil) ?_ .nil .nil hrun (by simp) (by simp)) ?_)
 ·intro d hd;rw[List.mem_singleton]at hd;exact⟨_,hd,by simp,by simp⟩
 clear S hE0 hg2 hrun;refine fun n sa N hN hI E'=>hI _ fun G' qs its nq dl dits nd sl sits nst vp vpl vb vst vse hG S hits hok hdits hsits hgo hdl hsl=>?_;clear hI;have hil:=hits.length;cases n with
 |zero=>exact nomatch (show(none:Option (List Qe))=_ from hgo)
 |succ n=>
  have hq8:¬800≤qs.length:=fun q=>nomatch (show(none:Option (List Qe))=_ from(if_pos q).symm.trans hgo);replace hgo:=(if_neg hq8).symm.trans hgo;refine wpAny_isTrue_value ?_;walk_at"name";refine truthy_lst S (S.get (by walk_at"mem")) (J306 hil hq8) fun sa S=>?_;cases hlast:qs.getLast? with
  |none=>
   rw[hlast]at hgo;have:qs=[]:=List.getLast?_eq_none_iff.mp hlast;subst this;cases hits;refine if_f (by simp) ?_;refine xn ?_;refine xc (xret ?_);walk_at"name";cases hgo;refine x1_2 S.ice fun G3 S g3 h3=>?_;refine x2_0 S.same fun h₀ t₀ eq2=>?_;subst eq2;exact k h₀ t₀ G3 _ (fun b o e=>S.sub b o (g3 b o (hG b o e))) S.sub (.lst h3 (hsits.mono g3))
  |some last=>
   rw[hlast]at hgo;dsimp only at hgo;obtain⟨ds,hle⟩:=List.getLast?_eq_some_iff.mp hlast;subst hle;rw[List.dropLast_concat]at hgo;refine if_t (by cases its with|nil=>simp at hil|cons=>rfl) ?_;have hlen:ds.length<800:=by simp at hq8;exact J100 hq8
   have hperm:=hpop_perm ds last;refine xc (Assign_Tuple (cdef S B.toTp gl B.f_heappop B.g_heappop (by walk_at"mem") (arg ?_)));walk_at"name";refine argE ⟨fun a o e=>S.atK e,heappop_ok (G:=G') B.toB0 (hA'.le (by decide)) S.base S.sub (S.get (by walk_at"mem")) (S.ld (q,listOf its.toArray nq) (by walk_at"mem")).2.1 hits (fun a ha b hb=>(hok a ha).kin (hok b hb)) (fun a ha=>(hok a ha).dep) (J101 hlen)
    fun v its' nq' h t hv h1 h2 hits'=>?_⟩
   have S':=S.upk (t:=t) (U:=(by walk_at"up")) h2 h1;clear S;generalize ({sa with heap:=_,toks:=_}:Shared)=s₁ at S'⊢;have hmem:∀d,d∈(hpop ds last).1::(hpop ds last).2→EOk x.length d:=fun d hd=>hok d (hperm.mem_iff.mp hd);refine x1_2 (hmem _ (.head _)) fun e he hpl hbl=>?_;rw[he,dec_qd]at hgo;rw[he]at hv;have hrl:(hpop ds last).2.length=ds.length:=by
    have:=hperm.length_eq;simp at this;exact this
   generalize (hpop ds last).2=rest at *;obtain⟨p,pl,bl⟩:=e;dsimp only at hgo hpl hbl;refine qd_inv hv fun T nT tp tpl Lb ws nb ev hT hLb hws=>?_;subst ev;clear hv
   ·have hb:Is G' (.ref Lb) (.lst (bl.map fun b=>D.str (mkS b))):=.lst hLb hws;refine unpack_G S' hT hA'.hd fun s₁ S=>?_;refine put_cons (S.store (by walk_at"pv") (.inl rfl) fun s₁ S=>put_cons (S.store (by walk_at"pv") (.inl rfl) fun s₁ S=>put_cons (S.store (by walk_at"pv") (.inl rfl) fun s₁ S=>put_nil ?_)));have S:St K s yes G' env (hpV x tx tm tf most fee q dn st (some (.int p tp)) (some (.int pl tpl)) (some (.ref Lb)) vst vse) (hpL q dn st its' dits sits nq' nd nst) s₁:=S;refine xc (xif (xcmp ?_));walk_at"name";walk_at"name";have hdone:=nat_eq (tpl:=tpl) hdits pl;have hany:=nat_any hdits pl;refine PySem.SeqInW.notIn_listW _ hdone ⟨_,S.get (by walk_at"mem"),rfl,_,rfl⟩ (wpAny_truthy_bool ?_);rw[hany];by_cases hin:pl∈dl
    ·refine if_f (by simpa using hin) ?_;rw[if_pos hin]at hgo;refine xn (xn (hN n _ J48 fun P k=>k G' rest its' nq' dl dits nd sl sits nst _ _ _ _ _ hG S hits' (fun d hd=>hmem d (.tail _ hd)) hdits hsits hgo (J366 hdl) (J366 hsl)))
    ·refine if_t (by simpa using hin) ?_;rw[if_neg hin]at hgo;refine xc (x_any S (meth F.plainAttrs_list F.slot_list_append F.type_list_append ?_));walk_at"name";refine⟨dn,_,rfl,S.get (by walk_at"mem"),rfl,rfl,P.append_list ?_⟩;walk_at"name";have hdlen:=hdits.length;have hslen:=hsits.length;simp only[List.length_map]at hdlen hslen;refine⟨_,_,?_,S.get (by walk_at"mem"),?_⟩
     ·simp[sizeLine];exact J505 hdl hf hdlen
     obtain⟨nd',S⟩:=S.seq (items:=dits) (·.push (.int (pl:Int) tpl)) (dits++[.int (pl:Int) tpl]) (by simp) s₁.toks (fun _=>by walk_at"up");generalize ({s₁ with heap:=_,toks:=_}:Shared)=s₂ at S⊢;have S:St K s yes G' env (hpV x tx tm tf most fee q dn st _ _ _ _ _) (hpL q dn st its' (dits++[.int (pl:Int) tpl]) sits nq' nd' nst) s₂:=S;have hdits':IsAll G' (dits++[.int (pl:Int) tpl]) ((dl++[pl]).map fun m:Nat=>D.int (m:Int)):=by
      rw[List.map_append];exact hdits.append (.cons (.int _ _) .nil)
     refine xc (x_any S (meth F.plainAttrs_list F.slot_list_append F.type_list_append ?_));walk_at"name";refine⟨st,_,rfl,S.get (by walk_at"mem"),rfl,rfl,P.append_list ?_⟩;show wpAny _ _ (eval _ _) _ _ _;refine tupE S (arg ?_);walk_at"name";refine arg ?_;walk_at"name";refine arg ?_;walk_at"name";refine argE ⟨_,_,_,S,by simp,fun T1 s₂ S=>?_⟩;refine x1_2 S.ice fun G3 S g3 hT1=>?_;refine⟨_,_,?_,S.get (by walk_at"mem"),?_⟩
     ·simp[sizeLine];exact J505 hsl hf hslen
     obtain⟨nst',S⟩:=S.seq (items:=sits) (·.push (.ref T1)) (sits++[.ref T1]) (by simp) s₂.toks (fun _=>by walk_at"up");generalize ({s₂ with heap:=_,toks:=_}:Shared)=s₃ at S⊢;have S:St K s yes G3 env (hpV x tx tm tf most fee q dn st _ _ _ _ _) (hpL q dn st its' (dits++[.int (pl:Int) tpl]) (sits++[.ref T1]) nq' nd' nst') s₃:=S;have hsits':IsAll G3 (sits++[.ref T1]) ((sl++[(p,pl,bl)]).map qd):=by
      rw[List.map_append];exact(hsits.mono g3).append (.cons (.tup hT1 (.cons (.int _ _) (.cons (.int _ _) (.cons (hb.mono g3) .nil)))) .nil)
     refine xc (xfor (ctyp S B.toTp gl B.b_range (by walk_at"mem") (arg (xop ?_))));walk_at"name";walk_at"int";intro t1 s₃ S;refine b_add S fun t1 s₃ S=>?_;refine arg (xop (cblt S B.toTp gl B.b_len (by walk_at"mem") (arg ?_)));walk_at"name";refine argE (len_s S (J89 hl) fun t2 s₃ S=>?_);walk_at"int";intro t3 s₃ S;refine b_add S fun t3 s₃ S=>argE ?_;refine range2_it (a:=pl+1) (b:=x.length+1) S (by simp) (by simp) (J279 hl hpl) (J87 hl) fun I s₃ S=>?_;have hrange:x.length+1-(pl+1)=x.length-pl:=J246;rw[hrange]at S;refine forN (n:=x.length-pl) (fun G'' _=>Itr.range hA'.hd I ((pl+1:Nat):Int) 1 (x.length-pl)) (fun i G'' vs' led'=>∀P:Prop,(∀its'' nq'' vst vse,
      led'=hpL q dn st its'' (dits++[Value.int (pl:Int) tpl]) (sits++[Value.ref T1]) nq'' nd' nst'→
      vs'=(hpV x tx tm tf most fee q dn st (some (.int p tp)) (some (.int pl tpl)) (some (.ref Lb)) vst vse:Vs)→
      IsAll G'' its'' (((List.range i).map (pl+1+·)).foldl (pushI x most fee (p,pl,bl)) rest)→(∀d∈((List.range i).map (pl+1+·)).foldl (pushI x most fee (p,pl,bl)) rest,EOk x.length d)→
      (((List.range i).map (pl+1+·)).foldl (pushI x most fee (p,pl,bl)) rest).length<801+i→P)→P) S (by simp)
      (fun P k=>k its' nq' _ _ rfl rfl (hits'.mono g3) (fun d hd=>hmem d (.tail _ hd)) (by simp;exact J281 hlen hrl)) ?_ ?_
     ·refine fun i v G'' vs' led' oi sb E'' N2 hi hv hG'' hN2 hJ S=>hJ _ fun its'' nq'' vst' vse' el ev h1 h2 h3=>?_;clear hJ;subst el ev;obtain⟨tv,rfl⟩:=hv;have e1:(((pl+1:Nat):Int)+(i:Int)*1)=((pl+1+i:Nat):Int):=J156;rw[e1];have hstep:((List.range (i+1)).map (pl+1+·)).foldl (pushI x most fee (p,pl,bl)) rest=pushI x most fee (p,pl,bl) (((List.range i).map (pl+1+·)).foldl (pushI x most fee (p,pl,bl)) rest) (pl+1+i):=by
       rw[List.range_succ,List.map_append,List.foldl_append];rfl
      rw[hstep]at hN2;generalize ((List.range i).map (pl+1+·)).foldl (pushI x most fee (p,pl,bl)) rest=cur at h1 h2 h3 hN2;refine wpAny_assign_Name (S.store (by walk_at"pv") (.inl rfl) fun sb S=>?_);have S:St K s yes G'' env (hpV x tx tm tf most fee q dn st _ _ _ _ _) _ sb:=S;refine xc (a_name (cdef S B.toTp gl B.f_quotedata B.g_quotedata (by walk_at"mem") (arg (slcE S ?_))));walk_at"name";show wpAny _ _ (eval _ env) _ _ _;walk_at"name";show wpAny _ _ (eval _ env) _ _ _;walk_at"name";refine⟨x,_,some ((pl:Int),tpl),some (((pl+1+i:Nat):Int),tv),pl,pl+1+i,rfl,rfl,rfl,rfl,rfl,J167,J431 hi,J88 hl,_,_,_,_,S,fun t sb S=>?_⟩;have hsl:(sub x pl (pl+1+i)).length<400:=by rw[sub_len J167 (J431 hi)];exact J534 hl hi
      refine argE ⟨fun a o e=>S.atK e,quotedata_ok B (hA'.le (by decide)) hsl (fun a o e=>S.atK e) fun h t tq hk=>?_⟩;have S':=S.keep (t:=t) hk;clear S;generalize ({sb with heap:=_,toks:=_}:Shared)=s₄ at S'⊢;have S:=S';clear S';refine S.store (by walk_at"pv") (.inl rfl) fun s₄ S=>?_;have S:St K s yes G'' env (hpV x tx tm tf most fee q dn st _ _ _ _ _) _ s₄:=S;have hql:(dotL (fixL (sub x pl (pl+1+i)))).length<100000:=by
       have e1:=dotL_len (fixL (sub x pl (pl+1+i)));have e2:=fixL_len (sub x pl (pl+1+i));exact J445 hsl e2 e1
      refine xc (xif (xcmp (cblt S B.toTp gl B.b_len (by walk_at"mem") (arg ?_))));walk_at"name";refine argE (len_s S hql fun t4 s₄ S=>?_);walk_at"name";refine P.le_int (wpAny_truthy_bool ?_);have hpi:pushI x most fee (p,pl,bl) cur (pl+1+i)=if((dotL (fixL (sub x pl (pl+1+i)))).length:Int)≤most then hpush cur (qd (p+(dotL (fixL (sub x pl (pl+1+i)))).length+fee,pl+1+i,bl++[dotL (fixL (sub x pl (pl+1+i)))]))else cur:=rfl
      rw[hpi]at hN2;generalize dotL (fixL (sub x pl (pl+1+i)))=sent at *;by_cases hm:(sent.length:Int)≤most
      ·refine if_t (by simpa using hm) ?_;rw[if_pos hm]at hN2;refine xc (x_any S (cdef S B.toTp gl B.f_heappush B.g_heappush (by walk_at"mem") (arg ?_)));walk_at"name";refine arg (tupE S (arg (xop (xop ?_))));walk_at"name";refine cblt S B.toTp gl B.b_len (by walk_at"mem") (arg ?_);walk_at"name";refine argE (len_s S hql fun t5 s₄ S=>?_);refine b_add S fun t6 s₄ S=>?_;walk_at"name";refine b_add S fun t6 s₄ S=>?_;refine arg ?_;walk_at"name";refine arg (xop ?_);walk_at"name";refine lstE S (arg ?_);walk_at"name";refine argE ⟨_,_,_,S,by simp,fun L1 s₄ S=>?_⟩;have hLb:=(g3.trans hG'') _ _ hLb;have hws:=hws.mono (g3.trans hG'')
       ·have hwl:=hws.length;simp only[List.length_map]at hwl;refine add_lst S (S.at hLb) (S.get (.head _)) (by simp;exact J520 hl hwl hbl hpl) fun L2 s₄ S=>?_;refine x1_2 S.ice fun G4 S g4 hL2=>?_;have S:=S.drop;refine argE ⟨_,_,_,S,by simp,fun T2 s₄ S=>?_⟩;refine x1_2 S.ice fun G5 S g5 hT2=>?_;have hnew:Is G5 (.ref T2) (qd (p+sent.length+fee,pl+1+i,bl++[sent])):=by
         refine .tup hT2 (.cons (.int _ _) (.cons (.int _ _) (.cons (.lst (g5 _ _ hL2) ?_) .nil)));show IsAll G5 _ ((bl++[sent]).map fun b=>D.str (mkS b));rw[List.map_append];exact(hws.mono (g4.trans g5)).append (.cons (.str _ _) .nil)
        have hnok:EOk x.length (qd (p+sent.length+fee,pl+1+i,bl++[sent])):=⟨_,rfl,by show pl+1+i≤_;exact J431 hi,by show(bl++[sent]).length≤pl+1+i;simp;exact J549 hbl⟩;have hall:∀d∈cur++[qd (p+sent.length+fee,pl+1+i,bl++[sent])],EOk x.length d:=by
         intro d hd;rcases List.mem_append.mp hd with hd|hd
         ·exact h2 d hd
         ·rw[List.mem_singleton]at hd;subst hd;exact hnok
        refine argE ⟨fun a o e=>S.atK e,heappush_ok (G:=G5) B.toB0 (hA'.le (by decide)) S.base S.sub (S.get (by walk_at"mem")) (S.ld (q,listOf its''.toArray nq'') (by walk_at"mem")).2.1 (h1.mono (g4.trans g5)) hnew
         (fun a ha b hb=>(hall a ha).kin (hall b hb)) (fun a ha=>(hall a ha).dep) (J585 hl h3 hi) fun its3 nq3 h t e1 e2 e3=>?_⟩
        have S':=S.upk (t:=t) (U:=(by walk_at"up")) e2 e1;refine xn (xn (hN2 G5 _ _ _ (g4.trans g5) S' fun P k=>k its3 nq3 _ _ rfl rfl e3 (fun d hd=>?_) ?_))
        ·have:=(hpush_perm _ _).mem_iff.mp hd;rcases List.mem_cons.mp this with rfl|hd
         ·exact hnok
         ·exact h2 d hd
        ·have:=(hpush_perm cur (qd (p+sent.length+fee,pl+1+i,bl++[sent]))).length_eq;simp at this;exact J404 h3 this
      ·refine if_f (by simpa using hm) ?_;rw[if_neg hm]at hN2;exact xn (xn (hN2 G'' _ _ _ (GLe.refl _) S fun P k=>k its'' nq'' _ _ rfl rfl h1 h2 (J201 h3)))
     ·refine fun G'' vs' led' sb E'' hG'' hJ S=>hJ _ fun its'' nq'' vst' vse' el ev h1 h2 h3=>?_;clear hJ;subst el ev;refine xn (xn (xn (hN n _ J48 fun P k=>k G'' _ its'' nq'' (dl++[pl]) _ _ (sl++[(p,pl,bl)]) _ _ _ _ _ _ _ (hG.trans (g3.trans hG'')) S h1 h2 (hdits'.mono (g3.trans hG'')) (hsits'.mono hG'') hgo (by simp;exact J491 hdl) (by simp;exact J491 hsl))))
end
noncomputable def rowD(row:List Nat):D:=.lst (row.map fun m:Nat=>D.int (m:Int))
def CutsIs(prog:Program)(w:World)(G:GH)(x:List Nat)(most:Int)(n:Nat)(o:Obj):Prop:=∃kvs,o.IsDictOf (intKind prog w) kvs∧kvs.length≤n+1∧∀p≤n,∃v,valueAt kvs (p:Int)=some v∧Is G v (.lst ((cuts x most p).map rowD))
def SendsIs(prog:Program)(w:World)(x:List Nat)(i j:Nat)(o:Obj):Prop:=∃kvs,o.IsDictOf (PySem.strKind prog w) kvs∧kvs.length≤10*i+j∧
 (∀p q,p<q→q≤i→∃t,valueAt kvs (mkS (sub x p q))=some (.str (mkS (sentL (sub x p q))) t))∧∀p<j,∃t,valueAt kvs (mkS (sub x p (i+1)))=some (.str (mkS (sentL (sub x p (i+1)))) t)
theorem tried_fn(pm:Value):FnOk (fdOf (topSt 24) "_law_tried" .none 240 pm) ["text","most","fee"] ["seams","sends","cuttings","told","stop","place","block","whole","prices","least","rows"] (bodyOf (topSt 24)) where
 body:=rfl
 clo:=rfl
 gl:=rfl
 bi:=rfl
 fn:=rfl
 co:=rfl
 gen:=rfl
 bind:=by
  intro vals h;refine x3_0 (len3 h) fun a b c eq3=>?_;subst eq3;rfl
 ndS:=show((scopeOf (topSt 24)).names.map (·.1)).Nodup by decide+kernel
 names:=names_ok (sc:=scopeOf (topSt 24)) (by decide+kernel)
 nd:=by decide+kernel
theorem sentGo_len(x:List Nat):∀(ahead out:List Nat),(sentGo ahead out x).length≤out.length+2*x.length:=by
 induction x with
 |nil=>intro a o;simp[sentGo]
 |cons c r ih=>
  intro a o;rw[sentGo];have:=ih [c] (o++piece a c);have hp:=piece_len a c;simp at this⊢;exact J499 hp this
theorem sentL_len(x:List Nat):(sentL x).length≤2*x.length:=by have:=sentGo_len x [] [];simpa[sentL]using this
theorem mkS_inj{a b:List Nat}(h:mkS a=mkS b):a=b:=by
 have:=congrArg (fun x:Str=>x.cps.toList) h;simpa[mkS]using this
section
variable{prog:Program}{w:World}{A:Around}{E:Value→Shared→Prop}{R:Result→Shared→Prop}{K:GH}{mg mb:Str→Option Value}{p0 p1 p2 p3:Value}{r:Shared}{own:Str→Bool}{G:GH}{env:Env}{vs vs':Vs}{led led':List (Addr×Obj)}{s:Shared}{Q:Value→Shared→Prop}
theorem dnew1(S:St K r own G env vs led s){pos:Pos}{k v:Expr}
 (h:∀d s',St K r own G env vs ((d,emptyDict)::led) s'→wpAny (model prog w) A (eval k env) (fun kv s₁=>wpAny (model prog w) A (eval v env) (fun vv s₂=>∃i t G2 vs2 led2,kv=.int i t∧St K r own G2 env vs2 ((d,emptyDict)::led2) s₂∧
  ∀o s',o.IsDictOf (intKind prog w) [(i,vv)]→St K r own G2 env vs2 ((d,o)::led2) s'→Q (.ref d) s') E s₁) E s'):wpAny (model prog w) A (eval (.Dict [some k] [v] pos) env) Q E s:=by
 refine wpAny_Dict_walk (knd:=intKind prog w) rfl rfl (by simp) (by simp) (pairTrees_cons_walk ?_);refine wpAny_mono (h _ _ (S.push emptyDict s.toks)) (fun kv s₁ h₁=>wpAny_mono h₁ (fun vv s₂ h₂=>pairTrees_nil_walk ?_) fun _ _ x=>x) fun _ _ x=>x;refine x5_2 h₂ fun i t G2 vs2 led2 eq5=>?_;clear h₂;subst eq5;intro S hk;refine⟨[(i,vv)],⟨int_is,rfl,trivial⟩,Heap.dictOf_iff.mpr ⟨emptyDict,S.get (.head _),empty_is⟩,fun h' hm hs=>?_⟩;refine x1_1 (Heap.dictOf_iff.mp hm) fun o ho hd=>?_;exact hk o _ hd (S.up .here hs ho)
end
theorem range_filter{α:Type}(l:List α)(p:α→Bool)(f:α→D):(List.range l.length).filterMap (fun j=>(l[j]?).bind fun a=>if p a then some (f a)else none)=(l.filter p).map f:=by
 have h1:(fun j:Nat=>(l[j]?).bind fun a=>if p a then some (f a)else none)=fun j=>(l[j]?).bind (fun a=>if p a then some (f a)else none):=rfl;have h2:=range_pick l id;rw[List.map_id]at h2
 conv=>rhs;rw[←h2]
 rw[List.filter_filterMap,List.map_filterMap];congr 1
 funext j
 cases l[j]? with
 |none=>rfl
 |some a=>simp only[Option.bind_some,Option.map_some,id];cases hp:p a<;>simp[hp,Option.filter]
noncomputable def forBody(s:Option Stmt):List Stmt:=(stB s).1
noncomputable def tailSt:List Stmt:=(forBody ((bodyOf (topSt 24))[1]?)).drop 2
noncomputable abbrev trV(x:List Nat)(tx tm tf:Tok)(most fee:Int)(sd se cu tl:Addr)(v1 v2 v3 v4 v5 v6 v7:Option Value):Vs:=[("text",some (.str (mkS x) tx)),("most",some (.int most tm)),("fee",some (.int fee tf)),("seams",some (.ref sd)),("sends",some (.ref se)),("cuttings",some (.ref cu)),("told",some (.ref tl)),("stop",v1),("place",v2),("block",v3),("whole",v4),("prices",v5),("least",v6),("rows",v7)]
section
variable{prog:Program}{w:World}{K:GH}{mg mb:Str→Option Value}{p0 p1 p2 p3:Value}
theorem tried_tail{A:Around}{E:Value→Shared→Prop}{Q:Flow→Shared→Prop}(B:B1 K mg mb p0 p1 p2 p3)(hA':Rm 19 A){r s:Shared}{env:Env}{G:GH}{x:List Nat}{tx tm tf tv:Tok}{most fee:Int}{sd se cu tl I:Addr}{osm oi oc os:Obj}{tits:List Value}{nt i:Nat}{v2 v3 v4 v5 v6 v7:Option Value}
 (hkd:env.kindOf=fun y=>(scopeOf (topSt 24)).names.lookup y) (hsc:env.scope=scopeOf (topSt 24)) (hl:x.length≤6) (hi:i<x.length) (hfee:0≤fee∧fee≤2) (hne:cuts x most (i+1)≠[])
 (S:St K r yes G env (trV x tx tm tf most fee sd se cu tl (some (.int ((i+1:Nat):Int) tv)) v2 v3 v4 v5 v6 v7) [(I,oi),(tl,listOf tits.toArray nt),(cu,oc),(se,os)] s)
 (hsd:G sd=some osm) (hsm:Seams prog w x (x.length-1) osm) (hcut:CutsIs prog w G x most (i+1) oc) (hsend:SendsIs prog w x (i+1) 0 os) (htold:IsAll G tits ((List.range (i+1)).map fun p=>tD (triedE x most fee p)))
 (k:∀G' tits' nt' v4 v5 v6 v7 s',GLe G G'→IsAll G' tits' ((List.range (i+1+1)).map fun p=>tD (triedE x most fee p))→St K r yes G' env (trV x tx tm tf most fee sd se cu tl (some (.int ((i+1:Nat):Int) tv)) v2 v3 v4 v5 v6 v7) [(I,oi),(tl,listOf tits'.toArray nt'),(cu,oc),(se,os)] s'→Q .next s'):
 wpAny (model prog w) A (execs tailSt env) Q E s:=by
 have gl:Gl env ["_law_seams","range","len","_law_sent","min","zip"]:=Gl.of (sc:=scopeOf (topSt 24)) hkd (by decide+kernel);have kc:∀y,y∈([Str.ofString "text","fee","seams","sends","stop","whole","least"]:List Str)→env.kindOf y=some .cell:=by
  rw[hkd];intro y hy;have:(([Str.ofString "text","fee","seams","sends","stop","whole","least"]:List Str).all fun y=>(scopeOf (topSt 24)).names.lookup y==some .cell)=true:=by decide+kernel
  have:=List.all_eq_true.mp this y hy;exact eq_of_beq this
 refine x1_2 hcut fun kc' hoc hkl hcv=>?_;clear hcut;refine x1_3 hsend fun ks hos hsl hsv _=>?_;clear hsend;refine x1_2 hsm fun ksm hosm hsml hsmv=>?_;clear hsm;obtain⟨tw,hw⟩:=hsv 0 (i+1) J26 (Nat.le_refl _);have hwl:(sentL (sub x 0 (i+1))).length<100000:=by
  have e1:=sentL_len (sub x 0 (i+1));rw[sub_len J32 (by exact hi)]at e1;exact J455 hi hl e1
 refine xc (a_name (cblt S B.toTp gl B.b_len (by walk_at"mem") (arg (Subscript_ ?_))));walk_at"name";refine slcE S ?_;walk_at"name";refine evalPart_none_step ?_;refine evalPart_some_step ?_;walk_at"name";refine⟨x,_,none,some (((i+1:Nat):Int),tv),0,i+1,rfl,rfl,rfl,rfl,rfl,J32,by exact hi,J129 hl,_,_,_,_,S,fun t s₁ S=>?_⟩;refine dget S (S.get (by walk_at"mem")) hos str_is hw fun s₁ S=>?_;refine argE (len_s S hwl fun t s₁ S=>?_);refine S.store (by walk_at"pv") (.inl rfl) fun s₁ S=>?_;have S:St K r yes G env (trV x tx tm tf most fee sd se cu tl _ _ _ _ _ _ _) _ s₁:=S;refine x1_1 (hcv (i+1) (Nat.le_refl _)) fun vc hvc hvcI=>?_;have hrows:=cuts_ok x most (i+1) (i+1) (Nat.le_refl _);have hclen:=cuts_len x most (i+1) (i+1) (Nat.le_refl _);have h64:2^(i+1)≤64:=Nat.pow_le_pow_right (by decide) (J313 hi hl:i+1≤6);generalize hcs:cuts x most (i+1)=cs at hne hvcI hrows hclen;refine hvcI.lstI fun lc citems mc evc hlc hcall=>?_;subst evc;have hcil:=hcall.length;simp only[List.length_map]at hcil;have hfr:∀p∈[((Str.ofString "fee" :Str),Value.int fee tf),("seams",.ref sd),("whole",.int (sentL (sub x 0 (i+1))).length t)],(p.1,some p.2)∈trV x tx tm tf most fee sd se cu tl (some (.int ((i+1:Nat):Int) tv)) v2 v3 (some (.int (sentL (sub x 0 (i+1))).length t)) v5 v6 v7∧env.kindOf p.1=some .cell:=
  fr_cons ⟨by walk_at"mem",kc _ (by walk_at"mem")⟩ (fr_cons ⟨by walk_at"mem",kc _ (by walk_at"mem")⟩ (fr_cons ⟨by walk_at"mem",kc _ (by walk_at"mem")⟩ fr_nil))
 refine xc (acomp (fr:=[("fee",.int fee tf),("seams",.ref sd),("whole",.int (sentL (sub x 0 (i+1))).length t)]) (los:=["row"]) (owns:=[]) S (CompSc.of (show compScB _ ["row"] [] ["fee","seams","whole"]=true by decide+kernel)) hfr ?_ ?_)
 ·unfold swapsWith Env.blockKind;rw[hkd,hsc];kernel_rfl
 refine Subscript_ ?_;walk_at"name";walk_at"name";refine dget S (S.get (by walk_at"mem")) hoc int_is hvc fun s₁ S=>?_;refine lst_it S (S.at hlc) fun I2 s₁ S=>?_;refine comp_lst (cs:=cs) (g:=rowD) (los:=["row"]) (owns:=[]) (fr:=[("fee",.int fee tf),("seams",.ref sd),("whole",.int (sentL (sub x 0 (i+1))).length t)]) (fun row=>some (D.int (priceR x fee (i+1) row))) (CompSc.of (show compScB _ ["row"] [] ["fee","seams","whole"]=true by decide+kernel)) hfr hA'.hd S hlc hcall (J464 h64 hclen) (fm_map _ _) ?_ ?_
 ·intro row v G'' cenv lv ledc sb E'' Y _ hrow hv hG'' hled CE hlv hY _;clear S;have hrow:=hrows row hrow;have hrl:=hrow.le;have hrl1:=hrow.len;refine hv.lstE fun lr rits mr hlr hrall=>?_;have hril:=hrall.length;rw[List.length_map]at hril;refine lenE1 hlv fun v0=>?_;intro(S:St K r (owf []) G'' cenv [("row",v0),("fee",some (.int fee tf)),("seams",some (.ref sd)),("whole",some (.int (sentL (sub x 0 (i+1))).length t))] ledc sb);refine S.store (vs':=[("row",some (.ref lr)),("fee",some (.int fee tf)),("seams",some (.ref sd)),("whole",some (.int (sentL (sub x 0 (i+1))).length t))]) .here (CE.st _ (.head _)) fun sb S=>tuq_nil rfl ?_;have gc:Gl cenv ["sum","len"]:=fr_cons ⟨by decide+kernel,CE.gl _ (by decide+kernel)⟩ (fr_cons ⟨by decide+kernel,CE.gl _ (by decide+kernel)⟩ fr_nil);refine xop (xop ?_);walk_at"name";refine cblt S B.toTp gc B.b_sum (by walk_at"mem") (arg ?_);have hfs:∀p∈[((Str.ofString "seams" :Str),Value.ref sd)],(p.1,some p.2)∈([("row",some (.ref lr)),("fee",some (.int fee tf)),("seams",some (.ref sd)),("whole",some (.int (sentL (sub x 0 (i+1))).length t))]:Vs)∧cenv.kindOf p.1=some .cell:=
   fr_cons ⟨by walk_at"mem",CE.cl _ (.inl (show Str.ofString "seams"∈[Str.ofString "fee","seams","whole"]by walk_at"mem"))⟩ fr_nil
  refine lcomp (fr:=[("seams",.ref sd)]) (los:=["place"]) (owns:=[]) S (CompSc.of (show compScB _ ["place"] [] ["seams"]=true by decide+kernel)) hfs ?_;refine slcL S ?_;walk_at"name";refine evalPart_some_step ?_;walk_at"int";intro t1 sb S;refine evalPart_some_step (wpAny_UnaryOp ?_);walk_at"int";intro t2 sb S;refine b_neg S fun t2 sb S=>?_;refine⟨lr,rits.toArray,mr,_,_,_,_,_,_,rfl,S.at hlr,by simp;exact J526 hi hl hril hrl,.int _ _,.int _ _,S,fun T sb S=>?_⟩;rw[pick_mid]at S;refine x1_2 S.ice fun G3 S g3 hT=>?_;refine lst_it S (S.at hT) fun I3 sb S=>?_;have hmall:IsAll G3 ((rits.drop 1).take (rits.length-2)) ((mid row).map fun m:Nat=>D.int (m:Int)):=by
   have e:(mid row).map (fun m:Nat=>D.int (m:Int))=((row.map fun m:Nat=>D.int (m:Int)).drop 1).take (rits.length-2):=by
    unfold mid;rw[List.map_take,List.map_drop,hril]
   rw[e];exact((hrall.mono g3).drop 1).take _
  have hml:(mid row).length≤100:=by unfold mid;simp;exact J542 hi hl hrl
  generalize (rits.drop 1).take (rits.length-2)=mits at hT hmall;refine comp_lst (cs:=mid row) (g:=fun m:Nat=>D.int (m:Int)) (los:=["place"]) (owns:=[]) (fr:=[("seams",.ref sd)]) (fun p=>some (D.int (seamAt x p))) (CompSc.of (show compScB _ ["place"] [] ["seams"]=true by decide+kernel)) hfs hA'.hd S hT hmall (J116 hml) (fm_map _ _) ?_ ?_
  ·intro pl v G4 cenv' lv ledc' sc E3 Y2 _ hpl hv hG4 hled' CE' hlv hY2 _;clear S;have hmem:=hrow.mid hpl;refine hv.intE fun tp=>?_;refine lenE1 hlv fun v0=>?_;intro(S:St K r (owf []) G4 cenv' [("place",v0),("seams",some (.ref sd))] ledc' sc);refine S.store (vs':=[("place",some (.int (pl:Int) tp)),("seams",some (.ref sd))]) .here (CE'.st _ (.head _)) fun sc S=>tuq_nil rfl (Subscript_ ?_);walk_at"name";walk_at"name";obtain⟨tq,htq⟩:=hsmv pl hmem.1 (J453 hmem hi);refine dget S (S.at (hG4 _ _ (g3 _ _ (hG'' _ _ hsd)))) hosm int_is htq fun sc S=>?_;exact hY2 _ _ _ G4 [some (.int (pl:Int) tp)] (GLe.refl _) rfl S (.int _ _)
  ·intro G4 ys n' M C oC s₂ hG4 hys S hm;refine fin_none S hm fun s₂ S=>argE ?_;refine sum_lst S hA'.hd (S.get (.head _)) (ints_are' (x:=(mid row).map fun p=>(seamAt x p:Int)) (by rw[List.map_map];exact hys)) fun t3 s₂ S=>?_;have S:=S.drop;refine b_add S fun t4 s₂ S=>?_;refine xop ?_;walk_at"name";refine xop (cblt S B.toTp gc B.b_len (by walk_at"mem") (arg ?_));walk_at"name";refine argE (len_lst S (S.at (hG4 _ _ (g3 _ _ hlr))) (J527 hi hl hril hrl) fun t5 s₂ S=>?_);walk_at"int";intro t6 s₂ S;refine b_sub S fun t7 s₂ S=>?_;refine b_mul S ?_ fun t8 s₂ S=>?_
   ·have hf:fee=0∨fee=1∨fee=2:=J142 hfee;refine .of_left ?_;rcases hf with rfl|rfl|rfl<;>decide
   refine b_add S fun t9 s₂ S=>?_;refine hY _ _ _ G4 [some (.ref lr)] (g3.trans hG4) rfl S ?_;have e2:priceR x fee (i+1) row=((sentL (sub x 0 (i+1))).length:Int)+((mid row).map fun p=>(seamAt x p:Int)).sum+fee*((rits.length:Int)-1):=by
    unfold priceR;rw[hril]
   rw[e2];exact .int _ _
 intro G4 pys n' M C oC s₂ hG4 hpys S hm;refine fin_use S hm (by walk_at"pv") (.inl rfl) fun s₂ S=>?_;refine x1_2 S.ice fun G5 S g5 hM=>?_;have S:St K r yes G5 env (trV x tx tm tf most fee sd se cu tl _ _ _ _ _ _ _) _ s₂:=S;have hpys:IsAll G4 pys ((cs.map (priceR x fee (i+1))).map D.int):=by rw[List.map_map];exact hpys
 have hpys:=hpys.mono g5;refine xc (a_name (cblt S B.toTp gl B.b_min (by walk_at"mem") (arg ?_)));walk_at"name";refine argE ?_;refine min_data (dp:=0) S (hA'.le (by decide)) hM hpys (by simpa using hne) (fun a ha b hb=>?_) (fun a ha=>?_) fun v s₂ hv S=>?_
 ·refine x1_1 (List.mem_map.mp ha) fun p _ eq2=>?_;subst eq2;refine x1_1 (List.mem_map.mp hb) fun q _ eq2=>?_;subst eq2;exact .int _ _
 ·refine x1_1 (List.mem_map.mp ha) fun p _ eq2=>?_;subst eq2;exact Nat.le_refl _
 have hle:minD ((cs.map (priceR x fee (i+1))).map D.int)=D.int (leastR x most fee (i+1)):=by
  rw[minD_map D.int 0 (by simpa using hne),minO_int];unfold leastR;rw[hcs]
 rw[hle]at hv;obtain⟨tle,rfl⟩:=hv.intI;refine S.store (by walk_at"pv") (.inl rfl) fun s₂ S=>?_;have S:St K r yes G5 env (trV x tx tm tf most fee sd se cu tl _ _ _ _ _ _ _) _ s₂:=S;have gg:GLe G G5:=hG4.trans g5;have hlc5:=gg _ _ hlc;have hpil:=hpys.length;simp only[List.length_map]at hpil;have hfr2:∀p∈[((Str.ofString "least" :Str),Value.int (leastR x most fee (i+1)) tle)],(p.1,some p.2)∈trV x tx tm tf most fee sd se cu tl (some (.int ((i+1:Nat):Int) tv)) v2 v3 (some (.int (sentL (sub x 0 (i+1))).length t)) (some (.ref M)) (some (.int (leastR x most fee (i+1)) tle)) v7∧env.kindOf p.1=some .cell:=
  fr_cons ⟨by walk_at"mem",kc _ (by walk_at"mem")⟩ fr_nil
 refine xc (acomp (fr:=[("least",.int (leastR x most fee (i+1)) tle)]) (los:=["price","row"]) (owns:=[]) S (CompSc.of (show compScB _ ["price","row"] [] ["least"]=true by decide+kernel)) hfr2 ?_ ?_)
 ·unfold swapsWith Env.blockKind;rw[hkd,hsc];kernel_rfl
 refine ctyp S B.toTp gl B.b_zip (by walk_at"mem") (arg ?_);walk_at"name";refine arg (Subscript_ ?_);walk_at"name";walk_at"name";refine dget S (S.get (by walk_at"mem")) hoc int_is hvc fun s₁ S=>argE ?_;refine zip_new S (S.at hM) (S.at hlc5) fun z TI TO i1 i2 zos s₁ hz S=>?_;refine x4_1 (id hz) fun za zb zo1 zo2 hzos hz'=>?_;have hzget:s₁.heap.get? z=some (zipO TI TO .none):=S.get (List.mem_append_left _ (by rw[hzos];exact .head _));refine wpAny_pyIter_zip hzget ?_;refine comp_go (os:=zos) (los:=["price","row"]) (owns:=[]) (fr:=[("least",.int (leastR x most fee (i+1)) tle)]) (n:=pys.length) (CompSc.of (show compScB _ ["price","row"] [] ["least"]=true by decide+kernel)) hfr2
  (fun G'' cenv hg=>Src.zip hg hA'.hd hM hlc5 (J420 hpil hcil)) (fun s Q E ho hQ=>wpAny_pyIter_zip (ho (z,zipO TI TO .none) (by rw[hzos];exact .head _)) hQ) S hz (J529 hpil hclen h64)
  (fun j=>(cs[j]?).bind fun row=>if priceR x fee (i+1) row==leastR x most fee (i+1)then some (rowD row)else none) ?_ ?_
 ·intro j ws G'' cenv lv ledc sb E'' Y N hj h hG'' hled CE hlv hY hN;clear S;refine x2_2 h fun vp vr eq2=>?_;clear h;subst eq2;intro hvp hvr;have hj':j<cs.length:=J419 hj hpil;have his:=hcall.of_get hvr (d:=rowD cs[j]) (by simp[hj']);have hip:=hpys.of_get hvp (d:=D.int (priceR x fee (i+1) cs[j])) (by simp[hj']);rw[List.getElem?_eq_getElem hj'];generalize cs[j]=row at his hip⊢;refine hip.intE fun tp=>?_;refine lenE2 hlv fun v0 v1=>?_;intro(S:St K r (owf []) G'' cenv [("price",v0),("row",v1),("least",some (.int (leastR x most fee (i+1)) tle))] ledc sb);refine put_cons (S.store (vs':=[("price",some (.int (priceR x fee (i+1) row) tp)),("row",v1),("least",some (.int (leastR x most fee (i+1)) tle))]) .here (CE.st _ (.head _)) fun sb S=>put_cons (S.store (vs':=[("price",some (.int (priceR x fee (i+1) row) tp)),("row",some vr),("least",some (.int (leastR x most fee (i+1)) tle))]) (.there .here) (CE.st _ (.tail _ (.head _))) fun sb S=>put_nil ?_));refine tuq_one (xcmp ?_);walk_at"name";walk_at"name";refine PyProof.Rows.eq_int (wpAny_truthy_bool ?_);by_cases hb:priceR x fee (i+1) row=leastR x most fee (i+1)
  ·refine tu1_y (d:=rowD row) (if_pos (by simpa using hb)) (by simpa using hb) ?_;walk_at"name";exact hY _ _ _ G'' [some (.int (priceR x fee (i+1) row) tp),some vr] (GLe.refl _) rfl S (his.mono (gg.trans hG''))
  ·exact tu1_n (if_neg (by simpa using hb)) (by simpa using hb) (hN _ G'' [some (.int (priceR x fee (i+1) row) tp),some vr] (GLe.refl _) rfl S)
 intro G6 rys n6 M6 C6 oC6 s₂ hG6 hrys S hm;refine fin_use S hm (by walk_at"pv") (.inl rfl) fun s₂ S=>?_;refine x1_2 S.ice fun G7 S g7 hM7=>?_;have S:St K r yes G7 env (trV x tx tm tf most fee sd se cu tl _ _ _ _ _ _ _) _ s₂:=S;have hre:(List.range pys.length).filterMap (fun j=>(cs[j]?).bind fun row=>if priceR x fee (i+1) row==leastR x most fee (i+1)then some (rowD row)else none)=(bestR x most fee (i+1)).map rowD:=by
  rw[hpil];unfold bestR;rw[hcs];exact range_filter cs _ _
 rw[hre]at hrys;have hrys:=hrys.mono g7;have hril:=hrys.length;simp only[List.length_map]at hril;have hbne:bestR x most fee (i+1)≠[]:=bestR_ne (by rw[hcs];exact hne);have hbsub:∀row∈bestR x most fee (i+1),RowOk (i+1) row:=fun row hr=>hrows row (by
  unfold bestR at hr;rw[hcs]at hr;exact(List.mem_filter.mp hr).1)
 have hblen:(bestR x most fee (i+1)).length≤64:=by
  have:(bestR x most fee (i+1)).length≤cs.length:=by unfold bestR;rw[hcs];exact List.length_filter_le _ _
  exact J568 h64 hclen this
 refine xc (x_any S (meth F.plainAttrs_list F.slot_list_append F.type_list_append ?_));walk_at"name";refine⟨tl,_,rfl,S.get (by walk_at"mem"),rfl,rfl,P.append_list ?_⟩;show wpAny _ _ (eval _ _) _ _ _;refine tupE S (arg ?_);walk_at"name";refine arg ?_;walk_at"name";refine arg (cblt S B.toTp gl B.b_len (by walk_at"mem") (arg ?_));walk_at"name";refine argE (len_lst S (S.at hM7) (J304 hril hblen) fun tn s₂ S=>?_);refine arg (cblt S B.toTp gl B.b_min (by walk_at"mem") (arg ?_));have hfr3:∀p∈[((Str.ofString "sends" :Str),Value.ref se),("text",.str (mkS x) tx)],(p.1,some p.2)∈trV x tx tm tf most fee sd se cu tl (some (.int ((i+1:Nat):Int) tv)) v2 v3 (some (.int (sentL (sub x 0 (i+1))).length t)) (some (.ref M)) (some (.int (leastR x most fee (i+1)) tle)) (some (.ref M6))∧env.kindOf p.1=some .cell:=
  fr_cons ⟨by walk_at"mem",kc _ (by walk_at"mem")⟩ (fr_cons ⟨by walk_at"mem",kc _ (by walk_at"mem")⟩ fr_nil)
 refine lcomp (fr:=[("sends",.ref se),("text",.str (mkS x) tx)]) (los:=["row"]) (owns:=["row"]) S (CompSc.of (show compScB _ ["row"] ["row"] ["sends","text"]=true by decide+kernel)) hfr3 ?_;walk_at"name";refine lst_it S (S.at hM7) fun I3 s₂ S=>?_;generalize hbs:bestR x most fee (i+1)=bs at hrys hril hbne hbsub hblen;refine comp_lst (cs:=bs) (g:=rowD) (los:=["row"]) (owns:=["row"]) (fr:=[("sends",.ref se),("text",.str (mkS x) tx)]) (fun row=>some (sD (blocksR x row))) (CompSc.of (show compScB _ ["row"] ["row"] ["sends","text"]=true by decide+kernel)) hfr3 hA'.hd S hM7 hrys (J305 hblen) (fm_map _ _) ?_ ?_
 ·intro row v G'' cenv lv ledc sb E'' Y _ hrow hv hG'' hled CE hlv hY _;clear S;have hrow:=hbsub row hrow;have hrl:=hrow.le;have hrl1:=hrow.len;refine hv.lstE fun lr rits mr hlr hrall=>?_;have hril2:=hrall.length;rw[List.length_map]at hril2;refine lenE1 hlv fun v0=>?_;intro(S:St K r (owf ["row"]) G'' cenv [("row",v0),("sends",some (.ref se)),("text",some (.str (mkS x) tx))] ledc sb);refine S.store (vs':=[("row",some (.ref lr)),("sends",some (.ref se)),("text",some (.str (mkS x) tx))]) .here (CE.st _ (.head _)) fun sb S=>tuq_nil rfl ?_;have gc:Gl cenv ["range","len"]:=fr_cons ⟨by decide+kernel,CE.gl _ (by decide+kernel)⟩ (fr_cons ⟨by decide+kernel,CE.gl _ (by decide+kernel)⟩ fr_nil);have hfr:∀p∈[((Str.ofString "row" :Str),Value.ref lr),("sends",.ref se),("text",.str (mkS x) tx)],(p.1,some p.2)∈([("row",some (.ref lr)),("sends",some (.ref se)),("text",some (.str (mkS x) tx))]:Vs)∧cenv.kindOf p.1=some .cell:=
   fr_cons ⟨by walk_at"mem",CE.cl _ (.inr ⟨by walk_at"mem",by walk_at"mem"⟩)⟩ (fr_cons ⟨by walk_at"mem",CE.cl _ (.inl (show Str.ofString "sends"∈[Str.ofString "sends","text"]by walk_at"mem"))⟩ (fr_cons ⟨by walk_at"mem",CE.cl _ (.inl (show Str.ofString "text"∈[Str.ofString "sends","text"]by walk_at"mem"))⟩ fr_nil))
  refine lcomp (fr:=[("row",.ref lr),("sends",.ref se),("text",.str (mkS x) tx)]) (los:=["k"]) (owns:=[]) S (CompSc.of (show compScB _ ["k"] [] ["row","sends","text"]=true by decide+kernel)) hfr ?_;refine ctyp S B.toTp gc B.b_range (by walk_at"mem") (arg (xop (cblt S B.toTp gc B.b_len (by walk_at"mem") (arg ?_))));walk_at"name";refine argE (len_lst S (S.at hlr) (J527 hi hl hril2 hrl) fun t5 sb S=>?_);walk_at"int";intro t6 sb S;refine b_sub S fun t7 sb S=>argE ?_;refine range1_it (b:=row.length-1) S (J272 hrl1 hril2) (J540 hi hl hrl) fun I4 sb S=>?_;refine comp_go (os:=[(I4,_)]) (los:=["k"]) (owns:=[]) (fr:=[("row",.ref lr),("sends",.ref se),("text",.str (mkS x) tx)]) (n:=row.length-1) (CompSc.of (show compScB _ ["k"] [] ["row","sends","text"]=true by decide+kernel)) hfr (fun G'' cenv hg=>Src.of (Itr.range hA'.hd I4 0 1 (row.length-1))) (fun s Q E ho hQ=>wpAny_pyIter_rangeiter (ho _ (.head _)) hQ) S ⟨_,rfl,by simp⟩ (J541 hi hl hrl) (fun j=>some (D.str (mkS (sentL (sub x (row.getD j 0) (row.getD (j+1) 0)))))) ?_ ?_
  ·intro j ws G4 cenv' lv ledc' sc E3 Y2 _ hj2 h hG4 hled' CE' hlv hY2 _;clear S;obtain⟨v,rfl,tk,rfl⟩:=h;refine lenE1 hlv fun v0=>?_;rw[show(0+(j:Int)*1)=(j:Int)by exact J21];intro(S:St K r (owf []) G4 cenv' [("k",v0),("row",some (.ref lr)),("sends",some (.ref se)),("text",some (.str (mkS x) tx))] ledc' sc);refine wpAny_assign_Name (S.store (vs':=[("k",some (.int (j:Int) tk)),("row",some (.ref lr)),("sends",some (.ref se)),("text",some (.str (mkS x) tx))]) .here (CE'.st _ (.head _)) fun sc S=>?_);refine tuq_nil rfl (Subscript_ ?_);walk_at"name";have hga:row[j]? =some (row.getD j 0):=by simp[show j<row.length by exact J271 hj2]
   have hgb:row[j+1]? =some (row.getD (j+1) 0):=by simp[show j+1<row.length by exact J270 hj2]
   generalize row.getD j 0=pa at hga⊢;generalize row.getD (j+1) 0=pb at hgb⊢;have hab:=hrow.up j pa pb hga hgb;have hbs:=(hrow.at_le hgb).1;refine x1_1 (hrall.get (i:=j) (d:=D.int (pa:Int)) (by simp[hga])) fun wa hwa hia=>?_;refine x1_1 (hrall.get (i:=j+1) (d:=D.int (pb:Int)) (by simp[hgb])) fun wb hwb hib=>?_;obtain⟨ta,rfl⟩:=hia.intI;obtain⟨tb,rfl⟩:=hib.intI;refine slcE S ?_;walk_at"name";refine evalPart_some_step (Subscript_ ?_);walk_at"name";walk_at"name";refine sub_list (S.at (hG4 _ _ hlr)) J29 (J576 hj2 hrl hi hl) (by simpa using hwa) ?_;refine evalPart_some_step (Subscript_ ?_);walk_at"name";refine xop ?_;walk_at"name";walk_at"int";intro t8 sc S;refine b_add S fun t9 sc S=>?_;refine sub_list (S.at (hG4 _ _ hlr)) J30 (J575 hj2 hrl hi hl) (by rw[show((j:Int)+1).toNat=j+1 by exact J39];exact hwb) ?_;refine⟨x,_,some ((pa:Int),ta),some ((pb:Int),tb),pa,pb,rfl,rfl,rfl,rfl,rfl,J208 hab,J413 hi hbs,J129 hl,_,_,_,_,S,fun t s₁ S=>?_⟩;obtain⟨tq,htq⟩:=hsv pa pb hab hbs;refine dget S (S.get (hled' _ (hled _ (by walk_at"mem")))) hos str_is htq fun sc S=>?_;exact hY2 _ _ _ G4 [some (.int (j:Int) tk)] (GLe.refl _) rfl S (.str _ _)
  ·intro G4 ys n' M C oC s₂ hG4 hys S hm;refine fin_none S hm fun s₂ S=>?_;refine x1_2 S.ice fun G5' S g5' h5'=>?_;refine hY _ _ _ G5' [some (.ref lr)] (hG4.trans g5') rfl S (.lst h5' ?_);have e:(List.range (row.length-1)).filterMap (fun j=>some (D.str (mkS (sentL (sub x (row.getD j 0) (row.getD (j+1) 0))))))=(blocksR x row).map fun b=>D.str (mkS b):=by
    unfold blocksR;rw[List.map_map];rw[List.filterMap_eq_map'];rfl
   rw[←e];exact hys.mono g5'
 intro G8 mys n8 M8 C8 oC8 s₂ hG8 hmys S hm;refine fin_none S hm fun s₂ S=>argE ?_;refine x1_2 S.ice fun G9 S g9 hM9=>?_;have hmys:IsAll G8 mys ((bs.map (blocksR x)).map sD):=by rw[List.map_map];exact hmys
 have hmys:=hmys.mono g9;refine min_data (dp:=1) S (hA'.le (by decide)) hM9 hmys (by simpa using hbne) (fun a ha b hb=>?_) (fun a ha=>?_) fun v s₂ hv S=>?_
 ·refine x1_1 (List.mem_map.mp ha) fun p _ eq2=>?_;subst eq2;refine x1_1 (List.mem_map.mp hb) fun q _ eq2=>?_;subst eq2;exact .lst (kinS _ _)
 ·refine x1_1 (List.mem_map.mp ha) fun p _ eq2=>?_;subst eq2;show D.deps (p.map fun b=>D.str (mkS b))+1≤1;rw[depsS];decide
 rw[minD_map sD [] (by simpa using hbne)]at hv;refine argE ⟨_,_,_,S,by simp,fun T1 s₂ S=>?_⟩;refine x1_2 S.ice fun G10 S g10 hT1=>?_;have htl:=htold.length;simp only[List.length_map,List.length_range]at htl;refine⟨_,_,?_,S.get (by walk_at"mem"),?_⟩
 ·simp[sizeLine];exact J454 hi hl htl
 obtain⟨nt',S⟩:=S.seq (items:=tits) (·.push (.ref T1)) (tits++[.ref T1]) (by simp) s₂.toks (fun _=>by walk_at"up");generalize ({s₂ with heap:=_,toks:=_}:Shared)=s₃ at S⊢;have gall:GLe G G10:=gg.trans (hG6.trans (g7.trans (hG8.trans (g9.trans g10))));refine xn (k G10 (tits++[.ref T1]) nt' _ _ _ _ s₃ gall ?_ S);rw[List.range_succ,List.map_append];refine(htold.mono gall).append (.cons ?_ .nil);have ht1:tD (triedE x most fee (i+1))=.tup [.int (leastR x most fee (i+1)),.int ((i+1:Nat):Int),.int (bs.length:Nat),sD (minO sD [] (bs.map (blocksR x)))]:=by
  unfold tD triedE sD;rw[hbs]
 show Is G10 _ (tD (triedE x most fee (i+1)));rw[ht1];refine .tup hT1 (.cons (.int _ _) (.cons (.int _ _) (.cons ?_ (.cons (hv.mono g10) .nil))));rw[hril];exact .int _ _
end
end
section
theorem sub_split(x:List Nat){a b c:Nat}(h1:a≤b)(h2:b≤c):sub x a c=sub x a b++sub x b c:=by
 unfold sub;have:c-a=(b-a)+(c-b):=J424 h1 h2;rw[this,List.take_add,List.drop_drop];congr 3;exact J240 h1
theorem sentR_append:∀(u:List Nat) (a v:List Nat),sentR a (u++v)=sentR a u++sentR (if u=[]then a else[u.getLastD 0]) v
 |[],a,v=>by simp[sentR]
 |[c],a,v=>by simp[sentR]
 |c::e::u,a,v=>by
  have:=sentR_append (e::u) [c] v;have h2:sentR a (c::e::u)=piece a c++sentR [c] (e::u):=by rw[sentR]
  rw[List.cons_append,sentR,this,h2,List.append_assoc];simp
theorem piece_seam{l e:Nat}(he:e=46∨e=13∨e=10∨e=97):(piece [] e).length=(piece [l] e).length+(if l=13∧e=10 then 2 else if e=46∧¬(l=13∨l=10)then 1 else 0):=by
 rcases he with rfl|rfl|rfl|rfl
 ·by_cases h:l=13∨l=10
  ·rcases h with rfl|rfl<;>decide
  ·have h1:¬l=13:=fun e=>h (.inl e);have h2:¬l=10:=fun e=>h (.inr e);simp[piece,h1,h2]
 ·simp[piece]
 ·by_cases h:l=13
  ·subst h;decide
  ·simp[piece,h]
 ·simp[piece]
theorem sub_head{x:List Nat}{b c:Nat}(h1:b<c)(h2:c≤x.length):sub x b c=x.getD b 0::sub x (b+1) c:=by
 unfold sub;rw[drop_get (J408 h1 h2),show c-b=(c-(b+1))+1 by exact J214 h1,List.take_succ_cons]
theorem sub_last{x:List Nat}{a b:Nat}(h1:a<b)(h2:b≤x.length):sub x a b≠[]∧(sub x a b).getLastD 0=x.getD (b-1) 0:=by
 have hs:=sub_split x (a:=a) (b:=b-1) (c:=b) (J209 h1) J213;have h3:sub x (b-1) b=[x.getD (b-1) 0]:=by
  rw[sub_head (J212 h1) h2];unfold sub;have:b-(b-1+1)=0:=J43;rw[this];simp
 rw[hs,h3];exact⟨by simp,by simp⟩
theorem seam_len{x:List Nat}(hx:Sg x){a b c:Nat}(h1:a<b)(h2:b<c)(h3:c≤x.length):(sentL (sub x a b)).length+(sentL (sub x b c)).length=(sentL (sub x a c)).length+seamAt x b:=by
 rw[sub_split x (Nat.le_of_lt h1) (Nat.le_of_lt h2)];obtain⟨hne,hlast⟩:=sub_last (x:=x) h1 (J409 h2 h3);rw[sentL_eq,sentL_eq,sentL_eq,sentR_append,if_neg hne,hlast,List.length_append,sub_head h2 h3,sentR,sentR,List.length_append,List.length_append];have he:=hx (x.getD b 0) (by
  have:b<x.length:=J408 h2 h3;rw[show x.getD b 0=x[b]by simp[this]];exact List.getElem_mem this)
 have:=piece_seam (l:=x.getD (b-1) 0) he;unfold seamAt;exact J543 this
theorem sent_pos{x:List Nat}(hx:Sg x){a b:Nat}(h1:a<b)(h2:b≤x.length):0<(sentL (sub x a b)).length:=by
 rw[sentL_eq,sub_head h1 h2,sentR,List.length_append];have:0<(piece [] (x.getD a 0)).length:=by
  unfold piece
  split
  ·rw[if_neg (by simp)];simp
  ·split<;>simp
 exact J174 this
theorem sent_one{x:List Nat}{a:Nat}(h:a<x.length):(sentL (sub x a (a+1))).length≤2:=by
 have:=sentL_len (sub x a (a+1));rw[sub_len J53 (by exact h)]at this;exact J233 this
theorem sent_mono{x:List Nat}{a b:Nat}(h1:a≤b)(h2:b+1≤x.length):(sentL (sub x a b)).length≤(sentL (sub x a (b+1))).length:=by
 rw[sub_split x h1 (Nat.le_succ b),sentL_eq,sentL_eq,sentR_append,List.length_append];exact J168
theorem mid_snoc{row:List Nat}{s p:Nat}(h:RowOk p row)(hp:0<p):mid (row++[s])=mid row++[p]:=by
 have h1:=h.len;have h2:2≤row.length:=by
  rcases Nat.lt_or_ge row.length 2 with hl|hl
  ·have:row.length=1:=J148 h1 hl;have h3:=h.last;rw[this,h.head]at h3;injection h3 with h3;exact J268 hp h3
  ·exact hl
 unfold mid;have e1:(row++[s]).drop 1=row.drop 1++[s]:=by rw[List.drop_append_of_le_length (by exact h1)]
 rw[e1,List.length_append];have e2:row.length+[s].length-2=(row.drop 1).length:=by rw[List.length_drop,List.length_singleton];exact J68
 rw[e2,List.take_left];have e3:row.drop 1=(row.drop 1).take (row.length-2)++[p]:=by
  have e4:(row.drop 1).length=(row.length-2)+1:=by simp;exact J69 h2
  have e5:(row.drop 1).take ((row.length-2)+1)=(row.drop 1).take (row.length-2)++[p]:=by
   rw[List.take_add_one];congr 1;rw[List.getElem?_drop,show 1+(row.length-2)=row.length-1 by exact J67 h2,h.last];rfl
  rw[←e5,←e4,List.take_length]
 exact e3
theorem row_zero{row:List Nat}(h:RowOk 0 row):row=[0]:=by
 have h1:=h.len;have h2:=h.le;have h3:=h.head
 match row,h1,h2 with
 |[a],_,_=>simpa using h3
 |a::b::r,_,h=>simp at h
theorem price_snoc{x:List Nat}(hx:Sg x){fee:Int}{row:List Nat}{p s:Nat}(h:RowOk p row)(hp:p<s)(hs:s≤x.length):priceR x fee s (row++[s])=priceR x fee p row+(sentL (sub x p s)).length+fee:=by
 by_cases h0:p=0
 ·subst h0;rw[row_zero h];have e1:sub x 0 0=[]:=by unfold sub;simp
  have e2:mid [0]=[]:=by unfold mid;simp
  have e3:mid ([0]++[s])=[]:=by unfold mid;simp
  have e4:(sentL ([]:List Nat))=[]:=rfl;unfold priceR;rw[e1,e2,e3,e4];simp
 ·have hsm:=seam_len hx (a:=0) (b:=p) (c:=s) (J137 h0) hp hs;unfold priceR;rw[mid_snoc h (J137 h0),List.map_append,List.sum_append,List.length_append];simp only[List.map_cons,List.map_nil,List.sum_cons,List.sum_nil,List.length_cons,List.length_nil];have e:fee*(((row.length+(0+1):Nat):Int)-1)=fee*((row.length:Int)-1)+fee:=by
   rw[show(((row.length+(0+1):Nat):Int)-1)=((row.length:Int)-1)+1 by exact J13,Int.mul_add,Int.mul_one]
  rw[e];exact J590 hsm
theorem blocks_snoc{x:List Nat}{row:List Nat}{p s:Nat}(h:RowOk p row):blocksR x (row++[s])=blocksR x row++[sentL (sub x p s)]:=by
 have h1:=h.len;unfold blocksR;rw[List.length_append];have e:row.length+[s].length-1=(row.length-1)+1:=by simp;exact J64 h1
 rw[e,List.range_succ,List.map_append];congr 1
 ·refine List.map_congr_left fun k hk=>?_;rw[List.mem_range]at hk;have a1:(row++[s]).getD k 0=row.getD k 0:=by simp[List.getD_eq_getElem?_getD,List.getElem?_append_left (show k<row.length by exact J271 hk)]
  have a2:(row++[s]).getD (k+1) 0=row.getD (k+1) 0:=by simp[List.getD_eq_getElem?_getD,List.getElem?_append_left (show k+1<row.length by exact J270 hk)]
  rw[a1,a2]
 ·have a1:(row++[s]).getD (row.length-1) 0=p:=by
   rw[List.getD_eq_getElem?_getD,List.getElem?_append_left (J63 h1),h.last];rfl
  have a2:(row++[s]).getD (row.length-1+1) 0=s:=by
   rw[show row.length-1+1=row.length by exact J62 h1,List.getD_eq_getElem?_getD,List.getElem?_append_right (Nat.le_refl _)];simp
  simp only[List.map_cons,List.map_nil];rw[a1,a2]
noncomputable abbrev Wy:=Int×List (List Nat)
noncomputable def wys(x:List Nat)(most fee:Int)(s:Nat):List Wy:=(cuts x most s).map fun row=>(priceR x fee s row,blocksR x row)
noncomputable def stepW(x:List Nat)(fee:Int)(s p:Nat)(e:Wy):Wy:=(e.1+(sentL (sub x p s)).length+fee,e.2++[sentL (sub x p s)])
theorem wys_zero(x:List Nat)(most fee:Int):wys x most fee 0=[(0,[])]:=by
 unfold wys;rw[cuts_zero];simp[priceR,mid,sub,sentL,sentGo,blocksR]
theorem wys_succ{x:List Nat}(hx:Sg x)(most fee:Int){n:Nat}(hn:n+1≤x.length):wys x most fee (n+1)=(List.range (n+1)).flatMap fun p=>if okB x most p (n+1)then(wys x most fee p).map (stepW x fee (n+1) p)else[]:=by
 unfold wys;rw[cuts_succ];unfold cutF;rw[List.map_flatMap,List.flatMap_def,List.flatMap_def];congr 1;refine List.map_congr_left fun p hp=>?_;rw[List.mem_range]at hp;unfold cutI
 split
 ·rw[List.map_map,List.map_map];refine List.map_congr_left fun row hr=>?_;have ho:=cuts_ok x most p p (Nat.le_refl _) row hr;show(priceR x fee (n+1) (row++[n+1]),blocksR x (row++[n+1]))=stepW x fee (n+1) p (priceR x fee p row,blocksR x row);rw[price_snoc hx ho hp hn,blocks_snoc ho];rfl
 ·rfl
theorem ok_next{x:List Nat}{most:Int}(hm:2≤most){n:Nat}(hn:n+1≤x.length):okB x most n (n+1)=true:=by
 unfold okB;have:=sent_one (x:=x) (a:=n) (by exact hn);simp;exact J340 hm this
theorem cuts_ne{x:List Nat}{most:Int}(hm:2≤most):∀s,s≤x.length→cuts x most s≠[]:=by
 intro s
 induction s with
 |zero=>intro _;rw[cuts_zero];simp
 |succ n ih=>
  intro hs h;rw[cuts_succ]at h;unfold cutF at h;rw[List.flatMap_eq_nil_iff]at h;have:=h n (by simp);unfold cutI at this;rw[ok_next hm hs,if_pos rfl]at this;exact ih (J186 hs) (List.map_eq_nil_iff.mp this)
theorem foldI_le:∀(r:List Int) (a:Int),r.foldl betI a≤a∧∀b∈r,r.foldl betI a≤b
 |[],a=>⟨Int.le_refl _,fun _ h=>nomatch h⟩
 |c::r,a=>by
  rw[List.foldl_cons];obtain⟨h1,h2⟩:=foldI_le r (betI a c);have h3:betI a c≤a∧betI a c≤c:=by unfold betI;split<;>constructor<;>omega
  refine⟨Int.le_trans h1 h3.1,fun b hb=>?_⟩;rcases List.mem_cons.mp hb with rfl|hb
  ·exact Int.le_trans h1 h3.2
  ·exact h2 b hb
theorem minI_le{l:List Int}{b:Int}(h:b∈l):minI l≤b:=by
 cases l with
 |nil=>cases h
 |cons a r=>
  obtain⟨h1,h2⟩:=foldI_le r a;rcases List.mem_cons.mp h with rfl|h
  ·exact h1
  ·exact h2 b h
theorem minI_mem{l:List Int}(h:l≠[]):minI l∈l:=by rw[←minO_int];exact minO_mem D.int 0 h
theorem minI_eq{l:List Int}{m:Int}(h1:m∈l)(h2:∀b∈l,m≤b):minI l=m:=
 Int.le_antisymm (minI_le h1) (h2 _ (minI_mem (by intro e;rw[e]at h1;cases h1)))
end
section
open PySem
noncomputable abbrev sL(a:List (List Nat)):List D:=a.map fun b=>D.str (mkS b)
theorem str_beq(a b:List Nat):(D.str (mkS a)).beq (.str (mkS b))=decide (a=b):=by
 by_cases h:a=b
 ·subst h;rw[D.beq_iff.mpr rfl,decide_eq_true rfl]
 ·rw[decide_eq_false h];exact D.beq_ne.mpr fun e=>h (by injection e with e;exact mkS_inj e)
theorem str_lt(a b:List Nat):(D.str (mkS a)).lt (.str (mkS b))=decide (a<b):=by rw[D.lt_str]
theorem ltL_iff:∀(a b:List (List Nat)),D.ltL (sL a) (sL b)=decide (a<b)
 |[],[]=>by rw[decide_eq_false (List.lt_irrefl _)];rfl
 |[],_::_=>by rw[decide_eq_true (List.nil_lt_cons ..)];rfl
 |_::_,[]=>by rw[decide_eq_false (List.not_lt_nil _)];rfl
 |x::a,y::b=>by
  show(if(D.str (mkS x)).beq (.str (mkS y))then D.ltL (sL a) (sL b)else(D.str (mkS x)).lt (.str (mkS y)))=_;rw[str_beq,str_lt,ltL_iff a b];by_cases h:x=y
  ·subst h;simp[List.cons_lt_cons_iff]
  ·simp[List.cons_lt_cons_iff,h]
theorem sD_lt(a b:List (List Nat)):(sD a).lt (sD b)=decide (a<b):=ltL_iff a b
theorem u8_lt{a b:Nat}(ha:a<256)(hb:b<256):(a.toUInt8<b.toUInt8)↔a<b:=by
 rw[UInt8.lt_iff_toNat_lt];have h1:a.toUInt8.toNat=a:=by show(UInt8.ofNat a).toNat=a;rw[UInt8.toNat_ofNat'];omega
 have h2:b.toUInt8.toNat=b:=by show(UInt8.ofNat b).toNat=b;rw[UInt8.toNat_ofNat'];omega
 rw[h1,h2]
theorem u8_eq{a b:Nat}(ha:a<256)(hb:b<256):(a.toUInt8=b.toUInt8)↔a=b:=by
 constructor
 ·intro h;have h1:a.toUInt8.toNat=a:=by show(UInt8.ofNat a).toNat=a;rw[UInt8.toNat_ofNat'];omega
  have h2:b.toUInt8.toNat=b:=by show(UInt8.ofNat b).toNat=b;rw[UInt8.toNat_ofNat'];omega
  rw[←h1,←h2,h]
 ·intro nq63;subst nq63;rfl
abbrev Oc(a:List Nat):Prop:=∀c∈a,c<256
theorem octs_list(a:List Nat):(octs a).toList=a.map (·.toUInt8):=by unfold octs;simp
theorem order_iff:∀{a b:List Nat},Oc a→Oc b→(Builtin.Bytes.order (a.map (·.toUInt8)) (b.map (·.toUInt8))==.lt)=decide (a<b)
 |[],[],_,_=>by simp[Builtin.Bytes.order]
 |[],_::_,_,_=>by simp[Builtin.Bytes.order]
 |_::_,[],_,_=>by simp[Builtin.Bytes.order]
 |x::a,y::b,ha,hb=>by
  have hx:=ha x (.head _);have hy:=hb y (.head _);have ih:=order_iff (a:=a) (b:=b) (fun c hc=>ha c (.tail _ hc)) (fun c hc=>hb c (.tail _ hc));rw[List.map_cons,List.map_cons,Builtin.Bytes.order];by_cases h1:x<y
  ·rw[if_pos ((u8_lt hx hy).mpr h1)];simp[List.cons_lt_cons_iff,h1]
  ·rw[if_neg (fun h=>h1 ((u8_lt hx hy).mp h))];by_cases h2:y<x
   ·rw[if_pos ((u8_lt hy hx).mpr h2)];have:¬x=y:=J220 h2;simp[List.cons_lt_cons_iff,h1,this]
   ·rw[if_neg (fun h=>h2 ((u8_lt hy hx).mp h)),ih];have:x=y:=J336 h1 h2;subst this;simp[List.cons_lt_cons_iff]
theorem octs_inj{a b:List Nat}(ha:Oc a)(hb:Oc b)(h:octs a=octs b):a=b:=by
 replace h:=congrArg Array.toList h;rw[octs_list,octs_list]at h
 induction a generalizing b with
 |nil=>cases b with
  |nil=>rfl
  |cons=>simp at h
 |cons x a ih=>
  cases b with
  |nil=>simp at h
  |cons y b=>
   simp only[List.map_cons,List.cons.injEq]at h;rw[(u8_eq (ha x (.head _)) (hb y (.head _))).mp h.1,ih (fun c hc=>ha c (.tail _ hc)) (fun c hc=>hb c (.tail _ hc)) h.2]
noncomputable abbrev bL(a:List (List Nat)):List D:=a.map fun b=>D.byt (octs b)
abbrev Ocs(a:List (List Nat)):Prop:=∀b∈a,Oc b
theorem byt_beq{a b:List Nat}(ha:Oc a)(hb:Oc b):(D.byt (octs a)).beq (.byt (octs b))=decide (a=b):=by
 by_cases h:a=b
 ·subst h;rw[D.beq_iff.mpr rfl,decide_eq_true rfl]
 ·rw[decide_eq_false h];exact D.beq_ne.mpr fun e=>h (by injection e with e;exact octs_inj ha hb e)
theorem byt_lt{a b:List Nat}(ha:Oc a)(hb:Oc b):(D.byt (octs a)).lt (.byt (octs b))=decide (a<b):=by
 show(Builtin.Bytes.order (octs a).toList (octs b).toList==.lt)=_;rw[octs_list,octs_list];exact order_iff ha hb
theorem ltB_iff:∀{a b:List (List Nat)},Ocs a→Ocs b→D.ltL (bL a) (bL b)=decide (a<b)
 |[],[],_,_=>by rw[decide_eq_false (List.lt_irrefl _)];rfl
 |[],_::_,_,_=>by rw[decide_eq_true (List.nil_lt_cons ..)];rfl
 |_::_,[],_,_=>by rw[decide_eq_false (List.not_lt_nil _)];rfl
 |x::a,y::b,ha,hb=>by
  show(if(D.byt (octs x)).beq (.byt (octs y))then D.ltL (bL a) (bL b)else(D.byt (octs x)).lt (.byt (octs y)))=_;rw[byt_beq (ha x (.head _)) (hb y (.head _)),byt_lt (ha x (.head _)) (hb y (.head _)),ltB_iff (fun c hc=>ha c (.tail _ hc)) (fun c hc=>hb c (.tail _ hc))];by_cases h:x=y
  ·subst h;simp[List.cons_lt_cons_iff]
  ·simp[List.cons_lt_cons_iff,h]
theorem bL_inj{a b:List (List Nat)}(ha:Ocs a)(hb:Ocs b)(h:bL a=bL b):a=b:=by
 induction a generalizing b with
 |nil=>cases b with
  |nil=>rfl
  |cons=>simp at h
 |cons x a ih=>
  cases b with
  |nil=>simp at h
  |cons y b=>
   simp only[bL,List.map_cons,List.cons.injEq]at h;have h1:octs x=octs y:=by injection h.1
   rw[octs_inj (ha x (.head _)) (hb y (.head _)) h1,ih (fun c hc=>ha c (.tail _ hc)) (fun c hc=>hb c (.tail _ hc)) h.2]
end
section
structure Ord(P:D→Prop):Prop where
 irr:∀a,P a→a.lt a=false
 tr:∀a b c,P a→P b→P c→b.lt a=false→c.lt b=false→c.lt a=false
 as:∀a b,P a→P b→a.lt b=true→b.lt a=false
def Le(a b:D):Prop:=b.lt a=false
def Hp(l:List D):Prop:=∀i (h:i<l.length),0<i→Le (l[(i-1)/2]'(J202 h)) l[i]
structure Hole(l:List D)(p:Nat):Prop where
 at_:p<l.length
 up:∀i (h:i<l.length),0<i→i≠p→(i-1)/2≠p→Le (l[(i-1)/2]'(J202 h)) l[i]
 over:∀i (h:i<l.length),0<i→(i-1)/2=p→0<p→Le (l[(p-1)/2]'(by have:=at_;exact J202 at_)) l[i]
theorem get_set{l:List D}{p i:Nat}{x:D}(h:i<(l.set p x).length):(l.set p x)[i]=if p=i then x else l[i]'(by simpa using h):=by rw[List.getElem_set]
theorem sd_heap{P:D→Prop}(O:Ord P):∀(f:Nat) (new:D) (l:List D) (p:Nat),p≤f→(∀d∈l,P d)→P new→Hole l p→(∀i (h:i<l.length),0<i→(i-1)/2=p→Le new l[i])→Hp (sdGo f new l p):=by
 intro f;have base:∀(new:D) (l:List D) (p:Nat) (H:Hole l p),(∀i (h:i<l.length),0<i→(i-1)/2=p→Le new l[i])→(∀(h:0<p),Le (l[(p-1)/2]'(by have:=H.at_;exact J202 this)) new)→Hp (l.set p new):=by
  intro new l p H hc hp i hi h0;have hi':i<l.length:=by simpa using hi
  rw[get_set,get_set];by_cases e1:p=i
  ·subst e1;rw[if_pos rfl,if_neg (J60 h0)];exact hp h0
  ·rw[if_neg e1];by_cases e2:p=(i-1)/2
   ·rw[if_pos e2];exact hc i hi' h0 e2.symm
   ·rw[if_neg e2];exact H.up i hi' h0 (Ne.symm e1) (Ne.symm e2)
 induction f with
 |zero=>
  intro new l p hpf hl hn H hc;rw[sdGo];exact base new l p H hc (fun h=>by exact(J152 h hpf).elim)
 |succ f ih=>
  intro new l p hpf hl hn H hc;rw[sdGo]
  split
  ·rename_i h0;exact base new l p H hc (fun h=>by exact(J151 h h0).elim)
  ·rename_i h0;have hp:=H.at_
   have hq:(p-1)/2<l.length:=J202 hp;rw[List.getElem?_eq_getElem hq];dsimp only;have hqP:P l[(p-1)/2]:=hl _ (List.getElem_mem hq);cases hlt:new.lt l[(p-1)/2]with
   |false=>
    rw[if_neg Bool.false_ne_true];exact base new l p H hc (fun h=>hlt)
   |true=>
    rw[if_pos rfl];refine ih new (l.set p l[(p-1)/2]) ((p-1)/2) (J252 hpf) ?_ hn ⟨by simpa using hq,?_,?_⟩ ?_
    ·intro d hd;rcases List.mem_or_eq_of_mem_set hd with h|h
     ·exact hl d h
     ·rw[h];exact hqP
    ·intro i hi h1 h2 h3;have hi':i<l.length:=by simpa using hi
     rw[get_set,get_set];by_cases e1:p=i
     ·subst e1;exact absurd rfl h3
     ·rw[if_neg e1];by_cases e2:p=(i-1)/2
      ·rw[if_pos e2];exact H.over i hi' h1 e2.symm (J482 h3 e2)
      ·rw[if_neg e2];exact H.up i hi' h1 (Ne.symm e1) (Ne.symm e2)
    ·intro i hi h1 h2 h3;have hi':i<l.length:=by simpa using hi
     rw[get_set,get_set,if_neg (J471 h3)];have hup:Le (l[((p-1)/2-1)/2]'(J438 hq)) l[(p-1)/2]:=H.up ((p-1)/2) hq h3 (J470 h3) (J469 h3);by_cases e1:p=i
     ·rw[if_pos e1];exact hup
     ·rw[if_neg e1];have hsib:=H.up i hi' h1 (Ne.symm e1) (J479 h2 h3);have e:l[(i-1)/2]'(J380 hq h2)=l[(p-1)/2]:=by congr 1
      rw[e]at hsib;exact O.tr _ _ _ (hl _ (List.getElem_mem _)) hqP (hl _ (List.getElem_mem hi')) hup hsib
    ·intro i hi h1 h2;have hi':i<l.length:=by simpa using hi
     rw[get_set];have hnq:Le new l[(p-1)/2]:=O.as _ _ hn hqP hlt;by_cases e1:p=i
     ·rw[if_pos e1];exact hnq
     ·rw[if_neg e1];have hsib:=H.up i hi' h1 (Ne.symm e1) (J481 h2 h0);have e:l[(i-1)/2]'(J380 hq h2)=l[(p-1)/2]:=by congr 1
      rw[e]at hsib;exact O.tr _ _ _ hn hqP (hl _ (List.getElem_mem hi')) hnq hsib
theorem su_hole{P:D→Prop}(O:Ord P):∀(f:Nat) (l:List D) (p:Nat),l.length≤p+f→(∀d∈l,P d)→Hole l p→(∀d∈(suGo f l p).1,P d)∧Hole (suGo f l p).1 (suGo f l p).2∧(suGo f l p).1.length=l.length∧l.length≤2*(suGo f l p).2+1:=by
 intro f
 induction f with
 |zero=>intro l p hf hl H;have:=H.at_;exact(J330 this hf).elim
 |succ f ih=>
  intro l p hf hl H;have hp:=H.at_
  rw[suGo];cases ha:l[2*p+1]? with
  |none=>
   dsimp only;rw[List.getElem?_eq_none_iff]at ha;exact⟨hl,H,rfl,ha⟩
  |some a=>
   obtain⟨ha',hae⟩:=List.getElem?_eq_some_iff.mp ha;have key:∀(c:Nat) (hc:c<l.length),0<c→(c-1)/2=p→(∀i (hi:i<l.length),0<i→(i-1)/2=p→Le l[c] l[i])→
    (∀d∈(suGo f (l.set p l[c]) c).1,P d)∧Hole (suGo f (l.set p l[c]) c).1 (suGo f (l.set p l[c]) c).2∧(suGo f (l.set p l[c]) c).1.length=l.length∧l.length≤2*(suGo f (l.set p l[c]) c).2+1:=by
    intro c hc h0 hpc hmin;have hcP:P l[c]:=hl _ (List.getElem_mem hc);have:=ih (l.set p l[c]) c (by rw[List.length_set];exact J517 hpc h0 hf) ?_ ⟨by simpa using hc,?_,?_⟩
    ·rw[List.length_set]at this;exact this
    ·intro d hd;rcases List.mem_or_eq_of_mem_set hd with h|h
     ·exact hl d h
     ·rw[h];exact hcP
    ·intro i hi h1 h2 h3;have hi':i<l.length:=by simpa using hi
     rw[get_set,get_set];by_cases e1:p=i
     ·subst e1;rw[if_pos rfl,if_neg (J60 h1)];exact H.over c hc h0 hpc h1
     ·rw[if_neg e1];by_cases e2:p=(i-1)/2
      ·rw[if_pos e2];exact hmin i hi' h1 e2.symm
      ·rw[if_neg e2];exact H.up i hi' h1 (Ne.symm e1) (Ne.symm e2)
    ·intro i hi h1 h2 h3;have hi':i<l.length:=by simpa using hi
     rw[get_set,get_set,if_pos hpc.symm,if_neg (J537 h2 hpc h1)];have:=H.up i hi' h1 (J536 h2 hpc h1) (J535 h2 hpc h0);have e:l[(i-1)/2]'(J405 h2 hc)=l[c]:=by congr 1
     rw[e]at this;exact this
   cases hb:l[2*p+2]? with
   |none=>
    dsimp only;rw[List.getElem?_eq_none_iff]at hb;subst hae;exact key (2*p+1) ha' J24 J18 fun i hi h0 he=>by
     have:i=2*p+1:=J480 he h0 hi hb;subst this;exact O.irr _ (hl _ (List.getElem_mem ha'))
   |some b=>
    obtain⟨hb',hbe⟩:=List.getElem?_eq_some_iff.mp hb;subst hae hbe;dsimp only;have haP:=hl _ (List.getElem_mem ha');have hbP:=hl _ (List.getElem_mem hb');cases hlt:l[2*p+1].lt l[2*p+2]with
    |true=>
     rw[if_pos rfl];exact key (2*p+1) ha' J24 J18 fun i hi h0 he=>by
      rcases(J266 he h0:i=2*p+1∨i=2*p+2)with rfl|rfl
      ·exact O.irr _ haP
      ·exact O.as _ _ haP hbP hlt
    |false=>
     rw[if_neg Bool.false_ne_true];exact key (2*p+2) hb' J25 J19 fun i hi h0 he=>by
      rcases(J266 he h0:i=2*p+1∨i=2*p+2)with rfl|rfl
      ·exact hlt
      ·exact O.irr _ hbP
theorem siftup_heap{P:D→Prop}(O:Ord P){l:List D}{new:D}(hl:∀d∈l,P d)(hn:P new)(H:Hole l 0):Hp (siftup l new):=by
 unfold siftup;refine x0_3 (su_hole O l.length l 0 J51 hl H) fun h1 h2 h3 h4=>?_;have hs:Hole ((suGo l.length l 0).1.set (suGo l.length l 0).2 new) (suGo l.length l 0).2:=by
  refine⟨by simpa using h2.at_,fun i hi a b c=>?_,fun i hi a b c=>?_⟩
  ·rw[get_set,get_set,if_neg (J267 c),if_neg (J345 b)];exact h2.up i (by simpa using hi) a b c
  ·have:i<(suGo l.length l 0).1.length:=by simpa using hi
   exact(J573 b a this h3 h4).elim
 refine sd_heap O _ new _ _ (Nat.le_refl _) (fun d hd=>?_) hn hs fun i hi a b=>?_
 ·rcases List.mem_or_eq_of_mem_set hd with h|h
  ·exact h1 d h
  ·rw[h];exact hn
 ·have:i<(suGo l.length l 0).1.length:=by simpa using hi
  exact(J573 b a this h3 h4).elim
theorem hpush_heap{P:D→Prop}(O:Ord P){l:List D}{x:D}(hl:∀d∈l,P d)(hx:P x)(H:Hp l):Hp (hpush l x):=by
 unfold hpush;refine sd_heap O _ x _ _ (Nat.le_refl _) (fun d hd=>?_) hx ⟨by simp,fun i hi a b c=>?_,fun i hi a b c=>?_⟩ fun i hi a b=>?_
 ·rcases List.mem_append.mp hd with h|h
  ·exact hl d h
  ·rw[List.mem_singleton]at h;rw[h];exact hx
 ·have hi':i<l.length:=by simp at hi;exact J295 hi b
  rw[List.getElem_append_left (J202 hi'),List.getElem_append_left hi'];exact H i hi' a
 ·simp at hi;exact(J474 b a hi).elim
 ·simp at hi;exact(J474 b a hi).elim
theorem hpop_heap{P:D→Prop}(O:Ord P){l:List D}{last:D}(hl:∀d∈l,P d)(hx:P last)(H:Hp (l++[last])):Hp (hpop l last).2:=by
 cases l with
 |nil=>intro i hi;simp[hpop]at hi
 |cons x r=>
  show Hp (siftup (last::r) last);refine siftup_heap O (fun d hd=>?_) hx ⟨by simp,fun i hi a b c=>?_,fun i hi a b c=>by exact(J287 c).elim⟩
  ·rcases List.mem_cons.mp hd with h|h
   ·rw[h];exact hx
   ·exact hl d (.tail _ h)
  ·have hi':i<(x::r).length:=by simpa using hi
   have:=H i (by simp at hi⊢;exact J221 hi) a;rw[List.getElem_append_left (show(i-1)/2<(x::r).length by simp at hi⊢;exact J294 hi),List.getElem_append_left hi']at this;have e1:(last::r)[(i-1)/2]'(by simp at hi⊢;exact J294 hi)=(x::r)[(i-1)/2]'(by simp at hi⊢;exact J294 hi):=by
    obtain⟨j,hj⟩:∃j,(i-1)/2=j+1:=⟨(i-1)/2-1,J146 c⟩;simp[hj]
   have e2:(last::r)[i]=(x::r)[i]:=by
    obtain⟨j,hj⟩:∃j,i=j+1:=⟨i-1,J59 a⟩;subst hj;simp
   rw[e1,e2];exact this
theorem heap_root{P:D→Prop}(O:Ord P){x:D}{r:List D}(hl:∀d∈x::r,P d)(H:Hp (x::r)):∀d∈x::r,Le x d:=by
 have key:∀(n i:Nat) (h:i<(x::r).length),i≤n→Le x (x::r)[i]:=by
  intro n
  induction n with
  |zero=>
   intro i h hn;have:i=0:=J114 hn;subst this;exact O.irr _ (hl _ (.head _))
  |succ n ih=>
   intro i h hn;by_cases h0:i=0
   ·subst h0;exact O.irr _ (hl _ (.head _))
   ·have h1:=ih ((i-1)/2) (J202 h) (J252 hn);exact O.tr _ _ _ (hl _ (.head _)) (hl _ (List.getElem_mem _)) (hl _ (List.getElem_mem _)) h1 (H i h (J137 h0))
 intro d hd;obtain⟨i,hi,e⟩:=List.getElem_of_mem hd;rw[←e];exact key i i hi (Nat.le_refl _)
theorem hpop_min{P:D→Prop}(O:Ord P){l:List D}{last:D}(hl:∀d∈l++[last],P d)(H:Hp (l++[last])):∀d∈l++[last],Le (hpop l last).1 d:=by
 cases l with
 |nil=>
  intro d hd;simp at hd;subst hd;exact O.irr _ (hl _ (by simp))
 |cons x r=>exact heap_root O hl H
end
section
open PySem
def ltQ(e e':Qe):Prop:=e.1<e'.1∨(e.1=e'.1∧(e.2.1<e'.2.1∨(e.2.1=e'.2.1∧e.2.2<e'.2.2)))
theorem qd_lt(e e':Qe):(qd e).lt (qd e')=true↔ltQ e e':=by
 obtain⟨p,pl,bl⟩:=e;obtain⟨p',pl',bl'⟩:=e';show(if(D.int p).beq (.int p')then(if(D.int pl).beq (.int pl')then(if(D.lst (sL bl)).beq (.lst (sL bl'))then false else(D.lst (sL bl)).lt (.lst (sL bl')))else(D.int pl).lt (.int pl'))else(D.int p).lt (.int p'))=true↔_;have hl:(D.lst (sL bl)).lt (.lst (sL bl'))=decide (bl<bl'):=ltL_iff bl bl';have hb:(D.lst (sL bl)).beq (.lst (sL bl'))=true↔bl=bl':=by
  rw[D.beq_iff];constructor
  ·intro h;injection h with h
   have:∀(a b:List (List Nat)),sL a=sL b→a=b:=by
    intro a
    induction a with
    |nil=>intro b h;cases b with|nil=>rfl|cons=>simp at h
    |cons x a ih=>
     intro b h;cases b with
     |nil=>simp at h
     |cons y b=>
      simp only[sL,List.map_cons,List.cons.injEq]at h;have h1:mkS x=mkS y:=by injection h.1
      rw[mkS_inj h1,ih b h.2]
   exact this _ _ h
  ·intro nq64;subst nq64;rfl
 have hp:∀a b:Int,(D.int a).beq (.int b)=decide (a=b):=D.beq_int;have hlt:∀a b:Int,(D.int a).lt (.int b)=decide (a<b):=D.lt_int;rw[hl,hp,hp,hlt,hlt];unfold ltQ;dsimp only;by_cases h1:p=p'
 ·subst h1;by_cases h2:(pl:Int)=(pl':Int)
  ·have h2':pl=pl':=J171 h2;subst h2';by_cases h3:bl=bl'
   ·subst h3;rw[hb.mpr rfl];simp
   ·have:(D.lst (sL bl)).beq (.lst (sL bl'))=false:=by
     rw[Bool.eq_false_iff];exact fun h=>h3 (hb.mp h)
    rw[this];simp
  ·have h2':¬pl=pl':=J255 h2;simp[h2,h2']
 ·simp[h1]
theorem lst_irr(a:List (List Nat)):¬a<a:=List.lt_irrefl a
theorem ltQ_irr(e:Qe):¬ltQ e e:=by
 rintro (h|⟨_,h|⟨_,h⟩⟩)
 ·exact J144 h
 ·exact J103 h
 ·exact lst_irr _ h
theorem ltQ_as{e e':Qe}(h:ltQ e e'):¬ltQ e' e:=by
 intro h';rcases h with h|⟨h1,h|⟨h2,h⟩⟩<;>rcases h' with h'|⟨h1',h'|⟨h2',h'⟩⟩<;>first|omega|exact List.lt_asymm h h'
theorem ltQ_tr{a b c:Qe}(h:¬ltQ b a)(h':¬ltQ c b):¬ltQ c a:=by
 intro hc;unfold ltQ at *;rcases Int.lt_trichotomy a.1 b.1 with h1|h1|h1
 ·rcases Int.lt_trichotomy b.1 c.1 with h2|h2|h2
  ·rcases hc with hc|⟨hc,_⟩<;>omega
  ·rcases hc with hc|⟨hc,_⟩<;>omega
  ·exact h' (.inl h2)
 ·rcases Int.lt_trichotomy b.1 c.1 with h2|h2|h2
  ·rcases hc with hc|⟨hc,_⟩<;>omega
  ·have hc':c.2.1<a.2.1∨(c.2.1=a.2.1∧c.2.2<a.2.2):=by
    rcases hc with hc|⟨_,hc⟩
    ·exact(J467 hc h1 h2).elim
    ·exact hc
   have g1:¬(b.2.1<a.2.1∨(b.2.1=a.2.1∧b.2.2<a.2.2)):=fun q=>h (.inr ⟨h1.symm,q⟩);have g2:¬(c.2.1<b.2.1∨(c.2.1=b.2.1∧c.2.2<b.2.2)):=fun q=>h' (.inr ⟨h2.symm,q⟩);rcases hc' with hc|⟨hc,hd⟩
   ·exact g2 (.inl (by
     have:¬b.2.1<a.2.1:=fun q=>g1 (.inl q);omega))
   ·have e1:¬b.2.1<a.2.1:=fun q=>g1 (.inl q);have e2:¬c.2.1<b.2.1:=fun q=>g2 (.inl q);have e3:b.2.1=a.2.1:=by omega
    have e4:c.2.1=b.2.1:=by omega
    have f1:¬b.2.2<a.2.2:=fun q=>g1 (.inr ⟨e3,q⟩);have f2:¬c.2.2<b.2.2:=fun q=>g2 (.inr ⟨e4,q⟩);exact List.not_lt.mpr (List.le_trans (List.not_lt.mp f1) (List.not_lt.mp f2)) hd
  ·exact h' (.inl h2)
 ·exact h (.inl h1)
theorem qOrd(n:Nat):Ord (EOk n) where
 irr:=by
  intro a nq65;obtain⟨e,rfl,_⟩:=nq65;rw[Bool.eq_false_iff];exact fun h=>ltQ_irr e ((qd_lt e e).mp h)
 tr:=by
  intro a b c nq66;obtain⟨e,rfl,_⟩:=nq66;intro nq67;obtain⟨e',rfl,_⟩:=nq67;intro nq68;obtain⟨e'',rfl,_⟩:=nq68;intro h1 h2;rw[Bool.eq_false_iff]at h1 h2⊢;exact fun h=>ltQ_tr (fun q=>h1 ((qd_lt _ _).mpr q)) (fun q=>h2 ((qd_lt _ _).mpr q)) ((qd_lt _ _).mp h)
 as:=by
  intro a b nq69;obtain⟨e,rfl,_⟩:=nq69;intro nq70;obtain⟨e',rfl,_⟩:=nq70;intro h;rw[Bool.eq_false_iff];exact fun q=>ltQ_as ((qd_lt _ _).mp h) ((qd_lt _ _).mp q)
noncomputable def sumLen(bl:List (List Nat)):Int:=(bl.map fun b=>(b.length:Int)).sum
theorem wys_price{x:List Nat}(hx:Sg x)(most fee:Int):∀(n s:Nat),s≤n→s≤x.length→∀e∈wys x most fee s,e.1=sumLen e.2+fee*(e.2.length:Int)∧∀b∈e.2,0<b.length:=by
 intro n
 induction n with
 |zero=>
  intro s hs _ e he;have:s=0:=J114 hs;subst this;rw[wys_zero,List.mem_singleton]at he;subst he;simp[sumLen]
 |succ n ih=>
  intro s hs hx' e he;cases s with
  |zero=>exact ih 0 J31 hx' e he
  |succ s=>
   rw[wys_succ hx most fee hx']at he;refine x1_1 (List.mem_flatMap.mp he) fun p hp he=>?_;rw[List.mem_range]at hp
   split at he
   ·refine x1_1 (List.mem_map.mp he) fun e0 he0 eq2=>?_;subst eq2;obtain⟨h1,h2⟩:=ih p (J390 hs hp) (J385 hx' hp) e0 he0;refine⟨?_,fun b hb=>?_⟩
    ·show e0.1+_+fee=sumLen (e0.2++[_])+fee*((e0.2++[_]).length:Int);unfold sumLen at h1⊢;rw[List.map_append,List.sum_append,List.length_append,h1];simp only[List.map_cons,List.map_nil,List.sum_cons,List.sum_nil,List.length_cons,List.length_nil];have e:fee*((e0.2.length+(0+1):Nat):Int)=fee*(e0.2.length:Int)+fee:=by
      rw[show((e0.2.length+(0+1):Nat):Int)=(e0.2.length:Int)+1 by exact J14,Int.mul_add,Int.mul_one]
     rw[e];exact J484
    ·rcases List.mem_append.mp hb with hb|hb
     ·exact h2 b hb
     ·rw[List.mem_singleton]at hb;subst hb;exact sent_pos hx hp hx'
   ·cases he
theorem sumLen_nonneg(bl:List (List Nat)):0≤sumLen bl:=by
 unfold sumLen
 induction bl with
 |nil=>simp
 |cons b r ih=>simp;exact J262 ih
theorem sumLen_pos{bl:List (List Nat)}(h:bl≠[])(hp:∀b∈bl,0<b.length):0<sumLen bl:=by
 cases bl with
 |nil=>exact absurd rfl h
 |cons b r=>
  have h1:=hp b (.head _);have h2:=sumLen_nonneg r;unfold sumLen at h2⊢;simp;exact J339 h1 h2
theorem no_prefix{fee:Int}(hf:0≤fee){e e':Wy}(h:e.1=sumLen e.2+fee*(e.2.length:Int))(h':e'.1=sumLen e'.2+fee*(e'.2.length:Int))(hp:∀b∈e'.2,0<b.length)(he:e.1=e'.1){t:List (List Nat)}(ht:e'.2=e.2++t):t=[]:=by
 apply Classical.byContradiction;intro hne;have h1:=sumLen_pos hne (fun b hb=>hp b (by rw[ht];exact List.mem_append_right _ hb));rw[ht]at h';unfold sumLen at h h' h1;rw[List.map_append,List.sum_append,List.length_append]at h';have h2:fee*((e.2.length+t.length:Nat):Int)=fee*(e.2.length:Int)+fee*(t.length:Int):=by
  rw[show((e.2.length+t.length:Nat):Int)=(e.2.length:Int)+(t.length:Int)by exact J157,Int.mul_add]
 have h3:0≤fee*(t.length:Int):=Int.mul_nonneg hf J29;rw[h2]at h';exact J583 h1 h3 h' he h
theorem app_lt:∀{a b:List (List Nat)} (u:List (List Nat)),a<b→(∀t,b=a++t→t=[])→a++u<b++u
 |[],[],u,h,_=>absurd h (List.lt_irrefl _)
 |[],y::b,u,_,hp=>by have:=hp (y::b) rfl;cases this
 |x::a,[],u,h,_=>by cases h
 |x::a,y::b,u,h,hp=>by
  rw[List.cons_lt_cons_iff]at h;rw[List.cons_append,List.cons_append,List.cons_lt_cons_iff];rcases h with h|⟨rfl,h⟩
  ·exact .inl h
  ·exact .inr ⟨rfl,app_lt u h fun t e=>hp t (by rw[e];rfl)⟩
def ltW(e e':Wy):Prop:=e.1<e'.1∨(e.1=e'.1∧e.2<e'.2)
theorem lst_tri(a b:List (List Nat)):a<b∨a=b∨b<a:=by
 by_cases h:a<b
 ·exact .inl h
 ·by_cases h':b<a
  ·exact .inr (.inr h')
  ·exact .inr (.inl (List.le_antisymm (List.not_lt.mp h') (List.not_lt.mp h)))
theorem ltW_tri{e e':Wy}(h:¬ltW e e')(h':¬ltW e' e):e=e':=by
 unfold ltW at h h';rw[not_or]at h h';have h1:e.1=e'.1:=by omega
 have h2:e.2=e'.2:=by
  rcases lst_tri e.2 e'.2 with q|q|q
  ·exact absurd ⟨h1,q⟩ h.2
  ·exact q
  ·exact absurd ⟨h1.symm,q⟩ h'.2
 exact Prod.ext h1 h2
theorem ltW_tr{a b c:Wy}(h:¬ltW b a)(h':¬ltW c b):¬ltW c a:=by
 have:=ltQ_tr (a:=(a.1,0,a.2)) (b:=(b.1,0,b.2)) (c:=(c.1,0,c.2)) (fun q=>h ?_) (fun q=>h' ?_)
 ·intro q;refine this ?_;rcases q with q|⟨q1,q2⟩
  ·exact .inl q
  ·exact .inr ⟨q1,.inr ⟨rfl,q2⟩⟩
 ·rcases q with q|⟨q1,q2|⟨_,q2⟩⟩
  ·exact .inl q
  ·simp at q2
  ·exact .inr ⟨q1,q2⟩
 ·rcases q with q|⟨q1,q2|⟨_,q2⟩⟩
  ·exact .inl q
  ·simp at q2
  ·exact .inr ⟨q1,q2⟩
def IsBest(l:List Wy)(e:Wy):Prop:=e∈l∧∀e'∈l,¬ltW e' e
theorem IsBest.uniq{l:List Wy}{e e':Wy}(h:IsBest l e)(h':IsBest l e'):e=e':=ltW_tri (h'.2 e h.1) (h.2 e' h'.1)
theorem tried_best{x:List Nat}{most fee:Int}{s:Nat}(hne:cuts x most s≠[]):IsBest (wys x most fee s) ((triedE x most fee s).1,(triedE x most fee s).2.2.2):=by
 have hb:=bestR_ne (fee:=fee) hne;have hb':(bestR x most fee s).map (blocksR x)≠[]:=by simpa using hb
 have hm:=minO_mem sD [] hb';refine x1_1 (List.mem_map.mp hm) fun row hr er=>?_;have hr2:=List.mem_filter.mp hr;have hpr:priceR x fee s row=leastR x most fee s:=by simpa using hr2.2
 refine⟨List.mem_map.mpr ⟨row,hr2.1,Prod.ext hpr er⟩,fun e' he' hlt=>?_⟩;refine x1_1 (List.mem_map.mp he') fun row' hr' eq2=>?_;subst eq2;have hle:leastR x most fee s≤priceR x fee s row':=minI_le (List.mem_map.mpr ⟨row',hr',rfl⟩);rcases hlt with h|⟨h1,h2⟩
 ·have h:priceR x fee s row'<leastR x most fee s:=h;exact J343 h hle
 ·have h1:priceR x fee s row'=leastR x most fee s:=h1;have hmem:blocksR x row'∈(bestR x most fee s).map (blocksR x):=List.mem_map.mpr ⟨row',List.mem_filter.mpr ⟨hr',by simpa using h1⟩,rfl⟩;have key:∀(l:List (List (List Nat))) (a:List (List Nat)),∀b∈a::l,¬b<l.foldl (betO sD) a:=by
   intro l
   induction l with
   |nil=>intro a b hb;rw[List.mem_singleton]at hb;subst hb;exact List.lt_irrefl _
   |cons c l ih=>
    intro a b hb;rw[List.foldl_cons];have hbet:¬a<betO sD a c∧¬c<betO sD a c:=by
     unfold betO;rw[sD_lt];by_cases hc:c<a
     ·rw[if_pos (by simpa using hc)];exact⟨List.lt_asymm hc,List.lt_irrefl _⟩
     ·rw[if_neg (by simpa using hc)];exact⟨List.lt_irrefl _,hc⟩
    have tr:∀b,¬b<betO sD a c→¬b<l.foldl (betO sD) (betO sD a c):=fun b hb=>
     List.not_lt.mpr (List.le_trans (List.not_lt.mp (ih _ _ (.head _))) (List.not_lt.mp hb))
    rcases List.mem_cons.mp hb with rfl|hb
    ·exact tr _ hbet.1
    ·rcases List.mem_cons.mp hb with rfl|hb
     ·exact tr _ hbet.2
     ·exact ih _ _ (.tail _ hb)
  have h2:blocksR x row'<minO sD [] ((bestR x most fee s).map (blocksR x)):=h2;generalize (bestR x most fee s).map (blocksR x)=bl at hb' hmem h2;cases bl with
  |nil=>exact hb' rfl
  |cons a l=>exact key l a _ hmem h2
theorem best_step{x:List Nat}(hx:Sg x){most fee:Int}(hf:0≤fee){n:Nat}(hn:n+1≤x.length)(bw:Nat→Wy)(hb:∀p≤n,IsBest (wys x most fee p) (bw p)){e:Wy}
 (h1:∃p≤n,okB x most p (n+1)=true∧e=stepW x fee (n+1) p (bw p)) (h2:∀p≤n,okB x most p (n+1)=true→¬ltW (stepW x fee (n+1) p (bw p)) e):IsBest (wys x most fee (n+1)) e:=by
 rw[wys_succ hx most fee hn];refine⟨?_,fun e' he'=>?_⟩
 ·refine x1_2 h1 fun p hp hok eq3=>?_;clear h1;subst eq3;refine List.mem_flatMap.mpr ⟨p,List.mem_range.mpr (J243 hp),?_⟩;rw[if_pos hok];exact List.mem_map.mpr ⟨_,(hb p hp).1,rfl⟩
 ·refine x1_1 (List.mem_flatMap.mp he') fun p hp he'=>?_;rw[List.mem_range]at hp
  split at he'
  ·rename_i hok;refine x1_1 (List.mem_map.mp he') fun e0 he0 eq2=>?_;subst eq2;have hbp:=hb p (J222 hp);refine ltW_tr (h2 p (J222 hp) hok) fun hlt=>?_;have hn0:=hbp.2 e0 he0;have w0:=wys_price hx most fee p p (Nat.le_refl _) (J385 hn hp) e0 he0;have wb:=wys_price hx most fee p p (Nat.le_refl _) (J385 hn hp) _ hbp.1;unfold ltW stepW at hlt;dsimp only at hlt;unfold ltW at hn0;rw[not_or]at hn0;rcases hlt with hlt|⟨hlt,hbl⟩
   ·omega
   ·have hpe:e0.1=(bw p).1:=J490 hlt;rcases lst_tri e0.2 (bw p).2 with q|q|q
    ·exact hn0.2 ⟨hpe,q⟩
    ·rw[q]at hbl;exact List.lt_irrefl _ hbl
    ·have:=app_lt [sentL (sub x p (n+1))] q fun t ht=>no_prefix hf wb.1 w0.1 w0.2 hpe.symm ht;exact List.lt_asymm this hbl
  ·cases he'
theorem wys_mono{x:List Nat}(hx:Sg x){most fee:Int}(hf:0≤fee){n:Nat}(hn:n+1≤x.length):∀e∈wys x most fee (n+1),∃e'∈wys x most fee n,e'.1≤e.1:=by
 intro e he;rw[wys_succ hx most fee hn]at he;refine x1_1 (List.mem_flatMap.mp he) fun p hp he=>?_;rw[List.mem_range]at hp
 split at he
 ·rename_i hok;refine x1_1 (List.mem_map.mp he) fun e0 he0 eq2=>?_;subst eq2;by_cases hpn:p=n
  ·subst hpn;exact⟨e0,he0,by show e0.1≤e0.1+_+fee;exact J379 hf⟩
  ·cases n with
   |zero=>exact(J149 hp hpn).elim
   |succ n=>
    have hm:=sent_mono (x:=x) (a:=p) (b:=n+1) (J224 hp) hn;have hok':okB x most p (n+1)=true:=by
     unfold okB at hok⊢;simp at hok⊢;exact J437 hok hm
    refine⟨stepW x fee (n+1) p e0,?_,?_⟩
    ·rw[wys_succ hx most fee (J180 hn)];refine List.mem_flatMap.mpr ⟨p,List.mem_range.mpr (J296 hp hpn),?_⟩;rw[if_pos hok'];exact List.mem_map.mpr ⟨e0,he0,rfl⟩
    ·show e0.1+_+fee≤e0.1+_+fee;exact J489 hm
 ·cases he
theorem best_mono{x:List Nat}(hx:Sg x){most fee:Int}(hf:0≤fee)(bw:Nat→Wy)(hb:∀p≤x.length,IsBest (wys x most fee p) (bw p)):∀(d p:Nat),p+d≤x.length→(bw p).1≤(bw (p+d)).1
 |0,p,_=>Int.le_refl _
 |d+1,p,h=>by
  have h1:=best_mono hx hf bw hb d p (J366 h);refine x1_1 (wys_mono hx hf (n:=p+d) (J364 h) (bw (p+d+1)) (hb _ (J364 h)).1) fun e' he' hle=>?_;have h2:=(hb (p+d) (J366 h)).2 e' he';unfold ltW at h2;rw[not_or]at h2;have:(bw (p+d)).1≤e'.1:=by omega
  show(bw p).1≤(bw (p+d+1)).1;omega
noncomputable def cnt(l:List Wy)(m:Int):Nat:=(l.filter fun e=>e.1==m).length
theorem cnt_append(a b:List Wy)(m:Int):cnt (a++b) m=cnt a m+cnt b m:=by unfold cnt;rw[List.filter_append,List.length_append]
theorem cnt_flat{f:Nat→List Wy}{m:Int}:∀(l:List Nat),cnt (l.flatMap f) m=(l.map fun p=>cnt (f p) m).sum
 |[]=>rfl
 |p::l=>by rw[List.flatMap_cons,cnt_append,cnt_flat l,List.map_cons,List.sum_cons]
theorem cnt_step{x:List Nat}{fee m:Int}{n p:Nat}(l:List Wy):cnt (l.map (stepW x fee n p)) m=cnt l (m-(sentL (sub x p n)).length-fee):=by
 unfold cnt;rw[List.filter_map,List.length_map];congr 1;refine List.filter_congr fun e _=>?_;show(e.1+(sentL (sub x p n)).length+fee==m)=(e.1==m-(sentL (sub x p n)).length-fee);rw[Bool.eq_iff_iff];simp;exact J483
theorem tried_cnt(x:List Nat)(most fee:Int)(s:Nat):(triedE x most fee s).2.2.1=cnt (wys x most fee s) (triedE x most fee s).1:=by
 show(bestR x most fee s).length=_;unfold cnt wys bestR;rw[List.filter_map,List.length_map];rfl
noncomputable def ent(s:Nat)(e:Wy):Qe:=(e.1,s,e.2)
theorem quo_sub{x:List Nat}(hx:Sg x)(a b:Nat):quoL (sub x a b)=sentL (sub x a b):=quo_eq (hx.sub a b)
theorem push_eq{x:List Nat}(hx:Sg x){most fee:Int}{p s:Nat}{e:Wy}{q:List D}:pushI x most fee (ent p e) q s=if okB x most p s then hpush q (qd (ent s (stepW x fee s p e)))else q:=by
 unfold pushI;show(if((quoL (sub x p s)).length:Int)≤most then hpush q (qd (e.1+(quoL (sub x p s)).length+fee,s,e.2++[quoL (sub x p s)]))else q)=_;rw[quo_sub hx];unfold okB;by_cases h:((sentL (sub x p s)).length:Int)≤most
 ·rw[if_pos h,if_pos (by simpa using h)];rfl
 ·rw[if_neg h,if_neg (by simpa using h)]
theorem pushes{x:List Nat}(hx:Sg x){most fee:Int}{p:Nat}{e:Wy}{N:Nat}:∀(l:List Nat) (q:List D),(∀s∈l,EOk N (qd (ent s (stepW x fee s p e))))→(∀d∈q,EOk N d)→Hp q→
 (∀d∈l.foldl (pushI x most fee (ent p e)) q,EOk N d)∧Hp (l.foldl (pushI x most fee (ent p e)) q)∧(l.foldl (pushI x most fee (ent p e)) q).length≤q.length+l.length∧
 ∀d,d∈l.foldl (pushI x most fee (ent p e)) q↔d∈q∨∃s∈l,okB x most p s=true∧d=qd (ent s (stepW x fee s p e))
 |[],q,_,hq,H=>⟨hq,H,by simp,fun d=>by simp⟩
 |s::l,q,hl,hq,H=>by
  rw[List.foldl_cons,push_eq hx];have hs:=hl s (.head _);by_cases hok:okB x most p s=true
  ·rw[if_pos hok];have hmem:∀d,d∈hpush q (qd (ent s (stepW x fee s p e)))↔d=qd (ent s (stepW x fee s p e))∨d∈q:=fun d=>by rw[(hpush_perm _ _).mem_iff,List.mem_cons]
   have hq':∀d∈hpush q (qd (ent s (stepW x fee s p e))),EOk N d:=fun d hd=>by
    rcases(hmem d).mp hd with h|h
    ·rw[h];exact hs
    ·exact hq d h
   obtain⟨a1,a2,a3,a4⟩:=pushes hx l _ (fun s hs=>hl s (.tail _ hs)) hq' (hpush_heap (qOrd N) hq hs H);have hlen:=(hpush_perm q (qd (ent s (stepW x fee s p e)))).length_eq;refine⟨a1,a2,by simp at hlen⊢;exact J501 hlen a3,fun d=>?_⟩;rw[a4,hmem];constructor
   ·rintro ((h|h)|⟨t,ht,h⟩)
    ·exact .inr ⟨s,.head _,hok,h⟩
    ·exact .inl h
    ·exact .inr ⟨t,.tail _ ht,h⟩
   ·rintro (h|⟨t,ht,h1,h2⟩)
    ·exact .inl (.inr h)
    ·rcases List.mem_cons.mp ht with rfl|ht
     ·exact .inl (.inl h2)
     ·exact .inr ⟨t,ht,h1,h2⟩
  ·rw[if_neg hok];obtain⟨a1,a2,a3,a4⟩:=pushes hx l q (fun s hs=>hl s (.tail _ hs)) hq H;refine⟨a1,a2,by simp;exact J377 a3,fun d=>?_⟩;rw[a4];constructor
   ·rintro (h|⟨t,ht,h⟩)
    ·exact .inl h
    ·exact .inr ⟨t,.tail _ ht,h⟩
   ·rintro (h|⟨t,ht,h1,h2⟩)
    ·exact .inl h
    ·rcases List.mem_cons.mp ht with rfl|ht
     ·exact absurd h1 hok
     ·exact .inr ⟨t,ht,h1,h2⟩
theorem wys_len{x:List Nat}{most fee:Int}{s:Nat}{e:Wy}(h:e∈wys x most fee s):e.2.length≤s:=by
 refine x1_1 (List.mem_map.mp h) fun row hr eq2=>?_;subst eq2;have:=(cuts_ok x most s s (Nat.le_refl _) row hr).le;show(blocksR x row).length≤s;unfold blocksR;rw[List.length_map,List.length_range];exact J254 this
theorem best_from{x:List Nat}(hx:Sg x){most fee:Int}(hf:0≤fee){n:Nat}(hn:n+1≤x.length)(bw:Nat→Wy)(hb:∀p≤x.length,IsBest (wys x most fee p) (bw p)):∃p≤n,okB x most p (n+1)=true∧bw (n+1)=stepW x fee (n+1) p (bw p):=by
 have hB:=hb (n+1) hn;have hm:=hB.1;rw[wys_succ hx most fee hn]at hm;refine x1_1 (List.mem_flatMap.mp hm) fun p hp hm=>?_;rw[List.mem_range]at hp
 split at hm
 ·rename_i hok;refine x1_1 (List.mem_map.mp hm) fun e0 he0 he=>?_;refine⟨p,J222 hp,hok,?_⟩;have hbp:=hb p (J385 hn hp);have hin:stepW x fee (n+1) p (bw p)∈wys x most fee (n+1):=by
   rw[wys_succ hx most fee hn];refine List.mem_flatMap.mpr ⟨p,List.mem_range.mpr hp,?_⟩;rw[if_pos hok];exact List.mem_map.mpr ⟨_,hbp.1,rfl⟩
  have h1:=hB.2 _ hin;have h2:¬ltW (bw (n+1)) (stepW x fee (n+1) p (bw p)):=by
   rw[←he];intro hlt;have hn0:=hbp.2 e0 he0;have w0:=wys_price hx most fee p p (Nat.le_refl _) (J385 hn hp) e0 he0;have wb:=wys_price hx most fee p p (Nat.le_refl _) (J385 hn hp) _ hbp.1;unfold ltW stepW at hlt;dsimp only at hlt;unfold ltW at hn0;rw[not_or]at hn0;rcases hlt with hlt|⟨hlt,hbl⟩
   ·omega
   ·have hpe:e0.1=(bw p).1:=J490 hlt;rcases lst_tri e0.2 (bw p).2 with q|q|q
    ·exact hn0.2 ⟨hpe,q⟩
    ·rw[q]at hbl;exact List.lt_irrefl _ hbl
    ·have:=app_lt [sentL (sub x p (n+1))] q fun t ht=>no_prefix hf wb.1 w0.1 w0.2 hpe.symm ht;exact List.lt_asymm this hbl
  exact ltW_tri h2 h1
 ·cases hm
theorem heap_run{x:List Nat}(hx:Sg x){most fee:Int}(hm:2≤most)(hf:0≤fee)(bw:Nat→Wy)(hb:∀p≤x.length,IsBest (wys x most fee p) (bw p)):
 ∀(f k:Nat) (q:List D),1≤k→k≤x.length+1→Hp q→(∀d∈q,EOk x.length d)→(∀d∈q,∃p s,p<k∧p<s∧s≤x.length∧okB x most p s=true∧d=qd (ent s (stepW x fee s p (bw p))))→
  (∀p s,p<k→k≤s→s≤x.length→okB x most p s=true→qd (ent s (stepW x fee s p (bw p)))∈q)→q.length+(x.length+1-k)*x.length<f→q.length+(x.length+1-k)*x.length<800→
  heapGo x most fee f q (List.range k) ((List.range k).map fun p=>ent p (bw p))=some ((List.range (x.length+1)).map fun p=>ent p (bw p)):=by
 intro f
 induction f with
 |zero=>intro k q _ _ _ _ _ _ h;exact(J193 h).elim
 |succ f ih=>
  intro k q hk1 hk2 H hE hsnd hcmp hfu h8;refine(if_neg (J195 h8)).trans ?_;cases hlast:q.getLast? with
  |none=>
   have hq:q=[]:=List.getLast?_eq_none_iff.mp hlast;subst hq;dsimp only;have:k=x.length+1:=by
    apply Classical.byContradiction;intro hne;have:=hcmp (k-1) k (J63 hk1) (Nat.le_refl _) (J331 hne hk2) (by
     have:=ok_next (x:=x) (most:=most) hm (n:=k-1) (J346 hk1 hne hk2);rw[show k-1+1=k by exact J62 hk1]at this;exact this)
    cases this
   rw[this]
  |some last=>
   obtain⟨ds,hle⟩:=List.getLast?_eq_some_iff.mp hlast;subst hle;dsimp only;rw[List.dropLast_concat];have hperm:=hpop_perm ds last;have hE':∀d∈ds,EOk x.length d:=fun d hd=>hE d (List.mem_append_left _ hd);have hEl:EOk x.length last:=hE last (by simp);have hmin:=hpop_min (qOrd x.length) hE H;have Hr:=hpop_heap (qOrd x.length) hE' hEl H;have hlen:=hperm.length_eq;have hmem:∀d,d∈ds++[last]↔d=(hpop ds last).1∨d∈(hpop ds last).2:=fun d=>by rw[←hperm.mem_iff,List.mem_cons]
   have h1m:(hpop ds last).1∈ds++[last]:=(hmem _).mpr (.inl rfl);refine x2_4 (hsnd _ h1m) fun p s hpk hps hsN hok he=>?_;have hEr:∀d∈(hpop ds last).2,EOk x.length d:=fun d hd=>hE d ((hmem d).mpr (.inr hd));rw[List.length_cons]at hlen;rw[he,dec_qd];rw[he]at hmin hmem;generalize (hpop ds last).2=rest at *;show(if s∈List.range k then _ else _)=_;by_cases hsk:s<k
   ·rw[if_pos (List.mem_range.mpr hsk)];refine ih k rest hk1 hk2 Hr hEr (fun d hd=>hsnd d ((hmem d).mpr (.inr hd))) (fun p' s' h1 h2 h3 h4=>?_) (J495 hlen hfu) (J399 hlen h8);rcases(hmem _).mp (hcmp p' s' h1 h2 h3 h4)with h|h
    ·exfalso;have h5:dec (qd (ent s' (stepW x fee s' p' (bw p'))))=dec (qd (ent s (stepW x fee s p (bw p)))):=by rw[h]
     rw[dec_qd,dec_qd]at h5;have:s'=s:=congrArg (fun e:Qe=>e.2.1) h5;exact J447 hsk h2 this
    ·exact h
   ·rw[if_neg (fun h=>hsk (List.mem_range.mp h))];obtain⟨k',rfl⟩:∃k',k=k'+1:=⟨k-1,J64 hk1⟩;have hkN:k'+1≤x.length:=J465 hsN hsk;refine x1_2 (best_from hx hf hkN bw hb) fun p2 hp2 hok2 hbk=>?_;have hin2:=hcmp p2 (k'+1) (J243 hp2) (Nat.le_refl _) hkN hok2;rw[←hbk]at hin2;have hnl:¬ltQ (ent (k'+1) (bw (k'+1))) (ent s (stepW x fee s p (bw p))):=fun h=>by
     have:=hmin _ hin2;unfold Le at this;rw[(qd_lt _ _).mpr h]at this;cases this
    have hinS:stepW x fee s p (bw p)∈wys x most fee s:=by
     obtain⟨s',rfl⟩:∃s',s=s'+1:=⟨s-1,J216 hps⟩;rw[wys_succ hx most fee hsN];refine List.mem_flatMap.mpr ⟨p,List.mem_range.mpr hps,?_⟩;rw[if_pos hok];exact List.mem_map.mpr ⟨_,(hb p (J385 hsN hps)).1,rfl⟩
    have hnw:=(hb s hsN).2 _ hinS;have hmono:=best_mono hx hf bw hb (s-(k'+1)) (k'+1) (J434 hsN hsk);rw[show k'+1+(s-(k'+1))=s by exact J256 hsk]at hmono;generalize stepW x fee s p (bw p)=es at *;have hc:es.1=(bw (k'+1)).1:=by
     have a1:¬(bw (k'+1)).1<es.1:=fun h=>hnl (.inl h);have a2:¬es.1<(bw s).1:=fun h=>hnw (.inl h);exact J468 hmono a1 a2
    have hs:s=k'+1:=by
     have a1:¬k'+1<s:=fun h=>hnl (.inr ⟨hc.symm,.inl h⟩);exact J335 a1 hsk
    subst hs;have hes:es=bw (k'+1):=by
     refine ltW_tri hnw fun h=>?_;rcases h with h|⟨h1,h2⟩
     ·exact J342 h hc
     ·exact hnl (.inr ⟨h1,.inr ⟨rfl,h2⟩⟩)
    rw[hes]at hmem hmin⊢;have hrange:List.range (k'+1)++[k'+1]=List.range (k'+1+1):=by rw[List.range_succ (n:=k'+1)]
    have hset:(List.range (k'+1)).map (fun p=>ent p (bw p))++[ent (k'+1) (bw (k'+1))]=(List.range (k'+1+1)).map fun p=>ent p (bw p):=by
     rw[List.range_succ (n:=k'+1),List.map_append];rfl
    show heapGo x most fee f (pushAll x most fee (ent (k'+1) (bw (k'+1))) rest) (List.range (k'+1)++[k'+1]) ((List.range (k'+1)).map (fun p=>ent p (bw p))++[ent (k'+1) (bw (k'+1))])=_;rw[hrange,hset];have hbl:=wys_len (hb (k'+1) hkN).1;obtain⟨a1,a2,a3,a4⟩:=pushes hx (most:=most) (fee:=fee) (p:=k'+1) (e:=bw (k'+1)) (N:=x.length) ((List.range (x.length-(k'+1))).map (k'+1+1+·)) rest (fun t ht=>by
     refine x1_1 (List.mem_map.mp ht) fun i hi eq2=>?_;subst eq2;rw[List.mem_range]at hi;refine⟨_,rfl,by show k'+1+1+i≤x.length;exact J386 hi,?_⟩;show((bw (k'+1)).2++[_]).length≤k'+1+1+i;simp;exact J375 hbl) hEr Hr
    have hpa:pushAll x most fee (ent (k'+1) (bw (k'+1))) rest=((List.range (x.length-(k'+1))).map (k'+1+1+·)).foldl (pushI x most fee (ent (k'+1) (bw (k'+1)))) rest:=rfl;rw[hpa];have harith:(x.length+1-(k'+1+1))*x.length+x.length=(x.length+1-(k'+1))*x.length:=by
     rw[show x.length+1-(k'+1)=(x.length+1-(k'+1+1))+1 by exact J187 hkN,Nat.add_mul,Nat.one_mul]
    rw[List.length_map,List.length_range]at a3;refine ih (k'+1+1) _ J65 (J493 hkN) a2 a1 (fun d hd=>?_) (fun p' s' h1 h2 h3 h4=>?_) (J598 hlen hfu harith a3) (J593 hlen h8 harith a3)
    ·rcases(a4 d).mp hd with h|⟨t,ht,h1,h2⟩
     ·refine x2_4 (hsnd d ((hmem d).mpr (.inr h))) fun p' s' b1 b2 b3 b4 b5=>?_;exact⟨p',s',J221 b1,b2,b3,b4,b5⟩
     ·refine x1_1 (List.mem_map.mp ht) fun i hi eq2=>?_;subst eq2;rw[List.mem_range]at hi;exact⟨k'+1,k'+1+1+i,J42,J161,J386 hi,h1,h2⟩
    ·by_cases hpk':p'=k'+1
     ·subst hpk';refine(a4 _).mpr (.inr ⟨s',List.mem_map.mpr ⟨s'-(k'+1+1),List.mem_range.mpr (J552 h2 h3),by show k'+1+1+(s'-(k'+1+1))=s';exact J179 h2⟩,h4,rfl⟩)
     ·refine(a4 _).mpr (.inl ?_);rcases(hmem _).mp (hcmp p' s' (J296 h1 hpk') (J180 h2) h3 h4)with h|h
      ·exfalso;have h5:dec (qd (ent s' (stepW x fee s' p' (bw p'))))=dec (qd (ent (k'+1) (bw (k'+1)))):=by rw[h]
       rw[dec_qd,dec_qd]at h5;have:s'=k'+1:=congrArg (fun e:Qe=>e.2.1) h5;exact J273 h2 this
      ·exact h
theorem heap_all{x:List Nat}(hx:Sg x)(hl:x.length≤6){most fee:Int}(hm:2≤most)(hf:0≤fee)(bw:Nat→Wy)(hb:∀p≤x.length,IsBest (wys x most fee p) (bw p)):
 heapGo x most fee 100 [qd (0,0,[])] [] []=some ((List.range (x.length+1)).map fun p=>ent p (bw p)):=by
 have h0:bw 0=(0,[]):=by
  have:=(hb 0 J31).1;rw[wys_zero,List.mem_singleton]at this;exact this
 refine(if_neg (by simp)).trans ?_;show(if(dec (hpop [] (qd (0,0,[]))).1).2.1∈([]:List Nat)then _ else _)=_;rw[if_neg (by simp)];show heapGo x most fee 99 (pushAll x most fee (dec (qd (0,0,[]))) []) ([]++[(dec (qd (0,0,[]))).2.1]) ([]++[dec (qd (0,0,[]))])=_;rw[dec_qd];have hN:∀p≤x.length,(bw p).2.length≤p:=fun p hp=>wys_len (hb p hp).1;obtain⟨a1,a2,a3,a4⟩:=pushes hx (most:=most) (fee:=fee) (p:=0) (e:=bw 0) (N:=x.length) ((List.range (x.length-0)).map (0+1+·)) [] (fun t ht=>by
  refine x1_1 (List.mem_map.mp ht) fun i hi eq2=>?_;subst eq2;rw[List.mem_range]at hi;refine⟨_,rfl,by show 0+1+i≤x.length;exact J314 hi,?_⟩;show((bw 0).2++[_]).length≤0+1+i;have:=hN 0 J31;simp;exact J232 this) (fun d hd=>nomatch hd) (fun i hi=>by simp at hi)
 have e2:((0:Int),(0:Nat),([]:List (List Nat)))=ent 0 (bw 0):=by rw[h0];rfl
 have hpa:pushAll x most fee (0,0,[]) []=((List.range (x.length-0)).map (0+1+·)).foldl (pushI x most fee (ent 0 (bw 0))) []:=by
  rw[e2];rfl
 rw[hpa];show heapGo x most fee 99 _ [0] [(0,0,[])]=_;rw[e2];have h36:(x.length+1-1)*x.length≤36:=Nat.le_trans (Nat.mul_le_mul (J127 hl:x.length+1-1≤6) hl) (by decide);rw[List.length_map,List.length_range,List.length_nil]at a3;refine heap_run hx hm hf bw hb 99 1 _ (Nat.le_refl _) J35 a2 a1 (fun d hd=>?_) (fun p s h1 h2 h3 h4=>?_) (J458 a3 hl h36) (J457 a3 hl h36)
 ·rcases(a4 d).mp hd with h|⟨t,ht,h1,h2⟩
  ·cases h
  ·refine x1_1 (List.mem_map.mp ht) fun i hi eq2=>?_;subst eq2;rw[List.mem_range]at hi;exact⟨0,0+1+i,J4,J23,J314 hi,h1,h2⟩
 ·have:p=0:=J73 h1;subst this;exact(a4 _).mpr (.inr ⟨s,List.mem_map.mpr ⟨s-1,List.mem_range.mpr (J354 h2 h3),by show 0+1+(s-1)=s;exact J61 h2⟩,h4,rfl⟩)
theorem Sg.oc{x:List Nat}(h:Sg x):Oc x:=fun c hc=>by rcases h c hc with rfl|rfl|rfl|rfl<;>decide
theorem Sg.piece{a:List Nat}{c:Nat}(h:c=46∨c=13∨c=10∨c=97):Sg (piece a c):=by
 unfold Mine.piece;intro d hd
 split at hd
 ·split at hd
  ·cases hd
  ·simp only[List.mem_cons,List.not_mem_nil,or_false]at hd;rcases hd with rfl|rfl<;>simp
 ·split at hd
  ·simp only[List.mem_cons,List.not_mem_nil,or_false,or_self]at hd;subst hd;simp
  ·rw[List.mem_singleton]at hd;subst hd;exact h
theorem Sg.sentGo:∀{r a out:List Nat},Sg r→Sg out→Sg (sentGo a out r)
 |[],_,_,_,h=>h
 |c::r,a,out,hr,h=>by
  unfold Mine.sentGo;refine Sg.sentGo (fun d hd=>hr d (.tail _ hd)) fun d hd=>?_;rcases List.mem_append.mp hd with hd|hd
  ·exact h d hd
  ·exact Sg.piece (hr c (.head _)) d hd
theorem Sg.sent{x:List Nat}(h:Sg x):Sg (sentL x):=Sg.sentGo h (fun _ h=>nomatch h)
theorem blocks_sg{x:List Nat}(hx:Sg x)(row:List Nat):∀b∈blocksR x row,Sg b:=by
 intro b hb;refine x1_1 (List.mem_map.mp hb) fun k _ eq2=>?_;subst eq2;exact(hx.sub _ _).sent
noncomputable def predsL(x:List Nat)(most:Int)(q:Nat):List Nat:=(List.range q).filter fun p=>okB x most p q
noncomputable abbrev Op:=Wy×Nat
noncomputable def oD(o:Op):D:=.tup [.int o.1.1,.lst (bL o.1.2),.int o.2]
theorem oD_lt{o o':Op}(h:Ocs o.1.2)(h':Ocs o'.1.2):(oD o).lt (oD o')=true↔ltW o.1 o'.1∨(o.1=o'.1∧o.2<o'.2):=by
 obtain⟨nq56,c⟩:=o;obtain⟨p,bl⟩:=nq56;obtain⟨nq57,c'⟩:=o';obtain⟨p',bl'⟩:=nq57;show(if(D.int p).beq (.int p')then(if(D.lst (bL bl)).beq (.lst (bL bl'))then(if(D.int c).beq (.int c')then false else(D.int c).lt (.int c'))else(D.lst (bL bl)).lt (.lst (bL bl')))else(D.int p).lt (.int p'))=true↔_;have hl:(D.lst (bL bl)).lt (.lst (bL bl'))=decide (bl<bl'):=ltB_iff h h';have hb:(D.lst (bL bl)).beq (.lst (bL bl'))=true↔bl=bl':=by
  rw[D.beq_iff];constructor
  ·intro e;injection e with e
   exact bL_inj h h' e
  ·intro nq58;subst nq58;rfl
 have hp:∀a b:Int,(D.int a).beq (.int b)=decide (a=b):=D.beq_int;have hlt:∀a b:Int,(D.int a).lt (.int b)=decide (a<b):=D.lt_int;rw[hl,hp,hp,hlt,hlt];unfold ltW;dsimp only;by_cases h1:p=p'
 ·subst h1;by_cases h2:bl=bl'
  ·subst h2;rw[hb.mpr rfl];by_cases h3:c=c'
   ·subst h3;simp
   ·have:¬(c:Int)=(c':Int):=J231 h3;simp[this];exact fun h=>absurd h (List.lt_irrefl _)
  ·have:(D.lst (bL bl)).beq (.lst (bL bl'))=false:=by
    rw[Bool.eq_false_iff];exact fun h=>h2 (hb.mp h)
   rw[this];have h3:¬((p,bl)=(p,bl')):=fun e=>h2 (by injection e);simp[h2]
 ·have h3:¬((p,bl)=(p',bl')):=fun e=>h1 (by injection e);simp[h1]
theorem minO_lt(dflt:Op){l:List Op}(hl:∀o∈l,Ocs o.1.2)(hne:l≠[]):∀o∈l,¬ltW o.1 (minO oD dflt l).1:=by
 have key:∀(l:List Op) (a:Op),(∀o∈a::l,Ocs o.1.2)→∀o∈a::l,¬ltW o.1 (l.foldl (betO oD) a).1:=by
  intro l
  induction l with
  |nil=>
   intro a _ o ho;rw[List.mem_singleton]at ho;subst ho;unfold ltW
   rintro (h|⟨_,h⟩)
   ·exact Int.lt_irrefl _ h
   ·exact List.lt_irrefl _ h
  |cons c l ih=>
   intro a ha o ho;rw[List.foldl_cons];have hA:=ha a (.head _);have hC:=ha c (.tail _ (.head _));have irr:∀e:Wy,¬ltW e e:=fun e=>by
    unfold ltW
    rintro (h|⟨_,h⟩)
    ·exact Int.lt_irrefl _ h
    ·exact List.lt_irrefl _ h
   have hbet:¬ltW a.1 (betO oD a c).1∧¬ltW c.1 (betO oD a c).1∧Ocs (betO oD a c).1.2:=by
    unfold betO;by_cases hc:(oD c).lt (oD a)=true
    ·rw[if_pos hc];refine⟨fun h=>?_,irr _,hC⟩;rcases(oD_lt hC hA).mp hc with q|⟨q,_⟩
     ·unfold ltW at q h;rcases q with q|⟨q1,q2⟩<;>rcases h with h|⟨h1,h2⟩
      ·exact J341 q h
      ·exact J342 q h1
      ·exact J342 h q1
      ·exact List.lt_asymm q2 h2
     ·rw[q]at h;exact irr _ h
    ·rw[if_neg hc];refine⟨irr _,fun h=>hc ((oD_lt hC hA).mpr (.inl h)),hA⟩
   have hrec:∀o∈betO oD a c::l,Ocs o.1.2:=fun o ho=>by
    rcases List.mem_cons.mp ho with rfl|ho
    ·exact hbet.2.2
    ·exact ha o (.tail _ (.tail _ ho))
   have tr:∀o:Op,¬ltW o.1 (betO oD a c).1→¬ltW o.1 (l.foldl (betO oD) (betO oD a c)).1:=fun o h=>ltW_tr (ih _ hrec _ (.head _)) h;rcases List.mem_cons.mp ho with rfl|ho
   ·exact tr _ hbet.1
   ·rcases List.mem_cons.mp ho with rfl|ho
    ·exact tr _ hbet.2.1
    ·exact ih _ hrec _ (.tail _ ho)
 cases l with
 |nil=>exact absurd rfl hne
 |cons a l=>exact key l a hl
noncomputable abbrev bw(x:List Nat)(most fee:Int)(p:Nat):Wy:=((triedE x most fee p).1,(triedE x most fee p).2.2.2)
noncomputable def opt(x:List Nat)(most fee:Int)(q p:Nat):Op:=(stepW x fee q p (bw x most fee p),(triedE x most fee p).2.2.1)
theorem bw_best{x:List Nat}{most fee:Int}(hm:2≤most){p:Nat}(hp:p≤x.length):IsBest (wys x most fee p) (bw x most fee p):=tried_best (cuts_ne hm p hp)
theorem bw_sg{x:List Nat}(hx:Sg x){most fee:Int}(hm:2≤most){p:Nat}(hp:p≤x.length):∀b∈(triedE x most fee p).2.2.2,Sg b:=by
 have h:=(bw_best (fee:=fee) hm hp).1;refine x1_1 (List.mem_map.mp h) fun row _ e=>?_;have:(triedE x most fee p).2.2.2=blocksR x row:=by
  have:=congrArg Prod.snd e;exact this.symm
 rw[this];exact blocks_sg hx row
theorem preds_ne{x:List Nat}{most:Int}(hm:2≤most){n:Nat}(hn:n+1≤x.length):n∈predsL x most (n+1):=List.mem_filter.mpr ⟨List.mem_range.mpr J48,ok_next hm hn⟩
theorem sor_min{x:List Nat}(hx:Sg x){most fee:Int}(hm:2≤most)(hf:0≤fee){n:Nat}(hn:n+1≤x.length):
 ∃c:Nat,minD ((predsL x most (n+1)).map fun p=>oD (opt x most fee (n+1) p))=.tup [.int (triedE x most fee (n+1)).1,.lst (bL (triedE x most fee (n+1)).2.2.2),.int c]:=by
 have hne:(predsL x most (n+1)).map (opt x most fee (n+1))≠[]:=by
  intro h;have:=preds_ne hm hn;rw[List.map_eq_nil_iff]at h;rw[h]at this;cases this
 have hoc:∀o∈(predsL x most (n+1)).map (opt x most fee (n+1)),Ocs o.1.2:=by
  intro o ho b hb;refine x1_1 (List.mem_map.mp ho) fun p hp eq2=>?_;subst eq2;have hp':=List.mem_range.mp (List.mem_filter.mp hp).1;rcases List.mem_append.mp hb with hb|hb
  ·exact(bw_sg hx hm (J385 hn hp') b hb).oc
  ·rw[List.mem_singleton]at hb;subst hb;exact(hx.sub _ _).sent.oc
 have e1:(predsL x most (n+1)).map (fun p=>oD (opt x most fee (n+1) p))=((predsL x most (n+1)).map (opt x most fee (n+1))).map oD:=by rw[List.map_map];rfl
 rw[e1,minD_map oD ((0,[]),0) hne];have hmem:=minO_mem oD ((0,[]),0) hne;have hlt:=minO_lt ((0,[]),0) hoc hne;generalize minO oD ((0,[]),0) ((predsL x most (n+1)).map (opt x most fee (n+1)))=o at hmem hlt;have hB:IsBest (wys x most fee (n+1)) o.1:=by
  refine best_step hx hf hn (bw x most fee) (fun p hp=>bw_best hm (J387 hn hp)) ?_ ?_
  ·refine x1_1 (List.mem_map.mp hmem) fun p hp eq2=>?_;subst eq2;have hp':=List.mem_filter.mp hp;exact⟨p,by have:=List.mem_range.mp hp'.1;exact J222 this,hp'.2,rfl⟩
  ·intro p hp hok;exact hlt _ (List.mem_map.mpr ⟨p,List.mem_filter.mpr ⟨List.mem_range.mpr (J243 hp),hok⟩,rfl⟩)
 have:=hB.uniq (bw_best hm hn);refine⟨o.2,?_⟩;show oD o=_;unfold oD;rw[this]
theorem sor_cnt{x:List Nat}(hx:Sg x){most fee:Int}(hm:2≤most)(hf:0≤fee){n:Nat}(hn:n+1≤x.length):
 (((predsL x most (n+1)).filter fun p=>(opt x most fee (n+1) p).1.1==(triedE x most fee (n+1)).1).map fun p=>(((opt x most fee (n+1) p).2:Nat):Int)).sum=(((triedE x most fee (n+1)).2.2.1:Nat):Int):=by
 rw[tried_cnt,wys_succ hx most fee hn,cnt_flat];generalize hmm:(triedE x most fee (n+1)).1=m;have hbest:=bw_best (fee:=fee) hm hn;have step:∀p,p<n+1→cnt (if okB x most p (n+1)=true then(wys x most fee p).map (stepW x fee (n+1) p)else[]) m=if okB x most p (n+1)=true then(if(opt x most fee (n+1) p).1.1==m then(opt x most fee (n+1) p).2 else 0)else 0:=by
  intro p hp
  split
  ·rename_i hok;rw[cnt_step];have hbp:=bw_best (x:=x) (fee:=fee) hm (p:=p) (J385 hn hp);have e2:(opt x most fee (n+1) p).1.1=(triedE x most fee p).1+(sentL (sub x p (n+1))).length+fee:=rfl;have e3:(opt x most fee (n+1) p).2=cnt (wys x most fee p) (triedE x most fee p).1:=tried_cnt x most fee p
   split
   ·rename_i h;rw[beq_iff_eq,e2]at h;rw[e3];congr 1;exact J545 h
   ·rename_i h;rw[beq_iff_eq,e2]at h;unfold cnt;rw[List.length_eq_zero_iff,List.filter_eq_nil_iff];intro e he hem;rw[beq_iff_eq]at hem;have h1:=hbp.2 e he;have hin:stepW x fee (n+1) p e∈wys x most fee (n+1):=by
     rw[wys_succ hx most fee hn];refine List.mem_flatMap.mpr ⟨p,List.mem_range.mpr hp,?_⟩;rw[if_pos hok];exact List.mem_map.mpr ⟨_,he,rfl⟩
    have hin2:stepW x fee (n+1) p (bw x most fee p)∈wys x most fee (n+1):=by
     rw[wys_succ hx most fee hn];refine List.mem_flatMap.mpr ⟨p,List.mem_range.mpr hp,?_⟩;rw[if_pos hok];exact List.mem_map.mpr ⟨_,hbp.1,rfl⟩
    have h2:=hbest.2 _ hin2;unfold ltW at h1 h2;rw[not_or]at h1 h2;have h1:=h1.1;have h2:¬((triedE x most fee p).1+(sentL (sub x p (n+1))).length+fee<(triedE x most fee (n+1)).1):=h2.1;have h1:¬(e.1<(triedE x most fee p).1):=h1;exact J594 h hem hmm h2 h1
  ·rfl
 have e4:(List.range (n+1)).map (fun p=>cnt (if okB x most p (n+1)=true then(wys x most fee p).map (stepW x fee (n+1) p)else[]) m)=(List.range (n+1)).map fun p=>if okB x most p (n+1)=true then(if(opt x most fee (n+1) p).1.1==m then(opt x most fee (n+1) p).2 else 0)else 0:=
  List.map_congr_left fun p hp=>step p (List.mem_range.mp hp)
 rw[e4];unfold predsL;generalize List.range (n+1)=l
 induction l with
 |nil=>rfl
 |cons p l ih=>
  rw[List.map_cons,List.sum_cons];by_cases h1:okB x most p (n+1)=true
  ·rw[List.filter_cons_of_pos (p:=fun p=>okB x most p (n+1)) h1,if_pos h1];by_cases h2:((opt x most fee (n+1) p).1.1==m)=true
   ·rw[List.filter_cons_of_pos (p:=fun p=>(opt x most fee (n+1) p).1.1==m) h2,List.map_cons,List.sum_cons,ih,if_pos h2];push_cast;rfl
   ·rw[List.filter_cons_of_neg (p:=fun p=>(opt x most fee (n+1) p).1.1==m) h2,ih,if_neg h2];simp
  ·rw[List.filter_cons_of_neg (p:=fun p=>okB x most p (n+1)) h1,ih,if_neg h1];simp
end
section
open PySem PySem.W PySem.Calls PyProof.Rows PySem.SeqAt
set_option maxHeartbeats 4000000
section
variable{prog:Program}{w:World}{K:GH}{mg mb:Str→Option Value}{p0 p1 p2 p3:Value}
theorem tried_ok{A:Around}(B:B1 K mg mb p0 p1 p2 p3)(hA:Rm 20 A){s:Shared}{x:List Nat}{tx tm tf:Tok}{most fee:Int}{R:Result→Shared→Prop}(hx:Sg x)(hl:x.length≤6)(h1:1≤x.length)(hfee:0≤fee∧fee≤2)
 (hne:∀p≤x.length,cuts x most p≠[])
 (hK:∀a o,K a=some o→s.heap.get? a=some o)
 (k:∀h t G v,(∀b o,s.heap.get? b=some o→h.get? b=some o)→(∀a o,G a=some o→h.get? a=some o)→Is G v (.lst ((List.range (x.length+1)).map fun p=>tD (triedE x most fee p)))→R (.ok (.ret v)) {s with heap:=h,toks:=t}):
 codeAny (model prog w) A (.call (.ref 241) ⟨[.str (mkS x) tx,.int most tm,.int fee tf],[]⟩) R s:=by
 refine enter (led:=[]) B.toTp B.f_law_tried (tried_fn p3) hA.room rfl (vs:=[("text",some (.str (mkS x) tx)),("most",some (.int most tm)),("fee",some (.int fee tf)),("seams",none),("sends",none),("cuttings",none),("told",none),("stop",none),("place",none),("block",none),("whole",none),("prices",none),("least",none),("rows",none)]) rfl hK (by simp) (by simp) fun env s' hkd hsc S=>?_;rw[but_nil]at S;have hA':=hA.deep env;have gl:Gl env ["_law_seams","range","len","_law_sent","min","zip"]:=Gl.of (sc:=scopeOf (topSt 24)) hkd (by decide+kernel);have kc:∀y,y∈([Str.ofString "text","fee","seams","sends","stop","whole","least"]:List Str)→env.kindOf y=some .cell:=by
  rw[hkd];intro y hy;have:(([Str.ofString "text","fee","seams","sends","stop","whole","least"]:List Str).all fun y=>(scopeOf (topSt 24)).names.lookup y==some .cell)=true:=by decide+kernel
  have:=List.all_eq_true.mp this y hy;exact eq_of_beq this
 refine xc (Assign_Tuple (tupE S (arg (cdef S B.toTp gl B.f_law_seams B.g_law_seams (by walk_at"mem") (arg ?_)))));walk_at"name";refine argE ⟨fun a o e=>S.atK e,seams_ok B (hA'.le (by decide)) hx (J128 hl) h1 (fun a o e=>S.atK e) fun h t sd osm hk hn hg hsm=>?_⟩;have S':=S.new (t:=t) hk hn hg;clear S;generalize ({s' with heap:=_,toks:=_}:Shared)=s₁ at S'⊢;have S:=S';clear S';show wpAny _ _ (spliced _) _ _ _;apply x1_2 S.ice;intro G1 S g1 hsd;refine arg ?_;refine dnew S ?_;intro se s₁ S;refine arg ?_;refine dnew1 S ?_;intro cu s₁ S;walk_at"int";intro t0 s₁ S;refine lstE S (arg (lstE S (arg ?_)));walk_at"int";intro t1 s₁ S;refine argE ⟨_,_,_,S,by simp,fun L0 s₁ S=>?_⟩;refine x1_2 S.ice fun G2 S g2 hL0=>?_;refine argE ⟨_,_,_,S,by simp,fun L1 s₁ S=>?_⟩;refine x1_2 S.ice fun G3 S g3 hL1=>?_;refine⟨_,_,_,_,_,rfl,S,fun oc s₁ hoc S=>?_⟩;refine arg (lstE S (arg (tupE S (arg ?_))));walk_at"int";intro t2 s₁ S;refine arg ?_;walk_at"int";intro t3 s₁ S;refine arg ?_;walk_at"int";intro t4 s₁ S;refine arg (lstE S (argE ⟨_,_,_,S,by simp,fun L2 s₁ S=>?_⟩));refine x1_2 S.ice fun G4 S g4 hL2=>?_;refine argE ⟨_,_,_,S,by simp,fun T0 s₁ S=>?_⟩;refine x1_2 S.ice fun G5 S g5 hT0=>?_;refine argE ⟨_,_,_,S,by simp,fun tl s₁ S=>?_⟩;refine argE ⟨_,_,_,S,by simp,fun T s₁ S=>?_⟩;refine unpack_led S hA'.hd fun s₁ S=>?_;refine put_cons (S.store (by walk_at"pv") (.inl rfl) fun s₁ S=>put_cons (S.store (by walk_at"pv") (.inl rfl) fun s₁ S=>put_cons (S.store (by walk_at"pv") (.inl rfl) fun s₁ S=>put_cons (S.store (by walk_at"pv") (.inl rfl) fun s₁ S=>put_nil ?_))));have S:St K s yes G5 env (trV x tx tm tf most fee sd se cu tl _ _ _ _ _ _ _) _ s₁:=S;have hsd5:G5 sd=some osm:=g5 _ _ (g4 _ _ (g3 _ _ (g2 _ _ hsd)));have hG5:GLe s.heap.get? G5:=g1.trans (g2.trans (g3.trans (g4.trans g5)));have hcut0:CutsIs prog w G5 x most 0 oc:=by
  refine⟨_,hoc,by simp,fun p hp=>⟨.ref L1,?_,?_⟩⟩
  ·have:p=0:=J114 hp;subst this;rfl
  ·have:p=0:=J114 hp;subst this;rw[cuts_zero];exact .lst (g5 _ _ (g4 _ _ hL1)) (.cons (.lst (g5 _ _ (g4 _ _ (g3 _ _ hL0))) (.cons (.int _ _) .nil)) .nil)
 have hsend0:SendsIs prog w x 0 0 emptyDict:=⟨[],empty_is,by simp,fun p q h1 h2=>by exact(J290 h1 h2).elim,fun p hp=>by exact(J72 hp).elim⟩;have htold0:IsAll G5 [.ref T0] ((List.range (0+1)).map fun p=>tD (triedE x most fee p)):=by
  refine .cons (.tup hT0 (.cons ?_ (.cons (.int _ _) (.cons ?_ (.cons ?_ .nil))))) .nil
  ·have:(triedE x most fee 0).1=0:=by
    simp[triedE,leastR,cuts_zero,priceR,minI,mid,sub,sentL,sentGo]
   rw[this];exact .int _ _
  ·have:(triedE x most fee 0).2.2.1=1:=by
    simp[triedE,bestR,leastR,cuts_zero,priceR,minI,mid,sub,sentL,sentGo]
   rw[this];exact .int _ _
  ·have:(triedE x most fee 0).2.2.2=[]:=by
    simp[triedE,bestR,leastR,cuts_zero,priceR,minI,mid,sub,sentL,sentGo,blocksR,minO]
   rw[this];exact .lst (g5 _ _ hL2) .nil
 clear hL0 hL1 hL2 hT0 hsd g1 g2 g3 g4 g5 hoc;refine xc (xfor (ctyp S B.toTp gl B.b_range (by walk_at"mem") (arg ?_)));walk_at"int";intro t1 s₂ S;refine arg (xop (cblt S B.toTp gl B.b_len (by walk_at"mem") (arg ?_)));walk_at"name";refine argE (len_s S (J130 hl) fun t2 s₂ S=>?_);walk_at"int";intro t3 s₂ S;refine b_add S fun t3 s₂ S=>argE ?_;refine range2_it (a:=1) (b:=x.length+1) S rfl (by simp) J6 (J154 hl) fun I s₂ S=>?_;rw[show x.length+1-1=x.length by exact J153]at S;refine forN (n:=x.length) (fun G' _=>Itr.range hA'.hd I 1 1 x.length) (fun i G' vs' led'=>∀P:Prop,(∀tits nt oc os v1 v2 v3 v4 v5 v6 v7,
  led'=[(tl,listOf tits.toArray nt),(cu,oc),(se,os)]→vs'=(trV x tx tm tf most fee sd se cu tl v1 v2 v3 v4 v5 v6 v7)→CutsIs prog w G' x most i oc→SendsIs prog w x i 0 os→IsAll G' tits ((List.range (i+1)).map fun p=>tD (triedE x most fee p))→P)→P) S (by simp)
  (fun _ k=>k _ _ _ _ _ _ _ _ _ _ _ rfl rfl hcut0 hsend0 htold0) ?_ ?_
 ·refine fun i v G' vs' led' oi sa E' N hi hv hG hN hJ S=>hJ _ fun tits nt oc os v1 v2 v3 v4 v5 v6 v7 el ev hcq hsend htold=>?_;clear hJ;subst el ev;obtain⟨tv,rfl⟩:=hv;refine x1_2 hcq fun kvc hoc hkl hcv=>?_;clear hcq;have e1:(1+(i:Int)*1)=((i+1:Nat):Int):=J33;rw[e1];refine wpAny_assign_Name (S.store (by walk_at"pv") (.inl rfl) fun sa S=>?_);have S:St K s yes G' env (trV x tx tm tf most fee sd se cu tl _ _ _ _ _ _ _) _ sa:=S;refine xc (xasg (lstE S (argE ⟨_,_,_,S,by simp,fun cl sa S=>?_⟩)));walk_at"name";walk_at"name";refine dset (o:=oc) S (fun o'=>by walk_at"up") hoc int_is (J477 hi hl hkl) fun oc' sa hoc' S=>?_;have hkl':=stored_length_le kvc ((i+1:Nat):Int) (.ref cl);have hcv':∀p≤i,∃v,valueAt (stored kvc ((i+1:Nat):Int) (.ref cl)) (p:Int)=some v∧Is G' v (.lst ((cuts x most p).map rowD)):=by
   intro p hp;rw[valueAt_stored,if_neg (J250 hp)];exact hcv p hp
  have hcl':valueAt (stored kvc ((i+1:Nat):Int) (.ref cl)) ((i+1:Nat):Int)=some (.ref cl):=by rw[valueAt_stored,if_pos rfl]
  clear hcv hoc;generalize stored kvc ((i+1:Nat):Int) (.ref cl)=kvc' at hoc' hkl' hcv' hcl';have h64:2^(i+1)≤64:=Nat.pow_le_pow_right (by decide) (J313 hi hl:i+1≤6);refine xc (xfor (ctyp S B.toTp gl B.b_range (by walk_at"mem") (arg ?_)));walk_at"name";refine argE (range1_it (b:=i+1) S rfl (J353 hi hl) fun I2 sa S=>?_);refine forN (n:=i+1) (fun G'' _=>Itr.range hA'.hd I2 0 1 (i+1)) (fun j G'' vs' led'=>∀P:Prop,(∀cits nc os v2 v3,
   led'=[(cl,listOf cits.toArray nc),(I,oi),(tl,listOf tits.toArray nt),(cu,oc'),(se,os)]→vs'=(trV x tx tm tf most fee sd se cu tl (some (.int ((i+1:Nat):Int) tv)) v2 v3 v4 v5 v6 v7)→IsAll G'' cits (((List.range j).flatMap (cutI x most (i+1) (cuts x most))).map rowD)→SendsIs prog w x i j os→P)→P) S (by simp) (fun _ k=>k [] _ os _ _ rfl rfl .nil hsend) ?_ ?_
  ·refine fun j v G'' vs' led' o2 sb E'' N2 hj hv hG'' hN2 hJ S=>hJ _ fun cits nc os v2 v3 el ev hcits hsq=>?_;clear hJ;subst el ev;obtain⟨tj,rfl⟩:=hv;refine x1_3 hsq fun ks hos hsl hsv hsj=>?_;clear hsq;have e2:(0+(j:Int)*1)=(j:Int):=J21;rw[e2];refine wpAny_assign_Name (S.store (by walk_at"pv") (.inl rfl) fun sb S=>?_);have S:St K s yes G'' env (trV x tx tm tf most fee sd se cu tl _ _ _ _ _ _ _) _ sb:=S;refine xc (a_name (slcE S ?_));walk_at"name";refine evalPart_some_step ?_;walk_at"name";refine evalPart_some_step ?_;walk_at"name";refine⟨x,_,some ((j:Int),tj),some (((i+1:Nat):Int),tv),j,i+1,rfl,rfl,rfl,rfl,rfl,J223 hj,by exact hi,J129 hl,_,_,_,_,S,fun tb sb S=>?_⟩;refine S.store (by walk_at"pv") (.inl rfl) fun sb S=>?_;have S:St K s yes G'' env (trV x tx tm tf most fee sd se cu tl _ _ _ _ _ _ _) _ sb:=S;have hbl:(sub x j (i+1)).length≤6:=by rw[sub_len (J223 hj) (by exact hi)];exact J538 hi hl
   have hok:okB x most j (i+1)=decide (((sentL (sub x j (i+1))).length:Int)≤most):=rfl;have hcut:cutI x most (i+1) (cuts x most) j=if okB x most j (i+1)then(cuts x most j).map (· ++[i+1])else[]:=rfl
   have hslen:=sentL_len (sub x j (i+1));refine xc (xasg (cdef S B.toTp gl B.f_law_sent B.g_law_sent (by walk_at"mem") (arg ?_)));walk_at"name";refine argE ⟨fun a o e=>S.atK e,sent_ok B (hA'.le (by decide)) (hx.sub _ _) (J128 hbl) (fun a o e=>S.atK e) fun h t tq hk=>?_⟩;have S':=S.keep (t:=t) hk;clear S;generalize ({sb with heap:=_,toks:=_}:Shared)=s₄ at S'⊢;have S:=S';clear S';show wpAny _ _ (eval _ _) _ _ _;walk_at"name";walk_at"name";refine dset (o:=os) S (fun o'=>by walk_at"up") hos str_is (J539 hj hi hl hsl) fun os' sb hos' S=>?_;have hnew:SendsIs prog w x i (j+1) os':=by
    refine⟨_,hos',?_,fun p q h1 h2=>?_,fun p hp=>?_⟩
    ·have:=stored_length_le ks (mkS (sub x j (i+1))) (.str (mkS (sentL (sub x j (i+1)))) tq);exact J498 hsl this
    ·rw[valueAt_stored]
     split
     ·rename_i e;rw[mkS_inj e];exact⟨_,rfl⟩
     ·exact hsv p q h1 h2
    ·rw[valueAt_stored]
     split
     ·rename_i e;rw[mkS_inj e];exact⟨_,rfl⟩
     ·rename_i e;refine hsj p (by
       have:p≠j:=fun z=>e (by rw[z]);exact J295 hp this)
   have hnow:valueAt (stored ks (mkS (sub x j (i+1))) (.str (mkS (sentL (sub x j (i+1)))) tq)) (mkS (sub x j (i+1)))=some (.str (mkS (sentL (sub x j (i+1)))) tq):=by rw[valueAt_stored,if_pos rfl]
   refine xc (xif (xcmp (cblt S B.toTp gl B.b_len (by walk_at"mem") (arg (Subscript_ ?_)))));walk_at"name";walk_at"name";refine dget S (S.get (by walk_at"mem")) hos' str_is hnow fun sb S=>?_;refine argE (len_s S (J317 hslen hbl) fun t4 sb S=>?_);walk_at"name";refine P.le_int (wpAny_truthy_bool ?_);have hflat:(List.range (j+1)).flatMap (cutI x most (i+1) (cuts x most))=(List.range j).flatMap (cutI x most (i+1) (cuts x most))++cutI x most (i+1) (cuts x most) j:=by
    rw[List.range_succ,List.flatMap_append];simp
   by_cases hm:((sentL (sub x j (i+1))).length:Int)≤most
   ·refine if_t (by simpa using hm) ?_;rw[hok,decide_eq_true hm,if_pos rfl]at hcut;refine x1_1 (hcv' j (J222 hj)) fun vc hvc hvcI=>?_;have hclen:=cuts_len x most j j (Nat.le_refl _);have h64':2^j≤64:=Nat.pow_le_pow_right (by decide) (J475 hj hi hl:j≤6);have hrows:=cuts_ok x most j j (Nat.le_refl _);have hfl:=flat_len x most (i+1) j;rw[hcut]at hflat;generalize cuts x most j=cs at hvcI hclen hrows hflat;have hvcI:=hvcI.mono hG'';refine hvcI.lstI fun lc citems mc evc hlc hcall=>?_;subst evc;have hcil:=hcall.length;simp only[List.length_map]at hcil;refine xc (x_any S (meth F.plainAttrs_list F.slot_list_extend F.type_list_extend (Subscript_ ?_)));walk_at"name";walk_at"name";refine dget S (S.get (by walk_at"mem")) hoc' int_is hcl' fun sb S=>?_;refine⟨cl,_,rfl,S.get (by walk_at"mem"),rfl,rfl,callWith_method1 (arg ?_)⟩;have hfr:∀p∈[((Str.ofString "stop" :Str),Value.int ((i+1:Nat):Int) tv)],(p.1,some p.2)∈(trV x tx tm tf most fee sd se cu tl (some (.int ((i+1:Nat):Int) tv)) (some (.int (j:Int) tj)) (some (.str (mkS (sub x j (i+1))) tb)) v4 v5 v6 v7)∧env.kindOf p.1=some .cell:=fr_cons ⟨by walk_at"mem",kc _ (by walk_at"mem")⟩ fr_nil;refine lcomp (fr:=[("stop",.int ((i+1:Nat):Int) tv)]) (los:=["row"]) (owns:=[]) S (CompSc.of (show compScB _ ["row"] [] ["stop"]=true by decide+kernel)) hfr ?_;refine Subscript_ ?_;walk_at"name";walk_at"name";refine dget S (S.get (by walk_at"mem")) hoc' int_is hvc fun sb S=>?_;refine lst_it S (S.at hlc) fun I3 sb S=>?_;refine comp_lst (cs:=cs) (g:=rowD) (los:=["row"]) (owns:=[]) (fr:=[("stop",.int ((i+1:Nat):Int) tv)]) (fun row=>some (rowD (row++[i+1]))) (CompSc.of (show compScB _ ["row"] [] ["stop"]=true by decide+kernel)) hfr hA'.hd S hlc hcall (J464 h64' hclen) (fm_map _ _) ?_ ?_
    ·intro row v G3 cenv lv ledc sc E3 Y _ hrow hv hG3 hled CE hlv hY _;clear S;have hrow:=hrows row hrow;have hrl:=hrow.le;refine hv.lstE fun lr rits mr hlr hrall=>?_;have hril:=hrall.length;rw[List.length_map]at hril;refine lenE1 hlv fun v0=>?_;intro(S:St K s (owf []) G3 cenv [("row",v0),("stop",some (.int ((i+1:Nat):Int) tv))] ledc sc);refine S.store (vs':=[("row",some (.ref lr)),("stop",some (.int ((i+1:Nat):Int) tv))]) .here (CE.st _ (.head _)) fun sc S=>tuq_nil rfl (xop ?_);walk_at"name";refine lstE S (arg ?_);walk_at"name";refine argE ⟨_,_,_,S,by simp,fun L1 sc S=>?_⟩;refine add_lst S (S.at hlr) (S.get (.head _)) (by simp;exact J574 hj hi hl hril hrl) fun L2 sc S=>?_;refine x1_2 S.ice fun G4 S g4 hL2=>?_;refine hY _ _ _ G4 [some (.ref lr)] g4 rfl S.drop (.lst hL2 ?_);rw[List.map_append];exact(hrall.mono g4).append (.cons (.int _ _) .nil)
    ·intro G4 ys n' M C oC sc hG4 hys S hm;refine fin_none S hm fun sc S=>argE ?_;have hys:IsAll G4 ys ((cs.map (· ++[i+1])).map rowD):=by rw[List.map_map];exact hys
     have hyl:=hys.length;have hcl:=hcits.length;simp only[List.length_map]at hyl hcl;have hfl64:2^j≤64:=h64';refine ext_lst (items:=cits) (n:=nc) S (fun n'=>by walk_at"up") (S.get (.head _)) (J588 hfl h64' hcl hyl hclen) fun n' sc S=>?_;have S:=S.drop;refine xn (xn (hN2 G4 _ _ _ hG4 S fun _ k=>k _ _ _ _ _ rfl rfl ?_ hnew));rw[hflat,List.map_append];exact(hcits.mono hG4).append hys
   ·refine if_f (by simpa using hm) ?_;rw[hok,decide_eq_false hm,if_neg Bool.false_ne_true]at hcut;rw[hcut,List.append_nil]at hflat;refine xn (xn (hN2 G'' _ _ _ (GLe.refl _) S fun _ k=>k _ _ _ _ _ rfl rfl ?_ hnew));rw[hflat];exact hcits
  ·refine fun G'' vs' led' sb E'' hG'' hJ S=>hJ _ fun cits nc os v2 v3 el ev hcits hsq=>?_;clear hJ;subst el ev;refine x1_3 hsq fun ks hos hsl hsv hsj=>?_;clear hsq;refine xn ?_;refine x1_2 S.ice fun G3 S g3 hcl3=>?_;have hcut3:CutsIs prog w G3 x most (i+1) oc':=by
    refine⟨kvc',hoc',J435 hkl' hkl,fun p hp=>?_⟩;by_cases hpi:p=i+1
    ·subst hpi;refine⟨_,hcl',.lst hcl3 ?_⟩;rw[cuts_succ];exact hcits.mono g3
    ·refine x1_1 (hcv' p (J331 hpi hp)) fun v h1 h2=>?_;exact⟨v,h1,h2.mono (hG''.trans g3)⟩
   have hsend3:SendsIs prog w x (i+1) 0 os:=by
    refine⟨ks,hos,J476 hi hl hsl,fun p q h1 h2=>?_,fun p hp=>by exact(J72 hp).elim⟩;by_cases hq:q=i+1
    ·subst hq;exact hsj p h1
    ·exact hsv p q h1 (J331 hq h2)
   refine tried_tail (x:=x) (tx:=tx) (tm:=tm) (tf:=tf) (tv:=tv) (most:=most) (fee:=fee) (i:=i) B hA' hkd hsc hl hi hfee (hne _ (by exact hi)) S (g3 _ _ (hG'' _ _ (hG _ _ hsd5))) hsm hcut3 hsend3 (htold.mono (hG''.trans g3)) fun G4 tits' nt' v4 v5 v6 v7 s' hG4 htold' S=>?_;exact hN G4 _ _ _ (hG''.trans (g3.trans hG4)) S fun _ k=>k tits' nt' oc' os _ _ _ _ _ _ _ rfl rfl (by
    refine x1_2 hcut3 fun kv a1 a2 a3=>?_;clear hcut3;exact⟨kv,a1,a2,fun p hp=>(a3 p hp).elim fun v b=>⟨v,b.1,b.2.mono hG4⟩⟩) hsend3 htold'
 ·refine fun G' vs' led' sa E' hG hJ S=>hJ _ fun tits nt oc os v1 v2 v3 v4 v5 v6 v7 el ev hcut hsend htold=>?_;clear hJ;subst el ev;refine xn ?_;refine xc (xret ?_);walk_at"name";refine x1_2 S.ice fun G6 S g6 h6=>?_;refine x2_0 S.same fun h₀ t₀ eq2=>?_;subst eq2;exact k h₀ t₀ G6 _ (fun b o e=>S.sub b o (g6 b o (hG b o (hG5 b o e)))) S.sub (.lst h6 (htold.mono g6))
end
noncomputable def setA(led:List (Addr×Obj))(x:Addr)(o:Obj):List (Addr×Obj):=led.map fun p=>if p.1=x then(x,o)else p
theorem setA_names(led:List (Addr×Obj))(x:Addr)(o:Obj):(setA led x o).map (·.1)=led.map (·.1):=by
 unfold setA;rw[List.map_map];refine List.map_congr_left fun p _=>?_;show(if p.1=x then(x,o)else p).1=p.1
 split
 ·rename_i h;exact h.symm
 ·rfl
theorem setA_id{x:Addr}{o:Obj}:∀{led:List (Addr×Obj)},x∉led.map (·.1)→setA led x o=led
 |[],_=>rfl
 |p::r,h=>by
  rw[List.map_cons,List.mem_cons,not_or]at h;show(if p.1=x then(x,o)else p)::setA r x o=_;rw[if_neg (Ne.symm h.1),setA_id h.2]
theorem Up.setA{x:Addr}{o o':Obj}:∀{led:List (Addr×Obj)},(x,o)∈led→(led.map (·.1)).Nodup→Up x o o' led (Mine.setA led x o')
 |p::r,h,hn=>by
  rw[List.map_cons,List.nodup_cons]at hn;show Up x o o' (p::r) ((if p.1=x then(x,o')else p)::Mine.setA r x o');rcases List.mem_cons.mp h with e|h
  ·subst e;rw[if_pos rfl,setA_id hn.1];exact .here
  ·rw[if_neg (fun e=>hn.1 (by rw[e];exact List.mem_map_of_mem (f:=(·.1)) h))];exact .there (Up.setA h hn.2)
theorem setA_mem{led:List (Addr×Obj)}{x:Addr}{o:Obj}(h:x∈led.map (·.1)):(x,o)∈setA led x o:=by
 refine x1_1 (List.mem_map.mp h) fun p hp eq2=>?_;subst eq2;exact List.mem_map.mpr ⟨p,hp,if_pos rfl⟩
theorem setA_other{led:List (Addr×Obj)}{x:Addr}{o:Obj}{p:Addr×Obj}(h:p∈led)(hn:p.1≠x):p∈setA led x o:=List.mem_map.mpr ⟨p,h,if_neg hn⟩
theorem setA_inv{led:List (Addr×Obj)}{x:Addr}{o:Obj}{p:Addr×Obj}(h:p∈setA led x o):p=(x,o)∨(p∈led∧p.1≠x):=by
 refine x1_1 (List.mem_map.mp h) fun q hq e=>?_
 split at e
 ·exact .inl e.symm
 ·rename_i hn;subst e;exact .inr ⟨hq,hn⟩
theorem led_inj{led:List (Addr×Obj)}(hn:(led.map (·.1)).Nodup){a:Addr}{o o':Obj}(h:(a,o)∈led)(h':(a,o')∈led):o=o':=by
 induction led with
 |nil=>cases h
 |cons p r ih=>
  rw[List.map_cons,List.nodup_cons]at hn;rcases List.mem_cons.mp h with e|h1
  ·rcases List.mem_cons.mp h' with e'|h2
   ·rw[←e]at e';cases e';rfl
   ·subst e;exact absurd (List.mem_map_of_mem (f:=(·.1)) h2) hn.1
  ·rcases List.mem_cons.mp h' with e'|h2
   ·subst e';exact absurd (List.mem_map_of_mem (f:=(·.1)) h1) hn.1
   ·exact ih hn.2 h1 h2
section
variable{prog:Program}{w:World}{A:Around}{E:Value→Shared→Prop}{R:Result→Shared→Prop}{K:GH}{mg mb:Str→Option Value}{p0 p1 p2 p3:Value}{r:Shared}{own:Str→Bool}{G:GH}{env:Env}{vs vs':Vs}{led led':List (Addr×Obj)}{s:Shared}{Q:Value→Shared→Prop}
theorem St.upA(S:St K r own G env vs led s){h':Heap}{t:Nat}{a:Addr}{o o':Obj}(hm:(a,o)∈led)(hs:Heap.SameBut a s.heap h')(ha:h'.get? a=some o'):St K r own G env vs (setA led a o') {s with heap:=h',toks:=t}:=
 S.up (Up.setA hm S.nd) hs ha
theorem St.back{rest:List (Addr×Obj)}{G2:GH}{own2:Str→Bool}{env2:Env}{vs2:Vs}{led2:List (Addr×Obj)}{s1 s2:Shared}(S:St K r own G env vs (led++rest) s)(hk1:∀b o,s.heap.get? b=some o→s1.heap.get? b=some o)(hs1:∃h t,s1={s with heap:=h,toks:=t})
 (g:GLe (but led s1.heap) G2) (S2:St K s1 own2 G2 env2 vs2 led2 s2):∃G3,GLe G G3∧(∀a o,G2 a=some o→s.heap.get? a=none→G3 a=some o)∧St K r own G3 env vs (led2++rest) s2:=by
 have ndl:=S.nd;rw[List.map_append,List.nodup_append]at ndl
 let bad:Addr→Prop:=fun a=>a=env.locals∨(∃x,own x=true∧(x,a)∈env.cells)∨a∈rest.map (·.1)
 let G3:GH:=fun a=>open Classical in if bad a then none else G2 a
 have G3p:∀a o,G2 a=some o→¬bad a→G3 a=some o:=fun a o e h=>by
  show(open Classical in if bad a then none else G2 a)=_;rw[if_neg h];exact e
 have G3s:∀a o,G3 a=some o→G2 a=some o:=fun a o e=>by
  have e':(open Classical in if bad a then none else G2 a)=some o:=e
  split at e'
  ·cases e'
  ·exact e'
 have G3n:∀a,bad a→G3 a=none:=fun a h=>by
  show(open Classical in if bad a then none else G2 a)=_;rw[if_pos h]
 have G3n2:∀a,G2 a=none→G3 a=none:=fun a e=>by
  cases q:G3 a with
  |none=>rfl
  |some o=>rw[G3s a o q]at e;cases e
 have inG2:∀a o,s.heap.get? a=some o→a∉led.map (·.1)→G2 a=some o:=fun a o e hn=>g a o (but_at (hk1 a o e) hn);have badS:∀a,bad a→∃o,s.heap.get? a=some o:=by
  rintro a (rfl|⟨x,_,hx⟩|hm)
  ·exact S.there
  ·exact S.cthere hx
  ·refine x1_1 (List.mem_map.mp hm) fun p hp eq2=>?_;subst eq2;exact⟨_,(S.ld p (List.mem_append_right _ hp)).1⟩
 have badL:∀a,bad a→a∉led.map (·.1):=by
  rintro a (rfl|⟨x,_,hx⟩|hm) h
  ·refine x1_1 (List.mem_map.mp h) fun p hp e=>?_;exact(S.ld p (List.mem_append_left _ hp)).2.2.1 e
  ·refine x1_1 (List.mem_map.mp h) fun p hp e=>?_;exact(S.ld p (List.mem_append_left _ hp)).2.2.2 x a hx e
  ·exact ndl.2.2 a h a hm rfl
 have hle:GLe G G3:=by
  intro a o e;refine G3p a o (inG2 a o (S.sub a o e) fun h=>?_) fun h=>?_
  ·refine x1_1 (List.mem_map.mp h) fun p hp eq2=>?_;subst eq2;rw[(S.ld p (List.mem_append_left _ hp)).2.1]at e;cases e
  ·rcases h with rfl|⟨x,h1,h2⟩|hm
   ·rw[S.gl]at e;cases e
   ·rcases S.gc x a h2 with⟨_,h⟩|⟨h,_⟩
    ·rw[h]at e;cases e
    ·rw[h1]at h;cases h
   ·refine x1_1 (List.mem_map.mp hm) fun p hp eq2=>?_;subst eq2;rw[(S.ld p (List.mem_append_right _ hp)).2.1]at e;cases e
 have keep:∀a,(∃o,s.heap.get? a=some o)→a∉led.map (·.1)→s2.heap.get? a=s.heap.get? a:=by
  intro a nq71;obtain⟨o,e⟩:=nq71;intro hn;rw[S2.sub a o (inG2 a o e hn),e]
 have new2:∀p∈led2,p.1∈led.map (·.1)∨s.heap.get? p.1=none:=by
  intro p hp;cases q:s.heap.get? p.1 with
  |none=>exact .inr rfl
  |some o=>
   refine .inl (Classical.byContradiction fun hn=>?_);have:=(S2.ld p hp).2.1;rw[inG2 _ o q hn]at this;cases this
 have led2ok:∀p∈led2,¬bad p.1:=by
  intro p hp hb;rcases new2 p hp with h|h
  ·exact badL _ hb h
  ·obtain⟨o,ho⟩:=badS _ hb;rw[h]at ho;cases ho
 refine x2_0 S.same fun h0 t0 hs0=>?_;refine⟨G3,hle,fun a o e hn=>G3p a o e fun hb=>?_,⟨?_,S.base.trans hle,fun a o e=>S2.sub a o (G3s a o e),S.eo,⟨?_,fun x c hc=>?_⟩,G3n _ (.inl rfl),fun x c hc=>?_,fun p hp=>?_,?_⟩⟩
 ·obtain⟨o',ho'⟩:=badS a hb;rw[hn]at ho';cases ho'
 ·refine x2_0 hs1 fun h1 t1 e1=>?_;clear hs1;refine x2_0 S2.same fun h2 t2 e2=>?_;exact⟨h2,t2,by rw[e2,e1,hs0]⟩
 ·obtain⟨ml,nq72,h2⟩:=S.fm.loc;obtain⟨ob,es,ep,h1,q⟩:=nq72;exact⟨ml,⟨ob,es,ep,(keep _ ⟨_,h1⟩ fun h=>by
   refine x1_1 (List.mem_map.mp h) fun p hp e=>?_;exact(S.ld p (List.mem_append_left _ hp)).2.2.1 e).trans h1,q⟩,h2⟩
 ·refine x1_1 (S.fm.cel x c hc) fun ob h1 q=>?_;exact⟨ob,(keep _ ⟨_,h1⟩ fun h=>by
   refine x1_1 (List.mem_map.mp h) fun p hp e=>?_;exact(S.ld p (List.mem_append_left _ hp)).2.2.2 x c (mem_of_lookup hc) e).trans h1,q⟩
 ·rcases S.gc x c hc with⟨h1,_⟩|⟨h1,o,ho⟩
  ·exact .inl ⟨h1,G3n _ (.inr (.inl ⟨x,h1,hc⟩))⟩
  ·exact .inr ⟨h1,o,hle c o ho⟩
 ·rcases List.mem_append.mp hp with hp|hp
  ·have P:=S2.ld p hp;refine⟨P.1,G3n2 _ P.2.1,fun e=>?_,fun x c hc e=>?_⟩
   ·exact led2ok p hp (.inl e)
   ·rcases new2 p hp with h|h
    ·refine x1_1 (List.mem_map.mp h) fun q hq eq=>?_;exact(S.ld q (List.mem_append_left _ hq)).2.2.2 x c hc (eq.trans e)
    ·obtain⟨o,ho⟩:=S.cthere hc;rw[←e,h]at ho;cases ho
  ·have P:=S.ld p (List.mem_append_right _ hp);have hm:p.1∈rest.map (·.1):=List.mem_map_of_mem (f:=(·.1)) hp;exact⟨(keep _ ⟨_,P.1⟩ (badL _ (.inr (.inr hm)))).trans P.1,G3n _ (.inr (.inr hm)),P.2.2⟩
 ·rw[List.map_append,List.nodup_append];refine⟨S2.nd,ndl.2.1,fun a ha b hb e=>?_⟩;refine x1_1 (List.mem_map.mp ha) fun p hp eq2=>?_;subst eq2;exact led2ok p hp (.inr (.inr (e▸hb)))
end
structure FnOg(fd:FuncData)(params rest:List Str)(body:List Stmt):Prop where
 body:fd.body=.stmts body
 clo:fd.closure=[]
 gl:fd.globals=mainGlobals
 bi:fd.builtins=builtinsNs
 fn:fd.scope.kind=.function
 co:fd.scope.isCoroutine=false
 gen:fd.scope.isGenerator=false
 ndS:(fd.scope.names.map (·.1)).Nodup
 names:∀x∈params++rest,(x==("__debug__" :Str))=false∧(fd.scope.names.lookup x=some .local∨fd.scope.names.lookup x=some .cell)
 nd:(params++rest).Nodup
section
variable{prog:Program}{w:World}{K:GH}{mg mb:Str→Option Value}
theorem enterG{A:Around}{f:Addr}{fd:FuncData}{params rest:List Str}{body:List Stmt}{vals:List Value}{args:Args}{led:List (Addr×Obj)}{s s1:Shared}{R:Result→Shared→Prop}
 (T:Tp K mg mb) (F:Fn K f fd) (O:FnOg fd params rest body) (hroom:A.depth<recursionLimit) (hv:vals.length=params.length) {vs:Vs} (hvs:varsOf params rest vals=vs)
 (hk1:∀b o,s.heap.get? b=some o→s1.heap.get? b=some o)
 (hb:∀(Q:List (Str×Value)→Shared→Prop) (E:Value→Shared→Prop),Q (params.zip vals) s1→wpAny (model prog w) A.in1 (bindArgs fd args) Q E s)
 (hK:∀a o,K a=some o→s.heap.get? a=some o) (hl:∀p∈led,s1.heap.get? p.1=some p.2∧K p.1=none) (nd:(led.map (·.1)).Nodup)
 (k:∀env s',env.kindOf=(fun x=>fd.scope.names.lookup x)→env.scope=fd.scope→St K s1 yes (but led s1.heap) env vs led s'→wpAny (model prog w) (A.deeper env) (execs body env) (fun fl s''=>R (.ok (.ret (match fl with| .ret v=>v|_=>.none))) s'') (fun _ _=>False) s'):
 codeAny (model prog w) A (.call (.ref f) args) R s:=by
 subst hvs;have hK1:∀a o,K a=some o→s1.heap.get? a=some o:=fun a o e=>hk1 a o (hK a o e);have hlim:s1.heap.NoLimit:=by
  refine x1_1 T.lim fun mc h1 h2=>?_;exact⟨mc,h1.ns hK1,h2⟩
 have hcd:s.heap.CodeRec fd.code fd.qualname:=by
  refine x4_3 F.code fun c o vs t h1 h2 h3 h4=>?_;exact⟨c,o,vs,t,h1,hK _ _ h2,h3,h4⟩
 have hzip:(params.zip vals).map (·.1)=params:=by rw[List.map_fst_zip];exact J228 hv
 have hnd:(params.zip vals).map (·.1)|>.Nodup:=by rw[hzip];exact(List.nodup_append.mp O.nd).1
 have hmem:∀x∈params.zip vals,x.1∈params:=fun x hx=>by rw[←hzip];exact List.mem_map_of_mem (f:=(·.1)) hx
 refine codeAny_call_function hroom (hK _ _ F.at_) rfl O.co O.gen O.body hcd (hb _ _ ?_);rw[O.clo];refine wpAny_newFunctionEnv_cells O.fn (fun x hx=>?_) fun env he s₁ X=>⟨hlim.keeps X.toInCall.keep,codeAny_func ?_⟩
 ·rcases(O.names x.1 (List.mem_append_left _ (hmem x hx))).2 with h|h
  ·exact .inl h
  ·refine .inr ⟨h,?_⟩;obtain⟨c,hc⟩:=cellsFrom_has fd.scope.names (s1.heap.objs.size+1) [] (.inl (mem_of_lookup h));rw[lookup_of_mem (cellsFrom_nodup _ _ [] O.ndS List.nodup_nil (fun _ _ h=>nomatch h)) hc];rfl
 ·have e1:env.kindOf=fun x=>fd.scope.names.lookup x:=by rw[he];rfl
  have e2:env.cells=cellsFrom (s1.heap.objs.size+1) fd.scope.names []:=by rw[he];rfl
  have e3:env.locals=s1.heap.objs.size:=by rw[he];rfl
  have e4:env.scope=fd.scope:=by rw[he];rfl
  have e5:env.globals=mainGlobals:=by rw[he];exact O.gl
  have e6:env.builtins=builtinsNs:=by rw[he];exact O.bi
  clear he;have cn:(env.cells.map (·.1)).Nodup:=by rw[e2];exact cellsFrom_nodup _ _ [] O.ndS List.nodup_nil (fun _ _ h=>nomatch h)
  have ck:∀x c,(x,c)∈env.cells→fd.scope.names.lookup x=some .cell:=fun x c h=>by
   rw[e2]at h;rcases cellsFrom_mem _ _ _ h with h|h
   ·exact lookup_of_mem O.ndS h
   ·cases h
  have vnames:(varsOf params rest vals).map (·.1)=params++rest:=by
   unfold varsOf;rw[List.map_append,List.map_map,List.map_map];have h1:List.map ((fun x:Str×Option Value=>x.1)∘ fun p:Str×Value=>(p.1,some p.2)) (params.zip vals)=params:=hzip;have h2:List.map ((fun x:Str×Option Value=>x.1)∘ fun x:Str=>(x,(none:Option Value))) rest=rest:=by
    conv=>rhs;rw[←List.map_id rest]
    rfl
   rw[h1,h2]
  have eo:EnvOk env (varsOf params rest vals):=by
   refine⟨by rw[e4];exact O.fn,e5,e6,X.apart,cn,fun x c h=>?_,fun x c h=>Nat.ne_of_gt (X.above x c h),?_,by rw[vnames];exact O.nd⟩
   ·rw[e1];show fd.scope.names.lookup x≠_;rw[ck x c h];simp
   ·rw[vnames];intro x hx;refine⟨(O.names x hx).1,?_⟩;rw[e1];rcases(O.names x hx).2 with h|h
    ·exact .inl h
    ·refine .inr ⟨h,?_⟩;obtain⟨c,hc⟩:=cellsFrom_has fd.scope.names (s1.heap.objs.size+1) [] (.inl (mem_of_lookup h));exact⟨c,lookup_of_mem cn (by rw[e2];exact hc)⟩
  have lkv:∀x,lk (varsOf params rest vals) x=if x∈(params.zip vals).map (·.1)then lk ((params.zip vals).map fun p=>(p.1,some p.2)) x else none:=by
   intro x;unfold varsOf;rw[lk_append];have:((params.zip vals).map fun p=>(p.1,some p.2)).map (·.1)=(params.zip vals).map (·.1):=by rw[List.map_map];rfl
   rw[this]
   split
   ·rfl
   ·exact lk_nones
  refine wpAny_mono (k env s₁ e1 e4 ⟨X.toInCall.same,fun a o h=>but_at (hK1 a o h) fun hm=>?_,fun a o h=>X.toInCall.keep a o (but_sub h).1,eo,⟨⟨_,X.toInCall.ns,fun x hx=>?_⟩,fun x c hc=>?_⟩,?_,fun x c h=>.inl ⟨rfl,?_⟩,fun p hp=>⟨X.toInCall.keep _ _ (hl p hp).1,?_,?_,fun x c h=>?_⟩,nd⟩) (fun _ _ h=>h) fun _ _ h=>h.elim
  ·refine x1_1 (List.mem_map.mp hm) fun p hp e=>?_;have:=(hl p hp).2;have e':p.1=a:=e;rw[e',h]at this;cases this
  ·rw[bindL_eq _ _ _ hnd x hx,lkv]
  ·have:=X.cell x c hc;rw[bindC_eq _ _ _ hnd x (eo.cl x c (mem_of_lookup hc))]at this;rw[lkv];exact this
  ·rw[e3];unfold but
   split
   ·rfl
   ·exact get_size_none _
  ·unfold but
   split
   ·rfl
   ·cases q:s1.heap.get? c with
    |none=>rfl
    |some o=>
     have h1:=Heap.lt_size q;have h2:=X.above x c h;rw[e3]at h2;exact absurd (Nat.lt_trans h1 h2) (Nat.lt_irrefl _)
  ·unfold but;rw[if_pos (List.mem_map_of_mem (f:=(·.1)) hp)]
  ·rw[e3];exact Nat.ne_of_lt (Heap.lt_size (hl p hp).1)
  ·have h1:=Heap.lt_size (hl p hp).1;have h2:=X.above x c h;rw[e3]at h2;exact Nat.ne_of_lt (Nat.lt_trans h1 h2)
end
section
open Builtin Builtin.ObjectAttr Builtin.Getset_descriptor
structure ClsOk(Fg:Frag)(C init:Addr):Prop where
 mks:makesIn Fg C=true
 fi:findIn Fg (.ref C) "__init__" =some (some (.ref init))
 ft:typeIn Fg (.ref init)=some (.type "function")
 ga:findIn Fg (.ref C) "__getattribute__" =some (some (.builtin "object.__getattribute__"))
 gk:findIn Fg (.ref C) "__getattr__" =some none
 sa:findIn Fg (.ref C) "__setattr__" =some (some (.builtin "object.__setattr__"))
 po:plainOver Fg C=true
 isc:(clsIn Fg C).isSome=true
 kp:keepIn Fg (.ref C)=true
structure SlotOk(Fg:Frag)(C:Addr)(name:Str)(p:Addr)(i:Nat):Prop where
 fi:findIn Fg (.ref C) name=some (some (.ref p))
 sg:specialIn Fg (.ref p) "__get__" =some (some (.builtin "member_descriptor.__get__"))
 tk:takesIn Fg (.ref p)=some true
 sl:slotIn Fg p C=some i
 ta:takerIn Fg C name=some (some (.ref p))
 ty:typeIn Fg (.ref p)=some (.type "member_descriptor")
structure AttOk(Fg:Frag)(C:Addr)(name:Str):Prop where
 hd:hasDictIn Fg C=true
 fi:findIn Fg (.ref C) name=some none
 ta:takerIn Fg C name=some none
structure MethOk(Fg:Frag)(C:Addr)(name:Str)(f:Addr):Prop where
 fi:findIn Fg (.ref C) name=some (some (.ref f))
 ft:typeIn Fg (.ref f)=some (.type "function")
 kp:keepIn Fg (.ref f)=true
 fn:fnIn Fg f=true
 sg:specialIn Fg (.ref f) "__get__" =some (some (.builtin "function.__get__"))
 tk:takesIn Fg (.ref f)=some false
abbrev FgIn(Fg:Frag)(K:GH):Prop:=∀a o,Fg.lookup a=some o→K a=some o
section
variable{prog:Program}{w:World}{A:Around}{E:Value→Shared→Prop}{R:Result→Shared→Prop}{K:GH}{mg mb:Str→Option Value}{p0 p1 p2 p3:Value}{r:Shared}{own:Str→Bool}{G:GH}{env:Env}{vs vs':Vs}{led led':List (Addr×Obj)}{s:Shared}{Q:Value→Shared→Prop}{Fg:Frag}{C init x dx p:Addr}{name:Str}{v:Value}{i:Nat}{ox:Obj}
theorem St.fg(S:St K r own G env vs led s)(X:FgIn Fg K):Fg.In s.heap:=fun a o e=>S.atK (X a o e)
theorem g_slot{od:Obj}{expr:Bool}(X:FgIn Fg K)(c:ClsOk Fg C init)(l:SlotOk Fg C name p i)(S:St K r own G env vs led s)(I:InstAt s.heap x ox C (some od))(hv:(ox.slots[i]?).join=some v)(hh:handedIn v=true)(h:∀s',St K r own G env vs led s'→Q v s'):
 wpAny (model prog w) A (getAttr (.ref x) name expr) Q E s:=
 get_bind (S.fg X) I c.ga (findObj_data c.isc l.fi l.sg l.tk) c.gk (wpAny_call (slot_get (s:={s with toks:=s.toks+1}) (S.fg X) I l.sl hv (handed_on hh (h _ (S.tok _)))))
noncomputable def putS(i:Nat)(v:Value)(o:Obj):Obj:={o with slots:=(o.slots++Array.replicate (i+1-o.slots.size) none).setIfInBounds i (some v)}
theorem slot_setW{od:Option Obj}(X:Fg.In s.heap)(I:InstAt s.heap x ox C od)(hp:slotIn Fg p C=some i)(hi:i<1000)(h:R (.ok (.ret .none)) {s with heap:=s.heap.update x (putS i v)}):
 codeAny (model prog w) A (.call (.builtin "member_descriptor.__set__") ⟨[.ref p,.ref x,v],[]⟩) R s:=by
 refine x8_4 (slot_of X hp) fun n tn owner behind tb d sl cd ho hc hm hb eq12=>?_;subst eq12;obtain⟨hh,g,dr,t,os⟩:=s;have L0:=I.type (M:=model prog w);have L1:=looks_mroIn (M:=model prog w) X hm;have L2:Looks (model prog w) hh (Slots.slotNamesOf (.ref C)) cd.slotNames:=(looks_clsIn X hc).andThen .now;have hx:=I.at_
 dsimp only at ho hx L0 L1;have f0:=looks_field (M:=model prog w) ho 0 (v:=.str n tn) rfl;have f1:=looks_field (M:=model prog w) ho 1 (v:=owner) rfl;have f3:=looks_field (M:=model prog w) ho 3 (v:=.builtin "proto.slot#set") rfl;have f4:=looks_field (M:=model prog w) ho 4 (v:=.int behind tb) rfl;refine codeAny_call_builtin KF.slot_mset.plain KF.entry_mset (KF.slot_mset.check _ _ _ _ _ _ _ _ ⟨_,ho,rfl⟩ (KF.args_mset _ _ _) ?_);unfold Builtin.«member_descriptor.__set__» descrSet descrStoreThrough descrCheckInstance descrNameAndClass isInstance;have f5:Looks (model prog w) hh (descrItself (.ref p)) [.ref p]:=((Looks.ld (part:=none) ho).andThen .now).andThen (Looks.of_pure (by kernel_rfl))
 repeat lk
 refine⟨Code.quiet_builtin _ (by decide+kernel),codeAny_builtin KF.entry_slotset ?_⟩;unfold Builtin.«proto.slot#set» Slots.target
 repeat lk
 rw[if_neg hb];refine wpAny_pure (wpAny_bind ?_);unfold setSlotAt;dsimp only;rw[if_neg (by rw[sizeLine_eq];exact J261 hi)];exact wpAny_updatePart hx (wpAny_pure h)
theorem s_slot{od:Obj}{Q:Unit→Shared→Prop}(X:FgIn Fg K)(c:ClsOk Fg C init)(l:SlotOk Fg C name p i)(hi:i<1000)(S:St K r own G env vs led s)(I:InstAt s.heap x ox C (some od))(hm:(x,ox)∈led)(hf:(putS i v ox).isFreed=false)
 (h:∀s',St K r own G env vs (setA led x (putS i v ox)) s'→Q () s'):wpAny (model prog w) A (setAttr (.ref x) name v) Q E s:=by
 refine set_plain (S.fg X) I c.sa (osa_descr (s:={s with toks:=s.toks+1}) KF.slot_mset (S.fg X) I c.po l.ta l.ty (slot_setW (s:={s with toks:=s.toks+1}) (S.fg X) I l.sl hi ?_));exact h _ (S.upA (t:=s.toks+1) hm (Heap.SameBut.update ..) (by rw[Heap.get?_update_self _ (S.get hm) hf]))
theorem g_att{es:List DictEntry}{n:Nat}{expr:Bool}(X:FgIn Fg K)(c:ClsOk Fg C init)(l:AttOk Fg C name)(S:St K r own G env vs led s)(I:InstAt s.heap x ox C (some (dictOf es n)))(hv:getL name es=some (some v))(hh:handedIn v=true)(h:∀s',St K r own G env vs led s'→Q v s'):
 wpAny (model prog w) A (getAttr (.ref x) name expr) Q E s:=
 get_value (S.fg X) I c.ga (findObj_own l.hd l.fi rfl hv) hh (h _ (S.tok _))
theorem osa_dictW{es:List DictEntry}{n:Nat}{tk:Tok}(X:Fg.In s.heap)(I:InstAt s.heap x ox C (some (dictOf es n)))(hd:ox.dict=some dx)(c:ClsOk Fg C init)(l:AttOk Fg C name)(hz:es.length≤100)(hl:(getL name es).isSome=true)
 (h:R (.ok (.ret .none)) {s with heap:=s.heap.update dx (Obj.putName name (PyData.keyHash w.params name) (.str name s.toks) v),toks:=s.toks+1}):
 codeAny (model prog w) A (.call (.builtin "object.__setattr__") ⟨[.ref x,.str name tk,v],[]⟩) R s:=by
 refine osa_open X I c.po l.ta fun b=>?_;refine x1_1 (any_some l.hd) fun cd hc hd'=>?_;obtain⟨hx,hcl,hn,hdict⟩:=I;rw[hd]at hdict;have D:s.heap.get? dx=some (dictOf es n):=hdict;obtain⟨oc,odi,oda,osl⟩:=ox;dsimp only at hcl hd;subst hcl hd;refine wpAny_bind (wpAny_pure (wpAny_bind (wpAny_bind (wpAny_loadPart hx (wpAny_bind ((looks_clsIn X hc).here ?_))))));rw[hd'];refine wpAny_pure (a:=some dx) (wpAny_bind (wpAny_pure (wpAny_bind ?_)));unfold nsSet;refine wpAny_bind (wpAny_bind (wpAny_askSetting (wpAny_pure (wpAny_bind (wpAny_mkText (wpAny_bind (wpAny_loadPart D ?_)))))));have cc:(!es.toArray.any (·.key.isStr name)&&es.toArray.any (·.refKey))=false:=by
  rw[←Array.any_toList,←Array.any_toList];unfold getL at hl
  split at hl
  ·rename_i en he;rw[List.any_eq_true.mpr ⟨en,List.mem_of_find?_eq_some he,List.find?_some he⟩];rfl
  ·split at hl
   ·cases hl
   ·rename_i z;rw[Bool.not_eq_true]at z;rw[z,Bool.and_false]
 dsimp only;rw[aRefKeyMayBeTheName_at,cc];refine wpAny_updatePart D ?_;have hf:(Obj.putName name (PyData.keyHash w.params name) (.str name s.toks) v (dictOf es n)).isFreed=false:=by rw[putName_dict];rfl
 have D':(s.heap.update dx (Obj.putName name (PyData.keyHash w.params name) (.str name s.toks) v)).get? dx=some (Obj.putName name (PyData.keyHash w.params name) (.str name s.toks) v (dictOf es n)):=Heap.get?_update_self _ D hf;refine wpAny_bind (wpAny_lookBehind D' ?_ (wpAny_pure h));rw[putName_dict];refine pastItsLine_dict ?_;rw[List.size_toArray,sizeLine_eq];have:∀l:List DictEntry,(putL name (PyData.keyHash w.params name) (.str name s.toks) v l).length≤l.length+1:=by
  intro l
  induction l with
  |nil=>simp[putL]
  |cons e r ih=>unfold putL;split<;>simp<;>exact ih
 have:=this es;exact J308 hz this
theorem s_att{es:List DictEntry}{n:Nat}{Q:Unit→Shared→Prop}(X:FgIn Fg K)(c:ClsOk Fg C init)(l:AttOk Fg C name)(S:St K r own G env vs led s)(I:InstAt s.heap x ox C (some (dictOf es n)))(hd:ox.dict=some dx)(hm:(dx,dictOf es n)∈led)(hz:es.length≤100)(hl:(getL name es).isSome=true)
 (h:∀t s',St K r own G env vs (setA led dx (dictOf (putL name (PyData.keyHash w.params name) (.str name t) v es) (putN name es n))) s'→Q () s'):wpAny (model prog w) A (setAttr (.ref x) name v) Q E s:=by
 refine set_plain (S.fg X) I c.sa (osa_dictW (s:={s with toks:=s.toks+1}) (S.fg X) I hd c l hz hl ?_);refine h (s.toks+1) _ (S.upA (t:=s.toks+1+1) hm (Heap.SameBut.update ..) ?_);rw[Heap.get?_update_self _ (S.get hm) (by rw[putName_dict];rfl),putName_dict]
inductive McK(prog:Program)(w:World)(A:Around)(K:GH)(env:Env)(E:Value→Shared→Prop)(pos:Pos)(args:List Expr)(f C:Addr)(name:Str)(Q:Value→Shared→Prop)(ov:Value)(s₁:Shared):Prop
 |mk (x:Addr) (ox:Obj) (es:List DictEntry) (n:Nat) (e:ov=.ref x) (hS:∃r own G vs led,St K r own G env vs led s₁) (I:InstAt s₁.heap x ox C (some (dictOf es n))) (hl:getL name es=some none)
  (h:wpAny (model prog w) A (callWith pos (.ref f) [.ref x] (backTo pos (starEach args env)) []) Q E s₁)
def mq(M:Model)(A:Around)(Fg:Frag)(f:Addr)(first:List Value)(Q:Value→Shared→Prop)(E:Value→Shared→Prop):List Value→Shared→Prop:=fun vals s=>Fg.In s.heap∧codeAny M A (.call (.ref f) ⟨first++vals,[]⟩) (crq Q E) s
theorem mcall{f:Addr}{o:Expr}{apos pos:Pos}{args:List Expr}{pl:Sem Bool}(X:FgIn Fg K)(c:ClsOk Fg C init)(l:MethOk Fg C name f)
 (h:wpAny (model prog w) A (eval o env) (McK prog w A K env E pos args f C name Q) E s)
 (he:eval (.Call (.Attribute o name apos) args [] pos) env=(do
  let ov←eval o env
  standAt apos.atName
  let(f,first)←holding [ov] (getMethod ov name pl)
  callWith pos f first (backTo pos (starEach args env)) (backToKw pos (keywordEach [] env))):=by rfl):
 wpAny (model prog w) A (eval (.Call (.Attribute o name apos) args [] pos) env) Q E s:=
 methodCall_KW (wpAny_mono h (fun ov s₁ h=>by
  obtain⟨x,ox,es,n,rfl,nq89,I,hl,h⟩:=h;obtain⟨r,own,G,vs,led,S⟩:=nq89;exact method_fn (S.fg X) I c.ga c.gk l.fi l.ft (by show(lookIn name (dictOf es n)).map _=_;rw[lookIn_dict,hl];rfl) h) fun _ _ x=>x) he
theorem margs{f:Addr}{first:List Value}{e:Expr}{rest:List Expr}{pos:Pos}(hk:keepIn Fg (.ref f)=true){h₀:Heap}(X₀:Fg.In h₀)
 (h:wpAny (model prog w) A (spliced (backTo pos (starEach (e::rest) env))) (mq (model prog w) A Fg f first Q E) E s)
 (he:starEach (e::rest) env=(false,eval e env)::starEach rest env:=by rfl) (hplain:(backTo pos (starEach rest env)).any (·.1)=false:=by rfl):
 wpAny (model prog w) A (callWith pos (.ref f) first (backTo pos (starEach (e::rest) env)) []) Q E s:=
 callWith_K X₀ hk (wpAny_mono h (fun _ _ h=>⟨h.1,wpAny_call h.2⟩) fun _ _ x=>x) he hplain
theorem margs0{f:Addr}{first:List Value}{pos:Pos}(hk:keepIn Fg (.ref f)=true)(X₀:Fg.In s.heap)
 (h:codeAny (model prog w) A (.call (.ref f) ⟨first,[]⟩) (crq Q E) s):
 wpAny (model prog w) A (callWith pos (.ref f) first (backTo pos (starEach [] env)) []) Q E s:=
 callWith_K0 X₀ hk (wpAny_call (by rw[List.append_nil];exact h))
theorem make{vals:List Value}(X:FgIn Fg K)(c:ClsOk Fg C init)(hK:∀a o,K a=some o→s.heap.get? a=some o)
 (h:∀x dx h',(∀b o,s.heap.get? b=some o→h'.get? b=some o)→s.heap.get? x=none→s.heap.get? dx=none→x≠dx→h'.get? x=some (instObj C dx)→h'.get? dx=some emptyDict→
  codeAny (model prog w) (A.under (.builtin "type.__call__" ⟨.ref C::vals,[]⟩)) (.call (.ref init) ⟨.ref x::vals,[]⟩) (InitBack x R) {s with heap:=h'}):
 codeAny (model prog w) A (.call (.ref C) ⟨vals,[]⟩) R s:=by
 obtain⟨hh,g,d,t,os⟩:=s;have Xh:Fg.In hh:=fun a o e=>hK a o (X a o e);refine make_core (makes_of Xh c.mks) (looks_findIn Xh c.fi) (fun self=>bind_fn Xh self c.ft) (.inl rfl) ?_;have e1:(hh.push W.emptyDict).objs.size=hh.objs.size+1:=Heap.size_push ..;refine h (hh.objs.size+1) hh.objs.size _ (fun b o e=>Heap.get?_push_of_some _ (Heap.get?_push_of_some _ e)) ?_ (get_size_none _) (Nat.succ_ne_self _) ?_ (Heap.get?_push_of_some _ (Heap.get?_push_size _ rfl))
 ·cases q:hh.get? (hh.objs.size+1)with
  |none=>rfl
  |some o=>exact absurd (Heap.lt_size q) (Nat.not_lt.mpr (Nat.le_succ _))
 ·rw[←e1];exact Heap.get?_push_size _ rfl
end
end
theorem Rm.under{n:Nat}{A:Around}(h:Rm (n+1) A)(C:Addr)(vals:List Value):Rm n (A.under (.builtin "type.__call__" ⟨.ref C::vals,[]⟩)):=by
 refine⟨h.hd,?_,?_⟩
 ·have:=h.dp;show A.depth+1+n<1000;exact J175 this
 ·have:=h.un;show A.units+(Code.builtin "type.__call__" ⟨.ref C::vals,[]⟩).cUnits+20*n<9900;have:(Code.builtin "type.__call__" ⟨.ref C::vals,[]⟩).cUnits≤20:=by
   have hf:(Code.builtin "type.__call__" ⟨.ref C::vals,[]⟩).frames=0:=rfl;show 1+3*(Code.builtin "type.__call__" ⟨.ref C::vals,[]⟩).frames≤20;rw[hf];decide
  exact J394 (by assumption) this
structure B3(Fg:Frag)(K:GH)(mg mb:Str→Option Value)(p0 p1 p2 p3:Value)(dV:Addr):Prop extends B1 K mg mb p0 p1 p2 p3 where
 fgin:FgIn Fg K
 cN:ClsOk Fg 93 89
 cS:ClsOk Fg 190 126
 sNode:SlotOk Fg 93 "node" 94 0
 sNp:SlotOk Fg 93 "npredecessors" 95 1
 sSu:SlotOk Fg 93 "successors" 96 2
 aN2i:AttOk Fg 190 "_node2info"
 aRdy:AttOk Fg 190 "_ready_nodes"
 aPas:AttOk Fg 190 "_npassedout"
 aFin:AttOk Fg 190 "_nfinished"
 mGni:MethOk Fg 190 "_get_nodeinfo" 133
 mAdd:MethOk Fg 190 "add" 140
 mPrep:MethOk Fg 190 "prepare" 145
 mRdy:MethOk Fg 190 "get_ready" 152
 mAct:MethOk Fg 190 "is_active" 159
 mDone:MethOk Fg 190 "done" 173
 mCyc:MethOk Fg 190 "_find_cycle" 180
 fNi:Fn K 89 (fdOf (inCls (topSt 13) 1) "_NodeInfo.__init__" .none 88 p1)
 fInit:Fn K 126 (fdOf (inCls (topSt 15) 0) "TopologicalSorter.__init__" (.ref dV) 125 p1)
 dInit:∃n,K dV=some (tupOf #[.none] n)
 fGni:Fn K 133 (fdOf (inCls (topSt 15) 1) "TopologicalSorter._get_nodeinfo" .none 132 p1)
 fAdd:Fn K 140 (fdOf (inCls (topSt 15) 2) "TopologicalSorter.add" .none 139 p1)
 fPrep:Fn K 145 (fdOf (inCls (topSt 15) 3) "TopologicalSorter.prepare" .none 144 p1)
 fRdy:Fn K 152 (fdOf (inCls (topSt 15) 4) "TopologicalSorter.get_ready" .none 151 p1)
 fAct:Fn K 159 (fdOf (inCls (topSt 15) 5) "TopologicalSorter.is_active" .none 158 p1)
 fDone:Fn K 173 (fdOf (inCls (topSt 15) 7) "TopologicalSorter.done" .none 172 p1)
 fCyc:Fn K 180 (fdOf (inCls (topSt 15) 8) "TopologicalSorter._find_cycle" .none 179 p1)
 gNi:mg "_NodeInfo" =some (.ref 93)
 gTs:mg "TopologicalSorter" =some (.ref 190)
 gOut:∃t,mg "_NODE_OUT" =some (.int (-1) t)
 gDn:∃t,mg "_NODE_DONE" =some (.int (-2) t)
 bStop:mg "StopIteration" =none∧mb "StopIteration" =some (.type "StopIteration")
noncomputable abbrev ndO(d:Addr)(a b c:Value):Obj:={cls:=.ref 93,dict:=some d,data:=.plain,slots:= #[some a,some b,some c]}
theorem ninit_fn(pm:Value):FnOk (fdOf (inCls (topSt 13) 1) "_NodeInfo.__init__" .none 88 pm) ["self","node"] [] (bodyOf (inCls (topSt 13) 1)) where
 body:=rfl
 clo:=rfl
 gl:=rfl
 bi:=rfl
 fn:=rfl
 co:=rfl
 gen:=rfl
 bind:=by
  intro vals h;refine x2_0 (len2 h) fun a b eq2=>?_;subst eq2;rfl
 ndS:=show((scopeOf (inCls (topSt 13) 1)).names.map (·.1)).Nodup by decide+kernel
 names:=names_ok (sc:=scopeOf (inCls (topSt 13) 1)) (by decide+kernel)
 nd:=by decide+kernel
section
variable{prog:Program}{w:World}{K:GH}{mg mb:Str→Option Value}{p0 p1 p2 p3:Value}{Fg:Frag}{dV:Addr}
theorem inst_of{h:Heap}{x d:Addr}{sl:Array (Option Value)}{od:Obj}(hx:h.get? x=some {cls:=.ref 93,dict:=some d,data:=.plain,slots:=sl})(hd:h.get? d=some od):InstAt h x {cls:=.ref 93,dict:=some d,data:=.plain,slots:=sl} 93 (some od):=⟨hx,rfl,rfl,hd⟩
theorem newinfo_ok{A:Around}(B:B3 Fg K mg mb p0 p1 p2 p3 dV)(hA:Rm 6 A){s:Shared}{v:Value}{R:Result→Shared→Prop}(hK:∀a o,K a=some o→s.heap.get? a=some o)
 (k:∀h t x d L t0,(∀b o,s.heap.get? b=some o→h.get? b=some o)→s.heap.get? x=none→s.heap.get? d=none→s.heap.get? L=none→x≠L→x≠d→L≠d→h.get? x=some (ndO d v (.int 0 t0) (.ref L))→h.get? d=some emptyDict→h.get? L=some (listOf #[] 0)→R (.ok (.ret (.ref x))) {s with heap:=h,toks:=t}):
 codeAny (model prog w) A (.call (.ref 93) ⟨[v],[]⟩) R s:=by
 refine make B.fgin B.cN hK fun x d h' hk hx hd hxd gx gd=>?_;have hA1:=hA.under 93 [v];have hK1:∀a o,K a=some o→h'.get? a=some o:=fun a o e=>hk a o (hK a o e);have hKx:K x=none:=by
  cases q:K x with
  |none=>rfl
  |some o=>have:=hK x o q;rw[hx]at this;cases this
 refine enter (s:={s with heap:=h'}) (led:=[(x,instObj 93 d)]) B.toTp B.fNi (ninit_fn p1) hA1.room rfl (vs:=[("self",some (.ref x)),("node",some v)]) rfl hK1 ?_ (by simp) fun env s' hkd hsc S=>?_
 ·intro p hp;rw[List.mem_singleton]at hp;subst hp;exact⟨gx,hKx⟩
 have gD:but [(x,instObj 93 d)] h' d=some emptyDict:=but_at gd (by simpa using Ne.symm hxd);refine xc (plainObj_wpAny_Assign_Attribute ?_);walk_at"name";walk_at"name";refine s_slot B.fgin B.cN B.sNode (by decide) S (inst_of (S.get (.head _)) (S.at gD)) (.head _) rfl fun s₁ S=>?_;have e1:setA [(x,instObj 93 d)] x (putS 0 v (instObj 93 d))=[(x,{cls:=.ref 93,dict:=some d,data:=.plain,slots:= #[some v]})]:=by
  unfold setA putS;simp
 rw[e1]at S;refine xc (plainObj_wpAny_Assign_Attribute ?_);walk_at"int";intro t0 s₁ S;walk_at"name";refine s_slot B.fgin B.cN B.sNp (by decide) S (inst_of (S.get (.head _)) (S.at gD)) (.head _) rfl fun s₁ S=>?_;have e2:setA [(x,({cls:=.ref 93,dict:=some d,data:=.plain,slots:= #[some v]}:Obj))] x (putS 1 (.int 0 t0) {cls:=.ref 93,dict:=some d,data:=.plain,slots:= #[some v]})=[(x,{cls:=.ref 93,dict:=some d,data:=.plain,slots:= #[some v,some (.int 0 t0)]})]:=by
  unfold setA putS;simp
 rw[e2]at S;refine xc (plainObj_wpAny_Assign_Attribute (lstE S (argE ⟨_,_,_,S,by simp,fun L s₁ S=>?_⟩)));walk_at"name";have hLx:L≠x:=by
  have:=S.nd;rw[List.map_cons,List.nodup_cons]at this;intro e;exact this.1 (by rw[e];exact .head _)
 refine s_slot B.fgin B.cN B.sSu (by decide) S (inst_of (S.get (.tail _ (.head _))) (S.at gD)) (.tail _ (.head _)) rfl fun s₁ S=>?_;have e3:setA [(L,listOf ([]:List Value).toArray 0),(x,({cls:=.ref 93,dict:=some d,data:=.plain,slots:= #[some v,some (.int 0 t0)]}:Obj))] x (putS 2 (.ref L) {cls:=.ref 93,dict:=some d,data:=.plain,slots:= #[some v,some (.int 0 t0)]})=[(L,listOf #[] 0),(x,ndO d v (.int 0 t0) (.ref L))]:=by
  unfold setA putS;simp[hLx]
 rw[e3]at S;have hL:h'.get? L=none:=by
  cases q:h'.get? L with
  |none=>rfl
  |some o=>
   have:=(S.ld _ (.head _)).2.1;rw[but_at q (by simpa using hLx)]at this;cases this
 have gL:=S.get (.head _);have gX:=S.get (.tail _ (.head _));have gd2:=S.at gD;have hkk:∀b o,s.heap.get? b=some o→s₁.heap.get? b=some o:=fun b o e=>S.at (but_at (hk b o e) (by
  simp only[List.map_cons,List.map_nil,List.mem_singleton];intro z;rw[z,hx]at e;cases e))
 refine x2_0 S.same fun h₀ t₀ eq2=>?_;subst eq2;refine xn ⟨rfl,k h₀ t₀ x d L t0 hkk hx hd ?_ (Ne.symm hLx) hxd ?_ gX gd2 gL⟩
 ·cases q:s.heap.get? L with
  |none=>rfl
  |some o=>rw[hk L o q]at hL;cases hL
 ·intro e;rw[e,gd]at hL;cases hL
end
structure Nd where
 k:Nat
 x:Addr
 d:Addr
 L:Addr
 np:Int
 su:List Nat
noncomputable abbrev Cn:=List (Nat×Int×List Nat)
noncomputable def cont(ns:List Nd):Cn:=ns.map fun n=>(n.k,n.np,n.su)
noncomputable abbrev sEs(w:World)(t1 t2 t3 t4:Tok)(v1 v2 v3 v4:Value):List DictEntry:=
 [⟨PyData.keyHash w.params "_node2info",.str "_node2info" t1,v1⟩,⟨PyData.keyHash w.params "_ready_nodes",.str "_ready_nodes" t2,v2⟩,⟨PyData.keyHash w.params "_npassedout",.str "_npassedout" t3,v3⟩,⟨PyData.keyHash w.params "_nfinished",.str "_nfinished" t4,v4⟩]
noncomputable def n2iK(ns:List Nd):List (Int×Value):=ns.map fun n=>((n.k:Int),Value.ref n.x)
structure Gr(prog:Program)(w:World)(xS dS nD:Addr)(rdy:Value)(np nf:Int)(ns:List Nd)(led:List (Addr×Obj)):Prop where
 inst:(xS,instObj 190 dS)∈led
 sd:∃t1 t2 t3 t4 tp tf n,(dS,dictOf (sEs w t1 t2 t3 t4 (.ref nD) rdy (.int np tp) (.int nf tf)) n)∈led
 n2i:∃o,(nD,o)∈led∧o.IsDictOf (intKind prog w) (n2iK ns)
 nd:∀n∈ns,(n.d,(emptyDict:Obj))∈led∧(∃t1 t2,(n.x,ndO n.d (.int n.k t1) (.int n.np t2) (.ref n.L))∈led)∧∃its m,(n.L,listOf its.toArray m)∈led∧IntsAre its (n.su.map fun m:Nat=>(m:Int))
 keys:(ns.map (·.k)).Nodup
 lists:(ns.map (·.L)).Nodup
 few:ns.length≤200
 shrt:∀n∈ns,n.su.length≤100
 ne:dS≠nD
section
variable{prog:Program}{w:World}{xS dS nD:Addr}{rdy:Value}{np nf:Int}{ns:List Nd}{led led':List (Addr×Obj)}
theorem Gr.more(g:Gr prog w xS dS nD rdy np nf ns led)(h:∀p∈led,p∈led'):Gr prog w xS dS nD rdy np nf ns led':=by
 obtain⟨g1,nq98,nq99,g4,g5,g6,g7,g8,g9⟩:=g;obtain⟨t1,t2,t3,t4,tp,tf,n,hs⟩:=nq98;obtain⟨o,ho,hd⟩:=nq99;refine⟨h _ g1,⟨t1,t2,t3,t4,tp,tf,n,h _ hs⟩,⟨o,h _ ho,hd⟩,fun n hn=>?_,g5,g6,g7,g8,g9⟩;obtain⟨a,nq100,its,m,c,e⟩:=g4 n hn;obtain⟨u1,u2,b⟩:=nq100;exact⟨h _ a,⟨u1,u2,h _ b⟩,its,m,h _ c,e⟩
theorem valueAt_n2i{k:Nat}:∀{ns:List Nd},(ns.map (·.k)).Nodup→∀n∈ns,n.k=k→valueAt (n2iK ns) (k:Int)=some (.ref n.x)
 |a::r,hn,n,hm,hk=>by
  rw[List.map_cons,List.nodup_cons]at hn;unfold valueAt n2iK;rw[List.map_cons,List.find?_cons];rcases List.mem_cons.mp hm with rfl|hm
  ·simp[hk]
  ·have:a.k≠k:=fun e=>hn.1 (by rw[e,←hk];exact List.mem_map_of_mem (f:=(·.k)) hm);have h2:¬((a.k:Int)=(k:Int)):=J231 this;simp only[h2,decide_false];exact valueAt_n2i hn.2 n hm hk
theorem valueAt_n2i_none{k:Nat}:∀{ns:List Nd},k∉ns.map (·.k)→valueAt (n2iK ns) (k:Int)=none
 |[],_=>rfl
 |a::r,hn=>by
  rw[List.map_cons,List.mem_cons,not_or]at hn;unfold valueAt n2iK;rw[List.map_cons,List.find?_cons];have h2:¬((a.k:Int)=(k:Int)):=by have:=hn.1;exact J259 this
  simp only[h2,decide_false];exact valueAt_n2i_none hn.2
theorem stored_n2i{k:Nat}{v:Value}{ns:List Nd}(hn:k∉ns.map (·.k)):stored (n2iK ns) (k:Int) v=n2iK ns++[((k:Int),v)]:=by
 unfold stored;rw[if_neg];intro h;refine x1_1 (List.any_eq_true.mp h) fun p hp e=>?_;refine x1_1 (List.mem_map.mp hp) fun n hn' eq2=>?_;subst eq2;have:(n.k:Int)=(k:Int):=by simpa using e
 exact hn (List.mem_map.mpr ⟨n,hn',J171 this⟩)
theorem uniq{ns:List Nd}(hk:(ns.map (·.k)).Nodup){n n':Nd}(h:n∈ns)(h':n'∈ns)(e:n.k=n'.k):n=n':=by
 induction ns with
 |nil=>cases h
 |cons a r ih=>
  rw[List.map_cons,List.nodup_cons]at hk;rcases List.mem_cons.mp h with e1|h1
  ·rcases List.mem_cons.mp h' with e2|h2
   ·rw[e1,e2]
   ·subst e1;exact absurd (by rw[e];exact List.mem_map_of_mem (f:=(·.k)) h2) hk.1
  ·rcases List.mem_cons.mp h' with e2|h2
   ·subst e2;exact absurd (by rw[←e];exact List.mem_map_of_mem (f:=(·.k)) h1) hk.1
   ·exact ih hk.2 h1 h2
theorem uniqL{ns:List Nd}(hk:(ns.map (·.L)).Nodup){n n':Nd}(h:n∈ns)(h':n'∈ns)(e:n.L=n'.L):n=n':=by
 induction ns with
 |nil=>cases h
 |cons a r ih=>
  rw[List.map_cons,List.nodup_cons]at hk;rcases List.mem_cons.mp h with e1|h1
  ·rcases List.mem_cons.mp h' with e2|h2
   ·rw[e1,e2]
   ·subst e1;exact absurd (by rw[e];exact List.mem_map_of_mem (f:=(·.L)) h2) hk.1
  ·rcases List.mem_cons.mp h' with e2|h2
   ·subst e2;exact absurd (by rw[←e];exact List.mem_map_of_mem (f:=(·.L)) h1) hk.1
   ·exact ih hk.2 h1 h2
noncomputable def setNp(ns:List Nd)(k:Nat)(v:Int):List Nd:=ns.map fun n=>if n.k=k then{n with np:=v}else n
noncomputable def setSu(ns:List Nd)(k:Nat)(v:List Nat):List Nd:=ns.map fun n=>if n.k=k then{n with su:=v}else n
theorem map_set{β:Type}(f:Nd→β){g:Nd→Nd}(h:∀n,f (g n)=f n)(ns:List Nd):(ns.map g).map f=ns.map f:=by
 rw[List.map_map];exact List.map_congr_left fun n _=>h n
theorem setNp_f{β:Type}(f:Nd→β)(hf:∀n v,f {n with np:=v}=f n)(ns:List Nd)(k:Nat)(v:Int):(setNp ns k v).map f=ns.map f:=
 map_set f (fun n=>by split;exact hf n v;rfl) ns
theorem setSu_f{β:Type}(f:Nd→β)(hf:∀n v,f {n with su:=v}=f n)(ns:List Nd)(k:Nat)(v:List Nat):(setSu ns k v).map f=ns.map f:=
 map_set f (fun n=>by split;exact hf n v;rfl) ns
theorem Gr.x_ne(g:Gr prog w xS dS nD rdy np nf ns led)(hl:(led.map (·.1)).Nodup){n:Nd}(hn:n∈ns):dS≠n.x∧nD≠n.x∧(∀n'∈ns,n'.L≠n.x)∧(∀n'∈ns,n'.x=n.x→n'=n)∧xS≠n.x∧∀n'∈ns,n'.d≠n.x:=by
 refine x7_0 g.sd fun t1 t2 t3 t4 tp tf c hs=>?_;refine x1_1 g.n2i fun o ho hd=>?_;obtain⟨_,nq101,_⟩:=g.nd n hn;obtain⟨u1,u2,b⟩:=nq101;refine⟨fun e=>?_,fun e=>?_,fun n' hn' e=>?_,fun n' hn' e=>?_,fun e=>?_,fun n' hn' e=>?_⟩
 ·rw[e]at hs;have:=led_inj hl hs b;injection this with h;cases h
 ·rw[e]at ho;have:=led_inj hl ho b;refine x2_2 hd fun es ep hx hd' _=>?_;clear hd;rw[this]at hd';cases hd'
 ·obtain⟨_,_,its,m,c,_⟩:=g.nd n' hn';rw[e]at c;have:=led_inj hl c b;injection this with h;cases h
 ·obtain⟨_,nq102,_⟩:=g.nd n' hn';obtain⟨v1,v2,b'⟩:=nq102;rw[e]at b';have:=led_inj hl b' b;injection this with _ _ _ h
  have:(n'.k:Int)=n.k:=by
   have h:=congrArg (fun a:Array (Option Value)=>a[0]?) h;simp at h
   exact_mod_cast h.1
  exact uniq g.keys hn' hn (J171 this)
 ·have q:=g.inst;rw[e]at q;have:=led_inj hl q b;injection this with h;injection h with h;exact absurd h (by decide)
 ·have q:=(g.nd n' hn').1;rw[e]at q;have:=led_inj hl q b;injection this with h;cases h
theorem Gr.L_ne(g:Gr prog w xS dS nD rdy np nf ns led)(hl:(led.map (·.1)).Nodup){n:Nd}(hn:n∈ns):dS≠n.L∧nD≠n.L∧(∀n'∈ns,n'.x≠n.L)∧(∀n'∈ns,n'.L=n.L→n'=n)∧xS≠n.L∧∀n'∈ns,n'.d≠n.L:=by
 refine x7_0 g.sd fun t1 t2 t3 t4 tp tf c hs=>?_;refine x1_1 g.n2i fun o ho hd=>?_;obtain⟨_,_,its,m,b,_⟩:=g.nd n hn;refine⟨fun e=>?_,fun e=>?_,fun n' hn' e=>(g.x_ne hl hn').2.2.1 n hn e.symm,fun n' hn' e=>uniqL g.lists hn' hn e,fun e=>?_,fun n' hn' e=>?_⟩
 ·rw[e]at hs;have:=led_inj hl hs b;injection this with h;injection h with h;exact absurd h (by decide)
 ·rw[e]at ho;have:=led_inj hl ho b;refine x2_2 hd fun es ep hx hd' _=>?_;clear hd;rw[this]at hd';cases hd'
 ·have q:=g.inst;rw[e]at q;have:=led_inj hl q b;injection this with h;cases h
 ·have q:=(g.nd n' hn').1;rw[e]at q;have:=led_inj hl q b;injection this with h;injection h with h;exact absurd h (by decide)
theorem Gr.D_ne(g:Gr prog w xS dS nD rdy np nf ns led)(hl:(led.map (·.1)).Nodup):xS≠nD∧∀n∈ns,n.d≠nD:=by
 obtain⟨o,ho,es,ep,hx,hd,hk,hp,_⟩:=g.n2i;refine⟨fun e=>?_,fun n hn e=>?_⟩
 ·have q:=g.inst;rw[e]at q;have:=led_inj hl q ho;rw[←this]at hd;cases hd
 ·have q:=(g.nd n hn).1;rw[e]at q;have:=led_inj hl q ho;rw[←this]at hd;have hd':(Data.dict #[] 0:Data)=.dict es ep:=hd;injection hd' with h1 h2
  subst h1;have hl2:=Pairs.length hp;simp only[n2iK,List.length_map]at hl2;cases ns with
  |nil=>cases hn
  |cons=>simp at hl2
theorem Gr.S_ne(g:Gr prog w xS dS nD rdy np nf ns led)(hl:(led.map (·.1)).Nodup):xS≠dS∧∀n∈ns,n.d≠dS:=by
 refine x7_0 g.sd fun t1 t2 t3 t4 tp tf c hs=>?_;refine⟨fun e=>?_,fun n hn e=>?_⟩
 ·have q:=g.inst;rw[e]at q;have:=led_inj hl q hs;injection this with h;cases h
 ·have q:=(g.nd n hn).1;rw[e]at q;have:=led_inj hl q hs;injection this with _ _ h
  injection h with h1 h2
  have:=congrArg Array.size h1;simp at this
theorem Gr.setNp(g:Gr prog w xS dS nD rdy np nf ns led)(hl:(led.map (·.1)).Nodup){n:Nd}(hn:n∈ns){t1 t2:Tok}{v:Int}:Gr prog w xS dS nD rdy np nf (setNp ns n.k v) (setA led n.x (ndO n.d (.int n.k t1) (.int v t2) (.ref n.L))):=by
 refine x0_5 (g.x_ne hl hn) fun q1 q2 q3 q4 q5 q6=>?_;obtain⟨g1,nq103,nq104,g4,g5,g6,g7,g8,g9⟩:=g;obtain⟨u1,u2,u3,u4,tp,tf,c,hs⟩:=nq103;obtain⟨o,ho,hd⟩:=nq104;have hk:n2iK (Mine.setNp ns n.k v)=n2iK ns:=setNp_f (fun n=>((n.k:Int),Value.ref n.x)) (fun _ _=>rfl) ns n.k v;refine⟨setA_other g1 q5,⟨u1,u2,u3,u4,tp,tf,c,setA_other hs q1⟩,⟨o,setA_other ho q2,by rw[hk];exact hd⟩,fun n' hn'=>?_,by rw[setNp_f (·.k) (fun _ _=>rfl)];exact g5,by rw[setNp_f (·.L) (fun _ _=>rfl)];exact g6,by unfold Mine.setNp;rw[List.length_map];exact g7,fun n' hn'=>?_,g9⟩
 ·refine x1_1 (List.mem_map.mp hn') fun m hm e=>?_;have hN:=g4 m hm;by_cases hmk:m.k=n.k
  ·have:=uniq g5 hm hn hmk;subst this;rw[if_pos rfl]at e;subst e;obtain⟨a,nq105,its,mm,c',e'⟩:=hN;obtain⟨w1,w2,b⟩:=nq105;exact⟨setA_other a (q6 m hm),⟨t1,t2,setA_mem (List.mem_map_of_mem (f:=(·.1)) b)⟩,its,mm,setA_other c' (q3 m hm),e'⟩
  ·rw[if_neg hmk]at e;subst e;obtain⟨a,nq106,its,mm,c',e'⟩:=hN;obtain⟨w1,w2,b⟩:=nq106;exact⟨setA_other a (q6 m hm),⟨w1,w2,setA_other b fun e=>hmk (by rw[q4 m hm e])⟩,its,mm,setA_other c' (q3 m hm),e'⟩
 ·refine x1_1 (List.mem_map.mp hn') fun m hm e=>?_;rw[←e]
  split
  ·exact g8 m hm
  ·exact g8 m hm
theorem Gr.setSu(g:Gr prog w xS dS nD rdy np nf ns led)(hl:(led.map (·.1)).Nodup){n:Nd}(hn:n∈ns){its:List Value}{m:Nat}{v:List Nat}(hi:IntsAre its (v.map fun m:Nat=>(m:Int)))(hv:v.length≤100):
 Gr prog w xS dS nD rdy np nf (setSu ns n.k v) (setA led n.L (listOf its.toArray m)):=by
 refine x0_5 (g.L_ne hl hn) fun q1 q2 q3 q4 q5 q6=>?_;obtain⟨g1,nq107,nq108,g4,g5,g6,g7,g8,g9⟩:=g;obtain⟨u1,u2,u3,u4,tp,tf,c,hs⟩:=nq107;obtain⟨o,ho,hd⟩:=nq108;have hk:n2iK (Mine.setSu ns n.k v)=n2iK ns:=setSu_f (fun n=>((n.k:Int),Value.ref n.x)) (fun _ _=>rfl) ns n.k v;refine⟨setA_other g1 q5,⟨u1,u2,u3,u4,tp,tf,c,setA_other hs q1⟩,⟨o,setA_other ho q2,by rw[hk];exact hd⟩,fun n' hn'=>?_,by rw[setSu_f (·.k) (fun _ _=>rfl)];exact g5,by rw[setSu_f (·.L) (fun _ _=>rfl)];exact g6,by unfold Mine.setSu;rw[List.length_map];exact g7,fun n' hn'=>?_,g9⟩
 ·refine x1_1 (List.mem_map.mp hn') fun p hm e=>?_;have hN:=g4 p hm;by_cases hmk:p.k=n.k
  ·have:=uniq g5 hm hn hmk;subst this;rw[if_pos rfl]at e;subst e;obtain⟨a,nq109,its',mm,c',e'⟩:=hN;obtain⟨w1,w2,b⟩:=nq109;exact⟨setA_other a (q6 p hm),⟨w1,w2,setA_other b (q3 p hm)⟩,its,m,setA_mem (List.mem_map_of_mem (f:=(·.1)) c'),hi⟩
  ·rw[if_neg hmk]at e;subst e;obtain⟨a,nq110,its',mm,c',e'⟩:=hN;obtain⟨w1,w2,b⟩:=nq110;exact⟨setA_other a (q6 p hm),⟨w1,w2,setA_other b (q3 p hm)⟩,its',mm,setA_other c' fun e=>hmk (by rw[q4 p hm e]),e'⟩
 ·refine x1_1 (List.mem_map.mp hn') fun p hm e=>?_;rw[←e]
  split
  ·exact hv
  ·exact g8 p hm
theorem Gr.addNode(g:Gr prog w xS dS nD rdy np nf ns led){k:Nat}{x d L:Addr}{t1 t2:Tok}{o':Obj}(hn:(d::x::L::led.map (·.1)).Nodup)(hk:k∉ns.map (·.k))(ho':o'.IsDictOf (intKind prog w) (n2iK ns++[((k:Int),Value.ref x)]))(hfew:ns.length<200):
 Gr prog w xS dS nD rdy np nf (ns++[⟨k,x,d,L,0,[]⟩]) (setA ((d,(emptyDict:Obj))::(x,ndO d (.int k t1) (.int 0 t2) (.ref L))::(L,listOf #[] 0)::led) nD o'):=by
 rw[List.nodup_cons,List.nodup_cons,List.nodup_cons]at hn;refine x0_3 hn fun hnd hnx hnL hnl=>?_;clear hn;have hDn:=g.D_ne hnl;have hx:=fun n hn=>g.x_ne hnl (n:=n) hn;have hLn:=fun n hn=>g.L_ne hnl (n:=n) hn;obtain⟨g1,nq111,nq112,g4,g5,g6,g7,g8,g9⟩:=g;obtain⟨u1,u2,u3,u4,tp,tf,c,hs⟩:=nq111;obtain⟨o,ho,hod⟩:=nq112;have hnDl:nD∈led.map (·.1):=List.mem_map_of_mem (f:=(·.1)) ho;have hxD:x≠nD:=fun e=>hnx (.tail _ (by rw[e];exact hnDl));have hLD:L≠nD:=fun e=>hnL (by rw[e];exact hnDl);have hdD:d≠nD:=fun e=>hnd (.tail _ (.tail _ (by rw[e];exact hnDl)));have sub:∀p∈led,p.1≠nD→p∈setA ((d,(emptyDict:Obj))::(x,ndO d (.int k t1) (.int 0 t2) (.ref L))::(L,listOf #[] 0)::led) nD o':=fun p hp h=>setA_other (.tail _ (.tail _ (.tail _ hp))) h;refine⟨sub _ g1 hDn.1,⟨u1,u2,u3,u4,tp,tf,c,sub _ hs g9⟩,⟨o',setA_mem (.tail _ (.tail _ (.tail _ hnDl))),?_⟩,fun n hn=>?_,?_,?_,by simp;exact J91 hfew,fun n hn=>?_,g9⟩
 ·have:n2iK (ns++[⟨k,x,d,L,0,[]⟩])=n2iK ns++[((k:Int),Value.ref x)]:=by unfold n2iK;rw[List.map_append];rfl
  rw[this];exact ho'
 ·rcases List.mem_append.mp hn with hn|hn
  ·obtain⟨a,nq113,its,mm,c',e'⟩:=g4 n hn;obtain⟨w1,w2,b⟩:=nq113;exact⟨sub _ a (hDn.2 n hn),⟨w1,w2,sub _ b (Ne.symm (hx n hn).2.1)⟩,its,mm,sub _ c' (Ne.symm (hLn n hn).2.1),e'⟩
  ·rw[List.mem_singleton]at hn;subst hn;exact⟨setA_other (.head _) hdD,⟨t1,t2,setA_other (.tail _ (.head _)) hxD⟩,[],0,setA_other (.tail _ (.tail _ (.head _))) hLD,.nil⟩
 ·rw[List.map_append,List.nodup_append];refine⟨g5,by simp,fun a ha b hb e=>?_⟩;simp only[List.map_cons,List.map_nil,List.mem_singleton]at hb;exact hk (by rw[←hb,←e];exact ha)
 ·rw[List.map_append,List.nodup_append];refine⟨g6,by simp,fun a ha b hb e=>?_⟩;simp only[List.map_cons,List.map_nil,List.mem_singleton]at hb;refine x1_1 (List.mem_map.mp ha) fun n hn eq2=>?_;subst eq2;obtain⟨_,_,its,mm,c',_⟩:=g4 n hn;exact hnL (by rw[←hb,←e];exact List.mem_map_of_mem (f:=(·.1)) c')
 ·rcases List.mem_append.mp hn with hn|hn
  ·exact g8 n hn
  ·rw[List.mem_singleton]at hn;subst hn;simp
theorem Gr.xinst(g:Gr prog w xS dS nD rdy np nf ns led){n:Nd}(hn:n∈ns){h:Heap}(hL:∀p∈led,h.get? p.1=some p.2):∃t1 t2,(n.x,ndO n.d (.int n.k t1) (.int n.np t2) (.ref n.L))∈led∧InstAt h n.x (ndO n.d (.int n.k t1) (.int n.np t2) (.ref n.L)) 93 (some emptyDict):=by
 obtain⟨a,nq114,_⟩:=g.nd n hn;obtain⟨w1,w2,b⟩:=nq114;exact⟨w1,w2,b,hL _ b,rfl,rfl,hL _ a⟩
theorem Gr.sinst(g:Gr prog w xS dS nD rdy np nf ns led){h:Heap}(hL:∀p∈led,h.get? p.1=some p.2):∃t1 t2 t3 t4 tp tf c,(dS,dictOf (sEs w t1 t2 t3 t4 (.ref nD) rdy (.int np tp) (.int nf tf)) c)∈led∧
 InstAt h xS (instObj 190 dS) 190 (some (dictOf (sEs w t1 t2 t3 t4 (.ref nD) rdy (.int np tp) (.int nf tf)) c)):=by
 refine x7_0 g.sd fun t1 t2 t3 t4 tp tf c hs=>?_;exact⟨t1,t2,t3,t4,tp,tf,c,hs,hL _ g.inst,rfl,rfl,hL _ hs⟩
end
section
variable{prog:Program}{w:World}{A:Around}{E:Value→Shared→Prop}{R:Result→Shared→Prop}{K:GH}{mg mb:Str→Option Value}{p0 p1 p2 p3:Value}{r:Shared}{own:Str→Bool}{G:GH}{env:Env}{vs vs':Vs}{led led':List (Addr×Obj)}{s:Shared}{Q:Value→Shared→Prop}{Fg:Frag}{dV:Addr}
theorem St.all(S:St K r own G env vs led s):∀p∈led,s.heap.get? p.1=some p.2:=fun p hp=>(S.ld p hp).1
theorem dgetm(S:St K r own G env vs led s){d:Addr}{o:Obj}{kvs:List (Int×Value)}{k:Int}{t:Tok}(hm:∃o,K sysModules=some o)(hd:(d,o)∈led)(ho:o.IsDictOf (intKind prog w) kvs)(h:∀s',St K r own G env vs led s'→Q ((valueAt kvs k).getD .none) s'):
 wpAny (model prog w) A (call (.builtin "dict.get") [.ref d,.int k t]) Q E s:=
 have hD:s.heap.DictOf (intKind prog w) d kvs:=Heap.dictOf_iff.mpr ⟨o,S.get hd,ho⟩
 call_meetsIn F.slot_dict_get hD.typeIs F.entry_dict_get (F.args_dict_get_2 _ _) (meets_dict_get (intKind prog w) d int_is (S.low hm hd)) ⟨_,hD.mapOf,h _ (S.tok _)⟩
theorem asgSub{o i:Expr}{pos:Pos}{v:Value}{Q:Unit→Shared→Prop}(h:wpAny (model prog w) A (eval o env) (fun ov s₁=>wpAny (model prog w) A (eval i env) (fun iv s₂=>wpAny (model prog w) A (setItem ov iv v) Q E s₂) E s₁) E s):
 wpAny (model prog w) A (assign (.Subscript o i pos) env v) Q E s:=kas_sub h
theorem selfA{xS dS nD:Addr}{rdy:Value}{np nf:Int}{ns:List Nd}{name:Str}{expr:Bool}(B:B3 Fg K mg mb p0 p1 p2 p3 dV)(l:AttOk Fg 190 name)(S:St K r own G env vs led s)(g:Gr prog w xS dS nD rdy np nf ns led)
 (hv:∀t1 t2 t3 t4 tp tf,∃v,getL name (sEs w t1 t2 t3 t4 (.ref nD) rdy (.int np tp) (.int nf tf))=some (some v)∧handedIn v=true∧∀s',St K r own G env vs led s'→Q v s'):wpAny (model prog w) A (getAttr (.ref xS) name expr) Q E s:=by
 refine x7_1 (g.sinst S.all) fun t1 t2 t3 t4 tp tf c hs I=>?_;refine x1_2 (hv t1 t2 t3 t4 tp tf) fun v h1 h2 h3=>?_;exact g_att B.fgin B.cS l S I h1 h2 h3
end
theorem gni_fn(pm:Value):FnOk (fdOf (inCls (topSt 15) 1) "TopologicalSorter._get_nodeinfo" .none 132 pm) ["self","node"] ["result"] (bodyOf (inCls (topSt 15) 1)) where
 body:=rfl
 clo:=rfl
 gl:=rfl
 bi:=rfl
 fn:=rfl
 co:=rfl
 gen:=rfl
 bind:=by
  intro vals h;refine x2_0 (len2 h) fun a b eq2=>?_;subst eq2;rfl
 ndS:=show((scopeOf (inCls (topSt 15) 1)).names.map (·.1)).Nodup by decide+kernel
 names:=names_ok (sc:=scopeOf (inCls (topSt 15) 1)) (by decide+kernel)
 nd:=by decide+kernel
noncomputable def ensC(c:Cn)(k:Nat):Cn:=if k∈c.map (·.1)then c else c++[(k,0,[])]
theorem cont_keys(ns:List Nd):(cont ns).map (·.1)=ns.map (·.k):=by unfold cont;rw[List.map_map];rfl
section
variable{prog:Program}{w:World}{K:GH}{mg mb:Str→Option Value}{p0 p1 p2 p3:Value}{Fg:Frag}{dV:Addr}
theorem gni_ok{A:Around}(B:B3 Fg K mg mb p0 p1 p2 p3 dV)(hA:Rm 8 A){s:Shared}{xS dS nD:Addr}{rdy:Value}{np nf:Int}{ns:List Nd}{led:List (Addr×Obj)}{k:Nat}{tk:Tok}{R:Result→Shared→Prop}
 (hK:∀a o,K a=some o→s.heap.get? a=some o) (hl:∀p∈led,s.heap.get? p.1=some p.2∧K p.1=none) (nd:(led.map (·.1)).Nodup) (g:Gr prog w xS dS nD rdy np nf ns led) (hfew:ns.length<200)
 (kk:∀G2 env2 vs2 led2 s2 ns2 n,GLe (but led s.heap) G2→St K s yes G2 env2 vs2 led2 s2→Gr prog w xS dS nD rdy np nf ns2 led2→cont ns2=ensC (cont ns) k→n∈ns2→n.k=k→(∀p∈led,p.1≠nD→p∈led2)→R (.ok (.ret (.ref n.x))) s2):
 codeAny (model prog w) A (.call (.ref 133) ⟨[.ref xS,.int k tk],[]⟩) R s:=by
 refine enter (led:=led) B.toTp B.fGni (gni_fn p1) hA.room rfl (vs:=[("self",some (.ref xS)),("node",some (.int k tk)),("result",none)]) rfl hK hl nd fun env s' hkd hsc S=>?_;have hA':=hA.deep env;have gl:Gl env ["_NodeInfo"]:=Gl.of (sc:=scopeOf (inCls (topSt 15) 1)) hkd (by decide+kernel);refine x1_1 g.n2i fun o ho hod=>?_;refine xc (xif (xcmp (wpAny_NamedExpr (meth F.plainAttrs_dict F.slot_dict_get F.type_dict_get (Attribute_Name_ ?_)))));walk_at"name";refine selfA B B.aN2i S g fun t1 t2 t3 t4 tp tf=>⟨.ref nD,by kernel_rfl,rfl,fun s₁ S=>?_⟩;have hE:=hod;refine x2_2 hE fun es ep hex hdat _=>?_;clear hE;refine⟨nD,o,rfl,S.get ho,hex.1,hex.2.1,callWith_method1 (arg ?_)⟩;walk_at"name";refine argE (dgetm S B.mods ho hod fun s₁ S=>?_);by_cases hin:k∈ns.map (·.k)
 ·refine x1_1 (List.mem_map.mp hin) fun n hn hnk=>?_;rw[valueAt_n2i g.keys n hn hnk];refine wpAny_assign_Name (S.store (by walk_at"pv") (.inl rfl) fun s₁ S=>?_);refine wpAny_Constant_none ?_;refine is_ref_none (wpAny_truthy_bool ?_);refine if_f Bool.false_ne_true ?_;refine xn (xc (xret ?_));walk_at"name";refine kk _ _ _ _ _ ns n (GLe.refl _) S g ?_ hn hnk fun p hp _=>hp;unfold ensC;rw[cont_keys,if_pos hin]
 ·rw[valueAt_n2i_none hin];refine wpAny_assign_Name (S.store (by walk_at"pv") (.inl rfl) fun s₁ S=>?_);refine wpAny_Constant_none ?_;refine wpAny_is_self rfl (wpAny_truthy_bool ?_);refine if_t rfl ?_;refine xc (wpAny_Assign_two (Call_ (S.glob B.toTp B.gNi (gl _ (by walk_at"mem")).2 (margs B.cN.kp (S.fg B.fgin) (arg ?_)))));walk_at"name";refine argE ⟨S.fg B.fgin,newinfo_ok B (hA'.le (by decide)) (fun a o e=>S.atK e) fun h t x d L t0 hk hx hd hL hxL hxd hLd gx gd gL=>?_⟩;have S':=S.news (t:=t) (os:=[(d,emptyDict),(x,ndO d (.int k tk) (.int 0 t0) (.ref L)),(L,listOf #[] 0)]) hk (by
   intro p hp;simp only[List.mem_cons,List.not_mem_nil,or_false]at hp;rcases hp with rfl|rfl|rfl
   ·exact⟨hd,gd⟩
   ·exact⟨hx,gx⟩
   ·exact⟨hL,gL⟩) (by simp[hxL,Ne.symm hxd,Ne.symm hLd])
  clear S;generalize ({s₁ with heap:=_,toks:=_}:Shared)=s₂ at S'⊢;have S:=S';clear S';show wpAny _ _ (assign _ _ _) _ _ _;refine asgSub (Attribute_Name_ ?_);walk_at"name";have gg:Gr prog w xS dS nD rdy np nf ns ((d,(emptyDict:Obj))::(x,ndO d (.int k tk) (.int 0 t0) (.ref L))::(L,listOf #[] 0)::led):=g.more fun p hp=>.tail _ (.tail _ (.tail _ hp));refine selfA B B.aN2i S gg fun t1 t2 t3 t4 tp tf=>⟨.ref nD,by kernel_rfl,rfl,fun s₁ S=>?_⟩;walk_at"name";have ho2:(nD,o)∈((d,(emptyDict:Obj))::(x,ndO d (.int k tk) (.int 0 t0) (.ref L))::(L,listOf #[] 0)::led):=.tail _ (.tail _ (.tail _ ho));have hndx:=S.nd;have hnl:(n2iK ns).length<1000:=by unfold n2iK;rw[List.length_map];exact J90 hfew
  refine dset (led':=fun o'=>setA ((d,(emptyDict:Obj))::(x,ndO d (.int k tk) (.int 0 t0) (.ref L))::(L,listOf #[] 0)::led) nD o') S (fun o'=>Up.setA ho2 S.nd) hod int_is hnl fun o' s₁ ho' S=>?_;rw[stored_n2i hin]at ho';refine wpAny_assign_Name (S.store (by walk_at"pv") (.inl rfl) fun s₁ S=>?_);refine xn (xc (xret ?_));walk_at"name";have hnl':∀p∈led,p.1≠nD→p∈setA ((d,(emptyDict:Obj))::(x,ndO d (.int k tk) (.int 0 t0) (.ref L))::(L,listOf #[] 0)::led) nD o':=fun p hp h=>setA_other (.tail _ (.tail _ (.tail _ hp))) h;refine kk _ _ _ _ _ (ns++[⟨k,x,d,L,0,[]⟩]) ⟨k,x,d,L,0,[]⟩ (GLe.refl _) S (g.addNode hndx hin ho' hfew) ?_ (List.mem_append_right _ (.head _)) rfl hnl';unfold ensC;rw[cont_keys,if_neg hin];unfold cont;rw[List.map_append];rfl
end
noncomputable def npC(c:Cn)(k:Nat)(m:Int):Cn:=c.map fun e=>if e.1=k then(e.1,e.2.1+m,e.2.2)else e
noncomputable def suC(c:Cn)(p k:Nat):Cn:=c.map fun e=>if e.1=p then(e.1,e.2.1,e.2.2++[k])else e
noncomputable def addC(c:Cn)(k:Nat)(preds:List Nat):Cn:=preds.foldl (fun c p=>suC (ensC c p) p k) (npC (ensC c k) k preds.length)
theorem cont_setNp{ns:List Nd}(hk:(ns.map (·.k)).Nodup){n:Nd}(hn:n∈ns)(v m:Int)(hv:v=n.np+m):cont (setNp ns n.k v)=npC (cont ns) n.k m:=by
 unfold cont setNp npC;rw[List.map_map,List.map_map];refine List.map_congr_left fun a ha=>?_;show((if a.k=n.k then{a with np:=v}else a).k,(if a.k=n.k then{a with np:=v}else a).np,(if a.k=n.k then{a with np:=v}else a).su)=if a.k=n.k then(a.k,a.np+m,a.su)else(a.k,a.np,a.su)
 by_cases h:a.k=n.k
 ·have:=uniq hk ha hn h;subst this;simp[hv]
 ·simp[h]
theorem cont_setSu{ns:List Nd}(hk:(ns.map (·.k)).Nodup){n:Nd}(hn:n∈ns)(k:Nat):cont (setSu ns n.k (n.su++[k]))=suC (cont ns) n.k k:=by
 unfold cont setSu suC;rw[List.map_map,List.map_map];refine List.map_congr_left fun a ha=>?_;show((if a.k=n.k then{a with su:=n.su++[k]}else a).k,(if a.k=n.k then{a with su:=n.su++[k]}else a).np,(if a.k=n.k then{a with su:=n.su++[k]}else a).su)=if a.k=n.k then(a.k,a.np,a.su++[k])else(a.k,a.np,a.su)
 by_cases h:a.k=n.k
 ·have:=uniq hk ha hn h;subst this;simp
 ·simp[h]
theorem ensC_len(c:Cn)(k:Nat):(ensC c k).length≤c.length+1:=by unfold ensC;split<;>simp
theorem cont_len(ns:List Nd):(cont ns).length=ns.length:=by unfold cont;simp
theorem add_fn(pm:Value):FnOg (fdOf (inCls (topSt 15) 2) "TopologicalSorter.add" .none 139 pm) ["self","node","predecessors"] ["nodeinfo","pred","pred_info"] (bodyOf (inCls (topSt 15) 2)) where
 body:=rfl
 clo:=rfl
 gl:=rfl
 bi:=rfl
 fn:=rfl
 co:=rfl
 gen:=rfl
 ndS:=show((scopeOf (inCls (topSt 15) 2)).names.map (·.1)).Nodup by decide+kernel
 names:=names_ok (sc:=scopeOf (inCls (topSt 15) 2)) (by decide+kernel)
 nd:=by decide+kernel
theorem add_bind(pm a b:Value)(ps:List Value):bindArgs (fdOf (inCls (topSt 15) 2) "TopologicalSorter.add" .none 139 pm) ⟨a::b::ps,[]⟩=(newTuple ps >>=fun t=>pure [((Str.ofString "self" :Str),a),("node",b),("predecessors",t)]):=by
 match ps with
 |[]=>rfl
 |p::r=>rfl
section
variable{prog:Program}{w:World}{A:Around}{E:Value→Shared→Prop}{R:Result→Shared→Prop}{K:GH}{mg mb:Str→Option Value}{p0 p1 p2 p3:Value}{r:Shared}{own:Str→Bool}{G:GH}{env:Env}{vs vs':Vs}{led led' rest:List (Addr×Obj)}{s:Shared}{Q:Value→Shared→Prop}{Fg:Frag}{dV:Addr}
theorem St.hand(S:St K r own G env vs (rest++led) s):(∀p∈led,s.heap.get? p.1=some p.2∧K p.1=none)∧(led.map (·.1)).Nodup∧GLe G (but led s.heap):=by
 have hn:∀p∈led,G p.1=none:=fun p hp=>(S.ld p (List.mem_append_right _ hp)).2.1;refine⟨fun p hp=>⟨(S.ld p (List.mem_append_right _ hp)).1,?_⟩,?_,but_le S.sub hn⟩
 ·cases q:K p.1 with
  |none=>rfl
  |some o=>have:=hn p hp;rw[S.base _ o q]at this;cases this
 ·have:=S.nd;rw[List.map_append,List.nodup_append]at this;exact this.2.1
theorem St.backL{G2:GH}{own2:Str→Bool}{env2:Env}{vs2:Vs}{led2:List (Addr×Obj)}{s1 s2:Shared}(S:St K r own G env vs (rest++led) s)(hk1:∀b o,s.heap.get? b=some o→s1.heap.get? b=some o)(hs1:∃h t,s1={s with heap:=h,toks:=t})
 (g:GLe (but led s1.heap) G2) (S2:St K s1 own2 G2 env2 vs2 led2 s2):∃G3,GLe G G3∧(∀a o,G2 a=some o→s.heap.get? a=none→G3 a=some o)∧St K r own G3 env vs (rest++led2) s2:=by
 refine x1_2 (St.back (led:=led) (rest:=rest) (S.perm List.perm_append_comm) hk1 hs1 g S2) fun G3 h1 h2 h3=>?_;exact⟨G3,h1,h2,h3.perm List.perm_append_comm⟩
theorem tup_it(S:St K r own G env vs led s){l:Addr}{items:List Value}{m:Nat}(hl:s.heap.get? l=some (tupOf items.toArray m))
 (h:∀I s',St K r own G env vs ((I,{cls:=.type "tuple_iterator",data:=.fields #[.ref l,.int 0 0]})::led) s'→Q (.ref I) s'):wpAny (model prog w) A (pyIter (.ref l)) Q E s:=
 wpAny_pyIter_tuple (items:=items.toArray) ⟨_,hl,rfl,m,rfl⟩ (h _ _ (S.push _ s.toks))
theorem ints_consI{vs:List Value}{a:Int}{ns:List Int}(h:IntsAre vs (a::ns)):∃t ws,vs=.int a t::ws∧IntsAre ws ns:=by
 cases h with
 |cons _ t h=>exact⟨t,_,rfl,h⟩
theorem ints_nilI{vs:List Value}(h:IntsAre vs []):vs=[]:=by
 cases h;rfl
theorem ints_get{ns:List Int}:∀{vs:List Value},IntsAre vs ns→∀{i:Nat} {v:Value},vs[i]? =some v→∃a t,ns[i]? =some a∧v=.int a t:=by
 induction ns with
 |nil=>intro vs h i v hv;rw[ints_nilI h]at hv;simp at hv
 |cons a r ih=>
  intro vs h i v hv;refine x2_1 (ints_consI h) fun t ws eq2=>?_;subst eq2;intro h2;cases i with
  |zero=>exact⟨a,t,rfl,(Option.some.inj hv).symm⟩
  |succ i=>exact ih h2 hv
theorem ints_snoc{ns:List Int}:∀{vs:List Value},IntsAre vs ns→∀(a:Int) (t:Tok),IntsAre (vs++[.int a t]) (ns++[a]):=by
 induction ns with
 |nil=>intro vs h a t;rw[ints_nilI h];exact .cons a t .nil
 |cons b r ih=>
  intro vs h a t;refine x2_1 (ints_consI h) fun u ws eq2=>?_;subst eq2;intro h2;exact .cons b u (ih h2 a t)
theorem putS_1{d:Addr}{a b c v:Value}:putS 1 v (ndO d a b c)=ndO d a v c:=by unfold putS;simp
theorem cont_suMx{ns ns2:List Nd}{mx:Nat}(hmx:∀n∈ns,n.su.length≤mx){k:Nat}(hc:cont ns2=ensC (cont ns) k):∀n∈ns2,n.su.length≤mx:=by
 intro n hn;have h1:(n.k,n.np,n.su)∈cont ns2:=List.mem_map.mpr ⟨n,hn,rfl⟩;rw[hc]at h1;unfold ensC at h1
 split at h1
 ·refine x1_1 (List.mem_map.mp h1) fun m hm e=>?_;have:m.su=n.su:=by injection e with _ e;injection e with _ e
  rw[←this];exact hmx m hm
 ·rcases List.mem_append.mp h1 with h1|h1
  ·refine x1_1 (List.mem_map.mp h1) fun m hm e=>?_;have:m.su=n.su:=by injection e with _ e;injection e with _ e
   rw[←this];exact hmx m hm
  ·rw[List.mem_singleton]at h1;have:n.su=[]:=by injection h1 with _ e;injection e with _ e
   rw[this];simp
theorem len_tup(S:St K r own G env vs led s){l:Addr}{items:List Value}{n:Nat}(hl:s.heap.get? l=some (tupOf items.toArray n))(hz:items.length<2^63)(h:∀t s',St K r own G env vs led s'→Q (.int items.length t) s'):
 wpAny (model prog w) A (call (.builtin "len") [.ref l]) Q E s:=
 len_tuple (items:=items.toArray) ⟨_,hl,rfl,n,rfl⟩ (by simpa using(J86 hz:(items.length:Int)<2^63)) (by simpa using h _ _ (S.tok _))
end
section
variable{prog:Program}{w:World}{K:GH}{mg mb:Str→Option Value}{p0 p1 p2 p3:Value}{Fg:Frag}{dV:Addr}
theorem add_ok{A:Around}(B:B3 Fg K mg mb p0 p1 p2 p3 dV)(hA:Rm 12 A){s:Shared}{xS dS nD:Addr}{np nf:Int}{ns:List Nd}{led:List (Addr×Obj)}{k:Nat}{tk:Tok}{pv:List Value}{preds:List Nat}{R:Result→Shared→Prop}
 (hK:∀a o,K a=some o→s.heap.get? a=some o) (hl:∀p∈led,s.heap.get? p.1=some p.2∧K p.1=none) (nd:(led.map (·.1)).Nodup) (g:Gr prog w xS dS nD .none np nf ns led)
 (hp:IntsAre pv (preds.map fun m:Nat=>(m:Int))) {mx:Nat} (hfew:ns.length+preds.length+1≤200) (hmx:∀n∈ns,n.su.length≤mx) (hsh:mx+preds.length≤100)
 (kk:∀s1 G2 env2 vs2 led2 s2 ns2,(∀b o,s.heap.get? b=some o→s1.heap.get? b=some o)→(∃h t,s1={s with heap:=h,toks:=t})→GLe (but led s1.heap) G2→St K s1 yes G2 env2 vs2 led2 s2→Gr prog w xS dS nD .none np nf ns2 led2→cont ns2=addC (cont ns) k preds→(∀n∈ns2,n.su.length≤mx+preds.length)→ns2.length≤ns.length+preds.length+1→R (.ok (.ret .none)) s2):
 codeAny (model prog w) A (.call (.ref 140) ⟨.ref xS:: .int k tk::pv,[]⟩) R s:=by
 have hpl:=hp.length;simp only[List.length_map]at hpl;have hk1:∀b o,s.heap.get? b=some o→(s.heap.push (tupOf pv.toArray 0)).get? b=some o:=fun b o e=>Heap.get?_push_of_some _ e;refine enterG (led:=led) (s1:={s with heap:=s.heap.push (tupOf pv.toArray 0)}) B.toTp B.fAdd (add_fn p1) hA.room (vals:=[.ref xS,.int k tk,.ref s.heap.objs.size]) rfl (vs:=[("self",some (.ref xS)),("node",some (.int k tk)),("predecessors",some (.ref s.heap.objs.size)),("nodeinfo",none),("pred",none),("pred_info",none)]) rfl hk1 ?_ hK (fun p hp=>⟨hk1 _ _ (hl p hp).1,(hl p hp).2⟩) nd fun env s' hkd hsc S=>?_
 ·intro Q E hQ;rw[add_bind];exact wpAny_bind (wpAny_newTuple (wpAny_pure hQ) (by rw[hpl];exact Nat.le_trans (J504 hsh:preds.length≤100) (by decide)))
 have hT:but led (s.heap.push (tupOf pv.toArray 0)) s.heap.objs.size=some (tupOf pv.toArray 0):=by
  refine but_at (Heap.get?_push_size _ rfl) fun hm=>?_;refine x1_1 (List.mem_map.mp hm) fun p hp e=>?_;have:=Heap.lt_size (hl p hp).1;rw[e]at this;exact Nat.lt_irrefl _ this
 generalize s.heap.objs.size=T at hT S⊢;generalize hs1:({s with heap:=s.heap.push (tupOf pv.toArray 0)}:Shared)=s1 at S hT⊢;have hs1k:∀b o,s.heap.get? b=some o→s1.heap.get? b=some o:=by rw[←hs1];exact hk1
 have hs1s:∃h t,s1={s with heap:=h,toks:=t}:=⟨_,_,hs1.symm⟩;have hT:but led s1.heap T=some (tupOf pv.toArray 0):=by rw[←hs1];exact hT
 clear hs1 hk1;have hA':=hA.deep env;have gl:Gl env ["ValueError","len"]:=Gl.of (sc:=scopeOf (inCls (topSt 15) 2)) hkd (by decide+kernel);refine xc (xif (xcmp (Attribute_Name_ ?_)));walk_at"name";refine selfA B B.aRdy S g fun t1 t2 t3 t4 tp tf=>⟨.none,by kernel_rfl,rfl,fun s₁ S=>?_⟩;refine wpAny_Constant_none ?_;refine wpAny_isNot_self rfl (wpAny_truthy_bool ?_);refine if_f Bool.false_ne_true ?_;refine xn ?_;refine xc (a_name (mcall B.fgin B.cS B.mGni ?_));walk_at"name";refine x7_1 (g.sinst S.all) fun y1 y2 y3 y4 y5 y6 y7 _ I=>?_;refine⟨xS,_,_,_,rfl,⟨_,_,_,_,_,S⟩,I,by kernel_rfl,margs B.mGni.kp (S.fg B.fgin) (arg ?_)⟩;walk_at"name";have hh:=St.hand (rest:=[]) S;refine argE ⟨S.fg B.fgin,gni_ok B (hA'.le (by decide)) (fun a o e=>S.atK e) hh.1 hh.2.1 g (J395 hfew) fun G2 env2 vs2 led2 s2 ns2 n hG2 S2 g2 hc2 hn hnk hsub=>?_⟩;refine x1_2 (St.backL (rest:=[]) S (fun _ _ e=>e) ⟨_,_,rfl⟩ hG2 S2) fun G3 hg3 _ S=>?_;have S:St K s1 yes G3 env _ led2 s2:=S;have hT:=hg3 _ _ hT;have hmx2:=cont_suMx hmx hc2;have hlen2:ns2.length≤ns.length+1:=by
  have:=ensC_len (cont ns) k;rw[←hc2,cont_len,cont_len]at this;exact this
 clear S2 I hh hG2;refine S.store (by walk_at"pv") (.inl rfl) fun s₁ S=>?_;refine xc (wpAny_AugAssign_AttributeAny ?_);walk_at"name";obtain⟨hdm,nq115,_⟩:=g2.nd n hn;obtain⟨u1,u2,hxm⟩:=nq115;refine g_slot B.fgin B.cN B.sNp S (inst_of (S.get hxm) (S.get hdm)) (v:=.int n.np u2) rfl rfl fun s₁ S=>?_;refine cblt S B.toTp gl B.b_len (by walk_at"mem") (arg ?_);walk_at"name";refine argE (len_tup S (S.at hT) (J400 hsh hpl) fun t3 s₁ S=>?_);refine PySem.wpAny_iadd_int ?_;have hnd2:=S.nd;have g3:=fun tt=>g2.setNp (t1:=u1) (t2:=tt) (v:=n.np+(pv.length:Int)) hnd2 hn;generalize s₁.toks=tt;have S:=S.tok (tt+1);refine s_slot B.fgin B.cN B.sNp (by decide) S (inst_of (S.get hxm) (S.get hdm)) hxm rfl fun s₁ S=>?_;rw[putS_1]at S;have g3:=g3 tt;generalize setA led2 n.x _=led3 at g3 S;have hc3:=cont_setNp g2.keys hn (n.np+(pv.length:Int)) pv.length rfl;have hmx3:∀m∈setNp ns2 n.k (n.np+(pv.length:Int)),m.su.length≤mx:=by
  intro m hm;refine x1_1 (List.mem_map.mp hm) fun m' hm' e=>?_;rw[←e];split<;>exact hmx2 m' hm'
 have hlen3:(setNp ns2 n.k (n.np+(pv.length:Int))).length≤ns.length+1:=by unfold setNp;rw[List.length_map];exact hlen2
 rw[hnk,hc2,hpl]at hc3;rw[hnk,hpl]at g3 hmx3 hlen3;generalize setNp ns2 k (n.np+(preds.length:Int))=ns3 at g3 hc3 hmx3 hlen3;clear hc2 hmx2 hxm hdm g2 hn hnd2;refine xc (xfor ?_);walk_at"name";refine tup_it S (S.at hT) fun I s₁ S=>?_;refine forI (n:=pv.length) (fun G' hg=>Itr.tuple hA'.hd (hg _ _ hT) I) (fun i G' vs' led'=>∃ns' v1 v2,vs'=([("self",some (.ref xS)),("node",some (.int k tk)),("predecessors",some (.ref T)),("nodeinfo",some (.ref n.x)),("pred",v1),("pred_info",v2)]:Vs)∧
  Gr prog w xS dS nD .none np nf ns' led'∧cont ns'=(preds.take i).foldl (fun c p=>suC (ensC c p) p k) (npC (ensC (cont ns) k) k preds.length)∧(∀m∈ns',m.su.length≤mx+i)∧ns'.length≤ns.length+1+i) S ⟨rfl,rfl⟩ ⟨ns3,_,_,rfl,g3,hc3,hmx3,hlen3⟩ ?_ ?_
 ·intro i v G' vs' led' oi sa E' hi hv hG nq116;obtain⟨ns',v1,v2,rfl,g4,hc4,hm4,hl4⟩:=nq116;intro S;refine x2_1 (ints_get hp hv) fun a ta ha eq3=>?_;subst eq3;have hi':i<preds.length:=J419 hi hpl;have ha:a=(preds[i]:Nat):=by
   rw[List.getElem?_map,List.getElem?_eq_getElem hi']at ha;simpa using ha.symm
  subst ha;have htake:(preds.take (i+1)).foldl (fun c p=>suC (ensC c p) p k) (npC (ensC (cont ns) k) k preds.length)=suC (ensC (cont ns') preds[i]) preds[i] k:=by
   rw[List.take_add_one,List.getElem?_eq_getElem hi'];simp only[Option.toList_some,List.foldl_append,List.foldl_cons,List.foldl_nil];rw[←hc4]
  generalize preds[i]=pr at htake⊢;refine wpAny_assign_Name (S.store (by walk_at"pv") (.inl rfl) fun sa S=>?_);refine xc (a_name (mcall B.fgin B.cS B.mGni ?_));walk_at"name";refine x7_1 (g4.sinst (h:=sa.heap) (fun p hp=>S.all p (.tail _ hp))) fun y1 y2 y3 y4 y5 y6 y7 _ I'=>?_;refine⟨xS,_,_,_,rfl,⟨_,_,_,_,_,S⟩,I',by kernel_rfl,margs B.mGni.kp (S.fg B.fgin) (arg ?_)⟩;walk_at"name";have hh:=St.hand (rest:=[(I,oi)]) S;refine argE ⟨S.fg B.fgin,gni_ok B (hA'.le (by decide)) (fun a o e=>S.atK e) hh.1 hh.2.1 g4 (J553 hfew hi hpl hl4) fun G2 env2 vs2 led4 s4 ns4 n4 hG2 S2 g5 hc5 hn5 hnk5 hsub=>?_⟩;refine x1_2 (St.backL (rest:=[(I,oi)]) S (fun _ _ e=>e) ⟨_,_,rfl⟩ hG2 S2) fun G5 hg5 _ S=>?_;have S:St K s1 yes G5 env _ ((I,oi)::led4) s4:=S;clear S2 I' hh hG2;refine S.store (by walk_at"pv") (.inl rfl) fun sa S=>?_;refine xc (x_any S (meth F.plainAttrs_list F.slot_list_append F.type_list_append (Attribute_Name_ ?_)));walk_at"name";obtain⟨hdm,nq117,its,mm,hLm,hLi⟩:=g5.nd n4 hn5;obtain⟨u1,u2,hxm⟩:=nq117;refine g_slot B.fgin B.cN B.sSu S (inst_of (S.get (.tail _ hxm)) (S.get (.tail _ hdm))) (v:=.ref n4.L) rfl rfl fun sa S=>?_;refine⟨n4.L,_,rfl,S.get (.tail _ hLm),rfl,rfl,callWith_method1 (arg ?_)⟩;walk_at"name";have hmx5:=cont_suMx hm4 hc5;have hitl:=hLi.length;simp only[List.length_map]at hitl;have hsu5:=hmx5 n4 hn5;refine argE (app_lst (items:=its) (led':=fun n'=>setA ((I,oi)::led4) n4.L (listOf (its++[Value.int k tk]).toArray n')) S (fun n'=>Up.setA (.tail _ hLm) S.nd) (J579 hsh hi hpl hitl hsu5) fun n' sa S=>?_);have hIL:I≠n4.L:=by
   have:=S.nd;rw[setA_names,List.map_cons,List.nodup_cons]at this;intro e;exact this.1 (by rw[e];exact List.mem_map_of_mem (f:=(·.1)) hLm)
  have hset:setA ((I,oi)::led4) n4.L (listOf (its++[Value.int k tk]).toArray n')=(I,oi)::setA led4 n4.L (listOf (its++[Value.int k tk]).toArray n'):=by
   show(if I=n4.L then _ else _)::_=_;rw[if_neg hIL];rfl
  rw[hset]at S;have hnd5:(led4.map (·.1)).Nodup:=by
   have:=S.nd;rw[List.map_cons,List.nodup_cons,setA_names]at this;exact this.2
  have g6:=g5.setSu (m:=n') (v:=n4.su++[k]) hnd5 hn5 (its:=its++[Value.int k tk]) (by rw[List.map_append];exact ints_snoc hLi _ _) (by simp;exact J554 hsh hi hpl hsu5);have hc6:=cont_setSu g5.keys hn5 k;refine xn ⟨G5,_,_,hg5,S,_,_,_,rfl,g6,?_,?_,?_⟩
  ·rw[hc6,hc5,hnk5,htake]
  ·intro m hm;refine x1_1 (List.mem_map.mp hm) fun m' hm' e=>?_;rw[←e]
   split
   ·simp;exact J376 hsu5
   ·have:=hmx5 m' hm';exact J377 this
  ·unfold setSu;rw[List.length_map];have:=ensC_len (cont ns') pr;rw[←hc5,cont_len,cont_len]at this;exact J500 hl4 this
 ·intro G' vs' led' sa E' hG nq118;obtain⟨ns',v1,v2,rfl,g4,hc4,hm4,hl4⟩:=nq118;intro S;refine xn (xn ?_);refine kk s1 G' _ _ _ _ ns' hs1k hs1s (hg3.trans hG) S g4 ?_ (fun n hn=>by rw[←hpl];exact hm4 n hn) (J497 hpl hl4);rw[hc4,hpl,List.take_length];rfl
end
section
variable{prog:Program}{w:World}{A:Around}{E:Value→Shared→Prop}{R:Result→Shared→Prop}{K:GH}{mg mb:Str→Option Value}{p0 p1 p2 p3:Value}{r:Shared}{own:Str→Bool}{G:GH}{env:Env}{vs vs':Vs}{led led' rest:List (Addr×Obj)}{s:Shared}{Q:Value→Shared→Prop}{Fg:Frag}{dV:Addr}
theorem forS{target:Expr}{body orelse:List Stmt}{Q:Flow→Shared→Prop}{E₀:Value→Shared→Prop}{it:Value}{n:Nat}{P:Nat→List Value→Prop}{O:Nat→List (Addr×Obj)→Prop}{os:List (Addr×Obj)}
 (W:∀G',GLe G G'→Src prog w A G' env target it n P O) (J:Nat→GH→Vs→List (Addr×Obj)→Prop) (S:St K r own G env vs (os++led) s) (h0:O 0 os) (j0:J 0 G vs led)
 (step:∀i ws G' vs' led' os' s E',i<n→P i ws→GLe G G'→J i G' vs' led'→St K r own G' env vs' (os'++led') s→
  wpAny (model prog w) A (putOf target env ws) (fun _ s₂=>wpAny (model prog w) A (execs body env) (fun f s₃=>match f with
   | .next=>∃G₃ vs₃ led₃,GLe G' G₃∧St K r own G₃ env vs₃ (os'++led₃) s₃∧J (i+1) G₃ vs₃ led₃
   | .cont=>∃G₃ vs₃ led₃,GLe G' G₃∧St K r own G₃ env vs₃ (os'++led₃) s₃∧J (i+1) G₃ vs₃ led₃
   | .brk=>Q .next s₃| .ret v=>Q (.ret v) s₃) E' s₂) E' s)
 (done:∀G' vs' led' s E',GLe G G'→J n G' vs' led'→St K r own G' env vs' led' s→wpAny (model prog w) A (execs orelse env) (fun f s₃=>Q f s₃) E' s):
 codeAny (model prog w) A (.forLoop target it body orelse env) (fun r s'=>match r with| .ok f=>Q f s'| .error e=>cameBackBy (model prog w) A env E₀ e s') s:=by
 refine forLoop_go (fun k s=>∃i G' vs' led' os',i≤n∧k=n-i∧GLe G G'∧O i os'∧St K r own G' env vs' (os'++led') s∧J i G' vs' led') ?_ n ⟨0,G,vs,led,os,Nat.zero_le _,rfl,GLe.refl G,h0,S,j0⟩;intro k s nq119;obtain⟨i,G',vs',led',os',hi,rfl,hG,hO,S,hJ⟩:=nq119;by_cases hlt:i<n
 ·refine wpAny_mono ((W G' hG).item i s os' ?q _ hlt S.sub S.parts.1 S.parts.2 hO fun ws os'' h' tk hP hO' hn ho' hk=>?go) (fun r s₁ h=>?out) fun _ _ x=>x
  case out=>
   obtain⟨v,e,h⟩:=h;subst e;exact h
  have S':=S.turn (t:=tk) hn ho' hk;refine wpAny_mono (step i ws G' vs' led' os'' _ _ hlt hP hG hJ S') (fun _ s₂ h₂=>wpAny_mono h₂ (fun f s₃ h₃=>?_) fun _ _ e=>e) fun _ _ e=>e;cases f with
  |next=>refine x3_2 h₃ fun G₃ vs₃ led₃ g S₃ j=>?_;clear h₃;exact⟨n-(i+1),J211 hlt,i+1,G₃,vs₃,led₃,os'',hlt,rfl,hG.trans g,hO',S₃,j⟩
  |cont=>refine x3_2 h₃ fun G₃ vs₃ led₃ g S₃ j=>?_;clear h₃;exact⟨n-(i+1),J211 hlt,i+1,G₃,vs₃,led₃,os'',hlt,rfl,hG.trans g,hO',S₃,j⟩
  |brk=>exact h₃
  |ret v=>exact h₃
 ·have:i=n:=J326 hi hlt;subst this;exact(W G' hG).done s os' _ _ S.sub S.parts.1 S.parts.2 hO fun h' tk hk=>done G' vs' led' _ _ hG hJ (S.cut hk)
noncomputable abbrev itmO(d:Addr)(i n ep:Nat)(ok ov:Value):Obj:={cls:=.type "dict_itemiterator",dict:=none,data:=.fields #[.none,.bool false,.ref d,.int i 0,.int n 0,.int ep 0,ok,ov],slots:= #[]}
theorem Src.items{G0:GH}(hg:GLe G0 G)(hA:A.handled=none){it d:Addr}{kvs:List (Int×Value)}{od:Obj}{es:Array DictEntry}{ep:Nat}(hd:G0 d=some od)(hx:od.ExactDict)(hdat:od.data=.dict es ep)(hks:KeysOf (intKind prog w) es)(hps:Pairs (intKind prog w) es.toList kvs)(hn:(kvs.map (·.1)).Nodup)
 {e1 e2:Expr} {k:Nat} {pos:Pos} (har:(assignEach [e1,e2] env).length=2:=by rfl) (hstar:(assignEach [e1,e2] env).findIdx? (·.1)=none:=by rfl):
 Src prog w A G env (.Tuple [e1,e2] k pos) (.ref it) kvs.length (fun i ws=>∃a t v,kvs[i]? =some (a,v)∧ws=[.int a t,v]) (fun i os=>∃ok ov,os=[(it,itmO d i kvs.length ep ok ov)]) where
 item:=by
  intro i s os Q E hi hG ho hnd nq120;obtain⟨ok,ov,rfl⟩:=nq120;intro kk;have gi:=ho _ (.head _);have hdh:s.heap.DictAt (intKind prog w) d kvs ep:=⟨od,es,hG _ _ (hg _ _ hd),hx,hdat,hks,hps,hn⟩;obtain⟨⟨a,v⟩,hkv⟩:∃p,kvs[i]? =some p:=⟨kvs[i],List.getElem?_eq_getElem hi⟩;refine wpAny_pyNext_items_item gi.1 hdh hkv fun key h' hkey a1 a2 a3 a4=>⟨_,rfl,?_⟩;obtain⟨t,rfl⟩:∃t,key=.int a t:=by
   cases key with
   |int b t=>simp[intKind,Value.isInt]at hkey;exact⟨t,by rw[hkey]⟩
   |_=>simp[intKind,Value.isInt]at hkey
  refine wpAny_letOwnedTupleGo_items a1 fun h'' hz' hs'=>?_;have hne:s.heap.objs.size≠it:=Nat.ne_of_gt (Heap.lt_size gi.1);have hT:h''.get? s.heap.objs.size=some (tupOf #[.int a t,v] 0):=(hs'.2 _ hne).trans a2;refine wpAny_assign_Tuple (items:= #[.int a t,v]) hA ⟨_,hT,rfl,0,rfl⟩ (by rw[har];rfl) hstar fun h3 he=>?_;have keep3:∀c o,h''.get? c=some o→h3.get? c=some o:=fun c o e=>he c o (Nat.ne_of_lt (Heap.lt_size e)) e;refine kk [.int a t,v] [(it,itmO d (i+1) kvs.length ep (.int a t) v)] h3 s.toks ⟨a,t,v,hkv,rfl⟩ ⟨_,_,rfl⟩ rfl (fun p hp=>?_) fun c o hc e=>?_
  ·rw[List.mem_singleton]at hp;subst hp;exact keep3 _ _ hz'
  ·have hc':c≠it:=by simpa using hc
   exact keep3 _ _ ((hs'.2 _ hc').trans (a4 _ _ hc' e))
 done:=by
  intro s os Q E hG ho hnd nq121;obtain⟨ok,ov,rfl⟩:=nq121;intro kk;have gi:=ho _ (.head _);have hdh:s.heap.DictAt (intKind prog w) d kvs ep:=⟨od,es,hG _ _ (hg _ _ hd),hx,hdat,hks,hps,hn⟩;refine wpAny_pyNext_items_end hA gi.1 hdh (by simp) fun h' hk=>kk h' _ fun c o hc e=>hk c o (by simpa using hc) e
theorem items_it(S:St K r own G env vs led s){d:Addr}{kvs:List (Int×Value)}{od:Obj}{es:Array DictEntry}{ep:Nat}(hlow:(d==sysModules)=false)(hd:s.heap.get? d=some od)(hx:od.ExactDict)(hdat:od.data=.dict es ep)(hks:KeysOf (intKind prog w) es)(hps:Pairs (intKind prog w) es.toList kvs)(hn:(kvs.map (·.1)).Nodup)
 (h:∀it s',St K r own G env vs ((it,itmO d 0 kvs.length ep .none .none)::led) s'→Q (.ref it) s'):
 wpAny (model prog w) A (call (.builtin "dict.items") [.ref d]) (fun x s₁=>wpAny (model prog w) A (pyIter x) Q E s₁) E s:=by
 have hD:s.heap.DictOf (intKind prog w) d kvs:=Heap.dictOf_iff.mpr ⟨od,hd,es,ep,hx,hdat,hks,hps,hn⟩;refine call_meetsIn F.slot_dict_items hD.typeIs F.entry_dict_items (F.args_dict_items_1 _) (meets_dict_items (intKind prog w) d hlow) ⟨⟨kvs,hD⟩,?_⟩;have S1:=S.push {cls:=.type "dict_items",data:=.fields #[.ref d]} s.toks;refine wpAny_pyIter_items (kvs:=kvs) (ep:=ep) (knd:=intKind prog w) ⟨_,S1.get (.head _),rfl,rfl⟩ ⟨od,es,Heap.get?_push_of_some _ hd,hx,hdat,hks,hps,hn⟩ ?_;exact h _ _ ((S1.push _ s.toks).perm (.swap ..)).drop
theorem star_lst{l:Addr}{its:List Value}{n:Nat}{Q:List Value→Shared→Prop}(S:St K r own G env vs led s)(hl:s.heap.get? l=some (listOf its.toArray n))(hz:its.length<1000)(h:∀s',St K r own G env vs led s'→Q its s'):StarOf (model prog w) A E (.ref l) Q s:=by
 have hT:s.TypeIs (.ref l) "list" :=⟨_,hl,rfl⟩;unfold StarOf notIterableAtAll;refine wpAny_bind (wpAny_specialOf hT F.slot_list_iter.lookup (wpAny_pure ⟨rfl,?_⟩));refine wpAny_collect_seq l (.inl rfl) hl rfl rfl (fun h' hk=>?_) (by simpa using Nat.le_trans (Nat.le_of_lt hz) (by decide));have:=h _ (S.keep (t:=s.toks) hk);simpa using this
theorem findObj_meth{C f:Addr}{name:Str}{od:Obj}(c:(clsIn Fg C).isSome=true)(l:MethOk Fg C name f)(hl:lookIn name od=some none)(hcp:copiedNames.contains name=false):findObj Fg C (some od) name=some (.bind (.builtin "function.__get__") (.ref f)):=by
 obtain⟨cd,hc⟩:=Option.isSome_iff_exists.mp c;unfold findObj;rw[hc,Option.bind_some,l.fi,Option.bind_some];have ho:W.ownOf cd (some od) name=some none:=by unfold W.ownOf;split<;>first|exact hl|rfl
 show(specialIn Fg (.ref f) "__get__").bind _=_;rw[l.sg,Option.bind_some];show(takesIn Fg (.ref f)).bind _=_;rw[l.tk,Option.bind_some];show(W.ownOf cd (some od) name).bind _=_;rw[ho,Option.bind_some];exact if_neg (by rw[hcp];simp)
theorem starM{C init f:Addr}{name:Str}{o e1 e2:Expr}{apos pos spos:Pos}(X:FgIn Fg K)(c:ClsOk Fg C init)(l:MethOk Fg C name f)(hcp:copiedNames.contains name=false)
 (h:wpAny (model prog w) A (eval o env) (fun ov s₁=>∃x ox od r own G vs led,ov=.ref x∧St K r own G env vs led s₁∧InstAt s₁.heap x ox C (some od)∧lookIn name od=some none∧
  ∀q s₂,St K r own G env vs ((q,methodObj (.ref f) (.ref x))::led) s₂→wpAny (model prog w) A (spliced (backTo pos (starEach [e1,.Starred e2 spos] env))) (fun vals s₃=>s₃.heap.get? q=some (methodObj (.ref f) (.ref x))∧Fg.In s₃.heap∧codeAny (model prog w) A (.call (.ref f) ⟨.ref x::vals,[]⟩) (crq Q E) s₃) E s₂) E s)
 (he:starEach [e1,.Starred e2 spos] env=(false,eval e1 env)::starEach [.Starred e2 spos] env:=by rfl)
 (hb:attributeBase o name env (eval o env)=eval o env:=by rfl):
 wpAny (model prog w) A (eval (.Call (.Attribute o name apos) [e1,.Starred e2 spos] [] pos) env) Q E s:=by
 rw[arm_eval_Call,hb];refine wpAny_bind (wpAny_mono h (fun ov s₁ h=>?_) fun _ _ x=>x);obtain⟨x,ox,od,r,own,G,vs,led,rfl,S,I,hl,h⟩:=h;refine wpAny_bind (wpAny_standAt ?_);have hst:methodCallForm ([e1,.Starred e2 spos].length+([]:List Keyword).length) (backTo pos (starEach [e1,.Starred e2 spos] env)) (backToKw pos (keywordEach [] env))=false:=by rw[he];rfl
 unfold methodCall calleeOf methodCallPos;rw[hst];show wpAny _ _ (holding [.ref x] (getAttr (.ref x) name true >>=fun g=>pure (g,[]))>>=_) _ _ _;refine wpAny_bind (wpAny_holding (wpAny_bind ?_));refine get_bind (S.fg X) I c.ga (findObj_meth c.isc l hl hcp) c.gk (wpAny_call (fn_get (s:={s₁ with toks:=s₁.toks+1}) (S.fg X) l.ft (handed_on rfl (wpAny_pure ?_))));have S1:=(S.tok (s₁.toks+1)).push (methodObj (.ref f) (.ref x)) (s₁.toks+1);have h1:=h _ _ S1;show wpAny _ _ (pure pos >>=_) _ _ _;refine wpAny_bind (wpAny_pure ?_);show wpAny _ _ (callWith pos (.ref _) [] (backTo pos (starEach [e1,.Starred e2 spos] env)) []) _ _ _;rw[he]at h1⊢;refine ks_call (P:=MethP Fg _ f (.ref x)) rfl (keeps_M l.fn) (evalArgs_plain (wpAny_mono h1 (fun vals s₃ h=>⟨⟨h.1,h.2.1⟩,wpAny_call (method_call h.1 h.2.2)⟩) fun _ _ x=>x))
end
theorem init_fn(pm:Value)(dV:Addr):FnOg (fdOf (inCls (topSt 15) 0) "TopologicalSorter.__init__" (.ref dV) 125 pm) ["self","graph"] ["node","predecessors"] (bodyOf (inCls (topSt 15) 0)) where
 body:=rfl
 clo:=rfl
 gl:=rfl
 bi:=rfl
 fn:=rfl
 co:=rfl
 gen:=rfl
 ndS:=show((scopeOf (inCls (topSt 15) 0)).names.map (·.1)).Nodup by decide+kernel
 names:=names_ok (sc:=scopeOf (inCls (topSt 15) 0)) (by decide+kernel)
 nd:=by decide+kernel
def GraphIs(G:GH)(kvs:List (Int×Value))(gr:List (Nat×List Nat)):Prop:=kvs.length=gr.length∧∀(i:Nat) (k:Int) (v:Value),kvs[i]? =some (k,v)→∃(p:Nat×List Nat) (l:Addr) (its:List Value) (m:Nat),gr[i]? =some p∧k=(p.1:Int)∧v=.ref l∧G l=some (listOf its.toArray m)∧IntsAre its (p.2.map fun m:Nat=>(m:Int))
section
variable{prog:Program}{w:World}{K:GH}{mg mb:Str→Option Value}{p0 p1 p2 p3:Value}{Fg:Frag}{dV:Addr}
theorem init_bind{A:Around}(B:B3 Fg K mg mb p0 p1 p2 p3 dV){s:Shared}{a b:Value}(hK:∀x o,K x=some o→s.heap.get? x=some o)(Q:List (Str×Value)→Shared→Prop)(E:Value→Shared→Prop)(hQ:Q [((Str.ofString "self" :Str),a),("graph",b)] s):
 wpAny (model prog w) A (bindArgs (fdOf (inCls (topSt 15) 0) "TopologicalSorter.__init__" (.ref dV) 125 p1) ⟨[a,b],[]⟩) Q E s:=by
 obtain⟨n,hd⟩:=B.dInit;have hd:=hK _ _ hd;show wpAny _ _ (seqItems? (.ref dV)>>=_) _ _ s;refine wpAny_bind (wpAny_seqItems hd rfl ?_);exact wpAny_pure hQ
theorem nodup2{α:Type}{a b:α}(h:a≠b):[a,b].Nodup:=by simp[h]
theorem sorter_ok{A:Around}(B:B3 Fg K mg mb p0 p1 p2 p3 dV)(hA:Rm 16 A){s:Shared}{gd:Addr}{og:Obj}{es:Array DictEntry}{ep:Nat}{kvs:List (Int×Value)}{gr:List (Nat×List Nat)}{R:Result→Shared→Prop}
 (hK:∀a o,K a=some o→s.heap.get? a=some o) (hlow:(gd==sysModules)=false) (hg:s.heap.get? gd=some og) (hx:og.ExactDict) (hdat:og.data=.dict es ep) (hks:KeysOf (intKind prog w) es) (hps:Pairs (intKind prog w) es.toList kvs) (hn:(kvs.map (·.1)).Nodup)
 (hgr:GraphIs s.heap.get? kvs gr) (hlen:gr.length≤7) (hpl:∀p∈gr,p.2.length≤7)
 (k:∀h t led2 x dS nD ns,(∀b o,s.heap.get? b=some o→h.get? b=some o)→(∀p∈led2,s.heap.get? p.1=none∧h.get? p.1=some p.2)→(led2.map (·.1)).Nodup→Gr prog w x dS nD .none 0 0 ns led2→cont ns=gr.foldl (fun c p=>addC c p.1 p.2) []→R (.ok (.ret (.ref x))) {s with heap:=h,toks:=t}):
 codeAny (model prog w) A (.call (.ref 190) ⟨[.ref gd],[]⟩) R s:=by
 refine make B.fgin B.cS hK fun x d h' hk hx0 hd0 hxd gx gd'=>?_;have hA1:=hA.under 190 [.ref gd];have hK1:∀a o,K a=some o→h'.get? a=some o:=fun a o e=>hk a o (hK a o e);have hKn:∀a,s.heap.get? a=none→K a=none:=fun a e=>by
  cases q:K a with
  |none=>rfl
  |some o=>have:=hK a o q;rw[e]at this;cases this
 refine enterG (s:={s with heap:=h'}) (s1:={s with heap:=h'}) (led:=[(x,instObj 190 d),(d,(emptyDict:Obj))]) B.toTp B.fInit (init_fn p1 dV) hA1.room (vals:=[.ref x,.ref gd]) rfl (vs:=[("self",some (.ref x)),("graph",some (.ref gd)),("node",none),("predecessors",none)]) rfl (fun _ _ e=>e)
  (fun Q E hQ=>init_bind B (s:={s with heap:=h'}) hK1 Q E hQ) hK1 ?_ (nodup2 hxd) fun env s' hkd hsc S=>?_
 ·intro p hp;simp only[List.mem_cons,List.not_mem_nil,or_false]at hp;rcases hp with rfl|rfl
  ·exact⟨gx,hKn _ hx0⟩
  ·exact⟨gd',hKn _ hd0⟩
 have hA':=hA1.deep env;have hold:∀b o,s.heap.get? b=some o→but [(x,instObj 190 d),(d,(emptyDict:Obj))] h' b=some o:=fun b o e=>but_at (hk b o e) (by
  simp only[List.map_cons,List.map_nil,List.mem_cons,List.not_mem_nil,or_false,not_or];exact⟨(fun z=>by rw[z,hx0]at e;cases e),(fun z=>by rw[z,hd0]at e;cases e)⟩)
 refine xc (plainObj_wpAny_Assign_Attribute (dnew S fun nD s₁ S=>?_));walk_at"name";have hnd:=S.nd;simp only[List.map_cons,List.map_nil,List.nodup_cons,List.mem_cons,List.not_mem_nil,or_false,not_or,not_false_eq_true,List.nodup_nil,and_true]at hnd;obtain⟨nq122,hxd'⟩:=hnd;obtain⟨hDx,hDd⟩:=nq122;have I1:∀{sl:Shared} {o:Obj},sl.heap.get? x=some (instObj 190 d)→sl.heap.get? d=some o→InstAt sl.heap x (instObj 190 d) 190 (some o):=fun h1 h2=>⟨h1,rfl,rfl,h2⟩;have hset:∀o o':Obj,setA [(nD,(emptyDict:Obj)),(x,instObj 190 d),(d,o)] d o'=[(nD,emptyDict),(x,instObj 190 d),(d,o')]:=by
  intro o o';unfold setA;simp[hDd,hxd]
 refine s_att (es:=[]) (n:=0) B.fgin B.cS B.aN2i S (I1 (S.get (by walk_at"mem")) (S.get (by walk_at"mem"))) rfl (by walk_at"mem") (by simp) rfl fun t1 s₁ S=>?_;rw[hset]at S;refine xc (plainObj_wpAny_Assign_Attribute (wpAny_Constant_none ?_));walk_at"name";refine s_att B.fgin B.cS B.aRdy S (I1 (S.get (by walk_at"mem")) (S.get (by walk_at"mem"))) rfl (by walk_at"mem") (by simp[putL]) (by kernel_rfl) fun t2 s₁ S=>?_;rw[hset]at S;refine xc (plainObj_wpAny_Assign_Attribute ?_);walk_at"int";intro t0 s₁ S;walk_at"name";have l2:putL "_ready_nodes" (PyData.keyHash w.params "_ready_nodes") (.str "_ready_nodes" t2) .none (putL "_node2info" (PyData.keyHash w.params "_node2info") (.str "_node2info" t1) (.ref nD) [])=[⟨PyData.keyHash w.params "_node2info",.str "_node2info" t1,.ref nD⟩,⟨PyData.keyHash w.params "_ready_nodes",.str "_ready_nodes" t2,.none⟩]:=by kernel_rfl
 rw[l2]at S;refine s_att B.fgin B.cS B.aPas S (I1 (S.get (by walk_at"mem")) (S.get (by walk_at"mem"))) rfl (by walk_at"mem") (by simp) (by kernel_rfl) fun t3 s₁ S=>?_;rw[hset]at S;have l3:putL "_npassedout" (PyData.keyHash w.params "_npassedout") (.str "_npassedout" t3) (.int 0 t0) [⟨PyData.keyHash w.params "_node2info",.str "_node2info" t1,.ref nD⟩,⟨PyData.keyHash w.params "_ready_nodes",.str "_ready_nodes" t2,.none⟩]=[⟨PyData.keyHash w.params "_node2info",.str "_node2info" t1,.ref nD⟩,⟨PyData.keyHash w.params "_ready_nodes",.str "_ready_nodes" t2,.none⟩,⟨PyData.keyHash w.params "_npassedout",.str "_npassedout" t3,.int 0 t0⟩]:=by kernel_rfl
 rw[l3]at S;refine xc (plainObj_wpAny_Assign_Attribute ?_);walk_at"int";intro t0' s₁ S;walk_at"name";refine s_att B.fgin B.cS B.aFin S (I1 (S.get (by walk_at"mem")) (S.get (by walk_at"mem"))) rfl (by walk_at"mem") (by simp) (by kernel_rfl) fun t4 s₁ S=>?_;rw[hset]at S;have l4:putL "_nfinished" (PyData.keyHash w.params "_nfinished") (.str "_nfinished" t4) (.int 0 t0') [⟨PyData.keyHash w.params "_node2info",.str "_node2info" t1,.ref nD⟩,⟨PyData.keyHash w.params "_ready_nodes",.str "_ready_nodes" t2,.none⟩,⟨PyData.keyHash w.params "_npassedout",.str "_npassedout" t3,.int 0 t0⟩]=sEs w t1 t2 t3 t4 (.ref nD) .none (.int 0 t0) (.int 0 t0'):=by kernel_rfl
 rw[l4]at S;generalize putN _ _ _=cc at S;have g0:Gr prog w x d nD .none 0 0 [] [(nD,(emptyDict:Obj)),(x,instObj 190 d),(d,dictOf (sEs w t1 t2 t3 t4 (.ref nD) .none (.int 0 t0) (.int 0 t0')) cc)]:=
  ⟨.tail _ (.head _),⟨t1,t2,t3,t4,t0,t0',cc,.tail _ (.tail _ (.head _))⟩,⟨emptyDict,.head _,empty_is⟩,(fun n hn=>nomatch hn),List.nodup_nil,List.nodup_nil,by simp,(fun n hn=>nomatch hn),Ne.symm hDd⟩
 refine xc (xif (xcmp ?_));walk_at"name";refine wpAny_Constant_none (wpAny_isNot_other rfl (by simp) (wpAny_truthy_bool ?_));refine if_t rfl ?_;refine xc (xfor (meth F.plainAttrs_dict F.slot_dict_items F.type_dict_items ?_));walk_at"name";have hgG:=hold _ _ hg;refine⟨gd,og,rfl,S.at hgG,hx.1,hx.2.1,callWith_method0 ?_⟩;refine items_it S hlow (S.at hgG) hx hdat hks hps hn fun it s₁ S=>?_;refine forS (os:=[(it,itmO gd 0 kvs.length ep .none .none)]) (fun G' hg'=>Src.items hg' hA'.hd hgG hx hdat hks hps hn) (fun i G' vs' led'=>∃ns v1 v2,vs'=([("self",some (.ref x)),("graph",some (.ref gd)),("node",v1),("predecessors",v2)]:Vs)∧
  Gr prog w x d nD .none 0 0 ns led'∧cont ns=(gr.take i).foldl (fun c p=>addC c p.1 p.2) []∧(∀m∈ns,m.su.length≤7*i)∧ns.length≤8*i) S ⟨_,_,rfl⟩ ⟨[],_,_,rfl,g0,rfl,(fun m hm=>nomatch hm),by simp⟩ ?_ ?_
 ·intro i ws G' vs' led' os' sa E' hi nq123;obtain⟨a,ta,v,hkv,rfl⟩:=nq123;intro hG nq124;obtain⟨ns,v1,v2,rfl,g4,hc4,hm4,hl4⟩:=nq124;intro S;refine x4_4 (hgr.2 i a v hkv) fun p l its m hp eq5=>?_;subst eq5;intro eq6;subst eq6;intro hl hI;have hi':i<gr.length:=by rw[←hgr.1];exact hi
  have hpp:=hpl p (List.mem_of_getElem? hp);have htake:(gr.take (i+1)).foldl (fun c p=>addC c p.1 p.2) []=addC (cont ns) p.1 p.2:=by
   rw[List.take_add_one,hp];simp only[Option.toList_some,List.foldl_append,List.foldl_cons,List.foldl_nil];rw[←hc4]
  have hitl:=hI.length;simp only[List.length_map]at hitl;refine put_cons (S.store (by walk_at"pv") (.inl rfl) fun sa S=>put_cons (S.store (by walk_at"pv") (.inl rfl) fun sa S=>put_nil ?_));refine xc (x_any S (starM B.fgin B.cS B.mAdd (by decide+kernel) ?_));walk_at"name";refine x7_1 (g4.sinst (h:=sa.heap) (fun p hp=>S.all p (List.mem_append_right _ hp))) fun y1 y2 y3 y4 y5 y6 y7 _ I'=>?_;refine⟨x,_,_,_,_,_,_,_,rfl,S,I',by kernel_rfl,fun q sa S=>arg ?_⟩;walk_at"name";refine items_star ?_;walk_at"name";have hlG:=hG _ _ (hold _ _ hl);refine star_lst S (S.at hlG) (J323 hitl hpp) fun sa S=>argE ?_;rw[List.append_nil];have S:St K _ yes G' env _ (((q,methodObj (.ref 140) (.ref x))::os')++led') sa:=S;have hh:=St.hand S;refine⟨S.get (.head _),S.fg B.fgin,add_ok B (hA'.le (by decide)) (fun a o e=>S.atK e) hh.1 hh.2.1 g4 hI (mx:=7*i) (J569 hi' hlen hpp hl4) hm4 (J530 hi' hlen hpp) fun s1 G2 env2 vs2 led2 s2 ns2 hs1 hs1' hG2 S2 g5 hc5 hm5 hl5=>?_⟩;refine x1_2 (St.backL S hs1 hs1' hG2 S2) fun G5 hg5 _ S=>?_;have S:St K _ yes G5 env _ ((q,methodObj (.ref 140) (.ref x))::(os'++led2)) s2:=S;refine xn ⟨G5,_,_,hg5,S.drop,ns2,_,_,rfl,g5,by rw[hc5,htake],fun n hn=>by have:=hm5 n hn;exact J515 this hpp,J563 hpp hl4 hl5⟩
 ·intro G' vs' led' sa E' hG nq125;obtain⟨ns,v1,v2,rfl,g4,hc4,hm4,hl4⟩:=nq125;intro S;refine xn (xn (xn ⟨rfl,?_⟩));have hkk:∀b o,s.heap.get? b=some o→sa.heap.get? b=some o:=fun b o e=>S.at (hG _ _ (hold b o e));have hne:∀p∈led',s.heap.get? p.1=none:=fun p hp=>by
   cases q:s.heap.get? p.1 with
   |none=>rfl
   |some o=>have:=(S.ld p hp).2.1;rw[hG _ _ (hold _ o q)]at this;cases this
  have hall:=S.all;have hnd:=S.nd;refine x2_0 S.same fun h₀ t₀ eq2=>?_;subst eq2;refine k h₀ t₀ led' x d nD ns hkk (fun p hp=>⟨hne p hp,hall p hp⟩) hnd g4 ?_;rw[hc4,hgr.1,List.take_length]
end
theorem meets_bool_lst(l:Addr)(items:List Value)(n:Nat)(hz:items.length<1000):
 Meets (Builtin.«bool.__new__» ⟨[.type "bool",.ref l],[]⟩) (fun _ R s=>s.heap.get? l=some (listOf items.toArray n)∧∀t,R (.ok (.ret (.bool (!items.isEmpty)))) {s with toks:=t}):=
 Meets.of_wp fun prog w A R s hs=>by
  obtain⟨hp,g,d,tk,os⟩:=s;obtain⟨hl,hs⟩:=hs;have f1:=F.conv_sub_bool;have hq:∀(A:Around) (Q:Bool→Shared→Prop) (E:Value→Shared→Prop),(∀t,Q (!items.isEmpty) ⟨hp,g,d,t,os⟩)→wpAny (model prog w) A (truthy (.ref l)) Q E ⟨hp,g,d,tk,os⟩:=fun A Q E h=>
   wpAny_truthy_list (items:=items.toArray) ⟨_,hl,rfl,n,rfl⟩ (by simpa using(J78 hz:(items.length:Int)<2^63)) (by simpa using h _)
  repeat(any_goals (first|assumption|(with_reducible refine hq _ _ _ fun t=>?_)|wp_step))
  all_goals first|exact⟨_,rfl,hs _⟩|exact hs _|skip
section
variable{prog:Program}{w:World}{A:Around}{E:Value→Shared→Prop}{R:Result→Shared→Prop}{K:GH}{mg mb:Str→Option Value}{p0 p1 p2 p3:Value}{r:Shared}{own:Str→Bool}{G:GH}{env:Env}{vs vs':Vs}{led led' rest:List (Addr×Obj)}{s:Shared}{Q:Value→Shared→Prop}{Fg:Frag}{dV:Addr}
theorem bool_lst(S:St K r own G env vs led s){l:Addr}{items:List Value}{n:Nat}(hl:s.heap.get? l=some (listOf items.toArray n))(hz:items.length<1000)(h:∀s',St K r own G env vs led s'→Q (.bool (!items.isEmpty)) s'):wpAny (model prog w) A (call (.type "bool") [.ref l]) Q E s:=
 call_bool_1 (meets_bool_lst l items n hz) ⟨hl,fun t=>show wants (fun obj s₁=>s₁.TypeIs obj "bool"∧Q obj s₁) E _ _ from⟨rfl,h _ (S.tok t)⟩⟩
theorem forL{target:Expr}{body orelse:List Stmt}{Q:Flow→Shared→Prop}{E₀:Value→Shared→Prop}{I l:Addr}{items:List Value}{m:Nat}(hA:A.handled=none)
 (J:Nat→GH→Vs→List (Addr×Obj)→Prop) (hJ:∀i G' vs' led',J i G' vs' led'→(l,listOf items.toArray m)∈led') (S:St K r own G env vs ((I,lsIt l 0)::led) s) (j0:J 0 G vs led)
 (step:∀i v G' vs' led' o s E' (N:Shared→Prop),i<items.length→items[i]? =some v→GLe G G'→(∀G₃ vs₃ led₃ s₃,GLe G' G₃→St K r own G₃ env vs₃ ((I,o)::led₃) s₃→J (i+1) G₃ vs₃ led₃→N s₃)→J i G' vs' led'→St K r own G' env vs' ((I,o)::led') s→
  wpAny (model prog w) A (assign target env v) (fun _ s₂=>wpAny (model prog w) A (execs body env) (fun f s₃=>match f with
   | .next=>N s₃
   | .cont=>N s₃
   | .brk=>Q .next s₃| .ret v=>Q (.ret v) s₃) E' s₂) E' s)
 (done:∀G' vs' led' s E',GLe G G'→J items.length G' vs' led'→St K r own G' env vs' led' s→wpAny (model prog w) A (execs orelse env) (fun f s₃=>Q f s₃) E' s)
 (hgo:∀v,letOwnedTupleGo target (.ref I) v=pure ():=by intro v;rfl):
 codeAny (model prog w) A (.forLoop target (.ref I) body orelse env) (fun r s'=>match r with| .ok f=>Q f s'| .error e=>cameBackBy (model prog w) A env E₀ e s') s:=by
 refine codeAny_forLoop (fun k s=>∃i G' vs' led' o,i≤items.length∧k=items.length-i∧GLe G G'∧o.cls=.type "list_iterator"∧o.data=.fields #[.ref l,.int i 0]∧St K r own G' env vs' ((I,o)::led') s∧J i G' vs' led') ?_ items.length ⟨0,G,vs,led,_,Nat.zero_le _,rfl,GLe.refl G,rfl,rfl,S,j0⟩ hgo;intro k s nq126;obtain⟨i,G',vs',led',o,hi,rfl,hG,hc,hd,S,hj⟩:=nq126;have hl:s.heap.IsList l items.toArray:=⟨_,S.get (.tail _ (hJ _ _ _ _ hj)),rfl,m,rfl⟩;by_cases hlt:i<items.length
 ·refine wpAny_pyNext_list_item (i:=i) (x:=items[i]) ⟨o,S.get (.head _),hc,hd⟩ hl (by simp[hlt]) fun h' ⟨o',x1,x2,x3⟩ hsb=>?_;have S':=S.up (t:=s.toks) .here hsb x1;refine wpAny_mono (step i items[i] G' vs' led' o' _ _ (fun s₃=>∃G₃ vs₃ led₃,GLe G' G₃∧St K r own G₃ env vs₃ ((I,o')::led₃) s₃∧J (i+1) G₃ vs₃ led₃) hlt (by simp[hlt]) hG (fun G₃ vs₃ led₃ _ h1 h2 h3=>⟨G₃,vs₃,led₃,h1,h2,h3⟩) hj S') (fun _ s₂ h₂=>wpAny_mono h₂ (fun f s₃ h₃=>?_) fun _ _ e=>e) fun _ _ e=>e;cases f with
  |next=>refine x3_2 h₃ fun G₃ vs₃ led₃ g S₃ j=>?_;clear h₃;exact⟨items.length-(i+1),J211 hlt,i+1,G₃,vs₃,led₃,o',hlt,rfl,hG.trans g,x2,x3,S₃,j⟩
  |cont=>refine x3_2 h₃ fun G₃ vs₃ led₃ g S₃ j=>?_;clear h₃;exact⟨items.length-(i+1),J211 hlt,i+1,G₃,vs₃,led₃,o',hlt,rfl,hG.trans g,x2,x3,S₃,j⟩
  |brk=>exact h₃
  |ret v=>exact h₃
 ·have:i=items.length:=J326 hi hlt;subst this;exact wpAny_pyNext_list_end hA ⟨o,S.get (.head _),hc,hd⟩ hl (by simp) fun h' h1=>done G' vs' led' _ _ hG hj (S.leave (t:=s.toks) fun b ob hb e=>h1 b ob hb e)
end
structure Rd(rl:Addr)(rd:List Nat)(ns:List Nd)(led:List (Addr×Obj)):Prop where
 at_:∃its m,(rl,listOf its.toArray m)∈led∧IntsAre its (rd.map fun m:Nat=>(m:Int))
 ne:∀n∈ns,n.L≠rl
 few:rd.length≤50
theorem act_fn(pm:Value):FnOk (fdOf (inCls (topSt 15) 5) "TopologicalSorter.is_active" .none 158 pm) ["self"] [] (bodyOf (inCls (topSt 15) 5)) where
 body:=rfl
 clo:=rfl
 gl:=rfl
 bi:=rfl
 fn:=rfl
 co:=rfl
 gen:=rfl
 bind:=by
  intro vals h;obtain⟨a,rfl⟩:=len1 h;rfl
 ndS:=show((scopeOf (inCls (topSt 15) 5)).names.map (·.1)).Nodup by decide+kernel
 names:=names_ok (sc:=scopeOf (inCls (topSt 15) 5)) (by decide+kernel)
 nd:=by decide+kernel
section
variable{prog:Program}{w:World}{K:GH}{mg mb:Str→Option Value}{p0 p1 p2 p3:Value}{Fg:Frag}{dV:Addr}
theorem act_ok{A:Around}(B:B3 Fg K mg mb p0 p1 p2 p3 dV)(hA:Rm 6 A){s:Shared}{xS dS nD rl:Addr}{np nf:Int}{ns:List Nd}{rd:List Nat}{led:List (Addr×Obj)}{R:Result→Shared→Prop}
 (hK:∀a o,K a=some o→s.heap.get? a=some o) (hl:∀p∈led,s.heap.get? p.1=some p.2∧K p.1=none) (nd:(led.map (·.1)).Nodup) (g:Gr prog w xS dS nD (.ref rl) np nf ns led) (gr:Rd rl rd ns led)
 (kk:∀G2 env2 vs2 s2,GLe (but led s.heap) G2→St K s yes G2 env2 vs2 led s2→R (.ok (.ret (.bool (decide (nf<np)|| !rd.isEmpty)))) s2):
 codeAny (model prog w) A (.call (.ref 159) ⟨[.ref xS],[]⟩) R s:=by
 refine enter (led:=led) B.toTp B.fAct (act_fn p1) hA.room rfl (vs:=[("self",some (.ref xS))]) rfl hK hl nd fun env s' hkd hsc S=>?_;have hA':=hA.deep env;have gl:Gl env ["bool"]:=Gl.of (sc:=scopeOf (inCls (topSt 15) 5)) hkd (by decide+kernel);refine xc (xif (xcmp (Attribute_Name_ ?_)));walk_at"name";refine selfA B B.aRdy S g fun t1 t2 t3 t4 tp tf=>⟨.ref rl,by kernel_rfl,rfl,fun s₁ S=>?_⟩;refine wpAny_Constant_none (is_ref_none (wpAny_truthy_bool ?_));refine if_f Bool.false_ne_true ?_;refine xn (xc (xret (BoolOp_or (wpAny_Compare1 (Attribute_Name_ ?_)))));walk_at"name";refine selfA B B.aFin S g fun t1 t2 t3 t4 tp tf=>⟨.int nf tf,by kernel_rfl,rfl,fun s₁ S=>Attribute_Name_ ?_⟩;walk_at"name";refine selfA B B.aPas S g fun t1 t2 t3 t4 tp tf=>⟨.int np tp,by kernel_rfl,rfl,fun s₁ S=>?_⟩;refine P.lt_int (wpAny_truthy_bool ?_);by_cases hlt:nf<np
 ·refine if_t (by simpa using hlt) ?_;have:=kk _ _ _ _ (GLe.refl _) S;show R _ _;simpa[hlt]using this
 ·refine if_f (by simpa using hlt) ?_;refine BoolOp_one (ctyp S B.toTp gl B.b_bool (by walk_at"mem") (arg (Attribute_Name_ ?_)));walk_at"name";refine selfA B B.aRdy S g fun t1 t2 t3 t4 tp tf=>⟨.ref rl,by kernel_rfl,rfl,fun s₁ S=>argE ?_⟩;refine x2_1 gr.at_ fun its m hm hI=>?_
  have hil:=hI.length;have hfew:=gr.few;simp only[List.length_map]at hil;refine bool_lst S (S.get hm) (J310 hil hfew) fun s₁ S=>?_;have:=kk _ _ _ _ (GLe.refl _) S;have e:its.isEmpty=rd.isEmpty:=by cases its<;>cases rd<;>simp_all
  show R _ _;simpa[hlt,e]using this
end
theorem rdy_fn(pm:Value):FnOk (fdOf (inCls (topSt 15) 4) "TopologicalSorter.get_ready" .none 151 pm) ["self"] ["result","n2i","node"] (bodyOf (inCls (topSt 15) 4)) where
 body:=rfl
 clo:=rfl
 gl:=rfl
 bi:=rfl
 fn:=rfl
 co:=rfl
 gen:=rfl
 bind:=by
  intro vals h;obtain⟨a,rfl⟩:=len1 h;rfl
 ndS:=show((scopeOf (inCls (topSt 15) 4)).names.map (·.1)).Nodup by decide+kernel
 names:=names_ok (sc:=scopeOf (inCls (topSt 15) 4)) (by decide+kernel)
 nd:=by decide+kernel
noncomputable def putC(c:Cn)(k:Nat)(v:Int):Cn:=c.map fun e=>if e.1=k then(e.1,v,e.2.2)else e
theorem cont_put(ns:List Nd)(k:Nat)(v:Int):cont (setNp ns k v)=putC (cont ns) k v:=by
 unfold cont setNp putC;rw[List.map_map,List.map_map];refine List.map_congr_left fun a ha=>?_;show((if a.k=k then{a with np:=v}else a).k,(if a.k=k then{a with np:=v}else a).np,(if a.k=k then{a with np:=v}else a).su)=if a.k=k then(a.k,v,a.su)else(a.k,a.np,a.su)
 by_cases h:a.k=k<;>simp[h]
theorem putC_keys(c:Cn)(k:Nat)(v:Int):(putC c k v).map (·.1)=c.map (·.1):=by
 unfold putC;rw[List.map_map];refine List.map_congr_left fun a _=>?_;show(if a.1=k then(a.1,v,a.2.2)else a).1=a.1
 split<;>rfl
section
variable{prog:Program}{w:World}{A:Around}{E:Value→Shared→Prop}{R:Result→Shared→Prop}{K:GH}{mg mb:Str→Option Value}{p0 p1 p2 p3:Value}{r:Shared}{own:Str→Bool}{G:GH}{env:Env}{vs vs':Vs}{led led' rest:List (Addr×Obj)}{s:Shared}{Q:Value→Shared→Prop}{Fg:Frag}{dV:Addr}
theorem tup_of(S:St K r own G env vs led s){l:Addr}{its:List Value}{n:Nat}(hl:s.heap.get? l=some (listOf its.toArray n))(hz:its.length<1000)(h:∀T s',St K r own G env vs ((T,tupOf its.toArray 0)::led) s'→Q (.ref T) s'):wpAny (model prog w) A (call (.type "tuple") [.ref l]) Q E s:=by
 refine call_tuple_list (items:=its.toArray) ⟨_,hl,rfl,n,rfl⟩ (fun h' hk=>?_) (by simpa using Nat.le_trans (Nat.le_of_lt hz) (by decide));exact h _ _ ((S.keep (t:=s.toks) hk).push (tupOf its.toArray 0) s.toks)
theorem clr_lst{l:Addr}{its:List Value}{n:Nat}(S:St K r own G env vs led s)(hm:(l,listOf its.toArray n)∈led)(hz:its.length<1000)(h:∀n' s',St K r own G env vs (setA led l (listOf ([]:List Value).toArray n')) s'→Q .none s'):
 wpAny (model prog w) A (call (.builtin "list.clear") [.ref l]) Q E s:=by
 have h0:=S.get hm;obtain⟨n',S'⟩:=S.seq (items:=its) (led':=fun n'=>setA led l (listOf ([]:List Value).toArray n')) (fun _=> #[]) [] rfl s.toks fun n'=>Up.setA hm S.nd;exact call_meets F.slot_list_clear ⟨_,h0,rfl⟩ F.entry_list_clear (F.args_list_clear_1 _) (AutoSeq1.list_clear_list_0 l its.toArray n (by simpa using Nat.le_trans (Nat.le_of_lt hz) (by decide))) ⟨h0,h n' _ S'⟩
theorem Rd.x_ne{rl:Addr}{rd:List Nat}{ns:List Nd}{xS dS nD:Addr}{rdy:Value}{np nf:Int}(q:Rd rl rd ns led)(g:Gr prog w xS dS nD rdy np nf ns led)(hl:(led.map (·.1)).Nodup):xS≠rl∧dS≠rl∧nD≠rl∧(∀n∈ns,n.x≠rl∧n.d≠rl∧n.L≠rl):=by
 refine x2_1 q.at_ fun its m hm _=>?_
 refine x7_0 g.sd fun t1 t2 t3 t4 tp tf c hs=>?_;refine x1_1 g.n2i fun o ho hod=>?_;refine⟨fun e=>?_,fun e=>?_,fun e=>?_,fun n hn=>⟨fun e=>?_,fun e=>?_,q.ne n hn⟩⟩
 ·have h:=g.inst;rw[e]at h;have:=led_inj hl h hm;injection this with h;cases h
 ·rw[e]at hs;have:=led_inj hl hs hm;injection this with h;injection h with h;exact absurd h (by decide)
 ·rw[e]at ho;have:=led_inj hl ho hm;refine x2_2 hod fun es ep hx hd' _=>?_;clear hod;rw[this]at hd';cases hd'
 ·obtain⟨_,nq127,_⟩:=g.nd n hn;obtain⟨u1,u2,b⟩:=nq127;rw[e]at b;have:=led_inj hl b hm;injection this with h;cases h
 ·have h:=(g.nd n hn).1;rw[e]at h;have:=led_inj hl h hm;injection this with h;injection h with h;exact absurd h (by decide)
theorem Gr.other{ns:List Nd}{xS dS nD a:Addr}{o:Obj}{rdy:Value}{np nf:Int}(g:Gr prog w xS dS nD rdy np nf ns led)(h1:xS≠a)(h2:dS≠a)(h3:nD≠a)(h4:∀n∈ns,n.x≠a∧n.d≠a∧n.L≠a):Gr prog w xS dS nD rdy np nf ns (setA led a o):=by
 obtain⟨g1,nq128,nq129,g4,g5,g6,g7,g8,g9⟩:=g;obtain⟨t1,t2,t3,t4,tp,tf,n,hs⟩:=nq128;obtain⟨o',ho,hd⟩:=nq129;refine⟨setA_other g1 h1,⟨t1,t2,t3,t4,tp,tf,n,setA_other hs h2⟩,⟨o',setA_other ho h3,hd⟩,fun n hn=>?_,g5,g6,g7,g8,g9⟩;obtain⟨a',nq130,its,m,c,e⟩:=g4 n hn;obtain⟨u1,u2,b⟩:=nq130;refine x0_2 (h4 n hn) fun q1 q2 q3=>?_;exact⟨setA_other a' q2,⟨u1,u2,setA_other b q1⟩,its,m,setA_other c q3,e⟩
theorem Gr.setS{ns:List Nd}{xS dS nD:Addr}{rdy rdy':Value}{np nf np' nf':Int}(g:Gr prog w xS dS nD rdy np nf ns led)(hl:(led.map (·.1)).Nodup){t1 t2 t3 t4 tp tf:Tok}{n:Nat}:Gr prog w xS dS nD rdy' np' nf' ns (setA led dS (dictOf (sEs w t1 t2 t3 t4 (.ref nD) rdy' (.int np' tp) (.int nf' tf)) n)):=by
 have hS:=g.S_ne hl;have hx:=fun n hn=>g.x_ne hl (n:=n) hn;have hL:=fun n hn=>g.L_ne hl (n:=n) hn;obtain⟨g1,nq131,nq132,g4,g5,g6,g7,g8,g9⟩:=g;obtain⟨u1,u2,u3,u4,vp,vf,c,hs⟩:=nq131;obtain⟨o',ho,hd⟩:=nq132;refine⟨setA_other g1 hS.1,⟨t1,t2,t3,t4,tp,tf,n,setA_mem (List.mem_map_of_mem (f:=(·.1)) hs)⟩,⟨o',setA_other ho (Ne.symm g9),hd⟩,fun n hn=>?_,g5,g6,g7,g8,g9⟩;obtain⟨a',nq133,its,m,c,e⟩:=g4 n hn;obtain⟨w1,w2,b⟩:=nq133;exact⟨setA_other a' (hS.2 n hn),⟨w1,w2,setA_other b (Ne.symm (hx n hn).1)⟩,its,m,setA_other c (Ne.symm (hL n hn).1),e⟩
theorem Rd.keep{rl a:Addr}{o:Obj}{rd:List Nat}{ns ns':List Nd}(q:Rd rl rd ns led)(ha:rl≠a)(hn:ns'.map (·.L)=ns.map (·.L)):Rd rl rd ns' (setA led a o):=by
 refine x2_1 q.at_ fun its m hm hI=>?_
 refine⟨⟨its,m,setA_other hm ha,hI⟩,fun n hn' e=>?_,q.few⟩;have:rl∈ns.map (·.L):=by rw[←hn,←e];exact List.mem_map_of_mem (f:=(·.L)) hn'
 refine x1_1 (List.mem_map.mp this) fun n2 h2 e2=>?_;exact q.ne n2 h2 e2
end
section
variable{prog:Program}{w:World}{K:GH}{mg mb:Str→Option Value}{p0 p1 p2 p3:Value}{Fg:Frag}{dV:Addr}
theorem put3(w:World)(h:Int)(t t1 t2 t3 t4:Tok)(a b c d v:Value):putL "_npassedout" h (.str "_npassedout" t) v (sEs w t1 t2 t3 t4 a b c d)=sEs w t1 t2 t3 t4 a b v d:=by kernel_rfl
theorem put4(w:World)(h:Int)(t t1 t2 t3 t4:Tok)(a b c d v:Value):putL "_nfinished" h (.str "_nfinished" t) v (sEs w t1 t2 t3 t4 a b c d)=sEs w t1 t2 t3 t4 a b c v:=by kernel_rfl
theorem put2(w:World)(h:Int)(t t1 t2 t3 t4:Tok)(a b c d v:Value):putL "_ready_nodes" h (.str "_ready_nodes" t) v (sEs w t1 t2 t3 t4 a b c d)=sEs w t1 t2 t3 t4 a v c d:=by kernel_rfl
theorem rdy_ok{A:Around}(B:B3 Fg K mg mb p0 p1 p2 p3 dV)(hA:Rm 8 A){s:Shared}{xS dS nD rl:Addr}{np nf:Int}{ns:List Nd}{rd:List Nat}{led:List (Addr×Obj)}{R:Result→Shared→Prop}
 (hK:∀a o,K a=some o→s.heap.get? a=some o) (hl:∀p∈led,s.heap.get? p.1=some p.2∧K p.1=none) (nd:(led.map (·.1)).Nodup) (g:Gr prog w xS dS nD (.ref rl) np nf ns led) (q:Rd rl rd ns led) (hin:∀k∈rd,k∈ns.map (·.k))
 (kk:∀G2 env2 vs2 led2 s2 ns2 T its,GLe (but led s.heap) G2→St K s yes G2 env2 vs2 led2 s2→Gr prog w xS dS nD (.ref rl) (np+rd.length) nf ns2 led2→Rd rl [] ns2 led2→cont ns2=rd.foldl (fun c k=>putC c k (-1)) (cont ns)→G2 T=some (tupOf its.toArray 0)→s.heap.get? T=none→IntsAre its (rd.map fun m:Nat=>(m:Int))→R (.ok (.ret (.ref T))) s2):
 codeAny (model prog w) A (.call (.ref 152) ⟨[.ref xS],[]⟩) R s:=by
 refine enter (led:=led) B.toTp B.fRdy (rdy_fn p1) hA.room rfl (vs:=[("self",some (.ref xS)),("result",none),("n2i",none),("node",none)]) rfl hK hl nd fun env s' hkd hsc S=>?_;have hA':=hA.deep env;have gl:Gl env ["tuple","_NODE_OUT","len"]:=Gl.of (sc:=scopeOf (inCls (topSt 15) 4)) hkd (by decide+kernel);refine xc (xif (xcmp (Attribute_Name_ ?_)));walk_at"name";refine selfA B B.aRdy S g fun t1 t2 t3 t4 tp tf=>⟨.ref rl,by kernel_rfl,rfl,fun s₁ S=>?_⟩;refine wpAny_Constant_none (is_ref_none (wpAny_truthy_bool ?_));refine if_f Bool.false_ne_true ?_;refine xn ?_;refine xc (a_name (ctyp S B.toTp gl B.b_tuple (by walk_at"mem") (arg (Attribute_Name_ ?_))));walk_at"name";refine selfA B B.aRdy S g fun t1 t2 t3 t4 tp tf=>⟨.ref rl,by kernel_rfl,rfl,fun s₁ S=>argE ?_⟩;refine x2_1 q.at_ fun its m hm hI=>?_
 have hil:=hI.length;have hfew:=q.few;simp only[List.length_map]at hil;refine tup_of S (S.get hm) (J310 hil hfew) fun T s₁ S=>?_;have hTn:s.heap.get? T=none:=by
  cases e:s.heap.get? T with
  |none=>rfl
  |some o=>
   have h1:=(S.ld _ (.head _)).2.1;have h2:=S.nd;rw[List.map_cons,List.nodup_cons]at h2;rw[but_at e h2.1]at h1;cases h1
 refine x1_2 S.ice fun G1 S g1 hT=>?_;refine S.store (by walk_at"pv") (.inl rfl) fun s₁ S=>?_;refine xc (a_name (Attribute_Name_ ?_));walk_at"name";refine selfA B B.aN2i S g fun t1 t2 t3 t4 tp tf=>⟨.ref nD,by kernel_rfl,rfl,fun s₁ S=>?_⟩;refine S.store (by walk_at"pv") (.inl rfl) fun s₁ S=>?_;refine xc (xfor ?_);walk_at"name";refine tup_it S (S.at hT) fun I s₁ S=>?_;refine forI (n:=its.length) (fun G' hg=>Itr.tuple hA'.hd (hg _ _ hT) I) (fun i G' vs' led'=>∃ns' v1,vs'=([("self",some (.ref xS)),("result",some (.ref T)),("n2i",some (.ref nD)),("node",v1)]:Vs)∧
  Gr prog w xS dS nD (.ref rl) np nf ns' led'∧Rd rl rd ns' led'∧cont ns'=(rd.take i).foldl (fun c k=>putC c k (-1)) (cont ns)∧ns'.map (·.k)=ns.map (·.k)) S ⟨rfl,rfl⟩ ⟨ns,_,rfl,g,q,rfl,rfl⟩ ?_ ?_
 ·intro i v G' vs' led' oi sa E' hi hv hG nq134;obtain⟨ns',v1,rfl,g4,q4,hc4,hk4⟩:=nq134;intro S;refine x2_1 (ints_get hI hv) fun a ta ha eq3=>?_;subst eq3;have hi':i<rd.length:=J419 hi hil;have ha:a=(rd[i]:Nat):=by
   rw[List.getElem?_map,List.getElem?_eq_getElem hi']at ha;simpa using ha.symm
  subst ha;have htake:(rd.take (i+1)).foldl (fun c k=>putC c k (-1)) (cont ns)=putC (cont ns') rd[i] (-1):=by
   rw[List.take_add_one,List.getElem?_eq_getElem hi'];simp only[Option.toList_some,List.foldl_append,List.foldl_cons,List.foldl_nil];rw[←hc4]
  have hmem:=hin rd[i] (List.getElem_mem hi');generalize rd[i]=nk at htake hmem⊢;rw[←hk4]at hmem;refine x1_1 (List.mem_map.mp hmem) fun n hn hnk=>?_;refine wpAny_assign_Name (S.store (by walk_at"pv") (.inl rfl) fun sa S=>?_);obtain⟨tO,hO⟩:=B.gOut;refine xc (plainObj_wpAny_Assign_Attribute (S.glob B.toTp hO (gl _ (by walk_at"mem")).2 (Subscript_ ?_)));walk_at"name";walk_at"name";refine x1_1 g4.n2i fun o ho hod=>?_;refine dget S (S.get (.tail _ ho)) hod int_is (valueAt_n2i g4.keys n hn hnk) fun sa S=>?_;obtain⟨hdm,nq135,_⟩:=g4.nd n hn;obtain⟨u1,u2,hxm⟩:=nq135;refine s_slot B.fgin B.cN B.sNp (by decide) S (inst_of (S.get (.tail _ hxm)) (S.get (.tail _ hdm))) (.tail _ hxm) rfl fun sa S=>?_;rw[putS_1]at S;have hIx:I≠n.x:=by
   have:=S.nd;rw[setA_names,List.map_cons,List.nodup_cons]at this;intro e;exact this.1 (by rw[e];exact List.mem_map_of_mem (f:=(·.1)) hxm)
  have hset:∀ob,setA ((I,oi)::led') n.x ob=(I,oi)::setA led' n.x ob:=by
   intro ob;show(if I=n.x then _ else _)::_=_;rw[if_neg hIx];rfl
  rw[hset]at S;have hnd5:(led'.map (·.1)).Nodup:=by
   have:=S.nd;rw[List.map_cons,List.nodup_cons,setA_names]at this;exact this.2
  have hq:=q4.x_ne g4 hnd5;refine xn ⟨G',_,_,GLe.refl _,S,setNp ns' n.k (-1),_,rfl,g4.setNp hnd5 hn,q4.keep (Ne.symm (hq.2.2.2 n hn).1) (setNp_f (·.L) (fun _ _=>rfl) _ _ _),by rw[cont_put,hnk,htake],by rw[setNp_f (·.k) (fun _ _=>rfl)];exact hk4⟩
 ·intro G' vs' led' sa E' hG nq136;obtain⟨ns',v1,rfl,g4,q4,hc4,hk4⟩:=nq136;intro S;refine xn ?_;have hT':=hG _ _ hT;refine xc (x_any S (meth F.plainAttrs_list F.slot_list_clear F.type_list_clear (Attribute_Name_ ?_)));walk_at"name";refine selfA B B.aRdy S g4 fun t1 t2 t3 t4 tp tf=>⟨.ref rl,by kernel_rfl,rfl,fun s₁ S=>?_⟩;refine x2_1 q4.at_ fun its4 m4 hm4 hI4=>?_
  have hil4:=hI4.length;simp only[List.length_map]at hil4;refine⟨rl,_,rfl,S.get hm4,rfl,rfl,callWith_method0 (clr_lst S hm4 (J310 hil4 hfew) fun n' s₁ S=>?_)⟩;have hnd4:(led'.map (·.1)).Nodup:=by have:=S.nd;rw[setA_names]at this;exact this
  refine x0_3 (q4.x_ne g4 hnd4) fun r1 r2 r3 r4=>?_;have g5:=g4.other (o:=listOf ([]:List Value).toArray n') r1 r2 r3 r4;have q5:Rd rl [] ns' (setA led' rl (listOf ([]:List Value).toArray n')):=⟨⟨[],n',setA_mem (List.mem_map_of_mem (f:=(·.1)) hm4),.nil⟩,q4.ne,by simp⟩;have hnd5:=S.nd;generalize setA led' rl (listOf ([]:List Value).toArray n')=led5 at S g5 q5 hnd5;refine xc (wpAny_AugAssign_AttributeAny ?_);walk_at"name";refine x7_1 (g5.sinst S.all) fun t1 t2 t3 t4 tp tf c hs I5=>?_;refine g_att B.fgin B.cS B.aPas S I5 (v:=.int np tp) (by kernel_rfl) rfl fun s₁ S=>?_;refine cblt S B.toTp gl B.b_len (by walk_at"mem") (arg ?_);walk_at"name";refine argE (len_tup S (S.at hT') (J450 hil hfew) fun t5 s₁ S=>?_);refine PySem.wpAny_iadd_int ?_;generalize s₁.toks=tt;have S:=S.tok (tt+1);refine s_att B.fgin B.cS B.aPas S ⟨S.get g5.inst,rfl,rfl,S.get hs⟩ rfl hs (by simp) (by kernel_rfl) fun t6 s₁ S=>?_;rw[put3]at S;have g6:=g5.setS (rdy':=.ref rl) (np':=np+(its.length:Int)) (nf':=nf) hnd5 (t1:=t1) (t2:=t2) (t3:=t3) (t4:=t4) (tp:=tt) (tf:=tf) (n:=putN "_npassedout" (sEs w t1 t2 t3 t4 (.ref nD) (.ref rl) (.int np tp) (.int nf tf)) c);have hq5:=q5.x_ne g5 hnd5;have q6:=q5.keep (a:=dS) (o:=dictOf (sEs w t1 t2 t3 t4 (.ref nD) (.ref rl) (.int (np+(its.length:Int)) tt) (.int nf tf)) (putN "_npassedout" (sEs w t1 t2 t3 t4 (.ref nD) (.ref rl) (.int np tp) (.int nf tf)) c)) (ns':=ns') (Ne.symm hq5.2.1) rfl;refine xc (xret ?_);walk_at"name";refine kk G' _ _ _ _ ns' T its (g1.trans hG) S (by rw[←hil];exact g6) q6 ?_ hT' hTn hI;rw[hc4,hil,List.take_length]
end
theorem done_fn(pm:Value):FnOg (fdOf (inCls (topSt 15) 7) "TopologicalSorter.done" .none 172 pm) ["self","nodes"] ["n2i","node","nodeinfo","stat","successor","successor_info"] (bodyOf (inCls (topSt 15) 7)) where
 body:=rfl
 clo:=rfl
 gl:=rfl
 bi:=rfl
 fn:=rfl
 co:=rfl
 gen:=rfl
 ndS:=show((scopeOf (inCls (topSt 15) 7)).names.map (·.1)).Nodup by decide+kernel
 names:=names_ok (sc:=scopeOf (inCls (topSt 15) 7)) (by decide+kernel)
 nd:=by decide+kernel
theorem done_bind(pm a b:Value):bindArgs (fdOf (inCls (topSt 15) 7) "TopologicalSorter.done" .none 172 pm) ⟨[a,b],[]⟩=(newTuple [b]>>=fun t=>pure [((Str.ofString "self" :Str),a),("nodes",t)]):=rfl
noncomputable def npOf(c:Cn)(k:Nat):Int:=((c.find? fun e=>e.1==k).map (·.2.1)).getD 0
noncomputable def suOf(c:Cn)(k:Nat):List Nat:=((c.find? fun e=>e.1==k).map (·.2.2)).getD []
noncomputable def doneS(q:Cn×List Nat)(j:Nat):Cn×List Nat:=(npC q.1 j (-1),if npOf (npC q.1 j (-1)) j=0 then q.2++[j]else q.2)
noncomputable def doneC(c:Cn)(rd:List Nat)(k:Nat):Cn×List Nat:=(suOf c k).foldl doneS (putC c k (-2),rd)
noncomputable def ids(ns:List Nd):List (Nat×Addr×Addr×Addr):=ns.map fun n=>(n.k,n.x,n.d,n.L)
theorem ids_np(ns:List Nd)(k:Nat)(v:Int):ids (setNp ns k v)=ids ns:=setNp_f (fun n=>(n.k,n.x,n.d,n.L)) (fun _ _=>rfl) ns k v
theorem ids_k(ns:List Nd):(ids ns).map (·.1)=ns.map (·.k):=by unfold ids;rw[List.map_map];rfl
theorem ids_L(ns:List Nd):(ids ns).map (·.2.2.2)=ns.map (·.L):=by unfold ids;rw[List.map_map];rfl
theorem ids_get{ns ns':List Nd}(h:ids ns'=ids ns){n:Nd}(hn:n∈ns):∃n'∈ns',n'.k=n.k∧n'.x=n.x∧n'.d=n.d∧n'.L=n.L:=by
 have h1:(n.k,n.x,n.d,n.L)∈ids ns':=by rw[h];exact List.mem_map.mpr ⟨n,hn,rfl⟩
 refine x1_1 (List.mem_map.mp h1) fun n' hn' e=>?_;injection e with e1 e2;injection e2 with e2 e3;injection e3 with e3 e4
 exact⟨n',hn',e1,e2,e3,e4⟩
theorem find_cont{ns:List Nd}(hk:(ns.map (·.k)).Nodup){n:Nd}(hn:n∈ns):(cont ns).find? (fun e=>e.1==n.k)=some (n.k,n.np,n.su):=by
 induction ns with
 |nil=>cases hn
 |cons a r ih=>
  rw[List.map_cons,List.nodup_cons]at hk;show List.find? _ ((a.k,a.np,a.su)::cont r)=_;rw[List.find?_cons];rcases List.mem_cons.mp hn with e|h1
  ·subst e;simp
  ·have:a.k≠n.k:=fun e=>hk.1 (by rw[e];exact List.mem_map_of_mem (f:=(·.k)) h1);have h2:(a.k==n.k)=false:=by simpa using this
   simp only[h2];exact ih hk.2 h1
theorem npOf_cont{ns:List Nd}(hk:(ns.map (·.k)).Nodup){n:Nd}(hn:n∈ns):npOf (cont ns) n.k=n.np:=by unfold npOf;rw[find_cont hk hn];rfl
theorem suOf_cont{ns:List Nd}(hk:(ns.map (·.k)).Nodup){n:Nd}(hn:n∈ns):suOf (cont ns) n.k=n.su:=by unfold suOf;rw[find_cont hk hn];rfl
section
variable{prog:Program}{w:World}{A:Around}{E:Value→Shared→Prop}{R:Result→Shared→Prop}{K:GH}{mg mb:Str→Option Value}{p0 p1 p2 p3:Value}{r:Shared}{own:Str→Bool}{G:GH}{env:Env}{vs vs':Vs}{led led' rest:List (Addr×Obj)}{s:Shared}{Q:Value→Shared→Prop}{Fg:Frag}{dV:Addr}
theorem Rd.snoc{rl:Addr}{rd:List Nat}{ns:List Nd}{its:List Value}{m:Nat}{k:Nat}(q:Rd rl rd ns led)(hm:rl∈led.map (·.1))(hI:IntsAre its ((rd++[k]).map fun m:Nat=>(m:Int)))(hf:rd.length<50):Rd rl (rd++[k]) ns (setA led rl (listOf its.toArray m)):=
 ⟨⟨its,m,setA_mem hm,hI⟩,q.ne,by simp;exact J99 hf⟩
theorem setA_skip{I:Addr}{oi o:Obj}{x:Addr}(h:I≠x):setA ((I,oi)::led) x o=(I,oi)::setA led x o:=by
 show(if I=x then _ else _)::_=_;rw[if_neg h];rfl
theorem St.head_ne{I:Addr}{oi:Obj}(S:St K r own G env vs ((I,oi)::led) s){x:Addr}{o:Obj}(h:(x,o)∈led):I≠x:=by
 have:=S.nd;rw[List.map_cons,List.nodup_cons]at this;intro e;exact this.1 (by rw[e];exact List.mem_map_of_mem (f:=(·.1)) h)
theorem St.tail_nd{I:Addr}{oi:Obj}(S:St K r own G env vs ((I,oi)::led) s):(led.map (·.1)).Nodup:=by
 have:=S.nd;rw[List.map_cons,List.nodup_cons]at this;exact this.2
end
noncomputable abbrev dnV(xS T nD:Addr)(v1 v2 v3 v4 v5:Option Value):Vs:=[("self",some (.ref xS)),("nodes",some (.ref T)),("n2i",some (.ref nD)),("node",v1),("nodeinfo",v2),("stat",v3),("successor",v4),("successor_info",v5)]
section
variable{prog:Program}{w:World}{K:GH}{mg mb:Str→Option Value}{p0 p1 p2 p3:Value}{Fg:Frag}{dV:Addr}
theorem done_ok{A:Around}(B:B3 Fg K mg mb p0 p1 p2 p3 dV)(hA:Rm 8 A){s:Shared}{xS dS nD rl:Addr}{np nf:Int}{ns:List Nd}{rd:List Nat}{led:List (Addr×Obj)}{k:Nat}{tk:Tok}{R:Result→Shared→Prop}
 (hK:∀a o,K a=some o→s.heap.get? a=some o) (hl:∀p∈led,s.heap.get? p.1=some p.2∧K p.1=none) (nd:(led.map (·.1)).Nodup) (g:Gr prog w xS dS nD (.ref rl) np nf ns led) (q:Rd rl rd ns led) {n0:Nd} (hn0:n0∈ns) (hk0:n0.k=k) (hout:n0.np= -1) (hin:∀j∈n0.su,j∈ns.map (·.k)) (hfew:rd.length+n0.su.length≤40)
 (kk:∀s1 G2 env2 vs2 led2 s2 ns2 rd2,(∀b o,s.heap.get? b=some o→s1.heap.get? b=some o)→(∃h t,s1={s with heap:=h,toks:=t})→GLe (but led s1.heap) G2→St K s1 yes G2 env2 vs2 led2 s2→Gr prog w xS dS nD (.ref rl) np (nf+1) ns2 led2→Rd rl rd2 ns2 led2→(cont ns2,rd2)=doneC (cont ns) rd k→ids ns2=ids ns→R (.ok (.ret .none)) s2):
 codeAny (model prog w) A (.call (.ref 173) ⟨[.ref xS,.int k tk],[]⟩) R s:=by
 have hk1:∀b o,s.heap.get? b=some o→(s.heap.push (tupOf [Value.int k tk].toArray 0)).get? b=some o:=fun b o e=>Heap.get?_push_of_some _ e;refine enterG (led:=led) (s1:={s with heap:=s.heap.push (tupOf [Value.int k tk].toArray 0)}) B.toTp B.fDone (done_fn p1) hA.room (vals:=[.ref xS,.ref s.heap.objs.size]) rfl (vs:=[("self",some (.ref xS)),("nodes",some (.ref s.heap.objs.size)),("n2i",none),("node",none),("nodeinfo",none),("stat",none),("successor",none),("successor_info",none)]) rfl hk1 ?_ hK (fun p hp=>⟨hk1 _ _ (hl p hp).1,(hl p hp).2⟩) nd fun env s' hkd hsc S=>?_
 ·intro Q E hQ;rw[done_bind];exact wpAny_bind (wpAny_newTuple (wpAny_pure hQ) (by show 1≤sizeLine;decide))
 have hT:but led (s.heap.push (tupOf [Value.int k tk].toArray 0)) s.heap.objs.size=some (tupOf [Value.int k tk].toArray 0):=by
  refine but_at (Heap.get?_push_size _ rfl) fun hm=>?_;refine x1_1 (List.mem_map.mp hm) fun p hp e=>?_;have:=Heap.lt_size (hl p hp).1;rw[e]at this;exact Nat.lt_irrefl _ this
 generalize s.heap.objs.size=T at hT S⊢;generalize hs1:({s with heap:=s.heap.push (tupOf [Value.int k tk].toArray 0)}:Shared)=s1 at S hT⊢;have hs1k:∀b o,s.heap.get? b=some o→s1.heap.get? b=some o:=by rw[←hs1];exact hk1
 have hs1s:∃h t,s1={s with heap:=h,toks:=t}:=⟨_,_,hs1.symm⟩;have hT:but led s1.heap T=some (tupOf [Value.int k tk].toArray 0):=by rw[←hs1];exact hT
 clear hs1 hk1;have hA':=hA.deep env;have gl:Gl env ["ValueError","_NODE_OUT","_NODE_DONE"]:=Gl.of (sc:=scopeOf (inCls (topSt 15) 7)) hkd (by decide+kernel);refine xc (xif (xcmp (Attribute_Name_ ?_)));walk_at"name";refine selfA B B.aRdy S g fun t1 t2 t3 t4 tp tf=>⟨.ref rl,by kernel_rfl,rfl,fun s₁ S=>?_⟩;refine wpAny_Constant_none (is_ref_none (wpAny_truthy_bool ?_));refine if_f Bool.false_ne_true ?_;refine xn ?_;refine xc (a_name (Attribute_Name_ ?_));walk_at"name";refine selfA B B.aN2i S g fun t1 t2 t3 t4 tp tf=>⟨.ref nD,by kernel_rfl,rfl,fun s₁ S=>?_⟩;refine S.store (by walk_at"pv") (.inl rfl) fun s₁ S=>?_;refine xc (xfor ?_);walk_at"name";refine tup_it S (S.at hT) fun I s₁ S=>?_;refine forN (n:=[Value.int k tk].length) (fun G' hg=>Itr.tuple hA'.hd (hg _ _ hT) I) (fun i G' vs' led'=>∀P:Prop,(∀v1 v2 v3 v4 v5,vs'=dnV xS T nD v1 v2 v3 v4 v5→
  ((i=0∧led'=led)∨(i=1∧∃ns2 rd2,Gr prog w xS dS nD (.ref rl) np (nf+1) ns2 led'∧Rd rl rd2 ns2 led'∧(cont ns2,rd2)=doneC (cont ns) rd k∧ids ns2=ids ns))→P)→P) S ⟨rfl,rfl⟩ (fun _ k=>k _ _ _ _ _ rfl (.inl ⟨rfl,rfl⟩)) ?_ ?_
 ·refine fun i v G' vs' led' oi sa E' N hi hv hG hN hJ S=>hJ _ fun v1 v2 v3 v4 v5 ev hcase=>?_;clear hJ;subst ev;have hi0:i=0:=by simp at hi;exact hi
  subst hi0;have hcase:led'=led:=by
   rcases hcase with⟨_,e⟩|⟨h,_⟩
   ·exact e
   ·cases h
  rw[hcase]at S;clear hcase;have hv:v=.int k tk:=by simpa using hv.symm
  subst hv;refine wpAny_assign_Name (S.store (by walk_at"pv") (.inl rfl) fun sa S=>?_);have S:St K s1 yes G' env (dnV xS T nD _ _ _ _ _) _ sa:=S;refine x1_1 g.n2i fun o ho hod=>?_;refine xc (xif (xcmp (wpAny_NamedExpr (meth F.plainAttrs_dict F.slot_dict_get F.type_dict_get ?_))));walk_at"name";have hE:=hod;refine x2_2 hE fun es ep hex hdat _=>?_;clear hE;refine⟨nD,o,rfl,S.get (.tail _ ho),hex.1,hex.2.1,callWith_method1 (arg ?_)⟩;walk_at"name";refine argE (dgetm S B.mods (.tail _ ho) hod fun sa S=>?_);rw[valueAt_n2i g.keys n0 hn0 hk0];refine wpAny_assign_Name (S.store (by walk_at"pv") (.inl rfl) fun sa S=>?_);have S:St K s1 yes G' env (dnV xS T nD _ _ _ _ _) _ sa:=S;refine wpAny_Constant_none (is_ref_none (wpAny_truthy_bool ?_));refine if_f Bool.false_ne_true ?_;refine xn ?_;obtain⟨hdm,nq73,items,mL,hLm,hLi⟩:=g.nd n0 hn0;obtain⟨u1,u2,hxm⟩:=nq73;refine xc (a_name (Attribute_Name_ ?_));walk_at"name";refine g_slot B.fgin B.cN B.sNp S (inst_of (S.get (.tail _ hxm)) (S.get (.tail _ hdm))) (v:=.int n0.np u2) rfl rfl fun sa S=>?_;refine S.store (by walk_at"pv") (.inl rfl) fun sa S=>?_;have S:St K s1 yes G' env (dnV xS T nD _ _ _ _ _) _ sa:=S;obtain⟨tO,hO⟩:=B.gOut;obtain⟨tD',hD'⟩:=B.gDn;refine xc (xif (xcmp ?_));walk_at"name";refine S.glob B.toTp hO (gl _ (by walk_at"mem")).2 ?_;refine PyProof.Rows.ne_int (wpAny_truthy_bool ?_);refine if_f (by rw[hout];decide) ?_;refine xn ?_;refine xc (plainObj_wpAny_Assign_Attribute (S.glob B.toTp hD' (gl _ (by walk_at"mem")).2 ?_));walk_at"name";have hIx:=S.head_ne hxm;have hndl:=S.tail_nd;refine s_slot B.fgin B.cN B.sNp (by decide) S (inst_of (S.get (.tail _ hxm)) (S.get (.tail _ hdm))) (.tail _ hxm) rfl fun sa S=>?_;rw[putS_1,setA_skip hIx]at S;have hqx:=q.x_ne g hndl;have g1:=g.setNp (t1:=u1) (t2:=tD') (v:= -2) hndl hn0;have q1:=q.keep (a:=n0.x) (o:=ndO n0.d (.int n0.k u1) (.int (-2) tD') (.ref n0.L)) (ns':=setNp ns n0.k (-2)) (Ne.symm (hqx.2.2.2 n0 hn0).1) (setNp_f (·.L) (fun _ _=>rfl) _ _ _);have hL1:(n0.L,listOf items.toArray mL)∈setA led n0.x (ndO n0.d (.int n0.k u1) (.int (-2) tD') (.ref n0.L)):=setA_other hLm ((g.x_ne hndl hn0).2.2.1 n0 hn0);have hi1:=ids_np ns n0.k (-2);have hc1:=cont_put ns n0.k (-2);generalize setA led n0.x _=led1 at S g1 q1 hL1;generalize setNp ns n0.k (-2)=ns1 at g1 q1 hi1 hc1;rw[hk0]at hc1;refine x1_4 (ids_get hi1 hn0) fun n1 hn1 e1 e2 e3 e4=>?_;obtain⟨hdm1,nq74,_⟩:=g1.nd n1 hn1;obtain⟨w1,w2,hxm1⟩:=nq74;rw[e2,e3,e4]at hxm1;rw[e3]at hdm1;refine xc (xfor (Attribute_Name_ ?_));walk_at"name";refine g_slot B.fgin B.cN B.sSu S (inst_of (S.get (.tail _ hxm1)) (S.get (.tail _ hdm1))) (v:=.ref n0.L) rfl rfl fun sa S=>?_;refine lst_it S (S.get (.tail _ hL1)) fun I2 sa S=>?_;have hitl:=hLi.length;simp only[List.length_map]at hitl;refine forL hA'.hd (fun i G'' vs' led'=>∀P:Prop,(∀ns' rd' led1' w4 w5,
   led'=(I,oi)::led1'→vs'=dnV xS T nD (some (.int k tk)) (some (.ref n0.x)) (some (.int n0.np u2)) w4 w5→Gr prog w xS dS nD (.ref rl) np nf ns' led1'→Rd rl rd' ns' led1'→(cont ns',rd')=(n0.su.take i).foldl doneS (putC (cont ns) k (-2),rd)→ids ns'=ids ns→(n0.L,listOf items.toArray mL)∈led1'→rd'.length≤rd.length+i→P)→P) (fun i G'' vs' led' hJ=>hJ _ fun _ _ _ _ _ e _ _ _ _ _ h _=>by rw[e];exact .tail _ h) S (fun _ k=>k ns1 rd led1 _ _ rfl rfl g1 q1 (by rw[hc1];rfl) hi1 hL1 J52) ?_ ?_
  ·refine fun i v G3 vs' led' o2 sb E3 N2 hi2 hv2 hG3 hN2 hJ S=>hJ _ fun ns' rd' led1' w4 w5 el ev g4 q4 hc4 hi4 hL4 hr4=>?_;clear hJ;subst el ev;refine x2_1 (ints_get hLi hv2) fun a ta ha eq3=>?_;subst eq3;have hi':i<n0.su.length:=J419 hi2 hitl;have ha:a=(n0.su[i]:Nat):=by
    rw[List.getElem?_map,List.getElem?_eq_getElem hi']at ha;simpa using ha.symm
   subst ha;have htake:(n0.su.take (i+1)).foldl doneS (putC (cont ns) k (-2),rd)=doneS (cont ns',rd') n0.su[i]:=by
    rw[List.take_add_one,List.getElem?_eq_getElem hi'];simp only[Option.toList_some,List.foldl_append,List.foldl_cons,List.foldl_nil];rw[←hc4]
   have hmem:=hin n0.su[i] (List.getElem_mem hi');generalize n0.su[i]=j at htake hmem⊢;rw[←ids_k,←hi4,ids_k]at hmem;refine x1_1 (List.mem_map.mp hmem) fun m hm hmj=>?_;refine wpAny_assign_Name (S.store (by walk_at"pv") (.inl rfl) fun sb S=>?_);have S:St K s1 yes G3 env (dnV xS T nD _ _ _ _ _) _ sb:=S;refine x1_1 g4.n2i fun o4 ho4 hod4=>?_;refine xc (a_name (Subscript_ ?_));walk_at"name";walk_at"name";refine dget S (S.get (.tail _ (.tail _ ho4))) hod4 int_is (valueAt_n2i g4.keys m hm hmj) fun sb S=>?_;refine S.store (by walk_at"pv") (.inl rfl) fun sb S=>?_;have S:St K s1 yes G3 env (dnV xS T nD _ _ _ _ _) _ sb:=S;obtain⟨hdm4,nq75,_⟩:=g4.nd m hm;obtain⟨z1,z2,hxm4⟩:=nq75;refine xc (wpAny_AugAssign_AttributeAny ?_);walk_at"name";refine g_slot B.fgin B.cN B.sNp S (inst_of (S.get (.tail _ (.tail _ hxm4))) (S.get (.tail _ (.tail _ hdm4)))) (v:=.int m.np z2) rfl rfl fun sb S=>?_;walk_at"int";intro t9 sb S;refine PyProof.Rows.isub_int ?_;generalize sb.toks=tt;have S:=S.tok (tt+1);have h2x:=S.head_ne (.tail _ hxm4);have hIx4:I≠m.x:=by
    have:=S.tail_nd;rw[List.map_cons,List.nodup_cons]at this;intro e;exact this.1 (by rw[e];exact List.mem_map_of_mem (f:=(·.1)) hxm4)
   have hnd4:(led1'.map (·.1)).Nodup:=by
    have:=S.tail_nd;rw[List.map_cons,List.nodup_cons]at this;exact this.2
   refine s_slot B.fgin B.cN B.sNp (by decide) S (inst_of (S.get (.tail _ (.tail _ hxm4))) (S.get (.tail _ (.tail _ hdm4)))) (.tail _ (.tail _ hxm4)) rfl fun sb S=>?_;rw[putS_1,setA_skip h2x,setA_skip hIx4]at S;have hq4:=q4.x_ne g4 hnd4;have g5:=g4.setNp (t1:=z1) (t2:=tt) (v:=m.np-1) hnd4 hm;have q5:=q4.keep (a:=m.x) (o:=ndO m.d (.int m.k z1) (.int (m.np-1) tt) (.ref m.L)) (ns':=setNp ns' m.k (m.np-1)) (Ne.symm (hq4.2.2.2 m hm).1) (setNp_f (·.L) (fun _ _=>rfl) _ _ _);have hc5:=cont_setNp g4.keys hm (m.np-1) (-1) J58;have hi5:=ids_np ns' m.k (m.np-1);have hm5:({m with np:=m.np-1}:Nd)∈setNp ns' m.k (m.np-1):=List.mem_map.mpr ⟨m,hm,by simp⟩;have hL5:(n0.L,listOf items.toArray mL)∈setA led1' m.x (ndO m.d (.int m.k z1) (.int (m.np-1) tt) (.ref m.L)):=by
    refine x1_4 (ids_get hi4 hn0) fun n5 hn5 _ _ _ e54=>?_;exact setA_other hL4 (by show n0.L≠m.x;rw[←e54];exact(g4.x_ne hnd4 hm).2.2.1 n5 hn5)
   generalize setA led1' m.x _=led5 at S g5 q5 hL5;generalize setNp ns' m.k (m.np-1)=ns5 at g5 q5 hc5 hi5 hm5;have hnp:=npOf_cont g5.keys hm5;dsimp only at hnp;rw[hmj]at hc5 hnp;rw[hc5]at hnp;obtain⟨hdm5,nq76,_⟩:=g5.nd _ hm5;obtain⟨y1,y2,hxm5⟩:=nq76;dsimp only at hdm5 hxm5;refine xc (xif (xcmp (Attribute_Name_ ?_)));walk_at"name";refine g_slot B.fgin B.cN B.sNp S (inst_of (S.get (.tail _ (.tail _ hxm5))) (S.get (.tail _ (.tail _ hdm5)))) (v:=.int (m.np-1) y2) rfl rfl fun sb S=>?_;walk_at"int";intro t10 sb S;refine PyProof.Rows.eq_int (wpAny_truthy_bool ?_);by_cases hz:m.np-1=0
   ·refine if_t (by simpa using hz) ?_;refine xc (x_any S (meth F.plainAttrs_list F.slot_list_append F.type_list_append (Attribute_Name_ ?_)));walk_at"name";refine x7_1 (g5.sinst (h:=sb.heap) (fun p hp=>S.all p (.tail _ (.tail _ hp)))) fun t1 t2 t3 t4 tp tf c hs I5=>?_;refine g_att B.fgin B.cS B.aRdy S I5 (v:=.ref rl) (by kernel_rfl) rfl fun sb S=>?_;refine x2_1 q5.at_ fun ri rm hrm hrI=>?_
    have hril:=hrI.length;simp only[List.length_map]at hril;refine⟨rl,_,rfl,S.get (.tail _ (.tail _ hrm)),rfl,rfl,callWith_method1 (arg ?_)⟩;walk_at"name";have h2r:=S.head_ne (.tail _ hrm);have hIr:I≠rl:=by
     have:=S.tail_nd;rw[List.map_cons,List.nodup_cons]at this;intro e;exact this.1 (by rw[e];exact List.mem_map_of_mem (f:=(·.1)) hrm)
    have hnd5:(led5.map (·.1)).Nodup:=by
     have:=S.tail_nd;rw[List.map_cons,List.nodup_cons]at this;exact this.2
    refine argE (app_lst (items:=ri) (led':=fun n'=>setA ((I2,o2)::(I,oi)::led5) rl (listOf (ri++[Value.int j ta]).toArray n')) S (fun n'=>Up.setA (.tail _ (.tail _ hrm)) S.nd) (J581 hfew hi2 hitl hril hr4) fun n' sb S=>?_);rw[setA_skip h2r,setA_skip hIr]at S;have hq5:=q5.x_ne g5 hnd5;have hLr:n0.L≠rl:=by
     refine x1_4 (ids_get (hi5.trans hi4) hn0) fun n5 hn5 _ _ _ e54=>?_;rw[←e54];exact q5.ne n5 hn5
    refine xn (xn (hN2 G3 _ _ _ (GLe.refl _) S fun _ k=>k ns5 (rd'++[j]) _ _ _ rfl rfl (g5.other hq5.1 hq5.2.1 hq5.2.2.1 hq5.2.2.2) (q5.snoc (List.mem_map_of_mem (f:=(·.1)) hrm) (by rw[List.map_append];exact ints_snoc hrI _ _) (J580 hfew hi2 hitl hr4)) ?_ (hi5.trans hi4) (setA_other hL5 hLr) (by simp;exact J376 hr4)));rw[htake];unfold doneS;dsimp only;rw[hc5,if_pos (by rw[hnp];exact hz)]
   ·refine if_f (by simpa using hz) ?_;refine xn (xn (hN2 G3 _ _ _ (GLe.refl _) S fun _ k=>k ns5 rd' _ _ _ rfl rfl g5 q5 ?_ (hi5.trans hi4) hL5 (J377 hr4)));rw[htake];unfold doneS;dsimp only;rw[hc5,if_neg (by rw[hnp];exact hz)]
  ·refine fun G3 vs' led' sb E3 hG3 hJ S=>hJ _ fun ns' rd' led1' w4 w5 el ev g4 q4 hc4 hi4 hL4 hr4=>?_;clear hJ;subst el ev;refine xn ?_;refine xc (wpAny_AugAssign_AttributeAny ?_);walk_at"name";refine x7_1 (g4.sinst (h:=sb.heap) (fun p hp=>S.all p (.tail _ hp))) fun t1 t2 t3 t4 tp tf c hs I5=>?_;refine g_att B.fgin B.cS B.aFin S I5 (v:=.int nf tf) (by kernel_rfl) rfl fun sb S=>?_;walk_at"int";intro t9 sb S;refine PySem.wpAny_iadd_int ?_;generalize sb.toks=tt;have S:=S.tok (tt+1);have hIs:=S.head_ne hs;have hnd4:=S.tail_nd;refine s_att B.fgin B.cS B.aFin S ⟨S.get (.tail _ g4.inst),rfl,rfl,S.get (.tail _ hs)⟩ rfl (.tail _ hs) (by simp) (by kernel_rfl) fun t6 sb S=>?_;rw[put4,setA_skip hIs]at S;have g6:=g4.setS (rdy':=.ref rl) (np':=np) (nf':=nf+1) hnd4 (t1:=t1) (t2:=t2) (t3:=t3) (t4:=t4) (tp:=tp) (tf:=tt) (n:=putN "_nfinished" (sEs w t1 t2 t3 t4 (.ref nD) (.ref rl) (.int np tp) (.int nf tf)) c);have hq4:=q4.x_ne g4 hnd4;have q6:=q4.keep (a:=dS) (o:=dictOf (sEs w t1 t2 t3 t4 (.ref nD) (.ref rl) (.int np tp) (.int (nf+1) tt)) (putN "_nfinished" (sEs w t1 t2 t3 t4 (.ref nD) (.ref rl) (.int np tp) (.int nf tf)) c)) (ns':=ns') (Ne.symm hq4.2.1) rfl;refine xn (hN G3 _ _ _ hG3 S fun _ k=>k _ _ _ _ _ rfl (.inr ⟨rfl,ns',rd',g6,q6,?_,hi4⟩));rw[hc4,hitl,List.take_length];unfold doneC;rw[←hk0,suOf_cont g.keys hn0]
 ·refine fun G' vs' led' sa E' hG hJ S=>hJ _ fun v1 v2 v3 v4 v5 ev hcase=>?_;clear hJ;subst ev;rcases hcase with⟨h,_⟩|⟨_,ns2,rd2,g2,q2,hc2,hi2⟩
  ·cases h
  refine xn (xn (kk s1 G' _ _ _ _ ns2 rd2 hs1k hs1s hG S g2 q2 hc2 hi2))
end
section
open Builtin Builtin.ObjectAttr
noncomputable abbrev nxtO(I:Addr):Obj:={cls:=.type "method-wrapper",data:=.fields #[.builtin "list_iterator.__next__",.ref I]}
namespace NX
theorem slot_ga:Slot "list_iterator" "__getattribute__" "object.__getattribute__" :=
 .of (owner:= "object") (n:= "__getattribute__") (by rw[typeLookup_type,builtinLookup_eq_fast];kernel_rfl) (by decide+kernel) (by decide+kernel) (by decide+kernel)
  (by first|exact .inl (by decide+kernel)|exact .inr (by decide+kernel)) (by rw[isSubtype_type];kernel_rfl)
theorem entry_ga:entryFor table "object.__getattribute__" =some Builtin.«object.__getattribute__» :=entryFor_of_tree (by kernel_rfl)
theorem args_ga(a b:Value):argsOk "object.__getattribute__" ⟨[a,b],[]⟩:=by unfold argsOk;kernel_rfl
theorem type_next:typeOf (.builtin "list_iterator.__next__")=pure (.type "wrapper_descriptor"):=by show builtinType _=_;rw[builtinType_eq_fast];kernel_rfl
theorem slot_wget:Slot "wrapper_descriptor" "__get__" "wrapper_descriptor.__get__" :=
 .of (owner:= "wrapper_descriptor") (n:= "__get__") (by rw[typeLookup_type,builtinLookup_eq_fast];kernel_rfl) (by decide+kernel) (by decide+kernel) (by decide+kernel)
  (by first|exact .inl (by decide+kernel)|exact .inr (by decide+kernel)) (by rw[isSubtype_type];kernel_rfl)
theorem entry_wget:entryFor table "wrapper_descriptor.__get__" =some Builtin.«wrapper_descriptor.__get__» :=entryFor_of_tree (by kernel_rfl)
theorem args_wget(a b c:Value):argsOk "wrapper_descriptor.__get__" ⟨[a,b,c],[]⟩:=by unfold argsOk;kernel_rfl
theorem no_set:typeLookup (.type "wrapper_descriptor") "__set__" =pure none:=by rw[typeLookup_type,builtinLookup_eq_fast];kernel_rfl
theorem no_del:typeLookup (.type "wrapper_descriptor") "__delete__" =pure none:=by rw[typeLookup_type,builtinLookup_eq_fast];kernel_rfl
theorem no_hook:typeLookup (.type "list_iterator") "__getattr__" =pure none:=by rw[typeLookup_type,builtinLookup_eq_fast];kernel_rfl
theorem sub_self:isSubtype (.type "list_iterator") (.type "list_iterator")=pure true:=by rw[isSubtype_type];kernel_rfl
theorem no_sp{n:Str}(h:typeLookup (.type "wrapper_descriptor") n=pure none):specialOf (.builtin "list_iterator.__next__") n=pure none:=by
 unfold specialOf;rw[type_next,pure_bind];exact h
theorem no_dd(g:Value):dataDescriptor? (some (.builtin "list_iterator.__next__")) (some g)=pure none:=by
 show(takesStores _ >>=fun b=>if b=true then _ else _)=_;unfold takesStores;rw[no_sp no_set,pure_bind,if_neg (by decide),no_sp no_del,pure_bind];exact(pure_bind _ _).trans (if_neg Bool.false_ne_true)
end NX
section
variable{prog:Program}{w:World}{A:Around}{E:Value→Shared→Prop}{R:Result→Shared→Prop}{K:GH}{r:Shared}{own:Str→Bool}{G:GH}{env:Env}{vs vs':Vs}{led led' rest:List (Addr×Obj)}{s:Shared}{Q:Value→Shared→Prop}
theorem nxt_attr{I:Addr}{o:Obj}{fs:Array Value}(S:St K r own G env vs led s)(hI:(I,o)∈led)(hc:o.cls=.type "list_iterator")(hd:o.data=.fields fs)(hn:o.dict=none)
 (h:∀q s',St K r own G env vs ((q,nxtO I)::led) s'→Q (.ref q) s'):wpAny (model prog w) A (getAttr (.ref I) "__next__" true) Q E s:=by
 have ho:=S.get hI;have hT:s.TypeIs (.ref I) "list_iterator" :=⟨o,ho,hc⟩;have hTn:typeOf (.builtin "list_iterator.__next__")=pure (.type "wrapper_descriptor"):=NX.type_next;unfold getAttr getAttrBy;refine wpAny_bind (wpAny_mkText (wpAny_holding (wpAny_bind (wpAny_typeOf (s:={s with toks:=s.toks+1}) hT ?_))));rw[NX.slot_ga.lookup];refine wpAny_bind (wpAny_pure ?_);dsimp only;rw[if_neg (by decide)];unfold getAttrByItsOwn hookBefore;rw[if_neg (by decide)];refine wpAny_bind (wpAny_pure (wpAny_bind (wpAny_attempt (wpAny_holding ?_))));unfold callGetattribute;rw[if_neg (by decide)];unfold boundAndCalled;rw[NX.slot_ga.bind];refine wpAny_bind (wpAny_pure ?_);refine wpAny_call_entry NX.slot_ga (s:={s with toks:=s.toks+1}) hT NX.entry_ga ?_ (NX.args_ga _ _);unfold Builtin.«object.__getattribute__»;refine wpAny_bind (wpAny_of_eq (show slotArgs "__getattribute__" 1 ⟨.ref I::[].append [Value.str (Str.ofString "__next__") s.toks],[]⟩=pure (.ref I,[Value.str (Str.ofString "__next__") s.toks])from by first|rfl|kernel_rfl) ?_);dsimp only;refine wpAny_bind (wpAny_of_eq (show attrName (Value.str (Str.ofString "__next__") s.toks)=pure (Str.ofString "__next__")from by first|rfl|kernel_rfl) ?_);refine wpAny_bind (wpAny_typeOf (s:={s with toks:=s.toks+1}) hT ?_);refine wpAny_bind ?_;unfold find;rw[slot_listiter_next.lookup];refine wpAny_bind (wpAny_pure (wpAny_bind ?_));unfold getOf specialOf;dsimp only;rw[hTn];refine wpAny_bind (wpAny_pure ?_);rw[NX.slot_wget.lookup];refine wpAny_pure (wpAny_bind ?_);refine wpAny_of_eq (NX.no_dd _) ?_;dsimp only;obtain⟨oc,od,oda,osl⟩:=o;dsimp only at hc hd hn;subst hc hd hn;have ho1:({s with toks:=s.toks+1}:Shared).heap.get? I=some {cls:=.type "list_iterator",dict:=none,data:=.fields fs,slots:=osl}:=ho;unfold ownThenClass inOwnDict ObjectAttr.ownDict instanceDict loadHead;dsimp only;refine wpAny_bind (wpAny_bind (wpAny_bind (wpAny_loadPart ho1 ?_)));refine wpAny_bind (wpAny_loadPart ho1 ?_);show wpAny _ _ (pure none) _ _ _;refine wpAny_pure ?_;show wpAny _ _ (pure none) _ _ _;refine wpAny_pure ?_;dsimp only;unfold copiedAttributeGuard;dsimp only;rw[if_neg (by decide+kernel)];refine wpAny_bind (wpAny_pure ?_);unfold byTheClass;refine wpAny_bind (wpAny_rule (wpAny_pure ?_));dsimp only;unfold bindTo;dsimp only;refine wpAny_bind (wpAny_holding ?_);refine wpAny_call_entry NX.slot_wget (by show Shared.TypeIs _ (.builtin "list_iterator.__next__") "wrapper_descriptor";exact hTn) NX.entry_wget ?_ (NX.args_wget _ _ _);unfold Builtin.«wrapper_descriptor.__get__»;refine wpAny_bind (wpAny_of_eq (a:=(.builtin "list_iterator.__next__",some (.ref I),some (.type "list_iterator"))) (by first|rfl|kernel_rfl) ?_);dsimp only;refine wpAny_bind ?_;refine wpAny_bind (wpAny_of_eq (a:=(Str.ofString "__next__",.type "list_iterator")) (by first|rfl|kernel_rfl) ?_);refine wpAny_bind (wpAny_isInstance (s:={s with toks:=s.toks+1}) hT NX.sub_self ?_);show wpAny _ _ (pure ()) _ _ _;refine wpAny_pure ?_;refine wpAny_bind (wpAny_newObj_type (wpAny_pure ⟨_,rfl,wpAny_pure ⟨_,rfl,?_⟩⟩))
 refine handed_on rfl (h _ _ ?_);exact(S.tok (s.toks+1)).push (nxtO I) (s.toks+1)
end
end
inductive SlE:List (Addr×Obj)→List (Addr×Obj)→Prop
 |nil:SlE [] []
 |cons {a:Addr} {o:Obj} {l l':List (Addr×Obj)} (sl:Array (Option Value)):SlE l l'→SlE ((a,o)::l) ((a,{o with slots:=sl})::l')
theorem SlE.refl:∀l:List (Addr×Obj),SlE l l
 |[]=>.nil
 |(_,o)::l=>.cons o.slots (SlE.refl l)
theorem SlE.consI{a:Addr}{o:Obj}{l l2:List (Addr×Obj)}(h:SlE ((a,o)::l) l2):∃sl l',l2=(a,{o with slots:=sl})::l'∧SlE l l':=by
 cases h with
 |cons sl h=>exact⟨sl,_,rfl,h⟩
theorem SlE.trans{a b c:List (Addr×Obj)}(h:SlE a b):SlE b c→SlE a c:=by
 induction h generalizing c with
 |nil=>exact id
 |cons sl h ih=>
  intro h';refine x2_1 h'.consI fun sl' l' eq2=>?_;subst eq2;intro h'';exact .cons sl' (ih h'')
theorem SlE.names{a b:List (Addr×Obj)}(h:SlE a b):b.map (·.1)=a.map (·.1):=by
 induction h with
 |nil=>rfl
 |cons sl h ih=>rw[List.map_cons,List.map_cons,ih]
theorem SlE.make{h h':Heap}:∀{fs:List (Addr×Obj)},(∀p∈fs,∃sl,h'.get? p.1=some {p.2 with slots:=sl})→∃fs',SlE fs fs'∧∀q∈fs',h'.get? q.1=some q.2
 |[],_=>⟨[],.nil,fun _ h=>nomatch h⟩
 |(a,o)::l,hp=>by
  refine x1_1 (SlE.make (h:=h) fun p hm=>hp p (.tail _ hm)) fun fs' h1 h2=>?_;obtain⟨sl,e⟩:=hp _ (.head _);refine⟨_,.cons sl h1,fun q hq=>?_⟩;rcases List.mem_cons.mp hq with rfl|hq
  ·exact e
  ·exact h2 q hq
inductive FrOk:List Env→List (Addr×Obj)→Prop
 |nil:FrOk [] []
 |cons {env:Env} {a:Addr} {o:Obj} {l:List Env} {fs:List (Addr×Obj)} {es:Array DictEntry} {ep:Nat}:env.scope.kind=.function→env.frame=some a→o.data=.dict es ep→FrOk l fs→FrOk (env::l) ((a,o)::fs)
theorem FrOk.names{l:List Env}{fs:List (Addr×Obj)}(h:FrOk l fs):l.filterMap (·.frame)=fs.map (·.1):=by
 induction h with
 |nil=>rfl
 |cons _ h _ r ih=>rw[List.filterMap_cons,h,List.map_cons,ih]
theorem FrOk.slots{l:List Env}{fs fs':List (Addr×Obj)}(h:FrOk l fs):SlE fs fs'→FrOk l fs':=by
 induction h generalizing fs' with
 |nil=>intro h;cases h;exact .nil
 |cons h1 h2 h3 r ih=>
  intro h;refine x2_1 h.consI fun sl l' eq2=>?_;subst eq2;intro h';exact .cons h1 h2 h3 (ih h')
theorem FrOk.fun{l:List Env}{fs:List (Addr×Obj)}(f:FrOk l fs):∀{h:Heap},(∀p∈fs,h.get? p.1=some p.2)→h.FunFrames {} l:=by
 induction f with
 |nil=>intro _ _;trivial
 |cons h1 h2 h3 r ih=>
  intro h hp;exact⟨by rw[h1];decide,⟨_,_,h2,rfl,hp _ (.head _),fun vs q=>by rw[h3]at q;cases q⟩,ih fun p hm=>hp p (.tail _ hm)⟩
section
variable{prog:Program}{w:World}{A:Around}{E:Value→Shared→Prop}{R:Result→Shared→Prop}{K:GH}{r:Shared}{own:Str→Bool}{G:GH}{env:Env}{vs vs':Vs}{led led' rest fs:List (Addr×Obj)}{s:Shared}{Q:Value→Shared→Prop}
theorem St.less(S:St K r own G env vs led s)(h:led'.Sublist led):St K r own G env vs led' s:=
 ⟨S.same,S.base,S.sub,S.eo,S.fm,S.gl,S.gc,fun p hp=>S.ld p (h.subset hp),(h.map (·.1)).nodup S.nd⟩
theorem St.noted(S:St K r own G env vs (led++fs) s){h':Heap}{t:Nat}(hk:∀b o,b≠env.locals→b∉fs.map (·.1)→s.heap.get? b=some o→h'.get? b=some o)
 (hf:∀b o,s.heap.get? b=some o→∃sl,h'.get? b=some {o with slots:=sl}):∃fs',SlE fs fs'∧St K r own G env vs (led++fs') {s with heap:=h',toks:=t}:=by
 obtain⟨nq77,base,sub,eo,fm,gl,gc,ld,nd⟩:=S;obtain⟨h0,t0,hs⟩:=nq77;refine x1_1 (SlE.make (h:=s.heap) (h':=h') (fs:=fs) fun p hp=>hf _ _ (ld p (List.mem_append_right _ hp)).1) fun fs' h1 h2=>?_;have hn:=h1.names;have hin:∀b,b∈fs.map (·.1)→G b=none∧b≠env.locals∧∀x c,(x,c)∈env.cells→b≠c:=by
  intro b hb;refine x1_1 (List.mem_map.mp hb) fun p hp eq2=>?_;subst eq2;exact(ld p (List.mem_append_right _ hp)).2
 have nd':=nd;rw[List.map_append,List.nodup_append]at nd';refine⟨fs',h1,⟨h',t,by rw[hs]⟩,base,fun a o e=>hk a o (fun z=>by rw[z,gl]at e;cases e) (fun z=>by rw[(hin a z).1]at e;cases e) (sub a o e),eo,⟨?_,fun x c hc=>?_⟩,gl,gc,fun p hp=>?_,by rw[List.map_append,hn,←List.map_append];exact nd⟩
 ·obtain⟨ml,nq78,h2⟩:=fm.loc;obtain⟨ob,es,ep,h1,hd,q⟩:=nq78;obtain⟨sl,e⟩:=hf _ _ h1;exact⟨ml,⟨_,es,ep,e,hd,q⟩,h2⟩
 ·refine x1_1 (fm.cel x c hc) fun ob h1 q=>?_;have hm:=mem_of_lookup hc;exact⟨ob,hk _ _ (eo.ne x c hm) (fun z=>(hin _ z).2.2 x c hm rfl) h1,q⟩
 ·rcases List.mem_append.mp hp with hp|hp
  ·have P:=ld p (List.mem_append_left _ hp);exact⟨hk _ _ P.2.2.1 (fun z=>nd'.2.2 _ (List.mem_map_of_mem (f:=(·.1)) hp) _ z rfl) P.1,P.2⟩
  ·refine⟨h2 p hp,hin _ ?_⟩;rw[←hn];exact List.mem_map_of_mem (f:=(·.1)) hp
theorem St.backF{G2:GH}{own2:Str→Bool}{env2:Env}{vs2:Vs}{led2:List (Addr×Obj)}{s2:Shared}{oL:Obj}{sl:Array (Option Value)}(S:St K r own G env vs (led++rest) s)(hL:s.heap.get? env.locals=some oL)
 (g:GLe (but ((env.locals,oL)::led) s.heap) G2) (S2:St K s own2 G2 env2 vs2 ((env.locals,{oL with slots:=sl})::led2) s2):∃G3,GLe G G3∧(∀a o,G2 a=some o→s.heap.get? a=none→G3 a=some o)∧St K r own G3 env vs (led2++rest) s2:=by
 have ndl:=S.nd;rw[List.map_append,List.nodup_append]at ndl
 let bad:Addr→Prop:=fun a=>a=env.locals∨(∃x,own x=true∧(x,a)∈env.cells)∨a∈rest.map (·.1)
 let G3:GH:=fun a=>open Classical in if bad a then none else G2 a
 have G3p:∀a o,G2 a=some o→¬bad a→G3 a=some o:=fun a o e h=>by
  show(open Classical in if bad a then none else G2 a)=_;rw[if_neg h];exact e
 have G3s:∀a o,G3 a=some o→G2 a=some o:=fun a o e=>by
  have e':(open Classical in if bad a then none else G2 a)=some o:=e
  split at e'
  ·cases e'
  ·exact e'
 have G3n:∀a,bad a→G3 a=none:=fun a h=>by
  show(open Classical in if bad a then none else G2 a)=_;rw[if_pos h]
 have G3n2:∀a,G2 a=none→G3 a=none:=fun a e=>by
  cases q:G3 a with
  |none=>rfl
  |some o=>rw[G3s a o q]at e;cases e
 have inG2:∀a o,s.heap.get? a=some o→a∉led.map (·.1)→a≠env.locals→G2 a=some o:=fun a o e hn hl=>g a o (but_at e (by simpa[hl]using hn));have badS:∀a,bad a→∃o,s.heap.get? a=some o:=by
  rintro a (rfl|⟨x,_,hx⟩|hm)
  ·exact S.there
  ·exact S.cthere hx
  ·refine x1_1 (List.mem_map.mp hm) fun p hp eq2=>?_;subst eq2;exact⟨_,(S.ld p (List.mem_append_right _ hp)).1⟩
 have badL:∀a,bad a→a∉led.map (·.1):=by
  rintro a (rfl|⟨x,_,hx⟩|hm) h
  ·refine x1_1 (List.mem_map.mp h) fun p hp e=>?_;exact(S.ld p (List.mem_append_left _ hp)).2.2.1 e
  ·refine x1_1 (List.mem_map.mp h) fun p hp e=>?_;exact(S.ld p (List.mem_append_left _ hp)).2.2.2 x a hx e
  ·exact ndl.2.2 a h a hm rfl
 have hle:GLe G G3:=by
  intro a o e;refine G3p a o (inG2 a o (S.sub a o e) (fun h=>?_) fun h=>?_) fun h=>?_
  ·refine x1_1 (List.mem_map.mp h) fun p hp eq2=>?_;subst eq2;rw[(S.ld p (List.mem_append_left _ hp)).2.1]at e;cases e
  ·rw[h,S.gl]at e;cases e
  ·rcases h with rfl|⟨x,h1,h2⟩|hm
   ·rw[S.gl]at e;cases e
   ·rcases S.gc x a h2 with⟨_,h⟩|⟨h,_⟩
    ·rw[h]at e;cases e
    ·rw[h1]at h;cases h
   ·refine x1_1 (List.mem_map.mp hm) fun p hp eq2=>?_;subst eq2;rw[(S.ld p (List.mem_append_right _ hp)).2.1]at e;cases e
 have keep:∀a,(∃o,s.heap.get? a=some o)→a∉led.map (·.1)→a≠env.locals→s2.heap.get? a=s.heap.get? a:=by
  intro a nq79;obtain⟨o,e⟩:=nq79;intro hn hl;rw[S2.sub a o (inG2 a o e hn hl),e]
 have nd2:=S2.nd;rw[List.map_cons,List.nodup_cons]at nd2;have new2:∀p∈led2,p.1∈led.map (·.1)∨s.heap.get? p.1=none:=by
  intro p hp;cases q:s.heap.get? p.1 with
  |none=>exact .inr rfl
  |some o=>
   refine .inl (Classical.byContradiction fun hn=>?_);have:=(S2.ld p (.tail _ hp)).2.1;rw[inG2 _ o q hn fun e=>nd2.1 (by rw[←e];exact List.mem_map_of_mem (f:=(·.1)) hp)]at this;cases this
 have led2ok:∀p∈led2,¬bad p.1:=by
  intro p hp hb;rcases new2 p hp with h|h
  ·exact badL _ hb h
  ·obtain⟨o,ho⟩:=badS _ hb;rw[h]at ho;cases ho
 refine x2_0 S.same fun h0 t0 hs0=>?_;refine⟨G3,hle,fun a o e hn=>G3p a o e fun hb=>?_,⟨?_,S.base.trans hle,fun a o e=>S2.sub a o (G3s a o e),S.eo,⟨?_,fun x c hc=>?_⟩,G3n _ (.inl rfl),fun x c hc=>?_,fun p hp=>?_,?_⟩⟩
 ·obtain⟨o',ho'⟩:=badS a hb;rw[hn]at ho';cases ho'
 ·refine x2_0 S2.same fun h2 t2 e2=>?_;exact⟨h2,t2,by rw[e2,hs0]⟩
 ·obtain⟨ml,nq80,h2⟩:=S.fm.loc;obtain⟨ob,es,ep,h1,hd,q⟩:=nq80;rw[hL]at h1;cases h1;exact⟨ml,⟨_,es,ep,S2.get (.head _),hd,q⟩,h2⟩
 ·refine x1_1 (S.fm.cel x c hc) fun ob h1 q=>?_;exact⟨ob,(keep _ ⟨_,h1⟩ (fun h=>by
   refine x1_1 (List.mem_map.mp h) fun p hp e=>?_;exact(S.ld p (List.mem_append_left _ hp)).2.2.2 x c (mem_of_lookup hc) e) (S.eo.ne x c (mem_of_lookup hc))).trans h1,q⟩
 ·rcases S.gc x c hc with⟨h1,_⟩|⟨h1,o,ho⟩
  ·exact .inl ⟨h1,G3n _ (.inr (.inl ⟨x,h1,hc⟩))⟩
  ·exact .inr ⟨h1,o,hle c o ho⟩
 ·rcases List.mem_append.mp hp with hp|hp
  ·have P:=S2.ld p (.tail _ hp);refine⟨P.1,G3n2 _ P.2.1,fun e=>?_,fun x c hc e=>?_⟩
   ·exact led2ok p hp (.inl e)
   ·rcases new2 p hp with h|h
    ·refine x1_1 (List.mem_map.mp h) fun q hq eq=>?_;exact(S.ld q (List.mem_append_left _ hq)).2.2.2 x c hc (eq.trans e)
    ·obtain⟨o,ho⟩:=S.cthere hc;rw[←e,h]at ho;cases ho
  ·have P:=S.ld p (List.mem_append_right _ hp);have hm:p.1∈rest.map (·.1):=List.mem_map_of_mem (f:=(·.1)) hp;exact⟨(keep _ ⟨_,P.1⟩ (badL _ (.inr (.inr hm))) P.2.2.1).trans P.1,G3n _ (.inr (.inr hm)),P.2.2⟩
 ·rw[List.map_append,List.nodup_append];refine⟨nd2.2,ndl.2.1,fun a ha b hb e=>?_⟩;refine x1_1 (List.mem_map.mp ha) fun p hp eq2=>?_;subst eq2;exact led2ok p hp (.inr (.inr (e▸hb)))
theorem note_first{outer:List Env}{e:Addr}{oe:Obj}{xs:Array Value}{Q:Unit→Shared→Prop}(S:St K r own G env vs ((e,oe)::(led++fs)) s)(hfr:A.frames=some (env::outer))(hF:FrOk outer fs)(hf:env.frame=some env.locals)
 (hd:oe.data=.fields xs) (h1:xs[1]? =some .none)
 (k:∀fs' oe' T oT xs' ts s',SlE fs fs'→oe'.cls=oe.cls→oe'.data=.fields xs'→xs'[1]? =some (.ref T)→oT.data=.fields ts→3<ts.size→St K r own G env vs ((T,oT)::(e,oe')::(led++fs')) s'→Q () s'):
 wpAny (model prog w) A (noteFrame (.ref e) env) Q E s:=by
 have he:=S.get (.head _);have hfs:∀p∈fs,s.heap.get? p.1=some p.2:=fun p hp=>S.get (.tail _ (List.mem_append_right _ hp));have hl:s.heap.FunFrames {} (env::outer):=by
  obtain⟨ml,nq81,_⟩:=S.fm.loc;obtain⟨o,es,ep,ho,hod,_⟩:=nq81;exact⟨by rw[S.eo.fn];decide,⟨_,o,hf,rfl,ho,fun vs q=>by rw[hod]at q;cases q⟩,hF.fun hfs⟩
 unfold noteFrame;simp only[hf];refine wpAny_bind (wpAny_field he hd h1 ?_);rw[if_neg (by decide)];refine wpAny_bind (wpAny_frameOf_fun hfr hl hf fun h₁ hs₁=>?_);have hnames:(env::outer).filterMap (·.frame)=env.locals::fs.map (·.1):=by rw[List.filterMap_cons,hf,hF.names]
 rw[hnames]at hs₁;refine x1_1 (St.noted (t:=s.toks) (led:=(e,oe)::led) (fs:=fs) S (h':=h₁) (fun b o hb hn e=>(hs₁.2.1 b (by simpa[hb]using hn)).trans e) hs₁.2.2) fun fs' hsl S1=>?_;refine wpAny_bind (wpAny_entryPlaceOf fun pl hpl=>?_);unfold EntryCells.newEntry newFields;refine wpAny_bind (wpAny_newObj_type ?_ (hpl.sizeOk5 _ _ _ _ _));have S2:=S1.push {cls:=.type "traceback",dict:=none,data:=.fields ([Value.none,.ref env.locals,.none,rawInt env.locals,.none]++(if pl.isEmpty then List.replicate 6 Value.none else pl)).toArray} s.toks;have he2:=S2.get (.tail _ (.head _));refine wpAny_setField he2 hd (Array.getElem?_eq_some_iff.mp h1).1 ?_;have hd₃:=Obj.data_mapFields hd (·.setIfInBounds 1 (Value.ref h₁.objs.size));have S3:=S2.up (t:=s.toks) (.there .here) (Heap.SameBut.update ..) (Heap.get?_update_self (Obj.mapFields (·.setIfInBounds 1 (Value.ref h₁.objs.size))) he2 (Obj.isFreed_of_fields hd₃));refine k fs' _ h₁.objs.size _ _ _ _ hsl (Obj.cls_mapFields _ _) hd₃ ?_ rfl ?_ S3
 ·have:=(Array.getElem?_eq_some_iff.mp h1).1;simp[this]
 ·simp only[List.size_toArray,List.length_append,List.length_cons,List.length_nil];exact J36
theorem flight{T e:Addr}{oT oe:Obj}{xs ts:Array Value}{Q:Unit→Shared→Prop}(S:St K r own G env vs ((T,oT)::(e,oe)::led) s)(hd:oe.data=.fields xs)(h1:xs[1]? =some (.ref T))(hdT:oT.data=.fields ts)(h3:3<ts.size)
 (k:∀oT' ts' s',oT'.data=.fields ts'→3<ts'.size→St K r own G env vs ((T,oT')::(e,oe)::led) s'→Q () s'):wpAny (model prog w) A (setFlight (.ref e) none) Q E s:=by
 have hT:=S.get (.head _);refine wpAny_setFlight_none (S.get (.tail _ (.head _))) hd h1 hT hdT h3 ?_;have hd':=Obj.data_mapFields hdT (·.setIfInBounds 3 Value.none);exact k _ _ _ hd' (by simpa using h3) (S.up (t:=s.toks) .here (Heap.SameBut.update ..) (Heap.get?_update_self (Obj.mapFields (·.setIfInBounds 3 .none)) hT (Obj.isFreed_of_fields hd')))
theorem sub_stop:isSubtype (.type "StopIteration") (.type "BaseException")=pure true:=by rw[isSubtype_type];kernel_rfl
theorem sub_stop_self:isSubtype (.type "StopIteration") (.type "StopIteration")=pure true:=by rw[isSubtype_type];kernel_rfl
theorem nt_stop:isSubtype (.type ((Manifest.find? "StopIteration").elim "type" fun x=>x.metatype)) (.type "tuple")=pure false:=by rw[find?_eq_fast,isSubtype_type];kernel_rfl
theorem caught_stop{mg mb:Str→Option Value}{gs:List Str}{outer:List Env}{e:Addr}{oe:Obj}{xs:Array Value}{b₀:Stmt}{suite:List Stmt}{px pos:Pos}{Q:Flow→Shared→Prop}(Tt:Tp K mg mb)(g:Gl env gs)(hv:mg "StopIteration" =none∧mb "StopIteration" =some (.type "StopIteration"))(hx:("StopIteration" :Str)∈gs)
 (S:St K r own G env vs ((e,oe)::(led++fs)) s) (hfr:A.frames=some (env::outer)) (hF:FrOk outer fs) (hf:env.frame=some env.locals) (hc:oe.cls=.type "StopIteration") (hd:oe.data=.fields xs) (h1:xs[1]? =some .none)
 (k:∀fs' s' E',SlE fs fs'→St K r own G env vs (led++fs') s'→wpAny (model prog w) (A.mark (some (.ref e))) (execs (b₀::suite) env) Q E' s'):
 wpAny (model prog w) A (noteFrame (.ref e) env) (fun _ s₂=>wpAny (model prog w) A (setFlight (.ref e) none) (fun _ s₃=>wpAny (model prog w) A (handleBy (.ref e) env [.ExceptHandler (some (.Name "StopIteration" px)) none (b₀::suite) pos]) Q E s₃) E s₂) E s:=by
 refine note_first S hfr hF hf hd h1 fun fs' oe' T oT xs' ts s₁ hsl hc' hd' h1' hdT h3 S=>?_;refine flight S hd' h1' hdT h3 fun oT ts s₁ hdT h3 S=>?_;refine wpAny_handleBy_builtin (X:= "StopIteration") (T:= "StopIteration") (b:=true) sub_stop nt_stop sub_stop_self ?_;refine S.bltn Tt hv.1 hv.2 (g _ hx).2 ⟨rfl,⟨_,S.get (.tail _ (.head _)),hc'.trans hc⟩,?_⟩;rw[if_pos rfl];refine flight S hd' h1' hdT h3 fun oT ts s₁ hdT h3 S=>?_;exact k fs' _ _ hsl S.drop.drop
theorem bound_next(I:Addr):checkBoundCall "list_iterator.__next__" ⟨[.ref I],[]⟩=pure ():=by first|rfl|kernel_rfl
theorem nxt_call{q I L:Addr}{i:Nat}{items:List Value}{m:Nat}{o:Obj}(hA:A.handled=none)(S:St K r own G env vs led s)(hq:s.heap.get? q=some (nxtO I))(ho:o.cls=.type "list_iterator")(hd:o.data=.fields #[.ref L,.int i 0])(hl:s.heap.get? L=some (listOf items.toArray m))
 {led':Obj→List (Addr×Obj)} (U:∀o',Up I o o' led (led' o'))
 (hitem:∀v o' s',items[i]? =some v→o'.cls=.type "list_iterator"→o'.data=.fields #[.ref L,.int (i+1:Nat) 0]→St K r own G env vs (led' o') s'→Q v s')
 (hend:∀e oe o' xs s',items[i]? =none→oe.cls=.type "StopIteration"→oe.data=.fields xs→xs[1]? =some .none→St K r own G env vs ((e,oe)::led' o') s'→E (.ref e) s'):
 wpAny (model prog w) A (call (.ref q) []) Q E s:=by
 have hI:=S.get (U o).mem;refine wpAny_call (codeAny_of_tree ?_);show wpAny _ _ (callAny (.ref q) ⟨[],[]⟩) _ _ _;unfold callAny;refine wpAny_bind (wpAny_load hq ?_);show wpAny _ _ (checkBoundCall "list_iterator.__next__" ⟨[.ref I],[]⟩>>=fun _=>_) _ _ _;rw[bound_next];refine wpAny_bind (wpAny_pure ?_);refine wpAny_pure ⟨Code.quiet_builtin _ (by decide+kernel),codeAny_builtin entry_listiter_next ?_⟩;show wpAny _ _ (field (.ref I) 0 >>=_) _ _ s;refine wpAny_bind (wpAny_field hI hd (x:=.ref L) rfl ?_);show wpAny _ _ (if(Value.ref L==Value.none)=true then _ else _) _ _ s;rw[if_neg (show¬((Value.ref L==Value.none)=true)from Bool.false_ne_true)];show wpAny _ _ (field (.ref I) 1 >>=_) _ _ s;refine wpAny_bind (wpAny_field hI hd (x:=.int i 0) rfl ?_);show wpAny _ _ (seqItems? (.ref L)>>=_) _ _ s;refine wpAny_bind (wpAny_seqItems hl rfl ?_);cases hx:items[i]? with
 |some x=>
  have hx':items.toArray[i]? =some x:=by simpa using hx
  simp only[Int.toNat_natCast,hx'];refine wpAny_bind (wpAny_setField hI hd (by simp) (wpAny_pure ?_));have hd':=Obj.data_mapFields hd (·.setIfInBounds 1 (rawInt ((i:Int)+1)));refine hitem x _ _ hx ((Obj.cls_mapFields _ _).trans ho) ?_ (S.up (t:=s.toks) (U _) (Heap.SameBut.update ..) (Heap.get?_update_self (Obj.mapFields (·.setIfInBounds 1 (rawInt ((i:Int)+1)))) hI (Obj.isFreed_of_fields hd')));rw[hd'];simp[rawInt]
 |none=>
  have hx':items.toArray[i]? =none:=by simpa using hx
  simp only[Int.toNat_natCast,hx'];refine wpAny_bind (wpAny_rule (wpAny_bind (wpAny_setField hI hd (by simp) ?_)));have hd':=Obj.data_mapFields hd (·.setIfInBounds 0 Value.none);have S1:=S.up (t:=s.toks) (U _) (Heap.SameBut.update ..) (Heap.get?_update_self (Obj.mapFields (·.setIfInBounds 0 .none)) hI (Obj.isFreed_of_fields hd'));show wpAny _ _ (newExc (.type "StopIteration") []>>=_) _ _ _;refine wpAny_bind ?_;simp only[newExc,newTuple];refine wpAny_bind (wpAny_newObj_type ?_ (by size_fits));have S2:=(S1.push {cls:=.type "tuple",data:=.seq ([]:List Value).toArray} s.toks).drop;refine wpAny_bind (m:=firstArgMember _ _) (wpAny_of_eq (a:=Value.none) (by first|rfl|(simp only[firstArgMember];rfl)) ?_);refine wpAny_newObj_type ?_ (by size_fits);have S3:=S2.push {cls:=.type "StopIteration",data:=.fields (#[Value.ref (s.heap.update I (Obj.mapFields fun x=>x.setIfInBounds 0 .none)).objs.size,.none,.none,.none,.bool false,.none]++ownMembersOf (.type "StopIteration") [])} s.toks;refine wpAny_bind (wpAny_handled ?_);have hh:∀c:Code,(A.under c).handled=none:=fun _=>hA;rw[hh];refine wpAny_bind (wpAny_pure (wpAny_throw ?_));exact hend _ _ _ _ _ hx rfl rfl rfl S3
end
section
variable{prog:Program}{w:World}{A:Around}{E:Value→Shared→Prop}{R:Result→Shared→Prop}{K:GH}{mg mb:Str→Option Value}{r:Shared}{own:Str→Bool}{G:GH}{env:Env}{vs vs':Vs}{led led' rest:List (Addr×Obj)}{s:Shared}{Q:Value→Shared→Prop}
theorem din(S:St K r own G env vs led s){d:Addr}{o:Obj}{kvs:List (Int×Value)}{k:Int}{t:Tok}(hm:∃o,K sysModules=some o)(hd:(d,o)∈led)(ho:o.IsDictOf (intKind prog w) kvs)(h:∀s',St K r own G env vs led s'→Q (.bool (valueAt kvs k).isSome) s'):
 wpAny (model prog w) A (compareOp .In (.int k t) (.ref d)) Q E s:=
 have hD:s.heap.DictOf (intKind prog w) d kvs:=Heap.dictOf_iff.mpr ⟨o,S.get hd,ho⟩
 wpAny_in_of (knd:=intKind prog w) int_is (S.low hm hd) hD.mapOf (h _ (S.tok _))
theorem ddel{Q:Unit→Shared→Prop}{d:Addr}{o:Obj}{kvs:List (Int×Value)}{k:Int}{t:Tok}{led':Obj→List (Addr×Obj)}(S:St K r own G env vs led s)(U:∀o',Up d o o' led (led' o'))(ho:o.IsDictOf (intKind prog w) kvs)(hz:kvs.length<1000)(hv:(valueAt kvs k).isSome=true)
 (h:∀o' s',o'.IsDictOf (intKind prog w) (without kvs k)→St K r own G env vs (led' o') s'→Q () s'):wpAny (model prog w) A (delItem (.ref d) (.int k t)) Q E s:=by
 have hD:s.heap.DictOf (intKind prog w) d kvs:=Heap.dictOf_iff.mpr ⟨o,S.get (U o).mem,ho⟩;unfold delItem
 try with_reducible refine wpAny_holding ?_
 refine wpAny_bind (wpAny_sequenceKey hD.typeIs (by decide) ?_);refine wpAny_bind (wpAny_callSpecial?_slot (name:=Str.ofString "__delitem__") hD.typeIs PySem.F.slot_dict_delitem
  (call_meetsIn PySem.F.slot_dict_delitem hD.typeIs PySem.F.entry_dict_delitem (PySem.F.args_dict_delitem_2 _ _) (meets_dict_delitem_pairs (intKind prog w) d int_is) ⟨kvs,hD,Nat.le_trans (Nat.le_of_lt hz) (by decide),hv,fun h' hmm hs=>?_⟩))
 refine x1_1 (Heap.dictOf_iff.mp hmm) fun o' ho' hd'=>?_;exact wpAny_pure (h o' _ hd' (S.up (t:=s.toks+1) (U o') hs ho'))
theorem sin(S:St K r own G env vs led s){a:Addr}{o:Obj}{F:Int→Bool}{n:Nat}{k:Int}{t:Tok}(hm:(a,o)∈led)(ho:o.SetObjOf (intKind prog w) F n)(hn:n<4000)(h:∀s',St K r own G env vs led s'→Q (.bool (F k)) s'):
 wpAny (model prog w) A (compareOp .In (.int k t) (.ref a)) Q E s:=
 wpAny_inSet_of (knd:=intKind prog w) int_is rfl (ho.setOf (S.get hm) (by show n<4096;exact J98 hn)) (h _ (S.tok _))
theorem sadd{a:Addr}{o:Obj}{F:Int→Bool}{n:Nat}{k:Int}{t:Tok}{led':Obj→List (Addr×Obj)}(S:St K r own G env vs led s)(U:∀o',Up a o o' led (led' o'))(ho:o.SetObjOf (intKind prog w) F n)(hn:n<4000)
 (h:∀o' s',o'.SetObjOf (intKind prog w) (fun k'=>F k'||decide (k'=k)) (if F k then n else n+1)→St K r own G env vs (led' o') s'→Q .none s'):wpAny (model prog w) A (call (.builtin "set.add") [.ref a,.int k t]) Q E s:=by
 refine call_set_add (knd:=intKind prog w) int_is rfl (ho.setOf (S.get (U o).mem) (by show n<4096;exact J98 hn)) (by show n+1<4096;exact J97 hn) fun h' hsb hS'=>?_;refine x1_1 hS'.objOf fun o' ho' hso'=>?_;exact h o' _ hso' (S.up (t:=s.toks+1) (U o') hsb ho')
noncomputable abbrev setO(l:Bool):Obj:={cls:=.type "set",dict:=none,data:=.set #[] 0 (.fresh 0 0 l)}
theorem snew(S:St K r own G env vs led s)(h:∀a l s',St K r own G env vs ((a,setO l)::led) s'→Q (.ref a) s'):wpAny (model prog w) A (call (.type "set") []) Q E s:=
 call_set_0 fun l=>h _ l _ (S.push (setO l) s.toks)
theorem iter_lst(S:St K r own G env vs led s){l:Addr}{items:List Value}{m:Nat}(hl:s.heap.get? l=some (listOf items.toArray m))(h:∀I s',St K r own G env vs ((I,lsIt l 0)::led) s'→Q (.ref I) s'):wpAny (model prog w) A (call (.builtin "iter") [.ref l]) Q E s:=by
 refine call_function_entry (by decide+kernel) (by decide+kernel) kdk_entry_iter (kdk_args_iter _) ?_;unfold Builtin.«iter»;refine wpAny_bind (m:=someArgs "iter" 1 2 _) (wpAny_of_eq (a:=[Value.ref l]) (by first|rfl|kernel_rfl!) ?_);show wpAny _ _ (pyIter (.ref l)>>=_) _ _ _;refine wpAny_bind (lst_it S hl fun I s' S=>?_);exact wpAny_pure ⟨_,rfl,h I s' S⟩
theorem pop_lst{l:Addr}{items:List Value}{y:Value}{n:Nat}{pos:Pos}{led':Nat→List (Addr×Obj)}(S:St K r own G env vs led s)(U:∀n',Up l (listOf (items++[y]).toArray n) (listOf items.toArray n') led (led' n'))(hz:items.length<1000)
 (h:∀n' s',St K r own G env vs (led' n') s'→Q y s'):wpAny (model prog w) A (callWith pos (.builtin "list.pop") [.ref l] [] []) Q E s:=by
 refine P.pop_list (items:=(items++[y]).toArray) (n:=n) (y:=y) (S.get (U 0).mem) (by simp) ?_ (by simp[sizeLine];exact J82 hz);obtain⟨n',S'⟩:=S.seq (items:=items++[y]) (fun xs=>xs.eraseIdxIfInBounds ((items++[y]).toArray.size-1)) items (by simp[List.eraseIdx_append_of_length_le]) s.toks U;exact h n' _ S'
theorem item_last{l:Addr}{items:List Value}{n:Nat}{value slice:Expr}{y:Value}{u:Tok}(hl:s.heap.get? l=some (listOf (items++[y]).toArray n))(h:Q y s)
 (hs':subscripted slice false (.ref l) (.int (-1) u)=operate [.ref l,.int (-1) u] (getItem (.ref l) (.int (-1) u)):=by with_unfolding_all rfl):wpAny (model prog w) A (subscriptTail value slice (.ref l) (.int (-1) u)) Q E s:=
 have hs:s.heap.IsList l (items++[y]).toArray:=⟨_,hl,rfl,n,rfl⟩
 tail_any hs.typeIs slot_list_getitem.lookup (wpAny_getItem_list_neg hs (by decide) (by simp;exact J34) (by decide) (by
  have:((-1:Int)+((items++[y]).toArray.size:Nat)).toNat=items.length:=by simp;exact J40
  rw[this];simp) h) hs'
theorem cw_nxt{q I:Addr}{pos:Pos}(hq:s.heap.get? q=some (nxtO I))(h:wpAny (model prog w) A (call (.ref q) []) Q E s):wpAny (model prog w) A (callWith pos (.ref q) [] (backTo pos (starEach [] env)) []) Q E s:=
 callWith_of (P:=fun h=>h.get? q=some (nxtO I)) rfl (fun _ X=>⟨.machine,.inr (.inl rfl),(Looks.ld (part:=none) X).andThen .now⟩) (evalArgs_nil3 ⟨hq,h⟩)
noncomputable abbrev keyO(d:Addr)(i n ep:Nat):Obj:={cls:=.type "dict_keyiterator",data:=.fields #[.ref d,.int i 0,.int n 0,.int ep 0]}
theorem Itr.keys(hA:A.handled=none){d:Addr}{od:Obj}{kvs:List (Int×Value)}{ep:Nat}{es:Array DictEntry}(hd:G d=some od)(hx:od.ExactDict)(hdat:od.data=.dict es ep)(hks:KeysOf (intKind prog w) es)(hps:Pairs (intKind prog w) es.toList kvs)(hn:(kvs.map (·.1)).Nodup)(I:Addr):
 Itr prog w A G I kvs.length (fun i v=>∃a t,(kvs.map (·.1))[i]? =some a∧v=.int a t) (fun i o=>o.cls=.type "dict_keyiterator"∧o.data=.fields #[.ref d,.int i 0,.int kvs.length 0,.int ep 0]) where
 item:=by
  intro i s o Q E hlt hs ho nq82;obtain⟨h1,h2⟩:=nq82;intro k;have hD:s.heap.DictAt (intKind prog w) d kvs ep:=⟨od,es,hs _ _ hd,hx,hdat,hks,hps,hn⟩;obtain⟨⟨a,v⟩,hkv⟩:∃p,kvs[i]? =some p:=⟨kvs[i],List.getElem?_eq_getElem hlt⟩;refine wpAny_pyNext_dict_item ⟨o,ho,h1,h2⟩ hD hkv fun key h' hkey ⟨o',x1,x2,x3⟩ hsb=>k key h' o' s.toks ?_ ⟨x2,x3⟩ x1 hsb;obtain⟨t,rfl⟩:∃t,key=.int a t:=by
   cases key with
   |int b t=>simp[intKind,Value.isInt]at hkey;exact⟨t,by rw[hkey]⟩
   |_=>simp[intKind,Value.isInt]at hkey
  exact⟨a,t,by simp[hkv],rfl⟩
 done:=by
  intro s o Q E hs ho nq83;obtain⟨h1,h2⟩:=nq83;intro k;have hD:s.heap.DictAt (intKind prog w) d kvs ep:=⟨od,es,hs _ _ hd,hx,hdat,hks,hps,hn⟩;exact wpAny_pyNext_dict_end hA ⟨o,ho,h1,h2⟩ hD (by simp) fun h' h1=>k h' s.toks fun b ob hb e=>h1 b ob hb e
theorem keys_it(S:St K r own G env vs led s){d:Addr}{od:Obj}{kvs:List (Int×Value)}{ep:Nat}{es:Array DictEntry}(hlow:(d==sysModules)=false)(hd:s.heap.get? d=some od)(hx:od.ExactDict)(hdat:od.data=.dict es ep)(hks:KeysOf (intKind prog w) es)(hps:Pairs (intKind prog w) es.toList kvs)(hn:(kvs.map (·.1)).Nodup)
 (h:∀I s',St K r own G env vs ((I,keyO d 0 kvs.length ep)::led) s'→Q (.ref I) s'):wpAny (model prog w) A (pyIter (.ref d)) Q E s:=
 wpAny_pyIter_dict hlow ⟨od,es,hd,hx,hdat,hks,hps,hn⟩ (h _ _ (S.push (keyO d 0 kvs.length ep) s.toks))
end
structure Fc where
 k:Nat
 q:Addr
 I:Addr
 L:Addr
 o:Obj
 j:Nat
 its:List Value
 m:Nat
 su:List Nat
noncomputable def fcL:List Fc→List (Addr×Obj)
 |[]=>[]
 |f::r=>(f.q,nxtO f.I)::(f.I,f.o)::fcL r
structure FcOk(G:GH)(ns:List Nd)(f:Fc):Prop where
 oc:f.o.cls=.type "list_iterator"
 od:f.o.data=.fields #[.ref f.L,.int f.j 0]
 gl:G f.L=some (listOf f.its.toArray f.m)
 it:IntsAre f.its (f.su.map fun m:Nat=>(m:Int))
 nd:∃n∈ns,n.k=f.k∧n.su=f.su
noncomputable def unseen(F:Int→Bool)(ns:List Nd):Nat:=ns.countP fun n=>!F n.k
noncomputable def remn(fr:List Fc):Nat:=(fr.map fun f=>f.su.length-f.j).sum
structure Dfs(G:GH)(ns:List Nd)(fr:List Fc)(F:Int→Bool)(c:Nat)(kvs:List (Int×Value))(stv:List Value):Prop where
 ok:∀f∈fr,FcOk G ns f
 desc:(fr.map (·.k)).Pairwise (· >·)
 ks:kvs.map (·.1)=fr.reverse.map fun f=>(f.k:Int)
 sv:IntsAre stv (fr.reverse.map fun f=>(f.k:Int))
 cnt:c+unseen F ns≤200
 len:fr.length+unseen F ns≤200
theorem unseen_add{F:Int→Bool}{k:Nat}(hF:F k=false):∀{ns:List Nd},(∃n∈ns,n.k=k)→unseen (fun k'=>F k'||decide (k'=(k:Int))) ns+1≤unseen F ns
 |[],⟨_,h,_⟩=>nomatch h
 |a::r,⟨n,hn,e⟩=>by
  have m:r.countP (fun n=>!(F n.k||decide ((n.k:Int)=(k:Int))))≤r.countP (fun n=>!F n.k):=by
   refine List.countP_mono_left fun x _ h=>?_;simp only[Bool.not_or,Bool.and_eq_true]at h;exact h.1
  show(a::r).countP (fun n=>!(F n.k||decide ((n.k:Int)=(k:Int))))+1≤(a::r).countP (fun n=>!F n.k);rw[List.countP_cons,List.countP_cons];by_cases ha:a.k=k
  ·have e1:(!(F a.k||decide ((a.k:Int)=(k:Int))))=false:=by simp[ha]
   have e2:(!F a.k)=true:=by rw[ha,hF];rfl
   rw[e1,e2];simpa using m
  ·have hn':n∈r:=by
    rcases List.mem_cons.mp hn with rfl|h
    ·exact absurd e ha
    ·exact h
   have ih:r.countP (fun n=>!(F n.k||decide ((n.k:Int)=(k:Int))))+1≤r.countP (fun n=>!F n.k):=unseen_add hF ⟨n,hn',e⟩;have:(!(F a.k||decide ((a.k:Int)=(k:Int))))= !F a.k:=by
    have:¬((a.k:Int)=(k:Int)):=J231 ha;simp[this]
   rw[this];exact J367 ih
theorem valueAt_some{kvs:List (Int×Value)}{k:Int}:(valueAt kvs k).isSome=true↔k∈kvs.map (·.1):=by
 unfold valueAt;rw[Option.isSome_map,List.find?_isSome,List.mem_map];exact⟨fun⟨x,h1,h2⟩=>⟨x,h1,by simpa using h2⟩,fun⟨x,h1,h2⟩=>⟨x,h1,by simpa using h2⟩⟩
theorem without_keys(kvs:List (Int×Value))(k:Int):(without kvs k).map (·.1)=(kvs.map (·.1)).filter fun x=>decide (x≠k):=by
 unfold without;rw[List.filter_map];rfl
theorem stored_keys{kvs:List (Int×Value)}{k:Int}{v:Value}(h:k∉kvs.map (·.1)):(stored kvs k v).map (·.1)=kvs.map (·.1)++[k]:=by
 unfold stored;rw[if_neg]
 ·simp
 ·intro hh;refine x1_1 (List.any_eq_true.mp hh) fun p hp e=>?_;exact h (List.mem_map.mpr ⟨p,hp,by simpa using e⟩)
theorem ints_unsnoc{ns:List Int}{a:Int}:∀{vs:List Value},IntsAre vs (ns++[a])→∃ws t,vs=ws++[.int a t]∧IntsAre ws ns:=by
 induction ns with
 |nil=>
  intro vs h;refine x2_1 (ints_consI h) fun t ws eq2=>?_;subst eq2;intro h2;rw[ints_nilI h2];exact⟨[],t,rfl,.nil⟩
 |cons b r ih=>
  intro vs h;refine x2_1 (ints_consI h) fun t ws eq2=>?_;subst eq2;intro h2;refine x2_1 (ih h2) fun ws' u eq2=>?_;subst eq2;intro h3;exact⟨.int b t::ws',u,rfl,.cons _ _ h3⟩
noncomputable def whBody(s:Option Stmt):List Stmt:=(stB s).1
noncomputable def ifElse(s:Option Stmt):List Stmt:=(stB s).2.1
noncomputable def cycFor:List Stmt:=forBody ((bodyOf (inCls (topSt 15) 8))[5]?)
noncomputable def cycWh:List Stmt:=whBody (cycFor[1]?)
noncomputable def cycPush:List Stmt:=ifElse (cycWh[0]?)
theorem cyc_fn(pm:Value):FnOk (fdOf (inCls (topSt 15) 8) "TopologicalSorter._find_cycle" .none 179 pm) ["self"] ["n2i","stack","itstack","seen","node2stacki","node"] (bodyOf (inCls (topSt 15) 8)) where
 body:=rfl
 clo:=rfl
 gl:=rfl
 bi:=rfl
 fn:=rfl
 co:=rfl
 gen:=rfl
 bind:=by
  intro vals h;obtain⟨a,rfl⟩:=len1 h;rfl
 ndS:=show((scopeOf (inCls (topSt 15) 8)).names.map (·.1)).Nodup by decide+kernel
 names:=names_ok (sc:=scopeOf (inCls (topSt 15) 8)) (by decide+kernel)
 nd:=by decide+kernel
structure Frz(prog:Program)(w:World)(xS dS nD:Addr)(rdy:Value)(np nf:Int)(ns:List Nd)(gled:List (Addr×Obj))(G:GH):Prop where
 g:Gr prog w xS dS nD rdy np nf ns gled
 at_:∀p∈gled,G p.1=some p.2
 low:(nD==sysModules)=false
 up:∀n∈ns,∀m∈n.su,n.k<m∧m∈ns.map (·.k)
theorem Frz.mono{prog:Program}{w:World}{xS dS nD:Addr}{rdy:Value}{np nf:Int}{ns:List Nd}{gled:List (Addr×Obj)}{G G':GH}(h:Frz prog w xS dS nD rdy np nf ns gled G)(hg:GLe G G'):Frz prog w xS dS nD rdy np nf ns gled G':=⟨h.g,fun p hp=>hg _ _ (h.at_ p hp),h.low,h.up⟩
noncomputable abbrev cyV(xS nD sk ik se n2:Addr)(v:Option Value):Vs:=[("self",some (.ref xS)),("n2i",some (.ref nD)),("stack",some (.ref sk)),("itstack",some (.ref ik)),("seen",some (.ref se)),("node2stacki",some (.ref n2)),("node",v)]
noncomputable abbrev qs(fr:List Fc):List Value:=fr.reverse.map fun f=>.ref f.q
noncomputable abbrev cyX(it:Addr)(oi:Obj)(n2:Addr)(oN:Obj)(se:Addr)(oS:Obj)(ik:Addr)(lq:List Value)(mi:Nat)(sk:Addr)(ls:List Value)(ms:Nat)(rest:List (Addr×Obj)):List (Addr×Obj):=(it,oi)::(n2,oN)::(se,oS)::(ik,listOf lq.toArray mi)::(sk,listOf ls.toArray ms)::rest
noncomputable abbrev cyL(sk ik se n2:Addr)(oN oS:Obj)(mi ms:Nat)(stv:List Value)(fr:List Fc)(fs:List (Addr×Obj)):List (Addr×Obj):=(n2,oN)::(se,oS)::(ik,listOf (qs fr).toArray mi)::(sk,listOf stv.toArray ms)::(fcL fr++fs)
section
variable{prog:Program}{w:World}{A:Around}{E:Value→Shared→Prop}{K:GH}{mg mb:Str→Option Value}{p0 p1 p2 p3:Value}{Fg:Frag}{dV:Addr}{r s:Shared}{G:GH}{env:Env}{Q:Flow→Shared→Prop}
theorem cyc_push(B:B3 Fg K mg mb p0 p1 p2 p3 dV)(gl:Gl env ["set","iter","len","StopIteration"]){xS dS nD:Addr}{rdy:Value}{np nf:Int}{ns:List Nd}{gled fs:List (Addr×Obj)}(Z:Frz prog w xS dS nD rdy np nf ns gled G)
 {it sk ik se n2:Addr} {oi oN oS:Obj} {mi ms:Nat} {stv:List Value} {fr:List Fc} {F:Int→Bool} {c:Nat} {kvs:List (Int×Value)} {k:Nat} {tk:Tok} {n0:Nd} (hn0:n0∈ns) (hk0:n0.k=k) (hF:F k=false) (hgt:∀f∈fr,f.k<k)
 (hN:oN.IsDictOf (intKind prog w) kvs) (hS:oS.SetObjOf (intKind prog w) F c) (D:Dfs G ns fr F c kvs stv)
 (S:St K r yes G env (cyV xS nD sk ik se n2 (some (.int k tk))) ((it,oi)::cyL sk ik se n2 oN oS mi ms stv fr fs) s)
 (kk:∀s' oN' oS' mi' ms' stv' f F' c' kvs',oN'.IsDictOf (intKind prog w) kvs'→oS'.SetObjOf (intKind prog w) F' c'→Dfs G ns (f::fr) F' c' kvs' stv'→f.k=k→f.j=0→f.su=n0.su→unseen F' ns+1≤unseen F ns→(∀x,F x=true→F' x=true)→
  St K r yes G env (cyV xS nD sk ik se n2 (some (.int k tk))) ((it,oi)::cyL sk ik se n2 oN' oS' mi' ms' stv' (f::fr) fs) s'→Q .next s'):
 wpAny (model prog w) A (execs cycPush env) Q E s:=by
 have hcnt:=D.cnt;have hus:unseen F ns≤200:=J197 hcnt;have hkn:(k:Int)∉kvs.map (·.1):=by
  rw[D.ks];intro h;refine x1_1 (List.mem_map.mp h) fun f hf e=>?_;have:=hgt f (List.mem_reverse.mp hf);exact J265 e this
 have hua:=unseen_add (k:=k) hF (ns:=ns) ⟨n0,hn0,hk0⟩;have hlen:fr.length≤200:=by have:=D.len;exact J384 this
 have hkl:kvs.length≤200:=by
  have:=congrArg List.length D.ks;simp at this;exact J309 this hlen
 have hsl:stv.length≤200:=by
  have:=D.sv.length;simp at this;exact J309 this hlen
 refine xc (x_any S (meth PySem.F.plainAttrs_set PySem.F.slot_set_add PySem.F.type_set_add ?_));walk_at"name";obtain⟨hex,hSr⟩:=hS;refine⟨se,oS,rfl,S.get (by walk_at"mem"),hex.1,hex.2.1,callWith_method1 (arg ?_)⟩;walk_at"name";refine argE (sadd (led':=fun o'=>(it,oi)::cyL sk ik se n2 oN o' mi ms stv fr fs) S (fun o'=>by walk_at"up") ⟨hex,hSr⟩ (J196 hcnt) fun oS1 s₁ hS1 S=>?_);rw[hF]at hS1;simp only[Bool.false_eq_true,if_false]at hS1;obtain⟨hdm,nq84,its,mL,hLm,hLi⟩:=Z.g.nd n0 hn0;obtain⟨u1,u2,hxm⟩:=nq84;refine xc (x_any S (meth PySem.F.plainAttrs_list PySem.F.slot_list_append PySem.F.type_list_append ?_));walk_at"name";refine⟨ik,_,rfl,S.get (by walk_at"mem"),rfl,rfl,callWith_method1 (arg (Attribute_any_ (cblt S B.toTp gl B.b_iter (by walk_at"mem") (arg (Attribute_any_ (Subscript_ ?_))))))⟩;walk_at"name";walk_at"name";refine x1_1 Z.g.n2i fun o ho hod=>?_;refine dget S (S.at (Z.at_ _ ho)) hod int_is (valueAt_n2i Z.g.keys n0 hn0 hk0) fun s₁ S=>?_;refine g_slot B.fgin B.cN B.sSu S (inst_of (S.at (Z.at_ _ hxm)) (S.at (Z.at_ _ hdm))) (v:=.ref n0.L) rfl rfl fun s₁ S=>?_;refine argE (iter_lst S (S.at (Z.at_ _ hLm)) fun I s₁ S=>?_);refine nxt_attr S (.head _) rfl rfl rfl fun q s₁ S=>?_;refine argE (app_lst (led':=fun n'=>(q,nxtO I)::(I,lsIt n0.L 0)::cyX it oi n2 oN se oS1 ik (qs fr++[Value.ref q]) n' sk stv ms (fcL fr++fs)) S (fun n'=>by walk_at"up") (by simp;exact J121 hlen) fun mi' s₁ S=>?_);refine xc (xasg ?_);refine cblt S B.toTp gl B.b_len (by walk_at"mem") (arg ?_);walk_at"name";refine argE (len_lst S (S.get (by walk_at"mem")) (J122 hsl) fun tl s₁ S=>?_);walk_at"name";walk_at"name";refine dset (led':=fun o'=>(q,nxtO I)::(I,lsIt n0.L 0)::cyX it oi n2 o' se oS1 ik (qs fr++[Value.ref q]) mi' sk stv ms (fcL fr++fs)) S (fun o'=>by walk_at"up") hN int_is (J120 hkl) fun oN' s₁ hN' S=>?_;refine xc (x_any S (meth PySem.F.plainAttrs_list PySem.F.slot_list_append PySem.F.type_list_append ?_));walk_at"name";refine⟨sk,_,rfl,S.get (by walk_at"mem"),rfl,rfl,callWith_method1 (arg ?_)⟩;walk_at"name";refine argE (app_lst (led':=fun n'=>(q,nxtO I)::(I,lsIt n0.L 0)::cyX it oi n2 oN' se oS1 ik (qs fr++[Value.ref q]) mi' sk (stv++[Value.int k tk]) n' (fcL fr++fs)) S (fun n'=>by walk_at"up") (J121 hsl) fun ms' s₁ S=>?_);have S:=S.perm (led':=cyX it oi n2 oN' se oS1 ik (qs fr++[Value.ref q]) mi' sk (stv++[Value.int k tk]) ms' ((q,nxtO I)::(I,lsIt n0.L 0)::(fcL fr++fs)))
  (List.Perm.append_right (fcL fr++fs) (List.perm_append_comm (l₁:=[(q,nxtO I),(I,lsIt n0.L 0)]) (l₂:=cyX it oi n2 oN' se oS1 ik (qs fr++[Value.ref q]) mi' sk (stv++[Value.int k tk]) ms' [])))
 have hq:qs (⟨k,q,I,n0.L,lsIt n0.L 0,0,its,mL,n0.su⟩::fr)=qs fr++[Value.ref q]:=by simp[qs]
 refine xn (kk s₁ oN' oS1 mi' ms' _ ⟨k,q,I,n0.L,lsIt n0.L 0,0,its,mL,n0.su⟩ _ _ _ hN' hS1 ⟨?_,?_,?_,?_,?_,?_⟩ rfl rfl rfl hua (fun x hx=>by simp[hx]) (by show St K r yes G env _ ((it,oi)::(n2,oN')::(se,oS1)::(ik,listOf (qs (_::fr)).toArray mi')::_) s₁;rw[hq];exact S))
 ·intro f hf;rcases List.mem_cons.mp hf with rfl|hf
  ·exact⟨rfl,rfl,Z.at_ _ hLm,hLi,n0,hn0,hk0,rfl⟩
  ·exact D.ok f hf
 ·rw[List.map_cons,List.pairwise_cons];refine⟨fun a ha=>?_,D.desc⟩;refine x1_1 (List.mem_map.mp ha) fun f hf eq2=>?_;subst eq2;exact hgt f hf
 ·rw[stored_keys hkn,D.ks];simp
 ·rw[List.reverse_cons,List.map_append];exact ints_snoc D.sv k tk
 ·exact J383 hua hcnt
 ·have:=D.len;simp only[List.length_cons];exact J383 hua this
end
noncomputable def cycInner:List Stmt:=cycWh.drop 1
theorem qs_cons(f:Fc)(fr:List Fc):qs (f::fr)=qs fr++[Value.ref f.q]:=by simp[qs]
section
variable{prog:Program}{w:World}{A:Around}{E:Value→Shared→Prop}{K:GH}{mg mb:Str→Option Value}{p0 p1 p2 p3:Value}{Fg:Frag}{dV:Addr}{r s:Shared}{G:GH}{env:Env}{Q:Flow→Shared→Prop}
theorem Dfs.pop{ns:List Nd}{f:Fc}{fr:List Fc}{F:Int→Bool}{c:Nat}{kvs:List (Int×Value)}{stv:List Value}(D:Dfs G ns (f::fr) F c kvs stv):∃stv' t,stv=stv'++[.int f.k t]∧Dfs G ns fr F c (without kvs f.k) stv'∧(valueAt kvs f.k).isSome=true∧(∀g∈fr,g.k<f.k):=by
 obtain⟨h1,h2,h3,h4,h5,h6⟩:=D;rw[List.map_cons,List.pairwise_cons]at h2;have hlt:∀g∈fr,g.k<f.k:=fun g hg=>h2.1 _ (List.mem_map_of_mem (f:=(·.k)) hg);rw[List.reverse_cons,List.map_append]at h3 h4;refine x2_1 (ints_unsnoc h4) fun ws t e h4'=>?_;refine⟨ws,t,e,⟨fun g hg=>h1 g (.tail _ hg),h2.2,?_,h4',h5,by simp only[List.length_cons]at h6;exact J183 h6⟩,?_,hlt⟩
 ·rw[without_keys,h3,List.filter_append];have e1:([f].map fun f=>(f.k:Int)).filter (fun x=>decide (x≠(f.k:Int)))=[]:=by simp
  rw[e1,List.append_nil,List.filter_eq_self];intro x hx;refine x1_1 (List.mem_map.mp hx) fun g hg eq2=>?_;subst eq2;have:=hlt g (List.mem_reverse.mp hg);simp;exact J217 this
 ·rw[valueAt_some,h3];simp
theorem remn_cons(f:Fc)(fr:List Fc):remn (f::fr)=(f.su.length-f.j)+remn fr:=by simp[remn]
theorem cyc_inner{outer:List Env}(B:B3 Fg K mg mb p0 p1 p2 p3 dV)(gl:Gl env ["set","iter","len","StopIteration"])(hA:A.handled=none)(hfr:A.frames=some (env::outer))(hf:env.frame=some env.locals){xS dS nD:Addr}{rdy:Value}{np nf:Int}{ns:List Nd}{gled fs:List (Addr×Obj)}(Z:Frz prog w xS dS nD rdy np nf ns gled G)(hF:FrOk outer fs)
 {it sk ik se n2:Addr} {oi oN oS:Obj} {mi ms:Nat} {stv:List Value} {fr:List Fc} {F:Int→Bool} {c:Nat} {kvs:List (Int×Value)} {v:Option Value}
 (hN:oN.IsDictOf (intKind prog w) kvs) (D:Dfs G ns fr F c kvs stv)
 (S:St K r yes G env (cyV xS nD sk ik se n2 v) ((it,oi)::cyL sk ik se n2 oN oS mi ms stv fr fs) s)
 (kb:∀s' oN' mi' ms' stv' fr' kvs' fs' m t,oN'.IsDictOf (intKind prog w) kvs'→Dfs G ns fr' F c kvs' stv'→SlE fs fs'→(∃n∈ns,n.k=m)→(∀f∈fr',f.k<m)→remn fr'+1≤remn fr→
  St K r yes G env (cyV xS nD sk ik se n2 (some (.int (m:Nat) t))) ((it,oi)::cyL sk ik se n2 oN' oS mi' ms' stv' fr' fs') s'→Q .next s')
 (ke:∀s' oN' mi' ms' fs' v',oN'.IsDictOf (intKind prog w) []→SlE fs fs'→c+unseen F ns≤200→unseen F ns≤200→
  St K r yes G env (cyV xS nD sk ik se n2 v') ((it,oi)::cyL sk ik se n2 oN' oS mi' ms' [] [] fs') s'→Q .brk s'):
 wpAny (model prog w) A (execs cycInner env) Q E s:=by
 refine xc (whlN (fun n sa=>∀P:Prop,(∀oN' mi' ms' stv' fr' kvs' fs' v',n=fr'.length→oN'.IsDictOf (intKind prog w) kvs'→Dfs G ns fr' F c kvs' stv'→SlE fs fs'→remn fr'≤remn fr→
  St K r yes G env (cyV xS nD sk ik se n2 v') ((it,oi)::cyL sk ik se n2 oN' oS mi' ms' stv' fr' fs') sa→P)→P) fr.length (fun _ k=>k oN mi ms stv fr kvs fs v rfl hN D (SlE.refl _) (Nat.le_refl _) S) ?_)
 clear S D hN;intro n sa N hNn hI E';refine hI _ fun oN' mi' ms' stv' fr' kvs' fs' v' hn hN D hsl hrem S=>?_;subst hn;clear hI;have hlen:=D.len;have hkl:kvs'.length≤200:=by
  have:=congrArg List.length D.ks;simp at this;exact J402 hlen this
 have hstl:stv'.length=fr'.length:=by
  have:=D.sv.length;simpa using this
 refine wpAny_isTrue_value ?_;walk_at"name";refine truthy_lst S (S.get (by walk_at"mem")) (J401 hlen hstl) fun sa S=>?_;cases fr' with
 |nil=>
  have hs0:stv'=[]:=by cases stv' with|nil=>rfl|cons=>simp at hstl
  have hk0:kvs'=[]:=by have:=D.ks;simpa using this
  subst hs0 hk0;refine if_f (by simp) ?_;refine xc (wpAny_Break ?_);have hc:=D.cnt;exact ke _ _ _ _ _ _ hN hsl hc (J197 hlen) S
 |cons f fr'=>
  refine x2_3 D.pop fun stv' t eq2=>?_;subst eq2;intro D' hv hlt;have hok:=D.ok f (.head _);refine if_t (by simp) ?_;have S:St K r yes G env (cyV xS nD sk ik se n2 v') (cyX it oi n2 oN' se oS ik (qs fr'++[Value.ref f.q]) mi' sk (stv'++[Value.int f.k t]) ms' ((f.q,nxtO f.I)::(f.I,f.o)::(fcL fr'++fs'))) sa:=by
   rw[←qs_cons];exact S
  refine xc (wpAny_Try_except ?_);refine xc (a_name (Call_ (Subscript_ ?_)));walk_at"name";refine wpAny_UnaryOp ?_;walk_at"int";intro t1 sa S;refine b_neg S fun t2 sa S=>?_;refine item_last (items:=qs fr') (y:=.ref f.q) (S.get (by walk_at"mem")) ?_;refine cw_nxt (S.get (by walk_at"mem")) ?_;refine nxt_call hA S (S.get (by walk_at"mem")) hok.oc hok.od (S.at hok.gl) (led':=fun o'=>cyX it oi n2 oN' se oS ik (qs fr'++[Value.ref f.q]) mi' sk (stv'++[Value.int f.k t]) ms' ((f.q,nxtO f.I)::(f.I,o')::(fcL fr'++fs'))) (fun o'=>by walk_at"up") ?_ ?_
  ·intro vv o' sb hv hoc hod S;refine x2_1 (ints_get hok.it hv) fun a ta ha eq3=>?_;subst eq3;rw[List.getElem?_map]at ha;refine x1_1 (Option.map_eq_some_iff.mp ha) fun m hm eq2=>?_;subst eq2;obtain⟨hj,_⟩:=List.getElem?_eq_some_iff.mp hm;refine x1_2 hok.nd fun n0 hn0 hnk hns=>?_;have hup:=Z.up n0 hn0 m (by rw[hns];exact List.mem_of_getElem? hm);refine S.store (by walk_at"pv") (.inl rfl) fun sb S=>?_;refine xc (wpAny_Break ?_);refine xn (kb sb oN' mi' ms' _ ({f with j:=f.j+1,o:=o'}::fr') kvs' fs' m ta hN ⟨?_,D.desc,by have:=D.ks;simpa using this,by have:=D.sv;simpa using this,D.cnt,D.len⟩ hsl ?_ ?_ ?_ ?_)
   ·intro g hg;rcases List.mem_cons.mp hg with rfl|hg
    ·exact⟨hoc,hod,hok.gl,hok.it,hok.nd⟩
    ·exact D.ok g (.tail _ hg)
   ·refine x1_1 (List.mem_map.mp hup.2) fun nn h1 h2=>?_;exact⟨nn,h1,h2⟩
   ·intro g hg;have h0:f.k<m:=by rw[←hnk];exact hup.1
    rcases List.mem_cons.mp hg with rfl|hg
    ·exact h0
    ·exact Nat.lt_trans (hlt g hg) h0
   ·rw[remn_cons]at hrem⊢;show f.su.length-(f.j+1)+remn fr'+1≤_;exact J496 hrem hj
   ·show St K r yes G env _ ((it,oi)::(n2,oN')::(se,oS)::(ik,listOf (qs ({f with j:=f.j+1,o:=o'}::fr')).toArray mi')::_) sb;rw[qs_cons];exact S
  ·intro e oe o' xs sb _ hec hed hx1 S;refine caught_stop (led:=cyX it oi n2 oN' se oS ik (qs fr'++[Value.ref f.q]) mi' sk (stv'++[Value.int f.k t]) ms' ((f.q,nxtO f.I)::(f.I,o')::fcL fr')) (fs:=fs') B.toTp gl B.bStop (by walk_at"mem") S hfr (hF.slots hsl) hf hec hed hx1 fun fs2 sb E2 hsl2 S=>?_;have S:St K r yes G env (cyV xS nD sk ik se n2 v') (cyX it oi n2 oN' se oS ik (qs fr'++[Value.ref f.q]) mi' sk (stv'++[Value.int f.k t]) ms' ((f.q,nxtO f.I)::(f.I,o')::(fcL fr'++fs2))) sb:=S;refine xc (wpAny_Delete (wpAny_deleteEach_cons (delete_Subscript ?_)));walk_at"name";refine meth PySem.F.plainAttrs_list PySem.F.slot_list_pop PySem.F.type_list_pop ?_;walk_at"name";simp only[List.length_cons]at hlen hstl;have hst':stv'.length<1000:=by simp at hstl;exact J381 hlen hstl
   refine⟨sk,_,rfl,S.get (by walk_at"mem"),rfl,rfl,pop_lst (led':=fun n'=>cyX it oi n2 oN' se oS ik (qs fr'++[Value.ref f.q]) mi' sk stv' n' ((f.q,nxtO f.I)::(f.I,o')::(fcL fr'++fs2))) S (fun n'=>by walk_at"up") hst' fun ms2 sb S=>?_⟩;refine ddel (led':=fun oN2=>cyX it oi n2 oN2 se oS ik (qs fr'++[Value.ref f.q]) mi' sk stv' ms2 ((f.q,nxtO f.I)::(f.I,o')::(fcL fr'++fs2))) S (fun oN2=>by walk_at"up") hN (J120 hkl) hv fun oN2 sb hN2 S=>?_;refine wpAny_deleteEach_nil ?_;refine xc (x_any S (meth PySem.F.plainAttrs_list PySem.F.slot_list_pop PySem.F.type_list_pop ?_));walk_at"name";have hql:(qs fr').length<1000:=by simp[qs];exact J382 hlen
   refine⟨ik,_,rfl,S.get (by walk_at"mem"),rfl,rfl,pop_lst (led':=fun n'=>cyX it oi n2 oN2 se oS ik (qs fr') n' sk stv' ms2 ((f.q,nxtO f.I)::(f.I,o')::(fcL fr'++fs2))) S (fun n'=>by walk_at"up") hql fun mi2 sb S=>?_⟩;refine xn (xn (hNn fr'.length _ (by simp) fun _ k=>k oN2 mi2 ms2 stv' fr' (without kvs' f.k) fs2 v' rfl hN2 D' (hsl.trans hsl2) ?_ ?_))
   ·rw[remn_cons]at hrem;exact J486 hrem
   ·exact S.less (.cons_cons _ (.cons_cons _ (.cons_cons _ (.cons_cons _ (.cons_cons _ (.cons _ (.cons _ (List.Sublist.refl _))))))))
end
section
variable{prog:Program}{w:World}{A:Around}{E:Value→Shared→Prop}{K:GH}{mg mb:Str→Option Value}{p0 p1 p2 p3:Value}{Fg:Frag}{dV:Addr}{r s:Shared}{G:GH}{env:Env}{Q:Flow→Shared→Prop}
theorem cyc_true{outer:List Env}(B:B3 Fg K mg mb p0 p1 p2 p3 dV)(gl:Gl env ["set","iter","len","StopIteration"])(hA:A.handled=none)(hfr:A.frames=some (env::outer))(hf:env.frame=some env.locals){xS dS nD:Addr}{rdy:Value}{np nf:Int}{ns:List Nd}{gled fs:List (Addr×Obj)}(Z:Frz prog w xS dS nD rdy np nf ns gled G)(hFr:FrOk outer fs)
 {it sk ik se n2:Addr} {oi oN oS:Obj} {mi ms:Nat} {F:Int→Bool} {c:Nat} {k:Nat} {tk:Tok} (hk:∃n∈ns,n.k=k)
 (hN:oN.IsDictOf (intKind prog w) []) (hS:oS.SetObjOf (intKind prog w) F c) (hc:c+unseen F ns≤200)
 (S:St K r yes G env (cyV xS nD sk ik se n2 (some (.int k tk))) ((it,oi)::cyL sk ik se n2 oN oS mi ms [] [] fs) s)
 (kk:∀s' oN' oS' mi' ms' F' c' fs' v',oN'.IsDictOf (intKind prog w) []→oS'.SetObjOf (intKind prog w) F' c'→SlE fs fs'→c'+unseen F' ns≤200→
  St K r yes G env (cyV xS nD sk ik se n2 v') ((it,oi)::cyL sk ik se n2 oN' oS' mi' ms' [] [] fs') s'→Q .next s'):
 wpAny (model prog w) A (execs (cycFor.drop 1) env) Q E s:=by
 refine xc (whlN (fun n sa=>∀P:Prop,(∀oN' oS' mi' ms' stv' fr' F' c' kvs' fs' k' tk',n=unseen F' ns*101+remn fr'→oN'.IsDictOf (intKind prog w) kvs'→oS'.SetObjOf (intKind prog w) F' c'→Dfs G ns fr' F' c' kvs' stv'→SlE fs fs'→(∃n∈ns,n.k=k')→(∀f∈fr',f.k<k')→
  St K r yes G env (cyV xS nD sk ik se n2 (some (.int (k':Nat) tk'))) ((it,oi)::cyL sk ik se n2 oN' oS' mi' ms' stv' fr' fs') sa→P)→P) _ (fun _ k=>k oN oS mi ms [] [] F c [] fs _ tk rfl hN hS ⟨(fun _ h=>nomatch h),.nil,rfl,.nil,hc,by simp;exact J197 hc⟩ (SlE.refl _) hk (fun _ h=>nomatch h) S) ?_)
 clear S hN hS hc hk;intro n sa N hNn hI E';refine hI _ fun oN oS mi ms stv fr F c kvs fs1 k tk hn hN hS D hsl hk hgt S=>?_;subst hn;clear hI;have hcnt:=D.cnt;refine wpAny_isTrue_value (wpAny_Constant_bool (wpAny_truthy_bool ?_));refine if_t rfl ?_;have inner:∀{oN oS:Obj} {mi ms:Nat} {stv:List Value} {fr2:List Fc} {F2:Int→Bool} {c:Nat} {kvs:List (Int×Value)} {v:Option Value} {sb:Shared},oN.IsDictOf (intKind prog w) kvs→oS.SetObjOf (intKind prog w) F2 c→Dfs G ns fr2 F2 c kvs stv→unseen F2 ns*101+remn fr2≤unseen F ns*101+remn fr→
  St K r yes G env (cyV xS nD sk ik se n2 v) ((it,oi)::cyL sk ik se n2 oN oS mi ms stv fr2 fs1) sb→
  wpAny (model prog w) A (execs cycInner env) (wq N (sq (model prog w) A env [] Q E)) E' sb:=by
  intro oN oS mi ms stv fr2 F2 c kvs v sb hN hS D hm S;refine cyc_inner B gl hA hfr hf Z (hFr.slots hsl) hN D S ?_ ?_
  ·intro s' oN' mi' ms' stv' fr' kvs' fs' m t hN' D' hsl' hmk hlt hr S;exact hNn (unseen F2 ns*101+remn fr') _ (J544 hm hr) fun _ k=>k oN' oS mi' ms' stv' fr' F2 c kvs' fs' m t rfl hN' hS D' (hsl.trans hsl') hmk hlt S
  ·intro s' oN' mi' ms' fs' v' hN' hsl' hc _ S;refine xn (kk s' oN' oS mi' ms' F2 c fs' v' hN' hS (hsl.trans hsl') hc S)
 refine x1_1 hk fun n0 hn0 hk0=>?_;clear hk;refine xc (xif (xcmp ?_));walk_at"name";walk_at"name";refine sin S (by walk_at"mem") hS (J196 hcnt) fun sb S=>wpAny_truthy_bool ?_;cases hFk:F k with
 |true=>
  refine if_t rfl ?_;refine xc (xif (xcmp ?_));walk_at"name";walk_at"name";refine din S B.mods (by walk_at"mem") hN fun sb S=>wpAny_truthy_bool ?_;have hnk:(valueAt kvs k).isSome=false:=by
   cases q:(valueAt kvs k).isSome with
   |false=>rfl
   |true=>
    rw[valueAt_some,D.ks]at q;refine x1_1 (List.mem_map.mp q) fun f hf e=>?_;have:=hgt f (List.mem_reverse.mp hf);exact(J265 e this).elim
  refine if_f (by rw[hnk];exact Bool.false_ne_true) ?_;refine xn (xn ?_);exact inner hN hS D (Nat.le_refl _) S
 |false=>
  refine if_f Bool.false_ne_true ?_;refine cyc_push B gl Z hn0 hk0 hFk hgt hN hS D S fun s' oN' oS' mi' ms' stv' f F' c' kvs' hN' hS' D' hfk hfj hfs hu _ S=>?_;have h100:=Z.g.shrt n0 hn0;refine inner hN' hS' D' ?_ S;rw[remn_cons,hfj,hfs];exact J494 hu h100
end
section
variable{prog:Program}{w:World}{K:GH}{mg mb:Str→Option Value}{p0 p1 p2 p3:Value}{Fg:Frag}{dV:Addr}
theorem cyc_ok{A:Around}{outer:List Env}(B:B3 Fg K mg mb p0 p1 p2 p3 dV)(hA:Rm 8 A)(hfr:A.frames=some outer){fs:List (Addr×Obj)}(hFr:FrOk outer fs){s:Shared}{xS dS nD:Addr}{rdy:Value}{np nf:Int}{ns:List Nd}{gled:List (Addr×Obj)}{R:Result→Shared→Prop}
 (hK:∀a o,K a=some o→s.heap.get? a=some o) (hl:∀p∈fs,s.heap.get? p.1=some p.2∧K p.1=none) (nd:(fs.map (·.1)).Nodup) (Z:Frz prog w xS dS nD rdy np nf ns gled (but fs s.heap))
 (kk:∀G2 env2 vs2 fs' s2,GLe (but fs s.heap) G2→SlE fs fs'→St K s yes G2 env2 vs2 fs' s2→R (.ok (.ret .none)) s2):
 codeAny (model prog w) A (.call (.ref 180) ⟨[.ref xS],[]⟩) R s:=by
 refine enterF (led:=fs) B.toTp B.fCyc (cyc_fn p1) hA.room rfl (vs:=[("self",some (.ref xS)),("n2i",none),("stack",none),("itstack",none),("seen",none),("node2stacki",none),("node",none)]) rfl hK hl nd fun env s' hkd hsc hf S=>?_;have hA':=hA.deep env;have hfr':=Around.frames_deeper (env:=env) hfr;have gl:Gl env ["set","iter","len","StopIteration"]:=Gl.of (sc:=scopeOf (inCls (topSt 15) 8)) hkd (by decide+kernel);refine xc (a_name (Attribute_Name_ ?_));walk_at"name";refine x7_1 (Z.g.sinst (h:=s'.heap) fun p hp=>S.at (Z.at_ p hp)) fun t1 t2 t3 t4 tp tf cc hs I=>?_;refine g_att B.fgin B.cS B.aN2i S I (v:=.ref nD) (by kernel_rfl) rfl fun s₁ S=>?_;refine S.store (by walk_at"pv") (.inl rfl) fun s₁ S=>?_;refine xc (a_name (lstE S (argE ⟨_,_,_,S,by simp,fun sk s₁ S=>?_⟩)));refine S.store (by walk_at"pv") (.inl rfl) fun s₁ S=>?_;refine xc (a_name (lstE S (argE ⟨_,_,_,S,by simp,fun ik s₁ S=>?_⟩)));refine S.store (by walk_at"pv") (.inl rfl) fun s₁ S=>?_;refine xc (a_name (Call_ (S.bltn B.toTp B.b_set.1 B.b_set.2 (gl _ (by walk_at"mem")).2 (callWith_type0 (snew S fun se ld s₁ S=>?_)) (gl _ (by walk_at"mem")).1)));refine S.store (by walk_at"pv") (.inl rfl) fun s₁ S=>?_;refine xc (a_name ?_);refine dnew S ?_;intro n2 s₁ S;refine S.store (by walk_at"pv") (.inl rfl) fun s₁ S=>?_;refine x1_1 Z.g.n2i fun o ho hod=>?_;have hd:=Z.at_ _ ho
 have hod':=hod;refine x2_4 hod fun es ep hx hdat hks hps hn=>?_;clear hod;refine xc (xfor ?_);walk_at"name";refine keys_it S Z.low (S.at hd) hx hdat hks hps hn fun it s₁ S=>?_;have hus:unseen (fun _=>false) ns≤200:=Nat.le_trans List.countP_le_length Z.g.few;refine forN (n:=(n2iK ns).length) (fun G' hg=>Itr.keys hA'.hd (hg _ _ hd) hx hdat hks hps hn it) (fun i G' vs' led'=>∀P:Prop,(∀oN oS mi ms F c fs' v,vs'=cyV xS nD sk ik se n2 v→led'=cyL sk ik se n2 oN oS mi ms [] [] fs'→oN.IsDictOf (intKind prog w) []→oS.SetObjOf (intKind prog w) F c→SlE fs fs'→c+unseen F ns≤200→P)→P)
  S ⟨rfl,rfl⟩ (fun _ k=>k emptyDict (setO ld) 0 0 (fun _=>false) 0 fs none rfl rfl empty_is (setObjOf_fresh ld) (SlE.refl _) (J119 hus)) ?_ ?_
 ·clear S;intro i v G' vs' led' oi sa E' N hi hv hG hNn hJ S;refine hJ _ fun oN oS mi ms F c fs' vn e1 e2 hN hS hsl hc=>?_;subst e1 e2;clear hJ;refine x2_1 hv fun a t ha eq3=>?_;clear hv;subst eq3;have ha':∃n∈ns,(n.k:Int)=a:=by
   have:=List.mem_of_getElem? ha;unfold n2iK at this;rw[List.map_map]at this;refine x1_1 (List.mem_map.mp this) fun n hn e=>?_;exact⟨n,hn,e⟩
  refine x1_1 ha' fun n0 hn0 eq2=>?_;clear ha';subst eq2;refine wpAny_assign_Name (S.store (by walk_at"pv") (.inl rfl) fun sa S=>?_);refine xc (xif (xcmp ?_));walk_at"name";walk_at"name";refine sin S (by walk_at"mem") hS (J196 hc) fun sb S=>wpAny_truthy_bool ?_;cases hFk:F n0.k with
  |true=>
   refine if_t rfl ?_;refine xc (wpAny_Continue ?_);exact hNn G' _ _ _ (GLe.refl _) S fun _ k=>k oN oS mi ms F c fs' _ rfl rfl hN hS hsl hc
  |false=>
   refine if_f Bool.false_ne_true ?_;refine xn ?_;refine cyc_true B gl hA'.hd hfr' hf (Z.mono hG) (hFr.slots hsl) ⟨n0,hn0,rfl⟩ hN hS hc S fun s' oN' oS' mi' ms' F' c' fs2 v' hN' hS' hsl' hc' S=>?_;exact hNn G' _ _ _ (GLe.refl _) S fun _ k=>k oN' oS' mi' ms' F' c' fs2 _ rfl rfl hN' hS' (hsl.trans hsl') hc'
 ·intro G' vs' led' sa E' hG hJ S;refine hJ _ fun oN oS mi ms F c fs' v e1 e2 hN hS hsl hc=>?_;subst e1 e2;refine xn (xc (xret (wpAny_Constant_none ?_)));refine kk G' _ _ fs' _ hG hsl (S.less ?_);exact .cons _ (.cons _ (.cons _ (.cons _ (List.Sublist.refl _))))
end
section
variable{prog:Program}{w:World}{A:Around}{E:Value→Shared→Prop}{R:Result→Shared→Prop}{K:GH}{mg mb:Str→Option Value}{r:Shared}{own:Str→Bool}{G:GH}{env:Env}{vs vs':Vs}{led led' rest:List (Addr×Obj)}{s:Shared}{Q:Value→Shared→Prop}
theorem St.freeze:∀{led0:List (Addr×Obj)} {G:GH},St K r own G env vs (led0++led) s→∃G',St K r own G' env vs led s∧GLe G G'∧∀p∈led0,G' p.1=some p.2
 |[],G,S=>⟨G,S,GLe.refl G,fun _ h=>nomatch h⟩
 |p::l,G,S=>by
  refine x1_2 (St.ice S) fun G1 S1 g1 h1=>?_;refine x1_2 (St.freeze (led0:=l) S1) fun G2 S2 g2 h2=>?_;refine⟨G2,S2,g1.trans g2,fun q hq=>?_⟩;rcases List.mem_cons.mp hq with rfl|hq
  ·exact g2 _ _ h1
  ·exact h2 q hq
theorem St.thaw{led0:List (Addr×Obj)}(S:St K r yes G env vs led s)(h:∀p∈led0,G p.1=some p.2∧K p.1=none)(nd:(led0.map (·.1)).Nodup):∃G',(∀a o,G a=some o→a∉led0.map (·.1)→G' a=some o)∧St K r yes G' env vs (led0++led) s:=by
 let G':GH:=fun a=>open Classical in if a∈led0.map (·.1)then none else G a
 have G'p:∀a o,G a=some o→a∉led0.map (·.1)→G' a=some o:=fun a o e hn=>by
  show(open Classical in if a∈led0.map (·.1)then none else G a)=_;rw[if_neg hn];exact e
 have G's:∀a o,G' a=some o→G a=some o:=fun a o e=>by
  have e':(open Classical in if a∈led0.map (·.1)then none else G a)=some o:=e
  split at e'
  ·cases e'
  ·exact e'
 have G'n:∀a,a∈led0.map (·.1)→G' a=none:=fun a h=>by
  show(open Classical in if a∈led0.map (·.1)then none else G a)=_;rw[if_pos h]
 have G'n2:∀a,G a=none→G' a=none:=fun a e=>by
  cases q:G' a with
  |none=>rfl
  |some o=>rw[G's a o q]at e;cases e
 refine⟨G',G'p,S.same,fun a o e=>G'p a o (S.base a o e) fun hm=>?_,fun a o e=>S.sub a o (G's a o e),S.eo,S.fm,G'n2 _ S.gl,fun x c hc=>?_,fun p hp=>?_,?_⟩
 ·refine x1_1 (List.mem_map.mp hm) fun p hp eq2=>?_;subst eq2;rw[(h p hp).2]at e;cases e
 ·rcases S.gc x c hc with⟨h1,h2⟩|⟨h1,_⟩
  ·exact .inl ⟨h1,G'n2 _ h2⟩
  ·cases h1
 ·rcases List.mem_append.mp hp with hp|hp
  ·refine⟨S.sub _ _ (h p hp).1,G'n _ (List.mem_map_of_mem (f:=(·.1)) hp),fun e=>?_,fun x c hc e=>?_⟩
   ·have:=(h p hp).1;rw[e,S.gl]at this;cases this
   ·rcases S.gc x c hc with⟨_,h2⟩|⟨h1,_⟩
    ·have:=(h p hp).1;rw[e,h2]at this;cases this
    ·cases h1
  ·exact⟨(S.ld p hp).1,G'n2 _ (S.ld p hp).2.1,(S.ld p hp).2.2⟩
 ·rw[List.map_append,List.nodup_append];refine⟨nd,S.nd,fun a ha b hb e=>?_⟩;refine x1_1 (List.mem_map.mp ha) fun p hp eq2=>?_;subst eq2;refine x1_1 (List.mem_map.mp hb) fun q hq eq2=>?_;subst eq2;have h1:=(h p hp).1;have h2:=(S.ld q hq).2.1;have e:p.1=q.1:=e;rw[e,h2]at h1;cases h1
noncomputable abbrev valO(d:Addr)(i n ep:Nat):Obj:={cls:=.type "dict_valueiterator",data:=.fields #[.ref d,.int i 0,.int n 0,.int ep 0]}
theorem Itr.vals(hA:A.handled=none){d:Addr}{od:Obj}{kvs:List (Int×Value)}{ep:Nat}{es:Array DictEntry}(hd:G d=some od)(hx:od.ExactDict)(hdat:od.data=.dict es ep)(hks:KeysOf (intKind prog w) es)(hps:Pairs (intKind prog w) es.toList kvs)(hn:(kvs.map (·.1)).Nodup)(I:Addr):
 Itr prog w A G I kvs.length (fun i v=>(kvs.map (·.2))[i]? =some v) (fun i o=>o.cls=.type "dict_valueiterator"∧o.data=.fields #[.ref d,.int i 0,.int kvs.length 0,.int ep 0]) where
 item:=by
  intro i s o Q E hlt hs ho nq85;obtain⟨h1,h2⟩:=nq85;intro k;have hD:s.heap.DictAt (intKind prog w) d kvs ep:=⟨od,es,hs _ _ hd,hx,hdat,hks,hps,hn⟩;obtain⟨⟨a,v⟩,hkv⟩:∃p,kvs[i]? =some p:=⟨kvs[i],List.getElem?_eq_getElem hlt⟩;refine wpAny_pyNext_values_item ⟨o,ho,h1,h2⟩ hD hkv fun h' ⟨o',x1,x2,x3⟩ hsb=>k v h' o' s.toks (by simp[hkv]) ⟨x2,x3⟩ x1 hsb
 done:=by
  intro s o Q E hs ho nq86;obtain⟨h1,h2⟩:=nq86;intro k;have hD:s.heap.DictAt (intKind prog w) d kvs ep:=⟨od,es,hs _ _ hd,hx,hdat,hks,hps,hn⟩;exact wpAny_pyNext_values_end hA ⟨o,ho,h1,h2⟩ hD (by simp) fun h' h1=>k h' s.toks fun b ob hb e=>h1 b ob hb e
theorem vals_it(S:St K r own G env vs led s){d:Addr}{od:Obj}{kvs:List (Int×Value)}{ep:Nat}{es:Array DictEntry}(hlow:(d==sysModules)=false)(hd:s.heap.get? d=some od)(hx:od.ExactDict)(hdat:od.data=.dict es ep)(hks:KeysOf (intKind prog w) es)(hps:Pairs (intKind prog w) es.toList kvs)(hn:(kvs.map (·.1)).Nodup)
 (h:∀I s',St K r own G env vs ((I,valO d 0 kvs.length ep)::led) s'→Q (.ref I) s'):
 wpAny (model prog w) A (call (.builtin "dict.values") [.ref d]) (fun x s₁=>wpAny (model prog w) A (pyIter x) Q E s₁) E s:=by
 have hD:s.heap.DictOf (intKind prog w) d kvs:=Heap.dictOf_iff.mpr ⟨od,hd,es,ep,hx,hdat,hks,hps,hn⟩;refine call_meetsIn F.slot_dict_values hD.typeIs F.entry_dict_values (F.args_dict_values_1 _) (meets_dict_values (intKind prog w) d hlow) ⟨⟨kvs,hD⟩,?_⟩;have S1:=S.push {cls:=.type "dict_values",data:=.fields #[.ref d]} s.toks;refine wpAny_pyIter_values (kvs:=kvs) (ep:=ep) (knd:=intKind prog w) ⟨_,S1.get (.head _),rfl,rfl⟩ ⟨od,es,Heap.get?_push_of_some _ hd,hx,hdat,hks,hps,hn⟩ ?_;exact h _ _ ((S1.push (valO d 0 kvs.length ep) s.toks).perm (.swap ..)).drop
theorem self_vals{I d:Addr}{o:Obj}{i n ep:Nat}{s:Shared}{Q:Value→Shared→Prop}(ho:s.heap.get? I=some o)(h1:o.cls=.type "dict_valueiterator")(h2:o.data=.fields #[.ref d,.int i 0,.int n 0,.int ep 0])(h:Q (.ref I) s):wpAny (model prog w) A (pyIter (.ref I)) Q E s:=
 wpAny_pyIter_valiter (d:=d) (i:=i) (n:=n) (ep:=ep) ⟨o,ho,h1,h2⟩ h
theorem setA_append(a b:List (Addr×Obj))(x:Addr)(o:Obj):setA (a++b) x o=setA a x o++setA b x o:=by unfold setA;rw[List.map_append]
end
theorem prep_fn(pm:Value):FnOk (fdOf (inCls (topSt 15) 3) "TopologicalSorter.prepare" .none 144 pm) ["self"] ["cycle"] (bodyOf (inCls (topSt 15) 3)) where
 body:=rfl
 clo:=rfl
 gl:=rfl
 bi:=rfl
 fn:=rfl
 co:=rfl
 gen:=rfl
 bind:=by
  intro vals h;obtain⟨a,rfl⟩:=len1 h;rfl
 ndS:=show((scopeOf (inCls (topSt 15) 3)).names.map (·.1)).Nodup by decide+kernel
 names:=names_ok (sc:=scopeOf (inCls (topSt 15) 3)) (by decide+kernel)
 nd:=by decide+kernel
noncomputable def rdyC(c:Cn):List Nat:=(c.filter fun e=>e.2.1==0).map (·.1)
theorem rdy_pick(ns:List Nd):(List.range ns.length).filterMap (fun j=>(ns[j]?).bind fun n=>if n.np==0 then some (D.int (n.k:Int))else none)=((rdyC (cont ns)).map fun m:Nat=>(m:Int)).map D.int:=by
 have h:=range_filter ns (fun n=>n.np==0) (fun n=>D.int (n.k:Int));rw[h];unfold rdyC cont;rw[List.filter_map,List.map_map,List.map_map,List.map_map];rfl
section
variable{prog:Program}{w:World}{K:GH}{mg mb:Str→Option Value}{p0 p1 p2 p3:Value}{Fg:Frag}{dV:Addr}
theorem prep_ok{A:Around}{outer:List Env}(B:B3 Fg K mg mb p0 p1 p2 p3 dV)(hA:Rm 12 A)(hfr:A.frames=some outer){fs:List (Addr×Obj)}(hFr:FrOk outer fs){s:Shared}{xS dS nD:Addr}{np nf:Int}{ns:List Nd}{led:List (Addr×Obj)}{R:Result→Shared→Prop}
 (hK:∀a o,K a=some o→s.heap.get? a=some o) (hl:∀p∈fs++led,s.heap.get? p.1=some p.2∧K p.1=none) (nd:((fs++led).map (·.1)).Nodup) (g:Gr prog w xS dS nD .none np nf ns led)
 (hup:∀n∈ns,∀m∈n.su,n.k<m∧m∈ns.map (·.k)) (hfew:ns.length≤50)
 (kk:∀G2 env2 vs2 fs' led2 s2 rl,GLe (but (fs++led) s.heap) G2→SlE fs fs'→St K s yes G2 env2 vs2 (fs'++led2) s2→Gr prog w xS dS nD (.ref rl) np nf ns led2→Rd rl (rdyC (cont ns)) ns led2→R (.ok (.ret .none)) s2):
 codeAny (model prog w) A (.call (.ref 145) ⟨[.ref xS],[]⟩) R s:=by
 refine enterF (led:=fs++led) B.toTp B.fPrep (prep_fn p1) hA.room rfl (vs:=[("self",some (.ref xS)),("cycle",none)]) rfl hK hl nd fun env s' hkd hsc hf S=>?_;have hA':=hA.deep env;have hfr':=Around.frames_deeper (env:=env) hfr;have gF:∀p∈fs++led,but (fs++led) s.heap p.1=none:=fun p hp=>(S.ld p hp).2.1;generalize hG0:but (fs++led) s.heap=G0 at S gF⊢;have gm:Gr prog w xS dS nD .none np nf ns (fs++led):=g.more fun p hp=>List.mem_append_right _ hp;refine xc (xif (xcmp (Attribute_Name_ ?_)));walk_at"name";refine selfA B B.aRdy S gm fun t1 t2 t3 t4 tp tf=>⟨.none,by kernel_rfl,rfl,fun s₁ S=>?_⟩;refine wpAny_Constant_none (wpAny_isNot_self rfl (wpAny_truthy_bool ?_));refine if_f Bool.false_ne_true ?_;refine xn ?_;refine xc (plainObj_wpAny_Assign_Attribute (lcomp (fr:=[]) (los:=["i"]) (owns:=[]) S (CompSc.of (show compScB _ ["i"] [] []=true by decide+kernel)) (fun _ h=>nomatch h) ?_));refine meth PySem.F.plainAttrs_dict PySem.F.slot_dict_values PySem.F.type_dict_values (Attribute_Name_ ?_);walk_at"name";refine selfA B B.aN2i S gm fun t1 t2 t3 t4 tp tf=>⟨.ref nD,by kernel_rfl,rfl,fun s₁ S=>?_⟩;refine x1_1 g.n2i fun o ho hod=>?_;have ho':(nD,o)∈fs++led:=List.mem_append_right _ ho;have hlow:=S.low B.mods ho';have hod':=hod;refine x2_4 hod fun es ep hx hdat hks hps hn=>?_;clear hod;refine⟨nD,o,rfl,S.get ho',hx.1,hx.2.1,callWith_method0 ?_⟩;have hndL:=S.nd;refine x1_2 (St.freeze (led0:=led) (S.perm List.perm_append_comm)) fun G1 S g1 hfz=>?_;have hdG:=hfz _ ho;have hkl:(n2iK ns).length=ns.length:=by simp[n2iK]
 refine vals_it S hlow (S.at hdG) hx hdat hks hps hn fun it s₁ S=>?_;refine comp_go (os:=[(it,_)]) (fr:=[]) (los:=["i"]) (owns:=[]) (n:=(n2iK ns).length) (CompSc.of (show compScB _ ["i"] [] []=true by decide+kernel)) (fun _ h=>nomatch h) (fun G'' cenv hg=>Src.of (Itr.vals hA'.hd (hg _ _ hdG) hx hdat hks hps hn it)) (fun s Q E ho hQ=>self_vals (ho _ (.head _)) rfl rfl hQ) S ⟨_,rfl,rfl,rfl⟩ (J311 hkl hfew)
  (fun j=>(ns[j]?).bind fun n=>if n.np==0 then some (D.int (n.k:Int))else none) ?_ ?_
 ·intro j ws G'' cenv lv ledc sb E'' Y N hj h hG'' hled CE hlv hY hN;clear S;refine x1_1 h fun v eq1=>?_;clear h;subst eq1;intro hv;have hj':j<ns.length:=J419 hj hkl;have hv':v=.ref ns[j].x:=by
   simp[n2iK,hj']at hv;exact hv.symm
  subst hv';rw[List.getElem?_eq_getElem hj'];have hmem:=List.getElem_mem hj';generalize ns[j]=n at hmem⊢;obtain⟨hdm,nq87,_⟩:=g.nd n hmem;obtain⟨u1,u2,hxm⟩:=nq87;refine lenE1 hlv fun v0=>?_;intro(S:St K s (owf []) G'' cenv [("i",v0)] ledc sb);refine wpAny_assign_Name (S.store (vs':=[("i",some (.ref n.x))]) .here (CE.st _ (.head _)) fun sb S=>?_);refine tuq_one (xcmp (Attribute_Name_ ?_));walk_at"name";refine g_slot B.fgin B.cN B.sNp S (inst_of (S.at (hG'' _ _ (hfz _ hxm))) (S.at (hG'' _ _ (hfz _ hdm)))) (v:=.int n.np u2) rfl rfl fun sb S=>?_;walk_at"int";intro t9 sb S;refine PyProof.Rows.eq_int (wpAny_truthy_bool ?_);by_cases hb:n.np=0
  ·refine tu1_y (if_pos (by simpa using hb)) (by simpa using hb) (Attribute_Name_ ?_);walk_at"name";refine g_slot B.fgin B.cN B.sNode S (inst_of (S.at (hG'' _ _ (hfz _ hxm))) (S.at (hG'' _ _ (hfz _ hdm)))) (v:=.int n.k u1) rfl rfl fun sb S=>?_;exact hY _ _ _ G'' [some (.ref n.x)] (GLe.refl _) rfl S (.int _ _)
  ·exact tu1_n (if_neg (by simpa using hb)) (by simpa using hb) (hN _ G'' [some (.ref n.x)] (GLe.refl _) rfl S)
 ·intro G4 ys n' M C oC s₂ hG4 hys S hm;refine fin_none S hm fun s₂ S=>?_;rw[hkl,rdy_pick]at hys;have hysI:=ints_are' hys;rw[List.map_append,List.nodup_append]at hndL;refine x1_1 (S.thaw (led0:=led) (fun p hp=>⟨hG4 _ _ (hfz p hp),(hl p (List.mem_append_right _ hp)).2⟩) hndL.2.1) fun G5 hG5 S=>?_;have g5:GLe G0 G5:=fun a o e=>hG5 a o (hG4 _ _ (g1 _ _ e)) fun hm=>by
   refine x1_1 (List.mem_map.mp hm) fun p hp eq2=>?_;subst eq2;rw[gF p (List.mem_append_right _ hp)]at e;cases e
  walk_at"name";refine x7_1 (g.sinst (h:=s₂.heap) fun p hp=>S.get (List.mem_append_left _ hp)) fun t1 t2 t3 t4 tp tf c hs I=>?_;have hnd:=S.nd;refine s_att B.fgin B.cS B.aRdy S I rfl (List.mem_append_left _ hs) (by simp) (by kernel_rfl) fun t5 s₁ S=>?_;rw[List.map_append,List.nodup_append]at hnd;rw[put2,setA_append,setA_id (led:=(M,_)::fs) (fun hm=>hnd.2.2 _ (List.mem_map_of_mem (f:=(·.1)) hs) _ hm rfl)]at S;have g6:=g.setS (rdy':=.ref M) (np':=np) (nf':=nf) hndL.2.1 (t1:=t1) (t2:=t2) (t3:=t3) (t4:=t4) (tp:=tp) (tf:=tf) (n:=putN "_ready_nodes" (sEs w t1 t2 t3 t4 (.ref nD) .none (.int np tp) (.int nf tf)) c);have hMn:M∉led.map (·.1):=fun hm=>hnd.2.2 _ hm _ (.head _) rfl;have hnam:=setA_names led dS (dictOf (sEs w t1 t2 t3 t4 (.ref nD) (.ref M) (.int np tp) (.int nf tf)) (putN "_ready_nodes" (sEs w t1 t2 t3 t4 (.ref nD) .none (.int np tp) (.int nf tf)) c));generalize setA led dS _=led2 at S g6 hnam;have q6:Rd M (rdyC (cont ns)) ns ((M,listOf ys.toArray n')::led2):=by
   refine⟨⟨ys,n',.head _,hysI⟩,fun n hn e=>?_,?_⟩
   ·obtain⟨_,_,its,m,hLm,_⟩:=g.nd n hn;exact hMn (by rw[←e];exact List.mem_map_of_mem (f:=(·.1)) hLm)
   ·unfold rdyC;rw[List.length_map];exact Nat.le_trans (List.length_filter_le _ _) (by rw[cont_len];exact hfew)
  have g7:Gr prog w xS dS nD (.ref M) np nf ns ((M,listOf ys.toArray n')::led2):=g6.more fun p hp=>.tail _ hp;have S:=S.perm (led':=fs++((M,listOf ys.toArray n')::led2)) (List.perm_append_comm.trans (List.perm_middle.symm));refine xc (a_name (mcall B.fgin B.cS B.mCyc ?_));walk_at"name";refine x7_1 (g7.sinst (h:=s₁.heap) fun p hp=>S.get (List.mem_append_right _ hp)) fun y1 y2 y3 y4 y5 y6 y7 _ I'=>?_;refine⟨xS,_,_,_,rfl,⟨_,_,_,_,_,S⟩,I',by kernel_rfl,margs0 B.mCyc.kp (S.fg B.fgin) ?_⟩;obtain⟨ml,nq88,_⟩:=S.fm.loc;obtain⟨oL,esL,epL,hL,hLd,_⟩:=nq88;have hndS:=S.nd;rw[List.map_append,List.nodup_append]at hndS;refine cyc_ok (fs:=(env.locals,oL)::fs) B (hA'.le (by decide)) hfr' (.cons S.eo.fn hf hLd hFr) (fun a o e=>S.atK e) ?_ ?_ (gled:=(M,listOf ys.toArray n')::led2) ⟨g7,?_,hlow,hup⟩ fun G8 env8 vs8 fs8 s8 hG8 hsl8 S8=>?_
  ·intro p hp;rcases List.mem_cons.mp hp with rfl|hp
   ·refine⟨hL,?_⟩;cases q:K env.locals with
    |none=>rfl
    |some oo=>have:=S.base _ _ q;rw[S.gl]at this;cases this
   ·exact⟨S.get (List.mem_append_left _ hp),(hl p (List.mem_append_left _ hp)).2⟩
  ·rw[List.map_cons,List.nodup_cons];refine⟨fun hm=>?_,hndS.1⟩;refine x1_1 (List.mem_map.mp hm) fun p hp e=>?_;exact(S.ld p (List.mem_append_left _ hp)).2.2.1 e
  ·intro p hp;refine but_at (S.get (List.mem_append_right _ hp)) fun hm=>?_;rw[List.map_cons,List.mem_cons]at hm;rcases hm with hm|hm
   ·exact(S.ld p (List.mem_append_right _ hp)).2.2.1 hm
   ·exact hndS.2.2 _ hm _ (List.mem_map_of_mem (f:=(·.1)) hp) rfl
  ·cases hsl8 with
   |cons sl hsl=>
   refine x1_2 (St.backF (led:=fs) (rest:=(M,listOf ys.toArray n')::led2) S hL hG8 S8) fun G9 hg9 _ S=>?_;refine S.store (by walk_at"pv") (.inl rfl) fun s₁ S=>?_;refine xc (xif (wpAny_isTrue_value ?_));walk_at"name";refine wpAny_of_eq (a:=false) rfl ?_;refine if_f Bool.false_ne_true ?_;refine xn (xn ?_);exact kk _ _ _ _ _ _ M (by rw[hG0];exact g5.trans hg9) hsl S g7 q6
end
end
section
open PySem
noncomputable abbrev keysC(c:Cn):List Nat:=c.map (·.1)
theorem find_map{f:Nat×Int×List Nat→Nat×Int×List Nat}(hf:∀e,(f e).1=e.1)(c:Cn)(j:Nat):(c.map f).find? (fun e=>e.1==j)=(c.find? fun e=>e.1==j).map f:=by
 rw[List.find?_map];congr 1;refine congrFun (congrArg _ ?_) c
 funext e
 show((f e).1==j)=(e.1==j);rw[hf]
theorem find_none{c:Cn}{j:Nat}(h:j∉keysC c):c.find? (fun e=>e.1==j)=none:=by
 rw[List.find?_eq_none];intro e he hj;rw[beq_iff_eq]at hj;exact h (hj▸List.mem_map_of_mem (f:=(·.1)) he)
theorem find_key{c:Cn}{j:Nat}{e:Nat×Int×List Nat}(h:c.find? (fun e=>e.1==j)=some e):e.1=j:=by
 have:=List.find?_some h;simpa using this
theorem find_some{c:Cn}{j:Nat}(h:j∈keysC c):∃e,c.find? (fun e=>e.1==j)=some e:=by
 refine x1_1 (List.mem_map.mp h) fun e he hk=>?_;have:(c.find? fun e=>e.1==j).isSome=true:=by
  rw[List.find?_isSome];exact⟨e,he,by simpa using hk⟩
 exact Option.isSome_iff_exists.mp this
theorem ensC_keys(c:Cn)(k:Nat):keysC (ensC c k)=if k∈keysC c then keysC c else keysC c++[k]:=by
 unfold ensC;split<;>simp_all[keysC]
theorem ensC_np(c:Cn)(k j:Nat):npOf (ensC c k) j=npOf c j:=by
 unfold ensC
 split
 ·rfl
 ·rename_i h;unfold npOf;rw[List.find?_append];cases hf:c.find? (fun e=>e.1==j)with
  |some e=>rfl
  |none=>
   by_cases hj:k=j
   ·subst hj;simp
   ·simp[hj]
theorem ensC_su(c:Cn)(k j:Nat):suOf (ensC c k) j=suOf c j:=by
 unfold ensC
 split
 ·rfl
 ·rename_i h;unfold suOf;rw[List.find?_append];cases hf:c.find? (fun e=>e.1==j)with
  |some e=>rfl
  |none=>
   by_cases hj:k=j
   ·subst hj;simp
   ·simp[hj]
theorem npC_keys(c:Cn)(k:Nat)(m:Int):keysC (npC c k m)=keysC c:=by
 unfold npC keysC;rw[List.map_map];refine List.map_congr_left fun e _=>?_;show(if e.1=k then(e.1,e.2.1+m,e.2.2)else e).1=e.1
 split<;>rfl
theorem suC_keys(c:Cn)(p k:Nat):keysC (suC c p k)=keysC c:=by
 unfold suC keysC;rw[List.map_map];refine List.map_congr_left fun e _=>?_;show(if e.1=p then(e.1,e.2.1,e.2.2++[k])else e).1=e.1
 split<;>rfl
theorem npC_np{c:Cn}{k:Nat}(h:k∈keysC c)(m:Int)(j:Nat):npOf (npC c k m) j=if j=k then npOf c k+m else npOf c j:=by
 unfold npOf npC;rw[find_map (fun e=>by split<;>rfl)];by_cases hj:j=k
 ·subst hj;obtain⟨e,he⟩:=find_some h;rw[if_pos rfl,he];have:=find_key he;simp[this]
 ·rw[if_neg hj];cases he:c.find? (fun e=>e.1==j)with
  |none=>rfl
  |some e=>
   have:=find_key he;have h2:¬e.1=k:=fun q=>hj (this▸q);simp[h2]
theorem npC_su(c:Cn)(k:Nat)(m:Int)(j:Nat):suOf (npC c k m) j=suOf c j:=by
 unfold suOf npC;rw[find_map (fun e=>by split<;>rfl)];cases he:c.find? (fun e=>e.1==j)with
 |none=>rfl
 |some e=>simp only[Option.map_some];split<;>rfl
theorem suC_np(c:Cn)(p k j:Nat):npOf (suC c p k) j=npOf c j:=by
 unfold npOf suC;rw[find_map (fun e=>by split<;>rfl)];cases he:c.find? (fun e=>e.1==j)with
 |none=>rfl
 |some e=>simp only[Option.map_some];split<;>rfl
theorem suC_su{c:Cn}{p:Nat}(h:p∈keysC c)(k j:Nat):suOf (suC c p k) j=if j=p then suOf c p++[k]else suOf c j:=by
 unfold suOf suC;rw[find_map (fun e=>by split<;>rfl)];by_cases hj:j=p
 ·subst hj;obtain⟨e,he⟩:=find_some h;rw[if_pos rfl,he];have:=find_key he;simp[this]
 ·rw[if_neg hj];cases he:c.find? (fun e=>e.1==j)with
  |none=>rfl
  |some e=>
   have:=find_key he;have h2:¬e.1=p:=fun q=>hj (this▸q);simp[h2]
theorem putC_np{c:Cn}{k:Nat}(h:k∈keysC c)(v:Int)(j:Nat):npOf (putC c k v) j=if j=k then v else npOf c j:=by
 unfold npOf putC;rw[find_map (fun e=>by split<;>rfl)];by_cases hj:j=k
 ·subst hj;obtain⟨e,he⟩:=find_some h;rw[if_pos rfl,he];have:=find_key he;simp[this]
 ·rw[if_neg hj];cases he:c.find? (fun e=>e.1==j)with
  |none=>rfl
  |some e=>
   have:=find_key he;have h2:¬e.1=k:=fun q=>hj (this▸q);simp[h2]
theorem putC_su(c:Cn)(k:Nat)(v:Int)(j:Nat):suOf (putC c k v) j=suOf c j:=by
 unfold suOf putC;rw[find_map (fun e=>by split<;>rfl)];cases he:c.find? (fun e=>e.1==j)with
 |none=>rfl
 |some e=>simp only[Option.map_some];split<;>rfl
theorem ensC_mem(c:Cn)(k:Nat):k∈keysC (ensC c k):=by rw[ensC_keys];split<;>simp_all
theorem ensC_sub(c:Cn)(k:Nat){j:Nat}(h:j∈keysC c):j∈keysC (ensC c k):=by
 rw[ensC_keys];split
 ·exact h
 ·exact List.mem_append_left _ h
theorem ensC_nd{c:Cn}(k:Nat)(h:(keysC c).Nodup):(keysC (ensC c k)).Nodup:=by
 rw[ensC_keys]
 split
 ·exact h
 ·rename_i hk;rw[List.nodup_append];exact⟨h,by simp,fun a ha b hb e=>by rw[List.mem_singleton]at hb;subst hb;subst e;exact hk ha⟩
theorem ensC_le{c:Cn}{k N:Nat}(hk:k≤N)(h:∀j∈keysC c,j≤N):∀j∈keysC (ensC c k),j≤N:=by
 rw[ensC_keys]
 split
 ·exact h
 ·intro j hj;rcases List.mem_append.mp hj with hj|hj
  ·exact h j hj
  ·rw[List.mem_singleton]at hj;exact J432 hj hk
theorem add_su(k:Nat):∀(preds:List Nat) (c:Cn),preds.Nodup→(keysC c).Nodup→
 (keysC (preds.foldl (fun c p=>suC (ensC c p) p k) c)).Nodup∧(∀j,j∈keysC (preds.foldl (fun c p=>suC (ensC c p) p k) c)↔j∈keysC c∨j∈preds)∧
 (∀j,npOf (preds.foldl (fun c p=>suC (ensC c p) p k) c) j=npOf c j)∧∀j,suOf (preds.foldl (fun c p=>suC (ensC c p) p k) c) j=if j∈preds then suOf c j++[k]else suOf c j
 |[],c,_,h=>⟨h,by simp,fun _=>rfl,by simp⟩
 |p::r,c,hn,h=>by
  rw[List.nodup_cons]at hn;have hk:keysC (suC (ensC c p) p k)=keysC (ensC c p):=suC_keys _ _ _;refine x0_3 (add_su k r (suC (ensC c p) p k) hn.2 (by rw[hk];exact ensC_nd p h)) fun a1 a2 a3 a4=>?_;rw[List.foldl_cons];refine⟨a1,fun j=>?_,fun j=>?_,fun j=>?_⟩
  ·rw[a2,hk,ensC_keys,List.mem_cons]
   split
   ·rename_i hp;constructor
    ·rintro (q|q)
     ·exact .inl q
     ·exact .inr (.inr q)
    ·rintro (q|rfl|q)
     ·exact .inl q
     ·exact .inl hp
     ·exact .inr q
   ·rw[List.mem_append,List.mem_singleton,or_assoc]
  ·rw[a3,suC_np,ensC_np]
  ·rw[a4,suC_su (ensC_mem c p),ensC_su,ensC_su];by_cases hj:j=p
   ·subst hj;simp[hn.1]
   ·simp[hj]
theorem add_all{c:Cn}{k:Nat}{preds:List Nat}(hp:preds.Nodup)(h:(keysC c).Nodup):
 (keysC (addC c k preds)).Nodup∧(∀j,j∈keysC (addC c k preds)↔j∈keysC c∨j=k∨j∈preds)∧
 (∀j,npOf (addC c k preds) j=if j=k then npOf c k+preds.length else npOf c j)∧∀j,suOf (addC c k preds) j=if j∈preds then suOf c j++[k]else suOf c j:=by
 unfold addC;have hk:keysC (npC (ensC c k) k preds.length)=keysC (ensC c k):=npC_keys _ _ _;refine x0_3 (add_su k preds (npC (ensC c k) k preds.length) hp (by rw[hk];exact ensC_nd k h)) fun a1 a2 a3 a4=>?_;refine⟨a1,fun j=>?_,fun j=>?_,fun j=>?_⟩
 ·rw[a2,hk,ensC_keys]
  split
  ·rename_i q;constructor
   ·rintro (h|h)
    ·exact .inl h
    ·exact .inr (.inr h)
   ·rintro (h|rfl|h)
    ·exact .inl h
    ·exact .inl q
    ·exact .inr h
  ·rw[List.mem_append,List.mem_singleton,or_assoc]
 ·rw[a3,npC_np (ensC_mem c k),ensC_np,ensC_np]
 ·rw[a4,npC_su,ensC_su]
noncomputable def graphL(x:List Nat)(most:Int)(i:Nat):List (Nat×List Nat):=(List.range i).map fun a=>(x.length-a,predsL x most (x.length-a))
noncomputable def suL(x:List Nat)(most:Int)(i j:Nat):List Nat:=((List.range i).map fun a=>x.length-a).filter fun q=>decide (j∈predsL x most q)
theorem preds_mem{x:List Nat}{most:Int}{p q:Nat}:p∈predsL x most q↔p<q∧okB x most p q=true:=by
 unfold predsL;rw[List.mem_filter,List.mem_range]
theorem preds_nd(x:List Nat)(most:Int)(q:Nat):(predsL x most q).Nodup:=List.Pairwise.filter _ List.nodup_range
theorem graph_run(x:List Nat)(most:Int):∀i,i≤x.length+1→
 (keysC ((graphL x most i).foldl (fun c p=>addC c p.1 p.2) [])).Nodup∧(∀j∈keysC ((graphL x most i).foldl (fun c p=>addC c p.1 p.2) []),j≤x.length)∧
 (∀j,x.length<j+i→j≤x.length→j∈keysC ((graphL x most i).foldl (fun c p=>addC c p.1 p.2) []))∧
 (∀j≤x.length,npOf ((graphL x most i).foldl (fun c p=>addC c p.1 p.2) []) j=if x.length<j+i then((predsL x most j).length:Int)else 0)∧
 (∀j,suOf ((graphL x most i).foldl (fun c p=>addC c p.1 p.2) []) j=suL x most i j)
 |0,_=>⟨List.nodup_nil,(fun _ h=>nomatch h),(fun j h1 h2=>by exact(J293 h1 h2).elim),(fun j hj=>by rw[if_neg (J251 hj)];rfl),fun j=>rfl⟩
 |i+1,hi=>by
  refine x0_4 (graph_run x most i (J189 hi)) fun a1 a2 a3 a4 a5=>?_;have e:graphL x most (i+1)=graphL x most i++[(x.length-i,predsL x most (x.length-i))]:=by unfold graphL;rw[List.range_succ,List.map_append];rfl
  rw[e,List.foldl_append,List.foldl_cons,List.foldl_nil];generalize (graphL x most i).foldl (fun c p=>addC c p.1 p.2) []=c at a1 a2 a3 a4 a5;refine x0_3 (add_all (c:=c) (k:=x.length-i) (preds_nd x most (x.length-i)) a1) fun b1 b2 b3 b4=>?_;refine⟨b1,fun j hj=>?_,fun j h1 h2=>?_,fun j hj=>?_,fun j=>?_⟩
  ·rcases(b2 j).mp hj with h|h|h
   ·exact a2 j h
   ·exact J393 h
   ·have:=(preds_mem.mp h).1;exact J391 this
  ·refine(b2 j).mpr ?_;by_cases hj:x.length<j+i
   ·exact .inl (a3 j hj h2)
   ·exact .inr (.inl (J439 h1 hj))
  ·rw[b3];by_cases h:j=x.length-i
   ·rw[if_pos h,if_pos (J392 h),a4 _ J163,if_neg (J190 hi)];subst h;simp
   ·rw[if_neg h,a4 j hj];by_cases h2:x.length<j+i
    ·rw[if_pos h2,if_pos (J373 h2)]
    ·rw[if_neg h2,if_neg (J440 h h2)]
  ·rw[b4,a5];unfold suL;rw[List.range_succ,List.map_append,List.filter_append];by_cases h:j∈predsL x most (x.length-i)
   ·simp[h]
   ·simp[h]
theorem suL_mem{x:List Nat}{most:Int}{j q:Nat}:q∈suL x most (x.length+1) j↔q≤x.length∧j∈predsL x most q:=by
 unfold suL;rw[List.mem_filter,List.mem_map];constructor
 ·intro nq59;obtain⟨nq60,h⟩:=nq59;obtain⟨a,ha,rfl⟩:=nq60;exact⟨J163,by simpa using h⟩
 ·intro nq61;obtain⟨h1,h2⟩:=nq61;exact⟨⟨x.length-q,List.mem_range.mpr J248,J247 h1⟩,by simpa using h2⟩
theorem suL_nd(x:List Nat)(most:Int)(j:Nat):(suL x most (x.length+1) j).Nodup:=by
 refine List.Pairwise.filter _ ?_;refine List.pairwise_map.mpr ?_;have:=List.pairwise_lt_range (n:=x.length+1);refine List.Pairwise.imp_of_mem ?_ this;intro a b ha hb hab;have h1:=List.mem_range.mp ha;have h2:=List.mem_range.mp hb;exact J446 h2 hab
structure OrdC(x:List Nat)(most:Int)(k:Nat)(c:Cn):Prop where
 nd:(keysC c).Nodup
 ky:∀j,j∈keysC c↔j≤x.length
 np:∀j≤x.length,npOf c j=if j<k then -2 else(((predsL x most j).filter fun p=>decide (k≤p)).length:Int)
 su:∀j,suOf c j=suL x most (x.length+1) j
theorem ord_init(x:List Nat)(most:Int):OrdC x most 0 ((graphL x most (x.length+1)).foldl (fun c p=>addC c p.1 p.2) []):=by
 refine x0_4 (graph_run x most (x.length+1) (Nat.le_refl _)) fun a1 a2 a3 a4 a5=>?_;refine⟨a1,fun j=>⟨a2 j,fun h=>a3 j J165 h⟩,fun j hj=>?_,a5⟩;rw[a4 j hj,if_pos J165,if_neg J56];have:(predsL x most j).filter (fun p=>decide (0≤p))=predsL x most j:=List.filter_eq_self.mpr fun a _=>by simp
 rw[this]
theorem filter_one{l:List Nat}(h:l.Nodup){a:Nat}(ha:a∈l){f:Nat→Bool}(hf:∀b∈l,f b=decide (b=a)):l.filter f=[a]:=by
 induction l with
 |nil=>cases ha
 |cons b l ih=>
  rw[List.nodup_cons]at h;rw[List.filter_cons,hf b (.head _)];by_cases hb:b=a
  ·subst hb;have:l.filter f=[]:=by
    rw[List.filter_eq_nil_iff];intro c hc hfc;rw[hf c (.tail _ hc)]at hfc;have:c=b:=by simpa using hfc
    exact h.1 (this▸hc)
   simp[this]
  ·have ha':a∈l:=by
    rcases List.mem_cons.mp ha with e|e
    ·exact absurd e.symm hb
    ·exact e
   simp only[hb,decide_false,Bool.false_eq_true,if_false];exact ih h.2 ha' fun c hc=>hf c (.tail _ hc)
theorem np_entry{c:Cn}(h:(keysC c).Nodup){e:Nat×Int×List Nat}(he:e∈c):npOf c e.1=e.2.1:=by
 unfold npOf;have:c.find? (fun q=>q.1==e.1)=some e:=by
  induction c with
  |nil=>cases he
  |cons a r ih=>
   have h':a.1∉keysC r∧(keysC r).Nodup:=by
    have:=h;unfold keysC at this;rw[List.map_cons,List.nodup_cons]at this;exact this
   rw[List.find?_cons];rcases List.mem_cons.mp he with rfl|he
   ·simp
   ·have:a.1≠e.1:=fun q=>h'.1 (q▸List.mem_map_of_mem (f:=(·.1)) he);have h2:(a.1==e.1)=false:=by simpa using this
    simp only[h2];exact ih h'.2 he
 rw[this];rfl
theorem pred_last{x:List Nat}{most:Int}(hm:2≤most){j:Nat}(h1:1≤j)(h2:j≤x.length):j-1∈predsL x most j:=by
 have:=preds_ne (x:=x) hm (n:=j-1) (J269 h1 h2);rw[show j-1+1=j by exact J62 h1]at this;exact this
theorem ord_rdy{x:List Nat}{most:Int}(hm:2≤most){c:Cn}(o:OrdC x most 0 c):rdyC c=[0]:=by
 have e1:rdyC c=(keysC c).filter fun j=>npOf c j==0:=by
  unfold rdyC keysC;rw[List.filter_map];congr 1;refine List.filter_congr fun e he=>?_;show(e.2.1==0)=(npOf c e.1==0);rw[np_entry o.nd he]
 rw[e1];refine filter_one o.nd ((o.ky 0).mpr (Nat.zero_le _)) fun j hj=>?_;have hj':=(o.ky j).mp hj;rw[o.np j hj',if_neg J56];have e2:(predsL x most j).filter (fun p=>decide (0≤p))=predsL x most j:=List.filter_eq_self.mpr fun a _=>by simp
 rw[e2];by_cases h:j=0
 ·subst h;simp[predsL]
 ·have:=pred_last hm (J138 h) hj';have h3:predsL x most j≠[]:=fun q=>by rw[q]at this;cases this
  have h4:(predsL x most j).length≠0:=fun q=>h3 (List.length_eq_zero_iff.mp q);simp only[h,decide_false];rw[beq_eq_false_iff_ne];exact J113 h4
theorem done_run:∀(l:List Nat) (c:Cn) (rd:List Nat),l.Nodup→(∀j∈l,j∈keysC c)→
 keysC (l.foldl doneS (c,rd)).1=keysC c∧(∀j,npOf (l.foldl doneS (c,rd)).1 j=npOf c j-(if j∈l then 1 else 0))∧(∀j,suOf (l.foldl doneS (c,rd)).1 j=suOf c j)∧
 (l.foldl doneS (c,rd)).2=rd++l.filter fun j=>npOf c j-1==0
 |[],c,rd,_,_=>⟨rfl,(fun j=>by simp),fun _=>rfl,by simp⟩
 |a::l,c,rd,hn,hk=>by
  rw[List.nodup_cons]at hn;have ha:=hk a (.head _);have hnk:keysC (npC c a (-1))=keysC c:=npC_keys _ _ _;refine x0_3 (done_run l (npC c a (-1)) (if npOf (npC c a (-1)) a=0 then rd++[a]else rd) hn.2 fun j hj=>by rw[hnk];exact hk j (.tail _ hj)) fun a1 a2 a3 a4=>?_;rw[List.foldl_cons];show keysC (l.foldl doneS (npC c a (-1),if npOf (npC c a (-1)) a=0 then rd++[a]else rd)).1=_∧_;refine⟨a1.trans hnk,fun j=>?_,fun j=>(a3 j).trans (npC_su _ _ _ _),?_⟩
  ·show npOf (l.foldl doneS (npC c a (-1),if npOf (npC c a (-1)) a=0 then rd++[a]else rd)).1 j=_;rw[a2,npC_np ha];by_cases hj:j=a
   ·subst hj;simp[hn.1];exact J57
   ·simp[hj]
  ·show(l.foldl doneS (npC c a (-1),if npOf (npC c a (-1)) a=0 then rd++[a]else rd)).2=_;rw[a4,npC_np ha,if_pos rfl,List.filter_cons];have e:l.filter (fun j=>npOf (npC c a (-1)) j-1==0)=l.filter fun j=>npOf c j-1==0:=by
    refine List.filter_congr fun j hj=>?_;rw[npC_np ha,if_neg fun q=>hn.1 (by rw[←q];exact hj)]
   rw[e];by_cases h0:npOf c a+ -1=0
   ·have:(npOf c a-1==0)=true:=by rw[beq_iff_eq];exact J143 h0
    rw[if_pos h0,if_pos this,List.append_assoc];rfl
   ·have:(npOf c a-1==0)=false:=by rw[beq_eq_false_iff_ne];exact J145 h0
    rw[if_neg h0,if_neg (by rw[this];exact Bool.false_ne_true)]
theorem put_np1{x:List Nat}{most:Int}{k:Nat}{c:Cn}(o:OrdC x most k c)(hk:k≤x.length)(v:Int):npOf (putC c k v) k=v:=by
 rw[putC_np ((o.ky k).mpr hk),if_pos rfl]
theorem ord_step{x:List Nat}{most:Int}(hm:2≤most){k:Nat}{c:Cn}(o:OrdC x most k c)(hk:k≤x.length):
 OrdC x most (k+1) (doneC (putC c k (-1)) [] k).1∧(doneC (putC c k (-1)) [] k).2=if k+1≤x.length then[k+1]else[]:=by
 unfold doneC;have hkk:=(o.ky k).mpr hk;have k1:keysC (putC c k (-1))=keysC c:=putC_keys _ _ _;have k2:keysC (putC (putC c k (-1)) k (-2))=keysC c:=(putC_keys _ _ _).trans k1;have hsu:suOf (putC c k (-1)) k=suL x most (x.length+1) k:=by rw[putC_su,o.su]
 rw[hsu];have hnp:∀j,npOf (putC (putC c k (-1)) k (-2)) j=if j=k then -2 else npOf c j:=fun j=>by
  rw[putC_np (by rw[k1];exact hkk),putC_np hkk];by_cases h:j=k<;>simp[h]
 obtain⟨a1,a2,a3,a4⟩:=done_run (suL x most (x.length+1) k) (putC (putC c k (-1)) k (-2)) [] (suL_nd x most k) fun j hj=>by
  rw[k2];exact(o.ky j).mpr (suL_mem.mp hj).1
 refine⟨⟨by rw[a1,k2];exact o.nd,fun j=>by rw[a1,k2];exact o.ky j,fun j hj=>?_,fun j=>by rw[a3,putC_su,putC_su];exact o.su j⟩,?_⟩
 ·rw[a2,hnp];by_cases h1:j=k
  ·subst h1;have:j∉suL x most (x.length+1) j:=fun h=>by
    have:=(preds_mem.mp (suL_mem.mp h).2).1;exact J103 this
   rw[if_pos rfl,if_neg this,if_pos J48];rfl
  ·rw[if_neg h1,o.np j hj];by_cases h2:j<k
   ·have:j∉suL x most (x.length+1) k:=fun h=>by
     have:=(preds_mem.mp (suL_mem.mp h).2).1;exact J288 h2 this
    rw[if_pos h2,if_neg this,if_pos (J207 h2)];rfl
   ·rw[if_neg h2,if_neg (J338 h1 h2:¬j<k+1)];have hcnt:((predsL x most j).filter fun p=>decide (k≤p)).length=((predsL x most j).filter fun p=>decide (k+1≤p)).length+if k∈predsL x most j then 1 else 0:=by
     have key:∀l:List Nat,l.Nodup→(l.filter fun p=>decide (k≤p)).length=(l.filter fun p=>decide (k+1≤p)).length+if k∈l then 1 else 0:=by
      intro l
      induction l with
      |nil=>intro _;rfl
      |cons a l ih=>
       intro hn;rw[List.nodup_cons]at hn;have:=ih hn.2;rw[List.filter_cons,List.filter_cons];by_cases q1:a=k
       ·subst q1;rw[if_neg hn.1]at this;rw[if_pos (by simp),if_neg (by simp)];simp[this]
       ·have q2:(k∈a::l)↔k∈l:=by simp[Ne.symm q1]
        by_cases q3:k≤a
        ·have q4:k+1≤a:=J337 q1 q3;simp only[q3,q4,decide_true,if_true,List.length_cons,this,q2];exact J162
        ·have q4:¬k+1≤a:=J260 q3;simp only[q3,q4,decide_false,Bool.false_eq_true,if_false,this,q2]
     exact key _ (preds_nd x most j)
    rw[hcnt];have hiff:j∈suL x most (x.length+1) k↔k∈predsL x most j:=by rw[suL_mem];exact⟨fun h=>h.2,fun h=>⟨hj,h⟩⟩
    by_cases h3:k∈predsL x most j
    ·rw[if_pos h3,if_pos (hiff.mpr h3)];exact J16
    ·rw[if_neg h3,if_neg fun q=>h3 (hiff.mp q)];exact J15
 ·rw[a4,List.nil_append];have hval:∀j∈suL x most (x.length+1) k,(npOf (putC (putC c k (-1)) k (-2)) j-1==0)=decide (j=k+1):=by
   intro j hj;obtain⟨h1,h2⟩:=suL_mem.mp hj;have h3:=(preds_mem.mp h2).1;rw[hnp,if_neg (J220 h3),o.np j h1,if_neg (J219 h3)];have hmem:k∈(predsL x most j).filter fun p=>decide (k≤p):=List.mem_filter.mpr ⟨h2,by simp⟩;have hmem2:j-1∈(predsL x most j).filter fun p=>decide (k≤p):=List.mem_filter.mpr ⟨pred_last hm (J204 h3) h1,by simp;exact J209 h3⟩;by_cases h4:j=k+1
   ·have:(predsL x most j).filter (fun p=>decide (k≤p))=[k]:=filter_one (preds_nd x most j) h2 fun b hb=>by
     have:=(preds_mem.mp hb).1;rw[decide_eq_decide];omega
    rw[this];simp[h4]
   ·have hlen:2≤((predsL x most j).filter fun p=>decide (k≤p)).length:=by
     generalize (predsL x most j).filter (fun p=>decide (k≤p))=l at hmem hmem2
     match l,hmem,hmem2 with
     |[a],m1,m2=>
      rw[List.mem_singleton]at m1 m2;exact J521 m2 h4 h3 m1
     |a::b::l,_,_=>simp
    rw[decide_eq_false h4,beq_eq_false_iff_ne];exact J66 hlen
  split
  ·rename_i h;exact filter_one (suL_nd x most k) (suL_mem.mpr ⟨h,by have:=pred_last hm (x:=x) (j:=k+1) J35 h;simpa using this⟩) hval
  ·rename_i h;rw[List.filter_eq_nil_iff];intro j hj hq;rw[hval j hj]at hq;have h1:=(suL_mem.mp hj).1;have:j=k+1:=by simpa using hq
   exact J478 this h1 h
end
section
open PySem PySem.W PySem.Calls PyProof.Rows PySem.SeqAt
set_option maxHeartbeats 4000000
section
variable{prog:Program}{w:World}{A:Around}{E:Value→Shared→Prop}{K:GH}{mg mb:Str→Option Value}{p0 p1 p2 p3:Value}{r:Shared}{own:Str→Bool}{G:GH}{env:Env}{vs vs':Vs}{led led':List (Addr×Obj)}{s:Shared}{Q:Value→Shared→Prop}
theorem rangeD_it(S:St K r own G env vs led s){n:Nat}{i:Int}{t u v:Tok}(hi:i=n)(hn:n≤6)
 (h:∀I s',St K r own G env vs ((I,{cls:=.type "range_iterator",data:=.fields #[rawInt n,rawInt ((n+1:Nat):Int),rawInt (-1)]})::led) s'→Q (.ref I) s'):
 wpAny (model prog w) A (call (.type "range") [.int i t,.int (-1) u,.int (-1) v]) (fun x s₁=>wpAny (model prog w) A (pyIter x) Q E s₁) E s:=by
 subst hi;have hcases:n=0∨n=1∨n=2∨n=3∨n=4∨n=5∨n=6:=J132 hn;refine call_range_3 (by decide) ?_ (.inl (by rcases hcases with rfl|rfl|rfl|rfl|rfl|rfl|rfl<;>decide));have S1:=S.push {cls:=.type "range",data:=.fields #[.int n t,.int (-1) u,.int (-1) v]} s.toks;refine wpAny_pyIter_range (a:=n) (b:= -1) (c:= -1) (t:=t) (u:=u) (v:=v) (Heap.get?_push_size _ rfl) (by rcases hcases with rfl|rfl|rfl|rfl|rfl|rfl|rfl<;>decide) ?_;have e:Builtin.Range.rangeSize n (-1) (-1)=((n+1:Nat):Int):=by rcases hcases with rfl|rfl|rfl|rfl|rfl|rfl|rfl<;>decide
 rw[e];exact h _ _ ((S1.push {cls:=.type "range_iterator",data:=.fields #[rawInt n,rawInt ((n+1:Nat):Int),rawInt (-1)]} s.toks).perm (.swap ..)).drop
theorem len_b(S:St K r own G env vs led s){x:List Nat}{t:Tok}(hz:x.length<100000)(h:∀t s',St K r own G env vs led s'→Q (.int x.length t) s'):wpAny (model prog w) A (call (.builtin "len") [.bytes (octs x) t]) Q E s:=by
 have e:(octs x).size=x.length:=by simp[octs]
 exact len_bytes (by rw[e];exact J277 hz) (by rw[e];exact h _ _ (S.tok _))
end
noncomputable abbrev soV(x:List Nat)(tx:Tok)(most:Int)(tm:Tok)(fee:Int)(tf:Tok)(ld gd:Addr)(v1 v2 v3 v4 v5 v6 v7 v8 v9 v10:Option Value):Vs:=
 [("text",some (.str (mkS x) tx)),("most",some (.int most tm)),("fee",some (.int fee tf)),("leads",some (.ref ld)),("graph",some (.ref gd)),("stop",v1),("place",v2),("octets",v3),("sorter",v4),("least",v5),("blocks",v6),("ways",v7),("told",v8),("options",v9),("best",v10)]
noncomputable def leadT(x:List Nat)(q p:Nat):D:=.tup [.int (p:Int),.byt (octs (sentL (sub x p q)))]
def LeadsIs(prog:Program)(w:World)(G:GH)(x:List Nat)(most:Int)(i:Nat)(o:Obj):Prop:=
 ∃kvs,o.IsDictOf (intKind prog w) kvs∧kvs.length≤i∧∀q≤x.length,x.length<q+i→∃v,valueAt kvs (q:Int)=some v∧Is G v (.lst ((predsL x most q).map (leadT x q)))
def GraphO(prog:Program)(w:World)(G:GH)(x:List Nat)(most:Int)(i:Nat)(o:Obj):Prop:=∃kvs,o.IsDictOf (intKind prog w) kvs∧GraphIs G kvs (graphL x most i)
theorem LeadsIs.mono{prog:Program}{w:World}{G G':GH}{x:List Nat}{most:Int}{i:Nat}{o:Obj}(h:LeadsIs prog w G x most i o)(hg:GLe G G'):LeadsIs prog w G' x most i o:=by
 refine x1_2 h fun kvs h1 h2 h3=>?_;clear h;exact⟨kvs,h1,h2,fun q a b=>(h3 q a b).elim fun v c=>⟨v,c.1,c.2.mono hg⟩⟩
theorem GraphO.mono{prog:Program}{w:World}{G G':GH}{x:List Nat}{most:Int}{i:Nat}{o:Obj}(h:GraphO prog w G x most i o)(hg:GLe G G'):GraphO prog w G' x most i o:=by
 refine x1_2 h fun kvs h1 h2 h3=>?_;clear h;refine⟨kvs,h1,h2,fun j k v hj=>?_⟩;refine x4_4 (h3 j k v hj) fun p l its m a b c d e=>?_;exact⟨p,l,its,m,a,b,c,hg _ _ d,e⟩
theorem GraphO.snoc{prog:Program}{w:World}{G G5:GH}{x:List Nat}{most:Int}{i q:Nat}{kvg:List (Int×Value)}{og':Obj}{M:Addr}{ys:List Value}{n':Nat}(hi:i<x.length+1)(hq:x.length-i=q)(hg:GraphIs G kvg (graphL x most i))(gg:GLe G G5)
 (hog':og'.IsDictOf (intKind prog w) (stored kvg (q:Int) (.ref M))) (hM:G5 M=some (listOf ys.toArray n')) (hysI:IntsAre ys ((predsL x most q).map fun p:Nat=>(p:Int))):GraphO prog w G5 x most (i+1) og':=by
 obtain⟨hgl,hgv⟩:=hg;have hglen:kvg.length=i:=by rw[hgl];simp[graphL]
 have hkn:(q:Int)∉kvg.map (·.1):=by
  intro hm;refine x1_1 (List.mem_map.mp hm) fun kv hkv e=>?_;obtain⟨j,hj,hje⟩:=List.getElem_of_mem hkv;refine x4_2 (hgv j kv.1 kv.2 (by rw[List.getElem?_eq_getElem hj,hje])) fun p l its m h1 h2 _=>?_;have hji:j<i:=J419 hj hglen;unfold graphL at h1;rw[List.getElem?_map,List.getElem?_range hji]at h1;simp only[Option.map_some,Option.some.injEq]at h1;rw[←h1]at h2;have h2:kv.1=((x.length-j:Nat):Int):=h2;omega
 have hst:stored kvg (q:Int) (.ref M)=kvg++[((q:Int),.ref M)]:=by
  unfold stored;rw[if_neg];intro h;refine x1_1 (List.any_eq_true.mp h) fun p hp e=>?_;exact hkn (List.mem_map.mpr ⟨p,hp,by simpa using e⟩)
 rw[hst]at hog';refine⟨_,hog',by simp[graphL,hglen],fun j kk v hj=>?_⟩;by_cases hji:j<i
 ·rw[List.getElem?_append_left (J510 hji hglen)]at hj;refine x4_4 (hgv j kk v hj) fun p l its m a b c d e=>?_;refine⟨p,l,its,m,?_,b,c,gg _ _ d,e⟩;have e0:graphL x most (i+1)=graphL x most i++[(x.length-i,predsL x most (x.length-i))]:=by unfold graphL;rw[List.range_succ,List.map_append];rfl
  rw[e0,List.getElem?_append_left (by unfold graphL;simp;exact hji)];exact a
 ·have hjl:j<(kvg++[((q:Int),Value.ref M)]).length:=(List.getElem?_eq_some_iff.mp hj).1;have hji:j=i:=by simp at hjl;exact J522 hjl hglen hji
  subst hji;have:(kvg++[((q:Int),Value.ref M)])[j]? =some ((q:Int),Value.ref M):=by rw[List.getElem?_append_right (J415 hglen)];simp[hglen]
  rw[this]at hj;cases hj;refine⟨(q,predsL x most q),M,ys,n',?_,rfl,rfl,hM,hysI⟩;unfold graphL;rw[List.getElem?_map,List.getElem?_range J48];simp[hq]
theorem fixR_sg:∀{n:Nat} {x:List Nat},x.length≤n→(∀c∈x,c<128)→∀c∈fixR x,c<128
 |_,[],_,_,c,hc=>nomatch hc
 |_,[a],_,h,c,hc=>by
  unfold fixR at hc
  split at hc
  ·simp only[List.mem_cons,List.not_mem_nil,or_false]at hc;rcases hc with rfl|rfl<;>decide
  ·rw[List.mem_singleton]at hc;subst hc;exact h _ (.head _)
 |0,_::_::_,hn,_,_,_=>by simp at hn
 |n+1,a::e::r,hn,h,c,hc=>by
  simp only[List.length_cons]at hn;unfold fixR at hc
  split at hc
  ·rcases List.mem_cons.mp hc with rfl|hc
   ·decide
   ·rcases List.mem_cons.mp hc with rfl|hc
    ·decide
    ·exact fixR_sg (n:=n) (x:=r) (J182 hn) (fun c hc=>h c (.tail _ (.tail _ hc))) c hc
  ·split at hc
   ·rcases List.mem_cons.mp hc with rfl|hc
    ·decide
    ·rcases List.mem_cons.mp hc with rfl|hc
     ·decide
     ·exact fixR_sg (n:=n) (x:=e::r) (by simp;exact J181 hn) (fun c hc=>h c (.tail _ hc)) c hc
   ·rcases List.mem_cons.mp hc with rfl|hc
    ·exact h _ (.head _)
    ·exact fixR_sg (n:=n) (x:=e::r) (by simp;exact J181 hn) (fun c hc=>h c (.tail _ hc)) c hc
theorem fixL_sg{x:List Nat}(h:Sg x):∀c∈fixL x,c<128:=by
 rw[fixL_eq];exact fixR_sg (Nat.le_refl _) fun c hc=>by rcases h c hc with rfl|rfl|rfl|rfl<;>decide
theorem preds_succ(x:List Nat)(most:Int)(q j:Nat):((List.range (j+1)).filter fun p=>okB x most p q)=((List.range j).filter fun p=>okB x most p q)++if okB x most j q then[j]else[]:=by
 rw[List.range_succ,List.filter_append];congr 1;cases h:okB x most j q<;>simp[h]
section
variable{prog:Program}{w:World}{A:Around}{E:Value→Shared→Prop}{K:GH}{mg mb:Str→Option Value}{p0 p1 p2 p3:Value}{Fg:Frag}{dV:Addr}{r s:Shared}{G:GH}{env:Env}{Q:Flow→Shared→Prop}
noncomputable def soBody:List Stmt:=forBody ((bodyOf (topSt 26))[1]?)
theorem lead_turn(B:B3 Fg K mg mb p0 p1 p2 p3 dV)(hA':Rm 12 A)(hkd:env.kindOf=fun y=>(scopeOf (topSt 26)).names.lookup y)(hsc:env.scope=scopeOf (topSt 26)){x:List Nat}{tx tm tf tv:Tok}{most fee:Int}{ld gd I:Addr}{oi ol og:Obj}{i:Nat}{v2 v3 v4 v5 v6 v7 v8 v9 v10:Option Value}{fs:List (Addr×Obj)}
 (hx:Sg x) (hl:x.length≤6) (hi:i<x.length+1) (hL:LeadsIs prog w G x most i ol) (hGr:GraphO prog w G x most i og)
 (S:St K r yes G env (soV x tx most tm fee tf ld gd (some (.int ((x.length-i:Nat):Int) tv)) v2 v3 v4 v5 v6 v7 v8 v9 v10) ((I,oi)::(gd,og)::(ld,ol)::fs) s)
 (k:∀G' s' ol' og' v2 v3,GLe G G'→LeadsIs prog w G' x most (i+1) ol'→GraphO prog w G' x most (i+1) og'→
  St K r yes G' env (soV x tx most tm fee tf ld gd (some (.int ((x.length-i:Nat):Int) tv)) v2 v3 v4 v5 v6 v7 v8 v9 v10) ((I,oi)::(gd,og')::(ld,ol')::fs) s'→Q .next s'):
 wpAny (model prog w) A (execs soBody env) Q E s:=by
 have gl:Gl env ["range","len","_quote_periods","bytes","_fix_eols","TopologicalSorter","min","sum"]:=Gl.of (sc:=scopeOf (topSt 26)) hkd (by decide+kernel);refine x1_2 hL fun kvl hol hkl hlv=>?_;clear hL;refine x1_1 hGr fun kvg hog hgr=>?_;clear hGr;have hglen:kvg.length=i:=by rw[hgr.1];simp[graphL]
 generalize hq:x.length-i=q at S k;have hq':q≤x.length:=J507 hq;refine xc (xasg (lstE S (argE ⟨_,_,_,S,by simp,fun cl sa S=>?_⟩)));walk_at"name";walk_at"name";refine dset (o:=ol) S (fun o'=>by walk_at"up") hol int_is (J528 hi hl hkl) fun ol' sa hol' S=>?_;have hkl':=stored_length_le kvl (q:Int) (.ref cl);have hlv':∀q'≤x.length,x.length<q'+i→∃v,valueAt (stored kvl (q:Int) (.ref cl)) (q':Int)=some v∧Is G v (.lst ((predsL x most q').map (leadT x q'))):=by
  intro q' h1 h2;rw[valueAt_stored,if_neg (J555 hq h2 hi)];exact hlv q' h1 h2
 have hcl':valueAt (stored kvl (q:Int) (.ref cl)) (q:Int)=some (.ref cl):=by rw[valueAt_stored,if_pos rfl]
 clear hlv hol;generalize stored kvl (q:Int) (.ref cl)=kvl' at hol' hkl' hlv' hcl';refine xc (xfor (ctyp S B.toTp gl B.b_range (by walk_at"mem") (arg ?_)));walk_at"name";refine argE (range1_it (b:=q) S rfl (J319 hl hq') fun I2 sa S=>?_);refine forN (n:=q) (fun G'' _=>Itr.range hA'.hd I2 0 1 q) (fun j G'' vs' led'=>∀P:Prop,(∀cits nc v2 v3,led'=(cl,listOf cits.toArray nc)::(I,oi)::(gd,og)::(ld,ol')::fs→
  vs'=soV x tx most tm fee tf ld gd (some (.int (q:Int) tv)) v2 v3 v4 v5 v6 v7 v8 v9 v10→IsAll G'' cits (((List.range j).filter fun p=>okB x most p q).map (leadT x q))→P)→P) S (by simp) (fun _ k=>k [] _ _ _ rfl rfl .nil) ?_ ?_
 ·clear S;intro j v G'' vs' led' o2 sb E'' N hj hv hG'' hN hJ S;refine hJ _ fun cits nc v2 v3 el ev hcits=>?_;subst el ev;clear hJ;obtain⟨tj,rfl⟩:=hv;have e2:(0+(j:Int)*1)=(j:Int):=J21;rw[e2];refine wpAny_assign_Name (S.store (by walk_at"pv") (.inl rfl) fun sb S=>?_);have hbl:(sub x j q).length≤6:=by rw[sub_len (J208 hj) (by exact hq')];exact J461 hl hq'
  have hfl:=fixL_len (sub x j q);have hdl:=dotL_len (fixL (sub x j q));have hsg:=hx.sub j q;have hquo:=quo_eq hsg;have hfsg:=fixL_sg hsg;refine xc (a_name (cdef S B.toTp gl B.f_quote_periods B.g_quote_periods (by walk_at"mem") (arg (ctyp S B.toTp gl B.b_bytes (by walk_at"mem") (arg ?_)))));refine ord_comp B.toB1 hA'.hd S (by decide+kernel) (by decide+kernel) ?_;refine cdef S B.toTp gl B.f_fix_eols B.g_fix_eols (by walk_at"mem") (arg (slcE S ?_));walk_at"name";refine evalPart_some_step ?_;walk_at"name";refine evalPart_some_step ?_;walk_at"name";refine⟨x,_,some ((j:Int),tj),some ((q:Int),tv),j,q,rfl,rfl,rfl,rfl,rfl,J208 hj,by exact hq',J129 hl,_,_,_,_,S,fun tb sb S=>?_⟩;refine argE ⟨fun a o e=>S.atK e,fix_eols_ok B.toB1 (hA'.le (by decide)) (J131 hbl) (fun a o e=>S.atK e) fun h t tq hk=>?_⟩;have S':=S.keep (t:=t) hk;clear S;generalize ({sb with heap:=_,toks:=_}:Shared)=s₄ at S'⊢;have S:=S';clear S';refine⟨_,_,_,_,_,rfl,hfsg,J316 hfl hbl,S,fun M ys n G2 s₂ g2 hys S=>argE ?_⟩;refine bytes_of S hA'.hd hys (fun c hc=>Nat.lt_trans (hfsg c hc) (by decide)) (J316 hfl hbl) fun t sb S=>argE ?_;refine⟨fun a o e=>S.atK e,quote_periods_ok B.toB1 (hA'.le (by decide)) (J318 hfl hbl) (fun c hc=>Nat.lt_trans (hfsg c hc) (by decide)) (fun a o e=>S.atK e) fun h t tq hk=>?_⟩;have S':=S.keep (t:=t) hk;clear S;generalize ({sb with heap:=_,toks:=_}:Shared)=s₄ at S'⊢;have S:=S';clear S';have hdb:dotB (fixL (sub x j q))=octs (sentL (sub x j q)):=by rw[←hquo];rfl
  rw[hdb];refine S.store (by walk_at"pv") (.inl rfl) fun sb S=>?_;have hsl:(sentL (sub x j q)).length≤24:=by rw[←hquo];exact J459 hdl hfl hbl
  refine xc (xif (xcmp (cblt S B.toTp gl B.b_len (by walk_at"mem") (arg ?_))));walk_at"name";refine argE (len_b S (J123 hsl) fun t4 sb S=>?_);walk_at"name";refine P.le_int (wpAny_truthy_bool ?_);have hok:okB x most j q=decide (((sentL (sub x j q)).length:Int)≤most):=rfl;have hsucc:=preds_succ x most q j;by_cases hm:((sentL (sub x j q)).length:Int)≤most
  ·refine if_t (by simpa using hm) ?_;rw[hok,decide_eq_true hm,if_pos rfl]at hsucc;refine xc (x_any S (meth PySem.F.plainAttrs_list PySem.F.slot_list_append PySem.F.type_list_append (Subscript_ ?_)));walk_at"name";walk_at"name";refine dget S (S.get (by walk_at"mem")) hol' int_is hcl' fun sb S=>?_;refine⟨cl,_,rfl,S.get (by walk_at"mem"),rfl,rfl,callWith_method1 (arg (tupE S (arg ?_)))⟩;walk_at"name";refine arg ?_;walk_at"name";refine argE ⟨_,_,_,S,by simp,fun T sb S=>?_⟩;refine x1_2 S.ice fun G3 S g3 hT=>?_;have hcl:=hcits.length;simp only[List.length_map]at hcl;have hcl6:((List.range j).filter fun p=>okB x most p q).length≤6:=Nat.le_trans (List.length_filter_le _ _) (by simp;exact J462 hj hq' hl);refine argE (app_lst (items:=cits) S (fun n'=>by walk_at"up") (J302 hcl hcl6) fun n' sb S=>?_);refine xn (xn (hN G3 _ _ _ (g2.trans g3) S fun _ k=>k _ _ _ _ rfl rfl ?_));rw[hsucc,List.map_append];exact(hcits.mono (g2.trans g3)).append (.cons (.tup hT (.cons (.int _ _) (.cons (.byt _ _) .nil))) .nil)
  ·refine if_f (by simpa using hm) ?_;rw[hok,decide_eq_false hm,if_neg Bool.false_ne_true,List.append_nil]at hsucc;refine xn (xn (hN G2 _ _ _ g2 S fun _ k=>k _ _ _ _ rfl rfl ?_));rw[hsucc];exact hcits.mono g2
 ·clear S;intro G'' vs' led' sb E'' hG'' hJ S;refine hJ _ fun cits nc v2 v3 el ev hcits=>?_;subst el ev;clear hJ;refine xn ?_;refine x1_2 S.ice fun G3 S g3 hcl3=>?_;have hcits:IsAll G3 cits ((predsL x most q).map (leadT x q)):=hcits.mono g3;have hcl:=hcits.length;simp only[List.length_map]at hcl;have hcl6:(predsL x most q).length≤6:=Nat.le_trans (List.length_filter_le _ _) (by simp;exact J321 hl hq');have hL3:LeadsIs prog w G3 x most (i+1) ol':=by
   refine⟨kvl',hol',J433 hkl' hkl,fun q' h1 h2=>?_⟩;by_cases hqq:q'=q
   ·subst hqq;exact⟨_,hcl',.lst hcl3 hcits⟩
   ·refine x1_1 (hlv' q' h1 (J565 hq h2 hqq)) fun v a1 a2=>?_;exact⟨v,a1,a2.mono (hG''.trans g3)⟩
  refine xc (xasg ?_);refine lcomp (fr:=[]) (los:=["place","octets"]) (owns:=[]) S (CompSc.of (show compScB _ ["place","octets"] [] []=true by decide+kernel)) fr_nil (Subscript_ ?_);walk_at"name";walk_at"name";refine dget S (S.get (by walk_at"mem")) hol' int_is hcl' fun sb S=>?_;refine lst_it S (S.at hcl3) fun I3 sb S=>?_;refine comp_tupD (ar:=2) (cs:=predsL x most q) (gl:=fun p=>[.int (p:Int),.byt (octs (sentL (sub x p q)))]) (fr:=[]) (los:=["place","octets"]) (owns:=[]) (fun p=>some (D.int (p:Int))) (CompSc.of (show compScB _ ["place","octets"] [] []=true by decide+kernel)) fr_nil hA'.hd S hcl3 hcits (J303 hcl6) (fun _=>rfl) (fm_map _ _) ?_ ?_
  ·intro p ws G4 cenv lv ledc sc E4 Y _ _ hws hG4 hled CE hlv hY _;clear S;refine hws.two fun w1 w2 h1 h2=>?_;refine h1.intE fun t1=>?_;refine lenE2 hlv fun v0 v1=>?_;intro(S:St K r (owf []) G4 cenv [("place",v0),("octets",v1)] ledc sc);refine put_cons (S.store (vs':=[("place",some (.int (p:Int) t1)),("octets",v1)]) (by walk_at"pv") (CE.st _ (by walk_at"mem")) fun sc S=>put_cons (S.store (vs':=[("place",some (.int (p:Int) t1)),("octets",some w2)]) (by walk_at"pv") (CE.st _ (by walk_at"mem")) fun sc S=>put_nil ?_));refine tuq_nil rfl ?_;walk_at"name";exact hY _ _ _ G4 [some (.int (p:Int) t1),some w2] (GLe.refl _) rfl S (.int _ _)
  ·intro G4 ys n' M C oC sc hG4 hys S hm;refine fin_none S hm fun sc S=>?_;refine x1_2 S.ice fun G5 S g5 hM=>?_;walk_at"name";walk_at"name";refine dset (o:=og) S (fun o'=>by walk_at"up") hog int_is (J456 hi hl hglen) fun og' sc hog' S=>?_;have gg:GLe G G5:=hG''.trans (g3.trans (hG4.trans g5));exact xn (k G5 _ ol' og' _ _ gg (hL3.mono (hG4.trans g5)) (GraphO.snoc hi hq hgr gg hog' hM (ints_are hys)) S)
end
theorem kinB:∀(a b:List (List Nat)),KinAll (bL a) (bL b)
 |[],_=>.nil _
 |_::_,[]=>.nil' _
 |_::a,_::b=>.cons (.byt _ _) (kinB a b)
theorem oD_kin(o o':Op):Kin (oD o) (oD o'):=.tup (.cons (.int _ _) (.cons (.lst (kinB _ _)) (.cons (.int _ _) (.nil _))))
theorem depsB:∀a:List (List Nat),D.deps (bL a)=0
 |[]=>rfl
 |_::a=>by show max 0 _=0;rw[depsB a];rfl
theorem oD_dep(o:Op):(oD o).dep≤2:=by
 show max 0 (max (D.deps (bL o.1.2)+1) (max 0 0))+1≤2;rw[depsB];decide
def LeastIs(prog:Program)(w:World)(x:List Nat)(most fee:Int)(n:Nat)(o:Obj):Prop:=∃kvs,o.IsDictOf (intKind prog w) kvs∧kvs.length≤n+1∧∀p≤n,∃t,valueAt kvs (p:Int)=some (.int (triedE x most fee p).1 t)
def BlocksIs(prog:Program)(w:World)(G:GH)(x:List Nat)(most fee:Int)(n:Nat)(o:Obj):Prop:=∃kvs,o.IsDictOf (intKind prog w) kvs∧kvs.length≤n+1∧∀p≤n,∃v,valueAt kvs (p:Int)=some v∧Is G v (.lst (bL (triedE x most fee p).2.2.2))
def WaysIs(prog:Program)(w:World)(x:List Nat)(most fee:Int)(n:Nat)(o:Obj):Prop:=∃kvs,o.IsDictOf (intKind prog w) kvs∧kvs.length≤n+1∧∀p≤n,∃t,valueAt kvs (p:Int)=some (.int ((triedE x most fee p).2.2.1:Nat) t)
theorem BlocksIs.mono{prog:Program}{w:World}{G G':GH}{x:List Nat}{most fee:Int}{n:Nat}{o:Obj}(h:BlocksIs prog w G x most fee n o)(hg:GLe G G'):BlocksIs prog w G' x most fee n o:=by
 refine x1_2 h fun kvs h1 h2 h3=>?_;clear h;exact⟨kvs,h1,h2,fun q a=>(h3 q a).elim fun v c=>⟨v,c.1,c.2.mono hg⟩⟩
section
variable{prog:Program}{w:World}{G:GH}{x:List Nat}{most fee:Int}{n:Nat}{kvs:List (Int×Value)}{o':Obj}{v:Value}
theorem snoc_at{P:Value→Prop}{p:Nat}(h1:p=n+1→P v)(h2:p≤n→∃u,valueAt kvs (p:Int)=some u∧P u)(hp:p≤n+1):∃u,valueAt (stored kvs ((n+1:Nat):Int) v) (p:Int)=some u∧P u:=by
 rw[valueAt_stored];by_cases e:p=n+1
 ·rw[if_pos (J229 e)];exact⟨v,rfl,h1 e⟩
 ·rw[if_neg (J258 e)];exact h2 (J331 e hp)
theorem stored_now:valueAt (stored kvs ((n+1:Nat):Int) v) ((n+1:Nat):Int)=some v:=by rw[valueAt_stored,if_pos rfl]
theorem snoc_len(h:kvs.length≤n+1):(stored kvs ((n+1:Nat):Int) v).length≤n+1+1:=by have:=stored_length_le kvs ((n+1:Nat):Int) v;exact J435 this h
theorem LeastIs.snoc{t:Tok}(h:o'.IsDictOf (intKind prog w) (stored kvs ((n+1:Nat):Int) (.int (triedE x most fee (n+1)).1 t)))(hl:kvs.length≤n+1)(hv:∀p≤n,∃t,valueAt kvs (p:Int)=some (.int (triedE x most fee p).1 t)):LeastIs prog w x most fee (n+1) o':=
 ⟨_,h,snoc_len hl,fun p hp=>by
  obtain⟨u,h1,t',e⟩:=snoc_at (v:=.int (triedE x most fee (n+1)).1 t) (P:=fun u=>∃t,u=.int (triedE x most fee p).1 t) (fun e=>by subst e;exact⟨t,rfl⟩) (fun hp=>(hv p hp).elim fun t h=>⟨_,h,t,rfl⟩) hp;exact⟨t',by rw[h1,e]⟩⟩
theorem WaysIs.snoc{t:Tok}(h:o'.IsDictOf (intKind prog w) (stored kvs ((n+1:Nat):Int) (.int ((triedE x most fee (n+1)).2.2.1:Nat) t)))(hl:kvs.length≤n+1)(hv:∀p≤n,∃t,valueAt kvs (p:Int)=some (.int ((triedE x most fee p).2.2.1:Nat) t)):WaysIs prog w x most fee (n+1) o':=
 ⟨_,h,snoc_len hl,fun p hp=>by
  obtain⟨u,h1,t',e⟩:=snoc_at (v:=.int ((triedE x most fee (n+1)).2.2.1:Nat) t) (P:=fun u=>∃t,u=.int ((triedE x most fee p).2.2.1:Nat) t) (fun e=>by subst e;exact⟨t,rfl⟩) (fun hp=>(hv p hp).elim fun t h=>⟨_,h,t,rfl⟩) hp;exact⟨t',by rw[h1,e]⟩⟩
theorem BlocksIs.snoc(h:o'.IsDictOf (intKind prog w) (stored kvs ((n+1:Nat):Int) v))(hl:kvs.length≤n+1)(hI:Is G v (.lst (bL (triedE x most fee (n+1)).2.2.2)))(hv:∀p≤n,∃v,valueAt kvs (p:Int)=some v∧Is G v (.lst (bL (triedE x most fee p).2.2.2))):BlocksIs prog w G x most fee (n+1) o':=
 ⟨_,h,snoc_len hl,fun p hp=>snoc_at (P:=fun u=>Is G u (.lst (bL (triedE x most fee p).2.2.2))) (fun e=>by rw[e];exact hI) (hv p) hp⟩
end
noncomputable def ifThen(s:Option Stmt):List Stmt:=(stB s).1
noncomputable def soLoop:List Stmt:=forBody ((whBody ((bodyOf (topSt 26))[5]?))[0]?)
noncomputable def soStep:List Stmt:=ifThen (soLoop[0]?)
section
variable{prog:Program}{w:World}{A:Around}{E:Value→Shared→Prop}{K:GH}{mg mb:Str→Option Value}{p0 p1 p2 p3:Value}{Fg:Frag}{dV:Addr}{r s:Shared}{own:Str→Bool}{G:GH}{env:Env}{vs:Vs}{led:List (Addr×Obj)}
theorem sub_tup(S:St K r own G env vs led s){Q:Value→Shared→Prop}{T:Addr}{its:List Value}{n:Nat}{value slice:Expr}{k:Nat}{v:Value}{u:Tok}(hT:G T=some (tupOf its.toArray n))(hk:k<100)(hx:its[k]? =some v)(h:Q v s)
 (hs':subscripted slice false (.ref T) (.int (k:Nat) u)=operate [.ref T,.int (k:Nat) u] (getItem (.ref T) (.int (k:Nat) u)):=by with_unfolding_all rfl):wpAny (model prog w) A (subscriptTail value slice (.ref T) (.int (k:Nat) u)) Q E s:=by
 obtain⟨hlt,_⟩:=List.getElem?_eq_some_iff.mp hx;refine item_tupleT (l:=its) (j:=k) ⟨_,S.at hT,rfl,n,rfl⟩ J75 (J74 hk) ?_ hx h hs';unfold seqIndex?;have h0:¬(k:Int)<0:=J76;simp only[h0,if_false];rw[if_pos (by simp;exact hlt)];simp
variable{Q:Flow→Shared→Prop}
theorem sor_turn(B:B3 Fg K mg mb p0 p1 p2 p3 dV)(hA':Rm 12 A)(hkd:env.kindOf=fun y=>(scopeOf (topSt 26)).names.lookup y)(hsc:env.scope=scopeOf (topSt 26)){x:List Nat}{tx tm tf tv:Tok}{most fee:Int}{ld gd le bl wa tl:Addr}{ol oL oB oW:Obj}{tits:List Value}{nt n:Nat}{v2 v3 v4 v9 v10:Option Value}{rest:List (Addr×Obj)}
 (hx:Sg x) (hl:x.length≤6) (hn:n+1≤x.length) (hm:2≤most) (hfee:0≤fee) (hld:G ld=some ol) (hlow:(ld==sysModules)=false) (hL:LeadsIs prog w G x most (x.length+1) ol)
 (hLe:LeastIs prog w x most fee n oL) (hBl:BlocksIs prog w G x most fee n oB) (hWa:WaysIs prog w x most fee n oW) (htold:IsAll G tits ((List.range (n+1)).map fun p=>tB (triedE x most fee p)))
 (S:St K r yes G env (soV x tx most tm fee tf ld gd (some (.int ((n+1:Nat):Int) tv)) v2 v3 v4 (some (.ref le)) (some (.ref bl)) (some (.ref wa)) (some (.ref tl)) v9 v10) ((tl,listOf tits.toArray nt)::(wa,oW)::(bl,oB)::(le,oL)::rest) s)
 (k:∀G' s' oL' oB' oW' tits' nt' v9 v10,GLe G G'→LeastIs prog w x most fee (n+1) oL'→BlocksIs prog w G' x most fee (n+1) oB'→WaysIs prog w x most fee (n+1) oW'→IsAll G' tits' ((List.range (n+1+1)).map fun p=>tB (triedE x most fee p))→
  St K r yes G' env (soV x tx most tm fee tf ld gd (some (.int ((n+1:Nat):Int) tv)) v2 v3 v4 (some (.ref le)) (some (.ref bl)) (some (.ref wa)) (some (.ref tl)) v9 v10) ((tl,listOf tits'.toArray nt')::(wa,oW')::(bl,oB')::(le,oL')::rest) s'→Q .next s'):
 wpAny (model prog w) A (execs soStep env) Q E s:=by
 have gl:Gl env ["range","len","_quote_periods","bytes","_fix_eols","TopologicalSorter","min","sum"]:=Gl.of (sc:=scopeOf (topSt 26)) hkd (by decide+kernel);have kc:∀y,y∈([Str.ofString "fee","stop","least","blocks","ways"]:List Str)→env.kindOf y=some .cell:=by
  rw[hkd];intro y hy;have:(([Str.ofString "fee","stop","least","blocks","ways"]:List Str).all fun y=>(scopeOf (topSt 26)).names.lookup y==some .cell)=true:=by decide+kernel
  have:=List.all_eq_true.mp this y hy;exact eq_of_beq this
 refine x1_2 hL fun kvl hol hkl hlv=>?_;clear hL;refine x1_1 (hlv (n+1) hn J166) fun vl hvl hvlI=>?_;refine x1_2 hLe fun kL hoL hkL hLv=>?_;clear hLe;refine x1_2 hBl fun kB hoB hkB hBv=>?_;clear hBl;refine x1_2 hWa fun kW hoW hkW hWv=>?_;clear hWa;have hpl:(predsL x most (n+1)).length≤6:=Nat.le_trans (List.length_filter_le _ _) (by simp;exact J312 hn hl);have hpm:∀p∈predsL x most (n+1),p≤n:=fun p hp=>by have:=(preds_mem.mp hp).1;exact J222 this
 refine hvlI.lstI fun lc citems mc ev hlc hcall=>?_;subst ev;have hcil:=hcall.length;simp only[List.length_map]at hcil;have hfr:∀p∈[((Str.ofString "blocks" :Str),Value.ref bl),("fee",.int fee tf),("least",.ref le),("ways",.ref wa)],(p.1,some p.2)∈soV x tx most tm fee tf ld gd (some (.int ((n+1:Nat):Int) tv)) v2 v3 v4 (some (.ref le)) (some (.ref bl)) (some (.ref wa)) (some (.ref tl)) v9 v10∧env.kindOf p.1=some .cell:=
  fr_cons ⟨by walk_at"mem",kc _ (by walk_at"mem")⟩ (fr_cons ⟨by walk_at"mem",kc _ (by walk_at"mem")⟩ (fr_cons ⟨by walk_at"mem",kc _ (by walk_at"mem")⟩ (fr_cons ⟨by walk_at"mem",kc _ (by walk_at"mem")⟩ fr_nil)))
 refine xc (acomp (fr:=[((Str.ofString "blocks" :Str),Value.ref bl),("fee",.int fee tf),("least",.ref le),("ways",.ref wa)]) (los:=["place","octets"]) (owns:=[]) S (CompSc.of (show compScB _ ["place","octets"] [] ["blocks","fee","least","ways"]=true by decide+kernel)) hfr ?_ ?_)
 ·unfold swapsWith Env.blockKind;rw[hkd,hsc];kernel_rfl
 refine Subscript_ ?_;walk_at"name";walk_at"name";refine dget S (S.at hld) hol int_is hvl fun s₁ S=>?_;refine lst_it S (S.at hlc) fun I2 s₁ S=>?_;refine comp_tupD (ar:=2) (cs:=predsL x most (n+1)) (gl:=fun p=>[.int (p:Int),.byt (octs (sentL (sub x p (n+1))))]) (fr:=[((Str.ofString "blocks" :Str),Value.ref bl),("fee",.int fee tf),("least",.ref le),("ways",.ref wa)]) (los:=["place","octets"]) (owns:=[]) (fun p=>some (oD (opt x most fee (n+1) p))) (CompSc.of (show compScB _ ["place","octets"] [] ["blocks","fee","least","ways"]=true by decide+kernel)) hfr hA'.hd S hlc hcall (J303 hpl) (fun _=>rfl) (fm_map _ _) ?_ ?_
 ·intro p ws G4 cenv lv ledc sc E4 Y _ hp hws hG4 hled CE hlv4 hY _;clear S;have hpn:=hpm p hp;refine hws.two fun w1 w2 h1 h2=>?_;refine h1.intE fun t1=>?_;refine h2.bytE fun t2=>?_;refine lenE2 hlv4 fun v0 v1=>?_;intro(S:St K r (owf []) G4 cenv [("place",v0),("octets",v1),("blocks",some (.ref bl)),("fee",some (.int fee tf)),("least",some (.ref le)),("ways",some (.ref wa))] ledc sc);refine put_cons (S.store (vs':=[("place",some (.int (p:Int) t1)),("octets",v1),("blocks",some (.ref bl)),("fee",some (.int fee tf)),("least",some (.ref le)),("ways",some (.ref wa))]) (by walk_at"pv") (CE.st _ (by walk_at"mem")) fun sc S=>put_cons (S.store (vs':=[("place",some (.int (p:Int) t1)),("octets",some (.bytes (octs (sentL (sub x p (n+1)))) t2)),("blocks",some (.ref bl)),("fee",some (.int fee tf)),("least",some (.ref le)),("ways",some (.ref wa))]) (by walk_at"pv") (CE.st _ (by walk_at"mem")) fun sc S=>put_nil ?_));have gc:Gl cenv ["len"]:=fr_cons ⟨by decide+kernel,CE.gl _ (by decide+kernel)⟩ fr_nil;obtain⟨t3,hL3⟩:=hLv p hpn;refine x1_1 (hBv p hpn) fun vb hB3 hB4=>?_;obtain⟨t5,hW3⟩:=hWv p hpn;refine tuq_nil rfl (tupE S (arg (xop (xop (Subscript_ ?_)))));walk_at"name";walk_at"name";refine dget S (S.get (hled _ (by walk_at"mem"))) hoL int_is hL3 fun sc S=>?_;refine cblt S B.toTp gc B.b_len (by walk_at"mem") (arg ?_);walk_at"name";have hsl:=sentL_len (sub x p (n+1));rw[sub_len (J244 hpn) (by exact hn)]at hsl;refine argE (len_b S (J524 hn hl hsl) fun t6 sc S=>?_);refine b_add S fun t7 sc S=>?_;walk_at"name";refine b_add S fun t8 sc S=>?_;refine arg (xop (Subscript_ ?_));walk_at"name";walk_at"name";refine dget S (S.get (hled _ (by walk_at"mem"))) hoB int_is hB3 fun sc S=>?_;have hB5:=hB4.mono hG4;have hbn:(triedE x most fee p).2.2.2.length≤6:=by
   have:=wys_len (bw_best (x:=x) (fee:=fee) hm (p:=p) (J387 hn hpn)).1;have:(triedE x most fee p).2.2.2.length≤p:=this;exact J525 hn hl hpn this
  refine hB5.lstI fun lb bits mb' ev hlb hball=>?_;subst ev;have hbil:=hball.length;simp only[bL,List.length_map]at hbil;refine lstE S (arg ?_);walk_at"name";refine argE ⟨_,_,_,S,by simp,fun L1 sc S=>?_⟩;refine add_lst S (S.at hlb) (S.get (.head _)) (by simp;exact J315 hbil hbn) fun L2 sc S=>?_;refine x1_2 S.ice fun G5 S g5 hL2=>?_;have S:=S.drop;refine arg (Subscript_ ?_);walk_at"name";walk_at"name";refine dget S (S.get (hled _ (by walk_at"mem"))) hoW int_is hW3 fun sc S=>?_;refine argE ⟨_,_,_,S,by simp,fun T2 sc S=>?_⟩;refine x1_2 S.ice fun G6 S g6 hT3=>?_;refine hY _ _ _ G6 [some (.int (p:Int) t1),some (.bytes (octs (sentL (sub x p (n+1)))) t2)] (g5.trans g6) rfl S (.tup hT3 (.cons (.int _ _) (.cons (.lst (g6 _ _ hL2) ?_) (.cons (.int _ _) .nil))));show IsAll G6 _ (bL ((triedE x most fee p).2.2.2++[sentL (sub x p (n+1))]));unfold bL;rw[List.map_append];exact(hball.mono (g5.trans g6)).append (.cons (.byt _ _) .nil)
 intro G4 ys n' M C oC sc hG4 hys S hmm;refine fin_use S hmm (by walk_at"pv") (.inl rfl) fun sc S=>?_;refine x1_2 S.ice fun G5 S g5 hM=>?_;have hys:=hys.mono g5;have hyl:=hys.length;simp only[List.length_map]at hyl;have gg:GLe G G5:=hG4.trans g5;have hpn:=preds_ne hm hn;obtain⟨cc,hmin⟩:=sor_min hx (fee:=fee) hm hfee hn;refine xc (a_name (cblt S B.toTp gl B.b_min (by walk_at"mem") (arg ?_)));walk_at"name";refine argE ?_;refine min_data (dp:=2) S (hA'.le (by decide)) hM hys (fun h=>?_) (fun a ha b hb=>?_) (fun a ha=>?_) fun v sc hv S=>?_
 ·rw[List.map_eq_nil_iff]at h;rw[h]at hpn;cases hpn
 ·refine x1_1 (List.mem_map.mp ha) fun p _ eq2=>?_;subst eq2;refine x1_1 (List.mem_map.mp hb) fun q _ eq2=>?_;subst eq2;exact oD_kin _ _
 ·refine x1_1 (List.mem_map.mp ha) fun p _ eq2=>?_;subst eq2;exact oD_dep _
 rw[hmin]at hv;refine Is.tupE hv fun T bits nT hT hbits=>?_
 revert hT
 refine hbits.three fun w1 w2 w3 h1 h2 h3=>?_;refine h1.intE fun t1=>?_;intro hT;refine S.store (by walk_at"pv") (.inl rfl) fun sc S=>?_;refine xc (xasg (Subscript_ ?_));walk_at"name";walk_at"int";intro t2 sc S;refine sub_tup (k:=0) S hT (by decide) (v:=.int (triedE x most fee (n+1)).1 t1) rfl ?_;walk_at"name";walk_at"name";refine dset (o:=oL) S (fun o'=>by walk_at"up") hoL int_is (J452 hn hl hkL) fun oL' sc hoL' S=>?_;have hnL:=LeastIs.snoc hoL' hkL hLv;have hnow:valueAt (stored kL ((n+1:Nat):Int) (.int (triedE x most fee (n+1)).1 t1)) ((n+1:Nat):Int)=some (.int (triedE x most fee (n+1)).1 t1):=stored_now;generalize stored kL ((n+1:Nat):Int) (.int (triedE x most fee (n+1)).1 t1)=kL' at hoL' hnow;refine xc (xasg (Subscript_ ?_));walk_at"name";walk_at"int";intro t3 sc S;refine sub_tup (k:=1) S hT (by decide) (v:=w2) rfl ?_;walk_at"name";walk_at"name";refine dset (o:=oB) S (fun o'=>by walk_at"up") hoB int_is (J452 hn hl hkB) fun oB' sc hoB' S=>?_;have hnB:BlocksIs prog w G5 x most fee (n+1) oB':=BlocksIs.snoc hoB' hkB h2 fun p hp=>(hBv p hp).elim fun v h=>⟨v,h.1,h.2.mono gg⟩;have hnowB:valueAt (stored kB ((n+1:Nat):Int) w2) ((n+1:Nat):Int)=some w2:=stored_now;generalize stored kB ((n+1:Nat):Int) w2=kB' at hoB' hnowB;have hfr2:∀p∈[((Str.ofString "least" :Str),Value.ref le),("stop",.int ((n+1:Nat):Int) tv)],(p.1,some p.2)∈soV x tx most tm fee tf ld gd (some (.int ((n+1:Nat):Int) tv)) v2 v3 v4 (some (.ref le)) (some (.ref bl)) (some (.ref wa)) (some (.ref tl)) (some (.ref M)) (some (.ref T))∧env.kindOf p.1=some .cell:=
  fr_cons ⟨by walk_at"mem",kc _ (by walk_at"mem")⟩ (fr_cons ⟨by walk_at"mem",kc _ (by walk_at"mem")⟩ fr_nil)
 refine xc (xasg (cblt S B.toTp gl B.b_sum (by walk_at"mem") (arg ?_)));refine lcomp (fr:=[((Str.ofString "least" :Str),Value.ref le),("stop",.int ((n+1:Nat):Int) tv)]) (los:=["price","row","count"]) (owns:=[]) S (CompSc.of (show compScB _ ["price","row","count"] [] ["least","stop"]=true by decide+kernel)) hfr2 ?_;walk_at"name";refine lst_it S (S.at hM) fun I3 sc S=>?_;refine comp_tupD (ar:=3) (cs:=predsL x most (n+1)) (gl:=fun p=>[.int (opt x most fee (n+1) p).1.1,.lst (bL (opt x most fee (n+1) p).1.2),.int (opt x most fee (n+1) p).2]) (fr:=[((Str.ofString "least" :Str),Value.ref le),("stop",.int ((n+1:Nat):Int) tv)]) (los:=["price","row","count"]) (owns:=[])
  (fun p=>if(opt x most fee (n+1) p).1.1==(triedE x most fee (n+1)).1 then some (D.int ((opt x most fee (n+1) p).2:Nat))else none) (CompSc.of (show compScB _ ["price","row","count"] [] ["least","stop"]=true by decide+kernel)) hfr2 hA'.hd S hM hys (J303 hpl) (fun _=>rfl) (fm_filter _ _ _) ?_ ?_
 ·intro p ws G6 cenv lv ledc sd E6 Y N _ hws hG6 hled CE hlv4 hY hN;clear S;refine hws.three fun y1 y2 y3 q1 q2 q3=>?_;refine q1.intE fun t4=>?_;refine q3.intE fun t5=>?_;refine lenE3 hlv4 fun u0 u1 u2=>?_;intro(S:St K r (owf []) G6 cenv [("price",u0),("row",u1),("count",u2),("least",some (.ref le)),("stop",some (.int ((n+1:Nat):Int) tv))] ledc sd);refine put_cons (S.store (vs':=[("price",some (.int (opt x most fee (n+1) p).1.1 t4)),("row",u1),("count",u2),("least",some (.ref le)),("stop",some (.int ((n+1:Nat):Int) tv))]) (by walk_at"pv") (CE.st _ (by walk_at"mem")) fun sd S=>put_cons (S.store (vs':=[("price",some (.int (opt x most fee (n+1) p).1.1 t4)),("row",some y2),("count",u2),("least",some (.ref le)),("stop",some (.int ((n+1:Nat):Int) tv))]) (by walk_at"pv") (CE.st _ (by walk_at"mem")) fun sd S=>put_cons (S.store (vs':=[("price",some (.int (opt x most fee (n+1) p).1.1 t4)),("row",some y2),("count",some (.int ((opt x most fee (n+1) p).2:Nat) t5)),("least",some (.ref le)),("stop",some (.int ((n+1:Nat):Int) tv))]) (by walk_at"pv") (CE.st _ (by walk_at"mem")) fun sd S=>put_nil ?_)));refine tuq_one (xcmp ?_);walk_at"name";refine Subscript_ ?_;walk_at"name";walk_at"name";refine dget S (S.get (hled _ (by walk_at"mem"))) hoL' int_is hnow fun sd S=>?_;refine PyProof.Rows.eq_int (wpAny_truthy_bool ?_);by_cases hb:(opt x most fee (n+1) p).1.1=(triedE x most fee (n+1)).1
  ·refine tu1_y (if_pos (by simpa using hb)) (by simpa using hb) ?_;walk_at"name";exact hY _ _ _ G6 [some (.int (opt x most fee (n+1) p).1.1 t4),some y2,some (.int ((opt x most fee (n+1) p).2:Nat) t5)] (GLe.refl _) rfl S (.int _ _)
  ·exact tu1_n (if_neg (by simpa using hb)) (by simpa using hb) (hN _ G6 [some (.int (opt x most fee (n+1) p).1.1 t4),some y2,some (.int ((opt x most fee (n+1) p).2:Nat) t5)] (GLe.refl _) rfl S)
 intro G6 zs n6 M6 C6 oC6 sd hG6 hzs S hmm;refine fin_none S hmm fun sd S=>argE ?_;have hzs:IsAll G6 zs (((predsL x most (n+1)).filter fun p=>(opt x most fee (n+1) p).1.1==(triedE x most fee (n+1)).1).map (fun p=>(((opt x most fee (n+1) p).2:Nat):Int))|>.map D.int):=by rw[List.map_map];exact hzs
 refine sum_lst S hA'.hd (S.get (.head _)) (ints_are' hzs) fun t6 sd S=>?_;have S:=S.drop;rw[sor_cnt hx hm hfee hn];walk_at"name";walk_at"name";refine dset (o:=oW) S (fun o'=>by walk_at"up") hoW int_is (J452 hn hl hkW) fun oW' sd hoW' S=>?_;have hnW:=WaysIs.snoc hoW' hkW hWv;have hnowW:valueAt (stored kW ((n+1:Nat):Int) (.int ((triedE x most fee (n+1)).2.2.1:Nat) t6)) ((n+1:Nat):Int)=some (.int ((triedE x most fee (n+1)).2.2.1:Nat) t6):=stored_now;generalize stored kW ((n+1:Nat):Int) (.int ((triedE x most fee (n+1)).2.2.1:Nat) t6)=kW' at hoW' hnowW;refine xc (x_any S (meth PySem.F.plainAttrs_list PySem.F.slot_list_append PySem.F.type_list_append ?_));walk_at"name";refine⟨tl,_,rfl,S.get (by walk_at"mem"),rfl,rfl,callWith_method1 (arg (tupE S (arg (Subscript_ ?_))))⟩;walk_at"name";walk_at"name";refine dget S (S.get (by walk_at"mem")) hoL' int_is hnow fun sd S=>arg ?_;walk_at"name";refine arg (Subscript_ ?_);walk_at"name";walk_at"name";refine dget S (S.get (by walk_at"mem")) hoW' int_is hnowW fun sd S=>arg (Subscript_ ?_);walk_at"name";walk_at"name";refine dget S (S.get (by walk_at"mem")) hoB' int_is hnowB fun sd S=>?_;refine argE ⟨_,_,_,S,by simp,fun T2 sd S=>?_⟩;refine x1_2 S.ice fun G7 S g7 hT2=>?_;have htl:=htold.length;simp only[List.length_map,List.length_range]at htl;refine argE (app_lst (items:=tits) S (fun n'=>by walk_at"up") (J451 hn hl htl) fun nt' sd S=>?_);have g57:=hG6.trans g7;refine xn (k G7 sd oL' oB' oW' _ nt' _ _ (gg.trans g57) hnL (hnB.mono g57) hnW ?_ S);rw[List.range_succ,List.map_append];refine(htold.mono (gg.trans g57)).append (.cons (.tup hT2 (.cons (.int _ _) (.cons (.int _ _) (.cons (.int _ _) (.cons (h2.mono g57) .nil))))) .nil)
end
noncomputable def soRest:List Stmt:=(bodyOf (topSt 26)).drop 5
noncomputable abbrev soR(x:List Nat)(tx:Tok)(most:Int)(tm:Tok)(fee:Int)(tf:Tok)(ld gd xS le bl wa tl:Addr)(v1 v2 v3 v9 v10:Option Value):Vs:=soV x tx most tm fee tf ld gd v1 v2 v3 (some (.ref xS)) (some (.ref le)) (some (.ref bl)) (some (.ref wa)) (some (.ref tl)) v9 v10
noncomputable abbrev soL(le bl wa tl:Addr)(oL oB oW:Obj)(tits:List Value)(nt:Nat)(rest:List (Addr×Obj)):List (Addr×Obj):=(tl,listOf tits.toArray nt)::(wa,oW)::(bl,oB)::(le,oL)::rest
structure SoK(prog:Program)(w:World)(x:List Nat)(most fee:Int)(xS dS nD rl:Addr)(k:Nat)(G:GH)(ns:List Nd)(ledS:List (Addr×Obj))(oL oB oW:Obj)(tits:List Value):Prop where
 g:Gr prog w xS dS nD (.ref rl) (k:Int) (k:Int) ns ledS
 q:Rd rl (if k≤x.length then[k]else[]) ns ledS
 o:OrdC x most k (cont ns)
 le:LeastIs prog w x most fee (k-1) oL
 bl:BlocksIs prog w G x most fee (k-1) oB
 wa:WaysIs prog w x most fee (k-1) oW
 tl:IsAll G tits ((List.range (k-1+1)).map fun p=>tB (triedE x most fee p))
section
variable{prog:Program}{w:World}{A:Around}{E:Value→Shared→Prop}{K:GH}{mg mb:Str→Option Value}{p0 p1 p2 p3:Value}{Fg:Frag}{dV:Addr}{r s:Shared}{own:Str→Bool}{G:GH}{env:Env}{vs:Vs}{led:List (Addr×Obj)}
variable{Q:Flow→Shared→Prop}
theorem for1{target:Expr}{body orelse:List Stmt}{E₀:Value→Shared→Prop}{I:Addr}{P:Nat→Value→Prop}{O:Nat→Obj→Prop}{o:Obj}
 (W:∀G',GLe G G'→Itr prog w A G' I 1 P O) (Fin:GH→Vs→List (Addr×Obj)→Prop) (S:St K r own G env vs ((I,o)::led) s) (h0:O 0 o)
 (step:∀v o s E' (N:Shared→Prop),P 0 v→(∀G₃ vs₃ led₃ s₃,GLe G G₃→St K r own G₃ env vs₃ ((I,o)::led₃) s₃→Fin G₃ vs₃ led₃→N s₃)→St K r own G env vs ((I,o)::led) s→
  wpAny (model prog w) A (assign target env v) (bq (model prog w) A env body (wq N Q) E') E' s)
 (done:∀G' vs' led' s E',GLe G G'→Fin G' vs' led'→St K r own G' env vs' led' s→wpAny (model prog w) A (execs orelse env) Q E' s)
 (hgo:∀v,letOwnedTupleGo target (.ref I) v=pure ():=by intro v;rfl):
 codeAny (model prog w) A (.forLoop target (.ref I) body orelse env) (fun r s'=>match r with| .ok f=>Q f s'| .error e=>cameBackBy (model prog w) A env E₀ e s') s:=
 forN W (fun i G' vs' led'=>match i with|0=>G'=G∧vs'=vs∧led'=led|_+1=>Fin G' vs' led') S h0 ⟨rfl,rfl,rfl⟩ (fun i v G' vs' led' o' s' E' N hi hv _ hN hJ S'=>by
  cases i with
  |zero=>refine x0_2 hJ fun eq0=>?_;clear hJ;subst eq0;intro eq1;subst eq1;intro eq2;subst eq2;exact step v _ _ E' N hv hN S'
  |succ i=>exact absurd hi J71) done hgo
theorem so_loop(B:B3 Fg K mg mb p0 p1 p2 p3 dV)(hA':Rm 14 A)(hkd:env.kindOf=fun y=>(scopeOf (topSt 26)).names.lookup y)(hsc:env.scope=scopeOf (topSt 26)){x:List Nat}{tx tm tf:Tok}{most fee:Int}{ld gd le bl wa tl xS dS nD rl:Addr}{ol oL oB oW:Obj}{tits:List Value}{nt:Nat}{v1 v2 v3 v9 v10:Option Value}{fs ledS:List (Addr×Obj)}{ns:List Nd}
 (hx:Sg x) (hl:x.length≤6) (hm:2≤most) (hfee:0≤fee) (hld:G ld=some ol) (hlow:(ld==sysModules)=false) (hL:LeadsIs prog w G x most (x.length+1) ol)
 (Z:SoK prog w x most fee xS dS nD rl 0 G ns ledS oL oB oW tits)
 (S:St K r yes G env (soR x tx most tm fee tf ld gd xS le bl wa tl v1 v2 v3 v9 v10) (soL le bl wa tl oL oB oW tits nt (fs++ledS)) s)
 (k:∀G' s' tits' nt' vs',GLe G G'→IsAll G' tits' ((List.range (x.length+1)).map fun p=>tB (triedE x most fee p))→St K r yes G' env vs' ((tl,listOf tits'.toArray nt')::fs) s'→Q (.ret (.ref tl)) s'):
 wpAny (model prog w) A (execs soRest env) Q E s:=by
 refine xc (whlN (fun m sa=>∀P:Prop,(∀k G' ns ledS oL oB oW tits nt v1 v9 v10,m=x.length+1-k→k≤x.length+1→GLe G G'→SoK prog w x most fee xS dS nD rl k G' ns ledS oL oB oW tits→
  St K r yes G' env (soR x tx most tm fee tf ld gd xS le bl wa tl v1 v2 v3 v9 v10) (soL le bl wa tl oL oB oW tits nt (fs++ledS)) sa→P)→P) (x.length+1)
  (fun _ k=>k 0 G ns ledS oL oB oW tits nt v1 v9 v10 rfl (Nat.zero_le _) (GLe.refl G) Z S) ?_)
 clear S Z;intro m sa N hN hI E';refine hI _ fun j G1 ns ledS oL oB oW tits nt v1 v9 v10 em hj hG1 Z S=>?_;clear hI;subst em;refine wpAny_isTrue_value (mcall B.fgin B.cS B.mAct ?_);walk_at"name";have hmS:∀p∈ledS,p∈soL le bl wa tl oL oB oW tits nt (fs++ledS):=fun p hp=>.tail _ (.tail _ (.tail _ (.tail _ (List.mem_append_right _ hp))));refine x7_1 (Z.g.sinst (h:=sa.heap) fun p hp=>S.get (hmS p hp)) fun y1 y2 y3 y4 y5 y6 y7 _ I'=>?_;refine⟨xS,_,_,_,rfl,⟨_,_,_,_,_,S⟩,I',by kernel_rfl,margs0 B.mAct.kp (S.fg B.fgin) ?_⟩;have S:St K r yes G1 env _ (soL le bl wa tl oL oB oW tits nt fs++ledS) sa:=S;have hh:=St.hand S;refine act_ok B (hA'.le (by decide)) (fun a o e=>S.atK e) hh.1 hh.2.1 Z.g Z.q fun G2 env2 vs2 s2 hG2 S2=>?_;refine x1_2 (St.backL S (fun _ _ e=>e) ⟨_,_,rfl⟩ hG2 S2) fun G3 hg3 _ S=>?_;have hact:(decide ((j:Int)<(j:Int))|| !(if j≤x.length then[j]else[]).isEmpty)=decide (j≤x.length):=by
  by_cases h:j≤x.length<;>simp[h]
 rw[hact];refine wpAny_truthy_bool ?_;by_cases hjx:j≤x.length
 ·refine if_t (by simpa using hjx) ?_;have hq:=Z.q;rw[if_pos hjx]at hq;have hjk:j∈ns.map (·.k):=by
   rw[←cont_keys];exact(Z.o.ky j).mpr hjx
  refine xc (xfor (mcall B.fgin B.cS B.mRdy ?_));walk_at"name";refine x7_1 (Z.g.sinst (h:=s2.heap) fun p hp=>S.get (List.mem_append_right _ hp)) fun y1 y2 y3 y4 y5 y6 y7 _ I'=>?_;refine⟨xS,_,_,_,rfl,⟨_,_,_,_,_,S⟩,I',by kernel_rfl,margs0 B.mRdy.kp (S.fg B.fgin) ?_⟩;have hh:=St.hand S;refine rdy_ok B (hA'.le (by decide)) (fun a o e=>S.atK e) hh.1 hh.2.1 Z.g hq (fun i hi=>by rw[List.mem_singleton]at hi;subst hi;exact hjk) fun G4 env4 vs4 led4 s4 ns4 T its hG4 S4 g4 q4 hc4 hT hTn hI=>?_;refine x1_2 (St.backL S (fun _ _ e=>e) ⟨_,_,rfl⟩ hG4 S4) fun G5 hg5 hnew5 S=>?_;have hT5:=hnew5 _ _ hT hTn;have hc4:cont ns4=putC (cont ns) j (-1):=hc4;have g4:Gr prog w xS dS nD (.ref rl) ((j:Int)+1) (j:Int) ns4 led4:=g4;have hil:=hI.length;simp only[List.length_map,List.length_cons,List.length_nil]at hil;refine tup_it S (S.at hT5) fun I sb S=>?_;have gg5:GLe G1 G5:=hg3.trans hg5;refine for1 (fun G' hg=>by have:=Itr.tuple (prog:=prog) (w:=w) (A:=A) hA'.hd (hg _ _ hT5) I;rw[hil]at this;exact this)
   (fun G' vs' led'=>∀P:Prop,(∀ns ledS oL oB oW tits nt v1 v9 v10,vs'=soR x tx most tm fee tf ld gd xS le bl wa tl v1 v2 v3 v9 v10→led'=soL le bl wa tl oL oB oW tits nt (fs++ledS)→SoK prog w x most fee xS dS nD rl (j+1) G' ns ledS oL oB oW tits→P)→P)
   S (And.intro rfl rfl) ?_ ?_
  ·intro v oi sc E6 N2 hv hN2 S;refine x2_1 (ints_get hI hv) fun a ta ha eq3=>?_;subst eq3;have ha:a=(j:Int):=by simpa using ha.symm
   subst ha;refine wpAny_assign_Name (S.store (by walk_at"pv") (.inl rfl) fun sc S=>?_);have S:St K r yes G5 env (soR x tx most tm fee tf ld gd xS le bl wa tl _ v2 v3 v9 v10) _ sc:=S;have hjk4:j∈ns4.map (·.k):=by
    rw[←cont_keys,hc4,putC_keys,cont_keys];exact hjk
   refine x1_1 (List.mem_map.mp hjk4) fun n0 hn0 hk0=>?_;have hout:n0.np= -1:=by
    rw[←npOf_cont g4.keys hn0,hk0,hc4];exact put_np1 Z.o hjx (-1)
   have hsu:n0.su=suL x most (x.length+1) j:=by
    rw[←suOf_cont g4.keys hn0,hk0,hc4,putC_su];exact Z.o.su j
   have hin:∀i∈n0.su,i∈ns4.map (·.k):=fun i hi=>by
    rw[hsu]at hi;rw[←cont_keys,hc4,putC_keys];exact(Z.o.ky i).mpr (suL_mem.mp hi).1
   have hsul:n0.su.length≤7:=by
    rw[hsu];unfold suL;refine Nat.le_trans (List.length_filter_le _ _) ?_;simp;exact hl
   have fin:∀(Qf:Flow→Shared→Prop) (G7:GH) (oL oB oW:Obj) (tits:List Value) (nt:Nat) (v9 v10:Option Value) (sd:Shared),GLe G5 G7→LeastIs prog w x most fee j oL→BlocksIs prog w G7 x most fee j oB→WaysIs prog w x most fee j oW→IsAll G7 tits ((List.range (j+1)).map fun p=>tB (triedE x most fee p))→
    St K r yes G7 env (soR x tx most tm fee tf ld gd xS le bl wa tl (some (.int (j:Int) ta)) v2 v3 v9 v10) ((I,oi)::soL le bl wa tl oL oB oW tits nt (fs++led4)) sd→
    (∀G9 ns8 led8 s8,GLe G5 G9→SoK prog w x most fee xS dS nD rl (j+1) G9 ns8 led8 oL oB oW tits→
     St K r yes G9 env (soR x tx most tm fee tf ld gd xS le bl wa tl (some (.int (j:Int) ta)) v2 v3 v9 v10) ((I,oi)::soL le bl wa tl oL oB oW tits nt (fs++led8)) s8→Qf .next s8)→
    ∀E7,wpAny (model prog w) A (execs (soLoop.drop 1) env) Qf E7 sd:=by
    intro Qf G7 oL oB oW tits nt v9 v10 sd hG7 hLe hBl hWa htl S hQf E7;have S:St K r yes G7 env (soR x tx most tm fee tf ld gd xS le bl wa tl (some (.int (j:Int) ta)) v2 v3 v9 v10) (((I,oi)::soL le bl wa tl oL oB oW tits nt fs)++led4) sd:=S;refine xc (x_any S (mcall B.fgin B.cS B.mDone ?_));walk_at"name";refine x7_1 (g4.sinst (h:=sd.heap) fun p hp=>S.get (List.mem_append_right _ hp)) fun y1 y2 y3 y4 y5 y6 y7 _ I'=>?_;refine⟨xS,_,_,_,rfl,⟨_,_,_,_,_,S⟩,I',by kernel_rfl,margs B.mDone.kp (S.fg B.fgin) (arg ?_)⟩;walk_at"name";have hh:=St.hand S;refine argE ⟨S.fg B.fgin,done_ok B (hA'.le (by decide)) (fun a o e=>S.atK e) hh.1 hh.2.1 g4 q4 hn0 hk0 hout hin (by simp;exact J133 hsul) fun s1 G8 env8 vs8 led8 s8 ns8 rd8 hs1 hs1' hG8 S8 g8 q8 hc8 hid=>?_⟩;refine x1_2 (St.backL S hs1 hs1' hG8 S8) fun G9 hg9 _ S=>?_;have hst:=ord_step hm Z.o hjx;rw[hc4]at hc8;rw[←hc8]at hst;obtain⟨hst1,hst2⟩:=hst;refine xn (hQf G9 ns8 led8 s8 (hG7.trans hg9) ⟨?_,?_,hst1,hLe,hBl.mono hg9,hWa,htl.mono hg9⟩ S)
    ·have e:((j+1:Nat):Int)=(j:Int)+1:=J17;rw[e];exact g8
    ·rw[←hst2];exact q8
   refine xc (xif (xcmp ?_));walk_at"name";walk_at"int";intro t0 sc S;refine P.gt_int (wpAny_truthy_bool ?_);have gG5:GLe G G5:=hG1.trans gg5;by_cases hj0:j=0
   ·have h0:¬((j:Int)>0):=J300 hj0;refine if_f (by simpa using h0) ?_;refine xn ?_;have hle:=Z.le;have hbl:=Z.bl;have hwa:=Z.wa;have htl:=Z.tl;rw[show j-1=j by exact J299 hj0]at hle hbl hwa htl;refine fin _ G5 oL oB oW tits nt v9 v10 sc (GLe.refl _) hle (hbl.mono gg5) hwa (htl.mono gg5) S (fun G9 ns8 led8 s8 hG9 Z8 S8=>?_) _;exact hN2 G9 _ _ _ hG9 S8 fun _ k=>k ns8 led8 oL oB oW tits nt _ _ _ rfl rfl Z8
   ·have h0:(j:Int)>0:=J307 hj0;refine if_t (by simpa using h0) ?_;obtain⟨n,rfl⟩:∃n,j=n+1:=⟨j-1,J298 h0⟩;have S:=S.perm (led':=(tl,listOf tits.toArray nt)::(wa,oW)::(bl,oB)::(le,oL)::(I,oi)::(fs++led4)) (List.Perm.append_right (fs++led4) (List.perm_append_comm (l₁:=[(I,oi)]) (l₂:=[(tl,listOf tits.toArray nt),(wa,oW),(bl,oB),(le,oL)])));have hle:LeastIs prog w x most fee n oL:=Z.le;have hbl:BlocksIs prog w G1 x most fee n oB:=Z.bl;have hwa:WaysIs prog w x most fee n oW:=Z.wa;have htl:IsAll G1 tits ((List.range (n+1)).map fun p=>tB (triedE x most fee p)):=Z.tl;refine sor_turn B (hA'.le (by decide)) hkd hsc hx hl hjx hm hfee (gG5 _ _ hld) hlow (hL.mono gG5) hle (hbl.mono gg5) hwa (htl.mono gg5) S fun G7 sd oL' oB' oW' tits' nt' w9 w10 hG7 hLe7 hBl7 hWa7 htl7 S=>?_;have S:=S.perm (led':=(I,oi)::soL le bl wa tl oL' oB' oW' tits' nt' (fs++led4)) (List.Perm.append_right (fs++led4) (List.perm_append_comm (l₁:=[(tl,listOf tits'.toArray nt'),(wa,oW'),(bl,oB'),(le,oL')]) (l₂:=[(I,oi)])));refine fin _ G7 oL' oB' oW' tits' nt' w9 w10 sd hG7 hLe7 hBl7 hWa7 htl7 S (fun G9 ns8 led8 s8 hG9 Z8 S8=>?_) _;exact hN2 G9 _ _ _ hG9 S8 fun _ k=>k ns8 led8 oL' oB' oW' tits' nt' _ _ _ rfl rfl Z8
  ·intro G6 vs' led' sc E6 hG6 hJ S;refine hJ _ fun ns8 led8 oL' oB' oW' tits' nt' w1 w9 w10 e1 e2 Z8=>?_;subst e1 e2;refine xn (xn (hN (x.length+1-(j+1)) _ (J245 hjx) fun _ k=>k (j+1) G6 ns8 led8 oL' oB' oW' tits' nt' w1 w9 w10 rfl (J241 hjx) (hG1.trans (gg5.trans hG6)) Z8 S))
 ·refine if_f (by simpa using hjx) ?_;have hjn:j=x.length+1:=J332 hj hjx;refine xn (xc (xret ?_));walk_at"name";have htl:=Z.tl;rw[hjn,show x.length+1-1+1=x.length+1 by exact J355]at htl;refine k G3 _ tits nt _ (hG1.trans hg3) (htl.mono hg3) (S.less ?_);exact .cons_cons _ (.cons _ (.cons _ (.cons _ (List.sublist_append_left _ _))))
end
theorem by_sorter_fn(pm:Value):FnOk (fdOf (topSt 26) "_law_by_sorter" .none 252 pm) ["text","most","fee"] ["leads","graph","stop","place","octets","sorter","least","blocks","ways","told","options","best"] (bodyOf (topSt 26)) where
 body:=rfl
 clo:=rfl
 gl:=rfl
 bi:=rfl
 fn:=rfl
 co:=rfl
 gen:=rfl
 bind:=by
  intro vals h;refine x3_0 (len3 h) fun a b c eq3=>?_;subst eq3;rfl
 ndS:=show((scopeOf (topSt 26)).names.map (·.1)).Nodup by decide+kernel
 names:=names_ok (sc:=scopeOf (topSt 26)) (by decide+kernel)
 nd:=by decide+kernel
theorem GraphIs.mono{G G':GH}{kvs:List (Int×Value)}{gr:List (Nat×List Nat)}(h:GraphIs G kvs gr)(hg:∀a o,G a=some o→G' a=some o):GraphIs G' kvs gr:=by
 refine⟨h.1,fun j k v hj=>?_⟩;refine x4_4 (h.2 j k v hj) fun p l its m a b c d e=>?_;exact⟨p,l,its,m,a,b,c,hg _ _ d,e⟩
theorem few_of:∀(n:Nat) (l:List Nat),l.Nodup→(∀j∈l,j<n)→l.length≤n:=by
 intro n
 induction n with
 |zero=>intro l _ h;cases l with|nil=>simp|cons a l=>exact absurd (h a (.head _)) J56
 |succ n ih=>
  intro l hn h;have hf:=ih (l.filter fun j=>decide (j≠n)) (List.Pairwise.filter _ hn) fun j hj=>by
   have h5:=List.mem_filter.mp hj;have h6:=h j h5.1;have h7:j≠n:=by simpa using h5.2
   exact J295 h6 h7
  have hcnt:l.length≤(l.filter fun j=>decide (j≠n)).length+1:=by
   clear ih hf h
   induction l with
   |nil=>simp
   |cons a l ih=>
    rw[List.nodup_cons]at hn;rw[List.filter_cons];by_cases ha:a=n
    ·subst ha;have:l.filter (fun j=>decide (j≠a))=l:=List.filter_eq_self.mpr fun b hb=>by
      have:b≠a:=fun e=>hn.1 (e▸hb);simpa using this
     rw[if_neg (by simp),this];simp
    ·rw[if_pos (by simpa using ha)];have:=ih hn.2;simp only[List.length_cons];exact J253 this
  exact J433 hcnt hf
section
variable{prog:Program}{w:World}{K:GH}{mg mb:Str→Option Value}{p0 p1 p2 p3:Value}{Fg:Frag}{dV:Addr}
theorem by_sorter_ok{A:Around}{outer:List Env}(B:B3 Fg K mg mb p0 p1 p2 p3 dV)(hA:Rm 20 A)(hfr:A.frames=some outer){fs:List (Addr×Obj)}(hFr:FrOk outer fs){s:Shared}{x:List Nat}{tx tm tf:Tok}{most fee:Int}{R:Result→Shared→Prop}
 (hx:Sg x) (hlx:x.length≤6) (hm:2≤most) (hfee:0≤fee)
 (hK:∀a o,K a=some o→s.heap.get? a=some o) (hl:∀p∈fs,s.heap.get? p.1=some p.2∧K p.1=none) (nd:(fs.map (·.1)).Nodup)
 (k:∀G2 env2 vs2 fs' s2 v,GLe (but fs s.heap) G2→SlE fs fs'→St K s yes G2 env2 vs2 fs' s2→Is G2 v (.lst ((List.range (x.length+1)).map fun p=>tB (triedE x most fee p)))→R (.ok (.ret v)) s2):
 codeAny (model prog w) A (.call (.ref 253) ⟨[.str (mkS x) tx,.int most tm,.int fee tf],[]⟩) R s:=by
 refine enterF (led:=fs) B.toTp B.f_law_by_sorter (by_sorter_fn p3) hA.room rfl (vs:=[("text",some (.str (mkS x) tx)),("most",some (.int most tm)),("fee",some (.int fee tf)),("leads",none),("graph",none),("stop",none),("place",none),("octets",none),("sorter",none),("least",none),("blocks",none),("ways",none),("told",none),("options",none),("best",none)]) rfl hK hl nd fun env s' hkd hsc hf S=>?_;have hA':=hA.deep env;have hfr':=Around.frames_deeper (env:=env) hfr;generalize hG0:but fs s.heap=G0 at S;have gl:Gl env ["range","len","_quote_periods","bytes","_fix_eols","TopologicalSorter","min","sum"]:=Gl.of (sc:=scopeOf (topSt 26)) hkd (by decide+kernel);refine xc ?_;refine Assign_Tuple_swapped (names:=["leads","graph"]) ?_ rfl ?_
 rotate_left
 ·unfold swappedStores Env.blockKind;rw[hkd,hsc];kernel_rfl
 refine tupE S (arg ?_);refine dnew S ?_;intro ld s₁ S;refine arg ?_;refine dnew S ?_;intro gd s₁ S;refine argE ⟨_,_,_,S,by simp,fun T s₁ S=>?_⟩;refine unpack_items S hA'.hd rfl fun s₁ S=>?_;refine putb_cons (S.store (by walk_at"pv") (.inl rfl) fun s₁ S=>putb_cons (S.store (by walk_at"pv") (.inl rfl) fun s₁ S=>put_nil ?_));refine xc (xfor (ctyp S B.toTp gl B.b_range (by walk_at"mem") (arg (cblt S B.toTp gl B.b_len (by walk_at"mem") (arg ?_)))));walk_at"name";refine argE (len_s S (J130 hlx) fun t2 s₂ S=>arg (wpAny_UnaryOp ?_));walk_at"int";intro t3 s₂ S;refine b_neg S fun t4 s₂ S=>arg (wpAny_UnaryOp ?_);walk_at"int";intro t5 s₂ S;refine b_neg S fun t6 s₂ S=>argE (rangeD_it (n:=x.length) S rfl hlx fun I s₂ S=>?_);refine forN (n:=x.length+1) (fun G' _=>Itr.range hA'.hd I x.length (-1) (x.length+1)) (fun i G' vs' led'=>∀P:Prop,(∀ol og v1 v2 v3,led'=(gd,og)::(ld,ol)::fs→vs'=soV x tx most tm fee tf ld gd v1 v2 v3 none none none none none none none→LeadsIs prog w G' x most i ol→GraphO prog w G' x most i og→P)→P) S (by simp)
  (fun _ k=>k emptyDict emptyDict none none none rfl rfl ⟨[],empty_is,by simp,fun q h1 h2=>by exact(J293 h2 h1).elim⟩ ⟨[],empty_is,rfl,fun i k v h=>by simp at h⟩) ?_ ?_
 ·clear S;intro i v G' vs' led' oi sa E' N hi hv hG hN hJ S;refine hJ _ fun ol og v1 v2 v3 e2 e3 hL hGr=>?_;subst e2 e3;clear hJ;obtain⟨tv,rfl⟩:=hv;have e1:((x.length:Int)+(i:Int)* -1)=((x.length-i:Nat):Int):=by omega
  rw[e1];refine wpAny_assign_Name (S.store (by walk_at"pv") (.inl rfl) fun sa S=>?_);refine lead_turn B (hA'.le (by decide)) hkd hsc hx hlx hi hL hGr S fun G2 s2 ol' og' w2 w3 hG2 hL2 hGr2 S=>?_;exact hN G2 _ _ _ hG2 S fun _ k=>k ol' og' _ w2 w3 rfl rfl hL2 hGr2
 clear S;intro G' vs' led' sa E' hG hJ S;refine hJ _ fun ol og v1 v2 v3 e2 e3 hL hGr=>?_;subst e2 e3;clear hJ;refine xn ?_;have hlowG:=S.low B.mods (a:=gd) (by walk_at"mem");have hlowL:=S.low B.mods (a:=ld) (by walk_at"mem");refine x1_2 S.ice fun G1 S g1 hgd=>?_;refine x1_2 S.ice fun G2 S g2 hld=>?_;have hgd:=g2 _ _ hgd;have hL:=(hL.mono g1).mono g2;refine x1_1 ((hGr.mono g1).mono g2) fun kvs hog hgr=>?_;refine x2_4 hog fun es ep hxd hdat hks hps hn=>?_;clear hog;refine xc (a_name (Call_ (S.glob B.toTp B.gTs (gl _ (by walk_at"mem")).2 (margs B.cS.kp (S.fg B.fgin) (arg ?_)))));walk_at"name";refine argE ⟨S.fg B.fgin,sorter_ok B (hA'.le (by decide)) (fun a o e=>S.atK e) hlowG (S.at hgd) hxd hdat hks hps hn (hgr.mono S.sub) (by unfold graphL;simp;exact hlx) (fun p hp=>?_) fun h t led2 xS dS nD ns hk hnew hnd g hc=>?_⟩
 ·unfold graphL at hp;refine x1_1 (List.mem_map.mp hp) fun i hi eq2=>?_;subst eq2;refine Nat.le_trans (List.length_filter_le _ _) ?_;simp;exact J237 hlx
 have S':=S.news (t:=t) (os:=led2) hk hnew hnd;clear S;generalize ({sa with heap:=_,toks:=_}:Shared)=s₄ at S'⊢;have S:=S';clear S';refine S.store (by walk_at"pv") (.inl rfl) fun s₄ S=>?_;have hord:=ord_init x most;rw[←hc]at hord;have hgk:ns.length≤7:=by
  have h1:=hord.nd;have h2:∀j∈keysC (cont ns),j<7:=fun j hj=>by have:=(hord.ky j).mp hj;exact J320 hlx this
  have h3:(keysC (cont ns)).length≤7:=by
   exact few_of 7 _ h1 h2
  rw[←cont_len];simpa[keysC]using h3
 have hup:∀n∈ns,∀m∈n.su,n.k<m∧m∈ns.map (·.k):=by
  intro n hn m hmm;rw[←suOf_cont g.keys hn,hord.su]at hmm;obtain⟨h1,h2⟩:=suL_mem.mp hmm;refine⟨(preds_mem.mp h2).1,?_⟩;rw[←cont_keys];exact(hord.ky m).mpr h1
 refine xc (x_any S (mcall B.fgin B.cS B.mPrep ?_));walk_at"name";have S:=S.perm (led':=fs++led2) List.perm_append_comm;refine x7_1 (g.sinst (h:=s₄.heap) fun p hp=>S.get (List.mem_append_right _ hp)) fun y1 y2 y3 y4 y5 y6 y7 _ I'=>?_;refine⟨xS,_,_,_,rfl,⟨_,_,_,_,_,S⟩,I',by kernel_rfl,margs0 B.mPrep.kp (S.fg B.fgin) ?_⟩;obtain⟨ml,nq90,_⟩:=S.fm.loc;obtain⟨oE,esE,epE,hE,hEd,_⟩:=nq90;have hndS:=S.nd;have hKn:∀a,(∀o,K a=some o→False)→K a=none:=fun a h=>by
  cases q:K a with
  |none=>rfl
  |some o=>exact(h o q).elim
 refine prep_ok (fs:=(env.locals,oE)::fs) (led:=led2) B (hA'.le (by decide)) hfr' (.cons S.eo.fn hf hEd hFr) (fun a o e=>S.atK e) ?_ ?_ g hup (J134 hgk) fun G8 env8 vs8 fs8 led8 s8 rl hG8 hsl8 S8 g8 q8=>?_
 ·intro p hp;rcases List.mem_cons.mp hp with rfl|hp
  ·exact⟨hE,hKn _ fun o q=>by have:=S.base _ _ q;rw[S.gl]at this;cases this⟩
  ·exact⟨S.get hp,hKn _ fun o q=>by have:=S.base _ _ q;rw[(S.ld p hp).2.1]at this;cases this⟩
 ·show(env.locals::(fs++led2).map (·.1)).Nodup;rw[List.nodup_cons];refine⟨fun hmm=>?_,hndS⟩;refine x1_1 (List.mem_map.mp hmm) fun p hp e=>?_;exact(S.ld p hp).2.2.1 e
 cases hsl8 with
 |@cons _ _ _ fs9 sl hsl=>
 have eN:fs++led2=(fs++led2)++[]:=(List.append_nil _).symm;rw[eN]at S;apply x1_2 (St.backF (led:=fs++led2) (rest:=[]) (led2:=fs9++led8) S hE hG8 S8);intro G9 hg9 _ S;rw[List.append_nil]at S;have hld:=hg9 _ _ hld;have hL:=hL.mono hg9;refine xc ?_;refine Assign_Tuple ?_;refine tupE S ?_;refine arg ?_;refine dnew1 S ?_;intro le s₁ S;walk_at"int";intro t7 s₁ S;walk_at"int";intro t8 s₁ S;refine⟨_,_,_,_,_,rfl,S,fun oL s₁ hoL S=>?_⟩;refine arg ?_;refine dnew1 S ?_;intro bl s₁ S;walk_at"int";intro t9 s₁ S;refine lstE S (argE ⟨_,_,_,S,by simp,fun L0 s₁ S=>?_⟩);refine x1_2 S.ice fun G3 S g3 hL0=>?_;refine⟨_,_,_,_,_,rfl,S,fun oB s₁ hoB S=>?_⟩;refine arg ?_;refine dnew1 S ?_;intro wa s₁ S;walk_at"int";intro t10 s₁ S;walk_at"int";intro t11 s₁ S;refine⟨_,_,_,_,_,rfl,S,fun oW s₁ hoW S=>?_⟩;refine arg ?_;refine lstE S (arg (tupE S (arg ?_)));walk_at"int";intro t12 s₁ S;refine arg ?_;walk_at"int";intro t13 s₁ S;refine arg ?_;walk_at"int";intro t14 s₁ S;refine arg (lstE S (argE ⟨_,_,_,S,by simp,fun L1 s₁ S=>?_⟩));refine x1_2 S.ice fun G4 S g4 hL1=>?_;refine argE ⟨_,_,_,S,by simp,fun T0 s₁ S=>?_⟩;refine x1_2 S.ice fun G5 S g5 hT0=>?_;refine argE ⟨_,_,_,S,by simp,fun tl s₁ S=>?_⟩;refine argE ⟨_,_,_,S,by simp,fun T1 s₁ S=>?_⟩;refine unpack_led S hA'.hd fun s₁ S=>?_;refine put_cons (S.store (by walk_at"pv") (.inl rfl) fun s₁ S=>put_cons (S.store (by walk_at"pv") (.inl rfl) fun s₁ S=>put_cons (S.store (by walk_at"pv") (.inl rfl) fun s₁ S=>put_cons (S.store (by walk_at"pv") (.inl rfl) fun s₁ S=>put_nil ?_))));have q1:(triedE x most fee 0).1=0:=by simp[triedE,leastR,cuts_zero,priceR,minI,mid,sub,sentL,sentGo]
 have q2:(triedE x most fee 0).2.2.1=1:=by simp[triedE,bestR,leastR,cuts_zero,priceR,minI,mid,sub,sentL,sentGo]
 have q3:(triedE x most fee 0).2.2.2=[]:=by simp[triedE,bestR,leastR,cuts_zero,priceR,minI,mid,sub,sentL,sentGo,blocksR,minO]
 have Z:SoK prog w x most fee xS dS nD rl 0 G5 ns led8 oL oB oW [.ref T0]:=by
  refine⟨g8,?_,hord,⟨_,hoL,by simp,fun p hp=>?_⟩,⟨_,hoB,by simp,fun p hp=>?_⟩,⟨_,hoW,by simp,fun p hp=>?_⟩,?_⟩
  ·rw[if_pos (Nat.zero_le _)];have:=ord_rdy hm hord;rw[this]at q8;exact q8
  ·have:p=0:=J115 hp;subst this;rw[q1];exact⟨_,rfl⟩
  ·have:p=0:=J115 hp;subst this;rw[q3];exact⟨_,rfl,.lst (g5 _ _ (g4 _ _ hL0)) .nil⟩
  ·have:p=0:=J115 hp;subst this;rw[q2];exact⟨_,rfl⟩
  ·refine .cons (.tup hT0 (.cons ?_ (.cons (.int _ _) (.cons ?_ (.cons ?_ .nil))))) .nil
   ·rw[q1];exact .int _ _
   ·rw[q2];exact .int _ _
   ·rw[q3];exact .lst (g5 _ _ hL1) .nil
 have gg:GLe G9 G5:=g3.trans (g4.trans g5);refine so_loop B (hA'.le (by decide)) hkd hsc hx hlx hm hfee (gg _ _ hld) hlowL (hL.mono gg) Z S fun G6 s6 tits' nt' vs6 hG6 htl S=>?_;refine x1_2 S.ice fun G7 S g7 htl7=>?_;refine k G7 _ _ fs9 _ _ ?_ hsl S (.lst htl7 (htl.mono g7));rw[hG0];exact hG.trans (g1.trans (g2.trans (hg9.trans (gg.trans (hG6.trans g7)))))
end
section
variable{prog:Program}{w:World}{A:Around}{E:Value→Shared→Prop}{R:Result→Shared→Prop}{K:GH}{mg mb:Str→Option Value}{r:Shared}{own:Str→Bool}{G:GH}{env:Env}{vs vs':Vs}{led led' rest:List (Addr×Obj)}{s:Shared}{Q:Value→Shared→Prop}
noncomputable abbrev enumO(it:Addr)(i:Nat)(old:Value):Obj:={cls:=.type "enumerate",dict:=none,data:=.fields #[.none,.bool false,.ref it,rawInt i,.none,old],slots:= #[]}
theorem enum_new(S:St K r own G env vs led s){l:Addr}{items:List Value}{m:Nat}(hl:s.heap.get? l=some (listOf items.toArray m))
 (h:∀e it oi s',oi.cls=.type "list_iterator"→oi.data=.fields #[.ref l,.int 0 0]→St K r own G env vs ((e,enumO it 0 .none)::(it,oi)::led) s'→Q (.ref e) s'):
 wpAny (model prog w) A (call (.type "enumerate") [.ref l]) (fun x s₁=>wpAny (model prog w) A (pyIter x) Q E s₁) E s:=by
 refine call_enumerate_list (items:=items.toArray) ⟨_,hl,rfl,m,rfl⟩ fun h' he ⟨oi,hoi,hc,hd⟩ hz hk=>?_;have he:h'.get? (s.heap.objs.size+1)=some (enumO s.heap.objs.size 0 .none):=he;have S':=S.news (t:=s.toks) (os:=[(s.heap.objs.size+1,enumO s.heap.objs.size 0 .none),(s.heap.objs.size,oi)]) hk (by
  intro p hp;simp only[List.mem_cons,List.not_mem_nil,or_false]at hp;rcases hp with rfl|rfl
  ·refine⟨?_,he⟩;cases q:s.heap.get? (s.heap.objs.size+1)with
   |none=>rfl
   |some o=>exact absurd (Heap.lt_size q) (by show¬(s.heap.objs.size+1<s.heap.objs.size);exact J55)
  ·exact⟨get_size_none _,hoi⟩) (by simp)
 exact wpAny_pyIter_enum (S'.get (.head _)) (h _ _ oi _ hc hd S')
theorem self_enum{e it:Addr}{s:Shared}{Q:Value→Shared→Prop}{i:Nat}{old:Value}(he:s.heap.get? e=some (enumO it i old))(h:Q (.ref e) s):wpAny (model prog w) A (pyIter (.ref e)) Q E s:=wpAny_pyIter_enum he h
theorem Src.enum{G0:GH}(hg:GLe G0 G)(hA:A.handled=none){e it l:Addr}{items:List Value}{m:Nat}(hl:G0 l=some (listOf items.toArray m))
 {e1 e2:Expr} {k:Nat} {pos:Pos} (har:(assignEach [e1,e2] env).length=2:=by rfl) (hstar:(assignEach [e1,e2] env).findIdx? (·.1)=none:=by rfl):
 Src prog w A G env (.Tuple [e1,e2] k pos) (.ref e) items.length (fun i ws=>∃t v,items[i]? =some v∧ws=[.int i t,v]) (fun i os=>∃old oi,os=[(e,enumO it i old),(it,oi)]∧oi.cls=.type "list_iterator"∧oi.data=.fields #[.ref l,.int i 0]) where
 item:=by
  intro i s os Q E hi hG ho hnd nq91;obtain⟨old,oi,rfl,hc,hd⟩:=nq91;intro kk;have ge:=ho _ (.head _);have gi:=ho _ (.tail _ (.head _));have hne:e≠it:=by
   simp at hnd;exact hnd
  have hL:s.heap.IsList l items.toArray:=⟨_,hG _ _ (hg _ _ hl),rfl,m,rfl⟩;obtain⟨v,hv⟩:∃v,items[i]? =some v:=⟨items[i],List.getElem?_eq_getElem hi⟩;refine wpAny_pyNext_enum_item (items:=items.toArray) (x:=v) ge.1 ⟨oi,gi.1,hc,hd⟩ hL (by simpa using hv) hne fun h' b1 b2 b3 b4 b5=>⟨_,rfl,?_⟩;refine wpAny_letOwnedTupleGo_enum b1 fun h'' hz' hs'=>?_;have hse:s.heap.objs.size≠e:=Nat.ne_of_gt (Heap.lt_size ge.1);have hsi:s.heap.objs.size≠it:=Nat.ne_of_gt (Heap.lt_size gi.1);have hT:h''.get? s.heap.objs.size=some (tupOf #[.int i s.toks,v] 0):=(hs'.2 _ hse).trans b3;refine x1_2 b2 fun oi' hoi' hc' hd'=>?_;clear b2;have hoi'':h''.get? it=some oi':=(hs'.2 _ (Ne.symm hne)).trans hoi';refine wpAny_assign_Tuple (items:= #[.int i s.toks,v]) hA ⟨_,hT,rfl,0,rfl⟩ (by rw[har];rfl) hstar fun h3 he=>?_;have keep3:∀c o,h''.get? c=some o→h3.get? c=some o:=fun c o q=>he c o (Nat.ne_of_lt (Heap.lt_size q)) q;refine kk [.int i s.toks,v] [(e,enumO it (i+1) v),(it,oi')] h3 (s.toks+1) ⟨s.toks,v,hv,rfl⟩ ⟨v,oi',rfl,hc',hd'⟩ rfl (fun p hp=>?_) fun c o hc q=>?_
  ·simp only[List.mem_cons,List.not_mem_nil,or_false]at hp;rcases hp with rfl|rfl
   ·exact keep3 _ _ hz'
   ·exact keep3 _ _ hoi''
  ·simp only[List.map_cons,List.map_nil,List.mem_cons,List.not_mem_nil,or_false,not_or]at hc;exact keep3 _ _ ((hs'.2 _ hc.1).trans (b5 _ _ hc.1 hc.2 q))
 done:=by
  intro s os Q E hG ho hnd nq92;obtain⟨old,oi,rfl,hc,hd⟩:=nq92;intro kk;have ge:=ho _ (.head _);have gi:=ho _ (.tail _ (.head _));have hL:s.heap.IsList l items.toArray:=⟨_,hG _ _ (hg _ _ hl),rfl,m,rfl⟩;refine wpAny_pyNext_enum_end (items:=items.toArray) hA ge.1 ⟨oi,gi.1,hc,hd⟩ hL (by simp) fun h' hk=>kk h' _ fun c o hc q=>?_;simp only[List.map_cons,List.map_nil,List.mem_cons,List.not_mem_nil,or_false,not_or]at hc;exact hk c o hc.2 q
theorem ints_pick{vs:List Value}{ns:List Int}(h:IntsAre vs ns)(lo hi st:Option Int):∃ms,IntsAre (slicePick vs.toArray lo hi st).toList ms:=by
 have key:∀l:List Value,(∀v∈l,∃a t,v=.int a t)→∃ms,IntsAre l ms:=by
  intro l
  induction l with
  |nil=>intro _;exact⟨[],.nil⟩
  |cons v l ih=>
   intro hl;refine x2_0 (hl v (.head _)) fun a t eq2=>?_;subst eq2;obtain⟨ms,hm⟩:=ih fun u hu=>hl u (.tail _ hu);exact⟨a::ms,.cons a t hm⟩
 refine key _ fun v hv=>?_;unfold slicePick at hv;have hv:v∈(sliceRange (sliceBounds lo hi st vs.toArray.size).1 (sliceBounds lo hi st vs.toArray.size).2.1 (sliceBounds lo hi st vs.toArray.size).2.2).filterMap (vs.toArray[·]?):=by simpa using hv
 refine x1_1 (List.mem_filterMap.mp hv) fun i _ e=>?_;have e':vs[i]? =some v:=by simpa using e
 refine x2_1 (ints_get h e') fun a t _ q=>?_;exact⟨a,t,q⟩
inductive SlcSK(K:GH)(own:Str→Bool)(env:Env)(Q:Value→Shared→Prop)(o vl vu vt:Value)(s₄:Shared):Prop
 |mk (l:Addr) (items:Array Value) (lo hi:Option Int) (k:Int) (r:Shared) (G:GH) (vs:Vs) (led:List (Addr×Obj)) (e1:o=.ref l) (e2:s₄.heap.IsList l items) (e3:items.size<1000) (e4:IsPart vl lo) (e5:IsPart vu hi) (e6:IsPart vt (some k)) (e7:k≠0)
  (S:St K r own G env vs led s₄) (q:∀T s',St K r own G env vs ((T,listOf (slicePick items lo hi (some k)) 0)::led) s'→Q (.ref T) s')
inductive SlcIK(K:GH)(own:Str→Bool)(env:Env)(Q:Value→Shared→Prop)(o vl vu:Value)(s₃:Shared):Prop
 |mk (l:Addr) (items:Array Value) (lo hi:Option Int) (r:Shared) (G:GH) (vs:Vs) (led:List (Addr×Obj)) (e1:o=.ref l) (e2:s₃.heap.IsList l items) (e3:items.size<1000) (e4:IsPart vl lo) (e5:IsPart vu hi)
  (S:St K r own G env vs led s₃) (k:∀T s',St K r own G env vs ((T,listOf (slicePick items lo hi none) 0)::led) s'→Q (.ref T) s')
theorem slc_step(_S:St K r own G env vs led s){value st:Expr}{lower upper:Option Expr}{p pos:Pos}
 (h:wpAny (model prog w) A (eval value env) (fun o s₁=>wpAny (model prog w) A (evalPart lower env) (fun vl s₂=>wpAny (model prog w) A (evalPart upper env) (fun vu s₃=>wpAny (model prog w) A (evalPart (some st) env) (SlcSK K own env Q o vl vu) E s₃) E s₂) E s₁) E s)
 (ht:∀o r,letTemporaryGo value o r=pure ():=by intro _ _;rfl):
 wpAny (model prog w) A (eval (.Subscript value (.Slice lower upper (some st) p) pos) env) Q E s:=by
 refine wpAny_Subscript_Slice_step (T:= "list") list_getitem_lookup (wpAny_mono h (fun o s₁ h₁=>wpAny_Slice (wpAny_mono h₁ (fun vl s₂ h₂=>wpAny_mono h₂ (fun vu s₃ h₃=>wpAny_mono h₃ (fun vt s₄ h₄=>?_) fun _ _ e=>e) fun _ _ e=>e) fun _ _ e=>e)) fun _ _ e=>e) ht;obtain⟨l,items,lo,hi,k,r,G,vs,led,rfl,hl,hz,pl,pu,pt,hk0,S,hQ⟩:=h₄;refine⟨(hl.push _).typeIs,wpAny_getItem_list_slice (hl.push _) (Heap.IsSliceOf.new ..) pl pu pt (by simpa using hk0) ?_ (Nat.le_trans (Nat.le_of_lt hz) (by decide))⟩;have S1:=(S.push {cls:=.type "slice",data:=.fields #[vl,vu,vt]} s₄.toks).drop.push (listOf (slicePick items lo hi (some k)) 0) s₄.toks;exact hQ _ _ S1
theorem slc_list(_S:St K r own G env vs led s){value:Expr}{lower upper:Option Expr}{p pos:Pos}
 (h:wpAny (model prog w) A (eval value env) (fun o s₁=>wpAny (model prog w) A (evalPart lower env) (fun vl s₂=>wpAny (model prog w) A (evalPart upper env) (SlcIK K own env Q o vl) E s₂) E s₁) E s)
 (ht:∀o r,letTemporaryGo value o r=pure ():=by intro _ _;rfl):
 wpAny (model prog w) A (eval (.Subscript value (.Slice lower upper none p) pos) env) Q E s:=
 wpAny_Subscript_list_slice (wpAny_mono h (fun o s₁ h₁=>wpAny_mono h₁ (fun vl s₂ h₂=>wpAny_mono h₂ (fun vu s₃ ⟨l,items,lo,hi,r,G,vs,led,e1,e2,e3,e4,e5,S,k⟩=>by
  refine⟨l,items,lo,hi,e1,e2,Nat.le_trans (Nat.le_of_lt e3) (by decide),e4,e5,?_⟩;have S1:=(S.push {cls:=.type "slice",data:=.fields #[vl,vu,.none]} s₃.toks).drop.push (listOf (slicePick items lo hi none) 0) s₃.toks;rw[show(Shared.heap {s₃ with heap:=s₃.heap.push {cls:=.type "slice",data:=.fields #[vl,vu,.none]},toks:=s₃.toks}).objs.size=s₃.heap.objs.size+1 from Heap.size_push ..]at S1;exact k _ _ S1) fun _ _ x=>x) fun _ _ x=>x) fun _ _ x=>x) ht
theorem meth_s{o:Expr}{name:Str}{apos pos:Pos}{args:List Expr}{id:String}(sl:Slot "str" name id)(ty:typeOf (.builtin id)=pure (.type "method_descriptor"))
 (h:wpAny (model prog w) A (eval o env) (fun ov s₁=>∃x t,ov=.str x t∧wpAny (model prog w) A (callWith pos (.builtin id) [.str x t] (backTo pos (starEach args env)) []) Q E s₁) E s)
 (h1:attributeBase o name env (eval o env)=eval o env:=by rfl)
 (h2:(((backTo pos (starEach args env)).all fun x=>!x.1)&&((backToKw pos (keywordEach [] env)).all fun x=>x.1.isSome)&&decide ((args.length+([]:List Keyword).length+if([]:List Keyword).isEmpty=true then 0 else 1)<30))=true:=by rfl)
 (h3:(apos.endLine==pos.line)=true:=by rfl):wpAny (model prog w) A (eval (.Call (.Attribute o name apos) args [] pos) env) Q E s:=
 wpAny_Call_method h1 h2 h3 F.plainAttrs_str sl ty (wpAny_mono h (fun ov s₁ ⟨x,t,e1,e5⟩=>by subst e1;exact⟨typeIs_str s₁ x t,fun a ea=>(nomatch ea),e5⟩) fun _ _ x=>x)
theorem ne_same(S:St K r own G env vs led s){a b:Addr}{vs1 vs2:List Value}{n m dp:Nat}{ds:List D}(hA:Rm (dp+1) A)(ha:G a=some (listOf vs1.toArray n))(hb:G b=some (listOf vs2.toArray m))(h1:IsAll G vs1 ds)(h2:IsAll G vs2 ds)(hk:∀d∈ds,Kin d d)(hd:D.deps ds≤dp)
 (h:Q (.bool false) s):wpAny (model prog w) A (richCompare .NotEq (.ref a) (.ref b)) Q E s:=by
 have l1:=h1.length;have l2:=h2.length;have hu:A.units<cLine:=by have:=hA.un;show A.units<9900;exact J426 this
 refine RcNeAt.lists (e:=fun _=>true) (Is.list S.sub ha) (Is.list S.sub hb) (by simp;exact J420 l1 l2) hu (fun j x1 x2=>?_) prog w E Q (by
  have e:((List.range vs1.toArray.size).all fun _=>true)=true:=List.all_eq_true.mpr fun _ _=>rfl;rw[e];exact h)
 simp only[List.size_toArray]at x1 x2;have y1:j<ds.length:=J419 x1 l1;have:=eq_is S.sub dp (A:=A.in1) hA.in1 (d:=ds[j]) (d':=ds[j]) (by have:=D.dep_at y1;exact J550 this hd) (h1.at x1 y1) (h2.at x2 y1) (hk _ (List.getElem_mem y1));rw[D.beq_iff.mpr rfl]at this;simpa using this
end
noncomputable def runT{α:Type}(o:Nat→Nat→Option Bool):KasT α→Option α
 | .ret a=>some a
 | .ask i j k=>match o i j with
  |some b=>runT o (k b)
  |none=>none
theorem run_wp{α:Type}{o:Nat→Nat→Option Bool}{cmp:Nat→Nat→(Bool→Shared→Prop)→Shared→Prop}{s:Shared}(hc:∀i j b (C:Bool→Shared→Prop),o i j=some b→C b s→cmp i j C s){G:α→Shared→Prop}:∀{t:KasT α} {a:α},runT o t=some a→G a s→t.kasWp cmp G s
 | .ret b,a,h,hG=>by
  have:b=a:=by simpa[runT]using h
  subst this;exact hG
 | .ask i j k,a,h,hG=>by
  unfold runT at h;cases hb:o i j with
  |none=>rw[hb]at h;cases h
  |some b=>
   rw[hb]at h;exact hc i j b _ hb (run_wp hc (t:=k b) h hG)
noncomputable def asc7(i j:Nat):Option Bool:=if i<7∧j<7∧i≠j then some (decide (i<j))else none
theorem run7:runT asc7 (kas_sort 7)=some #[0,1,2,3,4,5,6]:=by decide+kernel
section
variable{prog:Program}{w:World}{A:Around}{E:Value→Shared→Prop}{s:Shared}{G:GH}
structure Asc(G:GH)(items:List Value)(c:Nat→Int):Prop where
 len:items.length=7
 at_:∀i,i<7→∃a n t u v,items[i]? =some (.ref a)∧G a=some (tupOf #[.int (c i) t,.int (i:Nat) u,v] n)
 up:∀i j,i≤j→j<7→c i≤c j
theorem asc_ask{items:List Value}{c:Nat→Int}(h:Asc G items c)(hs:∀a o,G a=some o→s.heap.get? a=some o)(i j:Nat)(b:Bool)(C:Bool→Shared→Prop)(ho:asc7 i j=some b)(hC:C b s):kas_ask prog w A (tuples' true) items i j C s:=by
 unfold asc7 at ho;have hij:i<7∧j<7∧i≠j:=by
  by_cases q:i<7∧j<7∧i≠j
  ·exact q
  ·rw[if_neg q]at ho;cases ho
 rw[if_pos hij]at ho;refine x0_2 hij fun hi hj hne=>?_;clear hij;have hb:b=decide (i<j):=by injection ho with h;exact h.symm
 subst hb;refine x5_1 (h.at_ i hi) fun a n t u v e1 g1=>?_;refine x5_1 (h.at_ j hj) fun a' n' t' u' v' e2 g2=>?_;unfold kas_ask;have d1:items.getD i Value.none=.ref a:=by rw[List.getD_eq_getElem?_getD,e1];rfl
 have d2:items.getD j Value.none=.ref a':=by rw[List.getD_eq_getElem?_getD,e2];rfl
 rw[d1,d2];refine kat_lt (hs _ _ g1) rfl (hs _ _ g2) rfl ?_;refine kat_cons (EqAt.int_int (c i) t (c j) t' prog w _ _ ?_);by_cases hc:c i=c j
 ·rw[show(c i==c j)=true from by simpa using hc];refine kat_yes (kat_cons (EqAt.int_int (i:Int) u (j:Int) u' prog w _ _ ?_));rw[show((i:Int)==(j:Int))=false from by rw[beq_eq_false_iff_ne];exact J231 hne];refine kat_no (kat_one _ _ (P.lt_int ?_));show C _ s;have:decide ((i:Int)<(j:Int))=decide (i<j):=by rw[decide_eq_decide];exact J159
  rw[this];exact hC
 ·rw[show(c i==c j)=false from by rw[beq_eq_false_iff_ne];exact hc];refine kat_no (oneLt_int ?_);have:decide (c i<c j)=decide (i<j):=by
   rw[decide_eq_decide];constructor
   ·intro hlt;rcases Nat.lt_or_ge i j with q|q
    ·exact q
    ·have:=h.up j i q hi;exact J502 hlt this
   ·intro hlt;have:=h.up i j (J208 hlt) hj;exact J344 hc this
  rw[this];exact hC
theorem asc_firsts{G:GH}{h:Heap}{items:List Value}{c:Nat→Int}(hh:Asc G items c)(hs:∀a o,G a=some o→h.get? a=some o):∃fs:List Value,KatTups h items fs∧0<fs.length∧∀v∈fs,∃i t,v=.int i t:=by
 have key:∀(l:List Value),(∀v∈l,∃a n k t u w,v=.ref a∧h.get? a=some (tupOf #[.int k t,u,w] n))→∃fs:List Value,KatTups h l fs∧fs.length=l.length∧∀v∈fs,∃i t,v=.int i t:=by
  intro l
  induction l with
  |nil=>intro _;exact⟨[],.nil,rfl,fun _ q=>nomatch q⟩
  |cons v l ih=>
   intro hl;refine x6_1 (hl v (.head _)) fun a n k t u w eq6=>?_;subst eq6;intro ha;refine x1_2 (ih fun v hv=>hl v (.tail _ hv)) fun fs q1 q2 q3=>?_;refine⟨.int k t::fs,.cons (xs:= #[.int k t,u,w]) (n:=n) ha rfl rfl rfl q1,by simp[q2],fun v hv=>?_⟩;rcases List.mem_cons.mp hv with rfl|hv
   ·exact⟨k,t,rfl⟩
   ·exact q3 v hv
 obtain⟨fs,q1,q2,q3⟩:=key items fun v hv=>by
  obtain⟨i,hi,e⟩:=List.getElem_of_mem hv;refine x5_1 (hh.at_ i (by have:=hh.len;exact J289 hi this)) fun a n t u w e1 g1=>?_;rw[List.getElem?_eq_getElem hi,e]at e1;cases e1;exact⟨a,n,c i,t,_,w,rfl,hs _ _ g1⟩
 exact⟨fs,q1,by have:=hh.len;exact J301 this q2,q3⟩
theorem range_getD{α:Type}(l:List α)(d:α):(List.range l.length).map (fun i=>l.getD i d)=l:=by
 refine List.ext_getElem (by simp) fun i h1 h2=>?_;simp[List.getD_eq_getElem?_getD,h2]
theorem lsort_asc{a:Addr}{n:Nat}{items:List Value}{c:Nat→Int}{P:PySem.Fin→Shared→Prop}(hh:Asc G items c)(hs:∀a o,G a=some o→s.heap.get? a=some o)(hGa:G a=none)(ho:s.heap.get? a=some (seqObj "list" items.toArray n))
 (k:∀h',(∀b o,b≠a→s.heap.get? b=some o→h'.get? b=some o)→(∃m,h'.get? a=some (listOf items.toArray m))→P (.done (.ret .none)) {s with heap:=h'}):
 wpAny (model prog w) A (Builtin.«list.sort» ⟨[.ref a],[]⟩) P E s:=by
 have hlen:=hh.len;have ha:a<s.heap.objs.size:=Heap.lt_size ho;have s1:=Heap.SameBut.update s.heap a (Obj.mapSeq fun _=>(#[]:Array Value));obtain⟨e1,ho1⟩:∃e1,(s.heap.update a (Obj.mapSeq fun _=>(#[]:Array Value))).get? a=some (seqObj "list" #[] e1):=⟨_,get?_update_seq ho fun _=> #[]⟩;rw[list_sort_plain];refine wpAny_bind (listItems_at ho rfl ?_);refine wpAny_bind (listUpdate_at ho rfl ?_ (by rw[List.size_toArray,sizeLine_eq];exact J110 hlen) (Nat.zero_le _));refine wpAny_bind (seqEpoch_at ho1 rfl ?_);refine wpAny_bind (wpAny_newTuple ?_ (by show items.length≤_;rw[sizeLine_eq];exact J110 hlen));refine wpAny_bind (wpAny_newList ?_ (Nat.zero_le _));refine wpAny_holding ?_;show wpAny (model prog w) A _ P E {s with heap:=((s.heap.update a (Obj.mapSeq fun _=>(#[]:Array Value))).push (seqObj "tuple" items.toArray 0)).push (seqObj "list" #[] 0)};have hk3:∀b o,b≠a→s.heap.get? b=some o→(((s.heap.update a (Obj.mapSeq fun _=>(#[]:Array Value))).push (seqObj "tuple" items.toArray 0)).push (seqObj "list" #[] 0)).get? b=some o:=fun b o hb e=>Heap.get?_push_of_some _ (Heap.get?_push_of_some _ ((s1.2 b hb).trans e));have ho3:(((s.heap.update a (Obj.mapSeq fun _=>(#[]:Array Value))).push (seqObj "tuple" items.toArray 0)).push (seqObj "list" #[] 0)).get? a=some (seqObj "list" #[] e1):=Heap.get?_push_of_some _ (Heap.get?_push_of_some _ ho1);generalize ((s.heap.update a (Obj.mapSeq fun _=>(#[]:Array Value))).push (seqObj "tuple" items.toArray 0)).push (seqObj "list" #[] 0)=h3 at hk3 ho3;dsimp only;have hn2:¬items.toArray.size<2:=by rw[List.size_toArray];exact J112 hlen
 rw[if_neg hn2,if_neg hn2];have hs3:∀b o,G b=some o→h3.get? b=some o:=fun b o e=>hk3 b o (fun q=>by rw[q,hGa]at e;cases e) (hs b o e);refine x1_2 (asc_firsts hh hs3) fun fs t1 t2 t3=>?_;refine wpAny_bind (kat_kind (s:={s with heap:=h3}) (T:=.type "int") t1 t2 (fun v hv=>?_) rfl ?_)
 ·refine x2_0 (t3 v hv) fun i t eq2=>?_;subst eq2;exact Looks.of_pure rfl
 refine wpAny_bind (wpAny_mono (kat_run (κ:=tuples' true) (ks:=items) (vs:=items) (s:={s with heap:=h3}) (E:=E) (Q:=fun st' s'=>s'={s with heap:=h3}∧∃p:Array Nat,p.size=items.length∧arrOf st'=p.map (kas_item (items.toArray.zip items.toArray))∧failedOf st'=none∧p= #[0,1,2,3,4,5,6])
  (G:=fun p s'=>s'={s with heap:=h3}∧p= #[0,1,2,3,4,5,6]) rfl (J108 hlen) (J109 hlen) (fun p' st' s' a1 a2 a3 a4=>⟨a4.1,p',a1,a2,a3,a4.2⟩) ?_) ?_ fun _ _ e=>e)
 ·rw[hlen];exact run_wp (o:=asc7) (fun i j b C hb hC=>asc_ask hh hs3 i j b C hb hC) run7 ⟨rfl,rfl⟩
 intro nq93;obtain⟨nq94,st'⟩:=nq93;obtain⟨⟩:=nq94;intro s' nq95;obtain⟨rfl,p,hp,har,hf,rfl⟩:=nq95;dsimp only;have hout:=kat_snds (ks:=items) (vs:=items) rfl har;have hitems:(([0,1,2,3,4,5,6]:List Nat).map fun i=>items.getD i Value.none)=items:=by
  show(List.range 7).map _=_;rw[←hlen];exact range_getD items _
 have hout:(arrOf st').map (·.2)=items.toArray:=by rw[hout];show List.toArray (([0,1,2,3,4,5,6]:List Nat).map fun i=>items.getD i Value.none)=_;rw[hitems]
 rw[hout];have s2:=Heap.SameBut.update h3 a (Obj.mapSeq fun _=>items.toArray);obtain⟨c2,hc2⟩:∃c2,(h3.update a (Obj.mapSeq fun _=>items.toArray)).get? a=some (seqObj "list" items.toArray c2):=⟨_,get?_update_seq ho3 fun _=>items.toArray⟩;refine wpAny_bind (seqEpoch_at ho3 rfl ?_);refine wpAny_bind (listUpdate_at (s:={s with heap:=h3}) ho3 rfl ?_ (Nat.zero_le _) (by rw[List.size_toArray,sizeLine_eq];exact J111 hlen));rw[hf];simp only[bne_self_eq_false,Bool.false_eq_true,if_false];exact wpAny_pure (k _ (fun b o hb e=>(s2.2 b hb).trans (hk3 b o hb e)) ⟨c2,hc2⟩)
theorem sorted_asc{K:GH}{r:Shared}{own:Str→Bool}{env:Env}{vs:Vs}{led:List (Addr×Obj)}(S:St K r own G env vs led s){Q:Value→Shared→Prop}{l:Addr}{n:Nat}{items:List Value}{c:Nat→Int}(hh:Asc G items c)(hl:s.heap.get? l=some (listOf items.toArray n))
 (k:∀T m s',St K r own G env vs ((T,listOf items.toArray m)::led) s'→Q (.ref T) s'):wpAny (model prog w) A (call (.builtin "sorted") [.ref l]) Q E s:=by
 have hlen:=hh.len;refine Calls.call_function_entry kind_sorted plain_sorted entry_sorted (args_sorted1 _) ?_;unfold Builtin.«sorted»;refine wpAny_bind (m:=checkCount "sorted" 1 1 _) (wpAny_pure ?_);refine wpAny_bind (collect_list (vs:=items) ⟨_,hl,rfl,n,rfl⟩ ?_ (by rw[sizeLine_eq];exact J110 hlen));refine wpAny_bind (wpAny_newList ?_ (by show items.length≤_;rw[sizeLine_eq];exact J110 hlen));have hsz:((s.heap.push (seqObj "list" #[] 0)).update s.heap.objs.size (Obj.mapSeq (· ++items.toArray))).objs.size=s.heap.objs.size+1:=by
  rw[Heap.size_update,size_push']
 have hoL:(((s.heap.push (seqObj "list" #[] 0)).update s.heap.objs.size (Obj.mapSeq (· ++items.toArray))).push (seqObj "list" items.toArray 0)).get? (s.heap.objs.size+1)=some (seqObj "list" items.toArray 0):=by
  rw[←hsz];exact Heap.get?_push_size _ rfl
 have keep:∀b o,s.heap.get? b=some o→(((s.heap.push (seqObj "list" #[] 0)).update s.heap.objs.size (Obj.mapSeq (· ++items.toArray))).push (seqObj "list" items.toArray 0)).get? b=some o:=fun b o q=>by
  have hlt:b<s.heap.objs.size:=Heap.lt_size q;rw[Heap.get?_push_ne _ _ _ (by rw[hsz];exact Nat.ne_of_lt (Nat.lt_succ_of_lt hlt)),Heap.get?_update_ne _ _ _ _ (Nat.ne_of_lt hlt),Heap.get?_push_ne _ _ _ (Nat.ne_of_lt hlt)];exact q
 have hnone:s.heap.get? (s.heap.objs.size+1)=none:=by
  cases q:s.heap.get? (s.heap.objs.size+1)with
  |none=>rfl
  |some o=>exact absurd (Heap.lt_size q) (by show¬(s.heap.objs.size+1<s.heap.objs.size);exact J55)
 show wpAny _ _ _ _ _ {s with heap:=((s.heap.push (seqObj "list" #[] 0)).update s.heap.objs.size (Obj.mapSeq (· ++items.toArray))).push (seqObj "list" items.toArray 0)};rw[hsz];refine wpAny_bind (wpAny_holding (wpAny_call_entry slot_list_sort ⟨_,hoL,rfl⟩ entry_list_sort ?body (args_list_sort _)))
 case body=>
  refine lsort_asc (s:={s with heap:=((s.heap.push (seqObj "list" #[] 0)).update s.heap.objs.size (Obj.mapSeq (· ++items.toArray))).push (seqObj "list" items.toArray 0)}) hh (fun b o e=>keep b o (S.sub b o e)) ?_ hoL fun h' hk' ⟨m,hm⟩=>?_
  ·cases q:G (s.heap.objs.size+1)with
   |none=>rfl
   |some o=>rw[S.sub _ _ q]at hnone;cases hnone
  ·refine⟨_,rfl,wpAny_pure ⟨_,rfl,?_⟩⟩;refine k _ m _ (S.new (t:=s.toks) (fun b o e=>hk' b o (fun q=>by rw[q,hnone]at e;cases e) (keep b o e)) hnone hm)
end
theorem law_fn(pm:Value):FnOk (fdOf (topSt 28) "law" .none 262 pm) ["script"] ["letters","figure","limit","charge","due"] (bodyOf (topSt 28)) where
 body:=rfl
 clo:=rfl
 gl:=rfl
 bi:=rfl
 fn:=rfl
 co:=rfl
 gen:=rfl
 bind:=by
  intro vals h;obtain⟨a,rfl⟩:=len1 h;rfl
 ndS:=show((scopeOf (topSt 28)).names.map (·.1)).Nodup by decide+kernel
 names:=names_ok (sc:=scopeOf (topSt 28)) (by decide+kernel)
 nd:=by decide+kernel
section
variable{prog:Program}{w:World}{A:Around}{E:Value→Shared→Prop}{K:GH}{mg mb:Str→Option Value}{p0 p1 p2 p3:Value}{Fg:Frag}{dV:Addr}{r:Shared}{own:Str→Bool}{G:GH}{env:Env}{vs:Vs}{led:List (Addr×Obj)}{s:Shared}
theorem St.take{G1:GH}(S:St K r own G env vs [] s)(h:∀a o,G1 a=some o→s.heap.get? a=some o):∃G',St K r own G' env vs [] s∧GLe G G'∧(∀v d,Is G1 v d→Is G' v d):=by
 refine⟨_,S.frz.1,S.frz.2,fun v d q=>q.via fun a o its n e hd=>?_⟩;have ha:=h a o e;refine frz_at ha (fun z=>?_) (fun x _ hx=>?_) (by simp)
 ·obtain⟨ml,nq96,_⟩:=S.fm.loc;obtain⟨ob,es,ep,ho,hod,_⟩:=nq96;rw[←z,ha]at ho;cases ho;rw[hd]at hod;cases hod
 ·refine x1_1 (S.cell hx) fun ob ho hod=>?_;rw[ha]at ho;cases ho;rw[hd]at hod;cases hod
theorem eq_same{Q:Value→Shared→Prop}(S:St K r own G env vs led s){a b:Addr}{vs1 vs2:List Value}{n m dp:Nat}{ds:List D}(hA:Rm (dp+1) A)(ha:G a=some (listOf vs1.toArray n))(hb:G b=some (listOf vs2.toArray m))(h1:IsAll G vs1 ds)(h2:IsAll G vs2 ds)(hk:∀d∈ds,Kin d d)(hd:D.deps ds≤dp)
 (h:Q (.bool true) s):wpAny (model prog w) A (richCompare .Eq (.ref a) (.ref b)) Q E s:=by
 have l1:=h1.length;have l2:=h2.length;have hu:A.units<cLine:=by have:=hA.un;show A.units<9900;exact J426 this
 refine RcAt.lists (e:=fun _=>true) (Is.list S.sub ha) (Is.list S.sub hb) (by simp;exact J420 l1 l2) hu (fun j x1 x2=>?_) prog w E Q (by
  have e:((List.range vs1.toArray.size).all fun _=>true)=true:=List.all_eq_true.mpr fun _ _=>rfl;rw[e];exact h)
 simp only[List.size_toArray]at x1 x2;have y1:j<ds.length:=J419 x1 l1;have:=eq_is S.sub dp (A:=A.in1) hA.in1 (d:=ds[j]) (d':=ds[j]) (by have:=D.dep_at y1;exact J550 this hd) (h1.at x1 y1) (h2.at x2 y1) (hk _ (List.getElem_mem y1));rw[D.beq_iff.mpr rfl]at this;simpa using this
theorem s_alpha:(Str.ofString ".\r\na")=mkS [46,13,10,97]:=by decide+kernel
noncomputable def startsL:List Int:=[3,0,1,2,0,3]
theorem strs_are{G:GH}{x:List Nat}:∀{its:List Value},IsAll G its (x.map fun c=>D.str (mkS [c]))→StrsAre its (x.map fun c=>mkS [c]):=by
 induction x with
 |nil=>intro its h;rw[IsAll.nilI h];exact .nil
 |cons c x ih=>intro its h;exact IsAll.consI h fun v vs e h1 h2=>by obtain⟨t,rfl⟩:=h1.strI;rw[e];exact .cons _ _ (ih h2)
theorem four_at{j:Nat}(h:j<4):([46,13,10,97]:List Nat).getD j 97=46∨([46,13,10,97]:List Nat).getD j 97=13∨([46,13,10,97]:List Nat).getD j 97=10∨([46,13,10,97]:List Nat).getD j 97=97:=by
 have:∀j<4,([46,13,10,97]:List Nat).getD j 97=46∨([46,13,10,97]:List Nat).getD j 97=13∨([46,13,10,97]:List Nat).getD j 97=10∨([46,13,10,97]:List Nat).getD j 97=97:=by decide
 exact this j h
theorem join_six(a b c d e f:Nat):Txt.join (mkS []) ([a,b,c,d,e,f].map fun c=>mkS [c])=mkS [a,b,c,d,e,f]:=rfl
variable{Q:Flow→Shared→Prop}
set_option maxRecDepth 100000 in
theorem law_letters(B:B3 Fg K mg mb p0 p1 p2 p3 dV)(hA':Rm 14 A)(hkd:env.kindOf=fun y=>(scopeOf (topSt 28)).names.lookup y){L:Addr}{its:List Value}{ns:List Int}{v1 v2 v3 v4 v5:Option Value}(hL:∃o n,G L=some o∧o.cls=.type "list"∧o.data=.seq its.toArray n)(hI:IntsAre its ns)(hz:its.length<1000)
 (S:St K r yes G env [("script",some (.ref L)),("letters",v1),("figure",v2),("limit",v3),("charge",v4),("due",v5)] [] s)
 (k:∀G' x t s',GLe G G'→Sg x→x.length=6→St K r yes G' env [("script",some (.ref L)),("letters",some (.str (mkS x) t)),("figure",v2),("limit",v3),("charge",v4),("due",v5)] [] s'→wpAny (model prog w) A (execs ((bodyOf (topSt 28)).drop 1) env) Q E s'):
 wpAny (model prog w) A (execs (bodyOf (topSt 28)) env) Q E s:=by
 have gl:Gl env ["enumerate","sum","_law_tried","_law_by_sorter","_law_in_octets","_law_by_heap","sorted"]:=Gl.of (sc:=scopeOf (topSt 28)) hkd (by decide+kernel);have kc:env.kindOf (Str.ofString "script")=some .cell:=by
  rw[hkd];have:((scopeOf (topSt 28)).names.lookup (Str.ofString "script")==some .cell)=true:=by decide+kernel
  exact eq_of_beq this
 refine x2_2 hL fun oS nS hoS hcS hdS=>?_;clear hL;refine xc ?_;refine a_name ?_;refine meth_s PySem.F.slot_str_join PySem.F.type_str_join ?_;refine c_str S fun t0 s₁ S=>?_;rw[s_nil];refine⟨_,_,rfl,callWith_method1 (arg ?_)⟩;have hfr:∀p∈[((Str.ofString "script" :Str),Value.ref L)],(p.1,some p.2)∈([("script",some (.ref L)),("letters",v1),("figure",v2),("limit",v3),("charge",v4),("due",v5)]:Vs)∧env.kindOf p.1=some .cell:=fr_cons ⟨by walk_at"mem",kc⟩ fr_nil;refine lcomp (fr:=[((Str.ofString "script" :Str),Value.ref L)]) (los:=["k","start"]) (owns:=[]) S (CompSc.of (show compScB _ ["k","start"] [] ["script"]=true by decide+kernel)) hfr ?_;refine ctyp S B.toTp gl B.b_enumerate (by walk_at"mem") (arg (lstE S (arg ?_)));walk_at"int";intro u0 s₁ S;refine arg ?_;walk_at"int";intro u1 s₁ S;refine arg ?_;walk_at"int";intro u2 s₁ S;refine arg ?_;walk_at"int";intro u3 s₁ S;refine arg ?_;walk_at"int";intro u4 s₁ S;refine arg ?_;walk_at"int";intro u5 s₁ S;refine argE ⟨_,_,_,S,by simp,fun l0 s₁ S=>?_⟩;have hst:IntsAre [Value.int 3 u0,.int 0 u1,.int 1 u2,.int 2 u3,.int 0 u4,.int 3 u5] startsL:=.cons _ _ (.cons _ _ (.cons _ _ (.cons _ _ (.cons _ _ (.cons _ _ .nil)))));generalize hsv:[Value.int 3 u0,.int 0 u1,.int 1 u2,.int 2 u3,.int 0 u4,.int 3 u5]=sv at S hst;have hsl:sv.length=6:=by rw[←hsv];rfl
 refine x1_2 S.ice fun G1 S g1 hl0=>?_;refine argE (enum_new S (S.at hl0) fun e it oi s₁ hoi hdi S=>?_);have pk:∀i:Nat,∃ms,IntsAre (slicePick its.toArray (some (i:Int)) (some 60) (some 6)).toList ms:=fun i=>ints_pick hI _ _ _
 let sm:Nat→Int:=fun i=>(Classical.choose (pk i)).sum
 let ix:Nat→Nat:=fun i=>((startsL.getD i 0+sm i).fmod 4).toNat
 let sg:Nat→Nat:=fun i=>([46,13,10,97]:List Nat).getD (ix i) 97
 have hix:∀i,((startsL.getD i 0+sm i).fmod 4)=((ix i:Nat):Int)∧ix i<4:=fun i=>by
  have h1:0≤(startsL.getD i 0+sm i).fmod 4:=Int.fmod_nonneg_of_pos _ (by decide);have h2:(startsL.getD i 0+sm i).fmod 4<4:=Int.fmod_lt_of_pos _ (by decide);have h3:ix i=((startsL.getD i 0+sm i).fmod 4).toNat:=rfl;exact J356 h1 h3 h2
 have hsg:∀i,sg i=46∨sg i=13∨sg i=10∨sg i=97:=fun i=>four_at (hix i).2;refine comp_go (os:=[(e,enumO it 0 .none),(it,oi)]) (fr:=[((Str.ofString "script" :Str),Value.ref L)]) (los:=["k","start"]) (owns:=[]) (n:=sv.length) (CompSc.of (show compScB _ ["k","start"] [] ["script"]=true by decide+kernel)) hfr (fun G'' cenv hg=>Src.enum hg hA'.hd hl0) (fun s Q E ho hQ=>self_enum (ho _ (.head _)) hQ) S ⟨_,oi,rfl,hoi,hdi⟩ (J106 hsl)
  (fun j=>some (D.str (mkS [sg j]))) ?_ ?_
 ·intro j ws G'' cenv lv ledc sb E'' Y _ hj h hG'' hled CE hlv hY _;clear S;refine x2_1 h fun tj v hv eq3=>?_;clear h;subst eq3;refine x2_1 (ints_get hst hv) fun a ta ha eq3=>?_;subst eq3;have ha':startsL.getD j 0=a:=by rw[List.getD_eq_getElem?_getD,ha];rfl
  refine lenE2 hlv fun w0 w1=>?_;intro(S:St K r (owf []) G'' cenv [("k",w0),("start",w1),("script",some (.ref L))] ledc sb);refine put_cons (S.store (vs':=[("k",some (.int (j:Int) tj)),("start",w1),("script",some (.ref L))]) (by walk_at"pv") (CE.st _ (by walk_at"mem")) fun sb S=>put_cons (S.store (vs':=[("k",some (.int (j:Int) tj)),("start",some (.int a ta)),("script",some (.ref L))]) (by walk_at"pv") (CE.st _ (by walk_at"mem")) fun sb S=>put_nil ?_));refine tuq_nil rfl (Subscript_ ?_);refine c_str S fun t1 sb S=>?_;rw[s_alpha];refine xop (xop ?_);walk_at"name";have gc:Gl cenv ["sum"]:=fun y hy=>by rw[List.mem_singleton]at hy;subst hy;exact⟨by decide+kernel,CE.gl _ (by decide+kernel)⟩
  refine cblt S B.toTp gc B.b_sum (by walk_at"mem") (arg (slc_step S ?_));walk_at"name";refine evalPart_some_step ?_;walk_at"name";refine evalPart_some_step ?_;walk_at"int";intro t2 sb S;refine evalPart_some_step ?_;walk_at"int";intro t3 sb S;refine⟨L,its.toArray,some (j:Int),some 60,6,_,_,_,_,rfl,⟨oS,S.at (hG'' _ _ (g1 _ _ hoS)),hcS,nS,hdS⟩,by simpa using hz,.int _ _,.int _ _,.int _ _,by decide,S,fun T sb S=>?_⟩;have hms:=Classical.choose_spec (pk j);refine argE (sum_lst (items:=(slicePick its.toArray (some (j:Int)) (some 60) (some 6)).toList) S hA'.hd (by rw[Array.toArray_toList];exact S.get (.head _)) hms fun t4 sb S=>?_);have S:=S.drop;refine b_add S fun t5 sb S=>?_;walk_at"int";intro t6 sb S;refine b_mod S (by decide) fun t7 sb S=>?_;have hx:=hix j;rw[ha']at hx;refine item_s (k:=ix j) (c:=sg j) S hx.1 (J264 hx) ?_ fun t8 sb S=>?_
  ·have h4:=hx.2;show([46,13,10,97]:List Nat)[ix j]? =some (([46,13,10,97]:List Nat).getD (ix j) 97);rw[List.getD_eq_getElem?_getD,List.getElem?_eq_getElem (by simpa using h4)];rfl
  exact hY _ _ _ G'' [some (.int (j:Int) tj),some (.int a ta)] (GLe.refl _) rfl S (.str _ _)
 ·intro G4 ys n' M C oC sc hG4 hys S hm;refine fin_none S hm fun sc S=>argE ?_;have e6:(List.range sv.length).filterMap (fun j=>some (D.str (mkS [sg j])))=([sg 0,sg 1,sg 2,sg 3,sg 4,sg 5].map fun c=>D.str (mkS [c])):=by rw[hsl];rfl
  rw[e6]at hys;refine join_listC (ys:=[sg 0,sg 1,sg 2,sg 3,sg 4,sg 5].map fun c=>mkS [c]) ⟨_,S.get (.head _),rfl,n',rfl⟩ (by simpa using strs_are hys) (by simp[Str.length]) (by simp[Str.length]) fun t9 k9=>?_;rw[join_six];have S:=(S.drop).tok k9;refine S.store (by walk_at"pv") (.inl rfl) fun sc S=>?_;refine k G4 _ _ _ (g1.trans hG4) ?_ rfl S;intro c hc;simp only[List.mem_cons,List.not_mem_nil,or_false]at hc;rcases hc with rfl|rfl|rfl|rfl|rfl|rfl<;>exact hsg _
end
theorem kinS_self:∀a:List (List Nat),KinAll (a.map fun b=>D.str (mkS b)) (a.map fun b=>D.str (mkS b))
 |[]=>.nil _
 |_::a=>.cons (.str _ _) (kinS_self a)
theorem tB_kin(e:Te):Kin (tB e) (tB e):=.tup (.cons (.int _ _) (.cons (.int _ _) (.cons (.int _ _) (.cons (.lst (kinB _ _)) (.nil _)))))
theorem tB_dep(e:Te):(tB e).dep≤2:=by
 show max 0 (max 0 (max 0 (max (D.deps (bL e.2.2.2)+1) 0)))+1≤2;rw[depsB];decide
theorem qd_kin(e:Qe):Kin (qd e) (qd e):=.tup (.cons (.int _ _) (.cons (.int _ _) (.cons (.lst (kinS_self _)) (.nil _))))
theorem qd_dep(e:Qe):(qd e).dep≤2:=by
 show max 0 (max 0 (max (D.deps (e.2.2.map fun b=>D.str (mkS b))+1) 0))+1≤2;rw[depsS];decide
theorem deps_le{l:List D}{n:Nat}(h:∀d∈l,d.dep≤n):D.deps l≤n:=by
 induction l with
 |nil=>exact Nat.zero_le _
 |cons d l ih=>exact Nat.max_le.mpr ⟨h d (.head _),ih fun d hd=>h d (.tail _ hd)⟩
theorem tried_ok_row{x:List Nat}(hx:Sg x)(hl:x.length≤6){most fee:Int}(hm:2≤most){p:Nat}(hp:p≤x.length):TOk (triedE x most fee p):=by
 have hB:=bw_best (fee:=fee) hm hp;have hlen:=wys_len hB.1;have hlen:(triedE x most fee p).2.2.2.length≤p:=hlen;refine⟨J463 hl hp hlen,fun b hb=>⟨?_,fun c hc=>?_⟩⟩
 ·refine x1_1 (List.mem_map.mp hB.1) fun row _ e=>?_;have e2:(triedE x most fee p).2.2.2=blocksR x row:=(congrArg Prod.snd e).symm;rw[e2]at hb;refine x1_1 (List.mem_map.mp hb) fun k _ eq2=>?_;subst eq2;have h1:=sentL_len (sub x (row.getD k 0) (row.getD (k+1) 0));have h2:(sub x (row.getD k 0) (row.getD (k+1) 0)).length≤x.length:=by unfold sub;simp;exact J487
  exact J460 h1 h2 hl
 ·rcases bw_sg hx hm hp b hb c hc with rfl|rfl|rfl|rfl<;>decide
theorem qd_at{G:GH}{v:Value}{p:Int}{pl:Nat}{bl:List (List Nat)}(h:Is G v (qd (p,pl,bl))):∃a n t1 t2 y3,v=.ref a∧G a=some (tupOf [Value.int p t1,.int (pl:Int) t2,y3].toArray n):=
 qd_inv h fun T nT tp tpl Lb ws nb e hT _ _=>⟨T,nT,tp,tpl,_,e,hT⟩
section
variable{prog:Program}{w:World}{A:Around}{E:Value→Shared→Prop}{K:GH}{mg mb:Str→Option Value}{p0 p1 p2 p3:Value}{Fg:Frag}{dV:Addr}{r:Shared}{G:GH}{env:Env}{s:Shared}{Q:Flow→Shared→Prop}
theorem law_end(B:B3 Fg K mg mb p0 p1 p2 p3 dV)(hA':Rm 21 A)(hfr:A.frames=some [env])(hf:env.frame=some env.locals)(hkd:env.kindOf=fun y=>(scopeOf (topSt 28)).names.lookup y){x:List Nat}{tx tm tf:Tok}{most fee:Int}{v0 v2:Option Value}{due:Value}
 (hx:Sg x) (hl:x.length=6) (hm:2≤most) (hfee:0≤fee) (hdue:Is G due (.lst ((List.range 7).map fun p=>tD (triedE x most fee p))))
 (S:St K r yes G env [("script",v0),("letters",some (.str (mkS x) tx)),("figure",v2),("limit",some (.int most tm)),("charge",some (.int fee tf)),("due",some due)] [] s)
 (k:∀G' vs' s',GLe G G'→St K r yes G' env vs' [] s'→Q (.ret (.bool true)) s'):
 wpAny (model prog w) A (execs ((bodyOf (topSt 28)).drop 4) env) Q E s:=by
 have gl:Gl env ["enumerate","sum","_law_tried","_law_by_sorter","_law_in_octets","_law_by_heap","sorted"]:=Gl.of (sc:=scopeOf (topSt 28)) hkd (by decide+kernel);refine xc (xif (xcmp ?_));refine cdef S B.toTp gl B.f_law_by_sorter B.g_law_by_sorter (by walk_at"mem") (arg ?_);walk_at"name";refine arg ?_;walk_at"name";refine arg ?_;walk_at"name";obtain⟨ml,nq97,_⟩:=S.fm.loc;obtain⟨oE,esE,epE,hE,hEd,_⟩:=nq97;refine argE ⟨fun a o e=>S.atK e,by_sorter_ok (outer:=[env]) (fs:=[(env.locals,oE)]) B (hA'.le (by decide)) hfr (.cons S.eo.fn hf hEd .nil) hx (J107 hl) hm hfee (fun a o e=>S.atK e) ?_ (by simp) fun G8 env8 vs8 fs8 s8 v8 hG8 hsl8 S8 hv8=>?_⟩
 ·intro p hp;rw[List.mem_singleton]at hp;subst hp;refine⟨hE,?_⟩;cases q:K env.locals with
  |none=>rfl
  |some o=>have:=S.base _ _ q;rw[S.gl]at this;cases this
 cases hsl8 with
 |@cons _ _ _ fs9 sl hsl=>
 cases hsl;refine x1_2 (St.backF (led:=[]) (rest:=[]) (led2:=[]) S hE hG8 S8) fun G9 hg9 _ S=>?_;have S:St K r yes G9 env _ [] s8:=S;refine x1_2 (S.take (G1:=G8) S8.sub) fun G10 S g10 ht10=>?_;have hv8:=ht10 _ _ hv8;have hdue:=(hdue.mono hg9).mono g10;show wpAny _ _ (eval _ _) _ _ _;refine cdef S B.toTp gl B.f_law_in_octets B.g_law_in_octets (by walk_at"mem") (arg ?_);walk_at"name";have hdue':Is G10 due (.lst (((List.range 7).map fun p=>triedE x most fee p).map tD)):=by rw[List.map_map];exact hdue
 refine argE ⟨fun a o e=>S.atK e,in_octets_ok B.toB1 (hA'.le (by decide)) S.sub (fun a o e=>S.atK e) hdue' (fun e he=>?_) (by simp) fun h t G11 v11 hk11 hG11 hv11=>?_⟩
 ·refine x1_1 (List.mem_map.mp he) fun p hp eq2=>?_;subst eq2;rw[List.mem_range]at hp;exact tried_ok_row hx (J107 hl) hm (J297 hp hl)
 have S':=S.keep (t:=t) hk11;clear S;generalize hs11:({s8 with heap:=h,toks:=t}:Shared)=s11 at S'⊢;have S:=S';clear S';refine x1_2 (S.take (G1:=G11) (by rw[←hs11];exact hG11)) fun G12 S g12 ht12=>?_;have hv11:=ht12 _ _ hv11;have hv8:=hv8.mono g12;have hdue:=hdue.mono g12;rw[hl]at hv8;rw[List.map_map]at hv11;have hds:∀d∈(List.range 7).map fun p=>tB (triedE x most fee p),Kin d d∧d.dep≤2:=fun d hd=>by
  refine x1_1 (List.mem_map.mp hd) fun p _ eq2=>?_;subst eq2;exact⟨tB_kin _,tB_dep _⟩
 have hv11:Is G12 v11 (.lst ((List.range 7).map fun p=>tB (triedE x most fee p))):=hv11;have hv8:Is G12 v8 (.lst ((List.range 7).map fun p=>tB (triedE x most fee p))):=hv8;generalize (List.range 7).map (fun p=>tB (triedE x most fee p))=ds at hv8 hv11 hds;refine hv8.lstI fun a1 its1 n1 e8 h1 hall1=>?_;refine hv11.lstI fun a2 its2 n2 e11 h2 hall2=>?_;subst e8 e11;show wpAny _ _ (richCompare .NotEq (.ref a1) (.ref a2)) _ _ _;refine ne_same (dp:=2) S (hA'.le (by decide)) h1 h2 hall1 hall2 (fun d hd=>(hds d hd).1) (deps_le fun d hd=>(hds d hd).2) (wpAny_truthy_bool ?_);refine if_f Bool.false_ne_true ?_;refine xn ?_;clear hds hall1 hall2 h1 h2;refine xc (xret (wpAny_Compare1 ?_));refine cdef S B.toTp gl B.f_law_by_heap B.g_law_by_heap (by walk_at"mem") (arg ?_);walk_at"name";refine arg ?_;walk_at"name";refine arg ?_;walk_at"name";have hrun:=heap_all hx (J107 hl) hm hfee (bw x most fee) fun p hp=>bw_best hm hp;refine argE ⟨fun a o e=>S.atK e,by_heap_ok B.toB1 (hA'.le (by decide)) hx (J105 hl) (f:=100) (by decide) hrun (fun a o e=>S.atK e) fun h t G13 v13 hk13 hG13 hv13=>?_⟩;have S':=S.keep (t:=t) hk13;clear S;generalize hs13:({s11 with heap:=h,toks:=t}:Shared)=s13 at S'⊢;have S:=S';clear S';refine x1_2 (S.take (G1:=G13) (by rw[←hs13];exact hG13)) fun G14 S g14 ht14=>?_;have hv13:=ht14 _ _ hv13;have hdue:=hdue.mono g14;rw[hl,List.map_map]at hv13;have hv13:Is G14 v13 (.lst ((List.range 7).map fun p=>qd (ent p (bw x most fee p)))):=hv13;show wpAny _ _ (eval _ _) _ _ _;refine cblt S B.toTp gl B.b_sorted (by walk_at"mem") (arg ?_);refine hdue.lstI fun ld dits nd ed hld hdall=>?_;subst ed;refine lcomp (fr:=[]) (los:=["cost","spot","number","pieces"]) (owns:=[]) S (CompSc.of (show compScB _ ["cost","spot","number","pieces"] [] []=true by decide+kernel)) fr_nil ?_;walk_at"name";refine lst_it S (S.at hld) fun I sb S=>?_;refine comp_tupD (ar:=4) (cs:=List.range 7) (gl:=fun p=>[.int (triedE x most fee p).1,.int (triedE x most fee p).2.1,.int (triedE x most fee p).2.2.1,.lst ((triedE x most fee p).2.2.2.map fun b=>.str (mkS b))]) (fr:=[]) (los:=["cost","spot","number","pieces"]) (owns:=[]) (fun p=>some (qd (ent p (bw x most fee p)))) (CompSc.of (show compScB _ ["cost","spot","number","pieces"] [] []=true by decide+kernel)) fr_nil hA'.hd S hld hdall (by decide) (fun _=>rfl) (fm_map _ _) ?_ ?_
 ·intro p ws G15 cenv lv ledc sc E15 Y _ _ hws hG15 hled CE hlv4 hY _;clear S;refine hws.four fun y1 y2 y3 y4 q1 q2 q3 q4=>?_;refine lenE4 hlv4 fun u0 u1 u2 u3=>?_;intro(S:St K r (owf []) G15 cenv [("cost",u0),("spot",u1),("number",u2),("pieces",u3)] ledc sc);refine put_cons (S.store (vs':=[("cost",some y1),("spot",u1),("number",u2),("pieces",u3)]) (by walk_at"pv") (CE.st _ (by walk_at"mem")) fun sc S=>put_cons (S.store (vs':=[("cost",some y1),("spot",some y2),("number",u2),("pieces",u3)]) (by walk_at"pv") (CE.st _ (by walk_at"mem")) fun sc S=>put_cons (S.store (vs':=[("cost",some y1),("spot",some y2),("number",some y3),("pieces",u3)]) (by walk_at"pv") (CE.st _ (by walk_at"mem")) fun sc S=>put_cons (S.store (vs':=[("cost",some y1),("spot",some y2),("number",some y3),("pieces",some y4)]) (by walk_at"pv") (CE.st _ (by walk_at"mem")) fun sc S=>put_nil ?_))));refine tuq_nil rfl (tupE S (arg ?_));walk_at"name";refine arg ?_;walk_at"name";refine arg ?_;walk_at"name";refine argE ⟨_,_,_,S,by simp,fun T2 sc S=>?_⟩;refine x1_2 S.ice fun G16 S g16 hT3=>?_;exact hY _ _ _ G16 [some y1,some y2,some y3,some y4] g16 rfl S (.tup hT3 (.cons (q1.mono g16) (.cons (q2.mono g16) (.cons (q4.mono g16) .nil))))
 ·intro G16 ys n' M C oC sc hG16 hys S hmm;refine fin_none S hmm fun sc S=>argE ?_;have hyl:=hys.length;simp only[List.length_map,List.length_range]at hyl;have hasc:Asc G16 ys (fun i=>(bw x most fee i).1):=by
   refine⟨hyl,fun i hi=>?_,fun i j hij hj=>?_⟩
   ·refine x1_1 (hys.get (i:=i) (d:=qd (ent i (bw x most fee i))) (by rw[List.getElem?_map,List.getElem?_range hi];rfl)) fun v hv hvi=>?_;refine x5_1 (qd_at hvi) fun a n t1 t2 y3 eq5=>?_;subst eq5;intro hT;exact⟨a,n,t1,t2,y3,hv,hT⟩
   ·have:=best_mono hx hfee (bw x most fee) (fun p hp=>bw_best hm hp) (j-i) i (J448 hj hl hij);rw[show i+(j-i)=j by exact J240 hij]at this;exact this
  refine sorted_asc S hasc (S.get (.head _)) fun T m sc S=>?_;refine x1_2 S.ice fun G17 S g17 hT=>?_;have hv13:=(hv13.mono hG16).mono g17;have hys:=hys.mono g17;have hds:∀d∈(List.range 7).map fun p=>qd (ent p (bw x most fee p)),Kin d d∧d.dep≤2:=fun d hd=>by
   refine x1_1 (List.mem_map.mp hd) fun p _ eq2=>?_;subst eq2;exact⟨qd_kin _,qd_dep _⟩
  generalize (List.range 7).map (fun p=>qd (ent p (bw x most fee p)))=ds at hv13 hys hds;refine hv13.lstI fun a1 its1 n1 e1 h1 hall1=>?_;subst e1;show wpAny _ _ (richCompare .Eq (.ref a1) (.ref T)) _ _ _;refine eq_same (dp:=2) S (hA'.le (by decide)) h1 hT hall1 hys (fun d hd=>(hds d hd).1) (deps_le fun d hd=>(hds d hd).2) ?_;exact k G17 _ _ (hg9.trans (g10.trans (g12.trans (g14.trans (hG16.trans g17))))) S.drop
end
section
variable{prog:Program}{w:World}{A:Around}{E:Value→Shared→Prop}{K:GH}{mg mb:Str→Option Value}{p0 p1 p2 p3:Value}{Fg:Frag}{dV:Addr}{r:Shared}{G:GH}{env:Env}{s:Shared}{Q:Flow→Shared→Prop}
theorem law_mid(B:B3 Fg K mg mb p0 p1 p2 p3 dV)(hA':Rm 21 A)(hfr:A.frames=some [env])(hf:env.frame=some env.locals)(hkd:env.kindOf=fun y=>(scopeOf (topSt 28)).names.lookup y)(hsc:env.scope=scopeOf (topSt 28)){x:List Nat}{tx:Tok}{L:Addr}{its:List Value}{ns:List Int}
 (hL:∃o n,G L=some o∧o.cls=.type "list"∧o.data=.seq its.toArray n) (hI:IntsAre its ns) (hz:its.length<1000) {v2 v3 v4 v5:Option Value} (hx:Sg x) (hl:x.length=6)
 (S:St K r yes G env [("script",some (.ref L)),("letters",some (.str (mkS x) tx)),("figure",v2),("limit",v3),("charge",v4),("due",v5)] [] s)
 (k:∀G' vs' s',GLe G G'→St K r yes G' env vs' [] s'→Q (.ret (.bool true)) s'):
 wpAny (model prog w) A (execs ((bodyOf (topSt 28)).drop 1) env) Q E s:=by
 have gl:Gl env ["enumerate","sum","_law_tried","_law_by_sorter","_law_in_octets","_law_by_heap","sorted"]:=Gl.of (sc:=scopeOf (topSt 28)) hkd (by decide+kernel);refine x2_2 hL fun oS nS hoS hcS hdS=>?_;clear hL;refine xc ?_;refine a_name (xop (xop ?_));walk_at"int";intro t1 s₁ S;refine cblt S B.toTp gl B.b_sum (by walk_at"mem") (arg (slc_list S ?_));walk_at"name";refine evalPart_none_step ?_;refine evalPart_some_step ?_;walk_at"int";intro t2 s₁ S;refine⟨L,its.toArray,none,some 60,_,_,_,_,rfl,⟨oS,S.at hoS,hcS,nS,hdS⟩,by simpa using hz,.none,.int _ _,S,fun T s₁ S=>?_⟩;obtain⟨ms,hms⟩:=ints_pick hI none (some 60) none;refine argE (sum_lst (items:=(slicePick its.toArray none (some 60) none).toList) S hA'.hd (by rw[Array.toArray_toList];exact S.get (.head _)) hms fun t4 s₁ S=>?_);have S:=S.drop;refine b_add S fun t5 s₁ S=>?_;walk_at"int";intro t6 s₁ S;refine b_mod S (by decide) fun t7 s₁ S=>?_;have hF0:0≤(14+ms.sum).fmod 33:=Int.fmod_nonneg_of_pos _ (by decide);have hF1:(14+ms.sum).fmod 33<33:=Int.fmod_lt_of_pos _ (by decide);generalize (14+ms.sum).fmod 33=fg at hF0 hF1 S;refine S.store (by walk_at"pv") (.inl rfl) fun s₁ S=>?_;refine xc ?_;refine Assign_Tuple_swapped (names:=["limit","charge"]) ?_ rfl ?_
 rotate_left
 ·unfold swappedStores Env.blockKind;rw[hkd,hsc];kernel_rfl
 refine tupE S ?_;refine arg ?_;refine xop ?_;walk_at"int";intro t8 s₁ S;refine xop ?_;walk_at"name";walk_at"int";intro t9 s₁ S;refine b_mod S (by decide) fun t10 s₁ S=>?_;refine b_add S fun t11 s₁ S=>?_;refine arg (xop ?_);walk_at"name";walk_at"int";intro t12 s₁ S;refine b_div S (by decide) (PyProof.noPylong_small (by decide)) fun t13 s₁ S=>?_;refine argE ⟨_,_,_,S,by simp,fun T s₁ S=>?_⟩;refine unpack_items S hA'.hd rfl fun s₁ S=>?_;have hm:2≤2+fg.fmod 11:=by have:0≤fg.fmod 11:=Int.fmod_nonneg_of_pos _ (by decide);exact J141 this
 have hfe:0≤fg.fdiv 11∧fg.fdiv 11≤2:=by
  rw[Int.fdiv_eq_ediv_of_nonneg _ (by decide)];exact J155 hF0 hF1
 generalize 2+fg.fmod 11=most at hm S;generalize fg.fdiv 11=fee at hfe S;refine putb_cons (S.store (by walk_at"pv") (.inl rfl) fun s₁ S=>putb_cons (S.store (by walk_at"pv") (.inl rfl) fun s₁ S=>put_nil ?_));refine xc ?_;refine a_name (cdef S B.toTp gl B.f_law_tried B.g_law_tried (by walk_at"mem") (arg ?_));walk_at"name";refine arg ?_;walk_at"name";refine arg ?_;walk_at"name";refine argE ⟨fun a o e=>S.atK e,tried_ok B.toB1 (hA'.le (by decide)) hx (J107 hl) (J104 hl) hfe (fun p hp=>cuts_ne hm p hp) (fun a o e=>S.atK e) fun h t G3 v3 hk3 hG3 hv3=>?_⟩;have S':=S.keep (t:=t) hk3;clear S;generalize hs3:({s₁ with heap:=h,toks:=t}:Shared)=s3 at S'⊢;have S:=S';clear S';refine x1_2 (S.take (G1:=G3) (by rw[←hs3];exact hG3)) fun G4 S g4 ht4=>?_;have hv3:=ht4 _ _ hv3;rw[hl]at hv3;refine S.store (by walk_at"pv") (.inl rfl) fun s₁ S=>?_;exact law_end B hA' hfr hf hkd hx hl hm hfe.1 hv3 S fun G' vs' s' hG' S'=>k G' vs' s' (g4.trans hG') S'
end
section
variable{prog:Program}{w:World}{K:GH}{mg mb:Str→Option Value}{p0 p1 p2 p3:Value}{Fg:Frag}{dV:Addr}
set_option maxRecDepth 100000 in
theorem law_ok{A:Around}(B:B3 Fg K mg mb p0 p1 p2 p3 dV)(hA:Rm 22 A)(hfr:A.frames=some []){s:Shared}{L:Addr}{its:List Value}{ns:List Int}{R:Result→Shared→Prop}
 (hK:∀a o,K a=some o→s.heap.get? a=some o) (hL:s.heap.IsList L its.toArray) (hI:IntsAre its ns) (hz:its.length<1000)
 (k:∀h t,(∀b o,s.heap.get? b=some o→h.get? b=some o)→R (.ok (.ret (.bool true))) {s with heap:=h,toks:=t}):
 codeAny (model prog w) A (.call (.ref 263) ⟨[.ref L],[]⟩) R s:=by
 refine enterF (led:=[]) B.toTp B.f_law (law_fn p3) hA.room rfl (vs:=[("script",some (.ref L)),("letters",none),("figure",none),("limit",none),("charge",none),("due",none)]) rfl hK (by simp) (by simp) fun env s' hkd hsc hf S=>?_;rw[but_nil]at S;have hA':=hA.deep env;have hfr':=Around.frames_deeper (env:=env) hfr;obtain⟨oL,hLo,hLc,nL,hLd⟩:=hL;refine law_letters B (hA'.le (by decide)) hkd ⟨oL,nL,hLo,hLc,hLd⟩ hI hz S fun G1 x t s1 g1 hx hl S=>?_;refine law_mid B hA' hfr' hf hkd hsc ⟨oL,nL,g1 _ _ hLo,hLc,hLd⟩ hI hz hx hl S fun G2 vs2 s2 g2 S2=>?_;have hk2:∀b o,s.heap.get? b=some o→s2.heap.get? b=some o:=fun b o e=>S2.sub b o (g2 _ _ (g1 _ _ e));refine x2_0 S2.same fun h₀ t₀ eq2=>?_;subst eq2;exact k h₀ t₀ hk2
end
section
open PySem.Builtin.Re PySem.Builtin
noncomputable def nsE(Fg:Frag)(a:Addr):Array DictEntry:=match Fg.lookup a with
 |some ⟨_,_,.dict es _,_⟩=>es
 |_=> #[]
noncomputable def nsB(Fg:Frag)(a:Addr):Bool:=match Fg.lookup a with
 |some ⟨_,_,.dict es _,_⟩=>es.toList.all fun e=>match e.key with
  | .str _ _=>true
  |_=>false
 |_=>false
noncomputable def mgOf(Fg:Frag):Str→Option Value:=nsFind (nsE Fg 3)
noncomputable def mbOf(Fg:Frag):Str→Option Value:=nsFind (nsE Fg 0)
noncomputable def pmOf(Fg:Frag)(a:Addr):Value:=match Fg.lookup a with
 |some ⟨_,_,.func fd,_⟩=>fd.pyModule
 |_=>.none
noncomputable def dvOf(Fg:Frag):Addr:=match Fg.lookup 126 with
 |some ⟨_,_,.func fd,_⟩=>(match fd.defaults with
  | .ref a=>a
  |_=>0)
 |_=>0
noncomputable def codeB(Fg:Frag)(c:Addr)(q:Str):Bool:=match Fg.lookup c with
 |some ⟨_,_,.fields vs,_⟩=>(match vs[1]? with
  |some (Value.str n _)=>decide (n=q)
  |_=>false)
 |_=>false
noncomputable def fvAt(Fg:Frag)(a:Addr)(i:Nat):Value:=match Fg.lookup a with
 |some ⟨_,_,.fields vs,_⟩=>vs.getD i .none
 |_=>.none
noncomputable def tokOf:Value→Tok
 | .int _ t=>t
 | .str _ t=>t
 |_=>0
noncomputable def itemsOf(Fg:Frag)(a:Addr):Array Value:=match Fg.lookup a with
 |some ⟨_,_,.seq its _,_⟩=>its
 |_=> #[]
noncomputable def epOf(Fg:Frag)(a:Addr):Nat:=match Fg.lookup a with
 |some ⟨_,_,.seq _ n,_⟩=>n
 |_=>0
theorem nsB_ok{Fg:Frag}{h:Heap}(X:Fg.In h){a:Addr}(e:nsB Fg a=true):NsK h.get? a (nsFind (nsE Fg a)):=by
 unfold nsB at e
 split at e
 ·rename_i cl di es ep sl q;refine⟨_,es,ep,X _ _ q,rfl,fun en hen=>?_,fun name=>?_⟩
  ·have:=List.all_eq_true.mp e en (by simpa using hen)
   split at this
   ·rename_i n t hk;exact⟨n,t,hk⟩
   ·cases this
  ·unfold nsE;rw[q]
 ·cases e
theorem codeB_ok{Fg:Frag}{h:Heap}(X:Fg.In h){c:Addr}{q:Str}(e:codeB Fg c q=true):∃o vs t,h.get? c=some o∧o.data=.fields vs∧vs[1]? =some (.str q t):=by
 unfold codeB at e
 split at e
 ·rename_i cl di vs sl hq
  split at e
  ·rename_i n t hv;have:n=q:=by simpa using e
   subst this;exact⟨_,vs,t,X _ _ hq,rfl,hv⟩
  ·cases e
 ·cases e
theorem fnB_ok{Fg:Frag}{h:Heap}(X:Fg.In h){f c:Addr}{fd:FuncData}(e:Fg.lookup f=some {cls:=.type "function",data:=.func fd})(hc:fd.code=.ref c)(e2:codeB Fg c fd.qualname=true):Fn h.get? f fd:=by
 refine x3_2 (codeB_ok X e2) fun o vs t h1 h2 h3=>?_;exact⟨X _ _ e,c,o,vs,t,hc,h1,h2,h3⟩
end
section
open PySem.Builtin.Re PySem.Builtin
noncomputable abbrev OV:=Option Value
noncomputable abbrev OO:=Option Obj
noncomputable abbrev OW:=Option (Option Value)
noncomputable abbrev OB:=Option Bool
noncomputable abbrev ON:=Option Nat
noncomputable abbrev AN:=Array Nat
noncomputable abbrev FactT:Type:=(((((((Bool×(Bool×Bool))×(OV×(OO×Bool)))×((OO×(Bool×OO))×(Bool×(OO×Bool))))×(((OO×(Bool×OO))×(Bool×(OO×Bool)))×((OO×(Bool×OO))×((Bool×OO)×(Bool×OO)))))×((((Bool×(OO×Bool))×(OO×(Bool×OO)))×((Bool×(OO×Bool))×(OO×(Bool×OO))))×(((Bool×(OO×Bool))×(OO×(Bool×OO)))×((Bool×(OO×Bool))×((OO×Bool)×(OO×Bool))))))×(((((OV×(OV×OV))×(OV×(OV×OV)))×((OV×(OV×OV))×(OV×(OV×OV))))×(((OV×(OV×OV))×(OV×(OV×OV)))×((OV×(OV×OV))×((OV×OV)×(OV×OV)))))×((((OV×(OV×OV))×(OV×(OV×OV)))×((OV×(OV×OV))×(OV×(OV×OV))))×(((OV×(OV×OV))×(OV×(OV×OV)))×((OV×(OV×OV))×((OV×OO)×(OO×AN)))))))×((((((OO×(OO×AN))×(OO×(OO×AN)))×((OV×(Bool×OO))×(OV×(OV×Bool))))×(((OW×(OV×OW))×(OW×(OW×Bool)))×((Bool×(Bool×Bool))×((OW×OV)×(OW×OW)))))×((((OW×(Bool×Bool))×(Bool×(OW×OW)))×((OB×(ON×OW))×(OV×(OW×OW))))×(((OB×(ON×OW))×(OV×(OW×OW)))×((OB×(ON×OW))×((OV×Bool)×(OW×OW))))))×(((((Bool×(OW×OW))×(Bool×(OW×OW)))×((Bool×(OW×OW))×(OW×(OV×Bool))))×(((Bool×(OW×OB))×(OW×(OV×Bool)))×((Bool×(OW×OB))×((OW×OV)×(Bool×Bool)))))×((((OW×(OB×OW))×(OV×(Bool×Bool)))×((OW×(OB×OW))×((OV×Bool)×(Bool×OW))))×(((OB×(OW×OV))×(Bool×(Bool×OW)))×((OB×(OW×OV))×((Bool×Bool)×(OW×OB))))))))
noncomputable def factL(Fg:Frag):FactT:=(((((((nsB Fg 3,(nsB Fg 0,nsB Fg 2)),(nsFind (nsE Fg 2) "sys.recursionlimit",(Fg.lookup 60,codeB Fg 59 "quotedata"))),((Fg.lookup 67,(codeB Fg 66 "_quote_periods",Fg.lookup 74)),(codeB Fg 73 "_fix_eols",(Fg.lookup 201,codeB Fg 200 "heappush")))),(((Fg.lookup 208,(codeB Fg 207 "heappop",Fg.lookup 215)),(codeB Fg 214 "_siftdown",(Fg.lookup 222,codeB Fg 221 "_siftup"))),((Fg.lookup 229,(codeB Fg 228 "_law_sent",Fg.lookup 236)),((codeB Fg 235 "_law_seams",Fg.lookup 241),(codeB Fg 240 "_law_tried",Fg.lookup 248))))),((((codeB Fg 247 "_law_by_heap",(Fg.lookup 253,codeB Fg 252 "_law_by_sorter")),(Fg.lookup 258,(codeB Fg 257 "_law_in_octets",Fg.lookup 263))),((codeB Fg 262 "law",(Fg.lookup 89,codeB Fg 88 "_NodeInfo.__init__")),(Fg.lookup 126,(codeB Fg 125 "TopologicalSorter.__init__",Fg.lookup 133)))),(((codeB Fg 132 "TopologicalSorter._get_nodeinfo",(Fg.lookup 140,codeB Fg 139 "TopologicalSorter.add")),(Fg.lookup 145,(codeB Fg 144 "TopologicalSorter.prepare",Fg.lookup 152))),((codeB Fg 151 "TopologicalSorter.get_ready",(Fg.lookup 159,codeB Fg 158 "TopologicalSorter.is_active")),((Fg.lookup 173,codeB Fg 172 "TopologicalSorter.done"),(Fg.lookup 180,codeB Fg 179 "TopologicalSorter._find_cycle")))))),(((((mgOf Fg "quotedata",(mgOf Fg "_quote_periods",mgOf Fg "_fix_eols")),(mgOf Fg "heappush",(mgOf Fg "heappop",mgOf Fg "_siftdown"))),((mgOf Fg "_siftup",(mgOf Fg "_law_sent",mgOf Fg "_law_seams")),(mgOf Fg "_law_tried",(mgOf Fg "_law_by_heap",mgOf Fg "_law_by_sorter")))),(((mgOf Fg "_law_in_octets",(mgOf Fg "law",mgOf Fg "_twin_re_1")),(mgOf Fg "_twin_re_2",(mgOf Fg "_twin_re_3",mgOf Fg "_NodeInfo"))),((mgOf Fg "TopologicalSorter",(mgOf Fg "len",mbOf Fg "len")),((mgOf Fg "min",mbOf Fg "min"),(mgOf Fg "sum",mbOf Fg "sum"))))),((((mgOf Fg "sorted",(mbOf Fg "sorted",mgOf Fg "ord")),(mbOf Fg "ord",(mgOf Fg "iter",mbOf Fg "iter"))),((mgOf Fg "range",(mbOf Fg "range",mgOf Fg "zip")),(mbOf Fg "zip",(mgOf Fg "enumerate",mbOf Fg "enumerate")))),(((mgOf Fg "bytes",(mbOf Fg "bytes",mgOf Fg "tuple")),(mbOf Fg "tuple",(mgOf Fg "set",mbOf Fg "set"))),((mgOf Fg "bool",(mbOf Fg "bool",mgOf Fg "StopIteration")),((mbOf Fg "StopIteration",Fg.lookup 43),(Fg.lookup 42,((itemsOf Fg 42).map reRawOf).map (·.toNat)))))))),((((((Fg.lookup 48,(Fg.lookup 47,((itemsOf Fg 47).map reRawOf).map (·.toNat))),(Fg.lookup 53,(Fg.lookup 52,((itemsOf Fg 52).map reRawOf).map (·.toNat)))),((mgOf Fg "CRLF",((Fg.lookup 1).isSome,Fg.lookup (dvOf Fg))),(mgOf Fg "_NODE_OUT",(mgOf Fg "_NODE_DONE",makesIn Fg 93)))),(((findIn Fg (.ref 93) "__init__",(typeIn Fg (.ref 89),findIn Fg (.ref 93) "__getattribute__")),(findIn Fg (.ref 93) "__getattr__",(findIn Fg (.ref 93) "__setattr__",plainOver Fg 93))),(((clsIn Fg 93).isSome,(keepIn Fg (.ref 93),makesIn Fg 190)),((findIn Fg (.ref 190) "__init__",typeIn Fg (.ref 126)),(findIn Fg (.ref 190) "__getattribute__",findIn Fg (.ref 190) "__getattr__"))))),((((findIn Fg (.ref 190) "__setattr__",(plainOver Fg 190,(clsIn Fg 190).isSome)),(keepIn Fg (.ref 190),(findIn Fg (.ref 93) "node",specialIn Fg (.ref 94) "__get__"))),((takesIn Fg (.ref 94),(slotIn Fg 94 93,takerIn Fg 93 "node")),(typeIn Fg (.ref 94),(findIn Fg (.ref 93) "npredecessors",specialIn Fg (.ref 95) "__get__")))),(((takesIn Fg (.ref 95),(slotIn Fg 95 93,takerIn Fg 93 "npredecessors")),(typeIn Fg (.ref 95),(findIn Fg (.ref 93) "successors",specialIn Fg (.ref 96) "__get__"))),((takesIn Fg (.ref 96),(slotIn Fg 96 93,takerIn Fg 93 "successors")),((typeIn Fg (.ref 96),hasDictIn Fg 190),(findIn Fg (.ref 190) "_node2info",takerIn Fg 190 "_node2info")))))),(((((hasDictIn Fg 190,(findIn Fg (.ref 190) "_ready_nodes",takerIn Fg 190 "_ready_nodes")),(hasDictIn Fg 190,(findIn Fg (.ref 190) "_npassedout",takerIn Fg 190 "_npassedout"))),((hasDictIn Fg 190,(findIn Fg (.ref 190) "_nfinished",takerIn Fg 190 "_nfinished")),(findIn Fg (.ref 190) "_get_nodeinfo",(typeIn Fg (.ref 133),keepIn Fg (.ref 133))))),(((fnIn Fg 133,(specialIn Fg (.ref 133) "__get__",takesIn Fg (.ref 133))),(findIn Fg (.ref 190) "add",(typeIn Fg (.ref 140),keepIn Fg (.ref 140)))),((fnIn Fg 140,(specialIn Fg (.ref 140) "__get__",takesIn Fg (.ref 140))),((findIn Fg (.ref 190) "prepare",typeIn Fg (.ref 145)),(keepIn Fg (.ref 145),fnIn Fg 145))))),((((specialIn Fg (.ref 145) "__get__",(takesIn Fg (.ref 145),findIn Fg (.ref 190) "get_ready")),(typeIn Fg (.ref 152),(keepIn Fg (.ref 152),fnIn Fg 152))),((specialIn Fg (.ref 152) "__get__",(takesIn Fg (.ref 152),findIn Fg (.ref 190) "is_active")),((typeIn Fg (.ref 159),keepIn Fg (.ref 159)),(fnIn Fg 159,specialIn Fg (.ref 159) "__get__")))),(((takesIn Fg (.ref 159),(findIn Fg (.ref 190) "done",typeIn Fg (.ref 173))),(keepIn Fg (.ref 173),(fnIn Fg 173,specialIn Fg (.ref 173) "__get__"))),((takesIn Fg (.ref 173),(findIn Fg (.ref 190) "_find_cycle",typeIn Fg (.ref 180))),((keepIn Fg (.ref 180),fnIn Fg 180),(specialIn Fg (.ref 180) "__get__",takesIn Fg (.ref 180)))))))))
noncomputable def factR(Fg:Frag):FactT:=(((((((true,(true,true)),(none,(some {cls:=.type "function",data:=.func (fdOf (topSt 7) "quotedata" .none 59 (pmOf Fg 60))},true))),((some {cls:=.type "function",data:=.func (fdOf (topSt 8) "_quote_periods" .none 66 (pmOf Fg 60))},(true,some {cls:=.type "function",data:=.func (fdOf (topSt 9) "_fix_eols" .none 73 (pmOf Fg 60))})),(true,(some {cls:=.type "function",data:=.func (fdOf (topSt 17) "heappush" .none 200 (pmOf Fg 201))},true)))),(((some {cls:=.type "function",data:=.func (fdOf (topSt 18) "heappop" .none 207 (pmOf Fg 201))},(true,some {cls:=.type "function",data:=.func (fdOf (topSt 19) "_siftdown" .none 214 (pmOf Fg 201))})),(true,(some {cls:=.type "function",data:=.func (fdOf (topSt 20) "_siftup" .none 221 (pmOf Fg 201))},true))),((some {cls:=.type "function",data:=.func (fdOf (topSt 22) "_law_sent" .none 228 (pmOf Fg 229))},(true,some {cls:=.type "function",data:=.func (fdOf (topSt 23) "_law_seams" .none 235 (pmOf Fg 229))})),((true,some {cls:=.type "function",data:=.func (fdOf (topSt 24) "_law_tried" .none 240 (pmOf Fg 229))}),(true,some {cls:=.type "function",data:=.func (fdOf (topSt 25) "_law_by_heap" .none 247 (pmOf Fg 229))}))))),((((true,(some {cls:=.type "function",data:=.func (fdOf (topSt 26) "_law_by_sorter" .none 252 (pmOf Fg 229))},true)),(some {cls:=.type "function",data:=.func (fdOf (topSt 27) "_law_in_octets" .none 257 (pmOf Fg 229))},(true,some {cls:=.type "function",data:=.func (fdOf (topSt 28) "law" .none 262 (pmOf Fg 229))}))),((true,(some {cls:=.type "function",data:=.func (fdOf (inCls (topSt 13) 1) "_NodeInfo.__init__" .none 88 (pmOf Fg 89))},true)),(some {cls:=.type "function",data:=.func (fdOf (inCls (topSt 15) 0) "TopologicalSorter.__init__" (.ref (dvOf Fg)) 125 (pmOf Fg 89))},(true,some {cls:=.type "function",data:=.func (fdOf (inCls (topSt 15) 1) "TopologicalSorter._get_nodeinfo" .none 132 (pmOf Fg 89))})))),(((true,(some {cls:=.type "function",data:=.func (fdOf (inCls (topSt 15) 2) "TopologicalSorter.add" .none 139 (pmOf Fg 89))},true)),(some {cls:=.type "function",data:=.func (fdOf (inCls (topSt 15) 3) "TopologicalSorter.prepare" .none 144 (pmOf Fg 89))},(true,some {cls:=.type "function",data:=.func (fdOf (inCls (topSt 15) 4) "TopologicalSorter.get_ready" .none 151 (pmOf Fg 89))}))),((true,(some {cls:=.type "function",data:=.func (fdOf (inCls (topSt 15) 5) "TopologicalSorter.is_active" .none 158 (pmOf Fg 89))},true)),((some {cls:=.type "function",data:=.func (fdOf (inCls (topSt 15) 7) "TopologicalSorter.done" .none 172 (pmOf Fg 89))},true),(some {cls:=.type "function",data:=.func (fdOf (inCls (topSt 15) 8) "TopologicalSorter._find_cycle" .none 179 (pmOf Fg 89))},true)))))),(((((some (.ref 60),(some (.ref 67),some (.ref 74))),(some (.ref 201),(some (.ref 208),some (.ref 215)))),((some (.ref 222),(some (.ref 229),some (.ref 236))),(some (.ref 241),(some (.ref 248),some (.ref 253))))),(((some (.ref 258),(some (.ref 263),some (.ref 43))),(some (.ref 48),(some (.ref 53),some (.ref 93)))),((some (.ref 190),(none,some (.builtin "len"))),((none,some (.builtin "min")),(none,some (.builtin "sum")))))),((((none,(some (.builtin "sorted"),none)),(some (.builtin "ord"),(none,some (.builtin "iter")))),((none,(some (.type "range"),none)),(some (.type "zip"),(none,some (.type "enumerate"))))),(((none,(some (.type "bytes"),none)),(some (.type "tuple"),(none,some (.type "set")))),((none,(some (.type "bool"),none)),((some (.type "StopIteration"),some {cls:=.type "re.Pattern",data:=.fields #[fvAt Fg 43 0,fvAt Fg 43 1,.int 0 (tokOf (fvAt Fg 43 2)),fvAt Fg 43 3,fvAt Fg 43 4,.ref 42,.int 0 (tokOf (fvAt Fg 43 6))]}),(some {cls:=.type "tuple",data:=.seq (itemsOf Fg 42) (epOf Fg 42)},c1))))))),((((((some {cls:=.type "re.Pattern",data:=.fields #[fvAt Fg 48 0,fvAt Fg 48 1,.int 0 (tokOf (fvAt Fg 48 2)),fvAt Fg 48 3,fvAt Fg 48 4,.ref 47,.int 1 (tokOf (fvAt Fg 48 6))]},(some {cls:=.type "tuple",data:=.seq (itemsOf Fg 47) (epOf Fg 47)},c2)),(some {cls:=.type "re.Pattern",data:=.fields #[fvAt Fg 53 0,fvAt Fg 53 1,.int 0 (tokOf (fvAt Fg 53 2)),fvAt Fg 53 3,fvAt Fg 53 4,.ref 52,.int 0 (tokOf (fvAt Fg 53 6))]},(some {cls:=.type "tuple",data:=.seq (itemsOf Fg 52) (epOf Fg 52)},c3))),((some (.str ⟨#[13,10]⟩ (tokOf ((mgOf Fg "CRLF").getD .none))),(true,some (tupOf #[.none] (epOf Fg (dvOf Fg))))),(some (.int (-1) (tokOf ((mgOf Fg "_NODE_OUT").getD .none))),(some (.int (-2) (tokOf ((mgOf Fg "_NODE_DONE").getD .none))),true)))),(((some (some (.ref 89)),(some (.type "function"),some (some (.builtin "object.__getattribute__")))),(some none,(some (some (.builtin "object.__setattr__")),true))),((true,(true,true)),((some (some (.ref 126)),some (.type "function")),(some (some (.builtin "object.__getattribute__")),some none))))),((((some (some (.builtin "object.__setattr__")),(true,true)),(true,(some (some (.ref 94)),some (some (.builtin "member_descriptor.__get__"))))),((some true,(some 0,some (some (.ref 94)))),(some (.type "member_descriptor"),(some (some (.ref 95)),some (some (.builtin "member_descriptor.__get__")))))),(((some true,(some 1,some (some (.ref 95)))),(some (.type "member_descriptor"),(some (some (.ref 96)),some (some (.builtin "member_descriptor.__get__"))))),((some true,(some 2,some (some (.ref 96)))),((some (.type "member_descriptor"),true),(some none,some none)))))),(((((true,(some none,some none)),(true,(some none,some none))),((true,(some none,some none)),(some (some (.ref 133)),(some (.type "function"),true)))),(((true,(some (some (.builtin "function.__get__")),some false)),(some (some (.ref 140)),(some (.type "function"),true))),((true,(some (some (.builtin "function.__get__")),some false)),((some (some (.ref 145)),some (.type "function")),(true,true))))),((((some (some (.builtin "function.__get__")),(some false,some (some (.ref 152)))),(some (.type "function"),(true,true))),((some (some (.builtin "function.__get__")),(some false,some (some (.ref 159)))),((some (.type "function"),true),(true,some (some (.builtin "function.__get__")))))),(((some false,(some (some (.ref 173)),some (.type "function"))),(true,(true,some (some (.builtin "function.__get__"))))),((some false,(some (some (.ref 180)),some (.type "function"))),((true,true),(some (some (.builtin "function.__get__")),some false))))))))
abbrev FgOk(Fg:Frag):Prop:=factL Fg=factR Fg
theorem mkB3{Fg:Frag}{h:Heap}(X:Fg.In h)(e:FgOk Fg):B3 Fg h.get? (mgOf Fg) (mbOf Fg) (pmOf Fg 60) (pmOf Fg 89) (pmOf Fg 201) (pmOf Fg 229) (dvOf Fg) where
 g:=nsB_ok X (congrArg (·.1.1.1.1.1.1.1) e)
 b:=nsB_ok X (congrArg (·.1.1.1.1.1.1.2.1) e)
 lim:=⟨_,nsB_ok X (congrArg (·.1.1.1.1.1.1.2.2) e),(congrArg (·.1.1.1.1.1.2.1) e)⟩
 f_quotedata:=fnB_ok X (congrArg (·.1.1.1.1.1.2.2.1) e) rfl (congrArg (·.1.1.1.1.1.2.2.2) e)
 f_quote_periods:=fnB_ok X (congrArg (·.1.1.1.1.2.1.1) e) rfl (congrArg (·.1.1.1.1.2.1.2.1) e)
 f_fix_eols:=fnB_ok X (congrArg (·.1.1.1.1.2.1.2.2) e) rfl (congrArg (·.1.1.1.1.2.2.1) e)
 f_heappush:=fnB_ok X (congrArg (·.1.1.1.1.2.2.2.1) e) rfl (congrArg (·.1.1.1.1.2.2.2.2) e)
 f_heappop:=fnB_ok X (congrArg (·.1.1.1.2.1.1.1) e) rfl (congrArg (·.1.1.1.2.1.1.2.1) e)
 f_siftdown:=fnB_ok X (congrArg (·.1.1.1.2.1.1.2.2) e) rfl (congrArg (·.1.1.1.2.1.2.1) e)
 f_siftup:=fnB_ok X (congrArg (·.1.1.1.2.1.2.2.1) e) rfl (congrArg (·.1.1.1.2.1.2.2.2) e)
 f_law_sent:=fnB_ok X (congrArg (·.1.1.1.2.2.1.1) e) rfl (congrArg (·.1.1.1.2.2.1.2.1) e)
 f_law_seams:=fnB_ok X (congrArg (·.1.1.1.2.2.1.2.2) e) rfl (congrArg (·.1.1.1.2.2.2.1.1) e)
 f_law_tried:=fnB_ok X (congrArg (·.1.1.1.2.2.2.1.2) e) rfl (congrArg (·.1.1.1.2.2.2.2.1) e)
 f_law_by_heap:=fnB_ok X (congrArg (·.1.1.1.2.2.2.2.2) e) rfl (congrArg (·.1.1.2.1.1.1.1) e)
 f_law_by_sorter:=fnB_ok X (congrArg (·.1.1.2.1.1.1.2.1) e) rfl (congrArg (·.1.1.2.1.1.1.2.2) e)
 f_law_in_octets:=fnB_ok X (congrArg (·.1.1.2.1.1.2.1) e) rfl (congrArg (·.1.1.2.1.1.2.2.1) e)
 f_law:=fnB_ok X (congrArg (·.1.1.2.1.1.2.2.2) e) rfl (congrArg (·.1.1.2.1.2.1.1) e)
 fNi:=fnB_ok X (congrArg (·.1.1.2.1.2.1.2.1) e) rfl (congrArg (·.1.1.2.1.2.1.2.2) e)
 fInit:=fnB_ok X (congrArg (·.1.1.2.1.2.2.1) e) rfl (congrArg (·.1.1.2.1.2.2.2.1) e)
 fGni:=fnB_ok X (congrArg (·.1.1.2.1.2.2.2.2) e) rfl (congrArg (·.1.1.2.2.1.1.1) e)
 fAdd:=fnB_ok X (congrArg (·.1.1.2.2.1.1.2.1) e) rfl (congrArg (·.1.1.2.2.1.1.2.2) e)
 fPrep:=fnB_ok X (congrArg (·.1.1.2.2.1.2.1) e) rfl (congrArg (·.1.1.2.2.1.2.2.1) e)
 fRdy:=fnB_ok X (congrArg (·.1.1.2.2.1.2.2.2) e) rfl (congrArg (·.1.1.2.2.2.1.1) e)
 fAct:=fnB_ok X (congrArg (·.1.1.2.2.2.1.2.1) e) rfl (congrArg (·.1.1.2.2.2.1.2.2) e)
 fDone:=fnB_ok X (congrArg (·.1.1.2.2.2.2.1.1) e) rfl (congrArg (·.1.1.2.2.2.2.1.2) e)
 fCyc:=fnB_ok X (congrArg (·.1.1.2.2.2.2.2.1) e) rfl (congrArg (·.1.1.2.2.2.2.2.2) e)
 g_quotedata:=(congrArg (·.1.2.1.1.1.1.1) e)
 g_quote_periods:=(congrArg (·.1.2.1.1.1.1.2.1) e)
 g_fix_eols:=(congrArg (·.1.2.1.1.1.1.2.2) e)
 g_heappush:=(congrArg (·.1.2.1.1.1.2.1) e)
 g_heappop:=(congrArg (·.1.2.1.1.1.2.2.1) e)
 g_siftdown:=(congrArg (·.1.2.1.1.1.2.2.2) e)
 g_siftup:=(congrArg (·.1.2.1.1.2.1.1) e)
 g_law_sent:=(congrArg (·.1.2.1.1.2.1.2.1) e)
 g_law_seams:=(congrArg (·.1.2.1.1.2.1.2.2) e)
 g_law_tried:=(congrArg (·.1.2.1.1.2.2.1) e)
 g_law_by_heap:=(congrArg (·.1.2.1.1.2.2.2.1) e)
 g_law_by_sorter:=(congrArg (·.1.2.1.1.2.2.2.2) e)
 g_law_in_octets:=(congrArg (·.1.2.1.2.1.1.1) e)
 g_law:=(congrArg (·.1.2.1.2.1.1.2.1) e)
 g1:=(congrArg (·.1.2.1.2.1.1.2.2) e)
 g2:=(congrArg (·.1.2.1.2.1.2.1) e)
 g3:=(congrArg (·.1.2.1.2.1.2.2.1) e)
 gNi:=(congrArg (·.1.2.1.2.1.2.2.2) e)
 gTs:=(congrArg (·.1.2.1.2.2.1.1) e)
 b_len:=⟨(congrArg (·.1.2.1.2.2.1.2.1) e),(congrArg (·.1.2.1.2.2.1.2.2) e)⟩
 b_min:=⟨(congrArg (·.1.2.1.2.2.2.1.1) e),(congrArg (·.1.2.1.2.2.2.1.2) e)⟩
 b_sum:=⟨(congrArg (·.1.2.1.2.2.2.2.1) e),(congrArg (·.1.2.1.2.2.2.2.2) e)⟩
 b_sorted:=⟨(congrArg (·.1.2.2.1.1.1.1) e),(congrArg (·.1.2.2.1.1.1.2.1) e)⟩
 b_ord:=⟨(congrArg (·.1.2.2.1.1.1.2.2) e),(congrArg (·.1.2.2.1.1.2.1) e)⟩
 b_iter:=⟨(congrArg (·.1.2.2.1.1.2.2.1) e),(congrArg (·.1.2.2.1.1.2.2.2) e)⟩
 b_range:=⟨(congrArg (·.1.2.2.1.2.1.1) e),(congrArg (·.1.2.2.1.2.1.2.1) e)⟩
 b_zip:=⟨(congrArg (·.1.2.2.1.2.1.2.2) e),(congrArg (·.1.2.2.1.2.2.1) e)⟩
 b_enumerate:=⟨(congrArg (·.1.2.2.1.2.2.2.1) e),(congrArg (·.1.2.2.1.2.2.2.2) e)⟩
 b_bytes:=⟨(congrArg (·.1.2.2.2.1.1.1) e),(congrArg (·.1.2.2.2.1.1.2.1) e)⟩
 b_tuple:=⟨(congrArg (·.1.2.2.2.1.1.2.2) e),(congrArg (·.1.2.2.2.1.2.1) e)⟩
 b_set:=⟨(congrArg (·.1.2.2.2.1.2.2.1) e),(congrArg (·.1.2.2.2.1.2.2.2) e)⟩
 b_bool:=⟨(congrArg (·.1.2.2.2.2.1.1) e),(congrArg (·.1.2.2.2.2.1.2.1) e)⟩
 bStop:=⟨(congrArg (·.1.2.2.2.2.1.2.2) e),(congrArg (·.1.2.2.2.2.2.1.1) e)⟩
 r1:=⟨⟨_,_,_,_,_,_,X _ _ (congrArg (·.1.2.2.2.2.2.1.2) e)⟩,_,_,X _ _ (congrArg (·.1.2.2.2.2.2.2.1) e),(congrArg (·.1.2.2.2.2.2.2.2) e)⟩
 r2:=⟨⟨_,_,_,_,_,_,X _ _ (congrArg (·.2.1.1.1.1.1.1) e)⟩,_,_,X _ _ (congrArg (·.2.1.1.1.1.1.2.1) e),(congrArg (·.2.1.1.1.1.1.2.2) e)⟩
 r3:=⟨⟨_,_,_,_,_,_,X _ _ (congrArg (·.2.1.1.1.1.2.1) e)⟩,_,_,X _ _ (congrArg (·.2.1.1.1.1.2.2.1) e),(congrArg (·.2.1.1.1.1.2.2.2) e)⟩
 crlf:=⟨_,(congrArg (·.2.1.1.1.2.1.1) e)⟩
 mods:=(Option.isSome_iff_exists.mp (congrArg (·.2.1.1.1.2.1.2.1) e)).elim fun o q=>⟨o,X _ _ q⟩
 fgin:=X
 dInit:=⟨_,X _ _ (congrArg (·.2.1.1.1.2.1.2.2) e)⟩
 gOut:=⟨_,(congrArg (·.2.1.1.1.2.2.1) e)⟩
 gDn:=⟨_,(congrArg (·.2.1.1.1.2.2.2.1) e)⟩
 cN:=⟨(congrArg (·.2.1.1.1.2.2.2.2) e),(congrArg (·.2.1.1.2.1.1.1) e),(congrArg (·.2.1.1.2.1.1.2.1) e),(congrArg (·.2.1.1.2.1.1.2.2) e),(congrArg (·.2.1.1.2.1.2.1) e),(congrArg (·.2.1.1.2.1.2.2.1) e),(congrArg (·.2.1.1.2.1.2.2.2) e),(congrArg (·.2.1.1.2.2.1.1) e),(congrArg (·.2.1.1.2.2.1.2.1) e)⟩
 cS:=⟨(congrArg (·.2.1.1.2.2.1.2.2) e),(congrArg (·.2.1.1.2.2.2.1.1) e),(congrArg (·.2.1.1.2.2.2.1.2) e),(congrArg (·.2.1.1.2.2.2.2.1) e),(congrArg (·.2.1.1.2.2.2.2.2) e),(congrArg (·.2.1.2.1.1.1.1) e),(congrArg (·.2.1.2.1.1.1.2.1) e),(congrArg (·.2.1.2.1.1.1.2.2) e),(congrArg (·.2.1.2.1.1.2.1) e)⟩
 sNode:=⟨(congrArg (·.2.1.2.1.1.2.2.1) e),(congrArg (·.2.1.2.1.1.2.2.2) e),(congrArg (·.2.1.2.1.2.1.1) e),(congrArg (·.2.1.2.1.2.1.2.1) e),(congrArg (·.2.1.2.1.2.1.2.2) e),(congrArg (·.2.1.2.1.2.2.1) e)⟩
 sNp:=⟨(congrArg (·.2.1.2.1.2.2.2.1) e),(congrArg (·.2.1.2.1.2.2.2.2) e),(congrArg (·.2.1.2.2.1.1.1) e),(congrArg (·.2.1.2.2.1.1.2.1) e),(congrArg (·.2.1.2.2.1.1.2.2) e),(congrArg (·.2.1.2.2.1.2.1) e)⟩
 sSu:=⟨(congrArg (·.2.1.2.2.1.2.2.1) e),(congrArg (·.2.1.2.2.1.2.2.2) e),(congrArg (·.2.1.2.2.2.1.1) e),(congrArg (·.2.1.2.2.2.1.2.1) e),(congrArg (·.2.1.2.2.2.1.2.2) e),(congrArg (·.2.1.2.2.2.2.1.1) e)⟩
 aN2i:=⟨(congrArg (·.2.1.2.2.2.2.1.2) e),(congrArg (·.2.1.2.2.2.2.2.1) e),(congrArg (·.2.1.2.2.2.2.2.2) e)⟩
 aRdy:=⟨(congrArg (·.2.2.1.1.1.1.1) e),(congrArg (·.2.2.1.1.1.1.2.1) e),(congrArg (·.2.2.1.1.1.1.2.2) e)⟩
 aPas:=⟨(congrArg (·.2.2.1.1.1.2.1) e),(congrArg (·.2.2.1.1.1.2.2.1) e),(congrArg (·.2.2.1.1.1.2.2.2) e)⟩
 aFin:=⟨(congrArg (·.2.2.1.1.2.1.1) e),(congrArg (·.2.2.1.1.2.1.2.1) e),(congrArg (·.2.2.1.1.2.1.2.2) e)⟩
 mGni:=⟨(congrArg (·.2.2.1.1.2.2.1) e),(congrArg (·.2.2.1.1.2.2.2.1) e),(congrArg (·.2.2.1.1.2.2.2.2) e),(congrArg (·.2.2.1.2.1.1.1) e),(congrArg (·.2.2.1.2.1.1.2.1) e),(congrArg (·.2.2.1.2.1.1.2.2) e)⟩
 mAdd:=⟨(congrArg (·.2.2.1.2.1.2.1) e),(congrArg (·.2.2.1.2.1.2.2.1) e),(congrArg (·.2.2.1.2.1.2.2.2) e),(congrArg (·.2.2.1.2.2.1.1) e),(congrArg (·.2.2.1.2.2.1.2.1) e),(congrArg (·.2.2.1.2.2.1.2.2) e)⟩
 mPrep:=⟨(congrArg (·.2.2.1.2.2.2.1.1) e),(congrArg (·.2.2.1.2.2.2.1.2) e),(congrArg (·.2.2.1.2.2.2.2.1) e),(congrArg (·.2.2.1.2.2.2.2.2) e),(congrArg (·.2.2.2.1.1.1.1) e),(congrArg (·.2.2.2.1.1.1.2.1) e)⟩
 mRdy:=⟨(congrArg (·.2.2.2.1.1.1.2.2) e),(congrArg (·.2.2.2.1.1.2.1) e),(congrArg (·.2.2.2.1.1.2.2.1) e),(congrArg (·.2.2.2.1.1.2.2.2) e),(congrArg (·.2.2.2.1.2.1.1) e),(congrArg (·.2.2.2.1.2.1.2.1) e)⟩
 mAct:=⟨(congrArg (·.2.2.2.1.2.1.2.2) e),(congrArg (·.2.2.2.1.2.2.1.1) e),(congrArg (·.2.2.2.1.2.2.1.2) e),(congrArg (·.2.2.2.1.2.2.2.1) e),(congrArg (·.2.2.2.1.2.2.2.2) e),(congrArg (·.2.2.2.2.1.1.1) e)⟩
 mDone:=⟨(congrArg (·.2.2.2.2.1.1.2.1) e),(congrArg (·.2.2.2.2.1.1.2.2) e),(congrArg (·.2.2.2.2.1.2.1) e),(congrArg (·.2.2.2.2.1.2.2.1) e),(congrArg (·.2.2.2.2.1.2.2.2) e),(congrArg (·.2.2.2.2.2.1.1) e)⟩
 mCyc:=⟨(congrArg (·.2.2.2.2.2.1.2.1) e),(congrArg (·.2.2.2.2.2.1.2.2) e),(congrArg (·.2.2.2.2.2.2.1.1) e),(congrArg (·.2.2.2.2.2.2.1.2) e),(congrArg (·.2.2.2.2.2.2.2.1) e),(congrArg (·.2.2.2.2.2.2.2.2) e)⟩
theorem mg_dg{Fg:Frag}(e:FgOk Fg):nsB Fg 3=true:=(congrArg (·.1.1.1.1.1.1.1) e)
theorem mg_gl{Fg:Frag}(e:FgOk Fg):mgOf Fg "law" =some (.ref 263):=(congrArg (·.1.2.1.2.1.1.2.1) e)
end
theorem rm_caller:Rm 22 callerA:=⟨rfl,by decide,by decide⟩
theorem law_call{prog:Program}{w:World}{Fg:Frag}{s₁:Shared}{its:List Value}{ns:List Int}{c:ClaimW}{cl:Str→Option Addr}{mean:ExcName→Option Value}{args:List WData}
 (X:Fg.In s₁.heap) (F:FgOk Fg) (hL:s₁.heap.IsList 264 its.toArray) (hI:IntsAre its ns) (hz:ns.length≤63) (hg:s₁.gens= #[]) (hn:∀cls,c.raises args cls=false) (hp:c.post args (.bool true) args=true):
 wpAny (model prog w) callerA (call (.ref 263) [.ref 264]) (fun v s'=>GoodWG c cl mean args s₁ (.ok (.ret v)) s') (fun e s'=>GoodWG c cl mean args s₁ (.error e) s') s₁:=by
 have hl:=hI.length;refine wpAny_call (law_ok (K:=s₁.heap.get?) (mkB3 X F) rm_caller rfl (fun _ _ e=>e) hL hI (J322 hl hz) fun h t hk=>?_);exact GoodW.toG ⟨.inl ⟨.bool true,.bool true,[],rfl,hn,.bool true,hp,unshared_nil⟩,hk,rfl,hg⟩
end
section
open PySem PySem.W PySem.Calls PyProof.Rows PySem.SeqAt
section
set_option maxRecDepth 1000000
set_option maxHeartbeats 0
open PySem.Builtin.Re PySem.Builtin
noncomputable def fragAt(s:Shared):List Addr→Frag
 |[]=>[]
 |a::as=>match s.heap.get? a with
  |some o=>(a,o)::fragAt s as
  |none=>fragAt s as
theorem fragAt_in(s:Shared):∀(as:List Addr),(fragAt s as).In s.heap
 |[],a,o,e=>by cases e
 |b::as,a,o,e=>by
  unfold fragAt at e
  split at e
  ·rename_i ob hb;rw[List.lookup_cons]at e
   split at e
   ·rename_i hab;have:a=b:=by simpa using hab
    subst this;cases e;exact hb
   ·exact fragAt_in s as a o e
  ·exact fragAt_in s as a o e
noncomputable abbrev lawAs:List Addr:=[3,0,2,1,42,43,47,48,52,53,54,55,56,57,58,59,60,61,62,63,64,65,66,67,68,69,70,71,72,73,74,75,76,77,78,79,80,81,82,83,84,85,86,87,88,89,90,91,92,93,94,95,96,97,98,99,100,101,102,103,104,105,106,107,108,109,110,111,112,113,114,115,116,117,118,119,120,121,122,123,124,125,126,127,128,129,130,131,132,133,134,135,136,137,138,139,140,141,142,143,144,145,146,147,148,149,150,151,152,153,154,155,156,157,158,159,160,161,162,163,164,165,166,167,168,169,170,171,172,173,174,175,176,177,178,179,180,181,182,183,184,185,186,187,188,189,190,191,192,193,194,195,196,197,198,199,200,201,202,203,204,205,206,207,208,209,210,211,212,213,214,215,216,217,218,219,220,221,222,223,224,225,226,227,228,229,230,231,232,233,234,235,236,237,238,239,240,241,242,243,244,245,246,247,248,249,250,251,252,253,254,255,256,257,258,259,260,261,262,263]
theorem ns_same{h:Heap}{a:Addr}{m m':Str→Option Value}(x:h.Ns a m)(y:h.Ns a m')(n:Str):m n=m' n:=by
 obtain⟨o,es,ep,ho,hd,_,hf⟩:=x;obtain⟨o',es',ep',ho',hd',_,hf'⟩:=y;rw[ho]at ho';cases ho';rw[hd]at hd';cases hd';rw[←hf,←hf']
theorem mg_law{Fg:Frag}{h:Heap}{mg:Str→Option Value}(X:Fg.In h)(Gm:h.Ns mainGlobals mg)(F:FgOk Fg):mg "law" =some (.ref 263):=
 (ns_same Gm ((nsB_ok X (mg_dg F)).ns fun _ _ e=>e) "law").trans (mg_gl F)
noncomputable def factLs(o:Option Shared):=(o.isSome,openSeen lawQ lawLoose (importedModules thePw.main.body) lawX true (runOf o),(runOf o).heap.objs.size,factL (fragAt (runOf o) lawAs))
noncomputable def factRs(o:Option Shared):=(true,openGood lawQ lawLoose,264,factR (fragAt (runOf o) lawAs))
theorem facts0:∀w:World,factLs (openEnds treeTable thePw w 3536)=factRs (openEnds treeTable thePw w 3536):=by
 intro w;unfold factLs factRs openEnds fencedOpening topFrom;rw[PySem.W.Fast.te14364793385576792824,PySem.W.Fast.te10274390034422433532,PySem.W.Fast.te14082659384304107361,PySem.W.Fast.te1435165496053646825,PySem.W.Fast.te14289696077712309145,PySem.W.Fast.te5923862056798008813,PySem.W.Fast.te4187177175401517315];kernel_rfl
theorem fg4{α β γ δ:Type _}{a a':α}{b b':β}{c c':γ}{d d':δ}(e:(a,b,c,d)=(a',b',c',d')):a=a'∧b=b'∧c=c'∧d=d':=by
 cases e;exact⟨rfl,rfl,rfl,rfl⟩
theorem facts_gen{o:Option Shared}(e:factLs o=factRs o):o.isSome=true∧openSeen lawQ lawLoose (importedModules thePw.main.body) lawX true (runOf o)=openGood lawQ lawLoose∧(runOf o).heap.objs.size=264∧FgOk (fragAt (runOf o) lawAs):=by
 unfold factLs factRs at e;exact fg4 e
theorem facts_of{s:Shared}{w:World}(e:s=theRun w):s.heap.objs.size=264∧FgOk (fragAt s lawAs):=by
 have h:=(facts_gen (facts0 w)).2.2;have e':s=runOf (openEnds treeTable thePw w 3536):=e;rw[←e']at h;exact h
theorem left1:LeftO thePw lawQ lawLoose lawX (fun s=>s) theRun 3536:=left_gen fun w=>⟨(facts_gen (facts0 w)).1,(facts_gen (facts0 w)).2.1⟩
end
end
end Mine
section
open PySem PySem.W PySem.W.X PySem.W.ZRun PyProof.Rows
set_option maxRecDepth 100000 in
set_option maxHeartbeats 0 in
theorem PySem.Challenge.cw_ny0279_01_holds : PySem.Challenge.rw_ny0279_01.Holds := by
 w_on
 refine holds_law Mine.law_said fun said=>?_;refine holds_openX (q:=Mine.lawQ) (loose:=Mine.lawLoose) (Xt:=Mine.lawX) (XP:=XL Mine.lawQ []) (Yf:=fun s=>s) (Ya:=Mine.theRun) (N:=3536) Mine.left1 (fun s e=>xl_of s (Bool.and_eq_true_iff.mp e).1) XL.keeps (by rfl) (by rfl) (by rfl) (fun s e=>recFacts_of (Bool.and_eq_true_iff.mp e).2) (by rfl) said Mine.law_ok2 Mine.law_bare Mine.law_prom ?hc;intro w s₀ s₁ mg mb G y fa o pm cd doc dV kV ho hd hcd hD hmg hg args vals as L hpre hlay hrd hwl hlo;have y':s₀=Mine.theRun w:=y;obtain⟨hz,hF⟩:=Mine.facts_of y';have KX:(Mine.fragAt s₀ Mine.lawAs).In s₁.heap:=(Mine.fragAt_in s₀ Mine.lawAs).keeps L.keeps;refine Ground.open G ?_;intro T B D TE TW
 wrow_args hpre hlay hrd hwl hlo
 obtain⟨hat,hsz⟩:=script_at L;rw[hz]at hat hsz;subst hat;have hfa:fa=263:=Value.ref.inj (Option.some.inj (hmg.symm.trans (Mine.mg_law KX T.g hF)));subst hfa;rename_i hcond _ _ _ _ hL _ _;exact Mine.law_call KX hF (by assumption) (by assumption) (by omega) hg (fun _=>rfl) (by first|rfl|wrow_post)
end
