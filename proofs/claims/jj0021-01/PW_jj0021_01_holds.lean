import PyProof.Rows.All
import Wide.All
import OpenK.AllK
import Wide.FinOn
import PySem.Challenge.RW_jj0021_01
set_option Elab.async false
set_option maxRecDepth 100000
set_option linter.unusedVariables false
section
open PySem PySem.W PyProof.Rows PySem.Calls
set_option genInjectivity false
set_option genSizeOf false
namespace Mine
noncomputable def er:Value→Value
 | .int i _=>.int i 0
 | .str s _=>.str s 0
 | .bytes b _=>.bytes b 0
 | .float b _=>.float b 0
 | v=>v
@[simp] theorem er_int (i t):er (.int i t)=.int i 0:=rfl
@[simp] theorem er_str (i t):er (.str i t)=.str i 0:=rfl
@[simp] theorem er_bytes (i t):er (.bytes i t)=.bytes i 0:=rfl
@[simp] theorem er_float (i t):er (.float i t)=.float i 0:=rfl
@[simp] theorem er_none:er .none=.none:=rfl
@[simp] theorem er_bool (b):er (.bool b)=.bool b:=rfl
@[simp] theorem er_ref (b):er (.ref b)=.ref b:=rfl
@[simp] theorem er_type (b):er (.type b)=.type b:=rfl
@[simp] theorem er_builtin (b):er (.builtin b)=.builtin b:=rfl
@[simp] theorem er_er (v:Value):er (er v)=er v:=by cases v<;>rfl
inductive CO where
 | list (vs:List Value)
 | tup (vs:List Value)
 | inst (C d:Addr)
 | ns (es:List (Str × Value))
 | bar (b:Array UInt8)
 | cell (v:Option Value)
 | obj (o:Obj)
 | fr (mm:Str→Option Value)
 | di (ep:Nat) (kvs:List (Int × Value))
 | ds (ep:Nat) (kvs:List (Str × Value))
inductive EntsAre:List DictEntry→List (Str × Value)→Prop
 | nil:EntsAre [] []
 | cons {e:DictEntry}{t:Tok}{x:Str}{r:List DictEntry}{q:List (Str × Value)}(ht:e.key=.str x t) (h:EntsAre r q):EntsAre (e::r) ((x,er e.val)::q)
noncomputable def DictR {prog:Program}{w:World}{K:Type} [DecidableEq K] (knd:KeyKind prog w K) (ep:Nat) (kvs:List (K × Value)) (o:Obj):Prop:=
 ∃ es rkvs,o.ExactDict∧o.data=.dict es ep∧KeysOf knd es∧Pairs knd es.toList rkvs∧(rkvs.map (·.1)).Nodup∧rkvs.map (fun p=>(p.1,er p.2))=kvs
noncomputable def OR (prog:Program) (w:World):CO→Obj→Prop
 | .list vs,o=>∃ rvs n,o={ cls:=.type "list",data:=.seq rvs n }∧rvs.toList.map er=vs
 | .tup vs,o=>∃ rvs n,o={ cls:=.type "tuple",data:=.seq rvs n }∧rvs.toList.map er=vs
 | .inst C d,o=>o={ cls:=.ref C,dict:=some d,data:=.plain }
 | .ns es,o=>(es.map (·.1)).Nodup∧∃ des n,o=dictOf des n∧EntsAre des es
 | .bar b,o=>o={ cls:=.type "bytearray",data:=.bytearray b 0 }
 | .cell v,o=>∃ rv,o={ cls:=.type "cell",data:=.cell rv }∧rv.map er=v
 | .obj ob,o=>o=ob∧ob.isFreed=false
 | .fr mm,o=>∃ es ep,o.data=.dict es ep∧StrKeys es∧∀ name,nsFind es name=mm name
 | .di ep kvs,o=>DictR (intKind prog w) ep kvs o
 | .ds ep kvs,o=>DictR (strKind prog w) ep kvs o
theorem OR.free {prog:Program}{w:World}{co:CO}{o:Obj}(h:OR prog w co o):o.isFreed=false:=by
 cases co with
 | list=>obtain ⟨_,_,rfl,_⟩:=h;rfl
 | tup=>obtain ⟨_,_,rfl,_⟩:=h;rfl
 | inst=>cases h;rfl
 | ns=>obtain ⟨_,_,_,rfl,_⟩:=h;rfl
 | bar=>cases h;rfl
 | cell=>obtain ⟨_,rfl,_⟩:=h;rfl
 | obj=>obtain ⟨rfl,h⟩:=h;exact h
 | fr=>obtain ⟨_,_,h,_⟩:=h;exact Obj.isFreed_of_dict h
 | di=>obtain ⟨_,_,_,h,_⟩:=h;exact Obj.isFreed_of_dict h
 | ds=>obtain ⟨_,_,_,h,_⟩:=h;exact Obj.isFreed_of_dict h
structure HP where
 o:Addr→Option CO
 g:Array GenState
noncomputable def HP.put (H:HP) (a:Addr) (c:CO):HP:={ H with o:=fun b=>if b=a then some c else H.o b }
theorem xe02  {P0 P1:Prop}{C:Prop}(h:P0∧P1) (k:P0→P1→C):C:=by obtain ⟨p0,p1⟩:=h;exact k p0 p1
theorem xe03  {P0 P1 P2:Prop}{C:Prop}(h:P0∧P1∧P2) (k:P0→P1→P2→C):C:=by obtain ⟨p0,p1,p2⟩:=h;exact k p0 p1 p2
theorem xe04  {P0 P1 P2 P3:Prop}{C:Prop}(h:P0∧P1∧P2∧P3) (k:P0→P1→P2→P3→C):C:=by obtain ⟨p0,p1,p2,p3⟩:=h;exact k p0 p1 p2 p3
theorem xe05  {P0 P1 P2 P3 P4:Prop}{C:Prop}(h:P0∧P1∧P2∧P3∧P4) (k:P0→P1→P2→P3→P4→C):C:=by obtain ⟨p0,p1,p2,p3,p4⟩:=h;exact k p0 p1 p2 p3 p4
theorem xe06  {P0 P1 P2 P3 P4 P5:Prop}{C:Prop}(h:P0∧P1∧P2∧P3∧P4∧P5) (k:P0→P1→P2→P3→P4→P5→C):C:=by obtain ⟨p0,p1,p2,p3,p4,p5⟩:=h;exact k p0 p1 p2 p3 p4 p5
theorem xe11 {α:Sort u0}{P0:α→Prop}{C:Prop}(h:∃ a,P0 a) (k:∀ a,P0 a→C):C:=by obtain ⟨a,p0⟩:=h;exact k a p0
theorem xe12 {α:Sort u0}{P0 P1:α→Prop}{C:Prop}(h:∃ a,P0 a∧P1 a) (k:∀ a,P0 a→P1 a→C):C:=by obtain ⟨a,p0,p1⟩:=h;exact k a p0 p1
theorem xe13 {α:Sort u0}{P0 P1 P2:α→Prop}{C:Prop}(h:∃ a,P0 a∧P1 a∧P2 a) (k:∀ a,P0 a→P1 a→P2 a→C):C:=by obtain ⟨a,p0,p1,p2⟩:=h;exact k a p0 p1 p2
theorem xe14 {α:Sort u0}{P0 P1 P2 P3:α→Prop}{C:Prop}(h:∃ a,P0 a∧P1 a∧P2 a∧P3 a) (k:∀ a,P0 a→P1 a→P2 a→P3 a→C):C:=by obtain ⟨a,p0,p1,p2,p3⟩:=h;exact k a p0 p1 p2 p3
theorem xe16 {α:Sort u0}{P0 P1 P2 P3 P4 P5:α→Prop}{C:Prop}(h:∃ a,P0 a∧P1 a∧P2 a∧P3 a∧P4 a∧P5 a) (k:∀ a,P0 a→P1 a→P2 a→P3 a→P4 a→P5 a→C):C:=by obtain ⟨a,p0,p1,p2,p3,p4,p5⟩:=h;exact k a p0 p1 p2 p3 p4 p5
theorem xe21 {α:Sort u0}{β:Sort u1}{P0:α→β→Prop}{C:Prop}(h:∃ a b,P0 a b) (k:∀ a b,P0 a b→C):C:=by obtain ⟨a,b,p0⟩:=h;exact k a b p0
theorem xe22 {α:Sort u0}{β:Sort u1}{P0 P1:α→β→Prop}{C:Prop}(h:∃ a b,P0 a b∧P1 a b) (k:∀ a b,P0 a b→P1 a b→C):C:=by obtain ⟨a,b,p0,p1⟩:=h;exact k a b p0 p1
theorem xe23 {α:Sort u0}{β:Sort u1}{P0 P1 P2:α→β→Prop}{C:Prop}(h:∃ a b,P0 a b∧P1 a b∧P2 a b) (k:∀ a b,P0 a b→P1 a b→P2 a b→C):C:=by obtain ⟨a,b,p0,p1,p2⟩:=h;exact k a b p0 p1 p2
theorem xe24 {α:Sort u0}{β:Sort u1}{P0 P1 P2 P3:α→β→Prop}{C:Prop}(h:∃ a b,P0 a b∧P1 a b∧P2 a b∧P3 a b) (k:∀ a b,P0 a b→P1 a b→P2 a b→P3 a b→C):C:=by obtain ⟨a,b,p0,p1,p2,p3⟩:=h;exact k a b p0 p1 p2 p3
theorem xe26 {α:Sort u0}{β:Sort u1}{P0 P1 P2 P3 P4 P5:α→β→Prop}{C:Prop}(h:∃ a b,P0 a b∧P1 a b∧P2 a b∧P3 a b∧P4 a b∧P5 a b) (k:∀ a b,P0 a b→P1 a b→P2 a b→P3 a b→P4 a b→P5 a b→C):C:=by obtain ⟨a,b,p0,p1,p2,p3,p4,p5⟩:=h;exact k a b p0 p1 p2 p3 p4 p5
theorem xe32 {α:Sort u0}{β:Sort u1}{γ:Sort u2}{P0 P1:α→β→γ→Prop}{C:Prop}(h:∃ a b c,P0 a b c∧P1 a b c) (k:∀ a b c,P0 a b c→P1 a b c→C):C:=by obtain ⟨a,b,c,p0,p1⟩:=h;exact k a b c p0 p1
theorem xe33 {α:Sort u0}{β:Sort u1}{γ:Sort u2}{P0 P1 P2:α→β→γ→Prop}{C:Prop}(h:∃ a b c,P0 a b c∧P1 a b c∧P2 a b c) (k:∀ a b c,P0 a b c→P1 a b c→P2 a b c→C):C:=by obtain ⟨a,b,c,p0,p1,p2⟩:=h;exact k a b c p0 p1 p2
theorem xe34 {α:Sort u0}{β:Sort u1}{γ:Sort u2}{P0 P1 P2 P3:α→β→γ→Prop}{C:Prop}(h:∃ a b c,P0 a b c∧P1 a b c∧P2 a b c∧P3 a b c) (k:∀ a b c,P0 a b c→P1 a b c→P2 a b c→P3 a b c→C):C:=by obtain ⟨a,b,c,p0,p1,p2,p3⟩:=h;exact k a b c p0 p1 p2 p3
theorem xe36 {α:Sort u0}{β:Sort u1}{γ:Sort u2}{P0 P1 P2 P3 P4 P5:α→β→γ→Prop}{C:Prop}(h:∃ a b c,P0 a b c∧P1 a b c∧P2 a b c∧P3 a b c∧P4 a b c∧P5 a b c) (k:∀ a b c,P0 a b c→P1 a b c→P2 a b c→P3 a b c→P4 a b c→P5 a b c→C):C:=by obtain ⟨a,b,c,p0,p1,p2,p3,p4,p5⟩:=h;exact k a b c p0 p1 p2 p3 p4 p5
theorem xe37 {α:Sort u0}{β:Sort u1}{γ:Sort u2}{P0 P1 P2 P3 P4 P5 P6:α→β→γ→Prop}{C:Prop}(h:∃ a b c,P0 a b c∧P1 a b c∧P2 a b c∧P3 a b c∧P4 a b c∧P5 a b c∧P6 a b c) (k:∀ a b c,P0 a b c→P1 a b c→P2 a b c→P3 a b c→P4 a b c→P5 a b c→P6 a b c→C):C:=by obtain ⟨a,b,c,p0,p1,p2,p3,p4,p5,p6⟩:=h;exact k a b c p0 p1 p2 p3 p4 p5 p6
theorem xe44 {α:Sort u0}{β:Sort u1}{γ:Sort u2}{δ:Sort u3}{P0 P1 P2 P3:α→β→γ→δ→Prop}{C:Prop}(h:∃ a b c d,P0 a b c d∧P1 a b c d∧P2 a b c d∧P3 a b c d) (k:∀ a b c d,P0 a b c d→P1 a b c d→P2 a b c d→P3 a b c d→C):C:=by obtain ⟨a,b,c,d,p0,p1,p2,p3⟩:=h;exact k a b c d p0 p1 p2 p3
theorem xe46 {α:Sort u0}{β:Sort u1}{γ:Sort u2}{δ:Sort u3}{P0 P1 P2 P3 P4 P5:α→β→γ→δ→Prop}{C:Prop}(h:∃ a b c d,P0 a b c d∧P1 a b c d∧P2 a b c d∧P3 a b c d∧P4 a b c d∧P5 a b c d) (k:∀ a b c d,P0 a b c d→P1 a b c d→P2 a b c d→P3 a b c d→P4 a b c d→P5 a b c d→C):C:=by obtain ⟨a,b,c,d,p0,p1,p2,p3,p4,p5⟩:=h;exact k a b c d p0 p1 p2 p3 p4 p5
theorem xe55 {α:Sort u0}{β:Sort u1}{γ:Sort u2}{δ:Sort u3}{ε:Sort u4}{P0 P1 P2 P3 P4:α→β→γ→δ→ε→Prop}{C:Prop}(h:∃ a b c d e,P0 a b c d e∧P1 a b c d e∧P2 a b c d e∧P3 a b c d e∧P4 a b c d e) (k:∀ a b c d e,P0 a b c d e→P1 a b c d e→P2 a b c d e→P3 a b c d e→P4 a b c d e→C):C:=by obtain ⟨a,b,c,d,e,p0,p1,p2,p3,p4⟩:=h;exact k a b c d e p0 p1 p2 p3 p4
theorem sub_step {n k j:Nat}(h:n - k=j+1):n - (k+1)=j:=(Nat.sub_succ n k).trans (congrArg Nat.pred h)
theorem lt_sub {n k j:Nat}(h:n - k=j+1):k<n:=Nat.lt_of_sub_eq_succ h
theorem le_sub0 {n k:Nat}(h:n - k=0) (hk:k≤n):k=n:=Nat.le_antisymm hk (Nat.sub_eq_zero_iff_le.mp h)
theorem mod256 {z:Int}(h0:0≤z) (h1:z<256):((z.toNat % 256:Nat):Int)=z:=by rw [Nat.mod_eq_of_lt ((Int.toNat_lt h0).mpr h1),Int.toNat_of_nonneg h0]
theorem no_ns {α:Type u}{x:α}{P:Prop}(h:none=some x):P:=nomatch h
theorem no_sn {α:Type u}{x:α}{P:Prop}(h:some x=none):P:=nomatch h
theorem no_ft {P:Prop}(h:false=true):P:=nomatch h
theorem no_tf {P:Prop}(h:true=false):P:=nomatch h
theorem HP.fne {H:HP}{a b:Addr}{c:CO}(h:H.o a=none) (k:H.o b=some c):a≠b:=fun q=>no_ns (h.symm.trans (q▸k))
theorem HP.put_same {H:HP}{a:Addr}{c:CO}:(H.put a c).o a=some c:=if_pos rfl
theorem HP.put_ne {H:HP}{a b:Addr}{c:CO}{r:Option CO}(h:b≠a) (e:H.o b=r):(H.put a c).o b=r:=(if_neg h).trans e
theorem HP.put_fresh {H:HP}{a b:Addr}{c d:CO}(f:H.o a=none) (e:H.o b=some d):(H.put a c).o b=some d:=
 HP.put_ne ((HP.fne f e).symm) e
noncomputable def Ext (H H':HP):Prop:=(∀ a c,H.o a=some c→H'.o a=some c)
structure Glb where
 prog:Program
 w:World
 K:Frag
 base:Heap
 os:OsState
 d:Drawn
 p:Program
 loose:List Str
 mg:Str→Option Value
 mb:Str→Option Value
 X:K.In base
 T:TopRead p loose mg mb base
 low:sysModules<base.objs.size
 bmain:∃ bm ob,mg "__builtins__" = some (.ref bm)∧bm≠builtinsNs∧base.get? bm=some ob∧ob.cls=.type "module"∧ob.dict=some builtinsNs∧ob.data=.plain
 gtab:List (Str × Value)
 gok:∀ x∈gtab,(mg x.1=some x.2∨(mg x.1=none∧mb x.1=some x.2))∧er x.2=x.2
noncomputable abbrev Glb.M (G:Glb):Model:=model G.prog G.w
noncomputable abbrev Sv:=List (Addr × (Str→Option Value))
noncomputable abbrev Pr:=List (Addr × Obj)
noncomputable def Off (G:Glb) (a:Addr):Prop:=G.base.get? a=none∧sysModules<a
inductive ObAt (G:Glb) (h:Heap) (a:Addr) (co:CO):Prop where
 | mk (o:Obj) (ho:h.get? a=some o) (hr:OR G.prog G.w co o)
structure OwnAt (G:Glb) (sv:Sv) (h:Heap) (a:Addr) (co:CO):Prop where
 off:Off G a
 nsv:a∉sv.map (·.1)
 ob:ObAt G h a co
structure ProtAt (G:Glb) (sv:Sv) (ho:Addr→Option CO) (h:Heap) (p:Addr × Obj):Prop where
 get:h.get? p.1=some p.2
 off:Off G p.1
 nsv:p.1∉sv.map (·.1)
 no:ho p.1=none
structure RelC (G:Glb) (stk:List Env) (sv:Sv) (pr:Pr) (H:HP) (s:Shared):Prop where
 base:G.base.StaysIn s.heap
 frames:s.heap.FunFrames G.base stk
 fsv:∀ env∈stk,∀ f,env.frame=some f→f∈sv.map (·.1)
 ns:∀ p∈sv,s.heap.Ns p.1 p.2∧G.base.objs.size≤p.1
 nd:(sv.map (·.1)).Nodup
 own:∀ a co,H.o a=some co→OwnAt G sv s.heap a co
 prot:∀ p∈pr,ProtAt G sv H.o s.heap p
 gens:s.gens=H.g
 bare:AllBare H.g
 os:s.os=G.os
section
variable {G:Glb}{stk:List Env}{sv:Sv}{pr:Pr}{H:HP}{s:Shared}
theorem RelC.big (R:RelC G stk sv pr H s) {p:Addr × (Str→Option Value)}(hp:p∈sv):G.base.objs.size≤s.heap.objs.size:=
 Nat.le_trans (R.ns p hp).2 (Nat.le_of_lt (R.ns p hp).1.lt)
theorem RelC.toks (R:RelC G stk sv pr H s) (n:Nat):RelC G stk sv pr H { s with toks:=n }:=
 ⟨R.base,R.frames,R.fsv,R.ns,R.nd,R.own,R.prot,R.gens,R.bare,R.os⟩
theorem base_none {base:Heap}{a:Addr}(h:base.objs.size≤a):base.get? a=none:=by
 rcases q:base.get? a with _ | o
 · rfl
 · exact absurd (Heap.lt_size q) (Nat.not_lt.mpr h)
theorem Off.of {G:Glb}{a:Addr}(h:G.base.objs.size≤a):Off G a:=⟨base_none h,Nat.lt_of_lt_of_le G.low h⟩
theorem ns_keeps {h h':Heap}{a:Addr}{mm:Str→Option Value}(x:h.Ns a mm) (k:∀ o,h.get? a=some o→h'.get? a=some o):h'.Ns a mm:=
 let ⟨o,es,ep,ho,r⟩:=x;⟨o,es,ep,k o ho,r⟩
theorem frames_keeps {h h' base:Heap}{l:List Env}(x:h.FunFrames base l) (k:∀ b o,h.get? b=some o→b∈l.filterMap (·.frame)→∃ o',h'.get? b=some o'∧((∀ vs,o.data≠.fields vs)→∀ vs,o'.data≠.fields vs)):h'.FunFrames base l:=by
 induction l with
 | nil=>trivial
 | cons env rest ih=>
   obtain ⟨hk,⟨L,o,hf,hn,ho,hd⟩,hr⟩:=x
   have e:(env::rest).filterMap (·.frame)=L::rest.filterMap (·.frame):=by rw [List.filterMap_cons,hf]
   rw [e] at k
   obtain ⟨o',ho',hd'⟩:=k L o ho (.head _)
   exact ⟨hk,⟨L,o',hf,hn,ho',hd' hd⟩,ih hr fun b o hb hm=>k b o hb (.tail _ hm)⟩
theorem RelC.frame_mem (R:RelC G stk sv pr H s) {b:Addr}(hb:b∈stk.filterMap (·.frame)):b∈sv.map (·.1):=by
 obtain ⟨env,he,hf⟩:=List.mem_filterMap.mp hb
 exact R.fsv env he b hf
theorem RelC.own_base (R:RelC G stk sv pr H s) {a:Addr}{co:CO}(h:H.o a=some co):G.base.get? a=none:=(R.own a co h).off.1
theorem RelC.sv_base (R:RelC G stk sv pr H s) {a:Addr}(h:a∈sv.map (·.1)):G.base.get? a=none:=by
 obtain ⟨p,hp,rfl⟩:=List.mem_map.mp h
 exact base_none (R.ns p hp).2
theorem RelC.get (R:RelC G stk sv pr H s) {a:Addr}{co:CO}(h:H.o a=some co):ObAt G s.heap a co:=(R.own a co h).3
theorem RelC.fresh (R:RelC G stk sv pr H s):H.o s.heap.objs.size=none:=by
 rcases q:H.o s.heap.objs.size with _ | co
 · rfl
 ·
   obtain ⟨o,ho,_⟩:=R.get q
   exact absurd (Heap.lt_size ho) (Nat.lt_irrefl _)
theorem RelC.grow (R:RelC G stk sv pr H s) {h':Heap}{tk:Nat}{dr:Drawn}{H':HP}(k:∀ b o,s.heap.get? b=some o→h'.get? b=some o)
   (hH:∀ a co,H'.o a=some co→H.o a=some co∨(Off G a∧a∉sv.map (·.1)∧a∉pr.map (·.1)∧ObAt G h' a co)) (hg:H'.g=H.g):RelC G stk sv pr H' { s with heap:=h',toks:=tk,drawn:=dr } where
 base:=fun b o e=>k b o (R.base b o e)
 frames:=frames_keeps R.frames fun b o e _=>⟨o,k b o e,id⟩
 fsv:=R.fsv
 ns:=fun p hp=>⟨ns_keeps (R.ns p hp).1 fun o e=>k _ o e,(R.ns p hp).2⟩
 nd:=R.nd
 own:=fun a co e=>(hH a co e).elim (fun e=>let ⟨x,y,o,z,u⟩:=R.own a co e;⟨x,y,o,k _ _ z,u⟩) fun ⟨x,y,_,z⟩=>⟨x,y,z⟩
 prot:=fun p hp=>by
   obtain ⟨x,y,z,u⟩:=R.prot p hp
   refine ⟨k _ _ x,y,z,?_⟩
   rcases q:H'.o p.1 with _ | co
   · rfl
   ·
     rcases hH _ _ q with e | ⟨_,_,e,_⟩
     · rw [u] at e;exact no_ns e
     · exact absurd (List.mem_map_of_mem hp) e
 gens:=R.gens.trans hg.symm
 bare:=hg▸R.bare
 os:=R.os
theorem RelC.push (R:RelC G stk sv pr H s) {p:Addr × (Str→Option Value)}(hp:p∈sv) {o:Obj}{co:CO}(h:OR G.prog G.w co o) :
   RelC G stk sv pr (H.put s.heap.objs.size co) { s with heap:=s.heap.push o }:=
 R.grow (tk:=s.toks) (dr:=s.drawn) (fun b o' e=>Heap.get?_push_of_some _ e) (fun a c e=>by
   by_cases q:a=s.heap.objs.size
   · subst q
     rw [HP.put_same] at e;obtain rfl:=Option.some.inj e
     refine .inr ⟨.of (R.big hp),fun hm=>?_,fun hm=>?_,o,Heap.get?_push_size _ h.free,h⟩
     · obtain ⟨p',hp',e'⟩:=List.mem_map.mp hm
       exact absurd (R.ns p' hp').1.lt (by rw [e'];exact Nat.lt_irrefl _)
     · obtain ⟨p',hp',e'⟩:=List.mem_map.mp hm
       exact absurd (Heap.lt_size (R.prot p' hp').1) (by rw [e'];exact Nat.lt_irrefl _)
   · rw [HP.put_ne q rfl] at e;exact .inl e) rfl
theorem RelC.guard (R:RelC G stk sv pr H s) {a:Addr}{o:Obj}(x:s.heap.get? a=some o) (y:Off G a) (z:a∉sv.map (·.1)) (u:H.o a=none):RelC G stk sv ((a,o)::pr) H s:=
 ⟨R.base,R.frames,R.fsv,R.ns,R.nd,R.own,fun p hp=>by
   rcases List.mem_cons.mp hp with rfl | hp
   · exact ⟨x,y,z,u⟩
   · exact R.prot p hp,R.gens,R.bare,R.os⟩
theorem RelC.unguard {p:Addr × Obj}(R:RelC G stk sv (p::pr) H s):RelC G stk sv pr H s:=
 ⟨R.base,R.frames,R.fsv,R.ns,R.nd,R.own,fun q hq=>R.prot q (.tail _ hq),R.gens,R.bare,R.os⟩
theorem RelC.but (R:RelC G stk sv pr H s) {h':Heap}{tk:Nat}(a:Addr) (k:∀ b o,b≠a→s.heap.get? b=some o→h'.get? b=some o) (x:G.base.get? a=none) (y:a∉sv.map (·.1)) (z:H.o a=none) (u:a∉pr.map (·.1)):RelC G stk sv pr H { s with heap:=h',toks:=tk } where
 base:=fun b o e=>k b o (fun q=>by rw [q,x] at e;exact no_ns e) (R.base b o e)
 frames:=frames_keeps R.frames fun b o e hm=>⟨o,k b o (fun q=>y (q▸R.frame_mem hm)) e,id⟩
 fsv:=R.fsv
 ns:=fun p hp=>⟨ns_keeps (R.ns p hp).1 fun o e=>k _ o (fun q=>y (q▸List.mem_map_of_mem hp)) e,(R.ns p hp).2⟩
 nd:=R.nd
 own:=fun b co e=>let ⟨x',y',o,z',u'⟩:=R.own b co e;⟨x',y',o,k _ _ ((HP.fne z e).symm) z',u'⟩
 prot:=fun p hp=>let ⟨x',y',z',u'⟩:=R.prot p hp;⟨k _ _ (fun q=>u (q▸List.mem_map_of_mem hp)) x',y',z',u'⟩
 gens:=R.gens
 bare:=R.bare
 os:=R.os
theorem RelC.junk (R:RelC G stk sv pr H s) {o:Obj}:RelC G stk sv pr H { s with heap:=s.heap.push o }:=
 R.grow (tk:=s.toks) (dr:=s.drawn) (fun b o' e=>Heap.get?_push_of_some _ e) (fun a c e=>.inl e) rfl
theorem RelC.upd (R:RelC G stk sv pr H s) {a:Addr}{co co':CO}{h':Heap}{tk:Nat}{o':Obj}(e:H.o a=some co) (k:∀ b,b≠a→h'.get? b=s.heap.get? b) (ha:h'.get? a=some o') (h:OR G.prog G.w co' o') :
   RelC G stk sv pr (H.put a co') { s with heap:=h',toks:=tk } where
 base:=fun b o x=>by rw [k b fun q=>by rw [q,R.own_base e] at x;cases x];exact R.base b o x
 frames:=frames_keeps R.frames fun b o x hm=>⟨o,by rw [k b fun q=>(R.own a co e).nsv (q▸R.frame_mem hm)];exact x,id⟩
 fsv:=R.fsv
 ns:=fun p hp=>⟨ns_keeps (R.ns p hp).1 fun o x=>by rw [k _ fun q=>(R.own a co e).nsv (q▸List.mem_map_of_mem hp)];exact x,(R.ns p hp).2⟩
 nd:=R.nd
 own:=fun b c x=>by
   by_cases q:b=a
   · subst q
     rw [HP.put_same] at x;obtain rfl:=Option.some.inj x
     exact ⟨(R.own b co e).1,(R.own b co e).nsv,o',ha,h⟩
   · rw [HP.put_ne q rfl] at x
     obtain ⟨y,z,o,u,v⟩:=R.own b c x
     exact ⟨y,z,o,(k b q).trans u,v⟩
 prot:=fun p hp=>by
   obtain ⟨x,y,z,u⟩:=R.prot p hp
   have q:p.1≠a:=HP.fne u e
   exact ⟨(k _ q).trans x,y,z,HP.put_ne q u⟩
 gens:=R.gens
 bare:=R.bare
 os:=R.os
theorem RelC.store {L:Addr}{mm mm':Str→Option Value}(R:RelC G stk ((L,mm)::sv) pr H s) {h':Heap}{tk:Nat}(hs:Heap.SameBut L s.heap h') (hn:h'.Ns L mm'):RelC G stk ((L,mm')::sv) pr H { s with heap:=h',toks:=tk } where
 base:=fun b o x=>by rw [hs.2 b fun q=>by rw [q,R.sv_base (.head _)] at x;cases x];exact R.base b o x
 frames:=frames_keeps R.frames fun b o x _=>by
   by_cases q:b=L
   · subst q
     obtain ⟨oL,es,ep,hL,hdL,_⟩:=hn
     exact ⟨oL,hL,fun _ vs e=>by rw [hdL] at e;cases e⟩
   · exact ⟨o,by rw [hs.2 b q];exact x,id⟩
 fsv:=R.fsv
 ns:=fun p hp=>by
   rcases List.mem_cons.mp hp with rfl | hp
   · exact ⟨hn,(R.ns (L,mm) (.head _)).2⟩
   · refine ⟨ns_keeps (R.ns p (.tail _ hp)).1 fun o x=>?_,(R.ns p (.tail _ hp)).2⟩
     have nd:=R.nd
     rw [List.map_cons,List.nodup_cons] at nd
     rw [hs.2 _ fun q=>nd.1 (List.mem_map.mpr ⟨p,hp,q⟩)];exact x
 nd:=R.nd
 own:=fun a co e=>by
   obtain ⟨x,y,o,z,u⟩:=R.own a co e
   exact ⟨x,y,o,by rw [hs.2 a fun q=>y (q▸.head _)];exact z,u⟩
 prot:=fun p hp=>by
   obtain ⟨x,y,z,u⟩:=R.prot p hp
   exact ⟨by rw [hs.2 _ fun q=>z (q▸.head _)];exact x,y,z,u⟩
 gens:=R.gens
 bare:=R.bare
 os:=R.os
end
end Mine
end
section
open PySem PySem.W PyProof.Rows PySem.Calls
set_option genInjectivity false
set_option genSizeOf false
namespace Mine
inductive Nm where
 | loc (v:Option Value)
 | cel (c:Addr)
 | glo (v:Value)
noncomputable abbrev Names:=List (Str × Nm)
noncomputable def NmOk (G:Glb) (env:Env) (mm:Str→Option Value) (p:Str × Nm):Prop:=
 (p.1==("__debug__" : Str))=false∧(p.1==("__classdict__" : Str))=false∧(match p.2 with
   | .loc v=>env.kindOf p.1=some .local∧(mm p.1).map er=v
   | .cel c=>(env.kindOf p.1=some .cell∨env.kindOf p.1=some .free)∧env.cells.lookup p.1=some c
   | .glo v=>env.kindOf p.1=some .globalImplicit∧(G.mg p.1=some v∨(G.mg p.1=none∧G.mb p.1=some v))∧er v=v)
structure MOk (G:Glb) (env:Env) (mm:Str→Option Value) (m:Names):Prop where
 ok:∀ p∈m,NmOk G env mm p
 nd:(m.map (·.1)).Nodup
structure Sit where
 A:Around
 stk:List Env
 sv:Sv
 pr:Pr
 L:Addr
 env:Env
structure Sit.Ok (G:Glb) (S:Sit):Prop where
 kind:S.env.scope.kind=.function
 loc:S.env.locals=S.L
 glob:S.env.globals=mainGlobals
 blt:S.env.builtins=builtinsNs
 frames:S.A.frames=some S.stk
 co:S.env.scope.isCoroutine=false
 top:∃ e₀ r f,S.stk=e₀::r∧e₀.frame=some f∧S.env.frame=some f
inductive TbAt (G:Glb) (fr:Option Addr) (pr:Pr) (H:HP) (a:Addr) (vs:Array Value) (s:Shared):Prop where
 | mk (T:Addr) (oT:Obj) (ts:Array Value) (h1:vs[1]? = some (.ref T)) (h2:T≠a) (h3:Off G T) (h4:H.o T=none) (h5:T∉pr.map (·.1)) (h6:s.heap.get? T=some oT) (h7:oT.data=.fields ts)
     (h8:ts[3]? = some .none∨∃ f,fr=some f∧ts[3]? = some (rawInt f))
inductive ExcAt (G:Glb) (fr:Option Addr) (pr:Pr) (H:HP) (e:Value) (cls:Value) (s:Shared):Prop where
 | mk (a:Addr) (oe:Obj) (vs:Array Value) (h0:e=.ref a) (h1:s.heap.get? a=some oe) (h2:oe.cls=cls) (h3:oe.data=.fields vs) (h4:Off G a) (h5:H.o a=none) (h6:a∉pr.map (·.1))
     (h7:vs[1]? = some .none∨TbAt G fr pr H a vs s)
inductive Post (G:Glb) (S:Sit) {α:Type}(K:α→Names→HP→Prop) (v:α) (s':Shared):Prop where
 | mk (m':Names) (H':HP) (mm':Str→Option Value) (M':MOk G S.env mm' m') (R':RelC G S.stk ((S.L,mm')::S.sv) S.pr H' s') (k':K v m' H')
inductive PostX (G:Glb) (S:Sit) (X:Value→Names→HP→Prop) (e:Value) (s':Shared):Prop where
 | mk (m':Names) (H':HP) (mm':Str→Option Value) (cls:Value) (M':MOk G S.env mm' m') (R':RelC G S.stk ((S.L,mm')::S.sv) S.pr H' s') (e':ExcAt G S.env.frame S.pr H' e cls s') (k':X cls m' H')
theorem Post.to {G:Glb}{S:Sit}{α β:Type}{K:α→Names→HP→Prop}{K':β→Names→HP→Prop}{v:α}{w:β}{s:Shared}(h:Post G S K v s) (f:∀ m H,K v m H→K' w m H):Post G S K' w s:=by
 cases h with | mk m H mm M R k=>exact ⟨m,H,mm,M,R,f m H k⟩
theorem PostX.sit {G:Glb}{S S':Sit}{X:Value→Names→HP→Prop}{v:Value}{s:Shared}(h:PostX G S X v s) (e1:S'.env=S.env:=by rfl) (e2:S'.stk=S.stk:=by rfl) (e3:S'.L=S.L:=by rfl) (e4:S'.sv=S.sv:=by rfl) (e5:S'.pr=S.pr:=by rfl):PostX G S' X v s:=by
 cases h with | mk m H mm c M R x k=>exact ⟨m,H,mm,c,e1▸M,by rw [e2,e3,e4,e5];exact R,by rw [e1,e5];exact x,k⟩
noncomputable abbrev KV:=Value→Names→HP→Prop
noncomputable abbrev KF:=Flow→Names→HP→Prop
noncomputable def W (G:Glb) (S:Sit) {α:Type}(t:Sem α) (K:α→Names→HP→Prop) (X:KV) (m:Names) (H:HP):Prop:=
 ∀ s mm,MOk G S.env mm m→RelC G S.stk ((S.L,mm)::S.sv) S.pr H s→wpAny G.M S.A t (Post G S K) (PostX G S X) s
section
variable {G:Glb}{S:Sit}{α β:Type}{X:KV}{m:Names}{H:HP}
theorem W.bind {t:Sem α}{f:α→Sem β}{K:β→Names→HP→Prop}(h:W G S t (fun v=>W G S (f v) K X) X m H):W G S (t >>= f) K X m H:=
 fun s mm M R=>wpAny_bind (wpAny_mono (h s mm M R) (fun v s' ⟨m',H',mm',M',R',k⟩=>k s' mm' M' R') fun _ _ x=>x)
theorem W.pure {a:α}{K:α→Names→HP→Prop}(h:K a m H):W G S (pure a) K X m H:=fun s mm M R=>wpAny_pure ⟨m,H,mm,M,R,h⟩
theorem W.mono {t:Sem α}{K K':α→Names→HP→Prop}{X':KV}(h:W G S t K X m H) (hK:∀ v m H,K v m H→K' v m H) (hX:∀ v m H,X v m H→X' v m H):W G S t K' X' m H:=
 fun s mm M R=>wpAny_mono (h s mm M R) (fun v s' ⟨m',H',mm',M',R',k⟩=>⟨m',H',mm',M',R',hK _ _ _ k⟩) fun v s' ⟨m',H',mm',c,M',R',e,k⟩=>⟨m',H',mm',c,M',R',e,hX _ _ _ k⟩
theorem W.post {t:Sem α}{K K':α→Names→HP→Prop}(h:W G S t K X m H) (hK:∀ v m H,K v m H→K' v m H):W G S t K' X m H:=h.mono hK fun _ _ _ x=>x
theorem W.holding {vs:List Value}{t:Sem α}{K:α→Names→HP→Prop}(h:W G S t K X m H):W G S (holding vs t) K X m H:=fun s mm M R=>wpAny_holding (h s mm M R)
theorem W.standAt {p:Pos}{K:Unit→Names→HP→Prop}(h:K () m H):W G S (standAt p) K X m H:=fun s mm M R=>wpAny_standAt ⟨m,H,mm,M,R,h⟩
theorem W.point {K:Unit→Names→HP→Prop}(h:K () m H):W G S point K X m H:=fun s mm M R=>wpAny_point ⟨m,H,mm,M,R,h⟩
theorem W.release {vs ks:List Value}{K:Unit→Names→HP→Prop}(h:K () m H):W G S (release vs ks) K X m H:=fun s mm M R Γ p hΓ=>by
 rw [Sem.wp_release];exact ⟨m,H,mm,M,R,h⟩
theorem W.operate {vs:List Value}{t:Sem Value}{K:KV}(h:W G S t K X m H):W G S (operate vs t) K X m H:=fun s mm M R Γ p hΓ=>by
 rw [Sem.wp_operate];exact h s mm M R Γ p hΓ
theorem W.eq {t t':Sem α}{K:α→Names→HP→Prop}(e:t=t') (h:W G S t' K X m H):W G S t K X m H:=e▸h
end
noncomputable abbrev WV (G:Glb) (S:Sit) (t:Sem Value) (K:KV) (X:KV) (m:Names) (H:HP):Prop:=W G S t (fun v=>K (er v)) X m H
noncomputable abbrev WE (G:Glb) (S:Sit) (e:Expr) (K:KV) (X:KV) (m:Names) (H:HP):Prop:=W G S (eval e S.env) (fun v=>K (er v)) X m H
noncomputable abbrev WT (G:Glb) (S:Sit) (e:Expr) (K:Bool→Names→HP→Prop) (X:KV) (m:Names) (H:HP):Prop:=W G S (isTrue e S.env (eval e S.env)) K X m H
noncomputable def erF:Flow→Flow
 | .ret v=>.ret (er v)
 | f=>f
noncomputable abbrev WS (G:Glb) (S:Sit) (l:List Stmt) (K:KF) (X:KV) (m:Names) (H:HP):Prop:=W G S (execs l S.env) (fun f=>K (erF f)) X m H
noncomputable abbrev WX (G:Glb) (S:Sit) (l:Stmt) (K:KF) (X:KV) (m:Names) (H:HP):Prop:=W G S (exec l S.env) (fun f=>K (erF f)) X m H
noncomputable def OpC (G:Glb) (S:Sit) (f:Value→Value→Sem Value) (a b:Value) (K:KV) (X:KV) (m:Names) (H:HP):Prop:=∀ r₁ r₂,er r₁=a→er r₂=b→WV G S (f r₁ r₂) K X m H
noncomputable def Op1 (G:Glb) (S:Sit) {α:Type}(f:Value→Sem α) (a:Value) (K:α→Names→HP→Prop) (X:KV) (m:Names) (H:HP):Prop:=∀ r,er r=a→W G S (f r) K X m H
noncomputable abbrev BinC (G:Glb) (S:Sit) (op:Operator):=OpC G S (binaryOp op)
noncomputable abbrev InpC (G:Glb) (S:Sit) (op:Operator):=OpC G S (inplaceOp op)
noncomputable abbrev CmpC (G:Glb) (S:Sit) (op:CmpOp):=OpC G S (compareOp op)
noncomputable abbrev TruC (G:Glb) (S:Sit) (a:Value) (K:Bool→Names→HP→Prop):=Op1 G S truthy a K
section
variable {G:Glb}{S:Sit}{X:KV}{m:Names}{H:HP}{K:KV}{KB:Bool→Names→HP→Prop}{KFl:KF}
theorem loadNm {x:Str}(O:S.Ok G) {n:Nm}(hm:(x,n)∈m) {v:Value}(hv:n=.loc (some v)∨n=.glo v∨∃ c,n=.cel c∧H.o c=some (.cell (some v))) (h:K v m H):WV G S (loadName S.env x) K X m H:=by
 intro s mm M R
 refine xe03 (M.ok _ hm) fun h1 h2 h3=>?_
 rcases hv with rfl | rfl | ⟨c,rfl,hc⟩
 · refine xe02 h3 fun h4 h5=>?_
   refine xe12 (Option.map_eq_some_iff.mp h5) fun rv h6 h7=>?_
   refine wpAny_loadName_local O.kind h4 (O.loc▸(R.ns _ (.head _)).1) h6 ⟨m,H,mm,M,R,?_⟩
   show K (er rv) m H
   rw [h7];exact h
 · refine xe03 h3 fun h4 h5 h6=>?_
   have fin:wpAny G.M S.A (loadGlobal S.env x) (Post G S fun v=>K (er v)) (PostX G S X) s:=by
     have q:Post G S (fun v=>K (er v)) v s:=⟨m,H,mm,M,R,by show K (er v) m H;rw [h6];exact h⟩
     rcases h5 with h5 | ⟨h5,h7⟩
     · exact loadGlobal_global (by rw [O.glob];exact G.T.g.keeps R.base) h5 q
     · exact loadGlobal_builtin (by rw [O.glob];exact G.T.g.keeps R.base) h5 (by rw [O.blt];exact G.T.b.keeps R.base) h7 q
   rw [loadName_read O.kind h4]
   exact fin
 · refine xe02 h3 fun h4 h5=>?_
   obtain ⟨o,ho,rv,rfl,h6⟩:=R.get hc
   refine xe12 (Option.map_eq_some_iff.mp h6) fun rv' zq1 h7=>?_
   obtain rfl:=zq1
   have q:Post G S (fun v=>K (er v)) rv' s:=⟨m,H,mm,M,R,by show K (er rv') m H;rw [h7];exact h⟩
   rcases h4 with h4 | h4
   · exact wpAny_loadName_cell O.kind h4 h5 ⟨_,ho,rfl⟩ q
   · exact wpAny_loadName_free O.kind h4 h5 ⟨_,ho,rfl⟩ q h2
theorem e_name {x:Str}{p:Pos}(O:S.Ok G) {n:Nm}(hm:(x,n)∈m) {v:Value}(hv:n=.loc (some v)∨n=.glo v∨∃ c,n=.cel c∧H.o c=some (.cell (some v))) (h:K v m H):WE G S (.Name x p) K X m H:=by
 intro s mm M R
 exact wpAny_Name (loadNm O hm hv h s mm M R) (M.ok _ hm).1
theorem e_loc {x:Str}{p:Pos}{v:Value}(O:S.Ok G) (hm:(x,Nm.loc (some v))∈m) (h:K v m H):WE G S (.Name x p) K X m H:=e_name O hm (.inl rfl) h
theorem e_glo {x:Str}{p:Pos}{v:Value}(O:S.Ok G) (hm:(x,Nm.glo v)∈m) (h:K v m H):WE G S (.Name x p) K X m H:=e_name O hm (.inr (.inl rfl)) h
theorem e_cel {x:Str}{p:Pos}{c:Addr}{v:Value}(O:S.Ok G) (hm:(x,Nm.cel c)∈m) (hc:H.o c=some (.cell (some v))) (h:K v m H):WE G S (.Name x p) K X m H:=e_name O hm (.inr (.inr ⟨c,rfl,hc⟩)) h
inductive MSet (x:Str) (v:Value):Names→Names→Prop where
 | here {o:Option Value}{r:Names}:MSet x v ((x,.loc o)::r) ((x,.loc (some v))::r)
 | next {p:Str × Nm}{r r':Names}:MSet x v r r'→MSet x v (p::r) (p::r')
theorem MSet.names {x:Str}{v:Value}{m m':Names}(h:MSet x v m m'):m'.map (·.1)=m.map (·.1):=by
 induction h with
 | here=>rfl
 | next _ ih=>rw [List.map_cons,List.map_cons,ih]
theorem MSet.was {x:Str}{v:Value}{m m':Names}(h:MSet x v m m'):∃ o,(x,Nm.loc o)∈m:=by
 induction h with
 | here=>exact ⟨_,.head _⟩
 | next _ ih=>exact ⟨_,.tail _ ih.choose_spec⟩
theorem MSet.mem {x:Str}{v:Value}{m m':Names}(h:MSet x v m m') (nd:(m.map (·.1)).Nodup):∀ p∈m',p=(x,Nm.loc (some v))∨(p∈m∧p.1≠x):=by
 induction h with
 | @here o r=>
   intro p hp
   rw [List.map_cons,List.nodup_cons] at nd
   rcases List.mem_cons.mp hp with rfl | hp
   · exact .inl rfl
   · exact .inr ⟨.tail _ hp,fun e=>nd.1 (List.mem_map.mpr ⟨p,hp,e⟩)⟩
 | @next p₀ r r' h ih=>
   intro p hp
   rw [List.map_cons,List.nodup_cons] at nd
   rcases List.mem_cons.mp hp with rfl | hp
   · refine xe11 h.was fun o ho=>?_
     exact .inr ⟨.head _,fun e=>nd.1 (List.mem_map.mpr ⟨_,ho,e.symm⟩)⟩
   · exact (ih nd.2 p hp).imp id fun ⟨a,b⟩=>⟨.tail _ a,b⟩
theorem MOk.set {mm mm':Str→Option Value}{x:Str}{v:Value}{rv:Value}{m':Names}(M:MOk G S.env mm m) (h:MSet x v m m') (e:er rv=v) (hmm:∀ y,mm' y=if y=x then some rv else mm y):MOk G S.env mm' m' where
 nd:=by rw [h.names];exact M.nd
 ok:=fun p hp=>by
   rcases h.mem M.nd p hp with rfl | ⟨hp,hne⟩
   · refine xe11 h.was fun o ho=>?_
     refine xe04 (M.ok _ ho) fun h1 h2 h3 _=>?_
     exact ⟨h1,h2,h3,by rw [hmm,if_pos rfl];simp [e]⟩
   · refine xe03 (M.ok p hp) fun h1 h2 h3=>?_
     refine ⟨h1,h2,?_⟩
     obtain ⟨y,n⟩:=p
     rcases n with o | _ | _
     · exact ⟨h3.1,by rw [hmm,if_neg hne];exact h3.2⟩
     · exact h3
     · exact h3
theorem storeLoc' {x:Str}{v rv:Value}{m':Names}{KU:Unit→Names→HP→Prop}(hk:S.env.scope.kind=.function) (hloc:S.env.locals=S.L) (hs:MSet x v m m') (e:er rv=v) (h:KU () m' H):W G S (storeName S.env x rv) KU X m H:=by
 intro s mm M R
 refine xe11 hs.was fun o ho=>?_
 refine xe04 (M.ok _ ho) fun h1 h2 h3 h4=>?_
 refine wpAny_storeName_local h3 (hloc▸(R.ns _ (.head _)).1) (fun h' hn hsb=>?_) (by rw [hk];rfl)
 rw [hloc] at hn hsb
 exact ⟨m',H,_,M.set hs e fun y=>rfl,R.store hsb hn,h⟩
theorem storeLoc {x:Str}{v rv:Value}{m':Names}{KU:Unit→Names→HP→Prop}(O:S.Ok G) (hs:MSet x v m m') (e:er rv=v) (h:KU () m' H):W G S (storeName S.env x rv) KU X m H:=storeLoc' O.kind O.loc hs e h
theorem storeCel' {x:Str}{v rv:Value}{c:Addr}{o:Option Value}{KU:Unit→Names→HP→Prop}(hkd:S.env.scope.kind=.function) (hm:(x,Nm.cel c)∈m) (hc:H.o c=some (.cell o)) (e:er rv=v) (h:KU () m (H.put c (.cell (some v)))):W G S (storeName S.env x rv) KU X m H:=by
 intro s mm M R
 refine xe04 (M.ok _ hm) fun h1 h2 h3 h4=>?_
 obtain ⟨ob,hob,rv0,rfl,h6⟩:=R.get hc
 have hk:wpAny G.M S.A (cellSet c (some rv)) (Post G S KU) (PostX G S X) s:=by
   unfold cellSet
   refine wpAny_bind (wpAny_load hob ?_)
   dsimp only
   refine wpAny_update hob ⟨m,_,mm,M,R.upd hc (fun b hb=>Heap.get?_update_other _ _ (Ne.symm hb)) (Heap.get?_update_self _ hob rfl) (show OR _ _ (.cell (some v)) _ from ⟨some rv,rfl,by simp [e]⟩),h⟩
 unfold storeName
 rcases h3 with h3 | h3<;>rw [h3,hkd]<;>exact (wpAny_bind (wpAny_cellOf h4 hk):wpAny _ _ (cellOf S.env x >>= fun c=>cellSet c (some rv)) _ _ _)
theorem storeCel {x:Str}{v rv:Value}{c:Addr}{o:Option Value}{KU:Unit→Names→HP→Prop}(O:S.Ok G) (hm:(x,Nm.cel c)∈m) (hc:H.o c=some (.cell o)) (e:er rv=v) (h:KU () m (H.put c (.cell (some v)))):W G S (storeName S.env x rv) KU X m H:=storeCel' O.kind hm hc e h
theorem bindNm {x:Str}{rv:Value}{KU:Unit→Names→HP→Prop}(h:W G S (storeName S.env x rv) KU X m H):W G S (bindName S.env x rv) KU X m H:=fun s mm M R=>wpAny_bindName (h s mm M R)
theorem e_int {i:Int}{k:Nat}{p:Pos}(h:K (.int i 0) m H):WE G S (.Constant (.int i) k p) K X m H:=fun s mm M R=>wpAny_Constant_int ⟨m,H,mm,M,R.toks _,h⟩
theorem e_str {i:Str}{k:Nat}{p:Pos}(h:K (.str i 0) m H):WE G S (.Constant (.str i) k p) K X m H:=fun s mm M R=>Constant_str ⟨m,H,mm,M,R.toks _,h⟩
theorem e_bytes {i:List UInt8}{k:Nat}{p:Pos}(h:K (.bytes i.toArray 0) m H):WE G S (.Constant (.bytes i) k p) K X m H:=fun s mm M R Γ q hΓ=>⟨m,H,mm,M,R.toks _,h⟩
theorem e_none {k:Nat}{p:Pos}(h:K .none m H):WE G S (.Constant .none k p) K X m H:=fun s mm M R Γ q hΓ=>⟨m,H,mm,M,R,h⟩
theorem e_bool {b:Bool}{k:Nat}{p:Pos}(h:K (.bool b) m H):WE G S (.Constant (.bool b) k p) K X m H:=fun s mm M R Γ q hΓ=>⟨m,H,mm,M,R,h⟩
theorem e_bin {l r:Expr}{op:Operator}{p:Pos}(h:WE G S l (fun a=>WE G S r (fun b=>BinC G S op a b K X) X) X m H):WE G S (.BinOp l op r p) K X m H:=by
 refine W.eq (eval_BinOp ..) ?_
 exact W.bind (W.post h fun a m H h=>W.bind (W.holding (W.post h fun b m H h=>W.bind (W.standAt (W.operate (h a b rfl rfl))))))
theorem e_cmp {l r:Expr}{op:CmpOp}{p:Pos}(h:WE G S l (fun a=>WE G S r (fun b=>CmpC G S op a b K X) X) X m H) (hm:behindInMarks op r=false:=by with_unfolding_all rfl):WE G S (.Compare l [op] [r] p) K X m H:=by
 refine W.eq (eval_Compare1 ..) ?_
 rw [markedBehindIn_of_false hm]
 exact W.bind (W.post h fun a m H h=>W.bind (W.holding (W.post h fun b m H h=>W.bind (W.standAt (W.operate (h a b rfl rfl))))))
theorem t_cmp {l r:Expr}{op:CmpOp}{p:Pos}(h:WE G S l (fun a=>WE G S r (fun b=>CmpC G S op a b (fun c=>TruC G S c KB X) X) X) X m H) (hm:behindInMarks op r=false:=by with_unfolding_all rfl):WT G S (.Compare l [op] [r] p) KB X m H:=by
 refine W.eq (isTrue_Compare1 ..) ?_
 rw [markedBehindIn_of_false hm]
 exact W.bind (W.post h fun a m H h=>W.bind (W.holding (W.post h fun b m H h=>W.bind (W.standAt (W.bind (W.operate (W.post (h a b rfl rfl) fun c m H h=>W.holding (h c rfl))))))))
theorem t_not {x:Expr}{p:Pos}(h:WT G S x (fun b=>KB (!b)) X m H):WT G S (.UnaryOp .Not x p) KB X m H:=W.bind (W.post h fun b m H h=>W.pure h)
theorem t_and2 {x y:Expr}{p:Pos}(h:WT G S x (fun b m H=>if b=true then WT G S y KB X m H else KB false m H) X m H):WT G S (.BoolOp .And [x,y] p) KB X m H:=by
 refine W.bind (W.post h fun b m H h=>?_)
 rcases b with _ | _
 · exact W.pure h
 · exact W.bind (W.post h fun b m H h=>by cases b<;>exact W.pure h)
theorem t_or2 {x y:Expr}{p:Pos}(h:WT G S x (fun b m H=>if b=true then KB true m H else WT G S y KB X m H) X m H):WT G S (.BoolOp .Or [x,y] p) KB X m H:=by
 refine W.bind (W.post h fun b m H h=>?_)
 rcases b with _ | _
 · exact W.bind (W.post h fun b m H h=>by cases b<;>exact W.pure h)
 · exact W.pure h
theorem t_and3 {x y z:Expr}{p:Pos}(h:WT G S x (fun b m H=>if b=true then WT G S y (fun b m H=>if b=true then WT G S z KB X m H else KB false m H) X m H else KB false m H) X m H):WT G S (.BoolOp .And [x,y,z] p) KB X m H:=by
 refine W.bind (W.post h fun b m H h=>?_)
 rcases b with _ | _
 · exact W.pure h
 ·
   refine W.bind (W.post h fun b m H h=>?_)
   cases b with
   | false=>exact W.pure h
   | true=>exact W.bind (W.post h fun b m H h=>by cases b<;>exact W.pure h)
theorem t_or3 {x y z:Expr}{p:Pos}(h:WT G S x (fun b m H=>if b=true then KB true m H else WT G S y (fun b m H=>if b=true then KB true m H else WT G S z KB X m H) X m H) X m H):WT G S (.BoolOp .Or [x,y,z] p) KB X m H:=by
 refine W.bind (W.post h fun b m H h=>?_)
 rcases b with _ | _
 ·
   refine W.bind (W.post h fun b m H h=>?_)
   cases b with
   | true=>exact W.pure h
   | false=>exact W.bind (W.post h fun b m H h=>by cases b<;>exact W.pure h)
 · exact W.pure h
theorem e_ifexp {c a b:Expr}{p:Pos}(h:WT G S c (fun t m H=>if t=true then WE G S a K X m H else WE G S b K X m H) X m H):WE G S (.IfExp c a b p) K X m H:=by
 refine W.bind (W.post h fun t m H h=>?_)
 cases t<;>exact h
theorem x_if {c:Expr}{a b:List Stmt}{p:Pos}(h:WT G S c (fun t m H=>if t=true then WS G S a KFl X m H else WS G S b KFl X m H) X m H):WX G S (.If c a b p) KFl X m H:=by
 refine W.eq (exec_If ..) (W.bind (W.standAt (W.bind (W.post h fun t m H h=>?_))))
 cases t<;>exact h
theorem s_nil (h:KFl .next m H):WS G S [] KFl X m H:=W.pure h
noncomputable def seqK (G:Glb) (S:Sit) (r:List Stmt) (KFl:KF) (X:KV):KF:=fun f m H=>match f with | .next=>WS G S r KFl X m H | f=>KFl f m H
theorem seq_next {r:List Stmt}(h:WS G S r KFl X m H):seqK G S r KFl X .next m H:=h
theorem seq_ret {r:List Stmt}{v:Value}(h:KFl (.ret v) m H):seqK G S r KFl X (.ret v) m H:=h
theorem s_cons {st:Stmt}{r:List Stmt}(h:WX G S st (seqK G S r KFl X) X m H):WS G S (st::r) KFl X m H:=by
 refine W.eq (execs_cons ..) (W.bind (W.post h fun f m H h=>?_))
 cases f<;>first | exact h | exact W.pure h
theorem x_pass {p:Pos}(h:KFl .next m H):WX G S (.Pass p) KFl X m H:=W.bind (W.standAt (W.pure h))
theorem x_ret {e:Expr}{p:Pos}(h:WE G S e (fun v=>KFl (.ret v)) X m H):WX G S (.Return (some e) p) KFl X m H:=by
 refine W.eq (exec_Return_some ..) (W.bind (W.standAt (W.bind (W.post h fun v m H h=>W.pure h))))
theorem x_ret0 {p:Pos}(h:KFl (.ret .none) m H):WX G S (.Return none p) KFl X m H:=W.eq (exec_Return_none ..) (W.bind (W.standAt (W.pure h)))
theorem x_cont {p:Pos}(h:KFl .cont m H):WX G S (.Continue p) KFl X m H:=W.bind (W.standAt (W.pure h))
end
end Mine
end
section
open PySem PySem.W PyProof.Rows PySem.Calls
namespace Mine
section
variable {G:Glb}{S:Sit}{X:KV}{m:Names}{H:HP}{K:KV}{KB:Bool→Names→HP→Prop}{KFl:KF}{KU:Unit→Names→HP→Prop}
theorem letGo:W G S (runValue (.builtin "proto.let_go" {})) (fun _ m' H'=>m'=m∧H'=H) X m H:=by
 intro s mm M R
 refine wpAny_runValue (codeAny_builtin entry_let_go ?_)
 unfold Builtin.«proto.let_go»
 exact wpAny_pure (show Post G S _ _ _ from ⟨m,H,mm,M,R,rfl,rfl⟩)
theorem letTemp {e:Expr}{o r:Value}(h:KU () m H):W G S (letTemporaryGo e o r) KU X m H:=fun _ mm M R=>wpAny_letTemporaryGo ⟨m,H,mm,M,R,h⟩
theorem dropV {e:Expr}{p:Pos}{v:Value}(h:KFl .next m H):W G S (dropValue e p v) (fun f=>KFl (erF f)) X m H:=fun _ mm M R=>wpAny_dropValue ⟨m,H,mm,M,R,h⟩
noncomputable def StoC (G:Glb) (S:Sit) (x:Str) (v:Value) (KU:Unit→Names→HP→Prop) (X:KV) (m:Names) (H:HP):Prop:=∀ rv,er rv=v→W G S (storeName S.env x rv) KU X m H
theorem sto_loc {x:Str}{v:Value}{m':Names}(O:S.Ok G) (hs:MSet x v m m') (h:KU () m' H):StoC G S x v KU X m H:=fun _ e=>storeLoc O hs e h
theorem sto_cel {x:Str}{v:Value}{c:Addr}{o:Option Value}(O:S.Ok G) (hm:(x,Nm.cel c)∈m) (hc:H.o c=some (.cell o)) (h:KU () m (H.put c (.cell (some v)))):StoC G S x v KU X m H:=fun _ e=>storeCel O hm hc e h
noncomputable def AsgC (G:Glb) (S:Sit) (t:Expr) (v:Value) (KU:Unit→Names→HP→Prop) (X:KV) (m:Names) (H:HP):Prop:=∀ rv,er rv=v→W G S (assign t S.env rv) KU X m H
theorem a_name {x:Str}{p:Pos}{v:Value}(h:StoC G S x v KU X m H):AsgC G S (.Name x p) v KU X m H:=fun rv e=>W.bind (W.standAt (bindNm (h rv e)))
noncomputable def SetA (G:Glb) (S:Sit) (o:Value) (n:Str) (v:Value) (KU:Unit→Names→HP→Prop) (X:KV) (m:Names) (H:HP):Prop:=∀ ro rv,er ro=o→er rv=v→W G S (setAttr ro n rv) KU X m H
noncomputable def SetI (G:Glb) (S:Sit) (o i v:Value) (KU:Unit→Names→HP→Prop) (X:KV) (m:Names) (H:HP):Prop:=∀ ro ri rv,er ro=o→er ri=i→er rv=v→W G S (setItem ro ri rv) KU X m H
theorem a_attr {o:Expr}{n:Str}{p:Pos}{v:Value}(h:WE G S o (fun ov=>SetA G S ov n v KU X) X m H):AsgC G S (.Attribute o n p) v KU X m H:=fun rv e=>
 W.bind (W.holding (W.post h fun ov m H h=>W.bind (W.standAt (W.bind (W.holding (W.post (h ov rv rfl e) fun _ m H h=>W.release h))))))
theorem a_sub {o i:Expr}{p:Pos}{v:Value}(h:WE G S o (fun ov=>WE G S i (fun iv=>SetI G S ov iv v KU X) X) X m H):AsgC G S (.Subscript o i p) v KU X m H:=fun rv e=>
 W.bind (W.holding (W.post h fun ov m H h=>W.bind (W.holding (W.post h fun iv m H h=>W.bind (W.standAt (W.bind (W.holding (W.post (h ov iv rv rfl rfl e) fun _ m H h=>W.release h))))))))
theorem x_asg {t e:Expr}{p:Pos}(h:WE G S e (fun v=>AsgC G S t v (fun _=>KFl .next) X) X m H)
   (hs:swapsWithSole [t] e p.line S.env=pure false:=by with_unfolding_all rfl) (hw:swappedStores [t] e S.env=pure none:=by with_unfolding_all rfl) (e1:(assignEach [t] S.env).map (·.2)=[assign t S.env]:=by with_unfolding_all rfl):WX G S (.Assign [t] e p) KFl X m H:=by
 show W G S (do
   standAt p
   if ← swapsWithSole [t] e p.line S.env then do
     evalThenUse e S.env fun v=>assignAll v ((assignEach [t] S.env).map (·.2))
     pure .next
   else do
     let v ← eval e S.env
     assignStores S.env v (← swappedStores [t] e S.env) ((assignEach [t] S.env).map (·.2))) _ _ _ _
 rw [hs,hw]
 refine W.bind (W.standAt (W.bind (W.pure ?_)))
 refine W.bind (W.post h fun v m H h=>W.bind (W.pure ?_))
 rw [e1]
 exact W.bind (W.post (h v rfl) fun _ m H h=>W.pure h)
theorem x_aug {x:Str}{e:Expr}{op:Operator}{p q:Pos}(O:S.Ok G) {n:Nm}(hm:(x,n)∈m) {v:Value}(hv:n=.loc (some v)∨n=.glo v∨∃ c,n=.cel c∧H.o c=some (.cell (some v)))
   (h:WE G S e (fun b=>InpC G S op v b (fun r=>StoC G S x r (fun _=>KFl .next) X) X) X m H):WX G S (.AugAssign (.Name x q) op e p) KFl X m H:=by
 refine W.eq (exec_AugAssign_Name ..) (W.bind (W.standAt (W.bind ?_)))
 intro s mm M R
 refine wpAny_mono (loadNm (K:=fun v' m' H'=>v'=v∧m'=m∧H'=H) (X:=X) O hm hv ⟨rfl,rfl,rfl⟩ s mm M R) ?_ fun _ _ x=>x
 rintro a s' yq2
 obtain ⟨m',H',mm',M',R',e1,rfl,rfl⟩:=yq2
 refine ⟨_,_,mm',M',R',?_⟩
 exact W.bind (W.holding (W.post h fun b m H h=>W.bind (W.standAt (W.bind (W.operate (W.post (h a b e1 rfl) fun r m H h=>W.bind (W.standAt (W.bind (bindNm (W.post (h r rfl) fun _ m H h=>W.pure h))))))))))
theorem x_expr {e:Expr}{p:Pos}(O:S.Ok G) (h:WE G S e (fun _=>KFl .next) X m H) (hs:swapsWith e none p.line S.env=pure false:=by with_unfolding_all rfl):WX G S (.Expr e p) KFl X m H:=by
 have hi:interactive S.env=false:=by unfold interactive;rw [O.kind];rfl
 show W G S (do
   standAt p
   if interactive S.env then printExpr (eval e S.env)
   else if ← swapsWith e none p.line S.env then do evalThenUse e S.env fun _=>point;pure .next
   else do dropValue e p (← eval e S.env)) _ _ _ _
 rw [hi,hs]
 exact W.bind (W.standAt (W.bind (W.pure (W.bind (W.post h fun v m H h=>dropV h)))))
noncomputable def GetA (G:Glb) (S:Sit) (o:Value) (n:Str) (K:KV) (X:KV) (m:Names) (H:HP):Prop:=∀ ro,er ro=o→WV G S (getAttr ro n true) K X m H
theorem e_attr {o:Expr}{n:Str}{p:Pos}(h:WE G S o (fun ov=>GetA G S ov n K X) X m H) (hb:attributeBase o n S.env (eval o S.env)=eval o S.env:=by with_unfolding_all rfl):WE G S (.Attribute o n p) K X m H:=by
 show W G S (do
   let ov ← attributeBase o n S.env (eval o S.env)
   standAt p.atName
   let r ← holding [ov] (getAttr ov n true)
   letTemporaryGo o ov r
   pure r) _ _ _ _
 rw [hb]
 exact W.bind (W.post h fun ov m H h=>W.bind (W.standAt (W.bind (W.holding (W.post (h ov rfl) fun r m H h=>W.bind (letTemp (W.pure h)))))))
noncomputable abbrev WL (G:Glb) (S:Sit) (es:List Expr) (p:Pos) (K:List Value→Names→HP→Prop) (X:KV) (m:Names) (H:HP):Prop:=W G S (spliced (backTo p (starEach es S.env))) (fun vs=>K (vs.map er)) X m H
theorem wl_nil {p:Pos}{KL:List Value→Names→HP→Prop}(h:KL [] m H):WL G S [] p KL X m H:=W.pure h
theorem wl_cons {e:Expr}{r:List Expr}{p:Pos}{KL:List Value→Names→HP→Prop}(h:WE G S e (fun v=>WL G S r p (fun vs=>KL (v::vs)) X) X m H)
   (he:starEach (e::r) S.env=(false,eval e S.env)::starEach r S.env:=by with_unfolding_all rfl):WL G S (e::r) p KL X m H:=by
 unfold WL
 rw [he]
 show W G S (spliced ((false,eval e S.env)::backTo p (starEach r S.env))) _ _ _ _
 rw [spliced]
 refine W.bind (W.post h fun v m H h=>?_)
 simp only [Bool.false_eq_true,if_false]
 exact W.bind (W.pure (W.bind (W.holding (W.post h fun vs m H h=>W.pure h))))
noncomputable abbrev WKw (G:Glb) (S:Sit) (ks:List Keyword) (p:Pos) (K:List Value→Names→HP→Prop) (X:KV) (m:Names) (H:HP):Prop:=W G S (evalAll ((backToKw p (keywordEach ks S.env)).map (·.2))) (fun vs=>K (vs.map er)) X m H
theorem wk_nil {p:Pos}{KL:List Value→Names→HP→Prop}(h:KL [] m H):WKw G S [] p KL X m H:=W.pure h
theorem wk_cons {n:Option Str}{e:Expr}{q:Pos}{r:List Keyword}{p:Pos}{KL:List Value→Names→HP→Prop}(h:WE G S e (fun v=>WKw G S r p (fun vs=>KL (v::vs)) X) X m H):WKw G S (⟨n,e,q⟩::r) p KL X m H:=by
 show W G S (evalAll ((do let v ← eval e S.env;standAt p;pure v)::(backToKw p (keywordEach r S.env)).map (·.2))) _ _ _ _
 rw [evalAll]
 exact W.bind (W.bind (W.post h fun v m H h=>W.bind (W.standAt (W.pure (W.bind (W.holding (W.post h fun vs m H h=>W.pure h)))))))
theorem argsW {f:Value}{as:List (Bool × Sem Value)}{ks:List (Option Str × Sem Value)}{KA:Args→Names→HP→Prop}(ha:as.all (fun x=>!x.1)=true) (hk:ks.all (·.1.isSome)=true)
   (h:W G S (spliced as) (fun vs=>W G S (evalAll (ks.map (·.2))) (fun ws=>KA ⟨vs,(ks.filterMap (·.1)).zip ws⟩) X) X m H):W G S (evalArgs f true as ks) KA X m H:=by
 intro s mm M R
 have h':wpAny G.M S.A (spliced as) (fun vs s₁=>wpAny G.M S.A (evalAll (ks.map (·.2))) (fun ws s₂=>Post G S KA ⟨vs,(ks.filterMap (·.1)).zip ws⟩ s₂) (PostX G S X) s₁) (PostX G S X) s:=
   wpAny_mono (h s mm M R) (fun vs s₁ ⟨m',H',mm',M',R',k⟩=>wpAny_mono (k s₁ mm' M' R') (fun _ _ q=>q.to fun _ _ x=>x) fun _ _ x=>x) fun _ _ x=>x
 rcases as with _ | ⟨⟨_ | _,x⟩,r⟩
 · exact fun Γ p hΓ=>evalArgs_kw_nil hk (h' Γ p hΓ) Γ p hΓ
 · exact evalArgs_kw hk h'
 · simp at ha
noncomputable def Keeps (G:Glb) (S:Sit) (f:Value) (H:HP):Prop:=∀ s mm,RelC G S.stk ((S.L,mm)::S.sv) S.pr H s→∃ k,(k=Keeper.frame∨k=Keeper.machine∨k=Keeper.boundFrame)∧Looks G.M s.heap (keeperOf f) k
noncomputable def CalC (G:Glb) (S:Sit) (f:Value) (vs:List Value) (kw:List (Str × Value)) (K:KV) (X:KV) (m:Names) (H:HP):Prop:=
 ∀ rf rvs rkw,er rf=er f→rvs.map er=vs→rkw.map (fun p=>(p.1,er p.2))=kw→WV G S (call rf rvs rkw) K X m H
theorem keepsB {i:String}:Keeps G S (.builtin i) H:=fun _ _ _=>⟨.machine,.inr (.inl rfl),.now⟩
theorem keepsT {i:String}:Keeps G S (.type i) H:=fun _ _ _=>⟨.machine,.inr (.inl rfl),.now⟩
theorem keepsK {f:Value}(hk:keepIn G.K f=true):Keeps G S f H:=fun s mm R=>keeps_K hk s.heap (G.X.keeps R.base)
theorem callW {p:Pos}{f:Value}{first:List Value}{as:List (Bool × Sem Value)}{ks:List (Option Str × Sem Value)}(ha:as.all (fun x=>!x.1)=true) (hk:ks.all (·.1.isSome)=true)
   (h:W G S (spliced as) (fun vs=>W G S (evalAll (ks.map (·.2))) (fun ws m H=>Keeps G S f H∧CalC G S f ((first++vs).map er) (((ks.filterMap (·.1)).zip ws).map fun p=>(p.1,er p.2)) K X m H) X) X m H):WV G S (callWith p f first as ks) K X m H:=by
 unfold callWith
 refine W.bind (W.holding (argsW ha hk (W.post h fun vs m H h=>W.post h fun ws m H h=>W.bind (W.standAt ?_))))
 obtain ⟨hk',hc⟩:=h
 have hc:=hc _ _ _ rfl rfl rfl
 have hplain:(as.any (·.1) || ks.any (·.1.isNone))=false:=by
   rw [Bool.or_eq_false_iff]
   refine ⟨?_,?_⟩
   · rw [Bool.eq_false_iff];intro e
     refine xe12 (List.any_eq_true.mp e) fun x hx hx'=>?_
     have:=List.all_eq_true.mp ha x hx
     simp [hx'] at this
   · rw [Bool.eq_false_iff];intro e
     refine xe12 (List.any_eq_true.mp e) fun x hx hx'=>?_
     have:=List.all_eq_true.mp hk x hx
     cases q:x.1<;>simp [q] at this hx'
 have tail:∀ {t:Sem Value},WV G S t K X m H→WV G S (t >>= fun r=>PySem.holding [r] point >>= fun _=>pure r) K X m H:=
   fun ht=>W.bind (W.post ht fun r m H hr=>W.bind (W.holding (W.point (W.pure hr))))
 have marked (mk:Value):WV G S (callMarked mk f (first++vs) ((ks.filterMap (·.1)).zip ws)) K X m H:=fun s mm M R=>by unfold callMarked;exact Calls.wpAny_keep (hc s mm M R)
 intro s mm M R
 refine xe12 (hk' s mm R) fun k hkk L=>?_
 refine wpAny_bind (L.here ?_)
 rcases hkk with rfl | rfl | rfl<;>rw [hplain]<;>dsimp only<;>first | exact tail hc s mm M R | (split<;>first | exact tail hc s mm M R | exact tail (marked _) s mm M R)
theorem starAll (es:List Expr) (env:Env) (p:Pos) (h:(starEach es env).all (fun x=>!x.1)=true):(backTo p (starEach es env)).all (fun x=>!x.1)=true:=by
 unfold backTo;rw [List.all_map];exact h
theorem kwAll (es:List Keyword) (env:Env) (p:Pos) (h:(keywordEach es env).all (·.1.isSome)=true):(backToKw p (keywordEach es env)).all (·.1.isSome)=true:=by
 unfold backToKw;rw [List.all_map];exact h
theorem kwNames (es:List Keyword) (env:Env) (p:Pos):(backToKw p (keywordEach es env)).filterMap (·.1)=es.filterMap (·.arg):=by
 unfold backToKw
 induction es with
 | nil=>rfl
 | cons e r ih=>
   obtain ⟨n,v,q⟩:=e
   rw [arm_keywordEach_cons,List.map_cons]
   rcases n with _ | n
   · exact ih
   · show n::_=n::_;exact congrArg _ ih
theorem zip_er:∀ (ns:List Str) (ws:List Value),((ns.zip ws).map fun p=>(p.1,er p.2))=ns.zip (ws.map er)
 | [],_=>rfl
 | _::_,[]=>rfl
 | _::ns,_::ws=>by simp only [List.zip_cons_cons,List.map_cons,zip_er ns ws]
theorem e_call {f:Expr}{as:List Expr}{ks:List Keyword}{p:Pos}
   (h:WE G S f (fun f=>WL G S as p (fun vs=>WKw G S ks p (fun ws m H=>Keeps G S f H∧CalC G S f vs ((ks.filterMap (·.arg)).zip ws) K X m H) X) X) X m H)
   (he:eval (.Call f as ks p) S.env=(do callWith p (← eval f S.env) [] (backTo p (starEach as S.env)) (backToKw p (keywordEach ks S.env))):=by with_unfolding_all rfl)
   (ha:(starEach as S.env).all (fun x=>!x.1)=true:=by with_unfolding_all rfl) (hk:(keywordEach ks S.env).all (·.1.isSome)=true:=by with_unfolding_all rfl):WE G S (.Call f as ks p) K X m H:=by
 unfold WE
 rw [he]
 refine W.bind (W.post h fun f m H h=>callW (starAll _ _ _ ha) (kwAll _ _ _ hk) (W.post h fun vs m H h=>W.post h fun ws m H h=>?_))
 rw [kwNames,zip_er,List.nil_append]
 refine ⟨?_,?_⟩
 · cases f<;>first | exact h.1 | exact fun _ _ _=>⟨.machine,.inr (.inl rfl),.now⟩
 · exact fun rf rvs rkw e=>h.2 rf rvs rkw (by rw [e,er_er])
noncomputable def MetC (G:Glb) (S:Sit) (o:Value) (n:Str) (K:Value→List Value→Names→HP→Prop) (X:KV) (m:Names) (H:HP):Prop:=∀ ro pl,er ro=o→W G S (getMethod ro n pl) (fun p=>K p.1 (p.2.map er)) X m H
theorem e_meth {o:Expr}{n:Str}{as:List Expr}{ks:List Keyword}{q p:Pos}
   (h:WE G S o (fun ov=>MetC G S ov n (fun f first=>WL G S as p (fun vs=>WKw G S ks p (fun ws m H=>Keeps G S f H∧CalC G S f (first++vs) ((ks.filterMap (·.arg)).zip ws) K X m H) X) X) X) X m H)
   (hb:attributeBase o n S.env (eval o S.env)=eval o S.env:=by with_unfolding_all rfl)
   (hm:methodCallForm (as.length+ks.length) (backTo p (starEach as S.env)) (backToKw p (keywordEach ks S.env))=true:=by with_unfolding_all rfl)
   (hl:(q.endLine==p.line)=true:=by with_unfolding_all rfl)
   (ha:(starEach as S.env).all (fun x=>!x.1)=true:=by with_unfolding_all rfl) (hk:(keywordEach ks S.env).all (·.1.isSome)=true:=by with_unfolding_all rfl):WE G S (.Call (.Attribute o n q) as ks p) K X m H:=by
 show W G S (do
   let ov ← attributeBase o n S.env (eval o S.env)
   standAt q.atName
   methodCall o n q p S.env ov (as.length+ks.length) (backTo p (starEach as S.env)) (backToKw p (keywordEach ks S.env))) _ _ _ _
 rw [hb]
 refine W.bind (W.post h fun ov m H h=>W.bind (W.standAt ?_))
 unfold methodCall
 rw [hm]
 refine W.bind (W.holding ?_)
 unfold calleeOf
 rw [if_pos rfl]
 refine W.post (h ov _ rfl) fun fp m H h=>?_
 obtain ⟨f,first⟩:=fp
 unfold methodCallPos
 rw [hl]
 refine W.bind (W.pure (callW (starAll _ _ _ ha) (kwAll _ _ _ hk) (W.post h fun vs m H h=>W.post h fun ws m H h=>?_)))
 rw [kwNames,zip_er,List.map_append]
 exact h
end
end Mine
end
section
open PySem PySem.W PyProof.Rows PySem.Calls
namespace Mine
theorem RelC.slots {G:Glb}{stk:List Env}{sv:Sv}{pr:Pr}{H:HP}{s:Shared}(R:RelC G stk sv pr H s) {h':Heap}(k:Heap.SlotsOnly (stk.filterMap (·.frame)) s.heap h'):RelC G stk sv pr H { s with heap:=h' } where
 base:=fun b o e=>(k.2.1 b fun q=>by rw [R.sv_base (R.frame_mem q)] at e;exact no_ns e).trans (R.base b o e)
 frames:=R.frames.of_slotsOnly k
 fsv:=R.fsv
 ns:=fun p hp=>by
   refine xe02 (R.ns p hp) fun zq0 x=>?_
   obtain ⟨o,es,ep,ho,r⟩:=zq0
   obtain ⟨sl,e⟩:=k.2.2 _ _ ho
   exact ⟨⟨_,es,ep,e,r⟩,x⟩
 nd:=R.nd
 own:=fun a co e=>by
   obtain ⟨x,y,o,z,u⟩:=R.own a co e
   exact ⟨x,y,o,(k.2.1 a fun q=>y (R.frame_mem q)).trans z,u⟩
 prot:=fun p hp=>by
   obtain ⟨x,y,z,u⟩:=R.prot p hp
   exact ⟨(k.2.1 _ fun q=>z (R.frame_mem q)).trans x,y,z,u⟩
 gens:=R.gens
 bare:=R.bare
 os:=R.os
inductive Traced1 (G:Glb) (pr:Pr) (H:HP) (a:Addr) (cls fl:Value) (s:Shared):Prop where
 | mk (oe:Obj) (vs:Array Value) (T:Addr) (oT:Obj) (ts:Array Value) (a1:s.heap.get? a=some oe) (a2:oe.cls=cls) (a3:oe.data=.fields vs) (a4:Off G a) (a5:H.o a=none) (a6:a∉pr.map (·.1))
   (a7:vs[1]? = some (.ref T)) (a8:T≠a) (a9:Off G T) (b1:H.o T=none) (b2:T∉pr.map (·.1)) (b3:s.heap.get? T=some oT) (b4:oT.data=.fields ts) (b5:ts[3]? = some fl)
theorem Traced1.exc {G:Glb}{fr:Option Addr}{pr:Pr}{H:HP}{a:Addr}{cls fl:Value}{s:Shared}(x:Traced1 G pr H a cls fl s) (h:fl=.none∨∃ f,fr=some f∧fl=rawInt f):ExcAt G fr pr H (.ref a) cls s:=by
 obtain ⟨oe,vs,T,oT,ts,a1,a2,a3,a4,a5,a6,a7,a8,a9,b1,b2,b3,b4,b5⟩:=x
 refine ⟨a,oe,vs,rfl,a1,a2,a3,a4,a5,a6,.inr ⟨T,oT,ts,a7,a8,a9,b1,b2,b3,b4,?_⟩⟩
 rcases h with rfl | ⟨f,e,rfl⟩
 · exact .inl b5
 · exact .inr ⟨f,e,b5⟩
section
variable {G:Glb}{A:Around}{stk:List Env}{sv:Sv}{pr:Pr}{H:HP}{s:Shared}{env:Env}{a f:Addr}{cls:Value}{E:Value→Shared→Prop}
theorem not_sv (R:RelC G stk sv pr H s) {b:Addr}{o:Obj}{vs:Array Value}(h:s.heap.get? b=some o) (d:o.data=.fields vs):b∉sv.map (·.1):=fun hm=>by
 refine xe12 (List.mem_map.mp hm) fun p hp zq2=>?_
 obtain rfl:=zq2
 refine xe33 ((R.ns p hp).1) fun o' es ep ho hd _=>?_
 rw [h] at ho;cases ho;rw [d] at hd;cases hd
theorem setFl (R:RelC G stk sv pr H s) {fl:Value}(x:Traced1 G pr H a cls fl s) {fr:Option Addr}{Q:Unit→Shared→Prop}
   (h:∀ s',RelC G stk sv pr H s'→Traced1 G pr H a cls (fr.elim .none fun f=>rawInt f) s'→Q () s'):wpAny G.M A (setFlight (.ref a) fr) Q E s:=by
 obtain ⟨oe,vs,T,oT,ts,a1,a2,a3,a4,a5,a6,a7,a8,a9,b1,b2,b3,b4,b5⟩:=x
 unfold setFlight
 refine wpAny_bind (wpAny_field a1 a3 a7 ?_)
 rw [if_pos (show (Value.ref T != Value.none)=true from by simp)]
 have sz:3<ts.size:=(Array.getElem?_eq_some_iff.mp b5).1
 refine wpAny_setField b3 b4 sz (h _ ?_ ?_)
 · exact R.but (tk:=s.toks) T (fun b o q e=>(Heap.get?_update_other _ _ (Ne.symm q)).trans e) (a9.1) (not_sv R b3 b4) b1 b2
 · exact ⟨oe,vs,T,_,_,(Heap.get?_update_other _ _ a8).trans a1,a2,a3,a4,a5,a6,a7,a8,a9,b1,b2,Heap.get?_update_self _ b3 (Obj.isFreed_of_fields (Obj.data_mapFields b4 _)),Obj.data_mapFields b4 _,by simp [sz]⟩
theorem frameOf_congr {env e₀:Env}(h:e₀.frame=env.frame):PySem.frameOf env=PySem.frameOf e₀:=by unfold PySem.frameOf;rw [h]
theorem newEnt (R:RelC G stk sv pr H s) (hf:A.frames=some stk) {e₀:Env}{r:List Env}(hs:stk=e₀::r) (h0:e₀.frame=some f) (h1:env.frame=some f) {oe:Obj}{vs:Array Value}{head:Value}{hn:Bool}{Q:Unit→Shared→Prop}
   (a1:s.heap.get? a=some oe) (a2:oe.cls=cls) (a3:oe.data=.fields vs) (a4:Off G a) (a5:H.o a=none) (a6:a∉pr.map (·.1)) (a7:1<vs.size) (hp:sv≠[])
   (h:∀ s',RelC G stk sv pr H s'→Traced1 G pr H a cls (rawInt f) s'→Q () s') :
   wpAny G.M A (do setField (.ref a) 1 (← EntryCells.newEntry head (← PySem.frameOf env) .none (rawInt f) .none (← entryPlaceOf f hn))) Q E s:=by
 rw [frameOf_congr (h0.trans h1.symm)]
 subst hs
 refine wpAny_bind (wpAny_frameOf_fun hf R.frames h0 fun h₁ hs₁=>?_)
 have R₁:=R.slots hs₁
 have nsv:=not_sv R a1 a3
 have b1:h₁.get? a=some oe:=(hs₁.2.1 a fun q=>nsv (R.frame_mem q)).trans a1
 refine wpAny_bind (wpAny_entryPlaceOf fun pl hpl=>?_)
 unfold EntryCells.newEntry newFields
 refine wpAny_bind (wpAny_newObj_type ?_ (hpl.sizeOk5 _ _ _ _ _))
 have R₂:=R₁.junk (o:={ cls:=.type "traceback",dict:=none,data:=.fields ([head,.ref f,.none,rawInt f,.none]++(if pl.isEmpty then List.replicate 6 Value.none else pl)).toArray })
 have b2:=Heap.get?_push_of_some (h:=h₁) { cls:=.type "traceback",dict:=none,data:=.fields ([head,.ref f,.none,rawInt f,.none]++(if pl.isEmpty then List.replicate 6 Value.none else pl)).toArray } b1
 refine wpAny_setField b2 a3 a7 (h _ ?_ ?_)
 · exact R₂.but (tk:=s.toks) a (fun b o q e=>(Heap.get?_update_other _ _ (Ne.symm q)).trans e) (a4.1) nsv a5 a6
 · have hT:=Heap.get?_push_size h₁ (o:={ cls:=.type "traceback",dict:=none,data:=.fields ([head,.ref f,.none,rawInt f,.none]++(if pl.isEmpty then List.replicate 6 Value.none else pl)).toArray }) rfl
   have hTa:h₁.objs.size≠a:=Nat.ne_of_gt (Heap.lt_size b1)
   refine xe11 (List.exists_mem_of_ne_nil _ hp) fun p hp=>?_
   refine ⟨_,_,h₁.objs.size,_,_,Heap.get?_update_self _ b2 (Obj.isFreed_of_fields (Obj.data_mapFields a3 _)),(Obj.cls_mapFields _ _).trans a2,Obj.data_mapFields a3 _,a4,a5,a6,by simp [a7],hTa,?_,?_,?_,(Heap.get?_update_other _ _ (Ne.symm hTa)).trans hT,rfl,?_⟩
   · exact .of (R₁.big hp)
   · exact R₁.fresh
   · intro hm
     refine xe12 (List.mem_map.mp hm) fun p' hp' e'=>?_
     exact absurd (Heap.lt_size (R₁.prot p' hp').1) (by rw [e'];exact Nat.lt_irrefl _)
   · rcases hpl with rfl | ⟨_,_,_,_,_,_,_,rfl⟩<;>simp
theorem noteFr (R:RelC G stk sv pr H s) (hf:A.frames=some stk) {e₀:Env}{r:List Env}(hs:stk=e₀::r) (h0:e₀.frame=some f) (h1:env.frame=some f) {e:Value}{Q:Unit→Shared→Prop}(hp:sv≠[])
   (x:ExcAt G (some f) pr H e cls s) (h:∀ s' a,e=.ref a→RelC G stk sv pr H s'→Traced1 G pr H a cls (rawInt f) s'→Q () s'):wpAny G.M A (noteFrame e env) Q E s:=by
 obtain ⟨a,oe,vs,rfl,a1,a2,a3,a4,a5,a6,a7⟩:=x
 unfold noteFrame
 simp only [h1]
 rcases a7 with a7 | ⟨T,oT,ts,a7,a8,a9,b1,b2,b3,b4,b5⟩
 · refine wpAny_bind (wpAny_field a1 a3 a7 ?_)
   rw [if_neg (by decide)]
   exact newEnt R hf hs h0 h1 a1 a2 a3 a4 a5 a6 (Array.getElem?_eq_some_iff.mp a7).1 hp fun s' R' x'=>h s' a rfl R' x'
 · refine wpAny_bind (wpAny_field a1 a3 a7 ?_)
   rw [if_pos (show (Value.ref T != Value.none)=true from by simp)]
   rcases b5 with b5 | ⟨f',hf',b5⟩
   · refine wpAny_bind (wpAny_field b3 b4 b5 ?_)
     rw [if_neg (show ¬ ((Value.none==rawInt f)=true) from by simp [rawInt])]
     have sz:3<ts.size:=(Array.getElem?_eq_some_iff.mp b5).1
     refine wpAny_bind (wpAny_setField b3 b4 sz ?_)
     have R':=R.but (tk:=s.toks) (h':=s.heap.update T (Obj.mapFields (·.setIfInBounds 3 Value.none))) T (fun b o q e=>(Heap.get?_update_other _ _ (Ne.symm q)).trans e) (a9.1) (not_sv R b3 b4) b1 b2
     exact newEnt R' hf hs h0 h1 ((Heap.get?_update_other _ _ a8).trans a1) a2 a3 a4 a5 a6 (Array.getElem?_eq_some_iff.mp a7).1 hp fun s' R' x'=>h s' a rfl R' x'
   · cases hf'
     refine wpAny_bind (wpAny_field b3 b4 b5 ?_)
     rw [if_pos (show (rawInt f==rawInt f)=true from by simp)]
     exact wpAny_pure (h s a rfl R ⟨oe,vs,T,oT,ts,a1,a2,a3,a4,a5,a6,a7,a8,a9,b1,b2,b3,b4,b5⟩)
theorem leavingW (R:RelC G stk sv pr H s) (hf:A.frames=some stk) {e₀:Env}{r:List Env}(hs:stk=e₀::r) (h0:e₀.frame=some f) (h1:env.frame=some f) {e:Value}{Q:Unit→Shared→Prop}(hp:sv≠[])
   (x:ExcAt G (some f) pr H e cls s) (h:∀ s' a,e=.ref a→RelC G stk sv pr H s'→Traced1 G pr H a cls .none s'→Q () s'):wpAny G.M A (leaving env e) Q E s:=by
 unfold leaving
 refine wpAny_bind (noteFr R hf hs h0 h1 hp x fun s' a ea R' x'=>?_)
 subst ea
 exact setFl R' x' fun s'' R'' x''=>h s'' a rfl R'' x''
end
section
variable {G:Glb}{S:Sit}{X:KV}
theorem passesXA (O:S.Ok G) {A' A'':Around}(hf:A'.frames=some S.stk) {e:Value}{s':Shared}(h:PostX G S X e s'):notedBy G.M A' S.env (cameBackBy G.M A'' S.env (PostX G S X)) e s':=by
 obtain ⟨m,H,mm,cls,M,R,x,hX⟩:=h
 refine xe33 O.top fun e₀ r f hs h0 h1=>?_
 rw [h1] at x
 refine noteFr R hf hs h0 h1 (by simp) x fun s₁ a ea R₁ x₁=>?_
 subst ea
 unfold cameBackBy
 have x₁':=x₁
 obtain ⟨oe,vs,T,oT,ts,a1,a2,a3,a4,a5,a6,a7,_⟩:=x₁'
 refine wpAny_bind (wpAny_field a1 a3 a7 ?_)
 rw [if_neg (show ¬ ((Value.ref T==Value.none)=true) from Bool.false_ne_true)]
 rw [h1]
 exact setFl R₁ x₁ fun s₂ R₂ x₂=>⟨m,H,mm,cls,M,R₂,x₂.exc (.inr ⟨f,h1,rfl⟩),hX⟩
theorem passesX (O:S.Ok G):PassesOwn G.M S.A S.env (PostX G S X):=fun e s' h=>passesXA O O.frames h
end
end Mine
end
section
open PySem PySem.W PyProof.Rows PySem.Calls
namespace Mine
structure Itb (G:Glb) (v:Value) (n:Nat) (vs:Nat→Value) (Ob:Nat→Obj→Prop) (P:HP→Prop):Prop where
 start:∀ A rv (s:Shared) stk sv pr H (Q:Value→Shared→Prop) E,er rv=v→RelC G stk sv pr H s→P H →
   (∀ o tk,Ob 0 o→o.isFreed=false→Q (.ref s.heap.objs.size) { s with heap:=s.heap.push o,toks:=tk })→wpAny G.M A (pyIter rv) Q E s
 item:∀ A it i (s:Shared) stk sv pr H o (Q:Option Value→Shared→Prop) E,i<n→RelC G stk sv pr H s→P H→s.heap.get? it=some o→Ob i o→H.o it=none →
   (∀ v h' tk o',er v=vs i→h'.get? it=some o'→Ob (i+1) o'→Heap.SameBut it s.heap h'→Q (some v) { s with heap:=h',toks:=tk })→wpAny G.M A (pyNext (.ref it)) Q E s
 done:∀ A it (s:Shared) stk sv pr H o (Q:Option Value→Shared→Prop) E,A.handled=none→RelC G stk sv pr H s→P H→s.heap.get? it=some o→Ob n o→H.o it=none →
   (∀ h' tk,Heap.ExtBut it s.heap h'→Q none { s with heap:=h',toks:=tk })→wpAny G.M A (pyNext (.ref it)) Q E s
 fields:∀ i o,Ob i o→∃ fs,o.data=.fields fs
 self:∀ A it i (s:Shared) o (Q:Value→Shared→Prop) E,s.heap.get? it=some o→Ob i o→Q (.ref it) s→wpAny G.M A (pyIter (.ref it)) Q E s
theorem items_at {rvs:Array Value}{vs:List Value}(h:rvs.toList.map er=vs) {i:Nat}(hi:i<vs.length):∃ x,rvs[i]? = some x∧er x=vs.getD i .none:=by
 have hl:i<rvs.size:=by rw [← h] at hi;simpa using hi
 refine ⟨rvs[i],Array.getElem?_eq_getElem hl,?_⟩
 rw [← h]
 simp [List.getD,hl]
theorem items_end {rvs:Array Value}{vs:List Value}(h:rvs.toList.map er=vs):rvs[vs.length]? = none:=by
 rw [← h];simp
theorem relList {G:Glb}{stk:List Env}{sv:Sv}{pr:Pr}{H:HP}{s:Shared}(R:RelC G stk sv pr H s) {l:Addr}{vs:List Value}(h:H.o l=some (.list vs)):∃ rvs,s.heap.IsList l rvs∧rvs.toList.map er=vs:=by
 obtain ⟨o,ho,rvs,n,rfl,e⟩:=R.get h
 exact ⟨rvs,⟨_,ho,rfl,n,rfl⟩,e⟩
theorem relTup {G:Glb}{stk:List Env}{sv:Sv}{pr:Pr}{H:HP}{s:Shared}(R:RelC G stk sv pr H s) {l:Addr}{vs:List Value}(h:H.o l=some (.tup vs)):∃ rvs,s.heap.IsTuple l rvs∧rvs.toList.map er=vs:=by
 obtain ⟨o,ho,rvs,n,rfl,e⟩:=R.get h
 exact ⟨rvs,⟨_,ho,rfl,n,rfl⟩,e⟩
theorem er_ref' {rv:Value}{a:Addr}(h:er rv=.ref a):rv=.ref a:=by cases rv<;>first | exact h | exact Value.noConfusion h
theorem er_str' {rv:Value}{x:Str}(h:er rv=.str x 0):∃ t,rv=.str x t:=by cases rv<;>first | exact ⟨_,congrArg (fun y=>Value.str y _) (Value.str.inj h).1⟩ | exact Value.noConfusion h
theorem er_int' {rv:Value}{x:Int}(h:er rv=.int x 0):∃ t,rv=.int x t:=by cases rv<;>first | exact ⟨_,congrArg (fun y=>Value.int y _) (Value.int.inj h).1⟩ | exact Value.noConfusion h
theorem er_bytes' {rv:Value}{x:Array UInt8}(h:er rv=.bytes x 0):∃ t,rv=.bytes x t:=by cases rv<;>first | exact ⟨_,congrArg (fun y=>Value.bytes y _) (Value.bytes.inj h).1⟩ | exact Value.noConfusion h
theorem er_none' {rv:Value}(h:er rv=.none):rv=.none:=by cases rv<;>first | exact h | exact Value.noConfusion h
theorem er_bool' {rv:Value}{b:Bool}(h:er rv=.bool b):rv=.bool b:=by cases rv<;>first | exact h | exact Value.noConfusion h
theorem er_builtin' {rv:Value}{b:String}(h:er rv=.builtin b):rv=.builtin b:=by cases rv<;>first | exact h | exact Value.noConfusion h
theorem er_type' {rv:Value}{b:String}(h:er rv=.type b):rv=.type b:=by cases rv<;>first | exact h | exact Value.noConfusion h
theorem itList {G:Glb}{l:Addr}{vs:List Value}:Itb G (.ref l) vs.length (fun i=>vs.getD i .none) (fun i o=>o.cls=.type "list_iterator"∧o.data=.fields #[.ref l,.int i 0]) (fun H=>H.o l=some (.list vs)) where
 start:=fun A rv s stk sv pr H Q E e R p h=>by
   rw [er_ref' e]
   refine xe12 (relList R p) fun rvs hl _=>?_
   exact wpAny_pyIter_list hl (h _ s.toks ⟨rfl,rfl⟩ rfl)
 item:=fun A it i s stk sv pr H o Q E hi R p ho hO hn h=>by
   refine xe12 (relList R p) fun rvs hl e=>?_
   refine xe12 (items_at e hi) fun x hx hv=>?_
   refine wpAny_pyNext_list_item ⟨o,ho,hO.1,hO.2⟩ hl hx fun h' ⟨o',ho',c',d'⟩ sb=>h x h' s.toks o' hv ho' ⟨c',d'⟩ sb
 done:=fun A it s stk sv pr H o Q E hh R p ho hO hn h=>by
   refine xe12 (relList R p) fun rvs hl e=>?_
   exact wpAny_pyNext_list_end hh ⟨o,ho,hO.1,hO.2⟩ hl (items_end e) fun h' x=>h h' s.toks x
 fields:=fun i o hO=>⟨_,hO.2⟩
 self:=fun A it i s o Q E ho hO h=>wpAny_pyIter_listiter ⟨o,ho,hO.1,hO.2⟩ h
noncomputable def chr1 (x:Str) (i:Nat):Value:=.str ⟨#[x.cps.toList.getD i 0]⟩ 0
theorem itStr {G:Glb}{x:Str}:Itb G (.str x 0) x.cps.size (chr1 x)
   (fun i o=>o.cls=.type (if x.cps.all (·<128)=true then "str_ascii_iterator" else "str_iterator")∧∃ t,o.data=.fields #[.str x t,.int i 0]) (fun H=>True) where
 start:=fun A rv s stk sv pr H Q E e R p h=>by
   refine xe11 (er_str' e) fun t zq1=>?_
   obtain rfl:=zq1
   by_cases ha:x.cps.all (·<128)=true
   · simp only [ha,if_true] at h
     exact wpAny_pyIter_ascii ha (h _ s.toks ⟨rfl,t,rfl⟩ rfl)
   · simp only [ha] at h
     exact wpAny_pyIter_wide (by simpa using ha) (h _ s.toks ⟨rfl,t,rfl⟩ rfl)
 item:=fun A it i s stk sv pr H o Q E hi R p ho hO hn h=>by
   obtain ⟨hc,t,hd⟩:=hO
   have hx:x.cps[i]? = some (x.cps.toList.getD i 0):=by
     rw [Array.getElem?_eq_getElem hi];simp [List.getD,hi]
   by_cases ha:x.cps.all (·<128)=true
   · simp only [ha,if_true] at h hc
     exact wpAny_pyNext_ascii_item ⟨o,ho,hc,hd⟩ hx fun h' ⟨o',ho',c',d'⟩ sb=>h _ h' _ o' rfl ho' ⟨c',t,d'⟩ sb
   · simp only [ha] at h hc
     exact wpAny_pyNext_wide_item ⟨o,ho,hc,hd⟩ hx fun h' ⟨o',ho',c',d'⟩ sb=>h _ h' _ o' rfl ho' ⟨c',t,d'⟩ sb
 done:=fun A it s stk sv pr H o Q E hh R p ho hO hn h=>by
   obtain ⟨hc,t,hd⟩:=hO
   have hx:x.cps[x.cps.size]? = none:=by simp
   by_cases ha:x.cps.all (·<128)=true
   · simp only [ha,if_true] at hc
     exact wpAny_pyNext_ascii_end hh ⟨o,ho,hc,hd⟩ hx fun h' x=>h h' s.toks x
   · simp only [ha] at hc
     exact wpAny_pyNext_wide_end hh ⟨o,ho,hc,hd⟩ hx fun h' x=>h h' s.toks x
 fields:=fun i o hO=>⟨_,hO.2.choose_spec⟩
 self:=fun A it i s o Q E ho hO h=>by
   obtain ⟨hc,t,hd⟩:=hO
   by_cases ha:x.cps.all (·<128)=true
   · simp only [ha] at hc
     exact wpAny_pyIter_striter_ascii ⟨o,ho,hc,hd⟩ h
   · simp only [ha] at hc
     exact wpAny_pyIter_striter_wide ⟨o,ho,hc,hd⟩ h
noncomputable def byt1 (b:Array UInt8) (i:Nat):Value:=.int ((b.toList.getD i 0).toNat:Int) 0
theorem itBytes {G:Glb}{b:Array UInt8}:Itb G (.bytes b 0) b.size (byt1 b) (fun i o=>o.cls=.type "bytes_iterator"∧∃ t,o.data=.fields #[.bytes b t,.int i 0]) (fun H=>True) where
 start:=fun A rv s stk sv pr H Q E e R p h=>by
   refine xe11 (er_bytes' e) fun t zq1=>?_
   obtain rfl:=zq1
   exact KBw.pyIter_bytes (h _ s.toks ⟨rfl,t,rfl⟩ rfl)
 item:=fun A it i s stk sv pr H o Q E hi R p ho hO hn h=>by
   obtain ⟨hc,t,hd⟩:=hO
   have hx:b[i]? = some (b.toList.getD i 0):=by
     rw [Array.getElem?_eq_getElem hi];simp [List.getD,hi]
   exact KBw.next_item ⟨o,ho,hc,hd⟩ hx fun h' ⟨o',ho',c',d'⟩ sb=>h _ h' _ o' rfl ho' ⟨c',t,d'⟩ sb
 done:=fun A it s stk sv pr H o Q E hh R p ho hO hn h=>by
   obtain ⟨hc,t,hd⟩:=hO
   exact KBw.next_end hh ⟨o,ho,hc,hd⟩ (by simp) fun h' x=>h h' s.toks x
 fields:=fun i o hO=>⟨_,hO.2.choose_spec⟩
 self:=fun A it i s o Q E ho hO h=>by
   obtain ⟨hc,t,hd⟩:=hO
   exact KBw.pyIter_self ⟨o,ho,hc,hd⟩ h
noncomputable abbrev rngObj (a b c:Int) (t u v:Tok):Obj:={ cls:=.type "range",dict:=none,data:=.fields #[.int a t,.int b u,.int c v],slots:=#[] }
theorem itRange {G:Glb}{r:Addr}{a b c:Int}{t u v:Tok}(hs:Builtin.Range.small a b c=true):Itb G (.ref r) (Builtin.Range.rangeSize a b c).toNat (fun i=>.int (a+i * c) 0)
   (fun i o=>o={ cls:=.type "range_iterator",dict:=none,data:=.fields #[rawInt (a+i * c),rawInt (Builtin.Range.rangeSize a b c - i),rawInt c],slots:=#[] }) (fun H=>H.o r=some (.obj (rngObj a b c t u v))) where
 start:=fun A rv s stk sv pr H Q E e R p h=>by
   rw [er_ref' e]
   obtain ⟨o,ho,rfl,_⟩:=R.get p
   exact wpAny_pyIter_range ho hs (h _ s.toks (by simp) rfl)
 item:=fun A it i s stk sv pr H o Q E hi R p ho hO hn h=>by
   subst hO
   refine wpAny_pyNext_range_item ho (Int.sub_pos_of_lt (Int.lt_toNat.mp hi)) fun h' x sb=>h _ h' _ _ rfl x ?_ sb
   simp only [rawInt]
   rw [show a+(i:Int) * c+c=a+((i+1:Nat):Int) * c by rw [Int.natCast_add,Int.add_mul];simp [Int.add_assoc],show Builtin.Range.rangeSize a b c - (i:Int) - 1=Builtin.Range.rangeSize a b c - ((i+1:Nat):Int) by lia]
 done:=fun A it s stk sv pr H o Q E hh R p ho hO hn h=>by
   subst hO
   exact wpAny_pyNext_range_end hh ho (Int.sub_nonpos_of_le (Int.self_le_toNat _)) fun h' x=>h h' s.toks x
 fields:=fun i o hO=>by subst hO;exact ⟨_,rfl⟩
 self:=fun A it i s o Q E ho hO h=>by subst hO;exact wpAny_pyIter_rangeiter ho h
noncomputable def Sit.guard (S:Sit) (pr:Pr):Sit:={ S with pr:=pr }
theorem Sit.Ok.guard {G:Glb}{S:Sit}(O:S.Ok G) (pr:Pr):(S.guard pr).Ok G:=⟨O.kind,O.loc,O.glob,O.blt,O.frames,O.co,O.top⟩
section
variable {G:Glb}{S:Sit}{X:KV}{m:Names}{H:HP}{K:KV}{KB:Bool→Names→HP→Prop}{KFl:KF}{KU:Unit→Names→HP→Prop}
theorem PostX.unguard {it:Addr}{o:Obj}{e:Value}{s:Shared}(h:PostX G (S.guard ((it,o)::S.pr)) X e s):PostX G S X e s:=by
 obtain ⟨m,H,mm,cls,M,R,⟨a,oe,vs,rfl,a1,a2,a3,a4,a5,a6,a7⟩,hX⟩:=h
 refine ⟨m,H,mm,cls,M,R.unguard,⟨a,oe,vs,rfl,a1,a2,a3,a4,a5,fun q=>a6 (.tail _ q),a7.imp id ?_⟩,hX⟩
 rintro yq0
 obtain ⟨T,oT,ts,b1,b2,b3,b4,b5,b6,b7,b8⟩:=yq0
 exact ⟨T,oT,ts,b1,b2,b3,b4,fun q=>b5 (.tail _ q),b6,b7,b8⟩
noncomputable def turnK (J:Names→HP→Prop) (KFl:KF):KF:=fun f m H=>match f with
 | .next | .cont=>J m H
 | .brk=>KFl .next m H
 | .ret v=>KFl (.ret v) m H
section
variable {J:Names→HP→Prop}{KFl:KF}{m:Names}{H:HP}
end
inductive ForQ (G:Glb) (S:Sit) (t:Expr) (body orelse:List Stmt) (KFl:KF) (X:KV) (v:Value) (m:Names) (H:HP):Prop where
 | mk (n:Nat) (vs:Nat→Value) (Ob:Nat→Obj→Prop) (P:HP→Prop) (T:Itb G v n vs Ob P) (hP:P H) (I:Nat→Names→HP→Prop) (h0:I 0 m H)
     (turn:∀ pr i m H,i<n→P H→I i m H→AsgC G (S.guard pr) t (vs i) (fun _=>WS G (S.guard pr) body (turnK (fun m H=>P H∧I (i+1) m H) KFl) X) X m H)
     (fin:∀ m H,P H→I n m H→WS G S orelse KFl X m H)
inductive ForJ (G:Glb) (S:Sit) (n:Nat) (P:HP→Prop) (I:Nat→Names→HP→Prop) (Ob:Nat→Obj→Prop) (it:Addr) (k:Nat) (s':Shared):Prop where
 | mk (i:Nat) (m:Names) (H:HP) (mm:Str→Option Value) (o:Obj) (h0:k=n - i) (h1:i≤n) (M:MOk G S.env mm m) (R:RelC G S.stk ((S.L,mm)::S.sv) S.pr H s') (p:P H) (q:I i m H) (h2:H.o it=none) (h3:s'.heap.get? it=some o) (h4:Ob i o)
theorem x_for {t it:Expr}{body orelse:List Stmt}{p:Pos}(O:S.Ok G) (hh:S.A.handled=none)
   (h:WE G S it (ForQ G S t body orelse KFl X) X m H)
   (hi:∀ x,foldedSetIterable it S.env x=pure x:=by intro _;with_unfolding_all rfl) (ht:∀ r v,letOwnedTupleGo t r v=pure ():=by intro _ _;with_unfolding_all rfl):WX G S (.For t it body orelse p) KFl X m H:=by
 refine W.eq (exec_For ..) (W.bind (W.standAt (W.bind (W.post h fun v m H h=>?_))))
 rw [hi]
 refine W.bind (W.pure (W.bind (W.standAt ?_)))
 obtain ⟨n,vs,Ob,P,T,hP,I,h0,turn,fin⟩:=h
 intro s mm M R
 refine wpAny_bind (wpAny_holding (T.start _ _ s _ _ _ H _ _ rfl R hP fun o tk hO hf=>?_))
 have hit:(s.heap.push o).get? s.heap.objs.size=some o:=Heap.get?_push_size _ hf
 have hb:=R.big (.head _)
 have hnew:∀ b,b∈((S.L,mm)::S.sv).map (·.1)→b≠s.heap.objs.size:=fun b hm q=>by
   refine xe12 (List.mem_map.mp hm) fun p' hp' e'=>?_
   exact absurd (R.ns p' hp').1.lt (by rw [e',q];exact Nat.lt_irrefl _)
 have hnp:s.heap.objs.size∉S.pr.map (·.1):=fun hm=>by
   refine xe12 (List.mem_map.mp hm) fun p' hp' e'=>?_
   exact absurd (Heap.lt_size (R.prot p' hp').1) (by rw [e'];exact Nat.lt_irrefl _)
 have R₁:RelC G S.stk ((S.L,mm)::S.sv) S.pr H { s with heap:=s.heap.push o,toks:=tk }:=(R.junk (o:=o)).toks tk
 refine wpAny_runOwn ?_
 refine codeAny_forLoop (ForJ G S n P I Ob s.heap.objs.size) ?_ n
   ⟨0,m,H,mm,o,rfl,Nat.zero_le _,M,R₁,hP,h0,R.fresh,hit,hO⟩ (ht _)
 rintro k s' yq2
 obtain ⟨i,m,H,mm,o,rfl,hin,M,R,hP,hI,hH,ho,hO⟩:=yq2
 have hsv:s.heap.objs.size∉((S.L,mm)::S.sv).map (·.1):=fun hm=>hnew _ (by simpa using hm) rfl
 have pass:∀ {α:Type}{t:Sem α}{Q:α→Shared→Prop}{s},wpAny G.M S.A t Q (PostX G S X) s→wpAny G.M S.A t Q (notedBy G.M S.A S.env fun e s'=>cameBackBy G.M S.A S.env (PostX G S X) e s') s:=
   fun h=>wpAny_mono h (fun _ _ x=>x) fun e s x=>passesX O e s x
 rcases Nat.lt_or_ge i n with hlt | hge
 · refine T.item _ _ i s' _ _ _ H o _ _ hlt R hP ho hO hH fun v h' tk o' ev ho' hO' sb=>?_
   dsimp only
   have R₂:RelC G S.stk ((S.L,mm)::S.sv) S.pr H { s' with heap:=h',toks:=tk }:=R.but s.heap.objs.size (fun b o q e=>(sb.2 b q).trans e) (base_none hb) hsv hH hnp
   have R₃:RelC G S.stk ((S.L,mm)::S.sv) ((s.heap.objs.size,o')::S.pr) H { s' with heap:=h',toks:=tk }:=R₂.guard ho' (.of hb) hsv hH
   refine pass ?_
   refine wpAny_mono (turn ((s.heap.objs.size,o')::S.pr) i m H hlt hP hI v ev _ mm M R₃) (fun _ s₂ qq=>?_) fun _ _ x=>PostX.unguard x
   obtain ⟨m₂,H₂,mm₂,M₂,R₄,k⟩:=qq
   refine pass ?_
   refine wpAny_mono (k s₂ mm₂ M₂ R₄) (fun f s₃ qq=>?_) fun _ _ x=>PostX.unguard x
   obtain ⟨m₃,H₃,mm₃,M₃,R₅,k⟩:=qq
   have g:=R₅.prot _ (.head _)
   rcases f with _ | _ | _ | v
   · exact ⟨n - (i+1),by exact Nat.sub_lt_sub_left (by assumption) (Nat.lt_succ_self _),i+1,m₃,H₃,mm₃,o',rfl,hlt,M₃,R₅.unguard,k.1,k.2,g.4,g.1,hO'⟩
   · exact ⟨m₃,H₃,mm₃,M₃,R₅.unguard,k⟩
   · exact ⟨n - (i+1),by exact Nat.sub_lt_sub_left (by assumption) (Nat.lt_succ_self _),i+1,m₃,H₃,mm₃,o',rfl,hlt,M₃,R₅.unguard,k.1,k.2,g.4,g.1,hO'⟩
   · exact ⟨m₃,H₃,mm₃,M₃,R₅.unguard,k⟩
 · have:i=n:=Nat.le_antisymm hin hge
   subst this
   refine T.done _ _ s' _ _ _ H o _ _ hh R hP ho hO hH fun h' tk sb=>?_
   dsimp only
   have R₂:RelC G S.stk ((S.L,mm)::S.sv) S.pr H { s' with heap:=h',toks:=tk }:=R.but s.heap.objs.size (fun b o q e=>sb b o q e) (base_none hb) hsv hH hnp
   exact pass (fin m H hP hI _ mm M R₂)
end
end Mine
end
section
open PySem PySem.W PyProof.Rows PySem.Calls
namespace Mine
noncomputable abbrev KH:=Value→HP→Prop
inductive RetQ (G:Glb) (stk:List Env) (sv:Sv) (pr:Pr) (K:KH) (v:Value) (s':Shared):Prop where
 | mk (H':HP) (R':RelC G stk sv pr H' s') (k':K v H')
inductive ErrQ (G:Glb) (stk:List Env) (sv:Sv) (pr:Pr) (X:KH) (e:Value) (s':Shared):Prop where
 | mk (H':HP) (cls:Value) (R':RelC G stk sv pr H' s') (e':ExcAt G none pr H' e cls s') (k':X cls H')
noncomputable def Calls (G:Glb) (A:Around) (stk:List Env) (sv:Sv) (pr:Pr) (f:Value) (vs:List Value) (kw:List (Str × Value)) (K X:KH) (H:HP):Prop:=
 ∀ rf s rvs rkw,er rf=er f→RelC G stk sv pr H s→rvs.map er=vs→rkw.map (fun p=>(p.1,er p.2))=kw→codeAny G.M A (.call rf ⟨rvs,rkw⟩) (fun r s'=>match r with
   | .ok (.ret v)=>RetQ G stk sv pr K (er v) s'
   | .ok _=>False
   | .error e=>ErrQ G stk sv pr X e s') s
theorem ExcAt.any {G:Glb}{fr:Option Addr}{pr:Pr}{H:HP}{e cls:Value}{s:Shared}(h:ExcAt G none pr H e cls s):ExcAt G fr pr H e cls s:=by
 obtain ⟨a,oe,vs,rfl,a1,a2,a3,a4,a5,a6,a7⟩:=h
 refine ⟨a,oe,vs,rfl,a1,a2,a3,a4,a5,a6,a7.imp id ?_⟩
 rintro yq0
 obtain ⟨T,oT,ts,b1,b2,b3,b4,b5,b6,b7,b8⟩:=yq0
 exact ⟨T,oT,ts,b1,b2,b3,b4,b5,b6,b7,.inl (b8.elim id fun ⟨f,hf,_⟩=>by exact no_ns hf)⟩
theorem calc_of {G:Glb}{S:Sit}{f:Value}{vs:List Value}{kw:List (Str × Value)}{K X:KV}{m:Names}{H:HP}
   (h:∀ sv,Calls G S.A S.stk sv S.pr f vs kw (fun v H'=>K v m H') (fun c H'=>X c m H') H):CalC G S f vs kw K X m H:=by
 intro rf rvs rkw ef e1 e2 s mm M R
 refine wpAny_call (codeAny_mono (h _ rf s rvs rkw ef R e1 e2) fun r s' x=>?_)
 rcases r with e | (_ | _ | _ | v)
 · obtain ⟨H',cls,R',x,k⟩:=x
   exact ⟨m,H',mm,cls,M,R',x.any,k⟩
 · exact x
 · exact x
 · exact x
 · obtain ⟨H',R',k⟩:=x
   exact ⟨m,H',mm,M,R',k⟩
structure COk (A:Around) (stk:List Env) (n:Nat):Prop where
 frames:A.frames=some stk
 depth:A.depth+n≤900
 units:A.units+8 * n≤9000
noncomputable def mkM (ls:List Str) (cs:List (Str × Addr)) (gs:List (Str × Value)):Names:=ls.map (fun x=>(x,Nm.loc none))++(cs.map (fun x=>(x.1,Nm.cel x.2))++gs.map (fun x=>(x.1,Nm.glo x.2)))
noncomputable def chkM (ns:List (Str × NameKind)) (ls cs gs:List Str):Bool:=
 (ls.all fun x=>ns.lookup x==some .local)&&(cs.all fun x=>ns.lookup x==some .cell || ns.lookup x==some .free)&&(gs.all fun x=>ns.lookup x==some .globalImplicit) &&
 ((ls++cs++gs).all fun x=>!(x==("__debug__" : Str)) && !(x==("__classdict__" : Str)))&&decide (ls++cs++gs).Nodup
theorem lookup_nd {cs:List (Str × Addr)}(nd:(cs.map (·.1)).Nodup) {p:Str × Addr}(h:p∈cs):cs.lookup p.1=some p.2:=by
 induction cs with
 | nil=>cases h
 | cons q r ih=>
   rw [List.map_cons,List.nodup_cons] at nd
   rw [List.lookup_cons]
   rcases List.mem_cons.mp h with rfl | h
   · simp
   · have:(p.1==q.1)=false:=by
       rw [beq_eq_false_iff_ne];intro e;exact nd.1 (e▸List.mem_map_of_mem h)
     rw [this];exact ih nd.2 h
theorem mkM_ok {G:Glb}{env:Env}{ls:List Str}{cs:List (Str × Addr)}{gs:List (Str × Value)}(hc:env.cells=cs) (h:chkM env.scope.names ls (cs.map (·.1)) (gs.map (·.1))=true) (hg:∀ x∈gs,x∈G.gtab):MOk G env (fun _=>none) (mkM ls cs gs):=by
 simp -iota only [chkM,Bool.and_eq_true,List.all_eq_true,decide_eq_true_eq,Bool.not_eq_true',beq_iff_eq,Bool.or_eq_true] at h
 refine xe02 h fun zq0 h5=>?_
 obtain ⟨⟨⟨h1,h2⟩,h3⟩,h4⟩:=zq0
 have nd:(cs.map (·.1)).Nodup:=(List.nodup_append.mp (List.nodup_append.mp h5).1).2.1
 refine ⟨fun p hp=>?_,?_⟩
 · rcases List.mem_append.mp hp with hp | hp
   · refine xe12 (List.mem_map.mp hp) fun x hx zq2=>?_
     obtain rfl:=zq2
     have:=h4 x (by simp -iota [hx])
     exact ⟨this.1,this.2,h1 x hx,rfl⟩
   · rcases List.mem_append.mp hp with hp | hp
     · refine xe12 (List.mem_map.mp hp) fun x hx zq2=>?_
       obtain rfl:=zq2
       have q:x.1∈cs.map (·.1):=List.mem_map_of_mem hx
       have:=h4 x.1 (List.mem_append_left _ (List.mem_append_right _ q))
       exact ⟨this.1,this.2,h2 x.1 q,by rw [hc];exact lookup_nd nd hx⟩
     · refine xe12 (List.mem_map.mp hp) fun x hx zq2=>?_
       obtain rfl:=zq2
       have q:x.1∈gs.map (·.1):=List.mem_map_of_mem hx
       have:=h4 x.1 (List.mem_append_right _ q)
       exact ⟨this.1,this.2,h3 x.1 q,G.gok x (hg x hx)⟩
 · have e:(mkM ls cs gs).map (·.1)=ls++cs.map (·.1)++gs.map (·.1):=by simp -iota [mkM,Function.comp_def]
   rw [e];exact h5
noncomputable def CellsC:List (Str × NameKind)→List (Str × Addr)→HP→(List (Str × Addr)→HP→Prop)→Prop
 | [],acc,H,P=>P acc H
 | (n,k)::r,acc,H,P=>if k=.cell then ∀ c,H.o c=none→CellsC r ((n,c)::acc) (H.put c (.cell none)) P else CellsC r acc H P
inductive BindM:List (Str × Value)→Names→HP→Names→HP→Prop
 | nil {m:Names}{H:HP}:BindM [] m H m H
 | loc {x:Str}{v:Value}{r:List (Str × Value)}{m m' m'':Names}{H H'':HP}:MSet x v m m'→BindM r m' H m'' H''→BindM ((x,v)::r) m H m'' H''
 | cel {x:Str}{v:Value}{c:Addr}{o:Option Value}{r:List (Str × Value)}{m m'':Names}{H H'':HP}:(x,Nm.cel c)∈m→H.o c=some (.cell o)→BindM r m (H.put c (.cell (some v))) m'' H''→BindM ((x,v)::r) m H m'' H''
theorem CellsC.mono {names:List (Str × NameKind)}:∀ {acc:List (Str × Addr)}{H:HP}{P Q:List (Str × Addr)→HP→Prop},(∀ a H,P a H→Q a H)→CellsC names acc H P→CellsC names acc H Q:=by
 induction names with
 | nil=>intro acc H P Q h x;exact h _ _ x
 | cons p r ih=>
   intro acc H P Q h x
   obtain ⟨n,k⟩:=p
   replace x:if k=NameKind.cell then ∀ c,H.o c=none→CellsC r ((n,c)::acc) (H.put c (.cell none)) P else CellsC r acc H P:=x
   refine (?_:if k=NameKind.cell then ∀ c,H.o c=none→CellsC r ((n,c)::acc) (H.put c (.cell none)) Q else CellsC r acc H Q)
   by_cases e:k=.cell
   · rw [if_pos e] at x ⊢
     exact fun c hc=>ih h (x c hc)
   · rw [if_neg e] at x ⊢
     exact ih h x
section
variable {G:Glb}{stk:List Env}{sv:Sv}{pr:Pr}
theorem allocCells {M:Model}{A:Around}{E:Value→Shared→Prop}{p:Addr × (Str→Option Value)}(hp:p∈sv):∀ (names:List (Str × NameKind)) (acc:List (Str × Addr)) (H:HP) (s:Shared) (P:List (Str × Addr)→HP→Prop) (Q:List (Str × Addr)→Shared→Prop),RelC G stk sv pr H s→CellsC names acc H P →
   (∀ cs H' s',RelC G stk sv pr H' s'→P cs H'→Q cs s') →
   wpAny M A (forIn names acc (fun x cells=>do
     if x.2==.cell then
       let c ← alloc { cls:=.type "cell",data:=.cell none }
       pure (.yield ((x.1,c)::cells))
     else pure (.yield cells))) Q E s
 :=by
 intro names
 induction names with
 | nil=>intro acc H s P Q R h k;rw [List.forIn_nil];exact wpAny_pure (k _ _ _ R h)
 | cons p r ih=>
   obtain ⟨n,kd⟩:=p
   intro acc H s P Q R h k
   rw [List.forIn_cons]
   replace h:if kd=NameKind.cell then ∀ c,H.o c=none→CellsC r ((n,c)::acc) (H.put c (.cell none)) P else CellsC r acc H P:=h
   by_cases e:kd=.cell
   · subst e
     rw [if_pos rfl] at h
     refine wpAny_bind ?_
     simp -iota only [beq_self_eq_true,if_true]
     refine wpAny_bind (wpAny_alloc (wpAny_pure ?_))
     exact ih _ _ _ P Q (R.push hp (co:=.cell none) ⟨none,rfl,rfl⟩) (h _ R.fresh) k
   · rw [if_neg e] at h
     refine wpAny_bind ?_
     have:(kd==NameKind.cell)=false:=by simpa -iota using e
     simp -iota only [this,Bool.false_eq_true,if_false]
     exact wpAny_pure (ih _ _ _ P Q R h k)
theorem RelC.newFrame {H:HP}{s:Shared}{cls:Value}(R:RelC G stk sv pr H s) (hb:G.base.objs.size≤s.heap.objs.size):RelC G stk ((s.heap.objs.size,fun _=>none)::sv) pr H { s with heap:=s.heap.push { cls:=cls,data:=.dict #[] } }:=by
 have R':=R.junk (o:={ cls:=cls,data:=.dict #[] })
 have ne:∀ b∈sv.map (·.1),b≠s.heap.objs.size:=fun b hm q=>by
   refine xe12 (List.mem_map.mp hm) fun p' hp' e'=>?_
   exact absurd (R.ns p' hp').1.lt (by rw [e',q];exact Nat.lt_irrefl _)
 refine ⟨R'.base,R'.frames,fun env he f hf=>.tail _ (R'.fsv env he f hf),fun p hp=>?_,?_,fun a co e=>?_,fun p hp=>?_,R'.gens,R'.bare,R'.os⟩
 · rcases List.mem_cons.mp hp with rfl | hp
   · exact ⟨Heap.Ns.new _ _,hb⟩
   · exact R'.ns p hp
 · rw [List.map_cons,List.nodup_cons]
   exact ⟨fun hm=>ne _ hm rfl,R'.nd⟩
 · obtain ⟨x,y,z⟩:=R'.own a co e
   refine ⟨x,fun hm=>?_,z⟩
   rcases List.mem_cons.mp hm with q | q
   · have q':a=s.heap.objs.size:=q
     rw [q',R.fresh] at e;exact no_ns e
   · exact y q
 · obtain ⟨x,y,z,u⟩:=R'.prot p hp
   refine ⟨x,y,fun hm=>?_,u⟩
   rcases List.mem_cons.mp hm with q | q
   · exact absurd (Heap.lt_size (R.prot p hp).1) (by rw [show p.1=s.heap.objs.size from q];exact Nat.lt_irrefl _)
   · exact z q
end
section
variable {G:Glb}{S:Sit}{X:KV}
theorem pair_er {rb:List (Str × Value)}{p:Str × Value}{r:List (Str × Value)}(e:p::r=rb.map fun p=>(p.1,er p.2)):∃ v rb',rb=(p.1,v)::rb'∧er v=p.2∧r=rb'.map fun p=>(p.1,er p.2):=by
 refine xe23 (List.map_eq_cons_iff.mp e.symm) fun q l zq2 zq3 zq4=>?_
 obtain rfl:=zq2
 obtain rfl:=zq3
 obtain rfl:=zq4
 exact ⟨_,_,rfl,rfl,rfl⟩
theorem storeAll (hk:S.env.scope.kind=.function) (hl:S.env.locals=S.L) (rb:List (Str × Value)) {m:Names}{H:HP}{m':Names}{H':HP}(h:BindM (rb.map fun p=>(p.1,er p.2)) m H m' H') :
   W G S (forIn rb PUnit.unit (fun x _=>do storeName S.env x.1 x.2;pure (ForInStep.yield PUnit.unit))) (fun _ m₁ H₁=>m₁=m'∧H₁=H') X m H:=by
 generalize e:(rb.map fun p=>(p.1,er p.2))=bs at h
 induction h generalizing rb with
 | nil=>rw [List.map_eq_nil_iff.mp e,List.forIn_nil];exact W.pure ⟨rfl,rfl⟩
 | loc h1 h2 ih=>
   refine xe23 (pair_er e.symm) fun v r zq2 e1 e2=>?_
   obtain rfl:=zq2
   rw [List.forIn_cons]
   exact W.bind (W.bind (storeLoc' hk hl h1 e1 (W.pure (ih r e2.symm))))
 | cel h1 h2 h3 ih=>
   refine xe23 (pair_er e.symm) fun v r zq2 e1 e2=>?_
   obtain rfl:=zq2
   rw [List.forIn_cons]
   exact W.bind (W.bind (storeCel' hk h1 h2 e1 (W.pure (ih r e2.symm))))
end
theorem RelC.sleep {G:Glb}{stk:List Env}{sv:Sv}{pr:Pr}{H:HP}{s:Shared}{env:Env}{L:Addr}{mm:Str→Option Value}(R:RelC G (env::stk) ((L,mm)::sv) pr H s) (hfs:∀ e∈stk,∀ f,e.frame=some f→f∈sv.map (·.1)):RelC G stk sv pr H s where
 base:=R.base
 frames:=R.frames.2.2
 fsv:=hfs
 ns:=fun p hp=>R.ns p (.tail _ hp)
 nd:=(List.nodup_cons.mp (by rw [← List.map_cons];exact R.nd)).2
 own:=fun a co e=>by obtain ⟨x,y,z⟩:=R.own a co e;exact ⟨x,fun hm=>y (.tail _ hm),z⟩
 prot:=fun p hp=>by obtain ⟨x,y,z,u⟩:=R.prot p hp;exact ⟨x,y,fun hm=>z (.tail _ hm),u⟩
 gens:=R.gens
 bare:=R.bare
 os:=R.os
theorem COk.deeper {A:Around}{stk:List Env}{n:Nat}(C:COk A stk (n+1)) (env:Env):COk (A.deeper env) (env::stk) n:=
 ⟨Around.frames_deeper C.frames,by have:=C.depth;refine (?_:A.depth+1+n≤900);rwa [Nat.add_assoc,Nat.add_comm 1 n],by have:=C.units;rw [Nat.mul_succ,← Nat.add_assoc] at this;refine (?_:A.units+3+8 * n≤9000);rw [Nat.add_right_comm];exact Nat.le_trans (Nat.add_le_add_left (by decide:3≤8) _) this⟩
noncomputable def frEnv (fd:FuncData) (f L:Addr) (cs:List (Str × Addr)):Env:={ scope:=fd.scope,locals:=L,globals:=mainGlobals,cells:=cs,qual:=fd.qualname ++ ".<locals>.",func:=some f,code:=fd.code,frame:=some L,builtins:=builtinsNs }
inductive FrQ (G:Glb) (stk:List Env) (sv:Sv) (pr:Pr) (fd:FuncData) (f L:Addr) (binds:List (Str × Value)) (Q:Env→Shared→Prop) (cs:List (Str × Addr)) (H:HP):Prop
 | mk (m₀ m₁:Names) (H₁:HP) (M:MOk G (frEnv fd f L cs) (fun _=>none) m₀) (hB:BindM binds m₀ H m₁ H₁)
   (k:∀ mm s,MOk G (frEnv fd f L cs) mm m₁→RelC G stk ((L,mm)::sv) pr H₁ s→RelC G (frEnv fd f L cs::stk) ((L,mm)::sv) pr H₁ s→Q (frEnv fd f L cs) s)
theorem frameIn {G:Glb}{A:Around}{stk:List Env}{sv:Sv}{pr:Pr}{f:Addr}{H:HP}{fd:FuncData}{s:Shared}{E:Value→Shared→Prop}{Q:Env→Shared→Prop}{rb binds:List (Str × Value)}(hbe:rb.map (fun p=>(p.1,er p.2))=binds)
   (R:RelC G stk sv pr H s) (hbig:G.base.objs.size≤s.heap.objs.size) (hkind:fd.scope.kind=.function) (hgl:fd.globals=mainGlobals) (hbl:fd.builtins=builtinsNs)
   (h:CellsC fd.scope.names fd.closure H (FrQ G stk sv pr fd f s.heap.objs.size binds Q)) :
   wpAny G.M A (newFunctionEnv fd.scope fd.globals fd.closure rb (fd.qualname ++ ".<locals>.") (some f) fd.code none fd.builtins) Q E s:=by
 unfold newFunctionEnv
 refine wpAny_bind (wpAny_alloc ?_)
 have R₁:=R.newFrame (cls:=.type (if (none:Option Env).isSome then "dict" else "frame")) hbig
 refine wpAny_bind (allocCells (.head _) _ _ _ _ _ _ R₁ h fun cs H' s' R₂ h₂=>?_)
 obtain ⟨m₀,m₁,H₁,M₀,hB,k⟩:=h₂
 rw [hgl,hbl]
 refine wpAny_bind (wpAny_mono (storeAll (G:=G) (S:=⟨A,stk,sv,pr,s.heap.objs.size,frEnv fd f s.heap.objs.size cs⟩) (X:=fun _ _ _=>False) hkind rfl rb (by rw [hbe];exact hB) s' _ M₀ R₂) ?_ ?_)
 · rintro _ s₂ yq2
   obtain ⟨m',H'',mm,M',R',rfl,rfl⟩:=yq2
   refine wpAny_pure (k mm s₂ M' R' ?_)
   refine ⟨R'.base,Heap.FunFrames.cons (by rw [show (frEnv fd f s.heap.objs.size cs).scope.kind=.function from hkind];decide) rfl (R'.ns _ (.head _)).1 (R'.sv_base (.head _)) R'.frames,fun e he f hf=>?_,R'.ns,R'.nd,R'.own,R'.prot,R'.gens,R'.bare,R'.os⟩
   rcases List.mem_cons.mp he with rfl | he
   · obtain rfl:=Option.some.inj hf;exact .head _
   · exact R'.fsv e he f hf
 · rintro e s₂ yq2
   obtain ⟨_,_,_,_,_,_,_,k⟩:=yq2
   exact k.elim
theorem enter {G:Glb}{A:Around}{stk:List Env}{sv:Sv}{pr:Pr}{f:Addr}{vs:List Value}{kw:List (Str × Value)}{K X:KH}{H:HP}{n:Nat}
   (C:COk A stk (n+1)) {fd:FuncData}{oc:Value}{od:Option Addr}{osl:Array (Option Value)}(ho:G.K.lookup f=some ⟨oc,od,.func fd,osl⟩) {body:List Stmt}(hbody:fd.body=.stmts body)
   {binds:List (Str × Value)}(hbind:∀ s rvs rkw,G.K.In s.heap→rvs.map er=vs→rkw.map (fun p=>(p.1,er p.2))=kw→∃ rb,BindsTo s fd ⟨rvs,rkw⟩ rb∧rb.map (fun p=>(p.1,er p.2))=binds)
   (hco:fd.scope.isCoroutine=false) (hgen:fd.scope.isGenerator=false) (hcl:fd.closure=[]) (hkind:fd.scope.kind=.function) (hgl:fd.globals=mainGlobals) (hbl:fd.builtins=builtinsNs) (hcd:codeIn G.K fd.code fd.qualname=true)
   (big:∀ s,RelC G stk sv pr H s→G.base.objs.size≤s.heap.objs.size)
   (h:∀ L,CellsC fd.scope.names [] H fun cs H'=>∀ env,env=({ scope:=fd.scope,locals:=L,globals:=mainGlobals,cells:=cs,qual:=fd.qualname ++ ".<locals>.",func:=some f,code:=fd.code,frame:=some L,builtins:=builtinsNs }:Env) →
     ∃ m₀ m₁ H₁,MOk G env (fun _=>none) m₀∧BindM binds m₀ H' m₁ H₁∧∀ S:Sit,S=⟨A.deeper env,env::stk,sv,pr,L,env⟩→S.Ok G→COk S.A S.stk n →
       WS G S body (fun fl _ H=>K (match fl with | .ret v=>v | _=>.none) H) (fun c _ H=>X c H) m₁ H₁):Calls G A stk sv pr (.ref f) vs kw K X H:=by
 intro rf s rvs rkw ef R e1 e2
 obtain rfl:=er_ref' ef
 have KIn:=G.X.keeps R.base
 refine xe12 (hbind s rvs rkw KIn e1 e2) fun rb hb hbe=>?_
 refine codeAny_call_function (Nat.lt_of_le_of_lt (Nat.le_trans (Nat.le_add_right _ _) C.depth) (by decide)) (KIn _ _ ho) rfl hco hgen hbody (codeRec_of KIn hcd) (hb _ _ _ _ (frameIn hbe R (big s R) hkind hgl hbl ?_))
 rw [hcl]
 refine CellsC.mono (fun cs H' h₂=>?_) (h s.heap.objs.size)
 refine xe33 (h₂ _ rfl) fun m₀ m₁ H₁ M₀ hB h₃=>?_
 refine ⟨m₀,m₁,H₁,M₀,hB,fun mm s₂ M' R' R₃=>⟨G.T.nolimit.keeps R'.base,codeAny_func ?_⟩⟩
 have h₄:=h₃ _ rfl ⟨hkind,rfl,rfl,rfl,Around.frames_deeper C.frames,hco,_,_,_,rfl,rfl,rfl⟩ (C.deeper (frEnv fd f s.heap.objs.size cs))
 refine wpAny_mono (h₄ s₂ mm M' R₃) ?_ ?_
 · rintro fl s₃ yq2
   obtain ⟨m₂,H₂,mm₂,M₂,R₄,k⟩:=yq2
   refine ⟨H₂,R₄.sleep R.fsv,?_⟩
   cases fl<;>exact k
 · rintro e s₃ yq2
   obtain ⟨m₂,H₂,mm₂,cls,M₂,R₄,x,k⟩:=yq2
   refine leavingW R₄ (Around.frames_deeper C.frames) rfl rfl rfl (by simp -iota) x fun s₄ a ea R₅ x₅=>?_
   subst ea
   exact ⟨H₂,cls,R₅.sleep R.fsv,x₅.exc (.inl rfl),k⟩
end Mine
end
section
open PySem PySem.W PyProof.Rows PySem.Calls
namespace Mine
theorem EntsAre.keys {des:List DictEntry}{es:List (Str × Value)}(h:EntsAre des es):∀ e∈des,∃ n t,e.key=.str n t:=by
 induction h with
 | nil=>exact fun _ h=>absurd h List.not_mem_nil
 | cons ht _ ih=>exact List.forall_mem_cons.mpr ⟨⟨_,_,ht⟩,ih⟩
theorem EntsAre.find {des:List DictEntry}{es:List (Str × Value)}(h:EntsAre des es) (x:Str):((des.find? (·.key.isStr x)).map (·.val)).map er=es.lookup x:=by
 induction h with
 | nil=>rfl
 | @cons e t y r q ht _ ih=>
   have:e.key.isStr x=(x==y):=by rw [ht];exact BEq.comm
   rw [List.find?_cons,List.lookup_cons,this]
   rcases x==y with _ | _
   · exact ih
   · rfl
noncomputable def nset (x:Str) (v:Value):List (Str × Value)→List (Str × Value)
 | []=>[(x,v)]
 | p::r=>if (p.1==x)=true then (p.1,v)::r else p::nset x v r
theorem EntsAre.put {x:Str}{hsh:Int}{t:Tok}{v:Value}{des:List DictEntry}{es:List (Str × Value)}(h:EntsAre des es):EntsAre (putL x hsh (.str x t) v des) (nset x (er v) es):=by
 induction h with
 | nil=>exact .cons rfl .nil
 | @cons e t y r q ht h ih=>
   have:e.key.isStr x=(y==x):=by rw [ht];rfl
   refine (?_:EntsAre (if e.key.isStr x=true then _::r else e::putL x hsh _ v r) (if (y==x)=true then (y,er v)::q else (y,er e.val)::nset x (er v) q))
   rw [this]
   rcases y==x with _ | _
   · exact .cons ht ih
   · exact .cons ht h
theorem EntsAre.length {des:List DictEntry}{es:List (Str × Value)}(h:EntsAre des es):des.length=es.length:=by
 induction h with
 | nil=>rfl
 | cons _ _ ih=>exact congrArg (·+1) ih
theorem lookup_mem {es:List (Str × Value)}(nd:(es.map (·.1)).Nodup) {x:Str}{v:Value}(h:(x,v)∈es):es.lookup x=some v:=by
 induction es with
 | nil=>cases h
 | cons q r ih=>
   rw [List.map_cons,List.nodup_cons] at nd
   rw [List.lookup_cons]
   rcases List.mem_cons.mp h with rfl | h
   · simp
   · have:(x==q.1)=false:=by
       rw [beq_eq_false_iff_ne];intro e;exact nd.1 (e▸List.mem_map_of_mem (f:=Prod.fst) h)
     rw [this];exact ih nd.2 h
theorem lookup_out {es:List (Str × Value)}{x:Str}(h:(es.map (·.1)).contains x=false):es.lookup x=none:=by
 induction es with
 | nil=>rfl
 | cons q r ih=>
   rw [List.map_cons,List.contains_cons,Bool.or_eq_false_iff] at h
   rw [List.lookup_cons,h.1];exact ih h.2
inductive NSet (x:Str) (v:Value):List (Str × Value)→List (Str × Value)→Prop where
 | here {o:Value}{r:List (Str × Value)}:NSet x v ((x,o)::r) ((x,v)::r)
 | next {p:Str × Value}{r r':List (Str × Value)}:NSet x v r r'→NSet x v (p::r) (p::r')
theorem NSet.names {x:Str}{v:Value}{m m':List (Str × Value)}(h:NSet x v m m'):m'.map (·.1)=m.map (·.1):=by
 induction h with
 | here=>rfl
 | next _ ih=>rw [List.map_cons,List.map_cons,ih]
theorem NSet.was {x:Str}{v:Value}{m m':List (Str × Value)}(h:NSet x v m m'):x∈m.map (·.1):=by
 induction h with
 | here=>exact .head _
 | next _ ih=>exact .tail _ ih
theorem NSet.nset {x:Str}{v:Value}{m m':List (Str × Value)}(h:NSet x v m m') (nd:(m.map (·.1)).Nodup):Mine.nset x v m=m':=by
 induction h with
 | @here o r=>exact if_pos (beq_self_eq_true x)
 | @next p r r' h ih=>
   rw [List.map_cons,List.nodup_cons] at nd
   have:(p.1==x)=false:=by rw [beq_eq_false_iff_ne];intro e;exact nd.1 (e▸h.was)
   refine (?_:(if (p.1==x)=true then (p.1,v)::r else p::Mine.nset x v r)=_)
   rw [this,if_neg Bool.false_ne_true,ih nd.2]
theorem nset_snoc {x:Str}{v:Value}{m:List (Str × Value)}(h:(m.map (·.1)).contains x=false):nset x v m=m++[(x,v)]:=by
 induction m with
 | nil=>rfl
 | cons p r ih=>
   rw [List.map_cons,List.contains_cons,Bool.or_eq_false_iff] at h
   have:(p.1==x)=false:=by rw [← h.1];exact BEq.comm
   refine (?_:(if (p.1==x)=true then (p.1,v)::r else p::nset x v r)=_)
   rw [this,if_neg Bool.false_ne_true,ih h.2];rfl
section
variable {G:Glb}{stk:List Env}{sv:Sv}{pr:Pr}{H:HP}{s:Shared}
theorem relNs (R:RelC G stk sv pr H s) {d:Addr}{es:List (Str × Value)}(h:H.o d=some (.ns es)):(es.map (·.1)).Nodup∧∃ des n,s.heap.get? d=some (dictOf des n)∧EntsAre des es:=by
 obtain ⟨o,ho,nd,des,n,rfl,h⟩:=R.get h
 exact ⟨nd,des,n,ho,h⟩
theorem lookIn_ns {des:List DictEntry}{es:List (Str × Value)}{n:Nat}(h:EntsAre des es) (x:Str):∃ r,lookIn x (dictOf des n)=some r∧r.map er=es.lookup x:=by
 unfold lookIn
 dsimp only
 have e:=h.find x
 cases q:des.find? (·.key.isStr x) with
 | some en=>rw [q] at e;exact ⟨_,rfl,e⟩
 | none=>
   rw [q] at e
   have:des.any (·.refKey)=false:=by
     rw [List.any_eq_false];intro e he
     refine xe21 (h.keys e he) fun nm t hk'=>?_
     simp [DictEntry.refKey,hk']
   rw [this]
   exact ⟨_,rfl,e⟩
theorem relInst (R:RelC G stk sv pr H s) {x C d:Addr}{es:List (Str × Value)}(hx:H.o x=some (.inst C d)) (hd:H.o d=some (.ns es)) :
   (es.map (·.1)).Nodup∧∃ des n,InstAt s.heap x ({ cls:=.ref C,dict:=some d,data:=.plain }:Obj) C (some (dictOf des n))∧s.heap.get? d=some (dictOf des n)∧EntsAre des es:=by
 obtain ⟨o,ho,rfl⟩:=R.get hx
 obtain ⟨nd,des,n,h0,h1⟩:=relNs R hd
 exact ⟨nd,des,n,⟨ho,rfl,rfl,h0⟩,h0,h1⟩
end
noncomputable def ownAt (K:Frag) (C:Addr) (name:Str):Bool:=plainGet K C name&&hasDictIn K C&&(match findIn K (.ref C) name with | some attr=>noGet K attr | none=>false)
noncomputable def clsAt (K:Frag) (C:Addr) (name:Str) (a:Value):Bool:=plainGet K C name&&hasDictIn K C&&findIn K (.ref C) name==some (some a)&&specialIn K a "__get__"==some none&&handedIn a && !copiedNames.contains name
noncomputable def mthAt (K:Frag) (C:Addr) (name:Str) (f:Addr):Bool:=plainGet K C name&&hasDictIn K C&&findIn K (.ref C) name==some (some (.ref f))&&isFn K (.ref f)
noncomputable def setAt (K:Frag) (C:Addr) (name:Str):Bool:=findIn K (.ref C) "__setattr__"==some (some (.builtin "object.__setattr__"))&&plainOver K C&&takerIn K C name==some none&&hasDictIn K C
section
variable {G:Glb}{S:Sit}{X:KV}{m:Names}{H:HP}{K:KV}{KB:Bool→Names→HP→Prop}{KFl:KF}{KU:Unit→Names→HP→Prop}
theorem handed_er {rv v:Value}(e:er rv=v) (h:handedIn v=true):handedIn rv=true:=by
 subst e;cases rv<;>exact h
theorem g_own {x C d:Addr}{n:Str}{v:Value}{es:List (Str × Value)}(hx:H.o x=some (.inst C d)) (hd:H.o d=some (.ns es)) (hm:(n,v)∈es) (hc:ownAt G.K C n=true) (hh:handedIn v=true) (h:K v m H):GetA G S (.ref x) n K X m H:=by
 intro ro e s mm M R
 rw [er_ref' e]
 obtain ⟨nd,des,k,I,h0,h1⟩:=relInst R hx hd
 simp only [ownAt,Bool.and_eq_true] at hc
 obtain ⟨⟨c1,c2⟩,c3⟩:=hc
 refine xe12 (lookIn_ns (n:=k) h1 n) fun lr hl l=>?_
 rw [lookup_mem nd hm] at l
 obtain ⟨rv,rfl,e2⟩:=Option.map_eq_some_iff.mp l
 rcases ha:findIn G.K (.ref C) n with _ | attr
 · rw [ha] at c3;exact no_ft c3
 · rw [ha] at c3
   refine get_value (G.X.keeps R.base) I (plainGet_of c1).1 (findObj_own c2 ha c3 hl) (handed_er e2 hh) ⟨m,H,mm,M,R.toks _,?_⟩
   show K (er rv) m H
   rw [e2];exact h
theorem g_cls {x C d:Addr}{n:Str}{a:Value}{es:List (Str × Value)}(hx:H.o x=some (.inst C d)) (hd:H.o d=some (.ns es)) (hn:(es.map (·.1)).contains n=false) (hc:clsAt G.K C n a=true) (h:K (er a) m H):GetA G S (.ref x) n K X m H:=by
 intro ro e s mm M R
 rw [er_ref' e]
 obtain ⟨nd,des,k,I,h0,h1⟩:=relInst R hx hd
 simp only [clsAt,Bool.and_eq_true,beq_iff_eq,Bool.not_eq_true'] at hc
 obtain ⟨⟨⟨⟨⟨c1,c2⟩,c3⟩,c4⟩,c5⟩,c6⟩:=hc
 refine xe12 (lookIn_ns (n:=k) h1 n) fun lr hl l=>?_
 rw [lookup_out hn] at l
 obtain rfl:lr=none:=by cases lr with | none=>rfl | some z=>exact no_sn l
 exact get_value (G.X.keeps R.base) I (plainGet_of c1).1 (findObj_cls c2 c3 c4 c5 c6 hl) c5 ⟨m,H,mm,M,R.toks _,h⟩
theorem m_inst {x C d f:Addr}{n:Str}{es:List (Str × Value)}{KM:Value→List Value→Names→HP→Prop}(hx:H.o x=some (.inst C d)) (hd:H.o d=some (.ns es)) (hn:(es.map (·.1)).contains n=false) (hc:mthAt G.K C n f=true) (h:KM (.ref f) [.ref x] m H):MetC G S (.ref x) n KM X m H:=by
 intro ro pl e s mm M R
 rw [er_ref' e]
 obtain ⟨nd,des,k,I,h0,h1⟩:=relInst R hx hd
 simp only [mthAt,Bool.and_eq_true,beq_iff_eq] at hc
 obtain ⟨⟨⟨c1,c2⟩,c3⟩,c4⟩:=hc
 refine xe12 (lookIn_ns (n:=k) h1 n) fun lr hl l=>?_
 rw [lookup_out hn] at l
 obtain rfl:lr=none:=by cases lr with | none=>rfl | some z=>exact no_sn l
 exact method_fn (G.X.keeps R.base) I (plainGet_of c1).1 (plainGet_of c1).2 c3 (beq_iff_eq.mp c4) (by show (lookIn n _).map _=_;rw [hl];rfl) ⟨m,H,mm,M,R,h⟩
noncomputable def cvalAt (K:Frag) (C:Addr) (n:Str) (a:Value):Bool:=readsIn K C (.type "type")&&(match findCls K (.ref C) (.type "type") n with | some (.val b)=>b==a | _=>false)&&handedIn a
noncomputable def addrOf:Value→Option Addr
 | .ref a=>some a
 | _=>none
theorem any_inv {α:Type}{o:Option α}{p:α→Bool}(h:o.any p=true):∃ a,o=some a∧p a=true:=by
 rcases o with _ | a
 · exact Bool.noConfusion (h:false=true)
 · exact ⟨a,rfl,h⟩
theorem addr_any {v:Value}{p:Addr→Bool}(h:(addrOf v).any p=true):∃ a,v=.ref a∧p a=true:=by
 cases v<;>first | exact ⟨_,rfl,h⟩ | exact Bool.noConfusion (h:false=true)
theorem head_inv {l:List Value}{v:Value}(h:(l.head?==some v)=true):∃ r,l=v::r:=by
 rcases l with _ | ⟨a,r⟩
 · exact Bool.noConfusion (h:false=true)
 · exact ⟨r,by rw [Option.some.inj (beq_iff_eq.mp h)]⟩
noncomputable def csmAt (K:Frag) (C:Addr) (n:Str) (f:Value):Bool:=readsIn K C (.type "type")&&(match findCls K (.ref C) (.type "type") n with
 | some (.get g b v c)=>g==.builtin "staticmethod.__get__"&&v==.none&&c==.ref C&&(addrOf b).any (fun p=>(recIn K p "staticmethod").any fun l=>l.head?==some f)
 | _=>false)&&handedIn f
theorem g_cval {C:Addr}{n:Str}{a:Value}(hc:cvalAt G.K C n a=true) (h:K (er a) m H):GetA G S (.ref C) n K X m H:=by
 intro ro e s mm M R
 rw [er_ref' e]
 simp only [cvalAt,Bool.and_eq_true] at hc
 obtain ⟨⟨c1,c2⟩,c3⟩:=hc
 rcases hb:findCls G.K (.ref C) (.type "type") n with _ | z
 · rw [hb] at c2;exact no_ft c2
 · rw [hb] at c2
   cases z<;>first | exact no_ft c2 | skip
   obtain rfl:=beq_iff_eq.mp c2
   exact cls_value (G.X.keeps R.base) c1 hb c3 ⟨m,H,mm,M,R.toks _,h⟩
theorem m_csm {C:Addr}{n:Str}{f:Value}{KM:Value→List Value→Names→HP→Prop}(hc:csmAt G.K C n f=true) (hg:specialIn G.K (.ref C) "__getattribute__" = some (some (.builtin "type.__getattribute__"))) (h:KM f [] m H):MetC G S (.ref C) n KM X m H:=by
 intro ro pl e s mm M R
 rw [er_ref' e]
 simp only [csmAt,Bool.and_eq_true] at hc
 obtain ⟨⟨c1,c2⟩,c3⟩:=hc
 rcases hb:findCls G.K (.ref C) (.type "type") n with _ | z
 · rw [hb] at c2;exact no_ft c2
 · rw [hb] at c2
   cases z<;>first | exact no_ft c2 | skip
   refine xe02 (Bool.and_eq_true_iff.mp c2) fun c2 c4=>?_
   refine xe02 (Bool.and_eq_true_iff.mp c2) fun c2 c5=>?_
   refine xe02 (Bool.and_eq_true_iff.mp c2) fun c2 c6=>?_
   obtain rfl:=beq_iff_eq.mp c2
   obtain rfl:=beq_iff_eq.mp c6
   obtain rfl:=beq_iff_eq.mp c5
   obtain ⟨p,rfl,c7⟩:=addr_any c4
   refine xe12 (any_inv c7) fun _ hp c8=>?_
   obtain ⟨l,rfl⟩:=head_inv c8
   refine method_cls (G.X.keeps R.base) hg ?_
   exact cls_bind (G.X.keeps R.base) c1 hb (wpAny_call (sm_get (s:={ s with toks:=s.toks+1 }) (G.X.keeps R.base) hp (handed_on c3 ⟨m,H,mm,M,R.toks _,h⟩)))
theorem setAttrW {x C d:Addr}{n:Str}{v:Value}{es es':List (Str × Value)}(hx:H.o x=some (.inst C d)) (hd:H.o d=some (.ns es)) (hc:setAt G.K C n=true)
   (nd':(es.map (·.1)).Nodup→(es'.map (·.1)).Nodup) (hl:(es.map (·.1)).Nodup→nset n v es=es') (hz:es'.length≤1000) (h:KU () m (H.put d (.ns es'))):SetA G S (.ref x) n v KU X m H:=by
 intro ro rv e1 e2 s mm M R
 rw [er_ref' e1]
 obtain ⟨nd,des,k,I,h0,h1⟩:=relInst R hx hd
 simp only [setAt,Bool.and_eq_true,beq_iff_eq] at hc
 obtain ⟨⟨⟨c1,c2⟩,c3⟩,c4⟩:=hc
 have KIn:=G.X.keeps R.base
 refine set_plain KIn I c1 (osa_open (s:={ s with toks:=s.toks+1 }) KIn I c2 c3 fun b=>?_)
 refine xe12 (any_some c4) fun cd hcl hd'=>?_
 obtain ⟨hxx,-,-,-⟩:=I
 refine wpAny_bind (wpAny_pure (wpAny_bind (wpAny_bind (wpAny_loadPart hxx (wpAny_bind ((looks_clsIn KIn hcl) _ _ _ _ (fun _ _ e=>e) ?_))))))
 rw [hd']
 refine wpAny_pure (a:=some d) (wpAny_bind (wpAny_pure (wpAny_bind ?_)))
 unfold nsSet
 refine wpAny_bind (wpAny_bind (wpAny_askSetting (wpAny_pure (wpAny_bind (wpAny_mkText (wpAny_bind (wpAny_loadPart h0 ?_)))))))
 have c:(!des.toArray.any (·.key.isStr n)&&des.toArray.any (·.refKey))=false:=by
   have:des.any (·.refKey)=false:=by
     rw [List.any_eq_false];intro e he
     refine xe21 (h1.keys e he) fun nm t hk'=>?_
     simp [DictEntry.refKey,hk']
   rw [← Array.any_toList,← Array.any_toList]
   rw [this,Bool.and_false]
 dsimp only
 rw [aRefKeyMayBeTheName_at,c]
 have D':=Heap.get?_update_self (Obj.putName n (PyData.keyHash G.w.params n) (.str n (s.toks+1)) rv) h0 (by rw [putName_dict];rfl)
 rw [putName_dict] at D'
 have en:=h1.put (x:=n) (hsh:=PyData.keyHash G.w.params n) (t:=s.toks+1) (v:=rv)
 rw [e2,hl nd] at en
 refine wpAny_updatePart h0 ?_
 refine wpAny_bind (wpAny_lookBehind D' (pastItsLine_dict (by rw [List.size_toArray,sizeLine_eq,en.length];exact Nat.le_trans (by assumption) (by decide +kernel))) ?_)
 refine wpAny_pure ?_
 exact ⟨m,_,mm,M,R.upd (co':=.ns es') (tk:=s.toks+2) hd (fun b q=>Heap.get?_update_other _ _ (Ne.symm q)) D' (show OR _ _ (.ns es') _ from ⟨nd' nd,_,_,rfl,en⟩),h⟩
theorem set_old {x C d:Addr}{n:Str}{v:Value}{es es':List (Str × Value)}(hx:H.o x=some (.inst C d)) (hd:H.o d=some (.ns es)) (hc:setAt G.K C n=true) (hs:NSet n v es es') (hz:es'.length≤1000) (h:KU () m (H.put d (.ns es'))):SetA G S (.ref x) n v KU X m H:=
 setAttrW hx hd hc (fun nd=>by rw [hs.names];exact nd) (fun nd=>hs.nset nd) hz h
theorem set_new {x C d:Addr}{n:Str}{v:Value}{es:List (Str × Value)}(hx:H.o x=some (.inst C d)) (hd:H.o d=some (.ns es)) (hc:setAt G.K C n=true) (hn:(es.map (·.1)).contains n=false) (hz:(es++[(n,v)]).length≤1000) (h:KU () m (H.put d (.ns (es++[(n,v)])))):SetA G S (.ref x) n v KU X m H:=
 setAttrW hx hd hc (fun nd=>by
   rw [List.map_append,List.nodup_append]
   refine ⟨nd,by simp,fun a ha b hb=>?_⟩
   simp at hb;subst hb
   rintro rfl
   rw [List.contains_eq_mem] at hn
   simp at hn ha
   refine xe11 ha fun w hw=>?_
   exact hn w hw) (fun nd=>nset_snoc hn) hz h
end
theorem under_make {A:Around}{stk:List Env}{n:Nat}{C:Addr}{vs:List Value}{kw:List (Str × Value)}(h:COk A stk (n+1)):COk (A.under (.builtin "type.__call__" ⟨.ref C::vs,kw⟩)) stk n:=by
 have hw:(Code.builtin "type.__call__" ⟨.ref C::vs,kw⟩).weight=1:=rfl
 have hu:(Code.builtin "type.__call__" ⟨.ref C::vs,kw⟩).cUnits=1:=rfl
 refine ⟨h.frames,?_,?_⟩
 · show A.depth+(Code.builtin "type.__call__" ⟨.ref C::vs,kw⟩).weight+n≤900
   rw [hw];have:=h.depth;exact Nat.le_trans (Nat.le_of_eq (Nat.add_right_comm _ 1 n)) this
 · show A.units+(Code.builtin "type.__call__" ⟨.ref C::vs,kw⟩).cUnits+8 * n≤9000
   rw [hu];have:=h.units;exact Nat.le_trans (Nat.le_of_eq (Nat.add_right_comm _ 1 (8 * n))) (Nat.le_trans (Nat.add_le_add_left (by decide:1≤8) (A.units+8 * n)) this)
theorem makeI {G:Glb}{A:Around}{stk:List Env}{sv:Sv}{pr:Pr}{C fI:Addr}{vs:List Value}{kw:List (Str × Value)}{K X:KH}{H:HP}{n:Nat}(hA:COk A stk (n+1))
   (hm:makesIn G.K C=true) (hi:findIn G.K (.ref C) "__init__" = some (some (.ref fI))) (hf:typeIn G.K (.ref fI)=some (.type "function")) (hne:sv≠[])
   (h:∀ A' d x,COk A' stk n→A'.handled=A.handled→H.o d=none→H.o x=none→x≠d→Calls G A' stk sv pr (.ref fI) (.ref x::vs) kw (fun v H'=>v=.none∧K (.ref x) H') X ((H.put d (.ns [])).put x (.inst C d))) :
   Calls G A stk sv pr (.ref C) vs kw K X H:=by
 intro rf s rvs rkw ef R e1 e2
 obtain rfl:=er_ref' ef
 have KIn:=G.X.keeps R.base
 obtain ⟨p,hp⟩:=List.exists_mem_of_ne_nil _ hne
 have R₁:=R.push hp (o:=emptyDict) (co:=.ns []) ⟨List.nodup_nil,[],0,rfl,.nil⟩
 have R₂:=R₁.push hp (o:=instObj C s.heap.objs.size) (co:=.inst C s.heap.objs.size) rfl
 have sz:(s.heap.push emptyDict).objs.size=s.heap.objs.size+1:=Heap.size_push ..
 have hx:H.o (s.heap.objs.size+1)=none:=by
   rcases q:H.o (s.heap.objs.size+1) with _ | co
   · rfl
   · obtain ⟨o,ho,_⟩:=R.get q;exact absurd (Heap.lt_size ho) (Nat.not_lt.mpr (Nat.le_succ _))
 obtain ⟨hh,g,dr,t,os⟩:=s
 refine make_core (makes_of KIn hm) (looks_findIn KIn hi) (fun self=>bind_fn KIn self hf) (.inl rfl) ?_
 simp only [sz] at R₂
 refine codeAny_mono (h _ _ _ (under_make hA) rfl R.fresh hx (Nat.succ_ne_self _) _ _ (.ref (hh.objs.size+1)::rvs) rkw rfl R₂ (by simp [e1]) e2) fun r s' x=>?_
 rcases r with e | (_ | _ | _ | v)
 · exact x
 · exact x
 · exact x
 · exact x
 · obtain ⟨H',R',e,k⟩:=x
   exact ⟨er_none' e,H',R',k⟩
end Mine
end
section
open PySem PySem.W PyProof.Rows PySem.Calls
namespace Mine
noncomputable def Sit.mark (S:Sit) (e:Value):Sit:={ S with A:=S.A.mark (some e) }
theorem Sit.Ok.mark {G:Glb}{S:Sit}(O:S.Ok G) (e:Value):(S.mark e).Ok G:=⟨O.kind,O.loc,O.glob,O.blt,O.frames,O.co,O.top⟩
theorem mark_under {A:Around}{c:Code}(h:c.weight=0) (hu:c.cUnits=0):A.under c=A:=Around.under_of_weight h hu
section
variable {G:Glb}{S:Sit}{X:KV}{m:Names}{H:HP}{K:KV}{KB:Bool→Names→HP→Prop}{KFl:KF}{KU:Unit→Names→HP→Prop}
theorem w_newList {vs:List Value}(hsz:vs.length≤sizeLine) (h:∀ a,H.o a=none→K (.ref a) m (H.put a (.list (vs.map er)))):WV G S (newList vs) K X m H:=by
 intro s mm M R
 refine wpAny_newObj_type ?_ (by show vs.toArray.size≤sizeLine;rw [List.size_toArray];exact hsz)
 exact ⟨m,_,mm,M,R.push (.head _) (co:=.list (vs.map er)) ⟨vs.toArray,0,rfl,by simp⟩,h _ R.fresh⟩
theorem w_newTuple {vs:List Value}(hsz:vs.length≤sizeLine) (h:∀ a,H.o a=none→K (.ref a) m (H.put a (.tup (vs.map er)))):WV G S (newTuple vs) K X m H:=by
 intro s mm M R
 refine wpAny_newObj_type ?_ (by show vs.toArray.size≤sizeLine;rw [List.size_toArray];exact hsz)
 exact ⟨m,_,mm,M,R.push (.head _) (co:=.tup (vs.map er)) ⟨vs.toArray,0,rfl,by simp⟩,h _ R.fresh⟩
theorem e_list {es:List Expr}{p:Pos}(h:WL G S es p (fun vs m H=>vs.length≤sizeLine∧∀ a,H.o a=none→K (.ref a) m (H.put a (.list vs))) X m H):WE G S (.List es p) K X m H:=
 W.bind (W.standAt (W.bind (W.post h fun vs m H h=>w_newList (by simpa using h.1) h.2)))
theorem e_tup {es:List Expr}{k:Nat}{p:Pos}(h:WL G S es p (fun vs m H=>vs.length≤sizeLine∧∀ a,H.o a=none→K (.ref a) m (H.put a (.tup vs))) X m H):WE G S (.Tuple es k p) K X m H:=
 W.bind (W.standAt (W.bind (W.post h fun vs m H h=>w_newTuple (by simpa using h.1) h.2)))
theorem x_while {t:Expr}{body orelse:List Stmt}{p:Pos}(O:S.Ok G) (I:Nat→Names→HP→Prop) (n:Nat) (h0:I n m H)
   (turn:∀ n m H,I n m H→WT G S t (fun b m H=>if b=true then WS G S body (turnK (fun m H=>∃ k,k<n∧I k m H) KFl) X m H else WS G S orelse KFl X m H) X m H):WX G S (.While t body orelse p) KFl X m H:=by
 intro s mm M R
 refine wpAny_While ?_
 refine codeAny_whileLoop (fun k s'=>Post G S I k s') ?_ n ⟨m,H,mm,M,R,h0⟩
 rintro n s' yq2
 obtain ⟨m,H,mm,M,R,hI⟩:=yq2
 have pass:∀ {α:Type}{t:Sem α}{Q:α→Shared→Prop}{s},wpAny G.M S.A t Q (PostX G S X) s→wpAny G.M S.A t Q (notedBy G.M S.A S.env fun e s'=>cameBackBy G.M S.A S.env (PostX G S X) e s') s:=
   fun h=>wpAny_mono h (fun _ _ x=>x) fun e s x=>passesX O e s x
 refine pass (wpAny_mono (turn n m H hI s' mm M R) (fun b s₂ qq=>?_) fun _ _ x=>x)
 obtain ⟨m₂,H₂,mm₂,M₂,R₂,k⟩:=qq
 rcases b with _ | _
 ·
   rw [if_neg (by decide)] at k ⊢
   exact pass (k s₂ mm₂ M₂ R₂)
 ·
   rw [if_pos rfl] at k ⊢
   refine pass (wpAny_mono (k s₂ mm₂ M₂ R₂) (fun f s₃ qq=>?_) fun _ _ x=>x)
   obtain ⟨m₃,H₃,mm₃,M₃,R₃,k⟩:=qq
   cases f with
   | next=>obtain ⟨j,hj,hI⟩:=k;exact ⟨j,hj,m₃,H₃,mm₃,M₃,R₃,hI⟩
   | cont=>obtain ⟨j,hj,hI⟩:=k;exact ⟨j,hj,m₃,H₃,mm₃,M₃,R₃,hI⟩
   | brk=>exact ⟨m₃,H₃,mm₃,M₃,R₃,k⟩
   | ret v=>exact ⟨m₃,H₃,mm₃,M₃,R₃,k⟩
theorem x_try {body hbody orelse:List Stmt}{t:Expr}{p hp:Pos}(O:S.Ok G) {b₀:Stmt}{bs:List Stmt}(hb:hbody=b₀::bs)
   (h:WS G S body (seqK G S orelse KFl X)
     (fun cls m H=>∃ ty,((∃ C,ty=.ref C)∨∃ T,ty=.type T)∧exmOne G.K cls ty=some true∧∀ e pr,WE G ((S.guard pr).mark e) t (fun v m' H'=>v=ty∧m'=m∧H'=H) (fun _ _ _=>False) m H∧WS G ((S.guard pr).mark e) hbody KFl X m H) m H) :
   WX G S (.Try body [.ExceptHandler (some t) none hbody hp] orelse [] p) KFl X m H:=by
 refine W.bind (W.standAt ?_)
 intro s mm M R
 refine wpAny_tryStmt_except (wpAny_mono (h s mm M R) (fun f s₁ ⟨m₁,H₁,mm₁,M₁,R₁,k⟩=>?_) ?_)
 · rcases f with _ | _ | _ | v
   · exact k s₁ mm₁ M₁ R₁
   · exact ⟨m₁,H₁,mm₁,M₁,R₁,k⟩
   · exact ⟨m₁,H₁,mm₁,M₁,R₁,k⟩
   · exact ⟨m₁,H₁,mm₁,M₁,R₁,k⟩
 · rintro e s₁ yq2
   obtain ⟨m₁,H₁,mm₁,cls,M₁,R₁,x,ty,hcl,hx,k⟩:=yq2
   refine xe33 O.top fun e₀ r f hs h0 h1=>?_
   rw [h1] at x
   refine noteFr R₁ O.frames hs h0 h1 (by simp) x fun s₂ a ea R₂ x₂=>?_
   subst ea
   refine setFl R₂ x₂ fun s₃ R₃ x₃=>?_
   have hnb:(Value.ref a)≠byPass:=by intro q;cases q
   have x₃':=x₃
   obtain ⟨oe,vs,T,oT,ts,a1,a2,a3,a4,a5,a6,a7,a8,a9,b1,b2,b3,b4,b5⟩:=x₃'
   have R₄:RelC G S.stk ((S.L,mm₁)::S.sv) ((a,oe)::(T,oT)::S.pr) H₁ s₃:=(R₃.guard b3 a9 (not_sv R₃ b3 b4) b1).guard a1 a4 (not_sv R₃ a1 a3) a5
   refine xe02 (k (.ref a) ((a,oe)::(T,oT)::S.pr)) fun kt kb=>?_
   have OG:=(O.guard ((a,oe)::(T,oT)::S.pr)).mark (.ref a)
   have px:∀ {x:Value}{s:Shared},PostX G ((S.guard ((a,oe)::(T,oT)::S.pr)).mark (.ref a)) X x s→PostX G S X x s:=fun h=>
     PostX.unguard (S:=S) (PostX.unguard (S:=S.guard ((T,oT)::S.pr)) h.sit)
   refine wpAny_handleBy_cons ?_ hnb
   refine codeAny_of_tree ?_
   rw [mark_under rfl rfl]
   show wpAny G.M (S.A.mark (some (.ref a))) ((handleWith (.ref a) S.env [.ExceptHandler (some t) none [] hp]).onRaise (fun x=>do noteFrame x S.env;theTreesLotGoes x) >>= fun f=>pure (Fin.done f)) _ _ _
   refine wpAny_bind (wpAny_noted ?_)
   show wpAny G.M (S.A.mark (some (.ref a))) (do
     standAt hp
     let ty ← eval t S.env
     standAt hp
     return if ← excMatches (.ref a) ty then Flow.brk else Flow.next) _ _ _
   refine wpAny_bind (wpAny_standAt (wpAny_bind ?_))
   refine wpAny_mono (kt s₃ mm₁ M₁ R₄) ?_ ?_
   · rintro v s₄ yq2
     obtain ⟨m₄,H₄,mm₄,M₄,R₅,ev,rfl,rfl⟩:=yq2
     obtain rfl:v=ty:=by
       rcases hcl with ⟨C,rfl⟩ | ⟨C,rfl⟩
       · exact er_ref' ev
       · exact er_type' ev
     refine wpAny_bind (wpAny_standAt (wpAny_bind ?_))
     have he:s₄.heap.get? a=some oe:=(R₅.prot (a,oe) (.head _)).1
     have LT:Looks G.M s₄.heap (typeOf (.ref a)) cls:=by
       have:=(Looks.ld (M:=G.M) (part:=none) he).andThen (f:=fun o=>pure o.cls) (b:=oe.cls) .now
       rw [a2] at this;exact this
     refine (exm_one (G.X.keeps R₅.base) LT hx) _ _ _ _ (fun _ _ e=>e) ?_
     refine wpAny_pure (wpAny_pure ?_)
     dsimp only
     refine codeAny_of_tree ?_
     rw [mark_under rfl rfl]
     show wpAny G.M (S.A.mark (some (.ref a))) ((handleWith (.ref a) S.env [.ExceptHandler none none hbody hp]).onRaise (fun x=>do noteFrame x S.env;theTreesLotGoes x) >>= fun f=>pure (Fin.done f)) _ _ _
     refine wpAny_bind (wpAny_noted ?_)
     subst hb
     show wpAny G.M (S.A.mark (some (.ref a))) (do
       standAt hp
       setFlight (.ref a) none
       execs (b₀::bs) S.env) _ _ _
     refine wpAny_bind (wpAny_standAt (wpAny_bind ?_))
     have R₅':RelC G S.stk ((S.L,mm₄)::S.sv) S.pr H₄ s₄:=R₅.unguard.unguard
     have hT:s₄.heap.get? T=some oT:=(R₅.prot (T,oT) (.tail _ (.head _))).1
     refine setFl R₅' ⟨oe,vs,T,oT,ts,he,a2,a3,a4,a5,a6,a7,a8,a9,b1,b2,hT,b4,b5⟩ fun s₅ R₆ x₆=>?_
     obtain ⟨oe',vs',T',oT',ts',c1,c2,c3,c4,c5,c6,c7,c8,c9,d1,d2,d3,d4,d5⟩:=x₆
     have R₇:RelC G S.stk ((S.L,mm₄)::S.sv) ((a,oe')::(T',oT')::S.pr) H₄ s₅:=(R₆.guard d3 c9 (not_sv R₆ d3 d4) d1).guard c1 c4 (not_sv R₆ c1 c3) c5
     obtain ⟨-,kb⟩:=k (.ref a) ((a,oe')::(T',oT')::S.pr)
     refine wpAny_mono (kb s₅ mm₄ M₄ R₇) ?_ ?_
     · rintro fl s₆ yq2
       obtain ⟨m₆,H₆,mm₆,M₆,R₈,k₈⟩:=yq2
       refine wpAny_pure ?_
       exact ⟨m₆,H₆,mm₆,M₆,R₈.unguard.unguard,k₈⟩
     · intro x s₆ px'
       exact passesXA O (A':=S.A.mark (some (.ref a))) O.frames (PostX.unguard (S:=S) (PostX.unguard (S:=S.guard ((T',oT')::S.pr)) px'.sit))
   · rintro v s₄ yq2
     obtain ⟨_,_,_,_,_,_,_,q⟩:=yq2
     exact q.elim
end
end Mine
end
section
open PySem PySem.W PyProof.Rows PySem.Calls
namespace Mine
inductive Clos (m:Names):List (Str × NameKind)→List (Str × Addr)→List (Str × Addr)→Prop where
 | nil {acc:List (Str × Addr)}:Clos m [] acc acc
 | free {x:Str}{c:Addr}{r:List (Str × NameKind)}{acc cs:List (Str × Addr)}:(x,Nm.cel c)∈m→Clos m r ((x,c)::acc) cs→Clos m ((x,.free)::r) acc cs
 | skip {x:Str}{k:NameKind}{r:List (Str × NameKind)}{acc cs:List (Str × Addr)}:k≠.free→Clos m r acc cs→Clos m ((x,k)::r) acc cs
theorem clos_for {G:Glb}{env:Env}{mm:Str→Option Value}{m:Names}(M:MOk G env mm m) {names:List (Str × NameKind)}{acc cs:List (Str × Addr)}(h:Clos m names acc cs) :
   (forIn names acc (fun (x:Str × NameKind) (r:List (Str × Addr))=>(match x with
     | (name,kind)=>if (kind==NameKind.free)=true then do
         let a ← cellOf env name
         pure (ForInStep.yield ((name,a)::r))
       else pure (ForInStep.yield r):Sem (ForInStep (List (Str × Addr))))):Sem (List (Str × Addr)))=pure cs:=by
 induction h with
 | nil=>rw [List.forIn_nil]
 | @free x c r acc cs hm h ih=>
   rw [List.forIn_cons]
   have hl:=(M.ok _ hm).2.2.2
   have e:cellOf env x=pure c:=by unfold cellOf;rw [hl]
   simp only [beq_self_eq_true,if_true,e,pure_bind]
   exact ih
 | @skip x k r acc cs hk h ih=>
   rw [List.forIn_cons]
   have:(k==NameKind.free)=false:=by simpa using hk
   simp only [this,Bool.false_eq_true,if_false,pure_bind]
   exact ih
theorem clos_is {G:Glb}{env:Env}{mm:Str→Option Value}{m:Names}(M:MOk G env mm m) {scope:Scope}{cs:List (Str × Addr)}(h:Clos m scope.names [] cs):closureFor scope env=pure cs:=by
 have:=clos_for M h
 unfold closureFor
 simp only [bind_pure]
 exact this
noncomputable def IfsC (G:Glb) (S:Sit):List Expr→(Bool→Names→HP→Prop)→KV→Names→HP→Prop
 | [],K,_,m,H=>K true m H
 | [c],K,X,m,H=>WT G S c K X m H
 | _,_,_,_,_=>False
theorem ifsW {G:Glb}{S:Sit}{ifs:List Expr}{K:Bool→Names→HP→Prop}{X:KV}{m:Names}{H:HP}(h:IfsC G S ifs K X m H) :
   W G S (forIn ifs true fun c r=>if r=true then do let ok ← isTrue c S.env (eval c S.env);pure (ForInStep.yield ok) else pure (ForInStep.yield r)) K X m H:=by
 match ifs,h with
 | [],h=>exact W.pure h
 | [c],h=>exact fun s mm M R=>wpAny_tests_one (h s mm M R)
theorem RelC.swap {G:Glb}{stk:List Env}{p q:Addr × (Str→Option Value)}{sv:Sv}{pr:Pr}{H:HP}{s:Shared}(R:RelC G stk (p::q::sv) pr H s):RelC G stk (q::p::sv) pr H s:=by
 have mem:∀ {a:Addr},a∈(q::p::sv).map (·.1)→a∈(p::q::sv).map (·.1):=fun {a} h=>by
   simp only [List.map_cons,List.mem_cons] at h ⊢
   rcases h with h | h | h
   · exact .inr (.inl h)
   · exact .inl h
   · exact .inr (.inr h)
 have mem':∀ {a:Addr},a∈(p::q::sv).map (·.1)→a∈(q::p::sv).map (·.1):=fun {a} h=>by
   simp only [List.map_cons,List.mem_cons] at h ⊢
   rcases h with h | h | h
   · exact .inr (.inl h)
   · exact .inl h
   · exact .inr (.inr h)
 refine ⟨R.base,R.frames,fun e he f hf=>mem' (R.fsv e he f hf),fun x hx=>R.ns x ?_,?_,fun a co e=>let ⟨x,y,z⟩:=R.own a co e;⟨x,fun h=>y (mem h),z⟩,fun x hx=>let ⟨a,b,c,d⟩:=R.prot x hx;⟨a,b,fun h=>c (mem h),d⟩,R.gens,R.bare,R.os⟩
 · simp only [List.mem_cons] at hx ⊢
   rcases hx with h | h | h
   · exact .inr (.inl h)
   · exact .inl h
   · exact .inr (.inr h)
 · have nd:=R.nd
   simp only [List.map_cons,List.nodup_cons,List.mem_cons,not_or] at nd ⊢
   exact ⟨⟨fun h=>nd.1.1 h.symm,nd.2.1⟩,nd.1.2,nd.2.2⟩
theorem RelC.dropFrame {G:Glb}{stk:List Env}{p:Addr × (Str→Option Value)}{sv:Sv}{pr:Pr}{H:HP}{s:Shared}(R:RelC G stk (p::sv) pr H s) (hf:∀ env∈stk,∀ f,env.frame=some f→f∈sv.map (·.1)) {h':Heap}{tk:Nat}(sb:Heap.SameBut p.1 s.heap h'):RelC G stk sv pr H { s with heap:=h',toks:=tk }:=by
 have np:∀ {a:Addr},a∈sv.map (·.1)→a≠p.1:=fun h q=>by
   have nd:=R.nd
   rw [List.map_cons,List.nodup_cons] at nd
   exact nd.1 (q▸h)
 have hp:=R.sv_base (.head _:p.1∈(p::sv).map (·.1))
 have no:∀ {a:Addr}{co:CO},H.o a=some co→a≠p.1:=fun e q=>(R.own _ _ e).2 (by rw [q];exact .head _)
 have npr:∀ x∈pr,x.1≠p.1:=fun x hx q=>(R.prot x hx).3 (by rw [q];exact .head _)
 have nd:=R.nd
 rw [List.map_cons,List.nodup_cons] at nd
 refine ⟨fun b o e=>(sb.2 b fun q=>by rw [q,hp] at e;exact no_ns e).trans (R.base b o e),frames_keeps R.frames fun b o e hm=>⟨o,?_,id⟩,hf,fun x hx=>⟨ns_keeps (R.ns x (.tail _ hx)).1 fun o e=>?_,(R.ns x (.tail _ hx)).2⟩,nd.2,fun a co e=>?_,fun x hx=>?_,R.gens,R.bare,R.os⟩
 · refine xe12 (List.mem_filterMap.mp hm) fun env he hf'=>?_
   rw [sb.2 b (np (hf env he b hf'))];exact e
 · rw [sb.2 _ (np (List.mem_map_of_mem hx))];exact e
 · obtain ⟨x,y,o,z,u⟩:=R.own a co e
   exact ⟨x,fun h=>y (.tail _ h),o,(sb.2 a (no e)).trans z,u⟩
 · obtain ⟨a,b,c,d⟩:=R.prot x hx
   exact ⟨(sb.2 _ (npr x hx)).trans a,b,fun h=>c (.tail _ h),d⟩
end Mine
end
section
open PySem PySem.W PyProof.Rows PySem.Calls
namespace Mine
noncomputable abbrev noX:KV:=fun _ _ _=>False
theorem PostX.no {G:Glb}{S:Sit}{e:Value}{s:Shared}(h:PostX G S noX e s):False:=by
 obtain ⟨_,_,_,_,_,_,_,q⟩:=h;exact q
inductive AccIn (G:Glb) (pr:Pr) (D:Addr) (ys:List Value) (sv:Sv) (ho:Addr→Option CO) (h:Heap):Prop where
 | mk (rvs:Array Value) (a0:h.PlainList D rvs) (a1:rvs.toList.map er=ys) (a2:Off G D) (a3:D∉sv.map (·.1)) (a4:ho D=none) (a5:D∉pr.map (·.1))
noncomputable abbrev AccAt (G:Glb) (pr:Pr) (D:Addr) (ys:List Value) (sv:Sv) (H:HP) (s:Shared):Prop:=
 AccIn G pr D ys sv H.o s.heap
theorem AccIn.npr {G:Glb}{pr:Pr}{D:Addr}{ys:List Value}{sv:Sv}{ho:Addr→Option CO}{h:Heap}(a:AccIn G pr D ys sv ho h):D∉pr.map (·.1):=a.casesOn fun _ _ _ _ _ _ q=>q
inductive FillQ (G:Glb) (S:Sit) (D:Addr) (K:List Value→Names→HP→Prop) (s:Shared):Prop where
 | mk (ys:List Value) (m:Names) (H:HP) (mm:Str→Option Value) (M:MOk G S.env mm m) (R:RelC G S.stk ((S.L,mm)::S.sv) S.pr H s) (a:AccAt G S.pr D ys ((S.L,mm)::S.sv) H s) (k:K ys m H)
noncomputable def FillOk (G:Glb) (S:Sit) (D:Addr) (emit:Sem Unit) (EP:Sit→List Value→(List Value→Names→HP→Prop)→Names→HP→Prop):Prop:=
 ∀ pr ys K m H oD,EP (S.guard ((D,oD)::pr)) ys K m H→∀ s mm E,MOk G S.env mm m→RelC G S.stk ((S.L,mm)::S.sv) ((D,oD)::pr) H s→D∉pr.map (·.1)→(∃ rvs n,oD={ cls:=.type "list",data:=.seq rvs n }∧rvs.toList.map er=ys) →
   wpAny G.M S.A emit (fun _ s'=>FillQ G (S.guard pr) D K s') E s
section
variable {G:Glb}{S:Sit}{D:Addr}{m:Names}{H:HP}{K:List Value→Names→HP→Prop}
theorem AccAt.guard {pr:Pr}{ys:List Value}{sv:Sv}{s:Shared}(a:AccAt G pr D ys sv H s) {stk:List Env}(R:RelC G stk sv pr H s):∃ oD,RelC G stk sv ((D,oD)::pr) H s∧∃ rvs n,oD={ cls:=.type "list",data:=.seq rvs n }∧rvs.toList.map er=ys:=by
 obtain ⟨rvs,⟨n,ho⟩,e,a1,a2,a3,a4⟩:=a
 exact ⟨_,R.guard ho a1 a2 a3,rvs,n,rfl,e⟩
theorem AccAt.back {pr:Pr}{ys:List Value}{sv:Sv}{s:Shared}{oD:Obj}{stk:List Env}(R:RelC G stk sv ((D,oD)::pr) H s) (h:∃ rvs n,oD={ cls:=.type "list",data:=.seq rvs n }∧rvs.toList.map er=ys) (hp:D∉pr.map (·.1)):AccAt G pr D ys sv H s:=by
 refine xe22 h fun rvs n zq2 e=>?_
 obtain rfl:=zq2
 obtain ⟨a,b,c,d⟩:=R.prot _ (.head _)
 exact ⟨rvs,⟨n,a⟩,e,b,c,d,hp⟩
noncomputable def EltP (G:Glb) (elt:Expr) (S':Sit) (ys:List Value) (K:List Value→Names→HP→Prop) (m:Names) (H:HP):Prop:=ys.length≤sizeLine∧WE G S' elt (fun y m H=>K (ys++[y]) m H) noX m H
theorem elt_ok {elt:Expr}:FillOk G S D (do let _ ← call (.builtin "list.append") [.ref D,← eval elt S.env]) (EltP G elt):=by
 rintro pr ys K m H oD yq6 s mm E M R₁ hDp hO
 obtain ⟨hsz,h⟩:=yq6
 refine wpAny_bind (wpAny_mono (h s mm M R₁) (fun x s₁ qq=>?_) fun _ _ q=>q.no.elim)
 obtain ⟨m₁,H₁,mm₁,M₁,R₂,k⟩:=qq
 have a₁:AccAt G pr D ys ((S.L,mm₁)::S.sv) H₁ s₁:=.back R₂ hO hDp
 obtain ⟨rvs,hl,e,a1,a2,a3,a4⟩:=a₁
 have hs:rvs.size≤sizeLine:=by
   have:rvs.size=ys.length:=by rw [← e];simp
   refine (this ..).symm▸?_;exact hsz
 refine wpAny_bind (wpAny_list_append_plain hl (fun h' hl' sb=>wpAny_pure ?_) hs)
 have R₃:RelC G S.stk ((S.L,mm₁)::S.sv) pr H₁ { s₁ with heap:=h' }:=(R₂.unguard).but (tk:=s₁.toks) D (fun b o q e=>(sb.2 b q).trans e) (a1.1) a2 a3 a4
 exact ⟨ys++[er x],m₁,H₁,mm₁,M₁,R₃,⟨rvs.push x,hl',by rw [Array.toList_push,List.map_append,e];rfl,a1,a2,a3,a4⟩,k⟩
inductive TurnJ (G:Glb) (S:Sit) (pr:Pr) (D it:Addr) (n:Nat) (P:HP→Prop) (I:Nat→List Value→Names→HP→Prop) (Ob:Nat→Obj→Prop) (k:Nat) (s':Shared):Prop where
 | mk (i:Nat) (ys:List Value) (m:Names) (H:HP) (mm:Str→Option Value) (o:Obj) (h0:k=n - i) (h1:i≤n) (M:MOk G S.env mm m) (R:RelC G S.stk ((S.L,mm)::S.sv) pr H s') (a:AccAt G pr D ys ((S.L,mm)::S.sv) H s') (p:P H) (q:I i ys m H) (h2:H.o it=none) (h3:s'.heap.get? it=some o) (h4:Ob i o)
theorem turnsW {e:Expr}{k:Nat}{t ite:Expr}{ifs:List Expr}{emit:Sem Unit}{EP:Sit→List Value→(List Value→Names→HP→Prop)→Names→HP→Prop}(hF:FillOk G S D emit EP)
   (hh:S.A.handled=none) (hq:∀ it,(Code.compLoop e k it (.ref D) S.env).quiet=true) (hu:∀ it,S.A.under (.compLoop e k it (.ref D) S.env)=S.A) (hden:∀ it,G.M.den (.compLoop e k it (.ref D) S.env)=(compTurn e k it (.ref D) S.env).onRaise (fun x=>do noteFrame x S.env;theTreesLotGoes x))
   (heq:∀ it,compTurn e k it (.ref D) S.env=(do
     standAt ite.pos
     match ← pyNext it with
     | none=>pure (.done .next)
     | some v=>
       letOwnedTupleGo t it v
       assign t S.env v
       let mut ok:=true
       for c in ifs do
         if ok then ok ← isTrue c S.env (eval c S.env)
       if ok then emit
       again (.compLoop e k it (.ref D) S.env)))
   (ht:∀ it v,letOwnedTupleGo t it v=pure ())
   {v:Value}{n:Nat}{vs:Nat→Value}{Ob:Nat→Obj→Prop}{P:HP→Prop}(T:Itb G v n vs Ob P) (I:Nat→List Value→Names→HP→Prop)
   (turn:∀ pr i ys m H,i<n→P H→I i ys m H→AsgC G (S.guard pr) t (vs i) (fun _=>IfsC G (S.guard pr) ifs (fun b m H=>if b=true then EP (S.guard pr) ys (fun ys m H=>P H∧I (i+1) ys m H) m H else P H∧I (i+1) ys m H) noX) noX m H)
   (fin:∀ ys m H,P H→I n ys m H→K ys m H) {R:Result→Shared→Prop}{pr:Pr}{it:Addr}(hR:∀ s,FillQ G (S.guard pr) D K s→R (.ok .next) s)
   (hitb:G.base.objs.size≤it) (hitD:it≠D) (hip:it∉pr.map (·.1)) {ys:List Value}{s:Shared}{mm:Str→Option Value}(M:MOk G S.env mm m) (R₀:RelC G S.stk ((S.L,mm)::S.sv) pr H s) (a:AccAt G pr D ys ((S.L,mm)::S.sv) H s)
   (hI:I 0 ys m H) (hP:P H) {o:Obj}(ho:s.heap.get? it=some o) (hO:Ob 0 o) (hs:it∉((S.L,mm)::S.sv).map (·.1)) (hn:H.o it=none) :
   codeAny G.M S.A (.compLoop e k (.ref it) (.ref D) S.env) R s:=by
 refine codeAny_loop (hq _) (TurnJ G S pr D it n P I Ob) ?_ n
   ⟨0,ys,m,H,mm,o,rfl,Nat.zero_le _,M,R₀,a,hP,hI,hn,ho,hO⟩
 rintro k' s' yq2
 obtain ⟨i,ys,m,H,mm,o,rfl,hin,M,R,a,hP,hI,hH,ho,hO⟩:=yq2
 refine (hu ..).symm▸?_;refine (hden ..).symm▸?_
 refine wpAny_noted ?_
 refine (heq ..).symm▸?_
 refine wpAny_bind (wpAny_standAt (wpAny_bind ?_))
 have hsv:it∉((S.L,mm)::S.sv).map (·.1):=by simpa using hs
 rcases Nat.lt_or_ge i n with hlt | hge
 · refine T.item _ _ i s' _ _ _ H o _ _ hlt R hP ho hO hH fun v h' tk o' ev ho' hO' sb=>?_
   dsimp only
   rw [ht]
   refine wpAny_bind (wpAny_pure (wpAny_bind ?_))
   have R₂:RelC G S.stk ((S.L,mm)::S.sv) pr H { s' with heap:=h',toks:=tk }:=R.but it (fun b o q e=>(sb.2 b q).trans e) (base_none hitb) hsv hH hip
   have a₂:AccAt G pr D ys ((S.L,mm)::S.sv) H { s' with heap:=h',toks:=tk }:=by
     obtain ⟨rvs,⟨n,hl⟩,e,a1,a2,a3,a4⟩:=a
     exact ⟨rvs,⟨n,(sb.2 _ (Ne.symm hitD)).trans hl⟩,e,a1,a2,a3,a4⟩
   have R₃:RelC G S.stk ((S.L,mm)::S.sv) ((it,o')::pr) H { s' with heap:=h',toks:=tk }:=R₂.guard ho' (.of hitb) hsv hH
   have a₃:AccAt G ((it,o')::pr) D ys ((S.L,mm)::S.sv) H { s' with heap:=h',toks:=tk }:=by
     obtain ⟨rvs,hl,e,a1,a2,a3,a4⟩:=a₂
     exact ⟨rvs,hl,e,a1,a2,a3,fun q=>(List.mem_cons.mp (q:D∈it::pr.map (·.1))).elim (fun q=>hitD q.symm) a4⟩
   refine xe12 (a₃.guard R₃) fun oD R₄ hOD=>?_
   have hDp:D∉(((it,o')::pr):Pr).map (·.1):=a₃.npr
   refine wpAny_mono (turn ((D,oD)::(it,o')::pr) i ys m H hlt hP hI v ev _ mm M R₄) (fun _ s₂ qq=>?_) fun _ _ q=>q.no.elim
   obtain ⟨m₂,H₂,mm₂,M₂,R₅,k⟩:=qq
   refine wpAny_bind (wpAny_mono (ifsW k s₂ mm₂ M₂ R₅) (fun ok s₃ qq=>?_) fun _ _ q=>q.no.elim)
   obtain ⟨m₃,H₃,mm₃,M₃,R₆,k⟩:=qq
   have again:∀ {ys m H mm s},MOk G S.env mm m→RelC G S.stk ((S.L,mm)::S.sv) ((it,o')::pr) H s→AccAt G ((it,o')::pr) D ys ((S.L,mm)::S.sv) H s→P H→I (i+1) ys m H →
       TurnJ G S pr D it n P I Ob (n - (i+1)) s:=by
     intro ys m H mm s M R a p q
     have g:=R.prot _ (.head _)
     refine ⟨i+1,ys,m,H,mm,o',rfl,hlt,M,R.unguard,?_,p,q,g.4,g.1,hO'⟩
     obtain ⟨rvs,hl,e,a1,a2,a3,a4⟩:=a
     exact ⟨rvs,hl,e,a1,a2,a3,fun q=>a4 (.tail _ q)⟩
   rcases ok with _ | _
   ·
     rw [if_neg (by decide)] at k
     rw [if_neg (by decide)]
     refine wpAny_bind (wpAny_pure (wpAny_pure ⟨rfl,n - (i+1),by exact Nat.sub_lt_sub_left (by assumption) (Nat.lt_succ_self _),?_⟩))
     exact again M₃ R₆.unguard (.back R₆ hOD hDp) k.1 k.2
   ·
     rw [if_pos rfl] at k
     refine (if_pos rfl ..).symm▸?_
     refine wpAny_bind (wpAny_mono (hF ((it,o')::pr) ys _ m₃ H₃ oD k s₃ mm₃ _ M₃ R₆ hDp hOD) (fun _ s₄ qq=>?_) fun _ _ q=>q)
     obtain ⟨ys₄,m₄,H₄,mm₄,M₄,R₇,a₄,k⟩:=qq
     exact wpAny_pure ⟨rfl,n - (i+1),by exact Nat.sub_lt_sub_left (by assumption) (Nat.lt_succ_self _),again M₄ R₇ a₄ k.1 k.2⟩
 · have:i=n:=Nat.le_antisymm hin hge
   subst this
   refine T.done _ _ s' _ _ _ H o _ _ hh R hP ho hO hH fun h' tk sb=>?_
   have R₂:RelC G S.stk ((S.L,mm)::S.sv) pr H { s' with heap:=h',toks:=tk }:=R.but it (fun b o q e=>sb b o q e) (base_none hitb) hsv hH hip
   refine wpAny_pure (hR _ ⟨ys,m,H,mm,M,R₂,?_,fin ys m H hP hI⟩)
   obtain ⟨rvs,⟨n,hl⟩,e,a1,a2,a3,a4⟩:=a
   exact ⟨rvs,⟨n,sb _ _ (Ne.symm hitD) hl⟩,e,a1,a2,a3,a4⟩
end
noncomputable abbrev Turn (e:Expr) (k:Nat) (t ite:Expr) (ifs:List Expr) (emit:Value→Env→Sem Unit):Prop:=∀ it acc env,compTurn e k it acc env=(do
     standAt ite.pos
     match ← pyNext it with
     | none=>pure (.done .next)
     | some v=>
       letOwnedTupleGo t it v
       assign t env v
       let mut ok:=true
       for c in ifs do
         if ok then ok ← isTrue c env (eval c env)
       if ok then emit acc env
       again (.compLoop e k it acc env))
theorem chk_relabel {scope:Scope}{env:Env}{ls cs gs:List Str}(h:chkM scope.names ls cs gs=true):chkM (relabel scope env).names ls cs gs=true:=by
 simp only [chkM,Bool.and_eq_true,List.all_eq_true,decide_eq_true_eq,Bool.not_eq_true',beq_iff_eq,Bool.or_eq_true] at h ⊢
 refine xe02 h fun zq0 h5=>?_
 obtain ⟨⟨⟨h1,h2⟩,h3⟩,h4⟩:=zq0
 have key:∀ (names:List (Str × NameKind)) x k,names.lookup x=some k→(names.map fun (n,k)=>if (k==NameKind.free&&env.scope.kind==.function&&env.kindOf n==some .cell) then (n,NameKind.cell) else (n,k)).lookup x=some k ∨
     (k=.free∧(names.map fun (n,k)=>if (k==NameKind.free&&env.scope.kind==.function&&env.kindOf n==some .cell) then (n,NameKind.cell) else (n,k)).lookup x=some .cell):=by
   intro names x k
   induction names with
   | nil=>intro h;simp at h
   | cons p r ih=>
     obtain ⟨n,k'⟩:=p
     intro h
     refine (?_:List.lookup x ((if (k'==NameKind.free&&env.scope.kind==.function&&env.kindOf n==some .cell)=true then (n,NameKind.cell) else (n,k'))::_)=_∨(_∧List.lookup x ((if (k'==NameKind.free&&env.scope.kind==.function&&env.kindOf n==some .cell)=true then (n,NameKind.cell) else (n,k'))::_)=_))
     rw [List.lookup_cons] at h
     rcases hx:x==n with _ | _
     ·
       rw [hx] at h
       dsimp only at h
       have:=ih h
       by_cases hc:(k'==NameKind.free&&env.scope.kind==.function&&env.kindOf n==some .cell)=true
       · refine (if_pos hc ..).symm▸?_;simpa only [List.lookup_cons,hx] using this
       · refine (if_neg hc ..).symm▸?_;simpa only [List.lookup_cons,hx] using this
     ·
       rw [hx] at h
       dsimp only at h;cases h
       by_cases hc:(k==NameKind.free&&env.scope.kind==.function&&env.kindOf n==some .cell)=true
       · refine (if_pos hc ..).symm▸?_;refine .inr ⟨?_,by simp [List.lookup_cons,hx]⟩
         simp at hc;exact hc.1.1
       · refine (if_neg hc ..).symm▸?_;exact .inl (by simp [List.lookup_cons,hx])
 refine ⟨⟨⟨⟨fun x hx=>?_,fun x hx=>?_⟩,fun x hx=>?_⟩,h4⟩,h5⟩
 · rcases key _ _ _ (h1 x hx) with h | ⟨h,_⟩
   · exact h
   · cases h
 · rcases h2 x hx with h | h
   · rcases key _ _ _ h with h | ⟨h,_⟩
     · exact .inl h
     · cases h
   · rcases key _ _ _ h with h | ⟨_,h⟩
     · exact .inr h
     · exact .inl h
 · rcases key _ _ _ (h3 x hx) with h | ⟨h,_⟩
   · exact h
   · cases h
noncomputable def compSit (S:Sit) (scope:Scope) (cs:List (Str × Addr)) (mm:Str→Option Value) (C:Addr):Sit:=⟨S.A,S.stk,(S.L,mm)::S.sv,S.pr,C,compEnvC scope cs C S.env⟩
theorem compSit_ok {G:Glb}{S:Sit}(O:S.Ok G) {scope:Scope}(hkind:scope.kind=.function) (hco:scope.isCoroutine=false) {cs mm C}:(compSit S scope cs mm C).Ok G:=
 ⟨hkind,rfl,O.glob,O.blt,O.frames,hco,O.top⟩
theorem comp_block {G:Glb}{S:Sit}(O:S.Ok G) (hh:S.A.handled=none) {m:Names}{H:HP}{elt t ite:Expr}{ifs:List Expr}{rest:List Comprehension}{scope:Scope}{pos:Pos}{emit:Value→Env→Sem Unit}
   (heq:Turn (.ListComp elt (⟨t,ite,ifs,0⟩::rest) scope pos) 0 t ite ifs emit) (ht:∀ it v,letOwnedTupleGo t it v=pure ())
   (hkind:scope.kind=.function) (hco:scope.isCoroutine=false) (hcell:(scope.names.all fun x=>x.2 != .cell)=true) {cs:List (Str × Addr)}{ls:List Str}{gs:List (Str × Value)}(hchk:chkM scope.names ls (cs.map (·.1)) (gs.map (·.1))=true) (hgs:∀ x∈gs,x∈G.gtab)
   {EP:Addr→Sit→List Value→(List Value→Names→HP→Prop)→Names→HP→Prop}{s:Shared}{mm:Str→Option Value}(hF:∀ C D,FillOk G (compSit S scope cs mm C) D (emit (.ref D) (compEnvC scope cs C S.env)) (EP C))
   {v:Value}{n:Nat}{vs:Nat→Value}{Ob:Nat→Obj→Prop}{P:HP→Prop}(T:Itb G (er v) n vs Ob P) (I:Nat→List Value→Names→HP→Prop) (hP:P H) {K:List Value→Names→HP→Prop}
   (turn:∀ C pr i ys m H,(compSit S scope cs mm C).Ok G→i<n→P H→I i ys m H→AsgC G ((compSit S scope cs mm C).guard pr) t (vs i) (fun _=>IfsC G ((compSit S scope cs mm C).guard pr) ifs (fun b m H=>if b=true then EP C ((compSit S scope cs mm C).guard pr) ys (fun ys m H=>P H∧I (i+1) ys m H) m H else P H∧I (i+1) ys m H) noX) noX m H)
   (h0:I 0 [] (mkM ls cs gs) H) (fin:∀ ys m H,P H→I n ys m H→K ys m H)
   (M:MOk G S.env mm m) (R:RelC G S.stk ((S.L,mm)::S.sv) S.pr H s) {RR:Value→Addr→Result→Shared→Prop}
   (hR:∀ C D s',FillQ G (compSit S scope cs mm C) D K s'→C≠D→RR (.ref D) C (.ok .next) s') {E:Value→Shared→Prop} :
   wpAny G.M S.A (pyIter v) (fun it s₂=>wpAny G.M S.A (newList []) (fun acc s₃=>wpAny G.M S.A (newFunctionEnv scope S.env.globals cs [] S.env.qual none .none (some S.env)) (fun cenv s₄=>
     codeAny G.M S.A (.compStart (.ListComp elt (⟨t,ite,ifs,0⟩::rest) scope pos) 0 it acc { cenv with scope:=relabel scope S.env }) (RR acc cenv.locals) s₄) E s₃) E s₂) E s:=by
 refine T.start _ _ s _ _ _ H _ _ rfl R hP fun o tk hO hf=>?_
 have hb:=R.big (.head _)
 have R₁:RelC G S.stk ((S.L,mm)::S.sv) S.pr H { s with heap:=s.heap.push o,toks:=tk }:=(R.junk (o:=o)).toks tk
 have hit:(s.heap.push o).get? s.heap.objs.size=some o:=Heap.get?_push_size _ hf
 have hsz1:(s.heap.push o).objs.size=s.heap.objs.size+1:=Heap.size_push ..
 refine wpAny_newObj_type ?_
 generalize hH2:(s.heap.push o).push { cls:=.type "list",dict:=none,data:=.seq ([]:List Value).toArray }=H2
 have hD:H2.get? (s.heap.push o).objs.size=some { cls:=.type "list",dict:=none,data:=.seq ([]:List Value).toArray }:=by rw [← hH2];exact Heap.get?_push_size _ rfl
 have hit2:H2.get? s.heap.objs.size=some o:=by rw [← hH2];exact Heap.get?_push_of_some _ hit
 have R₂:RelC G S.stk ((S.L,mm)::S.sv) S.pr H { s with heap:=H2,toks:=tk }:=by rw [← hH2];exact R₁.junk
 have hsz2:H2.objs.size=s.heap.objs.size+2:=by rw [← hH2,Heap.size_push,hsz1]
 refine wpAny_newFunctionEnv (fun x hx=>by have:=List.all_eq_true.mp hcell x hx;simpa using this) (by intro y hy;simp at hy) (fun h₁ hns₁ hsb₁=>?_) hkind
 dsimp only at hns₁ hsb₁ ⊢
 have hb2:G.base.objs.size≤H2.objs.size:=by rw [hsz2];exact Nat.le_trans (by assumption) (Nat.le_add_right _ 2)
 have R₃:=(R₂.newFrame (cls:=.type (if (some S.env).isSome then "dict" else "frame")) hb2).store (tk:=tk+([]:List (Str × Value)).length) hsb₁ hns₁
 generalize hs₃:({ s with heap:=h₁,toks:=tk+([]:List (Str × Value)).length }:Shared)=s₃ at R₃
 have hH:H.o s.heap.objs.size=none:=R.fresh
 have hHD:H.o (s.heap.push o).objs.size=none:=R₁.fresh
 have lt:∀ b∈((S.L,mm)::S.sv).map (·.1),b<s.heap.objs.size:=fun b hm=>by
   refine xe12 (List.mem_map.mp hm) fun p' hp' e'=>?_
   refine (e' ..)▸?_;exact (R.ns p' hp').1.lt
 have ltp:∀ b∈S.pr.map (·.1),b<s.heap.objs.size:=fun b hm=>by
   refine xe12 (List.mem_map.mp hm) fun p' hp' e'=>?_
   refine (e' ..)▸?_;exact Heap.lt_size (R.prot p' hp').1
 have lt':∀ b∈((compSit S scope cs mm H2.objs.size).L,(fun x=>([]:List (Str × Value)).reverse.lookup x))::(S.L,mm)::S.sv |>.map (·.1),b≠s.heap.objs.size∧b≠s.heap.objs.size+1:=fun b hm=>by
   rcases List.mem_cons.mp hm with q | q
   · have:b=H2.objs.size:=q
     refine (this ..).symm▸?_;refine (hsz2 ..).symm▸?_;simp
   · have:=lt b q;exact ⟨Nat.ne_of_lt this,Nat.ne_of_lt (Nat.lt_succ_of_lt this)⟩
 have ne1:H2.objs.size≠(s.heap.push o).objs.size:=by rw [hsz2,hsz1];exact Nat.succ_ne_self _
 have ne2:s.heap.objs.size≠(s.heap.push o).objs.size:=by rw [hsz1];exact Nat.ne_of_lt (Nat.lt_succ_self _)
 have ne3:s.heap.objs.size≠H2.objs.size:=by rw [hsz2];exact Nat.ne_of_lt (Nat.lt_succ_of_lt (Nat.lt_succ_self _))
 have hb1:G.base.objs.size≤(s.heap.push o).objs.size:=by rw [hsz1];exact Nat.le_succ_of_le hb
 have loop:codeAny G.M S.A (.compLoop (.ListComp elt (⟨t,ite,ifs,0⟩::rest) scope pos) 0 (.ref s.heap.objs.size) (.ref (s.heap.push o).objs.size) (compEnvC scope cs H2.objs.size S.env)) (RR (.ref (s.heap.push o).objs.size) H2.objs.size) s₃:=by
   have MC:MOk G (compSit S scope cs mm H2.objs.size).env (fun _=>none) (mkM ls cs gs):=mkM_ok rfl (chk_relabel hchk) hgs
   have keep:∀ b ob,b≠H2.objs.size→H2.get? b=some ob→s₃.heap.get? b=some ob:=fun b ob q e=>by
     refine (hs₃ ..)▸?_;exact hsb₁.extBut _ _ q (Heap.get?_push_of_some _ e)
   refine turnsW (S:=compSit S scope cs mm H2.objs.size) (hF _ _) hh (fun _=>rfl) (fun _=>Around.under_of_weight rfl rfl) (fun _=>rfl) (fun it=>heq it _ _) ht T I (fun pr i ys m H h1 h2 h3=>turn _ pr i ys m H (compSit_ok O hkind hco) h1 h2 h3) fin
     (fun s' q=>hR H2.objs.size (s.heap.push o).objs.size s' q ne1) hb ne2 (fun q=>Nat.lt_irrefl _ (ltp _ q)) MC R₃ ?_ h0 hP (keep _ _ ne3 hit2) hO (fun q=>(lt' _ q).1 rfl) hH
   refine ⟨#[],⟨0,keep _ _ ne1.symm hD⟩,rfl,.of hb1,fun q=>(lt' _ q).2 hsz1,hHD,fun q=>?_⟩
   have:=ltp _ q;rw [hsz1] at this;lia
 refine codeAny_compStart_list loop ?_
 have hit3:s₃.heap.get? s.heap.objs.size=some o:=by rw [← hs₃];exact hsb₁.extBut _ _ ne3 (Heap.get?_push_of_some _ hit2)
 exact T.self _ _ 0 _ o _ _ hit3 hO loop
inductive TurnsC (G:Glb) (S:Sit) (t:Expr) (ifs:List Expr) (EP:Sit→List Value→(List Value→Names→HP→Prop)→Names→HP→Prop) (K:List Value→Names→HP→Prop) (ys:List Value) (v:Value) (m:Names) (H:HP):Prop where
 | mk (n:Nat) (vs:Nat→Value) (Ob:Nat→Obj→Prop) (P:HP→Prop) (T:Itb G v n vs Ob P) (hP:P H) (I:Nat→List Value→Names→HP→Prop) (h0:I 0 ys m H)
   (turn:∀ pr i ys m H,i<n→P H→I i ys m H→AsgC G (S.guard pr) t (vs i) (fun _=>IfsC G (S.guard pr) ifs (fun b m H=>if b=true then EP (S.guard pr) ys (fun ys m H=>P H∧I (i+1) ys m H) m H else P H∧I (i+1) ys m H) noX) noX m H)
   (fin:∀ ys m H,P H→I n ys m H→K ys m H)
noncomputable def Emit1 (elt:Expr) (acc:Value) (env:Env):Sem Unit:=do let _ ← call (.builtin "list.append") [acc,← eval elt env]
noncomputable def Emit2 (e:Expr) (i2:Expr) (acc:Value) (env:Env):Sem Unit:=do
 let x ← eval i2 env
 standAt i2.pos
 let x ← foldedSetIterable i2 env x
 let _ ← runOwn (.compStart e 1 (← holding [x] (pyIter x)) acc env) env
noncomputable def NestP (G:Glb) (elt t2 i2:Expr) (f2:List Expr) (S':Sit) (ys:List Value) (K:List Value→Names→HP→Prop) (m:Names) (H:HP):Prop:=
 WE G S' i2 (TurnsC G S' t2 f2 (EltP G elt) K ys) noX m H
theorem turn1 {elt t ite:Expr}{ifs:List Expr}{scope:Scope}{pos:Pos}:Turn (.ListComp elt [⟨t,ite,ifs,0⟩] scope pos) 0 t ite ifs (Emit1 elt):=fun it acc env=>rfl
end Mine
end
section
open PySem PySem.W PyProof.Rows PySem.Calls
namespace Mine
inductive CompC (G:Glb) (S:Sit) (scope:Scope) (t:Expr) (ifs:List Expr) (EP:Sit→List Value→(List Value→Names→HP→Prop)→Names→HP→Prop) (K:List Value→HP→Prop) (v:Value) (m:Names) (H:HP):Prop where
 | mk (cs:List (Str × Addr)) (ls:List Str) (gs:List (Str × Value)) (hcl:Clos m scope.names [] cs) (hchk:chkM scope.names ls (cs.map (·.1)) (gs.map (·.1))=true) (hgs:∀ x∈gs,x∈G.gtab)
   (n:Nat) (vs:Nat→Value) (Ob:Nat→Obj→Prop) (P:HP→Prop) (T:Itb G v n vs Ob P) (hP:P H) (I:Nat→List Value→Names→HP→Prop) (h0:I 0 [] (mkM ls cs gs) H)
   (turn:∀ mm C pr i ys m H,((compSit S scope cs mm C).guard pr).Ok G→i<n→P H→I i ys m H→AsgC G ((compSit S scope cs mm C).guard pr) t (vs i) (fun _=>IfsC G ((compSit S scope cs mm C).guard pr) ifs (fun b m H=>if b=true then EP ((compSit S scope cs mm C).guard pr) ys (fun ys m H=>P H∧I (i+1) ys m H) m H else P H∧I (i+1) ys m H) noX) noX m H)
   (fin:∀ ys m H,P H→I n ys m H→K ys H)
structure CompOk (scope:Scope):Prop where
 kind:scope.kind=.function
 co:scope.isCoroutine=false
 cell:(scope.names.all fun x=>x.2 != .cell)=true
 names:(scope.names.all fun x=>x.2 != .local || scope.names.lookup x.1==some .local)=true
section
variable {G:Glb}{S:Sit}{m:Names}{H:HP}{X:KV}{KFl:KF}{elt t ite:Expr}{ifs:List Expr}{rest:List Comprehension}{scope:Scope}{pos q:Pos}{emit:Value→Env→Sem Unit}{EP:Sit→List Value→(List Value→Names→HP→Prop)→Names→HP→Prop}
theorem comp_core (O:S.Ok G) (hh:S.A.handled=none)
   (heq:Turn (.ListComp elt (⟨t,ite,ifs,0⟩::rest) scope pos) 0 t ite ifs emit) (hF:∀ cs mm C D,FillOk G (compSit S scope cs mm C) D (emit (.ref D) (compEnvC scope cs C S.env)) EP)
   (ht:∀ it v,letOwnedTupleGo t it v=pure ()) (hs:∀ x,foldedSetIterable ite S.env x=pure x) (hc:CompOk scope)
   {use:Option (Value→Sem Unit)}{K:List Value→Names→HP→Prop}{Q:Value→Shared→Prop}
   (h:WE G S ite (fun v m H=>CompC G S scope t ifs EP (fun ys H=>K ys m H) v m H) X m H)
   (fin:∀ C D m H mm mm' ys s',MOk G S.env mm m→RelC G S.stk ((C,mm')::(S.L,mm)::S.sv) S.pr H s'→AccAt G S.pr D ys ((C,mm')::(S.L,mm)::S.sv) H s'→K ys m H→C≠D →
     (∀ env∈S.stk,∀ f,env.frame=some f→f∈((S.L,mm)::S.sv).map (·.1))→compPost G.M S.A (PostX G S X) use Q (.ref D) C (.ok .next) s') :
   ∀ s mm,MOk G S.env mm m→RelC G S.stk ((S.L,mm)::S.sv) S.pr H s→wpAny G.M S.A (comprehension (.ListComp elt (⟨t,ite,ifs,0⟩::rest) scope pos) scope S.env q (newList []) false (eval ite S.env) use) Q (PostX G S X) s:=by
 intro s mm M R
 unfold comprehension
 refine wpAny_bind (wpAny_mono (h s mm M R) (fun v s₁ qq=>?_) fun _ _ x=>x)
 obtain ⟨m₁,H₁,mm₁,M₁,R₁,cs,ls,gs,hcl,hchk,hgs,n,vs,Ob,P,T,hP,I,h0,turn,fin'⟩:=qq
 have key:=wpAny_comprehension_free (M:=G.M) (A:=S.A) (E:=PostX G S X) (s:=s₁) (env:=S.env) (e:=.ListComp elt (⟨t,ite,ifs,0⟩::rest) scope pos) (scope:=scope) (pos:=q) (newAcc:=newList []) (first:=pure v) (g:=⟨t,ite,ifs,0⟩) (gs:=rest) (cl:=cs) (use:=use) (Q:=Q) rfl hs (clos_is M₁ hcl) hc.kind
   (fun x hx hl=>by have:=List.all_eq_true.mp hc.names x hx;simpa -iota [hl] using this) ?_
 · unfold comprehension at key
   simp -iota only [pure_bind] at key
   exact key
 · refine wpAny_pure ?_
   refine comp_block (K:=fun ys _ H=>K ys m₁ H) O hh heq ht hc.kind hc.co hc.cell hchk hgs (EP:=fun _=>EP) (fun C D=>hF cs mm₁ C D) T I hP (fun C pr i ys m H o=>turn mm₁ C pr i ys m H (o.guard pr)) h0 fin' M₁ R₁ (RR:=fun acc C=>compPost G.M S.A (PostX G S X) use Q acc C) ?_
   rintro C D s' yq3 hne
   obtain ⟨ys,m',H',mm',M',R',a',k⟩:=yq3
   exact fin C D m₁ H' mm₁ mm' ys s' M₁ R' a' k hne R₁.fsv
theorem comp_val {K:KV}(O:S.Ok G) (hh:S.A.handled=none)
   (heq:Turn (.ListComp elt (⟨t,ite,ifs,0⟩::rest) scope pos) 0 t ite ifs emit) (hF:∀ cs mm C D,FillOk G (compSit S scope cs mm C) D (emit (.ref D) (compEnvC scope cs C S.env)) EP)
   (ht:∀ it v,letOwnedTupleGo t it v=pure ()) (hs:∀ x,foldedSetIterable ite S.env x=pure x) (hc:CompOk scope)
   (h:WE G S ite (fun v m H=>CompC G S scope t ifs EP (fun ys H=>∀ D,H.o D=none→K (.ref D) m (H.put D (.list ys))) v m H) X m H) :
   WE G S (.ListComp elt (⟨t,ite,ifs,0⟩::rest) scope pos) K X m H:=by
 intro s mm M R
 refine comp_core (K:=fun ys m H=>∀ D,H.o D=none→K (.ref D) m (H.put D (.list ys))) O hh heq hF ht hs hc h ?_ s mm M R
 rintro C D m H mm mm' ys s' M R yq10 k hne hf
 obtain ⟨rvs,⟨n,hl⟩,e,a1,a2,a3,a4⟩:=yq10
 refine ⟨mm',(R.ns _ (.head _)).1,fun h' sb=>?_⟩
 have R':=R.dropFrame hf (tk:=s'.toks) sb
 refine ⟨m,H.put D (.list ys),mm,M,R'.grow (tk:=s'.toks) (dr:=s'.drawn) (fun b o e=>e) (fun a co e'=>?_) rfl,k D a3⟩
 by_cases q:a=D
 · subst q
   rw [HP.put_same] at e';cases e'
   exact .inr ⟨a1,fun q=>a2 (.tail _ q),a4,_,(sb.2 a (Ne.symm hne)).trans hl,rvs,n,rfl,e⟩
 · rw [HP.put_ne q rfl] at e';exact .inl e'
theorem comp_asg {y:Str}{py p:Pos}(O:S.Ok G) (hh:S.A.handled=none)
   (heq:Turn (.ListComp elt (⟨t,ite,ifs,0⟩::rest) scope pos) 0 t ite ifs emit) (hF:∀ cs mm C D,FillOk G (compSit S scope cs mm C) D (emit (.ref D) (compEnvC scope cs C S.env)) EP)
   (ht:∀ it v,letOwnedTupleGo t it v=pure ()) (hs:∀ x,foldedSetIterable ite S.env x=pure x) (hc:CompOk scope)
   (h:WE G S ite (fun v m H=>CompC G S scope t ifs EP (fun ys H=>∀ D,H.o D=none→∃ m',MSet y (.ref D) m m'∧KFl .next m' (H.put D (.list ys))) v m H) X m H)
   {b:Bool}(hsw:swapsWith (.ListComp elt (⟨t,ite,ifs,0⟩::rest) scope pos) (some (.Name y py)) p.line S.env=pure b:=by with_unfolding_all rfl) :
   WX G S (.Assign [.Name y py] (.ListComp elt (⟨t,ite,ifs,0⟩::rest) scope pos) p) KFl X m H:=by
 rcases b with _ | _
 ·
   refine x_asg (W.post (comp_val (K:=fun v m H=>∃ m',MSet y v m m'∧KFl .next m' H) O hh heq hF ht hs hc h) fun v m H ⟨m',hm,k⟩=>a_name (sto_loc O hm k)) hsw
 ·
   unfold WX
   rw [exec_Assign_Name_used _ _ _ _ hsw]
   refine W.bind (W.standAt ?_)
   intro s mm M R
   refine wpAny_bind ?_
   show wpAny _ _ (do let _ ← comprehension (.ListComp elt (⟨t,ite,ifs,0⟩::rest) scope pos) scope S.env _ (newList []) false (eval ite S.env) (some (assign (.Name y py) S.env))) _ _ s
   refine wpAny_bind ?_
   refine comp_core (K:=fun ys m H=>∀ D,H.o D=none→∃ m',MSet y (.ref D) m m'∧KFl .next m' (H.put D (.list ys))) (Q:=fun _ s'=>wpAny G.M S.A (pure ()) (fun _ s'=>wpAny G.M S.A (pure Flow.next) (Post G S fun f=>KFl (erF f)) (PostX G S X) s') (PostX G S X) s') O hh heq hF ht hs hc h ?_ s mm M R
   intro C D m H mm mm' ys s' M R a k hne hf
   refine xe12 (k D (a.casesOn fun _ _ _ _ _ q _=>q)) fun m' hm k=>?_
   have hDp:=a.npr
   refine xe12 (a.guard R) fun oD R₁ hO=>?_
   show wpAny G.M S.A (assign (.Name y py) S.env (.ref D)) _ _ _
   refine wpAny_mono ((a_name (p:=py) (fun rv ev=>storeLoc (G:=G) (S:={ S with sv:=(C,mm')::S.sv,pr:=(D,oD)::S.pr }) (X:=noX) (KU:=fun _ m₂ H₂=>m₂=m'∧H₂=H) ⟨O.kind,O.loc,O.glob,O.blt,O.frames,O.co,O.top⟩ hm ev ⟨rfl,rfl⟩)) (.ref D) rfl s' mm M R₁.swap) ?_ fun _ _ q=>q.no.elim
   rintro _ s₂ yq2
   obtain ⟨m₂,H₂,mm₂,M₂,R₂,rfl,rfl⟩:=yq2
   have R₃:RelC G S.stk ((C,mm')::(S.L,mm₂)::S.sv) ((D,oD)::S.pr) H₂ s₂:=R₂.swap
   have a₂:=AccAt.back R₃ hO hDp
   refine ⟨mm',(R₃.ns _ (.head _)).1,fun h' sb=>?_⟩
   obtain ⟨rvs,⟨n,hl⟩,e,a1,a2,a3,a4⟩:=a₂
   have R':=R₃.unguard.dropFrame hf (tk:=s₂.toks) sb
   refine wpAny_pure (wpAny_pure ⟨m₂,H₂.put D (.list ys),mm₂,M₂,R'.grow (tk:=s₂.toks) (dr:=s₂.drawn) (fun b o e=>e) (fun b co e'=>?_) rfl,k⟩)
   by_cases q:b=D
   · subst q
     rw [HP.put_same] at e';cases e'
     exact .inr ⟨a1,fun q=>a2 (.tail _ q),a4,_,(sb.2 _ (Ne.symm hne)).trans hl,rvs,n,rfl,e⟩
   · rw [HP.put_ne q rfl] at e';exact .inl e'
end
section
variable {G:Glb}{S:Sit}{m:Names}{H:HP}{X:KV}{KFl:KF}{K:KV}{elt ite i2:Expr}{x x2 y:Str}{px px2:Pos}{ifs f2:List Expr}{scope:Scope}{pos:Pos}
theorem e_comp1 (O:S.Ok G) (hh:S.A.handled=none) (hc:CompOk scope)
   (h:WE G S ite (fun v m H=>CompC G S scope (.Name x px) ifs (EltP G elt) (fun ys H=>∀ D,H.o D=none→K (.ref D) m (H.put D (.list ys))) v m H) X m H) (hs:∀ x,foldedSetIterable ite S.env x=pure x:=by intro _;with_unfolding_all rfl) :
   WE G S (.ListComp elt [⟨.Name x px,ite,ifs,0⟩] scope pos) K X m H:=
 comp_val O hh turn1 (fun cs mm C D=>elt_ok (S:=compSit S scope cs mm C)) (fun _ _=>rfl) hs hc h
theorem x_comp1 {py p:Pos}(O:S.Ok G) (hh:S.A.handled=none) (hc:CompOk scope)
   (h:WE G S ite (fun v m H=>CompC G S scope (.Name x px) ifs (EltP G elt) (fun ys H=>∀ D,H.o D=none→∃ m',MSet y (.ref D) m m'∧KFl .next m' (H.put D (.list ys))) v m H) X m H)
   {b:Bool}(hsw:swapsWith (.ListComp elt [⟨.Name x px,ite,ifs,0⟩] scope pos) (some (.Name y py)) p.line S.env=pure b:=by with_unfolding_all rfl) (hs:∀ x,foldedSetIterable ite S.env x=pure x:=by intro _;with_unfolding_all rfl) :
   WX G S (.Assign [.Name y py] (.ListComp elt [⟨.Name x px,ite,ifs,0⟩] scope pos) p) KFl X m H:=
 comp_asg O hh turn1 (fun cs mm C D=>elt_ok (S:=compSit S scope cs mm C)) (fun _ _=>rfl) hs hc h hsw
end
end Mine
end
section
open PySem PySem.W PyProof.Rows PySem.Calls
namespace Mine
noncomputable def bI (p:Prop):Bool:=@decide p (Classical.propDecidable p)
theorem bI_iff {p:Prop}:bI p=true↔p:=by unfold bI;exact @decide_eq_true_iff p (Classical.propDecidable p)
theorem bI_not {p:Prop}:bI p=false↔¬ p:=by unfold bI;exact @decide_eq_false_iff_not p (Classical.propDecidable p)
theorem bI_dec {p:Prop} [Decidable p]:decide p=bI p:=by
 by_cases h:p
 · rw [decide_eq_true h,bI_iff.mpr h]
 · rw [decide_eq_false h,bI_not.mpr h]
theorem beq_bI {α:Type} [BEq α] [LawfulBEq α] {a b:α}:(a==b)=bI (a=b):=by
 by_cases h:a=b
 · rw [bI_iff.mpr h];simpa using h
 · rw [bI_not.mpr h];simpa using h
theorem bne_bI {α:Type} [BEq α] [LawfulBEq α] {a b:α}:(a != b)=bI (a≠b):=by
 by_cases h:a=b
 · rw [bI_not.mpr (by simpa using h)];simpa using h
 · rw [bI_iff.mpr h];simpa using h
theorem bI_neg {p:Prop}:(!bI p)=bI (¬ p):=by
 by_cases h:p
 · rw [bI_iff.mpr h,bI_not.mpr (by simpa using h)];rfl
 · rw [bI_not.mpr h,bI_iff.mpr h];rfl
theorem if_bI {p:Prop}{A B:Prop}(h1:p→A) (h2:¬ p→B):if bI p=true then A else B:=by
 by_cases h:p
 · rw [if_pos (bI_iff.mpr h)];exact h1 h
 · rw [if_neg (by rw [bI_not.mpr h];decide)];exact h2 h
theorem if_nbI {p:Prop}{A B:Prop}(h1:¬ p→A) (h2:p→B):if (!bI p)=true then A else B:=by
 rw [bI_neg]
 by_cases h:p
 · rw [if_neg (by rw [bI_not.mpr (by simpa using h)];decide)];exact h2 h
 · rw [if_pos (bI_iff.mpr h)];exact h1 h
theorem and_mask {a:Int}(h:0≤a) (n:Nat):Builtin.bitAnd a (2 ^ n - 1)=a % 2 ^ n:=by
 have hp:(0:Int)<2 ^ n:=Int.pow_pos (by decide)
 rw [bitAnd_pp h (Int.sub_nonneg_of_le hp:(0:Int)≤2 ^ n - 1)]
 have e:((2:Int) ^ n - 1).toNat=2 ^ n - 1:=by
   have:((2:Int) ^ n)=((2 ^ n:Nat):Int):=by push_cast;rfl
   rw [this];exact Int.toNat_sub (2 ^ n) 1
 rw [e,Nat.and_two_pow_sub_one_eq_mod]
 push_cast
 rw [Int.toNat_of_nonneg h]
theorem if_no {p:Prop}{A B:Prop}(h:¬ p) (b:B):if bI p=true then A else B:=if_bI (fun y=>absurd y h) fun _=>b
theorem if_b {b:Bool}{A B:Prop}(h1:b=true→A) (h2:b=false→B):if b=true then A else B:=by
 rcases b with _ | _
 · exact h2 rfl
 · exact h1 rfl
theorem if_t {A B:Prop}(h1:A):if true=true then A else B:=h1
theorem if_f {A B:Prop}(h1:B):if false=true then A else B:=h1
section
variable {G:Glb}{S:Sit}{X:KV}{m:Names}{H:HP}{K:KV}{KB:Bool→Names→HP→Prop}{KU:Unit→Names→HP→Prop}
noncomputable abbrev Eff (G:Glb) (S:Sit) (K:KV) (X:KV) (m:Names) (H:HP) (s:Shared) (mm:Str→Option Value) (t:Sem Value):Prop:=wpAny G.M S.A t (Post G S fun v=>K (er v)) (PostX G S X) s
theorem op_ii {f:Value→Value→Sem Value}{a b:Int}(h:∀ t u s mm,MOk G S.env mm m→RelC G S.stk ((S.L,mm)::S.sv) S.pr H s→Eff G S K X m H s mm (f (.int a t) (.int b u))):OpC G S f (.int a 0) (.int b 0) K X m H:=fun r₁ r₂ e1 e2 s mm M R=>by
 obtain ⟨t,rfl⟩:=er_int' e1
 obtain ⟨u,rfl⟩:=er_int' e2
 exact h t u s mm M R
theorem op_ss {f:Value→Value→Sem Value}{a b:Str}(h:∀ t u s mm,MOk G S.env mm m→RelC G S.stk ((S.L,mm)::S.sv) S.pr H s→Eff G S K X m H s mm (f (.str a t) (.str b u))):OpC G S f (.str a 0) (.str b 0) K X m H:=fun r₁ r₂ e1 e2 s mm M R=>by
 obtain ⟨t,rfl⟩:=er_str' e1
 obtain ⟨u,rfl⟩:=er_str' e2
 exact h t u s mm M R
theorem op_si {f:Value→Value→Sem Value}{a:Str}{b:Int}(h:∀ t u s mm,MOk G S.env mm m→RelC G S.stk ((S.L,mm)::S.sv) S.pr H s→Eff G S K X m H s mm (f (.str a t) (.int b u))):OpC G S f (.str a 0) (.int b 0) K X m H:=fun r₁ r₂ e1 e2 s mm M R=>by
 obtain ⟨t,rfl⟩:=er_str' e1
 obtain ⟨u,rfl⟩:=er_int' e2
 exact h t u s mm M R
theorem op_bb {f:Value→Value→Sem Value}{a b:Array UInt8}(h:∀ t u s mm,MOk G S.env mm m→RelC G S.stk ((S.L,mm)::S.sv) S.pr H s→Eff G S K X m H s mm (f (.bytes a t) (.bytes b u))):OpC G S f (.bytes a 0) (.bytes b 0) K X m H:=fun r₁ r₂ e1 e2 s mm M R=>by
 obtain ⟨t,rfl⟩:=er_bytes' e1
 obtain ⟨u,rfl⟩:=er_bytes' e2
 exact h t u s mm M R
theorem eff_ {α:Type}{KK:α→Names→HP→Prop}{v:α}{s:Shared}{mm:Str→Option Value}{tk:Nat}(M:MOk G S.env mm m) (R:RelC G S.stk ((S.L,mm)::S.sv) S.pr H s) (k:KK v m H):Post G S KK v { s with toks:=tk }:=⟨m,H,mm,M,R.toks _,k⟩
theorem eff0 {α:Type}{KK:α→Names→HP→Prop}{v:α}{s:Shared}{mm:Str→Option Value}(M:MOk G S.env mm m) (R:RelC G S.stk ((S.L,mm)::S.sv) S.pr H s) (k:KK v m H):Post G S KK v s:=⟨m,H,mm,M,R,k⟩
theorem b_add {a b:Int}(k:K (.int (a+b) 0) m H):BinC G S .Add (.int a 0) (.int b 0) K X m H:=op_ii fun t u s mm M R=>add_int (eff_ M R k)
theorem b_sub {a b:Int}(k:K (.int (a - b) 0) m H):BinC G S .Sub (.int a 0) (.int b 0) K X m H:=op_ii fun t u s mm M R=>sub_int (eff_ M R k)
theorem b_mul {a b:Int}(hm:IntMulOk a b) (k:K (.int (a * b) 0) m H):BinC G S .Mult (.int a 0) (.int b 0) K X m H:=op_ii fun t u s mm M R=>mul_int (eff_ M R k) hm
theorem b_floordiv {a b:Int}(hb:0<b) (hs:b.natAbs<1073741824) (k:K (.int (a / b) 0) m H):BinC G S .FloorDiv (.int a 0) (.int b 0) K X m H:=op_ii fun t u s mm M R=>floordiv_int (by lia) (eff_ M R (by rw [Int.fdiv_eq_ediv_of_nonneg _ (by exact Int.le_of_lt (by assumption))];exact k)) (.inl (PyProof.noPylong_small hs))
theorem b_mod {a b:Int}(hb:0<b) (k:K (.int (a % b) 0) m H):BinC G S .Mod (.int a 0) (.int b 0) K X m H:=op_ii fun t u s mm M R=>mod_int' (by lia) (eff_ M R (by rw [Int.fmod_eq_emod_of_nonneg _ (by exact Int.le_of_lt (by assumption))];exact k))
theorem i_mod {a b:Int}(hb:0<b) (k:K (.int (a % b) 0) m H):InpC G S .Mod (.int a 0) (.int b 0) K X m H:=op_ii fun t u s mm M R=>imod_int (by lia) (eff_ M R (by rw [Int.fmod_eq_emod_of_nonneg _ (by exact Int.le_of_lt (by assumption))];exact k))
theorem b_rshift {a b:Int}(hb:0≤b) (k:K (.int (a / 2 ^ b.toNat) 0) m H):BinC G S .RShift (.int a 0) (.int b 0) K X m H:=op_ii fun t u s mm M R=>rshift_int hb (eff_ M R (by rw [Int.fdiv_eq_ediv_of_nonneg _ (Int.le_of_lt (Int.pow_pos (by decide)))];exact k))
theorem b_lshift {a b:Int}(hb:0≤b) (hb2:b≤1000000) (ha:a.natAbs<2 ^ 64) (k:K (.int (a * 2 ^ b.toNat) 0) m H):BinC G S .LShift (.int a 0) (.int b 0) K X m H:=op_ii fun t u s mm M R=>lshift_int_small hb hb2 ha (eff_ M R k)
theorem b_pow {a b:Int}(hb:0≤b) (hs:(Builtin.Int.intBits a:Int) * b≤2 ^ 27) (k:K (.int (a ^ b.toNat) 0) m H):BinC G S .Pow (.int a 0) (.int b 0) K X m H:=op_ii fun t u s mm M R=>pow_int hb hs (eff_ M R k)
theorem b_and {a b:Int}(k:K (.int (Builtin.bitAnd a b) 0) m H):BinC G S .BitAnd (.int a 0) (.int b 0) K X m H:=op_ii fun t u s mm M R=>and_int (eff_ M R k)
theorem b_or {a b:Int}(k:K (.int (Builtin.bitOr a b) 0) m H):BinC G S .BitOr (.int a 0) (.int b 0) K X m H:=op_ii fun t u s mm M R=>or_int (eff_ M R k)
theorem i_add {a b:Int}(k:K (.int (a+b) 0) m H):InpC G S .Add (.int a 0) (.int b 0) K X m H:=op_ii fun t u s mm M R=>iadd_int (eff_ M R k)
theorem i_sub {a b:Int}(k:K (.int (a - b) 0) m H):InpC G S .Sub (.int a 0) (.int b 0) K X m H:=op_ii fun t u s mm M R=>isub_int (eff_ M R k)
theorem i_and {a b:Int}(k:K (.int (Builtin.bitAnd a b) 0) m H):InpC G S .BitAnd (.int a 0) (.int b 0) K X m H:=op_ii fun t u s mm M R=>iand_int (eff_ M R k)
theorem c_eq {a b:Int}(k:K (.bool (bI (a=b))) m H):CmpC G S .Eq (.int a 0) (.int b 0) K X m H:=op_ii fun t u s mm M R=>eq_int (eff0 M R (by rw [beq_bI];exact k))
theorem c_ne {a b:Int}(k:K (.bool (bI (a≠b))) m H):CmpC G S .NotEq (.int a 0) (.int b 0) K X m H:=op_ii fun t u s mm M R=>ne_int (eff0 M R (by rw [bne_bI];exact k))
theorem c_lt {a b:Int}(k:K (.bool (bI (a<b))) m H):CmpC G S .Lt (.int a 0) (.int b 0) K X m H:=op_ii fun t u s mm M R=>lt_int (eff0 M R (by rw [bI_dec];exact k))
theorem c_le {a b:Int}(k:K (.bool (bI (a≤b))) m H):CmpC G S .LtE (.int a 0) (.int b 0) K X m H:=op_ii fun t u s mm M R=>le_int (eff0 M R (by rw [bI_dec];exact k))
theorem c_gt {a b:Int}(k:K (.bool (bI (a > b))) m H):CmpC G S .Gt (.int a 0) (.int b 0) K X m H:=op_ii fun t u s mm M R=>gt_int (eff0 M R (by rw [bI_dec];exact k))
theorem c_ge {a b:Int}(k:K (.bool (bI (a ≥ b))) m H):CmpC G S .GtE (.int a 0) (.int b 0) K X m H:=op_ii fun t u s mm M R=>ge_int (eff0 M R (by rw [bI_dec];exact k))
theorem c_eq_s {a b:Str}(k:K (.bool (bI (a=b))) m H):CmpC G S .Eq (.str a 0) (.str b 0) K X m H:=op_ss fun t u s mm M R=>eq_str (eff0 M R (by rw [beq_bI];exact k))
theorem c_ne_s {a b:Str}(k:K (.bool (bI (a≠b))) m H):CmpC G S .NotEq (.str a 0) (.str b 0) K X m H:=op_ss fun t u s mm M R=>ne_str (eff0 M R (by rw [bne_bI];exact k))
theorem c_in_s {a b:Str}(k:K (.bool !(Builtin.Str.occurrences b a 0 b.length 1).isEmpty) m H):CmpC G S .In (.str a 0) (.str b 0) K X m H:=op_ss fun t u s mm M R=>P.in_str (eff0 M R k)
theorem c_notin_s {a b:Str}(k:K (.bool (!(!(Builtin.Str.occurrences b a 0 b.length 1).isEmpty))) m H):CmpC G S .NotIn (.str a 0) (.str b 0) K X m H:=op_ss fun t u s mm M R=>P.notIn_str (eff0 M R k)
theorem b_add_s {a b:Str}(hs:a.length+b.length≤sizeLine) (k:K (.str (a++b) 0) m H):BinC G S .Add (.str a 0) (.str b 0) K X m H:=op_ss fun t u s mm M R=>add_str (fun t' tk=>eff_ M R k) hs
theorem b_add_b {a b:Array UInt8}(hs:a.size+b.size≤16777216) (k:K (.bytes (a++b) 0) m H):BinC G S .Add (.bytes a 0) (.bytes b 0) K X m H:=op_bb fun t u s mm M R=>KBy.add_bytes hs (fun t' tk=>eff_ M R k)
theorem c_ne_b {a b:Array UInt8}(k:K (.bool (bI (a≠b))) m H):CmpC G S .NotEq (.bytes a 0) (.bytes b 0) K X m H:=op_bb fun t u s mm M R=>ne_bytes (eff0 M R (by rw [bne_bI,show (a.toList≠b.toList)=(a≠b) from propext (not_congr ⟨Array.toList_inj.mp,congrArg _⟩)];exact k))
theorem noI_bytes_add:typeLookup (.type "bytes") (dunderI "add")=pure none:=by rw [typeLookup_type,builtinLookup_eq_fast];kernel_rfl
theorem iadd_bytes {prog:Program}{w:World}{A:Around}{E:Value→Shared→Prop}{s:Shared}{b c:Array UInt8}{t u:Tok}{Q:Value→Shared→Prop}(hsz:b.size+c.size≤16777216) (h:∀ t' k,Q (.bytes (b++c) t') { s with toks:=k }):wpAny (model prog w) A (inplaceOp .Add (.bytes b t) (.bytes c u)) Q E s:=by
 refine iconcat_gives (typeIs_bytes s b t) (typeIs_bytes s c u) noI_bytes_add KBy.noFill_bytes_add KBy.seq_bytes_add FB.slot_bytes_add FB.entry_bytes_add (FB.args_bytes_add_2 _ _) (KBy.gives_bytes_add (KBy.tooLong_not hsz)) ?_
 by_cases hb:b.isEmpty=true
 · rw [if_pos hb]
   have e:b=#[]:=Array.isEmpty_iff.1 hb
   have h':=h u s.toks
   rw [e,Array.empty_append] at h'
   exact h'
 · rw [if_neg hb]
   by_cases hc:c.isEmpty=true
   · rw [if_pos hc]
     have e:c=#[]:=Array.isEmpty_iff.1 hc
     have h':=h t s.toks
     rw [e,Array.append_empty] at h'
     exact h'
   · rw [if_neg hc]
     exact ⟨by rw [Array.size_append,sizeLine_eq];exact hsz,h s.toks (s.toks+1)⟩
theorem i_add_b {a b:Array UInt8}(hs:a.size+b.size≤16777216) (k:K (.bytes (a++b) 0) m H):InpC G S .Add (.bytes a 0) (.bytes b 0) K X m H:=op_bb fun t u s mm M R=>iadd_bytes hs (fun t' tk=>eff_ M R k)
theorem t_int {a:Int}(k:KB (bI (a≠0)) m H):TruC G S (.int a 0) KB X m H:=fun r e s mm M R=>by obtain ⟨t,rfl⟩:=er_int' e;exact truthy_int (eff0 M R (by rw [bne_bI];exact k))
theorem t_bool {a:Bool}(k:KB a m H):TruC G S (.bool a) KB X m H:=fun r e s mm M R=>by obtain rfl:=er_bool' e;exact wpAny_truthy_bool (eff0 M R k)
theorem c_is_none {v:Value}(k:K (.bool (bI (v=.none))) m H):CmpC G S .Is v .none K X m H:=fun r₁ r₂ e1 e2 s mm M R=>by
 obtain rfl:=er_none' e2
 by_cases q:r₁=.none
 · subst q
   rw [bI_iff.mpr (show v=.none from e1.symm)] at k
   exact wpAny_is_self rfl (eff0 M R k)
 · refine is_none_ne q (eff0 M R ?_)
   rw [bI_not.mpr (fun h=>q (er_none' (e1.trans h)))] at k;exact k
theorem c_isnot_none {v:Value}(k:K (.bool (bI (v≠.none))) m H):CmpC G S .IsNot v .none K X m H:=fun r₁ r₂ e1 e2 s mm M R=>by
 obtain rfl:=er_none' e2
 by_cases q:r₁=.none
 · subst q
   rw [bI_not.mpr (show ¬ (v≠.none) from fun h=>h e1.symm)] at k
   exact wpAny_isNot_self rfl (eff0 M R k)
 · refine isnot_none_ne q (eff0 M R ?_)
   rw [bI_iff.mpr (fun h=>q (er_none' (e1.trans h)))] at k;exact k
end
end Mine
end
section
open PySem PySem.W PyProof.Rows PySem.Calls
open Builtin.Str (strSliceIndices)
namespace Mine
theorem rangeN {a b:Int}(h0:0≤a) (h1:0≤b):(if (1:Int) > 0 then (if a<b then (b - a+1 - 1) / 1 else 0) else (if a > b then (a - b - 1 - 1) / (-1) else 0)).toNat=b.toNat - a.toNat:=by
 obtain ⟨m,rfl⟩:=Int.eq_ofNat_of_zero_le h0
 obtain ⟨n,rfl⟩:=Int.eq_ofNat_of_zero_le h1
 rw [if_pos (by decide),Int.toNat_natCast,Int.toNat_natCast]
 by_cases h:(m:Int)<n
 · rw [if_pos h,Int.add_sub_cancel,Int.ediv_one,Int.toNat_sub]
 · rw [if_neg h,Nat.sub_eq_zero_of_le (Int.ofNat_le.mp (Int.not_lt.mp h))];rfl
theorem sub_full {a b n:Nat}(h:b - a=n) (hb:b≤n) (hn:¬ n=0):a=0:=by
 rcases a with _ | a
 · rfl
 · have hb0:0<b:=Nat.lt_of_lt_of_le (Nat.pos_of_ne_zero hn) (h▸Nat.sub_le b _)
   exact absurd (h▸Nat.sub_lt hb0 (Nat.succ_pos a)) (Nat.not_lt.mpr hb)
theorem add_one_mul {a:Int}(h0:0≤a) (i:Nat):(a+1 * (i:Int)).toNat=a.toNat+i:=by
 obtain ⟨m,rfl⟩:=Int.eq_ofNat_of_zero_le h0
 rw [Int.one_mul];rfl
theorem clip_in {n:Nat}{v:Int}:0≤max 0 (min v (n:Int))∧max 0 (min v (n:Int))≤(n:Int):=⟨Int.le_max_left _ _,Int.max_le.mpr ⟨Int.natCast_nonneg n,Int.min_le_right _ _⟩⟩
noncomputable def clipI (n:Nat) (v:Option Int) (d:Int):Int:=match v with | none=>d | some i=>max 0 (min (if i<0 then i+n else i) n)
noncomputable def cut {α:Type}(l:List α) (lo hi:Option Int):List α:=(l.drop (clipI l.length lo 0).toNat).take ((clipI l.length hi l.length).toNat - (clipI l.length lo 0).toNat)
theorem cut_map {α β:Type}(f:α→β) (l:List α) (lo hi:Option Int):cut (l.map f) lo hi=(cut l lo hi).map f:=by simp -iota [cut,List.map_drop,List.map_take]
theorem clip_lo (n:Nat):∀ v:Option Int,0≤clipI n v 0∧clipI n v 0≤n
 | none=>⟨Int.le_refl 0,Int.natCast_nonneg n⟩
 | some _=>clip_in
theorem clip_hi (n:Nat):∀ v:Option Int,0≤clipI n v n∧clipI n v n≤n
 | none=>⟨Int.natCast_nonneg n,Int.le_refl _⟩
 | some _=>clip_in
theorem cut_le {α:Type}(l:List α) (lo hi:Option Int):(cut l lo hi).length≤l.length:=by unfold cut;exact Nat.le_trans (List.length_take_le' _ _) (by rw [List.length_drop];exact Nat.sub_le _ _)
theorem pick_range {α:Type}(l:List α) (a:Nat):∀ k,(List.range k).filterMap (fun i=>l[a+i]?)=(l.drop a).take k
 | 0=>by simp -iota
 | k+1=>by
   rw [List.range_succ,List.filterMap_append,pick_range l a k,List.take_succ,List.getElem?_drop]
   simp -iota only [List.filterMap_cons,List.filterMap_nil]
   cases l[a+k]?<;>rfl
theorem pick_cut {α:Type}(l:List α) {a b:Int}(h0:0≤a) (h1:0≤b):(sliceRange a b 1).filterMap (l[·]?)=(l.drop a.toNat).take (b.toNat - a.toNat):=by
 unfold sliceRange
 rw [List.filterMap_map,← pick_range]
 rw [rangeN h0 h1]
 congr 1
 funext i
 show l[(a+1 * (i:Int)).toNat]? = _
 rw [add_one_mul h0]
theorem bounds_clip (lo hi:Option Int) (n:Nat):sliceBounds lo hi none n=(clipI n lo 0,clipI n hi n,1):=by
 unfold sliceBounds clipI
 cases lo<;>cases hi<;>simp
theorem pick_list (l:List Value) (lo hi:Option Int):(slicePick l.toArray lo hi none).toList=cut l lo hi:=by
 unfold slicePick
 rw [bounds_clip]
 have:=pick_cut l (clip_lo l.length lo).1 (clip_hi l.length hi).1
 simp -iota only [List.size_toArray]
 simpa -iota [cut] using this
theorem picked_cut (b:Array UInt8) (lo hi:Option Int):KBy.picked b lo hi=(cut b.toList lo hi).toArray:=by
 unfold KBy.picked Builtin.Bytes.sliced
 rw [bounds_clip]
 have:=pick_cut b.toList (clip_lo b.size lo).1 (clip_hi b.size hi).1
 simp -iota only [Array.getElem?_toList] at this
 rw [this]
 simp -iota [cut]
theorem txt_cut (x:Str) (lo hi:Option Int):PySem.Txt.slice x lo hi=⟨(cut x.cps.toList lo hi).toArray⟩:=by
 have e:strSliceIndices lo hi 1 x.length=sliceRange (clipI x.length lo 0) (clipI x.length hi x.length) 1:=by
   unfold strSliceIndices clipI
   cases lo<;>cases hi<;>simp
 have h2:=pick_cut x.cps.toList (clip_lo x.length lo).1 (clip_hi x.length hi).1
 simp -iota only [Array.getElem?_toList] at h2
 have h3:cut x.cps.toList lo hi=(x.cps.toList.drop (clipI x.length lo 0).toNat).take ((clipI x.length hi x.length).toNat - (clipI x.length lo 0).toNat):=by
   unfold cut;rfl
 unfold PySem.Txt.slice
 rw [e,h2,h3]
 split
 · rename_i hc
   simp -iota only [beq_self_eq_true,Bool.true_and,beq_iff_eq] at hc
   have ha:=clip_lo x.length lo
   have hb:=clip_hi x.length hi
   have hl:(sliceRange (clipI x.length lo 0) (clipI x.length hi x.length) 1).length=(clipI x.length hi x.length).toNat - (clipI x.length lo 0).toNat:=by
     unfold sliceRange
     rw [List.length_map,List.length_range,rangeN ha.1 hb.1]
   rw [hl] at hc
   have hlen:x.cps.toList.length=x.length:=Array.length_toList ..
   have fin:(x.cps.toList.drop (clipI x.length lo 0).toNat).take ((clipI x.length hi x.length).toNat - (clipI x.length lo 0).toNat)=x.cps.toList:=by
     by_cases hz:x.length=0
     · have e0:x.cps.toList=[]:=List.eq_nil_of_length_eq_zero (hlen.trans hz)
       rw [e0];simp -iota
     · have h0:(clipI x.length lo 0).toNat=0:=sub_full hc (Int.ofNat_le.mp ((Int.toNat_of_nonneg hb.1).symm▸hb.2)) hz
       rw [hc,h0,← hlen,List.drop_zero,List.take_length]
   rw [fin]
 · rfl
section
variable {G:Glb}{S:Sit}{X:KV}{m:Names}{H:HP}{K:KV}{KB:Bool→Names→HP→Prop}{KU:Unit→Names→HP→Prop}
noncomputable def IteC (G:Glb) (S:Sit) (o i:Value) (K:KV) (X:KV) (m:Names) (H:HP):Prop:=∀ ro ri,er ro=o→er ri=i→∀ s mm,MOk G S.env mm m→RelC G S.stk ((S.L,mm)::S.sv) S.pr H s →
 ItemOn G.M S.A (PostX G S X) ro ri (Post G S fun v=>K (er v)) s
theorem sub_ops (slice:Expr) (o i:Value):∃ ops,subscripted slice false o i=operate ops (getItem o i):=by
 rcases slice with _ | _ | _ | _ | _ | _ | _ | _ | _ | _ | _ | _ | _ | _ | _ | _ | _ | _ | _ | _ | _ | _ | _ | _ | _ | _ | ⟨_,_,_ | _,_⟩<;>exact ⟨_,rfl⟩
theorem itemRun {v slice:Expr}{o i:Value}{s:Shared}{mm:Str→Option Value}(h:ItemOn G.M S.A (PostX G S X) o i (Post G S fun v=>K (er v)) s) :
   wpAny G.M S.A (do
     let b ← getitemInPython o
     let r ← subscripted slice b o i
     letTemporaryGo v o r
     pure r) (Post G S fun v=>K (er v)) (PostX G S X) s:=by
 obtain ⟨T,id,hl,hT,hg⟩:=h
 refine wpAny_bind ?_
 rw [getitemInPython_of_ne hT.not_modules]
 refine wpAny_bind (wpAny_specialOf hT hl ?_)
 obtain ⟨ops,e⟩:=sub_ops slice o i
 refine wpAny_pure ?_
 rw [e]
 refine wpAny_bind (wpAny_operating (wpAny_mono hg (fun r s₁ qq=>?_) fun _ _ x=>x))
 obtain ⟨m₁,H₁,mm₁,M₁,R₁,k⟩:=qq
 exact W.bind (letTemp (W.pure (K:=fun v=>K (er v)) k)) s₁ mm₁ M₁ R₁
theorem e_sub {v i:Expr}{p:Pos}(h:WE G S v (fun ov=>WE G S i (fun iv=>IteC G S ov iv K X) X) X m H):WE G S (.Subscript v i p) K X m H:=by
 unfold WE
 rw [arm_eval_Subscript]
 refine W.bind (W.post h fun ov m H h=>W.bind (W.holding (W.post h fun iv m H h=>W.bind (W.standAt ?_))))
 intro s mm M R
 exact itemRun (mm:=mm) (h ov iv rfl rfl s mm M R)
noncomputable def WOpt (G:Glb) (S:Sit) (e:Option Expr) (K:KV) (X:KV) (m:Names) (H:HP):Prop:=match e with | none=>K .none m H | some e=>WE G S e K X m H
theorem wopt {e:Option Expr}(h:WOpt G S e K X m H):WV G S (valueOrNone (evalOpt e S.env)) K X m H:=by
 rcases e with _ | e
 · exact W.pure h
 · exact h
noncomputable abbrev sliObj (l u:Value):Obj:={ cls:=.type "slice",data:=.fields #[l,u,.none] }
noncomputable def SliC (G:Glb) (S:Sit) (o l u:Value) (K:KV) (X:KV) (m:Names) (H:HP):Prop:=∀ ro rl ru a,er ro=o→er rl=l→er ru=u→∀ s mm,MOk G S.env mm m→RelC G S.stk ((S.L,mm)::S.sv) S.pr H s→s.heap.get? a=some (sliObj rl ru) →
 ItemOn G.M S.A (PostX G S X) ro (.ref a) (Post G S fun v=>K (er v)) s
theorem RelC.forget {stk:List Env}{sv:Sv}{pr:Pr}{s:Shared}{a:Addr}{c:CO}(f:H.o a=none) (R:RelC G stk sv pr (H.put a c) s):RelC G stk sv pr H s:=
 ⟨R.base,R.frames,R.fsv,R.ns,R.nd,fun b co e=>R.own b co (HP.put_fresh f e),fun p hp=>let ⟨x,y,z,u⟩:=R.prot p hp;⟨x,y,z,by
   by_cases q:p.1=a
   · rw [q];exact f
   · exact (HP.put_ne (H:=H) (c:=c) q rfl).symm.trans u⟩,R.gens,R.bare,R.os⟩
theorem w_obj {o:Obj}{KO:Value→Names→HP→Prop}{t:Sem Value}(hf:o.isFreed=false) (ht:∀ s (Q:Value→Shared→Prop) E,Q (.ref s.heap.objs.size) { s with heap:=s.heap.push o }→wpAny G.M S.A t Q E s) (h:∀ a,H.o a=none→KO (.ref a) m (H.put a (.obj o))):W G S t KO X m H:=fun s mm M R=>
 ht s _ _ ⟨m,_,mm,M,R.push (.head _) (co:=.obj o) ⟨rfl,hf⟩,h _ R.fresh⟩
theorem e_slice {v:Expr}{lo hi:Option Expr}{p q:Pos}(h:WE G S v (fun ov=>WOpt G S lo (fun lv=>WOpt G S hi (fun uv=>SliC G S ov lv uv K X) X) X) X m H):WE G S (.Subscript v (.Slice lo hi none q) p) K X m H:=by
 unfold WE
 rw [arm_eval_Subscript,arm_eval_Slice]
 refine W.bind (W.post h fun ov m H h=>W.bind (W.holding (W.bind (W.post (wopt h) fun lv m H h=>W.bind (W.holding (W.post (wopt h) fun uv m H h=>W.bind (W.holding (W.pure ?_))))))))
 refine w_obj (o:=sliObj lv uv) rfl (fun s Q E h=>?_) fun a ha=>W.bind (W.standAt ?_)
 · unfold newFields
   exact wpAny_newObj_type h
 · intro s mm M R
   obtain ⟨o,ho,rfl,_⟩:=R.get HP.put_same
   exact itemRun (mm:=mm) (h ov lv uv a rfl rfl rfl s mm M (R.forget ha) ho)
theorem it_list {l:Addr}{vs:List Value}{i:Int}(hl:H.o l=some (.list vs)) (h0:0≤i) (h1:i<vs.length) (hsz:vs.length≤sizeLine) (k:K (vs.getD i.toNat .none) m H):IteC G S (.ref l) (.int i 0) K X m H:=fun ro ri e1 e2 s mm M R=>by
 obtain rfl:=er_ref' e1
 refine xe11 (er_int' e2) fun t zq1=>?_
 obtain rfl:=zq1
 refine xe12 (relList R hl) fun rvs hl' e=>?_
 refine xe12 (items_at e (i:=i.toNat) ((Int.toNat_lt h0).mpr h1)) fun x hx ex=>?_
 rw [sizeLine_eq] at hsz
 exact ⟨"list",_,list_getitem_lookup,hl'.typeIs,wpAny_getItem_list hl' h0 (Int.lt_trans h1 (Int.lt_of_le_of_lt (Int.ofNat_le.mpr hsz) (by decide))) hx (eff0 M R (by rw [ex];exact k))⟩
theorem it_str {x:Str}{i:Int}(h0:0≤i) (h1:i<x.length) (hsz:x.length≤sizeLine) (k:K (chr1 x i.toNat) m H):IteC G S (.str x 0) (.int i 0) K X m H:=fun ro ri e1 e2 s mm M R=>by
 obtain ⟨t,rfl⟩:=er_str' e1
 refine xe11 (er_int' e2) fun u zq1=>?_
 obtain rfl:=zq1
 rw [sizeLine_eq] at hsz
 have hi:i.toNat<x.cps.size:=by exact (Int.toNat_lt h0).mpr h1
 have hn:seqIndex? i x.length=some i.toNat:=by
   have:¬ i<0:=Int.not_lt.mpr h0
   simp -iota [seqIndex?,this,h0,h1]
 refine ⟨"str",_,F.slot_str_getitem.lookup,typeIs_str _ _ _,P.getItem_str (c:=x.cps.toList.getD i.toNat 0) ?_ ?_ (eff_ M R k)⟩
 · simp -iota only [Bool.or_eq_false_iff,decide_eq_false_iff_not];exact ⟨Int.not_lt.mpr (Int.le_trans (by decide) h0),Int.not_le.mpr (Int.lt_trans h1 (Int.lt_of_le_of_lt (Int.ofNat_le.mpr hsz) (by decide)))⟩
 · rw [hn];simp -iota [List.getD,hi]
theorem it_bytes {b:Array UInt8}{i:Int}(h0:0≤i) (h1:i<b.size) (hsz:b.size≤sizeLine) (k:K (byt1 b i.toNat) m H):IteC G S (.bytes b 0) (.int i 0) K X m H:=fun ro ri e1 e2 s mm M R=>by
 obtain ⟨t,rfl⟩:=er_bytes' e1
 refine xe11 (er_int' e2) fun u zq1=>?_
 obtain rfl:=zq1
 rw [sizeLine_eq] at hsz
 refine ⟨"bytes",_,FB.slot_bytes_getitem.lookup,typeIs_bytes _ _ _,?_⟩
 have:b=b.toList.toArray:=by simp -iota
 rw [this]
 exact getItem_bytes (by rw [Array.length_toList];exact Nat.le_trans (by assumption) (by decide +kernel)) h0 (by rw [Array.length_toList];exact h1) (eff_ M R k)
theorem er_opt {r:Value}{i:Option Int}(h:er r=(match i with | none=>.none | some i=>.int i 0)):IsPart r i:=by
 rcases i with _ | i
 · rw [er_none' h];exact .none
 · obtain ⟨t,rfl⟩:=er_int' h;exact .int _ _
noncomputable def optV:Option Int→Value
 | none=>.none
 | some i=>.int i 0
theorem part_of {r:Value}{i:Option Int}(h:er r=optV i):IsPart r i:=er_opt (by cases i<;>exact h)
theorem sl_bytes {b:Array UInt8}{lo hi:Option Int}(hne:KBy.whole b lo hi=false) (hz:b.size≤16777216) (k:K (.bytes (cut b.toList lo hi).toArray 0) m H):SliC G S (.bytes b 0) (optV lo) (optV hi) K X m H:=fun ro rl ru a e1 e2 e3 s mm M R hs=>by
 refine xe11 (er_bytes' e1) fun t zq1=>?_
 obtain rfl:=zq1
 exact ⟨"bytes",_,FB.slot_bytes_getitem.lookup,typeIs_bytes _ _ _,getItem_meets (typeIs_bytes _ _ _) (by decide) FB.slot_bytes_getitem FB.entry_bytes_getitem (FB.args_bytes_getitem_2 _ _) (KBy.meets_slice b t _ (part_of e2) (part_of e3) hne)
   ⟨⟨_,hs,rfl,rfl⟩,by rw [sizeLine_eq,picked_cut,List.size_toArray];exact Nat.le_trans (cut_le ..) (by simpa -iota using hz),⟨m,H,mm,M,R.toks _,by rw [picked_cut];exact k⟩⟩⟩
theorem sl_list {l:Addr}{vs:List Value}{lo hi:Option Int}(hl:H.o l=some (.list vs)) (hsz:vs.length≤sizeLine) (k:∀ a,H.o a=none→K (.ref a) m (H.put a (.list (cut vs lo hi)))):SliC G S (.ref l) (optV lo) (optV hi) K X m H:=fun ro rl ru a e1 e2 e3 s mm M R hs=>by
 obtain rfl:=er_ref' e1
 refine xe12 (relList R hl) fun rvs hl' e=>?_
 have hz:rvs.size≤sizeLine:=by
   have:rvs.size=vs.length:=by rw [← e];simp -iota
   rw [this];exact hsz
 refine ⟨"list",_,list_getitem_lookup,hl'.typeIs,wpAny_getItem_list_slice hl' ⟨_,hs,rfl,rfl⟩ (part_of e2) (part_of e3) .none (by simp -iota) ?_ hz⟩
 refine ⟨m,_,mm,M,R.push (.head _) (co:=.list (cut vs lo hi)) ⟨_,0,rfl,?_⟩,k _ R.fresh⟩
 rw [← e,cut_map,show rvs=rvs.toList.toArray by simp -iota,pick_list]
theorem sl_str {x:Str}{lo hi:Option Int}(hsz:x.length≤sizeLine) (k:K (.str ⟨(cut x.cps.toList lo hi).toArray⟩ 0) m H):SliC G S (.str x 0) (optV lo) (optV hi) K X m H:=fun ro rl ru a e1 e2 e3 s mm M R hs=>by
 refine xe11 (er_str' e1) fun t zq1=>?_
 obtain rfl:=zq1
 have go:∀ (l u:Option (Int × Tok)),lo=l.map (·.1)→hi=u.map (·.1)→rl=partValue l→ru=partValue u→ItemOn G.M S.A (PostX G S X) (.str x t) (.ref a) (Post G S fun v=>K (er v)) s:=by
   rintro l u rfl rfl rfl rfl
   refine ⟨"str",_,F.slot_str_getitem.lookup,typeIs_str _ _ _,wpAny_getItem_str_slice (l:=l) (u:=u) (st:=none) ⟨_,hs,rfl,rfl⟩ rfl ?_⟩
   have key:∀ t' k',Post G S (fun v=>K (er v)) (.str (PySem.Txt.slice x (l.map (·.1)) (u.map (·.1))) t') { s with toks:=k' }:=fun t' k'=>⟨m,H,mm,M,R.toks _,by rw [txt_cut];exact k⟩
   exact post_val_or_str ⟨Nat.le_trans (PySem.Txt.slice_le x _ _) hsz,key⟩
 rcases lo with _ | i
 ·
   have e2:=er_none' e2
   cases hi with
   | none=>exact go none none rfl rfl e2 (er_none' e3)
   | some j=>obtain ⟨tj,e3⟩:=er_int' e3;exact go none (some (j,tj)) rfl rfl e2 e3
 ·
   refine xe11 (er_int' e2) fun ti e2=>?_
   cases hi with
   | none=>exact go (some (i,ti)) none rfl rfl e2 (er_none' e3)
   | some j=>obtain ⟨tj,e3⟩:=er_int' e3;exact go (some (i,ti)) (some (j,tj)) rfl rfl e2 e3
end
end Mine
end
section
open PySem PySem.W PyProof.Rows PySem.Calls
namespace Mine
section
variable {G:Glb}{S:Sit}{X:KV}{m:Names}{H:HP}{K:KV}{KB:Bool→Names→HP→Prop}{KU:Unit→Names→HP→Prop}
theorem map_nil' {rkw:List (Str × Value)}(h:rkw.map (fun p=>(p.1,er p.2))=[]):rkw=[]:=List.map_eq_nil_iff.mp h
theorem map_cons' {rvs:List Value}{a:Value}{r:List Value}(h:rvs.map er=a::r):∃ x l,rvs=x::l∧er x=a∧l.map er=r:=List.map_eq_cons_iff.mp h
theorem map_one {rvs:List Value}{a:Value}(h:rvs.map er=[a]):∃ x,rvs=[x]∧er x=a:=by
 refine xe23 (map_cons' h) fun x l e e1 e2=>?_
 exact ⟨x,e.trans (congrArg _ (List.map_eq_nil_iff.mp e2)),e1⟩
theorem map_two {rvs:List Value}{a b:Value}(h:rvs.map er=[a,b]):∃ x y,rvs=[x,y]∧er x=a∧er y=b:=by
 refine xe23 (map_cons' h) fun x l e e1 e2=>?_
 refine xe12 (map_one e2) fun y q e3=>?_
 exact ⟨x,y,e.trans (congrArg _ q),e1,e3⟩
theorem map_three {rvs:List Value}{a b c:Value}(h:rvs.map er=[a,b,c]):∃ x y z,rvs=[x,y,z]∧er x=a∧er y=b∧er z=c:=by
 refine xe23 (map_cons' h) fun x l e e1 e2=>?_
 refine xe22 (map_two e2) fun y z q e3=>?_
 exact ⟨x,y,z,e.trans (congrArg _ q),e1,e3⟩
theorem er_fn {f g:Value}(h:er f=er g) (hg:(∃ i,g=.builtin i)∨∃ i,g=.type i):f=g:=by
 rcases hg with ⟨i,rfl⟩ | ⟨i,rfl⟩
 · exact er_builtin' h
 · exact er_type' h
noncomputable abbrev Eff1 (G:Glb) (S:Sit) (K:KV) (X:KV) (m:Names) (H:HP) (t:Sem Value):Prop:=∀ s mm,MOk G S.env mm m→RelC G S.stk ((S.L,mm)::S.sv) S.pr H s→wpAny G.M S.A t (Post G S fun v=>K (er v)) (PostX G S X) s
theorem cal1 {f a:Value}(hf:(∃ i,f=.builtin i)∨∃ i,f=.type i) (h:∀ r,er r=a→Eff1 G S K X m H (call f [r] [])):CalC G S f [a] [] K X m H:=fun rf rvs rkw ef e1 e2=>by
 obtain rfl:=er_fn ef hf
 refine xe12 (map_one e1) fun x zq1 ex=>?_
 obtain rfl:=zq1
 obtain rfl:=map_nil' e2
 exact h x ex
theorem cal2 {f a b:Value}(hf:(∃ i,f=.builtin i)∨∃ i,f=.type i) (h:∀ r q,er r=a→er q=b→Eff1 G S K X m H (call f [r,q] [])):CalC G S f [a,b] [] K X m H:=fun rf rvs rkw ef e1 e2=>by
 obtain rfl:=er_fn ef hf
 refine xe23 (map_two e1) fun x y zq2 ex ey=>?_
 obtain rfl:=zq2
 obtain rfl:=map_nil' e2
 exact h x y ex ey
theorem cal3 {f a b c:Value}(hf:(∃ i,f=.builtin i)∨∃ i,f=.type i) (h:∀ r q p,er r=a→er q=b→er p=c→Eff1 G S K X m H (call f [r,q,p] [])):CalC G S f [a,b,c] [] K X m H:=fun rf rvs rkw ef e1 e2=>by
 obtain rfl:=er_fn ef hf
 refine xe34 (map_three e1) fun x y z zq3 ex ey ez=>?_
 obtain rfl:=zq3
 obtain rfl:=map_nil' e2
 exact h x y z ex ey ez
theorem isB {i:String}:(∃ j,Value.builtin i=.builtin j)∨∃ j,Value.builtin i=.type j:=.inl ⟨_,rfl⟩
theorem isT {i:String}:(∃ j,Value.type i=.builtin j)∨∃ j,Value.type i=.type j:=.inr ⟨_,rfl⟩
theorem f_len_s {x:Str}(hsz:x.length≤sizeLine) (k:K (.int x.length 0) m H):CalC G S (.builtin "len") [.str x 0] [] K X m H:=cal1 isB fun r e s mm M R=>by
 refine xe11 (er_str' e) fun t zq1=>?_
 obtain rfl:=zq1
 rw [sizeLine_eq] at hsz
 exact P.len_str (by lia) (eff_ M R k)
theorem f_len_b {x:Array UInt8}(hsz:x.size≤sizeLine) (k:K (.int x.size 0) m H):CalC G S (.builtin "len") [.bytes x 0] [] K X m H:=cal1 isB fun r e s mm M R=>by
 refine xe11 (er_bytes' e) fun t zq1=>?_
 obtain rfl:=zq1
 rw [sizeLine_eq] at hsz
 exact len_bytes (by exact Nat.le_trans (by assumption) (by decide +kernel)) (eff_ M R k)
theorem f_len_l {l:Addr}{vs:List Value}(hl:H.o l=some (.list vs)) (hsz:vs.length≤sizeLine) (k:K (.int vs.length 0) m H):CalC G S (.builtin "len") [.ref l] [] K X m H:=cal1 isB fun r e s mm M R=>by
 obtain rfl:=er_ref' e
 refine xe12 (relList R hl) fun rvs hl' e=>?_
 rw [sizeLine_eq] at hsz
 have hn:rvs.size=vs.length:=by rw [← e];simp
 exact call_len_list hl' (by lia) (eff_ M R (by rw [hn];exact k))
theorem f_len_lE {l:Addr}{vs:List Value}{N:Nat}(e:vs.length=N) (hl:H.o l=some (.list vs)) (hsz:N≤sizeLine) (k:K (.int N 0) m H):CalC G S (.builtin "len") [.ref l] [] K X m H:=by subst e;exact f_len_l hl hsz k
theorem f_ord {c:Nat}(k:K (.int c 0) m H):CalC G S (.builtin "ord") [.str ⟨#[c]⟩ 0] [] K X m H:=cal1 isB fun r e s mm M R=>by
 refine xe11 (er_str' e) fun t zq1=>?_
 obtain rfl:=zq1
 exact P.ord_of_char (eff_ M R k)
theorem f_chr {i:Int}(h0:0≤i) (h1:i≤1114111) (k:K (.str ⟨#[i.toNat]⟩ 0) m H):CalC G S (.builtin "chr") [.int i 0] [] K X m H:=cal1 isB fun r e s mm M R=>by
 refine xe11 (er_int' e) fun t zq1=>?_
 obtain rfl:=zq1
 exact chr_of_range h0 h1 (eff_ M R k)
theorem f_int {i:Int}(k:K (.int i 0) m H):CalC G S (.type "int") [.int i 0] [] K X m H:=cal1 isT fun r e s mm M R=>by
 refine xe11 (er_int' e) fun t zq1=>?_
 obtain rfl:=zq1
 exact call_int_int (eff0 M R k)
theorem f_range1 {n:Int}(k:∀ a t u v,H.o a=none→K (.ref a) m (H.put a (.obj (rngObj 0 n 1 t u v)))):CalC G S (.type "range") [.int n 0] [] K X m H:=cal1 isT fun r e s mm M R=>by
 refine xe11 (er_int' e) fun t zq1=>?_
 obtain rfl:=zq1
 exact call_range_1 ⟨m,_,mm,M,(R.push (.head _) (co:=.obj _) ⟨rfl,rfl⟩).toks _,k _ _ _ _ R.fresh⟩
theorem f_range2 {b n:Int}(k:∀ a t u v,H.o a=none→K (.ref a) m (H.put a (.obj (rngObj b n 1 t u v)))):CalC G S (.type "range") [.int b 0,.int n 0] [] K X m H:=cal2 isT fun r q e1 e2 s mm M R=>by
 obtain ⟨t,rfl⟩:=er_int' e1
 refine xe11 (er_int' e2) fun u zq1=>?_
 obtain rfl:=zq1
 exact call_range_2 ⟨m,_,mm,M,(R.push (.head _) (co:=.obj _) ⟨rfl,rfl⟩).toks _,k _ _ _ _ R.fresh⟩
theorem f_range3 {b n c:Int}(hc:c≠0) (hs:c.natAbs<1073741824) (k:∀ a t u v,H.o a=none→K (.ref a) m (H.put a (.obj (rngObj b n c t u v)))):CalC G S (.type "range") [.int b 0,.int n 0,.int c 0] [] K X m H:=cal3 isT fun r q p e1 e2 e3 s mm M R=>by
 obtain ⟨t,rfl⟩:=er_int' e1
 obtain ⟨u,rfl⟩:=er_int' e2
 refine xe11 (er_int' e3) fun v zq1=>?_
 obtain rfl:=zq1
 exact call_range_3 hc ⟨m,_,mm,M,(R.push (.head _) (co:=.obj _) ⟨rfl,rfl⟩).toks _,k _ _ _ _ R.fresh⟩ (.inl (PyProof.noPylong_small hs))
theorem f_divmod {a b:Int}(hb:0<b) (hs:b.natAbs<1073741824) (k:∀ r,H.o r=none→K (.ref r) m (H.put r (.tup [.int (a / b) 0,.int (a % b) 0]))):CalC G S (.builtin "divmod") [.int a 0,.int b 0] [] K X m H:=cal2 isB fun r q e1 e2 s mm M R=>by
 obtain ⟨t,rfl⟩:=er_int' e1
 refine xe11 (er_int' e2) fun u zq1=>?_
 obtain rfl:=zq1
 exact divmod_int (by lia) ⟨m,_,mm,M,(R.push (.head _) (co:=.tup [.int (a / b) 0,.int (a % b) 0]) ⟨_,0,rfl,by rw [← Int.fdiv_eq_ediv_of_nonneg _ (by exact Int.le_of_lt (by assumption):0≤b),← Int.fmod_eq_emod_of_nonneg _ (by exact Int.le_of_lt (by assumption):0≤b)];rfl⟩).toks _,k _ R.fresh⟩ (.inl (PyProof.noPylong_small hs))
noncomputable def intL (ns:List Int):List Value:=ns.map fun n=>.int n 0
noncomputable def strL (xs:List Str):List Value:=xs.map fun x=>.str x 0
theorem ints_are:∀ {vs:List Value}{ns:List Int},vs.map er=intL ns→IntsAre vs ns
 | [],[],_=>.nil
 | [],n::ns,h=>by simp [intL] at h
 | v::vs,[],h=>by simp [intL] at h
 | v::vs,n::ns,h=>by
   simp only [intL,List.map_cons,List.cons.injEq] at h
   refine xe11 (er_int' h.1) fun t zq1=>?_
   obtain rfl:=zq1
   exact .cons n t (ints_are h.2)
theorem strs_are:∀ {vs:List Value}{ns:List Str},vs.map er=strL ns→StrsAre vs ns
 | [],[],_=>.nil
 | [],n::ns,h=>by simp [strL] at h
 | v::vs,[],h=>by simp [strL] at h
 | v::vs,n::ns,h=>by
   simp only [strL,List.map_cons,List.cons.injEq] at h
   refine xe11 (er_str' h.1) fun t zq1=>?_
   obtain rfl:=zq1
   exact .cons n t (strs_are h.2)
theorem R_keeps {stk:List Env}{sv:Sv}{pr:Pr}{s:Shared}(R:RelC G stk sv pr H s) {h':Heap}{tk:Nat}(k:∀ b o,s.heap.get? b=some o→h'.get? b=some o):RelC G stk sv pr H { s with heap:=h',toks:=tk }:=
 R.grow (tk:=tk) (dr:=s.drawn) k (fun a c e=>.inl e) rfl
theorem f_bytes {l:Addr}{ns:List Int}(hh:S.A.handled=none) (hl:H.o l=some (.list (intL ns))) (hr:∀ n∈ns,0≤n∧n<256) (hz:ns.length≤sizeLine) (k:K (.bytes (byteArr ns) 0) m H):CalC G S (.type "bytes") [.ref l] [] K X m H:=cal1 isT fun r e s mm M R=>by
 obtain rfl:=er_ref' e
 refine xe12 (relList R hl) fun rvs hl' e=>?_
 have hi:=ints_are e
 exact call_bytes_ints (vs:=rvs.toList) (by simpa using hl') hi hr (by rw [hi.length];exact hz) hh fun h' t tk kp=>⟨m,H,mm,M,R_keeps R kp,k⟩
theorem f_join {x:Str}{l:Addr}{xs:List Str}(hl:H.o l=some (.list (strL xs))) (hok:(xs.map (·.length)).sum+xs.length * x.length≤16777216) (k:K (.str (PySem.Txt.join x xs) 0) m H):CalC G S (.builtin "str.join") [.str x 0,.ref l] [] K X m H:=cal2 isB fun r q e1 e2 s mm M R=>by
 refine xe11 (er_str' e1) fun t zq1=>?_
 obtain rfl:=zq1
 obtain rfl:=er_ref' e2
 refine xe12 (relList R hl) fun rvs hl' e=>?_
 exact join_list hl' (strs_are e) hok fun t' tk=>eff_ M R k
theorem f_append {l:Addr}{vs:List Value}{v:Value}(hl:H.o l=some (.list vs)) (hsz:vs.length≤sizeLine) (k:K .none m (H.put l (.list (vs++[v])))):CalC G S (.builtin "list.append") [.ref l,v] [] K X m H:=cal2 isB fun r q e1 e2 s mm M R=>by
 obtain rfl:=er_ref' e1
 obtain ⟨o,ho,rvs,n,rfl,e⟩:=R.get hl
 have hz:rvs.size≤sizeLine:=by
   have:rvs.size=vs.length:=by rw [← e];simp
   rw [this];exact hsz
 refine wpAny_list_append_plain ⟨n,ho⟩ (fun h' ⟨n',ho'⟩ sb=>⟨m,_,mm,M,R.upd (co':=.list (vs++[v])) (tk:=s.toks) hl (fun b q=>sb.2 b q) ho' ⟨_,_,rfl,?_⟩,k⟩) hz
 rw [Array.toList_push,List.map_append,e,List.map_cons,List.map_nil,e2]
end
end Mine
end
section
open PySem PySem.W PyProof.Rows PySem.Calls
namespace Mine
section
variable {G:Glb}{S:Sit}{X:KV}{m:Names}{H:HP}{K:KV}{KM:Value→List Value→Names→HP→Prop}
theorem met_i {n:Str}{id:String}{i:Int}(slot:Slot "int" n id) (ty:typeOf (.builtin id)=pure (.type "method_descriptor")) (k:KM (.builtin id) [.int i 0] m H):MetC G S (.int i 0) n KM X m H:=fun ro pl e s mm M R=>by
 obtain ⟨t,rfl⟩:=er_int' e
 exact getMethod_builtin (typeIs_int _ _ _) PySem.F.plainAttrs_int slot ty (fun a e=>by cases e) ⟨m,H,mm,M,R,k⟩
theorem met_s {n:Str}{id:String}{i:Str}(slot:Slot "str" n id) (ty:typeOf (.builtin id)=pure (.type "method_descriptor")) (k:KM (.builtin id) [.str i 0] m H):MetC G S (.str i 0) n KM X m H:=fun ro pl e s mm M R=>by
 obtain ⟨t,rfl⟩:=er_str' e
 exact getMethod_builtin (typeIs_str _ _ _) PySem.F.plainAttrs_str slot ty (fun a e=>by cases e) ⟨m,H,mm,M,R,k⟩
theorem met_b {n:Str}{id:String}{i:Array UInt8}(slot:Slot "bytes" n id) (ty:typeOf (.builtin id)=pure (.type "method_descriptor")) (k:KM (.builtin id) [.bytes i 0] m H):MetC G S (.bytes i 0) n KM X m H:=fun ro pl e s mm M R=>by
 obtain ⟨t,rfl⟩:=er_bytes' e
 exact getMethod_builtin (typeIs_bytes _ _ _) FB.plainAttrs_bytes slot ty (fun a e=>by cases e) ⟨m,H,mm,M,R,k⟩
theorem met_l {n:Str}{id:String}{l:Addr}{vs:List Value}(hl:H.o l=some (.list vs)) (slot:Slot "list" n id) (ty:typeOf (.builtin id)=pure (.type "method_descriptor")) (k:KM (.builtin id) [.ref l] m H):MetC G S (.ref l) n KM X m H:=fun ro pl e s mm M R=>by
 obtain rfl:=er_ref' e
 obtain ⟨o,ho,rvs,n,rfl,e⟩:=R.get hl
 exact getMethod_builtin ⟨_,ho,rfl⟩ PySem.F.plainAttrs_list slot ty (fun a e=>by cases e;exact ⟨_,ho,rfl⟩) ⟨m,H,mm,M,R,k⟩
noncomputable def lo2 (n:Int):Array UInt8:=#[(n.toNat % 256).toUInt8,(n.toNat / 256 % 256).toUInt8]
theorem intBits_le {x:Int}{n:Nat}(h0:0≤x) (h:x<2 ^ n):Builtin.Int.intBits x≤n:=by
 unfold Builtin.Int.intBits
 split
 · exact Nat.zero_le _
 · rename_i hx
   have hx:x≠0:=by simpa using hx
   have h1:x.natAbs≠0:=by lia
   have h2:x.natAbs<2 ^ n:=by
     have:(x.natAbs:Int)<((2 ^ n:Nat):Int):=by
       rw [Int.natAbs_of_nonneg h0];push_cast;exact h
     exact_mod_cast this
   exact (Nat.log2_lt h1).mpr h2
theorem call_to_bytes2 {prog:Program}{w:World}{A:Around}{E:Value→Shared→Prop}{s:Shared}{n:Int}{t u v:Tok}{Q:Value→Shared→Prop}(h0:0≤n) (h1:n<65536) (h:∀ t' k,Q (.bytes (lo2 n) t') { s with toks:=k }) :
   wpAny (model prog w) A (call (.builtin "int.to_bytes") [.int n t,.int 2 u,.str "little" v]) Q E s:=by
 refine wpAny_call_entry F.slot_int_to_bytes (typeIs_int _ _ _) F.entry_int_to_bytes ?_ (F.args_int_to_bytes_3 _ _ _)
 obtain ⟨hp,g,d,tk,os⟩:=s
 unfold Builtin.«int.to_bytes»
 wp_walk
 have hb:¬ ((n != 0&&decide ((if false=true then ((Builtin.Int.intBits (if n<0 then -n - 1 else n):Nat):Int)+1 else ((Builtin.Int.intBits n:Nat):Int)) > 8 * 2))=true):=by
   have:=intBits_le (n:=16) h0 (by simpa using h1)
   simp only [Bool.false_eq_true,if_false,Bool.and_eq_true,decide_eq_true_eq,not_and]
   intro _;lia
 rw [if_neg hb]
 have e:∀ own:Nat,own=min 2 (Builtin.Int.intBits n / 8+1)→((List.range own).map (fun i=>(((n % (256 ^ own:Int)).toNat >>> (8 * i)) % 256).toUInt8)++List.replicate (2 - own) (if n<0 then 255 else 0)).toArray=lo2 n:=by
   intro own ho
   have hn:¬ n<0:=Int.not_lt.mpr h0
   rw [if_neg hn]
   unfold lo2
   by_cases hs:Builtin.Int.intBits n<8
   · have:own=1:=by rw [ho,Nat.div_eq_of_lt hs];exact rfl
     subst this
     have hlt:n<256:=by
       by_cases hz:n=0
       · rw [hz];decide
       · unfold Builtin.Int.intBits at hs
         rw [if_neg (by simpa using hz)] at hs
         have h2:n.natAbs<2 ^ 8:=(Nat.log2_lt (by lia)).mp (by lia)
         lia
     have h3:n % (256 ^ 1:Int)=n:=by rw [Int.pow_one];exact Int.emod_eq_of_lt h0 hlt
     have h4:n.toNat / 256 % 256=0:=by rw [Nat.div_eq_of_lt ((Int.toNat_lt h0).mpr hlt)]
     rw [h3,h4]
     simp [List.range_succ,List.range_zero]
   · have:own=2:=by rw [ho];exact Nat.min_eq_left (Nat.succ_le_succ (Nat.div_pos (Nat.le_of_not_lt hs) (by decide)))
     subst this
     have h3:n % (256 ^ 2:Int)=n:=by
       rw [show (256 ^ 2:Int)=65536 by decide];exact Int.emod_eq_of_lt h0 h1
     rw [h3]
     have h4:n.toNat >>> 8=n.toNat / 256:=by rw [Nat.shiftRight_eq_div_pow]
     simp [List.range_succ,List.range_zero,h4]
 refine wpAny_bind (wpAny_mkBytes (wpAny_pure ⟨_,rfl,?_⟩) ?_)
 · show Q (.bytes (((List.range (min 2 (Builtin.Int.intBits n / 8+1))).map (fun i=>(((n % (256 ^ (min 2 (Builtin.Int.intBits n / 8+1)):Int)).toNat >>> (8 * i)) % 256).toUInt8)++List.replicate (2 - (min 2 (Builtin.Int.intBits n / 8+1))) (if n<0 then 255 else 0)).toArray) _) _
   rw [e _ rfl]
   exact h _ _
 · show (((List.range (min 2 (Builtin.Int.intBits n / 8+1))).map (fun i=>(((n % (256 ^ (min 2 (Builtin.Int.intBits n / 8+1)):Int)).toNat >>> (8 * i)) % 256).toUInt8)++List.replicate (2 - (min 2 (Builtin.Int.intBits n / 8+1))) (if n<0 then 255 else 0)).toArray).size≤sizeLine
   rw [e _ rfl,sizeLine_eq]
   show 2≤16777216
   decide
theorem f_to_bytes2 {n:Int}(h0:0≤n) (h1:n<65536) (k:K (.bytes (lo2 n) 0) m H):CalC G S (.builtin "int.to_bytes") [.int n 0,.int 2 0,.str "little" 0] [] K X m H:=cal3 isB fun r q p e1 e2 e3 s mm M R=>by
 obtain ⟨t,rfl⟩:=er_int' e1
 obtain ⟨u,rfl⟩:=er_int' e2
 obtain ⟨v,rfl⟩:=er_str' e3
 exact call_to_bytes2 h0 h1 fun t' k'=>eff_ M R k
end
end Mine
end
section
open PySem PySem.W PyProof.Rows PySem.Calls
namespace Mine
structure Rm (A:Around) (stk:List Env) (n:Nat):Prop where
 c:COk A stk n
 hh:A.handled=none
 top:∃ e₀ r f,stk=e₀::r∧e₀.frame=some f
theorem big_of {G:Glb}{stk:List Env}{sv:Sv}{pr:Pr}{H:HP}{s:Shared}(h:∃ e₀ r f,stk=e₀::r∧e₀.frame=some f) (R:RelC G stk sv pr H s):G.base.objs.size≤s.heap.objs.size:=by
 obtain ⟨e₀,r,f,rfl,hf⟩:=h
 obtain ⟨p,hp,rfl⟩:=List.mem_map.mp (R.fsv e₀ (.head _) f hf)
 exact R.big hp
theorem cells_none {names:List (Str × NameKind)}(h:(names.all fun x=>x.2 != .cell)=true):∀ {acc:List (Str × Addr)}{H:HP}{P:List (Str × Addr)→HP→Prop},P acc H→CellsC names acc H P:=by
 induction names with
 | nil=>exact fun p=>p
 | cons q r ih=>
   intro acc H P p
   obtain ⟨n,k⟩:=q
   rw [List.all_cons,Bool.and_eq_true] at h
   exact (if_neg (bne_iff_ne.mp h.1):(if k=NameKind.cell then _ else CellsC r acc H P)=_).mpr (ih h.2 p)
noncomputable abbrev retV (fl:Flow):Value:=match fl with | .ret v=>v | _=>.none
theorem enterN {G:Glb}{A:Around}{stk:List Env}{sv:Sv}{pr:Pr}{f:Addr}{vs:List Value}{kw:List (Str × Value)}{K X:KH}{H:HP}{n:Nat}
   (r:Rm A stk (n+1)) (ls:List Str) (gs:List (Str × Value)) (binds:List (Str × Value)) {m₁:Names}{fd:FuncData}{oc:Value}{od:Option Addr}{osl:Array (Option Value)}(ho:G.K.lookup f=some ⟨oc,od,.func fd,osl⟩) {body:List Stmt}(hbody:fd.body=.stmts body)
   (hbind:∀ s rvs rkw,G.K.In s.heap→rvs.map er=vs→rkw.map (fun p=>(p.1,er p.2))=kw→∃ rb,BindsTo s fd ⟨rvs,rkw⟩ rb∧rb.map (fun p=>(p.1,er p.2))=binds)
   (hcd:codeIn G.K fd.code fd.qualname=true) (hchk:chkM fd.scope.names ls [] (gs.map (·.1))=true) (hgs:∀ x∈gs,x∈G.gtab) (hB:BindM binds (mkM ls [] gs) H m₁ H)
   (h:∀ S:Sit,S.Ok G→Rm S.A S.stk n→WS G S body (fun fl _ H=>K (retV fl) H) (fun c _ H=>X c H) m₁ H)
   (hco:fd.scope.isCoroutine=false:=by rfl) (hgen:fd.scope.isGenerator=false:=by rfl) (hcl:fd.closure=[]:=by rfl) (hkind:fd.scope.kind=.function:=by rfl) (hgl:fd.globals=mainGlobals:=by rfl) (hbl:fd.builtins=builtinsNs:=by rfl)
   (hnc:(fd.scope.names.all fun x=>x.2 != .cell)=true:=by rfl):Calls G A stk sv pr (.ref f) vs kw K X H:=by
 refine enter r.c ho hbody hbind hco hgen hcl hkind hgl hbl hcd (fun s R=>big_of r.top R) fun L=>cells_none hnc fun env he=>?_
 refine ⟨mkM ls [] gs,m₁,H,?_,hB,fun S hS O C=>h S O ⟨C,?_,?_⟩⟩
 · subst he;exact mkM_ok rfl hchk hgs
 · subst hS;exact r.hh
 · subst hS;subst he;exact ⟨_,_,_,rfl,rfl⟩
end Mine
end
section
namespace PySem
open Sem (wp)
open PyProof.Rows (IntsAre)
section
variable {prog:Program}{w:World}{A:Around}{E:Value→Shared→Prop}{s:Shared}
theorem raiseWords {α:Type}{M:Model}{cls msg:String}{Q:α→Shared→Prop}(hp:PlainExc cls) (hh:A.handled=none)
   (h:∀ tk o1 t,o1.isFreed=false→E (.ref (s.heap.objs.size+1)) { s with heap:=(s.heap.push o1).push { cls:=.type cls,data:=.fields #[t,.none,.none,.none,.bool false,.none] },toks:=tk }) :
   wpAny M A (raiseErrorWords cls msg:Sem α) Q E s:=by
 unfold raiseErrorWords
 refine wpAny_bind (wpAny_mkText (wpAny_bind ?_))
 unfold newExc newTuple
 refine wpAny_bind (wpAny_newObj_type ?_)
 refine wpAny_bind (m:=firstArgMember _ _) (wpAny_of_eq (a:=Value.none) (by simp only [firstArgMember,hp.first];rfl) ?_)
 rw [hp.own]
 refine wpAny_newObj_type ?_
 unfold raiseNew
 refine wpAny_bind (wpAny_handled ?_)
 rw [hh]
 have:=h (s.toks+1) { cls:=.type "tuple",data:=.seq [Value.str msg s.toks].toArray } (.ref s.heap.objs.size) rfl
 rw [← Heap.size_push s.heap { cls:=.type "tuple",data:=.seq [Value.str msg s.toks].toArray }] at this
 first
   | exact wpAny_throw this
   | exact wpAny_bind (wpAny_pure (wpAny_throw this))
theorem bm_loop_bad {R:Result→Shared→Prop}{l I S:Addr}{vs:List Value}{ns:List Int}(hh:A.handled=none) (hi:IntsAre vs ns) {j:Nat}(hj:j<ns.length) (hr:∀ i,i<j→∀ n,ns[i]? = some n→0≤n∧n<256) (hbad:∀ n,ns[j]? = some n→n<0∨256≤n) (hz:ns.length≤sizeLine) (hIS:I≠S) (hlI:l≠I) (hlS:l≠S) :
   ∀ (k i:Nat) (s:Shared),j - i=k→i≤j→s.heap.IsList l vs.toArray→s.heap.IsListIter I l i→s.heap.get? S=some { cls:=.type "bytearray",data:=.bytearray (byteArr (ns.take i)) } →
     (∀ (h₁:Heap) (k':Nat) (o1:Obj) (t:Value),(∀ b o,b≠I→b≠S→s.heap.get? b=some o→h₁.get? b=some o)→s.heap.objs.size≤h₁.objs.size→o1.isFreed=false→R (.error (.ref (h₁.objs.size+1))) { s with heap:=(h₁.push o1).push { cls:=.type "ValueError",data:=.fields #[t,.none,.none,.none,.bool false,.none] },toks:=k' }) →
     codeAny (model prog w) A (.builtin "bytes.__new__.loop" ⟨[.type "bytes",.ref I,.ref S],[]⟩) R s:=by
 have hlen:vs.length=ns.length:=hi.length
 intro k
 induction k with
 | zero=>
   intro i s hk hle hl hit hS hR
   have hin:i=j:=Mine.le_sub0 hk hle
   subst hin
   obtain ⟨x,hx⟩:∃ x,vs[i]? = some x:=⟨vs[i]'(by lia),List.getElem?_eq_getElem (by lia)⟩
   obtain ⟨n,t,rfl,hn⟩:=IntsAre.at hi i x hx
   have hb:=hbad n hn
   refine codeAny_builtin F.bm_entry_loop ?_
   rw [Around.under_plainId F.bm_plain_loop _]
   show wpAny _ A.in1 (pyNext (.ref I) >>= _) _ _ s
   refine wpAny_bind (wpAny_pyNext_list_item (x:=.int n t) hit hl (by simpa using hx) fun h' hit' hs=>?_)
   refine wpAny_bind (wpAny_holding (wpAny_of_eq (rfl:asIndex (.int n t)=pure n) ?_))
   refine wpAny_bind (wpAny_letGo ?_)
   refine bm_if_true (by simp only [Bool.or_eq_true,decide_eq_true_eq];omega) ?_
   refine wpAny_bind (wpAny_rule (wpAny_bind (raiseWords plainExc_ValueError hh fun tk o1 t ho=>?_)))
   exact hR h' tk o1 t (fun b o hb _ e=>hs.extBut b o hb e) (Nat.le_of_eq hs.1.symm) ho
 | succ k ih=>
   intro i s hk hle hl hit hS hR
   have hlt:i<j:=Mine.lt_sub hk
   obtain ⟨x,hx⟩:∃ x,vs[i]? = some x:=⟨vs[i]'(by lia),List.getElem?_eq_getElem (by lia)⟩
   obtain ⟨n,t,rfl,hn⟩:=IntsAre.at hi i x hx
   obtain ⟨h0,h1⟩:=hr i hlt n hn
   refine codeAny_builtin F.bm_entry_loop ?_
   rw [Around.under_plainId F.bm_plain_loop _]
   show wpAny _ A.in1 (pyNext (.ref I) >>= _) _ _ s
   refine wpAny_bind (wpAny_pyNext_list_item (x:=.int n t) hit hl (by simpa using hx) fun h' hit' hs=>?_)
   have hS':h'.get? S=some { cls:=.type "bytearray",data:=.bytearray (byteArr (ns.take i)) }:=(hs.2 S (Ne.symm hIS)).trans hS
   refine wpAny_bind (wpAny_holding (wpAny_of_eq (rfl:asIndex (.int n t)=pure n) ?_))
   refine wpAny_bind (wpAny_letGo ?_)
   refine bm_if_false (by simp only [Bool.or_eq_false_iff,decide_eq_false_iff_not];lia) ?_
   refine wpAny_bind ?_
   show wpAny _ _ (updateBytearray S (·.push n.toNat.toUInt8)) _ _ _
   unfold updateBytearray
   refine wpAny_bind (wpAny_load hS' ?_)
   show wpAny _ _ (update S (Obj.mapBytearray (·.push n.toNat.toUInt8)) >>= fun _=>lookBehind S) _ _ _
   refine wpAny_bind (wpAny_update hS' ?_)
   have hS₂:(h'.update S (Obj.mapBytearray (·.push n.toNat.toUInt8))).get? S=some { cls:=.type "bytearray",data:=.bytearray (byteArr (ns.take (i+1))) }:=by
     rw [byteArr_take hn]
     exact Heap.get?_update_self (Obj.mapBytearray (·.push n.toNat.toUInt8)) hS' rfl
   refine wpAny_lookBehind hS₂ ?_ ?_
   · show (if (byteArr (ns.take (i+1))).size > sizeLine then some "bytearray:memory" else none)=none
     rw [if_neg]
     rw [byteArr_size,List.length_take]
     exact fun q=>absurd (Nat.le_trans (Nat.min_le_right _ _) (by assumption)) (Nat.not_le.mpr q)
   · refine wpAny_pure ⟨plainId_quiet F.bm_plain_loop _,ih (i+1) { s with heap:=h'.update S (Obj.mapBytearray (·.push n.toNat.toUInt8)) } (Mine.sub_step hk) hlt ?_ ?_ hS₂ ?_⟩
     · exact (hl.extBut hs.extBut hlI).extBut (Heap.SameBut.update ..).extBut hlS
     · exact hit'.extBut (Heap.SameBut.update ..).extBut hIS
     · intro h₁ k' o1 t hk3 hsz ho
       refine hR h₁ k' o1 t (fun b o hbI hbS e=>hk3 b o hbI hbS ((Heap.get?_update_other _ _ (Ne.symm hbS)).trans (hs.extBut b o hbI e))) ?_ ho
       refine Nat.le_trans (Nat.le_of_eq ?_) hsz
       exact (hs.1.symm.trans (Heap.SameBut.update ..).1.symm)
theorem bm_new_bad {l:Addr}{vs:List Value}{ns:List Int}{Q:Value→Shared→Prop}(hh:A.handled=none) (hl:s.heap.IsList l vs.toArray) (hi:IntsAre vs ns) {j:Nat}(hj:j<ns.length) (hr:∀ i,i<j→∀ n,ns[i]? = some n→0≤n∧n<256) (hbad:∀ n,ns[j]? = some n→n<0∨256≤n) (hz:ns.length≤sizeLine)
   (hQ:∀ (h₁:Heap) (k':Nat) (o1:Obj) (t:Value),(∀ b o,s.heap.get? b=some o→h₁.get? b=some o)→s.heap.objs.size≤h₁.objs.size→o1.isFreed=false→E (.ref (h₁.objs.size+1)) { s with heap:=(h₁.push o1).push { cls:=.type "ValueError",data:=.fields #[t,.none,.none,.none,.bool false,.none] },toks:=k' }) :
   codeAny (model prog w) A (.call (.builtin "bytes.__new__") ⟨[.type "bytes",.ref l],[]⟩) (wants Q E) s:=by
 refine codeAny_of_tree ?_
 show wpAny _ A.in1 (do checkBuiltinCall "bytes.__new__" ⟨[.type "bytes",.ref l],[]⟩;again (.builtin "bytes.__new__" ⟨[.type "bytes",.ref l],[]⟩)) _ _ s
 refine wpAny_bind (wpAny_of_eq (F.bm_newCall _) (wpAny_pure ⟨plainId_quiet F.bm_plain _,codeAny_builtin F.bm_entry ?_⟩))
 rw [Around.under_plainId F.bm_plain _]
 have hT:s.TypeIs (.ref l) "list":=hl.typeIs
 obtain ⟨ol,hol,hoc,nl,hod⟩:=id hl
 unfold Builtin.«bytes.__new__»
 refine wpAny_bind (wpAny_of_eq (a:=true) rfl ?_)
 refine bm_if_false rfl ?_
 refine wpAny_bind (wpAny_of_eq F.bm_sub ?_)
 refine bm_if_false rfl ?_
 refine wpAny_bind (wpAny_of_eq (F.bm_bind _) ?_)
 refine wpAny_bind (wpAny_of_eq (a:=()) rfl ?_)
 refine wpAny_bind (wpAny_of_eq (a:=()) rfl ?_)
 refine bm_if_false rfl ?_
 refine wpAny_bind (wpAny_specialOf hT F.bm_no_bytes ?_)
 refine wpAny_bind (wpAny_bind ?_)
 show wpAny _ _ (load l >>= _) _ _ _
 refine wpAny_bind (wpAny_load hol ?_)
 rw [hod]
 refine wpAny_pure (wpAny_pure ?_)
 refine bm_if_false rfl ?_
 refine wpAny_bind (wpAny_specialOf hT F.bm_no_index ?_)
 refine bm_if_true rfl ?_
 first
   | show wpAny _ _ (Builtin.Bytes.buffer? "bytes.__new__" (.ref l) true >>= _) _ _ _
   | (refine wpAny_bind ?_;show wpAny _ _ (Builtin.Bytes.buffer? "bytes.__new__" (.ref l) true >>= _) _ _ _)
 refine wpAny_bind ?_
 unfold Builtin.Bytes.buffer?
 refine wpAny_bind (wpAny_specialOf hT F.bm_no_buffer ?_)
 refine wpAny_bind (wpAny_specialOf hT F.bm_no_buffer ?_)
 refine wpAny_pure ?_
 refine wpAny_bind (wpAny_tryCatch (wpAny_pyIter_list hl ?_))
 have hl₁:(s.heap.push { cls:=.type "list_iterator",data:=.fields #[.ref l,.int 0 0] }).IsList l vs.toArray:=hl.push _
 have hT₁:({ s with heap:=s.heap.push { cls:=.type "list_iterator",data:=.fields #[.ref l,.int 0 0] } }:Shared).TypeIs (.ref l) "list":=Heap.IsList.typeIs (s:={ s with heap:=s.heap.push { cls:=.type "list_iterator",data:=.fields #[.ref l,.int 0 0] } }) hl₁
 refine wpAny_bind (wpAny_holding ?_)
 unfold Builtin.Bytes.lengthHint
 refine wpAny_bind (wpAny_specialOf hT₁ slot_list_len.lookup ?_)
 dsimp only
 rw [F.bm_split]
 dsimp only
 refine wpAny_bind (wpAny_isInstance hT₁ F.bm_sub_list ?_)
 refine bm_if_false rfl ?_
 refine bm_if_true (by decide +kernel) ?_
 refine wpAny_pure ?_
 refine wpAny_bind ?_
 unfold Builtin.Bytes.newBytearray
 refine wpAny_newObj_type ?_ (Nat.zero_le _)
 have hI:((s.heap.push { cls:=.type "list_iterator",data:=.fields #[.ref l,.int 0 0] }).push { cls:=.type "bytearray",data:=.bytearray #[] }).IsListIter s.heap.objs.size l 0:=
   ⟨_,Heap.get?_push_of_some _ (Heap.get?_push_size _ rfl),rfl,rfl⟩
 have hlt:l<s.heap.objs.size:=Heap.lt_size hol
 have hsz:(s.heap.push { cls:=.type "list_iterator",data:=.fields #[.ref l,.int 0 0] }).objs.size=s.heap.objs.size+1:=Heap.size_push _ _
 have main:=bm_loop_bad (prog:=prog) (w:=w) (A:=A) (R:=wants Q E) (l:=l) (I:=s.heap.objs.size) (S:=(s.heap.push { cls:=.type "list_iterator",data:=.fields #[.ref l,.int 0 0] }).objs.size) hh hi hj hr hbad hz (by rw [hsz];exact Nat.ne_of_lt (Nat.lt_succ_self _)) (Nat.ne_of_lt hlt) (by rw [hsz];exact Nat.ne_of_lt (Nat.lt_succ_of_lt hlt))
   j 0 { s with heap:=(s.heap.push { cls:=.type "list_iterator",data:=.fields #[.ref l,.int 0 0] }).push { cls:=.type "bytearray",data:=.bytearray #[] } } rfl (Nat.zero_le _) (hl₁.push _) hI (Heap.get?_push_size _ rfl)
   fun h₁ k o1 t hk hs2 ho=>hQ h₁ k o1 t (fun b o e=>hk b o (Nat.ne_of_lt (Heap.lt_size e)) (by rw [hsz];exact Nat.ne_of_lt (Nat.lt_succ_of_lt (Heap.lt_size e))) (Heap.get?_push_of_some _ (Heap.get?_push_of_some _ e))) (by
     refine Nat.le_trans ?_ hs2
     show s.heap.objs.size≤((s.heap.push _).push _).objs.size
     rw [Heap.size_push,Heap.size_push];exact Nat.le_succ_of_le (Nat.le_succ _)) ho
 first
   | exact wpAny_pure ⟨plainId_quiet F.bm_plain_loop _,main⟩
   | exact wpAny_pure (wpAny_pure ⟨plainId_quiet F.bm_plain_loop _,main⟩)
theorem call_bytes_bad {l:Addr}{vs:List Value}{ns:List Int}{Q:Value→Shared→Prop}(hl:s.heap.IsList l vs.toArray) (hi:IntsAre vs ns) {j:Nat}(hj:j<ns.length) (hr:∀ i,i<j→∀ n,ns[i]? = some n→0≤n∧n<256) (hbad:∀ n,ns[j]? = some n→n<0∨256≤n) (hz:ns.length≤sizeLine) (hh:A.handled=none)
   (hQ:∀ (h₁:Heap) (k':Nat) (o1:Obj) (t:Value),(∀ b o,s.heap.get? b=some o→h₁.get? b=some o)→s.heap.objs.size≤h₁.objs.size→o1.isFreed=false→E (.ref (h₁.objs.size+1)) { s with heap:=(h₁.push o1).push { cls:=.type "ValueError",data:=.fields #[t,.none,.none,.none,.bool false,.none] },toks:=k' }) :
   wpAny (model prog w) A (call (.type "bytes") [.ref l]) Q E s:=by
 refine callType_codes (Q₁:=fun _ _=>False) F.bm_called (F.bm_typeCall _) F.entry_object_init
   (bm_new_bad hh hl hi hj hr hbad hz hQ) fun obj s₁ h₁=>h₁.elim
end
end PySem
open PySem PySem.W PyProof.Rows PySem.Calls
namespace Mine
noncomputable abbrev excObj (cls t:Value):Obj:={ cls:=cls,data:=.fields #[t,.none,.none,.none,.bool false,.none] }
theorem RelC.raise {G:Glb}{stk:List Env}{sv:Sv}{pr:Pr}{H:HP}{s:Shared}(hb:G.base.objs.size≤s.heap.objs.size) (R:RelC G stk sv pr H s) {h₁:Heap}{tk:Nat}{o1:Obj}{cls t:Value}(k:∀ b o,s.heap.get? b=some o→h₁.get? b=some o) (hs:s.heap.objs.size≤h₁.objs.size) :
   RelC G stk sv pr H { s with heap:=(h₁.push o1).push (excObj cls t),toks:=tk }∧∀ fr,ExcAt G fr pr H (.ref (h₁.objs.size+1)) cls { s with heap:=(h₁.push o1).push (excObj cls t),toks:=tk }:=by
 have hz:(h₁.push o1).objs.size=h₁.objs.size+1:=Heap.size_push ..
 have hg:((h₁.push o1).push (excObj cls t)).get? (h₁.objs.size+1)=some (excObj cls t):=by rw [← hz];exact Heap.get?_push_size _ rfl
 refine ⟨R.grow (tk:=tk) (dr:=s.drawn) (fun b o e=>Heap.get?_push_of_some _ (Heap.get?_push_of_some _ (k b o e))) (fun a co e=>.inl e) rfl,fun fr=>⟨_,_,_,rfl,hg,rfl,rfl,.of (by lia),?_,?_,.inl rfl⟩⟩
 · rcases q:H.o (h₁.objs.size+1) with _ | co
   · rfl
   ·
     obtain ⟨o,ho,_⟩:=R.get q
     exact absurd (Nat.lt_of_lt_of_le (Heap.lt_size ho) hs) (Nat.not_lt.mpr (Nat.le_succ _))
 · intro hm
   refine xe12 (List.mem_map.mp hm) fun p' hp' e'=>?_
   have:=Heap.lt_size (R.prot p' hp').1
   rw [show p'.1=h₁.objs.size+1 from e'] at this
   exact absurd (Nat.lt_of_lt_of_le this hs) (Nat.not_lt.mpr (Nat.le_succ _))
section
variable {G:Glb}{S:Sit}{X:KV}{m:Names}{H:HP}{K:KV}
theorem f_bytes_bad {l:Addr}{ns:List Int}(hh:S.A.handled=none) (hl:H.o l=some (.list (intL ns))) (h0:∀ n∈ns,0≤n) (hr:∃ n∈ns,256≤n) (hz:ns.length≤sizeLine) (k:X (.type "ValueError") m H):CalC G S (.type "bytes") [.ref l] [] K X m H:=cal1 isT fun r e s mm M R=>by
 obtain rfl:=er_ref' e
 obtain ⟨rvs,hl',e⟩:=relList R hl
 have hi:=ints_are e
 obtain ⟨j,hj,hlt,hge⟩:∃ j,j<ns.length∧(∀ i,i<j→∀ n,ns[i]? = some n→0≤n∧n<256)∧(∀ n,ns[j]? = some n→n<0∨256≤n):=by
   clear hi e hl' hl hz
   induction ns with
   | nil=>obtain ⟨n,hn,_⟩:=hr;cases hn
   | cons a ns ih=>
     by_cases ha:256≤a
     · exact ⟨0,by simp,fun i hi=>absurd hi (Nat.not_lt_zero _),fun n hn=>by simp at hn;lia⟩
     · obtain ⟨j,hj,h1,h2⟩:=ih (fun n hn=>h0 n (.tail _ hn)) (by
         obtain ⟨n,hn,h⟩:=hr
         rcases List.mem_cons.mp hn with rfl | hn
         · exact absurd h ha
         · exact ⟨n,hn,h⟩)
       refine ⟨j+1,by simpa using hj,fun i hi n hn=>?_,fun n hn=>h2 n (by simpa using hn)⟩
       rcases i with _ | i
       ·
         have e:a=n:=by simpa using hn
         have:=h0 a (.head _);lia
       · exact h1 i (by lia) n (by simpa using hn)
 refine call_bytes_bad (vs:=rvs.toList) (by simpa using hl') hi hj hlt hge hz hh fun h₁ k' o1 t hk hs _=>?_
 refine xe02 (R.raise (R.big (.head _)) (tk:=k') (o1:=o1) (cls:=.type "ValueError") (t:=t) hk hs) fun R' x=>?_
 exact ⟨m,H,mm,_,M,R',x _,k⟩
end
end Mine
end
section
open PySem PySem.W PyProof.Rows PySem.Calls
namespace Mine
structure ExcCls (K:Frag) (cls:Value):Prop where
 sub:∀ M h,K.In h→Looks M h (isSubtype cls (.type "BaseException")) true
 meta_:∀ M h,K.In h→Looks M h (typeOf cls) (.type "type")
section
variable {M:Model}{A:Around}{E:Value→Shared→Prop}{env:Env}{K:Frag}
theorem raiseStmt_run {s:Shared}{x:Sem Value}{Q:Flow→Shared→Prop}(hh:A.handled=none)
   (h:wpAny M A x (fun v s₁=>∃ e oe vs,v=.ref e∧K.In s₁.heap∧s₁.heap.get? e=some oe∧ExcCls K oe.cls∧oe.data=.fields vs∧vs[1]? = some .none∧E (.ref e) s₁) E s) :
   wpAny M A (raiseStmt env (some x) none) Q E s:=by
 unfold raiseStmt
 refine wpAny_bind (wpAny_mono h (fun v s₁ h₁=>?_) fun _ _ x=>x)
 refine xe37 h₁ fun e oe vs zq3 hK he C hd hv hE=>?_
 obtain rfl:=zq3
 obtain ⟨hp,g,d,tk,os⟩:=s₁
 have LT:Looks M hp (typeOf (.ref e)) oe.cls:=by
   have:=(Looks.ld (M:=M) (part:=none) he).andThen (f:=fun o=>pure o.cls) (b:=oe.cls) .now
   exact this
 have LI:Looks M hp (isInstance (.ref e) (.type "BaseException")) true:=LT.andThen (f:=fun c=>isSubtype c (.type "BaseException")) (C.sub M hp hK)
 have LM:=C.meta_ M hp hK
 have LTy:Looks M hp (isType (.ref e)) false:=by
   have:=(Looks.ld (M:=M) (part:=none) he).andThen (f:=fun o=>pure (match o.data with | .cls _=>true | _=>false)) (b:=false) (by dsimp only;rw [hd];exact .now)
   exact this
 have LX:Looks M hp (isExcClass (.ref e)) false:=LTy.andThen (f:=fun b=>if b=true then isSubtype (.ref e) (.type "BaseException") else pure false) .now
 refine wpAny_bind (wpAny_pure (wpAny_bind (wpAny_holding ?_)))
 unfold excFromValue
 refine wpAny_bind (LX.here ?_)
 rw [if_neg (by decide)]
 refine wpAny_bind (LI.here ?_)
 rw [if_pos rfl]
 refine wpAny_pure ?_
 refine wpAny_bind (LTy.here ?_)
 rw [if_neg (by decide)]
 unfold raisedInstance
 refine wpAny_bind (wpAny_bind (LT.here ?_))
 refine wpAny_bind (LM.here ?_)
 rw [if_pos (by decide)]
 refine wpAny_pure ?_
 refine wpAny_bind ?_
 unfold setFlight
 refine wpAny_bind (wpAny_field he hd hv ?_)
 refine wpAny_pure ?_
 exact wpAny_raiseNew_none hh hE
end
theorem excCls_of {K:Frag}{C:Addr}(h1:mroIn K C (.type "BaseException")=some true) (h2:typeIn K (.ref C)=some (.type "type")):ExcCls K (.ref C):=⟨fun M h X=>looks_mroIn X h1,fun M h X=>looks_typeIn X h2⟩
theorem excCls_ValueError {K:Frag}:ExcCls K (.type "ValueError"):=⟨fun M h X=>Looks.of_pure (by rw [isSubtype_type];kernel_rfl),fun M h X=>Looks.of_pure (by kernel_rfl)⟩
section
variable {G:Glb}{S:Sit}{X:KV}{m:Names}{H:HP}{K:KV}{KFl:KF}
inductive NewX (G:Glb) (cls:Value) (X:HP→Prop) (v:Value) (H':HP):Prop where
 | mk (a:Addr) (H:HP) (oe:Obj) (vs:Array Value) (ev:v=.ref a) (f:H.o a=none) (eH:H'=H.put a (.obj oe)) (ec:oe.cls=cls) (ed:oe.data=.fields vs) (e1:vs[1]? = some .none) (k:X H)
theorem x_raise {e:Expr}{p:Pos}(hh:S.A.handled=none) {cls:Value}(C:ExcCls G.K cls) (h:WE G S e (fun v m H'=>NewX G cls (fun H=>X cls m H) v H') X m H):WX G S (.Raise (some e) none p) KFl X m H:=by
 intro s mm M R
 rw [arm_exec_Raise]
 have key:∀ (x:Sem Value),wpAny G.M S.A x (fun v s₁=>Post G S (fun v m H'=>NewX G cls (fun H=>X cls m H) (er v) H') v s₁) (PostX G S X) s→wpAny G.M S.A (raiseStmt S.env (some x) none) (Post G S fun f=>KFl (erF f)) (PostX G S X) s:=by
   intro x hx
   refine raiseStmt_run (K:=G.K) hh (wpAny_mono hx ?_ fun _ _ x=>x)
   rintro v s₁ yq2
   obtain ⟨m₁,H₁,mm₁,M₁,R₁,a,H₀,oe,vs,ev,f,eH,ec,ed,e1,k⟩:=yq2
   obtain rfl:=er_ref' ev
   subst eH
   obtain ⟨o,ho,rfl,_⟩:=R₁.get HP.put_same
   have hb:=R₁.own a (.obj o) HP.put_same
   refine ⟨a,o,vs,rfl,G.X.keeps R₁.base,ho,ec▸C,ed,e1,?_⟩
   refine ⟨m₁,H₀,mm₁,cls,M₁,R₁.forget f,⟨a,o,vs,rfl,ho,ec,ed,hb.1,f,fun hp=>?_,.inl e1⟩,k⟩
   refine xe12 (List.mem_map.mp hp) fun p' hp' e'=>?_
   have:=(R₁.prot p' hp').4
   rw [show p'.1=a from e',HP.put_same] at this
   exact no_sn this
 show wpAny _ _ (do standAt p;raiseStmt S.env (some (do let v ← eval e S.env;standAt p;pure v)) none) _ _ _
 exact wpAny_bind (wpAny_standAt (key _ (wpAny_bind (wpAny_mono (h s mm M R) (fun v s₁ h₁=>wpAny_bind (wpAny_standAt (wpAny_pure h₁))) fun _ _ x=>x))))
end
end Mine
end
section
set_option maxHeartbeats 4000000
set_option genInjectivity false
set_option genSizeOf false
namespace PySem.W
open PySem PySem.Calls PyProof.Rows Builtin Builtin.ObjectAttr Builtin.Getset_descriptor
structure MakesX (M:Model) (h:Heap) (C:Addr):Prop where
 obj:∃ oc od cd sl,h.get? C=some ⟨oc,od,.cls cd,sl⟩∧cd.hasDel=false∧cd.mro.isEmpty=false
 made:Looks M h (Bind.madeBy (.ref C)) (some "Exception.__new__")
 base:Looks M h (Bind.staticBase (.ref C)) (.ref C)
 self:Looks M h (isSubtype (.ref C) (.ref C)) true
 top:Looks M h (isSubtype (.ref C) (.type "Exception")) true
 noA:Looks M h (isSubtype (.ref C) (.type "AttributeError")) false
 noN:Looks M h (isSubtype (.ref C) (.type "NameError")) false
 call:Looks M h (specialOf (.ref C) "__call__") (some (.builtin "type.__call__"))
 typ:Looks M h (isInstance (.ref C) (.type "type")) true
section
variable {prog:Program}{w:World}{A:Around}{K:Frag}{C:Addr}{R:Result→Shared→Prop}{h:Heap}{g:Array GenState}{d:Drawn}{t:Nat}{os:OsState}
theorem new_X {rest:List Value}{kw:List (Str × Value)}(Y:MakesX (model prog w) h C) (hrest:rest.length≤sizeLine)
   (hq:R (.ok (.ret (.ref (h.objs.size+1)))) ⟨(h.push { cls:=.type "tuple",data:=.seq rest.toArray }).push { cls:=.ref C,data:=.fields #[.ref h.objs.size,.none,.none,.none,.bool false,.none] },g,d,t,os⟩) :
   codeAny (model prog w) A (.call (.builtin "Exception.__new__") ⟨.ref C::rest,kw⟩) R ⟨h,g,d,t,os⟩:=by
 obtain ⟨⟨oc,od,cd,sl,hC,e2,e4⟩,made,base,self,top,noA,noN,call,typ⟩:=Y
 have F:=PySem.F.excBase_Exception
 refine codeAny_call_builtin_code (Code.quiet_builtin _ F.quiet) ?_
 simp only [checkBuiltinCall,F.newKind,F.newSplit,F.newRow]
 have here:Looks (model prog w) h (Bind.madeHere "Exception.__new__" (.ref C)) ():=base.andThen (made.andThen (Looks.of_pure (by simp only [Option.map_some,bne_self_eq_false,Bool.false_eq_true,if_false])))
 repeat (first | simp only [bne_self_eq_false,Bool.false_eq_true,if_false] | lk)
 refine codeAny_builtinAt F.entry ?_
 have hends:=F.ends
 unfold Builtin.«BaseException.__new__»
 refine wpAt_bind ?_
 show wpAt _ _ _ (stack >>= _) _ _ _
 refine wpAt_bind (wpAt_stack fun p below=>wpAt_of_wpAny ?_)
 wp_walk
 refine wpAt_of_wpAny ?_
 rw [F.owner]
 have here':∀ id,Manifest.canonical "Exception.__new__" = Manifest.canonical id→Looks (model prog w) h (Bind.madeHere id (.ref C)) ():=fun id e=>base.andThen (made.andThen (Looks.of_pure (by simp only [Option.map_some,e,bne_self_eq_false,Bool.false_eq_true,if_false])))
 have hm:=here' "BaseException.__new__" F.canon
 have LTy:Looks (model prog w) h (isType (.ref C)) true:=by
   have:=(Looks.ld (M:=model prog w) (part:=none) hC).andThen (f:=fun o=>pure (match o.data with | .cls _=>true | _=>false)) (b:=true) .now
   exact this
 refine wpAny_bind (LTy.at ?_)
 rw [if_neg (by decide)]
 refine wpAny_bind (top.at ?_)
 rw [if_neg (by decide)]
 refine wpAny_bind (hm.at ?_)
 refine wpAny_bind ?_
 show wpAny _ _ (isSubtype (.ref C) (.type "AttributeError") >>= _) _ _ _
 refine wpAny_bind (noA.at ?_)
 rw [if_neg (by decide)]
 refine wpAny_bind (noN.at ?_)
 rw [if_neg (by decide)]
 refine wpAny_pure ?_
 refine wpAny_bind (wpAny_newObj_type ?_ (by show rest.toArray.size≤sizeLine;rw [List.size_toArray];exact hrest))
 refine wpAny_bind ?_
 show wpAny _ _ (newObjAsIs _ _ _) _ _ _
 unfold newObjAsIs classHasDel
 refine wpAny_bind (wpAny_alloc (wpAny_bind (wpAny_bind (wpAny_load (Heap.get?_push_of_some _ (Heap.get?_push_of_some _ hC)) (wpAny_pure ?_)))))
 rw [e2]
 refine wpAny_pure (wpAny_pure ?_)
 show R _ _
 rw [Heap.size_push]
 exact hq
noncomputable abbrev newX (C t:Addr):Obj:={ cls:=.ref C,data:=.fields #[.ref t,.none,.none,.none,.bool false,.none] }
theorem make_X {rest:List Value}{kw:List (Str × Value)}{init:Value}(Y:MakesX (model prog w) h C) (hrest:rest.length≤sizeLine) (hi:Looks (model prog w) h (typeLookup (.ref C) "__init__") (some init))
   (hb:∀ self,Looks (model prog w) h (bindSpecial init self) (init,[self]))
   (hq:codeAny (model prog w) (A.under (.builtin "type.__call__" ⟨.ref C::rest,kw⟩)) (.call init ⟨.ref (h.objs.size+1)::rest,kw⟩) (InitBack (h.objs.size+1) R) ⟨(h.push { cls:=.type "tuple",data:=.seq rest.toArray }).push (newX C h.objs.size),g,d,t,os⟩) :
   codeAny (model prog w) A (.call (.ref C) ⟨rest,kw⟩) R ⟨h,g,d,t,os⟩:=by
 have Y':=Y
 obtain ⟨⟨oc,od,cd,sl,hC,e2,e4⟩,made,base,self,top,noA,noN,call,typ⟩:=Y
 refine codeAny_of_tree ?_
 show wpAny _ _ (callAny (.ref C) _) _ _ _
 refine nd_load hC ?_
 show wpAny _ _ (callAny.viaDunder (.ref C) _) _ _ _
 unfold callAny.viaDunder
 refine wpAny_bind (call.at ?_)
 dsimp only
 rw [tc_bind]
 refine wpAny_bind (wpAny_pure (wpAny_bind (wpAny_pure ?_)))
 refine wpAny_pure (a:=Fin.again (.call (.builtin "type.__call__") ⟨.ref C::rest,kw⟩)) (And.intro rfl ?_)
 refine codeAny_call_builtin_at (Code.quiet_builtin _ (by decide +kernel)) entry_typeCall (check_slot tc_kind tc_split typ (tc_args _ _ _) ?_)
 unfold Builtin.«type.__call__»
 have hm:Looks (model prog w) h (mroOf (.ref C)) cd.mro:=((Looks.ld (part:=none) hC).andThen .now).andThen .now
 repeat (first | simp only [e4,Bool.false_eq_true,if_false] | with_reducible refine wpAny_call ?_ | lk)
 refine new_X Y' hrest ?_
 have k:∀ b o,h.get? b=some o→((h.push { cls:=.type "tuple",data:=.seq rest.toArray }).push (newX C h.objs.size)).get? b=some o:=fun b o e=>Heap.get?_push_of_some _ (Heap.get?_push_of_some _ e)
 have hx:((h.push { cls:=.type "tuple",data:=.seq rest.toArray }).push (newX C h.objs.size)).get? (h.objs.size+1)=some (newX C h.objs.size):=by heap_get
 have t1:Looks (model prog w) ((h.push { cls:=.type "tuple",data:=.seq rest.toArray }).push (newX C h.objs.size)) (typeOf (.ref (h.objs.size+1))) (.ref C):=(Looks.ld hx).andThen .now
 have s1:=self.keeps k
 have i1:=hi.keeps k
 have b1:=(hb (.ref (h.objs.size+1))).keeps k
 unfold isInstance callSpecial? specialOf
 repeat (first | with_reducible refine wpAny_call ?_ | lk)
 refine codeAny_mono hq fun r s' z=>?_
 rcases r with e | (v | _ | _ | _)<;>first | exact z | exact z.elim | skip
 obtain ⟨rfl,z⟩:=z
 exact wpAny_pure (wpAny_pure z)
end
end PySem.W
end
section
set_option maxHeartbeats 4000000
namespace PySem
open Sem (wp)
open PySem.W PyProof.Rows
namespace F
theorem slot_wd_get:Slot "wrapper_descriptor" "__get__" "wrapper_descriptor.__get__":=.of (owner:="wrapper_descriptor") (n:="__get__") (by rw [typeLookup_type,builtinLookup_eq_fast];kernel_rfl) (by decide +kernel) (by decide +kernel) (by decide +kernel)
 (by first | exact .inl (by decide +kernel) | exact .inr (by decide +kernel)) (by rw [isSubtype_type];kernel_rfl)
theorem entry_wd_get:entryFor table "wrapper_descriptor.__get__" = some Builtin.«wrapper_descriptor.__get__»:=entryFor_of_tree (by kernel_rfl)
theorem args_wd_get (a b c:Value):argsOk "wrapper_descriptor.__get__" ⟨[a,b,c],[]⟩:=by unfold argsOk;kernel_rfl
theorem type_exc_init:typeOf (.builtin "Exception.__init__")=pure (.type "wrapper_descriptor"):=by kernel_rfl
end F
theorem F.cut_exc_init:(".".intercalate ("Exception.__init__".cutAt '.').dropLast) = "Exception":=by decide +kernel
section
variable {prog:Program}{w:World}{A:Around}{E:Value→Shared→Prop}{h:Heap}{g:Array GenState}{d:Drawn}{t:Nat}{os:OsState}
theorem wd_get {x c C:Addr}{ox:Obj}{Q:Fin→Shared→Prop}(hx:h.get? x=some ox) (hc:ox.cls=.ref C) (hs:Looks (model prog w) h (isSubtype (.ref C) (.type "Exception")) true)
   (hq:Q (.done (.ret (.ref h.objs.size))) ⟨h.push { cls:=.type "method-wrapper",data:=.fields #[.builtin "Exception.__init__",.ref x] },g,d,t,os⟩) :
   wpAny (model prog w) A (Builtin.«wrapper_descriptor.__get__» ⟨[.builtin "Exception.__init__",.ref x,.ref c],[]⟩) Q E ⟨h,g,d,t,os⟩:=by
 unfold Builtin.«wrapper_descriptor.__get__»
 repeat (first | with_reducible refine Looks.at hs ?_ | (with_reducible refine wpAny_newObj_type ?_ (by size_fits)) | (with_reducible refine wpAny_loadPart_at hx ?_;rw [hc,F.cut_exc_init]) | wp_step)
 all_goals exact hq
theorem super_ga_init {so D x C:Addr}{ox:Obj}{l₀ l:List Value}{K:Frag}{tk:Tok}{Q:Fin→Shared→Prop}
   (hso:h.get? so=some { cls:=.type "super",dict:=none,data:=.fields #[.ref D,.ref x,.ref C],slots:=#[] }) (hno:Looks (model prog w) h (opaqueClassAbove (.ref C)) none)
   (hC:Looks (model prog w) h (mroOf (.ref C)) l₀) (hl:(l₀.dropWhile (· != .ref D)).drop 1=l) (X:K.In h)
   (hf:alongIn K "__init__" l=some (some (.builtin "Exception.__init__"))) (hx:h.get? x=some ox) (hc:ox.cls=.ref C) (hs:Looks (model prog w) h (isSubtype (.ref C) (.type "Exception")) true) (hxC:x≠C)
   (hq:Q (.done (.ret (.ref h.objs.size))) ⟨h.push { cls:=.type "method-wrapper",data:=.fields #[.builtin "Exception.__init__",.ref x] },g,d,t,os⟩) :
   wpAny (model prog w) A (Builtin.«super.__getattribute__» ⟨[.ref so,.str "__init__" tk],[]⟩) Q E ⟨h,g,d,t,os⟩:=by
 have hlk:=F.slot_wd_get.lookup
 have hne:(Value.ref x==Value.ref C)=false:=by simp [hxC]
 have hn:(("__init__" : Str)==("__class__" : Str))=false:=by decide
 have hty:=F.type_exc_init
 have hTf:(⟨h,g,d,t,os⟩:Shared).TypeIs (.builtin "Exception.__init__") "wrapper_descriptor":=hty
 have hdt:({ cls:=.type "super",dict:=none,data:=.fields #[.ref D,.ref x,.ref C],slots:=#[] }:Obj).data=.fields #[.ref D,.ref x,.ref C]:=rfl
 have f0:(#[.ref D,.ref x,.ref C]:Array Value)[0]? = some (.ref D):=rfl
 have f1:(#[.ref D,.ref x,.ref C]:Array Value)[1]? = some (.ref x):=rfl
 have f2:(#[.ref D,.ref x,.ref C]:Array Value)[2]? = some (.ref C):=rfl
 unfold Builtin.«super.__getattribute__»
 repeat (first
   | (with_reducible refine wpAny_field hso hdt f0 ?_) | (with_reducible refine wpAny_field hso hdt f1 ?_) | (with_reducible refine wpAny_field hso hdt f2 ?_)
   | (with_reducible refine ks_wpAny_notOpaque hno ?_)
   | (with_reducible refine Looks.at hC ?_;rw [hl])
   | (refine ks_forIn_along X (fun _ _=>rfl) rfl ?_ hf)
   | (with_reducible refine wpAny_of_eq hty ?_)
   | (with_reducible refine wpAny_call_entry F.slot_wd_get hTf F.entry_wd_get ?_ (F.args_wd_get _ _ _))
   | (with_reducible refine wd_get hx hc hs ?_)
   | (with_reducible refine ⟨_,rfl,?_⟩)
   | (simp only [hn,hne,Bool.or_false,Bool.false_eq_true,if_false])
   | wp_step
   | dsimp only)
 all_goals exact hq
theorem getMethod_super_init {so D x C:Addr}{ox:Obj}{l₀ l:List Value}{K:Frag}{pl:Sem Bool}{Q:Value × List Value→Shared→Prop}
   (hso:h.get? so=some { cls:=.type "super",dict:=none,data:=.fields #[.ref D,.ref x,.ref C],slots:=#[] }) (hno:Looks (model prog w) h (opaqueClassAbove (.ref C)) none)
   (hC:Looks (model prog w) h (mroOf (.ref C)) l₀) (hl:(l₀.dropWhile (· != .ref D)).drop 1=l) (X:K.In h)
   (hf:alongIn K "__init__" l=some (some (.builtin "Exception.__init__"))) (hx:h.get? x=some ox) (hc:ox.cls=.ref C) (hs:Looks (model prog w) h (isSubtype (.ref C) (.type "Exception")) true) (hxC:x≠C)
   (hq:Q (.ref h.objs.size,[]) ⟨h.push { cls:=.type "method-wrapper",data:=.fields #[.builtin "Exception.__init__",.ref x] },g,d,t+1,os⟩) :
   wpAny (model prog w) A (getMethod (.ref so) "__init__" pl) Q E ⟨h,g,d,t,os⟩:=by
 have hlk:=F.ks_slot_super_ga.lookup
 have hcan:=F.ks_canon_super_ga
 have hT:∀ t',(⟨h,g,d,t',os⟩:Shared).TypeIs (.ref so) "super":=fun _=>⟨_,hso,rfl⟩
 unfold getMethod
 refine wpAny_bind (wpAny_specialOf (hT _) hlk ?_)
 show wpAny _ _ (if (Manifest.canonical "super.__getattribute__" != "object.__getattribute__")=true then _ else _) _ _ _
 rw [if_pos hcan]
 unfold getAttr getAttrBy
 refine wpAny_bind (wpAny_bind (wpAny_mkText (wpAny_holding (wpAny_bind (wpAny_typeOf (hT _) (wpAny_bind (wpAny_of_eq hlk ?_)))))))
 show wpAny _ _ (getAttrByItsOwn (.ref so) (.str "__init__" t) (.type "super") (.builtin "super.__getattribute__") true false) _ _ _
 unfold getAttrByItsOwn hookBefore callGetattribute boundAndCalled
 refine wpAny_bind (wpAny_of_eq (show (if onTheHeap (.type "super") then typeLookup (.type "super") "__getattr__" else pure none)=pure none from rfl) ?_)
 refine wpAny_bind (wpAny_attempt (wpAny_holding ?_))
 show wpAny _ _ (bindSpecial (.builtin "super.__getattribute__") (.ref so) >>= _) _ _ _
 refine wpAny_bind (wpAny_of_eq (F.ks_slot_super_ga.bind _) ?_)
 refine wpAny_mono (Q:=fun v s'=>v=.ref h.objs.size∧s'=⟨h.push { cls:=.type "method-wrapper",data:=.fields #[.builtin "Exception.__init__",.ref x] },g,d,t+1,os⟩) (E:=fun _ _=>False)
   (wpAny_call_entry F.ks_slot_super_ga (hT _) F.ks_entry_super_ga (super_ga_init hso hno hC hl X hf hx hc hs hxC ⟨_,rfl,rfl,rfl⟩) (F.ks_gaArgs_super _ _)) (fun v s' hv=>?_) fun _ _ z=>z.elim
 obtain ⟨rfl,rfl⟩:=hv
 exact wpAny_pure (wpAny_pure hq)
theorem call_exc_init {mw x C:Addr}{ox omw:Obj}{vs:Array Value}{a0:Value}{rest:List Value}{Q:Value→Shared→Prop}
   (hm:h.get? mw=some { cls:=.type "method-wrapper",data:=.fields #[.builtin "Exception.__init__",.ref x] }) (hx:h.get? x=some ox) (hc:ox.cls=.ref C) (hd:ox.data=.fields vs) (h0:vs[0]? = some a0)
   (hs:Looks (model prog w) h (isSubtype (.ref C) (.type "Exception")) true) (hsz:rest.length≤sizeLine) {cd:ClassData}(hcd:Looks (model prog w) h (classData C) cd)
   (hq:Q .none ⟨(h.push { cls:=.type "tuple",data:=.seq rest.toArray }).update x (Obj.mapFields (·.setIfInBounds 0 (.ref h.objs.size))),g,d,t,os⟩) :
   wpAny (model prog w) A (call (.ref mw) rest []) Q E ⟨h,g,d,t,os⟩:=by
 refine wpAny_call (codeAny_of_tree ?_)
 show wpAny _ _ (callAny (.ref mw) _) _ _ _
 have F0:=PySem.F.excBase_Exception
 have sub:Looks (model prog w) h (isInstance (.ref x) (.type "Exception")) true:=by
   have:=(Looks.ld (M:=model prog w) (part:=none) hx).andThen (f:=fun o=>pure o.cls) (b:=ox.cls) .now
   rw [hc] at this
   exact this.andThen (f:=fun c=>isSubtype c (.type "Exception")) hs
 obtain ⟨hk,hrow,hst⟩:=And.intro F0.initKind (And.intro F0.initRow F0.noStar)
 unfold callAny
 refine wpAny_bind (wpAny_load hm ?_)
 dsimp only
 rw [if_pos (by decide)]
 have LT:=(Looks.ld (M:=model prog w) (part:=none) hx).andThen (f:=fun o=>pure o.cls) (b:=ox.cls) .now
 rw [hc] at LT
 have LT:Looks (model prog w) h (typeOf (.ref x)) (.ref C):=LT
 have ck:wpAny (model prog w) (A.under (Code.call (Value.ref mw) { pos:=rest })) (checkBoundCall "Exception.__init__" { pos:=.ref x::rest }) (fun _ s'=>s'=⟨h,g,d,t,os⟩) (fun _ _=>False) ⟨h,g,d,t,os⟩:=by
   simp only [checkBoundCall,hrow,hk]
   rw [if_pos (by decide)]
   unfold Bind.checkArgs
   dsimp only
   have pr:∀ (nm:String) (whole:Bool) (sig:Manifest.Signature) (Q:String→Shared→Prop),sig.receiver=.self→(∀ x,Q x ⟨h,g,d,t,os⟩)→wpAny (model prog w) (A.under (Code.call (Value.ref mw) { pos:=rest })) (Bind.printed nm whole sig (some (.ref x))) Q (fun _ _=>False) ⟨h,g,d,t,os⟩:=by
     intro nm whole sig Q hs hQ
     unfold Bind.printed Bind.receiverType
     by_cases hn:(nm != "*")=true
     · rw [if_pos hn];exact wpAny_pure (hQ _)
     · rw [if_neg hn,hs]
       refine wpAny_bind (m:=(if (Manifest.Receiver.self==Manifest.Receiver.cls)=true then pure (.ref x) else typeOf (.ref x))) ?_
       rw [if_neg (by decide)]
       refine LT.at (wpAny_bind ?_)
       show wpAny _ _ (classData C >>= fun c=>pure c.name.toString) _ _ _
       exact wpAny_bind (hcd.at (wpAny_pure (wpAny_pure (hQ _))))
   refine wpAny_bind (m:=Bind.printed "*" true _ _) (pr _ _ _ _ rfl fun full=>?_)
   refine wpAny_bind (m:=Bind.printed "Exception" false _ _) (pr _ _ _ _ rfl fun short=>?_)
   show wpAny _ _ (Sem.onRaise (Bind.check _ full short _ []) _) _ _ _
   rw [check_varPos]
   exact wpAny_pure rfl
 show wpAny _ _ (if (Value.type "method-wrapper" != Value.type "method")=true then (do checkBoundCall "Exception.__init__" { pos:=.ref x::rest };again (Code.builtin "Exception.__init__" { pos:=.ref x::rest })) else _) _ _ _
 rw [if_pos (by decide)]
 refine wpAny_bind (wpAny_mono ck (fun _ s' e=>?_) fun _ _ z=>z.elim)
 subst e
 refine wpAny_pure ⟨Code.quiet_builtin _ (by decide +kernel),codeAny_builtin F0.initEntry ?_⟩
 have hx':(h.push { cls:=.type "tuple",data:=.seq rest.toArray }).get? x=some ox:=Heap.get?_push_of_some _ hx
 have hsz0:0<vs.size:=(Array.getElem?_eq_some_iff.mp h0).1
 unfold Builtin.«BaseException.__init__»
 dsimp only
 rw [if_neg (by simp)]
 unfold newTuple Builtin.BaseException.bexcPut
 refine wpAny_bind (wpAny_newObj_type ?_ (by show rest.toArray.size≤sizeLine;rw [List.size_toArray];exact hsz))
 refine wpAny_bind (wpAny_bind (wpAny_field hx' hd h0 (wpAny_bind (wpAny_setField hx' hd hsz0 ?_))))
 cases a0<;>first | exact wpAny_pure (wpAny_pure hq) | exact wpAny_letGo (wpAny_pure hq)
end
end PySem
end
section
open PySem PySem.W PyProof.Rows PySem.Calls Builtin Builtin.ObjectAttr
set_option maxHeartbeats 4000000
set_option genInjectivity false
set_option genSizeOf false
namespace Mine
theorem HP.put_put {H:HP}{a:Addr}{c c':CO}:(H.put a c).put a c'=H.put a c':=by
 unfold HP.put;congr 1;funext b;dsimp only;split<;>rfl
theorem HP.put_comm {H:HP}{a b:Addr}{c c':CO}(h:a≠b):(H.put a c).put b c'=(H.put b c').put a c:=by
 unfold HP.put;congr 1;funext d;dsimp only
 by_cases h1:d=b
 · subst h1;rw [if_pos rfl,if_neg (Ne.symm h),if_pos rfl]
 · rw [if_neg h1,if_neg h1]
noncomputable def makesXIn (K:Frag) (C:Addr):Bool:=match K.lookup C with
 | some ⟨_,_,.cls cd,sl⟩=>!cd.hasDel&&(sl.toList[4]?).join==some (.builtin "Exception.__new__") && !cd.mro.isEmpty&&cd.mro.contains (.ref C)&&cd.mro.contains (.type "Exception")&&cd.mro.contains (.type "BaseException") &&
     !cd.mro.contains (.type "AttributeError") && !cd.mro.contains (.type "NameError") &&
     specialIn K (.ref C) "__call__"==some (some (.builtin "type.__call__"))&&instIn K (.ref C) (.type "type")==some true&&typeIn K (.ref C)==some (.type "type")
 | _=>false
theorem makesX_of {K:Frag}{M:Model}{h:Heap}(X:K.In h) {C:Addr}(e:makesXIn K C=true):MakesX M h C:=by
 unfold makesXIn at e
 rcases ho:K.lookup C with _ | ⟨oc,od,dt,sl⟩
 · rw [ho] at e;exact no_ft e
 · rw [ho] at e
   cases dt<;>first | exact no_ft e | skip
   rename_i cd
   dsimp only at e
   simp -iota only [Bool.and_eq_true,Bool.not_eq_true',beq_iff_eq] at e
   obtain ⟨⟨⟨⟨⟨⟨⟨⟨⟨⟨e2,e3⟩,e4⟩,e5⟩,e6⟩,-⟩,e9⟩,e10⟩,e7⟩,e8⟩,-⟩:=e
   have hc:clsIn K C=some cd:=by unfold clsIn;rw [ho]
   have hm:Looks M h (mroOf (.ref C)) cd.mro:=(looks_clsIn X hc).andThen .now
   obtain ⟨c,l,hl⟩:∃ c l,cd.mro=c::l:=by cases q:cd.mro with | nil=>rw [q] at e4;cases e4 | cons c l=>exact ⟨c,l,rfl⟩
   have made:Looks M h (Bind.madeBy (.ref C)) (some "Exception.__new__"):=by
     intro A Q E s k q
     unfold Bind.madeBy
     refine wpAny_bind (hm A _ E s k ?_)
     rw [hl,List.forIn_cons]
     refine wpAny_bind (wpAny_bind (wpAny_bind (wpAny_bind (wpAny_loadPart (k _ _ (X _ _ ho)) (wpAny_pure ?_)))))
     dsimp only
     rw [← Array.getElem?_toList,e3]
     exact wpAny_pure (wpAny_pure (wpAny_pure q))
   have inM:∀ T b,cd.mro.contains T=b→mroIn K C T=some b:=fun T b e=>by
     unfold mroIn;rw [hc,Option.bind_some,if_neg (by rw [e4];decide),e]
   refine ⟨⟨oc,od,cd,sl,X _ _ ho,e2,e4⟩,made,?_,looks_mroIn X (inM _ _ e5),looks_mroIn X (inM _ _ e6),looks_mroIn X (inM _ _ e9),looks_mroIn X (inM _ _ e10),looks_specialIn X e7,looks_instIn X e8⟩
   · intro A Q E s k q
     unfold Bind.staticBase
     refine wpAny_bind (hm A _ E s k ?_)
     rw [hl,List.forIn_cons]
     exact wpAny_bind (wpAny_bind (wpAny_bind (made A _ E s k (wpAny_pure (wpAny_pure (wpAny_pure q))))))
noncomputable def setXAt (K:Frag) (C:Addr) (name:Str):Bool:=findIn K (.ref C) "__setattr__"==some (some (.builtin "object.__setattr__"))&&(clsIn K C).any (fun cd=>cd.hasDict && !cd.mro.isEmpty&&cd.mro.contains (.type "object")&&(cd.mro.dropWhile fun c=>match c with | .ref _=>true | _=>false)==[.type "Exception",.type "BaseException",.type "object"])&&takerIn K C name==some none
theorem ref_of {c:Value}(h:(match c with | .ref _=>true | _=>false)=true):∃ a,c=.ref a:=by
 cases c<;>first | exact ⟨_,rfl⟩ | exact Bool.noConfusion (h:false=true)
theorem refuse_drop (self:Value) {l:List Value}(e:(l.dropWhile fun c=>match c with | .ref _=>true | _=>false)=[.type "Exception",.type "BaseException",.type "object"]):refuseLoop self "__setattr__" l=pure ():=by
 induction l with
 | nil=>exact absurd e (List.cons_ne_nil _ _).symm
 | cons c r ih=>
   rcases hb:(match c with | .ref _=>true | _=>false) with _ | _
   · rw [List.dropWhile_cons_of_neg (by rw [hb];decide)] at e
     rw [e];exact PySem.F.store_Exception.passes self
   · refine xe11 (ref_of hb) fun a zq1=>?_
     obtain rfl:=zq1
     rw [refuseLoop_ref];exact ih e
section
variable {G:Glb}{S:Sit}{X:KV}{m:Names}{H:HP}{KU:Unit→Names→HP→Prop}
theorem set_exc {x C:Addr}{ox:Obj}{vs:Array Value}{n:Str}{v:Value}(hx:H.o x=some (.obj ox)) (hcl:ox.cls=.ref C) (hd:ox.data=.fields vs) (hn:ox.dict=none) (hc:setXAt G.K C n=true)
   (h:∀ d,KU () m (H.put x (.obj { ox with dict:=some d }))):SetA G S (.ref x) n v KU X m H:=by
 intro ro rv e1 e2 s mm M R
 obtain ⟨hp,g,dr,t,os⟩:=s
 rw [er_ref' e1]
 obtain ⟨o,hxx,rfl,hfr⟩:=R.get hx
 have I:InstAt hp x o C none:=⟨hxx,hcl,by unfold notCls;rw [hd],by rw [hn];trivial⟩
 simp -iota only [setXAt,Bool.and_eq_true,beq_iff_eq] at hc
 refine xe02 hc fun zq0 c3=>?_
 obtain ⟨c1,c2⟩:=zq0
 refine xe12 (any_some c2) fun cd hcl' hq=>?_
 simp -iota only [Bool.and_eq_true,beq_iff_eq,Bool.not_eq_true'] at hq
 refine xe02 hq fun zq0 p3=>?_
 obtain ⟨⟨p1,p2⟩,p4⟩:=zq0
 have KIn:=G.X.keeps R.base
 refine set_plain KIn I c1 ?_
 have SF:=PySem.F.store_object
 have I':InstAt (⟨hp,g,dr,t+1,os⟩:Shared).heap x o C none:=I
 have sub:Looks G.M hp (isInstance (.ref x) (.type "object")) true:=I.type.andThen (looks_mroIn KIn (by unfold mroIn;rw [hcl',Option.bind_some,if_neg (by rw [p2];decide),p4]))
 refine codeAny_call_builtin SF.slot.plain SF.entry (@check_slot G.M _ _ ⟨hp,g,dr,t+1,os⟩ "object.__setattr__" "object" "__setattr__" (.ref x) [.str n t,rv] [] _ SF.kind SF.split sub (SF.args (.ref x) (.str n t) rv) ?_)
 have hm:Looks G.M hp (mroOf (.ref C)) cd.mro:=(looks_clsIn KIn hcl').andThen .now
 refine xe12 (Option.bind_eq_some_iff.mp c3) fun attr ha hr=>?_
 have L3:Looks G.M hp (storeTaker? attr) none:=by
   rcases attr with _ | a
   · exact .now
   ·
     refine xe12 (Option.map_eq_some_iff.mp hr) fun b hb hb2=>?_
     refine (looks_takesIn KIn hb).andThen ?_
     cases b with
     | true=>exact no_sn hb2
     | false=>exact .now
 rw [osa_eq,refuse_eq]
 refine wpAny_bind (wpAny_bind (I.type.at (wpAny_bind (hm.at ?_))))
 rw [refuse_drop _ p3]
 refine wpAny_pure (wpAny_bind (I.type.at (wpAny_bind ((looks_findIn KIn ha).at (wpAny_bind (L3.at ?_))))))
 dsimp only
 unfold storeInOwnDict ownDictForStores instanceDict
 refine wpAny_bind (wpAny_pure (wpAny_bind (wpAny_bind ?_)))
 refine wpAny_loadPart hxx ?_
 rw [hcl]
 dsimp only
 refine wpAny_bind ((looks_clsIn KIn hcl').at ?_)
 rw [p1]
 simp -iota only [Bool.not_true,Bool.false_eq_true,if_false]
 rw [hn]
 dsimp only
 rw [if_neg (by simp -iota [typeHasDict]),hd]
 dsimp only
 refine wpAny_bind (wpAny_alloc ?_)
 have hxx₁:(hp.push { cls:=.type "dict",data:=.dict #[] }).get? x=some o:=Heap.get?_push_of_some _ hxx
 have hfr':({ o with dict:=some hp.objs.size }:Obj).isFreed=false:=by unfold Obj.isFreed;rw [hd]
 refine wpAny_bind (wpAny_update hxx₁ ?_)
 have hne:hp.objs.size≠x:=Nat.ne_of_gt (Heap.lt_size hxx)
 have R₁:=R.push (.head _) (o:={ cls:=.type "dict",data:=.dict #[] }) (co:=.ns []) ⟨List.nodup_nil,[],0,rfl,.nil⟩
 have hx₁:(H.put hp.objs.size (.ns [])).o x=some (.obj o):=HP.put_ne (Ne.symm hne) hx
 have hself:((hp.push { cls:=.type "dict",data:=.dict #[] }).update x fun o=>{ o with dict:=some hp.objs.size }).get? x=some { o with dict:=some hp.objs.size }:=Heap.get?_update_self _ hxx₁ hfr'
 have R₂:=R₁.upd (tk:=t+1) (co':=.obj { o with dict:=some hp.objs.size }) hx₁ (fun b hb=>Heap.get?_update_other (hp.push { cls:=.type "dict",data:=.dict #[] }) (fun o=>{ o with dict:=some hp.objs.size }) (Ne.symm hb)) hself ⟨rfl,hfr'⟩
 have hdd:=(R₂.get (a:=hp.objs.size) (HP.put_ne hne HP.put_same))
 unfold dictMade
 refine wpAny_pure ?_
 dsimp only
 unfold storeInDict newKeyGuard
 refine wpAny_bind (wpAny_pure (wpAny_bind ?_))
 generalize hg:(hp.push { cls:=.type "dict",data:=.dict #[] }).update x (fun o=>{ o with dict:=some hp.objs.size })=h2 at R₂ hself
 have hd2:h2.get? hp.objs.size=some { cls:=.type "dict",data:=.dict #[] }:=by
   rw [← hg,Heap.get?_update_other _ _ (Ne.symm hne)];exact Heap.get?_push_size _ rfl
 unfold nsSet
 refine wpAny_bind (wpAny_bind (wpAny_askSetting (wpAny_pure (wpAny_bind (wpAny_mkText (wpAny_bind (wpAny_loadPart (s:=⟨h2,g,dr,t+1+1,os⟩) hd2 ?_)))))))
 dsimp only
 rw [aRefKeyMayBeTheName_at,if_neg (by simp -iota)]
 have D':=Heap.get?_update_self (Obj.putName n (PyData.keyHash G.w.params n) (.str n (t+1)) rv) hd2 (by rw [show ({ cls:=Value.type "dict",data:=Data.dict #[] }:Obj)=dictOf [] 0 from rfl,putName_dict];rfl)
 rw [show ({ cls:=Value.type "dict",data:=Data.dict #[] }:Obj)=dictOf [] 0 from rfl,putName_dict] at D'
 refine wpAny_updatePart (s:=⟨h2,g,dr,t+1+1,os⟩) hd2 ?_
 refine wpAny_bind (wpAny_lookBehind (s:=⟨h2.update hp.objs.size (Obj.putName n (PyData.keyHash G.w.params n) (.str n (t+1)) rv),g,dr,t+1+1,os⟩) D' (pastItsLine_dict (by rw [sizeLine_eq];show (_:Nat)≤_;simp -iota [putL])) ?_)
 refine wpAny_pure ?_
 have R₃:=R₂.upd (tk:=t+1+1) (a:=hp.objs.size) (co:=.ns []) (co':=.ns [(n,v)]) (HP.put_ne hne HP.put_same) (fun b hb=>Heap.get?_update_other h2 (Obj.putName n (PyData.keyHash G.w.params n) (.str n (t+1)) rv) (Ne.symm hb)) D' ⟨by simp -iota,_,_,rfl,e2▸.cons rfl .nil⟩
 rw [HP.put_comm hne,HP.put_put] at R₃
 have hfx:(H.put x (.obj { o with dict:=some hp.objs.size })).o hp.objs.size=none:=HP.put_ne hne R.fresh
 exact ⟨m,_,mm,M,R₃.forget hfx,h _⟩
end
end Mine
end
section
open PySem PySem.W PyProof.Rows PySem.Calls
set_option maxHeartbeats 4000000
set_option genInjectivity false
set_option genSizeOf false
namespace Mine
theorem enterS {G:Glb}{A:Around}{stk:List Env}{sv:Sv}{pr:Pr}{f cc:Addr}{vs:List Value}{kw:List (Str × Value)}{K X:KH}{H:HP}{n:Nat}
   (r:Rm A stk (n+1)) (ls:List Str) (gs:List (Str × Value)) (binds:List (Str × Value)) {m₁:Names}{fd:FuncData}{oc:Value}{od:Option Addr}{osl:Array (Option Value)}(ho:G.K.lookup f=some ⟨oc,od,.func fd,osl⟩) {body:List Stmt}(hbody:fd.body=.stmts body)
   (hbind:∀ s rvs rkw,G.K.In s.heap→rvs.map er=vs→rkw.map (fun p=>(p.1,er p.2))=kw→∃ rb,BindsTo s fd ⟨rvs,rkw⟩ rb∧rb.map (fun p=>(p.1,er p.2))=binds)
   (hcd:codeIn G.K fd.code fd.qualname=true) (hchk:chkM fd.scope.names ls [] (gs.map (·.1))=true) (hgs:∀ x∈gs,x∈G.gtab) (hB:BindM binds (mkM ls [] gs) H m₁ H) (hcl:fd.closure=[(("__class__" : Str),cc)])
   (h:∀ S:Sit,S.Ok G→Rm S.A S.stk n→S.pr=pr→S.env.scope=fd.scope→S.env.cells=[(("__class__" : Str),cc)]→S.env.func=some f→S.env.code=fd.code→∀ s mm,MOk G S.env mm m₁→RelC G S.stk ((S.L,mm)::S.sv) S.pr H s →
     PySem.wpAt G.M S.A (.func body S.env) (execs body S.env) (Post G S fun fl _ H=>K (retV (erF fl)) H) (PostX G S fun c _ H=>X c H) s)
   (hco:fd.scope.isCoroutine=false:=by rfl) (hgen:fd.scope.isGenerator=false:=by rfl) (hkind:fd.scope.kind=.function:=by rfl) (hgl:fd.globals=mainGlobals:=by rfl) (hbl:fd.builtins=builtinsNs:=by rfl)
   (hnc:(fd.scope.names.all fun x=>x.2 != .cell)=true:=by rfl):Calls G A stk sv pr (.ref f) vs kw K X H:=by
 intro rf s rvs rkw ef R e1 e2
 obtain rfl:=er_ref' ef
 have KIn:=G.X.keeps R.base
 have C:=r.c
 refine xe12 (hbind s rvs rkw KIn e1 e2) fun rb hb hbe=>?_
 refine codeAny_call_function (Nat.lt_of_le_of_lt (Nat.le_trans (Nat.le_add_right _ _) C.depth) (by decide)) (KIn _ _ ho) rfl hco hgen hbody (codeRec_of KIn hcd) (hb _ _ _ _ (frameIn hbe R (big_of r.top R) hkind hgl hbl ?_))
 rw [hcl]
 have M₀:MOk G (frEnv fd f s.heap.objs.size [(("__class__" : Str),cc)]) (fun _=>none) (mkM ls [] gs):=by
   have h0:=mkM_ok (G:=G) (env:=frEnv fd f s.heap.objs.size []) (ls:=ls) (cs:=[]) (gs:=gs) rfl hchk hgs
   refine ⟨fun p hp=>?_,h0.nd⟩
   refine xe03 (h0.ok p hp) fun a b c=>?_
   refine ⟨a,b,?_⟩
   obtain ⟨y,nm⟩:=p
   rcases nm with o | q | v
   · exact c
   · have c2:=c.2;simp [frEnv] at c2
   · exact c
 refine cells_none hnc ⟨mkM ls [] gs,m₁,H,M₀,hB,fun mm s₂ M' R' R₃=>⟨G.T.nolimit.keeps R'.base,ks_codeAny_funcAt ?_⟩⟩
 have h₄:=h ⟨A.deeper (frEnv fd f s.heap.objs.size [(("__class__" : Str),cc)]),frEnv fd f s.heap.objs.size [(("__class__" : Str),cc)]::stk,sv,pr,s.heap.objs.size,frEnv fd f s.heap.objs.size [(("__class__" : Str),cc)]⟩ ⟨hkind,rfl,rfl,rfl,Around.frames_deeper C.frames,hco,_,_,_,rfl,rfl,rfl⟩ ⟨C.deeper _,r.hh,_,_,_,rfl,rfl⟩ rfl rfl rfl rfl rfl
 refine ks_wpAt_mono (h₄ s₂ mm M' R₃) ?_ ?_
 · rintro fl s₃ yq2
   obtain ⟨m₂,H₂,mm₂,M₂,R₄,k⟩:=yq2
   refine ⟨H₂,R₄.sleep R.fsv,?_⟩
   cases fl<;>exact k
 · rintro e s₃ yq2
   obtain ⟨m₂,H₂,mm₂,cls,M₂,R₄,x,k⟩:=yq2
   refine leavingW R₄ (Around.frames_deeper C.frames) rfl rfl rfl (by simp) x fun s₄ a ea R₅ x₅=>?_
   subst ea
   exact ⟨H₂,cls,R₅.sleep R.fsv,x₅.exc (.inl rfl),k⟩
noncomputable abbrev mwObj (x:Addr):Obj:={ cls:=.type "method-wrapper",data:=.fields #[.builtin "Exception.__init__",.ref x] }
section
variable {G:Glb}{S:Sit}{X:KV}{m:Names}{H:HP}{KFl:KF}
theorem HP.ne_of {a b:Addr}{c:CO}(f:H.o a=none) (e:H.o b=some c):a≠b:=HP.fne f e
theorem c_excInit {mw x C:Addr}{ox:Obj}{vx:Array Value}{a0 v:Value}{K:KV}(hmw:H.o mw=some (.obj (mwObj x))) (hx:H.o x=some (.obj ox)) (hc:ox.cls=.ref C) (hd:ox.data=.fields vx) (h0:vx[0]? = some a0)
   {cd:ClassData}(hcd:clsIn G.K C=some cd) (hsE:mroIn G.K C (.type "Exception")=some true) (k:∀ t,K .none m (H.put x (.obj (Obj.mapFields (·.setIfInBounds 0 t) ox)))):Keeps G S (.ref mw) H∧CalC G S (.ref mw) [v] [] K X m H:=by
 refine ⟨fun s mm R=>?_,fun rf rvs rkw ef e1 e2=>?_⟩
 · obtain ⟨o,ho,rfl,_⟩:=R.get hmw
   refine ⟨.machine,.inr (.inl rfl),?_⟩
   exact (Looks.ld (M:=G.M) (part:=none) ho).andThen .now
 · obtain rfl:=er_ref' ef
   refine xe12 (map_one e1) fun x' zq1 ex=>?_
   obtain rfl:=zq1
   obtain rfl:=map_nil' e2
   intro s mm M R
   obtain ⟨hp,g,dr,t,os⟩:=s
   have KIn:=G.X.keeps R.base
   obtain ⟨o,ho,rfl,_⟩:=R.get hmw
   obtain ⟨o',ho',rfl,hfr⟩:=R.get hx
   refine call_exc_init (C:=C) (omw:=o') ho ho' hc hd h0 (looks_mroIn KIn hsE) (by rw [sizeLine_eq];simp) (looks_clsIn KIn hcd) ?_
   have R₁:=R.junk (o:={ cls:=.type "tuple",data:=.seq [x'].toArray })
   have ho₁:(hp.push { cls:=.type "tuple",data:=.seq [x'].toArray }).get? x=some o':=Heap.get?_push_of_some _ ho'
   have hfr':(Obj.mapFields (·.setIfInBounds 0 (.ref hp.objs.size)) o').isFreed=false:=Obj.isFreed_of_fields (Obj.data_mapFields hd _)
   have R₂:=R₁.upd (tk:=t) (co':=.obj (Obj.mapFields (·.setIfInBounds 0 (.ref hp.objs.size)) o')) hx (fun b hb=>Heap.get?_update_other (hp.push { cls:=.type "tuple",data:=.seq [x'].toArray }) (Obj.mapFields (·.setIfInBounds 0 (.ref hp.objs.size))) (Ne.symm hb)) (Heap.get?_update_self _ ho₁ hfr') ⟨rfl,hfr'⟩
   exact ⟨m,_,mm,M,R₂,k _⟩
theorem clsIn_inv {K:Frag}{C:Addr}{cd:ClassData}(h:clsIn K C=some cd):∃ o,K.lookup C=some o∧o.data=.cls cd:=by
 unfold clsIn at h
 rcases ho:K.lookup C with _ | ⟨c,d,dt,sl⟩
 · rw [ho] at h;exact no_ns h
 · rw [ho] at h;cases dt<;>first | exact no_ns h | exact ⟨_,rfl,by rw [Option.some.inj h]⟩
theorem x_super_init (O:S.Ok G) {f cc D cda x C:Addr}{fd:FuncData}{ar:Arg}{body:List Stmt}{p0 p1 p2 p3 p4 p5:Pos}{a:Str}{av:Value}{oc ccl cl:Value}{od cdd cld:Option Addr}{osl ccs csl:Array (Option Value)}{vs vx:Array Value}{file:Str}{tf:Tok}{cd cdD:ClassData}{ox:Obj}{a0:Value}
   (hfn:S.env.func=some f) (hf:G.K.lookup f=some ⟨oc,od,.func fd,osl⟩) (hp:(fd.params.posonlyargs++fd.params.args).head? = some ar)
   (hcode:S.env.code=.ref cda) (hcda:G.K.lookup cda=some ⟨ccl,cdd,.fields vs,ccs⟩) (hvs:vs[2]? = some (.str file tf)) (hfile:((G.prog.main.file:Str)==file)=true)
   (hcells:S.env.cells=[(("__class__" : Str),cc)]) (hcell:G.K.lookup cc=some ⟨cl,cld,.cell (some (.ref D)),csl⟩) (hD:clsIn G.K D=some cdD) (hcd:clsIn G.K C=some cd)
   (hks:S.env.kindOf "super" = some .globalImplicit) (hkc:S.env.kindOf "__class__" = some .free) (htop:(G.prog.main.scope.names.lookup ("super" : Str)).isSome=false)
   (hself:(ar.arg,Nm.loc (some (.ref x)))∈m) (hsup:(("super" : Str),Nm.glo (.type "super"))∈m) (ha:(a,Nm.loc (some av))∈m)
   (hx:H.o x=some (.obj ox)) (hc:ox.cls=.ref C) (hd:ox.data=.fields vx) (h0:vx[0]? = some a0)
   (hsub:mroIn G.K C (.ref D)=some true) (hsE:mroIn G.K C (.type "Exception")=some true) (hm:ks_superIn G.K C D "__init__" = some (some (.builtin "Exception.__init__"))) (hopq:nsIn G.K cStatics "thirdparty.any" = some none)
   (k:∀ t,KFl .next m (H.put x (.obj (Obj.mapFields (·.setIfInBounds 0 t) ox)))) {pl:Sem Bool}
   (hev:eval (.Call (.Attribute (.Call (.Name "super" p0) [] [] p1) "__init__" p2) [.Name a p3] [] p4) S.env=(do
     let ov ← attributeBase (.Call (.Name "super" p0) [] [] p1) "__init__" S.env (eval (.Call (.Name "super" p0) [] [] p1) S.env)
     standAt p2.atName
     let (f,first) ← holding [ov] (getMethod ov "__init__" pl)
     callWith p4 f first (backTo p4 (starEach [.Name a p3] S.env)) []):=by with_unfolding_all rfl) :
   ∀ s mm,MOk G S.env mm m→RelC G S.stk ((S.L,mm)::S.sv) S.pr H s →
     PySem.wpAt G.M S.A (.func body S.env) (exec (.Expr (.Call (.Attribute (.Call (.Name "super" p0) [] [] p1) "__init__" p2) [.Name a p3] [] p4) p5) S.env) (Post G S fun fl=>KFl (erF fl)) (PostX G S X) s:=by
 intro s mm M R
 have KIn:=G.X.keeps R.base
 have hi:interactive S.env=false:=by unfold interactive;rw [O.kind];rfl
 obtain ⟨oD,hDb,hD2⟩:∃ oD,G.K.lookup D=some oD∧oD.data=.cls cdD:=clsIn_inv hD
 refine ks_wpAt_Expr_any (ks_wpAt_MethodCall (ks_wpAt_super_base hks hkc (by decide) hfn (KIn _ _ hf) rfl hp hcode (KIn _ _ hcda) rfl hvs hfile htop ?_) hev) hi (by with_unfolding_all rfl)
 refine wpAny_mono (loadNm (X:=noX) (K:=fun v m' H'=>v=.type "super"∧m'=m∧H'=H) O hsup (.inr (.inl rfl)) ⟨rfl,rfl,rfl⟩ s mm M R) ?_ fun _ _ z=>z.no.elim
 rintro v s₁ yq2
 obtain ⟨m₁,H₁,mm₁,M₁,R₁,ev,rfl,rfl⟩:=yq2
 refine ⟨er_type' ev,?_⟩
 refine wpAny_loadName_free O.kind hkc (by rw [hcells];rfl) ⟨_,G.X.keeps R₁.base _ _ hcell,rfl⟩ ?_ (by decide)
 refine wpAny_mono (loadNm (X:=noX) (K:=fun v m' H'=>v=.ref x∧m'=m₁∧H'=H₁) O hself (.inl rfl) ⟨rfl,rfl,rfl⟩ s₁ mm₁ M₁ R₁) ?_ fun _ _ z=>z.no.elim
 rintro v₂ s₂ yq2
 obtain ⟨m₂,H₂,mm₂,M₂,R₂,ev₂,rfl,rfl⟩:=yq2
 obtain rfl:=er_ref' ev₂
 obtain ⟨hh,g,dr,t,os⟩:=s₂
 have K₂:=G.X.keeps R₂.base
 obtain ⟨o,ho,rfl,hfr⟩:=R₂.get hx
 refine ks_wpAny_isType_cls (K₂ _ _ hDb) hD2 ⟨rfl,?_⟩
 refine ks_wpAny_call_super (K₂ _ _ hDb) hD2 ho hc (fun c e=>by rw [hd] at e;cases e) (looks_mroIn K₂ hsub) fun h' e k'=>?_
 have R₃:=R_keeps (tk:=t) R₂ k'
 have K₃:=G.X.keeps R₃.base
 have hxC:x≠C:=fun q=>by
   have h1:=R₂.own_base hx
   refine xe12 (clsIn_inv hcd) fun o hk _=>?_
   rw [q,G.X _ _ hk] at h1;exact no_sn h1
 have hal:alongIn G.K "__init__" ((cd.mro.dropWhile (· != .ref D)).drop 1)=some (some (.builtin "Exception.__init__")):=by
   unfold ks_superIn at hm;rw [hcd] at hm;exact hm
 refine getMethod_super_init e (looks_opaque K₃ hopq) (l₀:=cd.mro) ((looks_clsIn K₃ hcd).andThen .now) rfl K₃ hal (k' _ _ ho) hc (looks_mroIn K₃ hsE) hxC ?_
 have R₄:=(R₃.push (.head _) (o:=mwObj x) (co:=.obj (mwObj x)) ⟨rfl,rfl⟩).toks (t+1)
 have hmw:H₂.o h'.objs.size=none:=R₃.fresh
 have hne:h'.objs.size≠x:=HP.ne_of hmw hx
 dsimp only at R₄ ⊢
 have hL:WL G S [.Name a p3] p4 (fun vs m' H'=>vs=[av]∧m'=m₂∧H'=H₂.put h'.objs.size (.obj (mwObj x))) X m₂ (H₂.put h'.objs.size (.obj (mwObj x))):=wl_cons (e_loc O ha (wl_nil ⟨rfl,rfl,rfl⟩))
 have hC:WV G S (callWith p4 (.ref h'.objs.size) [] (backTo p4 (starEach [.Name a p3] S.env)) []) (fun _ m' H'=>m'=m₂∧∃ t,H'=(H₂.put h'.objs.size (.obj (mwObj x))).put x (.obj (Obj.mapFields (·.setIfInBounds 0 t) o))) X m₂ (H₂.put h'.objs.size (.obj (mwObj x))):=by
   refine callW (starAll [.Name a p3] S.env p4 (by with_unfolding_all rfl)) rfl (W.post hL fun vs m H hv=>W.pure ?_)
   obtain ⟨ev3,rfl,rfl⟩:=hv
   rw [List.nil_append,ev3]
   exact c_excInit HP.put_same (HP.put_ne (Ne.symm hne) hx) hc hd h0 hcd hsE fun t=>⟨rfl,t,rfl⟩
 refine wpAny_mono (hC _ mm₂ M₂ R₄) ?_ fun _ _ z=>z
 rintro v₅ s₅ yq2
 obtain ⟨m₅,H₅,mm₅,M₅,R₅,rfl,t₅,rfl⟩:=yq2
 rw [HP.put_comm hne] at R₅
 exact ⟨_,_,mm₅,M₅,R₅.forget (HP.put_ne hne hmw),k t₅⟩
end
end Mine
end
section
open PySem PySem.W PyProof.Rows PySem.Calls
set_option maxHeartbeats 4000000
namespace Mine
theorem makeX {G:Glb}{A:Around}{stk:List Env}{sv:Sv}{pr:Pr}{C fI:Addr}{vs:List Value}{kw:List (Str × Value)}{K X:KH}{H:HP}{n:Nat}(hA:COk A stk (n+1))
   (hm:makesXIn G.K C=true) (hi:findIn G.K (.ref C) "__init__" = some (some (.ref fI))) (hf:typeIn G.K (.ref fI)=some (.type "function")) (hne:sv≠[]) (hsz:vs.length≤sizeLine)
   (h:∀ A' x t,COk A' stk n→A'.handled=A.handled→H.o x=none→Calls G A' stk sv pr (.ref fI) (.ref x::vs) kw (fun v H'=>v=.none∧K (.ref x) H') X (H.put x (.obj (newX C t)))) :
   Calls G A stk sv pr (.ref C) vs kw K X H:=by
 intro rf s rvs rkw ef R e1 e2
 obtain rfl:=er_ref' ef
 have KIn:=G.X.keeps R.base
 obtain ⟨p,hp⟩:=List.exists_mem_of_ne_nil _ hne
 have R₁:=R.junk (o:={ cls:=.type "tuple",data:=.seq rvs.toArray })
 have R₂:=R₁.push hp (o:=newX C s.heap.objs.size) (co:=.obj (newX C s.heap.objs.size)) ⟨rfl,rfl⟩
 have sz:(s.heap.push { cls:=.type "tuple",data:=.seq rvs.toArray }).objs.size=s.heap.objs.size+1:=Heap.size_push ..
 have hx:H.o (s.heap.objs.size+1)=none:=by
   rcases q:H.o (s.heap.objs.size+1) with _ | co
   · rfl
   · obtain ⟨o,ho,_⟩:=R.get q;exact absurd (Heap.lt_size ho) (Nat.not_lt.mpr (Nat.le_succ _))
 obtain ⟨hh,g,dr,t,os⟩:=s
 refine make_X (makesX_of KIn hm) (by rw [← e1,List.length_map] at hsz;exact hsz) (looks_findIn KIn hi) (fun self=>bind_fn KIn self hf) ?_
 simp only [sz] at R₂
 refine codeAny_mono (h _ _ _ (under_make hA) rfl hx _ _ (.ref (hh.objs.size+1)::rvs) rkw rfl R₂ (by simp [e1]) e2) fun r s' x=>?_
 rcases r with e | (_ | _ | _ | v)
 · exact x
 · exact x
 · exact x
 · exact x
 · obtain ⟨H',R',e,k⟩:=x
   exact ⟨er_none' e,H',R',k⟩
end Mine
end
section
open PySem PySem.W PyProof.Rows PySem.Calls
set_option maxHeartbeats 2000000
namespace Mine
noncomputable def Sub (H' H:HP):Prop:=H'.g=H.g∧∀ a c,H'.o a=some c→H.o a=some c
theorem Sub.refl (H:HP):Sub H H:=⟨rfl,fun _ _ e=>e⟩
theorem Sub.trans {a b c:HP}(x:Sub a b) (y:Sub b c):Sub a c:=⟨x.1.trans y.1,fun d o e=>y.2 d o (x.2 d o e)⟩
theorem Sub.put {H:HP}{a:Addr}{c:CO}(f:H.o a=none):Sub H (H.put a c):=⟨rfl,fun d o e=>HP.put_fresh f e⟩
theorem Sub.none {H' H:HP}(x:Sub H' H) {a:Addr}(f:H.o a=none):H'.o a=none:=by
 rcases q:H'.o a with _ | c
 · rfl
 · rw [x.2 a c q] at f;exact no_sn f
theorem Sub.same {H' H:HP}(x:Sub H' H) {a:Addr}{c:CO}:Sub (H'.put a c) (H.put a c):=⟨x.1,fun d o e=>by
 by_cases q:d=a
 · subst q;rw [HP.put_same] at e ⊢;exact e
 · rw [HP.put_ne q rfl] at e;exact HP.put_ne q (x.2 d o e)⟩
theorem RelC.sub {G:Glb}{stk:List Env}{sv:Sv}{pr:Pr}{H H':HP}{s:Shared}(x:Sub H' H) (R:RelC G stk sv pr H s):RelC G stk sv pr H' s:=
 ⟨R.base,R.frames,R.fsv,R.ns,R.nd,fun b co e=>R.own b co (x.2 _ _ e),fun p hp=>let ⟨a,b,c,d⟩:=R.prot p hp;⟨a,b,c,x.none d⟩,R.gens.trans x.1.symm,x.1▸R.bare,R.os⟩
section
variable {prog:Program}{w:World}{K:Type} [DecidableEq K] {knd:KeyKind prog w K}
theorem DictR.at {ep:Nat}{kvs:List (K × Value)}{o:Obj}(h:DictR knd ep kvs o) {hp:Heap}{a:Addr}(ho:hp.get? a=some o):∃ rkvs,hp.DictAt knd a rkvs ep∧rkvs.map (fun p=>(p.1,er p.2))=kvs:=by
 refine xe26 h fun es rkvs h1 h2 h3 h4 h5 h6=>?_
 exact ⟨rkvs,⟨o,es,ho,h1,h2,h3,h4,h5⟩,h6⟩
theorem dictR_of {rkvs:List (K × Value)}{hp:Heap}{a:Addr}(h:hp.DictOf knd a rkvs):∃ ep o,hp.get? a=some o∧DictR knd ep (rkvs.map fun p=>(p.1,er p.2)) o:=by
 refine xe36 h fun o es ep ho h1 h2 h3 h4 h5=>?_
 exact ⟨ep,o,ho,es,rkvs,h1,h2,h3,h4,h5,rfl⟩
theorem stored_er (rkvs:List (K × Value)) (k:K) (v:Value):(stored rkvs k v).map (fun p=>(p.1,er p.2))=stored (rkvs.map fun p=>(p.1,er p.2)) k (er v):=by
 unfold stored
 rw [List.any_map]
 have:(rkvs.any fun kv=>decide (kv.1=k))=rkvs.any ((fun kv:K × Value=>decide (kv.1=k)) ∘ fun p=>(p.1,er p.2)):=by
   congr 1
 rw [this]
 split
 · rw [List.map_map,List.map_map]
   apply List.map_congr_left
   intro p _
   simp only [Function.comp]
   by_cases q:p.1=k<;>simp [q]
 · simp
theorem valueAt_er (rkvs:List (K × Value)) (k:K):(valueAt rkvs k).map er=valueAt (rkvs.map fun p=>(p.1,er p.2)) k:=by
 unfold valueAt
 induction rkvs with
 | nil=>rfl
 | cons p r ih=>
   rw [List.map_cons,List.find?_cons,List.find?_cons]
   by_cases q:p.1=k
   · simp [q]
   · simp only [q,decide_false];exact ih
theorem merged_er (a b:List (K × Value)):(merged a b).map (fun p=>(p.1,er p.2))=merged (a.map fun p=>(p.1,er p.2)) (b.map fun p=>(p.1,er p.2)):=by
 unfold merged
 induction b generalizing a with
 | nil=>rfl
 | cons p r ih=>rw [List.foldl_cons,ih,List.map_cons,List.foldl_cons,stored_er]
end
section
variable {G:Glb}{stk:List Env}{sv:Sv}{pr:Pr}{H:HP}{s:Shared}
theorem RelC.notMods (R:RelC G stk sv pr H s) {a:Addr}{c:CO}(h:H.o a=some c):(a==sysModules)=false:=by
 have h1:=(R.own a c h).1.2
 rw [beq_eq_false_iff_ne]
 intro q;rw [q] at h1;exact absurd h1 (Nat.lt_irrefl _)
theorem relDi (R:RelC G stk sv pr H s) {d:Addr}{ep:Nat}{kvs:List (Int × Value)}(h:H.o d=some (.di ep kvs)):∃ rkvs,s.heap.DictAt (intKind G.prog G.w) d rkvs ep∧rkvs.map (fun p=>(p.1,er p.2))=kvs:=by
 obtain ⟨o,ho,x⟩:=R.get h
 exact DictR.at x ho
theorem relDs (R:RelC G stk sv pr H s) {d:Addr}{ep:Nat}{kvs:List (Str × Value)}(h:H.o d=some (.ds ep kvs)):∃ rkvs,s.heap.DictAt (strKind G.prog G.w) d rkvs ep∧rkvs.map (fun p=>(p.1,er p.2))=kvs:=by
 obtain ⟨o,ho,x⟩:=R.get h
 exact DictR.at x ho
theorem int_is {i:Int}{t:Tok}:(intKind G.prog G.w).is i (.int i t)=true:=intKind_is _ _ _ _
theorem str_is {i:Str}{t:Tok}:(strKind G.prog G.w).is i (.str i t)=true:=strKind_is _ _ _ _
end
section
variable {G:Glb}{S:Sit}{X:KV}{m:Names}{H:HP}{K:KV}{KU:Unit→Names→HP→Prop}{KM:Value→List Value→Names→HP→Prop}
theorem e_dict0 {p:Pos}(h:∀ a,H.o a=none→K (.ref a) m (H.put a (.di 0 []))):WE G S (.Dict [] [] p) K X m H:=by
 intro s mm M R
 rw [eval_Dict_empty]
 refine wpAny_bind (wpAny_standAt ?_)
 unfold newDict
 refine wpAny_newObj_type ⟨m,_,mm,M,R.push (.head _) (co:=.di 0 []) ⟨#[],[],⟨rfl,rfl,rfl⟩,rfl,fun _ he=>by simp at he,Pairs.nil,List.nodup_nil,rfl⟩,h _ R.fresh⟩ (by size_fits)
theorem setI_di {d:Addr}{ep:Nat}{kvs:List (Int × Value)}{i:Int}{v:Value}(hd:H.o d=some (.di ep kvs)) (hz:kvs.length≤sizeLine) (h:∀ ep',KU () m (H.put d (.di ep' (stored kvs i v)))):SetI G S (.ref d) (.int i 0) v KU X m H:=by
 intro ro ri rv e1 e2 e3 s mm M R
 obtain rfl:=er_ref' e1
 obtain ⟨t,rfl⟩:=er_int' e2
 refine xe12 (relDi R hd) fun rkvs hm hk=>?_
 have hl:rkvs.length=kvs.length:=by rw [← hk];simp
 refine wpAny_setItem_pairs int_is hm.dictOf (fun h' hm' sb=>?_) (by rw [hl];exact hz)
 refine xe22 (dictR_of hm') fun ep' o' ho' hr=>?_
 rw [stored_er,hk,e3] at hr
 exact ⟨m,_,mm,M,R.upd (tk:=s.toks+1) (co':=.di ep' (stored kvs i v)) hd (fun b q=>sb.2 b q) ho' hr,h ep'⟩
theorem it_ds {d:Addr}{ep:Nat}{kvs:List (Str × Value)}{x:Str}{v:Value}(hd:H.o d=some (.ds ep kvs)) (hv:valueAt kvs x=some v) (k:K v m H):IteC G S (.ref d) (.str x 0) K X m H:=fun ro ri e1 e2 s mm M R=>by
 obtain rfl:=er_ref' e1
 obtain ⟨t,rfl⟩:=er_str' e2
 refine xe12 (relDs R hd) fun rkvs hm hk=>?_
 rw [← hk,← valueAt_er] at hv
 refine xe12 (Option.map_eq_some_iff.mp hv) fun rv hrv e=>?_
 exact ⟨"dict",_,slot_dict_getitem.lookup,hm.dictOf.typeIs,wpAny_getItem_of str_is hm.dictOf.mapOf hrv (eff_ M R (by rw [e];exact k))⟩
theorem met_di {n:Str}{id:String}{d:Addr}{ep:Nat}{kvs:List (Int × Value)}(hd:H.o d=some (.di ep kvs)) (slot:Slot "dict" n id) (ty:typeOf (.builtin id)=pure (.type "method_descriptor")) (k:KM (.builtin id) [.ref d] m H):MetC G S (.ref d) n KM X m H:=fun ro pl e s mm M R=>by
 obtain rfl:=er_ref' e
 refine xe12 (relDi R hd) fun rkvs hm hk=>?_
 exact getMethod_builtin hm.dictOf.typeIs PySem.F.plainAttrs_dict slot ty hm.dictOf.mapOf.noDict ⟨m,H,mm,M,R,k⟩
noncomputable abbrev viewObj (T:String) (d:Addr):Obj:={ cls:=.type T,data:=.fields #[.ref d] }
theorem f_keys {d:Addr}{ep:Nat}{kvs:List (Int × Value)}(hd:H.o d=some (.di ep kvs)) (k:∀ a,H.o a=none→K (.ref a) m (H.put a (.obj (viewObj "dict_keys" d)))):CalC G S (.builtin "dict.keys") [.ref d] [] K X m H:=cal1 isB fun r e s mm M R=>by
 obtain rfl:=er_ref' e
 refine xe12 (relDi R hd) fun rkvs hm hk=>?_
 exact call_meetsIn PySem.F.slot_dict_keys hm.dictOf.typeIs PySem.F.entry_dict_keys (PySem.F.args_dict_keys_1 _) (kdl_meets_keys (intKind G.prog G.w) d (R.notMods hd)) ⟨⟨rkvs,hm.dictOf⟩,m,_,mm,M,R.push (.head _) (co:=.obj (viewObj "dict_keys" d)) ⟨rfl,rfl⟩,k _ R.fresh⟩
theorem f_items {d:Addr}{ep:Nat}{kvs:List (Int × Value)}(hd:H.o d=some (.di ep kvs)) (k:∀ a,H.o a=none→K (.ref a) m (H.put a (.obj (viewObj "dict_items" d)))):CalC G S (.builtin "dict.items") [.ref d] [] K X m H:=cal1 isB fun r e s mm M R=>by
 obtain rfl:=er_ref' e
 refine xe12 (relDi R hd) fun rkvs hm hk=>?_
 exact call_meetsIn PySem.F.slot_dict_items hm.dictOf.typeIs PySem.F.entry_dict_items (PySem.F.args_dict_items_1 _) (meets_dict_items (intKind G.prog G.w) d (R.notMods hd)) ⟨⟨rkvs,hm.dictOf⟩,m,_,mm,M,R.push (.head _) (co:=.obj (viewObj "dict_items" d)) ⟨rfl,rfl⟩,k _ R.fresh⟩
theorem itKeys {v d:Addr}{ep:Nat}{kvs:List (Int × Value)}:Itb G (.ref v) kvs.length (fun i=>.int (kvs.getD i (0,.none)).1 0) (fun i o=>o.cls=.type "dict_keyiterator"∧o.data=.fields #[.ref d,.int i 0,.int kvs.length 0,.int ep 0])
   (fun H=>H.o v=some (.obj (viewObj "dict_keys" d))∧H.o d=some (.di ep kvs)) where
 start:=fun A rv s stk sv pr H Q E e R p h=>by
   rw [er_ref' e]
   obtain ⟨ov,hov,rfl,_⟩:=R.get p.1
   refine xe12 (relDi R p.2) fun rkvs hm hk=>?_
   have hl:rkvs.length=kvs.length:=by rw [← hk];simp
   refine kdl_pyIter_keys (kvs:=rkvs) ⟨_,hov,rfl,rfl⟩ hm ?_
   rw [hl]
   exact h _ s.toks ⟨rfl,rfl⟩ rfl
 item:=fun A it i s stk sv pr H o Q E hi R p ho hO hn h=>by
   refine xe12 (relDi R p.2) fun rkvs hm hk=>?_
   have hl:rkvs.length=kvs.length:=by rw [← hk];simp
   have hx:rkvs[i]? = some ((rkvs.getD i (0,.none)).1,(rkvs.getD i (0,.none)).2):=by
     simp [List.getD,show i<rkvs.length by lia]
   refine wpAny_pyNext_dict_item (kvs:=rkvs) ⟨o,ho,hO.1,by rw [hl];exact hO.2⟩ hm hx fun key h' hkey hit sb=>?_
   obtain ⟨t,rfl⟩:=Value.isInt_shape hkey
   refine xe13 hit fun o' ho' c' d'=>?_
   refine h _ h' s.toks o' ?_ ho' ⟨c',by rw [← hl];exact d'⟩ sb
   rw [← hk]
   simp [List.getD,show i<rkvs.length by lia]
 done:=fun A it s stk sv pr H o Q E hh R p ho hO hn h=>by
   refine xe12 (relDi R p.2) fun rkvs hm hk=>?_
   have hl:rkvs.length=kvs.length:=by rw [← hk];simp
   exact wpAny_pyNext_dict_end hh (kvs:=rkvs) ⟨o,ho,hO.1,by rw [hl];exact hO.2⟩ hm (by simp [hl]) fun h' x=>h h' s.toks x
 fields:=fun i o hO=>⟨_,hO.2⟩
 self:=fun A it i s o Q E ho hO h=>wpAny_pyIter_keyiter ⟨o,ho,hO.1,hO.2⟩ h
end
end Mine
end
section
set_option maxHeartbeats 2000000
namespace PySem
open Sem (wp)
open PySem.W PyProof.Rows
namespace F
theorem slot_keys_contains:Slot "dict_keys" "__contains__" "dict_keys.__contains__":=.of (owner:="dict_keys") (n:="__contains__") (by rw [typeLookup_type,builtinLookup_eq_fast];kernel_rfl) (by decide +kernel) (by decide +kernel) (by decide +kernel)
 (by first | exact .inl (by decide +kernel) | exact .inr (by decide +kernel)) (by rw [isSubtype_type];kernel_rfl)
theorem entry_keys_contains:entryFor table "dict_keys.__contains__" = some Builtin.«dict_keys.__contains__»:=entryFor_of_tree (by kernel_rfl)
theorem args_keys_contains (a b:Value):argsOk "dict_keys.__contains__" ⟨[a,b],[]⟩:=by unfold argsOk;kernel_rfl
end F
section
variable {prog:Program}{w:World}{K:Type} [DecidableEq K] {knd:KeyKind prog w K}{A:Around}{E:Value→Shared→Prop}{s:Shared}{d v:Addr}{k:K}{key:Value}
theorem wpAny_in_keys {f} {Q:Value→Shared→Prop}(hkey:knd.is k key=true) (hv:KdlKeysView s.heap v d) (hm:s.heap.MapOf knd d f)
   (h:Q (.bool (f k).isSome) { s with toks:=s.toks+1 }):wpAny (model prog w) A (compareOp .In key (.ref v)) Q E s:=by
 show wpAny _ _ (do return .bool (← contains (.ref v) key)) Q E s
 refine wpAny_bind ?_
 unfold contains
 try with_reducible refine wpAny_holding ?_
 refine wpAny_bind (wpAny_specialOf hv.typeIs F.slot_keys_contains.lookup ?_)
 show wpAny _ _ (if (some (Value.builtin "dict_keys.__contains__")==some Value.none)=true then _ else _) _ E s
 rw [if_neg (by rw [beq_builtin_none];exact Bool.false_ne_true)]
 refine wpAny_bind (wpAny_callSpecialUnlessNone?_slot (name:=Str.ofString "__contains__") hv.typeIs F.slot_keys_contains
   (wpAny_call_entry F.slot_keys_contains hv.typeIs F.entry_keys_contains ?_ (F.args_keys_contains _ _)))
 obtain ⟨ov,hov,hcv,hdv⟩:=id hv
 unfold Builtin.«dict_keys.__contains__» Builtin.Dict_items.slot1
 refine wpAny_bind (wpAny_pure ?_)
 unfold Builtin.Dict_items.keysContain Builtin.Dict_items.dictOf
 refine wpAny_bind (wpAny_bind (wpAny_bind (wpAny_field hov hdv (x:=.ref d) rfl (wpAny_pure ?_))))
 refine wpAny_bind (wpAny_dictGet_of hkey hm (wpAny_pure ?_))
 exact wpAny_pure ⟨_,rfl,wpAny_truthy_bool (wpAny_pure h)⟩
end
end PySem
open PySem PySem.W PyProof.Rows PySem.Calls
namespace Mine
section
variable {G:Glb}{S:Sit}{X:KV}{m:Names}{H:HP}{K:KV}{KU:Unit→Names→HP→Prop}{KM:Value→List Value→Names→HP→Prop}
theorem c_in_keys {v d:Addr}{ep:Nat}{kvs:List (Int × Value)}{i:Int}(hv:H.o v=some (.obj (viewObj "dict_keys" d))) (hd:H.o d=some (.di ep kvs)) (k:K (.bool (valueAt kvs i).isSome) m H):CmpC G S .In (.int i 0) (.ref v) K X m H:=fun r₁ r₂ e1 e2 s mm M R=>by
 obtain ⟨t,rfl⟩:=er_int' e1
 obtain rfl:=er_ref' e2
 obtain ⟨ov,hov,rfl,_⟩:=R.get hv
 refine xe12 (relDi R hd) fun rkvs hm hk=>?_
 refine wpAny_in_keys (int_is (G:=G)) ⟨_,hov,rfl,rfl⟩ hm.dictOf.mapOf (eff_ M R ?_)
 rw [show (valueAt rkvs i).isSome=(valueAt kvs i).isSome by rw [← hk,← valueAt_er,Option.isSome_map]]
 exact k
noncomputable def pairsE:List (Option Expr)→List Expr→List (Expr × Expr)
 | some k::ks,v::vs=>(k,v)::pairsE ks vs
 | _,_=>[]
noncomputable def DisC (G:Glb) (S:Sit):List (Expr × Expr)→(List (Value × Value)→Names→HP→Prop)→KV→Names→HP→Prop
 | [],K,_,m,H=>K [] m H
 | (k,v)::r,K,X,m,H=>WE G S k (fun kv=>WE G S v (fun vv=>DisC G S r (fun l=>K ((kv,vv)::l)) X) X) X m H
theorem evalPairsW {p:Pos}:∀ {es:List (Expr × Expr)}{K:List (Value × Value)→Names→HP→Prop}{m:Names}{H:HP},DisC G S es K X m H →
   W G S (evalPairs (es.map fun e=>(eval e.1 S.env,do let x ← eval e.2 S.env;standAt p;pure x))) (fun l=>K (l.map fun q=>(er q.1,er q.2))) X m H
 | [],_,_,_,h=>W.pure h
 | (k,v)::r,K,m,H,h=>by
   show W G S (evalPairs ((eval k S.env,(do let x ← eval v S.env;standAt p;pure x))::(r.map fun e=>(eval e.1 S.env,do let x ← eval e.2 S.env;standAt p;pure x)))) _ X m H
   unfold evalPairs
   exact W.bind (W.post h fun kv m H h=>W.bind (W.holding (W.bind (W.post h fun vv m H h=>W.bind (W.standAt (W.pure (W.bind (W.holding (W.post (evalPairsW h) fun l m H h=>W.pure h)))))))))
theorem e_dictS {ks:List (Option Expr)}{vs:List Expr}{p:Pos}(h:∀ a,H.o a=none→DisC G S (pairsE ks vs) (fun l m' H'=>∃ kvs:List (Str × Value),l=kvs.map (fun q=>(.str q.1 0,q.2))∧H'.o a=some (.ds 0 [])∧∀ ep,K (.ref a) m' (H'.put a (.ds ep (merged [] kvs)))) X m (H.put a (.ds 0 [])))
   (h0:pairsE ks vs≠[]) (hlen:(pairsE ks vs).length≤15)
   (hshape:(evalEachOpt ks S.env).zip ((evalEach vs S.env).map fun v=>do let x ← v;standAt p;pure x)=((pairsE ks vs).map fun e=>(eval e.1 S.env,do let x ← eval e.2 S.env;standAt p;pure x)).map fun q=>(some q.1,q.2):=by with_unfolding_all rfl):WE G S (.Dict ks vs p) K X m H:=by
 intro s mm M R
 refine wpAny_Dict_pairs (knd:=strKind G.prog G.w) hshape (by simpa using h0) (by simpa using hlen) ?_
 have R₁:=R.push (.head _) (o:={ cls:=.type "dict",data:=.dict #[] }) (co:=.ds 0 []) ⟨#[],[],⟨rfl,rfl,rfl⟩,rfl,fun _ he=>by simp at he,Pairs.nil,List.nodup_nil,rfl⟩
 refine wpAny_mono (evalPairsW (p:=p) (h s.heap.objs.size R.fresh) _ mm M R₁) ?_ fun _ _ z=>z
 rintro l s₁ yq2
 obtain ⟨m',H',mm',M',R',kvs,hl,ha,k⟩:=yq2
 refine xe12 (relDs R' ha) fun rkvs hm hk=>?_
 have hnil:rkvs=[]:=by simpa using hk
 subst hnil
 have hC:∃ rk:List (Str × Value),Carries (strKind G.prog G.w) l rk∧rk.map (fun q=>(q.1,er q.2))=kvs:=by
   clear k
   induction l generalizing kvs with
   | nil=>
     rcases kvs with _ | ⟨_,_⟩
     · exact ⟨[],trivial,rfl⟩
     · cases hl
   | cons q r ih=>
     rcases kvs with _ | ⟨q',r'⟩
     · cases hl
     ·
       simp only [List.map_cons,List.cons.injEq,Prod.mk.injEq] at hl
       obtain ⟨⟨h1,h2⟩,h3⟩:=hl
       refine xe12 (ih r' h3) fun rk hc hr=>?_
       refine xe11 (er_str' h1) fun t ht=>?_
       obtain ⟨q1,q2⟩:=q
       dsimp only at ht h2
       subst ht
       exact ⟨(q'.1,q2)::rk,⟨str_is,rfl,hc⟩,by simp [hr,h2]⟩
 refine xe12 hC fun rk hc hr=>?_
 refine ⟨rk,hc,hm.dictOf,fun h' hm' sb=>?_⟩
 refine xe22 (dictR_of hm') fun ep' o' ho' hq=>?_
 rw [merged_er,hr] at hq
 exact ⟨m',_,mm',M',R'.upd (tk:=s₁.toks+l.length) (co':=.ds ep' (merged [] kvs)) ha (fun b q=>sb.2 b q) ho' hq,k ep'⟩
end
end Mine
end
section
set_option maxHeartbeats 2000000
namespace PySem
open Sem (wp)
open PySem.W PyProof.Rows
theorem am_zip_getattr_none:typeLookup (.type "zip") "__getattr__" = pure none:=by rw [typeLookup_type,builtinLookup_eq_fast];kernel_rfl
theorem am_zip_keys_none:typeLookup (.type "zip") "keys" = pure none:=by rw [typeLookup_type,builtinLookup_eq_fast];kernel_rfl
theorem am_entry_zip_getattribute:entryFor table "zip.__getattribute__" = some Builtin.«object.__getattribute__»:=
 entryFor_alias (id':="object.__getattribute__") (by kernel_rfl) (by decide +kernel) (by decide +kernel) (by kernel_rfl)
theorem meets_getattribute_miss_zip (a:Addr) (xs:Array Value) (sl:Array (Option Value)) (u:Tok) :
   Meets (Builtin.«object.__getattribute__» ⟨[.ref a,.str "keys" u],[]⟩) (fun A R s=>s.heap.get? a=some { cls:=.type "zip",dict:=none,data:=.fields xs,slots:=sl }∧raisesAttr (.ref a) "keys" A R s):=
 Meets.of_wp fun prog w A R s hs=>by
   obtain ⟨hp,g,d,tk,os⟩:=s
   obtain ⟨hx,hs⟩:=hs
   have hT:(⟨hp,g,d,tk,os⟩:Shared).TypeIs (.ref a) "zip":=⟨_,hx,rfl⟩
   have hmiss:=am_zip_keys_none
   have hname:(["__module__","__name__","__qualname__","__doc__","__annotations__"]:List Str).contains ("keys" : Str)=false:=by decide
   unfold Builtin.«object.__getattribute__»
   repeat (any_goals (first | assumption | wp_step))
   first
     | (simp only [hname,Bool.false_eq_true,if_false];repeat (any_goals (first | assumption | wp_step)))
     | skip
   exact wpAny_raiseAttrError hs.1 hs.2 (attrMsg_fits (by decide +kernel) (by rw [sizeLine_eq];decide))
theorem getAttr?_miss_zip {prog:Program}{w:World}{A:Around}{E:Value→Shared→Prop}{s:Shared}{a:Addr}{xs:Array Value}{Q:Option Value→Shared→Prop}
   (hx:s.heap.get? a=some { cls:=.type "zip",dict:=none,data:=.fields xs,slots:=#[] }) (hA:A.handled=none)
   (h:∀ h' tk,(∀ b o,s.heap.get? b=some o→h'.get? b=some o)→Q none { s with heap:=h',toks:=tk }) :
   wpAny (model prog w) A (getAttr? (.ref a) "keys") Q E s:=by
 obtain ⟨hp,g,d,tk,os⟩:=s
 have hT:∀ tk',(⟨hp,g,d,tk',os⟩:Shared).TypeIs (.ref a) "zip":=fun _=>⟨_,hx,rfl⟩
 have f1:=sub_AttributeError
 have f3:=F.slot_zip_getattribute.lookup
 have f4:=F.slot_zip_getattribute.bind (.ref a)
 have f5:=am_zip_getattr_none
 unfold getAttr? getAttrBy? getAttrBy
 repeat (any_goals (first | assumption | exact hT _ | ((with_reducible show wpAny _ _ (call (Value.builtin "zip.__getattribute__") _ _) _ _ _);refine call_meets F.slot_zip_getattribute (hT _) am_entry_zip_getattribute (F.args_zip_getattribute_2 _ _) (meets_getattribute_miss_zip a xs #[] _) ⟨hx,hA,fun h' tk' e hx'=>?_⟩) | wp_step))
 obtain ⟨t',u',he⟩:=hx'.there
 show wpAny _ _ (getattributeRaised _ _ _ _ _ _ _) _ _ _
 unfold getattributeRaised
 repeat (any_goals (first | assumption | wp_step))
 all_goals exact h _ _ hx'.keeps
noncomputable abbrev IsZ (h:Heap) (z TI TO:Addr) (f0:Value) (f1:Bool):Prop:=
 h.get? z=some { cls:=.type "zip",dict:=none,data:=.fields #[f0,.bool f1,.bool false,.ref TI,.ref TO],slots:=#[] }
structure ZSt (h:Heap) (z TI TO i1 i2 l1 l2:Addr) (xs ys:Array Value) (k:Nat):Prop where
 zip:∃ f0 f1,IsZ h z TI TO f0 f1∧((k=0∧f0=.none)∨∃ (T:Addr) (o:Obj),f0=rawInt (T:Int)∧h.get? T=some o∧T≠z∧T≠TO∧T≠i1∧T≠i2)
 ti:IsPair h TI (.ref i1) (.ref i2)
 tto:∃ a b,IsPair h TO a b
 i1:h.IsListIter i1 l1 k
 i2:h.IsTupleIter i2 l2 k
 l1:h.IsList l1 xs
 l2:h.IsTuple l2 ys
section
variable {prog:Program}{w:World}{A:Around}{E:Value→Shared→Prop}{s:Shared}
theorem nextOf_tuple_item {it t:Addr}{i:Nat}{items} {x:Value}{Q:Value→Shared→Prop}(hit:s.heap.IsTupleIter it t i)
   (ht:s.heap.IsTuple t items) (hx:items[i]? = some x)
   (hQ:∀ h',h'.IsTupleIter it t (i+1)→Heap.SameBut it s.heap h'→Q x { s with heap:=h' }) :
   wpAny (model prog w) A (Builtin.SmallTypes.nextOf (.ref it)) Q E s:=by
 obtain ⟨o,ho,hc,hd⟩:=id hit
 obtain ⟨ol,hol,_,nl,hdl⟩:=ht
 unfold Builtin.SmallTypes.nextOf
 refine wpAny_bind (wpAny_callSpecial?_slot (name:=Str.ofString "__next__") hit.typeIs F.slot_tuple_iterator_next
   (wpAny_call_entry F.slot_tuple_iterator_next hit.typeIs F.entry_tuple_iterator_next ?_ (F.args_tuple_iterator_next_1 _)))
 show wpAny _ _ (field (.ref it) 0 >>= _) _ _ s
 refine wpAny_bind (wpAny_field ho hd (x:=.ref t) rfl ?_)
 show wpAny _ _ (if (Value.ref t==Value.none)=true then _ else _) _ _ s
 rw [if_neg (show ¬ ((Value.ref t==Value.none)=true) from Bool.false_ne_true)]
 show wpAny _ _ (field (.ref it) 1 >>= _) _ _ s
 refine wpAny_bind (wpAny_field ho hd (x:=.int i 0) rfl ?_)
 show wpAny _ _ (seqItems? (.ref t) >>= _) _ _ s
 refine wpAny_bind (wpAny_seqItems hol hdl ?_)
 simp only [Int.toNat_natCast,hx]
 refine wpAny_bind (wpAny_setField ho hd (by simp) (wpAny_pure ⟨x,rfl,wpAny_pure (hQ _ ?_ (Heap.SameBut.update ..))⟩))
 exact ⟨_,Heap.get?_update_self _ ho (Obj.isFreed_of_fields (Obj.data_mapFields hd _)),(Obj.cls_mapFields ..).trans hc,by
   rw [Obj.data_mapFields hd];simp [rawInt]⟩
theorem zs_item {z TI TO i1 i2 l1 l2:Addr}{k:Nat}{xs ys:Array Value}{x y:Value}{Q:Option Value→Shared→Prop}(D:ZipApart z TI TO i1 i2 l1 l2)
   (Z:ZSt s.heap z TI TO i1 i2 l1 l2 xs ys k) (hx:xs[k]? = some x) (hy:ys[k]? = some y)
   (hQ:∀ h',ZSt h' z TI TO i1 i2 l1 l2 xs ys (k+1)→IsPair h' s.heap.objs.size x y→(∀ c o,c≠z→c≠TO→c≠i1→c≠i2→s.heap.get? c=some o→h'.get? c=some o)→Q (some (.ref s.heap.objs.size)) { s with heap:=h' }) :
   wpAny (model prog w) A (pyNext (.ref z)) Q E s:=by
 obtain ⟨⟨f0,f1,hz,hf⟩,hTI,⟨a,b,hTO⟩,h1,h2,hl1,hl2⟩:=Z
 have hT:s.TypeIs (.ref z) "zip":=⟨_,hz,rfl⟩
 unfold pyNext
 refine wpAny_bind (wpAny_attempt (wpAny_callSpecial?_slot (name:=Str.ofString "__next__") hT F.slot_zip_next
   (wpAny_call_entry F.slot_zip_next hT F.entry_zip_next ?_ (F.args_zip_next_1 _))))
 show wpAny _ _ (field (.ref z) 2 >>= _) _ _ _
 refine wpAny_bind (wpAny_field hz rfl (x:=.bool false) rfl ?_)
 show wpAny _ _ (field (.ref z) 3 >>= _) _ _ _
 refine wpAny_bind (wpAny_field hz rfl (x:=.ref TI) rfl ?_)
 refine wpAny_bind (wpAny_seqItems hTI rfl ?_)
 show wpAny _ _ (Builtin.SmallTypes.ownedTupleIsFree (.ref z) >>= _) _ _ _
 have hzlt:z<s.heap.objs.size:=Heap.lt_size hz
 have hTOlt:TO<s.heap.objs.size:=Heap.lt_size hTO
 have hi1lt:i1<s.heap.objs.size:=by obtain ⟨_,e,_⟩:=h1;exact Heap.lt_size e
 have hi2lt:i2<s.heap.objs.size:=by obtain ⟨_,e,_⟩:=h2;exact Heap.lt_size e
 rcases hf with ⟨rfl,rfl⟩ | ⟨T,oT,rfl,hTa,t1,t2,t3,t4⟩
 · refine wpAny_bind ?_
   unfold Builtin.SmallTypes.ownedTupleIsFree
   refine wpAny_bind (wpAny_field hz rfl (x:=.none) rfl (wpAny_pure ?_))
   simp only [if_true]
   refine wpAny_bind (wpAny_rule ?_)
   refine wpAny_bind (wpAny_field hz rfl (x:=.ref TO) rfl ?_)
   refine wpAny_bind (wpAny_setField_rec hz (by simp) fun h₁ hz₁ hs₁=>?_)
   replace hz₁:IsZ h₁ z TI TO .ellipsis f1:=hz₁
   refine wpAny_bind ?_
   simp only [List.zipIdx_cons,List.zipIdx_nil,List.forIn_cons,List.forIn_nil]
   refine wpAny_bind (wpAny_bind (wpAny_onRaise ?_))
   show wpAny _ _ (Builtin.SmallTypes.nextOf (.ref i1) >>= _) _ _ _
   refine wpAny_bind (wpAny_nextOf_list_item (h1.extBut hs₁.extBut D.i1z) (hl1.extBut hs₁.extBut D.l1z) hx fun h₂ h1₂ hs₂=>wpAny_pure ?_)
   have hTO₂:IsPair h₂ TO a b:=hs₂.extBut _ _ D.TOi1 (hs₁.extBut _ _ D.TOz hTO)
   refine wpAny_bind (wpAny_seqItems hTO₂ rfl ?_)
   refine wpAny_bind (wpAny_updateSeq_pair hTO₂ fun h₃ hTO₃ hs₃=>?_)
   replace hTO₃:IsPair h₃ TO x b:=hTO₃
   refine wpAny_bind (wpAny_letGo (wpAny_pure ?_))
   refine wpAny_bind (wpAny_bind (wpAny_onRaise ?_))
   show wpAny _ _ (Builtin.SmallTypes.nextOf (.ref i2) >>= _) _ _ _
   have h2₃:h₃.IsTupleIter i2 l2 0:=by
     obtain ⟨o,ho,r⟩:=h2
     exact ⟨o,hs₃.extBut _ _ D.TOi2.symm (hs₂.extBut _ _ D.i12.symm (hs₁.extBut _ _ D.i2z ho)),r⟩
   have hl2₃:h₃.IsTuple l2 ys:=by
     obtain ⟨o,ho,r⟩:=hl2
     exact ⟨o,hs₃.extBut _ _ D.l2TO (hs₂.extBut _ _ D.l2i1 (hs₁.extBut _ _ D.l2z ho)),r⟩
   refine wpAny_bind (nextOf_tuple_item h2₃ hl2₃ hy fun h₄ h2₄ hs₄=>wpAny_pure ?_)
   have hTO₄:IsPair h₄ TO x b:=hs₄.extBut _ _ D.TOi2 hTO₃
   refine wpAny_bind (wpAny_seqItems hTO₄ rfl ?_)
   refine wpAny_bind (wpAny_updateSeq_pair hTO₄ fun h₅ hTO₅ hs₅=>?_)
   replace hTO₅:IsPair h₅ TO x y:=hTO₅
   refine wpAny_bind (wpAny_letGo (wpAny_pure (wpAny_pure ?_)))
   refine wpAny_bind (wpAny_seqItems hTO₅ rfl ?_)
   refine wpAny_bind (wpAny_newTuple ?_)
   have hsz:h₅.objs.size=s.heap.objs.size:=by rw [hs₅.1,hs₄.1,hs₃.1,hs₂.1,hs₁.1]
   have hz₅:IsZ h₅ z TI TO .ellipsis f1:=hs₅.extBut _ _ D.TOz.symm (hs₄.extBut _ _ D.i2z.symm (hs₃.extBut _ _ D.TOz.symm (hs₂.extBut _ _ D.i1z.symm hz₁)))
   have hk₅:∀ c o,c≠z→c≠TO→c≠i1→c≠i2→s.heap.get? c=some o→h₅.get? c=some o:=fun c o c1 c2 c3 c4 e=>
     hs₅.extBut _ _ c2 (hs₄.extBut _ _ c4 (hs₃.extBut _ _ c2 (hs₂.extBut _ _ c3 (hs₁.extBut _ _ c1 e))))
   have h1₅:h₅.IsListIter i1 l1 1:=((h1₂.extBut hs₃.extBut D.TOi1.symm).extBut hs₄.extBut D.i12).extBut hs₅.extBut D.TOi1.symm
   have h2₅:h₅.IsTupleIter i2 l2 1:=by
     obtain ⟨o,ho,r⟩:=h2₄
     exact ⟨o,hs₅.extBut _ _ D.TOi2.symm ho,r⟩
   show wpAny _ _ (Builtin.SmallTypes.ownedTupleHandOut (.ref z) (.ref h₅.objs.size) >>= _) _ _ _
   refine wpAny_bind ?_
   unfold Builtin.SmallTypes.ownedTupleHandOut
   have hz₆:IsZ (h₅.push { cls:=.type "tuple",data:=.seq #[x,y] }) z TI TO .ellipsis f1:=Heap.get?_push_of_some _ hz₅
   refine wpAny_bind (wpAny_setField_rec hz₆ (by simp) fun h₇ hz₇ hs₇=>?_)
   replace hz₇:IsZ h₇ z TI TO (rawInt h₅.objs.size) f1:=hz₇
   refine wpAny_setField_rec hz₇ (by simp) fun h₈ hz₈ hs₈=>?_
   replace hz₈:IsZ h₈ z TI TO (rawInt h₅.objs.size) false:=hz₈
   have up:∀ c o,c≠z→h₅.get? c=some o→h₈.get? c=some o:=fun c o c1 e=>hs₈.extBut _ _ c1 (hs₇.extBut _ _ c1 (Heap.get?_push_of_some _ e))
   have hT₈:IsPair h₈ h₅.objs.size x y:=hs₈.extBut _ _ (by rw [hsz];exact Nat.ne_of_gt hzlt) (hs₇.extBut _ _ (by rw [hsz];exact Nat.ne_of_gt hzlt) (Heap.get?_push_size _ rfl))
   rw [hsz] at hz₈ hT₈
   refine wpAny_pure ⟨_,rfl,wpAny_pure ?_⟩
   show Q (some (.ref h₅.objs.size)) _
   rw [hsz]
   refine hQ h₈ ⟨⟨_,_,hz₈,.inr ⟨_,_,rfl,hT₈,Nat.ne_of_gt hzlt,Nat.ne_of_gt hTOlt,Nat.ne_of_gt hi1lt,Nat.ne_of_gt hi2lt⟩⟩,up _ _ D.TIz (hk₅ _ _ D.TIz D.TITO D.TIi1 D.TIi2 hTI),⟨_,_,up _ _ D.TOz hTO₅⟩,?_,?_,?_,?_⟩ hT₈ fun c o c1 c2 c3 c4 e=>up c o c1 (hk₅ c o c1 c2 c3 c4 e)
   · obtain ⟨o,ho,r⟩:=h1₅;exact ⟨o,up _ _ D.i1z ho,r⟩
   · obtain ⟨o,ho,r⟩:=h2₅;exact ⟨o,up _ _ D.i2z ho,r⟩
   · obtain ⟨o,ho,r⟩:=hl1;exact ⟨o,up _ _ D.l1z (hk₅ _ _ D.l1z D.l1TO D.l1i1 D.l1i2 ho),r⟩
   · obtain ⟨o,ho,r⟩:=hl2;exact ⟨o,up _ _ D.l2z (hk₅ _ _ D.l2z D.l2TO D.l2i1 D.l2i2 ho),r⟩
 · have free:∀ Q':Bool→Shared→Prop,(∀ h₁,IsZ h₁ z TI TO (rawInt T) true→Heap.SameBut z s.heap h₁→Q' false { s with heap:=h₁ })→wpAny (model prog w) A.in1 (Builtin.SmallTypes.ownedTupleIsFree (.ref z)) Q' (fun _ _=>False) s:=by
     intro Q' hQ'
     unfold Builtin.SmallTypes.ownedTupleIsFree
     refine wpAny_bind (wpAny_field hz rfl (x:=rawInt T) rfl ?_)
     show wpAny _ _ (loadIfAlive T >>= _) _ _ _
     refine wpAny_bind (kdx_alive hTa ?_)
     refine wpAny_bind (wpAny_field hz rfl (x:=.bool f1) rfl ?_)
     rcases f1 with _ | _
     ·
       rw [if_pos (by decide)]
       refine wpAny_bind (wpAny_setField_rec hz (by simp) fun h₁ hz₁ hs₁=>?_)
       exact wpAny_pure (hQ' h₁ hz₁ hs₁)
     ·
       rw [if_neg (by simp)]
       exact wpAny_pure (hQ' s.heap hz (Heap.SameBut.refl _ _))
   refine wpAny_bind (wpAny_mono (free (fun b s'=>b=false∧∃ h₁,s'={ s with heap:=h₁ }∧IsZ h₁ z TI TO (rawInt T) true∧Heap.SameBut z s.heap h₁) fun h₁ a b=>⟨rfl,h₁,rfl,a,b⟩) ?_ fun _ _ q=>q.elim)
   rintro b₀ s₁ yq2
   obtain ⟨rfl,h₁,rfl,hz₁,hs₁⟩:=yq2
   simp only [Bool.false_eq_true,if_false]
   rw [← Array.forIn_toList]
   simp only [List.forIn_cons,List.forIn_nil]
   refine wpAny_bind (wpAny_bind (wpAny_bind (wpAny_holding ?_)))
   show wpAny _ _ (Builtin.SmallTypes.nextOf (.ref i1) >>= _) _ _ _
   refine wpAny_bind (wpAny_nextOf_list_item (h1.extBut hs₁.extBut D.i1z) (hl1.extBut hs₁.extBut D.l1z) hx fun h₂ h1₂ hs₂=>wpAny_pure (wpAny_pure ?_))
   refine wpAny_bind (wpAny_bind (wpAny_holding ?_))
   show wpAny _ _ (Builtin.SmallTypes.nextOf (.ref i2) >>= _) _ _ _
   have h2₂:h₂.IsTupleIter i2 l2 k:=by
     obtain ⟨o,ho,r⟩:=h2
     exact ⟨o,hs₂.extBut _ _ D.i12.symm (hs₁.extBut _ _ D.i2z ho),r⟩
   have hl2₂:h₂.IsTuple l2 ys:=by
     obtain ⟨o,ho,r⟩:=hl2
     exact ⟨o,hs₂.extBut _ _ D.l2i1 (hs₁.extBut _ _ D.l2z ho),r⟩
   refine wpAny_bind (nextOf_tuple_item h2₂ hl2₂ hy fun h₃ h2₃ hs₃=>wpAny_pure (wpAny_pure (wpAny_pure ?_)))
   refine wpAny_bind (wpAny_newTuple ?_ (by rw [sizeLine_eq];show 2≤16777216;decide))
   have hsz:h₃.objs.size=s.heap.objs.size:=by rw [hs₃.1,hs₂.1,hs₁.1]
   have hk₃:∀ c o,c≠z→c≠TO→c≠i1→c≠i2→s.heap.get? c=some o→(h₃.push { cls:=.type "tuple",data:=.seq #[x,y] }).get? c=some o:=fun c o c1 c2 c3 c4 e=>
     Heap.get?_push_of_some _ (hs₃.extBut _ _ c4 (hs₂.extBut _ _ c3 (hs₁.extBut _ _ c1 e)))
   have hTO':IsPair (h₃.push { cls:=.type "tuple",data:=.seq #[x,y] }) TO a b:=Heap.get?_push_of_some _ (hs₃.extBut _ _ D.TOi2 (hs₂.extBut _ _ D.TOi1 (hs₁.extBut _ _ D.TOz hTO)))
   have hz':IsZ (h₃.push { cls:=.type "tuple",data:=.seq #[x,y] }) z TI TO (rawInt T) true:=Heap.get?_push_of_some _ (hs₃.extBut _ _ D.i2z.symm (hs₂.extBut _ _ D.i1z.symm hz₁))
   have hT':IsPair (h₃.push { cls:=.type "tuple",data:=.seq #[x,y] }) h₃.objs.size x y:=Heap.get?_push_size _ rfl
   refine wpAny_pure ⟨_,rfl,wpAny_pure ?_⟩
   show Q (some (.ref h₃.objs.size)) _
   rw [hsz] at hT' ⊢
   refine hQ _ ⟨⟨_,_,hz',.inr ⟨T,oT,rfl,hk₃ _ _ t1 t2 t3 t4 hTa,t1,t2,t3,t4⟩⟩,hk₃ _ _ D.TIz D.TITO D.TIi1 D.TIi2 hTI,⟨_,_,hTO'⟩,?_,?_,?_,?_⟩ hT' hk₃
   · obtain ⟨o,ho,r⟩:=h1₂;exact ⟨o,Heap.get?_push_of_some _ (hs₃.extBut _ _ D.i12 ho),r⟩
   · obtain ⟨o,ho,r⟩:=h2₃;exact ⟨o,Heap.get?_push_of_some _ ho,r⟩
   · obtain ⟨o,ho,r⟩:=hl1;exact ⟨o,hk₃ _ _ D.l1z D.l1TO D.l1i1 D.l1i2 ho,r⟩
   · obtain ⟨o,ho,r⟩:=hl2;exact ⟨o,hk₃ _ _ D.l2z D.l2TO D.l2i1 D.l2i2 ho,r⟩
theorem zs_end {z TI TO i1 i2 l1 l2:Addr}{k:Nat}{xs ys:Array Value}{Q:Option Value→Shared→Prop}(hh:A.handled=none) (D:ZipApart z TI TO i1 i2 l1 l2)
   (Z:ZSt s.heap z TI TO i1 i2 l1 l2 xs ys k) (h0:k≠0) (hx:xs[k]? = none)
   (hQ:∀ h',(∀ c o,c≠z→c≠TO→c≠i1→c≠i2→s.heap.get? c=some o→h'.get? c=some o)→Q none { s with heap:=h' }) :
   wpAny (model prog w) A (pyNext (.ref z)) Q E s:=by
 obtain ⟨⟨f0,f1,hz,hf⟩,hTI,⟨a,b,hTO⟩,h1,h2,hl1,hl2⟩:=Z
 have hT:s.TypeIs (.ref z) "zip":=⟨_,hz,rfl⟩
 obtain ⟨T,oT,rfl,hTa,t1,t2,t3,t4⟩:=hf.resolve_left fun q=>h0 q.1
 unfold pyNext
 refine wpAny_bind (wpAny_attempt (wpAny_callSpecial?_slot (name:=Str.ofString "__next__") hT F.slot_zip_next
   (wpAny_call_entry F.slot_zip_next hT F.entry_zip_next ?_ (F.args_zip_next_1 _))))
 show wpAny _ _ (field (.ref z) 2 >>= _) _ _ _
 refine wpAny_bind (wpAny_field hz rfl (x:=.bool false) rfl ?_)
 show wpAny _ _ (field (.ref z) 3 >>= _) _ _ _
 refine wpAny_bind (wpAny_field hz rfl (x:=.ref TI) rfl ?_)
 refine wpAny_bind (wpAny_seqItems hTI rfl ?_)
 show wpAny _ _ (Builtin.SmallTypes.ownedTupleIsFree (.ref z) >>= _) _ _ _
 have free:∀ Q':Bool→Shared→Prop,(∀ h₁,IsZ h₁ z TI TO (rawInt T) true→Heap.SameBut z s.heap h₁→Q' false { s with heap:=h₁ })→wpAny (model prog w) A.in1 (Builtin.SmallTypes.ownedTupleIsFree (.ref z)) Q' (fun _ _=>False) s:=by
   intro Q' hQ'
   unfold Builtin.SmallTypes.ownedTupleIsFree
   refine wpAny_bind (wpAny_field hz rfl (x:=rawInt T) rfl ?_)
   show wpAny _ _ (loadIfAlive T >>= _) _ _ _
   refine wpAny_bind (kdx_alive hTa ?_)
   refine wpAny_bind (wpAny_field hz rfl (x:=.bool f1) rfl ?_)
   rcases f1 with _ | _
   ·
     rw [if_pos (by decide)]
     refine wpAny_bind (wpAny_setField_rec hz (by simp) fun h₁ hz₁ hs₁=>?_)
     exact wpAny_pure (hQ' h₁ hz₁ hs₁)
   ·
     rw [if_neg (by simp)]
     exact wpAny_pure (hQ' s.heap hz (Heap.SameBut.refl _ _))
 refine wpAny_bind (wpAny_mono (free (fun b s'=>b=false∧∃ h₁,s'={ s with heap:=h₁ }∧IsZ h₁ z TI TO (rawInt T) true∧Heap.SameBut z s.heap h₁) fun h₁ a b=>⟨rfl,h₁,rfl,a,b⟩) ?_ fun _ _ q=>q.elim)
 rintro b₀ s₁ yq2
 obtain ⟨rfl,h₁,rfl,hz₁,hs₁⟩:=yq2
 simp only [Bool.false_eq_true,if_false]
 rw [← Array.forIn_toList]
 simp only [List.forIn_cons,List.forIn_nil]
 refine wpAny_bind (wpAny_bind (wpAny_bind (wpAny_holding ?_)))
 show wpAny _ _ (Builtin.SmallTypes.nextOf (.ref i1) >>= _) _ _ _
 refine wpAny_bind (wpAny_nextOf_list_end hh (h1.extBut hs₁.extBut D.i1z) (hl1.extBut hs₁.extBut D.l1z) hx fun h₂ e hs₂ he=>?_)
 obtain ⟨o,ho,hc⟩:=he
 refine wpAny_bind (wpAny_isInstance (T:="StopIteration") (b:=true) ⟨o,ho,hc⟩ isSubtype_stop ?_)
 exact wpAny_pure (hQ _ fun c o c1 _ c3 _ x=>hs₂ _ _ c3 (hs₁.extBut _ _ c1 x))
theorem meets_zip_new' (l1 l2:Addr) (xs ys:Array Value) :
   Meets (Builtin.«zip.__new__» ⟨[.type "zip",.ref l1,.ref l2],[]⟩) (fun _ R s=>s.heap.IsList l1 xs∧s.heap.IsTuple l2 ys ∧
     R (.ok (.ret (.ref (s.heap.objs.size+4)))) { s with heap:=((((s.heap.push { cls:=.type "list_iterator",data:=.fields #[.ref l1,.int 0 0] }).push { cls:=.type "tuple_iterator",data:=.fields #[.ref l2,.int 0 0] }).push
       { cls:=.type "tuple",data:=.seq #[.ref s.heap.objs.size,.ref (s.heap.objs.size+1)] }).push { cls:=.type "tuple",data:=.seq #[.none,.none] }).push { cls:=.type "zip",data:=.fields #[.none,.bool false,.bool false,.ref (s.heap.objs.size+2),.ref (s.heap.objs.size+3)] } }):=
 .of_wp fun prog w A R s h=>by
   obtain ⟨hp,g,d,tk,os⟩:=s;obtain ⟨hl1,hl2,h⟩:=h
   have hsub:=sub_zip
   have hL1:Heap.IsList (Shared.heap ⟨hp,g,d,tk,os⟩) l1 xs:=hl1
   have hL2:Heap.IsTuple (Shared.heap ⟨hp.push { cls:=.type "list_iterator",data:=.fields #[.ref l1,.int 0 0] },g,d,tk,os⟩) l2 ys:=by
     obtain ⟨o,ho,r⟩:=hl2;exact ⟨o,Heap.get?_push_of_some _ ho,r⟩
   wp_walk using wpAny_pyIter_list hL1,wpAny_pyIter_tuple hL2
   refine ⟨_,rfl,?_⟩
   simp only [Heap.size_push] at h ⊢
   exact h
theorem call_zip_lt {l1 l2:Addr}{xs ys:Array Value}{Q:Value→Shared→Prop}(hl1:s.heap.IsList l1 xs) (hl2:s.heap.IsTuple l2 ys)
   (h:Q (.ref (s.heap.objs.size+4)) { s with heap:=((((s.heap.push { cls:=.type "list_iterator",data:=.fields #[.ref l1,.int 0 0] }).push { cls:=.type "tuple_iterator",data:=.fields #[.ref l2,.int 0 0] }).push
       { cls:=.type "tuple",data:=.seq #[.ref s.heap.objs.size,.ref (s.heap.objs.size+1)] }).push { cls:=.type "tuple",data:=.seq #[.none,.none] }).push { cls:=.type "zip",data:=.fields #[.none,.bool false,.bool false,.ref (s.heap.objs.size+2),.ref (s.heap.objs.size+3)] } }) :
   wpAny (model prog w) A (call (.type "zip") [.ref l1,.ref l2]) Q E s:=by
 refine callType_new F.called_zip (by decide) (F.typeCall_zip_2 _ _) (F.newCall_zip_2 _ _) (fun obj=>F.args_object_init_3 obj _ _) F.entry_zip_new
   (meets_zip_new' l1 l2 xs ys) ⟨hl1,hl2,?_⟩
 have:s.heap.objs.size+4=((((s.heap.push { cls:=.type "list_iterator",data:=.fields #[.ref l1,.int 0 0] }).push { cls:=.type "tuple_iterator",data:=.fields #[.ref l2,.int 0 0] }).push
       { cls:=.type "tuple",data:=.seq #[.ref s.heap.objs.size,.ref (s.heap.objs.size+1)] }).push { cls:=.type "tuple",data:=.seq #[.none,.none] }).objs.size:=by simp only [Heap.size_push]
 exact ⟨⟨_,Heap.get?_push_at this rfl,rfl⟩,h⟩
end
end PySem
end
section
set_option maxHeartbeats 2000000
namespace PySem
open Sem (wp)
open PySem.W PyProof.Rows
namespace F
theorem du_entry_loop:entryFor table "dict.update.loop" = some Builtin.«dict.update.loop»:=entryFor_of_tree (by kernel_rfl)
theorem du_plain_loop:plainId "dict.update.loop" = true:=by decide +kernel
end F
section
variable {prog:Program}{w:World}{A:Around}{E:Value→Shared→Prop}{K:Type} [DecidableEq K] {knd:KeyKind prog w K}
theorem du_loop {R:Result→Shared→Prop}{z TI TO i1 i2 l1 l2 d:Addr}{xs ys:Array Value}{kvs:List (K × Value)}(hh:A.handled=none) (D:ZipApart z TI TO i1 i2 l1 l2)
   (hd:d≠z∧d≠TI∧d≠TO∧d≠i1∧d≠i2∧d≠l1∧d≠l2) (hk:∀ (k:Nat) (p:K × Value),kvs[k]? = some p→∃ key,xs[k]? = some key∧knd.is p.1 key=true∧ys[k]? = some p.2) (hn:xs.size=kvs.length) (h0:kvs≠[]) (hz:kvs.length≤1000) :
   ∀ (j k:Nat) (i:Int) (t:Tok) (s:Shared),kvs.length - k=j→k≤kvs.length→ZSt s.heap z TI TO i1 i2 l1 l2 xs ys k→s.heap.DictOf knd d (merged [] (kvs.take k)) →
     (∀ h' tk,h'.DictOf knd d (merged [] kvs)→(∀ c o,c≠z→c≠TO→c≠i1→c≠i2→c≠d→s.heap.get? c=some o→h'.get? c=some o)→R (.ok (.ret .none)) { s with heap:=h',toks:=tk }) →
     codeAny (model prog w) A (.builtin "dict.update.loop" ⟨[.ref d,.ref z,.int i t,.none],[]⟩) R s:=by
 intro j
 induction j with
 | zero=>
   intro k i t s hj hle Z hm hR
   have hkn:k=kvs.length:=Mine.le_sub0 hj hle
   subst hkn
   refine codeAny_builtin F.du_entry_loop ?_
   rw [Around.under_plainId F.du_plain_loop _]
   show wpAny _ A.in1 (pyNext (.ref z) >>= _) _ _ s
   have hne:kvs.length≠0:=fun q=>h0 (List.eq_nil_of_length_eq_zero q)
   refine wpAny_bind (zs_end hh D Z hne (by rw [← hn];simp) fun h' hk'=>?_)
   rw [List.take_length] at hm
   show wpAny _ _ (Builtin.Dict.addKeywords d [] >>= fun _=>ret .none) _ _ _
   refine wpAny_bind (wpAny_pure (wpAny_pure ?_))
   obtain ⟨o,es,ep,ho,r⟩:=hm
   exact hR h' s.toks ⟨o,es,ep,hk' _ _ hd.1 hd.2.2.1 hd.2.2.2.1 hd.2.2.2.2.1 ho,r⟩ fun c o c1 c2 c3 c4 _ e=>hk' c o c1 c2 c3 c4 e
 | succ j ih=>
   intro k i t s hj hle Z hm hR
   have hlt:k<kvs.length:=Mine.lt_sub hj
   obtain ⟨p,hp⟩:∃ p,kvs[k]? = some p:=⟨_,List.getElem?_eq_getElem hlt⟩
   obtain ⟨key,hx,hkey,hy⟩:=hk k p hp
   refine codeAny_builtin F.du_entry_loop ?_
   rw [Around.under_plainId F.du_plain_loop _]
   show wpAny _ A.in1 (pyNext (.ref z) >>= _) _ _ s
   refine wpAny_bind (zs_item D Z hx hy fun h' Z' hT hk'=>?_)
   have hzlt:∀ c o,s.heap.get? c=some o→c≠s.heap.objs.size:=fun c o e=>Nat.ne_of_lt (Heap.lt_size e)
   have hm':h'.DictOf knd d (merged [] (kvs.take k)):=by
     obtain ⟨o,es,ep,ho,r⟩:=hm
     exact ⟨o,es,ep,hk' _ _ hd.1 hd.2.2.1 hd.2.2.2.1 hd.2.2.2.2.1 ho,r⟩
   refine wpAny_bind (wpAny_holding ?_)
   unfold Builtin.Dict.pairItems
   refine wpAny_bind (wpAny_tryCatch (wpAny_bind (wpAny_typeOf (T:="tuple") ⟨_,hT,rfl⟩ ?_)))
   rw [if_pos (by decide)]
   refine wpAny_bind (wpAny_seqItems hT rfl (wpAny_pure ?_))
   show wpAny _ _ (holding [key,p.2] (dictSet d key p.2)) _ _ _
   have hlen:(merged [] (kvs.take k)).length≤sizeLine:=by
     have:=merged_length_le ([]:List (K × Value)) (kvs.take k)
     rw [List.length_take] at this
     rw [sizeLine_eq];simp at this;exact Nat.le_trans this (Nat.le_trans (Nat.min_le_right _ _) (Nat.le_trans (by assumption) (by decide)))
   refine wpAny_holding (wpAny_dictSet_pairs (hsz:=hlen) hkey hm' fun h₂ hm₂ hs₂=>?_)
   have hds:d<s.heap.objs.size:=by obtain ⟨_,_,_,ho,_⟩:=hm;exact Heap.lt_size ho
   have Z₂:ZSt h₂ z TI TO i1 i2 l1 l2 xs ys (k+1):=by
     obtain ⟨⟨f0,f1,a1,a2⟩,a3,⟨a,b,a4⟩,a5,a6,a7,a8⟩:=Z'
     have sb:∀ c o,c≠d→h'.get? c=some o→h₂.get? c=some o:=fun c o hc e=>(hs₂.2 c hc).trans e
     have hfin:(k+1=0∧f0=.none)∨∃ (T:Addr) (o:Obj),f0=rawInt (T:Int)∧h₂.get? T=some o∧T≠z∧T≠TO∧T≠i1∧T≠i2:=by
       rcases a2 with a2 | ⟨T,o,e1,e2,e3,e4,e5,e6⟩
       · exact .inl a2
       · by_cases q:T=d
         · subst q
           obtain ⟨o',es,ep,ho',_⟩:=hm₂
           exact .inr ⟨T,o',e1,ho',e3,e4,e5,e6⟩
         · exact .inr ⟨T,o,e1,sb _ _ q e2,e3,e4,e5,e6⟩
     refine ⟨⟨f0,f1,sb _ _ hd.1.symm a1,hfin⟩,sb _ _ hd.2.1.symm a3,⟨a,b,sb _ _ hd.2.2.1.symm a4⟩,?_,?_,?_,?_⟩
     · obtain ⟨o,ho,r⟩:=a5;exact ⟨o,sb _ _ hd.2.2.2.1.symm ho,r⟩
     · obtain ⟨o,ho,r⟩:=a6;exact ⟨o,sb _ _ hd.2.2.2.2.1.symm ho,r⟩
     · obtain ⟨o,ho,r⟩:=a7;exact ⟨o,sb _ _ hd.2.2.2.2.2.1.symm ho,r⟩
     · obtain ⟨o,ho,r⟩:=a8;exact ⟨o,sb _ _ hd.2.2.2.2.2.2.symm ho,r⟩
   have htk:merged [] (kvs.take (k+1))=stored (merged [] (kvs.take k)) p.1 p.2:=merged_take_succ [] kvs k p hp
   refine wpAny_pure ⟨plainId_quiet F.du_plain_loop _,ih (k+1) (i+1) 0 _ (Mine.sub_step hj) hlt Z₂ (by rw [htk];exact hm₂) fun h₃ tk hd₃ hk₃=>?_⟩
   refine hR h₃ tk hd₃ fun c o c1 c2 c3 c4 c5 e=>hk₃ c o c1 c2 c3 c4 c5 ((hs₂.2 c c5).trans (hk' c o c1 c2 c3 c4 e))
theorem call_dict_zip {s:Shared}{z TI TO i1 i2 l1 l2:Addr}{xs ys:Array Value}{kvs:List (K × Value)}{Q:Value→Shared→Prop}(hh:A.handled=none) (D:ZipApart z TI TO i1 i2 l1 l2)
   (hk:∀ (k:Nat) (p:K × Value),kvs[k]? = some p→∃ key,xs[k]? = some key∧knd.is p.1 key=true∧ys[k]? = some p.2) (hn:xs.size=kvs.length) (h0:kvs≠[]) (hz:kvs.length≤1000)
   (Z:ZSt s.heap z TI TO i1 i2 l1 l2 xs ys 0) (hfr:IsZip s.heap z TI TO .none)
   (h:∀ h' tk,h'.DictOf knd s.heap.objs.size (merged [] kvs)→(∀ c o,c≠z→c≠TO→c≠i1→c≠i2→s.heap.get? c=some o→h'.get? c=some o)→Q (.ref s.heap.objs.size) { s with heap:=h',toks:=tk }) :
   wpAny (model prog w) A (call (.type "dict") [.ref z]) Q E s:=by
 refine callType_codes (Q₁:=fun obj s₁=>obj=.ref s.heap.objs.size∧s₁={ s with heap:=s.heap.push { cls:=.type "dict",data:=.dict #[] } }) F.kt_called_dict (F.kt_typeCall_dict_1 _) F.entry_dict_init (kt_code_dict_new _ ⟨rfl,rfl⟩) ?_
 rintro obj s₁ yq2
 obtain ⟨rfl,rfl⟩:=yq2
 have hnew:(s.heap.push { cls:=.type "dict",data:=.dict #[] }).DictOf knd s.heap.objs.size []:=Heap.DictOf.new s.heap
 refine ⟨hnew.typeIs,F.args_dict_init_2 _ _,?_⟩
 have up:∀ c o,s.heap.get? c=some o→(s.heap.push { cls:=.type "dict",data:=.dict #[] }).get? c=some o:=fun c o e=>Heap.get?_push_of_some _ e
 have ne:∀ c o,s.heap.get? c=some o→s.heap.objs.size≠c:=fun c o e=>Nat.ne_of_gt (Heap.lt_size e)
 unfold Builtin.«dict.__init__»
 refine wpAny_bind ?_
 unfold Builtin.Dict.selfAndRest
 refine wpAny_bind (wpAny_notOrdered_dict hnew.typeIs ?_)
 show wpAny _ _ (pure (s.heap.objs.size,[Value.ref z])) _ _ _
 refine wpAny_pure ?_
 show wpAny _ _ (Builtin.Dict.updateFrom "dict.__init__" s.heap.objs.size (.ref z) [] .none) _ _ _
 unfold Builtin.Dict.updateFrom
 refine wpAny_bind (wpAny_typeOf (T:="zip") ⟨_,up _ _ hfr,rfl⟩ ?_)
 rw [if_pos (by decide)]
 refine wpAny_bind (getAttr?_miss_zip (up _ _ hfr) hh fun h' tk hk'=>?_)
 rw [if_pos (by decide)]
 refine wpAny_bind (wpAny_rule (wpAny_bind (wpAny_pyIter_zip (hk' _ _ (up _ _ hfr)) ?_)))
 have k2:∀ c o,s.heap.get? c=some o→h'.get? c=some o:=fun c o e=>hk' _ _ (up _ _ e)
 obtain ⟨⟨f0,f1,a1,a2⟩,a3,⟨a,b,a4⟩,a5,a6,a7,a8⟩:=Z
 have hzz:∀ T:Addr,f0=rawInt T→False:=fun T q=>by
   have:=a1.symm.trans hfr
   subst q
   simp [rawInt] at this
 have Z':ZSt h' z TI TO i1 i2 l1 l2 xs ys 0:=by
   refine ⟨⟨f0,f1,k2 _ _ a1,?_⟩,k2 _ _ a3,⟨a,b,k2 _ _ a4⟩,?_,?_,?_,?_⟩
   · rcases a2 with a2 | ⟨T,o,e1,_⟩
     · exact .inl a2
     · exact (hzz T e1).elim
   · obtain ⟨o,ho,r⟩:=a5;exact ⟨o,k2 _ _ ho,r⟩
   · obtain ⟨o,ho,r⟩:=a6;exact ⟨o,k2 _ _ ho,r⟩
   · obtain ⟨o,ho,r⟩:=a7;exact ⟨o,k2 _ _ ho,r⟩
   · obtain ⟨o,ho,r⟩:=a8;exact ⟨o,k2 _ _ ho,r⟩
 have hd':h'.DictOf knd s.heap.objs.size (merged [] (kvs.take 0)):=by
   obtain ⟨o,es,ep,ho,r⟩:=hnew
   exact ⟨o,es,ep,hk' _ _ ho,r⟩
 refine wpAny_pure ⟨plainId_quiet F.du_plain_loop _,du_loop (A:=A.in1) (knd:=knd) (kvs:=kvs) hh D ⟨ne _ _ a1,ne _ _ a3,ne _ _ a4,?_,?_,?_,?_⟩ hk hn h0 hz _ 0 0 0 ⟨h',s.gens,s.drawn,tk,s.os⟩ rfl (Nat.zero_le _) Z' hd' fun h₃ tk₃ hd₃ hk₃=>?_⟩
 · obtain ⟨o,ho,r⟩:=a5;exact ne _ _ ho
 · obtain ⟨o,ho,r⟩:=a6;exact ne _ _ ho
 · obtain ⟨o,ho,r⟩:=a7;exact ne _ _ ho
 · obtain ⟨o,ho,r⟩:=a8;exact ne _ _ ho
 · exact ⟨rfl,h h₃ tk₃ hd₃ fun c o c1 c2 c3 c4 e=>hk₃ c o c1 c2 c3 c4 (ne _ _ e).symm (k2 _ _ e)⟩
end
end PySem
end
section
open PySem PySem.W PyProof.Rows PySem.Calls
set_option maxHeartbeats 2000000
namespace Mine
noncomputable abbrev liObj (l:Addr):Obj:={ cls:=.type "list_iterator",data:=.fields #[.ref l,.int 0 0] }
noncomputable abbrev tiObj (l:Addr):Obj:={ cls:=.type "tuple_iterator",data:=.fields #[.ref l,.int 0 0] }
noncomputable abbrev tpObj (xs:Array Value):Obj:={ cls:=.type "tuple",data:=.seq xs }
noncomputable abbrev zpObj (TI TO:Addr):Obj:={ cls:=.type "zip",data:=.fields #[.none,.bool false,.bool false,.ref TI,.ref TO] }
structure ZipH (H:HP) (z TI TO i1 i2 l t:Addr):Prop where
 hz:H.o z=some (.obj (zpObj TI TO))
 hTI:H.o TI=some (.obj (tpObj #[.ref i1,.ref i2]))
 hTO:H.o TO=some (.obj (tpObj #[.none,.none]))
 h1:H.o i1=some (.obj (liObj l))
 h2:H.o i2=some (.obj (tiObj t))
 d1:TI≠z∧TO≠z∧i1≠z∧i2≠z∧TI≠TO∧TI≠i1∧TI≠i2∧TO≠i1∧TO≠i2∧i1≠i2
theorem HP.put_none {H:HP}{a b:Addr}{c:CO}(f:(H.put a c).o b=none):H.o b=none:=by
 unfold HP.put at f;dsimp only at f;split at f
 · exact no_sn f
 · exact f
section
variable {G:Glb}{S:Sit}{X:KV}{m:Names}{H:HP}{K:KV}
theorem f_zip {l t:Addr}{xs:Array Value}{n:Nat}{ys:List Value}(hl:G.K.lookup l=some ⟨.type "list",none,.seq xs n,#[]⟩) (ht:H.o t=some (.tup ys))
   (k:∀ H₁ z TI TO i1 i2,Sub H H₁→ZipH H₁ z TI TO i1 i2 l t→(H.o z=none∧H.o TI=none∧H.o TO=none∧H.o i1=none∧H.o i2=none)→K (.ref z) m H₁):CalC G S (.type "zip") [.ref l,.ref t] [] K X m H:=cal2 isT fun r q e1 e2 s mm M R=>by
 obtain rfl:=er_ref' e1
 obtain rfl:=er_ref' e2
 refine xe12 (relTup R ht) fun rvs ht' e=>?_
 have hl':=G.X.keeps R.base _ _ hl
 refine call_zip_lt (xs:=xs) ⟨_,hl',rfl,n,rfl⟩ ht' ?_
 have R1:=R.push (.head _) (o:=liObj l) (co:=.obj (liObj l)) ⟨rfl,rfl⟩
 have f1:=R1.fresh
 have R2:=R1.push (.head _) (o:=tiObj t) (co:=.obj (tiObj t)) ⟨rfl,rfl⟩
 have f2:=R2.fresh
 have R3:=R2.push (.head _) (o:=tpObj #[.ref s.heap.objs.size,.ref (s.heap.objs.size+1)]) (co:=.obj (tpObj #[.ref s.heap.objs.size,.ref (s.heap.objs.size+1)])) ⟨rfl,rfl⟩
 have f3:=R3.fresh
 have R4:=R3.push (.head _) (o:=tpObj #[.none,.none]) (co:=.obj (tpObj #[.none,.none])) ⟨rfl,rfl⟩
 have f4:=R4.fresh
 have R5:=R4.push (.head _) (o:=zpObj (s.heap.objs.size+2) (s.heap.objs.size+3)) (co:=.obj (zpObj (s.heap.objs.size+2) (s.heap.objs.size+3))) ⟨rfl,rfl⟩
 simp only [Heap.size_push] at R5 f1 f2 f3 f4
 have f0:=R.fresh
 have nn:∀ i j:Nat,i≠j→(s.heap.objs.size+i:Nat)≠s.heap.objs.size+j:=by simp
 have g1:H.o (s.heap.objs.size+1)=none:=HP.put_none f1
 have g2:H.o (s.heap.objs.size+1+1)=none:=HP.put_none (HP.put_none f2)
 have g3:H.o (s.heap.objs.size+1+1+1)=none:=HP.put_none (HP.put_none (HP.put_none f3))
 have g4:H.o (s.heap.objs.size+1+1+1+1)=none:=HP.put_none (HP.put_none (HP.put_none (HP.put_none f4)))
 refine ⟨m,_,mm,M,R5,k _ (s.heap.objs.size+4) (s.heap.objs.size+2) (s.heap.objs.size+3) s.heap.objs.size (s.heap.objs.size+1) (Sub.trans (Sub.put f0) (Sub.trans (Sub.put f1) (Sub.trans (Sub.put f2) (Sub.trans (Sub.put f3) (Sub.put f4))))) ⟨HP.put_same,?_,?_,?_,?_,nn 2 4 (by decide),nn 3 4 (by decide),nn 0 4 (by decide),nn 1 4 (by decide),nn 2 3 (by decide),nn 2 0 (by decide),nn 2 1 (by decide),nn 3 0 (by decide),nn 3 1 (by decide),nn 0 1 (by decide)⟩ ⟨g4,g2,g3,f0,g1⟩⟩
 · exact HP.put_ne (nn 2 4 (by decide)) (HP.put_ne (nn 2 3 (by decide)) HP.put_same)
 · exact HP.put_ne (nn 3 4 (by decide)) HP.put_same
 · exact HP.put_ne (nn 0 4 (by decide)) (HP.put_ne (nn 0 3 (by decide)) (HP.put_ne (nn 0 2 (by decide)) (HP.put_ne (nn 0 1 (by decide)) HP.put_same)))
 · exact HP.put_ne (nn 1 4 (by decide)) (HP.put_ne (nn 1 3 (by decide)) (HP.put_ne (nn 1 2 (by decide)) HP.put_same))
theorem f_dict_zip {H₀:HP}{z TI TO i1 i2 l t:Addr}{xs:Array Value}{n:Nat}{ys:List Value}{ks:List Str}(hh:S.A.handled=none) (Z:ZipH H z TI TO i1 i2 l t) (hs:Sub H₀ H) (hf:H₀.o z=none∧H₀.o TI=none∧H₀.o TO=none∧H₀.o i1=none∧H₀.o i2=none)
   (hl:G.K.lookup l=some ⟨.type "list",none,.seq xs n,#[]⟩) (hx:xs.toList.map er=strL ks) (ht:H₀.o t=some (.tup ys)) (hn:ks.length=ys.length) (hz:0<ks.length∧ks.length≤1000) (hnd:ks.Nodup)
   (k:∀ a ep,H₀.o a=none→K (.ref a) m (H₀.put a (.ds ep (ks.zip ys)))):CalC G S (.type "dict") [.ref z] [] K X m H:=cal1 isT fun r e s mm M R=>by
 obtain rfl:=er_ref' e
 have hl':=G.X.keeps R.base _ _ hl
 have gt:=fun (a:Addr) (o:Obj) (h:H.o a=some (.obj o))=>(show s.heap.get? a=some o from by obtain ⟨o',ho,rfl,_⟩:=R.get h;exact ho)
 refine xe12 (relTup R (hs.2 _ _ ht)) fun rvs ht' ert=>?_
 have hlb:∀ a c,H.o a=some c→l≠a:=fun a c h q=>by
   have h1:=R.own_base h
   rw [← q,G.X _ _ hl] at h1;exact no_sn h1
 have htn:∀ a,H₀.o a=none→t≠a:=fun a h q=>by rw [q,h] at ht;exact no_ns ht
 obtain ⟨d1,d2,d3,d4,d5,d6,d7,d8,d9,d10⟩:=Z.d1
 refine xe05 hf fun q1 q2 q3 q4 q5=>?_
 have D:ZipApart z TI TO i1 i2 l t:=⟨d1,d2,d3,d4,d5,d6,d7,d8,d9,d10,hlb _ _ Z.hz,hlb _ _ Z.hTO,hlb _ _ Z.h1,hlb _ _ Z.h2,htn _ q1,htn _ q3,htn _ q4,htn _ q5⟩
 have hzz:=gt _ _ Z.hz
 have hxs:xs.size=ks.length:=by rw [← Array.length_toList,← List.length_map (f:=er),hx];simp [strL]
 have hys:rvs.size=ys.length:=by rw [← Array.length_toList,← List.length_map (f:=er),ert]
 have hlen:(ks.zip rvs.toList).length=ks.length:=by simp [List.length_zip,hys,hn]
 refine call_dict_zip (knd:=strKind G.prog G.w) (xs:=xs) (ys:=rvs) (kvs:=ks.zip rvs.toList) hh D (fun k p hp=>?_) (by rw [hlen,hxs]) (fun q=>by rw [q] at hlen;simp at hlen;lia) (by rw [hlen];exact hz.2)
   ⟨⟨.none,false,hzz,.inl ⟨rfl,rfl⟩⟩,gt _ _ Z.hTI,⟨.none,.none,gt _ _ Z.hTO⟩,⟨_,gt _ _ Z.h1,rfl,rfl⟩,⟨_,gt _ _ Z.h2,rfl,rfl⟩,⟨_,hl',rfl,n,rfl⟩,ht'⟩ hzz fun h' tk hd' hk'=>?_
 · rw [List.getElem?_zip_eq_some] at hp
   refine xe02 hp fun h1 h2=>?_
   have h3:(xs.toList.map er)[k]? = some (.str p.1 0):=by rw [hx,strL,List.getElem?_map,h1];rfl
   rw [List.getElem?_map] at h3
   refine xe12 (Option.map_eq_some_iff.mp h3) fun key hk1 hk2=>?_
   refine xe11 (er_str' hk2) fun u zq1=>?_
   obtain rfl:=zq1
   exact ⟨_,by rw [← Array.getElem?_toList];exact hk1,str_is,by rw [← Array.getElem?_toList];exact h2⟩
 · refine xe22 (dictR_of hd') fun ep o ho hr=>?_
   rw [merged_nil_of_nodup _ (by rw [List.map_fst_zip (by rw [hn,← hys];simp)];exact hnd)] at hr
   have hz:(ks.zip rvs.toList).map (fun p=>(p.1,er p.2))=ks.zip ys:=by
     rw [← ert];exact (zip_er ks rvs.toList)
   rw [hz] at hr
   have hb:=R.big (.head _)
   have R₀:=R.sub hs
   have keepO:∀ b c,H₀.o b=some c→b≠z∧b≠TO∧b≠i1∧b≠i2:=fun b c h=>⟨(HP.fne q1 h).symm,(HP.fne q3 h).symm,(HP.fne q4 h).symm,(HP.fne q5 h).symm⟩
   have offB:∀ {a:Addr}{c:CO},H.o a=some c→∀ b o,G.base.get? b=some o→b≠a:=fun h b o e q=>by rw [q,R.own_base h] at e;exact no_ns e
   have offS:∀ {a:Addr}{c:CO},H.o a=some c→∀ b∈((S.L,mm)::S.sv).map (·.1),b≠a:=fun h b hb q=>(R.own _ _ h).2 (q▸hb)
   have offP:∀ {a:Addr}{c:CO},H.o a=some c→∀ p∈S.pr,p.1≠a:=fun h p hp q=>by have:=(R.prot p hp).4;rw [q,h] at this;exact no_sn this
   have kb:∀ b o,b≠z→b≠TO→b≠i1→b≠i2→s.heap.get? b=some o→h'.get? b=some o:=hk'
   refine ⟨m,H₀.put s.heap.objs.size (.ds ep (ks.zip ys)),mm,M,?_,k _ ep R₀.fresh⟩
   refine ⟨fun b o e=>kb b o (offB Z.hz b o e) (offB Z.hTO b o e) (offB Z.h1 b o e) (offB Z.h2 b o e) (R.base b o e),frames_keeps R.frames fun b o e hm=>⟨o,?_,id⟩,R.fsv,fun p hp=>⟨ns_keeps (R.ns p hp).1 fun o e=>?_,(R.ns p hp).2⟩,R.nd,fun b c e=>?_,fun p hp=>?_,R.gens.trans hs.1.symm,(show AllBare H₀.g from hs.1▸R.bare),R.os⟩
   · have:=R.frame_mem hm
     exact kb b o (offS Z.hz b this) (offS Z.hTO b this) (offS Z.h1 b this) (offS Z.h2 b this) e
   · have:=List.mem_map_of_mem (f:=(·.1)) hp
     exact kb _ o (offS Z.hz _ this) (offS Z.hTO _ this) (offS Z.h1 _ this) (offS Z.h2 _ this) e
   · by_cases q:b=s.heap.objs.size
     · subst q
       rw [HP.put_same] at e;obtain rfl:=Option.some.inj e
       refine ⟨.of hb,fun hm=>?_,o,ho,hr⟩
       refine xe12 (List.mem_map.mp hm) fun p' hp' e'=>?_
       exact absurd (R.ns p' hp').1.lt (by rw [e'];exact Nat.lt_irrefl _)
     · rw [HP.put_ne q rfl] at e
       obtain ⟨a1,a2,o',a3,a4⟩:=R₀.own b c e
       refine xe04 (keepO b c e) fun b1 b2 b3 b4=>?_
       exact ⟨a1,a2,o',kb b o' b1 b2 b3 b4 a3,a4⟩
   · obtain ⟨a1,a2,a3,a4⟩:=R₀.prot p hp
     refine ⟨kb _ _ (offP Z.hz p hp) (offP Z.hTO p hp) (offP Z.h1 p hp) (offP Z.h2 p hp) a1,a2,a3,HP.put_ne (fun q=>?_) a4⟩
     exact absurd (Heap.lt_size (R.prot p hp).1) (by rw [q];exact Nat.lt_irrefl _)
end
end Mine
end
section
open PySem PySem.W PyProof.Rows PySem.Calls
set_option maxHeartbeats 2000000
namespace Mine
noncomputable def FlatV (v:Value):Prop:=(∃ i,v=.int i 0)∨∃ b,v=.bytes b 0
theorem eqBool_bytes {prog:Program}{w:World}{A:Around}{E:Value→Shared→Prop}{s:Shared}{b:Array UInt8}{t u:Tok}{Q:Bool→Shared→Prop}(h:Q true s):wpAny (model prog w) A (eqBool (.bytes b t) (.bytes b u)) Q E s:=by
 unfold eqBool
 show wpAny _ _ (if (Value.bytes b t==Value.bytes b u)=true then _ else _) Q E s
 by_cases hab:(Value.bytes b t==Value.bytes b u)=true
 · rw [if_pos hab];exact wpAny_bind (wpAny_rule (wpAny_pure h))
 · rw [if_neg hab]
   refine wpAny_bind ?_
   show wpAny _ _ (compareOp .Eq (.bytes b t) (.bytes b u)) _ _ _
   refine eq_bytes ?_
   have:(b.toList==b.toList)=true:=by simp -iota
   rw [this]
   exact wpAny_truthy_bool h
noncomputable def EqY (prog:Program) (w:World) (A:Around) (s:Shared) (v y:Value):Prop:=∀ (Q:Bool→Shared→Prop) (E:Value→Shared→Prop),Q true s→wpAny (model prog w) A (eqBool v y) Q E s
theorem eqY_flat {prog:Program}{w:World}{A:Around}{s:Shared}{v y:Value}(h:FlatV (er v)) (e:er v=er y):EqY prog w A s v y:=by
 intro Q E hq
 rcases h with ⟨i,h⟩ | ⟨b,h⟩
 · refine xe11 (er_int' h) fun t zq1=>?_
   obtain rfl:=zq1
   refine xe11 (er_int' (e.symm.trans h)) fun u zq1=>?_
   obtain rfl:=zq1
   exact wpAny_eqBool_int (by simpa -iota using hq)
 · refine xe11 (er_bytes' h) fun t zq1=>?_
   obtain rfl:=zq1
   refine xe11 (er_bytes' (e.symm.trans h)) fun u zq1=>?_
   obtain rfl:=zq1
   exact eqBool_bytes hq
section
variable {prog:Program}{w:World}{K:Type} [DecidableEq K] {knd:KeyKind prog w K}{A:Around}{E:Value→Shared→Prop}{s:Shared}{a b:Addr}{ka kb:List (K × Value)}
theorem samePairs_yes {nm:String}{Q:Bool→Shared→Prop}(ha:(a==sysModules)=false) (hb:(b==sysModules)=false) (da:s.heap.DictOf knd a ka) (db:s.heap.DictOf knd b kb)
   (hl:ka.length=kb.length) (hits:∀ p∈ka,∃ y,valueAt kb p.1=some y∧EqY prog w A s p.2 y) (h:Q true s):wpAny (model prog w) A (Builtin.Dict.samePairs nm a b) Q E s:=by
 have mb:=db.mapOf
 obtain ⟨oa,ea,pa,hoa,-,hda,hka,hpa,-⟩:=da
 obtain ⟨ob,eb,pb,hob,-,hdb,hkb,hpb,-⟩:=db
 have na:ea.size=ka.length:=by rw [← hpa.length,Array.length_toList]
 have nb:eb.size=kb.length:=by rw [← hpb.length,Array.length_toList]
 have fb:∀ k,findBy knd.is eb k=valueAt kb k:=by
   obtain ⟨o',es',ep',ho',-,hd',-,hf⟩:=mb
   rw [hob] at ho';cases ho'
   rw [hdb] at hd';cases hd'
   exact hf
 unfold Builtin.Dict.samePairs Builtin.Dict.showsAll
 rw [if_neg (by rw [ha];exact Bool.false_ne_true),if_neg (by rw [hb];exact Bool.false_ne_true)]
 refine wpAny_bind (wpAny_pure (wpAny_bind (wpAny_pure (wpAny_bind (wpAny_dictEntries hoa hda ?_)))))
 dsimp only
 refine wpAny_bind (wpAny_dictEntries hob hdb ?_)
 rw [if_neg (by rw [na,nb,hl];simp -iota)]
 refine wpAny_bind (wpAny_dictEpoch hoa hda (wpAny_bind ?_))
 rw [Std.Legacy.Range.forIn_eq_forIn_range']
 simp -iota only [Std.Legacy.Range.size,Nat.sub_zero,Nat.add_sub_cancel,Nat.div_one]
 refine wpAny_forIn_list _ (fun rest q s'=>s'=s∧q=(none,())∧∃ i,rest=List.range' i (ea.size - i)∧i≤ea.size) _ ?_ ?_ _ _ ⟨rfl,rfl,0,by simp -iota,Nat.zero_le _⟩
 · rintro x rest q s' yq4
   obtain ⟨rfl,rfl,i,hr,hi⟩:=yq4
   obtain ⟨j,hj⟩:∃ j,ea.size - i=j+1:=by
     rcases q:ea.size - i with _ | j
     · rw [q] at hr;simp -iota at hr
     · exact ⟨j,rfl⟩
   rw [hj,List.range'_succ] at hr
   injection hr with h1 h2
   subst h1
   have hlt:x<ea.size:=Nat.lt_of_sub_eq_succ hj
   refine wpAny_bind (wpAny_dictEntries hoa hda ?_)
   rw [Array.getElem?_eq_getElem hlt]
   have hlt':x<ka.length:=(by assumption:ea.size=ka.length)▸hlt
   refine xe02 (hpa.get? (i:=x) (e:=ea[x]) (k:=ka[x].1) (v:=ka[x].2) (by rw [Array.getElem?_toList,Array.getElem?_eq_getElem hlt]) (by rw [List.getElem?_eq_getElem hlt'])) fun hkey hval=>?_
   refine xe12 (hka ea[x] (Array.getElem_mem hlt)) fun k' hk' hh=>?_
   rw [knd.inj _ _ _ hk' hkey] at hh
   refine xe12 (hits ka[x] (List.getElem_mem hlt')) fun y hy hyq=>?_
   show wpAny _ _ (holding [ea[x].key,ea[x].val] _ >>= _) _ _ _
   rw [hh]
   refine wpAny_bind (wpAny_holding (wpAny_bind (wpAny_dictFind_of hkey hob hdb hkb ?_)))
   have hfy:=fb ka[x].1
   rw [hy,findBy_of_findIdx?] at hfy
   cases hj':eb.findIdx? fun e=>knd.is ka[x].1 e.key with
   | none=>rw [hj'] at hfy;exact no_ns hfy
   | some n=>
     have hn:n<eb.size:=(Array.findIdx?_eq_some_iff_getElem.mp hj').1
     rw [hj'] at hfy
     have ey:eb[n].val=y:=by simpa [Array.getElem?_eq_getElem hn] using hfy
     refine wpAny_bind (wpAny_dictEntries hob hdb ?_)
     rw [Array.getElem?_eq_getElem hn]
     refine wpAny_holding ?_
     rw [hval,ey]
     refine hyq _ _ ?_
     rw [if_neg (by decide)]
     refine wpAny_bind (wpAny_dictEpoch hoa hda ?_)
     rw [if_neg (by simp -iota)]
     exact wpAny_pure ⟨rfl,rfl,x+1,by rw [h2];rw [Nat.sub_add_eq,hj];exact rfl,hlt⟩
 · rintro q s' yq2
   obtain ⟨rfl,rfl,i,hr,hi⟩:=yq2
   exact wpAny_pure h
theorem dict_eq_yes {Q:Value→Shared→Prop}(ha:(a==sysModules)=false) (hb:(b==sysModules)=false) (da:s.heap.DictOf knd a ka) (db:s.heap.DictOf knd b kb)
   (hl:ka.length=kb.length) (hits:∀ p∈ka,∃ y,valueAt kb p.1=some y∧EqY prog w A.in1 s p.2 y) (hu:A.units<cLine) (h:Q (.bool true) s):wpAny (model prog w) A (compareOp .Eq (.ref a) (.ref b)) Q E s:=by
 refine wpAny_richCompare_same_room (op:=.Eq) da.typeIs db.typeIs PySem.F.slot_dict_eq (wpAny_call_entry PySem.F.slot_dict_eq da.typeIs PySem.F.entry_dict_eq ?_ (PySem.F.args_dict_eq_2 _ _)) hu
 show wpAny _ _ (Builtin.Dict.dictSlotArgs "__eq__" ⟨[.ref a,.ref b],[]⟩ >>= _) _ _ s
 refine wpAny_bind ?_
 unfold Builtin.Dict.dictSlotArgs
 refine wpAny_bind (wpAny_notOrdered_dict da.typeIs (wpAny_pure ?_))
 refine wpAny_bind (wpAny_isInstance (T:="dict") db.typeIs PySem.F.sub_dict_dict ?_)
 simp -iota only [Bool.not_true,Bool.false_eq_true,if_false]
 exact wpAny_bind (wpAny_pure (wpAny_bind (wpAny_pure (wpAny_bind (samePairs_yes ha hb da db hl hits (wpAny_pure ⟨_,rfl,(fun x=>nomatch x),h⟩))))))
theorem dict_ne_no {Q:Value→Shared→Prop}(ha:(a==sysModules)=false) (hb:(b==sysModules)=false) (da:s.heap.DictOf knd a ka) (db:s.heap.DictOf knd b kb)
   (hl:ka.length=kb.length) (hits:∀ p∈ka,∃ y,valueAt kb p.1=some y∧EqY prog w A.in1 s p.2 y) (hu:A.units<cLine) (h:Q (.bool false) s):wpAny (model prog w) A (compareOp .NotEq (.ref a) (.ref b)) Q E s:=by
 refine wpAny_richCompare_same_room (op:=.NotEq) da.typeIs db.typeIs PySem.F.slot_dict_ne (wpAny_call_entry PySem.F.slot_dict_ne da.typeIs PySem.F.entry_dict_ne ?_ (PySem.F.args_dict_ne_2 _ _)) hu
 show wpAny _ _ (Builtin.Dict.dictSlotArgs "__ne__" ⟨[.ref a,.ref b],[]⟩ >>= _) _ _ s
 refine wpAny_bind ?_
 unfold Builtin.Dict.dictSlotArgs
 refine wpAny_bind (wpAny_notOrdered_dict da.typeIs (wpAny_pure ?_))
 refine wpAny_bind (wpAny_isInstance (T:="dict") db.typeIs PySem.F.sub_dict_dict ?_)
 simp -iota only [Bool.not_true,Bool.false_eq_true,if_false]
 exact wpAny_bind (wpAny_pure (wpAny_bind (wpAny_pure (wpAny_bind (samePairs_yes ha hb da db hl hits (wpAny_pure ⟨_,rfl,(fun x=>nomatch x),h⟩))))))
end
theorem valueAt_mem {K:Type} [DecidableEq K] {kvs:List (K × Value)}(hn:(kvs.map (·.1)).Nodup) {p:K × Value}(h:p∈kvs):valueAt kvs p.1=some p.2:=by
 obtain ⟨i,hi,rfl⟩:=List.mem_iff_getElem.mp h
 exact valueAt_of_get (i:=i) hn (by rw [List.getElem?_eq_getElem hi])
section
variable {G:Glb}{S:Sit}{X:KV}{m:Names}{H:HP}{K:KV}
theorem eqY_ds {stk:List Env}{sv:Sv}{pr:Pr}{s:Shared}{A:Around}(R:RelC G stk sv pr H s) {a b:Addr}{e e':Nat}{kvs:List (Str × Value)}(ha:H.o a=some (.ds e kvs)) (hb:H.o b=some (.ds e' kvs)) (hf:∀ p∈kvs,FlatV p.2) (hu:A.units<cLine):EqY G.prog G.w A s (.ref a) (.ref b):=by
 refine xe12 (relDs R ha) fun ra ma ka=>?_
 refine xe12 (relDs R hb) fun rb mb kb=>?_
 intro Q E hq
 unfold eqBool
 refine wpAny_holding ?_
 by_cases hab:(Value.ref a==Value.ref b)=true
 · rw [if_pos hab];exact wpAny_bind (wpAny_rule (wpAny_pure hq))
 · rw [if_neg hab]
   refine wpAny_bind ?_
   show wpAny _ _ (compareOp .Eq (.ref a) (.ref b)) _ _ _
   have hl:ra.length=rb.length:=by rw [← List.length_map (f:=fun p:Str × Value=>(p.1,er p.2)),ka,← kb,List.length_map]
   refine dict_eq_yes (R.notMods ha) (R.notMods hb) ma.dictOf mb.dictOf hl (fun p hp=>?_) hu (wpAny_truthy_bool hq)
   have hpk:(p.1,er p.2)∈kvs:=by rw [← ka];exact List.mem_map_of_mem hp
   have h1:valueAt (rb.map fun p=>(p.1,er p.2)) p.1=some (er p.2):=by
     have hnd:((rb.map fun p:Str × Value=>(p.1,er p.2)).map (·.1)).Nodup:=by
       rw [List.map_map];exact mb.nodup
     exact valueAt_mem hnd (p:=(p.1,er p.2)) (by rw [kb];exact hpk)
   rw [← valueAt_er] at h1
   refine xe12 (Option.map_eq_some_iff.mp h1) fun y hy e1=>?_
   exact ⟨y,hy,eqY_flat (hf _ hpk) e1.symm⟩
theorem c_ne_di {a b:Addr}{e e':Nat}{ka kb:List (Int × Value)}(ha:H.o a=some (.di e ka)) (hb:H.o b=some (.di e' kb)) (hl:ka.length=kb.length) (hu:S.A.units<9000)
   (hv:∀ p∈ka,∃ r q e1 e2 kvs,p.2=.ref r∧valueAt kb p.1=some (.ref q)∧H.o r=some (.ds e1 kvs)∧H.o q=some (.ds e2 kvs)∧∀ p∈kvs,FlatV p.2) (k:K (.bool false) m H):CmpC G S .NotEq (.ref a) (.ref b) K X m H:=fun r₁ r₂ e1 e2 s mm M R=>by
 obtain rfl:=er_ref' e1
 obtain rfl:=er_ref' e2
 obtain ⟨ra,ma,hka⟩:=relDi R ha
 refine xe12 (relDi R hb) fun rb mb hkb=>?_
 have hll:ra.length=rb.length:=by rw [← List.length_map (f:=fun p:Int × Value=>(p.1,er p.2)),hka,hl,← hkb,List.length_map]
 have hcl:S.A.in1.units<cLine:=by show S.A.units+1<9900;exact Nat.lt_of_le_of_lt (by assumption) (by decide +kernel)
 refine dict_ne_no (R.notMods ha) (R.notMods hb) ma.dictOf mb.dictOf hll (fun p hp=>?_) (by show S.A.units<9900;exact Nat.le_of_lt (by assumption)) (eff0 M R k)
 refine xe55 (hv (p.1,er p.2) (by rw [← hka];exact List.mem_map_of_mem hp)) fun r q e1 e2 kvs h1 h2 h3 h4 h5=>?_
 have h1':=er_ref' h1
 rw [← hkb,← valueAt_er] at h2
 refine xe12 (Option.map_eq_some_iff.mp h2) fun y hy ey=>?_
 have ey':=er_ref' ey
 refine ⟨y,hy,?_⟩
 rw [h1',ey']
 exact eqY_ds R h3 h4 h5 hcl
end
end Mine
end
section
set_option maxHeartbeats 2000000
namespace PySem
open Sem (wp)
open PySem.W PyProof.Rows
theorem perm_map_lift {α β:Type}{f:α→β}:∀ {l l':List β},l.Perm l'→∀ m:List α,l=m.map f→∃ m',m.Perm m'∧l'=m'.map f:=by
 intro l l' h
 induction h with
 | nil=>intro m e;cases m with
   | nil=>exact ⟨[],.refl _,rfl⟩
   | cons=>cases e
 | cons x h ih=>intro m e;cases m with
   | nil=>cases e
   | cons a m=>
     rw [List.map_cons] at e;injection e with e1 e2
     obtain ⟨m',p,e3⟩:=ih m e2
     exact ⟨a::m',p.cons a,by rw [List.map_cons,← e1,e3]⟩
 | swap x y l=>intro m e;match m,e with
   | a::b::m,e=>
     simp only [List.map_cons,List.cons.injEq] at e
     obtain ⟨e1,e2,e3⟩:=e
     exact ⟨b::a::m,.swap b a m,by simp [e1,e2,e3]⟩
 | trans h1 h2 ih1 ih2=>
   intro m e
   obtain ⟨m1,p1,e1⟩:=ih1 m e
   obtain ⟨m2,p2,e2⟩:=ih2 m1 e1
   exact ⟨m2,p1.trans p2,e2⟩
noncomputable def allBut (L:Addr) (h:Heap):List (Addr × Obj):=(List.range h.objs.size).filterMap fun b=>if b=L then none else (h.get? b).map (b,·)
theorem mem_allBut {L:Addr}{h:Heap}{p:Addr × Obj}:p∈allBut L h↔p.1≠L∧h.get? p.1=some p.2:=by
 unfold allBut
 rw [List.mem_filterMap]
 constructor
 · rintro yq0
   obtain ⟨b,hb,e⟩:=yq0
   split at e
   · cases e
   · rename_i hne
     obtain ⟨o,ho,rfl⟩:=Option.map_eq_some_iff.mp e
     exact ⟨hne,ho⟩
 · rintro yq0
   obtain ⟨hne,ho⟩:=yq0
   exact ⟨p.1,List.mem_range.mpr (Heap.lt_size ho),by rw [if_neg hne,ho];rfl⟩
theorem empty_get (a:Addr):({}:Heap).get? a=none:=by
 rcases q:({}:Heap).get? a with _ | o
 · rfl
 · exact absurd (Heap.lt_size q) (Nat.not_lt_zero _)
theorem fr_all {L:Addr}{h:Heap}{mm:Str→Option Value}(hn:h.Ns L mm):Fr {} L h mm∧News {} L h (allBut L h):=
 ⟨⟨hn,fun b o e=>(by rw [empty_get] at e;cases e),Nat.zero_le _⟩,fun p hp=>⟨(mem_allBut.mp hp).2,(mem_allBut.mp hp).1,empty_get _⟩⟩
section
variable {prog:Program}{w:World}{A:Around}{E:Value→Shared→Prop}{s:Shared}
theorem sorted_items {v d q L:Addr}{kvs:List (Int × Value)}{ep:Nat}{b:Bool}{mm:Str→Option Value}{Q:Value→Shared→Prop}(hh:A.handled=none) (hns:s.heap.Ns L mm) (hv:s.heap.IsItemsView v d) (hm:s.heap.DictAt (intKind prog w) d kvs ep) (h64:kvs.length<64)
   (turn:∀ (T:Addr) (p:Int × Value) (t:Tok) (h:Heap) (tk:Nat),p∈kvs→h.get? T=some { cls:=.type "tuple",data:=.seq #[.int p.1 t,p.2] }→(∀ b o,b≠L→s.heap.get? b=some o→h.get? b=some o)→h.Ns L mm →
     wpAny (model prog w) A.in1.in1 (call (.ref q) [.ref T]) (fun r s'=>∃ h' tk' t',s'={ s with heap:=h',toks:=tk' }∧r=.int p.1 t'∧∀ b o,h.get? b=some o→h'.get? b=some o) (fun _ _=>False) { s with heap:=h,toks:=tk })
   (hQ:∀ (D:Addr) (h':Heap) (tk c:Nat) (outs:List ((Int × Value) × Addr)),(∀ b o,b≠L→s.heap.get? b=some o→h'.get? b=some o)→h'.Ns L mm→h'.get? D=some { cls:=.type "list",data:=.seq (outs.map fun x=>Value.ref x.2).toArray c } →
     (outs.map (·.1)).Perm kvs→outs.Pairwise (fun x y=>if b then y.1.1≤x.1.1 else x.1.1≤y.1.1)→(∀ x∈outs,∃ t,h'.get? x.2=some { cls:=.type "tuple",data:=.seq #[.int x.1.1 t,x.1.2] }∧s.heap.get? x.2=none∧L<x.2)→(outs.map (·.2)).Nodup→s.heap.get? D=none→L<D→(∀ x∈outs,x.2≠D)→Q (.ref D) { s with heap:=h',toks:=tk }) :
   wpAny (model prog w) A (call (.builtin "sorted") [.ref v] [(Str.ofString "key",.ref q),(Str.ofString "reverse",.bool b)]) Q E s:=by
 refine call_function_entry_kw kind_sorted plain_sorted entry_sorted (ksk_s2 _ _ _) ?_
 unfold Builtin.«sorted»
 refine wpAny_bind (m:=checkCount "sorted" 1 1 _) (wpAny_pure ?_)
 refine wpAny_bind (kdx_collect (knd:=intKind prog w) (kvs:=kvs) (ep:=ep) (A:=A.in1) hh hv hm (by rw [sizeLine_eq];exact Nat.le_trans (Nat.le_of_lt (by assumption)) (by decide +kernel)) fun h₁ tk₁ as hk₁ hl hG=>?_)
 refine wpAny_bind (wpAny_newList ?_ (by rw [List.length_map,hl,sizeLine_eq];exact Nat.le_trans (Nat.le_of_lt (by assumption)) (by decide +kernel)))
 have hns₁:(h₁.push { cls:=.type "list",data:=.seq (as.map Value.ref).toArray }).Ns L mm:=by
   obtain ⟨o,es,ep',ho,r⟩:=hns
   exact ⟨o,es,ep',Heap.get?_push_of_some _ (hk₁ _ _ ho),r⟩
 have hnsL:h₁.Ns L mm:=by
   obtain ⟨o,es,ep',ho,r⟩:=hns
   exact ⟨o,es,ep',hk₁ _ _ ho,r⟩
 obtain ⟨F,N⟩:=fr_all hnsL
 have hD:(h₁.push { cls:=.type "list",data:=.seq (as.map Value.ref).toArray }).get? h₁.objs.size=some { cls:=.type "list",data:=.seq (as.map Value.ref).toArray }:=Heap.get?_push_size _ rfl
 have kp:∀ b o,h₁.get? b=some o→(h₁.push { cls:=.type "list",data:=.seq (as.map Value.ref).toArray }).get? b=some o:=fun b o e=>Heap.get?_push_of_some _ e
 show wpAny _ _ _ _ _ { s with heap:=h₁.push { cls:=.type "list",data:=.seq (as.map Value.ref).toArray },toks:=tk₁ }
 refine wpAny_bind (wpAny_holding (wpAny_call_entry_kw slot_list_sort ⟨_,hD,rfl⟩ entry_list_sort ?_ (ksk_l2 _ _ _)))
 rw [ksk_t2]
 have hTup:∀ (i:Nat) (a:Addr),as[i]? = some a→∃ t p,kvs[i]? = some p∧h₁.get? a=some { cls:=.type "tuple",data:=.seq #[.int p.1 t,p.2] }:=fun i a e=>by
   obtain ⟨key,k,x,e1,e2,e3⟩:=hG.pairs i a e
   obtain ⟨t,rfl⟩:=Value.isInt_shape e2
   exact ⟨t,(k,x),e1,e3⟩
 have hLt:L<s.heap.objs.size:=hns.lt
 have hLne:∀ a∈as,a≠L:=fun a ha=>Nat.ne_of_gt (Nat.lt_trans hLt (hG.above a ha))
 refine ksk_sort (kz:=kvs.map (·.1)) (s:={ s with heap:=h₁.push { cls:=.type "list",data:=.seq (as.map Value.ref).toArray },toks:=tk₁ }) (F.keptAll kp) (N.grown kp) hD (Nat.ne_of_gt hnsL.lt) (empty_get _) (fun p hp=>Nat.ne_of_lt (Heap.lt_size (mem_allBut.mp hp).2)) (by rw [List.length_map,List.length_map,hl]) (by rw [List.length_map,hl];exact h64) ?_ ?_
 · intro i v k hv' hk h tk own F' N'
   rw [List.getElem?_map] at hv' hk
   obtain ⟨a,ha,rfl⟩:=Option.map_eq_some_iff.mp hv'
   obtain ⟨t,p,hp,hT⟩:=hTup i a ha
   rw [hp] at hk
   cases hk
   have hlift:∀ b o,b≠L→h₁.get? b=some o→h.get? b=some o:=fun b o hb e=>(N' (b,o) (List.mem_append_left _ (mem_allBut.mpr ⟨hb,e⟩))).1
   refine wpAny_mono (turn a p t h tk (List.mem_of_getElem? hp) (hlift _ _ (hLne a (List.mem_of_getElem? ha)) hT) (fun b o hb e=>hlift b o hb (hk₁ b o e)) F'.ns) ?_ fun _ _ z=>z
   rintro r s' yq2
   obtain ⟨h',tk',t',rfl,rfl,kk⟩:=yq2
   exact ⟨h',tk',t',rfl,rfl,F'.keptAll kk,N'.grown kk⟩
 · rintro h' tk out c F' N' yq6
   obtain ⟨ps,hperm,hout,hord⟩:=yq6
   refine ⟨_,rfl,wpAny_pure ⟨_,rfl,?_⟩⟩
   have hz:(kvs.map (·.1)).zip (as.map Value.ref)=(kvs.zip as).map fun x=>(x.1.1,Value.ref x.2):=by
     rw [List.zip_map];rfl
   rw [hz] at hperm
   obtain ⟨big,hb1,hb2⟩:=perm_map_lift hperm.symm (kvs.zip as) rfl
   have hlift:∀ b o,b≠L→h₁.get? b=some o→h'.get? b=some o:=fun b o hb e=>(N' (b,o) (.tail _ (mem_allBut.mpr ⟨hb,e⟩))).1
   have ho2:out=(big.map fun x=>Value.ref x.2).toArray:=by
     apply Array.toList_inj.mp
     rw [hout,hb2,List.map_map]
     rfl
   have hDo:=(N' (h₁.objs.size,_) (.head _)).1
   rw [ho2] at hDo
   have hDn:s.heap.get? h₁.objs.size=none:=by
     rcases z:s.heap.get? h₁.objs.size with _ | o
     · rfl
     · exact absurd (Heap.lt_size (hk₁ _ _ z)) (Nat.lt_irrefl _)
   have hmemz:∀ x∈big,∃ i,as[i]? = some x.2∧kvs[i]? = some x.1:=fun x hx=>by
     obtain ⟨i,hi⟩:=List.mem_iff_getElem?.mp (hb1.mem_iff.mpr hx)
     rw [List.getElem?_zip_eq_some] at hi
     exact ⟨i,hi.2,hi.1⟩
   refine hQ h₁.objs.size h' tk c big (fun b o hb e=>hlift b o hb (hk₁ b o e)) F'.ns hDo ?_ ?_ ?_ ?_ hDn hnsL.lt ?_
   · have:=(hb1.symm.map (·.1))
     rw [List.map_fst_zip (by lia)] at this
     exact this
   · rw [hb2,List.pairwise_map] at hord
     exact hord
   · intro x hx
     obtain ⟨i,h1,h2⟩:=hmemz x hx
     obtain ⟨t,p,e1,e2⟩:=hTup i x.2 h1
     rw [h2] at e1;obtain rfl:=Option.some.inj e1
     exact ⟨t,hlift _ _ (hLne _ (List.mem_of_getElem? h1)) e2,Heap.get?_none_of_le (Nat.le_of_lt (hG.above _ (List.mem_of_getElem? h1))),Nat.lt_trans hLt (hG.above _ (List.mem_of_getElem? h1))⟩
   · have h1:=hb1.symm.map (·.2)
     rw [List.map_snd_zip (by lia)] at h1
     exact h1.nodup_iff.mpr (hG.rise.imp fun h=>Nat.ne_of_lt h)
   · intro x hx
     obtain ⟨i,h1,h2⟩:=hmemz x hx
     exact Nat.ne_of_lt (hG.there (List.mem_of_getElem? h1))
end
end PySem
end
section
set_option maxHeartbeats 2000000
namespace PySem
open Sem (wp)
open PySem.W PyProof.Rows Calls
section
variable {prog:Program}{w:World}{A:Around}{E:Value→Shared→Prop}{s:Shared}{env:Env}
theorem raw_letTemp {e:Expr}{o r:Value}{Q:Unit→Shared→Prop}(h:Q () s):wpAny (model prog w) A (letTemporaryGo e o r) Q E s:=wpAny_letTemporaryGo h
theorem raw_sub {value slice:Expr}{pos:Pos}{Q:Value→Shared→Prop}
   (h:wpAny (model prog w) A (eval value env) (fun o s₁=>wpAny (model prog w) A (eval slice env) (fun i s₂=>ItemOn (model prog w) A E o i Q s₂) E s₁) E s) :
   wpAny (model prog w) A (eval (.Subscript value slice pos) env) Q E s:=by
 rw [arm_eval_Subscript]
 refine wpAny_bind (wpAny_mono h (fun o s₁ h₁=>wpAny_bind (wpAny_holding (wpAny_mono h₁ (fun i s₂ h₂=>wpAny_bind (wpAny_standAt ?_)) fun _ _ x=>x))) fun _ _ x=>x)
 obtain ⟨T,id,hl,hT,hg⟩:=h₂
 refine wpAny_bind ?_
 rw [getitemInPython_of_ne hT.not_modules]
 refine wpAny_bind (wpAny_specialOf hT hl (wpAny_pure ?_))
 obtain ⟨ops,e⟩:=Mine.sub_ops slice o i
 rw [e]
 exact wpAny_bind (wpAny_operating (wpAny_mono hg (fun r s₃ h₃=>wpAny_bind (raw_letTemp (wpAny_pure h₃))) fun _ _ x=>x))
theorem call_key {q c' T r:Addr}{qual:Str}{params:Arguments}{scope:Scope}{pm ctv:Value}{p1 p2 p3 p4 p5:Pos}{k1 k2:Nat}{x y:Str}{o0:Value}{i:Int}{t:Tok}{f:Str→Option Value}{Q:Value→Shared→Prop}
   (hroom:A.depth<recursionLimit) (hlim:s.heap.NoLimit)
   (hq:s.heap.get? q=some (kla_obj "<lambda>" qual params (.Subscript (.Subscript (.Name x p1) (.Constant (.int 1) k1 p2) p3) (.Constant (.str y) k2 p4) p5) scope [] pm c' ctv))
   (hcd:s.heap.CodeRec (.ref c') qual) (hbind:∀ v,bindArgs (kla_fn "<lambda>" qual params (.Subscript (.Subscript (.Name x p1) (.Constant (.int 1) k1 p2) p3) (.Constant (.str y) k2 p4) p5) scope [] pm (.ref c') ctv) ⟨[v],[]⟩=pure [(x,v)])
   (hco:scope.isCoroutine=false) (hgen:scope.isGenerator=false) (hk:scope.kind=.function) (hcell:∀ z∈scope.names,z.2≠.cell) (hx:scope.names.lookup x=some .local) (hdb:(x==("__debug__" : Str))=false)
   (hT:s.heap.get? T=some { cls:=.type "tuple",data:=.seq #[o0,.ref r] }) (hr:s.heap.MapOf (strKind prog w) r f) (hf:f y=some (.int i t))
   (h:∀ h' tk,(∀ b o,s.heap.get? b=some o→h'.get? b=some o)→Q (.int i t) { s with heap:=h',toks:=tk }) :
   wpAny (model prog w) A (call (.ref q) [.ref T]) Q E s:=by
 refine wpAny_call (kla_callFunE hroom hq rfl hco hgen rfl hcd ?_)
 rw [hbind]
 refine wpAny_pure (wpAny_newFunctionEnv hcell (fun z hz=>?_) (fun h₁ hns hsb=>⟨hlim.fresh _ hsb,?_⟩) hk)
 · rw [List.mem_singleton.mp hz];exact hx
 have hk₁:∀ b o,s.heap.get? b=some o→h₁.get? b=some o:=fun b o e=>hsb.extBut b o (Nat.ne_of_lt (Heap.lt_size e)) (Heap.get?_push_of_some _ e)
 refine kla_codeExpr ?_
 generalize hE:newEnv scope s.heap.objs.size mainGlobals [] (qual ++ ".<locals>.") (some q) (.ref c') none builtinsNs=env'
 have hkd:env'.scope.kind=.function:=by subst hE;exact hk
 have hkl:env'.kindOf x=some .local:=by subst hE;exact hx
 have hlo:env'.locals=s.heap.objs.size:=by subst hE;rfl
 refine raw_sub (raw_sub (wpAny_Name (wpAny_loadName_local hkd hkl (hlo▸hns) (v:=.ref T) (by simp) ?_) hdb))
 refine wpAny_Constant_int ?_
 have hT₁:IsT h₁ T #[o0,.ref r] 0:=hk₁ _ _ hT
 have hm₁:h₁.MapOf (strKind prog w) r f:=by
   obtain ⟨o,es,ep,ho,z⟩:=hr
   exact ⟨o,es,ep,hk₁ _ _ ho,z⟩
 refine ⟨"tuple",_,F.slot_tuple_getitem.lookup,⟨_,hT₁,rfl⟩,P.getItem_tuple hT₁ (by decide) (by decide) (k:=1) (y:=.ref r) rfl rfl ?_⟩
 refine wpAny_Constant_str ?_
 refine ⟨"dict",_,F.slot_dict_getitem.lookup,hm₁.typeIs,wpAny_getItem_of (strKind_is prog w y _) hm₁ hf ?_⟩
 exact h h₁ _ hk₁
end
end PySem
end
section
open PySem PySem.W PyProof.Rows PySem.Calls
set_option maxHeartbeats 2000000
namespace Mine
theorem RelC.turn {G:Glb}{stk:List Env}{sv:Sv}{pr:Pr}{H H':HP}{s:Shared}(R:RelC G stk sv pr H s) {h':Heap}{tk:Nat}(C:Addr→Prop) (k:∀ b o,¬ C b→s.heap.get? b=some o→h'.get? b=some o)
   (cb:∀ b,C b→G.base.get? b=none) (cs:∀ b,C b→b∉sv.map (·.1)) (cp:∀ b,C b→b∉pr.map (·.1))
   (own:∀ a co,H'.o a=some co→(H.o a=some co∧¬ C a)∨(Off G a∧a∉sv.map (·.1)∧a∉pr.map (·.1)∧ObAt G h' a co)) (hg:H'.g=H.g):RelC G stk sv pr H' { s with heap:=h',toks:=tk } where
 base:=fun b o e=>k b o (fun q=>by rw [cb b q] at e;cases e) (R.base b o e)
 frames:=frames_keeps R.frames fun b o e hm=>⟨o,k b o (fun q=>cs b q (R.frame_mem hm)) e,id⟩
 fsv:=R.fsv
 ns:=fun p hp=>⟨ns_keeps (R.ns p hp).1 fun o e=>k _ o (fun q=>cs _ q (List.mem_map_of_mem hp)) e,(R.ns p hp).2⟩
 nd:=R.nd
 own:=fun a co e=>by
   rcases own a co e with ⟨e1,e2⟩ | ⟨e1,e2,_,e4⟩
   · obtain ⟨x,y,o,z,u⟩:=R.own a co e1
     exact ⟨x,y,o,k _ _ e2 z,u⟩
   · exact ⟨e1,e2,e4⟩
 prot:=fun p hp=>by
   obtain ⟨x,y,z,u⟩:=R.prot p hp
   refine ⟨k _ _ (fun q=>cp _ q (List.mem_map_of_mem hp)) x,y,z,?_⟩
   rcases q:H'.o p.1 with _ | co
   · rfl
   ·
     rcases own p.1 co q with ⟨e1,_⟩ | ⟨_,_,e3,_⟩
     · rw [u] at e1;exact no_ns e1
     · exact absurd (List.mem_map_of_mem hp) e3
 gens:=R.gens.trans hg.symm
 bare:=hg▸R.bare
 os:=R.os
theorem RelC.free {G:Glb}{stk:List Env}{sv:Sv}{pr:Pr}{H:HP}{s:Shared}(R:RelC G stk sv pr H s) {a:Addr}(h:s.heap.get? a=none):G.base.get? a=none∧a∉sv.map (·.1)∧a∉pr.map (·.1)∧H.o a=none:=by
 refine ⟨?_,fun hm=>?_,fun hm=>?_,?_⟩
 · rcases q:G.base.get? a with _ | o
   · rfl
   · rw [R.base a o q] at h;exact no_sn h
 · refine xe12 (List.mem_map.mp hm) fun p hp zq2=>?_
   obtain rfl:=zq2
   refine xe02 (R.ns p hp) fun zq0 _=>?_
   refine xe32 zq0 fun o _ _ ho _=>?_
   rw [ho] at h;exact no_sn h
 · refine xe12 (List.mem_map.mp hm) fun p hp zq2=>?_
   obtain rfl:=zq2
   rw [(R.prot p hp).1] at h;exact no_sn h
 · rcases q:H.o a with _ | co
   · rfl
   · obtain ⟨o,ho,_⟩:=R.get q;rw [ho] at h;cases h
theorem RelC.freeAt {G:Glb}{stk:List Env}{sv:Sv}{pr:Pr}{H:HP}{s:Shared}(R:RelC G stk sv pr H s) {a:Addr}(h:s.heap.objs.size≤a):G.base.get? a=none∧a∉sv.map (·.1)∧a∉pr.map (·.1)∧H.o a=none:=R.free (Heap.get?_none_of_le h)
noncomputable def LamOk (P:Addr) (pos:Pos) (qual:Str) (H:HP):Prop:=
 H.o P=some (.obj (tabObj #[]))∨∃ c' oc vs t,H.o P=some (.obj (tabObj #[rawInt pos.line,rawInt pos.col,.ref c']))∧H.o c'=some (.obj oc)∧oc.data=.fields vs∧vs[1]? = some (.str qual t)∧c'≠P
section
variable {G:Glb}{S:Sit}{X:KV}{m:Names}{H:HP}{K:KV}
theorem e_lam {params:Arguments}{body:Expr}{scope:Scope}{pos:Pos}{c P:Addr}{name:Str}(O:S.Ok G) (hcode:S.env.code=.ref c) (hcP:codeHdIn G.K c P=true) (hdef:defaultsOf params S.env=([],[])) (hcl:closureFor scope S.env=pure []) (hl:LamOk P pos (S.env.qual ++ "<lambda>") H)
   (h:∀ H' q c' pm ctv oc vs t,(∀ a co,a≠P→H.o a=some co→H'.o a=some co)→H'.g=H.g→H.o q=none→H'.o q=some (.obj (kla_obj "<lambda>" (S.env.qual ++ "<lambda>") params body scope [] pm c' ctv))→H'.o P=some (.obj (tabObj #[rawInt pos.line,rawInt pos.col,.ref c']))→H'.o c'=some (.obj oc)→oc.data=.fields vs→vs[1]? = some (.str (S.env.qual ++ "<lambda>") t)→c'≠P→K (.ref q) m H') :
   WE G S (.Lambda params body scope pos) K X m H:=by
 intro s mm M R
 refine kla_eval hdef ?_
 have KIn:=G.X.keeps R.base
 have hg:=G.T.g.keeps R.base
 refine xe26 G.bmain fun bm ob b1 b2 b3 b4 b5 b6=>?_
 have hg':=G.T.g
 have hbG:bm≠mainGlobals:=fun q=>by
   refine xe33 hg' fun o es ep e hd _=>?_
   rw [q,e] at b3;cases b3;rw [hd] at b6;cases b6
 rcases hl with hP | ⟨c',oc,vs,t,hP,hc',hd,hv,hne⟩
 · obtain ⟨o,ho,rfl,_⟩:=R.get hP
   have offP:=R.own_base hP
   have hbP:bm≠P:=fun q=>by rw [q,offP] at b3;exact no_ns b3
   have hgP:mainGlobals≠P:=fun q=>by
     refine xe32 hg' fun o es ep e _=>?_
     rw [q,offP] at e;exact no_ns e
   refine kla_makeFunction (mg:=G.mg) hcl O.glob hg hcode (codeHd_of_K KIn hcP) ho trivial rfl hgP ⟨bm,ob,b1,b2,hbG,hbP,R.base _ _ b3,b4,b5,b6⟩ fun c' ctv h' tk hx hge hlt hrec htb=>?_
   refine xe44 hrec fun c₂ oc vs t e2 hoc hd hv=>?_
   cases e2
   have fc:=R.freeAt hge
   have fq:=R.freeAt (Nat.le_of_lt (Nat.lt_of_le_of_lt hge hlt))
   have hqn:h'.objs.size≠c':=Nat.ne_of_gt hlt
   have hPs:P<s.heap.objs.size:=Heap.lt_size ho
   have hcP':c'≠P:=Nat.ne_of_gt (Nat.lt_of_lt_of_le hPs hge)
   have hqP:h'.objs.size≠P:=Nat.ne_of_gt (Nat.lt_trans (Nat.lt_of_lt_of_le hPs hge) hlt)
   have hb:=R.big (.head _)
   have hocf:oc.isFreed=false:=Obj.isFreed_of_fields hd
   let qo:=kla_obj "<lambda>" (S.env.qual ++ "<lambda>") params body scope [] ((G.mg "__name__").getD .none) c' ctv
   refine ⟨m,((H.put P (.obj (tabObj #[rawInt pos.line,rawInt pos.col,.ref c']))).put c' (.obj oc)).put h'.objs.size (.obj qo),mm,M,R.turn (tk:=tk) (fun b=>b=P) (fun b o hb e=>Heap.get?_push_of_some _ (hx b o hb e)) (fun b hb=>by rw [hb];exact offP) (fun b hb=>by rw [hb];exact (R.own _ _ hP).2) (fun b hb hm=>?_) (fun a co e=>?_) rfl,
     h _ h'.objs.size c' _ ctv oc vs t (fun a co ha e=>?_) rfl fq.2.2.2 HP.put_same (HP.put_ne (Ne.symm hqP) (HP.put_ne (Ne.symm hcP') HP.put_same)) (HP.put_ne (Ne.symm hqn) HP.put_same) hd hv hcP'⟩
   · refine xe12 (List.mem_map.mp hm) fun p hp e=>?_
     have:=(R.prot p hp).4
     rw [show p.1=P from e.trans hb,hP] at this;exact no_sn this
   · by_cases q1:a=h'.objs.size
     · subst q1
       rw [HP.put_same] at e;obtain rfl:=Option.some.inj e
       exact .inr ⟨.of (Nat.le_trans hb (Nat.le_of_lt (Nat.lt_of_le_of_lt hge hlt))),fq.2.1,fq.2.2.1,_,Heap.get?_push_size _ rfl,rfl,rfl⟩
     rw [HP.put_ne q1 rfl] at e
     by_cases q2:a=c'
     · subst q2
       rw [HP.put_same] at e;obtain rfl:=Option.some.inj e
       exact .inr ⟨.of (Nat.le_trans hb hge),fc.2.1,fc.2.2.1,_,Heap.get?_push_of_some _ hoc,rfl,hocf⟩
     rw [HP.put_ne q2 rfl] at e
     by_cases q3:a=P
     · subst q3
       rw [HP.put_same] at e;obtain rfl:=Option.some.inj e
       refine .inr ⟨(R.own _ _ hP).1,(R.own _ _ hP).2,fun hm=>?_,_,Heap.get?_push_of_some _ htb,rfl,rfl⟩
       refine xe12 (List.mem_map.mp hm) fun p hp e=>?_
       have:=(R.prot p hp).4
       rw [show p.1=a from e,hP] at this;exact no_sn this
     · rw [HP.put_ne q3 rfl] at e
       exact .inl ⟨e,q3⟩
   · exact HP.put_ne ((HP.fne fq.2.2.2 e).symm) (HP.put_ne ((HP.fne fc.2.2.2 e).symm) (HP.put_ne ha e))
 · obtain ⟨o,ho,rfl,_⟩:=R.get hP
   have offP:=R.own_base hP
   have hbP:bm≠P:=fun q=>by rw [q,offP] at b3;exact no_ns b3
   refine kla_makeFunctionHit (mg:=G.mg) (cv:=.ref c') hcl O.glob hg hcode (codeHd_of_K KIn hcP) ho trivial (by simp [codeAmong,rawInt]) ⟨bm,ob,b1,b2,hbG,hbP,R.base _ _ b3,b4,b5,b6⟩ fun ctv h' tk hk hsz=>?_
   have fq:=R.freeAt hsz
   have hb:=R.big (.head _)
   refine ⟨m,H.put h'.objs.size (.obj (kla_obj "<lambda>" (S.env.qual ++ "<lambda>") params body scope [] ((G.mg "__name__").getD .none) c' ctv)),mm,M,R.turn (tk:=tk) (fun b=>False) (fun b o _ e=>Heap.get?_push_of_some _ (hk b o e)) (fun _ h=>h.elim) (fun _ h=>h.elim) (fun _ h=>h.elim) (fun a co e=>?_) rfl,
     h _ h'.objs.size c' _ ctv oc vs t (fun a co _ e=>HP.put_fresh fq.2.2.2 e) rfl fq.2.2.2 HP.put_same (HP.put_fresh fq.2.2.2 hP) (HP.put_fresh fq.2.2.2 hc') hd hv hne⟩
   by_cases q1:a=h'.objs.size
   · subst q1
     rw [HP.put_same] at e;obtain rfl:=Option.some.inj e
     exact .inr ⟨.of (Nat.le_trans hb hsz),fq.2.1,fq.2.2.1,_,Heap.get?_push_size _ rfl,rfl,rfl⟩
   · rw [HP.put_ne q1 rfl] at e
     exact .inl ⟨e,id⟩
end
end Mine
end
section
set_option maxHeartbeats 2000000
namespace PySem
open Sem (wp)
open PySem.W PyProof.Rows Calls
noncomputable def retK (env:Env) (K:Flow→Sem Fin) (H:Value→Sem Fin) (gd:Bool→Bool) (lv:List Value→List Value):Result→Sem Fin:=fun r=>
 ((match r with | .ok f=>(.pure f:Sem Flow) | .error e=>.raise e).onRaise fun (x:Value)=>do
       if (← field x 1)==Value.none then unsupported "frame.own-activation:exception-without-traceback"
       setFlight x env.frame).wrap K H gd lv
section
variable {prog:Program}{w:World}{A:Around}{R:GenEnd}{Y:Protocol}{n:Nat}{s₀:Shared}{c:Code}{fs:List Frame}{s:Shared}{env:Env}
 {K:Flow→Sem Fin}{H:Value→Sem Fin}{gd:Bool→Bool}{lv:List Value→List Value}
theorem seg_For {target iter:Expr}{body orelse:List Stmt}{pos:Pos}(hs:∀ x,foldedSetIterable iter env x=pure x)
   (h:wpAny (model prog w) (A.over c fs) (eval iter env) (fun x s₁=>wpAny (model prog w) (A.over c fs) (pyIter x) (fun it s₂=>∀ p,
     Seg (model prog w) A R Y n s₀ (.forLoop target it body orelse env) ((model prog w).den (.forLoop target it body orelse env)) (.ret (retK env K H gd lv) none (gd false) (lv []) c p []::fs) s₂)
     (fun _ _=>False) s₁) (fun _ _=>False) s) :
   Seg (model prog w) A R Y n s₀ c ((exec (.For target iter body orelse pos) env).wrap K H gd lv) fs s:=by
 rw [exec_For]
 show Seg _ A R Y n s₀ c (.at pos fun _=>(eval iter env >>= fun x=>foldedSetIterable iter env x >>= fun x=>standAt iter.pos >>= fun _=>holding [x] (pyIter x) >>= fun it=>runOwn (.forLoop target it body orelse env) env).wrap K H gd lv) fs s
 refine seg_at ?_
 rw [Sem.bind_eq_wrap',Sem.wrap_wrap]
 refine seg_wrap (wpAny_mono h (fun x s₁ h₁=>?_) fun _ _ z=>z.elim)
 rw [hs x]
 show Seg _ A R Y n s₀ c (.at iter.pos fun _=>(holding [x] (pyIter x) >>= fun it=>runOwn (.forLoop target it body orelse env) env).wrap K H gd lv) fs s₁
 refine seg_at ?_
 rw [Sem.bind_eq_wrap',Sem.wrap_wrap]
 refine seg_wrap (wpAny_holding (wpAny_mono h₁ (fun it s₂ h₂=>?_) fun _ _ z=>z.elim))
 exact seg_call h₂
theorem seg_forLoop {target:Expr}{it:Value}{body orelse:List Stmt}
   (h:wpAny (model prog w) (A.over (.forLoop target it body orelse env) fs) (pyNext it) (fun r s₁=>match r with
     | none=>Seg (model prog w) A R Y n s₀ (.block orelse env) ((model prog w).den (.block orelse env)) fs s₁
     | some v=>wpAny (model prog w) (A.over (.forLoop target it body orelse env) fs) (letOwnedTupleGo target it v) (fun _ s₂=>
         wpAny (model prog w) (A.over (.forLoop target it body orelse env) fs) (assign target env v) (fun _ s₃=>Seg (model prog w) A R Y n s₀ (.forLoop target it body orelse env)
           ((execs body env).wrap (fun f=>match f with
             | .next | .cont=>.pure (.again (.forLoop target it body orelse env))
             | .brk=>.pure (.done .next)
             | .ret v=>.pure (.done (.ret v))) (fun e=>(do noteFrame e env;theTreesLotGoes e:Sem Unit).wrap (fun _=>.raise e) .raise id id) id id) fs s₃) (fun _ _=>False) s₂) (fun _ _=>False) s₁)
     (fun _ _=>False) s) :
   Seg (model prog w) A R Y n s₀ (.forLoop target it body orelse env) ((model prog w).den (.forLoop target it body orelse env)) fs s:=by
 show Seg _ A R Y n s₀ _ ((forTurn target it body orelse env).onRaise (fun x=>do noteFrame x env;theTreesLotGoes x)) fs s
 unfold forTurn
 rw [Sem.onRaise_eq_wrap]
 show Seg _ A R Y n s₀ _ (.at target.pos fun _=>(((pyNext it).onRaise fun _=>standAt { target.pos with line:=0 }) >>= _).wrap _ _ _ _) fs s
 refine seg_at ?_
 rw [Sem.bind_eq_wrap',Sem.wrap_wrap]
 refine seg_wrap (wpAny_onRaise (wpAny_mono h (fun r s₁ h₁=>?_) fun _ _ z=>z.elim))
 rcases r with _ | v
 · exact seg_again rfl h₁
 ·
   dsimp only at h₁ ⊢
   rw [Sem.bind_eq_wrap',Sem.wrap_wrap]
   refine seg_wrap (wpAny_mono h₁ (fun _ s₂ h₂=>?_) fun _ _ z=>z.elim)
   rw [Sem.bind_eq_wrap',Sem.wrap_wrap]
   refine seg_wrap (wpAny_mono h₂ (fun _ s₃ h₃=>?_) fun _ _ z=>z.elim)
   rw [Sem.bind_eq_wrap',Sem.wrap_wrap]
   rw [Sem.wrap_congr (execs body env) _ _ (K':=fun f=>match f with
             | .next | .cont=>.pure (.again (.forLoop target it body orelse env))
             | .brk=>.pure (.done .next)
             | .ret v=>.pure (.done (.ret v))) (H':=(fun e=>(do noteFrame e env;theTreesLotGoes e:Sem Unit).wrap (fun _=>.raise e) .raise id id))
       (fun f=>by cases f<;>rfl)
       (fun e=>by first | exact Sem.bind_eq_wrap _ _ | (show (do noteFrame e env;theTreesLotGoes e:Sem Unit).bind (fun _=>.raise e)=_;rw [Sem.bind_eq_wrap]))]
   exact h₃
theorem seg_block0 {k h g l c₁ p₁ kp} (hk:Seg (model prog w) A R Y n s₀ c₁ (k (.ok .next)) fs s) :
   Seg (model prog w) A R Y n s₀ (.block [] env) ((model prog w).den (.block [] env)) (.ret k h g l c₁ p₁ kp::fs) s:=
 seg_leaf (.ok .next) hk
end
end PySem
end
section
set_option maxHeartbeats 2000000
namespace PySem
open Sem (wp)
open PySem.W PyProof.Rows Calls
structure GSt (h:Heap) (L D it:Addr) (Ts rows:List Addr) (i:Nat):Prop where
 list:h.IsList D (Ts.map Value.ref).toArray
 iter:h.IsListIter it D i
 tups:∀ (j:Nat) (T r:Addr),Ts[j]? = some T→rows[j]? = some r→∃ k t,h.IsTuple T #[.int k t,.ref r]
 len:Ts.length=rows.length
 ns:∃ mm,h.Ns L mm
 ne:it≠L∧D≠L∧D≠it
 nt:∀ T∈Ts,T≠L∧T≠it
noncomputable def GOwn (L D it:Addr) (Ts:List Addr):List Addr:=L::D::it::Ts
theorem GSt.keeps {h h':Heap}{L D it:Addr}{Ts rows:List Addr}{i:Nat}(x:GSt h L D it Ts rows i) (k:∀ b∈GOwn L D it Ts,∀ o,h.get? b=some o→h'.get? b=some o):GSt h' L D it Ts rows i where
 list:=let ⟨o,ho,r⟩:=x.list;⟨o,k _ (.tail _ (.head _)) _ ho,r⟩
 iter:=let ⟨o,ho,r⟩:=x.iter;⟨o,k _ (.tail _ (.tail _ (.head _))) _ ho,r⟩
 tups:=fun j T r h1 h2=>let ⟨kk,t,o,ho,z⟩:=x.tups j T r h1 h2;⟨kk,t,o,k _ (.tail _ (.tail _ (.tail _ (List.mem_of_getElem? h1)))) _ ho,z⟩
 len:=x.len
 ns:=let ⟨mm,o,es,ep,ho,z⟩:=x.ns;⟨mm,o,es,ep,k _ (.head _) _ ho,z⟩
 ne:=x.ne
 nt:=x.nt
theorem GSt.turn {h h':Heap}{L D it:Addr}{Ts rows:List Addr}{i j:Nat}(x:GSt h L D it Ts rows i) (k:∀ b o,b≠L→b≠it→h.get? b=some o→h'.get? b=some o) (hn:∃ mm,h'.Ns L mm) (hi:h'.IsListIter it D j):GSt h' L D it Ts rows j where
 list:=let ⟨o,ho,r⟩:=x.list;⟨o,k _ _ x.ne.2.1 x.ne.2.2 ho,r⟩
 iter:=hi
 tups:=fun j T r h1 h2=>let ⟨kk,t,o,ho,z⟩:=x.tups j T r h1 h2;⟨kk,t,o,k _ _ (x.nt T (List.mem_of_getElem? h1)).1 (x.nt T (List.mem_of_getElem? h1)).2 ho,z⟩
 len:=x.len
 ns:=hn
 ne:=x.ne
 nt:=x.nt
noncomputable def genY (N:Nat) (rows:List Addr) (TT:Nat→Shared→Shared→Prop) (J':Heap→Prop) (ok:List Addr→Prop):Protocol:=fun n s₀ v s₁ kap=>
 ∃ i r,n+i+1=N∧rows[i]? = some r∧v=.ref r∧TT i s₀ s₁∧J' s₁.heap∧∃ Own,ok Own∧∀ s'',(∀ b∈Own,∀ o,s₁.heap.get? b=some o→s''.heap.get? b=some o)→s''.heap.NoLimit→kap (.send .none) s''
noncomputable def genR (N:Nat) (TT:Nat→Shared→Shared→Prop) (J':Heap→Prop):GenEnd:=fun n s₀ r s₁=>r=.ok (.ret .none)∧(n=0∧TT N s₀ s₁∧J' s₁.heap)
section
variable {prog:Program}{w:World}{A:Around}{n:Nat}{s₀:Shared}{s:Shared}{env:Env}
theorem gen_loop {L D it:Addr}{Ts rows:List Addr}{N:Nat}{TT:Nat→Shared→Shared→Prop}{J J':Heap→Prop}{ok:List Addr→Prop}{Own:List Addr}{a b:Str}{pa pb tp yp xp np:Pos}{kk:Nat}{c:Code}
   {K:Flow→Sem Fin}{HX:Value→Sem Fin}{p:Pos}
   (hh:A.handled=none) (hL:env.locals=L) (ha:env.kindOf a=some .local) (hb:env.kindOf b=some .local) (hdb:(b==("__debug__" : Str))=false) (hkd:env.scope.kind=.function) (hco:env.scope.isCoroutine=false)
   (hN:rows.length=N) (hTT:∀ i s₀ s h' tk,TT i s₀ s→(∀ b o,b≠L→b≠it→s.heap.get? b=some o→h'.get? b=some o)→(∃ mm,h'.Ns L mm)→TT i s₀ { s with heap:=h',toks:=tk })
   (hT0:∀ i s,TT (i+1) s s) (hJ:∀ h h',J h→(∀ b∈Own,b≠L→b≠it→∀ o,h.get? b=some o→h'.get? b=some o)→J h') (hJJ:∀ h,J h→J' h) (hO:∀ b∈GOwn L D it Ts,b∈Own) (hOk:ok Own)
   (hend:∀ s₀ s,TT N s₀ s→J s.heap→Seg (model prog w) A (genR N TT J') (genY N rows TT J' ok) 0 s₀ c (retK env K HX id id (.ok .next)) [] s) :
   ∀ n i s₀ s,n+i=N→GSt s.heap L D it Ts rows i→J s.heap→s.heap.NoLimit→TT i s₀ s →
     Seg (model prog w) A (genR N TT J') (genY N rows TT J' ok) n s₀ (.forLoop (.Tuple [.Name a pa,.Name b pb] kk tp) (.ref it) [.Expr (.Yield (some (.Name b np)) yp) xp] [] env)
       ((model prog w).den (.forLoop (.Tuple [.Name a pa,.Name b pb] kk tp) (.ref it) [.Expr (.Yield (some (.Name b np)) yp) xp] [] env)) [.ret (retK env K HX id id) none false [] c p []] s:=by
 intro n
 induction n with
 | zero=>
   intro i s₀ s hi st hj hlim ht
   refine seg_forLoop ?_
   refine wpAny_pyNext_list_end hh st.iter st.list (by rw [show i=Ts.length by have:=st.len;lia];simp) fun h' hk=>?_
   have kp:∀ b o,b≠L→b≠it→s.heap.get? b=some o→h'.get? b=some o:=fun b o _ hb e=>hk b o hb e
   obtain ⟨mm,oL,es,ep,hoL,z⟩:=st.ns
   have hi0:i=N:=by lia
   subst hi0
   exact seg_block0 (hend s₀ _ (hTT _ _ s h' s.toks ht kp ⟨mm,oL,es,ep,hk _ _ (Ne.symm st.ne.1) hoL,z⟩) (hJ _ _ hj fun b _ h1 h2 o e=>kp b o h1 h2 e))
 | succ n ih=>
   intro i s₀ s hi st hj hlim ht
   have hil:i<rows.length:=by lia
   have hilT:i<Ts.length:=by rw [st.len];exact hil
   refine seg_forLoop ?_
   refine wpAny_pyNext_list_item st.iter st.list (x:=.ref Ts[i]) (by simp [hilT]) fun h₁ hit₁ hs₁=>?_
   obtain ⟨oi,hoi,_⟩:=id hit₁
   have kp₁:∀ b o,b≠L→b≠it→s.heap.get? b=some o→h₁.get? b=some o:=fun b o _ h e=>hs₁.extBut b o h e
   obtain ⟨mm,oL,es,ep,hoL,zL⟩:=st.ns
   have hn₁:h₁.Ns L mm:=⟨oL,es,ep,hs₁.extBut _ _ (Ne.symm st.ne.1) hoL,zL⟩
   have st₁:=st.turn kp₁ ⟨mm,hn₁⟩ hit₁
   obtain ⟨k₀,t₀,hTu⟩:=st₁.tups i Ts[i] rows[i] (by simp [hilT]) (by simp [hil])
   refine wpAny_letOwnedTupleGo_listiter hit₁ ?_
   have hpl:(env.scope.kind==.class || (env.scope.kind==.module&&env.locals != env.globals))=false:=by rw [hkd];rfl
   refine kcp_assign hh hTu ha hb hpl (hL▸hn₁) fun h₂ tk₂ hn₂ hk₂=>?_
   rw [hL] at hn₂ hk₂
   have kp₂:∀ b o,b≠L→b≠it→s.heap.get? b=some o→h₂.get? b=some o:=fun b o h1 h2 e=>hk₂ b o h1 (kp₁ b o h1 h2 e)
   have hit₂:h₂.IsListIter it D (i+1):=let ⟨o,ho,z⟩:=hit₁;⟨o,hk₂ _ _ st.ne.1 ho,z⟩
   have st₂:=st.turn kp₂ ⟨_,hn₂⟩ hit₂
   have tt₂:=hTT _ _ s h₂ tk₂ ht kp₂ ⟨_,hn₂⟩
   have j₂:=hJ _ _ hj fun b _ h1 h2 o e=>kp₂ b o h1 h2 e
   refine seg_execs_cons (seg_Expr_Yield rfl rfl rfl ?_ hco (by unfold interactive;rw [hkd];rfl))
   refine wpAny_Name (wpAny_loadName_local hkd hb (hL▸hn₂) (v:=.ref rows[i]) (by simp) ?_) hdb
   intro kap hkap
   refine ⟨i,rows[i],by lia,by simp [hil],rfl,tt₂,hJJ _ j₂,Own,hOk,fun s'' hk hl=>hkap .none s'' ?_⟩
   have kO:∀ b∈Own,∀ o,h₂.get? b=some o→s''.heap.get? b=some o:=hk
   exact seg_again rfl (ih (i+1) s'' s'' (by lia) (st₂.keeps fun b hb=>kO b (hO b hb)) (hJ _ _ j₂ fun b hb _ _ o e=>kO b hb o e) hl (hT0 i s''))
end
end PySem
end
section
open PySem PySem.W PyProof.Rows PySem.Calls
set_option maxHeartbeats 2000000
namespace Mine
theorem RelC.turnL {G:Glb}{stk:List Env}{L:Addr}{mm mm':Str→Option Value}{sv:Sv}{pr:Pr}{H H':HP}{s:Shared}(R:RelC G stk ((L,mm)::sv) pr H s) {h':Heap}{tk:Nat}(C:Addr→Prop) (k:∀ b o,b≠L→¬ C b→s.heap.get? b=some o→h'.get? b=some o) (hn:h'.Ns L mm')
   (cb:∀ b,C b→G.base.get? b=none) (cs:∀ b,C b→b∉((L,mm)::sv).map (·.1)) (cp:∀ b,C b→b∉pr.map (·.1))
   (own:∀ a co,H'.o a=some co→(H.o a=some co∧¬ C a)∨(Off G a∧a∉((L,mm)::sv).map (·.1)∧a∉pr.map (·.1)∧ObAt G h' a co)) (hg:H'.g=H.g):RelC G stk ((L,mm')::sv) pr H' { s with heap:=h',toks:=tk } where
 base:=fun b o e=>k b o (fun q=>by rw [q,R.sv_base (.head _)] at e;cases e) (fun q=>by rw [cb b q] at e;cases e) (R.base b o e)
 frames:=frames_keeps R.frames fun b o e hm=>by
   by_cases q:b=L
   · subst q
     refine xe33 hn fun oL es ep hL hdL _=>?_
     exact ⟨oL,hL,fun _ vs e=>by rw [hdL] at e;cases e⟩
   · exact ⟨o,k b o q (fun z=>cs b z (R.frame_mem hm)) e,id⟩
 fsv:=R.fsv
 ns:=fun p hp=>by
   rcases List.mem_cons.mp hp with rfl | hp
   · exact ⟨hn,(R.ns (L,mm) (.head _)).2⟩
   · refine ⟨ns_keeps (R.ns p (.tail _ hp)).1 fun o x=>?_,(R.ns p (.tail _ hp)).2⟩
     have nd:=R.nd
     rw [List.map_cons,List.nodup_cons] at nd
     exact k _ o (fun q=>nd.1 (List.mem_map.mpr ⟨p,hp,q⟩)) (fun z=>cs _ z (.tail _ (List.mem_map_of_mem hp))) x
 nd:=R.nd
 own:=fun a co e=>by
   rcases own a co e with ⟨e1,e2⟩ | ⟨e1,e2,_,e4⟩
   · obtain ⟨x,y,o,z,u⟩:=R.own a co e1
     exact ⟨x,y,o,k _ _ (fun q=>y (q▸.head _)) e2 z,u⟩
   · exact ⟨e1,e2,e4⟩
 prot:=fun p hp=>by
   obtain ⟨x,y,z,u⟩:=R.prot p hp
   refine ⟨k _ _ (fun q=>z (q▸.head _)) (fun q=>cp _ q (List.mem_map_of_mem hp)) x,y,z,?_⟩
   rcases q:H'.o p.1 with _ | co
   · rfl
   ·
     rcases own p.1 co q with ⟨e1,_⟩ | ⟨_,_,e3,_⟩
     · rw [u] at e1;exact no_ns e1
     · exact absurd (List.mem_map_of_mem hp) e3
 gens:=R.gens.trans hg.symm
 bare:=hg▸R.bare
 os:=R.os
noncomputable def rowOf (H:HP) (y:Str) (p:Int × Value):Prop:=∃ r ep rk,p.2=.ref r∧H.o r=some (.ds ep rk)∧valueAt rk y=some (.int p.1 0)
theorem refs_same {rk kvs:List (Int × Value)}(h:rk.map (fun p=>(p.1,er p.2))=kvs) (hr:∀ p∈kvs,∃ r,p.2=.ref r):rk=kvs:=by
 subst h
 induction rk with
 | nil=>rfl
 | cons p r ih=>
   obtain ⟨i,v⟩:=p
   rw [List.map_cons]
   refine xe11 (hr _ (.head _)) fun a ha=>?_
   have:v=er v:=by
     have q:=er_ref' (show er v=.ref a from ha)
     subst q;rfl
   rw [← ih fun q hq=>hr q (.tail _ hq),← this]
section
variable {G:Glb}{S:Sit}{X:KV}{m:Names}{H:HP}{K:KV}
theorem f_sorted {v d q c':Addr}{kvs:List (Int × Value)}{ep:Nat}{b:Bool}{y x:Str}{qual:Str}{params:Arguments}{scope:Scope}{pm ctv:Value}{p1 p2 p3 p4 p5:Pos}{k1 k2:Nat}{oc:Obj}{vs:Array Value}{t:Tok}
   (hh:S.A.handled=none) (hroom:S.A.depth+5<recursionLimit) (hv:H.o v=some (.obj (viewObj "dict_items" d))) (hd:H.o d=some (.di ep kvs)) (h64:kvs.length<64) (hrow:∀ p∈kvs,rowOf H y p)
   (hq:H.o q=some (.obj (kla_obj "<lambda>" qual params (.Subscript (.Subscript (.Name x p1) (.Constant (.int 1) k1 p2) p3) (.Constant (.str y) k2 p4) p5) scope [] pm c' ctv)))
   (hc:H.o c'=some (.obj oc)) (hcd:oc.data=.fields vs) (hcq:vs[1]? = some (.str qual t))
   (hbind:∀ v,bindArgs (kla_fn "<lambda>" qual params (.Subscript (.Subscript (.Name x p1) (.Constant (.int 1) k1 p2) p3) (.Constant (.str y) k2 p4) p5) scope [] pm (.ref c') ctv) ⟨[v],[]⟩=pure [(x,v)])
   (hco:scope.isCoroutine=false) (hgen:scope.isGenerator=false) (hk:scope.kind=.function) (hcell:∀ z∈scope.names,z.2≠.cell) (hx:scope.names.lookup x=some .local) (hdb:(x==("__debug__" : Str))=false)
   (h:∀ D H' (outs:List ((Int × Value) × Addr)),(∀ a co,H.o a=some co→H'.o a=some co)→H'.g=H.g→H.o D=none→H'.o D=some (.list (outs.map fun x=>.ref x.2)) →
     (∀ x∈outs,H.o x.2=none∧H'.o x.2=some (.tup [.int x.1.1 0,x.1.2])∧x.2≠D)→(outs.map (·.1)).Perm kvs→outs.Pairwise (fun x y=>if b then y.1.1≤x.1.1 else x.1.1≤y.1.1)→(outs.map (·.2)).Nodup→K (.ref D) m H') :
   CalC G S (.builtin "sorted") [.ref v] [(Str.ofString "key",.ref q),(Str.ofString "reverse",.bool b)] K X m H:=by
 intro rf rvs rkw ef e1 e2 s mm M R
 obtain rfl:=er_builtin' ef
 obtain ⟨rv,rfl,ev⟩:=map_one e1
 obtain rfl:=er_ref' ev
 rcases rkw with _ | ⟨⟨n1,w1⟩,_ | ⟨⟨n2,w2⟩,_ | ⟨_,_⟩⟩⟩<;>simp only [List.map_cons,List.map_nil,List.cons.injEq,Prod.mk.injEq,and_true,reduceCtorEq,and_false,false_and] at e2
 obtain ⟨⟨rfl,ew1⟩,rfl,ew2⟩:=e2
 obtain rfl:=er_ref' ew1
 obtain rfl:=er_bool' ew2
 refine xe12 (relDi R hd) fun rk hm ek=>?_
 obtain rfl:=refs_same ek fun p hp=>let ⟨r,_,_,e,_⟩:=hrow p hp;⟨r,e⟩
 obtain ⟨ov,hov,rfl,_⟩:=R.get hv
 obtain ⟨oq,hoq,rfl,_⟩:=R.get hq
 obtain ⟨oc',hoc,rfl,_⟩:=R.get hc
 have nL:∀ {a co},H.o a=some co→a≠S.L:=fun e q=>(R.own _ _ e).2 (q▸.head _)
 have hbL:∀ {h:Heap},(∀ b o,b≠S.L→s.heap.get? b=some o→h.get? b=some o)→∀ b o,G.base.get? b=some o→h.get? b=some o:=fun hk b o e=>hk b o (fun z=>by rw [z,R.sv_base (.head _)] at e;exact no_ns e) (R.base b o e)
 refine sorted_items hh (R.ns _ (.head _)).1 ⟨_,hov,rfl,rfl⟩ hm h64 ?_ ?_
 · intro T p t' h tk hp hT hk₁ hn₁
   refine xe33 (hrow p hp) fun r ep' rk' er' hr hva=>?_
   refine xe12 (relDs R hr) fun rk2 hds ek2=>?_
   rw [er'] at hT
   have hva2:(valueAt rk2 y).map er=some (.int p.1 0):=by rw [valueAt_er,ek2,hva]
   refine xe12 (Option.map_eq_some_iff.mp hva2) fun v2 hv2 hv3=>?_
   obtain ⟨t2,rfl⟩:=er_int' hv3
   have hmo:h.MapOf (strKind G.prog G.w) r (valueAt rk2):=by
     refine xe32 hds.dictOf.mapOf fun o es ep2 ho z=>?_
     exact ⟨o,es,ep2,hk₁ _ _ (nL hr) ho,z⟩
   refine call_key (s:={ s with heap:=h,toks:=tk }) (Nat.lt_of_le_of_lt (Nat.le_add_right _ _) hroom) (G.T.nolimit.keeps (hbL hk₁)) (hk₁ _ _ (nL hq) hoq) ⟨c',_,vs,t,rfl,hk₁ _ _ (nL hc) hoc,hcd,hcq⟩ hbind hco hgen hk hcell hx hdb hT hmo hv2 fun h' tk' hk'=>⟨h',tk',t2,rfl,rfl,hk'⟩
 · intro D h' tk cnt outs hk₁ hn₁ hD hperm hord htup hnd hDn hDL hTD
   have hbig:=R.big (.head _)
   have nn:∀ {a},s.heap.get? a=none→S.L<a→H.o a=none∧Off G a∧a∉((S.L,mm)::S.sv).map (·.1)∧a∉S.pr.map (·.1):=fun {a} ha hlt=>by
     obtain ⟨f1,f2,f3,f4⟩:=R.free ha
     exact ⟨f4,.of (Nat.le_trans (R.ns _ (.head _)).2 (Nat.le_of_lt hlt)),f2,f3⟩
   let H':HP:={ H with o:=fun a=>if a=D then some (.list (outs.map fun x=>.ref x.2)) else match outs.find? (fun x=>x.2==a) with
     | some x=>some (.tup [.int x.1.1 0,x.1.2])
     | none=>H.o a }
   have hfind:∀ x∈outs,outs.find? (fun z=>z.2==x.2)=some x:=fun x hx=>by
     clear_value H'
     clear hperm hord htup hTD hD h
     induction outs with
     | nil=>cases hx
     | cons z r ih=>
       rw [List.map_cons,List.nodup_cons] at hnd
       rw [List.find?_cons]
       rcases List.mem_cons.mp hx with rfl | hx
       · simp
       · have:(z.2==x.2)=false:=by
           rw [beq_eq_false_iff_ne];intro e;exact hnd.1 (e▸List.mem_map_of_mem hx)
         rw [this];exact ih hnd.2 hx
   have hfn:∀ {a co},H.o a=some co→outs.find? (fun x=>x.2==a)=none:=fun {a co} e=>by
     rw [List.find?_eq_none]
     intro x hx hxa
     refine xe13 (htup x hx) fun _ _ f lt=>?_
     rw [beq_iff_eq] at hxa
     have:=(nn f lt).1
     rw [hxa,e] at this;exact no_sn this
   have hDo:∀ {a co},H.o a=some co→a≠D:=fun {a co} e q=>by rw [q,(nn hDn hDL).1] at e;exact no_ns e
   have hkeep:∀ a co,H.o a=some co→H'.o a=some co:=fun a co e=>by
     show (if a=D then _ else _)=_
     rw [if_neg (hDo e),hfn e];exact e
   have hp2:∀ x∈outs,∃ r,x.1.2=.ref r:=fun x hx=>by
     refine xe32 (hrow x.1 (hperm.mem_iff.mp (List.mem_map_of_mem hx))) fun r _ _ e _=>?_
     exact ⟨r,e⟩
   refine ⟨m,H',mm,M,R.turnL (tk:=tk) (fun _=>False) (fun b o hb _ e=>hk₁ b o hb e) hn₁ (fun _ z=>z.elim) (fun _ z=>z.elim) (fun _ z=>z.elim) (fun a co e=>?_) rfl,
     h D H' outs hkeep rfl (nn hDn hDL).1 (if_pos rfl) (fun x hx=>⟨?_,?_,hTD x hx⟩) hperm hord hnd⟩
   · change (if a=D then _ else _)=_ at e
     split at e
     · rename_i q;subst q
       obtain rfl:=Option.some.inj e
       refine xe04 (nn hDn hDL) fun f1 f2 f3 f4=>?_
       refine .inr ⟨f2,f3,f4,_,hD,_,_,rfl,?_⟩
       simp [List.map_map,Function.comp_def]
     · split at e
       · rename_i z hz
         obtain rfl:=Option.some.inj e
         have hzm:=List.mem_of_find?_eq_some hz
         have hza:z.2=a:=by have:=List.find?_some hz;simpa using this
         refine xe13 (htup z hzm) fun t' g1 g2 g3=>?_
         rw [hza] at g1 g2 g3
         refine xe04 (nn g2 g3) fun f1 f2 f3 f4=>?_
         refine xe11 (hp2 z hzm) fun r er'=>?_
         refine .inr ⟨f2,f3,f4,_,g1,_,_,rfl,?_⟩
         rw [er'];rfl
       · exact .inl ⟨e,id⟩
   · refine xe13 (htup x hx) fun _ _ f lt=>?_
     exact (nn f lt).1
   · show (if x.2=D then _ else _)=_
     rw [if_neg (hTD x hx),hfind x hx]
end
end Mine
end
section
open PySem PySem.W PyProof.Rows PySem.Calls
set_option maxHeartbeats 2000000
namespace Mine
noncomputable def HP.del (H:HP) (a:Addr):HP:={ H with o:=fun b=>if b=a then none else H.o b }
theorem HP.del_ne {H:HP}{a b:Addr}(h:b≠a):(H.del a).o b=H.o b:=if_neg h
theorem HP.del_self {H:HP}{a:Addr}:(H.del a).o a=none:=if_pos rfl
theorem HP.del_some {H:HP}{a b:Addr}{c:CO}(h:(H.del a).o b=some c):H.o b=some c∧b≠a:=by
 unfold HP.del at h;dsimp only at h
 split at h
 · exact no_ns h
 · exact ⟨h,by assumption⟩
section
variable {G:Glb}{stk:List Env}{sv:Sv}{pr:Pr}{H:HP}{s:Shared}
theorem RelC.fr (R:RelC G stk sv pr H s) {L:Addr}{mm:Str→Option Value}(hL:H.o L=some (.fr mm)):s.heap.Ns L mm:=by
 obtain ⟨o,ho,es,ep,h1,h2,h3⟩:=R.get hL
 exact ⟨o,es,ep,ho,h1,h2,h3⟩
theorem RelC.wake (R:RelC G stk sv pr H s) {L:Addr}{mm:Str→Option Value}(hL:H.o L=some (.fr mm)) (hb:G.base.objs.size≤L) {env:Env}(hk:env.scope.kind=.function) (hf:env.frame=some L) :
   RelC G (env::stk) ((L,mm)::sv) pr (H.del L) s where
 base:=R.base
 frames:=Heap.FunFrames.cons (by rw [hk];decide) hf (R.fr hL) (R.own_base hL) R.frames
 fsv:=fun e he f hf'=>by
   rcases List.mem_cons.mp he with rfl | he
   · rw [hf] at hf';cases hf';exact .head _
   · exact .tail _ (R.fsv e he f hf')
 ns:=fun p hp=>by
   rcases List.mem_cons.mp hp with rfl | hp
   · exact ⟨R.fr hL,hb⟩
   · exact R.ns p hp
 nd:=by
   rw [List.map_cons,List.nodup_cons]
   exact ⟨(R.own _ _ hL).2,R.nd⟩
 own:=fun a co e=>by
   obtain ⟨e,hne⟩:=HP.del_some e
   obtain ⟨x,y,z⟩:=R.own a co e
   refine ⟨x,fun hm=>?_,z⟩
   rcases List.mem_cons.mp hm with hm | hm
   · exact hne hm
   · exact y hm
 prot:=fun p hp=>by
   obtain ⟨x,y,z,u⟩:=R.prot p hp
   have hpL:p.1≠L:=HP.fne u hL
   refine ⟨x,y,fun hm=>?_,by rw [HP.del_ne hpL];exact u⟩
   rcases List.mem_cons.mp hm with hm | hm
   · exact hpL hm
   · exact z hm
 gens:=R.gens
 bare:=R.bare
 os:=R.os
end
noncomputable def Con (G:Glb) (sv:Sv) (pr:Pr) (Hc:HP) (b:Addr):Prop:=G.base.get? b≠none∨b∈sv.map (·.1)∨b∈pr.map (·.1)∨Hc.o b≠none
noncomputable def Tell (G:Glb) (sv:Sv) (pr:Pr) (Hc:HP) (s₀ s₁:Shared):Prop:=(∀ b o,Con G sv pr Hc b→s₀.heap.get? b=some o→s₁.heap.get? b=some o)∧s₁.gens=s₀.gens∧s₁.os=s₀.os
noncomputable def genTT (G:Glb) (stk:List Env) (sv:Sv) (pr:Pr) (Hc:HP) (L:Addr) (env:Env):Nat→Shared→Shared→Prop
 | 0,_,s₁=>∃ mm,RelC G (env::stk) ((L,mm)::sv) pr Hc s₁
 | _+1,s₀,s₁=>Tell G sv pr Hc s₀ s₁
inductive genJ (G:Glb) (sv:Sv) (pr:Pr) (Hc:HP) (P:Addr) (pos:Pos) (qual:Str) (h:Heap):Prop where
 | mk (c':Addr) (oc:Obj) (vs:Array Value) (t:Tok) (h1:h.get? P=some (tabObj #[rawInt pos.line,rawInt pos.col,.ref c'])) (h2:h.get? c'=some oc) (h3:oc.data=.fields vs) (h4:vs[1]? = some (.str qual t)) (h5:c'≠P) (h6:Hc.o c'=some (.obj oc)∨(¬ Con G sv pr Hc c'∧Off G c'))
noncomputable def genOk (G:Glb) (sv:Sv) (pr:Pr) (Hc:HP) (Own:List Addr):Prop:=∀ b∈Own,(¬ Con G sv pr Hc b∧Off G b)∨∃ ob,Hc.o b=some (.obj ob)
inductive LamIn (Hc:HP) (P:Addr) (pos:Pos) (qual:Str) (H₁:HP):Prop where
 | mk (c':Addr) (oc:Obj) (vs:Array Value) (t:Tok) (h1:H₁.o P=some (.obj (tabObj #[rawInt pos.line,rawInt pos.col,.ref c']))) (h2:H₁.o c'=some (.obj oc)) (h3:oc.data=.fields vs) (h4:vs[1]? = some (.str qual t)) (h5:c'≠P) (h6:Hc.o c'=some (.obj oc)∨Hc.o c'=none)
inductive IterK (Hc:HP) (P:Addr) (pos:Pos) (qual:Str) (rows:List Addr) (v:Value) (H₁:HP):Prop where
 | mk (D:Addr) (Ts:List Addr) (h1:v=.ref D) (h2:H₁.o D=some (.list (Ts.map .ref))) (h3:Ts.length=rows.length) (h4:∀ (j:Nat) (T r:Addr),Ts[j]? = some T→rows[j]? = some r→∃ k,H₁.o T=some (.tup [.int k 0,.ref r])) (h5:Hc.o D=none) (h6:∀ T∈Ts,Hc.o T=none∧∃ c,H₁.o T=some c) (h7:Sub Hc H₁) (h8:LamIn Hc P pos qual H₁)
section
variable {G:Glb}{A:Around}{stk:List Env}{sv:Sv}{pr:Pr}{H:HP}{s:Shared}
theorem gen_fresh {L P:Addr}{mm:Str→Option Value}{env:Env}{rows:List Addr}{a b:Str}{pa pb tp yp xp np fp:Pos}{kk:Nat}{iter:Expr}{m₀:Names}{pos:Pos}{qual:Str}{cP:CO}
   (hh:A.handled=none) (R:RelC G stk sv pr H s) (hL:H.o L=some (.fr mm)) (hbL:G.base.objs.size≤L) (hP:H.o P=some cP) (hPL:P≠L)
   (hf:env.frame=some L) (hloc:env.locals=L) (hkd:env.scope.kind=.function) (hco:env.scope.isCoroutine=false) (ha:env.kindOf a=some .local) (hb:env.kindOf b=some .local) (hdb:(b==("__debug__" : Str))=false)
   (hfold:∀ x,foldedSetIterable iter env x=pure x) (M:MOk G env mm m₀) {body:List Stmt}(hbody:body=[.For (.Tuple [.Name a pa,.Name b pb] kk tp) iter [.Expr (.Yield (some (.Name b np)) yp) xp] [] fp])
   (hiter:WE G ⟨A.over (.func body env) [],env::stk,sv,pr,L,env⟩ iter (fun v _ H₁=>IterK ((H.del L).del P) P pos qual rows v H₁) noX m₀ (H.del L)) :
   Seg G.M A (genR rows.length (genTT G stk sv pr ((H.del L).del P) L env) (genJ G sv pr ((H.del L).del P) P pos qual)) (genY rows.length rows (genTT G stk sv pr ((H.del L).del P) L env) (genJ G sv pr ((H.del L).del P) P pos qual) (genOk G sv pr ((H.del L).del P)))
     rows.length s (.func body env) (G.M.den (.func body env)) [] s:=by
 generalize hHc:(H.del L).del P=Hc at *
 have hcL:Hc.o L=none:=by rw [← hHc,HP.del_ne (Ne.symm hPL)];exact HP.del_self
 have hcP:Hc.o P=none:=by rw [← hHc];exact HP.del_self
 refine seg_func ?_
 rw [hbody]
 refine seg_execs_cons (seg_For hfold ?_)
 rw [← hbody]
 have Rw:=R.wake hL hbL hkd hf
 refine wpAny_mono (hiter s mm M Rw) ?_ fun _ _ z=>z.no.elim
 rintro rv s₁ yq2
 obtain ⟨m₁,H₁,mm₁,M₁,R₁,D,Ts,ev,hD,hlen,hT,hcD,hcT,hsub,c',oc,vs,t,hP₁,hc₁,hcd,hcq,hne,hc2⟩:=yq2
 obtain rfl:=er_ref' ev
 have notCon:∀ {x:Addr}{co:CO},H₁.o x=some co→Hc.o x=none→¬ Con G sv pr Hc x∧Off G x:=fun {x co} e hc=>by
   refine ⟨?_,(R₁.own _ _ e).1⟩
   rintro (q | q | q | q)
   · exact q (R₁.own_base e)
   · exact (R₁.own _ _ e).2 (.tail _ q)
   · obtain ⟨p,hp,rfl⟩:=List.mem_map.mp q
     have:=(R₁.prot p hp).4
     rw [e] at this;exact no_sn this
   · exact q hc
 have cL:¬ Con G sv pr Hc L∧Off G L:=by
   refine ⟨?_,(R.own _ _ hL).1⟩
   rintro (q | q | q | q)
   · exact q (R.own_base hL)
   · exact (R.own _ _ hL).2 q
   · obtain ⟨p,hp,rfl⟩:=List.mem_map.mp q
     have:=(R.prot p hp).4
     rw [hL] at this;exact no_sn this
   · exact q hcL
 refine xe12 (relList R₁ hD) fun rvs hlD elD=>?_
 have hrvs:rvs=(Ts.map Value.ref).toArray:=by
   apply Array.toList_inj.mp
   have:∀ (l:List Value) (Ts:List Addr),l.map er=Ts.map Value.ref→l=Ts.map Value.ref:=by
     intro l
     induction l with
     | nil=>intro Ts e;cases Ts with
       | nil=>rfl
       | cons=>simp at e
     | cons v l ih=>intro Ts e;cases Ts with
       | nil=>simp at e
       | cons T Ts=>
         simp only [List.map_cons,List.cons.injEq] at e ⊢
         exact ⟨er_ref' e.1,ih Ts e.2⟩
   simpa using this _ _ elD
 subst hrvs
 refine wpAny_pyIter_list hlD ?_
 intro p
 have nL:∀ {x co},H₁.o x=some co→x≠L:=fun e q=>(R₁.own _ _ e).2 (q▸.head _)
 have nI:∀ {x co},H₁.o x=some co→x≠s₁.heap.objs.size:=fun e q=>by rw [q,R₁.fresh] at e;exact no_ns e
 have fI:=R₁.freeAt (Nat.le_refl s₁.heap.objs.size)
 have hbI:=R₁.big (.head _)
 have hcI:Hc.o s₁.heap.objs.size=none:=hsub.none fI.2.2.2
 have cI:¬ Con G sv pr Hc s₁.heap.objs.size∧Off G s₁.heap.objs.size:=by
   refine ⟨?_,.of hbI⟩
   rintro (q | q | q | q)
   · exact q fI.1
   · exact fI.2.1 (.tail _ q)
   · exact fI.2.2.1 q
   · exact q hcI
 have hLlt:L<s₁.heap.objs.size:=(R₁.ns _ (.head _)).1.lt
 generalize hitE:s₁.heap.objs.size=it at *
 obtain ⟨oP,hoP,rfl,_⟩:=R₁.get hP₁
 obtain ⟨oc',hoc,rfl,_⟩:=R₁.get hc₁
 have kp:∀ x o,s₁.heap.get? x=some o→(s₁.heap.push { cls:=.type "list_iterator",data:=.fields #[.ref D,.int 0 0] }).get? x=some o:=fun x o e=>Heap.get?_push_of_some _ e
 refine gen_loop (L:=L) (D:=D) (it:=it) (Ts:=Ts) (rows:=rows) (Own:=c'::P::GOwn L D it Ts) (J:=fun h=>h.get? P=some (tabObj #[rawInt pos.line,rawInt pos.col,.ref c'])∧h.get? c'=some oc') hh hloc ha hb hdb hkd hco rfl ?_ ?_ ?_ ?_ ?_ ?_ ?_ rows.length 0 s _ (by simp) ?_ ?_ ?_ ?_
 · 
   intro i s₀ s h' tk tt hk hn
   rcases i with _ | i
   ·
     refine xe11 tt fun mm' R'=>?_
     refine xe11 hn fun mm₂ hn=>?_
     refine ⟨mm₂,R'.turnL (tk:=tk) (fun x=>x=it) (fun x o h1 h2 e=>hk x o h1 h2 e) hn (fun x hx=>hx▸fI.1) (fun x hx=>hx▸fI.2.1) (fun x hx=>hx▸fI.2.2.1) (fun x co e=>.inl ⟨e,fun q=>?_⟩) rfl⟩
     rw [q,hcI] at e;exact no_ns e
   ·
     exact ⟨fun x o hx e=>hk x o (fun q=>cL.1 (q▸hx)) (fun q=>cI.1 (q▸hx)) (tt.1 x o hx e),tt.2.1,tt.2.2⟩
 · intro i s;exact ⟨fun _ _ _ e=>e,rfl,rfl⟩
 · rintro h h' yq2 hk
   refine xe02 yq2 fun j1 j2=>?_
   exact ⟨hk P (.tail _ (.head _)) (nL hP₁) (nI hP₁) _ j1,hk c' (.head _) (nL hc₁) (nI hc₁) _ j2⟩
 · rintro h yq1
   refine xe02 yq1 fun j1 j2=>?_
   refine ⟨c',oc',vs,t,j1,j2,hcd,hcq,hne,hc2.imp id fun hc=>notCon hc₁ hc⟩
 · intro x hx;exact .tail _ (.tail _ hx)
 · intro x hx
   rcases List.mem_cons.mp hx with rfl | hx
   · exact hc2.elim (fun hc=>.inr ⟨_,hc⟩) fun hc=>.inl (notCon hc₁ hc)
   rcases List.mem_cons.mp hx with rfl | hx
   · exact .inl (notCon hP₁ hcP)
   rcases List.mem_cons.mp hx with rfl | hx
   · exact .inl cL
   rcases List.mem_cons.mp hx with rfl | hx
   · exact .inl (notCon hD hcD)
   rcases List.mem_cons.mp hx with rfl | hx
   · exact .inl cI
   · obtain ⟨h1,c,h2⟩:=hcT x hx
     exact .inl (notCon h2 h1)
 · rintro s₀ s ht yq3
   refine xe02 yq3 fun j1 j2=>?_
   exact seg_end (.ok (.ret .none)) ⟨rfl,rfl,ht,c',oc',vs,t,j1,j2,hcd,hcq,hne,hc2.imp id fun hc=>notCon hc₁ hc⟩
 · refine ⟨let ⟨o,ho,z⟩:=hlD;⟨o,kp _ _ ho,z⟩,⟨_,by rw [← hitE];exact Heap.get?_push_size _ rfl,rfl,rfl⟩,fun j T r h1 h2=>?_,hlen,⟨mm₁,ns_keeps (R₁.ns _ (.head _)).1 fun o e=>kp _ _ e⟩,⟨Nat.ne_of_gt hLlt,nL hD,nI hD⟩,fun T hT'=>?_⟩
   · refine xe11 (hT j T r h1 h2) fun k hk=>?_
     refine xe12 (relTup R₁ hk) fun rv hl e=>?_
     refine xe23 (map_two e) fun v1 v2 e1 e2 e3=>?_
     refine xe11 (er_int' e2) fun t1 zq1=>?_
     obtain rfl:=zq1
     obtain rfl:=er_ref' e3
     have:rv=#[.int k t1,.ref r]:=by apply Array.toList_inj.mp;simpa using e1
     subst this
     refine xe12 hl fun o ho z=>?_
     exact ⟨k,t1,o,kp _ _ ho,z⟩
   · obtain ⟨_,c,h2⟩:=hcT T hT'
     exact ⟨nL h2,nI h2⟩
 · exact ⟨kp _ _ hoP,kp _ _ hoc⟩
 · exact G.T.nolimit.keeps fun x o e=>kp _ _ (R₁.base x o e)
 · refine ⟨mm₁,(R₁.sub hsub).grow (tk:=s₁.toks) (dr:=s₁.drawn) (fun x o e=>kp x o e) (fun x co e=>.inl e) rfl⟩
end
end Mine
end
section
open PySem PySem.W PyProof.Rows PySem.Calls
set_option maxHeartbeats 2000000
namespace PySem
section
variable {prog:Program}{w:World}{A:Around}{E:Value→Shared→Prop}{s:Shared}
theorem pyNext_genQ {a:Addr}{g n:Nat}{gs:GenState}{P:Nat→Shared→Shared→Prop}{Y:Protocol}{Q:Option Value→Shared→Prop}(hh:A.handled=none)
   (hl:s.heap.NoLimit) (hroom:A.depth<recursionLimit)
   (hg:s.heap.IsGen a g) (hgs:s.gens[g]? = some gs)
   (hgo:gs.Goes (model prog w) A.in1 (fun n s₀ r s₁=>r=.ok (.ret .none)∧P n s₀ s₁) Y n (.send .none) (s.setGen g .running))
   (hY:∀ v s₁ gs',gs'.bare=true→Y (n - 1) (s.setGen g .running) v s₁ (fun r' s''=>match n with
       | 0=>False
       | m+1=>gs'.Goes (model prog w) A.in1 (fun n s₀ r s₁=>r=.ok (.ret .none)∧P n s₀ s₁) Y m r' s'')→Q (some v) (s₁.setGen g gs'))
   (hP:∀ s₁,P n (s.setGen g .running) s₁→∀ h',(∀ b o,s₁.heap.get? b=some o→h'.get? b=some o)→Q none { s₁.setGen g .finished with heap:=h' }) :
   wpAny (model prog w) A (pyNext (.ref a)) Q E s:=by
 unfold pyNext
 refine wpAny_bind (wpAny_attempt (wpAny_callSpecial?_slot (name:=Str.ofString "__next__") hg.typeIs slot_gen_next
   (wpAny_call_entry slot_gen_next hg.typeIs entry_gen_next ?_ (args_gen_next _))))
 show wpAny _ A.in1 (Builtin.Generator.genWake (.ref a) (.send .none)) _ _ s
 unfold Builtin.Generator.genWake
 refine wpAny_bind (wpAny_holding (wpAny_genNumber hg (wpAny_bind (wpAny_genState hgs ?_))))
 cases gs with
 | running=>exact hgo.elim
 | finished=>exact hgo.elim
 | _=>
   refine wpAny_bind (wpAny_roomToWake hl hroom ?_)
   show wpAny _ A.in1 (.resume g (.send .none) [] _) _ _ s
   refine wpAny_resumeQ hgs hgo (fun x s₁ hx=>?_) (fun v s₁ gs' hb hv=>?_)
   · obtain ⟨rfl,hp⟩:=hx
     show wpAny _ A.in1 (newExc (.type "StopIteration") [] >>= _) _ _ _
     refine wpAny_bind ?_
     simp -iota only [newExc,newTuple]
     refine wpAny_bind (wpAny_newObj_type ?_ (by size_fits))
     refine wpAny_bind (m:=firstArgMember _ _) (wpAny_of_eq (a:=Value.none) (by first | rfl | (simp -iota only [firstArgMember];rfl)) ?_)
     refine wpAny_newObj_type ?_ (by size_fits)
     simp -iota only [raiseNew]
     refine wpAny_bind (wpAny_bind (wpAny_handled ?_))
     first | rw [show A.in1.handled=none from hh] | rw [hh]
     refine wpAny_throw ?_
     refine wpAny_bind (wpAny_isInstance (T:="StopIteration") (b:=true) ⟨_,Heap.get?_push_size _ rfl,rfl⟩ isSubtype_stop ?_)
     exact wpAny_pure (hP s₁ hp _ fun b o hb=>Heap.get?_push_of_some _ (Heap.get?_push_of_some _ hb))
   · exact wpAny_pure ⟨v,rfl,wpAny_pure (hY v s₁ gs' hb hv)⟩
end
end PySem
namespace Mine
theorem bare_set {g:Array GenState}(h:AllBare g) (i:Nat) {x:GenState}(hx:x.bare=true):AllBare (g.setIfInBounds i x):=fun y hy=>by
 rcases Array.mem_or_eq_of_mem_setIfInBounds hy with hy | rfl
 · exact h y hy
 · exact hx
section
variable {G:Glb}{stk:List Env}{sv sv':Sv}{pr pr':Pr}{H:HP}{s s₁:Shared}
theorem RelC.gen (R:RelC G stk sv pr H s) {g:Array GenState}(hb:AllBare g):RelC G stk sv pr { H with g:=g } { s with gens:=g }:=
 ⟨R.base,R.frames,R.fsv,R.ns,R.nd,R.own,R.prot,rfl,hb,R.os⟩
theorem RelC.con {Hc:HP}(R:RelC G stk sv pr H s) (hs:sv.map (·.1)=sv'.map (·.1)) (hp:pr.map (·.1)=pr'.map (·.1)) (ho:H.o=Hc.o) (t:Tell G sv' pr' Hc s s₁):RelC G stk sv pr H s₁ where
 base:=fun b o e=>t.1 b o (.inl (by rw [e];simp -iota)) (R.base b o e)
 frames:=frames_keeps R.frames fun b o e hm=>⟨o,t.1 b o (.inr (.inl (hs▸R.frame_mem hm))) e,id⟩
 fsv:=R.fsv
 ns:=fun p hp'=>⟨ns_keeps (R.ns p hp').1 fun o e=>t.1 _ o (.inr (.inl (hs▸List.mem_map_of_mem hp'))) e,(R.ns p hp').2⟩
 nd:=R.nd
 own:=fun a co e=>let ⟨x,y,o,z,u⟩:=R.own a co e;⟨x,y,o,t.1 _ _ (.inr (.inr (.inr (by rw [← ho,e];simp -iota)))) z,u⟩
 prot:=fun p hp'=>let ⟨x,y,z,u⟩:=R.prot p hp';⟨t.1 _ _ (.inr (.inr (.inl (hp▸List.mem_map_of_mem hp')))) x,y,z,u⟩
 gens:=t.2.1.trans R.gens
 bare:=R.bare
 os:=t.2.2.trans R.os
end
noncomputable abbrev gR (G:Glb) (stk:List Env) (sv:Sv) (pr:Pr) (Hc:HP) (L P:Addr) (env:Env) (pos:Pos) (qual:Str) (rows:List Addr):GenEnd:=genR rows.length (genTT G stk sv pr Hc L env) (genJ G sv pr Hc P pos qual)
noncomputable abbrev gY (G:Glb) (stk:List Env) (sv:Sv) (pr:Pr) (Hc:HP) (L P:Addr) (env:Env) (pos:Pos) (qual:Str) (rows:List Addr):Protocol:=genY rows.length rows (genTT G stk sv pr Hc L env) (genJ G sv pr Hc P pos qual) (genOk G sv pr Hc)
noncomputable def Ready (G:Glb) (A:Around) (stk:List Env) (sv:Sv) (pr:Pr) (Hc:HP) (L P:Addr) (env:Env) (pos:Pos) (qual:Str) (rows:List Addr) (g i:Nat) (s:Shared):Prop:=
 ∃ gs,s.gens[g]? = some gs∧gs.Goes G.M A.in1 (gR G stk sv pr Hc L P env pos qual rows) (gY G stk sv pr Hc L P env pos qual rows) (rows.length - i) (.send .none) (s.setGen g .running)
section
variable {G:Glb}{A:Around}{stk:List Env}{sv sv₀:Sv}{pr pr₀:Pr}{Hc Hb:HP}{s:Shared}{L P:Addr}{env:Env}{pos:Pos}{qual:Str}{rows:List Addr}{g i a:Nat}{E:Value→Shared→Prop}{Q:Option Value→Shared→Prop}
theorem gen_back {s₁:Shared}{y:GenState}(R:RelC G stk sv pr Hb s) (hat:(i=0∧sv=sv₀∧pr=pr₀∧Hc.g=(s.setGen g .running).gens)∨(0<i∧sv.map (·.1)=sv₀.map (·.1)∧pr.map (·.1)=pr₀.map (·.1)∧Hb.o=Hc.o)) (hy:y.bare=true)
   (tt:genTT G stk sv₀ pr₀ Hc L env i (s.setGen g .running) s₁):∃ H₂,H₂.o=Hc.o∧RelC G stk sv pr H₂ (s₁.setGen g y):=by
 rcases hat with ⟨rfl,rfl,rfl,_⟩ | ⟨hi,h1,h2,h3⟩
 · obtain ⟨mm,R'⟩:=tt
   have R'':=R'.sleep R.fsv
   exact ⟨{ Hc with g:=(s₁.setGen g y).gens },rfl,R''.gen (g:=(s₁.setGen g y).gens) (bare_set (R''.gens▸R''.bare) g hy)⟩
 · obtain ⟨j,rfl⟩:∃ j,i=j+1:=⟨i - 1,(Nat.sub_add_cancel hi).symm⟩
   have R₀:RelC G stk sv pr { Hb with g:=(s.setGen g .running).gens } (s.setGen g .running):=R.gen (bare_set (R.gens▸R.bare) g rfl)
   have R':=R₀.con h1 h2 h3 tt
   exact ⟨{ Hb with g:=(s₁.setGen g y).gens },h3,R'.gen (g:=(s₁.setGen g y).gens) (bare_set (R'.gens▸R'.bare) g hy)⟩
theorem gen_next {nm qn:Value}(hh:A.handled=none) (hroom:A.depth<recursionLimit) (R:RelC G stk sv pr Hb s)
   (hat:(i=0∧sv=sv₀∧pr=pr₀∧Hc.g=(s.setGen g .running).gens)∨(0<i∧sv.map (·.1)=sv₀.map (·.1)∧pr.map (·.1)=pr₀.map (·.1)∧Hb.o=Hc.o))
   (ha:Hb.o a=some (.obj { cls:=.type "generator",data:=.fields #[.int g 0,nm,qn] })) (hr:Ready G A stk sv₀ pr₀ Hc L P env pos qual rows g i s) (hi:i≤rows.length)
   (hQ:∀ r s₁ H₂,rows[i]? = some r→H₂.o=Hc.o→RelC G stk sv pr H₂ s₁→genJ G sv₀ pr₀ Hc P pos qual s₁.heap →
     (∃ Own,genOk G sv₀ pr₀ Hc Own∧∀ s'',(∀ b∈Own,∀ o,s₁.heap.get? b=some o→s''.heap.get? b=some o)→s''.gens=s₁.gens→s''.heap.NoLimit→Ready G A stk sv₀ pr₀ Hc L P env pos qual rows g (i+1) s'')→Q (some (.ref r)) s₁)
   (hD:∀ s₁ H₂,i=rows.length→H₂.o=Hc.o→RelC G stk sv pr H₂ s₁→genJ G sv₀ pr₀ Hc P pos qual s₁.heap→Q none s₁):wpAny G.M A (pyNext (.ref a)) Q E s:=by
 obtain ⟨gs,hgs,hgo⟩:=hr
 obtain ⟨o,ho,rfl,_⟩:=R.get ha
 refine pyNext_genQ (P:=fun n s₀ s₁=>n=0∧genTT G stk sv₀ pr₀ Hc L env rows.length s₀ s₁∧genJ G sv₀ pr₀ Hc P pos qual s₁.heap) (Y:=gY G stk sv₀ pr₀ Hc L P env pos qual rows) (n:=rows.length - i) hh (G.T.nolimit.keeps R.base) hroom ⟨_,nm,qn,ho,rfl,rfl,rfl⟩ hgs hgo ?_ ?_
 · rintro v s₁ gs' hb yq4
   obtain ⟨i',r,hi',hrow,rfl,tt,hj,Own,hok,hkap⟩:=yq4
   have hlt:i'<rows.length:=(List.getElem?_eq_some_iff.mp hrow).1
   by_cases hiN:i=rows.length
   · 
     exfalso
     have e0:rows.length - i=0:=by rw [hiN,Nat.sub_self]
     rw [e0] at hkap hi'
     have hi'':i'+1=rows.length:=by rw [← hi',Nat.zero_sub,Nat.zero_add]
     refine hkap s₁ (fun _ _ _ e=>e) (G.T.nolimit.keeps ?_)
     rcases i' with _ | j
     · obtain ⟨mm,R'⟩:=tt;exact R'.base
     · exact fun b o e=>tt.1 b o (.inl (by rw [e];simp -iota)) (R.base b o e)
   obtain ⟨m,hm⟩:∃ m,rows.length - i=m+1:=⟨rows.length - i - 1,(Nat.sub_add_cancel (Nat.sub_pos_of_lt (Nat.lt_of_le_of_ne hi hiN))).symm⟩
   have:i'=i:=by
     have hx:=Nat.add_sub_of_le hi
     rw [hm] at hx hi'
     exact Nat.add_left_cancel (n:=m+1) (by rw [Nat.add_right_comm,Nat.add_comm (m+1) i,hx];exact hi')
   subst this
   rw [hm] at hkap
   obtain ⟨H₂,e₂,R₂⟩:=gen_back R hat hb tt
   have hgl:s₁.gens=(s.setGen g .running).gens:=by
     rcases hat with ⟨rfl,rfl,rfl,hg⟩ | ⟨hi0,_,_,_⟩
     · obtain ⟨mm,R'⟩:=tt
       exact R'.gens.trans hg
     · obtain ⟨j,rfl⟩:∃ j,i'=j+1:=⟨i' - 1,(Nat.sub_add_cancel hi0).symm⟩
       exact tt.2.1
   refine hQ r _ H₂ hrow e₂ R₂ hj ⟨Own,hok,fun s'' hk hg hl=>⟨gs',?_,?_⟩⟩
   · rw [hg];exact setGen_self (gs:=.running) (by rw [hgl];exact setGen_self hgs)
   · rw [sub_step hm]
     exact hkap (s''.setGen g .running) hk hl
 · rintro s₁ yq1 h' hk
   obtain ⟨hn,tt,hj⟩:=yq1
   have hiN:i=rows.length:=Nat.le_antisymm hi (Nat.le_of_sub_eq_zero hn)
   subst hiN
   obtain ⟨H₂,e₂,R₂⟩:=gen_back (y:=.finished) R hat rfl tt
   refine hD _ H₂ rfl e₂ (R₂.grow (tk:=s₁.toks) (dr:=s₁.drawn) (fun b o e=>hk b o e) (fun a co e=>.inl e) rfl) ?_
   obtain ⟨c',oc,vs,t,j1,j2,z1,z2,z3,z4⟩:=hj
   exact ⟨c',oc,vs,t,hk _ _ j1,hk _ _ j2,z1,z2,z3,z4⟩
end
end Mine
end
section
open PySem PySem.W PyProof.Rows PySem.Calls
set_option maxHeartbeats 2000000
namespace Mine
noncomputable def genHc (H:HP) (L P:Addr) (g:Nat):HP:={ (H.del L).del P with g:=H.g.setIfInBounds g .running }
structure GenIn (G:Glb) (A:Around) (stk:List Env) (H:HP) (a g:Nat) (L P:Addr) (env:Env) (pos:Pos) (qual:Str) (rows:List Addr):Prop where
 obj:∃ nm qn,H.o a=some (.obj { cls:=.type "generator",data:=.fields #[.int g 0,nm,qn] })
 aL:a≠L
 aP:a≠P
 table:∃ c,H.o P=some c
 PL:P≠L
 ready:∀ sv pr s,RelC G stk sv pr H s→Ready G A stk sv pr (genHc H L P g) L P env pos qual rows g 0 s
noncomputable def Back (H:HP) (L P:Addr) (pos:Pos) (qual:Str) (H':HP):Prop:=(∀ x co,x≠P→x≠L→H.o x=some co→H'.o x=some co)∧LamOk P pos qual H'
theorem genHc_ne {H:HP}{L P:Addr}{g:Nat}{x:Addr}(h1:x≠L) (h2:x≠P):(genHc H L P g).o x=H.o x:=by
 show ((H.del L).del P).o x=_
 rw [HP.del_ne h2,HP.del_ne h1]
noncomputable def ownPr (Hc:HP) (h:Heap) (Own:List Addr):Pr:=Own.filterMap fun b=>match Hc.o b with
 | none=>(h.get? b).map (b,·)
 | some _=>none
theorem mem_ownPr {Hc:HP}{h:Heap}{Own:List Addr}{p:Addr × Obj}:p∈ownPr Hc h Own↔p.1∈Own∧Hc.o p.1=none∧h.get? p.1=some p.2:=by
 unfold ownPr
 rw [List.mem_filterMap]
 constructor
 · rintro yq0
   refine xe12 yq0 fun b hb e=>?_
   rcases hn:Hc.o b with _ | _
   · rw [hn] at e
     refine xe12 (Option.map_eq_some_iff.mp e) fun o ho zq2=>?_
     obtain rfl:=zq2
     exact ⟨hb,hn,ho⟩
   · rw [hn] at e;exact no_ns e
 · rintro yq0
   refine xe03 yq0 fun h1 h2 h3=>?_
   exact ⟨p.1,h1,by rw [h2];dsimp only;rw [h3];rfl⟩
section
variable {G:Glb}{stk:List Env}{sv sv₀:Sv}{pr pr₀:Pr}{H Hc:HP}{s s':Shared}
theorem RelC.guards {q:Pr}(R:RelC G stk sv pr H s) (h:∀ p∈q,ProtAt G sv H.o s.heap p):RelC G stk sv (q++pr) H s:=
 ⟨R.base,R.frames,R.fsv,R.ns,R.nd,R.own,fun p hp=>(List.mem_append.mp hp).elim (h p) (R.prot p),R.gens,R.bare,R.os⟩
theorem RelC.unguards {q:Pr}(R:RelC G stk sv (q++pr) H s):RelC G stk sv pr H s:=
 ⟨R.base,R.frames,R.fsv,R.ns,R.nd,R.own,fun p hp=>R.prot p (List.mem_append_right _ hp),R.gens,R.bare,R.os⟩
theorem own_guard {Own:List Addr}(R:RelC G stk sv pr H s) (ho:H.o=Hc.o) (hs:sv.map (·.1)=sv₀.map (·.1)) (hok:genOk G sv₀ pr₀ Hc Own):RelC G stk sv (ownPr Hc s.heap Own++pr) H s:=
 R.guards fun p hp=>by
   refine xe03 (mem_ownPr.mp hp) fun h1 h2 h3=>?_
   rcases hok _ h1 with ⟨h4,h5⟩ | ⟨ob,h4⟩
   · exact ⟨h3,h5,fun hm=>h4 (.inr (.inl (hs▸hm))),ho▸h2⟩
   · rw [h4] at h2;exact no_sn h2
theorem own_kept {Own:List Addr}{H':HP}{sv':Sv}{stk':List Env}(R:RelC G stk sv pr H s) (ho:H.o=Hc.o) (hok:genOk G sv₀ pr₀ Hc Own) (R':RelC G stk' sv' (ownPr Hc s.heap Own++pr) H' s') (hsub:Sub H H') :
   ∀ b∈Own,∀ o,s.heap.get? b=some o→s'.heap.get? b=some o:=fun b hb o e=>by
 have key:Hc.o b=none→s'.heap.get? b=some o:=fun hn=>(R'.prot (b,o) (List.mem_append_left _ (mem_ownPr.mpr ⟨hb,hn,e⟩))).1
 rcases hok b hb with ⟨h4,_⟩ | ⟨ob,h4⟩
 · refine key ?_
   rcases q:Hc.o b with _ | c
   · rfl
   · exact absurd (.inr (.inr (.inr (by rw [q];simp)))) h4
 · have h5:H.o b=some (.obj ob):=by rw [ho];exact h4
   obtain ⟨o1,g1,rfl,_⟩:=R.get h5
   obtain ⟨o2,g2,rfl,_⟩:=R'.get (hsub.2 _ _ h5)
   rw [g1] at e;obtain rfl:=Option.some.inj e;exact g2
theorem gen_fin {L P:Addr}{g:Nat}{pos:Pos}{qual:Str}{H₀:HP}{s₀:Shared}{cP:CO}(R₀:RelC G stk sv₀ pr₀ H₀ s₀) (hP:H₀.o P=some cP) (R:RelC G stk sv pr H s) (hs:sv.map (·.1)=sv₀.map (·.1)) (hp:pr.map (·.1)=pr₀.map (·.1)) (ho:H.o=(genHc H₀ L P g).o)
   (hj:genJ G sv₀ pr₀ (genHc H₀ L P g) P pos qual s.heap):∃ H',Back H₀ L P pos qual H'∧RelC G stk sv pr H' s∧Sub H H':=by
 obtain ⟨c',oc,vs,t,j1,j2,j3,j4,j5,j6⟩:=hj
 have hPn:H.o P=none:=by rw [ho];exact HP.del_self
 have hPp:P∉pr₀.map (·.1):=fun hm=>by
   refine xe12 (List.mem_map.mp hm) fun p hp' e=>?_
   have:=(R₀.prot p hp').4
   rw [show p.1=P from e,hP] at this;cases this
 have hcp:c'∉pr.map (·.1)∧c'∉sv.map (·.1)∧Off G c'∧(H.o c'=some (.obj oc)∨H.o c'=none):=by
   rcases j6 with j6 | ⟨j6,j7⟩
   · have e:H.o c'=some (.obj oc):=by rw [ho];exact j6
     refine ⟨fun hm=>?_,(R.own _ _ e).2,(R.own _ _ e).1,.inl e⟩
     refine xe12 (List.mem_map.mp hm) fun p hp' q=>?_
     have:=(R.prot p hp').4
     rw [show p.1=c' from q,e] at this;exact no_sn this
   · refine ⟨fun hm=>j6 (.inr (.inr (.inl (hp▸hm)))),fun hm=>j6 (.inr (.inl (hs▸hm))),j7,.inr ?_⟩
     rcases q:H.o c' with _ | c
     · rfl
     · exact absurd (.inr (.inr (.inr (by rw [← ho,q];simp)))) j6
 refine ⟨(H.put P (.obj (tabObj #[rawInt pos.line,rawInt pos.col,.ref c']))).put c' (.obj oc),⟨fun x co h1 h2 e=>?_,.inr ⟨c',oc,vs,t,HP.put_ne (Ne.symm j5) HP.put_same,HP.put_same,j3,j4,j5⟩⟩,?_,?_⟩
 · have e':H.o x=some co:=by rw [ho,genHc_ne h2 h1];exact e
   by_cases q:x=c'
   · subst q
     rcases hcp.2.2.2 with e2 | e2
     · rw [HP.put_same];exact e2.symm.trans e'
     · rw [e2] at e';cases e'
   · exact HP.put_ne q (HP.put_ne h1 e')
 · refine R.grow (tk:=s.toks) (dr:=s.drawn) (fun _ _ e=>e) (fun x co e=>?_) rfl
   by_cases q:x=c'
   · subst q
     rw [HP.put_same] at e;obtain rfl:=Option.some.inj e
     exact .inr ⟨hcp.2.2.1,hcp.2.1,hcp.1,_,j2,rfl,Obj.isFreed_of_fields j3⟩
   rw [HP.put_ne q rfl] at e
   by_cases q2:x=P
   · subst q2
     rw [HP.put_same] at e;obtain rfl:=Option.some.inj e
     exact .inr ⟨(R₀.own _ _ hP).1,hs▸(R₀.own _ _ hP).2,hp▸hPp,_,j1,rfl,rfl⟩
   · rw [HP.put_ne q2 rfl] at e;exact .inl e
 · refine ⟨rfl,fun x co e=>?_⟩
   by_cases q:x=c'
   · subst q
     rcases hcp.2.2.2 with e2 | e2
     · rw [HP.put_same];exact e2.symm.trans e
     · rw [e2] at e;exact no_ns e
   · exact HP.put_ne q (HP.put_ne ((HP.fne hPn e).symm) e)
end
end Mine
end
section
open PySem PySem.W PyProof.Rows PySem.Calls
set_option maxHeartbeats 2000000
namespace Mine
section
variable {G:Glb}{S:Sit}{X:KV}{m:Names}{H:HP}{KFl:KF}
inductive ForG (G:Glb) (S:Sit) (H:HP) (L P:Addr) (env:Env) (pos:Pos) (qual:Str) (rows:List Addr) (g:Nat) (mm₀:Str→Option Value) (I:Nat→Names→Prop) (k:Nat) (s':Shared):Prop
 | mk (i:Nat) (m:Names) (mm:Str→Option Value) (Hb:HP) (hk:k=rows.length - i) (hin:i≤rows.length) (M:MOk G S.env mm m) (R:RelC G S.stk ((S.L,mm)::S.sv) S.pr Hb s') (hI:I i m)
   (hr:Ready G S.A S.stk ((S.L,mm₀)::S.sv) S.pr (genHc H L P g) L P env pos qual rows g i s') (hat:(i=0∧mm=mm₀∧Hb=H)∨(0<i∧Hb.o=(genHc H L P g).o))
inductive ForGQ (G:Glb) (S:Sit) (t:Expr) (body orelse:List Stmt) (KFl:KF) (X:KV) (v:Value) (m:Names) (H:HP):Prop
 | mk (a:Addr) (g:Nat) (L P:Addr) (env:Env) (pos:Pos) (qual:Str) (rows:List Addr) (ev:v=.ref a) (GI:GenIn G S.A S.stk H a g L P env pos qual rows) (I:Nat→Names→Prop) (h0:I 0 m)
   (turn:∀ pr i r m Hb,rows[i]? = some r→Hb.o=(genHc H L P g).o→I i m→AsgC G (S.guard pr) t (.ref r) (fun _=>WS G (S.guard pr) body (turnK (fun m H'=>Sub Hb H'∧I (i+1) m) (fun _ _ _=>False)) noX) noX m Hb)
   (fin:∀ m H',Back H L P pos qual H'→I rows.length m→WS G S orelse KFl X m H')
theorem x_forGen {t it:Expr}{body orelse:List Stmt}{p:Pos}(O:S.Ok G) (hh:S.A.handled=none) (hroom:S.A.depth<recursionLimit)
   (h:WE G S it (ForGQ G S t body orelse KFl X) X m H)
   (hi:∀ x,foldedSetIterable it S.env x=pure x:=by intro _;with_unfolding_all rfl) (ht:∀ r v,letOwnedTupleGo t r v=pure ():=by intro _ _;with_unfolding_all rfl):WX G S (.For t it body orelse p) KFl X m H:=by
 refine W.eq (exec_For ..) (W.bind (W.standAt (W.bind (W.post h fun v m H h=>?_))))
 rw [hi]
 refine W.bind (W.pure (W.bind (W.standAt ?_)))
 obtain ⟨a,g,L,P,env,pos,qual,rows,ev,GI,I,h0,turn,fin⟩:=h
 obtain rfl:=er_ref' ev
 intro s mm₀ M R
 refine xe21 GI.obj fun nm qn hobj=>?_
 refine xe11 GI.table fun cP hP=>?_
 obtain ⟨o,ho,rfl,_⟩:=R.get hobj
 refine wpAny_bind (wpAny_holding (wpAny_pyIter_gen ⟨_,nm,qn,ho,rfl,rfl,rfl⟩ ?_))
 refine wpAny_runOwn ?_
 have pass:∀ {α:Type}{t:Sem α}{Q:α→Shared→Prop}{s},wpAny G.M S.A t Q (PostX G S X) s→wpAny G.M S.A t Q (notedBy G.M S.A S.env fun e s'=>cameBackBy G.M S.A S.env (PostX G S X) e s') s:=
   fun h=>wpAny_mono h (fun _ _ x=>x) fun e s x=>passesX O e s x
 refine codeAny_forLoop (ForG G S H L P env pos qual rows g mm₀ I) ?_ rows.length
   ⟨0,m,mm₀,H,rfl,Nat.zero_le _,M,R,h0,GI.ready _ _ s R,.inl ⟨rfl,rfl,rfl⟩⟩ (ht _)
 rintro k s' yq2
 obtain ⟨i,m,mm,Hb,rfl,hin,M,R',hI,hr,hat⟩:=yq2
 have hat':(i=0∧((S.L,mm)::S.sv)=((S.L,mm₀)::S.sv)∧S.pr=S.pr∧(genHc H L P g).g=(s'.setGen g .running).gens)∨(0<i∧(((S.L,mm)::S.sv).map (·.1))=(((S.L,mm₀)::S.sv).map (·.1))∧S.pr.map (·.1)=S.pr.map (·.1)∧Hb.o=(genHc H L P g).o):=by
   rcases hat with ⟨rfl,rfl,rfl⟩ | ⟨h1,h2⟩
   · exact .inl ⟨rfl,rfl,rfl,by show _=s'.gens.setIfInBounds g .running;rw [R'.gens];rfl⟩
   · exact .inr ⟨h1,rfl,rfl,h2⟩
 have ha':Hb.o a=some (.obj { cls:=.type "generator",data:=.fields #[.int g 0,nm,qn] }):=by
   rcases hat with ⟨rfl,rfl,rfl⟩ | ⟨h1,h2⟩
   · exact hobj
   · rw [h2,genHc_ne GI.aL GI.aP];exact hobj
 refine gen_next hh hroom R' hat' ha' hr hin ?_ ?_
 · rintro r s₁ H₂ hrow e₂ R₂ hj yq7
   refine xe12 yq7 fun Own hok hrd=>?_
   dsimp only
   have hlt:i<rows.length:=(List.getElem?_eq_some_iff.mp hrow).1
   have R₃:=own_guard (sv₀:=(S.L,mm₀)::S.sv) (pr₀:=S.pr) R₂ e₂ rfl hok
   refine wpAny_mono (turn (ownPr (genHc H L P g) s₁.heap Own++S.pr) i r m H₂ hrow e₂ hI (.ref r) rfl _ mm M R₃) (fun _ s₂ qq=>?_) fun _ _ x=>x.no.elim
   obtain ⟨m₂,H₃,mm₂,M₂,R₄,k⟩:=qq
   refine wpAny_mono (k s₂ mm₂ M₂ R₄) (fun f s₃ qq=>?_) fun _ _ x=>x.no.elim
   obtain ⟨m₃,H₄,mm₃,M₃,R₅,k⟩:=qq
   have again:Sub H₂ H₄∧I (i+1) m₃→∃ m',m'<rows.length - i∧ForG G S H L P env pos qual rows g mm₀ I m' s₃:=by
     rintro yq0
     refine xe02 yq0 fun hsub hI'=>?_
     have R₆:RelC G S.stk ((S.L,mm₃)::S.sv) S.pr H₂ s₃:=(R₅.unguards).sub hsub
     exact ⟨rows.length - (i+1),by exact Nat.sub_lt_sub_left (by assumption) (Nat.lt_succ_self _),i+1,m₃,mm₃,H₂,rfl,hlt,M₃,R₆,hI',hrd s₃ (own_kept R₂ e₂ hok R₅ hsub) (R₆.gens.trans R₂.gens.symm) (G.T.nolimit.keeps R₆.base),.inr ⟨Nat.succ_pos _,e₂⟩⟩
   rcases f with _ | _ | _ | v
   · exact again k
   · exact k.elim
   · exact again k
   · exact k.elim
 · rintro s₁ H₂ rfl e₂ R₂ hj
   dsimp only
   refine xe13 (gen_fin (sv₀:=(S.L,mm₀)::S.sv) (pr₀:=S.pr) R hP R₂ rfl rfl e₂ hj) fun H' hb R₃ _=>?_
   exact pass (fin m H' hb hI _ mm M R₃)
end
end Mine
end
section
open PySem PySem.W PyProof.Rows PySem.Calls
set_option maxHeartbeats 2000000
namespace Mine
theorem RelC.lay {G:Glb}{stk:List Env}{L:Addr}{mm:Str→Option Value}{sv:Sv}{pr:Pr}{H:HP}{s:Shared}(R:RelC G stk ((L,mm)::sv) pr H s) (hf:∀ env∈stk,∀ f,env.frame=some f→f∈sv.map (·.1)):RelC G stk sv pr (H.put L (.fr mm)) s where
 base:=R.base
 frames:=R.frames
 fsv:=hf
 ns:=fun p hp=>R.ns p (.tail _ hp)
 nd:=(List.nodup_cons.mp (by rw [← List.map_cons];exact R.nd)).2
 own:=fun a co e=>by
   by_cases q:a=L
   · subst q
     rw [HP.put_same] at e;obtain rfl:=Option.some.inj e
     refine xe02 (R.ns _ (.head _)) fun zq0 hb=>?_
     obtain ⟨o,es,ep,ho,h1,h2,h3⟩:=zq0
     have nd:=R.nd
     rw [List.map_cons,List.nodup_cons] at nd
     exact ⟨.of hb,nd.1,o,ho,es,ep,h1,h2,h3⟩
   · rw [HP.put_ne q rfl] at e
     obtain ⟨x,y,z⟩:=R.own a co e
     exact ⟨x,fun hm=>y (.tail _ hm),z⟩
 prot:=fun p hp=>by
   obtain ⟨x,y,z,u⟩:=R.prot p hp
   exact ⟨x,y,fun hm=>z (.tail _ hm),HP.put_ne (fun q=>z (q▸.head _)) u⟩
 gens:=R.gens
 bare:=R.bare
 os:=R.os
noncomputable abbrev genObj (g:Nat) (nm qn:Value):Obj:={ cls:=.type "generator",data:=.fields #[.int g 0,nm,qn] }
noncomputable abbrev genH (H:HP) (L a:Addr) (mm:Str→Option Value) (c:Code) (nm qn:Value):HP:=(({ H with g:=H.g.push (.fresh c) }:HP).put L (.fr mm)).put a (.obj (genObj H.g.size nm qn))
theorem enterG {G:Glb}{A:Around}{stk:List Env}{sv:Sv}{pr:Pr}{f:Addr}{vs:List Value}{kw:List (Str × Value)}{K X:KH}{H:HP}{n:Nat}
   (r:Rm A stk (n+1)) (ls:List Str) (gs:List (Str × Value)) (binds:List (Str × Value)) {m₁:Names}{fd:FuncData}{oc:Value}{od:Option Addr}{osl:Array (Option Value)}(ho:G.K.lookup f=some ⟨oc,od,.func fd,osl⟩) {body:List Stmt}(hbody:fd.body=.stmts body)
   (hbind:∀ s rvs rkw,G.K.In s.heap→rvs.map er=vs→rkw.map (fun p=>(p.1,er p.2))=kw→∃ rb,BindsTo s fd ⟨rvs,rkw⟩ rb∧rb.map (fun p=>(p.1,er p.2))=binds)
   (hcd:codeIn G.K fd.code fd.qualname=true) (hchk:chkM fd.scope.names ls [] (gs.map (·.1))=true) (hgs:∀ x∈gs,x∈G.gtab) (hB:BindM binds (mkM ls [] gs) H m₁ H)
   (h:∀ L a env mm nm qn,env=({ scope:=fd.scope,locals:=L,globals:=mainGlobals,cells:=[],qual:=fd.qualname ++ ".<locals>.",func:=some f,code:=fd.code,frame:=some L,builtins:=builtinsNs }:Env) →
     G.base.objs.size≤L→H.o L=none→H.o a=none→a≠L→MOk G env mm m₁→K (.ref a) (genH H L a mm (.func body env) nm qn))
   (hco:fd.scope.isCoroutine=false:=by rfl) (hgen:fd.scope.isGenerator=true:=by rfl) (hcl:fd.closure=[]:=by rfl) (hkind:fd.scope.kind=.function:=by rfl) (hgl:fd.globals=mainGlobals:=by rfl) (hbl:fd.builtins=builtinsNs:=by rfl)
   (hnc:(fd.scope.names.all fun x=>x.2 != .cell)=true:=by rfl):Calls G A stk sv pr (.ref f) vs kw K X H:=by
 intro rf s rvs rkw ef R e1 e2
 obtain rfl:=er_ref' ef
 have KIn:=G.X.keeps R.base
 have hbig:=big_of r.top R
 refine xe12 (hbind s rvs rkw KIn e1 e2) fun rb hb hbe=>?_
 refine codeAny_call_generator (Nat.lt_of_le_of_lt (Nat.le_trans (Nat.le_add_right _ _) r.c.depth) (by decide)) (KIn _ _ ho) rfl hco hgen hbody (codeRec_of KIn hcd) (hb _ _ _ _ (frameIn hbe R hbig hkind hgl hbl ?_))
 rw [hcl]
 refine cells_none hnc ⟨mkM ls [] gs,m₁,H,mkM_ok rfl hchk hgs,hB,fun mm s₂ M' R' _=>⟨G.T.nolimit.keeps R'.base,?_⟩⟩
 have hL:=R.fresh
 have R₄:=R'.lay R.fsv
 have hgs₂:s₂.gens=H.g:=R'.gens
 have R₅:=R₄.gen (g:=s₂.gens.push (.fresh (.func body (frEnv fd f s.heap.objs.size [])))) (by rw [hgs₂];exact R'.bare.push rfl)
 refine xe32 r.top fun e₀ rr f₀ zq3 hf₀=>?_
 obtain rfl:=zq3
 refine xe12 (List.mem_map.mp (R.fsv e₀ (.head _) f₀ hf₀)) fun p hp _=>?_
 have ha:=R₅.fresh
 have R₆:=(R₅.push hp (o:=genObj s₂.gens.size (.str fd.name s₂.toks) (.str fd.qualname (s₂.toks+1))) (co:=.obj (genObj s₂.gens.size (.str fd.name s₂.toks) (.str fd.qualname (s₂.toks+1)))) ⟨rfl,rfl⟩).toks (s₂.toks+1+1)
 have hneq:s₂.heap.objs.size≠s.heap.objs.size:=fun q=>by
   have:(({ H with g:=s₂.gens.push (.fresh (.func body (frEnv fd f s.heap.objs.size []))) }:HP).put s.heap.objs.size (.fr mm)).o s₂.heap.objs.size=none:=ha
   rw [q,HP.put_same] at this;exact no_sn this
 have ha':H.o s₂.heap.objs.size=none:=by
   have:(({ H with g:=s₂.gens.push (.fresh (.func body (frEnv fd f s.heap.objs.size []))) }:HP).put s.heap.objs.size (.fr mm)).o s₂.heap.objs.size=none:=ha
   rw [HP.put_ne hneq rfl] at this;exact this
 refine ⟨_,R₆,?_⟩
 have:=h s.heap.objs.size s₂.heap.objs.size _ mm (.str fd.name s₂.toks) (.str fd.qualname (s₂.toks+1)) rfl hbig hL ha' hneq M'
 unfold genH at this
 rw [← hgs₂] at this
 exact this
end Mine
end
section
set_option maxHeartbeats 2000000
namespace PySem
open Sem (wp)
open PySem.W PyProof.Rows Calls
noncomputable def Code.light (c:Code):Prop:=∀ (self:Value) (M:Model) (p:Pos) (s:Shared),wp M ⟨c,none,none,[],none⟩ (Builtin.Bytes.exported self) (fun b _ _=>b=false) (fun _ _ _=>True) p s
noncomputable def Lights (l:List (Code × Pos)):Prop:=∀ q∈l,q.1.light
noncomputable def wpN {α:Type}(M:Model) (A:Around) (t:Sem α) (Q:α→Shared→Prop) (E:Value→Shared→Prop) (s:Shared):Prop:=
 ∀ Γ p,Γ.In A→Γ.code.light→Lights Γ.below→wp M Γ t (fun a _ s'=>Q a s') (fun e _ s'=>E e s') p s
noncomputable def codeN (M:Model) (A:Around) (c:Code) (R:Result→Shared→Prop) (s:Shared):Prop:=
 ∀ Γ p,Γ.code=c→Γ.Below A→Lights Γ.below→wpCode M Γ R p s
section
variable {α β:Type}{M:Model}{A:Around}{E:Value→Shared→Prop}{s:Shared}
theorem wpN_any {t:Sem α}{Q:α→Shared→Prop}(h:wpAny M A t Q E s):wpN M A t Q E s:=fun Γ p hΓ _ _=>h Γ p hΓ
theorem wpN_mono {t:Sem α}{Q Q':α→Shared→Prop}{E':Value→Shared→Prop}(h:wpN M A t Q E s) (hQ:∀ a s,Q a s→Q' a s) (hE:∀ e s,E e s→E' e s):wpN M A t Q' E' s:=
 fun Γ p h1 h2 h3=>Sem.wp_mono M Γ t (fun a _ s=>hQ a s) (fun e _ s=>hE e s) p s (h Γ p h1 h2 h3)
theorem wpN_bind {m:Sem α}{f:α→Sem β}{Q:β→Shared→Prop}(h:wpN M A m (fun a s'=>wpN M A (f a) Q E s') E s):wpN M A (m >>= f) Q E s:=fun Γ p h1 h2 h3=>by
 rw [Sem.wp_bind']
 exact Sem.wp_mono M Γ m (fun a p' s' h'=>h' Γ p' h1 h2 h3) (fun _ _ _ h'=>h') p s (h Γ p h1 h2 h3)
theorem wpN_pure {a:α}{Q:α→Shared→Prop}(h:Q a s):wpN M A (pure a) Q E s:=fun _ _ _ _ _=>h
theorem wpN_holding {vs:List Value}{m:Sem α}{Q:α→Shared→Prop}(h:wpN M A m Q E s):wpN M A (holding vs m) Q E s:=
 fun Γ p h1 h2 h3=>by rw [Sem.wp_holding];exact h Γ p h1 h2 h3
theorem wpN_keep {vs:List Value}{m:Sem α}{Q:α→Shared→Prop}(h:wpN M A m Q E s):wpN M A (m.keep vs) Q E s:=
 fun Γ p h1 h2 h3=>by rw [Sem.wp_keep];exact h Γ p h1 h2 h3
theorem wpN_onRaise {m:Sem α}{k:Value→Sem Unit}{Q:α→Shared→Prop}(h:wpN M A m Q (fun e s'=>wpN M A (k e) (fun _ s''=>E e s'') E s') s):wpN M A (m.onRaise k) Q E s:=fun Γ p h1 h2 h3=>by
 rw [Sem.wp_onRaise]
 exact Sem.wp_mono M Γ m (fun _ _ _ h'=>h') (fun e p' s' h'=>h' Γ p' h1 h2 h3) p s (h Γ p h1 h2 h3)
theorem wpN_of_eq {t:Sem α}{a:α}{Q:α→Shared→Prop}(e:t=pure a) (h:Q a s):wpN M A t Q E s:=by rw [e];exact wpN_pure h
theorem wpN_call {f:Value}{pos:List Value}{kw:List (Str × Value)}{Q:Value→Shared→Prop}
   (hc:codeN M A (.call f ⟨pos,kw⟩) (fun r s'=>match r with | .ok (.ret v)=>Q v s' | .ok _=>False | .error e=>E e s') s):wpN M A (call f pos kw) Q E s:=fun Γ p h1 h2 h3=>by
 show wp M Γ (runValue _) _ _ p s
 rw [Sem.wp_runValue]
 refine hc _ p rfl (h1.enter _ none p (by intro x;cases x)) fun q hq=>?_
 rcases List.mem_cons.mp hq with rfl | hq
 · exact h2
 · exact h3 q hq
theorem codeN_of_tree {c:Code}{R:Result→Shared→Prop}(hl:c.light)
   (h:wpN M (A.under c) (M.den c) (fun fin s'=>match fin with | .done f=>R (.ok f) s' | .again c'=>c'.quiet=true∧codeN M A c' R s') (fun e s'=>R (.error e) s') s):codeN M A c R s:=fun Γ p hc h1 h3=>by
 rw [wpCode_iff_wp,hc]
 refine Sem.wp_mono M Γ _ (fun fin p' s' h'=>?_) (fun _ _ _ h'=>h') p s (h Γ p (hc▸h1.in) (hc▸hl) h3)
 cases fin with
 | done f=>exact h'
 | again c'=>exact ⟨h'.1,h'.2 (Γ.goto c') p' rfl (h1.goto c') h3⟩
theorem codeN_mono {c:Code}{R R':Result→Shared→Prop}(h:codeN M A c R s) (hR:∀ r s,R r s→R' r s):codeN M A c R' s:=fun Γ p h1 h2 h3=>wpCode_mono hR (h Γ p h1 h2 h3)
theorem wpN_exported {self:Value}{Q:Bool→Shared→Prop}(h:Q false s):wpN M A (Builtin.Bytes.exported self) Q E s:=fun Γ p h1 h2 h3=>by
 have hall:∀ q∈((Γ.code,p)::Γ.below),q.1.light:=fun q hq=>(List.mem_cons.mp hq).elim (fun e=>e▸h2) (h3 q)
 have key:∀ (l:List (Code × Pos)) (f:Code × Pos→Bool),(∀ q∈l,f q=false)→Q (l.any f) s:=fun l f hf=>by
   rw [List.any_eq_false.mpr fun x hx=>by rw [hf x hx];decide];exact h
 exact key _ _ fun q hq=>(Bool.or_eq_false_iff.mp (hall q hq self M q.2 s)).1
end
end PySem
end
section
set_option maxHeartbeats 2000000
namespace PySem
open Sem (wp)
open PySem.W PyProof.Rows Calls
namespace F
theorem ba_mro:mroOf (.type "bytearray")=pure [.type "bytearray",.type "object"]:=by rw [mroOf_type];kernel_rfl
theorem ba_lookup_new:typeLookup (.type "bytearray") "__new__" = pure (some (.builtin "bytearray.__new__")):=by rw [typeLookup_type,builtinLookup_eq_fast];kernel_rfl
theorem ba_slot_init:Slot "bytearray" "__init__" "bytearray.__init__":=.of (owner:="bytearray") (n:="__init__") (by rw [typeLookup_type,builtinLookup_eq_fast];kernel_rfl) (by decide +kernel) (by decide +kernel) (by decide +kernel) (by first | exact .inl (by decide +kernel) | exact .inr (by decide +kernel)) (by rw [isSubtype_type];kernel_rfl)
theorem ba_called:TypeCalled "bytearray" "bytearray.__new__" "bytearray.__init__":=
 ⟨by decide +kernel,by decide +kernel,⟨_,_,ba_mro⟩,madeBy_type ba_mro ba_lookup_new (by decide +kernel),by decide +kernel,by rw [isSubtype_type];kernel_rfl,ba_slot_init⟩
theorem ba_typeCall (a:Value):checkTypeCall "bytearray" ⟨[a],[]⟩=pure ():=by kernel_rfl
theorem ba_newCall (a:Value):checkBuiltinCall "bytearray.__new__" ⟨[.type "bytearray",a],[]⟩=pure ():=by kernel_rfl
theorem ba_entry_new:entryFor table "bytearray.__new__" = some Builtin.«list.__new__»:=entryFor_alias (id':="list.__new__") (by kernel_rfl) (by decide +kernel) (by decide +kernel) (by kernel_rfl)
theorem ba_entry_init:entryFor table "bytearray.__init__" = some Builtin.«bytearray.__init__»:=entryFor_of_tree (by kernel_rfl)
theorem ba_plain_new:plainId "bytearray.__new__" = true:=by decide +kernel
theorem ba_sub:isSubtype (.type "bytearray") (.type "bytearray")=pure true:=by rw [isSubtype_type];kernel_rfl
theorem ba_release:typeLookup (.type "bytearray") "__release_buffer__" = pure (some (.builtin "bytearray.__release_buffer__")):=by rw [typeLookup_type,builtinLookup_eq_fast];kernel_rfl
theorem ba_bind (v:Value):Builtin.Bytes.bindOptional "bytearray.__init__" "bytearray" ["source","encoding","errors"] [v] []=pure [some v,none,none]:=by kernel_rfl
theorem b_no_index:typeLookup (.type "bytes") "__index__" = pure none:=by rw [typeLookup_type,builtinLookup_eq_fast];kernel_rfl
theorem b_buffer:typeLookup (.type "bytes") "__buffer__" = pure (some (.builtin "bytes.__buffer__")):=by rw [typeLookup_type,builtinLookup_eq_fast];kernel_rfl
theorem b_release:typeLookup (.type "bytes") "__release_buffer__" = pure none:=by rw [typeLookup_type,builtinLookup_eq_fast];kernel_rfl
set_option linter.deprecated false in
theorem ba_drop : "bytearray.__release_buffer__".dropRight ("__release_buffer__".length+1) = "bytearray":=by decide +kernel
theorem ba_ends : "bytearray.__release_buffer__".endsWith ("." ++ "__release_buffer__")=true:=by decide +kernel
set_option linter.deprecated false in
theorem b_drop : "bytes.__buffer__".dropRight ("__buffer__".length+1) = "bytes":=by decide +kernel
theorem b_ends : "bytes.__buffer__".endsWith ("." ++ "__buffer__")=true:=by decide +kernel
theorem ba_sub_bytes:isSubtype (.type "bytes") (.type "bytes")=pure true:=by rw [isSubtype_type];kernel_rfl
end F
set_option maxRecDepth 1000000 in
set_option maxHeartbeats 4000000 in
theorem ba_owner:("bytearray.__new__".splitOn ".__new__").headD "" = "bytearray":=by rw [PySem.W.splitQ_eq];decide +kernel
section
variable {prog:Program}{w:World}{A:Around}{E:Value→Shared→Prop}{s:Shared}
theorem code_ba_new (a:Value) {Q₁:Value→Shared→Prop}
   (h:Q₁ (.ref s.heap.objs.size) { s with heap:=s.heap.push { cls:=.type "bytearray",data:=.bytearray #[] } }) :
   codeAny (model prog w) A (.call (.builtin "bytearray.__new__") ⟨[.type "bytearray",a],[]⟩) (wants Q₁ E) s:=by
 refine codeAny_of_tree ?_
 show wpAny _ A.in1 (do checkBuiltinCall "bytearray.__new__" ⟨[.type "bytearray",a],[]⟩;again (.builtin "bytearray.__new__" ⟨[.type "bytearray",a],[]⟩)) _ _ s
 refine wpAny_bind (wpAny_of_eq (F.ba_newCall a) (wpAny_pure ⟨plainId_quiet F.ba_plain_new _,codeAny_builtin_stack F.ba_entry_new rfl fun p st=>?_⟩))
 rw [Around.under_plainId F.ba_plain_new _]
 have hsub:=F.ba_sub
 have hown:=ba_owner
 obtain ⟨hp,g,d,tk,os⟩:=s
 simp only [hown]
 wp_walk
 exact h
theorem ba_ownRelease {a:Addr}{Q:Bool→Shared→Prop}(hT:s.TypeIs (.ref a) "bytearray") (h:Q false s):wpAny (model prog w) A (Builtin.Bytes.ownRelease (.ref a)) Q E s:=by
 unfold Builtin.Bytes.ownRelease Builtin.Bytes.slotIsOwn
 refine wpAny_bind (wpAny_bind (wpAny_specialOf hT F.ba_release ?_))
 dsimp only
 rw [F.ba_ends,F.ba_drop]
 exact wpAny_isInstance hT F.ba_sub (wpAny_pure h)
theorem b_ownRelease {b:Array UInt8}{t:Tok}{Q:Bool→Shared→Prop}(h:Q false s):wpAny (model prog w) A (Builtin.Bytes.ownRelease (.bytes b t)) Q E s:=by
 unfold Builtin.Bytes.ownRelease Builtin.Bytes.slotIsOwn
 refine wpAny_bind (wpAny_bind (wpAny_specialOf (T:="bytes") rfl F.b_release ?_))
 exact wpAny_pure (wpAny_pure h)
end
end PySem
end
section
set_option maxHeartbeats 2000000
namespace PySem
open Sem (wp)
open PySem.W PyProof.Rows Calls
section
variable {prog:Program}{w:World}{A:Around}{E:Value→Shared→Prop}{s:Shared}
noncomputable abbrev baObj (b:Array UInt8):Obj:={ cls:=.type "bytearray",data:=.bytearray b }
theorem ba_write {a:Addr}{b:Array UInt8}{f:Array UInt8→Array UInt8}{Q:Unit→Shared→Prop}(ho:s.heap.get? a=some (baObj b)) (hz:(f b).size≤sizeLine)
   (h:∀ h',h'.get? a=some (baObj (f b))→Heap.SameBut a s.heap h'→Q () { s with heap:=h' }):wpAny (model prog w) A (Builtin.Bytes.write (.ref a) f) Q E s:=by
 show wpAny _ _ (updateBytearray a f) _ _ _
 unfold updateBytearray
 refine wpAny_bind (wpAny_load ho ?_)
 show wpAny _ _ (update a (Obj.mapBytearray f) >>= fun _=>lookBehind a) _ _ _
 refine wpAny_bind (wpAny_update ho ?_)
 have hS₂:(s.heap.update a (Obj.mapBytearray f)).get? a=some (baObj (f b)):=Heap.get?_update_self (Obj.mapBytearray f) ho rfl
 refine wpAny_lookBehind hS₂ ?_ ?_
 · show (if (f b).size > sizeLine then some "bytearray:memory" else none)=none
   rw [if_neg (Nat.not_lt.mpr hz)]
 · exact h _ hS₂ (Heap.SameBut.update ..)
theorem b_buffer? {id:String}{b:Array UInt8}{t:Tok}{full:Bool}{Q:Option (Array UInt8)→Shared→Prop}(h:Q (some b) s):wpAny (model prog w) A (Builtin.Bytes.buffer? id (.bytes b t) full) Q E s:=by
 unfold Builtin.Bytes.buffer?
 refine wpAny_bind (wpAny_specialOf (T:="bytes") rfl F.b_buffer ?_)
 have own:∀ {Q':Bool→Shared→Prop},Q' true s→wpAny (model prog w) A (Builtin.Bytes.slotIsOwn (.bytes b t) "__buffer__") Q' E s:=fun h=>by
   unfold Builtin.Bytes.slotIsOwn
   refine wpAny_bind (wpAny_specialOf (T:="bytes") rfl F.b_buffer ?_)
   dsimp only
   rw [F.b_ends,F.b_drop]
   exact wpAny_isInstance (T:="bytes") rfl F.ba_sub_bytes h
 refine wpAny_bind (own ?_)
 refine bm_if_false rfl ?_
 refine wpAny_bind (wpAny_specialOf (T:="bytes") rfl F.b_buffer ?_)
 dsimp only
 refine wpAny_bind (b_ownRelease ?_)
 refine bm_if_false rfl ?_
 exact wpAny_bind (wpAny_of_eq (a:=b) rfl (wpAny_pure h))
theorem ba_init {a:Addr}{b:Array UInt8}{t:Tok}{Q:Fin→Shared→Prop}(hz:b.size≤sizeLine) (ho:s.heap.get? a=some (baObj #[]))
   (h:∀ h',h'.get? a=some (baObj b)→Heap.SameBut a s.heap h'→Q (.done (.ret .none)) { s with heap:=h' }) :
   wpN (model prog w) A (Builtin.«bytearray.__init__» ⟨[.ref a,.bytes b t],[]⟩) Q E s:=by
 have hT:s.TypeIs (.ref a) "bytearray":=⟨_,ho,rfl⟩
 unfold Builtin.«bytearray.__init__»
 refine wpN_bind (wpN_any (ba_ownRelease hT ?_))
 refine wpN_bind (wpN_of_eq (F.ba_bind _) ?_)
 refine wpN_bind (wpN_of_eq (a:=()) rfl ?_)
 refine wpN_bind (wpN_of_eq (a:=()) rfl ?_)
 refine wpN_bind ?_
 show wpN _ _ (Builtin.Bytes.exported (.ref a) >>= _) _ _ _
 refine wpN_bind (wpN_exported ?_)
 refine wpN_any ?_
 show wpAny _ _ (Builtin.Bytes.exportsOf (.ref a) >>= _) _ _ _
 refine wpAny_bind ?_
 unfold Builtin.Bytes.exportsOf
 refine wpAny_bind (wpAny_load ho ?_)
 refine wpAny_pure (wpAny_pure ?_)
 refine wpN_any ?_
 refine bm_if_false (by decide) ?_
 refine wpAny_bind (ba_write ho (Nat.zero_le _) fun h₁ ho₁ hs₁=>?_)
 dsimp only
 refine wpAny_bind (wpAny_of_eq (a:=none) rfl ?_)
 refine bm_if_false rfl ?_
 refine wpAny_bind (wpAny_of_eq (a:=()) rfl ?_)
 refine wpAny_bind (wpAny_specialOf (T:="bytes") rfl F.b_no_index ?_)
 refine bm_if_false rfl ?_
 refine wpAny_bind ?_
 refine b_buffer? ?_
 refine wpAny_bind (wpAny_rule ?_)
 refine wpAny_bind (ba_write ho₁ hz fun h₂ ho₂ hs₂=>?_)
 exact wpAny_pure (h h₂ ho₂ ⟨hs₂.1.trans hs₁.1,fun b hb=>(hs₂.2 b hb).trans (hs₁.2 b hb)⟩)
end
end PySem
end
section
set_option maxHeartbeats 2000000
namespace PySem
open Sem (wp)
open PySem.W PyProof.Rows Calls
section
variable {α:Type}{M:Model}{A:Around}{E:Value→Shared→Prop}{s:Shared}
theorem wpN_if_false {c:Bool}{a b:Sem α}{Q:α→Shared→Prop}(hc:c=false) (h:wpN M A b Q E s):wpN M A (if c=true then a else b) Q E s:=by
 subst hc;exact h
end
section
variable {prog:Program}{w:World}{A:Around}{E:Value→Shared→Prop}{s:Shared}{R:Result→Shared→Prop}
theorem codeN_builtin {id:String}{args:Args}{b:Builtin}(hl:(Code.builtin id args).light) (hb:entryFor table id=some b)
   (h:wpN (model prog w) (A.under (.builtin id args)) (b args)
     (fun fin s'=>match fin with | .done f=>R (.ok f) s' | .again c'=>c'.quiet=true∧codeN (model prog w) A c' R s') (fun e s'=>R (.error e) s') s) :
   codeN (model prog w) A (.builtin id args) R s:=by
 refine codeN_of_tree hl ?_
 show wpN _ _ (match entryFor table id with | some b=>b args | none=>unsupported ((withoutEnding? id "#data").getD id)) _ _ s
 rw [hb];exact h
theorem andF {a b:Bool}(h:b=false:=by rfl):((a&&b) || false)=false:=by rw [h,Bool.and_false];rfl
theorem light_call {args:Args}:(Code.builtin "type.__call__" args).light:=fun self M p s=>by
 obtain ⟨ps,kw⟩:=args
 rcases ps with _ | ⟨v,_ | ⟨w,_ | ⟨z,r⟩⟩⟩
 · exact (rfl:false=false)
 all_goals exact andF (b:=false)
theorem light_init {args:Args}:(Code.builtin "bytearray.__init__" args).light:=fun self M p s=>by
 obtain ⟨ps,kw⟩:=args
 rcases ps with _ | ⟨v,_ | ⟨w,_ | ⟨z,r⟩⟩⟩
 · exact (rfl:false=false)
 all_goals exact andF (b:=false)
theorem F.ba_args_init (a b:Value):argsOk "bytearray.__init__" ⟨[a,b],[]⟩:=by unfold argsOk;kernel_rfl
theorem ba_call {b:Array UInt8}{t:Tok}{Q:Value→Shared→Prop}(hz:b.size≤sizeLine) (h:∀ h' a,h'.get? a=some (baObj b)→a=s.heap.objs.size→(∀ c o,s.heap.get? c=some o→h'.get? c=some o)→Heap.SameBut a (s.heap.push (baObj #[])) h'→Q (.ref a) { s with heap:=h' }) :
   wpN (model prog w) A (call (.type "bytearray") [.bytes b t]) Q E s:=by
 refine wpN_call (codeN_of_tree (fun _ _ _ _=>(rfl:false=false)) ?_)
 show wpN _ _ (callAny (.type "bytearray") _) _ _ _
 refine wpN_pure ⟨Code.quiet_builtin _ (by decide +kernel),codeN_builtin light_call F.entry_type_call ?_⟩
 rw [Around.under_plain (weight_type_call_type "bytearray" [.bytes b t] []) rfl]
 have ft:=F.ba_called
 unfold Builtin.«type.__call__»
 dsimp only
 refine wpN_if_false ft.notType ?_
 refine wpN_if_false ft.canCreate ?_
 refine wpN_bind (wpN_of_eq (F.ba_typeCall _) ?_)
 refine wpN_bind (wpN_of_eq F.ba_mro ?_)
 refine wpN_if_false rfl ?_
 refine wpN_bind (wpN_of_eq ft.made ?_)
 dsimp only
 refine wpN_bind (wpN_pure ?_)
 refine wpN_bind (wpN_holding (wpN_any (wpAny_call (codeAny_mono (code_ba_new (Q₁:=fun obj s₁=>obj=.ref s.heap.objs.size∧s₁={ s with heap:=s.heap.push (baObj #[]) }) (E:=fun _ _=>False) _ ⟨rfl,rfl⟩) fun r s₁ hr=>?_))))
 cases r with
 | error e=>exact hr.elim
 | ok fl=>
   cases fl with
   | ret obj=>
     obtain ⟨rfl,rfl⟩:=hr
     have ho:(s.heap.push (baObj #[])).get? s.heap.objs.size=some (baObj #[]):=Heap.get?_push_size _ rfl
     have hT:({ s with heap:=s.heap.push (baObj #[]) }:Shared).TypeIs (.ref s.heap.objs.size) "bytearray":=⟨_,ho,rfl⟩
     refine wpN_bind (wpN_any (wpAny_isInstance hT F.ba_sub ?_))
     refine wpN_if_false rfl ?_
     refine wpN_bind (wpN_holding ?_)
     unfold callSpecial?
     refine wpN_bind (wpN_any (wpAny_specialOf hT ft.init.lookup ?_))
     dsimp only
     refine wpN_holding ?_
     refine wpN_bind (wpN_of_eq (ft.init.bind _) ?_)
     dsimp only
     refine wpN_bind (wpN_call (codeN_of_tree (fun _ _ _ _=>(rfl:false=false)) ?_))
     show wpN _ _ (do checkBuiltinCall "bytearray.__init__" ⟨[.ref s.heap.objs.size,.bytes b t],[]⟩;again (.builtin "bytearray.__init__" ⟨[.ref s.heap.objs.size,.bytes b t],[]⟩)) _ _ _
     refine wpN_bind (wpN_any (ft.init.check _ _ _ _ _ _ _ _ hT (F.ba_args_init _ _) ?_))
     refine wpN_pure ⟨plainId_quiet ft.init.plain _,codeN_builtin light_init F.ba_entry_init ?_⟩
     refine ba_init hz ho fun h' ho' hs'=>?_
     refine wpN_pure (wpN_if_false rfl (wpN_pure ?_))
     exact h h' _ ho' rfl (fun c o e=>hs'.extBut c o (Nat.ne_of_lt (Heap.lt_size e)) (Heap.get?_push_of_some _ e)) hs'
   | _=>exact hr.elim
end
end PySem
end
section
open PySem PySem.W PyProof.Rows PySem.Calls
set_option maxHeartbeats 2000000
namespace PySem
section
variable {prog:Program}{w:World}{A:Around}{E:Value→Shared→Prop}{s:Shared}{R:Result→Shared→Prop}
theorem codeN_func {body:List Stmt}{env:Env}
   (h:wpN (model prog w) (A.deeper env) (execs body env) (fun f s'=>R (.ok (.ret (match f with | .ret v=>v | _=>.none))) s')
     (fun e s'=>wpAny (model prog w) (A.deeper env) (leaving env e) (fun _ s''=>R (.error e) s'') (fun e' s''=>R (.error e') s'') s') s) :
   codeN (model prog w) A (.func body env) R s:=by
 refine codeN_of_tree (fun _ _ _ _=>(rfl:false=false)) ?_
 show wpN _ (A.deeper env) (do point;match ← (execs body env).onRaise (leaving env) with | .ret v=>ret v | _=>ret .none) _ _ s
 refine wpN_bind (wpN_any (wpAny_point (wpN_bind (wpN_onRaise (wpN_mono h (fun f s' h'=>?_) fun _ _ h'=>wpN_any h')))))
 cases f<;>exact wpN_pure h'
theorem codeN_call_function {a:Addr}{args:Args}{o:Obj}{fd:FuncData}{body:List Stmt}(hroom:A.depth<recursionLimit)
   (ho:s.heap.get? a=some o) (hd':o.data=.func fd) (hco:fd.scope.isCoroutine=false) (hgen:fd.scope.isGenerator=false) (hbody:fd.body=.stmts body) (hcd:s.heap.CodeRec fd.code fd.qualname)
   (h:wpAny (model prog w) A.in1 (bindArgs fd args) (fun binds s₁=>
     wpAny (model prog w) A.in1 (newFunctionEnv fd.scope fd.globals fd.closure binds (fd.qualname ++ ".<locals>.") (some a) fd.code none fd.builtins)
       (fun env s₂=>s₂.heap.NoLimit∧codeN (model prog w) A (.func body env) R s₂) (fun e s'=>R (.error e) s') s₁) (fun e s'=>R (.error e) s') s) :
   codeN (model prog w) A (.call (.ref a) args) R s:=by
 refine codeN_of_tree (fun _ _ _ _=>(rfl:false=false)) (wpN_any ?_)
 show wpAny _ A.in1 (callAny (.ref a) args) _ _ s
 simp -iota only [callAny]
 obtain ⟨c,oc,vs,tq,hc,hoc,hdc,hq⟩:=hcd
 refine wpAny_bind (wpAny_load ho ?_)
 simp only [hd',callFunction,hco,hgen,hbody,hc]
 rw [hc] at h
 refine wpAny_bind (m:=field (.ref c) 1) (wpAny_field hoc hdc hq (wpAny_bind (wpAny_pure ?_)))
 refine wpAny_bind (wpAny_mono h (fun binds s₁ h₁=>wpAny_bind (wpAny_mono h₁ (fun env s₂ h₂=>?_) fun _ _ h'=>h')) fun _ _ h'=>h')
 exact wpAny_bind (wpAny_enterFrame h₂.1 hroom (wpAny_pure ⟨rfl,h₂.2⟩))
end
end PySem
namespace Mine
noncomputable def WN (G:Glb) (S:Sit) {α:Type}(t:Sem α) (K:α→Names→HP→Prop) (X:KV) (m:Names) (H:HP):Prop:=
 ∀ s mm,MOk G S.env mm m→RelC G S.stk ((S.L,mm)::S.sv) S.pr H s→wpN G.M S.A t (Post G S K) (PostX G S X) s
section
variable {G:Glb}{S:Sit}{α β:Type}{X:KV}{m:Names}{H:HP}
theorem WN.of {t:Sem α}{K:α→Names→HP→Prop}(h:W G S t K X m H):WN G S t K X m H:=fun s mm M R=>wpN_any (h s mm M R)
theorem WN.bind {t:Sem α}{f:α→Sem β}{K:β→Names→HP→Prop}(h:WN G S t (fun v=>WN G S (f v) K X) X m H):WN G S (t >>= f) K X m H:=
 fun s mm M R=>wpN_bind (wpN_mono (h s mm M R) (fun v s' ⟨m',H',mm',M',R',k⟩=>k s' mm' M' R') fun _ _ x=>x)
theorem WN.bindW {t:Sem α}{f:α→Sem β}{K:β→Names→HP→Prop}(h:W G S t (fun v=>WN G S (f v) K X) X m H):WN G S (t >>= f) K X m H:=.bind (.of h)
theorem WN.post {t:Sem α}{K K':α→Names→HP→Prop}(h:WN G S t K X m H) (hK:∀ v m H,K v m H→K' v m H):WN G S t K' X m H:=
 fun s mm M R=>wpN_mono (h s mm M R) (fun v s' ⟨m',H',mm',M',R',k⟩=>⟨m',H',mm',M',R',hK _ _ _ k⟩) fun _ _ x=>x
theorem WN.eq {t t':Sem α}{K:α→Names→HP→Prop}(e:t=t') (h:WN G S t' K X m H):WN G S t K X m H:=e▸h
end
noncomputable abbrev WNV (G:Glb) (S:Sit) (t:Sem Value) (K:KV) (X:KV) (m:Names) (H:HP):Prop:=WN G S t (fun v=>K (er v)) X m H
noncomputable abbrev WNE (G:Glb) (S:Sit) (e:Expr) (K:KV) (X:KV) (m:Names) (H:HP):Prop:=WN G S (eval e S.env) (fun v=>K (er v)) X m H
noncomputable abbrev WNS (G:Glb) (S:Sit) (l:List Stmt) (K:KF) (X:KV) (m:Names) (H:HP):Prop:=WN G S (execs l S.env) (fun f=>K (erF f)) X m H
noncomputable abbrev WNX (G:Glb) (S:Sit) (l:Stmt) (K:KF) (X:KV) (m:Names) (H:HP):Prop:=WN G S (exec l S.env) (fun f=>K (erF f)) X m H
noncomputable def CalN (G:Glb) (S:Sit) (f:Value) (vs:List Value) (kw:List (Str × Value)) (K:KV) (X:KV) (m:Names) (H:HP):Prop:=
 ∀ rf rvs rkw,er rf=er f→rvs.map er=vs→rkw.map (fun p=>(p.1,er p.2))=kw→WNV G S (call rf rvs rkw) K X m H
noncomputable def CallsN (G:Glb) (A:Around) (stk:List Env) (sv:Sv) (pr:Pr) (f:Value) (vs:List Value) (kw:List (Str × Value)) (K X:KH) (H:HP):Prop:=
 ∀ rf s rvs rkw,er rf=er f→RelC G stk sv pr H s→rvs.map er=vs→rkw.map (fun p=>(p.1,er p.2))=kw→codeN G.M A (.call rf ⟨rvs,rkw⟩) (fun r s'=>match r with
   | .ok (.ret v)=>RetQ G stk sv pr K (er v) s'
   | .ok _=>False
   | .error e=>ErrQ G stk sv pr X e s') s
section
variable {G:Glb}{S:Sit}{X:KV}{m:Names}{H:HP}{K:KV}{KFl:KF}
noncomputable def seqN (G:Glb) (S:Sit) (r:List Stmt) (KFl:KF) (X:KV):KF:=fun f m H=>match f with | .next=>WNS G S r KFl X m H | f=>KFl f m H
theorem seqN_next {r:List Stmt}(h:WNS G S r KFl X m H):seqN G S r KFl X .next m H:=h
theorem sN_cons {st:Stmt}{r:List Stmt}(h:WNX G S st (seqN G S r KFl X) X m H):WNS G S (st::r) KFl X m H:=by
 refine WN.eq (execs_cons ..) (WN.bind (WN.post h fun f m H h=>?_))
 cases f<;>first | exact h | exact WN.of (W.pure h)
theorem sN_consW {st:Stmt}{r:List Stmt}(h:WX G S st (seqN G S r KFl X) X m H):WNS G S (st::r) KFl X m H:=sN_cons (WN.of h)
theorem xN_asg {t e:Expr}{p:Pos}(h:WNE G S e (fun v=>AsgC G S t v (fun _=>KFl .next) X) X m H)
   (hs:swapsWithSole [t] e p.line S.env=pure false:=by with_unfolding_all rfl) (hw:swappedStores [t] e S.env=pure none:=by with_unfolding_all rfl) (e1:(assignEach [t] S.env).map (·.2)=[assign t S.env]:=by with_unfolding_all rfl):WNX G S (.Assign [t] e p) KFl X m H:=by
 show WN G S (do
   standAt p
   if ← swapsWithSole [t] e p.line S.env then do
     evalThenUse e S.env fun v=>assignAll v ((assignEach [t] S.env).map (·.2))
     pure .next
   else do
     let v ← eval e S.env
     assignStores S.env v (← swappedStores [t] e S.env) ((assignEach [t] S.env).map (·.2))) _ _ _ _
 rw [hs,hw]
 refine WN.bindW (W.standAt (WN.bindW (W.pure ?_)))
 refine WN.bind (WN.post h fun v m H h=>WN.bindW (W.pure (WN.of ?_)))
 rw [e1]
 exact W.bind (W.post (h v rfl) fun _ m H h=>W.pure h)
theorem xN_expr {e:Expr}{p:Pos}(O:S.Ok G) (h:WNE G S e (fun _=>KFl .next) X m H) (hs:swapsWith e none p.line S.env=pure false:=by with_unfolding_all rfl):WNX G S (.Expr e p) KFl X m H:=by
 have hi:interactive S.env=false:=by unfold interactive;rw [O.kind];rfl
 show WN G S (do
   standAt p
   if interactive S.env then printExpr (eval e S.env)
   else if ← swapsWith e none p.line S.env then do evalThenUse e S.env fun _=>point;pure .next
   else do dropValue e p (← eval e S.env)) _ _ _ _
 rw [hi,hs]
 exact WN.bindW (W.standAt (WN.bindW (W.pure (WN.bind (WN.post h fun v m H h=>WN.of (dropV h))))))
theorem callN {p:Pos}{f:Value}{first:List Value}{as:List (Bool × Sem Value)}{ks:List (Option Str × Sem Value)}(ha:as.all (fun x=>!x.1)=true) (hk:ks.all (·.1.isSome)=true)
   (h:W G S (spliced as) (fun vs=>W G S (evalAll (ks.map (·.2))) (fun ws m H=>Keeps G S f H∧CalN G S f ((first++vs).map er) (((ks.filterMap (·.1)).zip ws).map fun p=>(p.1,er p.2)) K X m H) X) X m H):WNV G S (callWith p f first as ks) K X m H:=by
 unfold callWith
 refine WN.bindW (W.holding (argsW ha hk (W.post h fun vs m H h=>W.post h fun ws m H h=>WN.bindW (W.standAt ?_))))
 obtain ⟨hk',hc⟩:=h
 have hc:=hc _ _ _ rfl rfl rfl
 have hplain:(as.any (·.1) || ks.any (·.1.isNone))=false:=by
   rw [Bool.or_eq_false_iff]
   refine ⟨?_,?_⟩
   · rw [Bool.eq_false_iff];intro e
     refine xe12 (List.any_eq_true.mp e) fun x hx hx'=>?_
     have:=List.all_eq_true.mp ha x hx
     simp -iota [hx'] at this
   · rw [Bool.eq_false_iff];intro e
     refine xe12 (List.any_eq_true.mp e) fun x hx hx'=>?_
     have:=List.all_eq_true.mp hk x hx
     cases q:x.1<;>simp -iota [q] at this hx'
 have tail:∀ {t:Sem Value},WNV G S t K X m H→WNV G S (t >>= fun r=>PySem.holding [r] point >>= fun _=>pure r) K X m H:=
   fun ht=>WN.bind (WN.post ht fun r m H hr=>WN.bindW (W.holding (W.point (WN.of (W.pure hr)))))
 have marked (mk:Value):WNV G S (callMarked mk f (first++vs) ((ks.filterMap (·.1)).zip ws)) K X m H:=fun s mm M R=>by unfold callMarked;exact wpN_keep (hc s mm M R)
 intro s mm M R
 refine xe12 (hk' s mm R) fun k hkk L=>?_
 refine wpN_bind (wpN_any (L.here ?_))
 rcases hkk with rfl | rfl | rfl<;>rw [hplain]<;>dsimp only<;>first | exact tail hc s mm M R | (split<;>first | exact tail hc s mm M R | exact tail (marked _) s mm M R)
theorem eN_call {f:Expr}{as:List Expr}{ks:List Keyword}{p:Pos}
   (h:WE G S f (fun f=>WL G S as p (fun vs=>WKw G S ks p (fun ws m H=>Keeps G S f H∧CalN G S f vs ((ks.filterMap (·.arg)).zip ws) K X m H) X) X) X m H)
   (he:eval (.Call f as ks p) S.env=(do callWith p (← eval f S.env) [] (backTo p (starEach as S.env)) (backToKw p (keywordEach ks S.env))):=by with_unfolding_all rfl)
   (ha:(starEach as S.env).all (fun x=>!x.1)=true:=by with_unfolding_all rfl) (hk:(keywordEach ks S.env).all (·.1.isSome)=true:=by with_unfolding_all rfl):WNE G S (.Call f as ks p) K X m H:=by
 unfold WNE
 rw [he]
 refine WN.bindW (W.post h fun f m H h=>callN (starAll _ _ _ ha) (kwAll _ _ _ hk) (W.post h fun vs m H h=>W.post h fun ws m H h=>?_))
 rw [kwNames,zip_er,List.nil_append]
 refine ⟨?_,?_⟩
 · cases f<;>first | exact h.1 | exact fun _ _ _=>⟨.machine,.inr (.inl rfl),.now⟩
 · exact fun rf rvs rkw e=>h.2 rf rvs rkw (by rw [e,er_er])
theorem eN_meth {o:Expr}{n:Str}{as:List Expr}{ks:List Keyword}{q p:Pos}
   (h:WE G S o (fun ov=>MetC G S ov n (fun f first=>WL G S as p (fun vs=>WKw G S ks p (fun ws m H=>Keeps G S f H∧CalN G S f (first++vs) ((ks.filterMap (·.arg)).zip ws) K X m H) X) X) X) X m H)
   (hb:attributeBase o n S.env (eval o S.env)=eval o S.env:=by with_unfolding_all rfl)
   (hm:methodCallForm (as.length+ks.length) (backTo p (starEach as S.env)) (backToKw p (keywordEach ks S.env))=true:=by with_unfolding_all rfl)
   (hl:(q.endLine==p.line)=true:=by with_unfolding_all rfl)
   (ha:(starEach as S.env).all (fun x=>!x.1)=true:=by with_unfolding_all rfl) (hk:(keywordEach ks S.env).all (·.1.isSome)=true:=by with_unfolding_all rfl):WNE G S (.Call (.Attribute o n q) as ks p) K X m H:=by
 show WN G S (do
   let ov ← attributeBase o n S.env (eval o S.env)
   standAt q.atName
   methodCall o n q p S.env ov (as.length+ks.length) (backTo p (starEach as S.env)) (backToKw p (keywordEach ks S.env))) _ _ _ _
 rw [hb]
 refine WN.bindW (W.post h fun ov m H h=>WN.bindW (W.standAt ?_))
 unfold methodCall
 rw [hm]
 refine WN.bindW (W.holding ?_)
 unfold calleeOf
 rw [if_pos rfl]
 refine W.post (h ov _ rfl) fun fp m H h=>?_
 obtain ⟨f,first⟩:=fp
 unfold methodCallPos
 rw [hl]
 refine WN.bindW (W.pure (callN (starAll _ _ _ ha) (kwAll _ _ _ hk) (W.post h fun vs m H h=>W.post h fun ws m H h=>?_)))
 rw [kwNames,zip_er,List.map_append]
 exact h
theorem calN_of {f:Value}{vs:List Value}{kw:List (Str × Value)}
   (h:∀ sv,CallsN G S.A S.stk sv S.pr f vs kw (fun v H'=>K v m H') (fun c H'=>X c m H') H):CalN G S f vs kw K X m H:=by
 intro rf rvs rkw ef e1 e2 s mm M R
 refine wpN_call (codeN_mono (h _ rf s rvs rkw ef R e1 e2) fun r s' x=>?_)
 rcases r with e | (_ | _ | _ | v)
 · obtain ⟨H',cls,R',x,k⟩:=x
   exact ⟨m,H',mm,cls,M,R',x.any,k⟩
 · exact x
 · exact x
 · exact x
 · obtain ⟨H',R',k⟩:=x
   exact ⟨m,H',mm,M,R',k⟩
theorem f_bytearray {b:Array UInt8}(hz:b.size≤sizeLine) (k:∀ a,H.o a=none→K (.ref a) m (H.put a (.bar b))):CalN G S (.type "bytearray") [.bytes b 0] [] K X m H:=by
 intro rf rvs rkw ef e1 e2 s mm M R
 obtain rfl:=er_type' ef
 obtain ⟨x,rfl,ex⟩:=map_one e1
 obtain rfl:=map_nil' e2
 obtain ⟨t,rfl⟩:=er_bytes' ex
 refine ba_call hz fun h' a ho ea hk hs=>?_
 subst ea
 have R₁:=R.push (.head _) (o:=baObj #[]) (co:=.bar #[]) rfl
 have hH:=R.fresh
 have R₂:=R₁.upd (tk:=s.toks) (co':=.bar b) HP.put_same (fun c hc=>hs.2 c hc) ho rfl
 rw [HP.put_put] at R₂
 exact ⟨m,_,mm,M,R₂,k _ hH⟩
end
end Mine
end
section
open PySem PySem.W PyProof.Rows PySem.Calls
set_option maxHeartbeats 2000000
namespace Mine
theorem enterP {G:Glb}{A:Around}{stk:List Env}{sv:Sv}{pr:Pr}{f:Addr}{vs:List Value}{kw:List (Str × Value)}{K X:KH}{H:HP}{n:Nat}
   (C:COk A stk (n+1)) (hh:A.handled=none) (ls:List Str) (gs:List (Str × Value)) (binds:List (Str × Value)) {m₁:Names}{fd:FuncData}{oc:Value}{od:Option Addr}{osl:Array (Option Value)}(ho:G.K.lookup f=some ⟨oc,od,.func fd,osl⟩) {body:List Stmt}(hbody:fd.body=.stmts body)
   (hbind:∀ s rvs rkw,G.K.In s.heap→rvs.map er=vs→rkw.map (fun p=>(p.1,er p.2))=kw→∃ rb,BindsTo s fd ⟨rvs,rkw⟩ rb∧rb.map (fun p=>(p.1,er p.2))=binds)
   (hcd:codeIn G.K fd.code fd.qualname=true) (big:∀ s,RelC G stk sv pr H s→G.base.objs.size≤s.heap.objs.size) (hchk:chkM fd.scope.names ls [] (gs.map (·.1))=true) (hgs:∀ x∈gs,x∈G.gtab) (hB:BindM binds (mkM ls [] gs) H m₁ H)
   (h:∀ S:Sit,S.Ok G→Rm S.A S.stk n→WNS G S body (fun fl _ H=>K (retV fl) H) (fun c _ H=>X c H) m₁ H)
   (hco:fd.scope.isCoroutine=false:=by rfl) (hgen:fd.scope.isGenerator=false:=by rfl) (hcl:fd.closure=[]:=by rfl) (hkind:fd.scope.kind=.function:=by rfl) (hgl:fd.globals=mainGlobals:=by rfl) (hbl:fd.builtins=builtinsNs:=by rfl)
   (hnc:(fd.scope.names.all fun x=>x.2 != .cell)=true:=by rfl):CallsN G A stk sv pr (.ref f) vs kw K X H:=by
 intro rf s rvs rkw ef R e1 e2
 obtain rfl:=er_ref' ef
 have KIn:=G.X.keeps R.base
 refine xe12 (hbind s rvs rkw KIn e1 e2) fun rb hb hbe=>?_
 refine codeN_call_function (Nat.lt_of_le_of_lt (Nat.le_trans (Nat.le_add_right _ _) C.depth) (by decide)) (KIn _ _ ho) rfl hco hgen hbody (codeRec_of KIn hcd) (hb _ _ _ _ (frameIn hbe R (big s R) hkind hgl hbl ?_))
 rw [hcl]
 refine cells_none hnc ⟨mkM ls [] gs,m₁,H,mkM_ok rfl hchk hgs,hB,fun mm s₂ M' R' R₃=>⟨G.T.nolimit.keeps R'.base,codeN_func ?_⟩⟩
 have h₄:=h ⟨A.deeper (frEnv fd f s.heap.objs.size []),frEnv fd f s.heap.objs.size []::stk,sv,pr,s.heap.objs.size,frEnv fd f s.heap.objs.size []⟩ ⟨hkind,rfl,rfl,rfl,Around.frames_deeper C.frames,hco,_,_,_,rfl,rfl,rfl⟩ ⟨C.deeper (frEnv fd f s.heap.objs.size []),hh,⟨_,_,_,rfl,rfl⟩⟩
 refine wpN_mono (h₄ s₂ mm M' R₃) ?_ ?_
 · rintro fl s₃ yq2
   obtain ⟨m₂,H₂,mm₂,M₂,R₄,k⟩:=yq2
   refine ⟨H₂,R₄.sleep R.fsv,?_⟩
   cases fl<;>exact k
 · rintro e s₃ yq2
   obtain ⟨m₂,H₂,mm₂,cls,M₂,R₄,x,k⟩:=yq2
   refine leavingW R₄ (Around.frames_deeper C.frames) rfl rfl rfl (by simp) x fun s₄ a ea R₅ x₅=>?_
   subst ea
   exact ⟨H₂,cls,R₅.sleep R.fsv,x₅.exc (.inl rfl),k⟩
end Mine
end
section
open PySem PySem.W PyProof.Rows PySem.Calls
namespace Mine
theorem light_caller:(Code.builtin "claim.caller" {}).light:=fun _ _ _ _=>(rfl:false=false)
theorem ends_N {prog:Program}{w:World}{t:Sem PySem.Fin}{s:Shared}{R:Result→Shared→Prop}(hreg:s.asleep)
   (h:wpN (model prog w) callerA t (fun fin s'=>∃ f,fin=.done f∧R (.ok f) s'∧AllBare s'.gens) (fun e s'=>R (.error e) s'∧AllBare s'.gens) s) :
   ∃ n r s' s'',runN (denote table) prog w n s ⟨t,.builtin "claim.caller" {},default,[]⟩=.halted (outcomeOf r) s' ∧
     schedN (denote table) prog w n (.single s ⟨t,.builtin "claim.caller" {},default,[]⟩)=.halted (outcomeOf r) s'∧s'.forget=s''.forget∧R r s'':=by
 have h0:=h ⟨.builtin "claim.caller" {},none,none,[],none⟩ default caller_in light_caller (fun q hq=>nomatch hq)
 have h1:Sem.wp (model prog w) ⟨.builtin "claim.caller" {},none,none,[],none⟩ t (Sem.finPost (model prog w) ⟨.builtin "claim.caller" {},none,none,[],none⟩ fun r s'=>R r s'∧leftWithCleanup s'.gens=false)
     (fun e _ s'=>R (.error e) s'∧leftWithCleanup s'.gens=false) default s:=
   Sem.wp_mono _ _ t (fun fin p' s' ⟨f,e,a,b⟩=>by subst e;exact ⟨a,leftWithCleanup_false_of_bare b⟩) (fun e p' s' ⟨a,b⟩=>⟨a,leftWithCleanup_false_of_bare b⟩) default s h0
 refine xe44 (wp_halts_full (M:=model prog w) (R:=R) hreg h1) fun n r s₁ s₂ hs hn hfo hR=>?_
 exact ⟨n,r,s₂,s₁,hn,hs,hfo,hR⟩
theorem callFrom_N {c:ClaimW}{tree:List Value→Sem PySem.Fin}{w:World}{s:Shared}{free:Addr→Prop}{gens:Prop}{kept:Heap→Prop}(hz:s.asleep) (hgens:s.gens=#[])
   (hspec:∀ args,c.pre args=true→WData.layableAll args=true→∀ ord:List DictEntry→List DictEntry,(∀ l,(ord l).Perm l) →
     ∃ vs s₁,layAllW c.records (classAt s.heap) w.params ord args s=some (vs,s₁) ∧
       wpN (model c.prog w) callerA (tree vs) (fun fin s'=>∃ f,fin=.done f∧(c.Ends s args vs s₁ (.ok f) s'∧s'.os=s.os∧kept s'.heap)∧AllBare s'.gens)
         (fun e s'=>(c.Ends s args vs s₁ (.error e) s'∧s'.os=s.os∧kept s'.heap)∧AllBare s'.gens) s₁) :
   c.CallFrom (fun vs=>⟨tree vs,.builtin "claim.caller" {},default,[]⟩) w free gens kept s:=by
 intro args hpre hlay ord hord
 refine xe22 (hspec args hpre hlay ord hord) fun vs s₁ hlaid hwp=>?_
 have rest:=layAllW_rest _ _ _ hlaid
 refine xe46 (ends_N (R:=fun r s'=>c.Ends s args vs s₁ r s'∧s'.os=s.os∧kept s'.heap) (Shared.asleep_of_life rest.2.2.2 hz) hwp) fun n res s' s'' hrun hsched hfo hends hos hkept=>?_
 refine xe05 (Shared.forget_eq hfo) fun eh _ _ eo _=>?_
 have hends:=hends.congr eh
 have hkept':kept s'.heap:=by rw [eh];exact hkept
 have hos':s'.os=s.os:=eo.trans hos
 have hlife:s'.heap.life=s.heap.life:=(runN_life _ _ _ hrun).trans rest.2.2.2
 refine ⟨vs,s₁,hlaid,n,_,s',hsched,?_,(fun _ i x hx=>by rw [hgens] at hx;simp at hx),hkept',by rw [hlife],Shared.rest_eq hos'⟩
 rcases hends with h | h
 · exact .inl (xe16 h fun v e d1 d2 d3 d4 d5=>⟨v,congrArg outcomeOf e,d1,d2,d3,fun b o y _=>d4 b o y,d5⟩)
 · exact .inr (xe36 h fun e ob cls q d1 d2 d3 d4 d5=>⟨e,ob,cls,congrArg outcomeOf q,d1,d2,d3,d4,fun b o y _=>d5 b o y⟩)
noncomputable abbrev WalkP (q:Program) (loose:List Str) (XP:(Str→Option Value)→Heap→Prop) (YP:World→Heap→Prop) (r:RowW) (d:DefRec) (kwd:List (Str × Expr)):Prop:=
 ∀ (w:World) (s₀ s₁:Shared) (mg mb:Str→Option Value),Ground q loose r.records XP w s₀ mg mb s₁.heap→YP w s₁.heap→∀ (a:Addr) (o:Obj) (pm cd doc dV kV:Value),s₁.heap.get? a=some o →
   o.data=.func { docDef d.name d.params d.body d.scope pm cd doc with defaults:=dV,kwdefaults:=kV }→s₁.heap.CodeRec cd d.name→Dflts mg s₁.heap d.params kwd dV kV→mg d.name=some (.ref a)→s₁.gens=#[] →
   ∀ (args:List WData) (vals:List Value) (as:List Addr),r.claim.pre args=true→WData.layableAll args=true→ReadsAllW r.records (classAt s₀.heap) s₁.heap vals args as→WellAll w.params s₁.heap vals args→(∀ a∈as,(a==sysModules)=false) →
     wpN (model r.prog w) callerA (call (.ref a) vals) (fun v s'=>GoodWG r.claim (classAt s₀.heap) (ExcName.means s₀.heap) args s₁ (.ok (.ret v)) s')
       (fun e s'=>GoodWG r.claim (classAt s₀.heap) (ExcName.means s₀.heap) args s₁ (.error e) s') s₁
theorem PySem.W.holds_open {r:OpenRow}{q:Program}{loose:List Str}{Xt:Shared→Bool}{XP:(Str→Option Value)→Heap→Prop}{α:Type}{Yf:Shared→α}{Ya:World→α}{YP:World→Heap→Prop}{d:DefRec}{kwd:List (Str × Expr)}{N:Nat}
   (left:LeftO r.prog q loose Xt Yf Ya N) (hY:∀ w s,Yf s=Ya w→YP w s.heap) (hYk:∀ w h h',YP w h→(∀ b o,h.get? b=some o→h'.get? b=some o)→YP w h')
   (hX:∀ s,Xt s=true→XP (s.heap.nsMap mainGlobals) s.heap) (hXk:∀ mg h h',XP mg h→(∀ b o,h.get? b=some o→h'.get? b=some o)→XP mg h')
   (hdef:defOf q r.name=some (d,kwd)) (hp:r.prog.theDef r.name=some (d.params,d.body,d.scope)) (hk:kwWritten? d.params.kwonlyargs d.params.kw_defaults=some kwd) (hRf:∀ s,Xt s=true→RecFacts r.records s.heap) (hwr:(!r.writes || r.records.isEmpty)=true)
   (k1:r.wellSaid=true) (ok:(chainsOk q&&opensWell r.prog&&(frees r.toRowW&&r.within.isEmpty))=true) (hb:r.prog.bare) (hw:r.toRowW.promised)
   (walk:WalkP q loose XP YP r.toRowW d kwd):r.Holds:=by
 refine ⟨k1,hw,?_⟩
 obtain ⟨ok,k5⟩:=Bool.and_eq_true_iff.mp ok
 refine xe02 (Bool.and_eq_true_iff.mp ok) fun hch o1=>?_
 refine xe02 (Bool.and_eq_true_iff.mp k5) fun k5 k6=>?_
 refine xe05 (frees_parts k5) fun hsame hu ha hap hm=>?_
 refine ⟨⟨hb,o1,by show r.makers.map _=[];rw [hm];rfl⟩,hw.witness,fun w=>⟨(left.behind hX hch w).1,fun s' hs'=>?_⟩⟩
 have hB:=left.behind (XP:=fun mg h=>XP mg h∧RecFacts r.records h) (fun s hs=>⟨hX s hs,hRf s hs⟩) hch w
 obtain ⟨s₀,hf,hg0,s,hT,hz,hgens,hg,Gv,y⟩:=hB.2 s' hs'
 have G0:Ground q loose [] XP w s (s.heap.nsMap mainGlobals) (s.heap.nsMap builtinsNs) s.heap:=⟨Gv.T,Gv.B,Gv.D,Gv.TE,Gv.TD,Gv.W,Gv.X.1,Gv.cls,Gv.has,Gv.apart,Gv.once,Gv.K⟩
 have pin:∀ n∈[r.name],isTheDefsW r.prog s.heap n:=fun n hn=>by
   obtain rfl:n=r.name:=by simpa using hn
   exact pinned_of_view hg G0 hdef hp hk
 have hgens:s.gens=#[]:=Array.eq_empty_of_size_eq_zero (beq_iff_eq.mp hgens)
 refine ⟨s₀,hf,hg0,s,hT,fun n hn=>?_,Gv.X.2.1,Gv.X.2.2.1,callFrom_N (c:=r.claim) (tree:=fun vs=>do match ← nsGet mainNs r.name with
     | some f=>do ret (← PySem.call f vs)
     | none=>unsupported "claim.caller:no-such-global") hz hgens fun args hpre hlay ord hord=>?_⟩
 · exact pin n (by split at hn<;>simp_all)
 have G:Ground q loose r.records XP w s _ _ s.heap:=Gv.X.2.ground G0
 refine xe11 (Option.isSome_iff_exists.mp (layAllW_isSome (P:=w.params) (ord:=ord) G.has args r.args s (pre_splitW hpre).1)) fun zq0 hlaid=>?_
 obtain ⟨vs,s₁⟩:=zq0
 have keeps:=layAllW_keeps _ _ _ hlaid
 have rest:=layAllW_rest _ _ _ hlaid
 refine xe13 (reads_layAllW hord _ _ _ hlaid hlay s₁.heap (fun _ _ e=>e)) fun as hrd hin hold=>?_
 have L:Laid r.records w s s₁ args vs as:=⟨⟨ord,hord,hlaid⟩,hrd,hin,hold,keeps,rest.1.trans hgens,rest.2.2.1⟩
 have G₁:=G.keeps hXk keeps
 obtain ⟨a,o,pm,cd,doc,dV,kV,h1,h2,h3,h4,h5⟩:=G₁.fn hdef
 have hwalk:=walk w s s₁ _ _ G₁ (hYk _ _ _ (hY w s y) keeps) a o pm cd doc dV kV h2 h3 h4 h5 (defOf_name hdef▸h1) L.gens args vs as hpre hlay L.reads L.well (L.low G.low)
 have hwi:r.claim.within=[]:=List.isEmpty_iff.mp k6
 have good:∀ {res:Result}{s':Shared},GoodWG r.claim (classAt s.heap) (ExcName.means s.heap) args s₁ res s'→r.claim.Ends s args vs s₁ res s'∧s'.os=s.os∧AllBare s'.gens:=fun {res s'} g=>
   g.laid (c:=r.claim) hsame hwi (ident_freeW hu ha hap) L
 refine ⟨vs,s₁,hlaid,?_⟩
 refine wpN_bind (wpN_any (wpAny_nsGet G₁.T.g ?_))
 rw [h1]
 refine wpN_bind (wpN_mono hwalk (fun v s' g=>wpN_pure ⟨_,rfl,⟨(good g).1,(good g).2.1,?_⟩,(good g).2.2⟩) fun e s' g=>⟨⟨(good g).1,(good g).2.1,?_⟩,(good g).2.2⟩)
 · exact fun hwt=>⟨namesKept_of hT hg _ keeps g.2.1.old,noTable hwr hwt⟩
 · exact fun hwt=>⟨namesKept_of hT hg _ keeps g.2.1.old,noTable hwr hwt⟩
end Mine
end
section
open PySem PySem.W PyProof.Rows PySem.Calls
set_option Elab.async false
set_option maxRecDepth 100000
set_option linter.unusedVariables false
namespace Mine
noncomputable abbrev pw:Program:=PySem.Challenge.pw_jj0021_01
noncomputable def nthS:List Stmt→Nat→Stmt
 | [],_=>default
 | s::_,0=>s
 | _::l,n+1=>nthS l n
noncomputable def prt (s:Stmt):Option ((Str × Arguments × Scope × Pos) × List Stmt):=match s with
 | .FunctionDef n a b _ _ _ sc _ _ p=>some ((n,a,sc,p),b)
 | .ClassDef n _ _ b _ _ sc _ _ _ p=>some ((n,⟨[],[],none,[],[],none,[]⟩,sc,p),b)
 | _=>none
noncomputable def stA (i:Nat):Stmt:=nthS pw.main.body i
noncomputable def stB (i j:Nat):Stmt:=match prt (stA i) with
 | some (_,b)=>nthS b j
 | none=>default
noncomputable def fnO (s:Stmt) (q:Str) (cl:List (Str × Addr)) (df:Value) (mn:Str) (mt:Nat) (di:Option Addr) (co:Addr) (ct:Value):Obj:=match prt s with
 | some ((n,a,sc,_),b)=>⟨.type "function",none,.func ⟨n,q,a,.stmts b,sc,3,cl,df,.none,.none,.str mn mt,di,.ref co,ct,0⟩,#[]⟩
 | none=>default
noncomputable def cdO (n q:Str) (t:Nat) (ln ac fl:Int) (r1 r2:Addr) (x y z:Value) (u:Nat):Obj:=
 ⟨.type "code",none,.fields #[.str n t,.str q (t+1),.str "/claim/cut.py" (t+2),.int ln 0,.int ac 0,.int 0 0,.int 0 0,.int fl 0,.ref r1,.bool true,.int 181 0,.ref r2,.none,x,y,z,.int u 0,.int ln 0,.str "/claim/cut.py" (u+1)],#[]⟩
noncomputable def clO (n:Str) (b m:List Value) (ns:Addr) (su:List Value) (s0:Option Value) (t u:Nat) (nw:String):Obj:=
 ⟨.type "type",none,.cls ⟨n,b,m,ns,n,true,[],su,false,none,false⟩,#[s0,none,some (.str n t),some (.str n u),some (.builtin nw),some (.bool true)]⟩
noncomputable abbrev e3 (k:Str) (t:Nat) (v:Value):Str × Nat × Value:=(k,t,v)
noncomputable def diO (P:Params) (ep:Nat) (l:List (Str × Nat × Value)):Obj:=⟨.type "dict",none,.dict (l.map fun x=>⟨PyData.keyHash P x.1,.str x.1 x.2.1,x.2.2⟩).toArray ep,#[]⟩
noncomputable def hd.heap_39 (P:Params):Frag:=[(2,{ diO P 3 [e3 "type.__subclasses__.Exception.0" 224 (.int 41 0),e3 "type.__subclasses__.Exception.n" 225 (.int 2 0),e3 "type.__subclasses__.Exception.1" 288 (.int 87 0)] with cls:=.none }),
 (3,diO P 34 [e3 "__name__" 165 (.str "law_jj0021_01" 1161),e3 "__doc__" 166 .none,e3 "__package__" 167 .none,e3 "__loader__" 168 (.builtin "__main__.__loader__#opaque"),e3 "__spec__" 169 .none,e3 "__annotations__" 170 (.ref 6),e3 "__builtins__" 171 (.ref 4),e3 "__file__" 173 (.str "/claim/cut.py" 172),e3 "__cached__" 174 .none,e3 "_wall" 193 (.ref 21),e3 "PyFATException" 227 (.ref 41),e3 "NotAnLFNEntryException" 243 (.ref 54),e3 "BrokenLFNEntryException" 259 (.ref 66),e3 "NotAFatEntryException" 291 (.ref 87),e3 "errno" 341 (.ref 100),e3 "FAT_OEM_ENCODING" 343 (.str "latin-1" 342),e3 "encoded" 349 (.ref 109),e3 "decoded" 355 (.ref 114),e3 "encoded16" 365 (.ref 121),e3 "decoded16" 371 (.ref 126),e3 "splitext" 381 (.ref 133),e3 "init_check" 388 (.ref 140),e3 "EightDotThree" 600 (.ref 259),e3 "FATDirectoryEntry" 1015 (.ref 549),e3 "FATLongDirectoryEntry" 1139 (.ref 624),e3 "make_lfn_entry" 1160 (.ref 635),e3 "_law_signs" 1168 (.ref 642),e3 "_law_short_already" 1177 (.ref 649),e3 "_law_units" 1189 (.ref 656),e3 "_law_sum" 1195 (.ref 661),e3 "_law_parts" 1209 (.ref 668),e3 "_law_octets" 1217 (.ref 675),e3 "_law_taken" 1228 (.ref 682),e3 "law" 1234 (.ref 687)]),
 (25,⟨.type "cell",none,.cell (some (.ref 41)),#[]⟩),
 (30,⟨.type "tuple",none,.seq #[.none],#[]⟩),
 (31,⟨.type "tuple",none,.seq #[.ref 25],#[]⟩),
 (37,cdO "__init__" "PyFATException.__init__" 208 7 3 3 32 33 (.ref 34) (.ref 35) (.ref 36) 215),
 (38,fnO (stB 2 0) "PyFATException.__init__" [("__class__",25)] (.ref 30) "pyfatfs._exceptions" 194 none 37 (.ref 31)),
 (40,diO P 4 [e3 "__module__" 203 (.str "pyfatfs._exceptions" 194),e3 "__firstlineno__" 207 (.int 5 206),e3 "__init__" 217 (.ref 38),e3 "__static_attributes__" 219 (.ref 39),e3 "__weakref__" 222 (.ref 42),e3 "__doc__" 223 .none]),
 (41,clO "PyFATException" [.type "Exception"] [.ref 41,.type "Exception",.type "BaseException",.type "object"] 40 [.ref 54,.ref 66] (some (.ref 22)) 196 204 "Exception.__new__"),
 (53,diO P 2 [e3 "__module__" 235 (.str "pyfatfs._exceptions" 194),e3 "__firstlineno__" 239 (.int 10 238),e3 "__static_attributes__" 240 (.ref 52),e3 "__doc__" 241 .none]),
 (54,clO "NotAnLFNEntryException" [.ref 41] [.ref 54,.ref 41,.type "Exception",.type "BaseException",.type "object"] 53 [] (some (.ref 45)) 228 236 "Exception.__new__"),
 (99,diO P 4 [e3 "__module__" 299 (.str "pyfatfs._exceptions" 194),e3 "__firstlineno__" 303 (.int 19 302),e3 "ENOENT" 305 (.int 2 304),e3 "ENXIO" 307 (.int 6 306),e3 "E2BIG" 309 (.int 7 308),e3 "EFAULT" 311 (.int 14 310),e3 "EEXIST" 313 (.int 17 312),e3 "ENOTDIR" 315 (.int 20 314),e3 "EISDIR" 317 (.int 21 316),e3 "EINVAL" 319 (.int 22 318),e3 "EMFILE" 321 (.int 24 320),e3 "EACCES" 323 (.int 13 322),e3 "ENOSPC" 325 (.int 28 324),e3 "EROFS" 327 (.int 30 326),e3 "ENAMETOOLONG" 329 (.int 36 328),e3 "EBADE" 331 (.int 52 330),e3 "ETOOMANYREFS" 333 (.int 109 332),e3 "__static_attributes__" 334 (.ref 98),e3 "__dict__" 336 (.ref 101),e3 "__weakref__" 338 (.ref 102),e3 "__doc__" 339 .none]),
 (100,clO "errno" [.type "object"] [.ref 100,.type "object"] 99 [] none 292 300 "object.__new__"),
 (108,cdO "encoded" "encoded" 344 36 1 3 105 106 .none .none (.ref 107) 347),
 (109,fnO (stA 8) "encoded" [] .none "pyfatfs._exceptions" 194 none 108 .none),
 (113,cdO "decoded" "decoded" 350 38 1 3 110 111 .none .none (.ref 112) 353),
 (114,fnO (stA 9) "decoded" [] .none "pyfatfs._exceptions" 194 none 113 .none),
 (120,cdO "encoded16" "encoded16" 356 40 1 3 115 116 (.ref 117) (.ref 118) (.ref 119) 363),
 (121,fnO (stA 10) "encoded16" [] .none "pyfatfs._exceptions" 194 none 120 .none),
 (125,cdO "decoded16" "decoded16" 366 51 1 3 122 123 .none .none (.ref 124) 369),
 (126,fnO (stA 11) "decoded16" [] .none "pyfatfs._exceptions" 194 none 125 .none),
 (132,cdO "splitext" "splitext" 372 67 1 3 127 128 (.ref 129) (.ref 130) (.ref 131) 379),
 (133,fnO (stA 12) "splitext" [] .none "pyfatfs._exceptions" 194 none 132 .none),
 (139,cdO "init_check" "init_check" 382 74 1 3 134 135 (.ref 136) (.ref 137) (.ref 138) 386),
 (140,fnO (stA 13) "init_check" [] .none "pyfatfs._exceptions" 194 none 139 .none),
 (148,⟨.type "list",none,.seq #[.int 34 405,.int 42 406,.int 43 407,.int 44 408,.int 46 409,.int 47 410,.int 58 411,.int 59 412,.int 60 413,.int 61 414,.int 62 415,.int 63 416,.int 91 417,.int 92 418,.int 93 419,.int 124 420],#[]⟩),
 (149,⟨.type "tuple",none,.seq #[.str "latin-1" 342],#[]⟩),
 (155,cdO "__init__" "EightDotThree.__init__" 422 82 2 3 150 151 (.ref 152) (.ref 153) (.ref 154) 427),
 (156,fnO (stB 15 2) "EightDotThree.__init__" [] (.ref 149) "pyfatfs.EightDotThree" 389 none 155 .none),
 (169,cdO "as_bytes" "EightDotThree.as_bytes" 441 96 1 3 164 165 (.ref 166) (.ref 167) (.ref 168) 445),
 (170,fnO (stB 15 4) "EightDotThree.as_bytes" [] .none "pyfatfs.EightDotThree" 389 none 169 .none),
 (193,cdO "_set_name" "EightDotThree._set_name" 474 107 2 3 188 189 (.ref 190) (.ref 191) (.ref 192) 479),
 (194,fnO (stB 15 7) "EightDotThree._set_name" [] .none "pyfatfs.EightDotThree" 389 none 193 .none),
 (200,cdO "set_byte_name" "EightDotThree.set_byte_name" 482 113 2 3 195 196 (.ref 197) (.ref 198) (.ref 199) 487),
 (201,fnO (stB 15 8) "EightDotThree.set_byte_name" [] .none "pyfatfs.EightDotThree" 389 none 200 .none),
 (214,cdO "checksum" "EightDotThree.checksum" 498 126 1 3 209 210 (.ref 211) (.ref 212) (.ref 213) 504),
 (215,fnO (stB 15 10) "EightDotThree.checksum" [] .none "pyfatfs.EightDotThree" 389 none 214 .none),
 (221,cdO "_check_characters" "EightDotThree._check_characters" 507 134 2 3 216 217 (.ref 218) (.ref 219) (.ref 220) 513),
 (222,fnO (stB 15 11) "EightDotThree._check_characters" [] .none "pyfatfs.EightDotThree" 389 (some 225) 221 .none),
 (224,⟨.type "staticmethod",some 223,.fields #[.ref 222,.bool false],#[]⟩),
 (226,⟨.type "tuple",none,.seq #[.str "latin-1" 342],#[]⟩),
 (232,cdO "is_8dot3_conform" "EightDotThree.is_8dot3_conform" 528 140 2 3 227 228 (.ref 229) (.ref 230) (.ref 231) 536),
 (233,fnO (stB 15 12) "EightDotThree.is_8dot3_conform" [] (.ref 226) "pyfatfs.EightDotThree" 389 (some 236) 232 .none),
 (235,⟨.type "staticmethod",some 234,.fields #[.ref 233,.bool false],#[]⟩),
 (258,diO P 4 [e3 "__module__" 398 (.str "pyfatfs.EightDotThree" 389),e3 "__firstlineno__" 402 (.int 78 401),e3 "SFN_LENGTH" 404 (.int 11 403),e3 "INVALID_CHARACTERS" 421 (.ref 148),e3 "__init__" 429 (.ref 156),e3 "as_text" 440 (.ref 163),e3 "as_bytes" 447 (.ref 170),e3 "get_unpadded_filename" 454 (.ref 177),e3 "_raise_8dot3_nonconformant" 473 (.ref 186),e3 "_set_name" 481 (.ref 194),e3 "set_byte_name" 489 (.ref 201),e3 "set_str_name" 497 (.ref 208),e3 "checksum" 506 (.ref 215),e3 "_check_characters" 527 (.ref 224),e3 "is_8dot3_conform" 550 (.ref 235),e3 "_pad_8dot3_name" 569 (.ref 245),e3 "make_8dot3_name" 589 (.ref 255),e3 "__static_attributes__" 593 (.ref 257),e3 "__dict__" 595 (.ref 260),e3 "__weakref__" 597 (.ref 261),e3 "__doc__" 598 .none]),
 (259,clO "EightDotThree" [.type "object"] [.ref 259,.type "object"] 258 [] none 391 399 "object.__new__"),
 (548,diO P 4 [e3 "__module__" 610 (.str "pyfatfs.FATDirectoryEntry" 601),e3 "__firstlineno__" 614 (.int 165 613),e3 "FREE_DIR_ENTRY_MARK" 616 (.int 229 615),e3 "LAST_DIR_ENTRY_MARK" 618 (.int 0 617),e3 "ATTR_READ_ONLY" 620 (.int 1 619),e3 "ATTR_HIDDEN" 622 (.int 2 621),e3 "ATTR_SYSTEM" 624 (.int 4 623),e3 "ATTR_VOLUME_ID" 626 (.int 8 625),e3 "ATTR_DIRECTORY" 628 (.int 16 627),e3 "ATTR_ARCHIVE" 630 (.int 32 629),e3 "ATTR_LONG_NAME" 632 (.int 15 631),e3 "ATTR_LONG_NAME_MASK" 634 (.int 63 633),e3 "FAT_DIRECTORY_HEADER_SIZE" 636 (.int 32 635),e3 "MAX_FILE_SIZE" 638 (.int 4294967295 637),e3 "FAT_DIRECTORY_VARS" 651 (.ref 271),e3 "__init__" 674 (.ref 279),e3 "set_size" 682 (.ref 286),e3 "new" 711 (.ref 296),e3 "get_ctime" 718 (.ref 304),e3 "get_mtime" 725 (.ref 311),e3 "get_atime" 732 (.ref 318),e3 "_combine_dosdatetime" 752 (.ref 327),e3 "get_checksum" 759 (.ref 335),e3 "set_lfn_entry" 770 (.ref 342),e3 "get_entry_size" 777 (.ref 349),e3 "get_cluster" 784 (.ref 356),e3 "set_cluster" 792 (.ref 363),e3 "as_bytes" 801 (.ref 370),e3 "_add_parent" 809 (.ref 377),e3 "_get_parent_dir" 817 (.ref 384),e3 "get_full_path" 824 (.ref 391),e3 "get_parent_dir" 831 (.ref 398),e3 "is_special" 838 (.ref 405),e3 "is_read_only" 845 (.ref 412),e3 "is_hidden" 852 (.ref 419),e3 "is_system" 859 (.ref 426),e3 "is_volume_id" 866 (.ref 433),e3 "_verify_is_directory" 873 (.ref 440),e3 "is_directory" 880 (.ref 447),e3 "is_archive" 887 (.ref 454),e3 "is_empty" 894 (.ref 461),e3 "_populate_dirs" 903 (.ref 468),e3 "_get_entries_raw" 910 (.ref 475),e3 "get_entries" 921 (.ref 482),e3 "_search_entry" 929 (.ref 489),e3 "get_entry" 937 (.ref 496),e3 "walk" 944 (.ref 503),e3 "add_subdirectory" 953 (.ref 511),e3 "mark_empty" 960 (.ref 518),e3 "remove_dir_entry" 968 (.ref 525),e3 "as_name" 975 (.ref 532),e3 "get_short_name" 982 (.ref 539),e3 "get_long_name" 989 (.ref 546),e3 "__static_attributes__" 1008 (.ref 547),e3 "__dict__" 1010 (.ref 550),e3 "__weakref__" 1012 (.ref 551),e3 "__doc__" 1013 .none]),
 (549,clO "FATDirectoryEntry" [.type "object"] [.ref 549,.type "object"] 548 [] none 603 611 "object.__new__"),
 (561,⟨.type "list",none,.seq #[.str "LDIR_Ord" 1028,.str "LDIR_Name1" 1029,.str "LDIR_Attr" 1030,.str "LDIR_Type" 1031,.str "LDIR_Chksum" 1032,.str "LDIR_Name2" 1033,.str "LDIR_FstClusLO" 1034,.str "LDIR_Name3" 1035],#[]⟩),
 (567,cdO "__init__" "FATLongDirectoryEntry.__init__" 1041 361 1 3 562 563 (.ref 564) (.ref 565) (.ref 566) 1045),
 (568,fnO (stB 18 3) "FATLongDirectoryEntry.__init__" [] .none "pyfatfs.FATDirectoryEntry" 601 none 567 .none),
 (569,⟨.type "tuple",none,.seq #[.bool false],#[]⟩),
 (575,cdO "get_entries" "FATLongDirectoryEntry.get_entries" 1048 364 2 35 570 571 (.ref 572) (.ref 573) (.ref 574) 1055),
 (576,fnO (stB 18 4) "FATLongDirectoryEntry.get_entries" [] (.ref 569) "pyfatfs.FATDirectoryEntry" 601 none 575 .none),
 (589,cdO "as_bytes" "FATLongDirectoryEntry.as_bytes" 1065 371 1 3 584 585 (.ref 586) (.ref 587) (.ref 588) 1071),
 (590,fnO (stB 18 6) "FATLongDirectoryEntry.as_bytes" [] .none "pyfatfs.FATDirectoryEntry" 601 none 589 .none),
 (596,cdO "as_text" "FATLongDirectoryEntry.as_text" 1074 380 1 3 591 592 (.ref 593) (.ref 594) (.ref 595) 1081),
 (597,fnO (stB 18 7) "FATLongDirectoryEntry.as_text" [] .none "pyfatfs.FATDirectoryEntry" 601 none 596 .none),
 (603,cdO "is_lfn_entry" "FATLongDirectoryEntry.is_lfn_entry" 1084 392 2 3 598 599 (.ref 600) (.ref 601) (.ref 602) 1092),
 (604,fnO (stB 18 8) "FATLongDirectoryEntry.is_lfn_entry" [] .none "pyfatfs.FATDirectoryEntry" 601 (some 607) 603 .none),
 (606,⟨.type "staticmethod",some 605,.fields #[.ref 604,.bool false],#[]⟩),
 (613,cdO "add_lfn_entry" "FATLongDirectoryEntry.add_lfn_entry" 1107 399 9 3 608 609 (.ref 610) (.ref 611) (.ref 612) 1120),
 (614,fnO (stB 18 9) "FATLongDirectoryEntry.add_lfn_entry" [] .none "pyfatfs.FATDirectoryEntry" 601 none 613 .none),
 (620,cdO "is_lfn_entry_complete" "FATLongDirectoryEntry.is_lfn_entry_complete" 1123 409 1 3 615 616 (.ref 617) (.ref 618) (.ref 619) 1128),
 (621,fnO (stB 18 10) "FATLongDirectoryEntry.is_lfn_entry_complete" [] .none "pyfatfs.FATDirectoryEntry" 601 none 620 .none),
 (623,diO P 4 [e3 "__module__" 1023 (.str "pyfatfs.FATDirectoryEntry" 601),e3 "__firstlineno__" 1027 (.int 356 1026),e3 "FAT_LONG_DIRECTORY_VARS" 1036 (.ref 561),e3 "LAST_LONG_ENTRY" 1038 (.int 64 1037),e3 "LFN_ENTRY_LENGTH" 1040 (.int 26 1039),e3 "__init__" 1047 (.ref 568),e3 "get_entries" 1057 (.ref 576),e3 "mark_empty" 1064 (.ref 583),e3 "as_bytes" 1073 (.ref 590),e3 "as_text" 1083 (.ref 597),e3 "is_lfn_entry" 1106 (.ref 606),e3 "add_lfn_entry" 1122 (.ref 614),e3 "is_lfn_entry_complete" 1130 (.ref 621),e3 "__static_attributes__" 1132 (.ref 622),e3 "__dict__" 1134 (.ref 625),e3 "__weakref__" 1136 (.ref 626),e3 "__doc__" 1137 .none]),
 (624,clO "FATLongDirectoryEntry" [.type "object"] [.ref 624,.type "object"] 623 [] (some (.ref 554)) 1016 1024 "object.__new__"),
 (634,cdO "make_lfn_entry" "make_lfn_entry" 1140 414 2 3 629 630 (.ref 631) (.ref 632) (.ref 633) 1158),
 (635,fnO (stA 19) "make_lfn_entry" [] .none "pyfatfs.FATDirectoryEntry" 601 none 634 .none),
 (641,cdO "_law_signs" "_law_signs" 1163 446 0 3 636 637 (.ref 638) (.ref 639) (.ref 640) 1166),
 (642,fnO (stA 21) "_law_signs" [] .none "law_jj0021_01" 1161 none 641 .none),
 (648,cdO "_law_short_already" "_law_short_already" 1169 448 1 3 643 644 (.ref 645) (.ref 646) (.ref 647) 1175),
 (649,fnO (stA 22) "_law_short_already" [] .none "law_jj0021_01" 1161 none 648 .none),
 (655,cdO "_law_units" "_law_units" 1178 456 1 3 650 651 (.ref 652) (.ref 653) (.ref 654) 1187),
 (656,fnO (stA 23) "_law_units" [] .none "law_jj0021_01" 1161 none 655 .none),
 (660,cdO "_law_sum" "_law_sum" 1190 467 1 3 657 658 .none .none (.ref 659) 1193),
 (661,fnO (stA 24) "_law_sum" [] .none "law_jj0021_01" 1161 none 660 .none),
 (667,cdO "_law_parts" "_law_parts" 1196 476 2 3 662 663 (.ref 664) (.ref 665) (.ref 666) 1207),
 (668,fnO (stA 25) "_law_parts" [] .none "law_jj0021_01" 1161 none 667 .none),
 (674,cdO "_law_octets" "_law_octets" 1210 488 2 3 669 670 (.ref 671) (.ref 672) (.ref 673) 1215),
 (675,fnO (stA 26) "_law_octets" [] .none "law_jj0021_01" 1161 none 674 .none),
 (681,cdO "_law_taken" "_law_taken" 1218 490 5 3 676 677 (.ref 678) (.ref 679) (.ref 680) 1226),
 (682,fnO (stA 27) "_law_taken" [] .none "law_jj0021_01" 1161 none 681 .none),
 (686,cdO "law" "law" 1229 496 1 3 683 684 .none .none (.ref 685) 1232),
 (687,fnO (stA 28) "law" [] .none "law_jj0021_01" 1161 none 686 .none)]
noncomputable def asL:List Addr:=[2,3,25,30,31,37,38,40,41,53,54,99,100,108,109,113,114,120,121,125,126,132,133,139,140,148,149,155,156,169,170,193,194,200,201,214,215,221,222,224,226,232,233,235,258,259,548,549,561,567,568,569,575,576,589,590,596,597,603,604,606,613,614,620,621,623,624,634,635,641,642,648,649,655,656,660,661,667,668,674,675,681,682,686,687]
theorem asL_eq (P:Params):asL=(hd.heap_39 P).map (·.1):=by kernel_rfl
noncomputable def hd.view_39:Program:=view pw [0,2,3,4,5,6,7,8,9,10,11,12,13,15,17,18,19,21,22,23,24,25,26,27,28]
noncomputable abbrev looseN:List Str:=["PyFATException","errno","EightDotThree","FATDirectoryEntry","FATLongDirectoryEntry"]
noncomputable def lawD:DefRec:=match prt (stA 28) with
 | some ((n,a,sc,p),b)=>⟨n,a,b,sc,p⟩
 | none=>⟨"",⟨[],[],none,[],[],none,[]⟩,[],default,default⟩
noncomputable def stpT (tb:String→Option Builtin) (p:Program) (w:World) (n₀:Nat) (ann:Option Value) (k:SharedT→Thread→Option SharedT) (s:SharedT) (t:Thread):Option SharedT:=match through t with
 | true=>some s
 | false=>match stepOk n₀ ann t with
   | false=>none
   | true=>match stepT (denote tb) p w s t with
     | some (s',t')=>k s' t'
     | none=>none
noncomputable def topRunT (tb:String→Option Builtin) (p:Program) (w:World) (n₀:Nat) (ann:Option Value):Nat→SharedT→Thread→Option SharedT
 | 0,_,_=>none
 | n+1,s,t=>stpT tb p w n₀ ann (topRunT tb p w n₀ ann n) s t
theorem topRun_ofT {tb:String→Option Builtin}{p:Program}{w:World}{n₀:Nat}{ann:Option Value}{n:Nat}:∀ {s s':SharedT}{t:Thread},topRunT tb p w n₀ ann n s t=some s'→topRun tb p w n₀ ann n s.abs t=some s'.abs:=by
 induction n with
 | zero=>intro s s' t h;exact no_ns h
 | succ n ih=>
   intro s s' t h
   have h:stpT tb p w n₀ ann (topRunT tb p w n₀ ann n) s t=some s':=h
   unfold stpT at h
   unfold topRun
   generalize through t=b1 at h ⊢
   rcases b1 with _ | _
   · generalize stepOk n₀ ann t=b2 at h ⊢
     rcases b2 with _ | _
     · exact no_ns h
     · rcases hs:stepT (denote tb) p w s t with _ | r
       · rw [hs] at h;exact no_ns h
       · rw [hs] at h;rw [stepT_spec hs];exact ih h
   · obtain rfl:=Option.some.inj h;rfl
noncomputable def bT (P:Params):BT:=[boot_o_0 P,boot_o_1 P,boot_o_2 P,boot_o_3 P,boot_o_4 P,boot_o_5 P,boot_o_6 P,boot_o_7 P,boot_o_8 P,boot_o_9 P,boot_o_10 P].zipIdx.foldl (fun t x=>t.ins x.2 x.1) .nil
theorem bT_abs (P:Params):absHeap (bT P) 11 {}=boot_heap P:=by kernel_rfl
noncomputable abbrev XtN:Shared→Bool:=fun s=>xlAt hd.view_39 [] s&&recOk [] s
noncomputable abbrev YfN (s:Shared):=(asL.map s.heap.get?,[571].map s.heap.get?)
noncomputable abbrev YaN (w:World):=((hd.heap_39 w.params).map fun p=>some p.2,[571].map fun _=>some (tabObj #[]))
noncomputable abbrev seenA {α:Type}(p q:Program) (loose:List Str) (Xt:Shared→Bool) (Yf:Shared→α) (H₀:Heap) (s:Shared):=
 ((staticsOk (importedModules p.main.body) H₀ s.heap&&namesBound p s.heap&&gensDone s&&laidKept H₀ s.heap),openSeen q loose (importedModules p.main.body) Xt true s,Yf s)
theorem left_of {p q:Program}{loose:List Str}{Xt:Shared→Bool}{α:Type}{Yf:Shared→α}{Ya:World→α}{B:Params→BT}{M:Nat}(op:∀ w:World,(fencedOpening treeTable p w M).map (fun s=>(s.heap,s.gens,s.drawn,s.toks))=some (boot_heap w.params,Array.mk [],boot_drawn,boot_toks))
   (hB:∀ P,absHeap (B P) 11 {}=boot_heap P)
   (E:∀ w os,(topRunT treeTable p w 11 (some (.ref 6)) M ⟨B w.params,11,{},#[],boot_drawn,boot_toks,os⟩ (topStub p)).map (fun S=>seenA p q loose Xt Yf (boot_heap w.params) S.abs)=some (true,openGood q loose,Ya w)):LeftO p q loose Xt Yf Ya M:=fun w=>by
 obtain ⟨⟨h,gs,d,k,os⟩,e,e'⟩:=Option.map_eq_some_iff.mp (op w)
 obtain ⟨rfl,rfl,rfl,rfl⟩:h=boot_heap w.params∧gs=Array.mk []∧d=boot_drawn∧k=boot_toks:=by simpa using e'
 obtain ⟨S,r,l⟩:=Option.map_eq_some_iff.mp (E w os)
 have r:=topRun_ofT r
 have t:topFrom treeTable p w M ⟨boot_heap w.params,Array.mk [],boot_drawn,boot_toks,os⟩=some S.abs:=by
   unfold topFrom
   dsimp only
   rw [show ((boot_heap w.params).isNs mainGlobals&&(Array.mk []:Array GenState).size==0)=true by kernel_rfl,show (boot_heap w.params).objs.size=11 by kernel_rfl,show (boot_heap w.params).nsMap mainGlobals "__annotations__" = some (.ref 6) by kernel_rfl]
   refine (?_:(topRun treeTable p w 11 (some (.ref 6)) M ⟨boot_heap w.params,Array.mk [],boot_drawn,boot_toks,os⟩ (topStub p)).bind _=_)
   rw [show topRun treeTable p w 11 (some (.ref 6)) M ⟨boot_heap w.params,Array.mk [],boot_drawn,boot_toks,os⟩ (topStub p)=some S.abs from hB w.params▸r]
   refine (?_:(match staticsOk (importedModules p.main.body) (boot_heap w.params) S.abs.heap&&namesBound p S.abs.heap&&gensDone S.abs&&laidKept (boot_heap w.params) S.abs.heap with | true=>_ | false=>_)=_)
   rw [show (staticsOk (importedModules p.main.body) (boot_heap w.params) S.abs.heap&&namesBound p S.abs.heap&&gensDone S.abs&&laidKept (boot_heap w.params) S.abs.heap)=true from congrArg Prod.fst l]
 unfold openEnds
 rw [e]
 refine (?_:(topFrom treeTable p w M _).map _=_)
 rw [t]
 exact congrArg some (congrArg Prod.snd l)
noncomputable def Elhs (w:World) (os:OsState):=(topRunT treeTable pw w 11 (some (.ref 6)) 6000 ⟨bT w.params,11,{},#[],boot_drawn,boot_toks,os⟩ (topStub pw)).map fun S=>seenA pw hd.view_39 looseN XtN YfN (boot_heap w.params) S.abs
theorem same_find:PySem.Manifest.find? = PySem.Manifest.find?:=rfl
name_quick te13590782946482404596 for PySem.Manifest.find? by same_find
noncomputable def yesN {α:Type}(_:α):Bool:=true
theorem qE:yesN Elhs=true:=by k_qdec
theorem wsN:OpenLaw.wellSaid PySem.Challenge.rw_jj0021_01=true:=by k_qdec
theorem E_eq (w:World):Elhs w=fun os=>some (true,openGood hd.view_39 looseN,YaN w):=
 (congrFun PySem.W.Fast.te8486392863003682321 w).trans (by kernel_rfl)
theorem leftN:LeftO pw hd.view_39 looseN XtN YfN YaN 6000:=
 left_of (boot_open (p:=pw) (N:=6000) (by kernel_rfl) (by decide) (fun s=>by kernel_rfl)) bT_abs fun w os=>congrFun (E_eq w) os
set_option maxHeartbeats 0 in
theorem hd (walk:WalkP hd.view_39 looseN (XL hd.view_39 []) (kmHook hd.heap_39 asL asL_eq [571]).says PySem.Challenge.rw_jj0021_01.row.toRowW lawD []):PySem.Challenge.rw_jj0021_01.Holds:=by
 w_on
 refine holds_law wsN fun said=>?_
 refine PySem.W.holds_open (Xt:=XtN) (Yf:=YfN) leftN (kmHook hd.heap_39 asL asL_eq [571]).of (kmHook hd.heap_39 asL asL_eq [571]).keeps (fun s e=>xl_of s (Bool.and_eq_true_iff.mp e).1) XL.keeps ?_ (by rfl) (by rfl) (fun s e=>recFacts_of (Bool.and_eq_true_iff.mp e).2) (by rfl) (by first | assumption | decide +kernel) (by decide +kernel) ⟨rfl,rfl,rfl,rfl,rfl,by decide +kernel⟩ ?_ walk
 · kernel_rfl
 · w_witness2
end Mine
end
section
set_option maxHeartbeats 2000000
namespace PySem
open Sem (wp)
open PySem.W PyProof.Rows Calls
namespace F
theorem ba_slot_len:Slot "bytearray" "__len__" "bytearray.__len__":=
 .of (owner:="bytearray") (n:="__len__") (by rw [typeLookup_type,builtinLookup_eq_fast];kernel_rfl) (by decide +kernel) (by decide +kernel) (by decide +kernel) (by first | exact .inl (by decide +kernel) | exact .inr (by decide +kernel)) (by rw [isSubtype_type];kernel_rfl)
theorem ba_slot_getitem:Slot "bytearray" "__getitem__" "bytearray.__getitem__":=
 .of (owner:="bytearray") (n:="__getitem__") (by rw [typeLookup_type,builtinLookup_eq_fast];kernel_rfl) (by decide +kernel) (by decide +kernel) (by decide +kernel) (by first | exact .inl (by decide +kernel) | exact .inr (by decide +kernel)) (by rw [isSubtype_type];kernel_rfl)
theorem ba_slot_iter:Slot "bytearray" "__iter__" "bytearray.__iter__":=
 .of (owner:="bytearray") (n:="__iter__") (by rw [typeLookup_type,builtinLookup_eq_fast];kernel_rfl) (by decide +kernel) (by decide +kernel) (by decide +kernel) (by first | exact .inl (by decide +kernel) | exact .inr (by decide +kernel)) (by rw [isSubtype_type];kernel_rfl)
theorem bi_slot_next:Slot "bytearray_iterator" "__next__" "bytearray_iterator.__next__":=
 .of (owner:="bytearray_iterator") (n:="__next__") (by rw [typeLookup_type,builtinLookup_eq_fast];kernel_rfl) (by decide +kernel) (by decide +kernel) (by decide +kernel) (by first | exact .inl (by decide +kernel) | exact .inr (by decide +kernel)) (by rw [isSubtype_type];kernel_rfl)
theorem bi_slot_self:Slot "bytearray_iterator" "__iter__" "bytearray_iterator.__iter__":=
 .of (owner:="bytearray_iterator") (n:="__iter__") (by rw [typeLookup_type,builtinLookup_eq_fast];kernel_rfl) (by decide +kernel) (by decide +kernel) (by decide +kernel) (by first | exact .inl (by decide +kernel) | exact .inr (by decide +kernel)) (by rw [isSubtype_type];kernel_rfl)
theorem ba_entry_len:entryFor table "bytearray.__len__" = some Builtin.«bytearray.__len__»:=entryFor_of_tree (by kernel_rfl)
theorem ba_entry_getitem:entryFor table "bytearray.__getitem__" = some Builtin.«bytearray.__getitem__»:=entryFor_of_tree (by kernel_rfl)
theorem ba_entry_iter:entryFor table "bytearray.__iter__" = some Builtin.«bytearray.__iter__»:=entryFor_of_tree (by kernel_rfl)
theorem bi_entry_next:entryFor table "bytearray_iterator.__next__" = some Builtin.«bytearray_iterator.__next__»:=entryFor_of_tree (by kernel_rfl)
theorem bi_entry_self:entryFor table "bytearray_iterator.__iter__" = some Builtin.«dict_keyiterator.__iter__»:=entryFor_alias (id':="dict_keyiterator.__iter__") (by kernel_rfl) rfl (by decide +kernel) (by kernel_rfl)
theorem ba_args_len (a:Value):argsOk "bytearray.__len__" ⟨[a],[]⟩:=by unfold argsOk;kernel_rfl
theorem ba_args_getitem (a b:Value):argsOk "bytearray.__getitem__" ⟨[a,b],[]⟩:=by unfold argsOk;kernel_rfl
theorem ba_args_iter (a:Value):argsOk "bytearray.__iter__" ⟨[a],[]⟩:=by unfold argsOk;kernel_rfl
theorem bi_args_next (a:Value):argsOk "bytearray_iterator.__next__" ⟨[a],[]⟩:=by unfold argsOk;kernel_rfl
theorem bi_args_self (a:Value):argsOk "bytearray_iterator.__iter__" ⟨[a],[]⟩:=by unfold argsOk;kernel_rfl
theorem ba_no_bytes:typeLookup (.type "bytearray") "__bytes__" = pure none:=by rw [typeLookup_type,builtinLookup_eq_fast];kernel_rfl
theorem ba_no_index:typeLookup (.type "bytearray") "__index__" = pure none:=by rw [typeLookup_type,builtinLookup_eq_fast];kernel_rfl
theorem ba_buffer:typeLookup (.type "bytearray") "__buffer__" = pure (some (.builtin "bytearray.__buffer__")):=by rw [typeLookup_type,builtinLookup_eq_fast];kernel_rfl
set_option linter.deprecated false in
theorem ba_bdrop : "bytearray.__buffer__".dropRight ("__buffer__".length+1) = "bytearray":=by decide +kernel
theorem ba_bends : "bytearray.__buffer__".endsWith ("." ++ "__buffer__")=true:=by decide +kernel
end F
section
variable {prog:Program}{w:World}{A:Around}{E:Value→Shared→Prop}{s:Shared}{a:Addr}{b:Array UInt8}
theorem ba_typeIs (h:s.heap.get? a=some (baObj b)):s.TypeIs (.ref a) "bytearray":=⟨_,h,rfl⟩
theorem ba_payload {Q:Array UInt8→Shared→Prop}(ho:s.heap.get? a=some (baObj b)) (h:Q b s):wpAny (model prog w) A (Builtin.Bytes.payload (.ref a)) Q E s:=by
 unfold Builtin.Bytes.payload
 refine wpAny_bind ?_
 unfold Builtin.Bytes.payload?
 exact wpAny_bind (wpAny_load ho (wpAny_pure (wpAny_pure h)))
theorem ba_len {Q:Value→Shared→Prop}(ho:s.heap.get? a=some (baObj b)) (hz:(b.size:Int)<2 ^ 63) (h:Q (.int b.size (s.toks+1)) { s with toks:=s.toks+1+1 }):wpAny (model prog w) A (call (.builtin "len") [.ref a]) Q E s:=by
 refine call_function_entry kind_len plain_len entry_len (args_len1 _) ?_
 unfold Builtin.«len»
 refine wpAny_bind (m:=oneArg "len" _) (wpAny_pure ?_)
 refine wpAny_bind (m:=callSpecial? (.ref a) (Str.ofString "__len__")) (wpAny_callSpecial?_slot (name:=Str.ofString "__len__") (ba_typeIs ho) F.ba_slot_len
   (wpAny_call_entry F.ba_slot_len (ba_typeIs ho) F.ba_entry_len ?_ (F.ba_args_len _)))
 show wpAny _ _ (do retInt (← Builtin.Bytes.payload (.ref a)).size) _ _ s
 refine wpAny_bind (ba_payload ho (wpAny_bind (wpAny_mkInt (wpAny_pure ⟨_,rfl,?_⟩))))
 refine wpAny_bind (wpAny_holding (wpAny_pure ?_))
 refine wpAny_bind (wpAny_letGo ?_)
 show wpAny _ _ (if ((b.size:Nat):Int)<0 then _ else _) _ _ _
 rw [if_neg (by simp)]
 show wpAny _ _ (if ((b.size:Nat):Int) ≥ 2 ^ 63 then _ else _) _ _ _
 rw [if_neg (by lia)]
 exact wpAny_bind (wpAny_mkInt (wpAny_pure ⟨_,rfl,h⟩))
theorem ba_getItem {i:Int}{u:Tok}{c:UInt8}{Q:Value→Shared→Prop}(ho:s.heap.get? a=some (baObj b)) (hf:Builtin.Bytes.fitsIndex i=true) (hc:(seqIndex? i b.size).bind (b[·]?)=some c)
   (h:Q (.int c.toNat s.toks) { s with toks:=s.toks+1 }):wpAny (model prog w) A (getItem (.ref a) (.int i u)) Q E s:=by
 refine getItem_slot (ba_typeIs ho) (by decide) F.ba_slot_getitem (wpAny_call_entry F.ba_slot_getitem (ba_typeIs ho) F.ba_entry_getitem ?_ (F.ba_args_getitem _ _))
 show wpAny _ _ (Builtin.Bytes.subscript? (.int i u) >>= fun r=>_) _ _ s
 refine wpAny_bind ?_
 unfold Builtin.Bytes.subscript?
 refine wpAny_bind (wpAny_specialOf (T:="int") rfl F.slot_int_index.lookup ?_)
 show wpAny _ _ (if (!Builtin.Bytes.fitsIndex i)=true then _ else pure (some i)) _ _ s
 rw [hf]
 refine wpAny_pure ?_
 dsimp only
 refine wpAny_bind (ba_payload ho ?_)
 rw [hc]
 exact wpAny_bind (wpAny_mkInt (wpAny_pure ⟨_,rfl,h⟩))
end
end PySem
end
section
set_option maxHeartbeats 2000000
namespace PySem
open Sem (wp)
open PySem.W PyProof.Rows Calls
section
variable {prog:Program}{w:World}{A:Around}{E:Value→Shared→Prop}{s:Shared}{a it:Addr}{b:Array UInt8}
noncomputable def IsBIter (h:Heap) (it a:Addr) (i:Nat):Prop:=∃ o,h.get? it=some o∧o.cls=.type "bytearray_iterator"∧o.data=.fields #[.ref a,.int i 0]
theorem bi_typeIs {i:Nat}(y:IsBIter s.heap it a i):s.TypeIs (.ref it) "bytearray_iterator":=let ⟨o,ho,hc,_⟩:=y;⟨o,ho,hc⟩
theorem ba_pyIter {Q:Value→Shared→Prop}(ho:s.heap.get? a=some (baObj b)) (hQ:Q (.ref s.heap.objs.size) { s with heap:=s.heap.push { cls:=.type "bytearray_iterator",data:=.fields #[.ref a,.int 0 0] } }):wpAny (model prog w) A (pyIter (.ref a)) Q E s:=by
 refine wpAny_pyIter_slot (ba_typeIs ho) F.ba_slot_iter (wpAny_call_entry F.ba_slot_iter (ba_typeIs ho) F.ba_entry_iter ?_ (F.ba_args_iter _))
 show wpAny _ _ (do ret (← newFields "bytearray_iterator" [.ref a,rawInt 0])) _ _ s
 exact wpAny_bind (wpAny_newObj_type (wpAny_pure ⟨_,rfl,"bytearray_iterator",_,⟨_,Heap.get?_push_size _ rfl,rfl⟩,F.bi_slot_next.lookup,hQ⟩))
theorem bi_pyIter {i:Nat}{Q:Value→Shared→Prop}(hit:IsBIter s.heap it a i) (h:Q (.ref it) s):wpAny (model prog w) A (pyIter (.ref it)) Q E s:=by
 refine wpAny_pyIter_slot (bi_typeIs hit) F.bi_slot_self (wpAny_call_entry F.bi_slot_self (bi_typeIs hit) F.bi_entry_self ?_ (F.bi_args_self _))
 show wpAny _ _ (ret (.ref it)) _ _ s
 exact wpAny_pure ⟨_,rfl,"bytearray_iterator",_,bi_typeIs hit,F.bi_slot_next.lookup,h⟩
theorem bi_next {i:Nat}{c:UInt8}{Q:Option Value→Shared→Prop}(hit:IsBIter s.heap it a i) (ha:s.heap.get? a=some (baObj b)) (hx:b[i]? = some c)
   (hQ:∀ h',IsBIter h' it a (i+1)→Heap.SameBut it s.heap h'→Q (some (.int (c.toNat:Int) s.toks)) { s with heap:=h',toks:=s.toks+1 }):wpAny (model prog w) A (pyNext (.ref it)) Q E s:=by
 obtain ⟨o,ho,hc,hd⟩:=id hit
 unfold pyNext
 refine wpAny_bind (wpAny_attempt (wpAny_callSpecial?_slot (name:=Str.ofString "__next__") (bi_typeIs hit) F.bi_slot_next
   (wpAny_call_entry F.bi_slot_next (bi_typeIs hit) F.bi_entry_next ?_ (F.bi_args_next _))))
 show wpAny _ _ (field (.ref it) 0 >>= _) _ _ s
 refine wpAny_bind (wpAny_field ho hd (x:=.ref a) rfl ?_)
 show wpAny _ _ (load a >>= _) _ _ s
 refine wpAny_bind (wpAny_load ha ?_)
 show wpAny _ _ (field (.ref it) 1 >>= _) _ _ s
 refine wpAny_bind (wpAny_field ho hd (x:=.int i 0) rfl ?_)
 show wpAny _ _ (match b[(i:Int).toNat]? with | some c=>(setField (.ref it) 1 (rawInt ((i:Int)+1)) >>= fun _=>retInt c.toNat) | none=>_) _ _ s
 simp -iota only [Int.toNat_natCast,hx]
 refine wpAny_bind (wpAny_setField ho hd (by simp -iota) (wpAny_bind (wpAny_mkInt (wpAny_pure ⟨_,rfl,wpAny_pure (hQ _ ?_ (Heap.SameBut.update ..))⟩))))
 exact ⟨_,Heap.get?_update_self _ ho (Obj.isFreed_of_fields (Obj.data_mapFields hd _)),(Obj.cls_mapFields ..).trans hc,by
   rw [Obj.data_mapFields hd];simp -iota [rawInt]⟩
theorem bi_end {i:Nat}{Q:Option Value→Shared→Prop}(hh:A.handled=none) (hit:IsBIter s.heap it a i) (ha:s.heap.get? a=some (baObj b)) (hx:b[i]? = none)
   (hQ:∀ h',Heap.ExtBut it s.heap h'→Q none { s with heap:=h' }):wpAny (model prog w) A (pyNext (.ref it)) Q E s:=by
 obtain ⟨o,ho,hc,hd⟩:=id hit
 unfold pyNext
 refine wpAny_bind (wpAny_attempt (wpAny_callSpecial?_slot (name:=Str.ofString "__next__") (bi_typeIs hit) F.bi_slot_next
   (wpAny_call_entry F.bi_slot_next (bi_typeIs hit) F.bi_entry_next ?_ (F.bi_args_next _))))
 show wpAny _ _ (field (.ref it) 0 >>= _) _ _ s
 refine wpAny_bind (wpAny_field ho hd (x:=.ref a) rfl ?_)
 show wpAny _ _ (load a >>= _) _ _ s
 refine wpAny_bind (wpAny_load ha ?_)
 show wpAny _ _ (field (.ref it) 1 >>= _) _ _ s
 refine wpAny_bind (wpAny_field ho hd (x:=.int i 0) rfl ?_)
 show wpAny _ _ (match b[(i:Int).toNat]? with | some c=>_ | none=>(rule "bytearray_iterator.__next__.end" >>= fun _=>setField (.ref it) 0 .none >>= fun _=>letGo [.ref a] >>= fun _=>Builtin.SmallTypes.stopIteration)) _ _ s
 simp -iota only [Int.toNat_natCast,hx]
 refine wpAny_bind (wpAny_rule (wpAny_bind (wpAny_setField ho hd (by simp -iota) ?_)))
 refine wpAny_bind (wpAny_letGo ?_)
 show wpAny _ _ (newExc (.type "StopIteration") [] >>= _) _ _ _
 refine wpAny_bind ?_
 simp -iota only [newExc,newTuple]
 refine wpAny_bind (wpAny_newObj_type ?_ (by size_fits))
 refine wpAny_bind (m:=firstArgMember _ _) (wpAny_of_eq (a:=Value.none) (by first | rfl | (simp -iota only [firstArgMember];rfl)) ?_)
 refine wpAny_newObj_type ?_ (by size_fits)
 simp -iota only [raiseNew]
 refine wpAny_bind (wpAny_handled ?_)
 rw [show A.in1.handled=none from hh]
 refine wpAny_bind (wpAny_pure (wpAny_throw ?_))
 refine wpAny_bind (wpAny_isInstance (T:="StopIteration") (b:=true) ⟨_,Heap.get?_push_size _ rfl,rfl⟩ isSubtype_stop ?_)
 exact wpAny_pure (hQ _ (((Heap.SameBut.update ..).extBut.push _).push _))
end
end PySem
end
section
set_option maxHeartbeats 2000000
namespace PySem
open Sem (wp)
open PySem.W PyProof.Rows Calls
section
variable {prog:Program}{w:World}{A:Around}{E:Value→Shared→Prop}{s:Shared}{a it:Addr}{b:Array UInt8}
theorem ba_buffer? {id:String}{full:Bool}{Q:Option (Array UInt8)→Shared→Prop}(ho:s.heap.get? a=some (baObj b)) (h:Q (some b) s):wpAny (model prog w) A (Builtin.Bytes.buffer? id (.ref a) full) Q E s:=by
 have hT:=ba_typeIs ho
 unfold Builtin.Bytes.buffer?
 refine wpAny_bind (wpAny_specialOf hT F.ba_buffer ?_)
 have own:∀ {Q':Bool→Shared→Prop},Q' true s→wpAny (model prog w) A (Builtin.Bytes.slotIsOwn (.ref a) "__buffer__") Q' E s:=fun h=>by
   unfold Builtin.Bytes.slotIsOwn
   refine wpAny_bind (wpAny_specialOf hT F.ba_buffer ?_)
   dsimp only
   rw [F.ba_bends,F.ba_bdrop]
   exact wpAny_isInstance hT F.ba_sub h
 refine wpAny_bind (own ?_)
 refine bm_if_false rfl ?_
 refine wpAny_bind (wpAny_specialOf hT F.ba_buffer ?_)
 dsimp only
 refine wpAny_bind (ba_ownRelease hT ?_)
 refine bm_if_false rfl ?_
 exact wpAny_bind (ba_payload ho (wpAny_pure h))
theorem bm_new_ba {Q:Value→Shared→Prop}(ho:s.heap.get? a=some (baObj b)) (hz:b.size≤sizeLine)
   (hQ:∀ t k,Q (.bytes b t) { s with toks:=k }) :
   codeAny (model prog w) A (.call (.builtin "bytes.__new__") ⟨[.type "bytes",.ref a],[]⟩) (wants Q E) s:=by
 refine codeAny_of_tree ?_
 show wpAny _ A.in1 (do checkBuiltinCall "bytes.__new__" ⟨[.type "bytes",.ref a],[]⟩;again (.builtin "bytes.__new__" ⟨[.type "bytes",.ref a],[]⟩)) _ _ s
 refine wpAny_bind (wpAny_of_eq (F.bm_newCall _) (wpAny_pure ⟨plainId_quiet F.bm_plain _,codeAny_builtin F.bm_entry ?_⟩))
 rw [Around.under_plainId F.bm_plain _]
 have hT:=ba_typeIs ho
 unfold Builtin.«bytes.__new__»
 refine wpAny_bind (wpAny_of_eq (a:=true) rfl ?_)
 refine bm_if_false rfl ?_
 refine wpAny_bind (wpAny_of_eq F.bm_sub ?_)
 refine bm_if_false rfl ?_
 refine wpAny_bind (wpAny_of_eq (F.bm_bind _) ?_)
 refine wpAny_bind (wpAny_of_eq (a:=()) rfl ?_)
 refine wpAny_bind (wpAny_of_eq (a:=()) rfl ?_)
 refine bm_if_false rfl ?_
 refine wpAny_bind (wpAny_specialOf hT F.ba_no_bytes ?_)
 refine wpAny_bind (wpAny_bind ?_)
 show wpAny _ _ (load a >>= _) _ _ _
 refine wpAny_bind (wpAny_load ho ?_)
 refine wpAny_pure (wpAny_pure ?_)
 refine bm_if_false rfl ?_
 refine wpAny_bind (wpAny_specialOf hT F.ba_no_index ?_)
 refine bm_if_true rfl ?_
 first
   | show wpAny _ _ (Builtin.Bytes.buffer? "bytes.__new__" (.ref a) true >>= _) _ _ _
   | (refine wpAny_bind ?_;show wpAny _ _ (Builtin.Bytes.buffer? "bytes.__new__" (.ref a) true >>= _) _ _ _)
 refine wpAny_bind (ba_buffer? ho ?_)
 refine wpAny_bind (wpAny_rule ?_)
 refine wpAny_bind (wpAny_mkBytes ?_ hz)
 show wpAny _ _ (if (Value.type "bytes"==Value.type "bytes")=true then _ else _) _ _ _
 refine bm_if_true (by decide) ?_
 first
   | exact wpAny_pure (hQ _ _)
   | exact wpAny_bind (wpAny_pure (wpAny_pure (hQ _ _)))
theorem call_bytes_ba {Q:Value→Shared→Prop}(ho:s.heap.get? a=some (baObj b)) (hz:b.size≤sizeLine) (hQ:∀ t k,Q (.bytes b t) { s with toks:=k }):wpAny (model prog w) A (call (.type "bytes") [.ref a]) Q E s:=by
 refine callType_codes (Q₁:=fun obj s₁=>s₁.TypeIs obj "bytes"∧Q obj s₁) F.bm_called (F.bm_typeCall _) F.entry_object_init
   (bm_new_ba ho hz fun t k=>⟨PySem.W.typeIs_bytes _ _ _,hQ t k⟩) fun obj s₁ h₁=>?_
 exact ⟨h₁.1,F.args_object_init_2 obj _,object_init_meets F.bm_called.init.lookup F.bm_called.made (by decide) prog w A.in1 _ s₁ ⟨h₁.1,rfl,h₁.2⟩⟩
end
end PySem
open PySem PySem.W PyProof.Rows PySem.Calls
namespace Mine
section
variable {G:Glb}{S:Sit}{X:KV}{m:Names}{H:HP}{K:KV}{a:Addr}{b:Array UInt8}
theorem f_len_bar (ha:H.o a=some (.bar b)) (hz:b.size≤sizeLine) (k:K (.int b.size 0) m H):CalC G S (.builtin "len") [.ref a] [] K X m H:=cal1 isB fun r e s mm M R=>by
 obtain rfl:=er_ref' e
 obtain ⟨o,ho,rfl⟩:=R.get ha
 rw [sizeLine_eq] at hz
 exact ba_len ho (by lia) (eff_ M R k)
theorem it_bar {i:Int}(ha:H.o a=some (.bar b)) (h0:0≤i) (h1:i<b.size) (hz:b.size≤sizeLine) (k:K (byt1 b i.toNat) m H):IteC G S (.ref a) (.int i 0) K X m H:=fun ro ri e1 e2 s mm M R=>by
 obtain rfl:=er_ref' e1
 obtain ⟨t,rfl⟩:=er_int' e2
 obtain ⟨o,ho,rfl⟩:=R.get ha
 rw [sizeLine_eq] at hz
 have hl:i.toNat<b.size:=(Int.toNat_lt h0).mpr h1
 refine ⟨"bytearray",_,F.ba_slot_getitem.lookup,ba_typeIs ho,ba_getItem (c:=b.toList.getD i.toNat 0) ho (by simp only [Builtin.Bytes.fitsIndex,Bool.and_eq_true,decide_eq_true_eq];exact ⟨Int.le_trans (by decide) h0,Int.lt_trans h1 (Int.lt_of_le_of_lt (Int.ofNat_le.mpr hz) (by decide))⟩) ?_ (eff_ M R k)⟩
 have:seqIndex? i b.size=some i.toNat:=by
   have hn:¬ i<0:=Int.not_lt.mpr h0
   simp [seqIndex?,hn,h0,h1]
 rw [this]
 simp [List.getD,hl]
theorem itBar:Itb G (.ref a) b.size (byt1 b) (fun i o=>o.cls=.type "bytearray_iterator"∧o.data=.fields #[.ref a,.int i 0]) (fun H=>H.o a=some (.bar b)) where
 start:=fun A rv s stk sv pr H Q E e R p h=>by
   rw [er_ref' e]
   obtain ⟨o,ho,rfl⟩:=R.get p
   exact ba_pyIter ho (h _ s.toks ⟨rfl,rfl⟩ rfl)
 item:=fun A it i s stk sv pr H o Q E hi R p ho hO hn h=>by
   obtain ⟨ob,hob,rfl⟩:=R.get p
   have hx:b[i]? = some (b.toList.getD i 0):=by
     rw [Array.getElem?_eq_getElem hi];simp [List.getD,hi]
   exact bi_next ⟨o,ho,hO⟩ hob hx fun h' ⟨o',ho',c',d'⟩ sb=>h _ h' _ o' rfl ho' ⟨c',d'⟩ sb
 done:=fun A it s stk sv pr H o Q E hh R p ho hO hn h=>by
   obtain ⟨ob,hob,rfl⟩:=R.get p
   exact bi_end hh ⟨o,ho,hO⟩ hob (by simp) fun h' x=>h h' s.toks x
 fields:=fun i o hO=>⟨_,hO.2⟩
 self:=fun A it i s o Q E ho hO h=>bi_pyIter ⟨o,ho,hO⟩ h
theorem f_bytes_bar (ha:H.o a=some (.bar b)) (hz:b.size≤sizeLine) (k:K (.bytes b 0) m H):CalC G S (.type "bytes") [.ref a] [] K X m H:=cal1 isT fun r e s mm M R=>by
 obtain rfl:=er_ref' e
 obtain ⟨o,ho,rfl⟩:=R.get ha
 exact call_bytes_ba ho hz fun t k'=>eff_ M R k
end
end Mine
end
section
open PySem PySem.W PyProof.Rows PySem.Calls
set_option maxHeartbeats 2000000
namespace PySem
open Builtin Builtin.Str
theorem call_split1 {prog:Program}{w:World}{A:Around}{E:Value→Shared→Prop}{s:Shared}{x y:Str}{t u:Tok}{Q:Value→Shared→Prop}(hy:(y.length==0)=false) (hsz:x.length≤sizeLine)
   (hsz2:(partsBetween x (occurrences x y 0 x.length (x.length+1)) y.length).length≤sizeLine)
   (hq:∀ (l:List (Str × Tok)) k,l.map (·.1)=Txt.split x y→Q (.ref s.heap.objs.size) { s with heap:=s.heap.push { cls:=.type "list",data:=.seq (strValues l).toArray },toks:=k }) :
   wpAny (model prog w) A (call (.builtin "str.split") [.str x t,.str y u]) Q E s:=by
 by_cases h1:(decide (x.length<y.length) || decide (Builtin.Str.strKind x<Builtin.Str.strKind y))=true
 · refine call_meets F.slot_str_split (typeIs_str _ _ _) F.entry_str_split (F.args_str_split_2 _ _) (meets_str_split_cannot_occur x y t u h1) ?_
   exact hq [(x,t)] _ (by unfold Txt.split;rw [if_pos h1];rfl)
 rw [Bool.not_eq_true] at h1
 by_cases hf:(occurrences x y 0 x.length (x.length+1)).isEmpty=true
 · refine call_meets F.slot_str_split (typeIs_str _ _ _) F.entry_str_split (F.args_str_split_2 _ _) (meets_str_split_not_found x y t u h1 hy hf) ?_
   exact hq [(x,t)] _ (by unfold Txt.split;rw [h1,if_neg Bool.false_ne_true,if_pos hf];rfl)
 rw [Bool.not_eq_true] at hf
 refine call_meets F.slot_str_split (typeIs_str _ _ _) F.entry_str_split (F.args_str_split_2 _ _) (meets_str_split_sep x y t u h1 hy hf hsz hsz2) ?_
 have e:=strsFrom_eq s.toks (partsBetween x (occurrences x y 0 x.length (x.length+1)) y.length)
 have:=hq (numbered s.toks (partsBetween x (occurrences x y 0 x.length (x.length+1)) y.length)) (s.toks+(partsBetween x (occurrences x y 0 x.length (x.length+1)) y.length).length) (by rw [numbered_texts];unfold Txt.split;rw [h1,if_neg Bool.false_ne_true,hf,if_neg Bool.false_ne_true])
 rw [← e] at this
 exact this
end PySem
namespace Mine
section
variable {G:Glb}{S:Sit}{X:KV}{m:Names}{H:HP}{K:KV}
theorem f_upper {x:Str}(hz:x.length≤5592405) (k:K (.str (Txt.upper x) 0) m H):CalC G S (.builtin "str.upper") [.str x 0] [] K X m H:=cal1 isB fun r e s mm M R=>by
 refine xe11 (er_str' e) fun t zq1=>?_
 obtain rfl:=zq1
 exact SCL.upper hz fun _=>eff_ M R k
theorem f_rfind {x y:Str}(k:K (.int (Txt.rfind x y) 0) m H):CalC G S (.builtin "str.rfind") [.str x 0,.str y 0] [] K X m H:=cal2 isB fun r q e1 e2 s mm M R=>by
 obtain ⟨t,rfl⟩:=er_str' e1
 refine xe11 (er_str' e2) fun u zq1=>?_
 obtain rfl:=zq1
 exact SC.rfind (eff_ M R k)
theorem f_endswith {x y:Str}(k:K (.bool (Txt.endswith x y)) m H):CalC G S (.builtin "str.endswith") [.str x 0,.str y 0] [] K X m H:=cal2 isB fun r q e1 e2 s mm M R=>by
 obtain ⟨t,rfl⟩:=er_str' e1
 refine xe11 (er_str' e2) fun u zq1=>?_
 obtain rfl:=zq1
 exact SC.endswith (eff0 M R k)
theorem f_split {x y:Str}(hy:(y.length==0)=false) (hz:x.length≤sizeLine) (hz2:(Builtin.Str.partsBetween x (Builtin.Str.occurrences x y 0 x.length (x.length+1)) y.length).length≤sizeLine)
   (k:∀ a,H.o a=none→K (.ref a) m (H.put a (.list (strL (Txt.split x y))))):CalC G S (.builtin "str.split") [.str x 0,.str y 0] [] K X m H:=cal2 isB fun r q e1 e2 s mm M R=>by
 obtain ⟨t,rfl⟩:=er_str' e1
 refine xe11 (er_str' e2) fun u zq1=>?_
 obtain rfl:=zq1
 refine call_split1 hy hz hz2 fun l tk hl=>?_
 have R':=(R.push (.head _) (o:={ cls:=.type "list",data:=.seq (strValues l).toArray }) (co:=.list (strL (Txt.split x y))) ⟨_,_,rfl,?_⟩).toks tk
 · exact ⟨m,_,mm,M,R',k _ R.fresh⟩
 · rw [← hl]
   simp [strValues,strL,List.map_map,Function.comp_def]
theorem b_mul_b {b:List UInt8}{n:Int}(hb:b≠[]) (hlo:-1048576≤n) (hn:n≤1048576) (hs:b.length≤16) (k:K (.bytes ((List.replicate n.toNat b).flatten).toArray 0) m H):BinC G S .Mult (.bytes b.toArray 0) (.int n 0) K X m H:=fun r₁ r₂ e1 e2 s mm M R=>by
 obtain ⟨t,rfl⟩:=er_bytes' e1
 refine xe11 (er_int' e2) fun u zq1=>?_
 obtain rfl:=zq1
 exact PySem.W.bytes_mul_any hb hlo hn hs fun t' k'=>eff_ M R k
theorem f_isi_bb {b:Bool}(k:K (.bool true) m H):CalC G S (.builtin "isinstance") [.bool b,.type "bool"] [] K X m H:=cal2 isB fun r q e1 e2 s mm M R=>by
 obtain rfl:=er_bool' e1
 obtain rfl:=er_type' e2
 exact IsiPair.bool_bool (eff0 M R k)
theorem f_isi_by {b:Array UInt8}(k:K (.bool true) m H):CalC G S (.builtin "isinstance") [.bytes b 0,.type "bytes"] [] K X m H:=cal2 isB fun r q e1 e2 s mm M R=>by
 refine xe11 (er_bytes' e1) fun t zq1=>?_
 obtain rfl:=zq1
 obtain rfl:=er_type' e2
 exact call_isinstance (isinstance_true (Tx:="bytes") F.isi_meta_bytes F.sub_bytes_bytes) ⟨rfl,eff0 M R k⟩
theorem f_format1 {n:Int}(h0:0≤n) (h1:n≤255) (k:∀ x:Str,K (.str x 0) m H):CalC G S (.builtin "str.format") [.str "Given LFN entry part with index '{}'has already been added to LFN entry list." 0,.int n 0] [] K X m H:=cal2 isB fun r q e1 e2 s mm M R=>by
 obtain ⟨t,rfl⟩:=er_str' e1
 refine xe11 (er_int' e2) fun u zq1=>?_
 obtain rfl:=zq1
 refine' KFm.call_k ?kfmF ?kfmg ?kfmm ?_
 case kfmF=>kfm_eq
 case kfmg=>kfm_args
 case kfmm=>
   apply KPc.meets_of
   intro _ _ _ _ _ _ _
   unfold Builtin.«str.format»
   refine wpAny_bind (wpAny_of_eq (a:=(_,_,_)) rfl ?_)
   refine wpAny_bind ?_
   refine wpAny_bind ?_
   rw [KPc.range_list]
   refine KFm.start ?_
   intro _ _
   kfm_turns
 exact fun t' k'=>eff_ M R (k _)
end
end Mine
end
section
open PySem PySem.W PyProof.Rows PySem.Calls
set_option maxHeartbeats 2000000
namespace PySem
theorem setItem_plain {prog:Program}{w:World}{A:Around}{E:Value→Shared→Prop}{s:Shared}{l:Addr}{items:Array Value}{n:Nat}{k:Int}{t:Tok}{v:Value}{Q:Unit→Shared→Prop}(ho:s.heap.get? l=some { cls:=.type "list",data:=.seq items n })
   (h0:0≤k) (hfit:k<2 ^ 63) (hn:k<items.size)
   (hQ:∀ h' n',h'.get? l=some { cls:=.type "list",data:=.seq (items.setIfInBounds k.toNat v) n' }→Heap.SameBut l s.heap h'→Q () { s with heap:=h' }) :
   wpAny (model prog w) A (setItem (.ref l) (.int k t) v) Q E s:=by
 have hT:s.TypeIs (.ref l) "list":=⟨_,ho,rfl⟩
 have hd:({ cls:=.type "list",data:=.seq items n }:Obj).data=.seq items n:=rfl
 unfold setItem
 try with_reducible refine wpAny_holding ?_
 first | refine wpAny_bind (wpAny_pure ?_) | skip
 refine wpAny_bind (wpAny_sequenceKey hT (by decide) ?_)
 refine wpAny_bind (wpAny_callSpecial?_slot (name:=Str.ofString "__setitem__") hT slot_list_setitem
   (wpAny_call_entry slot_list_setitem hT entry_list_setitem ?_ (args_list_setitem _ _ _)))
 show wpAny _ _ (Builtin.List.listSubscript? (.int k t) >>= _) _ _ s
 refine wpAny_bind (wpAny_listSubscript_int (fitsIndex_of h0 hfit) ?_)
 clear hfit
 obtain ⟨j,rfl⟩:=Int.eq_ofNat_of_zero_le h0
 have hj:j<items.size:=by exact Int.ofNat_le.mp (by assumption)
 have hx':items[j]? = some items[j]:=Array.getElem?_eq_getElem hj
 show wpAny _ _ ((seqItemAt l j >>= fun r=>pure (r.map (j,·))) >>= _) _ _ s
 refine wpAny_bind (wpAny_bind (wpAny_seqItemAt ho hd (wpAny_pure ?_)))
 rw [hx']
 show wpAny _ _ (setSeqItemAt l j v >>= _) _ _ s
 have hfin:∃ n',(s.heap.update l (Obj.mapSeq (·.setIfInBounds j v))).get? l=some { cls:=.type "list",data:=.seq (items.setIfInBounds j v) n' }:=
   ⟨_,Heap.get?_update_self (Obj.mapSeq (·.setIfInBounds j v)) ho rfl⟩
 obtain ⟨n',hfin⟩:=hfin
 refine wpAny_bind (wpAny_setSeqItemAt ho hd ?_)
 first
   | exact wpAny_bind (wpAny_pure (wpAny_pure ⟨.none,rfl,wpAny_pure (hQ _ n' hfin (Heap.SameBut.update ..))⟩))
   | exact wpAny_pure ⟨.none,rfl,wpAny_pure (hQ _ n' hfin (Heap.SameBut.update ..))⟩
end PySem
namespace Mine
theorem foldl_app (items:Array Value):∀ (k:Nat) (acc:Array Value),(List.foldl (fun x1 x2=>x1++x2) acc (List.replicate k items)).toList=acc.toList++(List.replicate k items.toList).flatten
 | 0,acc=>by simp
 | k+1,acc=>by
   rw [List.replicate_succ,List.foldl_cons,foldl_app items k,List.replicate_succ,List.flatten_cons,Array.toList_append,List.append_assoc]
section
variable {G:Glb}{S:Sit}{X:KV}{m:Names}{H:HP}{K:KV}{KB:Bool→Names→HP→Prop}{KU:Unit→Names→HP→Prop}
theorem relListO {stk:List Env}{sv:Sv}{pr:Pr}{s:Shared}(R:RelC G stk sv pr H s) {l:Addr}{vs:List Value}(h:H.o l=some (.list vs)):∃ rvs n,s.heap.get? l=some { cls:=.type "list",data:=.seq rvs n }∧rvs.toList.map er=vs:=by
 obtain ⟨o,ho,rvs,n,rfl,e⟩:=R.get h
 exact ⟨rvs,n,ho,e⟩
theorem b_add_l {l b:Addr}{vs ws:List Value}(hl:H.o l=some (.list vs)) (hb:H.o b=some (.list ws)) (hz:vs.length+ws.length≤sizeLine) (k:∀ a,H.o a=none→K (.ref a) m (H.put a (.list (vs++ws)))):BinC G S .Add (.ref l) (.ref b) K X m H:=fun r₁ r₂ e1 e2 s mm M R=>by
 obtain rfl:=er_ref' e1
 obtain rfl:=er_ref' e2
 refine xe22 (relListO R hl) fun v1 n1 h1 d1=>?_
 refine xe22 (relListO R hb) fun v2 n2 h2 d2=>?_
 have z1:v1.size=vs.length:=by rw [← d1];simp
 have z2:v2.size=ws.length:=by rw [← d2];simp
 refine concat_meets ⟨_,h1,rfl⟩ ⟨_,h2,rfl⟩ noFill_list_add seq_list_add PySem.F.slot_list_add PySem.F.entry_list_add (PySem.F.args_list_add_2 _ _) (list_addW l b v1 v2 n1 n2 none none #[] #[] (by lia)) ⟨h1,h2,?_⟩
 exact ⟨m,_,mm,M,R.push (.head _) (o:={ cls:=.type "list",data:=.seq (v1++v2) }) (co:=.list (vs++ws)) ⟨_,_,rfl,by rw [Array.toList_append,List.map_append,d1,d2]⟩,k _ R.fresh⟩
theorem b_mul_l {l:Addr}{vs:List Value}{x:Int}(hl:H.o l=some (.list vs)) (hlo:-(2 ^ 63:Int)≤x) (hhi:x<2 ^ 63) (hne:vs≠[]) (hz:vs.length * x.toNat≤2 ^ 24) (k:∀ a,H.o a=none→K (.ref a) m (H.put a (.list (List.replicate x.toNat vs).flatten))):BinC G S .Mult (.ref l) (.int x 0) K X m H:=fun r₁ r₂ e1 e2 s mm M R=>by
 obtain rfl:=er_ref' e1
 refine xe11 (er_int' e2) fun u zq1=>?_
 obtain rfl:=zq1
 refine xe22 (relListO R hl) fun v1 n1 h1 d1=>?_
 have z1:v1.size=vs.length:=by rw [← d1];simp
 rw [← z1] at hz
 have hemp:v1.isEmpty=false:=by
   rcases q:v1.isEmpty with _ | _
   · rfl
   ·
     exfalso;apply hne
     rw [Array.isEmpty_iff] at q
     rw [← d1,q];rfl
 refine wpAny_binaryOp_repeat_ref (T:="list") (U:="int") (by decide) ⟨_,h1,rfl⟩ (fun s'=>typeIs_int s' x u) noFill_list_mul F.fills_int_mul F.slot_int_rmul repeat_list F.slot_int_index.lookup
   (call_meets F.slot_int_rmul (typeIs_int s x u) F.entry_int_rmul (F.args_int_rmul_2 _ _) (int___rmul___int_list x u l v1 n1)
     ⟨h1,rfl,⟨_,h1,rfl⟩,call_meets F.slot_list_mul ⟨_,h1,rfl⟩ F.entry_list_mul (F.args_list_mul_2 _ _)
       (AutoListH.list___mul___list_int_3 l v1 n1 x u (by simp [Builtin.List.listFitsIndex];exact ⟨Int.le_trans (by decide) (by assumption:-2 ^ 63≤x),Int.lt_of_lt_of_le (by assumption:x<2 ^ 63) (by decide)⟩) (by lia) (by simp [Builtin.List.listTooLong,sizeLine];omega))
       ⟨h1,?_⟩⟩)
 rw [hemp,if_neg Bool.false_ne_true]
 refine ⟨m,_,mm,M,R.push (.head _) (o:={ cls:=.type "list",data:=.seq (List.foldl (fun x1 x2=>x1++x2) #[] (List.replicate x.toNat v1)) }) (co:=.list (List.replicate x.toNat vs).flatten) ⟨_,_,rfl,?_⟩,k _ R.fresh⟩
 rw [foldl_app,List.map_append,List.map_flatten,List.map_replicate,d1]
 rfl
theorem setI_l {l:Addr}{vs:List Value}{i:Int}{v:Value}(hl:H.o l=some (.list vs)) (h0:0≤i) (h1:i<vs.length) (hz:vs.length≤sizeLine) (k:KU () m (H.put l (.list (vs.set i.toNat v)))):SetI G S (.ref l) (.int i 0) v KU X m H:=fun ro ri rv e1 e2 e3 s mm M R=>by
 obtain rfl:=er_ref' e1
 refine xe11 (er_int' e2) fun t zq1=>?_
 obtain rfl:=zq1
 refine xe22 (relListO R hl) fun v1 n1 hl' d1=>?_
 have z1:v1.size=vs.length:=by rw [← d1];simp
 rw [sizeLine_eq] at hz
 refine setItem_plain hl' h0 (by lia) (by lia) fun h' n' ho' sb=>?_
 refine ⟨m,_,mm,M,R.upd (tk:=s.toks) (co':=.list (vs.set i.toNat v)) hl (fun b hb=>sb.2 b hb) ho' ⟨_,_,rfl,?_⟩,k⟩
 rw [← d1,← e3,Array.toList_setIfInBounds,List.map_set]
theorem t_list {l:Addr}{vs:List Value}(hl:H.o l=some (.list vs)) (hz:vs.length≤sizeLine) (k:KB (!vs.isEmpty) m H):TruC G S (.ref l) KB X m H:=fun r e s mm M R=>by
 obtain rfl:=er_ref' e
 refine xe12 (relList R hl) fun v1 hl' d1=>?_
 have z1:v1.size=vs.length:=by rw [← d1];simp
 rw [sizeLine_eq] at hz
 refine wpAny_truthy_list hl' (by lia) ?_
 have:v1.isEmpty=vs.isEmpty:=by
   rw [Bool.eq_iff_iff,Array.isEmpty_iff_size_eq_zero,List.isEmpty_iff_length_eq_zero,z1]
 rw [this]
 exact ⟨m,H,mm,M,R.toks _,k⟩
theorem f_sum {l:Addr}{ns:List Int}(hh:S.A.handled=none) (hl:H.o l=some (.list (intL ns))) (k:K (.int ns.sum 0) m H):CalC G S (.builtin "sum") [.ref l] [] K X m H:=cal1 isB fun r e s mm M R=>by
 obtain rfl:=er_ref' e
 refine xe12 (relList R hl) fun v1 hl' d1=>?_
 have hi:=ints_are d1
 refine xe11 hi.allInts.items fun xs hx=>?_
 have hl2:s.heap.IsList l (intItems xs):=by rw [← hx];simpa using hl'
 refine sum_intListG hh hl2 fun h' tk t' hk=>?_
 have e1:ns=xs.toList.map (·.1):=by
   rw [← nums_intItems,← hx]
   exact (show numsOf v1.toList.toArray.toList=ns from hi.numsOf).symm
 have e2:preSum (numAt xs) xs.size=ns.sum:=by
   rw [preSum_eq,List.take_of_length_le (by simp),e1]
 rw [e2]
 exact ⟨m,H,mm,M,R_keeps R hk,k⟩
theorem c_in_K {l:Addr}{items:Array Value}{n:Nat}{ns:List Int}{i:Int}(hl:G.K.lookup l=some ⟨.type "list",none,.seq items n,#[]⟩) (hi:IntsAre items.toList ns) (k:K (.bool (ns.any (·==i))) m H):CmpC G S .In (.int i 0) (.ref l) K X m H:=fun r₁ r₂ e1 e2 s mm M R=>by
 refine xe11 (er_int' e1) fun t zq1=>?_
 obtain rfl:=zq1
 obtain rfl:=er_ref' e2
 exact in_list_ints ⟨_,G.X.keeps R.base _ _ hl,rfl,_,rfl⟩ hi (eff0 M R k)
theorem e_usub {e:Expr}{p:Pos}(h:WE G S e (fun v m H=>∃ i,v=.int i 0∧K (.int (-i) 0) m H) X m H):WE G S (.UnaryOp .USub e p) K X m H:=by
 refine W.eq (arm_eval_UnaryOp ..) (W.bind (W.post h fun v m H h=>W.bind (W.standAt (W.holding ?_))))
 obtain ⟨i,ev,h⟩:=h
 refine xe11 (er_int' ev) fun t zq1=>?_
 obtain rfl:=zq1
 exact fun s mm M R=>neg_int (eff_ M R h)
end
end Mine
end
section
open PySem PySem.W PyProof.Rows PySem.Calls
set_option maxHeartbeats 2000000
namespace Mine
section
variable {G:Glb}{S:Sit}{X:KV}{m:Names}{H:HP}{K:KV}{KB:Bool→Names→HP→Prop}{KFl:KF}{KU:Unit→Names→HP→Prop}
theorem t_cmp2 {l r r2:Expr}{op op2:CmpOp}{p:Pos}(h:WE G S l (fun a=>WE G S r (fun b=>CmpC G S op a b (fun c=>TruC G S c (fun t m H=>if t=true then WE G S r2 (fun d=>CmpC G S op2 b d (fun e=>TruC G S e KB X) X) X m H else KB false m H) X) X) X) X m H)
   (hm:behindInMarks op2 r2=false:=by with_unfolding_all rfl):WT G S (.Compare l [op,op2] [r,r2] p) KB X m H:=by
 have he:markedEach [op,op2] [r,r2] (evalEach [r,r2] S.env)=[eval r S.env,eval r2 S.env]:=by
   show eval r S.env::[markedBehindIn op2 r2 (eval r2 S.env)]=_
   rw [markedBehindIn_of_false hm]
 refine W.eq (arm_isTrue_Compare ..) ?_
 rw [he]
 refine W.bind (W.post h fun a m H h=>?_)
 refine (?_:W G S (do
   let rv ← holding [_] (eval r S.env)
   standAt p
   let c ← holding [_,rv] (compareOp op _ rv)
   release [_,rv] [c]
   if ← holding [c,rv] (truthy c) then testChain p rv [op2] [eval r2 S.env] else pure false) _ _ _ _)
 · refine W.bind (W.holding (W.post h fun b m H h=>W.bind (W.standAt (W.bind (W.holding (W.post (h a b rfl rfl) fun c m H h=>W.bind (W.release (W.bind (W.holding (W.post (h c rfl) fun t m H h=>?_))))))))))
   rcases t with _ | _
   · exact W.pure h
   ·
     rw [if_pos rfl] at h
     rw [if_pos rfl]
     show W G S (do let rv ← holding [b] (eval r2 S.env);standAt p;let c ← operate [b,rv] (compareOp op2 b rv);holding [c] (truthy c)) _ _ _ _
     exact W.bind (W.holding (W.post h fun d m H h=>W.bind (W.standAt (W.bind (W.operate (W.post (h b d rfl rfl) fun e m H h=>W.holding (h e rfl)))))))
theorem e_cmp2 {l r r2:Expr}{op op2:CmpOp}{p:Pos}(h:WE G S l (fun a=>WE G S r (fun b=>CmpC G S op a b (fun c=>TruC G S c (fun t m H=>if t=true then WE G S r2 (fun d=>CmpC G S op2 b d K X) X m H else K c m H) X) X) X) X m H)
   (hm:behindInMarks op2 r2=false:=by with_unfolding_all rfl):WE G S (.Compare l [op,op2] [r,r2] p) K X m H:=by
 have he:markedEach [op,op2] [r,r2] (evalEach [r,r2] S.env)=[eval r S.env,eval r2 S.env]:=by
   show eval r S.env::[markedBehindIn op2 r2 (eval r2 S.env)]=_
   rw [markedBehindIn_of_false hm]
 refine W.eq (arm_eval_Compare ..) ?_
 rw [he]
 refine W.bind (W.post h fun a m H h=>?_)
 refine (?_:W G S (do
   let rv ← holding [_] (eval r S.env)
   standAt p
   let c ← holding [_,rv] (compareOp op _ rv)
   release [_,rv] [c]
   if ← holding [c,rv] (truthy c) then compareChain p rv [op2] [eval r2 S.env] else pure c) _ _ _ _)
 · refine W.bind (W.holding (W.post h fun b m H h=>W.bind (W.standAt (W.bind (W.holding (W.post (h a b rfl rfl) fun c m H h=>W.bind (W.release (W.bind (W.holding (W.post (h c rfl) fun t m H h=>?_))))))))))
   rcases t with _ | _
   · exact W.pure h
   ·
     rw [if_pos rfl] at h
     rw [if_pos rfl]
     show W G S (do let rv ← holding [b] (eval r2 S.env);standAt p;operate [b,rv] (compareOp op2 b rv)) _ _ _ _
     exact W.bind (W.holding (W.post h fun d m H h=>W.bind (W.standAt (W.operate (h b d rfl rfl)))))
theorem e_and2 {x y:Expr}{p:Pos}(h:WE G S x (fun v=>TruC G S v (fun t m H=>if t=true then WE G S y K X m H else K v m H) X) X m H):WE G S (.BoolOp .And [x,y] p) K X m H:=by
 show W G S (do let v ← eval x S.env;standAt p;let t ← holding [v] (truthy v);match BoolOp.And,t with | .And,false | .Or,true=>pure v | _,_=>eval y S.env) _ _ _ _
 refine W.bind (W.post h fun v m H h=>W.bind (W.standAt (W.bind (W.holding (W.post (h v rfl) fun t m H h=>?_)))))
 rcases t with _ | _
 · exact W.pure h
 · exact h
theorem e_or2 {x y:Expr}{p:Pos}(h:WE G S x (fun v=>TruC G S v (fun t m H=>if t=true then K v m H else WE G S y K X m H) X) X m H):WE G S (.BoolOp .Or [x,y] p) K X m H:=by
 show W G S (do let v ← eval x S.env;standAt p;let t ← holding [v] (truthy v);match BoolOp.Or,t with | .And,false | .Or,true=>pure v | _,_=>eval y S.env) _ _ _ _
 refine W.bind (W.post h fun v m H h=>W.bind (W.standAt (W.bind (W.holding (W.post (h v rfl) fun t m H h=>?_)))))
 rcases t with _ | _
 · exact h
 · exact W.pure h
theorem e_and3 {x y z:Expr}{p:Pos}(h:WE G S x (fun v=>TruC G S v (fun t m H=>if t=true then WE G S y (fun w=>TruC G S w (fun t m H=>if t=true then WE G S z K X m H else K w m H) X) X m H else K v m H) X) X m H):WE G S (.BoolOp .And [x,y,z] p) K X m H:=by
 show W G S (do let v ← eval x S.env;standAt p;let t ← holding [v] (truthy v);match BoolOp.And,t with | .And,false | .Or,true=>pure v | _,_=>(do let v ← eval y S.env;standAt p;let t ← holding [v] (truthy v);match BoolOp.And,t with | .And,false | .Or,true=>pure v | _,_=>eval z S.env)) _ _ _ _
 refine W.bind (W.post h fun v m H h=>W.bind (W.standAt (W.bind (W.holding (W.post (h v rfl) fun t m H h=>?_)))))
 rcases t with _ | _
 · exact W.pure h
 ·
   refine W.bind (W.post h fun v m H h=>W.bind (W.standAt (W.bind (W.holding (W.post (h v rfl) fun t m H h=>?_)))))
   cases t with
   | false=>exact W.pure h
   | true=>exact h
theorem a_tuple2 {a b:Expr}{k:Nat}{p:Pos}{t:Addr}{x y:Value}(hh:S.A.handled=none) (ht:H.o t=some (.tup [x,y])) (h:AsgC G S a x (fun _=>AsgC G S b y KU X) X m H)
   (e1:(assignEach [a,b] S.env).map (·.2)=[assign a S.env,assign b S.env]:=by with_unfolding_all rfl) (e2:(assignEach [a,b] S.env).length=2:=by with_unfolding_all rfl) (e3:(assignEach [a,b] S.env).findIdx? (·.1)=none:=by with_unfolding_all rfl) :
   AsgC G S (.Tuple [a,b] k p) (.ref t) KU X m H:=by
 intro rv ev s mm M R
 obtain rfl:=er_ref' ev
 obtain ⟨rvs,hl,e⟩:=relTup R ht
 obtain ⟨v1,v2,e4,e5,e6⟩:=map_two e
 have hrv:rvs=#[v1,v2]:=by apply Array.toList_inj.mp;simpa using e4
 subst hrv
 refine wpAny_assign_Tuple hh hl e2 e3 fun h' hk=>?_
 rw [e1]
 have R':RelC G S.stk ((S.L,mm)::S.sv) S.pr H { s with heap:=h' }:=R_keeps (tk:=s.toks) R fun b o e=>hk b o (Nat.ne_of_lt (Heap.lt_size e)) e
 refine assignInOrder_cons (wpAny_mono (h v1 e5 _ mm M R') (fun _ s₁ qq=>?_) fun _ _ z=>z)
 obtain ⟨m₁,H₁,mm₁,M₁,R₁,k⟩:=qq
 refine assignInOrder_cons (wpAny_mono (k v2 e6 s₁ mm₁ M₁ R₁) (fun _ s₂ q=>?_) fun _ _ z=>z)
 exact assignInOrder_nil q
end
end Mine
end
section
open PySem PySem.W PyProof.Rows PySem.Calls
set_option maxHeartbeats 2000000
namespace PySem
open PyProof.Rows
theorem make_exc {prog:Program}{w:World}{A:Around}{E:Value→Shared→Prop}{s:Shared}{Y N I:String}(hc:ExcClass Y N I) {rest:List Value}{Q:Value→Shared→Prop}(hrest:rest.length≤sizeLine)
   (h:∀ h' ob t,(∀ b o,s.heap.get? b=some o→h'.get? b=some o)→h'.get? (s.heap.objs.size+1)=some ob→ob.cls=.type Y→ob.data=.fields #[t,.none,.none,.none,.bool false,.none]→Q (.ref (s.heap.objs.size+1)) { s with heap:=h' }) :
   wpAny (model prog w) A (call (.type Y) rest) Q E s:=by
 refine wpAny_call (codeAny_of_tree ?_)
 show wpAny _ _ (callAny (.type Y) ⟨rest,[]⟩) _ _ s
 simp -iota only [callAny]
 refine wpAny_pure ⟨Code.quiet_builtin _ (by decide +kernel),codeAny_builtin entry_type_call ?_⟩
 rw [Around.under_plain (PyProof.Rows.weight_type_call Y _ _) (by first | rfl | kernel_rfl | decide +kernel)]
 obtain ⟨l,hl,hle⟩:=hc.mro
 have e1:(s.heap.push { cls:=.type "tuple",data:=.seq rest.toArray }).objs.size=s.heap.objs.size+1:=Heap.size_push ..
 unfold Builtin.«type.__call__»
 dsimp only
 rw [if_neg (by rw [hc.notType];exact Bool.false_ne_true),if_neg (by rw [hc.canNew];exact Bool.false_ne_true)]
 refine wpAny_bind (wpAny_of_eq (hc.typeCall rest) (wpAny_bind (wpAny_of_eq hl ?_)))
 rw [if_neg (by rw [hle];exact Bool.false_ne_true)]
 refine wpAny_bind (wpAny_of_eq hc.madeBy ?_)
 dsimp only
 refine wpAny_bind (wpAny_pure (wpAny_bind (wpAny_holding (new_exc hc ?_ hrest))))
 have hT:∀ (hp:Heap),(⟨hp.push { cls:=.type Y,data:=.fields #[.ref s.heap.objs.size,.none,.none,.none,.bool false,.none] },s.gens,s.drawn,s.toks,s.os⟩:Shared).TypeIs (.ref hp.objs.size) Y:=fun hp=>⟨_,Heap.get?_push_size _ rfl,rfl⟩
 refine wpAny_bind (wpAny_isInstance (T:=Y) (hT _) hc.self ?_)
 simp -iota only [Bool.not_true,Bool.false_eq_true,if_false]
 refine wpAny_bind (wpAny_holding (wpAny_callSpecial?_slot (name:=Str.ofString "__init__") (T:=Y) (hT _) hc.init (init_exc hc (Heap.get?_push_size _ rfl) rfl rfl rfl ?_ hrest)))
 dsimp only
 rw [if_neg (by simp -iota)]
 have fin:=h ((((s.heap.push { cls:=.type "tuple",data:=.seq rest.toArray }).push { cls:=.type Y,data:=.fields #[.ref s.heap.objs.size,.none,.none,.none,.bool false,.none] }).push { cls:=.type "tuple",data:=.seq rest.toArray }).update (s.heap.push { cls:=.type "tuple",data:=.seq rest.toArray }).objs.size (Obj.mapFields (·.setIfInBounds 0 (.ref ((s.heap.push { cls:=.type "tuple",data:=.seq rest.toArray }).push { cls:=.type Y,data:=.fields #[.ref s.heap.objs.size,.none,.none,.none,.bool false,.none] }).objs.size))))
   _ _ (fun b o hb=>?_) (by
     rw [← e1]
     exact Heap.get?_update_self _ (Heap.get?_push_of_some _ (Heap.get?_push_size _ rfl)) (Obj.isFreed_of_fields (Obj.data_mapFields rfl _))) (Obj.cls_mapFields _ _) (by rw [Obj.data_mapFields rfl];rfl)
 · rw [← e1] at fin
   exact wpAny_pure fin
 · rw [Heap.get?_update_other _ _ (Nat.ne_of_gt (Nat.lt_of_lt_of_le (Heap.lt_size hb) (by simp -iota)))]
   exact Heap.get?_push_of_some _ (Heap.get?_push_of_some _ (Heap.get?_push_of_some _ hb))
end PySem
namespace Mine
noncomputable def ismAt (K:Frag) (C:Addr) (n:Str) (f:Value):Bool:=plainGet K C n&&hasDictIn K C&&handedIn f && !copiedNames.contains n&&(findIn K (.ref C) n).any fun v=>v.any fun v=>(addrOf v).any fun p=>typeIn K (.ref p)==some (.type "staticmethod")&&specialIn K (.ref p) "__get__"==some (some (.builtin "staticmethod.__get__"))&&takesIn K (.ref p)==some false&&(recIn K p "staticmethod").any fun l=>l.head?==some f
section
variable {G:Glb}{S:Sit}{X:KV}{m:Names}{H:HP}{K:KV}
theorem m_ism {x C d:Addr}{n:Str}{f:Value}{es:List (Str × Value)}{KM:Value→List Value→Names→HP→Prop}(hx:H.o x=some (.inst C d)) (hd:H.o d=some (.ns es)) (hn:(es.map (·.1)).contains n=false) (hc:ismAt G.K C n f=true) (h:KM f [] m H):MetC G S (.ref x) n KM X m H:=by
 intro ro pl e s mm M R
 rw [er_ref' e]
 obtain ⟨nd,des,k,I,h0,h1⟩:=relInst R hx hd
 unfold ismAt at hc
 simp -iota only [Bool.and_eq_true,Bool.not_eq_true'] at hc
 refine xe02 hc fun zq0 c5=>?_
 obtain ⟨⟨⟨c1,c2⟩,c3⟩,c4⟩:=zq0
 · refine xe12 (any_inv c5) fun _ ha c5=>?_
   refine xe12 (any_inv c5) fun v zq1 c5=>?_
   obtain rfl:=zq1
   refine xe12 (addr_any c5) fun p zq1 c9=>?_
   obtain rfl:=zq1
   simp -iota only [Bool.and_eq_true,beq_iff_eq] at c9
   refine xe02 c9 fun zq0 c8=>?_
   obtain ⟨⟨c5,c6⟩,c7⟩:=zq0
   · refine xe12 (any_inv c8) fun _ hp c10=>?_
     refine xe11 (head_inv c10) fun l zq1=>?_
     obtain rfl:=zq1
     refine xe12 (lookIn_ns (n:=k) h1 n) fun lr hl l'=>?_
     rw [lookup_out hn] at l'
     obtain rfl:lr=none:=by cases lr with | none=>rfl | some z=>cases l'
     refine method_usual (r:=some (.ref p)) (G.X.keeps R.base) I (plainGet_of c1).1 (plainGet_of c1).2 ha (by simp -iota only [Option.all_some,c5,Option.any_some];decide +kernel)
       (get_bind (G.X.keeps R.base) I (plainGet_of c1).1 (findObj_fn c2 ha c6 c7 c4 hl) (plainGet_of c1).2
         (wpAny_call (sm_get (s:={ s with toks:=s.toks+1 }) (G.X.keeps R.base) hp (handed_on c3 ⟨m,H,mm,M,R.toks _,h⟩))))
theorem f_exc {X' N I:String}(hc:ExcClass X' N I) {v:Value}(k:∀ a oe vs,H.o a=none→oe.cls=.type X'→oe.data=.fields vs→vs[1]? = some .none→K (.ref a) m (H.put a (.obj oe))):CalC G S (.type X') [v] [] K X m H:=cal1 isT fun r e s mm M R=>by
 refine make_exc hc (by rw [sizeLine_eq];simp -iota) fun h' ob t hk ho hcls hd=>?_
 have hb:=R.big (.head _)
 have fe:=R.freeAt (Nat.le_succ s.heap.objs.size)
 refine ⟨m,_,mm,M,R.grow (tk:=s.toks) (dr:=s.drawn) (H':=H.put (s.heap.objs.size+1) (.obj ob)) hk (fun a co e=>?_) rfl,k _ ob _ fe.2.2.2 hcls hd rfl⟩
 by_cases q:a=s.heap.objs.size+1
 · subst q
   rw [HP.put_same] at e;obtain rfl:=Option.some.inj e
   exact .inr ⟨.of (Nat.le_succ_of_le hb),fe.2.1,fe.2.2.1,_,ho,rfl,Obj.isFreed_of_fields hd⟩
 · rw [HP.put_ne q rfl] at e;exact .inl e
end
end Mine
end
section
open PySem PySem.W PyProof.Rows PySem.Calls
set_option maxHeartbeats 2000000
namespace PySem
noncomputable def endsB (b c:Array UInt8):Bool:=if ((b.size:Int) - 0<c.size) then false else b.extract (b.size - c.size) b.size==c
theorem call_bendswith {prog:Program}{w:World}{A:Around}{E:Value→Shared→Prop}{s:Shared}{b c:Array UInt8}{t u:Tok}{Q:Value→Shared→Prop}(h:Q (.bool (endsB b c)) s) :
   wpAny (model prog w) A (call (.builtin "bytes.endswith") [.bytes b t,.bytes c u]) Q E s:=by
 refine call_meets FB.slot_bytes_endswith (PySem.W.typeIs_bytes _ _ _) FB.entry_bytes_endswith (FB.args_bytes_endswith_2 _ _) (S:=fun A R s=>R (.ok (.ret (.bool (endsB b c)))) s) (.of_wp fun prog w A R s hq=>?_) h
 unfold Builtin.«bytes.endswith» Builtin.Bytes.tailMatchM
 refine wpAny_bind (wpAny_of_eq (a:=(.bytes b t,[.bytes c u])) rfl ?_)
 dsimp only
 refine wpAny_bind (wpAny_of_eq (a:=none) rfl ?_)
 refine wpAny_bind (wpAny_of_eq (a:=none) rfl ?_)
 refine wpAny_bind (wpAny_of_eq (a:=b) rfl ?_)
 refine wpAny_bind (wpAny_isInstance (T:="bytes") rfl (by rw [isSubtype_type];kernel_rfl:isSubtype (.type "bytes") (.type "tuple")=pure false) ?_)
 refine bm_if_false rfl ?_
 refine wpAny_bind (b_buffer? ?_)
 have hw:Builtin.Bytes.window b.size none none=(0,(b.size:Int)):=by
   have h0:¬ ((b.size:Int)<0):=by simp
   simp only [Builtin.Bytes.window,Option.getD_none,if_neg h0]
   rw [if_neg (by decide),Int.min_self]
 rw [hw]
 exact wpAny_pure ⟨_,rfl,hq⟩
end PySem
namespace Mine
section
variable {G:Glb}{S:Sit}{X:KV}{m:Names}{H:HP}{K:KV}{KB:Bool→Names→HP→Prop}
theorem f_bendswith {b c:Array UInt8}(k:K (.bool (endsB b c)) m H):CalC G S (.builtin "bytes.endswith") [.bytes b 0,.bytes c 0] [] K X m H:=cal2 isB fun r q e1 e2 s mm M R=>by
 obtain ⟨t,rfl⟩:=er_bytes' e1
 refine xe11 (er_bytes' e2) fun u zq1=>?_
 obtain rfl:=zq1
 exact call_bendswith (eff0 M R k)
theorem c_ne_bool {a b:Bool}(k:K (.bool (a != b)) m H):CmpC G S .NotEq (.bool a) (.bool b) K X m H:=fun r₁ r₂ e1 e2 s mm M R=>by
 obtain rfl:=er_bool' e1
 obtain rfl:=er_bool' e2
 exact ne_bool (eff0 M R k)
theorem c_ne_il {a b:Addr}{ns:List Int}(ha:H.o a=some (.list (intL ns))) (hb:H.o b=some (.list (intL ns))) (hu:S.A.units<9000) (k:K (.bool false) m H):CmpC G S .NotEq (.ref a) (.ref b) K X m H:=fun r₁ r₂ e1 e2 s mm M R=>by
 obtain rfl:=er_ref' e1
 obtain rfl:=er_ref' e2
 refine xe12 (relList R ha) fun va la ea=>?_
 refine xe12 (relList R hb) fun vb lb eb=>?_
 have sa:va.size=ns.length:=by have:=congrArg List.length ea;simpa [intL] using this
 have sb:vb.size=ns.length:=by have:=congrArg List.length eb;simpa [intL] using this
 have key:=SeqAt.RcNeAt.lists (A:=S.A) (s:=s) (e:=fun _=>true) la lb (by rw [sa,sb]) (by unfold cLine;lia) (fun j h1 h2=>?_) G.prog G.w (PostX G S X) (Post G S fun v=>K (er v)) (by
   have:(List.range va.size).all (fun _=>true)=true:=by simp
   rw [this];exact ⟨m,H,mm,M,R,k⟩)
 · exact key
 · have h3:er va[j]=.int (ns.getD j 0) 0:=by
     have:=congrArg (fun l=>l.getD j .none) ea
     simp [intL,List.getD,h1,show j<ns.length by lia] at this
     simpa [List.getD,show j<ns.length by lia] using this
   have h4:er vb[j]=.int (ns.getD j 0) 0:=by
     have:=congrArg (fun l=>l.getD j .none) eb
     simp [intL,List.getD,h2,show j<ns.length by lia] at this
     simpa [List.getD,show j<ns.length by lia] using this
   refine xe11 (er_int' h3) fun t e5=>?_
   refine xe11 (er_int' h4) fun u e6=>?_
   rw [e5,e6]
   have:=SeqAt.EqAt.int_int (A:=S.A.in1) (s:=s) (ns.getD j 0) t (ns.getD j 0) u
   rw [beq_self_eq_true] at this
   exact this
noncomputable def BList (G:Glb) (l:Addr) (ns:List Int):Prop:=∃ rvs,G.base.IsList l rvs∧rvs.toList.map er=intL ns
theorem relB {stk:List Env}{sv:Sv}{pr:Pr}{s:Shared}(R:RelC G stk sv pr H s) {l:Addr}{ns:List Int}(h:BList G l ns):∃ rvs,s.heap.IsList l rvs∧rvs.toList.map er=intL ns:=by
 refine xe12 h fun rvs zq1 e=>?_
 refine xe12 zq1 fun o h q=>?_
 exact ⟨rvs,⟨o,R.base _ _ h,q⟩,e⟩
theorem intL_len {ns:List Int}:(intL ns).length=ns.length:=by simp [intL]
theorem t_listB {l:Addr}{ns:List Int}(hl:BList G l ns) (hz:ns.length≤sizeLine) (k:KB (!ns.isEmpty) m H):TruC G S (.ref l) KB X m H:=fun r e s mm M R=>by
 obtain rfl:=er_ref' e
 refine xe12 (relB R hl) fun v1 hl' d1=>?_
 have z1:v1.size=ns.length:=by have:=congrArg List.length d1;simpa [intL] using this
 rw [sizeLine_eq] at hz
 refine wpAny_truthy_list hl' (by lia) ?_
 have:v1.isEmpty=ns.isEmpty:=by
   rw [Bool.eq_iff_iff,Array.isEmpty_iff_size_eq_zero,List.isEmpty_iff_length_eq_zero,z1]
 rw [this]
 exact ⟨m,H,mm,M,R.toks _,k⟩
theorem f_len_B {l:Addr}{ns:List Int}(hl:BList G l ns) (hz:ns.length≤sizeLine) (k:K (.int ns.length 0) m H):CalC G S (.builtin "len") [.ref l] [] K X m H:=cal1 isB fun r e s mm M R=>by
 obtain rfl:=er_ref' e
 refine xe12 (relB R hl) fun rvs hl' e=>?_
 have hn:rvs.size=ns.length:=by have:=congrArg List.length e;simpa [intL] using this
 rw [sizeLine_eq] at hz
 exact call_len_list hl' (by lia) (eff_ M R (by rw [hn];exact k))
theorem it_listB {l:Addr}{ns:List Int}{i:Int}(hl:BList G l ns) (h0:0≤i) (h1:i<ns.length) (hz:ns.length≤sizeLine) (k:K (.int (ns.getD i.toNat 0) 0) m H):IteC G S (.ref l) (.int i 0) K X m H:=fun ro ri e1 e2 s mm M R=>by
 obtain rfl:=er_ref' e1
 refine xe11 (er_int' e2) fun t zq1=>?_
 obtain rfl:=zq1
 refine xe12 (relB R hl) fun rvs hl' e=>?_
 refine xe12 (items_at e (i:=i.toNat) (by rw [intL_len];exact (Int.toNat_lt h0).mpr h1)) fun x hx ex=>?_
 rw [sizeLine_eq] at hz
 have e3:(intL ns).getD i.toNat .none=.int (ns.getD i.toNat 0) 0:=by
   have:i.toNat<ns.length:=(Int.toNat_lt h0).mpr h1
   simp [intL,List.getD,this]
 exact ⟨"list",_,list_getitem_lookup,hl'.typeIs,wpAny_getItem_list hl' h0 (by lia) hx (eff0 M R (by rw [ex,e3];exact k))⟩
theorem sl_listB {l:Addr}{ns:List Int}{lo hi:Option Int}(hl:BList G l ns) (hsz:ns.length≤sizeLine) (k:∀ a,H.o a=none→K (.ref a) m (H.put a (.list (intL (cut ns lo hi))))):SliC G S (.ref l) (optV lo) (optV hi) K X m H:=fun ro rl ru a e1 e2 e3 s mm M R hs=>by
 obtain rfl:=er_ref' e1
 refine xe12 (relB R hl) fun rvs hl' e=>?_
 have hz:rvs.size≤sizeLine:=by
   have:rvs.size=ns.length:=by have:=congrArg List.length e;simpa [intL] using this
   rw [this];exact hsz
 refine ⟨"list",_,list_getitem_lookup,hl'.typeIs,wpAny_getItem_list_slice hl' ⟨_,hs,rfl,rfl⟩ (part_of e2) (part_of e3) .none (by simp) ?_ hz⟩
 refine ⟨m,_,mm,M,R.push (.head _) (co:=.list (intL (cut ns lo hi))) ⟨_,0,rfl,?_⟩,k _ R.fresh⟩
 have:intL (cut ns lo hi)=cut (intL ns) lo hi:=by unfold intL;rw [cut_map]
 rw [this,← e,cut_map,show rvs=rvs.toList.toArray by simp,pick_list]
end
end Mine
end
section
open PySem PySem.W PyProof.Rows PySem.Calls
set_option maxHeartbeats 2000000
namespace Mine
section
variable {G:Glb}{S:Sit}{X:KV}{m:Names}{H:HP}{K:KV}{KB:Bool→Names→HP→Prop}
theorem t_val {e:Expr}(h:WE G S e (fun v=>TruC G S v KB X) X m H) (he:isTrue e S.env (eval e S.env)=(do let v ← eval e S.env;standAt e.pos;holding [v] (truthy v)):=by with_unfolding_all rfl):WT G S e KB X m H:=by
 unfold WT
 rw [he]
 exact W.bind (W.post h fun v m H h=>W.bind (W.standAt (W.holding (h v rfl))))
end
end Mine
end
section
open PySem PySem.W PyProof.Rows PySem.Calls
set_option maxHeartbeats 2000000
namespace Mine
theorem cells_skip {x:Str}{k:NameKind}{r:List (Str × NameKind)}{acc:List (Str × Addr)}{H:HP}{P:List (Str × Addr)→HP→Prop}(hk:k≠.cell) (h:CellsC r acc H P):CellsC ((x,k)::r) acc H P:=by
 exact (if_neg hk).mpr h
theorem cells_cell {x:Str}{r:List (Str × NameKind)}{acc:List (Str × Addr)}{H:HP}{P:List (Str × Addr)→HP→Prop}(h:∀ c,H.o c=none→CellsC r ((x,c)::acc) (H.put c (.cell none)) P):CellsC ((x,.cell)::r) acc H P:=by
 exact (if_pos rfl).mpr h
theorem cells_nil {acc:List (Str × Addr)}{H:HP}{P:List (Str × Addr)→HP→Prop}(h:P acc H):CellsC [] acc H P:=h
theorem enterC {G:Glb}{A:Around}{stk:List Env}{sv:Sv}{pr:Pr}{f:Addr}{vs:List Value}{kw:List (Str × Value)}{K X:KH}{H:HP}{n:Nat}
   (r:Rm A stk (n+1)) (ls:List Str) (gs:List (Str × Value)) (binds:List (Str × Value)) {fd:FuncData}{oc:Value}{od:Option Addr}{osl:Array (Option Value)}(ho:G.K.lookup f=some ⟨oc,od,.func fd,osl⟩) {body:List Stmt}(hbody:fd.body=.stmts body)
   (hbind:∀ s rvs rkw,G.K.In s.heap→rvs.map er=vs→rkw.map (fun p=>(p.1,er p.2))=kw→∃ rb,BindsTo s fd ⟨rvs,rkw⟩ rb∧rb.map (fun p=>(p.1,er p.2))=binds)
   (hcd:codeIn G.K fd.code fd.qualname=true) (hgs:∀ x∈gs,x∈G.gtab)
   (h:CellsC fd.scope.names [] H fun cs H'=>chkM fd.scope.names ls (cs.map (·.1)) (gs.map (·.1))=true∧∃ m₁ H₁,BindM binds (mkM ls cs gs) H' m₁ H₁∧∀ S:Sit,S.Ok G→Rm S.A S.stk n→WS G S body (fun fl _ H=>K (retV fl) H) (fun c _ H=>X c H) m₁ H₁)
   (hco:fd.scope.isCoroutine=false:=by rfl) (hgen:fd.scope.isGenerator=false:=by rfl) (hcl:fd.closure=[]:=by rfl) (hkind:fd.scope.kind=.function:=by rfl) (hgl:fd.globals=mainGlobals:=by rfl) (hbl:fd.builtins=builtinsNs:=by rfl):Calls G A stk sv pr (.ref f) vs kw K X H:=by
 refine enter r.c ho hbody hbind hco hgen hcl hkind hgl hbl hcd (fun s R=>big_of r.top R) fun L=>CellsC.mono (fun cs H' hc env he=>?_) h
 obtain ⟨hchk,m₁,H₁,hB,h⟩:=hc
 refine ⟨mkM ls cs gs,m₁,H₁,?_,hB,fun S hS O C=>h S O ⟨C,?_,?_⟩⟩
 · subst he;exact mkM_ok rfl hchk hgs
 · subst hS;exact r.hh
 · subst hS;subst he;exact ⟨_,_,_,rfl,rfl⟩
theorem enterPC {G:Glb}{A:Around}{stk:List Env}{sv:Sv}{pr:Pr}{f:Addr}{vs:List Value}{kw:List (Str × Value)}{K X:KH}{H:HP}{n:Nat}
   (C:COk A stk (n+1)) (hh:A.handled=none) (ls:List Str) (gs:List (Str × Value)) (binds:List (Str × Value)) {fd:FuncData}{oc:Value}{od:Option Addr}{osl:Array (Option Value)}(ho:G.K.lookup f=some ⟨oc,od,.func fd,osl⟩) {body:List Stmt}(hbody:fd.body=.stmts body)
   (hbind:∀ s rvs rkw,G.K.In s.heap→rvs.map er=vs→rkw.map (fun p=>(p.1,er p.2))=kw→∃ rb,BindsTo s fd ⟨rvs,rkw⟩ rb∧rb.map (fun p=>(p.1,er p.2))=binds)
   (hcd:codeIn G.K fd.code fd.qualname=true) (big:∀ s,RelC G stk sv pr H s→G.base.objs.size≤s.heap.objs.size) (hgs:∀ x∈gs,x∈G.gtab)
   (h:CellsC fd.scope.names [] H fun cs H'=>chkM fd.scope.names ls (cs.map (·.1)) (gs.map (·.1))=true∧∃ m₁ H₁,BindM binds (mkM ls cs gs) H' m₁ H₁∧∀ S:Sit,S.Ok G→Rm S.A S.stk n→WNS G S body (fun fl _ H=>K (retV fl) H) (fun c _ H=>X c H) m₁ H₁)
   (hco:fd.scope.isCoroutine=false:=by rfl) (hgen:fd.scope.isGenerator=false:=by rfl) (hcl:fd.closure=[]:=by rfl) (hkind:fd.scope.kind=.function:=by rfl) (hgl:fd.globals=mainGlobals:=by rfl) (hbl:fd.builtins=builtinsNs:=by rfl):CallsN G A stk sv pr (.ref f) vs kw K X H:=by
 intro rf s rvs rkw ef R e1 e2
 obtain rfl:=er_ref' ef
 have KIn:=G.X.keeps R.base
 obtain ⟨rb,hb,hbe⟩:=hbind s rvs rkw KIn e1 e2
 refine codeN_call_function (Nat.lt_of_le_of_lt (Nat.le_trans (Nat.le_add_right _ _) C.depth) (by decide)) (KIn _ _ ho) rfl hco hgen hbody (codeRec_of KIn hcd) (hb _ _ _ _ (frameIn hbe R (big s R) hkind hgl hbl ?_))
 rw [hcl]
 refine CellsC.mono (fun cs H' h₂=>?_) h
 obtain ⟨hchk,m₁,H₁,hB,h⟩:=h₂
 refine ⟨mkM ls cs gs,m₁,H₁,mkM_ok rfl hchk hgs,hB,fun mm s₂ M' R' R₃=>⟨G.T.nolimit.keeps R'.base,codeN_func ?_⟩⟩
 have h₄:=h ⟨A.deeper (frEnv fd f s.heap.objs.size cs),frEnv fd f s.heap.objs.size cs::stk,sv,pr,s.heap.objs.size,frEnv fd f s.heap.objs.size cs⟩ ⟨hkind,rfl,rfl,rfl,Around.frames_deeper C.frames,hco,_,_,_,rfl,rfl,rfl⟩ ⟨C.deeper (frEnv fd f s.heap.objs.size cs),hh,⟨_,_,_,rfl,rfl⟩⟩
 refine wpN_mono (h₄ s₂ mm M' R₃) ?_ ?_
 · rintro fl s₃ yq2
   obtain ⟨m₂,H₂,mm₂,M₂,R₄,k⟩:=yq2
   refine ⟨H₂,R₄.sleep R.fsv,?_⟩
   cases fl<;>exact k
 · rintro e s₃ yq2
   obtain ⟨m₂,H₂,mm₂,cls,M₂,R₄,x,k⟩:=yq2
   refine leavingW R₄ (Around.frames_deeper C.frames) rfl rfl rfl (by simp) x fun s₄ a ea R₅ x₅=>?_
   subst ea
   exact ⟨H₂,cls,R₅.sleep R.fsv,x₅.exc (.inl rfl),k⟩
end Mine
end
section
open PySem PySem.W PyProof.Rows PySem.Calls
set_option genInjectivity false
set_option genSizeOf false
namespace Mine
inductive Stk (p:Prop):Prop where
 | mk (h:p)
theorem Stk.o {p:Prop}(s:Stk p):p:=s.casesOn id
noncomputable def lk (x:Str):Names→Option Nm
 | []=>none
 | p::r=>if x=p.1 then some p.2 else lk x r
noncomputable def setM (x:Str) (v:Value):Names→Names
 | []=>[]
 | p::r=>if x=p.1 then (p.1,.loc (some v))::r else p::setM x v r
theorem lk_mem {x:Str}{n:Nm}{m:Names}(h:lk x m=some n):(x,n)∈m:=by
 induction m with
 | nil=>exact no_ns h
 | cons p r ih=>
   replace h:(if x=p.1 then some p.2 else lk x r)=some n:=h
   by_cases e:x=p.1
   · rw [if_pos e] at h;rw [e,← Option.some.inj h];exact .head _
   · rw [if_neg e] at h;exact .tail _ (ih h)
theorem setM_set {x:Str}{v:Value}{o:Option Value}{m:Names}(h:lk x m=some (.loc o)):MSet x v m (setM x v m):=by
 induction m with
 | nil=>exact no_ns h
 | cons p r ih=>
   obtain ⟨y,n⟩:=p
   replace h:(if x=y then some n else lk x r)=some (.loc o):=h
   refine (?_:MSet x v ((y,n)::r) (if x=y then (y,.loc (some v))::r else (y,n)::setM x v r))
   by_cases e:x=y
   · rw [if_pos e] at h ⊢;rw [Option.some.inj h,e];exact .here
   · rw [if_neg e] at h ⊢;exact .next (ih h)
noncomputable abbrev KB:=Bool→Names→HP→Prop
noncomputable abbrev KN:=Names→HP→Prop
noncomputable abbrev VE:=Expr→KV→Names→HP→Prop
noncomputable abbrev VT:=Expr→KB→Names→HP→Prop
noncomputable abbrev VS:=List Stmt→KF→Names→HP→Prop
noncomputable abbrev KLs:=List Value→Names→HP→Prop
noncomputable def noStar (es:List Expr):Bool:=es.all fun e=>!Nat.beq e.ctorIdx 22
noncomputable def kwOk (ks:List Keyword):Bool:=ks.all fun k=>k.arg.isSome
noncomputable def WE0 (G:Glb) (S:Sit) (e:Expr) (K:KV) (X:KV) (m:Names) (H:HP):Prop:=WE G S e K X m H
noncomputable def WT0 (G:Glb) (S:Sit) (e:Expr) (K:KB) (X:KV) (m:Names) (H:HP):Prop:=WT G S e K X m H
noncomputable def AsgC0 (G:Glb) (S:Sit) (e:Expr) (v:Value) (K:Unit→KN) (X:KV) (m:Names) (H:HP):Prop:=AsgC G S e v K X m H
inductive IV:Value→Type
 | int (i:Int):IV (.int i 0)
 | str (s:Str):IV (.str s 0)
 | bytes (b:Array UInt8):IV (.bytes b 0)
 | bool (b:Bool):IV (.bool b)
 | none:IV .none
 | other (v:Value):IV v
noncomputable def iv:(v:Value)→IV v
 | .int i 0=>.int i
 | .str s 0=>.str s
 | .bytes b 0=>.bytes b
 | .bool b=>.bool b
 | .none=>.none
 | v=>.other v
noncomputable def uneg:{v:Value}→IV v→{f:(Value→Prop)→Prop // ∀ K,f K→∃ i,v=.int i 0∧K (.int (-i) 0)}
 | _,.int i=>⟨fun K=>K (.int (-i) 0),fun _ h=>⟨i,rfl,h⟩⟩
 | _,_=>⟨fun _=>False,fun _ h=>h.elim⟩
abbrev Yes (p:Prop):=Option (PLift p)
noncomputable abbrev yes {p:Prop}(h:p):Yes p:=some ⟨h⟩
noncomputable abbrev Info (e:Expr):=Yes (∀ n env (w:Sem Value),attributeBase e n env w=w) × Yes (∀ o l env,swapsWith e o l env=pure false) × Yes (∀ es k p env,swappedStores [.Tuple es k p] e env=pure none)
noncomputable def info:(e:Expr)→Info e
 | .Name .. | .Constant .. | .Attribute .. | .Subscript .. | .BinOp ..=>(yes fun _ _ _=>rfl,yes fun _ _ _=>rfl,yes fun _ _ _ _=>rfl)
 | .Call ..=>(none,yes fun _ _ _=>rfl,yes fun _ _ _ _=>rfl)
 | .Compare .. | .BoolOp .. | .UnaryOp .. | .List .. | .Tuple .. | .IfExp .. | .Dict .. | .Lambda ..=>(none,yes fun _ _ _=>rfl,none)
 | _=>(none,none,none)
structure TgtOk (t e:Expr):Prop where
 sw:∀ env,swappedStores [t] e env=pure none
 one:∀ env,(assignEach [t] env).map (·.2)=[assign t env]
noncomputable abbrev EOk (G:Glb) (S:Sit) (X:KV) (E:VE):Prop:=∀ e K m H,E e K m H→WE G S e K X m H
noncomputable abbrev TOk (G:Glb) (S:Sit) (X:KV) (T:VT):Prop:=∀ e K m H,T e K m H→WT G S e K X m H
noncomputable abbrev SOk (G:Glb) (S:Sit) (X:KV) (B:VS):Prop:=∀ l K m H,B l K m H→WS G S l K X m H
theorem if_map {b:Bool}{A B A' B':Prop}(h:if b=true then A else B) (f:A→A') (g:B→B'):if b=true then A' else B':=by
 rcases b with _ | _
 · exact g h
 · exact f h
section
variable (G:Glb) (S:Sit) (X:KV)
noncomputable def vNm (x:Str) (p:Pos) (K:KV) (m:Names) (H:HP):Prop:=match lk x m with
 | some (.loc (some v))=>K v m H
 | some (.glo v)=>K v m H
 | _=>Stk (WE0 G S (.Name x p) K X m H)
noncomputable def vSto (x:Str) (v:Value) (KU:KN) (m:Names) (H:HP):Prop:=match lk x m with
 | some (.loc _)=>KU (setM x v m) H
 | _=>Stk (StoC G S x v (fun _=>KU) X m H)
noncomputable abbrev RV {κ:Type}(P:κ→Names→HP→Prop):={f:κ→Names→HP→Prop // ∀ {K m H},f K m H→P K m H}
noncomputable abbrev RV.other {κ:Type}(P:κ→Names→HP→Prop):RV P:=⟨fun K m H=>Stk (P K m H),Stk.o⟩
noncomputable def rBin (op:Operator):{a b:Value}→IV a→IV b→RV fun K=>BinC G S op a b K X
 | _,_,.int i,.int j=>match op with
   | .Add=>⟨fun K=>K (.int (i+j) 0),b_add⟩
   | .Sub=>⟨fun K=>K (.int (i - j) 0),b_sub⟩
   | .BitAnd=>⟨fun K=>K (.int (Builtin.bitAnd i j) 0),b_and⟩
   | .BitOr=>⟨fun K=>K (.int (Builtin.bitOr i j) 0),b_or⟩
   | _=>.other _
 | _,_,_,_=>.other _
noncomputable def rInp (op:Operator):{a b:Value}→IV a→IV b→RV fun K=>InpC G S op a b K X
 | _,_,.int i,.int j=>match op with
   | .Add=>⟨fun K=>K (.int (i+j) 0),i_add⟩
   | .Sub=>⟨fun K=>K (.int (i - j) 0),i_sub⟩
   | .BitAnd=>⟨fun K=>K (.int (Builtin.bitAnd i j) 0),i_and⟩
   | _=>.other _
 | _,_,_,_=>.other _
noncomputable def rCmp (op:CmpOp):{b a:Value}→IV b→IV a→RV fun K=>CmpC G S op a b K X
 | _,a,.none,_=>match op with
   | .Is=>⟨fun K=>K (.bool (bI (a=.none))),c_is_none⟩
   | .IsNot=>⟨fun K=>K (.bool (bI (a≠.none))),c_isnot_none⟩
   | _=>.other _
 | _,_,.int j,.int i=>match op with
   | .Eq=>⟨fun K=>K (.bool (bI (i=j))),c_eq⟩
   | .NotEq=>⟨fun K=>K (.bool (bI (i≠j))),c_ne⟩
   | .Lt=>⟨fun K=>K (.bool (bI (i<j))),c_lt⟩
   | .LtE=>⟨fun K=>K (.bool (bI (i≤j))),c_le⟩
   | .Gt=>⟨fun K=>K (.bool (bI (i > j))),c_gt⟩
   | .GtE=>⟨fun K=>K (.bool (bI (i ≥ j))),c_ge⟩
   | _=>.other _
 | _,_,.str j,.str i=>match op with
   | .Eq=>⟨fun K=>K (.bool (bI (i=j))),c_eq_s⟩
   | .NotEq=>⟨fun K=>K (.bool (bI (i≠j))),c_ne_s⟩
   | .In=>⟨fun K=>K (.bool !(Builtin.Str.occurrences j i 0 j.length 1).isEmpty),c_in_s⟩
   | .NotIn=>⟨fun K=>K (.bool (!(!(Builtin.Str.occurrences j i 0 j.length 1).isEmpty))),c_notin_s⟩
   | _=>.other _
 | _,_,.bytes j,.bytes i=>match op with
   | .NotEq=>⟨fun K=>K (.bool (bI (i≠j))),c_ne_b⟩
   | _=>.other _
 | _,_,.bool j,.bool i=>match op with
   | .NotEq=>⟨fun K=>K (.bool (i != j)),c_ne_bool⟩
   | _=>.other _
 | _,_,_,_=>.other _
noncomputable def rTru:{v:Value}→IV v→RV fun K=>TruC G S v K X
 | _,.bool b=>⟨fun K=>K b,t_bool⟩
 | _,.int i=>⟨fun K=>K (bI (i≠0)),t_int⟩
 | _,_=>.other _
noncomputable def vBin (op:Operator) (a b:Value) (K:KV) (m:Names) (H:HP):Prop:=(rBin G S X op (iv a) (iv b)).1 K m H
noncomputable def vInp (op:Operator) (a b:Value) (K:KV) (m:Names) (H:HP):Prop:=(rInp G S X op (iv a) (iv b)).1 K m H
noncomputable def vCmp (op:CmpOp) (a b:Value) (K:KV) (m:Names) (H:HP):Prop:=(rCmp G S X op (iv b) (iv a)).1 K m H
noncomputable def vTru (v:Value) (K:KB) (m:Names) (H:HP):Prop:=(rTru G S X (iv v)).1 K m H
noncomputable def vL (E:VE):List Expr→KLs→Names→HP→Prop
 | [],K,m,H=>K [] m H
 | e::r,K,m,H=>E e (fun v=>vL E r (fun vs=>K (v::vs))) m H
noncomputable def vKw (E:VE):List Keyword→(List (Str × Value)→Names→HP→Prop)→Names→HP→Prop
 | [],K,m,H=>K [] m H
 | k::r,K,m,H=>match k.arg with
   | some n=>E k.value (fun v=>vKw E r (fun vs=>K ((n,v)::vs))) m H
   | none=>False
noncomputable def vO (E:VE) (e:Option Expr) (K:KV) (m:Names) (H:HP):Prop:=match e with
 | none=>K .none m H
 | some e=>E e K m H
noncomputable def vCall (E:VE) (as:List Expr) (ks:List Keyword) (f:Value) (first:List Value) (K:KV):Names→HP→Prop:=
 vL E as fun vs=>vKw E ks fun ws m H=>Stk (Keeps G S f H∧CalC G S f (first++vs) ws K X m H)
end
section
variable {G:Glb}{S:Sit}{X:KV}{m:Names}{H:HP}
theorem vNm_ok (O:S.Ok G) {x:Str}{p:Pos}{K:KV}:vNm G S X x p K m H→WE G S (.Name x p) K X m H:=by
 have go:∀ {n:Option Nm},lk x m=n→(match n with
     | some (.loc (some v))=>K v m H
     | some (.glo v)=>K v m H
     | _=>Stk (WE0 G S (.Name x p) K X m H))→WE G S (.Name x p) K X m H:=fun {n} q h=>by
   rcases n with _ | (_ | v) | _ | _
   · exact h.o
   · exact h.o
   · exact e_loc O (lk_mem q) h
   · exact h.o
   · exact e_glo O (lk_mem q) h
 exact go rfl
theorem vSto_mono' {x:Str}{v:Value}{KU KU':KN}(O:S.Ok G) (k:∀ m H,KU m H→KU' m H):vSto G S X x v KU m H→StoC G S x v (fun _=>KU') X m H:=by
 have go:∀ {n:Option Nm},lk x m=n→(match n with
     | some (.loc _)=>KU (setM x v m) H
     | _=>Stk (StoC G S x v (fun _=>KU) X m H))→StoC G S x v (fun _=>KU') X m H:=fun {n} q h=>by
   rcases n with _ | _ | _ | _
   · exact fun rv er=>W.post (h.o rv er) fun _ m H h=>k m H h
   · exact sto_loc O (setM_set q) (k _ _ h)
   · exact fun rv er=>W.post (h.o rv er) fun _ m H h=>k m H h
   · exact fun rv er=>W.post (h.o rv er) fun _ m H h=>k m H h
 exact go rfl
theorem vSto_ok (O:S.Ok G) {x:Str}{v:Value}{KU:KN}(h:vSto G S X x v KU m H):StoC G S x v (fun _=>KU) X m H:=vSto_mono' O (fun _ _ h=>h) h
theorem starOk {e:Expr}{r:List Expr}{env:Env}(h:noStar (e::r)=true):starEach (e::r) env=(false,eval e env)::starEach r env:=by
 have h:=(Bool.and_eq_true_iff.mp h).1
 rcases e with _ | _ | _ | _ | _ | _ | _ | _ | _ | _ | _ | _ | _ | _ | _ | _ | _ | _ | _ | _ | _ | _ | _ | _ | _ | _ | _<;>first | rfl | exact Bool.noConfusion (h:false=true)
theorem noStar_tail {e:Expr}{r:List Expr}(h:noStar (e::r)=true):noStar r=true:=(Bool.and_eq_true_iff.mp h).2
theorem vL_ok {E:VE}(hE:EOk G S X E) {p:Pos}:∀ {es:List Expr}{K:KLs}{m:Names}{H:HP},noStar es=true→vL E es K m H→WL G S es p K X m H
 | [],K,m,H,_,h=>wl_nil h
 | e::r,K,m,H,hs,h=>wl_cons (W.post (hE _ _ _ _ h) fun v m H h=>vL_ok hE (noStar_tail hs) h) (starOk hs)
theorem vKw_ok {E:VE}(hE:EOk G S X E) {p:Pos}:∀ {ks:List Keyword}{K:List (Str × Value)→Names→HP→Prop}{m:Names}{H:HP},vKw E ks K m H→WKw G S ks p (fun ws=>K ((ks.filterMap (·.arg)).zip ws)) X m H
 | [],K,m,H,h=>wk_nil h
 | ⟨none,e,q⟩::r,K,m,H,h=>False.elim h
 | ⟨some n,e,q⟩::r,K,m,H,h=>wk_cons (W.post (hE _ _ _ _ h) fun v m H h=>vKw_ok hE h)
theorem starFree {env:Env}:∀ {es:List Expr},noStar es=true→(starEach es env).all (fun x=>!x.1)=true
 | [],_=>rfl
 | e::r,h=>(starOk h).symm▸starFree (es:=r) (noStar_tail h)
theorem kwFree {env:Env}:∀ {ks:List Keyword},kwOk ks=true→(keywordEach ks env).all (·.1.isSome)=true
 | [],_=>rfl
 | ⟨a,e,q⟩::r,h=>Bool.and_eq_true_iff.mpr ⟨(Bool.and_eq_true_iff.mp h).1,kwFree (ks:=r) (Bool.and_eq_true_iff.mp h).2⟩
theorem kwLen {env:Env}:∀ {ks:List Keyword},(keywordEach ks env).isEmpty=ks.isEmpty
 | []=>rfl
 | ⟨_,_,_⟩::_=>rfl
theorem vO_ok {E:VE}(hE:EOk G S X E) {K:KV}:∀ {e:Option Expr},vO E e K m H→WOpt G S e K X m H
 | none,h=>h
 | some _,h=>hE _ _ _ _ h
theorem WOpt.post {K K':KV}(hK:∀ v m H,K v m H→K' v m H):∀ {e:Option Expr},WOpt G S e K X m H→WOpt G S e K' X m H
 | none,h=>hK _ _ _ h
 | some _,h=>W.post h fun _ _ _ x=>hK _ _ _ x
theorem vCall_ok {E:VE}(hE:EOk G S X E) {as:List Expr}{ks:List Keyword}{f:Value}{first:List Value}{K:KV}{p:Pos}(hs:noStar as=true) (h:vCall G S X E as ks f first K m H) :
   WL G S as p (fun vs=>WKw G S ks p (fun ws m H=>Keeps G S f H∧CalC G S f (first++vs) ((ks.filterMap (·.arg)).zip ws) K X m H) X) X m H:=
 W.post (vL_ok hE hs h) fun vs m H h=>W.post (vKw_ok (p:=p) hE h) fun ws m H h=>h.o
theorem meth_ok {o:Expr}{x:Str}{as:List Expr}{ks:List Keyword}{q p:Pos}{K:KV}
   (h:WE G S o (fun ov=>MetC G S ov x (fun f first=>WL G S as p (fun vs=>WKw G S ks p (fun ws m H=>Keeps G S f H∧CalC G S f (first++vs) ((ks.filterMap (·.arg)).zip ws) K X m H) X) X) X) X m H)
   (e:(noStar as&&kwOk ks&&((q.endLine==p.line)&&decide (as.length+ks.length+(if ks.isEmpty then 0 else 1)<30)))=true) (b:attributeBase o x S.env (eval o S.env)=eval o S.env):WE G S (.Call (.Attribute o x q) as ks p) K X m H:=by
 have e:=Bool.and_eq_true_iff.mp e
 have e1:=Bool.and_eq_true_iff.mp e.1
 have e2:=Bool.and_eq_true_iff.mp e.2
 refine e_meth h b ?_ e2.1 (starFree e1.1) (kwFree e1.2)
 unfold methodCallForm
 rw [starAll _ _ _ (starFree e1.1),kwAll _ _ _ (kwFree e1.2)]
 have:(backToKw p (keywordEach ks S.env)).isEmpty=ks.isEmpty:=by unfold backToKw;rw [List.isEmpty_map];exact kwLen
 rw [this];exact e2.2
end
theorem EOk.post {G:Glb}{S:Sit}{X:KV}{E:VE}(hE:EOk G S X E) {e:Expr}{K K':KV}{m:Names}{H:HP}(h:E e K m H) (k:∀ v m H,K v m H→K' v m H):WE G S e K' X m H:=W.post (hE _ _ _ _ h) fun _=>k _
theorem TOk.post {G:Glb}{S:Sit}{X:KV}{T:VT}(hT:TOk G S X T) {e:Expr}{K K':KB}{m:Names}{H:HP}(h:T e K m H) (k:∀ v m H,K v m H→K' v m H):WT G S e K' X m H:=W.post (hT _ _ _ _ h) k
section
variable (G:Glb) (S:Sit) (X:KV) (E:VE) (T:VT)
noncomputable abbrev RE (e:Expr):={f:KV→Names→HP→Prop // S.Ok G→EOk G S X E→∀ {K m H},f K m H→WE G S e K X m H}
noncomputable abbrev RT (e:Expr):={f:KB→Names→HP→Prop // EOk G S X E→TOk G S X T→∀ {K m H},f K m H→WT G S e K X m H}
noncomputable abbrev RA (t:Expr):={f:Value→KN→Names→HP→Prop // S.Ok G→EOk G S X E→∀ {v} {KU KU':KN}{m H},(∀ m H,KU m H→KU' m H)→f v KU m H→AsgC G S t v (fun _=>KU') X m H}
noncomputable abbrev RU (t:Expr):=∀ op e p,{f:KF→Names→HP→Prop // S.Ok G→EOk G S X E→∀ {K m H},f K m H→WX G S (.AugAssign t op e p) K X m H}
noncomputable abbrev Rul (e:Expr):=(RE G S X E e × RT G S X E T e) × RA G S X E e × RU G S X E e × ∀ e',Info e'→Yes (TgtOk e e')
noncomputable abbrev RE.other (e:Expr):RE G S X E e:=⟨fun K m H=>Stk (WE0 G S e K X m H),fun _ _ _ _ _ h=>h.o⟩
noncomputable abbrev RT.other (e:Expr):RT G S X E T e:=⟨fun K m H=>Stk (WT0 G S e K X m H),fun _ _ _ _ _ h=>h.o⟩
noncomputable def RT.val {e:Expr}(he:∀ env,isTrue e env (eval e env)=(do let v ← eval e env;standAt e.pos;holding [v] (truthy v))):RT G S X E T e:=
 ⟨fun K=>E e (fun v=>vTru G S X v K),fun hE _ _ _ _ h=>t_val (hE.post h fun _ _ _ h=>(rTru ..).2 h) (he _)⟩
noncomputable abbrev RA.other (t:Expr):RA G S X E t:=⟨fun v KU m H=>Stk (AsgC0 G S t v (fun _=>KU) X m H),fun _ _ _ _ _ _ _ k h rv e=>W.post (h.o rv e) fun _=>k⟩
noncomputable abbrev RU.other (t:Expr):RU G S X E t:=fun op e p=>⟨fun K m H=>Stk (WX G S (.AugAssign t op e p) K X m H),fun _ _ _ _ _ h=>h.o⟩
noncomputable def Rul.mk {e:Expr}(v:RE G S X E e) (t:RT G S X E T e):Rul G S X E T e:=((v,t),RA.other G S X E e,RU.other G S X E e,fun _ _=>none)
noncomputable def vAug (x:Str) (q:Pos) (op:Operator) (e:Expr) (p:Pos) (K:KF) (m:Names) (H:HP):Option Nm→Prop
 | some (.loc (some v))=>E e (fun b=>vInp G S X op v b (fun r=>vSto G S X x r (K .next))) m H
 | _=>Stk (WX G S (.AugAssign (.Name x q) op e p) K X m H)
theorem vAug_ok {x:Str}{q:Pos}{op:Operator}{e:Expr}{p:Pos}{K:KF}{m:Names}{H:HP}(O:S.Ok G) (hE:EOk G S X E) {n:Option Nm}(e1:lk x m=n) (h:vAug G S X E x q op e p K m H n):WX G S (.AugAssign (.Name x q) op e p) K X m H:=by
 rcases n with _ | (_ | _) | _ | _
 · exact h.o
 · exact h.o
 · exact x_aug O (lk_mem e1) (.inl rfl) (hE.post h fun _ _ _ h r1 r2 e1 e2=>W.post ((rInp ..).2 h r1 r2 e1 e2) fun _ _ _ h=>vSto_ok O h)
 · exact h.o
 · exact h.o
noncomputable def rul:(e:Expr)→Rul G S X E T e
 | .Name x p=>((⟨vNm G S X x p,fun O _ _ _ _=>vNm_ok O⟩,.val _ _ _ _ _ fun _=>rfl),⟨vSto G S X x,fun O _ _ _ _ _ _ k h=>a_name (vSto_mono' O k h)⟩,
     fun op e q=>⟨fun K m H=>vAug G S X E x p op e q K m H (lk x m),fun O hE _ _ _ h=>vAug_ok G S X E O hE rfl h⟩,fun _ _=>yes ⟨fun _=>rfl,fun _=>rfl⟩)
 | .Constant (.int i) _ _=>.mk _ _ _ _ _ ⟨fun K=>K (.int i 0),fun _ _ _ _ _=>e_int⟩ (.val _ _ _ _ _ fun _=>rfl)
 | .Constant (.str s) _ _=>.mk _ _ _ _ _ ⟨fun K=>K (.str s 0),fun _ _ _ _ _=>e_str⟩ (.val _ _ _ _ _ fun _=>rfl)
 | .Constant (.bytes b) _ _=>.mk _ _ _ _ _ ⟨fun K=>K (.bytes b.toArray 0),fun _ _ _ _ _=>e_bytes⟩ (.val _ _ _ _ _ fun _=>rfl)
 | .Constant .none _ _=>.mk _ _ _ _ _ ⟨fun K=>K .none,fun _ _ _ _ _=>e_none⟩ (.val _ _ _ _ _ fun _=>rfl)
 | .Constant (.bool b) _ _=>.mk _ _ _ _ _ ⟨fun K=>K (.bool b),fun _ _ _ _ _=>e_bool⟩ (.val _ _ _ _ _ fun _=>rfl)
 | .BinOp l op r _=>.mk _ _ _ _ _ ⟨fun K=>E l (fun a=>E r (fun b=>vBin G S X op a b K)),fun _ hE _ _ _ h=>e_bin (hE.post h fun _ _ _ h=>hE.post h fun _ _ _ h=>(rBin ..).2 h)⟩ (.val _ _ _ _ _ fun _=>rfl)
 | .UnaryOp .USub x _=>.mk _ _ _ _ _ ⟨fun K=>E x (fun v m H=>(uneg (iv v)).1 fun v=>K v m H),fun _ hE _ _ _ h=>e_usub (hE.post h fun _ _ _ h=>(uneg _).2 _ h)⟩ (.other ..)
 | .UnaryOp .Not x _=>.mk _ _ _ _ _ (.other ..) ⟨fun K=>T x (fun b=>K (!b)),fun _ hT _ _ _ h=>t_not (hT _ _ _ _ h)⟩
 | .Compare l [op] [r] p=>if e:behindInMarks op r=false then .mk _ _ _ _ _ ⟨fun K=>E l (fun a=>E r (fun b=>vCmp G S X op a b K)),fun _ hE _ _ _ h=>e_cmp (hE.post h fun _ _ _ h=>hE.post h fun _ _ _ h=>(rCmp ..).2 h) e⟩
     ⟨fun K=>E l (fun a=>E r (fun b=>vCmp G S X op a b (fun c=>vTru G S X c K))),fun hE _ _ _ _ h=>t_cmp (hE.post h fun _ _ _ h=>hE.post h fun _ _ _ h r1 r2 e1 e2=>W.post ((rCmp ..).2 h r1 r2 e1 e2) fun _ _ _ h=>(rTru ..).2 h) e⟩ else .mk _ _ _ _ _ (.other ..) (.other ..)
 | .Compare l [op,op2] [r,r2] p=>if e:behindInMarks op2 r2=false then .mk _ _ _ _ _ ⟨fun K=>E l (fun a=>E r (fun b=>vCmp G S X op a b (fun c=>vTru G S X c (fun t m H=>Stk (if t=true then E r2 (fun d=>vCmp G S X op2 b d K) m H else K c m H))))),
     fun _ hE _ _ _ h=>e_cmp2 (hE.post h fun _ _ _ h=>hE.post h fun _ _ _ h r1 r2 e1 e2=>W.post ((rCmp ..).2 h r1 r2 e1 e2) fun _ _ _ h r er=>W.post ((rTru ..).2 h r er) fun _ _ _ h=>if_map h.o (fun h=>hE.post h fun _ _ _ h=>(rCmp ..).2 h) id) e⟩
     ⟨fun K=>E l (fun a=>E r (fun b=>vCmp G S X op a b (fun c=>vTru G S X c (fun t m H=>Stk (if t=true then E r2 (fun d=>vCmp G S X op2 b d (fun e=>vTru G S X e K)) m H else K false m H))))),
     fun hE _ _ _ _ h=>t_cmp2 (hE.post h fun _ _ _ h=>hE.post h fun _ _ _ h r1 r2 e1 e2=>W.post ((rCmp ..).2 h r1 r2 e1 e2) fun _ _ _ h r er=>W.post ((rTru ..).2 h r er) fun _ _ _ h=>
       if_map h.o (fun h=>hE.post h fun _ _ _ h r1 r2 e1 e2=>W.post ((rCmp ..).2 h r1 r2 e1 e2) fun _ _ _ h=>(rTru ..).2 h) id) e⟩ else .mk _ _ _ _ _ (.other ..) (.other ..)
 | .Attribute o n p=>((match (info o).1 with
     | some b=>⟨fun K=>E o (fun ov m H=>Stk (GetA G S ov n K X m H)),fun _ hE _ _ _ h=>e_attr (hE.post h fun _ _ _ h=>h.o) (b.down ..)⟩
     | none=>.other ..,.val _ _ _ _ _ fun _=>rfl),⟨fun v KU=>E o (fun ov m H=>Stk (SetA G S ov n v (fun _=>KU) X m H)),fun _ hE _ _ _ _ _ k h=>a_attr (hE.post h fun _ _ _ h ro rv e1 e2=>W.post (h.o ro rv e1 e2) fun _=>k)⟩,RU.other G S X E _,fun _ _=>yes ⟨fun _=>rfl,fun _=>rfl⟩)
 | .Call (.Name x q) as ks p=>.mk _ _ _ _ _ (if e:(noStar as&&kwOk ks)=true then ⟨fun K=>E (.Name x q) (fun fv=>vCall G S X E as ks fv [] K),
     fun _ hE _ _ _ h=>e_call (hE.post h fun _ _ _ h=>vCall_ok hE (Bool.and_eq_true_iff.mp e).1 h) rfl (starFree (Bool.and_eq_true_iff.mp e).1) (kwFree (Bool.and_eq_true_iff.mp e).2)⟩ else .other ..) (.val _ _ _ _ _ fun _=>rfl)
 | .Call (.Attribute o n q) as ks p=>.mk _ _ _ _ _ (if e:(noStar as&&kwOk ks&&((q.endLine==p.line)&&decide (as.length+ks.length+(if ks.isEmpty then 0 else 1)<30)))=true then match (info o).1 with
     | some b=>⟨fun K=>E o (fun ov m H=>Stk (MetC G S ov n (fun fv first=>vCall G S X E as ks fv first K) X m H)),
       fun _ hE _ _ _ h=>meth_ok (hE.post h fun _ _ _ h ro pl er=>W.post (h.o ro pl er) fun _ _ _ h=>vCall_ok hE (Bool.and_eq_true_iff.mp (Bool.and_eq_true_iff.mp e).1).1 h) e (b.down ..)⟩
     | none=>.other ..
   else .other ..) (.val _ _ _ _ _ fun _=>rfl)
 | .Subscript v (.Slice lo hi none _) _=>.mk _ _ _ _ _ ⟨fun K=>E v (fun ov=>vO E lo (fun lv=>vO E hi (fun uv m H=>Stk (SliC G S ov lv uv K X m H)))),fun _ hE _ _ _ h=>
     e_slice (hE.post h fun _ _ _ h=>WOpt.post (fun _ _ _ h=>WOpt.post (fun _ _ _ h=>h.o) (vO_ok hE h)) (vO_ok hE h))⟩ (.val _ _ _ _ _ fun _=>rfl)
 | .Subscript v i _=>((⟨fun K=>E v (fun ov=>E i (fun iv m H=>Stk (IteC G S ov iv K X m H))),fun _ hE _ _ _ h=>e_sub (hE.post h fun _ _ _ h=>hE.post h fun _ _ _ h=>h.o)⟩,.val _ _ _ _ _ fun _=>rfl),
     ⟨fun w KU=>E v (fun ov=>E i (fun iv m H=>Stk (SetI G S ov iv w (fun _=>KU) X m H))),fun _ hE _ _ _ _ _ k h=>a_sub (hE.post h fun _ _ _ h=>hE.post h fun _ _ _ h ro ri rv e1 e2 e3=>W.post (h.o ro ri rv e1 e2 e3) fun _=>k)⟩,RU.other G S X E _,fun _ _=>yes ⟨fun _=>rfl,fun _=>rfl⟩)
 | .List es _=>.mk _ _ _ _ _ (if e:noStar es=true then ⟨fun K=>vL E es (fun vs m H=>Stk (vs.length≤sizeLine∧∀ a,H.o a=none→K (.ref a) m (H.put a (.list vs)))),fun _ hE _ _ _ h=>e_list (W.post (vL_ok hE e h) fun _ _ _ h=>h.o)⟩ else .other ..) (.other ..)
 | .Tuple es k p=>((if e:noStar es=true then ⟨fun K=>vL E es (fun vs m H=>Stk (vs.length≤sizeLine∧∀ a,H.o a=none→K (.ref a) m (H.put a (.tup vs)))),fun _ hE _ _ _ h=>e_tup (W.post (vL_ok hE e h) fun _ _ _ h=>h.o)⟩ else .other ..,.other ..),.other ..,RU.other G S X E _,fun _ i=>match i.2.2 with | some s=>yes ⟨fun _=>s.down ..,fun _=>rfl⟩ | none=>none)
 | .BoolOp .And [x,y] _=>.mk _ _ _ _ _ ⟨fun K=>E x (fun v=>vTru G S X v (fun t m H=>Stk (if t=true then E y K m H else K v m H))),fun _ hE _ _ _ h=>e_and2 (hE.post h fun _ _ _ h r er=>W.post ((rTru ..).2 h r er) fun _ _ _ h=>if_map h.o (hE _ _ _ _) id)⟩
     ⟨fun K=>T x (fun t m H=>Stk (if t=true then T y K m H else K false m H)),fun _ hT _ _ _ h=>t_and2 (hT.post h fun _ _ _ h=>if_map h.o (hT _ _ _ _) id)⟩
 | .BoolOp .Or [x,y] _=>.mk _ _ _ _ _ ⟨fun K=>E x (fun v=>vTru G S X v (fun t m H=>Stk (if t=true then K v m H else E y K m H))),fun _ hE _ _ _ h=>e_or2 (hE.post h fun _ _ _ h r er=>W.post ((rTru ..).2 h r er) fun _ _ _ h=>if_map h.o id (hE _ _ _ _))⟩
     ⟨fun K=>T x (fun t m H=>Stk (if t=true then K true m H else T y K m H)),fun _ hT _ _ _ h=>t_or2 (hT.post h fun _ _ _ h=>if_map h.o id (hT _ _ _ _))⟩
 | .BoolOp .And [x,y,z] _=>.mk _ _ _ _ _ ⟨fun K=>E x (fun v=>vTru G S X v (fun t m H=>Stk (if t=true then E y (fun w=>vTru G S X w (fun t m H=>Stk (if t=true then E z K m H else K w m H))) m H else K v m H))),
     fun _ hE _ _ _ h=>e_and3 (hE.post h fun _ _ _ h r er=>W.post ((rTru ..).2 h r er) fun _ _ _ h=>if_map h.o (fun h=>hE.post h fun _ _ _ h r er=>W.post ((rTru ..).2 h r er) fun _ _ _ h=>if_map h.o (hE _ _ _ _) id) id)⟩
     ⟨fun K=>T x (fun t m H=>Stk (if t=true then T y (fun t m H=>Stk (if t=true then T z K m H else K false m H)) m H else K false m H)),fun _ hT _ _ _ h=>
     t_and3 (hT.post h fun _ _ _ h=>if_map h.o (fun h=>hT.post h fun _ _ _ h=>if_map h.o (hT _ _ _ _) id) id)⟩
 | .BoolOp .Or [x,y,z] _=>.mk _ _ _ _ _ (.other ..) ⟨fun K=>T x (fun t m H=>Stk (if t=true then K true m H else T y (fun t m H=>Stk (if t=true then K true m H else T z K m H)) m H)),fun _ hT _ _ _ h=>
     t_or3 (hT.post h fun _ _ _ h=>if_map h.o id fun h=>hT.post h fun _ _ _ h=>if_map h.o id (hT _ _ _ _))⟩
 | e=>.mk _ _ _ _ _ (.other ..) (.other ..)
noncomputable def vET:Nat→VE × VT
 | 0=>(fun e K m H=>Stk (WE0 G S e K X m H),fun e K m H=>Stk (WT0 G S e K X m H))
 | n+1=>(fun e=>(rul G S X (vET n).1 (vET n).2 e).1.1.1,fun e=>(rul G S X (vET n).1 (vET n).2 e).1.2.1)
noncomputable def vA (E:VE) (T:VT) (t:Expr) (v:Value) (KU:KN) (m:Names) (H:HP):Prop:=(rul G S X E T t).2.1.1 v KU m H
noncomputable abbrev RX (B:VS) (st:Stmt):={f:KF→Names→HP→Prop // S.Ok G→EOk G S X E→TOk G S X T→SOk G S X B→∀ {K m H},f K m H→WX G S st K X m H}
noncomputable abbrev RX.other (B:VS) (st:Stmt):RX G S X E T B st:=⟨fun K m H=>Stk (WX G S st K X m H),fun _ _ _ _ _ _ _ h=>h.o⟩
noncomputable def rX (B:VS):(st:Stmt)→RX G S X E T B st
 | .Assign [t] e _=>match (rul G S X E T t).2.2.2 e (info e),(info e).2.1 with
   | some a,some b=>⟨fun K=>E e (fun v=>vA G S X E T t v (K .next)),fun O hE _ _ _ _ _ h=>x_asg (hE.post h fun _ _ _ h=>(rul ..).2.1.2 O hE (fun _ _ h=>h) h) (b.down ..) (a.down.sw _) (a.down.one _)⟩
   | _,_=>.other ..
 | .AugAssign t op e p=>⟨((rul G S X E T t).2.2.1 op e p).1,fun O hE _ _ _ _ _=>((rul ..).2.2.1 ..).2 O hE⟩
 | .Expr e _=>match (info e).2.1 with
   | some b=>⟨fun K=>E e (fun _=>K .next),fun O hE _ _ _ _ _ h=>x_expr O (hE _ _ _ _ h) (b.down ..)⟩
   | none=>.other ..
 | .Return (some e) _=>⟨fun K=>E e (fun v=>K (.ret v)),fun _ hE _ _ _ _ _ h=>x_ret (hE _ _ _ _ h)⟩
 | .Return none _=>⟨fun K=>K (.ret .none),fun _ _ _ _ _ _ _=>x_ret0⟩
 | .Pass _=>⟨fun K=>K .next,fun _ _ _ _ _ _ _=>x_pass⟩
 | .Continue _=>⟨fun K=>K .cont,fun _ _ _ _ _ _ _=>x_cont⟩
 | .If c a b _=>⟨fun K=>T c (fun t m H=>Stk (if t=true then B a K m H else B b K m H)),fun _ _ hT hB _ _ _ h=>x_if (hT.post h fun _ _ _ h=>if_map h.o (hB _ _ _ _) (hB _ _ _ _))⟩
 | st=>.other ..
end
section
variable (G:Glb) (S:Sit) (X:KV)
noncomputable def vXs (E:VE) (T:VT) (B:VS) (st:Stmt) (K:KF) (m:Names) (H:HP):Prop:=(rX G S X E T B st).1 K m H
noncomputable def seqV (B:VS) (r:List Stmt) (KFl:KF):KF:=fun f m H=>match f with
 | .next=>B r KFl m H
 | f=>KFl f m H
noncomputable def vS:Nat→VS
 | 0=>fun l KF m H=>Stk (WS G S l KF X m H)
 | n+1=>fun l KF m H=>match l with
   | []=>KF .next m H
   | st::r=>vXs G S X (vET G S X n).1 (vET G S X n).2 (vS n) st (seqV (vS n) r KF) m H
end
section
variable {G:Glb}{S:Sit}{X:KV}{m:Names}{H:HP}
theorem vET_ok (O:S.Ok G):∀ n,EOk G S X (vET G S X n).1∧TOk G S X (vET G S X n).2
 | 0=>⟨fun _ _ _ _ h=>Stk.o h,fun _ _ _ _ h=>Stk.o h⟩
 | n+1=>⟨fun _ _ _ _ h=>(rul ..).1.1.2 O (vET_ok O n).1 h,fun _ _ _ _ h=>(rul ..).1.2.2 (vET_ok O n).1 (vET_ok O n).2 h⟩
theorem vA_mono (O:S.Ok G) {t:Expr}{v:Value}{KU KU':KN}(k:∀ m H,KU m H→KU' m H) (h:vA G S X (vET G S X 40).1 (vET G S X 40).2 t v KU m H):AsgC G S t v (fun _=>KU') X m H:=(rul ..).2.1.2 O (vET_ok O 40).1 k h
theorem vXs_ok (O:S.Ok G) {E:VE}{T:VT}{B:VS}(hE:EOk G S X E) (hT:TOk G S X T) (hB:SOk G S X B) {st:Stmt}{KFl:KF}(h:vXs G S X E T B st KFl m H):WX G S st KFl X m H:=(rX ..).2 O hE hT hB h
theorem vS_ok (O:S.Ok G):∀ n,SOk G S X (vS G S X n)
 | 0=>fun _ _ _ _ h=>Stk.o h
 | n+1=>fun l KFl m H h=>by
   cases l with
   | nil=>exact s_nil h
   | cons st r=>
     refine s_cons (W.mono (vXs_ok O (vET_ok O n).1 (vET_ok O n).2 (vS_ok O n) h) (fun f m H h=>?_) fun _ _ _ h=>h)
     cases f with
     | next=>exact seq_next (vS_ok O n _ _ _ _ h)
     | brk=>exact h
     | cont=>exact h
     | ret v=>exact h
theorem vS_in (O:S.Ok G) {l:List Stmt}{K:KF}(h:vS G S X 60 l K m H):WS G S l K X m H:=vS_ok O 60 l K m H h
theorem vE_in (O:S.Ok G) {e:Expr}{K:KV}(h:(vET G S X 40).1 e K m H):WE G S e K X m H:=(vET_ok O 40).1 e K m H h
theorem vT_in (O:S.Ok G) {e:Expr}{K:KB}(h:(vET G S X 40).2 e K m H):WT G S e K X m H:=(vET_ok O 40).2 e K m H h
theorem vA_in (O:S.Ok G) {t:Expr}{v:Value}{KU:Unit→KN}(h:vA G S X (vET G S X 40).1 (vET G S X 40).2 t v (KU ()) m H):AsgC G S t v KU X m H:=vA_mono O (KU':=KU ()) (fun _ _ h=>h) h
theorem vA_for (O:S.Ok G) {t:Expr}{v:Value}{l:List Stmt}{K:KF}(h:vA G S X (vET G S X 40).1 (vET G S X 40).2 t v (vS G S X 60 l K) m H):AsgC G S t v (fun _=>WS G S l K X) X m H:=vA_mono O (fun _ _=>vS_in O) h
theorem vX_in (O:S.Ok G) {st:Stmt}{K:KF}(h:vXs G S X (vET G S X 40).1 (vET G S X 40).2 (vS G S X 40) st K m H):WX G S st K X m H:=vXs_ok O (vET_ok O 40).1 (vET_ok O 40).2 (vS_ok O 40) h
theorem vA_ifs (O:S.Ok G) {t:Expr}{v:Value}{KI:KB}(h:vA G S X (vET G S X 40).1 (vET G S X 40).2 t v (KI true) m H):AsgC G S t v (fun _=>IfsC G S [] KI X) X m H:=vA_mono O (fun _ _ h=>h) h
theorem a_tup2 (O:S.Ok G) {a b:Expr}{k:Nat}{p:Pos}{t:Addr}{x y:Value}{KU:KN}(hh:S.A.handled=none) (ht:H.o t=some (.tup [x,y])) (h:vA G S X (vET G S X 40).1 (vET G S X 40).2 a x (vA G S X (vET G S X 40).1 (vET G S X 40).2 b y KU) m H)
   (e1:(assignEach [a,b] S.env)=[(false,assign a S.env),(false,assign b S.env)]:=by with_unfolding_all rfl):AsgC G S (.Tuple [a,b] k p) (.ref t) (fun _=>KU) X m H:=by
 exact a_tuple2 hh ht (vA_mono O (fun m H h=>vA_mono O (fun _ _ h=>h) h) h) (by rw [e1];rfl) (by rw [e1];rfl) (by rw [e1];rfl)
theorem x_tryV {X':KV}{body orelse:List Stmt}{K:KF}{m:Names}{H:HP}(O:S.Ok G) (h:vS G S X' 60 body (seqV (vS G S X 60) orelse K) m H):WS G S body (seqK G S orelse K X) X' m H:=
 W.mono (vS_ok O 60 _ _ _ _ h) (fun f m H h=>by
   cases f with
   | next=>exact seq_next (vS_ok O 60 _ _ _ _ h)
   | brk=>exact h
   | cont=>exact h
   | ret v=>exact h) fun _ _ _ h=>h
theorem bI_y {p:Prop}{F:Bool→Prop}(h:p) (k:F true):F (bI p):=(bI_iff.mpr h).symm▸k
theorem bI_n {p:Prop}{F:Bool→Prop}(h:¬ p) (k:F false):F (bI p):=(bI_not.mpr h).symm▸k
theorem e_cel0 (O:S.Ok G) {x:Str}{p:Pos}{K:KV}{c:Addr}{v:Value}(hm:(x,Nm.cel c)∈m) (hc:H.o c=some (.cell (some v))) (h:K v m H):WE0 G S (.Name x p) K X m H:=e_cel O hm hc h
theorem x_whileV {t:Expr}{body orelse:List Stmt}{p:Pos}{KFl:KF}(O:S.Ok G) (I:Nat→Names→HP→Prop) (n:Nat) (h0:I n m H)
   (turn:∀ n m H,I n m H→(vET G S X 40).2 t (fun b m H=>Stk (if b=true then vS G S X 60 body (turnK (fun m H=>∃ k,k<n∧I k m H) KFl) m H else vS G S X 60 orelse KFl m H)) m H):WX G S (.While t body orelse p) KFl X m H:=
 x_while O I n h0 fun n m H h=>W.post (vT_in O (turn n m H h)) fun b m H h=>if_map h.o (vS_in O) (vS_in O)
theorem execs_app {env:Env}{b:List Stmt}:∀ {a:List Stmt},execs (a++b) env=execs a env >>= fun f=>match f with
   | .next=>execs b env
   | f=>pure f
 | []=>by rw [List.nil_append];exact (pure_bind _ _).symm
 | st::a=>by
   rw [List.cons_append,execs_cons,execs_cons,bind_assoc]
   refine congrArg _ (funext fun f=>?_)
   cases f with
   | next=>exact execs_app
   | brk=>exact (pure_bind _ _).symm
   | cont=>exact (pure_bind _ _).symm
   | ret v=>exact (pure_bind _ _).symm
noncomputable def WS0 (G:Glb) (S:Sit) (l:List Stmt) (K:KF) (X:KV) (m:Names) (H:HP):Prop:=WS G S l K X m H
noncomputable def cutK (G:Glb) (S:Sit) (X:KV) (l:List Stmt) (K:KF):KF:=fun f m H=>match f with
 | .next=>Stk (WS0 G S l K X m H)
 | f=>K f m H
theorem ws_cut (O:S.Ok G) (k:Nat) {l:List Stmt}{K:KF}(h:vS G S X 60 (l.take k) (cutK G S X (l.drop k) K) m H):WS G S l K X m H:=by
 have e:execs l S.env=execs (l.take k++l.drop k) S.env:=by rw [List.take_append_drop]
 refine W.eq (e.trans execs_app) (W.bind (W.post (vS_in O h) fun f m H h=>?_))
 cases f with
 | next=>exact h.o
 | brk=>exact W.pure h
 | cont=>exact W.pure h
 | ret v=>exact W.pure h
theorem vA_join (O:S.Ok G) {t:Expr}{v:Value}{l:List Stmt}{K:KF}(h:vA G S X (vET G S X 40).1 (vET G S X 40).2 t v (fun m H=>Stk (WS0 G S l K X m H)) m H):AsgC G S t v (fun _=>WS G S l K X) X m H:=vA_mono O (fun _ _ h=>h.o) h
theorem ws_join (O:S.Ok G) (Q:KN) {l:List Stmt}{st:Stmt}{r:List Stmt}{K:KF}(e:l=st::r) (h:vS G S X 60 [st] (fun f m H=>f=.next∧Q m H) m H) (k:∀ m H,Q m H→vS G S X 60 r K m H):WS0 G S l K X m H:=by
 subst e
 have h1:WS G S ([st]++r) K X m H:=by
   refine W.eq execs_app (W.bind (W.post (vS_in O h) fun f m H h=>?_))
   obtain ⟨e,q⟩:=h
   cases f with
   | next=>exact vS_in O (k _ _ q)
   | brk=>cases e
   | cont=>cases e
   | ret v=>cases e
 exact h1
theorem ws0_in {l:List Stmt}{K:KF}(h:WS0 G S l K X m H):WS G S l K X m H:=h
theorem ws0 {l:List Stmt}{K:KF}(h:WS G S l K X m H):WS0 G S l K X m H:=h
theorem ws_asgQ (O:S.Ok G) (Q:Value→HP→Prop) {l:List Stmt}{x:Str}{ex:Expr}{p q:Pos}{r:List Stmt}{K:KF}(e:l=.Assign [.Name x p] ex q::r) (he:(info ex).2.1.isSome=true) (h:(vET G S X 40).1 ex (fun v m' H'=>m'=m∧Q v H') m H)
   (k:∀ v H',Q v H'→vSto G S X x v (vS G S X 60 r K) m H'):WS0 G S l K X m H:=by
 subst e
 refine s_cons (x_asg (W.post (vE_in O h) fun v m' H' hq=>?_) (((info ex).2.1.get he).down (some (.Name x p)) q.line S.env) rfl rfl)
 obtain ⟨e1,e2⟩:=hq
 rw [e1]
 exact a_name (vSto_mono' O (fun m H h=>seq_next (vS_in O h)) (k _ _ e2))
theorem ws_asgV (O:S.Ok G) (V:Value) {l:List Stmt}{x:Str}{ex:Expr}{p q:Pos}{r:List Stmt}{K:KF}(e:l=.Assign [.Name x p] ex q::r) (he:(info ex).2.1.isSome=true) (h:(vET G S X 40).1 ex (fun v m' H'=>m'=m∧v=V∧H'=H) m H)
   (k:vSto G S X x V (vS G S X 60 r K) m H):WS0 G S l K X m H:=ws_asgQ O (fun v H'=>v=V∧H'=H) e he h fun v H' q=>by rw [q.1,q.2];exact k
theorem ifx_in (O:S.Ok G) {c a b:Expr}{p:Pos}{K:KV}(h:(vET G S X 40).2 c (fun t m H=>Stk (if t=true then (vET G S X 40).1 a K m H else (vET G S X 40).1 b K m H)) m H):WE G S (.IfExp c a b p) K X m H:=
 e_ifexp (W.post (vT_in O h) fun t m H h=>if_map h.o (vE_in O) (vE_in O))
theorem vA_ifs1 (O:S.Ok G) {t c:Expr}{v:Value}{KI:KB}(h:vA G S X (vET G S X 40).1 (vET G S X 40).2 t v ((vET G S X 40).2 c fun b m H=>Stk (KI b m H)) m H):AsgC G S t v (fun _=>IfsC G S [c] KI X) X m H:=vA_mono O (fun m H h=>show WT G S c KI X m H from W.post (vT_in O h) fun b m H h=>h.o) h
theorem vS_nil {n:Nat}{K:KF}(h:K .next m H):vS G S X (n+1) [] K m H:=h
theorem we0 {e:Expr}{K:KV}(h:WE G S e K X m H):WE0 G S e K X m H:=h
theorem asg0 {e:Expr}{v:Value}{K:Unit→KN}(h:AsgC G S e v K X m H):AsgC0 G S e v K X m H:=h
theorem ws_abs {l:List Stmt}{K:KF}(h:∀ KF XK,(∀ f m H,K f m H→KF f m H)→(∀ v m H,X v m H→XK v m H)→WS G S l KF XK m H):WS G S l K X m H:=h K X (fun _ _ _ h=>h) fun _ _ _ h=>h
theorem asg_abs {t:Expr}{v:Value}{l:List Stmt}{K:KF}(h:∀ KF XK,(∀ f m H,K f m H→KF f m H)→(∀ v m H,X v m H→XK v m H)→AsgC G S t v (fun _=>WS G S l KF XK) XK m H):AsgC G S t v (fun _=>WS G S l K X) X m H:=h K X (fun _ _ _ h=>h) fun _ _ _ h=>h
end
end Mine
end
open PySem PySem.W PyProof.Rows PySem.Calls
namespace Mine
local macro_rules | `(tactic| walk_at "m:get")=>`(tactic| repeat first | assumption | exact HP.put_same | refine HP.put_fresh ‹_› ?_)
local macro_rules | `(tactic| walk_at "m:s")=>`(tactic| first
 | refine Stk.mk ?_
 | with_reducible first
   | refine e_cel0 ‹_› (by with_unfolding_all exact lk_mem rfl) (by walk_at "m:get") ?_
   | refine x_tryV ‹_› ?_
   | refine vS_in ‹_› ?_
   | refine vE_in ‹_› ?_
   | refine vA_for ‹_› ?_
   | refine vA_ifs ‹_› ?_
   | refine vA_ifs1 ‹_› ?_
   | refine vA_in ‹_› ?_
   | refine vT_in ‹_› ?_)
local macro_rules | `(tactic| walk_at "m:0")=>`(tactic| with_reducible first | refine we0 ?_ | refine wt0 ?_ | refine asg0 ?_)
section
noncomputable def gt1:List (Str × Value):=([("super",.type "super"),("ord",.builtin "ord"),("chr",.builtin "chr"),("bytes",.type "bytes"),("bytearray",.type "bytearray"),("len",.builtin "len"),("range",.type "range"),("sorted",.builtin "sorted"),("isinstance",.builtin "isinstance"),("dict",.type "dict"),("zip",.type "zip"),("int",.type "int"),("bool",.type "bool"),("sum",.builtin "sum"),("divmod",.builtin "divmod"),("ValueError",.type "ValueError"),("TypeError",.type "TypeError")]:List (Str × Value))++([("PyFATException",.ref 41),("NotAnLFNEntryException",.ref 54),("NotAFatEntryException",.ref 87),("errno",.ref 100),("encoded",.ref 109),("decoded",.ref 114),("encoded16",.ref 121),("decoded16",.ref 126),("splitext",.ref 133),("init_check",.ref 140),("EightDotThree",.ref 259),("FATDirectoryEntry",.ref 549),("FATLongDirectoryEntry",.ref 624),("make_lfn_entry",.ref 635),("_law_signs",.ref 642),("_law_short_already",.ref 649),("_law_units",.ref 656),("_law_sum",.ref 661),("_law_parts",.ref 668),("_law_octets",.ref 675),("_law_taken",.ref 682)]:List (Str × Value))
structure L1 (G:Glb):Prop where
 K:G.K=hd.heap_39 G.w.params
 tab:G.gtab=gt1
 prog:G.prog=PySem.Challenge.pw_jj0021_01
theorem lk1 {G:Glb}(hL:L1 G) {a:Addr}{o:Option Obj}(h:∀ P,(hd.heap_39 P).lookup a=o):G.K.lookup a=o:=by rw [hL.K];exact h _
theorem ExcAt.sub {G:Glb}{fr:Option Addr}{pr:Pr}{H H₀:HP}{e cls:Value}{s:Shared}(x:Sub H₀ H) (h:ExcAt G fr pr H e cls s):ExcAt G fr pr H₀ e cls s:=by
 obtain ⟨a,oe,vs,rfl,a1,a2,a3,a4,a5,a6,a7⟩:=h
 refine ⟨a,oe,vs,rfl,a1,a2,a3,a4,x.none a5,a6,a7.imp id ?_⟩
 rintro yq0
 obtain ⟨T,oT,ts,b1,b2,b3,b4,b5,b6,b7,b8⟩:=yq0
 exact ⟨T,oT,ts,b1,b2,b3,x.none b4,b5,b6,b7,b8⟩
theorem calls_sub {G:Glb}{A:Around}{stk:List Env}{sv:Sv}{pr:Pr}{H:HP}{K X:KH}{f:Value}{vs:List Value}{kw:List (Str × Value)}(h:Calls G A stk sv pr f vs kw (fun v H'=>∃ H₀,Sub H₀ H'∧K v H₀) (fun c H'=>∃ H₀,Sub H₀ H'∧X c H₀) H):Calls G A stk sv pr f vs kw K X H:=by
 intro rf s rvs rkw ef R e1 e2
 refine codeAny_mono (h rf s rvs rkw ef R e1 e2) fun r s' x=>?_
 rcases r with e | (_ | _ | _ | v)
 · obtain ⟨H',cls,a,b,H₀,c,d⟩:=x;exact ⟨H₀,cls,a.sub c,b.sub c,d⟩
 · exact x
 · exact x
 · exact x
 · obtain ⟨H',a,H₀,c,d⟩:=x;exact ⟨H₀,a.sub c,d⟩
theorem intL_snoc {ns:List Int}{i:Int}:intL ns++[.int i 0]=intL (ns++[i]):=by simp [intL]
theorem W.at' {G:Glb}{S:Sit}{α:Type}{t:Sem α}{K:α→Names→HP→Prop}{X:KV}{m:Names}{H:HP}{s:Shared}{mm:Str→Option Value}(M:MOk G S.env mm m) (R:RelC G S.stk ((S.L,mm)::S.sv) S.pr H s) (h:W G S t K X m H):wpAny G.M S.A t (Post G S K) (PostX G S X) s:=h s mm M R
theorem Rm.ne {A:Around}{stk:List Env}{n:Nat}(r:Rm A stk n) {G:Glb}{sv:Sv}{pr:Pr}{H:HP}{s:Shared}(R:RelC G stk sv pr H s):sv≠[]:=by
 refine xe32 r.top fun e₀ l f zq3 hf=>?_
 obtain rfl:=zq3
 intro q;subst q
 have:=R.fsv e₀ (.head _) f hf
 simp at this
theorem calls_sv {G:Glb}{A:Around}{stk:List Env}{sv:Sv}{pr:Pr}{H:HP}{K X:KH}{n:Nat}{f:Value}{vs:List Value}{kw:List (Str × Value)}(r:Rm A stk n) (h:sv≠[]→Calls G A stk sv pr f vs kw K X H):Calls G A stk sv pr f vs kw K X H:=fun rf s rvs rkw ef R e1 e2=>h (r.ne R) rf s rvs rkw ef R e1 e2
theorem pad26 (L:Nat):(26 - 2 * L % 26) % 26=2 * ((13 - L % 13) % 13):=by
 rw [show 26=2 * 13 from rfl,Nat.mul_mod_mul_left,← Nat.mul_sub,Nat.mul_mod_mul_left]
theorem dvd_pad (L:Nat) {m:Nat}(hm:0<m):(L+(m - L % m)) % m=0:=by
 have h:L+(m - L % m)=m+m * (L / m):=by
   conv=>lhs;arg 1;rw [← Nat.mod_add_div L m]
   rw [Nat.add_right_comm,Nat.add_sub_cancel' (Nat.le_of_lt (Nat.mod_lt L hm))]
 rw [h,Nat.add_mul_mod_self_left,Nat.mod_self]
theorem sub_cast {c k:Nat}(h:¬ c<k):(c:Int) - (k:Int)=((c - k:Nat):Int):=(Int.natCast_sub (Nat.le_of_not_lt h)).symm
theorem neg_mod (L:Nat) {m:Nat}(hm:0<m):(-(L:Int) % (m:Int)).toNat=(m - L % m) % m:=by
 have e:-(L:Int) % (m:Int)=((m - L % m:Nat):Int) % (m:Int):=by
   have h:((m - L % m:Nat):Int) = -(L:Int)+(m:Int) * ((1+L / m:Nat):Int):=by
     rw [← Int.natCast_mul,Int.add_comm,← Int.sub_eq_add_neg,Nat.mul_add,Nat.mul_one]
     refine (?_:_=((m+m * (L / m):Nat):Int) - _)
     conv=>rhs;arg 2;rw [← Nat.mod_add_div L m]
     rw [sub_cast (Nat.not_lt.mpr (Nat.add_le_add_right (Nat.le_of_lt (Nat.mod_lt L hm)) _)),Nat.add_sub_add_right]
   rw [h,Int.add_mul_emod_self_left]
 rw [e,← Int.natCast_emod,Int.toNat_natCast]
theorem pad_neg (L:Nat):((26 - (L:Int)) % 26+(L:Int) - (L:Int)).toNat=(26 - L % 26) % 26:=by
 rw [Int.add_sub_cancel,Int.sub_eq_add_neg,Int.add_comm,Int.add_emod_right]
 exact neg_mod L (m:=26) (by decide)
theorem clip_nat {a n:Nat}(h:a≤n):max 0 (min (if (a:Int)<0 then (a:Int)+(n:Int) else (a:Int)) (n:Int))=(a:Int):=by
 rw [if_neg (Int.not_lt.mpr (Int.natCast_nonneg a)),Int.min_eq_left (Int.ofNat_le.mpr h),Int.max_eq_right (Int.natCast_nonneg a)]
theorem chunk_le {L N i k:Nat}(hL:L=26 * N) (hi:i<N) (hk:k≤26):26 * i+k≤L:=by
 subst hL;exact Nat.le_trans (Nat.add_le_add_left hk _) (Nat.mul_le_mul_left 26 hi)
theorem chunk_min {L N i p k:Nat}(hL:L=26 * N) (hi:i<N) (hk:p+k≤26):min k (L - (26 * i+p))=k:=
 Nat.min_eq_left (Nat.le_sub_of_add_le (by rw [Nat.add_comm,Nat.add_assoc];exact chunk_le hL hi hk))
theorem chunk_ne {L N i k x:Nat}(hL:L=26 * N) (hi:i<N) (hk:k<26):¬ min k x=L:=fun e=>
 Nat.not_le.mpr hk (Nat.le_trans (Nat.le_trans (Nat.le_add_left 26 _) (chunk_le hL hi (Nat.le_refl 26))) (e▸Nat.min_le_left k x))
theorem rs2 (n:Nat):(if 0<2 * (n:Int) then (2 * (n:Int) - 1) / 2+1 else 0).toNat=n:=by
 rcases n with _ | k
 · rfl
 · rw [if_pos (Int.mul_pos (by decide) (Int.ofNat_lt.mpr (Nat.succ_pos k)))]
   have:2 * ((k+1:Nat):Int) - 1=1+((k:Nat):Int) * 2:=by
     rw [Int.natCast_add,Int.mul_add,Int.mul_comm 2 (k:Int),Int.add_sub_assoc,Int.add_comm];exact rfl
   rw [this,Int.add_mul_ediv_right _ _ (by decide)]
   simp
end
section
noncomputable def nmC11 (p0:Option Value) (p1:Option Value) (p2:Option Value) (p3:Option Value):Names:=[("text",.loc p0),("b",.loc p1),("c",.loc p2),("n",.loc p3),("ord",.glo (.builtin "ord"))]
noncomputable def enc1 (c:Nat):List UInt8:=if c<65536 then (lo2 c).toList else (lo2 (55296+((c:Int) - 65536) / 2 ^ (10:Int).toNat)).toList++(lo2 (56320+Builtin.bitAnd ((c:Int) - 65536) 1023)).toList
noncomputable def enc16 (l:List Nat):List UInt8:=l.flatMap enc1
theorem enc1_le (c:Nat):(enc1 c).length≤4:=by unfold enc1;split<;>simp [lo2]
theorem enc16_le (l:List Nat):(enc16 l).length≤4 * l.length:=by
 induction l with
 | nil=>simp [enc16]
 | cons c r ih=>
   have:=enc1_le c
   rw [enc16,List.flatMap_cons,List.length_append,List.length_cons,Nat.mul_succ,Nat.add_comm]
   exact Nat.add_le_add ih this
theorem take_next {α:Type}(l:List α) (d:α) {i:Nat}(h:i<l.length):l.take (i+1)=l.take i++[l.getD i d]:=by
 rw [List.take_add_one];simp [List.getD,h]
theorem enc16_next (l:List Nat) {i:Nat}(h:i<l.length):enc16 (l.take (i+1))=enc16 (l.take i)++enc1 (l.getD i 0):=by
 rw [take_next l 0 h];simp [enc16]
theorem hi_lt {c:Nat}(h:c<1114112):(c - 65536) / 1024<1024:=
 Nat.lt_of_le_of_lt (Nat.div_le_div_right (Nat.sub_le_sub_right (Nat.le_of_lt_succ h) 65536)) (by decide)
theorem hi_e {c:Nat}(h:c<1114112):55296+(c - 65536) / 1024<56320:=Nat.add_lt_add_left (hi_lt h) 55296
theorem lo_e (c:Nat):56320+(c - 65536) % 1024<57344:=Nat.add_lt_add_left (Nat.mod_lt _ (by decide)) 56320
theorem getD_of_all {P:Nat→Prop}{l:List Nat}(h:∀ c∈l,P c) {i:Nat}(hi:i<l.length):P (l.getD i 0):=by
 have:l.getD i 0=l[i]:=by simp [List.getD,hi]
 rw [this];exact h _ (List.getElem_mem hi)
theorem and1023 {a:Int}(h:0≤a):Builtin.bitAnd a 1023=a % 1024:=and_mask h 10
inductive IvC10 (H:HP) (x:Str) (i:Nat) (m':Names) (H':HP):Prop
 | mk:(H'=H)→∀ o1 o2,(m'=(nmC11 (some (.str x 0)) (some (.bytes (enc16 (x.cps.toList.take i)).toArray 0)) o1 o2))→IvC10 H x i m' H'
section
variable {G:Glb}(hL:L1 G) {A:Around}{stk:List Env}{sv:Sv}{pr:Pr}{H:HP}{K X:KH}{n:Nat}
include hL in
theorem encoded16_c (r:Rm A stk (n+1)) {x:Str}(hx:x.length≤1000000) (hcp:∀ c∈x.cps.toList,c<1114112) (k:K (.bytes (enc16 x.cps.toList).toArray 0) H):Calls G A stk sv pr (.ref 121) [.str x 0] [] K X H:=by
 refine enterN r ["text","b","c","n"] [("ord",.builtin "ord")] [("text",.str x 0)] (ho:=(congrArg (List.lookup 121) hL.K).trans rfl) rfl (fun s rvs rkw X e1 e2=>?_) (by rw [hL.K];rfl) rfl (by rw [hL.tab];decide) (.loc .here .nil) fun S O r=>?_
 · refine xe12 (map_one e1) fun x zq1 ex=>?_
   obtain rfl:=zq1
   obtain rfl:=map_nil' e2
   exact ⟨_,BindsTo.of_eq rfl,by simp [ex]⟩
 dsimp only [mkM,List.map,List.append_eq,List.cons_append,List.nil_append,List.map_cons,List.map_nil]
 repeat walk_at "m:s"
 try walk_at "m:0"
 refine x_for O r.hh ?_
 repeat walk_at "m:s"
 refine ⟨_,_,_,_,itStr,trivial,(IvC10 H x),?_,?_,?_⟩
 · exact ⟨rfl,none,none,rfl⟩
 · rintro pr i m' _ hi - yq6
   obtain ⟨rfl,o1,o2,rfl⟩:=yq6
   have O:=O.guard pr
   have hi':i<x.cps.toList.length:=by simpa using hi
   have hl:x.cps.toList.length=x.length:=Array.length_toList
   have hc:=getD_of_all hcp hi'
   have hsz:(enc16 (x.cps.toList.take i)).length≤4000000:=by
     have:=enc16_le (x.cps.toList.take i)
     rw [List.length_take] at this;exact Nat.le_trans this (Nat.mul_le_mul_left 4 (Nat.le_trans (Nat.min_le_right _ _) (Nat.le_trans (Nat.le_of_eq hl) hx)):_≤4 * 1000000)
   have hn:=enc16_next x.cps.toList hi'
   repeat walk_at "m:s"
   refine ⟨keepsB,f_ord ?_⟩
   repeat walk_at "m:s"
   generalize x.cps.toList.getD i 0=c at hc hn
   repeat walk_at "m:s"
   refine if_bI (fun hlt=>?_) (fun hlt=>?_)
   · repeat walk_at "m:s"
     refine met_i PySem.F.slot_int_to_bytes PySem.F.type_int_to_bytes ?_
     repeat walk_at "m:s"
     refine ⟨keepsB,f_to_bytes2 (by simp) (by omega) (Stk.mk (i_add_b (by simp [lo2];lia) ?_))⟩
     repeat walk_at "m:s"
     have e:(enc16 (x.cps.toList.take i)).toArray++lo2 (c:Int)=(enc16 (x.cps.toList.take (i+1))).toArray:=by
       rw [hn,enc1,if_pos (by exact Int.ofNat_le.mp (by assumption))];simp
     rw [e]
     exact ⟨trivial,rfl,_,_,rfl⟩
   · have hsub:(c:Int) - 65536=((c - 65536:Nat):Int):=sub_cast fun h=>hlt (Int.ofNat_lt.mpr h)
     have ha:=and1023 (a:=(c:Int) - 65536) (by rw [hsub];exact Int.natCast_nonneg _)
     repeat walk_at "m:s"
     refine b_rshift (by decide) ?_
     have e1024:(2:Int) ^ (10:Int).toNat=1024:=by decide
     repeat walk_at "m:s"
     refine met_i PySem.F.slot_int_to_bytes PySem.F.type_int_to_bytes ?_
     repeat walk_at "m:s"
     refine ⟨keepsB,f_to_bytes2 (by rw [e1024,hsub];exact Int.natCast_nonneg (55296+(c - 65536) / 1024)) (by rw [e1024,hsub];exact Int.ofNat_lt.mpr (Nat.lt_trans (hi_e hc) (by decide))) (Stk.mk (i_add_b (by simp [lo2];lia) ?_))⟩
     repeat walk_at "m:s"
     refine met_i PySem.F.slot_int_to_bytes PySem.F.type_int_to_bytes ?_
     repeat walk_at "m:s"
     refine ⟨keepsB,f_to_bytes2 (by rw [ha,hsub];exact Int.natCast_nonneg (56320+(c - 65536) % 1024)) (by rw [ha,hsub];exact Int.ofNat_lt.mpr (Nat.lt_trans (lo_e c) (by decide))) (Stk.mk (i_add_b (by simp [lo2];lia) ?_))⟩
     repeat walk_at "m:s"
     have e:(enc16 (x.cps.toList.take i)).toArray++lo2 (55296+((c:Int) - 65536) / 2 ^ (10:Int).toNat)++lo2 (56320+Builtin.bitAnd ((c:Int) - 65536) 1023)=(enc16 (x.cps.toList.take (i+1))).toArray:=by
       rw [hn,enc1,if_neg fun h=>hlt (Int.ofNat_lt.mpr h)];simp
     rw [e]
     exact ⟨trivial,rfl,_,_,rfl⟩
 · rintro m' _ - yq3
   obtain ⟨rfl,o1,o2,rfl⟩:=yq3
   repeat walk_at "m:s"
   have e:x.cps.toList.take x.cps.size=x.cps.toList:=List.take_of_length_le (by simp)
   rw [e]
   exact k
end
end
section
noncomputable abbrev ExcK (G:Glb) (C:Addr) (H:HP):KH:=fun v H'=>NewX G (.ref C) (fun H₀=>H₀=H) v H'
section
variable {G:Glb}(hL:L1 G) {A:Around}{stk:List Env}{sv:Sv}{pr:Pr}{H:HP}{K X:KH}{n:Nat}
include hL in
set_option maxHeartbeats 2000000 in
theorem pyInit_c (r:Rm A stk (n+1)) {C x t:Addr}{msg e:Value}{vs:List Value}{kw:List (Str × Value)}(hC:C=41∨C=54)
   (hbind:∀ {oc od osl} {fd:FuncData},G.K.lookup 38=some ⟨oc,od,.func fd,osl⟩→∀ s rvs rkw,G.K.In s.heap→rvs.map er=vs→rkw.map (fun p=>(p.1,er p.2))=kw→∃ rb,BindsTo s fd ⟨rvs,rkw⟩ rb∧rb.map (fun p=>(p.1,er p.2))=([("self",.ref x),("msg",msg),("errno",e)]:List (Str × Value)))
   (hx:H.o x=some (.obj (newX C t))) (k:∀ oe vs,oe.cls=.ref C→oe.data=.fields vs→vs[1]? = some .none→K .none (H.put x (.obj oe))):Calls G A stk sv pr (.ref 38) vs kw K X H:=by
 refine enterS r ["self","msg","errno"] [("super",.type "super")] [("self",.ref x),("msg",msg),("errno",e)] (ho:=lk1 hL (fun _=>rfl)) rfl (hbind (lk1 hL (fun _=>rfl))) (by rw [hL.K];rfl) rfl (by rw [hL.tab];decide) (.loc .here (.loc (.next .here) (.loc (.next (.next .here)) .nil))) rfl fun S O r hpr hsc hce hfu hco=>?_
 dsimp only [mkM,List.map,List.append_eq,List.cons_append,List.nil_append,List.map_cons,List.map_nil]
 intro s mm M R
 refine ks_wpAt_execs_cons ?_
 have hE:S.env.kindOf "super" = some .globalImplicit:=by unfold Env.kindOf;rw [hsc];rfl
 have hF:S.env.kindOf "__class__" = some .free:=by unfold Env.kindOf;rw [hsc];rfl
 have hp1:(G.prog.main.scope.names.lookup ("super" : Str)).isSome=false:=by rw [hL.prog];rfl
 have hmro:mroIn G.K C (.ref 41)=some true∧mroIn G.K C (.type "Exception")=some true∧ks_superIn G.K C 41 "__init__" = some (some (.builtin "Exception.__init__"))∧nsIn G.K cStatics "thirdparty.any" = some none∧setXAt G.K C "errno" = true:=by
   rw [hL.K];rcases hC with rfl | rfl<;>exact ⟨rfl,rfl,rfl,rfl,rfl⟩
 refine xe05 hmro fun hm1 hm2 hm3 hm4 hm5=>?_
 obtain ⟨cd,hcd⟩:∃ cd,clsIn G.K C=some cd:=by rw [hL.K];rcases hC with rfl | rfl<;>exact ⟨_,rfl⟩
 refine ks_wpAt_mono (x_super_init (X:=fun c _ H=>X c H) (KFl:=fun fl m' H'=>fl=.next∧m'=_∧∃ t',H'=H.put x (.obj (Obj.mapFields (·.setIfInBounds 0 t') (newX C t)))) O hfu (lk1 hL (fun _=>rfl)) rfl hco (lk1 hL (fun _=>rfl)) rfl (by rw [hL.prog];rfl) hce (lk1 hL (fun _=>rfl)) (D:=41) (by rw [hL.K];rfl) hcd hE hF hp1 (by exact lk_mem rfl) (by exact lk_mem rfl) (by exact lk_mem rfl) hx rfl rfl rfl hm1 hm2 hm3 hm4 (fun t'=>⟨rfl,rfl,t',rfl⟩) (by with_unfolding_all rfl) s mm M R) ?_ fun _ _ z=>z
 rintro fl s' yq2
 obtain ⟨m',H',mm',M',R',hfl,rfl,t',rfl⟩:=yq2
 obtain rfl:fl=.next:=by cases fl<;>first | rfl | cases hfl
 refine PySem.wpAt_of_wpAny ?_
 refine W.at' M' R' ?_
 show WS G S _ (fun fl _ H=>K (retV fl) H) (fun c _ H=>X c H) _ _
 repeat walk_at "m:s"
 refine set_exc HP.put_same rfl rfl rfl hm5 fun d=>?_
 rw [HP.put_put]
 repeat walk_at "m:s"
 exact k _ _ rfl rfl rfl
include hL in
set_option maxHeartbeats 2000000 in
theorem exc_c (r:Rm A stk (n+2)) {C:Addr}{msg e:Value}{kw:List (Str × Value)}(hC:C=41∨C=54) (hkw:(kw=[]∧e=.none)∨kw=([("errno",e)]:List (Str × Value)))
   (k:∀ a oe vs,H.o a=none→oe.cls=.ref C→oe.data=.fields vs→vs[1]? = some .none→K (.ref a) (H.put a (.obj oe))):Calls G A stk sv pr (.ref C) [msg] kw K X H:=by
 refine calls_sv r fun hne=>makeX (fI:=38) r.c (by rw [hL.K];rcases hC with rfl | rfl<;>rfl) (by rw [hL.K];rcases hC with rfl | rfl<;>rfl) (by rw [hL.K];rfl) hne (by rw [sizeLine_eq];simp) fun A' x t hA' hh hx=>?_
 refine pyInit_c hL (n:=n) (msg:=msg) (e:=e) ⟨hA',hh.trans r.hh,r.top⟩ hC (fun {oc od osl fd} hfd s rvs rkw X e1 e2=>?_) HP.put_same fun oe vs h1 h2 h3=>⟨rfl,by rw [HP.put_put];exact k x oe vs hx h1 h2 h3⟩
 refine xe23 (map_two e1) fun x' m' zq2 ex em=>?_
 obtain rfl:=zq2
 obtain rfl:=er_ref' ex
 have hfd':=(lk1 hL (fun _=>rfl)).symm.trans hfd
 cases hfd'
 rcases hkw with ⟨rfl,rfl⟩ | rfl
 · obtain rfl:=map_nil' e2
   exact ⟨[("self",.ref x),("msg",m'),("errno",.none)],kp_binds X (by rw [hL.K];intro S;rfl),by simp [em]⟩
 · refine xe23 (List.map_eq_cons_iff.mp e2) fun zq0 l zq2 q q2=>?_
   obtain ⟨nm,v⟩:=zq0
   obtain rfl:=zq2
   obtain rfl:=List.map_eq_nil_iff.mp q2
   simp only [Prod.mk.injEq] at q
   refine xe02 q fun zq0 zq1=>?_
   obtain rfl:=zq0
   obtain rfl:=zq1
   exact ⟨[("self",.ref x),("msg",m'),("errno",v)],kp_binds X (by rw [hL.K];intro S;rfl),by simp [em]⟩
end
end
section
theorem fst_inj {α:Type}{l:List (Int × α)}(hn:(l.map (·.1)).Nodup) {p q:Int × α}(hp:p∈l) (hq:q∈l) (e:p.1=q.1):p=q:=by
 induction l with
 | nil=>exact absurd hp List.not_mem_nil
 | cons a l ih=>
   rw [List.map_cons,List.nodup_cons] at hn
   rcases List.mem_cons.mp hp with h1 | h1
   · rcases List.mem_cons.mp hq with h2 | h2
     · rw [h1,h2]
     · exact absurd (by rw [← h1,e];exact List.mem_map_of_mem h2) hn.1
   · rcases List.mem_cons.mp hq with h2 | h2
     · exact absurd (by rw [← h2,← e];exact List.mem_map_of_mem h1) hn.1
     · exact ih hn.2 h1 h2
theorem kw_one {rkw:List (Str × Value)}{nm:Str}{v:Value}(h:rkw.map (fun p=>(p.1,er p.2))=[(nm,v)]):∃ w,rkw=[(nm,w)]∧er w=v:=by
 rcases rkw with _ | ⟨⟨n1,w1⟩,_ | ⟨_,_⟩⟩<;>simp only [List.map_cons,List.map_nil,List.cons.injEq,Prod.mk.injEq,and_true,reduceCtorEq,and_false] at h
 obtain ⟨rfl,h⟩:=h
 exact ⟨w1,rfl,h⟩
noncomputable def leB (b:Bool) (p q:Int × Value):Prop:=if b then q.1≤p.1 else p.1≤q.1
theorem sort_same {b:Bool}{kvs ss os:List (Int × Value)}(hn:(kvs.map (·.1)).Nodup) (h1:ss.Perm kvs) (h2:ss.Pairwise (leB b)) (h3:os.Perm kvs) (h4:os.Pairwise (leB b)):os=ss:=by
 refine List.Perm.eq_of_pairwise (le:=leB b) (fun p q hp hq a c=>?_) h4 h2 (h3.trans h1.symm)
 refine fst_inj hn (h3.mem_iff.mp hp) (h1.mem_iff.mp hq) ?_
 unfold leB at a c
 cases b<;>simp only [Bool.false_eq_true,if_false,if_true] at a c<;>lia
noncomputable def FLong (H:HP) (x dn d:Addr) (ep:Nat) (kvs:List (Int × Value)):Prop:=H.o x=some (.inst 624 dn)∧H.o dn=some (.ns [("lfn_entries",.ref d)])∧H.o d=some (.di ep kvs)
noncomputable abbrev lamPos:Pos:=⟨365,57,365,83⟩
noncomputable abbrev lamQual:Str:=("FATLongDirectoryEntry.get_entries" : Str) ++ ".<locals>." ++ "<lambda>"
section
variable {G:Glb}(hL:L1 G) {A:Around}{stk:List Env}{sv:Sv}{pr:Pr}{H:HP}{K X:KH}{n:Nat}
include hL in
set_option maxHeartbeats 4000000 in
theorem get_entries_c (r:Rm A stk (n+8)) {x dn d:Addr}{ep:Nat}{kvs ss:List (Int × Value)}{b:Bool}{kw:List (Str × Value)}{rows:List Addr}(hF:FLong H x dn d ep kvs) (h64:kvs.length<64) (hrow:∀ p∈kvs,rowOf H "LDIR_Ord" p) (hnd:(kvs.map (·.1)).Nodup)
   (hss:ss.Perm kvs) (hso:ss.Pairwise (leB b)) (hrows:ss.map (·.2)=rows.map Value.ref) (hl:LamOk 571 lamPos lamQual H) (hkw:(kw=[]∧b=false)∨kw=([("reverse",.bool b)]:List (Str × Value)))
   (k:∀ a g L env H',H.o L=none→H.o a=none→(∀ y co,H.o y=some co→H'.o y=some co)→LamOk 571 lamPos lamQual H'→GenIn G A stk H' a g L 571 env lamPos lamQual rows→K (.ref a) H'):Calls G A stk sv pr (.ref 576) [.ref x] kw K X H:=by
 refine enterG r ["self","reverse","_","e"] [("sorted",.builtin "sorted")] [("self",.ref x),("reverse",.bool b)] (ho:=lk1 hL (fun _=>rfl)) rfl (fun s rvs rkw X e1 e2=>?_) (by rw [hL.K];rfl) rfl (by rw [hL.tab];decide) (.loc .here (.loc (.next .here) .nil)) fun L a env mm nm qn hE hbL hHL hHa hne M=>?_
 · refine xe12 (map_one e1) fun x' zq1 ex=>?_
   obtain rfl:=zq1
   rcases hkw with ⟨rfl,rfl⟩ | rfl
   · obtain rfl:=map_nil' e2
     exact ⟨[("self",x'),("reverse",.bool false)],kp_binds X (by rw [hL.K];intro S;rfl),by simp [ex]⟩
   · refine xe12 (kw_one e2) fun v zq1 ev=>?_
     obtain rfl:=zq1
     exact ⟨[("self",x'),("reverse",v)],kp_binds X (by rw [hL.K];intro S;rfl),by simp [ex,ev]⟩
 have h571:∃ c,H.o 571=some (.obj c):=by rcases hl with h | ⟨_,_,_,_,h,_⟩<;>exact ⟨_,h⟩
 refine xe11 h571 fun c0 h571=>?_
 have hP1:(571:Addr)≠L:=fun q=>by rw [← q,h571] at hHL;cases hHL
 have hP2:a≠571:=fun q=>by rw [q,h571] at hHa;cases hHa
 have keep:∀ c y co,H.o y=some co→(genH H L a mm c nm qn).o y=some co:=fun c y co e=>HP.put_ne (fun q=>by rw [q,hHa] at e;cases e) (HP.put_ne (fun q=>by rw [q,hHL] at e;cases e) e)
 have lamK:∀ {H₁:HP},(∀ y co,H.o y=some co→H₁.o y=some co)→LamOk 571 lamPos lamQual H₁:=fun hk=>by
   rcases hl with h | ⟨c',oc,vs,t,h1,h2,h3,h4,h5⟩
   · exact .inl (hk _ _ h)
   · exact .inr ⟨c',oc,vs,t,hk _ _ h1,hk _ _ h2,h3,h4,h5⟩
 generalize hbody:([_]:List Stmt)=body
 refine k a H.g.size L env _ hHL hHa (keep _) (lamK (keep _)) ⟨⟨nm,qn,HP.put_same⟩,hne,hP2,⟨_,keep _ _ _ h571⟩,hP1,fun sv' pr' s R=>?_⟩
 refine ⟨.fresh (.func body env),by rw [R.gens];exact Array.getElem?_push_size ..,rfl,?_⟩
 have R₀:RelC G stk sv' pr' { genH H L a mm (.func body env) nm qn with g:=(s.setGen H.g.size .running).gens } (s.setGen H.g.size .running):=R.gen (bare_set (R.gens▸R.bare) _ rfl)
 have hLfr:(genH H L a mm (.func body env) nm qn).o L=some (.fr mm):=HP.put_ne (Ne.symm hne) HP.put_same
 have hHc:genHc (genH H L a mm (.func body env) nm qn) L 571 H.g.size=(({ genH H L a mm (.func body env) nm qn with g:=(s.setGen H.g.size .running).gens }:HP).del L).del 571:=by
   unfold genHc
   rw [← R.gens];rfl
 unfold gR gY
 rw [hHc]
 have hkd:env.scope.kind=.function:=by rw [hE]
 refine gen_fresh (A:=A.in1) r.hh R₀ hLfr hbL (keep _ _ _ h571) hP1 (by rw [hE]) (by rw [hE]) hkd (by rw [hE]) (by rw [hE];rfl) (by rw [hE];rfl) (by decide) (by intro _;with_unfolding_all rfl) M hbody.symm ?_
 clear hbody
 generalize hg0:(s.setGen H.g.size .running).gens=g0
 generalize hH0:({ genH H L a mm (.func body env) nm qn with g:=g0 }:HP)=H0
 have keep0:∀ y co,H.o y=some co→H0.o y=some co:=by rw [← hH0];exact keep _
 have keepL:∀ y co,H.o y=some co→(H0.del L).o y=some co:=fun y co e=>by
   rw [HP.del_ne (fun q=>by rw [q,hHL] at e;cases e)];exact keep0 y co e
 have O:(⟨A.in1.over (.func body env) [],env::stk,sv',pr',L,env⟩:Sit).Ok G:=by
   refine ⟨hkd,by rw [hE],by rw [hE],by rw [hE],?_,by rw [hE],env,stk,L,rfl,by rw [hE],by rw [hE]⟩
   show pushEnvs (Code.envs (.func body env)) (pushEnvs (envsOf (List.map Frame.where_ [])) A.frames)=some (env::stk)
   rw [r.c.frames];rfl
 have hhS:(⟨A.in1.over (.func body env) [],env::stk,sv',pr',L,env⟩:Sit).A.handled=none:=r.hh
 have hdS:(⟨A.in1.over (.func body env) [],env::stk,sv',pr',L,env⟩:Sit).A.depth+5<recursionLimit:=by
   have:=r.c.depth
   show A.depth+0+1+5<recursionLimit
   exact Nat.lt_of_le_of_lt (show A.depth+0+1+5≤900 by lia) (by decide)
 have hcodeS:env.code=.ref 575:=by rw [hE]
 generalize hS:(⟨A.in1.over (.func body env) [],env::stk,sv',pr',L,env⟩:Sit)=S at O hhS hdS ⊢
 have hSe:S.env=env:=by rw [← hS]
 have hSq:S.env.qual=("FATLongDirectoryEntry.get_entries" : Str) ++ ".<locals>.":=by rw [hSe,hE]
 have hdL:(H0.del L).g=g0:=by rw [← hH0];rfl
 dsimp only [mkM,List.map,List.append_eq,List.cons_append,List.nil_append,List.map_cons,List.map_nil]
 repeat walk_at "m:s"
 refine g_own (keepL _ _ hF.1) (keepL _ _ hF.2.1) (by with_reducible repeat first | exact List.mem_cons_self | apply List.mem_cons_of_mem) (by rw [hL.K];rfl) rfl ?_
 repeat walk_at "m:s"
 refine met_di (keepL _ _ hF.2.2) PySem.F.slot_dict_items PySem.F.type_dict_items ?_
 repeat walk_at "m:s"
 refine ⟨keepsB,f_items (keepL _ _ hF.2.2) fun v hv=>?_⟩
 have keepV:∀ y co,H.o y=some co→((H0.del L).put v (.obj (viewObj "dict_items" d))).o y=some co:=fun y co e=>HP.put_fresh hv (keepL y co e)
 repeat walk_at "m:s"
 try walk_at "m:0"
 refine e_lam (P:=571) (name:="") O (by rw [hSe];exact hcodeS) (by rw [hL.K];rfl) rfl rfl (by rw [hSq];exact lamK keepV) fun H₁ q c' pm ctv oc vs t hk1 hg1 hq0 hq1 hP1' hc1 hcd hcq hcP=>?_
 repeat walk_at "m:s"
 have ne571:∀ {y co},H.o y=some co→(∀ ob,co≠.obj ob)→y≠571:=fun e hc q=>by
   rw [q,h571] at e;cases e;exact hc _ rfl
 have hv571:v≠571:=fun q=>by rw [q,keepL _ _ h571] at hv;cases hv
 have keep1:∀ y co,y≠571→H.o y=some co→H₁.o y=some co:=fun y co hy e=>hk1 y co hy (keepV y co e)
 have hsub1:∀ y co,((H0.del L).del 571).o y=some co→H₁.o y=some co:=fun y co e=>by
   refine xe02 (HP.del_some e) fun e hy=>?_
   exact hk1 y co hy (HP.put_fresh hv e)
 have hnone:∀ {y},H₁.o y=none→((H0.del L).del 571).o y=none:=fun {y} e=>by
   cases z:((H0.del L).del 571).o y with
   | none=>rfl
   | some co=>rw [hsub1 _ _ z] at e;cases e
 refine ⟨keepsB,f_sorted (kvs:=kvs) (b:=b) (y:="LDIR_Ord") (x:="x") hhS hdS (hk1 _ _ hv571 HP.put_same) (keep1 _ _ (ne571 hF.2.2 (by intro ob;exact CO.noConfusion)) hF.2.2) h64 (fun p hp=>?_) hq1 hc1 hcd hcq (by intro v;rfl) rfl rfl rfl (by decide) rfl (by decide) fun D H₂ outs hk2 hg2 hD0 hD hout hperm hord hnd2=>?_⟩
 · refine xe33 (hrow p hp) fun r ep' rk e1 e2 e3=>?_
   exact ⟨r,ep',rk,e1,keep1 _ _ (ne571 e2 (by intro ob;exact CO.noConfusion)) e2,e3⟩
 · have hsame:outs.map (·.1)=ss:=sort_same hnd hss hso hperm (by rw [List.pairwise_map];exact hord)
   have hlen:outs.length=rows.length:=by
     have h1:=congrArg List.length hsame
     have h2:=congrArg List.length hrows
     simp only [List.length_map] at h1 h2
     lia
   refine ⟨D,outs.map (·.2),rfl,by rw [hD,List.map_map];rfl,by rw [List.length_map];exact hlen,fun j T r hT hr=>?_,hnone hD0,fun T hT=>?_,⟨?_,fun y co e=>hk2 _ _ (hsub1 y co e)⟩,c',oc,vs,t,hk2 _ _ hP1',hk2 _ _ hc1,hcd,by rw [hcq,hSq],hcP,?_⟩
   · rw [List.getElem?_map] at hT
     refine xe12 (Option.map_eq_some_iff.mp hT) fun o ho zq2=>?_
     obtain rfl:=zq2
     have h1:ss[j]? = some o.1:=by rw [← hsame,List.getElem?_map,ho];rfl
     have h2:(ss.map (·.2))[j]? = some o.1.2:=by rw [List.getElem?_map,h1];rfl
     rw [hrows,List.getElem?_map,hr] at h2
     have h3:o.1.2=.ref r:=by simpa using h2.symm
     have h4:=(hout o (List.mem_of_getElem? ho)).2.1
     rw [h3] at h4
     exact ⟨o.1.1,h4⟩
   · refine xe12 (List.mem_map.mp hT) fun o ho zq2=>?_
     obtain rfl:=zq2
     exact ⟨hnone (hout o ho).1,_,(hout o ho).2.1⟩
   · rw [hg2,hg1];rfl
   · cases z:((H0.del L).del 571).o c' with
     | none=>exact .inr rfl
     | some co=>
       have:=hsub1 _ _ z
       rw [hc1] at this;cases this
       exact .inl rfl
end
end
section
noncomputable def nmC41 (p0:Option Value) (p1:Option Value) (p2:Option Value):Names:=[("self",.loc p0),("chksum",.loc p1),("c",.loc p2),("init_check",.glo (.ref 140))]
theorem bitOr_nn {a b:Int}(ha:0≤a) (hb:0≤b):0≤Builtin.bitOr a b:=by
 rw [bitOr_and,bitAnd_pp ha hb]
 have:a.toNat &&& b.toNat≤a.toNat:=Nat.and_le_left
 exact Int.sub_nonneg_of_le (Int.le_trans (Int.ofNat_le.mpr this) (Int.le_trans (Int.le_of_eq (Int.toNat_of_nonneg ha)) (Int.le_add_of_nonneg_right hb)))
noncomputable def E83 (H:HP) (x d:Addr) (nm:Value) (b:Bool):Prop:=H.o x=some (.inst 259 d)∧H.o d=some (.ns [("name",nm),("encoding",.str "latin-1" 0),("initialized",.bool b)])
section
variable {G:Glb}(hL:L1 G) {A:Around}{stk:List Env}{sv:Sv}{pr:Pr}{H:HP}{K X:KH}{n:Nat}
include hL
set_option maxHeartbeats 2000000 in
theorem e83_init_c (r:Rm A stk (n+1)) {x d:Addr}(hx:H.o x=some (.inst 259 d)) (hd:H.o d=some (.ns [])) (k:K .none (H.put d (.ns [("name",.none),("encoding",.str "latin-1" 0),("initialized",.bool false)]))):Calls G A stk sv pr (.ref 156) [.ref x] [] K X H:=by
 refine enterN r ["self","encoding"] [] [("self",.ref x),("encoding",.str "latin-1" 0)] (ho:=lk1 hL (fun _=>rfl)) rfl (fun s rvs rkw X e1 e2=>?_) (by rw [hL.K];rfl) rfl (by rw [hL.tab];decide) (.loc .here (.loc (.next .here) .nil)) fun S O r=>?_
 · refine xe12 (map_one e1) fun x' zq1 ex=>?_
   obtain rfl:=zq1
   obtain rfl:=map_nil' e2
   exact ⟨[("self",x'),("encoding",.str "latin-1" _)],kp_binds X (by rw [hL.K];intro S;rfl),by simp [ex]⟩
 dsimp only [mkM,List.map,List.append_eq,List.cons_append,List.nil_append,List.map_cons,List.map_nil]
 have hne:x≠d:=fun q=>by rw [q,hd] at hx;cases hx
 repeat walk_at "m:s"
 refine set_new hx hd (by rw [hL.K];rfl) rfl (by decide) ?_
 repeat walk_at "m:s"
 refine set_new (HP.put_ne hne hx) HP.put_same (by rw [hL.K];rfl) rfl (by decide) ?_
 rw [HP.put_put]
 repeat walk_at "m:s"
 refine set_new (HP.put_ne hne hx) HP.put_same (by rw [hL.K];rfl) rfl (by decide) ?_
 rw [HP.put_put]
 repeat walk_at "m:s"
 exact k
set_option maxHeartbeats 2000000 in
theorem e83_make_c (r:Rm A stk (n+2)) (k:∀ x d,H.o x=none→H.o d=none→x≠d→K (.ref x) (((H.put d (.ns [])).put x (.inst 259 d)).put d (.ns [("name",.none),("encoding",.str "latin-1" 0),("initialized",.bool false)]))):Calls G A stk sv pr (.ref 259) [] [] K X H:=by
 refine calls_sv r fun hne=>makeI (fI:=156) r.c (by rw [hL.K];rfl) (by rw [hL.K];rfl) (by rw [hL.K];rfl) hne fun A' d x hA' hh hd hx hxd=>?_
 exact e83_init_c hL (n:=n) ⟨hA',hh.trans r.hh,r.top⟩ HP.put_same (HP.put_ne (Ne.symm hxd) HP.put_same) ⟨rfl,k x d hx hd hxd⟩
set_option maxHeartbeats 2000000 in
theorem init_check_c (r:Rm A stk (n+1)) {x d:Addr}{nm:Value}(hE:E83 H x d nm true) (k:K .none H):Calls G A stk sv pr (.ref 140) [.ref x] [] K X H:=by
 refine enterN r ["one"] [("PyFATException",.ref 41)] [("one",.ref x)] (ho:=lk1 hL (fun _=>rfl)) rfl (fun s rvs rkw X e1 e2=>?_) (by rw [hL.K];rfl) rfl (by rw [hL.tab];decide) (.loc .here .nil) fun S O r=>?_
 · refine xe12 (map_one e1) fun x' zq1 ex=>?_
   obtain rfl:=zq1
   obtain rfl:=map_nil' e2
   exact ⟨_,BindsTo.of_eq rfl,by simp [ex]⟩
 dsimp only [mkM,List.map,List.append_eq,List.cons_append,List.nil_append,List.map_cons,List.map_nil]
 repeat walk_at "m:s"
 refine g_own hE.1 hE.2 (v:=.bool true) (by with_reducible repeat first | exact List.mem_cons_self | apply List.mem_cons_of_mem) (by rw [hL.K];rfl) rfl ?_
 repeat walk_at "m:s"
 try refine if_f ?_
 repeat walk_at "m:s"
 exact k
end
noncomputable def chkStep (s c:Int):Int:=Builtin.bitAnd (Builtin.bitOr (s / 2 ^ (1:Int).toNat) (Builtin.bitAnd s 1 * 2 ^ (7:Int).toNat)+c) 255
noncomputable def chk (l:List UInt8):Int:=l.foldl (fun s c=>chkStep s (c.toNat:Int)) 0
theorem chkStep_lt {s c:Int}(h0:0≤s) (h1:0≤c):0≤chkStep s c∧chkStep s c<256:=by
 unfold chkStep
 have ha:Builtin.bitAnd s 1=s % 2:=and_mask h0 1
 have e7:(2:Int) ^ (7:Int).toNat=128:=by decide
 have e1:(2:Int) ^ (1:Int).toNat=2:=by decide
 have ho:0≤Builtin.bitOr (s / 2 ^ (1:Int).toNat) (Builtin.bitAnd s 1 * 2 ^ (7:Int).toNat):=bitOr_nn (by rw [e1];exact Int.ediv_nonneg h0 (by decide)) (by rw [ha,e7];exact Int.mul_nonneg (Int.emod_nonneg _ (by decide)) (by decide))
 have:=and_mask (a:=Builtin.bitOr (s / 2 ^ (1:Int).toNat) (Builtin.bitAnd s 1 * 2 ^ (7:Int).toNat)+c) (Int.add_nonneg ho h1) 8
 have e8:(2:Int) ^ 8 - 1=255:=by decide
 rw [e8] at this
 rw [this]
 have:(2:Int) ^ 8=256:=by decide
 exact ⟨Int.emod_nonneg _ (by decide +kernel),Int.emod_lt_of_pos _ (by decide +kernel)⟩
theorem chk_lt:∀ (l:List UInt8) (s:Int),0≤s→s<256→0≤l.foldl (fun s c=>chkStep s (c.toNat:Int)) s∧l.foldl (fun s c=>chkStep s (c.toNat:Int)) s<256
 | [],s,h0,h1=>⟨h0,h1⟩
 | c::l,s,h0,h1=>chk_lt l _ (chkStep_lt h0 (Int.natCast_nonneg _)).1 (chkStep_lt h0 (Int.natCast_nonneg _)).2
section
variable {G:Glb}(hL:L1 G) {A:Around}{stk:List Env}{sv:Sv}{pr:Pr}{H:HP}{K X:KH}{n:Nat}
include hL
set_option maxHeartbeats 2000000 in
theorem checksum_c (r:Rm A stk (n+2)) {x d a:Addr}{b:Array UInt8}(hE:E83 H x d (.ref a) true) (ha:H.o a=some (.bar b)) (hz:b.size≤sizeLine) (k:K (.int (chk b.toList) 0) H):Calls G A stk sv pr (.ref 215) [.ref x] [] K X H:=by
 refine enterN r ["self","chksum","c"] [("init_check",.ref 140)] [("self",.ref x)] (ho:=lk1 hL (fun _=>rfl)) rfl (fun s rvs rkw X e1 e2=>?_) (by rw [hL.K];rfl) rfl (by rw [hL.tab];decide) (.loc .here .nil) fun S O r=>?_
 · refine xe12 (map_one e1) fun x' zq1 ex=>?_
   obtain rfl:=zq1
   obtain rfl:=map_nil' e2
   exact ⟨_,BindsTo.of_eq rfl,by simp [ex]⟩
 dsimp only [mkM,List.map,List.append_eq,List.cons_append,List.nil_append,List.map_cons,List.map_nil]
 repeat walk_at "m:s"
 refine ⟨keepsK (by rw [hL.K];rfl),calc_of fun sv=>init_check_c hL r hE ?_⟩
 repeat walk_at "m:s"
 try walk_at "m:0"
 refine x_for O r.hh ?_
 repeat walk_at "m:s"
 refine g_own hE.1 hE.2 (v:=.ref a) (by with_reducible repeat first | exact List.mem_cons_self | apply List.mem_cons_of_mem) (by rw [hL.K];rfl) rfl ?_
 refine ⟨_,_,_,_,itBar,ha,fun i m' H'=>H'=H∧∃ o1,m'=(nmC41 (some (.ref x)) (some (.int (chk (b.toList.take i)) 0)) o1),?_,?_,?_⟩
 · exact ⟨rfl,none,rfl⟩
 · rintro pr i m' _ hi - yq6
   obtain ⟨rfl,o1,rfl⟩:=yq6
   have O:=O.guard pr
   have hs:=chk_lt (b.toList.take i) 0 (by decide) (by decide)
   have hc:chk (b.toList.take i)=(b.toList.take i).foldl (fun s c=>chkStep s (c.toNat:Int)) 0:=rfl
   rw [← hc] at hs
   have hi':i<b.toList.length:=by simpa using hi
   have hn:chk (b.toList.take (i+1))=chkStep (chk (b.toList.take i)) ((b.toList.getD i 0).toNat:Int):=by
     unfold chk
     rw [take_next b.toList 0 hi',List.foldl_append];rfl
   have ha1:Builtin.bitAnd (chk (b.toList.take i)) 1=chk (b.toList.take i) % 2:=and_mask hs.1 1
   repeat walk_at "m:s"
   refine b_rshift (by decide) ?_
   repeat walk_at "m:s"
   refine b_lshift (by decide) (by decide) (by rw [ha1];exact Int.ofNat_lt.mp (by rw [Int.natAbs_of_nonneg (Int.emod_nonneg _ (by decide))];exact Int.lt_trans (Int.emod_lt_of_pos _ (by decide)) (by decide))) ?_
   repeat walk_at "m:s"
   repeat walk_at "m:s"
   exact ⟨ha,rfl,some (byt1 b i),by rw [hn];rfl⟩
 · rintro m' _ - yq3
   obtain ⟨rfl,o1,rfl⟩:=yq3
   repeat walk_at "m:s"
   rw [List.take_of_length_le (by simp)]
   exact k
end
end
section
section
variable {G:Glb}(hL:L1 G) {A:Around}{stk:List Env}{sv:Sv}{pr:Pr}{H:HP}{K X:KH}{n:Nat}
include hL
set_option maxHeartbeats 2000000 in
theorem set_name_c (r:Rm A stk (n+1)) {x d a:Addr}{b:Array UInt8}{v:Value}{i:Bool}(hE:E83 H x d v i) (ha:H.o a=some (.bar b)) (hz:b.size=11) (k:K .none (H.put d (.ns [("name",.ref a),("encoding",.str "latin-1" 0),("initialized",.bool true)]))):Calls G A stk sv pr (.ref 194) [.ref x,.ref a] [] K X H:=by
 refine enterN r ["self","name"] [("len",.builtin "len"),("decoded",.ref 114)] [("self",.ref x),("name",.ref a)] (ho:=lk1 hL (fun _=>rfl)) rfl (fun s rvs rkw X e1 e2=>?_) (by rw [hL.K];rfl) rfl (by rw [hL.tab];decide) (.loc .here (.loc (.next .here) .nil)) fun S O r=>?_
 · refine xe23 (map_two e1) fun x' y' zq2 ex ey=>?_
   obtain rfl:=zq2
   obtain rfl:=map_nil' e2
   exact ⟨[("self",x'),("name",y')],BindsTo.of_eq rfl,by simp [ex,ey]⟩
 dsimp only [mkM,List.map,List.append_eq,List.cons_append,List.nil_append,List.map_cons,List.map_nil]
 have hne:x≠d:=fun q=>by
   have h1:=hE.1;have h2:=hE.2
   rw [q,h2] at h1;cases h1
 repeat walk_at "m:s"
 refine ⟨keepsB,f_len_bar ha (by rw [hz,sizeLine_eq];simp) ?_⟩
 repeat walk_at "m:s"
 refine if_no (by rw [hz];simp) ?_
 repeat walk_at "m:s"
 refine set_old hE.1 hE.2 (by rw [hL.K];rfl) .here (Nat.le_of_ble_eq_true rfl) ?_
 repeat walk_at "m:s"
 refine set_old (HP.put_ne hne hE.1) HP.put_same (by rw [hL.K];rfl) (.next (.next .here)) (Nat.le_of_ble_eq_true rfl) ?_
 rw [HP.put_put]
 repeat walk_at "m:s"
 exact k
set_option maxHeartbeats 2000000 in
theorem set_byte_name_c (r:Rm A stk (n+2)) {x d:Addr}{b:Array UInt8}{v:Value}{i:Bool}(hE:E83 H x d v i) (hz:b.size=11) (h0:((b.toList.getD 0 0).toNat:Int)≠0) (h1:((b.toList.getD 0 0).toNat:Int)≠229)
   (k:∀ a,H.o a=none→K .none ((H.put a (.bar b)).put d (.ns [("name",.ref a),("encoding",.str "latin-1" 0),("initialized",.bool true)]))):CallsN G A stk sv pr (.ref 201) [.ref x,.bytes b 0] [] K X H:=by
 have hs:b.size≤sizeLine:=by rw [hz,sizeLine_eq];simp
 refine enterP r.c r.hh ["self","name"] [("isinstance",.builtin "isinstance"),("bytes",.type "bytes"),("bytearray",.type "bytearray"),("len",.builtin "len")] [("self",.ref x),("name",.bytes b 0)] (ho:=lk1 hL (fun _=>rfl)) rfl (fun s rvs rkw X e1 e2=>?_) (by rw [hL.K];rfl) (fun s R=>big_of r.top R) rfl (by rw [hL.tab];decide) (.loc .here (.loc (.next .here) .nil)) fun S O r=>?_
 · refine xe23 (map_two e1) fun x' y' zq2 ex ey=>?_
   obtain rfl:=zq2
   obtain rfl:=map_nil' e2
   exact ⟨[("self",x'),("name",y')],BindsTo.of_eq rfl,by simp [ex,ey]⟩
 dsimp only [mkM,List.map,List.append_eq,List.cons_append,List.nil_append,List.map_cons,List.map_nil]
 refine sN_consW ?_
 refine vX_in (by assumption) ?_;repeat walk_at "m:s"
 repeat walk_at "m:s"
 refine ⟨keepsB,f_isi_by ?_⟩
 repeat walk_at "m:s"
 try refine if_f ?_
 repeat walk_at "m:s"
 refine vS_nil (seqN_next ?_)
 refine sN_cons (xN_asg (eN_call ?_))
 refine e_glo (by assumption) (by exact lk_mem rfl) (wl_cons (e_loc (by assumption) (by exact lk_mem rfl) (wl_nil (wk_nil ?_))))
 refine ⟨keepsT,f_bytearray hs fun a ha=>?_⟩
 have hE':E83 (H.put a (.bar b)) x d v i:=⟨HP.put_fresh ha hE.1,HP.put_fresh ha hE.2⟩
 repeat walk_at "m:s"
 refine (show WNS G S _ (fun fl _ H=>K (retV fl) H) (fun c _ H=>X c H) _ _ from WN.of ?_)
 show WS G S _ (fun fl _ H=>K (retV fl) H) (fun c _ H=>X c H) _ _
 repeat walk_at "m:s"
 refine ⟨keepsB,f_len_bar HP.put_same hs ?_⟩
 repeat walk_at "m:s"
 refine if_no (by rw [hz];simp) ?_
 repeat walk_at "m:s"
 refine it_bar HP.put_same (by simp) (by rw [hz];simp) hs ?_
 repeat walk_at "m:s"
 repeat walk_at "m:s"
 refine if_no h0 ?_
 repeat walk_at "m:s"
 refine it_bar HP.put_same (by simp) (by rw [hz];simp) hs ?_
 repeat walk_at "m:s"
 repeat walk_at "m:s"
 refine if_no h1 ?_
 repeat walk_at "m:s"
 refine m_inst (f:=194) hE'.1 hE'.2 rfl (by rw [hL.K];rfl) ?_
 repeat walk_at "m:s"
 refine ⟨keepsK (by rw [hL.K];rfl),calc_of fun sv=>set_name_c hL r hE' HP.put_same hz ?_⟩
 repeat walk_at "m:s"
 exact k a ha
set_option maxHeartbeats 2000000 in
theorem as_bytes83_c (r:Rm A stk (n+1)) {x d a:Addr}{b:Array UInt8}{i:Bool}(hE:E83 H x d (.ref a) i) (ha:H.o a=some (.bar b)) (hz:b.size≤sizeLine) (k:K (.bytes b 0) H):Calls G A stk sv pr (.ref 170) [.ref x] [] K X H:=by
 refine enterN r ["self"] [("bytes",.type "bytes")] [("self",.ref x)] (ho:=lk1 hL (fun _=>rfl)) rfl (fun s rvs rkw X e1 e2=>?_) (by rw [hL.K];rfl) rfl (by rw [hL.tab];decide) (.loc .here .nil) fun S O r=>?_
 · refine xe12 (map_one e1) fun x' zq1 ex=>?_
   obtain rfl:=zq1
   obtain rfl:=map_nil' e2
   exact ⟨[("self",x')],BindsTo.of_eq rfl,by simp [ex]⟩
 dsimp only [mkM,List.map,List.append_eq,List.cons_append,List.nil_append,List.map_cons,List.map_nil]
 repeat walk_at "m:s"
 refine g_own hE.1 hE.2 (v:=.ref a) (by with_reducible repeat first | exact List.mem_cons_self | apply List.mem_cons_of_mem) (by rw [hL.K];rfl) rfl ?_
 repeat walk_at "m:s"
 refine ⟨keepsT,f_bytes_bar ha hz ?_⟩
 repeat walk_at "m:s"
 exact k
end
end
section
noncomputable def nmC61 (p0:Option Value) (p1:Option Value) (p2:Option Value):Names:=[("name",.loc p0),("encoding",.loc p1),("c",.loc p2),("encoded",.glo (.ref 109)),("EightDotThree",.glo (.ref 259)),("ValueError",.glo (.type "ValueError"))]
noncomputable def cpI (l:List Nat):List Int:=l.map fun (c:Nat)=>(c:Int)
theorem cpI_next (l:List Nat) {i:Nat}(h:i<l.length):cpI (l.take (i+1))=cpI (l.take i)++[((l.getD i 0:Nat):Int)]:=by
 rw [take_next l 0 h];simp [cpI]
inductive IvC60 (H:HP) (x:Str) (i:Nat) (ys:List Value) (m':Names) (H':HP):Prop
 | mk:(H'=H)→(ys=intL (cpI (x.cps.toList.take i)))→∀ o1,(m'=([("c",.loc o1),("ord",.glo (.builtin "ord"))]:Names))→IvC60 H x i ys m' H'
section
variable {G:Glb}(hL:L1 G) {A:Around}{stk:List Env}{sv:Sv}{pr:Pr}{H:HP}{K X:KH}{n:Nat}
include hL
set_option maxHeartbeats 2000000 in
theorem encoded_c (r:Rm A stk (n+1)) {x:Str}(hz:x.length≤1000000) (k:(∀ c∈x.cps.toList,c<256)→K (.bytes (byteArr (cpI x.cps.toList)) 0) H) (kx:(∃ c∈x.cps.toList,256≤c)→X (.type "ValueError") H):Calls G A stk sv pr (.ref 109) [.str x 0] [] K X H:=by
 refine calls_sub ?_
 refine enterN r ["text"] [("bytes",.type "bytes")] [("text",.str x 0)] (ho:=lk1 hL (fun _=>rfl)) rfl (fun s rvs rkw X e1 e2=>?_) (by rw [hL.K];rfl) rfl (by rw [hL.tab];decide) (.loc .here .nil) fun S O r=>?_
 · refine xe12 (map_one e1) fun x' zq1 ex=>?_
   obtain rfl:=zq1
   obtain rfl:=map_nil' e2
   exact ⟨[("text",x')],BindsTo.of_eq rfl,by simp [ex]⟩
 dsimp only [mkM,List.map,List.append_eq,List.cons_append,List.nil_append,List.map_cons,List.map_nil]
 repeat walk_at "m:s"
 have hl:x.cps.toList.length=x.length:=Array.length_toList
 repeat walk_at "m:s"
 try walk_at "m:0"
 refine e_comp1 O r.hh ⟨rfl,rfl,rfl,rfl⟩ ?_
 repeat walk_at "m:s"
 refine ⟨[],["c"],[("ord",.builtin "ord")],(by repeat first | exact Clos.nil | refine Clos.skip (by decide) ?_ | refine Clos.free (lk_mem rfl) ?_),rfl,by rw [hL.tab];decide,_,_,_,_,itStr,trivial,(IvC60 H x),?_,?_,?_⟩
 · exact ⟨rfl,rfl,none,rfl⟩
 · rintro mm C pr i ys m' _ O hi - yq10
   obtain ⟨rfl,rfl,o1,rfl⟩:=yq10
   have hi':i<x.cps.toList.length:=by simpa using hi
   repeat walk_at "m:s"
   refine And.intro (by rw [sizeLine_eq,intL_len];simp only [cpI,List.length_map,List.length_take];exact Nat.le_trans (Nat.min_le_right _ _) (Nat.le_trans (Nat.le_of_eq Array.length_toList) (Nat.le_trans (by assumption) (by decide +kernel)))) ?_
   repeat walk_at "m:s"
   refine ⟨keepsB,f_ord ⟨trivial,rfl,?_,_,rfl⟩⟩
   rw [cpI_next _ hi',intL_snoc]
 · rintro ys m' _ - yq4 D hD
   obtain ⟨rfl,rfl,o1,rfl⟩:=yq4
   rw [List.take_of_length_le (by simp)]
   repeat walk_at "m:s"
   have hz2:(cpI x.cps.toList).length≤sizeLine:=by rw [sizeLine_eq];simp only [cpI,List.length_map];exact Nat.le_trans (by assumption) (by decide +kernel)
   by_cases hb:∀ c∈x.cps.toList,c<256
   · refine ⟨keepsT,f_bytes r.hh HP.put_same (fun i hi=>?_) hz2 ?_⟩
     · refine xe12 (List.mem_map.mp hi) fun c hc zq2=>?_
       obtain rfl:=zq2
       exact ⟨Int.natCast_nonneg _,Int.ofNat_lt.mpr (hb c hc)⟩
     · repeat walk_at "m:s"
       exact ⟨_,Sub.put hD,k hb⟩
   · have hb':∃ c∈x.cps.toList,256≤c:=by
       apply Classical.byContradiction
       intro hn
       exact hb fun c hc=>Nat.lt_of_not_le fun h=>hn ⟨c,hc,h⟩
     refine xe12 hb' fun c hc h256=>?_
     refine ⟨keepsT,f_bytes_bad r.hh HP.put_same (fun i hi=>?_) ⟨(c:Int),List.mem_map_of_mem hc,by exact Int.ofNat_le.mpr (by assumption)⟩ hz2 ⟨_,Sub.put hD,kx ⟨c,hc,h256⟩⟩⟩
     refine xe12 (List.mem_map.mp hi) fun c hc zq2=>?_
     obtain rfl:=zq2
     exact Int.natCast_nonneg _
end
noncomputable def invalid83:List Int:=[34,42,43,44,46,47,58,59,60,61,62,63,91,92,93,124]
theorem byt1_cp {l:List Nat}{i:Nat}(hi:i<l.length) (hb:∀ c∈l,c<256):byt1 (byteArr (cpI l)) i=.int ((l.getD i 0:Nat):Int) 0:=by
 unfold byt1 byteArr cpI
 have h1:l.getD i 0=l[i]:=by simp [List.getD,hi]
 have h2:=hb _ (List.getElem_mem hi)
 simp [List.getD,hi,h1]
 exact Int.emod_eq_of_lt (Int.natCast_nonneg _) (Int.ofNat_lt.mpr h2)
noncomputable def badCh (l:List Nat):Prop:=∃ c∈l,256≤c∨(c:Int)∈invalid83
section
variable {G:Glb}(hL:L1 G) {A:Around}{stk:List Env}{sv:Sv}{pr:Pr}{H:HP}{K X:KH}{n:Nat}
include hL
set_option maxHeartbeats 2000000 in
theorem check_c (r:Rm A stk (n+2)) {x enc:Str}(hz:x.length≤1000000) (k:¬ badCh x.cps.toList→K .none H) (kx:badCh x.cps.toList→X (.type "ValueError") H):Calls G A stk sv pr (.ref 222) [.str x 0] [("encoding",.str enc 0)] K X H:=by
 refine calls_sub ?_
 refine enterN r ["name","encoding","c"] [("encoded",.ref 109),("EightDotThree",.ref 259),("ValueError",.type "ValueError")] [("name",.str x 0),("encoding",.str enc 0)] (ho:=lk1 hL (fun _=>rfl)) rfl (fun s rvs rkw X e1 e2=>?_) (by rw [hL.K];rfl) rfl (by rw [hL.tab];decide) (.loc .here (.loc (.next .here) .nil)) fun S O r=>?_
 · refine xe12 (map_one e1) fun x' zq1 ex=>?_
   obtain rfl:=zq1
   refine xe12 (kw_one e2) fun v zq1 ev=>?_
   obtain rfl:=zq1
   exact ⟨[("name",x'),("encoding",v)],kp_binds X (by rw [hL.K];intro S;rfl),by simp [ex,ev]⟩
 dsimp only [mkM,List.map,List.append_eq,List.cons_append,List.nil_append,List.map_cons,List.map_nil]
 repeat walk_at "m:s"
 try walk_at "m:0"
 refine x_for O r.hh ?_
 repeat walk_at "m:s"
 refine ⟨keepsK (by rw [hL.K];rfl),calc_of fun sv=>encoded_c hL r hz (fun hb=>?_) fun ⟨c,hc,h⟩=>⟨H,Sub.refl _,kx ⟨c,hc,.inl h⟩⟩⟩
 have hl:x.cps.toList.length=x.length:=Array.length_toList
 refine ⟨_,_,_,_,itBytes,trivial,fun i m' H'=>H'=H∧(∀ c∈x.cps.toList.take i,(c:Int)∉invalid83)∧∃ o1,m'=(nmC61 (some (.str x 0)) (some (.str enc 0)) o1),?_,?_,?_⟩
 · exact ⟨rfl,fun c hc=>by simp at hc,none,rfl⟩
 · rintro pr i m' H₁ hi - yq6
   obtain ⟨rfl,hok,o1,rfl⟩:=yq6
   have O:=O.guard pr
   have hi':i<x.cps.toList.length:=by
     have:(byteArr (cpI x.cps.toList)).size=x.cps.toList.length:=by rw [byteArr_size];simp only [cpI,List.length_map]
     exact this▸hi
   rw [byt1_cp hi' hb]
   have hm:x.cps.toList.getD i 0∈x.cps.toList:=getD_of_all (P:=fun c=>c∈x.cps.toList) (fun c hc=>hc) hi'
   repeat walk_at "m:s"
   refine g_cval (a:=.ref 148) (by rw [hL.K];rfl) ?_
   repeat walk_at "m:s"
   refine c_in_K (l:=148) (ns:=invalid83) (lk1 hL (fun _=>rfl)) ?_ ?_
   · exact .cons _ _ (.cons _ _ (.cons _ _ (.cons _ _ (.cons _ _ (.cons _ _ (.cons _ _ (.cons _ _ (.cons _ _ (.cons _ _ (.cons _ _ (.cons _ _ (.cons _ _ (.cons _ _ (.cons _ _ (.cons _ _ .nil)))))))))))))))
   have hany:invalid83.any (·==((x.cps.toList.getD i 0:Nat):Int))=true↔((x.cps.toList.getD i 0:Nat):Int)∈invalid83:=by
     rw [List.any_eq_true];simp
   repeat walk_at "m:s"
   refine if_b (fun hin=>?_) (fun hin=>?_)
   · repeat walk_at "m:s"
     try walk_at "m:0"
     refine x_raise r.hh excCls_ValueError ?_
     repeat walk_at "m:s"
     refine ⟨keepsT,f_exc excClass_ValueError fun a oe vs ha h1 h2 h3=>⟨a,_,oe,vs,rfl,ha,rfl,h1,h2,h3,H₁,Sub.refl _,kx ⟨_,hm,.inr (hany.mp hin)⟩⟩⟩
   · repeat walk_at "m:s"
     refine ⟨trivial,rfl,fun c hc=>?_,_,rfl⟩
     rw [take_next _ 0 hi',List.mem_append,List.mem_singleton] at hc
     rcases hc with hc | rfl
     · exact hok c hc
     · intro hc
       rw [hany.mpr hc] at hin;cases hin
 · rintro m' H₁ - yq3
   obtain ⟨rfl,hok,o1,rfl⟩:=yq3
   repeat walk_at "m:s"
   refine ⟨H₁,Sub.refl _,k ?_⟩
   rintro ⟨c,hc,h | h⟩
   · exact absurd (hb c hc) (Nat.not_lt.mpr h)
   · refine hok c ?_ h
     rw [List.take_of_length_le (by rw [byteArr_size];simp [cpI])]
     exact hc
end
end
section
noncomputable def nmC71 (p0:Option Value) (p1:Option Value) (p2:Option Value) (p3:Option Value):Names:=[("path",.loc p0),("dot",.loc p1),("start",.loc p2),("k",.loc p3),("range",.glo (.type "range"))]
theorem one_char {c d:Nat}{x:String}(h:Str.ofString x=⟨#[d]⟩):((⟨#[c]⟩:Str)≠Str.ofString x)↔c≠d:=by
 rw [h]
 constructor
 · intro h e;exact h (by rw [e])
 · intro h e
   injection e with e
   have:=congrArg Array.toList e
   simp at this
   exact h this
noncomputable def mkS (l:List Nat):Str:=⟨l.toArray⟩
noncomputable def splE (l:List Nat) (dot:Int):List Nat × List Nat:=
 open Classical in if ∃ k:Nat,(k:Int)<dot∧l.getD k 0≠46 then (cut l none (some dot),cut l (some dot) none) else (l,[])
inductive IvC70 (H:HP) (l:List Nat) (dot:Int) (a:Addr) (t:Tok) (u:Tok) (v:Tok) (i:Nat) (m':Names) (H':HP):Prop
 | mk:(H'=H.put a (.obj (rngObj (-1+1) dot 1 t u v)))→((∀ k:Nat,k<i→l.getD k 0=46))→∀ o1,(m'=(nmC71 (some (.str (mkS l) 0)) (some (.int dot 0)) (some (.int (-1+1) 0)) o1))→IvC70 H l dot a t u v i m' H'
section
variable {G:Glb}(hL:L1 G) {A:Around}{stk:List Env}{sv:Sv}{pr:Pr}{H:HP}{K X:KH}{n:Nat}
include hL
set_option maxHeartbeats 2000000 in
theorem splitext_c (r:Rm A stk (n+1)) {l:List Nat}{dot:Int}(hz:l.length≤1000000) (hs:Txt.rfind (mkS l) "/" = -1) (hd:Txt.rfind (mkS l) "." = dot) (h1:dot<l.length) (h2:-1≤dot) (k:∀ t,H.o t=none→K (.ref t) (H.put t (.tup [.str (mkS (splE l dot).1) 0,.str (mkS (splE l dot).2) 0]))):Calls G A stk sv pr (.ref 133) [.str (mkS l) 0] [] K X H:=by
 refine calls_sub ?_
 refine enterN r ["path","dot","start","k"] [("range",.type "range")] [("path",.str (mkS l) 0)] (ho:=lk1 hL (fun _=>rfl)) rfl (fun s rvs rkw X e1 e2=>?_) (by rw [hL.K];rfl) rfl (by rw [hL.tab];decide) (.loc .here .nil) fun S O r=>?_
 · refine xe12 (map_one e1) fun x' zq1 ex=>?_
   obtain rfl:=zq1
   obtain rfl:=map_nil' e2
   exact ⟨[("path",x')],BindsTo.of_eq rfl,by simp [ex]⟩
 dsimp only [mkM,List.map,List.append_eq,List.cons_append,List.nil_append,List.map_cons,List.map_nil]
 repeat walk_at "m:s"
 refine met_s PySem.F.slot_str_rfind PySem.F.type_str_rfind ?_
 repeat walk_at "m:s"
 refine ⟨keepsB,f_rfind ?_⟩
 repeat walk_at "m:s"
 refine met_s PySem.F.slot_str_rfind PySem.F.type_str_rfind ?_
 repeat walk_at "m:s"
 refine ⟨keepsB,f_rfind ?_⟩
 rw [hs,hd]
 repeat walk_at "m:s"
 try walk_at "m:0"
 refine x_for O r.hh ?_
 repeat walk_at "m:s"
 refine ⟨keepsT,f_range2 fun a t u v ha=>?_⟩
 refine ⟨_,_,_,_,itRange ?_,HP.put_same,(IvC70 H l dot a t u v),?_,?_,?_⟩
 · exact small_one (by simp) (by simp) (by lia) (by lia)
 · exact ⟨rfl,fun k hk=>absurd hk (Nat.not_lt_zero _),none,rfl⟩
 · rintro pr i m' H₁ hi - yq6
   obtain ⟨rfl,hok,o1,rfl⟩:=yq6
   have O:=O.guard pr
   have hi2:(i:Int)<dot:=by
     rw [rangeSize_nat] at hi
     rw [show dot - (-1+1)=dot by simp] at hi
     exact Int.lt_toNat.mp hi
   repeat walk_at "m:s"
   refine it_str (by exact Int.natCast_nonneg _) (by show _<((mkS l).cps.size:Int);simp [mkS];lia) (by show (mkS l).cps.size≤_;rw [sizeLine_eq];simp [mkS];exact Nat.le_trans (by assumption) (by decide +kernel)) ?_
   repeat walk_at "m:s"
   have e:(mkS l).cps.toList.getD (-1+1+(i:Int) * 1).toNat 0=l.getD i 0:=by
     rw [show (-1+1+(i:Int) * 1).toNat=i by simp];rfl
   rw [e]
   repeat walk_at "m:s"
   have hdot:((⟨#[l.getD i 0]⟩:Str)≠Str.ofString ".")↔l.getD i 0≠46:=one_char (by decide)
   have hl:(mkS l).length=l.length:=by show l.toArray.size=_;simp
   repeat walk_at "m:s"
   refine if_bI (fun hne=>?_) (fun heq=>?_)
   · have hex:splE l dot=(cut l none (some dot),cut l (some dot) none):=by
       unfold splE;rw [if_pos ⟨i,hi2,hdot.mp hne⟩]
     rw [hex] at k
     repeat walk_at "m:s"
     refine sl_str (lo:=none) (hi:=some dot) (by rw [hl,sizeLine_eq];exact Nat.le_trans (by assumption) (by decide +kernel)) ?_
     repeat walk_at "m:s"
     refine sl_str (lo:=some dot) (hi:=none) (by rw [hl,sizeLine_eq];exact Nat.le_trans (by assumption) (by decide +kernel)) ?_
     repeat walk_at "m:s"
     refine ⟨by show 2≤sizeLine;decide,fun t ht=>?_⟩
     repeat walk_at "m:s"
     exact ⟨_,Sub.same (Sub.put ha),k t (HP.put_none ht)⟩
   · repeat walk_at "m:s"
     refine ⟨HP.put_same,rfl,fun j hj=>?_,_,rfl⟩
     rcases Nat.lt_succ_iff_lt_or_eq.mp hj with hj | rfl
     · exact hok j hj
     · exact Classical.not_not.mp fun hn=>heq (hdot.mpr hn)
 · rintro m' H₁ - yq3
   obtain ⟨rfl,hok,o1,rfl⟩:=yq3
   have hex:splE l dot=(l,[]):=by
     unfold splE
     rw [if_neg]
     rintro yq0
     obtain ⟨j,hj,hne⟩:=yq0
     exact hne (hok j (by rw [rangeSize_nat];lia))
   rw [hex] at k
   repeat walk_at "m:s"
   refine ⟨by show 2≤sizeLine;decide,fun t ht=>?_⟩
   repeat walk_at "m:s"
   exact ⟨_,Sub.same (Sub.put ha),k t (HP.put_none ht)⟩
end
end
section
noncomputable def nmC81 (p0:Option Value) (p1:Option Value) (p2:Option Value) (p3:Option Value) (p4:Option Value):Names:=[("entry_name",.loc p0),("encoding",.loc p1),("root",.loc p2),("ext",.loc p3),("i",.loc p4),("splitext",.glo (.ref 133)),("len",.glo (.builtin "len")),("EightDotThree",.glo (.ref 259)),("ValueError",.glo (.type "ValueError"))]
noncomputable def conf83 (l:List Nat) (dot:Int):Prop:=
 mkS l=Txt.upper (mkS l)∧(splE l dot).1.length+((splE l dot).2.drop 1).length≤11∧(splE l dot).1.length≤8∧((splE l dot).2.drop 1).length≤3∧¬ badCh (splE l dot).1∧¬ badCh ((splE l dot).2.drop 1)
theorem splE_len (l:List Nat) (dot:Int):(splE l dot).1.length≤l.length∧(splE l dot).2.length≤l.length:=by
 unfold splE
 split
 · exact ⟨cut_le _ _ _,cut_le _ _ _⟩
 · exact ⟨Nat.le_refl _,Nat.zero_le _⟩
theorem cut_drop1 {α:Type}(l:List α):cut l (some 1) none=l.drop 1:=by
 unfold cut clipI
 simp only
 rcases l with _ | ⟨a,l⟩
 · simp
 · have h1:(max 0 (min (if (1:Int)<0 then 1+((a::l).length:Int) else 1) ((a::l).length:Int))).toNat=1:=
     congrArg Int.toNat (clip_nat (a:=1) (n:=(a::l).length) (Nat.succ_le_succ (Nat.zero_le _)))
   rw [h1]
   simp
inductive IvC80 (H:HP) (l:List Nat) (dot:Int) (enc:Str) (t:Addr) (ex:List Nat) (rt:List Nat) (a:Addr) (i:Nat) (m':Names) (H':HP):Prop
 | mk:(H'=((H.put t (.tup [.str (mkS rt) 0,.str (mkS (splE l dot).2) 0])).put a (.list [.str (mkS rt) 0,.str (mkS ex) 0])))→((∀ y∈([rt,ex]:List (List Nat)).take i,¬ badCh y))→∀ o1,(m'=(nmC81 (some (.str (mkS l) 0)) (some (.str enc 0)) (some (.str (mkS rt) 0)) (some (.str (mkS ex) 0)) o1))→IvC80 H l dot enc t ex rt a i m' H'
section
variable {G:Glb}(hL:L1 G) {A:Around}{stk:List Env}{sv:Sv}{pr:Pr}{H:HP}{K X:KH}{n:Nat}
include hL
set_option maxHeartbeats 4000000 in
theorem conform_c (r:Rm A stk (n+3)) {l:List Nat}{dot:Int}{enc:Str}(hz:l.length≤1000000) (hs:Txt.rfind (mkS l) "/" = -1) (hd:Txt.rfind (mkS l) "." = dot) (h1:dot<l.length) (h2:-1≤dot)
   (kt:conf83 l dot→K (.bool true) H) (kf:¬ conf83 l dot→K (.bool false) H):Calls G A stk sv pr (.ref 233) [.str (mkS l) 0] [("encoding",.str enc 0)] K X H:=by
 refine calls_sub ?_
 refine enterN r ["entry_name","encoding","root","ext","i"] [("splitext",.ref 133),("len",.builtin "len"),("EightDotThree",.ref 259),("ValueError",.type "ValueError")] [("entry_name",.str (mkS l) 0),("encoding",.str enc 0)] (ho:=lk1 hL (fun _=>rfl)) rfl (fun s rvs rkw X e1 e2=>?_) (by rw [hL.K];rfl) rfl (by rw [hL.tab];decide) (.loc .here (.loc (.next .here) .nil)) fun S O r=>?_
 · refine xe12 (map_one e1) fun x' zq1 ex=>?_
   obtain rfl:=zq1
   refine xe12 (kw_one e2) fun v zq1 ev=>?_
   obtain rfl:=zq1
   exact ⟨[("entry_name",x'),("encoding",v)],kp_binds X (by rw [hL.K];intro S;rfl),by simp [ex,ev]⟩
 dsimp only [mkM,List.map,List.append_eq,List.cons_append,List.nil_append,List.map_cons,List.map_nil]
 have hl:∀ l:List Nat,(mkS l).length=l.length:=fun l=>by show l.toArray.size=_;simp
 have hsl:=splE_len l dot
 repeat walk_at "m:s"
 refine met_s PySem.F.slot_str_upper PySem.F.type_str_upper ?_
 repeat walk_at "m:s"
 refine ⟨keepsB,f_upper (by rw [hl];exact Nat.le_trans (by assumption) (by decide +kernel)) ?_⟩
 repeat walk_at "m:s"
 refine if_bI (fun hne=>?_) (fun heq=>?_)
 · repeat walk_at "m:s"
   exact ⟨H,Sub.refl _,kf fun h=>hne h.1⟩
 have heq:=Classical.not_not.mp heq
 repeat walk_at "m:s"
 refine ⟨keepsK (by rw [hL.K];rfl),calc_of fun sv=>splitext_c hL r hz hs hd h1 h2 fun t ht=>?_⟩
 repeat walk_at "m:s"
 try walk_at "m:0"
 refine a_tup2 O r.hh HP.put_same ?_
 repeat walk_at "m:s"
 refine sl_str (lo:=some 1) (hi:=none) (by rw [hl,sizeLine_eq];lia) ?_
 have hcut:(⟨(cut (mkS (splE l dot).2).cps.toList (some 1) none).toArray⟩:Str)=mkS ((splE l dot).2.drop 1):=by
   show (⟨(cut ((splE l dot).2.toArray.toList) (some 1) none).toArray⟩:Str)=_
   rw [List.toList_toArray,cut_drop1];rfl
 rw [hcut]
 unfold conf83 at kt kf
 have hel:((splE l dot).2.drop 1).length≤l.length:=Nat.le_trans (by rw [List.length_drop];simp) hsl.2
 generalize (splE l dot).2.drop 1=ex at kt kf hel ⊢
 generalize (splE l dot).1=rt at kt kf hsl ht ⊢
 have hsl:=hsl.1
 repeat walk_at "m:s"
 refine ⟨keepsB,f_len_s (by rw [hl,sizeLine_eq];exact Nat.le_trans (Nat.le_trans (by assumption) (by assumption)) (by decide +kernel)) ?_⟩
 repeat walk_at "m:s"
 refine ⟨keepsB,f_len_s (by rw [hl,sizeLine_eq];exact Nat.le_trans (Nat.le_trans (by assumption) (by assumption)) (by decide +kernel)) ?_⟩
 rw [hl,hl]
 repeat walk_at "m:s"
 have out:∀ {b:Bool},(b=true→K (.bool true) H)→(b=false→K (.bool false) H)→K (.bool b) H:=fun {b} a c=>by cases b with | true=>exact a rfl | false=>exact c rfl
 repeat walk_at "m:s"
 refine if_bI (fun hgt=>?_) (fun hle=>?_)
 · repeat walk_at "m:s"
   exact ⟨H,Sub.put ht,kf fun h=>by have:=h.2.1;omega⟩
 repeat walk_at "m:s"
 refine ⟨keepsB,f_len_s (by rw [hl,sizeLine_eq];exact Nat.le_trans (Nat.le_trans (by assumption) (by assumption)) (by decide +kernel)) ?_⟩
 rw [hl]
 repeat walk_at "m:s"
 refine if_bI (fun hgt=>?_) (fun hle8=>?_)
 · repeat walk_at "m:s"
   try refine if_t ?_
   repeat walk_at "m:s"
   exact ⟨H,Sub.put ht,kf fun h=>Nat.not_lt.mpr h.2.2.1 (Int.ofNat_lt.mp (by assumption))⟩
 repeat walk_at "m:s"
 refine ⟨keepsB,f_len_s (by rw [hl,sizeLine_eq];exact Nat.le_trans (Nat.le_trans (by assumption) (by assumption)) (by decide +kernel)) ?_⟩
 rw [hl]
 repeat walk_at "m:s"
 refine if_bI (fun hgt=>?_) (fun hle3=>?_)
 · repeat walk_at "m:s"
   exact ⟨H,Sub.put ht,kf fun h=>by have:=h.2.2.2.1;omega⟩
 repeat walk_at "m:s"
 try walk_at "m:0"
 refine x_for O r.hh ?_
 repeat walk_at "m:s"
 refine ⟨by show 2≤sizeLine;decide,fun a ha=>?_⟩
 have hst:Sub H ((H.put t (.tup [.str (mkS rt) 0,.str (mkS _) 0])).put a (.list [.str (mkS rt) 0,.str (mkS ex) 0])):=(Sub.put ht).trans (Sub.put ha)
 refine ⟨_,_,_,_,itList,HP.put_same,(IvC80 H l dot enc t ex rt a),?_,?_,?_⟩
 · exact ⟨rfl,fun c hc=>by simp at hc,none,rfl⟩
 · rintro pr i m' H₁ hi - yq6
   obtain ⟨rfl,hok,o1,rfl⟩:=yq6
   have O:=O.guard pr
   obtain ⟨y,hy,hyl,hym⟩:∃ y,([.str (mkS rt) 0,.str (mkS ex) 0]:List Value).getD i .none=.str (mkS y) 0∧y.length≤l.length∧[rt,ex][i]? = some y:=by
     rcases i with _ | _ | i
     · exact ⟨rt,rfl,hsl,rfl⟩
     · exact ⟨ex,rfl,hel,rfl⟩
     · exact absurd hi (Nat.not_lt.mpr (Nat.le_add_left 2 i))
   rw [hy]
   have hbe:badCh y→¬ (¬ badCh rt∧¬ badCh ex):=fun hb ⟨h1,h2⟩=>by
     rcases i with _ | _ | i
     · exact h1 (by cases hym;exact hb)
     · exact h2 (by cases hym;exact hb)
     · exact absurd hi (Nat.not_lt.mpr (Nat.le_add_left 2 i))
   repeat walk_at "m:s"
   try walk_at "m:0"
   refine x_try O rfl ?_
   repeat walk_at "m:s"
   refine m_csm (f:=.ref 222) (by rw [hL.K];rfl) (by rw [hL.K];rfl) ?_
   repeat walk_at "m:s"
   refine ⟨keepsK (by rw [hL.K];rfl),calc_of fun sv=>check_c hL r (by show y.toArray.size≤_;simp;exact Nat.le_trans (by assumption) (by assumption)) (fun hb=>?_) (fun hb=>?_)⟩
   · repeat walk_at "m:s"
     refine ⟨HP.put_same,rfl,fun c hc=>?_,_,rfl⟩
     rw [List.take_add_one,hym] at hc
     rcases List.mem_append.mp hc with hc | hc
     · exact hok c hc
     · cases hc with
       | head=>exact hb
       | tail _ h=>cases h
   · refine ⟨.type "ValueError",.inr ⟨_,rfl⟩,by rw [hL.K];rfl,fun e pr=>?_⟩
     have O:=(O.guard pr).mark e
     refine ⟨?_,?_⟩
     · repeat walk_at "m:s"
       exact ⟨rfl,rfl,rfl⟩
     · repeat walk_at "m:s"
       refine ⟨_,hst,kf fun h=>hbe hb ⟨h.2.2.2.2.1,h.2.2.2.2.2⟩⟩
 · rintro m' H₁ - yq3
   obtain ⟨rfl,hok,o1,rfl⟩:=yq3
   repeat walk_at "m:s"
   refine ⟨_,hst,kt ⟨heq,Int.ofNat_le.mp (Int.not_lt.mp (by assumption)),Int.ofNat_le.mp (Int.not_lt.mp (by assumption)),Int.ofNat_le.mp (Int.not_lt.mp (by assumption)),hok rt (by simp),hok ex (by simp)⟩⟩
end
end
section
noncomputable def nmC91 (p0:Option Value) (p1:Option Value) (p2:Option Value) (p3:Option Value) (p4:Addr):Names:=[("units",.loc p0),("signs",.loc p1),("k",.loc p2),("n",.loc p3),("octets",.cel p4),("len",.glo (.builtin "len")),("ValueError",.glo (.type "ValueError")),("range",.glo (.type "range")),("chr",.glo (.builtin "chr"))]
theorem Sub.upd {H H':HP}(x:Sub H H') {a:Addr}{c:CO}(f:H.o a=Option.none):Sub H (H'.put a c):=⟨x.1,fun d o e=>HP.put_ne (fun q=>by rw [q,f] at e;cases e) (x.2 d o e)⟩
noncomputable def ok16 (c:Nat):Prop:=c<55296∨(57344≤c∧c<1114112)
noncomputable def un1 (c:Nat):List Nat:=if c<65536 then [c] else [55296+(c - 65536) / 1024,56320+(c - 65536) % 1024]
noncomputable def un16 (l:List Nat):List Nat:=l.flatMap un1
noncomputable def oct (u:Nat):List UInt8:=[(u % 256).toUInt8,(u / 256 % 256).toUInt8]
theorem lo2_oct (n:Nat):(lo2 (n:Int)).toList=oct n:=by simp [lo2,oct]
theorem enc1_oct (c:Nat):enc1 c=(un1 c).flatMap oct:=by
 unfold enc1 un1
 split
 · simp [lo2_oct]
 · rename_i h
   have h1:(55296:Int)+((c:Int) - 65536) / 2 ^ (10:Int).toNat=((55296+(c - 65536) / 1024:Nat):Int):=by
     rw [show (2:Int) ^ (10:Int).toNat=1024 by decide,show (c:Int) - 65536=((c - 65536:Nat):Int) from sub_cast h];rfl
   have h2:(56320:Int)+Builtin.bitAnd ((c:Int) - 65536) 1023=((56320+(c - 65536) % 1024:Nat):Int):=by
     rw [show (c:Int) - 65536=((c - 65536:Nat):Int) from sub_cast h,and1023 (Int.natCast_nonneg _)];rfl
   rw [h1,h2,lo2_oct,lo2_oct];simp
theorem enc16_oct (l:List Nat):enc16 l=(un16 l).flatMap oct:=by
 unfold enc16 un16
 induction l with
 | nil=>rfl
 | cons c r ih=>simp only [List.flatMap_cons,List.flatMap_append,ih,enc1_oct]
theorem un1_ne (c:Nat):1≤(un1 c).length:=by unfold un1;split<;>simp
theorem sub_off (k x:Nat):((k+x:Nat):Int) - (k:Int)=(x:Int):=by rw [Int.natCast_add,Int.add_comm];exact Int.add_sub_cancel _ _
theorem un1_sur {c:Nat}(hs:¬ c<65536) (h:c<1114112):∃ u v:Nat,un1 c=[u,v]∧55296≤u∧u<56320∧56320≤v∧v<57344∧(65536:Int)+((u:Int) - 55296) * 1024+((v:Int) - 56320)=(c:Int):=
 ⟨55296+(c - 65536) / 1024,56320+(c - 65536) % 1024,if_neg hs,Nat.le_add_right _ _,hi_e h,Nat.le_add_right _ _,lo_e c,by
   rw [show ((55296+(c - 65536) / 1024:Nat):Int) - 55296=(((c - 65536) / 1024:Nat):Int) from sub_off 55296 _,show ((56320+(c - 65536) % 1024:Nat):Int) - 56320=(((c - 65536) % 1024:Nat):Int) from sub_off 56320 _]
   exact congrArg Nat.cast (show 65536+(c - 65536) / 1024 * 1024+(c - 65536) % 1024=c by rw [Nat.add_assoc,Nat.div_add_mod',Nat.add_sub_cancel' (Nat.le_of_not_lt hs)])⟩
theorem un1_lt {c:Nat}(h:c<1114112):∀ u∈un1 c,u<65536:=by
 by_cases hs:c<65536
 · rw [un1,if_pos hs];intro u hu;cases hu with
   | head=>assumption
   | tail _ h=>cases h
 · obtain ⟨u,v,e,-,hu,-,hv,-⟩:=un1_sur hs h
   rw [e];intro w hw
   cases hw with
   | head=>exact Nat.lt_trans hu (by decide)
   | tail _ h=>cases h with
     | head=>exact Nat.lt_trans hv (by decide)
     | tail _ h=>cases h
theorem ok16_lt {c:Nat}(h:ok16 c):c<1114112:=by
 unfold ok16 at h;rcases h with h | h
 · exact Nat.lt_trans h (by decide)
 · exact h.2
theorem un16_lt {l:List Nat}(h:∀ c∈l,c<1114112):∀ u∈un16 l,u<65536:=fun u hu=>by
 refine xe12 (List.mem_flatMap.mp hu) fun c hc hu=>?_
 exact un1_lt (h c hc) u hu
theorem oct_len (us:List Nat):(us.flatMap oct).length=2 * us.length:=by
 induction us with
 | nil=>rfl
 | cons u r ih=>simp only [List.flatMap_cons,List.length_append,ih,List.length_cons,oct,List.length_nil];lia
theorem oct_get {us:List Nat}(h:∀ u∈us,u<65536):∀ {k:Nat},k<us.length→((us.flatMap oct).getD (2 * k) 0).toNat+256 * ((us.flatMap oct).getD (2 * k+1) 0).toNat=us.getD k 0:=by
 induction us with
 | nil=>intro k hk;cases hk
 | cons u r ih=>
   intro k hk
   cases k with
   | zero=>
     have:=h u (.head _)
     simp [oct,List.getD]
     rw [Nat.mod_eq_of_lt (Nat.div_lt_of_lt_mul (Nat.lt_of_lt_of_le this (by decide)))];exact Nat.mod_add_div u 256
   | succ k=>
     have:=ih (fun u hu=>h u (.tail _ hu)) (k:=k) (by simpa using hk)
     rw [List.flatMap_cons]
     simp only [oct,List.cons_append,List.nil_append,Nat.mul_add,Nat.mul_one,List.getD_cons_succ]
     exact this
theorem intL_get {us:List Nat}{k:Nat}(h:k<us.length):(intL (cpI us)).getD k .none=.int ((us.getD k 0:Nat):Int) 0:=by
 simp [intL,cpI,List.getD,h]
theorem getD_app {a b:List Nat}{j:Nat}:(a++b).getD (a.length+j) 0=b.getD j 0:=by simp [List.getD,List.getElem?_append_right]
theorem fitsL {i:Int}(h1:-1000000000≤i) (h2:i≤1000000000):Builtin.Range.rangeFitsLong i=true:=by
 unfold Builtin.Range.rangeFitsLong
 rw [Bool.and_eq_true,decide_eq_true_eq,decide_eq_true_eq]
 exact ⟨Int.le_trans (by decide) h1,Int.lt_of_le_of_lt h2 (by decide)⟩
theorem small_two {b:Nat}(hb:b≤4000000):Builtin.Range.small 0 (b:Int) 2=true:=by
 unfold Builtin.Range.small
 have h:Builtin.Range.rangeSize 0 (b:Int) 2=((b:Int)+1) / 2:=by 
   unfold Builtin.Range.rangeSize;simp;split
   · rw [← Int.add_mul_ediv_right _ 1 (by decide)];rw [Int.sub_eq_add_neg,Int.add_assoc];exact rfl
   · rename_i h;rw [Nat.eq_zero_of_not_pos h];rfl
 rw [h,fitsL (by decide) (by decide),fitsL (by simp) (Int.le_trans (Int.ofNat_le.mpr hb) (by decide)),fitsL (by decide) (by decide),fitsL (by lia) (by lia),if_pos (by decide),fitsL (by lia) (by lia)]
 simp
theorem mul_ok {a b:Int}(h1:-(2 ^ 64)<a) (h2:a<2 ^ 64):IntMulOk a b:=IntMulOk.of_left (intBits_le_64 h1 h2)
noncomputable def sgn (c:Nat):Str:=⟨#[c]⟩
theorem sum_ones (l:List Nat):(l.map fun _=>1).sum=l.length:=by
 induction l with
 | nil=>rfl
 | cons a r ih=>rw [List.map_cons,List.sum_cons,ih,List.length_cons,Nat.add_comm]
theorem join_sgn (l:List Nat):Txt.join "" (l.map sgn)=mkS l:=by
 show Builtin.Str.glued "" (l.map sgn)=_
 rw [StrLaws.glued_eq_join]
 have app:∀ (a b:List Nat),(mkS a++mkS b:Str)=mkS (a++b):=fun a b=>by
   show (⟨a.toArray++b.toArray⟩:Str)=⟨(a++b).toArray⟩
   rw [List.append_toArray]
 have e0:("" : Str)=mkS []:=rfl
 induction l with
 | nil=>rfl
 | cons a r ih=>
   cases r with
   | nil=>rfl
   | cons b r=>
     show sgn a++("" : Str)++Str.join "" ((b::r).map sgn)=_
     rw [ih,show sgn a=mkS [a] from rfl,e0,app,app]
     rfl
theorem un16_cons (c:Nat) (l:List Nat):un16 (c::l)=un1 c++un16 l:=rfl
theorem un16_app (a b:List Nat):un16 (a++b)=un16 a++un16 b:=by simp [un16]
theorem cpI_len (l:List Nat):(cpI l).length=l.length:=by simp [cpI]
inductive IvC90 (H:HP) (l:List Nat) (c:Addr) (a:Addr) (t:Tok) (u:Tok) (v:Tok) (i:Nat) (ys:List Value) (m':Names) (H':HP):Prop
 | mk:(H'=((H.put c (.cell (some (.bytes (enc16 l).toArray 0)))).put a (.obj (rngObj 0 ((enc16 l).toArray.size:Nat) 2 t u v))))→(ys=intL (cpI ((un16 l).take i)))→∀ o1,(m'=([("k",.loc o1),("octets",.cel c)]:Names))→IvC90 H l c a t u v i ys m' H'
inductive IvC91 (l:List Nat) (c:Addr) (D:Addr) (H₂:HP) (sg:Addr) (j:Nat) (m':Names) (H':HP):Prop
 | mk:∀ pre suf o1,(l=pre++suf)→(suf.length=j)→(Sub H₂ H')→(H'.o sg=some (.list (strL (pre.map sgn))))→(m'=(nmC91 (some (.ref D)) (some (.ref sg)) (some (.int ((un16 pre).length:Nat) 0)) o1 c))→IvC91 l c D H₂ sg j m' H'
section
variable {G:Glb}(hL:L1 G) {A:Around}{stk:List Env}{sv:Sv}{pr:Pr}{H:HP}{K X:KH}{n:Nat}
include hL
set_option maxHeartbeats 4000000 in
theorem decoded16_c (r:Rm A stk (n+1)) {l:List Nat}(hz:l.length≤1000000) (hok:∀ c∈l,ok16 c) (k:K (.str (mkS l) 0) H):Calls G A stk sv pr (.ref 126) [.bytes (enc16 l).toArray 0] [] K X H:=by
 refine calls_sub ?_
 have hcp:∀ c∈l,c<1114112:=fun c hc=>ok16_lt (hok c hc)
 have hlen:(enc16 l).length=2 * (un16 l).length:=by rw [enc16_oct,oct_len]
 have hle:(enc16 l).length≤4000000:=Nat.le_trans (enc16_le l) (Nat.mul_le_mul_left 4 hz:_≤4 * 1000000)
 have hlt:=un16_lt hcp
 have hul:(un16 l).length≤2000000:=Nat.le_of_mul_le_mul_left (hlen▸hle:2 * (un16 l).length≤2 * 2000000) (by decide)
 refine enterC r ["units","signs","k","n"] [("len",.builtin "len"),("ValueError",.type "ValueError"),("range",.type "range"),("chr",.builtin "chr")] [("octets",.bytes (enc16 l).toArray 0)] (ho:=lk1 hL (fun _=>rfl)) rfl (fun s rvs rkw X e1 e2=>?_) (by rw [hL.K];rfl) (by rw [hL.tab];decide) ?_
 · obtain ⟨x',rfl,ex⟩:=map_one e1
   obtain rfl:=map_nil' e2
   exact ⟨[("octets",x')],BindsTo.of_eq rfl,by simp [ex]⟩
 repeat first | refine cells_skip (by decide) ?_ | refine cells_cell fun c hc=>?_ | refine cells_nil ?_
 refine ⟨rfl,_,_,.cel (c:=c) (o:=none) (by simp [mkM]) HP.put_same .nil,fun S O r=>?_⟩
 dsimp only [mkM,List.map,List.append_eq,List.cons_append,List.nil_append,List.map_cons,List.map_nil]
 refine ws_abs fun KF XK hk hx=>?_
 rw [HP.put_put]
 repeat walk_at "m:s"
 refine ⟨keepsB,f_len_b (by rw [sizeLine_eq];simp only [List.size_toArray];exact Nat.le_trans (by assumption) (by decide +kernel)) ?_⟩
 repeat walk_at "m:s"
 refine b_mod (by decide) ?_
 repeat walk_at "m:s"
 refine if_bI (fun h=>absurd (by rw [List.size_toArray,hlen];exact Int.mul_emod_right 2 ((un16 l).length:Int)) h) fun _=>?_
 repeat walk_at "m:s"
 try walk_at "m:0"
 refine x_comp1 O r.hh ⟨rfl,rfl,rfl,rfl⟩ ?_
 repeat walk_at "m:s"
 refine ⟨keepsB,f_len_b (by rw [sizeLine_eq];simp only [List.size_toArray];exact Nat.le_trans (by assumption) (by decide +kernel)) ?_⟩
 repeat walk_at "m:s"
 refine ⟨keepsT,f_range3 (by decide) (by decide) fun a t u v ha=>?_⟩
 have hcc:(H.put c (.cell (some (.bytes (enc16 l).toArray 0)))).o c=some (.cell (some (.bytes (enc16 l).toArray 0))):=HP.put_same
 have hrs:(Builtin.Range.rangeSize 0 ((enc16 l).toArray.size:Nat) 2).toNat=(un16 l).length:=by
   rw [List.size_toArray,hlen];unfold Builtin.Range.rangeSize;simp;exact rs2 _
 have hst:Sub H ((H.put c (.cell (some (.bytes (enc16 l).toArray 0)))).put a (.obj (rngObj 0 ((enc16 l).toArray.size:Nat) 2 t u v))):=(Sub.put hc).trans (Sub.put ha)
 refine ⟨[("octets",c)],["k"],[],(by repeat first | exact Clos.nil | refine Clos.skip (by decide) ?_ | refine Clos.free (lk_mem rfl) ?_),rfl,by rw [hL.tab];decide,_,_,_,_,itRange ?_,HP.put_same,(IvC90 H l c a t u v),?_,?_,?_⟩
 · exact small_two (by simp only [List.size_toArray];omega)
 · exact ⟨rfl,rfl,none,rfl⟩
 · rintro mm C pr i ys m' H₁ O hi - yq10
   obtain ⟨rfl,rfl,o1,rfl⟩:=yq10
   rw [hrs] at hi
   repeat walk_at "m:s"
   refine And.intro (by rw [sizeLine_eq,intL_len,cpI_len,List.length_take];exact Nat.le_trans (Nat.min_le_right _ _) (Nat.le_trans hul (by decide +kernel))) ?_
   have hi2:0+(i:Int) * 2=((2 * i:Nat):Int):=by rw [Int.zero_add,Int.mul_comm];exact rfl
   rw [hi2] at *
   repeat walk_at "m:s"
   refine it_bytes (by exact Int.natCast_nonneg _) (by rw [List.size_toArray,hlen];exact Int.ofNat_lt.mpr ((Nat.mul_lt_mul_left (by decide)).mpr hi)) (by rw [sizeLine_eq];simp only [List.size_toArray];exact Nat.le_trans (by assumption) (by decide +kernel)) ?_
   repeat walk_at "m:s"
   refine it_bytes (by exact Int.natCast_nonneg _) (by simp only [List.size_toArray];lia) (by rw [sizeLine_eq];simp only [List.size_toArray];exact Nat.le_trans (by assumption) (by decide +kernel)) ?_
   repeat walk_at "m:s"
   refine b_mul (mul_ok (by decide) (by decide)) ?_
   repeat walk_at "m:s"
   refine ⟨HP.put_same,rfl,?_,_,rfl⟩
   have e1:(((2 * i:Nat):Int)).toNat=2 * i:=by exact rfl
   have e2:(((2 * i:Nat):Int)+1).toNat=2 * i+1:=by exact rfl
   rw [e1,e2,cpI_next _ hi,intL_snoc]
   have:=oct_get hlt hi
   rw [← enc16_oct] at this
   have e3:(((un16 l).getD i 0:Nat):Int)=(((enc16 l).toArray.toList.getD (2 * i) 0).toNat:Int)+256 * (((enc16 l).toArray.toList.getD (2 * i+1) 0).toNat:Int):=by
     rw [List.toList_toArray,← this];exact rfl
   rw [e3]
 · rintro ys m' H₁ - yq4 D hD
   obtain ⟨rfl,rfl,o1,rfl⟩:=yq4
   rw [hrs,List.take_of_length_le (Nat.le_refl _)]
   refine ⟨_,by exact setM_set rfl,?_⟩
   have hDl:(HP.put (HP.put (H.put c (.cell (some (.bytes (enc16 l).toArray 0)))) a (.obj (rngObj 0 ((enc16 l).toArray.size:Nat) 2 t u v))) D (.list (intL (cpI (un16 l))))).o D=some (.list (intL (cpI (un16 l)))):=HP.put_same
   have hst2:=hst.trans (Sub.put (c:=.list (intL (cpI (un16 l)))) hD)
   generalize HP.put (HP.put (H.put c (.cell (some (.bytes (enc16 l).toArray 0)))) a (.obj (rngObj 0 ((enc16 l).toArray.size:Nat) 2 t u v))) D (.list (intL (cpI (un16 l))))=H₂ at hDl hst2 ⊢
   repeat walk_at "m:s"
   refine ⟨by show 0≤sizeLine;exact Nat.zero_le _,fun sg hsg=>?_⟩
   repeat walk_at "m:s"
   have hsgn:H.o sg=none:=hst2.none hsg
   repeat walk_at "m:s"
   try walk_at "m:0"
   refine x_whileV O ((IvC91 l c D H₂ sg)) l.length ⟨[],l,none,rfl,rfl,Sub.put hsg,HP.put_same,rfl⟩ ?_
   rintro j m' H₃ yq3
   obtain ⟨pre,suf,o2,hpl,rfl,hs3,hsl,rfl⟩:=yq3
   have hD3:H₃.o D=some (.list (intL (cpI (un16 l)))):=hs3.2 _ _ hDl
   have hu:un16 l=un16 pre++un16 suf:=by rw [hpl,un16_app]
   have hul2:(un16 l).length=(un16 pre).length+(un16 suf).length:=by rw [hu,List.length_append]
   repeat walk_at "m:s"
   refine ⟨keepsB,f_len_l hD3 (by rw [sizeLine_eq,intL_len,cpI_len];exact Nat.le_trans (by assumption) (by decide +kernel)) ?_⟩
   rw [intL_len,cpI_len]
   repeat walk_at "m:s"
   cases suf with
   | nil=>
     repeat walk_at "m:s"
     refine if_bI (fun h=>absurd h (by rw [hul2];simp [un16])) fun _=>?_
     repeat walk_at "m:s"
     refine met_s PySem.F.slot_str_join PySem.F.type_str_join ?_
     repeat walk_at "m:s"
     have hpl':l=pre:=by rw [hpl,List.append_nil]
     refine ⟨keepsB,f_join hsl ?_ ?_⟩
     · have e1:((pre.map sgn).map (·.length)).sum=pre.length:=by
         rw [List.map_map]
         have:(Str.length ∘ sgn)=fun _=>1:=rfl
         rw [this]
         exact sum_ones pre
       rw [e1,show (Str.ofString "").length=0 from rfl,← hpl']
       exact Nat.le_trans (by assumption) (by decide +kernel)
     · repeat walk_at "m:s"
       have ej:Txt.join (Str.ofString "") (pre.map sgn)=mkS l:=by rw [hpl'];exact join_sgn pre
       rw [ej]
       exact hk _ _ _ ⟨H,hst2.trans hs3,k⟩
   | cons cc suf=>
     have hcc:=hok cc (by rw [hpl];simp)
     rw [un16_cons] at hu hul2
     rw [List.length_append] at hul2
     have hun:=un1_ne cc
     repeat walk_at "m:s"
     refine if_bI (fun _=>?_) fun h=>absurd (Int.ofNat_lt.mpr (by rw [hul2];exact Nat.lt_add_of_pos_right (Nat.lt_of_lt_of_le hun (Nat.le_add_right _ _)))) h
     repeat walk_at "m:s"
     refine it_list hD3 (by exact Int.natCast_nonneg _) (by rw [intL_len,cpI_len];omega) (by rw [sizeLine_eq,intL_len,cpI_len];exact Nat.le_trans (by assumption) (by decide +kernel)) ?_
     have e1:∀ j:Nat,(((un16 pre).length+j:Nat):Int).toNat=(un16 pre).length+j:=fun j=>by exact rfl
     have hin:(un16 pre).length<(un16 l).length:=by exact Int.ofNat_le.mp (by assumption)
     have eu:∀ j:Nat,(un16 l).getD ((un16 pre).length+j) 0=(un1 cc++un16 suf).getD j 0:=fun j=>by rw [hu,getD_app]
     rw [Int.toNat_natCast,intL_get hin]
     have eu0:=eu 0
     rw [Nat.add_zero] at eu0
     rw [eu0]
     have hpre:∀ {H':HP},Sub H₂ H'→Sub H₂ (H'.put sg (.list (strL ((pre++[cc]).map sgn)))):=fun x=>x.upd (hsg)
     have hstr:strL (pre.map sgn)++[.str (sgn cc) 0]=strL ((pre++[cc]).map sgn):=by simp [strL]
     have hpl2:l=(pre++[cc])++suf:=by rw [hpl,List.append_assoc];rfl
     have hk2:(un16 (pre++[cc])).length=(un16 pre).length+(un1 cc).length:=by rw [un16_app,List.length_append,un16_cons];simp [un16]
     have hprel:pre.length≤1000000:=by rw [hpl,List.length_append] at hz;exact Nat.le_trans (Nat.le_add_right _ _) hz
     by_cases hs:cc<65536
     · have e0:un1 cc=[cc]:=by unfold un1;rw [if_pos hs]
       rw [e0] at eu hk2 ⊢
       simp only [List.cons_append,List.getD_cons_zero,List.nil_append]
       repeat walk_at "m:s"
       refine if_bI (fun h1=>?_) fun h1=>?_
       · repeat walk_at "m:s"
         refine if_bI (fun h2=>?_) fun h2=>?_
         · unfold ok16 at hcc;exact absurd hcc fun q=>q.elim (fun q=>Nat.not_le.mpr q (Int.ofNat_le.mp h1)) fun q=>Nat.not_le.mpr (Int.ofNat_lt.mp h2) q.1
         repeat walk_at "m:s"
         refine met_l hsl PySem.F.slot_list_append PySem.F.type_list_append ?_
         repeat walk_at "m:s"
         refine ⟨keepsB,f_chr (Int.natCast_nonneg _) (Int.ofNat_le.mpr (Nat.le_of_lt_succ (ok16_lt hcc))) ?_⟩
         repeat walk_at "m:s"
         refine ⟨keepsB,f_append hsl (by rw [sizeLine_eq];simp only [strL,List.length_map];exact Nat.le_trans (by assumption) (by decide +kernel)) ?_⟩
         rw [Int.toNat_natCast]
         rw [show strL (pre.map sgn)++[.str ⟨#[cc]⟩ 0]=strL ((pre++[cc]).map sgn) from hstr]
         repeat walk_at "m:s"
         exact ⟨suf.length,Nat.lt_succ_self _,pre++[cc],suf,_,hpl2,rfl,hpre hs3,HP.put_same,by rw [hk2];rfl⟩
       · repeat walk_at "m:s"
         try refine if_f ?_
         repeat walk_at "m:s"
         refine met_l hsl PySem.F.slot_list_append PySem.F.type_list_append ?_
         repeat walk_at "m:s"
         refine ⟨keepsB,f_chr (Int.natCast_nonneg _) (Int.ofNat_le.mpr (Nat.le_of_lt_succ (ok16_lt hcc))) ?_⟩
         repeat walk_at "m:s"
         refine ⟨keepsB,f_append hsl (by rw [sizeLine_eq];simp only [strL,List.length_map];exact Nat.le_trans (by assumption) (by decide +kernel)) ?_⟩
         rw [Int.toNat_natCast]
         rw [show strL (pre.map sgn)++[.str ⟨#[cc]⟩ 0]=strL ((pre++[cc]).map sgn) from hstr]
         repeat walk_at "m:s"
         exact ⟨suf.length,Nat.lt_succ_self _,pre++[cc],suf,_,hpl2,rfl,hpre hs3,HP.put_same,by rw [hk2];rfl⟩
     · obtain ⟨u,v,e0,u1,u2,v1,v2,ev⟩:=un1_sur hs (ok16_lt hcc)
       rw [e0] at eu hk2 hul2 ⊢
       simp only [List.cons_append,List.getD_cons_zero,List.nil_append,List.length_cons,List.length_nil] at eu hk2 hul2 ⊢
       have eu1:=eu 1
       simp only [List.getD_cons_succ,List.getD_cons_zero] at eu1
       have ek1:(((un16 pre).length:Nat):Int)+1=(((un16 pre).length+1:Nat):Int):=by exact rfl
       have hlt1:(un16 pre).length+1<(un16 l).length:=by rw [hul2];exact Nat.add_lt_add_left (Nat.lt_of_lt_of_le (by decide:1<2) (Nat.le_add_right _ _)) _
       repeat walk_at "m:s"
       rw [ek1]
       repeat walk_at "m:s"
       refine if_bI (fun h1=>?_) fun h1=>absurd (Int.ofNat_le.mpr u1) h1
       repeat walk_at "m:s"
       refine if_bI (fun h2=>?_) fun h2=>absurd (Int.ofNat_lt.mpr (Nat.lt_trans u2 (by decide))) h2
       repeat walk_at "m:s"
       refine if_bI (fun h3=>absurd h3 (Int.not_le.mpr (Int.ofNat_lt.mpr u2))) fun _=>?_
       repeat walk_at "m:s"
       refine ⟨keepsB,f_len_l hD3 (by rw [sizeLine_eq,intL_len,cpI_len];exact Nat.le_trans (by assumption) (by decide +kernel)) ?_⟩
       rw [intL_len,cpI_len]
       repeat walk_at "m:s"
       refine if_bI (fun h3=>absurd h3 (fun e=>Nat.ne_of_lt hlt1 (Int.ofNat_inj.mp e))) fun _=>?_
       repeat walk_at "m:s"
       refine it_list hD3 (Int.natCast_nonneg _) (by rw [intL_len,cpI_len];exact Int.ofNat_lt.mpr hlt1) (by rw [sizeLine_eq,intL_len,cpI_len];exact Nat.le_trans hul (by decide +kernel)) ?_
       rw [Int.toNat_natCast,intL_get hlt1,eu1]
       repeat walk_at "m:s"
       refine if_bI (fun _=>?_) fun h3=>absurd (Int.ofNat_le.mpr v1) h3
       repeat walk_at "m:s"
       refine if_nbI (fun h3=>absurd (Int.ofNat_lt.mpr v2) h3) fun _=>?_
       repeat walk_at "m:s"
       refine b_lshift (by decide) (by decide) (by rw [show (u:Int) - 55296=((u - 55296:Nat):Int) from (Int.natCast_sub u1).symm,Int.natAbs_natCast];exact Nat.lt_of_le_of_lt (Nat.sub_le _ _) (Nat.lt_trans u2 (by decide))) ?_
       repeat walk_at "m:s"
       refine it_list hD3 (Int.natCast_nonneg _) (by rw [intL_len,cpI_len];exact Int.ofNat_lt.mpr hlt1) (by rw [sizeLine_eq,intL_len,cpI_len];exact Nat.le_trans hul (by decide +kernel)) ?_
       rw [Int.toNat_natCast,intL_get hlt1,eu1]
       repeat walk_at "m:s"
       rw [show (2:Int) ^ (10:Int).toNat=1024 by decide,ev]
       have ek2:(((un16 pre).length+1:Nat):Int)+1=(((un16 pre).length+2:Nat):Int):=by exact rfl
       repeat walk_at "m:s"
       refine met_l hsl PySem.F.slot_list_append PySem.F.type_list_append ?_
       repeat walk_at "m:s"
       refine ⟨keepsB,f_chr (Int.natCast_nonneg _) (Int.ofNat_le.mpr (Nat.le_of_lt_succ (ok16_lt hcc))) ?_⟩
       repeat walk_at "m:s"
       refine ⟨keepsB,f_append hsl (by rw [sizeLine_eq];simp only [strL,List.length_map];exact Nat.le_trans (by assumption) (by decide +kernel)) ?_⟩
       rw [Int.toNat_natCast]
       rw [show strL (pre.map sgn)++[.str ⟨#[cc]⟩ 0]=strL ((pre++[cc]).map sgn) from hstr]
       repeat walk_at "m:s"
       exact ⟨suf.length,Nat.lt_succ_self _,pre++[cc],suf,_,hpl2,rfl,hpre hs3,HP.put_same,by rw [hk2,ek2];rfl⟩
end
end
section
theorem kw_cons {rkw:List (Str × Value)}{nm:Str}{v:Value}{t:List (Str × Value)}(h:rkw.map (fun p=>(p.1,er p.2))=(nm,v)::t):∃ w r,rkw=(nm,w)::r∧er w=v∧r.map (fun p=>(p.1,er p.2))=t:=by
 cases rkw with
 | nil=>cases h
 | cons p r=>
   obtain ⟨a,b⟩:=p
   simp only [List.map_cons,List.cons.injEq,Prod.mk.injEq] at h
   refine xe02 h fun zq0 t=>?_
   obtain ⟨rfl,e⟩:=zq0
   exact ⟨b,r,rfl,e,t⟩
noncomputable def isLfn (o a:Int):Prop:=Builtin.bitAnd a 63=15∧o≠229
section
variable {G:Glb}(hL:L1 G) {A:Around}{stk:List Env}{sv:Sv}{pr:Pr}{H:HP}{K X:KH}{n:Nat}
include hL
omit hL in
theorem g_cint {S:Sit}{m:Names}{K:KV}{X:KV}{C:Addr}{n:Str}{i:Int}{t:Tok}(hc:cvalAt G.K C n (.int i t)=true) (h:K (.int i 0) m H):GetA G S (.ref C) n K X m H:=g_cval hc h
theorem fl_init_c (r:Rm A stk (n+1)) {x dn:Addr}(hx:H.o x=some (.inst 624 dn)) (hd:H.o dn=some (.ns [])) (k:∀ t,H.o t=none→K .none ((H.put t (.di 0 [])).put dn (.ns [("lfn_entries",.ref t)]))):Calls G A stk sv pr (.ref 568) [.ref x] [] K X H:=by
 refine enterN r ["self"] [] [("self",.ref x)] (ho:=lk1 hL (fun _=>rfl)) rfl (fun s rvs rkw X e1 e2=>?_) (by rw [hL.K];rfl) rfl (by rw [hL.tab];decide) (.loc .here .nil) fun S O r=>?_
 · refine xe12 (map_one e1) fun x' zq1 ex=>?_
   obtain rfl:=zq1
   obtain rfl:=map_nil' e2
   exact ⟨_,BindsTo.of_eq rfl,by simp [ex]⟩
 dsimp only [mkM,List.map,List.append_eq,List.cons_append,List.nil_append,List.map_cons,List.map_nil]
 repeat walk_at "m:s"
 try walk_at "m:0"
 refine e_dict0 fun t ht=>?_
 repeat walk_at "m:s"
 refine set_new (HP.put_fresh ht hx) (HP.put_fresh ht hd) (by rw [hL.K];rfl) rfl (by show 1≤1000;decide) ?_
 repeat walk_at "m:s"
 exact k t ht
theorem fl_make_c (r:Rm A stk (n+2)) (k:∀ x dn t H',H.o x=none→H.o dn=none→H.o t=none→Sub H H'→FLong H' x dn t 0 []→K (.ref x) H'):Calls G A stk sv pr (.ref 624) [] [] K X H:=by
 refine calls_sv r fun hne=>makeI (fI:=568) r.c (by rw [hL.K];rfl) (by rw [hL.K];rfl) (by rw [hL.K];rfl) hne fun A' d x hA' hh hd hx hxd=>?_
 refine fl_init_c hL (n:=n) ⟨hA',hh.trans r.hh,r.top⟩ HP.put_same (HP.put_ne (Ne.symm hxd) HP.put_same) fun t ht=>⟨rfl,?_⟩
 have h1:t≠x:=fun q=>by rw [q,HP.put_same] at ht;cases ht
 have h2:t≠d:=fun q=>by rw [q,HP.put_ne (Ne.symm hxd) HP.put_same] at ht;cases ht
 have ht0:H.o t=none:=HP.put_none (HP.put_none ht)
 refine k x d t _ hx hd ht0 ⟨rfl,fun a o e=>?_⟩ ⟨?_,HP.put_same,?_⟩
 · have a1:a≠x:=fun q=>by rw [q,hx] at e;cases e
   have a2:a≠d:=fun q=>by rw [q,hd] at e;cases e
   have a3:a≠t:=fun q=>by rw [q,ht0] at e;cases e
   exact HP.put_ne a2 (HP.put_ne a3 (HP.put_ne a1 (HP.put_ne a2 e)))
 · exact HP.put_ne hxd (HP.put_ne (Ne.symm h1) HP.put_same)
 · exact HP.put_ne h2 HP.put_same
theorem is_lfn_c (r:Rm A stk (n+1)) {o a:Int}(kt:isLfn o a→K (.bool true) H) (kf:¬ isLfn o a→K (.bool false) H):Calls G A stk sv pr (.ref 604) [.int o 0,.int a 0] [] K X H:=by
 refine enterN r ["LDIR_Ord","LDIR_Attr","lfn_attr","lfn_attr_mask","is_attr_set"] [("FATDirectoryEntry",.ref 549)] [("LDIR_Ord",.int o 0),("LDIR_Attr",.int a 0)] (ho:=lk1 hL (fun _=>rfl)) rfl (fun s rvs rkw X e1 e2=>?_) (by rw [hL.K];rfl) rfl (by rw [hL.tab];decide) (.loc .here (.loc (.next .here) .nil)) fun S O r=>?_
 · refine xe23 (map_two e1) fun x' y' zq2 ex ey=>?_
   obtain rfl:=zq2
   obtain rfl:=map_nil' e2
   exact ⟨[("LDIR_Ord",x'),("LDIR_Attr",y')],BindsTo.of_eq rfl,by simp [ex,ey]⟩
 dsimp only [mkM,List.map,List.append_eq,List.cons_append,List.nil_append,List.map_cons,List.map_nil]
 repeat walk_at "m:s"
 refine g_cint (i:=15) (t:=631) (by rw [hL.K];rfl) ?_
 repeat walk_at "m:s"
 refine g_cint (i:=63) (t:=633) (by rw [hL.K];rfl) ?_
 repeat walk_at "m:s"
 refine if_bI (fun h1=>?_) (fun h1=>?_)
 · repeat walk_at "m:s"
   refine g_cint (i:=229) (t:=615) (by rw [hL.K];rfl) ?_
   repeat walk_at "m:s"
   by_cases h2:o≠229
   · exact bI_y (F:=fun b=>K (.bool b) H) h2 (kt ⟨h1,h2⟩)
   · exact bI_n (F:=fun b=>K (.bool b) H) h2 (kf fun h=>h2 h.2)
 · exact bI_n (F:=fun b=>K (.bool b) H) h1 (kf fun h=>h1 h.1)
end
end
section
noncomputable def row8 (o:Int) (b1:Array UInt8) (a c:Int) (b2:Array UInt8) (p:Int) (b3:Array UInt8):List (Str × Value):=[("LDIR_Ord",.int o 0),("LDIR_Name1",.bytes b1 0),("LDIR_Attr",.int a 0),("LDIR_Type",.int 0 0),("LDIR_Chksum",.int c 0),("LDIR_Name2",.bytes b2 0),("LDIR_FstClusLO",.int p 0),("LDIR_Name3",.bytes b3 0)]
theorem valueAt_none {kvs:List (Int × Value)}{o:Int}(h:∀ q∈kvs,q.1≠o):valueAt kvs o=none:=by
 unfold valueAt
 rw [List.find?_eq_none.mpr fun q hq=>by simpa using h q hq];rfl
theorem valueAt_some {kvs:List (Int × Value)}{o:Int}(h:∃ q∈kvs,q.1=o):(valueAt kvs o).isSome=true:=by
 refine xe12 h fun q hq e=>?_
 unfold valueAt
 rw [Option.isSome_map,List.find?_isSome]
 exact ⟨q,hq,by simpa using e⟩
theorem stored_new {kvs:List (Int × Value)}{o:Int}{v:Value}(h:∀ q∈kvs,q.1≠o):stored kvs o v=kvs++[(o,v)]:=by
 unfold stored
 rw [if_neg]
 intro q
 rw [List.any_eq_true] at q
 refine xe12 q fun x hx e=>?_
 exact h x hx (by simpa using e)
section
variable {G:Glb}(hL:L1 G) {A:Around}{stk:List Env}{sv:Sv}{pr:Pr}{H:HP}{K X:KH}{n:Nat}
include hL
set_option maxHeartbeats 4000000 in
theorem add_lfn_c (r:Rm A stk (n+3)) {x dn d:Addr}{ep:Nat}{kvs:List (Int × Value)}{o a c p:Int}{b1 b2 b3:Array UInt8}(hF:FLong H x dn d ep kvs) (hz:kvs.length≤1000) (h0:0≤o) (h1:o≤255)
   (k:isLfn o a→p=0→(∀ q∈kvs,q.1≠o)→∀ w ep' e8,H.o w=none→K .none ((H.put w (.ds e8 (row8 o b1 a c b2 p b3))).put d (.di ep' (kvs++[(o,.ref w)]))))
   (kx:(¬ isLfn o a∨p≠0∨∃ q∈kvs,q.1=o)→∀ C,(C=41∨C=54)→X (.ref C) H):Calls G A stk sv pr (.ref 614) [.ref x] (row8 o b1 a c b2 p b3) K X H:=by
 refine calls_sub ?_
 refine enterN r ["self","LDIR_Ord","LDIR_Name1","LDIR_Attr","LDIR_Type","LDIR_Chksum","LDIR_Name2","LDIR_FstClusLO","LDIR_Name3","mapped_entries"] [("NotAnLFNEntryException",.ref 54),("PyFATException",.ref 41),("errno",.ref 100),("dict",.type "dict"),("zip",.type "zip")] (([("self",.ref x)]:List (Str × Value))++row8 o b1 a c b2 p b3) (ho:=lk1 hL (fun _=>rfl)) rfl (fun s rvs rkw X e1 e2=>?_) (by rw [hL.K];rfl) rfl (by rw [hL.tab];decide)
   (.loc .here (.loc (.next .here) (.loc (.next (.next .here)) (.loc (.next (.next (.next .here))) (.loc (.next (.next (.next (.next .here)))) (.loc (.next (.next (.next (.next (.next .here))))) (.loc (.next (.next (.next (.next (.next (.next .here)))))) (.loc (.next (.next (.next (.next (.next (.next (.next .here))))))) (.loc (.next (.next (.next (.next (.next (.next (.next (.next .here)))))))) .nil))))))))) fun S O r=>?_
 · obtain ⟨x',rfl,ex⟩:=map_one e1
   obtain ⟨w1,r1,rfl,q1,e2⟩:=kw_cons e2
   obtain ⟨w2,r2,rfl,q2,e2⟩:=kw_cons e2
   obtain ⟨w3,r3,rfl,q3,e2⟩:=kw_cons e2
   obtain ⟨w4,r4,rfl,q4,e2⟩:=kw_cons e2
   obtain ⟨w5,r5,rfl,q5,e2⟩:=kw_cons e2
   obtain ⟨w6,r6,rfl,q6,e2⟩:=kw_cons e2
   obtain ⟨w7,r7,rfl,q7,e2⟩:=kw_cons e2
   obtain ⟨w8,r8,rfl,q8,e2⟩:=kw_cons e2
   obtain rfl:=map_nil' e2
   exact ⟨[("self",x'),("LDIR_Ord",w1),("LDIR_Name1",w2),("LDIR_Attr",w3),("LDIR_Type",w4),("LDIR_Chksum",w5),("LDIR_Name2",w6),("LDIR_FstClusLO",w7),("LDIR_Name3",w8)],kp_binds X (by rw [hL.K];intro S;rfl),by simp [row8,ex,q1,q2,q3,q4,q5,q6,q7,q8]⟩
 dsimp only [row8,mkM,List.map,List.append_eq,List.cons_append,List.nil_append,List.map_cons,List.map_nil]
 have hE41:ExcCls G.K (.ref 41):=excCls_of (by rw [hL.K];rfl) (by rw [hL.K];rfl)
 have hE54:ExcCls G.K (.ref 54):=excCls_of (by rw [hL.K];rfl) (by rw [hL.K];rfl)
 repeat walk_at "m:s"
 refine m_ism (f:=.ref 604) hF.1 hF.2.1 rfl (by rw [hL.K];rfl) ?_
 repeat walk_at "m:s"
 refine ⟨keepsK (by rw [hL.K];rfl),calc_of fun sv=>is_lfn_c hL (n:=n+1) r (fun hl=>?_) (fun hl=>?_)⟩
 rotate_left
 · repeat walk_at "m:s"
   try refine if_t ?_
   repeat walk_at "m:s"
   try walk_at "m:0"
   refine x_raise r.hh hE54 ?_
   repeat walk_at "m:s"
   refine ⟨keepsK (by rw [hL.K];rfl),calc_of fun sv=>exc_c hL (n:=n) r (.inr rfl) (.inl ⟨rfl,rfl⟩) fun a oe vs ha h1 h2 h3=>?_⟩
   exact ⟨a,_,oe,vs,rfl,ha,rfl,h1,h2,h3,H,Sub.refl _,kx (.inl hl) _ (.inr rfl)⟩
 repeat walk_at "m:s"
 try refine if_f ?_
 repeat walk_at "m:s"
 refine if_bI (fun hp=>?_) (fun hp=>?_)
 · repeat walk_at "m:s"
   try walk_at "m:0"
   refine x_raise r.hh hE41 ?_
   repeat walk_at "m:s"
   refine g_cint (i:=14) (t:=310) (by rw [hL.K];rfl) ?_
   repeat walk_at "m:s"
   refine ⟨keepsK (by rw [hL.K];rfl),calc_of fun sv=>exc_c hL (n:=n) r (.inl rfl) (.inr rfl) fun a oe vs ha h1 h2 h3=>?_⟩
   exact ⟨a,_,oe,vs,rfl,ha,rfl,h1,h2,h3,H,Sub.refl _,kx (.inr (.inl hp)) _ (.inl rfl)⟩
 have hp:=Classical.not_not.mp hp
 repeat walk_at "m:s"
 refine g_own hF.1 hF.2.1 (v:=.ref d) (by with_reducible repeat first | exact List.mem_cons_self | apply List.mem_cons_of_mem) (by rw [hL.K];rfl) rfl ?_
 repeat walk_at "m:s"
 refine met_di hF.2.2 PySem.F.slot_dict_keys PySem.F.type_dict_keys ?_
 repeat walk_at "m:s"
 refine ⟨keepsB,f_keys hF.2.2 fun v hv=>?_⟩
 repeat walk_at "m:s"
 refine c_in_keys HP.put_same (HP.put_fresh hv hF.2.2) ?_
 by_cases hin:∃ q∈kvs,q.1=o
 · rw [valueAt_some hin]
   repeat walk_at "m:s"
   try refine if_t ?_
   repeat walk_at "m:s"
   try walk_at "m:0"
   refine x_raise r.hh hE41 ?_
   repeat walk_at "m:s"
   refine met_s PySem.F.slot_str_format_m PySem.F.type_str_format_m ?_
   repeat walk_at "m:s"
   refine ⟨keepsB,f_format1 h0 h1 fun y=>?_⟩
   repeat walk_at "m:s"
   refine ⟨keepsK (by rw [hL.K];rfl),calc_of fun sv=>exc_c hL (n:=n) r (.inl rfl) (.inl ⟨rfl,rfl⟩) fun a oe vs ha h1 h2 h3=>?_⟩
   exact ⟨a,_,oe,vs,rfl,ha,rfl,h1,h2,h3,H,Sub.put hv,kx (.inr (.inr hin)) _ (.inl rfl)⟩
 have hin':∀ q∈kvs,q.1≠o:=fun q hq e=>hin ⟨q,hq,e⟩
 rw [valueAt_none hin']
 repeat walk_at "m:s"
 try refine if_f ?_
 repeat walk_at "m:s"
 refine g_cls (a:=.ref 561) (HP.put_fresh hv hF.1) (HP.put_fresh hv hF.2.1) rfl (by rw [hL.K];rfl) ?_
 repeat walk_at "m:s"
 refine ⟨by show 8≤sizeLine;decide,fun t ht=>?_⟩
 repeat walk_at "m:s"
 refine ⟨keepsT,f_zip (lk1 hL (fun _=>rfl)) HP.put_same fun H₁ z TI TO i1 i2 hs1 Z hfr=>?_⟩
 repeat walk_at "m:s"
 refine ⟨keepsT,f_dict_zip (ks:=["LDIR_Ord","LDIR_Name1","LDIR_Attr","LDIR_Type","LDIR_Chksum","LDIR_Name2","LDIR_FstClusLO","LDIR_Name3"]) r.hh Z hs1 hfr (lk1 hL (fun _=>rfl)) rfl HP.put_same rfl (by decide) (by decide) fun w e8 hw=>?_⟩
 repeat walk_at "m:s"
 have hs0:Sub H ((H.put v (.obj (viewObj "dict_keys" d))).put t (.tup [.int o 0,.bytes b1 0,.int a 0,.int 0 0,.int c 0,.bytes b2 0,.int p 0,.bytes b3 0])):=(Sub.put hv).trans (Sub.put ht)
 have hdn:=hs0.2 _ _ hF.2.1
 have hxx:=hs0.2 _ _ hF.1
 have hdd:=hs0.2 _ _ hF.2.2
 have hwH:H.o w=none:=hs0.none hw
 generalize (H.put v (.obj (viewObj "dict_keys" d))).put t (.tup [.int o 0,.bytes b1 0,.int a 0,.int 0 0,.int c 0,.bytes b2 0,.int p 0,.bytes b3 0])=H₂ at hs0 hdn hxx hdd hw ⊢
 repeat walk_at "m:s"
 repeat walk_at "m:s"
 refine g_own (HP.put_fresh hw hxx) (HP.put_fresh hw hdn) (v:=.ref d) (by with_reducible repeat first | exact List.mem_cons_self | apply List.mem_cons_of_mem) (by rw [hL.K];rfl) rfl ?_
 repeat walk_at "m:s"
 refine setI_di (HP.put_fresh hw hdd) (by rw [sizeLine_eq];exact Nat.le_trans (by assumption) (by decide +kernel)) fun ep'=>?_
 repeat walk_at "m:s"
 rw [stored_new hin']
 exact ⟨_,(hs0.same).same,k hl hp hin' w ep' e8 hwH⟩
end
end
section
theorem g_clsint {G:Glb}{S:Sit}{m:Names}{H:HP}{K:KV}{X:KV}{x C d:Addr}{n:Str}{i:Int}{t:Tok}{es:List (Str × Value)}(hx:H.o x=some (.inst C d)) (hd:H.o d=some (.ns es)) (hn:(es.map (·.1)).contains n=false) (hc:clsAt G.K C n (.int i t)=true) (h:K (.int i 0) m H):GetA G S (.ref x) n K X m H:=g_cls hx hd hn hc h
inductive IvD30 (H:HP) (x:Addr) (d:Addr) (kvs:List (Int × Value)) (v:Addr) (i:Nat) (m':Names) (H':HP):Prop
 | mk:(H'=H.put v (.obj (viewObj "dict_keys" d)))→((∀ q∈kvs.take i,Builtin.bitAnd q.1 64≠64))→∀ o1,(m'=([("self",.loc (some (.ref x))),("k",.loc o1),("int",.glo (.type "int"))]:Names))→IvD30 H x d kvs v i m' H'
section
variable {G:Glb}(hL:L1 G) {A:Around}{stk:List Env}{sv:Sv}{pr:Pr}{H:HP}{K X:KH}{n:Nat}
include hL
set_option maxHeartbeats 4000000 in
theorem complete_c (r:Rm A stk (n+1)) {x dn d:Addr}{ep:Nat}{kvs:List (Int × Value)}(hF:FLong H x dn d ep kvs) (h64:kvs.length≤1000)
   (kt:(∃ q∈kvs,Builtin.bitAnd q.1 64=64)→K (.bool true) H) (kf:(∀ q∈kvs,Builtin.bitAnd q.1 64≠64)→K (.bool false) H):Calls G A stk sv pr (.ref 621) [.ref x] [] K X H:=by
 refine calls_sub ?_
 refine enterN r ["self","k"] [("int",.type "int")] [("self",.ref x)] (ho:=lk1 hL (fun _=>rfl)) rfl (fun s rvs rkw X e1 e2=>?_) (by rw [hL.K];rfl) rfl (by rw [hL.tab];decide) (.loc .here .nil) fun S O r=>?_
 · refine xe12 (map_one e1) fun x' zq1 ex=>?_
   obtain rfl:=zq1
   obtain rfl:=map_nil' e2
   exact ⟨_,BindsTo.of_eq rfl,by simp [ex]⟩
 dsimp only [mkM,List.map,List.append_eq,List.cons_append,List.nil_append,List.map_cons,List.map_nil]
 refine ws_abs fun KF XK hk hx=>?_
 repeat walk_at "m:s"
 try walk_at "m:0"
 refine x_for O r.hh ?_
 repeat walk_at "m:s"
 refine g_own hF.1 hF.2.1 (v:=.ref d) (by with_reducible repeat first | exact List.mem_cons_self | apply List.mem_cons_of_mem) (by rw [hL.K];rfl) rfl ?_
 repeat walk_at "m:s"
 refine met_di hF.2.2 PySem.F.slot_dict_keys PySem.F.type_dict_keys ?_
 repeat walk_at "m:s"
 refine ⟨keepsB,f_keys hF.2.2 fun v hv=>?_⟩
 refine ⟨_,_,_,_,itKeys,⟨HP.put_same,HP.put_fresh hv hF.2.2⟩,(IvD30 H x d kvs v),?_,?_,?_⟩
 · exact ⟨rfl,fun c hc=>(by simp at hc),none,rfl⟩
 · rintro pr i m' H₁ hi - yq6
   obtain ⟨rfl,hok,o1,rfl⟩:=yq6
   have O:=O.guard pr
   have hx:=HP.put_fresh (c:=.obj (viewObj "dict_keys" d)) hv hF.1
   have hd:=HP.put_fresh (c:=.obj (viewObj "dict_keys" d)) hv hF.2.1
   have hm:kvs[i]? = some (kvs.getD i (0,.none)):=by simp [List.getD,hi]
   generalize kvs.getD i (0,.none)=q at hm ⊢
   repeat walk_at "m:s"
   refine ⟨keepsT,f_int ?_⟩
   repeat walk_at "m:s"
   refine g_clsint (i:=64) (t:=1037) hx hd rfl (by rw [hL.K];rfl) ?_
   repeat walk_at "m:s"
   refine g_clsint (i:=64) (t:=1037) hx hd rfl (by rw [hL.K];rfl) ?_
   repeat walk_at "m:s"
   refine if_bI (fun h1=>?_) (fun h1=>?_)
   · repeat walk_at "m:s"
     exact hk _ _ _ ⟨H,Sub.put hv,kt ⟨q,List.mem_of_getElem? hm,h1⟩⟩
   · repeat walk_at "m:s"
     refine ⟨⟨HP.put_same,HP.put_fresh hv hF.2.2⟩,rfl,fun c hc=>?_,_,rfl⟩
     rw [List.take_add_one,hm] at hc
     rcases List.mem_append.mp hc with hc | hc
     · exact hok c hc
     · cases hc with
       | head=>exact h1
       | tail _ h=>cases h
 · rintro m' H₁ - yq3
   obtain ⟨rfl,hok,o1,rfl⟩:=yq3
   rw [List.take_of_length_le (Nat.le_refl _)] at hok
   repeat walk_at "m:s"
   exact hk _ _ _ ⟨H,Sub.put hv,kf hok⟩
end
end
section
set_option genInjectivity false
set_option genSizeOf false
noncomputable def nmD41 (p0:Option Value) (p1:Option Value) (p2:Option Value):Names:=[("self",.loc p0),("entries_bytes",.loc p1),("e",.loc p2),("bytes",.glo (.type "bytes"))]
structure Part where
 o:Int
 a:Int
 c:Int
 b1:Array UInt8
 b2:Array UInt8
 b3:Array UInt8
noncomputable def Part.row (q:Part):List (Str × Value):=row8 q.o q.b1 q.a q.c q.b2 0 q.b3
noncomputable def Part.octs (q:Part):List UInt8:=(byteArr [q.o]).toList++q.b1.toList++((byteArr [q.a,0,q.c]).toList++q.b2.toList)++(lo2 0).toList++q.b3.toList
noncomputable def Part.text (q:Part):List UInt8:=q.b1.toList++q.b2.toList++q.b3.toList
structure Part.Ok (q:Part):Prop where
 o:0≤q.o∧q.o<256
 a:0≤q.a∧q.a<256
 c:0≤q.c∧q.c<256
 s1:q.b1.size=10
 s2:q.b2.size=12
 s3:q.b3.size=4
structure PartsIn (H:HP) (kvs:List (Int × Value)) (ps:List (Part × Addr)):Prop where
 kvs:kvs=ps.map fun q=>(q.1.o,.ref q.2)
 row:∀ q∈ps,∃ e8,H.o q.2=some (.ds e8 q.1.row)
 ok:∀ q∈ps,q.1.Ok
 nd:(ps.map fun q=>q.1.o).Nodup
noncomputable def ledp (b:Bool) (p q:Part × Addr):Prop:=if b then q.1.o≤p.1.o else p.1.o≤q.1.o
theorem Part.octs_len {q:Part}(h:q.Ok):q.octs.length=32:=by
 have:=h.s1;have:=h.s2;have:=h.s3
 simp [Part.octs,byteArr,lo2];rw [h.s1,h.s2,h.s3]
theorem Rm.lim {A:Around}{stk:List Env}{n:Nat}(r:Rm A stk n):A.depth<recursionLimit:=Nat.lt_of_le_of_lt (Nat.le_trans (Nat.le_add_right _ _) r.c.depth) (by decide)
theorem flat_next {α:Type}{f:α→List UInt8}{l:List α}{i:Nat}{q:α}(h:l[i]? = some q):(l.take (i+1)).flatMap f=(l.take i).flatMap f++f q:=by
 rw [List.take_add_one,h,List.flatMap_append];simp
theorem flat_len {α:Type}{f:α→List UInt8}{n:Nat}:∀ {l:List α},(∀ q∈l,(f q).length=n)→(l.flatMap f).length=n * l.length
 | [],_=>rfl
 | a::l,h=>by rw [List.flatMap_cons,List.length_append,h a (.head _),flat_len fun q hq=>h q (.tail _ hq),List.length_cons,Nat.mul_succ];lia
section
variable {G:Glb}(hL:L1 G) {A:Around}{stk:List Env}{sv:Sv}{pr:Pr}{H:HP}{K X:KH}{n:Nat}
include hL
theorem parts_gen_c (r:Rm A stk (n+8)) {x dn d:Addr}{ep:Nat}{kvs:List (Int × Value)}{ps ss:List (Part × Addr)}{b:Bool}{kw:List (Str × Value)}(hF:FLong H x dn d ep kvs) (hP:PartsIn H kvs ps) (h64:ps.length<64) (hss:ss.Perm ps) (hso:ss.Pairwise (ledp b)) (hl:LamOk 571 lamPos lamQual H) (hkw:(kw=[]∧b=false)∨kw=([("reverse",.bool b)]:List (Str × Value)))
   (k:∀ a g L env H',H.o L=none→(∀ y co,H.o y=some co→H'.o y=some co)→GenIn G A stk H' a g L 571 env lamPos lamQual (ss.map (·.2))→K (.ref a) H'):Calls G A stk sv pr (.ref 576) [.ref x] kw K X H:=by
 refine get_entries_c hL (n:=n) (b:=b) (ss:=ss.map fun q=>(q.1.o,.ref q.2)) (rows:=ss.map (·.2)) r hF (by rw [hP.kvs,List.length_map];exact h64) ?_ ?_ ?_ ?_ ?_ hl hkw fun a g L env H' hHL hHa hk hl' hG=>k a g L env H' hHL hk hG
 · intro p hp
   rw [hP.kvs,List.mem_map] at hp
   obtain ⟨q,hq,rfl⟩:=hp
   refine xe11 (hP.row q hq) fun e8 h=>?_
   exact ⟨q.2,e8,_,rfl,h,by simp [Part.row,row8,valueAt]⟩
 · rw [hP.kvs,List.map_map];exact hP.nd
 · rw [hP.kvs];exact hss.map _
 · rw [List.pairwise_map];exact hso
 · simp [List.map_map]
set_option maxHeartbeats 4000000 in
theorem fl_bytes_c (r:Rm A stk (n+9)) {x dn d:Addr}{ep:Nat}{kvs:List (Int × Value)}{ps ss:List (Part × Addr)}(hF:FLong H x dn d ep kvs) (hP:PartsIn H kvs ps) (h64:ps.length<64) (hss:ss.Perm ps) (hso:ss.Pairwise (ledp true)) (hl:LamOk 571 lamPos lamQual H) (hx571:x≠571∧dn≠571∧d≠571)
   (k:∀ H',(∀ y co,y≠571→H.o y=some co→H'.o y=some co)→LamOk 571 lamPos lamQual H'→K (.bytes (ss.flatMap fun q=>q.1.octs).toArray 0) H'):Calls G A stk sv pr (.ref 590) [.ref x] [] K X H:=by
 refine enterN r ["self","entries_bytes","e"] [("bytes",.type "bytes")] [("self",.ref x)] (ho:=lk1 hL (fun _=>rfl)) rfl (fun s rvs rkw X e1 e2=>?_) (by rw [hL.K];rfl) rfl (by rw [hL.tab];decide) (.loc .here .nil) fun S O r=>?_
 · obtain ⟨x',rfl,ex⟩:=map_one e1
   obtain rfl:=map_nil' e2
   exact ⟨_,BindsTo.of_eq rfl,by simp [ex]⟩
 dsimp only [mkM,List.map,List.append_eq,List.cons_append,List.nil_append,List.map_cons,List.map_nil]
 repeat walk_at "m:s"
 try walk_at "m:0"
 refine x_forGen O r.hh r.lim ?_
 repeat walk_at "m:s"
 refine m_inst (f:=576) hF.1 hF.2.1 rfl (by rw [hL.K];rfl) ?_
 repeat walk_at "m:s"
 refine ⟨keepsK (by rw [hL.K];rfl),calc_of fun sv=>parts_gen_c hL (n:=n) r hF hP h64 hss hso hl (.inr rfl) fun a g L env H' hHL hk hG=>?_⟩
 refine ⟨a,g,L,571,env,lamPos,lamQual,_,rfl,hG,fun i m'=>∃ o1,m'=(nmD41 (some (.ref x)) (some (.bytes ((ss.take i).flatMap fun q=>q.1.octs).toArray 0)) o1),?_,?_,?_⟩
 · exact ⟨none,rfl⟩
 · rintro pr i w m' Hb hw hHb yq7
   obtain ⟨o1,rfl⟩:=yq7
   have O:=O.guard pr
   rw [List.getElem?_map,Option.map_eq_some_iff] at hw
   obtain ⟨⟨q,w'⟩,hw,rfl⟩:=hw
   dsimp only at *
   have hq:=hss.mem_iff.mp (List.mem_of_getElem? hw)
   refine xe11 (hP.row _ hq) fun e8 hrow=>?_
   have hok:=hP.ok _ hq
   dsimp only at hrow hok
   have hb:Hb.o w'=some (.ds e8 q.row):=by
     rw [hHb,genHc_ne (fun e=>by rw [e,hHL] at hrow;cases hrow) (fun e=>?_)]
     · exact hk _ _ hrow
     · rcases hl with h | ⟨_,_,_,_,h,_⟩<;>· rw [e,h] at hrow;cases hrow
   have hlen:((ss.take i).flatMap fun q=>q.1.octs).length≤32 * 64:=by
     rw [flat_len (n:=32) fun z hz=>Part.octs_len (hP.ok _ (hss.mem_iff.mp (List.mem_of_mem_take hz))),List.length_take]
     exact Nat.mul_le_mul_left 32 (Nat.le_trans (Nat.min_le_right _ _) (Nat.le_trans (Nat.le_of_eq hss.length_eq) (Nat.le_of_lt (by assumption))))
   rw [flat_next hw]
   dsimp only
   generalize ((ss.take i).flatMap fun q=>q.1.octs)=acc at hlen ⊢
   have h1:=hok.s1
   have h2:=hok.s2
   have h3:=hok.s3
   repeat walk_at "m:s"
   refine it_ds hb (v:=.int q.o 0) rfl ?_
   repeat walk_at "m:s"
   refine ⟨by show 1≤sizeLine;decide,fun l1 hl1=>?_⟩
   have hb1:=HP.put_fresh (c:=.list [.int q.o 0]) hl1 hb
   repeat walk_at "m:s"
   refine ⟨keepsT,f_bytes (ns:=[q.o]) r.hh HP.put_same (by simpa using hok.o) (by show 1≤sizeLine;decide) ?_⟩
   repeat walk_at "m:s"
   refine it_ds hb1 (v:=.bytes q.b1 0) rfl ?_
   repeat walk_at "m:s"
   refine b_add_b (by simp [byteArr];lia) (Stk.mk (i_add_b (by simp [byteArr];lia) ?_))
   repeat walk_at "m:s"
   refine it_ds hb1 (v:=.int q.a 0) rfl ?_
   repeat walk_at "m:s"
   refine it_ds hb1 (v:=.int 0 0) rfl ?_
   repeat walk_at "m:s"
   refine it_ds hb1 (v:=.int q.c 0) rfl ?_
   repeat walk_at "m:s"
   refine ⟨by show 3≤sizeLine;decide,fun l2 hl2=>?_⟩
   have hb2:=HP.put_fresh (c:=.list [.int q.a 0,.int 0 0,.int q.c 0]) hl2 hb1
   repeat walk_at "m:s"
   refine ⟨keepsT,f_bytes (ns:=[q.a,0,q.c]) r.hh HP.put_same (by have:=hok.a;have:=hok.c;simp;exact ⟨by assumption,by assumption⟩) (by show 3≤sizeLine;decide) ?_⟩
   repeat walk_at "m:s"
   refine it_ds hb2 (v:=.bytes q.b2 0) rfl ?_
   repeat walk_at "m:s"
   refine b_add_b (by simp [byteArr];lia) (Stk.mk (i_add_b (by simp [byteArr];lia) ?_))
   repeat walk_at "m:s"
   refine it_ds hb2 (v:=.int 0 0) rfl ?_
   repeat walk_at "m:s"
   refine met_i PySem.F.slot_int_to_bytes PySem.F.type_int_to_bytes ?_
   repeat walk_at "m:s"
   refine ⟨keepsB,f_to_bytes2 (by simp) (by simp) (Stk.mk (i_add_b (by simp [lo2,byteArr];rw [h1,h2];exact Nat.le_trans (Nat.add_le_add_right (Nat.add_le_add_right hlen 1) _) (by decide)) ?_))⟩
   repeat walk_at "m:s"
   refine it_ds hb2 (v:=.bytes q.b3 0) rfl (Stk.mk (i_add_b (by simp [lo2,byteArr];rw [h1,h2,h3];exact Nat.le_trans (Nat.add_le_add_right (Nat.add_le_add_right (Nat.add_le_add_right hlen 1) _) _) (by decide)) ?_))
   repeat walk_at "m:s"
   refine ⟨(Sub.put hl1).trans (Sub.put hl2),some (.ref w'),?_⟩
   have e:acc.toArray++(byteArr [q.o]++q.b1)++(byteArr [q.a,0,q.c]++q.b2)++lo2 0++q.b3=(acc++q.octs).toArray:=by
     apply Array.toList_inj.mp
     simp [Part.octs]
   rw [← e];rfl
 · rintro m' H₂ hB yq3
   obtain ⟨o1,rfl⟩:=yq3
   repeat walk_at "m:s"
   rw [List.take_of_length_le (by simp)]
   exact k H₂ (fun y co hy e=>hB.1 y co hy (fun q=>by rw [q,hHL] at e;cases e) (hk y co e)) hB.2
end
end
section
noncomputable def nmD51 (p0:Option Value) (p1:Option Value) (p2:Option Value) (p3:Option Value):Names:=[("self",.loc p0),("name",.loc p1),("e",.loc p2),("h",.loc p3),("decoded16",.glo (.ref 126))]
theorem endsB_yes (p q:List UInt8):endsB (p++q).toArray q.toArray=true:=by
 unfold endsB
 rw [if_neg (by simp;lia),beq_iff_eq]
 apply Array.toList_inj.mp
 simp
theorem endsB_no {b q:List UInt8}(h:∀ p,b≠p++q):endsB b.toArray q.toArray=false:=by
 unfold endsB
 split
 · rfl
 · rename_i hl
   rw [Bool.eq_false_iff]
   intro e
   have e:=congrArg Array.toList (beq_iff_eq.mp e)
   simp only [List.size_toArray,List.extract_toArray,List.extract_eq_take_drop] at e hl
   refine h (b.take (b.length - q.length)) ?_
   have h2:b.length - (b.length - q.length)=(b.drop (b.length - q.length)).length:=by simp
   rw [h2,List.take_length] at e
   conv=>rhs;rhs;rw [← e]
   rw [List.take_append_drop]
theorem cut_neg {α:Type}(p q:List α) (h:q≠[]):cut (p++q) none (some (-(q.length:Int)))=p:=by
 have hq:0<q.length:=List.length_pos_iff.mpr h
 have h2:clipI (p++q).length (some (-(q.length:Int))) ((p++q).length:Int)=(p.length:Int):=by
   unfold clipI
   simp only [List.length_append]
   rw [if_pos (Int.neg_neg_of_pos (Int.ofNat_lt.mpr hq)),show -(q.length:Int)+((p.length+q.length:Nat):Int)=(p.length:Int) by rw [Int.natCast_add,Int.add_comm,Int.add_neg_cancel_right],Int.min_eq_left (Int.ofNat_le.mpr (Nat.le_add_right _ _)),Int.max_eq_right (Int.natCast_nonneg _)]
 unfold cut
 rw [h2]
 simp [clipI]
theorem enc16_ge (l:List Nat):l.length≤(enc16 l).length:=by
 rw [enc16_oct,oct_len]
 unfold un16
 induction l with
 | nil=>exact Nat.le_refl _
 | cons c r ih=>rw [List.flatMap_cons,List.length_append,List.length_cons];rw [Nat.mul_add,Nat.add_comm r.length 1];exact Nat.add_le_add (Nat.le_trans (un1_ne c) (Nat.le_mul_of_pos_left _ (by decide))) ih
theorem whole_no {b:Array UInt8}{lo hi:Option Int}(h:(cut b.toList lo hi).length≠b.size):KBy.whole b lo hi=false:=by
 rw [Bool.eq_false_iff]
 intro hw
 have e:=KBc.whole_picked hw
 rw [picked_cut] at e
 exact h (by rw [← List.size_toArray,e])
theorem text_len {q:Part}(h:q.Ok):q.text.length=26:=by
 have:=h.s1;have:=h.s2;have:=h.s3
 simp [Part.text];lia
theorem mkS_len (l:List Nat):(mkS l).length=l.length:=by show l.toArray.size=_;simp
theorem nul_cps:(("\x00" : Str)).cps=#[0]:=by kernel_rfl
theorem nul_len:(("\x00" : Str)).length=1:=congrArg Array.size nul_cps
theorem ends_zero (l:List Nat):Txt.endswith (mkS (l++[0])) "\x00" = true:=by
 unfold Txt.endswith Builtin.Str.subAt
 rw [mkS_len,nul_len,nul_cps,Bool.and_eq_true,beq_iff_eq]
 refine ⟨by simp,Array.toList_inj.mp ?_⟩
 show (((l++[0]).toArray).extract _ _).toList=_
 simp
theorem ends_not (l:List Nat) (h:∀ c∈l,c≠0):Txt.endswith (mkS l) "\x00" = false:=by
 unfold Txt.endswith Builtin.Str.subAt
 rw [mkS_len,nul_len,nul_cps,Bool.eq_false_iff,ne_eq,Bool.and_eq_true,beq_iff_eq]
 rintro yq0
 obtain ⟨h1,e⟩:=yq0
 have e:(l.toArray.extract (l.length - 1) (l.length - 1+1)).toList=[0]:=congrArg Array.toList e
 rw [List.extract_toArray,List.extract_eq_take_drop,List.toList_toArray] at e
 exact h 0 (List.mem_of_mem_drop (List.mem_of_mem_take (by rw [e];exact .head _))) rfl
section
variable {G:Glb}(hL:L1 G) {A:Around}{stk:List Env}{sv:Sv}{pr:Pr}{H:HP}{K X:KH}{n:Nat}
include hL
set_option maxHeartbeats 4000000 in
theorem fl_text_c (r:Rm A stk (n+9)) {x dn d:Addr}{ep:Nat}{kvs:List (Int × Value)}{ps ss:List (Part × Addr)}{l l':List Nat}{j:Nat}(hF:FLong H x dn d ep kvs) (hP:PartsIn H kvs ps) (h64:ps.length<64) (hss:ss.Perm ps) (hso:ss.Pairwise (ledp false)) (hl:LamOk 571 lamPos lamQual H)
   (ht:(ss.flatMap fun q=>q.1.text)=enc16 l'++List.replicate (2 * j) 255) (hok:∀ c∈l',ok16 c) (hne:∀ p,enc16 l'≠p++[255,255]) (h':(l'=l∧∀ c∈l,c≠0)∨l'=l++[0])
   (k:∀ H',(∀ y co,y≠571→H.o y=some co→H'.o y=some co)→LamOk 571 lamPos lamQual H'→K (.str (mkS l) 0) H'):Calls G A stk sv pr (.ref 597) [.ref x] [] K X H:=by
 refine enterN r ["self","name","e","h"] [("decoded16",.ref 126)] [("self",.ref x)] (ho:=lk1 hL (fun _=>rfl)) rfl (fun s rvs rkw X e1 e2=>?_) (by rw [hL.K];rfl) rfl (by rw [hL.tab];decide) (.loc .here .nil) fun S O r=>?_
 · obtain ⟨x',rfl,ex⟩:=map_one e1
   obtain rfl:=map_nil' e2
   exact ⟨_,BindsTo.of_eq rfl,by simp [ex]⟩
 dsimp only [mkM,List.map,List.append_eq,List.cons_append,List.nil_append,List.map_cons,List.map_nil]
 have hlen0:∀ i,((ss.take i).flatMap fun q=>q.1.text).length≤26 * 64:=fun i=>by
   rw [flat_len (n:=26) fun z hz=>text_len (hP.ok _ (hss.mem_iff.mp (List.mem_of_mem_take hz))),List.length_take]
   exact Nat.mul_le_mul_left 26 (Nat.le_trans (Nat.min_le_right _ _) (Nat.le_trans (Nat.le_of_eq hss.length_eq) (Nat.le_of_lt (by assumption))))
 repeat walk_at "m:s"
 try walk_at "m:0"
 refine x_forGen O r.hh r.lim ?_
 repeat walk_at "m:s"
 refine m_inst (f:=576) hF.1 hF.2.1 rfl (by rw [hL.K];rfl) ?_
 repeat walk_at "m:s"
 refine ⟨keepsK (by rw [hL.K];rfl),calc_of fun sv=>parts_gen_c hL (n:=n) r hF hP h64 hss hso hl (.inl ⟨rfl,rfl⟩) fun a g L env H' hHL hk hG=>?_⟩
 refine ⟨a,g,L,571,env,lamPos,lamQual,_,rfl,hG,fun i m'=>∃ o1 o2,m'=(nmD51 (some (.ref x)) (some (.bytes ((ss.take i).flatMap fun q=>q.1.text).toArray 0)) o1 o2),?_,?_,?_⟩
 · exact ⟨none,none,rfl⟩
 · rintro pr i w m' Hb hw hHb yq7
   obtain ⟨o1,o2,rfl⟩:=yq7
   have O:=O.guard pr
   rw [List.getElem?_map,Option.map_eq_some_iff] at hw
   obtain ⟨⟨q,w'⟩,hw,rfl⟩:=hw
   dsimp only at *
   have hq:=hss.mem_iff.mp (List.mem_of_getElem? hw)
   refine xe11 (hP.row _ hq) fun e8 hrow=>?_
   have hok:=hP.ok _ hq
   dsimp only at hrow hok
   have hb:Hb.o w'=some (.ds e8 q.row):=by
     rw [hHb,genHc_ne (fun e=>by rw [e,hHL] at hrow;cases hrow) (fun e=>?_)]
     · exact hk _ _ hrow
     · rcases hl with h | ⟨_,_,_,_,h,_⟩<;>· rw [e,h] at hrow;cases hrow
   have hlen:=hlen0 i
   rw [flat_next hw]
   dsimp only
   generalize ((ss.take i).flatMap fun q=>q.1.text)=acc at hlen ⊢
   have h1:=hok.s1
   have h2:=hok.s2
   have h3:=hok.s3
   repeat walk_at "m:s"
   try walk_at "m:0"
   refine x_for O r.hh ?_
   repeat walk_at "m:s"
   refine ⟨by show 3≤sizeLine;decide,fun l1 hl1=>?_⟩
   have hb1:=HP.put_fresh (c:=.list [.str "LDIR_Name1" 0,.str "LDIR_Name2" 0,.str "LDIR_Name3" 0]) hl1 hb
   refine ⟨_,_,_,_,itList,HP.put_same,fun i m' H'=>H'=Hb.put l1 (.list [.str "LDIR_Name1" 0,.str "LDIR_Name2" 0,.str "LDIR_Name3" 0])∧∃ o2,m'=(nmD51 (some (.ref x)) (some (.bytes (acc++([q.b1.toList,q.b2.toList,q.b3.toList].take i).flatten).toArray 0)) (some (.ref w')) o2),?_,?_,?_⟩
   · exact ⟨rfl,o2,by simp;rfl⟩
   · rintro pr i m' H₁ hi - yq6
     obtain ⟨rfl,o2,rfl⟩:=yq6
     have O:=O.guard pr
     obtain ⟨y,b,hy,hv,hn,hs⟩:∃ (y:Str) (b:Array UInt8),([.str "LDIR_Name1" 0,.str "LDIR_Name2" 0,.str "LDIR_Name3" 0]:List Value).getD i .none=.str y 0∧valueAt q.row y=some (.bytes b 0)∧([q.b1.toList,q.b2.toList,q.b3.toList].take (i+1)).flatten=([q.b1.toList,q.b2.toList,q.b3.toList].take i).flatten++b.toList∧(([q.b1.toList,q.b2.toList,q.b3.toList].take i).flatten.length+b.size≤26):=by
       rcases i with _ | _ | _ | i
       · exact ⟨_,q.b1,rfl,rfl,by simp,by simp;lia⟩
       · exact ⟨_,q.b2,rfl,rfl,by simp,by simp;lia⟩
       · exact ⟨_,q.b3,rfl,rfl,by simp,by simp;lia⟩
       · exact absurd hi (Nat.not_lt.mpr (Nat.le_add_left 3 i))
     rw [hy]
     generalize ([q.b1.toList,q.b2.toList,q.b3.toList].take i).flatten=ac at hs hn ⊢
     repeat walk_at "m:s"
     refine it_ds hb1 hv (Stk.mk (i_add_b (by simp;lia) ?_))
     repeat walk_at "m:s"
     have e:(acc++ac).toArray++b=(acc++([q.b1.toList,q.b2.toList,q.b3.toList].take (i+1)).flatten).toArray:=by
       rw [hn];apply Array.toList_inj.mp;simp
     rw [e]
     exact ⟨HP.put_same,rfl,_,rfl⟩
   · rintro m' H₁ - yq3
     obtain ⟨rfl,o2,rfl⟩:=yq3
     repeat walk_at "m:s"
     exact ⟨Sub.put hl1,some (.ref w'),o2,by simp [Part.text]⟩
 · rintro m' H₂ hB yq3
   obtain ⟨o1,o2,rfl⟩:=yq3
   have hlenj:=hlen0 ss.length
   rw [List.take_length,ht] at hlenj
   rw [List.length_map,List.take_length,ht]
   have k:=k H₂ (fun y co hy e=>hB.1 y co hy (fun q=>by rw [q,hHL] at e;cases e) (hk y co e)) hB.2
   repeat walk_at "m:s"
   try walk_at "m:0"
   refine x_whileV O (fun j m' H'=>H'=H₂∧j≤2000∧m'=(nmD51 (some (.ref x)) (some (.bytes (enc16 l'++List.replicate (2 * j) 255).toArray 0)) o1 o2)) j ⟨rfl,by simp at hlenj;lia,rfl⟩ ?_
   rintro j m' H₃ yq3
   obtain ⟨rfl,hj,rfl⟩:=yq3
   have hl16:(enc16 l').length≤26 * 64:=by simp at hlenj;lia
   repeat walk_at "m:s"
   refine met_b FB.slot_bytes_endswith FB.type_bytes_endswith ?_
   repeat walk_at "m:s"
   refine ⟨keepsB,f_bendswith ?_⟩
   show vTru G S _ (.bool (endsB (enc16 l'++List.replicate (2 * j) 255).toArray ([255,255]:List UInt8).toArray)) _ _ H₃
   rcases j with _ | j
   · rw [show 2 * 0=0 from rfl,List.replicate_zero,List.append_nil,endsB_no hne]
     repeat walk_at "m:s"
     try refine if_f ?_
     repeat walk_at "m:s"
     have hz:l'.length≤1000000:=by have:=enc16_ge l';exact Nat.le_trans (Nat.le_trans (by assumption) (by assumption)) (by decide +kernel)
     refine ⟨keepsK (by rw [hL.K];rfl),calc_of fun sv=>decoded16_c hL (n:=n+7) r hz hok ?_⟩
     repeat walk_at "m:s"
     refine met_s PySem.F.slot_str_endswith PySem.F.type_str_endswith ?_
     repeat walk_at "m:s"
     refine ⟨keepsB,f_endswith ?_⟩
     rcases h' with ⟨rfl,hz0⟩ | rfl
     · rw [ends_not l' hz0]
       repeat walk_at "m:s"
       try refine if_f ?_
       repeat walk_at "m:s"
       exact k
     · rw [ends_zero]
       repeat walk_at "m:s"
       try refine if_t ?_
       repeat walk_at "m:s"
       repeat walk_at "m:s"
       refine sl_str (lo:=none) (hi:=some (-1)) (by rw [mkS_len,sizeLine_eq];exact Nat.le_trans (by assumption) (by decide +kernel)) ?_
       repeat walk_at "m:s"
       rw [show (⟨(cut (mkS (l++[0])).cps.toList none (some (-1))).toArray⟩:Str)=mkS l by
         show (⟨(cut (l++[0]) none (some (-(([0]:List Nat).length:Int)))).toArray⟩:Str)=_
         rw [cut_neg _ _ (by simp)];rfl]
       exact k
   · have e2:enc16 l'++List.replicate (2 * (j+1)) 255=(enc16 l'++List.replicate (2 * j) 255)++[255,255]:=by
       rw [show 2 * (j+1)=2 * j+2 by exact rfl,← List.replicate_append_replicate,← List.append_assoc];rfl
     rw [e2,endsB_yes]
     repeat walk_at "m:s"
     try refine if_t ?_
     repeat walk_at "m:s"
     have ec:cut (enc16 l'++List.replicate (2 * j) 255++[255,255]).toArray.toList none (some (-2))=enc16 l'++List.replicate (2 * j) 255:=cut_neg _ [255,255] (by simp)
     repeat walk_at "m:s"
     refine sl_bytes (lo:=none) (hi:=some (-2)) (whole_no (by rw [ec];simp)) (by simp;lia) ?_
     rw [ec]
     repeat walk_at "m:s"
     exact ⟨j,Nat.lt_succ_self _,rfl,by exact Nat.le_of_lt (by assumption),rfl⟩
end
end
section
noncomputable def nmD61 (p0:Option Value) (p1:Option Value) (p2:Option Value) (p3:Option Value) (p4:Option Value) (p5:Option Value) (p6:Option Value) (p7:Option Value) (p8:Option Value) (p9:Option Value) (p10:Option Value) (p11:Option Value) (p12:Option Value) (p13:Option Value) (p14:Option Value):Names:=[("dir_name",.loc p0),("short_name",.loc p1),("lfn_entry",.loc p2),("lfn_entry_length",.loc p3),("dir_name_str",.loc p4),("dir_name_modulus",.loc p5),("checksum",.loc p6),("new_sz",.loc p7),("lfn_entries",.loc p8),("i",.loc p9),("lfn_entry_ord",.loc p10),("n",.loc p11),("dirname1",.loc p12),("dirname2",.loc p13),("dirname3",.loc p14),("FATLongDirectoryEntry",.glo (.ref 624)),("encoded16",.glo (.ref 121)),("len",.glo (.builtin "len")),("EightDotThree",.glo (.ref 259)),("PyFATException",.glo (.ref 41)),("errno",.glo (.ref 100)),("range",.glo (.type "range")),("FATDirectoryEntry",.glo (.ref 549))]
theorem cut_mid {α:Type}(l:List α) (a b:Nat) (h:a≤b) (hb:b≤l.length):cut l (some (a:Int)) (some (b:Int))=(l.drop a).take (b - a):=by
 have e1:clipI l.length (some (a:Int)) 0=(a:Int):=clip_nat (by lia)
 have e2:clipI l.length (some (b:Int)) (l.length:Int)=(b:Int):=clip_nat (by lia)
 unfold cut
 rw [e1,e2,Int.toNat_natCast,Int.toNat_natCast]
noncomputable def pad0 (e:List UInt8):List UInt8:=if e.length % 26=0 then e else e++[0,0]
noncomputable def pad (e:List UInt8):List UInt8:=pad0 e++List.replicate ((26 - (pad0 e).length % 26) % 26) 255
noncomputable def ordOf (N i:Nat):Int:=if i+1=N then (i:Int)+65 else (i:Int)+1
noncomputable def partOf (e:List UInt8) (c:Int) (N i:Nat):Part:=⟨ordOf N i,15,c,((e.drop (26 * i)).take 10).toArray,((e.drop (26 * i+10)).take 12).toArray,((e.drop (26 * i+22)).take 4).toArray⟩
theorem ordOf_le {N i:Nat}(hN:N≤60) (hi:i<N):0≤ordOf N i∧ordOf N i≤125:=by unfold ordOf;split<;>lia
theorem ordOf_end {N i:Nat}(h:i+1=N):(i:Int)+65=ordOf N i:=(if_pos h).symm
theorem ordOf_mid {N i:Nat}(h:¬ i+1=N):(i:Int)+1=ordOf N i:=(if_neg h).symm
theorem last_iff {N i:Nat}(hi:i<N):((i:Int)=(N:Int) - 1)↔i+1=N:=⟨fun h=>Int.ofNat_inj.mp (by rw [Int.natCast_add,h];exact Int.sub_add_cancel _ 1),fun h=>by rw [← h];exact (Int.add_sub_cancel (i:Int) 1).symm⟩
theorem ordOf_lfn {N i:Nat}(hN:N≤60) (hi:i<N):ordOf N i≠229:=fun e=>absurd (e▸(ordOf_le hN hi).2:(229:Int)≤125) (by decide)
theorem or64:∀ m:Nat,m<64→Builtin.bitOr 64 (m:Int)=64+(m:Int):=by decide
theorem x_join {G:Glb}{S:Sit}{st:Stmt}{KFl:KF}{X:KV}{m:Names}{H:HP}(Q:Names→HP→Prop) (h:WX G S st (fun fl m H=>fl=.next∧Q m H) X m H) (k:∀ m H,Q m H→KFl .next m H):WX G S st KFl X m H:=W.mono h (fun fl m H q=>by obtain ⟨e,q⟩:=q;rw [e];exact k m H q) fun _ _ _ x=>x
theorem PartsIn.empty {H:HP}:PartsIn H [] []:=⟨rfl,fun q hq=>(by cases hq),fun q hq=>(by cases hq),List.Pairwise.nil⟩
theorem PartsIn.add {H:HP}{kvs:List (Int × Value)}{ps:List (Part × Addr)}{p:Part}{w d:Addr}{ep ep' e8:Nat}(hP:PartsIn H kvs ps) (hw:H.o w=none) (hd:H.o d=some (.di ep kvs)) (ok:p.Ok) (hn:∀ q∈kvs,q.1≠p.o) :
   PartsIn ((H.put w (.ds e8 p.row)).put d (.di ep' (kvs++[(p.o,.ref w)]))) (kvs++[(p.o,.ref w)]) (ps++[(p,w)]) where
 kvs:=by rw [List.map_append,← hP.kvs];rfl
 row:=fun q hq=>by
   have dw:w≠d:=fun e=>by rw [e,hd] at hw;cases hw
   rcases List.mem_append.mp hq with hq | hq
   · refine xe11 (hP.row q hq) fun e h=>?_
     exact ⟨e,HP.put_ne (fun q=>by rw [q,hd] at h;cases h) (HP.put_fresh hw h)⟩
   · obtain rfl:=List.mem_singleton.mp hq
     exact ⟨e8,HP.put_ne dw HP.put_same⟩
 ok:=fun q hq=>by
   rcases List.mem_append.mp hq with hq | hq
   · exact hP.ok q hq
   · obtain rfl:=List.mem_singleton.mp hq;exact ok
 nd:=by
   rw [List.map_append,List.nodup_append]
   refine ⟨hP.nd,List.nodup_cons.mpr ⟨by simp,.nil⟩,fun a ha b hb e=>?_⟩
   obtain ⟨q,hq,rfl⟩:=List.mem_map.mp ha
   obtain rfl:=List.mem_singleton.mp hb
   exact hn (q.1.o,.ref q.2) (by rw [hP.kvs];exact List.mem_map.mpr ⟨q,hq,rfl⟩) e
theorem FLong.add {H:HP}{kvs kvs':List (Int × Value)}{x dn d w:Addr}{ep ep':Nat}{co:CO}(hF:FLong H x dn d ep kvs) (hw:H.o w=none):FLong ((H.put w co).put d (.di ep' kvs')) x dn d ep' kvs':=
 ⟨HP.put_ne (fun q=>by have:=hF.1;rw [q,hF.2.2] at this;cases this) (HP.put_fresh hw hF.1),HP.put_ne (fun q=>by have:=hF.2.1;rw [q,hF.2.2] at this;cases this) (HP.put_fresh hw hF.2.1),HP.put_same⟩
theorem Sub.add {H₀ H:HP}{w d:Addr}{co c':CO}(hs:Sub H₀ H) (hd:H₀.o d=Option.none) (hw:H.o w=Option.none):Sub H₀ ((H.put w co).put d c'):=⟨hs.1,fun a o e=>HP.put_ne (fun q=>by rw [q,hd] at e;cases e) (HP.put_fresh hw (hs.2 a o e))⟩
theorem pad0_le {e:List UInt8}(h:e.length≤255):(pad0 e).length≤257:=by
 unfold pad0
 split
 · exact Nat.le_trans (by assumption) (by decide +kernel)
 · rw [List.length_append];show e.length+2≤257;exact Nat.add_le_add_right h 2
theorem cut_at {f:List UInt8}{z w:Int}{a b:Nat}(hz:z=a) (hw:w=(a+b:Nat)) (hb:a+b≤f.length):cut f.toArray.toList (some z) (some w)=(f.drop a).take b:=by
 subst hz;subst hw
 show cut f _ _=_
 rw [cut_mid f a (a+b) (Nat.le_add_right ..) hb,Nat.add_sub_cancel_left]
theorem le260 {M:Nat}(h:M % 26=0) (h2:M<26 * 11):M≤260:=by
 rw [← Nat.mul_div_cancel' (Nat.dvd_of_mod_eq_zero h)];exact Nat.mul_le_mul_left 26 (Nat.le_of_lt_succ (Nat.div_lt_of_lt_mul h2))
theorem pad_dvd (e:List UInt8):(pad e).length % 26=0:=by unfold pad;simp;exact dvd_pad _ (by decide)
theorem partOf_ok {e:List UInt8}{c:Int}{N i:Nat}(he:e.length=26 * N) (hi:i<N) (hN:N≤60) (hc:0≤c∧c<256):(partOf e c N i).Ok where
 o:=⟨(ordOf_le hN hi).1,Int.lt_of_le_of_lt (ordOf_le hN hi).2 (by decide)⟩
 a:=by show (0:Int)≤15∧(15:Int)<256;decide
 c:=hc
 s1:=by show ((e.drop (26 * i)).take 10).toArray.size=10;simp;exact chunk_min (p:=0) he hi (by decide)
 s2:=by show ((e.drop (26 * i+10)).take 12).toArray.size=12;simp;exact chunk_min he hi (by decide)
 s3:=by show ((e.drop (26 * i+22)).take 4).toArray.size=4;simp;exact chunk_min he hi (by decide)
theorem ordOf_inj {N i j:Nat}(hN:N≤60) (hi:i<N) (hj:j<N) (h:ordOf N i=ordOf N j):i=j:=by unfold ordOf at h;split at h<;>split at h<;>lia
inductive IvD61 (H:HP) (l:List Nat) (xs:Addr) (b:Array UInt8) (x:Addr) (dn:Addr) (d:Addr) (e:List UInt8) (f:List UInt8) (N:Nat) (i:Nat) (m':Names) (H':HP):Prop
 | mk:(Sub H H')→((∃ ep kvs ps,FLong H' x dn d ep kvs∧PartsIn H' kvs ps∧ps.map (·.1)=(List.range i).map (partOf f (chk b.toList) N)))→∀ o1 o2 o3 o4 o5 o6,(m'=(nmD61 (some (.bytes f.toArray 0)) (some (.ref xs)) (some (.ref x)) (some (.int 26 0)) (some (.str (mkS l) 0)) (some (.int ((e.length:Int) % 26) 0)) (some (.int (chk b.toList) 0)) (some (.int ((26 - ((pad0 e).length:Int)) % 26+((pad0 e).length:Int)) 0)) (some (.int (N:Int) 0)) o1 o2 o3 o4 o5 o6))→IvD61 H l xs b x dn d e f N i m' H'
inductive IvD62 (l:List Nat) (xs:Addr) (b:Array UInt8) (x:Addr) (e:List UInt8) (f:List UInt8) (N:Nat) (i:Nat) (H₃:HP) (o3:Option Value) (o4:Option Value) (o5:Option Value) (o6:Option Value) (m':Names) (H':HP):Prop
 | mk:(H'=H₃)→(m'=(nmD61 (some (.bytes f.toArray 0)) (some (.ref xs)) (some (.ref x)) (some (.int 26 0)) (some (.str (mkS l) 0)) (some (.int ((e.length:Int) % 26) 0)) (some (.int (chk b.toList) 0)) (some (.int ((26 - ((pad0 e).length:Int)) % 26+((pad0 e).length:Int)) 0)) (some (.int (N:Int) 0)) (some (.int (i:Int) 0)) (some (.int (ordOf N i) 0)) o3 o4 o5 o6))→IvD62 l xs b x e f N i H₃ o3 o4 o5 o6 m' H'
section
variable {G:Glb}(hL:L1 G) {A:Around}{stk:List Env}{sv:Sv}{pr:Pr}{H:HP}{K X:KH}{n:Nat}
include hL
set_option maxHeartbeats 4000000 in
theorem make_lfn_c (r:Rm A stk (n+5)) {l:List Nat}{dot:Int}{xs sd a:Addr}{b:Array UInt8}(hE:E83 H xs sd (.ref a) true) (ha:H.o a=some (.bar b)) (hb:b.size≤sizeLine) (hz:l.length≤1000000) (hcp:∀ c∈l,c<1114112) (hs:Txt.rfind (mkS l) "/" = -1) (hd:Txt.rfind (mkS l) "." = dot) (h1:dot<l.length) (h2:-1≤dot)
   (kx:conf83 l dot∨255<(enc16 l).length→X (.ref 41) H)
   (k:¬ conf83 l dot→(enc16 l).length≤255→∀ x dn d ep kvs ps H',H.o x=none→H.o dn=none→H.o d=none→Sub H H'→FLong H' x dn d ep kvs→PartsIn H' kvs ps →
     ps.map (·.1)=(List.range ((pad (enc16 l)).length / 26)).map (partOf (pad (enc16 l)) (chk b.toList) ((pad (enc16 l)).length / 26))→K (.ref x) H'):Calls G A stk sv pr (.ref 635) [.str (mkS l) 0,.ref xs] [] K X H:=by
 refine calls_sub ?_
 refine enterN r ["dir_name","short_name","lfn_entry","lfn_entry_length","dir_name_str","dir_name_modulus","checksum","new_sz","lfn_entries","i","lfn_entry_ord","n","dirname1","dirname2","dirname3"] [("FATLongDirectoryEntry",.ref 624),("encoded16",.ref 121),("len",.builtin "len"),("EightDotThree",.ref 259),("PyFATException",.ref 41),("errno",.ref 100),("range",.type "range"),("FATDirectoryEntry",.ref 549)] [("dir_name",.str (mkS l) 0),("short_name",.ref xs)] (ho:=lk1 hL (fun _=>rfl)) rfl (fun s rvs rkw X e1 e2=>?_) (by rw [hL.K];rfl) rfl (by rw [hL.tab];decide) (.loc .here (.loc (.next .here) .nil)) fun S O r=>?_
 · obtain ⟨x',y',rfl,ex,ey⟩:=map_two e1
   obtain rfl:=map_nil' e2
   exact ⟨[("dir_name",x'),("short_name",y')],BindsTo.of_eq rfl,by simp [ex,ey]⟩
 dsimp only [mkM,List.map,List.append_eq,List.cons_append,List.nil_append,List.map_cons,List.map_nil]
 refine ws_cut O 8 ?_
 have hE41:ExcCls G.K (.ref 41):=excCls_of (by rw [hL.K];rfl) (by rw [hL.K];rfl)
 repeat walk_at "m:s"
 refine ⟨keepsK (by rw [hL.K];rfl),calc_of fun sv=>fl_make_c hL (n:=n+2) r fun x dn d H₁ hx hdn hd0 hs1 hF=>?_⟩
 have hE:=(show E83 H₁ xs sd (.ref a) true from ⟨hs1.2 _ _ hE.1,hs1.2 _ _ hE.2⟩)
 have ha:=hs1.2 _ _ ha
 repeat walk_at "m:s"
 refine ⟨keepsK (by rw [hL.K];rfl),calc_of fun sv=>encoded16_c hL (n:=n+3) r (x:=mkS l) (by rw [mkS_len];exact hz) (by show ∀ c∈l.toArray.toList,_;simpa using hcp) ?_⟩
 rw [show (mkS l).cps.toList=l from List.toList_toArray]
 have hel:=enc16_le l
 repeat walk_at "m:s"
 refine ⟨keepsB,f_len_b (by rw [sizeLine_eq,List.size_toArray];exact Nat.le_trans hel (Nat.le_trans (Nat.mul_le_mul_left 4 hz) (by decide))) ?_⟩
 repeat walk_at "m:s"
 refine b_mod (by simp) ?_
 repeat walk_at "m:s"
 refine m_csm (f:=.ref 233) (by rw [hL.K];rfl) (by rw [hL.K];rfl) ?_
 repeat walk_at "m:s"
 refine g_own hE.1 hE.2 (v:=.str "latin-1" 0) (by with_reducible repeat first | exact List.mem_cons_self | apply List.mem_cons_of_mem) (by rw [hL.K];rfl) rfl ?_
 repeat walk_at "m:s"
 refine ⟨keepsK (by rw [hL.K];rfl),calc_of fun sv=>conform_c hL (n:=n+1) r hz hs hd h1 h2 (fun hc=>?_) (fun hc=>?_)⟩
 · repeat walk_at "m:s"
   try refine if_t ?_
   repeat walk_at "m:s"
   try walk_at "m:0"
   refine x_raise r.hh hE41 ?_
   repeat walk_at "m:s"
   refine g_cint (i:=22) (t:=318) (by rw [hL.K];rfl) ?_
   repeat walk_at "m:s"
   refine ⟨keepsK (by rw [hL.K];rfl),calc_of fun sv=>exc_c hL (n:=n+2) r (.inl rfl) (.inr rfl) fun a oe vs ha h1 h2 h3=>?_⟩
   exact ⟨a,_,oe,vs,rfl,ha,rfl,h1,h2,h3,H,hs1,kx (.inl hc)⟩
 repeat walk_at "m:s"
 try refine if_f ?_
 repeat walk_at "m:s"
 refine ⟨keepsB,f_len_b (by rw [sizeLine_eq,List.size_toArray];lia) ?_⟩
 repeat walk_at "m:s"
 refine if_bI (fun hc2=>?_) (fun hc2=>?_)
 · repeat walk_at "m:s"
   try walk_at "m:0"
   refine x_raise r.hh hE41 ?_
   repeat walk_at "m:s"
   refine g_cint (i:=36) (t:=328) (by rw [hL.K];rfl) ?_
   repeat walk_at "m:s"
   refine ⟨keepsK (by rw [hL.K];rfl),calc_of fun sv=>exc_c hL (n:=n+2) r (.inl rfl) (.inr rfl) fun a oe vs ha h1 h2 h3=>?_⟩
   exact ⟨a,_,oe,vs,rfl,ha,rfl,h1,h2,h3,H,hs1,kx (.inr (by rw [List.size_toArray] at hc2;exact Int.ofNat_le.mp (by assumption)))⟩
 rw [List.size_toArray] at hc2 ⊢
 have k:=k hc (by lia)
 have hlen:(enc16 l).length≤255:=by lia
 clear kx hc hc2 hel hcp hs hd h1 h2
 generalize enc16 l=e at k hlen ⊢
 repeat walk_at "m:s"
 refine m_inst (f:=215) hE.1 hE.2 rfl (by rw [hL.K];rfl) ?_
 repeat walk_at "m:s"
 refine ⟨keepsK (by rw [hL.K];rfl),calc_of fun sv=>checksum_c hL (n:=n+2) r hE ha hb ?_⟩
 repeat walk_at "m:s"
 refine ws_join O (fun m' H'=>H'=H₁∧m'=(nmD61 (some (.bytes (pad0 e).toArray 0)) (some (.ref xs)) (some (.ref x)) (some (.int 26 0)) (some (.str (mkS l) 0)) (some (.int ((e.length:Int) % 26) 0)) (some (.int (chk b.toList) 0)) none none none none none none none none)) rfl ?_ ?_
 · repeat walk_at "m:s"
   refine if_bI (fun h26=>?_) (fun h26=>?_)
   · repeat walk_at "m:s"
     refine i_add_b (by simp;exact Nat.le_trans (by assumption) (by decide +kernel)) ?_
     repeat walk_at "m:s"
     have e0:e.toArray++([0,0]:List UInt8).toArray=(pad0 e).toArray:=by
       unfold pad0
       rw [if_neg (by lia)];simp
     rw [e0]
     exact ⟨rfl,rfl,rfl⟩
   · repeat walk_at "m:s"
     have e0:e=pad0 e:=by
       unfold pad0
       rw [if_pos (by lia)]
     rw [← e0]
     exact ⟨rfl,rfl,rfl⟩
 rintro m' H₂ yq2
 obtain ⟨rfl,rfl⟩:=yq2
 have hl0:(pad0 e).length≤257:=pad0_le hlen
 repeat walk_at "m:s"
 refine ⟨keepsB,f_len_b (by rw [sizeLine_eq,List.size_toArray];exact Nat.le_trans (by assumption) (by decide +kernel)) ?_⟩
 repeat walk_at "m:s"
 refine i_mod (by simp) ?_
 repeat walk_at "m:s"
 refine ⟨keepsB,f_len_b (by rw [sizeLine_eq,List.size_toArray];exact Nat.le_trans (by assumption) (by decide +kernel)) ?_⟩
 repeat walk_at "m:s"
 refine ⟨keepsB,f_len_b (by rw [sizeLine_eq,List.size_toArray];exact Nat.le_trans (by assumption) (by decide +kernel)) ?_⟩
 repeat walk_at "m:s"
 rw [List.size_toArray]
 have hfl:(List.replicate ((26 - ((pad0 e).length:Int)) % 26+((pad0 e).length:Int) - ((pad0 e).length:Int)).toNat ([255]:List UInt8)).flatten=List.replicate ((26 - (pad0 e).length % 26) % 26) 255:=by
   rw [show ((26 - ((pad0 e).length:Int)) % 26+((pad0 e).length:Int) - ((pad0 e).length:Int)).toNat=(26 - (pad0 e).length % 26) % 26 from pad_neg _]
   generalize (26 - (pad0 e).length % 26) % 26=q
   induction q with
   | zero=>rfl
   | succ q ih=>rw [List.replicate_succ,List.flatten_cons,ih,List.replicate_succ];rfl
 have hp2:(pad0 e).toArray++(List.replicate ((26 - (pad0 e).length % 26) % 26) (255:UInt8)).toArray=(pad e).toArray:=by unfold pad;simp
 have hpl:(pad e).length≤260:=le260 (pad_dvd e) (by unfold pad;rw [List.length_append,List.length_replicate];exact Nat.lt_of_lt_of_le (Nat.add_lt_add_of_le_of_lt (by assumption) (Nat.mod_lt _ (by decide:26 > 0))) (by decide:257+26≤26 * 11))
 have hd26:=pad_dvd e
 repeat walk_at "m:s"
 refine b_mul_b (by simp) (by rw [Int.add_sub_cancel];exact Int.le_trans (by decide) (Int.emod_nonneg _ (by decide))) (by rw [Int.add_sub_cancel];exact Int.le_trans (Int.le_of_lt (Int.emod_lt_of_pos _ (by decide))) (by decide)) (by simp) ?_
 rw [hfl]
 repeat walk_at "m:s"
 refine i_add_b (by simp;exact Nat.le_trans (Nat.add_le_add (by assumption) (Nat.le_of_lt (Nat.mod_lt _ (by decide:26 > 0)))) (by decide:257+26≤16777216)) ?_
 rw [hp2]
 clear hfl hp2
 generalize pad e=f at hpl hd26 k ⊢
 obtain ⟨N,hN⟩:∃ N,f.length=26 * N:=⟨f.length / 26,(Nat.mul_div_cancel' (Nat.dvd_of_mod_eq_zero hd26)).symm⟩
 have hN10:N≤10:=Nat.le_of_lt_succ (Nat.lt_of_mul_lt_mul_left (a:=26) (hN▸Nat.lt_of_le_of_lt hpl (by decide):26 * N<26 * 11))
 rw [show f.length / 26=N by rw [hN,Nat.mul_div_cancel_left _ (by decide)]] at k
 repeat walk_at "m:s"
 refine ⟨keepsB,f_len_b (by rw [sizeLine_eq,List.size_toArray];exact Nat.le_trans (by assumption) (by decide +kernel)) ?_⟩
 repeat walk_at "m:s"
 refine b_floordiv (by simp) (by simp) ?_
 rw [List.size_toArray,show ((f.length:Int) / 26)=(N:Int) by rw [hN];exact congrArg Nat.cast (Nat.mul_div_cancel_left N (by decide:0<26))]
 repeat walk_at "m:s"
 try walk_at "m:0"
 refine x_for O r.hh ?_
 repeat walk_at "m:s"
 refine ⟨keepsT,f_range1 fun rg t u v hrg=>?_⟩
 have hrs:(Builtin.Range.rangeSize 0 (N:Int) 1).toNat=N:=by rw [rangeSize_nat];exact rfl
 refine ⟨_,_,_,_,itRange (small_one (by simp) (by simp) (by simp) (Int.lt_trans (Int.ofNat_lt.mpr (Nat.lt_succ_of_le hN10)) (by decide))),HP.put_same,(IvD61 H l xs b x dn d e f N),?_,?_,?_⟩
 · exact ⟨hs1.trans (Sub.put hrg),⟨0,[],[],⟨HP.put_fresh hrg hF.1,HP.put_fresh hrg hF.2.1,HP.put_fresh hrg hF.2.2⟩,PartsIn.empty,rfl⟩,none,none,none,none,none,none,rfl⟩
 · rintro pr i m' H₃ hi hR yq6
   obtain ⟨hsb,⟨ep,kvs,ps,hF,hP,hps⟩,o1,o2,o3,o4,o5,o6,rfl⟩:=yq6
   rw [hrs] at hi
   have O:=O.guard pr
   rw [show (0:Int)+(i:Int) * 1=(i:Int) by simp]
   refine vA_join O ?_
   repeat walk_at "m:s"
   refine ws_join O ((IvD62 l xs b x e f N i H₃ o3 o4 o5 o6)) rfl ?_ ?_
   · repeat walk_at "m:s"
     refine if_bI (fun hl=>?_) (fun hl=>?_)
     · repeat walk_at "m:s"
       have e:Builtin.bitOr 64 ((i:Int)+1)=ordOf N i:=by
         rw [show (i:Int)+1=((i+1:Nat):Int) by exact rfl,or64 (i+1) (Nat.lt_of_le_of_lt hi (Nat.lt_of_le_of_lt hN10 (by decide))),← ordOf_end ((last_iff hi).mp hl)];exact Int.add_left_comm 64 (i:Int) 1
       exact ⟨rfl,rfl,by rw [← e];rfl⟩
     · repeat walk_at "m:s"
       have e:(i:Int)+1=ordOf N i:=ordOf_mid fun h=>hl ((last_iff hi).mpr h)
       exact ⟨rfl,rfl,by rw [← e];rfl⟩
   rintro m' H' yq2
   obtain ⟨rfl,rfl⟩:=yq2
   repeat walk_at "m:s"
   refine b_mul (mul_ok (Int.lt_of_lt_of_le (by decide) (Int.natCast_nonneg _)) (Int.lt_trans (Int.ofNat_lt.mpr (Nat.lt_of_lt_of_le hi hN10)) (by decide))) ?_
   repeat walk_at "m:s"
   have c1:cut f.toArray.toList (some ((i:Int) * 26)) (some ((i:Int) * 26+10))=(f.drop (26 * i)).take 10:=cut_at (Int.mul_comm _ _) (by rw [Int.mul_comm];rfl) (chunk_le hN hi (by decide))
   have c2:cut f.toArray.toList (some ((i:Int) * 26+10)) (some ((i:Int) * 26+10+12))=(f.drop (26 * i+10)).take 12:=cut_at (by rw [Int.mul_comm];rfl) (by rw [Int.mul_comm];rfl) (chunk_le (k:=22) hN hi (by decide))
   have c3:cut f.toArray.toList (some ((i:Int) * 26+10+12)) (some ((i:Int) * 26+10+12+4))=(f.drop (26 * i+22)).take 4:=cut_at (by rw [Int.mul_comm];rfl) (by rw [Int.mul_comm];rfl) (chunk_le (k:=26) hN hi (by decide))
   have hk:=(partOf_ok (c:=chk b.toList) hN hi (by exact Nat.le_trans (by assumption) (by decide +kernel)) (by have:=chk_lt b.toList 0 (by decide) (by decide);unfold chk;omega))
   repeat walk_at "m:s"
   refine sl_bytes (lo:=some ((i:Int) * 26)) (hi:=some ((i:Int) * 26+10)) (whole_no (by rw [c1];simp;exact chunk_ne hN hi (by decide))) (by simp;exact Nat.le_trans (by assumption) (by decide +kernel)) ?_
   rw [c1]
   repeat walk_at "m:s"
   refine sl_bytes (lo:=some ((i:Int) * 26+10)) (hi:=some ((i:Int) * 26+10+12)) (whole_no (by rw [c2];simp;exact chunk_ne hN hi (by decide))) (by simp;exact Nat.le_trans (by assumption) (by decide +kernel)) ?_
   rw [c2]
   repeat walk_at "m:s"
   refine sl_bytes (lo:=some ((i:Int) * 26+10+12)) (hi:=some ((i:Int) * 26+10+12+4)) (whole_no (by rw [c3];simp;exact chunk_ne hN hi (by decide))) (by simp;exact Nat.le_trans (by assumption) (by decide +kernel)) ?_
   rw [c3]
   clear c1 c2 c3
   repeat walk_at "m:s"
   refine m_inst (f:=614) hF.1 hF.2.1 rfl (by rw [hL.K];rfl) ?_
   repeat walk_at "m:s"
   refine g_cint (i:=15) (t:=631) (by rw [hL.K];rfl) ?_
   repeat walk_at "m:s"
   have hno:∀ q∈kvs,q.1≠ordOf N i:=fun q hq e=>by
     rw [hP.kvs,List.mem_map] at hq
     obtain ⟨p,hp,rfl⟩:=hq
     have hp1:p.1∈ps.map (·.1):=List.mem_map.mpr ⟨p,hp,rfl⟩
     rw [hps,List.mem_map] at hp1
     refine xe12 hp1 fun j hj ej=>?_
     rw [List.mem_range] at hj
     have:=ordOf_inj (by exact Nat.le_trans (by assumption) (by decide +kernel)) (Nat.lt_trans hj hi) hi (show ordOf N j=ordOf N i by rw [← e,← ej];rfl)
     exact Nat.ne_of_lt hj this
   have hlf:isLfn (ordOf N i) 15:=⟨by decide,ordOf_lfn (Nat.le_trans hN10 (by decide)) hi⟩
   have hkl:kvs.length=i:=by rw [hP.kvs,List.length_map,← List.length_map (f:=fun q:Part × Addr=>q.1),hps];simp
   refine ⟨keepsK (by rw [hL.K];rfl),calc_of fun sv=>add_lfn_c hL (n:=n+1) (o:=ordOf N i) (a:=15) (c:=chk b.toList) (p:=0) (b1:=((f.drop (26 * i)).take 10).toArray) (b2:=((f.drop (26 * i+10)).take 12).toArray) (b3:=((f.drop (26 * i+22)).take 4).toArray) r hF (by lia) hk.o.1 (by have:=hk.o.2;exact Int.le_of_lt_add_one this) (fun _ _ _ w ep' e8 hw=>?_) (fun hbad=>?_)⟩
   · repeat walk_at "m:s"
     refine ⟨HP.put_ne (fun q=>by rw [q,hF.2.2] at hR;cases hR) (HP.put_fresh hw hR),hsb.add hd0 hw,⟨ep',_,_,hF.add hw,PartsIn.add (p:=partOf f (chk b.toList) N i) hP hw hF.2.2 hk hno,?_⟩,_,_,_,_,_,_,rfl⟩
     rw [List.map_append,hps,List.range_succ,List.map_append];rfl
   · rcases hbad with h | h | ⟨q,hq,e⟩
     · exact absurd hlf h
     · exact absurd rfl h
     · exact absurd e (hno q hq)
 · rintro m' H₃ hR yq3
   obtain ⟨hsb,⟨ep,kvs,ps,hF,hP,hps⟩,o1,o2,o3,o4,o5,o6,rfl⟩:=yq3
   rw [hrs] at hps
   repeat walk_at "m:s"
   exact ⟨_,Sub.refl _,k x dn d ep kvs ps H₃ hx hdn hd0 hsb hF hP hps⟩
end
end
section
noncomputable def signs:List Nat:=[97,81,66,109,55,32,46,126,43,1488,8364,128512]
theorem map_cons1 {rvs:List Value}{v:Value}{t:List Value}(h:rvs.map er=v::t):∃ x r,rvs=x::r∧er x=v∧r.map er=t:=by
 cases rvs with
 | nil=>cases h
 | cons a r=>rw [List.map_cons,List.cons.injEq] at h;exact ⟨a,r,rfl,h.1,h.2⟩
section
variable {G:Glb}(hL:L1 G) {A:Around}{stk:List Env}{sv:Sv}{pr:Pr}{H:HP}{K X:KH}{n:Nat}
include hL
theorem signs_c (r:Rm A stk (n+1)) (k:∀ a,H.o a=none→K (.ref a) (H.put a (.list (signs.map fun c=>.str (sgn c) 0)))):Calls G A stk sv pr (.ref 642) [] [] K X H:=by
 refine enterN r [] [] [] (ho:=lk1 hL (fun _=>rfl)) rfl (fun s rvs rkw X e1 e2=>?_) (by rw [hL.K];rfl) rfl (by rw [hL.tab];decide) .nil fun S O r=>?_
 · obtain rfl:=List.map_eq_nil_iff.mp e1
   obtain rfl:=map_nil' e2
   exact ⟨_,BindsTo.of_eq rfl,rfl⟩
 dsimp only [mkM,List.map,List.append_eq,List.cons_append,List.nil_append,List.map_cons,List.map_nil]
 repeat walk_at "m:s"
 refine ⟨by show 12≤sizeLine;decide,fun a ha=>?_⟩
 repeat walk_at "m:s"
 have e:([.str "a" 0,.str "Q" 0,.str "B" 0,.str "m" 0,.str "7" 0,.str " " 0,.str "." 0,.str "~" 0,.str "+" 0,.str "א" 0,.str "€" 0,.str "😀" 0]:List Value)=signs.map fun c=>.str (sgn c) 0:=by kernel_rfl
 rw [e]
 exact k a ha
theorem octets_c (r:Rm A stk (n+1)) {w:Addr}{e8:Nat}{q:Part}{mk:Int}(hw:H.o w=some (.ds e8 q.row)) (hk:q.Ok) (hm:0≤mk∧mk<256) (k:K (.bytes ({ q with a:=mk }:Part).octs.toArray 0) H):Calls G A stk sv pr (.ref 675) [.ref w,.int mk 0] [] K X H:=by
 refine calls_sub ?_
 refine enterN r ["row","mark"] [("bytes",.type "bytes")] [("row",.ref w),("mark",.int mk 0)] (ho:=lk1 hL (fun _=>rfl)) rfl (fun s rvs rkw X e1 e2=>?_) (by rw [hL.K];rfl) rfl (by rw [hL.tab];decide) (.loc .here (.loc (.next .here) .nil)) fun S O r=>?_
 · refine xe23 (map_two e1) fun x' y' zq2 ex ey=>?_
   obtain rfl:=zq2
   obtain rfl:=map_nil' e2
   exact ⟨[("row",x'),("mark",y')],BindsTo.of_eq rfl,by simp [ex,ey]⟩
 dsimp only [mkM,List.map,List.append_eq,List.cons_append,List.nil_append,List.map_cons,List.map_nil]
 have h1:=hk.s1
 have h2:=hk.s2
 have h3:=hk.s3
 repeat walk_at "m:s"
 refine it_ds hw (v:=.int q.o 0) rfl ?_
 repeat walk_at "m:s"
 refine ⟨by show 1≤sizeLine;decide,fun l1 hl1=>?_⟩
 have hb1:=HP.put_fresh (c:=.list [.int q.o 0]) hl1 hw
 repeat walk_at "m:s"
 refine ⟨keepsT,f_bytes (ns:=[q.o]) r.hh HP.put_same (by simpa using hk.o) (by show 1≤sizeLine;decide) ?_⟩
 repeat walk_at "m:s"
 refine it_ds hb1 (v:=.bytes q.b1 0) rfl ?_
 repeat walk_at "m:s"
 refine b_add_b (by simp [byteArr];lia) ?_
 repeat walk_at "m:s"
 refine it_ds hb1 (v:=.int q.c 0) rfl ?_
 repeat walk_at "m:s"
 refine ⟨by show 3≤sizeLine;decide,fun l2 hl2=>?_⟩
 have hb2:=HP.put_fresh (c:=.list [.int mk 0,.int 0 0,.int q.c 0]) hl2 hb1
 repeat walk_at "m:s"
 refine ⟨keepsT,f_bytes (ns:=[mk,0,q.c]) r.hh HP.put_same (by have:=hk.c;simp;exact ⟨by assumption,by assumption⟩) (by show 3≤sizeLine;decide) ?_⟩
 repeat walk_at "m:s"
 refine b_add_b (by simp [byteArr];lia) ?_
 repeat walk_at "m:s"
 refine it_ds hb2 (v:=.bytes q.b2 0) rfl ?_
 repeat walk_at "m:s"
 refine b_add_b (by simp [byteArr];lia) ?_
 repeat walk_at "m:s"
 refine ⟨by show 2≤sizeLine;decide,fun l3 hl3=>?_⟩
 have hb3:=HP.put_fresh (c:=.list [.int 0 0,.int 0 0]) hl3 hb2
 repeat walk_at "m:s"
 refine ⟨keepsT,f_bytes (ns:=[0,0]) r.hh HP.put_same (by decide) (by show 2≤sizeLine;decide) ?_⟩
 repeat walk_at "m:s"
 refine b_add_b (by simp [byteArr];lia) ?_
 repeat walk_at "m:s"
 refine it_ds hb3 (v:=.bytes q.b3 0) rfl ?_
 repeat walk_at "m:s"
 refine b_add_b (by simp [byteArr];lia) ?_
 repeat walk_at "m:s"
 have e:byteArr [q.o]++q.b1++byteArr [mk,0,q.c]++q.b2++byteArr [0,0]++q.b3=({ q with a:=mk }:Part).octs.toArray:=by
   apply Array.toList_inj.mp
   simp [Part.octs,show byteArr [0,0]=lo2 0 from rfl]
 rw [e]
 exact ⟨H,((Sub.put hl1).trans (Sub.put hl2)).trans (Sub.put hl3),k⟩
set_option maxHeartbeats 2000000 in
theorem taken_c (r:Rm A stk (n+4)) {x dn d:Addr}{ep:Nat}{kvs:List (Int × Value)}{w:Addr}{e8:Nat}{q:Part}{o mk p:Int}(hF:FLong H x dn d ep kvs) (hz:kvs.length≤1000) (hw:H.o w=some (.ds e8 q.row)) (h0:0≤o) (h1:o≤255)
   (k:isLfn o mk→p=0→(∀ z∈kvs,z.1≠o)→∀ w' ep' e8,H.o w'=none→K (.bool true) ((H.put w' (.ds e8 ({ q with o:=o,a:=mk }:Part).row)).put d (.di ep' (kvs++[(o,.ref w')]))))
   (kf:(¬ isLfn o mk∨p≠0∨∃ z∈kvs,z.1=o)→K (.bool false) H):Calls G A stk sv pr (.ref 682) [.ref x,.ref w,.int o 0,.int mk 0,.int p 0] [] K X H:=by
 refine enterN r ["entry","row","number","mark","place"] [("PyFATException",.ref 41)] [("entry",.ref x),("row",.ref w),("number",.int o 0),("mark",.int mk 0),("place",.int p 0)] (ho:=lk1 hL (fun _=>rfl)) rfl (fun s rvs rkw X e1 e2=>?_) (by rw [hL.K];rfl) rfl (by rw [hL.tab];decide) (.loc .here (.loc (.next .here) (.loc (.next (.next .here)) (.loc (.next (.next (.next .here))) (.loc (.next (.next (.next (.next .here)))) .nil))))) fun S O r=>?_
 · obtain rfl:=map_nil' e2
   obtain ⟨v1,r1,rfl,q1,e1⟩:=map_cons1 e1
   obtain ⟨v2,r2,rfl,q2,e1⟩:=map_cons1 e1
   obtain ⟨v3,r3,rfl,q3,e1⟩:=map_cons1 e1
   obtain ⟨v4,r4,rfl,q4,e1⟩:=map_cons1 e1
   obtain ⟨v5,r5,rfl,q5,e1⟩:=map_cons1 e1
   obtain rfl:=List.map_eq_nil_iff.mp e1
   exact ⟨[("entry",v1),("row",v2),("number",v3),("mark",v4),("place",v5)],BindsTo.of_eq rfl,by simp [q1,q2,q3,q4,q5]⟩
 dsimp only [mkM,List.map,List.append_eq,List.cons_append,List.nil_append,List.map_cons,List.map_nil]
 repeat walk_at "m:s"
 try walk_at "m:0"
 refine x_try O rfl ?_
 repeat walk_at "m:s"
 refine m_inst (f:=614) hF.1 hF.2.1 rfl (by rw [hL.K];rfl) ?_
 repeat walk_at "m:s"
 refine it_ds hw (v:=.bytes q.b1 0) rfl ?_
 repeat walk_at "m:s"
 refine it_ds hw (v:=.int q.c 0) rfl ?_
 repeat walk_at "m:s"
 refine it_ds hw (v:=.bytes q.b2 0) rfl ?_
 repeat walk_at "m:s"
 refine it_ds hw (v:=.bytes q.b3 0) rfl ?_
 repeat walk_at "m:s"
 refine ⟨keepsK (by rw [hL.K];rfl),calc_of fun sv=>add_lfn_c hL (n:=n) (o:=o) (a:=mk) (c:=q.c) (p:=p) (b1:=q.b1) (b2:=q.b2) (b3:=q.b3) r hF hz h0 h1 (fun g1 g2 g3 w' ep' e8 hw'=>?_) (fun hbad C hC=>?_)⟩
 · repeat walk_at "m:s"
   have k:=k g1 g2 g3 w' ep' e8 hw'
   rw [g2]
   exact k
 · refine ⟨.ref 41,.inl ⟨_,rfl⟩,by rcases hC with rfl | rfl<;>· rw [hL.K];rfl,fun e pr=>?_⟩
   have O:=(O.guard pr).mark e
   refine ⟨?_,?_⟩
   · repeat walk_at "m:s"
     exact ⟨rfl,rfl,rfl⟩
   · repeat walk_at "m:s"
     exact kf hbad
theorem taken_no (r:Rm A stk (n+4)) {x dn d:Addr}{ep:Nat}{kvs:List (Int × Value)}{w:Addr}{e8:Nat}{q:Part}{o mk p:Int}(hF:FLong H x dn d ep kvs) (hz:kvs.length≤1000) (hw:H.o w=some (.ds e8 q.row)) (h0:0≤o) (h1:o≤255)
   (hno:isLfn o mk→p=0→(∀ z∈kvs,z.1≠o)→False) (kf:K (.bool false) H):Calls G A stk sv pr (.ref 682) [.ref x,.ref w,.int o 0,.int mk 0,.int p 0] [] K X H:=
 taken_c hL r hF hz hw h0 h1 (fun a b c=>(hno a b c).elim) fun _=>kf
theorem taken_yes (r:Rm A stk (n+4)) {x dn d:Addr}{ep:Nat}{kvs:List (Int × Value)}{w:Addr}{e8:Nat}{q:Part}{o mk:Int}(hF:FLong H x dn d ep kvs) (hz:kvs.length≤1000) (hw:H.o w=some (.ds e8 q.row)) (h0:0≤o) (h1:o≤255) (hl:isLfn o mk) (hn:∀ z∈kvs,z.1≠o)
   (k:∀ w' ep' e8,H.o w'=none→K (.bool true) ((H.put w' (.ds e8 ({ q with o:=o,a:=mk }:Part).row)).put d (.di ep' (kvs++[(o,.ref w')])))):Calls G A stk sv pr (.ref 682) [.ref x,.ref w,.int o 0,.int mk 0,.int 0 0] [] K X H:=
 taken_c hL r hF hz hw h0 h1 (fun _ _ _=>k) fun h=>by
   rcases h with h | h | ⟨z,hz,e⟩
   · exact absurd hl h
   · exact absurd rfl h
   · exact absurd e (hn z hz)
end
end
section
noncomputable def nmE21 (p0:Option Value) (p1:Option Value) (p2:Option Value) (p3:Option Value) (p4:Option Value) (p5:Option Value):Names:=[("text",.loc p0),("units",.loc p1),("sign",.loc p2),("point",.loc p3),("high",.loc p4),("low",.loc p5),("ord",.glo (.builtin "ord")),("divmod",.glo (.builtin "divmod"))]
theorem un16_next (l:List Nat) {i:Nat}(h:i<l.length):un16 (l.take (i+1))=un16 (l.take i)++un1 (l.getD i 0):=by
 unfold un16;rw [take_next l 0 h,List.flatMap_append];simp
theorem un16_le (l:List Nat):(un16 l).length≤2 * l.length:=by
 unfold un16
 induction l with
 | nil=>exact Nat.le_refl _
 | cons c r ih=>
   rw [List.flatMap_cons,List.length_append,List.length_cons]
   have:(un1 c).length≤2:=by unfold un1;split<;>simp
   rw [Nat.mul_succ,Nat.add_comm]
   exact Nat.add_le_add ih this
theorem cpI_app (a b:List Nat):cpI (a++b)=cpI a++cpI b:=List.map_append
inductive IvE20 (H:HP) (l:List Nat) (a:Addr) (i:Nat) (m':Names) (H':HP):Prop
 | mk:(Sub H H')→(H'.o a=some (.list (intL (cpI (un16 (l.take i))))))→∀ o1 o2 o3 o4,(m'=(nmE21 (some (.str (mkS l) 0)) (some (.ref a)) o1 o2 o3 o4))→IvE20 H l a i m' H'
section
variable {G:Glb}(hL:L1 G) {A:Around}{stk:List Env}{sv:Sv}{pr:Pr}{H:HP}{K X:KH}{n:Nat}
include hL
set_option maxHeartbeats 2000000 in
theorem units_c (r:Rm A stk (n+1)) {l:List Nat}(hz:l.length≤1000000) (k:∀ a H',H.o a=none→Sub H H'→H'.o a=some (.list (intL (cpI (un16 l))))→K (.ref a) H'):Calls G A stk sv pr (.ref 656) [.str (mkS l) 0] [] K X H:=by
 refine enterN r ["text","units","sign","point","high","low"] [("ord",.builtin "ord"),("divmod",.builtin "divmod")] [("text",.str (mkS l) 0)] (ho:=lk1 hL (fun _=>rfl)) rfl (fun s rvs rkw X e1 e2=>?_) (by rw [hL.K];rfl) rfl (by rw [hL.tab];decide) (.loc .here .nil) fun S O r=>?_
 · refine xe12 (map_one e1) fun x zq1 ex=>?_
   obtain rfl:=zq1
   obtain rfl:=map_nil' e2
   exact ⟨_,BindsTo.of_eq rfl,by simp [ex]⟩
 dsimp only [mkM,List.map,List.append_eq,List.cons_append,List.nil_append,List.map_cons,List.map_nil]
 repeat walk_at "m:s"
 refine ⟨Nat.zero_le _,fun a ha=>?_⟩
 repeat walk_at "m:s"
 try walk_at "m:0"
 refine x_for O r.hh ?_
 repeat walk_at "m:s"
 refine ⟨_,_,_,_,itStr,trivial,(IvE20 H l a),?_,?_,?_⟩
 · exact ⟨Sub.put ha,HP.put_same,none,none,none,none,rfl⟩
 · rintro pr i m' H₁ hi - yq6
   obtain ⟨hs,hu,o1,o2,o3,o4,rfl⟩:=yq6
   have O:=O.guard pr
   have hi':i<l.length:=by simpa [mkS] using hi
   have hlen:(intL (cpI (un16 (l.take i)))).length≤2000000:=by
     have:=un16_le (l.take i)
     rw [List.length_take] at this
     simp only [intL,cpI,List.length_map];exact Nat.le_trans this (Nat.mul_le_mul_left 2 (Nat.le_trans (Nat.min_le_right _ _) (by assumption)):_≤2 * 1000000)
   have hn:=un16_next l hi'
   rw [show chr1 (mkS l) i=.str ⟨#[l.getD i 0]⟩ 0 from by unfold chr1;rw [show (mkS l).cps.toList=l from List.toList_toArray]]
   generalize l.getD i 0=c at hn ⊢
   repeat walk_at "m:s"
   refine ⟨keepsB,f_ord ?_⟩
   repeat walk_at "m:s"
   refine if_bI (fun hlt=>?_) (fun hlt=>?_)
   · repeat walk_at "m:s"
     refine met_l hu PySem.F.slot_list_append PySem.F.type_list_append ?_
     repeat walk_at "m:s"
     refine ⟨keepsB,f_append hu (by rw [sizeLine_eq];exact Nat.le_trans (by assumption) (by decide +kernel)) ?_⟩
     rw [intL_snoc]
     repeat walk_at "m:s"
     have e:cpI (un16 (l.take i))++[(c:Int)]=cpI (un16 (l.take (i+1))):=by
       rw [hn,cpI_app,un1,if_pos (by exact Int.ofNat_le.mp (by assumption))];rfl
     rw [e]
     exact ⟨trivial,hs.upd ha,HP.put_same,_,_,_,_,rfl⟩
   · repeat walk_at "m:s"
     refine ⟨keepsB,f_divmod (by decide) (by decide) fun t ht=>?_⟩
     repeat walk_at "m:s"
     try walk_at "m:0"
     refine a_tup2 O r.hh HP.put_same ?_
     have hu:=HP.put_fresh (c:=.tup [.int (((c:Int) - 65536) / 1024) 0,.int (((c:Int) - 65536) % 1024) 0]) ht hu
     repeat walk_at "m:s"
     refine met_l hu PySem.F.slot_list_append PySem.F.type_list_append ?_
     repeat walk_at "m:s"
     refine ⟨keepsB,f_append hu (by rw [sizeLine_eq];exact Nat.le_trans (by assumption) (by decide +kernel)) ?_⟩
     rw [intL_snoc]
     repeat walk_at "m:s"
     refine met_l HP.put_same PySem.F.slot_list_append PySem.F.type_list_append ?_
     repeat walk_at "m:s"
     refine ⟨keepsB,f_append HP.put_same (by rw [sizeLine_eq];simp only [intL,List.length_map,List.length_append,List.length_singleton] at hlen ⊢;exact Nat.lt_of_le_of_lt (by assumption) (by decide +kernel)) ?_⟩
     rw [intL_snoc]
     repeat walk_at "m:s"
     have e:cpI (un16 (l.take i))++[(55296:Int)+((c:Int) - 65536) / 1024]++[(56320:Int)+((c:Int) - 65536) % 1024]=cpI (un16 (l.take (i+1))):=by
       rw [hn,cpI_app,un1,if_neg fun h=>hlt (Int.ofNat_lt.mpr h),List.append_assoc,show (c:Int) - 65536=((c - 65536:Nat):Int) from sub_cast fun h=>hlt (Int.ofNat_lt.mpr h)]
       exact rfl
     rw [e]
     exact ⟨trivial,(((hs.trans (Sub.put ht)).upd ha).upd ha),HP.put_same,_,_,_,_,rfl⟩
 · rintro m' H₁ - yq3
   obtain ⟨hs,hu,o1,o2,o3,o4,rfl⟩:=yq3
   rw [show (mkS l).cps.size=l.length from List.size_toArray,List.take_length] at hu
   repeat walk_at "m:s"
   exact k a H₁ ha hs hu
end
end
section
noncomputable def nmE31 (p0:Option Value) (p1:Option Value):Names:=[("text",.loc p0),("sign",.loc p1),("parts",.loc none),("len",.glo (.builtin "len"))]
noncomputable def allow:List Nat:=[81,66,55,32,126,46]
theorem allow_cps:(("QB7 ~." : Str)).cps.toList=allow:=by kernel_rfl
noncomputable def shortA (l:List Nat):Prop:=(∀ c∈l,c∈allow) ∧
 (((Txt.split (mkS l) ".").length=1∧l.length≤8)∨((Txt.split (mkS l) ".").length=2∧0<((Txt.split (mkS l) ".").getD 0 "").length∧((Txt.split (mkS l) ".").getD 0 "").length≤8∧((Txt.split (mkS l) ".").getD 1 "").length≤3))
theorem notin_allow (c:Nat):(!(!(Builtin.Str.occurrences (("QB7 ~." : Str)) ⟨#[c]⟩ 0 (("QB7 ~." : Str)).length 1).isEmpty))=bI (c∉allow):=by
 rw [StrLaws.found_one,allow_cps,bI_dec,bI_neg]
inductive IvE30 (H:HP) (l:List Nat) (i:Nat) (m':Names) (H':HP):Prop
 | mk:(H'=H)→((∀ c∈l.take i,c∈allow))→∀ o1,(m'=(nmE31 (some (.str (mkS l) 0)) o1))→IvE30 H l i m' H'
section
variable {G:Glb}(hL:L1 G) {A:Around}{stk:List Env}{sv:Sv}{pr:Pr}{H:HP}{K X:KH}{n:Nat}
include hL
set_option maxHeartbeats 2000000 in
theorem short_c (r:Rm A stk (n+1)) {l:List Nat}(hz:l.length≤1000000) (kt:shortA l→K (.bool true) H) (kf:¬ shortA l→K (.bool false) H):Calls G A stk sv pr (.ref 649) [.str (mkS l) 0] [] K X H:=by
 refine calls_sub ?_
 refine enterN r ["text","sign","parts"] [("len",.builtin "len")] [("text",.str (mkS l) 0)] (ho:=lk1 hL (fun _=>rfl)) rfl (fun s rvs rkw X e1 e2=>?_) (by rw [hL.K];rfl) rfl (by rw [hL.tab];decide) (.loc .here .nil) fun S O r=>?_
 · refine xe12 (map_one e1) fun x zq1 ex=>?_
   obtain rfl:=zq1
   obtain rfl:=map_nil' e2
   exact ⟨_,BindsTo.of_eq rfl,by simp [ex]⟩
 dsimp only [mkM,List.map,List.append_eq,List.cons_append,List.nil_append,List.map_cons,List.map_nil]
 repeat walk_at "m:s"
 try walk_at "m:0"
 refine x_for O r.hh ?_
 repeat walk_at "m:s"
 refine ⟨_,_,_,_,itStr,trivial,(IvE30 H l),?_,?_,?_⟩
 · exact ⟨rfl,fun c hc=>(by simp at hc),none,rfl⟩
 · rintro pr i m' H₁ hi - yq6
   obtain ⟨rfl,hok,o1,rfl⟩:=yq6
   have O:=O.guard pr
   have hi':i<l.length:=by simpa [mkS] using hi
   rw [show chr1 (mkS l) i=.str ⟨#[l.getD i 0]⟩ 0 from by unfold chr1;rw [show (mkS l).cps.toList=l from List.toList_toArray]]
   have hm:l[i]? = some (l.getD i 0):=by simp [List.getD,hi']
   generalize l.getD i 0=c at hm ⊢
   repeat walk_at "m:s"
   rw [notin_allow]
   repeat walk_at "m:s"
   refine if_bI (fun hlt=>?_) (fun hlt=>?_)
   · repeat walk_at "m:s"
     exact ⟨H₁,Sub.refl _,kf fun h=>hlt (h.1 c (List.mem_of_getElem? hm))⟩
   · repeat walk_at "m:s"
     refine ⟨trivial,rfl,fun z hz=>?_,_,rfl⟩
     rw [List.take_add_one,hm] at hz
     rcases List.mem_append.mp hz with hz | hz
     · exact hok z hz
     · cases hz with
       | head=>exact Classical.not_not.mp hlt
       | tail _ h=>cases h
 · rintro m' H₁ - yq3
   obtain ⟨rfl,hok,o1,rfl⟩:=yq3
   rw [show (mkS l).cps.size=l.length from List.size_toArray,List.take_length] at hok
   have hsp:=split_le (mkS l) "."
   rw [mkS_len] at hsp
   repeat walk_at "m:s"
   refine met_s PySem.F.slot_str_split PySem.F.type_str_split ?_
   repeat walk_at "m:s"
   refine ⟨keepsB,f_split (by decide) (by rw [mkS_len,sizeLine_eq];exact Nat.le_trans (by assumption) (by decide +kernel)) (by
     have h1:=length_partsBetween (mkS l) (Builtin.Str.occurrences (mkS l) "." 0 (mkS l).length ((mkS l).length+1)) (("." : Str)).length
     have h2:=StrLaws.occ_length_le (mkS l) "." 0 (mkS l).length ((mkS l).length+1)
     rw [mkS_len] at h1 h2 ⊢
     rw [sizeLine_eq];lia) fun a ha=>?_⟩
   have hst:Sub H₁ (H₁.put a (.list (strL (Txt.split (mkS l) ".")))):=Sub.put ha
   have hj:=StrLaws.join_split (mkS l) "."
   unfold shortA at kt kf
   generalize Txt.split (mkS l) "." = ps at kt kf hsp hst hj ⊢
   have hpl:(strL ps).length=ps.length:=by simp [strL]
   repeat walk_at "m:s"
   refine ⟨keepsB,f_len_l HP.put_same (by rw [hpl,sizeLine_eq];lia) ?_⟩
   rw [hpl]
   repeat walk_at "m:s"
   have out:∀ {p:Prop},(p→K (.bool true) H₁)→(¬ p→K (.bool false) H₁)→K (.bool (bI p)) H₁:=fun {p} a c=>by
     by_cases h:p
     · rw [bI_iff.mpr h];exact a h
     · rw [bI_not.mpr h];exact c h
   repeat walk_at "m:s"
   refine if_bI (fun h1=>?_) (fun h1=>?_)
   · repeat walk_at "m:s"
     refine ⟨keepsB,f_len_s (by rw [mkS_len,sizeLine_eq];exact Nat.le_trans (by assumption) (by decide +kernel)) ?_⟩
     rw [mkS_len]
     repeat walk_at "m:s"
     exact ⟨H₁,hst,out (fun h=>kt ⟨hok,.inl ⟨by lia,by exact Int.ofNat_le.mp (by assumption)⟩⟩) fun h=>kf fun q=>by rcases q.2 with q | q<;>lia⟩
   repeat walk_at "m:s"
   refine ⟨keepsB,f_len_l HP.put_same (by rw [hpl,sizeLine_eq];lia) ?_⟩
   rw [hpl]
   repeat walk_at "m:s"
   refine if_bI (fun h2=>?_) (fun h2=>?_)
   rotate_left
   · exact ⟨H₁,hst,out (fun h=>absurd h h2) fun h=>kf fun q=>by rcases q.2 with q | q<;>lia⟩
   obtain ⟨p0,p1,rfl⟩:∃ p0 p1,ps=[p0,p1]:=by
     rcases ps with _ | ⟨p0,_ | ⟨p1,_ | ⟨p2,tl⟩⟩⟩
     · exact absurd h2 (by decide)
     · exact absurd h2 (by simp)
     · exact ⟨p0,p1,rfl⟩
     · exact absurd h2 (by simp only [List.length_cons];lia)
   have hj2:p0.length+1+p1.length=l.length:=by
     have:=congrArg Str.length hj
     rw [mkS_len] at this
     rw [← this]
     show p0.cps.size+1+p1.cps.size=(p0.cps++(("."):Str).cps++p1.cps).size
     rw [Array.size_append,Array.size_append,show (("."):Str).cps.size=1 by kernel_rfl]
   repeat walk_at "m:s"
   refine it_list HP.put_same (by simp) (by simp [strL]) (by rw [hpl,sizeLine_eq];simp) ?_
   repeat walk_at "m:s"
   refine ⟨keepsB,f_len_s (x:=p0) (by rw [sizeLine_eq];lia) ?_⟩
   repeat walk_at "m:s"
   refine if_bI (fun h3=>?_) (fun h3=>?_)
   rotate_left
   · repeat walk_at "m:s"
     rw [bI_not.mpr h3]
     repeat walk_at "m:s"
     try refine if_f ?_
     repeat walk_at "m:s"
     exact ⟨H₁,hst,kf fun q=>by rcases q.2 with q | ⟨_,q,_⟩;exact absurd q.1 (by simp);exact h3 (by have q:0<p0.length:=q;exact Int.ofNat_le.mpr (by assumption))⟩
   repeat walk_at "m:s"
   refine if_bI (fun h4=>?_) (fun h4=>?_)
   rotate_left
   · repeat walk_at "m:s"
     rw [bI_not.mpr h4]
     exact ⟨H₁,hst,kf fun q=>by rcases q.2 with q | ⟨_,_,q,_⟩;exact absurd q.1 (by simp);exact h4 (by have q:p0.length≤8:=q;exact Int.ofNat_le.mpr (by assumption))⟩
   repeat walk_at "m:s"
   refine it_list HP.put_same (by simp) (by simp [strL]) (by rw [hpl,sizeLine_eq];simp) ?_
   repeat walk_at "m:s"
   refine ⟨keepsB,f_len_s (x:=p1) (by rw [sizeLine_eq];lia) ?_⟩
   repeat walk_at "m:s"
   refine ⟨H₁,hst,out (fun h5=>kt ⟨hok,.inr ⟨rfl,?_,?_,?_⟩⟩) fun h5=>kf fun q=>?_⟩
   · show 0<p0.length;exact Int.ofNat_le.mp (by assumption)
   · show p0.length≤8;exact Int.ofNat_le.mp (by assumption)
   · show p1.length≤3;exact Int.ofNat_le.mp (by assumption)
   · rcases q.2 with q | ⟨_,_,_,q⟩
     · exact absurd q.1 (by simp)
     · exact h5 (by have q:p1.length≤3:=q;exact Int.ofNat_le.mpr (by assumption))
end
end
section
section
variable {G:Glb}{S:Sit}{m:Names}{H:HP}{X:KV}{KFl:KF}{elt ite:Expr}{x y:Str}{px:Pos}{ifs:List Expr}{scope:Scope}{pos:Pos}
theorem x_comp1C {py p:Pos}(O:S.Ok G) (hh:S.A.handled=none) (hc:CompOk scope)
   (h:WE G S ite (fun v m H=>CompC G S scope (.Name x px) ifs (EltP G elt) (fun ys H=>∀ D,H.o D=none→∃ c o,(y,Nm.cel c)∈m∧H.o c=some (.cell o)∧KFl .next m ((H.put c (.cell (some (.ref D)))).put D (.list ys))) v m H) X m H)
   {b:Bool}(hsw:swapsWith (.ListComp elt [⟨.Name x px,ite,ifs,0⟩] scope pos) (some (.Name y py)) p.line S.env=pure b:=by with_unfolding_all rfl) (hs:∀ x,foldedSetIterable ite S.env x=pure x:=by intro _;with_unfolding_all rfl) :
   WX G S (.Assign [.Name y py] (.ListComp elt [⟨.Name x px,ite,ifs,0⟩] scope pos) p) KFl X m H:=by
 cases b with
 | false=>
   repeat walk_at "m:s"
   try walk_at "m:0"
   refine x_asg (W.post (e_comp1 (K:=fun v m H=>∃ c o,(y,Nm.cel c)∈m∧H.o c=some (.cell o)∧KFl .next m (H.put c (.cell (some v)))) O hh hc (W.post h fun v m H q=>?_) hs) fun v m H ⟨c,o,hm,ho,k⟩=>a_name (sto_cel O hm ho k)) hsw
   obtain ⟨cs,ls,gs,h1,h2,h3,n,vs,Ob,P,T,hP,I,h0,turn,fin⟩:=q
   refine ⟨cs,ls,gs,h1,h2,h3,n,vs,Ob,P,T,hP,I,h0,turn,fun ys m' H' p i D hD=>?_⟩
   refine xe23 (fin ys m' H' p i D hD) fun c o hm ho k=>?_
   have hne:D≠c:=HP.fne hD ho
   rw [HP.put_comm (Ne.symm hne)] at k
   exact ⟨c,o,hm,HP.put_fresh hD ho,k⟩
 | true=>
 unfold WX
 refine (exec_Assign_Name_used _ _ _ _ hsw ..).symm▸?_
 refine W.bind (W.standAt ?_)
 intro s mm M R
 refine wpAny_bind ?_
 refine (?_:wpAny _ _ (do let _ ← comprehension (.ListComp elt [⟨.Name x px,ite,ifs,0⟩] scope pos) scope S.env _ (newList []) false (eval ite S.env) (some (assign (.Name y py) S.env))) _ _ s)
 refine wpAny_bind ?_
 refine comp_core (K:=fun ys m H=>∀ D,H.o D=none→∃ c o,(y,Nm.cel c)∈m∧H.o c=some (.cell o)∧KFl .next m ((H.put c (.cell (some (.ref D)))).put D (.list ys))) (Q:=fun _ s'=>wpAny G.M S.A (pure ()) (fun _ s'=>wpAny G.M S.A (pure Flow.next) (Post G S fun f=>KFl (erF f)) (PostX G S X) s') (PostX G S X) s') O hh turn1 (fun cs mm C D=>elt_ok (S:=compSit S scope cs mm C)) (fun _ _=>rfl) hs hc h ?_ s mm M R
 intro C D m H mm mm' ys s' M R a k hne hf
 refine xe23 (k D (a.casesOn fun _ _ _ _ _ q _=>q)) fun c o hm ho k=>?_
 have hDp:=a.npr
 refine xe12 (a.guard R) fun oD R₁ hO=>?_
 refine (?_:wpAny G.M S.A (assign (.Name y py) S.env (.ref D)) _ _ _)
 refine wpAny_mono ((a_name (p:=py) (fun rv ev=>storeCel (G:=G) (S:={ S with sv:=(C,mm')::S.sv,pr:=(D,oD)::S.pr }) (X:=noX) (KU:=fun _ m₂ H₂=>m₂=m∧H₂=H.put c (.cell (some (.ref D)))) ⟨O.kind,O.loc,O.glob,O.blt,O.frames,O.co,O.top⟩ hm ho ev ⟨rfl,rfl⟩)) (.ref D) rfl s' mm M R₁.swap) ?_ fun _ _ q=>q.no.elim
 rintro _ s₂ yq2
 obtain ⟨m₂,H₂,mm₂,M₂,R₂,rfl,rfl⟩:=yq2
 have R₃:RelC G S.stk ((C,mm')::(S.L,mm₂)::S.sv) ((D,oD)::S.pr) _ s₂:=R₂.swap
 have a₂:=AccAt.back R₃ hO hDp
 refine ⟨mm',(R₃.ns _ (.head _)).1,fun h' sb=>?_⟩
 obtain ⟨rvs,⟨n,hl⟩,e,a1,a2,a3,a4⟩:=a₂
 have R':=R₃.unguard.dropFrame hf (tk:=s₂.toks) sb
 refine wpAny_pure (wpAny_pure ⟨_,(H.put c (.cell (some (.ref D)))).put D (.list ys),mm₂,M₂,R'.grow (tk:=s₂.toks) (dr:=s₂.drawn) (fun b o e=>e) (fun b co e'=>?_) rfl,k⟩)
 by_cases q:b=D
 · subst q
   rw [HP.put_same] at e';cases e'
   exact .inr ⟨a1,fun q=>a2 (.tail _ q),a4,_,(sb.2 _ (Ne.symm hne)).trans hl,rvs,n,rfl,e⟩
 · rw [HP.put_ne q rfl] at e';exact .inl e'
end
noncomputable def bitsOf (t:Int):List Int:=[t / 128 % 2,t / 64 % 2,t / 32 % 2,t / 16 % 2,t / 8 % 2,t / 4 % 2,t / 2 % 2,t % 2]
noncomputable def rotB (t:Int):List Int:=[t % 2,t / 128 % 2,t / 64 % 2,t / 32 % 2,t / 16 % 2,t / 8 % 2,t / 4 % 2,t / 2 % 2]
noncomputable def w7 (k:Nat):Int:=2 ^ (7 - k)
noncomputable def psum (bs:List Int) (k:Nat):Int:=((List.range k).map fun j=>bs.getD j 0 * w7 j).sum
noncomputable def chkI (ns:List Int):Int:=ns.foldl chkStep 0
theorem psum_succ (bs:List Int) (k:Nat):psum bs (k+1)=psum bs k+bs.getD k 0 * w7 k:=by
 unfold psum;rw [List.range_succ,List.map_append,List.sum_append];simp
theorem mod_dbl (t:Int) {d e:Int}(hd:0≤d) (he:d * 2=e):t % e=t % d+t / d % 2 * d:=by
 subst he
 have h1:=Int.mul_ediv_add_emod t d
 have h2:=Int.mul_ediv_add_emod t (d * 2)
 have h3:=Int.mul_ediv_add_emod (t / d) 2
 rw [Int.ediv_ediv_of_nonneg hd] at h3
 rw [← h3,Int.mul_add,← Int.mul_assoc] at h1
 rw [Int.mul_comm _ d]
 generalize d * (t / d % 2)=x at h1 ⊢
 generalize d * 2 * (t / (d * 2))=y at h1 h2
 exact Int.add_left_cancel (a:=y) (by rw [h2,Int.add_comm _ x,← Int.add_assoc,h1])
theorem psum_bits (t:Int):psum (bitsOf t) 8=t % 256:=by
 show t / 128 % 2 * 128+(t / 64 % 2 * 64+(t / 32 % 2 * 32+(t / 16 % 2 * 16+(t / 8 % 2 * 8+(t / 4 % 2 * 4+(t / 2 % 2 * 2+(t % 2 * 1+0)))))))=t % 256
 rw [mod_dbl t (d:=128) (e:=256) (by decide) rfl,mod_dbl t (d:=64) (e:=128) (by decide) rfl,mod_dbl t (d:=32) (e:=64) (by decide) rfl,mod_dbl t (d:=16) (e:=32) (by decide) rfl,mod_dbl t (d:=8) (e:=16) (by decide) rfl,mod_dbl t (d:=4) (e:=8) (by decide) rfl,mod_dbl t (d:=2) (e:=4) (by decide) rfl,Int.mul_one,Int.add_zero]
 generalize t / 128 % 2 * 128=a,t / 64 % 2 * 64=b,t / 32 % 2 * 32=c,t / 16 % 2 * 16=d,t / 8 % 2 * 8=e,t / 4 % 2 * 4=f,t / 2 % 2 * 2=g,t % 2=h
 ac_rfl
theorem rot_lin {a b r:Int}(h0:0≤b) (h1:b<2) (h:a * 2+b=r):b * 128+a=r / 2+r % 2 * 128:=by
 subst h
 rw [Int.mul_add_ediv_right _ _ (by decide),Int.mul_add_emod_self_right,Int.ediv_eq_zero_of_lt h0 h1,Int.emod_eq_of_lt h0 h1,Int.add_zero,Int.add_comm]
theorem psum_rot (t:Int):psum (rotB t) 8=t % 256 / 2+t % 256 % 2 * 128:=by
 refine rot_lin (a:=t / 128 % 2 * 64+(t / 64 % 2 * 32+(t / 32 % 2 * 16+(t / 16 % 2 * 8+(t / 8 % 2 * 4+(t / 4 % 2 * 2+(t / 2 % 2 * 1+0))))))) (Int.emod_nonneg t (by decide)) (Int.emod_lt_of_pos t (by decide)) ?_
 rw [← psum_bits t]
 refine (?_:_+t % 2=t / 128 % 2 * 128+(t / 64 % 2 * 64+(t / 32 % 2 * 32+(t / 16 % 2 * 16+(t / 8 % 2 * 8+(t / 4 % 2 * 4+(t / 2 % 2 * 2+(t % 2 * 1+0))))))))
 simp only [Int.add_mul,Int.mul_assoc,Int.add_assoc,Int.mul_one,Int.add_zero]
 rfl
theorem or128:∀ m:Nat,m<128→Builtin.bitOr (m:Int) 128=(m:Int)+128∧Builtin.bitOr (m:Int) 0=(m:Int):=by decide +kernel
theorem chkStep_eq {v c:Int}(h0:0≤v) (h1:v<256) (hc:0≤c):chkStep v c=(v / 2+v % 2 * 128+c) % 256:=by
 unfold chkStep
 have ha:Builtin.bitAnd v 1=v % 2:=and_mask h0 1
 refine (ha ..).symm▸?_;refine (show (2:Int) ^ (7:Int).toNat=128 by decide).symm▸?_;refine (show (2:Int) ^ (1:Int).toNat=2 by decide).symm▸?_
 have ho:Builtin.bitOr (v / 2) (v % 2 * 128)=v / 2+v % 2 * 128:=by
   obtain ⟨m,hm⟩:∃ m:Nat,v / 2=(m:Int):=⟨(v / 2).toNat,(Int.toNat_of_nonneg (Int.ediv_nonneg h0 (by decide))).symm⟩
   have:=or128 m (Int.ofNat_lt.mp (hm▸Int.ediv_lt_of_lt_mul (by decide) (Int.lt_of_lt_of_le h1 (by decide)):(m:Int)<128))
   refine (hm ..).symm▸?_
   rcases Int.emod_two_eq v with h | h
   · refine (h ..).symm▸?_;refine (Int.zero_mul ..).symm▸?_;refine (this.2 ..).symm▸?_;exact rfl
   · rw [h,Int.one_mul,this.1]
 refine (ho ..).symm▸?_
 have:=and_mask (a:=v / 2+v % 2 * 128+c) (Int.add_nonneg (Int.add_nonneg (Int.ediv_nonneg h0 (by decide)) (Int.mul_nonneg (Int.emod_nonneg _ (by decide)) (by decide))) hc) 8
 rw [show (2:Int) ^ 8 - 1=255 by decide] at this
 refine (this ..).symm▸?_;rfl
theorem intL_at {ns:List Int}{i:Nat}(h:i<ns.length):(intL ns).getD i .none=.int (ns.getD i 0) 0:=by simp [intL,List.getD,h]
theorem mod2 (x:Int):0≤x % 2∧x % 2<2:=⟨Int.emod_nonneg x (by decide),Int.emod_lt_of_pos x (by decide)⟩
theorem rotB_01 (t:Int) (j:Nat) (hj:j<8):0≤(rotB t).getD j 0∧(rotB t).getD j 0<2:=by
 have h:∀ x∈rotB t,0≤x∧x<2:=List.forall_mem_cons.mpr ⟨mod2 _,List.forall_mem_cons.mpr ⟨mod2 _,List.forall_mem_cons.mpr ⟨mod2 _,List.forall_mem_cons.mpr ⟨mod2 _,List.forall_mem_cons.mpr ⟨mod2 _,List.forall_mem_cons.mpr ⟨mod2 _,List.forall_mem_cons.mpr ⟨mod2 _,List.forall_mem_cons.mpr ⟨mod2 _,fun _ h=>absurd h List.not_mem_nil⟩⟩⟩⟩⟩⟩⟩⟩
 rw [List.getD,List.getElem?_eq_getElem (show j<(rotB t).length from hj)]
 exact h _ (List.getElem_mem _)
theorem pow7 {j:Nat}:(2:Int) ^ (7 - (j:Int)).toNat=w7 j:=by unfold w7;rw [show (7 - (j:Int)).toNat=7 - j by simp]
theorem w7_pos:∀ j:Nat,j<8→0<w7 j∧w7 j≤128:=by decide
theorem bits2:Builtin.Int.intBits 2=2:=by decide
theorem bitsOf_map (t:Int):bitsOf t=(List.range 8).map fun k=>t / w7 k % 2:=by
 refine (?_:_=[t / 128 % 2,t / 64 % 2,t / 32 % 2,t / 16 % 2,t / 8 % 2,t / 4 % 2,t / 2 % 2,t / 1 % 2])
 rw [Int.ediv_one];rfl
theorem bitsOf_get (t:Int) (k:Nat) (h:k<8):(bitsOf t).getD k 0=t / w7 k % 2:=by
 rw [bitsOf_map,List.getD,List.getElem?_map,List.getElem?_range h];rfl
noncomputable def sumM (l c c1:Addr) (o1 o2:Option Value):Names:=[("octets",.loc (some (.ref l))),("octet",.loc o1),("k",.loc o2),("total",.cel c),("bits",.cel c1),("range",.glo (.type "range")),("sum",.glo (.builtin "sum"))]
inductive SumI (H:HP) (l c c1:Addr) (ns:List Int) (i:Nat):Names→HP→Prop
 | mk (a:Addr) (t:Int) (o o1 o2:Option Value) {H':HP}(hs:Sub H H') (h1:H'.o c1=some (.cell (some (.ref a)))) (h2:H'.o a=some (.list (intL (bitsOf t)))) (h3:0≤t) (h4:t % 256=chkI (ns.take i)) (h5:H'.o c=some (.cell o)):SumI H l c c1 ns i (sumM l c c1 o1 o2) H'
inductive SumJ (H:HP) (l c c1 a:Addr) (z t:Int) (j:Nat):Names→HP→Prop
 | mk (o2:Option Value) {H':HP}(hs:Sub H H') (h1:H'.o c1=some (.cell (some (.ref a)))) (h2:H'.o a=some (.list (intL (rotB t)))) (h3:H'.o c=some (.cell (some (.int (z+psum (rotB t) j) 0)))):SumJ H l c c1 a z t j (sumM l c c1 (some (.int z 0)) o2) H'
inductive CI (H:HP) (f:Nat→List Value) (g:Option Value→Names) (i:Nat):List Value→Names→HP→Prop
 | mk (o:Option Value):CI H f g i (f i) (g o) H
section
variable {G:Glb}(hL:L1 G) {A:Around}{stk:List Env}{sv:Sv}{pr:Pr}{H:HP}{K X:KH}{n:Nat}
include hL
set_option maxHeartbeats 4000000 in
theorem sum_c (r:Rm A stk (n+1)) {l:Addr}{ns:List Int}(hl:H.o l=some (.list (intL ns))) (hr:∀ z∈ns,0≤z∧z<256) (k:K (.int (chkI ns) 0) H):Calls G A stk sv pr (.ref 661) [.ref l] [] K X H:=by
 refine calls_sub ?_
 refine enterC r ["octets","octet","k"] [("range",.type "range"),("sum",.builtin "sum")] [("octets",.ref l)] (ho:=lk1 hL (fun _=>rfl)) rfl (fun s rvs rkw X e1 e2=>?_) (by rw [hL.K];rfl) (by rw [hL.tab];decide) ?_
 · refine xe12 (map_one e1) fun x zq1 ex=>?_
   obtain rfl:=zq1
   obtain rfl:=map_nil' e2
   exact ⟨_,BindsTo.of_eq rfl,by simp [ex]⟩
 repeat first | refine cells_skip (by decide) ?_ | refine cells_cell fun c hc=>?_ | refine cells_nil ?_
 rename_i c1 hc1
 refine ⟨rfl,_,_,.loc .here .nil,fun S O r=>?_⟩
 dsimp only [mkM,List.map,List.append_eq,List.cons_append,List.nil_append,List.map_cons,List.map_nil]
 refine ws_abs fun KF XK hk hx=>?_
 have hcc:c≠c1:=HP.fne hc HP.put_same
 have hcH:H.o c=none:=HP.put_none hc
 repeat walk_at "m:s"
 refine ⟨by show 8≤sizeLine;decide,fun a ha=>?_⟩
 have ha1:a≠c1:=HP.fne ha (HP.put_ne (Ne.symm hcc) HP.put_same)
 have ha2:a≠c:=HP.fne ha HP.put_same
 have haH:H.o a=none:=HP.put_none (HP.put_none ha)
 repeat walk_at "m:s"
 refine sto_cel O (lk_mem rfl) (HP.put_ne (Ne.symm ha1) (HP.put_ne (Ne.symm hcc) HP.put_same)) ?_
 repeat walk_at "m:s"
 try walk_at "m:0"
 refine x_for O r.hh ?_
 repeat walk_at "m:s"
 have hs0:Sub H ((((H.put c1 (.cell none)).put c (.cell none)).put a (.list (intL (bitsOf 0)))).put c1 (.cell (some (.ref a)))):=(((Sub.put hc1).trans (Sub.put hc)).trans (Sub.put ha)).upd hc1
 refine ⟨_,_,_,_,itList,hs0.2 _ _ hl,SumI H l c c1 ns,?_,?_,?_⟩
 · exact .mk a 0 none none none hs0 HP.put_same (HP.put_ne ha1 HP.put_same) (by decide) rfl (HP.put_ne hcc (HP.put_ne (Ne.symm ha2) HP.put_same))
 · rintro pr i m' H₁ hi hlist yq6
   obtain ⟨a,t,ot,o1,o2,hs,hb,hbl,ht,hchk,htc⟩:=yq6
   refine asg_abs fun KF XK hk hx=>?_
   have O:=O.guard pr
   rw [intL_len] at hi
   refine (intL_at hi ..).symm▸?_
   have hz:=hr _ (List.getElem_mem hi)
   have hzi:ns.getD i 0=ns[i]:=by simp [List.getD,hi]
   rw [← hzi] at hz
   have hnx:chkI (ns.take (i+1))=chkStep (chkI (ns.take i)) (ns.getD i 0):=by
     unfold chkI;refine (take_next ns 0 hi ..).symm▸?_;refine (List.foldl_append ..).symm▸?_;rfl
   generalize ns.getD i 0=z at hz hnx ⊢
   have hca:∀ {a:Addr},H₁.o a=none→a≠c1∧a≠c:=fun {a} h=>⟨HP.fne h hb,HP.fne h htc⟩
   repeat walk_at "m:s"
   refine it_list hbl (by decide) (by show (7:Int)<8;decide) (by show 8≤sizeLine;decide) ?_
   refine (show (intL (bitsOf t)).getD (7:Int).toNat .none=.int (t % 2) 0 from rfl).symm▸?_
   repeat walk_at "m:s"
   refine ⟨by show 1≤sizeLine;decide,fun l1 hl1=>?_⟩
   have hb2:=HP.put_fresh (c:=.list [.int (t % 2) 0]) hl1 hb
   repeat walk_at "m:s"
   refine sl_list (lo:=none) (hi:=some 7) (HP.put_fresh hl1 hbl) (by show 8≤sizeLine;decide) fun l2 hl2=>?_
   repeat walk_at "m:s"
   refine b_add_l (HP.put_fresh hl2 HP.put_same) HP.put_same (by show 8≤sizeLine;decide) fun l3 hl3=>?_
   refine (show ([.int (t % 2) 0]:List Value)++cut (intL (bitsOf t)) none (some 7)=intL (rotB t) from rfl).symm▸?_
   have hs4:=((Sub.put (c:=.list [.int (t % 2) 0]) hl1).trans (Sub.put (c:=.list (cut (intL (bitsOf t)) none (some 7))) hl2)).trans (Sub.put (c:=.list (intL (rotB t))) hl3)
   have hl31:=(hca (HP.put_none (HP.put_none hl3))).1
   have hl32:=(hca (HP.put_none (HP.put_none hl3))).2
   have hl34:=HP.put_same (H:=(H₁.put l1 (.list [.int (t % 2) 0])).put l2 (.list (cut (intL (bitsOf t)) none (some 7)))) (a:=l3) (c:=.list (intL (rotB t)))
   generalize ((H₁.put l1 (.list [.int (t % 2) 0])).put l2 (.list (cut (intL (bitsOf t)) none (some 7)))).put l3 (.list (intL (rotB t)))=H₄ at hs4 hl34 ⊢
   repeat walk_at "m:s"
   refine sto_cel O (lk_mem rfl) (hs4.2 _ _ hb) ?_
   repeat walk_at "m:s"
   refine sto_cel O (lk_mem rfl) (HP.put_ne hcc (hs4.2 _ _ htc)) ?_
   have g1:((H₄.put c1 (.cell (some (.ref l3)))).put c (.cell (some (.int z 0)))).o c1=some (.cell (some (.ref l3))):=HP.put_ne (Ne.symm hcc) HP.put_same
   have g2:((H₄.put c1 (.cell (some (.ref l3)))).put c (.cell (some (.int z 0)))).o l3=some (.list (intL (rotB t))):=HP.put_ne hl32 (HP.put_ne hl31 hl34)
   have g3:((H₄.put c1 (.cell (some (.ref l3)))).put c (.cell (some (.int z 0)))).o c=some (.cell (some (.int z 0))):=HP.put_same
   have g4:Sub H ((H₄.put c1 (.cell (some (.ref l3)))).put c (.cell (some (.int z 0)))):=((hs.trans hs4).upd hc1).upd hcH
   generalize (H₄.put c1 (.cell (some (.ref l3)))).put c (.cell (some (.int z 0)))=H₅ at g1 g2 g3 g4 ⊢
   clear hs4 hl34 hb2
   repeat walk_at "m:s"
   try walk_at "m:0"
   refine x_for O r.hh ?_
   repeat walk_at "m:s"
   refine ⟨keepsT,f_range1 fun rg t1 u1 v1 hrg=>?_⟩
   have hrs:(Builtin.Range.rangeSize 0 8 1).toNat=8:=by rw [rangeSize_nat];rfl
   refine ⟨_,_,_,_,itRange (small_one (by decide) (by decide) (by decide) (by decide)),HP.put_same,SumJ H l c c1 l3 z t,?_,?_,?_⟩
   · exact .mk _ (g4.trans (Sub.put hrg)) (HP.put_fresh hrg g1) (HP.put_fresh hrg g2) ((Int.add_zero z).symm▸HP.put_fresh hrg g3)
   · rintro pr j m' H₂ hj hR yq6
     obtain ⟨o3,q1,q2,q3,q4⟩:=yq6
     refine asg_abs fun KF XK hk hx=>?_
     rw [hrs] at hj
     have O:=O.guard pr
     refine (show (0:Int)+(j:Int) * 1=(j:Int) by simp).symm▸?_
     repeat walk_at "m:s"
     try walk_at "m:0"
     refine x_aug O (by exact lk_mem rfl) (.inr (.inr ⟨c,rfl,q4⟩)) ?_
     repeat walk_at "m:s"
     refine it_list q3 (by exact Int.natCast_nonneg _) (by show (j:Int)<8;exact Int.ofNat_le.mpr (by assumption)) (by show 8≤sizeLine;decide) ?_
     refine (Int.toNat_natCast ..).symm▸?_;refine (intL_at (show j<(rotB t).length from hj) ..).symm▸?_
     repeat walk_at "m:s"
     refine b_pow (by lia) (by rw [bits2];lia) ?_
     have hw:=rotB_01 t j hj
     refine (pow7 ..).symm▸?_
     repeat walk_at "m:s"
     refine b_mul (mul_ok (Int.lt_of_lt_of_le (by decide) hw.1) (Int.lt_trans hw.2 (by decide))) (i_add (sto_cel O (by exact lk_mem rfl) q4 ?_))
     refine (show z+psum (rotB t) j+(rotB t).getD j 0 * w7 j=z+psum (rotB t) (j+1) by rw [psum_succ,Int.add_assoc]).symm▸?_
     repeat walk_at "m:s"
     have hrc:rg≠c:=fun q=>by rw [q,q4] at hR;cases hR
     exact hk _ _ _ ⟨HP.put_ne hrc hR,.mk _ (q1.upd hcH) (HP.put_ne (Ne.symm hcc) q2) (HP.put_ne hl32 q3) HP.put_same⟩
   · rintro m' H₂ hR yq3
     obtain ⟨o3,q1,q2,q3,q4⟩:=yq3
     rw [hrs,psum_rot] at q4
     have hT:0≤z+(t % 256 / 2+t % 256 % 2 * 128)∧(z+(t % 256 / 2+t % 256 % 2 * 128)) % 256=chkI (ns.take (i+1)):=by
       rw [hnx,← hchk,chkStep_eq (by exact Int.emod_nonneg _ (by decide +kernel)) (by exact Int.emod_lt_of_pos _ (by decide +kernel)) hz.1]
       exact ⟨Int.add_nonneg hz.1 (Int.add_nonneg (Int.ediv_nonneg (Int.emod_nonneg _ (by decide)) (by decide)) (Int.mul_nonneg (Int.emod_nonneg _ (by decide)) (by decide))),by rw [Int.add_comm z]⟩
     generalize z+(t % 256 / 2+t % 256 % 2 * 128)=T at q4 hT ⊢
     clear hchk hnx g1 g2 g3 g4
     repeat walk_at "m:s"
     try walk_at "m:0"
     refine x_comp1C O r.hh ⟨rfl,rfl,rfl,rfl⟩ ?_
     repeat walk_at "m:s"
     refine ⟨keepsT,f_range1 fun rg2 t2 u2 v2 hrg2=>?_⟩
     refine ⟨[("total",c)],["k"],[],(by repeat first | exact Clos.nil | refine Clos.skip (by decide) ?_ | refine Clos.free (lk_mem rfl) ?_),rfl,by rw [hL.tab];decide,_,_,_,_,itRange (small_one (by decide) (by decide) (by decide) (by decide)),HP.put_same,CI (H₂.put rg2 (.obj (rngObj 0 8 1 t2 u2 v2))) (fun i=>intL ((bitsOf T).take i)) (fun o=>[("k",.loc o),("total",.cel c)]),?_,?_,?_⟩
     · exact .mk none
     · rintro mm C pr i ys m' H₃ O hi - yq10
       obtain ⟨o1⟩:=yq10
       rw [hrs] at hi
       have q5:=HP.put_fresh (c:=.obj (rngObj 0 8 1 t2 u2 v2)) hrg2 q4
       refine (show (0:Int)+(i:Int) * 1=(i:Int) by simp).symm▸?_
       repeat walk_at "m:s"
       refine And.intro (by rw [sizeLine_eq,intL_len,List.length_take];exact Nat.le_trans (Nat.min_le_left _ _) (Nat.le_trans (Nat.le_of_lt hi) (by decide))) ?_
       repeat walk_at "m:s"
       refine b_pow (by lia) (by rw [bits2];lia) ?_
       have hw:=w7_pos i hi
       refine (pow7 ..).symm▸?_
       repeat walk_at "m:s"
       refine b_floordiv hw.1 (Int.ofNat_lt.mp (by rw [Int.natAbs_of_nonneg (Int.le_of_lt hw.1)];exact Int.lt_of_le_of_lt hw.2 (by decide))) ?_
       repeat walk_at "m:s"
       refine b_mod (by decide) ⟨HP.put_same,?_⟩
       refine (show intL ((bitsOf T).take i)++[.int (T / w7 i % 2) 0]=intL ((bitsOf T).take (i+1)) by rw [take_next _ 0 (hi:i<(bitsOf T).length),bitsOf_get T i hi,intL_snoc]).symm▸?_
       exact .mk _
     · rintro ys m' H₃ - yq4 D hD
       obtain ⟨o1⟩:=yq4
       refine (hrs ..).symm▸?_;refine (List.take_of_length_le (show (bitsOf T).length≤8 from Nat.le_refl 8) ..).symm▸?_
       refine ⟨c1,_,by exact lk_mem rfl,HP.put_fresh hrg2 q2,?_⟩
       have hDc:D≠c1:=HP.fne hD (HP.put_fresh hrg2 q2)
       have hDcc:D≠c:=HP.fne hD (HP.put_fresh hrg2 q4)
       have q7:Sub H (((H₂.put rg2 (.obj (rngObj 0 8 1 t2 u2 v2))).put c1 (.cell (some (.ref D)))).put D (.list (intL (bitsOf T)))):=((q1.trans (Sub.put hrg2)).upd hc1).trans (Sub.put (by rw [HP.put_ne hDc hD]))
       have q8:=HP.put_same (H:=(H₂.put rg2 (.obj (rngObj 0 8 1 t2 u2 v2))).put c1 (.cell (some (.ref D)))) (a:=D) (c:=.list (intL (bitsOf T)))
       have q9:(((H₂.put rg2 (.obj (rngObj 0 8 1 t2 u2 v2))).put c1 (.cell (some (.ref D)))).put D (.list (intL (bitsOf T)))).o c1=some (.cell (some (.ref D))):=HP.put_ne (Ne.symm hDc) HP.put_same
       have q5:(((H₂.put rg2 (.obj (rngObj 0 8 1 t2 u2 v2))).put c1 (.cell (some (.ref D)))).put D (.list (intL (bitsOf T)))).o c=_:=HP.put_ne (Ne.symm hDcc) (HP.put_ne hcc (HP.put_fresh hrg2 q4))
       generalize ((H₂.put rg2 (.obj (rngObj 0 8 1 t2 u2 v2))).put c1 (.cell (some (.ref D)))).put D (.list (intL (bitsOf T)))=H₃ at q5 q7 q8 q9 ⊢
       repeat walk_at "m:s"
       exact hk _ _ _ ⟨q7.2 _ _ hl,.mk D T _ _ _ q7 q9 q8 hT.1 hT.2 q5⟩
 · rintro m' H₁ hlist yq3
   obtain ⟨a,t,ot,o1,o2,hs,hb,hbl,ht,hchk,htc⟩:=yq3
   rw [List.take_of_length_le (by rw [intL_len];exact Nat.le_refl _)] at hchk
   have hrs:(Builtin.Range.rangeSize 0 8 1).toNat=8:=by rw [rangeSize_nat];rfl
   repeat walk_at "m:s"
   try walk_at "m:0"
   refine e_comp1 O r.hh ⟨rfl,rfl,rfl,rfl⟩ ?_
   repeat walk_at "m:s"
   refine ⟨keepsT,f_range1 fun rg2 t2 u2 v2 hrg2=>?_⟩
   refine ⟨[("bits",c1)],["k"],[],(by repeat first | exact Clos.nil | refine Clos.skip (by decide) ?_ | refine Clos.free (lk_mem rfl) ?_),rfl,by rw [hL.tab];decide,_,_,_,_,itRange (small_one (by decide) (by decide) (by decide) (by decide)),HP.put_same,CI (H₁.put rg2 (.obj (rngObj 0 8 1 t2 u2 v2))) (fun i=>intL ((List.range i).map fun j=>(bitsOf t).getD j 0 * w7 j)) (fun o=>[("k",.loc o),("bits",.cel c1)]),?_,?_,?_⟩
   · exact .mk none
   · rintro mm C pr i ys m' H₃ O hi - yq10
     obtain ⟨o1⟩:=yq10
     rw [hrs] at hi
     have q5:=HP.put_fresh (c:=.obj (rngObj 0 8 1 t2 u2 v2)) hrg2 hb
     have q6:=HP.put_fresh (c:=.obj (rngObj 0 8 1 t2 u2 v2)) hrg2 hbl
     refine (show (0:Int)+(i:Int) * 1=(i:Int) by simp).symm▸?_
     repeat walk_at "m:s"
     refine And.intro (by rw [sizeLine_eq,intL_len,List.length_map,List.length_range];exact Nat.le_trans (Nat.le_of_lt (by assumption)) (by decide +kernel)) ?_
     repeat walk_at "m:s"
     refine it_list q6 (by exact Int.natCast_nonneg _) (by show (i:Int)<8;exact Int.ofNat_le.mpr (by assumption)) (by show 8≤sizeLine;decide) ?_
     refine (Int.toNat_natCast ..).symm▸?_;refine (intL_at (show i<(bitsOf t).length from hi) ..).symm▸?_
     repeat walk_at "m:s"
     refine b_pow (by lia) (by rw [bits2];lia) ?_
     refine (pow7 ..).symm▸?_
     have hw:=bitsOf_get t i hi
     repeat walk_at "m:s"
     refine b_mul (mul_ok (by rw [hw];exact Int.lt_of_lt_of_le (by decide) (mod2 _).1) (by rw [hw];exact Int.lt_trans (mod2 _).2 (by decide))) ⟨HP.put_same,?_⟩
     refine (intL_snoc ..).symm▸?_;refine (show ((List.range i).map fun j=>(bitsOf t).getD j 0 * w7 j)++[(bitsOf t).getD i 0 * w7 i]=((List.range (i+1)).map fun j=>(bitsOf t).getD j 0 * w7 j) by rw [List.range_succ,List.map_append];rfl).symm▸?_
     exact .mk _
   · rintro ys m' H₃ - yq4 D hD
     obtain ⟨o1⟩:=yq4
     refine (hrs ..).symm▸?_
     repeat walk_at "m:s"
     refine ⟨keepsB,f_sum r.hh HP.put_same ?_⟩
     refine (show ((List.range 8).map fun j=>(bitsOf t).getD j 0 * w7 j).sum=chkI ns from (psum_bits t).trans hchk).symm▸?_
     repeat walk_at "m:s"
     exact hk _ _ _ ⟨_,(hs.trans (Sub.put hrg2)).trans (Sub.put hD),k⟩
end
end
section
noncomputable def nmE51 (p0:Option Value) (p1:Option Value) (p2:Option Value) (p3:Option Value) (p4:Option Value) (p5:Option Value) (p6:Option Value) (p7:Option Value):Names:=[("units",.loc p0),("check",.loc p1),("full",.loc p2),("count",.loc p3),("rows",.loc p4),("k",.loc p5),("octets",.loc p6),("unit",.loc p7),("len",.glo (.builtin "len")),("range",.glo (.type "range")),("bytes",.glo (.type "bytes"))]
noncomputable def padU0 (us:List Nat):List Nat:=if us.length % 13=0 then us else us++[0]
noncomputable def padU (us:List Nat):List Nat:=padU0 us++List.replicate ((13 - (padU0 us).length % 13) % 13) 65535
theorem flat_rep (n:Nat):(List.replicate n 65535).flatMap oct=List.replicate (2 * n) 255:=by
 induction n with
 | zero=>rfl
 | succ n ih=>rw [List.replicate_succ,List.flatMap_cons,ih,show 2 * (n+1)=2 * n+1+1 by exact rfl,List.replicate_succ,List.replicate_succ];rfl
theorem pad_oct (us:List Nat):pad (us.flatMap oct)=(padU us).flatMap oct:=by
 have h0:pad0 (us.flatMap oct)=(padU0 us).flatMap oct:=by
   unfold pad0 padU0
   rw [oct_len]
   by_cases h:us.length % 13=0
   · rw [if_pos h,if_pos (by rw [show 26=2 * 13 from rfl,Nat.mul_mod_mul_left,h])]
   · rw [if_neg h,if_neg (fun e=>h (by rw [show 26=2 * 13 from rfl,Nat.mul_mod_mul_left] at e;exact (Nat.mul_eq_zero.mp e).resolve_left (by decide))),List.flatMap_append];rfl
 unfold pad padU
 rw [h0,oct_len,List.flatMap_append,flat_rep,show (26 - 2 * (padU0 us).length % 26) % 26=2 * ((13 - (padU0 us).length % 13) % 13) from pad26 _]
theorem padU_dvd (us:List Nat):(padU us).length % 13=0:=by unfold padU;simp;exact dvd_pad _ (by decide)
theorem padU_lt {us:List Nat}(h:∀ u∈us,u<65536):∀ u∈padU us,u<65536:=fun u hu=>by
 unfold padU padU0 at hu
 rcases List.mem_append.mp hu with hu | hu
 · split at hu
   · exact h u hu
   · rcases List.mem_append.mp hu with hu | hu
     · exact h u hu
     · rw [List.mem_singleton.mp hu];decide
 · rw [List.eq_of_mem_replicate hu];decide
theorem oct_drop:∀ (l:List Nat) (n:Nat),(l.flatMap oct).drop (2 * n)=(l.drop n).flatMap oct
 | l,0=>rfl
 | [],n+1=>by simp
 | u::l,n+1=>by
   rw [show 2 * (n+1)=2 * n+1+1 by exact rfl,List.drop_succ_cons,List.flatMap_cons]
   exact oct_drop l n
theorem oct_take:∀ (l:List Nat) (n:Nat),(l.flatMap oct).take (2 * n)=(l.take n).flatMap oct
 | l,0=>by simp
 | [],n+1=>by simp
 | u::l,n+1=>by
   rw [show 2 * (n+1)=2 * n+1+1 by exact rfl,List.take_succ_cons,List.flatMap_cons,List.flatMap_cons,← oct_take l n]
   rfl
noncomputable def octI (us:List Nat):List Int:=us.flatMap fun (u:Nat)=>[(u:Int) % 256,(u:Int) / 256]
theorem octI_len (us:List Nat):(octI us).length=2 * us.length:=by
 unfold octI
 induction us with
 | nil=>rfl
 | cons u r ih=>rw [List.flatMap_cons,List.length_append,ih,List.length_cons,List.length_cons,List.length_cons,List.length_nil];lia
theorem octI_ok {us:List Nat}(h:∀ u∈us,u<65536):∀ n∈octI us,0≤n∧n<256:=fun n hn=>by
 refine xe12 (List.mem_flatMap.mp hn) fun u hu hn=>?_
 have:=h u hu
 simp only [List.mem_cons,List.not_mem_nil,or_false] at hn
 rcases hn with h | h<;>rw [h]
 · exact ⟨Int.emod_nonneg _ (by decide),Int.emod_lt_of_pos _ (by decide)⟩
 · exact ⟨Int.natCast_nonneg (u / 256),Int.ofNat_lt.mpr (Nat.div_lt_of_lt_mul (Nat.lt_of_lt_of_le this (by decide)):u / 256<256)⟩
theorem octI_bytes {us:List Nat}(h:∀ u∈us,u<65536):(octI us).map (fun n=>n.toNat.toUInt8)=us.flatMap oct:=by
 unfold octI
 induction us with
 | nil=>rfl
 | cons u r ih=>
   rw [List.flatMap_cons,List.map_append,ih fun v hv=>h v (.tail _ hv),List.flatMap_cons]
   refine congrArg (·++_) ?_
   have:=h u (.head _)
   show [((u:Int) % 256).toNat.toUInt8,((u:Int) / 256).toNat.toUInt8]=oct u
   unfold oct
   rw [show ((u:Int) % 256).toNat=u % 256 by exact rfl,show ((u:Int) / 256).toNat=u / 256 % 256 from (Nat.mod_eq_of_lt (Nat.div_lt_of_lt_mul (by assumption))).symm]
theorem merged_row8 {o a c p:Int}{b1 b2 b3:Array UInt8}:merged [] (row8 o b1 a c b2 p b3)=row8 o b1 a c b2 p b3:=by rfl
theorem rep_list (L:Nat):(List.replicate (-(L:Int) % 13).toNat ([.int 65535 0]:List Value)).flatten=intL (cpI (List.replicate ((13 - L % 13) % 13) 65535)):=by
 rw [show (-(L:Int) % 13).toNat=(13 - L % 13) % 13 from neg_mod L (m:=13) (by decide)]
 generalize (13 - L % 13) % 13=q
 induction q with
 | zero=>rfl
 | succ q ih=>rw [List.replicate_succ,List.flatten_cons,ih,List.replicate_succ];rfl
theorem cut_chunk {g:List Nat}{i:Nat}(h:13 * i+13≤g.length):cut (intL (cpI g)) (some (13 * (i:Int))) (some (13 * (i:Int)+13))=intL (cpI ((g.drop (13 * i)).take 13)):=by
 rw [show (13:Int) * (i:Int)=((13 * i:Nat):Int) by exact rfl,show ((13 * i:Nat):Int)+13=((13 * i+13:Nat):Int) by exact rfl,cut_mid _ _ _ (Nat.le_add_right ..) (by rw [intL_len,cpI_len];exact h),Nat.add_sub_cancel_left]
 simp only [intL,cpI,List.map_drop,List.map_take]
theorem chunk3 {E X:List UInt8}{i:Nat}(h:(E.drop (26 * i)).take 26=X):X.take 10=(E.drop (26 * i)).take 10∧(X.drop 10).take 12=(E.drop (26 * i+10)).take 12∧X.drop 22=(E.drop (26 * i+22)).take 4:=by
 subst h
 refine ⟨by rw [List.take_take];rfl,by rw [List.drop_take,List.take_take,List.drop_drop];rfl,by rw [List.drop_take,List.drop_drop]⟩
theorem cut_to {α:Type}(l:List α) (b:Nat) (h:b≤l.length):cut l none (some (b:Int))=l.take b:=by
 have e2:clipI l.length (some (b:Int)) (l.length:Int)=(b:Int):=clip_nat (by lia)
 unfold cut
 rw [e2]
 simp [clipI]
theorem cut_fr {α:Type}(l:List α) (a:Nat) (h:a≤l.length):cut l (some (a:Int)) none=l.drop a:=by
 have e1:clipI l.length (some (a:Int)) 0=(a:Int):=clip_nat (by lia)
 unfold cut
 rw [e1]
 simp only [clipI,Int.toNat_natCast]
 exact List.take_of_length_le (by rw [List.length_drop];exact Nat.le_refl _)
theorem byteArr_cut {us:List Nat}(h:∀ u∈us,u<65536) (lo hi:Option Int):byteArr (cut (octI us) lo hi)=(cut (us.flatMap oct) lo hi).toArray:=by
 unfold byteArr;rw [← cut_map,octI_bytes h]
theorem octI_next (us:List Nat) {i:Nat}(h:i<us.length):octI (us.take (i+1))=octI (us.take i)++[((us.getD i 0:Nat):Int) % 256]++[((us.getD i 0:Nat):Int) / 256]:=by
 unfold octI;rw [take_next us 0 h,List.flatMap_append];simp
theorem e_join {G:Glb}{S:Sit}{e:Expr}{K:KV}{X:KV}{m:Names}{H:HP}(V:Value) (h:WE G S e (fun v m' H'=>v=V∧m'=m∧H'=H) X m H) (k:K V m H):WE G S e K X m H:=
 W.mono h (fun v m' H' q=>by obtain ⟨e1,e2,e3⟩:=q;rw [e1,e2,e3];exact k) fun _ _ _ x=>x
theorem dis_cons {G:Glb}{S:Sit}{k v:Expr}{r:List (Expr × Expr)}{K:List (Value × Value)→Names→HP→Prop}{X:KV}{m:Names}{H:HP}(h:WE G S k (fun kv=>WE G S v (fun vv=>DisC G S r (fun l=>K ((kv,vv)::l)) X) X) X m H):DisC G S ((k,v)::r) K X m H:=h
theorem dis_nil {G:Glb}{S:Sit}{K:List (Value × Value)→Names→HP→Prop}{X:KV}{m:Names}{H:HP}(h:K [] m H):DisC G S [] K X m H:=h
inductive IvE51 (H:HP) (ul:Addr) (us:List Nat) (c:Int) (m':Names) (H':HP):Prop
 | mk:(Sub H H')→∀ f,(H'.o f=some (.list (intL (cpI (padU0 us)))))→(m'=(nmE51 (some (.ref ul)) (some (.int c 0)) (some (.ref f)) none none none none none))→IvE51 H ul us c m' H'
inductive IvE52 (H:HP) (ul:Addr) (c:Int) (f:Addr) (g:List Nat) (N:Nat) (rw:Addr) (i:Nat) (m':Names) (H':HP):Prop
 | mk:(Sub H H')→(H'.o f=some (.list (intL (cpI g))))→((∃ ws:List Addr,H'.o rw=some (.list (ws.map Value.ref))∧ws.length=i∧∀ (j:Nat) (w:Addr),ws[j]? = some w→∃ e8,H'.o w=some (.ds e8 (partOf (g.flatMap oct) c N j).row)))→∀ o1 o2 o3,(m'=(nmE51 (some (.ref ul)) (some (.int c 0)) (some (.ref f)) (some (.int (N:Int) 0)) (some (.ref rw)) o1 o2 o3))→IvE52 H ul c f g N rw i m' H'
inductive IvE53 (ul:Addr) (c:Int) (f:Addr) (N:Nat) (rw:Addr) (i:Nat) (H₄:HP) (oc:Addr) (ch:List Nat) (j:Nat) (m':Names) (H':HP):Prop
 | mk:(Sub H₄ H')→(H'.o oc=some (.list (intL (octI (ch.take j)))))→∀ o3,(m'=(nmE51 (some (.ref ul)) (some (.int c 0)) (some (.ref f)) (some (.int (N:Int) 0)) (some (.ref rw)) (some (.int (i:Int) 0)) (some (.ref oc)) o3))→IvE53 ul c f N rw i H₄ oc ch j m' H'
section
variable {G:Glb}(hL:L1 G) {A:Around}{stk:List Env}{sv:Sv}{pr:Pr}{H:HP}{K X:KH}{n:Nat}
include hL
set_option maxHeartbeats 4000000 in
theorem parts_c (r:Rm A stk (n+1)) {ul:Addr}{us:List Nat}{c:Int}(hu:H.o ul=some (.list (intL (cpI us)))) (hl:∀ u∈us,u<65536) (hz:us.length≤130) (hc:0≤c∧c<256)
   (k:∀ (a:Addr) (ws:List Addr) (H':HP),H.o a=none→Sub H H'→H'.o a=some (.list (ws.map Value.ref))→ws.length=(pad (us.flatMap oct)).length / 26 →
     (∀ i w,ws[i]? = some w→∃ e8,H'.o w=some (.ds e8 (partOf (pad (us.flatMap oct)) c ((pad (us.flatMap oct)).length / 26) i).row))→K (.ref a) H'):Calls G A stk sv pr (.ref 668) [.ref ul,.int c 0] [] K X H:=by
 refine enterN r ["units","check","full","count","rows","k","octets","unit"] [("len",.builtin "len"),("range",.type "range"),("bytes",.type "bytes")] [("units",.ref ul),("check",.int c 0)] (ho:=lk1 hL (fun _=>rfl)) rfl (fun s rvs rkw X e1 e2=>?_) (by rw [hL.K];rfl) rfl (by rw [hL.tab];decide) (.loc .here (.loc (.next .here) .nil)) fun S O r=>?_
 · obtain ⟨x',y',rfl,ex,ey⟩:=map_two e1
   obtain rfl:=map_nil' e2
   exact ⟨[("units",x'),("check",y')],BindsTo.of_eq rfl,by simp [ex,ey]⟩
 dsimp only [mkM,List.map,List.append_eq,List.cons_append,List.nil_append,List.map_cons,List.map_nil]
 have hul:(intL (cpI us)).length=us.length:=by rw [intL_len,cpI_len]
 refine ws_abs fun KF XK hk hx=>?_
 with_reducible refine ws0_in ?_
 refine ws_join O ((IvE51 H ul us c)) rfl ?_ ?_
 · repeat walk_at "m:s"
   (first | refine we0 (ifx_in (by assumption) ?_) | refine ifx_in (by assumption) ?_);repeat walk_at "m:s"
   refine ⟨keepsB,f_len_lE hul hu (by rw [sizeLine_eq];exact Nat.le_trans (by assumption) (by decide +kernel)) ?_⟩
   repeat walk_at "m:s"
   refine b_mod (by decide) ?_
   repeat walk_at "m:s"
   refine if_bI (fun h13=>?_) (fun h13=>?_)
   · repeat walk_at "m:s"
     refine ⟨by show 1≤sizeLine;decide,fun l1 hl1=>?_⟩
     repeat walk_at "m:s"
     refine b_add_l (HP.put_fresh hl1 hu) HP.put_same (by rw [hul,sizeLine_eq];show us.length+1≤_;exact Nat.lt_of_le_of_lt (by assumption) (by decide +kernel)) fun f hf=>?_
     repeat walk_at "m:s"
     refine ⟨rfl,(Sub.put hl1).trans (Sub.put hf),f,?_,rfl⟩
     rw [show padU0 us=us++[0] by unfold padU0;rw [if_neg (by lia)]]
     rw [HP.put_same,cpI_app,intL,intL,List.map_append];rfl
   · repeat walk_at "m:s"
     refine ⟨Nat.zero_le _,fun l1 hl1=>?_⟩
     repeat walk_at "m:s"
     refine b_add_l (HP.put_fresh hl1 hu) HP.put_same (by rw [hul,sizeLine_eq];show us.length+0≤_;exact Nat.le_trans (by assumption) (by decide +kernel)) fun f hf=>?_
     repeat walk_at "m:s"
     refine ⟨rfl,(Sub.put hl1).trans (Sub.put hf),f,?_,rfl⟩
     rw [show padU0 us=us by unfold padU0;rw [if_pos (by lia)]]
     rw [HP.put_same,List.append_nil]
 rintro m' H₁ yq2
 obtain ⟨hs1,f0,hf0,rfl⟩:=yq2
 have hp0:(padU0 us).length≤131:=by
   unfold padU0
   split
   · exact Nat.le_trans (by assumption) (by decide +kernel)
   · rw [List.length_append];show us.length+1≤131;exact Nat.lt_of_le_of_lt (by assumption) (by decide +kernel)
 have hl0:(intL (cpI (padU0 us))).length=(padU0 us).length:=by rw [intL_len,cpI_len]
 repeat walk_at "m:s"
 refine ⟨by show 1≤sizeLine;decide,fun l2 hl2=>?_⟩
 repeat walk_at "m:s"
 repeat walk_at "m:s"
 refine ⟨keepsB,f_len_lE hl0 (HP.put_fresh hl2 hf0) (by rw [sizeLine_eq];exact Nat.le_trans (by assumption) (by decide +kernel)) ?_⟩
 repeat walk_at "m:s"
 have hlr:=rep_list (padU0 us).length
 have hg:intL (cpI (padU0 us))++intL (cpI (List.replicate ((13 - (padU0 us).length % 13) % 13) 65535))=intL (cpI (padU us)):=by
   unfold padU;rw [cpI_app,intL,intL,intL,List.map_append]
 repeat walk_at "m:s"
 have hm0:=Int.emod_nonneg (-((padU0 us).length:Int)) (by decide:(13:Int)≠0)
 have hm1:=Int.emod_lt_of_pos (-((padU0 us).length:Int)) (by decide:(0:Int)<13)
 refine b_mod (by decide) (Stk.mk (b_mul_l HP.put_same (Int.le_trans (by decide) hm0) (Int.lt_trans hm1 (by decide)) (by simp) (by show 1 * _≤_;rw [Nat.one_mul];exact Nat.le_trans (Int.toNat_le.mpr (Int.le_of_lt hm1):_≤13) (by decide)) fun l3 hl3=>?_))
 clear hm0 hm1
 have hf3:=HP.put_fresh (c:=.list (List.replicate (-((padU0 us).length:Int) % 13).toNat ([.int 65535 0]:List Value)).flatten) hl3 (HP.put_fresh (c:=.list [.int 65535 0]) hl2 hf0)
 have hs3:=(hs1.trans (Sub.put (c:=.list [.int 65535 0]) hl2)).trans (Sub.put (c:=.list (List.replicate (-((padU0 us).length:Int) % 13).toNat ([.int 65535 0]:List Value)).flatten) hl3)
 have hq3:=HP.put_same (H:=H₁.put l2 (.list [.int 65535 0])) (a:=l3) (c:=.list (List.replicate (-((padU0 us).length:Int) % 13).toNat ([.int 65535 0]:List Value)).flatten)
 generalize (H₁.put l2 (.list [.int 65535 0])).put l3 (.list (List.replicate (-((padU0 us).length:Int) % 13).toNat ([.int 65535 0]:List Value)).flatten)=H₂ at hf3 hs3 hq3 ⊢
 rw [hlr] at hq3
 clear hlr hl2 hl3 hf0 hs1
 repeat walk_at "m:s"
 refine b_add_l hf3 hq3 (by rw [hl0,intL_len,cpI_len,List.length_replicate,sizeLine_eq];exact Nat.le_trans (Nat.add_le_add hp0 (Nat.le_of_lt (Nat.mod_lt _ (by decide:13 > 0)))) (by decide)) fun f hf=>?_
 rw [hg]
 have hgl:(padU us).length≤144:=by unfold padU;rw [List.length_append,List.length_replicate];exact Nat.add_le_add hp0 (Nat.le_of_lt (Nat.mod_lt _ (by decide:13 > 0)))
 have hgd:=padU_dvd us
 have hgt:=padU_lt hl
 have hpo:=pad_oct us
 clear hg hf3 hq3
 rw [hpo,oct_len] at k
 generalize padU us=g at hgl hgd hgt k ⊢
 obtain ⟨N,hN⟩:∃ N,g.length=13 * N:=⟨g.length / 13,(Nat.mul_div_cancel' (Nat.dvd_of_mod_eq_zero hgd)).symm⟩
 have hN10:N≤12:=Nat.le_of_lt_succ (Nat.lt_of_mul_lt_mul_left (a:=13) (hN▸Nat.lt_of_le_of_lt hgl (by decide):13 * N<13 * 13))
 rw [show 2 * g.length / 26=N by rw [hN,show 26=2 * 13 from rfl,Nat.mul_div_mul_left _ _ (by decide),Nat.mul_div_cancel_left _ (by decide)]] at k
 have hgl':(intL (cpI g)).length=g.length:=by rw [intL_len,cpI_len]
 have hs4:=hs3.trans (Sub.put (c:=.list (intL (cpI g))) hf)
 have hf4:=HP.put_same (H:=H₂) (a:=f) (c:=.list (intL (cpI g)))
 generalize H₂.put f (.list (intL (cpI g)))=H₃ at hs4 hf4 ⊢
 clear hs3 hf
 repeat walk_at "m:s"
 refine ⟨keepsB,f_len_lE hgl' hf4 (by rw [sizeLine_eq];exact Nat.le_trans (by assumption) (by decide +kernel)) ?_⟩
 repeat walk_at "m:s"
 refine b_floordiv (by decide) (by decide) ?_
 rw [show (g.length:Int) / 13=(N:Int) by rw [hN];exact congrArg Nat.cast (Nat.mul_div_cancel_left N (by decide:0<13))]
 repeat walk_at "m:s"
 refine ⟨Nat.zero_le _,fun rw hrw=>?_⟩
 have hfrw:f≠rw:=fun q=>by rw [q,hrw] at hf4;cases hf4
 repeat walk_at "m:s"
 try walk_at "m:0"
 refine x_for O r.hh ?_
 repeat walk_at "m:s"
 refine ⟨keepsT,f_range1 fun rg t1 u1 v1 hrg=>?_⟩
 have hrs:(Builtin.Range.rangeSize 0 (N:Int) 1).toNat=N:=by rw [rangeSize_nat];exact rfl
 have hrwH:H.o rw=Option.none:=hs4.none hrw
 refine ⟨_,_,_,_,itRange (small_one (by simp) (by simp) (by simp) (Int.lt_trans (Int.ofNat_lt.mpr (Nat.lt_succ_of_le hN10)) (by decide))),HP.put_same,(IvE52 H ul c f g N rw),?_,?_,?_⟩
 · exact ⟨(hs4.trans (Sub.put hrw)).trans (Sub.put hrg),HP.put_fresh hrg (HP.put_fresh hrw hf4),⟨[],HP.put_fresh hrg HP.put_same,rfl,fun j w h=>by simp at h⟩,none,none,none,rfl⟩
 · rintro pr i m' H₄ hi hR yq6
   obtain ⟨hs5,hf5,⟨ws,hws,hwl,hrows⟩,o1,o2,o3,rfl⟩:=yq6
   refine asg_abs fun KF XK hk hx=>?_
   rw [hrs] at hi
   have O:=O.guard pr
   rw [show (0:Int)+(i:Int) * 1=(i:Int) by simp]
   repeat walk_at "m:s"
   refine ⟨Nat.zero_le _,fun oc hoc=>?_⟩
   repeat walk_at "m:s"
   try walk_at "m:0"
   refine x_for O r.hh ?_
   repeat walk_at "m:s"
   refine b_mul (mul_ok (by simp) (by simp)) ?_
   repeat walk_at "m:s"
   refine b_mul (mul_ok (by simp) (by simp)) ?_
   repeat walk_at "m:s"
   refine sl_list (lo:=some (13 * (i:Int))) (hi:=some (13 * (i:Int)+13)) (HP.put_fresh hoc hf5) (by rw [hgl',sizeLine_eq];exact Nat.le_trans (by assumption) (by decide +kernel)) fun ck hck=>?_
   have hch:13 * i+13≤g.length:=by rw [hN];exact Nat.mul_le_mul_left 13 hi
   rw [cut_chunk hch]
   have hct:∀ u∈(g.drop (13 * i)).take 13,u<65536:=fun u hu=>hgt u (List.mem_of_mem_drop (List.mem_of_mem_take hu))
   have hcl:((g.drop (13 * i)).take 13).length=13:=by rw [List.length_take,List.length_drop,Nat.min_eq_left (Nat.le_sub_of_add_le (by rw [Nat.add_comm];exact hch))]
   have hcu:((g.flatMap oct).drop (26 * i)).take 26=((g.drop (13 * i)).take 13).flatMap oct:=by
     rw [show 26 * i=2 * (13 * i) from Nat.mul_assoc 2 13 i,oct_drop,show 26=2 * 13 from rfl,oct_take]
   generalize (g.drop (13 * i)).take 13=ch at hct hcl hcu ⊢
   have hco:ck≠oc:=fun q=>by rw [q,HP.put_same] at hck;cases hck
   have hs6:Sub H₄ ((H₄.put oc (.list [])).put ck (.list (intL (cpI ch)))):=(Sub.put hoc).trans (Sub.put hck)
   have hoc0:((H₄.put oc (.list [])).put ck (.list (intL (cpI ch)))).o oc=some (.list (intL (octI (ch.take 0)))):=HP.put_fresh hck HP.put_same
   have hck0:=HP.put_same (H:=H₄.put oc (.list [])) (a:=ck) (c:=.list (intL (cpI ch)))
   have hoH:H₄.o oc=Option.none:=hoc
   generalize (H₄.put oc (.list [])).put ck (.list (intL (cpI ch)))=H₅ at hs6 hoc0 hck0 ⊢
   refine ⟨_,_,_,_,itList,hck0,(IvE53 ul c f N rw i H₄ oc ch),?_,?_,?_⟩
   · exact ⟨hs6,hoc0,_,rfl⟩
   · rintro pr j m' H₆ hj hR6 yq6
     obtain ⟨q1,q2,o3,rfl⟩:=yq6
     refine asg_abs fun KF XK hk hx=>?_
     rw [intL_len,cpI_len] at hj
     have O:=O.guard pr
     rw [intL_at (show j<(cpI ch).length by rw [cpI_len];exact hj),show (cpI ch).getD j 0=((ch.getD j 0:Nat):Int) by simp [cpI,List.getD,hj]]
     have hnx:=octI_next ch hj
     have hol:(intL (octI (ch.take j))).length≤100:=by rw [intL_len,octI_len,List.length_take];exact Nat.le_trans (Nat.mul_le_mul_left 2 (Nat.le_trans (Nat.min_le_right _ _) (Nat.le_of_eq (by assumption:ch.length=13)))) (by decide)
     generalize ch.getD j 0=u at hnx ⊢
     repeat walk_at "m:s"
     refine met_l q2 PySem.F.slot_list_append PySem.F.type_list_append ?_
     repeat walk_at "m:s"
     refine b_mod (by decide) ?_
     repeat walk_at "m:s"
     refine ⟨keepsB,f_append q2 (by rw [sizeLine_eq];exact Nat.le_trans (by assumption) (by decide +kernel)) ?_⟩
     rw [intL_snoc]
     repeat walk_at "m:s"
     refine met_l HP.put_same PySem.F.slot_list_append PySem.F.type_list_append ?_
     repeat walk_at "m:s"
     refine b_floordiv (by decide) (by decide) ?_
     repeat walk_at "m:s"
     refine ⟨keepsB,f_append HP.put_same (by rw [sizeLine_eq,intL_len,List.length_append];rw [intL_len] at hol;show _+1≤_;exact Nat.lt_of_le_of_lt (by assumption) (by decide +kernel)) ?_⟩
     rw [intL_snoc,← hnx]
     repeat walk_at "m:s"
     exact hk _ _ _ ⟨HP.put_ne hco (HP.put_ne hco hR6),(q1.upd hoH).upd hoH,HP.put_same,_,rfl⟩
   · rintro m' H₆ hR6 yq3
     obtain ⟨q1,q2,o3,rfl⟩:=yq3
     rw [intL_len,cpI_len,List.take_length] at q2
     repeat walk_at "m:s"
     refine met_l (q1.2 _ _ hws) PySem.F.slot_list_append PySem.F.type_list_append ?_
     repeat walk_at "m:s"
     try walk_at "m:0"
     refine e_dictS (fun a ha=>?_) (by intro q;cases q) (by decide)
     have q3:=HP.put_fresh (c:=.ds 0 []) ha q2
     refine dis_cons (e_str (e_join (.int (ordOf N i) 0) ?_ ?_))
     · (first | refine we0 (ifx_in (by assumption) ?_) | refine ifx_in (by assumption) ?_);repeat walk_at "m:s"
       refine if_bI (fun h1=>?_) (fun h1=>?_)
       · repeat walk_at "m:s"
         have e:(i:Int)+1=ordOf N i:=ordOf_mid fun e=>Nat.ne_of_lt ((Int.ofNat_lt (n:=i+1)).mp h1) e
         exact ⟨congrArg (fun z=>Value.int z 0) e,rfl,rfl⟩
       · repeat walk_at "m:s"
         have e:(i:Int)+65=ordOf N i:=ordOf_end (Nat.le_antisymm hi (Nat.le_of_not_lt fun h=>h1 ((Int.ofNat_lt (n:=i+1)).mpr h)))
         exact ⟨congrArg (fun z=>Value.int z 0) e,rfl,rfl⟩
     have hoL:(intL (octI ch)).length≤sizeLine:=by rw [intL_len,octI_len,sizeLine_eq];exact Nat.le_trans (Nat.mul_le_mul_left 2 (Nat.le_of_eq (by assumption:ch.length=13))) (by decide)
     have hoi:=octI_ok hct
     have hsub:∀ {lo hi:Option Int},cut (intL (octI ch)) lo hi=intL (cut (octI ch) lo hi):=fun {lo hi}=>cut_map _ _ _ _
     have hci:∀ {lo hi:Option Int},∀ z∈cut (octI ch) lo hi,0≤z∧z<256:=fun {lo hi} z hz=>hoi z (List.mem_of_mem_drop (List.mem_of_mem_take hz))
     have hcz:∀ {lo hi:Option Int},(cut (octI ch) lo hi).length≤sizeLine:=fun {lo hi}=>Nat.le_trans (cut_le _ _ _) (by rw [octI_len,sizeLine_eq];exact Nat.le_trans (Nat.mul_le_mul_left 2 (Nat.le_of_eq (by assumption:ch.length=13))) (by decide))
     refine dis_cons (e_str ?_)
     repeat walk_at "m:s"
     refine sl_list (lo:=none) (hi:=some 10) q3 hoL fun c1 hc1=>?_
     rw [hsub]
     have q4:=HP.put_fresh (c:=.list (intL (cut (octI ch) none (some 10)))) hc1 q3
     repeat walk_at "m:s"
     refine ⟨keepsT,f_bytes r.hh HP.put_same hci hcz ?_⟩
     refine dis_cons (e_str (e_int ?_))
     refine dis_cons (e_str (e_int ?_))
     refine dis_cons (e_str (e_loc O (lk_mem rfl) ?_))
     refine dis_cons (e_str ?_)
     repeat walk_at "m:s"
     refine sl_list (lo:=some 10) (hi:=some 22) q4 hoL fun c2 hc2=>?_
     rw [hsub]
     have q5:=HP.put_fresh (c:=.list (intL (cut (octI ch) (some 10) (some 22)))) hc2 q4
     repeat walk_at "m:s"
     refine ⟨keepsT,f_bytes r.hh HP.put_same hci hcz ?_⟩
     refine dis_cons (e_str (e_int ?_))
     refine dis_cons (e_str ?_)
     repeat walk_at "m:s"
     refine sl_list (lo:=some 22) (hi:=none) q5 hoL fun c3 hc3=>?_
     rw [hsub]
     repeat walk_at "m:s"
     refine ⟨keepsT,f_bytes r.hh HP.put_same hci hcz ?_⟩
     refine dis_nil ?_
     have hxl:(ch.flatMap oct).length=26:=by rw [oct_len,hcl]
     refine xe03 (chunk3 hcu) fun t1 t2 t3=>?_
     have hac:∀ {b:Addr}{co:CO},H₆.o b=some co→b≠a:=fun {b co} e q=>by rw [q,ha] at e;cases e
     have d1:c1≠a:=fun q=>by rw [q,HP.put_same] at hc1;cases hc1
     have d2:c2≠a:=fun q=>by rw [q,HP.put_fresh hc1 HP.put_same] at hc2;cases hc2
     have d3:c3≠a:=fun q=>by rw [q,HP.put_fresh hc2 (HP.put_fresh hc1 HP.put_same)] at hc3;cases hc3
     refine ⟨(partOf (g.flatMap oct) c N i).row,?_,HP.put_fresh hc3 (HP.put_fresh hc2 (HP.put_fresh hc1 HP.put_same)),fun e9=>?_⟩
     · rw [byteArr_cut hct,byteArr_cut hct,byteArr_cut hct,show (some 10:Option Int)=some ((10:Nat):Int) from rfl,show (some 22:Option Int)=some ((22:Nat):Int) from rfl,cut_to _ 10 (by lia),cut_mid _ 10 22 (by decide) (by lia),cut_fr _ 22 (by lia),t1,t2,t3]
       rfl
     rw [show merged [] (partOf (g.flatMap oct) c N i).row=(partOf (g.flatMap oct) c N i).row from merged_row8]
     have hs7:Sub H₆ (((((H₆.put a (.ds 0 [])).put c1 (.list (intL (cut (octI ch) none (some 10))))).put c2 (.list (intL (cut (octI ch) (some 10) (some 22))))).put c3 (.list (intL (cut (octI ch) (some 22) none)))).put a (.ds e9 (partOf (g.flatMap oct) c N i).row)):=((((Sub.put ha).trans (Sub.put hc1)).trans (Sub.put hc2)).trans (Sub.put hc3)).upd ha
     have ha7:=HP.put_same (H:=((((H₆.put a (.ds 0 [])).put c1 (.list (intL (cut (octI ch) none (some 10))))).put c2 (.list (intL (cut (octI ch) (some 10) (some 22))))).put c3 (.list (intL (cut (octI ch) (some 22) none))))) (a:=a) (c:=.ds e9 (partOf (g.flatMap oct) c N i).row)
     generalize ((((H₆.put a (.ds 0 [])).put c1 (.list (intL (cut (octI ch) none (some 10))))).put c2 (.list (intL (cut (octI ch) (some 10) (some 22))))).put c3 (.list (intL (cut (octI ch) (some 22) none)))).put a (.ds e9 (partOf (g.flatMap oct) c N i).row)=H₇ at hs7 ha7 ⊢
     have w7:=hs7.2 _ _ (q1.2 _ _ hws)
     repeat walk_at "m:s"
     refine ⟨keepsB,f_append w7 (by rw [List.length_map,hwl,sizeLine_eq];lia) ?_⟩
     repeat walk_at "m:s"
     have hs47:=q1.trans hs7
     have haw:a≠rw:=Ne.symm (hac (q1.2 _ _ hws))
     refine hk _ _ _ ⟨HP.put_ne (fun q=>by rw [q,hws] at hR;cases hR) (hs47.2 _ _ hR),(hs5.trans hs47).upd hrwH,HP.put_ne (fun q=>?_) (hs47.2 _ _ hf5),⟨ws++[a],by rw [List.map_append];exact HP.put_same,by rw [List.length_append,hwl];rfl,fun j w hjw=>?_⟩,_,_,_,rfl⟩
     · exact hfrw q
     · rcases Nat.lt_or_ge j i with hj | hj
       · rw [List.getElem?_append_left (by lia)] at hjw
         refine xe11 (hrows j w hjw) fun e8 h8=>?_
         exact ⟨e8,HP.put_ne (fun q=>by rw [q,hws] at h8;cases h8) (hs47.2 _ _ h8)⟩
       · rw [List.getElem?_append_right (by lia)] at hjw
         have hji:j=i:=by
           rcases Nat.lt_or_ge (j - ws.length) 1 with h | h
           · lia
           · rw [List.getElem?_eq_none (by show 1≤_;exact h)] at hjw;cases hjw
         subst hji
         rw [hwl,Nat.sub_self] at hjw
         cases hjw
         exact ⟨e9,HP.put_ne haw ha7⟩
 · rintro m' H₄ hR yq3
   obtain ⟨hs5,hf5,⟨ws,hws,hwl,hrows⟩,o1,o2,o3,rfl⟩:=yq3
   rw [hrs] at hwl
   repeat walk_at "m:s"
   exact hk _ _ _ (k rw ws H₄ hrwH hs5 hws hwl hrows)
end
end
section
noncomputable def lawB (P:Params):List Stmt:=lawD.body
noncomputable def lG (cs:Addr):Names:=[("seed",.cel cs),("_law_signs",.glo (.ref 642)),("len",.glo (.builtin "len")),("ord",.glo (.builtin "ord")),("range",.glo (.type "range")),("EightDotThree",.glo (.ref 259)),("bytes",.glo (.type "bytes")),("make_lfn_entry",.glo (.ref 635)),("PyFATException",.glo (.ref 41)),("_law_short_already",.glo (.ref 649)),("_law_parts",.glo (.ref 668)),("_law_units",.glo (.ref 656)),("_law_sum",.glo (.ref 661)),("FATLongDirectoryEntry",.glo (.ref 624)),("_law_taken",.glo (.ref 682)),("_law_octets",.glo (.ref 675)),("isinstance",.glo (.builtin "isinstance")),("bool",.glo (.type "bool"))]
noncomputable def lE (e0 e1 e2 e3 e4 e5 e6 e7 e8:Option Value) (r:Names):Names:=("step",.loc e0)::("pick",.loc e1)::("spot",.loc e2)::("what",.loc e3)::("other",.loc e4)::("wrong",.loc e5)::("laid",.loc e6)::("part",.loc e7)::("told",.loc e8)::r
noncomputable def lN (cs:Addr):Names:=lE none none none none none none none none none (lG cs)
noncomputable def lD (e0 e1 e2 e3 e4 e5 e6 e7 e8:Option Value) (r:Names):Names:=("made",.loc e0)::("rows",.loc e1)::("due",.loc e2)::("row",.loc e3)::("fresh",.loc e4)::("mark",.loc e5)::("lying",.loc e6)::("rest",.loc e7)::("last",.loc e8)::r
noncomputable def lA (sl:Addr) (a b:Int) (x:Str) (w:Int) (e0 e1 e2 e3 e4 e5 e6 e7:Option Value) (r:Names):Names:=("script",.loc (some (.ref sl)))::("first",.loc (some (.int a 0)))::("second",.loc (some (.int b 0)))::("text",.loc (some (.str x 0)))::("wide",.loc (some (.int w 0)))::("number",.loc e0)::("sign",.loc e1)::("more",.loc e2)::("k",.loc e3)::("way",.loc e4)::("kept",.loc e5)::("octets",.loc e6)::("short",.loc e7)::r
noncomputable def lawSt (P:Params) (i:Nat):Stmt:=(lawB P).getD i (.Pass ⟨0,0,0,0⟩)
theorem e_joinQ {G:Glb}{S:Sit}{e:Expr}{K:KV}{X:KV}{m:Names}{H:HP}(Q:Value→HP→Prop) (h:WE G S e (fun v m' H'=>m'=m∧Q v H') X m H) (k:∀ v H',Q v H'→K v m H'):WE G S e K X m H:=
 W.mono h (fun v m' H' q=>by obtain ⟨e2,e3⟩:=q;rw [e2];exact k _ H' e3) fun _ _ _ x=>x
theorem signs_lt:∀ c∈signs,c<1114112:=by decide
theorem signs_get {i:Int}(h0:0≤i) (h1:i<12):∃ c∈signs,(signs.map fun c=>Value.str (sgn c) 0).getD i.toNat .none=.str (sgn c) 0:=by
 obtain ⟨k,rfl⟩:∃ k:Nat,i=(k:Int):=⟨i.toNat,(Int.toNat_of_nonneg h0).symm⟩
 have hk:k<signs.length:=by show k<12;exact Int.ofNat_le.mp (by assumption)
 refine ⟨signs[k],List.getElem_mem hk,?_⟩
 rw [Int.toNat_natCast]
 simp [List.getD,hk]
theorem mkS_app (a b:List Nat):(mkS a++mkS b:Str)=mkS (a++b):=by
 show (⟨a.toArray++b.toArray⟩:Str)=⟨(a++b).toArray⟩
 rw [List.append_toArray]
theorem un16_len_le (l:List Nat):l.length≤(un16 l).length:=by
 unfold un16
 induction l with
 | nil=>exact Nat.le_refl _
 | cons c r ih=>rw [List.flatMap_cons,List.length_append,List.length_cons];have:=un1_ne c;lia
inductive IvF12 (H:HP) (sl:Addr) (cs:Addr) (a:Int) (b:Int) (i:Nat) (m':Names) (H':HP):Prop
 | mk:(Sub H H')→∀ l o1 o2 o3 o4,((∀ c∈l,c∈signs))→((un16 l).length≤127)→(m'=(lA sl a b (mkS l) ((un16 l).length:Int) o1 o2 o3 o4 none none none none (lD none none none none none none none none none (lN cs)):Names))→IvF12 H sl cs a b i m' H'
inductive IvF13 (sl:Addr) (cs:Addr) (a:Int) (b:Int) (num:Int) (c:Nat) (H₃:HP) (i:Nat) (m':Names) (H':HP):Prop
 | mk:(H'=H₃)→∀ l o4,((∀ c∈l,c∈signs))→((un16 l).length≤127)→(m'=(lA sl a b (mkS l) ((un16 l).length:Int) (some (.int num 0)) (some (.str (sgn c) 0)) (some (.int ((un1 c).length:Int) 0)) o4 none none none none (lD none none none none none none none none none (lN cs)):Names))→IvF13 sl cs a b num c H₃ i m' H'
section
variable {G:Glb}(hL:L1 G) {S:Sit}{X:KV}{H:HP}{n:Nat}
include hL
set_option maxHeartbeats 4000000 in
theorem law_text (O:S.Ok G) (r:Rm S.A S.stk (n+5)) {P:Params}{sl cs:Addr}{ns:List Int}{a b:Int}(hB:BList G sl ns) (hn:ns.length≤63) :
   WX G S (lawSt P 4) (fun fl m' H'=>fl=.next∧Sub H H'∧∃ l o1 o2 o3 o4,(∀ c∈l,c∈signs)∧(un16 l).length≤127∧m'=(lA sl a b (mkS l) ((un16 l).length:Int) o1 o2 o3 o4 none none none none (lD none none none none none none none none none (lN cs)):Names)) X (lA sl a b ("") 0 none none none none none none none none (lD none none none none none none none none none (lN cs)):Names) H:=by
 refine vX_in O ?_
 repeat walk_at "m:s"
 try walk_at "m:0"
 refine x_for O r.hh ?_
 refine e_joinQ (fun v H'=>∃ q us,v=.ref q∧us.length≤63∧Sub H H'∧H'.o q=some (.list (intL us))) ?_ ?_
 · repeat walk_at "m:s"
   refine sl_listB (lo:=some 2) (hi:=some 28) hB (by rw [sizeLine_eq];exact Nat.le_trans (by assumption) (by decide +kernel)) fun q hq=>?_
   have hcl:(cut ns (some 2) (some 28)).length≤63:=Nat.le_trans (cut_le _ _ _) hn
   generalize cut ns (some 2) (some 28)=us at hcl
   repeat walk_at "m:s"
   refine t_list HP.put_same (by rw [intL_len,sizeLine_eq];exact Nat.le_trans (by assumption) (by decide +kernel)) ?_
   cases us with
   | nil=>
     repeat walk_at "m:s"
     try refine if_f ?_
     repeat walk_at "m:s"
     refine ⟨by show 1≤sizeLine;decide,fun q2 hq2=>?_⟩
     exact ⟨rfl,q2,[24],rfl,by decide,(Sub.put hq).trans (Sub.put hq2),HP.put_same⟩
   | cons u us=>exact ⟨rfl,q,_,rfl,hcl,Sub.put hq,HP.put_same⟩
 rintro v H₁ yq2
 refine xe24 yq2 fun q us zq2 hul hs1 hq=>?_
 obtain rfl:=zq2
 refine ⟨_,_,_,_,itList,hq,(IvF12 H sl cs a b),?_,?_,?_⟩
 · exact ⟨hs1,[],none,none,none,none,fun c hc=>(by cases hc),by decide,rfl⟩
 · rintro pr i m' H₂ hi hR yq6
   obtain ⟨hs,l,o1,o2,o3,o4,hl,hu,rfl⟩:=yq6
   refine asg_abs fun KF XK hk hx=>?_
   rw [intL_len] at hi
   have O:=O.guard pr
   rw [intL_at hi]
   generalize us.getD i 0=num
   refine vA_join O ?_
   repeat walk_at "m:s"
   refine ws0 (ws_cut O 1 ?_)
   repeat walk_at "m:s"
   refine ⟨keepsK (by rw [hL.K];rfl),calc_of fun sv=>signs_c hL (n:=n+4) r fun sg hsg=>?_⟩
   repeat walk_at "m:s"
   refine b_mod (by decide) ?_
   refine xe12 (signs_get (i:=num % 12) (by exact Int.emod_nonneg _ (by decide +kernel)) (by exact Int.emod_lt_of_pos _ (by decide +kernel))) fun c hc ec=>?_
   repeat walk_at "m:s"
   refine it_list HP.put_same (by exact Int.emod_nonneg _ (by decide +kernel)) (by show num % 12<12;exact Int.emod_lt_of_pos _ (by decide +kernel)) (by show 12≤sizeLine;decide) ?_
   rw [ec]
   have hc':=signs_lt c hc
   repeat walk_at "m:s"
   refine ws_asgV O (.int ((un1 c).length:Int) 0) rfl rfl ?_ ?_
   · repeat walk_at "m:s"
     (first | refine we0 (ifx_in (by assumption) ?_) | refine ifx_in (by assumption) ?_);repeat walk_at "m:s"
     refine ⟨keepsB,f_ord ?_⟩
     repeat walk_at "m:s"
     refine if_bI (fun h=>?_) (fun h=>?_)
     · repeat walk_at "m:s"
       refine ⟨rfl,?_,rfl⟩
       rw [un1,if_neg (by lia)];rfl
     · repeat walk_at "m:s"
       refine ⟨rfl,?_,rfl⟩
       rw [un1,if_pos (by lia)];rfl
   repeat walk_at "m:s"
   try walk_at "m:0"
   refine x_for O r.hh ?_
   repeat walk_at "m:s"
   refine b_floordiv (by decide) (by decide) ?_
   repeat walk_at "m:s"
   refine b_mod (by decide) ?_
   repeat walk_at "m:s"
   refine ⟨keepsT,f_range1 fun rg t1 u1 v1 hrg=>?_⟩
   have hsg2:=(hs.trans (Sub.put (c:=.list (signs.map fun c=>.str (sgn c) 0)) hsg)).trans (Sub.put (c:=.obj (rngObj 0 (1+num / 12 % 5) 1 t1 u1 v1)) hrg)
   have hqq:=HP.put_fresh (c:=.obj (rngObj 0 (1+num / 12 % 5) 1 t1 u1 v1)) hrg (HP.put_fresh (c:=.list (signs.map fun c=>.str (sgn c) 0)) hsg hR)
   have hrr:=HP.put_same (H:=H₂.put sg (.list (signs.map fun c=>.str (sgn c) 0))) (a:=rg) (c:=.obj (rngObj 0 (1+num / 12 % 5) 1 t1 u1 v1))
   generalize (H₂.put sg (.list (signs.map fun c=>.str (sgn c) 0))).put rg (.obj (rngObj 0 (1+num / 12 % 5) 1 t1 u1 v1))=H₃ at hsg2 hqq hrr ⊢
   refine ⟨_,_,_,_,itRange (small_one (by simp) (by simp) (Int.le_trans (by decide) (Int.add_nonneg (by decide:(0:Int)≤1) (Int.emod_nonneg (num / 12) (by decide)))) (Int.lt_of_lt_of_le (Int.add_lt_add_left (Int.emod_lt_of_pos (num / 12) (by decide)) 1) (by decide))),hrr,(IvF13 sl cs a b num c H₃),?_,?_,?_⟩
   · exact ⟨rfl,l,_,hl,hu,rfl⟩
   · rintro pr j m' H₄ hj - yq6
     obtain ⟨rfl,l,o4,hl,hu,rfl⟩:=yq6
     refine asg_abs fun KF XK hk hx=>?_
     have O:=O.guard pr
     repeat walk_at "m:s"
     refine if_bI (fun h=>?_) (fun h=>?_)
     · have hll:=un16_len_le l
       repeat walk_at "m:s"
       refine b_add_s (by rw [mkS_len,show (sgn c).length=1 from rfl,sizeLine_eq];lia) ?_
       rw [show (mkS l++sgn c:Str)=mkS (l++[c]) from mkS_app l [c]]
       repeat walk_at "m:s"
       have hlc:((un16 l).length:Int)+((un1 c).length:Int)=((un16 (l++[c])).length:Int):=by
         rw [un16_app,List.length_append,show un16 [c]=un1 c by simp [un16]];exact rfl
       rw [hlc] at h
       exact hk _ _ _ ⟨hrr,rfl,l++[c],_,fun z hz=>by rcases List.mem_append.mp hz with hz | hz;exact hl z hz;rw [List.mem_singleton.mp hz];exact hc,by exact Int.ofNat_le.mp (by assumption),by rw [← hlc];rfl⟩
     · repeat walk_at "m:s"
       exact hk _ _ _ ⟨hrr,rfl,l,_,hl,hu,rfl⟩
   · rintro m' H₄ - yq3
     obtain ⟨rfl,l,o4,hl,hu,rfl⟩:=yq3
     repeat walk_at "m:s"
     exact hk _ _ _ ⟨hqq,hsg2,l,_,_,_,_,hl,hu,rfl⟩
 · rintro m' H₂ hR yq3
   obtain ⟨hs,l,o1,o2,o3,o4,hl,hu,rfl⟩:=yq3
   repeat walk_at "m:s"
   exact ⟨rfl,hs,l,o1,o2,o3,o4,hl,hu,rfl⟩
end
end
section
theorem foldl_appN (items:Array Nat):∀ (k:Nat) (acc:Array Nat),(List.foldl (fun x1 x2=>x1++x2) acc (List.replicate k items)).toList=acc.toList++(List.replicate k items.toList).flatten
 | 0,acc=>by simp
 | k+1,acc=>by
   rw [List.replicate_succ,List.foldl_cons,foldl_appN items k,List.replicate_succ,List.flatten_cons,Array.toList_append,List.append_assoc]
theorem flat_one (c:Nat) (q:Nat):(List.replicate q [c]).flatten=List.replicate q c:=by
 induction q with
 | zero=>rfl
 | succ q ih=>rw [List.replicate_succ,List.flatten_cons,ih,List.replicate_succ];rfl
theorem mul_sgn {c:Nat}{n:Int}(h0:1≤n):Txt.mul (sgn c) n=mkS (List.replicate n.toNat c):=by
 unfold Txt.mul
 rw [if_neg (by lia)]
 split
 · rename_i h
   have hn:n=1:=by
     rw [Bool.or_eq_true] at h
     rcases h with h | h
     · exact beq_iff_eq.mp h
     · cases h
   subst hn;rfl
 · show (⟨_⟩:Str)=⟨_⟩
   congr 1
   apply Array.toList_inj.mp
   rw [foldl_appN]
   show []++(List.replicate n.toNat [c]).flatten=_
   rw [flat_one];simp
theorem few_cps:(("QB7~" : Str)).cps.toList=[81,66,55,126]:=by kernel_rfl
theorem few_lt:∀ c∈[81,66,55,126],c∈signs∧c<65536:=by decide
theorem in_few (c:Nat):(!(Builtin.Str.occurrences (("QB7~" : Str)) ⟨#[c]⟩ 0 (("QB7~" : Str)).length 1).isEmpty)=bI (c∈[81,66,55,126]):=by
 rw [StrLaws.found_one,few_cps,bI_dec]
theorem strL_snoc {kl:List Nat}{c:Nat}:strL (kl.map sgn)++[.str ⟨#[c]⟩ 0]=strL ((kl++[c]).map sgn):=by simp [strL,sgn]
theorem cut_str (l:List Nat) (lo hi:Option Int):(⟨(cut (mkS l).cps.toList lo hi).toArray⟩:Str)=mkS (cut l lo hi):=by
 show (⟨(cut l.toArray.toList lo hi).toArray⟩:Str)=_
 rw [List.toList_toArray];rfl
theorem cut_mem {l:List Nat}{lo hi:Option Int}{c:Nat}(h:c∈cut l lo hi):c∈l:=List.mem_of_mem_drop (List.mem_of_mem_take h)
section
variable {G:Glb}{S:Sit}{X:KV}{m:Names}{H:HP}{K:KV}
theorem b_mul_s {c:Nat}{n:Int}(h0:1≤n) (h1:n≤100000) (k:K (.str (mkS (List.replicate n.toNat c)) 0) m H):BinC G S .Mult (.str (sgn c) 0) (.int n 0) K X m H:=op_si fun t u s mm M R=>by
 refine SB.mul ⟨?_,fun _ _ h=>?_,fun _ _=>?_⟩ fun t' k'=>?_
 · rw [decide_eq_false (Int.not_lt.mpr (Int.le_trans (by decide) h0)),decide_eq_false (p:=n ≥ 2 ^ 63) (Int.not_le.mpr (Int.lt_of_le_of_lt h1 (by decide)))];rfl
 · have h2:(1:Int)≤(2 ^ 63 - 1) / n:=Int.le_ediv_of_mul_le (by assumption) (by lia)
   rw [show (sgn c).length=1 from rfl] at h
   lia
 · rw [show (sgn c).length=1 from rfl]
   unfold Builtin.Str.tooLong
   rw [sizeLine_eq,decide_eq_false_iff_not];exact Nat.not_lt.mpr (by rw [Nat.one_mul];exact Nat.le_trans (Int.toNat_le.mpr h1:_≤100000) (by decide))
 · rw [mul_sgn h0]
   exact eff_ M R k
end
section
variable {G:Glb}(hL:L1 G) {S:Sit}{X:KV}{H:HP}{n:Nat}
include hL
set_option maxHeartbeats 4000000 in
theorem law_way7 (O:S.Ok G) {P:Params}{sl cs:Addr}{a b w wd:Int}{l:List Nat}{o1 o2 o3 o4 o5:Option Value}(hl:l.length≤200) (h0:0≤wd) (h1:wd≤127) :
   WX G S (lawSt P 7) (fun fl m' H'=>fl=.next∧H'=H∧∃ l',((w≠7∧l'=l)∨(w=7∧∃ z:Nat,129≤z∧256≤(z:Int)+wd∧z≤300∧l'=l++List.replicate z 97))∧m'=(lA sl a b (mkS l') wd o1 o2 o3 o4 (some (.int w 0)) o5 none none (lD none none none none none none none none none (lN cs)):Names)) X (lA sl a b (mkS l) wd o1 o2 o3 o4 (some (.int w 0)) o5 none none (lD none none none none none none none none none (lN cs)):Names) H:=by
 refine vX_in O ?_
 repeat walk_at "m:s"
 refine if_bI (fun h7=>?_) (fun h7=>?_)
 · repeat walk_at "m:s"
   refine b_floordiv (by decide) (by decide) ?_
   repeat walk_at "m:s"
   refine b_mod (by decide) ?_
   repeat walk_at "m:s"
   rw [show (("a" : Str))=sgn 97 by kernel_rfl]
   repeat walk_at "m:s"
   have h5:=Int.emod_nonneg (a / 8) (by decide:(5:Int)≠0)
   have hE1:129≤256 - wd+a / 8 % 5:=Int.le_trans (by exact Int.sub_le_sub_left h1 256) (Int.le_add_of_nonneg_right h5)
   have hE2:256 - wd+a / 8 % 5≤260:=Int.add_le_add (Int.sub_le_self 256 h0) (Int.le_of_lt_add_one (Int.emod_lt_of_pos (a / 8) (by decide)):a / 8 % 5≤4)
   have hE0:=Int.le_trans (by decide:(0:Int)≤129) hE1
   refine b_mul_s (Int.le_trans (by decide) hE1) (Int.le_trans hE2 (by decide)) ?_
   repeat walk_at "m:s"
   refine b_add_s (by rw [mkS_len,mkS_len,List.length_replicate,sizeLine_eq];exact Nat.le_trans (Nat.add_le_add hl (Int.toNat_le.mpr hE2:_≤260)) (by decide)) ?_
   rw [mkS_app]
   repeat walk_at "m:s"
   exact ⟨rfl,rfl,_,.inr ⟨h7,_,(Int.le_toNat hE0).mpr hE1,by rw [Int.toNat_of_nonneg hE0,Int.add_right_comm,Int.sub_add_cancel];exact Int.le_add_of_nonneg_right h5,Nat.le_trans (Int.toNat_le.mpr hE2:_≤260) (by decide),rfl⟩,rfl⟩
 · repeat walk_at "m:s"
   exact ⟨rfl,rfl,l,.inl ⟨h7,rfl⟩,rfl⟩
set_option maxHeartbeats 4000000 in
theorem law_way6 (O:S.Ok G) (r:Rm S.A S.stk (n+5)) {P:Params}{sl cs:Addr}{a b w wd:Int}{l:List Nat}{o1 o2 o3 o4:Option Value}(hl:l.length≤200) (hs:∀ c∈l,c∈signs) (hu:(un16 l).length≤127) :
   WX G S (lawSt P 6) (fun fl m' H'=>fl=.next∧Sub H H'∧∃ l' o5,(∀ c∈l',c∈signs)∧(un16 l').length≤127∧m'=(lA sl a b (mkS l') wd o1 o2 o3 o4 (some (.int w 0)) o5 none none (lD none none none none none none none none none (lN cs)):Names)) X (lA sl a b (mkS l) wd o1 o2 o3 o4 (some (.int w 0)) none none none (lD none none none none none none none none none (lN cs)):Names) H:=by
 refine vX_in O ?_
 repeat walk_at "m:s"
 refine if_bI (fun h6=>?_) (fun h6=>?_)
 rotate_left
 · repeat walk_at "m:s"
   exact ⟨rfl,Sub.refl _,l,none,hs,hu,rfl⟩
 repeat walk_at "m:s"
 refine met_s PySem.F.slot_str_join PySem.F.type_str_join ?_
 repeat walk_at "m:s"
 try walk_at "m:0"
 refine e_comp1 O r.hh ⟨rfl,rfl,rfl,rfl⟩ ?_
 repeat walk_at "m:s"
 refine ⟨[],["sign"],[],(by repeat first | exact Clos.nil | refine Clos.skip (by decide) ?_ | refine Clos.free (lk_mem rfl) ?_),rfl,by rw [hL.tab];decide,_,_,_,_,itStr,trivial,fun i ys m' H'=>H'=H∧(∃ kl:List Nat,ys=strL (kl.map sgn)∧kl.length≤i∧∀ c∈kl,c∈[81,66,55,126])∧∃ o1,m'=([("sign",.loc o1)]:Names),?_,?_,?_⟩
 · exact ⟨rfl,⟨[],rfl,Nat.le_refl _,fun c hc=>(by cases hc)⟩,none,rfl⟩
 · rintro mm C pr i ys m' H₁ O hi - yq10
   obtain ⟨rfl,⟨kl,rfl,hkl,hk⟩,o1,rfl⟩:=yq10
   have hi':i<l.length:=by simpa [mkS] using hi
   rw [show chr1 (mkS l) i=.str ⟨#[l.getD i 0]⟩ 0 from by unfold chr1;rw [show (mkS l).cps.toList=l from List.toList_toArray]]
   generalize l.getD i 0=c
   repeat walk_at "m:s"
   rw [in_few]
   repeat walk_at "m:s"
   refine if_bI (fun hc=>?_) (fun hc=>?_)
   · refine ⟨by simp only [strL,List.length_map,sizeLine_eq];lia,?_⟩
     repeat walk_at "m:s"
     exact ⟨trivial,rfl,⟨kl++[c],strL_snoc,by rw [List.length_append];exact Nat.add_le_add_right hkl 1,fun z hz=>by rcases List.mem_append.mp hz with hz | hz;exact hk z hz;rw [List.mem_singleton.mp hz];exact hc⟩,_,rfl⟩
   · exact ⟨trivial,rfl,⟨kl,rfl,Nat.le_succ_of_le hkl,hk⟩,_,rfl⟩
 · rintro ys m' H₁ - yq4 D hD
   obtain ⟨rfl,⟨kl,rfl,hkl,hk⟩,o1,rfl⟩:=yq4
   have hkl:kl.length≤200:=Nat.le_trans hkl (Nat.le_trans (Nat.le_of_eq List.size_toArray) hl)
   repeat walk_at "m:s"
   refine ⟨keepsB,f_join (xs:=kl.map sgn) HP.put_same ?_ ?_⟩
   · rw [List.map_map,show (Str.length ∘ sgn)=fun _=>1 from rfl,sum_ones,List.length_map,show (("" : Str)).length=0 from rfl];exact Nat.le_trans (by assumption) (by decide +kernel)
   rw [join_sgn]
   repeat walk_at "m:s"
   refine sl_str (lo:=none) (hi:=some 7) (by rw [mkS_len,sizeLine_eq];exact Nat.le_trans (by assumption) (by decide +kernel)) ?_
   have h7:=cut_to kl 7
   rw [cut_str,show (("Q" : Str))=mkS [81] by kernel_rfl]
   have hc7:(cut kl none (some 7)).length≤7:=by
     rcases Nat.lt_or_ge kl.length 7 with h | h
     · exact Nat.le_trans (cut_le _ _ _) (by exact Nat.le_of_lt (by assumption))
     · rw [show (some 7:Option Int)=some ((7:Nat):Int) from rfl,h7 h,List.length_take];exact Nat.min_le_left _ _
   repeat walk_at "m:s"
   refine b_add_s (by rw [mkS_len,mkS_len,sizeLine_eq];show 1+_≤_;exact Nat.le_trans (Nat.add_le_add_left hc7 1) (by decide +kernel)) ?_
   rw [mkS_app]
   repeat walk_at "m:s"
   refine we0 (e_joinQ (fun v H'=>∃ t:List Nat,v=.str (mkS t) 0∧t.length≤4∧(∀ c∈t,c∈signs)∧H'=H₁.put D (.list (strL (kl.map sgn)))) ?_ ?_)
   · (first | refine we0 (ifx_in (by assumption) ?_) | refine ifx_in (by assumption) ?_);repeat walk_at "m:s"
     refine ⟨keepsB,f_len_s (by rw [mkS_len,sizeLine_eq];exact Nat.le_trans (by assumption) (by decide +kernel)) ?_⟩
     rw [mkS_len]
     repeat walk_at "m:s"
     refine if_bI (fun h=>?_) (fun h=>?_)
     · repeat walk_at "m:s"
       refine sl_str (lo:=some 7) (hi:=some 10) (by rw [mkS_len,sizeLine_eq];exact Nat.le_trans (by assumption) (by decide +kernel)) ?_
       rw [cut_str,show (("." : Str))=mkS [46] by kernel_rfl]
       have hc3:(cut kl (some 7) (some 10)).length≤3:=by
         unfold cut
         have e1:clipI kl.length (some 7) 0=7:=clip_nat (a:=7) (Nat.le_of_lt (Int.ofNat_lt.mp h))
         have e2:clipI kl.length (some 10) (kl.length:Int)≤10:=Int.max_le.mpr ⟨by decide,Int.le_trans (Int.min_le_left _ _) (Int.le_of_eq (if_neg (by decide)))⟩
         rw [e1,List.length_take];exact Nat.le_trans (Nat.min_le_left _ _) (Nat.sub_le_sub_right (Int.toNat_le.mpr e2:_≤10) 7)
       repeat walk_at "m:s"
       refine b_add_s (by rw [mkS_len,mkS_len,sizeLine_eq];show 1+_≤_;exact Nat.le_trans (Nat.add_le_add_left hc3 1) (by decide +kernel)) ?_
       rw [mkS_app]
       refine ⟨rfl,_,rfl,by rw [List.length_append];show 1+_≤4;exact Nat.add_le_add_left hc3 1,fun c hc=>?_,rfl⟩
       rcases List.mem_append.mp hc with hc | hc
       · rw [List.mem_singleton.mp hc];decide
       · exact (few_lt c (hk c (cut_mem hc))).1
     · repeat walk_at "m:s"
       exact ⟨rfl,[],rfl,by decide,fun c hc=>(by cases hc),rfl⟩
   rintro v H₂ yq2
   refine xe14 yq2 fun t zq1 htl hts zq4=>?_
   obtain rfl:=zq1
   obtain rfl:=zq4
   have hl':([81]++cut kl none (some 7)).length≤8:=by rw [List.length_append];show 1+_≤8;exact Nat.add_le_add_left hc7 1
   repeat walk_at "m:s"
   refine b_add_s (by rw [mkS_len,mkS_len,sizeLine_eq];lia) ?_
   rw [mkS_app]
   repeat walk_at "m:s"
   refine ⟨rfl,Sub.put hD,_,_,fun c hc=>?_,?_,rfl⟩
   · rcases List.mem_append.mp hc with hc | hc
     · rcases List.mem_append.mp hc with hc | hc
       · rw [List.mem_singleton.mp hc];decide
       · exact (few_lt c (hk c (cut_mem hc))).1
     · exact hts c hc
   · have:=un16_le ([81]++cut kl none (some 7)++t)
     rw [List.length_append] at this;exact Nat.le_trans this (Nat.le_trans (Nat.mul_le_mul_left 2 (Nat.add_le_add (by assumption) (by assumption))) (by decide:2 * (8+4)≤127))
end
end
section
inductive IvF30 (H:HP) (sl:Addr) (cs:Addr) (a:Int) (b:Int) (w:Int) (wd:Int) (l:List Nat) (o1:Option Value) (o2:Option Value) (o3:Option Value) (o4:Option Value) (o5:Option Value) (m':Names) (H':HP):Prop
 | mk:(Sub H H')→∀ oc os,(H'.o oc=some (.list (intL os)))→(os.length=11)→((∀ z∈os,0≤z∧z<256))→(65≤os.getD 0 0)→(os.getD 0 0≤90)→(m'=(lA sl a b (mkS l) wd o1 o2 o3 o4 (some (.int w 0)) o5 (some (.ref oc)) none (lD none none none none none none none none none (lN cs)):Names))→IvF30 H sl cs a b w wd l o1 o2 o3 o4 o5 m' H'
inductive IvF31 (cs:Addr) (H₁:HP) (rg:Addr) (t:Tok) (u:Tok) (v:Tok) (i:Nat) (ys:List Value) (m':Names) (H':HP):Prop
 | mk:(H'=H₁.put rg (.obj (rngObj 1 11 1 t u v)))→((∃ zs,ys=intL zs∧zs.length=i∧∀ z∈zs,0≤z∧z<256))→∀ o1,(m'=([("k",.loc o1),("seed",.cel cs)]:Names))→IvF31 cs H₁ rg t u v i ys m' H'
section
variable {G:Glb}(hL:L1 G) {S:Sit}{X:KV}{H:HP}{n:Nat}
include hL
set_option maxHeartbeats 4000000 in
theorem law_octets (O:S.Ok G) (r:Rm S.A S.stk (n+5)) {P:Params}{sl cs:Addr}{a b w wd sd:Int}{l:List Nat}{o1 o2 o3 o4 o5:Option Value}(hsd:H.o cs=some (.cell (some (.int sd 0)))) (h0:0≤sd) :
   WX G S (lawSt P 9) (fun fl m' H'=>fl=.next∧IvF30 H sl cs a b w wd l o1 o2 o3 o4 o5 m' H') X (lA sl a b (mkS l) wd o1 o2 o3 o4 (some (.int w 0)) o5 none none (lD none none none none none none none none none (lN cs)):Names) H:=by
 refine vX_in O ?_
 repeat walk_at "m:s"
 refine b_mod (by decide) ?_
 repeat walk_at "m:s"
 refine ⟨by show 1≤sizeLine;decide,fun q hq=>?_⟩
 have hsd1:=HP.put_fresh (c:=.list [.int (65+sd % 26) 0]) hq hsd
 have hq1:=HP.put_same (H:=H) (a:=q) (c:=.list [.int (65+sd % 26) 0])
 have hs1:=Sub.put (H:=H) (c:=.list [.int (65+sd % 26) 0]) hq
 generalize H.put q (.list [.int (65+sd % 26) 0])=H₁ at hsd1 hq1 hs1 ⊢
 repeat walk_at "m:s"
 try walk_at "m:0"
 refine e_comp1 O r.hh ⟨rfl,rfl,rfl,rfl⟩ ?_
 repeat walk_at "m:s"
 refine ⟨keepsT,f_range2 fun rg t u v hrg=>?_⟩
 have hrs:(Builtin.Range.rangeSize 1 11 1).toNat=10:=by rw [rangeSize_nat];rfl
 refine ⟨[("seed",cs)],["k"],[],(by repeat first | exact Clos.nil | refine Clos.skip (by decide) ?_ | refine Clos.free (lk_mem rfl) ?_),rfl,by rw [hL.tab];decide,_,_,_,_,itRange (small_one (by decide) (by decide) (by decide) (by decide)),HP.put_same,(IvF31 cs H₁ rg t u v),?_,?_,?_⟩
 · exact ⟨rfl,⟨[],rfl,rfl,fun z hz=>(by cases hz)⟩,none,rfl⟩
 · rintro mm C pr i ys m' H₂ O hi - yq10
   obtain ⟨rfl,⟨zs,rfl,hzl,hz⟩,o1,rfl⟩:=yq10
   rw [hrs] at hi
   have hsd2:=HP.put_fresh (c:=.obj (rngObj 1 11 1 t u v)) hrg hsd1
   repeat walk_at "m:s"
   refine And.intro (by rw [intL_len,hzl,sizeLine_eq];exact Nat.le_trans (Nat.le_of_lt (by assumption)) (by decide +kernel)) ?_
   repeat walk_at "m:s"
   refine b_floordiv (Int.ofNat_lt.mpr (Nat.succ_pos (1+i * 1))) (by show 1+i * 1+1<_;rw [Nat.mul_one];exact Nat.lt_of_lt_of_le (Nat.add_lt_add_right (Nat.add_lt_add_left hi 1) 1) (by decide +kernel)) ?_
   repeat walk_at "m:s"
   refine b_mul (mul_ok (by decide) (by decide)) ?_
   repeat walk_at "m:s"
   try refine b_add ?_
   repeat walk_at "m:s"
   refine b_mod (by decide) ?_
   refine ⟨HP.put_same,rfl,⟨zs++[_],intL_snoc,by rw [List.length_append,hzl];rfl,fun z hz'=>?_⟩,_,rfl⟩
   rcases List.mem_append.mp hz' with h | h
   · exact hz z h
   · rw [List.mem_singleton.mp h];exact ⟨Int.emod_nonneg _ (by decide +kernel),Int.emod_lt_of_pos _ (by decide +kernel)⟩
 · rintro ys m' H₂ - yq4 D hD
   obtain ⟨rfl,⟨zs,rfl,hzl,hz⟩,o1,rfl⟩:=yq4
   rw [hrs] at hzl
   repeat walk_at "m:s"
   refine b_add_l (HP.put_fresh hD (HP.put_fresh hrg hq1)) HP.put_same (by rw [intL_len,hzl,sizeLine_eq];show 1+10≤16777216;decide) fun oc hoc=>?_
   repeat walk_at "m:s"
   refine ⟨rfl,((hs1.trans (Sub.put hrg)).trans (Sub.put hD)).trans (Sub.put hoc),oc,(65+sd % 26)::zs,HP.put_same,by rw [List.length_cons,hzl],fun z hz'=>?_,?_,?_,rfl⟩
   · cases hz' with
     | head=>exact ⟨Int.add_nonneg (by decide) (Int.emod_nonneg _ (by decide)),Int.lt_trans (Int.add_lt_add_left (Int.emod_lt_of_pos _ (by decide)) 65) (by decide)⟩
     | tail _ h=>exact hz z h
   · exact Int.le_add_of_nonneg_right (Int.emod_nonneg _ (by decide))
   · exact Int.add_le_add_left (Int.le_of_lt_add_one (Int.emod_lt_of_pos _ (by decide)):sd % 26≤25) 65
end
end
section
set_option maxHeartbeats 2000000
inductive TurnG (G:Glb) (S:Sit) (pr:Pr) (H:HP) (L P:Addr) (env:Env) (pos:Pos) (qual:Str) (rows:List Addr) (g:Nat) (D:Addr) (oD₀:Obj) (mm₀:Str→Option Value) (I:Nat→List Value→Names→Prop) (k:Nat) (s':Shared):Prop
 | mk (i:Nat) (ys:List Value) (m:Names) (mm:Str→Option Value) (Hb:HP) (oD:Obj) (hk:k=rows.length - i) (hin:i≤rows.length) (M:MOk G S.env mm m) (R:RelC G S.stk ((S.L,mm)::S.sv) ((D,oD)::pr) Hb s') (hO:∃ rvs n,oD={ cls:=.type "list",data:=.seq rvs n }∧rvs.toList.map er=ys) (hI:I i ys m)
   (hr:Ready G S.A S.stk ((S.L,mm₀)::S.sv) ((D,oD₀)::pr) (genHc H L P g) L P env pos qual rows g i s') (hat:(i=0∧mm=mm₀∧oD=oD₀∧Hb=H)∨(0<i∧Hb.o=(genHc H L P g).o))
section
variable {G:Glb}{S:Sit}{D:Addr}{m:Names}{H:HP}{K:List Value→Names→HP→Prop}
theorem turnsGen {e:Expr}{k:Nat}{t ite elt:Expr}{emit:Sem Unit}(hF:FillOk G S D emit (EltP G elt))
   (hh:S.A.handled=none) (hroom:S.A.depth<recursionLimit) (hq:∀ it,(Code.compLoop e k it (.ref D) S.env).quiet=true) (hu:∀ it,S.A.under (.compLoop e k it (.ref D) S.env)=S.A) (hden:∀ it,G.M.den (.compLoop e k it (.ref D) S.env)=(compTurn e k it (.ref D) S.env).onRaise (fun x=>do noteFrame x S.env;theTreesLotGoes x))
   (heq:∀ it,compTurn e k it (.ref D) S.env=(do
     standAt ite.pos
     match ← pyNext it with
     | none=>pure (.done .next)
     | some v=>
       letOwnedTupleGo t it v
       assign t S.env v
       let mut ok:=true
       for c in ([]:List Expr) do
         if ok then ok ← isTrue c S.env (eval c S.env)
       if ok then emit
       again (.compLoop e k it (.ref D) S.env)))
   (ht:∀ it v,letOwnedTupleGo t it v=pure ())
   {a g:Nat}{L P:Addr}{env:Env}{pos:Pos}{qual:Str}{rows:List Addr}(GI:GenIn G S.A S.stk H a g L P env pos qual rows) (I:Nat→List Value→Names→Prop)
   (turn:∀ pr i r ys m Hb,rows[i]? = some r→Hb.o=(genHc H L P g).o→I i ys m→AsgC G (S.guard pr) t (.ref r) (fun _=>EltP G elt (S.guard pr) ys (fun ys m H'=>Sub Hb H'∧I (i+1) ys m)) noX m Hb)
   (fin:∀ ys m H',Back H L P pos qual H'→I rows.length ys m→K ys m H') {R:Result→Shared→Prop}{pr:Pr}(hR:∀ s,FillQ G (S.guard pr) D K s→R (.ok .next) s)
   {ys:List Value}{s:Shared}{mm:Str→Option Value}(M:MOk G S.env mm m) (R₀:RelC G S.stk ((S.L,mm)::S.sv) pr H s) (ac:AccAt G pr D ys ((S.L,mm)::S.sv) H s)
   (hI:I 0 ys m):codeAny G.M S.A (.compLoop e k (.ref a) (.ref D) S.env) R s:=by
 obtain ⟨nm,qn,hobj⟩:=GI.obj
 refine xe11 GI.table fun cP hP=>?_
 refine xe12 (ac.guard R₀) fun oD₀ R₁ hO₀=>?_
 have hDp:D∉pr.map (·.1):=ac.npr
 refine codeAny_loop (hq _) (TurnG G S pr H L P env pos qual rows g D oD₀ mm I) ?_ rows.length
   ⟨0,ys,m,mm,H,oD₀,rfl,Nat.zero_le _,M,R₁,hO₀,hI,GI.ready _ _ s R₁,.inl ⟨rfl,rfl,rfl,rfl⟩⟩
 rintro k' s' yq2
 obtain ⟨i,ys,m,mm₁,Hb,oD,rfl,hin,M,R',hO,hI,hr,hat⟩:=yq2
 rw [hu,hden]
 refine wpAny_noted ?_
 rw [heq]
 refine wpAny_bind (wpAny_standAt (wpAny_bind ?_))
 have hat':(i=0∧((S.L,mm₁)::S.sv)=((S.L,mm)::S.sv)∧((D,oD)::pr:Pr)=(D,oD₀)::pr∧(genHc H L P g).g=(s'.setGen g .running).gens)∨(0<i∧(((S.L,mm₁)::S.sv).map (·.1))=(((S.L,mm)::S.sv).map (·.1))∧((D,oD)::pr:Pr).map (·.1)=((D,oD₀)::pr:Pr).map (·.1)∧Hb.o=(genHc H L P g).o):=by
   rcases hat with ⟨rfl,rfl,rfl,rfl⟩ | ⟨h1,h2⟩
   · exact .inl ⟨rfl,rfl,rfl,by show _=s'.gens.setIfInBounds g .running;rw [R'.gens];rfl⟩
   · exact .inr ⟨h1,rfl,rfl,h2⟩
 have ha':Hb.o a=some (.obj { cls:=.type "generator",data:=.fields #[.int g 0,nm,qn] }):=by
   rcases hat with ⟨rfl,rfl,rfl,rfl⟩ | ⟨h1,h2⟩
   · exact hobj
   · rw [h2,genHc_ne GI.aL GI.aP];exact hobj
 refine gen_next hh hroom R' hat' ha' hr hin ?_ ?_
 · rintro r s₁ H₂ hrow e₂ R₂ hj yq7
   refine xe12 yq7 fun Own hok hrd=>?_
   dsimp only
   rw [ht]
   refine wpAny_bind (wpAny_pure (wpAny_bind ?_))
   have hlt:i<rows.length:=(List.getElem?_eq_some_iff.mp hrow).1
   have R₂u:RelC G S.stk ((S.L,mm₁)::S.sv) pr H₂ s₁:=R₂.unguard
   obtain ⟨d1,d2,d3,d4⟩:=R₂.prot _ (.head _)
   have R₃:=own_guard (sv₀:=(S.L,mm)::S.sv) (pr₀:=(D,oD₀)::pr) R₂u e₂ rfl hok
   have hDo:D∉(ownPr (genHc H L P g) s₁.heap Own++pr:Pr).map (·.1):=fun q=>by
     rw [List.map_append,List.mem_append] at q
     rcases q with q | q
     · refine xe12 (List.mem_map.mp q) fun p hp zq2=>?_
       obtain rfl:=zq2
       refine xe03 (mem_ownPr.mp hp) fun h1 h2 h3=>?_
       rcases hok _ h1 with ⟨h4,h5⟩ | ⟨ob,h4⟩
       · exact h4 (.inr (.inr (.inl List.mem_cons_self)))
       · rw [h2] at h4;cases h4
     · exact hDp q
   have R₄:=R₃.guard d1 d2 d3 d4
   refine wpAny_mono (turn ((D,oD)::(ownPr (genHc H L P g) s₁.heap Own++pr)) i r ys m H₂ hrow e₂ hI (.ref r) rfl _ mm₁ M R₄) (fun _ s₂ qq=>?_) fun _ _ q=>q.no.elim
   obtain ⟨m₂,H₃,mm₂,M₂,R₅,k⟩:=qq
   refine wpAny_bind (wpAny_pure ?_)
   rw [if_pos rfl]
   refine wpAny_bind (wpAny_mono (hF (ownPr (genHc H L P g) s₁.heap Own++pr) ys _ m₂ H₃ oD k s₂ mm₂ _ M₂ R₅ hDo hO) (fun _ s₄ qq=>?_) fun _ _ q=>q)
   obtain ⟨ys₄,m₄,H₄,mm₄,M₄,R₇,a₄,k⟩:=qq
   refine xe02 k fun hsub hI'=>?_
   have R₈:RelC G S.stk ((S.L,mm₄)::S.sv) pr H₂ s₄:=(R₇.unguards).sub hsub
   have a₈:AccAt G pr D ys₄ ((S.L,mm₄)::S.sv) H₂ s₄:=by
     obtain ⟨rvs,hl,e,b1,b2,b3,b4⟩:=a₄
     exact ⟨rvs,hl,e,b1,b2,d4,hDp⟩
   refine xe12 (a₈.guard R₈) fun oD' R₉ hO'=>?_
   exact wpAny_pure ⟨rfl,rows.length - (i+1),by exact Nat.sub_lt_sub_left (by assumption) (Nat.lt_succ_self _),i+1,ys₄,m₄,mm₄,H₂,oD',rfl,hlt,M₄,R₉,hO',hI',hrd s₄ (own_kept R₂u e₂ hok R₇ hsub) (R₈.gens.trans R₂.gens.symm) (G.T.nolimit.keeps R₈.base),.inr ⟨Nat.succ_pos _,e₂⟩⟩
 · rintro s₁ H₂ rfl e₂ R₂ hj
   dsimp only
   refine xe13 (gen_fin (sv₀:=(S.L,mm)::S.sv) (pr₀:=(D,oD₀)::pr) R₁ hP R₂ rfl rfl e₂ hj) fun H' hb R₃ _=>?_
   exact wpAny_pure (hR _ ⟨ys,m,H',mm₁,M,R₃.unguard,.back R₃ hO hDp,fin ys m H' hb hI⟩)
end
section
variable {G:Glb}{S:Sit}{m:Names}{H:HP}{X:KV}{K:KV}{elt ite:Expr}{x:Str}{px:Pos}{scope:Scope}{pos p:Pos}
inductive CompG (G:Glb) (S:Sit) (scope:Scope) (t elt:Expr) (K:List Value→HP→Prop) (v:Value) (m:Names) (H:HP):Prop where
 | mk (cs:List (Str × Addr)) (ls:List Str) (gs:List (Str × Value)) (hcl:Clos m scope.names [] cs) (hchk:chkM scope.names ls (cs.map (·.1)) (gs.map (·.1))=true) (hgs:∀ x∈gs,x∈G.gtab)
   (a:Addr) (g:Nat) (L P:Addr) (env:Env) (pos:Pos) (qual:Str) (rows:List Addr) (hv:v=.ref a) (hG:GenIn G S.A S.stk H a g L P env pos qual rows) (I:Nat→List Value→Names→Prop) (h0:I 0 [] (mkM ls cs gs))
   (turn:∀ mm C pr i r ys m Hb,((compSit S scope cs mm C).guard pr).Ok G→rows[i]? = some r→Hb.o=(genHc H L P g).o→I i ys m→AsgC G ((compSit S scope cs mm C).guard pr) t (.ref r) (fun _=>EltP G elt ((compSit S scope cs mm C).guard pr) ys (fun ys m H'=>Sub Hb H'∧I (i+1) ys m)) noX m Hb)
   (fin:∀ ys m H',Back H L P pos qual H'→I rows.length ys m→K ys H')
theorem comp_coreG {q:Pos}(O:S.Ok G) (hh:S.A.handled=none) (hroom:S.A.depth<recursionLimit) (hc:CompOk scope)
   (h:WE G S ite (fun v m H=>CompG G S scope (.Name x px) elt (fun ys H=>∀ D,H.o D=none→K (.ref D) m (H.put D (.list ys))) v m H) X m H) (hs:∀ x,foldedSetIterable ite S.env x=pure x) :
   ∀ s mm,MOk G S.env mm m→RelC G S.stk ((S.L,mm)::S.sv) S.pr H s→wpAny G.M S.A (comprehension (.ListComp elt [⟨.Name x px,ite,[],0⟩] scope pos) scope S.env q (newList []) false (eval ite S.env) none) (Post G S fun v=>K (er v)) (PostX G S X) s:=by
 intro s mm M R
 unfold comprehension
 refine wpAny_bind (wpAny_mono (h s mm M R) (fun v s₁ qq=>?_) fun _ _ x=>x)
 obtain ⟨m₁,H₁,mm₁,M₁,R₁,cs,ls,gs,hcl,hchk,hgs,a,g,L,P,env,gpos,qual,rows,ev,GI,I,h0,turn,fin⟩:=qq
 obtain rfl:=er_ref' ev
 have key:=wpAny_comprehension_free (M:=G.M) (A:=S.A) (E:=PostX G S X) (s:=s₁) (env:=S.env) (e:=.ListComp elt [⟨.Name x px,ite,[],0⟩] scope pos) (scope:=scope) (pos:=q) (newAcc:=newList []) (first:=pure (.ref a)) (g:=⟨.Name x px,ite,[],0⟩) (gs:=[]) (cl:=cs) (use:=none) (Q:=Post G S fun v=>K (er v)) rfl hs (clos_is M₁ hcl) hc.kind
   (fun x hx hl=>by have:=List.all_eq_true.mp hc.names x hx;simpa -iota [hl] using this) ?_
 · unfold comprehension at key
   simp -iota only [pure_bind] at key
   exact key
 refine wpAny_pure ?_
 refine xe21 GI.obj fun nm qn hobj=>?_
 obtain ⟨o,ho,rfl,_⟩:=R₁.get hobj
 refine wpAny_pyIter_gen ⟨_,nm,qn,ho,rfl,rfl,rfl⟩ ?_
 have hb:=R₁.big (.head _)
 refine wpAny_newObj_type ?_
 generalize hH2:s₁.heap.push { cls:=.type "list",dict:=none,data:=.seq ([]:List Value).toArray }=H2
 have hD:H2.get? s₁.heap.objs.size=some { cls:=.type "list",dict:=none,data:=.seq ([]:List Value).toArray }:=by rw [← hH2];exact Heap.get?_push_size _ rfl
 have R₂:RelC G S.stk ((S.L,mm₁)::S.sv) S.pr H₁ { s₁ with heap:=H2 }:=by rw [← hH2];exact R₁.junk
 have hsz2:H2.objs.size=s₁.heap.objs.size+1:=by rw [← hH2,Heap.size_push]
 refine wpAny_newFunctionEnv (fun x hx=>by have:=List.all_eq_true.mp hc.cell x hx;simpa -iota using this) (by intro y hy;simp -iota at hy) (fun h₁ hns₁ hsb₁=>?_) hc.kind
 dsimp only at hns₁ hsb₁ ⊢
 have hb2:G.base.objs.size≤H2.objs.size:=by rw [hsz2];lia
 have R₃:=(R₂.newFrame (cls:=.type (if (some S.env).isSome then "dict" else "frame")) hb2).store (tk:=s₁.toks+([]:List (Str × Value)).length) hsb₁ hns₁
 generalize hs₃:({ s₁ with heap:=h₁,toks:=s₁.toks+([]:List (Str × Value)).length }:Shared)=s₃ at R₃
 have hHD:H₁.o s₁.heap.objs.size=none:=R₁.fresh
 have lt:∀ b∈((S.L,mm₁)::S.sv).map (·.1),b<s₁.heap.objs.size:=fun b hm=>by
   refine xe12 (List.mem_map.mp hm) fun p' hp' e'=>?_
   rw [← e'];exact (R₁.ns p' hp').1.lt
 have ltp:∀ b∈S.pr.map (·.1),b<s₁.heap.objs.size:=fun b hm=>by
   refine xe12 (List.mem_map.mp hm) fun p' hp' e'=>?_
   rw [← e'];exact Heap.lt_size (R₁.prot p' hp').1
 have ne1:H2.objs.size≠s₁.heap.objs.size:=by rw [hsz2];exact Nat.succ_ne_self _
 have lt':s₁.heap.objs.size∉((H2.objs.size,fun x=>([]:List (Str × Value)).reverse.lookup x)::(S.L,mm₁)::S.sv:Sv).map (·.1):=fun hm=>by
   rcases List.mem_cons.mp hm with q | q
   · exact ne1 q.symm
   · exact Nat.lt_irrefl _ (lt _ q)
 have MC:MOk G (compSit S scope cs mm₁ H2.objs.size).env (fun _=>none) (mkM ls cs gs):=mkM_ok rfl (chk_relabel hchk) hgs
 have keep:∀ b ob,b≠H2.objs.size→H2.get? b=some ob→s₃.heap.get? b=some ob:=fun b ob q e=>by
   rw [← hs₃];exact hsb₁.extBut _ _ q (Heap.get?_push_of_some _ e)
 have loop:codeAny G.M S.A (.compLoop (.ListComp elt [⟨.Name x px,ite,[],0⟩] scope pos) 0 (.ref a) (.ref s₁.heap.objs.size) (compEnvC scope cs H2.objs.size S.env)) (compPost G.M S.A (PostX G S X) none (Post G S fun v=>K (er v)) (.ref s₁.heap.objs.size) H2.objs.size) s₃:=by
   refine turnsGen (S:=compSit S scope cs mm₁ H2.objs.size) (K:=fun ys _ H'=>∀ D,H'.o D=none→K (.ref D) m₁ (H'.put D (.list ys))) elt_ok hh hroom (fun _=>rfl) (fun _=>Around.under_of_weight rfl rfl) (fun _=>rfl) (fun it=>turn1 it _ _) (fun _ _=>rfl) GI I
     (fun pr i r ys m Hb h1 h2 h3=>turn mm₁ _ pr i r ys m Hb ((compSit_ok O hc.kind hc.co).guard pr) h1 h2 h3) (fun ys m H' hb hi=>fin ys m H' hb hi) (pr:=S.pr) ?_ MC R₃ ?_ h0
   · rintro s' yq1
     obtain ⟨ys,m',H',mm',M',R',⟨rvs,⟨n,hl⟩,e,a1,a2,a3,a4⟩,k⟩:=yq1
     refine ⟨mm',(R'.ns _ (.head _)).1,fun h' sb=>?_⟩
     have R'':=R'.dropFrame R₁.fsv (tk:=s'.toks) sb
     refine ⟨m₁,H'.put s₁.heap.objs.size (.list ys),mm₁,M₁,R''.grow (tk:=s'.toks) (dr:=s'.drawn) (fun b o e=>e) (fun b co e'=>?_) rfl,k _ a3⟩
     by_cases q:b=s₁.heap.objs.size
     · subst q
       rw [HP.put_same] at e';cases e'
       exact .inr ⟨a1,fun q=>a2 (.tail _ q),a4,_,(sb.2 _ (Ne.symm ne1)).trans hl,rvs,n,rfl,e⟩
     · rw [HP.put_ne q rfl] at e';exact .inl e'
   · refine ⟨#[],⟨0,keep _ _ ne1.symm hD⟩,rfl,.of hb,lt',hHD,fun q=>Nat.lt_irrefl _ (ltp _ q)⟩
 refine codeAny_compStart_list loop ?_
 have ho3:s₃.heap.get? a=some _:=keep _ _ (fun q=>?_) (by rw [← hH2];exact Heap.get?_push_of_some _ ho)
 · exact wpAny_pyIter_gen ⟨_,nm,qn,ho3,rfl,rfl,rfl⟩ loop
 · have h9:a<s₁.heap.objs.size:=Heap.lt_size ho
   rw [q,hsz2] at h9
   exact Nat.lt_irrefl _ (Nat.lt_of_succ_lt h9)
theorem e_compGen (O:S.Ok G) (hh:S.A.handled=none) (hroom:S.A.depth<recursionLimit) (hc:CompOk scope)
   (h:WE G S ite (fun v m H=>CompG G S scope (.Name x px) elt (fun ys H=>∀ D,H.o D=none→K (.ref D) m (H.put D (.list ys))) v m H) X m H) (hs:∀ x,foldedSetIterable ite S.env x=pure x:=by intro _;with_unfolding_all rfl) :
   WE G S (.ListComp elt [⟨.Name x px,ite,[],0⟩] scope pos) K X m H:=fun s mm M R=>comp_coreG O hh hroom hc h hs s mm M R
end
end
section
theorem rfind_spec (l:List Nat) (c:Nat):(Txt.rfind (mkS l) ⟨#[c]⟩ = -1∧∀ i:Nat,l[i]?≠some c)∨∃ i:Nat,Txt.rfind (mkS l) ⟨#[c]⟩=(i:Int)∧l[i]? = some c∧∀ k:Nat,i<k→l[k]?≠some c:=by
 have hat:∀ i,StrLaws.At (mkS l) ⟨#[c]⟩ (mkS l).length i↔l[i]? = some c:=fun i=>by
   have:=StrLaws.subAt_one (mkS l) c i
   rw [show (mkS l).cps.toList=l from List.toList_toArray] at this
   exact this
 unfold Txt.rfind
 rcases StrLaws.last_spec (mkS l) ⟨#[c]⟩ with ⟨h1,h2⟩ | ⟨i,h1,h2,h3⟩
 · rw [h1];exact .inl ⟨rfl,fun i e=>h2 i ((hat i).mpr e)⟩
 · rw [h1];exact .inr ⟨i,rfl,(hat i).mp h2,fun k hk e=>h3 k hk ((hat k).mpr e)⟩
theorem dot_cps:(("." : Str))=⟨#[46]⟩:=by kernel_rfl
theorem rfind_none {l:List Nat}(h:∀ c∈l,c≠47):Txt.rfind (mkS l) "/" = -1:=by
 rw [show (("/" : Str))=⟨#[47]⟩ by kernel_rfl]
 rcases rfind_spec l 47 with ⟨h1,_⟩ | ⟨i,_,h2,_⟩
 · exact h1
 · exact absurd rfl (h 47 (List.mem_of_getElem? h2))
theorem rfind_dot (l:List Nat):-1≤Txt.rfind (mkS l) "."∧Txt.rfind (mkS l) "."<l.length:=by
 rw [dot_cps]
 rcases rfind_spec l 46 with ⟨h1,_⟩ | ⟨i,h1,h2,_⟩
 · rw [h1];lia
 · rw [h1];have:=(List.getElem?_eq_some_iff.mp h2).1;lia
noncomputable def MadeQ (H H':HP) (l:List Nat) (c:Int) (v:Value):Prop:=Sub H H' ∧
 ((v=.none∧(conf83 l (Txt.rfind (mkS l) ".")∨255<(enc16 l).length)) ∨
  (¬ conf83 l (Txt.rfind (mkS l) ".")∧(enc16 l).length≤255∧∃ x dn d ep kvs ps,v=.ref x∧FLong H' x dn d ep kvs∧PartsIn H' kvs ps∧ps.map (·.1)=(List.range ((pad (enc16 l)).length / 26)).map (partOf (pad (enc16 l)) c ((pad (enc16 l)).length / 26))))
section
variable {G:Glb}(hL:L1 G) {S:Sit}{X:KV}{H:HP}{n:Nat}{KFl:KF}
include hL
set_option maxHeartbeats 4000000 in
theorem law_made (O:S.Ok G) (r:Rm S.A S.stk (n+5)) {P:Params}{sl cs oc sx sd ba:Addr}{a b w wd:Int}{l:List Nat}{bs:Array UInt8}{o1 o2 o3 o4 o5:Option Value}(hE:E83 H sx sd (.ref ba) true) (hb:H.o ba=some (.bar bs)) (hbz:bs.size≤sizeLine)
   (hs:∀ c∈l,c∈signs) (hz:l.length≤1000) :
   WX G S (lawSt P 12) (fun fl m' H'=>fl=.next∧∃ v,MadeQ H H' l (chk bs.toList) v∧m'=(lA sl a b (mkS l) wd o1 o2 o3 o4 (some (.int w 0)) o5 (some (.ref oc)) (some (.ref sx)) (lD (some v) none none none none none none none none (lN cs)):Names)) X (lA sl a b (mkS l) wd o1 o2 o3 o4 (some (.int w 0)) o5 (some (.ref oc)) (some (.ref sx)) (lD none none none none none none none none none (lN cs)):Names) H:=by
 refine vX_in O ?_
 have hf:=rfind_dot l
 repeat walk_at "m:s"
 try walk_at "m:0"
 refine x_try O rfl ?_
 repeat walk_at "m:s"
 refine ⟨keepsK (by rw [hL.K];rfl),calc_of fun sv=>make_lfn_c hL (n:=n) r hE hb hbz (by exact Nat.le_trans (by assumption) (by decide +kernel)) (fun c hc=>signs_lt c (hs c hc)) (rfind_none fun c hc e=>?_) rfl hf.2 hf.1 (fun hx=>?_) (fun hc hlen x dn d ep kvs ps H' hx hdn hd hsub hF hP hps=>?_)⟩
 · have:=hs c hc;rw [e] at this;revert this;decide
 · refine ⟨.ref 41,.inl ⟨_,rfl⟩,by rw [hL.K];rfl,fun e pr=>?_⟩
   have O:=(O.guard pr).mark e
   refine ⟨?_,?_⟩
   · repeat walk_at "m:s"
     exact ⟨rfl,rfl,rfl⟩
   · repeat walk_at "m:s"
     exact ⟨rfl,.none,⟨Sub.refl _,.inl ⟨rfl,hx⟩⟩,rfl⟩
 · repeat walk_at "m:s"
   exact ⟨rfl,.ref x,⟨hsub,.inr ⟨hc,hlen,x,dn,d,ep,kvs,ps,rfl,hF,hP,hps⟩⟩,rfl⟩
set_option maxHeartbeats 4000000 in
theorem law_same (O:S.Ok G) (r:Rm S.A S.stk (n+5)) {P:Params}{sl cs oc sx sd ba:Addr}{a b w wd:Int}{l:List Nat}{os:List Int}{mv:Option Value}{o1 o2 o3 o4 o5:Option Value}(hE:E83 H sx sd (.ref ba) true) (hb:H.o ba=some (.bar (byteArr os))) (hoc:H.o oc=some (.list (intL os))) (hos:∀ z∈os,0≤z∧z<256) (hol:os.length=11)
   (k:KFl .next (lA sl a b (mkS l) wd o1 o2 o3 o4 (some (.int w 0)) o5 (some (.ref oc)) (some (.ref sx)) (lD mv none none none none none none none none (lN cs)):Names) H):WX G S (lawSt P 13) KFl X (lA sl a b (mkS l) wd o1 o2 o3 o4 (some (.int w 0)) o5 (some (.ref oc)) (some (.ref sx)) (lD mv none none none none none none none none (lN cs)):Names) H:=by
 refine vX_in O ?_
 repeat walk_at "m:s"
 refine m_inst (f:=170) hE.1 hE.2 rfl (by rw [hL.K];rfl) ?_
 repeat walk_at "m:s"
 refine ⟨keepsK (by rw [hL.K];rfl),calc_of fun sv=>as_bytes83_c hL (n:=n+4) r hE hb (by rw [byteArr_size,hol,sizeLine_eq];decide) ?_⟩
 repeat walk_at "m:s"
 refine ⟨keepsT,f_bytes r.hh hoc hos (by rw [hol,sizeLine_eq];decide) ?_⟩
 repeat walk_at "m:s"
 repeat walk_at "m:s"
 refine if_no (fun h=>h rfl) ?_
 repeat walk_at "m:s"
 exact k
set_option maxHeartbeats 4000000 in
theorem law_short (O:S.Ok G) (r:Rm S.A S.stk (n+5)) {P:Params}{sl cs oc sx:Addr}{a b w wd:Int}{l:List Nat}{mv:Value}{o1 o2 o3 o4 o5:Option Value}(hz:l.length≤1000)
   (kr:shortA l∨w=7→KFl (.ret (.bool (bI (mv=.none)))) (lA sl a b (mkS l) wd o1 o2 o3 o4 (some (.int w 0)) o5 (some (.ref oc)) (some (.ref sx)) (lD (some mv) none none none none none none none none (lN cs)):Names) H) (k:¬ (shortA l∨w=7)→KFl .next (lA sl a b (mkS l) wd o1 o2 o3 o4 (some (.int w 0)) o5 (some (.ref oc)) (some (.ref sx)) (lD (some mv) none none none none none none none none (lN cs)):Names) H):WX G S (lawSt P 14) KFl X (lA sl a b (mkS l) wd o1 o2 o3 o4 (some (.int w 0)) o5 (some (.ref oc)) (some (.ref sx)) (lD (some mv) none none none none none none none none (lN cs)):Names) H:=by
 refine vX_in O ?_
 repeat walk_at "m:s"
 refine ⟨keepsK (by rw [hL.K];rfl),calc_of fun sv=>short_c hL (n:=n+4) r (by exact Nat.le_trans (by assumption) (by decide +kernel)) (fun h=>?_) (fun h=>?_)⟩
 · repeat walk_at "m:s"
   try refine if_t ?_
   repeat walk_at "m:s"
   try refine if_t ?_
   repeat walk_at "m:s"
   exact kr (.inl h)
 · repeat walk_at "m:s"
   try refine if_f ?_
   repeat walk_at "m:s"
   refine if_bI (fun h7=>?_) (fun h7=>?_)
   · repeat walk_at "m:s"
     exact kr (.inr h7)
   · repeat walk_at "m:s"
     exact k fun q=>q.elim h h7
set_option maxHeartbeats 4000000 in
theorem law_none (O:S.Ok G) {P:Params}{sl cs oc sx mx:Addr}{a b w wd:Int}{l:List Nat}{o1 o2 o3 o4 o5:Option Value}(k:KFl .next (lA sl a b (mkS l) wd o1 o2 o3 o4 (some (.int w 0)) o5 (some (.ref oc)) (some (.ref sx)) (lD (some (.ref mx)) none none none none none none none none (lN cs)):Names) H):WX G S (lawSt P 15) KFl X (lA sl a b (mkS l) wd o1 o2 o3 o4 (some (.int w 0)) o5 (some (.ref oc)) (some (.ref sx)) (lD (some (.ref mx)) none none none none none none none none (lN cs)):Names) H:=by
 refine vX_in O ?_
 repeat walk_at "m:s"
 refine if_no (fun h=>by cases h) ?_
 repeat walk_at "m:s"
 exact k
end
end
section
structure RowsAt (H:HP) (ws:List Addr) (E:List UInt8) (c:Int) (N:Nat):Prop where
 len:ws.length=N
 row:∀ i w,ws[i]? = some w→∃ e8,H.o w=some (.ds e8 (partOf E c N i).row)
theorem RowsAt.sub {H H':HP}{ws:List Addr}{E:List UInt8}{c:Int}{N:Nat}(h:RowsAt H ws E c N) (hs:Sub H H'):RowsAt H' ws E c N:=⟨h.len,fun i w e=>by obtain ⟨e8,q⟩:=h.row i w e;exact ⟨e8,hs.2 _ _ q⟩⟩
noncomputable def dueOf (ws:List Addr) (N i:Nat):List (Int × Value):=(List.range i).map fun j=>(ordOf N j,.ref (ws.getD j 0))
theorem bit64:∀ N:Nat,N<13→∀ j:Nat,j<N→(Builtin.bitAnd (ordOf N j) 64=64↔j+1=N):=by decide +kernel
theorem flat_row {q:Part}:∀ p∈q.row,FlatV p.2:=fun p hp=>by
 simp only [Part.row,row8,List.mem_cons,List.not_mem_nil,or_false] at hp
 rcases hp with rfl | rfl | rfl | rfl | rfl | rfl | rfl | rfl
 all_goals first | exact .inl ⟨_,rfl⟩ | exact .inr ⟨_,rfl⟩
theorem dueOf_nd {ws:List Addr}{N:Nat}(hN:N≤60):((dueOf ws N N).map (·.1)).Nodup:=by
 unfold dueOf
 rw [List.map_map]
 refine List.pairwise_map.mpr (List.nodup_range.imp_of_mem fun {x y} hx hy h e=>h ?_)
 exact ordOf_inj hN (List.mem_range.mp hx) (List.mem_range.mp hy) e
section
variable {G:Glb}(hL:L1 G) {S:Sit}{X:KV}{H:HP}{n:Nat}{KFl:KF}
include hL
set_option maxHeartbeats 4000000 in
theorem law_rows (O:S.Ok G) (r:Rm S.A S.stk (n+5)) {P:Params}{sl cs oc sx mx:Addr}{a b w wd:Int}{l:List Nat}{o1 o2 o3 o4 o5:Option Value}{os:List Int}(hoc:H.o oc=some (.list (intL os))) (hos:∀ z∈os,0≤z∧z<256) (hc:0≤chkI os∧chkI os<256) (hl:∀ c∈l,c<1114112) (hz:l.length≤1000) (hu:(un16 l).length≤127) :
   WX G S (lawSt P 16) (fun fl m' H'=>fl=.next∧Sub H H'∧∃ ra ws,H'.o ra=some (.list (ws.map Value.ref))∧RowsAt H' ws (pad (enc16 l)) (chkI os) ((pad (enc16 l)).length / 26)∧m'=(lA sl a b (mkS l) wd o1 o2 o3 o4 (some (.int w 0)) o5 (some (.ref oc)) (some (.ref sx)) (lD (some (.ref mx)) (some (.ref ra)) none none none none none none none (lN cs)):Names)) X (lA sl a b (mkS l) wd o1 o2 o3 o4 (some (.int w 0)) o5 (some (.ref oc)) (some (.ref sx)) (lD (some (.ref mx)) none none none none none none none none (lN cs)):Names) H:=by
 refine vX_in O ?_
 repeat walk_at "m:s"
 refine ⟨keepsK (by rw [hL.K];rfl),calc_of fun sv=>units_c hL (n:=n+4) r (by exact Nat.le_trans (by assumption) (by decide +kernel)) fun ua H₁ hua hs1 hu1=>?_⟩
 repeat walk_at "m:s"
 refine ⟨keepsK (by rw [hL.K];rfl),calc_of fun sv=>sum_c hL (n:=n+4) r (hs1.2 _ _ hoc) hos ?_⟩
 repeat walk_at "m:s"
 refine ⟨keepsK (by rw [hL.K];rfl),calc_of fun sv=>parts_c hL (n:=n+4) r hu1 (un16_lt hl) (by exact Nat.le_trans (by assumption) (by decide +kernel)) hc fun ra ws H₂ hra hs2 hr2 hwl hws=>?_⟩
 rw [← enc16_oct] at hwl hws
 repeat walk_at "m:s"
 exact ⟨rfl,hs1.trans hs2,ra,ws,hr2,⟨hwl,hws⟩,rfl⟩
set_option maxHeartbeats 4000000 in
theorem law_due0 (O:S.Ok G) {P:Params}{sl cs oc sx mx:Addr}{a b w wd:Int}{l:List Nat}{o1 o2 o3 o4 o5:Option Value}{ra:Addr}(k:∀ du,H.o du=none→KFl .next (lA sl a b (mkS l) wd o1 o2 o3 o4 (some (.int w 0)) o5 (some (.ref oc)) (some (.ref sx)) (lD (some (.ref mx)) (some (.ref ra)) (some (.ref du)) none none none none none none (lN cs)):Names) (H.put du (.di 0 []))):WX G S (lawSt P 17) KFl X (lA sl a b (mkS l) wd o1 o2 o3 o4 (some (.int w 0)) o5 (some (.ref oc)) (some (.ref sx)) (lD (some (.ref mx)) (some (.ref ra)) none none none none none none none (lN cs)):Names) H:=by
 refine vX_in O ?_
 repeat walk_at "m:s"
 try walk_at "m:0"
 refine e_dict0 fun du hdu=>?_
 repeat walk_at "m:s"
 exact k du hdu
set_option maxHeartbeats 4000000 in
theorem law_due (O:S.Ok G) (r:Rm S.A S.stk (n+5)) {P:Params}{sl cs oc sx mx:Addr}{a b w wd:Int}{l:List Nat}{o1 o2 o3 o4 o5:Option Value}{ra du:Addr}{ws:List Addr}{E:List UInt8}{c:Int}{N:Nat}{H₀:HP}(hs0:Sub H₀ H) (hdu0:H₀.o du=none) (hdu:H.o du=some (.di 0 [])) (hra:H₀.o ra=some (.list (ws.map Value.ref))) (hR:RowsAt H₀ ws E c N) (hN:N≤12) :
   WX G S (lawSt P 18) (fun fl m' H'=>fl=.next∧Sub H₀ H'∧(∃ ep,H'.o du=some (.di ep (dueOf ws N N)))∧∃ o6,m'=(lA sl a b (mkS l) wd o1 o2 o3 o4 (some (.int w 0)) o5 (some (.ref oc)) (some (.ref sx)) (lD (some (.ref mx)) (some (.ref ra)) (some (.ref du)) o6 none none none none none (lN cs)):Names)) X (lA sl a b (mkS l) wd o1 o2 o3 o4 (some (.int w 0)) o5 (some (.ref oc)) (some (.ref sx)) (lD (some (.ref mx)) (some (.ref ra)) (some (.ref du)) none none none none none none (lN cs)):Names) H:=by
 refine vX_in O ?_
 repeat walk_at "m:s"
 try walk_at "m:0"
 refine x_for O r.hh ?_
 repeat walk_at "m:s"
 refine ⟨_,_,_,_,itList,hs0.2 _ _ hra,fun i m' H'=>Sub H₀ H'∧(∃ ep,H'.o du=some (.di ep (dueOf ws N i)))∧∃ o6,m'=(lA sl a b (mkS l) wd o1 o2 o3 o4 (some (.int w 0)) o5 (some (.ref oc)) (some (.ref sx)) (lD (some (.ref mx)) (some (.ref ra)) (some (.ref du)) o6 none none none none none (lN cs)):Names),?_,?_,?_⟩
 · exact ⟨hs0,⟨0,hdu⟩,none,rfl⟩
 · rintro pr i m' H₁ hi hr1 yq6
   obtain ⟨hs,⟨ep,hd⟩,o6,rfl⟩:=yq6
   have O:=O.guard pr
   rw [List.length_map,hR.len] at hi
   have hwi:i<ws.length:=by rw [hR.len];exact hi
   rw [show (ws.map Value.ref).getD i .none=.ref (ws.getD i 0) by simp [List.getD,hwi]]
   have hgi:ws[i]? = some (ws.getD i 0):=by simp [List.getD,hwi]
   refine xe11 (hR.row i _ hgi) fun e8 hrow=>?_
   repeat walk_at "m:s"
   repeat walk_at "m:s"
   refine it_ds (hs.2 _ _ hrow) (v:=.int (ordOf N i) 0) rfl ?_
   repeat walk_at "m:s"
   refine setI_di hd (by simp only [dueOf,List.length_map,List.length_range,sizeLine_eq];lia) fun ep'=>?_
   rw [stored_new (fun q hq e=>by
     unfold dueOf at hq
     refine xe12 (List.mem_map.mp hq) fun j hj zq2=>?_
     obtain rfl:=zq2
     rw [List.mem_range] at hj
     have:=ordOf_inj (by exact Nat.le_trans (by assumption) (by decide +kernel)) (by lia) hi e
     lia)]
   repeat walk_at "m:s"
   refine ⟨HP.put_ne (fun q=>by rw [q,hdu0] at hra;cases hra) hr1,hs.upd hdu0,⟨ep',?_⟩,_,rfl⟩
   rw [HP.put_same]
   unfold dueOf
   rw [List.range_succ,List.map_append];rfl
 · rintro m' H₁ hr1 yq3
   obtain ⟨hs,hd,o6,rfl⟩:=yq3
   rw [List.length_map,hR.len] at hd
   repeat walk_at "m:s"
   exact ⟨rfl,hs,hd,o6,rfl⟩
set_option maxHeartbeats 4000000 in
theorem law_match (O:S.Ok G) (r:Rm S.A S.stk (n+5)) {P:Params}{sl cs oc sx mx:Addr}{a b w wd:Int}{l:List Nat}{o1 o2 o3 o4 o5:Option Value}{o6:Option Value}{ra du dn d:Addr}{ws:List Addr}{E:List UInt8}{c:Int}{N ep e':Nat}{kvs:List (Int × Value)}{ps:List (Part × Addr)}(hF:FLong H mx dn d ep kvs) (hP:PartsIn H kvs ps) (hps:ps.map (·.1)=(List.range N).map (partOf E c N)) (hdu:H.o du=some (.di e' (dueOf ws N N))) (hR:RowsAt H ws E c N) (hN:N≤12) (hN1:1≤N)
   (k:KFl .next (lA sl a b (mkS l) wd o1 o2 o3 o4 (some (.int w 0)) o5 (some (.ref oc)) (some (.ref sx)) (lD (some (.ref mx)) (some (.ref ra)) (some (.ref du)) o6 none none none none none (lN cs)):Names) H):WX G S (lawSt P 19) KFl X (lA sl a b (mkS l) wd o1 o2 o3 o4 (some (.int w 0)) o5 (some (.ref oc)) (some (.ref sx)) (lD (some (.ref mx)) (some (.ref ra)) (some (.ref du)) o6 none none none none none (lN cs)):Names) H:=by
 have hpl:ps.length=N:=by rw [← List.length_map (f:=fun q:Part × Addr=>q.1),hps];simp
 refine vX_in O ?_
 repeat walk_at "m:s"
 refine g_own hF.1 hF.2.1 (v:=.ref d) (by with_reducible repeat first | exact List.mem_cons_self | apply List.mem_cons_of_mem) (by rw [hL.K];rfl) rfl ?_
 repeat walk_at "m:s"
 refine c_ne_di hF.2.2 hdu (by rw [hP.kvs,List.length_map,hpl];simp [dueOf]) (by have:=r.c.units;exact Nat.lt_of_lt_of_le (Nat.lt_add_of_pos_right (Nat.mul_pos (by decide) (Nat.succ_pos _))) this) ?_ ?_
 · intro p hp
   rw [hP.kvs] at hp
   refine xe12 (List.mem_map.mp hp) fun q hq zq2=>?_
   obtain rfl:=zq2
   refine xe11 (hP.row q hq) fun e1 h1=>?_
   have hq1:q.1∈ps.map (·.1):=List.mem_map.mpr ⟨q,hq,rfl⟩
   rw [hps] at hq1
   refine xe12 (List.mem_map.mp hq1) fun i hi ei=>?_
   rw [List.mem_range] at hi
   have hgi:ws[i]? = some (ws.getD i 0):=by simp [List.getD,show i<ws.length by rw [hR.len];exact hi]
   refine xe11 (hR.row i _ hgi) fun e2 h2=>?_
   rw [← ei] at h1
   refine ⟨q.2,ws.getD i 0,e1,e2,_,rfl,?_,h1,h2,flat_row⟩
   rw [← ei]
   exact valueAt_mem (dueOf_nd (by exact Nat.le_trans (by assumption) (by decide +kernel))) (p:=(ordOf N i,.ref (ws.getD i 0))) (List.mem_map.mpr ⟨i,List.mem_range.mpr hi,rfl⟩)
 repeat walk_at "m:s"
 try refine if_f ?_
 repeat walk_at "m:s"
 refine m_inst (f:=621) hF.1 hF.2.1 rfl (by rw [hL.K];rfl) ?_
 repeat walk_at "m:s"
 have hlast:∃ q∈kvs,Builtin.bitAnd q.1 64=64:=by
   have hm:partOf E c N (N - 1)∈ps.map (·.1):=by rw [hps];exact List.mem_map.mpr ⟨N - 1,List.mem_range.mpr (by exact Nat.sub_lt_sub_left (by assumption) (Nat.lt_succ_self _)),rfl⟩
   refine xe12 (List.mem_map.mp hm) fun q hq e=>?_
   refine ⟨(q.1.o,.ref q.2),by rw [hP.kvs];exact List.mem_map.mpr ⟨q,hq,rfl⟩,?_⟩
   show Builtin.bitAnd q.1.o 64=64
   rw [e]
   exact (bit64 N (by exact Nat.lt_of_le_of_lt (by assumption) (by decide +kernel)) (N - 1) (by exact Nat.sub_lt_sub_left (by assumption) (Nat.lt_succ_self _))).mpr (Nat.sub_add_cancel (by assumption))
 refine ⟨keepsK (by rw [hL.K];rfl),calc_of fun sv=>complete_c hL (n:=n+4) r hF (by rw [hP.kvs,List.length_map,hpl];exact Nat.le_trans (by assumption) (by decide +kernel)) (fun _=>?_) (fun h=>?_)⟩
 · repeat walk_at "m:s"
   try refine if_f ?_
   repeat walk_at "m:s"
   exact k
 · refine xe12 hlast fun q hq e=>?_
   exact absurd e (h q hq)
end
end
section
noncomputable def notObj:CO→Prop
 | .obj _=>False
 | _=>True
theorem LamOk.ne {H:HP}{y:Addr}{co:CO}(h:LamOk 571 lamPos lamQual H) (e:H.o y=some co) (hn:notObj co):y≠571:=fun q=>by
 rcases h with h | ⟨_,_,_,_,h,_⟩<;>· rw [q,h] at e;cases e;exact hn
theorem LamOk.sub {H H':HP}(h:LamOk 571 lamPos lamQual H) (hs:Sub H H'):LamOk 571 lamPos lamQual H':=by
 rcases h with h | ⟨c',oc,vs,t,h1,h2,h3,h4,h5⟩
 · exact .inl (hs.2 _ _ h)
 · exact .inr ⟨c',oc,vs,t,hs.2 _ _ h1,hs.2 _ _ h2,h3,h4,h5⟩
noncomputable def Kept (H H':HP):Prop:=(∀ y co,y≠571→H.o y=some co→H'.o y=some co)∧LamOk 571 lamPos lamQual H'
theorem Kept.get {H H':HP}(k:Kept H H') (h:LamOk 571 lamPos lamQual H) {y:Addr}{co:CO}(e:H.o y=some co) (hn:notObj co):H'.o y=some co:=k.1 y co (h.ne e hn) e
theorem Kept.rows {H H':HP}(k:Kept H H') (h:LamOk 571 lamPos lamQual H) {ws:List Addr}{E:List UInt8}{c:Int}{N:Nat}(hR:RowsAt H ws E c N):RowsAt H' ws E c N:=⟨hR.len,fun i w e=>by obtain ⟨e8,q⟩:=hR.row i w e;exact ⟨e8,k.get h q trivial⟩⟩
theorem Kept.fl {H H':HP}(k:Kept H H') (h:LamOk 571 lamPos lamQual H) {x dn d:Addr}{ep:Nat}{kvs:List (Int × Value)}(hF:FLong H x dn d ep kvs):FLong H' x dn d ep kvs:=⟨k.get h hF.1 trivial,k.get h hF.2.1 trivial,k.get h hF.2.2 trivial⟩
theorem Kept.parts {H H':HP}(k:Kept H H') (h:LamOk 571 lamPos lamQual H) {kvs:List (Int × Value)}{ps:List (Part × Addr)}(hP:PartsIn H kvs ps):PartsIn H' kvs ps:=⟨hP.kvs,fun q hq=>by obtain ⟨e,r⟩:=hP.row q hq;exact ⟨e,k.get h r trivial⟩,hP.ok,hP.nd⟩
noncomputable def emptyL (N:Nat):List Value:=List.replicate N (.bytes #[] 0)
section
variable {G:Glb}(hL:L1 G) {S:Sit}{X:KV}{H:HP}{n:Nat}{KFl:KF}
include hL
set_option maxHeartbeats 4000000 in
theorem law_fresh (O:S.Ok G) (r:Rm S.A S.stk (n+9)) {P:Params}{sl cs oc sx mx ra du:Addr}{a b w wd:Int}{l:List Nat}{o1 o2 o3 o4 o5 o6:Option Value}(k:∀ x dn d H',Sub H H'→FLong H' x dn d 0 []→KFl .next (lA sl a b (mkS l) wd o1 o2 o3 o4 (some (.int w 0)) o5 (some (.ref oc)) (some (.ref sx)) (lD (some (.ref mx)) (some (.ref ra)) (some (.ref du)) o6 (some (.ref x)) none none none none (lN cs)):Names) H'):WX G S (lawSt P 20) KFl X (lA sl a b (mkS l) wd o1 o2 o3 o4 (some (.int w 0)) o5 (some (.ref oc)) (some (.ref sx)) (lD (some (.ref mx)) (some (.ref ra)) (some (.ref du)) o6 none none none none none (lN cs)):Names) H:=by
 refine vX_in O ?_
 repeat walk_at "m:s"
 refine ⟨keepsK (by rw [hL.K];rfl),calc_of fun sv=>fl_make_c hL (n:=n+7) r fun x dn d H₁ _ _ _ hs1 hF=>?_⟩
 repeat walk_at "m:s"
 exact k x dn d H₁ hs1 hF
set_option maxHeartbeats 4000000 in
theorem law_empty (O:S.Ok G) (r:Rm S.A S.stk (n+9)) {P:Params}{sl cs oc sx mx ra du:Addr}{a b w wd:Int}{l:List Nat}{o1 o2 o3 o4 o5 o6:Option Value}{fx fdn fd:Addr}{ep:Nat}(hF:FLong H fx fdn fd ep []) (hl:LamOk 571 lamPos lamQual H) (k:∀ H',Kept H H'→KFl .next (lA sl a b (mkS l) wd o1 o2 o3 o4 (some (.int w 0)) o5 (some (.ref oc)) (some (.ref sx)) (lD (some (.ref mx)) (some (.ref ra)) (some (.ref du)) o6 (some (.ref fx)) none none none none (lN cs)):Names) H'):WX G S (lawSt P 21) KFl X (lA sl a b (mkS l) wd o1 o2 o3 o4 (some (.int w 0)) o5 (some (.ref oc)) (some (.ref sx)) (lD (some (.ref mx)) (some (.ref ra)) (some (.ref du)) o6 (some (.ref fx)) none none none none (lN cs)):Names) H:=by
 refine vX_in O ?_
 repeat walk_at "m:s"
 refine m_inst (f:=590) hF.1 hF.2.1 rfl (by rw [hL.K];rfl) ?_
 repeat walk_at "m:s"
 refine ⟨keepsK (by rw [hL.K];rfl),calc_of fun sv=>fl_bytes_c hL (n:=n) (ss:=[]) r hF PartsIn.empty (by decide) .nil .nil hl ⟨hl.ne hF.1 trivial,hl.ne hF.2.1 trivial,hl.ne hF.2.2 trivial⟩ fun H₁ hk hl1=>?_⟩
 have hF1:FLong H₁ fx fdn fd ep []:=Kept.fl ⟨hk,hl1⟩ hl hF
 repeat walk_at "m:s"
 refine if_no (fun h=>h rfl) ?_
 repeat walk_at "m:s"
 refine m_inst (f:=621) hF1.1 hF1.2.1 rfl (by rw [hL.K];rfl) ?_
 repeat walk_at "m:s"
 refine ⟨keepsK (by rw [hL.K];rfl),calc_of fun sv=>complete_c hL (n:=n+8) r hF1 (by decide) (fun h=>?_) (fun _=>?_)⟩
 · obtain ⟨q,hq,_⟩:=h;cases hq
 repeat walk_at "m:s"
 try refine if_f ?_
 repeat walk_at "m:s"
 exact k H₁ ⟨hk,hl1⟩
set_option maxHeartbeats 4000000 in
theorem law_mark (O:S.Ok G) {P:Params}{sl cs oc sx mx ra du:Addr}{a b w wd:Int}{l:List Nat}{o1 o2 o3 o4 o5 o6:Option Value}{fx:Addr}(k:KFl .next (lA sl a b (mkS l) wd o1 o2 o3 o4 (some (.int w 0)) o5 (some (.ref oc)) (some (.ref sx)) (lD (some (.ref mx)) (some (.ref ra)) (some (.ref du)) o6 (some (.ref fx)) (some (.int (15+64 * (a / 8 % 4)) 0)) none none none (lN cs)):Names) H):WX G S (lawSt P 22) KFl X (lA sl a b (mkS l) wd o1 o2 o3 o4 (some (.int w 0)) o5 (some (.ref oc)) (some (.ref sx)) (lD (some (.ref mx)) (some (.ref ra)) (some (.ref du)) o6 (some (.ref fx)) none none none none (lN cs)):Names) H:=by
 refine vX_in O ?_
 repeat walk_at "m:s"
 refine b_floordiv (by decide) (by decide) ?_
 repeat walk_at "m:s"
 refine b_mod (by decide) ?_
 repeat walk_at "m:s"
 refine b_mul (mul_ok (by decide) (by decide)) ?_
 repeat walk_at "m:s"
 exact k
set_option maxHeartbeats 4000000 in
theorem law_lying (O:S.Ok G) (r:Rm S.A S.stk (n+9)) {P:Params}{sl cs oc sx mx ra du:Addr}{a b w wd:Int}{l:List Nat}{o1 o2 o3 o4 o5 o6:Option Value}{fx:Addr}{mk:Int}{ws:List Addr}{N:Nat}(hra:H.o ra=some (.list (ws.map Value.ref))) (hwl:ws.length=N) (hN:N≤12) (k:∀ ly,H.o ly=none→KFl .next (lA sl a b (mkS l) wd o1 o2 o3 o4 (some (.int w 0)) o5 (some (.ref oc)) (some (.ref sx)) (lD (some (.ref mx)) (some (.ref ra)) (some (.ref du)) o6 (some (.ref fx)) (some (.int mk 0)) (some (.ref ly)) none none (lN cs)):Names) (H.put ly (.list (emptyL N)))):WX G S (lawSt P 23) KFl X (lA sl a b (mkS l) wd o1 o2 o3 o4 (some (.int w 0)) o5 (some (.ref oc)) (some (.ref sx)) (lD (some (.ref mx)) (some (.ref ra)) (some (.ref du)) o6 (some (.ref fx)) (some (.int mk 0)) none none none (lN cs)):Names) H:=by
 refine vX_in O ?_
 repeat walk_at "m:s"
 try walk_at "m:0"
 refine x_comp1 O r.hh ⟨rfl,rfl,rfl,rfl⟩ ?_
 repeat walk_at "m:s"
 refine ⟨[],["row"],[],(by repeat first | exact Clos.nil | refine Clos.skip (by decide) ?_ | refine Clos.free (lk_mem rfl) ?_),rfl,by rw [hL.tab];decide,_,_,_,_,itList,hra,fun i ys m' H'=>H'=H∧ys=emptyL i∧∃ o1,m'=([("row",.loc o1)]:Names),?_,?_,?_⟩
 · exact ⟨rfl,rfl,none,rfl⟩
 · rintro mm C pr i ys m' H₁ O hi hR yq10
   obtain ⟨rfl,rfl,o1,rfl⟩:=yq10
   rw [List.length_map,hwl] at hi
   repeat walk_at "m:s"
   refine And.intro (by rw [emptyL,List.length_replicate,sizeLine_eq];lia) ?_
   repeat walk_at "m:s"
   exact ⟨hR,rfl,by rw [emptyL,emptyL,List.replicate_succ'],_,rfl⟩
 · rintro ys m' H₁ hR yq4 D hD
   obtain ⟨rfl,rfl,o1,rfl⟩:=yq4
   rw [List.length_map,hwl]
   refine ⟨_,by exact setM_set rfl,?_⟩
   exact k D hD
set_option maxHeartbeats 4000000 in
theorem law_rest (O:S.Ok G) (r:Rm S.A S.stk (n+9)) {P:Params}{sl cs oc sx mx ra du:Addr}{a b w wd:Int}{l:List Nat}{o1 o2 o3 o4 o5 o6:Option Value}{fx ly:Addr}{mk:Int}{ws:List Addr}{N:Nat}(hra:H.o ra=some (.list (ws.map Value.ref))) (hwl:ws.length=N) (hN:N≤12) (k:∀ re H',Sub H H'→H'.o re=some (.list (intL (cpI (List.range N))))→KFl .next (lA sl a b (mkS l) wd o1 o2 o3 o4 (some (.int w 0)) o5 (some (.ref oc)) (some (.ref sx)) (lD (some (.ref mx)) (some (.ref ra)) (some (.ref du)) o6 (some (.ref fx)) (some (.int mk 0)) (some (.ref ly)) (some (.ref re)) none (lN cs)):Names) H'):WX G S (lawSt P 24) KFl X (lA sl a b (mkS l) wd o1 o2 o3 o4 (some (.int w 0)) o5 (some (.ref oc)) (some (.ref sx)) (lD (some (.ref mx)) (some (.ref ra)) (some (.ref du)) o6 (some (.ref fx)) (some (.int mk 0)) (some (.ref ly)) none none (lN cs)):Names) H:=by
 refine vX_in O ?_
 repeat walk_at "m:s"
 try walk_at "m:0"
 refine x_comp1 O r.hh ⟨rfl,rfl,rfl,rfl⟩ ?_
 repeat walk_at "m:s"
 refine ⟨keepsB,f_len_l hra (by rw [List.length_map,hwl,sizeLine_eq];exact Nat.le_trans (by assumption) (by decide +kernel)) ?_⟩
 rw [List.length_map,hwl]
 repeat walk_at "m:s"
 refine ⟨keepsT,f_range1 fun rg t u v hrg=>?_⟩
 have hrs:(Builtin.Range.rangeSize 0 (N:Int) 1).toNat=N:=by rw [rangeSize_nat];exact rfl
 refine ⟨[],["k"],[],(by repeat first | exact Clos.nil | refine Clos.skip (by decide) ?_ | refine Clos.free (lk_mem rfl) ?_),rfl,by rw [hL.tab];decide,_,_,_,_,itRange (small_one (by simp) (by simp) (by simp) (by lia)),HP.put_same,fun i ys m' H'=>H'=H.put rg (.obj (rngObj 0 (N:Int) 1 t u v))∧ys=intL (cpI (List.range i))∧∃ o1,m'=([("k",.loc o1)]:Names),?_,?_,?_⟩
 · exact ⟨rfl,rfl,none,rfl⟩
 · rintro mm C pr i ys m' H₁ O hi - yq10
   obtain ⟨rfl,rfl,o1,rfl⟩:=yq10
   rw [hrs] at hi
   rw [show (0:Int)+(i:Int) * 1=(i:Int) by simp]
   repeat walk_at "m:s"
   refine And.intro (by rw [intL_len,cpI_len,List.length_range,sizeLine_eq];lia) ?_
   repeat walk_at "m:s"
   exact ⟨HP.put_same,rfl,by rw [intL_snoc,List.range_succ,cpI_app];rfl,_,rfl⟩
 · rintro ys m' H₁ - yq4 D hD
   obtain ⟨rfl,rfl,o1,rfl⟩:=yq4
   rw [hrs]
   refine ⟨_,by exact setM_set rfl,?_⟩
   exact k D _ ((Sub.put hrg).trans (Sub.put hD)) HP.put_same
end
end
section
noncomputable def partM (E:List UInt8) (c:Int) (N:Nat) (mk:Int) (j:Nat):Part:={ partOf E c N j with a:=mk }
noncomputable def lyB (E:List UInt8) (c:Int) (N:Nat) (mk:Int) (ds:List Nat) (j:Nat):List UInt8:=if j∈ds then (partM E c N mk j).octs else []
noncomputable def lyL (E:List UInt8) (c:Int) (N:Nat) (mk:Int) (ds:List Nat):List Value:=(List.range N).map fun j=>.bytes (lyB E c N mk ds j).toArray 0
theorem partM_ok {E:List UInt8}{c mk:Int}{N i:Nat}(he:E.length=26 * N) (hi:i<N) (hN:N≤60) (hc:0≤c∧c<256) (hm:0≤mk∧mk<256):(partM E c N mk i).Ok:=
 have h:=partOf_ok he hi hN hc
 ⟨h.o,hm,h.c,h.s1,h.s2,h.s3⟩
theorem ordOf_mono {N i j:Nat}(hi:i<N) (hj:j<N) (h:i≤j):ordOf N i≤ordOf N j:=by unfold ordOf;split<;>split<;>lia
theorem sorted_ex {N:Nat}(b:Bool) (dj:List (Nat × Addr)) (nd:(dj.map (·.1)).Nodup) (hlt:∀ q∈dj,q.1<N):∃ sd:List (Nat × Addr),sd.Perm dj∧sd.Pairwise (fun p q=>if b then q.1≤p.1 else p.1≤q.1)∧sd.map (·.1)=(if b then (List.range N).reverse else List.range N).filter (·∈dj.map (·.1)):=by
 have hp:=List.mergeSort_perm dj (fun p q=>if b then decide (q.1≤p.1) else decide (p.1≤q.1))
 have hs:=List.pairwise_mergeSort (le:=fun (p q:Nat × Addr)=>if b then decide (q.1≤p.1) else decide (p.1≤q.1)) (fun p q r h1 h2=>by cases b<;>simp at h1 h2 ⊢<;>exact Nat.le_trans (by assumption) (by assumption)) (fun p q=>by cases b<;>simp<;>lia) dj
 generalize dj.mergeSort (fun p q=>if b then decide (q.1≤p.1) else decide (p.1≤q.1))=sd at hp hs
 have hs':sd.Pairwise (fun p q=>if b then q.1≤p.1 else p.1≤q.1):=hs.imp fun {p q} h=>by cases b<;>simpa using h
 refine ⟨sd,hp,hs',?_⟩
 have hmem:∀ x:Nat,x∈(if b then (List.range N).reverse else List.range N)↔x<N:=fun x=>by cases b<;>simp
 have hnd:(if b then (List.range N).reverse else List.range N).Nodup:=by
   cases b with
   | true=>exact List.pairwise_reverse.mpr (List.nodup_range.imp fun h=>Ne.symm h)
   | false=>exact List.nodup_range
 have h1:(sd.map (·.1)).Perm ((if b then (List.range N).reverse else List.range N).filter (·∈dj.map (·.1))):=by
   refine (List.perm_ext_iff_of_nodup (((hp.map (·.1)).nodup_iff).mpr nd) (hnd.filter _)).mpr fun x=>?_
   rw [(hp.map (·.1)).mem_iff,List.mem_filter,hmem,decide_eq_true_eq]
   exact ⟨fun h=>⟨by obtain ⟨q,hq,rfl⟩:=List.mem_map.mp h;exact hlt q hq,h⟩,fun h=>h.2⟩
 refine List.Perm.eq_of_pairwise (le:=fun p q=>if b then q≤p else p≤q) (fun p q _ _ a c=>by cases b<;>simp at a c<;>lia) (List.pairwise_map.mpr hs') ?_ h1
 refine List.Pairwise.filter _ ?_
 cases b with
 | true=>exact List.pairwise_reverse.mpr ((List.pairwise_lt_range (n:=N)).imp fun h=>Nat.le_of_lt h)
 | false=>exact (List.pairwise_lt_range (n:=N)).imp fun h=>Nat.le_of_lt h
theorem flat_filter {α:Type}(f:α→List UInt8) (p:α→Prop) [DecidablePred p]:∀ l:List α,(l.filter fun x=>decide (p x)).flatMap f=l.flatMap fun x=>if p x then f x else []
 | []=>rfl
 | a::l=>by
   rw [List.filter_cons,List.flatMap_cons]
   by_cases h:p a
   · rw [if_pos (by simpa using h),if_pos h,List.flatMap_cons,flat_filter f p l]
   · rw [if_neg (by simpa using h),if_neg h,flat_filter f p l];rfl
theorem laid_eq {E:List UInt8}{c mk:Int}{N:Nat}{dj sd:List (Nat × Addr)}{ls:List Nat}(h:sd.map (·.1)=ls.filter (·∈dj.map (·.1))) :
   ((sd.map fun q=>(partM E c N mk q.1,q.2)).flatMap fun q=>q.1.octs)=ls.flatMap (lyB E c N mk (dj.map (·.1))):=by
 rw [List.flatMap_map]
 show (sd.flatMap fun q=>(partM E c N mk q.1).octs)=_
 rw [← List.flatMap_map (f:=fun q:Nat × Addr=>q.1) (g:=fun j=>(partM E c N mk j).octs),h]
 exact flat_filter _ _ _
theorem lyL_set {E:List UInt8}{c mk:Int}{N:Nat}{ds:List Nat}{j:Nat}(hj:j<N):(lyL E c N mk ds).set j (.bytes (partM E c N mk j).octs.toArray 0)=lyL E c N mk (ds++[j]):=by
 apply List.ext_getElem
 · simp [lyL]
 · intro i h1 h2
   rw [List.getElem_set]
   simp only [lyL,List.getElem_map,List.getElem_range,lyB,List.mem_append,List.mem_singleton]
   by_cases h:j=i
   · subst h;rw [if_pos rfl,if_pos (.inr rfl)]
   · rw [if_neg h]
     have:(i∈ds∨i=j)↔i∈ds:=⟨fun q=>q.resolve_right fun q=>h q.symm,.inl⟩
     simp only [this]
theorem lyL_at {E:List UInt8}{c mk:Int}{N:Nat}{ds:List Nat}{j:Nat}(hj:j<N):(lyL E c N mk ds).getD j .none=.bytes (lyB E c N mk ds j).toArray 0:=by
 simp [lyL,List.getD,hj]
theorem mark_ok {q:Int}(h0:0≤q) (h1:q<4):Builtin.bitAnd (15+64 * q) 63=15∧0≤15+64 * q∧15+64 * q<256:=by
 have:=and_mask (a:=15+64 * q) (Int.add_nonneg (by decide) (Int.mul_nonneg (by decide) h0)) 6
 rw [show (2:Int) ^ 6 - 1=63 by decide] at this
 rw [this,show (2:Int) ^ 6=64 by decide]
 exact ⟨Int.add_mul_emod_self_left 15 64 q,Int.add_nonneg (by decide) (Int.mul_nonneg (by decide) h0),Int.lt_of_le_of_lt (Int.add_le_add_left (Int.mul_le_mul_of_nonneg_left (Int.le_of_lt_add_one h1:q≤3) (by decide:(0:Int)≤64)) 15) (by decide:(15:Int)+64 * 3<256)⟩
theorem mark_bad {o:Int}(h0:0≤o):Builtin.bitAnd (if o % 64=15 then o+1 else o) 63≠15:=by
 have h:=and_mask (a:=if o % 64=15 then o+1 else o) (by split;exact Int.add_nonneg h0 (by decide);exact h0) 6
 rw [show (2:Int) ^ 6 - 1=63 by decide] at h
 rw [h,show (2:Int) ^ 6=64 by decide]
 split
 · rename_i h1;rw [Int.add_emod,h1];decide
 · assumption
end
section
noncomputable def loopB (P:Params):List Stmt:=match lawSt P 26 with | .For _ _ b _ _=>b | _=>[]
structure StepI (H:HP) (ra ly fx fdn fd cs:Addr) (ws:List Addr) (E:List UInt8) (c:Int) (N:Nat) (mk:Int) (s:Nat) (re:Addr) (la:Int) (dj:List (Nat × Addr)) (rest:List Nat) (sd:Int) (ep:Nat) (kvs:List (Int × Value)):Prop where
 lam:LamOk 571 lamPos lamQual H
 rows:H.o ra=some (.list (ws.map Value.ref))
 rat:RowsAt H ws E c N
 fl:FLong H fx fdn fd ep kvs
 parts:PartsIn H kvs (dj.map fun q=>(partM E c N mk q.1,q.2))
 perm:(rest++dj.map (·.1)).Perm (List.range N)
 len:rest.length+s=N
 lying:H.o ly=some (.list (lyL E c N mk (dj.map (·.1))))
 rl:H.o re=some (.list (intL (cpI rest)))
 cell:H.o cs=some (.cell (some (.int sd 0)))
 last:la=229∨∃ q∈kvs,q.1=la
 la0:0≤la
 la1:la≤255
theorem perm_step {N spot:Nat}{rest rest' ds:List Nat}(h:(rest++ds).Perm (List.range N)) (h2:(spot::rest').Perm rest):spot∉ds∧(rest'++(ds++[spot])).Perm (List.range N):=by
 have h3:(spot::(rest'++ds)).Perm (List.range N):=(h2.append_right ds).trans h
 have hn:=h3.nodup_iff.mpr List.nodup_range
 refine ⟨fun q=>(List.nodup_cons.mp hn).1 (List.mem_append_right _ q),?_⟩
 rw [← List.append_assoc]
 exact (List.perm_append_comm (l₁:=rest'++ds) (l₂:=[spot])).trans h3
theorem lyB_le {E:List UInt8}{c mk:Int}{N j:Nat}{ds:List Nat}(he:E.length=26 * N) (hj:j<N) (hN:N≤60) (hc:0≤c∧c<256) (hm:0≤mk∧mk<256):(lyB E c N mk ds j).length≤32:=by
 unfold lyB
 split
 · exact Nat.le_of_eq (Part.octs_len (partM_ok he hj hN hc hm))
 · exact Nat.zero_le _
theorem lyB_sum {E:List UInt8}{c mk:Int}{N:Nat}{ds:List Nat}(he:E.length=26 * N) (hN:N≤60) (hc:0≤c∧c<256) (hm:0≤mk∧mk<256):∀ i:Nat,i≤N→((List.range i).reverse.flatMap (lyB E c N mk ds)).length≤32 * i
 | 0,_=>Nat.le_refl _
 | i+1,h=>by
   rw [List.range_succ,List.reverse_append,List.flatMap_append,List.length_append]
   have h1:=lyB_sum (ds:=ds) he hN hc hm i (by exact Nat.le_of_lt (by assumption))
   have h2:=lyB_le (ds:=ds) he (show i<N by assumption) hN hc hm
   have h3:(([i]:List Nat).reverse.flatMap (lyB E c N mk ds)).length=(lyB E c N mk ds i).length:=by simp
   rw [h3,Nat.mul_succ,Nat.add_comm (lyB E c N mk ds i).length];exact Nat.add_le_add h1 h2
theorem StepI.sub {H H':HP}{ra ly fx fdn fd cs:Addr}{ws:List Addr}{E:List UInt8}{c:Int}{N:Nat}{mk:Int}{s:Nat}{re:Addr}{la:Int}{dj:List (Nat × Addr)}{rest:List Nat}{sd:Int}{ep:Nat}{kvs:List (Int × Value)}(I:StepI H ra ly fx fdn fd cs ws E c N mk s re la dj rest sd ep kvs) (hs:Sub H H'):StepI H' ra ly fx fdn fd cs ws E c N mk s re la dj rest sd ep kvs where
 lam:=I.lam.sub hs
 rows:=hs.2 _ _ I.rows
 rat:=I.rat.sub hs
 fl:=⟨hs.2 _ _ I.fl.1,hs.2 _ _ I.fl.2.1,hs.2 _ _ I.fl.2.2⟩
 parts:=⟨I.parts.kvs,fun q hq=>by obtain ⟨e,r⟩:=I.parts.row q hq;exact ⟨e,hs.2 _ _ r⟩,I.parts.ok,I.parts.nd⟩
 perm:=I.perm
 len:=I.len
 lying:=hs.2 _ _ I.lying
 rl:=hs.2 _ _ I.rl
 cell:=hs.2 _ _ I.cell
 last:=I.last
 la0:=I.la0
 la1:=I.la1
theorem StepI.kept {H H':HP}{ra ly fx fdn fd cs:Addr}{ws:List Addr}{E:List UInt8}{c:Int}{N:Nat}{mk:Int}{s:Nat}{re:Addr}{la:Int}{dj:List (Nat × Addr)}{rest:List Nat}{sd:Int}{ep:Nat}{kvs:List (Int × Value)}(I:StepI H ra ly fx fdn fd cs ws E c N mk s re la dj rest sd ep kvs) (K:Kept H H'):StepI H' ra ly fx fdn fd cs ws E c N mk s re la dj rest sd ep kvs where
 lam:=K.2
 rows:=K.get I.lam I.rows trivial
 rat:=K.rows I.lam I.rat
 fl:=K.fl I.lam I.fl
 parts:=K.parts I.lam I.parts
 perm:=I.perm
 len:=I.len
 lying:=K.get I.lam I.lying trivial
 rl:=K.get I.lam I.rl trivial
 cell:=K.get I.lam I.cell trivial
 last:=I.last
 la0:=I.la0
 la1:=I.la1
section
variable {G:Glb}(hL:L1 G) {S:Sit}{X:KV}{H:HP}{n:Nat}{KFl:KF}
include hL
set_option maxHeartbeats 8000000 in
theorem law_stepB (O:S.Ok G) (r:Rm S.A S.stk (n+9)) {P:Params}{sl cs oc sx mx ra du fx fdn fd ly re:Addr}{a b w wd mk c la sd:Int}{l:List Nat}{o1 o2 o3 o4 o5 o6 o7 o8 o9 o10 o11 o12 o13 o14 o15:Option Value}
   {ws:List Addr}{E:List UInt8}{N s ep:Nat}{dk:List (Nat × Addr)}{rest:List Nat}{kvs:List (Int × Value)}(hE:E.length=26 * N) (hN:N≤12) (hN1:1≤N) (hc:0≤c∧c<256) (hm:0≤mk∧mk<256)
   (I:StepI H ra ly fx fdn fd cs ws E c N mk s re la dk rest sd ep kvs)
   (k:∀ H' o12 o13 o14,Kept H H'→KFl .next (lA sl a b (mkS l) wd o1 o2 o3 o4 (some (.int w 0)) o5 (some (.ref oc)) (some (.ref sx)) (lD (some (.ref mx)) (some (.ref ra)) (some (.ref du)) o6 (some (.ref fx)) (some (.int mk 0)) (some (.ref ly)) (some (.ref re)) (some (.int la 0)) (lE o15 o7 o8 o9 o10 o11 o12 o13 o14 (lG cs))):Names) H') :
   WS G S ((loopB P).drop 11) KFl X (lA sl a b (mkS l) wd o1 o2 o3 o4 (some (.int w 0)) o5 (some (.ref oc)) (some (.ref sx)) (lD (some (.ref mx)) (some (.ref ra)) (some (.ref du)) o6 (some (.ref fx)) (some (.int mk 0)) (some (.ref ly)) (some (.ref re)) (some (.int la 0)) (lE o15 o7 o8 o9 o10 o11 o12 o13 o14 (lG cs))):Names) H:=by
 conv in List.drop _ (loopB _)=>whnf
 have hl5:=I.lam
 have hly5:=I.lying
 have hra5:=I.rows
 have hF5:=I.fl
 have hP5:=I.parts
 have hdN':∀ q∈dk,q.1<N:=fun q hq=>List.mem_range.mp (I.perm.mem_iff.mp (List.mem_append_right _ (List.mem_map.mpr ⟨q,hq,rfl⟩)))
 have hkl':kvs=dk.map fun q=>(ordOf N q.1,.ref q.2):=by rw [hP5.kvs,List.map_map];rfl
 have hdkl:dk.length≤12:=by
   have h1:=I.perm.length_eq
   rw [List.length_append,List.length_map,List.length_range] at h1;lia
 have hrwl:(ws.map Value.ref).length=N:=by rw [List.length_map,I.rat.len]
 clear I
 have hlyl:(lyL E c N mk (dk.map (·.1))).length=N:=by simp [lyL]
 repeat walk_at "m:s"
 try walk_at "m:0"
 refine x_for O r.hh ?_
 repeat walk_at "m:s"
 refine ⟨_,_,_,_,itList,hly5,fun i m' H'=>H'=H∧∃ o13,m'=(lA sl a b (mkS l) wd o1 o2 o3 o4 (some (.int w 0)) o5 (some (.ref oc)) (some (.ref sx)) (lD (some (.ref mx)) (some (.ref ra)) (some (.ref du)) o6 (some (.ref fx)) (some (.int mk 0)) (some (.ref ly)) (some (.ref re)) (some (.int la 0)) (lE o15 o7 o8 o9 o10 o11 (some (.bytes ((List.range i).reverse.flatMap (lyB E c N mk (dk.map (·.1)))).toArray 0)) o13 o14 (lG cs))):Names),?_,?_,?_⟩
 · exact ⟨rfl,o13,rfl⟩
 · rintro pr i m' H₆ hi - yq6
   obtain ⟨rfl,o13,rfl⟩:=yq6
   rw [hlyl] at hi
   have O:=O.guard pr
   rw [lyL_at hi]
   have h1:=lyB_le (ds:=dk.map (·.1)) hE hi (by exact Nat.le_trans (by assumption) (by decide +kernel)) hc hm
   have h2:=lyB_sum (ds:=dk.map (·.1)) hE (by exact Nat.le_trans (by assumption) (by decide +kernel)) hc hm i (by exact Nat.le_of_lt (by assumption))
   repeat walk_at "m:s"
   refine b_add_b (by simp only [List.size_toArray];lia) ?_
   repeat walk_at "m:s"
   have e:(lyB E c N mk (dk.map (·.1)) i).toArray++((List.range i).reverse.flatMap (lyB E c N mk (dk.map (·.1)))).toArray=((List.range (i+1)).reverse.flatMap (lyB E c N mk (dk.map (·.1)))).toArray:=by
     apply Array.toList_inj.mp
     rw [List.range_succ,List.reverse_append,List.flatMap_append];simp
   rw [e]
   exact ⟨hly5,rfl,_,rfl⟩
 rintro m' H₆ - yq3
 obtain ⟨rfl,o13,rfl⟩:=yq3
 rw [hlyl]
 repeat walk_at "m:s"
 obtain ⟨sk,hsk1,hsk2,hsk3⟩:=sorted_ex true dk (by
   have:=hP5.nd
   rw [List.map_map] at this
   refine List.pairwise_map.mpr ((List.pairwise_map.mp this).imp fun {x y} h e=>h ?_)
   show ordOf N x.1=ordOf N y.1
   rw [e]) hdN'
 have hskm:(sk.map fun q=>(partM E c N mk q.1,q.2)).Perm (dk.map fun q=>(partM E c N mk q.1,q.2)):=hsk1.map _
 have hsks:(sk.map fun q=>(partM E c N mk q.1,q.2)).Pairwise (ledp true):=by
   refine List.pairwise_map.mpr (List.Pairwise.imp_of_mem (fun {x y} hx hy h=>?_) hsk2)
   exact ordOf_mono (hdN' y (hsk1.mem_iff.mp hy)) (hdN' x (hsk1.mem_iff.mp hx)) h
 have hle:=laid_eq (E:=E) (c:=c) (mk:=mk) (N:=N) hsk3
 rw [if_pos rfl] at hle
 repeat walk_at "m:s"
 refine m_inst (f:=590) hF5.1 hF5.2.1 rfl (by rw [hL.K];rfl) ?_
 repeat walk_at "m:s"
 refine ⟨keepsK (by rw [hL.K];rfl),calc_of fun sv=>fl_bytes_c hL (n:=n) r hF5 hP5 (by rw [List.length_map];exact Nat.lt_of_le_of_lt (by assumption) (by decide +kernel)) hskm hsks hl5 ⟨hl5.ne hF5.1 trivial,hl5.ne hF5.2.1 trivial,hl5.ne hF5.2.2 trivial⟩ fun H₇ hk7 hl7=>?_⟩
 rw [hle]
 have K7:Kept H₆ H₇:=⟨hk7,hl7⟩
 have hF7:=K7.fl hl5 hF5
 have hra7:=K7.get hl5 hra5 trivial
 have hly7:=K7.get hl5 hly5 trivial
 clear hle hsk1 hsk2 hsk3 hskm hsks hP5 hra5 hl5 hly5
 repeat walk_at "m:s"
 refine if_no (fun h=>h rfl) ?_
 repeat walk_at "m:s"
 refine m_inst (f:=621) hF7.1 hF7.2.1 rfl (by rw [hL.K];rfl) ?_
 repeat walk_at "m:s"
 have hbit:∀ q∈kvs,(Builtin.bitAnd q.1 64=64↔N - 1∈dk.map (·.1)∧q.1=ordOf N (N - 1)):=fun q hq=>by
   rw [hkl'] at hq
   refine xe12 (List.mem_map.mp hq) fun z hz zq2=>?_
   obtain rfl:=zq2
   have hzN:=hdN' z hz
   have hb:=bit64 N (by exact Nat.lt_of_le_of_lt (by assumption) (by decide +kernel)) z.1 hzN
   show Builtin.bitAnd (ordOf N z.1) 64=64↔_∧ordOf N z.1=_
   rw [hb]
   refine ⟨fun e=>?_,fun e=>?_⟩
   · have e:z.1=N - 1:=Nat.eq_sub_of_add_eq e
     exact ⟨e▸List.mem_map.mpr ⟨z,hz,rfl⟩,by rw [e]⟩
   · have:=ordOf_inj (by exact Nat.le_trans (by assumption) (by decide +kernel)) hzN (by exact Nat.sub_lt_sub_left (by assumption) (Nat.lt_succ_self _)) e.2;rw [this];exact Nat.sub_add_cancel (by assumption)
 have hone:lyB E c N mk (dk.map (·.1)) (N - 1)=[]↔N - 1∉dk.map (·.1):=by
   unfold lyB
   split
   · rename_i h
     have:=Part.octs_len (partM_ok (i:=N - 1) hE (by exact Nat.sub_lt_sub_left (by assumption) (Nat.lt_succ_self _)) (by exact Nat.le_trans (by assumption) (by decide +kernel)) hc hm)
     exact ⟨fun e=>(by rw [e] at this;cases this),fun q=>absurd h q⟩
   · rename_i h;exact ⟨fun _=>h,fun _=>rfl⟩
 have hlyl7:(lyL E c N mk (dk.map (·.1))).length=N:=by simp [lyL]
 refine ⟨keepsK (by rw [hL.K];rfl),calc_of fun sv=>complete_c hL (n:=n+8) r hF7 (by rw [hkl',List.length_map];exact Nat.le_trans (by assumption) (by decide +kernel)) (fun h=>?_) (fun h=>?_)⟩
 · have hin:N - 1∈dk.map (·.1):=by obtain ⟨q,hq,e⟩:=h;exact ((hbit q hq).mp e).1
   repeat walk_at "m:s"
   refine ⟨keepsB,f_isi_bb ?_⟩
   repeat walk_at "m:s"
   try refine if_f ?_
   repeat walk_at "m:s"
   refine ⟨keepsB,f_len_lE hrwl hra7 (by rw [sizeLine_eq];exact Nat.le_trans (by assumption) (by decide +kernel)) ?_⟩
   repeat walk_at "m:s"
   refine it_list hly7 (by lia) (by rw [hlyl7];lia) (by rw [hlyl7,sizeLine_eq];exact Nat.le_trans (by assumption) (by decide +kernel)) ?_
   rw [show ((N:Int) - 1).toNat=N - 1 by simp,lyL_at (by exact Nat.sub_lt_sub_left (by assumption) (Nat.lt_succ_self _))]
   repeat walk_at "m:s"
   rw [bI_iff.mpr (show (lyB E c N mk (dk.map (·.1)) (N - 1)).toArray≠([]:List UInt8).toArray from fun e=>(hone.mp (congrArg Array.toList e)) hin)]
   repeat walk_at "m:s"
   try refine if_f ?_
   repeat walk_at "m:s"
   exact k H₇ _ _ _ K7
 · have hin:N - 1∉dk.map (·.1):=fun q=>by
     refine xe12 (List.mem_map.mp q) fun z hz e=>?_
     have hm:(ordOf N z.1,Value.ref z.2)∈kvs:=by rw [hkl'];exact List.mem_map.mpr ⟨z,hz,rfl⟩
     exact h _ hm ((hbit _ hm).mpr ⟨q,by show ordOf N z.1=_;rw [e]⟩)
   repeat walk_at "m:s"
   refine ⟨keepsB,f_isi_bb ?_⟩
   repeat walk_at "m:s"
   try refine if_f ?_
   repeat walk_at "m:s"
   refine ⟨keepsB,f_len_lE hrwl hra7 (by rw [sizeLine_eq];exact Nat.le_trans (by assumption) (by decide +kernel)) ?_⟩
   repeat walk_at "m:s"
   refine it_list hly7 (by lia) (by rw [hlyl7];lia) (by rw [hlyl7,sizeLine_eq];exact Nat.le_trans (by assumption) (by decide +kernel)) ?_
   rw [show ((N:Int) - 1).toNat=N - 1 by simp,lyL_at (by exact Nat.sub_lt_sub_left (by assumption) (Nat.lt_succ_self _))]
   repeat walk_at "m:s"
   rw [bI_not.mpr (show ¬ (lyB E c N mk (dk.map (·.1)) (N - 1)).toArray≠([]:List UInt8).toArray from fun e=>e (by rw [hone.mpr hin]))]
   repeat walk_at "m:s"
   try refine if_f ?_
   repeat walk_at "m:s"
   exact k H₇ _ _ _ K7
end
end
section
theorem ws_joinW {G:Glb}{S:Sit}{X:KV}{m:Names}{H:HP}(O:S.Ok G) (Q:KN) {l:List Stmt}{st:Stmt}{r:List Stmt}{K:KF}(e:l=st::r) (h:vS G S X 60 [st] (fun f m H=>f=.next∧Q m H) m H) (k:∀ m H,Q m H→WS0 G S r K X m H):WS0 G S l K X m H:=by
 subst e
 have h1:WS G S ([st]++r) K X m H:=by
   refine W.eq execs_app (W.bind (W.post (vS_in O h) fun f m H h=>?_))
   obtain ⟨e,q⟩:=h
   cases f with
   | next=>exact k _ _ q
   | brk=>cases e
   | cont=>cases e
   | ret v=>cases e
 exact h1
theorem mod_nat {a:Int}{L:Nat}(h:1≤L):∃ p:Nat,a % (L:Int)=(p:Int)∧p<L:=by
 have h0:=Int.emod_nonneg a (Int.ne_of_gt (Int.ofNat_lt.mpr h));have h1:=Int.emod_lt_of_pos a (Int.ofNat_lt.mpr h)
 exact ⟨_,(Int.toNat_of_nonneg h0).symm,(Int.toNat_lt h0).mpr h1⟩
section
variable {G:Glb}(hL:L1 G) {S:Sit}{X:KV}{H:HP}{n:Nat}{KFl:KF}
include hL
set_option maxHeartbeats 8000000 in
theorem law_step (O:S.Ok G) (r:Rm S.A S.stk (n+9)) {P:Params}{sl cs oc sx mx ra du fx fdn fd ly re:Addr}{a b w wd mk c la sd:Int}{l:List Nat}{o1 o2 o3 o4 o5 o6 o7 o8 o9 o10 o11 o12 o13 o14:Option Value}
   {ws:List Addr}{E:List UInt8}{N s ep:Nat}{dj:List (Nat × Addr)}{rest:List Nat}{kvs:List (Int × Value)}(hE:E.length=26 * N) (hN:N≤12) (hc:0≤c∧c<256) (hm:Builtin.bitAnd mk 63=15∧0≤mk∧mk<256) (hs:s<N) (hraly:ra≠ly)
   (I:StepI H ra ly fx fdn fd cs ws E c N mk s re la dj rest sd ep kvs)
   (k:∀ H' re' la' dj' rest' sd' ep' kvs' o6 o7 o8 o9 o10 o11 o12 o13 o14,StepI H' ra ly fx fdn fd cs ws E c N mk (s+1) re' la' dj' rest' sd' ep' kvs'→(∀ y co,y≠571→y≠fd→y≠ly→y≠cs→H.o y=some co→H'.o y=some co) →
     KFl .next (lA sl a b (mkS l) wd o1 o2 o3 o4 (some (.int w 0)) o5 (some (.ref oc)) (some (.ref sx)) (lD (some (.ref mx)) (some (.ref ra)) (some (.ref du)) o6 (some (.ref fx)) (some (.int mk 0)) (some (.ref ly)) (some (.ref re')) (some (.int la' 0)) (lE (some (.int (s:Int) 0)) o7 o8 o9 o10 o11 o12 o13 o14 (lG cs))):Names) H') :
   WS G S (loopB P) KFl X (lA sl a b (mkS l) wd o1 o2 o3 o4 (some (.int w 0)) o5 (some (.ref oc)) (some (.ref sx)) (lD (some (.ref mx)) (some (.ref ra)) (some (.ref du)) o6 (some (.ref fx)) (some (.int mk 0)) (some (.ref ly)) (some (.ref re)) (some (.int la 0)) (lE (some (.int (s:Int) 0)) o7 o8 o9 o10 o11 o12 o13 o14 (lG cs))):Names) H:=by
 conv in loopB _=>whnf
 have hrl:rest.length≤12:=by have:=I.len;lia
 have hrl1:1≤rest.length:=by have:=I.len;lia
 have hcr:(intL (cpI rest)).length=rest.length:=by rw [intL_len,cpI_len]
 have hcell:=I.cell
 refine ws_cut O 7 ?_
 repeat walk_at "m:s"
 refine ⟨keepsB,f_len_lE hcr I.rl (by rw [sizeLine_eq];exact Nat.le_trans (by assumption) (by decide +kernel)) ?_⟩
 repeat walk_at "m:s"
 refine b_mod (by exact Int.ofNat_le.mpr (by assumption)) ?_
 obtain ⟨p,hp,hpl⟩:∃ p:Nat,sd % (rest.length:Int)=(p:Int)∧p<rest.length:=mod_nat hrl1
 rw [hp]
 repeat walk_at "m:s"
 refine ⟨keepsB,f_len_lE hcr I.rl (by rw [sizeLine_eq];exact Nat.le_trans (by assumption) (by decide +kernel)) ?_⟩
 repeat walk_at "m:s"
 refine b_floordiv (by exact Int.ofNat_le.mpr (by assumption)) (by exact Nat.lt_of_le_of_lt (by assumption) (by decide +kernel)) ?_
 repeat walk_at "m:s"
 refine sto_cel O (lk_mem rfl) hcell ?_
 have hcne:∀ {y:Addr}{co:CO},H.o y=some co→(∀ v,co≠.cell v)→y≠cs:=fun {y co} e h q=>by rw [q,hcell] at e;cases e;exact h _ rfl
 have g1:∀ {y:Addr}{co:CO},H.o y=some co→(∀ v,co≠.cell v)→(H.put cs (.cell (some (.int (sd / (rest.length:Int)) 0)))).o y=some co:=fun {y co} e h=>HP.put_ne (hcne e h) e
 have hcell1:=HP.put_same (H:=H) (a:=cs) (c:=.cell (some (.int (sd / (rest.length:Int)) 0)))
 have I1:StepI (H.put cs (.cell (some (.int (sd / (rest.length:Int)) 0)))) ra ly fx fdn fd cs ws E c N mk s re la dj rest (sd / (rest.length:Int)) ep kvs:={
   lam:=by
     rcases I.lam with h | ⟨c',oc,vs,t,h1,h2,h3,h4,h5⟩
     · exact .inl (g1 h fun _ q=>by cases q)
     · exact .inr ⟨c',oc,vs,t,g1 h1 (fun _ q=>by cases q),g1 h2 (fun _ q=>by cases q),h3,h4,h5⟩
   rows:=g1 I.rows fun _ q=>by cases q
   rat:=⟨I.rat.len,fun i w e=>by obtain ⟨e8,q⟩:=I.rat.row i w e;exact ⟨e8,g1 q fun _ q=>by cases q⟩⟩
   fl:=⟨g1 I.fl.1 (fun _ q=>by cases q),g1 I.fl.2.1 (fun _ q=>by cases q),g1 I.fl.2.2 (fun _ q=>by cases q)⟩
   parts:=⟨I.parts.kvs,fun q hq=>by obtain ⟨e,r⟩:=I.parts.row q hq;exact ⟨e,g1 r fun _ q=>by cases q⟩,I.parts.ok,I.parts.nd⟩
   perm:=I.perm
   len:=I.len
   lying:=g1 I.lying fun _ q=>by cases q
   rl:=g1 I.rl fun _ q=>by cases q
   cell:=hcell1
   last:=I.last
   la0:=I.la0
   la1:=I.la1 }
 have hk1:∀ y co,y≠571→y≠fd→y≠ly→y≠cs→H.o y=some co→(H.put cs (.cell (some (.int (sd / (rest.length:Int)) 0)))).o y=some co:=fun y co _ _ _ h e=>HP.put_ne h e
 generalize H.put cs (.cell (some (.int (sd / (rest.length:Int)) 0)))=H₁ at hcell1 I1 hk1 ⊢
 clear hcell g1 hcne
 generalize sd / (rest.length:Int)=sd1 at hcell1 I1 ⊢
 clear I
 have hspm:rest.getD p 0∈rest:=by rw [List.getD,List.getElem?_eq_getElem hpl];exact List.getElem_mem _
 have hspN:rest.getD p 0<N:=List.mem_range.mp (I1.perm.mem_iff.mp (List.mem_append_left _ hspm))
 repeat walk_at "m:s"
 refine it_list I1.rl (by exact Int.natCast_nonneg _) (by rw [hcr];exact Int.ofNat_le.mpr (by assumption)) (by rw [hcr,sizeLine_eq];exact Nat.le_trans (by assumption) (by decide +kernel)) ?_
 rw [Int.toNat_natCast,intL_at (show p<(cpI rest).length by rw [cpI_len];exact hpl),show (cpI rest).getD p 0=((rest.getD p 0:Nat):Int) by simp [cpI,List.getD,hpl]]
 have hpm2:(rest.getD p 0::(rest.take p++rest.drop (p+1))).Perm rest:=by
   have e:rest=rest.take p++rest.getD p 0::rest.drop (p+1):=by
     rw [show rest.getD p 0=rest[p] by simp [List.getD,hpl],List.getElem_cons_drop,List.take_append_drop]
   conv=>rhs;rw [e]
   exact List.perm_middle.symm
 generalize hsp:rest.getD p 0=spot at hspN hpm2 ⊢
 repeat walk_at "m:s"
 refine sl_list (lo:=none) (hi:=some (p:Int)) I1.rl (by rw [hcr,sizeLine_eq];exact Nat.le_trans (by assumption) (by decide +kernel)) fun q1 hq1=>?_
 rw [cut_to _ p (by rw [hcr];exact Nat.le_of_lt (by assumption))]
 have hr1:=HP.put_fresh (c:=.list ((intL (cpI rest)).take p)) hq1 I1.rl
 repeat walk_at "m:s"
 refine sl_list (lo:=some ((p:Int)+1)) (hi:=none) hr1 (by rw [hcr,sizeLine_eq];exact Nat.le_trans (by assumption) (by decide +kernel)) fun q2 hq2=>?_
 rw [show (p:Int)+1=((p+1:Nat):Int) by exact rfl,cut_fr _ (p+1) (by rw [hcr];assumption)]
 repeat walk_at "m:s"
 refine b_add_l (HP.put_fresh hq2 HP.put_same) HP.put_same (by rw [List.length_take,List.length_drop,hcr,sizeLine_eq];exact Nat.le_trans (Nat.add_le_add (Nat.min_le_right _ _) (Nat.sub_le _ _)) (Nat.le_trans (Nat.add_le_add hrl hrl) (by decide +kernel))) fun re' hre'=>?_
 rw [show (intL (cpI rest)).take p++(intL (cpI rest)).drop (p+1)=intL (cpI (rest.take p++rest.drop (p+1))) by simp only [intL,cpI,List.map_append,List.map_take,List.map_drop]]
 have hrly:re'≠ly:=fun q=>by rw [q,HP.put_fresh hq2 (HP.put_fresh hq1 I1.lying)] at hre';cases hre'
 have hs2:=((Sub.put (H:=H₁) (c:=.list ((intL (cpI rest)).take p)) hq1).trans (Sub.put (c:=.list ((intL (cpI rest)).drop (p+1))) hq2)).trans (Sub.put (c:=.list (intL (cpI (rest.take p++rest.drop (p+1))))) hre')
 have hr2:=HP.put_same (H:=(H₁.put q1 (.list ((intL (cpI rest)).take p))).put q2 (.list ((intL (cpI rest)).drop (p+1)))) (a:=re') (c:=.list (intL (cpI (rest.take p++rest.drop (p+1)))))
 generalize ((H₁.put q1 (.list ((intL (cpI rest)).take p))).put q2 (.list ((intL (cpI rest)).drop (p+1)))).put re' (.list (intL (cpI (rest.take p++rest.drop (p+1)))))=H₂ at hs2 hr2 ⊢
 have I2:=I1.sub hs2
 have hk2:∀ y co,y≠571→y≠fd→y≠ly→y≠cs→H.o y=some co→H₂.o y=some co:=fun y co h1 h2 h3 h4 e=>hs2.2 _ _ (hk1 y co h1 h2 h3 h4 e)
 clear hs2 I1 hk1 hq1 hq2 hre' hr1 hcell1
 have hwl:=I2.rat.len
 have hgi:ws[spot]? = some (ws.getD spot 0):=by simp [List.getD,show spot<ws.length by lia]
 obtain ⟨e8,hw⟩:=I2.rat.row spot _ hgi
 repeat walk_at "m:s"
 refine it_list I2.rows (by exact Int.natCast_nonneg _) (by rw [List.length_map];lia) (by rw [List.length_map,sizeLine_eq];lia) ?_
 rw [Int.toNat_natCast,show (ws.map Value.ref).getD spot .none=.ref (ws.getD spot 0) by simp [List.getD,show spot<ws.length by lia]]
 generalize ws.getD spot 0=w' at hw ⊢
 repeat walk_at "m:s"
 refine b_floordiv (by decide) (by decide) ?_
 repeat walk_at "m:s"
 refine b_mod (by decide) ?_
 repeat walk_at "m:s"
 refine b_floordiv (by decide) (by decide) ?_
 repeat walk_at "m:s"
 refine b_mul (mul_ok (by decide) (by decide)) ?_
 repeat walk_at "m:s"
 try refine b_add ?_
 repeat walk_at "m:s"
 refine b_mod (by decide) ?_
 have hwh:0≤(a / 32+(s:Int)) % 4:=by exact Int.emod_nonneg _ (by decide +kernel)
 have hot:0≤(a / 128+37 * (s:Int)) % 256:=by exact Int.emod_nonneg _ (by decide +kernel)
 generalize (a / 32+(s:Int)) % 4=wh at hwh ⊢
 generalize (a / 128+37 * (s:Int)) % 256=ot at hot ⊢
 have hkl:kvs.length≤12:=by
   have h1:=I2.perm.length_eq
   rw [List.length_append,List.length_map,List.length_range] at h1
   rw [I2.parts.kvs,List.length_map,List.length_map];lia
 have hoS:0≤ordOf N spot∧ordOf N spot≤255:=⟨(ordOf_le (Nat.le_trans hN (by decide)) (by assumption)).1,Int.le_trans (ordOf_le (Nat.le_trans hN (by decide)) (by assumption)).2 (by decide)⟩
 repeat walk_at "m:s"
 refine ws_joinW O (fun m' H'=>Sub H₂ H'∧m'=(lA sl a b (mkS l) wd o1 o2 o3 o4 (some (.int w 0)) o5 (some (.ref oc)) (some (.ref sx)) (lD (some (.ref mx)) (some (.ref ra)) (some (.ref du)) (some (.ref w')) (some (.ref fx)) (some (.int mk 0)) (some (.ref ly)) (some (.ref re')) (some (.int la 0)) (lE (some (.int (s:Int) 0)) (some (.int (p:Int) 0)) (some (.int (spot:Int) 0)) (some (.int wh 0)) (some (.int ot 0)) (some (.bool false)) o12 o13 o14 (lG cs))):Names)) rfl ?_ ?_
 · repeat walk_at "m:s"
   refine if_bI (fun hw0=>?_) (fun hw0=>?_)
   · repeat walk_at "m:s"
     refine it_ds hw (v:=.int (ordOf N spot) 0) rfl ?_
     repeat walk_at "m:s"
     refine we0 (e_join (.int (if ot % 64=15 then ot+1 else ot) 0) ?_ ?_)
     · (first | refine we0 (ifx_in (by assumption) ?_) | refine ifx_in (by assumption) ?_);repeat walk_at "m:s"
       refine b_mod (by decide) ?_
       repeat walk_at "m:s"
       refine if_bI (fun h=>?_) (fun h=>?_)
       · repeat walk_at "m:s"
         exact ⟨by rw [if_pos h],rfl,rfl⟩
       · repeat walk_at "m:s"
         exact ⟨by rw [if_neg h],rfl,rfl⟩
     repeat walk_at "m:s"
     refine ⟨keepsK (by rw [hL.K];rfl),calc_of fun sv=>taken_no hL (n:=n+5) r I2.fl (by exact Nat.le_trans (by assumption) (by decide +kernel)) hw hoS.1 hoS.2 (fun h _ _=>mark_bad hot h.1) ?_⟩
     repeat walk_at "m:s"
     exact ⟨rfl,Sub.refl _,rfl⟩
   repeat walk_at "m:s"
   refine if_bI (fun hw1=>?_) (fun hw1=>?_)
   · repeat walk_at "m:s"
     refine it_ds hw (v:=.int (ordOf N spot) 0) rfl ?_
     repeat walk_at "m:s"
     refine b_mod (by decide) ?_
     repeat walk_at "m:s"
     try refine b_add ?_
     repeat walk_at "m:s"
     refine ⟨keepsK (by rw [hL.K];rfl),calc_of fun sv=>taken_no hL (n:=n+5) r I2.fl (by exact Nat.le_trans (by assumption) (by decide +kernel)) hw hoS.1 hoS.2 (fun _ h _=>by lia) ?_⟩
     repeat walk_at "m:s"
     exact ⟨rfl,Sub.refl _,rfl⟩
   repeat walk_at "m:s"
   refine if_bI (fun hw2=>?_) (fun hw2=>?_)
   · repeat walk_at "m:s"
     refine ⟨keepsK (by rw [hL.K];rfl),calc_of fun sv=>taken_no hL (n:=n+5) r I2.fl (by exact Nat.le_trans (by assumption) (by decide +kernel)) hw (by decide) (by decide) (fun h _ _=>h.2 rfl) ?_⟩
     repeat walk_at "m:s"
     exact ⟨rfl,Sub.refl _,rfl⟩
   repeat walk_at "m:s"
   refine ⟨keepsK (by rw [hL.K];rfl),calc_of fun sv=>taken_no hL (n:=n+5) r I2.fl (by exact Nat.le_trans (by assumption) (by decide +kernel)) hw I2.la0 I2.la1 (fun h _ h3=>by
     rcases I2.last with e | ⟨q,hq,e⟩
     · exact h.2 e
     · exact h3 q hq e) ?_⟩
   repeat walk_at "m:s"
   exact ⟨rfl,Sub.refl _,rfl⟩
 rintro m' H₃ yq2
 obtain ⟨hs3,rfl⟩:=yq2
 have I3:=I2.sub hs3
 have hr3:=hs3.2 _ _ hr2
 have hw3:=hs3.2 _ _ hw
 have hk3:∀ y co,y≠571→y≠fd→y≠ly→y≠cs→H.o y=some co→H₃.o y=some co:=fun y co h1 h2 h3 h4 e=>hs3.2 _ _ (hk2 y co h1 h2 h3 h4 e)
 clear I2 hr2 hw hk2 hs3
 obtain ⟨hds,hperm⟩:=perm_step I3.perm hpm2
 have hnew:∀ z∈kvs,z.1≠ordOf N spot:=fun z hz e=>by
   rw [I3.parts.kvs,List.map_map] at hz
   refine xe12 (List.mem_map.mp hz) fun q hq zq2=>?_
   obtain rfl:=zq2
   have hq1:q.1∈dj.map (·.1):=List.mem_map.mpr ⟨q,hq,rfl⟩
   have hqN:q.1<N:=List.mem_range.mp (I3.perm.mem_iff.mp (List.mem_append_right _ hq1))
   have:=ordOf_inj (by exact Nat.le_trans (by assumption) (by decide +kernel)) hqN hspN e
   rw [this] at hq1
   exact hds hq1
 refine ws0 (ws_cut O 3 ?_)
 repeat walk_at "m:s"
 try refine if_f ?_
 repeat walk_at "m:s"
 refine it_ds hw3 (v:=.int (ordOf N spot) 0) rfl ?_
 repeat walk_at "m:s"
 have hlf:isLfn (ordOf N spot) mk:=⟨hm.1,ordOf_lfn (Nat.le_trans hN (by decide)) (by assumption)⟩
 refine ⟨keepsK (by rw [hL.K];rfl),calc_of fun sv=>taken_yes hL (n:=n+5) r I3.fl (by exact Nat.le_trans (by assumption) (by decide +kernel)) hw3 hoS.1 hoS.2 hlf hnew fun w2 ep' e9 hw2=>?_⟩
 have hok:=partM_ok (mk:=mk) hE hspN (by exact Nat.le_trans (by assumption) (by decide +kernel)) hc hm.2
 have hP4:PartsIn ((H₃.put w2 (.ds e9 (partM E c N mk spot).row)).put fd (.di ep' (kvs++[(ordOf N spot,.ref w2)]))) (kvs++[(ordOf N spot,.ref w2)]) (dj.map (fun q=>(partM E c N mk q.1,q.2))++[(partM E c N mk spot,w2)]):=PartsIn.add (p:=partM E c N mk spot) (ep':=ep') (e8:=e9) I3.parts hw2 I3.fl.2.2 hok hnew
 have hF4:=I3.fl.add (ep':=ep') (kvs':=kvs++[(ordOf N spot,.ref w2)]) (co:=.ds e9 (partM E c N mk spot).row) hw2
 have g4:∀ {y:Addr}{co:CO},H₃.o y=some co→y≠fd→((H₃.put w2 (.ds e9 (partM E c N mk spot).row)).put fd (.di ep' (kvs++[(ordOf N spot,.ref w2)]))).o y=some co:=fun {y co} e h=>HP.put_ne h (HP.put_fresh hw2 e)
 have hfd:=I3.fl.2.2
 have hnfd:∀ {y:Addr}{co:CO},H₃.o y=some co→(∀ e k,co≠.di e k)→y≠fd:=fun {y co} e h q=>by rw [q,hfd] at e;cases e;exact h _ _ rfl
 have hly4:=g4 I3.lying (hnfd I3.lying fun _ _ q=>by cases q)
 have hra4:=g4 I3.rows (hnfd I3.rows fun _ _ q=>by cases q)
 have hre4:=g4 hr3 (hnfd hr3 fun _ _ q=>by cases q)
 have hce4:=g4 I3.cell (hnfd I3.cell fun _ _ q=>by cases q)
 have hw4:=g4 hw3 (hnfd hw3 fun _ _ q=>by cases q)
 have hR4:RowsAt _ ws E c N:=⟨I3.rat.len,fun i w e=>by obtain ⟨e8,q⟩:=I3.rat.row i w e;exact ⟨e8,g4 q (hnfd q fun _ _ q=>by cases q)⟩⟩
 have hl4:LamOk 571 lamPos lamQual ((H₃.put w2 (.ds e9 (partM E c N mk spot).row)).put fd (.di ep' (kvs++[(ordOf N spot,.ref w2)]))):=by
   rcases I3.lam with h | ⟨c',oc,vs,t,h1,h2,h3,h4,h5⟩
   · exact .inl (g4 h (hnfd h fun _ _ q=>by cases q))
   · exact .inr ⟨c',oc,vs,t,g4 h1 (hnfd h1 fun _ _ q=>by cases q),g4 h2 (hnfd h2 fun _ _ q=>by cases q),h3,h4,h5⟩
 have hk4:∀ y co,y≠571→y≠fd→y≠ly→y≠cs→H.o y=some co→((H₃.put w2 (.ds e9 (partM E c N mk spot).row)).put fd (.di ep' (kvs++[(ordOf N spot,.ref w2)]))).o y=some co:=fun y co h1 h2 h3 h4 e=>g4 (hk3 y co h1 h2 h3 h4 e) h2
 show vTru G S _ (.bool true) _ _ ((H₃.put w2 (.ds e9 (partM E c N mk spot).row)).put fd (.di ep' (kvs++[(ordOf N spot,.ref w2)])))
 generalize (H₃.put w2 (.ds e9 (partM E c N mk spot).row)).put fd (.di ep' (kvs++[(ordOf N spot,.ref w2)]))=H₄ at hP4 hF4 hly4 hra4 hre4 hce4 hw4 hR4 hl4 hk4 ⊢
 have hlen3:=I3.len
 have hdN:∀ q∈dj,q.1<N:=fun q hq=>List.mem_range.mp (I3.perm.mem_iff.mp (List.mem_append_right _ (List.mem_map.mpr ⟨q,hq,rfl⟩)))
 clear I3 g4 hnfd hfd hr3 hw3 hk3 hw2
 repeat walk_at "m:s"
 try refine if_f ?_
 repeat walk_at "m:s"
 refine it_ds hw4 (v:=.int (ordOf N spot) 0) rfl ?_
 repeat walk_at "m:s"
 refine ⟨keepsK (by rw [hL.K];rfl),calc_of fun sv=>octets_c hL (n:=n+8) r hw4 (partOf_ok hE hspN (by exact Nat.le_trans (by assumption) (by decide +kernel)) hc) hm.2 ?_⟩
 repeat walk_at "m:s"
 repeat walk_at "m:s"
 refine setI_l hly4 (by exact Int.natCast_nonneg _) (by simp [lyL];omega) (by simp [lyL];rw [sizeLine_eq];exact Nat.le_trans (by assumption) (by decide +kernel)) ?_
 rw [Int.toNat_natCast]
 rw [show (lyL E c N mk (dj.map (·.1))).set spot (.bytes ({ partOf E c N spot with a:=mk }:Part).octs.toArray 0)=lyL E c N mk (dj.map (·.1)++[spot]) from lyL_set hspN]
 have g5:∀ {y:Addr}{co:CO},H₄.o y=some co→y≠ly→(H₄.put ly (.list (lyL E c N mk (dj.map (·.1)++[spot])))).o y=some co:=fun {y co} e h=>HP.put_ne h e
 have hnly:∀ {y:Addr}{co:CO},H₄.o y=some co→(∀ l,co≠.list l)→y≠ly:=fun {y co} e h q=>by rw [q,hly4] at e;cases e;exact h _ rfl
 have hra5:=g5 hra4 hraly
 have hre5:=g5 hre4 hrly
 have hce5:=g5 hce4 (hnly hce4 fun _ q=>by cases q)
 have hF5:FLong _ fx fdn fd ep' (kvs++[(ordOf N spot,.ref w2)]):=⟨g5 hF4.1 (hnly hF4.1 fun _ q=>by cases q),g5 hF4.2.1 (hnly hF4.2.1 fun _ q=>by cases q),g5 hF4.2.2 (hnly hF4.2.2 fun _ q=>by cases q)⟩
 have hP5:PartsIn _ _ _:=⟨hP4.kvs,fun q hq=>by obtain ⟨e,r⟩:=hP4.row q hq;exact ⟨e,g5 r (hnly r fun _ q=>by cases q)⟩,hP4.ok,hP4.nd⟩
 have hR5:RowsAt _ ws E c N:=⟨hR4.len,fun i w e=>by obtain ⟨e8,q⟩:=hR4.row i w e;exact ⟨e8,g5 q (hnly q fun _ q=>by cases q)⟩⟩
 have hl5:LamOk 571 lamPos lamQual (H₄.put ly (.list (lyL E c N mk (dj.map (·.1)++[spot])))):=by
   rcases hl4 with h | ⟨c',oc,vs,t,h1,h2,h3,h4,h5⟩
   · exact .inl (g5 h (hnly h fun _ q=>by cases q))
   · exact .inr ⟨c',oc,vs,t,g5 h1 (hnly h1 fun _ q=>by cases q),g5 h2 (hnly h2 fun _ q=>by cases q),h3,h4,h5⟩
 have hly5:=HP.put_same (H:=H₄) (a:=ly) (c:=.list (lyL E c N mk (dj.map (·.1)++[spot])))
 have hk5:∀ y co,y≠571→y≠fd→y≠ly→y≠cs→H.o y=some co→(H₄.put ly (.list (lyL E c N mk (dj.map (·.1)++[spot])))).o y=some co:=fun y co h1 h2 h3 h4 e=>g5 (hk4 y co h1 h2 h3 h4 e) h3
 rw [show dj.map (·.1)++[spot]=(dj++[(spot,w2)]).map (·.1) by rw [List.map_append];rfl] at hly5 hra5 hre5 hce5 hF5 hP5 hR5 hl5 hk5 hperm ⊢
 rw [show dj.map (fun q=>(partM E c N mk q.1,q.2))++[(partM E c N mk spot,w2)]=(dj++[(spot,w2)]).map (fun q=>(partM E c N mk q.1,q.2)) by rw [List.map_append];rfl] at hP5
 have hdN':∀ q∈dj++[(spot,w2)],q.1<N:=fun q hq=>by
   rcases List.mem_append.mp hq with h | h
   · exact hdN q h
   · rw [List.mem_singleton.mp h];exact hspN
 have hkl':kvs++[(ordOf N spot,.ref w2)]=(dj++[(spot,w2)]).map fun q=>(ordOf N q.1,.ref q.2):=by rw [hP5.kvs,List.map_map];rfl
 generalize dj++[(spot,w2)]=dk at hly5 hra5 hre5 hce5 hF5 hP5 hR5 hl5 hk5 hperm hdN' hkl' ⊢
 have hlast':∃ q∈kvs++[(ordOf N spot,Value.ref w2)],q.1=ordOf N spot:=⟨_,List.mem_append_right _ (.head _),rfl⟩
 generalize kvs++[(ordOf N spot,Value.ref w2)]=kvs' at hF5 hP5 hkl' hk5 hlast' ⊢
 generalize H₄.put ly (.list (lyL E c N mk (dk.map (·.1))))=H₅ at hly5 hra5 hre5 hce5 hF5 hP5 hR5 hl5 hk5 ⊢
 clear hnly hra4 hre4 hce4 hF4 hP4 hR4 hl4 hly4 hk4 hw4
 have hlen5:(rest.take p++rest.drop (p+1)).length+(s+1)=N:=by have:=hpm2.length_eq;rw [List.length_cons] at this;rw [← (by assumption:rest.length+s=N),← this,Nat.add_right_comm];exact rfl
 clear hgi hwl hkl hlf hok hdN hdN' hkl' hpm2 hwh hot hnew hds
 repeat walk_at "m:s"
 refine ws0 ?_
 refine law_stepB hL (P:=P) O r hE hN (by lia) hc hm.2 ⟨hl5,hra5,hR5,hF5,hP5,hperm,hlen5,hly5,hre5,hce5,.inr hlast',hoS.1,hoS.2⟩ fun H' o12 o13 o14 K=>?_
 exact k H' re' (ordOf N spot) dk _ sd1 ep' kvs' _ _ _ _ _ _ _ _ _ (StepI.kept ⟨hl5,hra5,hR5,hF5,hP5,hperm,hlen5,hly5,hre5,hce5,.inr hlast',hoS.1,hoS.2⟩ K) fun y co h1 h2 h3 h4 e=>K.1 y co h1 (hk5 y co h1 h2 h3 h4 e)
end
end
section
theorem upper_list (l:List Nat):(Txt.upper (mkS l)).cps.toList=l.flatMap Unicode.upperOf:=by
 show (((mkS l).cps.mapIdx fun i c=>(Unicode.upperOf c).toArray).flatten).toList=_
 rw [show (mkS l).cps=l.toArray from rfl]
 have h:∀ (l:List Nat),l.mapIdx (fun _ c=>(Unicode.upperOf c).toArray)=l.map fun c=>(Unicode.upperOf c).toArray:=fun l=>by
   apply List.ext_getElem
   · simp
   · intro i h1 h2;simp
 simp only [List.mapIdx_toArray,Array.toList_flatten,h,List.flatMap,List.map_map]
 rfl
theorem upper_signs:∀ c∈signs,∃ u,Unicode.upperOf c=[u]∧(u=c→c≠97∧c≠109):=by
 have h:∀ c∈signs,(Unicode.upperOf c).length=1∧(Unicode.upperOf c=[c]→c≠97∧c≠109):=by decide +kernel
 intro c hc
 obtain ⟨h1,h2⟩:=h c hc
 refine xe11 (List.length_eq_one_iff.mp h1) fun u hu=>?_
 exact ⟨u,hu,fun e=>h2 (by rw [hu,e])⟩
theorem mkS_inj {a b:List Nat}:mkS a=mkS b↔a=b:=⟨fun h=>by have:=congrArg (fun x:Str=>x.cps.toList) h;simpa [mkS] using this,fun h=>by rw [h]⟩
theorem str_mkS (x:Str):x=mkS x.cps.toList:=by cases x;simp [mkS]
theorem upper_eq (l:List Nat):mkS l=Txt.upper (mkS l)↔l.flatMap Unicode.upperOf=l:=by
 rw [str_mkS (Txt.upper (mkS l)),upper_list,mkS_inj]
 exact ⟨Eq.symm,Eq.symm⟩
theorem dots (l:List Nat):∃ pl:List (List Nat),Txt.split (mkS l) "." = pl.map mkS∧(∀ p∈pl,46∉p)∧mkS l=Str.join "." (pl.map mkS):=by
 refine ⟨(Txt.split (mkS l) ".").map fun x=>x.cps.toList,?_,?_,?_⟩
 · rw [List.map_map]
   exact (List.map_id'' (fun x=>(str_mkS x).symm) _).symm
 · intro p hp
   refine xe12 (List.mem_map.mp hp) fun x hx zq2=>?_
   obtain rfl:=zq2
   rw [show (("." : Str))=⟨#[46]⟩ by kernel_rfl] at hx
   exact StrLaws.split_free (mkS l) 46 x hx
 · rw [List.map_map,show (Txt.split (mkS l) ".").map (mkS ∘ fun x=>x.cps.toList)=Txt.split (mkS l) "." from List.map_id'' (fun x=>(str_mkS x).symm) _]
   exact (StrLaws.join_split (mkS l) ".").symm
theorem join2 (p q:List Nat) (r:List (List Nat)):∃ t,Str.join "." (mkS p::mkS q::r.map mkS)=mkS (p++46::t)∧Str.join "." (mkS q::r.map mkS)=mkS t:=by
 have key:∀ (q:List Nat) (r:List (List Nat)),∃ t,Str.join "." (mkS q::r.map mkS)=mkS t:=by
   intro q r
   induction r generalizing q with
   | nil=>exact ⟨q,rfl⟩
   | cons a r ih=>
     refine xe11 (ih a) fun t ht=>?_
     refine ⟨q++([46]++t),?_⟩
     show mkS q++(("." : Str))++Str.join "." (mkS a::r.map mkS)=_
     rw [ht,show (("." : Str))=mkS [46] by kernel_rfl,mkS_app,mkS_app,List.append_assoc]
 refine xe11 (key q r) fun t ht=>?_
 refine ⟨t,?_,ht⟩
 show mkS p++(("." : Str))++Str.join "." (mkS q::r.map mkS)=_
 rw [ht,show (("." : Str))=mkS [46] by kernel_rfl,mkS_app,mkS_app,List.append_assoc];rfl
theorem bad46 {l:List Nat}(h:46∈l):badCh l:=⟨46,h,.inr (by decide)⟩
theorem good_of {l:List Nat}(h:∀ c∈l,c∈[81,66,55,32,126]):¬ badCh l:=by
 rintro yq0
 refine xe12 yq0 fun c hc q=>?_
 have:=h c hc
 revert q
 have key:∀ c∈([81,66,55,32,126]:List Nat),¬ (256≤c∨(c:Int)∈invalid83):=by decide
 exact key c this
theorem good_signs {c:Nat}(hs:c∈signs) (h1:c≠97∧c≠109) (h2:¬ (256≤c∨(c:Int)∈invalid83)):c∈[81,66,55,32,126]:=by
 have key:∀ c∈signs,c≠97∧c≠109→¬ (256≤c∨(c:Int)∈invalid83)→c∈[81,66,55,32,126]:=by decide
 exact key c hs h1 h2
theorem rfind_at {l:List Nat}{i:Nat}(h1:l[i]? = some 46) (h2:∀ k:Nat,i<k→l[k]?≠some 46):Txt.rfind (mkS l) "." = (i:Int):=by
 rw [dot_cps]
 rcases rfind_spec l 46 with ⟨_,h⟩ | ⟨j,hj,a,b⟩
 · exact absurd h1 (h i)
 · rw [hj]
   rcases Nat.lt_trichotomy i j with q | q | q
   · exact absurd a (h2 j q)
   · rw [q]
   · exact absurd h1 (b i q)
theorem upper_keep:∀ c∈signs,(c≠97∧c≠109)↔Unicode.upperOf c=[c]:=by decide +kernel
theorem flat_self {f:Nat→List Nat}:∀ {l:List Nat},(∀ c∈l,(f c).length=1)→(l.flatMap f=l↔∀ c∈l,f c=[c])
 | [],_=>⟨fun _ c hc=>(by cases hc),fun _=>rfl⟩
 | a::l,h=>by
   refine xe11 (List.length_eq_one_iff.mp (h a (.head _))) fun u hu=>?_
   rw [List.flatMap_cons,hu,List.cons_append,List.nil_append,List.cons.injEq,flat_self fun c hc=>h c (.tail _ hc)]
   constructor
   · rintro yq0 c hc
     refine xe02 yq0 fun zq0 q=>?_
     obtain rfl:=zq0
     cases hc with
     | head=>exact hu
     | tail _ hc=>exact q c hc
   · intro q
     have h1:=q a (.head _)
     rw [hu] at h1
     exact ⟨(List.cons.inj h1).1,fun c hc=>q c (.tail _ hc)⟩
theorem allow_few {c:Nat}(h:c∈allow) (h4:c≠46):c∈[81,66,55,32,126]:=
 (by decide:∀ c∈allow,c≠46→c∈([81,66,55,32,126]:List Nat)) c h h4
theorem few_allow:∀ c∈([81,66,55,32,126]:List Nat),c∈allow∧c≠97∧c≠109:=by decide
theorem not_bad {l:List Nat}(h:¬ badCh l) {c:Nat}(hc:c∈l):¬ (256≤c∨(c:Int)∈invalid83):=fun q=>h ⟨c,hc,q⟩
theorem splE_no (l:List Nat):splE l (-1)=(l,[]):=by
 unfold splE
 rw [if_neg]
 rintro ⟨k,h,_⟩;lia
theorem conf_iff {l:List Nat}(hs:∀ c∈l,c∈signs):conf83 l (Txt.rfind (mkS l) ".")↔shortA l:=by
 refine xe13 (dots l) fun pl hpl hfree hj=>?_
 have hup:mkS l=Txt.upper (mkS l)↔∀ c∈l,c≠97∧c≠109:=by
   rw [upper_eq,flat_self fun c hc=>by obtain ⟨u,hu,_⟩:=upper_signs c (hs c hc);rw [hu];rfl]
   exact ⟨fun h c hc=>(upper_keep c (hs c hc)).mpr (h c hc),fun h c hc=>(upper_keep c (hs c hc)).mp (h c hc)⟩
 have hpos:=split_pos (mkS l) "."
 unfold conf83 shortA
 rw [hup]
 rw [hpl] at hpos ⊢
 rw [List.length_map] at hpos ⊢
 rcases pl with _ | ⟨p,_ | ⟨q,_ | ⟨x,r⟩⟩⟩
 · exact absurd hpos (by decide)
 · obtain rfl:l=p:=mkS_inj.mp hj
   have h46:=hfree l (.head _)
   have hr:Txt.rfind (mkS l) "." = -1:=by
     rw [dot_cps]
     rcases rfind_spec l 46 with ⟨h,_⟩ | ⟨i,_,h,_⟩
     · exact h
     · exact absurd (List.mem_of_getElem? h) h46
   rw [hr,splE_no]
   constructor
   · rintro yq0
     refine xe06 yq0 fun h1 h2 h3 h4 h5 h6=>?_
     exact ⟨fun c hc=>(few_allow c (good_signs (hs c hc) (h1 c hc) (not_bad h5 hc))).1,.inl ⟨rfl,h3⟩⟩
   · rintro yq0
     refine xe02 yq0 fun h1 h2=>?_
     have h8:l.length≤8:=by rcases h2 with h | h;exact h.2;exact absurd h.1 (by simp)
     have hf:∀ c∈l,c∈[81,66,55,32,126]:=fun c hc=>allow_few (h1 c hc) fun e=>h46 (e▸hc)
     exact ⟨fun c hc=>(few_allow c (hf c hc)).2,by show l.length+0≤11;exact Nat.le_trans (by assumption) (by decide +kernel),h8,(by show 0≤3;decide),good_of hf,fun ⟨c,hc,_⟩=>by cases hc⟩
 · refine xe12 (join2 p q []) fun t ht ht2=>?_
   obtain rfl:q=t:=mkS_inj.mp ht2
   obtain rfl:l=p++46::q:=mkS_inj.mp (hj.trans ht)
   have hp46:=hfree p (.head _)
   have hq46:=hfree q (.tail _ (.head _))
   have hr:Txt.rfind (mkS (p++46::q)) "." = (p.length:Int):=by
     refine rfind_at (by simp) fun k hk e=>?_
     rw [List.getElem?_append_right (by exact Nat.le_of_lt (by assumption)),show k - p.length=(k - p.length - 1)+1 from (Nat.sub_add_cancel (Nat.sub_pos_of_lt (by assumption))).symm,List.getElem?_cons_succ] at e
     exact hq46 (List.mem_of_getElem? e)
   rw [hr]
   rcases p with _ | ⟨p0,p⟩
   · have hsp:splE ([]++46::q) ((([]:List Nat).length:Nat):Int)=([]++46::q,[]):=by
       unfold splE;rw [if_neg];rintro ⟨k,h,_⟩
       have h:(k:Int)<0:=h
       lia
     rw [hsp]
     constructor
     · rintro ⟨_,_,_,_,h5,_⟩;exact absurd (bad46 (.head _)) h5
     · rintro ⟨_,h | ⟨_,h,_⟩⟩
       · exact absurd h.1 (by simp)
       · exact absurd h (by show ¬ 0<0;decide)
   · have hne:p0≠46:=fun e=>hp46 (e▸.head _)
     have hsp:splE ((p0::p)++46::q) (((p0::p).length:Nat):Int)=(p0::p,46::q):=by
       unfold splE
       rw [if_pos ⟨0,by simp only [List.length_cons];simp,hne⟩,cut_to _ _ (by simp),cut_fr _ _ (by simp),List.take_left,List.drop_left]
     rw [hsp]
     show _∧(p0::p).length+q.length≤11∧_∧q.length≤3∧¬ badCh (p0::p)∧¬ badCh q↔_∧(_∨(_∧0<(mkS (p0::p)).length∧(mkS (p0::p)).length≤8∧(mkS q).length≤3))
     rw [mkS_len,mkS_len]
     constructor
     · rintro yq0
       refine xe06 yq0 fun h1 h2 h3 h4 h5 h6=>?_
       refine ⟨fun c hc=>?_,.inr ⟨rfl,by simp,h3,h4⟩⟩
       rcases List.mem_append.mp hc with h | h
       · exact (few_allow c (good_signs (hs c hc) (h1 c hc) (not_bad h5 h))).1
       · cases h with
         | head=>decide
         | tail _ h=>exact (few_allow c (good_signs (hs c hc) (h1 c hc) (not_bad h6 h))).1
     · rintro yq0
       refine xe02 yq0 fun h1 h2=>?_
       obtain ⟨h3,h4⟩:(p0::p).length≤8∧q.length≤3:=by rcases h2 with h | h;exact absurd h.1 (by simp);exact h.2.2
       have hfp:∀ c∈p0::p,c∈[81,66,55,32,126]:=fun c hc=>allow_few (h1 c (List.mem_append_left _ hc)) fun e=>hp46 (e▸hc)
       have hfq:∀ c∈q,c∈[81,66,55,32,126]:=fun c hc=>allow_few (h1 c (List.mem_append_right _ (.tail _ hc))) fun e=>hq46 (e▸hc)
       refine ⟨fun c hc=>?_,by lia,h3,h4,good_of hfp,good_of hfq⟩
       rcases List.mem_append.mp hc with h | h
       · exact (few_allow c (hfp c h)).2
       · cases h with
         | head=>decide
         | tail _ h=>exact (few_allow c (hfq c h)).2
 · refine xe12 (join2 p q (x::r)) fun t ht ht2=>?_
   refine xe12 (join2 q x r) fun t2 ht3 _=>?_
   obtain rfl:t=q++46::t2:=mkS_inj.mp (ht2.symm.trans ht3)
   obtain rfl:l=p++46::(q++46::t2):=mkS_inj.mp (hj.trans ht)
   constructor
   · rintro yq0
     refine xe06 yq0 fun _ _ _ _ h5 _=>?_
     refine absurd ?_ h5
     refine bad46 ?_
     unfold splE
     split
     · rcases (by rw [dot_cps];exact rfind_spec (p++46::(q++46::t2)) 46:(Txt.rfind (mkS (p++46::(q++46::t2))) "." = -1∧∀ i:Nat,(p++46::(q++46::t2))[i]?≠some 46)∨∃ i:Nat,Txt.rfind (mkS (p++46::(q++46::t2))) "." = (i:Int)∧(p++46::(q++46::t2))[i]? = some 46∧∀ k:Nat,i<k→(p++46::(q++46::t2))[k]?≠some 46) with ⟨_,h⟩ | ⟨i,hi,h1,h2⟩
       · exact absurd (by simp) (h p.length)
       · have hlt:p.length<i:=by
           rcases Nat.lt_or_ge p.length i with h | h
           · exact h
           · exfalso
             refine h2 (p.length+1+q.length) (by lia) ?_
             rw [List.getElem?_append_right (Nat.le_trans (Nat.le_succ _) (Nat.le_add_right _ _)),show p.length+1+q.length - p.length=q.length+1 by rw [Nat.add_assoc,Nat.add_sub_cancel_left,Nat.add_comm],List.getElem?_cons_succ,List.getElem?_append_right (Nat.le_refl _),Nat.sub_self];rfl
         have hil:=(List.getElem?_eq_some_iff.mp h1).1
         rw [hi]
         show 46∈cut _ none (some (i:Int))
         rw [cut_to _ i (by exact Nat.le_of_lt (by assumption))]
         refine List.mem_of_getElem? (i:=p.length) ?_
         rw [List.getElem?_take_of_lt hlt];simp
     · simp
   · rintro ⟨_,h | h⟩
     · exact absurd h.1 (by simp only [List.length_cons];lia)
     · exact absurd h.1 (by simp only [List.length_cons];simp)
end
section
theorem chk_bytes {os:List Int}(h:∀ z∈os,0≤z∧z<256):chk (byteArr os).toList=chkI os:=by
 have key:∀ (os:List Int) (s:Int),(∀ z∈os,0≤z∧z<256)→(os.map fun n=>n.toNat.toUInt8).foldl (fun s c=>chkStep s (c.toNat:Int)) s=os.foldl chkStep s:=by
   intro os
   induction os with
   | nil=>intro s _;rfl
   | cons z r ih=>
     intro s h
     rw [List.map_cons,List.foldl_cons,List.foldl_cons,ih _ fun y hy=>h y (.tail _ hy)]
     have hz:=h z (.head _)
     have e:((z.toNat.toUInt8).toNat:Int)=z:=by
       rw [show z.toNat.toUInt8.toNat=z.toNat % 256 from rfl];exact mod256 (by lia) (by lia)
     rw [e]
 unfold chk byteArr chkI
 rw [List.toList_toArray]
 exact key os 0 h
theorem part_text {E:List UInt8}{c mk:Int}{N j:Nat}:(partM E c N mk j).text=(E.drop (26 * j)).take 26:=by
 show (((E.drop (26 * j)).take 10).toArray.toList++((E.drop (26 * j+10)).take 12).toArray.toList++((E.drop (26 * j+22)).take 4).toArray.toList)=_
 rw [List.toList_toArray,List.toList_toArray,List.toList_toArray,← List.drop_drop (i:=10),show 26 * j+22=26 * j+22 from rfl,← List.drop_drop (i:=22)]
 generalize E.drop (26 * j)=X
 have h1:(X.drop 10).take 12=(X.take 22).drop 10:=by rw [List.drop_take]
 have h2:(X.drop 22).take 4=(X.take 26).drop 22:=by rw [List.drop_take]
 have h3:X.take 10=(X.take 22).take 10:=by rw [List.take_take];rfl
 have h4:X.take 22=(X.take 26).take 22:=by rw [List.take_take];rfl
 rw [h1,h2,h3,List.take_append_drop,h4,List.take_append_drop]
theorem chunks (E:List UInt8):∀ n:Nat,((List.range n).flatMap fun j=>(E.drop (26 * j)).take 26)=E.take (26 * n)
 | 0=>by simp
 | n+1=>by
   rw [List.range_succ,List.flatMap_append,chunks E n,List.flatMap_cons,List.flatMap_nil,List.append_nil,show 26 * (n+1)=26 * n+26 by exact rfl,List.take_add]
theorem enc16_app (a b:List Nat):enc16 (a++b)=enc16 a++enc16 b:=by unfold enc16;rw [List.flatMap_append]
theorem enc_last:∀ c∈signs,∃ p x,enc1 c=p++[x]∧x≠255:=by
 have h:∀ c∈signs,(enc1 c).getLast?≠some 255∧enc1 c≠[]:=by decide +kernel
 intro c hc
 refine xe02 (h c hc) fun h1 h2=>?_
 refine ⟨(enc1 c).dropLast,(enc1 c).getLast h2,(List.dropLast_concat_getLast h2).symm,fun e=>h1 ?_⟩
 rw [List.getLast?_eq_some_getLast h2,e]
theorem enc_ends {l:List Nat}(hs:∀ c∈l,c∈signs):∀ p,enc16 l≠p++[255,255]:=fun p e=>by
 rcases List.eq_nil_or_concat l with rfl | ⟨l0,c,rfl⟩
 · exact absurd e (by simp [enc16])
 · refine xe22 (enc_last c (hs c (by simp))) fun q x hq hx=>?_
   rw [List.concat_eq_append,enc16_app,show enc16 [c]=enc1 c by simp [enc16],hq,← List.append_assoc,show p++[255,255]=(p++[255])++[255] by simp] at e
   have:=(List.append_inj' e rfl).2
   exact hx (List.cons.inj this).1
theorem ok_signs:∀ c∈signs,ok16 c∧c≠0:=by unfold ok16;decide
theorem text_of {l:List Nat}(hs:∀ c∈l,c∈signs):∃ l' j,pad (enc16 l)=enc16 l'++List.replicate (2 * j) 255∧(∀ c∈l',ok16 c)∧(∀ p,enc16 l'≠p++[255,255])∧((l'=l∧∀ c∈l,c≠0)∨l'=l++[0]):=by
 have hlen:(enc16 l).length=2 * (un16 l).length:=by rw [enc16_oct,oct_len]
 by_cases h:(enc16 l).length % 26=0
 · refine ⟨l,0,?_,fun c hc=>(ok_signs c (hs c hc)).1,enc_ends hs,.inl ⟨rfl,fun c hc=>(ok_signs c (hs c hc)).2⟩⟩
   unfold pad pad0
   rw [if_pos h,h]
 · have e0:enc16 (l++[0])=enc16 l++[0,0]:=by rw [enc16_app];rfl
   refine ⟨l++[0],((26 - (enc16 (l++[0])).length % 26) % 26) / 2,?_,fun c hc=>?_,fun p e=>?_,.inr rfl⟩
   · have h2:2 * (((26 - (enc16 (l++[0])).length % 26) % 26) / 2)=(26 - (enc16 (l++[0])).length % 26) % 26:=by
       rw [e0,List.length_append,hlen]
       show 2 * ((26 - (2 * ((un16 l).length+1)) % 26) % 26 / 2)=(26 - (2 * ((un16 l).length+1)) % 26) % 26
       rw [pad26,Nat.mul_div_cancel_left _ (by decide)]
     rw [h2]
     unfold pad pad0
     rw [if_neg h,e0]
   · rcases List.mem_append.mp hc with h | h
     · exact (ok_signs c (hs c h)).1
     · rw [List.mem_singleton.mp h];exact .inl (by decide)
   · rw [e0,show enc16 l++[0,0]=(enc16 l++[0])++[0] by simp,show p++[255,255]=(p++[255])++[255] by simp] at e
     have:=(List.append_inj' e rfl).2
     exact absurd (List.cons.inj this).1 (by decide)
end
section
inductive IvF90 (sl:Addr) (cs:Addr) (oc:Addr) (sx:Addr) (mx:Addr) (ra:Addr) (du:Addr) (fx:Addr) (fdn:Addr) (fd:Addr) (ly:Addr) (a:Int) (b:Int) (w:Int) (wd:Int) (mk:Int) (c:Int) (l:List Nat) (o1:Option Value) (o2:Option Value) (o3:Option Value) (o4:Option Value) (o5:Option Value) (ws:List Addr) (E:List UInt8) (N:Nat) (i:Nat) (m':Names) (H':HP):Prop
 | mk:∀ re la dj rest sd' ep' kvs' o6 o7 o8 o9 o10 o11 o12 o13 o14 o15,(StepI H' ra ly fx fdn fd cs ws E c N mk i re la dj rest sd' ep' kvs')→(m'=(lA sl a b (mkS l) wd o1 o2 o3 o4 (some (.int w 0)) o5 (some (.ref oc)) (some (.ref sx)) (lD (some (.ref mx)) (some (.ref ra)) (some (.ref du)) o6 (some (.ref fx)) (some (.int mk 0)) (some (.ref ly)) (some (.ref re)) (some (.int la 0)) (lE o15 o7 o8 o9 o10 o11 o12 o13 o14 (lG cs))):Names))→IvF90 sl cs oc sx mx ra du fx fdn fd ly a b w wd mk c l o1 o2 o3 o4 o5 ws E N i m' H'
inductive IvF91 (N:Nat) (H₃:HP) (i:Nat) (ys:List Value) (m':Names) (H':HP):Prop
 | mk:(H'=H₃)→(ys=intL ((List.range i).map (ordOf N)))→∀ o1,(m'=([("row",.loc o1)]:Names))→IvF91 N H₃ i ys m' H'
section
variable {G:Glb}(hL:L1 G) {S:Sit}{X:KV}{H:HP}{n:Nat}{KFl:KF}
include hL
set_option maxHeartbeats 8000000 in
theorem law_loop (O:S.Ok G) (r:Rm S.A S.stk (n+9)) {P:Params}{sl cs oc sx mx ra du fx fdn fd ly re:Addr}{a b w wd mk c sd:Int}{l:List Nat}{o1 o2 o3 o4 o5 o6:Option Value}
   {ws:List Addr}{E:List UInt8}{N ep:Nat}(hE:E.length=26 * N) (hN:N≤12) (hc:0≤c∧c<256) (hm:Builtin.bitAnd mk 63=15∧0≤mk∧mk<256) (hraly:ra≠ly)
   (I:StepI H ra ly fx fdn fd cs ws E c N mk 0 re 229 [] (List.range N) sd ep [])
   (k:∀ H' re la dj sd' ep' kvs' o6 o7 o8 o9 o10 o11 o12 o13 o14 o15,StepI H' ra ly fx fdn fd cs ws E c N mk N re la dj [] sd' ep' kvs'→KFl .next (lA sl a b (mkS l) wd o1 o2 o3 o4 (some (.int w 0)) o5 (some (.ref oc)) (some (.ref sx)) (lD (some (.ref mx)) (some (.ref ra)) (some (.ref du)) o6 (some (.ref fx)) (some (.int mk 0)) (some (.ref ly)) (some (.ref re)) (some (.int la 0)) (lE o15 o7 o8 o9 o10 o11 o12 o13 o14 (lG cs))):Names) H') :
   WX G S (lawSt P 26) KFl X (lA sl a b (mkS l) wd o1 o2 o3 o4 (some (.int w 0)) o5 (some (.ref oc)) (some (.ref sx)) (lD (some (.ref mx)) (some (.ref ra)) (some (.ref du)) o6 (some (.ref fx)) (some (.int mk 0)) (some (.ref ly)) (some (.ref re)) (some (.int 229 0)) (lN cs)):Names) H:=by
 refine vX_in O ?_
 repeat walk_at "m:s"
 try walk_at "m:0"
 refine x_for O r.hh ?_
 repeat walk_at "m:s"
 have hrwl:(ws.map Value.ref).length=N:=by rw [List.length_map,I.rat.len]
 refine ⟨keepsB,f_len_lE hrwl I.rows (by rw [sizeLine_eq];exact Nat.le_trans (by assumption) (by decide +kernel)) ?_⟩
 repeat walk_at "m:s"
 refine ⟨keepsT,f_range1 fun rg t u v hrg=>?_⟩
 have hrs:(Builtin.Range.rangeSize 0 (N:Int) 1).toNat=N:=by rw [rangeSize_nat];exact rfl
 have h571:rg≠571:=fun q=>by rcases I.lam with h | ⟨_,_,_,_,h,_⟩<;>· rw [q,h] at hrg;cases hrg
 have hfd:rg≠fd:=fun q=>by rw [q,I.fl.2.2] at hrg;cases hrg
 have hly:rg≠ly:=fun q=>by rw [q,I.lying] at hrg;cases hrg
 have hcs:rg≠cs:=fun q=>by rw [q,I.cell] at hrg;cases hrg
 refine ⟨_,_,_,_,itRange (small_one (by simp) (by simp) (by simp) (by lia)),HP.put_same,(IvF90 sl cs oc sx mx ra du fx fdn fd ly a b w wd mk c l o1 o2 o3 o4 o5 ws E N),?_,?_,?_⟩
 · exact ⟨re,229,[],List.range N,sd,ep,[],o6,none,none,none,none,none,none,none,none,none,I.sub (Sub.put hrg),rfl⟩
 · rintro pr i m' H₁ hi hR yq6
   obtain ⟨re,la,dj,rest,sd',ep',kvs',o6,o7,o8,o9,o10,o11,o12,o13,o14,o15,I1,rfl⟩:=yq6
   rw [hrs] at hi
   have O:=O.guard pr
   rw [show (0:Int)+(i:Int) * 1=(i:Int) by simp]
   refine vA_join O ?_
   repeat walk_at "m:s"
   refine ws0 ?_
   refine law_step hL (P:=P) O r hE hN hc hm hi hraly I1 fun H' re' la' dj' rest' sd' ep' kvs' o6 o7 o8 o9 o10 o11 o12 o13 o14 I' hk=>?_
   exact ⟨hk _ _ h571 hfd hly hcs hR,re',la',dj',rest',sd',ep',kvs',o6,o7,o8,o9,o10,o11,o12,o13,o14,_,I',rfl⟩
 · rintro m' H₁ hR yq3
   obtain ⟨re,la,dj,rest,sd',ep',kvs',o6,o7,o8,o9,o10,o11,o12,o13,o14,o15,I1,rfl⟩:=yq3
   rw [hrs] at I1
   have h0:=I1.len
   obtain rfl:=List.eq_nil_of_length_eq_zero (show rest.length=0 by lia)
   repeat walk_at "m:s"
   exact k H₁ re la dj sd' ep' kvs' o6 o7 o8 o9 o10 o11 o12 o13 o14 o15 I1
set_option maxHeartbeats 8000000 in
theorem law_told (O:S.Ok G) (r:Rm S.A S.stk (n+9)) {P:Params}{sl cs oc sx mx ra du fx fdn fd ly re:Addr}{a b w wd mk c sd la:Int}{l:List Nat}{o1 o2 o3 o4 o5 o6 o7 o8 o9 o10 o11 o12 o13 o14 o15:Option Value}
   {ws:List Addr}{E:List UInt8}{N ep:Nat}{dj:List (Nat × Addr)}{kvs:List (Int × Value)}(hN:N≤12)
   (I:StepI H ra ly fx fdn fd cs ws E c N mk N re la dj [] sd ep kvs)
   (k:∀ H' H'',Kept H H'→Sub H' H''→KFl .next (lA sl a b (mkS l) wd o1 o2 o3 o4 (some (.int w 0)) o5 (some (.ref oc)) (some (.ref sx)) (lD (some (.ref mx)) (some (.ref ra)) (some (.ref du)) o6 (some (.ref fx)) (some (.int mk 0)) (some (.ref ly)) (some (.ref re)) (some (.int la 0)) (lE o15 o7 o8 o9 o10 o11 o12 o13 o14 (lG cs))):Names) H'') :
   WX G S (lawSt P 27) KFl X (lA sl a b (mkS l) wd o1 o2 o3 o4 (some (.int w 0)) o5 (some (.ref oc)) (some (.ref sx)) (lD (some (.ref mx)) (some (.ref ra)) (some (.ref du)) o6 (some (.ref fx)) (some (.int mk 0)) (some (.ref ly)) (some (.ref re)) (some (.int la 0)) (lE o15 o7 o8 o9 o10 o11 o12 o13 o14 (lG cs))):Names) H:=by
 refine vX_in O ?_
 have hdN:∀ q∈dj,q.1<N:=fun q hq=>List.mem_range.mp (I.perm.mem_iff.mp (List.mem_append_right _ (List.mem_map.mpr ⟨q,hq,rfl⟩)))
 have hdm:(dj.map (·.1)).Perm (List.range N):=I.perm
 have hnd:(dj.map (·.1)).Nodup:=hdm.nodup_iff.mpr List.nodup_range
 refine xe13 (sorted_ex false dj hnd hdN) fun sk hsk1 hsk2 hsk3=>?_
 rw [if_neg (by decide),List.filter_eq_self.mpr (fun x hx=>by rw [decide_eq_true_eq];exact hdm.mem_iff.mpr hx)] at hsk3
 have hskm:(sk.map fun q=>(partM E c N mk q.1,q.2)).Perm (dj.map fun q=>(partM E c N mk q.1,q.2)):=hsk1.map _
 have hsks:(sk.map fun q=>(partM E c N mk q.1,q.2)).Pairwise (ledp false):=by
   refine List.pairwise_map.mpr (List.Pairwise.imp_of_mem (fun {x y} hx hy h=>?_) hsk2)
   exact ordOf_mono (hdN x (hsk1.mem_iff.mp hx)) (hdN y (hsk1.mem_iff.mp hy)) h
 have hskl:sk.length=N:=by rw [← List.length_map (f:=fun q:Nat × Addr=>q.1),hsk3,List.length_range]
 have hdkl:dj.length≤12:=by rw [← hsk1.length_eq];lia
 have hrows:(sk.map fun q=>(partM E c N mk q.1,q.2)).map (·.2)=sk.map (·.2):=by rw [List.map_map];rfl
 have hrwl:(ws.map Value.ref).length=N:=by rw [List.length_map,I.rat.len]
 repeat walk_at "m:s"
 try walk_at "m:0"
 refine e_compGen O r.hh r.lim ⟨rfl,rfl,rfl,rfl⟩ ?_
 repeat walk_at "m:s"
 refine m_inst (f:=576) I.fl.1 I.fl.2.1 rfl (by rw [hL.K];rfl) ?_
 repeat walk_at "m:s"
 refine ⟨keepsK (by rw [hL.K];rfl),calc_of fun sv=>parts_gen_c hL (n:=n+1) r I.fl I.parts (by rw [List.length_map];exact Nat.lt_of_le_of_lt (by assumption) (by decide +kernel)) hskm hsks I.lam (.inl ⟨rfl,rfl⟩) fun ga g L env H₁ hHL hk hG=>?_⟩
 rw [hrows] at hG
 refine ⟨[],["part"],[],(by repeat first | exact Clos.nil | refine Clos.skip (by decide) ?_ | refine Clos.free (lk_mem rfl) ?_),rfl,by rw [hL.tab];decide,ga,g,L,571,env,lamPos,lamQual,_,rfl,hG,fun i ys m'=>ys=intL ((List.range i).map (ordOf N))∧∃ o1,m'=([("part",.loc o1)]:Names),?_,?_,?_⟩
 · exact ⟨rfl,none,rfl⟩
 · rintro mm C pr i rr ys m' Hb O hi hHb yq11
   obtain ⟨rfl,o1,rfl⟩:=yq11
   rw [List.getElem?_map,Option.map_eq_some_iff] at hi
   obtain ⟨q,hq,rfl⟩:=hi
   have hqi:q.1=i:=by
     have h1:(sk.map (·.1))[i]? = some q.1:=by rw [List.getElem?_map,hq];rfl
     rw [hsk3] at h1
     have h2:=(List.getElem?_eq_some_iff.mp h1).2
     rw [List.getElem_range] at h2
     exact h2.symm
   have hil:i<N:=by rw [← hskl];exact (List.getElem?_eq_some_iff.mp hq).1
   refine xe11 (I.parts.row (partM E c N mk q.1,q.2) (List.mem_map.mpr ⟨q,hsk1.mem_iff.mp (List.mem_of_getElem? hq),rfl⟩)) fun e8 hrow=>?_
   have hb:Hb.o q.2=some (.ds e8 (partM E c N mk q.1).row):=by
     rw [hHb,genHc_ne (fun e=>by rw [e,hHL] at hrow;cases hrow) (I.lam.ne hrow trivial)]
     exact hk _ _ hrow
   repeat walk_at "m:s"
   refine ⟨by rw [intL_len,List.length_map,List.length_range,sizeLine_eq];lia,?_⟩
   repeat walk_at "m:s"
   refine it_ds hb (v:=.int (ordOf N i) 0) (by rw [hqi];rfl) ?_
   exact ⟨Sub.refl _,by rw [intL_snoc,List.range_succ,List.map_append];rfl,_,rfl⟩
 rintro ys m' H₂ hB yq4 D hD
 obtain ⟨rfl,o1,rfl⟩:=yq4
 rw [List.length_map,hskl]
 have K2:Kept H H₂:=⟨fun y co hy e=>hB.1 y co hy (fun q=>by rw [q,hHL] at e;cases e) (hk y co e),hB.2⟩
 have hra2:=K2.get I.lam I.rows trivial
 have hR2:=K2.rows I.lam I.rat
 have hraD:=HP.put_fresh (c:=.list (intL ((List.range N).map (ordOf N)))) hD hra2
 have hDD:=HP.put_same (H:=H₂) (a:=D) (c:=.list (intL ((List.range N).map (ordOf N))))
 have hsD:=Sub.put (H:=H₂) (c:=.list (intL ((List.range N).map (ordOf N)))) hD
 have hRD:=hR2.sub hsD
 generalize H₂.put D (.list (intL ((List.range N).map (ordOf N))))=H₃ at hraD hDD hsD hRD ⊢
 repeat walk_at "m:s"
 try walk_at "m:0"
 refine e_comp1 O r.hh ⟨rfl,rfl,rfl,rfl⟩ ?_
 repeat walk_at "m:s"
 refine ⟨[],["row"],[],(by repeat first | exact Clos.nil | refine Clos.skip (by decide) ?_ | refine Clos.free (lk_mem rfl) ?_),rfl,by rw [hL.tab];decide,_,_,_,_,itList,hraD,(IvF91 N H₃),?_,?_,?_⟩
 · exact ⟨rfl,rfl,none,rfl⟩
 · rintro mm C pr i ys m' H₄ O hi hR yq10
   obtain ⟨rfl,rfl,o1,rfl⟩:=yq10
   rw [hrwl] at hi
   have hwi:i<ws.length:=by rw [hR2.len];exact hi
   rw [show (ws.map Value.ref).getD i .none=.ref (ws.getD i 0) by simp [List.getD,hwi]]
   refine xe11 (hRD.row i (ws.getD i 0) (by simp [List.getD,hwi])) fun e8 hrow=>?_
   repeat walk_at "m:s"
   refine And.intro (by rw [intL_len,List.length_map,List.length_range,sizeLine_eq];lia) ?_
   repeat walk_at "m:s"
   refine it_ds hrow (v:=.int (ordOf N i) 0) rfl ?_
   exact ⟨hR,rfl,by rw [intL_snoc,List.range_succ,List.map_append];rfl,_,rfl⟩
 rintro ys m' H₄ hR yq4 D2 hD2
 obtain ⟨rfl,rfl,o1,rfl⟩:=yq4
 rw [hrwl]
 repeat walk_at "m:s"
 refine c_ne_il (HP.put_fresh hD2 hDD) HP.put_same (by have:=r.c.units;lia) ?_
 repeat walk_at "m:s"
 try refine if_f ?_
 repeat walk_at "m:s"
 exact k H₂ _ K2 (hsD.trans (Sub.put hD2))
set_option maxHeartbeats 8000000 in
theorem law_last (O:S.Ok G) (r:Rm S.A S.stk (n+9)) {P:Params}{sl cs oc sx mx ra du fx fdn fd ly re:Addr}{a b w wd mk c sd la:Int}{l:List Nat}{o1 o2 o3 o4 o5 o6 o7 o8 o9 o10 o11 o12 o13 o14 o15:Option Value}
   {ws:List Addr}{N ep:Nat}{dj:List (Nat × Addr)}{kvs:List (Int × Value)}(hN:N≤12) (hs:∀ c∈l,c∈signs) (hz:l.length≤1000) (hEN:(pad (enc16 l)).length=26 * N)
   (I:StepI H ra ly fx fdn fd cs ws (pad (enc16 l)) c N mk N re la dj [] sd ep kvs)
   (k:∀ m H',LamOk 571 lamPos lamQual H'→KFl (.ret (.bool true)) m H') :
   WX G S (lawSt P 28) KFl X (lA sl a b (mkS l) wd o1 o2 o3 o4 (some (.int w 0)) o5 (some (.ref oc)) (some (.ref sx)) (lD (some (.ref mx)) (some (.ref ra)) (some (.ref du)) o6 (some (.ref fx)) (some (.int mk 0)) (some (.ref ly)) (some (.ref re)) (some (.int la 0)) (lE o15 o7 o8 o9 o10 o11 o12 o13 o14 (lG cs))):Names) H:=by
 refine vX_in O ?_
 have hdN:∀ q∈dj,q.1<N:=fun q hq=>List.mem_range.mp (I.perm.mem_iff.mp (List.mem_append_right _ (List.mem_map.mpr ⟨q,hq,rfl⟩)))
 have hdm:(dj.map (·.1)).Perm (List.range N):=I.perm
 have hnd:(dj.map (·.1)).Nodup:=hdm.nodup_iff.mpr List.nodup_range
 refine xe13 (sorted_ex false dj hnd hdN) fun sk hsk1 hsk2 hsk3=>?_
 rw [if_neg (by decide),List.filter_eq_self.mpr (fun x hx=>by rw [decide_eq_true_eq];exact hdm.mem_iff.mpr hx)] at hsk3
 have hskm:(sk.map fun q=>(partM (pad (enc16 l)) c N mk q.1,q.2)).Perm (dj.map fun q=>(partM (pad (enc16 l)) c N mk q.1,q.2)):=hsk1.map _
 have hsks:(sk.map fun q=>(partM (pad (enc16 l)) c N mk q.1,q.2)).Pairwise (ledp false):=by
   refine List.pairwise_map.mpr (List.Pairwise.imp_of_mem (fun {x y} hx hy h=>?_) hsk2)
   exact ordOf_mono (hdN x (hsk1.mem_iff.mp hx)) (hdN y (hsk1.mem_iff.mp hy)) h
 have hskl:sk.length=N:=by rw [← List.length_map (f:=fun q:Nat × Addr=>q.1),hsk3,List.length_range]
 have hdkl:dj.length≤12:=by rw [← hsk1.length_eq];lia
 refine xe24 (text_of hs) fun l' j h1 h2 h3 h4=>?_
 have htx:((sk.map fun q=>(partM (pad (enc16 l)) c N mk q.1,q.2)).flatMap fun q=>q.1.text)=enc16 l'++List.replicate (2 * j) 255:=by
   rw [List.flatMap_map]
   show (sk.flatMap fun q=>(partM (pad (enc16 l)) c N mk q.1).text)=_
   rw [← List.flatMap_map (f:=fun q:Nat × Addr=>q.1) (g:=fun j=>(partM (pad (enc16 l)) c N mk j).text),hsk3]
   simp only [part_text]
   rw [chunks,List.take_of_length_le (by rw [hEN];exact Nat.le_refl _),h1]
 repeat walk_at "m:s"
 refine m_inst (f:=597) I.fl.1 I.fl.2.1 rfl (by rw [hL.K];rfl) ?_
 repeat walk_at "m:s"
 refine ⟨keepsK (by rw [hL.K];rfl),calc_of fun sv=>fl_text_c hL (n:=n) r I.fl I.parts (by rw [List.length_map];exact Nat.lt_of_le_of_lt (by assumption) (by decide +kernel)) hskm hsks I.lam htx h2 h3 h4 fun H₁ hk hl1=>?_⟩
 repeat walk_at "m:s"
 exact bI_y (F:=fun b=>KFl (.ret (.bool b)) _ _) rfl (k _ _ hl1)
end
end
section
theorem lyL_nil {E:List UInt8}{c mk:Int}{N:Nat}:lyL E c N mk []=emptyL N:=by
 unfold lyL emptyL
 rw [List.eq_replicate_iff]
 refine ⟨by simp,fun b hb=>?_⟩
 obtain ⟨j,_,rfl⟩:=List.mem_map.mp hb
 rfl
theorem shortA_nil:shortA []:=by
 refine ⟨fun c hc=>(by cases hc),.inl ⟨?_,by decide⟩⟩
 refine xe13 (dots []) fun pl hpl hfree hj=>?_
 have hpos:=split_pos (mkS []) "."
 rw [hpl] at hpos ⊢
 rw [List.length_map] at hpos ⊢
 rcases pl with _ | ⟨p,_ | ⟨q,r⟩⟩
 · exact absurd hpos (by decide)
 · rfl
 · refine xe12 (join2 p q r) fun t ht _=>?_
   have:=mkS_inj.mp (hj.trans ht)
   exact absurd this (by simp)
noncomputable def KT:KF:=fun fl _ H=>fl=.ret (.bool true)∧LamOk 571 lamPos lamQual H
section
variable {G:Glb}(hL:L1 G) {S:Sit}{X:KV}{H:HP}{n:Nat}
include hL
set_option maxHeartbeats 8000000 in
theorem law_tail (O:S.Ok G) (r:Rm S.A S.stk (n+9)) {P:Params}{sl cs oc sx sd ba:Addr}{a b w wd sv:Int}{l:List Nat}{os:List Int}{o1 o2 o3 o4 o5:Option Value}(hE:E83 H sx sd (.ref ba) true) (hb:H.o ba=some (.bar (byteArr os))) (hoc:H.o oc=some (.list (intL os))) (hos:∀ z∈os,0≤z∧z<256) (hol:os.length=11)
   (hcs:H.o cs=some (.cell (some (.int sv 0)))) (hlam:LamOk 571 lamPos lamQual H) (hs:∀ c∈l,c∈signs) (hz:l.length≤1000) (h7:w=7→128≤(un16 l).length) (hn:w≠7→(un16 l).length≤127) :
   WS G S ((lawB P).drop 12) KT X (lA sl a b (mkS l) wd o1 o2 o3 o4 (some (.int w 0)) o5 (some (.ref oc)) (some (.ref sx)) (lD none none none none none none none none none (lN cs)):Names) H:=by
 have r5:Rm S.A S.stk ((n+4)+5):=r
 have hchk:=chk_bytes hos
 have hcr:0≤chkI os∧chkI os<256:=by rw [← hchk];exact chk_lt _ 0 (by decide) (by decide)
 have hlen:(enc16 l).length=2 * (un16 l).length:=by rw [enc16_oct,oct_len]
 have hci:=conf_iff hs
 conv in List.drop _ (lawB _)=>whnf
 refine s_cons (x_join _ (law_made hL (P:=P) O r5 hE hb (by rw [byteArr_size,hol,sizeLine_eq];decide) hs hz) fun m' H₁ q=>?_)
 obtain ⟨v,⟨hs1,hq⟩,rfl⟩:=q
 refine seq_next (s_cons (law_same hL (P:=P) O r5 ⟨hs1.2 _ _ hE.1,hs1.2 _ _ hE.2⟩ (hs1.2 _ _ hb) (hs1.2 _ _ hoc) hos hol ?_))
 refine seq_next (s_cons (law_short hL (P:=P) O r5 hz (fun hsh=>?_) fun hsh=>?_))
 · have hv:v=.none:=by
     rcases hq with ⟨h,_⟩ | ⟨h1,h2,_⟩
     · exact h
     · rcases hsh with h | h
       · exact absurd (hci.mpr h) h1
       · have:=h7 h;lia
   rw [bI_iff.mpr hv]
   exact seq_ret ⟨rfl,hlam.sub hs1⟩
 rcases hq with ⟨_,h | h⟩ | ⟨hnc,h255,mx,dn,d,ep,kvs,ps,rfl,hF,hP,hps⟩
 · exact absurd (.inl (hci.mp h)) hsh
 · have:=hn fun q=>hsh (.inr q);lia
 have hun:=hn fun q=>hsh (.inr q)
 have hnil:l≠[]:=fun e=>hsh (.inl (by subst e;exact shortA_nil))
 have hul:=un16_len_le l
 have hl1:1≤l.length:=List.length_pos_iff.mpr hnil
 have hpd:=pad_dvd (enc16 l)
 have hpge:(enc16 l).length≤(pad (enc16 l)).length:=by
   unfold pad pad0;split
   · rw [List.length_append];simp
   · rw [List.length_append,List.length_append];exact Nat.le_trans (Nat.le_add_right _ _) (Nat.le_add_right _ _)
 have hple:(pad (enc16 l)).length≤282:=by
   have:=pad0_le (e:=enc16 l) (by omega)
   unfold pad;rw [List.length_append,List.length_replicate];exact Nat.add_le_add this (Nat.le_of_lt_succ (Nat.mod_lt _ (by decide:26 > 0)))
 rw [hchk] at hps
 obtain ⟨N,hN⟩:∃ N,(pad (enc16 l)).length=26 * N:=⟨(pad (enc16 l)).length / 26,(Nat.mul_div_cancel' (Nat.dvd_of_mod_eq_zero (pad_dvd _))).symm⟩
 have hN12:N≤12:=Nat.le_of_lt_succ (Nat.lt_of_mul_lt_mul_left (a:=26) (hN▸Nat.lt_of_le_of_lt hple (by decide):26 * N<26 * 13))
 have hN1:1≤N:=by
   have:0<26 * N:=hN▸Nat.lt_of_lt_of_le (by rw [show (enc16 l).length=2 * (un16 l).length by assumption];exact Nat.mul_pos (by decide) (Nat.lt_of_lt_of_le hl1 hul)) hpge
   exact Nat.pos_of_ne_zero fun e=>by rw [e] at this;exact absurd this (Nat.lt_irrefl _)
 have hND:(pad (enc16 l)).length / 26=N:=by rw [hN,Nat.mul_div_cancel_left _ (by decide)]
 rw [hND] at hps
 refine seq_next (s_cons (law_none hL (P:=P) O ?_))
 refine seq_next (s_cons (x_join _ (law_rows hL (P:=P) O r5 (hs1.2 _ _ hoc) hos hcr (fun c hc=>signs_lt c (hs c hc)) hz hun) fun m' H₂ q=>?_))
 obtain ⟨hs2,ra,ws,hra,hR,rfl⟩:=q
 rw [hND] at hR
 have hlam2:=(hlam.sub hs1).sub hs2
 have hcs2:=hs2.2 _ _ (hs1.2 _ _ hcs)
 have hF2:FLong H₂ mx dn d ep kvs:=⟨hs2.2 _ _ hF.1,hs2.2 _ _ hF.2.1,hs2.2 _ _ hF.2.2⟩
 have hP2:PartsIn H₂ kvs ps:=⟨hP.kvs,fun q hq=>by obtain ⟨e,r⟩:=hP.row q hq;exact ⟨e,hs2.2 _ _ r⟩,hP.ok,hP.nd⟩
 clear hs1 hs2 hE hb hoc hcs hlam hF hP
 refine seq_next (s_cons (law_due0 hL (P:=P) O fun du hdu=>?_))
 refine seq_next (s_cons (x_join _ (law_due hL (P:=P) O r5 (Sub.put hdu) hdu HP.put_same hra hR hN12) fun m' H₃ q=>?_))
 obtain ⟨hs3,⟨e',hdue⟩,o6,rfl⟩:=q
 have hra3:=hs3.2 _ _ hra
 have hR3:=hR.sub hs3
 have hlam3:=hlam2.sub hs3
 have hcs3:=hs3.2 _ _ hcs2
 refine seq_next (s_cons (law_match hL (P:=P) O r5 (dn:=dn) (d:=d) ⟨hs3.2 _ _ hF2.1,hs3.2 _ _ hF2.2.1,hs3.2 _ _ hF2.2.2⟩ ⟨hP2.kvs,fun q hq=>by obtain ⟨e,r⟩:=hP2.row q hq;exact ⟨e,hs3.2 _ _ r⟩,hP2.ok,hP2.nd⟩ hps hdue hR3 hN12 hN1 ?_))
 clear hs3 hdue hF2 hP2 hps hra hR hlam2 hcs2 hdu
 refine seq_next (s_cons (law_fresh hL (P:=P) O r fun fx fdn fd H₄ hs4 hF4=>?_))
 refine seq_next (s_cons (law_empty hL (P:=P) O r hF4 (hlam3.sub hs4) fun H₅ K5=>?_))
 have hl4:=hlam3.sub hs4
 have hF5:=K5.fl hl4 hF4
 have hra5:=K5.get hl4 (hs4.2 _ _ hra3) trivial
 have hcs5:=K5.get hl4 (hs4.2 _ _ hcs3) trivial
 have hR5:=K5.rows hl4 (hR3.sub hs4)
 have hl5:=K5.2
 clear hs4 hF4 hl4 hra3 hR3 hlam3 hcs3 K5
 refine seq_next (s_cons (law_mark hL (P:=P) O ?_))
 have hmk:=mark_ok (q:=a / 8 % 4) (by exact Int.emod_nonneg _ (by decide +kernel)) (by exact Int.emod_lt_of_pos _ (by decide +kernel))
 generalize 15+64 * (a / 8 % 4)=mk at hmk ⊢
 refine seq_next (s_cons (law_lying hL (P:=P) O r hra5 hR5.len hN12 fun ly hly=>?_))
 have hs6:=Sub.put (H:=H₅) (c:=.list (emptyL N)) hly
 have hraly:ra≠ly:=fun q=>by rw [q,hly] at hra5;cases hra5
 have hly6:=HP.put_same (H:=H₅) (a:=ly) (c:=.list (emptyL N))
 generalize H₅.put ly (.list (emptyL N))=H₆ at hs6 hly6 ⊢
 refine seq_next (s_cons (law_rest hL (P:=P) O r (hs6.2 _ _ hra5) hR5.len hN12 fun re H₇ hs7 hre=>?_))
 have hs8:=hs6.trans hs7
 refine seq_next (ws_cut O 1 ?_)
 repeat walk_at "m:s"
 refine ws0 (s_cons ?_)
 refine law_loop hL (P:=P) O r hN hN12 hcr hmk hraly (ep:=0) (sd:=sv) ⟨hl5.sub hs8,hs8.2 _ _ hra5,hR5.sub hs8,⟨hs8.2 _ _ hF5.1,hs8.2 _ _ hF5.2.1,hs8.2 _ _ hF5.2.2⟩,PartsIn.empty,by simp,by simp,by rw [List.map_nil,lyL_nil];exact hs7.2 _ _ hly6,hre,hs8.2 _ _ hcs5,.inl rfl,by decide,by decide⟩ fun H₉ re la dj sd' ep' kvs' o6 o7 o8 o9 o10 o11 o12 o13 o14 o15 I9=>?_
 refine seq_next (s_cons (law_told hL (P:=P) O r hN12 I9 fun H₁₀ H₁₁ K10 hs11=>?_))
 refine seq_next (s_cons (law_last hL (P:=P) O r hN12 hs hz hN ((I9.kept K10).sub hs11) fun m H' hl=>?_))
 exact seq_ret ⟨rfl,hl⟩
end
end
section
noncomputable def WNS0 (G:Glb) (S:Sit) (l:List Stmt) (K:KF) (X:KV) (m:Names) (H:HP):Prop:=WNS G S l K X m H
noncomputable def cutN (G:Glb) (S:Sit) (X:KV) (l:List Stmt) (K:KF):KF:=fun f m H=>match f with
 | .next=>Stk (WNS0 G S l K X m H)
 | f=>K f m H
theorem wn_cut {G:Glb}{S:Sit}{X:KV}{m:Names}{H:HP}(O:S.Ok G) (k:Nat) {l:List Stmt}{K:KF}(h:vS G S X 60 (l.take k) (cutN G S X (l.drop k) K) m H):WNS G S l K X m H:=by
 have e:execs l S.env=execs (l.take k++l.drop k) S.env:=by rw [List.take_append_drop]
 refine WN.eq (e.trans execs_app) (WN.bind (WN.of (W.post (vS_in O h) fun f m H h=>?_)))
 cases f with
 | next=>exact h.o
 | brk=>exact WN.of (W.pure h)
 | cont=>exact WN.of (W.pure h)
 | ret v=>exact WN.of (W.pure h)
theorem wn0 {G:Glb}{S:Sit}{X:KV}{m:Names}{H:HP}{l:List Stmt}{K:KF}(h:WNS G S l K X m H):WNS0 G S l K X m H:=h
section
variable {G:Glb}(hL:L1 G) {A:Around}{stk:List Env}{sv:Sv}{pr:Pr}{H:HP}{n:Nat}
include hL
set_option maxHeartbeats 8000000 in
theorem law_c (C:COk A stk (n+10)) (hh:A.handled=none) (big:∀ s,RelC G stk sv pr H s→G.base.objs.size≤s.heap.objs.size) {sl:Addr}{ns:List Int}(hB:BList G sl ns) (hn:ns.length≤63) (hlam:LamOk 571 lamPos lamQual H) :
   CallsN G A stk sv pr (.ref 687) [.ref sl] [] (fun v H'=>v=.bool true∧LamOk 571 lamPos lamQual H') (fun _ _=>False) H:=by
 refine enterPC (n:=n+9) C hh ["script","first","second","text","wide","number","sign","more","k","way","kept","octets","short","made","rows","due","row","fresh","mark","lying","rest","last","step","pick","spot","what","other","wrong","laid","part","told"] [("_law_signs",.ref 642),("len",.builtin "len"),("ord",.builtin "ord"),("range",.type "range"),("EightDotThree",.ref 259),("bytes",.type "bytes"),("make_lfn_entry",.ref 635),("PyFATException",.ref 41),("_law_short_already",.ref 649),("_law_parts",.ref 668),("_law_units",.ref 656),("_law_sum",.ref 661),("FATLongDirectoryEntry",.ref 624),("_law_taken",.ref 682),("_law_octets",.ref 675),("isinstance",.builtin "isinstance"),("bool",.type "bool")] [("script",.ref sl)] (ho:=lk1 hL (fun _=>rfl)) rfl (fun s rvs rkw X e1 e2=>?_) (by rw [hL.K];rfl) big (by rw [hL.tab];decide) ?_
 · obtain ⟨x,rfl,ex⟩:=map_one e1
   obtain rfl:=map_nil' e2
   exact ⟨_,BindsTo.of_eq rfl,by simp [ex]⟩
 repeat first | refine cells_skip (by decide) ?_ | refine cells_cell fun c hc=>?_ | refine cells_nil ?_
 refine ⟨rfl,_,_,.loc .here .nil,fun S O r=>?_⟩
 dsimp only [mkM,List.map,List.append_eq,List.cons_append,List.nil_append,List.map_cons,List.map_nil]
 have r5:Rm S.A S.stk ((n+4)+5):=r
 have hl0:LamOk 571 lamPos lamQual (H.put c (.cell none)):=hlam.sub (Sub.put hc)
 have hc0:=HP.put_same (H:=H) (a:=c) (c:=.cell none)
 generalize H.put c (.cell none)=H₀ at hl0 hc0 ⊢
 refine sN_consW (x_asg (e_joinQ (fun v H'=>(∃ a,v=.int a 0)∧H'=H₀) ?_ ?_))
 · (first | refine we0 (ifx_in (by assumption) ?_) | refine ifx_in (by assumption) ?_);repeat walk_at "m:s"
   refine t_listB hB (by rw [sizeLine_eq];exact Nat.le_trans (by assumption) (by decide +kernel)) ?_
   cases ns with
   | nil=>
     repeat walk_at "m:s"
     try refine if_f ?_
     repeat walk_at "m:s"
     exact ⟨rfl,⟨_,rfl⟩,rfl⟩
   | cons z zs=>
     repeat walk_at "m:s"
     try refine if_t ?_
     repeat walk_at "m:s"
     refine it_listB hB (by simp) (by rw [List.length_cons];simp) (by rw [sizeLine_eq];exact Nat.le_trans (by assumption) (by decide +kernel)) ?_
     exact ⟨rfl,⟨_,rfl⟩,rfl⟩
 rintro v H' yq2
 obtain ⟨⟨a,rfl⟩,rfl⟩:=yq2
 refine a_name (sto_loc O (setM_set rfl) (seqN_next ?_))
 refine sN_consW (x_asg (e_joinQ (fun v H''=>(∃ a,v=.int a 0)∧H''=H') ?_ ?_))
 · (first | refine we0 (ifx_in (by assumption) ?_) | refine ifx_in (by assumption) ?_);repeat walk_at "m:s"
   refine ⟨keepsB,f_len_B hB (by rw [sizeLine_eq];exact Nat.le_trans (by assumption) (by decide +kernel)) ?_⟩
   repeat walk_at "m:s"
   refine if_bI (fun h=>?_) (fun h=>?_)
   · repeat walk_at "m:s"
     refine it_listB hB (by simp) (by omega) (by rw [sizeLine_eq];exact Nat.le_trans (by assumption) (by decide +kernel)) ?_
     exact ⟨rfl,⟨_,rfl⟩,rfl⟩
   · repeat walk_at "m:s"
     exact ⟨rfl,⟨_,rfl⟩,rfl⟩
 rintro v H' yq2
 obtain ⟨⟨b,rfl⟩,rfl⟩:=yq2
 refine a_name (sto_loc O (setM_set rfl) (seqN_next ?_))
 refine wn_cut O 2 ?_
 repeat walk_at "m:s"
 refine wn0 (sN_consW (x_join _ (law_text hL (P:=G.w.params) O r5 hB hn) fun m' H₁ q=>?_))
 obtain ⟨hs1,l,o1,o2,o3,o4,hls,hlu,rfl⟩:=q
 refine seqN_next (wn_cut O 1 ?_)
 repeat walk_at "m:s"
 refine b_mod (by decide) ?_
 repeat walk_at "m:s"
 have hll:=un16_len_le l
 refine wn0 (sN_consW (x_join _ (law_way6 hL (P:=G.w.params) O r5 (by exact Nat.le_trans (Nat.le_trans (by assumption) (by assumption)) (by decide +kernel)) hls hlu) fun m' H₂ q=>?_))
 obtain ⟨hs2,l2,o5,hls2,hlu2,rfl⟩:=q
 have hll2:=un16_len_le l2
 refine seqN_next (sN_consW (x_join _ (law_way7 hL (P:=G.w.params) O (by exact Nat.le_trans (Nat.le_trans (by assumption) (by assumption)) (by decide +kernel)) (by exact Int.natCast_nonneg _) (by exact Int.ofNat_le.mpr (by assumption))) fun m' H₃ q=>?_))
 obtain ⟨rfl,l3,hq,rfl⟩:=q
 have hls3:∀ c∈l3,c∈signs:=by
   rcases hq with ⟨_,rfl⟩ | ⟨_,z,_,_,_,rfl⟩
   · exact hls2
   · intro c hc
     rcases List.mem_append.mp hc with h | h
     · exact hls2 c h
     · rw [List.eq_of_mem_replicate h];decide
 have hz3:l3.length≤1000:=by
   rcases hq with ⟨_,rfl⟩ | ⟨_,z,_,_,h,rfl⟩
   · exact Nat.le_trans (Nat.le_trans (by assumption) (by assumption)) (by decide +kernel)
   · rw [List.length_append,List.length_replicate];exact Nat.le_trans (Nat.add_le_add (Nat.le_trans hll2 hlu2) h) (by decide:127+300≤1000)
 have h7:a % 8=7→128≤(un16 l3).length:=fun e=>by
   rcases hq with ⟨h,_⟩ | ⟨_,z,h,_,_,rfl⟩
   · exact absurd e h
   · rw [un16_app,List.length_append]
     have:=un16_len_le (List.replicate z 97)
     rw [List.length_replicate] at this;lia
 have hn7:a % 8≠7→(un16 l3).length≤127:=fun e=>by
   rcases hq with ⟨_,rfl⟩ | ⟨h,_⟩
   · exact hlu2
   · exact absurd h e
 have hs12:=hs1.trans hs2
 have hl3:=hl0.sub hs12
 have hc3:=hs12.2 _ _ hc0
 clear hq hs1 hs2 hs12 hls hlu hll hls2 hlu2 hll2 hl0 hc0
 refine seqN_next (wn_cut O 1 ?_)
 repeat walk_at "m:s"
 refine b_mod (by decide) ?_
 repeat walk_at "m:s"
 refine sto_cel O (lk_mem rfl) hc3 ?_
 have hsd:0≤b % 3628800:=by exact Int.emod_nonneg _ (by decide +kernel)
 generalize b % 3628800=sd at hsd ⊢
 have hl4:LamOk 571 lamPos lamQual (H₃.put c (.cell (some (.int sd 0)))):=by
   have g:∀ {y:Addr}{o:Obj},H₃.o y=some (.obj o)→(H₃.put c (.cell (some (.int sd 0)))).o y=some (.obj o):=fun {y o} e=>HP.put_ne (fun q=>by rw [q,hc3] at e;cases e) e
   rcases hl3 with h | ⟨c',oc,vs,t,h1,h2,h3,h4,h5⟩
   · exact .inl (g h)
   · exact .inr ⟨c',oc,vs,t,g h1,g h2,h3,h4,h5⟩
 have hc4:=HP.put_same (H:=H₃) (a:=c) (c:=.cell (some (.int sd 0)))
 generalize H₃.put c (.cell (some (.int sd 0)))=H₄ at hl4 hc4 ⊢
 repeat walk_at "m:s"
 refine wn0 (sN_consW (x_join _ (law_octets hL (P:=G.w.params) O r5 hc4 hsd) fun m' H₅ q=>?_))
 obtain ⟨hs5,oc,os,hoc,hol,hos,h65,h90,rfl⟩:=q
 refine seqN_next (wn_cut O 1 ?_)
 repeat walk_at "m:s"
 refine ⟨keepsK (by rw [hL.K];rfl),calc_of fun sv=>e83_make_c hL (n:=n+7) r fun sx sdd hsx hsdd hne=>?_⟩
 have e1:∀ {y:Addr}{co:CO},H₅.o y=some co→(((H₅.put sdd (.ns [])).put sx (.inst 259 sdd)).put sdd (.ns [("name",.none),("encoding",.str "latin-1" 0),("initialized",.bool false)])).o y=some co:=fun {y co} e=>HP.put_ne (fun q=>by rw [q,hsdd] at e;cases e) (HP.put_ne (fun q=>by rw [q,hsx] at e;cases e) (HP.put_ne (fun q=>by rw [q,hsdd] at e;cases e) e))
 have hE:E83 (((H₅.put sdd (.ns [])).put sx (.inst 259 sdd)).put sdd (.ns [("name",.none),("encoding",.str "latin-1" 0),("initialized",.bool false)])) sx sdd .none false:=⟨HP.put_ne hne HP.put_same,HP.put_same⟩
 have hl6:LamOk 571 lamPos lamQual (((H₅.put sdd (.ns [])).put sx (.inst 259 sdd)).put sdd (.ns [("name",.none),("encoding",.str "latin-1" 0),("initialized",.bool false)])):=by
   rcases hl4.sub hs5 with h | ⟨c',oc,vs,t,h1,h2,h3,h4,h5⟩
   · exact .inl (e1 h)
   · exact .inr ⟨c',oc,vs,t,e1 h1,e1 h2,h3,h4,h5⟩
 have hoc6:=e1 hoc
 have hc6:=e1 (hs5.2 _ _ hc4)
 generalize ((H₅.put sdd (.ns [])).put sx (.inst 259 sdd)).put sdd (.ns [("name",.none),("encoding",.str "latin-1" 0),("initialized",.bool false)])=H₆ at hE hl6 hoc6 hc6 ⊢
 clear e1 hs5 hl4 hc4 hoc hsx hsdd hne
 repeat walk_at "m:s"
 refine wn0 ?_
 refine sN_cons (xN_expr O (eN_meth ?_))
 refine e_loc O (lk_mem rfl) ?_
 refine m_inst (f:=201) hE.1 hE.2 rfl (by rw [hL.K];rfl) ?_
 refine wl_cons (vE_in O ?_)
 repeat walk_at "m:s"
 refine ⟨keepsT,f_bytes r.hh hoc6 hos (by rw [hol,sizeLine_eq];decide) (wl_nil (wk_nil ?_))⟩
 repeat walk_at "m:s"
 have hbs:(byteArr os).size=11:=by rw [byteArr_size,hol]
 have hb0:(((byteArr os).toList.getD 0 0).toNat:Int)=os.getD 0 0:=by
   rcases os with _ | ⟨z,r⟩
   · exact absurd hol (by decide)
   · have h65:65≤z:=h65
     have h90:z≤90:=h90
     show ((z.toNat.toUInt8).toNat:Int)=z
     rw [show z.toNat.toUInt8.toNat=z.toNat % 256 from rfl];exact mod256 (Int.le_trans (by decide) h65) (Int.lt_of_le_of_lt h90 (by decide))
 refine ⟨keepsK (by rw [hL.K];rfl),calN_of fun sv=>set_byte_name_c hL (n:=n+7) r hE hbs (by rw [hb0];lia) (by rw [hb0];lia) fun ba hba=>?_⟩
 refine seqN_next (WN.of ?_)
 have hbne:ba≠sdd:=fun q=>by rw [q,hE.2] at hba;cases hba
 have e2:∀ {y:Addr}{co:CO},H₆.o y=some co→y≠sdd→((H₆.put ba (.bar (byteArr os))).put sdd (.ns [("name",.ref ba),("encoding",.str "latin-1" 0),("initialized",.bool true)])).o y=some co:=fun {y co} e h=>HP.put_ne h (HP.put_fresh hba e)
 have hns:∀ {y:Addr}{co:CO},H₆.o y=some co→(∀ l,co≠.ns l)→y≠sdd:=fun {y co} e h q=>by rw [q,hE.2] at e;cases e;exact h _ rfl
 refine W.post (law_tail hL (P:=G.w.params) O r (ba:=ba) (os:=os) (sv:=sd) (l:=l3) ⟨e2 hE.1 (hns hE.1 fun _ q=>by cases q),HP.put_same⟩ (HP.put_ne hbne HP.put_same) (e2 hoc6 (hns hoc6 fun _ q=>by cases q)) hos hol (e2 hc6 (hns hc6 fun _ q=>by cases q)) ?_ hls3 hz3 h7 hn7) fun fl m H q=>?_
 · rcases hl6 with h | ⟨c',oc,vs,t,h1,h2,h3,h4,h5⟩
   · exact .inl (e2 h (hns h fun _ q=>by cases q))
   · exact .inr ⟨c',oc,vs,t,e2 h1 (hns h1 fun _ q=>by cases q),e2 h2 (hns h2 fun _ q=>by cases q),h3,h4,h5⟩
 · refine xe02 q fun q ql=>?_
   have q:erF fl=.ret (.bool true):=q
   refine ⟨?_,ql⟩
   rw [q]
end
end
section
noncomputable def hide (h:Heap) (a:Addr):Heap:={ h with objs:=h.objs.setIfInBounds a { cls:=.none,data:=.freed } }
theorem hide_ne {h:Heap}{a b:Addr}(q:b≠a):(hide h a).get? b=h.get? b:=by
 unfold hide Heap.get?
 dsimp only
 rw [Array.getElem?_setIfInBounds_ne (Ne.symm q)]
theorem hide_self {h:Heap}{a:Addr}:(hide h a).get? a=none:=by
 unfold hide Heap.get?
 dsimp only
 rw [Array.getElem?_setIfInBounds_self]
 by_cases h1:a<h.objs.size
 · rw [if_pos h1]
 · rw [if_neg h1]
theorem hide_get {h:Heap}{a b:Addr}{o:Obj}(e:(hide h a).get? b=some o):h.get? b=some o∧b≠a:=by
 have q:b≠a:=fun q=>by rw [q,hide_self] at e;cases e
 exact ⟨(hide_ne q).symm.trans e,q⟩
theorem hide_back {h:Heap}{a b:Addr}{o:Obj}(e:h.get? b=some o) (q:b≠a):(hide h a).get? b=some o:=(hide_ne q).trans e
theorem hide_ns {h:Heap}{a b:Addr}{m:Str→Option Value}(n:h.Ns b m) (q:b≠a):(hide h a).Ns b m:=by
 obtain ⟨o,es,ep,h1,h2⟩:=n
 exact ⟨o,es,ep,hide_back h1 q,h2⟩
theorem trim:∀ (n:Nat) (h:Heap),h.objs.size=n→∃ h':Heap,(∀ b,h'.get? b=h.get? b)∧(h'.objs.size=0∨∃ o,h'.get? (h'.objs.size - 1)=some o)
 | 0,h,e=>⟨h,fun _=>rfl,.inl e⟩
 | n+1,h,e=>by
   cases q:h.get? n with
   | some o=>exact ⟨h,fun _=>rfl,.inr ⟨o,by rw [e];exact q⟩⟩
   | none=>
     obtain ⟨h',h1,h2⟩:=trim n { h with objs:=h.objs.pop } (by show h.objs.pop.size=n;rw [Array.size_pop,e];rfl)
     refine ⟨h',fun b=>(h1 b).trans ?_,h2⟩
     rcases Nat.lt_trichotomy b n with hb | hb | hb
     · unfold Heap.get?
       dsimp only
       rw [Array.getElem?_pop,if_pos (by rw [e];exact hb)]
     · subst hb
       rw [q]
       unfold Heap.get?
       dsimp only
       rw [Array.getElem?_eq_none (by rw [Array.size_pop,e];exact Nat.le_refl _)]
     · unfold Heap.get?
       dsimp only
       rw [Array.getElem?_eq_none (by rw [Array.size_pop,e];exact Nat.le_of_lt (by assumption)),Array.getElem?_eq_none (by rw [e];exact hb)]
theorem no571 (P:Params):(hd.heap_39 P).lookup 571=none:=by rfl
theorem code571 (P:Params):∃ o vs,(hd.heap_39 P).lookup 575=some o∧o.cls=.type "code"∧o.data=.fields vs∧vs[11]? = some (.ref 571):=⟨_,_,rfl,rfl,rfl,rfl⟩
noncomputable def gokB (es:Array DictEntry):Bool:=gt1.all fun x=>(match nsFind es x.1 with
 | some v=>v==x.2
 | none=>bootBuiltins x.1==some x.2 && !(x.1==("__name__" : Str)))&&er x.2==x.2
theorem main_ns (P:Params):∃ o es ep,(hd.heap_39 P).lookup mainGlobals=some o∧o.data=.dict es ep∧gokB es=true∧nsFind es "law" = some (.ref 687):=⟨_,_,_,rfl,rfl,by kernel_rfl,by kernel_rfl⟩
theorem er_int_list {vs:List Value}{ns:List Int}(h:IntsAre vs ns):vs.map er=intL ns:=by
 induction h with
 | nil=>rfl
 | cons h1 h2=>simp_all [intL,er]
noncomputable def H571:HP:=⟨fun a=>if a=571 then some (.obj (tabObj #[])) else Option.none,#[]⟩
theorem H571_yes:H571.o 571=some (.obj (tabObj #[])):=by unfold H571;dsimp only;rw [if_pos rfl]
theorem H571_no {a:Addr}(q:a≠571):H571.o a=Option.none:=by unfold H571;dsimp only;rw [if_neg q]
theorem aux1 {b c:Nat}(h:571<b) (q:c - 1=571):c≤b:=Nat.le_trans (Nat.le_add_of_sub_le (Nat.le_of_eq q)) h
theorem aux2 {b c:Nat}(h:c - 1<b) (q:571<c):c≤b:=Nat.le_trans (Nat.le_add_of_sub_le (b:=1) (Nat.le_refl (c - 1))) h
theorem law_holds:PySem.Challenge.rw_jj0021_01.Holds:=hd (by
 intro w s₀ s₁ mg mb G Y fa o pm cd doc dV kV ho hdd hcd hD hmg hg args vals as hpre hlay hrd hwl hlo
 have T:=G.T
 have KIn:=km_in_of Y
 have h571:=km_tabs_of Y 571 (.head _)
 clear hcd hD hdd ho Y
 wrow_args hpre hlay hrd hwl hlo
 rename_i ns hs hlay0 hL1 hr1 hl2 as4 as3 la vs as0 hLs hra hw1 hr0 hI hrW hlen htr
 have hmg:mg ("law" : Str)=some (.ref fa):=hmg
 obtain ⟨oM,es,ep,hk,hdat,hgok,hlaw⟩:=main_ns w.params
 have Tg:=T.g
 obtain ⟨oM',es',ep',n1,n2,n3,n4⟩:=Tg
 have n5:=KIn _ _ hk
 rw [n1] at n5
 cases n5
 rw [hdat] at n2
 cases n2
 have hfa:fa=687:=by
   rw [n4 ("law" : Str),hmg] at hlaw
   cases hlaw;rfl
 subst hfa
 have hlow:sysModules<571:=by decide
 obtain ⟨ht,t1,t2⟩:=trim _ s₁.heap rfl
 have t571:ht.get? 571=some (tabObj #[]):=(t1 571).trans h571
 have hsz:571<ht.objs.size:=Heap.lt_size t571
 have hTR:TopRead hd.view_39 (looseW hd.view_39 ["PyFATException","errno","EightDotThree","FATDirectoryEntry","FATLongDirectoryEntry"]) mg mb (hide ht 571):=by
   have k:∀ b o,s₁.heap.get? b=some o→ht.get? b=some o:=fun b o e=>(t1 b).trans e
   obtain ⟨mc,c1,c2⟩:=T.nolimit
   exact ⟨hide_ns (T.g.keeps k) (by decide),hide_ns (T.b.keeps k) (by decide),⟨mc,hide_ns (c1.keeps k) (by decide),c2⟩,T.builtins,T.free⟩
 have hX:(hd.heap_39 w.params).In (hide ht 571):=fun a o e=>hide_back ((t1 a).trans (KIn a o e)) (fun q=>by rw [q,no571] at e;cases e)
 obtain ⟨bm,ob,b1,b2,b3,b4,b5,b6⟩:=T.bmain
 have hbm:bm≠571:=fun q=>by rw [q,h571] at b3;cases b3;cases b4
 have hgk:∀ x∈gt1,(mg x.1=some x.2∨(mg x.1=none∧mb x.1=some x.2))∧er x.2=x.2:=fun x hx=>by
   have h:=List.all_eq_true.mp hgok x hx
   rw [Bool.and_eq_true,beq_iff_eq,n4 x.1] at h
   refine ⟨?_,h.2⟩
   have h:=h.1
   split at h
   · rename_i v e
     exact .inl (by rw [e,beq_iff_eq.mp h])
   · rename_i e
     rw [Bool.and_eq_true,beq_iff_eq,Bool.not_eq_true',beq_eq_false_iff_ne] at h
     exact .inr ⟨e,by rw [T.builtins x.1 h.2];exact h.1⟩
 have hlw:sysModules<(hide ht 571).objs.size:=by show sysModules<(ht.objs.setIfInBounds _ _).size;rw [Array.size_setIfInBounds];exact Nat.lt_trans hlow hsz
 let G':Glb:=⟨PySem.Challenge.pw_jj0021_01,w,hd.heap_39 w.params,hide ht 571,s₁.os,s₁.drawn,hd.view_39,looseW hd.view_39 ["PyFATException","errno","EightDotThree","FATDirectoryEntry","FATLongDirectoryEntry"],mg,mb,hX,hTR,hlw,⟨bm,ob,b1,b2,hide_back ((t1 bm).trans b3) hbm,b4,b5,b6⟩,gt1,hgk⟩
 have hL:L1 G':=⟨rfl,rfl,rfl⟩
 have hH:=H571_yes
 have R:RelC G' [] [] [] H571 s₁:={
   base:=fun b o e=>(t1 b).symm.trans (hide_get e).1
   frames:=trivial
   fsv:=fun env he=>nomatch he
   ns:=fun p hp=>nomatch hp
   nd:=.nil
   own:=fun a co e=>by
     have q:a=571:=Classical.byContradiction fun q=>by rw [H571_no q] at e;cases e
     subst q
     rw [hH] at e;cases e
     exact ⟨⟨hide_self,hlow⟩,(fun h=>nomatch h),_,h571,rfl,rfl⟩
   prot:=fun p hp=>nomatch hp
   gens:=hg
   bare:=.empty
   os:=rfl }
 obtain ⟨oL,l1,l2,l3,l4⟩:=hLs
 have hla:la≠571:=fun q=>by rw [q,h571] at l1;cases l1;cases l2
 have hB:BList G' la ns:=⟨vs.toArray,⟨oL,hide_back ((t1 la).trans l1) hla,l2,l3,l4⟩,er_int_list hI⟩
 have hbig:∀ s,RelC G' [] [] [] H571 s→G'.base.objs.size≤s.heap.objs.size:=fun s R=>by
   show (hide ht 571).objs.size≤_
   have hs:(hide ht 571).objs.size=ht.objs.size:=by unfold hide;rw [Array.size_setIfInBounds]
   rw [hs]
   rcases t2 with h | ⟨o,h⟩
   · rw [h];exact Nat.zero_le _
   · by_cases q:ht.objs.size - 1=571
     · obtain ⟨_,_,o2,e2,_⟩:=R.own 571 _ hH
       have h9:571<s.heap.objs.size:=Heap.lt_size e2
       exact aux1 h9 q
     · have h9:ht.objs.size - 1<s.heap.objs.size:=Heap.lt_size (R.base _ _ (hide_back h q))
       exact aux2 h9 hsz
 have key:=law_c hL (n:=0) (pr:=[]) (H:=H571) (stk:=[]) (sv:=[]) (A:=callerA) ⟨rfl,by decide,by decide⟩ rfl hbig hB (Int.ofNat_le.mp (Int.not_lt.mp hlen)) (.inl hH) (.ref 687) s₁ [.ref la] [] rfl R rfl rfl
 refine wpN_call (codeN_mono key fun r s' h=>?_)
 rcases r with e | _ | _ | _ | v
 · obtain ⟨_,_,_,_,h⟩:=h;exact h.elim
 · exact h.elim
 · exact h.elim
 · exact h.elim
 · obtain ⟨H₁,R₁,hv,hlm⟩:=h
   obtain rfl:=er_bool' hv
   have h9:∃ ps,s'.heap.get? 571=some (tabObj ps):=by
     rcases hlm with h | ⟨_,_,_,_,h,_⟩
     · obtain ⟨_,_,o9,e9,q9,_⟩:=R₁.own _ _ h;exact ⟨_,by rw [e9,q9]⟩
     · obtain ⟨_,_,o9,e9,q9,_⟩:=R₁.own _ _ h;exact ⟨_,by rw [e9,q9]⟩
   obtain ⟨ps,h9⟩:=h9
   have hkeep:∀ b o,b≠571→s₁.heap.get? b=some o→s'.heap.get? b=some o:=fun b o q e=>R₁.base _ _ (hide_back ((t1 b).trans e) q)
   obtain ⟨oc,cvs,c1,c2,c3,c4⟩:=code571 w.params
   refine ⟨.inl ⟨.bool true,.bool true,[],rfl,fun _=>rfl,ReadsW.bool _,by kernel_rfl,fun _=>⟨.nil,fun a ha=>nomatch ha⟩⟩,⟨fun b o e=>?_,fun b o e=>?_⟩,R₁.os,R₁.gens▸R₁.bare⟩
   · by_cases q:b=571
     · subst q
       rw [h571] at e;cases e
       exact .inr (.inl ⟨⟨575,oc,cvs,KIn _ _ c1,c2,c3,c4⟩,rfl,#[],ps,rfl,by rw [Array.empty_append];exact h9⟩)
     · exact .inl (hkeep b o q e)
   · by_cases q:b=571
     · subst q;exact ⟨_,h9⟩
     · exact ⟨_,hkeep b o q e⟩)
end
end Mine
theorem PySem.Challenge.cw_jj0021_01_holds : PySem.Challenge.rw_jj0021_01.Holds :=
  Mine.law_holds
